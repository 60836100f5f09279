import PyProof.Rows.All
import PySem.Sre
import PyProof.FactsAll.str_8
import PyProof.FactsAll.list_1
import PyProof.StrLawsReplace
import KE.KFromBytes
import Wide.All
import OpenK.AllK
import Wide.FinOn
import PySem.Challenge.RW_ij0201_02
set_option Elab.async false
set_option linter.all false
set_option bootstrap.genMatcherCode false
set_option maxRecDepth 100000
section
open PySem PySem.W PyProof.Rows
set_option tactic.hygienic false
namespace Mine
set_option genInjectivity false in
inductive PV where
  | none
  | bool (b:Bool)
  | int (i:Int)
  | str (x:Str)
  | obj (a:Addr)
  | list (xs:List PV)
  | tuple (xs:List PV)
  | range (a b c:Int)
  deriving Inhabited
noncomputable abbrev listObj (vs:List Value) (n:Nat):Obj:={ cls:=.type "list",data:=.seq vs.toArray n }
noncomputable abbrev tupObj (vs:List Value) (n:Nat):Obj:={ cls:=.type "tuple",data:=.seq vs.toArray n }
noncomputable abbrev rangeObj (a b c:Int) (t u v:Tok):Obj:={ cls:=.type "range",data:=.fields #[.int a t,.int b u,.int c v] }
noncomputable abbrev tabO (ps:Array Value):Obj:={ cls:=.none,data:=.fields ps }
noncomputable abbrev appObj (a:Addr):Obj:={ cls:=.type "builtin_function_or_method",data:=.fields #[.builtin "list.append",.ref a] }
mutual
noncomputable def VR (h:Heap) (Av:Addr→Prop):Value→PV→Prop
  | v,.none=>v=.none
  | v,.bool b=>v=.bool b
  | v,.int i=>∃t,v=.int i t
  | v,.str x=>∃t,v=.str x t
  | v,.obj a=>v=.ref a∧¬ Av a∧a < h.objs.size
  | v,.list xs=>∃a vs n,v=.ref a∧h.get? a=some (listObj vs n)∧¬ Av a∧VRs h Av vs xs
  | v,.tuple xs=>∃a vs n,v=.ref a∧h.get? a=some (tupObj vs n)∧¬ Av a∧VRs h Av vs xs
  | v,.range p q r=>∃a t1 t2 t3,v=.ref a∧h.get? a=some (rangeObj p q r t1 t2 t3)∧¬ Av a
noncomputable def VRs (h:Heap) (Av:Addr→Prop):List Value→List PV→Prop
  | [],[]=>True
  | v::vs,x::xs=>VR h Av v x∧VRs h Av vs xs
  | _,_=>False
end
theorem VRs.length {h:Heap} {Av:Addr→Prop}:∀{vs:List Value} {xs:List PV},VRs h Av vs xs→vs.length=xs.length
  | [],[],_=>rfl
  | _::_,_::_,h=>by simp only [List.length_cons];unfold VRs at h;rw [VRs.length h.2]
  | [],_::_,h=>by unfold VRs at h;exact h.elim
  | _::_,[],h=>by unfold VRs at h;exact h.elim
section mono
variable {h h':Heap} {Av Av':Addr→Prop}
mutual
theorem VR.mono (hk:∀a o,h.get? a=some o→¬ Av a→h'.get? a=some o) (ha:∀a,a < h.objs.size→¬ Av a→¬ Av' a) (hs:h.objs.size≤h'.objs.size):
    ∀{p:PV} {v:Value},VR h Av v p→VR h' Av' v p
  | .none,_,x=>by unfold VR at x ⊢;exact x
  | .bool _,_,x=>by unfold VR at x ⊢;exact x
  | .int _,_,x=>by unfold VR at x ⊢;exact x
  | .str _,_,x=>by unfold VR at x ⊢;exact x
  | .obj _,_,x=>by unfold VR at x ⊢;exact ⟨x.1,ha _ x.2.2 x.2.1,Nat.lt_of_lt_of_le x.2.2 hs⟩
  | .list xs,_,x=>by
    unfold VR at x ⊢
    obtain ⟨a,vs,n,e,g,na,r⟩:=x
    exact ⟨a,vs,n,e,hk _ _ g na,ha _ (Heap.lt_size g) na,VRs.mono hk ha hs r⟩
  | .tuple xs,_,x=>by
    unfold VR at x ⊢
    obtain ⟨a,vs,n,e,g,na,r⟩:=x
    exact ⟨a,vs,n,e,hk _ _ g na,ha _ (Heap.lt_size g) na,VRs.mono hk ha hs r⟩
  | .range _ _ _,_,x=>by
    unfold VR at x ⊢
    obtain ⟨a,t1,t2,t3,e,g,na⟩:=x
    exact ⟨a,t1,t2,t3,e,hk _ _ g na,ha _ (Heap.lt_size g) na⟩
theorem VRs.mono (hk:∀a o,h.get? a=some o→¬ Av a→h'.get? a=some o) (ha:∀a,a < h.objs.size→¬ Av a→¬ Av' a) (hs:h.objs.size≤h'.objs.size):
    ∀{ps:List PV} {vs:List Value},VRs h Av vs ps→VRs h' Av' vs ps
  | [],[],_=>by unfold VRs;trivial
  | [],_::_,x=>by unfold VRs at x;exact x.elim
  | _::_,[],x=>by unfold VRs at x;exact x.elim
  | p::ps,v::vs,x=>by
    unfold VRs at x ⊢
    exact ⟨VR.mono hk ha hs x.1,VRs.mono hk ha hs x.2⟩
end
end mono
structure Step (Av Mu:Addr→Prop) (s:Shared) (Av' Mu':Addr→Prop) (s':Shared):Prop where
  keep:∀a o,s.heap.get? a=some o→¬ Mu a→s'.heap.get? a=some o
  mu:∀a,Mu' a→Mu a∨s.heap.objs.size≤a
  av:∀a,Av' a→Av a∨s.heap.objs.size≤a
  av':∀a,Av a→¬ Mu a→Av' a
  size:s.heap.objs.size≤s'.heap.objs.size
  os:s'.os=s.os
  gens:AllBare s.gens→AllBare s'.gens
theorem Step.refl {Av Mu:Addr→Prop} {s:Shared}:Step Av Mu s Av Mu s:=
  ⟨fun _ _ e _=>e,fun _ h=>.inl h,fun _ h=>.inl h,fun _ h _=>h,Nat.le_refl _,rfl,id⟩
theorem Step.trans {Av Mu Av' Mu' Av'' Mu'':Addr→Prop} {s s' s'':Shared}
    (x:Step Av Mu s Av' Mu' s') (y:Step Av' Mu' s' Av'' Mu'' s'') (hm:∀a,Av a→a < s.heap.objs.size):Step Av Mu s Av'' Mu'' s'' where
  keep a o e n:=y.keep a o (x.keep a o e n) fun m=>(x.mu a m).elim n fun q=>absurd (Heap.lt_size e) (Nat.not_lt.mpr q)
  mu a m:=(y.mu a m).elim (x.mu a) fun q=>.inr (Nat.le_trans x.size q)
  av a m:=(y.av a m).elim (x.av a) fun q=>.inr (Nat.le_trans x.size q)
  av' a m n:=y.av' a (x.av' a m n) fun q=>(x.mu a q).elim n fun z=>absurd (hm a m) (Nat.not_lt.mpr z)
  size:=Nat.le_trans x.size y.size
  os:=y.os.trans x.os
  gens h:=y.gens (x.gens h)
theorem VR.step {Av Mu Av' Mu':Addr→Prop} {s s':Shared} (S:Step Av Mu s Av' Mu' s') (ma:∀a,Mu a→Av a) {v:Value} {p:PV} (x:VR s.heap Av v p):VR s'.heap Av' v p:=
  x.mono (fun a o e n=>S.keep a o e fun m=>n (ma a m)) (fun a l n m=>(S.av a m).elim n fun z=>absurd l (Nat.not_lt.mpr z)) S.size
theorem VRs.step {Av Mu Av' Mu':Addr→Prop} {s s':Shared} (S:Step Av Mu s Av' Mu' s') (ma:∀a,Mu a→Av a) {v:List Value} {p:List PV} (x:VRs s.heap Av v p):VRs s'.heap Av' v p:=
  x.mono (fun a o e n=>S.keep a o e fun m=>n (ma a m)) (fun a l n m=>(S.av a m).elim n fun z=>absurd l (Nat.not_lt.mpr z)) S.size
set_option genInjectivity false in
structure Cx where
  prog:Program
  w:World
  B:Heap
  mg:Str→Option Value
  mb:Str→Option Value
  g:B.Ns mainGlobals mg
  b:B.Ns builtinsNs mb
  bb:∀x:Str,x≠"__name__"→mb x=bootBuiltins x
  nolimit:B.NoLimit
  nb:NoneBooked B
  Tb:Addr→Prop
  /-- the name of the code at a place of such a table -/
  tq:Addr→Nat→Nat→Str
set_option genInjectivity false in
inductive Bind where
  | none
  | froz (p:PV)
  | own (xs:List PV)
  | meth (j:Nat)
  /-- the variable holds the object at a -/
  | ref (a:Addr)
  deriving Inhabited
noncomputable abbrev St:=List Bind
set_option genInjectivity false in
structure FI where
  scope:Scope
  names:List Str
  /-- variables of a frame around,that this one but reads -/
  ro:List Str
  cd:Value
  ql:Str
noncomputable def ValAt (h:Heap) (env:Env) (x:Str) (v:Value):Prop:=
  match env.kindOf x with
  | some .local=>∃m,h.Ns env.locals m∧m x=some v
  | some .cell=>∃c,env.cells.lookup x=some c∧h.IsCell c (some v)
  | some .free=>∃c,env.cells.lookup x=some c∧h.IsCell c (some v)
  | _=>False
noncomputable def SlotOK (h:Heap) (Mu:Addr→Prop) (env:Env) (x:Str):Prop:=
  match env.kindOf x with
  | some .local=>True
  | some .cell=>∃c v,env.cells.lookup x=some c∧h.IsCell c v∧Mu c
  | some .free=>True
  | _=>False
noncomputable def BindOK (h:Heap) (Av Mu:Addr→Prop) (env:Env) (ns:List Str) (st:St) (x:Str):Bind→Prop
  | .none=>True
  | .froz p=>∃v,ValAt h env x v∧VR h Av v p
  | .own xs=>∃a vs n,ValAt h env x (.ref a)∧h.get? a=some (listObj vs n)∧Mu a∧VRs h Av vs xs
  | .meth j=>∃m a,ValAt h env x (.ref m)∧h.get? m=some (appObj a)∧¬ Av m∧∀y xs,ns[j]? =some y→st[j]? =some (.own xs)→ValAt h env y (.ref a)
  | .ref a=>ValAt h env x (.ref a)
noncomputable def TabAt (X:Cx) (h:Heap) (Av:Addr→Prop) (a:Addr):Prop:=∃ps:Array Value,h.get? a=some (tabO ps)∧TriplesOk ps.toList∧
  ∀(pos:Pos) (cv:Value),codeAmong pos ps.toList=some cv→∃c o vs t,cv=.ref c∧h.get? c=some o∧¬ Av c∧o.data=.fields vs∧vs[1]? =some (.str (X.tq a pos.line pos.col) t)
theorem TabAt.mono {X:Cx} {h h':Heap} {Av Av':Addr→Prop} {a:Addr} (x:TabAt X h Av a) (ht:∀o,h.get? a=some o→h'.get? a=some o) (hk:∀b o,h.get? b=some o→¬ Av b→(∃vs,o.data=.fields vs)→h'.get? b=some o∧¬ Av' b):TabAt X h' Av' a:=by
  obtain ⟨ps,e,t3,w⟩:=x
  refine ⟨ps,ht _ e,t3,fun pos cv hc=>?_⟩
  obtain ⟨c,o,vs,t,e1,e2,e3,e4,e5⟩:=w pos cv hc
  obtain ⟨p,q⟩:=hk c o e2 e3 ⟨vs,e4⟩
  exact ⟨c,o,vs,t,e1,p,q,e4,e5⟩
structure R (X:Cx) (F:FI) (Av Mu:Addr→Prop) (env:Env) (st:St) (s:Shared):Prop where
  sc:env.scope=F.scope
  fn:F.scope.kind=.function
  gl:env.globals=mainGlobals
  bl:env.builtins=builtinsNs
  cd:env.code=F.cd
  ql:env.qual=F.ql
  base:∀b o,X.B.get? b=some o→s.heap.get? b=some o∧¬ Av b
  tabs:∀a,X.Tb a→Mu a∧TabAt X s.heap Av a
  ma:∀a,Mu a→Av a
  lt:∀a,Av a→a < s.heap.objs.size
  ns:∃m,s.heap.Ns env.locals m
  nsMu:Mu env.locals
  nd:F.names.Nodup
  len:st.length=F.names.length
  cinj:∀x y c,env.cells.lookup x=some c→env.cells.lookup y=some c→x=y
  slots:∀x,x∈F.names→x ∉ F.ro→SlotOK s.heap Mu env x
  vars:∀(i:Nat) (x:Str) (b:Bind),F.names[i]? =some x→st[i]? =some b→BindOK s.heap Av Mu env F.names st x b
  inj:∀(i j:Nat) (x y:Str) (xs ys:List PV) (a:Addr),F.names[i]? =some x→F.names[j]? =some y→st[i]? =some (.own xs)→st[j]? =some (.own ys)→
    ValAt s.heap env x (.ref a)→ValAt s.heap env y (.ref a)→i=j
section
variable {X:Cx} {F:FI} {Av Mu:Addr→Prop} {env:Env} {st:St} {s s':Shared}
theorem ValAt.unique {h:Heap} {x:Str} {v v':Value} (p:ValAt h env x v) (q:ValAt h env x v'):v=v':=by
  unfold ValAt at p q
  cases hk:env.kindOf x with
  | none=>simp only [hk] at p
  | some k=>
    cases k<;>simp only [hk] at p q<;>try (exact p.elim)
    · obtain ⟨m,hm,e⟩:=p
      obtain ⟨m',hm',e'⟩:=q
      rw [hm.agree hm' x,e'] at e
      exact (Option.some.inj e).symm
    all_goals
      (obtain ⟨c,hc,o,ho,hd⟩:=p
       obtain ⟨c',hc',o',ho',hd'⟩:=q
       rw [hc] at hc'
       cases hc'
       rw [ho] at ho'
       cases ho'
       rw [hd] at hd'
       cases hd'
       rfl)
theorem ValAt.keep {h h':Heap} {x:Str} {v:Value} (p:ValAt h env x v) (hk:∀a o,h.get? a=some o→(a=env.locals∨∃y,env.cells.lookup y=some a)→h'.get? a=some o):ValAt h' env x v:=by
  unfold ValAt at p ⊢
  split at p
  · obtain ⟨m,⟨o,es,ep,ho,r⟩,e⟩:=p
    exact ⟨m,⟨o,es,ep,hk _ _ ho (.inl rfl),r⟩,e⟩
  · obtain ⟨c,hc,o,ho,hd⟩:=p
    exact ⟨c,hc,o,hk _ _ ho (.inr ⟨_,hc⟩),hd⟩
  · obtain ⟨c,hc,o,ho,hd⟩:=p
    exact ⟨c,hc,o,hk _ _ ho (.inr ⟨_,hc⟩),hd⟩
  · exact p.elim
theorem R.keep2 (r:R X F Av Mu env st s) {Av' Mu':Addr→Prop} (hk2:∀a o,s.heap.get? a=some o→(¬ Av a∨(Mu a∧∀vs,o.data≠.fields vs)∨∃v,o.data=.cell v)→s'.heap.get? a=some o) (ht:∀a,X.Tb a→TabAt X s'.heap Av' a) (hs:s.heap.objs.size≤s'.heap.objs.size)
    (h1:∀a,Av a→Av' a) (h2:∀a,Av' a→Av a∨(s.heap.objs.size≤a∧a < s'.heap.objs.size)) (h3:∀a,Mu a→Mu' a) (h4:∀a,Mu' a→Av' a):R X F Av' Mu' env st s':=by
  have nt:∀a,¬ Av a→¬ X.Tb a:=fun a n t=>n (r.ma a (r.tabs a t).1)
  have hv:∀{v p},VR s.heap Av v p→VR s'.heap Av' v p:=fun q=>q.mono (fun a o e n=>hk2 a o e (.inl n)) (fun a l n m=>(h2 a m).elim n fun z=>absurd l (Nat.not_lt.mpr z.1)) hs
  have hvs:∀{v p},VRs s.heap Av v p→VRs s'.heap Av' v p:=fun q=>q.mono (fun a o e n=>hk2 a o e (.inl n)) (fun a l n m=>(h2 a m).elim n fun z=>absurd l (Nat.not_lt.mpr z.1)) hs
  have tb:∀{a o},X.Tb a→s.heap.get? a=some o→∃ps,o=tabO ps:=fun t e=>by
    obtain ⟨ps,q,_⟩:=(r.tabs _ t).2
    exact ⟨ps,Option.some.inj (e.symm.trans q)⟩
  have kN:∀{m},s.heap.Ns env.locals m→s'.heap.Ns env.locals m:=fun {m} q=>by
    obtain ⟨o,es,ep,ho,hd,z⟩:=q
    exact ⟨o,es,ep,hk2 _ _ ho (.inr (.inl ⟨r.nsMu,fun vs q=>by rw [q] at hd;cases hd⟩)),hd,z⟩
  have kC:∀{c v},s.heap.IsCell c v→s'.heap.IsCell c v:=fun {c v} q=>by
    obtain ⟨o,ho,hd⟩:=q
    exact ⟨o,hk2 _ _ ho (.inr (.inr ⟨_,hd⟩)),hd⟩
  have kV:∀{x v},ValAt s.heap env x v→ValAt s'.heap env x v:=fun {x v} q=>by
    unfold ValAt at q ⊢
    split at q
    · obtain ⟨m,a,b⟩:=q;exact ⟨m,kN a,b⟩
    · obtain ⟨c,a,b⟩:=q;exact ⟨c,a,kC b⟩
    · obtain ⟨c,a,b⟩:=q;exact ⟨c,a,kC b⟩
    · exact q.elim
  have kV':∀{x v v'},ValAt s.heap env x v→ValAt s'.heap env x v'→v'=v:=fun p q=>(ValAt.unique (kV p) q).symm
  refine ⟨r.sc,r.fn,r.gl,r.bl,r.cd,r.ql,fun b o e=>?_,fun a t=>⟨h3 a (r.tabs a t).1,ht a t⟩,h4,fun a m=>?_,?_,h3 _ r.nsMu,r.nd,r.len,r.cinj,fun x hx hro=>?_,fun i x b hi hb=>?_,fun i j x y xs ys a hi hj hx hy vx vy=>?_⟩
  · obtain ⟨p,q⟩:=r.base b o e
    exact ⟨hk2 b o p (.inl q),fun m=>(h2 b m).elim q fun z=>absurd (Heap.lt_size p) (Nat.not_lt.mpr z.1)⟩
  · exact (h2 a m).elim (fun q=>Nat.lt_of_lt_of_le (r.lt a q) hs) fun z=>z.2
  · obtain ⟨m,q⟩:=r.ns
    exact ⟨m,kN q⟩
  · have q:=r.slots x hx hro
    unfold SlotOK at q ⊢
    split at q
    · trivial
    · obtain ⟨c,v,a,b,m⟩:=q;exact ⟨c,v,a,kC b,h3 _ m⟩
    · trivial
    · exact q.elim
  · have q:=r.vars i x b hi hb
    cases b with
    | none=>trivial
    | froz p=>obtain ⟨v,a,b⟩:=q;exact ⟨v,kV a,hv b⟩
    | ref a=>exact kV q
    | own xs=>obtain ⟨a,vs,n,p,e,m,z⟩:=q;exact ⟨a,vs,n,kV p,hk2 _ _ e (.inr (.inl ⟨m,fun ps q=>by cases q⟩)),h3 _ m,hvs z⟩
    | meth j=>
      obtain ⟨m,a,p,e,n,z⟩:=q
      exact ⟨m,a,kV p,hk2 _ _ e (.inl n),fun q=>(h2 _ q).elim n fun z=>absurd (Heap.lt_size e) (Nat.not_lt.mpr z.1),fun y xs hy hs=>kV (z y xs hy hs)⟩
  · obtain ⟨a1,_,_,p1,_⟩:=r.vars i x _ hi hx
    obtain ⟨a2,_,_,p2,_⟩:=r.vars j y _ hj hy
    have e1:Value.ref a=.ref a1:=kV' p1 vx
    have e2:Value.ref a=.ref a2:=kV' p2 vy
    cases e1
    cases e2
    exact r.inj i j x y xs ys _ hi hj hx hy p1 p2
theorem R.keep' (r:R X F Av Mu env st s) {Av' Mu':Addr→Prop} (hk:∀a o,s.heap.get? a=some o→¬ X.Tb a→s'.heap.get? a=some o) (ht:∀a,X.Tb a→TabAt X s'.heap Av' a) (hs:s.heap.objs.size≤s'.heap.objs.size)
    (h1:∀a,Av a→Av' a) (h2:∀a,Av' a→Av a∨(s.heap.objs.size≤a∧a < s'.heap.objs.size)) (h3:∀a,Mu a→Mu' a) (h4:∀a,Mu' a→Av' a):R X F Av' Mu' env st s':=
  r.keep2 (fun a o e q=>hk a o e fun t=>by
    obtain ⟨m,ps,z,_⟩:=r.tabs a t
    rw [e] at z;cases z
    rcases q with q | q | ⟨v,q⟩
    · exact q (r.ma a m)
    · exact q.2 _ rfl
    · cases q) ht hs h1 h2 h3 h4
theorem R.keepI (r:R X F Av Mu env st s) {I:Addr} (hI:Av I) (hm:¬ Mu I) (ho:∀o,s.heap.get? I=some o→∀v,o.data≠.cell v) (hk:∀a o,a≠I→s.heap.get? a=some o→s'.heap.get? a=some o) (hs:s.heap.objs.size≤s'.heap.objs.size):R X F Av Mu env st s':=
  r.keep2 (fun a o e q=>hk a o (fun z=>by
    subst z
    rcases q with q | q | ⟨v,q⟩
    · exact q hI
    · exact hm q.1
    · exact ho o e v q) e) (fun a t=>(r.tabs a t).2.mono (fun o e=>hk a _ (fun z=>hm (z ▸ (r.tabs a t).1)) e) fun b o e n _=>⟨hk b o (fun z=>n (z ▸ hI)) e,n⟩) hs (fun _ h=>h) (fun _ h=>.inl h) (fun _ h=>h) r.ma
theorem R.keep (r:R X F Av Mu env st s) (hk:∀a o,s.heap.get? a=some o→s'.heap.get? a=some o) (hs:s.heap.objs.size≤s'.heap.objs.size):R X F Av Mu env st s':=
  r.keep' (fun a o e _=>hk a o e) (fun a t=>(r.tabs a t).2.mono (fun o e=>hk _ _ e) fun b o e n _=>⟨hk _ _ e,n⟩) hs (fun _ h=>h) (fun _ h=>.inl h) (fun _ h=>h) r.ma
theorem R.toks (r:R X F Av Mu env st s) {tk:Nat} {gs:Array GenState} {dr:Drawn} {os:OsState}:R X F Av Mu env st { heap:=s.heap,gens:=gs,drawn:=dr,toks:=tk,os:=os }:=r.keep (fun _ _ e=>e) (Nat.le_refl _)
end
end Mine
end
section
open PySem PySem.W PyProof.Rows
set_option tactic.hygienic false
namespace Mine
section
variable {X:Cx} {F:FI} {Av Mu:Addr→Prop} {env:Env} {st:St} {s s':Shared}
noncomputable def FI.Wr (F:FI) (x:Str):Prop:=x ∉ F.ro∧(F.scope.names.lookup x=some .local∨F.scope.names.lookup x=some .cell)
noncomputable def NewB (h:Heap) (Av Mu:Addr→Prop) (env:Env) (ns:List Str) (st:St) (i:Nat) (v:Value):Bind→Prop
  | .none=>True
  | .froz p=>VR h Av v p
  | .own xs=>∃a vs n,v=.ref a∧h.get? a=some (listObj vs n)∧Mu a∧VRs h Av vs xs∧
      (∀(j:Nat) (y:Str) (ys:List PV),j≠i→ns[j]? =some y→st[j]? =some (.own ys)→¬ ValAt h env y (.ref a))∧(∀j:Nat,st[j]? ≠some (.meth i))
  | .meth j=>∃m a,v=.ref m∧h.get? m=some (appObj a)∧¬ Av m∧j≠i∧∀(y:Str) (xs:List PV),ns[j]? =some y→st[j]? =some (.own xs)→ValAt h env y (.ref a)
  | .ref a=>v=.ref a
theorem names_inj (hnd:F.names.Nodup) {i j:Nat} {x:Str} (hi:F.names[i]? =some x) (hj:F.names[j]? =some x):i=j:=by
  obtain ⟨h1,e1⟩:=List.getElem?_eq_some_iff.mp hi
  obtain ⟨h2,e2⟩:=List.getElem?_eq_some_iff.mp hj
  have p:=List.pairwise_iff_getElem.mp hnd
  rcases Nat.lt_trichotomy i j with l | l | l
  · exact absurd (e1.trans e2.symm) (p i j h1 h2 l)
  · exact l
  · exact absurd (e2.trans e1.symm) (p j i h2 h1 l)
theorem get_set {st:St} {i j:Nat} {b b':Bind} (h:(st.set i b)[j]? =some b'):(j=i∧b'=b)∨(j≠i∧st[j]? =some b'):=by
  rw [List.getElem?_set] at h
  by_cases e:i=j
  · subst e
    rw [if_pos rfl] at h
    split at h
    · exact .inl ⟨rfl,(Option.some.inj h).symm⟩
    · cases h
  · rw [if_neg e] at h
    exact .inr ⟨Ne.symm e,h⟩
theorem R.turn (r:R X F Av Mu env st s) {z:Addr} (hz:Mu z) (hs:Heap.SameBut z s.heap s'.heap) (hl:∀vs n,s.heap.get? z≠some (listObj vs n)) (ht:¬ X.Tb z)
    {i:Nat} {x:Str} (hi:F.names[i]? =some x) {v:Value} {b:Bind} (hb:NewB s.heap Av Mu env F.names st i v b)
    (same:∀y u,y≠x→ValAt s.heap env y u→ValAt s'.heap env y u) (new:ValAt s'.heap env x v)
    (hns:∃m,s'.heap.Ns env.locals m) (hsl:∀y,SlotOK s.heap Mu env y→SlotOK s'.heap Mu env y):R X F Av Mu env (st.set i b) s':=by
  have hk:∀a o,s.heap.get? a=some o→¬ Av a→s'.heap.get? a=some o:=fun a o e n=>(hs.2 a fun q=>n (r.ma a (q ▸ hz))).trans e
  have hsz:s.heap.objs.size≤s'.heap.objs.size:=Nat.le_of_eq hs.1.symm
  have hv:∀{v p},VR s.heap Av v p→VR s'.heap Av v p:=fun q=>q.mono hk (fun _ _ n=>n) hsz
  have hvs:∀{v p},VRs s.heap Av v p→VRs s'.heap Av v p:=fun q=>q.mono hk (fun _ _ n=>n) hsz
  have kl:∀{a vs n},s.heap.get? a=some (listObj vs n)→s'.heap.get? a=some (listObj vs n):=fun {a vs n} e=>(hs.2 a fun q=>hl vs n (q ▸ e)).trans e
  have nx:∀{j y},F.names[j]? =some y→j≠i→y≠x:=fun hj n e=>n (names_inj r.nd hj (e ▸ hi))
  refine ⟨r.sc,r.fn,r.gl,r.bl,r.cd,r.ql,fun b o e=>⟨hk _ _ (r.base b o e).1 (r.base b o e).2,(r.base b o e).2⟩,fun a t=>⟨(r.tabs a t).1,?_⟩,r.ma,fun a m=>hs.1 ▸ r.lt a m,hns,r.nsMu,r.nd,by rw [List.length_set];exact r.len,r.cinj,
    fun y hy ho=>hsl y (r.slots y hy ho),fun j y b' hj hb'=>?_,fun j k y w ys ws a hj hk' hy hw vy vw=>?_⟩
  · exact (r.tabs a t).2.mono (fun o e=>(hs.2 a fun q=>ht (q ▸ t)).trans e) fun b o e n _=>⟨hk b o e n,n⟩
  · rcases get_set hb' with ⟨e1,e2⟩ | ⟨e1,e2⟩
    · subst e1;subst e2
      have e3:y=x:=Option.some.inj (hj.symm.trans hi)
      subst e3
      cases b' with
      | none=>trivial
      | froz p=>exact ⟨v,new,hv hb⟩
      | ref a=>subst hb;exact new
      | own xs=>
        obtain ⟨a,vs,n,e,g,m,w,_⟩:=hb
        exact ⟨a,vs,n,e ▸ new,kl g,m,hvs w⟩
      | meth k=>
        obtain ⟨m,a,e,g,n,hne,w⟩:=hb
        refine ⟨m,a,e ▸ new,hk _ _ g n,n,fun y' xs hy' hs'=>?_⟩
        rcases get_set hs' with ⟨e1,_⟩ | ⟨_,e2⟩
        · exact absurd e1 hne
        · exact same _ _ (nx hy' hne) (w y' xs hy' e2)
    · have q:=r.vars j y b' hj e2
      have ny:=nx hj e1
      cases b' with
      | none=>trivial
      | froz p=>obtain ⟨u,p1,p2⟩:=q;exact ⟨u,same _ _ ny p1,hv p2⟩
      | ref a=>exact same _ _ ny q
      | own xs=>obtain ⟨a,vs,n,p1,p2,p3,p4⟩:=q;exact ⟨a,vs,n,same _ _ ny p1,kl p2,p3,hvs p4⟩
      | meth k=>
        obtain ⟨m,a,p1,p2,p3,p4⟩:=q
        refine ⟨m,a,same _ _ ny p1,hk _ _ p2 p3,p3,fun y' xs hy' hs'=>?_⟩
        rcases get_set hs' with ⟨f1,f2⟩ | ⟨f1,f2⟩
        · subst f1
          cases b with
          | own ws=>
            obtain ⟨_,_,_,_,_,_,_,_,nm⟩:=hb
            exact absurd e2 (nm j)
          | _=>cases f2
        · exact same _ _ (nx hy' f1) (p4 y' xs hy' f2)
  · -- no list is held by two
    have back:∀{j y ys a},j≠i→F.names[j]? =some y→st[j]? =some (.own ys)→ValAt s'.heap env y (.ref a)→ValAt s.heap env y (.ref a):=fun {j y ys a} n hj hy vy=>by
      obtain ⟨a',_,_,p,_⟩:=r.vars j y _ hj hy
      have:=(same _ _ (nx hj n) p).unique vy
      exact this ▸ p
    rcases get_set hy with ⟨e1,e2⟩ | ⟨e1,e2⟩<;>rcases get_set hw with ⟨f1,f2⟩ | ⟨f1,f2⟩
    · exact e1.trans f1.symm
    · subst e1
      have e3:y=x:=Option.some.inj (hj.symm.trans hi)
      subst e3
      subst e2
      obtain ⟨a',_,_,e,_,_,_,q,_⟩:=hb
      have ea:Value.ref a'=.ref a:=(e ▸ new).unique vy
      cases ea
      exact absurd (back f1 hk' f2 vw) (q k w ws f1 hk' f2)
    · subst f1
      have e3:w=x:=Option.some.inj (hk'.symm.trans hi)
      subst e3
      subst f2
      obtain ⟨a',_,_,e,_,_,_,q,_⟩:=hb
      have ea:Value.ref a'=.ref a:=(e ▸ new).unique vw
      cases ea
      exact absurd (back e1 hj e2 vy) (q j y ys e1 hj e2)
    · exact r.inj j k y w ys ws a hj hk' e2 f2 (back e1 hj e2 vy) (back f1 hk' f2 vw)
theorem Step.same {Av Mu:Addr→Prop} {s s':Shared} {z:Addr} (hz:Mu z) (hs:Heap.SameBut z s.heap s'.heap) (ho:s'.os=s.os) (hg:s'.gens=s.gens):Step Av Mu s Av Mu s':=
  ⟨fun a o e n=>(hs.2 a fun q=>n (q ▸ hz)).trans e,fun _ h=>.inl h,fun _ h=>.inl h,fun _ h _=>h,Nat.le_of_eq hs.1.symm,ho,fun h=>hg ▸ h⟩
theorem Step.grown {Av Mu:Addr→Prop} {s s':Shared} (hk:∀a o,s.heap.get? a=some o→s'.heap.get? a=some o) (hs:s.heap.objs.size≤s'.heap.objs.size) (ho:s'.os=s.os) (hg:s'.gens=s.gens):Step Av Mu s Av Mu s':=
  ⟨fun a o e _=>hk a o e,fun _ h=>.inl h,fun _ h=>.inl h,fun _ h _=>h,hs,ho,fun h=>hg ▸ h⟩
theorem wp_store {M:Model} {A:Around} {Q:Unit→Shared→Prop} {E:Value→Shared→Prop} (r:R X F Av Mu env st s) {i:Nat} {x:Str} (hi:F.names[i]? =some x) {v:Value} {b:Bind}
    (hb:NewB s.heap Av Mu env F.names st i v b) (hkind:F.Wr x)
    (k:∀s',R X F Av Mu env (st.set i b) s'→Step Av Mu s Av Mu s'→Q () s'):wpAny M A (storeName env x v) Q E s:=by
  have hfn:env.scope.kind=.function:=by rw [r.sc];exact r.fn
  obtain ⟨hro,hkind⟩:=hkind
  rcases hkind with hk | hk
  · have hk':env.kindOf x=some .local:=by show env.scope.names.lookup x=_;rw [r.sc];exact hk
    obtain ⟨m,hm⟩:=r.ns
    refine wpAny_storeName_local hk' hm (fun h' hn hs=>k _ ?_ (Step.same r.nsMu hs rfl rfl)) (by rw [hfn];rfl)
    obtain ⟨o,es,ep,ho,hd,_⟩:=hm
    have hnl:∀vs n,s.heap.get? env.locals≠some (listObj vs n):=fun vs n e=>by
      rw [ho] at e;cases e;cases hd
    have hnt:¬ X.Tb env.locals:=fun t=>by
      obtain ⟨ps,e,_⟩:=(r.tabs _ t).2
      rw [ho] at e;cases e;cases hd
    have hnc:∀{c u},s.heap.IsCell c u→c≠env.locals:=fun {c u} q e=>by
      obtain ⟨o',ho',hd'⟩:=q
      rw [e,ho] at ho';cases ho';rw [hd] at hd';cases hd'
    refine R.turn (s:=s) (s':=⟨h',s.gens,s.drawn,s.toks+1,s.os⟩) r r.nsMu hs hnl hnt hi (v:=v) hb (fun y u ny q=>?_) ?_ ⟨_,hn⟩ fun y q=>?_
    · unfold ValAt at q ⊢
      split at q
      · obtain ⟨m',hm',e⟩:=q
        refine ⟨_,hn,?_⟩
        rw [if_neg ny,←e]
        exact (Heap.Ns.agree ⟨o,es,ep,ho,hd,‹_›⟩ hm' y)
      · obtain ⟨c,hc,q⟩:=q
        exact ⟨c,hc,q.sameBut hs (hnc q)⟩
      · obtain ⟨c,hc,q⟩:=q
        exact ⟨c,hc,q.sameBut hs (hnc q)⟩
      · exact q.elim
    · unfold ValAt
      simp only [hk']
      exact ⟨_,hn,by simp⟩
    · unfold SlotOK at q ⊢
      split at q
      · trivial
      · obtain ⟨c,u,hc,q,z⟩:=q
        exact ⟨c,u,hc,q.sameBut hs (hnc q),z⟩
      · trivial
      · exact q.elim
  · have hk':env.kindOf x=some .cell:=by show env.scope.names.lookup x=_;rw [r.sc];exact hk
    have hsl:=r.slots x (List.mem_of_getElem? hi) hro
    unfold SlotOK at hsl
    simp only [hk'] at hsl
    obtain ⟨c,v₀,hc,hv,hmu⟩:=hsl
    refine wpAny_storeName_cell hfn hk' hc hv (fun h' hn hs=>k _ ?_ (Step.same hmu hs rfl rfl))
    obtain ⟨o,ho,hd⟩:=hv
    have hnl:∀vs n,s.heap.get? c≠some (listObj vs n):=fun vs n e=>by
      rw [ho] at e;cases e;cases hd
    have hnt:¬ X.Tb c:=fun t=>by
      obtain ⟨ps,e,_⟩:=(r.tabs _ t).2
      rw [ho] at e;cases e;cases hd
    have hnL:∀{L m},s.heap.Ns L m→L≠c:=fun {L m} q e=>by
      obtain ⟨o',es,ep,ho',hd',_⟩:=q
      rw [e,ho] at ho';cases ho';rw [hd] at hd';cases hd'
    refine R.turn (s:=s) (s':=⟨h',s.gens,s.drawn,s.toks,s.os⟩) r hmu hs hnl hnt hi (v:=v) hb (fun y u ny q=>?_) ?_ ?_ fun y q=>?_
    · unfold ValAt at q ⊢
      split at q
      · obtain ⟨m',hm',e⟩:=q
        exact ⟨m',hm'.sameBut hs (hnL hm'),e⟩
      · obtain ⟨c',hc',q⟩:=q
        exact ⟨c',hc',q.sameBut hs fun e=>ny (r.cinj _ _ c (e ▸ hc') hc)⟩
      · obtain ⟨c',hc',q⟩:=q
        exact ⟨c',hc',q.sameBut hs fun e=>ny (r.cinj _ _ c (e ▸ hc') hc)⟩
      · exact q.elim
    · unfold ValAt
      simp only [hk']
      exact ⟨c,hc,hn⟩
    · obtain ⟨m,hm⟩:=r.ns
      exact ⟨m,hm.sameBut hs (hnL hm)⟩
    · unfold SlotOK at q ⊢
      split at q
      · trivial
      · obtain ⟨c',u,hc',q,z⟩:=q
        by_cases e:c'=c
        · subst e
          exact ⟨c',_,hc',hn,z⟩
        · exact ⟨c',u,hc',q.sameBut hs e,z⟩
      · trivial
      · exact q.elim
end
end Mine
end
section
open PySem PySem.W PyProof.Rows
set_option tactic.hygienic false
namespace Mine
theorem au1 (_:True:=by intro _ _;rfl):True:=trivial
theorem au2 (_:True:=by rfl):True:=trivial
theorem au3 (_:True:=by decide+kernel):True:=trivial
theorem au4 (_:True:=by intro _;rfl):True:=trivial
theorem au5 (_:True:=by intro _ q;cases q):True:=trivial
theorem au6 (_:True:=by intro env h;unfold interactive;rw [h];rfl):True:=trivial
theorem au7 (_:True:=by intro _ _ _;rfl):True:=trivial
theorem au8 (_:True:=by decide):True:=trivial
theorem au9 (_:True:=by with_unfolding_all rfl):True:=trivial
theorem au10 (_:True:=by intro _ _;exact ⟨_,rfl⟩):True:=trivial
theorem runs_toks {M:Model} {Γ :Ctx} {p:Pos} {t:Sem Fin} {fs:List Frame} {s s':Shared} {e:End} (h:Runs M Γ p t fs s e s'):s.toks≤s'.toks:=by
  induction h with
  | done=>exact Nat.le_refl _
  | raise=>exact Nat.le_refl _
  | fresh _ ih=>exact Nat.le_of_succ_le ih
  | call _ _ ih1 ih2=>exact Nat.le_trans ih1 ih2
  | callSusp _ ih=>exact ih
  | yield=>exact Nat.le_refl _
  | resumeFresh _ _ _ _ ih1 ih2=>exact Nat.le_trans ih1 ih2
  | resumeSuspended _ _ _ _ ih1 ih2=>exact Nat.le_trans ih1 ih2
  | segRet _ _ ih1 ih2=>exact Nat.le_trans ih1 ih2
  | segGen _ _ ih1 ih2=>exact Nat.le_trans ih1 ih2
  | segSuspOut _ _ ih=>exact ih
  | segSuspGen _ _ _ _ ih1 ih2=>exact Nat.le_trans ih1 ih2
  | _=>assumption
theorem wakes_toks {M:Model} {Γ :Ctx} {p:Pos} {g:Nat} {r:Resume} {s s':Shared} {res:GenResult} (h:Wakes M Γ p g r s res s'):s.toks≤s'.toks:=by
  unfold Wakes at h
  split at h
  · exact h.elim
  · split at h
    · obtain ⟨e₁,s₁,hr,_,_,rfl⟩:=h
      have:=runs_toks hr
      exact this
    · exact Nat.le_of_eq (congrArg Shared.toks h.2.symm)
    · exact Nat.le_of_eq (congrArg Shared.toks h.2).symm
  · obtain ⟨e₁,s₁,hr,_,_,rfl⟩:=h
    have:=runs_toks hr
    exact this
  · exact Nat.le_of_eq (congrArg Shared.toks h.2.symm)
  · exact Nat.le_of_eq (congrArg Shared.toks h.2.symm)
open PySem.Sem in
theorem wp_toks {α:Type} (M:Model) (Γ :Ctx) (t:Sem α):∀(Q:α→Pos→Shared→Prop) (E:Value→Pos→Shared→Prop) (p:Pos) (s:Shared) (n:Nat),n≤s.toks→
    wp M Γ t Q E p s→wp M Γ t (fun a p' s'=>Q a p' s'∧n≤s'.toks) E p s:=by
  induction t with
  | pure a=>intro Q E p s n hn h;rw [wp] at h ⊢;exact ⟨h,hn⟩
  | raise e=>intro Q E p s n hn h;rw [wp] at h ⊢;exact h
  | unsupported _=>intro Q E p s n hn h;rw [wp] at h;exact h.elim
  | finish _=>intro Q E p s n hn h;rw [wp] at h;exact h.elim
  | rule _ k ih=>intro Q E p s n hn h;rw [wp] at h ⊢;exact ih _ _ _ _ _ _ hn h
  | «at» _ k ih=>intro Q E p s n hn h;rw [wp] at h ⊢;exact ih _ _ _ _ _ _ hn h
  | load a _ k ih=>intro Q E p s n hn h;rw [wp] at h ⊢;obtain ⟨o,e,h⟩:=h;exact ⟨o,e,ih _ _ _ _ _ _ hn h⟩
  | update a _ f k ih=>intro Q E p s n hn h;rw [wp] at h ⊢;exact ⟨h.1,ih () _ _ _ _ n hn h.2⟩
  | alloc o k ih=>intro Q E p s n hn h;rw [wp] at h ⊢;exact ih _ _ _ _ _ n hn h
  | loadIfAlive a k ih=>intro Q E p s n hn h;rw [wp] at h ⊢;exact ih _ _ _ _ _ _ hn h
  | point _ k ih=>intro Q E p s n hn h;rw [wp] at h ⊢;exact ih _ _ _ _ _ _ hn h
  | register _ _ _=>intro Q E p s n hn h;rw [wp] at h;exact h.elim
  | fresh k ih=>intro Q E p s n hn h;rw [wp] at h ⊢;exact ih _ _ _ _ { s with toks:=s.toks+1 } n (Nat.le_succ_of_le hn) h
  | ask k ih=>intro Q E p s n hn h;rw [wp] at h ⊢;exact ih _ _ _ _ _ _ hn h
  | choose src m k ih=>intro Q E p s n hn h;rw [wp] at h ⊢;exact ⟨h.1,ih _ _ _ _ { s with drawn:=s.drawn.bump src } n hn h.2⟩
  | os q _ k ih=>intro Q E p s n hn h;rw [wp] at h ⊢;exact ih _ _ _ _ { s with os:=(Os.step s.os q).1 } n hn h
  | call c hd _ _ k ih=>
    intro Q E p s n hn h
    rw [wp] at h ⊢
    obtain ⟨r,s',hr,h⟩:=h
    exact ⟨r,s',hr,ih _ _ _ _ s' n (Nat.le_trans hn (runs_toks hr)) h⟩
  | handled own k ih=>intro Q E p s n hn h;rw [wp] at h ⊢;exact ih _ _ _ _ _ _ hn h
  | newGen c k ih=>intro Q E p s n hn h;rw [wp] at h ⊢;exact ih _ _ _ _ { s with gens:=s.gens.push (.fresh c) } n hn h
  | genState g k ih=>intro Q E p s n hn h;rw [wp] at h ⊢;obtain ⟨o,e,h⟩:=h;exact ⟨o,e,ih _ _ _ _ _ _ hn h⟩
  | resume g r _ k ih=>
    intro Q E p s n hn h
    rw [wp] at h ⊢
    obtain ⟨res,s',hr,h⟩:=h
    exact ⟨res,s',hr,ih _ _ _ _ s' n (Nat.le_trans hn (wakes_toks hr)) h⟩
  | yield _ _ _ _ _=>intro Q E p s n hn h;rw [wp] at h;exact h.elim
  | stack k ih=>intro Q E p s n hn h;rw [wp] at h ⊢;exact ih _ _ _ _ _ _ hn h
  | fork _ _ _=>intro Q E p s n hn h;rw [wp] at h;exact h.elim
  | thread k ih=>intro Q E p s n hn h;rw [wp] at h ⊢;exact ih _ _ _ _ _ _ hn h
  | await _ _ _ _ _ _=>intro Q E p s n hn h;rw [wp] at h;exact h.elim
theorem wpAny_toks {α:Type} {M:Model} {A:Around} {t:Sem α} {Q:α→Shared→Prop} {E:Value→Shared→Prop} {s:Shared} (h:wpAny M A t Q E s):wpAny M A t (fun a s'=>Q a s'∧s.toks≤s'.toks) E s:=
  fun Γ p hΓ =>wp_toks M Γ t _ _ p s s.toks (Nat.le_refl _) (h Γ p hΓ)
theorem runs_size {M:Model} {Γ :Ctx} {p:Pos} {t:Sem Fin} {fs:List Frame} {s s':Shared} {e:End} (h:Runs M Γ p t fs s e s'):s.heap.objs.size≤s'.heap.objs.size:=by
  induction h with
  | done=>exact Nat.le_refl _
  | raise=>exact Nat.le_refl _
  | alloc _ ih=>exact Nat.le_trans (by simp) ih
  | update _ _ ih=>exact Nat.le_trans (by simp) ih
  | call _ _ ih1 ih2=>exact Nat.le_trans ih1 ih2
  | callSusp _ ih=>exact ih
  | yield=>exact Nat.le_refl _
  | resumeFresh _ _ _ _ ih1 ih2=>exact Nat.le_trans ih1 ih2
  | resumeSuspended _ _ _ _ ih1 ih2=>exact Nat.le_trans ih1 ih2
  | segRet _ _ ih1 ih2=>exact Nat.le_trans ih1 ih2
  | segGen _ _ ih1 ih2=>exact Nat.le_trans ih1 ih2
  | segSuspOut _ _ ih=>exact ih
  | segSuspGen _ _ _ _ ih1 ih2=>exact Nat.le_trans ih1 ih2
  | _=>assumption
theorem wakes_size {M:Model} {Γ :Ctx} {p:Pos} {g:Nat} {r:Resume} {s s':Shared} {res:GenResult} (h:Wakes M Γ p g r s res s'):s.heap.objs.size≤s'.heap.objs.size:=by
  unfold Wakes at h
  split at h
  · exact h.elim
  · split at h
    · obtain ⟨e₁,s₁,hr,_,_,rfl⟩:=h
      have:=runs_size hr
      exact this
    · exact Nat.le_of_eq (congrArg (fun s:Shared=>s.heap.objs.size) h.2.symm)
    · exact Nat.le_of_eq (congrArg (fun s:Shared=>s.heap.objs.size) h.2).symm
  · obtain ⟨e₁,s₁,hr,_,_,rfl⟩:=h
    have:=runs_size hr
    exact this
  · exact Nat.le_of_eq (congrArg (fun s:Shared=>s.heap.objs.size) h.2.symm)
  · exact Nat.le_of_eq (congrArg (fun s:Shared=>s.heap.objs.size) h.2.symm)
open PySem.Sem in
theorem wp_size {α:Type} (M:Model) (Γ :Ctx) (t:Sem α):∀(Q:α→Pos→Shared→Prop) (E:Value→Pos→Shared→Prop) (p:Pos) (s:Shared) (n:Nat),n≤s.heap.objs.size→
    wp M Γ t Q E p s→wp M Γ t (fun a p' s'=>Q a p' s'∧n≤s'.heap.objs.size) E p s:=by
  induction t with
  | pure a=>intro Q E p s n hn h;rw [wp] at h ⊢;exact ⟨h,hn⟩
  | raise e=>intro Q E p s n hn h;rw [wp] at h ⊢;exact h
  | unsupported _=>intro Q E p s n hn h;rw [wp] at h;exact h.elim
  | finish _=>intro Q E p s n hn h;rw [wp] at h;exact h.elim
  | rule _ k ih=>intro Q E p s n hn h;rw [wp] at h ⊢;exact ih _ _ _ _ _ _ hn h
  | «at» _ k ih=>intro Q E p s n hn h;rw [wp] at h ⊢;exact ih _ _ _ _ _ _ hn h
  | load a _ k ih=>intro Q E p s n hn h;rw [wp] at h ⊢;obtain ⟨o,e,h⟩:=h;exact ⟨o,e,ih _ _ _ _ _ _ hn h⟩
  | update a _ f k ih=>intro Q E p s n hn h;rw [wp] at h ⊢;exact ⟨h.1,ih () _ _ _ { s with heap:=s.heap.update a f } n (by simpa using hn) h.2⟩
  | alloc o k ih=>intro Q E p s n hn h;rw [wp] at h ⊢;exact ih _ _ _ _ { s with heap:=s.heap.push o } n (by simp;lia) h
  | loadIfAlive a k ih=>intro Q E p s n hn h;rw [wp] at h ⊢;exact ih _ _ _ _ _ _ hn h
  | point _ k ih=>intro Q E p s n hn h;rw [wp] at h ⊢;exact ih _ _ _ _ _ _ hn h
  | register _ _ _=>intro Q E p s n hn h;rw [wp] at h;exact h.elim
  | fresh k ih=>intro Q E p s n hn h;rw [wp] at h ⊢;exact ih _ _ _ _ { s with toks:=s.toks+1 } n hn h
  | ask k ih=>intro Q E p s n hn h;rw [wp] at h ⊢;exact ih _ _ _ _ _ _ hn h
  | choose src m k ih=>intro Q E p s n hn h;rw [wp] at h ⊢;exact ⟨h.1,ih _ _ _ _ { s with drawn:=s.drawn.bump src } n hn h.2⟩
  | os q _ k ih=>intro Q E p s n hn h;rw [wp] at h ⊢;exact ih _ _ _ _ { s with os:=(Os.step s.os q).1 } n hn h
  | call c hd _ _ k ih=>
    intro Q E p s n hn h
    rw [wp] at h ⊢
    obtain ⟨r,s',hr,h⟩:=h
    exact ⟨r,s',hr,ih _ _ _ _ s' n (Nat.le_trans hn (runs_size hr)) h⟩
  | handled own k ih=>intro Q E p s n hn h;rw [wp] at h ⊢;exact ih _ _ _ _ _ _ hn h
  | newGen c k ih=>intro Q E p s n hn h;rw [wp] at h ⊢;exact ih _ _ _ _ { s with gens:=s.gens.push (.fresh c) } n hn h
  | genState g k ih=>intro Q E p s n hn h;rw [wp] at h ⊢;obtain ⟨o,e,h⟩:=h;exact ⟨o,e,ih _ _ _ _ _ _ hn h⟩
  | resume g r _ k ih=>
    intro Q E p s n hn h
    rw [wp] at h ⊢
    obtain ⟨res,s',hr,h⟩:=h
    exact ⟨res,s',hr,ih _ _ _ _ s' n (Nat.le_trans hn (wakes_size hr)) h⟩
  | yield _ _ _ _ _=>intro Q E p s n hn h;rw [wp] at h;exact h.elim
  | stack k ih=>intro Q E p s n hn h;rw [wp] at h ⊢;exact ih _ _ _ _ _ _ hn h
  | fork _ _ _=>intro Q E p s n hn h;rw [wp] at h;exact h.elim
  | thread k ih=>intro Q E p s n hn h;rw [wp] at h ⊢;exact ih _ _ _ _ _ _ hn h
  | await _ _ _ _ _ _=>intro Q E p s n hn h;rw [wp] at h;exact h.elim
theorem wpAny_size {α:Type} {M:Model} {A:Around} {t:Sem α} {Q:α→Shared→Prop} {E:Value→Shared→Prop} {s:Shared} (h:wpAny M A t Q E s):wpAny M A t (fun a s'=>Q a s'∧s.heap.objs.size≤s'.heap.objs.size) E s:=
  fun Γ p hΓ =>wp_size M Γ t _ _ p s s.heap.objs.size (Nat.le_refl _) (h Γ p hΓ)
end Mine
end
section
open PySem PySem.W PyProof.Rows
set_option tactic.hygienic false
namespace Mine
structure Grow (s s':Shared):Prop where
  keep:∀a o,s.heap.get? a=some o→s'.heap.get? a=some o
  size:s.heap.objs.size≤s'.heap.objs.size
  os:s'.os=s.os
  gens:s'.gens=s.gens
theorem Grow.refl (s:Shared):Grow s s:=⟨fun _ _ e=>e,Nat.le_refl _,rfl,rfl⟩
theorem Grow.toks {s:Shared} {tk:Nat} {d:Drawn}:Grow s { heap:=s.heap,gens:=s.gens,drawn:=d,toks:=tk,os:=s.os }:=⟨fun _ _ e=>e,Nat.le_refl _,rfl,rfl⟩
theorem Grow.push {s:Shared} (o:Obj) {tk:Nat} {d:Drawn}:Grow s { heap:=s.heap.push o,gens:=s.gens,drawn:=d,toks:=tk,os:=s.os }:=
  ⟨fun _ _ e=>Heap.get?_push_of_some _ e,by simp,rfl,rfl⟩
theorem Grow.trans {s s' s'':Shared} (x:Grow s s') (y:Grow s' s''):Grow s s'':=
  ⟨fun a o e=>y.keep a o (x.keep a o e),Nat.le_trans x.size y.size,y.os.trans x.os,y.gens.trans x.gens⟩
section
variable {X:Cx} {F:FI} {Av Mu:Addr→Prop} {env:Env} {st:St} {s s':Shared}
theorem R.grow (r:R X F Av Mu env st s) (g:Grow s s'):R X F Av Mu env st s':=r.keep g.keep g.size
theorem Step.ofGrow (g:Grow s s'):Step Av Mu s Av Mu s':=Step.grown g.keep g.size g.os g.gens
theorem VR.grow {v:Value} {p:PV} (x:VR s.heap Av v p) (g:Grow s s'):VR s'.heap Av v p:=x.mono (fun a o e _=>g.keep a o e) (fun _ _ n=>n) g.size
theorem VRs.grow {v:List Value} {p:List PV} (x:VRs s.heap Av v p) (g:Grow s s'):VRs s'.heap Av v p:=x.mono (fun a o e _=>g.keep a o e) (fun _ _ n=>n) g.size
end
set_option genInjectivity false in
structure StepE (env:Env) (Av Mu:Addr→Prop) (s:Shared) (Av' Mu':Addr→Prop) (s':Shared):Prop extends Step Av Mu s Av' Mu' s' where
  vals:∀x v,ValAt s.heap env x v→ValAt s'.heap env x v
theorem StepE.refl {env:Env} {Av Mu:Addr→Prop} {s:Shared}:StepE env Av Mu s Av Mu s:=⟨Step.refl,fun _ _ h=>h⟩
theorem StepE.trans {env:Env} {Av Mu Av' Mu' Av'' Mu'':Addr→Prop} {s s' s'':Shared} (x:StepE env Av Mu s Av' Mu' s') (y:StepE env Av' Mu' s' Av'' Mu'' s'') (hm:∀a,Av a→a < s.heap.objs.size):StepE env Av Mu s Av'' Mu'' s'':=
  ⟨x.toStep.trans y.toStep hm,fun n v h=>y.vals n v (x.vals n v h)⟩
theorem StepE.ofGrow {env:Env} {Av Mu:Addr→Prop} {s s':Shared} (g:Grow s s'):StepE env Av Mu s Av Mu s':=⟨Step.ofGrow g,fun _ _ h=>h.keep fun a o e _=>g.keep a o e⟩
noncomputable def Room (d:Nat) (A:Around):Prop:=A.handled=none∧A.depth+20 * d < 690∧A.units+100 * d < 9000
set_option genInjectivity false in
inductive Fl where
  | next | brk | ret (p:PV)
  deriving Inhabited
noncomputable abbrev EvE:=St→Option (PV×St)
noncomputable abbrev EvB:=St→Option (Bool×St)
noncomputable abbrev EvS:=St→Option (Fl×St)
noncomputable def FlR (h:Heap) (Av:Addr→Prop):Flow→Fl→Prop
  | .next,.next=>True
  | .brk,.brk=>True
  | .ret v,.ret p=>VR h Av v p
  | _,_=>False
noncomputable def SoundT (X:Cx) (F:FI) (d:Nat) {α β:Type} (rel:Heap→(Addr→Prop)→α→β→Prop) (t:Env→Sem α) (f:St→Option (β×St)):Prop:=
  ∀(A:Around) {Av Mu:Addr→Prop} {env:Env} {st st':St} {s:Shared} {v:β} {Q:α→Shared→Prop} {E:Value→Shared→Prop},
    Room d A→f st=some (v,st')→R X F Av Mu env st s→1≤s.toks→
    (∀x s' Av' Mu',R X F Av' Mu' env st' s'→StepE env Av Mu s Av' Mu' s'→rel s'.heap Av' x v→1≤s'.toks→Q x s')→wpAny (model X.prog X.w) A (t env) Q E s
theorem SoundT.intro {X:Cx} {F:FI} {d:Nat} {α β:Type} {rel:Heap→(Addr→Prop)→α→β→Prop} {t:Env→Sem α} {f:St→Option (β×St)}
    (h:∀{A:Around} {Av Mu:Addr→Prop} {env:Env} {st st':St} {s:Shared} {v:β} {Q:α→Shared→Prop} {E:Value→Shared→Prop},
      Room d A→f st=some (v,st')→R X F Av Mu env st s→1≤s.toks→
      (∀x s' Av' Mu',R X F Av' Mu' env st' s'→StepE env Av Mu s Av' Mu' s'→rel s'.heap Av' x v→Q x s')→wpAny (model X.prog X.w) A (t env) Q E s):SoundT X F d rel t f:=by
  intro A Av Mu env st st' s v Q E hA hf r tk k
  exact wpAny_mono (wpAny_toks (h (Q:=fun x s'=>1≤s'.toks→Q x s') hA hf r tk fun x s' Av' Mu' R' S' V' t'=>k x s' Av' Mu' R' S' V' t')) (fun x s' q=>q.1 (Nat.le_trans tk q.2)) fun _ _ e=>e
noncomputable def SoundU (X:Cx) (F:FI) (d:Nat) {α β:Type} (rel:Heap→(Addr→Prop)→α→β→Prop) (t:Env→Sem α) (f:St→Option (β×St)):Prop:=
  ∀(A:Around) {Av Mu:Addr→Prop} {env:Env} {st st':St} {s:Shared} {v:β} {Q:α→Shared→Prop} {E:Value→Shared→Prop},
    Room d A→f st=some (v,st')→R X F Av Mu env st s→1≤s.toks→
    (∀x s' Av' Mu',R X F Av' Mu' env st' s'→Step Av Mu s Av' Mu' s'→rel s'.heap Av' x v→1≤s'.toks→Q x s')→wpAny (model X.prog X.w) A (t env) Q E s
theorem SoundU.intro {X:Cx} {F:FI} {d:Nat} {α β:Type} {rel:Heap→(Addr→Prop)→α→β→Prop} {t:Env→Sem α} {f:St→Option (β×St)}
    (h:∀{A:Around} {Av Mu:Addr→Prop} {env:Env} {st st':St} {s:Shared} {v:β} {Q:α→Shared→Prop} {E:Value→Shared→Prop},
      Room d A→f st=some (v,st')→R X F Av Mu env st s→1≤s.toks→
      (∀x s' Av' Mu',R X F Av' Mu' env st' s'→Step Av Mu s Av' Mu' s'→rel s'.heap Av' x v→Q x s')→wpAny (model X.prog X.w) A (t env) Q E s):SoundU X F d rel t f:=by
  intro A Av Mu env st st' s v Q E hA hf r tk k
  exact wpAny_mono (wpAny_toks (h (Q:=fun x s'=>1≤s'.toks→Q x s') hA hf r tk fun x s' Av' Mu' R' S' V' t'=>k x s' Av' Mu' R' S' V' t')) (fun x s' q=>q.1 (Nat.le_trans tk q.2)) fun _ _ e=>e
noncomputable def SoundE (X:Cx) (F:FI) (d:Nat) (e:Expr) (f:EvE):Prop:=SoundT X F d VR (eval e) f
noncomputable def BR (h:Heap) (Av:Addr→Prop) (b b':Bool):Prop:=b=b'
noncomputable def SoundB (X:Cx) (F:FI) (d:Nat) (e:Expr) (f:EvB):Prop:=SoundT X F d BR (fun env=>isTrue e env (eval e env)) f
noncomputable def SoundX (X:Cx) (F:FI) (d:Nat) (c:Stmt) (f:EvS):Prop:=SoundU X F d FlR (exec c) f
noncomputable def SoundS (X:Cx) (F:FI) (d:Nat) (c:List Stmt) (f:EvS):Prop:=SoundU X F d FlR (execs c) f
noncomputable def bindE {α β:Type} (f:St→Option (α×St)) (g:α→St→Option (β×St)):St→Option (β×St):=fun st=>match f st with
  | some p=>g p.1 p.2
  | none=>none
noncomputable def pureE {α:Type} (a:α):St→Option (α×St):=fun st=>some (a,st)
noncomputable def liftE {α:Type} (a:Option α):St→Option (α×St):=fun st=>match a with
  | some x=>some (x,st)
  | none=>none
set_option tactic.hygienic true in
theorem bindE_some {α β:Type} {f:St→Option (α×St)} {g:α→St→Option (β×St)} {st st':St} {v:β} (h:bindE f g st=some (v,st')):∃a st1,f st=some (a,st1)∧g a st1=some (v,st'):=by
  unfold bindE at h
  split at h
  · rename_i p e
    exact ⟨p.1,p.2,e,h⟩
  · cases h
theorem bindE_elim {α β:Type} {C:Prop} {f:St→Option (α×St)} {g:α→St→Option (β×St)} {st st':St} {v:β} (h:bindE f g st=some (v,st')) (k:∀a st1,f st=some (a,st1)→g a st1=some (v,st')→C):C:=let ⟨a,st1,h1,h2⟩:=bindE_some h;k a st1 h1 h2
theorem liftE_some {α:Type} {a:Option α} {st st':St} {v:α} (h:liftE a st=some (v,st')):a=some v∧st'=st:=by
  unfold liftE at h
  split at h
  · cases h;exact ⟨rfl,rfl⟩
  · cases h
section
variable {X:Cx} {F:FI} {d:Nat}
theorem s_int {i:Int} {k:Nat} {pos:Pos}:SoundE X F d (.Constant (.int i) k pos) (pureE (.int i)):=by
  refine @SoundT.intro _ _ _ _ _ _ _ _ ?_
  intro A Av Mu env st st' s v Q E hr hf r tk k'
  cases hf
  exact wpAny_Constant_int (k' _ _ _ _ r.toks (StepE.ofGrow .toks) (by unfold VR;exact ⟨_,rfl⟩))
theorem s_str {x:Str} {k:Nat} {pos:Pos}:SoundE X F d (.Constant (.str x) k pos) (pureE (.str x)):=by
  refine @SoundT.intro _ _ _ _ _ _ _ _ ?_
  intro A Av Mu env st st' s v Q E hr hf r tk k'
  cases hf
  exact Calls.Constant_str (k' _ _ _ _ r.toks (StepE.ofGrow .toks) (by unfold VR;exact ⟨_,rfl⟩))
theorem s_true {b:Bool} {k:Nat} {pos:Pos}:SoundE X F d (.Constant (.bool b) k pos) (pureE (.bool b)):=by
  refine @SoundT.intro _ _ _ _ _ _ _ _ ?_
  intro A Av Mu env st st' s v Q E hr hf r tk k'
  cases hf
  exact wpAny_pure (k' _ _ _ _ r StepE.refl (by unfold VR;rfl))
theorem wp_load {M:Model} {A:Around} {Q:Value→Shared→Prop} {E:Value→Shared→Prop} {Av Mu:Addr→Prop} {env:Env} {st:St} {s:Shared} (r:R X F Av Mu env st s) {x:Str} {v:Value} (hv:ValAt s.heap env x v)
    (hn:(x==("__classdict__":Str))=false) (k:Q v s):wpAny M A (loadName env x) Q E s:=by
  have hfn:env.scope.kind=.function:=by rw [r.sc];exact r.fn
  unfold ValAt at hv
  cases hk:env.kindOf x with
  | none=>simp only [hk] at hv
  | some kd=>
    cases kd<;>simp only [hk] at hv
    · obtain ⟨m,hm,e⟩:=hv
      exact wpAny_loadName_local hfn hk hm e k
    · obtain ⟨c,hc,q⟩:=hv
      exact wpAny_loadName_cell hfn hk hc q k
    · obtain ⟨c,hc,q⟩:=hv
      exact wpAny_loadName_free hfn hk hc q k hn
theorem R.freeze {Av Mu:Addr→Prop} {env:Env} {st:St} {s:Shared} (r:R X F Av Mu env st s) {i:Nat} {x:Str} (hi:F.names[i]? =some x) {xs:List PV} (hs:st[i]? =some (.own xs)):
    ∃Av' Mu' v,R X F Av' Mu' env (st.set i (.froz (.list xs))) s∧Step Av Mu s Av' Mu' s∧ValAt s.heap env x v∧VR s.heap Av' v (.list xs):=by
  obtain ⟨a,vs,n,p,e,m,z⟩:=r.vars i x _ hi hs
  have nt:¬ X.Tb a:=fun t=>by
    obtain ⟨ps,q,_⟩:=(r.tabs a t).2
    rw [e] at q;cases q
  have hv:∀{v p},VR s.heap Av v p→VR s.heap (fun b=>Av b∧b≠a) v p:=fun q=>q.mono (fun _ _ e _=>e) (fun _ _ n q=>n q.1) (Nat.le_refl _)
  have hvs:∀{v p},VRs s.heap Av v p→VRs s.heap (fun b=>Av b∧b≠a) v p:=fun q=>q.mono (fun _ _ e _=>e) (fun _ _ n q=>n q.1) (Nat.le_refl _)
  have hV:VR s.heap (fun b=>Av b∧b≠a) (.ref a) (.list xs):=by
    unfold VR
    exact ⟨a,vs,n,rfl,e,fun q=>q.2 rfl,hvs z⟩
  refine ⟨fun b=>Av b∧b≠a,fun b=>Mu b∧b≠a,.ref a,?_,?_,p,hV⟩
  · refine ⟨r.sc,r.fn,r.gl,r.bl,r.cd,r.ql,fun b o e'=>⟨(r.base b o e').1,fun q=>(r.base b o e').2 q.1⟩,fun b t=>⟨⟨(r.tabs b t).1,fun q=>nt (q ▸ t)⟩,(r.tabs b t).2.mono (fun _ e=>e) fun _ _ e n _=>⟨e,fun q=>n q.1⟩⟩,fun b q=>⟨r.ma b q.1,q.2⟩,fun b q=>r.lt b q.1,r.ns,⟨r.nsMu,fun q=>?_⟩,r.nd,
      by rw [List.length_set];exact r.len,r.cinj,fun y hy hro=>?_,fun j y b hj hb=>?_,fun j k y w ys ws b hj hk hy hw=>?_⟩
    · obtain ⟨m',o,es,ep,ho,hd,_⟩:=r.ns
      rw [q,e] at ho;cases ho;cases hd
    · have q:=r.slots y hy hro
      unfold SlotOK at q ⊢
      split at q
      · trivial
      · obtain ⟨c,u,hc,hq,hm⟩:=q
        refine ⟨c,u,hc,hq,hm,fun q'=>?_⟩
        obtain ⟨o,ho,hd⟩:=hq
        rw [q',e] at ho;cases ho;cases hd
      · trivial
      · exact q.elim
    · rcases get_set hb with ⟨e1,e2⟩ | ⟨e1,e2⟩
      · subst e1;subst e2
        have e3:y=x:=Option.some.inj (hj.symm.trans hi)
        subst e3
        exact ⟨_,p,hV⟩
      · have q:=r.vars j y b hj e2
        cases b with
        | none=>trivial
        | froz p=>obtain ⟨u,p1,p2⟩:=q;exact ⟨u,p1,hv p2⟩
        | ref a=>exact q
        | own ys=>
          obtain ⟨b,us,n',p1,p2,p3,p4⟩:=q
          refine ⟨b,us,n',p1,p2,⟨p3,fun q=>?_⟩,hvs p4⟩
          subst q
          exact e1 (r.inj j i y x ys xs b hj hi e2 hs p1 p)
        | meth k=>
          obtain ⟨m',a',p1,p2,p3,p4⟩:=q
          refine ⟨m',a',p1,p2,fun q=>p3 q.1,fun y' ws hy' hs'=>?_⟩
          rcases get_set hs' with ⟨_,f2⟩ | ⟨_,f2⟩
          · cases f2
          · exact p4 y' ws hy' f2
    · rcases get_set hy with ⟨_,e2⟩ | ⟨_,e2⟩
      · cases e2
      rcases get_set hw with ⟨_,f2⟩ | ⟨_,f2⟩
      · cases f2
      exact r.inj j k y w ys ws b hj hk e2 f2
  · exact ⟨fun _ _ e _=>e,fun b q=>.inl q.1,fun b q=>.inl q.1,fun b q n=>⟨q,fun z=>n (z ▸ m)⟩,Nat.le_refl _,rfl,id⟩
noncomputable def getV (i:Nat):EvE:=fun st=>match st[i]? with
  | some (.froz p)=>some (p,st)
  | some (.own xs)=>some (.list xs,st.set i (.froz (.list xs)))
  | _=>none
set_option tactic.hygienic true in
theorem wp_getV {M:Model} {A:Around} {Q:Value→Shared→Prop} {E:Value→Shared→Prop} {Av Mu:Addr→Prop} {env:Env} {st st':St} {s:Shared} {p:PV} (r:R X F Av Mu env st s) {i:Nat} {x:Str} (hi:F.names[i]? =some x)
    (hf:getV i st=some (p,st')) (hn:(x==("__classdict__":Str))=false)
    (k:∀v Av' Mu',R X F Av' Mu' env st' s→StepE env Av Mu s Av' Mu' s→VR s.heap Av' v p→Q v s):wpAny M A (loadName env x) Q E s:=by
  unfold getV at hf
  split at hf
  · rename_i p' e
    cases hf
    obtain ⟨v,hv,q⟩:=r.vars i x _ hi e
    exact wp_load r hv hn (k v Av Mu r StepE.refl q)
  · rename_i xs e
    cases hf
    obtain ⟨Av',Mu',v,r',S,hv,q⟩:=r.freeze hi e
    exact wp_load r' hv hn (k v Av' Mu' r' ⟨S,fun _ _ h=>h⟩ q)
  · cases hf
theorem s_name {x:Str} {pos:Pos} {i:Nat} (hi:F.names[i]? =some x) (hn:autoParam ((x==("__classdict__":Str))=false) Mine.au3._auto_1) (hd:autoParam ((x==("__debug__":Str))=false) Mine.au3._auto_1):SoundE X F d (.Name x pos) (getV i):=by
  refine @SoundT.intro _ _ _ _ _ _ _ _ ?_
  intro A Av Mu env st st' s v Q E hr hf r tk k
  exact wpAny_Name (wp_getV r hi hf hn fun u Av' Mu' r' S q=>k _ _ _ _ r' S q) hd
noncomputable def asInt:PV→Option Int
  | .int x=>some x
  | _=>none
noncomputable def asStr:PV→Option Str
  | .str x=>some x
  | _=>none
noncomputable def asList:PV→Option (List PV)
  | .list xs=>some xs
  | _=>none
theorem asList_some {p:PV} {xs:List PV} (h:asList p=some xs):p=.list xs:=by cases p<;>cases h;rfl
theorem asInt_some {p:PV} {i:Int} (h:asInt p=some i):p=.int i:=by cases p<;>cases h;rfl
theorem asStr_some {p:PV} {x:Str} (h:asStr p=some x):p=.str x:=by cases p<;>cases h;rfl
noncomputable def onI {α:Type} (a b:PV) (f:Int→Int→Option α):Option α:=(asInt a).bind fun x=>(asInt b).bind (f x)
noncomputable def onS {α:Type} (a b:PV) (f:Str→Str→Option α):Option α:=(asStr a).bind fun x=>(asStr b).bind (f x)
theorem onI_some {α:Type} {a b:PV} {f:Int→Int→Option α} {c:α} (h:onI a b f=some c):∃x y,a=.int x∧b=.int y∧f x y=some c:=by
  obtain ⟨x,h1,h⟩:=Option.bind_eq_some_iff.mp h
  obtain ⟨y,h2,h⟩:=Option.bind_eq_some_iff.mp h
  exact ⟨x,y,asInt_some h1,asInt_some h2,h⟩
theorem onS_some {α:Type} {a b:PV} {f:Str→Str→Option α} {c:α} (h:onS a b f=some c):∃x y,a=.str x∧b=.str y∧f x y=some c:=by
  obtain ⟨x,h1,h⟩:=Option.bind_eq_some_iff.mp h
  obtain ⟨y,h2,h⟩:=Option.bind_eq_some_iff.mp h
  exact ⟨x,y,asStr_some h1,asStr_some h2,h⟩
theorem or_some {α:Type} {x y:Option α} {c:α} (h:x.or y=some c):x=some c∨y=some c:=by
  cases x with
  | none=>exact .inr h
  | some _=>exact .inl h
theorem when_some {α:Type} {p:Prop} [Decidable p] {x c:α} (h:(if p then some x else none)=some c):p∧x=c:=by
  by_cases hp:p
  · rw [if_pos hp] at h;exact ⟨hp,Option.some.inj h⟩
  · rw [if_neg hp] at h;cases h
noncomputable def addS (a b:PV):Option PV:=onS a b fun a b=>if a.length+b.length≤16777216 then some (.str (a++b)) else none
noncomputable def mulI (a b:PV):Option PV:=onI a b fun a b=>if a.natAbs < 2 ^ 64 then some (.int (a * b)) else none
noncomputable def binOp (op:Operator) (a b:PV):Option PV:=match op with
  | .Add=>(onI a b fun a b=>some (.int (a+b))).or (addS a b)
  | .Sub=>onI a b fun a b=>some (.int (a - b))
  | .Mult=>mulI a b
  | .FloorDiv=>onI a b fun a b=>if b≠0∧b.natAbs < 1073741824 then some (.int (a.fdiv b)) else none
  | .Mod=>onI a b fun a b=>if b≠0 then some (.int (a.fmod b)) else none
  | .Pow=>onI a b fun a b=>if 0≤b∧b≤1000000∧a.natAbs < 2 ^ 64 then some (.int (a ^ b.toNat)) else none
  | _=>none
section
variable {A:Around} {Av:Addr→Prop} {s:Shared} {Q:Value→Shared→Prop} {E:Value→Shared→Prop}
theorem VR.int' {h:Heap} {i:Int} {t:Tok}:VR h Av (.int i t) (.int i):=by unfold VR;exact ⟨_,rfl⟩
theorem VR.str' {h:Heap} {x:Str} {t:Tok}:VR h Av (.str x t) (.str x):=by unfold VR;exact ⟨_,rfl⟩
theorem VR.bool' {h:Heap} {b:Bool}:VR h Av (.bool b) (.bool b):=by unfold VR;rfl
theorem str_empty_add {a b:Str} (h:(a.length==0)=true):a++b=b:=by
  have:a.cps.size=0:=by simpa [PySem.Str.length] using h
  have e:a.cps=#[]:=Array.eq_empty_of_size_eq_zero this
  exact PySem.Str.ext' (by rw [PySem.Str.cps_append,e];simp)
theorem str_add_empty {a b:Str} (h:(b.length==0)=true):a++b=a:=by
  have:b.cps.size=0:=by simpa [PySem.Str.length] using h
  have e:b.cps=#[]:=Array.eq_empty_of_size_eq_zero this
  exact PySem.Str.ext' (by rw [PySem.Str.cps_append,e];simp)
theorem add_str_w {a b:Str} {t u:Tok} (h:a.length+b.length≤16777216) (k:∀v s',Grow s s'→VR s'.heap Av v (.str (a++b))→Q v s'):wpAny (model X.prog X.w) A (binaryOp .Add (.str a t) (.str b u)) Q E s:=by
  refine P.add_str ?_
  by_cases h1:(a.length==0)=true
  · rw [if_pos h1]
    exact k _ _ (Grow.refl s) (str_empty_add h1 ▸ VR.str')
  · rw [if_neg h1]
    by_cases h2:(b.length==0)=true
    · rw [if_pos h2]
      exact k _ _ (Grow.refl s) (str_add_empty h2 ▸ VR.str')
    · rw [if_neg h2]
      exact ⟨by rw [PySem.Str.length_append];exact h,k _ _ .toks VR.str'⟩
theorem VR.int_of {h:Heap} {i:Int} {v:Value} (x:VR h Av v (.int i)):∃t,v=.int i t:=by unfold VR at x;exact x
theorem VR.str_of {h:Heap} {i:Str} {v:Value} (x:VR h Av v (.str i)):∃t,v=.str i t:=by unfold VR at x;exact x
theorem binI {op:Operator} {f:Int→Int→Option PV} {a b c:PV} {va vb:Value} (P:∀{x y:Int} {t u:Tok},f x y=some c→wpAny (model X.prog X.w) A (binaryOp op (.int x t) (.int y u)) Q E s) (h:onI a b f=some c) (ha:VR s.heap Av va a) (hb:VR s.heap Av vb b):
    wpAny (model X.prog X.w) A (binaryOp op va vb) Q E s:=by
  obtain ⟨x,y,rfl,rfl,h⟩:=onI_some h
  obtain ⟨t,rfl⟩:=ha.int_of
  obtain ⟨u,rfl⟩:=hb.int_of
  exact P h
theorem addS_w {a b c:PV} {va vb:Value} (h:addS a b=some c) (ha:VR s.heap Av va a) (hb:VR s.heap Av vb b) (k:∀v s',Grow s s'→VR s'.heap Av v c→Q v s'):wpAny (model X.prog X.w) A (binaryOp .Add va vb) Q E s:=by
  obtain ⟨x,y,rfl,rfl,h⟩:=onS_some h
  obtain ⟨t,rfl⟩:=ha.str_of
  obtain ⟨u,rfl⟩:=hb.str_of
  obtain ⟨hl,rfl⟩:=when_some h
  exact add_str_w hl k
theorem binOp_w {op:Operator} {a b c:PV} {va vb:Value} (h:binOp op a b=some c) (ha:VR s.heap Av va a) (hb:VR s.heap Av vb b) (k:∀v s',Grow s s'→VR s'.heap Av v c→Q v s'):
    wpAny (model X.prog X.w) A (binaryOp op va vb) Q E s:=
  match op,h with
  | .Add,h=>(or_some h).elim (fun h=>binI (fun e=>by cases e;exact P.add_int (k _ _ .toks VR.int')) h ha hb) fun h=>addS_w h ha hb k
  | .Sub,h=>binI (fun e=>by cases e;exact P.sub_int (k _ _ .toks VR.int')) h ha hb
  | .Mult,h=>binI (fun e=>by obtain ⟨hl,rfl⟩:=when_some e;exact P.mul_int (k _ _ .toks VR.int') (IntMulOk.of_left (intBits_le hl))) h ha hb
  | .FloorDiv,h=>binI (fun e=>by obtain ⟨q,rfl⟩:=when_some e;exact floordiv_int q.1 (k _ _ .toks VR.int') (.inl (PyProof.noPylong_small q.2))) h ha hb
  | .Mod,h=>binI (fun e=>by obtain ⟨q,rfl⟩:=when_some e;exact mod_int' q (k _ _ .toks VR.int')) h ha hb
  | .Pow,h=>binI (fun e=>by obtain ⟨q,rfl⟩:=when_some e;exact pow_int_small q.1 q.2.1 q.2.2 (k _ _ .toks VR.int')) h ha hb
end
theorem s_bin {op:Operator} {l r:Expr} {pos:Pos} {f g:EvE} (hl:SoundE X F d l f) (hr:SoundE X F d r g):SoundE X F d (.BinOp l op r pos) (bindE f fun a=>bindE g fun b=>liftE (binOp op a b)):=by
  refine @SoundT.intro _ _ _ _ _ _ _ _ ?_
  intro A Av Mu env st st' s v Q E hA hf R₀ tk k
  refine bindE_elim hf fun a st1 h1 hf=>?_
  refine bindE_elim hf fun b st2 h2 hf=>?_
  obtain ⟨h3,rfl⟩:=liftE_some hf
  refine wpAny_BinOp (hl _ hA h1 R₀ tk fun va s1 Av1 Mu1 R1 S1 V1 tk1=>hr _ hA h2 R1 tk1 fun vb s2 Av2 Mu2 R2 S2 V2 tk2=>?_)
  refine binOp_w h3 (V1.step S2.toStep R1.ma) V2 fun v' s' G V=>k _ _ Av2 Mu2 (R2.grow G) ((S1.trans S2 R₀.lt).trans (StepE.ofGrow G) R₀.lt) V
end
end Mine
end
section
open PySem PySem.W PyProof.Rows PySem.SeqAt PySem.Builtin.Str
set_option tactic.hygienic false
namespace Mine
mutual
noncomputable def toPy:PV→Option PyData
  | .none=>some .none
  | .bool b=>some (.bool b)
  | .int i=>some (.int i)
  | .str x=>some (.str x)
  | .list xs=>(toPys xs).map .list
  | .tuple xs=>(toPys xs).map .tuple
  | .obj _=>none
  | .range _ _ _=>none
noncomputable def toPys:List PV→Option (List PyData)
  | []=>some []
  | x::xs=>match toPy x,toPys xs with
    | some d,some ds=>some (d::ds)
    | _,_=>none
end
section
variable {h:Heap} {Av:Addr→Prop}
mutual
theorem VR.reads:∀{p:PV} {v:Value} {d:PyData},VR h Av v p→toPy p=some d→∃as,Reads h v d as
  | .none,v,d,x,e=>by unfold VR at x;unfold toPy at e;cases e;subst x;exact ⟨_,.none⟩
  | .bool b,v,d,x,e=>by unfold VR at x;unfold toPy at e;cases e;subst x;exact ⟨_,.bool b⟩
  | .int i,v,d,x,e=>by unfold VR at x;unfold toPy at e;cases e;obtain ⟨t,rfl⟩:=x;exact ⟨_,.int i t⟩
  | .str y,v,d,x,e=>by unfold VR at x;unfold toPy at e;cases e;obtain ⟨t,rfl⟩:=x;exact ⟨_,.str y t⟩
  | .list xs,v,d,x,e=>by
    unfold VR at x;unfold toPy at e
    obtain ⟨a,vs,n,rfl,g,_,r⟩:=x
    cases q:toPys xs with
    | none=>rw [q] at e;cases e
    | some ds=>
      rw [q] at e;cases e
      obtain ⟨as,z⟩:=VRs.reads r q
      exact ⟨_,.list (vs:=vs.toArray) g rfl rfl z⟩
  | .tuple xs,v,d,x,e=>by
    unfold VR at x;unfold toPy at e
    obtain ⟨a,vs,n,rfl,g,_,r⟩:=x
    cases q:toPys xs with
    | none=>rw [q] at e;cases e
    | some ds=>
      rw [q] at e;cases e
      obtain ⟨as,z⟩:=VRs.reads r q
      exact ⟨_,.tuple (vs:=vs.toArray) g rfl rfl z⟩
  | .obj _,v,d,x,e=>by unfold toPy at e;cases e
  | .range _ _ _,v,d,x,e=>by unfold toPy at e;cases e
theorem VRs.reads:∀{ps:List PV} {vs:List Value} {ds:List PyData},VRs h Av vs ps→toPys ps=some ds→∃as,ReadsAll h vs ds as
  | [],[],ds,_,e=>by unfold toPys at e;cases e;exact ⟨_,.nil⟩
  | [],_::_,_,x,_=>by unfold VRs at x;exact x.elim
  | _::_,[],_,x,_=>by unfold VRs at x;exact x.elim
  | p::ps,v::vs,ds,x,e=>by
    unfold VRs at x
    unfold toPys at e
    cases q1:toPy p with
    | none=>rw [q1] at e;cases e
    | some d=>
      cases q2:toPys ps with
      | none=>rw [q1,q2] at e;cases e
      | some dt=>
        rw [q1,q2] at e
        cases e
        obtain ⟨as,z1⟩:=VR.reads x.1 q1
        obtain ⟨bs,z2⟩:=VRs.reads x.2 q2
        exact ⟨_,.cons z1 z2⟩
end
end
noncomputable def pyEq (a b:PV):Option Bool:=match toPy a,toPy b with
  | some x,some y=>if shaped x=true∧shaped y=true then some (PyData.eqv x y) else none
  | _,_=>none
noncomputable def pyIn (x c:PV):Option Bool:=match c with
  | .list ys=>match toPy x,toPys ys with
    | some d,some ds=>if shaped (.list ds)=true∧shaped d=true then some (ds.any fun y=>PyData.eqv y d) else none
    | _,_=>none
  | _=>none
noncomputable def pyIs:PV→PV→Option Bool
  | .obj a,.obj b=>if a=b then some true else none
  | .str _,.obj _=>some false
  | _,_=>none
noncomputable def strIn (y x:Str):Bool:= !(occurrences x y 0 x.length 1).isEmpty
noncomputable def cmpOp (op:CmpOp) (a b:PV):Option Bool:=match op with
  | .Eq=>((onI a b fun a b=>some (a==b)).or (onS a b fun a b=>some (a.cps.toList==b.cps.toList))).or (pyEq a b)
  | .NotEq=>((onI a b fun a b=>some (a != b)).or (onS a b fun a b=>some (a.cps.toList != b.cps.toList))).or ((pyEq a b).map (!·))
  | .Lt=>onI a b fun a b=>some (decide (a < b))
  | .LtE=>(onI a b fun a b=>some (decide (a≤b))).or (onS a b fun a b=>some (!(decide (b.cps.toList < a.cps.toList))))
  | .Gt=>(onI a b fun a b=>some (decide (a>b))).or (onS a b fun a b=>some (decide (b.cps.toList < a.cps.toList)))
  | .GtE=>onI a b fun a b=>some (decide (a≥b))
  | .In=>(onS a b fun a b=>some (strIn a b)).or (pyIn a b)
  | .NotIn=>(onS a b fun a b=>some (!strIn a b)).or ((pyIn a b).map (!·))
  | .Is=>pyIs a b
  | .IsNot=>(pyIs a b).map (!·)
section
variable {X:Cx} {F:FI} {d:Nat} {A:Around} {Av:Addr→Prop} {s:Shared} {Q:Value→Shared→Prop} {E:Value→Shared→Prop}
theorem Room.u {d:Nat} {A:Around} (h:Room d A) (k:Nat) (hk:autoParam (k≤900) Mine.au8._auto_1):A.units+k < cLine:=by
  have:=h.2.2
  show A.units+k < 9900
  lia
theorem not_some {o:Option Bool} {c:Bool} (h:o.map (!·)=some c):∃b,o=some b∧(!b)=c:=Option.map_eq_some_iff.mp h
set_option tactic.hygienic true in
theorem pyEq_some {a b:PV} {c:Bool} (h:pyEq a b=some c):∃x y,toPy a=some x∧toPy b=some y∧(shaped x=true∧shaped y=true)∧PyData.eqv x y=c:=by
  unfold pyEq at h
  split at h
  · rename_i x y e1 e2
    exact ⟨x,y,e1,e2,when_some h⟩
  · cases h
theorem pyEq_w {a b:PV} {va vb:Value} {c:Bool} (hA:Room d A) (h:pyEq a b=some c) (ha:VR s.heap Av va a) (hb:VR s.heap Av vb b) (k:Q (.bool c) s):wpAny (model X.prog X.w) A (compareOp .Eq va vb) Q E s:=by
  obtain ⟨x,y,e1,e2,q,rfl⟩:=pyEq_some h
  obtain ⟨_,z1⟩:=ha.reads e1
  obtain ⟨_,z2⟩:=hb.reads e2
  exact eq_dataH z1 z2 q.1 q.2 (hA.u 64) k
theorem pyNe_w {a b:PV} {va vb:Value} {c:Bool} (hA:Room d A) (h:(pyEq a b).map (!·)=some c) (ha:VR s.heap Av va a) (hb:VR s.heap Av vb b) (k:Q (.bool c) s):wpAny (model X.prog X.w) A (compareOp .NotEq va vb) Q E s:=by
  obtain ⟨c',h',rfl⟩:=not_some h
  obtain ⟨x,y,e1,e2,q,rfl⟩:=pyEq_some h'
  obtain ⟨_,z1⟩:=ha.reads e1
  obtain ⟨_,z2⟩:=hb.reads e2
  exact ne_dataH z1 z2 q.1 q.2 (hA.u 64) k
set_option tactic.hygienic true in
theorem pyIn_some {a b:PV} {c:Bool} (h:pyIn a b=some c):∃d ds,toPy a=some d∧toPy b=some (.list ds)∧(shaped (.list ds)=true∧shaped d=true)∧(ds.any fun y=>PyData.eqv y d)=c:=by
  unfold pyIn at h
  split at h
  · split at h
    · rename_i x ds e1 e2
      exact ⟨x,ds,e1,by unfold toPy;rw [e2];rfl,when_some h⟩
    · cases h
  · cases h
theorem pyIn_w {a b:PV} {va vb:Value} {c:Bool} (hA:Room d A) (h:pyIn a b=some c) (ha:VR s.heap Av va a) (hb:VR s.heap Av vb b) (k:Q (.bool c) s):wpAny (model X.prog X.w) A (compareOp .In va vb) Q E s:=by
  obtain ⟨x,ds,e1,e2,q,rfl⟩:=pyIn_some h
  obtain ⟨_,z1⟩:=ha.reads e1
  obtain ⟨_,z2⟩:=hb.reads e2
  exact in_list_reads z2 z1 (canLay_of_shaped q.1) (canLay_of_shaped q.2) (room_in_shaped q.2 (hA.u 65)) k
theorem pyNotIn_w {a b:PV} {va vb:Value} {c:Bool} (hA:Room d A) (h:(pyIn a b).map (!·)=some c) (ha:VR s.heap Av va a) (hb:VR s.heap Av vb b) (k:Q (.bool c) s):wpAny (model X.prog X.w) A (compareOp .NotIn va vb) Q E s:=by
  obtain ⟨c',h',rfl⟩:=not_some h
  obtain ⟨x,ds,e1,e2,q,rfl⟩:=pyIn_some h'
  obtain ⟨_,z1⟩:=ha.reads e1
  obtain ⟨_,z2⟩:=hb.reads e2
  exact notIn_list_reads z2 z1 (canLay_of_shaped q.1) (canLay_of_shaped q.2) (room_in_shaped q.2 (hA.u 65)) k
theorem pyIs_w {a b:PV} {va vb:Value} {c:Bool} (h:pyIs a b=some c) (ha:VR s.heap Av va a) (hb:VR s.heap Av vb b) (k:Q (.bool c) s):wpAny (model X.prog X.w) A (compareOp .Is va vb) Q E s:=by
  unfold pyIs at h
  split at h
  · split at h<;>cases h
    subst_vars
    unfold VR at ha hb
    obtain ⟨rfl,_⟩:=ha
    obtain ⟨rfl,_⟩:=hb
    exact wpAny_is_ref_self k
  · cases h
    unfold VR at ha hb
    obtain ⟨t,rfl⟩:=ha
    obtain ⟨rfl,_⟩:=hb
    exact wpAny_is_other rfl (fun e=>by cases e) k
  · cases h
theorem pyIsNot_w {a b:PV} {va vb:Value} {c:Bool} (h:(pyIs a b).map (!·)=some c) (ha:VR s.heap Av va a) (hb:VR s.heap Av vb b) (k:Q (.bool c) s):wpAny (model X.prog X.w) A (compareOp .IsNot va vb) Q E s:=by
  unfold pyIs at h
  split at h
  · split at h<;>cases h
    subst_vars
    unfold VR at ha hb
    obtain ⟨rfl,_⟩:=ha
    obtain ⟨rfl,_⟩:=hb
    exact wpAny_isNot_ref_self k
  · cases h
    unfold VR at ha hb
    obtain ⟨t,rfl⟩:=ha
    obtain ⟨rfl,_⟩:=hb
    exact wpAny_isNot_other rfl (fun e=>by cases e) k
  · cases h
theorem cmpI {op:CmpOp} {f:Int→Int→Bool} {a b:PV} {va vb:Value} {c:Bool} (P:∀{x y:Int} {t u:Tok},Q (.bool (f x y)) s→wpAny (model X.prog X.w) A (compareOp op (.int x t) (.int y u)) Q E s) (h:onI a b (fun x y=>some (f x y))=some c) (ha:VR s.heap Av va a) (hb:VR s.heap Av vb b) (k:Q (.bool c) s):wpAny (model X.prog X.w) A (compareOp op va vb) Q E s:=by
  obtain ⟨x,y,rfl,rfl,h⟩:=onI_some h
  obtain ⟨t,rfl⟩:=ha.int_of
  obtain ⟨u,rfl⟩:=hb.int_of
  cases h
  exact P k
theorem cmpS {op:CmpOp} {f:Str→Str→Bool} {a b:PV} {va vb:Value} {c:Bool} (P:∀{x y:Str} {t u:Tok},Q (.bool (f x y)) s→wpAny (model X.prog X.w) A (compareOp op (.str x t) (.str y u)) Q E s) (h:onS a b (fun x y=>some (f x y))=some c) (ha:VR s.heap Av va a) (hb:VR s.heap Av vb b) (k:Q (.bool c) s):wpAny (model X.prog X.w) A (compareOp op va vb) Q E s:=by
  obtain ⟨x,y,rfl,rfl,h⟩:=onS_some h
  obtain ⟨t,rfl⟩:=ha.str_of
  obtain ⟨u,rfl⟩:=hb.str_of
  cases h
  exact P k
theorem cmpOp_w {op:CmpOp} {a b:PV} {va vb:Value} {c:Bool} (hA:Room d A) (h:cmpOp op a b=some c) (ha:VR s.heap Av va a) (hb:VR s.heap Av vb b) (k:Q (.bool c) s):wpAny (model X.prog X.w) A (compareOp op va vb) Q E s:=
  match op,h with
  | .Eq,h=>(or_some h).elim (fun h=>(or_some h).elim (fun h=>cmpI P.eq_int h ha hb k) fun h=>cmpS P.eq_str h ha hb k) fun h=>pyEq_w hA h ha hb k
  | .NotEq,h=>(or_some h).elim (fun h=>(or_some h).elim (fun h=>cmpI P.ne_int h ha hb k) fun h=>cmpS P.ne_str h ha hb k) fun h=>pyNe_w hA h ha hb k
  | .Lt,h=>cmpI P.lt_int h ha hb k
  | .LtE,h=>(or_some h).elim (fun h=>cmpI P.le_int h ha hb k) fun h=>cmpS (fun k=>P.le_str (by simpa using k)) h ha hb k
  | .Gt,h=>(or_some h).elim (fun h=>cmpI P.gt_int h ha hb k) fun h=>cmpS P.gt_str h ha hb k
  | .GtE,h=>cmpI P.ge_int h ha hb k
  | .In,h=>(or_some h).elim (fun h=>cmpS P.in_str h ha hb k) fun h=>pyIn_w hA h ha hb k
  | .NotIn,h=>(or_some h).elim (fun h=>cmpS P.notIn_str h ha hb k) fun h=>pyNotIn_w hA h ha hb k
  | .Is,h=>pyIs_w h ha hb k
  | .IsNot,h=>pyIsNot_w h ha hb k
noncomputable def truthOf:PV→Option Bool
  | .bool b=>some b
  | .int i=>some (i != 0)
  | .str x=>if x.length < 9223372036854775808 then some ((x.length:Int) != 0) else none
  | .list xs=>if xs.length < 9223372036854775808 then some (!xs.isEmpty) else none
  | .none=>some false
  | _=>none
set_option tactic.hygienic true in
theorem truthOf_w {p:PV} {v:Value} {c:Bool} {Q:Bool→Shared→Prop} (h:truthOf p=some c) (hp:VR s.heap Av v p) (k:∀s',Grow s s'→Q c s'):wpAny (model X.prog X.w) A (truthy v) Q E s:=by
  unfold truthOf at h
  split at h
  · cases h;unfold VR at hp;subst hp;exact wpAny_truthy_bool (k _ (Grow.refl s))
  · cases h;unfold VR at hp;obtain ⟨t,rfl⟩:=hp;exact truthy_int (k _ (Grow.refl s))
  · split at h<;>cases h
    unfold VR at hp;obtain ⟨t,rfl⟩:=hp
    exact SBL.truthy (by lia) (k _ .toks)
  · split at h<;>cases h
    rename_i xs q
    unfold VR at hp
    obtain ⟨a,vs,n,rfl,g,_,z⟩:=hp
    have hl:=VRs.length z
    refine wpAny_truthy_list (l:=a) (items:=vs.toArray) ⟨_,g,rfl,n,rfl⟩ (by rw [List.size_toArray];lia) ?_
    have e:(!vs.toArray.isEmpty)=(!xs.isEmpty):=by cases vs<;>cases xs<;>simp_all
    rw [e]
    exact k _ .toks
  · cases h;unfold VR at hp;subst hp;exact truthy_none (k _ (Grow.refl s))
  · cases h
end
end Mine
end
section
open PySem PySem.W PyProof.Rows
set_option tactic.hygienic false
namespace Mine
section
variable {X:Cx} {F:FI} {d:Nat}
noncomputable def cmpF (op:CmpOp) (f g:EvE):EvB:=bindE f fun a=>bindE g fun b=>liftE (cmpOp op a b)
theorem b_cmp {op:CmpOp} {l r:Expr} {pos:Pos} {f g:EvE} (hl:SoundE X F d l f) (hr:SoundE X F d r g) (hm:autoParam (behindInMarks op r=false) Mine.au9._auto_1):SoundB X F d (.Compare l [op] [r] pos) (cmpF op f g):=by
  refine @SoundT.intro _ _ _ _ _ _ _ _ ?_
  intro A Av Mu env st st' s v Q E hA hf R₀ tk k
  refine bindE_elim hf fun a st1 h1 hf=>?_
  refine bindE_elim hf fun b st2 h2 hf=>?_
  obtain ⟨h3,rfl⟩:=liftE_some hf
  refine wpAny_isTrue_Compare1 (hl _ hA h1 R₀ tk fun va s1 Av1 Mu1 R1 S1 V1 tk1=>hr _ hA h2 R1 tk1 fun vb s2 Av2 Mu2 R2 S2 V2 tk2=>?_) hm
  exact cmpOp_w hA h3 (V1.step S2.toStep R1.ma) V2 (wpAny_truthy_bool (k _ _ Av2 Mu2 R2 (S1.trans S2 R₀.lt) rfl))
theorem s_cmp {op:CmpOp} {l r:Expr} {pos:Pos} {f g:EvE} (hl:SoundE X F d l f) (hr:SoundE X F d r g) (hm:autoParam (behindInMarks op r=false) Mine.au9._auto_1):
    SoundE X F d (.Compare l [op] [r] pos) (bindE (cmpF op f g) fun b=>pureE (.bool b)):=by
  refine @SoundT.intro _ _ _ _ _ _ _ _ ?_
  intro A Av Mu env st st' s v Q E hA hf R₀ tk k
  refine bindE_elim hf fun c st3 hf hz=>?_
  cases hz
  refine bindE_elim hf fun a st1 h1 hf=>?_
  refine bindE_elim hf fun b st2 h2 hf=>?_
  obtain ⟨h3,rfl⟩:=liftE_some hf
  refine wpAny_Compare1 (hl _ hA h1 R₀ tk fun va s1 Av1 Mu1 R1 S1 V1 tk1=>hr _ hA h2 R1 tk1 fun vb s2 Av2 Mu2 R2 S2 V2 tk2=>?_) hm
  exact cmpOp_w hA h3 (V1.step S2.toStep R1.ma) V2 (k _ _ Av2 Mu2 R2 (S1.trans S2 R₀.lt) VR.bool')
theorem b_cmp2 {op op':CmpOp} {l r r':Expr} {pos:Pos} {f g h:EvE} (hl:SoundE X F d l f) (hr:SoundE X F d r g) (hr':SoundE X F d r' h) (hm:autoParam (lastMarks [op,op'] [r,r']=false) Mine.au9._auto_1):
    SoundB X F d (.Compare l [op,op'] [r,r'] pos) (bindE f fun a=>bindE g fun b=>bindE (liftE (cmpOp op a b)) fun c=>if c then bindE h fun b'=>liftE (cmpOp op' b b') else pureE false):=by
  refine @SoundT.intro _ _ _ _ _ _ _ _ ?_
  intro A Av Mu env st st' s v Q E hA hf R₀ tk k
  refine bindE_elim hf fun a st1 h1 hf1=>?_
  refine bindE_elim hf1 fun b st2 h2 hf2=>?_
  refine bindE_elim hf2 fun c st3 h3 hf3=>?_
  obtain ⟨h4,e4⟩:=liftE_some h3
  rw [e4] at hf3
  refine isTrue_chain (hl _ hA h1 R₀ tk fun va s1 Av1 Mu1 R1 S1 V1 tk1=>test_link (hr _ hA h2 R1 tk1 fun vb s2 Av2 Mu2 R2 S2 V2 tk2=>?_)) hm
  refine cmpOp_w hA h4 (V1.step S2.toStep R1.ma) V2 (wpAny_truthy_bool ?_)
  cases c with
  | false=>
    cases hf3
    exact k _ _ Av2 Mu2 R2 (S1.trans S2 R₀.lt) rfl
  | true=>
    rw [if_pos rfl] at hf3
    refine bindE_elim hf3 fun b' st4 h5 hf5=>?_
    obtain ⟨h6,e6⟩:=liftE_some hf5
    subst e6
    refine test_last (hr' _ hA h5 R2 tk2 fun vc s3 Av3 Mu3 R3 S3 V3 tk3=>?_)
    exact cmpOp_w hA h6 (V2.step S3.toStep R2.ma) V3 (wpAny_truthy_bool (k _ _ Av3 Mu3 R3 ((S1.trans S2 R₀.lt).trans S3 R₀.lt) rfl))
theorem b_not {e:Expr} {pos:Pos} {f:EvB} (h:SoundB X F d e f):SoundB X F d (.UnaryOp .Not e pos) (bindE f fun b=>pureE (!b)):=by
  refine @SoundT.intro _ _ _ _ _ _ _ _ ?_
  intro A Av Mu env st st' s v Q E hA hf R₀ tk k
  refine bindE_elim hf fun a st1 h1 hf=>?_
  cases hf
  refine isTrue_not (h _ hA h1 R₀ tk fun va s1 Av1 Mu1 R1 S1 V1 tk1=>?_)
  cases V1
  exact k _ _ _ _ R1 S1 rfl
noncomputable def andF (f g:EvB):EvB:=bindE f fun b=>if b then g else pureE false
noncomputable def orF (f g:EvB):EvB:=bindE f fun b=>if b then pureE true else g
theorem b_and1 {x:Expr} {pos:Pos} {f:EvB} (h:SoundB X F d x f):SoundB X F d (.BoolOp .And [x] pos) f:=by
  refine @SoundT.intro _ _ _ _ _ _ _ _ ?_
  intro A Av Mu env st st' s v Q E hA hf R₀ tk k
  refine isTrue_and (h _ hA hf R₀ tk fun va s1 Av1 Mu1 R1 S1 V1 tk1=>?_)
  cases V1
  cases v with
  | false=>exact k _ _ _ _ R1 S1 rfl
  | true=>exact isTrue_and_nil (k _ _ _ _ R1 S1 rfl)
theorem b_and {x y:Expr} {r:List Expr} {pos:Pos} {f g:EvB} (h:SoundB X F d x f) (h':SoundB X F d (.BoolOp .And (y::r) pos) g):SoundB X F d (.BoolOp .And (x::y::r) pos) (andF f g):=by
  refine @SoundT.intro _ _ _ _ _ _ _ _ ?_
  intro A Av Mu env st st' s v Q E hA hf R₀ tk k
  refine bindE_elim hf fun a st1 h1 hf=>?_
  refine isTrue_and (h _ hA h1 R₀ tk fun va s1 Av1 Mu1 R1 S1 V1 tk1=>?_)
  cases V1
  cases a with
  | false=>cases hf;exact k _ _ _ _ R1 S1 rfl
  | true=>exact h' _ hA hf R1 tk1 fun vb s2 Av2 Mu2 R2 S2 V2 tk2=>k _ _ _ _ R2 (S1.trans S2 R₀.lt) V2
theorem b_or1 {x:Expr} {pos:Pos} {f:EvB} (h:SoundB X F d x f):SoundB X F d (.BoolOp .Or [x] pos) f:=by
  refine @SoundT.intro _ _ _ _ _ _ _ _ ?_
  intro A Av Mu env st st' s v Q E hA hf R₀ tk k
  refine isTrue_or (h _ hA hf R₀ tk fun va s1 Av1 Mu1 R1 S1 V1 tk1=>?_)
  cases V1
  cases v with
  | true=>exact k _ _ _ _ R1 S1 rfl
  | false=>exact isTrue_or_nil (k _ _ _ _ R1 S1 rfl)
theorem b_or {x y:Expr} {r:List Expr} {pos:Pos} {f g:EvB} (h:SoundB X F d x f) (h':SoundB X F d (.BoolOp .Or (y::r) pos) g):SoundB X F d (.BoolOp .Or (x::y::r) pos) (orF f g):=by
  refine @SoundT.intro _ _ _ _ _ _ _ _ ?_
  intro A Av Mu env st st' s v Q E hA hf R₀ tk k
  refine bindE_elim hf fun a st1 h1 hf=>?_
  refine isTrue_or (h _ hA h1 R₀ tk fun va s1 Av1 Mu1 R1 S1 V1 tk1=>?_)
  cases V1
  cases a with
  | true=>cases hf;exact k _ _ _ _ R1 S1 rfl
  | false=>exact h' _ hA hf R1 tk1 fun vb s2 Av2 Mu2 R2 S2 V2 tk2=>k _ _ _ _ R2 (S1.trans S2 R₀.lt) V2
theorem b_plain {e:Expr} {f:EvE} (h:SoundE X F d e f) (he:autoParam (∀env whole,isTrue e env whole=(do let v ←whole;standAt e.pos;holding [v] (truthy v))) Mine.au1._auto_1):SoundB X F d e (bindE f fun a=>liftE (truthOf a)):=by
  refine @SoundT.intro _ _ _ _ _ _ _ _ ?_
  intro A Av Mu env st st' s v Q E hA hf R₀ tk k
  refine bindE_elim hf fun a st1 h1 hf=>?_
  obtain ⟨h3,rfl⟩:=liftE_some hf
  refine isTrue_plain (h _ hA h1 R₀ tk fun va s1 Av1 Mu1 R1 S1 V1 tk1=>?_) (he env _)
  exact truthOf_w h3 V1 fun s' G=>k _ _ Av1 Mu1 (R1.grow G) (S1.trans (StepE.ofGrow G) R₀.lt) rfl
theorem s_ifexp {t b o:Expr} {pos:Pos} {f:EvB} {g h:EvE} (ht:SoundB X F d t f) (hb:SoundE X F d b g) (ho:SoundE X F d o h):SoundE X F d (.IfExp t b o pos) (bindE f fun c=>if c then g else h):=by
  refine @SoundT.intro _ _ _ _ _ _ _ _ ?_
  intro A Av Mu env st st' s v Q E hA hf R₀ tk k
  refine bindE_elim hf fun a st1 h1 hf=>?_
  refine wpAny_IfExp (ht _ hA h1 R₀ tk fun va s1 Av1 Mu1 R1 S1 V1 tk1=>?_)
  cases V1
  cases a with
  | true=>exact hb _ hA hf R1 tk1 fun vb s2 Av2 Mu2 R2 S2 V2 tk2=>k _ _ _ _ R2 (S1.trans S2 R₀.lt) V2
  | false=>exact ho _ hA hf R1 tk1 fun vb s2 Av2 Mu2 R2 S2 V2 tk2=>k _ _ _ _ R2 (S1.trans S2 R₀.lt) V2
noncomputable def seqF (f g:EvS):EvS:=bindE f fun fl=>match fl with
  | .next=>g
  | fl=>pureE fl
theorem s_nil:SoundS X F d [] (pureE .next):=by
  refine @SoundU.intro _ _ _ _ _ _ _ _ ?_
  intro A Av Mu env st st' s v Q E hA hf R₀ tk k
  cases hf
  exact wpAny_execs_nil (k _ _ _ _ R₀ Step.refl trivial)
theorem s_cons {c:Stmt} {r:List Stmt} {f g:EvS} (h:SoundX X F d c f) (h':SoundS X F d r g):SoundS X F d (c::r) (seqF f g):=by
  refine @SoundU.intro _ _ _ _ _ _ _ _ ?_
  intro A Av Mu env st st' s v Q E hA hf R₀ tk k
  refine bindE_elim hf fun a st1 h1 hf=>?_
  refine wpAny_execs_cons (h _ hA h1 R₀ tk fun va s1 Av1 Mu1 R1 S1 V1 tk1=>?_)
  cases a with
  | next=>
    cases va<;>first | exact V1.elim | skip
    exact h' _ hA hf R1 tk1 fun vb s2 Av2 Mu2 R2 S2 V2 tk2=>k _ _ _ _ R2 (S1.trans S2 R₀.lt) V2
  | brk=>
    cases va<;>first | exact V1.elim | skip
    cases hf
    exact k _ _ _ _ R1 S1 V1
  | ret p=>
    cases va<;>first | exact V1.elim | skip
    cases hf
    exact k _ _ _ _ R1 S1 V1
theorem x_break {pos:Pos}:SoundX X F d (.Break pos) (pureE .brk):=by
  refine @SoundU.intro _ _ _ _ _ _ _ _ ?_
  intro A Av Mu env st st' s v Q E hA hf R₀ tk k
  cases hf
  exact wpAny_Break (k _ _ _ _ R₀ Step.refl trivial)
theorem x_ret {e:Expr} {pos:Pos} {f:EvE} (h:SoundE X F d e f):SoundX X F d (.Return (some e) pos) (bindE f fun p=>pureE (.ret p)):=by
  refine @SoundU.intro _ _ _ _ _ _ _ _ ?_
  intro A Av Mu env st st' s v Q E hA hf R₀ tk k
  refine bindE_elim hf fun a st1 h1 hf=>?_
  cases hf
  exact wpAny_Return_some (h _ hA h1 R₀ tk fun va s1 Av1 Mu1 R1 S1 V1 tk1=>k _ _ _ _ R1 S1.toStep V1)
theorem x_if {t:Expr} {b o:List Stmt} {pos:Pos} {f:EvB} {g h:EvS} (ht:SoundB X F d t f) (hb:SoundS X F d b g) (ho:SoundS X F d o h):SoundX X F d (.If t b o pos) (bindE f fun c=>if c then g else h):=by
  refine @SoundU.intro _ _ _ _ _ _ _ _ ?_
  intro A Av Mu env st st' s v Q E hA hf R₀ tk k
  refine bindE_elim hf fun a st1 h1 hf=>?_
  refine wpAny_If (ht _ hA h1 R₀ tk fun va s1 Av1 Mu1 R1 S1 V1 tk1=>?_)
  cases V1
  cases a with
  | true=>exact hb _ hA hf R1 tk1 fun vb s2 Av2 Mu2 R2 S2 V2 tk2=>k _ _ _ _ R2 (S1.toStep.trans S2 R₀.lt) V2
  | false=>exact ho _ hA hf R1 tk1 fun vb s2 Av2 Mu2 R2 S2 V2 tk2=>k _ _ _ _ R2 (S1.toStep.trans S2 R₀.lt) V2
set_option tactic.hygienic true in
theorem x_assert {t:Expr} {m:Option Expr} {pos:Pos} {f:EvB} (ht:SoundB X F d t f):SoundX X F d (.Assert t m pos) (bindE f fun c=>if c then pureE .next else fun _=>none):=by
  refine @SoundU.intro _ _ _ _ _ _ _ _ ?_
  intro A Av Mu env st st' s v Q E hA hf R₀ tk k
  refine bindE_elim hf fun a st1 h1 hf=>?_
  refine wpAny_Assert_holds (ht _ hA h1 R₀ tk fun va s1 Av1 Mu1 R1 S1 V1 tk1=>?_)
  cases V1
  cases a with
  | true=>cases hf;exact ⟨rfl,k _ _ _ _ R1 S1.toStep trivial⟩
  | false=>cases hf
noncomputable def setV (i:Nat) (p:PV):EvS:=fun st=>some (.next,st.set i (.froz p))
theorem x_assign {x:Str} {i:Nat} {pos' pos:Pos} {e:Expr} {f:EvE} (h:SoundE X F d e f) (hi:F.names[i]? =some x) (hl:F.Wr x)
    (hs:autoParam (∀env,swapsWith e (some (.Name x pos')) pos.line env=pure false) Mine.au4._auto_1):SoundX X F d (.Assign [.Name x pos'] e pos) (bindE f fun p=>setV i p):=by
  refine @SoundU.intro _ _ _ _ _ _ _ _ ?_
  intro A Av Mu env st st' s v Q E hA hf R₀ tk k
  refine bindE_elim hf fun a st1 h1 hf=>?_
  cases hf
  refine wpAny_Assign_Name (h _ hA h1 R₀ tk fun va s1 Av1 Mu1 R1 S1 V1 tk1=>?_) (hs env)
  exact wp_store R1 hi (b:=.froz a) V1 hl fun s2 R2 S2=>k _ _ _ _ R2 (S1.toStep.trans S2 R₀.lt) trivial
noncomputable def whileF (t:EvB) (b:EvS):Nat→EvS
  | 0=>fun _=>none
  | n+1=>bindE t fun c=>if c then (bindE b fun fl=>match fl with
      | .next=>whileF t b n
      | .brk=>pureE .next
      | .ret p=>pureE (.ret p)) else pureE .next
theorem mark_none {A:Around}:A.mark none=A:=by cases A;rfl
theorem loop_turn {M:Model} {A:Around} {c:Code} {t:Sem Fin} {kk:Value→Sem Unit} {K:Result→Shared→Prop} {s:Shared} (hw:c.weight=0) (hu:c.cUnits=0) (hd:M.den c=t.onRaise kk)
    (h:∀(Q:Fin→Shared→Prop) (E:Value→Shared→Prop),(∀f s',K (.ok f) s'→Q (.done f) s')→(∀c s',c.quiet=true→codeAny M A c K s'→Q (.again c) s')→wpAny M A t Q E s):codeAny M A c K s:=by
  refine codeAny_of_tree ?_
  rw [Around.under_of_weight hw hu,hd]
  exact wpAny_onRaise (h _ _ (fun f s' h=>h) fun c s' q h=>⟨q,h⟩)
theorem code_while {t:Expr} {b:List Stmt} {f:EvB} {g:EvS} (ht:SoundB X F d t f) (hb:SoundS X F d b g):∀(n:Nat) {A:Around} {Av Mu:Addr→Prop} {env:Env} {st st':St} {s:Shared} {v:Fl} {K:Result→Shared→Prop},
    Room d A→whileF f g n st=some (v,st')→R X F Av Mu env st s→1≤s.toks→(∀x s' Av' Mu',R X F Av' Mu' env st' s'→Step Av Mu s Av' Mu' s'→FlR s'.heap Av' x v→K (.ok x) s')→
    codeAny (model X.prog X.w) A (.whileLoop t b [] env) K s
  | 0,_,_,_,_,_,_,_,_,_,_,hf,_,_,_=>by cases hf
  | n+1,A,Av,Mu,env,st,st',s,v,K,hA,hf,R₀,tk,k=>by
    refine loop_turn (t:=whileTurn t b [] env) (kk:=fun x=>do noteFrame x env;theTreesLotGoes x) rfl rfl rfl fun Q E hdone hagain=>?_
    unfold whileTurn
    refine bindE_elim hf fun c st1 h1 hf=>?_
    refine wpAny_bind (ht _ hA h1 R₀ tk fun va s1 Av1 Mu1 R1 S1 V1 tk1=>?_)
    cases V1
    cases c with
    | false=>
      cases hf
      exact wpAny_bind (wpAny_execs_nil (wpAny_pure (hdone _ _ (k _ _ _ _ R1 S1.toStep trivial))))
    | true=>
      rw [if_pos rfl] at hf
      refine bindE_elim hf fun fl st2 h2 hf=>?_
      refine wpAny_bind (hb _ hA h2 R1 tk1 fun vb s2 Av2 Mu2 R2 S2 V2 tk2=>?_)
      have T:=S1.toStep.trans S2 R₀.lt
      cases fl with
      | next=>
        cases vb<;>first | exact V2.elim | exact wpAny_pure (hagain _ _ rfl (code_while ht hb n hA hf R2 tk2 fun x s' Av' Mu' R' S' V'=>k x s' Av' Mu' R' (T.trans S' R₀.lt) V'))
      | brk=>
        cases hf
        cases vb<;>first | exact V2.elim | exact wpAny_pure (hdone _ _ (k _ _ _ _ R2 T trivial))
      | ret p=>
        cases hf
        cases vb<;>first | exact V2.elim | exact wpAny_pure (hdone _ _ (k _ _ _ _ R2 T V2))
theorem x_while {t:Expr} {b:List Stmt} {pos:Pos} {f:EvB} {g:EvS} (n:Nat) (ht:SoundB X F d t f) (hb:SoundS X F d b g):SoundX X F d (.While t b [] pos) (whileF f g n):=by
  refine @SoundU.intro _ _ _ _ _ _ _ _ ?_
  intro A Av Mu env st st' s v Q E hA hf R₀ tk k
  refine wpAny_While ?_
  exact code_while ht hb n hA hf R₀ tk fun x s' Av' Mu' R' S' V'=>k x s' Av' Mu' R' S' V'
end
end Mine
end
section
open PySem PySem.W PyProof.Rows PySem.Builtin.Str
set_option tactic.hygienic false
namespace Mine
theorem VRs.get {h:Heap} {Av:Addr→Prop}:∀{vs:List Value} {xs:List PV} {i:Nat} {p:PV},VRs h Av vs xs→xs[i]? =some p→∃v,vs[i]? =some v∧VR h Av v p
  | [],[],i,p,_,e=>by simp at e
  | [],_::_,_,_,x,_=>by unfold VRs at x;exact x.elim
  | _::_,[],_,_,x,_=>by unfold VRs at x;exact x.elim
  | v::vs,x::xs,0,p,h,e=>by
    unfold VRs at h
    simp at e
    exact ⟨v,rfl,e ▸ h.1⟩
  | v::vs,x::xs,i+1,p,h,e=>by
    unfold VRs at h
    simp only [List.getElem?_cons_succ] at e ⊢
    exact VRs.get h.2 e
theorem VRs.append {h:Heap} {Av:Addr→Prop}:∀{vs us:List Value} {xs ys:List PV},VRs h Av vs xs→VRs h Av us ys→VRs h Av (vs++us) (xs++ys)
  | [],us,[],ys,_,y=>y
  | [],_,_::_,_,x,_=>by unfold VRs at x;exact x.elim
  | _::_,_,[],_,x,_=>by unfold VRs at x;exact x.elim
  | v::vs,us,x::xs,ys,h,y=>by
    unfold VRs at h
    show VRs _ _ (v::(vs++us)) (x::(xs++ys))
    unfold VRs
    exact ⟨h.1,VRs.append h.2 y⟩
theorem VRs.nil {h:Heap} {Av:Addr→Prop}:VRs h Av [] []:=by unfold VRs;trivial
theorem VRs.cons {h:Heap} {Av:Addr→Prop} {v:Value} {vs:List Value} {x:PV} {xs:List PV} (a:VR h Av v x) (b:VRs h Av vs xs):VRs h Av (v::vs) (x::xs):=by unfold VRs;exact ⟨a,b⟩
noncomputable def pick {α:Type} (xs:List α) (is:List Nat):List α:=is.filterMap (xs[·]?)
theorem VRs.pick {h:Heap} {Av:Addr→Prop} {vs:List Value} {xs:List PV} (x:VRs h Av vs xs):∀is:List Nat,VRs h Av (Mine.pick vs is) (Mine.pick xs is)
  | []=>VRs.nil
  | i::is=>by
    have ih:=x.pick is
    unfold Mine.pick at ih ⊢
    simp only [List.filterMap_cons]
    cases e:xs[i]? with
    | none=>
      have:vs[i]? =none:=by
        rw [List.getElem?_eq_none_iff] at e ⊢
        rw [x.length];exact e
      rw [this]
      exact ih
    | some p=>
      obtain ⟨v,e1,z⟩:=x.get e
      rw [e1]
      exact VRs.cons z ih
section
variable {X:Cx} {F:FI} {d:Nat}
noncomputable def itemI (i:Int):PV→Option PV
  | .str x=>((seqIndex? i x.length).bind (x.cps[·]?)).map fun c=>.str ⟨#[c]⟩
  | .list xs=>(seqIndex? i xs.length).bind fun j=>xs[j]?
  | .tuple xs=>(seqIndex? i xs.length).bind fun j=>xs[j]?
  | _=>none
noncomputable def pyItem (o i:PV):Option PV:=(asInt i).bind fun i=>if -(2 ^ 63)≤i∧i < 2 ^ 63 then itemI i o else none
theorem inI {i:Int} (q: -(2 ^ 63)≤i∧i < 2 ^ 63):(decide (i < -(2 ^ 63:Int))||decide (i≥2 ^ 63))=false:=Bool.or_eq_false_iff.mpr ⟨decide_eq_false (Int.not_lt.mpr q.1),decide_eq_false (Int.not_le.mpr q.2)⟩
theorem pyItem_some {o i r:PV} (h:pyItem o i=some r):∃k,i=.int k∧(-(2 ^ 63)≤k∧k < 2 ^ 63)∧itemI k o=some r:=by
  obtain ⟨k,e,h⟩:=Option.bind_eq_some_iff.mp h
  by_cases q: -(2 ^ 63)≤k∧k < 2 ^ 63
  · rw [if_pos q] at h
    exact ⟨k,asInt_some e,q,h⟩
  · rw [if_neg q] at h
    cases h
theorem seqIndex_spec {i:Int} {n j:Nat} (h:seqIndex? i n=some j):(0≤i∧i < n∧j=i.toNat)∨(i < 0∧ -(n:Int)≤i∧j=(i+n).toNat):=by
  by_cases z:i < 0
  · simp only [seqIndex?,Bool.and_eq_true,decide_eq_true_eq,z,if_true,Option.ite_none_right_eq_some,Option.some.injEq] at h
    exact .inr ⟨z,by lia,h.2.symm⟩
  · simp only [seqIndex?,Bool.and_eq_true,decide_eq_true_eq,z,if_false,Option.ite_none_right_eq_some,Option.some.injEq] at h
    exact .inl ⟨by lia,by lia,h.2.symm⟩
theorem pyItem_list {xs:List PV} {i r:PV} (h:pyItem (.list xs) i=some r):∃k j,i=.int k∧(-(2 ^ 63)≤k∧k < 2 ^ 63)∧seqIndex? k xs.length=some j∧xs[j]? =some r:=by
  obtain ⟨k,e,q,h⟩:=pyItem_some h
  obtain ⟨j,e1,h⟩:=Option.bind_eq_some_iff.mp h
  exact ⟨k,j,e,q,e1,h⟩
section
variable {A:Around} {Av:Addr→Prop} {s:Shared} {Q:Value→Shared→Prop} {E:Value→Shared→Prop}
theorem list_item_w {l:Addr} {vs:List Value} {n:Nat} {i:Int} {t:Tok} {j:Nat} {v:Value} (g:s.heap.get? l=some (listObj vs n)) (hr: -(2 ^ 63)≤i∧i < 2 ^ 63) (hj:seqIndex? i vs.length=some j) (hv:vs[j]? =some v) (k:Q v s):
    wpAny (model X.prog X.w) A (getItem (.ref l) (.int i t)) Q E s:=by
  have hl:s.heap.IsList l vs.toArray:=⟨_,g,rfl,n,rfl⟩
  rcases seqIndex_spec hj with ⟨h1,h2,h3⟩ | ⟨h1,h2,h3⟩
  · exact wpAny_getItem_list hl h1 hr.2 (by rw [←h3];simpa using hv) k
  · exact wpAny_getItem_list_neg hl h1 (by rw [List.size_toArray];exact h2) hr.1 (by rw [List.size_toArray,←h3];simpa using hv) k
theorem pyItem_w {o i r:PV} {vo vi:Value} {value slice:Expr} (h:pyItem o i=some r) (ho:VR s.heap Av vo o) (hi:VR s.heap Av vi i)
    (hs:∀o i,subscripted slice false o i=operate [o,i] (getItem o i)) (k:∀v s',Grow s s'→VR s'.heap Av v r→Q v s'):wpAny (model X.prog X.w) A (subscriptTail value slice vo vi) Q E s:=by
  obtain ⟨i,rfl,q,h⟩:=pyItem_some h
  obtain ⟨u,rfl⟩:=hi.int_of
  cases o with
  | str x=>
    obtain ⟨c,e,rfl⟩:=Option.map_eq_some_iff.mp h
    obtain ⟨t,rfl⟩:=ho.str_of
    exact tail_any (typeIs_str s _ t) F.slot_str_getitem.lookup (P.getItem_str (inI q) e (k _ _ .toks VR.str')) (hs _ _)
  | list xs=>
    obtain ⟨j,e,h⟩:=Option.bind_eq_some_iff.mp h
    unfold VR at ho;obtain ⟨l,vs,n,rfl,g,na,z⟩:=ho
    obtain ⟨v,e1,z1⟩:=z.get h
    have hl:s.heap.IsList l vs.toArray:=⟨_,g,rfl,n,rfl⟩
    exact tail_any hl.typeIs slot_list_getitem.lookup (list_item_w g q (by rw [z.length];exact e) e1 (k _ _ (Grow.refl s) z1)) (hs _ _)
  | tuple xs=>
    obtain ⟨j,e,h⟩:=Option.bind_eq_some_iff.mp h
    unfold VR at ho;obtain ⟨l,vs,n,rfl,g,na,z⟩:=ho
    obtain ⟨v,e1,z1⟩:=z.get h
    have ht:IsTup s.heap l vs.toArray:=⟨_,g,rfl,n,rfl⟩
    exact tail_any ht.typeIs F.slot_tuple_getitem.lookup (getItem_tuple ht q.1 q.2 (by rw [List.size_toArray,z.length];exact e) (by simpa using e1) (k _ _ (Grow.refl s) z1)) (hs _ _)
  | _=>cases h
end
theorem s_item {value slice:Expr} {pos:Pos} {f g:EvE} (hv:SoundE X F d value f) (hi:SoundE X F d slice g) (hs:autoParam (∀o i,subscripted slice false o i=operate [o,i] (getItem o i)) Mine.au1._auto_1):
    SoundE X F d (.Subscript value slice pos) (bindE f fun o=>bindE g fun i=>liftE (pyItem o i)):=by
  refine @SoundT.intro _ _ _ _ _ _ _ _ ?_
  intro A Av Mu env st st' s v Q E hA hf R₀ tk k
  refine bindE_elim hf fun a st1 h1 hf=>?_
  refine bindE_elim hf fun b st2 h2 hf=>?_
  obtain ⟨h3,rfl⟩:=liftE_some hf
  refine Subscript_ (hv _ hA h1 R₀ tk fun va s1 Av1 Mu1 R1 S1 V1 tk1=>hi _ hA h2 R1 tk1 fun vb s2 Av2 Mu2 R2 S2 V2 tk2=>?_)
  exact pyItem_w h3 (V1.step S2.toStep R1.ma) V2 hs fun v' s' G V=>k _ _ Av2 Mu2 (R2.grow G) ((S1.trans S2 R₀.lt).trans (StepE.ofGrow G) R₀.lt) V
noncomputable def SoundP (X:Cx) (F:FI) (d:Nat) (e:Expr) (f:St→Option PV):Prop:=
  ∀(A:Around) {Av Mu:Addr→Prop} {env:Env} {st:St} {s:Shared} {v:PV} {Q:Value→Shared→Prop} {E:Value→Shared→Prop},
    Room d A→f st=some v→R X F Av Mu env st s→(∀x s',Grow s s'→VR s'.heap Av x v→Q x s')→wpAny (model X.prog X.w) A (eval e env) Q E s
noncomputable def ofP (f:St→Option PV):EvE:=fun st=>match f st with
  | some v=>some (v,st)
  | none=>none
set_option tactic.hygienic true in
theorem ofP_some {f:St→Option PV} {st st':St} {v:PV} (h:ofP f st=some (v,st')):f st=some v∧st'=st:=by
  unfold ofP at h
  split at h
  · rename_i x e
    cases h
    exact ⟨e,rfl⟩
  · cases h
theorem s_ofP {e:Expr} {f:St→Option PV} (h:SoundP X F d e f):SoundE X F d e (ofP f):=by
  refine @SoundT.intro _ _ _ _ _ _ _ _ ?_
  intro A Av Mu env st st' s v Q E hA hf R₀ tk k
  obtain ⟨h1,rfl⟩:=ofP_some hf
  exact h _ hA h1 R₀ fun x s' G V=>k _ _ _ _ (R₀.grow G) (StepE.ofGrow G) V
noncomputable def getP (i:Nat):St→Option PV:=fun st=>match st[i]? with
  | some (.froz p)=>some p
  | _=>none
theorem p_int {i:Int} {k:Nat} {pos:Pos}:SoundP X F d (.Constant (.int i) k pos) (fun _=>some (.int i)):=by
  intro A Av Mu env st s v Q E hr hf r k'
  cases hf
  exact wpAny_Constant_int (k' _ _ .toks VR.int')
set_option tactic.hygienic true in
theorem p_name {x:Str} {pos:Pos} {i:Nat} (hi:F.names[i]? =some x) (hn:autoParam ((x==("__classdict__":Str))=false) Mine.au3._auto_1) (hd:autoParam ((x==("__debug__":Str))=false) Mine.au3._auto_1):SoundP X F d (.Name x pos) (getP i):=by
  intro A Av Mu env st s v Q E hr hf r k
  unfold getP at hf
  split at hf<;>cases hf
  rename_i e
  obtain ⟨u,hv,q⟩:=r.vars i x _ hi e
  exact wpAny_Name (wp_load r hv hn (k _ _ (Grow.refl s) q)) hd
set_option tactic.hygienic true in
theorem p_bin {op:Operator} {l r:Expr} {pos:Pos} {f g:St→Option PV} (hl:SoundP X F d l f) (hr:SoundP X F d r g):SoundP X F d (.BinOp l op r pos) (fun st=>match f st,g st with
    | some a,some b=>binOp op a b
    | _,_=>none):=by
  intro A Av Mu env st s v Q E hA hf R₀ k
  dsimp only at hf
  split at hf
  · rename_i a b e1 e2
    refine wpAny_BinOp (hl _ hA e1 R₀ fun va s1 G1 V1=>hr _ hA e2 (R₀.grow G1) fun vb s2 G2 V2=>?_)
    exact binOp_w hf (V1.grow G2) V2 fun v' s' G V=>k _ _ ((G1.trans G2).trans G) V
  · cases hf
theorem p_neg {i:Int} {k:Nat} {pos pos':Pos}:SoundP X F d (.UnaryOp .USub (.Constant (.int i) k pos) pos') (fun _=>some (.int (-i))):=by
  intro A Av Mu env st s v Q E hr hf r k'
  cases hf
  show wpAny _ _ (do let v ←eval (.Constant (.int i) k pos) env;standAt pos';holding [v] (unaryOp .USub v)) _ _ _
  exact wpAny_bind (wpAny_Constant_int (wpAny_bind (wpAny_standAt (wpAny_holding (P.neg_int (k' _ _ .toks VR.int'))))))
noncomputable def ownItem (j:Nat) (g:St→Option PV):St→Option PV:=fun st=>match st[j]?,g st with
  | some (.own xs),some i=>pyItem (.list xs) i
  | some (.froz p),some i=>pyItem p i
  | _,_=>none
set_option tactic.hygienic true in
theorem p_item_own {x:Str} {slice:Expr} {p pos:Pos} {j:Nat} {g:St→Option PV} (hx:F.names[j]? =some x) (hi:SoundP X F d slice g)
    (hs:autoParam (∀o i,subscripted slice false o i=operate [o,i] (getItem o i)) Mine.au1._auto_1)
    (hn:autoParam ((x==("__classdict__":Str))=false) Mine.au3._auto_1) (hd:autoParam ((x==("__debug__":Str))=false) Mine.au3._auto_1):
    SoundP X F d (.Subscript (.Name x p) slice pos) (ownItem j g):=by
  intro A Av Mu env st s v Q E hA hf R₀ k
  unfold ownItem at hf
  split at hf
  · rename_i xs i e1 e2
    obtain ⟨a,vs,n,hv,g1,hm,z⟩:=R₀.vars j x _ hx e1
    refine Subscript_ (wpAny_Name (wp_load R₀ hv hn ?_) hd)
    refine hi _ hA e2 R₀ fun vb s2 G V2=>?_
    obtain ⟨m,j',rfl,q,e,e3⟩:=pyItem_list hf
    unfold VR at V2;obtain ⟨u,rfl⟩:=V2
    obtain ⟨w,e3,z1⟩:=z.get e3
    have g2:=G.keep _ _ g1
    have hl:s2.heap.IsList a vs.toArray:=⟨_,g2,rfl,n,rfl⟩
    refine tail_any hl.typeIs slot_list_getitem.lookup ?_ (hs _ _)
    exact list_item_w g2 q (by rw [z.length];exact e) e3 (k _ _ G (z1.grow G))
  · rename_i p i e1 e2
    obtain ⟨u,hv,q⟩:=R₀.vars j x _ hx e1
    refine Subscript_ (wpAny_Name (wp_load R₀ hv hn ?_) hd)
    refine hi _ hA e2 R₀ fun vb s2 G V2=>?_
    exact pyItem_w hf (q.grow G) V2 hs fun v' s' G' V=>k _ _ (G.trans G') V
  · cases hf
noncomputable def SoundEs (X:Cx) (F:FI) (d:Nat) (es:List Expr) (f:St→Option (List PV×St)):Prop:=∀pos:Pos,SoundT X F d VRs (fun env=>spliced (backTo pos (starEach es env))) f
theorem es_nil:SoundEs X F d [] (pureE []):=by
  intro pos
  refine @SoundT.intro _ _ _ _ _ _ _ _ ?_
  intro A Av Mu env st st' s v Q E hA hf R₀ tk k
  cases hf
  exact Calls.spliced_nil (k _ _ _ _ R₀ StepE.refl VRs.nil)
theorem es_cons {e:Expr} {es:List Expr} {f:EvE} {g:St→Option (List PV×St)} (h:SoundE X F d e f) (h':SoundEs X F d es g) (hp:autoParam (∀env,starEach (e::es) env=(false,eval e env)::starEach es env) Mine.au4._auto_1):
    SoundEs X F d (e::es) (bindE f fun a=>bindE g fun as=>pureE (a::as)):=by
  intro pos
  refine @SoundT.intro _ _ _ _ _ _ _ _ ?_
  intro A Av Mu env st st' s v Q E hA hf R₀ tk k
  refine bindE_elim hf fun a st1 h1 hf=>?_
  refine bindE_elim hf fun as st2 h2 hf=>?_
  cases hf
  show wpAny _ _ (spliced (backTo pos (starEach (e::es) env))) _ _ _
  rw [hp]
  refine Calls.spliced_cons (h _ hA h1 R₀ tk fun va s1 Av1 Mu1 R1 S1 V1 tk1=>h' pos _ hA h2 R1 tk1 fun vb s2 Av2 Mu2 R2 S2 V2 tk2=>?_)
  exact k _ _ _ _ R2 (S1.trans S2 R₀.lt) (VRs.cons (V1.step S2.toStep R1.ma) V2)
theorem newList_w {A:Around} {Av:Addr→Prop} {s:Shared} {Q:Value→Shared→Prop} {E:Value→Shared→Prop} {M:Model} {vs:List Value} {xs:List PV} (lt:∀a,Av a→a < s.heap.objs.size) (hv:VRs s.heap Av vs xs) (hl:xs.length≤16777216)
    (k:∀v s',Grow s s'→VR s'.heap Av v (.list xs)→Q v s'):wpAny M A (newList vs) Q E s:=by
  refine wpAny_newObj_type (k _ _ (Grow.push _) ?_) (by show vs.toArray.size≤sizeLine;rw [List.size_toArray,hv.length];exact hl)
  unfold VR
  refine ⟨_,vs,0,rfl,Heap.get?_push_size _ rfl,fun q=>absurd (lt _ q) (Nat.lt_irrefl _),?_⟩
  exact hv.mono (fun a o e _=>Heap.get?_push_of_some _ e) (fun _ _ n=>n) (by simp)
theorem newTuple_w {A:Around} {Av:Addr→Prop} {s:Shared} {Q:Value→Shared→Prop} {E:Value→Shared→Prop} {M:Model} {vs:List Value} {xs:List PV} (lt:∀a,Av a→a < s.heap.objs.size) (hv:VRs s.heap Av vs xs) (hl:xs.length≤16777216)
    (k:∀v s',Grow s s'→VR s'.heap Av v (.tuple xs)→Q v s'):wpAny M A (newTuple vs) Q E s:=by
  refine wpAny_newObj_type (k _ _ (Grow.push _) ?_) (by show vs.toArray.size≤sizeLine;rw [List.size_toArray,hv.length];exact hl)
  unfold VR
  refine ⟨_,vs,0,rfl,Heap.get?_push_size _ rfl,fun q=>absurd (lt _ q) (Nat.lt_irrefl _),?_⟩
  exact hv.mono (fun a o e _=>Heap.get?_push_of_some _ e) (fun _ _ n=>n) (by simp)
noncomputable def mkL (as:List PV):Option PV:=if as.length≤16777216 then some (.list as) else none
noncomputable def mkT (as:List PV):Option PV:=if as.length≤16777216 then some (.tuple as) else none
theorem s_list {es:List Expr} {pos:Pos} {f:St→Option (List PV×St)} (h:SoundEs X F d es f):SoundE X F d (.List es pos) (bindE f fun as=>liftE (mkL as)):=by
  refine @SoundT.intro _ _ _ _ _ _ _ _ ?_
  intro A Av Mu env st st' s v Q E hA hf R₀ tk k
  refine bindE_elim hf fun as st1 h1 hf=>?_
  obtain ⟨h3,rfl⟩:=liftE_some hf
  unfold mkL at h3
  split at h3<;>cases h3
  refine List_ (h pos _ hA h1 R₀ tk fun va s1 Av1 Mu1 R1 S1 V1 tk1=>newList_w R1.lt V1 ‹_› fun v' s' G V=>?_)
  exact k _ _ _ _ (R1.grow G) (S1.trans (StepE.ofGrow G) R₀.lt) V
theorem s_tuple {es:List Expr} {n:Nat} {pos:Pos} {f:St→Option (List PV×St)} (h:SoundEs X F d es f):SoundE X F d (.Tuple es n pos) (bindE f fun as=>liftE (mkT as)):=by
  refine @SoundT.intro _ _ _ _ _ _ _ _ ?_
  intro A Av Mu env st st' s v Q E hA hf R₀ tk k
  refine bindE_elim hf fun as st1 h1 hf=>?_
  obtain ⟨h3,rfl⟩:=liftE_some hf
  unfold mkT at h3
  split at h3<;>cases h3
  refine Tuple_ (h pos _ hA h1 R₀ tk fun va s1 Av1 Mu1 R1 S1 V1 tk1=>newTuple_w R1.lt V1 ‹_› fun v' s' G V=>?_)
  exact k _ _ _ _ (R1.grow G) (S1.trans (StepE.ofGrow G) R₀.lt) V
end
end Mine
end
section
open PySem PySem.W PyProof.Rows PySem.Builtin.Str
set_option tactic.hygienic false
namespace Mine
section
variable {X:Cx} {F:FI} {d:Nat}
noncomputable def PartR (h:Heap) (Av:Addr→Prop) (v:Value) (p:Option Int):Prop:=match p with
  | none=>v=.none
  | some i=>∃t,v=.int i t
noncomputable def SoundPt (X:Cx) (F:FI) (d:Nat) (o:Option Expr) (f:St→Option (Option Int×St)):Prop:=SoundT X F d PartR (evalPart o) f
noncomputable def asI:PV→Option (Option Int)
  | .int i=>some (some i)
  | _=>none
theorem pt_none:SoundPt X F d none (pureE none):=by
  refine @SoundT.intro _ _ _ _ _ _ _ _ ?_
  intro A Av Mu env st st' s v Q E hA hf R₀ tk k
  cases hf
  exact wpAny_pure (k _ _ _ _ R₀ StepE.refl rfl)
theorem pt_some {e:Expr} {f:EvE} (h:SoundE X F d e f):SoundPt X F d (some e) (bindE f fun p=>liftE (asI p)):=by
  refine @SoundT.intro _ _ _ _ _ _ _ _ ?_
  intro A Av Mu env st st' s v Q E hA hf R₀ tk k
  refine bindE_elim hf fun a st1 h1 hf=>?_
  obtain ⟨h3,rfl⟩:=liftE_some hf
  refine h _ hA h1 R₀ tk fun va s1 Av1 Mu1 R1 S1 V1 tk1=>?_
  cases a<;>(try cases h3)
  unfold VR at V1
  exact k _ _ _ _ R1 S1 V1
noncomputable def strSl (x:Str) (a b c:Option Int):Str:=if (c.getD 1==1&&(strSliceIndices a b (c.getD 1) x.length).length==x.length)=true then x else ⟨((strSliceIndices a b (c.getD 1) x.length).filterMap (x.cps[·]?)).toArray⟩
noncomputable def listSl {α:Type} (xs:List α) (a b c:Option Int):List α:=pick xs (sliceRange (sliceBounds a b c xs.length).1 (sliceBounds a b c xs.length).2.1 (sliceBounds a b c xs.length).2.2)
noncomputable def pySlice (o:PV) (a b c:Option Int):Option PV:=if c=some 0 then none else match o with
  | .str x=>if (strSl x a b c).length≤16777216 then some (.str (strSl x a b c)) else none
  | .list xs=>if xs.length≤16777216 then some (.list (listSl xs a b c)) else none
  | _=>none
noncomputable def withTok (p:Option Int) (t:Tok):Option (Int×Tok):=p.map fun i=>(i,t)
theorem partR_part {h:Heap} {Av:Addr→Prop} {v:Value} {p:Option Int} (x:PartR h Av v p):∃t,v=partValue (withTok p t):=by
  cases p with
  | none=>exact ⟨0,x⟩
  | some i=>obtain ⟨t,e⟩:=x;exact ⟨t,e⟩
theorem partR_is {h:Heap} {Av:Addr→Prop} {v:Value} {p:Option Int} (x:PartR h Av v p):IsPart v p:=by
  cases p with
  | none=>cases x;exact .none
  | some i=>obtain ⟨t,e⟩:=x;subst e;exact .int i t
theorem withTok_fst {p:Option Int} {t:Tok}:(withTok p t).map (·.1)=p:=by cases p<;>rfl
section
variable {A:Around} {Av:Addr→Prop} {s:Shared} {Q:Value→Shared→Prop} {E:Value→Shared→Prop}
set_option tactic.hygienic true in
theorem pySlice_w {o r:PV} {a b c:Option Int} {vo va vb vc:Value} (h:pySlice o a b c=some r) (lt:∀a,Av a→a < s.heap.objs.size) (ho:VR s.heap Av vo o) (ha:PartR s.heap Av va a) (hb:PartR s.heap Av vb b) (hc:PartR s.heap Av vc c)
    {value slice:Expr} (hs:∀o i,∃ops,subscripted slice false o i=operate ops (getItem o i)) (k:∀v s',Grow s s'→VR s'.heap Av v r→Q v s'):
    wpAny (model X.prog X.w) A (subscriptTail value slice vo (.ref s.heap.objs.size)) Q E { s with heap:=s.heap.push { cls:=.type "slice",data:=.fields #[va,vb,vc] } }:=by
  unfold pySlice at h
  split at h
  · cases h
  rename_i h0
  split at h
  · split at h<;>cases h
    rename_i x hlen
    unfold VR at ho;obtain ⟨t,rfl⟩:=ho
    obtain ⟨t1,rfl⟩:=partR_part ha
    obtain ⟨t2,rfl⟩:=partR_part hb
    obtain ⟨t3,rfl⟩:=partR_part hc
    obtain ⟨ops,hs⟩:=hs (.str x t) (.ref s.heap.objs.size)
    refine tail_any (typeIs_str _ _ t) F.slot_str_getitem.lookup ?_ hs
    refine wpAny_getItem_str_slice (l:=withTok a t1) (u:=withTok b t2) (st:=withTok c t3) ⟨_,Heap.get?_push_size _ rfl,rfl,rfl⟩ ?_ ?_
    · rw [withTok_fst]
      cases c with
      | none=>rfl
      | some i=>
        show (i==0)=false
        exact beq_eq_false_iff_ne.mpr fun e=>h0 (by rw [e])
    · unfold sliceMade slicePicked
      rw [withTok_fst,withTok_fst,withTok_fst]
      unfold strSl at hlen k
      by_cases hq:(c.getD 1==1&&(strSliceIndices a b (c.getD 1) x.length).length==x.length)=true
      · rw [if_pos hq]
        rw [if_pos hq] at k
        exact k _ _ (Grow.push _) VR.str'
      · rw [if_neg hq]
        rw [if_neg hq] at k hlen
        exact ⟨hlen,k _ _ (Grow.push _) VR.str'⟩
  · split at h<;>cases h
    rename_i xs hlen
    unfold VR at ho;obtain ⟨l,vs,n,rfl,g,na,z⟩:=ho
    obtain ⟨ops,hs⟩:=hs (.ref l) (.ref s.heap.objs.size)
    have g':(s.heap.push { cls:=.type "slice",data:=.fields #[va,vb,vc] }).get? l=some (listObj vs n):=Heap.get?_push_of_some _ g
    have hl:(s.heap.push { cls:=.type "slice",data:=.fields #[va,vb,vc] }).IsList l vs.toArray:=⟨_,g',rfl,n,rfl⟩
    refine tail_any (Heap.IsList.typeIs (s:={ s with heap:=s.heap.push { cls:=.type "slice",data:=.fields #[va,vb,vc] } }) hl) slot_list_getitem.lookup ?_ hs
    refine wpAny_getItem_list_slice (lo:=a) (hi:=b) (st:=c) hl (Heap.IsSliceOf.new ..) (partR_is ha) (partR_is hb) (partR_is hc) h0 ?_ (by rw [List.size_toArray,z.length];exact hlen)
    refine k _ _ ((Grow.push _).trans (Grow.push (s:={ s with heap:=s.heap.push { cls:=.type "slice",data:=.fields #[va,vb,vc] } }) _)) ?_
    unfold VR
    have e:slicePick vs.toArray a b c=(listSl vs a b c).toArray:=by
      unfold slicePick listSl pick
      simp
    refine ⟨_,listSl vs a b c,0,rfl,?_,fun q=>?_,?_⟩
    · rw [e]
      exact Heap.get?_push_size _ rfl
    · have h8:(s.heap.push { cls:=.type "slice",data:=.fields #[va,vb,vc] }).objs.size=s.heap.objs.size+1:=Heap.size_push ..
      have h9:(s.heap.push { cls:=.type "slice",data:=.fields #[va,vb,vc] }).objs.size < s.heap.objs.size:=lt _ q
      lia
    · have:=z.pick (sliceRange (sliceBounds a b c xs.length).1 (sliceBounds a b c xs.length).2.1 (sliceBounds a b c xs.length).2.2)
      unfold listSl
      rw [z.length]
      exact this.mono (fun a o e _=>Heap.get?_push_of_some _ (Heap.get?_push_of_some _ e)) (fun _ _ n=>n) (by simp;lia)
  · cases h
end
theorem PartR.any {h h':Heap} {Av Av':Addr→Prop} {v:Value} {p:Option Int} (x:PartR h Av v p):PartR h' Av' v p:=by cases p<;>exact x
theorem s_slice {value:Expr} {l u stp:Option Expr} {p pos:Pos} {f:EvE} {g h k:St→Option (Option Int×St)} (hv:SoundE X F d value f) (hl:SoundPt X F d l g) (hu:SoundPt X F d u h) (hst:SoundPt X F d stp k)
    (hs:autoParam (∀o i,∃ops,subscripted (.Slice l u stp p) false o i=operate ops (getItem o i)) Mine.au10._auto_1):
    SoundE X F d (.Subscript value (.Slice l u stp p) pos) (bindE f fun o=>bindE g fun a=>bindE h fun b=>bindE k fun c=>liftE (pySlice o a b c)):=by
  refine @SoundT.intro _ _ _ _ _ _ _ _ ?_
  intro A Av Mu env st st' s v Q E hA hf R₀ tk kk
  refine bindE_elim hf fun o st1 h1 hf1=>?_
  refine bindE_elim hf1 fun a st2 h2 hf2=>?_
  refine bindE_elim hf2 fun b st3 h3 hf3=>?_
  refine bindE_elim hf3 fun c st4 h4 hf4=>?_
  obtain ⟨h5,e5⟩:=liftE_some hf4
  subst e5
  refine Subscript_ (hv _ hA h1 R₀ tk fun vo s1 Av1 Mu1 R1 S1 V1 tk1=>wpAny_Slice ?_)
  refine hl _ hA h2 R1 tk1 fun va s2 Av2 Mu2 R2 S2 V2 tk2=>hu _ hA h3 R2 tk2 fun vb s3 Av3 Mu3 R3 S3 V3 tk3=>hst _ hA h4 R3 tk3 fun vc s4 Av4 Mu4 R4 S4 V4 tk4=>?_
  have S24:=(S2.trans S3 R1.lt).trans S4 R1.lt
  refine pySlice_w h5 R4.lt (V1.step S24.toStep R1.ma) V2.any V3.any V4 hs fun v' s' G V=>?_
  exact kk _ _ _ _ (R4.grow G) ((S1.trans S24 R₀.lt).trans (StepE.ofGrow G) R₀.lt) V
structure MethW (X:Cx) (d:Nat) (name:Str) (m:PV→List PV→Option PV):Prop where
  w:∀{Av:Addr→Prop} {s:Shared} {ov:Value} {o r:PV} {as:List PV},m o as=some r→VR s.heap Av ov o→∃(T id:String),PlainAttrs T∧Slot T name id∧typeOf (.builtin id)=pure (.type "method_descriptor")∧s.TypeIs ov T∧
    (∀a,ov=.ref a→∃ob,s.heap.get? a=some ob∧ob.dict=none)∧
    ∀{A:Around} {Av':Addr→Prop} {s':Shared} {avs:List Value} {Q E:Value→Shared→Prop},Room d A→(∀a,Av' a→a < s'.heap.objs.size)→VR s'.heap Av' ov o→VRs s'.heap Av' avs as→
      (∀v s'',Grow s' s''→VR s''.heap Av' v r→Q v s'')→wpAny (model X.prog X.w) A (call (.builtin id) (ov::avs) []) Q E s'
theorem callArgs {M:Model} {A:Around} {Q E:Value→Shared→Prop} {s:Shared} {id:String} {first:List Value} {args:List Expr} {env:Env} {pos:Pos} (hp:(backTo pos (starEach args env)).any (·.1)=false)
    (h:wpAny M A (spliced (backTo pos (starEach args env))) (fun vs s₁=>wpAny M A (call (.builtin id) (first++vs) []) Q E s₁) E s):wpAny M A (callWith pos (.builtin id) first (backTo pos (starEach args env)) []) Q E s:=by
  refine Calls.callWith_builtin hp ?_
  cases hq:backTo pos (starEach args env) with
  | nil=>
    rw [hq] at h
    unfold spliced at h
    refine PySem.evalArgs_none ?_
    have:wpAny M A (Pure.pure []:Sem (List Value)) (fun vs s₁=>wpAny M A (call (.builtin id) (first++vs) []) Q E s₁) E s:=h
    intro Γ p hΓ
    exact this Γ p hΓ Γ p hΓ
  | cons x r=>
    obtain ⟨b,x⟩:=x
    rw [hq] at hp h
    have hb:b=false:=by
      simp at hp
      exact hp.1
    subst hb
    exact Calls.evalArgs_plain h
theorem s_meth {o:Expr} {name:Str} {apos pos:Pos} {args:List Expr} {f:EvE} {g:St→Option (List PV×St)} {m:PV→List PV→Option PV} (ho:SoundE X F d o f) (ha:SoundEs X F d args g) (hm:MethW X d name m)
    (hbase:autoParam (∀env,attributeBase o name env (eval o env)=eval o env) Mine.au4._auto_1)
    (hp:autoParam (∀env,(backTo pos (starEach args env)).any (·.1)=false) Mine.au4._auto_1)
    (hfew:autoParam (∀env,((backTo pos (starEach args env)).all (fun x=> !x.1)&&(backToKw pos (keywordEach [] env)).all (fun x=>x.1.isSome)&&decide (args.length+([]:List Keyword).length+(if ([]:List Keyword).isEmpty then 0 else 1) < 30))=true) Mine.au4._auto_1)
    (hline:autoParam ((apos.endLine==pos.line)=true) Mine.au2._auto_1):SoundE X F d (.Call (.Attribute o name apos) args [] pos) (bindE f fun a=>bindE g fun as=>liftE (m a as)):=by
  refine @SoundT.intro _ _ _ _ _ _ _ _ ?_
  intro A Av Mu env st st' s v Q E hA hf R₀ tk k
  refine bindE_elim hf fun a st1 h1 hf1=>?_
  refine bindE_elim hf1 fun as st2 h2 hf2=>?_
  obtain ⟨h3,e3⟩:=liftE_some hf2
  subst e3
  refine wpAny_Call_method_lateS (hbase env) (hfew env) hline (ho _ hA h1 R₀ tk fun va s1 Av1 Mu1 R1 S1 V1 tk1=>?_)
  obtain ⟨T,id,p1,p2,p3,p4,p5,w⟩:=hm.w h3 V1
  refine ⟨T,id,p1,p2,p3,p4,p5,callArgs (hp env) (ha pos _ hA h2 R1 tk1 fun vb s2 Av2 Mu2 R2 S2 V2 tk2=>?_)⟩
  exact w hA R2.lt (V1.step S2.toStep R1.ma) V2 fun v' s' G V=>k _ _ _ _ (R2.grow G) ((S1.trans S2 R₀.lt).trans (StepE.ofGrow G) R₀.lt) V
end
end Mine
end
section
open PySem PySem.W PyProof.Rows PySem.Builtin.Str
set_option tactic.hygienic false
namespace Mine
theorem wpAny_grow {α:Type} {M:Model} {A:Around} {t:Sem α} {P Q:α→Shared→Prop} {E:Value→Shared→Prop} {s:Shared}
    (h:wpAny M A t (fun v s'=>(∀a o,s.heap.get? a=some o→s'.heap.get? a=some o)∧s'.os=s.os∧s'.gens=s.gens∧P v s') E s) (k:∀v s',Grow s s'→P v s'→Q v s'):wpAny M A t Q E s:=
  wpAny_mono (wpAny_size h) (fun v s' q=>k v s' ⟨q.1.1,q.2,q.1.2.1,q.1.2.2.1⟩ q.1.2.2.2) fun _ _ e=>e
noncomputable def allOf {α β:Type} (f:α→Option β):List α→Option (List β)
  | []=>some []
  | x::r=>match f x,allOf f r with
    | some y,some ys=>some (y::ys)
    | _,_=>none
theorem strs_of {h:Heap} {Av:Addr→Prop}:∀{xs:List PV} {vs:List Value} {ss:List Str},VRs h Av vs xs→allOf asStr xs=some ss→∃l:List (Str×Tok),vs=strValues l∧l.map (·.1)=ss
  | [],[],ss,_,e=>by unfold allOf at e;cases e;exact ⟨[],rfl,rfl⟩
  | [],_::_,_,x,_=>by unfold VRs at x;exact x.elim
  | _::_,[],_,x,_=>by unfold VRs at x;exact x.elim
  | p::ps,v::vs,ss,x,e=>by
    unfold VRs at x
    unfold allOf at e
    cases p with
    | str y=>
      cases q:allOf asStr ps with
      | none=>rw [q] at e;cases e
      | some ys=>
        rw [q] at e
        cases e
        obtain ⟨l,rfl,hl⟩:=strs_of x.2 q
        have:=x.1
        unfold VR at this
        obtain ⟨t,rfl⟩:=this
        exact ⟨(y,t)::l,rfl,by simp [hl]⟩
    | _=>cases e
theorem ints_of {h:Heap} {Av:Addr→Prop}:∀{xs:List PV} {vs:List Value} {ss:List Int},VRs h Av vs xs→allOf asInt xs=some ss→∃l:List (Int×Tok),vs=l.map (fun p=>Value.int p.1 p.2)∧l.map (·.1)=ss
  | [],[],ss,_,e=>by unfold allOf at e;cases e;exact ⟨[],rfl,rfl⟩
  | [],_::_,_,x,_=>by unfold VRs at x;exact x.elim
  | _::_,[],_,x,_=>by unfold VRs at x;exact x.elim
  | p::ps,v::vs,ss,x,e=>by
    unfold VRs at x
    unfold allOf at e
    cases p with
    | int y=>
      cases q:allOf asInt ps with
      | none=>rw [q] at e;cases e
      | some ys=>
        rw [q] at e
        cases e
        obtain ⟨l,rfl,hl⟩:=ints_of x.2 q
        have:=x.1
        unfold VR at this
        obtain ⟨t,rfl⟩:=this
        exact ⟨(y,t)::l,rfl,by simp [hl]⟩
    | _=>cases e
section
variable {X:Cx} {F:FI} {d:Nat}
noncomputable def find4 (x y:Str) (i j:Int):Int:=match occurrences x y (fromIndex x.length i) (min (fromIndex x.length j) x.length) 1 with
  | k::_=>(k:Int)
  | []=>-1
theorem gives_find4 (x y:Str) (i j:Int) (t u v w:Tok):Gives (Builtin.«str.find» ⟨[.str x t,.str y u,.int i v,.int j w],[]⟩) (.int (find4 x y i j)):=by
  show Gives (match occurrences x y (fromIndex x.length i) (min (fromIndex x.length j) x.length) 1 with | k::_=>retInt k | []=>(do rule "str.find.not-found";retInt (-1))) _
  unfold find4
  cases occurrences x y (fromIndex x.length i) (min (fromIndex x.length j) x.length) 1 with
  | nil=>exact .rule (.of_eq rfl)
  | cons k _=>exact .of_eq rfl
theorem VRs.uncons {h:Heap} {Av:Addr→Prop} {vs:List Value} {p:PV} {ps:List PV} (x:VRs h Av vs (p::ps)):∃v us,vs=v::us∧VR h Av v p∧VRs h Av us ps:=by
  cases vs with
  | nil=>unfold VRs at x;exact x.elim
  | cons v us=>unfold VRs at x;exact ⟨v,us,rfl,x.1,x.2⟩
theorem VRs.none {h:Heap} {Av:Addr→Prop} {vs:List Value} (x:VRs h Av vs []):vs=[]:=by
  cases vs with
  | nil=>rfl
  | cons=>unfold VRs at x;exact x.elim
noncomputable def args3 (f:PV→PV→PV→Option PV) (as:List PV):Option PV:=match as with
  | [a,b,c]=>f a b c
  | _=>none
theorem args3_some {f:PV→PV→PV→Option PV} {as:List PV} {r:PV} (h:args3 f as=some r):∃a b c,as=[a,b,c]∧f a b c=some r:=match as,h with
  | [a,b,c],h=>⟨a,b,c,rfl,h⟩
noncomputable def pyFind (o:PV) (as:List PV):Option PV:=(asStr o).bind fun x=>args3 (fun y i j=>(asStr y).bind fun y=>(asInt i).bind fun i=>(asInt j).map fun j=>.int (find4 x y i j)) as
theorem m_find:MethW X d "find" pyFind:=by
  refine ⟨fun {Av s ov o r as} h ho=>?_⟩
  obtain ⟨x,e0,h⟩:=Option.bind_eq_some_iff.mp h
  obtain ⟨y,i,j,rfl,h⟩:=args3_some h
  obtain ⟨y,e1,h⟩:=Option.bind_eq_some_iff.mp h
  obtain ⟨i,e2,h⟩:=Option.bind_eq_some_iff.mp h
  obtain ⟨j,e3,rfl⟩:=Option.map_eq_some_iff.mp h
  obtain ⟨t,rfl⟩:=(asStr_some e0 ▸ ho).str_of
  refine ⟨"str","str.find",F.plainAttrs_str,F.slot_str_find,F.type_str_find,typeIs_str _ _ _,(fun _ e=>nomatch e),?_⟩
  intro A Av' s' avs Q E hA lt ho' ha k
  obtain ⟨v1,vs,rfl,a1,ha⟩:=ha.uncons
  obtain ⟨v2,vs,rfl,a2,ha⟩:=ha.uncons
  obtain ⟨v3,vs,rfl,a3,ha⟩:=ha.uncons
  obtain rfl:=ha.none
  obtain ⟨t1,rfl⟩:=(asStr_some e1 ▸ a1).str_of
  obtain ⟨t2,rfl⟩:=(asInt_some e2 ▸ a2).int_of
  obtain ⟨t3,rfl⟩:=(asInt_some e3 ▸ a3).int_of
  exact call_gives F.slot_str_find (typeIs_str _ _ _) F.entry_str_find (F.args_str_find_4 _ _ _ _) (gives_find4 _ _ _ _ _ _ _ _) (k _ _ .toks VR.int')
noncomputable def joinS (sep:Str):List Str→Str
  | [x]=>x
  | xs=>glued sep xs
noncomputable def joinV (sep:Str) (a:PV):Option PV:=(asList a).bind fun xs=>(allOf asStr xs).bind fun ss=>if tooLong (ss.toArray.foldl (· +·.length+sep.length) 0)=false∧(joinS sep ss).length≤16777216 then some (.str (joinS sep ss)) else none
noncomputable def pyJoin (o:PV) (as:List PV):Option PV:=(asStr o).bind fun sep=>as.head?.bind fun a=>if as.tail.isEmpty=true then joinV sep a else none
theorem m_join:MethW X d "join" pyJoin:=by
  refine ⟨fun {Av s ov o r as} h ho=>?_⟩
  obtain ⟨sep,e0,h⟩:=Option.bind_eq_some_iff.mp h
  obtain ⟨a,e1,h⟩:=Option.bind_eq_some_iff.mp h
  obtain ⟨rfl,h⟩:as=[a]∧joinV sep a=some r:=by
    cases as with
    | nil=>cases e1
    | cons b l=>cases l with
      | nil=>cases e1;exact ⟨rfl,h⟩
      | cons=>cases h
  obtain ⟨xs,e2,h⟩:=Option.bind_eq_some_iff.mp h
  obtain ⟨ss,e,h⟩:=Option.bind_eq_some_iff.mp h
  obtain ⟨hl,rfl⟩:=when_some h
  obtain ⟨t,rfl⟩:=(asStr_some e0 ▸ ho).str_of
  refine ⟨"str","str.join",F.plainAttrs_str,F.slot_str_join,F.type_str_join,typeIs_str _ _ _,(fun _ e=>nomatch e),?_⟩
  intro A Av' s' avs Q E hA lt ho' ha k
  obtain ⟨v1,vs,rfl,a1,ha⟩:=ha.uncons
  obtain rfl:=ha.none
  rw [asList_some e2] at a1
  unfold VR at a1
  obtain ⟨D,vs,n,rfl,g,na,z⟩:=a1
  obtain ⟨l,rfl,rfl⟩:=strs_of z e
  refine call_meets F.slot_str_join (typeIs_str _ _ _) F.entry_str_join (F.args_str_join_2 _ _) (meets_str_join_list sep t D l hl.1) ⟨⟨_,g,rfl,n,rfl⟩,?_⟩
  have hl2:=hl.2
  cases l with
  | nil=>exact ⟨hl2,k _ _ .toks VR.str'⟩
  | cons p l=>cases l with
    | nil=>exact k _ _ (Grow.refl _) VR.str'
    | cons=>exact ⟨hl2,k _ _ .toks VR.str'⟩
end
end Mine
end
section
open PySem PySem.W PyProof.Rows PySem.Builtin.Str
set_option tactic.hygienic false
namespace Mine
theorem bindL_off {k:Str→Option NameKind} {x:Str}:∀{binds:List (Str×Value)} {m:Str→Option Value},x ∉ binds.map (·.1)→bindL k binds m x=m x
  | [],_,_=>rfl
  | (n,v)::r,m,h=>by
    unfold bindL
    rw [bindL_off (fun q=>h (List.mem_cons_of_mem _ q))]
    split
    · show (if x=n then some v else m x)=m x
      rw [if_neg fun e=>h (by rw [e];exact List.mem_cons_self)]
    · rfl
theorem bindC_off {k:Str→Option NameKind} {x:Str}:∀{binds:List (Str×Value)} {m:Str→Option Value},x ∉ binds.map (·.1)→bindC k binds m x=m x
  | [],_,_=>rfl
  | (n,v)::r,m,h=>by
    unfold bindC
    rw [bindC_off (fun q=>h (List.mem_cons_of_mem _ q))]
    split
    · rfl
    · show (if x=n then some v else m x)=m x
      rw [if_neg fun e=>h (by rw [e];exact List.mem_cons_self)]
theorem bindL_get {k:Str→Option NameKind} {x:Str} {v:Value} (hk:k x=some .local):∀{binds:List (Str×Value)} {m:Str→Option Value},(binds.map (·.1)).Nodup→(x,v)∈binds→bindL k binds m x=some v
  | (n,u)::r,m,hn,h=>by
    rw [List.map_cons,List.nodup_cons] at hn
    unfold bindL
    rcases List.mem_cons.mp h with e | h
    · cases e
      rw [bindL_off hn.1,if_pos hk]
      simp
    · exact bindL_get hk hn.2 h
theorem bindC_get {k:Str→Option NameKind} {x:Str} {v:Value} (hk:k x≠some .local):∀{binds:List (Str×Value)} {m:Str→Option Value},(binds.map (·.1)).Nodup→(x,v)∈binds→bindC k binds m x=some v
  | (n,u)::r,m,hn,h=>by
    rw [List.map_cons,List.nodup_cons] at hn
    unfold bindC
    rcases List.mem_cons.mp h with e | h
    · cases e
      rw [bindC_off hn.1,if_neg hk]
      simp
    · exact bindC_get hk hn.2 h
theorem newEnv_one {M:Model} {A:Around} {E:Value→Shared→Prop} {s:Shared} {scope:Scope} {globals:Addr} {n:Str} {v:Value} {qual:Str} {func:Option Addr} {code:Value} {builtins:Addr} {Q:Env→Shared→Prop}
    (hk:scope.kind=.function) (hl:scope.names.lookup n=some .local)
    (hQ:∀env,env=newEnv scope s.heap.objs.size globals (cellsFrom (s.heap.objs.size+1) scope.names []) qual func code none builtins→
      ∀s',InCallC s env.locals (bindL env.kindOf [(n,v)] fun _=>none) env.cells (bindC env.kindOf [(n,v)] fun _=>none) s'→1≤s'.toks→Q env s'):
    wpAny M A (newFunctionEnv scope globals [] [(n,v)] qual func code none builtins) Q E s:=by
  simp only [newFunctionEnv,Option.isSome_none,Bool.false_eq_true,if_false]
  refine wpAny_bind (wpAny_alloc ?_)
  refine wpAny_bind (wpAny_layCells _ (fun name kind cells=>by cases hkc:kind==NameKind.cell<;>simp [hkc]) _ _ _ _ ?_)
  have ok:=cellsFrom_ok scope.names (s.heap.push { cls:=.type "frame",data:=.dict #[] }) (s.heap.objs.size+1) [] ⟨fun _ _ hm=>(nomatch hm),List.Pairwise.nil⟩ (by rw [Heap.size_push];exact Nat.le_refl _)
  rw [Heap.size_push] at ok
  rw [show ({ s with heap:=s.heap.push { cls:=.type "frame",data:=.dict #[] } }:Shared).heap.objs.size=s.heap.objs.size+1 from Heap.size_push ..]
  have X0:InCallC s s.heap.objs.size (fun _=>none) (cellsFrom (s.heap.objs.size+1) scope.names []) (fun _=>none) { s with heap:=pushCells (s.heap.push { cls:=.type "frame",data:=.dict #[] }) scope.names }:=
    ⟨⟨⟨_,_,rfl⟩,(Heap.Ns.new s.heap (.type "frame")).keeps (pushCells_keeps _ _),fun b o e=>pushCells_keeps _ _ b o (Heap.get?_push_of_some _ e),Nat.le_refl _⟩,
      fun n c hc=>(ok.empty n c (mem_of_lookup hc)).1,ok.apart,fun n c hm=>(ok.empty n c hm).2⟩
  refine wpAny_bind ?_
  rw [List.forIn_cons]
  refine wpAny_bind (wpAny_bind (wpAny_storeName_local (env:=newEnv scope s.heap.objs.size globals (cellsFrom (s.heap.objs.size+1) scope.names []) qual func code none builtins) hl X0.toInCall.ns (fun h' hn' hs'=>?_) (by show (scope.kind==.class||(scope.kind==.module&&_))=false;rw [hk];rfl)))
  refine wpAny_pure ?_
  dsimp only
  rw [List.forIn_nil]
  refine wpAny_pure (wpAny_pure (hQ _ rfl _ ⟨⟨⟨h',_,rfl⟩,?_,fun b o e=>?_,X0.toInCall.fresh⟩,fun k c hc=>?_,X0.apart,X0.above⟩ (Nat.succ_le_succ (Nat.zero_le _))))
  · unfold bindL
    rw [if_pos (show (newEnv scope s.heap.objs.size globals (cellsFrom (s.heap.objs.size+1) scope.names []) qual func code none builtins).kindOf n=some NameKind.local from hl)]
    exact hn'
  · exact hs'.extBut b o (Nat.ne_of_lt (Nat.lt_of_lt_of_le (Heap.lt_size e) X0.toInCall.fresh)) (X0.toInCall.keep b o e)
  · unfold bindC
    rw [if_pos (show (newEnv scope s.heap.objs.size globals (cellsFrom (s.heap.objs.size+1) scope.names []) qual func code none builtins).kindOf n=some NameKind.local from hl)]
    exact (X0.cell k c hc).sameBut hs' (Nat.ne_of_gt (X0.above k c (mem_of_lookup hc)))
theorem call_cellsT {prog:Program} {w:World} {A:Around} {s:Shared} {R:Result→Shared→Prop} {a:Addr} {o:Obj} {fd:FuncData} {body:List Stmt} {vals:List Value} {binds:List (Str×Value)}
    (hroom:A.depth < recursionLimit) (ho:s.heap.get? a=some o) (hdata:o.data=.func fd) (hlim:s.heap.NoLimit) (hcd:s.heap.CodeRec fd.code fd.qualname)
    (hbody:fd.body=.stmts body) (hbind:bindArgs fd ⟨vals,[]⟩=pure binds) (hclo:fd.closure=[])
    (hkind:∀x∈binds,fd.scope.names.lookup x.1=some .local∨(fd.scope.names.lookup x.1=some .cell∧((cellsFrom (s.heap.objs.size+1) fd.scope.names []).lookup x.1).isSome=true))
    (h:∀s₁,InCallC s (callEnvC fd s.heap.objs.size a).locals (bindL (callEnvC fd s.heap.objs.size a).kindOf binds fun _=>none) (callEnvC fd s.heap.objs.size a).cells
        (bindC (callEnvC fd s.heap.objs.size a).kindOf binds fun _=>none) s₁→(1≤s.toks∨(∃n v,binds=[(n,v)]∧fd.scope.names.lookup n=some .local)→1≤s₁.toks)→
      wpAny (model prog w) (A.deeper (callEnvC fd s.heap.objs.size a)) (execs body (callEnvC fd s.heap.objs.size a)) (fun f s'=>R (.ok (.ret (match f with | .ret v=>v | _=>.none))) s')
        (fun e s'=>wpAny (model prog w) (A.deeper (callEnvC fd s.heap.objs.size a)) (leaving (callEnvC fd s.heap.objs.size a) e) (fun _ s''=>R (.error e) s'') (fun e' s''=>R (.error e') s'') s') s₁)
    (hco:fd.scope.isCoroutine=false) (hgen:fd.scope.isGenerator=false) (hk:fd.scope.kind=.function):
    codeAny (model prog w) A (.call (.ref a) ⟨vals,[]⟩) R s:=by
  refine codeAny_call_function hroom ho hdata hco hgen hbody hcd ?_
  rw [hbind,hclo]
  by_cases h1:∃n v,binds=[(n,v)]∧fd.scope.names.lookup n=some .local
  · obtain ⟨n,v,rfl,hl⟩:=h1
    refine wpAny_pure (newEnv_one hk hl fun env he s' x ht=>?_)
    subst he
    exact ⟨hlim.keeps x.toInCall.keep,codeAny_func (h s' x fun _=>ht)⟩
  refine wpAny_pure (wpAny_mono (wpAny_toks (wpAny_newFunctionEnv_cells (Q:=fun env s'=>env=newEnv fd.scope s.heap.objs.size fd.globals (cellsFrom (s.heap.objs.size+1) fd.scope.names []) (fd.qualname++".<locals>.") (some a) fd.code none fd.builtins∧
    InCallC s env.locals (bindL env.kindOf binds fun _=>none) env.cells (bindC env.kindOf binds fun _=>none) s') hk hkind fun env he s' x=>⟨he,x⟩)) (fun env s' q=>?_) fun _ _ e=>e)
  obtain ⟨⟨he,x⟩,ht⟩:=q
  subst he
  exact ⟨hlim.keeps x.toInCall.keep,codeAny_func (h s' x fun q=>q.elim (fun t=>Nat.le_trans t ht) fun t=>absurd t h1)⟩
structure Pre (X:Cx) (Av:Addr→Prop) (s:Shared):Prop where
  base:∀b o,X.B.get? b=some o→s.heap.get? b=some o∧¬ Av b
  tabs:∀a,X.Tb a→Av a∧TabAt X s.heap Av a
  lt:∀a,Av a→a < s.heap.objs.size
theorem R.pre {X:Cx} {F:FI} {Av Mu:Addr→Prop} {env:Env} {st:St} {s:Shared} (r:R X F Av Mu env st s):Pre X Av s:=⟨r.base,fun a t=>⟨r.ma a (r.tabs a t).1,(r.tabs a t).2⟩,r.lt⟩
structure Post (X:Cx) (Av:Addr→Prop) (s:Shared) (v:Value) (p:PV) (s':Shared):Prop where
  keep:∀a o,s.heap.get? a=some o→¬ X.Tb a→s'.heap.get? a=some o
  tabs:∀a,X.Tb a→TabAt X s'.heap Av a
  size:s.heap.objs.size≤s'.heap.objs.size
  os:s'.os=s.os
  gens:AllBare s.gens→AllBare s'.gens
  val:VR s'.heap Av v p
theorem R.after {X:Cx} {F:FI} {Av Mu:Addr→Prop} {env:Env} {st:St} {s s':Shared} {v:Value} {p:PV} (r:R X F Av Mu env st s) (P:Post X Av s v p s'):R X F Av Mu env st s'∧Step Av Mu s Av Mu s':=
  ⟨r.keep' P.keep P.tabs P.size (fun _ h=>h) (fun _ h=>.inl h) (fun _ h=>h) r.ma,
    ⟨fun a o e n=>P.keep a o e fun t=>n (r.tabs a t).1,fun _ h=>.inl h,fun _ h=>.inl h,fun _ h _=>h,P.size,P.os,P.gens⟩⟩
theorem R.valsAfter {X:Cx} {F:FI} {Av Mu:Addr→Prop} {env:Env} {st:St} {s:Shared} {h':Heap} (r:R X F Av Mu env st s) (hk:∀a o,s.heap.get? a=some o→¬ X.Tb a→h'.get? a=some o):∀x v,ValAt s.heap env x v→ValAt h' env x v:=fun x v q=>by
  have tb:∀{a o},X.Tb a→s.heap.get? a=some o→∃ps,o=tabO ps:=fun t e=>by
    obtain ⟨ps,q,_⟩:=(r.tabs _ t).2
    exact ⟨ps,Option.some.inj (e.symm.trans q)⟩
  have kC:∀{c v},s.heap.IsCell c v→h'.IsCell c v:=fun {c v} q=>by
    obtain ⟨o,ho,hd⟩:=q
    refine ⟨o,hk _ _ ho fun t=>?_,hd⟩
    obtain ⟨ps,e⟩:=tb t ho
    rw [e] at hd;cases hd
  unfold ValAt at q ⊢
  split at q
  · obtain ⟨m,⟨o,es,ep,ho,hd,z⟩,b⟩:=q
    refine ⟨m,⟨o,es,ep,hk _ _ ho fun t=>?_,hd,z⟩,b⟩
    obtain ⟨ps,e⟩:=tb t ho
    rw [e] at hd;cases hd
  · obtain ⟨c,a,b⟩:=q;exact ⟨c,a,kC b⟩
  · obtain ⟨c,a,b⟩:=q;exact ⟨c,a,kC b⟩
  · exact q.elim
noncomputable def CallW (X:Cx) (d:Nat) (fa:Addr) (m:List PV→Option PV):Prop:=
  ∀{A:Around} {Av:Addr→Prop} {s:Shared} {avs:List Value} {as:List PV} {r:PV} {K:Result→Shared→Prop},Room d A→m as=some r→Pre X Av s→1≤s.toks→VRs s.heap Av avs as→
    (∀v s',Post X Av s v r s'→K (.ok (.ret v)) s')→codeAny (model X.prog X.w) A (.call (.ref fa) ⟨avs,[]⟩) K s
noncomputable def runF (g:EvS) (n:Nat) (as:List PV):Option PV:=match g (as.map .froz++List.replicate (n - as.length) .none) with
  | some (.ret p,_)=>some p
  | some (.next,_)=>some .none
  | _=>none
structure FnOK (X:Cx) (fa:Addr) (fd:FuncData) (body:List Stmt) (ps:List Str) (names:List Str):Prop where
  obj:∃o,X.B.get? fa=some o∧o.data=.func fd
  code:X.B.CodeRec fd.code fd.qualname
  body:fd.body=.stmts body
  clo:fd.closure=[]
  gl:fd.globals=mainGlobals
  bl:fd.builtins=builtinsNs
  bind:∀vals:List Value,vals.length=ps.length→bindArgs fd ⟨vals,[]⟩=pure (ps.zip vals)
  pre:∃rest,names=ps++rest
  nd:names.Nodup
  kinds:∀x∈names,fd.scope.names.lookup x=some .local∨fd.scope.names.lookup x=some .cell
  co:fd.scope.isCoroutine=false
  gen:fd.scope.isGenerator=false
  fn:fd.scope.kind=.function
theorem lookup_zip {ps:List Str} {vals:List Value}:∀{i:Nat} {x:Str} {v:Value},ps[i]? =some x→vals[i]? =some v→(x,v)∈ps.zip vals:=fun {i x v} h1 h2=>
  List.mem_of_getElem? (i:=i) (by rw [List.getElem?_zip_eq_some];exact ⟨h1,h2⟩)
noncomputable def SoundR (X:Cx) (F:FI) (d n:Nat) (body:List Stmt) (m:List PV→Option PV):Prop:=
  ∀{A:Around} {Av Mu:Addr→Prop} {env:Env} {s:Shared} {as:List PV} {r:PV} {Q:Flow→Shared→Prop} {E:Value→Shared→Prop},
    Room d A→m as=some r→R X F Av Mu env (as.map .froz++List.replicate (n - as.length) .none) s→1≤s.toks→
    (∀fl v s' Av' Mu' st',fl=.ret v∨(fl=.next∧v=.none)→R X F Av' Mu' env st' s'→Step Av Mu s Av' Mu' s'→VR s'.heap Av' v r→Q fl s')→wpAny (model X.prog X.w) A (execs body env) Q E s
set_option tactic.hygienic true in
theorem soundR_of {X:Cx} {F:FI} {d n:Nat} {body:List Stmt} {g:EvS} (hb:SoundS X F d body g):SoundR X F d n body (runF g n):=by
  intro A Av Mu env s as r Q E hA hm hR tk k
  unfold runF at hm
  split at hm
  · rename_i p st' e
    cases hm
    refine hb _ hA e hR tk fun fl s' Av' Mu' R' S' V' tk'=>?_
    cases fl<;>first | exact V'.elim | skip
    exact k _ _ _ _ _ _ (.inl rfl) R' S' V'
  · rename_i st' e
    cases hm
    refine hb _ hA e hR tk fun fl s' Av' Mu' R' S' V' tk'=>?_
    cases fl<;>first | exact V'.elim | skip
    exact k _ .none _ _ _ _ (.inr ⟨rfl,rfl⟩) R' S' (by unfold VR;rfl)
  · cases hm
set_option tactic.hygienic true in
theorem callG {X:Cx} {fa:Addr} {fd:FuncData} {body:List Stmt} {ps names:List Str} {d:Nat} {m:List PV→Option PV} (ok:FnOK X fa fd body ps names) (hb:SoundR X ⟨fd.scope,names,[],fd.code,fd.qualname++".<locals>."⟩ d names.length body m) {A:Around} {Av:Addr→Prop} {s:Shared} {avs:List Value} {as:List PV} {r:PV} {K:Result→Shared→Prop}
    (hK:Room (d+1) A) (hm:(if as.length=ps.length then m as else none)=some r) (P:Pre X Av s) (tk:1≤s.toks∨∃p,ps=[p]∧fd.scope.names.lookup p=some .local) (hv:VRs s.heap Av avs as)
    (k:∀v s',Post X Av s v r s'→K (.ok (.ret v)) s'):codeAny (model X.prog X.w) A (.call (.ref fa) ⟨avs,[]⟩) K s:=by
  have hA:=hK
  split at hm
  case isFalse=>cases hm
  rename_i hlen
  obtain ⟨o,ho,hd⟩:=ok.obj
  have hvl:avs.length=ps.length:=hv.length.trans hlen
  obtain ⟨rest,hrest⟩:=ok.pre
  have hpsn:ps.Nodup:=by
    have:=ok.nd
    rw [hrest] at this
    exact (List.nodup_append.mp this).1
  have hzk:((ps.zip avs).map (·.1))=ps:=by
    rw [List.map_fst_zip]
    lia
  have hkd:∀x∈ps,fd.scope.names.lookup x=some .local∨fd.scope.names.lookup x=some .cell:=fun x hx=>ok.kinds x (by rw [hrest];exact List.mem_append_left _ hx)
  have hroom:A.depth < recursionLimit:=by
    have:=hA.2.1
    show A.depth < 1000
    lia
  refine call_cellsT hroom (P.base _ _ ho).1 hd (X.nolimit.keeps fun b o e=>(P.base b o e).1) (ok.code.keeps fun b o e=>(P.base b o e).1) ok.body (ok.bind avs hvl) ok.clo (fun x hx=>?_) (fun s₁ I htk0=>?_) ok.co ok.gen ok.fn
  · have hx1:x.1∈ps:=by rw [←hzk];exact List.mem_map_of_mem hx
    rcases hkd x.1 hx1 with h | h
    · exact .inl h
    · exact .inr ⟨h,cellsFrom_some _ _ _ (.inl h)⟩
  · -- the callee's frame
    generalize hE:callEnvC fd s.heap.objs.size fa=env at I ⊢
    have e1:env.scope=fd.scope:=by rw [←hE];rfl
    have e2:env.locals=s.heap.objs.size:=by rw [←hE];rfl
    have e3:env.globals=mainGlobals:=by rw [←hE];exact ok.gl
    have e4:env.builtins=builtinsNs:=by rw [←hE];exact ok.bl
    have e5:env.cells=cellsFrom (s.heap.objs.size+1) fd.scope.names []:=by rw [←hE];rfl
    have hK:∀x,env.kindOf x=fd.scope.names.lookup x:=fun x=>by show env.scope.names.lookup x=_;rw [e1]
    have hkeep:=I.toInCall.keep
    have hcl:∀x c,env.cells.lookup x=some c→s.heap.objs.size < c:=fun x c hc=>by
      have:=I.above x c (mem_of_lookup hc)
      rw [e2] at this
      exact this
    have hold:∀b o,s.heap.get? b=some o→b≠env.locals∧∀x,env.cells.lookup x≠some b:=fun b o e=>by
      have hlt:=Heap.lt_size e
      exact ⟨fun q=>by rw [q,e2] at hlt;exact Nat.lt_irrefl _ hlt,fun x q=>absurd (hcl x b q) (Nat.lt_asymm hlt)⟩
    have hLlt:env.locals < s₁.heap.objs.size:=I.toInCall.ns.lt
    have hsz:s.heap.objs.size≤s₁.heap.objs.size:=by rw [e2] at hLlt;exact Nat.le_of_lt hLlt
    let Mu:Addr→Prop:=fun a=>a=env.locals∨(∃y,env.cells.lookup y=some a)∨X.Tb a
    let Av1:Addr→Prop:=fun a=>Av a∨Mu a
    have hmu:∀a,a < s.heap.objs.size→¬ X.Tb a→¬ Mu a:=fun a l n q=>by
      rcases q with q | ⟨y,q⟩ | q
      · rw [q,e2] at l;exact Nat.lt_irrefl _ l
      · exact absurd (hcl y a q) (Nat.lt_asymm l)
      · exact n q
    have hvs:VRs s₁.heap Av1 avs as:=hv.mono (fun a o e _=>hkeep a o e) (fun a l n q=>q.elim n (hmu a l fun t=>n (P.tabs a t).1)) hsz
    have hR:R X ⟨fd.scope,names,[],fd.code,fd.qualname++".<locals>."⟩ Av1 Mu env (as.map .froz++List.replicate (names.length - as.length) .none) s₁:=by
      refine ⟨e1,ok.fn,e3,e4,by rw [←hE];rfl,by rw [←hE];rfl,fun b o e=>⟨hkeep b o (P.base b o e).1,fun q=>?_⟩,fun a t=>⟨.inr (.inr t),?_⟩,fun a q=>.inr q,fun a q=>?_,⟨_,I.toInCall.ns⟩,.inl rfl,ok.nd,?_,fun x y c hx hy=>?_,fun x hx _=>?_,fun i x b hi hb'=>?_,fun i j x y xs ys a hi hj hx=>?_⟩
      · exact q.elim (P.base b o e).2 (hmu b (Heap.lt_size (P.base b o e).1) fun t=>(P.base b o e).2 (P.tabs b t).1)
      · refine (P.tabs a t).2.mono (fun o e=>hkeep a _ e) fun b o e n _=>⟨hkeep b o e,fun q=>?_⟩
        exact q.elim n (hmu b (Heap.lt_size e) fun t=>n (P.tabs b t).1)
      · rcases q with q | q | ⟨y,q⟩ | q
        · exact Nat.lt_of_lt_of_le (P.lt a q) hsz
        · rw [q];exact hLlt
        · exact (I.cell y a q).lt
        · obtain ⟨_,_,e,_⟩:=P.tabs a q
          exact Heap.lt_size (hkeep a _ e)
      · rw [List.length_append,List.length_map,List.length_replicate]
        have:as.length≤names.length:=by rw [hlen,hrest,List.length_append];lia
        show as.length+(names.length - as.length)=names.length
        lia
      · exact name_of_addr I.apart (mem_of_lookup hx) (mem_of_lookup hy)
      · unfold SlotOK
        rcases ok.kinds x hx with h | h
        · rw [←hK] at h
          simp only [h]
        · have hc:(env.cells.lookup x).isSome=true:=by rw [e5];exact cellsFrom_some _ _ _ (.inl h)
          obtain ⟨c,hc⟩:=Option.isSome_iff_exists.mp hc
          rw [←hK] at h
          simp only [h]
          exact ⟨c,_,hc,I.cell x c hc,.inr (.inl ⟨x,hc⟩)⟩
      · by_cases hia:i < as.length
        · rw [List.getElem?_append_left (by rw [List.length_map];exact hia),List.getElem?_map] at hb'
          obtain ⟨p,hp,rfl⟩:=Option.map_eq_some_iff.mp hb'
          obtain ⟨v,hv1,hv2⟩:=hvs.get hp
          have hxp:ps[i]? =some x:=by
            have:i < ps.length:=by lia
            show _
            have h9:names[i]? =some x:=hi
            rw [hrest,List.getElem?_append_left this] at h9
            exact h9
          have hmem:(x,v)∈ps.zip avs:=lookup_zip hxp hv1
          refine ⟨v,?_,hv2⟩
          unfold ValAt
          rcases hkd x (List.mem_of_getElem? hxp) with h | h
          · rw [←hK] at h
            simp only [h]
            exact ⟨_,I.toInCall.ns,bindL_get h (by rw [hzk];exact hpsn) hmem⟩
          · have hc:(env.cells.lookup x).isSome=true:=by rw [e5];exact cellsFrom_some _ _ _ (.inl h)
            obtain ⟨c,hc⟩:=Option.isSome_iff_exists.mp hc
            rw [←hK] at h
            simp only [h]
            have:=I.cell x c hc
            rw [bindC_get (by rw [h];decide) (by rw [hzk];exact hpsn) hmem] at this
            exact ⟨c,hc,this⟩
        · rw [List.getElem?_append_right (by rw [List.length_map];lia),List.getElem?_replicate] at hb'
          split at hb'<;>cases hb'
          trivial
      · -- no list is the frame's own yet
        by_cases hia:i < as.length
        · rw [List.getElem?_append_left (by rw [List.length_map];exact hia),List.getElem?_map] at hx
          obtain ⟨p,hp,q⟩:=Option.map_eq_some_iff.mp hx
          cases q
        · rw [List.getElem?_append_right (by rw [List.length_map];lia),List.getElem?_replicate] at hx
          split at hx<;>cases hx
    have hA':Room d (A.deeper env):=by
      obtain ⟨a1,a2,a3⟩:=hA
      refine ⟨a1,?_,?_⟩
      · show A.depth+1+20 * d < 690
        lia
      · show A.units+3+100 * d < 9000
        lia
    obtain ⟨tk₁,hs₁⟩:∃tk,s₁={ s with heap:=s₁.heap,toks:=tk }:=by
      obtain ⟨h',tk,e⟩:=I.toInCall.same
      exact ⟨tk,by rw [e]⟩
    have htk:1≤s₁.toks:=htk0 (tk.imp id fun ⟨p,hp,hl⟩=>by
      obtain ⟨v,hv1⟩:=List.length_eq_one_iff.mp (hvl.trans (congrArg List.length hp))
      exact ⟨p,v,by rw [hp,hv1];rfl,hl⟩)
    have hos:s₁.os=s.os:=by rw [hs₁]
    have hgs:s₁.gens=s.gens:=by rw [hs₁]
    have back:∀(Av' Mu':Addr→Prop) (st':St) (s':Shared),R X ⟨fd.scope,names,[],fd.code,fd.qualname++".<locals>."⟩ Av' Mu' env st' s'→Step Av1 Mu s₁ Av' Mu' s'→∀a,Av a→Av' a:=fun Av' Mu' st' s' R' S' a q=>by
      by_cases z:X.Tb a
      · exact R'.ma a (R'.tabs a z).1
      · exact S'.av' a (.inl q) (hmu a (P.lt a q) z)
    have fin:∀(v:Value) (p:PV) (st':St) (s':Shared) (Av' Mu':Addr→Prop),R X ⟨fd.scope,names,[],fd.code,fd.qualname++".<locals>."⟩ Av' Mu' env st' s'→Step Av1 Mu s₁ Av' Mu' s'→VR s'.heap Av' v p→Post X Av s v p s':=fun v p st' s' Av' Mu' R' S' V'=>by
      refine ⟨fun a o e n=>S'.keep a o (hkeep a o e) fun q=>?_,fun a t=>(R'.tabs a t).2.mono (fun _ e=>e) fun b _ e n _=>⟨e,fun q=>n (back _ _ _ _ R' S' b q)⟩,Nat.le_trans hsz S'.size,S'.os.trans hos,fun h=>S'.gens (hgs ▸ h),V'.mono (fun _ _ e _=>e) (fun a l n q=>n ?_) (Nat.le_refl _)⟩
      · exact hmu a (Heap.lt_size e) n q
      · exact back _ _ _ _ R' S' a q
    refine hb hA' hm hR htk fun fl v s' Av' Mu' st' hfl R' S' V'=>?_
    have hk:=k _ _ (fin _ _ _ _ _ _ R' S' V')
    rcases hfl with h | ⟨h,h'⟩
    · subst h
      exact hk
    · subst h
      subst h'
      exact hk
theorem callW_of2 {X:Cx} {fa:Addr} {fd:FuncData} {body:List Stmt} {ps names:List Str} {d:Nat} {m:List PV→Option PV} (ok:FnOK X fa fd body ps names) (hb:SoundR X ⟨fd.scope,names,[],fd.code,fd.qualname++".<locals>."⟩ d names.length body m):CallW X (d+1) fa (fun as=>if as.length=ps.length then m as else none):=
  fun hA hm P tk hv k=>callG ok hb hA hm P (.inl tk) hv k
theorem callW_of {X:Cx} {fa:Addr} {fd:FuncData} {body:List Stmt} {ps names:List Str} {d:Nat} {g:EvS} (ok:FnOK X fa fd body ps names) (hb:SoundS X ⟨fd.scope,names,[],fd.code,fd.qualname++".<locals>."⟩ d body g):CallW X (d+1) fa (fun as=>if as.length=ps.length then runF g names.length as else none):=
  callW_of2 ok (soundR_of hb)
end Mine
end
section
open PySem PySem.W PyProof.Rows PySem.Builtin.Str
set_option tactic.hygienic false
namespace Mine
section
variable {X:Cx} {F:FI} {d:Nat}
noncomputable def FnW (X:Cx) (d:Nat) (fv:Value) (m:List PV→Option PV):Prop:=
  ∀{A:Around} {Av:Addr→Prop} {s:Shared} {avs:List Value} {as:List PV} {r:PV} {Q E:Value→Shared→Prop},Room d A→m as=some r→(∀a,Av a→a < s.heap.objs.size)→VRs s.heap Av avs as→
    (∀v s',Grow s s'→VR s'.heap Av v r→Q v s')→wpAny (model X.prog X.w) A (call fv avs []) Q E s
theorem VRs1 {h:Heap} {Av:Addr→Prop} {vs:List Value} {a:PV} (x:VRs h Av vs [a]):∃v,vs=[v]∧VR h Av v a:=by
  match vs,x with
  | [v],x=>unfold VRs at x;exact ⟨v,rfl,x.1⟩
  | [],x=>unfold VRs at x;exact x.elim
  | _::_::_,x=>unfold VRs at x;have:=x.2;unfold VRs at this;exact this.elim
theorem VRs2 {h:Heap} {Av:Addr→Prop} {vs:List Value} {a b:PV} (x:VRs h Av vs [a,b]):∃v u,vs=[v,u]∧VR h Av v a∧VR h Av u b:=by
  match vs,x with
  | v::r,x=>unfold VRs at x;obtain ⟨u,rfl,y⟩:=VRs1 x.2;exact ⟨v,u,rfl,x.1,y⟩
  | [],x=>unfold VRs at x;exact x.elim
theorem VRs3 {h:Heap} {Av:Addr→Prop} {vs:List Value} {a b c:PV} (x:VRs h Av vs [a,b,c]):∃v u w,vs=[v,u,w]∧VR h Av v a∧VR h Av u b∧VR h Av w c:=by
  match vs,x with
  | v::r,x=>unfold VRs at x;obtain ⟨u,w,rfl,y,z⟩:=VRs2 x.2;exact ⟨v,u,w,rfl,x.1,y,z⟩
  | [],x=>unfold VRs at x;exact x.elim
noncomputable def args1 (f:PV→Option PV) (as:List PV):Option PV:=match as with
  | [a]=>f a
  | _=>none
theorem args1_some {f:PV→Option PV} {as:List PV} {r:PV} (h:args1 f as=some r):∃a,as=[a]∧f a=some r:=by
  unfold args1 at h
  split at h
  · exact ⟨_,rfl,h⟩
  · cases h
theorem fn1 {F:Value} {f:PV→Option PV} (H:∀{A:Around} {Av:Addr→Prop} {s:Shared} {a r:PV} {v:Value} {Q:Value→Shared→Prop} {E:Value→Shared→Prop},Room d A→f a=some r→(∀a,Av a→a < s.heap.objs.size)→VR s.heap Av v a→
    (∀v s',Grow s s'→VR s'.heap Av v r→Q v s')→wpAny (model X.prog X.w) A (call F [v] []) Q E s):FnW X d F (args1 f):=by
  intro A Av s avs as r Q E hA h lt hv k
  obtain ⟨a,rfl,h⟩:=args1_some h
  obtain ⟨v,rfl,q⟩:=VRs1 hv
  exact H hA h lt q k
noncomputable def lenA:PV→Option PV
  | .str x=>if x.length < 9223372036854775808 then some (.int x.length) else none
  | .list xs=>if xs.length < 9223372036854775808 then some (.int xs.length) else none
  | _=>none
noncomputable abbrev pyLen:List PV→Option PV:=args1 lenA
theorem len_small {n:Nat} (h:n < 9223372036854775808):(n:Int) < 2 ^ 63:=Int.ofNat_lt.mpr h
theorem lenA_some {a r:PV} (h:lenA a=some r):(∃x,a=.str x∧x.length < 9223372036854775808∧r=.int x.length)∨∃xs,a=.list xs∧xs.length < 9223372036854775808∧r=.int xs.length:=by
  cases a with
  | str x=>obtain ⟨hl,rfl⟩:=when_some h;exact .inl ⟨x,rfl,hl,rfl⟩
  | list xs=>obtain ⟨hl,rfl⟩:=when_some h;exact .inr ⟨xs,rfl,hl,rfl⟩
  | _=>cases h
theorem f_len:FnW X d (.builtin "len") pyLen:=fn1 fun {A Av s a r v Q E} hA h lt q k=>by
  rcases lenA_some h with ⟨x,rfl,hl,rfl⟩ | ⟨xs,rfl,hl,rfl⟩
  · obtain ⟨t,rfl⟩:=q.str_of
    exact SBL.len (len_small hl) (k _ _ .toks VR.int')
  · unfold VR at q;obtain ⟨l,vs,n,rfl,g,na,z⟩:=q
    refine Calls.call_len_list (l:=l) (items:=vs.toArray) ⟨_,g,rfl,n,rfl⟩ (by rw [List.size_toArray,z.length];exact len_small hl) (k _ _ .toks ?_)
    rw [List.size_toArray,z.length]
    exact VR.int'
noncomputable def pyRange:List PV→Option PV
  | [a]=>(asInt a).map fun n=>.range 0 n 1
  | [a,b]=>onI a b fun a b=>some (.range a b 1)
  | [a,b,c]=>onI a b fun a b=>(asInt c).bind fun c=>if c≠0∧c.natAbs < 1073741824 then some (.range a b c) else none
  | _=>none
theorem VR.range' {h:Heap} {Av:Addr→Prop} {r:Addr} {a b c:Int} {t u v:Tok} (g:h.get? r=some (rangeObj a b c t u v)) (n:¬ Av r):VR h Av (.ref r) (.range a b c):=by unfold VR;exact ⟨r,t,u,v,rfl,g,n⟩
theorem VR.range_new {s:Shared} {Av:Addr→Prop} {a b c:Int} {t u v:Tok} (lt:∀a,Av a→a < s.heap.objs.size):VR (s.heap.push (rangeObj a b c t u v)) Av (.ref s.heap.objs.size) (.range a b c):=
  VR.range' (Heap.get?_push_size _ rfl) fun q=>absurd (lt _ q) (Nat.lt_irrefl _)
theorem f_range:FnW X d (.type "range") pyRange:=by
  intro A Av s avs as r Q E hA h lt hv k
  match as,h with
  | [a],h=>
    obtain ⟨n,e,rfl⟩:=Option.map_eq_some_iff.mp h
    obtain ⟨v,rfl,q⟩:=VRs1 hv
    obtain ⟨t,rfl⟩:=(asInt_some e ▸ q).int_of
    exact call_range_1 (k _ _ (Grow.push _) (VR.range_new lt))
  | [a,b],h=>
    obtain ⟨x,y,rfl,rfl,e⟩:=onI_some h
    obtain ⟨v,u,rfl,q,q'⟩:=VRs2 hv
    obtain ⟨t,rfl⟩:=q.int_of
    obtain ⟨t',rfl⟩:=q'.int_of
    cases e
    exact call_range_2 (k _ _ (Grow.push _) (VR.range_new lt))
  | [a,b,c],h=>
    obtain ⟨x,y,rfl,rfl,e⟩:=onI_some h
    obtain ⟨z,e1,e⟩:=Option.bind_eq_some_iff.mp e
    obtain ⟨hc,rfl⟩:=when_some e
    obtain ⟨v,u,w,rfl,q,q',q''⟩:=VRs3 hv
    obtain ⟨t,rfl⟩:=q.int_of
    obtain ⟨t',rfl⟩:=q'.int_of
    obtain ⟨t'',rfl⟩:=(asInt_some e1 ▸ q'').int_of
    exact call_range_3 hc.1 (k _ _ (Grow.push _) (VR.range_new lt)) (.inl (PyProof.noPylong_small hc.2))
theorem numAt_eq {l:List (Int×Tok)} {i:Nat}:numAt l.toArray i=((l.map (·.1))[i]?).getD 0:=by
  unfold numAt
  simp
theorem preSum_eq {l:List (Int×Tok)}:∀k,k≤l.length→preSum (numAt l.toArray) k=((l.map (·.1)).take k).sum
  | 0,_=>by simp [preSum]
  | k+1,h=>by
    rw [preSum,preSum_eq k (by lia),numAt_eq]
    have hk:k < (l.map (·.1)).length:=by rw [List.length_map];lia
    rw [List.take_succ_eq_append_getElem hk,List.sum_append,List.getElem?_eq_getElem hk]
    simp
theorem sum_bound:∀(l:List Int) (B:Nat),(∀x∈l,x.natAbs≤B)→l.sum.natAbs≤l.length * B
  | [],B,_=>by simp
  | x::l,B,h=>by
    have h1:=h x (.head _)
    have h2:=sum_bound l B fun y hy=>h y (.tail _ hy)
    rw [List.sum_cons,List.length_cons,Nat.succ_mul,Nat.add_comm]
    exact Nat.le_trans (Int.natAbs_add_le _ _) (Nat.add_le_add h1 h2)
noncomputable def sumA:PV→Option PV
  | .list xs=>(allOf asInt xs).bind fun ss=>if ss.length≤1000∧ss.all (fun x=>x.natAbs≤1099511627776)=true then some (.int ss.sum) else none
  | _=>none
noncomputable abbrev pySum:List PV→Option PV:=args1 sumA
theorem intItems_list {l:List (Int×Tok)}:(l.map fun p=>Value.int p.1 p.2).toArray=intItems l.toArray:=by simp [intItems]
theorem inLong_of {x:Int} (h:x.natAbs≤1099511627776000):InLong x:=by unfold InLong;lia
theorem pre_long {l:List Int} (hlen:l.length≤1000) (hall:∀x∈l,x.natAbs≤1099511627776) (j:Nat):InLong (l.take j).sum:=
  inLong_of (Nat.le_trans (sum_bound _ 1099511627776 fun x hx=>hall x (List.mem_of_mem_take hx)) (Nat.mul_le_mul_right _ (Nat.le_trans (List.length_take_le' ..) hlen)))
theorem sumA_some {a r:PV} (h:sumA a=some r):∃xs ss,a=.list xs∧allOf asInt xs=some ss∧(ss.length≤1000∧ss.all (fun x=>x.natAbs≤1099511627776)=true)∧r=.int ss.sum:=by
  cases a with
  | list xs=>
    obtain ⟨ss,e,h⟩:=Option.bind_eq_some_iff.mp h
    obtain ⟨hb,rfl⟩:=when_some h
    exact ⟨xs,ss,rfl,e,hb,rfl⟩
  | _=>cases h
theorem f_sum:FnW X d (.builtin "sum") pySum:=fn1 fun {A Av s a r v Q E} hA h lt q k=>by
  obtain ⟨xs,ss,rfl,e,hb,rfl⟩:=sumA_some h
  unfold VR at q;obtain ⟨a,vs,n,rfl,g,na,z⟩:=q
  obtain ⟨l,rfl,rfl⟩:=ints_of z e
  have hlen:(l.map (·.1)).length≤1000:=hb.1
  have hall:∀x∈l.map (·.1),x.natAbs≤1099511627776:=fun x hx=>of_decide_eq_true (List.all_eq_true.mp hb.2 x hx)
  refine wpAny_grow (P:=fun v s'=>∃t,v=.int (l.map (·.1)).sum t) (sum_intList (xs:=l.toArray) hA.1 ⟨_,g,rfl,n,congrArg (fun x=>Data.seq x n) intItems_list⟩ (fun j hj=>?_) fun h' tk t' hk=>⟨hk,rfl,rfl,t',?_⟩) fun v s' G P=>?_
  · have hj':j < (l.map (·.1)).length:=by rw [List.length_map];exact hj
    constructor
    · rw [numAt_eq,List.getElem?_eq_getElem hj']
      exact inLong_of (Nat.le_trans (hall _ (List.getElem_mem _)) (by decide))
    · rw [preSum_eq _ (by rw [List.length_map] at hj';exact hj')]
      exact pre_long hlen hall _
  · rw [show l.toArray.size=l.length from List.size_toArray ..,preSum_eq _ (Nat.le_refl _),List.take_of_length_le (by rw [List.length_map];exact Nat.le_refl _)]
  · obtain ⟨t,rfl⟩:=P
    exact k _ _ G VR.int'
noncomputable def chrA (a:PV):Option PV:=(asInt a).bind fun i=>if 0≤i∧i≤0x10FFFF then some (.str ⟨#[i.toNat]⟩) else none
noncomputable abbrev pyChr:List PV→Option PV:=args1 chrA
theorem f_chr:FnW X d (.builtin "chr") pyChr:=fn1 fun {A Av s a r v Q E} hA h lt q k=>by
  obtain ⟨i,e,h⟩:=Option.bind_eq_some_iff.mp h
  obtain ⟨hb,rfl⟩:=when_some h
  obtain ⟨t,rfl⟩:=(asInt_some e ▸ q).int_of
  exact P.chr_of_int (by simp;lia) (k _ _ .toks VR.str')
noncomputable def ordA (a:PV):Option PV:=(asStr a).bind fun x=>match x.cps.toList with
  | [c]=>some (.int c)
  | _=>none
noncomputable abbrev pyOrd:List PV→Option PV:=args1 ordA
set_option tactic.hygienic true in
theorem f_ord:FnW X d (.builtin "ord") pyOrd:=fn1 fun {A Av s a r v Q E} hA h lt q k=>by
  obtain ⟨x,e,h⟩:=Option.bind_eq_some_iff.mp h
  obtain ⟨t,rfl⟩:=(asStr_some e ▸ q).str_of
  split at h<;>cases h
  rename_i c e
  have:x=⟨#[c]⟩:=PySem.Str.ext' (Array.ext' (by rw [e]))
  subst this
  exact P.ord_of_char (k _ _ .toks VR.int')
theorem callArgsT {M:Model} {A:Around} {Q E:Value→Shared→Prop} {s:Shared} {T:String} {first:List Value} {args:List Expr} {env:Env} {pos:Pos} (hp:(backTo pos (starEach args env)).any (·.1)=false)
    (h:wpAny M A (spliced (backTo pos (starEach args env))) (fun vs s₁=>wpAny M A (call (.type T) (first++vs) []) Q E s₁) E s):wpAny M A (callWith pos (.type T) first (backTo pos (starEach args env)) []) Q E s:=by
  refine PyProof.Rows.callWith_type hp ?_
  cases hq:backTo pos (starEach args env) with
  | nil=>
    rw [hq] at h
    unfold spliced at h
    refine PySem.evalArgs_none ?_
    have:wpAny M A (Pure.pure []:Sem (List Value)) (fun vs s₁=>wpAny M A (call (.type T) (first++vs) []) Q E s₁) E s:=h
    intro Γ p hΓ
    exact this Γ p hΓ Γ p hΓ
  | cons x r=>
    obtain ⟨b,x⟩:=x
    rw [hq] at hp h
    have hb:b=false:=by
      simp at hp
      exact hp.1
    subst hb
    exact Calls.evalArgs_plain h
theorem callArgsF {M:Model} {A:Around} {Q E:Value→Shared→Prop} {s:Shared} {a:Addr} {o:Obj} {fd:FuncData} {args:List Expr} {env:Env} {pos:Pos} (hp:(backTo pos (starEach args env)).any (·.1)=false) (hne:backTo pos (starEach args env)≠[])
    (h:wpAny M A (spliced (backTo pos (starEach args env))) (fun vs s₁=>(s₁.heap.get? a=some o∧o.data=.func fd)∧wpAny M A (call (.ref a) vs []) Q E s₁) E s):wpAny M A (callWith pos (.ref a) [] (backTo pos (starEach args env)) []) Q E s:=by
  refine Calls.callWith_function (o:=o) (fd:=fd) ?_
  cases hq:backTo pos (starEach args env) with
  | nil=>exact absurd hq hne
  | cons x r=>
    obtain ⟨b,x⟩:=x
    rw [hq] at hp h
    have hb:b=false:=by
      simp at hp
      exact hp.1
    subst hb
    exact Calls.evalArgs_plain h
theorem wp_gname {Av Mu:Addr→Prop} {env:Env} {st:St} {s:Shared} {M:Model} {A:Around} {Q E:Value→Shared→Prop} (r:R X F Av Mu env st s) {x:Str} {p:Pos} {v:Value} (hx:F.scope.names.lookup x=some .globalImplicit)
    (hv:X.mg x=some v) (k:Q v s) (hd:autoParam ((x==("__debug__":Str))=false) Mine.au3._auto_1):wpAny M A (eval (.Name x p) env) Q E s:=by
  refine Calls.Name_function_global (by rw [r.sc];exact r.fn) (by show env.scope.names.lookup x=_;rw [r.sc];exact hx) (Calls.loadGlobal_global (mg:=X.mg) ?_ hv k) hd
  rw [r.gl]
  exact X.g.keeps fun b o e=>(r.base b o e).1
theorem wp_bname {Av Mu:Addr→Prop} {env:Env} {st:St} {s:Shared} {M:Model} {A:Around} {Q E:Value→Shared→Prop} (r:R X F Av Mu env st s) {x:Str} {p:Pos} {v:Value} (hx:F.scope.names.lookup x=some .globalImplicit)
    (hg:X.mg x=none) (hv:bootBuiltins x=some v) (k:Q v s) (hn:autoParam (x≠"__name__") Mine.au3._auto_1) (hd:autoParam ((x==("__debug__":Str))=false) Mine.au3._auto_1):wpAny M A (eval (.Name x p) env) Q E s:=by
  refine Calls.Name_function_global (by rw [r.sc];exact r.fn) (by show env.scope.names.lookup x=_;rw [r.sc];exact hx) (Calls.loadGlobal_builtin (mg:=X.mg) (mb:=X.mb) ?_ hg ?_ ((X.bb x hn).trans hv) k) hd
  · rw [r.gl]
    exact X.g.keeps fun b o e=>(r.base b o e).1
  · rw [r.bl]
    exact X.b.keeps fun b o e=>(r.base b o e).1
theorem s_callb {x:Str} {p pos:Pos} {id:String} {args:List Expr} {g:St→Option (List PV×St)} {m:List PV→Option PV} (ha:SoundEs X F d args g) (hm:FnW X d (.builtin id) m) (hx:F.scope.names.lookup x=some .globalImplicit)
    (hg:X.mg x=none) (hv:bootBuiltins x=some (.builtin id)) (hp:autoParam (∀env,(backTo pos (starEach args env)).any (·.1)=false) Mine.au4._auto_1)
    (hn:autoParam (x≠"__name__") Mine.au3._auto_1) (hd:autoParam ((x==("__debug__":Str))=false) Mine.au3._auto_1):SoundE X F d (.Call (.Name x p) args [] pos) (bindE g fun as=>liftE (m as)):=by
  refine @SoundT.intro _ _ _ _ _ _ _ _ ?_
  intro A Av Mu env st st' s v Q E hA hf R₀ tk k
  refine bindE_elim hf fun as st2 h2 hf2=>?_
  obtain ⟨h3,e3⟩:=liftE_some hf2
  subst e3
  show wpAny _ _ (do callWith pos (←eval (.Name x p) env) [] (backTo pos (starEach args env)) (backToKw pos (keywordEach [] env))) _ _ _
  refine wpAny_bind (wp_bname R₀ hx hg hv (callArgs (hp env) (ha pos _ hA h2 R₀ tk fun vb s2 Av2 Mu2 R2 S2 V2 tk2=>?_)) hn hd)
  exact hm hA h3 R2.lt V2 fun v' s' G V=>k _ _ _ _ (R2.grow G) (S2.trans (StepE.ofGrow G) R₀.lt) V
theorem s_callt {x:Str} {p pos:Pos} {T:String} {args:List Expr} {g:St→Option (List PV×St)} {m:List PV→Option PV} (ha:SoundEs X F d args g) (hm:FnW X d (.type T) m) (hx:F.scope.names.lookup x=some .globalImplicit)
    (hg:X.mg x=none) (hv:bootBuiltins x=some (.type T)) (hp:autoParam (∀env,(backTo pos (starEach args env)).any (·.1)=false) Mine.au4._auto_1)
    (hn:autoParam (x≠"__name__") Mine.au3._auto_1) (hd:autoParam ((x==("__debug__":Str))=false) Mine.au3._auto_1):SoundE X F d (.Call (.Name x p) args [] pos) (bindE g fun as=>liftE (m as)):=by
  refine @SoundT.intro _ _ _ _ _ _ _ _ ?_
  intro A Av Mu env st st' s v Q E hA hf R₀ tk k
  refine bindE_elim hf fun as st2 h2 hf2=>?_
  obtain ⟨h3,e3⟩:=liftE_some hf2
  subst e3
  show wpAny _ _ (do callWith pos (←eval (.Name x p) env) [] (backTo pos (starEach args env)) (backToKw pos (keywordEach [] env))) _ _ _
  refine wpAny_bind (wp_bname R₀ hx hg hv (callArgsT (hp env) (ha pos _ hA h2 R₀ tk fun vb s2 Av2 Mu2 R2 S2 V2 tk2=>?_)) hn hd)
  exact hm hA h3 R2.lt V2 fun v' s' G V=>k _ _ _ _ (R2.grow G) (S2.trans (StepE.ofGrow G) R₀.lt) V
theorem s_call {x:Str} {p pos:Pos} {fa:Addr} {args:List Expr} {g:St→Option (List PV×St)} {m:List PV→Option PV} (ha:SoundEs X F d args g) (hm:CallW X d fa m) (hx:F.scope.names.lookup x=some .globalImplicit)
    (hg:X.mg x=some (.ref fa)) (ho:∃o fd,X.B.get? fa=some o∧o.data=.func fd) (hp:autoParam (∀env,(backTo pos (starEach args env)).any (·.1)=false) Mine.au4._auto_1) (hne:autoParam (∀env,backTo pos (starEach args env)≠[]) Mine.au5._auto_1)
    (hd:autoParam ((x==("__debug__":Str))=false) Mine.au3._auto_1):SoundE X F d (.Call (.Name x p) args [] pos) (bindE g fun as=>liftE (m as)):=by
  refine @SoundT.intro _ _ _ _ _ _ _ _ ?_
  intro A Av Mu env st st' s v Q E hA hf R₀ tk k
  refine bindE_elim hf fun as st2 h2 hf2=>?_
  obtain ⟨h3,e3⟩:=liftE_some hf2
  subst e3
  obtain ⟨o,fd,ho,hfd⟩:=ho
  show wpAny _ _ (do callWith pos (←eval (.Name x p) env) [] (backTo pos (starEach args env)) (backToKw pos (keywordEach [] env))) _ _ _
  refine wpAny_bind (wp_gname R₀ hx hg (callArgsF (o:=o) (fd:=fd) (hp env) (hne env) (ha pos _ hA h2 R₀ tk fun vb s2 Av2 Mu2 R2 S2 V2 tk2=>?_)) hd)
  refine ⟨⟨(R2.base _ _ ho).1,hfd⟩,wpAny_call (hm hA h3 R2.pre tk2 V2 fun v' s' P=>?_)⟩
  obtain ⟨R3,S3⟩:=R2.after P
  exact k _ _ _ _ R3 (S2.trans ⟨S3,R2.valsAfter P.keep⟩ R₀.lt) P.val
end
end Mine
end
section
open PySem PySem.W PyProof.Rows PySem.Builtin.Str
set_option tactic.hygienic false
namespace Mine
section
variable {prog:Program} {w:World} {A:Around} {E:Value→Shared→Prop} {s:Shared}
theorem upd_obj {h:Heap} {l:Addr} {vs us:List Value} {n:Nat} {f:Array Value→Array Value} (g:h.get? l=some (listObj vs n)) (hf:f vs.toArray=us.toArray):
    ∃n',(h.update l (Obj.mapSeq f)).get? l=some (listObj us n'):=by
  have:=IsL.update (h:=h) (l:=l) (items:=vs.toArray) (n:=n) g f
  rw [hf] at this
  exact ⟨_,this⟩
theorem list_append_x {l:Addr} {vs:List Value} {n:Nat} {x:Value} {Q:Value→Shared→Prop} (g:s.heap.get? l=some (listObj vs n)) (hsz:vs.length≤16777216)
    (hQ:∀h' n',h'.get? l=some (listObj (vs++[x]) n')→Heap.SameBut l s.heap h'→Q .none { s with heap:=h' }):
    wpAny (model prog w) A (call (.builtin "list.append") [.ref l,x]) Q E s:=by
  have hl:s.heap.IsList l vs.toArray:=⟨_,g,rfl,n,rfl⟩
  obtain ⟨n',g'⟩:=upd_obj (f:=(·.push x)) (us:=vs++[x]) g (by simp)
  refine wpAny_call_entry slot_list_append hl.typeIs entry_list_append ?_ (args_list_append _ _)
  show wpAny _ _ (updateSeq l (·.push x)>>=fun _=>ret .none) _ _ s
  refine wpAny_bind ?_
  exact wpAny_updateSeq g rfl (wpAny_pure ⟨.none,rfl,hQ _ n' g' (Heap.SameBut.update ..)⟩) (by show vs.toArray.size≤sizeLine;rw [List.size_toArray];exact hsz)
theorem list_set_x {l:Addr} {vs:List Value} {n j:Nat} {i:Int} {t:Tok} {v:Value} {Q:Unit→Shared→Prop} (g:s.heap.get? l=some (listObj vs n)) (hr: -(2 ^ 63)≤i∧i < 2 ^ 63) (hj:seqIndex? i vs.length=some j)
    (hQ:∀h' n',h'.get? l=some (listObj (vs.set j v) n')→Heap.SameBut l s.heap h'→Q () { s with heap:=h' }):
    wpAny (model prog w) A (setItem (.ref l) (.int i t) v) Q E s:=by
  have hl:s.heap.IsList l vs.toArray:=⟨_,g,rfl,n,rfl⟩
  obtain ⟨n',g'⟩:=upd_obj (f:=(·.setIfInBounds j v)) (us:=vs.set j v) g (by simp)
  unfold setItem
  try with_reducible refine wpAny_holding ?_
  first | refine wpAny_bind (wpAny_pure ?_) | skip
  refine wpAny_bind (wpAny_sequenceKey hl.typeIs (by decide) ?_)
  refine wpAny_bind (wpAny_callSpecial?_slot (name:=Str.ofString "__setitem__") hl.typeIs slot_list_setitem
    (wpAny_call_entry slot_list_setitem hl.typeIs entry_list_setitem ?_ (args_list_setitem _ _ _)))
  show wpAny _ _ (Builtin.List.listSubscript? (.int i t)>>=_) _ _ s
  have fin:∀{K:Value→Shared→Prop},(∀h' n',h'.get? l=some (listObj (vs.set j v) n')→Heap.SameBut l s.heap h'→K .none { s with heap:=h' })→wpAny (model prog w) A.in1 (do setSeqItemAt l j v;ret .none:Sem Fin) (fun r s'=>∃v',r=.done (.ret v')∧K v' s') (fun _ _=>False) s:=fun {K} hK=>by
    refine wpAny_bind (wpAny_setSeqItemAt g rfl ?_)
    exact wpAny_pure ⟨.none,rfl,hK _ n' g' (Heap.SameBut.update ..)⟩
  have hjl:j < vs.length:=by
    rcases seqIndex_spec hj with ⟨h1,h2,h3⟩ | ⟨h1,h2,h3⟩<;>lia
  have hx':vs.toArray[j]? =some vs[j]:=by simp [hjl]
  rcases seqIndex_spec hj with ⟨h1,h2,h3⟩ | ⟨h1,h2,h3⟩
  · refine wpAny_bind (wpAny_listSubscript_int (fitsIndex_of h1 hr.2) ?_)
    clear hr
    obtain ⟨j',rfl⟩:=Int.eq_ofNat_of_zero_le h1
    have hj':j'=j:=by lia
    subst hj'
    show wpAny _ _ ((seqItemAt l j'>>=fun r=>pure (r.map (j',·)))>>=_) _ _ s
    refine wpAny_bind (wpAny_bind (wpAny_seqItemAt g rfl (wpAny_pure ?_)))
    rw [hx']
    show wpAny _ _ (setSeqItemAt l j' v>>=_) _ _ s
    refine wpAny_bind (wpAny_setSeqItemAt g rfl ?_)
    first
      | exact wpAny_bind (wpAny_pure (wpAny_pure ⟨.none,rfl,wpAny_pure (hQ _ n' g' (Heap.SameBut.update ..))⟩))
      | exact wpAny_pure ⟨.none,rfl,wpAny_pure (hQ _ n' g' (Heap.SameBut.update ..))⟩
  · refine wpAny_bind (wpAny_listSubscript_int (fitsIndex_neg h1 hr.1) ?_)
    clear hr
    obtain ⟨j',rfl⟩:∃j:Nat,i=Int.negSucc j:=by
      cases i with
      | ofNat n=>exact absurd h1 (Int.not_lt.mpr (Int.natCast_nonneg n))
      | negSucc n=>exact ⟨n,rfl⟩
    show wpAny _ _ ((Builtin.List.listItems (.ref l)>>=fun xs=>pure ((seqIndex? (Int.negSucc j') xs.size).bind fun i=>xs[i]?.map (i,·)))>>=_) _ _ s
    refine wpAny_bind (wpAny_bind ?_)
    show wpAny _ _ (seqItems? (.ref l)>>=_) _ _ s
    refine wpAny_bind (wpAny_seqItems g rfl (wpAny_pure (wpAny_pure ?_)))
    rw [List.size_toArray,hj]
    simp only [Option.bind_some,hx',Option.map_some]
    show wpAny _ _ (setSeqItemAt l j v>>=_) _ _ s
    refine wpAny_bind (wpAny_setSeqItemAt g rfl ?_)
    first
      | exact wpAny_bind (wpAny_pure (wpAny_pure ⟨.none,rfl,wpAny_pure (hQ _ n' g' (Heap.SameBut.update ..))⟩))
      | exact wpAny_pure ⟨.none,rfl,wpAny_pure (hQ _ n' g' (Heap.SameBut.update ..))⟩
end
section
variable {X:Cx} {F:FI} {d:Nat}
theorem R.turnOwn {Av Mu:Addr→Prop} {env:Env} {st:St} {s:Shared} {h':Heap} {tk:Nat} (r:R X F Av Mu env st s) {i:Nat} {x:Str} (hi:F.names[i]? =some x) {xs ys:List PV} (hs:st[i]? =some (.own xs))
    {a:Addr} {us:List Value} {n':Nat} (ha:ValAt s.heap env x (.ref a)) (hb:Heap.SameBut a s.heap h') (g':h'.get? a=some (listObj us n')) (hv:VRs s.heap Av us ys):
    R X F Av Mu env (st.set i (.own ys)) { s with heap:=h',toks:=tk }∧Step Av Mu s Av Mu { s with heap:=h',toks:=tk }:=by
  obtain ⟨a',vs,n,p,e,m,z⟩:=r.vars i x _ hi hs
  have:Value.ref a=.ref a':=ha.unique p
  cases this
  have nt:¬ X.Tb a:=fun t=>by
    obtain ⟨ps,q,_⟩:=(r.tabs a t).2
    rw [e] at q;cases q
  have hk:∀b o,s.heap.get? b=some o→b≠a→h'.get? b=some o:=fun b o e n=>(hb.2 b n).trans e
  have hk':∀b o,s.heap.get? b=some o→¬ Av b→h'.get? b=some o:=fun b o e n=>hk b o e fun q=>n (r.ma b (q ▸ m))
  have hsz:s.heap.objs.size≤h'.objs.size:=Nat.le_of_eq hb.1.symm
  have mv:∀{v p},VR s.heap Av v p→VR h' Av v p:=fun q=>q.mono hk' (fun _ _ n=>n) hsz
  have mvs:∀{v p},VRs s.heap Av v p→VRs h' Av v p:=fun q=>q.mono hk' (fun _ _ n=>n) hsz
  have kN:∀{L m},s.heap.Ns L m→h'.Ns L m:=fun {L m} q=>by
    obtain ⟨o,es,ep,ho,hd,w⟩:=q
    exact ⟨o,es,ep,hk _ _ ho (fun z=>by rw [z,e] at ho;cases ho;cases hd),hd,w⟩
  have kC:∀{c v},s.heap.IsCell c v→h'.IsCell c v:=fun {c v} q=>by
    obtain ⟨o,ho,hd⟩:=q
    exact ⟨o,hk _ _ ho (fun z=>by rw [z,e] at ho;cases ho;cases hd),hd⟩
  have kV:∀{x v},ValAt s.heap env x v→ValAt h' env x v:=fun {x v} q=>by
    unfold ValAt at q ⊢
    split at q
    · obtain ⟨m,a,b⟩:=q;exact ⟨m,kN a,b⟩
    · obtain ⟨c,a,b⟩:=q;exact ⟨c,a,kC b⟩
    · obtain ⟨c,a,b⟩:=q;exact ⟨c,a,kC b⟩
    · exact q.elim
  have kV':∀{x v v'},ValAt s.heap env x v→ValAt h' env x v'→v'=v:=fun p q=>(ValAt.unique (kV p) q).symm
  refine ⟨⟨r.sc,r.fn,r.gl,r.bl,r.cd,r.ql,fun b o q=>⟨hk' b o (r.base b o q).1 (r.base b o q).2,(r.base b o q).2⟩,fun b t=>⟨(r.tabs b t).1,?_⟩,r.ma,fun b q=>Nat.lt_of_lt_of_le (r.lt b q) hsz,?_,r.nsMu,r.nd,by rw [List.length_set];exact r.len,r.cinj,
    fun y hy hro=>?_,fun j y b hj hb'=>?_,fun j k y w ys' ws b hj hk2 hy hw vy vw=>?_⟩,?_⟩
  · exact (r.tabs b t).2.mono (fun o q=>hk b _ q fun z=>nt (z ▸ t)) fun c o e n _=>⟨hk' c o e n,n⟩
  · obtain ⟨m',q⟩:=r.ns
    exact ⟨m',kN q⟩
  · have q:=r.slots y hy hro
    unfold SlotOK at q ⊢
    split at q
    · trivial
    · obtain ⟨c,v,p1,p2,p3⟩:=q;exact ⟨c,v,p1,kC p2,p3⟩
    · trivial
    · exact q.elim
  · rcases get_set hb' with ⟨e1,e2⟩ | ⟨e1,e2⟩
    · subst e1;subst e2
      have e3:y=x:=Option.some.inj (hj.symm.trans hi)
      subst e3
      exact ⟨a,us,n',kV p,g',m,mvs hv⟩
    · have q:=r.vars j y b hj e2
      cases b with
      | none=>trivial
      | froz p'=>obtain ⟨u,p1,p2⟩:=q;exact ⟨u,kV p1,mv p2⟩
      | ref a=>exact kV q
      | own zs=>
        obtain ⟨b,us',n2,p1,p2,p3,p4⟩:=q
        refine ⟨b,us',n2,kV p1,hk _ _ p2 fun z=>?_,p3,mvs p4⟩
        subst z
        exact e1 (r.inj j i y x zs xs b hj hi e2 hs p1 p)
      | meth k=>
        obtain ⟨m',a',p1,p2,p3,p4⟩:=q
        refine ⟨m',a',kV p1,hk' _ _ p2 p3,p3,fun y' ws hy' hs'=>?_⟩
        rcases get_set hs' with ⟨f1,f2⟩ | ⟨f1,f2⟩
        · subst f1
          exact kV (p4 y' xs hy' hs)
        · exact kV (p4 y' ws hy' f2)
  · have old:∀{j:Nat} {y:Str} {zs:List PV},F.names[j]? =some y→(st.set i (Bind.own ys))[j]? =some (Bind.own zs)→∃zs',st[j]? =some (Bind.own zs'):=fun {j y zs} hj h=>by
      rcases get_set h with ⟨e1,e2⟩ | ⟨e1,e2⟩
      · subst e1;exact ⟨xs,hs⟩
      · exact ⟨zs,e2⟩
    obtain ⟨z1,q1⟩:=old hj hy
    obtain ⟨z2,q2⟩:=old hk2 hw
    obtain ⟨a1,_,_,p1,_⟩:=r.vars j y _ hj q1
    obtain ⟨a2,_,_,p2,_⟩:=r.vars k w _ hk2 q2
    have e1:Value.ref b=.ref a1:=kV' p1 vy
    have e2:Value.ref b=.ref a2:=kV' p2 vw
    cases e1
    cases e2
    exact r.inj j k y w z1 z2 _ hj hk2 q1 q2 p1 p2
  · exact ⟨fun b o q n=>hk b o q fun z=>n (z ▸ m),fun _ h=>.inl h,fun _ h=>.inl h,fun _ h _=>h,hsz,rfl,id⟩
noncomputable def noMeth (i:Nat) (st:St):Bool:=st.all fun b=>match b with
  | .meth j=>j != i
  | _=>true
theorem noMeth_spec {i:Nat} {st:St} (h:noMeth i st=true) (j:Nat):st[j]? ≠some (.meth i):=fun e=>by
  have:=List.all_eq_true.mp h (.meth i) (List.mem_of_getElem? e)
  simp at this
noncomputable def setOwn (i:Nat) (as:List PV):EvS:=fun st=>if noMeth i st=true∧as.length≤16777216 then some (.next,st.set i (.own as)) else none
theorem wp_newOwn {M:Model} {A:Around} {Q:Unit→Shared→Prop} {E:Value→Shared→Prop} {Av Mu:Addr→Prop} {env:Env} {st:St} {s:Shared} (r:R X F Av Mu env st s) {i:Nat} {x:Str} (hi:F.names[i]? =some x)
    (hl:F.Wr x) {vs:List Value} {as:List PV} (hv:VRs s.heap Av vs as) (hn:noMeth i st=true) (hlen:as.length≤16777216)
    (k:∀s' Av' Mu',R X F Av' Mu' env (st.set i (.own as)) s'→Step Av Mu s Av' Mu' s'→Q () s'):
    wpAny M A (newList vs) (fun v s₁=>wpAny M A (storeName env x v) Q E s₁) E s:=by
  refine wpAny_newObj_type ?_ (by show vs.toArray.size≤sizeLine;rw [List.size_toArray,hv.length];exact hlen)
  have g:(s.heap.push (listObj vs 0)).get? s.heap.objs.size=some (listObj vs 0):=Heap.get?_push_size _ rfl
  have kp:∀a o,s.heap.get? a=some o→(s.heap.push (listObj vs 0)).get? a=some o:=fun a o e=>Heap.get?_push_of_some _ e
  have hsz:(s.heap.push (listObj vs 0)).objs.size=s.heap.objs.size+1:=Heap.size_push ..
  have r1:R X F (fun a=>Av a∨a=s.heap.objs.size) (fun a=>Mu a∨a=s.heap.objs.size) env st { s with heap:=s.heap.push (listObj vs 0) }:=
    r.keep' (fun a o e _=>kp a o e) (fun a t=>(r.tabs a t).2.mono (fun o e=>kp _ _ e) fun b o e n _=>⟨kp _ _ e,fun q=>q.elim n fun z=>absurd (Heap.lt_size e) (z ▸ Nat.lt_irrefl _)⟩) (by show _≤(s.heap.push _).objs.size;rw [hsz];exact Nat.le_succ _) (fun _ h=>.inl h) (fun a h=>h.imp id fun q=>⟨Nat.le_of_eq q.symm,by show a < (s.heap.push _).objs.size;rw [hsz,q];exact Nat.lt_succ_self _⟩)
      (fun _ h=>.inl h) (fun a h=>h.imp (r.ma a) id)
  have S1:Step Av Mu s (fun a=>Av a∨a=s.heap.objs.size) (fun a=>Mu a∨a=s.heap.objs.size) { s with heap:=s.heap.push (listObj vs 0) }:=
    ⟨fun a o e _=>kp a o e,fun a h=>h.imp id fun q=>Nat.le_of_eq q.symm,fun a h=>h.imp id fun q=>Nat.le_of_eq q.symm,fun a h _=>.inl h,by show _≤(s.heap.push _).objs.size;rw [hsz];exact Nat.le_succ _,rfl,id⟩
  refine wp_store r1 hi (b:=.own as) ⟨s.heap.objs.size,vs,0,rfl,g,.inr rfl,?_,fun j y ys hj hy hb va=>?_,fun j=>noMeth_spec hn j⟩ hl fun s2 R2 S2=>k s2 _ _ R2 (S1.trans S2 r.lt)
  · exact hv.mono (fun a o e _=>kp a o e) (fun a l n q=>q.elim n fun z=>Nat.lt_irrefl _ (z ▸ l)) (by rw [hsz];exact Nat.le_succ _)
  · obtain ⟨a',_,_,p,e,_⟩:=r.vars j y _ hy hb
    have:Value.ref a'=.ref s.heap.objs.size:=ValAt.unique (p.keep fun a o e _=>kp a o e) va
    cases this
    exact Nat.lt_irrefl _ (Heap.lt_size e)
set_option tactic.hygienic true in
theorem x_own {x:Str} {i:Nat} {pos' pos pos2:Pos} {es:List Expr} {g:St→Option (List PV×St)} (h:SoundEs X F d es g) (hi:F.names[i]? =some x) (hl:F.Wr x):
    SoundX X F d (.Assign [.Name x pos'] (.List es pos2) pos) (bindE g fun as=>setOwn i as):=by
  refine @SoundU.intro _ _ _ _ _ _ _ _ ?_
  intro A Av Mu env st st' s v Q E hA hf R₀ tk k
  refine bindE_elim hf fun as st1 h1 hf=>?_
  unfold setOwn at hf
  split at hf<;>cases hf
  rename_i hc
  refine wpAny_Assign_Name (List_ (h pos2 _ hA h1 R₀ tk fun va s1 Av1 Mu1 R1 S1 V1 tk1=>wp_newOwn R1 hi hl V1 hc.1 hc.2 fun s2 Av2 Mu2 R2 S2=>?_))
  exact k _ _ _ _ R2 (S1.toStep.trans S2 R₀.lt) trivial
noncomputable def appF (i:Nat) (f:EvE):EvS:=bindE f fun a=>fun st=>match st[i]? with
  | some (.own xs)=>if xs.length≤16777215 then some (.next,st.set i (.own (xs++[a]))) else none
  | _=>none
set_option tactic.hygienic true in
theorem x_append {x:Str} {i:Nat} {p apos pos pos':Pos} {e:Expr} {f:EvE} (h:SoundE X F d e f) (hi:F.names[i]? =some x)
    (hkeep:∀st st' v,f st=some (v,st')→∀xs,st'[i]? =some (.own xs)→∃ys,st[i]? =some (.own ys))
    (hp:autoParam (∀env,starEach [e] env=[(false,eval e env)]) Mine.au4._auto_1)
    (hline:autoParam ((apos.endLine==pos.line)=true) Mine.au2._auto_1) (hn:autoParam ((x==("__classdict__":Str))=false) Mine.au3._auto_1) (hd:autoParam ((x==("__debug__":Str))=false) Mine.au3._auto_1)
    (hi2:autoParam (∀env:Env,env.scope.kind=.function→interactive env=false) Mine.au6._auto_1):
    SoundX X F d (.Expr (.Call (.Attribute (.Name x p) "append" apos) [e] [] pos) pos') (appF i f):=by
  refine @SoundU.intro _ _ _ _ _ _ _ _ ?_
  intro A Av Mu env st st' s v Q E hA hf R₀ tk k
  refine bindE_elim hf fun a st1 h1 hf=>?_
  split at hf<;>(try cases hf)
  rename_i xs e1
  split at hf<;>cases hf
  rename_i hlen
  obtain ⟨ys,e0⟩:=hkeep _ _ _ h1 xs e1
  obtain ⟨l,vs,n,hv,g,hm,z⟩:=R₀.vars i x _ hi e0
  refine wpAny_Expr ?_ (hi2 env (by rw [R₀.sc];exact R₀.fn)) rfl
  refine wpAny_Call_method_lateS rfl (by rw [hp];rfl) hline (wpAny_Name (wp_load R₀ hv hn ?_) hd)
  refine ⟨"list","list.append",_root_.PySem.F.plainAttrs_list,_root_.PySem.F.slot_list_append,_root_.PySem.F.type_list_append,⟨_,g,rfl⟩,(fun b q=>by cases q;exact ⟨_,g,rfl⟩),?_⟩
  rw [hp]
  refine Calls.callWith_builtin rfl (Calls.evalArgs_plain (Calls.spliced_cons (h _ hA h1 R₀ tk fun va s1 Av1 Mu1 R1 S1 V1 tk1=>Calls.spliced_nil ?_)))
  have hv1:=S1.vals _ _ hv
  obtain ⟨l',vs',n',hv',g',hm',z'⟩:=R1.vars i x _ hi e1
  have:Value.ref l=.ref l':=hv1.unique hv'
  cases this
  refine list_append_x g' (by rw [z'.length];lia) fun h' n2 g2 sb=>?_
  obtain ⟨R2,S2⟩:=R1.turnOwn (tk:=s1.toks) hi e1 hv' sb g2 (z'.append (VRs.cons V1 VRs.nil))
  exact k _ _ _ _ R2 (S1.toStep.trans S2 R₀.lt) trivial
end
end Mine
end
section
open PySem PySem.W PyProof.Rows PySem.Builtin.Str
set_option tactic.hygienic false
namespace Mine
noncomputable def chars (x:Str):List PV:=x.cps.toList.map fun c=>.str ⟨#[c]⟩
inductive IterAt (h:Heap) (Av:Addr→Prop) (I:Addr):List PV→Nat→Prop
  | list {l:Addr} {vs:List Value} {n:Nat} {xs:List PV} {i:Nat}:h.IsListIter I l i→h.get? l=some (listObj vs n)→¬ Av l→VRs h Av vs xs→IterAt h Av I xs i
  | range {a c:Int} {n i:Nat}:IsRangeIter h I (a+(i:Nat) * c) ((n:Int) - (i:Nat)) c→i≤n→IterAt h Av I ((List.range n).map fun (j:Nat)=>.int (a+(j:Int) * c)) i
  | stra {x:Str} {t:Tok} {i:Nat}:h.IsStrIter I "str_ascii_iterator" x t i→IterAt h Av I (chars x) i
  | strw {x:Str} {t:Tok} {i:Nat}:h.IsStrIter I "str_iterator" x t i→IterAt h Av I (chars x) i
section
variable {prog:Program} {w:World} {A:Around} {E:Value→Shared→Prop} {s:Shared} {Av:Addr→Prop} {I:Addr} {xs:List PV} {i:Nat}
theorem IterAt.obj {h:Heap} (W:IterAt h Av I xs i):∃o vs,h.get? I=some o∧o.data=.fields vs:=by
  cases W with
  | list a b c d=>obtain ⟨o,h1,_,h2⟩:=a;exact ⟨o,_,h1,h2⟩
  | range a=>exact ⟨_,_,a,rfl⟩
  | stra a=>obtain ⟨o,h1,_,h2⟩:=a;exact ⟨o,_,h1,h2⟩
  | strw a=>obtain ⟨o,h1,_,h2⟩:=a;exact ⟨o,_,h1,h2⟩
theorem IterAt.nocell {h:Heap} (W:IterAt h Av I xs i):∀o,h.get? I=some o→∀v,o.data≠.cell v:=fun o e v z=>by
  obtain ⟨o',vs,e',q⟩:=W.obj
  rw [e] at e';cases e';rw [q] at z;cases z
theorem IterAt.mono {h h':Heap} {Av':Addr→Prop} (W:IterAt h Av I xs i) (hI:∀o,h.get? I=some o→h'.get? I=some o) (hk:∀a o,h.get? a=some o→¬ Av a→h'.get? a=some o) (ha:∀a,a < h.objs.size→¬ Av a→¬ Av' a) (hs:h.objs.size≤h'.objs.size):IterAt h' Av' I xs i:=by
  cases W with
  | list a b c d=>
    obtain ⟨o,h1,h2⟩:=a
    exact .list ⟨o,hI o h1,h2⟩ (hk _ _ b c) (ha _ (Heap.lt_size b) c) (d.mono hk ha hs)
  | range a b=>exact .range (hI _ a) b
  | stra a=>obtain ⟨o,h1,h2⟩:=a;exact .stra ⟨o,hI o h1,h2⟩
  | strw a=>obtain ⟨o,h1,h2⟩:=a;exact .strw ⟨o,hI o h1,h2⟩
theorem chars_get {x:Str} {i:Nat} {p:PV} (h:(chars x)[i]? =some p):∃c,x.cps[i]? =some c∧p=.str ⟨#[c]⟩:=by
  unfold chars at h
  rw [List.getElem?_map] at h
  obtain ⟨c,h1,h2⟩:=Option.map_eq_some_iff.mp h
  exact ⟨c,by simpa using h1,h2.symm⟩
theorem chars_end {x:Str} {i:Nat} (h:(chars x)[i]? =none):x.cps[i]? =none:=by
  unfold chars at h
  rw [List.getElem?_map] at h
  simpa using h
set_option tactic.hygienic true in
theorem wp_next {Q:Option Value→Shared→Prop} (hh:A.handled=none) (hI:Av I) (W:IterAt s.heap Av I xs i)
    (item:∀p v h' tk,xs[i]? =some p→VR h' Av v p→IterAt h' Av I xs (i+1)→Heap.SameBut I s.heap h'→Q (some v) { s with heap:=h',toks:=tk })
    (done:xs[i]? =none→∀h',Heap.ExtBut I s.heap h'→s.heap.objs.size≤h'.objs.size→Q none { s with heap:=h' }):wpAny (model prog w) A (pyNext (.ref I)) Q E s:=by
  have fin:∀{Z},xs[i]? =none→(∀Q:Option Value→Shared→Prop,(∀h',Heap.ExtBut I s.heap h'→Q none { s with heap:=h' })→wpAny (model prog w) A Z Q E s)→wpAny (model prog w) A Z Q E s:=fun {Z} hn q=>by
    refine wpAny_mono (wpAny_size (q (fun r s'=>∃h',Heap.ExtBut I s.heap h'∧r=none∧s'={ s with heap:=h' }) fun h' e=>⟨h',e,rfl,rfl⟩)) (fun r s' z=>?_) fun _ _ e=>e
    obtain ⟨⟨h',e,rfl,rfl⟩,z⟩:=z
    exact done hn h' e z
  cases W with
  | list a b c d=>
    rename_i l vs n
    have hne:l≠I:=fun q=>c (q ▸ hI)
    have hl:s.heap.IsList l vs.toArray:=⟨_,b,rfl,n,rfl⟩
    cases hx:xs[i]? with
    | none=>
      have hv:vs.toArray[i]? =none:=by
        have:=d.length
        simp only [List.getElem?_toArray]
        rw [List.getElem?_eq_none_iff] at hx ⊢
        lia
      exact fin hx fun Q hQ=>wpAny_pyNext_list_end hh a hl hv hQ
    | some p=>
      obtain ⟨v,hv,hp⟩:=d.get hx
      refine wpAny_pyNext_list_item a hl (x:=v) (by simpa using hv) fun h' hi hs=>?_
      have hk:∀a o,s.heap.get? a=some o→¬ Av a→h'.get? a=some o:=fun a o e q=>(hs.2 a fun z=>q (z ▸ hI)).trans e
      have hz:s.heap.objs.size≤h'.objs.size:=Nat.le_of_eq hs.1.symm
      exact item p v h' s.toks hx (hp.mono hk (fun _ _ q=>q) hz) (.list hi (hk _ _ b c) c (d.mono hk (fun _ _ q=>q) hz)) hs
  | range a b=>
    rename_i x c n
    by_cases hlt:i < n
    · refine wpAny_pyNext_range_item a (by lia) fun h' hi hs=>?_
      refine item (.int (x+(i:Int) * c)) _ h' _ (by simp [hlt]) VR.int' (.range ?_ hlt) hs
      have e1:x+((i+1:Nat):Int) * c=x+(i:Int) * c+c:=by push_cast;rw [Int.add_mul,Int.one_mul,Int.add_assoc]
      have e2:(n:Int) - ((i+1:Nat):Int)=(n:Int) - (i:Int) - 1:=by push_cast;lia
      rw [e1,e2];exact hi
    · exact fin (by simp;lia) fun Q hQ=>wpAny_pyNext_range_end hh a (by lia) hQ
  | stra a=>
    rename_i x t
    cases hx:(chars x)[i]? with
    | none=>exact fin hx fun Q hQ=>wpAny_pyNext_ascii_end hh a (chars_end hx) hQ
    | some p=>
      obtain ⟨c,hc,rfl⟩:=chars_get hx
      exact wpAny_pyNext_ascii_item a hc fun h' hi hs=>item _ _ h' _ hx VR.str' (.stra hi) hs
  | strw a=>
    rename_i x t
    cases hx:(chars x)[i]? with
    | none=>exact fin hx fun Q hQ=>wpAny_pyNext_wide_end hh a (chars_end hx) hQ
    | some p=>
      obtain ⟨c,hc,rfl⟩:=chars_get hx
      exact wpAny_pyNext_wide_item a hc fun h' hi hs=>item _ _ h' _ hx VR.str' (.strw hi) hs
end
noncomputable def itemsOf:PV→Option (List PV)
  | .list xs=>some xs
  | .str x=>some (chars x)
  | .range a b c=>if Builtin.Range.small a b c=true∧0≤Builtin.Range.rangeSize a b c then some ((List.range (Builtin.Range.rangeSize a b c).toNat).map fun (j:Nat)=>.int (a+(j:Int) * c)) else none
  | _=>none
section
variable {X:Cx} {F:FI} {d:Nat}
set_option tactic.hygienic true in
theorem wp_iter {A:Around} {Av:Addr→Prop} {s:Shared} {v:Value} {p:PV} {xs:List PV} {Q:Value→Shared→Prop} {E:Value→Shared→Prop} (h:itemsOf p=some xs) (lt:∀a,Av a→a < s.heap.objs.size) (hv:VR s.heap Av v p)
    (k:∀o,IterAt (s.heap.push o) (fun a=>Av a∨a=s.heap.objs.size) s.heap.objs.size xs 0→Q (.ref s.heap.objs.size) { s with heap:=s.heap.push o }):wpAny (model X.prog X.w) A (pyIter v) Q E s:=by
  unfold itemsOf at h
  split at h<;>(try cases h)
  · unfold VR at hv
    obtain ⟨l,vs,n,rfl,g,na,z⟩:=hv
    refine wpAny_pyIter_list ⟨_,g,rfl,n,rfl⟩ (k _ (.list ⟨_,Heap.get?_push_size _ rfl,rfl,rfl⟩ (Heap.get?_push_of_some _ g) (fun q=>q.elim na fun q=>absurd (Heap.lt_size g) (q ▸ Nat.lt_irrefl _)) ?_))
    exact z.mono (fun a o e _=>Heap.get?_push_of_some _ e) (fun a l n q=>q.elim n fun z=>Nat.lt_irrefl _ (z ▸ l)) (by simp)
  · unfold VR at hv
    obtain ⟨t,rfl⟩:=hv
    rename_i x
    cases ha:x.cps.all (· < 128) with
    | true=>exact wpAny_pyIter_ascii ha (k _ (.stra ⟨_,Heap.get?_push_size _ rfl,rfl,rfl⟩))
    | false=>exact wpAny_pyIter_wide ha (k _ (.strw ⟨_,Heap.get?_push_size _ rfl,rfl,rfl⟩))
  · split at h<;>cases h
    rename_i a b c hc
    unfold VR at hv
    obtain ⟨r,t1,t2,t3,rfl,g,na⟩:=hv
    refine wpAny_pyIter_range g hc.1 (k _ (.range ?_ (Nat.zero_le _)))
    obtain ⟨n,hn⟩:=Int.eq_ofNat_of_zero_le hc.2
    rw [hn]
    show _=_
    simpa using Heap.get?_push_size _ rfl
theorem R.fresh {Av Mu:Addr→Prop} {env:Env} {st:St} {s:Shared} (r:R X F Av Mu env st s) (o:Obj):R X F (fun a=>Av a∨a=s.heap.objs.size) Mu env st { s with heap:=s.heap.push o }:=
  r.keep' (fun a o' e _=>Heap.get?_push_of_some _ e) (fun a t=>(r.tabs a t).2.mono (fun o e=>Heap.get?_push_of_some _ e) fun b o e n _=>⟨Heap.get?_push_of_some _ e,fun q=>q.elim n fun z=>absurd (Heap.lt_size e) (z ▸ Nat.lt_irrefl _)⟩) (by show _≤(s.heap.push o).objs.size;rw [Heap.size_push];exact Nat.le_succ _) (fun _ h=>.inl h)
    (fun a h=>h.imp id fun q=>⟨Nat.le_of_eq q.symm,by show a < (s.heap.push o).objs.size;rw [Heap.size_push,q];exact Nat.lt_succ_self _⟩) (fun _ h=>h) (fun a h=>.inl (r.ma a h))
theorem Step.fresh {Av Mu:Addr→Prop} {s:Shared} (o:Obj):Step Av Mu s (fun a=>Av a∨a=s.heap.objs.size) Mu { s with heap:=s.heap.push o }:=
  ⟨fun a o' e _=>Heap.get?_push_of_some _ e,fun a h=>.inl h,fun a h=>h.imp id fun q=>Nat.le_of_eq q.symm,fun a h _=>.inl h,by show _≤(s.heap.push o).objs.size;rw [Heap.size_push];exact Nat.le_succ _,rfl,id⟩
theorem Step.iter {Av Mu Av' Mu':Addr→Prop} {s s' s'':Shared} {I:Addr} (S:Step Av Mu s Av' Mu' s') (hI:s.heap.objs.size≤I) (hk:Heap.ExtBut I s'.heap s''.heap) (hs:s'.heap.objs.size≤s''.heap.objs.size) (ho:s''.os=s'.os) (hg:s''.gens=s'.gens):Step Av Mu s Av' Mu' s'':=
  ⟨fun a o e n=>hk a o (fun q=>absurd (Heap.lt_size e) (Nat.not_lt.mpr (q ▸ hI))) (S.keep a o e n),S.mu,S.av,S.av',Nat.le_trans S.size hs,ho.trans S.os,fun h=>hg ▸ S.gens h⟩
noncomputable def forF (i:Nat) (g:EvS):List PV→EvS
  | []=>pureE .next
  | p::ps=>fun st=>match g (st.set i (.froz p)) with
    | some (.next,st')=>forF i g ps st'
    | some (.brk,st')=>some (.next,st')
    | some (.ret q,st')=>some (.ret q,st')
    | none=>none
theorem wp_next' {prog:Program} {w:World} {A:Around} {E:Value→Shared→Prop} {s:Shared} {Av:Addr→Prop} {I:Addr} {xs:List PV} {i:Nat} {Q:Option Value→Shared→Prop} (hh:A.handled=none) (tk:1≤s.toks) (hI:Av I) (W:IterAt s.heap Av I xs i)
    (item:∀p v h' tk,xs[i]? =some p→VR h' Av v p→IterAt h' Av I xs (i+1)→Heap.SameBut I s.heap h'→1≤tk→Q (some v) { s with heap:=h',toks:=tk })
    (done:xs[i]? =none→∀h',Heap.ExtBut I s.heap h'→s.heap.objs.size≤h'.objs.size→Q none { s with heap:=h' }):wpAny (model prog w) A (pyNext (.ref I)) Q E s:=
  wpAny_mono (wpAny_toks (wp_next (Q:=fun r s'=>1≤s'.toks→Q r s') hh hI W (fun p v h' tk h1 h2 h3 h4 h5=>item p v h' tk h1 h2 h3 h4 h5) fun h1 h' h2 h3 h4=>done h1 h' h2 h3)) (fun r s' q=>q.1 (Nat.le_trans tk q.2)) fun _ _ e=>e
theorem wp_store' {M:Model} {A:Around} {Q:Unit→Shared→Prop} {E:Value→Shared→Prop} {Av Mu:Addr→Prop} {env:Env} {st:St} {s:Shared} (r:R X F Av Mu env st s) (tk:1≤s.toks) {i:Nat} {x:Str} (hi:F.names[i]? =some x) {v:Value} {b:Bind}
    (hb:NewB s.heap Av Mu env F.names st i v b) (hkind:F.Wr x)
    (k:∀s',R X F Av Mu env (st.set i b) s'→Step Av Mu s Av Mu s'→1≤s'.toks→Q () s'):wpAny M A (storeName env x v) Q E s:=
  wpAny_mono (wpAny_toks (wp_store (Q:=fun _ s'=>1≤s'.toks→Q () s') r hi hb hkind fun s' R' S' t=>k s' R' S' t)) (fun _ s' q=>q.1 (Nat.le_trans tk q.2)) fun _ _ e=>e
theorem code_for {x:Str} {px:Pos} {b:List Stmt} {g:EvS} {i:Nat} (hb:SoundS X F d b g) (hi:F.names[i]? =some x) (hl:F.Wr x) {A:Around} {Av₀ Mu₀:Addr→Prop} {s₀:Shared} {env:Env} {I:Addr} {K:Result→Shared→Prop} {xs:List PV} {st₂:St} {v:Fl}
    (hA:Room d A) (h0:s₀.heap.objs.size≤I) (lt₀:∀a,Av₀ a→a < s₀.heap.objs.size)
    (k:∀x s' Av' Mu',R X F Av' Mu' env st₂ s'→Step Av₀ Mu₀ s₀ Av' Mu' s'→FlR s'.heap Av' x v→K (.ok x) s'):
    ∀(ps:List PV) {j:Nat} {Av Mu:Addr→Prop} {st:St} {s:Shared},xs.drop j=ps→forF i g ps st=some (v,st₂)→R X F Av Mu env st s→Step Av₀ Mu₀ s₀ Av Mu s→Av I→¬ Mu I→IterAt s.heap Av I xs j→1≤s.toks→
      codeAny (model X.prog X.w) A (.forLoop (.Name x px) (.ref I) b [] env) K s
  | [],j,Av,Mu,st,s,hd,hf,R₀,S₀,hI,hMu,W,tk=>by
    have hn:xs[j]? =none:=by rw [←Nat.add_zero j,←List.getElem?_drop,hd];rfl
    refine loop_turn (t:=forTurn (.Name x px) (.ref I) b [] env) (kk:=fun x=>do noteFrame x env;theTreesLotGoes x) rfl rfl rfl fun Q E hdone hagain=>?_
    unfold forTurn
    refine wpAny_bind (wpAny_standAt (wpAny_bind (wpAny_onRaise (wp_next' hA.1 tk hI W (fun p u h' tk' hp=>nomatch hn.symm.trans hp) fun _ h' he hz=>?_))))
    cases hf
    exact wpAny_pure (hagain _ _ rfl (codeAny_block (wpAny_execs_nil (k _ _ _ _ (R₀.keepI hI hMu W.nocell he hz) (S₀.iter h0 he hz rfl rfl) trivial))))
  | p::ps,j,Av,Mu,st,s,hd,hf,R₀,S₀,hI,hMu,W,tk=>by
    have hj:xs[j]? =some p:=by rw [←Nat.add_zero j,←List.getElem?_drop,hd];rfl
    have hd2:xs.drop (j+1)=ps:=by rw [←List.drop_drop,hd];rfl
    refine loop_turn (t:=forTurn (.Name x px) (.ref I) b [] env) (kk:=fun x=>do noteFrame x env;theTreesLotGoes x) rfl rfl rfl fun Q E hdone hagain=>?_
    unfold forTurn
    refine wpAny_bind (wpAny_standAt (wpAny_bind (wpAny_onRaise (wp_next' hA.1 tk hI W (fun p' u h' tk' hp hu W' hs tk1=>?_) fun hn h' he hz=>nomatch hn.symm.trans hj))))
    obtain rfl:p'=p:=Option.some.inj (hp.symm.trans hj)
    have R1:R X F Av Mu env st { s with heap:=h',toks:=tk' }:=R₀.keepI hI hMu W.nocell (fun a o n e=>(hs.2 a n).trans e) (Nat.le_of_eq hs.1.symm)
    have mv:∀{Av' Mu':Addr→Prop} {s1 s2:Shared} {Av Mu:Addr→Prop} {n:Nat},Step Av Mu s1 Av' Mu' s2→(∀a,Mu a→Av a)→¬ Mu I→IterAt s1.heap Av I xs n→IterAt s2.heap Av' I xs n:=fun S ma nI W=>
      W.mono (fun o e=>S.keep I o e nI) (fun a o e n=>S.keep a o e fun q=>n (ma a q)) (fun a l n q=>(S.av a q).elim n fun z=>absurd l (Nat.not_lt.mpr z)) S.size
    have S1:Step Av₀ Mu₀ s₀ Av Mu { s with heap:=h',toks:=tk' }:=S₀.iter h0 hs.extBut (Nat.le_of_eq hs.1.symm) rfl rfl
    refine wpAny_bind (wpAny_pure (wpAny_bind (wpAny_assign_Name (wp_store' R1 tk1 hi (b:=.froz p') hu hl fun s2 R2 S2 tk2=>?_))))
    have W2:=mv S2 R1.ma hMu W'
    have T2:=S1.trans S2 lt₀
    unfold forF at hf
    match hg:g (st.set i (.froz p')),hf with
    | some (fl,st3),hf=>
      refine wpAny_bind (hb _ hA hg R2 tk2 fun fl' s3 Av3 Mu3 R3 S3 V3 tk3=>?_)
      have T:=T2.trans S3 lt₀
      cases fl with
      | next=>
        cases fl'<;>first | exact V3.elim | exact wpAny_pure (hagain _ _ rfl (code_for hb hi hl hA h0 lt₀ k ps hd2 hf R3 T (S3.av' I hI hMu) (fun q=>(S3.mu I q).elim hMu fun z=>absurd (R2.lt I hI) (Nat.not_lt.mpr z)) (mv S3 R2.ma hMu W2) tk3))
      | brk=>
        cases hf
        cases fl'<;>first | exact V3.elim | exact wpAny_pure (hdone _ _ (k .next _ _ _ R3 T trivial))
      | ret q=>
        cases hf
        cases fl'<;>first | exact V3.elim | exact wpAny_pure (hdone _ _ (k _ _ _ _ R3 T V3))
theorem x_for {x:Str} {px pos:Pos} {iter:Expr} {b:List Stmt} {f:EvE} {g:EvS} {i:Nat} (h:SoundE X F d iter f) (hb:SoundS X F d b g) (hi:F.names[i]? =some x) (hl:F.Wr x)
    (hs:autoParam (∀env x,foldedSetIterable iter env x=pure x) Mine.au1._auto_1):
    SoundX X F d (.For (.Name x px) iter b [] pos) (bindE f fun p=>bindE (liftE (itemsOf p)) fun xs=>forF i g xs):=by
  refine @SoundU.intro _ _ _ _ _ _ _ _ ?_
  intro A Av Mu env st st' s v Q E hA hf R₀ tk k
  refine bindE_elim hf fun p st1 h1 hf1=>?_
  refine bindE_elim hf1 fun xs st2 h2 hf2=>?_
  obtain ⟨h3,e3⟩:=liftE_some h2
  subst e3
  refine wpAny_For (h _ hA h1 R₀ tk fun va s1 Av1 Mu1 R1 S1 V1 tk1=>wp_iter h3 R1.lt V1 fun o W=>?_) (hs env)
  refine code_for hb hi hl hA (s₀:=s1) (Nat.le_refl _) R1.lt (fun u s' Av' Mu' R' S' V'=>?_) xs (j:=0) List.drop_zero hf2 (R1.fresh o) (Step.fresh o) (.inr rfl) (fun q=>absurd (R1.lt _ (R1.ma _ q)) (Nat.lt_irrefl _)) W tk1
  exact k _ _ _ _ R' (S1.toStep.trans S' R₀.lt) V'
end
end Mine
end
section
open PySem PySem.W PyProof.Rows PySem.Builtin.Str
set_option tactic.hygienic false
namespace Mine
noncomputable def compF (i:Nat) (t:EvB) (e:EvE):List PV→St→Option (List PV×St)
  | []=>pureE []
  | p::ps=>fun st=>match t (st.set i (.froz p)) with
    | some (false,st')=>compF i t e ps st'
    | some (true,st')=>(match e st' with
      | some (a,st'')=>(match compF i t e ps st'' with
        | some (as,st3)=>some (a::as,st3)
        | none=>none)
      | none=>none)
    | none=>none
theorem compF_cons {i:Nat} {t:EvB} {e:EvE} {p:PV} {ps rest:List PV} {st st₂:St} (h:compF i t e (p::ps) st=some (rest,st₂)):
    (∃st1,t (st.set i (.froz p))=some (false,st1)∧compF i t e ps st1=some (rest,st₂))∨∃st1 a st2 as,t (st.set i (.froz p))=some (true,st1)∧e st1=some (a,st2)∧compF i t e ps st2=some (as,st₂)∧rest=a::as:=by
  unfold compF at h
  match h1:t (st.set i (.froz p)),h with
  | some (false,st1),h=>exact .inl ⟨st1,rfl,h⟩
  | some (true,st1),h=>
    dsimp only at h
    match h2:e st1,h with
    | some (a,st2),h=>
      dsimp only at h
      match h3:compF i t e ps st2,h with
      | some (as,st3),h=>
        cases h
        exact .inr ⟨st1,a,st2,as,rfl,h2,h3,rfl⟩
theorem compF_len {i:Nat} {t:EvB} {e:EvE}:∀(ps:List PV) {st st₂:St} {rest:List PV},compF i t e ps st=some (rest,st₂)→rest.length≤ps.length
  | [],_,_,_,h=>by cases h;exact Nat.le_refl 0
  | p::ps,_,_,_,h=>by
    rcases compF_cons h with ⟨_,_,q⟩ | ⟨_,_,_,_,_,_,q,rfl⟩
    · exact Nat.le_succ_of_le (compF_len ps q)
    · exact Nat.succ_le_succ (compF_len ps q)
section
variable {X:Cx} {F:FI} {d:Nat}
noncomputable abbrev testsOf (ifs:List Expr) (env:Env):Sem Bool:=forIn ifs true fun c r=>if r=true then do let ok ←isTrue c env (eval c env);pure (ForInStep.yield ok) else pure (ForInStep.yield r)
noncomputable def SoundIfs (X:Cx) (F:FI) (d:Nat) (ifs:List Expr) (t:EvB):Prop:=SoundT X F d BR (testsOf ifs) t
theorem ifs_nil:SoundIfs X F d [] (pureE true):=by
  refine @SoundT.intro _ _ _ _ _ _ _ _ ?_
  intro A Av Mu env st st' s v Q E hA hf R₀ tk k
  cases hf
  exact wpAny_pure (k _ _ _ _ R₀ StepE.refl rfl)
theorem ifs_one {c:Expr} {t:EvB} (h:SoundB X F d c t):SoundIfs X F d [c] t:=by
  refine @SoundT.intro _ _ _ _ _ _ _ _ ?_
  intro A Av Mu env st st' s v Q E hA hf R₀ tk k
  exact wpAny_tests_one (h _ hA hf R₀ tk fun x s' Av' Mu' R' S' V' tk'=>k _ _ _ _ R' S' V')
end
structure ItW (prog:Program) (w:World) (I:Addr) (Z:Addr→Prop) (xs:List PV) (IV:Value→PV→Heap→(Addr→Prop)→Prop) (IT:Nat→Heap→(Addr→Prop)→Prop) (IE:Heap→(Addr→Prop)→Prop) (G:Value→Sem Unit):Prop where
  mono:∀{j:Nat} {h h':Heap} {Av Av':Addr→Prop},IT j h Av→(∀a o,Z a→h.get? a=some o→h'.get? a=some o)→(∀a o,h.get? a=some o→¬ Av a→h'.get? a=some o)→(∀a,a < h.objs.size→¬ Av a→¬ Av' a)→h.objs.size≤h'.objs.size→IT j h' Av'
  nocell:∀{j:Nat} {h:Heap} {Av:Addr→Prop},IT j h Av→∀a,Z a→∀o,h.get? a=some o→∀v,o.data≠.cell v
  next:∀{A:Around} {Av:Addr→Prop} {s:Shared} {j:Nat} {Qs:Value→Shared→Prop} {Qn:Shared→Prop} {E:Value→Shared→Prop},A.handled=none→1≤s.toks→(∀a,Z a→Av a)→IT j s.heap Av→
    (∀p v h' tk,xs[j]? =some p→IV v p h' Av→IT (j+1) h' Av→(∀a o,¬ Z a→s.heap.get? a=some o→h'.get? a=some o)→s.heap.objs.size≤h'.objs.size→1≤tk→Qs v { s with heap:=h',toks:=tk })→
    (xs[j]? =none→∀h',IE h' Av→(∀a o,¬ Z a→s.heap.get? a=some o→h'.get? a=some o)→s.heap.objs.size≤h'.objs.size→Qn { s with heap:=h' })→
    wpAny (model prog w) A (pyNext (.ref I)) (fun r s'=>match r with | none=>Qn s' | some v=>wpAny (model prog w) A (G v) (fun _ s''=>Qs v s'') E s') E s
structure CY (Z:Addr→Prop) (IT:Nat→Heap→(Addr→Prop)→Prop) (D:Addr) (Av Mu:Addr→Prop) (h:Heap) (j:Nat) (done:List PV):Prop where
  zone:∀a,Z a→Av a∧¬ Mu a∧a≠D
  aD:Av D
  mD:¬ Mu D
  it:IT j h Av
  ls:∃us n,h.get? D=some (listObj us n)∧VRs h Av us done
section
variable {X:Cx} {F:FI} {d:Nat}
theorem R.keepZ {Av Mu:Addr→Prop} {env:Env} {st:St} {s s':Shared} (r:R X F Av Mu env st s) {P:Addr→Prop} (hI:∀a,P a→Av a∧¬ Mu a∧∀o,s.heap.get? a=some o→∀v,o.data≠.cell v) (hk:∀a o,¬ P a→s.heap.get? a=some o→s'.heap.get? a=some o) (hs:s.heap.objs.size≤s'.heap.objs.size):R X F Av Mu env st s':=
  r.keep2 (fun a o e q=>hk a o (fun z=>by
    obtain ⟨h1,h2,h3⟩:=hI a z
    rcases q with q | q | ⟨v,q⟩
    · exact q h1
    · exact h2 q.1
    · exact h3 o e v q) e) (fun a t=>(r.tabs a t).2.mono (fun o e=>hk a _ (fun z=>(hI a z).2.1 (r.tabs a t).1) e) fun b o e n _=>⟨hk b o (fun z=>n (hI b z).1) e,n⟩) hs (fun _ h=>h) (fun _ h=>.inl h) (fun _ h=>h) r.ma
theorem Step.iterZ {Av Mu Av' Mu':Addr→Prop} {s s' s'':Shared} (S:Step Av Mu s Av' Mu' s') (hk:∀a o,a < s.heap.objs.size→s'.heap.get? a=some o→s''.heap.get? a=some o) (hs:s'.heap.objs.size≤s''.heap.objs.size) (ho:s''.os=s'.os) (hg:s''.gens=s'.gens):Step Av Mu s Av' Mu' s'':=
  ⟨fun a o e n=>hk a o (Heap.lt_size e) (S.keep a o e n),S.mu,S.av,S.av',Nat.le_trans S.size hs,ho.trans S.os,fun h=>hg ▸ S.gens h⟩
variable {I D:Addr} {Z:Addr→Prop} {xs:List PV} {IV:Value→PV→Heap→(Addr→Prop)→Prop} {IT:Nat→Heap→(Addr→Prop)→Prop} {IE:Heap→(Addr→Prop)→Prop} {G:Value→Sem Unit}
theorem CY.step (W:ItW X.prog X.w I Z xs IV IT IE G) {Av Mu Av' Mu':Addr→Prop} {s s':Shared} {j:Nat} {done:List PV} (S:Step Av Mu s Av' Mu' s') (ma:∀a,Mu a→Av a) (lt:∀a,Av a→a < s.heap.objs.size) (c:CY Z IT D Av Mu s.heap j done):CY Z IT D Av' Mu' s'.heap j done:=by
  refine ⟨fun a h=>?_,S.av' D c.aD c.mD,fun q=>(S.mu D q).elim c.mD fun z=>absurd (lt D c.aD) (Nat.not_lt.mpr z),?_,?_⟩
  · obtain ⟨h1,h2,h3⟩:=c.zone a h
    exact ⟨S.av' a h1 h2,fun q=>(S.mu a q).elim h2 fun z=>absurd (lt a h1) (Nat.not_lt.mpr z),h3⟩
  · exact W.mono c.it (fun a o h e=>S.keep a o e (c.zone a h).2.1) (fun a o e n=>S.keep a o e fun q=>n (ma a q)) (fun a l n q=>(S.av a q).elim n fun z=>absurd l (Nat.not_lt.mpr z)) S.size
  · obtain ⟨us,n,e,z⟩:=c.ls
    exact ⟨us,n,S.keep D _ e c.mD,z.step S ma⟩
theorem CY.app (W:ItW X.prog X.w I Z xs IV IT IE G) {A:Around} {Av₀ Mu₀ Av Mu:Addr→Prop} {env:Env} {st:St} {s₀ s:Shared} {j:Nat} {done:List PV} {va:Value} {a:PV} {Q:Fin→Shared→Prop} {E:Value→Shared→Prop} {c:Code} (h1:s₀.heap.objs.size≤D) (R₀:R X F Av Mu env st s) (S:Step Av₀ Mu₀ s₀ Av Mu s) (C:CY Z IT D Av Mu s.heap j done) (V:VR s.heap Av va a) (hl:done.length≤16777216)
    (k:∀h',R X F Av Mu env st { s with heap:=h' }→Step Av₀ Mu₀ s₀ Av Mu { s with heap:=h' }→CY Z IT D Av Mu h' j (done++[a])→Q (.again c) { s with heap:=h' }):
    wpAny (model X.prog X.w) A (call (.builtin "list.append") [.ref D,va]>>=fun _=>pure ()) (fun _ s'=>wpAny (model X.prog X.w) A (again c) Q E s') E s:=by
  obtain ⟨us,n,g,z⟩:=C.ls
  refine wpAny_bind (list_append_x g (z.length ▸ hl) fun h5 n5 g5 hs5=>wpAny_pure (wpAny_pure (k h5 ?_ ?_ ?_)))
  · exact R₀.keepI C.aD C.mD (fun o e v q=>by rw [g] at e;cases e;cases q) (fun a o n e=>(hs5.2 a n).trans e) (Nat.le_of_eq hs5.1.symm)
  · exact S.iter h1 hs5.extBut (Nat.le_of_eq hs5.1.symm) rfl rfl
  · have hk:∀a o,s.heap.get? a=some o→¬ Av a→h5.get? a=some o:=fun a o e q=>(hs5.2 a fun z=>q (z ▸ C.aD)).trans e
    have hz:s.heap.objs.size≤h5.objs.size:=Nat.le_of_eq hs5.1.symm
    exact ⟨C.zone,C.aD,C.mD,W.mono C.it (fun a o h e=>(hs5.2 a (C.zone a h).2.2).trans e) hk (fun _ _ q=>q) hz,_,_,g5,VRs.append (z.mono hk (fun _ _ q=>q) hz) (VRs.cons (V.mono hk (fun _ _ q=>q) hz) VRs.nil)⟩
theorem drop_some {α:Type} {l ps:List α} {j:Nat} {p:α} (h:l.drop j=p::ps):l[j]? =some p∧l.drop (j+1)=ps:=⟨by rw [←Nat.add_zero j,←List.getElem?_drop,h];rfl,by rw [←List.drop_drop,h];rfl⟩
theorem code_gen {c:Code} {T:Value→Sem Fin} {kk:Value→Sem Unit} {pp:Pos} {f:List PV→St→Option (List PV×St)} (W:ItW X.prog X.w I Z xs IV IT IE G) (hw:c.weight=0) (hu:c.cUnits=0) (hq:c.quiet=true)
    (hd:(model X.prog X.w).den c=(standAt pp>>=fun _=>pyNext (.ref I)>>=fun r=>match r with | none=>pure (.done .next) | some v=>G v>>=fun _=>T v).onRaise kk)
    {A:Around} {Av₀ Mu₀:Addr→Prop} {s₀:Shared} {env:Env} {K:Result→Shared→Prop} {all:List PV} {st₂:St}
    (hnil:∀st,f [] st=some ([],st)) (hA:Room d A) (h0:∀a,Z a→s₀.heap.objs.size≤a)
    (body:∀{Av Mu:Addr→Prop} {st:St} {s:Shared} {p:PV} {ps done rest:List PV} {j:Nat} {v:Value} {Q:Fin→Shared→Prop} {E:Value→Shared→Prop},f (p::ps) st=some (rest,st₂)→done++rest=all→IV v p s.heap Av→R X F Av Mu env st s→Step Av₀ Mu₀ s₀ Av Mu s→CY Z IT D Av Mu s.heap (j+1) done→1≤s.toks→
      (∀{Av' Mu':Addr→Prop} {st':St} {s':Shared} {done' rest':List PV},f ps st'=some (rest',st₂)→done'++rest'=all→R X F Av' Mu' env st' s'→Step Av₀ Mu₀ s₀ Av' Mu' s'→CY Z IT D Av' Mu' s'.heap (j+1) done'→1≤s'.toks→Q (.again c) s')→wpAny (model X.prog X.w) A (T v) Q E s)
    (k:∀s' Av' Mu',R X F Av' Mu' env st₂ s'→Step Av₀ Mu₀ s₀ Av' Mu' s'→(∀a,Z a→Av' a∧¬ Mu' a∧a≠D)→Av' D→¬ Mu' D→(∃us n,s'.heap.get? D=some (listObj us n)∧VRs s'.heap Av' us all)→IE s'.heap Av'→1≤s'.toks→K (.ok .next) s'):
    ∀(ps:List PV) {j:Nat} {Av Mu:Addr→Prop} {st:St} {s:Shared} {done rest:List PV},xs.drop j=ps→f ps st=some (rest,st₂)→done++rest=all→R X F Av Mu env st s→Step Av₀ Mu₀ s₀ Av Mu s→CY Z IT D Av Mu s.heap j done→1≤s.toks→codeAny (model X.prog X.w) A c K s:=by
  have step:∀(ps:List PV) {j:Nat} {Av Mu:Addr→Prop} {st:St} {s:Shared} {done rest:List PV},(∀p qs,ps=p::qs→∀{Av Mu:Addr→Prop} {st:St} {s:Shared} {done rest:List PV},f qs st=some (rest,st₂)→done++rest=all→R X F Av Mu env st s→Step Av₀ Mu₀ s₀ Av Mu s→CY Z IT D Av Mu s.heap (j+1) done→1≤s.toks→codeAny (model X.prog X.w) A c K s)→
      xs.drop j=ps→f ps st=some (rest,st₂)→done++rest=all→R X F Av Mu env st s→Step Av₀ Mu₀ s₀ Av Mu s→CY Z IT D Av Mu s.heap j done→1≤s.toks→codeAny (model X.prog X.w) A c K s:=by
    intro ps j Av Mu st s done rest ih hj hf hall R₀ S₀ C tk
    refine loop_turn hw hu hd fun Q E hdone hagain=>wpAny_bind (wpAny_standAt (wpAny_bind (wpAny_mono (W.next (Qs:=fun v s'=>wpAny (model X.prog X.w) A (T v) Q E s') (Qn:=fun s'=>Q (.done .next) s') hA.1 tk (fun a h=>(C.zone a h).1) C.it (fun p v h' tk' hp hv it hk hz tk1=>?_) fun hn h' ie hk hz=>?_) (fun r s' q=>?_) fun _ _ x=>x)))
    · have key:∀a o,s.heap.get? a=some o→¬ Av a→h'.get? a=some o:=fun a o e q=>hk a o (fun z=>q (C.zone a z).1) e
      have hps:ps=p::xs.drop (j+1):=by
        obtain ⟨hlt,e⟩:=List.getElem?_eq_some_iff.mp hp
        rw [←hj,List.drop_eq_getElem_cons hlt,e]
      obtain ⟨us,n,g,z⟩:=C.ls
      exact body (hps ▸ hf) hall hv (R₀.keepZ (fun a h=>⟨(C.zone a h).1,(C.zone a h).2.1,W.nocell C.it a h⟩) hk hz) (S₀.iterZ (fun a o l e=>hk a o (fun q=>absurd l (Nat.not_lt.mpr (h0 a q))) e) hz rfl rfl)
        ⟨C.zone,C.aD,C.mD,it,us,n,hk D _ (fun q=>(C.zone D q).2.2 rfl) g,z.mono key (fun _ _ q=>q) hz⟩ tk1 fun f1 f2 f3 f4 f5 f6=>hagain _ _ hq (ih p _ hps f1 f2 f3 f4 f5 f6)
    · have key:∀a o,s.heap.get? a=some o→¬ Av a→h'.get? a=some o:=fun a o e q=>hk a o (fun z=>q (C.zone a z).1) e
      have hps:ps=[]:=by rw [←hj];exact List.drop_eq_nil_of_le (List.getElem?_eq_none_iff.mp hn)
      rw [hps,hnil] at hf
      cases hf
      rw [List.append_nil] at hall
      obtain ⟨us,n,g,z⟩:=C.ls
      exact hdone _ _ (k _ _ _ (R₀.keepZ (fun a h=>⟨(C.zone a h).1,(C.zone a h).2.1,W.nocell C.it a h⟩) hk hz) (S₀.iterZ (fun a o l e=>hk a o (fun q=>absurd l (Nat.not_lt.mpr (h0 a q))) e) hz rfl rfl) C.zone C.aD C.mD
        ⟨us,n,hk D _ (fun q=>(C.zone D q).2.2 rfl) g,hall ▸ z.mono key (fun _ _ q=>q) hz⟩ ie tk)
    · cases r with
      | none=>exact wpAny_pure q
      | some v=>exact wpAny_bind q
  intro ps
  induction ps with
  | nil=>exact step [] (fun _ _ e=>nomatch e)
  | cons p ps ih=>exact fun {j} _ _ _ _ _ _ h=>step (p::ps) (fun _ _ e=>by cases e;exact ih (drop_some h).2) h
theorem it_one:ItW X.prog X.w I (fun a=>a=I) xs (fun v p h Av=>VR h Av v p) (fun j h Av=>IterAt h Av I xs j) (fun _ _=>True) (fun _=>pure ()):=
  ⟨fun x hz hk ha hs=>x.mono (fun o e=>hz I o rfl e) hk ha hs,fun x a h=>h ▸ x.nocell,fun hh tk hI W item done=>by
    refine wp_next' hh tk (hI I rfl) W (fun p v h' tk' hp hv it hs tk1=>?_) fun hn h' he hz=>?_
    · exact wpAny_pure (item p v h' tk' hp hv it (fun a o n e=>(hs.2 a n).trans e) (Nat.le_of_eq hs.1.symm) tk1)
    · exact done hn h' trivial he hz⟩
noncomputable def filT (x:Str) (px:Pos) (ifs:List Expr) (elt:Expr) (D:Addr) (env:Env) (c:Code) (v:Value):Sem Fin:=assign (.Name x px) env v>>=fun _=>testsOf ifs env>>=fun ok=>if ok=true then (eval elt env>>=fun x=>call (.builtin "list.append") [.ref D,x]>>=fun _=>pure ())>>=fun _=>again c else again c
theorem fil_body {c:Code} {x:Str} {px:Pos} {elt:Expr} {ifs:List Expr} {t:EvB} {e:EvE} {i:Nat} (W:ItW X.prog X.w I Z xs (fun v p h Av=>VR h Av v p) IT IE G) (ht:SoundIfs X F d ifs t) (he:SoundE X F d elt e) (hi:F.names[i]? =some x) (hl:F.Wr x)
    {A:Around} {Av₀ Mu₀:Addr→Prop} {s₀:Shared} {env:Env} {all:List PV} {st₂:St} (hA:Room d A) (h1:s₀.heap.objs.size≤D) (lt₀:∀a,Av₀ a→a < s₀.heap.objs.size) (hal:all.length≤16777216)
    {Av Mu:Addr→Prop} {st:St} {s:Shared} {p:PV} {ps done rest:List PV} {j:Nat} {v:Value} {Q:Fin→Shared→Prop} {E:Value→Shared→Prop} (hf:compF i t e (p::ps) st=some (rest,st₂)) (hall:done++rest=all) (hv:VR s.heap Av v p) (R₁:R X F Av Mu env st s) (S₁:Step Av₀ Mu₀ s₀ Av Mu s) (C₁:CY Z IT D Av Mu s.heap (j+1) done) (tk:1≤s.toks)
    (k:∀{Av' Mu':Addr→Prop} {st':St} {s':Shared} {done' rest':List PV},compF i t e ps st'=some (rest',st₂)→done'++rest'=all→R X F Av' Mu' env st' s'→Step Av₀ Mu₀ s₀ Av' Mu' s'→CY Z IT D Av' Mu' s'.heap (j+1) done'→1≤s'.toks→Q (.again c) s'):wpAny (model X.prog X.w) A (filT x px ifs elt D env c v) Q E s:=by
  refine wpAny_bind (wpAny_assign_Name (wp_store' R₁ tk hi (b:=.froz p) hv hl fun s2 R2 S2 tk2=>?_))
  have C2:=C₁.step W S2 R₁.ma R₁.lt
  rcases compF_cons hf with ⟨st1,f1,f2⟩ | ⟨st1,a,st2,as,f1,f2,f3,rfl⟩
  · refine wpAny_bind (ht _ hA f1 R2 tk2 fun b' s3 Av3 Mu3 R3 S3 V3 tk3=>?_)
    cases V3
    exact wpAny_pure (k f2 hall R3 ((S₁.trans S2 lt₀).trans S3.toStep lt₀) (C2.step W S3.toStep R2.ma R2.lt) tk3)
  · refine wpAny_bind (ht _ hA f1 R2 tk2 fun b' s3 Av3 Mu3 R3 S3 V3 tk3=>?_)
    cases V3
    have C3:=C2.step W S3.toStep R2.ma R2.lt
    refine wpAny_bind (wpAny_bind (he _ hA f2 R3 tk3 fun va s4 Av4 Mu4 R4 S4 V4 tk4=>?_))
    refine CY.app W h1 R4 (((S₁.trans S2 lt₀).trans S3.toStep lt₀).trans S4.toStep lt₀) (C3.step W S4.toStep R3.ma R3.lt) V4 (Nat.le_trans ?_ hal) fun h' R5 S5 C5=>k f3 ?_ R5 S5 C5 tk4
    · rw [←hall,List.length_append];exact Nat.le_add_right _ _
    · rw [List.append_assoc];exact hall
theorem code_comp {x:Str} {px:Pos} {elt iter:Expr} {ifs:List Expr} {scope:Scope} {pos:Pos} {t:EvB} {e:EvE} {i:Nat} (ht:SoundIfs X F d ifs t) (he:SoundE X F d elt e) (hi:F.names[i]? =some x) (hl:F.Wr x)
    {A:Around} {Av₀ Mu₀:Addr→Prop} {s₀:Shared} {env:Env} {K:Result→Shared→Prop} {all:List PV} {st₂:St}
    (hA:Room d A) (h0:s₀.heap.objs.size≤I) (h1:s₀.heap.objs.size≤D) (lt₀:∀a,Av₀ a→a < s₀.heap.objs.size) (hal:all.length≤16777216)
    (k:∀s' Av' Mu',R X F Av' Mu' env st₂ s'→Step Av₀ Mu₀ s₀ Av' Mu' s'→Av' D→¬ Mu' D→(∃us n,s'.heap.get? D=some (listObj us n)∧VRs s'.heap Av' us all)→K (.ok .next) s')
    {Av Mu:Addr→Prop} {st:St} {s:Shared} (hf:compF i t e xs st=some (all,st₂)) (R₀:R X F Av Mu env st s) (S₀:Step Av₀ Mu₀ s₀ Av Mu s) (C:CY (fun a=>a=I) (fun j h Av=>IterAt h Av I xs j) D Av Mu s.heap 0 []) (tk:1≤s.toks):
    codeAny (model X.prog X.w) A (.compLoop (.ListComp elt [⟨.Name x px,iter,ifs,0⟩] scope pos) 0 (.ref I) (.ref D) env) K s:=
  code_gen (f:=compF i t e) (T:=filT x px ifs elt D env (.compLoop (.ListComp elt [⟨.Name x px,iter,ifs,0⟩] scope pos) 0 (.ref I) (.ref D) env)) (pp:=iter.pos) (kk:=fun x=>do noteFrame x env;theTreesLotGoes x) it_one rfl rfl rfl rfl (fun _=>rfl) hA (fun a h=>h ▸ h0) (fil_body it_one ht he hi hl hA h1 lt₀ hal) (fun s' Av' Mu' r S _ a m l _ _=>k s' Av' Mu' r S a m l) xs (List.drop_zero) hf rfl R₀ S₀ C tk
end
end Mine
end
section
open PySem PySem.W PyProof.Rows PySem.Builtin.Str
set_option tactic.hygienic false
namespace Mine
noncomputable def clOf (cells:List (Str×Addr)):List (Str×NameKind)→List (Str×Addr)→List (Str×Addr)
  | [],acc=>acc
  | (n,k)::r,acc=>if k==.free then clOf cells r ((n,(cells.lookup n).getD 0)::acc) else clOf cells r acc
theorem closureFor_eq {env:Env}:∀(names:List (Str×NameKind)) (acc:List (Str×Addr)),(∀n,(n,NameKind.free)∈names→∃c,env.cells.lookup n=some c)→
    (forIn names acc fun (x:Str×NameKind) (r:List (Str×Addr))=>(if (x.2==.free)=true then do let a ←cellOf env x.1;pure (ForInStep.yield ((x.1,a)::r)) else pure (ForInStep.yield r):Sem (ForInStep (List (Str×Addr)))))=pure (clOf env.cells names acc)
  | [],acc,_=>rfl
  | (n,k)::r,acc,h=>by
    rw [List.forIn_cons]
    unfold clOf
    dsimp only
    by_cases hk:(k==NameKind.free)=true
    · rw [if_pos hk,if_pos hk]
      obtain ⟨c,hc⟩:=h n (by rw [beq_iff_eq] at hk;rw [hk];exact List.mem_cons_self)
      have:cellOf env n=pure c:=by unfold cellOf;rw [hc]
      rw [this]
      simp only [pure_bind]
      rw [closureFor_eq r _ fun m hm=>h m (List.mem_cons_of_mem _ hm),hc]
      rfl
    · rw [if_neg hk,if_neg hk]
      simp only [pure_bind]
      exact closureFor_eq r _ fun m hm=>h m (List.mem_cons_of_mem _ hm)
theorem closure_eq {env:Env} {scope:Scope} (h:∀n,(n,NameKind.free)∈scope.names→∃c,env.cells.lookup n=some c):closureFor scope env=pure (clOf env.cells scope.names []):=by
  rw [←closureFor_eq scope.names [] h]
  unfold closureFor
  simp only [bind_pure]
theorem clOf_lookup {cells:List (Str×Addr)} {x:Str} {c:Addr} (hc:cells.lookup x=some c):∀(names:List (Str×NameKind)) (acc:List (Str×Addr)),(acc.lookup x=some c∨(x,NameKind.free)∈names)→(clOf cells names acc).lookup x=some c
  | [],acc,h=>by
    rcases h with h | h
    · exact h
    · cases h
  | (n,k)::r,acc,h=>by
    unfold clOf
    by_cases hk:(k==NameKind.free)=true
    · rw [if_pos hk]
      refine clOf_lookup hc r _ ?_
      by_cases e:x=n
      · subst e
        left
        rw [List.lookup_cons,beq_self_eq_true,hc]
        rfl
      · have e':(x==n)=false:=beq_eq_false_iff_ne.mpr e
        rcases h with h | h
        · left
          rw [List.lookup_cons,e']
          exact h
        · rcases List.mem_cons.mp h with h | h
          · cases h;exact absurd rfl e
          · exact .inr h
    · rw [if_neg hk]
      refine clOf_lookup hc r _ (h.imp id fun h=>?_)
      rcases List.mem_cons.mp h with h | h
      · cases h;exact absurd rfl hk
      · exact h
theorem clOf_ok {cells:List (Str×Addr)} (cinj:∀x y c,cells.lookup x=some c→cells.lookup y=some c→x=y):∀(names:List (Str×NameKind)) (acc:List (Str×Addr)),(names.map (·.1)).Nodup→
    (∀n,(n,NameKind.free)∈names→∃c,cells.lookup n=some c)→(∀x c,(x,c)∈acc→cells.lookup x=some c∧x ∉ names.map (·.1))→acc.Pairwise (fun x y=>x.2≠y.2)→
    (clOf cells names acc).Pairwise (fun x y=>x.2≠y.2)∧∀x c,(x,c)∈clOf cells names acc→cells.lookup x=some c∧((x,c)∈acc∨(x,NameKind.free)∈names)
  | [],acc,_,_,h,hp=>⟨hp,fun x c hm=>⟨(h x c hm).1,.inl hm⟩⟩
  | (n,k)::r,acc,hnd,hex,h,hp=>by
    rw [List.map_cons,List.nodup_cons] at hnd
    unfold clOf
    by_cases hk:(k==NameKind.free)=true
    · rw [if_pos hk]
      have hk':k=NameKind.free:=by simpa using hk
      subst hk'
      obtain ⟨c,hc⟩:=hex n List.mem_cons_self
      rw [hc]
      obtain ⟨p,q⟩:=clOf_ok cinj r ((n,c)::acc) hnd.2 (fun m hm=>hex m (List.mem_cons_of_mem _ hm)) (fun x c' hm=>by
        rcases List.mem_cons.mp hm with hm | hm
        · cases hm;exact ⟨hc,hnd.1⟩
        · exact ⟨(h x c' hm).1,fun z=>(h x c' hm).2 (List.mem_cons_of_mem _ z)⟩) (List.pairwise_cons.mpr ⟨fun y hy e=>by
          obtain ⟨y1,y2⟩:=y
          have e':c=y2:=e
          subst e'
          have:=cinj _ _ _ (h y1 c hy).1 hc
          exact (h y1 c hy).2 (by rw [this];exact List.mem_cons_self),hp⟩)
      refine ⟨p,fun x c' hm=>⟨(q x c' hm).1,?_⟩⟩
      rcases (q x c' hm).2 with z | z
      · rcases List.mem_cons.mp z with z | z
        · cases z;exact .inr List.mem_cons_self
        · exact .inl z
      · exact .inr (List.mem_cons_of_mem _ z)
    · rw [if_neg hk]
      obtain ⟨p,q⟩:=clOf_ok cinj r acc hnd.2 (fun m hm=>hex m (List.mem_cons_of_mem _ hm)) (fun x c' hm=>⟨(h x c' hm).1,fun z=>(h x c' hm).2 (List.mem_cons_of_mem _ z)⟩) hp
      exact ⟨p,fun x c' hm=>⟨(q x c' hm).1,(q x c' hm).2.imp id fun z=>List.mem_cons_of_mem _ z⟩⟩
theorem pushCells_size:∀(names:List (Str×NameKind)) (h:Heap),h.objs.size≤(pushCells h names).objs.size
  | [],_=>Nat.le_refl _
  | (n,k)::r,h=>by
    unfold pushCells
    split
    · exact Nat.le_trans (by rw [Heap.size_push];exact Nat.le_succ _) (pushCells_size r _)
    · exact pushCells_size r h
theorem cellsFrom_all:∀(names:List (Str×NameKind)) (h:Heap) (acc:List (Str×Addr)),acc.Pairwise (fun x y=>x.2≠y.2)→(∀x c,(x,c)∈acc→c < h.objs.size)→
    (cellsFrom h.objs.size names acc).Pairwise (fun x y=>x.2≠y.2)∧∀x c,(x,c)∈cellsFrom h.objs.size names acc→(x,c)∈acc∨(h.objs.size≤c∧(pushCells h names).IsCell c none∧(x,NameKind.cell)∈names)
  | [],h,acc,hp,_=>⟨hp,fun x c hm=>.inl hm⟩
  | (n,k)::r,h,acc,hp,hl=>by
    unfold cellsFrom pushCells
    by_cases hk:(k==NameKind.cell)=true
    · rw [if_pos hk,if_pos hk]
      have hk':k=NameKind.cell:=by simpa using hk
      subst hk'
      have hsz:(h.push { cls:=.type "cell",data:=.cell none }).objs.size=h.objs.size+1:=Heap.size_push ..
      have:=cellsFrom_all r (h.push { cls:=.type "cell",data:=.cell none }) ((n,h.objs.size)::acc) (List.pairwise_cons.mpr ⟨fun y hy e=>by
          obtain ⟨y1,y2⟩:=y
          have e':h.objs.size=y2:=e
          exact absurd (hl y1 y2 hy) (e' ▸ Nat.lt_irrefl _),hp⟩) (fun x c hm=>by
          rw [hsz]
          rcases List.mem_cons.mp hm with hm | hm
          · cases hm;exact Nat.lt_succ_self _
          · exact Nat.lt_succ_of_lt (hl x c hm))
      rw [hsz] at this
      refine ⟨this.1,fun x c hm=>?_⟩
      rcases this.2 x c hm with z | ⟨z1,z2,z3⟩
      · rcases List.mem_cons.mp z with z | z
        · cases z
          exact .inr ⟨Nat.le_refl _,⟨_,pushCells_keeps _ _ _ _ (Heap.get?_push_size _ rfl),rfl⟩,List.mem_cons_self⟩
        · exact .inl z
      · exact .inr ⟨Nat.le_of_succ_le z1,z2,List.mem_cons_of_mem _ z3⟩
    · rw [if_neg hk,if_neg hk]
      obtain ⟨p,q⟩:=cellsFrom_all r h acc hp hl
      exact ⟨p,fun x c hm=>(q x c hm).imp id fun z=>⟨z.1,z.2.1,List.mem_cons_of_mem _ z.2.2⟩⟩
set_option tactic.hygienic true in
theorem cellsFrom_off {x:Str}:∀(names:List (Str×NameKind)) (n:Nat) (acc:List (Str×Addr)),(x,NameKind.cell) ∉ names→(cellsFrom n names acc).lookup x=acc.lookup x
  | [],_,_,_=>rfl
  | (m,k)::r,n,acc,h=>by
    unfold cellsFrom
    have ih:=fun n acc=>cellsFrom_off r n acc fun z=>h (List.mem_cons_of_mem _ z)
    split
    · rename_i hk
      rw [ih,List.lookup_cons]
      have:(x==m)=false:=beq_eq_false_iff_ne.mpr fun e=>by
        have hk':k=NameKind.cell:=by simpa using hk
        exact h (by rw [e,hk'];exact List.mem_cons_self)
      rw [this]
    · exact ih _ _
noncomputable def relS (scope fs:Scope):Scope:=
  { scope with names:=scope.names.map fun (n,k)=>if (k==.free&&fs.kind==.function&&fs.names.lookup n==some .cell) then (n,.cell) else (n,k) }
theorem relabel_eq {scope:Scope} {env:Env}:relabel scope env=relS scope env.scope:=rfl
theorem relS_lookup {fs:Scope}:∀(names:List (Str×NameKind)) (x:Str),(names.map fun (p:Str×NameKind)=>if (p.2==.free&&fs.kind==.function&&fs.names.lookup p.1==some .cell) then (p.1,NameKind.cell) else (p.1,p.2)).lookup x=
    (names.lookup x).map fun k=>if (k==.free&&fs.kind==.function&&fs.names.lookup x==some .cell) then .cell else k
  | [],_=>rfl
  | (n,k)::r,x=>by
    show List.lookup x ((if (k==NameKind.free&&fs.kind==.function&&fs.names.lookup n==some .cell)=true then (n,NameKind.cell) else (n,k))::_)=_
    by_cases e:x=n
    · subst e
      rw [show List.lookup x ((x,k)::r)=some k by rw [List.lookup_cons,beq_self_eq_true]]
      by_cases h:(k==NameKind.free&&fs.kind==.function&&fs.names.lookup x==some .cell)=true
      · rw [if_pos h,List.lookup_cons,beq_self_eq_true];simp only [Option.map_some];rw [if_pos h]
      · rw [if_neg h,List.lookup_cons,beq_self_eq_true];simp only [Option.map_some];rw [if_neg h]
    · have e':(x==n)=false:=beq_eq_false_iff_ne.mpr e
      rw [show List.lookup x ((n,k)::r)=List.lookup x r by rw [List.lookup_cons,e']]
      by_cases h:(k==NameKind.free&&fs.kind==.function&&fs.names.lookup n==some .cell)=true
      · rw [if_pos h,List.lookup_cons,e'];exact relS_lookup r x
      · rw [if_neg h,List.lookup_cons,e'];exact relS_lookup r x
theorem lookup_of_nodup {x:Str} {k:NameKind}:∀{names:List (Str×NameKind)},(names.map (·.1)).Nodup→(x,k)∈names→names.lookup x=some k
  | (n,j)::r,hn,h=>by
    rw [List.map_cons,List.nodup_cons] at hn
    rw [List.lookup_cons]
    rcases List.mem_cons.mp h with h | h
    · cases h;rw [beq_self_eq_true]
    · have:(x==n)=false:=beq_eq_false_iff_ne.mpr fun e=>hn.1 (by rw [←e];exact List.mem_map.mpr ⟨_,h,rfl⟩)
      rw [this]
      exact lookup_of_nodup hn.2 h
section
variable {M:Model} {A:Around} {E:Value→Shared→Prop} {s:Shared}
theorem wpAny_newEnvC {scope:Scope} {globals:Addr} {cl:List (Str×Addr)} {qual:Str} {env:Env} {Q:Env→Shared→Prop}
    (h:Q { scope:=scope,locals:=s.heap.objs.size,globals:=globals,cells:=cellsFrom (s.heap.objs.size+1) scope.names cl,qual:=qual,func:=none,code:=env.code,frame:=env.frame,builtins:=env.builtins }
      { s with heap:=pushCells (s.heap.push { cls:=.type "dict",data:=.dict #[] }) scope.names }):
    wpAny M A (newFunctionEnv scope globals cl [] qual none .none (some env)) Q E s:=by
  simp only [newFunctionEnv,Option.isSome_some,if_true]
  refine wpAny_bind (wpAny_alloc ?_)
  refine wpAny_bind (wpAny_layCells _ (fun name kind cells=>by cases hkc:kind==NameKind.cell<;>simp [hkc]) _ _ _ _ ?_)
  rw [show ({ s with heap:=s.heap.push { cls:=.type "dict",data:=.dict #[] } }:Shared).heap.objs.size=s.heap.objs.size+1 from Heap.size_push ..]
  exact wpAny_bind (wpAny_pure (wpAny_pure h))
end
end Mine
end
section
open PySem PySem.W PyProof.Rows PySem.Builtin.Str
set_option tactic.hygienic false
namespace Mine
section
variable {X:Cx} {F:FI} {d:Nat}
noncomputable def capF:List Nat→St→Option (List PV×St)
  | []=>pureE []
  | i::is=>bindE (getV i) fun p=>bindE (capF is) fun ps=>pureE (p::ps)
set_option tactic.hygienic true in
theorem getV_froz {i:Nat} {st st':St} {p:PV} (h:getV i st=some (p,st')):st'[i]? =some (Bind.froz p)∧∀(j:Nat) (q:PV),st[j]? =some (Bind.froz q)→st'[j]? =some (Bind.froz q):=by
  unfold getV at h
  split at h<;>cases h
  · rename_i e
    exact ⟨e,fun _ _ h=>h⟩
  · rename_i xs e
    have hlt:i < st.length:=(List.getElem?_eq_some_iff.mp e).1
    refine ⟨by rw [List.getElem?_set_self hlt],fun j q h=>?_⟩
    by_cases hj:i=j
    · subst hj;rw [e] at h;cases h
    · rw [List.getElem?_set_ne hj];exact h
set_option tactic.hygienic true in
theorem R.getV {Av Mu:Addr→Prop} {env:Env} {st st':St} {s:Shared} {i:Nat} {x:Str} {p:PV} (r:R X F Av Mu env st s) (hi:F.names[i]? =some x) (hf:getV i st=some (p,st')):
    ∃Av' Mu',R X F Av' Mu' env st' s∧StepE env Av Mu s Av' Mu' s:=by
  unfold Mine.getV at hf
  split at hf<;>cases hf
  · exact ⟨Av,Mu,r,StepE.refl⟩
  · rename_i xs e
    obtain ⟨Av',Mu',v,r',S,hv,q⟩:=r.freeze hi e
    exact ⟨Av',Mu',r',S,fun _ _ h=>h⟩
theorem R.cap {env:Env} {s:Shared}:∀{is:List Nat} {xs:List Str} {ps:List PV} {Av Mu:Addr→Prop} {st st':St},is.map (F.names[·]?)=xs.map some→capF is st=some (ps,st')→R X F Av Mu env st s→
    ∃Av' Mu',R X F Av' Mu' env st' s∧StepE env Av Mu s Av' Mu' s∧(∀(j:Nat) (q:PV),st[j]? =some (Bind.froz q)→st'[j]? =some (Bind.froz q))∧ps.length=xs.length∧∀(j:Nat) (x:Str),xs[j]? =some x→∃(p:PV) (i:Nat),ps[j]? =some p∧F.names[i]? =some x∧st'[i]? =some (Bind.froz p)
  | [],[],ps,Av,Mu,st,st',_,hf,r=>by
    cases hf
    exact ⟨Av,Mu,r,StepE.refl,fun _ _ h=>h,rfl,fun j x h=>by simp at h⟩
  | [],_::_,_,_,_,_,_,h,_,_=>by cases h
  | _::_,[],_,_,_,_,_,h,_,_=>by cases h
  | i::is,x::xs,ps,Av,Mu,st,st',h,hf,r=>by
    rw [List.map_cons,List.map_cons,List.cons.injEq] at h
    unfold capF at hf
    refine bindE_elim hf fun p st1 h1 hf1=>?_
    refine bindE_elim hf1 fun qs st2 h2 hf2=>?_
    cases hf2
    obtain ⟨Av1,Mu1,r1,S1⟩:=r.getV h.1 h1
    obtain ⟨Av2,Mu2,r2,S2,k2,l2,g2⟩:=R.cap h.2 h2 r1
    obtain ⟨f1,f2⟩:=getV_froz h1
    refine ⟨Av2,Mu2,r2,S1.trans S2 r.lt,fun j q e=>k2 j q (f2 j q e),by simp [l2],fun j y hy=>?_⟩
    cases j with
    | zero=>
      simp at hy
      subst hy
      exact ⟨p,i,rfl,h.1,k2 _ _ f1⟩
    | succ j=>
      simp only [List.getElem?_cons_succ] at hy ⊢
      exact g2 j y hy
structure CompOK (F:FI) (scope:Scope) (own caps:List Str):Prop where
  fn:scope.kind=.function
  nd:(scope.names.map (·.1)).Nodup
  hown:∀x∈own,scope.names.lookup x=some .local∨scope.names.lookup x=some .cell
  hcaps:∀x∈caps,scope.names.lookup x=some .free
  all:∀p∈scope.names,p.2=.free→p.1∈caps
  outer:∀x∈caps,F.scope.names.lookup x=some .cell∨F.scope.names.lookup x=some .free
  nd2:(own++caps).Nodup
noncomputable abbrev innerF (F:FI) (scope:Scope) (own caps:List Str):FI:=⟨relS scope F.scope,own++caps,caps,F.cd,F.ql⟩
theorem innerF_wr {scope:Scope} {own caps:List Str} (ok:CompOK F scope own caps) {x:Str} (hx:x∈own):(innerF F scope own caps).Wr x:=by
  refine ⟨fun h=>(List.nodup_append.mp ok.nd2).2.2 x hx x h rfl,?_⟩
  show (relS scope F.scope).names.lookup x=_∨(relS scope F.scope).names.lookup x=_
  have e:(relS scope F.scope).names.lookup x=_:=relS_lookup (fs:=F.scope) scope.names x
  rw [e]
  rcases ok.hown x hx with h | h
  · left;rw [h];rfl
  · right;rw [h];rfl
theorem capCells {scope:Scope} {own caps:List Str} (ok:CompOK F scope own caps) {env:Env} {h:Heap} (sc:env.scope=F.scope) (hcap:∀(j:Nat) (x:Str),caps[j]? =some x→∃v,ValAt h env x v):∀n,(n,NameKind.free)∈scope.names→∃c,env.cells.lookup n=some c:=fun n hn=>by
  have hm:=ok.all _ hn rfl
  obtain ⟨j,hj⟩:=List.mem_iff_getElem?.mp hm
  obtain ⟨v,hv⟩:=hcap j n hj
  unfold ValAt at hv
  have hkd:env.kindOf n=F.scope.names.lookup n:=by show env.scope.names.lookup n=_;rw [sc]
  rcases ok.outer n hm with e | e
  · rw [←hkd] at e
    simp only [e] at hv
    obtain ⟨c,hc,_⟩:=hv
    exact ⟨c,hc⟩
  · rw [←hkd] at e
    simp only [e] at hv
    obtain ⟨c,hc,_⟩:=hv
    exact ⟨c,hc⟩
set_option tactic.hygienic true in
theorem R.inner {scope:Scope} {own caps:List Str} (ok:CompOK F scope own caps) {Av Mu:Addr→Prop} {env:Env} {st:St} {s₁ s₂:Shared} {ps:List PV} (r:R X F Av Mu env st s₁)
    (hps:ps.length=caps.length) (hcap:∀(j:Nat) (x:Str),caps[j]? =some x→∃(p:PV) (v:Value),ps[j]? =some p∧ValAt s₁.heap env x v∧VR s₁.heap Av v p)
    (hk:∀a o,s₁.heap.get? a=some o→s₂.heap.get? a=some o) (hs:s₁.heap.objs.size≤s₂.heap.objs.size) (ho:s₂.os=s₁.os) (hg:s₂.gens=s₁.gens):
    (∀n,(n,NameKind.free)∈scope.names→∃c,env.cells.lookup n=some c)∧∀tk dr,∃Av' Mu':Addr→Prop,
      R X (innerF F scope own caps) Av' Mu' (compEnvC scope (cellsFrom (s₂.heap.objs.size+1) scope.names (clOf env.cells scope.names [])) s₂.heap.objs.size env) (own.map (fun _=>.none)++ps.map .froz)
        ⟨pushCells (s₂.heap.push { cls:=.type "dict",data:=.dict #[] }) scope.names,s₂.gens,dr,tk,s₂.os⟩∧
      Step Av X.Tb s₁ Av' Mu' ⟨pushCells (s₂.heap.push { cls:=.type "dict",data:=.dict #[] }) scope.names,s₂.gens,dr,tk,s₂.os⟩∧
      (∀a,s₁.heap.objs.size≤a→a < s₂.heap.objs.size→Av' a∧¬ Mu' a):=by
  have hval:∀(j:Nat) (x:Str),caps[j]? =some x→∃p v c,ps[j]? =some p∧env.cells.lookup x=some c∧s₁.heap.IsCell c (some v)∧VR s₁.heap Av v p:=fun j x hx=>by
    obtain ⟨p,v,h1,hv,q⟩:=hcap j x hx
    unfold ValAt at hv
    have hkd:env.kindOf x=F.scope.names.lookup x:=by show env.scope.names.lookup x=_;rw [r.sc]
    rcases ok.outer x (List.mem_of_getElem? hx) with e | e
    · rw [←hkd] at e
      simp only [e] at hv
      obtain ⟨c,hc,hcell⟩:=hv
      exact ⟨p,v,c,h1,hc,hcell,q⟩
    · rw [←hkd] at e
      simp only [e] at hv
      obtain ⟨c,hc,hcell⟩:=hv
      exact ⟨p,v,c,h1,hc,hcell,q⟩
  have hex:∀n,(n,NameKind.free)∈scope.names→∃c,env.cells.lookup n=some c:=fun n hn=>by
    have hm:=ok.all _ hn rfl
    obtain ⟨j,hj⟩:=List.mem_iff_getElem?.mp hm
    obtain ⟨p,v,c,_,hc,_⟩:=hval j n hj
    exact ⟨c,hc⟩
  refine ⟨hex,fun tk dr=>?_⟩
  generalize hH1:s₂.heap.push { cls:=.type "dict",data:=.dict #[] }=H1
  have hz1:H1.objs.size=s₂.heap.objs.size+1:=by rw [←hH1];exact Heap.size_push ..
  have k1:∀a o,s₂.heap.get? a=some o→H1.get? a=some o:=fun a o e=>hH1 ▸ Heap.get?_push_of_some _ e
  generalize hH2:pushCells H1 scope.names=H2
  have k2:∀a o,H1.get? a=some o→H2.get? a=some o:=fun a o e=>hH2 ▸ pushCells_keeps _ _ a o e
  have hz2:H1.objs.size≤H2.objs.size:=hH2 ▸ pushCells_size _ _
  have kk:∀a o,s₁.heap.get? a=some o→H2.get? a=some o:=fun a o e=>k2 a o (k1 a o (hk a o e))
  obtain ⟨clP,clM⟩:=clOf_ok r.cinj scope.names [] ok.nd hex (fun x c hm=>by cases hm) List.Pairwise.nil
  have clLt:∀x c,(x,c)∈clOf env.cells scope.names []→c < s₁.heap.objs.size:=fun x c hm=>by
    obtain ⟨e,h⟩:=clM x c hm
    rcases h with h | h
    · cases h
    · obtain ⟨j,hj⟩:=List.mem_iff_getElem?.mp (ok.all _ h rfl)
      obtain ⟨p,v,c',_,hc,hcell,_⟩:=hval j x hj
      rw [e] at hc;cases hc
      exact hcell.lt
  have hcs:=cellsFrom_all scope.names H1 (clOf env.cells scope.names []) clP (fun x c hm=>Nat.lt_of_lt_of_le (clLt x c hm) (by lia))
  rw [hz1,hH2] at hcs
  generalize hcells:cellsFrom (s₂.heap.objs.size+1) scope.names (clOf env.cells scope.names [])=cs at hcs
  obtain ⟨csP,csM⟩:=hcs
  have hcapl:∀(x:Str) (c:Addr),x∈caps→env.cells.lookup x=some c→cs.lookup x=some c:=fun x c hx hc=>by
    have hf:(x,NameKind.free)∈scope.names:=mem_of_lookup (ok.hcaps x hx)
    rw [←hcells,cellsFrom_off _ _ _ fun q=>?_]
    · exact clOf_lookup hc _ _ (.inr hf)
    · have:=lookup_of_nodup ok.nd q
      rw [ok.hcaps x hx] at this
      cases this
  have hkd:∀x,(compEnvC scope cs s₂.heap.objs.size env).kindOf x=(scope.names.lookup x).map fun k=>if (k==.free&&F.scope.kind==.function&&F.scope.names.lookup x==some .cell) then .cell else k:=fun x=>by
    show (relabel scope env).names.lookup x=_
    rw [relabel_eq,r.sc]
    exact relS_lookup (fs:=F.scope) scope.names x
  have hTlt:∀a,X.Tb a→a < s₁.heap.objs.size:=fun a t=>r.lt a (r.ma a (r.tabs a t).1)
  refine ⟨fun a=>Av a∨(s₁.heap.objs.size≤a∧a < H2.objs.size),fun a=>X.Tb a∨(s₂.heap.objs.size≤a∧a < H2.objs.size),?_,?_,fun a h1 h2=>⟨.inr ⟨h1,Nat.lt_of_lt_of_le h2 (by lia)⟩,fun q=>?_⟩⟩
  · have hLlt:s₂.heap.objs.size < H2.objs.size:=by lia
    have hD:H2.Ns s₂.heap.objs.size (fun _=>none):=(Heap.Ns.new s₂.heap (.type "dict")).keeps fun b o e=>k2 b o (hH1 ▸ e)
    refine ⟨by show relabel scope env=_;rw [relabel_eq,r.sc],by show (relS scope F.scope).kind=_;exact ok.fn,r.gl,r.bl,r.cd,r.ql,fun b o e=>⟨kk b o (r.base b o e).1,fun q=>?_⟩,fun a t=>⟨.inl t,?_⟩,fun a q=>?_,fun a q=>?_,⟨_,hD⟩,.inr ⟨Nat.le_refl _,hLlt⟩,ok.nd2,?_,
      fun x y c hx hy=>name_of_addr csP (mem_of_lookup hx) (mem_of_lookup hy),fun x hx hro=>?_,fun i x b hi hb=>?_,fun i j x y xs ys a hi hj hx=>?_⟩
    · rcases q with q | q
      · exact (r.base b o e).2 q
      · exact absurd (Heap.lt_size (r.base b o e).1) (Nat.not_lt.mpr q.1)
    · exact (r.tabs a t).2.mono (fun o e=>kk _ _ e) fun b o e n _=>⟨kk _ _ e,fun q=>q.elim n fun z=>absurd (Heap.lt_size e) (Nat.not_lt.mpr z.1)⟩
    · rcases q with q | q
      · exact .inl (r.ma a (r.tabs a q).1)
      · exact .inr ⟨Nat.le_trans hs q.1,q.2⟩
    · rcases q with q | q
      · exact Nat.lt_of_lt_of_le (r.lt a q) (by show s₁.heap.objs.size≤H2.objs.size;lia)
      · exact q.2
    · rw [List.length_append,List.length_map,List.length_map,hps]
      show _=(own++caps).length
      rw [List.length_append]
    · have hxo:x∈own:=by
        rcases List.mem_append.mp (show x∈own++caps from hx) with h | h
        · exact h
        · exact absurd h hro
      unfold SlotOK
      rw [hkd]
      rcases ok.hown x hxo with e | e
      · rw [e];exact trivial
      · rw [e]
        show ∃c v,cs.lookup x=some c∧H2.IsCell c v∧_
        obtain ⟨c,hc⟩:=Option.isSome_iff_exists.mp (show (cs.lookup x).isSome=true by rw [←hcells];exact cellsFrom_some _ _ _ (.inl e))
        rcases csM x c (mem_of_lookup hc) with h | ⟨h1,h2,h3⟩
        · obtain ⟨_,h⟩:=clM x c h
          rcases h with h | h
          · cases h
          · have:=lookup_of_nodup ok.nd h
            rw [e] at this;cases this
        · exact ⟨c,none,hc,h2,.inr ⟨by lia,h2.lt⟩⟩
    · by_cases hio:i < own.length
      · rw [List.getElem?_append_left (by rw [List.length_map];exact hio),List.getElem?_map] at hb
        obtain ⟨_,_,rfl⟩:=Option.map_eq_some_iff.mp hb
        trivial
      · rw [List.getElem?_append_right (by rw [List.length_map];lia),List.length_map,List.getElem?_map] at hb
        have hx:caps[i - own.length]? =some x:=by
          have:(own++caps)[i]? =some x:=hi
          rwa [List.getElem?_append_right (by lia)] at this
        obtain ⟨p,v,c,h1,hc,hcell,q⟩:=hval _ x hx
        rw [h1] at hb
        cases hb
        have hxm:=List.mem_of_getElem? hx
        refine ⟨v,?_,q.mono (fun a o e _=>kk a o e) (fun a l n m=>m.elim n fun z=>absurd l (Nat.not_lt.mpr z.1)) (by show s₁.heap.objs.size≤H2.objs.size;lia)⟩
        unfold ValAt
        rw [hkd,ok.hcaps x hxm]
        simp only [Option.map_some]
        have hl:=hcapl x c hxm hc
        have hcl:H2.IsCell c (some v):=hcell.keeps kk
        split<;>rename_i e
        · split at e<;>cases e
        · exact ⟨c,hl,hcl⟩
        · exact ⟨c,hl,hcl⟩
        · rename_i n1 n2 n3
          split at n2<;>simp_all
    · by_cases hio:i < own.length
      · rw [List.getElem?_append_left (by rw [List.length_map];exact hio),List.getElem?_map] at hx
        obtain ⟨_,_,q⟩:=Option.map_eq_some_iff.mp hx
        cases q
      · rw [List.getElem?_append_right (by rw [List.length_map];lia),List.length_map,List.getElem?_map] at hx
        obtain ⟨_,_,q⟩:=Option.map_eq_some_iff.mp hx
        cases q
  · exact ⟨fun a o e _=>kk a o e,fun a q=>q.imp id fun z=>Nat.le_trans hs z.1,fun a q=>q.imp id fun z=>z.1,fun a q _=>.inl q,by show s₁.heap.objs.size≤H2.objs.size;lia,ho,fun h=>by show AllBare s₂.gens;rw [hg];exact h⟩
  · rcases q with q | q
    · exact absurd (hTlt a q) (Nat.not_lt.mpr h1)
    · exact absurd h2 (Nat.not_lt.mpr q.1)
end
end Mine
end
section
open PySem PySem.W PyProof.Rows PySem.Builtin.Str
set_option tactic.hygienic false
namespace Mine
theorem IterAt.self {prog:Program} {w:World} {A:Around} {E:Value→Shared→Prop} {s:Shared} {Av:Addr→Prop} {I:Addr} {xs:List PV} {i:Nat} {Q:Value→Shared→Prop} (W:IterAt s.heap Av I xs i) (k:Q (.ref I) s):wpAny (model prog w) A (pyIter (.ref I)) Q E s:=by
  cases W with
  | list a b c d=>exact wpAny_pyIter_listiter a k
  | range a=>exact wpAny_pyIter_rangeiter a k
  | stra a=>exact wpAny_pyIter_striter_ascii a k
  | strw a=>exact wpAny_pyIter_striter_wide a k
section
variable {X:Cx} {F:FI} {d:Nat}
noncomputable def compV (nown:Nat) (i:Nat) (t:EvB) (e:EvE) (xs ps:List PV):Option PV:=if xs.length≤16777216 then (match compF i t e xs (List.replicate nown .none++ps.map .froz) with
  | some (as,_)=>some (.list as)
  | none=>none) else none
structure SrcW (prog:Program) (w:World) (W:Heap→(Addr→Prop)→Addr→Addr→Addr→Prop):Prop where
  mono:∀{h h':Heap} {Av Av':Addr→Prop} {I lo hi:Addr},W h Av I lo hi→(∀a o,h.get? a=some o→h'.get? a=some o)→(∀a,a < h.objs.size→¬ Av a→¬ Av' a)→h.objs.size≤h'.objs.size→W h' Av' I lo hi
  self:∀{A:Around} {E:Value→Shared→Prop} {s:Shared} {Av:Addr→Prop} {I lo hi:Addr} {Q:Value→Shared→Prop},W s.heap Av I lo hi→Q (.ref I) s→wpAny (model prog w) A (pyIter (.ref I)) Q E s
noncomputable def LoopW (X:Cx) (F:FI) (d:Nat) (e:Expr) (W:Heap→(Addr→Prop)→Addr→Addr→Addr→Prop) (st0:St) (as:List PV) (st4:St):Prop:=
  ∀{A:Around} {Av₀ Mu₀ Av Mu:Addr→Prop} {s₀ s:Shared} {env:Env} {I D lo hi:Addr} {K:Result→Shared→Prop},Room d A→s₀.heap.objs.size≤lo→s₀.heap.objs.size≤D→(∀a,Av₀ a→a < s₀.heap.objs.size)→
    (∀s' Av' Mu',R X F Av' Mu' env st4 s'→Step Av₀ Mu₀ s₀ Av' Mu' s'→Av' D→¬ Mu' D→(∃us n,s'.heap.get? D=some (listObj us n)∧VRs s'.heap Av' us as)→K (.ok .next) s')→
    R X F Av Mu env st0 s→Step Av₀ Mu₀ s₀ Av Mu s→W s.heap Av I lo hi→(∀b,lo≤b→b < hi→Av b∧¬ Mu b)→hi≤D→Av D→¬ Mu D→s.heap.get? D=some (listObj [] 0)→1≤s.toks→
    codeAny (model X.prog X.w) A (.compLoop e 0 (.ref I) (.ref D) env) K s
theorem wp_compG {target iter elt:Expr} {ifs:List Expr} {gs:List Comprehension} {scope:Scope} {pos:Pos} {own caps:List Str} {is:List Nat} {W:Heap→(Addr→Prop)→Addr→Addr→Addr→Prop} (ok:CompOK F scope own caps) (hidx:is.map (F.names[·]?)=caps.map some)
    (hW:SrcW X.prog X.w W) (hs:∀env x,foldedSetIterable iter env x=pure x)
    {A:Around} {Av Mu:Addr→Prop} {env:Env} {st st1 st2 st4:St} {s:Shared} {ps as:List PV} {use:Option (Value→Sem Unit)} {Q:Value→Shared→Prop} {E:Value→Shared→Prop}
    (hA:Room d A) (h3:capF is st=some (ps,st1))
    (hsrc:∀{Av Mu:Addr→Prop} {s:Shared} {Q:Value→Shared→Prop} {E:Value→Shared→Prop},R X F Av Mu env st1 s→1≤s.toks→
      (∀s1 s2 I Av2 Mu2,R X F Av2 Mu2 env st2 s1→StepE env Av Mu s Av2 Mu2 s1→(∀a o,s1.heap.get? a=some o→s2.heap.get? a=some o)→s1.heap.objs.size≤s2.heap.objs.size→s2.os=s1.os→s2.gens=s1.gens→1≤s2.toks→
        W s2.heap (fun a=>Av2 a∨s1.heap.objs.size≤a) I s1.heap.objs.size s2.heap.objs.size→Q (.ref I) s2)→wpAny (model X.prog X.w) A (eval iter env) (fun x s₁=>wpAny (model X.prog X.w) A (pyIter x) Q E s₁) E s)
    (hloop:LoopW X (innerF F scope own caps) d (.ListComp elt (⟨target,iter,ifs,0⟩::gs) scope pos) W (List.replicate own.length .none++ps.map .froz) as st4)
    (R₀:R X F Av Mu env st s) (tk:1≤s.toks)
    (k:∀s1 s' Av' Mu' D C,R X F Av' Mu' env st2 s1→StepE env Av Mu s Av' Mu' s1→Post X Av' s1 (.ref D) (.list as) s'→s1.heap.objs.size≤C→(∃m,s'.heap.Ns C m)→
      (∀h',Heap.SameBut C s'.heap h'→VR h' (fun a=>Av' a∨a=C) (.ref D) (.list as))→compPost (model X.prog X.w) A E use Q (.ref D) C (.ok .next) s'):
    wpAny (model X.prog X.w) A (comprehension (.ListComp elt (⟨target,iter,ifs,0⟩::gs) scope pos) scope env (firstIterPos (⟨target,iter,ifs,0⟩::gs) pos) (newList []) false (firstIter (⟨target,iter,ifs,0⟩::gs) env) use) Q E s:=by
  have hnames:∀y∈scope.names,y.2=.local→scope.names.lookup y.1=some .local:=fun y hy hl=>lookup_of_nodup ok.nd (by rw [←hl];exact hy)
  obtain ⟨Av1,Mu1,R1,S1,_,hlen,hcap⟩:=R.cap hidx h3 R₀
  have hcv:∀(j:Nat) (x:Str),caps[j]? =some x→∃(p:PV) (v:Value),ps[j]? =some p∧ValAt s.heap env x v∧VR s.heap Av1 v p:=fun j x hx=>by
    obtain ⟨p,i,h1,h2,h3⟩:=hcap j x hx
    obtain ⟨v,hv,q⟩:=R1.vars i x _ h2 h3
    exact ⟨p,v,h1,hv,q⟩
  have hcl:closureFor scope env=pure (clOf env.cells scope.names []):=closure_eq (capCells ok R₀.sc fun j x hx=>let ⟨p,v,_,h,_⟩:=hcv j x hx;⟨v,h⟩)
  refine wpAny_comprehension_free (g:=⟨target,iter,ifs,0⟩) (gs:=gs) rfl (hs env) hcl ok.fn hnames ?_
  show wpAny _ _ (eval iter env) _ _ _
  refine hsrc R1 tk fun s1 sa I Av2 Mu2 R2 S2 ka za oa ga tka Wa=>?_
  refine wpAny_newObj_type (wpAny_newEnvC ?_) (by show (0:Nat)≤sizeLine;exact Nat.zero_le _)
  generalize hs2:({ sa with heap:=sa.heap.push (listObj [] 0) }:Shared)=s2
  have hsz:s2.heap.objs.size=sa.heap.objs.size+1:=by
    rw [←hs2]
    show (sa.heap.push (listObj [] 0)).objs.size=_
    rw [Heap.size_push]
  have hka:∀a o',sa.heap.get? a=some o'→s2.heap.get? a=some o':=fun a o' e=>by rw [←hs2];exact Heap.get?_push_of_some _ e
  have hk2:∀a o',s1.heap.get? a=some o'→s2.heap.get? a=some o':=fun a o' e=>hka _ _ (ka _ _ e)
  have htk2:1≤s2.toks:=by rw [←hs2];exact tka
  obtain ⟨hex,fin⟩:=R2.inner ok (s₂:=s2) (ps:=ps) hlen (fun j x hx=>by
    obtain ⟨p,v,h1,h2,h3⟩:=hcv j x hx
    exact ⟨p,v,h1,S2.vals _ _ h2,h3.step S2.toStep R1.ma⟩) hk2 (by lia) (by rw [←hs2];exact oa) (by rw [←hs2];exact ga)
  obtain ⟨Av3,Mu3,R3,S3,hIn⟩:=fin s2.toks s2.drawn
  have hgD:s2.heap.get? sa.heap.objs.size=some (listObj [] 0):=by rw [←hs2];exact Heap.get?_push_size _ rfl
  have hkp:∀a o',s2.heap.get? a=some o'→(pushCells (s2.heap.push { cls:=.type "dict",data:=.dict #[] }) scope.names).get? a=some o':=fun a o' e=>pushCells_keeps _ _ a _ (Heap.get?_push_of_some _ e)
  have hsz3:s2.heap.objs.size≤(pushCells (s2.heap.push { cls:=.type "dict",data:=.dict #[] }) scope.names).objs.size:=Nat.le_trans (by rw [Heap.size_push];exact Nat.le_succ _) (pushCells_size _ _)
  have W3:W (pushCells (s2.heap.push { cls:=.type "dict",data:=.dict #[] }) scope.names) Av3 I s1.heap.objs.size sa.heap.objs.size:=by
    refine hW.mono Wa (fun a o e=>hkp _ _ (hka _ _ e)) (fun a l n q=>?_) (by lia)
    rcases S3.av a q with h | h
    · exact n (.inl h)
    · exact n (.inr h)
  have hst:own.map (fun _=>Bind.none)=List.replicate own.length Bind.none:=by rw [List.map_const']
  rw [hst] at R3
  have loop:∀K:Result→Shared→Prop,(∀s' Av' Mu',R X (innerF F scope own caps) Av' Mu' (compEnvC scope (cellsFrom (s2.heap.objs.size+1) scope.names (clOf env.cells scope.names [])) s2.heap.objs.size env) st4 s'→Step Av2 X.Tb s1 Av' Mu' s'→Av' sa.heap.objs.size→¬ Mu' sa.heap.objs.size→
      (∃us n,s'.heap.get? sa.heap.objs.size=some (listObj us n)∧VRs s'.heap Av' us as)→K (.ok .next) s')→
      codeAny (model X.prog X.w) A (.compLoop (.ListComp elt (⟨target,iter,ifs,0⟩::gs) scope pos) 0 (.ref I) (.ref sa.heap.objs.size) (compEnvC scope (cellsFrom (s2.heap.objs.size+1) scope.names (clOf env.cells scope.names [])) s2.heap.objs.size env)) K
        ⟨pushCells (s2.heap.push { cls:=.type "dict",data:=.dict #[] }) scope.names,s2.gens,s2.drawn,s2.toks,s2.os⟩:=fun K hK=>
    hloop hA (Nat.le_refl _) za R2.lt hK R3 S3 W3 (fun b h1 h2=>hIn b h1 (Nat.lt_of_lt_of_le h2 (by rw [hsz];exact Nat.le_succ _))) (Nat.le_refl _) (hIn _ za (by rw [hsz];exact Nat.lt_succ_self _)).1 (hIn _ za (by rw [hsz];exact Nat.lt_succ_self _)).2 (hkp _ _ hgD) htk2
  have hK:∀s' Av' Mu',R X (innerF F scope own caps) Av' Mu' (compEnvC scope (cellsFrom (s2.heap.objs.size+1) scope.names (clOf env.cells scope.names [])) s2.heap.objs.size env) st4 s'→Step Av2 X.Tb s1 Av' Mu' s'→Av' sa.heap.objs.size→¬ Mu' sa.heap.objs.size→
      (∃us n,s'.heap.get? sa.heap.objs.size=some (listObj us n)∧VRs s'.heap Av' us as)→compPost (model X.prog X.w) A E use Q (.ref sa.heap.objs.size) s2.heap.objs.size (.ok .next) s':=by
    intro s' Av' Mu' R' S' aD mD hls
    obtain ⟨us,n,g,z⟩:=hls
    have nDAv:¬ Av2 sa.heap.objs.size:=fun q=>absurd (R2.lt _ q) (Nat.not_lt.mpr za)
    have back:∀a,¬ Av' a→¬ Av2 a:=fun a n q=>by
      by_cases t:X.Tb a
      · exact n (R'.ma a (R'.tabs a t).1)
      · exact n (S'.av' a q t)
    have hV:∀h',(∀a o,s'.heap.get? a=some o→(¬ Av' a∨a=sa.heap.objs.size)→h'.get? a=some o)→s'.heap.objs.size≤h'.objs.size→VR h' (fun a=>Av2 a∨a=s2.heap.objs.size) (.ref sa.heap.objs.size) (.list as):=fun h' hk hz=>by
      unfold VR
      refine ⟨_,us,n,rfl,?_,fun q=>q.elim nDAv fun q=>?_,z.mono (fun a o e q=>hk a o e (.inl q)) (fun a _ q w=>w.elim (back a q) fun w=>q (w ▸ R'.ma _ R'.nsMu)) hz⟩
      · exact hk _ _ g (.inr rfl)
      · rw [hsz] at q;exact absurd q (Nat.ne_of_lt (Nat.lt_succ_self _))
    refine k s1 s' Av2 Mu2 _ _ R2 ⟨S1.toStep.trans S2.toStep R₀.lt,fun y v h=>S2.vals y v (S1.vals y v h)⟩ ⟨fun a o e t=>S'.keep a o e t,fun a t=>(R'.tabs a t).2.mono (fun _ e=>e) fun b _ e n _=>⟨e,back b n⟩,S'.size,S'.os,S'.gens,?_⟩ (by lia) R'.ns fun h' hb=>?_
    · exact (hV _ (fun a o e _=>e) (Nat.le_refl _)).mono (fun _ _ e _=>e) (fun _ _ n q=>n (.inl q)) (Nat.le_refl _)
    · refine hV _ (fun a o' e q=>(hb.2 a fun w=>?_).trans e) (Nat.le_of_eq hb.1.symm)
      rcases q with q | q
      · exact q (w ▸ R'.ma _ R'.nsMu)
      · rw [w,hsz] at q
        exact absurd q (Nat.ne_of_gt (Nat.lt_succ_self _))
  exact codeAny_compStart_list (loop _ hK) (hW.self W3 (loop _ hK))
noncomputable def OneW (xs:List PV) (h:Heap) (Av:Addr→Prop) (I lo hi:Addr):Prop:=lo≤I∧I < hi∧IterAt h Av I xs 0
theorem src_one (xs:List PV):SrcW X.prog X.w (OneW xs):=
  ⟨fun x hk ha hs=>⟨x.1,x.2.1,x.2.2.mono (fun _ e=>hk _ _ e) (fun _ _ e _=>hk _ _ e) ha hs⟩,fun x q=>x.2.2.self q⟩
theorem one_wp {iter:Expr} {f:EvE} (hf:SoundE X F d iter f) {A:Around} {env:Env} {a:PV} {xs:List PV} {st1 st2:St} {Av Mu:Addr→Prop} {s:Shared} {Q:Value→Shared→Prop} {E:Value→Shared→Prop} (hA:Room d A) (h1:f st1=some (a,st2)) (h3:itemsOf a=some xs) (r:R X F Av Mu env st1 s) (tk:1≤s.toks)
    (k:∀s1 s2 I Av2 Mu2,R X F Av2 Mu2 env st2 s1→StepE env Av Mu s Av2 Mu2 s1→(∀a o,s1.heap.get? a=some o→s2.heap.get? a=some o)→s1.heap.objs.size≤s2.heap.objs.size→s2.os=s1.os→s2.gens=s1.gens→1≤s2.toks→
        OneW xs s2.heap (fun a=>Av2 a∨s1.heap.objs.size≤a) I s1.heap.objs.size s2.heap.objs.size→Q (.ref I) s2):wpAny (model X.prog X.w) A (eval iter env) (fun x s₁=>wpAny (model X.prog X.w) A (pyIter x) Q E s₁) E s:=by
  refine hf _ hA h1 r tk fun va s1 Av2 Mu2 R2 S2 V2 tk1=>wp_iter h3 R2.lt V2 fun o W=>?_
  have hz:(s1.heap.push o).objs.size=s1.heap.objs.size+1:=Heap.size_push ..
  refine k s1 _ _ Av2 Mu2 R2 S2 (fun a o' e=>Heap.get?_push_of_some _ e) (hz ▸ Nat.le_succ _) rfl rfl tk1 ⟨Nat.le_refl _,hz ▸ Nat.lt_succ_self _,W.mono (fun _ e=>e) (fun _ _ e _=>e) (fun a l n q=>?_) (Nat.le_refl _)⟩
  rw [hz] at l
  exact q.elim (fun q=>n (.inl q)) fun q=>n (.inr (Nat.le_antisymm (Nat.le_of_lt_succ l) q))
set_option tactic.hygienic true in
theorem wp_comp {x:Str} {px:Pos} {elt iter:Expr} {ifs:List Expr} {scope:Scope} {pos:Pos} {own caps:List Str} {is:List Nat} {t:EvB} {e f:EvE} {i:Nat} (ok:CompOK F scope own caps) (hidx:is.map (F.names[·]?)=caps.map some)
    (hf:SoundE X F d iter f) (ht:SoundIfs X (innerF F scope own caps) d ifs t) (he:SoundE X (innerF F scope own caps) d elt e) (hi:own[i]? =some x)
    (hs:∀env x,foldedSetIterable iter env x=pure x)
    {A:Around} {Av Mu:Addr→Prop} {env:Env} {st st1 st2:St} {s:Shared} {a:PV} {xs ps:List PV} {r:PV} {use:Option (Value→Sem Unit)} {Q:Value→Shared→Prop} {E:Value→Shared→Prop}
    (hA:Room d A) (h3:capF is st=some (ps,st1)) (h1:f st1=some (a,st2)) (h2:itemsOf a=some xs) (h4:compV own.length i t e xs ps=some r) (R₀:R X F Av Mu env st s) (tk:1≤s.toks)
    (k:∀s1 s' Av' Mu' D C,R X F Av' Mu' env st2 s1→StepE env Av Mu s Av' Mu' s1→Post X Av' s1 (.ref D) r s'→s1.heap.objs.size≤C→(∃m,s'.heap.Ns C m)→
      (∀h',Heap.SameBut C s'.heap h'→VR h' (fun a=>Av' a∨a=C) (.ref D) r)→compPost (model X.prog X.w) A E use Q (.ref D) C (.ok .next) s'):
    wpAny (model X.prog X.w) A (comprehension (.ListComp elt [⟨.Name x px,iter,ifs,0⟩] scope pos) scope env (firstIterPos [⟨.Name x px,iter,ifs,0⟩] pos) (newList []) false (firstIter [⟨.Name x px,iter,ifs,0⟩] env) use) Q E s:=by
  unfold compV at h4
  split at h4
  case isFalse=>cases h4
  rename_i hxl
  split at h4<;>cases h4
  rename_i as st4 h5
  have hi':(innerF F scope own caps).names[i]? =some x:=(List.getElem?_append_left (List.getElem?_eq_some_iff.mp hi).1).trans hi
  refine wp_compG (W:=OneW xs) (st4:=st4) ok hidx (src_one xs) hs hA h3 (fun r tk k=>one_wp hf hA h1 h2 r tk k) ?_ R₀ tk k
  intro A Av₀ Mu₀ Av Mu s₀ s env I D lo hi K hA h0 h1 lt₀ k r S w zone hD aD mD gD tk
  obtain ⟨w1,w2,w3⟩:=w
  exact code_comp ht he hi' (innerF_wr ok (List.mem_of_getElem? ‹own[i]? =some x›)) hA (Nat.le_trans h0 w1) h1 lt₀ (Nat.le_trans (compF_len xs h5) hxl) k h5 r S ⟨fun a h=>h ▸ ⟨(zone _ w1 w2).1,(zone _ w1 w2).2,Nat.ne_of_lt (Nat.lt_of_lt_of_le w2 hD)⟩,aD,mD,w3,[],0,gD,VRs.nil⟩ tk
noncomputable def compE (is:List Nat) (f:EvE) (v:List PV→List PV→Option PV):EvE:=bindE (capF is) fun ps=>bindE f fun a=>bindE (liftE (itemsOf a)) fun xs=>liftE (v xs ps)
theorem s_comp {x:Str} {px:Pos} {elt iter:Expr} {ifs:List Expr} {scope:Scope} {pos:Pos} {own caps:List Str} {is:List Nat} {t:EvB} {e f:EvE} {i:Nat} (ok:CompOK F scope own caps) (hidx:is.map (F.names[·]?)=caps.map some)
    (hi:own[i]? =some x) (hf:SoundE X F d iter f) (ht:SoundIfs X (innerF F scope own caps) d ifs t) (he:SoundE X (innerF F scope own caps) d elt e)
    (hs:autoParam (∀env x,foldedSetIterable iter env x=pure x) Mine.au1._auto_1):
    SoundE X F d (.ListComp elt [⟨.Name x px,iter,ifs,0⟩] scope pos) (compE is f (compV own.length i t e)):=by
  refine @SoundT.intro _ _ _ _ _ _ _ _ ?_
  intro A Av Mu env st st' s v Q E hA hf' R₀ tk k
  refine bindE_elim hf' fun ps st1 h1 hf1=>?_
  refine bindE_elim hf1 fun a st2 h2 hf2=>?_
  refine bindE_elim hf2 fun xs st3 h3 hf3=>?_
  obtain ⟨h4,e4⟩:=liftE_some h3
  subst e4
  obtain ⟨h5,e5⟩:=liftE_some hf3
  subst e5
  rw [eval_ListComp]
  refine wp_comp ok hidx hf ht he hi hs (use:=none) hA h1 h2 h4 h5 R₀ tk fun s1 s' Av' Mu' D C R1 S1 P hC hN hV=>?_
  obtain ⟨m,hN⟩:=hN
  refine ⟨m,hN,fun h' hb=>?_⟩
  have P':Post X Av' s1 (.ref D) v { s' with heap:=h' }:=by
    refine ⟨fun a o e t=>(hb.2 a fun z=>absurd (Heap.lt_size e) (Nat.not_lt.mpr (z ▸ hC))).trans (P.keep a o e t),fun a t=>?_,Nat.le_trans P.size (Nat.le_of_eq hb.1.symm),P.os,P.gens,(hV h' hb).mono (fun _ _ e _=>e) (fun _ _ n q=>n (.inl q)) (Nat.le_refl _)⟩
    have hlt:a < s1.heap.objs.size:=R1.lt a (R1.ma a (R1.tabs a t).1)
    refine (P.tabs a t).mono (fun o e=>(hb.2 a fun z=>absurd hlt (Nat.not_lt.mpr (z ▸ hC))).trans e) fun b o e n hd=>⟨(hb.2 b fun z=>?_).trans e,n⟩
    obtain ⟨o',es,ep,ho,hd',_⟩:=hN
    obtain ⟨vs,hd⟩:=hd
    rw [z,ho] at e;cases e;rw [hd] at hd';cases hd'
  obtain ⟨R2,S2⟩:=R1.after P'
  exact k _ _ _ _ R2 (S1.trans ⟨S2,R1.valsAfter P'.keep⟩ R₀.lt) P'.val
set_option tactic.hygienic true in
theorem comp_name {y:Str} {j:Nat} {py:Pos} (hj:F.names[j]? =some y) (hl:F.Wr y) {A:Around} {Av Mu Av' Mu':Addr→Prop} {env:Env} {st2:St} {s s1 s':Shared} {D C:Addr} {r:PV} {Q:Flow→Shared→Prop} {E:Value→Shared→Prop} (lt:∀a,Av a→a < s.heap.objs.size) (R1:R X F Av' Mu' env st2 s1) (S1:StepE env Av Mu s Av' Mu' s1) (P:Post X Av' s1 (.ref D) r s') (hC:s1.heap.objs.size≤C) (hN:∃m,s'.heap.Ns C m)
    (hV:∀h',Heap.SameBut C s'.heap h'→VR h' (fun a=>Av' a∨a=C) (.ref D) r) (k:∀s3 Av3 Mu3,R X F Av3 Mu3 env (st2.set j (.froz r)) s3→Step Av Mu s Av3 Mu3 s3→Q .next s3):compPost (model X.prog X.w) A E (some (assign (.Name y py) env)) (fun _ s'=>Q .next s') (.ref D) C (.ok .next) s':=by
  obtain ⟨m,hN⟩:=hN
  have hMC:¬ Mu' C:=fun q=>absurd (R1.lt C (R1.ma C q)) (Nat.not_lt.mpr hC)
  have R2:=R1.keep' (s':=s') (Av':=fun a=>Av' a∨a=C) (Mu':=Mu') P.keep (fun a t=>(P.tabs a t).mono (fun _ e=>e) fun b o e n hd=>⟨e,fun q=>q.elim n fun z=>by
    obtain ⟨o',es,ep,ho,hd',_⟩:=hN
    obtain ⟨vs,hd⟩:=hd
    rw [z,ho] at e;cases e;rw [hd] at hd';cases hd'⟩) P.size (fun _ h=>.inl h) (fun a h=>Or.imp id (fun (q:a=C)=>⟨q ▸ hC,q ▸ hN.lt⟩) h) (fun _ h=>h) (fun a h=>.inl (R1.ma a h))
  have S2:Step Av' Mu' s1 (fun a=>Av' a∨a=C) Mu' s':=⟨fun a o e n=>P.keep a o e fun t=>n (R1.tabs a t).1,fun _ h=>.inl h,fun a h=>Or.imp id (fun (q:a=C)=>q ▸ hC) h,fun _ h _=>.inl h,P.size,P.os,P.gens⟩
  refine wpAny_assign_Name (wp_store R2 hj (b:=.froz r) (hV _ (.refl ..)) hl fun s3 R3 S3=>?_)
  have hN3:s3.heap.Ns C m:=by
    obtain ⟨o,es,ep,ho,q⟩:=hN
    exact ⟨o,es,ep,S3.keep C o ho hMC,q⟩
  refine ⟨m,hN3,fun h' hb=>?_⟩
  have T:=(S1.toStep.trans S2 lt).trans S3 lt
  refine k _ _ _ (R3.keepI (.inr rfl) hMC (fun o e v q=>?_) (fun a o n e=>(hb.2 a n).trans e) (Nat.le_of_eq hb.1.symm)) (T.iter (Nat.le_trans S1.size hC) hb.extBut (Nat.le_of_eq hb.1.symm) rfl rfl)
  obtain ⟨o',es,ep,ho,hd,_⟩:=hN3
  rw [e] at ho;cases ho;rw [hd] at q;cases q
set_option tactic.hygienic true in
theorem x_comp {y:Str} {j:Nat} {py spos:Pos} {x:Str} {px:Pos} {elt iter:Expr} {ifs:List Expr} {scope:Scope} {pos:Pos} {own caps:List Str} {is:List Nat} {t:EvB} {e f:EvE} {i:Nat} (ok:CompOK F scope own caps) (hidx:is.map (F.names[·]?)=caps.map some)
    (hi:own[i]? =some x) (hf:SoundE X F d iter f) (ht:SoundIfs X (innerF F scope own caps) d ifs t) (he:SoundE X (innerF F scope own caps) d elt e)
    (hj:F.names[j]? =some y) (hl:F.Wr y) (hsw:∀env:Env,env.scope=F.scope→swapsWith (.ListComp elt [⟨.Name x px,iter,ifs,0⟩] scope pos) (some (.Name y py)) spos.line env=pure true)
    (hs:autoParam (∀env x,foldedSetIterable iter env x=pure x) Mine.au1._auto_1):
    SoundX X F d (.Assign [.Name y py] (.ListComp elt [⟨.Name x px,iter,ifs,0⟩] scope pos) spos) (bindE (compE is f (compV own.length i t e)) fun p=>setV j p):=by
  refine @SoundU.intro _ _ _ _ _ _ _ _ ?_
  intro A Av Mu env st st' s v Q E hA hf' R₀ tk k
  refine bindE_elim hf' fun r st0 h0 hf0=>?_
  cases hf0
  refine bindE_elim h0 fun ps st1 h1 hf1=>?_
  refine bindE_elim hf1 fun a st2 h2 hf2=>?_
  refine bindE_elim hf2 fun xs st3 h3 hf3=>?_
  obtain ⟨h4,e4⟩:=liftE_some h3
  subst e4
  obtain ⟨h5,e5⟩:=liftE_some hf3
  subst e5
  rw [exec_Assign_Name_used _ _ _ _ (hsw env R₀.sc)]
  refine wpAny_bind (wpAny_standAt (wpAny_bind ?_))
  show wpAny _ A (do let _ ←comprehension (.ListComp elt [⟨.Name x px,iter,ifs,0⟩] scope pos) scope env (firstIterPos [⟨.Name x px,iter,ifs,0⟩] pos) (newList []) false (firstIter [⟨.Name x px,iter,ifs,0⟩] env) (some (assign (.Name y py) env))) _ _ s
  refine wpAny_bind (wpAny_mono (wp_comp ok hidx hf ht he hi hs (use:=some (assign (.Name y py) env)) (Q:=fun _ s'=>Q .next s') hA h1 h2 h4 h5 R₀ tk fun s1 s' Av' Mu' D C R1 S1 P hC hN hV=>comp_name hj hl R₀.lt R1 S1 P hC hN hV fun s3 Av3 Mu3 R3 S3=>k _ _ _ _ R3 S3 trivial) (fun _ s' hq=>wpAny_pure (wpAny_pure hq)) fun _ _ e=>e)
end
end Mine
end
section
open PySem PySem.W PyProof.Rows PySem.Builtin.Str PySem.Builtin PySem.Builtin.ObjectAttr
set_option tactic.hygienic false
namespace Mine
theorem lookup_list_append:typeLookup (.type "list") "append"=pure (some (.builtin "list.append")):=PySem.F.slot_list_append.lookup
theorem lk_md_get:typeLookup (.type "method_descriptor") "__get__"=pure (some (.builtin "method_descriptor.__get__")):=by rw [typeLookup_type,builtinLookup_eq_fast];kernel_rfl
theorem lk_md_set:typeLookup (.type "method_descriptor") "__set__"=pure none:=by rw [typeLookup_type,builtinLookup_eq_fast];kernel_rfl
theorem lk_md_del:typeLookup (.type "method_descriptor") "__delete__"=pure none:=by rw [typeLookup_type,builtinLookup_eq_fast];kernel_rfl
theorem slot_md_get:Slot "method_descriptor" "__get__" "method_descriptor.__get__":=
  .of (owner:="method_descriptor") (n:="__get__") (by rw [typeLookup_type,builtinLookup_eq_fast];kernel_rfl) (by decide+kernel) (by decide+kernel) (by decide+kernel)
    (by first | exact .inl (by decide+kernel) | exact .inr (by decide+kernel)) (by rw [isSubtype_type];kernel_rfl)
theorem entry_md_get:entryFor table "method_descriptor.__get__"=some Builtin.«method_descriptor.__get__» :=entryFor_of_tree (by kernel_rfl)
theorem args_md_get (a b c:Value):argsOk "method_descriptor.__get__" ⟨[a,b,c],[]⟩:=by unfold argsOk;kernel_rfl
theorem sub_list_list:isSubtype (.type "list") (.type "list")=pure true:=by rw [isSubtype_type];kernel_rfl
theorem run_md_get {M:Model} {A:Around} {E:Value→Shared→Prop} {s:Shared} {a:Addr} {P:Fin→Shared→Prop} (hT:s.TypeIs (.ref a) "list") (h:P (.done (.ret (.ref s.heap.objs.size))) { s with heap:=s.heap.push (appObj a) }):
    wpAny M A (Builtin.«method_descriptor.__get__» ⟨[.builtin "list.append",.ref a,.type "list"],[]⟩) P E s:=by
  unfold Builtin.«method_descriptor.__get__»
  refine wpAny_bind (wpAny_of_eq (a:=(.builtin "list.append",some (.ref a),some (.type "list"))) (by first | rfl | kernel_rfl) ?_)
  dsimp only
  refine KFB.if_not (by decide+kernel) ?_
  have key:∀Q:Unit→Shared→Prop,Q () s→wpAny M A ((kfb_private% "checkInstance") (.builtin "list.append") (.ref a)) Q E s:=fun Q hQ=>by
    show wpAny M A (bind ((kfb_private% "nameAndClass") (.builtin "list.append")) _) Q E s
    refine wpAny_bind (wpAny_of_eq (a:=(PySem.Str.ofString "append",.type "list")) (by first | rfl | kernel_rfl) ?_)
    show wpAny M A (bind (isInstance (.ref a) (.type "list")) _) Q E s
    refine wpAny_bind (wpAny_isInstance hT sub_list_list ?_)
    exact wpAny_pure hQ
  show wpAny M A (bind ((kfb_private% "checkInstance") (.builtin "list.append") (.ref a)) _) P E s
  refine wpAny_bind (key _ ?_)
  show wpAny M A (bind (newFields "builtin_function_or_method" [.builtin "list.append",.ref a]) _) P E s
  exact wpAny_bind (wpAny_newObj_type (wpAny_pure h))
set_option maxHeartbeats 4000000 in
theorem getAttr_append {prog:Program} {w:World} {A:Around} {E:Value→Shared→Prop} {s:Shared} {a:Addr} {xs:Array Value} {k:Nat} {Q:Value→Shared→Prop}
    (hx:s.heap.get? a=some { cls:=.type "list",data:=.seq xs k })
    (h:∀tk,Q (.ref s.heap.objs.size) { s with heap:=s.heap.push (appObj a),toks:=tk }):
    wpAny (model prog w) A (getAttr (.ref a) "append" true) Q E s:=by
  obtain ⟨hp,g,d,tk,os⟩:=s
  have hT:∀tk',(⟨hp,g,d,tk',os⟩:Shared).TypeIs (.ref a) "list":=fun _=>⟨_,hx,rfl⟩
  have f3:=F.slot_list_getattribute.lookup
  have f4:=F.slot_list_getattribute.bind (.ref a)
  have f5:=am_list_getattr_none
  have f6:=lookup_list_append
  have f7:=PySem.F.type_list_append
  have f8:=lk_md_get
  have f9:=lk_md_set
  have f10:=lk_md_del
  unfold getAttr getAttrBy
  repeat (any_goals (first | assumption | exact hT _ | wp_step))
  refine codeAny_call_builtin F.slot_list_getattribute.plain am_entry_list_getattribute (F.slot_list_getattribute.check _ _ _ _ _ _ _ _ (hT (tk+1)) (F.args_list_getattribute_2 _ _) ?_)
  unfold Builtin.«object.__getattribute__»
  repeat (any_goals (first | assumption | exact hT _ | wp_step))
  refine codeAny_call_builtin slot_md_get.plain entry_md_get (slot_md_get.check _ _ _ _ _ _ _ _ (by first | exact PySem.F.type_list_append | skip) (args_md_get _ _ _) (run_md_get (hT _) ?_))
  exact wpAny_pure (wpAny_pure (h (tk+1)))
end Mine
end
section
open PySem PySem.W PyProof.Rows PySem.Builtin.Str
set_option tactic.hygienic false
namespace Mine
section
variable {prog:Program} {w:World} {A:Around} {E:Value→Shared→Prop} {s:Shared}
theorem callWith_app {M:Model} {pos:Pos} {u a:Addr} {args:List (Bool×Sem Value)} {Q:Value→Shared→Prop} (hplain:args.any (·.1)=false)
    (h:wpAny M A (evalArgs (.ref u) true args []) (fun x s₁=>s₁.heap.get? u=some (appObj a)∧wpAny M A (call (.ref u) x.pos x.kw) Q E s₁) E s):wpAny M A (callWith pos (.ref u) [] args []) Q E s:=by
  unfold callWith
  refine wpAny_bind (wpAny_holding (wpAny_mono h (fun x s₁ h₁=>wpAny_bind (wpAny_standAt ?_)) fun _ _ x=>x))
  obtain ⟨ho,hcall⟩:=h₁
  simp only [hplain,List.any_nil,Bool.or_false]
  refine wpAny_bind (m:=keeperOf (.ref u)) ?_
  unfold keeperOf
  refine wpAny_bind (wpAny_load ho ?_)
  simp only [show (Value.type "builtin_function_or_method" != Value.type "method")=true by decide,show (Value.type "builtin_function_or_method"==Value.type "builtin_function_or_method"||Value.type "builtin_function_or_method"==Value.type "method-wrapper")=true by decide,if_true]
  refine wpAny_pure ?_
  exact wpAny_bind (wpAny_mono hcall (fun r s₂ hr=>wpAny_bind (wpAny_holding (wpAny_point (wpAny_pure hr)))) fun _ _ x=>x)
theorem sig_app:Manifest.signature? "list.append"=some ⟨.oneArg,"list.append","append",.self,[⟨"object",.posOnly,true⟩]⟩:=by
  rw [signature?_of (id:="list.append") (n:=['d','n','e','p','p','a']) (o:=['t','s','i','l']) (by kernel_rfl) _root_.PySem.F.owner_list];kernel_rfl
theorem kind_app:builtinKind "list.append"=some .method:=by first | decide+kernel | kernel_rfl
theorem sub_list_module:isSubtype (.type "list") (.type "module")=pure false:=by rw [isSubtype_type];kernel_rfl
theorem args_app {a:Addr} {v:Value}:Bind.checkArgs "list.append" ⟨.oneArg,s!"{Bind.lastOf "list"}.{Bind.lastOf "list.append"}","append",.self,[⟨"object",.posOnly,true⟩]⟩ ⟨[.ref a,v],[]⟩=pure ():=by first | kernel_rfl | rfl
theorem check_app_w {M:Model} {a:Addr} {vs:List Value} {n:Nat} {v:Value} {Q:Unit→Shared→Prop} (g:s.heap.get? a=some (listObj vs n)) (h:Q () s):wpAny M A (checkBoundCall "list.append" ⟨[.ref a,v],[]⟩) Q E s:=by
  have hT:s.TypeIs (.ref a) "list":=⟨_,g,rfl⟩
  unfold checkBoundCall
  rw [sig_app,kind_app]
  dsimp only
  rw [if_neg (by decide)]
  refine wpAny_bind (wpAny_isInstance hT sub_list_module ?_)
  rw [if_neg (by decide+kernel)]
  have ht:∀Q:Bool→Shared→Prop,Q false s→wpAny M A (isType (.ref a)) Q E s:=fun Q hQ=>by
    unfold isType
    exact wpAny_bind (wpAny_loadPart g (wpAny_pure hQ))
  refine wpAny_bind (ht _ ?_)
  rw [if_neg (by decide)]
  refine wpAny_bind (wpAny_typeOf hT ?_)
  exact wpAny_of_eq args_app h
theorem quiet_app {as:Args}:(Code.builtin "list.append" as).quiet=true:=Code.quiet_builtin _ (by decide+kernel)
theorem call_app {u l:Addr} {vs:List Value} {n:Nat} {x:Value} {Q:Value→Shared→Prop} (hu:s.heap.get? u=some (appObj l)) (g:s.heap.get? l=some (listObj vs n)) (hsz:vs.length≤16777216)
    (hQ:∀h' n',h'.get? l=some (listObj (vs++[x]) n')→Heap.SameBut l s.heap h'→Q .none { s with heap:=h' }):
    wpAny (model prog w) A (call (.ref u) [x]) Q E s:=by
  obtain ⟨n',g'⟩:=upd_obj (f:=(·.push x)) (us:=vs++[x]) g (by simp)
  refine wpAny_call (codeAny_of_tree ?_)
  show wpAny _ A.in1 (callAny (.ref u) ⟨[x],[]⟩) _ _ s
  simp only [callAny]
  refine wpAny_bind (wpAny_load hu ?_)
  simp only [show (Value.type "builtin_function_or_method"==Value.type "method"||Value.type "builtin_function_or_method"==Value.type "builtin_function_or_method"||Value.type "builtin_function_or_method"==Value.type "method-wrapper")=true by decide,if_true]
  refine KFB.if_so (by decide) ?_
  refine wpAny_bind (check_app_w g ?_)
  refine wpAny_bind (wpAny_pure (wpAny_pure ?_))
  refine ⟨quiet_app,codeAny_builtin entry_list_append ?_⟩
  show wpAny _ _ (updateSeq l (·.push x)>>=fun _=>ret .none) _ _ s
  refine wpAny_bind ?_
  exact wpAny_updateSeq g rfl (wpAny_pure (hQ _ n' g' (Heap.SameBut.update ..))) (by show vs.toArray.size≤sizeLine;rw [List.size_toArray];exact hsz)
end
section
variable {X:Cx} {F:FI} {d:Nat}
noncomputable def isOwn:Option Bind→Bool
  | some (.own _)=>true
  | _=>false
noncomputable def methIs (j:Nat):Option Bind→Bool
  | some (.meth k)=>k==j
  | _=>false
theorem methIs_spec {j:Nat} {o:Option Bind} (h:methIs j o=true):o=some (.meth j):=by
  unfold methIs at h
  split at h
  · rw [beq_iff_eq.mp h]
  · cases h
noncomputable def setMeth (i j:Nat):EvS:=fun st=>if i≠j∧isOwn st[j]? =true then some (.next,st.set i (.meth j)) else none
set_option tactic.hygienic true in
theorem x_meth {x y:Str} {i j:Nat} {p apos px pos:Pos} (hi:F.names[i]? =some x) (hl:F.Wr x) (hj:F.names[j]? =some y) (hn:autoParam ((y==("__classdict__":Str))=false) Mine.au3._auto_1) (hd:autoParam ((y==("__debug__":Str))=false) Mine.au3._auto_1)
    (hs:autoParam (∀env,swapsWith (.Attribute (.Name y p) "append" apos) (some (.Name x px)) pos.line env=pure false) Mine.au4._auto_1):
    SoundX X F d (.Assign [.Name x px] (.Attribute (.Name y p) "append" apos) pos) (setMeth i j):=by
  refine @SoundU.intro _ _ _ _ _ _ _ _ ?_
  intro A Av Mu env st st' s v Q E hA hf R₀ tk k
  unfold setMeth at hf
  split at hf
  case isFalse=>cases hf
  rename_i hc
  cases hf
  obtain ⟨hij,hc⟩:=hc
  unfold isOwn at hc
  split at hc
  case h_2=>cases hc
  rename_i xs e0
  obtain ⟨l,vs,n,hv,g,hm,z⟩:=R₀.vars j y _ hj e0
  refine wpAny_Assign_Name (Attribute_name (wpAny_Name (wp_load R₀ hv hn ?_) hd)) (hs env)
  refine getAttr_append g fun tk'=>?_
  have R1:R X F Av Mu env st { s with heap:=s.heap.push (appObj l),toks:=tk' }:=R₀.grow (Grow.push _)
  have hv1:=hv.keep (env:=env) (h':=s.heap.push (appObj l)) fun a o e _=>Heap.get?_push_of_some _ e
  refine wp_store R1 hi (b:=.meth j) ⟨_,l,rfl,Heap.get?_push_size _ rfl,fun q=>absurd (R₀.lt _ q) (Nat.lt_irrefl _),fun e=>hij e.symm,fun y' ys hy' hs'=>?_⟩ hl fun s2 R2 S2=>?_
  · have:y'=y:=Option.some.inj (hy'.symm.trans hj)
    subst this
    exact hv1
  · exact k _ _ _ _ R2 ((Step.ofGrow (Grow.push _)).trans S2 R₀.lt) trivial
noncomputable def addF (i j:Nat) (f:EvE):EvS:=fun st=>if methIs j st[i]? =true then (match f st with
    | some (a,st1)=>if methIs j st1[i]? =true then (match st1[j]? with
      | some (.own xs)=>if xs.length≤16777215 then some (.next,st1.set j (.own (xs++[a]))) else none
      | _=>none) else none
    | none=>none) else none
set_option tactic.hygienic true in
theorem x_add {x:Str} {i j:Nat} {p pos pos':Pos} {e:Expr} {f:EvE} (h:SoundE X F d e f) (hi:F.names[i]? =some x) (hj:j < F.names.length)
    (hp:autoParam (∀env,starEach [e] env=[(false,eval e env)]) Mine.au4._auto_1)
    (hn:autoParam ((x==("__classdict__":Str))=false) Mine.au3._auto_1) (hd:autoParam ((x==("__debug__":Str))=false) Mine.au3._auto_1)
    (hi2:autoParam (∀env:Env,env.scope.kind=.function→interactive env=false) Mine.au6._auto_1):
    SoundX X F d (.Expr (.Call (.Name x p) [e] [] pos) pos') (addF i j f):=by
  refine @SoundU.intro _ _ _ _ _ _ _ _ ?_
  intro A Av Mu env st st' s v Q E hA hf R₀ tk k
  unfold addF at hf
  split at hf
  case isFalse=>cases hf
  rename_i e0
  split at hf
  case h_2=>cases hf
  rename_i a st1 h1
  split at hf
  case isFalse=>cases hf
  rename_i e2
  split at hf
  case h_2=>cases hf
  rename_i xs e1
  split at hf<;>cases hf
  rename_i hlen
  have e0:=methIs_spec e0
  have e2:=methIs_spec e2
  obtain ⟨m,l,hv,g,na,w⟩:=R₀.vars i x _ hi e0
  have hy:F.names[j]? =some F.names[j]:=List.getElem?_eq_getElem hj
  refine wpAny_Expr ?_ (hi2 env (by rw [R₀.sc];exact R₀.fn)) rfl
  show wpAny _ _ (do callWith pos (←eval (.Name x p) env) [] (backTo pos (starEach [e] env)) (backToKw pos (keywordEach [] env))) _ _ _
  refine wpAny_bind (wpAny_Name (wp_load R₀ hv hn ?_) hd)
  rw [hp]
  refine callWith_app (a:=l) rfl (Calls.evalArgs_plain (Calls.spliced_cons (h _ hA h1 R₀ tk fun va s1 Av1 Mu1 R1 S1 V1 tk1=>Calls.spliced_nil ?_)))
  obtain ⟨m',l',hv',g',na',w'⟩:=R1.vars i x _ hi e2
  have:Value.ref m=.ref m':=(S1.vals _ _ hv).unique hv'
  cases this
  have g1:s1.heap.get? m=some (appObj l):=S1.keep _ _ g fun q=>na (R₀.ma _ q)
  rw [g1] at g'
  have:l=l':=by injection g' with g';injection g' with _ _ g' _;injection g' with g';simpa using g'
  subst this
  obtain ⟨l2,vs,n,hv2,g2,hm2,z2⟩:=R1.vars j _ _ hy e1
  have:Value.ref l2=.ref l:=hv2.unique (w' _ _ hy e1)
  cases this
  refine ⟨g1,call_app g1 g2 (by rw [z2.length];lia) fun h' n2 g3 sb=>?_⟩
  obtain ⟨R2,S2⟩:=R1.turnOwn (tk:=s1.toks) hy e1 hv2 sb g3 (z2.append (VRs.cons V1 VRs.nil))
  exact k _ _ _ _ R2 (S1.toStep.trans S2 R₀.lt) trivial
end
end Mine
end
section
open PySem PySem.W PyProof.Rows PySem.Builtin.Str
set_option tactic.hygienic false
namespace Mine
noncomputable def augOp (op:Operator) (a b:PV):Option PV:=match op with
  | .Add=>(onI a b fun a b=>some (.int (a+b))).or (addS a b)
  | .Mult=>mulI a b
  | _=>none
section
variable {X:Cx} {F:FI} {d:Nat}
section
variable {A:Around} {Av:Addr→Prop} {s:Shared} {Q:Value→Shared→Prop} {E:Value→Shared→Prop}
theorem augOp_w {op:Operator} {a b c:PV} {va vb:Value} (h:augOp op a b=some c) (ha:VR s.heap Av va a) (hb:VR s.heap Av vb b) (k:∀v s',Grow s s'→VR s'.heap Av v c→Q v s'):
    wpAny (model X.prog X.w) A (inplaceOp op va vb) Q E s:=by
  cases op with
  | Add=>
    rcases or_some h with h | h
    · obtain ⟨x,y,rfl,rfl,h⟩:=onI_some h
      obtain ⟨t,rfl⟩:=ha.int_of
      obtain ⟨u,rfl⟩:=hb.int_of
      cases h
      exact P.iadd_int (k _ _ .toks VR.int')
    · obtain ⟨a,b,rfl,rfl,h⟩:=onS_some h
      obtain ⟨t,rfl⟩:=ha.str_of
      obtain ⟨u,rfl⟩:=hb.str_of
      obtain ⟨hlen,rfl⟩:=when_some h
      refine P.iadd_str ?_
      by_cases h1:(a.length==0)=true
      · rw [if_pos h1]
        exact k _ _ (Grow.refl s) (str_empty_add h1 ▸ VR.str')
      · rw [if_neg h1]
        by_cases h2:(b.length==0)=true
        · rw [if_pos h2]
          exact k _ _ (Grow.refl s) (str_add_empty h2 ▸ VR.str')
        · rw [if_neg h2]
          exact ⟨by rw [PySem.Str.length_append];exact hlen,k _ _ .toks VR.str'⟩
  | Mult=>
    obtain ⟨x,y,rfl,rfl,h⟩:=onI_some h
    obtain ⟨t,rfl⟩:=ha.int_of
    obtain ⟨u,rfl⟩:=hb.int_of
    obtain ⟨hl,rfl⟩:=when_some h
    exact P.imul_int (k _ _ .toks VR.int') (IntMulOk.of_left (intBits_le hl))
  | _=>cases h
end
noncomputable def augF (i:Nat) (op:Operator) (f:EvE):EvS:=bindE (getV i) fun a=>bindE f fun b=>bindE (liftE (augOp op a b)) fun r=>setV i r
theorem x_aug {x:Str} {i:Nat} {px pos:Pos} {op:Operator} {e:Expr} {f:EvE} (h:SoundE X F d e f) (hi:F.names[i]? =some x) (hl:F.Wr x) (hn:autoParam ((x==("__classdict__":Str))=false) Mine.au3._auto_1):
    SoundX X F d (.AugAssign (.Name x px) op e pos) (augF i op f):=by
  refine @SoundU.intro _ _ _ _ _ _ _ _ ?_
  intro A Av Mu env st st' s v Q E hA hf R₀ tk k
  refine bindE_elim hf fun a st1 h1 hf1=>?_
  refine bindE_elim hf1 fun b st2 h2 hf2=>?_
  refine bindE_elim hf2 fun r st3 h3 hf3=>?_
  obtain ⟨h4,e4⟩:=liftE_some h3
  subst e4
  cases hf3
  refine wpAny_AugAssign_Name (wp_getV R₀ hi h1 hn fun va Av1 Mu1 R1 S1 V1=>h _ hA h2 R1 tk fun vb s2 Av2 Mu2 R2 S2 V2 tk2=>?_)
  refine augOp_w h4 (V1.step S2.toStep R1.ma) V2 fun v' s3 G V=>wp_store (R2.grow G) hi (b:=.froz r) V hl fun s4 R4 S4=>?_
  exact k _ _ _ _ R4 ((((S1.toStep.trans S2.toStep R₀.lt).trans (Step.ofGrow G) R₀.lt)).trans S4 R₀.lt) trivial
noncomputable def SoundJ (X:Cx) (F:FI) (d:Nat) (es:List Expr) (g:Str→EvE):Prop:=∀out:Str,SoundT X F d VR (fun env=>joinParts out (evalEach es env)) (g out)
theorem j_nil:SoundJ X F d [] (fun out=>if out.length≤16777216 then pureE (.str out) else fun _=>none):=by
  intro out
  refine @SoundT.intro _ _ _ _ _ _ _ _ ?_
  intro A Av Mu env st st' s v Q E hA hf R₀ tk k
  dsimp only at hf
  split at hf<;>cases hf
  exact joinParts_nilE (joinParts_nil (k _ _ _ _ R₀.toks (StepE.ofGrow .toks) VR.str') ‹_›)
noncomputable def partOf:PV→Option Str
  | .str y=>some y
  | _=>none
set_option tactic.hygienic true in
theorem j_cons {e:Expr} {es:List Expr} {f:EvE} {g:Str→EvE} (h:SoundE X F d e f) (h':SoundJ X F d es g):
    SoundJ X F d (e::es) (fun out=>bindE f fun p=>bindE (liftE (partOf p)) fun y=>if (out++y).length≤16777216 then g (out++y) else fun _=>none):=by
  intro out
  refine @SoundT.intro _ _ _ _ _ _ _ _ ?_
  intro A Av Mu env st st' s v Q E hA hf R₀ tk k
  refine bindE_elim hf fun a st1 h1 hf1=>?_
  refine bindE_elim hf1 fun y st2 h2 hf2=>?_
  obtain ⟨h4,e4⟩:=liftE_some h2
  subst e4
  split at hf2
  case isFalse=>cases hf2
  rename_i hlen
  refine joinParts_consE (joinParts_cons (h _ hA h1 R₀ tk fun va s1 Av1 Mu1 R1 S1 V1 tk1=>?_))
  unfold partOf at h4
  split at h4<;>cases h4
  unfold VR at V1
  obtain ⟨t,rfl⟩:=V1
  exact ⟨hlen,h' _ _ hA hf2 R1 tk1 fun vb s2 Av2 Mu2 R2 S2 V2 tk2=>k _ _ _ _ R2 (S1.trans S2 R₀.lt) V2⟩
theorem s_fstr {e₁ e₂:Expr} {es:List Expr} {pos:Pos} {g:Str→EvE} (h:SoundJ X F d (e₁::e₂::es) g):SoundE X F d (.JoinedStr (e₁::e₂::es) pos) (g Str.empty):=by
  refine @SoundT.intro _ _ _ _ _ _ _ _ ?_
  intro A Av Mu env st st' s v Q E hA hf R₀ tk k
  refine JoinedStr_many ?_
  exact h Str.empty _ hA hf R₀ tk fun vb s2 Av2 Mu2 R2 S2 V2 tk2=>k _ _ _ _ R2 S2 V2
noncomputable def fmtOf:PV→Option PV
  | .str y=>if y.length≤16777216 then some (.str y) else none
  | _=>none
theorem s_fval {e:Expr} {pos:Pos} {f:EvE} (h:SoundE X F d e f):SoundE X F d (.FormattedValue e (-1) none pos) (bindE f fun p=>liftE (fmtOf p)):=by
  refine @SoundT.intro _ _ _ _ _ _ _ _ ?_
  intro A Av Mu env st st' s v Q E hA hf R₀ tk k
  refine bindE_elim hf fun a st1 h1 hf1=>?_
  obtain ⟨h4,e4⟩:=liftE_some hf1
  subst e4
  refine FormattedValue_plain (h _ hA h1 R₀ tk fun va s1 Av1 Mu1 R1 S1 V1 tk1=>?_)
  unfold fmtOf at h4
  split at h4<;>(try cases h4)
  split at h4<;>cases h4
  unfold VR at V1
  obtain ⟨t,rfl⟩:=V1
  refine formatField_str (fun t' tk'=>?_) ‹_›
  exact k _ _ _ _ (R1.grow .toks) (S1.trans (StepE.ofGrow .toks) R₀.lt) VR.str'
set_option genInjectivity false in
inductive El where
  | froz (p:PV)
  | own (xs:List PV)
inductive Pend (h:Heap) (Av Mu:Addr→Prop) (lo:Nat):List Value→List El→Prop
  | nil:Pend h Av Mu lo [] []
  | froz {v:Value} {vs:List Value} {p:PV} {es:List El}:VR h Av v p→Pend h Av Mu lo vs es→Pend h Av Mu lo (v::vs) (.froz p::es)
  | own {a:Addr} {us:List Value} {n:Nat} {xs:List PV} {vs:List Value} {es:List El}:h.get? a=some (listObj us n)→Av a→¬ Mu a→lo≤a→VRs h Av us xs→Value.ref a ∉ vs→Pend h Av Mu lo vs es→Pend h Av Mu lo (.ref a::vs) (.own xs::es)
theorem Pend.length {h:Heap} {Av Mu:Addr→Prop} {lo:Nat} {vs:List Value} {es:List El} (p:Pend h Av Mu lo vs es):vs.length=es.length:=by
  induction p with
  | nil=>rfl
  | froz _ _ ih=>simp [ih]
  | own _ _ _ _ _ _ _ ih=>simp [ih]
theorem Pend.move {h h':Heap} {Av Mu Av' Mu':Addr→Prop} {lo lo':Nat} {vs:List Value} {es:List El} (p:Pend h Av Mu lo vs es) (hk:∀a o,h.get? a=some o→¬ Mu a→h'.get? a=some o) (ma:∀a,Mu a→Av a)
    (ha:∀a,a < h.objs.size→¬ Av a→¬ Av' a) (ha':∀a,Value.ref a∈vs→Av a→¬ Mu a→a < h.objs.size→Av' a∧¬ Mu' a) (hs:h.objs.size≤h'.objs.size) (hlo:lo'≤lo):Pend h' Av' Mu' lo' vs es:=by
  induction p with
  | nil=>exact .nil
  | froz v _ ih=>exact .froz (v.mono (fun a o e n=>hk a o e fun q=>n (ma a q)) ha hs) (ih fun a q=>ha' a (List.mem_cons_of_mem _ q))
  | own g a m l z ne _ ih=>
    obtain ⟨q1,q2⟩:=ha' _ List.mem_cons_self a m (Heap.lt_size g)
    exact .own (hk _ _ g m) q1 q2 (Nat.le_trans hlo l) (z.mono (fun a o e n=>hk a o e fun q=>n (ma a q)) ha hs) ne (ih fun a q=>ha' a (List.mem_cons_of_mem _ q))
theorem Pend.step {Av Mu Av' Mu':Addr→Prop} {s s':Shared} {lo:Nat} {vs:List Value} {es:List El} (S:Step Av Mu s Av' Mu' s') (ma:∀a,Mu a→Av a) (p:Pend s.heap Av Mu lo vs es):Pend s'.heap Av' Mu' lo vs es:=
  p.move S.keep ma (fun a l n q=>(S.av a q).elim n fun z=>absurd l (Nat.not_lt.mpr z)) (fun a _ h n l=>⟨S.av' a h n,fun q=>(S.mu a q).elim n fun z=>absurd l (Nat.not_lt.mpr z)⟩) S.size (Nat.le_refl _)
noncomputable def SoundVs (X:Cx) (F:FI) (d:Nat) (es:List Expr) (f:St→Option (List El×St)):Prop:=
  ∀(A:Around) {pos:Pos} {Av Mu:Addr→Prop} {env:Env} {st st':St} {s:Shared} {v:List El} {Q:List Value→Shared→Prop} {E:Value→Shared→Prop},
    Room d A→f st=some (v,st')→R X F Av Mu env st s→1≤s.toks→
    (∀x s' Av' Mu',R X F Av' Mu' env st' s'→StepE env Av Mu s Av' Mu' s'→Pend s'.heap Av' Mu' s.heap.objs.size x v→(∀a,Value.ref a∈x→¬ (Av a∧¬ Mu a))→1≤s'.toks→Q x s')→wpAny (model X.prog X.w) A (spliced (backTo pos (starEach es env))) Q E s
theorem vs_nil:SoundVs X F d [] (pureE []):=by
  intro A pos Av Mu env st st' s v Q E hA hf R₀ tk k
  cases hf
  exact Calls.spliced_nil (k _ _ _ _ R₀ StepE.refl .nil (fun a q=>by cases q) tk)
theorem VR.ref {h:Heap} {Av:Addr→Prop} {a:Addr} {p:PV} (x:VR h Av (.ref a) p):¬ Av a:=by
  cases p<;>unfold VR at x
  · cases x
  · cases x
  · obtain ⟨t,e⟩:=x;cases e
  · obtain ⟨t,e⟩:=x;cases e
  · obtain ⟨e,n,_⟩:=x;cases e;exact n
  · obtain ⟨b,vs,n,e,_,n,_⟩:=x;cases e;exact n
  · obtain ⟨b,vs,n,e,_,n,_⟩:=x;cases e;exact n
  · obtain ⟨b,_,_,_,e,_,n⟩:=x;cases e;exact n
theorem vs_froz {e:Expr} {es:List Expr} {f:EvE} {g:St→Option (List El×St)} (h:SoundE X F d e f) (h':SoundVs X F d es g) (hp:autoParam (∀env,starEach (e::es) env=(false,eval e env)::starEach es env) Mine.au4._auto_1):
    SoundVs X F d (e::es) (bindE f fun a=>bindE g fun as=>pureE (.froz a::as)):=by
  intro A pos Av Mu env st st' s v Q E hA hf R₀ tk k
  refine bindE_elim hf fun a st1 h1 hf=>?_
  refine bindE_elim hf fun as st2 h2 hf=>?_
  cases hf
  rw [hp]
  refine Calls.spliced_cons (h _ hA h1 R₀ tk fun va s1 Av1 Mu1 R1 S1 V1 tk1=>h' _ hA h2 R1 tk1 fun vb s2 Av2 Mu2 R2 S2 P2 ne tk2=>?_)
  refine k _ _ _ _ R2 (S1.trans S2 R₀.lt) (.froz (V1.step S2.toStep R1.ma) (P2.move (fun _ _ e _=>e) R2.ma (fun _ _ n=>n) (fun _ _ a b _=>⟨a,b⟩) (Nat.le_refl _) S1.size)) (fun b q=>?_) tk2
  rintro ⟨q1,q2⟩
  have hlt:=R₀.lt b q1
  have q3:=S1.av' b q1 q2
  rcases List.mem_cons.mp q with q | q
  · exact (q ▸ V1).ref q3
  · exact ne b q ⟨q3,fun z=>(S1.mu b z).elim q2 fun z=>absurd hlt (Nat.not_lt.mpr z)⟩
set_option tactic.hygienic true in
theorem vs_own {ds es:List Expr} {pos2:Pos} {f:St→Option (List PV×St)} {g:St→Option (List El×St)} (h:SoundEs X F d ds f) (h':SoundVs X F d es g) (hp:autoParam (∀env,starEach (.List ds pos2::es) env=(false,eval (.List ds pos2) env)::starEach es env) Mine.au4._auto_1):
    SoundVs X F d (.List ds pos2::es) (bindE f fun a=>bindE g fun as=>if a.length≤16777216 then pureE (.own a::as) else fun _=>none):=by
  intro A pos Av Mu env st st' s v Q E hA hf R₀ tk k
  refine bindE_elim hf fun a st1 h1 hf=>?_
  refine bindE_elim hf fun as st2 h2 hf=>?_
  split at hf
  case isFalse=>cases hf
  rename_i hlen
  cases hf
  rw [hp]
  refine Calls.spliced_cons (List_ (h pos2 _ hA h1 R₀ tk fun va s1 Av1 Mu1 R1 S1 V1 tk1=>wpAny_newObj_type ?_ (by show va.toArray.size≤sizeLine;rw [List.size_toArray,V1.length];exact hlen)))
  have gD:(s1.heap.push (listObj va 0)).get? s1.heap.objs.size=some (listObj va 0):=Heap.get?_push_size _ rfl
  have nMu:¬ Mu1 s1.heap.objs.size:=fun q=>absurd (R1.lt _ (R1.ma _ q)) (Nat.lt_irrefl _)
  refine h' _ hA h2 (R1.fresh (listObj va 0)) tk1 fun vb s2 Av2 Mu2 R2 S2 P2 ne tk2=>?_
  have V1':VRs (s1.heap.push (listObj va 0)) (fun a=>Av1 a∨a=s1.heap.objs.size) va a:=V1.mono (fun a o e _=>Heap.get?_push_of_some _ e) (fun a l n q=>q.elim n fun z=>Nat.lt_irrefl _ (z ▸ l)) (by rw [Heap.size_push];exact Nat.le_succ _)
  have S1':StepE env Av1 Mu1 s1 (fun a=>Av1 a∨a=s1.heap.objs.size) Mu1 { s1 with heap:=s1.heap.push (listObj va 0) }:=⟨Step.fresh _,fun x u q=>q.keep fun a o e _=>Heap.get?_push_of_some _ e⟩
  have T:=(S1.trans S1' R₀.lt).trans S2 R₀.lt
  have hlt:s1.heap.objs.size < (s1.heap.push (listObj va 0)).objs.size:=by rw [Heap.size_push];exact Nat.lt_succ_self _
  refine k _ _ _ _ R2 T (.own (S2.keep _ _ gD nMu) (S2.av' _ (.inr rfl) nMu) (fun q=>(S2.mu _ q).elim nMu fun z=>absurd hlt (Nat.not_lt.mpr z)) S1.size (V1'.step S2.toStep fun a q=>.inl (R1.ma a q)) (fun q=>ne _ q ⟨.inr rfl,nMu⟩)
    (P2.move (fun _ _ e _=>e) R2.ma (fun _ _ n=>n) (fun _ _ a b _=>⟨a,b⟩) (Nat.le_refl _) (Nat.le_trans S1.size (Nat.le_of_lt hlt)))) (fun b q=>?_) tk2
  rintro ⟨q1,q2⟩
  have hlt0:=R₀.lt b q1
  rcases List.mem_cons.mp q with q | q
  · cases q
    exact absurd hlt0 (Nat.not_lt.mpr S1.size)
  · exact ne b q ⟨.inl (S1.av' b q1 q2),fun z=>(S1.mu b z).elim q2 fun z=>absurd hlt0 (Nat.not_lt.mpr z)⟩
noncomputable def setEls:List Nat→List El→St→Option St
  | [],[],st=>some st
  | i::is,.froz p::es,st=>setEls is es (st.set i (.froz p))
  | i::is,.own xs::es,st=>if noMeth i st=true then setEls is es (st.set i (.own xs)) else none
  | _,_,_=>none
inductive Stores (env:Env):List (Value→Sem Unit)→List Str→Prop
  | nil:Stores env [] []
  | cons {f:Value→Sem Unit} {fs:List (Value→Sem Unit)} {x:Str} {xs:List Str}:(∀{M:Model} {A:Around} {v:Value} {Q:Unit→Shared→Prop} {E:Value→Shared→Prop} {s:Shared},wpAny M A (storeName env x v) Q E s→wpAny M A (f v) Q E s)→Stores env fs xs→Stores env (f::fs) (x::xs)
set_option tactic.hygienic true in
theorem storeAll {env:Env} {A:Around} {M:Model} {E:Value→Shared→Prop} {Q:Unit→Shared→Prop} {Av₀ Mu₀:Addr→Prop} {s₀:Shared} (lt₀:∀a,Av₀ a→a < s₀.heap.objs.size) {fs:List (Value→Sem Unit)} {xs:List Str} (hS:Stores env fs xs):
    ∀{is:List Nat} {vs:List Value} {es:List El} {Av Mu:Addr→Prop} {st st2:St} {s:Shared},is.map (F.names[·]?)=xs.map some→(∀x∈xs,F.Wr x)→setEls is es st=some st2→Pend s.heap Av Mu s₀.heap.objs.size vs es→R X F Av Mu env st s→Step Av₀ Mu₀ s₀ Av Mu s→
      (∀s' Av' Mu',R X F Av' Mu' env st2 s'→Step Av₀ Mu₀ s₀ Av' Mu' s'→Q () s')→wpAny M A (assignInOrder fs vs) Q E s:=by
  induction hS with
  | nil=>
    intro is vs es Av Mu st st2 s hi hw hf P R₀ S₀ k
    cases is with
    | cons=>cases hi
    | nil=>
      cases P with
      | nil=>
        unfold setEls at hf
        cases hf
        exact wpAny_pure (k _ _ _ R₀ S₀)
      | froz=>cases hf
      | own=>cases hf
  | cons hx hS ih=>
    intro is vs es Av Mu st st2 s hi hw hf P R₀ S₀ k
    cases is with
    | nil=>cases hi
    | cons i is=>
      rw [List.map_cons,List.map_cons,List.cons.injEq] at hi
      have hw1:=hw _ List.mem_cons_self
      have hw2:=fun y hy=>hw y (List.mem_cons_of_mem _ hy)
      cases P with
      | nil=>cases hf
      | froz v P=>
        unfold setEls at hf
        refine wpAny_bind (wpAny_holding (hx (wp_store R₀ hi.1 (b:=.froz _) v hw1 fun s1 R1 S1=>?_)))
        exact ih hi.2 hw2 hf (P.step S1 R₀.ma) R1 (S₀.trans S1 lt₀) k
      | own g ha hm l z ne P=>
        rename_i a us n ys vs es
        unfold setEls at hf
        split at hf
        case isFalse=>cases hf
        rename_i hno
        have R1:R X F Av (fun b=>Mu b∨b=a) env st s:=R₀.keep' (fun _ _ e _=>e) (fun a t=>(R₀.tabs a t).2) (Nat.le_refl _) (fun _ h=>h) (fun _ h=>.inl h) (fun _ h=>.inl h) (fun b h=>h.elim (R₀.ma b) fun q=>q ▸ ha)
        have T1:Step Av₀ Mu₀ s₀ Av (fun b=>Mu b∨b=a) s:=⟨S₀.keep,fun b q=>q.elim (S₀.mu b) fun q=>.inr (q ▸ l),S₀.av,S₀.av',S₀.size,S₀.os,S₀.gens⟩
        have P1:Pend s.heap Av (fun b=>Mu b∨b=a) s₀.heap.objs.size vs es:=P.move (fun _ _ e _=>e) R₀.ma (fun _ _ n=>n) (fun b hb q1 q2 _=>⟨q1,fun q=>q.elim q2 fun q=>ne (q ▸ hb)⟩) (Nat.le_refl _) (Nat.le_refl _)
        refine wpAny_bind (wpAny_holding (hx (wp_store R1 hi.1 (b:=.own ys) ⟨a,us,n,rfl,g,.inr rfl,z,fun j y zs hj hy hb va=>?_,fun j=>noMeth_spec hno j⟩ hw1 fun s1 R2 S2=>?_)))
        · obtain ⟨a',_,_,p,_,m,_⟩:=R₀.vars j y _ hy hb
          have:Value.ref a'=.ref a:=p.unique va
          cases this
          exact hm m
        · exact ih hi.2 hw2 hf (P1.step S2 R1.ma) R2 (T1.trans S2 lt₀) k
end
end Mine
end
section
open PySem PySem.W PyProof.Rows PySem.Builtin.Str
set_option tactic.hygienic false
namespace Mine
theorem Pend.append {h:Heap} {Av Mu:Addr→Prop} {lo:Nat} {vs us:List Value} {es fs:List El} (p:Pend h Av Mu lo vs es) (q:Pend h Av Mu lo us fs) (cross:∀a,Value.ref a∈vs→Av a→Value.ref a ∉ us):Pend h Av Mu lo (vs++us) (es++fs):=by
  induction p with
  | nil=>exact q
  | froz v _ ih=>exact .froz v (ih fun a ha=>cross a (List.mem_cons_of_mem _ ha))
  | own g a m l z ne _ ih=>
    refine .own g a m l z (fun z=>?_) (ih fun a ha=>cross a (List.mem_cons_of_mem _ ha))
    rcases List.mem_append.mp z with z | z
    · exact ne z
    · exact cross _ List.mem_cons_self a z
theorem Pend.reverse {h:Heap} {Av Mu:Addr→Prop} {lo:Nat} {vs:List Value} {es:List El} (p:Pend h Av Mu lo vs es):Pend h Av Mu lo vs.reverse es.reverse:=by
  induction p with
  | nil=>exact .nil
  | froz v _ ih=>
    rw [List.reverse_cons,List.reverse_cons]
    refine ih.append (.froz v .nil) fun a ha hav z=>?_
    rw [List.mem_singleton] at z
    exact (z ▸ v).ref hav
  | own g a m l z ne _ ih=>
    rw [List.reverse_cons,List.reverse_cons]
    refine ih.append (.own g a m l z (by simp) .nil) fun b hb hav y=>?_
    rw [List.mem_singleton] at y
    exact ne (y ▸ List.mem_reverse.mp hb)
theorem stores_bind {env:Env}:∀xs:List Str,Stores env (xs.map fun n=>bindName env n) xs
  | []=>.nil
  | x::xs=>.cons (fun h=>bindName_ h) (stores_bind xs)
section
variable {X:Cx} {F:FI} {d:Nat}
noncomputable def tupF (is:List Nat) (g:St→Option (List El×St)):EvS:=bindE g fun es=>fun st=>if es.length=is.length∧es.length≤16777216 then (match setEls is es st with
  | some st'=>some (.next,st')
  | none=>none) else none
theorem x_tup_core {es:List Expr} {n:Nat} {vpos:Pos} {g:St→Option (List El×St)} (h:SoundVs X F d es g) {A:Around} {Av Mu:Addr→Prop} {env:Env} {st st1:St} {s:Shared} {els:List El} {Q:Value→Shared→Prop} {E:Value→Shared→Prop}
    (hA:Room d A) (hf:g st=some (els,st1)) (hlen:els.length≤16777216) (R₀:R X F Av Mu env st s) (tk:1≤s.toks)
    (k:∀t vs s' Av' Mu',IsTup s'.heap t vs.toArray→R X F Av' Mu' env st1 s'→Step Av Mu s Av' Mu' s'→Pend s'.heap Av' Mu' s.heap.objs.size vs els→Q (.ref t) s'):wpAny (model X.prog X.w) A (eval (.Tuple es n vpos) env) Q E s:=by
  refine Tuple_ (h _ hA hf R₀ tk fun vs s1 Av1 Mu1 R1 S1 P1 ne tk1=>wpAny_newObj_type ?_ (by show vs.toArray.size≤sizeLine;rw [List.size_toArray,P1.length];exact hlen))
  have G:Grow s1 { s1 with heap:=s1.heap.push (tupObj vs 0) }:=Grow.push (s:=s1) _
  refine k _ vs _ Av1 Mu1 ⟨_,Heap.get?_push_size _ rfl,rfl,_,rfl⟩ (R1.grow G) (S1.toStep.trans (Step.ofGrow G) R₀.lt) ?_
  exact P1.move (fun a o e _=>G.keep a o e) R1.ma (fun _ _ n=>n) (fun _ _ a b _=>⟨a,b⟩) G.size (Nat.le_refl _)
theorem wp_unpackItems {A:Around} {s:Shared} {t:Addr} {vs:List Value} {n:Nat} {Q:List Value→Shared→Prop} {E:Value→Shared→Prop} (hh:A.handled=none) (ht:IsTup s.heap t vs.toArray) (hn:n=vs.length)
    (k:∀s',Grow s s'→Q vs s'):wpAny (model X.prog X.w) A (unpackItems (.ref t) n none) Q E s:=by
  have e:n=vs.toArray.size:=by rw [List.size_toArray];exact hn
  subst e
  refine wpAny_mono (wpAny_size (PyProof.Rows.unpackItems_tuple (Q:=fun r s'=>r=vs∧∃h',Heap.ExtBut s.heap.objs.size s.heap h'∧s'={ s with heap:=h' }) hh ht fun h' he=>⟨by simp,h',he,rfl⟩)) (fun r s' q=>?_) fun _ _ e=>e
  obtain ⟨⟨rfl,h',he,rfl⟩,hz⟩:=q
  exact k _ ⟨fun a o e=>he a o (Nat.ne_of_lt (Heap.lt_size e)) e,hz,rfl,rfl⟩
set_option tactic.hygienic true in
theorem x_tup {elts es:List Expr} {k' n:Nat} {tpos vpos pos:Pos} {is:List Nat} {xs:List Str} {g:St→Option (List El×St)} (h:SoundVs X F d es g) (hi:is.map (F.names[·]?)=xs.map some) (hw:∀x∈xs,F.Wr x)
    (hS:∀env,Stores env ((assignEach elts env).map (·.2)) xs) (hlen:∀env,(assignEach elts env).length=is.length) (hstar:∀env,(assignEach elts env).findIdx? (·.1)=none)
    (hsw:∀env:Env,env.scope=F.scope→swappedStores [.Tuple elts k' tpos] (.Tuple es n vpos) env=pure none)
    (hs:autoParam (∀env,swapsWithSole [.Tuple elts k' tpos] (.Tuple es n vpos) pos.line env=pure false) Mine.au4._auto_1):
    SoundX X F d (.Assign [.Tuple elts k' tpos] (.Tuple es n vpos) pos) (tupF is g):=by
  refine @SoundU.intro _ _ _ _ _ _ _ _ ?_
  intro A Av Mu env st st' s v Q E hA hf R₀ tk k
  refine bindE_elim hf fun els st1 h1 hf1=>?_
  split at hf1
  case isFalse=>cases hf1
  rename_i hl
  split at hf1<;>cases hf1
  rename_i h2
  refine Assign_Tuple (x_tup_core h hA h1 hl.2 R₀ tk fun t vs s1 Av1 Mu1 ht R1 S1 P1=>?_) (hs env) (hsw env R₀.sc)
  rw [assign_Tuple]
  refine wpAny_bind (wpAny_standAt ?_)
  unfold unpack
  rw [hstar env,hlen env]
  refine wpAny_bind (wpAny_holding (wp_unpackItems hA.1 ht (by rw [P1.length,hl.1]) fun s2 G=>?_))
  refine storeAll R₀.lt (hS env) hi hw h2 (P1.move (fun a o e _=>G.keep a o e) R1.ma (fun _ _ n=>n) (fun _ _ a b _=>⟨a,b⟩) G.size (Nat.le_refl _)) (R1.grow G) (S1.trans (Step.ofGrow G) R₀.lt) fun s3 Av3 Mu3 R3 S3=>k _ _ _ _ R3 S3 trivial
set_option tactic.hygienic true in
theorem x_tupS {elts es:List Expr} {k' n:Nat} {tpos vpos pos:Pos} {is:List Nat} {xs:List Str} {g:St→Option (List El×St)} (h:SoundVs X F d es g) (hi:is.map (F.names[·]?)=xs.map some) (hw:∀x∈xs,F.Wr x)
    (hsw:∀env:Env,env.scope=F.scope→swappedStores [.Tuple elts k' tpos] (.Tuple es n vpos) env=pure (some xs))
    (hs:autoParam (∀env,swapsWithSole [.Tuple elts k' tpos] (.Tuple es n vpos) pos.line env=pure false) Mine.au4._auto_1):
    SoundX X F d (.Assign [.Tuple elts k' tpos] (.Tuple es n vpos) pos) (tupF is.reverse (bindE g fun es=>pureE es.reverse)):=by
  refine @SoundU.intro _ _ _ _ _ _ _ _ ?_
  intro A Av Mu env st st' s v Q E hA hf R₀ tk k
  refine bindE_elim hf fun els' st1 h0 hf1=>?_
  refine bindE_elim h0 fun els st0 h1 h0=>?_
  cases h0
  split at hf1
  case isFalse=>cases hf1
  rename_i hl
  split at hf1<;>cases hf1
  rename_i h2
  rw [List.length_reverse,List.length_reverse] at hl
  have hxl:is.length=xs.length:=by simpa using congrArg List.length hi
  refine Assign_Tuple_swapped (x_tup_core h hA h1 hl.2 R₀ tk fun t vs s1 Av1 Mu1 ht R1 S1 P1=>?_) (hs env) (hsw env R₀.sc)
  refine wp_unpackItems hA.1 ht (by rw [P1.length,hl.1,hxl]) fun s2 G=>?_
  refine storeAll R₀.lt (stores_bind xs.reverse) (is:=is.reverse) (by rw [List.map_reverse,List.map_reverse,hi]) (fun x hx=>hw x (List.mem_reverse.mp hx)) h2 (P1.reverse.move (fun a o e _=>G.keep a o e) R1.ma (fun _ _ n=>n) (fun _ _ a b _=>⟨a,b⟩) G.size (Nat.le_refl _)) (R1.grow G) (S1.trans (Step.ofGrow G) R₀.lt) fun s3 Av3 Mu3 R3 S3=>k _ _ _ _ R3 S3 trivial
end
end Mine
end
section
open PySem PySem.W PyProof.Rows PySem.Builtin.Str
set_option tactic.hygienic false
namespace Mine
section
variable {X:Cx} {F:FI} {d:Nat}
noncomputable def nameT (i:Nat):EvB:=fun st=>match st[i]? with
  | some (.own xs)=>if xs.length < 9223372036854775808 then some (!xs.isEmpty,st) else none
  | some (.froz p)=>(match truthOf p with
    | some b=>some (b,st)
    | none=>none)
  | _=>none
set_option tactic.hygienic true in
theorem b_name {x:Str} {p:Pos} {i:Nat} (hi:F.names[i]? =some x) (hn:autoParam ((x==("__classdict__":Str))=false) Mine.au3._auto_1) (hd:autoParam ((x==("__debug__":Str))=false) Mine.au3._auto_1):SoundB X F d (.Name x p) (nameT i):=by
  refine @SoundT.intro _ _ _ _ _ _ _ _ ?_
  intro A Av Mu env st st' s v Q E hA hf R₀ tk k
  unfold nameT at hf
  split at hf
  · rename_i xs e
    split at hf<;>cases hf
    rename_i hlen
    obtain ⟨a,vs,n,hv,g,hm,z⟩:=R₀.vars i x _ hi e
    refine isTrue_plain (wpAny_Name (wp_load R₀ hv hn ?_) hd) rfl
    have hl:=VRs.length z
    refine wpAny_truthy_list (l:=a) (items:=vs.toArray) ⟨_,g,rfl,n,rfl⟩ (by rw [List.size_toArray];lia) ?_
    have e:(!vs.toArray.isEmpty)=(!xs.isEmpty):=by cases vs<;>cases xs<;>simp_all
    rw [e]
    exact k _ _ _ _ (R₀.grow .toks) (StepE.ofGrow .toks) rfl
  · rename_i q e
    split at hf<;>cases hf
    rename_i hb
    obtain ⟨u,hv,z⟩:=R₀.vars i x _ hi e
    refine isTrue_plain (wpAny_Name (wp_load R₀ hv hn ?_) hd) rfl
    exact truthOf_w hb z fun s' G=>k _ _ _ _ (R₀.grow G) (StepE.ofGrow G) rfl
  · cases hf
noncomputable def lenP (i:Nat):St→Option PV:=fun st=>match st[i]? with
  | some (.own xs)=>pyLen [.list xs]
  | some (.froz p)=>pyLen [p]
  | _=>none
set_option tactic.hygienic true in
theorem p_len {x f:Str} {fp p pos:Pos} {i:Nat} (hf:f="len") (hi:F.names[i]? =some x) (hx:F.scope.names.lookup f=some .globalImplicit) (hg:X.mg f=none)
    (hn:autoParam ((x==("__classdict__":Str))=false) Mine.au3._auto_1) (hd:autoParam ((x==("__debug__":Str))=false) Mine.au3._auto_1):SoundP X F d (.Call (.Name f fp) [.Name x p] [] pos) (lenP i):=by
  intro A Av Mu env st s v Q E hA hf' R₀ k
  subst hf
  show wpAny _ _ (do callWith pos (←eval (.Name "len" fp) env) [] (backTo pos (starEach [.Name x p] env)) (backToKw pos (keywordEach [] env))) _ _ _
  refine wpAny_bind (wp_bname R₀ hx hg boot_len (callArgs rfl ?_))
  show wpAny _ _ (spliced (backTo pos [(false,eval (.Name x p) env)])) _ _ _
  unfold lenP at hf'
  split at hf'
  · rename_i xs e
    obtain ⟨a,vs,n,hv,g,hm,z⟩:=R₀.vars i x _ hi e
    refine Calls.spliced_cons (wpAny_Name (wp_load R₀ hv hn (Calls.spliced_nil ?_)) hd)
    obtain ⟨hl,rfl⟩:=when_some hf'
    refine Calls.call_len_list (l:=a) (items:=vs.toArray) ⟨_,g,rfl,n,rfl⟩ (by rw [List.size_toArray,z.length];exact len_small hl) (k _ _ .toks ?_)
    rw [List.size_toArray,z.length]
    exact VR.int'
  · rename_i q e
    obtain ⟨u,hv,z⟩:=R₀.vars i x _ hi e
    refine Calls.spliced_cons (wpAny_Name (wp_load R₀ hv hn (Calls.spliced_nil ?_)) hd)
    exact f_len hA hf' R₀.lt (VRs.cons z VRs.nil) k
  · cases hf'
theorem p_str {x:Str} {k:Nat} {pos:Pos}:SoundP X F d (.Constant (.str x) k pos) (fun _=>some (.str x)):=by
  intro A Av Mu env st s v Q E hr hf r k'
  cases hf
  exact Calls.Constant_str (k' _ _ .toks VR.str')
noncomputable def setAt (j:Nat) (g:St→Option PV) (v:PV):EvS:=fun st=>match st[j]?,g st with
  | some (.own xs),some (.int i)=>if -(2 ^ 63)≤i∧i < 2 ^ 63 then (match seqIndex? i xs.length with
    | some k=>some (.next,st.set j (.own (xs.set k v)))
    | none=>none) else none
  | _,_=>none
theorem VRs.set {h:Heap} {Av:Addr→Prop} {v:Value} {p:PV}:∀{vs:List Value} {xs:List PV} {k:Nat},VRs h Av vs xs→VR h Av v p→VRs h Av (vs.set k v) (xs.set k p)
  | [],[],_,x,_=>by simp;exact x
  | [],_::_,_,x,_=>by unfold VRs at x;exact x.elim
  | _::_,[],_,x,_=>by unfold VRs at x;exact x.elim
  | _::vs,_::xs,0,x,y=>by unfold VRs at x;exact VRs.cons y x.2
  | _::vs,_::xs,k+1,x,y=>by unfold VRs at x;exact VRs.cons x.1 (VRs.set x.2 y)
theorem VRs.erase {h:Heap} {Av:Addr→Prop}:∀{vs:List Value} {xs:List PV} {k:Nat},VRs h Av vs xs→VRs h Av (vs.eraseIdx k) (xs.eraseIdx k)
  | [],[],_,x=>by simp;exact x
  | [],_::_,_,x=>by unfold VRs at x;exact x.elim
  | _::_,[],_,x=>by unfold VRs at x;exact x.elim
  | _::vs,_::xs,0,x=>by unfold VRs at x;exact x.2
  | _::vs,_::xs,k+1,x=>by unfold VRs at x;exact VRs.cons x.1 (VRs.erase x.2)
set_option tactic.hygienic true in
theorem x_setown {x:Str} {j:Nat} {p pos' pos:Pos} {slice e:Expr} {f:EvE} {g:St→Option PV} (h:SoundE X F d e f) (hx:F.names[j]? =some x) (hg:SoundP X F d slice g)
    (hs:autoParam (∀env,swapsWith e (some (.Subscript (.Name x p) slice pos')) pos.line env=pure false) Mine.au4._auto_1)
    (hn:autoParam ((x==("__classdict__":Str))=false) Mine.au3._auto_1) (hd:autoParam ((x==("__debug__":Str))=false) Mine.au3._auto_1):
    SoundX X F d (.Assign [.Subscript (.Name x p) slice pos'] e pos) (bindE f fun v=>setAt j g v):=by
  refine @SoundU.intro _ _ _ _ _ _ _ _ ?_
  intro A Av Mu env st st' s v Q E hA hf R₀ tk k
  refine bindE_elim hf fun a st1 h1 hf1=>?_
  unfold setAt at hf1
  split at hf1
  case h_2=>cases hf1
  rename_i xs i e1 e2
  split at hf1
  case isFalse=>cases hf1
  rename_i hr
  split at hf1<;>cases hf1
  rename_i kk e3
  refine wpAny_Assign_Subscript (h _ hA h1 R₀ tk fun va s1 Av1 Mu1 R1 S1 V1 tk1=>?_) (hs env)
  obtain ⟨l,vs,n,hv,gl,hm,z⟩:=R1.vars j x _ hx e1
  refine wpAny_Name (wp_load R1 hv hn (hg _ hA e2 R1 fun vi s2 G V2=>?_)) hd
  unfold VR at V2
  obtain ⟨t,rfl⟩:=V2
  have R2:=R1.grow G
  have hv2:=hv.keep (env:=env) (h':=s2.heap) fun a o e _=>G.keep a o e
  refine list_set_x (G.keep _ _ gl) hr (by rw [z.length];exact e3) fun h' n2 g2 sb=>?_
  obtain ⟨R3,S3⟩:=R2.turnOwn (tk:=s2.toks) hx e1 hv2 sb g2 (VRs.set (z.grow G) (V1.grow G))
  exact k _ _ _ _ R3 ((S1.toStep.trans (Step.ofGrow G) R₀.lt).trans S3 R₀.lt) trivial
noncomputable def augAt (j:Nat) (g:St→Option PV) (op:Operator) (f:St→Option PV):EvS:=fun st=>match st[j]?,g st,f st with
  | some (.own xs),some (.int i),some b=>if -(2 ^ 63)≤i∧i < 2 ^ 63 then (match seqIndex? i xs.length with
    | some k=>(match xs[k]? with
      | some a=>(match augOp op a b with
        | some r=>some (.next,st.set j (.own (xs.set k r)))
        | none=>none)
      | none=>none)
    | none=>none) else none
  | _,_,_=>none
set_option tactic.hygienic true in
theorem x_augown {x:Str} {j:Nat} {p pos' pos:Pos} {slice e:Expr} {op:Operator} {f g:St→Option PV} (h:SoundP X F d e f) (hx:F.names[j]? =some x) (hg:SoundP X F d slice g)
    (ha:autoParam (∀ov iv new,augStore slice ov iv new=(do holding [new,ov,iv] (setItem ov iv new);release [new,ov,iv] [];pure .next)) Mine.au7._auto_1)
    (hn:autoParam ((x==("__classdict__":Str))=false) Mine.au3._auto_1) (hd:autoParam ((x==("__debug__":Str))=false) Mine.au3._auto_1):
    SoundX X F d (.AugAssign (.Subscript (.Name x p) slice pos') op e pos) (augAt j g op f):=by
  refine @SoundU.intro _ _ _ _ _ _ _ _ ?_
  intro A Av Mu env st st' s v Q E hA hf R₀ tk k
  unfold augAt at hf
  split at hf
  case h_2=>cases hf
  rename_i xs i b e1 e2 e3
  split at hf
  case isFalse=>cases hf
  rename_i hr
  split at hf
  case h_2=>cases hf
  rename_i kk e4
  split at hf
  case h_2=>cases hf
  rename_i a e5
  split at hf<;>cases hf
  rename_i r e6
  obtain ⟨l,vs,n,hv,gl,hm,z⟩:=R₀.vars j x _ hx e1
  refine wpAny_AugAssign_SubscriptAny (wpAny_Name (wp_load R₀ hv hn (hg _ hA e2 R₀ fun vi s1 G1 V1=>?_)) hd) ha
  unfold VR at V1
  obtain ⟨t,rfl⟩:=V1
  obtain ⟨va,q1,q2⟩:=z.get e5
  refine list_item_w (X:=X) (G1.keep _ _ gl) hr (by rw [z.length];exact e4) q1 ?_
  refine h _ hA e3 (R₀.grow G1) fun vb s2 G2 V2=>?_
  refine augOp_w e6 ((q2.grow G1).grow G2) V2 fun vr s3 G3 V3=>?_
  have G:=(G1.trans G2).trans G3
  have hv2:=hv.keep (env:=env) (h':=s3.heap) fun a o e _=>G.keep a o e
  refine list_set_x (G.keep _ _ gl) hr (by rw [z.length];exact e4) fun h' n2 g2 sb=>?_
  obtain ⟨R3,S3⟩:=(R₀.grow G).turnOwn (tk:=s3.toks) hx e1 hv2 sb g2 (VRs.set (z.grow G) V3)
  exact k _ _ _ _ R3 ((Step.ofGrow G).trans S3 R₀.lt) trivial
noncomputable def delAt (j:Nat) (g:St→Option PV):EvS:=fun st=>match st[j]?,g st with
  | some (.own xs),some (.int i)=>if (-(2 ^ 63)≤i∧i < 2 ^ 63)∧xs.length≤16777216 then (match seqIndex? i xs.length with
    | some k=>some (.next,st.set j (.own (xs.eraseIdx k)))
    | none=>none) else none
  | _,_=>none
set_option tactic.hygienic true in
theorem x_delown {x:Str} {j:Nat} {p pos' pos:Pos} {slice:Expr} {g:St→Option PV} (hx:F.names[j]? =some x) (hg:SoundP X F d slice g)
    (hn:autoParam ((x==("__classdict__":Str))=false) Mine.au3._auto_1) (hd:autoParam ((x==("__debug__":Str))=false) Mine.au3._auto_1):
    SoundX X F d (.Delete [.Subscript (.Name x p) slice pos'] pos) (delAt j g):=by
  refine @SoundU.intro _ _ _ _ _ _ _ _ ?_
  intro A Av Mu env st st' s v Q E hA hf R₀ tk k
  unfold delAt at hf
  split at hf
  case h_2=>cases hf
  rename_i xs i e1 e2
  split at hf
  case isFalse=>cases hf
  rename_i hr
  split at hf<;>cases hf
  rename_i kk e3
  obtain ⟨l,vs,n,hv,gl,hm,z⟩:=R₀.vars j x _ hx e1
  refine wpAny_Delete (wpAny_deleteEach_cons (wpAny_delete_Subscript (wpAny_Name (wp_load R₀ hv hn (hg _ hA e2 R₀ fun vi s1 G1 V1=>?_)) hd)))
  unfold VR at V1
  obtain ⟨t,rfl⟩:=V1
  have hv2:=hv.keep (env:=env) (h':=s1.heap) fun a o e _=>G1.keep a o e
  refine delItem_at (k:=kk) (G1.keep _ _ gl) (by unfold Builtin.List.listFitsIndex;simp;lia) (by rw [List.size_toArray,z.length];exact e3) (fun h' sb g2=>?_) (by rw [List.size_toArray,z.length];exact hr.2)
  refine wpAny_deleteEach_nil ?_
  obtain ⟨R3,S3⟩:=(R₀.grow G1).turnOwn (tk:=s1.toks) (us:=vs.eraseIdx kk) hx e1 hv2 sb g2 (VRs.erase (z.grow G1))
  exact k _ _ _ _ R3 ((Step.ofGrow G1).trans S3 R₀.lt) trivial
end
end Mine
end
section
open PySem PySem.W PyProof.Rows PySem.Builtin.Str PySem.Builtin PySem.Builtin.ObjectAttr
set_option tactic.hygienic false
namespace Mine
theorem mro_object':mroOf (.type "object")=pure [.type "object"]:=by rw [mroOf_type];kernel_rfl
theorem lk_obj_new:typeLookup (.type "object") "__new__"=pure (some (.builtin "object.__new__")):=by rw [typeLookup_type,builtinLookup_eq_fast];kernel_rfl
theorem called_object:TypeCalled "object" "object.__new__" "object.__init__":=
  ⟨by decide+kernel,by decide+kernel,⟨_,_,mro_object'⟩,madeBy_type mro_object' lk_obj_new (by decide+kernel),by decide+kernel,by rw [isSubtype_type];kernel_rfl,PySem.F.slot_object_init⟩
theorem typeCall_object:checkTypeCall "object" ⟨[],[]⟩=pure ():=by kernel_rfl
theorem newCall_object:checkBuiltinCall "object.__new__" ⟨[.type "object"],[]⟩=pure ():=by kernel_rfl
theorem entry_object_new':entryFor table "object.__new__"=some Builtin.«object.__new__» :=entryFor_of_tree (by kernel_rfl)
theorem object_new_meets:Meets (Builtin.«object.__new__» ⟨[.type "object"],[]⟩) (fun _ R s=>R (.ok (.ret (.ref s.heap.objs.size))) { s with heap:=s.heap.push { cls:=.type "object",data:=.plain } }):=by
  refine Meets.of_wp fun prog w A R s hs=>?_
  obtain ⟨hp,g,d,tk,os⟩:=s
  have h0:=called_object.made
  have hmro:=mro_object'
  unfold Builtin.«object.__new__»
  repeat (any_goals (first | assumption | wp_step))
  exact ⟨_,rfl,hs⟩
theorem args_obj_init (a:Value):argsOk "object.__init__" ⟨[a],[]⟩:=by
  unfold argsOk;rw [signature?_of (id:="object.__init__") (n:=['_','_','t','i','n','i','_','_']) (o:=['t','c','e','j','b','o']) (by kernel_rfl) PySem.F.owner_object];kernel_rfl
theorem call_object {prog:Program} {w:World} {A:Around} {E:Value→Shared→Prop} {s:Shared} {Q:Value→Shared→Prop}
    (h:Q (.ref s.heap.objs.size) { s with heap:=s.heap.push { cls:=.type "object",data:=.plain } }):
    wpAny (model prog w) A (call (.type "object") []) Q E s:=
  callType_meets called_object typeCall_object newCall_object entry_object_new' PySem.F.entry_object_init object_new_meets (Q₁:=fun v s'=>s'.TypeIs v "object"∧Q v s') ⟨⟨_,Heap.get?_push_size _ rfl,rfl⟩,h⟩ fun obj s₁ hq=>
    ⟨hq.1,args_obj_init obj,_,(show Meets (Builtin.«object.__init__» ⟨[obj],[]⟩) (fun _ R s=>R (.ok (.ret .none)) s) from Meets.of_wp fun prog w A R s hs=>wpAny_pure ⟨_,rfl,hs⟩),rfl,hq.2⟩
end Mine
end
section
open PySem PySem.W PyProof.Rows PySem.Builtin.Str
set_option tactic.hygienic false
namespace Mine
section
variable {X:Cx} {F:FI} {d:Nat}
noncomputable def catL:PV→PV→Option PV
  | .list xs,.list ys=>if xs.length+ys.length≤16777216 then some (.list (xs++ys)) else none
  | _,_=>none
set_option tactic.hygienic true in
theorem catL_w {A:Around} {Av:Addr→Prop} {s:Shared} {Q:Value→Shared→Prop} {E:Value→Shared→Prop} {a b c:PV} {va vb:Value} (h:catL a b=some c) (lt:∀a,Av a→a < s.heap.objs.size) (ha:VR s.heap Av va a) (hb:VR s.heap Av vb b) (k:∀v s',Grow s s'→VR s'.heap Av v c→Q v s'):
    wpAny (model X.prog X.w) A (binaryOp .Add va vb) Q E s:=by
  unfold catL at h
  split at h<;>(try cases h)
  split at h<;>cases h
  rename_i xs ys hlen
  unfold VR at ha hb
  obtain ⟨l,vs,n,rfl,g,na,z⟩:=ha
  obtain ⟨l2,us,n2,rfl,g2,na2,z2⟩:=hb
  have hv:=z.length
  have hu:=z2.length
  have e:vs.toArray++us.toArray=(vs++us).toArray:=by simp
  refine concat_meets ⟨_,g,rfl⟩ ⟨_,g2,rfl⟩ noFill_list_add seq_list_add PySem.F.slot_list_add PySem.F.entry_list_add (PySem.F.args_list_add_2 _ _) (list_addW l l2 vs.toArray us.toArray n n2 none none #[] #[] (by rw [List.size_toArray,List.size_toArray,hv,hu];exact hlen)) ⟨g,g2,?_⟩
  rw [e]
  refine k _ _ (Grow.push _) ?_
  unfold VR
  refine ⟨_,vs++us,0,rfl,Heap.get?_push_size _ rfl,fun q=>absurd (lt _ q) (Nat.lt_irrefl _),?_⟩
  exact (z.append z2).mono (fun a o e _=>Heap.get?_push_of_some _ e) (fun _ _ n=>n) (by simp)
theorem s_cat {l r:Expr} {pos:Pos} {f g:EvE} (hl:SoundE X F d l f) (hr:SoundE X F d r g):SoundE X F d (.BinOp l .Add r pos) (bindE f fun a=>bindE g fun b=>liftE (catL a b)):=by
  refine @SoundT.intro _ _ _ _ _ _ _ _ ?_
  intro A Av Mu env st st' s v Q E hA hf R₀ tk k
  refine bindE_elim hf fun a st1 h1 hf=>?_
  refine bindE_elim hf fun b st2 h2 hf=>?_
  obtain ⟨h3,rfl⟩:=liftE_some hf
  refine wpAny_BinOp (hl _ hA h1 R₀ tk fun va s1 Av1 Mu1 R1 S1 V1 tk1=>hr _ hA h2 R1 tk1 fun vb s2 Av2 Mu2 R2 S2 V2 tk2=>?_)
  refine catL_w h3 R2.lt (V1.step S2.toStep R1.ma) V2 fun v' s' G V=>k _ _ Av2 Mu2 (R2.grow G) ((S1.trans S2 R₀.lt).trans (StepE.ofGrow G) R₀.lt) V
theorem truthOf_w' {A:Around} {Av:Addr→Prop} {s:Shared} {E:Value→Shared→Prop} {p:PV} {v:Value} {c:Bool} {Q:Bool→Shared→Prop} (h:truthOf p=some c) (hp:VR s.heap Av v p) (tk:1≤s.toks) (k:∀s',Grow s s'→1≤s'.toks→Q c s'):wpAny (model X.prog X.w) A (truthy v) Q E s:=
  wpAny_mono (wpAny_toks (truthOf_w (Q:=fun c s'=>1≤s'.toks→Q c s') h hp fun s' G t=>k s' G t)) (fun _ s' q=>q.1 (Nat.le_trans tk q.2)) fun _ _ e=>e
noncomputable def andV (f g:EvE):EvE:=bindE f fun a=>bindE (liftE (truthOf a)) fun c=>if c then g else pureE a
theorem s_and {x y:Expr} {pos:Pos} {f g:EvE} (hf:SoundE X F d x f) (hg:SoundE X F d y g):SoundE X F d (.BoolOp .And [x,y] pos) (andV f g):=by
  refine @SoundT.intro _ _ _ _ _ _ _ _ ?_
  intro A Av Mu env st st' s v Q E hA hf' R₀ tk k
  refine bindE_elim hf' fun a st1 h1 hf1=>?_
  refine bindE_elim hf1 fun c st2 h2 hf2=>?_
  obtain ⟨h3,e3⟩:=liftE_some h2
  subst e3
  refine BoolOp_and (hf _ hA h1 R₀ tk fun va s1 Av1 Mu1 R1 S1 V1 tk1=>truthOf_w' h3 V1 tk1 fun s' G tk2=>?_)
  cases c with
  | false=>
    cases hf2
    exact k _ _ _ _ (R1.grow G) (S1.trans (StepE.ofGrow G) R₀.lt) (V1.grow G)
  | true=>
    rw [if_pos rfl] at hf2 ⊢
    refine BoolOp_one (hg _ hA hf2 (R1.grow G) tk2 fun vb s3 Av3 Mu3 R3 S3 V3 tk3=>?_)
    exact k _ _ _ _ R3 ((S1.trans (StepE.ofGrow G) R₀.lt).trans S3 R₀.lt) V3
noncomputable def orV (f g:EvE):EvE:=bindE f fun a=>bindE (liftE (truthOf a)) fun c=>if c then pureE a else g
theorem s_or {x y:Expr} {pos:Pos} {f g:EvE} (hf:SoundE X F d x f) (hg:SoundE X F d y g):SoundE X F d (.BoolOp .Or [x,y] pos) (orV f g):=by
  refine @SoundT.intro _ _ _ _ _ _ _ _ ?_
  intro A Av Mu env st st' s v Q E hA hf' R₀ tk k
  refine bindE_elim hf' fun a st1 h1 hf1=>?_
  refine bindE_elim hf1 fun c st2 h2 hf2=>?_
  obtain ⟨h3,e3⟩:=liftE_some h2
  subst e3
  refine BoolOp_or (hf _ hA h1 R₀ tk fun va s1 Av1 Mu1 R1 S1 V1 tk1=>truthOf_w' h3 V1 tk1 fun s' G tk2=>?_)
  cases c with
  | true=>
    cases hf2
    exact k _ _ _ _ (R1.grow G) (S1.trans (StepE.ofGrow G) R₀.lt) (V1.grow G)
  | false=>
    have hf2':g _=some (v,st'):=hf2
    rw [if_neg Bool.false_ne_true]
    refine BoolOp_one (hg _ hA hf2' (R1.grow G) tk2 fun vb s3 Av3 Mu3 R3 S3 V3 tk3=>?_)
    exact k _ _ _ _ R3 ((S1.trans (StepE.ofGrow G) R₀.lt).trans S3 R₀.lt) V3
noncomputable def replF (y z:Str):PV→Option PV
  | .str x=>if x.length+(x.length+1) * z.length≤16777216 then some (.str (Txt.replace x y z)) else none
  | _=>none
set_option tactic.hygienic true in
theorem s_replace {o:Expr} {apos pos p1 p2:Pos} {k1 k2:Nat} {y z:Str} {f:EvE} (ho:SoundE X F d o f)
    (hbase:autoParam (∀env,attributeBase o "replace" env (eval o env)=eval o env) Mine.au4._auto_1)
    (hline:autoParam ((apos.endLine==pos.line)=true) Mine.au2._auto_1):SoundE X F d (.Call (.Attribute o "replace" apos) [.Constant (.str y) k1 p1,.Constant (.str z) k2 p2] [] pos) (bindE f fun a=>liftE (replF y z a)):=by
  refine @SoundT.intro _ _ _ _ _ _ _ _ ?_
  intro A Av Mu env st st' s v Q E hA hf R₀ tk k
  refine bindE_elim hf fun a st1 h1 hf1=>?_
  obtain ⟨h3,e3⟩:=liftE_some hf1
  subst e3
  unfold replF at h3
  split at h3<;>(try cases h3)
  split at h3<;>cases h3
  rename_i x hlen
  refine wpAny_Call_method_lateS (hbase env) rfl hline (ho _ hA h1 R₀ tk fun va s1 Av1 Mu1 R1 S1 V1 tk1=>?_)
  unfold VR at V1
  obtain ⟨t,rfl⟩:=V1
  refine ⟨"str","str.replace",_root_.PySem.F.plainAttrs_str,_root_.PySem.F.slot_str_replace,_root_.PySem.F.type_str_replace,typeIs_str _ _ _,(fun b q=>by cases q),callArgs rfl ?_⟩
  show wpAny _ _ (spliced (backTo pos [(false,eval (.Constant (.str y) k1 p1) env),(false,eval (.Constant (.str z) k2 p2) env)])) _ _ _
  refine Calls.spliced_cons (Calls.Constant_str (k:=k1) (pos:=p1) (Calls.spliced_cons (Calls.Constant_str (k:=k2) (pos:=p2) (Calls.spliced_nil ?_))))
  refine SC.replaceA (by show s1.toks≠0;lia) (by show s1.toks+1≠0;lia) (by show s1.toks≠s1.toks+1;lia) hlen (fun t' k'=>?_) ?_
  · exact k _ _ _ _ (R1.grow .toks) (S1.trans (StepE.ofGrow .toks) R₀.lt) VR.str'
  · obtain ⟨mc,hn,h0⟩:=X.nb
    exact ⟨mc,hn.keeps fun b o e=>(R1.base b o e).1,h0⟩
end
end Mine
end
section
namespace Mine
open PySem PySem.Sre
set_option tactic.hygienic false
noncomputable def twin:Array Nat:=#[14,14,4,1,1,9,0,64,0,1342177280,0,0,0,0,0,17,0,13,11,9,0,64,0,1342177280,0,0,0,0,0,17,1,1]
noncomputable def sp (c:Nat):Bool:=c==38||c==124||c==126
noncomputable def spw (c:Nat):Bool:=decide (c < 256)&&(twin.getD (5+(1+c / 32)) 0).testBit (c % 32)
noncomputable def spw2 (c:Nat):Bool:=decide (c < 256)&&(twin.getD (19+(1+c / 32)) 0).testBit (c % 32)
theorem spw_small:∀c,c < 256→spw c=sp c:=by decide+kernel
theorem spw2_small:∀c,c < 256→spw2 c=sp c:=by decide+kernel
theorem sp_big {c:Nat} (h:¬ c < 256):sp c=false:=by
  unfold sp
  simp
  lia
theorem spw_eq (c:Nat):spw c=sp c:=by
  by_cases h:c < 256
  · exact spw_small c h
  · rw [sp_big h]
    unfold spw
    simp [h]
theorem spw2_eq (c:Nat):spw2 c=sp c:=by
  by_cases h:c < 256
  · exact spw2_small c h
  · rw [sp_big h]
    unfold spw2
    simp [h]
theorem inSet_twin (c:Nat) (seen:Seen):∃s',inSet twin c 32 5 true seen=.ok (sp c,s'):=by
  rw [←spw_eq c]
  unfold spw
  by_cases h:(decide (c < 256)&&(twin.getD (5+(1+c / 32)) 0).testBit (c % 32))=true
  · rw [h]
    refine ⟨seen.add (twin.getD (5+0) 0),?_⟩
    show (if (decide (c < 256)&&(twin.getD (5+(1+c / 32)) 0).testBit (c % 32))=true then _ else _)=_
    rw [if_pos h]
  · have h':(decide (c < 256)&&(twin.getD (5+(1+c / 32)) 0).testBit (c % 32))=false:=by simpa using h
    rw [h']
    refine ⟨(seen.add (twin.getD (5+0) 0)).add (twin.getD (14+0) 0),?_⟩
    show (if (decide (c < 256)&&(twin.getD (5+(1+c / 32)) 0).testBit (c % 32))=true then _ else _)=_
    rw [if_neg h]
    rfl
theorem inSet_twin2 (c:Nat) (seen:Seen):∃s',inSet twin c 32 19 true seen=.ok (sp c,s'):=by
  rw [←spw2_eq c]
  unfold spw2
  by_cases h:(decide (c < 256)&&(twin.getD (19+(1+c / 32)) 0).testBit (c % 32))=true
  · rw [h]
    refine ⟨seen.add (twin.getD (19+0) 0),?_⟩
    show (if (decide (c < 256)&&(twin.getD (19+(1+c / 32)) 0).testBit (c % 32))=true then _ else _)=_
    rw [if_pos h]
  · have h':(decide (c < 256)&&(twin.getD (19+(1+c / 32)) 0).testBit (c % 32))=false:=by simpa using h
    rw [h']
    refine ⟨(seen.add (twin.getD (19+0) 0)).add (twin.getD (28+0) 0),?_⟩
    show (if (decide (c < 256)&&(twin.getD (19+(1+c / 32)) 0).testBit (c % 32))=true then _ else _)=_
    rw [if_neg h]
    rfl
noncomputable def nextSp (text:Array Nat):Nat→Nat→Option Nat
  | 0,_=>none
  | n+1,s=>if s≥text.size then none else if sp (text.getD s 0)=true then some s else nextSp text n (s+1)
theorem admitted_twin (m:M) (hc:m.code=twin) (hl:m.lim=m.text.size):∀(n s:Nat) (seen:Seen),∃s',M.admitted m n s seen=.ok (nextSp m.text n s,s')
  | 0,_,seen=>⟨seen,rfl⟩
  | n+1,s,seen=>by
    unfold M.admitted nextSp
    rw [hl]
    by_cases h:s≥m.text.size
    · rw [if_pos h,if_pos h];exact ⟨_,rfl⟩
    · rw [if_neg h,if_neg h,hc]
      obtain ⟨s',e⟩:=inSet_twin (m.text.getD s 0) seen
      have e':inSet twin (m.text.getD s 0) twin.size 5 true seen=.ok (sp (m.text.getD s 0),s'):=e
      rw [e']
      cases hs:sp (m.text.getD s 0) with
      | true=>exact ⟨_,rfl⟩
      | false=>
        obtain ⟨s2,e2⟩:=admitted_twin m hc hl n (s+1) s'
        exact ⟨s2,e2⟩
noncomputable def mFresh (text:Array Nat) (pos:Nat) (must:Bool) (ls:Nat):M:=
  { code:=twin,text,lim:=text.size,start:=pos,pc:=15,pos,handed:=pos,marks:=#[none,none],mustAdvance:=must,seen:=({}:Seen).add 14,lastStart:=ls }
noncomputable def mStart (text:Array Nat) (s:Nat) (seen:Seen):M:=
  { code:=twin,text,lim:=text.size,start:=s,lastStart:=text.size,pc:=15,pos:=s,handed:=s,marks:=#[none,none],mustAdvance:=false,seen,frames:=[{ wait:=.nextStart,pc:=15,pos:=s,outermost:=true }],weight:=1 }
theorem forSearch_eq (text:Array Nat) (pos:Nat) (must:Bool):forSearch twin text 1 pos text.size must=
    if (decide (pos>text.size)||decide (text.size - pos < 1))=true then (mFresh text pos must 0).say false else (mFresh text pos must text.size).attemptFrom pos true:=by
  rfl
theorem nextSp_lt {text:Array Nat}:∀{n s p:Nat},nextSp text n s=some p→s≤p∧p < text.size∧sp (text.getD p 0)=true
  | 0,_,_,h=>by cases h
  | n+1,s,p,h=>by
    unfold nextSp at h
    split at h
    · cases h
    · split at h
      · cases h
        exact ⟨Nat.le_refl _,by lia,by assumption⟩
      · have:=nextSp_lt h
        exact ⟨by lia,this.2⟩
theorem search_none {text:Array Nat} {pos:Nat} {must:Bool} (h:nextSp text (text.size+1 - pos) pos=none):∃m:M,forSearch twin text 1 pos text.size must=m∧m.answer=some false∧m.frames=[]∧m.outcome=none:=by
  rw [forSearch_eq]
  by_cases hc:(decide (pos>text.size)||decide (text.size - pos < 1))=true
  · rw [if_pos hc]
    exact ⟨_,rfl,rfl,rfl,rfl⟩
  · rw [if_neg hc]
    obtain ⟨s',e⟩:=admitted_twin (mFresh text pos must text.size) rfl rfl (text.size+1 - pos) pos (mFresh text pos must text.size).seen
    refine ⟨_,rfl,?_⟩
    unfold M.attemptFrom
    rw [show (mFresh text pos must text.size).hasFirstSet=true from rfl,if_neg (show ¬ ((!true)=true) by decide)]
    rw [show (mFresh text pos must text.size).lim=text.size from rfl,e]
    rw [show (mFresh text pos must text.size).text=text from rfl,h]
    exact ⟨rfl,rfl,rfl⟩
theorem search_some {text:Array Nat} {pos s:Nat} {must:Bool} (h:nextSp text (text.size+1 - pos) pos=some s):∃seen,forSearch twin text 1 pos text.size must=mStart text s seen:=by
  have hlt:=nextSp_lt h
  rw [forSearch_eq,if_neg (by simp;lia)]
  obtain ⟨s',e⟩:=admitted_twin (mFresh text pos must text.size) rfl rfl (text.size+1 - pos) pos (mFresh text pos must text.size).seen
  refine ⟨s',?_⟩
  unfold M.attemptFrom
  rw [show (mFresh text pos must text.size).hasFirstSet=true from rfl,if_neg (show ¬ ((!true)=true) by decide)]
  rw [show (mFresh text pos must text.size).lim=text.size from rfl,e]
  rw [show (mFresh text pos must text.size).text=text from rfl,h]
  rfl
theorem step1 (text:Array Nat) (s:Nat) (seen:Seen):(mStart text s seen).step={ mStart text s (seen.add 17) with marks:=#[some s,none],lastmark:=0,pc:=17 }:=by
  rfl
theorem step2 (text:Array Nat) (s:Nat) (seen:Seen) (hs:s < text.size) (hp:sp (text.getD s 0)=true):∃seen',({ mStart text s seen with marks:=#[some s,none],lastmark:=0,pc:=17 }:M).step={ mStart text s seen' with marks:=#[some s,none],lastmark:=0,pc:=29,pos:=s+1 }:=by
  obtain ⟨s',e⟩:=inSet_twin2 (text.getD s 0) (seen.add 13)
  refine ⟨s',?_⟩
  show (if s≥text.size then _ else (match inSet twin (text.getD s 0) 32 19 true (seen.add 13) with | .error why=>_ | .ok (false,seen)=>_ | .ok (true,seen)=>_))=_
  rw [if_neg (by lia),e,hp]
  rfl
theorem step3 (text:Array Nat) (s:Nat) (seen:Seen):({ mStart text s seen with marks:=#[some s,none],lastmark:=0,pc:=29,pos:=s+1 }:M).step={ mStart text s (seen.add 17) with marks:=#[some s,some (s+1)],lastmark:=1,lastindex:=1,pc:=31,pos:=s+1 }:=by
  show M.mark { mStart text s (seen.add 17) with marks:=#[some s,none],lastmark:=0,pc:=29,pos:=s+1 } 1=_
  unfold M.mark
  rw [if_pos (show ((1:Nat):Int)≤0+1 by decide)]
  rfl
theorem step4 (text:Array Nat) (s:Nat) (seen:Seen):({ mStart text s seen with marks:=#[some s,some (s+1)],lastmark:=1,lastindex:=1,pc:=31,pos:=s+1 }:M).step={ mStart text s (seen.add 1) with marks:=#[some s,some (s+1)],lastmark:=1,lastindex:=1,pc:=31,pos:=s+1,handed:=s+1,answer:=some true }:=by
  rfl
noncomputable def mEnd (text:Array Nat) (s:Nat) (seen:Seen):M:=
  { code:=twin,text,lim:=text.size,start:=s,lastStart:=text.size,pc:=15,pos:=s,handed:=s+1,marks:=#[some s,some (s+1)],lastmark:=1,lastindex:=1,mustAdvance:=false,seen,answer:=some true,outcome:=some .matched }
theorem run4 (text:Array Nat) (s:Nat) (seen:Seen) (hs:s < text.size) (hp:sp (text.getD s 0)=true):∃m:M,(mStart text s seen).runFor 4=m∧m.outcome=none∧∃seen',m.runFor 4=mEnd text s seen':=by
  obtain ⟨s2,e2⟩:=step2 text s (seen.add 17) hs hp
  refine ⟨{ mStart text s ((s2.add 17).add 1) with marks:=#[some s,some (s+1)],lastmark:=1,lastindex:=1,pc:=31,pos:=s+1,handed:=s+1,answer:=some true },?_,rfl,_,rfl⟩
  show M.runFor 3 (mStart text s seen).step=_
  rw [step1]
  have h2:∀m:M,m.outcome=none→m.runFor 3=(m.step).runFor 2:=fun m h=>by show (if m.outcome.isSome=true then m else _)=_;rw [h];rfl
  have h3:∀m:M,m.outcome=none→m.runFor 2=(m.step).runFor 1:=fun m h=>by show (if m.outcome.isSome=true then m else _)=_;rw [h];rfl
  have h4:∀m:M,m.outcome=none→m.runFor 1=(m.step).runFor 0:=fun m h=>by show (if m.outcome.isSome=true then m else _)=_;rw [h];rfl
  rw [h2 _ rfl,e2,h3 _ rfl,step3,h4 _ rfl,step4]
  rfl
theorem run_none {m:M} (h1:m.answer=some false) (h2:m.frames=[]) (h3:m.outcome=none):(m.runFor 4).outcome=some .failed:=by
  obtain ⟨⟩:=m
  simp only at h1 h2 h3
  subst h1 h2 h3
  rfl
end Mine
end
section
open PySem PySem.W PyProof.Rows PySem.Builtin.Str PySem.Builtin.Re PySem.Sre
set_option tactic.hygienic false
namespace Mine
section
variable {M:Model} {A:Around} {E:Value→Shared→Prop} {s:Shared}
theorem wp_ruleLoop {seen:Sre.Seen}:∀(l:List Nat) {Q:PUnit→Shared→Prop},Q ⟨⟩ s→wpAny M A (forIn l PUnit.unit fun i _=>(if seen.has i=true then do rule (Sre.names.getD i "");pure (ForInStep.yield PUnit.unit) else pure (ForInStep.yield PUnit.unit):Sem (ForInStep PUnit))) Q E s
  | [],Q,h=>by rw [List.forIn_nil];exact wpAny_pure h
  | i::l,Q,h=>by
    rw [List.forIn_cons]
    by_cases hc:seen.has i=true
    · rw [if_pos hc]
      exact wpAny_bind (wpAny_bind (wpAny_rule (wpAny_pure (wp_ruleLoop l h))))
    · rw [if_neg hc]
      exact wpAny_bind (wpAny_pure (wp_ruleLoop l h))
theorem drive_done {m m':Sre.M} {n:Nat} {Q:Sre.M→Shared→Prop} (h1:m.runFor 4=m') (h2:m'.outcome.isSome=true) (h:Q m' s):wpAny M A (reDrive (n+1) m) Q E s:=by
  unfold reDrive
  show wpAny _ _ (if (m.runFor 4).outcome.isSome=true then pure (m.runFor 4) else _) _ _ _
  rw [h1,if_pos h2]
  exact wpAny_pure h
theorem drive_on {m m':Sre.M} {n:Nat} {Q:Sre.M→Shared→Prop} (h1:m.runFor 4=m') (h2:m'.outcome=none) (h:wpAny M A (reDrive n m') Q E s):wpAny M A (reDrive (n+1) m) Q E s:=by
  unfold reDrive
  show wpAny _ _ (if (m.runFor 4).outcome.isSome=true then pure (m.runFor 4) else do rule "sre.turn";reDrive n (m.runFor 4)) _ _ _
  rw [h1,h2,if_neg (by decide)]
  exact wpAny_bind (wpAny_rule h)
theorem run_none_w {text:Array Nat} {pos:Nat} {must:Bool} {Q:Option Sre.M→Shared→Prop} (hn:nextSp text (text.size+1 - pos) pos=none) (h:Q none s):wpAny M A (reRunToEnd (forSearch twin text 1 pos text.size must)) Q E s:=by
  obtain ⟨m,e,h1,h2,h3⟩:=search_none (must:=must) hn
  rw [e]
  have h4:=Mine.run_none h1 h2 h3
  unfold reRunToEnd
  have e64:(2 ^ 64:Nat)=18446744073709551615+1:=rfl
  rw [e64]
  refine wpAny_bind (drive_done rfl (by rw [h4];rfl) ?_)
  refine wpAny_bind (wp_ruleLoop _ ?_)
  rw [h4]
  exact wpAny_pure h
theorem run_some_w {text:Array Nat} {pos p:Nat} {must:Bool} {Q:Option Sre.M→Shared→Prop} (hn:nextSp text (text.size+1 - pos) pos=some p) (h:∀seen,Q (some (mEnd text p seen)) s):wpAny M A (reRunToEnd (forSearch twin text 1 pos text.size must)) Q E s:=by
  obtain ⟨seen,e⟩:=search_some (must:=must) hn
  obtain ⟨h1,h2,h3⟩:=nextSp_lt hn
  rw [e]
  obtain ⟨m,e1,e2,seen',e3⟩:=run4 text p seen h2 h3
  unfold reRunToEnd
  have e64:(2 ^ 64:Nat)=18446744073709551614+1+1:=rfl
  rw [e64]
  refine wpAny_bind (drive_on e1 e2 (drive_done e3 rfl ?_))
  refine wpAny_bind (wp_ruleLoop _ ?_)
  exact wpAny_pure (h seen')
end
end Mine
end
section
open PySem PySem.W PyProof.Rows PySem.Builtin.Str PySem.Builtin.Re PySem.Sre
set_option tactic.hygienic false
namespace Mine
theorem plainAttrs_pat:PlainAttrs "re.Pattern":=
  ⟨⟨"object.__getattribute__",by rw [typeLookup_type,builtinLookup_eq_fast];kernel_rfl,by decide+kernel⟩,by rw [typeLookup_type,builtinLookup_eq_fast];kernel_rfl⟩
theorem slot_pat_sub:Slot "re.Pattern" "sub" "re.Pattern.sub":=
  .of (owner:="re.Pattern") (n:="sub") (by rw [typeLookup_type,builtinLookup_eq_fast];kernel_rfl) (by decide+kernel) (by decide+kernel) (by decide+kernel)
    (by first | exact .inl (by decide+kernel) | exact .inr (by decide+kernel)) (by rw [isSubtype_type];kernel_rfl)
theorem type_pat_sub:typeOf (.builtin "re.Pattern.sub")=pure (.type "method_descriptor"):=by show builtinType _=_;rw [builtinType_eq_fast];kernel_rfl
theorem entry_pat_sub:entryFor table "re.Pattern.sub"=some Builtin.«re.Pattern.sub» :=entryFor_of_tree (by kernel_rfl)
theorem owner_pat:Manifest.owners.lookup (String.ofList ['n','r','e','t','t','a','P','.','e','r'].reverse)=some Manifest.sig_re_Pattern:=by kernel_rfl
theorem args_pat_sub (a b c:Value):argsOk "re.Pattern.sub" ⟨[a,b,c],[]⟩:=by
  unfold argsOk;rw [signature?_of (id:="re.Pattern.sub") (n:=['b','u','s']) (o:=['n','r','e','t','t','a','P','.','e','r']) (by kernel_rfl) owner_pat];kernel_rfl
theorem entry_pat_loop:entryFor table "re.Pattern.sub.loop"=some Builtin.«re.Pattern.sub.loop» :=entryFor_of_tree (by kernel_rfl)
theorem plainAttrs_match:PlainAttrs "re.Match":=
  ⟨⟨"object.__getattribute__",by rw [typeLookup_type,builtinLookup_eq_fast];kernel_rfl,by decide+kernel⟩,by rw [typeLookup_type,builtinLookup_eq_fast];kernel_rfl⟩
theorem slot_match_group:Slot "re.Match" "group" "re.Match.group":=
  .of (owner:="re.Match") (n:="group") (by rw [typeLookup_type,builtinLookup_eq_fast];kernel_rfl) (by decide+kernel) (by decide+kernel) (by decide+kernel)
    (by first | exact .inl (by decide+kernel) | exact .inr (by decide+kernel)) (by rw [isSubtype_type];kernel_rfl)
theorem type_match_group:typeOf (.builtin "re.Match.group")=pure (.type "method_descriptor"):=by show builtinType _=_;rw [builtinType_eq_fast];kernel_rfl
theorem entry_match_group:entryFor table "re.Match.group"=some Builtin.«re.Match.group» :=entryFor_of_tree (by kernel_rfl)
theorem owner_match:Manifest.owners.lookup (String.ofList ['h','c','t','a','M','.','e','r'].reverse)=some Manifest.sig_re_Match:=by kernel_rfl
theorem args_match_group (a b:Value):argsOk "re.Match.group" ⟨[a,b],[]⟩:=by
  unfold argsOk;rw [signature?_of (id:="re.Match.group") (n:=['p','u','o','r','g']) (o:=['h','c','t','a','M','.','e','r']) (by kernel_rfl) owner_match];kernel_rfl
end Mine
end
section
open PySem PySem.W PyProof.Rows PySem.Builtin.Str PySem.Builtin.Re PySem.Sre
set_option tactic.hygienic false
namespace Mine
noncomputable abbrev matchObj (x:Str) (t:Tok) (P tA:Addr):Obj:={ cls:=.type "re.Match",data:=.fields #[.str x t,.ref P,rawInt ((0:Nat):Int),rawInt ((x.cps.size:Nat):Int),rawInt 1,.ref tA] }
noncomputable abbrev spanObj (s:Nat):Obj:={ cls:=.type "tuple",data:=.seq #[rawInt (s:Int),rawInt ((s+1:Nat):Int),rawInt (s:Int),rawInt ((s+1:Nat):Int)] 0 }
section
variable {M:Model} {A:Around} {E:Value→Shared→Prop} {s:Shared}
theorem run_group {x:Str} {t u:Tok} {P tA a:Addr} {p:Nat} {Q:Fin→Shared→Prop} (hx:s.heap.get? a=some (matchObj x t P tA)) (ht:s.heap.get? tA=some (spanObj p))
    (h:Q (.done (.ret (.str ⟨x.cps.extract p (p+1)⟩ s.toks))) { s with toks:=s.toks+1 }):wpAny M A (Builtin.«re.Match.group» ⟨[.ref a,.int 1 u],[]⟩) Q E s:=by
  unfold Builtin.«re.Match.group»
  refine wpAny_bind (wpAny_of_eq (a:=()) (by first | rfl | kernel_rfl) ?_)
  show wpAny _ _ (bind (reFound (.ref a)) _) _ _ _
  have hfound:∀{Q':ReFound→Shared→Prop},Q' { fields:=#[.str x t,.ref P,rawInt ((0:Nat):Int),rawInt ((x.cps.size:Nat):Int),rawInt 1,.ref tA],spans:=#[(p:Int),((p+1:Nat):Int),(p:Int),((p+1:Nat):Int)] } s→wpAny M A (reFound (.ref a)) Q' E s:=fun {Q'} hQ=>by
    unfold reFound
    show wpAny _ _ (bind (fieldsOf (.ref a)) _) _ _ _
    have hf:∀{Q'':Array Value→Shared→Prop},Q'' #[.str x t,.ref P,rawInt ((0:Nat):Int),rawInt ((x.cps.size:Nat):Int),rawInt 1,.ref tA] s→wpAny M A (fieldsOf (.ref a)) Q'' E s:=fun {Q''} hQ=>by
      unfold fieldsOf
      exact wpAny_bind (wpAny_load hx (wpAny_pure hQ))
    refine wpAny_bind (hf ?_)
    refine wpAny_bind ?_
    unfold reRawItems
    show wpAny _ _ (bind (seqItems? (.ref tA)) _) _ _ _
    have e:Array.map reRawOf ((some #[rawInt (p:Int),rawInt ((p+1:Nat):Int),rawInt (p:Int),rawInt ((p+1:Nat):Int)]).getD #[])=#[(p:Int),((p+1:Nat):Int),(p:Int),((p+1:Nat):Int)]:=by simp [rawInt,reRawOf]
    refine wpAny_bind (wpAny_seqItems ht rfl (wpAny_pure (wpAny_pure ?_)))
    rw [e]
    exact hQ
  refine wpAny_bind (hfound ?_)
  show wpAny _ _ (bind (reGroupNumber _ (.int 1 u)) _) _ _ _
  refine wpAny_bind (wpAny_of_eq (a:=1) (by first | rfl | kernel_rfl) ?_)
  show wpAny _ _ (bind (reGroupText _ 1 .none) _) _ _ _
  refine wpAny_bind ?_
  unfold reGroupText
  show wpAny _ _ (if (decide ((p:Int) < 0)||decide (((p+1:Nat):Int) < 0))=true then _ else _) _ _ _
  rw [if_neg (by simp;lia)]
  refine wpAny_bind (wpAny_of_eq (a:=(x.cps,0)) (by first | rfl | kernel_rfl) ?_)
  show wpAny _ _ (mkStr ⟨x.cps.extract p (p+1)⟩) _ _ _
  refine wpAny_mkStr (wpAny_pure h) ?_
  show (x.cps.extract p (p+1)).size≤sizeLine
  rw [Array.size_extract]
  have:min (p+1) x.cps.size - p≤1:=by lia
  exact Nat.le_trans this (by decide)
end
noncomputable abbrev lamParams (pa:Pos):Arguments:={ posonlyargs:=[],args:=[{ arg:="_m",annotation:=none,pos:=pa }],vararg:=none,kwonlyargs:=[],kw_defaults:=[],kwarg:=none,defaults:=[] }
noncomputable abbrev lamBody (p1 p2 p3 p4 p5 p6 p7 p8:Pos):Expr:=
  .BinOp (.Constant (.str "\\") 0 p1) .Add (.BoolOp .Or [.Call (.Attribute (.Name "_m" p2) "group" p3) [.Constant (.int 1) 0 p4] [] p5, .Constant (.str "") 0 p6] p7) p8
noncomputable abbrev lamScope:Scope:={ kind:=.function,names:=[(PySem.Str.ofString "_m",.local)],isGenerator:=false,isCoroutine:=false,more:=[] }
section
variable {prog:Program} {w:World} {A:Around} {E:Value→Shared→Prop} {s:Shared}
theorem call_lam {f:Addr} {name qual:Str} {pa p1 p2 p3 p4 p5 p6 p7 p8:Pos} {pm cdv ctv:Value} {x:Str} {t:Tok} {P tA a:Addr} {p:Nat} {Q:Value→Shared→Prop}
    (ho:s.heap.get? f=some { cls:=.type "function",data:=.func (kla_fn name qual (lamParams pa) (lamBody p1 p2 p3 p4 p5 p6 p7 p8) lamScope [] pm cdv ctv) }) (hcd:s.heap.CodeRec cdv qual) (hl:s.heap.NoLimit) (hroom:A.depth < recursionLimit)
    (hx:s.heap.get? a=some (matchObj x t P tA)) (ht:s.heap.get? tA=some (spanObj p)) (hp:p < x.cps.size) (hline:(p3.endLine==p5.line)=true)
    (k : ∀ u s', Grow s s' → Q (.str (("\\" : Str) ++ ⟨x.cps.extract p (p + 1)⟩) u) s') : wpAny (model prog w) A (call (.ref f) [.ref a]) Q E s := by
  refine wpAny_call (kla_callFunE hroom ho rfl rfl rfl rfl hcd ?_)
  refine wpAny_of_eq (a:=[((PySem.Str.ofString "_m"),.ref a)]) (by first | rfl | kernel_rfl) ?_
  refine wpAny_newFunctionEnv (by intro y hy;simp at hy;subst hy;decide) (by intro y hy;simp at hy;subst hy;rfl) (fun h₁ hns hsb=>⟨hl.fresh _ hsb,?_⟩) rfl
  have hk₁:∀b o,s.heap.get? b=some o→h₁.get? b=some o:=fun b o e=>hsb.extBut b o (Nat.ne_of_lt (Heap.lt_size e)) (Heap.get?_push_of_some _ e)
  have hz₁:s.heap.objs.size≤h₁.objs.size:=by
    have:=hsb.1
    rw [Heap.size_push] at this
    lia
  generalize hE:newEnv lamScope s.heap.objs.size mainGlobals [] (qual++".<locals>.") (some f) cdv none builtinsNs=env
  have hkind:env.scope.kind=.function:=by rw [←hE];rfl
  have hloc:env.kindOf (PySem.Str.ofString "_m")=some .local:=by rw [←hE];rfl
  have hL:env.locals=s.heap.objs.size:=by rw [←hE];rfl
  have G0:Grow s { s with heap:=h₁,toks:=s.toks+1 }:=⟨hk₁,hz₁,rfl,rfl⟩
  refine kla_codeExpr ?_
  refine wpAny_BinOp (Calls.Constant_str ?_)
  refine BoolOp_or ?_
  refine wpAny_Call_method_lateS rfl rfl hline (wpAny_Name (wpAny_loadName_local hkind hloc (by rw [hL];exact hns) (v:=.ref a) (by rfl) ?_) (by decide+kernel))
  have hx₁:h₁.get? a=some (matchObj x t P tA):=hk₁ _ _ hx
  have ht₁:h₁.get? tA=some (spanObj p):=hk₁ _ _ ht
  refine ⟨"re.Match","re.Match.group",plainAttrs_match,slot_match_group,type_match_group,⟨_,hx₁,rfl⟩,(fun b q=>by cases q;exact ⟨_,hx₁,rfl⟩),callArgs rfl ?_⟩
  show wpAny _ _ (spliced (backTo p5 [(false,eval (.Constant (.int 1) 0 p4) env)])) _ _ _
  refine Calls.spliced_cons (wpAny_Constant_int (k:=0) (pos:=p4) (Calls.spliced_nil ?_))
  refine wpAny_call_entry slot_match_group ⟨_,hx₁,rfl⟩ entry_match_group ?_ (args_match_group _ _)
  refine run_group hx₁ ht₁ ⟨_,rfl,?_⟩
  have hlen:(⟨x.cps.extract p (p+1)⟩:Str).length=1:=by
    show (x.cps.extract p (p+1)).size=1
    rw [Array.size_extract]
    lia
  refine SBL.truthy (by rw [hlen];decide) ?_
  rw [hlen]
  rw [if_pos (by decide)]
  refine _root_.PySem.P.add_str ?_
  rw [if_neg (by decide+kernel),hlen,if_neg (by decide)]
  refine ⟨?_,?_⟩
  · rw [PySem.Str.length_append,hlen]
    decide+kernel
  · exact k _ _ (G0.trans .toks)
end
end Mine
end
section
open PySem PySem.W PyProof.Rows PySem.Builtin.Str PySem.Builtin.Re PySem.Sre
set_option tactic.hygienic false
namespace Mine
structure PatAt (h:Heap) (P:Addr) (fs:Array Value) (cA:Addr) (items:Array Value):Prop where
  pat:∃o,h.get? P=some o∧o.cls=.type "re.Pattern"∧o.dict=none∧o.data=.fields fs
  five:fs.getD 5 .none=.ref cA
  two:reRawNat (fs.getD 2 .none)=1
  six:reRawNat (fs.getD 6 .none)=0
  tup:∃oc n,h.get? cA=some oc∧oc.data=.seq items n
  code:(items.map reRawOf).map (·.toNat)=twin
theorem PatAt.keeps {h h':Heap} {P cA:Addr} {fs items:Array Value} (x:PatAt h P fs cA items) (hk:∀a o,h.get? a=some o→h'.get? a=some o):PatAt h' P fs cA items:=
  ⟨let ⟨o,e,r⟩:=x.pat;⟨o,hk _ _ e,r⟩,x.five,x.two,x.six,let ⟨o,n,e,r⟩:=x.tup;⟨o,n,hk _ _ e,r⟩,x.code⟩
section
variable {M:Model} {A:Around} {E:Value→Shared→Prop} {s:Shared}
theorem wp_whole {P cA:Addr} {fs items:Array Value} {x:Str} {t:Tok} {Q:ReTarget→Shared→Prop} (hP:PatAt s.heap P fs cA items)
    (h:Q { pattern:=.ref P,string:=.str x t,code:=twin,text:=x.cps,kind:=0,groups:=1,pos:=0,lim:=x.cps.size } s):wpAny M A (reWholeTarget (.ref P) (.str x t)) Q E s:=by
  obtain ⟨o,ho,_,_,hd⟩:=hP.pat
  obtain ⟨oc,n,hoc,hdc⟩:=hP.tup
  unfold reWholeTarget
  have hf:∀{Q'':Array Value→Shared→Prop},Q'' fs s→wpAny M A (fieldsOf (.ref P)) Q'' E s:=fun {Q''} hQ=>by
    unfold fieldsOf
    refine wpAny_bind (wpAny_load ho ?_)
    rw [hd]
    exact wpAny_pure hQ
  refine wpAny_bind (hf ?_)
  refine wpAny_bind (wpAny_of_eq (a:=(x.cps,0)) (by first | rfl | kernel_rfl) ?_)
  dsimp only
  rw [hP.six,if_neg (by decide),if_neg (by decide)]
  refine wpAny_bind (wpAny_of_eq (a:=()) (by first | rfl | kernel_rfl) ?_)
  rw [hP.five]
  refine wpAny_bind ?_
  unfold reRawItems
  show wpAny _ _ (bind (seqItems? (.ref cA)) _) _ _ _
  refine wpAny_bind (wpAny_seqItems hoc hdc (wpAny_pure (wpAny_pure ?_)))
  show Q { pattern:=.ref P,string:=.str x t,code:=((items.map reRawOf).map (·.toNat)),text:=x.cps,kind:=0,groups:=reRawNat (fs.getD 2 .none),pos:=0,lim:=x.cps.size } s
  rw [hP.code,hP.two]
  exact h
theorem wp_newMatch {P:Addr} {x:Str} {t:Tok} {p:Nat} {seen:Sre.Seen} {Q:Value→Shared→Prop}
    (h:Q (.ref (s.heap.objs.size+1)) { s with heap:=(s.heap.push (spanObj p)).push (matchObj x t P s.heap.objs.size) }):wpAny M A (reNewMatch (.ref P) (.str x t) 1 0 x.cps.size (mEnd x.cps p seen)) Q E s:=by
  unfold reNewMatch
  dsimp only
  rw [if_neg]
  · show wpAny _ _ (bind (newTuple [rawInt (p:Int),rawInt ((p+1:Nat):Int),rawInt (p:Int),rawInt ((p+1:Nat):Int)]) _) _ _ _
    refine wpAny_bind (wpAny_newObj_type ?_ (by size_fits))
    refine wpAny_newObj_type ?_ (by size_fits)
    rw [show (s.heap.push _).objs.size=s.heap.objs.size+1 from Heap.size_push ..]
    exact h
  · simp [mEnd]
end
noncomputable def subL (l:List Nat):List Nat:=l.flatMap fun c=>if sp c=true then [92,c] else [c]
theorem subL_append (a b:List Nat):subL (a++b)=subL a++subL b:=List.flatMap_append ..
theorem subL_plain:∀{l:List Nat},(∀c∈l,sp c=false)→subL l=l
  | [],_=>rfl
  | c::l,h=>by
    show (if sp c=true then [92,c] else [c])++subL l=_
    rw [if_neg (by rw [h c List.mem_cons_self];decide),subL_plain fun d hd=>h d (List.mem_cons_of_mem _ hd)]
    rfl
set_option tactic.hygienic true in
theorem nextSp_none {text:Array Nat}:∀{n s:Nat},n=text.size+1 - s→nextSp text n s=none→∀i,s≤i→i < text.size→sp (text.getD i 0)=false
  | 0,s,hn,_,i,h1,h2=>by lia
  | n+1,s,hn,h,i,h1,h2=>by
    unfold nextSp at h
    rw [if_neg (by lia)] at h
    split at h
    · cases h
    · rename_i hs
      by_cases e:i=s
      · subst e;simpa using hs
      · exact nextSp_none (by lia) h i (by lia) h2
set_option tactic.hygienic true in
theorem nextSp_first {text:Array Nat}:∀{n s p:Nat},nextSp text n s=some p→∀i,s≤i→i < p→sp (text.getD i 0)=false
  | 0,s,p,h,_,_,_=>by cases h
  | n+1,s,p,h,i,h1,h2=>by
    unfold nextSp at h
    split at h
    · cases h
    · split at h
      · cases h;lia
      · rename_i hs
        by_cases e:i=s
        · subst e;simpa using hs
        · exact nextSp_first h i (by lia) h2
theorem getD_list {text:Array Nat} {i:Nat} (h:i < text.size):text.getD i 0=text.toList[i]'(by simpa using h):=by
  rw [Array.getD_eq_getD_getElem?,Array.getElem?_eq_getElem h];simp
theorem drop_plain {text:Array Nat} {d:Nat} (h:∀i,d≤i→i < text.size→sp (text.getD i 0)=false):subL (text.toList.drop d)=text.toList.drop d:=
  subL_plain fun c hc=>by
    obtain ⟨i,hi,e⟩:=List.mem_iff_getElem.mp hc
    rw [List.getElem_drop] at e
    have hlt:d+i < text.size:=by rw [List.length_drop] at hi;simp at hi;lia
    rw [←e,←getD_list hlt]
    exact h _ (by lia) hlt
theorem drop_split {text:Array Nat} {d p:Nat} (hd:d≤p) (hp:p < text.size) (hs:sp (text.getD p 0)=true) (h:∀i,d≤i→i < p→sp (text.getD i 0)=false):
    subL (text.toList.drop d)=(text.extract d p).toList++(92::(text.extract p (p+1)).toList)++subL (text.toList.drop (p+1)):=by
  have e1:text.toList.drop d=(text.extract d p).toList++((text.extract p (p+1)).toList++text.toList.drop (p+1)):=by
    rw [Array.toList_extract,Array.toList_extract,List.extract_eq_take_drop,List.extract_eq_take_drop]
    have a1:text.toList.drop d=(text.toList.drop d).take (p - d)++(text.toList.drop d).drop (p - d):=(List.take_append_drop ..).symm
    have a2:(text.toList.drop d).drop (p - d)=text.toList.drop p:=by rw [List.drop_drop];congr 1;lia
    have a3:text.toList.drop p=(text.toList.drop p).take (p+1 - p)++(text.toList.drop p).drop (p+1 - p):=(List.take_append_drop ..).symm
    have a4:(text.toList.drop p).drop (p+1 - p)=text.toList.drop (p+1):=by rw [List.drop_drop];congr 1;lia
    rw [a2] at a1
    rw [a4] at a3
    rw [←a3]
    exact a1
  have hx:(text.extract p (p+1)).toList=[text.getD p 0]:=by
    rw [Array.toList_extract,List.extract_eq_take_drop,getD_list hp,show p+1 - p=1 by lia,List.drop_eq_getElem_cons (by simpa using hp)]
    rfl
  have hpl:subL (text.extract d p).toList=(text.extract d p).toList:=subL_plain fun c hc=>by
    rw [Array.toList_extract,List.extract_eq_take_drop] at hc
    obtain ⟨i,hi,e⟩:=List.mem_iff_getElem.mp hc
    rw [List.length_take,List.length_drop] at hi
    simp at hi
    rw [List.getElem_take,List.getElem_drop] at e
    rw [←e,←getD_list (by lia)]
    exact h _ (by lia) (by lia)
  rw [e1,subL_append,subL_append,hpl,hx]
  show _++((if sp (text.getD p 0)=true then [92,text.getD p 0] else [text.getD p 0])++[]++_)=_
  rw [if_pos hs]
  simp
end Mine
end
section
open PySem PySem.W PyProof.Rows PySem.Builtin.Str PySem.Builtin.Re PySem.Sre
set_option tactic.hygienic false
namespace Mine
structure GrowBut (L:Addr) (s s':Shared):Prop where
  keep:∀a o,a≠L→s.heap.get? a=some o→s'.heap.get? a=some o
  size:s.heap.objs.size≤s'.heap.objs.size
  os:s'.os=s.os
  gens:s'.gens=s.gens
theorem GrowBut.trans {L:Addr} {s s' s'':Shared} (x:GrowBut L s s') (y:GrowBut L s' s''):GrowBut L s s'':=
  ⟨fun a o n e=>y.keep a o n (x.keep a o n e),Nat.le_trans x.size y.size,y.os.trans x.os,y.gens.trans x.gens⟩
theorem Grow.but {L:Addr} {s s':Shared} (g:Grow s s'):GrowBut L s s':=⟨fun a o _ e=>g.keep a o e,g.size,g.os,g.gens⟩
theorem GrowBut.same {L:Addr} {s:Shared} {h':Heap} (hb:Heap.SameBut L s.heap h') {tk:Nat}:GrowBut L s { s with heap:=h',toks:=tk }:=⟨fun a o n e=>(hb.2 a n).trans e,Nat.le_of_eq hb.1.symm,rfl,rfl⟩
section
variable {prog:Program} {w:World} {A:Around} {E:Value→Shared→Prop} {s:Shared}
structure Pieces (h:Heap) (L:Addr) (ps:List Str):Prop where
  ls:∃l:List (Str×Tok),∃n,h.get? L=some (listObj (l.map fun p=>Value.str p.1 p.2) n)∧l.map (·.1)=ps
theorem pieces_push {L:Addr} {ps:List Str} {y:Str} {u:Tok} {Q:Unit→Shared→Prop} (g:Pieces s.heap L ps) (hsz:ps.length≤16777216)
    (hQ:∀h',Pieces h' L (ps++[y])→Heap.SameBut L s.heap h'→Q () { s with heap:=h' }):wpAny (model prog w) A (updateSeq L (·.push (.str y u))) Q E s:=by
  obtain ⟨l,n,g2,rfl⟩:=g.ls
  obtain ⟨n',g'⟩:=upd_obj (f:=(·.push (.str y u))) (us:=(l++[(y,u)]).map fun p=>Value.str p.1 p.2) g2 (by simp)
  refine wpAny_updateSeq g2 rfl (hQ _ ⟨l++[(y,u)],n',g',by simp⟩ (Heap.SameBut.update ..)) ?_
  show ((l.map fun p=>Value.str p.1 p.2).toArray).size≤sizeLine
  rw [List.size_toArray,List.length_map]
  rw [List.length_map] at hsz
  exact hsz
set_option genInjectivity false in
set_option genSizeOf false in
structure SubK where
  P:Addr
  cA:Addr
  f:Addr
  L:Addr
  fs:Array Value
  items:Array Value
  name:Str
  qual:Str
  pa:Pos
  p1:Pos
  p2:Pos
  p3:Pos
  p4:Pos
  p5:Pos
  p6:Pos
  p7:Pos
  p8:Pos
  pm:Value
  cdv:Value
  ctv:Value
structure SubCx (A:Around) (h:Heap) (K:SubK):Prop where
  pat:PatAt h K.P K.fs K.cA K.items
  lam:h.get? K.f=some { cls:=.type "function",data:=.func (kla_fn K.name K.qual (lamParams K.pa) (lamBody K.p1 K.p2 K.p3 K.p4 K.p5 K.p6 K.p7 K.p8) lamScope [] K.pm K.cdv K.ctv) }
  crec:h.CodeRec K.cdv K.qual
  nolimit:h.NoLimit
  room:A.depth < recursionLimit
  line:(K.p3.endLine==K.p5.line)=true
  off:K.P≠K.L∧K.cA≠K.L∧K.f≠K.L
  recL:∀c,K.cdv=.ref c→c≠K.L
  lim:∀h':Heap,(∀a o,a≠K.L→h.get? a=some o→h'.get? a=some o)→h'.NoLimit
theorem SubCx.move {h h':Heap} {K:SubK} (x:SubCx A h K) (hk:∀a o,a≠K.L→h.get? a=some o→h'.get? a=some o):SubCx A h' K:=
  ⟨⟨let ⟨o,e,r⟩:=x.pat.pat;⟨o,hk _ _ x.off.1 e,r⟩,x.pat.five,x.pat.two,x.pat.six,let ⟨o,n,e,r⟩:=x.pat.tup;⟨o,n,hk _ _ x.off.2.1 e,r⟩,x.pat.code⟩,hk _ _ x.off.2.2 x.lam,
    let ⟨c,o,vs,t,e,g,r⟩:=x.crec;⟨c,o,vs,t,e,hk _ _ (x.recL c e) g,r⟩,x.lim h' hk,x.room,x.line,x.off,x.recL,fun h'' hk'=>x.lim h'' fun a o n e=>hk' a o n (hk a o n e)⟩
noncomputable abbrev loopArgs (P f L:Addr) (x:Str) (t:Tok) (n d:Nat) (must:Bool):Args:=⟨[.ref P,.str x t,.ref f,rawInt 1,rawInt 0,rawInt (n:Int),rawInt (d:Int),rawInt (d:Int),.bool must,.ref L,.bool false],[]⟩
theorem Pieces.keeps {h h':Heap} {L:Addr} {ps:List Str} (g:Pieces h L ps) (hk:∀o,h.get? L=some o→h'.get? L=some o):Pieces h' L ps:=by
  obtain ⟨l,n,e,q⟩:=g.ls
  exact ⟨l,n,hk _ e,q⟩
theorem quiet_loop {as:Args}:(Code.builtin "re.Pattern.sub.loop" as).quiet=true:=Code.quiet_builtin _ (by decide+kernel)
theorem under_loop {A:Around} {as:Args}:A.under (.builtin "re.Pattern.sub.loop" as)=A.in1:=Around.under_plainId (show plainId "re.Pattern.sub.loop"=true by decide+kernel) _
theorem foldLen:∀(ss:List Str) (a:Nat) (sep:Str),sep.length=0→ss.foldl (fun b y=>b+y.length+sep.length) a=a+(ss.flatMap fun y=>y.cps.toList).length
  | [],a,sep,_=>by simp
  | y::ss,a,sep,h=>by
    have e:y.cps.toList.length=y.cps.size:=Array.length_toList ..
    rw [List.foldl_cons,foldLen ss _ sep h,h,List.flatMap_cons,List.length_append,e]
    show a+y.cps.size+0+_=_
    lia
theorem glued_go {sep:Str} (h:sep.length=0):∀(ss:List Str) (a:Array Nat),(ss.foldl (fun acc p=>acc++sep.cps++p.cps) a).toList=a.toList++ss.flatMap fun y=>y.cps.toList
  | [],a=>by simp
  | y::ss,a=>by
    rw [List.foldl_cons,glued_go h ss]
    have:sep.cps=#[]:=Array.eq_empty_of_size_eq_zero h
    rw [this]
    simp
theorem glued_flat {sep:Str} (h:sep.length=0):∀ss:List Str,(glued sep ss).cps.toList=ss.flatMap fun y=>y.cps.toList
  | []=>by simp [glued,Str.empty]
  | y::ss=>by
    unfold glued
    rw [List.drop_one,List.tail_cons,List.headD_cons,glued_go h]
    rfl
theorem subL_len:∀l:List Nat,(subL l).length≤2 * l.length
  | []=>Nat.le_refl _
  | c::l=>by
    have:=subL_len l
    show ((if sp c=true then [92,c] else [c])++subL l).length≤_
    rw [List.length_append,List.length_cons]
    split<;>simp<;>lia
theorem den_builtin {id:String} {b:Builtin} {args:Args} (hb:entryFor table id=some b):(model prog w).den (.builtin id args)=b args:=by
  show (match entryFor table id with | some b=>b args | none=>unsupported ((withoutEnding? id "#data").getD id))=_
  rw [hb]
theorem builtin_turn {M:Model} {id:String} {f:Args→Sem Fin} {args:Args} {R:Result→Shared→Prop} {A':Around} (he:M.den (.builtin id args)=f args) (hu:A.under (.builtin id args)=A')
    (h:∀(Q:Fin→Shared→Prop) (E:Value→Shared→Prop),(∀v s',R (.ok v) s'→Q (.done v) s')→(∀c s',c.quiet=true→codeAny M A c R s'→Q (.again c) s')→wpAny M A' (f args) Q E s):codeAny M A (.builtin id args) R s:=by
  refine codeAny_of_tree ?_
  rw [hu,he]
  exact h _ _ (fun _ _ h=>h) fun _ _ q h=>⟨q,h⟩
theorem ite_jp {M:Model} {c:Prop} [Decidable c] {α β γ:Type} {m1:Sem γ} {m2:γ→Sem β} {T:Sem α} {Q:α→Shared→Prop} (Q1:Shared→Prop) (hc:c→wpAny M A m1 (fun y s'=>wpAny M A (m2 y) (fun _ s''=>Q1 s'') E s') E s) (hn:¬ c→Q1 s) (hT:∀s',Q1 s'→wpAny M A T Q E s'):
    wpAny M A (if c then m1>>=fun y=>m2 y>>=fun _=>T else T) Q E s:=by
  by_cases h:c
  · rw [if_pos h]
    exact wpAny_bind (wpAny_mono (hc h) (fun y s' q=>wpAny_bind (wpAny_mono q (fun _ s'' q=>hT s'' q) fun _ _ x=>x)) fun _ _ x=>x)
  · rw [if_neg h]
    exact hT s (hn h)
noncomputable def outS (x:Str) (u:Tok):Fin:=.done (.ret (.str ⟨(subL x.cps.toList).toArray⟩ u))
theorem sub_tail {L:Addr} {x:Str} {n:Nat} {Q:Fin→Shared→Prop} {ps:List Str} (hx:x.cps.size≤4000000) (g:Pieces s.heap L ps) (hfl:ps.flatMap (fun y=>y.cps.toList)=subL x.cps.toList) (k:∀u s',GrowBut L s s'→Q (outS x u) s'):
    wpAny (model prog w) A (do
        let joiner ←reSlice x.cps 0 0 0
        let text ←if ((←seqItems? (.ref L)).getD #[]).isEmpty then pure joiner
          else call (.builtin (if (0==0)=true then "str.join" else "bytes.join")) [joiner,.ref L]
        if false=true then ret (←holding [text] do newTuple [text,←mkInt (n:Int)]) else ret text:Sem Fin) Q E s:=by
  obtain ⟨j,hj⟩:∃j:Str,(⟨x.cps.extract 0 0⟩:Str)=j:=⟨_,rfl⟩
  have hz0:j.length=0:=by
    rw [←hj]
    show (x.cps.extract 0 0).size=0
    rw [Array.size_extract]
    exact Nat.sub_eq_zero_of_le (Nat.min_le_left 0 _)
  have fin:∀(u:Tok) (s':Shared) (y:Str),y.cps.toList=subL x.cps.toList→GrowBut L s s'→Q (.done (.ret (.str y u))) s':=fun u s' y hy B=>by
    have e:y=⟨(subL x.cps.toList).toArray⟩:=PySem.Str.ext' (Array.ext' hy)
    exact e ▸ k u s' B
  refine wpAny_bind (wpAny_mkStr ?_ (show (⟨x.cps.extract 0 0⟩:Str).length≤sizeLine from hj ▸ hz0 ▸ Nat.zero_le _))
  rw [hj]
  obtain ⟨l,n',g2,rfl⟩:=g.ls
  have B0:∀k,GrowBut L s { s with toks:=k }:=fun _=>⟨fun _ _ _ e=>e,Nat.le_refl _,rfl,rfl⟩
  refine wpAny_bind (wpAny_seqItems (s:={ s with toks:=s.toks+1 }) g2 rfl ?_)
  have hlen:(subL x.cps.toList).length≤8000000:=Nat.le_trans (subL_len _) (Nat.mul_le_mul_left 2 (Nat.le_trans (Nat.le_of_eq (Array.length_toList ..)) hx))
  have hg:=glued_flat hz0 (l.map (·.1))
  rw [hfl] at hg
  cases l with
  | nil=>exact wpAny_bind (wpAny_pure (wpAny_pure (fin _ _ _ (hfl ▸ List.eq_nil_of_length_eq_zero (by rw [Array.length_toList];exact hz0)) (B0 _))))
  | cons p l=>
    refine wpAny_bind (call_meets (s:={ s with toks:=s.toks+1 }) _root_.PySem.F.slot_str_join (typeIs_str _ _ _) _root_.PySem.F.entry_str_join (_root_.PySem.F.args_str_join_2 _ _) (meets_str_join_list _ _ L (p::l) ?_) ⟨⟨_,g2,rfl,n',rfl⟩,?_⟩)
    · unfold tooLong
      rw [List.foldl_toArray,foldLen _ 0 j hz0,Nat.zero_add,hfl]
      exact decide_eq_false (Nat.not_lt.mpr (Nat.le_trans hlen (show 8000000≤sizeLine by decide)))
    · cases l with
      | nil=>exact wpAny_pure (fin _ _ _ (hfl ▸ (List.append_nil _).symm) (B0 _))
      | cons q r=>exact ⟨Nat.le_trans (Nat.le_of_eq ((Array.length_toList ..).symm.trans (congrArg List.length hg))) (Nat.le_trans hlen (by decide)),wpAny_pure (fin _ _ _ hg (B0 _))⟩
theorem piece_add {L:Addr} {x:Str} {d p:Nat} {ps:List Str} {Q1:Shared→Prop} (hp:p≤x.cps.size) (hx:x.cps.size≤4000000) (g:Pieces s.heap L ps) (hl:ps.length≤8000000) (k:∀s',GrowBut L s s'→Pieces s'.heap L (ps++[⟨x.cps.extract d p⟩])→Q1 s'):
    wpAny (model prog w) A (reSlice x.cps 0 d p) (fun y s'=>wpAny (model prog w) A (updateSeq L (·.push y)) (fun _ s''=>Q1 s'') E s') E s:=by
  refine wpAny_mkStr (s:=s) ?_ (show (x.cps.extract d p).size≤sizeLine from ?_)
  · exact pieces_push (s:={ s with toks:=s.toks+1 }) g (Nat.le_trans hl (by decide)) fun h1 g1 sb=>k _ ⟨fun a o n e=>(sb.2 a n).trans e,Nat.le_of_eq sb.1.symm,rfl,rfl⟩ g1
  · rw [Array.size_extract]
    exact Nat.le_trans (Nat.sub_le _ _) (Nat.le_trans (Nat.min_le_left _ _) (Nat.le_trans hp (Nat.le_trans hx (show 4000000≤sizeLine by decide))))
theorem code_subLoop {K:SubK} {x:Str} {t:Tok} {R:Result→Shared→Prop} (hx:x.cps.size≤4000000):
    ∀(m d n:Nat) (must:Bool) (s:Shared) (ps:List Str),m=x.cps.size - d→d≤x.cps.size→SubCx A s.heap K→Pieces s.heap K.L ps→ps.length≤2 * d→
      (ps.flatMap fun y=>y.cps.toList)++subL (x.cps.toList.drop d)=subL x.cps.toList→
      (∀u s',GrowBut K.L s s'→R (.ok (.ret (.str ⟨(subL x.cps.toList).toArray⟩ u))) s')→codeAny (model prog w) A (.builtin "re.Pattern.sub.loop" (loopArgs K.P K.f K.L x t n d must)) R s:=by
  intro m
  induction m using Nat.strongRecOn with
  | ind m ih=>
  intro d n must s ps hm hd C g hlen htot k
  refine builtin_turn (den_builtin entry_pat_loop) under_loop fun Q E hdone hagain=>?_
  unfold Builtin.«re.Pattern.sub.loop»
  refine wpAny_bind (wp_whole C.pat ?_)
  dsimp only
  rw [if_neg (by decide),if_neg (show ¬ (((0:Int) != 0&&decide ((n:Int)≥0))=true) by simp)]
  unfold reNextFound
  have hl8:ps.length≤8000000:=Nat.le_trans hlen (Nat.mul_le_mul_left 2 (Nat.le_trans hd hx))
  cases e:nextSp x.cps (x.cps.size+1 - d) d with
  | none=>
    refine wpAny_bind (run_none_w (pos:=d) e ?_)
    have hpl:=drop_plain (nextSp_none rfl e)
    rw [hpl] at htot
    refine ite_jp (fun s1=>GrowBut K.L s s1∧∃ps1,Pieces s1.heap K.L ps1∧ps1.flatMap (fun y=>y.cps.toList)=subL x.cps.toList) (fun hc=>piece_add (Nat.le_refl _) hx g hl8 fun s' B g'=>⟨B,_,g',?_⟩) (fun hc=>⟨⟨fun _ _ _ e=>e,Nat.le_refl _,rfl,rfl⟩,ps,g,?_⟩) fun s1 h=>?_
    · rw [←htot,List.flatMap_append,List.flatMap_singleton,Array.toList_extract,List.extract_eq_take_drop,List.take_of_length_le (by rw [List.length_drop,Array.length_toList];exact Nat.le_refl _)]
      rfl
    · rw [←htot,List.drop_of_length_le (by rw [Array.length_toList];exact Nat.not_lt.mp hc),List.append_nil]
    · obtain ⟨B1,ps1,g1,hfl⟩:=h
      exact sub_tail hx g1 hfl fun u s' B=>hdone _ _ (k u s' (B1.trans B))
  | some p=>
    obtain ⟨h1,h2,h3⟩:=nextSp_lt e
    refine wpAny_bind (run_some_w (pos:=d) e fun seen=>?_)
    refine ite_jp (fun s1=>GrowBut K.L s s1∧∃ps1:List Str,Pieces s1.heap K.L ps1∧ps1.length≤2 * d+1∧ps1.flatMap (fun y=>y.cps.toList)=ps.flatMap (fun y=>y.cps.toList)++(x.cps.extract d p).toList) (fun hc=>piece_add (Nat.le_of_lt h2) hx g hl8 fun s' B g'=>⟨B,_,g',?_,?_⟩) (fun hc=>⟨⟨fun _ _ _ e=>e,Nat.le_refl _,rfl,rfl⟩,ps,g,Nat.le_succ_of_le hlen,?_⟩) fun s1 h=>?_
    · rw [List.length_append];exact Nat.succ_le_succ hlen
    · rw [List.flatMap_append,List.flatMap_singleton]
      rfl
    · rw [Nat.le_antisymm h1 (Nat.not_lt.mp hc),Array.toList_extract,List.extract_eq_take_drop,Nat.sub_self,List.take_zero,List.append_nil]
    · obtain ⟨B1,ps1,g1,hl1,hfl⟩:=h
      have C1:=C.move B1.keep
      rw [if_neg (by decide)]
      refine wpAny_bind (wp_newMatch (wpAny_bind (wpAny_holding ?_)))
      rw [if_pos (by decide)]
      have hz2:(s1.heap.push (spanObj p)).objs.size=s1.heap.objs.size+1:=Heap.size_push ..
      have G2:Grow s1 { s1 with heap:=(s1.heap.push (spanObj p)).push (matchObj x t K.P s1.heap.objs.size) }:=⟨fun a o e=>Heap.get?_push_of_some _ (Heap.get?_push_of_some _ e),by show _≤((s1.heap.push (spanObj p)).push _).objs.size;rw [Heap.size_push,hz2];exact Nat.le_add_right _ 2,rfl,rfl⟩
      have C2:=C1.move G2.but.keep
      refine call_lam (p:=p) (x:=x) (t:=t) (P:=K.P) (tA:=s1.heap.objs.size) C2.lam C2.crec C2.nolimit C2.room (by rw [←hz2];exact Heap.get?_push_size _ rfl) (Heap.get?_push_of_some _ (Heap.get?_push_size _ rfl)) h2 C2.line fun u s3 G3=>?_
      rw [if_pos (by rfl)]
      have g3:Pieces s3.heap K.L ps1:=g1.keeps fun o e=>G3.keep _ _ (G2.keep _ _ e)
      have hp1:p+1≤x.cps.size:=h2
      have hl2:ps1.length≤2 * p+1:=Nat.le_trans hl1 (Nat.succ_le_succ (Nat.mul_le_mul_left 2 h1))
      refine wpAny_bind (pieces_push g3 (Nat.le_trans hl2 (Nat.le_trans (Nat.succ_le_succ (Nat.mul_le_mul_left 2 (Nat.le_trans (Nat.le_of_lt h2) hx))) (by decide))) fun h' g4 sb=>wpAny_pure (hagain _ _ quiet_loop ?_))
      have B4:GrowBut K.L s1 { s3 with heap:=h' }:=(G2.but.trans G3.but).trans (GrowBut.same sb)
      refine ih (x.cps.size - (p+1)) (hm ▸ Nat.sub_lt_sub_left (Nat.lt_of_le_of_lt h1 h2) (Nat.lt_succ_of_le h1)) (p+1) (n+1) _ _ _ rfl hp1 (C1.move B4.keep) g4 (by rw [List.length_append];exact Nat.succ_le_succ hl2) ?_ fun u s' B=>k u s' ((B1.trans B4).trans B)
      rw [List.flatMap_append,List.flatMap_singleton,hfl,←htot,drop_split h1 h2 h3 (nextSp_first e),PySem.Str.cps_append,Array.toList_append,List.append_assoc,List.append_assoc,List.append_assoc,List.append_assoc (x.cps.extract d p).toList (92::_)]
      have eb : (PySem.Str.ofString "\\").cps.toList = [92] := by first | rfl | decide +kernel
      rw [eb]
      rfl
end
end Mine
end
section
open PySem PySem.W PyProof.Rows PySem.Builtin.Str PySem.Builtin.Re PySem.Sre
set_option tactic.hygienic false
namespace Mine
theorem lk_fn_call:∃v,typeLookup (.type "function") "__call__"=pure (some v):=⟨.builtin "function.__call__",by rw [typeLookup_type,builtinLookup_eq_fast];kernel_rfl⟩
theorem sub_str_bytearray:isSubtype (.type "str") (.type "bytearray")=pure false:=by rw [isSubtype_type];kernel_rfl
section
variable {prog:Program} {w:World} {A:Around} {E:Value→Shared→Prop} {s:Shared}
theorem call_sub {P cA f:Addr} {fs items:Array Value} {name qual:Str} {pa p1 p2 p3 p4 p5 p6 p7 p8:Pos} {pm cdv ctv:Value} {x:Str} {t:Tok} {Q:Value→Shared→Prop} (hx:x.cps.size≤4000000)
    (hP:PatAt s.heap P fs cA items) (hf:s.heap.get? f=some { cls:=.type "function",data:=.func (kla_fn name qual (lamParams pa) (lamBody p1 p2 p3 p4 p5 p6 p7 p8) lamScope [] pm cdv ctv) }) (hcd:s.heap.CodeRec cdv qual)
    (hl:s.heap.NoLimit) (hroom:A.depth < recursionLimit) (hline:(p3.endLine==p5.line)=true)
    (k:∀u s',Grow s s'→Q (.str ⟨(subL x.cps.toList).toArray⟩ u) s'):wpAny (model prog w) A (call (.builtin "re.Pattern.sub") [.ref P,.ref f,.str x t]) Q E s:=by
  obtain ⟨o,ho,hc,hd,hdt⟩:=hP.pat
  have hT:s.TypeIs (.ref P) "re.Pattern":=⟨o,ho,hc⟩
  have hTf:s.TypeIs (.ref f) "function":=⟨_,hf,rfl⟩
  obtain ⟨fc,hfc⟩:=lk_fn_call
  refine wpAny_call (codeAny_call_builtin slot_pat_sub.plain entry_pat_sub (slot_pat_sub.check _ _ _ _ _ _ _ _ hT (args_pat_sub _ _ _) ?_))
  unfold Builtin.«re.Pattern.sub» reSubstitute
  refine wpAny_bind (wpAny_of_eq (a:=[some (.ref f),some (.str x t),none]) (by first | rfl | kernel_rfl) ?_)
  dsimp only
  refine wpAny_bind (wpAny_pure ?_)
  refine wpAny_bind (wpAny_specialOf hTf hfc ?_)
  rw [if_pos (by rfl)]
  refine wpAny_bind (wpAny_pure ?_)
  rw [if_pos (by rfl)]
  refine wpAny_bind (wpAny_pure ?_)
  dsimp only
  refine wpAny_bind (wpAny_holding (wp_whole hP ?_))
  rw [if_pos (by decide)]
  have hheld:∀{Q':Unit→Shared→Prop} {A':Around} {E':Value→Shared→Prop},Q' () s→wpAny (model prog w) A' (reNotHeld "re.Pattern.sub" (.str x t)) Q' E' s:=fun {Q'} {A'} {E'} hQ=>by
    unfold reNotHeld
    refine wpAny_bind (wpAny_isInstance (typeIs_str s x t) sub_str_bytearray ?_)
    rw [if_neg (by decide)]
    exact wpAny_pure hQ
  refine wpAny_bind (hheld ?_)
  refine wpAny_bind (wpAny_newObj_type ?_ (by size_fits))
  refine wpAny_pure ⟨quiet_loop,?_⟩
  have hk:∀a o',s.heap.get? a=some o'→(s.heap.push (listObj [] 0)).get? a=some o':=fun a o' e=>Heap.get?_push_of_some _ e
  have ne:∀{a o'},s.heap.get? a=some o'→a≠s.heap.objs.size:=fun e=>Nat.ne_of_lt (Heap.lt_size e)
  obtain ⟨oc,n,hoc,_⟩:=hP.tup
  refine code_subLoop (K:=⟨P,cA,f,s.heap.objs.size,fs,items,name,qual,pa,p1,p2,p3,p4,p5,p6,p7,p8,pm,cdv,ctv⟩) hx _ 0 0 false _ [] rfl (Nat.zero_le _) ⟨hP.keeps hk,hk _ _ hf,hcd.keeps hk,hl.keeps hk,hroom,hline,⟨ne ho,ne hoc,ne hf⟩,fun c e=>?_,fun h' hk'=>hl.keeps fun a o' e=>hk' a o' (ne e) (hk _ _ e)⟩ ⟨[],0,Heap.get?_push_size _ rfl,rfl⟩ (Nat.le_refl _) (by simp) fun u s' B=>?_
  · obtain ⟨c',o',vs,t',e',g',_⟩:=hcd
    exact Value.ref.inj (e'.symm.trans e) ▸ ne g'
  · refine k u s' ⟨fun a o' e=>B.keep a o' (ne e) (hk _ _ e),?_,B.os,B.gens⟩
    have:=B.size
    have e:(s.heap.push (listObj [] 0)).objs.size=s.heap.objs.size+1:=Heap.size_push ..
    exact Nat.le_trans (by rw [←Nat.succ_eq_add_one] at e;exact Nat.le_trans (Nat.le_succ _) (Nat.le_of_eq e.symm)) this
end
end Mine
end
section
open PySem PySem.W PyProof.Rows PySem.Builtin.Str PySem.Builtin.Re PySem.Sre
set_option tactic.hygienic false
namespace Mine
set_option tactic.hygienic true in
theorem codeAmong_app {pos pos':Pos} {c cv:Value} (l:List Value) (h:TriplesOk l) (hf:codeAmong pos' (l++[rawInt pos.line,rawInt pos.col,c])=some cv):
    codeAmong pos' l=some cv∨(cv=c∧pos'.line=pos.line∧pos'.col=pos.col):=by
  fun_induction TriplesOk l with
  | case1=>
    simp [codeAmong,rawInt] at hf
    exact .inr ⟨hf.2.symm,by lia,by lia⟩
  | case2 a t b u x rest ih=>
    simp only [List.cons_append,codeAmong] at hf ⊢
    split at hf
    · rename_i hc;rw [if_pos hc];exact .inl hf
    · rename_i hc;rw [if_neg hc];exact ih h hf
  | case3 l h1 h2=>exact h.elim
section
variable {X:Cx} {F:FI} {d:Nat}
structure MakeOK (X:Cx) (F:FI) (c T:Addr) (pos:Pos) (nm:Str):Prop where
  cd:F.cd=.ref c
  hd:CodeHd X.B c T
  tb:X.Tb T
  nm:X.tq T pos.line pos.col=F.ql++nm
  bi:∃bm o,X.mg "__builtins__"=some (.ref bm)∧bm≠builtinsNs∧bm≠mainGlobals∧X.B.get? bm=some o∧o.cls=.type "module"∧o.dict=some builtinsNs∧o.data=.plain
theorem R.coded {Av Mu:Addr→Prop} {env:Env} {st:St} {s:Shared} (r:R X F Av Mu env st s) {T c':Addr} {ps:Array Value} {pos:Pos} {h':Heap} {tk:Nat} (hT:X.Tb T) (hp:s.heap.get? T=some (tabO ps)) (hx:Heap.ExtBut T s.heap h') (hge:s.heap.objs.size≤c') (hlt:c' < h'.objs.size)
    (hrec:h'.CodeRec (.ref c') (X.tq T pos.line pos.col)) (hnew:h'.get? T=some (tabO (ps++#[rawInt pos.line,rawInt pos.col,.ref c']))) (hz:s.heap.objs.size≤h'.objs.size):
    R X F Av Mu env st { s with heap:=h',toks:=tk }∧StepE env Av Mu s Av Mu { s with heap:=h',toks:=tk }:=by
  have hk:∀a o,s.heap.get? a=some o→¬ X.Tb a→h'.get? a=some o:=fun a o e n=>hx a o (fun q=>n (q ▸ hT)) e
  have nAv:¬ Av c':=fun q=>absurd (r.lt c' q) (Nat.not_lt.mpr hge)
  have R1:R X F Av Mu env st { s with heap:=h',toks:=tk }:=by
    refine r.keep' hk (fun a t=>?_) hz (fun _ h=>h) (fun _ h=>.inl h) (fun _ h=>h) r.ma
    by_cases e:a=T
    · subst e
      obtain ⟨ps',q,t3,w⟩:=(r.tabs a hT).2
      rw [hp] at q
      cases q
      refine ⟨_,hnew,?_,fun pos' cv hc=>?_⟩
      · rw [Array.toList_append]
        exact TriplesOk_snoc _ _ _ _ t3
      · rw [Array.toList_append] at hc
        rcases codeAmong_app _ t3 hc with hc | ⟨hc,l1,l2⟩
        · obtain ⟨c,o,vs,t,e1,e2,e3,e4,e5⟩:=w pos' cv hc
          exact ⟨c,o,vs,t,e1,hx c o (fun q=>e3 (q ▸ r.ma _ (r.tabs a hT).1)) e2,e3,e4,e5⟩
        · obtain ⟨c,o,vs,t,e1,e2,e4,e5⟩:=hrec
          cases e1
          exact ⟨c',o,vs,t,hc,e2,nAv,e4,by rw [l1,l2];exact e5⟩
    · exact (r.tabs a t).2.mono (fun o q=>hx a o e q) fun b o q n _=>⟨hx b o (fun z=>n (z ▸ r.ma _ (r.tabs T hT).1)) q,n⟩
  exact ⟨R1,⟨⟨fun a o e n=>hx a o (fun q=>n (q ▸ (r.tabs T hT).1)) e,fun _ h=>.inl h,fun _ h=>.inl h,fun _ h _=>h,hz,rfl,id⟩,r.valsAfter hk⟩⟩
theorem wp_lambda {A:Around} {Av Mu:Addr→Prop} {env:Env} {st:St} {s:Shared} {Q:Value→Shared→Prop} {E:Value→Shared→Prop} {c T:Addr} {pos:Pos} {params:Arguments} {body:Expr} {scope:Scope} (ok:MakeOK X F c T pos "<lambda>")
    (hdef:defaultsOf params env=([],[])) (hfree:∀x∈scope.names,x.2≠.free) (r:R X F Av Mu env st s)
    (k:∀f pm cdv ctv s',R X F Av Mu env st s'→StepE env Av Mu s Av Mu s'→s'.heap.get? f=some { cls:=.type "function",data:=.func (kla_fn "<lambda>" (F.ql++"<lambda>") params body scope [] pm cdv ctv) }→¬ Av f→s'.heap.CodeRec cdv (F.ql++"<lambda>")→(∀c,cdv=.ref c→¬ Av c)→Q (.ref f) s'):
    wpAny (model X.prog X.w) A (eval (.Lambda params body scope pos) env) Q E s:=by
  refine kla_eval hdef ?_
  have hg:s.heap.Ns mainGlobals X.mg:=X.g.keeps fun b o e=>(r.base b o e).1
  obtain ⟨hMu,ps,hp,t3,w⟩:=r.tabs T ok.tb
  have hC:CodeHd s.heap c T:=ok.hd.keeps fun b o e=>(r.base b o e).1
  obtain ⟨bm,ob,b1,b2,b3,b4,b5,b6,b7⟩:=ok.bi
  have hbT:bm≠T:=fun q=>(r.base _ _ b4).2 (q ▸ r.ma _ hMu)
  have hB:s.heap.BuiltinsAt X.mg T:=⟨bm,ob,b1,b2,b3,hbT,(r.base _ _ b4).1,b5,b6,b7⟩
  have hGT:mainGlobals≠T:=fun q=>by
    obtain ⟨o,es,ep,e,hd,_⟩:=hg
    rw [q,hp] at e;cases e;cases hd
  have hql:env.qual++"<lambda>"=F.ql++"<lambda>":=by rw [r.ql]
  rw [hql]
  have hcl:closureFor scope env=pure []:=closureFor_none hfree
  cases hc:codeAmong pos ps.toList with
  | none=>
    refine kla_makeFunction (mg:=X.mg) hcl r.gl hg (by rw [r.cd];exact ok.cd) hC hp t3 hc hGT hB fun c' ctv h' tk hx hge hlt hrec htb=>?_
    have hz:s.heap.objs.size≤h'.objs.size:=Nat.le_of_lt (Nat.lt_of_le_of_lt hge hlt)
    obtain ⟨R1,S1⟩:=r.coded (tk:=tk) ok.tb hp hx hge hlt (by rw [ok.nm];exact hrec) htb hz
    have G:=Grow.push (s:={ s with heap:=h',toks:=tk }) (kla_obj "<lambda>" (F.ql++"<lambda>") params body scope [] ((X.mg "__name__").getD .none) c' ctv) (tk:=tk) (d:=s.drawn)
    refine k _ _ _ _ _ (R1.grow G) (S1.trans (StepE.ofGrow G) r.lt) (Heap.get?_push_size _ rfl) (fun q=>absurd (R1.lt _ q) (Nat.lt_irrefl _)) (hrec.keeps fun _ _ e=>Heap.get?_push_of_some _ e) fun c2 e=>?_
    cases e
    exact fun q=>absurd (r.lt _ q) (Nat.not_lt.mpr hge)
  | some cv=>
    obtain ⟨c',o,vs,t,e1,e2,e3,e4,e5⟩:=w pos cv hc
    subst e1
    refine kla_makeFunctionHit (mg:=X.mg) hcl r.gl hg (by rw [r.cd];exact ok.cd) hC hp t3 hc hB fun ctv h' tk hk hz=>?_
    have G1:Grow s { s with heap:=h',toks:=tk }:=⟨hk,hz,rfl,rfl⟩
    have G:=G1.trans (Grow.push (s:={ s with heap:=h',toks:=tk }) { cls:=.type "function",data:=.func (kla_fn "<lambda>" (F.ql++"<lambda>") params body scope [] ((X.mg "__name__").getD .none) (.ref c') ctv) } (tk:=tk) (d:=s.drawn))
    refine k _ _ _ _ _ (r.grow G) (StepE.ofGrow G) (Heap.get?_push_size _ rfl) (fun q=>absurd ((r.grow G1).lt _ q) (Nat.lt_irrefl _)) ⟨c',o,vs,t,rfl,G.keep _ _ e2,e4,by rw [←ok.nm];exact e5⟩ fun c2 e=>?_
    cases e
    exact e3
theorem lam_free:∀x∈lamScope.names,x.2≠.free:=by
  intro x hx
  cases hx with
  | head=>decide
  | tail _ h=>cases h
noncomputable def subF:PV→Option PV
  | .str x=>if x.cps.size≤4000000 then some (.str ⟨(subL x.cps.toList).toArray⟩) else none
  | _=>none
set_option tactic.hygienic true in
theorem s_sub {tw y:Str} {tp apos yp lpos pos pa p1 p2 p3 p4 p5 p6 p7 p8:Pos} {c T P cA:Addr} {fs items:Array Value} {i:Nat} (ok:MakeOK X F c T lpos "<lambda>") (hx:F.scope.names.lookup tw=some .globalImplicit) (hg:X.mg tw=some (.ref P))
    (hP:PatAt X.B P fs cA items) (hi:F.names[i]? =some y) (hline:autoParam ((apos.endLine==pos.line)=true) Mine.au2._auto_1) (hline2:autoParam ((p3.endLine==p5.line)=true) Mine.au2._auto_1)
    (hn:autoParam ((y==("__classdict__":Str))=false) Mine.au3._auto_1) (hd:autoParam ((y==("__debug__":Str))=false) Mine.au3._auto_1) (hd2:autoParam ((tw==("__debug__":Str))=false) Mine.au3._auto_1)
    (hbase:autoParam (∀env,attributeBase (.Name tw tp) "sub" env (eval (.Name tw tp) env)=eval (.Name tw tp) env) Mine.au4._auto_1):
    SoundE X F d (.Call (.Attribute (.Name tw tp) "sub" apos) [.Lambda (lamParams pa) (lamBody p1 p2 p3 p4 p5 p6 p7 p8) lamScope lpos,.Name y yp] [] pos) (bindE (getV i) fun p=>liftE (subF p)):=by
  refine @SoundT.intro _ _ _ _ _ _ _ _ ?_
  intro A Av Mu env st st' s v Q E hA hf R₀ tk k
  refine bindE_elim hf fun a st1 h1 hf1=>?_
  obtain ⟨h3,e3⟩:=liftE_some hf1
  subst e3
  unfold subF at h3
  split at h3<;>(try cases h3)
  split at h3<;>cases h3
  rename_i x hsz
  refine wpAny_Call_method_lateS (hbase env) rfl hline (wp_gname R₀ hx hg ?_ hd2)
  have hP0:PatAt s.heap P fs cA items:=hP.keeps fun b o e=>(R₀.base b o e).1
  obtain ⟨o,ho,hc,hdn,hdt⟩:=hP0.pat
  refine ⟨"re.Pattern","re.Pattern.sub",plainAttrs_pat,slot_pat_sub,type_pat_sub,⟨o,ho,hc⟩,(fun b q=>by cases q;exact ⟨o,ho,hdn⟩),callArgs rfl ?_⟩
  show wpAny _ _ (spliced (backTo pos [(false,eval (.Lambda (lamParams pa) (lamBody p1 p2 p3 p4 p5 p6 p7 p8) lamScope lpos) env),(false,eval (.Name y yp) env)])) _ _ _
  refine Calls.spliced_cons ?_
  show wpAny _ _ (eval (.Lambda (lamParams pa) (lamBody p1 p2 p3 p4 p5 p6 p7 p8) lamScope lpos) env) _ _ _
  refine wp_lambda ok rfl lam_free R₀ fun f pm cdv ctv s1 R1 S1 hf nf hcd nc=>?_
  refine Calls.spliced_cons ?_
  show wpAny _ _ (eval (.Name y yp) env) _ _ _
  refine wpAny_Name (wp_getV R1 hi h1 hn fun v Av2 Mu2 R2 S2 V2=>Calls.spliced_nil ?_) hd
  unfold VR at V2
  obtain ⟨t,rfl⟩:=V2
  refine call_sub hsz (hP.keeps fun b o e=>(R1.base b o e).1) hf hcd (X.nolimit.keeps fun b o e=>(R1.base b o e).1) (by have:=hA.2.1;show A.depth < 1000;lia) hline2 fun u s' G=>?_
  exact k _ _ _ _ (R2.grow G) ((S1.trans S2 R₀.lt).trans (StepE.ofGrow G) R₀.lt) VR.str'
end
end Mine
end
section
open PySem PySem.W PyProof.Rows PySem.Builtin.Str
set_option tactic.hygienic false
namespace Mine
noncomputable def GRel (C I:Addr) (s₀ s:Shared):Prop:=∃h' tk,s={ s₀ with heap:=h',toks:=tk }∧(∀b o,b≠C→b≠I→s₀.heap.get? b=some o→h'.get? b=some o)∧s₀.toks≤tk
theorem GRel.refl (C I:Addr) (s:Shared):GRel C I s s:=⟨s.heap,s.toks,rfl,fun _ _ _ _ e=>e,Nat.le_refl _⟩
theorem GRel.step {C I:Addr} {s₀ s:Shared} (x:GRel C I s₀ s) {h':Heap} {tk:Nat} (hk:∀b o,b≠C→b≠I→s.heap.get? b=some o→h'.get? b=some o) (ht:s.toks≤tk):GRel C I s₀ { s with heap:=h',toks:=tk }:=by
  obtain ⟨h₁,t₁,rfl,k₁,l₁⟩:=x
  exact ⟨h',tk,rfl,fun b o c i e=>hk b o c i (k₁ b o c i e),Nat.le_trans l₁ ht⟩
noncomputable def Later (fp:List Addr) (s s'':Shared):Prop:=1≤s''.toks∧∀b∈fp,∀o,s.heap.get? b=some o→s''.heap.get? b=some o
noncomputable def GP (C I:Addr) (fp:List Addr) (outs:List Str):Protocol:=fun m s₀ v s kap=>
  (∃y u,outs[outs.length - 1 - m]? =some y∧v=.str y u)∧GRel C I s₀ s∧∀s'',Later fp s s''→kap (.send .none) s''
structure GInv (C I l:Addr) (lt:List (Str×Tok)) (j:Nat) (s:Shared):Prop where
  it:s.heap.IsListIter I l j
  ls:s.heap.IsList l (lt.map fun p=>Value.str p.1 p.2).toArray
  ns:∃m,s.heap.Ns C m
  nb:NoneBooked s.heap
  tk:1≤s.toks
theorem GInv.later {C I l:Addr} {lt:List (Str×Tok)} {j:Nat} {s s'':Shared} (x:GInv C I l lt j s) (h:Later [C,I,l,cStatics] s s''):GInv C I l lt j s'':=
  ⟨let ⟨o,e,r⟩:=x.it;⟨o,h.2 I (by simp) o e,r⟩,let ⟨o,e,r⟩:=x.ls;⟨o,h.2 l (by simp) o e,r⟩,let ⟨m,o,es,ep,e,r⟩:=x.ns;⟨m,o,es,ep,h.2 C (by simp) o e,r⟩,
    let ⟨mc,⟨o,es,ep,e,r⟩,q⟩:=x.nb;⟨mc,⟨o,es,ep,h.2 cStatics (by simp) o e,r⟩,q⟩,h.1⟩
structure EltOK (prog:Program) (w:World) (cenv:Env) (x:Str) (elt:Expr) (ok:Str→Prop) (f:Str→Str):Prop where
  w:∀{A:Around} {E:Value→Shared→Prop} {Q:Value→Shared→Prop} {y:Str} {t:Tok} {s:Shared} {m:Str→Option Value},ok y→A.handled=none→1≤s.toks→NoneBooked s.heap→s.heap.Ns cenv.locals m→m x=some (.str y t)→
    (∀u h' tk,(∀b o,s.heap.get? b=some o→h'.get? b=some o)→s.toks≤tk→Q (.str (f y) u) { s with heap:=h',toks:=tk })→wpAny (model prog w) A (eval elt cenv) Q E s
section
variable {prog:Program} {w:World} {A:Around}
theorem seg_g {elt iter:Expr} {x:Str} {px:Pos} {scope:Scope} {pos:Pos} {I l:Addr} {cenv:Env} {lt:List (Str×Tok)} {ok:Str→Prop} {f:Str→Str} (hh:A.handled=none)
    (hx:cenv.kindOf x=some .local) (hp:(cenv.scope.kind==.class||(cenv.scope.kind==.module&&cenv.locals != cenv.globals))=false) (hco:cenv.scope.isCoroutine=false)
    (hCI:cenv.locals≠I) (hCl:cenv.locals≠l) (hIl:l≠I) (hCs:cStatics≠cenv.locals) (hIs:cStatics≠I) (hok:∀p∈lt,ok p.1) (he:EltOK prog w cenv x elt ok f):
    ∀(k j:Nat) (s₀ s:Shared),lt.length - j=k→j≤lt.length→GInv cenv.locals I l lt j s→GRel cenv.locals I s₀ s→
      Seg (model prog w) A (fun n s₀ r s₁=>r=.ok .next∧(n=0∧GRel cenv.locals I s₀ s₁)) (GP cenv.locals I [cenv.locals,I,l,cStatics] (lt.map fun p=>f p.1)) k s₀
        (.compLoop (.GeneratorExp elt [⟨.Name x px,iter,[],0⟩] scope pos) 0 (.ref I) .none cenv)
        ((model prog w).den (.compLoop (.GeneratorExp elt [⟨.Name x px,iter,[],0⟩] scope pos) 0 (.ref I) .none cenv)) [] s:=by
  have hh':(A.over (.compLoop (.GeneratorExp elt [⟨.Name x px,iter,[],0⟩] scope pos) 0 (.ref I) .none cenv) []).handled=none:=hh
  intro k
  induction k with
  | zero=>
    intro j s₀ s hk hj G S
    show Seg _ A _ _ _ s₀ _ ((compTurn (.GeneratorExp elt [⟨.Name x px,iter,[],0⟩] scope pos) 0 (.ref I) .none cenv).onRaise (leaving cenv)) [] s
    rw [compTurn_gen,Sem.onRaise_eq_wrap]
    refine seg_bind_wrap (wpAny_standAt ?_)
    refine seg_bind_wrap (wpAny_pyNext_list_end hh' G.it G.ls (by simp;lia) fun h' he'=>?_)
    exact seg_end (.ok .next) ⟨rfl,rfl,S.step (fun b o _ bi e=>he' b o bi e) (Nat.le_refl _)⟩
  | succ k ih=>
    intro j s₀ s hk hj G S
    have hlt:j < lt.length:=by lia
    show Seg _ A _ _ _ s₀ _ ((compTurn (.GeneratorExp elt [⟨.Name x px,iter,[],0⟩] scope pos) 0 (.ref I) .none cenv).onRaise (leaving cenv)) [] s
    rw [compTurn_gen,Sem.onRaise_eq_wrap]
    refine seg_bind_wrap (wpAny_standAt ?_)
    refine seg_bind_wrap (wpAny_pyNext_list_item G.it G.ls (x:=.str lt[j].1 lt[j].2) (by simp [hlt]) fun h₁ hi₁ hs₁=>?_)
    refine seg_bind_wrap (wpAny_of_eq (rfl:letOwnedTupleGo (.Name x px) (.ref I) (.str lt[j].1 lt[j].2)=pure ()) ?_)
    obtain ⟨m,hn⟩:=G.ns
    refine seg_bind_wrap (wpAny_assign_Name (wpAny_storeName_local hx (hn.sameBut hs₁ hCI) (fun h₂ hn₂ hs₂=>?_) hp))
    refine seg_bind_wrap (wpAny_pure ?_)
    simp only [if_true]
    have hy:∀v,yieldOut cenv v=yieldValue v:=fun v=>by simp only [yieldOut,hco,Bool.false_eq_true,if_false]
    simp only [hy]
    rw [Sem.bind_eq_wrap',Sem.bind_eq_wrap',Sem.wrap_wrap,Sem.wrap_wrap]
    have up:∀b o,b≠cenv.locals→b≠I→s.heap.get? b=some o→h₂.get? b=some o:=fun b o c i e=>(hs₂.2 b c).trans ((hs₁.2 b i).trans e)
    have nb₂:NoneBooked h₂:=by
      obtain ⟨mc,⟨o,es,ep,e,r⟩,q⟩:=G.nb
      exact ⟨mc,⟨o,es,ep,up _ o hCs hIs e,r⟩,q⟩
    refine seg_wrap (he.w (t:=lt[j].2) (hok _ (List.getElem_mem hlt)) hh' (by show 1≤s.toks+1;lia) nb₂ hn₂ (by simp) fun u h₃ tk₃ hk₃ ht₃=>?_)
    have G₃:GInv cenv.locals I l lt (j+1) { s with heap:=h₃,toks:=tk₃ }:=by
      refine ⟨?_,?_,⟨_,hn₂.keeps hk₃⟩,?_,?_⟩
      · obtain ⟨o,e,r⟩:=hi₁
        exact ⟨o,hk₃ _ _ ((hs₂.2 I (Ne.symm hCI)).trans e),r⟩
      · obtain ⟨o,e,r⟩:=G.ls
        exact ⟨o,hk₃ _ _ (up _ _ (Ne.symm hCl) hIl e),r⟩
      · obtain ⟨mc,hc,q⟩:=nb₂
        exact ⟨mc,hc.keeps hk₃,q⟩
      · have h3:s.toks+1≤tk₃:=ht₃
        show 1≤tk₃
        lia
    have S₃:GRel cenv.locals I s₀ { s with heap:=h₃,toks:=tk₃ }:=S.step (fun b o c i e=>hk₃ b o (up b o c i e)) (by have h3:s.toks+1≤tk₃:=ht₃;lia)
    refine seg_at (seg_yield rfl rfl rfl ⟨⟨f lt[j].1,u,?_,rfl⟩,S₃,fun s'' hl=>?_⟩)
    · rw [List.getElem?_map,List.length_map,show lt.length - 1 - k=j by lia,List.getElem?_eq_getElem hlt]
      rfl
    · exact seg_again rfl (ih (j+1) s'' s'' (by lia) hlt (G₃.later hl) (GRel.refl _ _ _))
end
end Mine
end
section
open PySem PySem.W PyProof.Rows PySem.Builtin.Str
set_option tactic.hygienic false
namespace Mine
section
variable {prog:Program} {w:World} {A:Around}
theorem seg_gs {elt iter:Expr} {x:Str} {px:Pos} {scope:Scope} {pos:Pos} {I l:Addr} {cenv:Env} {lt:List (Str×Tok)} {ok:Str→Prop} {f:Str→Str} (hh:A.handled=none)
    (hx:cenv.kindOf x=some .local) (hp:(cenv.scope.kind==.class||(cenv.scope.kind==.module&&cenv.locals != cenv.globals))=false) (hco:cenv.scope.isCoroutine=false)
    (hCI:cenv.locals≠I) (hCl:cenv.locals≠l) (hIl:l≠I) (hCs:cStatics≠cenv.locals) (hIs:cStatics≠I) (hok:∀p∈lt,ok p.1) (he:EltOK prog w cenv x elt ok f) {s₀ s:Shared} (G:GInv cenv.locals I l lt 0 s) (S:GRel cenv.locals I s₀ s):
    Seg (model prog w) A (fun n s₀ r s₁=>r=.ok .next∧(n=0∧GRel cenv.locals I s₀ s₁)) (GP cenv.locals I [cenv.locals,I,l,cStatics] (lt.map fun p=>f p.1)) lt.length s₀
      (.compStart (.GeneratorExp elt [⟨.Name x px,iter,[],0⟩] scope pos) 0 (.ref I) .none cenv)
      ((model prog w).den (.compStart (.GeneratorExp elt [⟨.Name x px,iter,[],0⟩] scope pos) 0 (.ref I) .none cenv)) [] s:=by
  have loop:=seg_g (iter:=iter) (px:=px) (scope:=scope) (pos:=pos) hh hx hp hco hCI hCl hIl hCs hIs hok he lt.length 0 s₀ s (Nat.sub_zero _) (Nat.zero_le _) G S
  show Seg _ A _ _ _ s₀ _ ((compStart (.GeneratorExp elt [⟨.Name x px,iter,[],0⟩] scope pos) 0 (.ref I) .none cenv).onRaise (leaving cenv)) [] s
  unfold compStart
  rw [Sem.onRaise_eq_wrap]
  show Seg _ A _ _ _ s₀ _ ((ask>>=_).wrap _ _ _ _) [] s
  refine seg_bind_wrap (wpAny_askSetting ?_)
  split
  · exact seg_again rfl loop
  · first
      | exact seg_bind_wrap (wpAny_rule (seg_bind_wrap (wpAny_standAt (seg_bind_wrap (wpAny_pyIter_listiter G.it (seg_again rfl loop))))))
      | (refine seg_bind_wrap (wpAny_rule ?_);show Seg _ A _ _ _ s₀ _ ((standAt iter.pos>>=_).wrap _ _ _ _) [] s;exact seg_bind_wrap (wpAny_standAt (seg_bind_wrap (wpAny_pyIter_listiter G.it (seg_again rfl loop)))))
noncomputable def GAt (prog:Program) (w:World) (A:Around) (a:Addr) (g:Nat) (C I l:Addr) (outs:List Str) (j:Nat) (s:Shared):Prop:=
  s.heap.IsGen a g∧s.heap.NoLimit∧1≤s.toks∧∃gs,s.gens[g]? =some gs∧∀s'':Shared,Later [C,I,l,cStatics] s s''→
    gs.Goes (model prog w) A.in1 (fun n s₀ r s₁=>r=.ok .next∧(n=0∧GRel C I s₀ s₁)) (GP C I [C,I,l,cStatics] outs) (outs.length - j) (.send .none) s''
theorem walks_g (hh:A.handled=none) (a:Addr) (g:Nat) (C I l:Addr) (outs:List Str) (haC:a≠C) (haI:a≠I) (hroom:A.depth < recursionLimit) (hcC:cStatics≠C) (hcI:cStatics≠I):
    WalksS prog w A a [a,C,I,l,cStatics] [C,I] (GenOnlyQ g) outs.length (fun j y=>∃z u,outs[j]? =some z∧y=Value.str z u) (GAt prog w A a g C I l outs) where
  sub:=fun b hb=>by
    rcases List.mem_cons.mp hb with rfl | hb
    · simp
    · rw [List.mem_singleton.mp hb];simp
  grefl:=fun _=>.inl rfl
  gtrans:=fun _ _ _ x y=>x.trans y
  frame:=fun j s h' tk st ht hk=>
    ⟨let ⟨o,nm,qn,ho,r⟩:=st.1;⟨o,nm,qn,hk a (by simp) o ho,r⟩,(let ⟨mc,⟨o,es,ep,e,r⟩,q⟩:=st.2.1;⟨mc,⟨o,es,ep,hk cStatics (by simp) o e,r⟩,q⟩),Nat.le_trans st.2.2.1 ht,
     let ⟨gs,hgs,hgo⟩:=st.2.2.2;⟨gs,hgs,fun s'' hal=>hgo s'' ⟨hal.1,fun b hb o e=>hal.2 b hb o (hk b (List.mem_cons_of_mem _ hb) o e)⟩⟩⟩
  item:=fun j s Q E hj st hQ=>by
    obtain ⟨hg,hl,htk1,gs,hgs,hgo⟩:=st
    obtain ⟨m,hm⟩:∃m,outs.length - j=m+1:=⟨outs.length - j - 1,by lia⟩
    rw [hm] at hgo
    refine wpAny_with_toks (Nat.le_refl s.toks) ?_
    refine wpAny_pyNext_genexpQ (P:=fun n s₀ s₁=>n=0∧GRel C I s₀ s₁) hh hl hroom hg hgs (hgo _ ⟨htk1,fun _ _ _ e=>e⟩) (fun v s₁ gs' hb hv=>?_) (fun s₁ hp h' hk=>?_)
    · obtain ⟨⟨y,u,hi,rfl⟩,⟨h₁,tk₁,rfl,hk₁,ht₁⟩,hkap⟩:=hv
      have hidx:outs.length - 1 - (m+1 - 1)=j:=by lia
      rw [hidx] at hi
      intro htk
      have ht1:s.toks≤tk₁:=ht₁
      refine hQ _ _ ⟨y,u,hi,rfl⟩ ⟨let ⟨o,nm,qn,ho,r⟩:=hg;⟨o,nm,qn,hk₁ a o haC haI ho,r⟩,(let ⟨mc,⟨o,es,ep,e,r⟩,q⟩:=hl;⟨mc,⟨o,es,ep,hk₁ cStatics o hcC hcI e,r⟩,q⟩),Nat.le_trans htk1 ht1,gs',setGen_self (gs:=.running) (setGen_self hgs),fun s'' hal=>?_⟩
        ⟨fun b o hb e=>hk₁ b o (fun h=>hb (by simp [h])) (fun h=>hb (by simp [h])) e,GenOnlyQ.of ((GenOnly.setGen s g .running).trans (GenOnly.setGen _ g gs')) (setGen_self (gs:=.running) (setGen_self hgs)) hb,rfl,rfl,htk⟩
      have e:outs.length - (j+1)=m:=by lia
      rw [e]
      exact hkap s'' hal
    · exact absurd hp.1 (Nat.succ_ne_zero m)
  done:=fun s Q E st hQ=>by
    obtain ⟨hg,hl,htk1,gs,hgs,hgo⟩:=st
    rw [Nat.sub_self] at hgo
    refine wpAny_with_toks (Nat.le_refl s.toks) ?_
    refine wpAny_pyNext_genexpQ (P:=fun n s₀ s₁=>n=0∧GRel C I s₀ s₁) hh hl hroom hg hgs (hgo _ ⟨htk1,fun _ _ _ e=>e⟩) (fun v s₁ gs' hb hv=>?_) (fun s₁ hp h' hk=>?_)
    · obtain ⟨_,⟨h₁,tk₁,rfl,hk₁,ht₁⟩,hkap⟩:=hv
      have ht1:s.toks≤tk₁:=ht₁
      exact False.elim (hkap { s with heap:=h₁,toks:=tk₁ } ⟨Nat.le_trans htk1 ht1,fun _ _ _ e=>e⟩)
    · obtain ⟨_,h₁,tk₁,rfl,hk₁,_⟩:=hp
      intro htk
      exact hQ _ ⟨fun b o hb e=>hk b o (hk₁ b o (fun h=>hb (by simp [h])) (fun h=>hb (by simp [h])) e),GenOnlyQ.of ((GenOnly.setGen s g .running).trans (GenOnly.setGen _ g .finished)) (setGen_self (gs:=.running) (setGen_self hgs)) rfl,rfl,rfl,htk⟩
  self:=fun _ _ _ _ st hQ=>wpAny_pyIter_gen st.1 hQ
end
end Mine
end
section
open PySem PySem.W PyProof.Rows PySem.Builtin.Str
set_option tactic.hygienic false
namespace Mine
noncomputable def joinG (okb:Str→Bool) (f:Str→Str) (sep:Str):PV→Option PV
  | .list xs=>match allOf asStr xs with
    | some ss=>if ss.all okb=true∧ss.length≤16777216∧JoinOk sep (ss.map f)=true then some (.str (Txt.join sep (ss.map f))) else none
    | none=>none
  | _=>none
section
variable {X:Cx} {F:FI} {d:Nat}
theorem wp_gcode {A:Around} {Av Mu:Addr→Prop} {env:Env} {st:St} {s:Shared} {Q:Value→Shared→Prop} {E:Value→Shared→Prop} {c T:Addr} {pos:Pos} {scope:Scope} (ok:MakeOK X F c T pos "<genexpr>") (r:R X F Av Mu env st s)
    (k:∀cv s',R X F Av Mu env st s'→StepE env Av Mu s Av Mu s'→(∃h tk,s'={ s with heap:=h,toks:=tk })→(∀a o,¬ X.Tb a→s.heap.get? a=some o→s'.heap.get? a=some o)→Q cv s'):
    wpAny (model X.prog X.w) A (genexprCode env pos (env.qual++"<genexpr>") scope) Q E s:=by
  obtain ⟨hMu,ps,hp,t3,w⟩:=r.tabs T ok.tb
  have hC:CodeHd s.heap c T:=ok.hd.keeps fun b o e=>(r.base b o e).1
  have hql:env.qual++"<genexpr>"=F.ql++"<genexpr>":=by rw [r.ql]
  rw [hql]
  have hcd:env.code=.ref c:=by rw [r.cd];exact ok.cd
  cases hc:codeAmong pos ps.toList with
  | none=>
    refine wpAny_genexprCodeX hcd (hC.code hp t3) (hC.tab hp) hc fun c' h' tk hx hge hlt _ hrec htb _=>?_
    have hz:s.heap.objs.size≤h'.objs.size:=Nat.le_of_lt (Nat.lt_of_le_of_lt hge hlt)
    obtain ⟨R1,S1⟩:=r.coded (tk:=tk) ok.tb hp hx hge hlt (by rw [ok.nm];exact hrec) htb.2 hz
    exact k _ _ R1 S1 ⟨_,_,rfl⟩ fun a o n e=>hx a o (fun q=>n (q ▸ ok.tb)) e
  | some cv=>exact wpAny_genexprCode_hit hcd (hC.code hp t3) hc (k _ _ r StepE.refl ⟨_,_,rfl⟩ fun _ _ _ e=>e)
set_option tactic.hygienic true in
set_option maxHeartbeats 1000000 in
theorem s_joing {sep x:Str} {sp apos gpos px pos:Pos} {k0:Nat} {elt iter:Expr} {scope:Scope} {c T:Addr} {fe:EvE} {okb:Str→Bool} {f:Str→Str} (ok:MakeOK X F c T gpos "<genexpr>")
    (hit:SoundE X F d iter fe) (he:∀cenv:Env,cenv.scope=scope→EltOK X.prog X.w cenv x elt (fun y=>okb y=true) f)
    (hco:scope.isCoroutine=false) (hfree:∀y∈scope.names,y.2≠.free) (hcell:∀y∈scope.names,y.2≠.cell) (h0:scope.names.lookup (".0":Str)=some NameKind.local) (hx:scope.names.lookup x=some .local) (hkind:scope.kind=.function)
    (hs:autoParam (∀env x,genFold iter env x=pure x) Mine.au1._auto_1) (hline:autoParam ((apos.endLine==pos.line)=true) Mine.au2._auto_1):
    SoundE X F d (.Call (.Attribute (.Constant (.str sep) k0 sp) "join" apos) [.GeneratorExp elt [⟨.Name x px,iter,[],0⟩] scope gpos] [] pos) (bindE fe fun a=>liftE (joinG okb f sep a)):=by
  refine @SoundT.intro _ _ _ _ _ _ _ _ ?_
  intro A Av Mu env st st' s v Q E hA hf R₀ tk k
  refine bindE_elim hf fun a st1 h1 hf1=>?_
  obtain ⟨h3,e3⟩:=liftE_some hf1
  subst e3
  unfold joinG at h3
  split at h3<;>(try cases h3)
  rename_i xs
  split at h3<;>(try cases h3)
  rename_i ss hss
  split at h3<;>cases h3
  rename_i hc
  refine wpAny_Call_method_lateS rfl rfl hline (Calls.Constant_str ?_)
  refine ⟨"str","str.join",_root_.PySem.F.plainAttrs_str,_root_.PySem.F.slot_str_join,_root_.PySem.F.type_str_join,typeIs_str _ _ _,(fun _ e=>nomatch e),callArgs rfl ?_⟩
  show wpAny _ _ (spliced (backTo pos [(false,eval (.GeneratorExp elt [⟨.Name x px,iter,[],0⟩] scope gpos) env)])) _ _ _
  refine Calls.spliced_cons ?_
  show wpAny _ _ (eval (.GeneratorExp elt [⟨.Name x px,iter,[],0⟩] scope gpos) env) _ _ _
  have hroom:A.depth < recursionLimit:=by have:=hA.2.1;show A.depth < 1000;lia
  refine wpAny_GeneratorExp_make hco (closureFor_none hfree) hcell h0 hkind hroom (hit _ hA h1 (R₀.toks (tk:=s.toks+1)) (by show 1≤s.toks+1;lia) fun va s1 Av1 Mu1 R1 S1 V1 tk1=>?_) (hs env)
  unfold VR at V1
  obtain ⟨l,vs,n,rfl,g,na,z⟩:=V1
  obtain ⟨lt,rfl,rfl⟩:=strs_of z hss
  refine wpAny_pyIter_list ⟨_,g,rfl,n,rfl⟩ ?_
  have R2:=R1.fresh { cls:=.type "list_iterator",data:=.fields #[.ref l,.int 0 0] }
  refine ⟨X.nolimit.keeps fun b o e=>(R2.base b o e).1,wp_gcode ok R2 fun cv s3 R3 S3 hs3 hk3=>?_⟩
  obtain ⟨h3,tk3,hs3⟩:=hs3
  have hI2:(s1.heap.push { cls:=.type "list_iterator",data:=.fields #[.ref l,.int 0 0] }).get? s1.heap.objs.size=some { cls:=.type "list_iterator",data:=.fields #[.ref l,.int 0 0] }:=Heap.get?_push_size _ rfl
  have hTI:¬ X.Tb s1.heap.objs.size:=fun t=>absurd (R1.lt _ (R1.ma _ (R1.tabs _ t).1)) (Nat.lt_irrefl _)
  have hTl:¬ X.Tb l:=fun t=>na (R1.ma _ (R1.tabs _ t).1)
  have hI3:=hk3 _ _ hTI hI2
  have hl3:=hk3 _ _ hTl (Heap.get?_push_of_some _ g)
  have hllt:l < s1.heap.objs.size:=Heap.lt_size g
  have hIlt:s1.heap.objs.size < s3.heap.objs.size:=Heap.lt_size hI3
  have k13:∀b o,s1.heap.get? b=some o→¬ X.Tb b→s3.heap.get? b=some o:=fun b o e n=>hk3 b o n (Heap.get?_push_of_some _ e)
  obtain ⟨bm,ob,b1,b2,b3,b4,b5,b6,b7⟩:=ok.bi
  have hg3:s3.heap.Ns env.globals X.mg:=by rw [R3.gl];exact X.g.keeps fun b o e=>(R3.base b o e).1
  refine wpAny_builtinsFor hg3 b1 b2 (R3.base _ _ b4).1 b5 b6 b7 ?_
  intro h' hn' hs'
  have hsz':h'.objs.size=s3.heap.objs.size+1:=by rw [hs'.1,Heap.size_push]
  have k3:∀b o,s3.heap.get? b=some o→h'.get? b=some o:=fun b o e=>hs'.extBut b o (Nat.ne_of_lt (Heap.lt_size e)) (Heap.get?_push_of_some _ e)
  refine Calls.spliced_nil ?_
  generalize hgo:({ cls:=.type "generator",data:=.fields #[.int s3.gens.size 0,.str "<genexpr>" (s3.toks+1),.str (env.qual++"<genexpr>") (s3.toks+1+1)] }:Obj)=go
  generalize hgs:(GenState.fresh (.compStart (.GeneratorExp elt [⟨.Name x px,iter,[],0⟩] scope gpos) 0 (.ref s1.heap.objs.size) .none (genEnv scope [] s3.heap.objs.size cv builtinsNs env)))=gs
  generalize hs4:({ s3 with gens:=s3.gens.push gs,toks:=s3.toks+1+1+1,heap:=h'.push go }:Shared)=s4
  have k4:∀b o,s3.heap.get? b=some o→s4.heap.get? b=some o:=fun b o e=>by rw [←hs4];exact Heap.get?_push_of_some _ (k3 b o e)
  have hcs:cStatics < s3.heap.objs.size:=by
    obtain ⟨mc,hc,_⟩:=X.nb
    exact (hc.keeps fun b o e=>(R3.base b o e).1).lt
  have hcI:cStatics≠s1.heap.objs.size:=fun e=>by
    obtain ⟨mc,⟨o,es,ep,ho,_⟩,_⟩:=X.nb
    have:=Heap.lt_size (R1.base _ _ ho).1
    rw [e] at this
    exact Nat.lt_irrefl _ this
  have G4:GInv s3.heap.objs.size s1.heap.objs.size l lt 0 s4:=by
    refine ⟨⟨_,k4 _ _ hI3,rfl,rfl⟩,⟨_,k4 _ _ hl3,rfl,n,rfl⟩,⟨_,by rw [←hs4];exact hn'.push _⟩,?_,by rw [←hs4];show 1≤s3.toks+1+1+1;lia⟩
    obtain ⟨mc,hc,q⟩:=X.nb
    exact ⟨mc,hc.keeps fun b o e=>k4 _ _ (R3.base b o e).1,q⟩
  have hkd:(genEnv scope [] s3.heap.objs.size cv builtinsNs env).kindOf x=some .local:=hx
  have GA:GAt X.prog X.w A.in1.in1 h'.objs.size s3.gens.size s3.heap.objs.size s1.heap.objs.size l (lt.map fun p=>f p.1) 0 s4:=by
    refine ⟨by rw [←hs4,←hgo];exact ⟨_,_,_,Heap.get?_push_size _ rfl,rfl,rfl,rfl⟩,X.nolimit.keeps fun b o e=>k4 _ _ (R3.base b o e).1,G4.tk,gs,by rw [←hs4];exact Array.getElem?_push_size ..,fun s'' hl=>?_⟩
    rw [←hgs]
    refine ⟨rfl,?_⟩
    rw [List.length_map,Nat.sub_zero]
    exact seg_gs (A:=A.in1.in1.in1) (cenv:=genEnv scope [] s3.heap.objs.size cv builtinsNs env) hA.1 hkd (by simp [genEnv,hkind]) hco (Nat.ne_of_gt hIlt) (Nat.ne_of_gt (Nat.lt_trans hllt hIlt)) (Nat.ne_of_lt hllt) (Nat.ne_of_lt hcs) hcI
      (fun p hp=>List.all_eq_true.mp hc.1 _ (List.mem_map_of_mem hp)) (he _ rfl) (G4.later hl) (GRel.refl _ _ _)
  have W:=walks_g (prog:=X.prog) (w:=X.w) (A:=A.in1.in1) hA.1 h'.objs.size s3.gens.size s3.heap.objs.size s1.heap.objs.size l (lt.map fun p=>f p.1) (by rw [hsz'];exact Nat.ne_of_gt (Nat.lt_succ_self _)) (by rw [hsz'];exact Nat.ne_of_gt (Nat.lt_succ_of_lt hIlt)) hroom (Nat.ne_of_lt hcs) hcI
  have hsz4:s4.heap.objs.size=h'.objs.size+1:=by rw [←hs4];exact Heap.size_push ..
  refine wpAny_mono (wpAny_size (SC.joinGen (Q:=fun r s'=>∃t',r=.str (Txt.join sep ((lt.map (·.1)).map f)) t'∧∃s5 tk5,s'={ s5 with toks:=tk5 }∧Moved [s3.heap.objs.size,s1.heap.objs.size] (GenOnlyQ s3.gens.size) s4 s5) W (fun i s' st=>st.1.typeIs) GA (fun b hb=>?_) (by simp) (fun i v hv=>let ⟨y,u,_,e⟩:=hv;⟨y,u,e⟩) (fun s' l' hm hi=>?_) (by have h9:=hc.2.1;rw [List.length_map] at h9 ⊢;exact h9))) (fun r s' q=>?_) fun _ _ e=>e
  · rw [hsz4,hsz']
    have e1:∀q:Nat,q < s3.heap.objs.size→q < s3.heap.objs.size+1+1:=fun q h=>Nat.lt_succ_of_lt (Nat.lt_succ_of_lt h)
    rcases List.mem_cons.mp hb with h | hb
    · rw [h,hsz'];exact Nat.lt_succ_self _
    rcases List.mem_cons.mp hb with h | hb
    · rw [h];exact Nat.lt_succ_of_lt (Nat.lt_succ_self _)
    rcases List.mem_cons.mp hb with h | hb
    · rw [h];exact e1 _ hIlt
    rcases List.mem_cons.mp hb with h | hb
    · rw [h];exact e1 _ (Nat.lt_trans hllt hIlt)
    · rw [List.mem_singleton.mp hb];exact e1 _ hcs
  · have hl:l'.map (·.1)=(lt.map (·.1)).map f:=by
      rw [List.map_map]
      apply List.ext_getElem?
      intro j
      have hsz:l'.length=(lt.map fun p=>f p.1).length:=by simpa [strValues] using hi.1
      by_cases hj:j < l'.length
      · obtain ⟨y,u,h1,h2⟩:=hi.2 j (.str l'[j].1 l'[j].2) (by simp [strValues,List.getElem?_eq_getElem hj])
        injection h2 with h2 _
        rw [List.getElem?_map,List.getElem?_eq_getElem hj]
        show some l'[j].1=_
        rw [h2,←h1]
        rfl
      · rw [List.getElem?_eq_none (by simpa using Nat.le_of_not_lt hj),List.getElem?_eq_none (by rw [List.length_map] at hsz ⊢;lia)]
    rw [hl]
    exact ⟨hc.2.2,fun t' k'=>⟨t',rfl,s',k',rfl,hm⟩⟩
  · obtain ⟨⟨t',rfl,s5,tk5,rfl,hm⟩,hz⟩:=q
    have hz5:s4.heap.objs.size≤s5.heap.objs.size:=hz
    have k35:∀b o,b≠s1.heap.objs.size→s3.heap.get? b=some o→s5.heap.get? b=some o:=fun b o n e=>hm.heap b o (fun q=>by
      rcases List.mem_cons.mp q with q | q
      · exact absurd (Heap.lt_size e) (q ▸ Nat.lt_irrefl _)
      · exact n (List.mem_singleton.mp q)) (k4 b o e)
    have z35:s3.heap.objs.size≤s5.heap.objs.size:=Nat.le_trans (by rw [hsz4,hsz'];lia) hz5
    have R5:R X F (fun a=>Av1 a∨a=s1.heap.objs.size) Mu1 env st' { s5 with toks:=tk5 }:=
      R3.keepI (.inr rfl) (fun q=>absurd (R1.lt _ (R1.ma _ q)) (Nat.lt_irrefl _)) (fun o e v q=>by rw [hI3] at e;cases e;cases q) k35 z35
    have k15:∀b o,s1.heap.get? b=some o→¬ X.Tb b→s5.heap.get? b=some o:=fun b o e n=>k35 b o (Nat.ne_of_lt (Heap.lt_size e)) (k13 b o e n)
    have S5:StepE env Av1 Mu1 s1 (fun a=>Av1 a∨a=s1.heap.objs.size) Mu1 { s5 with toks:=tk5 }:=by
      refine ⟨⟨fun a o e n=>k15 a o e fun t=>n (R1.tabs a t).1,fun _ h=>.inl h,fun a h=>Or.imp id (fun (q:a=s1.heap.objs.size)=>Nat.le_of_eq q.symm) h,fun _ h _=>.inl h,Nat.le_trans (Nat.le_of_lt hIlt) z35,?_,fun hb=>?_⟩,R1.valsAfter k15⟩
      · rw [show ({ s5 with toks:=tk5 }:Shared).os=s4.os from hm.os,←hs4,hs3]
      · refine AllBare.moved ?_ hm.gens
        rw [←hs4]
        refine AllBare.push ?_ (by rw [←hgs];rfl)
        rw [hs3]
        exact hb
    refine k _ _ _ _ R5 (((StepE.ofGrow .toks).trans S1 R₀.lt).trans S5 R₀.lt) VR.str'
end
end Mine
end
section
open PySem PySem.W PyProof.Rows PySem.Builtin.Str
set_option tactic.hygienic false
namespace Mine
noncomputable def okR (z1 z2 y1:Str) (y:Str):Bool:=decide (y.length+(y.length+1) * z1.length≤16777216)&&decide ((Txt.replace y y1 z1).length+((Txt.replace y y1 z1).length+1) * z2.length≤16777216)
section
variable {prog:Program} {w:World}
theorem elt_rr {cenv:Env} {x y1 z1 y2 z2:Str} {p ap1 ap2 pos1 pos2 p1 p2 p3 p4:Pos} {k1 k2 k3 k4:Nat} (hk:cenv.scope.kind=.function) (hx:cenv.kindOf x=some .local)
    (hl1:(ap1.endLine==pos1.line)=true) (hl2:(ap2.endLine==pos2.line)=true) (hd:(x==("__debug__":Str))=false):
    EltOK prog w cenv x (.Call (.Attribute (.Call (.Attribute (.Name x p) "replace" ap1) [.Constant (.str y1) k1 p1,.Constant (.str z1) k2 p2] [] pos1) "replace" ap2) [.Constant (.str y2) k3 p3,.Constant (.str z2) k4 p4] [] pos2)
      (fun y=>okR z1 z2 y1 y=true) (fun y=>Txt.replace (Txt.replace y y1 z1) y2 z2):=by
  refine ⟨fun {A E Q y t s m} hok hh htk hnb hns hm k=>?_⟩
  unfold okR at hok
  rw [Bool.and_eq_true,decide_eq_true_eq,decide_eq_true_eq] at hok
  refine wpAny_Call_method_lateS rfl rfl hl2 (wpAny_Call_method_lateS rfl rfl hl1 (wpAny_Name (wpAny_loadName_local hk hx hns hm ?_) hd))
  refine ⟨"str","str.replace",_root_.PySem.F.plainAttrs_str,_root_.PySem.F.slot_str_replace,_root_.PySem.F.type_str_replace,typeIs_str _ _ _,(fun b q=>by cases q),callArgs rfl ?_⟩
  show wpAny _ _ (spliced (backTo pos1 [(false,eval (.Constant (.str y1) k1 p1) cenv),(false,eval (.Constant (.str z1) k2 p2) cenv)])) _ _ _
  refine Calls.spliced_cons (Calls.Constant_str (k:=k1) (pos:=p1) (Calls.spliced_cons (Calls.Constant_str (k:=k2) (pos:=p2) (Calls.spliced_nil ?_))))
  refine wpAny_mono (wpAny_toks (SC.replaceA (Q:=fun v s'=>∃t' k',v=.str (Txt.replace y y1 z1) t'∧s'={ s with toks:=k' }) (by show s.toks≠0;lia) (by show s.toks+1≠0;lia) (by show s.toks≠s.toks+1;lia) hok.1 (fun t' k'=>⟨t',k',rfl,rfl⟩) hnb)) (fun v s' q=>?_) fun _ _ e=>e
  obtain ⟨⟨t',k',rfl,rfl⟩,ht⟩:=q
  have ht':s.toks+1+1≤k':=ht
  refine ⟨"str","str.replace",_root_.PySem.F.plainAttrs_str,_root_.PySem.F.slot_str_replace,_root_.PySem.F.type_str_replace,typeIs_str _ _ _,(fun b q=>by cases q),callArgs rfl ?_⟩
  show wpAny _ _ (spliced (backTo pos2 [(false,eval (.Constant (.str y2) k3 p3) cenv),(false,eval (.Constant (.str z2) k4 p4) cenv)])) _ _ _
  refine Calls.spliced_cons (Calls.Constant_str (k:=k3) (pos:=p3) (Calls.spliced_cons (Calls.Constant_str (k:=k4) (pos:=p4) (Calls.spliced_nil ?_))))
  refine wpAny_mono (wpAny_toks (SC.replaceA (Q:=fun v s'=>∃t' k',v=.str (Txt.replace (Txt.replace y y1 z1) y2 z2) t'∧s'={ s with toks:=k' }) (by show k'≠0;lia) (by show k'+1≠0;lia) (by show k'≠k'+1;lia) hok.2 (fun t' k'=>⟨t',k',rfl,rfl⟩) hnb)) (fun v s' q=>?_) fun _ _ e=>e
  obtain ⟨⟨t2,k2',rfl,rfl⟩,ht2⟩:=q
  have ht2':k'+1+1≤k2':=ht2
  exact k _ s.heap k2' (fun _ _ e=>e) (by lia)
end
end Mine
end
section
open PySem PySem.W PyProof.Rows PySem.Builtin.Str PySem.Spec PyProof
set_option tactic.hygienic false
namespace Mine
variable {X:Cx} {F:FI} {d:Nat}
end Mine
end
section
open PySem PySem.W PyProof.Rows PySem.Builtin.Str PySem.Spec PyProof PySem.SeqAt
open AutoSeq1 (wpAny_loadPart')
open MeetsSeq MeetsSeq2 MeetsSeq3
set_option tactic.hygienic false
namespace Mine
theorem gt_end (l b:Addr) (items items2:Array Value) (n n2:Nat) (dd dd2:Option Addr) (sl sl2:Array (Option Value)) (i:Nat) (hi:items.size≤i∨items2.size≤i):
    Meets (Builtin.«list.__eq__.loop» ⟨[.ref l,.ref b,rawInt i,rawInt 4],[]⟩)
      (fun A R s=>s.heap.get? l=some { cls:=.type "list",dict:=dd,data:=.seq items n,slots:=sl }∧s.heap.get? b=some { cls:=.type "list",dict:=dd2,data:=.seq items2 n2,slots:=sl2 }∧
        R (.ok (.ret (.bool (decide (items.size>items2.size))))) s):=by
  intro prog w A R s h
  obtain ⟨hp,g,d,tk,os⟩:=s;obtain ⟨hl,hb,h⟩:=h
  wp_walk using wpAny_loadPart' hl,wpAny_loadPart' hb
  rcases hi with hi | hi
  · have hi1:items[((i:Nat):Int).toNat]? =none:=by simp;lia
    rw [hi1]
    wp_walk using wpAny_loadPart' hl,wpAny_loadPart' hb
    exact h
  · have hi1:items2[((i:Nat):Int).toNat]? =none:=by simp;lia
    rw [hi1]
    rcases items[((i:Nat):Int).toNat]? with _ | x
    · wp_walk using wpAny_loadPart' hl,wpAny_loadPart' hb
      exact h
    · wp_walk using wpAny_loadPart' hl,wpAny_loadPart' hb
      exact h
theorem gt_one (l b:Addr) (items items2:Array Value) (x y:Int) (t u:Tok) (n n2:Nat) (dd dd2:Option Addr) (sl sl2:Array (Option Value)) (h1:items=#[.int x t]) (h2:items2=#[.int y u]):
    Meets (Builtin.«list.__eq__.loop» ⟨[.ref l,.ref b,rawInt (0:Nat),rawInt 4],[]⟩)
      (fun A R s=>s.heap.get? l=some { cls:=.type "list",dict:=dd,data:=.seq items n,slots:=sl }∧s.heap.get? b=some { cls:=.type "list",dict:=dd2,data:=.seq items2 n2,slots:=sl2 }∧
        R (.ok (.ret (.bool (decide (x>y))))) s):=by
  intro prog w A R s h
  obtain ⟨hp,g,d,tk,os⟩:=s;obtain ⟨hl,hb,h⟩:=h
  wp_walk using wpAny_loadPart' hl,wpAny_loadPart' hb
  have hi1:items[((0:Nat):Int).toNat]? =some (.int x t):=by subst h1;rfl
  have hi2:items2[((0:Nat):Int).toNat]? =some (.int y u):=by subst h2;rfl
  rw [hi1,hi2]
  refine wpAny_bind (EqAt.int_int x t y u prog w _ _ ?_)
  by_cases hxy:x=y
  · subst hxy
    rw [beq_self_eq_true]
    wp_walk
    exact ⟨plainId_quiet plain_eq_loop _,codeAny_builtin entry_eq_loop (by
        rw [Around.under_plainId plain_eq_loop _]
        refine gt_end l b items items2 n n2 dd dd2 sl sl2 1 (.inl (by subst h1;exact Nat.le_refl _)) prog w A R _ ⟨hl,hb,?_⟩
        subst h1 h2
        simpa using h)⟩
  · rw [beq_eq_false_iff_ne.mpr hxy]
    wp_walk using wpAny_loadPart' hl,wpAny_loadPart' hb
    rw [hi1,hi2]
    refine wpAny_bind (m:=richCompare .Gt (.int x t) (.int y u)) ?_
    show wpAny _ _ (compareOp .Gt (.int x t) (.int y u)) _ _ _
    refine PyProof.Rows.gt_int ?_
    wp_walk
    exact h
theorem list_gt (l b:Addr) (items items2:Array Value) (y:Int) (u:Tok) (n n2:Nat) (dd dd2:Option Addr) (sl sl2:Array (Option Value)) (c:Bool) (h2:items2=#[.int y u])
    (h1:(items=#[]∧c=false)∨∃x t,items=#[.int x t]∧c=decide (x>y)):
    Meets (Builtin.«list.__gt__» ⟨[.ref l,.ref b],[]⟩)
      (fun A R s=>s.heap.get? l=some { cls:=.type "list",dict:=dd,data:=.seq items n,slots:=sl }∧s.heap.get? b=some { cls:=.type "list",dict:=dd2,data:=.seq items2 n2,slots:=sl2 }∧
        R (.ok (.ret (.bool c))) s):=by
  intro prog w A R s h
  obtain ⟨hp,g,d,tk,os⟩:=s;obtain ⟨hl,hb,h⟩:=h
  have f3:=AutoSeq1.sub_list_list
  wp_walk using wpAny_loadPart' hl,wpAny_loadPart' hb
  refine ⟨plainId_quiet plain_eq_loop _,codeAny_builtin entry_eq_loop (by
    rw [Around.under_plainId plain_eq_loop _]
    rcases h1 with ⟨h1,rfl⟩ | ⟨x,t,h1,rfl⟩
    · refine gt_end l b items items2 n n2 dd dd2 sl sl2 0 (.inl (by subst h1;exact Nat.le_refl _)) prog w A R _ ⟨hl,hb,?_⟩
      subst h1 h2
      simpa using h
    · exact gt_one l b items items2 x y t u n n2 dd dd2 sl sl2 h1 h2 prog w A R _ ⟨hl,hb,h⟩)⟩
theorem gt_lists {prog:Program} {w:World} {A:Around} {E Q:Value→Shared→Prop} {s:Shared} {l b:Addr} {items items2:Array Value} {y:Int} {u:Tok} {c:Bool} (hl:s.heap.IsList l items) (hb:s.heap.IsList b items2) (h2:items2=#[.int y u])
    (h1:(items=#[]∧c=false)∨∃x t,items=#[.int x t]∧c=decide (x>y)) (hu:A.units < cLine) (h:Q (.bool c) s):wpAny (model prog w) A (compareOp .Gt (.ref l) (.ref b)) Q E s:=by
  obtain ⟨⟨cls,dd,data,sl⟩,ho,hc,n,hd⟩:=id hl
  obtain ⟨⟨cls2,dd2,data2,sl2⟩,ho2,hc2,n2,hd2⟩:=id hb
  simp only at hc hd hc2 hd2
  subst hc hd hc2 hd2
  show wpAny _ _ (richCompare .Gt _ _) _ _ _
  exact richCompare_meets_room (op:=.Gt) ⟨_,ho,rfl⟩ ⟨_,ho2,rfl⟩ F.slot_list_gt F.entry_list_gt (F.args_list_gt_2 _ _) (list_gt l b items items2 y u n n2 dd dd2 sl sl2 c h2 h1)
    ⟨ho,ho2,show Value.bool c≠Value.notImplemented∧Q (.bool c) s from ⟨(fun x=>nomatch x),h⟩⟩ hu
noncomputable def oneI:List PV→Option (Option Int)
  | []=>some none
  | p::r=>if r.isEmpty=true then (asInt p).map some else none
noncomputable def gtL (a b:PV):Option PV:=(asList a).bind fun xs=>(asList b).bind fun ys=>(oneI xs).bind fun o=>(oneI ys).bind fun q=>q.map fun y=>.bool (o.elim false fun x=>decide (x>y))
theorem oneI_vs {h:Heap} {Av:Addr→Prop} {vs:List Value} {xs:List PV} {o:Option Int} (e:oneI xs=some o) (z:VRs h Av vs xs):(vs=[]∧o=none)∨∃i t,vs=[.int i t]∧o=some i:=by
  cases xs with
  | nil=>
    cases vs with
    | nil=>cases e;exact .inl ⟨rfl,rfl⟩
    | cons=>unfold VRs at z;exact z.elim
  | cons p r=>
    cases r with
    | cons=>cases e
    | nil=>
      obtain ⟨i,e1,rfl⟩:=Option.map_eq_some_iff.mp e
      obtain ⟨w,rfl,q⟩:=VRs1 z
      obtain ⟨t,rfl⟩:=(asInt_some e1 ▸ q).int_of
      exact .inr ⟨i,t,rfl,rfl⟩
theorem gtL_w {prog:Program} {w:World} {A:Around} {E Q:Value→Shared→Prop} {s:Shared} {Av:Addr→Prop} {va vb:Value} {a b v:PV} (h:gtL a b=some v) (V1:VR s.heap Av va a) (V2:VR s.heap Av vb b) (hu:A.units < cLine) (k:∀c,v=.bool c→Q (.bool c) s):wpAny (model prog w) A (compareOp .Gt va vb) Q E s:=by
  obtain ⟨xs,e1,h⟩:=Option.bind_eq_some_iff.mp h
  obtain ⟨ys,e2,h⟩:=Option.bind_eq_some_iff.mp h
  obtain ⟨o,e3,h⟩:=Option.bind_eq_some_iff.mp h
  obtain ⟨q,e4,h⟩:=Option.bind_eq_some_iff.mp h
  obtain ⟨y,rfl,rfl⟩:=Option.map_eq_some_iff.mp h
  rw [asList_some e1] at V1
  rw [asList_some e2] at V2
  unfold VR at V1 V2
  obtain ⟨l,vs,n,rfl,g,_,z⟩:=V1
  obtain ⟨l',vs',n',rfl,g',_,z'⟩:=V2
  rcases oneI_vs e4 z' with ⟨_,h⟩ | ⟨y,u,rfl,h⟩
  · cases h
  · cases h
    refine gt_lists ⟨_,g,rfl,n,rfl⟩ ⟨_,g',rfl,n',rfl⟩ rfl ?_ hu (k _ rfl)
    rcases oneI_vs e3 z with ⟨rfl,rfl⟩ | ⟨x,t,rfl,rfl⟩
    · exact .inl ⟨rfl,rfl⟩
    · exact .inr ⟨x,t,rfl,rfl⟩
variable {X:Cx} {F:FI} {d:Nat}
theorem s_gtl {l r:Expr} {pos:Pos} {f g:EvE} (hl:SoundE X F d l f) (hr:SoundE X F d r g) (hm:autoParam (behindInMarks .Gt r=false) Mine.au9._auto_1):
    SoundE X F d (.Compare l [.Gt] [r] pos) (bindE f fun a=>bindE g fun b=>liftE (gtL a b)):=by
  refine @SoundT.intro _ _ _ _ _ _ _ _ ?_
  intro A Av Mu env st st' s v Q E hA hf R₀ tk k
  refine bindE_elim hf fun a st1 h1 hf=>?_
  refine bindE_elim hf fun b st2 h2 hf=>?_
  obtain ⟨h3,rfl⟩:=liftE_some hf
  refine wpAny_Compare1 (hl _ hA h1 R₀ tk fun va s1 Av1 Mu1 R1 S1 V1 tk1=>hr _ hA h2 R1 tk1 fun vb s2 Av2 Mu2 R2 S2 V2 tk2=>?_) hm
  exact gtL_w h3 (V1.step S2.toStep R1.ma) V2 (hA.u 0) fun c e=>k _ _ Av2 Mu2 R2 (S1.trans S2 R₀.lt) (e ▸ VR.bool')
end Mine
end
section
open PySem PySem.W PyProof.Rows PySem.Builtin.Str PySem.Spec PyProof PySem.SeqAt
set_option tactic.hygienic false
namespace Mine
section
variable {prog:Program} {w:World} {A:Around} {E:Value→Shared→Prop} {s:Shared} {d:Addr} {f:Int→Option Value}
end
end Mine
end
section
open PySem PySem.W PyProof.Rows PySem.Builtin PySem.Builtin.ObjectAttr
set_option tactic.hygienic false
namespace Mine
noncomputable abbrev fnO (fd:FuncData) (D:Option Addr):Obj:={ cls:=.type "function",dict:=D,data:=.func fd }
theorem lk_fn_getattr:typeLookup (.type "function") "__getattr__"=pure none:=by rw [typeLookup_type,builtinLookup_eq_fast];kernel_rfl
theorem lk_fn_read:typeLookup (.type "function") "read"=pure none:=by rw [typeLookup_type,builtinLookup_eq_fast];kernel_rfl
theorem slot_fn_ga:Slot "function" "__getattribute__" "object.__getattribute__":=
  .of (owner:="object") (n:="__getattribute__") (by rw [typeLookup_type,builtinLookup_eq_fast];kernel_rfl) (by decide+kernel) (by decide+kernel) (by decide+kernel)
    (by first | exact .inl (by decide+kernel) | exact .inr (by decide+kernel)) (by rw [isSubtype_type];kernel_rfl)
theorem slot_fn_sa:Slot "function" "__setattr__" "object.__setattr__":=
  .of (owner:="object") (n:="__setattr__") (by rw [typeLookup_type,builtinLookup_eq_fast];kernel_rfl) (by decide+kernel) (by decide+kernel) (by decide+kernel)
    (by first | exact .inl (by decide+kernel) | exact .inr (by decide+kernel)) (by rw [isSubtype_type];kernel_rfl)
theorem canon_fn_ga:(Manifest.canonical "object.__getattribute__" != "object.__getattribute__")=false:=by decide+kernel
theorem entry_obj_sa:entryFor table "object.__setattr__"=some Builtin.«object.__setattr__» :=entryFor_of_tree (by kernel_rfl)
theorem args_obj_sa (a b c:Value):argsOk "object.__setattr__" ⟨[a,b,c],[]⟩:=by unfold argsOk;kernel_rfl
theorem args_obj_ga (a b:Value):argsOk "object.__getattribute__" ⟨[a,b],[]⟩:=by unfold argsOk;kernel_rfl
theorem mro_fn:mroOf (.type "function")=pure [.type "function",.type "object"]:=by rw [mroOf_type];kernel_rfl
theorem sub_fn_static:isSubtype (.type "function") (.type "staticmethod")=pure false:=by rw [isSubtype_type];kernel_rfl
theorem sub_fn_classm:isSubtype (.type "function") (.type "classmethod")=pure false:=by rw [isSubtype_type];kernel_rfl
theorem refuse_fn (self:Value):refuseLoop self "__setattr__" [.type "function",.type "object"]=pure ():=by
  kernel_rfl
end Mine
end
section
open PySem PySem.W PyProof.Rows PySem.Builtin PySem.Builtin.ObjectAttr PySem.Flt PySem.Calls
set_option tactic.hygienic false
namespace Mine
section
variable {prog:Program} {w:World} {A:Around} {E:Value→Shared→Prop} {h:Heap} {g:Array GenState} {d:Drawn} {t:Nat} {os:OsState} {f D:Addr} {fd:FuncData} {md:Str→Option Value}
theorem fn_object_entry {name:Str} {tk:Tok} {v:Value} {Q:Fin→Shared→Prop} (hM:h.get? f=some (fnO fd (some D))) (hD:h.Ns D md) (hnm:typeLookup (.type "function") name=pure none) (hv:md name=some v)
    (hq:Q (.done (.ret v)) ⟨h,g,d,t,os⟩):wpAny (model prog w) A (Builtin.«object.__getattribute__» ⟨[.ref f,.str name tk],[]⟩) Q E ⟨h,g,d,t,os⟩:=by
  have hT:(⟨h,g,d,t,os⟩:Shared).TypeIs (.ref f) "function":=⟨_,hM,rfl⟩
  have f1:=sub_fn_static
  have f2:=sub_fn_classm
  repeat (any_goals (first | assumption | with_reducible apply wpAny_nsGet_known | with_reducible apply wpAny_loadPart_known | wp_step))
theorem getMethod_fn {name:Str} {v:Value} {pl:Sem Bool} {Q:Value×List Value→Shared→Prop} (hM:h.get? f=some (fnO fd (some D))) (hD:h.Ns D md) (hnm:typeLookup (.type "function") name=pure none) (hv:md name=some v)
    (hh:handedOut v=pure v) (hq:Q (v,[]) ⟨h,g,d,t+1,os⟩):wpAny (model prog w) A (getMethod (.ref f) name pl) Q E ⟨h,g,d,t,os⟩:=by
  have hT:(⟨h,g,d,t,os⟩:Shared).TypeIs (.ref f) "function":=⟨_,hM,rfl⟩
  have hT1:(⟨h,g,d,t+1,os⟩:Shared).TypeIs (.ref f) "function":=⟨_,hM,rfl⟩
  have f1:=slot_fn_ga.lookup
  have f2:=lk_fn_getattr
  have f4:=slot_fn_ga.bind (.ref f)
  unfold getMethod
  refine wpAny_bind (wpAny_specialOf hT f1 ?_)
  show wpAny _ A (if (Manifest.canonical "object.__getattribute__" != "object.__getattribute__")=true then _ else _) Q E _
  rw [canon_fn_ga,if_neg (by decide)]
  refine wpAny_bind (wpAny_specialOf hT f2 ?_)
  refine wpAny_bind (wpAny_specialOf hT hnm ?_)
  show wpAny _ A (getAttr (.ref f) name>>=fun x=>pure (x,[])) Q E _
  refine wpAny_bind ?_
  repeat (any_goals (first | assumption | wp_step))
  refine codeAny_call_builtin slot_fn_ga.plain F.entry_object_getattribute (slot_fn_ga.check _ _ _ _ _ _ _ _ hT1 (args_obj_ga _ _) (fn_object_entry hM hD hnm hv ?_))
  repeat (any_goals (first | assumption | wp_step))
end
end Mine
end
section
open PySem PySem.W PyProof.Rows PySem.Builtin PySem.Builtin.ObjectAttr PySem.Flt PySem.Calls
set_option tactic.hygienic false
namespace Mine
section
variable {prog:Program} {w:World} {A:Around} {E:Value→Shared→Prop} {h:Heap} {g:Array GenState} {d:Drawn} {t:Nat} {os:OsState} {f D:Addr} {fd:FuncData} {md:Str→Option Value}
theorem hasDict_fn:typeHasDict (.type "function")=true:=by decide+kernel
theorem fin_fn:finalisedInACycleAlone "function"=false:=by decide+kernel
theorem fn_store_entry {o:Obj} {name:Str} {tk:Tok} {v:Value} {Q:PySem.Fin→Shared→Prop} (hx:h.get? f=some o) (hc:o.cls=.type "function") (hdn:o.dict=none) (hdt:o.data=.func fd) (hnm:typeLookup (.type "function") name=pure none)
    (hq:∀h' D md tk',h'.get? f=some { cls:=o.cls,dict:=some D,data:=o.data,slots:=o.slots }→h'.Ns D md→md name=some v→D=h.objs.size→(∀b ob,b≠f→h.get? b=some ob→h'.get? b=some ob)→h.objs.size≤h'.objs.size→Q (.done (.ret .none)) ⟨h',g,d,tk',os⟩):
    wpAny (model prog w) A (Builtin.«object.__setattr__» ⟨[.ref f,.str name tk,v],[]⟩) Q E ⟨h,g,d,t,os⟩:=by
  have hT:(⟨h,g,d,t,os⟩:Shared).TypeIs (.ref f) "function":=⟨_,hx,hc⟩
  unfold Builtin.«object.__setattr__»
  repeat (first | rw [refuse_eq] | (rw [refuse_fn]) | (with_reducible refine wpAny_loadPart_at hx ?_;rw [hc]) | (rw [mro_fn]) | (rw [hnm]) | wp_step)
  rw [hdn,hdt]
  dsimp only
  rw [if_neg (by rw [hasDict_fn];decide)]
  have hx₁:(h.push { cls:=.type "dict",data:=.dict #[] }).get? f=some o:=Heap.get?_push_of_some _ hx
  have hxs:f≠h.objs.size:=Nat.ne_of_lt (Heap.lt_size hx)
  refine wpAny_bind (wpAny_alloc' ?_)
  refine wpAny_bind (wpAny_update' hx₁ ?_)
  unfold dictMade
  dsimp only
  rw [fin_fn]
  refine wpAny_bind (wpAny_pure (wpAny_pure ?_))
  have hgd:((h.push { cls:=.type "dict",data:=.dict #[] }).update f fun o=>{ cls:=o.cls,dict:=some h.objs.size,data:=o.data,slots:=o.slots }).get? h.objs.size
      =some { cls:=.type "dict",data:=.dict #[] }:=
    (Heap.get?_update_ne _ _ _ _ hxs.symm).trans (Heap.get?_push_at rfl rfl)
  have hnd:((h.push { cls:=.type "dict",data:=.dict #[] }).update f fun o=>{ cls:=o.cls,dict:=some h.objs.size,data:=o.data,slots:=o.slots }).Ns h.objs.size (fun _=>none):=
    ⟨_,#[],_,hgd,rfl,fun e he=>absurd he (by simp),fun _=>rfl⟩
  show wpAny _ _ (storeInDict h.objs.size (.str name tk) name v) _ _ _
  unfold storeInDict newKeyGuard
  refine wpAny_bind (wpAny_pure (wpAny_bind (wpAny_nsSet1 (Heap.Ns1.of_empty hnd) fun h' hn' hs=>?_)))
  obtain ⟨oD,esD,epD,hoD,hdD,hcD⟩:=hn'.count (Within.cons name v Within.nil)
  refine wpAny_bind (wpAny_lookBehind hoD (by rw [hdD];exact pastItsLine_dict (Nat.le_trans hcD (by rw [List.length_cons,List.length_nil,sizeLine_eq];lia))) ?_)
  wp_walk
  have hx':h'.get? f=some { cls:=o.cls,dict:=some h.objs.size,data:=o.data,slots:=o.slots }:=by
    refine (hs.2 f hxs).trans (Heap.get?_update_self _ hx₁ ?_)
    have hfr:=(Heap.get?_some_iff.mp hx).2
    obtain ⟨oc,od,odt,osl⟩:=o
    cases odt<;>first | rfl | exact hfr
  refine hq h' h.objs.size (fun y=>if y=name then some v else none) _ hx' ?_ (by simp) rfl (fun b ob hb e=>?_) ?_
  · obtain ⟨o',es,ep,e1,e2,e3,eu,e4⟩:=hn'
    exact ⟨o',es,ep,e1,e2,e3,fun y=>by rw [e4 y]⟩
  · exact (hs.2 b (Nat.ne_of_lt (Heap.lt_size e))).trans ((Heap.get?_update_ne _ _ _ _ hb).trans (Heap.get?_push_of_some _ e))
  · rw [hs.1]
    simp [Heap.update,Heap.push]
    try lia
theorem setAttr_fn {o:Obj} {name:Str} {v:Value} {Q:Unit→Shared→Prop} (hx:h.get? f=some o) (hc:o.cls=.type "function") (hdn:o.dict=none) (hdt:o.data=.func fd) (hnm:typeLookup (.type "function") name=pure none)
    (hq:∀h' D md tk',h'.get? f=some { cls:=o.cls,dict:=some D,data:=o.data,slots:=o.slots }→h'.Ns D md→md name=some v→D=h.objs.size→(∀b ob,b≠f→h.get? b=some ob→h'.get? b=some ob)→h.objs.size≤h'.objs.size→Q () ⟨h',g,d,tk',os⟩):
    wpAny (model prog w) A (setAttr (.ref f) name v) Q E ⟨h,g,d,t,os⟩:=by
  have hT:(⟨h,g,d,t,os⟩:Shared).TypeIs (.ref f) "function":=⟨_,hx,hc⟩
  have hT1:(⟨h,g,d,t+1,os⟩:Shared).TypeIs (.ref f) "function":=⟨_,hx,hc⟩
  have f1:=slot_fn_sa.lookup
  have f4:=slot_fn_sa.bind (.ref f)
  unfold setAttr callSpecial? specialOf
  repeat (any_goals (first | assumption | wp_step))
  refine codeAny_call_builtin slot_fn_sa.plain entry_obj_sa (slot_fn_sa.check _ _ _ _ _ _ _ _ hT1 (args_obj_sa _ _ _) (fn_store_entry hx hc hdn hdt hnm fun h' D md tk' a b c e k z=>?_))
  repeat (any_goals (first | assumption | wp_step))
  exact hq h' D md tk' a b c e k z
end
end Mine
end
section
open PySem PySem.W PyProof.Rows PySem.Builtin
set_option tactic.hygienic false
namespace Mine
variable {X:Cx} {F:FI} {d:Nat}
theorem R.makes {Av Mu:Addr→Prop} {env:Env} {st:St} {s:Shared} {c T:Addr} {pos:Pos} {nm:Str} (ok:MakeOK X F c T pos nm) (r:R X F Av Mu env st s):
    s.heap.Ns mainGlobals X.mg∧CodeHd s.heap c T∧s.heap.BuiltinsAt X.mg T∧mainGlobals≠T:=by
  have hg:s.heap.Ns mainGlobals X.mg:=X.g.keeps fun b o e=>(r.base b o e).1
  obtain ⟨hMu,ps,hp,t3,w⟩:=r.tabs T ok.tb
  obtain ⟨bm,ob,b1,b2,b3,b4,b5,b6,b7⟩:=ok.bi
  have hbT:bm≠T:=fun q=>(r.base _ _ b4).2 (q ▸ r.ma _ hMu)
  refine ⟨hg,ok.hd.keeps fun b o e=>(r.base b o e).1,⟨bm,ob,b1,b2,b3,hbT,(r.base _ _ b4).1,b5,b6,b7⟩,fun q=>?_⟩
  obtain ⟨o,es,ep,e,hd,_⟩:=hg
  rw [q,hp] at e;cases e;cases hd
theorem wp_lambdaF {A:Around} {Av Mu:Addr→Prop} {env:Env} {st:St} {s:Shared} {Q:Value→Shared→Prop} {E:Value→Shared→Prop} {c T:Addr} {pos:Pos} {params:Arguments} {body:Expr} {scope:Scope} (ok:MakeOK X F c T pos "<lambda>")
    (hdef:defaultsOf params env=([],[])) (hfree:∀x∈scope.names,x.2≠.free) (r:R X F Av Mu env st s)
    (k:∀f fd s',R X F (fun a=>Av a∨a=f) Mu env st s'→Step Av Mu s (fun a=>Av a∨a=f) Mu s'→s'.heap.get? f=some (fnO fd none)→¬ Mu f→s.heap.objs.size≤f→Q (.ref f) s'):
    wpAny (model X.prog X.w) A (eval (.Lambda params body scope pos) env) Q E s:=by
  refine kla_eval hdef ?_
  obtain ⟨hg,hC,hB,hGT⟩:=r.makes ok
  obtain ⟨hMu,ps,hp,t3,w⟩:=r.tabs T ok.tb
  have hql:env.qual++"<lambda>"=F.ql++"<lambda>":=by rw [r.ql]
  rw [hql]
  have hcl:closureFor scope env=pure []:=closureFor_none hfree
  cases hc:codeAmong pos ps.toList with
  | none=>
    refine kla_makeFunction (mg:=X.mg) hcl r.gl hg (by rw [r.cd];exact ok.cd) hC hp t3 hc hGT hB fun c' ctv h' tk hx hge hlt hrec htb=>?_
    have hz:s.heap.objs.size≤h'.objs.size:=Nat.le_of_lt (Nat.lt_of_le_of_lt hge hlt)
    obtain ⟨R1,S1⟩:=r.coded (tk:=tk) ok.tb hp hx hge hlt (by rw [ok.nm];exact hrec) htb hz
    have R2:=R1.fresh (kla_obj "<lambda>" (F.ql++"<lambda>") params body scope [] ((X.mg "__name__").getD .none) c' ctv)
    have S2:=S1.toStep.trans (Step.fresh (kla_obj "<lambda>" (F.ql++"<lambda>") params body scope [] ((X.mg "__name__").getD .none) c' ctv)) r.lt
    exact k _ _ _ R2 S2 (Heap.get?_push_size _ rfl) (fun q=>absurd (R1.lt _ (R1.ma _ q)) (Nat.lt_irrefl _)) hz
  | some cv=>
    obtain ⟨c',o,vs,t,e1,e2,e3,e4,e5⟩:=w pos cv hc
    subst e1
    refine kla_makeFunctionHit (mg:=X.mg) hcl r.gl hg (by rw [r.cd];exact ok.cd) hC hp t3 hc hB fun ctv h' tk hk hz=>?_
    have G1:Grow s { s with heap:=h',toks:=tk }:=⟨hk,hz,rfl,rfl⟩
    have R1:=r.grow G1
    have R2:=R1.fresh { cls:=.type "function",data:=.func (kla_fn "<lambda>" (F.ql++"<lambda>") params body scope [] ((X.mg "__name__").getD .none) (.ref c') ctv) }
    have S2:=(Step.ofGrow (Av:=Av) (Mu:=Mu) G1).trans (Step.fresh { cls:=.type "function",data:=.func (kla_fn "<lambda>" (F.ql++"<lambda>") params body scope [] ((X.mg "__name__").getD .none) (.ref c') ctv) }) r.lt
    exact k _ _ _ R2 S2 (Heap.get?_push_size _ rfl) (fun q=>absurd (R1.lt _ (R1.ma _ q)) (Nat.lt_irrefl _)) hz
set_option tactic.hygienic true in
theorem wp_def {A:Around} {Av Mu:Addr→Prop} {env:Env} {st:St} {s:Shared} {Q:Flow→Shared→Prop} {E:Value→Shared→Prop} {c T:Addr} {pos:Pos} {name:Str} {params:Arguments} {body:List Stmt} {scope:Scope} {i:Nat} (ok:MakeOK X F c T pos name)
    (hd0:params.defaults=[]) (hk0:params.kw_defaults=[]) (ha:annTrees params none env=[]) (hcells:∀n,(n,NameKind.free)∈scope.names→∃c,env.cells.lookup n=some c) (r:R X F Av Mu env st s)
    (hi:F.names[i]? =some name) (hl:F.Wr name) (hkl:F.scope.names.lookup name≠some .globalExplicit)
    (k:∀f doc pm cdv ctv s',R X F Av Mu env (st.set i (.ref f)) s'→Step Av Mu s Av Mu s'→s'.heap.get? f=some (fnO (fnX name (F.ql++name) params body scope (clOf env.cells scope.names []) .none .none doc pm none cdv ctv) none)→¬ Av f→
      s'.heap.CodeRec cdv (F.ql++name)→(∀c,cdv=.ref c→¬ Av c)→Q .next s'):
    wpAny (model X.prog X.w) A (exec (.FunctionDef name params body [] none [] scope none name pos) env) Q E s:=by
  refine nestDef_K hd0 hk0 ha ?_
  obtain ⟨hg,hC,hB,hGT⟩:=r.makes ok
  obtain ⟨hMu,ps,hp,t3,w⟩:=r.tabs T ok.tb
  have hql:qualnameIn env name name=F.ql++name:=by
    have hke:env.kindOf name=F.scope.names.lookup name:=by show env.scope.names.lookup name=_;rw [r.sc]
    unfold qualnameIn
    rw [hke,if_neg (by simpa using hkl),r.ql]
  rw [hql]
  have hcl:closureFor scope env=pure (clOf env.cells scope.names []):=closure_eq hcells
  cases hc:codeAmong pos ps.toList with
  | none=>
    refine makeFunction_K (mg:=X.mg) hcl r.gl hg (by rw [r.cd];exact ok.cd) hC hp t3 hc hGT hB fun c' ctv doc h' tk hx hge hlt hrec htb=>?_
    have hz:s.heap.objs.size≤h'.objs.size:=Nat.le_of_lt (Nat.lt_of_le_of_lt hge hlt)
    obtain ⟨R1,S1⟩:=r.coded (tk:=tk) ok.tb hp hx hge hlt (by rw [ok.nm];exact hrec) htb hz
    have G:=Grow.push (s:={ s with heap:=h',toks:=tk }) (fnMade name (F.ql++name) params body scope (clOf env.cells scope.names []) doc ((X.mg "__name__").getD .none) c' ctv) (tk:=tk) (d:=s.drawn)
    have hn:¬ Av h'.objs.size:=fun q=>absurd (R1.lt _ q) (Nat.lt_irrefl _)
    have hc2:∀c2,Value.ref c'=.ref c2→¬ Av c2:=fun c2 e=>by
      cases e
      exact fun q=>absurd (r.lt _ q) (Nat.not_lt.mpr hge)
    refine wp_store (R1.grow G) hi (b:=.ref h'.objs.size) rfl hl fun s2 R2 S2=>?_
    obtain ⟨c3,oc,vs,t,e1,e2,e4,e5⟩:=hrec
    cases e1
    refine k _ doc _ _ ctv s2 R2 ((S1.toStep.trans (Step.ofGrow G) r.lt).trans S2 r.lt) (S2.keep _ _ (Heap.get?_push_size _ rfl) fun q=>hn (R1.ma _ q)) hn ⟨c',oc,vs,t,rfl,S2.keep _ _ (Heap.get?_push_of_some _ e2) fun q=>?_,e4,e5⟩ hc2
    exact hc2 _ rfl (R1.ma _ q)
  | some cv=>
    obtain ⟨c',o,vs,t,e1,e2,e3,e4,e5⟩:=w pos cv hc
    subst e1
    refine makeFunction_hit (mg:=X.mg) hcl r.gl hg (by rw [r.cd];exact ok.cd) hC hp t3 hc hB fun ctv doc h' tk hk hz=>?_
    have G1:Grow s { s with heap:=h',toks:=tk }:=⟨hk,hz,rfl,rfl⟩
    have R1:=r.grow G1
    have G:=Grow.push (s:={ s with heap:=h',toks:=tk }) { cls:=.type "function",data:=.func (fnX name (F.ql++name) params body scope (clOf env.cells scope.names []) .none .none doc ((X.mg "__name__").getD .none) none (.ref c') ctv) } (tk:=tk) (d:=s.drawn)
    have hn:¬ Av h'.objs.size:=fun q=>absurd (R1.lt _ q) (Nat.lt_irrefl _)
    refine wp_store (R1.grow G) hi (b:=.ref h'.objs.size) rfl hl fun s2 R2 S2=>?_
    refine k _ doc _ _ ctv s2 R2 (((Step.ofGrow G1).trans (Step.ofGrow G) r.lt).trans S2 r.lt) (S2.keep _ _ (Heap.get?_push_size _ rfl) fun q=>hn (R1.ma _ q)) hn ⟨c',o,vs,t,rfl,S2.keep _ _ (G.keep _ _ (hk _ _ e2)) fun q=>e3 (R1.ma _ q),e4,by rw [←ok.nm];exact e5⟩ fun c2 e=>?_
    cases e
    exact e3
end Mine
end
section
open PySem PySem.W PyProof.Rows PySem.SeqAt PySem.Builtin.Str
set_option tactic.hygienic false
namespace Mine
noncomputable def clipN (o:Option Int) (d n:Nat):Nat:=match o with
  | none=>d
  | some i=>(max 0 (min (if i < 0 then i+n else i) n)).toNat
theorem clip_cast (o:Option Int) (d n:Nat) (x:Int) (h:x=d):(match o with
    | none=>x
    | some i=>max 0 (min (if i < 0 then i+(n:Int) else i) (n:Int)))=((clipN o d n:Nat):Int):=by
  cases o with
  | none=>exact h
  | some i=>exact (Int.toNat_of_nonneg (Int.le_max_left ..)).symm
theorem clipN_le (o:Option Int) {d n:Nat} (h:d≤n):clipN o d n≤n:=by
  cases o with
  | none=>exact h
  | some i=>exact Int.toNat_le.mpr (Int.max_le.mpr ⟨Int.natCast_nonneg _,Int.min_le_right ..⟩)
theorem clipN_nat (k d n:Nat):clipN (some (k:Int)) d n=min k n:=by
  show (max 0 (min (if (k:Int) < 0 then (k:Int)+n else (k:Int)) (n:Int))).toNat=_
  rw [if_neg (Int.not_lt.mpr (Int.natCast_nonneg k))]
  rcases Nat.le_total k n with h | h
  · rw [Int.min_eq_left (Int.ofNat_le.mpr h),Nat.min_eq_left h];rfl
  · rw [Int.min_eq_right (Int.ofNat_le.mpr h),Nat.min_eq_right h];rfl
set_option tactic.hygienic true in
theorem range_nat (a b:Nat):sliceRange (a:Int) (b:Int) 1=(List.range (b - a)).map fun k=>a+k:=by
  unfold sliceRange
  dsimp only
  rw [if_pos (by decide)]
  have:(if (a:Int) < b then ((b:Int) - a+1 - 1) / 1 else 0).toNat=b - a:=by
    rw [Int.ediv_one,Int.add_sub_cancel]
    split
    · exact Int.toNat_sub b a
    · rename_i h
      exact (Nat.sub_eq_zero_of_le (Int.ofNat_le.mp (Int.not_lt.mp h))).symm
  rw [this]
  refine List.map_congr_left fun k _=>?_
  rw [Int.one_mul]
  exact Int.toNat_natCast (a+k)
theorem bounds_nat (a b:Option Int) (n:Nat):sliceBounds a b none n=(((clipN a 0 n:Nat):Int),((clipN b n n:Nat):Int),1):=by
  unfold sliceBounds
  simp only [Option.getD_none,show ((1:Int)>0)=True from by simp,if_true]
  rw [←clip_cast a 0 n 0 rfl,←clip_cast b n n n rfl]
  cases a<;>cases b<;>rfl
theorem picksO {α:Type} (l:List α) (a b:Nat) (hb:b≤l.length):((List.range (b - a)).map (fun k=>a+k)).filterMap (l[·]?)=(l.drop a).take (b - a):=by
  by_cases h:a≤b
  · exact StrLaws.picks l (b - a) a (by rw [Nat.add_sub_cancel' h];exact hb)
  · rw [Nat.sub_eq_zero_of_le (Nat.le_of_not_le h)];simp
theorem listSl_eq {α:Type} (l:List α) (a b:Option Int):listSl l a b none=(l.drop (clipN a 0 l.length)).take (clipN b l.length l.length - clipN a 0 l.length):=by
  unfold listSl pick
  rw [bounds_nat]
  dsimp only
  rw [range_nat]
  exact picksO l _ _ (clipN_le b (Nat.le_refl _))
theorem listSl_length {α:Type} (l:List α) (a b:Option Int):(listSl l a b none).length≤l.length:=by
  rw [listSl_eq,List.length_take,List.length_drop]
  exact Nat.le_trans (Nat.min_le_right ..) (Nat.sub_le ..)
end Mine
end
section
open PySem PySem.W PyProof.Rows PySem.Builtin
set_option tactic.hygienic false
namespace Mine
variable {X:Cx}
noncomputable abbrev sAt:Str:=PySem.Str.ofString "at"
noncomputable abbrev sSize:Str:=PySem.Str.ofString "size"
set_option genInjectivity false in
set_option genSizeOf false in
structure PsR where
  (pa a1 a2 a3 a4 a5 b1 b2 b3 b4 b5 b6 b7 b8 b9 b10 b11 b12 b13 b14:Pos)
noncomputable abbrev readParams (pa:Pos):Arguments:={ posonlyargs:=[],args:=[{ arg:="size",annotation:=none,pos:=pa }],vararg:=none,kwonlyargs:=[],kw_defaults:=[],kwarg:=none,defaults:=[] }
noncomputable abbrev readScope (oc:Str):Scope:={ kind:=.function,names:=[(PySem.Str.ofString "size",.local),(PySem.Str.ofString "at",.free),(oc,.free),(PySem.Str.ofString "bytes",.globalImplicit)],isGenerator:=false,isCoroutine:=false,more:=[] }
noncomputable abbrev readBody (oc:Str) (Z:PsR):List Stmt:=
  [.AugAssign (.Subscript (.Name "at" Z.a1) (.Constant (.int 0) 0 Z.a2) Z.a3) .Add (.Name "size" Z.a4) Z.a5,
   .Return (some (.Call (.Name "bytes" Z.b1) [.Subscript (.Name oc Z.b2) (.Slice (some (.BinOp (.Subscript (.Name "at" Z.b3) (.Constant (.int 0) 0 Z.b4) Z.b5) .Sub (.Name "size" Z.b6) Z.b7)) (some (.Subscript (.Name "at" Z.b8) (.Constant (.int 0) 0 Z.b9) Z.b10)) none Z.b11) Z.b12] [] Z.b13)) Z.b14]
structure Go (a:Addr) (s s':Shared):Prop where
  keep:∀b o,b≠a→s.heap.get? b=some o→s'.heap.get? b=some o
  os:s'.os=s.os
  gens:s'.gens=s.gens
theorem Go.trans {a:Addr} {s s' s'':Shared} (x:Go a s s') (y:Go a s' s''):Go a s s'':=⟨fun b o n e=>y.keep b o n (x.keep b o n e),y.os.trans x.os,y.gens.trans x.gens⟩
theorem Go.ofGrow {a:Addr} {s s':Shared} (g:Grow s s'):Go a s s':=⟨fun b o _ e=>g.keep b o e,g.os,g.gens⟩
structure ReadAt (h:Heap) (f1 cA cO aAt aOc:Addr) (oc:Str) (octs:List Int):Prop where
  fn:∃(qual:Str) (Z:PsR) (clos:List (Str×Addr)) (doc pm cdv ctv:Value),
    h.get? f1=some (fnO (fnX "_law_read" qual (readParams Z.pa) (readBody oc Z) (readScope oc) clos .none .none doc pm none cdv ctv) none)∧
    h.CodeRec cdv qual∧clos.lookup sAt=some cA∧clos.lookup oc=some cO
  cA:h.IsCell cA (some (.ref aAt))
  cO:h.IsCell cO (some (.ref aOc))
  oc:∃vs n,h.get? aOc=some (listObj vs n)∧VRs h (fun _=>False) vs (octs.map .int)
  ne:aOc≠aAt
  nl:h.NoLimit
noncomputable def AtIs (h:Heap) (aAt:Addr) (p:Int):Prop:=∃n t,h.get? aAt=some (listObj [.int p t] n)
theorem VRs_int_mono {h h':Heap} {vs:List Value} {octs:List Int} (x:VRs h (fun _=>False) vs (octs.map .int)):VRs h' (fun _=>False) vs (octs.map .int):=by
  induction octs generalizing vs with
  | nil=>cases vs with
    | nil=>unfold VRs;trivial
    | cons=>unfold VRs at x;exact x.elim
  | cons i r ih=>cases vs with
    | nil=>unfold VRs at x;exact x.elim
    | cons v vs=>
      rw [List.map_cons] at x ⊢
      unfold VRs at x ⊢
      refine ⟨?_,ih x.2⟩
      have:=x.1
      unfold VR at this ⊢
      exact this
theorem ReadAt.go {s s':Shared} {f1 cA cO aAt aOc:Addr} {oc:Str} {octs:List Int} {p:Int} (x:ReadAt s.heap f1 cA cO aAt aOc oc octs) (hat:AtIs s.heap aAt p) (hl:s'.heap.NoLimit) (g:Go aAt s s'):ReadAt s'.heap f1 cA cO aAt aOc oc octs:=by
  obtain ⟨n,t,hat⟩:=hat
  have nd:∀{b o},s.heap.get? b=some o→(∀vs n,o≠listObj vs n)→b≠aAt:=fun e q z=>by subst z;rw [hat] at e;cases e;exact q _ _ rfl
  refine ⟨?_,?_,?_,?_,x.ne,hl⟩
  · obtain ⟨qual,Z,clos,doc,pm,cdv,ctv,e,hc,r⟩:=x.fn
    refine ⟨qual,Z,clos,doc,pm,cdv,ctv,g.keep _ _ (nd e fun _ _ q=>by cases (congrArg Obj.data q)) e,?_,r⟩
    obtain ⟨c,o,vs,t,e1,e2,e3,e4⟩:=hc
    exact ⟨c,o,vs,t,e1,g.keep _ _ (nd e2 fun _ _ q=>by rw [q] at e3;cases e3) e2,e3,e4⟩
  · obtain ⟨o,e,hd⟩:=x.cA
    exact ⟨o,g.keep _ _ (nd e fun _ _ q=>by rw [q] at hd;cases hd) e,hd⟩
  · obtain ⟨o,e,hd⟩:=x.cO
    exact ⟨o,g.keep _ _ (nd e fun _ _ q=>by rw [q] at hd;cases hd) e,hd⟩
  · obtain ⟨vs,n,e,z⟩:=x.oc
    exact ⟨vs,n,g.keep _ _ x.ne e,VRs_int_mono z⟩
theorem ints_slice {octs:List Int} {a b:Option Int}:listSl (octs.map PV.int) a b none=(listSl octs a b none).map PV.int:=by
  unfold listSl
  rw [List.length_map]
  unfold pick
  rw [List.map_filterMap]
  congr 1
  funext i
  rw [List.getElem?_map]
theorem boot_bytes:bootBuiltins (PySem.Str.ofString "bytes")=some (.type "bytes"):=by kernel_rfl
theorem allOf_ints:∀l:List Int,allOf asInt (l.map PV.int)=some l
  | []=>rfl
  | x::l=>by
    rw [List.map_cons]
    unfold allOf
    rw [allOf_ints l]
    rfl
theorem intsAre_map:∀l:List (Int×Tok),IntsAre (l.map fun p=>Value.int p.1 p.2) (l.map (·.1))
  | []=>.nil
  | _::l=>.cons _ _ (intsAre_map l)
theorem mem_listSl {α:Type} {l:List α} {a b:Option Int} {z:α} (h:z∈listSl l a b none):z∈l:=by
  unfold listSl pick at h
  obtain ⟨i,_,e⟩:=List.mem_filterMap.mp h
  exact List.mem_of_getElem? e
theorem read_nocell {oc:Str}:∀y∈(readScope oc).names,y.2≠NameKind.cell:=by
  intro y hy
  simp only [List.mem_cons,List.not_mem_nil,or_false] at hy
  rcases hy with rfl | rfl | rfl | rfl<;>(intro h;cases h)
theorem read_free {oc:Str} (h:oc≠sAt∧oc≠sSize∧oc≠"bytes"):List.lookup oc (readScope oc).names=some .free:=by
  unfold readScope
  rw [List.lookup_cons,beq_eq_false_iff_ne.mpr h.2.1]
  show List.lookup oc _=_
  rw [List.lookup_cons,beq_eq_false_iff_ne.mpr h.1]
  show List.lookup oc _=_
  rw [List.lookup_cons,beq_self_eq_true]
theorem read_glob {oc:Str} (h:oc≠sAt∧oc≠sSize∧oc≠"bytes"):List.lookup (PySem.Str.ofString "bytes") (readScope oc).names=some .globalImplicit:=by
  unfold readScope
  rw [List.lookup_cons,show ((PySem.Str.ofString "bytes":Str)==PySem.Str.ofString "size")=false by decide+kernel]
  show List.lookup _ _=_
  rw [List.lookup_cons,show ((PySem.Str.ofString "bytes":Str)==PySem.Str.ofString "at")=false by decide+kernel]
  show List.lookup _ _=_
  rw [List.lookup_cons,show ((PySem.Str.ofString "bytes":Str)==oc)=false from beq_eq_false_iff_ne.mpr (Ne.symm h.2.2)]
  show List.lookup _ _=_
  rw [List.lookup_cons,beq_self_eq_true]
theorem slice_ints {octs:List Int} {p n:Int} (hp:0≤p∧p < 1000) (hn:0≤n∧n < 1000) (hlen:octs.length≤1000):
    pySlice (.list (octs.map .int)) (some p) (some (p+n)) none=some (.list (listSl (octs.map .int) (some p) (some (p+n)) none)):=by
  unfold pySlice
  rw [if_neg (by simp)]
  dsimp only
  rw [if_pos (by rw [List.length_map];lia)]
set_option maxHeartbeats 400000 in
theorem read_w {A:Around} {s:Shared} {f1 cA cO aAt aOc:Addr} {oc:Str} {octs:List Int} {p n:Int} {t:Tok} {K:Result→Shared→Prop} (hroom:A.depth < recursionLimit) (hh:A.handled=none)
    (hg:s.heap.Ns mainGlobals X.mg) (hb:s.heap.Ns builtinsNs X.mb) (hnb:X.mg "bytes"=none)
    (x:ReadAt s.heap f1 cA cO aAt aOc oc octs) (hat:AtIs s.heap aAt p) (hp:0≤p∧p < 1000) (hn:0≤n∧n < 1000) (hr:∀z∈octs,0≤z∧z < 256) (hlen:octs.length≤1000) (hoc:(oc==("__classdict__":Str))=false) (hoc2:(oc==("__debug__":Str))=false) (hoc3:oc≠sAt∧oc≠sSize∧oc≠"bytes")
    (k:∀t' s',Go aAt s s'→AtIs s'.heap aAt (p+n)→s'.heap.NoLimit→K (.ok (.ret (.bytes (byteArr (listSl octs (some p) (some (p+n)) none)) t'))) s'):
    codeAny (model X.prog X.w) A (.call (.ref f1) ⟨[.int n t],[]⟩) K s:=by
  obtain ⟨qual,Z,clos,doc,pm,cdv,ctv,ef,hcd,hcA,hcO⟩:=x.fn
  refine codeAny_call_def (fd:=fnX "_law_read" qual (readParams Z.pa) (readBody oc Z) (readScope oc) clos .none .none doc pm none cdv ctv) (binds:=[(sSize,.int n t)]) hroom ef rfl x.nl hcd rfl (.of_eq (by first | rfl | kernel_rfl)) ?_ ?_ (fun h₁ hns hk₁=>?_) rfl rfl rfl
  · exact read_nocell
  · intro y hy
    simp at hy
    subst hy
    rfl
  have hz₁:s.heap.objs.size≤h₁.objs.size:=Nat.le_of_lt hns.lt
  generalize hE:callEnv (fnX "_law_read" qual (readParams Z.pa) (readBody oc Z) (readScope oc) clos .none .none doc pm none cdv ctv) s.heap.objs.size f1=env
  have hkind:env.scope.kind=.function:=by rw [←hE];rfl
  have kSize:env.kindOf sSize=some .local:=by rw [←hE];rfl
  have kAt:env.kindOf sAt=some .free:=by rw [←hE];rfl
  have kOc:env.kindOf oc=some .free:=by rw [←hE];exact read_free hoc3
  have kBy:env.kindOf (PySem.Str.ofString "bytes")=some .globalImplicit:=by rw [←hE];exact read_glob hoc3
  have hL:env.locals=s.heap.objs.size:=by rw [←hE];rfl
  have hcells:env.cells=clos:=by rw [←hE];rfl
  have hgl:env.globals=mainGlobals:=by rw [←hE];rfl
  have hbl:env.builtins=builtinsNs:=by rw [←hE];rfl
  have G0:Grow s { s with heap:=h₁,toks:=s.toks+1 }:=⟨hk₁,hz₁,rfl,rfl⟩
  obtain ⟨nA,tA,eA⟩:=hat
  obtain ⟨oA,ecA,edA⟩:=x.cA
  obtain ⟨oO,ecO,edO⟩:=x.cO
  obtain ⟨vs,nO,eO,zO⟩:=x.oc
  have ev:∀{M:Model} {A':Around} {E:Value→Shared→Prop} {Q:Value→Shared→Prop} {s':Shared} {pos:Pos},Go aAt s s'→Q (.ref aAt) s'→wpAny M A' (eval (.Name "at" pos) env) Q E s':=fun {M A' E Q s' pos} G q=>
    wpAny_Name (wpAny_loadName_free hkind kAt (by rw [hcells];exact hcA) ⟨oA,G.keep _ _ (fun z=>by rw [z,eA] at ecA;cases ecA;cases edA) ecA,edA⟩ q (by decide+kernel)) (by decide+kernel)
  have evS:∀{M:Model} {A':Around} {E:Value→Shared→Prop} {Q:Value→Shared→Prop} {s':Shared} {pos:Pos},(∃m,s'.heap.Ns s.heap.objs.size m∧m sSize=some (.int n t))→Q (.int n t) s'→wpAny M A' (eval (.Name "size" pos) env) Q E s':=fun {M A' E Q s' pos} G q=>by
    obtain ⟨m,hm,e⟩:=G
    exact wpAny_Name (wpAny_loadName_local hkind kSize (by rw [hL];exact hm) e q) (by decide+kernel)
  have ns0:∃m,h₁.Ns s.heap.objs.size m∧m sSize=some (.int n t):=⟨_,hns,by rfl⟩
  have item:∀{A':Around} {E:Value→Shared→Prop} {Q:Value→Shared→Prop} {s':Shared} {q:Int} {u t0:Tok} {n':Nat},s'.heap.get? aAt=some (listObj [.int q u] n')→Q (.int q u) s'→wpAny (model X.prog X.w) A' (getItem (.ref aAt) (.int 0 t0)) Q E s':=fun {A' E Q s' q u t0 n'} g hq=>
    list_item_w (X:=X) (j:=0) g (by lia) (by rfl) (by rfl) hq
  refine wpAny_execs_cons (wpAny_AugAssign_SubscriptAny (ev (.ofGrow G0) (wpAny_Constant_int (item (hk₁ _ _ eA) ?_))))
  refine evS ns0 (P.iadd_int ?_)
  have hLA:s.heap.objs.size≠aAt:=fun z=>absurd (Heap.lt_size eA) (z ▸ Nat.lt_irrefl _)
  refine list_set_x (j:=0) (hk₁ _ _ eA) (by lia) (by rfl) fun h4 n4 g4 sb=>?_
  have G4:∀{tk:Nat},Go aAt s { s with heap:=h4,toks:=tk }:=fun {tk}=>(Go.ofGrow G0).trans ⟨fun b o hb e=>(sb.2 b hb).trans e,rfl,rfl⟩
  obtain ⟨m1,hns1,e1⟩:=ns0
  have ns4:∃m,h4.Ns s.heap.objs.size m∧m sSize=some (.int n t):=⟨_,hns1.extBut sb.extBut hLA,e1⟩
  have gl4:h4.Ns mainGlobals X.mg:=by
    refine (hg.keeps hk₁).extBut sb.extBut fun z=>?_
    obtain ⟨o,es,ep,e,hd,_⟩:=hg
    rw [z,eA] at e;cases e;cases hd
  have bl4:h4.Ns builtinsNs X.mb:=by
    refine (hb.keeps hk₁).extBut sb.extBut fun z=>?_
    obtain ⟨o,es,ep,e,hd,_⟩:=hb
    rw [z,eA] at e;cases e;cases hd
  refine wpAny_execs_cons (wpAny_Return_some ?_)
  show wpAny _ _ (do callWith Z.b13 (←eval (.Name "bytes" Z.b1) env) [] (backTo Z.b13 (starEach [_] env)) (backToKw Z.b13 (keywordEach [] env))) _ _ _
  refine wpAny_bind (Calls.Name_function_global hkind kBy (Calls.loadGlobal_builtin (mg:=X.mg) (mb:=X.mb) (by rw [hgl];exact gl4) hnb (by rw [hbl];exact bl4) ((X.bb _ (by decide+kernel)).trans boot_bytes) (callArgsT rfl ?_)) (by decide+kernel))
  refine Calls.spliced_cons ?_
  refine Subscript_ (wpAny_Name (wpAny_loadName_free hkind kOc (by rw [hcells];exact hcO) ⟨oO,(G4 (tk:=0)).keep _ _ (fun z=>by rw [z,eA] at ecO;cases ecO;cases edO) ecO,edO⟩ ?_ hoc) hoc2)
  refine wpAny_Slice ?_
  have tail4:∀{A':Around} {E:Value→Shared→Prop} {Q:Value→Shared→Prop} {g:Array GenState} {dr:Drawn} {tk:Nat} {os:OsState} {t0:Tok} {e1:Expr} {b:Pos},(∀u,Q (.int (p+n) u) { heap:=h4,gens:=g,drawn:=dr,toks:=tk,os:=os })→wpAny (model X.prog X.w) A' (subscriptTail e1 (.Constant (.int 0) 0 b) (.ref aAt) (.int 0 t0)) Q E { heap:=h4,gens:=g,drawn:=dr,toks:=tk,os:=os }:=fun {A' E Q g dr tk os t0 e1 b} hq=>
    tail_any (T:="list") ⟨_,g4,rfl⟩ slot_list_getitem.lookup (item g4 (hq _)) (by rfl)
  show wpAny _ _ (eval _ env) _ _ _
  refine wpAny_BinOp (Subscript_ (ev G4 (wpAny_Constant_int (tail4 fun u4=>evS ns4 (_root_.PySem.P.sub_int ?_)))))
  show wpAny _ _ (eval _ env) _ _ _
  refine Subscript_ (ev G4 (wpAny_Constant_int (tail4 fun u5=>?_)))
  show wpAny _ _ (pure Value.none) _ _ _
  refine wpAny_pure ?_
  have hV:VR h4 (fun _=>False) (.ref aOc) (.list (octs.map .int)):=by
    unfold VR
    exact ⟨aOc,vs,nO,rfl,(G4 (tk:=0)).keep _ _ x.ne eO,fun h=>h,VRs_int_mono zO⟩
  refine pySlice_w (X:=X) (Av:=fun _=>False) (o:=.list (octs.map .int)) (a:=some p) (b:=some (p+n)) (c:=none) (r:=.list (listSl (octs.map .int) (some p) (some (p+n)) none)) (slice_ints hp hn hlen) (fun _ h=>h.elim) hV ⟨_,by rw [Int.add_sub_cancel]⟩ ⟨_,rfl⟩ rfl (by intro _ _;exact ⟨_,rfl⟩) fun v6 s6 G6 V6=>?_
  rw [ints_slice] at V6
  unfold VR at V6
  obtain ⟨l6,vs6,n6,rfl,gl6,_,z6⟩:=V6
  obtain ⟨l7,rfl,e7⟩:=ints_of z6 (allOf_ints _)
  refine Calls.spliced_nil ?_
  refine call_bytes_ints (l:=l6) (vs:=l7.map fun p=>Value.int p.1 p.2) (ns:=listSl octs (some p) (some (p+n)) none) ⟨_,gl6,rfl,n6,rfl⟩ ?_ ?_ ?_ hh fun h8 t8 k8 hk8=>?_
  · rw [←e7];exact intsAre_map _
  · exact fun z hz=>hr z (mem_listSl hz)
  · rw [List.length_map,←List.length_map (f:=(·.1)),e7]
    exact Nat.le_trans (listSl_length ..) (Nat.le_trans hlen (by decide))
  have k6:∀b o,h4.get? b=some o→s6.heap.get? b=some o:=fun b o e=>G6.keep b o e
  have hG6:Go aAt s s6:=⟨fun b o n e=>k6 b o ((G4 (tk:=0)).keep b o n e),G6.os,G6.gens⟩
  have hfin:Go aAt s { s6 with heap:=h8,toks:=k8 }:=hG6.trans ⟨fun b o _ e=>hk8 b o e,rfl,rfl⟩
  refine k t8 _ hfin ⟨n4,_,hk8 _ _ (k6 _ _ g4)⟩ ?_
  refine x.nl.at fun o e=>hfin.keep _ _ (fun z=>?_) e
  obtain ⟨mc,⟨o',es,ep,e',hd',_⟩,_⟩:=x.nl
  rw [z,eA] at e'
  cases e'
  cases hd'
end Mine
end
section
open PySem PySem.W PyProof.Rows PySem.Builtin PySem.Builtin.ObjectAttr
set_option tactic.hygienic false
namespace Mine
variable {X:Cx}
noncomputable def StreamAt (h:Heap) (f2 f1:Addr):Prop:=∃fd D md,h.get? f2=some (fnO fd (some D))∧h.Ns D md∧md (PySem.Str.ofString "read")=some (.ref f1)
theorem StreamAt.go {s s':Shared} {f2 f1 aAt:Addr} {p:Int} (x:StreamAt s.heap f2 f1) (hat:AtIs s.heap aAt p) (g:Go aAt s s'):StreamAt s'.heap f2 f1:=by
  obtain ⟨n,t,hat⟩:=hat
  obtain ⟨fd,D,md,e,⟨o,es,ep,eo,hd,r⟩,hm⟩:=x
  refine ⟨fd,D,md,g.keep _ _ (fun z=>?_) e,⟨o,es,ep,g.keep _ _ (fun z=>?_) eo,hd,r⟩,hm⟩
  · subst z;rw [hat] at e;cases (congrArg (fun o=>o.map Obj.data) e)
  · subst z;rw [hat] at eo;cases eo;cases hd
theorem call_read {A:Around} {E:Value→Shared→Prop} {s:Shared} {env:Env} {f2 f1:Addr} {p1 p2 pos:Pos} {arg:Expr} {n:Int} {Q:Value→Shared→Prop} (x:StreamAt s.heap f2 f1) (hf1:∃fd,s.heap.get? f1=some (fnO fd none)) (hline:(p2.endLine==pos.line)=true)
    (hn:∀{Q':Value→Shared→Prop},Q' (.ref f2) s→wpAny (model X.prog X.w) A (eval (.Name "f" p1) env) Q' E s)
    (ha:∀{Q':Value→Shared→Prop} {tk:Nat},(∀t tk',Q' (.int n t) { s with toks:=tk' })→wpAny (model X.prog X.w) A (eval arg env) Q' E { s with toks:=tk })
    (hstar:starEach [arg] env=[(false,eval arg env)])
    (h:∀t tk,wpAny (model X.prog X.w) A (call (.ref f1) [.int n t]) Q E { s with toks:=tk }):
    wpAny (model X.prog X.w) A (eval (.Call (.Attribute (.Name "f" p1) "read" p2) [arg] [] pos) env) Q E s:=by
  rw [arm_eval_Call,show attributeBase (.Name "f" p1) "read" env (eval (.Name "f" p1) env)=eval (.Name "f" p1) env from rfl]
  refine wpAny_bind (hn ?_)
  refine wpAny_bind (wpAny_standAt ?_)
  have hform:methodCallForm ([arg].length+([]:List Keyword).length) (backTo pos (starEach [arg] env)) (backToKw pos (keywordEach [] env))=true:=by rw [hstar];rfl
  have hpos:methodCallPos true (.Name "f" p1) env p2 pos=pure pos:=by unfold methodCallPos;simp [hline]
  unfold methodCall
  rw [hform]
  obtain ⟨hp,g,d,t,os⟩:=s
  obtain ⟨fd,D,md,e1,e2,e3⟩:=x
  refine wpAny_bind (wpAny_holding (getMethod_fn e1 e2 lk_fn_read e3 rfl ?_))
  refine wpAny_bind (wpAny_of_eq hpos ?_)
  obtain ⟨fd1,e4⟩:=hf1
  refine callWith_F ⟨_,_,_,_,e4⟩ ?_ hstar
  show wpAny _ _ (spliced (backTo pos (starEach [arg] env))) _ _ _
  rw [hstar]
  exact Calls.spliced_cons (ha fun t tk=>Calls.spliced_nil ⟨⟨_,_,_,_,e4⟩,h t tk⟩)
end Mine
end
section
open PySem PySem.W PyProof.Rows PySem.Builtin PySem.Builtin.ObjectAttr
set_option tactic.hygienic false
namespace Mine
variable {X:Cx}
noncomputable def leB (l:List UInt8):Int:=l.reverse.foldl (fun acc (b:UInt8)=>acc * 256+(b.toNat:Int)) ((0:Nat):Int) - (if (l.reverse.head?.any (· ≥128))=true then 256 ^ l.length else 0)
theorem leB_small {l:List UInt8} (h:l.length≤7):(leB l).natAbs < 2 ^ 63:=by
  unfold leB
  rw [KFB.foldI_eq]
  have h1:=KFB.fold_lt l.reverse 0
  rw [Nat.zero_add,Nat.one_mul,List.length_reverse] at h1
  have h2:256 ^ l.length≤256 ^ 7:=Nat.pow_le_pow_right (by decide) h
  have h3:(256:Nat) ^ 7=72057594037927936:=by decide
  have h4:((256:Int) ^ l.length)=((256 ^ l.length:Nat):Int):=by push_cast;rfl
  split
  · rw [h4];lia
  · lia
theorem grownI {M:Model} {A:Around} {E:Value→Shared→Prop} {s:Shared} {i:Int} {Q:Value→Shared→Prop} (hn:i.natAbs < 2 ^ 63) (h:Q (.int i s.toks) { s with toks:=s.toks+1 }):wpAny M A (mkIntGrown i) Q E s:=by
  unfold mkIntGrown
  have hl:¬ (i.natAbs.log2≥bitsLine):=by
    have hb:bitsLine=134217728:=by first | rfl | decide
    by_cases hz:i.natAbs=0
    · rw [hz,hb]
      decide
    · have h1:=(Nat.log2_lt hz).mpr hn
      lia
  rw [if_neg hl]
  exact wpAny_mkInt h
theorem tree_signed {prog:Program} {w:World} {A:Around} {E:Value→Shared→Prop} {s:Shared} {b:Array UInt8} {t u:Tok} {P:PySem.Fin→Shared→Prop} (hl:b.toList.length≤7) (h:P (.done (.ret (.int (leB b.toList) s.toks))) { s with toks:=s.toks+1 }):
    wpAny (model prog w) A (Builtin.«int.from_bytes» ⟨[.type "int",.bytes b t],[("byteorder",.str (PySem.Str.ofString "little") u),("signed",.bool true)]⟩) P E s:=by
  unfold Builtin.«int.from_bytes»
  refine wpAny_bind (wpAny_of_eq (a:=true) KFB.type_int ?_)
  refine KFB.if_not rfl ?_
  refine wpAny_bind (wpAny_of_eq (a:=true) PySem.F.conv_sub_int ?_)
  refine KFB.if_not rfl ?_
  refine wpAny_bind (wpAny_of_eq (a:=[some (.bytes b t),some (.str (PySem.Str.ofString "little") u),some (.bool true)]) (by kernel_rfl) ?_)
  refine wpAny_bind (wpAny_of_eq (a:=PySem.Str.ofString "little") (by kernel_rfl) ?_)
  refine wpAny_bind (wpAny_of_eq (a:=true) rfl ?_)
  refine wpAny_bind (wpAny_of_eq (a:=true) (by kernel_rfl) ?_)
  refine wpAny_bind (wpAny_of_eq (a:=b) rfl ?_)
  have hv:(if (true&&(b.toList.reverse.head?.any (· ≥128)))=true then b.toList.reverse.foldl (fun (acc:Int) (b:UInt8)=>acc * 256+(b.toNat:Int)) ((0:Nat):Int) - 256 ^ b.toList.reverse.length else b.toList.reverse.foldl (fun (acc:Int) (b:UInt8)=>acc * 256+(b.toNat:Int)) ((0:Nat):Int))=leB b.toList:=by
    unfold leB
    rw [List.length_reverse,Bool.true_and]
    split<;>simp
  show wpAny _ _ (mkIntGrown (if (true&&(b.toList.reverse.head?.any (· ≥128)))=true then b.toList.reverse.foldl (fun (acc:Int) (b:UInt8)=>acc * 256+(b.toNat:Int)) ((0:Nat):Int) - 256 ^ b.toList.reverse.length else b.toList.reverse.foldl (fun (acc:Int) (b:UInt8)=>acc * 256+(b.toNat:Int)) ((0:Nat):Int))>>=fun v=>_) _ _ _
  rw [hv]
  refine wpAny_bind (grownI (leB_small hl) ?_)
  refine KFB.if_so (by decide+kernel) ?_
  exact wpAny_bind (wpAny_pure (wpAny_pure h))
theorem check_fbk {b:Array UInt8} {t u:Tok} {o:PySem.Str}:checkBoundCall "int.from_bytes" ⟨[.type "int",.bytes b t],[("byteorder",.str o u),("signed",.bool true)]⟩=pure ():=by first | kernel_rfl | rfl
theorem call_signed {prog:Program} {w:World} {A:Around} {E:Value→Shared→Prop} {s:Shared} {x:Addr} {b:Array UInt8} {t u:Tok} {Q:Value→Shared→Prop} (ho:KFB.StandsAt x s.heap) (hl:b.toList.length≤7)
    (h:Q (.int (leB b.toList) s.toks) { s with toks:=s.toks+1 }):wpAny (model prog w) A (call (.ref x) [.bytes b t] [("byteorder",.str (PySem.Str.ofString "little") u),("signed",.bool true)]) Q E s:=by
  refine wpAny_call (codeAny_of_tree ?_)
  show wpAny _ A.in1 (callAny (.ref x) ⟨[.bytes b t],[("byteorder",.str (PySem.Str.ofString "little") u),("signed",.bool true)]⟩) _ _ s
  simp only [callAny]
  refine wpAny_bind (wpAny_load ho ?_)
  simp only [KFB.bound,show (Value.type "builtin_function_or_method"==Value.type "method"||Value.type "builtin_function_or_method"==Value.type "builtin_function_or_method"||Value.type "builtin_function_or_method"==Value.type "method-wrapper")=true by decide,if_true]
  refine KFB.if_so (by decide) ?_
  refine wpAny_bind (wpAny_of_eq (a:=()) check_fbk ?_)
  refine wpAny_bind (wpAny_pure (wpAny_pure ?_))
  exact ⟨KFB.quiet_fb,codeAny_builtin KFB.entry_fb (tree_signed hl h)⟩
theorem callWith_fieldsK {M:Model} {A:Around} {E:Value→Shared→Prop} {s:Shared} {pos:Pos} {u:Addr} {first:List Value} {args:List (Bool×Sem Value)} {kws:List (Option Str×Sem Value)} {Q:Value→Shared→Prop} (hplain:args.any (·.1)=false) (hk:kws.any (·.1.isNone)=false)
    (h:wpAny M A (evalArgs (.ref u) true args kws) (fun x s₁=>KFB.StandsAt u s₁.heap∧wpAny M A (call (.ref u) (first++x.pos) x.kw) Q E s₁) E s):wpAny M A (callWith pos (.ref u) first args kws) Q E s:=by
  unfold callWith
  refine wpAny_bind (wpAny_holding (wpAny_mono h (fun x s₁ h₁=>wpAny_bind (wpAny_standAt ?_)) fun _ _ x=>x))
  obtain ⟨ho,hcall⟩:=h₁
  simp only [hplain,hk,Bool.or_false]
  refine wpAny_bind (m:=keeperOf (.ref u)) ?_
  unfold keeperOf
  refine wpAny_bind (wpAny_load ho ?_)
  simp only [KFB.bound,show (Value.type "builtin_function_or_method" != Value.type "method")=true by decide,show (Value.type "builtin_function_or_method"==Value.type "builtin_function_or_method"||Value.type "builtin_function_or_method"==Value.type "method-wrapper")=true by decide,if_true]
  refine wpAny_pure ?_
  exact wpAny_bind (wpAny_mono hcall (fun r s₂ hr=>wpAny_bind (wpAny_holding (wpAny_point (wpAny_pure hr)))) fun _ _ x=>x)
end Mine
end
section
open PySem PySem.W PyProof.Rows PySem.Builtin PySem.Builtin.ObjectAttr
set_option tactic.hygienic false
namespace Mine
variable {X:Cx}
theorem code_fn {fa:Addr} {fd:FuncData} {body:List Stmt} {ps names:List Str} {A:Around} {s:Shared} {K:Result→Shared→Prop} {vals:List Value} (ok:FnOK X fa fd body ps names) (hnc:∀x∈fd.scope.names,x.2≠.cell)
    (hbase:∀b o,X.B.get? b=some o→s.heap.get? b=some o) (hroom:A.depth < recursionLimit) (hlen:vals.length=ps.length)
    (h:∀h₁,h₁.Ns s.heap.objs.size (fun x=>(ps.zip vals).reverse.lookup x)→(∀b o,s.heap.get? b=some o→h₁.get? b=some o)→
      wpAny (model X.prog X.w) (A.deeper (callEnv fd s.heap.objs.size fa)) (execs body (callEnv fd s.heap.objs.size fa)) (fun f s'=>K (.ok (.ret (match f with | .ret v=>v | _=>.none))) s')
        (fun e s'=>wpAny (model X.prog X.w) (A.deeper (callEnv fd s.heap.objs.size fa)) (leaving (callEnv fd s.heap.objs.size fa) e) (fun _ s''=>K (.error e) s'') (fun e' s''=>K (.error e') s'') s')
        { s with heap:=h₁,toks:=s.toks+(ps.zip vals).length }):
    codeAny (model X.prog X.w) A (.call (.ref fa) ⟨vals,[]⟩) K s:=by
  obtain ⟨o,ho,hd⟩:=ok.obj
  refine codeAny_call_def (binds:=ps.zip vals) hroom (hbase _ _ ho) hd (X.nolimit.keeps hbase) (ok.code.keeps hbase) ok.body (.of_eq (ok.bind vals hlen)) hnc (fun y hy=>?_) (fun h₁ a b=>h h₁ a b) ok.co ok.gen ok.fn
  obtain ⟨rest,hrest⟩:=ok.pre
  have hm:y.1∈ps:=by
    have:y.1∈(ps.zip vals).map (·.1):=List.mem_map_of_mem hy
    rw [List.map_fst_zip (by lia)] at this
    exact this
  rcases ok.kinds y.1 (by rw [hrest];exact List.mem_append_left _ hm) with e | e
  · exact e
  · exact absurd rfl (hnc _ (mem_of_lookup e))
theorem int_from:findCls [] (.type "int") (.type "type") (PySem.Str.ofString "from_bytes")=some (.get (.builtin "classmethod_descriptor.__get__") (.builtin "int.from_bytes") .none (.type "int")):=by kernel_rfl
theorem boot_int:bootBuiltins (PySem.Str.ofString "int")=some (.type "int"):=by kernel_rfl
set_option genInjectivity false in
set_option genSizeOf false in
structure Ps9 where
  (p1 p2 p3 p4 p5 p6 p7 p8 p9:Pos)
noncomputable abbrev decodeBody (Z:Ps9):List Stmt:=
  [.Return (some (.Call (.Attribute (.Name "int" Z.p1) "from_bytes" Z.p2) [.Name "data" Z.p3]
    [{ arg:=some "byteorder",value:=.Constant (.str "little") 0 Z.p4,pos:=Z.p5 },{ arg:=some "signed",value:=.Constant (.bool true) 0 Z.p6,pos:=Z.p7 }] Z.p8)) Z.p9]
theorem decode_w {fa:Addr} {fd:FuncData} {Z:Ps9} {A:Around} {s:Shared} {K:Result→Shared→Prop} {b:Array UInt8} {t:Tok}
    (ok:FnOK X fa fd (decodeBody Z) [PySem.Str.ofString "data"] [PySem.Str.ofString "data"]) (hnc:∀x∈fd.scope.names,x.2≠.cell) (hline:(Z.p2.endLine==Z.p8.line)=true)
    (hI:fd.scope.names.lookup (PySem.Str.ofString "int")=some .globalImplicit) (hng:X.mg (PySem.Str.ofString "int")=none)
    (hbase:∀b o,X.B.get? b=some o→s.heap.get? b=some o) (hroom:A.depth < recursionLimit) (hl:b.toList.length≤7)
    (k:∀t' s',(∀b o,s.heap.get? b=some o→s'.heap.get? b=some o)→s'.os=s.os→s'.gens=s.gens→K (.ok (.ret (.int (leB b.toList) t'))) s'):
    codeAny (model X.prog X.w) A (.call (.ref fa) ⟨[.bytes b t],[]⟩) K s:=by
  refine code_fn ok hnc hbase hroom rfl fun h₁ hns hk₁=>?_
  have hdata:fd.scope.names.lookup (PySem.Str.ofString "data")=some .local:=by
    rcases ok.kinds _ (.head _) with e | e
    · exact e
    · exact absurd rfl (hnc _ (mem_of_lookup e))
  have hgl:=ok.gl
  have hbl:=ok.bl
  have hfn:=ok.fn
  generalize hE:callEnv fd s.heap.objs.size fa=env
  have hkind:env.scope.kind=.function:=by rw [←hE];exact hfn
  have kData:env.kindOf (PySem.Str.ofString "data")=some .local:=by rw [←hE];exact hdata
  have kInt:env.kindOf (PySem.Str.ofString "int")=some .globalImplicit:=by rw [←hE];exact hI
  have hL:env.locals=s.heap.objs.size:=by rw [←hE];rfl
  have hg':env.globals=mainGlobals:=by rw [←hE];exact hgl
  have hb':env.builtins=builtinsNs:=by rw [←hE];exact hbl
  refine wpAny_execs_cons (wpAny_Return_some ?_)
  rw [arm_eval_Call,show attributeBase (.Name "int" Z.p1) "from_bytes" env (eval (.Name "int" Z.p1) env)=eval (.Name "int" Z.p1) env from rfl]
  have kB:∀b o,X.B.get? b=some o→h₁.get? b=some o:=fun b o e=>hk₁ _ _ (hbase _ _ e)
  refine wpAny_bind (Calls.Name_function_global hkind kInt (Calls.loadGlobal_builtin (mg:=X.mg) (mb:=X.mb) (by rw [hg'];exact X.g.keeps kB) hng (by rw [hb'];exact X.b.keeps kB) ((X.bb _ (by decide+kernel)).trans boot_int) ?_) (by decide+kernel))
  refine wpAny_bind (wpAny_standAt ?_)
  have hpos:methodCallPos true (.Name "int" Z.p1) env Z.p2 Z.p8=pure Z.p8:=by unfold methodCallPos;simp [hline]
  unfold methodCall
  rw [show methodCallForm _ _ _=true from by rfl]
  refine wpAny_bind (wpAny_holding (KFB.getm (K:=[]) (h₀:=s.heap) (news:=[]) ⟨hns,hk₁,Nat.le_refl _⟩ News.nil (fun a o e=>by cases e) int_from fun x h2 F2 N2 _=>?_))
  refine wpAny_bind (wpAny_of_eq hpos ?_)
  have hx2:KFB.StandsAt x h2:=KFB.at_of N2 (.head _)
  refine callWith_fieldsK rfl (by rfl) ?_
  show wpAny _ _ (evalArgs _ true [(false,eval (.Name "data" Z.p3) env)] _) _ _ _
  refine evalArgs_kw (by rfl) (Calls.spliced_cons (wpAny_Name (wpAny_loadName_local hkind kData (by rw [hL];exact F2.ns) (v:=.bytes b t) (by rfl) (Calls.spliced_nil ?_)) (by decide+kernel)))
  show wpAny _ _ (evalAll [(do let v ←eval (.Constant (.str "little") 0 Z.p4) env;standAt Z.p8;pure v),(do let v ←eval (.Constant (.bool true) 0 Z.p6) env;standAt Z.p8;pure v)]) _ _ _
  refine wpAny_evalAll_cons (wpAny_bind (Calls.Constant_str (wpAny_bind (wpAny_standAt (wpAny_pure ?_)))))
  refine wpAny_evalAll_cons (wpAny_bind (wpAny_pure (wpAny_bind (wpAny_standAt (wpAny_pure (wpAny_evalAll_nil ?_))))))
  refine ⟨hx2,call_signed hx2 hl ?_⟩
  exact k _ _ F2.keep rfl rfl
end Mine
end
section
open PySem PySem.W PyProof.Rows PySem.Builtin PySem.Builtin.ObjectAttr
set_option tactic.hygienic false
namespace Mine
variable {X:Cx}
set_option genInjectivity false in
set_option genSizeOf false in
structure Ps12 where
  (p1 p2 p3 p4 p5 p6 p7 p8 p9 p10 p11 p12:Pos)
noncomputable abbrev uintBody (Z:Ps12) (rest:List Stmt):List Stmt:=
  .Assign [.Name "data" Z.p1] (.Call (.Attribute (.Name "f" Z.p2) "read" Z.p3) [.Constant (.int 1) 0 Z.p4] [] Z.p5) Z.p6::
  .If (.Name "data" Z.p7) [.Return (some (.Subscript (.Name "data" Z.p8) (.Constant (.int 0) 0 Z.p9) Z.p10)) Z.p11] [] Z.p12::rest
theorem noAt {aAt:Addr} {s:Shared} (hA0:∀o,X.B.get? aAt≠some o) {s':Shared} (g:Go aAt s s') (hbase:∀b o,X.B.get? b=some o→s.heap.get? b=some o):∀b o,X.B.get? b=some o→s'.heap.get? b=some o:=
  fun b o e=>g.keep b o (fun z=>hA0 o (z ▸ e)) (hbase b o e)
theorem byte_toInt {z:Int} (h:0≤z∧z < 256):((z.toNat.toUInt8.toNat:Nat):Int)=z:=by
  have:z.toNat.toUInt8.toNat=z.toNat:=by
    rw [Nat.toUInt8,UInt8.toNat_ofNat']
    lia
  rw [this]
  lia
set_option maxHeartbeats 400000 in
theorem uint_w {fa:Addr} {fd:FuncData} {Z:Ps12} {rest:List Stmt} {A:Around} {s:Shared} {K:Result→Shared→Prop} {f2 f1 cA cO aAt aOc:Addr} {oc:Str} {o0:Int} {os:List Int}
    (ok:FnOK X fa fd (uintBody Z rest) [PySem.Str.ofString "f"] [PySem.Str.ofString "f",PySem.Str.ofString "data"]) (hnc:∀x∈fd.scope.names,x.2≠.cell) (hline:(Z.p3.endLine==Z.p5.line)=true)
    (hnb:X.mg "bytes"=none) (hbase:∀b o,X.B.get? b=some o→s.heap.get? b=some o) (hA0:∀o,X.B.get? aAt≠some o) (hroom:A.depth+5 < recursionLimit) (hh:A.handled=none)
    (x:ReadAt s.heap f1 cA cO aAt aOc oc (o0::os)) (hs:StreamAt s.heap f2 f1) (hat:AtIs s.heap aAt 0) (hr:∀z∈o0::os,0≤z∧z < 256) (hlen:(o0::os).length≤1000) (hoc:(oc==("__classdict__":Str))=false) (hoc2:(oc==("__debug__":Str))=false) (hoc3:oc≠sAt∧oc≠sSize∧oc≠"bytes")
    (k:∀t' s',Go aAt s s'→AtIs s'.heap aAt 1→s'.heap.NoLimit→K (.ok (.ret (.int o0 t'))) s'):
    codeAny (model X.prog X.w) A (.call (.ref fa) ⟨[.ref f2],[]⟩) K s:=by
  refine code_fn ok hnc hbase (by lia) rfl fun h₁ hns hk₁=>?_
  have hloc:∀y∈[PySem.Str.ofString "f",PySem.Str.ofString "data"],fd.scope.names.lookup y=some .local:=fun y hy=>by
    rcases ok.kinds y hy with e | e
    · exact e
    · exact absurd rfl (hnc _ (mem_of_lookup e))
  have hfn:=ok.fn
  generalize hE:callEnv fd s.heap.objs.size fa=env
  have hkind:env.scope.kind=.function:=by rw [←hE];exact hfn
  have kF:env.kindOf (PySem.Str.ofString "f")=some .local:=by rw [←hE];exact hloc _ (.head _)
  have kData:env.kindOf (PySem.Str.ofString "data")=some .local:=by rw [←hE];exact hloc _ (.tail _ (.head _))
  have hL:env.locals=s.heap.objs.size:=by rw [←hE];rfl
  have G1:∀{tk},Go aAt s { s with heap:=h₁,toks:=tk }:=⟨fun b o _ e=>hk₁ b o e,rfl,rfl⟩
  have x1:ReadAt h₁ f1 cA cO aAt aOc oc (o0::os):=x.go (s':={ s with heap:=h₁ }) hat (x.nl.keeps hk₁) (G1 (tk:=s.toks))
  have s1:StreamAt h₁ f2 f1:=hs.go (s':={ s with heap:=h₁ }) hat (G1 (tk:=s.toks))
  have at1:AtIs h₁ aAt 0:=by obtain ⟨n,t,e⟩:=hat;exact ⟨n,t,hk₁ _ _ e⟩
  have hLA:s.heap.objs.size≠aAt:=fun z=>by
    obtain ⟨n,t,e⟩:=hat
    exact absurd (Heap.lt_size e) (z ▸ Nat.lt_irrefl _)
  have kB:∀b o,X.B.get? b=some o→h₁.get? b=some o:=fun b o e=>hk₁ _ _ (hbase _ _ e)
  obtain ⟨fdr,er⟩:∃fd,h₁.get? f1=some (fnO fd none):=by
    obtain ⟨qual,Z,clos,doc,pm,cdv,ctv,e,_⟩:=x1.fn
    exact ⟨_,e⟩
  refine wpAny_execs_cons (wpAny_Assign_Name ?_ (by rfl))
  refine call_read (n:=1) s1 ⟨_,er⟩ hline (fun {Q'} q=>?_) (fun {Q' tk} q=>?_) (by rfl) fun t2 tk2=>?_
  · exact wpAny_Name (wpAny_loadName_local hkind kF (by rw [hL];exact hns) (v:=.ref f2) (by rfl) q) (by decide+kernel)
  · exact wpAny_Constant_int (q _ _)
  refine wpAny_call ?_
  refine read_w (X:=X) (p:=0) (n:=1) (s:={ heap:=h₁,gens:=s.gens,drawn:=s.drawn,toks:=tk2,os:=s.os }) (by show A.depth+1 < recursionLimit;lia) hh (X.g.keeps kB) (X.b.keeps kB) hnb x1 at1 (by lia) (by lia) hr hlen hoc hoc2 hoc3 fun t3 s3 G3 at3 nl3=>?_
  have ns3:s3.heap.Ns s.heap.objs.size (fun y=>([PySem.Str.ofString "f"].zip [Value.ref f2]).reverse.lookup y):=by
    obtain ⟨o,es,ep,e,r⟩:=hns
    exact ⟨o,es,ep,G3.keep _ _ hLA e,r⟩
  refine wpAny_storeName_local kData (by rw [hL];exact ns3) (fun h4 hn4 hs4=>?_) (by rw [hkind];rfl)
  have hb3:byteArr (listSl (o0::os) (some 0) (some (0+1)) none)=[o0.toNat.toUInt8].toArray:=by
    rw [show (some (0:Int))=some ((0:Nat):Int) from rfl,show (some (0+1:Int))=some ((1:Nat):Int) from rfl,listSl_eq,clipN_nat,clipN_nat]
    rfl
  rw [hb3] at hn4
  rw [hL] at hs4
  rw [hL] at hn4
  have G4:∀{tk},Go aAt s { s3 with heap:=h4,toks:=tk }:=fun {tk}=>⟨fun b o n e=>(hs4.2 b (Nat.ne_of_lt (Heap.lt_size e))).trans (G3.keep b o n (hk₁ b o e)),G3.os,G3.gens⟩
  have at4:AtIs h4 aAt 1:=by
    obtain ⟨n,t,e⟩:=at3
    exact ⟨n,t,(hs4.2 aAt (Ne.symm hLA)).trans e⟩
  refine wpAny_execs_cons (wpAny_If (isTrue_plain (wpAny_Name (wpAny_loadName_local hkind kData (by rw [hL];exact hn4) (v:=.bytes [o0.toNat.toUInt8].toArray t3) (by rfl) ?_) (by decide+kernel))))
  refine truthy_bytes (by simp) ?_
  show wpAny _ _ (execs [_] env) _ _ _
  refine wpAny_execs_cons (wpAny_Return_some (Subscript_ (wpAny_Name (wpAny_loadName_local hkind kData (by rw [hL];exact hn4) (v:=.bytes [o0.toNat.toUInt8].toArray t3) (by rfl) ?_) (by decide+kernel))))
  refine wpAny_Constant_int ?_
  refine tail_any (T:="bytes") (typeIs_bytes _ _ _) FB.slot_bytes_getitem.lookup (getItem_bytes (by simp) (by lia) (by simp) ?_) (by rfl)
  have hv:(([o0.toNat.toUInt8].getD (0:Int).toNat 0).toNat:Int)=o0:=byte_toInt (hr o0 (.head _))
  rw [hv]
  refine k _ _ G4 at4 ?_
  refine x.nl.at fun o e=>(G4 (tk:=0)).keep _ _ (fun z=>?_) e
  obtain ⟨n,t,eA⟩:=hat
  obtain ⟨mc,⟨o',es,ep,e',hd',_⟩,_⟩:=x.nl
  rw [z,eA] at e'
  cases e'
  cases hd'
end Mine
end
section
open PySem PySem.W PyProof.Rows PySem.Builtin PySem.Builtin.ObjectAttr
set_option tactic.hygienic false
namespace Mine
variable {X:Cx}
set_option genInjectivity false in
set_option genSizeOf false in
structure Ps21 where
  (q1 q2 q3 q4 q5 q6 q7 q8 q9 q10 q11 q12 q13 q14 q15 q16 q17 q18 q19 q20 q21:Pos)
noncomputable abbrev longBody (Q:Ps21) (rs:List Stmt):List Stmt:=
 [.Assign [.Name "n" Q.q1] (.Call (.Name "read_uint1" Q.q2) [.Name "f" Q.q3] [] Q.q4) Q.q5,
  .Assign [.Name "data" Q.q6] (.Call (.Attribute (.Name "f" Q.q7) "read" Q.q8) [.Name "n" Q.q9] [] Q.q10) Q.q11,
  .If (.Compare (.Call (.Name "len" Q.q12) [.Name "data" Q.q13] [] Q.q14) [.NotEq] [.Name "n" Q.q15] Q.q16) rs [] Q.q17,
  .Return (some (.Call (.Name "decode_long" Q.q18) [.Name "data" Q.q19] [] Q.q20)) Q.q21]
structure LongOK (X:Cx) (fL fU fD:Addr):Prop where
  long:∃fd Q rs,FnOK X fL fd (longBody Q rs) [PySem.Str.ofString "f"] [PySem.Str.ofString "f",PySem.Str.ofString "n",PySem.Str.ofString "data"]∧
    (∀x∈fd.scope.names,x.2≠.cell)∧(Q.q8.endLine==Q.q10.line)=true∧fd.scope.names.lookup (PySem.Str.ofString "read_uint1")=some .globalImplicit∧fd.scope.names.lookup (PySem.Str.ofString "len")=some .globalImplicit∧fd.scope.names.lookup (PySem.Str.ofString "decode_long")=some .globalImplicit
  uint:∃fd Z rest,FnOK X fU fd (uintBody Z rest) [PySem.Str.ofString "f"] [PySem.Str.ofString "f",PySem.Str.ofString "data"]∧(∀x∈fd.scope.names,x.2≠.cell)∧(Z.p3.endLine==Z.p5.line)=true
  dec:∃fd Z,FnOK X fD fd (decodeBody Z) [PySem.Str.ofString "data"] [PySem.Str.ofString "data"]∧(∀x∈fd.scope.names,x.2≠.cell)∧(Z.p2.endLine==Z.p8.line)=true∧fd.scope.names.lookup (PySem.Str.ofString "int")=some .globalImplicit
  gU:X.mg (PySem.Str.ofString "read_uint1")=some (.ref fU)
  gD:X.mg (PySem.Str.ofString "decode_long")=some (.ref fD)
  nLen:X.mg (PySem.Str.ofString "len")=none
  nBy:X.mg (PySem.Str.ofString "bytes")=none
  nInt:X.mg (PySem.Str.ofString "int")=none
theorem boot_len:bootBuiltins (PySem.Str.ofString "len")=some (.builtin "len"):=by kernel_rfl
set_option maxHeartbeats 800000 in
theorem long_w {fL fU fD:Addr} {A:Around} {s:Shared} {K:Result→Shared→Prop} {f2 f1 cA cO aAt aOc:Addr} {oc:Str} {o0:Int} {os:List Int}
    (ok:LongOK X fL fU fD)
    (hbase:∀b o,X.B.get? b=some o→s.heap.get? b=some o) (hA0:∀o,X.B.get? aAt≠some o) (hroom:A.depth+10 < recursionLimit) (hh:A.handled=none)
    (x:ReadAt s.heap f1 cA cO aAt aOc oc (o0::os)) (hs:StreamAt s.heap f2 f1) (hat:AtIs s.heap aAt 0) (hr:∀z∈o0::os,0≤z∧z < 256) (hlen:os.length≤7) (ho0:o0=os.length) (hoc:(oc==("__classdict__":Str))=false) (hoc2:(oc==("__debug__":Str))=false) (hoc3:oc≠sAt∧oc≠sSize∧oc≠"bytes")
    (k:∀t' s',Go aAt s s'→K (.ok (.ret (.int (leB (byteArr os).toList) t'))) s'):
    codeAny (model X.prog X.w) A (.call (.ref fL) ⟨[.ref f2],[]⟩) K s:=by
  obtain ⟨fd,Q,rs,okL,hnc,hline,lU,lLen,lD⟩:=ok.long
  obtain ⟨fdU,Z,rest,okU,hncU,hlineU⟩:=ok.uint
  obtain ⟨fdD,P9,okD,hncD,hlineD,lInt⟩:=ok.dec
  refine code_fn okL hnc hbase (by lia) rfl fun h₁ hns hk₁=>?_
  have hloc:∀y∈[PySem.Str.ofString "f",PySem.Str.ofString "n",PySem.Str.ofString "data"],fd.scope.names.lookup y=some .local:=fun y hy=>by
    rcases okL.kinds y hy with e | e
    · exact e
    · exact absurd rfl (hnc _ (mem_of_lookup e))
  have hfn:=okL.fn
  have hgl:=okL.gl
  have hbl:=okL.bl
  generalize hE:callEnv fd s.heap.objs.size fL=env
  have hkind:env.scope.kind=.function:=by rw [←hE];exact hfn
  have kF:env.kindOf (PySem.Str.ofString "f")=some .local:=by rw [←hE];exact hloc _ (.head _)
  have kN:env.kindOf (PySem.Str.ofString "n")=some .local:=by rw [←hE];exact hloc _ (.tail _ (.head _))
  have kData:env.kindOf (PySem.Str.ofString "data")=some .local:=by rw [←hE];exact hloc _ (.tail _ (.tail _ (.head _)))
  have kU:env.kindOf (PySem.Str.ofString "read_uint1")=some .globalImplicit:=by rw [←hE];exact lU
  have kLen:env.kindOf (PySem.Str.ofString "len")=some .globalImplicit:=by rw [←hE];exact lLen
  have kD:env.kindOf (PySem.Str.ofString "decode_long")=some .globalImplicit:=by rw [←hE];exact lD
  have hL:env.locals=s.heap.objs.size:=by rw [←hE];rfl
  have hg':env.globals=mainGlobals:=by rw [←hE];exact hgl
  have hb':env.builtins=builtinsNs:=by rw [←hE];exact hbl
  have G1:∀{tk},Go aAt s { s with heap:=h₁,toks:=tk }:=⟨fun b o _ e=>hk₁ b o e,rfl,rfl⟩
  have x1:ReadAt h₁ f1 cA cO aAt aOc oc (o0::os):=x.go (s':={ s with heap:=h₁ }) hat (x.nl.keeps hk₁) (G1 (tk:=s.toks))
  have s1:StreamAt h₁ f2 f1:=hs.go (s':={ s with heap:=h₁ }) hat (G1 (tk:=s.toks))
  have at1:AtIs h₁ aAt 0:=by obtain ⟨n,t,e⟩:=hat;exact ⟨n,t,hk₁ _ _ e⟩
  have hLA:s.heap.objs.size≠aAt:=fun z=>by
    obtain ⟨n,t,e⟩:=hat
    exact absurd (Heap.lt_size e) (z ▸ Nat.lt_irrefl _)
  have kB:∀b o,X.B.get? b=some o→h₁.get? b=some o:=fun b o e=>hk₁ _ _ (hbase _ _ e)
  obtain ⟨oU,eU,dU⟩:=okU.obj
  obtain ⟨oD,eD,dD⟩:=okD.obj
  refine wpAny_execs_cons (wpAny_Assign_Name ?_ (by rfl))
  show wpAny _ _ (do callWith Q.q4 (←eval (.Name "read_uint1" Q.q2) env) [] (backTo Q.q4 (starEach [_] env)) (backToKw Q.q4 (keywordEach [] env))) _ _ _
  refine wpAny_bind (Calls.Name_function_global hkind kU (Calls.loadGlobal_global (mg:=X.mg) (by rw [hg'];exact X.g.keeps kB) ok.gU (callArgsF (o:=oU) (fd:=fdU) rfl (by intro q;cases q) ?_)) (by decide+kernel))
  refine Calls.spliced_cons (wpAny_Name (wpAny_loadName_local hkind kF (by rw [hL];exact hns) (v:=.ref f2) (by rfl) (Calls.spliced_nil ?_)) (by decide+kernel))
  refine ⟨⟨kB _ _ eU,dU⟩,wpAny_call ?_⟩
  refine uint_w okU hncU hlineU ok.nBy kB hA0 (by show A.depth+1+5 < recursionLimit;lia) hh x1 s1 at1 hr (by simp only [List.length_cons];lia) hoc hoc2 hoc3 fun t2 s2 G2 at2 nl2=>?_
  have ns2:s2.heap.Ns s.heap.objs.size (fun y=>([PySem.Str.ofString "f"].zip [Value.ref f2]).reverse.lookup y):=by
    obtain ⟨o,es,ep,e,r⟩:=hns
    exact ⟨o,es,ep,G2.keep _ _ hLA e,r⟩
  refine wpAny_storeName_local kN (by rw [hL];exact ns2) (fun h3 hn3 hs3=>?_) (by rw [hkind];rfl)
  rw [hL] at hs3 hn3
  have G3:∀{tk},Go aAt s { s2 with heap:=h3,toks:=tk }:=fun {tk}=>⟨fun b o n e=>(hs3.2 b (Nat.ne_of_lt (Heap.lt_size e))).trans (G2.keep b o n (hk₁ b o e)),G2.os,G2.gens⟩
  have at3:AtIs h3 aAt 1:=by
    obtain ⟨n,t,e⟩:=at2
    exact ⟨n,t,(hs3.2 aAt (Ne.symm hLA)).trans e⟩
  have nlg:∀{s':Shared},Go aAt s s'→s'.heap.NoLimit:=fun {s'} g=>by
    refine x.nl.at fun o e=>g.keep _ _ (fun z=>?_) e
    obtain ⟨n,t,eA⟩:=hat
    obtain ⟨mc,⟨o',es,ep,e',hd',_⟩,_⟩:=x.nl
    rw [z,eA] at e'
    cases e'
    cases hd'
  have kB3:∀b o,X.B.get? b=some o→h3.get? b=some o:=noAt hA0 (G3 (tk:=0)) hbase
  have x3:ReadAt h3 f1 cA cO aAt aOc oc (o0::os):=x.go (s':={ s2 with heap:=h3,toks:=0 }) hat (nlg G3) G3
  have s3:StreamAt h3 f2 f1:=hs.go (s':={ s2 with heap:=h3,toks:=0 }) hat G3
  obtain ⟨fdr,er⟩:∃fd,h3.get? f1=some (fnO fd none):=by
    obtain ⟨qual,Z,clos,doc,pm,cdv,ctv,e,_⟩:=x3.fn
    exact ⟨_,e⟩
  refine wpAny_execs_cons (wpAny_Assign_Name ?_ (by rfl))
  refine call_read (n:=o0) s3 ⟨_,er⟩ hline (fun {Q'} q=>?_) (fun {Q' tk} q=>?_) (by rfl) fun t4 tk4=>?_
  · exact wpAny_Name (wpAny_loadName_local hkind kF (by rw [hL];exact hn3) (v:=.ref f2) (by rfl) q) (by decide+kernel)
  · exact wpAny_Name (wpAny_loadName_local hkind kN (by rw [hL];exact hn3) (v:=.int o0 t2) (by rfl) (q _ _)) (by decide+kernel)
  refine wpAny_call ?_
  refine read_w (X:=X) (p:=1) (n:=o0) (s:={ heap:=h3,gens:=s2.gens,drawn:=s2.drawn,toks:=tk4,os:=s2.os }) (by show A.depth+1 < recursionLimit;lia) hh (X.g.keeps kB3) (X.b.keeps kB3) ok.nBy x3 at3 (by lia) (by lia) hr (by simp only [List.length_cons];lia) hoc hoc2 hoc3 fun t5 s5 G5 at5 nl5=>?_
  have ns5:s5.heap.Ns s.heap.objs.size (fun x=>if x=PySem.Str.ofString "n" then some (Value.int o0 t2) else List.lookup x ([PySem.Str.ofString "f"].zip [Value.ref f2]).reverse):=by
    obtain ⟨o,es,ep,e,r⟩:=hn3
    exact ⟨o,es,ep,G5.keep _ _ hLA e,r⟩
  have hb5:byteArr (listSl (o0::os) (some 1) (some (1+o0)) none)=byteArr os:=by
    subst ho0
    rw [show (some (1:Int))=some ((1:Nat):Int) from rfl,show (some (1+(os.length:Int)))=some ((1+os.length:Nat):Int) from by rw [Int.natCast_add];rfl,listSl_eq,clipN_nat,clipN_nat]
    refine congrArg byteArr ?_
    rw [List.length_cons,Nat.add_comm 1,Nat.min_self]
    exact List.take_length
  rw [hb5]
  have hbl5:(byteArr os).size=os.length:=byteArr_size os
  generalize byteArr os=bs at hbl5 k ⊢
  refine wpAny_storeName_local kData (by rw [hL];exact ns5) (fun h6 hn6 hs6=>?_) (by rw [hkind];rfl)
  rw [hL] at hs6 hn6
  have G6:∀{tk},Go aAt s { s5 with heap:=h6,toks:=tk }:=fun {tk}=>⟨fun b o n e=>(hs6.2 b (Nat.ne_of_lt (Heap.lt_size e))).trans (G5.keep b o n ((G3 (tk:=0)).keep b o n e)),G5.os.trans G2.os,G5.gens.trans G2.gens⟩
  have kB6:∀b o,X.B.get? b=some o→h6.get? b=some o:=noAt hA0 (G6 (tk:=0)) hbase
  have eN:∀{M:Model} {A':Around} {E:Value→Shared→Prop} {Q:Value→Shared→Prop} {g:Array GenState} {dr:Drawn} {tk:Nat} {os':OsState} {pos:Pos},Q (.int o0 t2) ⟨h6,g,dr,tk,os'⟩→wpAny M A' (eval (.Name "n" pos) env) Q E ⟨h6,g,dr,tk,os'⟩:=fun {M A' E Q g dr tk os' pos} q=>
    wpAny_Name (wpAny_loadName_local hkind kN (by rw [hL];exact hn6) (v:=.int o0 t2) (by rfl) q) (by decide+kernel)
  have eData:∀{M:Model} {A':Around} {E:Value→Shared→Prop} {Q:Value→Shared→Prop} {g:Array GenState} {dr:Drawn} {tk:Nat} {os':OsState} {pos:Pos},Q (.bytes bs t5) ⟨h6,g,dr,tk,os'⟩→wpAny M A' (eval (.Name "data" pos) env) Q E ⟨h6,g,dr,tk,os'⟩:=fun {M A' E Q g dr tk os' pos} q=>
    wpAny_Name (wpAny_loadName_local hkind kData (by rw [hL];exact hn6) (v:=.bytes bs t5) (by rfl) q) (by decide+kernel)
  refine wpAny_execs_cons (wpAny_If (wpAny_isTrue_Compare1 ?_ (by with_unfolding_all rfl)))
  show wpAny _ _ (do callWith Q.q14 (←eval (.Name "len" Q.q12) env) [] (backTo Q.q14 (starEach [_] env)) (backToKw Q.q14 (keywordEach [] env))) _ _ _
  refine wpAny_bind (Calls.Name_function_global hkind kLen (Calls.loadGlobal_builtin (mg:=X.mg) (mb:=X.mb) (by rw [hg'];exact X.g.keeps kB6) ok.nLen (by rw [hb'];exact X.b.keeps kB6) ((X.bb _ (by decide+kernel)).trans boot_len) (callArgs rfl ?_)) (by decide+kernel))
  refine Calls.spliced_cons (eData (Calls.spliced_nil ?_))
  refine len_bytes (by lia) ?_
  refine eN (_root_.PySem.P.ne_int ?_)
  rw [show ((bs.size:Int) != o0)=false by rw [hbl5,ho0];simp]
  refine wpAny_truthy_bool ?_
  show wpAny _ _ (execs [] env) _ _ _
  refine wpAny_execs_nil ?_
  refine wpAny_execs_cons (wpAny_Return_some ?_)
  show wpAny _ _ (do callWith Q.q20 (←eval (.Name "decode_long" Q.q18) env) [] (backTo Q.q20 (starEach [_] env)) (backToKw Q.q20 (keywordEach [] env))) _ _ _
  refine wpAny_bind (Calls.Name_function_global hkind kD (Calls.loadGlobal_global (mg:=X.mg) (by rw [hg'];exact X.g.keeps kB6) ok.gD (callArgsF (o:=oD) (fd:=fdD) rfl (by intro q;cases q) ?_)) (by decide+kernel))
  refine Calls.spliced_cons (eData (Calls.spliced_nil ?_))
  refine ⟨⟨kB6 _ _ eD,dD⟩,wpAny_call ?_⟩
  refine decode_w okD hncD hlineD lInt ok.nInt kB6 (by show A.depth+1 < recursionLimit;lia) (by rw [Array.length_toList,hbl5];exact hlen) fun t7 s7 k7 o7 g7=>?_
  exact k _ _ ⟨fun b o n e=>k7 b o ((G6 (tk:=0)).keep b o n e),o7.trans (G6 (tk:=0)).os,g7.trans (G6 (tk:=0)).gens⟩
end Mine
end
section
open PySem PySem.W PyProof.Rows PySem.Builtin
set_option tactic.hygienic false
namespace Mine
variable {X:Cx} {F:FI} {d:Nat}
theorem R.none {Av Mu:Addr→Prop} {env:Env} {st:St} {s:Shared} (r:R X F Av Mu env st s) (i:Nat):R X F Av Mu env (st.set i .none) s:=by
  refine ⟨r.sc,r.fn,r.gl,r.bl,r.cd,r.ql,r.base,r.tabs,r.ma,r.lt,r.ns,r.nsMu,r.nd,by rw [List.length_set];exact r.len,r.cinj,r.slots,fun j y b hj hb=>?_,fun j k y w ys ws b hj hk hy hw=>?_⟩
  · rcases get_set hb with ⟨e1,e2⟩ | ⟨e1,e2⟩
    · subst e2;trivial
    · have q:=r.vars j y b hj e2
      cases b with
      | meth k=>
        obtain ⟨m',a',p1,p2,p3,p4⟩:=q
        refine ⟨m',a',p1,p2,p3,fun y' ws hy' hs'=>?_⟩
        rcases get_set hs' with ⟨_,f2⟩ | ⟨_,f2⟩
        · cases f2
        · exact p4 y' ws hy' f2
      | _=>exact q
  · rcases get_set hy with ⟨_,e2⟩ | ⟨_,e2⟩
    · cases e2
    rcases get_set hw with ⟨_,f2⟩ | ⟨_,f2⟩
    · cases f2
    exact r.inj j k y w ys ws b hj hk e2 f2
theorem R.forget {Av Mu:Addr→Prop} {env:Env} {st:St} {s:Shared} (r:R X F Av Mu env st s) {i:Nat} {x:Str} (hi:F.names[i]? =some x) {xs:List PV} (hs:st[i]? =some (.own xs)) {a:Addr} (p:ValAt s.heap env x (.ref a)):
    R X F Av (fun b=>Mu b∧b≠a) env (st.set i .none) s:=by
  obtain ⟨a',vs,n,p',e,m,z⟩:=r.vars i x _ hi hs
  cases p.unique p'
  have nt:¬ X.Tb a:=fun t=>by
    obtain ⟨ps,q,_⟩:=(r.tabs a t).2
    rw [e] at q;cases q
  have r1:=r.none i
  refine ⟨r.sc,r.fn,r.gl,r.bl,r.cd,r.ql,r.base,fun b t=>⟨⟨(r.tabs b t).1,fun q=>nt (q ▸ t)⟩,(r.tabs b t).2⟩,fun b q=>r.ma b q.1,r.lt,r.ns,⟨r.nsMu,fun q=>?_⟩,r.nd,
      r1.len,r.cinj,fun y hy hro=>?_,fun j y b hj hb=>?_,r1.inj⟩
  · obtain ⟨m',o,es,ep,ho,hd,_⟩:=r.ns
    rw [q,e] at ho;cases ho;cases hd
  · have q:=r.slots y hy hro
    unfold SlotOK at q ⊢
    split at q
    · trivial
    · obtain ⟨c,u,hc,hq,hm⟩:=q
      refine ⟨c,u,hc,hq,hm,fun q'=>?_⟩
      obtain ⟨o,ho,hd⟩:=hq
      rw [q',e] at ho;cases ho;cases hd
    · trivial
    · exact q.elim
  · have q:=r1.vars j y b hj hb
    cases b with
    | own ys=>
      obtain ⟨b,us,n',p1,p2,p3,p4⟩:=q
      refine ⟨b,us,n',p1,p2,⟨p3,fun q=>?_⟩,p4⟩
      subst q
      rcases get_set hb with ⟨_,e2⟩ | ⟨e1,e2⟩
      · cases e2
      · exact e1 (r.inj j i y x ys xs b hj hi e2 hs p1 p)
    | _=>exact q
theorem VRs_int_av {h:Heap} {Av Av':Addr→Prop}:∀{vs:List Value} {octs:List Int},VRs h Av vs (octs.map .int)→VRs h Av' vs (octs.map .int)
  | [],[],_=>by show VRs h Av' [] [];unfold VRs;trivial
  | _::_,[],x=>by rw [List.map_nil] at x;unfold VRs at x;exact x.elim
  | [],_::_,x=>by rw [List.map_cons] at x;unfold VRs at x;exact x.elim
  | v::vs,i::r,x=>by
    rw [List.map_cons] at x ⊢
    unfold VRs at x ⊢
    refine ⟨?_,VRs_int_av x.2⟩
    have:=x.1
    unfold VR at this ⊢
    exact this
noncomputable def listOf:Bind→Option (List PV)
  | .own xs=>some xs
  | .froz (.list xs)=>some xs
  | _=>none
set_option tactic.hygienic true in
theorem allOf_asInt:∀{l:List PV} {is:List Int},allOf asInt l=some is→l=is.map .int
  | [],is,h=>by unfold allOf at h;cases h;rfl
  | p::l,is,h=>by
    unfold allOf at h
    split at h
    · rename_i y ys e1 e2
      cases h
      rw [List.map_cons,allOf_asInt e2]
      cases p<;>cases e1
      rfl
    · cases h
noncomputable def oneO:Bind→Option Int
  | .own [.int i]=>some i
  | _=>none
noncomputable def numTail (iRd iSt iAt iOc:Nat):EvS:=fun st=>(st[iAt]?).bind fun bA=>(oneO bA).bind fun i=>(st[iOc]?).bind fun bO=>(listOf bO).bind fun xs=>(allOf asInt xs).bind fun is=>is.head?.bind fun o0=>
  if i=0∧(∀z∈is,0≤z∧z < 256)∧is.tail.length≤7∧o0=is.tail.length then some (.ret (.int (leB (byteArr is.tail).toList)),((st.set iRd .none).set iSt .none).set iAt .none) else none
theorem oneO_some {b:Bind} {i:Int} (h:oneO b=some i):b=.own [.int i]:=by
  unfold oneO at h
  split at h<;>cases h
  rfl
theorem numTail_elim {iRd iSt iAt iOc:Nat} {st st':St} {v:Fl} {C:Prop} (h:numTail iRd iSt iAt iOc st=some (v,st'))
    (k:∀bO o0 os,st[iAt]? =some (.own [.int 0])→st[iOc]? =some bO→listOf bO=some ((o0::os).map .int)→(∀z∈o0::os,0≤z∧z < 256)→os.length≤7→o0=os.length→v=.ret (.int (leB (byteArr os).toList))→st'=((st.set iRd .none).set iSt .none).set iAt .none→C):C:=by
  obtain ⟨bA,e1,h⟩:=Option.bind_eq_some_iff.mp h
  obtain ⟨i,e2,h⟩:=Option.bind_eq_some_iff.mp h
  obtain ⟨bO,e3,h⟩:=Option.bind_eq_some_iff.mp h
  obtain ⟨xs,e4,h⟩:=Option.bind_eq_some_iff.mp h
  obtain ⟨is,e5,h⟩:=Option.bind_eq_some_iff.mp h
  obtain ⟨o0,e6,h⟩:=Option.bind_eq_some_iff.mp h
  have h2:=when_some h
  clear h
  obtain ⟨⟨h3,hc⟩,h4⟩:=h2
  subst h3
  cases is with
  | nil=>cases e6
  | cons o os=>
    obtain rfl:o=o0:=Option.some.inj e6
    obtain ⟨h5,h6⟩:=Prod.mk.inj h4
    exact k bO o os (oneO_some e2 ▸ e1) e3 (allOf_asInt e5 ▸ e4) hc.1 hc.2.1 hc.2.2 h5.symm h6.symm
noncomputable abbrev lam0:Arguments:={ posonlyargs:=[],args:=[],vararg:=none,kwonlyargs:=[],kw_defaults:=[],kwarg:=none,defaults:=[] }
noncomputable abbrev lam0S:Scope:={ kind:=.function,names:=[],isGenerator:=false,isCoroutine:=false,more:=[] }
set_option genInjectivity false in
set_option genSizeOf false in
structure Ps13 where
  (c1 c2 c3 c4 c5 c6 c7 c8 c9 c10 c11 c12 c13:Pos)
noncomputable abbrev numBody (oc:Str) (Z:PsR) (C:Ps13):List Stmt:=
  [.FunctionDef "_law_read" (readParams Z.pa) (readBody oc Z) [] none [] (readScope oc) none "_law_read" C.c1,
   .Assign [.Name "stream" C.c2] (.Lambda lam0 (.Constant .none 0 C.c3) lam0S C.c4) C.c5,
   .Assign [.Attribute (.Name "stream" C.c6) "read" C.c7] (.Name "_law_read" C.c8) C.c9,
   .Return (some (.Call (.Name "read_long1" C.c10) [.Name "stream" C.c11] [] C.c12)) C.c13]
theorem R.bound {Av Mu:Addr→Prop} {env:Env} {st:St} {s:Shared} (r:R X F Av Mu env st s) {i:Nat} {x:Str} {b:Bind} {xs:List PV} (hi:F.names[i]? =some x) (hs:st[i]? =some b) (hb:listOf b=some xs):
    ∃a vs n,ValAt s.heap env x (.ref a)∧s.heap.get? a=some (listObj vs n)∧VRs s.heap Av vs xs∧((b=.own xs∧Mu a)∨¬ Av a):=by
  have q:=r.vars i x b hi hs
  unfold listOf at hb
  split at hb
  · cases hb
    obtain ⟨a,vs,n,p1,p2,p3,p4⟩:=q
    exact ⟨a,vs,n,p1,p2,p4,.inl ⟨rfl,p3⟩⟩
  · cases hb
    obtain ⟨v,p1,p2⟩:=q
    unfold VR at p2
    obtain ⟨a,vs,n,rfl,e,na,z⟩:=p2
    exact ⟨a,vs,n,p1,e,z,.inr na⟩
  · cases hb
theorem cell_of {h:Heap} {env:Env} {x:Str} {v:Value} (hk:env.kindOf x=some .cell) (p:ValAt h env x v):∃c,env.cells.lookup x=some c∧h.IsCell c (some v):=by
  unfold ValAt at p
  rw [hk] at p
  exact p
end Mine
end
section
open PySem PySem.W PyProof.Rows PySem.Builtin
set_option tactic.hygienic false
namespace Mine
variable {X:Cx} {F:FI} {d:Nat}
set_option tactic.hygienic true in
theorem room10 {A:Around} (hA:Room d A):A.depth+10 < recursionLimit:=by have:=hA.2.1;show A.depth+10 < 1000;lia
set_option maxHeartbeats 1000000 in
theorem num_ret {fL fU fD:Addr} {iSt iAt iOc:Nat} {oc:Str} {p10 p11 p12:Pos} (okN:LongOK X fL fU fD) (hgL:X.mg (PySem.Str.ofString "read_long1")=some (.ref fL)) (hlL:F.scope.names.lookup (PySem.Str.ofString "read_long1")=some .globalImplicit)
    (hSt:F.names[iSt]? =some (PySem.Str.ofString "stream")) (hAt:F.names[iAt]? =some sAt) (hOc:F.names[iOc]? =some oc)
    (kAt:F.scope.names.lookup sAt=some .cell) (kOc:F.scope.names.lookup oc=some .cell) (hne:iAt≠iOc)
    (hoc:(oc==("__classdict__":Str))=false) (hoc2:(oc==("__debug__":Str))=false) (hoc3:oc≠sAt∧oc≠sSize∧oc≠"bytes")
    {A:Around} {Av Mu:Addr→Prop} {env:Env} {st:St} {s:Shared} {Q:Value→Shared→Prop} {E:Value→Shared→Prop} {f1 f2 cA cO:Addr} {bO:Bind} {o0:Int} {os:List Int}
    (hA:Room d A) (R4:R X F Av Mu env st s) (g2:st[iSt]? =some (.ref f2)) (gAt:st[iAt]? =some (.own [.int 0])) (gOc:st[iOc]? =some bO) (eO:listOf bO=some ((o0::os).map .int)) (lcA:env.cells.lookup sAt=some cA) (lcO:env.cells.lookup oc=some cO)
    (fn:∃(qual:Str) (Z:PsR) (clos:List (Str×Addr)) (doc pm cdv ctv:Value),s.heap.get? f1=some (fnO (fnX "_law_read" qual (readParams Z.pa) (readBody oc Z) (readScope oc) clos .none .none doc pm none cdv ctv) none)∧s.heap.CodeRec cdv qual∧clos.lookup sAt=some cA∧clos.lookup oc=some cO)
    (stm:StreamAt s.heap f2 f1) (hr:∀z∈o0::os,0≤z∧z < 256) (hl7:os.length≤7) (ho0:o0=os.length)
    (k:∀aAt t' s5,Mu aAt→Go aAt s s5→s.heap.objs.size≤s5.heap.objs.size→R X F Av (fun b=>Mu b∧b≠aAt) env (st.set iAt .none) s5→Q (.int (leB (byteArr os).toList) t') s5):
    wpAny (model X.prog X.w) A (eval (.Call (.Name "read_long1" p10) [.Name "stream" p11] [] p12) env) Q E s:=by
  have hk:∀y,env.kindOf y=F.scope.names.lookup y:=fun y=>by show env.scope.names.lookup y=_;rw [R4.sc]
  show wpAny _ _ (do callWith p12 (←eval (.Name "read_long1" p10) env) [] (backTo p12 (starEach [_] env)) (backToKw p12 (keywordEach [] env))) _ _ _
  obtain ⟨fdL,Q',rs,okF,_⟩:=id okN.long
  obtain ⟨oL,eL,dL⟩:=okF.obj
  refine wpAny_bind (wp_gname R4 hlL hgL (callArgsF (o:=oL) (fd:=fdL) rfl (by intro q;cases q) ?_) (by decide+kernel))
  refine Calls.spliced_cons (wpAny_Name (wp_load R4 (R4.vars _ _ _ hSt g2) (by decide+kernel) (Calls.spliced_nil ?_)) (by decide+kernel))
  refine ⟨⟨(R4.base _ _ eL).1,dL⟩,?_⟩
  obtain ⟨aAt,vA,nA,vaA,gaA,mA,zA⟩:=R4.vars _ _ _ hAt gAt
  obtain ⟨aOc,vO,nO,vaO,gaO,zO,hO⟩:=R4.bound hOc gOc eO
  obtain ⟨cA',lA',iA⟩:=cell_of (by rw [hk];exact kAt) vaA
  obtain ⟨cO',lO',iO⟩:=cell_of (by rw [hk];exact kOc) vaO
  cases lcA.symm.trans lA'
  cases lcO.symm.trans lO'
  obtain ⟨wA,rfl,qA⟩:=VRs1 zA
  unfold VR at qA
  obtain ⟨tA,rfl⟩:=qA
  have hneA:aOc≠aAt:=fun z=>by
    rcases hO with ⟨rfl,mO⟩ | nO'
    · subst z
      exact hne (R4.inj _ _ _ _ _ _ _ hAt hOc gAt gOc vaA vaO)
    · exact nO' (z ▸ R4.ma _ mA)
  refine wpAny_mono (wpAny_size (wpAny_call (long_w (K:=wants (fun v s'=>∃t',v=.int (leB (byteArr os).toList) t'∧Go aAt s s') E) okN (fun b o e=>(R4.base b o e).1) (fun o e=>(R4.base _ _ e).2 (R4.ma _ mA)) (Nat.lt_of_le_of_lt (Nat.le_refl _) (room10 hA)) hA.1 ⟨fn,iA,iO,⟨vO,nO,gaO,VRs_int_av zO⟩,hneA,X.nolimit.keeps fun b o e=>(R4.base b o e).1⟩ stm ⟨nA,tA,gaA⟩ hr hl7 ho0 hoc hoc2 hoc3 fun t' s' G=>⟨t',rfl,G⟩))) (fun v s5 q=>?_) fun _ _ e=>e
  obtain ⟨⟨t',rfl,G⟩,hz⟩:=q
  exact k aAt t' s5 mA G hz ((R4.forget hAt gAt vaA).keepI (I:=aAt) (R4.ma _ mA) (fun q=>q.2 rfl) (fun o q u z=>by rw [gaA] at q;cases q;cases z) (fun a o na q=>G.keep a o na q) hz)
set_option maxHeartbeats 1000000 in
theorem x_numtail {fL fU fD:Addr} {c T:Addr} {iRd iSt iAt iOc:Nat} {oc:Str} {Z:PsR} {C:Ps13}
    (okN:LongOK X fL fU fD) (okD:MakeOK X F c T C.c1 "_law_read") (okL:MakeOK X F c T C.c4 "<lambda>") (hgL:X.mg (PySem.Str.ofString "read_long1")=some (.ref fL)) (hlL:F.scope.names.lookup (PySem.Str.ofString "read_long1")=some .globalImplicit)
    (hRd:F.names[iRd]? =some (PySem.Str.ofString "_law_read")) (hSt:F.names[iSt]? =some (PySem.Str.ofString "stream")) (hAt:F.names[iAt]? =some sAt) (hOc:F.names[iOc]? =some oc)
    (wRd:F.Wr (PySem.Str.ofString "_law_read")) (wSt:F.Wr (PySem.Str.ofString "stream")) (kRd:F.scope.names.lookup (PySem.Str.ofString "_law_read")≠some .globalExplicit)
    (kAt:F.scope.names.lookup sAt=some .cell) (kOc:F.scope.names.lookup oc=some .cell)
    (hne:iRd≠iSt∧iRd≠iAt∧iRd≠iOc∧iSt≠iAt∧iSt≠iOc∧iAt≠iOc) (hro:sAt ∉ F.ro∧oc ∉ F.ro)
    (hoc:(oc==("__classdict__":Str))=false) (hoc2:(oc==("__debug__":Str))=false) (hoc3:oc≠sAt∧oc≠sSize∧oc≠"bytes"):
    SoundS X F d (numBody oc Z C) (numTail iRd iSt iAt iOc):=by
  refine @SoundU.intro _ _ _ _ _ _ _ _ ?_
  intro A Av Mu env st st' s v Q E hA hf r tk k
  refine numTail_elim hf fun bOc o0 os eAt eOc1 eOc2 hr hl7 ho0 hv hst'=>?_
  subst hv hst'
  have hk:∀y,env.kindOf y=F.scope.names.lookup y:=fun y=>by show env.scope.names.lookup y=_;rw [r.sc]
  have mAt:sAt∈F.names:=List.mem_of_getElem? hAt
  have mOc:oc∈F.names:=List.mem_of_getElem? hOc
  have cellEx:∀y,y∈F.names→y ∉ F.ro→F.scope.names.lookup y=some .cell→∃c,env.cells.lookup y=some c:=fun y hy hro hc=>by
    have q:=r.slots y hy hro
    unfold SlotOK at q
    rw [hk,hc] at q
    obtain ⟨c,_,e,_⟩:=q
    exact ⟨c,e⟩
  obtain ⟨cA,lcA⟩:=cellEx _ mAt hro.1 kAt
  obtain ⟨cO,lcO⟩:=cellEx _ mOc hro.2 kOc
  refine wpAny_execs_cons (wp_def okD rfl rfl (by rfl) (fun n hn=>?_) r hRd wRd kRd fun f1 doc pm cdv ctv s1 R1 S1 e1 n1 hc1 nc1=>?_)
  · simp only [List.mem_cons,List.not_mem_nil,or_false,Prod.mk.injEq] at hn
    rcases hn with ⟨_,h⟩ | ⟨rfl,_⟩ | ⟨rfl,_⟩ | ⟨_,h⟩
    · cases h
    · exact ⟨cA,lcA⟩
    · exact ⟨cO,lcO⟩
    · cases h
  refine wpAny_execs_cons (wpAny_Assign_Name (wp_lambdaF okL rfl (by intro y hy;cases hy) R1 fun f2 fd2 s2 R2 S2 e2 n2 ge2=>?_) (by rfl))
  refine wp_store R2 hSt (b:=.ref f2) rfl wSt fun s3 R3 S3=>?_
  have e2':s3.heap.get? f2=some (fnO fd2 none):=S3.keep _ _ e2 n2
  have f1s:f1 < s1.heap.objs.size:=Heap.lt_size e1
  have e1':s3.heap.get? f1=some (fnO _ none):=S3.keep _ _ (S2.keep _ _ e1 fun q=>n1 (R1.ma _ q)) fun q=>n1 (R1.ma _ q)
  have hc1':s3.heap.CodeRec cdv (F.ql++"_law_read"):=by
    obtain ⟨c',o,vs,t,q1,q2,q3⟩:=hc1
    have n':¬ Mu c':=fun q=>nc1 _ q1 (R1.ma _ q)
    exact ⟨c',o,vs,t,q1,S3.keep _ _ (S2.keep _ _ q2 n') n',q3⟩
  refine wpAny_execs_cons (plainObj_wpAny_Assign_Attribute ?_ (by rfl))
  have g1:((st.set iRd (.ref f1)).set iSt (.ref f2))[iRd]? =some (.ref f1):=by
    have hlt:iRd < st.length:=by
      rw [r.len]
      exact (List.getElem?_eq_some_iff.mp hRd).1
    rw [List.getElem?_set_ne (Ne.symm hne.1),List.getElem?_set_self hlt]
  have g2:((st.set iRd (.ref f1)).set iSt (.ref f2))[iSt]? =some (.ref f2):=by
    have hlt:iSt < st.length:=by
      rw [r.len]
      exact (List.getElem?_eq_some_iff.mp hSt).1
    rw [List.getElem?_set_self (by rw [List.length_set];exact hlt)]
  refine wpAny_Name (wp_load R3 (R3.vars _ _ _ hRd g1) (by decide+kernel) ?_) (by decide+kernel)
  refine wpAny_Name (wp_load R3 (R3.vars _ _ _ hSt g2) (by decide+kernel) ?_) (by decide+kernel)
  obtain ⟨hp3,gs3,dr3,tk3,os3⟩:=s3
  refine setAttr_fn e2' rfl rfl rfl lk_fn_read fun h4 D md tk4 p1 p2 p3 p4 p5 p6=>?_
  have R4:R X F (fun a=>Av a∨a=f2) Mu env ((st.set iRd (.ref f1)).set iSt (.ref f2)) ⟨h4,gs3,dr3,tk4,os3⟩:=
    R3.keepI (I:=f2) (.inr rfl) n2 (fun o q u z=>by rw [e2'] at q;cases q;cases z) (fun a o na q=>p5 a o na q) p6
  have hf2:f1≠f2:=fun q=>by
    have:s1.heap.objs.size≤f2:=ge2
    rw [←q] at this
    exact absurd f1s (Nat.not_lt.mpr this)
  have e1'':h4.get? f1=some (fnO _ none):=p5 _ _ hf2 e1'
  have hc1'':h4.CodeRec cdv (F.ql++"_law_read"):=by
    obtain ⟨c',o,vs,t,q1,q2,q3,q4⟩:=hc1'
    exact ⟨c',o,vs,t,q1,p5 _ _ (fun z=>by subst z;rw [e2'] at q2;cases q2;cases q3) q2,q3,q4⟩
  refine wpAny_execs_cons (wpAny_Return_some ?_)
  have gAt:((st.set iRd (.ref f1)).set iSt (.ref f2))[iAt]? =some (.own [.int 0]):=by
    rw [List.getElem?_set_ne hne.2.2.2.1,List.getElem?_set_ne hne.2.1]
    exact eAt
  have gOc:((st.set iRd (.ref f1)).set iSt (.ref f2))[iOc]? =some bOc:=by
    rw [List.getElem?_set_ne hne.2.2.2.2.1,List.getElem?_set_ne hne.2.2.1]
    exact eOc1
  refine num_ret okN hgL hlL hSt hAt hOc kAt kOc hne.2.2.2.2.2 hoc hoc2 hoc3 hA R4 g2 gAt gOc eOc2 lcA lcO ⟨_,Z,_,doc,pm,cdv,ctv,e1'',hc1'',clOf_lookup lcA _ _ (.inr (.tail _ (.head _))),clOf_lookup lcO _ _ (.inr (.tail _ (.tail _ (.head _))))⟩ ⟨_,D,md,p1,p2,p3⟩ hr hl7 ho0 fun aAt t' s5 mA G hz R6=>?_
  have R7:=(R6.none iRd).none iSt
  have hst:((((st.set iRd (.ref f1)).set iSt (.ref f2)).set iAt .none).set iRd .none).set iSt .none=((st.set iRd Bind.none).set iSt .none).set iAt .none:=by
    rw [List.set_comm _ _ hne.2.1.symm,List.set_comm _ _ hne.1.symm,List.set_set,List.set_comm _ _ hne.2.2.2.1.symm,List.set_set]
  rw [hst] at R7
  have keepAll:∀a o,s.heap.get? a=some o→¬ Mu a→s5.heap.get? a=some o:=fun a o q n=>by
    have q1:=S1.keep a o q n
    have q2:=S2.keep a o q1 n
    have q3:=S3.keep a o q2 n
    have na2:a≠f2:=fun z=>by
      have:=Heap.lt_size q1
      rw [z] at this
      exact absurd this (Nat.not_lt.mpr ge2)
    exact G.keep a o (fun z=>n (z ▸ mA)) (p5 a o na2 q3)
  refine k _ s5 _ _ R7 ⟨keepAll,fun a m=>.inl m.1,fun a m=>m.imp id fun z=>?_,fun a m _=>.inl m,?_,?_,?_⟩ (VR.int' (h:=s5.heap) (Av:=fun a=>Av a∨a=f2) (t:=t'))
  · rw [z]
    exact Nat.le_trans S1.size ge2
  · exact Nat.le_trans S1.size (Nat.le_trans S2.size (Nat.le_trans S3.size (Nat.le_trans p6 hz)))
  · exact G.os.trans (S3.os.trans (S2.os.trans S1.os))
  · intro h
    rw [G.gens]
    exact S3.gens (S2.gens (S1.gens h))
end Mine
end
section
open PySem PySem.W PyProof.Rows PySem.Builtin.Str
set_option tactic.hygienic false
namespace Mine
section
variable {X:Cx} {F:FI} {d:Nat}
noncomputable def packL:Option (List PV×St)→Option PV
  | some (as,_)=>if as.length≤16777216 then some (.list as) else none
  | none=>none
set_option tactic.hygienic true in
theorem x_compG {y:Str} {j:Nat} {py spos:Pos} {target iter elt:Expr} {ifs:List Expr} {gs:List Comprehension} {scope:Scope} {pos:Pos} {own caps:List Str} {is:List Nat} {W:List PV→Heap→(Addr→Prop)→Addr→Addr→Addr→Prop} {src:St→Option (List PV×St)} {cf:List PV→St→Option (List PV×St)} (ok:CompOK F scope own caps) (hidx:is.map (F.names[·]?)=caps.map some)
    (hW:∀xs,SrcW X.prog X.w (W xs))
    (hsrc:∀{A:Around} {env:Env} {xs:List PV} {st1 st2:St} {Av Mu:Addr→Prop} {s:Shared} {Q:Value→Shared→Prop} {E:Value→Shared→Prop},Room d A→src st1=some (xs,st2)→R X F Av Mu env st1 s→1≤s.toks→
      (∀s1 s2 I Av2 Mu2,R X F Av2 Mu2 env st2 s1→StepE env Av Mu s Av2 Mu2 s1→(∀a o,s1.heap.get? a=some o→s2.heap.get? a=some o)→s1.heap.objs.size≤s2.heap.objs.size→s2.os=s1.os→s2.gens=s1.gens→1≤s2.toks→
        W xs s2.heap (fun a=>Av2 a∨s1.heap.objs.size≤a) I s1.heap.objs.size s2.heap.objs.size→Q (.ref I) s2)→wpAny (model X.prog X.w) A (eval iter env) (fun x s₁=>wpAny (model X.prog X.w) A (pyIter x) Q E s₁) E s)
    (hloop:∀{xs:List PV} {st0 st4:St} {as:List PV},cf xs st0=some (as,st4)→as.length≤16777216→LoopW X (innerF F scope own caps) d (.ListComp elt (⟨target,iter,ifs,0⟩::gs) scope pos) (W xs) st0 as st4)
    (hj:F.names[j]? =some y) (hl:F.Wr y) (hsw:∀env:Env,env.scope=F.scope→swapsWith (.ListComp elt (⟨target,iter,ifs,0⟩::gs) scope pos) (some (.Name y py)) spos.line env=pure true)
    (hs:autoParam (∀env x,foldedSetIterable iter env x=pure x) Mine.au1._auto_1):
    SoundX X F d (.Assign [.Name y py] (.ListComp elt (⟨target,iter,ifs,0⟩::gs) scope pos) spos)
      (bindE (capF is) fun ps=>bindE src fun xs=>bindE (liftE (packL (cf xs (List.replicate own.length .none++ps.map .froz)))) fun p=>setV j p):=by
  refine @SoundU.intro _ _ _ _ _ _ _ _ ?_
  intro A Av Mu env st st' s v Q E hA hf' R₀ tk k
  refine bindE_elim hf' fun ps st1 h1 hf1=>?_
  refine bindE_elim hf1 fun xs st2 h2 hf2=>?_
  refine bindE_elim hf2 fun r st3 h3 hf3=>?_
  obtain ⟨h4,e4⟩:=liftE_some h3
  subst e4
  cases hf3
  unfold packL at h4
  split at h4
  case h_2=>cases h4
  rename_i as st4 h5
  split at h4<;>cases h4
  rename_i hal
  rw [exec_Assign_Name_used _ _ _ _ (hsw env R₀.sc)]
  refine wpAny_bind (wpAny_standAt (wpAny_bind ?_))
  show wpAny _ A (do let _ ←comprehension (.ListComp elt (⟨target,iter,ifs,0⟩::gs) scope pos) scope env (firstIterPos (⟨target,iter,ifs,0⟩::gs) pos) (newList []) false (firstIter (⟨target,iter,ifs,0⟩::gs) env) (some (assign (.Name y py) env))) _ _ s
  refine wpAny_bind (wpAny_mono (wp_compG ok hidx (hW xs) hs (use:=some (assign (.Name y py) env)) (Q:=fun _ s'=>Q .next s') hA h1 (fun {Av Mu s Q E} r tk k=>hsrc hA h2 r tk k) (hloop h5 hal) R₀ tk fun s1 s' Av' Mu' D C R1 S1 P hC hN hV=>comp_name hj hl R₀.lt R1 S1 P hC hN hV fun s3 Av3 Mu3 R3 S3=>k _ _ _ _ R3 S3 trivial) (fun _ s' hq=>wpAny_pure (wpAny_pure hq)) fun _ _ e=>e)
end
end Mine
end
section
open PySem PySem.W PyProof.Rows PySem.Builtin.Str
set_option tactic.hygienic false
namespace Mine
section
variable {X:Cx} {F:FI} {d:Nat}
theorem it_two {I O:Addr} {xs xo:List PV} {jo:Nat} (hne:O≠I):ItW X.prog X.w I (fun a=>a=I∨a=O) xs (fun v p h Av=>VR h Av v p) (fun j h Av=>IterAt h Av I xs j∧IterAt h Av O xo jo) (fun h Av=>IterAt h Av O xo jo) (fun _=>pure ()):=
  ⟨fun x hz hk ha hs=>⟨x.1.mono (fun o e=>hz I o (.inl rfl) e) hk ha hs,x.2.mono (fun o e=>hz O o (.inr rfl) e) hk ha hs⟩,fun x a h=>h.elim (fun h=>h ▸ x.1.nocell) fun h=>h ▸ x.2.nocell,fun {A Av s j Qs Qn E} hh tk hI W item done=>by
    have key:∀h',(∀a o,a≠I→s.heap.get? a=some o→h'.get? a=some o)→s.heap.objs.size≤h'.objs.size→IterAt h' Av O xo jo:=fun h' hk hz=>W.2.mono (fun o e=>hk O o hne e) (fun a o e n=>hk a o (fun q=>n (q ▸ hI I (.inl rfl))) e) (fun _ _ q=>q) hz
    refine wp_next' hh tk (hI I (.inl rfl)) W.1 (fun p v h' tk' hp hv it hs tk1=>?_) fun hn h' he hz=>?_
    · have hk:∀a o,a≠I→s.heap.get? a=some o→h'.get? a=some o:=fun a o n e=>(hs.2 a n).trans e
      exact wpAny_pure (item p v h' tk' hp hv ⟨it,key h' hk (Nat.le_of_eq hs.1.symm)⟩ (fun a o n e=>hk a o (fun q=>n (.inl q)) e) (Nat.le_of_eq hs.1.symm) tk1)
    · exact done hn h' (key h' he hz) (fun a o n e=>he a o (fun q=>n (.inl q)) e) hz⟩
theorem code_inner {y:Str} {py:Pos} {elt iter2:Expr} {ifs:List Expr} {g0:Comprehension} {scope:Scope} {pos:Pos} {t:EvB} {e:EvE} {i:Nat} (ht:SoundIfs X F d ifs t) (he:SoundE X F d elt e) (hi:F.names[i]? =some y) (hl:F.Wr y)
    {A:Around} {Av₀ Mu₀:Addr→Prop} {s₀:Shared} {env:Env} {O I D:Addr} {K:Result→Shared→Prop} {xo xs done rest:List PV} {jo:Nat} {st₂:St} (hne:O≠I)
    (hA:Room d A) (hO:s₀.heap.objs.size≤O) (h0:s₀.heap.objs.size≤I) (h1:s₀.heap.objs.size≤D) (lt₀:∀a,Av₀ a→a < s₀.heap.objs.size) (hal:(done++rest).length≤16777216)
    (k:∀s' Av' Mu',R X F Av' Mu' env st₂ s'→Step Av₀ Mu₀ s₀ Av' Mu' s'→(∀a,(a=I∨a=O)→Av' a∧¬ Mu' a∧a≠D)→Av' D→¬ Mu' D→(∃us n,s'.heap.get? D=some (listObj us n)∧VRs s'.heap Av' us (done++rest))→IterAt s'.heap Av' O xo jo→1≤s'.toks→K (.ok .next) s')
    {Av Mu:Addr→Prop} {st:St} {s:Shared} (hf:compF i t e xs st=some (rest,st₂)) (R₀:R X F Av Mu env st s) (S₀:Step Av₀ Mu₀ s₀ Av Mu s) (C:CY (fun a=>a=I∨a=O) (fun j h Av=>IterAt h Av I xs j∧IterAt h Av O xo jo) D Av Mu s.heap 0 done) (tk:1≤s.toks):
    codeAny (model X.prog X.w) A (.compLoop (.ListComp elt [g0,⟨.Name y py,iter2,ifs,0⟩] scope pos) 1 (.ref I) (.ref D) env) K s:=
  code_gen (f:=compF i t e) (T:=filT y py ifs elt D env (.compLoop (.ListComp elt [g0,⟨.Name y py,iter2,ifs,0⟩] scope pos) 1 (.ref I) (.ref D) env)) (pp:=iter2.pos) (kk:=fun x=>do noteFrame x env;theTreesLotGoes x) (it_two hne) rfl rfl rfl rfl (fun _=>rfl) hA (fun a h=>h.elim (fun h=>h ▸ h0) fun h=>h ▸ hO) (fil_body (it_two hne) ht he hi hl hA h1 lt₀ hal) k xs (List.drop_zero) hf rfl R₀ S₀ C tk
end
end Mine
end
section
open PySem PySem.W PyProof.Rows PySem.Builtin.Str
set_option tactic.hygienic false
namespace Mine
section
variable {X:Cx} {F:FI} {d:Nat}
theorem codeAny_compStart1 {prog:Program} {w:World} {A:Around} {R:Result→Shared→Prop} {s:Shared} {elt target iter ifs g0 scope pos it acc env}
    (h0:codeAny (model prog w) A (.compLoop (.ListComp elt [g0,⟨target,iter,ifs,0⟩] scope pos) 1 it acc env) R s)
    (h:wpAny (model prog w) A (pyIter it) (fun it' s'=>codeAny (model prog w) A (.compLoop (.ListComp elt [g0,⟨target,iter,ifs,0⟩] scope pos) 1 it' acc env) R s')
      (notedBy (model prog w) A env fun x s'=>R (.error x) s') s):
    codeAny (model prog w) A (.compStart (.ListComp elt [g0,⟨target,iter,ifs,0⟩] scope pos) 1 it acc env) R s:=by
  refine codeAny_of_tree ?_
  show wpAny _ _ ((compStart (.ListComp elt [g0,⟨target,iter,ifs,0⟩] scope pos) 1 it acc env).onRaise (fun x=>do noteFrame x env;standAt theWindowsPlace)) _ _ s
  refine wpAny_notedAt ?_
  unfold compStart
  show wpAny _ _ (ask>>=_) _ _ s
  refine wpAny_bind (wpAny_askSetting (wpAny_ite ?_))
  split
  · first
      | exact wpAny_bind (wpAny_pure (wpAny_pure (And.intro rfl h0)))
      | exact wpAny_pure (And.intro rfl h0)
  · first
      | exact wpAny_bind (wpAny_rule (wpAny_bind (wpAny_standAt (wpAny_bind (wpAny_mono h (fun it' s' h'=>wpAny_pure (And.intro rfl h')) fun _ _ x=>x)))))
      | (refine wpAny_bind (wpAny_rule ?_);show wpAny _ _ (standAt iter.pos>>=_) _ _ s;exact wpAny_bind (wpAny_standAt (wpAny_bind (wpAny_mono h (fun it' s' h'=>wpAny_pure (And.intro rfl h')) fun _ _ x=>x))))
noncomputable def comp2F (i1 i2:Nat) (f2:EvE) (t:EvB) (e:EvE):List PV→St→Option (List PV×St)
  | []=>pureE []
  | p::ps=>fun st=>match f2 (st.set i1 (.froz p)) with
    | some (a,st1)=>(match itemsOf a with
      | some ys=>(match compF i2 t e ys st1 with
        | some (as,st2)=>(match comp2F i1 i2 f2 t e ps st2 with
          | some (bs,st3)=>some (as++bs,st3)
          | none=>none)
        | none=>none)
      | none=>none)
    | none=>none
theorem comp2F_cons {i1 i2:Nat} {f2:EvE} {t:EvB} {e:EvE} {p:PV} {ps rest:List PV} {st st₂:St} (h:comp2F i1 i2 f2 t e (p::ps) st=some (rest,st₂)):
    ∃a st1 ys as st2 bs,f2 (st.set i1 (.froz p))=some (a,st1)∧itemsOf a=some ys∧compF i2 t e ys st1=some (as,st2)∧comp2F i1 i2 f2 t e ps st2=some (bs,st₂)∧rest=as++bs:=by
  unfold comp2F at h
  match h1:f2 (st.set i1 (.froz p)),h with
  | some (a,st1),h=>
    dsimp only at h
    match h2:itemsOf a,h with
    | some ys,h=>
      dsimp only at h
      match h3:compF i2 t e ys st1,h with
      | some (as,st2),h=>
        dsimp only at h
        match h4:comp2F i1 i2 f2 t e ps st2,h with
        | some (bs,st3),h=>
          cases h
          exact ⟨a,st1,ys,as,st2,bs,rfl,h2,h3,h4,rfl⟩
noncomputable def outT (x:Str) (px:Pos) (iter2:Expr) (D:Addr) (env:Env) (cs:Value→Code) (c:Code) (v:Value):Sem Fin:=assign (.Name x px) env v>>=fun _=>eval iter2 env>>=fun x=>standAt iter2.pos>>=fun _=>foldedSetIterable iter2 env x>>=fun x=>holding [x] (pyIter x)>>=fun i=>runOwn (cs i) env>>=fun _=>again c
theorem code_outer {x y:Str} {px py:Pos} {elt iter iter2:Expr} {ifs:List Expr} {scope:Scope} {pos:Pos} {f2:EvE} {t:EvB} {e:EvE} {i1 i2:Nat} (hf2:SoundE X F d iter2 f2) (ht:SoundIfs X F d ifs t) (he:SoundE X F d elt e)
    (hi1:F.names[i1]? =some x) (hl1:F.Wr x) (hi2:F.names[i2]? =some y) (hl2:F.Wr y) (hs:∀env x,foldedSetIterable iter2 env x=pure x)
    {A:Around} {Av₀ Mu₀:Addr→Prop} {s₀:Shared} {env:Env} {I D:Addr} {K:Result→Shared→Prop} {xs all:List PV} {st₂:St}
    (hA:Room d A) (h0:s₀.heap.objs.size≤I) (h1:s₀.heap.objs.size≤D) (lt₀:∀a,Av₀ a→a < s₀.heap.objs.size) (hal:all.length≤16777216)
    (k:∀s' Av' Mu',R X F Av' Mu' env st₂ s'→Step Av₀ Mu₀ s₀ Av' Mu' s'→Av' D→¬ Mu' D→(∃us n,s'.heap.get? D=some (listObj us n)∧VRs s'.heap Av' us all)→K (.ok .next) s')
    {Av Mu:Addr→Prop} {st:St} {s:Shared} (hf:comp2F i1 i2 f2 t e xs st=some (all,st₂)) (R₀:R X F Av Mu env st s) (S₀:Step Av₀ Mu₀ s₀ Av Mu s) (C:CY (fun a=>a=I) (fun j h Av=>IterAt h Av I xs j) D Av Mu s.heap 0 []) (tk:1≤s.toks):
    codeAny (model X.prog X.w) A (.compLoop (.ListComp elt [⟨.Name x px,iter,[],0⟩,⟨.Name y py,iter2,ifs,0⟩] scope pos) 0 (.ref I) (.ref D) env) K s:=by
  refine code_gen (f:=comp2F i1 i2 f2 t e) (T:=outT x px iter2 D env (fun i=>.compStart (.ListComp elt [⟨.Name x px,iter,[],0⟩,⟨.Name y py,iter2,ifs,0⟩] scope pos) 1 i (.ref D) env) (.compLoop (.ListComp elt [⟨.Name x px,iter,[],0⟩,⟨.Name y py,iter2,ifs,0⟩] scope pos) 0 (.ref I) (.ref D) env)) (pp:=iter.pos) (kk:=fun x=>do noteFrame x env;theTreesLotGoes x) it_one rfl rfl rfl rfl (fun _=>rfl) hA (fun a h=>h ▸ h0) ?_ (fun s' Av' Mu' r S _ a m l _ _=>k s' Av' Mu' r S a m l) xs (List.drop_zero) hf rfl R₀ S₀ C tk
  clear hf R₀ S₀ C tk k
  intro Av Mu st s p ps done rest j v Q E hf hall hv R₁ S₁ C₁ tk k
  obtain ⟨a,st1,ys,as,st2,bs,f1,f2,f3,f4,rfl⟩:=comp2F_cons hf
  refine wpAny_bind (wpAny_assign_Name (wp_store' R₁ tk hi1 (b:=.froz p) hv hl1 fun s2 R2 S2 tk2=>?_))
  have C2:=C₁.step (X:=X) it_one S2 R₁.ma R₁.lt
  refine wpAny_bind (hf2 _ hA f1 R2 tk2 fun va s3 Av3 Mu3 R3 S3 V3 tk3=>?_)
  have C3:=C2.step (X:=X) it_one S3.toStep R2.ma R2.lt
  have T3:=(S₁.trans S2 lt₀).trans S3.toStep lt₀
  refine wpAny_bind (wpAny_standAt (wpAny_bind (wpAny_of_eq (hs env va) (wpAny_bind (wpAny_holding (wp_iter f2 R3.lt V3 fun o W=>?_))))))
  have hI:=C3.zone I rfl
  have nI:I≠s3.heap.objs.size:=fun z=>absurd (R3.lt _ hI.1) (z ▸ Nat.lt_irrefl _)
  have nD:s3.heap.objs.size≠D:=fun z=>absurd (R3.lt _ C3.aD) (z ▸ Nat.lt_irrefl _)
  have C4:CY (fun a=>a=s3.heap.objs.size∨a=I) (fun j' h Av=>IterAt h Av s3.heap.objs.size ys j'∧IterAt h Av I xs (j+1)) D (fun a=>Av3 a∨a=s3.heap.objs.size) Mu3 (s3.heap.push o) 0 done:=by
    have hz:s3.heap.objs.size≤(s3.heap.push o).objs.size:=by rw [Heap.size_push];exact Nat.le_succ _
    have hn:∀a,a < s3.heap.objs.size→¬ Av3 a→¬ (Av3 a∨a=s3.heap.objs.size):=fun a l n q=>q.elim n fun z=>absurd l (z ▸ Nat.lt_irrefl _)
    obtain ⟨us,n,g,z⟩:=C3.ls
    refine ⟨fun a h=>?_,.inl C3.aD,C3.mD,⟨W,C3.it.mono (fun o' e=>Heap.get?_push_of_some _ e) (fun a o' e _=>Heap.get?_push_of_some _ e) hn hz⟩,us,n,Heap.get?_push_of_some _ g,z.mono (fun a o' e _=>Heap.get?_push_of_some _ e) hn hz⟩
    rcases h with rfl | rfl
    · exact ⟨.inr rfl,fun q=>absurd (R3.lt _ (R3.ma _ q)) (Nat.lt_irrefl _),nD⟩
    · exact ⟨.inl hI.1,hI.2⟩
  have inner:∀K':Result→Shared→Prop,(∀s',Q (.again (.compLoop (.ListComp elt [⟨.Name x px,iter,[],0⟩,⟨.Name y py,iter2,ifs,0⟩] scope pos) 0 (.ref I) (.ref D) env)) s'→K' (.ok .next) s')→
      codeAny (model X.prog X.w) (A.mark none) (.compLoop (.ListComp elt [⟨.Name x px,iter,[],0⟩,⟨.Name y py,iter2,ifs,0⟩] scope pos) 1 (.ref s3.heap.objs.size) (.ref D) env) K' { s3 with heap:=s3.heap.push o }:=fun K' hK'=>by
    rw [mark_none]
    refine code_inner (g0:=⟨.Name x px,iter,[],0⟩) ht he hi2 hl2 nI hA h0 T3.size h1 lt₀ (Nat.le_trans ?_ hal) (fun s' Av' Mu' R' S' zn aD mD ls it' tk'=>hK' s' (k f4 ?_ R' S' ⟨fun a h=>zn a (.inr h),aD,mD,it',ls⟩ tk')) f3 (R3.fresh o) (T3.trans (Step.fresh o) lt₀) C4 tk3
    · rw [←hall,←List.append_assoc,List.length_append (bs:=bs)];exact Nat.le_add_right _ _
    · rw [List.append_assoc];exact hall
  exact wpAny_bind (wpAny_runOwn (codeAny_compStart1 (inner _ fun s' h=>wpAny_pure h) (W.self (inner _ fun s' h=>wpAny_pure h))))
noncomputable def srcOf (f:EvE):St→Option (List PV×St):=bindE f fun a=>liftE (itemsOf a)
theorem x_comp2 {z:Str} {j:Nat} {pz spos:Pos} {x y:Str} {px py:Pos} {elt iter iter2:Expr} {ifs:List Expr} {scope:Scope} {pos:Pos} {own caps:List Str} {is:List Nat} {f f2:EvE} {t:EvB} {e:EvE} {i1 i2:Nat} (ok:CompOK F scope own caps) (hidx:is.map (F.names[·]?)=caps.map some)
    (hi1:own[i1]? =some x) (hi2:own[i2]? =some y) (hf:SoundE X F d iter f) (hf2:SoundE X (innerF F scope own caps) d iter2 f2) (ht:SoundIfs X (innerF F scope own caps) d ifs t) (he:SoundE X (innerF F scope own caps) d elt e)
    (hj:F.names[j]? =some z) (hl:F.Wr z) (hsw:∀env:Env,env.scope=F.scope→swapsWith (.ListComp elt [⟨.Name x px,iter,[],0⟩,⟨.Name y py,iter2,ifs,0⟩] scope pos) (some (.Name z pz)) spos.line env=pure true)
    (hs:autoParam (∀env x,foldedSetIterable iter env x=pure x) Mine.au1._auto_1) (hs2:autoParam (∀env x,foldedSetIterable iter2 env x=pure x) Mine.au1._auto_1):
    SoundX X F d (.Assign [.Name z pz] (.ListComp elt [⟨.Name x px,iter,[],0⟩,⟨.Name y py,iter2,ifs,0⟩] scope pos) spos)
      (bindE (capF is) fun ps=>bindE (srcOf f) fun xs=>bindE (liftE (packL (comp2F i1 i2 f2 t e xs (List.replicate own.length .none++ps.map .froz)))) fun p=>setV j p):=by
  have nm:∀{i:Nat} {x:Str},own[i]? =some x→(innerF F scope own caps).names[i]? =some x:=fun {i x} h=>by
    show (own++caps)[i]? =some x
    rw [List.getElem?_append_left (List.getElem?_eq_some_iff.mp h).1]
    exact h
  have hsrc:∀{A:Around} {env:Env} {xs:List PV} {st1 st2:St} {Av Mu:Addr→Prop} {s:Shared} {Q:Value→Shared→Prop} {E:Value→Shared→Prop},Room d A→srcOf f st1=some (xs,st2)→R X F Av Mu env st1 s→1≤s.toks→
      (∀s1 s2 I Av2 Mu2,R X F Av2 Mu2 env st2 s1→StepE env Av Mu s Av2 Mu2 s1→(∀a o,s1.heap.get? a=some o→s2.heap.get? a=some o)→s1.heap.objs.size≤s2.heap.objs.size→s2.os=s1.os→s2.gens=s1.gens→1≤s2.toks→
        OneW xs s2.heap (fun a=>Av2 a∨s1.heap.objs.size≤a) I s1.heap.objs.size s2.heap.objs.size→Q (.ref I) s2)→wpAny (model X.prog X.w) A (eval iter env) (fun x s₁=>wpAny (model X.prog X.w) A (pyIter x) Q E s₁) E s:=by
    intro A env xs st1 st2 Av Mu s Q E hA h r tk k
    refine bindE_elim h fun a st3 h1 h2=>?_
    obtain ⟨h3,e2⟩:=liftE_some h2
    subst e2
    exact one_wp hf hA h1 h3 r tk k
  have hloop:∀{xs:List PV} {st0 st4:St} {as:List PV},comp2F i1 i2 f2 t e xs st0=some (as,st4)→as.length≤16777216→LoopW X (innerF F scope own caps) d (.ListComp elt [⟨.Name x px,iter,[],0⟩,⟨.Name y py,iter2,ifs,0⟩] scope pos) (OneW xs) st0 as st4:=by
    intro xs st0 st4 as hcf hal A Av₀ Mu₀ Av Mu s₀ s env I D lo hi K hA h0 h1 lt₀ k r S w zone hD aD mD gD tk
    obtain ⟨w1,w2,w3⟩:=w
    exact code_outer hf2 ht he (nm hi1) (innerF_wr ok (List.mem_of_getElem? hi1)) (nm hi2) (innerF_wr ok (List.mem_of_getElem? hi2)) hs2 hA (Nat.le_trans h0 w1) h1 lt₀ hal k hcf r S
      ⟨fun a h=>h ▸ ⟨(zone _ w1 w2).1,(zone _ w1 w2).2,Nat.ne_of_lt (Nat.lt_of_lt_of_le w2 hD)⟩,aD,mD,w3,[],0,gD,VRs.nil⟩ tk
  exact @x_compG X F d z j pz spos (.Name x px) iter elt [] [⟨.Name y py,iter2,ifs,0⟩] scope pos own caps is OneW (srcOf f) (comp2F i1 i2 f2 t e) ok hidx src_one @hsrc @hloop hj hl hsw hs
end
end Mine
end
section
open PySem PySem.W PyProof.Rows PySem.Builtin.Str
set_option tactic.hygienic false
namespace Mine
structure ZipAt (h:Heap) (Av:Addr→Prop) (z TI TO i1 i2 l1 l2:Addr) (as bs:List PV) (j:Nat):Prop where
  zip:IsZip h z TI TO .none
  ti:IsPair h TI (.ref i1) (.ref i2)
  to:∃a b,IsPair h TO a b
  it1:h.IsListIter i1 l1 j
  it2:h.IsListIter i2 l2 j
  ls1:∃vs n,h.get? l1=some (listObj vs n)∧VRs h Av vs as
  ls2:∃vs n,h.get? l2=some (listObj vs n)∧VRs h Av vs bs
  n1:¬ Av l1
  n2:¬ Av l2
  ap:ZipApart z TI TO i1 i2 l1 l2
theorem ZipAt.mono {h h':Heap} {Av Av':Addr→Prop} {z TI TO i1 i2 l1 l2:Addr} {as bs:List PV} {j:Nat} (x:ZipAt h Av z TI TO i1 i2 l1 l2 as bs j)
    (hz:∀a o,a=z∨a=TI∨a=TO∨a=i1∨a=i2→h.get? a=some o→h'.get? a=some o) (hk:∀a o,h.get? a=some o→¬ Av a→h'.get? a=some o) (ha:∀a,a < h.objs.size→¬ Av a→¬ Av' a) (hs:h.objs.size≤h'.objs.size):
    ZipAt h' Av' z TI TO i1 i2 l1 l2 as bs j:=by
  obtain ⟨vs,n,e1,q1⟩:=x.ls1
  obtain ⟨us,m,e2,q2⟩:=x.ls2
  refine ⟨hz _ _ (.inl rfl) x.zip,hz _ _ (.inr (.inl rfl)) x.ti,?_,?_,?_,⟨vs,n,hk _ _ e1 x.n1,q1.mono hk ha hs⟩,⟨us,m,hk _ _ e2 x.n2,q2.mono hk ha hs⟩,ha _ (Heap.lt_size e1) x.n1,ha _ (Heap.lt_size e2) x.n2,x.ap⟩
  · obtain ⟨a,b,e⟩:=x.to
    exact ⟨a,b,hz _ _ (.inr (.inr (.inl rfl))) e⟩
  · obtain ⟨o,e,r⟩:=x.it1
    exact ⟨o,hz _ _ (.inr (.inr (.inr (.inl rfl)))) e,r⟩
  · obtain ⟨o,e,r⟩:=x.it2
    exact ⟨o,hz _ _ (.inr (.inr (.inr (.inr rfl)))) e,r⟩
noncomputable def prOf (a b:PV):PV:=.tuple [a,b]
noncomputable def ZipW (xs:List PV) (h:Heap) (Av:Addr→Prop) (I lo hi:Addr):Prop:=∃TI TO i1 i2 l1 l2 as bs,ZipAt h Av I TI TO i1 i2 l1 l2 as bs 0∧xs=as.zipWith prOf bs∧∀a,a=I∨a=TI∨a=TO∨a=i1∨a=i2→lo≤a∧a < hi
theorem src_zip {prog:Program} {w:World} (xs:List PV):SrcW prog w (ZipW xs):=
  ⟨fun x hk ha hs=>by
    obtain ⟨TI,TO,i1,i2,l1,l2,as,bs,q,e,z⟩:=x
    exact ⟨TI,TO,i1,i2,l1,l2,as,bs,q.mono (fun _ _ _ e=>hk _ _ e) (fun _ _ e _=>hk _ _ e) ha hs,e,z⟩,fun x q=>by
    obtain ⟨TI,TO,i1,i2,l1,l2,as,bs,z,_⟩:=x
    exact wpAny_pyIter_zip z.zip q⟩
section
variable {X:Cx} {F:FI} {d:Nat}
noncomputable def compZF (ix iy:Nat) (e:EvE):List PV→St→Option (List PV×St)
  | []=>pureE []
  | p::ps=>fun st=>match p with
    | .tuple [a,b]=>(match e ((st.set ix (.froz a)).set iy (.froz b)) with
      | some (c,st1)=>(match compZF ix iy e ps st1 with
        | some (cs,st2)=>some (c::cs,st2)
        | none=>none)
      | none=>none)
    | _=>none
theorem compZF_cons {ix iy:Nat} {e:EvE} {a b:PV} {ps rest:List PV} {st st₂:St} (h:compZF ix iy e (prOf a b::ps) st=some (rest,st₂)):∃c st1 cs,e ((st.set ix (.froz a)).set iy (.froz b))=some (c,st1)∧compZF ix iy e ps st1=some (cs,st₂)∧rest=c::cs:=by
  have h:(match e ((st.set ix (.froz a)).set iy (.froz b)) with
      | some (c,st1)=>(match compZF ix iy e ps st1 with
        | some (cs,st2)=>some (c::cs,st2)
        | none=>none)
      | none=>none)=some (rest,st₂):=h
  match h1:e ((st.set ix (.froz a)).set iy (.froz b)),h with
  | some (c,st1),h=>
    dsimp only at h
    match h2:compZF ix iy e ps st1,h with
    | some (cs,st2),h=>
      cases h
      exact ⟨c,st1,cs,rfl,h2,rfl⟩
noncomputable def ZP (z TI TO i1 i2:Addr) (a:Addr):Prop:=a=z∨a=TI∨a=TO∨a=i1∨a=i2
noncomputable def ZV (v:Value) (p:PV) (h:Heap) (Av:Addr→Prop):Prop:=∃T va vb a b,v=.ref T∧IsTup h T [va,vb].toArray∧VR h Av va a∧VR h Av vb b∧p=prOf a b
theorem zip_split {as bs:List PV} {j:Nat} {p:PV} (h:(as.zipWith prOf bs)[j]? =some p):∃a b,as[j]? =some a∧bs[j]? =some b∧p=prOf a b:=by
  rw [List.getElem?_zipWith] at h
  match h1:as[j]?,h2:bs[j]?,h with
  | some a,some b,h=>exact ⟨a,b,rfl,rfl,(Option.some.inj h).symm⟩
theorem not_four {z TI TO i1 i2 a:Addr} (h:¬ ZP z TI TO i1 i2 a):a≠z∧a≠TO∧a≠i1∧a≠i2:=⟨fun q=>h (.inl q),fun q=>h (.inr (.inr (.inl q))),fun q=>h (.inr (.inr (.inr (.inl q)))),fun q=>h (.inr (.inr (.inr (.inr q))))⟩
theorem zip_nocell {h:Heap} {Av:Addr→Prop} {z TI TO i1 i2 l1 l2:Addr} {as bs:List PV} {j:Nat} (x:ZipAt h Av z TI TO i1 i2 l1 l2 as bs j) (a:Addr) (ha:ZP z TI TO i1 i2 a):∀o,h.get? a=some o→∀v,o.data≠.cell v:=fun o e v q=>by
  obtain ⟨ta,tb,hTO⟩:=x.to
  rcases ha with rfl | rfl | rfl | rfl | rfl
  · exact nomatch (congrArg Obj.data (Option.some.inj (e.symm.trans x.zip))).symm.trans q
  · exact nomatch (congrArg Obj.data (Option.some.inj (e.symm.trans x.ti))).symm.trans q
  · exact nomatch (congrArg Obj.data (Option.some.inj (e.symm.trans hTO))).symm.trans q
  · obtain ⟨o',e',_,hd⟩:=x.it1
    exact nomatch hd.symm.trans ((congrArg Obj.data (Option.some.inj (e.symm.trans e'))).symm.trans q)
  · obtain ⟨o',e',_,hd⟩:=x.it2
    exact nomatch hd.symm.trans ((congrArg Obj.data (Option.some.inj (e.symm.trans e'))).symm.trans q)
theorem it_zip {z TI TO i1 i2 l1 l2:Addr} {as bs:List PV} {elts:List Expr} {k0:Nat} {tp:Pos}:ItW X.prog X.w z (ZP z TI TO i1 i2) (as.zipWith prOf bs) ZV (fun j h Av=>ZipAt h Av z TI TO i1 i2 l1 l2 as bs j) (fun _ _=>True) (fun v=>letOwnedTupleGo (.Tuple elts k0 tp) (.ref z) v):=by
  refine ⟨fun x hz hk ha hs=>x.mono hz hk ha hs,fun x a h=>zip_nocell x a h,fun {A Av s j Qs Qn E} hh tk hI W item done=>?_⟩
  obtain ⟨vs,n,e1,q1⟩:=W.ls1
  obtain ⟨us,n',e2,q2⟩:=W.ls2
  obtain ⟨ta,tb,hTO⟩:=W.to
  have ap:=W.ap
  cases hp:(as.zipWith prOf bs)[j]? with
  | none=>
    have hend:vs.toArray[j]? =none∨us.toArray[j]? =none:=by
      rw [List.getElem?_eq_none_iff,List.length_zipWith] at hp
      have l1:=q1.length
      have l2:=q2.length
      simp only [List.getElem?_toArray,List.getElem?_eq_none_iff]
      lia
    refine wpAny_mono (wpAny_size (wpAny_pyNext_zip_end (Q:=fun r s'=>s.heap.objs.size≤s'.heap.objs.size→match r with | none=>Qn s' | some v=>_) hh ap W.zip W.ti hTO W.it1 W.it2 ⟨_,e1,rfl,n,rfl⟩ ⟨_,e2,rfl,n',rfl⟩ hend fun h' hk=>fun hz=>done hp h' trivial (fun a o n e=>?_) hz)) (fun r s' q=>q.1 q.2) fun _ _ x=>x
    obtain ⟨n1,n2,n3,n4⟩:=not_four n
    exact hk a o n1 n2 n3 n4 e
  | some p=>
    obtain ⟨a,b,ha,hb,rfl⟩:=zip_split hp
    obtain ⟨va,hva,za⟩:=q1.get ha
    obtain ⟨vb,hvb,zb⟩:=q2.get hb
    refine wpAny_mono (wpAny_toks (wpAny_pyNext_zip_item (Q:=fun r s'=>1≤s'.toks→match r with | none=>Qn s' | some v=>_) ap W.zip W.ti hTO W.it1 W.it2 ⟨_,e1,rfl,n,rfl⟩ ⟨_,e2,rfl,n',rfl⟩ (x:=va) (y:=vb) (by simpa using hva) (by simpa using hvb) fun h' p1 p2 p3 p4 p5 p6 p7=>fun tk'=>?_)) (fun r s' q=>q.1 (Nat.le_trans tk q.2)) fun _ _ x=>x
    refine wpAny_letOwnedTupleGo_zip p1 fun h2 hz2 hs2=>?_
    have hk:∀a o,¬ ZP z TI TO i1 i2 a→s.heap.get? a=some o→h2.get? a=some o:=fun a o n e=>by
      obtain ⟨n1,n2,n3,n4⟩:=not_four n
      exact (hs2.2 a n1).trans (p7 a o n1 n2 n3 n4 e)
    have hz:s.heap.objs.size≤h2.objs.size:=by
      have e1:h2.objs.size=h'.objs.size:=hs2.1
      rw [e1,p6]
      exact Nat.le_succ _
    have hkA:∀a o,s.heap.get? a=some o→¬ Av a→h2.get? a=some o:=fun a o e q=>hk a o (fun w=>q (hI a w)) e
    have hkl:∀a,¬ Av a→∀o,s.heap.get? a=some o→h2.get? a=some o:=fun a n o e=>hkA a o e n
    have hTz:s.heap.objs.size≠z:=fun q=>absurd (Heap.lt_size W.zip) (q ▸ Nat.lt_irrefl _)
    have up:∀{v p},VR s.heap Av v p→VR h2 Av v p:=fun q=>q.mono hkA (fun _ _ q=>q) hz
    refine item _ _ h2 _ hp ⟨_,va,vb,a,b,rfl,⟨_,(hs2.2 _ hTz).trans p5,rfl,_,rfl⟩,up za,up zb,rfl⟩ ?_ hk hz tk'
    refine ⟨hz2,(hs2.2 _ ap.TIz).trans (p7 _ _ ap.TIz ap.TITO ap.TIi1 ap.TIi2 W.ti),⟨va,vb,(hs2.2 _ ap.TOz).trans p2⟩,?_,?_,⟨vs,n,hkl _ W.n1 _ e1,q1.mono hkA (fun _ _ q=>q) hz⟩,⟨us,n',hkl _ W.n2 _ e2,q2.mono hkA (fun _ _ q=>q) hz⟩,W.n1,W.n2,ap⟩
    · obtain ⟨o,e,r⟩:=p3
      exact ⟨o,(hs2.2 _ ap.i1z).trans e,r⟩
    · obtain ⟨o,e,r⟩:=p4
      exact ⟨o,(hs2.2 _ ap.i2z).trans e,r⟩
noncomputable def zipT (elts:List Expr) (k0:Nat) (tp:Pos) (elt:Expr) (D:Addr) (env:Env) (c:Code) (v:Value):Sem Fin:=assign (.Tuple elts k0 tp) env v>>=fun _=>(eval elt env>>=fun x=>call (.builtin "list.append") [.ref D,x]>>=fun _=>pure ())>>=fun _=>again c
theorem store_two {x y:Str} {px py tp:Pos} {k0:Nat} {ix iy:Nat} (hix:F.names[ix]? =some x) (hlx:F.Wr x) (hiy:F.names[iy]? =some y) (hly:F.Wr y) {A:Around} {Av Mu:Addr→Prop} {env:Env} {st:St} {s:Shared} {T:Addr} {va vb:Value} {a b:PV} {Q:Unit→Shared→Prop} {E:Value→Shared→Prop}
    (hA:Room d A) (hT:IsTup s.heap T [va,vb].toArray) (za:VR s.heap Av va a) (zb:VR s.heap Av vb b) (R₁:R X F Av Mu env st s) (tk:1≤s.toks)
    (k:∀s' Av' Mu',R X F Av' Mu' env ((st.set ix (.froz a)).set iy (.froz b)) s'→Step Av Mu s Av' Mu' s'→1≤s'.toks→Q () s'):wpAny (model X.prog X.w) A (assign (.Tuple [.Name x px,.Name y py] k0 tp) env (.ref T)) Q E s:=by
  rw [assign_Tuple]
  refine wpAny_bind (wpAny_standAt ?_)
  unfold unpack
  rw [show (assignEach [.Name x px,.Name y py] env).findIdx? (·.1)=none from by rfl,show (assignEach [.Name x px,.Name y py] env).length=2 from rfl]
  refine wpAny_bind (wpAny_holding (wpAny_mono (wpAny_toks (wp_unpackItems (X:=X) (vs:=[va,vb]) (Q:=fun r s'=>r=[va,vb]∧Grow s s') hA.1 hT rfl fun s2 G=>⟨rfl,G⟩)) (fun r s2 q=>?_) fun _ _ x=>x))
  obtain ⟨⟨rfl,G⟩,tk2⟩:=q
  have R2:=R₁.grow G
  have hst:Stores env ((assignEach [.Name x px,.Name y py] env).map (·.2)) [x,y]:=.cons (fun h=>wpAny_assign_Name h) (.cons (fun h=>wpAny_assign_Name h) .nil)
  refine wpAny_mono (wpAny_toks (storeAll (X:=X) (F:=F) (A:=A) (Q:=fun _ s'=>1≤s'.toks→Q () s') R2.lt (s₀:=s2) hst (is:=[ix,iy]) (by rw [List.map_cons,List.map_cons,hix,hiy];rfl) (fun w hw=>by rcases List.mem_cons.mp hw with rfl | hw;exact hlx;exact List.mem_singleton.mp hw ▸ hly) rfl
    (.froz (za.grow G) (.froz (zb.grow G) .nil)) R2 Step.refl fun s' Av' Mu' R' S'=>k s' Av' Mu' R' ((Step.ofGrow G).trans S' R₁.lt))) (fun _ s3 q=>q.1 (Nat.le_trans tk (Nat.le_trans tk2 q.2))) fun _ _ x=>x
theorem code_zip {x y:Str} {px py tp:Pos} {k0:Nat} {elt iter:Expr} {scope:Scope} {pos:Pos} {e:EvE} {ix iy:Nat} (he:SoundE X F d elt e) (hix:F.names[ix]? =some x) (hlx:F.Wr x) (hiy:F.names[iy]? =some y) (hly:F.Wr y)
    {A:Around} {Av₀ Mu₀:Addr→Prop} {s₀:Shared} {env:Env} {z TI TO i1 i2 l1 l2 D:Addr} {K:Result→Shared→Prop} {as bs all:List PV} {st₂:St}
    (hA:Room d A) (h0:∀a,ZP z TI TO i1 i2 a→s₀.heap.objs.size≤a) (h1:s₀.heap.objs.size≤D) (lt₀:∀a,Av₀ a→a < s₀.heap.objs.size) (hal:all.length≤16777216)
    (k:∀s' Av' Mu',R X F Av' Mu' env st₂ s'→Step Av₀ Mu₀ s₀ Av' Mu' s'→Av' D→¬ Mu' D→(∃us n,s'.heap.get? D=some (listObj us n)∧VRs s'.heap Av' us all)→K (.ok .next) s')
    {Av Mu:Addr→Prop} {st:St} {s:Shared} (hf:compZF ix iy e (as.zipWith prOf bs) st=some (all,st₂)) (R₀:R X F Av Mu env st s) (S₀:Step Av₀ Mu₀ s₀ Av Mu s) (C:CY (ZP z TI TO i1 i2) (fun j h Av=>ZipAt h Av z TI TO i1 i2 l1 l2 as bs j) D Av Mu s.heap 0 []) (tk:1≤s.toks):
    codeAny (model X.prog X.w) A (.compLoop (.ListComp elt [⟨.Tuple [.Name x px,.Name y py] k0 tp,iter,[],0⟩] scope pos) 0 (.ref z) (.ref D) env) K s:=by
  have W:=it_zip (X:=X) (z:=z) (TI:=TI) (TO:=TO) (i1:=i1) (i2:=i2) (l1:=l1) (l2:=l2) (as:=as) (bs:=bs) (elts:=[.Name x px,.Name y py]) (k0:=k0) (tp:=tp)
  refine code_gen (f:=compZF ix iy e) (T:=zipT [.Name x px,.Name y py] k0 tp elt D env (.compLoop (.ListComp elt [⟨.Tuple [.Name x px,.Name y py] k0 tp,iter,[],0⟩] scope pos) 0 (.ref z) (.ref D) env)) (pp:=iter.pos) (kk:=fun x=>do noteFrame x env;theTreesLotGoes x) W rfl rfl rfl rfl (fun _=>rfl) hA h0 ?_ (fun s' Av' Mu' r S _ a m l _ _=>k s' Av' Mu' r S a m l) _ (List.drop_zero) hf rfl R₀ S₀ C tk
  clear hf R₀ S₀ C tk k
  intro Av Mu st s p ps done rest j v Q E hf hall hv R₁ S₁ C₁ tk k
  obtain ⟨T,va,vb,a,b,rfl,hT,za,zb,rfl⟩:=hv
  obtain ⟨c,st1,cs,f1,f2,rfl⟩:=compZF_cons hf
  refine wpAny_bind (store_two hix hlx hiy hly hA hT za zb R₁ tk fun s2 Av2 Mu2 R2 S2 tk2=>?_)
  have C2:=C₁.step W S2 R₁.ma R₁.lt
  refine wpAny_bind (wpAny_bind (he _ hA f1 R2 tk2 fun vc s3 Av3 Mu3 R3 S3 V3 tk3=>?_))
  refine CY.app W h1 R3 ((S₁.trans S2 lt₀).trans S3.toStep lt₀) (C2.step W S3.toStep R2.ma R2.lt) V3 (Nat.le_trans ?_ hal) fun h' R4 S4 C4=>k f2 ?_ R4 S4 C4 tk3
  · rw [←hall,List.length_append];exact Nat.le_add_right _ _
  · rw [List.append_assoc];exact hall
noncomputable def zipA (vs:List PV):Option (List PV):=vs.head?.bind fun a=>vs.tail.head?.bind fun b=>if vs.tail.tail.isEmpty=true then (asList a).bind fun as=>(asList b).map fun bs=>as.zipWith prOf bs else none
theorem zipA_some {vs xs:List PV} (h:zipA vs=some xs):∃as bs,vs=[.list as,.list bs]∧xs=as.zipWith prOf bs:=by
  obtain ⟨a,e1,h⟩:=Option.bind_eq_some_iff.mp h
  obtain ⟨b,e2,h⟩:=Option.bind_eq_some_iff.mp h
  cases vs with
  | nil=>cases e1
  | cons a' l=>cases l with
    | nil=>cases e2
    | cons b' l=>cases l with
      | cons=>cases h
      | nil=>
        cases e1
        cases e2
        obtain ⟨as,e3,h⟩:=Option.bind_eq_some_iff.mp h
        obtain ⟨bs,e4,rfl⟩:=Option.map_eq_some_iff.mp h
        exact ⟨as,bs,by rw [asList_some e3,asList_some e4],rfl⟩
noncomputable def srcZ (g:St→Option (List PV×St)):St→Option (List PV×St):=bindE g fun vs=>liftE (zipA vs)
theorem boot_zip:bootBuiltins (PySem.Str.ofString "zip")=some (.type "zip"):=by kernel_rfl
theorem x_compZ {q:Str} {j:Nat} {pq spos:Pos} {x y:Str} {px py tp zp zpos:Pos} {k0:Nat} {elt:Expr} {args:List Expr} {scope:Scope} {pos:Pos} {own caps:List Str} {is:List Nat} {g:St→Option (List PV×St)} {e:EvE} {ix iy:Nat} (ok:CompOK F scope own caps) (hidx:is.map (F.names[·]?)=caps.map some)
    (hix:own[ix]? =some x) (hiy:own[iy]? =some y) (hg:SoundEs X F d args g) (he:SoundE X (innerF F scope own caps) d elt e)
    (hzl:F.scope.names.lookup (PySem.Str.ofString "zip")=some .globalImplicit) (hzg:X.mg (PySem.Str.ofString "zip")=none)
    (hj:F.names[j]? =some q) (hl:F.Wr q) (hsw:∀env:Env,env.scope=F.scope→swapsWith (.ListComp elt [⟨.Tuple [.Name x px,.Name y py] k0 tp,.Call (.Name "zip" zp) args [] zpos,[],0⟩] scope pos) (some (.Name q pq)) spos.line env=pure true)
    (hp:autoParam (∀env,(backTo zpos (starEach args env)).any (·.1)=false) Mine.au4._auto_1)
    (hs:autoParam (∀env x,foldedSetIterable (.Call (.Name "zip" zp) args [] zpos) env x=pure x) Mine.au1._auto_1):
    SoundX X F d (.Assign [.Name q pq] (.ListComp elt [⟨.Tuple [.Name x px,.Name y py] k0 tp,.Call (.Name "zip" zp) args [] zpos,[],0⟩] scope pos) spos)
      (bindE (capF is) fun ps=>bindE (srcZ g) fun xs=>bindE (liftE (packL (compZF ix iy e xs (List.replicate own.length .none++ps.map .froz)))) fun p=>setV j p):=by
  have nm:∀{i:Nat} {x:Str},own[i]? =some x→(innerF F scope own caps).names[i]? =some x:=fun {i x} h=>by
    show (own++caps)[i]? =some x
    rw [List.getElem?_append_left (List.getElem?_eq_some_iff.mp h).1]
    exact h
  have hsrc:∀{A:Around} {env:Env} {xs:List PV} {st1 st2:St} {Av Mu:Addr→Prop} {s:Shared} {Q:Value→Shared→Prop} {E:Value→Shared→Prop},Room d A→srcZ g st1=some (xs,st2)→R X F Av Mu env st1 s→1≤s.toks→
      (∀s1 s2 I Av2 Mu2,R X F Av2 Mu2 env st2 s1→StepE env Av Mu s Av2 Mu2 s1→(∀a o,s1.heap.get? a=some o→s2.heap.get? a=some o)→s1.heap.objs.size≤s2.heap.objs.size→s2.os=s1.os→s2.gens=s1.gens→1≤s2.toks→
        ZipW xs s2.heap (fun a=>Av2 a∨s1.heap.objs.size≤a) I s1.heap.objs.size s2.heap.objs.size→Q (.ref I) s2)→wpAny (model X.prog X.w) A (eval (.Call (.Name "zip" zp) args [] zpos) env) (fun x s₁=>wpAny (model X.prog X.w) A (pyIter x) Q E s₁) E s:=by
    intro A env xs st1 st2 Av Mu s Q E hA h r tk k
    refine bindE_elim h fun ws st3 h1 h2=>?_
    obtain ⟨h3,e2⟩:=liftE_some h2
    subst e2
    obtain ⟨as,bs,rfl,rfl⟩:=zipA_some h3
    show wpAny _ _ (do callWith zpos (←eval (.Name "zip" zp) env) [] (backTo zpos (starEach args env)) (backToKw zpos (keywordEach [] env))) _ _ _
    refine wpAny_bind (wp_bname r hzl hzg boot_zip (callArgsT (hp env) (hg zpos _ hA h1 r tk fun vb s1 Av2 Mu2 R2 S2 V2 tk2=>?_)) (by decide+kernel) (by decide+kernel))
    obtain ⟨v1,v2,rfl,q1,q2⟩:=VRs2 V2
    unfold VR at q1 q2
    obtain ⟨l1,vs,n1,rfl,g1,na1,z1⟩:=q1
    obtain ⟨l2,us,n2,rfl,g2,na2,z2⟩:=q2
    refine call_zip_2 ⟨_,g1,rfl,n1,rfl⟩ ⟨_,g2,rfl,n2,rfl⟩ fun h' p1 p2 p3 p4 p5 p6 p7=>?_
    have hz:s1.heap.objs.size≤h'.objs.size:=by rw [p6];exact Nat.le_add_right _ _
    have mono:∀{v p},VRs s1.heap Av2 v p→VRs h' (fun a=>Av2 a∨s1.heap.objs.size≤a) v p:=fun q=>q.mono (fun a o e _=>p7 a o e) (fun a l n w=>w.elim n fun w=>absurd l (Nat.not_lt.mpr w)) hz
    refine wpAny_pyIter_zip p1 (k s1 { s1 with heap:=h' } _ Av2 Mu2 R2 S2 p7 hz rfl rfl tk2 ⟨_,_,_,_,_,_,as,bs,⟨p1,p2,⟨_,_,p3⟩,p4,p5,⟨vs,n1,p7 _ _ g1,mono z1⟩,⟨us,n2,p7 _ _ g2,mono z2⟩,?_,?_,zipApart_new (Heap.lt_size g1) (Heap.lt_size g2)⟩,rfl,fun a h=>?_⟩)
    · exact fun w=>w.elim na1 fun w=>absurd (Heap.lt_size g1) (Nat.not_lt.mpr w)
    · exact fun w=>w.elim na2 fun w=>absurd (Heap.lt_size g2) (Nat.not_lt.mpr w)
    · rw [p6]
      rcases h with h | h | h | h | h<;>subst h
      · exact ⟨Nat.le_add_right _ _,Nat.add_lt_add_left (by decide) _⟩
      · exact ⟨Nat.le_add_right _ _,Nat.add_lt_add_left (by decide) _⟩
      · exact ⟨Nat.le_add_right _ _,Nat.add_lt_add_left (by decide) _⟩
      · exact ⟨Nat.le_refl _,Nat.lt_add_of_pos_right (by decide)⟩
      · exact ⟨Nat.le_add_right _ _,Nat.add_lt_add_left (by decide) _⟩
  have hloop:∀{xs:List PV} {st0 st4:St} {as:List PV},compZF ix iy e xs st0=some (as,st4)→as.length≤16777216→LoopW X (innerF F scope own caps) d (.ListComp elt [⟨.Tuple [.Name x px,.Name y py] k0 tp,.Call (.Name "zip" zp) args [] zpos,[],0⟩] scope pos) (ZipW xs) st0 as st4:=by
    intro xs st0 st4 cs hcf hal A Av₀ Mu₀ Av Mu s₀ s env I D lo hi K hA h0 h1 lt₀ k r S w zone hD aD mD gD tk
    obtain ⟨TI,TO,i1,i2,l1,l2,as,bs,W,rfl,hz⟩:=w
    exact code_zip he (nm hix) (innerF_wr ok (List.mem_of_getElem? hix)) (nm hiy) (innerF_wr ok (List.mem_of_getElem? hiy)) hA (fun a h=>Nat.le_trans h0 (hz a h).1) h1 lt₀ hal k hcf r S
      ⟨fun a h=>⟨(zone _ (hz a h).1 (hz a h).2).1,(zone _ (hz a h).1 (hz a h).2).2,Nat.ne_of_lt (Nat.lt_of_lt_of_le (hz a h).2 hD)⟩,aD,mD,W,[],0,gD,VRs.nil⟩ tk
  exact @x_compG X F d q j pq spos (.Tuple [.Name x px,.Name y py] k0 tp) (.Call (.Name "zip" zp) args [] zpos) elt [] [] scope pos own caps is ZipW (srcZ g) (compZF ix iy e) ok hidx src_zip @hsrc @hloop hj hl hsw hs
end
end Mine
end
section
open PySem PySem.W PyProof.Rows PySem.Builtin.Str
set_option tactic.hygienic false
namespace Mine
theorem mul_list' {prog:Program} {w:World} {A:Around} {E:Value→Shared→Prop} {s:Shared} {l:Addr} {items:Array Value} {k:Nat} {x:Int} {u:Tok} {Q:Value→Shared→Prop}
    (hl:s.heap.get? l=some { cls:=.type "list",dict:=none,data:=.seq items k,slots:=#[] })
    (hlo: -(2 ^ 63:Int)≤x) (hhi:x < 2 ^ 63) (hsz:items.size * x.toNat≤2 ^ 24)
    (h:Q (.ref s.heap.objs.size) { s with heap:=s.heap.push { cls:=.type "list",data:=.seq (List.foldl (fun x1 x2=>x1++x2) #[] (List.replicate (if items.isEmpty=true then 0 else x.toNat) items)) } }):
    wpAny (model prog w) A (binaryOp .Mult (.ref l) (.int x u)) Q E s:=
  wpAny_binaryOp_repeat_ref (T:="list") (U:="int") (by decide) ⟨_,hl,rfl⟩ (fun s'=>typeIs_int s' x u) noFill_list_mul F.fills_int_mul F.slot_int_rmul repeat_list F.slot_int_index.lookup
    (call_meets F.slot_int_rmul (typeIs_int s x u) F.entry_int_rmul (F.args_int_rmul_2 _ _) (int___rmul___int_list x u l items k)
      ⟨hl,rfl,⟨_,hl,rfl⟩,call_meets F.slot_list_mul ⟨_,hl,rfl⟩ F.entry_list_mul (F.args_list_mul_2 _ _)
        (AutoListH.list___mul___list_int_3 l items k x u (by simp [Builtin.List.listFitsIndex];lia) (by lia) (by simp [Builtin.List.listTooLong,sizeLine];lia))
        ⟨hl,h⟩⟩)
theorem foldl_rep (vs:List Value):∀(n:Nat) (acc:Array Value),(List.foldl (fun x1 x2=>x1++x2) acc (List.replicate n vs.toArray))=acc++(List.replicate n vs).flatten.toArray
  | 0,acc=>by simp
  | n+1,acc=>by
    rw [List.replicate_succ,List.foldl_cons,foldl_rep vs n,List.replicate_succ,List.flatten_cons]
    simp
section
variable {X:Cx} {F:FI} {d:Nat}
noncomputable def repL:PV→PV→Option PV
  | .list xs,.int n=>if 0≤n∧n < 1000∧xs.length≤1000∧xs≠[] then some (.list (List.replicate n.toNat xs).flatten) else none
  | _,_=>none
theorem VRs.rep {h:Heap} {Av:Addr→Prop} {vs:List Value} {xs:List PV} (x:VRs h Av vs xs):∀n,VRs h Av (List.replicate n vs).flatten (List.replicate n xs).flatten
  | 0=>by simp;exact VRs.nil
  | n+1=>by
    rw [List.replicate_succ,List.replicate_succ,List.flatten_cons,List.flatten_cons]
    exact VRs.append x (x.rep n)
set_option tactic.hygienic true in
theorem s_rep {l r:Expr} {pos:Pos} {f g:EvE} (hl:SoundE X F d l f) (hr:SoundE X F d r g):SoundE X F d (.BinOp l .Mult r pos) (bindE f fun a=>bindE g fun b=>liftE (repL a b)):=by
  refine @SoundT.intro _ _ _ _ _ _ _ _ ?_
  intro A Av Mu env st st' s v Q E hA hf R₀ tk k
  refine bindE_elim hf fun a st1 h1 hf1=>?_
  refine bindE_elim hf1 fun b st2 h2 hf2=>?_
  obtain ⟨h3,e3⟩:=liftE_some hf2
  subst e3
  refine wpAny_BinOp (hl _ hA h1 R₀ tk fun va s1 Av1 Mu1 R1 S1 V1 tk1=>hr _ hA h2 R1 tk1 fun vb s2 Av2 Mu2 R2 S2 V2 tk2=>?_)
  have V1':=V1.step S2.toStep R1.ma
  unfold repL at h3
  split at h3
  case h_2=>cases h3
  rename_i xs n
  split at h3
  case isFalse=>cases h3
  rename_i hc
  cases h3
  unfold VR at V1' V2
  obtain ⟨l,vs,k0,rfl,g,na,z⟩:=V1'
  obtain ⟨u,rfl⟩:=V2
  have hz:=z.length
  have hsz:vs.toArray.size * n.toNat≤2 ^ 24:=by
    rw [List.size_toArray,hz]
    have h1:n.toNat≤1000:=by lia
    exact Nat.le_trans (Nat.mul_le_mul hc.2.2.1 h1) (by decide)
  refine mul_list' g (by lia) (by lia) hsz ?_
  have hne:vs.toArray.isEmpty=false:=by
    have hne:vs≠[]:=by
      intro q
      subst q
      exact hc.2.2.2 (List.eq_nil_of_length_eq_zero hz.symm)
    simpa using hne
  rw [hne,if_neg (by decide),foldl_rep]
  have hpush:=Heap.get?_push_size s2.heap (o:=listObj (List.replicate n.toNat vs).flatten 0) rfl
  have e0:(#[]++(List.replicate n.toNat vs).flatten.toArray:Array Value)=(List.replicate n.toNat vs).flatten.toArray:=by simp
  rw [e0]
  refine k _ _ Av2 Mu2 (R2.grow (Grow.push (s:=s2) (listObj (List.replicate n.toNat vs).flatten 0))) ((S1.trans S2 R₀.lt).trans (StepE.ofGrow (Grow.push (s:=s2) _)) R₀.lt) ?_
  unfold VR
  refine ⟨_,_,_,rfl,hpush,fun q=>absurd (R2.lt _ q) (Nat.lt_irrefl _),?_⟩
  exact (z.rep n.toNat).mono (fun a o e _=>Heap.get?_push_of_some _ e) (fun _ _ q=>q) (by rw [Heap.size_push];exact Nat.le_succ _)
noncomputable def unpF (is:List Nat):PV→EvS:=fun p=>fun st=>match p with
  | .tuple xs=>if xs.length=is.length then (match setEls is (xs.map .froz) st with
    | some st'=>some (.next,st')
    | none=>none) else none
  | _=>none
theorem pend_froz {h:Heap} {Av Mu:Addr→Prop} {lo:Nat}:∀{vs:List Value} {xs:List PV},VRs h Av vs xs→Pend h Av Mu lo vs (xs.map .froz)
  | [],[],_=>.nil
  | [],_::_,x=>by unfold VRs at x;exact x.elim
  | _::_,[],x=>by unfold VRs at x;exact x.elim
  | _::_,_::_,x=>by unfold VRs at x;exact .froz x.1 (pend_froz x.2)
set_option tactic.hygienic true in
theorem x_unpack {elts:List Expr} {k':Nat} {tpos pos:Pos} {value:Expr} {is:List Nat} {xs:List Str} {f:EvE} (h:SoundE X F d value f) (hi:is.map (F.names[·]?)=xs.map some) (hw:∀x∈xs,F.Wr x)
    (hS:∀env,Stores env ((assignEach elts env).map (·.2)) xs) (hlen:∀env,(assignEach elts env).length=is.length) (hstar:∀env,(assignEach elts env).findIdx? (·.1)=none)
    (hsw:∀env:Env,env.scope=F.scope→swappedStores [.Tuple elts k' tpos] value env=pure none)
    (hs:autoParam (∀env,swapsWithSole [.Tuple elts k' tpos] value pos.line env=pure false) Mine.au4._auto_1):
    SoundX X F d (.Assign [.Tuple elts k' tpos] value pos) (bindE f fun p=>unpF is p):=by
  refine @SoundU.intro _ _ _ _ _ _ _ _ ?_
  intro A Av Mu env st st' s v Q E hA hf R₀ tk k
  refine bindE_elim hf fun p st1 h1 hf1=>?_
  unfold unpF at hf1
  split at hf1
  case h_2=>cases hf1
  rename_i ps
  split at hf1
  case isFalse=>cases hf1
  rename_i hl
  split at hf1<;>cases hf1
  rename_i h2
  refine Assign_Tuple (h _ hA h1 R₀ tk fun vt s1 Av1 Mu1 R1 S1 V1 tk1=>?_) (hs env) (hsw env R₀.sc)
  unfold VR at V1
  obtain ⟨t,vs,n,rfl,g,na,z⟩:=V1
  rw [assign_Tuple]
  refine wpAny_bind (wpAny_standAt ?_)
  unfold unpack
  rw [hstar env,hlen env]
  refine wpAny_bind (wpAny_holding (wp_unpackItems hA.1 ⟨_,g,rfl,n,rfl⟩ (by rw [z.length,hl]) fun s2 G=>?_))
  refine storeAll R₀.lt (hS env) hi hw h2 (pend_froz (z.grow G)) (R1.grow G) (S1.toStep.trans (Step.ofGrow G) R₀.lt) fun s3 Av3 Mu3 R3 S3=>k _ _ _ _ R3 S3 trivial
end
end Mine
end
section
open PySem PySem.W PyProof.Rows PySem.Builtin.Str
set_option tactic.hygienic false
namespace Mine
section
variable {X:Cx} {F:FI} {d:Nat}
theorem p_list0 {pos:Pos}:SoundP X F d (.List [] pos) (fun _=>some (.list [])):=by
  intro A Av Mu env st s v Q E hr hf r k'
  cases hf
  refine List_ ?_
  show wpAny _ _ (spliced (backTo pos (starEach [] env))) _ _ _
  refine Calls.spliced_nil ?_
  exact newList_w r.lt VRs.nil (by simp) fun v s' G V=>k' _ _ G V
noncomputable def cmpOwn (op:CmpOp) (i:Nat) (g:St→Option PV):EvB:=fun st=>match st[i]?,g st with
  | some (.own xs),some b=>(match cmpOp op (.list xs) b with
    | some c=>some (c,st)
    | none=>none)
  | some (.froz p),some b=>(match cmpOp op p b with
    | some c=>some (c,st)
    | none=>none)
  | _,_=>none
set_option tactic.hygienic true in
theorem b_cmp_own {op:CmpOp} {x:Str} {p pos:Pos} {r:Expr} {i:Nat} {g:St→Option PV} (hi:F.names[i]? =some x) (hr:SoundP X F d r g) (hm:autoParam (behindInMarks op r=false) Mine.au9._auto_1)
    (hn:autoParam ((x==("__classdict__":Str))=false) Mine.au3._auto_1) (hd:autoParam ((x==("__debug__":Str))=false) Mine.au3._auto_1):SoundB X F d (.Compare (.Name x p) [op] [r] pos) (cmpOwn op i g):=by
  refine @SoundT.intro _ _ _ _ _ _ _ _ ?_
  intro A Av Mu env st st' s v Q E hA hf R₀ tk k
  unfold cmpOwn at hf
  split at hf
  · rename_i xs b e1 e2
    split at hf<;>cases hf
    rename_i c e3
    obtain ⟨Av',Mu',u,r',S,hv,q⟩:=R₀.freeze hi e1
    refine wpAny_isTrue_Compare1 (wpAny_Name (wp_load R₀ hv hn ?_) hd) hm
    refine hr _ hA e2 R₀ fun vb s2 G V=>?_
    have V':VR s2.heap Av' vb b:=V.mono (fun _ _ e _=>e) (fun a l n q=>by
      rcases S.av a q with h | h
      · exact n h
      · exact absurd (r'.lt a q) (Nat.not_lt.mpr h)) (Nat.le_refl _)
    exact cmpOp_w hA e3 (q.grow G) V' (wpAny_truthy_bool (k _ _ Av Mu (R₀.grow G) (StepE.ofGrow G) rfl))
  · rename_i p' b e1 e2
    split at hf<;>cases hf
    rename_i c e3
    obtain ⟨u,hv,q⟩:=R₀.vars i x _ hi e1
    refine wpAny_isTrue_Compare1 (wpAny_Name (wp_load R₀ hv hn ?_) hd) hm
    refine hr _ hA e2 R₀ fun vb s2 G V=>?_
    exact cmpOp_w hA e3 (q.grow G) V (wpAny_truthy_bool (k _ _ Av Mu (R₀.grow G) (StepE.ofGrow G) rfl))
  · cases hf
theorem x_assign' {x:Str} {i:Nat} {pos' pos:Pos} {e:Expr} {f:EvE} (h:SoundE X F d e f) (hi:F.names[i]? =some x) (hl:F.Wr x)
    (hs:∀env:Env,env.scope=F.scope→swapsWith e (some (.Name x pos')) pos.line env=pure false):SoundX X F d (.Assign [.Name x pos'] e pos) (bindE f fun p=>setV i p):=by
  refine @SoundU.intro _ _ _ _ _ _ _ _ ?_
  intro A Av Mu env st st' s v Q E hA hf R₀ tk k
  refine bindE_elim hf fun a st1 h1 hf1=>?_
  cases hf1
  refine wpAny_Assign_Name (h _ hA h1 R₀ tk fun va s1 Av1 Mu1 R1 S1 V1 tk1=>?_) (hs env R₀.sc)
  exact wp_store R1 hi (b:=.froz a) V1 hl fun s2 R2 S2=>k _ _ _ _ R2 (S1.toStep.trans S2 R₀.lt) trivial
theorem ss_skip {c:List Stmt}:SoundS X F d c (fun _=>none):=by
  refine @SoundU.intro _ _ _ _ _ _ _ _ ?_
  intro A Av Mu env st st' s v Q E hA hf R₀ tk k
  cases hf
theorem e_skip {c:Expr}:SoundE X F d c (fun _=>none):=by
  refine @SoundT.intro _ _ _ _ _ _ _ _ ?_
  intro A Av Mu env st st' s v Q E hA hf R₀ tk k
  cases hf
end
noncomputable def KO {α:Type} (f:St→Option (α×St)):Prop:=∀(i:Nat) st st' v,f st=some (v,st')→∀xs,st'[i]? =some (.own xs)→∃ys,st[i]? =some (.own ys)
theorem KO.at {α:Type} {f:St→Option (α×St)} (h:KO f) {i:Nat}:∀st st' v,f st=some (v,st')→∀xs,st'[i]? =some (.own xs)→∃ys,st[i]? =some (.own ys):=h i
theorem ko_pure {α:Type} {a:α}:KO (pureE a):=fun i st st' v h xs e=>by cases h;exact ⟨xs,e⟩
theorem ko_lift {α:Type} {a:Option α}:KO (liftE a):=fun i st st' v h xs e=>by obtain ⟨_,h⟩:=liftE_some h;subst h;exact ⟨xs,e⟩
theorem ko_bind {α β:Type} {f:St→Option (α×St)} {g:α→St→Option (β×St)} (hf:KO f) (hg:∀a,KO (g a)):KO (bindE f g):=fun i st st' v h xs e=>by
  refine bindE_elim h fun a st1 h1 h2=>?_
  obtain ⟨ys,e2⟩:=hg a i _ _ _ h2 xs e
  exact hf i _ _ _ h1 ys e2
theorem ko_getV {j:Nat}:KO (getV j):=fun i st st' v h xs e=>by
  unfold getV at h
  split at h
  · cases h;exact ⟨xs,e⟩
  · cases h
    rcases get_set e with ⟨_,e2⟩ | ⟨_,e2⟩
    · cases e2
    · exact ⟨xs,e2⟩
  · cases h
theorem ko_ofP {f:St→Option PV}:KO (ofP f):=fun i st st' v h xs e=>by obtain ⟨_,h⟩:=ofP_some h;subst h;exact ⟨xs,e⟩
theorem ko_capF:∀is:List Nat,KO (capF is)
  | []=>ko_pure
  | i::is=>ko_bind ko_getV fun _=>ko_bind (ko_capF is) fun _=>ko_pure
noncomputable def compCheck (Fs scope:Scope) (own caps:List Str):Bool:=
  (scope.kind==.function)&&decide ((scope.names.map (·.1)).Nodup)&&own.all (fun x=>scope.names.lookup x==some .local||scope.names.lookup x==some .cell)&&
  caps.all (fun x=>scope.names.lookup x==some .free)&&scope.names.all (fun p=>p.2 != .free||caps.contains p.1)&&caps.all (fun x=>Fs.names.lookup x==some .cell||Fs.names.lookup x==some .free)&&decide ((own++caps).Nodup)
theorem compOK_of {F:FI} {scope:Scope} {own caps:List Str} (h:compCheck F.scope scope own caps=true):CompOK F scope own caps:=by
  unfold compCheck at h
  simp only [Bool.and_eq_true,decide_eq_true_eq,List.all_eq_true,Bool.or_eq_true,beq_iff_eq,bne_iff_ne,List.contains_iff_mem] at h
  obtain ⟨⟨⟨⟨⟨⟨h1,h2⟩,h3⟩,h4⟩,h5⟩,h6⟩,h7⟩:=h
  exact ⟨h1,h2,h3,h4,fun p hp hf=>(h5 p hp).resolve_left fun q=>q hf,h6,h7⟩
theorem boot_range:bootBuiltins (PySem.Str.ofString "range")=some (.type "range"):=by kernel_rfl
theorem boot_sum:bootBuiltins (PySem.Str.ofString "sum")=some (.builtin "sum"):=by kernel_rfl
theorem boot_chr:bootBuiltins (PySem.Str.ofString "chr")=some (.builtin "chr"):=by kernel_rfl
theorem boot_ord:bootBuiltins (PySem.Str.ofString "ord")=some (.builtin "ord"):=by kernel_rfl
theorem boot_object:bootBuiltins (PySem.Str.ofString "object")=some (.type "object"):=by kernel_rfl
structure Glo (X:Cx):Prop where
  len:X.mg (PySem.Str.ofString "len")=none
  range:X.mg (PySem.Str.ofString "range")=none
  sum:X.mg (PySem.Str.ofString "sum")=none
  chr:X.mg (PySem.Str.ofString "chr")=none
  ord:X.mg (PySem.Str.ofString "ord")=none
  min:X.mg (PySem.Str.ofString "min")=none
  zip:X.mg (PySem.Str.ofString "zip")=none
  object:X.mg (PySem.Str.ofString "object")=none
  isinstance:X.mg (PySem.Str.ofString "isinstance")=none
  str:X.mg (PySem.Str.ofString "str")=none
  bytes:X.mg (PySem.Str.ofString "bytes")=none
  int:X.mg (PySem.Str.ofString "int")=none
noncomputable def bodyAt (p:Program) (i:Nat):List Stmt:=match p.main.body[i]? with
  | some (.FunctionDef _ _ b _ _ _ _ _ _ _)=>b
  | _=>[]
noncomputable def scopeAt (p:Program) (i:Nat):Scope:=match p.main.body[i]? with
  | some (.FunctionDef _ _ _ _ _ _ s _ _ _)=>s
  | _=>default
end Mine
end
section
open PySem PySem.W PyProof.Rows
set_option tactic.hygienic false
namespace Mine
noncomputable def paramsAt (p:Program) (i:Nat):Arguments:=match p.main.body[i]? with
  | some (.FunctionDef _ a _ _ _ _ _ _ _ _)=>a
  | _=>{ posonlyargs:=[],args:=[],vararg:=none,kwonlyargs:=[],kw_defaults:=[],kwarg:=none,defaults:=[] }
noncomputable abbrev fnData (nm:Str) (P:Program) (i:Nat) (c:Addr) (pm:Value):FuncData:=
  { name:=nm,qualname:=nm,params:=paramsAt P i,body:=.stmts (bodyAt P i),scope:=scopeAt P i,globals:=mainGlobals,closure:=[],defaults:=.none,kwdefaults:=.none,pyModule:=pm,code:=.ref c }
noncomputable def fnCheck (scope:Scope) (names:List Str):Bool:=
  decide names.Nodup&&names.all (fun x=>scope.names.lookup x==some .local||scope.names.lookup x==some .cell)&& !scope.isCoroutine&& !scope.isGenerator&&(scope.kind==.function)
theorem fnOK_of {X:Cx} {K:Frag} (KB:K.In X.B) {nm:Str} {P:Program} {i:Nat} {c fa:Addr} {pm:Value} (hK:K.lookup fa=some { cls:=.type "function",data:=.func (fnData nm P i c pm) }) (hc:codeIn K (.ref c) nm=true)
    {ps names:List Str} (hb:∀vals:List Value,vals.length=ps.length→bindArgs (fnData nm P i c pm) ⟨vals,[]⟩=pure (ps.zip vals)) (hpre:∃rest,names=ps++rest) (hchk:fnCheck (scopeAt P i) names=true):
    FnOK X fa (fnData nm P i c pm) (bodyAt P i) ps names:=by
  unfold fnCheck at hchk
  simp only [Bool.and_eq_true,decide_eq_true_eq,List.all_eq_true,Bool.or_eq_true,beq_iff_eq,Bool.not_eq_true'] at hchk
  obtain ⟨⟨⟨⟨h1,h2⟩,h3⟩,h4⟩,h5⟩:=hchk
  exact ⟨⟨_,KB _ _ hK,rfl⟩,codeRec_of KB hc,rfl,rfl,rfl,rfl,hb,hpre,h1,h2,h3,h4,h5⟩
theorem fn_there {X:Cx} {K:Frag} (KB:K.In X.B) {nm:Str} {P:Program} {i:Nat} {c fa:Addr} {pm:Value} (hK:K.lookup fa=some { cls:=.type "function",data:=.func (fnData nm P i c pm) }):∃o fd,X.B.get? fa=some o∧o.data=.func fd:=
  ⟨_,_,KB _ _ hK,rfl⟩
noncomputable abbrev cxOf (prog:Program) (w:World) {p:Program} {loose:List Str} {mean:ExcName→Option Value} {mg mb:Str→Option Value} {h:Heap} (T:Top p loose mean mg mb h) {tabs:List (Addr×Addr)} (hT:TabsAt tabs h) (nb:NoneBooked (ghostOf h tabs)) (tq:Addr→Nat→Nat→Str):Cx where
  prog:=prog
  w:=w
  B:=ghostOf h tabs
  mg:=mg
  mb:=mb
  g:=ghost_ns hT T.g
  b:=ghost_ns hT T.b
  bb:=T.builtins
  nolimit:=let ⟨mc,a,r⟩:=T.nolimit;⟨mc,ghost_ns hT a,r⟩
  nb:=nb
  Tb:=fun a=>a∈tabs.map (·.2)
  tq:=tq
theorem booked_of {p:Program} {loose:List Str} {mean:ExcName→Option Value} {mg mb:Str→Option Value} {h:Heap} (T:Top p loose mean mg mb h) {tabs:List (Addr×Addr)} (hT:TabsAt tabs h) {K:Frag} (KX:K.In h) (hK:nsIn K cStatics sharingNotToldKey=some none):NoneBooked (ghostOf h tabs):=by
  obtain ⟨mc,a,r⟩:=T.nolimit
  exact ⟨mc,ghost_ns hT a,ns_none_of KX a hK⟩
theorem well_ints {P:Params} {h:Heap}:∀{ns:List Int} {vs:List Value},WellAll P h vs (ns.map WData.int)→VRs h (fun _=>False) vs (ns.map .int)
  | [],vs,x=>by cases x;unfold VRs;trivial
  | i::ns,vs,x=>by
    rw [List.map_cons] at x ⊢
    cases x with
    | cons x y=>
      cases x
      unfold VRs
      exact ⟨VR.int',well_ints y⟩
theorem ofPys_ints:∀ns:List Int,ofPys (ns.map PyData.int)=ns.map WData.int
  | []=>rfl
  | i::ns=>by
    rw [List.map_cons,List.map_cons]
    show WData.int i::ofPys (ns.map PyData.int)=_
    rw [ofPys_ints ns]
theorem ints_laid {P:Params} {h:Heap} {Av:Addr→Prop} {v:Value} {ns:List Int} (x:Well P h v (ofPy (.list (ns.map .int)))) (hA:∀a vs n,v=.ref a→h.get? a=some (listObj vs n)→¬ Av a):VR h Av v (.list (ns.map .int)):=by
  have e:ofPy (.list (ns.map .int))=.list (ns.map WData.int):=by
    show WData.list (ofPys _)=_
    rw [ofPys_ints]
  rw [e] at x
  cases x with
  | list g y=>
    unfold VR
    exact ⟨_,_,0,rfl,g,hA _ _ _ rfl g,VRs_int_av (well_ints y)⟩
theorem law_end {prog:Program} {w:World} {p:Program} {loose:List Str} {mean:ExcName→Option Value} {mg mb:Str→Option Value} {s₁:Shared} (T:Top p loose mean mg mb s₁.heap) {tabs:List (Addr×Addr)} (hT:TabsAt tabs s₁.heap) (nb:NoneBooked (ghostOf s₁.heap tabs)) (tq:Addr→Nat→Nat→Str)
    {fa:Addr} {fd:FuncData} {body:List Stmt} {pn:Str} {names:List Str} {d:Nat} {m:List PV→Option PV} (ok:FnOK (cxOf prog w T hT nb tq) fa fd body [pn] names) (hb:SoundR (cxOf prog w T hT nb tq) ⟨fd.scope,names,[],fd.code,fd.qualname++".<locals>."⟩ d names.length body m)
    (hp:fd.scope.names.lookup pn=some .local) (hd:d≤17) {v:Value} {ns:List Int} (hw:Well w.params s₁.heap v (ofPy (.list (ns.map .int)))) (hm:m [.list (ns.map .int)]=some (.bool true)) (hg:s₁.gens=#[])
    {c:ClaimW} {cl:Str→Option Addr} {mean':ExcName→Option Value} {args:List WData} (hn:∀cls,c.raises args cls=false) (hpost:c.post args (.bool true) args=true):
    codeAny (model prog w) callerA (.call (.ref fa) ⟨[v],[]⟩) (GoodWG c cl mean' args s₁) s₁:=by
  have tabEq:∀a,a∈tabs.map (·.2)→s₁.heap.get? a=some (tabObj #[]):=fun a h=>by
    obtain ⟨q,hq,rfl⟩:=List.mem_map.mp h
    exact (hT q hq).2
  have hpre:Pre (cxOf prog w T hT nb tq) (fun a=>a∈tabs.map (·.2)) s₁:=by
    refine ⟨fun b o e=>?_,fun a t=>⟨t,#[],tabEq a t,trivial,fun pos cv h=>by cases h⟩,fun a t=>Heap.lt_size (tabEq a t)⟩
    have e1:=of_hideAll _ e
    refine ⟨e1,fun t=>?_⟩
    have:=hideAll_none (h:=s₁.heap) (l:=tabs.map (·.2)) t
    rw [show (ghostOf s₁.heap tabs).get? b=some o from e] at this
    cases this
  have hroom:Room (d+1) callerA:=by
    refine ⟨rfl,?_,?_⟩
    · have:callerA.depth=301:=rfl
      lia
    · have:callerA.units=4:=rfl
      lia
  refine callG (X:=cxOf prog w T hT nb tq) (s:=s₁) (as:=[.list (ns.map .int)]) ok hb hroom (r:=.bool true) ((if_pos rfl).trans hm) hpre (.inr ⟨pn,rfl,hp⟩) (VRs.cons (ints_laid hw fun a vs n e1 e2 t=>by rw [tabEq a t] at e2;cases e2) VRs.nil) fun v' s' P=>?_
  have hv:=P.val
  unfold VR at hv
  subst hv
  refine ⟨.inl ⟨.bool true,.bool true,[],rfl,hn,.bool true,hpost,unshared_nil⟩,⟨fun b o e=>?_,fun b o e=>?_⟩,P.os,P.gens (.of_eq hg)⟩
  · by_cases hb':b∈tabs.map (·.2)
    · obtain ⟨q,hq,rfl⟩:=List.mem_map.mp hb'
      have e2:=(hT q hq).2
      rw [e] at e2
      cases e2
      obtain ⟨ps,hP,_⟩:=P.tabs q.2 hb'
      exact .inr (.inl ⟨((hT q hq).1.tab (hT q hq).2).isCodeTable,rfl,#[],ps,rfl,by rw [Array.empty_append];exact hP⟩)
    · exact .inl (P.keep b o e hb')
  · by_cases hb':b∈tabs.map (·.2)
    · obtain ⟨ps,hP,_⟩:=P.tabs b hb'
      exact ⟨_,hP⟩
    · exact ⟨o,P.keep b o e hb'⟩
end Mine
namespace Mine
theorem make_bi {p:Program} {loose:List Str} {mean:ExcName→Option Value} {mg mb:Str→Option Value} {h:Heap} (T:Top p loose mean mg mb h) {tabs:List (Addr×Addr)} (hT:TabsAt tabs h):
    ∃bm o,mg "__builtins__"=some (.ref bm)∧bm≠builtinsNs∧bm≠mainGlobals∧(ghostOf h tabs).get? bm=some o∧o.cls=.type "module"∧o.dict=some builtinsNs∧o.data=.plain:=by
  obtain ⟨bm,ob,b1,b2,b3,b4,b5,b6⟩:=T.bmain
  refine ⟨bm,ob,b1,b2,fun q=>?_,ghost_get hT b3 (fun q=>by rw [q] at b4;cases b4),b4,b5,b6⟩
  obtain ⟨o,es,ep,e,hd,_⟩:=T.g
  rw [q,e] at b3;cases b3;rw [hd] at b6;cases b6
end Mine
end
section
open PySem PySem.W PyProof.Rows PySem.Builtin.Str
set_option tactic.hygienic false
namespace Mine
noncomputable abbrev P2:Program:=PySem.Challenge.pw_ij0201_02
end Mine
end
section
open PySem PySem.W PyProof.Rows
set_option Elab.async false
set_option tactic.hygienic false
namespace Mine
noncomputable def K0:Params→Frag:=fun P=>[
  (2,{ cls:=Value.none,data:=Data.dict #[{ hash:=PyData.keyHash P (Str.ofString "\x69mport.loaded._sre"),key:=Value.str (Str.ofString "\x69mport.loaded._sre") 183,val:=Value.bool true },{ hash:=PyData.keyHash P (Str.ofString "class._frozen_\x69mportlib.BuiltinImporter"),key:=Value.str (Str.ofString "class._frozen_\x69mportlib.BuiltinImporter") 185,val:=Value.ref 14 },{ hash:=PyData.keyHash P (Str.ofString "watched.\x69mport"),key:=Value.str (Str.ofString "watched.\x69mport") 206,val:=Value.ref 18 },{ hash:=PyData.keyHash P (Str.ofString "class._frozen_\x69mportlib.ModuleSpec"),key:=Value.str (Str.ofString "class._frozen_\x69mportlib.ModuleSpec") 216,val:=Value.ref 22 },{ hash:=PyData.keyHash P (Str.ofString "sys.modules.booked-epoch"),key:=Value.str (Str.ofString "sys.modules.booked-epoch") 245,val:=Value.int 3 0 },{ hash:=PyData.keyHash P (Str.ofString "\x69mport.later-laid._sre"),key:=Value.str (Str.ofString "\x69mport.later-laid._sre") 270,val:=Value.bool true },{ hash:=PyData.keyHash P (Str.ofString "watched.library"),key:=Value.str (Str.ofString "watched.library") 272,val:=Value.ref 27 },{ hash:=PyData.keyHash P (Str.ofString "watched.library-objects"),key:=Value.str (Str.ofString "watched.library-objects") 0,val:=Value.str (Str.ofString "\x0c") 0 },{ hash:=PyData.keyHash P (Str.ofString "watched.library-deep._sre"),key:=Value.str (Str.ofString "watched.library-deep._sre") 273,val:=Value.str (Str.ofString "\x04\x00\x00\x0b\x04\x00\x00\x0b\x04\x00\x00\x03\x04\x00\x00\x0b\x08\x04dict\x02") 0 }] 9 }),
  (3,{ cls:=Value.type "dict",data:=Data.dict #[{ hash:=PyData.keyHash P (Str.ofString "__name__"),key:=Value.str (Str.ofString "__name__") 165,val:=Value.str (Str.ofString "law_ij0201_02") 550 },{ hash:=PyData.keyHash P (Str.ofString "__doc__"),key:=Value.str (Str.ofString "__doc__") 166,val:=Value.none },{ hash:=PyData.keyHash P (Str.ofString "__package__"),key:=Value.str (Str.ofString "__package__") 167,val:=Value.none },{ hash:=PyData.keyHash P (Str.ofString "__loader__"),key:=Value.str (Str.ofString "__loader__") 168,val:=Value.builtin "__main__.__loader__#opaque" },{ hash:=PyData.keyHash P (Str.ofString "__spec__"),key:=Value.str (Str.ofString "__spec__") 169,val:=Value.none },{ hash:=PyData.keyHash P (Str.ofString "__annotations__"),key:=Value.str (Str.ofString "__annotations__") 170,val:=Value.ref 6 },{ hash:=PyData.keyHash P (Str.ofString "__builtins__"),key:=Value.str (Str.ofString "__builtins__") 171,val:=Value.ref 4 },{ hash:=PyData.keyHash P (Str.ofString "__file__"),key:=Value.str (Str.ofString "__file__") 173,val:=Value.str (Str.ofString "/claim/cut.py") 172 },{ hash:=PyData.keyHash P (Str.ofString "__cached__"),key:=Value.str (Str.ofString "__cached__") 174,val:=Value.none },{ hash:=PyData.keyHash P (Str.ofString "_sre"),key:=Value.str (Str.ofString "_sre") 275,val:=Value.ref 12 },{ hash:=PyData.keyHash P (Str.ofString "_twin_re_1"),key:=Value.str (Str.ofString "_twin_re_1") 321,val:=Value.ref 36 },{ hash:=PyData.keyHash P (Str.ofString "translate"),key:=Value.str (Str.ofString "translate") 330,val:=Value.ref 43 },{ hash:=PyData.keyHash P (Str.ofString "_special_chars_map"),key:=Value.str (Str.ofString "_special_chars_map") 478,val:=Value.ref 45 },{ hash:=PyData.keyHash P (Str.ofString "escape"),key:=Value.str (Str.ofString "escape") 485,val:=Value.ref 55 },{ hash:=PyData.keyHash P (Str.ofString "_translate"),key:=Value.str (Str.ofString "_translate") 506,val:=Value.ref 62 },{ hash:=PyData.keyHash P (Str.ofString "_join_translated_parts"),key:=Value.str (Str.ofString "_join_translated_parts") 519,val:=Value.ref 69 },{ hash:=PyData.keyHash P (Str.ofString "read_uint1"),key:=Value.str (Str.ofString "read_uint1") 529,val:=Value.ref 76 },{ hash:=PyData.keyHash P (Str.ofString "decode_long"),key:=Value.str (Str.ofString "decode_long") 538,val:=Value.ref 83 },{ hash:=PyData.keyHash P (Str.ofString "read_long1"),key:=Value.str (Str.ofString "read_long1") 549,val:=Value.ref 90 },{ hash:=PyData.keyHash P (Str.ofString "_law_number"),key:=Value.str (Str.ofString "_law_number") 562,val:=Value.ref 97 },{ hash:=PyData.keyHash P (Str.ofString "_law_bracket"),key:=Value.str (Str.ofString "_law_bracket") 579,val:=Value.ref 104 },{ hash:=PyData.keyHash P (Str.ofString "_law_set"),key:=Value.str (Str.ofString "_law_set") 592,val:=Value.ref 111 },{ hash:=PyData.keyHash P (Str.ofString "_law_sets"),key:=Value.str (Str.ofString "_law_sets") 598,val:=Value.ref 116 },{ hash:=PyData.keyHash P (Str.ofString "law"),key:=Value.str (Str.ofString "law") 604,val:=Value.ref 121 }] 24 }),
  (35,{ cls:=Value.type "tuple",data:=Data.seq #[Value.int 14 0,Value.int 14 0,Value.int 4 0,Value.int 1 0,Value.int 1 0,Value.int 9 0,Value.int 0 0,Value.int 64 0,Value.int 0 0,Value.int 1342177280 0,Value.int 0 0,Value.int 0 0,Value.int 0 0,Value.int 0 0,Value.int 0 0,Value.int 17 0,Value.int 0 0,Value.int 13 0,Value.int 11 0,Value.int 9 0,Value.int 0 0,Value.int 64 0,Value.int 0 0,Value.int 1342177280 0,Value.int 0 0,Value.int 0 0,Value.int 0 0,Value.int 0 0,Value.int 0 0,Value.int 17 0,Value.int 1 0,Value.int 1 0] }),
  (36,{ cls:=Value.type "re.Pattern",data:=Data.fields #[Value.str (Str.ofString "([&~|])") 285,Value.int 32 320,Value.int 1 0,Value.none,Value.none,Value.ref 35,Value.int 0 0] }),
  (42,{ cls:=Value.type "code",data:=Data.fields #[Value.str (Str.ofString "translate") 322,Value.str (Str.ofString "translate") 323,Value.str (Str.ofString "/claim/cut.py") 324,Value.int 4 0,Value.int 1 0,Value.int 0 0,Value.int 0 0,Value.int 3 0,Value.ref 37,Value.bool true,Value.int 276 0,Value.ref 38,Value.none,Value.ref 39,Value.ref 40,Value.ref 41,Value.int 328 0,Value.int 4 0,Value.str (Str.ofString "/claim/cut.py") 329] }),
  (43,{ cls:=.type "function",data:=.func (fnData "translate" P2 3 42 (Value.str (Str.ofString "cpy313.fnmatch") 282)) }),
  (61,{ cls:=Value.type "code",data:=Data.fields #[Value.str (Str.ofString "_translate") 488,Value.str (Str.ofString "_translate") 489,Value.str (Str.ofString "/claim/cut.py") 490,Value.int 17 0,Value.int 3 0,Value.int 0 0,Value.int 0 0,Value.int 3 0,Value.ref 56,Value.bool true,Value.int 276 0,Value.ref 57,Value.none,Value.ref 58,Value.ref 59,Value.ref 60,Value.int 504 0,Value.int 17 0,Value.str (Str.ofString "/claim/cut.py") 505] }),
  (62,{ cls:=.type "function",data:=.func (fnData "_translate" P2 8 61 (Value.str (Str.ofString "cpy313.fnmatch") 486)) }),
  (68,{ cls:=Value.type "code",data:=Data.fields #[Value.str (Str.ofString "_join_translated_parts") 507,Value.str (Str.ofString "_join_translated_parts") 508,Value.str (Str.ofString "/claim/cut.py") 509,Value.int 79 0,Value.int 2 0,Value.int 0 0,Value.int 0 0,Value.int 3 0,Value.ref 63,Value.bool true,Value.int 276 0,Value.ref 64,Value.none,Value.ref 65,Value.ref 66,Value.ref 67,Value.int 517 0,Value.int 79 0,Value.str (Str.ofString "/claim/cut.py") 518] }),
  (69,{ cls:=.type "function",data:=.func (fnData "_join_translated_parts" P2 9 68 (Value.str (Str.ofString "cpy313.fnmatch") 486)) }),
  (75,{ cls:=Value.type "code",data:=Data.fields #[Value.str (Str.ofString "read_uint1") 522,Value.str (Str.ofString "read_uint1") 523,Value.str (Str.ofString "/claim/cut.py") 524,Value.int 107 0,Value.int 1 0,Value.int 0 0,Value.int 0 0,Value.int 3 0,Value.ref 70,Value.bool true,Value.int 276 0,Value.ref 71,Value.none,Value.ref 72,Value.ref 73,Value.ref 74,Value.int 527 0,Value.int 107 0,Value.str (Str.ofString "/claim/cut.py") 528] }),
  (76,{ cls:=.type "function",data:=.func (fnData "read_uint1" P2 11 75 (Value.str (Str.ofString "cpy313.pickletools") 520)) }),
  (82,{ cls:=Value.type "code",data:=Data.fields #[Value.str (Str.ofString "decode_long") 532,Value.str (Str.ofString "decode_long") 533,Value.str (Str.ofString "/claim/cut.py") 534,Value.int 113 0,Value.int 1 0,Value.int 0 0,Value.int 0 0,Value.int 3 0,Value.ref 77,Value.bool true,Value.int 276 0,Value.ref 78,Value.none,Value.ref 79,Value.ref 80,Value.ref 81,Value.int 536 0,Value.int 113 0,Value.str (Str.ofString "/claim/cut.py") 537] }),
  (83,{ cls:=.type "function",data:=.func (fnData "decode_long" P2 13 82 (Value.str (Str.ofString "pickle") 530)) }),
  (89,{ cls:=Value.type "code",data:=Data.fields #[Value.str (Str.ofString "read_long1") 541,Value.str (Str.ofString "read_long1") 542,Value.str (Str.ofString "/claim/cut.py") 543,Value.int 116 0,Value.int 1 0,Value.int 0 0,Value.int 0 0,Value.int 3 0,Value.ref 84,Value.bool true,Value.int 276 0,Value.ref 85,Value.none,Value.ref 86,Value.ref 87,Value.ref 88,Value.int 547 0,Value.int 116 0,Value.str (Str.ofString "/claim/cut.py") 548] }),
  (90,{ cls:=.type "function",data:=.func (fnData "read_long1" P2 15 89 (Value.str (Str.ofString "cpy313.pickletools") 539)) }),
  (96,{ cls:=Value.type "code",data:=Data.fields #[Value.str (Str.ofString "_law_number") 552,Value.str (Str.ofString "_law_number") 553,Value.str (Str.ofString "/claim/cut.py") 554,Value.int 123 0,Value.int 1 0,Value.int 0 0,Value.int 0 0,Value.int 3 0,Value.ref 91,Value.bool true,Value.int 276 0,Value.ref 92,Value.none,Value.ref 93,Value.ref 94,Value.ref 95,Value.int 560 0,Value.int 123 0,Value.str (Str.ofString "/claim/cut.py") 561] }),
  (97,{ cls:=.type "function",data:=.func (fnData "_law_number" P2 17 96 (Value.str (Str.ofString "law_ij0201_02") 550)) }),
  (103,{ cls:=Value.type "code",data:=Data.fields #[Value.str (Str.ofString "_law_bracket") 563,Value.str (Str.ofString "_law_bracket") 564,Value.str (Str.ofString "/claim/cut.py") 565,Value.int 132 0,Value.int 2 0,Value.int 0 0,Value.int 0 0,Value.int 3 0,Value.ref 98,Value.bool true,Value.int 276 0,Value.ref 99,Value.none,Value.ref 100,Value.ref 101,Value.ref 102,Value.int 577 0,Value.int 132 0,Value.str (Str.ofString "/claim/cut.py") 578] }),
  (104,{ cls:=.type "function",data:=.func (fnData "_law_bracket" P2 18 103 (Value.str (Str.ofString "law_ij0201_02") 550)) }),
  (110,{ cls:=Value.type "code",data:=Data.fields #[Value.str (Str.ofString "_law_set") 580,Value.str (Str.ofString "_law_set") 581,Value.str (Str.ofString "/claim/cut.py") 582,Value.int 152 0,Value.int 2 0,Value.int 0 0,Value.int 0 0,Value.int 3 0,Value.ref 105,Value.bool true,Value.int 276 0,Value.ref 106,Value.none,Value.ref 107,Value.ref 108,Value.ref 109,Value.int 590 0,Value.int 152 0,Value.str (Str.ofString "/claim/cut.py") 591] }),
  (111,{ cls:=.type "function",data:=.func (fnData "_law_set" P2 19 110 (Value.str (Str.ofString "law_ij0201_02") 550)) }),
  (115,{ cls:=Value.type "code",data:=Data.fields #[Value.str (Str.ofString "_law_sets") 593,Value.str (Str.ofString "_law_sets") 594,Value.str (Str.ofString "/claim/cut.py") 595,Value.int 163 0,Value.int 2 0,Value.int 0 0,Value.int 0 0,Value.int 3 0,Value.ref 112,Value.bool true,Value.int 276 0,Value.ref 113,Value.none,Value.none,Value.none,Value.ref 114,Value.int 596 0,Value.int 163 0,Value.str (Str.ofString "/claim/cut.py") 597] }),
  (116,{ cls:=.type "function",data:=.func (fnData "_law_sets" P2 20 115 (Value.str (Str.ofString "law_ij0201_02") 550)) }),
  (120,{ cls:=Value.type "code",data:=Data.fields #[Value.str (Str.ofString "law") 599,Value.str (Str.ofString "law") 600,Value.str (Str.ofString "/claim/cut.py") 601,Value.int 177 0,Value.int 1 0,Value.int 0 0,Value.int 0 0,Value.int 3 0,Value.ref 117,Value.bool true,Value.int 276 0,Value.ref 118,Value.none,Value.none,Value.none,Value.ref 119,Value.int 602 0,Value.int 177 0,Value.str (Str.ofString "/claim/cut.py") 603] }),
  (121,{ cls:=.type "function",data:=.func (fnData "law" P2 21 120 (Value.str (Str.ofString "law_ij0201_02") 550)) })
]
noncomputable abbrev as0:List Addr:=[2,3,35,36,42,43,61,62,68,69,75,76,82,83,89,90,96,97,103,104,110,111,115,116,120,121]
noncomputable abbrev view0:Program:=view P2 [0,21]
noncomputable abbrev loose0:List Str:=[Str.ofString "translate",Str.ofString "escape",Str.ofString "_translate",Str.ofString "_join_translated_parts",Str.ofString "read_uint1",Str.ofString "decode_long",Str.ofString "read_long1",Str.ofString "_law_number",Str.ofString "_law_bracket",Str.ofString "_law_set",Str.ofString "_law_sets",Str.ofString "_twin_re_1",Str.ofString "_special_chars_map"]
noncomputable abbrev hook0:Hook:=kmHook K0 as0 (fun _=>by kernel_rfl) [92,57]
set_option maxHeartbeats 8000000 in
theorem left0:LeftO P2 view0 loose0 (fun s=>xlAt view0 [] s&&recOk [] s) (Hook.obs hook0) (Hook.val hook0) 3688:=by
  refine byRow2 "comprehension-iter-twice" ?_ ?_<;>refine byRow2 "special-get-raises" ?_ ?_<;>
  (intro w
   unfold openEnds fencedOpening topFrom view0 P2
   rw [PySem.W.Fast.te10274390034422433532,PySem.W.Fast.te14289696077712309145,PySem.W.Fast.te14082659384304107361,PySem.W.Fast.te1435165496053646825,PySem.W.Fast.te14364793385576792824,PySem.W.Fast.te4187177175401517315]
   kernel_rfl)
end Mine
end
section
open PySem PySem.W PyProof.Rows PySem.Builtin.Str
set_option tactic.hygienic false
namespace Mine
noncomputable abbrev FBracket (cd:Value) (ql:Str):FI:=⟨scopeAt P2 18,["octets","base","barred","told","place","front","middle","back","k","size","sign"].map PySem.Str.ofString,[],cd,ql⟩
namespace WBracket
theorem F_barred (cd:Value) (ql:Str):(FBracket cd ql).Wr (PySem.Str.ofString "barred"):=⟨(fun h=>nomatch h),.inl (by kernel_rfl)⟩
theorem F_told (cd:Value) (ql:Str):(FBracket cd ql).Wr (PySem.Str.ofString "told"):=⟨(fun h=>nomatch h),.inl (by kernel_rfl)⟩
theorem F_place (cd:Value) (ql:Str):(FBracket cd ql).Wr (PySem.Str.ofString "place"):=⟨(fun h=>nomatch h),.inl (by kernel_rfl)⟩
theorem F_front (cd:Value) (ql:Str):(FBracket cd ql).Wr (PySem.Str.ofString "front"):=⟨(fun h=>nomatch h),.inl (by kernel_rfl)⟩
theorem F_middle (cd:Value) (ql:Str):(FBracket cd ql).Wr (PySem.Str.ofString "middle"):=⟨(fun h=>nomatch h),.inl (by kernel_rfl)⟩
theorem F_back (cd:Value) (ql:Str):(FBracket cd ql).Wr (PySem.Str.ofString "back"):=⟨(fun h=>nomatch h),.inl (by kernel_rfl)⟩
theorem F_k (cd:Value) (ql:Str):(FBracket cd ql).Wr (PySem.Str.ofString "k"):=⟨(fun h=>nomatch h),.inl (by kernel_rfl)⟩
theorem F_size (cd:Value) (ql:Str):(FBracket cd ql).Wr (PySem.Str.ofString "size"):=⟨(fun h=>nomatch h),.inl (by kernel_rfl)⟩
theorem F_sign (cd:Value) (ql:Str):(FBracket cd ql).Wr (PySem.Str.ofString "sign"):=⟨(fun h=>nomatch h),.inl (by kernel_rfl)⟩
set_option maxHeartbeats 4000000 in
noncomputable def bracketS {X:Cx} {d:Nat} {cd:Value} {ql:Str} (G:Glo X):{ g:EvS // SoundS X (FBracket cd ql) d (bodyAt P2 18) g }:=by
  apply Subtype.mk
  apply s_cons
  exact (x_assign (i:=2) (s_gtl (s_slice (s_name (i:=0) rfl) (pt_some (s_ofP p_neg)) pt_none pt_none) (s_list (es_cons s_int es_nil))) rfl (F_barred cd ql))
  apply s_cons
  exact (x_own (i:=3) es_nil rfl (F_told cd ql))
  apply s_cons
  exact (x_for (i:=4) (s_callt (es_cons (s_bin s_int (s_ofP (p_len (i:=0) rfl rfl (by kernel_rfl) G.len))) es_nil) f_range (by kernel_rfl) G.range boot_range)
 (s_cons (x_if (b_cmp (s_cmp (s_bin (s_bin (s_item (s_name (i:=0) rfl) (s_bin (s_name (i:=4) rfl) s_int)) (s_bin s_int (s_bin (s_name (i:=4) rfl) s_int))) s_int) s_int) (s_name (i:=2) rfl))
 (s_cons (x_append (i:=3) (s_callb (es_cons (s_bin (s_name (i:=1) rfl) (s_name (i:=4) rfl)) es_nil) f_chr (by kernel_rfl) G.chr boot_chr) rfl (KO.at (by repeat' first | exact ko_getV | exact ko_pure | exact ko_lift | exact ko_ofP | exact ko_nameT | exact ko_capF _ | exact ko_cmpOwn | apply ko_bind | apply ko_ite | intro _)))
 s_nil)
 s_nil)
 s_nil) rfl (F_place cd ql))
  apply s_cons
  exact (x_tup (is:=[5,6,7,8]) (xs:=["front","middle","back","k"]) (vs_froz (s_ifexp (b_name (i:=2) rfl) s_str s_str) (vs_froz (s_ifexp (b_cmp (s_name (i:=3) rfl) (s_list es_nil)) s_str s_str) (vs_froz s_str (vs_froz s_int vs_nil)))) rfl (fun x hx=>by simp only [List.mem_cons,List.not_mem_nil,or_false] at hx;rcases hx with rfl | rfl | rfl | rfl;exact (F_front cd ql);exact (F_middle cd ql);exact (F_back cd ql);exact (F_k cd ql)) (fun env=>(.cons (fun h=>wpAny_assign_Name h) (.cons (fun h=>wpAny_assign_Name h) (.cons (fun h=>wpAny_assign_Name h) (.cons (fun h=>wpAny_assign_Name h) .nil))))) (fun _=>rfl) (fun _=>by rfl) (fun env h=>by obtain ⟨⟩:=env;cases h;kernel_rfl))
  apply s_cons
  exact (x_while 1000 (b_cmp (s_name (i:=8) rfl) (s_ofP (p_len (i:=3) rfl rfl (by kernel_rfl) G.len)))
 (s_cons (x_assign (i:=9) s_int rfl (F_size cd ql))
 (s_cons (x_while 1000 (b_and (b_cmp (s_bin (s_name (i:=8) rfl) (s_name (i:=9) rfl)) (s_ofP (p_len (i:=3) rfl rfl (by kernel_rfl) G.len))) (b_and1 (b_cmp (s_callb (es_cons (s_ofP (p_item_own (j:=3) rfl (p_bin (p_name (i:=8) rfl) (p_name (i:=9) rfl)))) es_nil) f_ord (by kernel_rfl) G.ord boot_ord) (s_bin (s_callb (es_cons (s_ofP (p_item_own (j:=3) rfl (p_name (i:=8) rfl))) es_nil) f_ord (by kernel_rfl) G.ord boot_ord) (s_name (i:=9) rfl)))))
 (s_cons (x_aug (i:=9) s_int rfl (F_size cd ql))
 s_nil))
 (s_cons (x_if (b_and (b_cmp (s_name (i:=9) rfl) s_int) (b_and (b_cmp (s_ofP (p_item_own (j:=3) rfl (p_name (i:=8) rfl))) s_str) (b_and1 (b_cmp (s_ofP (p_item_own (j:=3) rfl (p_bin (p_bin (p_name (i:=8) rfl) (p_name (i:=9) rfl)) p_int))) s_str))))
 (s_cons (x_aug (i:=6) (s_bin (s_bin (s_ofP (p_item_own (j:=3) rfl (p_name (i:=8) rfl))) s_str) (s_ofP (p_item_own (j:=3) rfl (p_bin (p_bin (p_name (i:=8) rfl) (p_name (i:=9) rfl)) p_int)))) rfl (F_middle cd ql))
 s_nil)
 (s_cons (x_for (i:=10) (s_slice (s_name (i:=3) rfl) (pt_some (s_name (i:=8) rfl)) (pt_some (s_bin (s_name (i:=8) rfl) (s_name (i:=9) rfl))) pt_none)
 (s_cons (x_aug (i:=5) (s_ifexp (b_cmp (s_name (i:=10) rfl) s_str) (s_name (i:=10) rfl) s_str) rfl (F_front cd ql))
 (s_cons (x_aug (i:=7) (s_ifexp (b_cmp (s_name (i:=10) rfl) s_str) (s_name (i:=10) rfl) s_str) rfl (F_back cd ql))
 (s_cons (x_aug (i:=6) (s_ifexp (b_cmp (s_name (i:=10) rfl) s_str) (s_name (i:=10) rfl) s_str) rfl (F_middle cd ql))
 s_nil))) rfl (F_sign cd ql))
 s_nil))
 (s_cons (x_aug (i:=8) (s_name (i:=9) rfl) rfl (F_k cd ql))
 s_nil)))))
  apply s_cons
  exact (x_ret (s_bin (s_bin (s_bin (s_bin s_str (s_name (i:=5) rfl)) (s_name (i:=6) rfl)) (s_name (i:=7) rfl)) s_str))
  exact s_nil
end WBracket
end Mine
end
section
open PySem PySem.W PyProof.Rows PySem.Builtin.Str
set_option tactic.hygienic false
namespace Mine
noncomputable abbrev FSet (cd:Value) (ql:Str):FI:=⟨scopeAt P2 19,["text","k","marks","ranges","at","slash","wide"].map PySem.Str.ofString,[],cd,ql⟩
namespace WSet
theorem F_k (cd:Value) (ql:Str):(FSet cd ql).Wr (PySem.Str.ofString "k"):=⟨(fun h=>nomatch h),.inl (by kernel_rfl)⟩
theorem F_marks (cd:Value) (ql:Str):(FSet cd ql).Wr (PySem.Str.ofString "marks"):=⟨(fun h=>nomatch h),.inl (by kernel_rfl)⟩
theorem F_ranges (cd:Value) (ql:Str):(FSet cd ql).Wr (PySem.Str.ofString "ranges"):=⟨(fun h=>nomatch h),.inl (by kernel_rfl)⟩
theorem F_at (cd:Value) (ql:Str):(FSet cd ql).Wr (PySem.Str.ofString "at"):=⟨(fun h=>nomatch h),.inl (by kernel_rfl)⟩
theorem F_slash (cd:Value) (ql:Str):(FSet cd ql).Wr (PySem.Str.ofString "slash"):=⟨(fun h=>nomatch h),.inl (by kernel_rfl)⟩
theorem F_wide (cd:Value) (ql:Str):(FSet cd ql).Wr (PySem.Str.ofString "wide"):=⟨(fun h=>nomatch h),.inl (by kernel_rfl)⟩
set_option maxHeartbeats 4000000 in
noncomputable def setS {X:Cx} {d:Nat} {cd:Value} {ql:Str} (G:Glo X):{ g:EvS // SoundS X (FSet cd ql) d (bodyAt P2 19) g }:=by
  apply Subtype.mk
  apply s_cons
  exact (x_tupS (is:=[2,3,4]) (xs:=["marks","ranges","at"]) (vs_own es_nil (vs_own es_nil (vs_froz s_int vs_nil))) rfl (fun x hx=>by simp only [List.mem_cons,List.not_mem_nil,or_false] at hx;rcases hx with rfl | rfl | rfl;exact (F_marks cd ql);exact (F_ranges cd ql);exact (F_at cd ql)) (fun env h=>by obtain ⟨⟩:=env;cases h;kernel_rfl))
  apply s_cons
  exact (x_while 1000 (b_or (b_cmp_own (i:=2) rfl p_list0) (b_or1 (b_cmp (s_item (s_name (i:=0) rfl) (s_name (i:=1) rfl)) s_str)))
 (s_cons (x_assign (i:=5) (s_ifexp (b_cmp (s_item (s_name (i:=0) rfl) (s_name (i:=1) rfl)) s_str) s_int s_int) rfl (F_slash cd ql))
 (s_cons (x_append (i:=2) (s_tuple (es_cons (s_item (s_name (i:=0) rfl) (s_bin (s_name (i:=1) rfl) (s_name (i:=5) rfl))) (es_cons (s_name (i:=5) rfl) es_nil))) rfl (KO.at (by repeat' first | exact ko_getV | exact ko_pure | exact ko_lift | exact ko_ofP | exact ko_nameT | exact ko_capF _ | exact ko_cmpOwn | apply ko_bind | apply ko_ite | intro _)))
 (s_cons (x_aug (i:=1) (s_bin s_int (s_name (i:=5) rfl)) rfl (F_k cd ql))
 s_nil))))
  apply s_cons
  exact (x_while 1000 (b_cmp (s_name (i:=4) rfl) (s_ofP (p_len (i:=2) rfl rfl (by kernel_rfl) G.len)))
 (s_cons (x_assign (i:=6) (s_ifexp (b_and (b_cmp (s_bin (s_name (i:=4) rfl) s_int) (s_ofP (p_len (i:=2) rfl rfl (by kernel_rfl) G.len))) (b_and1 (b_cmp (s_ofP (p_item_own (j:=2) rfl (p_bin (p_name (i:=4) rfl) p_int))) (s_tuple (es_cons s_str (es_cons s_int es_nil)))))) s_int s_int) rfl (F_wide cd ql))
 (s_cons (x_append (i:=3) (s_tuple (es_cons (s_item (s_ofP (p_item_own (j:=2) rfl (p_name (i:=4) rfl))) s_int) (es_cons (s_item (s_ofP (p_item_own (j:=2) rfl (p_bin (p_name (i:=4) rfl) (p_name (i:=6) rfl)))) s_int) es_nil))) rfl (KO.at (by repeat' first | exact ko_getV | exact ko_pure | exact ko_lift | exact ko_ofP | exact ko_nameT | exact ko_capF _ | exact ko_cmpOwn | apply ko_bind | apply ko_ite | intro _)))
 (s_cons (x_aug (i:=4) (s_bin s_int (s_name (i:=6) rfl)) rfl (F_at cd ql))
 s_nil))))
  apply s_cons
  exact (x_ret (s_tuple (es_cons (s_name (i:=3) rfl) (es_cons (s_bin (s_name (i:=1) rfl) s_int) es_nil))))
  exact s_nil
end WSet
end Mine
end
section
open PySem PySem.W PyProof.Rows PySem.Builtin.Str
set_option tactic.hygienic false
namespace Mine
noncomputable abbrev FSets (cd:Value) (ql:Str):FI:=⟨scopeAt P2 20,["text","signs","sets","k","barred","ranges"].map PySem.Str.ofString,[],cd,ql⟩
namespace WSets
theorem F_sets (cd:Value) (ql:Str):(FSets cd ql).Wr (PySem.Str.ofString "sets"):=⟨(fun h=>nomatch h),.inl (by kernel_rfl)⟩
theorem F_k (cd:Value) (ql:Str):(FSets cd ql).Wr (PySem.Str.ofString "k"):=⟨(fun h=>nomatch h),.inl (by kernel_rfl)⟩
theorem F_barred (cd:Value) (ql:Str):(FSets cd ql).Wr (PySem.Str.ofString "barred"):=⟨(fun h=>nomatch h),.inr (by kernel_rfl)⟩
theorem F_ranges (cd:Value) (ql:Str):(FSets cd ql).Wr (PySem.Str.ofString "ranges"):=⟨(fun h=>nomatch h),.inr (by kernel_rfl)⟩
set_option maxHeartbeats 4000000 in
noncomputable def setsS {X:Cx} {d:Nat} {cd:Value} {ql:Str} (G:Glo X) {fSet:Addr} {mSet:List PV→Option PV} (hSet:CallW X d fSet mSet) (gSet:X.mg "_law_set"=some (.ref fSet)) (oSet:∃o fd,X.B.get? fSet=some o∧o.data=.func fd):{ g:EvS // SoundS X (FSets cd ql) d (bodyAt P2 20) g }:=by
  apply Subtype.mk
  apply s_cons
  exact (x_tupS (is:=[2,3]) (xs:=["sets","k"]) (vs_own es_nil (vs_froz s_int vs_nil)) rfl (fun x hx=>by simp only [List.mem_cons,List.not_mem_nil,or_false] at hx;rcases hx with rfl | rfl;exact (F_sets cd ql);exact (F_k cd ql)) (fun env h=>by obtain ⟨⟩:=env;cases h;kernel_rfl))
  apply s_cons
  exact (x_while 1000 (b_cmp (s_name (i:=3) rfl) (s_bin (s_ofP (p_len (i:=0) rfl rfl (by kernel_rfl) G.len)) s_int))
 (s_cons (x_tup (is:=[4,5]) (xs:=["barred","ranges"]) (vs_froz (s_or (s_cmp (s_item (s_name (i:=0) rfl) (s_name (i:=3) rfl)) s_str) (s_cmp (s_slice (s_name (i:=0) rfl) (pt_some (s_name (i:=3) rfl)) (pt_some (s_bin (s_name (i:=3) rfl) s_int)) pt_none) s_str)) (vs_froz (s_list es_nil) vs_nil)) rfl (fun x hx=>by simp only [List.mem_cons,List.not_mem_nil,or_false] at hx;rcases hx with rfl | rfl;exact (F_barred cd ql);exact (F_ranges cd ql)) (fun env=>(.cons (fun h=>wpAny_assign_Name h) (.cons (fun h=>wpAny_assign_Name h) .nil))) (fun _=>rfl) (fun _=>by rfl) (fun env h=>by obtain ⟨⟩:=env;cases h;kernel_rfl))
 (s_cons (x_if (b_cmp (s_item (s_name (i:=0) rfl) (s_name (i:=3) rfl)) s_str)
 (s_cons (x_unpack (is:=[5,3]) (xs:=["ranges","k"]) (s_call (es_cons (s_name (i:=0) rfl) (es_cons (s_ifexp (b_name (i:=4) rfl) (s_bin (s_name (i:=3) rfl) s_int) (s_bin (s_name (i:=3) rfl) s_int)) es_nil)) hSet (by kernel_rfl) gSet oSet) rfl (fun x hx=>by simp only [List.mem_cons,List.not_mem_nil,or_false] at hx;rcases hx with rfl | rfl;exact (F_ranges cd ql);exact (F_k cd ql)) (fun env=>(.cons (fun h=>wpAny_assign_Name h) (.cons (fun h=>wpAny_assign_Name h) .nil))) (fun _=>rfl) (fun _=>by rfl) (fun env h=>by obtain ⟨⟩:=env;cases h;kernel_rfl))
 s_nil)
 (s_cons (x_if (b_cmp (s_item (s_name (i:=0) rfl) (s_name (i:=3) rfl)) s_str)
 (s_cons (x_aug (i:=3) s_int rfl (F_k cd ql))
 s_nil)
 (s_cons (x_if (b_cmp (s_slice (s_name (i:=0) rfl) (pt_some (s_name (i:=3) rfl)) (pt_some (s_bin (s_name (i:=3) rfl) s_int)) pt_none) s_str)
 (s_cons (x_aug (i:=3) s_int rfl (F_k cd ql))
 s_nil)
 ss_skip)
 s_nil))
 s_nil))
 (s_cons (x_append (i:=2) (s_comp (own:=["j"]) (caps:=["barred","ranges","signs"]) (is:=[4,5,1]) (i:=0) (compOK_of (by kernel_rfl)) rfl rfl (s_callt (es_cons s_int es_nil) f_range (by kernel_rfl) G.range boot_range) (ifs_one (b_cmp (s_cmp (s_comp (own:=["one"]) (caps:=["j","signs"]) (is:=[0,3]) (i:=0) (compOK_of (by kernel_rfl)) rfl rfl (s_name (i:=2) rfl) (ifs_one (b_cmp2 (s_item (s_name (i:=0) rfl) s_int) (s_item (s_name (i:=2) rfl) (s_name (i:=1) rfl)) (s_item (s_name (i:=0) rfl) s_int))) (s_name (i:=0) rfl)) (s_list es_nil)) (s_name (i:=1) rfl))) (s_name (i:=0) rfl)) rfl (KO.at (by repeat' first | exact ko_getV | exact ko_pure | exact ko_lift | exact ko_ofP | exact ko_nameT | exact ko_capF _ | exact ko_cmpOwn | apply ko_bind | apply ko_ite | intro _)))
 s_nil))))
  apply s_cons
  exact (x_ret (s_ifexp (b_cmp (s_bin (s_slice (s_name (i:=0) rfl) pt_none (pt_some s_int) pt_none) (s_slice (s_name (i:=0) rfl) (pt_some (s_ofP p_neg)) pt_none pt_none)) s_str) (s_name (i:=2) rfl) e_skip))
  exact s_nil
end WSets
end Mine
end
section
open PySem PySem.W PyProof.Rows PySem.SeqAt PySem.Builtin.Str
set_option tactic.hygienic false
namespace Mine
noncomputable def inTup (x c:PV):Option Bool:=match c with
  | .tuple ys=>match toPy x,toPys ys with
    | some d,some ds=>if shaped (.tuple ds)=true∧shaped d=true then some (ds.any fun y=>PyData.eqv y d) else none
    | _,_=>none
  | _=>none
section
variable {X:Cx} {F:FI} {d:Nat}
set_option tactic.hygienic true in
theorem inTup_w {A:Around} {Av:Addr→Prop} {s:Shared} {Q:Value→Shared→Prop} {E:Value→Shared→Prop} {a b:PV} {va vb:Value} {c:Bool} (hA:Room d A) (h:inTup a b=some c) (ha:VR s.heap Av va a) (hb:VR s.heap Av vb b) (k:Q (.bool c) s):wpAny (model X.prog X.w) A (compareOp .In va vb) Q E s:=by
  unfold inTup at h
  split at h
  · rename_i ys
    split at h
    · rename_i x ds e1 e2
      split at h<;>cases h
      rename_i q
      obtain ⟨_,z1⟩:=ha.reads e1
      obtain ⟨_,z2⟩:=hb.reads (d:=.tuple ds) (by unfold toPy;rw [e2];rfl)
      exact in_tuple_reads z2 z1 (canLay_of_shaped q.1) (canLay_of_shaped q.2) (room_in_shaped q.2 (hA.u 65)) k
    · cases h
  · cases h
theorem b_intup {l r:Expr} {pos:Pos} {f g:EvE} (hl:SoundE X F d l f) (hr:SoundE X F d r g) (hm:autoParam (behindInMarks .In r=false) Mine.au9._auto_1):SoundB X F d (.Compare l [.In] [r] pos) (bindE f fun a=>bindE g fun b=>liftE (inTup a b)):=by
  refine @SoundT.intro _ _ _ _ _ _ _ _ ?_
  intro A Av Mu env st st' s v Q E hA hf R₀ tk k
  refine bindE_elim hf fun a st1 h1 hf=>?_
  refine bindE_elim hf fun b st2 h2 hf=>?_
  obtain ⟨h3,rfl⟩:=liftE_some hf
  refine wpAny_isTrue_Compare1 (hl _ hA h1 R₀ tk fun va s1 Av1 Mu1 R1 S1 V1 tk1=>hr _ hA h2 R1 tk1 fun vb s2 Av2 Mu2 R2 S2 V2 tk2=>?_) hm
  exact inTup_w hA h3 (V1.step S2.toStep R1.ma) V2 (wpAny_truthy_bool (k _ _ Av2 Mu2 R2 (S1.trans S2 R₀.lt) rfl))
end
end Mine
end
section
open PySem PySem.W PyProof.Rows PySem.Builtin.Str
set_option tactic.hygienic false
namespace Mine
noncomputable abbrev FTrans (cd:Value) (ql:Str):FI:=⟨scopeAt P2 8,["pat","STAR","QUESTION_MARK","res","add","i","n","c","j","stuff","chunks","k","chunk"].map PySem.Str.ofString,[],cd,ql⟩
namespace WTrans
theorem F_res (cd:Value) (ql:Str):(FTrans cd ql).Wr (PySem.Str.ofString "res"):=⟨(fun h=>nomatch h),.inl (by kernel_rfl)⟩
theorem F_add (cd:Value) (ql:Str):(FTrans cd ql).Wr (PySem.Str.ofString "add"):=⟨(fun h=>nomatch h),.inl (by kernel_rfl)⟩
theorem F_i (cd:Value) (ql:Str):(FTrans cd ql).Wr (PySem.Str.ofString "i"):=⟨(fun h=>nomatch h),.inl (by kernel_rfl)⟩
theorem F_n (cd:Value) (ql:Str):(FTrans cd ql).Wr (PySem.Str.ofString "n"):=⟨(fun h=>nomatch h),.inl (by kernel_rfl)⟩
theorem F_c (cd:Value) (ql:Str):(FTrans cd ql).Wr (PySem.Str.ofString "c"):=⟨(fun h=>nomatch h),.inl (by kernel_rfl)⟩
theorem F_j (cd:Value) (ql:Str):(FTrans cd ql).Wr (PySem.Str.ofString "j"):=⟨(fun h=>nomatch h),.inl (by kernel_rfl)⟩
theorem F_stuff (cd:Value) (ql:Str):(FTrans cd ql).Wr (PySem.Str.ofString "stuff"):=⟨(fun h=>nomatch h),.inl (by kernel_rfl)⟩
theorem F_chunks (cd:Value) (ql:Str):(FTrans cd ql).Wr (PySem.Str.ofString "chunks"):=⟨(fun h=>nomatch h),.inl (by kernel_rfl)⟩
theorem F_k (cd:Value) (ql:Str):(FTrans cd ql).Wr (PySem.Str.ofString "k"):=⟨(fun h=>nomatch h),.inl (by kernel_rfl)⟩
theorem F_chunk (cd:Value) (ql:Str):(FTrans cd ql).Wr (PySem.Str.ofString "chunk"):=⟨(fun h=>nomatch h),.inl (by kernel_rfl)⟩
set_option maxHeartbeats 4000000 in
noncomputable def transS {X:Cx} {d:Nat} {cd:Value} {ql:Str} (G:Glo X) {c T P cA:Addr} {fs items:Array Value} (okS:MakeOK X (FTrans cd ql) c T ⟨63,39,63,76⟩ "<lambda>") (okG:MakeOK X (FTrans cd ql) c T ⟨62,37,62,98⟩ "<genexpr>") (hTw:X.mg "_twin_re_1"=some (.ref P)) (hPat:PatAt X.B P fs cA items):{ g:EvS // SoundS X (FTrans cd ql) d (bodyAt P2 8) g }:=by
  apply Subtype.mk
  apply s_cons
  exact (x_own (i:=3) es_nil rfl (F_res cd ql))
  apply s_cons
  exact (x_meth (i:=4) (j:=3) rfl (F_add cd ql) rfl)
  apply s_cons
  exact (x_tupS (is:=[5,6]) (xs:=["i","n"]) (vs_froz s_int (vs_froz (s_ofP (p_len (i:=0) rfl rfl (by kernel_rfl) G.len)) vs_nil)) rfl (fun x hx=>by simp only [List.mem_cons,List.not_mem_nil,or_false] at hx;rcases hx with rfl | rfl;exact (F_i cd ql);exact (F_n cd ql)) (fun env h=>by obtain ⟨⟩:=env;cases h;kernel_rfl))
  apply s_cons
  exact (x_while 1000 (b_cmp (s_name (i:=5) rfl) (s_name (i:=6) rfl))
 (s_cons (x_assign (i:=7) (s_item (s_name (i:=0) rfl) (s_name (i:=5) rfl)) rfl (F_c cd ql))
 (s_cons (x_assign (i:=5) (s_bin (s_name (i:=5) rfl) s_int) rfl (F_i cd ql))
 (s_cons (x_if (b_cmp (s_name (i:=7) rfl) s_str)
 ss_skip
 (s_cons (x_if (b_cmp (s_name (i:=7) rfl) s_str)
 ss_skip
 (s_cons (x_if (b_cmp (s_name (i:=7) rfl) s_str)
 (s_cons (x_assign (i:=8) (s_name (i:=5) rfl) rfl (F_j cd ql))
 (s_cons (x_if (b_and (b_cmp (s_name (i:=8) rfl) (s_name (i:=6) rfl)) (b_and1 (b_cmp (s_item (s_name (i:=0) rfl) (s_name (i:=8) rfl)) s_str)))
 (s_cons (x_assign (i:=8) (s_bin (s_name (i:=8) rfl) s_int) rfl (F_j cd ql))
 s_nil)
 s_nil)
 (s_cons (x_if (b_and (b_cmp (s_name (i:=8) rfl) (s_name (i:=6) rfl)) (b_and1 (b_cmp (s_item (s_name (i:=0) rfl) (s_name (i:=8) rfl)) s_str)))
 (s_cons (x_assign (i:=8) (s_bin (s_name (i:=8) rfl) s_int) rfl (F_j cd ql))
 s_nil)
 s_nil)
 (s_cons (x_while 1000 (b_and (b_cmp (s_name (i:=8) rfl) (s_name (i:=6) rfl)) (b_and1 (b_cmp (s_item (s_name (i:=0) rfl) (s_name (i:=8) rfl)) s_str)))
 (s_cons (x_assign (i:=8) (s_bin (s_name (i:=8) rfl) s_int) rfl (F_j cd ql))
 s_nil))
 (s_cons (x_if (b_cmp (s_name (i:=8) rfl) (s_name (i:=6) rfl))
 ss_skip
 (s_cons (x_assign (i:=9) (s_slice (s_name (i:=0) rfl) (pt_some (s_name (i:=5) rfl)) (pt_some (s_name (i:=8) rfl)) pt_none) rfl (F_stuff cd ql))
 (s_cons (x_if (b_cmp s_str (s_name (i:=9) rfl))
 (s_cons (x_assign (i:=9) (s_replace (s_name (i:=9) rfl) (by intro _;rfl) (by rfl)) rfl (F_stuff cd ql))
 s_nil)
 (s_cons (x_own (i:=10) es_nil rfl (F_chunks cd ql))
 (s_cons (x_assign (i:=11) (s_ifexp (b_cmp (s_item (s_name (i:=0) rfl) (s_name (i:=5) rfl)) s_str) (s_bin (s_name (i:=5) rfl) s_int) (s_bin (s_name (i:=5) rfl) s_int)) rfl (F_k cd ql))
 (s_cons (x_while 1000 (b_plain s_true)
 (s_cons (x_assign (i:=11) (s_meth (s_name (i:=0) rfl) (es_cons s_str (es_cons (s_name (i:=11) rfl) (es_cons (s_name (i:=8) rfl) es_nil))) m_find) rfl (F_k cd ql))
 (s_cons (x_if (b_cmp (s_name (i:=11) rfl) s_int)
 (s_cons x_break
 s_nil)
 s_nil)
 (s_cons (x_append (i:=10) (s_slice (s_name (i:=0) rfl) (pt_some (s_name (i:=5) rfl)) (pt_some (s_name (i:=11) rfl)) pt_none) rfl (KO.at (by repeat' first | exact ko_getV | exact ko_pure | exact ko_lift | exact ko_ofP | exact ko_nameT | exact ko_capF _ | exact ko_cmpOwn | apply ko_bind | apply ko_ite | intro _)))
 (s_cons (x_assign (i:=5) (s_bin (s_name (i:=11) rfl) s_int) rfl (F_i cd ql))
 (s_cons (x_assign (i:=11) (s_bin (s_name (i:=11) rfl) s_int) rfl (F_k cd ql))
 s_nil))))))
 (s_cons (x_assign (i:=12) (s_slice (s_name (i:=0) rfl) (pt_some (s_name (i:=5) rfl)) (pt_some (s_name (i:=8) rfl)) pt_none) rfl (F_chunk cd ql))
 (s_cons (x_if (b_name (i:=12) rfl)
 (s_cons (x_append (i:=10) (s_name (i:=12) rfl) rfl (KO.at (by repeat' first | exact ko_getV | exact ko_pure | exact ko_lift | exact ko_ofP | exact ko_nameT | exact ko_capF _ | exact ko_cmpOwn | apply ko_bind | apply ko_ite | intro _)))
 s_nil)
 (s_cons (x_augown (j:=10) p_str rfl p_neg)
 s_nil))
 (s_cons (x_for (i:=11) (s_callt (es_cons (s_bin (s_ofP (p_len (i:=10) rfl rfl (by kernel_rfl) G.len)) s_int) (es_cons s_int (es_cons (s_ofP p_neg) es_nil))) f_range (by kernel_rfl) G.range boot_range)
 (s_cons (x_if (b_cmp (s_item (s_ofP (p_item_own (j:=10) rfl (p_bin (p_name (i:=11) rfl) p_int))) (s_ofP p_neg)) (s_item (s_ofP (p_item_own (j:=10) rfl (p_name (i:=11) rfl))) s_int))
 (s_cons (x_setown (j:=10) (s_bin (s_slice (s_ofP (p_item_own (j:=10) rfl (p_bin (p_name (i:=11) rfl) p_int))) pt_none (pt_some (s_ofP p_neg)) pt_none) (s_slice (s_ofP (p_item_own (j:=10) rfl (p_name (i:=11) rfl))) (pt_some s_int) pt_none pt_none)) rfl (p_bin (p_name (i:=11) rfl) p_int))
 (s_cons (x_delown (j:=10) rfl (p_name (i:=11) rfl))
 s_nil))
 s_nil)
 s_nil) rfl (F_k cd ql))
 (s_cons (x_assign (i:=9) (s_joing okG (s_name (i:=10) rfl) (fun cenv hc=>elt_rr (by rw [hc]) (by show List.lookup _ cenv.scope.names=_;rw [hc];kernel_rfl) (by rfl) (by rfl) (by decide+kernel)) (by rfl) (by decide) (by decide) (by kernel_rfl) (by kernel_rfl) (by rfl) (by intro _ _;rfl) (by rfl)) rfl (F_stuff cd ql))
 s_nil))))))))
 (s_cons (x_assign (i:=9) (s_sub okS (by kernel_rfl) hTw hPat (i:=9) rfl (by rfl) (by rfl)) rfl (F_stuff cd ql))
 (s_cons (x_assign (i:=5) (s_bin (s_name (i:=8) rfl) s_int) rfl (F_i cd ql))
 (s_cons (x_if (b_not (b_name (i:=9) rfl))
 (s_cons (x_add (i:=4) (j:=3) s_str rfl (by show 3 < 13;decide))
 s_nil)
 (s_cons (x_if (b_cmp (s_name (i:=9) rfl) s_str)
 (s_cons (x_add (i:=4) (j:=3) s_str rfl (by show 3 < 13;decide))
 s_nil)
 (s_cons (x_if (b_cmp (s_item (s_name (i:=9) rfl) s_int) s_str)
 (s_cons (x_assign (i:=9) (s_bin s_str (s_slice (s_name (i:=9) rfl) (pt_some s_int) pt_none pt_none)) rfl (F_stuff cd ql))
 s_nil)
 (s_cons (x_if (b_intup (s_item (s_name (i:=9) rfl) s_int) (s_tuple (es_cons s_str (es_cons s_str es_nil))))
 (s_cons (x_assign (i:=9) (s_bin s_str (s_name (i:=9) rfl)) rfl (F_stuff cd ql))
 s_nil)
 s_nil)
 s_nil))
 (s_cons (x_add (i:=4) (j:=3) (s_fstr (j_cons s_str (j_cons (s_fval (s_name (i:=9) rfl)) (j_cons s_str j_nil)))) rfl (by show 3 < 13;decide))
 s_nil)))
 s_nil))
 s_nil))))))
 s_nil)))))
 ss_skip)
 s_nil))
 s_nil))
 s_nil))))
  apply s_cons
  exact (x_assert (b_cmp (s_name (i:=5) rfl) (s_name (i:=6) rfl)))
  apply s_cons
  exact (x_ret (s_name (i:=3) rfl))
  exact s_nil
end WTrans
end Mine
end
section
open PySem PySem.W PyProof.Rows PySem.Builtin.Str
set_option tactic.hygienic false
namespace Mine
noncomputable abbrev FJoin (cd:Value) (ql:Str):FI:=⟨scopeAt P2 9,["inp","STAR","res","add","i","n","fixed"].map PySem.Str.ofString,[],cd,ql⟩
namespace WJoin
theorem F_res (cd:Value) (ql:Str):(FJoin cd ql).Wr (PySem.Str.ofString "res"):=⟨(fun h=>nomatch h),.inl (by kernel_rfl)⟩
theorem F_add (cd:Value) (ql:Str):(FJoin cd ql).Wr (PySem.Str.ofString "add"):=⟨(fun h=>nomatch h),.inl (by kernel_rfl)⟩
theorem F_i (cd:Value) (ql:Str):(FJoin cd ql).Wr (PySem.Str.ofString "i"):=⟨(fun h=>nomatch h),.inl (by kernel_rfl)⟩
theorem F_n (cd:Value) (ql:Str):(FJoin cd ql).Wr (PySem.Str.ofString "n"):=⟨(fun h=>nomatch h),.inl (by kernel_rfl)⟩
set_option maxHeartbeats 4000000 in
noncomputable def joinS {X:Cx} {d:Nat} {cd:Value} {ql:Str} (G:Glo X):{ g:EvS // SoundS X (FJoin cd ql) d (bodyAt P2 9) g }:=by
  apply Subtype.mk
  apply s_cons
  exact (x_own (i:=2) es_nil rfl (F_res cd ql))
  apply s_cons
  exact (x_meth (i:=3) (j:=2) rfl (F_add cd ql) rfl)
  apply s_cons
  exact (x_tupS (is:=[4,5]) (xs:=["i","n"]) (vs_froz s_int (vs_froz (s_ofP (p_len (i:=0) rfl rfl (by kernel_rfl) G.len)) vs_nil)) rfl (fun x hx=>by simp only [List.mem_cons,List.not_mem_nil,or_false] at hx;rcases hx with rfl | rfl;exact (F_i cd ql);exact (F_n cd ql)) (fun env h=>by obtain ⟨⟩:=env;cases h;kernel_rfl))
  apply s_cons
  exact (x_while 1000 (b_and (b_cmp (s_name (i:=4) rfl) (s_name (i:=5) rfl)) (b_and1 (b_cmp (s_item (s_name (i:=0) rfl) (s_name (i:=4) rfl)) (s_name (i:=1) rfl))))
 (s_cons (x_add (i:=3) (j:=2) (s_item (s_name (i:=0) rfl) (s_name (i:=4) rfl)) rfl (by show 2 < 7;decide))
 (s_cons (x_aug (i:=4) s_int rfl (F_i cd ql))
 s_nil)))
  apply s_cons
  exact (x_while 1000 (b_cmp (s_name (i:=4) rfl) (s_name (i:=5) rfl))
 ss_skip)
  apply s_cons
  exact (x_assert (b_cmp (s_name (i:=4) rfl) (s_name (i:=5) rfl)))
  apply s_cons
  exact (x_assign (i:=2) (s_meth s_str (es_cons (s_name (i:=2) rfl) es_nil) m_join) rfl (F_res cd ql))
  apply s_cons
  exact (x_ret (s_fstr (j_cons s_str (j_cons (s_fval (s_name (i:=2) rfl)) (j_cons s_str j_nil)))))
  exact s_nil
end WJoin
end Mine
end
section
open PySem PySem.W PyProof.Rows PySem.Builtin.Str
set_option tactic.hygienic false
namespace Mine
noncomputable abbrev FNumber (cd:Value) (ql:Str):FI:=⟨scopeAt P2 17,["octets","_law_read","stream","at","row"].map PySem.Str.ofString,[],cd,ql⟩
namespace WNumber
theorem F_law_read (cd:Value) (ql:Str):(FNumber cd ql).Wr (PySem.Str.ofString "_law_read"):=⟨(fun h=>nomatch h),.inl (by kernel_rfl)⟩
theorem F_stream (cd:Value) (ql:Str):(FNumber cd ql).Wr (PySem.Str.ofString "stream"):=⟨(fun h=>nomatch h),.inl (by kernel_rfl)⟩
theorem F_at (cd:Value) (ql:Str):(FNumber cd ql).Wr (PySem.Str.ofString "at"):=⟨(fun h=>nomatch h),.inr (by kernel_rfl)⟩
theorem F_row (cd:Value) (ql:Str):(FNumber cd ql).Wr (PySem.Str.ofString "row"):=⟨(fun h=>nomatch h),.inr (by kernel_rfl)⟩
set_option maxHeartbeats 4000000 in
noncomputable def numberS {X:Cx} {d:Nat} {cd:Value} {ql:Str} (G:Glo X) {c T fL fU fD:Addr} (okN:LongOK X fL fU fD) (okD:MakeOK X (FNumber cd ql) c T ⟨126,4,128,45⟩ "_law_read") (okL:MakeOK X (FNumber cd ql) c T ⟨129,13,129,25⟩ "<lambda>") (hgL:X.mg (PySem.Str.ofString "read_long1")=some (.ref fL)):{ g:EvS // SoundS X (FNumber cd ql) d (bodyAt P2 17) g }:=by
  apply Subtype.mk
  apply s_cons
  exact (x_tup (is:=[4,3]) (xs:=["row","at"]) (vs_froz (s_cat (s_list (es_cons (s_ofP (p_len (i:=0) rfl rfl (by kernel_rfl) G.len)) es_nil)) (s_name (i:=0) rfl)) (vs_own (es_cons s_int es_nil) vs_nil)) rfl (fun x hx=>by simp only [List.mem_cons,List.not_mem_nil,or_false] at hx;rcases hx with rfl | rfl;exact (F_row cd ql);exact (F_at cd ql)) (fun env=>(.cons (fun h=>wpAny_assign_Name h) (.cons (fun h=>wpAny_assign_Name h) .nil))) (fun _=>rfl) (fun _=>by rfl) (fun env h=>by obtain ⟨⟩:=env;cases h;kernel_rfl))
  exact x_numtail (Z:=⟨_,_,_,_,_,_,_,_,_,_,_,_,_,_,_,_,_,_,_,_⟩) (C:=⟨_,_,_,_,_,_,_,_,_,_,_,_,_⟩) (iRd:=1) (iSt:=2) (iAt:=3) (iOc:=4) okN okD okL hgL (by kernel_rfl) rfl rfl rfl rfl (F_law_read cd ql) (F_stream cd ql) (by rw [show List.lookup (PySem.Str.ofString "_law_read") (FNumber cd ql).scope.names=some .local by kernel_rfl];decide) (by kernel_rfl) (by kernel_rfl) (by decide) ⟨(fun h=>nomatch h),(fun h=>nomatch h)⟩ (by decide+kernel) (by decide+kernel) (by decide+kernel)
end WNumber
end Mine
end
section
open PySem PySem.W PyProof.Rows PySem.Builtin.Str
set_option tactic.hygienic false
namespace Mine
noncomputable def trM (T:Str→Option Str):List PV→Option PV
  | [.str pat]=>(T pat).map .str
  | _=>none
noncomputable abbrev FTranslate (cd:Value) (ql:Str):FI:=⟨scopeAt P2 3,["pat","STAR","parts"].map PySem.Str.ofString,[],cd,ql⟩
namespace WTranslate
theorem F_STAR (cd:Value) (ql:Str):(FTranslate cd ql).Wr (PySem.Str.ofString "STAR"):=⟨(fun h=>nomatch h),.inl (by kernel_rfl)⟩
theorem F_parts (cd:Value) (ql:Str):(FTranslate cd ql).Wr (PySem.Str.ofString "parts"):=⟨(fun h=>nomatch h),.inl (by kernel_rfl)⟩
set_option maxHeartbeats 1000000 in
noncomputable def restS {X:Cx} {d:Nat} {cd:Value} {ql:Str} {fT fJ:Addr} {mT mJ:List PV→Option PV} (hT:CallW X d fT mT) (hJ:CallW X d fJ mJ) (gT:X.mg (PySem.Str.ofString "_translate")=some (.ref fT)) (gJ:X.mg (PySem.Str.ofString "_join_translated_parts")=some (.ref fJ))
    (oT:∃o fd,X.B.get? fT=some o∧o.data=.func fd) (oJ:∃o fd,X.B.get? fJ=some o∧o.data=.func fd):{ g:EvS // SoundS X (FTranslate cd ql) d ((bodyAt P2 3).drop 1) g }:=by
  apply Subtype.mk
  apply s_cons
  exact (x_assign (i:=2) (s_call (es_cons (s_name (i:=0) rfl) (es_cons (s_name (i:=1) rfl) (es_cons s_str es_nil))) hT (by kernel_rfl) gT oT) rfl (F_parts cd ql))
  apply s_cons
  exact (x_ret (s_call (es_cons (s_name (i:=2) rfl) (es_cons (s_name (i:=1) rfl) es_nil)) hJ (by kernel_rfl) gJ oJ))
  exact s_nil
set_option tactic.hygienic true in
set_option maxHeartbeats 1000000 in
theorem translateR {X:Cx} {d:Nat} {cd:Value} {ql:Str} (G:Glo X) {fT fJ:Addr} {mT mJ:List PV→Option PV} {T:Str→Option Str} (hT:CallW X d fT mT) (hJ:CallW X d fJ mJ) (gT:X.mg (PySem.Str.ofString "_translate")=some (.ref fT)) (gJ:X.mg (PySem.Str.ofString "_join_translated_parts")=some (.ref fJ))
    (oT:∃o fd,X.B.get? fT=some o∧o.data=.func fd) (oJ:∃o fd,X.B.get? fJ=some o∧o.data=.func fd)
    (hspec:∀a pat r,T pat=some r→∃parts,mT [.str pat,.obj a,.str (PySem.Str.ofString ".")]=some parts∧mJ [parts,.obj a]=some (.str r)):
    SoundR X (FTranslate cd ql) d 3 (bodyAt P2 3) (trM T):=by
  intro A Av Mu env s as r Q E hA hm R₀ tk k
  unfold trM at hm
  split at hm
  case h_2=>cases hm
  rename_i pat
  obtain ⟨r',hr,rfl⟩:=Option.map_eq_some_iff.mp hm
  have e0:([PV.str pat].map Bind.froz++List.replicate (3 - [PV.str pat].length) Bind.none)=[.froz (.str pat),.none,.none]:=rfl
  rw [e0] at R₀
  have rest:∀{s1:Shared} {Av1 Mu1:Addr→Prop} {a:Addr} {b:List Stmt},b=(bodyAt P2 3).drop 1→R X (FTranslate cd ql) Av1 Mu1 env [.froz (.str pat),.froz (.obj a),.none] s1→1≤s1.toks→Step Av Mu s Av1 Mu1 s1→wpAny (model X.prog X.w) A (execs b env) Q E s1:=by
    intro s1 Av1 Mu1 a b hb R1 tk1 S1
    subst hb
    obtain ⟨parts,h1,h2⟩:=hspec a pat r' hr
    refine (restS (d:=d) (cd:=cd) (ql:=ql) hT hJ gT gJ oT oJ).2 (st':=[.froz (.str pat),.froz (.obj a),.froz parts]) (v:=.ret (.str r')) _ hA ?_ R1 tk1 fun x s' Av' Mu' R' S' V' tk'=>?_
    · simp only [restS,seqF,bindE,getV,pureE,liftE,setV,List.getElem?_cons_zero,List.getElem?_cons_succ,h1,h2,List.set_cons_zero,List.set_cons_succ]
    · cases x<;>first | exact V'.elim | skip
      exact k _ _ _ _ _ _ (.inl rfl) R' (S1.trans S' R₀.lt) V'
  show wpAny _ _ (execs (_::_) env) _ _ _
  refine wpAny_execs_cons (wpAny_Assign_Name ?_ (by rfl))
  show wpAny _ _ (do callWith _ (←eval (.Name "object" _) env) [] (backTo _ (starEach [] env)) (backToKw _ (keywordEach [] env))) _ _ _
  refine wpAny_bind (wp_bname R₀ (by kernel_rfl) G.object boot_object (callArgsT rfl (Calls.spliced_nil (call_object ?_))) (by decide+kernel) (by decide+kernel))
  have G1:Grow s { s with heap:=s.heap.push { cls:=.type "object",data:=.plain } }:=Grow.push (s:=s) _
  refine wpAny_mono (wpAny_toks (wp_store (Q:=fun _ s'=>R X (FTranslate cd ql) Av Mu env [.froz (.str pat),.froz (.obj s.heap.objs.size),.none] s'∧Step Av Mu s Av Mu s') (R₀.grow G1) (i:=1) rfl (b:=.froz (.obj s.heap.objs.size)) ?_ (F_STAR cd ql) fun s2 R2 S2=>⟨R2,(Step.ofGrow G1).trans S2 R₀.lt⟩)) (fun _ s2 q=>?_) fun _ _ e=>e
  · show VR _ _ _ _
    unfold VR
    exact ⟨rfl,fun q=>absurd (R₀.lt _ q) (Nat.lt_irrefl _),by show _ < (s.heap.push _).objs.size;rw [Heap.size_push];exact Nat.lt_succ_self _⟩
  · obtain ⟨⟨R2,S2⟩,tk2⟩:=q
    exact rest rfl R2 (Nat.le_trans tk tk2) S2
end WTranslate
end Mine
end
section
open PySem PySem.W PyProof.Rows PySem.Builtin.Str
set_option tactic.hygienic false
namespace Mine
noncomputable abbrev FLaw (cd:Value) (ql:Str):FI:=⟨scopeAt P2 21,["script","x","numbers","rest","base","places","pattern","bits","octets","number","sets","orders","turn","told","due","enough","odd","choice","chosen","product","row","ones"].map PySem.Str.ofString,[],cd,ql⟩
namespace WLaw
theorem F_x (cd:Value) (ql:Str):(FLaw cd ql).Wr (PySem.Str.ofString "x"):=⟨(fun h=>nomatch h),.inl (by kernel_rfl)⟩
theorem F_numbers (cd:Value) (ql:Str):(FLaw cd ql).Wr (PySem.Str.ofString "numbers"):=⟨(fun h=>nomatch h),.inl (by kernel_rfl)⟩
theorem F_rest (cd:Value) (ql:Str):(FLaw cd ql).Wr (PySem.Str.ofString "rest"):=⟨(fun h=>nomatch h),.inr (by kernel_rfl)⟩
theorem F_base (cd:Value) (ql:Str):(FLaw cd ql).Wr (PySem.Str.ofString "base"):=⟨(fun h=>nomatch h),.inr (by kernel_rfl)⟩
theorem F_places (cd:Value) (ql:Str):(FLaw cd ql).Wr (PySem.Str.ofString "places"):=⟨(fun h=>nomatch h),.inl (by kernel_rfl)⟩
theorem F_pattern (cd:Value) (ql:Str):(FLaw cd ql).Wr (PySem.Str.ofString "pattern"):=⟨(fun h=>nomatch h),.inl (by kernel_rfl)⟩
theorem F_bits (cd:Value) (ql:Str):(FLaw cd ql).Wr (PySem.Str.ofString "bits"):=⟨(fun h=>nomatch h),.inr (by kernel_rfl)⟩
theorem F_octets (cd:Value) (ql:Str):(FLaw cd ql).Wr (PySem.Str.ofString "octets"):=⟨(fun h=>nomatch h),.inl (by kernel_rfl)⟩
theorem F_number (cd:Value) (ql:Str):(FLaw cd ql).Wr (PySem.Str.ofString "number"):=⟨(fun h=>nomatch h),.inr (by kernel_rfl)⟩
theorem F_sets (cd:Value) (ql:Str):(FLaw cd ql).Wr (PySem.Str.ofString "sets"):=⟨(fun h=>nomatch h),.inr (by kernel_rfl)⟩
theorem F_orders (cd:Value) (ql:Str):(FLaw cd ql).Wr (PySem.Str.ofString "orders"):=⟨(fun h=>nomatch h),.inl (by kernel_rfl)⟩
theorem F_turn (cd:Value) (ql:Str):(FLaw cd ql).Wr (PySem.Str.ofString "turn"):=⟨(fun h=>nomatch h),.inl (by kernel_rfl)⟩
theorem F_told (cd:Value) (ql:Str):(FLaw cd ql).Wr (PySem.Str.ofString "told"):=⟨(fun h=>nomatch h),.inl (by kernel_rfl)⟩
theorem F_due (cd:Value) (ql:Str):(FLaw cd ql).Wr (PySem.Str.ofString "due"):=⟨(fun h=>nomatch h),.inl (by kernel_rfl)⟩
theorem F_enough (cd:Value) (ql:Str):(FLaw cd ql).Wr (PySem.Str.ofString "enough"):=⟨(fun h=>nomatch h),.inl (by kernel_rfl)⟩
theorem F_odd (cd:Value) (ql:Str):(FLaw cd ql).Wr (PySem.Str.ofString "odd"):=⟨(fun h=>nomatch h),.inl (by kernel_rfl)⟩
theorem F_choice (cd:Value) (ql:Str):(FLaw cd ql).Wr (PySem.Str.ofString "choice"):=⟨(fun h=>nomatch h),.inr (by kernel_rfl)⟩
theorem F_chosen (cd:Value) (ql:Str):(FLaw cd ql).Wr (PySem.Str.ofString "chosen"):=⟨(fun h=>nomatch h),.inr (by kernel_rfl)⟩
theorem F_product (cd:Value) (ql:Str):(FLaw cd ql).Wr (PySem.Str.ofString "product"):=⟨(fun h=>nomatch h),.inl (by kernel_rfl)⟩
theorem F_row (cd:Value) (ql:Str):(FLaw cd ql).Wr (PySem.Str.ofString "row"):=⟨(fun h=>nomatch h),.inr (by kernel_rfl)⟩
theorem F_ones (cd:Value) (ql:Str):(FLaw cd ql).Wr (PySem.Str.ofString "ones"):=⟨(fun h=>nomatch h),.inl (by kernel_rfl)⟩
set_option maxHeartbeats 4000000 in
noncomputable def lawS {X:Cx} {d:Nat} {cd:Value} {ql:Str} (G:Glo X) {fBracket:Addr} {mBracket:List PV→Option PV} (hBracket:CallW X d fBracket mBracket) (gBracket:X.mg "_law_bracket"=some (.ref fBracket)) (oBracket:∃o fd,X.B.get? fBracket=some o∧o.data=.func fd) {fNumber:Addr} {mNumber:List PV→Option PV} (hNumber:CallW X d fNumber mNumber) (gNumber:X.mg "_law_number"=some (.ref fNumber)) (oNumber:∃o fd,X.B.get? fNumber=some o∧o.data=.func fd) {fSets:Addr} {mSets:List PV→Option PV} (hSets:CallW X d fSets mSets) (gSets:X.mg "_law_sets"=some (.ref fSets)) (oSets:∃o fd,X.B.get? fSets=some o∧o.data=.func fd) {fTranslate:Addr} {mTranslate:List PV→Option PV} (hTranslate:CallW X d fTranslate mTranslate) (gTranslate:X.mg "translate"=some (.ref fTranslate)) (oTranslate:∃o fd,X.B.get? fTranslate=some o∧o.data=.func fd):{ g:EvS // SoundS X (FLaw cd ql) d (bodyAt P2 21) g }:=by
  apply Subtype.mk
  apply s_cons
  exact (x_compZ (j:=2) (own:=["x","y"]) (caps:=[]) (is:=[]) (ix:=0) (iy:=1) (compOK_of (by kernel_rfl)) rfl rfl rfl (es_cons (s_cat (s_slice (s_name (i:=0) rfl) pt_none (pt_some s_int) pt_none) (s_rep (s_list (es_cons s_int es_nil)) s_int)) (es_cons (s_list (es_cons s_int (es_cons s_int (es_cons s_int (es_cons s_int es_nil))))) es_nil)) (s_bin (s_bin (s_name (i:=0) rfl) (s_name (i:=1) rfl)) (s_bin s_int s_int)) (by kernel_rfl) G.zip rfl (F_numbers cd ql) (fun env h=>by obtain ⟨⟩:=env;cases h;kernel_rfl))
  apply s_cons
  exact (x_assign (i:=3) (s_callb (es_cons (s_comp (own:=["x"]) (caps:=[]) (is:=[]) (i:=0) (compOK_of (by kernel_rfl)) rfl rfl (s_name (i:=2) rfl) ifs_nil (s_bin (s_name (i:=0) rfl) s_int)) es_nil) f_sum (by kernel_rfl) G.sum boot_sum) rfl (F_rest cd ql))
  apply s_cons
  exact (x_assign (i:=4) (s_item (s_tuple (es_cons s_int (es_cons s_int (es_cons s_int (es_cons s_int es_nil))))) (s_bin (s_bin (s_name (i:=3) rfl) s_int) s_int)) rfl (F_base cd ql))
  apply s_cons
  exact (x_comp (j:=5) (own:=["j"]) (caps:=["rest"]) (is:=[3]) (i:=0) (compOK_of (by kernel_rfl)) rfl rfl (s_callt (es_cons s_int es_nil) f_range (by kernel_rfl) G.range boot_range) ifs_nil (s_bin (s_bin s_int (s_name (i:=0) rfl)) (s_bin (s_bin (s_name (i:=1) rfl) (s_bin s_int (s_name (i:=0) rfl))) s_int)) rfl (F_places cd ql) (fun env h=>by obtain ⟨⟩:=env;cases h;kernel_rfl))
  apply s_cons
  exact (x_tup (is:=[6,7]) (xs:=["pattern","bits"]) (vs_froz s_str (vs_own es_nil vs_nil)) rfl (fun x hx=>by simp only [List.mem_cons,List.not_mem_nil,or_false] at hx;rcases hx with rfl | rfl;exact (F_pattern cd ql);exact (F_bits cd ql)) (fun env=>(.cons (fun h=>wpAny_assign_Name h) (.cons (fun h=>wpAny_assign_Name h) .nil))) (fun _=>rfl) (fun _=>by rfl) (fun env h=>by obtain ⟨⟩:=env;cases h;kernel_rfl))
  apply s_cons
  exact (x_for (i:=1) (s_name (i:=2) rfl)
 (s_cons (x_assign (i:=8) (s_slice (s_list (es_cons (s_bin (s_name (i:=1) rfl) s_int) (es_cons (s_bin (s_bin (s_name (i:=1) rfl) s_int) s_int) es_nil))) pt_none (pt_some (s_bin (s_bin (s_name (i:=1) rfl) s_int) s_int)) pt_none) rfl (F_octets cd ql))
 (s_cons (x_aug (i:=6) (s_call (es_cons (s_name (i:=8) rfl) (es_cons (s_name (i:=4) rfl) es_nil)) hBracket (by kernel_rfl) gBracket oBracket) rfl (F_pattern cd ql))
 (s_cons (x_assign (i:=9) (s_call (es_cons (s_name (i:=8) rfl) es_nil) hNumber (by kernel_rfl) gNumber oNumber) rfl (F_number cd ql))
 (s_cons (x_append (i:=7) (s_comp (own:=["place"]) (caps:=["number"]) (is:=[9]) (i:=0) (compOK_of (by kernel_rfl)) rfl rfl (s_name (i:=5) rfl) ifs_nil (s_bin (s_bin (s_name (i:=1) rfl) (s_bin s_int (s_name (i:=0) rfl))) s_int)) rfl (KO.at (by repeat' first | exact ko_getV | exact ko_pure | exact ko_lift | exact ko_ofP | exact ko_nameT | exact ko_capF _ | exact ko_cmpOwn | apply ko_bind | apply ko_ite | intro _)))
 s_nil)))) rfl (F_x cd ql))
  apply s_cons
  exact (x_assign (i:=10) (s_call (es_cons (s_call (es_cons (s_name (i:=6) rfl) es_nil) hTranslate (by kernel_rfl) gTranslate oTranslate) (es_cons (s_comp (own:=["place"]) (caps:=["base"]) (is:=[4]) (i:=0) (compOK_of (by kernel_rfl)) rfl rfl (s_name (i:=5) rfl) ifs_nil (s_callb (es_cons (s_bin (s_name (i:=1) rfl) (s_name (i:=0) rfl)) es_nil) f_chr (by kernel_rfl) G.chr boot_chr)) es_nil)) hSets (by kernel_rfl) gSets oSets) rfl (F_sets cd ql))
  apply s_cons
  exact (x_if (b_cmp (s_ofP (p_len (i:=10) rfl rfl (by kernel_rfl) G.len)) s_int)
 (s_cons (x_ret s_true)
 s_nil)
 s_nil)
  apply s_cons
  exact (x_assign (i:=11) (s_list (es_cons (s_list es_nil) es_nil)) rfl (F_orders cd ql))
  apply s_cons
  exact (x_for (i:=12) (s_callt (es_cons s_int es_nil) f_range (by kernel_rfl) G.range boot_range)
 (s_cons (x_comp2 (j:=11) (own:=["order","j"]) (caps:=[]) (is:=[]) (i1:=0) (i2:=1) (compOK_of (by kernel_rfl)) rfl rfl rfl (s_name (i:=11) rfl) (s_callt (es_cons s_int es_nil) f_range (by kernel_rfl) G.range boot_range) (ifs_one (b_cmp (s_name (i:=1) rfl) (s_name (i:=0) rfl))) (s_cat (s_name (i:=0) rfl) (s_list (es_cons (s_name (i:=1) rfl) es_nil))) rfl (F_orders cd ql) (fun env h=>by obtain ⟨⟩:=env;cases h;kernel_rfl))
 s_nil) rfl (F_turn cd ql))
  apply s_cons
  exact (x_assign (i:=13) (s_callb (es_cons (s_comp (own:=["order"]) (caps:=["sets"]) (is:=[10]) (i:=0) (compOK_of (by kernel_rfl)) rfl rfl (s_name (i:=11) rfl) (ifs_one (b_cmp (s_comp (own:=["k"]) (caps:=["order","sets"]) (is:=[0,1]) (i:=0) (compOK_of (by kernel_rfl)) rfl rfl (s_callt (es_cons s_int es_nil) f_range (by kernel_rfl) G.range boot_range) (ifs_one (b_cmp (s_item (s_name (i:=1) rfl) (s_name (i:=0) rfl)) (s_item (s_name (i:=2) rfl) (s_name (i:=0) rfl)))) (s_name (i:=0) rfl)) (s_list es_nil))) (s_name (i:=0) rfl)) es_nil) f_len (by kernel_rfl) G.len boot_len) rfl (F_told cd ql))
  apply s_cons
  exact (x_tup (is:=[14,15,16]) (xs:=["due","enough","odd"]) (vs_froz s_int (vs_froz s_true (vs_froz s_true vs_nil))) rfl (fun x hx=>by simp only [List.mem_cons,List.not_mem_nil,or_false] at hx;rcases hx with rfl | rfl | rfl;exact (F_due cd ql);exact (F_enough cd ql);exact (F_odd cd ql)) (fun env=>(.cons (fun h=>wpAny_assign_Name h) (.cons (fun h=>wpAny_assign_Name h) (.cons (fun h=>wpAny_assign_Name h) .nil)))) (fun _=>rfl) (fun _=>by rfl) (fun env h=>by obtain ⟨⟩:=env;cases h;kernel_rfl))
  apply s_cons
  exact (x_for (i:=17) (s_callt (es_cons s_int (es_cons s_int es_nil)) f_range (by kernel_rfl) G.range boot_range)
 (s_cons (x_assign' (i:=18) (s_comp (own:=["k"]) (caps:=["choice"]) (is:=[17]) (i:=0) (compOK_of (by kernel_rfl)) rfl rfl (s_callt (es_cons s_int es_nil) f_range (by kernel_rfl) G.range boot_range) (ifs_one (b_cmp (s_bin (s_bin (s_name (i:=1) rfl) (s_bin s_int (s_name (i:=0) rfl))) s_int) s_int)) (s_name (i:=0) rfl)) rfl (F_chosen cd ql) (fun env h=>by obtain ⟨⟩:=env;cases h;kernel_rfl))
 (s_cons (x_assign (i:=19) (s_bin (s_ofP p_neg) (s_ofP (p_len (i:=18) rfl rfl (by kernel_rfl) G.len))) rfl (F_product cd ql))
 (s_cons (x_for (i:=20) (s_name (i:=7) rfl)
 (s_cons (x_aug (i:=19) (s_callb (es_cons (s_comp (own:=["j"]) (caps:=["row"]) (is:=[20]) (i:=0) (compOK_of (by kernel_rfl)) rfl rfl (s_name (i:=18) rfl) ifs_nil (s_item (s_name (i:=1) rfl) (s_name (i:=0) rfl))) es_nil) f_sum (by kernel_rfl) G.sum boot_sum) rfl (F_product cd ql))
 s_nil) rfl (F_row cd ql))
 (s_cons (x_aug (i:=14) (s_name (i:=19) rfl) rfl (F_due cd ql))
 (s_cons (x_comp (j:=21) (own:=["j"]) (caps:=["bits","chosen"]) (is:=[7,18]) (i:=0) (compOK_of (by kernel_rfl)) rfl rfl (s_callt (es_cons s_int es_nil) f_range (by kernel_rfl) G.range boot_range) ifs_nil (s_callb (es_cons (s_comp (own:=["k"]) (caps:=["bits","j"]) (is:=[1,0]) (i:=0) (compOK_of (by kernel_rfl)) rfl rfl (s_name (i:=2) rfl) ifs_nil (s_item (s_item (s_name (i:=1) rfl) (s_name (i:=0) rfl)) (s_name (i:=2) rfl))) es_nil) f_sum (by kernel_rfl) G.sum boot_sum) rfl (F_ones cd ql) (fun env h=>by obtain ⟨⟩:=env;cases h;kernel_rfl))
 (s_cons (x_assign (i:=15) (s_and (s_name (i:=15) rfl) (s_cmp (s_callb (es_cons (s_comp (own:=["many"]) (caps:=[]) (is:=[]) (i:=0) (compOK_of (by kernel_rfl)) rfl rfl (s_name (i:=21) rfl) (ifs_one (b_cmp (s_name (i:=0) rfl) s_int)) (s_name (i:=0) rfl)) es_nil) f_len (by kernel_rfl) G.len boot_len) (s_ofP (p_len (i:=18) rfl rfl (by kernel_rfl) G.len)))) rfl (F_enough cd ql))
 (s_cons (x_assign (i:=16) (s_and (s_name (i:=16) rfl) (s_cmp (s_comp (own:=["many"]) (caps:=[]) (is:=[]) (i:=0) (compOK_of (by kernel_rfl)) rfl rfl (s_name (i:=21) rfl) (ifs_one (b_cmp (s_bin (s_name (i:=0) rfl) s_int) s_int)) (s_name (i:=0) rfl)) (s_list es_nil))) rfl (F_odd cd ql))
 s_nil))))))) rfl (F_choice cd ql))
  apply s_cons
  exact (x_ret (s_cmp (s_list (es_cons (s_name (i:=13) rfl) (es_cons (s_cmp (s_name (i:=13) rfl) s_int) (es_cons (s_cmp (s_bin (s_name (i:=13) rfl) s_int) s_int) es_nil)))) (s_list (es_cons (s_name (i:=14) rfl) (es_cons (s_name (i:=15) rfl) (es_cons (s_name (i:=16) rfl) es_nil))))))
  exact s_nil
end WLaw
end Mine
end
section
open PySem PySem.W PyProof.Rows
set_option tactic.hygienic false
namespace Mine
theorem noCell {scope:Scope} (h:scope.names.all (fun x=>x.2 != .cell)=true):∀x∈scope.names,x.2≠.cell:=fun x hx=>by
  have:=List.all_eq_true.mp h x hx
  simpa using this
theorem len1 {P:List Value→Prop} (h:∀a,P [a]) (vals:List Value) (e:vals.length=1):P vals:=by
  obtain ⟨a,rfl⟩:=List.length_eq_one_iff.mp e
  exact h a
theorem lenS {P:List Value→Prop} {n:Nat} (h:∀a r,r.length=n→P (a::r)):∀(vals:List Value),vals.length=n+1→P vals
  | [],e=>nomatch e
  | a::r,e=>h a r (Nat.succ.inj e)
theorem len2 {P:List Value→Prop} (h:∀a b,P [a,b]):∀vals:List Value,vals.length=2→P vals:=lenS fun a=>len1 (h a)
theorem len3 {P:List Value→Prop} (h:∀a b c,P [a,b,c]):∀vals:List Value,vals.length=3→P vals:=lenS fun a=>len2 (h a)
noncomputable abbrev tabs0:List (Addr×Addr):=[(96,92),(61,57)]
noncomputable def tq0 (T:Addr) (l c:Nat):Str:=if T=57 then (if l=63∧c=39 then "_translate.<locals>.<lambda>" else "_translate.<locals>.<genexpr>") else (if l=126∧c=4 then "_law_number.<locals>._law_read" else "_law_number.<locals>.<lambda>")
section
variable {w:World} {p:Program} {loose:List Str} {mean:ExcName→Option Value} {mg mb:Str→Option Value} {h:Heap} (T:Top p loose mean mg mb h) (hT:TabsAt tabs0 h) (KX:(K0 w.params).In h)
include T hT KX
theorem kxB:(K0 w.params).In (ghostOf h tabs0):=ghost_K hT KX (by kernel_rfl)
theorem nb0:NoneBooked (ghostOf h tabs0):=booked_of T hT KX (by kernel_rfl)
noncomputable abbrev X0:Cx:=cxOf P2 w T hT (nb0 T hT KX) tq0
theorem kxX:(K0 w.params).In (X0 T hT KX).B:=kxB T hT KX
theorem glo0:Glo (X0 T hT KX):=by
  constructor<;>exact mg_none_of KX T.g (by kernel_rfl)
theorem kTranslate:(K0 w.params).lookup 43=some { cls:=.type "function",data:=.func (fnData "translate" P2 3 42 (Value.str (Str.ofString "cpy313.fnmatch") 282)) }:=by kernel_rfl
theorem gTranslate:mg (PySem.Str.ofString "translate")=some (.ref 43):=mg_of KX T.g (by kernel_rfl)
theorem okTranslate:FnOK (X0 T hT KX) 43 (fnData "translate" P2 3 42 (Value.str (Str.ofString "cpy313.fnmatch") 282)) (bodyAt P2 3) [PySem.Str.ofString "pat"] [PySem.Str.ofString "pat",PySem.Str.ofString "STAR",PySem.Str.ofString "parts"]:=
  fnOK_of (X:=X0 T hT KX) (K:=K0 w.params) (kxX T hT KX) (kTranslate T hT KX) (by kernel_rfl) (len1 fun a=>by kernel_rfl) ⟨_,rfl⟩ (by kernel_rfl)
theorem thTranslate:∃o fd,(X0 T hT KX).B.get? 43=some o∧o.data=.func fd:=fn_there (X:=X0 T hT KX) (K:=K0 w.params) (kxX T hT KX) (kTranslate T hT KX)
theorem kTrans:(K0 w.params).lookup 62=some { cls:=.type "function",data:=.func (fnData "_translate" P2 8 61 (Value.str (Str.ofString "cpy313.fnmatch") 486)) }:=by kernel_rfl
theorem gTrans:mg (PySem.Str.ofString "_translate")=some (.ref 62):=mg_of KX T.g (by kernel_rfl)
theorem okTrans:FnOK (X0 T hT KX) 62 (fnData "_translate" P2 8 61 (Value.str (Str.ofString "cpy313.fnmatch") 486)) (bodyAt P2 8) [PySem.Str.ofString "pat",PySem.Str.ofString "STAR",PySem.Str.ofString "QUESTION_MARK"] [PySem.Str.ofString "pat",PySem.Str.ofString "STAR",PySem.Str.ofString "QUESTION_MARK",PySem.Str.ofString "res",PySem.Str.ofString "add",PySem.Str.ofString "i",PySem.Str.ofString "n",PySem.Str.ofString "c",PySem.Str.ofString "j",PySem.Str.ofString "stuff",PySem.Str.ofString "chunks",PySem.Str.ofString "k",PySem.Str.ofString "chunk"]:=
  fnOK_of (X:=X0 T hT KX) (K:=K0 w.params) (kxX T hT KX) (kTrans T hT KX) (by kernel_rfl) (len3 fun a b c=>by kernel_rfl) ⟨_,rfl⟩ (by kernel_rfl)
theorem thTrans:∃o fd,(X0 T hT KX).B.get? 62=some o∧o.data=.func fd:=fn_there (X:=X0 T hT KX) (K:=K0 w.params) (kxX T hT KX) (kTrans T hT KX)
theorem kJoin:(K0 w.params).lookup 69=some { cls:=.type "function",data:=.func (fnData "_join_translated_parts" P2 9 68 (Value.str (Str.ofString "cpy313.fnmatch") 486)) }:=by kernel_rfl
theorem gJoin:mg (PySem.Str.ofString "_join_translated_parts")=some (.ref 69):=mg_of KX T.g (by kernel_rfl)
theorem okJoin:FnOK (X0 T hT KX) 69 (fnData "_join_translated_parts" P2 9 68 (Value.str (Str.ofString "cpy313.fnmatch") 486)) (bodyAt P2 9) [PySem.Str.ofString "inp",PySem.Str.ofString "STAR"] [PySem.Str.ofString "inp",PySem.Str.ofString "STAR",PySem.Str.ofString "res",PySem.Str.ofString "add",PySem.Str.ofString "i",PySem.Str.ofString "n",PySem.Str.ofString "fixed"]:=
  fnOK_of (X:=X0 T hT KX) (K:=K0 w.params) (kxX T hT KX) (kJoin T hT KX) (by kernel_rfl) (len2 fun a b=>by kernel_rfl) ⟨_,rfl⟩ (by kernel_rfl)
theorem thJoin:∃o fd,(X0 T hT KX).B.get? 69=some o∧o.data=.func fd:=fn_there (X:=X0 T hT KX) (K:=K0 w.params) (kxX T hT KX) (kJoin T hT KX)
theorem kUint:(K0 w.params).lookup 76=some { cls:=.type "function",data:=.func (fnData "read_uint1" P2 11 75 (Value.str (Str.ofString "cpy313.pickletools") 520)) }:=by kernel_rfl
theorem gUint:mg (PySem.Str.ofString "read_uint1")=some (.ref 76):=mg_of KX T.g (by kernel_rfl)
theorem okUint:FnOK (X0 T hT KX) 76 (fnData "read_uint1" P2 11 75 (Value.str (Str.ofString "cpy313.pickletools") 520)) (bodyAt P2 11) [PySem.Str.ofString "f"] [PySem.Str.ofString "f",PySem.Str.ofString "data"]:=
  fnOK_of (X:=X0 T hT KX) (K:=K0 w.params) (kxX T hT KX) (kUint T hT KX) (by kernel_rfl) (len1 fun a=>by kernel_rfl) ⟨_,rfl⟩ (by kernel_rfl)
theorem kDec:(K0 w.params).lookup 83=some { cls:=.type "function",data:=.func (fnData "decode_long" P2 13 82 (Value.str (Str.ofString "pickle") 530)) }:=by kernel_rfl
theorem gDec:mg (PySem.Str.ofString "decode_long")=some (.ref 83):=mg_of KX T.g (by kernel_rfl)
theorem okDec:FnOK (X0 T hT KX) 83 (fnData "decode_long" P2 13 82 (Value.str (Str.ofString "pickle") 530)) (bodyAt P2 13) [PySem.Str.ofString "data"] [PySem.Str.ofString "data"]:=
  fnOK_of (X:=X0 T hT KX) (K:=K0 w.params) (kxX T hT KX) (kDec T hT KX) (by kernel_rfl) (len1 fun a=>by kernel_rfl) ⟨_,rfl⟩ (by kernel_rfl)
theorem kLong:(K0 w.params).lookup 90=some { cls:=.type "function",data:=.func (fnData "read_long1" P2 15 89 (Value.str (Str.ofString "cpy313.pickletools") 539)) }:=by kernel_rfl
theorem gLong:mg (PySem.Str.ofString "read_long1")=some (.ref 90):=mg_of KX T.g (by kernel_rfl)
theorem okLong:FnOK (X0 T hT KX) 90 (fnData "read_long1" P2 15 89 (Value.str (Str.ofString "cpy313.pickletools") 539)) (bodyAt P2 15) [PySem.Str.ofString "f"] [PySem.Str.ofString "f",PySem.Str.ofString "n",PySem.Str.ofString "data"]:=
  fnOK_of (X:=X0 T hT KX) (K:=K0 w.params) (kxX T hT KX) (kLong T hT KX) (by kernel_rfl) (len1 fun a=>by kernel_rfl) ⟨_,rfl⟩ (by kernel_rfl)
theorem kNumber:(K0 w.params).lookup 97=some { cls:=.type "function",data:=.func (fnData "_law_number" P2 17 96 (Value.str (Str.ofString "law_ij0201_02") 550)) }:=by kernel_rfl
theorem gNumber:mg (PySem.Str.ofString "_law_number")=some (.ref 97):=mg_of KX T.g (by kernel_rfl)
theorem okNumber:FnOK (X0 T hT KX) 97 (fnData "_law_number" P2 17 96 (Value.str (Str.ofString "law_ij0201_02") 550)) (bodyAt P2 17) [PySem.Str.ofString "octets"] [PySem.Str.ofString "octets",PySem.Str.ofString "_law_read",PySem.Str.ofString "stream",PySem.Str.ofString "at",PySem.Str.ofString "row"]:=
  fnOK_of (X:=X0 T hT KX) (K:=K0 w.params) (kxX T hT KX) (kNumber T hT KX) (by kernel_rfl) (len1 fun a=>by kernel_rfl) ⟨_,rfl⟩ (by kernel_rfl)
theorem thNumber:∃o fd,(X0 T hT KX).B.get? 97=some o∧o.data=.func fd:=fn_there (X:=X0 T hT KX) (K:=K0 w.params) (kxX T hT KX) (kNumber T hT KX)
theorem kBracket:(K0 w.params).lookup 104=some { cls:=.type "function",data:=.func (fnData "_law_bracket" P2 18 103 (Value.str (Str.ofString "law_ij0201_02") 550)) }:=by kernel_rfl
theorem gBracket:mg (PySem.Str.ofString "_law_bracket")=some (.ref 104):=mg_of KX T.g (by kernel_rfl)
theorem okBracket:FnOK (X0 T hT KX) 104 (fnData "_law_bracket" P2 18 103 (Value.str (Str.ofString "law_ij0201_02") 550)) (bodyAt P2 18) [PySem.Str.ofString "octets",PySem.Str.ofString "base"] [PySem.Str.ofString "octets",PySem.Str.ofString "base",PySem.Str.ofString "barred",PySem.Str.ofString "told",PySem.Str.ofString "place",PySem.Str.ofString "front",PySem.Str.ofString "middle",PySem.Str.ofString "back",PySem.Str.ofString "k",PySem.Str.ofString "size",PySem.Str.ofString "sign"]:=
  fnOK_of (X:=X0 T hT KX) (K:=K0 w.params) (kxX T hT KX) (kBracket T hT KX) (by kernel_rfl) (len2 fun a b=>by kernel_rfl) ⟨_,rfl⟩ (by kernel_rfl)
theorem thBracket:∃o fd,(X0 T hT KX).B.get? 104=some o∧o.data=.func fd:=fn_there (X:=X0 T hT KX) (K:=K0 w.params) (kxX T hT KX) (kBracket T hT KX)
theorem kSet:(K0 w.params).lookup 111=some { cls:=.type "function",data:=.func (fnData "_law_set" P2 19 110 (Value.str (Str.ofString "law_ij0201_02") 550)) }:=by kernel_rfl
theorem gSet:mg (PySem.Str.ofString "_law_set")=some (.ref 111):=mg_of KX T.g (by kernel_rfl)
theorem okSet:FnOK (X0 T hT KX) 111 (fnData "_law_set" P2 19 110 (Value.str (Str.ofString "law_ij0201_02") 550)) (bodyAt P2 19) [PySem.Str.ofString "text",PySem.Str.ofString "k"] [PySem.Str.ofString "text",PySem.Str.ofString "k",PySem.Str.ofString "marks",PySem.Str.ofString "ranges",PySem.Str.ofString "at",PySem.Str.ofString "slash",PySem.Str.ofString "wide"]:=
  fnOK_of (X:=X0 T hT KX) (K:=K0 w.params) (kxX T hT KX) (kSet T hT KX) (by kernel_rfl) (len2 fun a b=>by kernel_rfl) ⟨_,rfl⟩ (by kernel_rfl)
theorem thSet:∃o fd,(X0 T hT KX).B.get? 111=some o∧o.data=.func fd:=fn_there (X:=X0 T hT KX) (K:=K0 w.params) (kxX T hT KX) (kSet T hT KX)
theorem kSets:(K0 w.params).lookup 116=some { cls:=.type "function",data:=.func (fnData "_law_sets" P2 20 115 (Value.str (Str.ofString "law_ij0201_02") 550)) }:=by kernel_rfl
theorem gSets:mg (PySem.Str.ofString "_law_sets")=some (.ref 116):=mg_of KX T.g (by kernel_rfl)
theorem okSets:FnOK (X0 T hT KX) 116 (fnData "_law_sets" P2 20 115 (Value.str (Str.ofString "law_ij0201_02") 550)) (bodyAt P2 20) [PySem.Str.ofString "text",PySem.Str.ofString "signs"] [PySem.Str.ofString "text",PySem.Str.ofString "signs",PySem.Str.ofString "sets",PySem.Str.ofString "k",PySem.Str.ofString "barred",PySem.Str.ofString "ranges"]:=
  fnOK_of (X:=X0 T hT KX) (K:=K0 w.params) (kxX T hT KX) (kSets T hT KX) (by kernel_rfl) (len2 fun a b=>by kernel_rfl) ⟨_,rfl⟩ (by kernel_rfl)
theorem thSets:∃o fd,(X0 T hT KX).B.get? 116=some o∧o.data=.func fd:=fn_there (X:=X0 T hT KX) (K:=K0 w.params) (kxX T hT KX) (kSets T hT KX)
theorem kLaw:(K0 w.params).lookup 121=some { cls:=.type "function",data:=.func (fnData "law" P2 21 120 (Value.str (Str.ofString "law_ij0201_02") 550)) }:=by kernel_rfl
theorem gLaw:mg (PySem.Str.ofString "law")=some (.ref 121):=mg_of KX T.g (by kernel_rfl)
theorem okLaw:FnOK (X0 T hT KX) 121 (fnData "law" P2 21 120 (Value.str (Str.ofString "law_ij0201_02") 550)) (bodyAt P2 21) [PySem.Str.ofString "script"] [PySem.Str.ofString "script",PySem.Str.ofString "x",PySem.Str.ofString "numbers",PySem.Str.ofString "rest",PySem.Str.ofString "base",PySem.Str.ofString "places",PySem.Str.ofString "pattern",PySem.Str.ofString "bits",PySem.Str.ofString "octets",PySem.Str.ofString "number",PySem.Str.ofString "sets",PySem.Str.ofString "orders",PySem.Str.ofString "turn",PySem.Str.ofString "told",PySem.Str.ofString "due",PySem.Str.ofString "enough",PySem.Str.ofString "odd",PySem.Str.ofString "choice",PySem.Str.ofString "chosen",PySem.Str.ofString "product",PySem.Str.ofString "row",PySem.Str.ofString "ones"]:=
  fnOK_of (X:=X0 T hT KX) (K:=K0 w.params) (kxX T hT KX) (kLaw T hT KX) (by kernel_rfl) (len1 fun a=>by kernel_rfl) ⟨_,rfl⟩ (by kernel_rfl)
theorem mkLam:MakeOK (X0 T hT KX) (FTrans (.ref 61) ("_translate"++".<locals>.")) 61 57 ⟨63,39,63,76⟩ "<lambda>":=⟨rfl,(ghost_code hT).2.1,.tail _ (.head _),by kernel_rfl,make_bi T hT⟩
theorem mkGen:MakeOK (X0 T hT KX) (FTrans (.ref 61) ("_translate"++".<locals>.")) 61 57 ⟨62,37,62,98⟩ "<genexpr>":=⟨rfl,(ghost_code hT).2.1,.tail _ (.head _),by kernel_rfl,make_bi T hT⟩
theorem mkRead:MakeOK (X0 T hT KX) (FNumber (.ref 96) ("_law_number"++".<locals>.")) 96 92 ⟨126,4,128,45⟩ "_law_read":=⟨rfl,(ghost_code hT).1,.head _,by kernel_rfl,make_bi T hT⟩
theorem mkLam2:MakeOK (X0 T hT KX) (FNumber (.ref 96) ("_law_number"++".<locals>.")) 96 92 ⟨129,13,129,25⟩ "<lambda>":=⟨rfl,(ghost_code hT).1,.head _,by kernel_rfl,make_bi T hT⟩
theorem gTw:mg "_twin_re_1"=some (.ref 36):=mg_of KX T.g (by kernel_rfl)
noncomputable abbrev twF:Array Value:=#[Value.str (Str.ofString "([&~|])") 285,Value.int 32 320,Value.int 1 0,Value.none,Value.none,Value.ref 35,Value.int 0 0]
noncomputable abbrev twI:Array Value:=#[Value.int 14 0,Value.int 14 0,Value.int 4 0,Value.int 1 0,Value.int 1 0,Value.int 9 0,Value.int 0 0,Value.int 64 0,Value.int 0 0,Value.int 1342177280 0,Value.int 0 0,Value.int 0 0,Value.int 0 0,Value.int 0 0,Value.int 0 0,Value.int 17 0,Value.int 0 0,Value.int 13 0,Value.int 11 0,Value.int 9 0,Value.int 0 0,Value.int 64 0,Value.int 0 0,Value.int 1342177280 0,Value.int 0 0,Value.int 0 0,Value.int 0 0,Value.int 0 0,Value.int 0 0,Value.int 17 0,Value.int 1 0,Value.int 1 0]
theorem kTw1:(K0 w.params).lookup 36=some { cls:=.type "re.Pattern",data:=.fields twF }:=by kernel_rfl
theorem kTw2:(K0 w.params).lookup 35=some { cls:=.type "tuple",data:=.seq twI }:=by kernel_rfl
theorem pat0:PatAt (X0 T hT KX).B 36 twF 35 twI:=⟨⟨_,kxX T hT KX _ _ (kTw1 T hT KX),rfl,rfl,rfl⟩,rfl,by kernel_rfl,by kernel_rfl,⟨_,_,kxX T hT KX _ _ (kTw2 T hT KX),rfl⟩,by kernel_rfl⟩
theorem long0:LongOK (X0 T hT KX) 90 76 83:=by
  refine ⟨⟨_,⟨_,_,_,_,_,_,_,_,_,_,_,_,_,_,_,_,_,_,_,_,_⟩,_,okLong T hT KX,?_,by kernel_rfl,by kernel_rfl,by kernel_rfl,by kernel_rfl⟩,
    ⟨_,⟨_,_,_,_,_,_,_,_,_,_,_,_⟩,_,okUint T hT KX,?_,by kernel_rfl⟩,⟨_,⟨_,_,_,_,_,_,_,_,_⟩,okDec T hT KX,?_,by kernel_rfl,by kernel_rfl⟩,gUint T hT KX,gDec T hT KX,(glo0 T hT KX).len,(glo0 T hT KX).bytes,(glo0 T hT KX).int⟩
  · exact noCell (by kernel_rfl)
  · exact noCell (by kernel_rfl)
  · exact noCell (by kernel_rfl)
end
end Mine
end
section
open PySem PySem.W PyProof.Rows PySem.Builtin.Str
set_option tactic.hygienic false
namespace Mine
noncomputable abbrev S (l:List Nat):Str:=⟨l.toArray⟩
theorem S_app (a b:List Nat):S a++S b=S (a++b):=PySem.Str.ext' (by rw [PySem.Str.cps_append];simp)
theorem S_len (l:List Nat):(S l).length=l.length:=by show (l.toArray).size=_;simp
theorem S_inj {a b:List Nat} (h:S a=S b):a=b:=by
  have:=congrArg (fun x:Str=>x.cps.toList) h
  simpa using this
theorem strIn1 (c:Nat) (l:List Nat):strIn (S [c]) (S l)=decide (c∈l):=by
  unfold strIn
  rw [StrLaws.found_one]
theorem flat_free (c:Nat) (z:List Nat):∀l:List Nat,c ∉ l→l.flatMap (fun d=>if d=c then z else [d])=l
  | [],_=>rfl
  | d::l,h=>by
    have h1:¬ d=c:=fun e=>h (by rw [e];exact List.mem_cons_self ..)
    rw [List.flatMap_cons,if_neg h1,flat_free c z l fun m=>h (List.mem_cons_of_mem _ m)]
    rfl
theorem flat_join (c:Nat) (z:List Nat):∀parts:List Str,(∀p∈parts,c ∉ p.cps.toList)→(Str.join ⟨#[c]⟩ parts).cps.toList.flatMap (fun d=>if d=c then z else [d])=(Str.join (S z) parts).cps.toList
  | [],_=>rfl
  | [p],h=>flat_free c z _ (h p (List.mem_singleton.mpr rfl))
  | p::q::r,h=>by
    have ih:=flat_join c z (q::r) fun a ha=>h a (List.mem_cons_of_mem _ ha)
    show (p++⟨#[c]⟩++Str.join ⟨#[c]⟩ (q::r)).cps.toList.flatMap _=(p++S z++Str.join (S z) (q::r)).cps.toList
    simp only [Str.cps_append,Array.toList_append,List.flatMap_append]
    rw [ih,flat_free c z _ (h p (List.mem_cons_self ..))]
    simp
theorem replace_S (l z:List Nat) (c:Nat):Txt.replace (S l) (S [c]) (S z)=S (l.flatMap fun d=>if d=c then z else [d]):=by
  refine PySem.Str.ext' ?_
  rw [StrLaws.replace_one]
  have h:=flat_join c z (Txt.split (S l) ⟨#[c]⟩) (StrLaws.split_free (S l) c)
  rw [StrLaws.join_split] at h
  have h2:=congrArg List.toArray h
  simpa using h2.symm
theorem occ1_aux (l:List Nat) (c hi lim:Nat) (hh:hi≤l.length):∀(n a:Nat) (st:Array Nat) (f:Nat),f≤a→st.size≤lim→
    (forIn (List.range' a n) (st,f) (StrLaws.occBody (S l) (S [c]) hi lim)).run.fst.toList=st.toList++(((List.range' a n).filter fun i=>decide (i < hi∧l[i]? =some c)).take (lim - st.size))
  | 0,a,st,f,_,_=>by simp
  | n+1,a,st,f,hf,hs=>by
    rw [List.range'_succ,List.forIn_cons]
    have e1:(a+(S [c]).length≤hi∧subAt (S l) (S [c]) a=true)↔(a < hi∧l[a]? =some c):=by
      have:=StrLaws.subAt_one (S l) c a
      have hl:(S [c]).length=1:=rfl
      have hL:(S l).length=l.length:=S_len l
      rw [hl] at this ⊢
      rw [hL] at this
      constructor
      · rintro ⟨h1,h2⟩
        exact ⟨by lia,by simpa using this.mp ⟨by lia,h2⟩⟩
      · rintro ⟨h1,h2⟩
        exact ⟨by lia,(this.mpr (by simpa using h2)).2⟩
    by_cases hc:a < hi∧l[a]? =some c
    · obtain ⟨q1,q2⟩:=e1.mpr hc
      by_cases hl:st.size < lim
      · rw [show StrLaws.occBody (S l) (S [c]) hi lim a (st,f)=pure (ForInStep.yield (st.push a,a+(S [c]).length)) from if_pos ⟨⟨⟨hl,hf⟩,q1⟩,q2⟩]
        show (forIn (List.range' (a+1) n) (st.push a,a+1) (StrLaws.occBody (S l) (S [c]) hi lim)).run.fst.toList=_
        rw [occ1_aux l c hi lim hh n (a+1) _ _ (Nat.le_refl _) (by rw [Array.size_push];lia),List.filter_cons_of_pos (by simpa using hc)]
        have:lim - st.size=(lim - (st.push a).size)+1:=by rw [Array.size_push];lia
        rw [this,List.take_succ_cons]
        simp
      · rw [show StrLaws.occBody (S l) (S [c]) hi lim a (st,f)=pure (ForInStep.yield (st,f)) from if_neg fun q=>hl q.1.1.1]
        show (forIn (List.range' (a+1) n) (st,f) (StrLaws.occBody (S l) (S [c]) hi lim)).run.fst.toList=_
        rw [occ1_aux l c hi lim hh n (a+1) _ _ (by lia) hs]
        have:lim - st.size=0:=by lia
        rw [this]
        simp
    · rw [show StrLaws.occBody (S l) (S [c]) hi lim a (st,f)=pure (ForInStep.yield (st,f)) from if_neg fun q=>hc (e1.mp ⟨q.1.2,q.2⟩)]
      show (forIn (List.range' (a+1) n) (st,f) (StrLaws.occBody (S l) (S [c]) hi lim)).run.fst.toList=_
      rw [occ1_aux l c hi lim hh n (a+1) _ _ (by lia) hs,List.filter_cons_of_neg (by simpa using hc)]
theorem occ1 (l:List Nat) (c lo hi lim:Nat) (hh:hi≤l.length):occurrences (S l) (S [c]) lo hi lim=(((List.range' lo (hi+1 - lo)).filter fun i=>decide (i < hi∧l[i]? =some c)).take lim):=by
  rw [StrLaws.occ_eq,occ1_aux l c hi lim hh _ _ _ _ (Nat.le_refl _) (Nat.zero_le _)]
  simp
theorem fromIdx_nat (n k:Nat):fromIndex n (k:Int)=k:=by
  unfold fromIndex
  rw [if_neg (Int.not_lt.mpr (Int.natCast_nonneg k)),Int.max_eq_right (Int.natCast_nonneg k)]
  rfl
theorem find4_S {l:List Nat} {c k j:Nat} (hj:j≤l.length):find4 (S l) (S [c]) (k:Int) (j:Int)=(match ((List.range' k (j+1 - k)).filter fun i=>decide (i < j∧l[i]? =some c)).take 1 with
    | k::_=>(k:Int)
    | []=>-1):=by
  unfold find4
  rw [fromIdx_nat,fromIdx_nat,S_len,Nat.min_eq_left hj,occ1 l c k j 1 hj]
  try rfl
theorem find1_some (l:List Nat) (c k j p:Nat) (hj:j≤l.length) (hk:k≤p) (hp:p < j) (hc:l[p]? =some c) (hno:∀i,k≤i→i < p→l[i]? ≠some c):find4 (S l) (S [c]) (k:Int) (j:Int)=(p:Int):=by
  rw [find4_S hj]
  obtain ⟨a,rfl⟩:=Nat.exists_eq_add_of_le hk
  obtain ⟨b,rfl⟩:=Nat.exists_eq_add_of_lt hp
  have h1:k+a+b+1+1 - k=a+(b+1+1):=by rw [Nat.add_assoc,Nat.add_assoc,Nat.add_assoc,Nat.add_sub_cancel_left,Nat.add_assoc]
  rw [h1,←List.range'_append_1,List.range'_succ,List.filter_append,List.filter_eq_nil_iff.mpr (fun i hi=>by
    rw [List.mem_range'_1] at hi
    rw [decide_eq_true_eq]
    exact fun q=>hno i hi.1 hi.2 q.2),List.nil_append,List.filter_cons_of_pos (by rw [decide_eq_true_eq];exact ⟨hp,hc⟩)]
  rfl
theorem find1_none (l:List Nat) (c k j:Nat) (hj:j≤l.length) (hno:∀i,k≤i→i < j→l[i]? ≠some c):find4 (S l) (S [c]) (k:Int) (j:Int)= -1:=by
  rw [find4_S hj,List.filter_eq_nil_iff.mpr (fun i hi=>by
    rw [List.mem_range'_1] at hi
    rw [decide_eq_true_eq]
    exact fun q=>hno i hi.1 q.1 q.2)]
  rfl
end Mine
end
section
open PySem PySem.W PyProof.Rows PySem.Builtin.Str
set_option tactic.hygienic false
open PySem.SeqAt
namespace Mine
theorem seq_next {f g:EvS} {st st1:St} (h:f st=some (.next,st1)):seqF f g st=g st1:=by simp [seqF,bindE,h]
theorem seq_ret {f g:EvS} {st st1:St} {p:PV} (h:f st=some (.ret p,st1)):seqF f g st=some (.ret p,st1):=by simp [seqF,bindE,h,pureE]
theorem seq_brk {f g:EvS} {st st1:St} (h:f st=some (.brk,st1)):seqF f g st=some (.brk,st1):=by simp [seqF,bindE,h,pureE]
theorem for_inv {i:Nat} {g:EvS} (I:Nat→St→Prop):∀(xs:List PV) (j:Nat) (st:St),I j st→(∀k p st,xs[k]? =some p→I (j+k) st→∃s2,g (st.set i (.froz p))=some (.next,s2)∧I (j+k+1) s2)→∃st',forF i g xs st=some (.next,st')∧I (j+xs.length) st'
  | [],j,st,hI,_=>⟨st,rfl,hI⟩
  | p::xs,j,st,hI,h=>by
    obtain ⟨s2,h1,h2⟩:=h 0 p st rfl (by simpa using hI)
    simp only [Nat.add_zero] at h2
    obtain ⟨st',e,q⟩:=for_inv I xs (j+1) s2 h2 (fun k q st hq hI'=>by
      have:=h (k+1) q st (by simpa using hq)
      rw [show j+(k+1)=j+1+k by lia] at this
      exact this hI')
    refine ⟨st',?_,by rw [List.length_cons,show j+(xs.length+1)=j+1+xs.length by lia];exact q⟩
    unfold forF
    rw [h1]
    exact e
theorem for_inv0 {i:Nat} {g:EvS} (I:Nat→St→Prop) {xs:List PV} {st:St} (hI:I 0 st) (h:∀k p st,xs[k]? =some p→I k st→∃s2,g (st.set i (.froz p))=some (.next,s2)∧I (k+1) s2):∃st',forF i g xs st=some (.next,st')∧I xs.length st':=by
  have:=for_inv (i:=i) (g:=g) I xs 0 st hI (fun k p st hp hI'=>by rw [Nat.zero_add] at hI' ⊢;exact h k p st hp hI')
  rw [Nat.zero_add] at this
  exact this
theorem pyEq_nil {xs:List PV} {ds:List PyData} (h:toPys xs=some ds) (hc:PyData.canLayAll0 ds=true) (hd:PyData.depthAll ds≤60):pyEq (.list xs) (.list [])=some xs.isEmpty:=by
  have e1:toPy (.list xs)=some (.list ds):=by unfold toPy;rw [h];rfl
  have e2:toPy (.list [])=some (.list []):=by unfold toPy toPys;rfl
  have s1:shaped (.list ds)=true:=by
    unfold shaped
    simp only [PyData.canLay0,PyData.depth,hc,Bool.true_and]
    exact decide_eq_true (by lia)
  have s2:shaped (.list [])=true:=by decide
  unfold pyEq
  rw [e1,e2]
  dsimp only
  rw [if_pos ⟨s1,s2⟩]
  cases xs with
  | nil=>unfold toPys at h;cases h;rfl
  | cons x xs=>
    cases ds with
    | nil=>unfold toPys at h;split at h<;>cases h
    | cons d ds=>rfl
theorem toPys_map {α:Type} (f:α→PV) (g:α→PyData):∀(l:List α),(∀x∈l,toPy (f x)=some (g x))→toPys (l.map f)=some (l.map g)
  | [],_=>by unfold toPys;rfl
  | x::l,h=>by
    rw [List.map_cons]
    unfold toPys
    rw [h x (List.mem_cons_self ..),toPys_map f g l fun y hy=>h y (List.mem_cons_of_mem _ hy)]
    rfl
theorem canAll_map {α:Type} (g:α→PyData):∀(l:List α),(∀x∈l,(g x).canLay0=true)→PyData.canLayAll0 (l.map g)=true
  | [],_=>by simp [PyData.canLayAll0]
  | x::l,h=>by simp [PyData.canLayAll0,h x (List.mem_cons_self ..),canAll_map g l fun y hy=>h y (List.mem_cons_of_mem _ hy)]
theorem depthAll_map {α:Type} (g:α→PyData) (n:Nat):∀(l:List α),(∀x∈l,(g x).depth≤n)→PyData.depthAll (l.map g)≤n
  | [],_=>by simp [PyData.depthAll]
  | x::l,h=>by
    have h1:=h x (List.mem_cons_self ..)
    have h2:=depthAll_map g n l fun y hy=>h y (List.mem_cons_of_mem _ hy)
    simp only [List.map_cons,PyData.depthAll]
    lia
theorem eqvAll_int:∀(is js:List Int),PyData.eqvAll (is.map .int) (js.map .int)=decide (is=js)
  | [],[]=>rfl
  | [],_::_=>rfl
  | _::_,[]=>rfl
  | i::is,j::js=>by
    simp only [List.map_cons,PyData.eqvAll,PyData.eqv,eqvAll_int is js]
    by_cases h1:i=j<;>by_cases h2:is=js<;>simp [h1,h2]
theorem toPys_int (is:List Int):toPys (is.map .int)=some (is.map .int):=toPys_map PV.int PyData.int is fun x _=>by unfold toPy;rfl
theorem shaped_ints (is:List Int):shaped (.list (is.map .int))=true:=by
  unfold shaped
  have h1:=canAll_map PyData.int is fun x _=>by simp [PyData.canLay0]
  have h2:=depthAll_map PyData.int 0 is fun x _=>by simp [PyData.depth]
  simp only [PyData.canLay0,PyData.depth,h1,Bool.true_and]
  exact decide_eq_true (by lia)
theorem pyEq_ints (is js:List Int):pyEq (.list (is.map .int)) (.list (js.map .int))=some (decide (is=js)):=by
  unfold pyEq
  have e:∀is:List Int,toPy (.list (is.map .int))=some (.list (is.map .int)):=fun is=>by unfold toPy;rw [toPys_int];rfl
  rw [e,e]
  dsimp only
  rw [if_pos ⟨shaped_ints is,shaped_ints js⟩]
  simp only [PyData.eqv,eqvAll_int]
theorem pyEq_bool (a b:Bool):pyEq (.bool a) (.bool b)=some (a==b):=by cases a<;>cases b<;>decide
end Mine
end
section
open PySem PySem.W PyProof.Rows PySem.SeqAt PySem.Builtin.Str
set_option tactic.hygienic false
namespace Mine
theorem run_seq {f g:EvS} {st st1:St} {r} (h:f st=some (.next,st1)) (k:g st1=r):seqF f g st=r:=by rw [seq_next h];exact k
theorem run_bind {α β:Type} {f:St→Option (α×St)} {g:α→St→Option (β×St)} {st st1:St} {a:α} {r} (h:f st=some (a,st1)) (k:g a st1=r):bindE f g st=r:=by simp only [bindE,h];exact k
theorem run_lift {α:Type} {a:α} {o:Option α} {st:St} (h:o=some a):liftE o st=some (a,st):=by subst h;rfl
theorem run_ifT {c:Prop} [Decidable c] {α:Type} {f g:St→α} {st:St} {r} (h:c) (k:f st=r):(if c then f else g) st=r:=by rw [if_pos h];exact k
theorem for_runT {i:Nat} {g:EvS} (τ:Nat→Bind→St) (hset:∀k b b',(τ k b).set i b'=τ k b'):∀(xs:List PV) (j:Nat) (b0:Bind),(∀k p,xs[k]? =some p→g (τ (j+k) (.froz p))=some (.next,τ (j+k+1) (.froz p)))→∃b,forF i g xs (τ j b0)=some (.next,τ (j+xs.length) b)
  | [],j,b0,_=>⟨b0,rfl⟩
  | p::xs,j,b0,h=>by
    have h0:=h 0 p rfl
    simp only [Nat.add_zero] at h0
    obtain ⟨b,hb⟩:=for_runT τ hset xs (j+1) (.froz p) fun k q hq=>by
      have:=h (k+1) q (by simpa using hq)
      rw [show j+(k+1)=j+1+k by lia] at this
      exact this
    refine ⟨b,?_⟩
    unfold forF
    rw [hset,h0]
    dsimp only
    rw [hb,List.length_cons,show j+1+xs.length=j+(xs.length+1) by lia]
theorem run_forIP {i:Nat} {f:EvE} {g G:EvS} {st st1:St} {p:PV} {xs:List PV} {P:Option (Fl×St)→Prop} (I:Nat→St→Prop) (h:f st=some (p,st1)) (hx:itemsOf p=some xs) (h0:I 0 st1)
    (hs:∀k p st,xs[k]? =some p→I k st→∃s2,g (st.set i (.froz p))=some (.next,s2)∧I (k+1) s2) (k:∀st2,I xs.length st2→P (G st2)):P (seqF (bindE f fun p=>bindE (liftE (itemsOf p)) fun xs=>forF i g xs) G st):=by
  obtain ⟨st2,hb,hI⟩:=for_inv0 (i:=i) (g:=g) I h0 hs
  rw [run_seq (st1:=st2) (run_bind h (run_bind (run_lift hx) hb)) rfl]
  exact k st2 hI
noncomputable def Ret (Q:PV→Prop) (o:Option (Fl×St)):Prop:=∃p st,o=some (.ret p,st)∧Q p
theorem runF_of {g:EvS} {n:Nat} {as:List PV} {Q:PV→Prop} (h:Ret Q (g (as.map .froz++List.replicate (n - as.length) .none))):∃p,runF g n as=some p∧Q p:=by
  obtain ⟨p,st,e,q⟩:=h
  exact ⟨p,by unfold runF;rw [e],q⟩
theorem pseq {P:Option (Fl×St)→Prop} {f g:EvS} {st st1:St} (h:f st=some (.next,st1)) (k:P (g st1)):P (seqF f g st):=by rw [seq_next h];exact k
theorem pret {Q:PV→Prop} {f:EvE} {g:EvS} {st st1:St} {p:PV} (h:f st=some (p,st1)) (k:Q p):Ret Q (seqF (bindE f fun p=>pureE (.ret p)) g st):=⟨p,st1,by simp [seqF,bindE,h,pureE],k⟩
theorem pfor {P:Option (Fl×St)→Prop} {i:Nat} {f:EvE} {g G:EvS} {st st1:St} {p:PV} {xs:List PV} {b0:Bind} (τ:Nat→Bind→St) (hset:∀k b b',(τ k b).set i b'=τ k b') (h:f st=some (p,st1)) (hx:itemsOf p=some xs) (h0:st1=τ 0 b0)
    (hs:∀k p,xs[k]? =some p→g (τ k (.froz p))=some (.next,τ (k+1) (.froz p))) (k:∀b,P (G (τ xs.length b))):P (seqF (bindE f fun p=>bindE (liftE (itemsOf p)) fun xs=>forF i g xs) G st):=by
  obtain ⟨b,hb⟩:=for_runT (i:=i) (g:=g) τ hset xs 0 b0 (fun k p hp=>by rw [Nat.zero_add];exact hs k p hp)
  rw [Nat.zero_add] at hb
  refine pseq (st1:=τ xs.length b) ?_ (k b)
  refine run_bind h (run_bind (run_lift hx) ?_)
  rw [h0]
  exact hb
noncomputable def Nxt (J:St→Prop) (o:Option (Fl×St)):Prop:=∃s2,o=some (.next,s2)∧J s2
theorem plast {J:St→Prop} {f:EvS} {st st1:St} (h:f st=some (.next,st1)) (k:J st1):Nxt J (seqF f (pureE .next) st):=⟨st1,by rw [seq_next h];rfl,k⟩
theorem pforI {i:Nat} {f:EvE} {g G:EvS} {st st1:St} {p:PV} {xs:List PV} {P:Option (Fl×St)→Prop} (I:Nat→St→Prop) (h:f st=some (p,st1)) (hx:itemsOf p=some xs) (h0:I 0 st1)
    (hs:∀k p st,xs[k]? =some p→I k st→Nxt (I (k+1)) (g (st.set i (.froz p)))) (k:∀st2,I xs.length st2→P (G st2)):P (seqF (bindE f fun p=>bindE (liftE (itemsOf p)) fun xs=>forF i g xs) G st):=
  run_forIP I h hx h0 hs k
theorem r_name {st:St} {i:Nat} {p:PV} (h:st[i]? =some (.froz p)):getV i st=some (p,st):=by simp only [getV,h]
theorem r_const {α:Type} {st:St} {p:α}:pureE p st=some (p,st):=rfl
theorem r_cmp {op:CmpOp} {f g:EvE} {st st1 st2:St} {a b:PV} {c:Bool} (h1:f st=some (a,st1)) (h2:g st1=some (b,st2)) (h3:cmpOp op a b=some c):cmpF op f g st=some (c,st2):=by simp only [cmpF,bindE,h1,h2,h3,liftE]
theorem r_bin {op:Operator} {f g:EvE} {st st1 st2:St} {a b c:PV} (h1:f st=some (a,st1)) (h2:g st1=some (b,st2)) (h3:binOp op a b=some c):bindE f (fun a=>bindE g fun b=>liftE (binOp op a b)) st=some (c,st2):=by simp only [bindE,h1,h2,h3,liftE]
theorem r_two {γ:Type} {o:PV→PV→Option γ} {f g:EvE} {st st1 st2:St} {a b:PV} {c:γ} (h1:f st=some (a,st1)) (h2:g st1=some (b,st2)) (h3:o a b=some c):bindE f (fun a=>bindE g fun b=>liftE (o a b)) st=some (c,st2):=by simp only [bindE,h1,h2,h3,liftE]
theorem r_call1 {m:List PV→Option PV} {f:EvE} {st st1:St} {a c:PV} (h1:f st=some (a,st1)) (h2:m [a]=some c):bindE (bindE f fun a=>bindE (pureE []) fun as=>pureE (a::as)) (fun as=>liftE (m as)) st=some (c,st1):=by simp only [bindE,h1,h2,liftE,pureE]
theorem r_len {st:St} {i:Nat} {p v:PV} (h:st[i]? =some (.froz p)) (h2:pyLen [p]=some v):ofP (lenP i) st=some (v,st):=by simp only [ofP,lenP,h,h2]
theorem r_lenO {st:St} {i:Nat} {xs:List PV} {v:PV} (h:st[i]? =some (.own xs)) (h2:pyLen [.list xs]=some v):ofP (lenP i) st=some (v,st):=by simp only [ofP,lenP,h,h2]
theorem r_item {st:St} {j:Nat} {g:St→Option PV} {p i v:PV} (h:st[j]? =some (.froz p)) (h1:g st=some i) (h2:pyItem p i=some v):ofP (ownItem j g) st=some (v,st):=by simp only [ofP,ownItem,h,h1,h2]
theorem r_itemO {st:St} {j:Nat} {g:St→Option PV} {xs:List PV} {i v:PV} (h:st[j]? =some (.own xs)) (h1:g st=some i) (h2:pyItem (.list xs) i=some v):ofP (ownItem j g) st=some (v,st):=by simp only [ofP,ownItem,h,h1,h2]
theorem r_ofP {st:St} {f:St→Option PV} {v:PV} (h:f st=some v):ofP f st=some (v,st):=by simp only [ofP,h]
theorem r_andT {f g:EvB} {st st1 st2:St} {c:Bool} (h1:f st=some (true,st1)) (h2:g st1=some (c,st2)):andF f g st=some (c,st2):=by simp only [andF,bindE,h1,if_true,h2]
theorem r_andF {f g:EvB} {st st1:St} (h1:f st=some (false,st1)):andF f g st=some (false,st1):=by simp [andF,bindE,h1,pureE]
theorem r_orF {f g:EvB} {st st1 st2:St} {c:Bool} (h1:f st=some (false,st1)) (h2:g st1=some (c,st2)):orF f g st=some (c,st2):=by simp [orF,bindE,h1,h2]
theorem r_orT {f g:EvB} {st st1:St} (h1:f st=some (true,st1)):orF f g st=some (true,st1):=by simp [orF,bindE,h1,pureE]
theorem r_ifT {α:Type} {t:EvB} {f g:St→Option (α×St)} {st st1:St} {r:Option (α×St)} (h:t st=some (true,st1)) (k:f st1=r):bindE t (fun c=>if c=true then f else g) st=r:=by simp only [bindE,h,if_true,k]
theorem r_ifF {α:Type} {t:EvB} {f g:St→Option (α×St)} {st st1:St} {r:Option (α×St)} (h:t st=some (false,st1)) (k:g st1=r):bindE t (fun c=>if c=true then f else g) st=r:=by simp [bindE,h,k]
theorem r_set {i:Nat} {f:EvE} {st st1 st2:St} {p:PV} (h:f st=some (p,st1)) (h2:st1.set i (.froz p)=st2):bindE f (fun p=>setV i p) st=some (.next,st2):=by simp only [bindE,h,setV,h2]
theorem r_aug {i:Nat} {op:Operator} {f:EvE} {st st2 st3:St} {a b c:PV} (h1:st[i]? =some (.froz a)) (h2:f st=some (b,st2)) (h3:augOp op a b=some c) (h4:st2.set i (.froz c)=st3):augF i op f st=some (.next,st3):=by simp only [augF,bindE,getV,h1,h2,h3,liftE,setV,h4]
theorem r_app {i:Nat} {f:EvE} {st st1 st2:St} {a:PV} {xs:List PV} (h1:f st=some (a,st1)) (h2:st1[i]? =some (.own xs)) (h3:xs.length≤16777215) (h4:st1.set i (.own (xs++[a]))=st2):appF i f st=some (.next,st2):=by simp only [appF,bindE,h1,h2,h3,if_true,h4]
theorem r_own0 {i:Nat} {st st2:St} (h1:noMeth i st=true) (h2:st.set i (.own [])=st2):bindE (pureE []) (fun as=>setOwn i as) st=some (.next,st2):=by simp [bindE,pureE,setOwn,h1,h2]
theorem r_slice {f:EvE} {a b c:St→Option (Option Int×St)} {st st1 st2 st3 st4:St} {p r:PV} {x y z:Option Int} (h:f st=some (p,st1)) (h1:a st1=some (x,st2)) (h2:b st2=some (y,st3)) (h3:c st3=some (z,st4)) (h4:pySlice p x y z=some r):
    bindE f (fun o=>bindE a fun x=>bindE b fun y=>bindE c fun z=>liftE (pySlice o x y z)) st=some (r,st4):=by simp only [bindE,h,h1,h2,h3,h4,liftE]
theorem bin_add (a b:Int):binOp .Add (.int a) (.int b)=some (.int (a+b)):=rfl
theorem bin_sub (a b:Int):binOp .Sub (.int a) (.int b)=some (.int (a - b)):=rfl
theorem gt_I (a b:Int):cmpOp .Gt (.int a) (.int b)=some (decide (a>b)):=rfl
theorem lt_I (a b:Int):cmpOp .Lt (.int a) (.int b)=some (decide (a < b)):=rfl
theorem ge_I (a b:Int):cmpOp .GtE (.int a) (.int b)=some (decide (a≥b)):=rfl
theorem eq_I (a b:Int):cmpOp .Eq (.int a) (.int b)=some (a==b):=rfl
theorem ne_I (a b:Int):cmpOp .NotEq (.int a) (.int b)=some (a != b):=rfl
theorem len_L (l:List PV) (h:l.length < 9223372036854775808):pyLen [.list l]=some (.int l.length):=if_pos h
theorem len_St (l:Str) (h:l.length < 9223372036854775808):pyLen [.str l]=some (.int l.length):=if_pos h
theorem r_ifbrk {t:EvB} {g:EvS} {st st1:St} (h:t st=some (true,st1)):bindE t (fun c=>if c=true then seqF (pureE .brk) (pureE .next) else g) st=some (.brk,st1):=by rw [r_ifT h rfl];rfl
theorem r_add {i j:Nat} {f:EvE} {st st1 st2:St} {a:PV} {xs:List PV} (h0:methIs j st[i]? =true) (h1:f st=some (a,st1)) (h2:methIs j st1[i]? =true) (h3:st1[j]? =some (.own xs)) (h4:xs.length≤16777215) (h5:st1.set j (.own (xs++[a]))=st2):addF i j f st=some (.next,st2):=by
  simp only [addF,h0,h1,h2,h3,h4,if_true,h5]
theorem r_not {f:EvB} {st st1:St} {b:Bool} (h:f st=some (b,st1)):bindE f (fun b=>pureE (!b)) st=some (!b,st1):=by simp only [bindE,h,pureE]
theorem r_nameT {st:St} {i:Nat} {p:PV} {b:Bool} (h:st[i]? =some (.froz p)) (h2:truthOf p=some b):nameT i st=some (b,st):=by simp only [nameT,h,h2]
noncomputable abbrev C (c:Nat):PV:=.str (S [c])
theorem len_S (l:List Nat):(S l).cps.toList=l:=by simp
end Mine
end
section
open PySem PySem.W PyProof.Rows PySem.SeqAt PySem.Builtin.Str
set_option tactic.hygienic false
namespace Mine
theorem strIdx (a b:Option Int) (n:Nat):strSliceIndices a b 1 n=(List.range (clipN b n n - clipN a 0 n)).map fun k=>clipN a 0 n+k:=by
  rw [←range_nat]
  unfold strSliceIndices
  simp only [show ((1:Int)>0)=True from by simp,if_true]
  rw [←clip_cast a 0 n 0 rfl,←clip_cast b n n n rfl]
  cases a<;>cases b<;>rfl
set_option tactic.hygienic true in
theorem strSl_S (l:List Nat) (a b:Option Int):strSl (S l) a b none=S ((l.drop (clipN a 0 l.length)).take (clipN b l.length l.length - clipN a 0 l.length)):=by
  have hl:(S l).length=l.length:=S_len l
  have e:((strSliceIndices a b 1 (S l).length).filterMap ((S l).cps[·]?))=(l.drop (clipN a 0 l.length)).take (clipN b l.length l.length - clipN a 0 l.length):=by
    rw [hl,strIdx]
    have:=picksO l (clipN a 0 l.length) (clipN b l.length l.length) (clipN_le b (Nat.le_refl _))
    rw [←this]
    congr 1
    funext x
    simp
  unfold strSl
  simp only [Option.getD_none,e]
  split
  · next h=>
    have h2:(strSliceIndices a b 1 (S l).length).length=l.length:=by
      have:=h
      simp only [Bool.and_eq_true,beq_iff_eq] at this
      rw [this.2,hl]
    rw [hl,strIdx,List.length_map,List.length_range] at h2
    have hb:=clipN_le b (Nat.le_refl l.length)
    by_cases h3:clipN a 0 l.length=0
    · rw [h3] at h2 ⊢
      rw [h2]
      simp
    · have:l.length=0:=by lia
      have:l=[]:=List.length_eq_zero_iff.mp this
      subst this
      simp
  · rfl
theorem slS (l:List Nat) (a b:Option Int) (h:l.length≤16777216):pySlice (.str (S l)) a b none=some (.str (S ((l.drop (clipN a 0 l.length)).take (clipN b l.length l.length - clipN a 0 l.length)))):=by
  unfold pySlice
  rw [if_neg (by simp)]
  dsimp only
  rw [strSl_S,if_pos]
  rw [S_len]
  exact Nat.le_trans (List.length_take_le' ..) (Nat.le_trans (by rw [List.length_drop];exact Nat.sub_le _ _) h)
theorem slL (l:List PV) (a b:Option Int) (h:l.length≤16777216):pySlice (.list l) a b none=some (.list ((l.drop (clipN a 0 l.length)).take (clipN b l.length l.length - clipN a 0 l.length))):=by
  unfold pySlice
  rw [if_neg (by simp)]
  dsimp only
  rw [listSl_eq,if_pos h]
theorem seqIdx_nat {k n:Nat} (h:k < n):seqIndex? (k:Int) n=some k:=by
  unfold seqIndex?
  rw [if_neg (Int.not_lt.mpr (Int.natCast_nonneg k))]
  exact if_pos (Bool.and_eq_true_iff.mpr ⟨decide_eq_true (Int.natCast_nonneg k),decide_eq_true (Int.ofNat_lt.mpr h)⟩)
theorem i63 {k:Nat} (h:k≤16777216): -(2 ^ 63)≤(k:Int)∧(k:Int) < 2 ^ 63:=⟨Int.le_trans (by decide) (Int.natCast_nonneg k),Int.ofNat_lt.mpr (Nat.lt_of_le_of_lt h (by decide:16777216 < 9223372036854775808))⟩
theorem pyItem_nat {o:PV} {k:Nat} (h:k≤16777216):pyItem o (.int k)=itemI k o:=by
  unfold pyItem asInt
  rw [Option.bind_some,if_pos (i63 h)]
theorem get_lt' {α:Type} {l:List α} {k:Nat} {c:α} (h:l[k]? =some c):k < l.length:=(List.getElem?_eq_some_iff.mp h).1
theorem item_S (l:List Nat) (k c:Nat) (h:l[k]? =some c) (hl:l.length≤16777216):pyItem (.str (S l)) (.int k)=some (C c):=by
  rw [pyItem_nat (Nat.le_trans (Nat.le_of_lt (get_lt' h)) hl)]
  show ((seqIndex? (k:Int) (S l).length).bind ((S l).cps[·]?)).map _=_
  rw [S_len,seqIdx_nat (get_lt' h),Option.bind_some,List.getElem?_toArray,h]
  rfl
theorem item_L (l:List PV) (k:Nat) (c:PV) (h:l[k]? =some c) (hl:l.length≤16777216):pyItem (.list l) (.int k)=some c:=by
  rw [pyItem_nat (Nat.le_trans (Nat.le_of_lt (get_lt' h)) hl)]
  show (seqIndex? (k:Int) l.length).bind _=_
  rw [seqIdx_nat (get_lt' h)]
  exact h
end Mine
end
section
open PySem PySem.W PyProof.Rows PySem.SeqAt PySem.Builtin.Str
set_option tactic.hygienic false
namespace Mine
theorem items_range (n:Nat) (h:n < 1000000000):itemsOf (.range 0 n 1)=some ((List.range n).map fun (j:Nat)=>.int j):=by
  unfold itemsOf
  have e:Builtin.Range.rangeSize 0 (n:Int) 1=n:=by
    unfold Builtin.Range.rangeSize
    simp
    lia
  simp only []
  rw [e,if_pos ⟨by simp [Builtin.Range.small,Builtin.Range.rangeFitsLong,e];lia,by lia⟩]
  simp
noncomputable def barO:List Int→Bool
  | [_,b]=>decide (b>127)
  | [a]=>decide (a>127)
  | _=>false
theorem barO_run (octs:List Int) (hl:octs.length≤2):∃a,pySlice (.list (octs.map .int)) (some (-1)) none none=some a∧gtL a (.list [.int 127])=some (.bool (barO octs)):=by
  refine ⟨_,slL _ _ _ (by rw [List.length_map];lia),?_⟩
  match octs,hl with
  | [],_=>rfl
  | [a],_=>rfl
  | [a,b],_=>rfl
  | a::b::c::l,h=>exact absurd h (by simp)
noncomputable def bitO (octs:List Int) (p:Nat):Bool:=((octs.getD (p / 8) 0).fdiv (2 ^ (p % 8))).fmod 2==1
noncomputable def toldO (octs:List Int) (base n:Nat):List Nat:=((List.range n).filter fun p=>bitO octs p != barO octs).map (base+·)
theorem told_succ (octs:List Int) (base n:Nat):toldO octs base (n+1)=toldO octs base n++(if (bitO octs n != barO octs)=true then [base+n] else []):=by
  unfold toldO
  rw [List.range_succ,List.filter_append,List.map_append]
  congr 1
  simp only [List.filter_cons,List.filter_nil]
  split<;>rfl
theorem chr_nat (a b:Nat) (h:a+b≤0x10FFFF):pyChr [.int ((a:Int)+b)]=some (C (a+b)):=by
  show (if 0≤(a:Int)+b∧(a:Int)+b≤0x10FFFF then some (C ((a:Int)+b).toNat) else none)=_
  rw [if_pos (by lia),show ((a:Int)+b).toNat=a+b by lia]
theorem told_run {octs:List Int} {base k n:Nat} (hl:octs.length≤2) (hk:k < 8 * octs.length):pyItem (.list (octs.map .int)) (.int ((k / 8:Nat):Int))=some (.int (octs.getD (k / 8) 0)):=by
  refine item_L _ _ _ ?_ (by rw [List.length_map];lia)
  rw [List.getElem?_map,List.getD_eq_getElem?_getD,List.getElem?_eq_getElem (by lia)]
  rfl
theorem range_get {n k:Nat} {p:PV} (h:((List.range n).map fun (j:Nat)=>PV.int j)[k]? =some p):k < n∧p=.int k:=by
  rcases Nat.lt_or_ge k n with h1 | h1
  · simp only [List.getElem?_map,List.getElem?_range h1,Option.map_some,Option.some.injEq] at h
    exact ⟨h1,h.symm⟩
  · rw [List.getElem?_eq_none (by simpa using h1)] at h;cases h
noncomputable def render (p:Nat×Nat):List Nat:=if p.1=p.2 then [p.1] else [p.1,45,p.2]
noncomputable def Good (p:Nat×Nat):Prop:=p.1≤p.2∧p.1≠45∧p.1≠93∧p.2≠45∧p.2≠93
structure Cov (fr bk:List Nat) (items:List (Nat×Nat)) (l:List Nat):Prop where
  frOK:fr=[]∨fr=[93]
  bkOK:bk=[]∨bk=[45]
  good:∀p∈items,Good p
  iff:∀c,c∈l↔c∈fr∨c∈bk∨∃p∈items,p.1≤c∧c≤p.2
  len:items.length≤l.length
theorem Cov.nil:Cov [] [] [] []:=⟨.inl rfl,.inl rfl,fun p h=>by simp at h,fun c=>by simp,Nat.le_refl _⟩
set_option tactic.hygienic true in
theorem Cov.sign {fr bk:List Nat} {items:List (Nat×Nat)} {l:List Nat} {c:Nat} (h:Cov fr bk items l) (hc:c ∉ l):Cov (fr++if c=93 then [93] else []) (bk++if c=45 then [45] else []) (items++if c≠93∧c≠45 then [(c,c)] else []) (l++[c]):=by
  have h1:∀x,x∈fr→x∈l:=fun x hx=>(h.iff x).mpr (.inl hx)
  have h2:∀x,x∈bk→x∈l:=fun x hx=>(h.iff x).mpr (.inr (.inl hx))
  refine ⟨?_,?_,?_,fun x=>?_,?_⟩
  · by_cases e:c=93
    · rcases h.frOK with rfl | rfl
      · exact .inr (by rw [if_pos e];rfl)
      · exact absurd (h1 c (by rw [e];exact List.mem_singleton.mpr rfl)) hc
    · rw [if_neg e,List.append_nil];exact h.frOK
  · by_cases e:c=45
    · rcases h.bkOK with rfl | rfl
      · exact .inr (by rw [if_pos e];rfl)
      · exact absurd (h2 c (by rw [e];exact List.mem_singleton.mpr rfl)) hc
    · rw [if_neg e,List.append_nil];exact h.bkOK
  · intro p hp
    rcases List.mem_append.mp hp with hp | hp
    · exact h.good p hp
    · split at hp
      · next e=>
        obtain rfl:=List.mem_singleton.mp hp
        exact ⟨Nat.le_refl _,e.2,e.1,e.2,e.1⟩
      · simp at hp
  · have hi:=h.iff x
    constructor
    · intro hx
      rcases List.mem_append.mp hx with hx | hx
      · rcases hi.mp hx with q | q | ⟨p,q,r⟩
        · exact .inl (List.mem_append_left _ q)
        · exact .inr (.inl (List.mem_append_left _ q))
        · exact .inr (.inr ⟨p,List.mem_append_left _ q,r⟩)
      · obtain rfl:=List.mem_singleton.mp hx
        by_cases e:x=93
        · exact .inl (List.mem_append_right _ (by rw [if_pos e,e];exact List.mem_singleton.mpr rfl))
        · by_cases e':x=45
          · exact .inr (.inl (List.mem_append_right _ (by rw [if_pos e',e'];exact List.mem_singleton.mpr rfl)))
          · exact .inr (.inr ⟨(x,x),List.mem_append_right _ (by rw [if_pos ⟨e,e'⟩];exact List.mem_singleton.mpr rfl),Nat.le_refl _,Nat.le_refl _⟩)
    · rintro (q | q | ⟨p,q,r⟩)
      · rcases List.mem_append.mp q with q | q
        · exact List.mem_append_left _ (hi.mpr (.inl q))
        · split at q
          · next e=>rw [e,List.mem_singleton.mp q];exact List.mem_append_right _ (List.mem_singleton.mpr rfl)
          · simp at q
      · rcases List.mem_append.mp q with q | q
        · exact List.mem_append_left _ (hi.mpr (.inr (.inl q)))
        · split at q
          · next e=>rw [e,List.mem_singleton.mp q];exact List.mem_append_right _ (List.mem_singleton.mpr rfl)
          · simp at q
      · rcases List.mem_append.mp q with q | q
        · exact List.mem_append_left _ (hi.mpr (.inr (.inr ⟨p,q,r⟩)))
        · split at q
          · obtain rfl:=List.mem_singleton.mp q
            have:x=c:=Nat.le_antisymm r.2 r.1
            rw [this];exact List.mem_append_right _ (List.mem_singleton.mpr rfl)
          · simp at q
  · have:=h.len
    simp only [List.length_append,List.length_singleton]
    split<;>simp<;>lia
theorem Cov.range {fr bk:List Nat} {items:List (Nat×Nat)} {l r:List Nat} {a b:Nat} (h:Cov fr bk items l) (hg:Good (a,b)) (hr:∀c,c∈r↔a≤c∧c≤b):Cov fr bk (items++[(a,b)]) (l++r):=by
  refine ⟨h.frOK,h.bkOK,?_,fun x=>?_,?_⟩
  · intro p hp
    rcases List.mem_append.mp hp with hp | hp
    · exact h.good p hp
    · obtain rfl:=List.mem_singleton.mp hp
      exact hg
  · have hi:=h.iff x
    constructor
    · intro hx
      rcases List.mem_append.mp hx with hx | hx
      · rcases hi.mp hx with q | q | ⟨p,q,r⟩
        · exact .inl q
        · exact .inr (.inl q)
        · exact .inr (.inr ⟨p,List.mem_append_left _ q,r⟩)
      · exact .inr (.inr ⟨(a,b),List.mem_append_right _ (List.mem_singleton.mpr rfl),(hr x).mp hx⟩)
    · rintro (q | q | ⟨p,q,z⟩)
      · exact List.mem_append_left _ (hi.mpr (.inl q))
      · exact List.mem_append_left _ (hi.mpr (.inr (.inl q)))
      · rcases List.mem_append.mp q with q | q
        · exact List.mem_append_left _ (hi.mpr (.inr (.inr ⟨p,q,z⟩)))
        · obtain rfl:=List.mem_singleton.mp q
          exact List.mem_append_right _ ((hr x).mpr z)
  · have:=h.len
    have:0 < r.length:=List.length_pos_of_mem ((hr a).mpr ⟨Nat.le_refl _,hg.1⟩)
    simp only [List.length_append,List.length_singleton]
    lia
theorem render_len (p:Nat×Nat):(render p).length≤3:=by unfold render;split<;>simp
theorem flat_len:∀items:List (Nat×Nat),(items.flatMap render).length≤3 * items.length
  | []=>by simp
  | p::l=>by
    have:=flat_len l
    have:=render_len p
    simp only [List.flatMap_cons,List.length_append,List.length_cons]
    lia
theorem of_e:PySem.Str.ofString ""=S []:=rfl
theorem of_zy:PySem.Str.ofString "z-y"=S [122,45,121]:=by rfl
theorem of_ch:PySem.Str.ofString "]-"=S [93,45]:=by rfl
theorem slL_nat (l:List PV) (a n:Nat) (h:a+n≤l.length) (hl:l.length≤16777216):pySlice (.list l) (some (a:Int)) (some ((a:Int)+(n:Int))) none=some (.list ((l.drop a).take n)):=by
  rw [slL l _ _ hl,clipN_nat,show (a:Int)+(n:Int)=((a+n:Nat):Int) by lia,clipN_nat,show min a l.length=a by lia,show min (a+n) l.length - a=n by lia]
theorem add_S (a b:List Nat) (h:a.length+b.length≤16777216):binOp .Add (.str (S a)) (.str (S b))=some (.str (S (a++b))):=by
  show (if (S a).length+(S b).length≤16777216 then some (PV.str (S a++S b)) else none)=_
  rw [S_len,S_len,if_pos h,S_app]
theorem aug_S (a b:List Nat) (h:a.length+b.length≤16777216):augOp .Add (.str (S a)) (.str (S b))=some (.str (S (a++b))):=add_S a b h
theorem aug_I (a b:Int):augOp .Add (.int a) (.int b)=some (.int (a+b)):=rfl
theorem notIn_S (c:Nat) (l:List Nat):cmpOp .NotIn (C c) (.str (S l))=some (!decide (c∈l)):=by
  show some (!strIn (S [c]) (S l))=_
  rw [strIn1]
theorem eq_S (a b:List Nat):cmpOp .Eq (.str (S a)) (.str (S b))=some (a==b):=by
  show some ((S a).cps.toList==(S b).cps.toList)=_
  rw [len_S,len_S]
theorem ord_C (c:Nat):pyOrd [C c]=some (.int c):=rfl
set_option tactic.hygienic true in
theorem get_lt {L:List Nat} (hs:L.Pairwise (· < ·)) {k c:Nat} (h:L[k]? =some c):c ∉ L.take k:=by
  intro hm
  obtain ⟨j,hj⟩:=List.mem_iff_getElem?.mp hm
  rw [List.getElem?_take] at hj
  split at hj
  · next hjk=>
    have hk:k < L.length:=by
      rcases Nat.lt_or_ge k L.length with h1 | h1
      · exact h1
      · rw [List.getElem?_eq_none h1] at h;cases h
    have:=List.pairwise_iff_getElem.mp hs j k (by lia) hk hjk
    rw [List.getElem?_eq_getElem (by lia)] at hj h
    have e1:=Option.some.inj hj
    have e2:=Option.some.inj h
    lia
  · cases hj
noncomputable def BrText (bar:Bool) (L t:List Nat):Prop:=∃(fr bk:List Nat) (items:List (Nat×Nat)),t=[91]++((if bar=true then [33] else [])++fr)++((if L.isEmpty=true then [122,45,121] else [])++items.flatMap render)++bk++[93]∧Cov fr bk items L
theorem bin_mod (a b:Int) (h:b≠0):binOp .Mod (.int a) (.int b)=some (.int (a.fmod b)):=by
  show (if b≠0 then some (PV.int (a.fmod b)) else none)=_
  rw [if_pos h]
theorem bin_fd (a b:Int) (h:b≠0∧b.natAbs < 1073741824):binOp .FloorDiv (.int a) (.int b)=some (.int (a.fdiv b)):=by
  show (if b≠0∧b.natAbs < 1073741824 then some (PV.int (a.fdiv b)) else none)=_
  rw [if_pos h]
theorem pow2_run (p:Nat) (h:p < 20):binOp .Pow (.int 2) (.int (p:Int))=some (.int (2 ^ p)):=by
  show (if 0≤(p:Int)∧(p:Int)≤1000000∧(2:Int).natAbs < 2 ^ 64 then some (PV.int (2 ^ (p:Int).toNat)) else none)=_
  rw [if_pos ⟨by lia,by lia,by decide⟩,Int.toNat_natCast]
theorem pow2_ok (p:Nat) (h:p < 20):((2:Int) ^ p)≠0∧((2:Int) ^ p).natAbs < 1073741824:=by
  match p,h with
  | 0,_ | 1,_ | 2,_ | 3,_ | 4,_ | 5,_ | 6,_ | 7,_ | 8,_ | 9,_ | 10,_ | 11,_ | 12,_ | 13,_ | 14,_ | 15,_ | 16,_ | 17,_ | 18,_ | 19,_=>decide
  | p+20,h=>exact absurd h (by lia)
end Mine
end
section
open PySem PySem.W PyProof.Rows PySem.SeqAt PySem.Builtin.Str
set_option tactic.hygienic false
namespace Mine
noncomputable abbrev fN (n:Nat):Bind:=.froz (.int ((n:Nat):Int))
noncomputable abbrev fS (l:List Nat):Bind:=.froz (.str (S l))
theorem lt_T (x n:Nat) (h:x < n):cmpOp .Lt (.int (x:Int)) (.int (n:Int))=some true:=by rw [lt_I,decide_eq_true (by lia)]
theorem lt_F (x n:Nat) (h:¬ x < n):cmpOp .Lt (.int (x:Int)) (.int (n:Int))=some false:=by rw [lt_I,decide_eq_false (by lia)]
noncomputable def Ev {α:Type} (f:St→Option (α×St)) (st:St) (v:α):Prop:=f st=some (v,st)
noncomputable def Do (f:EvS) (st st':St):Prop:=f st=some (.next,st')
noncomputable def kN (i:Nat):EvE:=getV i
noncomputable def kI (n:Int):EvE:=pureE (.int n)
noncomputable def kS (l:List Nat):EvE:=pureE (.str (S l))
noncomputable def kBin (op:Operator) (f g:EvE):EvE:=bindE f fun a=>bindE g fun b=>liftE (binOp op a b)
noncomputable def kCmp (op:CmpOp) (f g:EvE):EvB:=cmpF op f g
noncomputable def kIt (f g:EvE):EvE:=bindE f fun a=>bindE g fun b=>liftE (pyItem a b)
noncomputable def kLen (i:Nat):EvE:=ofP (lenP i)
noncomputable def kOwn (i:Nat) (g:St→Option PV):EvE:=ofP (ownItem i g)
noncomputable def kA1 (f:EvE):St→Option (List PV×St):=bindE f fun a=>bindE (pureE []) fun as=>pureE (a::as)
noncomputable def kA2 (f g:EvE):St→Option (List PV×St):=bindE f fun a=>bindE (kA1 g) fun as=>pureE (a::as)
noncomputable def kA3 (f g h:EvE):St→Option (List PV×St):=bindE f fun a=>bindE (kA2 g h) fun as=>pureE (a::as)
noncomputable def kF (m:List PV→Option PV) (as:St→Option (List PV×St)):EvE:=bindE as fun as=>liftE (m as)
noncomputable def kM (f:EvE) (m:PV→List PV→Option PV) (as:St→Option (List PV×St)):EvE:=bindE f fun o=>bindE as fun as=>liftE (m o as)
noncomputable def kAs (f:EvE):St→Option (Option Int×St):=bindE f fun p=>liftE (asI p)
noncomputable def kNo:St→Option (Option Int×St):=pureE none
noncomputable def kSl (f:EvE) (a b:St→Option (Option Int×St)):EvE:=bindE f fun o=>bindE a fun x=>bindE b fun y=>bindE kNo fun z=>liftE (pySlice o x y z)
noncomputable def kP2 (op:Operator) (f g:St→Option PV):St→Option PV:=fun st=>match f st,g st with
  | some a,some b=>binOp op a b
  | _,_=>none
noncomputable def kV (f:EvE) (g:St→Option (List El×St)):St→Option (List El×St):=bindE f fun a=>bindE g fun as=>pureE (El.froz a::as)
noncomputable def kCV (op:CmpOp) (f g:EvE):EvE:=bindE (cmpF op f g) fun b=>pureE (PV.bool b)
noncomputable def kIf {α:Type} (t:EvB) (f g:St→Option (α×St)):St→Option (α×St):=bindE t fun c=>if c=true then f else g
noncomputable def kNot (t:EvB):EvB:=bindE t fun b=>pureE (!b)
noncomputable def dSet (i:Nat) (f:EvE):EvS:=bindE f fun p=>setV i p
noncomputable def dNil:EvS:=pureE .next
noncomputable def dBrk:EvS:=pureE .brk
noncomputable def dFor (i:Nat) (f:EvE) (g:EvS):EvS:=bindE f fun p=>bindE (liftE (itemsOf p)) fun xs=>forF i g xs
section
variable {st st' st1 st2:St} {f g:EvE} {a b c p v:PV} {i j:Nat}
theorem q_N (h:st[i]? =some (.froz p)):Ev (kN i) st p:=r_name h
theorem q_I {n:Int}:Ev (kI n) st (.int n):=rfl
theorem q_S {l:List Nat}:Ev (kS l) st (.str (S l)):=rfl
theorem ev2 {α β γ:Type} {f:St→Option (α×St)} {g:St→Option (β×St)} {m:α→β→Option γ} {a:α} {b:β} {c:γ} (h1:Ev f st a) (h2:Ev g st b) (h3:m a b=some c):Ev (bindE f fun a=>bindE g fun b=>liftE (m a b)) st c:=by
  unfold Ev at *
  simp only [bindE,h1,h2,h3,liftE]
theorem ev1 {α γ:Type} {f:St→Option (α×St)} {m:α→Option γ} {a:α} {c:γ} (h1:Ev f st a) (h3:m a=some c):Ev (bindE f fun a=>liftE (m a)) st c:=by
  unfold Ev at *
  simp only [bindE,h1,h3,liftE]
theorem q_Bin {op:Operator} (h1:Ev f st a) (h2:Ev g st b) (h3:binOp op a b=some c):Ev (kBin op f g) st c:=ev2 h1 h2 h3
theorem q_Cmp {op:CmpOp} {c:Bool} (h1:Ev f st a) (h2:Ev g st b) (h3:cmpOp op a b=some c):Ev (kCmp op f g) st c:=ev2 h1 h2 h3
theorem q_It (h1:Ev f st a) (h2:Ev g st b) (h3:pyItem a b=some c):Ev (kIt f g) st c:=ev2 h1 h2 h3
theorem q_Len (h:st[i]? =some (.froz p)) (h2:pyLen [p]=some v):Ev (kLen i) st v:=r_len h h2
theorem q_LenO {xs:List PV} (h:st[i]? =some (.own xs)) (h2:pyLen [.list xs]=some v):Ev (kLen i) st v:=r_lenO h h2
theorem q_Own {g:St→Option PV} (h:st[i]? =some (.froz p)) (h1:g st=some a) (h2:pyItem p a=some v):Ev (kOwn i g) st v:=r_item h h1 h2
theorem q_OwnO {g:St→Option PV} {xs:List PV} (h:st[i]? =some (.own xs)) (h1:g st=some a) (h2:pyItem (.list xs) a=some v):Ev (kOwn i g) st v:=r_itemO h h1 h2
theorem q_A1 (h:Ev f st a):Ev (kA1 f) st [a]:=by
  unfold Ev kA1 at *
  simp only [bindE,h,pureE]
theorem q_Acons {g:St→Option (List PV×St)} {as:List PV} (h:Ev f st a) (h2:Ev g st as):Ev (bindE f fun a=>bindE g fun as=>pureE (a::as)) st (a::as):=by
  unfold Ev at *
  simp only [bindE,h,h2,pureE]
theorem q_A2 {h:EvE} (h1:Ev f st a) (h2:Ev g st b):Ev (kA2 f g) st [a,b]:=q_Acons h1 (q_A1 h2)
theorem q_A3 {h:EvE} (h1:Ev f st a) (h2:Ev g st b) (h3:Ev h st c):Ev (kA3 f g h) st [a,b,c]:=q_Acons h1 (q_A2 (h:=h) h2 h3)
theorem q_F {m:List PV→Option PV} {as:St→Option (List PV×St)} {xs:List PV} (h1:Ev as st xs) (h2:m xs=some v):Ev (kF m as) st v:=ev1 h1 h2
theorem q_M {m:PV→List PV→Option PV} {as:St→Option (List PV×St)} {xs:List PV} (h:Ev f st a) (h1:Ev as st xs) (h2:m a xs=some v):Ev (kM f m as) st v:=ev2 h h1 h2
theorem q_As {o:Option Int} (h:Ev f st a) (h2:asI a=some o):Ev (kAs f) st o:=ev1 h h2
theorem q_No:Ev kNo st none:=rfl
theorem q_Sl {x y:St→Option (Option Int×St)} {u w:Option Int} (h:Ev f st a) (h1:Ev x st u) (h2:Ev y st w) (h3:pySlice a u w none=some c):Ev (kSl f x y) st c:=r_slice h h1 h2 rfl h3
theorem q_V {g:St→Option (List El×St)} {es:List El} (h:Ev f st a) (k:Ev g st es):Ev (kV f g) st (.froz a::es):=by
  unfold Ev kV at *
  simp only [bindE,h,k,pureE]
theorem q_CV {op:CmpOp} {c:Bool} (h1:Ev f st a) (h2:Ev g st b) (h3:cmpOp op a b=some c):Ev (kCV op f g) st (.bool c):=by
  unfold Ev kCV
  rw [run_bind (show cmpF op f g st=some (c,st) from ev2 h1 h2 h3) rfl]
  rfl
theorem q_IfT {α:Type} {t:EvB} {f g:St→Option (α×St)} {v:α} (h:Ev t st true) (k:Ev f st v):Ev (kIf t f g) st v:=r_ifT h k
theorem q_IfF {α:Type} {t:EvB} {f g:St→Option (α×St)} {v:α} (h:Ev t st false) (k:Ev g st v):Ev (kIf t f g) st v:=r_ifF h k
theorem q_If {t:EvB} {f g:EvE} {b:Bool} {x y:PV} (h:Ev t st b) (k1:Ev f st x) (k2:Ev g st y):Ev (kIf t f g) st (if b=true then x else y):=match b,h with
  | true,h=>r_ifT h k1
  | false,h=>r_ifF h k2
theorem q_AndT {s t:EvB} {b:Bool} (h:Ev s st true) (k:Ev t st b):Ev (andF s t) st b:=r_andT h k
theorem q_AndF {s t:EvB} (h:Ev s st false):Ev (andF s t) st false:=r_andF h
theorem q_Not {t:EvB} {b:Bool} (h:Ev t st b):Ev (kNot t) st (!b):=r_not h
theorem q_T {b:Bool} (h:st[i]? =some (.froz p)) (h2:truthOf p=some b):Ev (nameT i) st b:=r_nameT h h2
theorem D_seq {f g:EvS} (h:Do f st st1) (k:Do g st1 st2):Do (seqF f g) st st2:=run_seq h k
theorem D_one {f:EvS} (h:Do f st st1):Do (seqF f dNil) st st1:=run_seq h rfl
theorem D_nil:Do dNil st st:=rfl
theorem D_set (h:Ev f st v) (h2:st.set i (.froz v)=st'):Do (dSet i f) st st':=r_set h h2
theorem D_IfT {t:EvB} {f g:EvS} (h:Ev t st true) (k:Do f st st1):Do (kIf t f g) st st1:=r_ifT h k
theorem D_IfF {t:EvB} {f g:EvS} (h:Ev t st false) (k:Do g st st1):Do (kIf t f g) st st1:=r_ifF h k
theorem D_aug {op:Operator} (h1:st[i]? =some (.froz a)) (h2:Ev f st b) (h3:augOp op a b=some c) (h4:st.set i (.froz c)=st'):Do (augF i op f) st st':=r_aug h1 h2 h3 h4
theorem D_app {xs:List PV} (h1:Ev f st a) (h2:st[i]? =some (.own xs)) (h3:xs.length≤16777215) (h4:st.set i (.own (xs++[a]))=st'):Do (appF i f) st st':=r_app h1 h2 h3 h4
theorem D_add {xs:List PV} (h0:methIs j st[i]? =true) (h1:Ev f st a) (h3:st[j]? =some (.own xs)) (h4:xs.length≤16777215) (h5:st.set j (.own (xs++[a]))=st'):Do (addF i j f) st st':=r_add h0 h1 h0 h3 h4 h5
theorem D_wF {t:EvB} {b:EvS} {n:Nat} (h:Ev t st false):Do (whileF t b (n+1)) st st:=run_bind h rfl
theorem D_wT {t:EvB} {b:EvS} {n:Nat} (h:Ev t st true) (h1:Do b st st1) (h2:Do (whileF t b n) st1 st2):Do (whileF t b (n+1)) st st2:=by
  refine run_bind h (run_ifT rfl (run_bind h1 ?_))
  exact h2
theorem D_wB {t:EvB} {b:EvS} {n:Nat} (h:Ev t st true) (h1:b st=some (.brk,st1)):Do (whileF t b (n+1)) st st1:=by
  refine run_bind h (run_ifT rfl (run_bind h1 ?_))
  rfl
theorem D_for {g:EvS} (τ:Nat→Bind→St) (hset:∀k b b',(τ k b).set i b'=τ k b'):∀(xs:List PV) (j:Nat) (b0:Bind),(∀k p,xs[k]? =some p→Do g (τ (j+k) (.froz p)) (τ (j+k+1) (.froz p)))→∃b,Do (forF i g xs) (τ j b0) (τ (j+xs.length) b):=for_runT τ hset
theorem D_forI {f:EvE} {g:EvS} {xs:List PV} (I:Nat→St→Prop) (h:Ev f st p) (hx:itemsOf p=some xs) (h0:I 0 st) (hs:∀k p st,xs[k]? =some p→I k st→∃s2,Do g (st.set i (.froz p)) s2∧I (k+1) s2):∃st2,Do (dFor i f g) st st2∧I xs.length st2:=
  have ⟨st2,hb,hI⟩:=for_inv0 (i:=i) (g:=g) I h0 hs
  ⟨st2,run_bind h (run_bind (run_lift hx) hb),hI⟩
theorem D_forE {f:EvE} {g:EvS} {xs:List PV} (h:Ev f st p) (h2:itemsOf p=some xs) (k:Do (forF i g xs) st st1):Do (dFor i f g) st st1:=by
  unfold Do dFor
  rw [run_bind h (run_bind (run_lift h2) k)]
end
theorem len_C {L:List Nat} (h:L.length≤100000):pyLen [.list (L.map C)]=some (.int L.length):=by rw [len_L _ (by rw [List.length_map];lia),List.length_map]
theorem item_C {L:List Nat} {k c:Nat} (hL:L.length≤100000) (h:L[k]? =some c):pyItem (.list (L.map C)) (.int (k:Int))=some (C c):=item_L _ _ _ (by rw [List.getElem?_map,h];rfl) (by rw [List.length_map];lia)
theorem ite_S (b:Bool) (c:Nat):(if b=true then C c else .str (S []))=.str (S (if b=true then [c] else [])):=by cases b<;>rfl
end Mine
end
section
open PySem PySem.W PyProof.Rows PySem.SeqAt PySem.Builtin.Str
set_option tactic.hygienic false
namespace Mine
noncomputable def esc (c:Nat):List Nat:=if c=92 then [92,92] else if c=45 then [92,45] else [c]
noncomputable def escR (l:List Nat):List Nat:=l.flatMap esc
noncomputable def renE (p:Nat×Nat):List Nat:=if p.1=p.2 then esc p.1 else esc p.1++45::esc p.2
noncomputable def e92 (c:Nat):List Nat:=if c=92 then [92,92] else [c]
theorem esc_two (l:List Nat):(l.flatMap e92).flatMap (fun d=>if d=45 then [92,45] else [d])=escR l:=by
  unfold escR
  rw [List.flatMap_assoc]
  congr 1
  funext c
  unfold e92 esc
  by_cases h:c=92
  · simp [h]
  · by_cases h2:c=45<;>simp [h,h2]
theorem escR_append (a b:List Nat):escR (a++b)=escR a++escR b:=by unfold escR;rw [List.flatMap_append]
theorem escR_one (c:Nat):escR [c]=esc c:=by simp [escR]
theorem escR_free:∀l:List Nat,45 ∉ l→l.flatMap e92=escR l
  | [],_=>rfl
  | c::l,h=>by
    rw [List.mem_cons,not_or] at h
    have ih:=escR_free l h.2
    unfold escR at ih ⊢
    rw [List.flatMap_cons,List.flatMap_cons,ih]
    congr 1
    unfold e92 esc
    split
    · rfl
    · rw [if_neg (fun e=>h.1 e.symm)]
noncomputable def segs (bk:List Nat):List Nat→List (Nat×Nat)→List (List Nat)
  | cur,[]=>[cur++bk]
  | cur,p::r=>if p.1=p.2 then segs bk (cur++[p.1]) r else (cur++[p.1])::segs bk [p.2] r
noncomputable def joinH:List (List Nat)→List Nat
  | []=>[]
  | [x]=>x
  | x::y::r=>x++45::joinH (y::r)
theorem segs_ne (bk:List Nat):∀(items:List (Nat×Nat)) (cur:List Nat),segs bk cur items≠[]
  | [],cur=>by unfold segs;simp
  | p::r,cur=>by
    unfold segs
    split
    · exact segs_ne bk r _
    · simp
theorem joinH_cons (x:List Nat) {l:List (List Nat)} (h:l≠[]):joinH (x::l)=x++45::joinH l:=by
  cases l with
  | nil=>exact absurd rfl h
  | cons y r=>rfl
theorem join_segs (bk:List Nat):∀(items:List (Nat×Nat)) (cur:List Nat),joinH ((segs bk cur items).map escR)=escR cur++items.flatMap renE++escR bk
  | [],cur=>by
    unfold segs
    simp [joinH,escR_append]
  | p::r,cur=>by
    unfold segs
    rw [List.flatMap_cons]
    by_cases h:p.1=p.2
    · rw [if_pos h,join_segs bk r,escR_append,escR_one]
      simp [renE,h]
    · rw [if_neg h,List.map_cons,joinH_cons _ (by simpa using segs_ne bk r _),join_segs bk r,escR_append,escR_one,escR_one]
      simp [renE,h]
theorem txt_joinH:∀l:List (List Nat),PySem.Str.join (S [45]) (l.map S)=S (joinH l)
  | []=>rfl
  | [x]=>rfl
  | x::y::r=>by
    have ih:=txt_joinH (y::r)
    show S x++S [45]++PySem.Str.join (S [45]) ((y::r).map S)=_
    rw [ih,S_app,S_app]
    simp [joinH]
theorem free_flat:∀items:List (Nat×Nat),45 ∉ items.flatMap render→escR (items.flatMap render)=items.flatMap renE
  | [],_=>rfl
  | p::r,h=>by
    rw [List.flatMap_cons,List.mem_append,not_or] at h
    rw [List.flatMap_cons,List.flatMap_cons,escR_append,free_flat r h.2]
    congr 1
    have h1:=h.1
    unfold render at h1 ⊢
    unfold renE
    by_cases e:p.1=p.2
    · rw [if_pos e,if_pos e,escR_one]
    · rw [if_neg e] at h1
      exact absurd (by simp) h1
theorem no_hyphen {cur bk:List Nat} {items:List (Nat×Nat)} (h:45 ∉ cur++items.flatMap render++bk):(cur++items.flatMap render++bk).flatMap e92=escR cur++items.flatMap renE++escR bk:=by
  rw [escR_free _ h,escR_append,escR_append,free_flat]
  intro m
  exact h (List.mem_append_left _ (List.mem_append_right _ m))
theorem segs_nil {bk cur:List Nat}:segs bk cur []=[cur++bk]:=by rw [segs]
theorem segs_up {bk:List Nat}:∀(items:List (Nat×Nat)) (cur:List Nat) (k:Nat) (x y:List Nat),(∀p∈items,p.1≤p.2)→(segs bk cur items)[k]? =some x→(segs bk cur items)[k+1]? =some y→∃x' a b y',x=x'++[a]∧y=b::y'∧a < b
  | [],cur,k,x,y,_,h1,h2=>by
    rw [segs_nil] at h2
    simp at h2
  | p::r,cur,k,x,y,hg,h1,h2=>by
    rw [segs] at h1 h2
    have hg':∀q∈r,q.1≤q.2:=fun q hq=>hg q (List.mem_cons_of_mem _ hq)
    by_cases e:p.1=p.2
    · rw [if_pos e] at h1 h2
      exact segs_up r _ k x y hg' h1 h2
    · rw [if_neg e] at h1 h2
      cases k with
      | zero=>
        simp only [List.getElem?_cons_zero,Option.some.injEq] at h1
        simp only [List.getElem?_cons_succ] at h2
        obtain ⟨y',hy⟩:=seg_head r p.2 [] y h2
        exact ⟨cur,p.1,p.2,y',h1.symm,hy,by have:=hg p (List.mem_cons_self ..);lia⟩
      | succ k=>
        simp only [List.getElem?_cons_succ] at h1 h2
        exact segs_up r _ k x y hg' h1 h2
where
  seg_head {bk:List Nat}:∀(items:List (Nat×Nat)) (c:Nat) (l y:List Nat),(segs bk (c::l) items)[0]? =some y→∃y',y=c::y'
    | [],c,l,y,h=>by
      rw [segs_nil] at h
      simp at h
      exact ⟨l++bk,h.symm⟩
    | p::r,c,l,y,h=>by
      rw [segs] at h
      split at h
      · exact seg_head r c (l++[p.1]) y h
      · simp at h
        exact ⟨l++[p.1],h.symm⟩
theorem segs_len {bk:List Nat}:∀(items:List (Nat×Nat)) (cur:List Nat),(segs bk cur items).length≤items.length+1
  | [],cur=>by rw [segs_nil];simp
  | p::r,cur=>by
    rw [segs]
    split
    · have:=segs_len (bk:=bk) r (cur++[p.1]);simp only [List.length_cons];lia
    · have:=segs_len (bk:=bk) r [p.2];simp only [List.length_cons];lia
end Mine
namespace Mine
set_option tactic.hygienic true in
theorem segs_le {bk:List Nat}:∀(items:List (Nat×Nat)) (cur:List Nat),∀q∈segs bk cur items,q.length≤cur.length+(items.flatMap render).length+bk.length
  | [],cur,q,h=>by
    rw [segs_nil] at h
    obtain rfl:=List.mem_singleton.mp h
    simp
  | p::r,cur,q,h=>by
    have h1:1≤(render p).length:=by unfold render;split<;>simp
    rw [segs] at h
    simp only [List.flatMap_cons,List.length_append]
    split at h
    · have:=segs_le r (cur++[p.1]) q h
      simp only [List.length_append,List.length_singleton] at this
      lia
    · next hne=>
      have h3:(render p).length=3:=by unfold render;rw [if_neg hne];rfl
      rcases List.mem_cons.mp h with rfl | h
      · simp only [List.length_append,List.length_singleton];lia
      · have:=segs_le r [p.2] q h
        simp only [List.length_singleton] at this
        lia
theorem esc_len (c : Nat) : (esc c).length ≤ 2 := by unfold esc; split; · simp
                                                     · split<;>simp
theorem escR_len:∀l:List Nat,(escR l).length≤2 * l.length
  | []=>by simp [escR]
  | c::l=>by
    have h1:=escR_len l
    have h2:=esc_len c
    have e:escR (c::l)=esc c++escR l:=by simp [escR]
    rw [e,List.length_append,List.length_cons]
    lia
theorem e92_len:∀l:List Nat,(l.flatMap e92).length≤2 * l.length
  | []=>by simp
  | c::l=>by
    have h1:=e92_len l
    have h2:(e92 c).length≤2:=by unfold e92;split<;>simp
    rw [List.flatMap_cons,List.length_append,List.length_cons]
    lia
theorem sum_le (M:Nat):∀l:List Nat,(∀x∈l,x≤M)→l.sum≤l.length * M
  | [],_=>by simp
  | x::l,h=>by
    have h1:=h x (List.mem_cons_self ..)
    have h2:=sum_le M l fun y hy=>h y (List.mem_cons_of_mem _ hy)
    rw [List.sum_cons,List.length_cons,Nat.succ_mul]
    lia
theorem allOf_str:∀l:List (List Nat),allOf asStr (l.map fun q=>PV.str (S q))=some (l.map S)
  | []=>rfl
  | q::l=>by
    rw [List.map_cons,List.map_cons]
    unfold allOf
    rw [allOf_str l]
    rfl
noncomputable abbrev repF (y:PySem.Str):PySem.Str:=Txt.replace (Txt.replace y (S [92]) (S [92,92])) (S [45]) (S [92,45])
theorem repF_S (q:List Nat):repF (S q)=S (escR q):=by
  unfold repF
  rw [replace_S,replace_S]
  exact congrArg S (esc_two q)
theorem joinG_S (l:List (List Nat)) (h:∀q∈l,q.length≤900) (hl:l.length≤900):joinG (okR (S [92,92]) (S [92,45]) (S [92])) repF (S [45]) (.list (l.map fun q=>.str (S q)))=some (.str (S (joinH (l.map escR)))):=by
  unfold joinG
  simp only [allOf_str]
  have e1:(l.map S).map repF=(l.map escR).map S:=by
    rw [List.map_map,List.map_map]
    exact List.map_congr_left fun q _=>repF_S q
  have h1:(l.map S).all (okR (S [92,92]) (S [92,45]) (S [92]))=true:=by
    rw [List.all_eq_true]
    intro y hy
    obtain ⟨q,hq,rfl⟩:=List.mem_map.mp hy
    have:=h q hq
    unfold okR
    have e:Txt.replace (S q) (S [92]) (S [92,92])=S (q.flatMap e92):=replace_S ..
    have e3:=e92_len q
    rw [e,S_len,S_len,Bool.and_eq_true,decide_eq_true_eq,decide_eq_true_eq]
    simp only [S_len,List.length_cons,List.length_nil]
    lia
  have hjo:JoinOk (S [45]) ((l.map escR).map S)=true:=by
    refine joinOk_of ?_
    have hs:=sum_le 1800 (((l.map escR).map S).map (·.length)) (by
      intro x hx
      rw [List.map_map,List.map_map] at hx
      obtain ⟨q,hq,rfl⟩:=List.mem_map.mp hx
      have:=h q hq
      have:=escR_len q
      simp only [Function.comp,S_len]
      lia)
    simp only [List.length_map,S_len,List.length_singleton] at hs ⊢
    lia
  rw [e1,if_pos ⟨h1,by rw [List.length_map];lia,hjo⟩]
  show some (PV.str (glued (S [45]) ((l.map escR).map S)))=_
  rw [StrLaws.glued_eq_join,txt_joinH]
theorem gt_C (a b:Nat):cmpOp .Gt (C a) (C b)=some (decide (b < a)):=by
  show some (decide ((S [b]).cps.toList < (S [a]).cps.toList))=_
  rw [len_S,len_S]
  congr 2
  simp [List.cons_lt_cons_iff]
theorem seqIdx_last (n:Nat):seqIndex? (-1) (n+1)=some n:=by
  have e:(-1:Int)+((n+1:Nat):Int)=n:=(Int.add_comm _ _).trans (show ((n:Int)+1)+(-1)=n from Int.add_sub_cancel (n:Int) 1)
  unfold seqIndex?
  rw [if_pos (show (-1:Int) < 0 by decide),e]
  exact if_pos (Bool.and_eq_true_iff.mpr ⟨decide_eq_true (Int.natCast_nonneg n),decide_eq_true (Int.ofNat_lt.mpr (Nat.lt_succ_self n))⟩)
theorem item_last (x:List Nat) (a:Nat) (h:x.length≤1000):pyItem (.str (S (x++[a]))) (.int (-1))=some (C a):=by
  show ((seqIndex? (-1) (S (x++[a])).length).bind ((S (x++[a])).cps[·]?)).map _=_
  rw [S_len,List.length_append,List.length_singleton,seqIdx_last,Option.bind_some,List.getElem?_toArray,List.getElem?_append_right (Nat.le_refl _),Nat.sub_self]
  rfl
theorem items_down (m:Nat) (h:m < 1000000000):itemsOf (.range m 0 (-1))=some ((List.range m).map fun (j:Nat)=>.int ((m:Int)+(j:Int) * (-1))):=by
  unfold itemsOf
  have e:Builtin.Range.rangeSize (m:Int) 0 (-1)=m:=by
    unfold Builtin.Range.rangeSize
    simp
    lia
  simp only []
  rw [e,if_pos ⟨by simp [Builtin.Range.small,Builtin.Range.rangeFitsLong,e];lia,by lia⟩]
  simp
end Mine
end
section
open PySem PySem.W PyProof.Rows PySem.SeqAt PySem.Builtin.Str
set_option tactic.hygienic false
namespace Mine
theorem r_one {o:PV→Option PV} {f:EvE} {st st1:St} {a c:PV} (h:f st=some (a,st1)) (h2:o a=some c):bindE f (fun a=>liftE (o a)) st=some (c,st1):=by simp only [bindE,h,h2,liftE]
theorem r_f3 (st:St) (x:List Nat) (i:Nat) (h:st[i]? =some (.froz (.str (S x)))) (hl:x.length≤100000) (a z:List Nat) (ha:a.length≤10) (hz:z.length≤10):
 (bindE (pureE (PV.str (S a))) fun p=>bindE (liftE (partOf p)) fun y=>if (S []++y).length≤16777216 then (bindE (bindE (getV i) fun p=>liftE (fmtOf p)) fun p=>bindE (liftE (partOf p)) fun y_1=>if (S []++y++y_1).length≤16777216 then bindE (pureE (PV.str (S z))) fun p=>bindE (liftE (partOf p)) fun y_2=>if (S []++y++y_1++y_2).length≤16777216 then (if (S []++y++y_1++y_2).length≤16777216 then pureE (PV.str (S []++y++y_1++y_2)) else fun _=>none) else fun _=>none else fun _=>none) else fun _=>none) st=some (.str (S (a++x++z)),st):=by
  refine run_bind r_const (run_bind (run_lift rfl) ?_)
  rw [if_pos (by rw [S_app,S_len];simp only [List.length_append,List.length_nil];lia)]
  refine run_bind (r_one (r_name h) (c:=.str (S x)) (by show (if (S x).length≤16777216 then some (PV.str (S x)) else none)=_;rw [S_len,if_pos (by lia)])) (run_bind (run_lift rfl) ?_)
  rw [if_pos (by rw [S_app,S_app,S_len];simp only [List.length_append,List.length_nil];lia)]
  refine run_bind r_const (run_bind (run_lift rfl) ?_)
  rw [if_pos (by rw [S_app,S_app,S_app,S_len];simp only [List.length_append,List.length_nil];lia),if_pos (by rw [S_app,S_app,S_app,S_len];simp only [List.length_append,List.length_nil];lia)]
  rw [S_app,S_app,S_app,List.nil_append]
  rfl
theorem renE_len:∀items:List (Nat×Nat),(items.flatMap renE).length≤5 * items.length
  | []=>by simp
  | p::r=>by
    have h1:=renE_len r
    have h2:=esc_len p.1
    have h3:=esc_len p.2
    have h4:(renE p).length≤5:=by
      unfold renE
      split
      · lia
      · simp only [List.length_append,List.length_cons];lia
    rw [List.flatMap_cons,List.length_append,List.length_cons]
    lia
set_option tactic.hygienic true in
theorem esc_mem {c x:Nat} (h:x∈esc c):x=92∨x=c:=by
  unfold esc at h
  split at h
  · simp at h;exact .inl h
  · split at h
    · next e=>simp at h;lia
    · simp at h;exact .inr h
theorem escR_mem {l:List Nat} {x:Nat} (h:x∈escR l):x=92∨x∈l:=by
  obtain ⟨c,hc,hx⟩:=List.mem_flatMap.mp h
  rcases esc_mem hx with q | q
  · exact .inl q
  · exact .inr (q ▸ hc)
set_option tactic.hygienic true in
theorem renE_mem {items:List (Nat×Nat)} {x:Nat} (h:x∈items.flatMap renE):x=92∨x∈items.flatMap render:=by
  obtain ⟨p,hp,hx⟩:=List.mem_flatMap.mp h
  unfold renE at hx
  split at hx
  · next e=>
    rcases esc_mem hx with q | q
    · exact .inl q
    · exact .inr (List.mem_flatMap.mpr ⟨p,hp,by unfold render;rw [if_pos e,q];exact List.mem_singleton.mpr rfl⟩)
  · next e=>
    rcases List.mem_append.mp hx with hx | hx
    · rcases esc_mem hx with q | q
      · exact .inl q
      · exact .inr (List.mem_flatMap.mpr ⟨p,hp,by unfold render;rw [if_neg e,q];exact List.mem_cons_self ..⟩)
    · rcases List.mem_cons.mp hx with q | hx
      · exact .inr (List.mem_flatMap.mpr ⟨p,hp,by unfold render;rw [if_neg e,q];simp⟩)
      · rcases esc_mem hx with q | q
        · exact .inl q
        · exact .inr (List.mem_flatMap.mpr ⟨p,hp,by unfold render;rw [if_neg e,q];simp⟩)
theorem subL_mem {l:List Nat} {x:Nat} (h:x∈subL l):x=92∨x∈l:=by
  obtain ⟨c,hc,hx⟩:=List.mem_flatMap.mp h
  split at hx
  · simp at hx
    rcases hx with q | q
    · exact .inl q
    · exact .inr (q ▸ hc)
  · simp at hx
    exact .inr (q_eq hx hc)
where q_eq {c x:Nat} {l:List Nat} (h:x=c) (hc:c∈l):x∈l:=h ▸ hc
theorem esc_ne (c:Nat):esc c≠[]:=by
  unfold esc
  split
  · simp
  · split<;>simp
theorem T_ne {fr bk:List Nat} {items:List (Nat×Nat)} (h:fr++items.flatMap render++bk≠[]):subL (escR fr++items.flatMap renE++escR bk)≠[]:=by
  have h1:∀l:List Nat,escR l=[]→l=[]:=fun l e=>by
    cases l with
    | nil=>rfl
    | cons c l=>
      have:escR (c::l)=esc c++escR l:=by simp [escR]
      rw [this] at e
      exact absurd (List.append_eq_nil_iff.mp e).1 (esc_ne c)
  have h2:∀its:List (Nat×Nat),its.flatMap renE=[]→its=[]:=fun its e=>by
    cases its with
    | nil=>rfl
    | cons p r=>
      rw [List.flatMap_cons] at e
      have:=(List.append_eq_nil_iff.mp e).1
      unfold renE at this
      split at this
      · exact absurd this (esc_ne _)
      · exact absurd this (by simp)
  have h3:∀l:List Nat,subL l=[]→l=[]:=fun l e=>by
    cases l with
    | nil=>rfl
    | cons c l=>
      unfold subL at e
      rw [List.flatMap_cons] at e
      have:=(List.append_eq_nil_iff.mp e).1
      split at this<;>exact absurd this (by simp)
  intro e
  have e1:=h3 _ e
  obtain ⟨e2,e3⟩:=List.append_eq_nil_iff.mp e1
  obtain ⟨e4,e5⟩:=List.append_eq_nil_iff.mp e2
  exact h (by rw [h1 _ e3,h1 _ e4,h2 _ e5];rfl)
theorem inTup_C (c:Nat) (h:c < 1000):inTup (C c) (.tuple [C 94,C 91])=some (decide (c=94∨c=91)):=by
  have e1:toPy (C c)=some (.str (S [c])):=by unfold toPy;rfl
  have e2:toPys [C 94,C 91]=some [.str (S [94]),.str (S [91])]:=by rfl
  have s1:shaped (.tuple [.str (S [94]),.str (S [91])])=true:=by decide+kernel
  have s2:shaped (.str (S [c]))=true:=by
    unfold shaped
    simp [PyData.canLay0,PyData.strOk,PyData.depth]
    lia
  unfold inTup
  simp only [e1,e2,s1,s2,and_self,if_true]
  congr 1
  simp only [List.any_cons,List.any_nil,PyData.eqv,Bool.or_false]
  have hb:∀a b:Nat,(S [a]==S [b])=decide (b=a):=by
    intro a b
    by_cases e:b=a
    · rw [e];simp
    · rw [decide_eq_false e]
      exact beq_eq_false_iff_ne.mpr fun q=>e ((List.cons.inj (S_inj q)).1).symm
  rw [hb,hb]
  by_cases q1:c=94<;>by_cases q2:c=91<;>simp [q1,q2]
end Mine
end
section
open PySem PySem.W PyProof.Rows PySem.SeqAt PySem.Builtin.Str
set_option tactic.hygienic false
namespace Mine
theorem emp_S:PySem.Str.empty=S []:=rfl
noncomputable def outOf (bar md:Bool) (T:List Nat):List Nat:=if md=true then (if bar=true then [91,94]++T++[93] else [91]++(if T.head? =some 94∨T.head? =some 91 then 92::T else T)++[93]) else if bar=true then [46] else [40,63,33,41]
theorem ne_S (a b:List Nat):cmpOp .NotEq (.str (S a)) (.str (S b))=some (a != b):=by
  show some ((S a).cps.toList != (S b).cps.toList)=_
  rw [len_S,len_S]
theorem ge_F (x n:Nat) (h:x < n):cmpOp .GtE (.int (x:Int)) (.int (n:Int))=some false:=by rw [ge_I,decide_eq_false (by lia)]
theorem repl_S (l z:List Nat) (c:Nat) (h:l.length+(l.length+1) * z.length≤16777216):replF (S [c]) (S z) (.str (S l))=some (.str (S (l.flatMap fun d=>if d=c then z else [d]))):=by
  unfold replF
  simp only [S_len,h,if_true,replace_S]
theorem augAt_last {j:Nat} {g f:St→Option PV} {op:Operator} {st:St} {xs:List PV} {a b r:PV} (h:st[j]? =some (.own (xs++[a]))) (hg:g st=some (.int (-1))) (hf:f st=some b) (hr:augOp op a b=some r) (hl:xs.length≤900):augAt j g op f st=some (.next,st.set j (.own (xs++[r]))):=by
  have e:seqIndex? (-1) (xs++[a]).length=some xs.length:=by rw [List.length_append];exact seqIdx_last _
  unfold augAt
  simp only [h,hg,hf,e]
  rw [if_pos (by decide)]
  simp [hr]
theorem idx_nat (k n:Nat) (h:k < n):seqIndex? (k:Int) n=some k:=seqIdx_nat h
theorem setAt_at {j k:Nat} {g:St→Option PV} {v:PV} {st:St} {xs:List PV} (h:st[j]? =some (.own xs)) (hg:g st=some (.int (k:Int))) (hk:k < xs.length) (hl:xs.length≤900):setAt j g v st=some (.next,st.set j (.own (xs.set k v))):=by
  unfold setAt
  simp only [h,hg,idx_nat k _ hk]
  rw [if_pos (by lia)]
theorem delAt_at {j k:Nat} {g:St→Option PV} {st:St} {xs:List PV} (h:st[j]? =some (.own xs)) (hg:g st=some (.int (k:Int))) (hk:k < xs.length) (hl:xs.length≤900):delAt j g st=some (.next,st.set j (.own (xs.eraseIdx k))):=by
  unfold delAt
  simp only [h,hg,idx_nat k _ hk]
  rw [if_pos (by lia)]
theorem items_le:∀items:List (Nat×Nat),items.length≤(items.flatMap render).length
  | []=>by simp
  | p::r=>by
    have:=items_le r
    have h:1≤(render p).length:=by unfold render;split<;>simp
    simp only [List.flatMap_cons,List.length_append,List.length_cons]
    lia
end Mine
end
section
open PySem PySem.W PyProof.Rows PySem.SeqAt PySem.Builtin.Str
set_option tactic.hygienic false
namespace Mine
noncomputable def tIt (op:CmpOp) (i c:Nat):EvB:=kCmp op (kIt (kN 0) (kN i)) (kS [c])
noncomputable def tPk (op:CmpOp) (c:Nat):EvB:=andF (kCmp .Lt (kN 8) (kN 6)) (tIt op 8 c)
noncomputable def tAdd (j i:Nat) (k:Int):EvS:=dSet j (kBin .Add (kN i) (kI k))
noncomputable def tJ:EvS:=seqF (tAdd 8 8 1) dNil
noncomputable def tOpt (c:Nat):EvS:=kIf (tPk .Eq c) tJ dNil
noncomputable def tScan:EvS:=whileF (tPk .NotEq 93) tJ 1000
noncomputable def tSl (i:Nat):EvE:=kSl (kN 0) (kAs (kN 5)) (kAs (kN i))
noncomputable def kO (f:EvE) (m:PV→Option PV):EvE:=bindE f fun a=>liftE (m a)
noncomputable def tPlain:EvS:=seqF (dSet 9 (kO (kN 9) (replF (S [92]) (S [92,92])))) dNil
noncomputable def tK0:EvS:=dSet 11 (kIf (tIt .Eq 5 33) (kBin .Add (kN 5) (kI 2)) (kBin .Add (kN 5) (kI 1)))
noncomputable def tFind:EvS:=dSet 11 (kM (kN 0) pyFind (kA3 (kS [45]) (kN 11) (kN 8)))
noncomputable def tBrk:EvS:=kIf (kCmp .Lt (kN 11) (kI 0)) (seqF dBrk dNil) dNil
noncomputable def tTurn:EvS:=seqF tFind (seqF tBrk (seqF (appF 10 (tSl 11)) (seqF (tAdd 5 11 1) (seqF (tAdd 11 11 3) dNil))))
noncomputable def tTrue:EvB:=bindE (pureE (.bool true)) fun a=>liftE (truthOf a)
noncomputable def kM1:St→Option PV:=fun _=>some (.int (-1))
noncomputable def tRest:EvS:=kIf (nameT 12) (seqF (appF 10 (kN 12)) dNil) (seqF (augAt 10 kM1 .Add (fun _=>some (.str (S [45])))) dNil)
noncomputable def tPrev:St→Option PV:=kP2 .Sub (getP 11) (fun _=>some (.int 1))
noncomputable def tGt:EvB:=kCmp .Gt (kIt (kOwn 10 tPrev) (ofP kM1)) (kIt (kOwn 10 (getP 11)) (kI 0))
noncomputable def tPut:EvS:=bindE (kBin .Add (kSl (kOwn 10 tPrev) kNo (kAs (ofP kM1))) (kSl (kOwn 10 (getP 11)) (kAs (kI 1)) kNo)) fun v=>setAt 10 tPrev v
noncomputable def tOne:EvS:=seqF (kIf tGt (seqF tPut (seqF (delAt 10 (getP 11)) dNil)) dNil) dNil
noncomputable def tDown:EvE:=kF pyRange (kA3 (kBin .Sub (kLen 10) (kI 1)) (kI 0) (ofP kM1))
noncomputable def tGlue:EvS:=dSet 9 (kO (kN 10) (joinG (okR (S [92,92]) (S [92,45]) (S [92])) repF (S [45])))
noncomputable def tHyph:EvS:=seqF (bindE (pureE []) fun as=>setOwn 10 as) (seqF tK0 (seqF (whileF tTrue tTurn 1000) (seqF (dSet 12 (tSl 8)) (seqF tRest (seqF (dFor 11 tDown tOne) (seqF tGlue dNil))))))
noncomputable def tApp (e:EvE):EvS:=seqF (addF 4 3 e) dNil
noncomputable def tTup:EvE:=bindE (kA2 (kS [94]) (kS [91])) fun as=>liftE (mkT as)
noncomputable def tHead:EvS:=kIf (kCmp .Eq (kIt (kN 9) (kI 0)) (kS [33])) (seqF (dSet 9 (kBin .Add (kS [94]) (kSl (kN 9) (kAs (kI 1)) kNo))) dNil)
  (seqF (kIf (bindE (kIt (kN 9) (kI 0)) fun a=>bindE tTup fun b=>liftE (inTup a b)) (seqF (dSet 9 (kBin .Add (kS [92]) (kN 9))) dNil) dNil) dNil)
noncomputable def kJo (f:EvE) (g:Str→EvE):Str→EvE:=fun out=>bindE f fun p=>bindE (liftE (partOf p)) fun y=>if (out++y).length≤16777216 then g (out++y) else fun _=>none
noncomputable def kJn:Str→EvE:=fun out=>if out.length≤16777216 then pureE (.str out) else fun _=>none
noncomputable def tFstr:EvE:=kJo (kS [91]) (kJo (kO (kN 9) fmtOf) (kJo (kS [93]) kJn)) (S [])
noncomputable def tEnd:EvS:=kIf (kNot (nameT 9)) (tApp (kS [40,63,33,41])) (seqF (kIf (kCmp .Eq (kN 9) (kS [33])) (tApp (kS [46])) (seqF tHead (tApp tFstr))) dNil)
noncomputable def tIn:EvS:=seqF (dSet 9 (tSl 8)) (seqF (kIf (kCmp .NotIn (kS [45]) (kN 9)) tPlain tHyph) (seqF (dSet 9 (kO (kN 9) subF)) (seqF (tAdd 5 8 1) (seqF tEnd dNil))))
noncomputable def tBr:EvS:=seqF (dSet 8 (kN 5)) (seqF (tOpt 33) (seqF (tOpt 93) (seqF tScan (seqF (kIf (kCmp .GtE (kN 8) (kN 6)) (fun _=>none) tIn) dNil))))
noncomputable def tBody (x y z:EvS):EvS:=seqF (dSet 7 (kIt (kN 0) (kN 5))) (seqF (tAdd 5 5 1) (seqF (kIf (kCmp .Eq (kN 7) (kS [42])) x (seqF (kIf (kCmp .Eq (kN 7) (kS [63])) y (seqF (kIf (kCmp .Eq (kN 7) (kS [91])) tBr z) dNil)) dNil)) dNil))
noncomputable def tHd:EvS:=tupF [6,5] (bindE (kV (kI 0) (kV (kLen 0) (pureE []))) fun es=>pureE es.reverse)
noncomputable def tAll (x y z:EvS):EvS:=seqF (bindE (pureE []) fun as=>setOwn 3 as) (seqF (setMeth 4 3) (seqF tHd (seqF (whileF (kCmp .Lt (kN 5) (kN 6)) (tBody x y z) 1000)
  (seqF (kIf (kCmp .Eq (kN 5) (kN 6)) dNil (fun _=>none)) (seqF (bindE (kN 3) fun p=>pureE (.ret p)) dNil)))))
theorem tr_code {X:Cx} {d:Nat} {cd:Value} {ql:PySem.Str} (G:Glo X) {c T P cA:Addr} {fs items:Array Value} (okS:MakeOK X (FTrans cd ql) c T ⟨63,39,63,76⟩ "<lambda>") (okG:MakeOK X (FTrans cd ql) c T ⟨62,37,62,98⟩ "<genexpr>") (hTw:X.mg "_twin_re_1"=some (.ref P)) (hPat:PatAt X.B P fs cA items):
    (WTrans.transS (X:=X) (d:=d) (cd:=cd) (ql:=ql) G okS okG hTw hPat).1=tAll (fun _=>none) (fun _=>none) (fun _=>none):=by
  unfold WTrans.transS
  rfl
end Mine
end
section
open PySem PySem.W PyProof.Rows PySem.SeqAt PySem.Builtin.Str
set_option tactic.hygienic false
namespace Mine
theorem eq_one (x c:Nat):cmpOp .Eq (C x) (.str (S [c]))=some (decide (x=c)):=(eq_S [x] [c]).trans (congrArg some (by by_cases h:x=c<;>simp [h]))
theorem ne_one (x c:Nat):cmpOp .NotEq (C x) (.str (S [c]))=some (!decide (x=c)):=(ne_S [x] [c]).trans (congrArg some (by by_cases h:x=c<;>simp [h]))
theorem fN_add (j:Nat) (k:Nat):binOp .Add (.int (j:Int)) (.int (k:Int))=some (.int ((j+k:Nat):Int)):=rfl
theorem get_drop {α:Type} {l v:List α} {i:Nat} {c:α} (h:l.drop i=c::v):l[i]? =some c:=by rw [←Nat.add_zero i,←List.getElem?_drop,h];rfl
theorem drop_le {α:Type} {l v:List α} {i:Nat} {c:α} (h:l.drop i=c::v):i < l.length:=(List.getElem?_eq_some_iff.mp (get_drop h)).1
theorem drop_app {α:Type} {l u v:List α} {i:Nat} (h:l.drop i=u++v):l.drop (i+u.length)=v:=by rw [←List.drop_drop,h,List.drop_left]
theorem slice_S' {l u v:List Nat} {i:Nat} (hl:l.length≤16777216) (h:l.drop i=u++v) (hi:i≤l.length):pySlice (.str (S l)) (some (i:Int)) (some ((i+u.length:Nat):Int)) none=some (.str (S u)):=by
  have hlen:i+u.length≤l.length:=by
    have:=congrArg List.length h
    rw [List.length_drop,List.length_append] at this
    lia
  rw [slS l _ _ hl,clipN_nat,clipN_nat,Nat.min_eq_left hi,Nat.min_eq_left hlen,h,Nat.add_sub_cancel_left,List.take_left' rfl]
theorem slice_S {l u v:List Nat} {i:Nat} (hl:l.length≤800) (h:l.drop i=u++v) (hi:i≤l.length):pySlice (.str (S l)) (some (i:Int)) (some ((i+u.length:Nat):Int)) none=some (.str (S u)):=slice_S' (Nat.le_trans hl (by decide)) h hi
theorem find_S {l u v:List Nat} {i off j:Nat} (h:l.drop i=u++45::v) (hu:45 ∉ u) (ho:off≤u.length) (hj:j≤l.length) (hlt:i+u.length < j):pyFind (.str (S l)) [.str (S [45]),.int ((i+off:Nat):Int),.int (j:Int)]=some (.int ((i+u.length:Nat):Int)):=
  congrArg (fun z=>some (PV.int z)) (find1_some l 45 _ j _ hj (Nat.add_le_add_left ho i) hlt (get_drop (drop_app h)) fun k h1 h2 e=>by
    obtain ⟨m,rfl⟩:=Nat.exists_eq_add_of_le (Nat.le_trans (Nat.le_add_right i off) h1)
    rw [←List.getElem?_drop,h,List.getElem?_append_left (Nat.lt_of_add_lt_add_left h2)] at e
    exact hu (List.mem_of_getElem? e))
theorem find_no {l w v:List Nat} {i off:Nat} (h:l.drop i=w++93::v) (hu:∀m,off≤m→w[m]? ≠some 45):pyFind (.str (S l)) [.str (S [45]),.int ((i+off:Nat):Int),.int ((i+w.length:Nat):Int)]=some (.int (-1)):=
  congrArg (fun z=>some (PV.int z)) (find1_none l 45 _ _ (Nat.le_of_lt (drop_le (drop_app h))) fun k h1 h2 e=>by
    obtain ⟨m,rfl⟩:=Nat.exists_eq_add_of_le (Nat.le_trans (Nat.le_add_right i off) h1)
    rw [←List.getElem?_drop,h,List.getElem?_append_left (Nat.lt_of_add_lt_add_left h2)] at e
    exact hu m (Nat.le_of_add_le_add_left h1) e)
noncomputable def TS (pat:List Nat) (a:Addr) (res:List PV) (b5 b8 b9 b10 b11 b12:Bind):St:=[fS pat,.froz (.obj a),fS [46],.own res,.meth 3,b5,fN pat.length,.froz (C 91),b8,b9,b10,b11,b12]
section
variable {pat:List Nat} {a:Addr} {res:List PV} {b5 b8 b9 b10 b11 b12:Bind}
theorem t_it' {st:St} {op:CmpOp} {i c k x:Nat} {r:Bool} (hx:pat[k]? =some x) (hl:pat.length≤16777216) (h0:st[0]? =some (fS pat)) (hk:st[i]? =some (fN k)) (h:cmpOp op (C x) (.str (S [c]))=some r):Ev (tIt op i c) st r:=
  q_Cmp (q_It (q_N h0) (q_N hk) (item_S pat k x hx hl)) q_S h
theorem t_it {st:St} {op:CmpOp} {i c k x:Nat} {r:Bool} (hx:pat[k]? =some x) (hl:pat.length≤800) (h0:st[0]? =some (fS pat)) (hk:st[i]? =some (fN k)) (h:cmpOp op (C x) (.str (S [c]))=some r):Ev (tIt op i c) st r:=
  t_it' hx (Nat.le_trans hl (by decide)) h0 hk h
theorem t_pk {op:CmpOp} {c k x:Nat} {r:Bool} (hx:pat[k]? =some x) (hl:pat.length≤800) (h:cmpOp op (C x) (.str (S [c]))=some r):Ev (tPk op c) (TS pat a res b5 (fN k) b9 b10 b11 b12) r:=
  q_AndT (q_Cmp (q_N rfl) (q_N rfl) (lt_T _ _ (List.getElem?_eq_some_iff.mp hx).1)) (t_it hx hl rfl rfl h)
theorem t_j {k:Nat}:Do tJ (TS pat a res b5 (fN k) b9 b10 b11 b12) (TS pat a res b5 (fN (k+1)) b9 b10 b11 b12):=D_one (D_set (q_Bin (q_N rfl) q_I (fN_add k 1)) rfl)
theorem t_opt {c k x:Nat} (hx:pat[k]? =some x) (hl:pat.length≤800):Do (tOpt c) (TS pat a res b5 (fN k) b9 b10 b11 b12) (TS pat a res b5 (fN (k+if x=c then 1 else 0)) b9 b10 b11 b12):=by
  have e:=t_pk (a:=a) (res:=res) (b5:=b5) (b9:=b9) (b10:=b10) (b11:=b11) (b12:=b12) hx hl (eq_one x c)
  by_cases h:x=c
  · rw [if_pos h]
    exact D_IfT (decide_eq_true h ▸ e) t_j
  · rw [if_neg h]
    exact D_IfF (decide_eq_false h ▸ e) D_nil
theorem t_scan (hl:pat.length≤800):∀(w:List Nat) {v:List Nat} {k n:Nat},pat.drop k=w++93::v→(∀c∈w,c≠93)→w.length < n→Do (whileF (tPk .NotEq 93) tJ n) (TS pat a res b5 (fN k) b9 b10 b11 b12) (TS pat a res b5 (fN (k+w.length)) b9 b10 b11 b12)
  | [],v,k,n+1,h,_,_=>D_wF (t_pk (get_drop h) hl (ne_one 93 93))
  | c::w,v,k,n+1,h,hw,hn=>D_wT (t_pk (get_drop h) hl ((ne_one c 93).trans (congrArg (fun b=>some !b) (decide_eq_false (hw c List.mem_cons_self))))) t_j
    (Nat.add_right_comm k w.length 1 ▸ t_scan hl w (k:=k+1) (drop_app (u:=[c]) h) (fun d hd=>hw d (List.mem_cons_of_mem _ hd)) (Nat.lt_of_succ_lt_succ hn))
noncomputable def oL (cs:List (List Nat)):Bind:=.own (cs.map fun q=>.str (S q))
theorem t_find {i j k:Nat} {v:PV} (h:pyFind (.str (S pat)) [.str (S [45]),.int (k:Int),.int (j:Int)]=some v):Do tFind (TS pat a res (fN i) (fN j) b9 b10 (fN k) b12) (TS pat a res (fN i) (fN j) b9 b10 (.froz v) b12):=
  D_set (q_M (q_N rfl) (q_A3 q_S (q_N rfl) (q_N rfl)) h) rfl
theorem t_brk {st:St} (h:st[11]? =some (.froz (.int (-1)))):tBrk st=some (.brk,st):=
  r_ifbrk (t:=kCmp .Lt (kN 11) (kI 0)) (g:=dNil) (q_Cmp (q_N h) q_I (c:=true) rfl)
theorem t_stop {w v:List Nat} {i off:Nat} {cs:List (List Nat)} (h:pat.drop i=w++93::v) (hu:∀m,off≤m→w[m]? ≠some 45):
    tTurn (TS pat a res (fN i) (fN (i+w.length)) b9 b10 (fN (i+off)) b12)=some (.brk,TS pat a res (fN i) (fN (i+w.length)) b9 b10 (.froz (.int (-1))) b12):=
  (seq_next (t_find (find_no h hu))).trans (seq_brk (t_brk rfl))
theorem map_snoc (cs:List (List Nat)) (u:List Nat):Bind.own ((cs.map fun q=>.str (S q))++[.str (S u)])=oL (cs++[u]):=by unfold oL;rw [List.map_append];rfl
theorem t_turn {u v:List Nat} {i off j:Nat} {cs:List (List Nat)} (hl:pat.length≤800) (hc:cs.length≤900) (h:pat.drop i=u++45::v) (hu:45 ∉ u) (ho:off≤u.length) (hj:j≤pat.length) (hlt:i+u.length < j):
    Do tTurn (TS pat a res (fN i) (fN j) b9 (oL cs) (fN (i+off)) b12) (TS pat a res (fN (i+u.length+1)) (fN j) b9 (oL (cs++[u])) (fN (i+u.length+1+2)) b12):=
  D_seq (t_find (find_S h hu ho hj hlt)) (D_seq (D_IfF (q_Cmp (q_N rfl) q_I (lt_F _ 0 (Nat.not_lt_zero _))) D_nil)
    (D_seq (D_app (q_Sl (q_N rfl) (q_As (q_N rfl) rfl) (q_As (q_N rfl) rfl) (slice_S hl h (Nat.le_trans (Nat.le_add_right i _) (Nat.le_of_lt (Nat.lt_of_lt_of_le hlt hj))))) rfl (by rw [List.length_map];exact Nat.le_trans hc (by decide)) rfl)
    (map_snoc cs u ▸ D_seq (D_set (q_Bin (q_N rfl) q_I (fN_add _ 1)) rfl) (D_one (D_set (q_Bin (q_N rfl) q_I (fN_add _ 3)) rfl)))))
noncomputable def CutOK (pat Q:List Nat) (j:Nat) (all:List (List Nat)) (i:Nat) (cs:List (List Nat)):Prop:=∃w,pat.drop i=w++93::Q∧i+w.length=j∧((w≠[]∧cs++[w]=all)∨(w=[]∧∃d l,cs=d++[l]∧d++[l++[45]]=all))
theorem ev_true {st:St}:Ev tTrue st true:=rfl
theorem none45 {u:List Nat} (hu:45 ∉ u) (off m:Nat) (_:off≤m):u[m]? ≠some 45:=fun e=>hu (List.mem_of_getElem? e)
theorem t_cut {Q bk:List Nat} {j:Nat} (hl:pat.length≤800) (hbk:bk=[]∨bk=[45]):∀(its:List (Nat×Nat)) {cur:List Nat} {i off n:Nat} {cs:List (List Nat)},pat.drop i=cur++its.flatMap render++bk++93::Q→i+(cur++its.flatMap render++bk).length=j→
    cur++its.flatMap render++bk≠[]→45 ∉ cur→off≤cur.length+1→(∀p∈its,p.1≠45∧p.2≠45)→its.length+2≤n→cs.length+its.length≤900→
    ∃i' cs',Do (whileF tTrue tTurn n) (TS pat a res (fN i) (fN j) b9 (oL cs) (fN (i+off)) b12) (TS pat a res (fN i') (fN j) b9 (oL cs') (.froz (.int (-1))) b12)∧CutOK pat Q j (cs++segs bk cur its) i' cs'
  | [],cur,i,off,n+2,cs,h,hj,hne,hcur,ho,_,_,hcs=>by
    subst hj
    rw [List.flatMap_nil,List.append_nil] at h hne ⊢
    rw [segs_nil]
    rcases hbk with rfl | rfl
    · exact ⟨i,cs,D_wB ev_true (t_stop (cs:=cs) h (none45 (by rwa [List.append_nil]) off)),_,h,rfl,.inl ⟨hne,rfl⟩⟩
    · rcases Nat.lt_or_ge cur.length off with hc | hc
      · exact ⟨i,cs,D_wB ev_true (t_stop (cs:=cs) h fun m hm e=>by
          rw [List.getElem?_eq_none (by rw [List.length_append];exact Nat.le_trans hc hm)] at e
          cases e),_,h,rfl,.inl ⟨hne,rfl⟩⟩
      · rw [List.append_assoc] at h
        have h2:=drop_app (u:=cur++[45]) (h.trans (List.append_assoc cur [45] (93::Q)).symm)
        have e:=t_turn (a:=a) (res:=res) (b9:=b9) (b12:=b12) (j:=i+(cur++[45]).length) hl hcs h hcur hc (Nat.le_of_lt (drop_le h2)) (by rw [List.length_append];exact Nat.lt_succ_self _)
        rw [List.length_append] at h2
        refine ⟨_,_,D_wT ev_true e (D_wB ev_true ?_),[],h2,by rw [List.length_append];rfl,.inr ⟨rfl,cs,cur,rfl,rfl⟩⟩
        rw [List.length_append]
        exact t_stop (cs:=cs) (w:=[]) h2 fun m _ e=>by cases e
  | p::r,cur,i,off,n,cs,h,hj,hne,hcur,ho,hg,hn,hcs=>by
    have hp:=hg p List.mem_cons_self
    have hr:=fun q hq=>hg q (List.mem_cons_of_mem _ hq)
    rw [segs]
    by_cases e:p.1=p.2
    · have et:cur++(p::r).flatMap render=cur++[p.1]++r.flatMap render:=by rw [List.flatMap_cons,render,if_pos e,List.append_assoc]
      rw [if_pos e]
      rw [et] at h hj hne
      exact t_cut hl hbk r h hj hne (fun q=>(List.mem_append.mp q).elim hcur fun q=>hp.1 (List.mem_singleton.mp q).symm) (Nat.le_trans ho (by rw [List.length_append];exact Nat.le_succ _)) hr (Nat.le_of_succ_le hn) (Nat.le_of_succ_le hcs)
    · have et:cur++(p::r).flatMap render=(cur++[p.1])++45::([p.2]++r.flatMap render):=by rw [List.flatMap_cons,render,if_neg e,List.append_assoc];rfl
      rw [if_neg e]
      rw [et] at h hj
      have h':pat.drop i=(cur++[p.1])++45::([p.2]++r.flatMap render++bk++93::Q):=by rw [h];simp only [List.append_assoc,List.cons_append]
      have h2:pat.drop (i+(cur++[p.1]).length+1)=[p.2]++r.flatMap render++bk++93::Q:=drop_app (u:=[45]) (drop_app h')
      have hj2:i+(cur++[p.1]).length+1+([p.2]++r.flatMap render++bk).length=j:=by rw [←hj];simp only [List.length_append,List.length_cons];lia
      have hjl:j≤pat.length:=by rw [←hj2];exact Nat.le_of_lt (drop_le (drop_app h2))
      have hcl:cs.length+1+r.length≤900:=(Nat.add_right_comm _ 1 _).symm ▸ hcs
      have t:=t_turn (a:=a) (res:=res) (b9:=b9) (b12:=b12) hl (Nat.le_trans (Nat.le_add_right _ _) hcs) h' (fun q=>(List.mem_append.mp q).elim hcur fun q=>hp.1 (List.mem_singleton.mp q).symm) (by rw [List.length_append];exact ho) hjl (by rw [←hj2];exact Nat.lt_of_lt_of_le (Nat.lt_succ_self _) (Nat.le_add_right _ _))
      match n,hn with
      | n+1,hn=>
        obtain ⟨i',cs',d,q⟩:=t_cut (off:=2) (cs:=cs++[cur++[p.1]]) hl hbk r h2 hj2 (fun e=>by simp at e) (fun q=>hp.2 (List.mem_singleton.mp q).symm) (Nat.le_refl 2) hr (Nat.le_of_succ_le_succ hn) (by rw [List.length_append];exact hcl)
        rw [List.append_assoc] at q
        exact ⟨i',cs',D_wT ev_true t d,q⟩
end
end Mine
end
section
open PySem PySem.W PyProof.Rows PySem.SeqAt PySem.Builtin.Str
set_option tactic.hygienic false
namespace Mine
structure BrIn (bar md:Bool) (br fr bk:List Nat) (items:List (Nat×Nat)) (B:List Nat):Prop where
  hB:br++fr++items.flatMap render++bk=B
  brE:br=if bar=true then [33] else []
  frE:fr=[]∨fr=[93]
  bkE:bk=[]∨bk=[45]
  n93:∀c∈items.flatMap render++bk,c≠93
  n33:∀c∈items.flatMap render++bk,c≠33∧c < 1000
  ne:fr++items.flatMap render++bk≠[]
  good:md=true→∀p∈items,Good p
  zy:md=false→fr=[]∧bk=[]∧items=[(122,121)]
noncomputable def W1of (md:Bool) (br fr bk:List Nat) (items:List (Nat×Nat)):List Nat:=if md=true then escR (br++fr)++items.flatMap renE++escR bk else br
theorem mem33 {fr bk:List Nat} {items:List (Nat×Nat)} (hf:fr=[]∨fr=[93]) (h:∀c∈items.flatMap render++bk,c≠33∧c < 1000) {c:Nat} (hc:c∈fr++items.flatMap render++bk):c≠33∧c < 1000:=by
  rw [List.append_assoc] at hc
  rcases List.mem_append.mp hc with hc | hc
  · rcases hf with e | e<;>rw [e] at hc
    · cases hc
    · rw [List.mem_singleton.mp hc];decide
  · exact h c hc
theorem head_bar {bar md:Bool} {br fr bk B t:List Nat} {items:List (Nat×Nat)} {c:Nat} (H:BrIn bar md br fr bk items B) (e:B=c::t):(if c=33 then 1 else 0)=br.length:=by
  have hB:=H.hB
  rw [e,H.brE,List.append_assoc,List.append_assoc] at hB
  rw [H.brE]
  cases bar with
  | true=>rw [if_pos (List.cons.inj hB).1.symm];rfl
  | false=>rw [if_neg (mem33 H.frE H.n33 (by rw [List.append_assoc];exact hB ▸ List.mem_cons_self)).1];rfl
section
variable {pat:List Nat} {a:Addr} {res:List PV} {b5 b8 b9 b10 b11 b12:Bind}
theorem t_k0 {i x:Nat} (hx:pat[i]? =some x) (hl:pat.length≤800):Do tK0 (TS pat a res (fN i) b8 b9 b10 b11 b12) (TS pat a res (fN i) b8 b9 b10 (fN (i+((if x=33 then 1 else 0)+1))) b12):=by
  have e:=t_it (st:=TS pat a res (fN i) b8 b9 b10 b11 b12) hx hl rfl (k:=i) (i:=5) rfl (eq_one x 33)
  by_cases h:x=33
  · rw [if_pos h]
    exact D_set (q_IfT (decide_eq_true h ▸ e) (q_Bin (q_N rfl) q_I (fN_add i 2))) rfl
  · rw [if_neg h]
    exact D_set (q_IfF (decide_eq_false h ▸ e) (q_Bin (q_N rfl) q_I (fN_add i 1))) rfl
theorem t_slice {i k n:Nat} {u v:List Nat} (hl:pat.length≤800) (h:pat.drop i=u++93::v) (hn:i+u.length=n) {st:St} (h0:st[0]? =some (fS pat)) (h5:st[5]? =some (fN i)) (h8:st[k]? =some (fN n)):Ev (tSl k) st (.str (S u)):=
  q_Sl (q_N h0) (q_As (q_N h5) rfl) (q_As (q_N h8) rfl) (hn ▸ slice_S hl h (Nat.le_trans (Nat.le_add_right i _) (Nat.le_of_lt (drop_le (drop_app h)))))
theorem tr_S {w:List Nat} (h:w.length≤100000):truthOf (.str (S w))=some (!w.isEmpty):=by
  show (if (S w).length < 9223372036854775808 then some (((S w).length:Int) != 0) else none)=_
  rw [S_len,if_pos (Nat.lt_of_le_of_lt h (by decide))]
  cases w<;>rfl
theorem len_oL {cs:List (List Nat)} {n:Nat} (h:cs.length≤n):(cs.map fun q=>PV.str (S q)).length≤n:=by rw [List.length_map];exact h
theorem t_rest {w:List Nat} {cs all:List (List Nat)} (hw:w.length≤800) (ha:all.length≤900) (hq:∀q∈all,q.length≤900) (h:(w≠[]∧cs++[w]=all)∨(w=[]∧∃d l,cs=d++[l]∧d++[l++[45]]=all)):
    Do tRest (TS pat a res b5 b8 b9 (oL cs) b11 (fS w)) (TS pat a res b5 b8 b9 (oL all) b11 (fS w)):=by
  have ht:=q_T (st:=TS pat a res b5 b8 b9 (oL cs) b11 (fS w)) (i:=12) rfl (tr_S (Nat.le_trans hw (by decide)))
  rcases h with ⟨h1,rfl⟩ | ⟨rfl,d,l,rfl,rfl⟩
  · rw [List.length_append] at ha
    have e:(!w.isEmpty)=true:=by cases w with | nil=>exact absurd rfl h1 | cons _ _=>rfl
    exact D_IfT (e ▸ ht) (D_one (map_snoc cs w ▸ D_app (q_N rfl) rfl (len_oL (Nat.le_trans (Nat.le_of_succ_le ha) (by decide))) rfl))
  · rw [List.length_append] at ha
    have hs:=hq _ (List.mem_append_right _ (List.mem_singleton.mpr rfl))
    rw [List.length_append] at hs
    refine D_IfF ht (D_one ?_)
    rw [←map_snoc d (l++[45]),←map_snoc d l]
    exact augAt_last rfl rfl rfl (aug_S l [45] (Nat.le_trans hs (by decide))) (len_oL (Nat.le_of_succ_le ha))
theorem item_oL {cs:List (List Nat)} {k:Nat} {x:List Nat} (hc:cs.length≤900) (h:cs[k]? =some x):pyItem (.list (cs.map fun q=>.str (S q))) (.int (k:Int))=some (.str (S x)):=
  item_L _ _ _ (by rw [List.getElem?_map,h];rfl) (len_oL (Nat.le_trans hc (by decide)))
theorem sub_11 {st:St} {k:Nat} (h:st[11]? =some (fN (k+1))):tPrev st=some (.int (k:Int)):=by
  unfold tPrev kP2 getP
  rw [h]
  exact congrArg (fun z=>some (PV.int z)) (Int.add_sub_cancel k 1)
theorem t_gt {cs:List (List Nat)} {k u w:Nat} {x y:List Nat} (hc:cs.length≤900) (h1:cs[k]? =some (x++[u])) (h2:cs[k+1]? =some (w::y)) (hx:x.length≤1000) (hy:y.length≤1000):
    Ev tGt (TS pat a res b5 b8 b9 (oL cs) (fN (k+1)) b12) (decide (w < u)):=
  q_Cmp (q_It (q_OwnO (a:=.int (k:Int)) rfl (sub_11 rfl) (item_oL hc h1)) (r_ofP rfl) (item_last x u hx)) (q_It (q_OwnO (a:=.int ((k+1:Nat):Int)) rfl rfl (item_oL hc h2)) q_I (item_S (w::y) 0 w rfl (Nat.le_trans (Nat.succ_le_succ hy) (by decide)))) (gt_C u w)
theorem sub_len {n:Nat} (h:1≤n):binOp .Sub (.int (n:Int)) (.int 1)=some (.int ((n - 1:Nat):Int)):=congrArg (fun z=>some (PV.int z)) (Int.ofNat_sub h).symm
theorem range_m1 (a:Int):pyRange [.int a,.int 0,.int (-1)]=some (.range a 0 (-1)):=if_pos (e:=none) (by decide:(-1:Int)≠0∧(-1:Int).natAbs < 1073741824)
theorem t_down {cs:List (List Nat)} (h1:1≤cs.length) (hc:cs.length≤900):Ev tDown (TS pat a res b5 b8 b9 (oL cs) b11 b12) (.range ((cs.length - 1:Nat):Int) 0 (-1)):=
  q_F (q_A3 (h:=ofP kM1) (q_Bin (q_LenO rfl ((len_L _ (Nat.lt_of_le_of_lt (len_oL hc) (by decide:900 < 9223372036854775808))).trans (by rw [List.length_map]))) q_I (sub_len h1)) q_I (r_ofP rfl)) (range_m1 _)
theorem range_down {m j:Nat} {p:PV} (h:((List.range m).map fun (j:Nat)=>PV.int ((m:Int)+(j:Int) * (-1)))[j]? =some p):∃k,k < m∧p=.int ((k+1:Nat):Int):=by
  rcases Nat.lt_or_ge j m with h1 | h1
  · rw [List.getElem?_map,List.getElem?_range h1] at h
    exact ⟨m - 1 - j,by lia,by rw [←Option.some.inj h];exact congrArg PV.int (by lia)⟩
  · rw [List.getElem?_eq_none (by rwa [List.length_map,List.length_range])] at h;cases h
theorem t_same {cs:List (List Nat)} {x:PV} (h1:1≤cs.length) (hc:cs.length≤900) (hq:∀q∈cs,q.length≤900) (hup:∀k x y,cs[k]? =some x→cs[k+1]? =some y→∃x' a b y',x=x'++[a]∧y=b::y'∧a < b):
    ∃x',Do (dFor 11 tDown tOne) (TS pat a res b5 b8 b9 (oL cs) (.froz x) b12) (TS pat a res b5 b8 b9 (oL cs) (.froz x') b12):=by
  obtain ⟨st2,hd,x',rfl⟩:=D_forI (i:=11) (g:=tOne) (fun _ st=>∃x,st=TS pat a res b5 b8 b9 (oL cs) (.froz x) b12) (t_down h1 hc) (items_down _ (Nat.lt_of_le_of_lt (Nat.sub_le _ 1) (Nat.lt_of_le_of_lt hc (by decide)))) ⟨x,rfl⟩ fun j p st hp h=>by
    obtain ⟨x,rfl⟩:=h
    obtain ⟨k,hk,rfl⟩:=range_down hp
    have hk1:k+1 < cs.length:=Nat.add_lt_of_lt_sub hk
    have g1:=List.getElem?_eq_getElem (Nat.lt_of_succ_lt hk1)
    have g2:=List.getElem?_eq_getElem hk1
    obtain ⟨u,c,d,v,e1,e2,hlt⟩:=hup k _ _ g1 g2
    have l1:=hq _ (List.getElem_mem (Nat.lt_of_succ_lt hk1))
    have l2:=hq _ (List.getElem_mem hk1)
    rw [e1,List.length_append] at l1
    rw [e2] at l2
    rw [e1] at g1
    rw [e2] at g2
    have t:=t_gt (pat:=pat) (a:=a) (res:=res) (b5:=b5) (b8:=b8) (b9:=b9) (b12:=b12) hc g1 g2 (Nat.le_trans (Nat.le_of_succ_le l1) (by decide)) (Nat.le_trans (Nat.le_of_succ_le l2) (by decide))
    exact ⟨_,D_one (D_IfF (decide_eq_false (Nat.lt_asymm hlt) ▸ t) D_nil),_,rfl⟩
  exact ⟨x',hd⟩
theorem D_for1 {i:Nat} {g:EvS} {p:PV} {st st':St} (h:Do g (st.set i (.froz p)) st'):Do (forF i g [p]) st st':=by
  unfold Do forF at *
  rw [h]
  rfl
theorem D_put {j k:Nat} {f:EvE} {g:St→Option PV} {st:St} {v:PV} {xs:List PV} (hf:Ev f st v) (h:st[j]? =some (.own xs)) (hg:g st=some (.int (k:Int))) (hk:k < xs.length) (hl:xs.length≤900):Do (bindE f fun v=>setAt j g v) st (st.set j (.own (xs.set k v))):=
  run_bind hf (setAt_at h hg hk hl)
theorem t_zy {br:List Nat} {x:PV} (hb:br=[]∨br=[33]):Do (dFor 11 tDown tOne) (TS pat a res b5 b8 b9 (oL [br++[122],[121]]) (.froz x) b12) (TS pat a res b5 b8 b9 (oL [br]) (fN 1) b12):=by
  have hl:br.length≤1:=hb.elim (fun e=>e ▸ Nat.zero_le 1) fun e=>e ▸ Nat.le_refl 1
  refine D_forE (t_down (Nat.le_succ 1) (by decide:2≤900)) (items_down 1 (by decide)) (D_for1 ?_)
  refine D_one (D_IfT (t_gt (k:=0) (cs:=[br++[122],[121]]) (by decide:2≤900) rfl rfl (Nat.le_trans hl (by decide)) (Nat.zero_le _)) ?_)
  refine D_seq (D_put (k:=0) (v:=.str (S br)) ?_ rfl (sub_11 rfl) (Nat.succ_pos 1) (show 2≤900 by decide)) (D_one (delAt_at (xs:=[.str (S br),.str (S [121])]) (k:=1) rfl rfl (Nat.lt_succ_self 1) (show 2≤900 by decide)))
  refine q_Bin (a:=.str (S br)) (b:=.str (S [])) (q_Sl (a:=.str (S (br++[122]))) (q_OwnO rfl (sub_11 rfl) (item_oL (k:=0) (cs:=[br++[122],[121]]) (by decide:2≤900) rfl)) q_No (q_As (r_ofP rfl) rfl) ?_) (q_Sl (a:=.str (S [121])) (q_OwnO rfl rfl (item_oL (k:=1) (cs:=[br++[122],[121]]) (by decide:2≤900) rfl)) (q_As q_I rfl) q_No ?_) ?_
  · rcases hb with rfl | rfl<;>exact slS _ _ _ (by decide)
  · exact slS _ _ _ (by decide)
  · rw [add_S _ _ (Nat.le_trans hl (by decide)),List.append_nil]
theorem t_glue {cs:List (List Nat)} (hc:cs.length≤900) (hq:∀q∈cs,q.length≤900):Do tGlue (TS pat a res b5 b8 b9 (oL cs) b11 b12) (TS pat a res b5 b8 (fS (joinH (cs.map escR))) (.froz (.list (cs.map fun q=>.str (S q)))) b11 b12):=
  r_set (r_one (st1:=TS pat a res b5 b8 b9 (.froz (.list (cs.map fun q=>.str (S q)))) b11 b12) rfl (joinG_S cs hq hc)) rfl
theorem noMeth_TS {x y z:PV}:noMeth 10 (TS pat a res (.froz x) (.froz y) (.froz z) b10 b11 b12)=noMeth 10 [b10,b11,b12]:=by unfold TS;rfl
theorem t_hyph {bar md:Bool} {br fr bk B Q:List Nat} {items:List (Nat×Nat)} {i j:Nat} (H:BrIn bar md br fr bk items B) (hl:pat.length≤800) (h:pat.drop i=B++93::Q) (hj:i+B.length=j) (hm:45∈B) (hn:noMeth 10 [b10,b11,b12]=true):
    ∃i' x y z,Do tHyph (TS pat a res (fN i) (fN j) (fS B) b10 b11 b12) (TS pat a res (fN i') (fN j) (fS (W1of md br fr bk items)) (.froz x) (.froz y) (.froz z)):=by
  have hB:=H.hB
  have hBl:B.length≤800:=by
    have:=congrArg List.length h
    rw [List.length_drop,List.length_append] at this
    lia
  have hbr:br=[]∨br=[33]:=by rw [H.brE];cases bar;exact .inl rfl;exact .inr rfl
  have hcur:45 ∉ br++fr:=by rcases hbr with e | e<;>rcases H.frE with q | q<;>rw [e,q]<;>decide
  have hg:∀p∈items,p.1≠45∧p.2≠45:=fun p hp=>match md,H.good,H.zy with
    | true,hg,_=>⟨(hg rfl p hp).2.1,(hg rfl p hp).2.2.2.1⟩
    | false,_,hz=>by
      rw [(hz rfl).2.2] at hp
      rw [List.mem_singleton.mp hp]
      decide
  have hil:items.length≤B.length:=by rw [←hB,List.length_append,List.length_append];exact Nat.le_trans (items_le items) (Nat.le_trans (Nat.le_add_left _ _) (Nat.le_add_right _ _))
  have hal:(segs bk (br++fr) items).length≤900:=Nat.le_trans (segs_len items _) (Nat.le_trans (Nat.succ_le_succ (Nat.le_trans hil hBl)) (by decide))
  have haq:∀q∈segs bk (br++fr) items,q.length≤900:=fun q hq=>Nat.le_trans (segs_le items _ q hq) (Nat.le_trans (by rw [←List.length_append,←List.length_append,hB];exact hBl) (by decide))
  obtain ⟨c,t,e⟩:∃c t,B=c::t:=List.exists_cons_of_ne_nil fun e=>by rw [e] at hm;cases hm
  have hx:(if c=33 then 1 else 0)=br.length:=head_bar H e
  have hK:=t_k0 (a:=a) (res:=res) (b8:=fN j) (b9:=fS B) (b10:=oL []) (b11:=b11) (b12:=b12) (get_drop (h.trans (by rw [e];rfl))) hl
  rw [hx] at hK
  obtain ⟨i',cs,hC,w,hw,hwj,hfin⟩:=t_cut (a:=a) (res:=res) (b9:=fS B) (b12:=b12) (j:=j) (off:=br.length+1) (n:=1000) (cs:=[]) hl H.bkE items (by rw [hB];exact h) (by rw [hB];exact hj) (by rw [hB,e];exact List.cons_ne_nil _ _) hcur (by rw [List.length_append];exact Nat.succ_le_succ (Nat.le_add_right _ _)) hg (Nat.le_trans (Nat.add_le_add_right (Nat.le_trans hil hBl) 2) (by decide)) (Nat.le_trans (Nat.le_of_eq (Nat.zero_add _)) (Nat.le_trans (Nat.le_trans hil hBl) (by decide)))
  have hwl:w.length≤800:=by
    have:=congrArg List.length hw
    rw [List.length_drop,List.length_append] at this
    lia
  have hM:∃y cs',Do (dFor 11 tDown tOne) (TS pat a res (fN i') (fN j) (fS B) (oL (segs bk (br++fr) items)) (.froz (.int (-1))) (fS w)) (TS pat a res (fN i') (fN j) (fS B) (oL cs') (.froz y) (fS w))∧joinH (cs'.map escR)=W1of md br fr bk items∧cs'.length≤900∧∀q∈cs',q.length≤900:=by
    cases md with
    | true=>
      obtain ⟨y,q⟩:=t_same (pat:=pat) (a:=a) (res:=res) (b5:=fN i') (b8:=fN j) (b9:=fS B) (b12:=fS w) (x:=.int (-1)) (List.length_pos_iff.mpr (segs_ne bk items (br++fr))) hal haq fun k x y=>segs_up items _ k x y fun p hp=>(H.good rfl p hp).1
      exact ⟨y,_,q,join_segs bk items _,hal,haq⟩
    | false=>
      obtain ⟨rfl,rfl,rfl⟩:=H.zy rfl
      rw [List.append_nil]
      exact ⟨_,[br],t_zy hbr,(by rcases hbr with rfl | rfl<;>rfl),(by decide:1≤900),fun q hq=>by rw [List.mem_singleton.mp hq];rcases hbr with rfl | rfl<;>decide⟩
  obtain ⟨y,cs',hM,he,hcl,hcq⟩:=hM
  exact ⟨i',_,y,_,D_seq (r_own0 (st2:=TS pat a res (fN i) (fN j) (fS B) (oL []) b11 b12) (noMeth_TS.trans hn) rfl) (D_seq hK (D_seq hC (D_seq (D_set (t_slice hl hw hwj rfl rfl rfl) rfl) (D_seq (t_rest hwl hal haq hfin) (D_seq hM (D_one (he ▸ t_glue hcl hcq)))))))⟩
end
end Mine
end
section
open PySem PySem.W PyProof.Rows PySem.SeqAt PySem.Builtin.Str
set_option tactic.hygienic false
namespace Mine
section
variable {pat:List Nat} {a:Addr} {res:List PV} {b5 b8 b9 b10 b11 b12:Bind}
theorem t_sub {W:List Nat} (h:W.length≤20000):Do (dSet 9 (kO (kN 9) subF)) (TS pat a res b5 b8 (fS W) b10 b11 b12) (TS pat a res b5 b8 (fS (subL W)) b10 b11 b12):=
  D_set (ev1 (q_N rfl) (if_pos (Nat.le_trans (Nat.le_of_eq (S_len W)) (Nat.le_trans h (by decide))))) rfl
theorem t_app {x:Nat} {W z:List Nat} {f:EvE} (hr:res.length≤100) (h:Ev f (TS pat a res b5 b8 (fS W) b10 b11 b12) (.str (S z))):Do (tApp f) (TS pat a res b5 b8 (fS W) b10 b11 b12) (TS pat a (res++[.str (S z)]) b5 b8 (fS W) b10 b11 b12):=
  D_one (D_add rfl h rfl (Nat.le_trans hr (by decide)) rfl)
theorem sl_one {c:Nat} {l:List Nat} (h:l.length≤40000):pySlice (.str (S (c::l))) (some 1) none none=some (.str (S l)):=by
  refine (slS (c::l) (some ((1:Nat):Int)) none (Nat.le_trans (Nat.succ_le_succ h) (by decide))).trans ?_
  rw [clipN_nat,Nat.min_eq_left (show 1≤(c::l).length from Nat.succ_le_succ (Nat.zero_le _))]
  exact congrArg (fun z=>some (PV.str (S z))) (List.take_of_length_le (Nat.le_refl _))
theorem t_hd1 {l:List Nat} (h:l.length≤40000):Do tHead (TS pat a res b5 b8 (fS (33::l)) b10 b11 b12) (TS pat a res b5 b8 (fS (94::l)) b10 b11 b12):=
  D_IfT (q_Cmp (q_It (q_N rfl) q_I (item_S (33::l) 0 33 rfl (Nat.le_trans (Nat.succ_le_succ h) (by decide)))) q_S (eq_one 33 33))
    (D_one (D_set (q_Bin q_S (q_Sl (q_N rfl) (q_As q_I rfl) q_No (sl_one h)) (add_S [94] l (Nat.le_trans (Nat.add_le_add_left h 1) (by decide)))) rfl))
theorem t_hd2 {c:Nat} {l:List Nat} (h:(c::l).length≤40000) (h33:c≠33) (hc:c < 1000):Do tHead (TS pat a res b5 b8 (fS (c::l)) b10 b11 b12) (TS pat a res b5 b8 (fS (if c=94∨c=91 then 92::c::l else c::l)) b10 b11 b12):=by
  have hi:Ev (kIt (kN 9) (kI 0)) (TS pat a res b5 b8 (fS (c::l)) b10 b11 b12) (C c):=q_It (q_N rfl) q_I (item_S (c::l) 0 c rfl (Nat.le_trans h (by decide)))
  have hT:Ev tTup (TS pat a res b5 b8 (fS (c::l)) b10 b11 b12) (PV.tuple [C 94,C 91]):=rfl
  have ht:=ev2 hi hT (inTup_C c hc)
  refine D_IfF (q_Cmp hi q_S ((eq_one c 33).trans (congrArg some (decide_eq_false h33)))) (D_one ?_)
  by_cases q:c=94∨c=91
  · rw [if_pos q]
    rw [decide_eq_true q] at ht
    exact D_IfT ht (D_one (D_set (q_Bin q_S (q_N rfl) (add_S [92] (c::l) (Nat.le_trans (Nat.add_le_add_left h 1) (by decide)))) rfl))
  · rw [if_neg q]
    rw [decide_eq_false q] at ht
    exact D_IfF ht D_nil
theorem t_fstr {W:List Nat} (h:W.length≤100000):Ev tFstr (TS pat a res b5 b8 (fS W) b10 b11 b12) (.str (S ([91]++W++[93]))):=r_f3 _ W 9 rfl h [91] [93] (by decide) (by decide)
theorem out_true {c:Nat} {l:List Nat} (bar:Bool):outOf bar true (c::l)=[91]++(if bar=true then 94::c::l else if c=94∨c=91 then 92::c::l else c::l)++[93]:=by
  cases bar with
  | true=>rfl
  | false=>
    have e:(c::l).head? =some 94∨(c::l).head? =some 91↔c=94∨c=91:=or_congr Option.some_inj Option.some_inj
    by_cases h:c=94∨c=91
    · exact congrArg (fun z=>[91]++z++[93]) ((if_pos (e.mpr h)).trans (if_pos h).symm)
    · exact congrArg (fun z=>[91]++z++[93]) ((if_neg fun q=>h (e.mp q)).trans (if_neg h).symm)
theorem if_len {P:Prop} [Decidable P] {x:Nat} {l:List Nat} {n:Nat} (h:l.length≤n):(if P then x::l else l).length≤n+1:=by
  split
  · exact Nat.succ_le_succ h
  · exact Nat.le_succ_of_le h
theorem t_end {bar md:Bool} {br T:List Nat} (hr:res.length≤100) (hb:br=if bar=true then [33] else []) (hT:T≠[]) (hm:∀x∈T,x≠33∧x < 1000) (hl:T.length≤40000):
    ∃W,Do tEnd (TS pat a res b5 b8 (fS (if md=true then br++T else br)) b10 b11 b12) (TS pat a (res++[.str (S (outOf bar md T))]) b5 b8 (fS W) b10 b11 b12):=by
  obtain ⟨c,l,rfl⟩:=List.exists_cons_of_ne_nil hT
  have hc:=hm c List.mem_cons_self
  subst hb
  cases md with
  | false=>
    cases bar with
    | false=>exact ⟨_,D_IfT (q_Not (q_T rfl (tr_S (w:=[]) (Nat.zero_le _)))) (t_app (x:=0) hr q_S)⟩
    | true=>exact ⟨_,D_IfF (q_Not (q_T rfl (tr_S (w:=[33]) (by decide:1≤100000)))) (D_one (D_IfT (q_Cmp (q_N rfl) q_S (eq_one 33 33)) (t_app (x:=0) hr q_S)))⟩
  | true=>
    rw [out_true]
    cases bar with
    | true=>exact ⟨_,D_IfF (q_Not (q_T rfl (tr_S (w:=33::c::l) (Nat.le_trans (Nat.succ_le_succ hl) (by decide:40001≤100000))))) (D_one (D_IfF (q_Cmp (q_N rfl) q_S (eq_S _ _)) (D_seq (t_hd1 hl) (t_app (x:=0) hr (t_fstr (Nat.le_trans (Nat.succ_le_succ hl) (by decide)))))))⟩
    | false=>
      have e2:((c::l)==[33])=false:=beq_eq_false_iff_ne.mpr fun e=>hc.1 (List.cons.inj e).1
      exact ⟨_,D_IfF (q_Not (q_T rfl (tr_S (w:=c::l) (Nat.le_trans hl (by decide))))) (D_one (D_IfF (q_Cmp (q_N rfl) q_S ((eq_S (c::l) [33]).trans (congrArg some e2))) (D_seq (t_hd2 hl hc.1 hc.2) (t_app (x:=0) hr (t_fstr (Nat.le_trans (if_len hl) (by decide)))))))⟩
end
inductive TTail (pat:List Nat) (a:Addr) (res:List PV) (i:Nat):St→Prop
  | mk {b7 b8 b9 b10 b11 b12:Bind} (h:noMeth 10 [b7,b8,b9,b10,b11,b12]=true):TTail pat a res i [fS pat,.froz (.obj a),fS [46],.own res,.meth 3,fN i,fN pat.length,b7,b8,b9,b10,b11,b12]
theorem noMeth_tl {b:Bind} {l:List Bind} (h:noMeth 10 (b::l)=true):noMeth 10 l=true:=(Bool.and_eq_true_iff.mp h).2
noncomputable def T0of (fr bk:List Nat) (items:List (Nat×Nat)):List Nat:=subL (escR fr++items.flatMap renE++escR bk)
theorem W2_eq {bar md:Bool} {br fr bk B:List Nat} {items:List (Nat×Nat)} (H:BrIn bar md br fr bk items B):subL (W1of md br fr bk items)=if md=true then br++T0of fr bk items else br:=by
  have h1:subL (escR br)=br∧subL br=br:=by rw [H.brE];cases bar<;>exact ⟨rfl,rfl⟩
  unfold W1of T0of
  cases md with
  | true=>rw [if_pos rfl,if_pos rfl,escR_append,List.append_assoc,List.append_assoc,subL_append,h1.1,List.append_assoc]
  | false=>rw [if_neg Bool.false_ne_true,if_neg Bool.false_ne_true,h1.2]
theorem T0_mem {bar md:Bool} {br fr bk B:List Nat} {items:List (Nat×Nat)} (H:BrIn bar md br fr bk items B):∀x∈T0of fr bk items,x≠33∧x < 1000:=fun x hx=>by
  rcases subL_mem hx with rfl | q
  · decide
  · rcases List.mem_append.mp q with q | q
    · rcases List.mem_append.mp q with q | q
      · rcases escR_mem q with rfl | q
        · decide
        · exact mem33 H.frE H.n33 (List.mem_append_left _ (List.mem_append_left _ q))
      · rcases renE_mem q with rfl | q
        · decide
        · exact H.n33 x (List.mem_append_left _ q)
    · rcases escR_mem q with rfl | q
      · decide
      · exact H.n33 x (List.mem_append_right _ q)
theorem W1_len {bar md:Bool} {br fr bk B:List Nat} {items:List (Nat×Nat)} (H:BrIn bar md br fr bk items B) (hB:B.length≤800):(W1of md br fr bk items).length≤5600∧(T0of fr bk items).length≤40000:=by
  have h1:=escR_len (br++fr)
  have h2:=escR_len bk
  have h3:=renE_len items
  have h4:=items_le items
  have h5:=escR_len fr
  have h6:=subL_len (escR fr++items.flatMap renE++escR bk)
  have h7:=congrArg List.length H.hB
  unfold W1of T0of
  simp only [List.length_append] at h1 h6 h7
  constructor
  · split
    · simp only [List.length_append];lia
    · lia
  · lia
section
variable {pat:List Nat} {a:Addr} {res:List PV} {b5 b8 b9 b10 b11 b12:Bind}
theorem t_in {bar md:Bool} {br fr bk B Q:List Nat} {items:List (Nat×Nat)} {i:Nat} (H:BrIn bar md br fr bk items B) (hl:pat.length≤800) (hr:res.length≤100) (h:pat.drop i=B++93::Q) (hn:noMeth 10 [b10,b11,b12]=true):
    ∃x b10' b11' b12',Do tIn (TS pat a res (fN i) (fN (i+B.length)) b9 b10 b11 b12) (TS pat a (res++[.str (S (outOf bar md (T0of fr bk items)))]) (fN (i+B.length+1)) (fN (i+B.length)) (.froz x) b10' b11' b12')∧noMeth 10 [b10',b11',b12']=true:=by
  have hBl:B.length≤800:=by
    have:=congrArg List.length h
    rw [List.length_drop,List.length_append] at this
    lia
  obtain ⟨w1,w2⟩:=W1_len H hBl
  have hq:Ev (kCmp .NotIn (kS [45]) (kN 9)) (TS pat a res (fN i) (fN (i+B.length)) (fS B) b10 b11 b12) (!decide (45∈B)):=q_Cmp q_S (q_N rfl) (notIn_S 45 B)
  have hS:∃i' b10' b11' b12',Do (kIf (kCmp .NotIn (kS [45]) (kN 9)) tPlain tHyph) (TS pat a res (fN i) (fN (i+B.length)) (fS B) b10 b11 b12) (TS pat a res (fN i') (fN (i+B.length)) (fS (W1of md br fr bk items)) b10' b11' b12')∧noMeth 10 [b10',b11',b12']=true:=by
    by_cases hm:45∈B
    · rw [decide_eq_true hm] at hq
      obtain ⟨i',x,y,z,q⟩:=t_hyph (a:=a) (res:=res) H hl h rfl hm hn
      exact ⟨i',_,_,_,D_IfF hq q,rfl⟩
    · rw [decide_eq_false hm] at hq
      refine ⟨i,b10,b11,b12,D_IfT hq (D_one (D_set (ev1 (q_N rfl) ?_) rfl)),hn⟩
      have hmd:md=true:=match md,H.zy with
        | true,_=>rfl
        | false,hz=>by
          obtain ⟨_,_,rfl⟩:=hz rfl
          exact absurd (H.hB ▸ List.mem_append_left _ (List.mem_append_right _ (by decide))) hm
      rw [W1of,if_pos hmd,←no_hyphen (cur:=br++fr) (by rw [H.hB];exact hm),H.hB]
      exact repl_S B [92,92] 92 (Nat.le_trans (Nat.add_le_add hBl (Nat.mul_le_mul_right 2 (Nat.succ_le_succ hBl))) (by decide))
  obtain ⟨i',b10',b11',b12',hS,hn'⟩:=hS
  have hX:=t_sub (pat:=pat) (a:=a) (res:=res) (b5:=fN i') (b8:=fN (i+B.length)) (b10:=b10') (b11:=b11') (b12:=b12') (Nat.le_trans w1 (by decide))
  rw [W2_eq H] at hX
  obtain ⟨W,hE⟩:=t_end (pat:=pat) (a:=a) (md:=md) (b5:=fN (i+B.length+1)) (b8:=fN (i+B.length)) (b10:=b10') (b11:=b11') (b12:=b12') hr H.brE (T_ne H.ne) (T0_mem H) w2
  exact ⟨_,_,_,_,D_seq (D_set (t_slice hl h rfl rfl rfl rfl) rfl) (D_seq hS (D_seq hX (D_seq (D_set (q_Bin (q_N rfl) q_I (fN_add _ 1)) rfl) (D_one hE)))),hn'⟩
theorem t_br {bar md:Bool} {br fr bk B Q:List Nat} {items:List (Nat×Nat)} {i:Nat} (H:BrIn bar md br fr bk items B) (hl:pat.length≤800) (hr:res.length≤100) (h:pat.drop i=B++93::Q) (hn:noMeth 10 [b10,b11,b12]=true):
    ∃b8' x b10' b11' b12',Do tBr (TS pat a res (fN i) b8 b9 b10 b11 b12) (TS pat a (res++[.str (S (outOf bar md (T0of fr bk items)))]) (fN (i+B.length+1)) (.froz b8') (.froz x) b10' b11' b12')∧noMeth 10 [b10',b11',b12']=true:=by
  obtain ⟨w,hw⟩:∃w,items.flatMap render++bk=w:=⟨_,rfl⟩
  have hB:br++(fr++w)=B:=by rw [←hw,←List.append_assoc,←List.append_assoc];exact H.hB
  have hne:fr++w≠[]:=by rw [←hw,←List.append_assoc];exact H.ne
  obtain ⟨c,t,e⟩:∃c t,B=c::t:=List.exists_cons_of_ne_nil fun e=>hne (List.append_eq_nil_iff.mp (hB.trans e)).2
  have h1:=t_opt (c:=33) (a:=a) (res:=res) (b5:=fN i) (b9:=b9) (b10:=b10) (b11:=b11) (b12:=b12) (get_drop (h.trans (by rw [e];rfl))) hl
  rw [head_bar H e] at h1
  have d1:pat.drop (i+br.length)=(fr++w)++93::Q:=drop_app (h.trans (by rw [←hB,List.append_assoc]))
  obtain ⟨c2,t2,e2⟩:∃c t,fr++w=c::t:=List.exists_cons_of_ne_nil hne
  have h2:=t_opt (c:=93) (a:=a) (res:=res) (b5:=fN i) (b9:=b9) (b10:=b10) (b11:=b11) (b12:=b12) (get_drop (d1.trans (by rw [e2];rfl))) hl
  have ef:(if c2=93 then 1 else 0)=fr.length:=by
    rcases H.frE with q | q
    · rw [q] at e2 ⊢
      rw [if_neg]
      · rfl
      · exact H.n93 c2 (by rw [hw,show w=c2::t2 from e2];exact List.mem_cons_self)
    · rw [q] at e2 ⊢
      rw [if_pos (List.cons.inj e2).1.symm]
      rfl
  rw [ef] at h2
  have d2:pat.drop (i+br.length+fr.length)=w++93::Q:=drop_app (d1.trans (List.append_assoc ..))
  have hB2:i+br.length+fr.length+w.length=i+B.length:=by rw [←hB,List.length_append,List.length_append,Nat.add_assoc,Nat.add_assoc]
  have hlt:i+B.length < pat.length:=drop_le (drop_app h)
  have hwl:w.length < 1000:=by
    have:=congrArg List.length d2
    rw [List.length_drop,List.length_append] at this
    lia
  have h3:=t_scan (a:=a) (res:=res) (b5:=fN i) (b9:=b9) (b10:=b10) (b11:=b11) (b12:=b12) hl w d2 (fun c hc=>H.n93 c (hw ▸ hc)) hwl
  rw [hB2] at h3
  obtain ⟨x,b10',b11',b12',hI,hn'⟩:=t_in (a:=a) (b9:=b9) H hl hr h hn
  exact ⟨_,x,_,_,_,D_seq (D_set (q_N rfl) rfl) (D_seq h1 (D_seq h2 (D_seq h3 (D_one (D_IfF (q_Cmp (q_N rfl) (q_N rfl) (ge_F _ _ hlt)) hI))))),hn'⟩
theorem t_body {x y z:EvS} {bar md:Bool} {br fr bk B Q:List Nat} {items:List (Nat×Nat)} {i:Nat} {st:St} (H:BrIn bar md br fr bk items B) (hl:pat.length≤800) (hr:res.length≤100) (h:pat.drop i=91::(B++93::Q)) (hs:TTail pat a res i st):
    ∃s2,Do (tBody x y z) st s2∧TTail pat a (res++[.str (S (outOf bar md (T0of fr bk items)))]) (i+(B.length+2)) s2:=by
  obtain ⟨hn⟩:=hs
  obtain ⟨b8',u,b10',b11',b12',hB,hn'⟩:=t_br (a:=a) H hl hr (drop_app (u:=[91]) h) (noMeth_tl (noMeth_tl (noMeth_tl hn)))
  refine ⟨_,D_seq (D_set (q_It (q_N rfl) (q_N rfl) (item_S pat i 91 (get_drop h) (Nat.le_trans hl (by decide)))) rfl) (D_seq (D_set (q_Bin (q_N rfl) q_I (fN_add i 1)) rfl)
    (D_one (D_IfF (q_Cmp (q_N rfl) q_S (eq_one 91 42)) (D_one (D_IfF (q_Cmp (q_N rfl) q_S (eq_one 91 63)) (D_one (D_IfT (q_Cmp (q_N rfl) q_S (eq_one 91 91)) hB))))))),?_⟩
  rw [show i+(B.length+2)=i+1+B.length+1 by lia]
  exact ⟨hn'⟩
end
end Mine
end
section
open PySem PySem.W PyProof.Rows PySem.SeqAt PySem.Builtin.Str
set_option tactic.hygienic false
namespace Mine
noncomputable def PartOK (bar:Bool) (L q:List Nat):Prop:=if L=[] then q=(if bar=true then [46] else [40,63,33,41]) else ∃(fr bk:List Nat) (items:List (Nat×Nat)),Cov fr bk items L∧q=outOf bar true (subL (escR fr++items.flatMap renE++escR bk))
end Mine
end
section
open PySem PySem.W PyProof.Rows PySem.SeqAt PySem.Builtin.Str
set_option tactic.hygienic false
namespace Mine
structure BrOK (x:Bool×List Nat×List Nat):Prop where
  txt:BrText x.1 x.2.1 x.2.2
  lo:∀c∈x.2.1,34≤c∧c < 1000
  len:x.2.1.length≤16
theorem le_one {l:List Nat} {c:Nat} (h:l=[]∨l=[c]):l.length≤1:=h.elim (fun e=>e ▸ Nat.zero_le 1) fun e=>e ▸ Nat.le_refl 1
theorem br_len {x:Bool×List Nat×List Nat} (h:BrOK x):x.2.2.length≤60:=by
  obtain ⟨fr,bk,items,e,hc⟩:=h.txt
  have h1:=flat_len items
  have h2:=Nat.le_trans hc.len h.len
  have h3:=le_one hc.frOK
  have h4:=le_one hc.bkOK
  have h5:(if x.1=true then [33] else []).length≤1:=by split<;>decide
  have h6:(if x.2.1.isEmpty=true then [122,45,121] else []).length≤3:=by split<;>decide
  rw [e]
  simp only [List.length_append,List.length_singleton]
  lia
theorem cov_mem {fr bk L:List Nat} {items:List (Nat×Nat)} (hc:Cov fr bk items L) {c:Nat} (hm:c∈items.flatMap render++bk) (hL:∀c∈L,34≤c∧c < 1000):c≠93∧c≠33∧c < 1000:=by
  rcases List.mem_append.mp hm with hm | hm
  · obtain ⟨p,hp,hq⟩:=List.mem_flatMap.mp hm
    obtain ⟨g1,g2,g3,g4,g5⟩:=hc.good p hp
    have l1:=hL _ ((hc.iff _).mpr (.inr (.inr ⟨p,hp,Nat.le_refl _,g1⟩)))
    have l2:=hL _ ((hc.iff _).mpr (.inr (.inr ⟨p,hp,g1,Nat.le_refl _⟩)))
    unfold render at hq
    split at hq
    · obtain rfl:=List.mem_singleton.mp hq
      exact ⟨g3,Nat.ne_of_gt l1.1,l1.2⟩
    · rcases List.mem_cons.mp hq with rfl | hq
      · exact ⟨g3,Nat.ne_of_gt l1.1,l1.2⟩
      · rcases List.mem_cons.mp hq with rfl | hq
        · decide
        · obtain rfl:=List.mem_singleton.mp hq
          exact ⟨g5,Nat.ne_of_gt l2.1,l2.2⟩
  · rcases hc.bkOK with e | e<;>rw [e] at hm
    · cases hm
    · obtain rfl:=List.mem_singleton.mp hm
      decide
theorem cov_ne {fr bk L:List Nat} {items:List (Nat×Nat)} (hc:Cov fr bk items L) (h:fr++items.flatMap render++bk=[]):L=[]:=by
  obtain ⟨h1,h2⟩:=List.append_eq_nil_iff.mp h
  obtain ⟨h3,h4⟩:=List.append_eq_nil_iff.mp h1
  have hi:=items_le items
  rw [h4] at hi
  cases hL:L with
  | nil=>rfl
  | cons c l=>
    have:=(hc.iff c).mp (hL ▸ List.mem_cons_self)
    rw [h3,h2,List.length_eq_zero_iff.mp (Nat.le_zero.mp hi)] at this
    simp at this
theorem cov_nil {fr bk:List Nat} {items:List (Nat×Nat)} (hc:Cov fr bk items []):fr=[]∧bk=[]∧items=[]:=by
  refine ⟨hc.frOK.elim id fun e=>?_,hc.bkOK.elim id fun e=>?_,List.length_eq_zero_iff.mp (Nat.le_zero.mp hc.len)⟩
  · cases (hc.iff 93).mpr (.inl (e ▸ List.mem_singleton.mpr rfl))
  · cases (hc.iff 45).mpr (.inr (.inl (e ▸ List.mem_singleton.mpr rfl)))
theorem brIn_of {x:Bool×List Nat×List Nat} (h:BrOK x):∃md br fr bk items B,BrIn x.1 md br fr bk items B∧x.2.2=91::(B++[93])∧PartOK x.1 x.2.1 (outOf x.1 md (T0of fr bk items)):=by
  obtain ⟨bar,L,t⟩:=x
  obtain ⟨⟨fr,bk,items,e,hc⟩,lo,_⟩:=h
  dsimp only at e hc lo ⊢
  cases L with
  | nil=>
    obtain ⟨rfl,rfl,rfl⟩:=cov_nil hc
    exact ⟨false,_,[],[],[(122,121)],_,⟨rfl,rfl,.inl rfl,.inl rfl,by decide,by decide,by decide,(fun h=>nomatch h),fun _=>⟨rfl,rfl,rfl⟩⟩,by rw [e];simp [render],Eq.mpr (if_pos rfl) rfl⟩
  | cons c l=>
    exact ⟨true,_,fr,bk,items,_,⟨rfl,rfl,hc.frOK,hc.bkOK,fun _ m=>(cov_mem hc m lo).1,fun _ m=>(cov_mem hc m lo).2,(fun q=>nomatch cov_ne hc q),fun _=>hc.good,(fun h=>nomatch h)⟩,by rw [e];simp,Eq.mpr (if_neg (List.cons_ne_nil c l)) ⟨fr,bk,items,hc,rfl⟩⟩
inductive Parts:List (Bool×List Nat×List Nat)→List (List Nat)→Prop
  | nil:Parts [] []
  | cons {xs qs x q}:PartOK x.1 x.2.1 q→Parts xs qs→Parts (x::xs) (q::qs)
theorem Parts.len {xs qs} (h:Parts xs qs):qs.length=xs.length:=by
  induction h with
  | nil=>rfl
  | cons _ _ ih=>exact congrArg (· +1) ih
noncomputable abbrev brsT (brs:List (Bool×List Nat×List Nat)):List Nat:=brs.flatMap fun x=>x.2.2
theorem brs_len:∀l:List (Bool×List Nat×List Nat),(∀x∈l,BrOK x)→(brsT l).length≤l.length * 60
  | [],_=>Nat.le_refl 0
  | x::l,h=>by
    rw [brsT,List.flatMap_cons,List.length_append,List.length_cons,Nat.succ_mul,Nat.add_comm]
    exact Nat.add_le_add (brs_len l fun y hy=>h y (List.mem_cons_of_mem _ hy)) (br_len (h x List.mem_cons_self))
theorem t_loop {x y z:EvS}:∀(brs:List (Bool×List Nat×List Nat)) (n:Nat),(∀x∈brs,BrOK x)→brs.length < n→∃qs,Parts brs qs∧∀{pat:List Nat} {a:Addr} {res:List PV} {i:Nat} {st:St},pat.drop i=brsT brs→i+(brsT brs).length=pat.length→pat.length≤800→res.length+brs.length≤100→TTail pat a res i st→
    ∃s2,Do (whileF (kCmp .Lt (kN 5) (kN 6)) (tBody x y z) n) st s2∧TTail pat a (res++qs.map fun q=>.str (S q)) pat.length s2
  | [],n+1,_,_=>⟨[],.nil,fun {pat a res i st} _ hi _ _ hs=>by
    obtain rfl:i=pat.length:=hi
    refine ⟨st,D_wF ?_,by rwa [List.map_nil,List.append_nil]⟩
    obtain ⟨hn⟩:=hs
    exact q_Cmp (q_N rfl) (q_N rfl) (lt_F _ _ (Nat.lt_irrefl _))⟩
  | b::brs,n+1,hb,hn=>by
    obtain ⟨qs,hp,hq⟩:=t_loop (x:=x) (y:=y) (z:=z) brs n (fun y hy=>hb y (List.mem_cons_of_mem _ hy)) (Nat.lt_of_succ_lt_succ hn)
    obtain ⟨md,br,fr,bk,items,B,H,e,hP⟩:=brIn_of (hb b List.mem_cons_self)
    refine ⟨_,.cons hP hp,fun {pat a res i st} hd hi hl hr hs=>?_⟩
    have e2:b.2.2.length=B.length+2:=by rw [e,List.length_cons,List.length_append];rfl
    rw [brsT,List.flatMap_cons] at hd hi
    obtain ⟨s2,h1,h2⟩:=t_body (x:=x) (y:=y) (z:=z) H hl (Nat.le_trans (Nat.le_add_right _ _) hr) (hd.trans (by rw [e,List.cons_append,List.append_assoc];rfl)) hs
    rw [←e2] at h2
    rw [List.length_append,←Nat.add_assoc] at hi
    obtain ⟨s3,h3,h4⟩:=hq (drop_app hd) hi hl (by rw [List.length_append,Nat.add_assoc,Nat.add_comm _ brs.length];exact hr) h2
    rw [List.append_assoc] at h4
    refine ⟨s3,D_wT ?_ h1 h3,h4⟩
    obtain ⟨hn⟩:=hs
    refine q_Cmp (q_N rfl) (q_N rfl) (lt_T i _ ?_)
    rw [←hi,e2]
    lia
theorem runF_ret {g:EvS} {n:Nat} {as:List PV} {p:PV} {st':St} (h:g (as.map .froz++List.replicate (n - as.length) .none)=some (.ret p,st')):runF g n as=some p:=by
  unfold runF
  rw [h]
theorem t_hdr {pat:List Nat} {a:Addr} (h:pat.length≤800):Do tHd [fS pat,.froz (.obj a),fS [46],.own [],.meth 3,.none,.none,.none,.none,.none,.none,.none,.none] [fS pat,.froz (.obj a),fS [46],.own [],.meth 3,fN 0,fN pat.length,.none,.none,.none,.none,.none,.none]:=by
  have h2:pyLen [.str (S pat)]=some (.int pat.length):=by rw [len_St _ (by rw [S_len];exact Nat.lt_of_le_of_lt h (by decide)),S_len]
  have e:(kV (kI 0) (kV (kLen 0) (pureE []))) [fS pat,.froz (.obj a),fS [46],.own [],.meth 3,.none,.none,.none,.none,.none,.none,.none,.none]=some ([El.froz (.int ((0:Nat):Int)),El.froz (.int (pat.length:Int))],_):=q_V q_I (q_V (g:=pureE []) (es:=[]) (q_Len (i:=0) rfl h2) rfl)
  unfold Do tHd tupF
  rw [run_bind (run_bind (g:=fun es=>pureE es.reverse) e rfl) rfl]
  rfl
theorem trans_run {X:Cx} {d:Nat} {cd:Value} {ql:PySem.Str} (G:Glo X) {c T P cA:Addr} {fs its:Array Value} (okS:MakeOK X (FTrans cd ql) c T ⟨63,39,63,76⟩ "<lambda>") (okG:MakeOK X (FTrans cd ql) c T ⟨62,37,62,98⟩ "<genexpr>") (hTw:X.mg "_twin_re_1"=some (.ref P)) (hPat:PatAt X.B P fs cA its)
    (brs:List (Bool×List Nat×List Nat)) (hb:∀x∈brs,BrOK x) (hn:brs.length≤8):
    ∃qs,Parts brs qs∧∀a:Addr,runF (WTrans.transS (X:=X) (d:=d) (cd:=cd) (ql:=ql) G okS okG hTw hPat).1 13 [.str (S (brsT brs)),.obj a,.str (S [46])]=some (.list (qs.map fun q=>.str (S q))):=by
  obtain ⟨qs,hp,hq⟩:=t_loop (x:=fun _=>none) (y:=fun _=>none) (z:=fun _=>none) brs 1000 hb (Nat.lt_of_le_of_lt hn (by decide))
  have hl:(brsT brs).length≤800:=Nat.le_trans (brs_len brs hb) (Nat.le_trans (Nat.mul_le_mul_right 60 hn) (by decide))
  refine ⟨qs,hp,fun a=>?_⟩
  obtain ⟨s2,h1,h2⟩:=hq (pat:=brsT brs) (a:=a) (res:=[]) (i:=0) (List.drop_zero) (Nat.zero_add _) hl (Nat.le_trans (Nat.le_of_eq (Nat.zero_add _)) (Nat.le_trans hn (by decide))) (@TTail.mk _ _ _ _ .none .none .none .none .none .none rfl)
  rw [tr_code]
  obtain ⟨_⟩:=h2
  exact runF_ret ((seq_next (r_own0 rfl rfl)).trans ((seq_next (f:=setMeth 4 3) rfl).trans ((seq_next (t_hdr hl)).trans ((seq_next h1).trans ((seq_next (D_IfT (q_Cmp (q_N rfl) (q_N rfl) ((eq_I _ _).trans (congrArg some (beq_self_eq_true _)))) D_nil)).trans (seq_ret (run_bind rfl rfl)))))))
end Mine
end
section
open PySem PySem.W PyProof.Rows PySem.SeqAt PySem.Builtin.Str
set_option tactic.hygienic false
namespace Mine
theorem r_meth1 {m:PV→List PV→Option PV} {f g1:EvE} {st st1 st2:St} {o a r:PV} (h:f st=some (o,st1)) (h1:g1 st1=some (a,st2)) (h4:m o [a]=some r):
    bindE f (fun o=>bindE (bindE g1 fun a=>bindE (pureE []) fun as=>pureE (a::as)) fun as=>liftE (m o as)) st=some (r,st2):=by simp only [bindE,h,h1,h4,liftE,pureE]
theorem join_flat:∀l:List (List Nat),PySem.Str.join (S []) (l.map S)=S l.flatten
  | []=>rfl
  | [x]=>by
    show S x=_
    simp
  | x::y::r=>by
    have ih:=join_flat (y::r)
    show S x++S []++PySem.Str.join (S []) ((y::r).map S)=_
    rw [ih,S_app,S_app]
    simp
theorem joinS_eq (sep:PySem.Str) (l:List PySem.Str):Mine.joinS sep l=PySem.Str.join sep l:=by
  unfold Mine.joinS
  split
  · rfl
  · exact StrLaws.glued_eq_join ..
theorem pyJoin_S (l:List (List Nat)) (h:∀q∈l,q.length≤2000) (hl:l.length≤900):pyJoin (.str (S [])) [.list (l.map fun q=>.str (S q))]=some (.str (S l.flatten)):=by
  have hs:=sum_le 2000 ((l.map S).map (·.length)) (by
    intro x hx
    rw [List.map_map] at hx
    obtain ⟨q,hq,rfl⟩:=List.mem_map.mp hx
    have:=h q hq
    simp only [Function.comp,S_len]
    lia)
  have hjo:JoinOk (S []) (l.map S)=true:=by
    refine joinOk_of ?_
    simp only [List.length_map,S_len,List.length_nil] at hs ⊢
    lia
  show (allOf asStr (l.map fun q=>PV.str (S q))).bind _=_
  rw [allOf_str,Option.bind_some]
  have e:Mine.joinS (S []) (l.map S)=S l.flatten:=by rw [joinS_eq,join_flat]
  have h1:PySem.Builtin.Str.tooLong ((l.map S).toArray.foldl (· +·.length+(S []).length) 0)=false:=by
    unfold JoinOk at hjo
    rw [Bool.not_eq_true'] at hjo
    exact hjo
  have h2:(S l.flatten).length≤16777216:=by
    rw [S_len,List.length_flatten]
    simp only [List.length_map,List.map_map] at hs
    have:(l.map (List.length)).sum=(l.map ((fun x:PySem.Str=>x.length) ∘ S)).sum:=by
      exact congrArg List.sum (List.map_congr_left fun q _=>(S_len q).symm)
    lia
  rw [e,if_pos ⟨h1,h2⟩]
end Mine
end
section
open PySem PySem.W PyProof.Rows PySem.SeqAt PySem.Builtin.Str
set_option tactic.hygienic false
namespace Mine
noncomputable def jTest:EvB:=andF (kCmp .Lt (kN 4) (kN 5)) (kCmp .IsNot (kIt (kN 0) (kN 4)) (kN 1))
noncomputable def jTurn:EvS:=seqF (addF 3 2 (kIt (kN 0) (kN 4))) (seqF (augF 4 .Add (kI 1)) dNil)
noncomputable def jHd:EvS:=tupF [5,4] (bindE (kV (kI 0) (kV (kLen 0) (pureE []))) fun es=>pureE es.reverse)
noncomputable def jFstr:EvE:=kJo (kS [40,63,115,58]) (kJo (kO (kN 2) fmtOf) (kJo (kS [41,92,90]) kJn)) (S [])
noncomputable def jAll (x:EvS):EvS:=seqF (bindE (pureE []) fun as=>setOwn 2 as) (seqF (setMeth 3 2) (seqF jHd (seqF (whileF jTest jTurn 1000) (seqF (whileF (kCmp .Lt (kN 4) (kN 5)) x 1000)
  (seqF (kIf (kCmp .Eq (kN 4) (kN 5)) dNil (fun _=>none)) (seqF (dSet 2 (kM (kS []) pyJoin (kA1 (kN 2)))) (seqF (bindE jFstr fun p=>pureE (.ret p)) dNil)))))))
theorem jo_code {X:Cx} {d:Nat} {cd:Value} {ql:PySem.Str} (G:Glo X):(WJoin.joinS (X:=X) (d:=d) (cd:=cd) (ql:=ql) G).1=jAll (fun _=>none):=by
  unfold WJoin.joinS
  rfl
noncomputable def JS (qs:List (List Nat)) (a:Addr) (r2:Bind) (j:Nat):St:=[.froz (.list (qs.map fun q=>.str (S q))),.froz (.obj a),r2,.meth 2,fN j,fN qs.length,.none]
section
variable {qs:List (List Nat)} {a:Addr}
theorem j_turn {ps:List (List Nat)} {j:Nat} {q:List Nat} (hn:qs.length≤900) (hp:ps.length≤900) (h:qs[j]? =some q):Ev jTest (JS qs a (oL ps) j) true∧Do jTurn (JS qs a (oL ps) j) (JS qs a (oL (ps++[q])) (j+1)):=
  have hi:=item_oL hn h
  ⟨q_AndT (q_Cmp (q_N rfl) (q_N rfl) (lt_T _ _ (List.getElem?_eq_some_iff.mp h).1)) (q_Cmp (q_It (q_N rfl) (q_N rfl) hi) (q_N rfl) rfl),
    D_seq (D_add rfl (q_It (q_N rfl) (q_N rfl) hi) rfl (len_oL (Nat.le_trans hp (by decide))) rfl) (map_snoc ps q ▸ D_one (D_aug rfl q_I rfl rfl))⟩
theorem j_loop (hn:qs.length≤900):∀(rs ps:List (List Nat)) (n:Nat),qs=ps++rs→rs.length < n→Do (whileF jTest jTurn n) (JS qs a (oL ps) ps.length) (JS qs a (oL qs) qs.length)
  | [],ps,n+1,h,_=>by
    obtain rfl:qs=ps:=h.trans (List.append_nil ps)
    exact D_wF (q_AndF (q_Cmp (q_N rfl) (q_N rfl) (lt_F _ _ (Nat.lt_irrefl _))))
  | q::rs,ps,n+1,h,hl=>by
    have hp:ps.length≤qs.length:=by rw [h,List.length_append];exact Nat.le_add_right _ _
    obtain ⟨h1,h2⟩:=j_turn (a:=a) (ps:=ps) (j:=ps.length) (q:=q) hn (Nat.le_trans hp hn) (by rw [h,List.getElem?_append_right (Nat.le_refl _),Nat.sub_self];rfl)
    have h3:=j_loop hn rs (ps++[q]) n (h.trans (by rw [List.append_assoc];rfl)) (Nat.lt_of_succ_lt_succ hl)
    rw [List.length_append] at h3
    exact D_wT h1 h2 h3
theorem join_run {X:Cx} {d:Nat} {cd:Value} {ql:PySem.Str} (G:Glo X) (hq:∀q∈qs,q.length≤2000) (hn:qs.length≤20):
    runF (WJoin.joinS (X:=X) (d:=d) (cd:=cd) (ql:=ql) G).1 7 [.list (qs.map fun q=>.str (S q)),.obj a]=some (.str (S ([40,63,115,58]++qs.flatten++[41,92,90]))):=by
  have hn2:qs.length≤900:=Nat.le_trans hn (by decide)
  have h2:=(len_L (qs.map fun q=>.str (S q)) (Nat.lt_of_le_of_lt (len_oL hn) (by decide:20 < 9223372036854775808))).trans (by rw [List.length_map])
  have e:(kV (kI 0) (kV (kLen 0) (pureE []))) [.froz (.list (qs.map fun q=>.str (S q))),.froz (.obj a),oL [],.meth 2,.none,.none,.none]=some ([El.froz (.int ((0:Nat):Int)),El.froz (.int (qs.length:Int))],_):=q_V q_I (q_V (g:=pureE []) (es:=[]) (q_Len (i:=0) rfl h2) rfl)
  have h3:Do jHd [.froz (.list (qs.map fun q=>.str (S q))),.froz (.obj a),oL [],.meth 2,.none,.none,.none] (JS qs a (oL []) 0):=by
    unfold Do jHd tupF
    rw [run_bind (run_bind (g:=fun es=>pureE es.reverse) e rfl) rfl]
    rfl
  have hfl:qs.flatten.length≤100000:=by
    have hs:=sum_le 2000 (qs.map List.length) fun x hx=>by
      obtain ⟨q,hq',rfl⟩:=List.mem_map.mp hx
      exact hq q hq'
    rw [List.length_map] at hs
    rw [List.length_flatten]
    exact Nat.le_trans hs (Nat.le_trans (Nat.mul_le_mul_right 2000 hn) (by decide))
  have h4:Do (dSet 2 (kM (kS []) pyJoin (kA1 (kN 2)))) (JS qs a (oL qs) qs.length) (JS qs a (fS qs.flatten) qs.length):=
    r_set (st1:=JS qs a (.froz (.list (qs.map fun q=>.str (S q)))) qs.length) (r_meth1 r_const rfl (pyJoin_S qs hq hn2)) rfl
  have h5:Ev jFstr (JS qs a (fS qs.flatten) qs.length) (.str (S ([40,63,115,58]++qs.flatten++[41,92,90]))):=r_f3 _ qs.flatten 2 rfl hfl [40,63,115,58] [41,92,90] (by decide) (by decide)
  rw [jo_code]
  exact runF_ret ((seq_next (r_own0 rfl rfl)).trans ((seq_next (f:=setMeth 3 2) rfl).trans ((seq_next h3).trans ((seq_next (j_loop hn2 qs [] 1000 rfl (Nat.lt_of_le_of_lt hn (by decide)))).trans ((seq_next (D_wF (q_Cmp (q_N rfl) (q_N rfl) (lt_F _ _ (Nat.lt_irrefl _))))).trans ((seq_next (D_IfT (q_Cmp (q_N rfl) (q_N rfl) ((eq_I _ _).trans (congrArg some (beq_self_eq_true _)))) D_nil)).trans ((seq_next h4).trans (seq_ret (run_bind h5 rfl)))))))))
end
end Mine
end
section
open PySem PySem.W PyProof.Rows PySem.SeqAt PySem.Builtin.Str
set_option tactic.hygienic false
namespace Mine
noncomputable def mk (m:Nat×Bool):List Nat:=if m.2=true then [92,m.1] else [m.1]
noncomputable def pvM (m:Nat×Bool):PV:=.tuple [C m.1,.int (if m.2=true then 1 else 0)]
noncomputable abbrev Grp:=(Nat×Bool)×Option (Nat×Bool)
noncomputable def fl (g:Grp):List (Nat×Bool):=match g.2 with
  | none=>[g.1]
  | some m=>[g.1,(45,false),m]
noncomputable def ends (g:Grp):Nat×Nat:=(g.1.1,match g.2 with
  | none=>g.1.1
  | some m=>m.1)
noncomputable def pvE (p:Nat×Nat):PV:=.tuple [C p.1,C p.2]
structure GsOK (gs:List Grp):Prop where
  ne:gs≠[]
  lo:∀m∈gs.flatMap fl,m.1 < 1000∧(m.2=false→m.1≠92)
  tl:∀m∈(gs.flatMap fl).tail,m.2=false→m.1≠93
  st:∀g∈gs,g.1≠(45,false)
  len:gs.length≤20
theorem r_cmpOwn {op:CmpOp} {i:Nat} {g:St→Option PV} {st:St} {xs:List PV} {b:PV} {c:Bool} (h:st[i]? =some (.own xs)) (h1:g st=some b) (h2:cmpOp op (.list xs) b=some c):cmpOwn op i g st=some (c,st):=by simp only [cmpOwn,h,h1,h2]
theorem r_tup2 {f g:EvE} {st st1 st2:St} {a b:PV} (h:f st=some (a,st1)) (h1:g st1=some (b,st2)):bindE (bindE f fun a=>bindE (bindE g fun b=>bindE (pureE []) fun as=>pureE (b::as)) fun as=>pureE (a::as)) (fun as=>liftE (mkT as)) st=some (.tuple [a,b],st2):=by
  simp only [bindE,h,h1,pureE,liftE,mkT]
  rfl
theorem fl_len (gs:List Grp):gs.length≤(gs.flatMap fl).length∧(gs.flatMap fl).length≤3 * gs.length:=by
  induction gs with
  | nil=>simp
  | cons g gs ih=>
    have h:1≤(fl g).length∧(fl g).length≤3:=by unfold fl;split<;>simp
    simp only [List.flatMap_cons,List.length_append,List.length_cons]
    lia
theorem mk_len (ms:List (Nat×Bool)):ms.length≤(ms.flatMap mk).length∧(ms.flatMap mk).length≤2 * ms.length:=by
  induction ms with
  | nil=>simp
  | cons m ms ih=>
    have h:1≤(mk m).length∧(mk m).length≤2:=by unfold mk;split<;>simp
    simp only [List.flatMap_cons,List.length_append,List.length_cons]
    lia
theorem marks_nil {ms:List (Nat×Bool)} (h:∀m∈ms,m.1 < 1000):pyEq (.list (ms.map pvM)) (.list [])=some ms.isEmpty:=by
  have:=pyEq_nil (xs:=ms.map pvM) (toPys_map pvM (fun m=>PyData.tuple [.str (S [m.1]),.int (if m.2=true then 1 else 0)]) ms fun x _=>rfl) (canAll_map _ ms fun x hx=>by have:=h x hx;simp [PyData.canLay0,PyData.canLayAll0,PyData.strOk];lia) (Nat.le_trans (depthAll_map _ 60 ms fun x _=>by simp [PyData.depth,PyData.depthAll]) (Nat.le_refl _))
  rw [this]
  simp
theorem mark_eq (m:Nat×Bool) (h:m.1 < 1000):pyEq (pvM m) (.tuple [C 45,.int 0])=some (decide (m=(45,false))):=by
  obtain ⟨c,e⟩:=m
  have e1:toPy (pvM (c,e))=some (.tuple [.str (S [c]),.int (if e=true then 1 else 0)]):=rfl
  have e2:toPy (.tuple [C 45,.int 0])=some (.tuple [.str (S [45]),.int 0]):=rfl
  have s1:shaped (.tuple [.str (S [c]),.int (if e=true then 1 else 0)])=true:=by
    unfold shaped
    simp [PyData.canLay0,PyData.canLayAll0,PyData.strOk,PyData.depth,PyData.depthAll]
    have:c < 1000:=h
    lia
  have s2:shaped (.tuple [.str (S [45]),.int 0])=true:=by decide+kernel
  have hb:∀a b:Nat,(S [a]==S [b])=decide (a=b):=by
    intro a b
    by_cases e:a=b
    · rw [e];simp
    · rw [decide_eq_false e]
      exact beq_eq_false_iff_ne.mpr fun q=>e ((List.cons.inj (S_inj q)).1)
  unfold pyEq
  rw [e1,e2]
  dsimp only
  rw [if_pos ⟨s1,s2⟩]
  refine congrArg some ?_
  simp only [PyData.eqv,PyData.eqvAll,hb]
  cases e<;>by_cases q:c=45<;>simp [q]
end Mine
end
section
open PySem PySem.W PyProof.Rows PySem.SeqAt PySem.Builtin.Str
set_option tactic.hygienic false
namespace Mine
noncomputable def kT2 (f g:EvE):EvE:=bindE (kA2 f g) fun as=>liftE (mkT as)
noncomputable def kEl (g:St→Option (List El×St)):St→Option (List El×St):=bindE (pureE []) fun a=>bindE g fun as=>if a.length≤16777216 then pureE (El.own a::as) else fun _=>none
noncomputable def eTest:EvB:=orF (cmpOwn .Eq 2 (fun _=>some (.list []))) (tIt .NotEq 1 93)
noncomputable def eTurn:EvS:=seqF (dSet 5 (kIf (tIt .Eq 1 92) (kI 1) (kI 0))) (seqF (appF 2 (kT2 (kIt (kN 0) (kBin .Add (kN 1) (kN 5))) (kN 5))) (seqF (augF 1 .Add (kBin .Add (kI 1) (kN 5))) dNil))
noncomputable def eDash:EvB:=andF (kCmp .Lt (kBin .Add (kN 4) (kI 2)) (kLen 2)) (kCmp .Eq (kOwn 2 (kP2 .Add (getP 4) (fun _=>some (.int 1)))) (kT2 (kS [45]) (kI 0)))
noncomputable def ePair:EvS:=seqF (dSet 6 (kIf eDash (kI 2) (kI 0))) (seqF (appF 3 (kT2 (kIt (kOwn 2 (getP 4)) (kI 0)) (kIt (kOwn 2 (kP2 .Add (getP 4) (getP 6))) (kI 0)))) (seqF (augF 4 .Add (kBin .Add (kI 1) (kN 6))) dNil))
noncomputable def eHd:EvS:=tupF [4,3,2] (bindE (kEl (kEl (kV (kI 0) (pureE [])))) fun es=>pureE es.reverse)
noncomputable def eAll:EvS:=seqF eHd (seqF (whileF eTest eTurn 1000) (seqF (whileF (kCmp .Lt (kN 4) (kLen 2)) ePair 1000) (seqF (bindE (kT2 (kN 3) (kBin .Add (kN 1) (kI 1))) fun p=>pureE (.ret p)) dNil)))
theorem se_code {X:Cx} {d:Nat} {cd:Value} {ql:PySem.Str} (G:Glo X):(WSet.setS (X:=X) (d:=d) (cd:=cd) (ql:=ql) G).1=eAll:=by
  unfold WSet.setS
  rfl
noncomputable def ES (text:List Nat) (k:Nat) (ms:List (Nat×Bool)) (rs:List Grp) (i:Nat) (b5 b6:Bind):St:=[fS text,fN k,.own (ms.map pvM),.own (rs.map fun g=>pvE (ends g)),fN i,b5,b6]
theorem q_T2 {f g:EvE} {st:St} {a b:PV} (h1:Ev f st a) (h2:Ev g st b):Ev (kT2 f g) st (.tuple [a,b]):=r_tup2 h1 h2
theorem q_OrT {f g:EvB} {st:St} (h:Ev f st true):Ev (orF f g) st true:=r_orT h
theorem q_OrF {f g:EvB} {st:St} {b:Bool} (h:Ev f st false) (k:Ev g st b):Ev (orF f g) st b:=r_orF h k
section
variable {text:List Nat} {k i:Nat} {ms:List (Nat×Bool)} {rs:List Grp} {b5 b6:Bind}
theorem mapM_snoc (ms:List (Nat×Bool)) (m:Nat×Bool):Bind.own (ms.map pvM++[pvM m])=.own ((ms++[m]).map pvM):=by rw [List.map_append];rfl
theorem e_turn {v:List Nat} {m:Nat×Bool} (hl:text.length≤900) (hm:ms.length≤900) (h:text.drop k=mk m++v) (h92:m.2=false→m.1≠92):∃b,Do eTurn (ES text k ms rs i b5 b6) (ES text (k+(mk m).length) (ms++[m]) rs i (.froz b) b6):=by
  have h9:=Nat.le_trans hl (by decide:900≤16777216)
  have hml:(ms.map pvM).length≤16777215:=by rw [List.length_map];exact Nat.le_trans hm (by decide)
  obtain ⟨c,e⟩:=m
  cases e with
  | true=>exact ⟨_,D_seq (D_set (q_IfT (q_Cmp (q_It (q_N rfl) (q_N rfl) (item_S text k 92 (get_drop h) h9)) q_S (eq_one 92 92)) (q_I (n:=((1:Nat):Int)))) rfl)
      (D_seq (D_app (q_T2 (q_It (q_N rfl) (q_Bin (q_N rfl) (q_N rfl) (fN_add k 1)) (item_S text (k+1) c (get_drop (drop_app (u:=[92]) h)) h9)) (q_N rfl)) rfl hml (congrArg (List.set _ 2) (mapM_snoc ms (c,true)))) (D_one (D_aug rfl (q_Bin q_I (q_N rfl) (fN_add 1 1)) rfl rfl)))⟩
  | false=>exact ⟨_,D_seq (D_set (q_IfF (q_Cmp (q_It (q_N rfl) (q_N rfl) (item_S text k c (get_drop h) h9)) q_S ((eq_one c 92).trans (congrArg some (decide_eq_false (h92 rfl))))) (q_I (n:=((0:Nat):Int)))) rfl)
      (D_seq (D_app (q_T2 (q_It (q_N rfl) (q_Bin (q_N rfl) (q_N rfl) (fN_add k 0)) (item_S text k c (get_drop h) h9)) (q_N rfl)) rfl hml (congrArg (List.set _ 2) (mapM_snoc ms (c,false)))) (D_one (D_aug rfl (q_Bin q_I (q_N rfl) (fN_add 1 0)) rfl rfl)))⟩
theorem e_empty (h:∀m∈ms,m.1 < 1000):Ev (cmpOwn .Eq 2 (fun _=>some (.list []))) (ES text k ms rs i b5 b6) ms.isEmpty:=r_cmpOwn rfl rfl (marks_nil h)
theorem isE_false {α:Type} {l:List α} (h:l≠[]):l.isEmpty=false:=match l,h with
  | _::_,_=>rfl
  | [],h=>absurd rfl h
noncomputable def MkOK (m:Nat×Bool):Prop:=m.1 < 1000∧(m.2=false→m.1≠92)
theorem e_marks {post:List Nat} (hl:text.length≤900):∀(ms ds:List (Nat×Bool)) (k n:Nat) (b5:Bind),text.drop k=ms.flatMap mk++93::post→ds++ms≠[]→(∀m∈ds,m.1 < 1000)→(∀m∈ms,MkOK m)→(ds≠[]→∀m∈ms,m.2=false→m.1≠93)→(∀m∈ms.tail,m.2=false→m.1≠93)→
    ms.length < n→ds.length+ms.length≤900→∃b,Do (whileF eTest eTurn n) (ES text k ds rs i b5 b6) (ES text (k+(ms.flatMap mk).length) (ds++ms) rs i b b6)
  | [],ds,k,n+1,b5,h,hne,hd,_,_,_,_,_=>by
    rw [List.append_nil] at hne ⊢
    exact ⟨b5,D_wF (q_OrF (isE_false hne ▸ e_empty hd) (t_it' (get_drop h) (Nat.le_trans hl (by decide)) rfl rfl (ne_one 93 93)))⟩
  | m::ms,ds,k,n+1,b5,h,_,hd,ho,h93,ht,hn,hs=>by
    have om:=ho m List.mem_cons_self
    rw [List.flatMap_cons,List.append_assoc] at h
    obtain ⟨b,h1⟩:=e_turn (ms:=ds) (rs:=rs) (i:=i) (b5:=b5) (b6:=b6) hl (Nat.le_trans (Nat.le_add_right _ _) hs) h om.2
    obtain ⟨b',h2⟩:=e_marks (post:=post) hl ms (ds++[m]) (k+(mk m).length) n (.froz b) (drop_app h) (by rw [List.append_assoc];exact List.append_ne_nil_of_right_ne_nil _ (List.cons_ne_nil _ _))
      (fun x hx=>(List.mem_append.mp hx).elim (hd x) fun q=>(List.mem_singleton.mp q) ▸ om.1) (fun x hx=>ho x (List.mem_cons_of_mem _ hx)) (fun _=>ht) (fun x hx=>ht x (List.mem_of_mem_tail hx)) (Nat.lt_of_succ_lt_succ hn)
      (by rw [List.length_append,Nat.add_assoc,Nat.add_comm _ ms.length];exact hs)
    rw [List.append_assoc,Nat.add_assoc,←List.length_append,←List.flatMap_cons] at h2
    refine ⟨b',D_wT ?_ h1 h2⟩
    by_cases e:ds=[]
    · subst e
      exact q_OrT (e_empty hd)
    · refine q_OrF (isE_false e ▸ e_empty hd) ?_
      obtain ⟨c,q⟩:=m
      have h9:=Nat.le_trans hl (by decide:900≤16777216)
      cases q with
      | true=>exact t_it' (get_drop h) h9 rfl rfl (ne_one 92 93)
      | false=>exact t_it' (get_drop h) h9 rfl rfl ((ne_one c 93).trans (congrArg (fun b=>some !b) (decide_eq_false (h93 e (c,false) List.mem_cons_self rfl))))
theorem item_M {j:Nat} {m:Nat×Bool} (hl:ms.length≤900) (h:ms[j]? =some m):pyItem (.list (ms.map pvM)) (.int (j:Int))=some (pvM m):=item_L _ _ _ (by rw [List.getElem?_map,h];rfl) (by rw [List.length_map];exact Nat.le_trans hl (by decide))
theorem len_M (hl:ms.length≤900):pyLen [.list (ms.map pvM)]=some (.int ms.length):=(len_L _ (by rw [List.length_map];exact Nat.lt_of_le_of_lt hl (by decide))).trans (by rw [List.length_map])
theorem fl_first (g:Grp):∃t,fl g=g.1::t:=by
  obtain ⟨a,b⟩:=g
  cases b<;>exact ⟨_,rfl⟩
theorem mapG_snoc (g:Grp):Bind.own ((rs.map fun g=>pvE (ends g))++[pvE (ends g)])=.own ((rs++[g]).map fun g=>pvE (ends g)):=by rw [List.map_append];rfl
theorem e_pair {g:Grp} {gs:List Grp} (hl:ms.length≤900) (hr:rs.length≤900) (hlo:∀m∈ms,m.1 < 1000) (h:ms.drop i=fl g++gs.flatMap fl) (hst:∀g∈gs,g.1≠(45,false)):∃b,Do ePair (ES text k ms rs i b5 b6) (ES text k ms (rs++[g]) (i+(fl g).length) b5 (.froz b)):=by
  obtain ⟨g1,g2⟩:=g
  have hrl:(rs.map fun g=>pvE (ends g)).length≤16777215:=by rw [List.length_map];exact Nat.le_trans hr (by decide)
  cases g2 with
  | none=>
    have h0:=item_M hl (get_drop h)
    have hD:Ev eDash (ES text k ms rs i b5 b6) false:=by
      have e1:Ev (kBin .Add (kN 4) (kI 2)) (ES text k ms rs i b5 b6) (.int ((i+2:Nat):Int)):=q_Bin (q_N rfl) q_I (fN_add i 2)
      rcases Nat.lt_or_ge (i+2) ms.length with q | q
      · have h1:=List.getElem?_eq_getElem (Nat.lt_of_succ_lt q)
        refine q_AndT (q_Cmp e1 (q_LenO rfl (len_M hl)) (lt_T _ _ q)) (q_Cmp (q_OwnO rfl (fN_add i 1) (item_M hl h1)) (q_T2 q_S q_I) ((mark_eq _ (hlo _ (List.getElem_mem _))).trans (congrArg some (decide_eq_false ?_))))
        have h2:=List.getElem?_drop (xs:=ms) (i:=i) (j:=1)
        rw [h,h1] at h2
        cases gs with
        | nil=>cases h2
        | cons g' gs=>
          obtain ⟨t,ht⟩:=fl_first g'
          rw [List.flatMap_cons,ht] at h2
          rw [←Option.some.inj h2]
          exact hst g' List.mem_cons_self
      · exact q_AndF (q_Cmp e1 (q_LenO rfl (len_M hl)) (lt_F _ _ (Nat.not_lt.mpr q)))
    exact ⟨_,D_seq (D_set (q_IfF hD (q_I (n:=((0:Nat):Int)))) rfl) (D_seq (D_app (q_T2 (q_It (q_OwnO rfl rfl h0) q_I rfl) (q_It (q_OwnO rfl (fN_add i 0) h0) q_I rfl)) rfl hrl (congrArg (List.set _ 3) (mapG_snoc (g1,none)))) (D_one (D_aug rfl (q_Bin q_I (q_N rfl) (fN_add 1 0)) rfl rfl)))⟩
  | some m=>
    have h0:=item_M hl (get_drop h)
    have h1:=item_M hl (get_drop (drop_app (u:=[g1]) h))
    have h2:=get_drop (drop_app (u:=[g1,(45,false)]) h)
    have hD:Ev eDash (ES text k ms rs i b5 b6) true:=q_AndT (q_Cmp (q_Bin (q_N rfl) q_I (fN_add i 2)) (q_LenO rfl (len_M hl)) (lt_T _ _ (List.getElem?_eq_some_iff.mp h2).1)) (q_Cmp (q_OwnO rfl (fN_add i 1) h1) (q_T2 q_S q_I) (mark_eq (45,false) (by decide)))
    exact ⟨_,D_seq (D_set (q_IfT hD (q_I (n:=((2:Nat):Int)))) rfl) (D_seq (D_app (q_T2 (q_It (q_OwnO rfl rfl h0) q_I rfl) (q_It (q_OwnO rfl (fN_add i 2) (item_M hl h2)) q_I rfl)) rfl hrl (congrArg (List.set _ 3) (mapG_snoc (g1,some m)))) (D_one (D_aug rfl (q_Bin q_I (q_N rfl) (fN_add 1 2)) rfl rfl)))⟩
theorem e_pairs (hl:ms.length≤900) (hlo:∀m∈ms,m.1 < 1000):∀(gs rs:List Grp) (i n:Nat) (b6:Bind),ms.drop i=gs.flatMap fl→i+(gs.flatMap fl).length=ms.length→(∀g∈gs,g.1≠(45,false))→gs.length < n→rs.length+gs.length≤900→
    ∃b,Do (whileF (kCmp .Lt (kN 4) (kLen 2)) ePair n) (ES text k ms rs i b5 b6) (ES text k ms (rs++gs) ms.length b5 b)
  | [],rs,i,n+1,b6,_,hi,_,_,_=>by
    obtain rfl:i=ms.length:=hi
    rw [List.append_nil]
    exact ⟨b6,D_wF (q_Cmp (q_N rfl) (q_LenO rfl (len_M hl)) (lt_F _ _ (Nat.lt_irrefl _)))⟩
  | g::gs,rs,i,n+1,b6,h,hi,hst,hn,hs=>by
    rw [List.flatMap_cons] at h hi
    obtain ⟨b,h1⟩:=e_pair (text:=text) (k:=k) (b5:=b5) (b6:=b6) hl (Nat.le_trans (Nat.le_add_right _ _) hs) hlo h fun x hx=>hst x (List.mem_cons_of_mem _ hx)
    rw [List.length_append,←Nat.add_assoc] at hi
    obtain ⟨b',h2⟩:=e_pairs hl hlo gs (rs++[g]) _ n (.froz b) (drop_app h) hi (fun x hx=>hst x (List.mem_cons_of_mem _ hx)) (Nat.lt_of_succ_lt_succ hn) (by rw [List.length_append,Nat.add_assoc,Nat.add_comm _ gs.length];exact hs)
    obtain ⟨t,ht⟩:=fl_first g
    rw [List.append_assoc] at h2
    rw [ht,List.cons_append] at h
    exact ⟨b',D_wT (q_Cmp (q_N rfl) (q_LenO rfl (len_M hl)) (lt_T _ _ (drop_le h))) h1 h2⟩
end
theorem set_run {X:Cx} {d:Nat} {cd:Value} {ql:PySem.Str} (G:Glo X) {text post:List Nat} {k:Nat} {gs:List Grp} (hg:GsOK gs) (ht:text.drop k=(gs.flatMap fl).flatMap mk++93::post) (hl:text.length≤900):
    runF (WSet.setS (X:=X) (d:=d) (cd:=cd) (ql:=ql) G).1 7 [.str (S text),.int (k:Int)]=some (.tuple [.list (gs.map fun g=>pvE (ends g)),.int ((k+((gs.flatMap fl).flatMap mk).length+1:Nat):Int)]):=by
  have h1:=fl_len gs
  have hml:(gs.flatMap fl).length≤60:=Nat.le_trans h1.2 (Nat.mul_le_mul_left 3 hg.len)
  have hne:gs.flatMap fl≠[]:=fun e=>hg.ne (List.length_eq_zero_iff.mp (Nat.le_zero.mp (by rw [e] at h1;exact h1.1)))
  have hgl:=Nat.lt_of_le_of_lt hg.len (by decide:20 < 1000)
  obtain ⟨b5,hA⟩:=e_marks (rs:=[]) (i:=0) (b6:=.none) hl (gs.flatMap fl) [] k 1000 .none ht hne (fun _ h=>nomatch h) hg.lo (fun h=>absurd rfl h) hg.tl (Nat.lt_of_le_of_lt hml (by decide)) (Nat.le_trans (Nat.le_of_eq (Nat.zero_add _)) (Nat.le_trans hml (by decide)))
  obtain ⟨b6,hB⟩:=e_pairs (text:=text) (k:=k+((gs.flatMap fl).flatMap mk).length) (b5:=b5) (Nat.le_trans hml (by decide)) (fun m hm=>(hg.lo m hm).1) gs [] 0 1000 .none rfl (Nat.zero_add _) hg.st hgl (Nat.le_trans (Nat.le_of_eq (Nat.zero_add _)) (Nat.le_trans hg.len (by decide)))
  rw [se_code]
  exact runF_ret ((seq_next (f:=eHd) (st1:=ES text k [] [] 0 .none .none) rfl).trans ((seq_next hA).trans ((seq_next hB).trans (seq_ret (run_bind (r_tup2 (st1:=[fS text,fN (k+((gs.flatMap fl).flatMap mk).length),.own ((gs.flatMap fl).map pvM),.froz (.list (gs.map fun g=>pvE (ends g))),fN (gs.flatMap fl).length,b5,b6]) rfl (q_Bin (q_N rfl) q_I (fN_add _ 1))) rfl)))))
end Mine
end
section
open PySem PySem.W PyProof.Rows PySem.SeqAt PySem.Builtin.Str
set_option tactic.hygienic false
namespace Mine
noncomputable def es (c:Nat):Bool:=decide (c=92)||sp c
noncomputable def itG (p:Nat×Nat):Grp:=((p.1,es p.1),if p.1=p.2 then none else some (p.2,es p.2))
noncomputable def gs0 (fr bk:List Nat) (items:List (Nat×Nat)):List Grp:=(fr.map fun c=>((c,false),none))++items.map itG++bk.map fun c=>((c,true),none)
theorem sub_esc {c:Nat} (h:c≠45):subL (esc c)=mk (c,es c):=by
  unfold esc
  by_cases h1:c=92
  · rw [if_pos h1]
    subst h1
    rfl
  · rw [if_neg h1,if_neg h]
    unfold mk es subL
    rw [decide_eq_false h1,Bool.false_or]
    simp only [List.flatMap_cons,List.flatMap_nil,List.append_nil]
theorem sub_renE {p:Nat×Nat} (h:p.1≠45∧p.2≠45):subL (renE p)=(fl (itG p)).flatMap mk:=by
  unfold renE itG fl
  by_cases e:p.1=p.2
  · rw [if_pos e,if_pos e,sub_esc h.1]
    simp
  · rw [if_neg e,if_neg e,show esc p.1++45::esc p.2=esc p.1++([45]++esc p.2) by rfl,subL_append,subL_append,sub_esc h.1,sub_esc h.2]
    simp only [List.flatMap_cons,List.flatMap_nil,List.append_nil]
    rfl
theorem sub_items:∀{items:List (Nat×Nat)},(∀p∈items,p.1≠45∧p.2≠45)→subL (items.flatMap renE)=((items.map itG).flatMap fl).flatMap mk
  | [],_=>rfl
  | p::r,h=>by
    rw [List.flatMap_cons,subL_append,sub_renE (h p (List.mem_cons_self ..)),sub_items fun q hq=>h q (List.mem_cons_of_mem _ hq),List.map_cons,List.flatMap_cons,List.flatMap_append]
theorem sub_gs0 {fr bk:List Nat} {items:List (Nat×Nat)} {L:List Nat} (h:Cov fr bk items L):subL (escR fr++items.flatMap renE++escR bk)=((gs0 fr bk items).flatMap fl).flatMap mk:=by
  unfold gs0
  rw [subL_append,subL_append,sub_items fun p hp=>⟨(h.good p hp).2.1,(h.good p hp).2.2.2.1⟩,List.flatMap_append,List.flatMap_append,List.flatMap_append,List.flatMap_append]
  congr 1
  · congr 1
    rcases h.frOK with e | e<;>rw [e]<;>rfl
  · rcases h.bkOK with e | e<;>rw [e]<;>rfl
theorem gs0_mem {fr bk:List Nat} {items:List (Nat×Nat)} {L:List Nat} (h:Cov fr bk items L) (hL:∀c∈L,34≤c∧c < 1000):∀m∈(gs0 fr bk items).flatMap fl,m.1 < 1000∧(m.2=false→m.1≠92):=by
  have hin:∀p∈items,p.1∈L∧p.2∈L:=fun p hp=>by
    have:=(h.good p hp).1
    exact ⟨(h.iff _).mpr (.inr (.inr ⟨p,hp,Nat.le_refl _,this⟩)),(h.iff _).mpr (.inr (.inr ⟨p,hp,this,Nat.le_refl _⟩))⟩
  have hes:∀c,es c=false→c≠92:=fun c e=>by unfold es at e;simp at e;exact e.1
  intro m hm
  obtain ⟨g,hg,hm⟩:=List.mem_flatMap.mp hm
  unfold gs0 at hg
  rcases List.mem_append.mp hg with hg | hg
  · rcases List.mem_append.mp hg with hg | hg
    · obtain ⟨c,hc,rfl⟩:=List.mem_map.mp hg
      obtain rfl:=List.mem_singleton.mp hm
      rcases h.frOK with e | e<;>rw [e] at hc<;>simp at hc
      subst hc
      decide
    · obtain ⟨p,hp,rfl⟩:=List.mem_map.mp hg
      have i:=hin p hp
      have l1:=hL _ i.1
      have l2:=hL _ i.2
      unfold itG fl at hm
      by_cases e:p.1=p.2
      · rw [if_pos e] at hm
        obtain rfl:=List.mem_singleton.mp hm
        exact ⟨l1.2,hes _⟩
      · rw [if_neg e] at hm
        simp only [List.mem_cons,List.not_mem_nil,or_false] at hm
        rcases hm with rfl | rfl | rfl
        · exact ⟨l1.2,hes _⟩
        · decide
        · exact ⟨l2.2,hes _⟩
  · obtain ⟨c,hc,rfl⟩:=List.mem_map.mp hg
    obtain rfl:=List.mem_singleton.mp hm
    rcases h.bkOK with e | e<;>rw [e] at hc<;>simp at hc
    subst hc
    decide
theorem gs0_no93 {bk:List Nat} {items:List (Nat×Nat)} {fr L:List Nat} (h:Cov fr bk items L):∀m∈(items.map itG++bk.map fun c=>((c,true),none)).flatMap fl,m.2=false→m.1≠93:=by
  intro m hm hf
  obtain ⟨g,hg,hm⟩:=List.mem_flatMap.mp hm
  rcases List.mem_append.mp hg with hg | hg
  · obtain ⟨p,hp,rfl⟩:=List.mem_map.mp hg
    have i:=h.good p hp
    unfold itG fl at hm
    by_cases e:p.1=p.2
    · rw [if_pos e] at hm
      obtain rfl:=List.mem_singleton.mp hm
      exact i.2.2.1
    · rw [if_neg e] at hm
      simp only [List.mem_cons,List.not_mem_nil,or_false] at hm
      rcases hm with rfl | rfl | rfl
      · exact i.2.2.1
      · decide
      · exact i.2.2.2.2
  · obtain ⟨c,hc,rfl⟩:=List.mem_map.mp hg
    obtain rfl:=List.mem_singleton.mp hm
    cases hf
theorem gs0_ok {fr bk:List Nat} {items:List (Nat×Nat)} {L:List Nat} (h:Cov fr bk items L) (hL:∀c∈L,34≤c∧c < 1000) (hne:L≠[]) (hlen:L.length≤16):GsOK (gs0 fr bk items):=by
  refine ⟨?_,gs0_mem h hL,?_,?_,?_⟩
  · intro e
    unfold gs0 at e
    obtain ⟨e1,e2⟩:=List.append_eq_nil_iff.mp e
    obtain ⟨e3,e4⟩:=List.append_eq_nil_iff.mp e1
    have f1:=List.map_eq_nil_iff.mp e2
    have f2:=List.map_eq_nil_iff.mp e3
    have f3:=List.map_eq_nil_iff.mp e4
    cases hL2:L with
    | nil=>exact hne hL2
    | cons c l=>
      have:=(h.iff c).mp (by rw [hL2];exact List.mem_cons_self ..)
      rw [f1,f2,f3] at this
      simp at this
  · have h93:=gs0_no93 h
    unfold gs0
    rcases h.frOK with e | e
    · rw [e,List.map_nil,List.nil_append]
      exact fun m hm=>h93 m (List.mem_of_mem_tail hm)
    · rw [e,List.append_assoc]
      exact h93
  · intro g hg
    unfold gs0 at hg
    rcases List.mem_append.mp hg with hg | hg
    · rcases List.mem_append.mp hg with hg | hg
      · obtain ⟨c,hc,rfl⟩:=List.mem_map.mp hg
        rcases h.frOK with e | e<;>rw [e] at hc<;>simp at hc
        subst hc
        decide
      · obtain ⟨p,hp,rfl⟩:=List.mem_map.mp hg
        exact fun e=>(h.good p hp).2.1 (congrArg Prod.fst e)
    · obtain ⟨c,hc,rfl⟩:=List.mem_map.mp hg
      exact fun e=>absurd (congrArg Prod.snd e) (by simp)
  · have h1:=h.len
    unfold gs0
    simp only [List.length_append,List.length_map]
    rcases h.frOK with e | e<;>rcases h.bkOK with e' | e'<;>rw [e,e']<;>simp<;>lia
theorem gs0_iff {fr bk:List Nat} {items:List (Nat×Nat)} {L:List Nat} (h:Cov fr bk items L) (c:Nat):c∈L↔∃g∈gs0 fr bk items,(ends g).1≤c∧c≤(ends g).2:=by
  have hit:∀p:Nat×Nat,ends (itG p)=p:=fun p=>by
    unfold ends itG
    by_cases e:p.1=p.2
    · rw [if_pos e];exact Prod.ext rfl e
    · rw [if_neg e]
  rw [h.iff c]
  unfold gs0
  constructor
  · rintro (q | q | ⟨p,q,r⟩)
    · exact ⟨((c,false),none),List.mem_append_left _ (List.mem_append_left _ (List.mem_map.mpr ⟨c,q,rfl⟩)),Nat.le_refl _,Nat.le_refl _⟩
    · exact ⟨((c,true),none),List.mem_append_right _ (List.mem_map.mpr ⟨c,q,rfl⟩),Nat.le_refl _,Nat.le_refl _⟩
    · exact ⟨itG p,List.mem_append_left _ (List.mem_append_right _ (List.mem_map.mpr ⟨p,q,rfl⟩)),by rw [hit];exact r⟩
  · rintro ⟨g,hg,h1,h2⟩
    rcases List.mem_append.mp hg with hg | hg
    · rcases List.mem_append.mp hg with hg | hg
      · obtain ⟨x,hx,rfl⟩:=List.mem_map.mp hg
        have:x=c:=Nat.le_antisymm h1 h2
        exact .inl (this ▸ hx)
      · obtain ⟨p,hp,rfl⟩:=List.mem_map.mp hg
        rw [hit] at h1 h2
        exact .inr (.inr ⟨p,hp,h1,h2⟩)
    · obtain ⟨x,hx,rfl⟩:=List.mem_map.mp hg
      have:x=c:=Nat.le_antisymm h1 h2
      exact .inr (.inl (this ▸ hx))
structure PForm (bar:Bool) (L q:List Nat) (gs:List Grp):Prop where
  ok:GsOK gs
  txt:q=(if bar=true then [91,94] else [91])++(gs.flatMap fl).flatMap mk++[93]
  head:bar=false→((gs.flatMap fl).flatMap mk).head? ≠some 94
  iff:∀c,c∈L↔∃g∈gs,(ends g).1≤c∧c≤(ends g).2
theorem part_form {bar:Bool} {L q:List Nat} (hq:PartOK bar L q) (hL:∀c∈L,34≤c∧c < 1000) (hlen:L.length≤16) (hne:L≠[]):∃gs,PForm bar L q gs:=by
  unfold PartOK at hq
  rw [if_neg hne] at hq
  obtain ⟨fr,bk,items,hc,rfl⟩:=hq
  rw [sub_gs0 hc]
  have ok:=gs0_ok hc hL hne hlen
  have hi:=gs0_iff hc
  obtain ⟨gs,hgs⟩:∃gs,gs0 fr bk items=gs:=⟨_,rfl⟩
  rw [hgs] at ok hi ⊢
  unfold outOf
  rw [if_pos rfl]
  cases bar with
  | true=>exact ⟨gs,ok,by simp,fun h=>(by cases h),hi⟩
  | false=>
    rw [if_neg Bool.false_ne_true]
    by_cases hh:((gs.flatMap fl).flatMap mk).head? =some 94∨((gs.flatMap fl).flatMap mk).head? =some 91
    · rw [if_pos hh]
      cases gs with
      | nil=>exact absurd rfl ok.ne
      | cons g r=>
        obtain ⟨⟨c,e⟩,g2⟩:=g
        have hfl:∃t,fl ((c,e),g2)=(c,e)::t∧fl ((c,true),g2)=(c,true)::t:=by cases g2<;>exact ⟨_,rfl,rfl⟩
        obtain ⟨t,ht1,ht2⟩:=hfl
        have e1:((((c,e),g2)::r).flatMap fl)=(c,e)::(t++r.flatMap fl):=by rw [List.flatMap_cons,ht1];rfl
        have e2:((((c,true),g2)::r).flatMap fl)=(c,true)::(t++r.flatMap fl):=by rw [List.flatMap_cons,ht2];rfl
        have he:e=false:=by
          cases e with
          | false=>rfl
          | true=>rw [e1,List.flatMap_cons] at hh;simp [mk] at hh
        subst he
        refine ⟨((c,true),g2)::r,⟨by simp,?_,?_,?_,ok.len⟩,?_,?_,?_⟩
        · have hlo:=ok.lo
          rw [e1] at hlo
          rw [e2]
          intro m hm
          rcases List.mem_cons.mp hm with rfl | hm
          · exact ⟨(hlo (c,false) (List.mem_cons_self ..)).1,fun h=>(by cases h)⟩
          · exact hlo m (List.mem_cons_of_mem _ hm)
        · have htl:=ok.tl
          rw [e1] at htl
          rw [e2]
          exact htl
        · intro g hg
          rcases List.mem_cons.mp hg with rfl | hg
          · exact fun h=>absurd (congrArg Prod.snd h) (by simp)
          · exact ok.st g (List.mem_cons_of_mem _ hg)
        · rw [e1,e2]
          simp [mk]
        · intro _
          rw [e2]
          simp [mk]
        · intro x
          rw [hi x]
          have hends:ends ((c,true),g2)=ends ((c,false),g2):=rfl
          simp only [List.mem_cons,exists_eq_or_imp,hends]
    · rw [if_neg hh]
      exact ⟨gs,ok,by simp,fun _ h=>hh (.inl h),hi⟩
end Mine
end
section
open PySem PySem.W PyProof.Rows PySem.SeqAt PySem.Builtin.Str
set_option tactic.hygienic false
namespace Mine
theorem compF_runM {α:Type} {i:Nat} {t:EvB} {e:EvE} {st:St} (g:α→PV) (P:α→Bool) (f:α→PV):∀(l:List α),(∀x∈l,t (st.set i (.froz (g x)))=some (P x,st.set i (.froz (g x)))∧(P x=true→e (st.set i (.froz (g x)))=some (f x,st.set i (.froz (g x)))))→
    ∀st0:St,(∀p,st0.set i (.froz p)=st.set i (.froz p))→∃st',compF i t e (l.map g) st0=some ((l.filter P).map f,st')
  | [],_,st0,_=>⟨st0,rfl⟩
  | x::xs,h,st0,h0=>by
    obtain ⟨h1,h2⟩:=h x (List.mem_cons_self ..)
    obtain ⟨st',e'⟩:=compF_runM g P f xs (fun q hq=>h q (List.mem_cons_of_mem _ hq)) (st.set i (.froz (g x))) (fun q=>by rw [List.set_set])
    rw [List.map_cons]
    unfold compF
    rw [h0,h1]
    cases hp:P x with
    | false=>
      refine ⟨st',?_⟩
      dsimp only
      rw [e',List.filter_cons_of_neg (by rw [hp];exact Bool.false_ne_true)]
    | true=>
      refine ⟨st',?_⟩
      dsimp only
      rw [h2 hp]
      dsimp only
      rw [e',List.filter_cons_of_pos hp]
      rfl
theorem compV_runM {α:Type} {n i:Nat} {t:EvB} {e:EvE} {l:List α} {ps:List PV} (g:α→PV) (P:α→Bool) (f:α→PV) (hl:l.length≤16777216)
    (h:∀x∈l,t ((List.replicate n Bind.none++ps.map Bind.froz).set i (.froz (g x)))=some (P x,(List.replicate n Bind.none++ps.map Bind.froz).set i (.froz (g x)))∧
      (P x=true→e ((List.replicate n Bind.none++ps.map Bind.froz).set i (.froz (g x)))=some (f x,(List.replicate n Bind.none++ps.map Bind.froz).set i (.froz (g x))))):
    compV n i t e (l.map g) ps=some (.list ((l.filter P).map f)):=by
  obtain ⟨st',h1⟩:=compF_runM g P f l h _ fun _=>rfl
  unfold compV
  rw [if_pos (by rw [List.length_map];exact hl),h1]
theorem r_comp {is:List Nat} {f:EvE} {v:List PV→List PV→Option PV} {st st1 st2:St} {ps xs:List PV} {a r:PV} (h:capF is st=some (ps,st1)) (h1:f st1=some (a,st2)) (h2:itemsOf a=some xs) (h3:v xs ps=some r):compE is f v st=some (r,st2):=by
  simp only [compE,bindE,h,h1,h2,h3,liftE]
theorem le_C (a b:Nat):cmpOp .LtE (C a) (C b)=some (decide (a≤b)):=by
  show some (!(decide ((S [b]).cps.toList < (S [a]).cps.toList)))=_
  rw [len_S,len_S]
  refine congrArg some ?_
  by_cases h:a≤b
  · rw [decide_eq_true h]
    simp [List.cons_lt_cons_iff]
    lia
  · rw [decide_eq_false h]
    simp [List.cons_lt_cons_iff]
    lia
theorem pairs_ne {l:List (Nat×Nat)} (h:∀p∈l,p.1 < 1000∧p.2 < 1000):cmpOp .NotEq (.list (l.map pvE)) (.list [])=some (!l.isEmpty):=by
  have:=pyEq_nil (xs:=l.map pvE) (toPys_map pvE (fun p=>PyData.tuple [.str (S [p.1]),.str (S [p.2])]) l fun x _=>rfl) (canAll_map _ l fun x hx=>by have:=h x hx;simp [PyData.canLay0,PyData.canLayAll0,PyData.strOk];lia) (Nat.le_trans (depthAll_map _ 60 l fun x _=>by simp [PyData.depth,PyData.depthAll]) (Nat.le_refl _))
  show (pyEq (.list (l.map pvE)) (.list [])).map (!·)=_
  rw [this]
  simp
theorem ne_BB (a b:Bool):cmpOp .NotEq (.bool a) (.bool b)=some (a != b):=by
  show (pyEq (.bool a) (.bool b)).map (!·)=_
  rw [pyEq_bool]
  cases a<;>cases b<;>rfl
noncomputable def setOf (bar:Bool) (L ss:List Nat):List Nat:=(List.range 4).filter fun j=>decide (ss.getD j 0∈L) != bar
noncomputable def PK (bar:Bool) (L q:List Nat):Prop:=(L=[]∧q=(if bar=true then [46] else [40,63,33,41]))∨(L≠[]∧∃gs,PForm bar L q gs)
theorem PK_of {bar:Bool} {L q:List Nat} (hq:PartOK bar L q) (hL:∀c∈L,34≤c∧c < 1000) (hlen:L.length≤16):PK bar L q:=by
  by_cases h:L=[]
  · left
    unfold PartOK at hq
    rw [if_pos h] at hq
    exact ⟨h,hq⟩
  · exact .inr ⟨h,part_form hq hL hlen h⟩
theorem PK_len {bar:Bool} {L q:List Nat} (h:PK bar L q):q.length≤130∧1≤q.length:=by
  rcases h with ⟨_,rfl⟩ | ⟨_,gs,hg⟩
  · split<;>simp
  · rw [hg.txt]
    have h1:=fl_len gs
    have h2:=mk_len (gs.flatMap fl)
    have h3:=hg.ok.len
    split<;>simp only [List.length_append,List.length_cons,List.length_nil]<;>lia
theorem r_orVT {f g:EvE} {st st1:St} (h:f st=some (.bool true,st1)):orV f g st=some (.bool true,st1):=by simp [orV,bindE,h,liftE,truthOf,pureE]
theorem r_orVF {f g:EvE} {st st1:St} {r} (h:f st=some (.bool false,st1)) (h2:g st1=r):orV f g st=r:=by simp [orV,bindE,h,liftE,truthOf,h2]
theorem r_bool {f:EvB} {st st1:St} {b:Bool} (h:f st=some (b,st1)):bindE f (fun b=>pureE (PV.bool b)) st=some (PV.bool b,st1):=by simp only [bindE,h,pureE]
theorem r_cmp2 {op op':CmpOp} {f g h:EvE} {st st1 st2 st3:St} {a b c:PV} {x y:Bool} (h1:f st=some (a,st1)) (h2:g st1=some (b,st2)) (h3:cmpOp op a b=some x) (h4:h st2=some (c,st3)) (h5:cmpOp op' b c=some y) (hs:st3=st2):
    bindE f (fun a=>bindE g fun b=>bindE (liftE (cmpOp op a b)) fun c=>if c then bindE h fun b'=>liftE (cmpOp op' b b') else pureE false) st=some (x&&y,st3):=by
  simp only [bindE,h1,h2,h3,liftE]
  cases x with
  | true=>
    rw [if_pos rfl,Bool.true_and]
    show bindE h (fun b'=>liftE (cmpOp op' b b')) st2=_
    simp only [bindE,h4,h5,liftE]
  | false=>simp [pureE,hs]
end Mine
end
section
open PySem PySem.W PyProof.Rows PySem.SeqAt PySem.Builtin.Str
set_option tactic.hygienic false
namespace Mine
noncomputable def pvS (l:List Nat):PV:=.list (l.map fun (j:Nat)=>.int j)
noncomputable def SetSpec (mSet:List PV→Option PV):Prop:=∀{text post:List Nat} {k:Nat} {gs:List Grp},GsOK gs→text.drop k=(gs.flatMap fl).flatMap mk++93::post→text.length≤900→
  mSet [.str (S text),.int (k:Int)]=some (.tuple [.list (gs.map fun g=>pvE (ends g)),.int ((k+((gs.flatMap fl).flatMap mk).length+1:Nat):Int)])
noncomputable def kE0:EvE:=kF mkL (pureE [])
noncomputable def zSl (n:Nat):EvE:=kSl (kN 0) (kAs (kN 3)) (kAs (kBin .Add (kN 3) (kI n)))
noncomputable def zBar:EvE:=orV (kCV .Eq (kIt (kN 0) (kN 3)) (kS [46])) (kCV .Eq (zSl 2) (kS [91,94]))
noncomputable def zHd:EvS:=tupF [4,5] (kV zBar (kV kE0 (pureE [])))
noncomputable def zCall (m:List PV→Option PV):EvS:=bindE (kF m (kA2 (kN 0) (kIf (nameT 4) (kBin .Add (kN 3) (kI 2)) (kBin .Add (kN 3) (kI 1))))) fun p=>unpF [5,3] p
noncomputable def zInc (n:Nat):EvS:=seqF (augF 3 .Add (kI n)) dNil
noncomputable def zIf (m:List PV→Option PV):EvS:=kIf (tIt .Eq 3 91) (seqF (zCall m) dNil) (seqF (kIf (tIt .Eq 3 46) (zInc 1) (seqF (kIf (kCmp .Eq (zSl 4) (kS [40,63,33,41])) (zInc 4) (fun _=>none)) dNil)) dNil)
noncomputable def kC2 (f g h:EvE):EvB:=bindE f fun a=>bindE g fun b=>bindE (liftE (cmpOp .LtE a b)) fun c=>if c then bindE h fun b'=>liftE (cmpOp .LtE b b') else pureE false
noncomputable def zIn:EvE:=compE [0,3] (kN 2) (compV 1 0 (kC2 (kIt (kN 0) (kI 0)) (kIt (kN 2) (kN 1)) (kIt (kN 0) (kI 1))) (kN 0))
noncomputable def zSet:EvE:=compE [4,5,1] (kF pyRange (kA1 (kI 4))) (compV 1 0 (kCmp .NotEq (kCV .NotEq zIn kE0) (kN 1)) (kN 0))
noncomputable def zTurn (m:List PV→Option PV):EvS:=seqF zHd (seqF (zIf m) (seqF (appF 2 zSet) dNil))
noncomputable def zTest:EvB:=kCmp .Lt (kN 3) (kBin .Sub (kLen 0) (kI 3))
noncomputable def zRet:EvE:=kIf (kCmp .Eq (kBin .Add (kSl (kN 0) kNo (kAs (kI 4))) (kSl (kN 0) (kAs (ofP fun _=>some (.int (-3)))) kNo)) (kS [40,63,115,58,41,92,90])) (kN 2) (fun _=>none)
noncomputable def zAll (m:List PV→Option PV):EvS:=seqF (tupF [3,2] (bindE (kEl (kV (kI 4) (pureE []))) fun es=>pureE es.reverse)) (seqF (whileF zTest (zTurn m) 1000) (seqF (bindE zRet fun p=>pureE (.ret p)) dNil))
theorem zs_code {X:Cx} {d:Nat} {cd:Value} {ql:PySem.Str} (G:Glo X) {fSet:Addr} {mSet:List PV→Option PV} (hSet:CallW X d fSet mSet) (gSet:X.mg "_law_set"=some (.ref fSet)) (oSet:∃o fd,X.B.get? fSet=some o∧o.data=.func fd):
    (WSets.setsS (X:=X) (d:=d) (cd:=cd) (ql:=ql) G hSet gSet oSet).1=zAll mSet:=by
  unfold WSets.setsS
  rfl
noncomputable def ZS (text ss:List Nat) (ds:List (List Nat)) (k:Nat) (b4 b5:Bind):St:=[fS text,.froz (.list (ss.map C)),.own (ds.map pvS),fN k,b4,b5]
noncomputable def bR (rs:List (Nat×Nat)):Bind:=.froz (.list (rs.map pvE))
section
variable {text ss L:List Nat} {ds:List (List Nat)} {k:Nat} {b4 b5:Bind} {bar:Bool} {rs:List (Nat×Nat)}
theorem any_mem (h:∀c,c∈L↔∃p∈rs,p.1≤c∧c≤p.2) (c:Nat):(!(rs.filter fun p=>decide (p.1≤c)&&decide (c≤p.2)).isEmpty)=decide (c∈L):=by
  rw [Bool.eq_iff_iff,decide_eq_true_eq,h c,Bool.not_eq_true',List.isEmpty_eq_false_iff_exists_mem]
  constructor
  · rintro ⟨p,hp⟩
    have:=List.mem_filter.mp hp
    exact ⟨p,this.1,by simpa using this.2⟩
  · rintro ⟨p,h1,h2⟩
    exact ⟨p,List.mem_filter.mpr ⟨h1,by simpa using h2⟩⟩
theorem q_E0 {st:St}:Ev kE0 st (.list []):=rfl
theorem q_C2 {f g h:EvE} {st:St} {a b c:Nat} (h1:Ev f st (C a)) (h2:Ev g st (C b)) (h3:Ev h st (C c)):Ev (kC2 f g h) st (decide (a≤b)&&decide (b≤c)):=r_cmp2 h1 h2 (le_C a b) h3 (le_C b c) rfl
theorem z_in (hr:rs.length≤20) {j c:Nat} (hc:ss[j]? =some c) (hs:ss.length=4):Ev zIn [.froz (.int (j:Int)),.froz (.bool bar),bR rs,.froz (.list (ss.map C))] (.list ((rs.filter fun p=>decide (p.1≤c)&&decide (c≤p.2)).map pvE)):=
  r_comp (ps:=[.int j,.list (ss.map C)]) rfl (r_name rfl) rfl (compV_runM pvE (fun p=>decide (p.1≤c)&&decide (c≤p.2)) pvE (Nat.le_trans hr (by decide)) fun p _=>⟨q_C2 (q_It (q_N rfl) q_I rfl) (q_It (q_N rfl) (q_N rfl) (item_L (ss.map C) j (C c) (by rw [List.getElem?_map,hc];rfl) (by rw [List.length_map,hs];decide))) (q_It (q_N rfl) q_I rfl),fun _=>rfl⟩)
theorem z_set (hr:rs.length≤20) (hlo:∀p∈rs,p.1 < 1000∧p.2 < 1000) (h:∀c,c∈L↔∃p∈rs,p.1≤c∧c≤p.2) (hs:ss.length=4):Ev zSet (ZS text ss ds k (.froz (.bool bar)) (bR rs)) (pvS (setOf bar L ss)):=by
  refine r_comp (ps:=[.bool bar,.list (rs.map pvE),.list (ss.map C)]) (a:=.range 0 ((4:Nat):Int) 1) rfl rfl (items_range 4 (by decide)) (compV_runM (l:=List.range 4) (fun (j:Nat)=>PV.int j) (fun j=>decide (ss.getD j 0∈L) != bar) (fun (j:Nat)=>PV.int j) (by decide) fun j hj=>⟨?_,fun _=>rfl⟩)
  have hg:ss[j]? =some (ss.getD j 0):=by rw [List.getD_eq_getElem?_getD,List.getElem?_eq_getElem (hs ▸ List.mem_range.mp hj)];rfl
  exact q_Cmp (q_CV (z_in (bar:=bar) hr hg hs) q_E0 (any_mem h _ ▸ pairs_ne fun p hp=>hlo p (List.mem_filter.mp hp).1)) (q_N rfl) (ne_BB _ _)
theorem mapS_snoc (l:List Nat):Bind.own (ds.map pvS++[pvS l])=.own ((ds++[l]).map pvS):=by rw [List.map_append];rfl
theorem z_app (hd:ds.length≤900) (hr:rs.length≤20) (hlo:∀p∈rs,p.1 < 1000∧p.2 < 1000) (h:∀c,c∈L↔∃p∈rs,p.1≤c∧c≤p.2) (hs:ss.length=4):Do (appF 2 zSet) (ZS text ss ds k (.froz (.bool bar)) (bR rs)) (ZS text ss (ds++[setOf bar L ss]) k (.froz (.bool bar)) (bR rs)):=
  D_app (z_set hr hlo h hs) rfl (by rw [List.length_map];exact Nat.le_trans hd (by decide)) (congrArg (List.set (ZS text ss ds k (.froz (.bool bar)) (bR rs)) 2) (mapS_snoc _))
theorem z_sl {n:Nat} {u v:List Nat} (hl:text.length≤900) (h:text.drop k=u++v) (hk:k < text.length) (hn:n=u.length):Ev (zSl n) (ZS text ss ds k b4 b5) (.str (S u)):=by
  subst hn
  exact q_Sl (q_N rfl) (q_As (q_N rfl) rfl) (q_As (q_Bin (q_N rfl) q_I (fN_add k _)) rfl) (slice_S' (Nat.le_trans hl (by decide)) h (Nat.le_of_lt hk))
theorem z_it {op:CmpOp} {x c:Nat} {r:Bool} {v:List Nat} (hl:text.length≤900) (h:text.drop k=x::v) (hc:cmpOp op (C x) (.str (S [c]))=some r):Ev (tIt op 3 c) (ZS text ss ds k b4 b5) r:=t_it' (get_drop h) (Nat.le_trans hl (by decide)) rfl rfl hc
theorem z_hd (h:Ev zBar (ZS text ss ds k b4 b5) (.bool bar)):Do zHd (ZS text ss ds k b4 b5) (ZS text ss ds k (.froz (.bool bar)) (bR [])):=by
  have e:(kV zBar (kV kE0 (pureE []))) (ZS text ss ds k b4 b5)=some ([El.froz (.bool bar),El.froz (.list [])],_):=q_V h (q_V (g:=pureE []) (es:=[]) q_E0 rfl)
  unfold Do zHd tupF
  rw [run_bind e rfl]
  rfl
theorem z_bar {x y:Nat} {v:List Nat} (hl:text.length≤900) (h:text.drop k=x::y::v) (hx:x≠46):Ev zBar (ZS text ss ds k b4 b5) (.bool ([x,y]==[91,94])):=
  r_orVF (q_CV (q_It (q_N rfl) (q_N rfl) (item_S text k x (get_drop h) (Nat.le_trans hl (by decide)))) q_S ((eq_one x 46).trans (congrArg some (decide_eq_false hx)))) (q_CV (z_sl (u:=[x,y]) hl h (drop_le h) rfl) q_S (eq_S _ _))
theorem z_inc {n:Nat}:Do (zInc n) (ZS text ss ds k b4 b5) (ZS text ss ds (k+n) b4 b5):=D_one (D_aug rfl q_I rfl rfl)
theorem z_len {u X:List Nat} (k:Nat):k+(u++X++[93]).length=k+u.length+X.length+1:=by rw [List.length_append,List.length_append,←Nat.add_assoc,←Nat.add_assoc];rfl
theorem z_case {q v:List Nat} {m:List PV→Option PV} (hm:SetSpec m) (hl:text.length≤900) (h:text.drop k=q++v) (hp:PK bar L q):∃rs:List (Nat×Nat),rs.length≤20∧(∀p∈rs,p.1 < 1000∧p.2 < 1000)∧(∀c,c∈L↔∃p∈rs,p.1≤c∧c≤p.2)∧
    Ev zBar (ZS text ss ds k b4 b5) (.bool bar)∧Do (zIf m) (ZS text ss ds k (.froz (.bool bar)) (bR [])) (ZS text ss ds (k+q.length) (.froz (.bool bar)) (bR rs)):=by
  rcases hp with ⟨rfl,hq⟩ | ⟨_,gs,hg⟩
  · refine ⟨[],Nat.zero_le _,(fun _ h=>nomatch h),(fun c=>⟨fun h=>(nomatch h),fun ⟨_,h,_⟩=>(nomatch h)⟩),?_⟩
    cases bar with
    | true=>
      obtain rfl:q=[46]:=hq
      exact ⟨r_orVT (q_CV (q_It (q_N rfl) (q_N rfl) (item_S text k 46 (get_drop h) (Nat.le_trans hl (by decide)))) q_S (eq_one 46 46)),D_IfF (z_it hl h (eq_one 46 91)) (D_one (D_IfT (z_it hl h (eq_one 46 46)) z_inc))⟩
    | false=>
      obtain rfl:q=[40,63,33,41]:=hq
      exact ⟨z_bar hl h (by decide),D_IfF (z_it hl h (eq_one 40 91)) (D_one (D_IfF (z_it hl h (eq_one 40 46)) (D_one (D_IfT (q_Cmp (z_sl (u:=[40,63,33,41]) hl h (drop_le h) rfl) q_S (eq_S _ _)) z_inc))))⟩
  · have hlo:=hg.ok.lo
    have h1:=hg.txt
    have hsp:=@hm text v
    have hne:∃c t,(gs.flatMap fl).flatMap mk=c::t:=List.exists_cons_of_ne_nil fun e=>by
      have h1:=(fl_len gs).1
      have h2:=(mk_len (gs.flatMap fl)).1
      rw [e] at h2
      exact hg.ok.ne (List.length_eq_zero_iff.mp (Nat.le_zero.mp (Nat.le_trans h1 h2)))
    obtain ⟨c,t,hc⟩:=hne
    have hhd:=hg.head
    refine ⟨gs.map ends,by rw [List.length_map];exact hg.ok.len,fun p hp=>?_,fun c=>(hg.iff c).trans ⟨fun ⟨g,h1,h2⟩=>⟨_,List.mem_map.mpr ⟨g,h1,rfl⟩,h2⟩,fun ⟨p,h1,h2⟩=>?_⟩,?_⟩
    · obtain ⟨⟨g1,g2⟩,hgm,rfl⟩:=List.mem_map.mp hp
      have h1:=(hlo g1 (List.mem_flatMap.mpr ⟨_,hgm,by cases g2<;>exact List.mem_cons_self⟩)).1
      cases g2 with
      | none=>exact ⟨h1,h1⟩
      | some m=>exact ⟨h1,(hlo m (List.mem_flatMap.mpr ⟨_,hgm,List.mem_cons_of_mem _ (List.mem_cons_of_mem _ List.mem_cons_self)⟩)).1⟩
    · obtain ⟨g,h3,rfl⟩:=List.mem_map.mp h1
      exact ⟨g,h3,h2⟩
    · unfold bR
      rw [List.map_map]
      cases bar with
      | true=>
        have h2:text.drop (k+2)=(gs.flatMap fl).flatMap mk++93::v:=drop_app (u:=[91,94]) (by rw [h,h1];simp)
        have e:=hsp hg.ok h2 hl
        rw [show k+q.length=k+2+((gs.flatMap fl).flatMap mk).length+1 from (congrArg (fun q=>k+List.length q) h1).trans (z_len (u:=[91,94]) k)]
        rw [h1,List.append_assoc,List.append_assoc] at h
        exact ⟨z_bar hl h (by decide),D_IfT (z_it hl h (eq_one 91 91)) (D_one (run_bind (q_F (q_A2 (h:=kE0) (q_N rfl) (q_IfT (q_T rfl rfl) (q_Bin (q_N rfl) q_I (fN_add k 2)))) e) rfl))⟩
      | false=>
        have h2:text.drop (k+1)=(gs.flatMap fl).flatMap mk++93::v:=drop_app (u:=[91]) (by rw [h,h1];simp)
        have e:=hsp hg.ok h2 hl
        rw [show k+q.length=k+1+((gs.flatMap fl).flatMap mk).length+1 from (congrArg (fun q=>k+List.length q) h1).trans (z_len (u:=[91]) k)]
        rw [h1,List.append_assoc,List.append_assoc] at h
        have h3:text.drop k=91::c::(t++([93]++v)):=by rw [h,hc];rfl
        have hb:([91,c]==[91,94])=false:=beq_eq_false_iff_ne.mpr fun e=>hhd rfl (by rw [hc,(List.cons.inj (List.cons.inj e).2).1];rfl)
        exact ⟨hb ▸ z_bar hl h3 (by decide),D_IfT (z_it hl h (eq_one 91 91)) (D_one (run_bind (q_F (q_A2 (h:=kE0) (q_N rfl) (q_IfF (q_T rfl rfl) (q_Bin (q_N rfl) q_I (fN_add k 1)))) e) rfl))⟩
theorem z_n1 {t k:Nat} (h:t - k=3):¬ k < t - 3:=by lia
theorem z_n2 {t k q f:Nat} (h:t - k=q+f+3):k+q≤t:=by lia
theorem z_n3 {t k q f:Nat} (h:t - k=q+f+3) (hq:0 < q):k < t - 3:=by lia
theorem z_loop {m:List PV→Option PV} (hm:SetSpec m) (hl:text.length≤900) (hs:ss.length=4):∀(parts:List (Bool×List Nat×List Nat)) (ds:List (List Nat)) (k n:Nat) (b4 b5:Bind),(∀x∈parts,PK x.1 x.2.1 x.2.2)→text.drop k=(parts.map fun x=>x.2.2).flatten++[41,92,90]→k≤text.length→parts.length < n→ds.length+parts.length≤900→
    ∃k' b4' b5',Do (whileF zTest (zTurn m) n) (ZS text ss ds k b4 b5) (ZS text ss (ds++parts.map fun x=>setOf x.1 x.2.1 ss) k' b4' b5')
  | parts,ds,k,n+1,b4,b5,hp,h,hk,hn,hd=>by
    have e1:=congrArg List.length h
    rw [List.length_drop,List.length_append] at e1
    have hpl:pyLen [.str (S text)]=some (.int text.length):=(len_St _ (by rw [S_len];exact Nat.lt_of_le_of_lt hl (by decide))).trans (by rw [S_len])
    have hq:Ev (kBin .Sub (kLen 0) (kI 3)) (ZS text ss ds k b4 b5) (.int ((text.length - 3:Nat):Int)):=q_Bin (q_Len rfl hpl) q_I (congrArg (fun z=>some (PV.int z)) (Int.ofNat_sub (by have:3≤text.length - k:=e1 ▸ Nat.le_add_left 3 _;exact Nat.le_trans this (Nat.sub_le _ _))).symm)
    cases parts with
    | nil=>
      rw [List.map_nil,List.append_nil]
      exact ⟨k,b4,b5,D_wF (q_Cmp (q_N rfl) hq (lt_F _ _ (z_n1 e1)))⟩
    | cons x parts=>
      obtain ⟨bar,L,q⟩:=x
      have hx:PK bar L q:=hp (bar,L,q) List.mem_cons_self
      have hql:=(PK_len hx).2
      rw [List.map_cons,List.flatten_cons,List.append_assoc] at h
      rw [List.map_cons,List.flatten_cons,List.length_append] at e1
      have e2:text.length - k=q.length+(parts.map fun x=>x.2.2).flatten.length+3:=e1
      obtain ⟨rs,r1,r2,r3,r4,r5⟩:=z_case (ss:=ss) (ds:=ds) (b4:=b4) (b5:=b5) hm hl h hx
      obtain ⟨k',b4',b5',h2⟩:=z_loop hm hl hs parts (ds++[setOf bar L ss]) (k+q.length) n (.froz (.bool bar)) (bR rs) (fun y hy=>hp y (List.mem_cons_of_mem _ hy)) (drop_app h) (z_n2 e2) (Nat.lt_of_succ_lt_succ hn) (by rw [List.length_append,Nat.add_assoc,Nat.add_comm _ parts.length];exact hd)
      rw [List.append_assoc] at h2
      exact ⟨k',b4',b5',D_wT (q_Cmp (q_N rfl) hq (lt_T _ _ (z_n3 e2 hql))) (D_seq (z_hd r4) (D_seq r5 (D_one (z_app (Nat.le_trans (Nat.le_add_right _ _) hd) r1 r2 r3 hs)))) h2⟩
end
theorem flat_le:∀l:List (Bool×List Nat×List Nat),(∀x∈l,PK x.1 x.2.1 x.2.2)→(l.map fun x=>x.2.2).flatten.length≤l.length * 130
  | [],_=>Nat.le_refl 0
  | x::l,h=>by
    rw [List.map_cons,List.flatten_cons,List.length_append,List.length_cons,Nat.succ_mul,Nat.add_comm]
    exact Nat.add_le_add (flat_le l fun y hy=>h y (List.mem_cons_of_mem _ hy)) (PK_len (h x List.mem_cons_self)).1
theorem clip3 (n:Nat):clipN (some (-3)) 0 (n+3)=n:=by
  unfold clipN
  dsimp only
  rw [if_pos (by decide)]
  lia
theorem z_ret {text mid ss:List Nat} {ds:List (List Nat)} {k:Nat} {b4 b5:Bind} (ht:text=[40,63,115,58]++(mid++[41,92,90])) (hl:text.length≤900):∃st',zRet (ZS text ss ds k b4 b5)=some (.list (ds.map pvS),st'):=by
  have hl':=Nat.le_trans hl (by decide:900≤16777216)
  have h1:pySlice (.str (S text)) none (some 4) none=some (.str (S [40,63,115,58])):=by
    refine (slS text none (some ((4:Nat):Int)) hl').trans ?_
    rw [clipN_nat,Nat.min_eq_left (by rw [ht];exact Nat.le_add_left 4 _),ht]
    rfl
  have h2:pySlice (.str (S text)) (some (-3)) none none=some (.str (S [41,92,90])):=by
    refine (slS text (some (-3)) none hl').trans ?_
    have e:text.length=([40,63,115,58]++mid).length+3:=by rw [ht,←List.append_assoc,List.length_append];rfl
    have hc:clipN (some (-3)) 0 text.length=([40,63,115,58]++mid).length:=by
      rw [e]
      exact clip3 _
    rw [hc,ht,←List.append_assoc,List.drop_left]
    exact congrArg (fun z=>some (PV.str (S z))) (List.take_of_length_le (show 3≤(([40,63,115,58]++mid)++[41,92,90]).length - ([40,63,115,58]++mid).length from by rw [List.length_append,Nat.add_sub_cancel_left];exact Nat.le_refl 3))
  exact ⟨_,r_ifT (q_Cmp (q_Bin (q_Sl (q_N rfl) q_No (q_As q_I rfl) h1) (q_Sl (q_N rfl) (q_As (r_ofP rfl) rfl) q_No h2) (add_S _ _ (by decide))) q_S (eq_S _ _)) rfl⟩
theorem sets_run {X:Cx} {d:Nat} {cd:Value} {ql:PySem.Str} (G:Glo X) {fSet:Addr} {mSet:List PV→Option PV} (hSet:CallW X d fSet mSet) (gSet:X.mg "_law_set"=some (.ref fSet)) (oSet:∃o fd,X.B.get? fSet=some o∧o.data=.func fd)
    (hspec:SetSpec mSet) {parts:List (Bool×List Nat×List Nat)} (hp:∀x∈parts,PK x.1 x.2.1 x.2.2) (hn:parts.length≤4) {ss:List Nat} (hss:ss.length=4):
    runF (WSets.setsS (X:=X) (d:=d) (cd:=cd) (ql:=ql) G hSet gSet oSet).1 6 [.str (S ([40,63,115,58]++(parts.map fun x=>x.2.2).flatten++[41,92,90])),.list (ss.map C)]=some (.list (parts.map fun x=>pvS (setOf x.1 x.2.1 ss))):=by
  obtain ⟨text,ht⟩:∃text,[40,63,115,58]++(parts.map fun x=>x.2.2).flatten++[41,92,90]=text:=⟨_,rfl⟩
  rw [ht]
  rw [List.append_assoc] at ht
  have h1:=Nat.le_trans (flat_le parts hp) (Nat.mul_le_mul_right 130 hn)
  have hl:text.length≤900:=by
    rw [←ht,List.length_append,List.length_append]
    exact Nat.le_trans (Nat.add_le_add_left (Nat.add_le_add_right h1 3) 4) (by decide)
  obtain ⟨k',b4,b5,h2⟩:=z_loop (ss:=ss) hspec hl hss parts [] 4 1000 .none .none hp (by rw [←ht];rfl) (by rw [←ht];exact Nat.le_add_left 4 _) (Nat.lt_of_le_of_lt hn (by decide)) (Nat.le_trans (Nat.le_of_eq (Nat.zero_add _)) (Nat.le_trans hn (by decide)))
  obtain ⟨st',h3⟩:=z_ret (ss:=ss) (ds:=parts.map fun x=>setOf x.1 x.2.1 ss) (k:=k') (b4:=b4) (b5:=b5) ht.symm hl
  rw [List.nil_append] at h2
  rw [List.map_map] at h3
  rw [zs_code]
  exact runF_ret ((seq_next (st1:=ZS text ss [] 4 .none .none) rfl).trans ((seq_next h2).trans (seq_ret (run_bind h3 rfl))))
end Mine
end
section
open PySem PySem.W PyProof.Rows PySem.SeqAt PySem.Builtin.Str
set_option tactic.hygienic false
namespace Mine
theorem fd_nat (a:Int) (k:Nat) (h:0 < k):a.fdiv (k:Int)=a / (k:Int):=Int.fdiv_eq_ediv_of_nonneg _ (by lia)
theorem compZF_run {ix iy:Nat} {e:EvE} (f:Int→Int→Int):∀(xs ys:List Int) (st0:St) (I:St→Prop),I st0→(∀x y st,I st→e ((st.set ix (.froz (.int x))).set iy (.froz (.int y)))=some (.int (f x y),(st.set ix (.froz (.int x))).set iy (.froz (.int y)))∧I ((st.set ix (.froz (.int x))).set iy (.froz (.int y))))→
    ∃st',compZF ix iy e ((xs.map PV.int).zipWith prOf (ys.map PV.int)) st0=some ((xs.zipWith f ys).map .int,st')
  | [],ys,st0,I,_,_=>⟨st0,by simp [compZF,pureE]⟩
  | x::xs,[],st0,I,_,_=>⟨st0,by simp [compZF,pureE]⟩
  | x::xs,y::ys,st0,I,h0,h=>by
    obtain ⟨h1,h2⟩:=h x y st0 h0
    obtain ⟨st',e'⟩:=compZF_run f xs ys _ I h2 h
    refine ⟨st',?_⟩
    simp only [List.map_cons,List.zipWith_cons_cons,compZF,prOf]
    rw [h1]
    dsimp only
    rw [e']
theorem bin_mul5 (j:Int):binOp .Mult (.int 5) (.int j)=some (.int (5 * j)):=rfl
theorem catL_ok (xs ys:List PV) (h:xs.length+ys.length≤16777216):catL (.list xs) (.list ys)=some (.list (xs++ys)):=by
  simp only [catL]
  rw [if_pos h]
end Mine
end
section
open PySem PySem.W PyProof.Rows PySem.SeqAt PySem.Builtin.Str
set_option tactic.hygienic false
namespace Mine
noncomputable def sOct (b:Int):Int:=b - if b>127 then 256 else 0
noncomputable def numO:List Int→Int
  | [a]=>sOct a
  | [a,b]=>a+256 * sOct b
  | _=>0
noncomputable def bitN (octs:List Int) (p:Nat):Bool:=if p < 8 * octs.length then bitO octs p else barO octs
theorem bitS (x:Int) (p:Nat):((x.fdiv (2 ^ p)).fmod 2==1)=decide (x / ((2 ^ p:Nat):Int) % 2=1):=by
  have h:(2:Int) ^ p=((2 ^ p:Nat):Int):=by rw [Int.natCast_pow];rfl
  rw [h,fd_nat _ _ (Nat.pow_pos (by decide)),Int.fmod_eq_emod_of_nonneg _ (by decide)]
  by_cases e:x / ((2 ^ p:Nat):Int) % 2=1
  · rw [e];rfl
  · rw [decide_eq_false e];exact beq_eq_false_iff_ne.mpr e
noncomputable def octChk (n:Nat):Bool:=(List.range 20).all fun p=>(sOct (n:Int) / ((2 ^ p:Nat):Int) % 2==1)==(if p < 8 then (n:Int) / ((2 ^ p:Nat):Int) % 2==1 else decide ((n:Int)>127))
theorem oct_ok:(List.range 256).all octChk=true:=by decide+kernel
theorem oct_all (b:Int) (hb:0≤b∧b < 256) (p:Nat) (hp:p < 20):(sOct b / ((2 ^ p:Nat):Int) % 2==1)=(if p < 8 then b / ((2 ^ p:Nat):Int) % 2==1 else decide (b>127)):=by
  obtain ⟨n,rfl⟩:=Int.eq_ofNat_of_zero_le hb.1
  have h1:=List.all_eq_true.mp oct_ok n (List.mem_range.mpr (Int.ofNat_lt.mp hb.2))
  exact eq_of_beq (List.all_eq_true.mp h1 p (List.mem_range.mpr hp))
theorem oct_lo (b:Int) (hb:0≤b∧b < 256) (p:Nat) (hp:p < 8):(sOct b / ((2 ^ p:Nat):Int) % 2=1)↔(b / ((2 ^ p:Nat):Int) % 2=1):=by
  have h:=oct_all b hb p (Nat.lt_trans hp (by decide))
  rw [if_pos hp] at h
  rw [←beq_iff_eq,h,beq_iff_eq]
theorem oct_hi (b:Int) (hb:0≤b∧b < 256) (p:Nat) (hp:8≤p) (hp2:p < 20):(sOct b / ((2 ^ p:Nat):Int) % 2=1)↔b>127:=by
  have h:=oct_all b hb p hp2
  rw [if_neg (Nat.not_lt.mpr hp)] at h
  rw [←beq_iff_eq,h,decide_eq_true_eq]
theorem two_lo (a b:Int) (p:Nat) (hp:p < 8):((a+256 * b) / ((2 ^ p:Nat):Int) % 2=1)↔(a / ((2 ^ p:Nat):Int) % 2=1):=by
  have e:(256:Int)=((2 ^ p:Nat):Int) * (2 * ((2 ^ (7 - p):Nat):Int)):=by
    have h:2 ^ p * (2 * 2 ^ (7 - p))=256:=by
      rw [Nat.mul_left_comm,←Nat.pow_add,Nat.add_sub_cancel' (Nat.le_of_lt_succ hp)]
    exact (congrArg Nat.cast h).symm
  have hz:((2 ^ p:Nat):Int)≠0:=fun q=>absurd (Int.ofNat_eq_zero.mp q) (Nat.ne_of_gt (Nat.pow_pos (by decide)))
  rw [e,Int.mul_assoc,Int.add_mul_ediv_left _ _ hz,Int.mul_assoc,Int.add_mul_emod_self_left]
theorem two_hi (a b:Int) (ha:0≤a∧a < 256) (m:Nat):(a+256 * b) / ((2 ^ (8+m):Nat):Int)=b / ((2 ^ m:Nat):Int):=by
  have e:((2 ^ (8+m):Nat):Int)=256 * ((2 ^ m:Nat):Int):=congrArg Nat.cast (Nat.pow_add 2 8 m)
  rw [e,←Int.ediv_ediv_of_nonneg (by decide),Int.add_mul_ediv_left _ _ (by decide),Int.ediv_eq_zero_of_lt ha.1 ha.2,Int.zero_add]
theorem num_bit (octs:List Int) (hl:octs.length≤2) (ho:∀o∈octs,0≤o∧o < 256) (p:Nat) (hp:p < 20):((numO octs).fdiv (2 ^ p)).fmod 2=if bitN octs p=true then 1 else 0:=by
  have key:((((numO octs).fdiv (2 ^ p)).fmod 2==1)=bitN octs p):=by
    match octs,hl,ho with
    | [],_,_=>
      show (((0:Int).fdiv (2 ^ p)).fmod 2==1)=false
      rw [bitS]
      simp
    | [a],_,ho=>
      have ha:=ho a (List.mem_singleton.mpr rfl)
      unfold bitN
      rw [show numO [a]=sOct a from rfl,bitS]
      by_cases h:p < 8 * [a].length
      · have hp8:p < 8:=by simpa using h
        rw [if_pos h]
        unfold bitO
        rw [Nat.div_eq_of_lt hp8,Nat.mod_eq_of_lt hp8,bitS]
        exact decide_eq_decide.mpr (oct_lo a ha p hp8)
      · have hp8:8≤p:=by simpa using h
        rw [if_neg h]
        show _=decide (a>127)
        exact decide_eq_decide.mpr (oct_hi a ha p hp8 hp)
    | [a,b],_,ho=>
      have ha:=ho a (List.mem_cons_self ..)
      have hb:=ho b (List.mem_cons_of_mem _ (List.mem_singleton.mpr rfl))
      unfold bitN
      rw [show numO [a,b]=a+256 * sOct b from rfl,bitS]
      by_cases h8:p < 8
      · rw [if_pos (by simp;lia)]
        unfold bitO
        rw [Nat.div_eq_of_lt h8,Nat.mod_eq_of_lt h8,bitS]
        exact decide_eq_decide.mpr (two_lo a _ p h8)
      · obtain ⟨m,rfl⟩:∃m,p=8+m:=⟨p - 8,by lia⟩
        rw [two_hi a _ ha m]
        by_cases h:8+m < 8 * [a,b].length
        · have hm8:m < 8:=by simp at h;lia
          rw [if_pos h]
          unfold bitO
          rw [show (8+m) / 8=1 by lia,show (8+m) % 8=m by lia,bitS]
          exact decide_eq_decide.mpr (oct_lo b hb m hm8)
        · have hm8:8≤m:=by simp at h;lia
          rw [if_neg h]
          show _=decide (b>127)
          exact decide_eq_decide.mpr (oct_hi b hb m hm8 (by lia))
    | _::_::_::_,h,_=>exact absurd h (by simp)
  have hr:0≤((numO octs).fdiv (2 ^ p)).fmod 2∧((numO octs).fdiv (2 ^ p)).fmod 2 < 2:=⟨Int.fmod_nonneg_of_pos _ (by decide),Int.fmod_lt_of_pos _ (by decide)⟩
  cases hb:bitN octs p with
  | true=>
    rw [hb] at key
    rw [if_pos rfl]
    exact eq_of_beq key
  | false=>
    rw [hb] at key
    have:=beq_eq_false_iff_ne.mp key
    rw [if_neg Bool.false_ne_true]
    lia
theorem told_bit (octs:List Int) (base p:Nat):(decide (base+p∈toldO octs base (8 * octs.length)) != barO octs)=bitN octs p:=by
  have hm:base+p∈toldO octs base (8 * octs.length)↔p < 8 * octs.length∧(bitO octs p != barO octs)=true:=by
    unfold toldO
    rw [List.mem_map]
    constructor
    · rintro ⟨q,hq,e⟩
      have:q=p:=by lia
      subst this
      have:=List.mem_filter.mp hq
      exact ⟨List.mem_range.mp this.1,this.2⟩
    · rintro ⟨h1,h2⟩
      exact ⟨p,List.mem_filter.mpr ⟨List.mem_range.mpr h1,h2⟩,rfl⟩
  unfold bitN
  by_cases h:p < 8 * octs.length
  · rw [if_pos h]
    have:decide (base+p∈toldO octs base (8 * octs.length))=(bitO octs p != barO octs):=by
      rw [Bool.eq_iff_iff,decide_eq_true_eq,hm]
      exact ⟨fun q=>q.2,fun q=>⟨h,q⟩⟩
    rw [this]
    cases bitO octs p<;>cases barO octs<;>rfl
  · rw [if_neg h,decide_eq_false (fun q=>h (hm.mp q).1)]
    cases barO octs<;>rfl
theorem leB_num (octs:List Int) (hl:octs.length≤2) (ho:∀o∈octs,0≤o∧o < 256):leB (byteArr octs).toList=numO octs:=by
  have hb:∀a:Int,0≤a∧a < 256→(((UInt8.ofNat a.toNat).toNat:Nat):Int)=a:=by
    intro a ha
    rw [UInt8.toNat_ofNat']
    lia
  have hge:∀a:Int,0≤a∧a < 256→(decide (UInt8.ofNat a.toNat≥128)=true↔a>127):=by
    intro a ha
    rw [decide_eq_true_eq]
    have h1:=hb a ha
    have h2:(UInt8.ofNat a.toNat≥128)↔128≤(UInt8.ofNat a.toNat).toNat:=UInt8.le_iff_toNat_le
    rw [h2]
    lia
  match octs,hl,ho with
  | [],_,_=>rfl
  | [a],_,ho=>
    have ha:=ho a (List.mem_singleton.mpr rfl)
    show ((((0:Nat):Int)) * 256+((UInt8.ofNat a.toNat).toNat:Int)) - (if decide (UInt8.ofNat a.toNat≥128)=true then 256 ^ 1 else 0)=sOct a
    rw [hb a ha]
    unfold sOct
    have:=hge a ha
    by_cases h:a>127
    · rw [if_pos (this.mpr h),if_pos h];lia
    · rw [if_neg (fun q=>h (this.mp q)),if_neg h];lia
  | [a,b],_,ho=>
    have ha:=ho a (List.mem_cons_self ..)
    have hb':=ho b (List.mem_cons_of_mem _ (List.mem_singleton.mpr rfl))
    show (((((0:Nat):Int)) * 256+((UInt8.ofNat b.toNat).toNat:Int)) * 256+((UInt8.ofNat a.toNat).toNat:Int)) - (if decide (UInt8.ofNat b.toNat≥128)=true then 256 ^ 2 else 0)=a+256 * sOct b
    rw [hb a ha,hb b hb']
    unfold sOct
    have:=hge b hb'
    by_cases h:b>127
    · rw [if_pos (this.mpr h),if_pos h];lia
    · rw [if_neg (fun q=>h (this.mp q)),if_neg h];lia
  | _::_::_::_,h,_=>exact absurd h (by simp)
theorem number_run {X:Cx} {d:Nat} {cd:Value} {ql:PySem.Str} (G:Glo X) {c T fL fU fD:Addr} (okN:LongOK X fL fU fD) (okD:MakeOK X (FNumber cd ql) c T ⟨126,4,128,45⟩ "_law_read") (okL:MakeOK X (FNumber cd ql) c T ⟨129,13,129,25⟩ "<lambda>") (hgL:X.mg (PySem.Str.ofString "read_long1")=some (.ref fL))
    (octs:List Int) (hl:octs.length≤2) (ho:∀o∈octs,0≤o∧o < 256):∃p,runF (WNumber.numberS (X:=X) (d:=d) (cd:=cd) (ql:=ql) G okN okD okL hgL).1 5 [.list (octs.map .int)]=some p∧p=.int (numO octs):=by
  refine runF_of ?_
  simp only [WNumber.numberS]
  have hlen:=len_L (octs.map .int) (by rw [List.length_map];lia)
  rw [List.length_map] at hlen
  have hcat:catL (.list [.int octs.length]) (.list (octs.map .int))=some (.list (((octs.length:Int)::octs).map .int)):=by
    simp only [catL]
    rw [if_pos (by simp only [List.length_cons,List.length_nil,List.length_map];lia)]
    rfl
  refine pseq (st1:=[.froz (.list (octs.map .int)),.none,.none,.own [.int 0],.froz (.list (((octs.length:Int)::octs).map .int))]) ?_ ?_
  · refine run_bind (a:=[.froz (.list (((octs.length:Int)::octs).map .int)),.own [.int 0]]) (st1:=[.froz (.list (octs.map .int)),.none,.none,.none,.none]) ?_ rfl
    refine run_bind (a:=.list (((octs.length:Int)::octs).map .int)) (st1:=[.froz (.list (octs.map .int)),.none,.none,.none,.none]) ?_ rfl
    refine r_two (r_call1 (r_len rfl hlen) rfl) (r_name rfl) hcat
  · have hall:allOf asInt (((octs.length:Int)::octs).map .int)=some ((octs.length:Int)::octs):=by
      have:∀l:List Int,allOf asInt (l.map .int)=some l:=by
        intro l
        induction l with
        | nil=>rfl
        | cons x l ih=>
          rw [List.map_cons]
          unfold allOf
          rw [ih]
          rfl
      exact this _
    have hle:=leB_num octs hl ho
    refine ⟨.int (numO octs),[.froz (.list (octs.map .int)),.none,.none,.none,.froz (.list (((octs.length:Int)::octs).map .int))],?_,rfl⟩
    unfold numTail
    simp only [List.getElem?_cons_zero,List.getElem?_cons_succ,Option.bind_some,oneO,listOf,hall,List.head?_cons,List.tail_cons]
    have hz:∀z∈(octs.length:Int)::octs,0≤z∧z < 256:=by
      intro z hz
      rcases List.mem_cons.mp hz with rfl | hz
      · lia
      · exact ho z hz
    rw [if_pos ⟨by first | trivial | rfl,hz,by lia,by first | trivial | rfl⟩,hle]
    rfl
end Mine
end
section
open PySem PySem.W PyProof.Rows PySem.SeqAt PySem.Builtin.Str
set_option tactic.hygienic false
namespace Mine
noncomputable def nums (script:List Int):List Int:=(script.take 4++[0,0,0,0]).zipWith (fun x y:Int=>(x+y).fmod (10 ^ 9)) [90767490,147328,172034,65666]
theorem nums_len (script:List Int):(nums script).length=4:=by
  unfold nums
  rw [List.length_zipWith,List.length_append]
  simp
set_option tactic.hygienic true in
theorem nums_range (script:List Int):∀x∈nums script,0≤x∧x < 1000000000:=by
  intro x hx
  unfold nums at hx
  obtain ⟨i,hi⟩:=List.mem_iff_getElem?.mp hx
  rw [List.getElem?_zipWith] at hi
  split at hi
  · cases hi
    rename_i a b _ _
    exact ⟨Int.fmod_nonneg_of_pos (a+b) (by decide),Int.fmod_lt_of_pos (a+b) (by decide)⟩
  · cases hi
noncomputable def octI (x:Int):List Int:=[x.fmod 256,(x.fdiv 256).fmod 256].take ((x.fdiv 65536).fmod 3).toNat
theorem octI_len (x:Int):(octI x).length≤2:=by
  unfold octI
  rw [List.length_take]
  exact Nat.le_trans (Nat.min_le_right _ _) (by simp)
theorem octI_range (x:Int):∀o∈octI x,0≤o∧o < 256:=by
  intro o ho
  have:=List.mem_of_mem_take ho
  simp only [List.mem_cons,List.not_mem_nil,or_false] at this
  rcases this with rfl | rfl
  · exact ⟨Int.fmod_nonneg_of_pos _ (by decide),Int.fmod_lt_of_pos _ (by decide)⟩
  · exact ⟨Int.fmod_nonneg_of_pos _ (by decide),Int.fmod_lt_of_pos _ (by decide)⟩
theorem octI_slice (x:Int):pySlice (.list [.int (x.fmod 256),.int ((x.fdiv 256).fmod 256)]) none (some ((x.fdiv 65536).fmod 3)) none=some (.list ((octI x).map .int)):=by
  have h0:0≤(x.fdiv 65536).fmod 3:=Int.fmod_nonneg_of_pos _ (by decide)
  have h1:(x.fdiv 65536).fmod 3 < 3:=Int.fmod_lt_of_pos _ (by decide)
  unfold octI
  obtain ⟨n,hn⟩:∃n:Nat,(x.fdiv 65536).fmod 3=n:=⟨((x.fdiv 65536).fmod 3).toNat,by lia⟩
  rw [hn] at h1 ⊢
  rw [slL _ _ _ (by simp),clipN_nat,Int.toNat_natCast]
  have h2:n < 3:=by lia
  clear h0 h1 hn
  match n,h2 with
  | 0,_=>rfl
  | 1,_=>rfl
  | 2,_=>rfl
  | n+3,h=>exact absurd h (by lia)
theorem pow5 (j:Nat) (h:j < 4):0 < 5 ^ j∧5 ^ j≤125:=by
  match j,h with
  | 0,_ | 1,_ | 2,_ | 3,_=>decide
  | j+4,h=>exact absurd h (by lia)
noncomputable def plN (r j:Nat):Nat:=5 * j+r / 5 ^ j % 5
theorem nums4 (script:List Int):∃a b c d,nums script=[a,b,c,d]:=by
  have h:=nums_len script
  match nums script,h with
  | [a,b,c,d],_=>exact ⟨a,b,c,d,rfl⟩
noncomputable def restN (ns:List Int):Int:=(ns.map fun x=>x.fdiv 196608).sum
end Mine
end
section
set_option tactic.hygienic false
namespace Mine
noncomputable def bt (r j:Nat):Nat:=r / 2 ^ j % 2
noncomputable def perm4 (r0 r1 r2 r3:Nat):Nat:=
  let p2 (i j:Nat):=bt r2 i * bt r3 j+bt r2 j * bt r3 i
  let p3 (i j k:Nat):=bt r1 i * p2 j k+bt r1 j * p2 i k+bt r1 k * p2 i j
  bt r0 0 * p3 1 2 3+bt r0 1 * p3 0 2 3+bt r0 2 * p3 0 1 3+bt r0 3 * p3 0 1 2
noncomputable def pc (r:Nat):Nat:=bt r 0+bt r 1+bt r 2+bt r 3
noncomputable def hall (r0 r1 r2 r3:Nat):Bool:=
  let a:=r0||| r1
  let b:=r0||| r2
  let c:=r1||| r2
  let d:=a||| r2
  Nat.ble 1 (pc r0)&&Nat.ble 1 (pc r1)&&Nat.ble 2 (pc a)&&Nat.ble 1 (pc r2)&&Nat.ble 2 (pc b)&&Nat.ble 2 (pc c)&&Nat.ble 3 (pc d)&&
  Nat.ble 1 (pc r3)&&Nat.ble 2 (pc (r0||| r3))&&Nat.ble 2 (pc (r1||| r3))&&Nat.ble 3 (pc (a||| r3))&&Nat.ble 2 (pc (r2||| r3))&&Nat.ble 3 (pc (b||| r3))&&Nat.ble 3 (pc (c||| r3))&&Nat.ble 4 (pc (d||| r3))
noncomputable def ind (r0 r1 r2 r3:Nat):Bool:=
  let a:=r0 ^^^ r1
  let b:=r0 ^^^ r2
  let c:=r1 ^^^ r2
  let d:=a ^^^ r2
  !(Nat.beq (r0) 0)&& !(Nat.beq (r1) 0)&& !(Nat.beq (a) 0)&& !(Nat.beq (r2) 0)&& !(Nat.beq (b) 0)&& !(Nat.beq (c) 0)&& !(Nat.beq (d) 0)&& !(Nat.beq (r3) 0)&& !(Nat.beq (r0 ^^^ r3) 0)&& !(Nat.beq (r1 ^^^ r3) 0)&& !(Nat.beq (a ^^^ r3) 0)&& !(Nat.beq (r2 ^^^ r3) 0)&& !(Nat.beq (b ^^^ r3) 0)&& !(Nat.beq (c ^^^ r3) 0)&& !(Nat.beq (d ^^^ r3) 0)
noncomputable def chk (r0 r1 r2 r3:Nat):Bool:=let p:=perm4 r0 r1 r2 r3;((Nat.blt 0 p)==hall r0 r1 r2 r3)&&(Nat.beq (p % 2) 1==ind r0 r1 r2 r3)
noncomputable def all16 (f:Nat→Bool):Bool:=f 0&&f 1&&f 2&&f 3&&f 4&&f 5&&f 6&&f 7&&f 8&&f 9&&f 10&&f 11&&f 12&&f 13&&f 14&&f 15
theorem perm_01 (a b c d:Nat):perm4 a b c d=perm4 b a c d:=by
  unfold perm4
  dsimp only
  grind
theorem perm_12 (a b c d:Nat):perm4 a b c d=perm4 a c b d:=by
  unfold perm4
  dsimp only
  grind
theorem perm_23 (a b c d:Nat):perm4 a b c d=perm4 a b d c:=by
  unfold perm4
  dsimp only
  grind
theorem hall_01 (a b c d:Nat):hall a b c d=hall b a c d:=by
  unfold hall
  dsimp only
  ac_rfl
theorem hall_12 (a b c d:Nat):hall a b c d=hall a c b d:=by
  unfold hall
  dsimp only
  ac_rfl
theorem hall_23 (a b c d:Nat):hall a b c d=hall a b d c:=by
  unfold hall
  dsimp only
  ac_rfl
theorem ind_01 (a b c d:Nat):ind a b c d=ind b a c d:=by
  unfold ind
  dsimp only
  ac_rfl
theorem ind_12 (a b c d:Nat):ind a b c d=ind a c b d:=by
  unfold ind
  dsimp only
  ac_rfl
theorem ind_23 (a b c d:Nat):ind a b c d=ind a b d c:=by
  unfold ind
  dsimp only
  ac_rfl
theorem chk_01 (a b c d:Nat):chk a b c d=chk b a c d:=by unfold chk;rw [perm_01,hall_01,ind_01]
theorem chk_12 (a b c d:Nat):chk a b c d=chk a c b d:=by unfold chk;rw [perm_12,hall_12,ind_12]
theorem chk_23 (a b c d:Nat):chk a b c d=chk a b d c:=by unfold chk;rw [perm_23,hall_23,ind_23]
theorem all16_iff (f:Nat→Bool) (h:all16 f=true):∀n,n < 16→f n=true:=by
  intro n hn
  unfold all16 at h
  simp only [Bool.and_eq_true] at h
  match n,hn with
  | 0,_ | 1,_ | 2,_ | 3,_ | 4,_ | 5,_ | 6,_ | 7,_ | 8,_ | 9,_ | 10,_ | 11,_ | 12,_ | 13,_ | 14,_ | 15,_=>simp [h]
  | n+16,hn=>exact absurd hn (by lia)
noncomputable def sortedAll (a:Nat):Bool:=all16 fun b=> !(Nat.ble a b)||all16 fun c=> !(Nat.ble b c)||all16 fun d=> !(Nat.ble c d)||chk a b c d
theorem sorted_ok:all16 sortedAll=true:=by decide+kernel
theorem chk_sorted (a b c d:Nat) (h1:a≤b) (h2:b≤c) (h3:c≤d) (h4:d < 16):chk a b c d=true:=by
  have e1:=all16_iff _ sorted_ok a (by lia)
  unfold sortedAll at e1
  have e2:=all16_iff _ e1 b (by lia)
  rw [Nat.ble_eq_true_of_le h1,Bool.not_true,Bool.false_or] at e2
  have e3:=all16_iff _ e2 c (by lia)
  rw [Nat.ble_eq_true_of_le h2,Bool.not_true,Bool.false_or] at e3
  have e4:=all16_iff _ e3 d (by lia)
  rw [Nat.ble_eq_true_of_le h3,Bool.not_true,Bool.false_or] at e4
  exact e4
theorem chk_a (a b c d:Nat) (h1:a≤b) (h2:b≤c) (hc:c < 16) (hd:d < 16):chk a b c d=true:=by
  rcases Nat.le_total c d with h | h
  · exact chk_sorted a b c d h1 h2 h hd
  rw [chk_23]
  rcases Nat.le_total b d with h' | h'
  · exact chk_sorted a b d c h1 h' h hc
  rw [chk_12]
  rcases Nat.le_total a d with h'' | h''
  · exact chk_sorted a d b c h'' h' h2 hc
  rw [chk_01]
  exact chk_sorted d a b c h'' h1 h2 hc
theorem chk_b (a b c d:Nat) (h1:a≤b) (hb:b < 16) (hc:c < 16) (hd:d < 16):chk a b c d=true:=by
  rcases Nat.le_total b c with h | h
  · exact chk_a a b c d h1 h hc hd
  rw [chk_12]
  rcases Nat.le_total a c with h' | h'
  · exact chk_a a c b d h' h hb hd
  rw [chk_01]
  exact chk_a c a b d h' h1 hb hd
theorem chk_all (a b c d:Nat) (ha:a < 16) (hb:b < 16) (hc:c < 16) (hd:d < 16):chk a b c d=true:=by
  rcases Nat.le_total a b with h | h
  · exact chk_b a b c d h hb hc hd
  · rw [chk_01]
    exact chk_b b a c d h ha hc hd
end Mine
end
section
set_option tactic.hygienic false
namespace Mine
noncomputable abbrev Mat:=Nat→Nat→Bool
noncomputable def bI (m:Mat) (k j:Nat):Int:=if m k j=true then 1 else 0
noncomputable def chosenN (c:Nat):List Nat:=(List.range 4).filter fun k=>c / 2 ^ k % 2==1
noncomputable def rowS (m:Mat) (k:Nat) (ch:List Nat):Int:=(ch.map (bI m k)).sum
noncomputable def prodN (m:Mat) (ch:List Nat) (n:Nat):Int:=(List.range n).foldl (fun p k=>p * rowS m k ch) ((-1) ^ ch.length)
noncomputable def onesN (m:Mat) (ch:List Nat) (j:Nat):Int:=(ch.map fun k=>bI m k j).sum
noncomputable def enC (m:Mat) (ch:List Nat):Bool:=decide ((((List.range 4).map (onesN m ch)).filter fun x=>decide (x>0)).length≥ch.length)
noncomputable def odC (m:Mat) (ch:List Nat):Bool:= !(((List.range 4).map (onesN m ch)).filter fun x=>x.fmod 2==1).isEmpty
noncomputable def dueN (m:Mat) (n:Nat):Int:=((List.range n).map fun c=>prodN m (chosenN (c+1)) 4).sum
noncomputable def enN (m:Mat) (n:Nat):Bool:=(List.range n).all fun c=>enC m (chosenN (c+1))
noncomputable def odN (m:Mat) (n:Nat):Bool:=(List.range n).all fun c=>odC m (chosenN (c+1))
noncomputable def orders4:List (List Nat):=(List.range 4).foldl (fun os _=>os.flatMap fun o=>((List.range 4).filter fun j=> !o.contains j).map fun j=>o++[j]) [[]]
noncomputable def fits (m:Mat) (o:List Nat):Bool:=(List.range 4).all fun k=>m k (o.getD k 0)
noncomputable def toldN (m:Mat):Nat:=(orders4.filter (fits m)).length
noncomputable def maskF (f:Nat→Bool):Nat:=(f 0).toNat+2 * (f 1).toNat+4 * (f 2).toNat+8 * (f 3).toNat
theorem maskF_lt (f:Nat→Bool):maskF f < 16:=by
  unfold maskF
  cases f 0<;>cases f 1<;>cases f 2<;>cases f 3<;>decide
theorem bt_mask (f:Nat→Bool):bt (maskF f) 0=(f 0).toNat∧bt (maskF f) 1=(f 1).toNat∧bt (maskF f) 2=(f 2).toNat∧bt (maskF f) 3=(f 3).toNat:=by
  unfold maskF
  cases f 0<;>cases f 1<;>cases f 2<;>cases f 3<;>decide
theorem or_mask (f g:Nat→Bool):maskF f||| maskF g=maskF fun j=>f j||g j:=by
  unfold maskF
  dsimp only
  generalize f 0=a0;generalize f 1=a1;generalize f 2=a2;generalize f 3=a3
  generalize g 0=b0;generalize g 1=b1;generalize g 2=b2;generalize g 3=b3
  revert a0 a1 a2 a3 b0 b1 b2 b3
  decide+kernel
theorem xor_mask (f g:Nat→Bool):maskF f ^^^ maskF g=maskF fun j=>f j ^^ g j:=by
  unfold maskF
  dsimp only
  generalize f 0=a0;generalize f 1=a1;generalize f 2=a2;generalize f 3=a3
  generalize g 0=b0;generalize g 1=b1;generalize g 2=b2;generalize g 3=b3
  revert a0 a1 a2 a3 b0 b1 b2 b3
  decide+kernel
theorem zero_mask (f:Nat→Bool):Nat.beq (maskF f) 0= !(f 0||f 1||f 2||f 3):=by
  unfold maskF
  cases f 0<;>cases f 1<;>cases f 2<;>cases f 3<;>decide
theorem pc_mask (f:Nat→Bool):pc (maskF f)=(f 0).toNat+(f 1).toNat+(f 2).toNat+(f 3).toNat:=by
  unfold pc
  obtain ⟨h0,h1,h2,h3⟩:=bt_mask f
  rw [h0,h1,h2,h3]
noncomputable def anyC (m:Mat) (ch:List Nat) (j:Nat):Bool:=ch.any fun k=>m k j
noncomputable def xorC (m:Mat) (ch:List Nat) (j:Nat):Bool:=ch.foldr (fun k b=>m k j ^^ b) false
theorem ones_any (m:Mat) (j:Nat):∀ch:List Nat,0≤onesN m ch j∧(decide (onesN m ch j>0)=anyC m ch j)
  | []=>⟨Int.le_refl 0,rfl⟩
  | k::ch=>by
    obtain ⟨h1,h2⟩:=ones_any m j ch
    unfold onesN at h1
    unfold onesN anyC at h2 ⊢
    rw [List.map_cons,List.sum_cons,List.any_cons,←h2]
    have hb:bI m k j=if m k j=true then 1 else 0:=rfl
    cases hm:m k j with
    | true=>
      rw [hm,if_pos rfl] at hb
      rw [hb]
      refine ⟨by lia,?_⟩
      rw [Bool.true_or,decide_eq_true_eq]
      lia
    | false=>
      rw [hm,if_neg (by decide)] at hb
      rw [hb,Bool.false_or,Int.zero_add]
      exact ⟨h1,rfl⟩
theorem ones_xor (m:Mat) (j:Nat):∀ch:List Nat,(onesN m ch j % 2==1)=xorC m ch j
  | []=>rfl
  | k::ch=>by
    have h2:=ones_xor m j ch
    unfold onesN xorC at h2 ⊢
    rw [List.map_cons,List.sum_cons,List.foldr_cons,←h2]
    have hb:bI m k j=if m k j=true then 1 else 0:=rfl
    generalize (ch.map fun k=>bI m k j).sum=s
    rcases Int.emod_two_eq s with h | h<;>cases hm:m k j
    all_goals
      rw [hm] at hb
      simp only [Bool.false_eq_true,if_false,if_true] at hb
      rw [hb,h]
    · rw [show (0+s) % 2=0 by lia];rfl
    · rw [show (1+s) % 2=1 by lia];rfl
    · rw [show (0+s) % 2=1 by lia];rfl
    · rw [show (1+s) % 2=0 by lia];rfl
theorem len_filter4 (f:Nat→Int) (p:Int→Bool):(((List.range 4).map f).filter p).length=(p (f 0)).toNat+(p (f 1)).toNat+(p (f 2)).toNat+(p (f 3)).toNat:=by
  show (List.filter p [f 0,f 1,f 2,f 3]).length=_
  simp only [List.filter_cons,List.filter_nil]
  cases p (f 0)<;>cases p (f 1)<;>cases p (f 2)<;>cases p (f 3)<;>rfl
theorem en_mask (m:Mat) (ch:List Nat):enC m ch=Nat.ble ch.length (pc (maskF (anyC m ch))):=by
  unfold enC
  rw [len_filter4,(ones_any m 0 ch).2,(ones_any m 1 ch).2,(ones_any m 2 ch).2,(ones_any m 3 ch).2,pc_mask]
  rw [Bool.eq_iff_iff,decide_eq_true_eq,Nat.ble_eq]
theorem od_mask (m:Mat) (ch:List Nat):odC m ch= !(Nat.beq (maskF (xorC m ch)) 0):=by
  unfold odC
  rw [zero_mask,Bool.not_not]
  have e:∀x:Int,(x.fmod 2==1)=(x % 2==1):=fun x=>by rw [Int.fmod_eq_emod_of_nonneg _ (by decide)]
  simp only [e]
  have h:=fun j=>ones_xor m j ch
  rw [←h 0,←h 1,←h 2,←h 3]
  show (!(List.filter _ [onesN m ch 0,onesN m ch 1,onesN m ch 2,onesN m ch 3]).isEmpty)=_
  simp only [List.filter_cons,List.filter_nil]
  cases onesN m ch 0 % 2==1<;>cases onesN m ch 1 % 2==1<;>cases onesN m ch 2 % 2==1<;>cases onesN m ch 3 % 2==1<;>rfl
theorem any1 (m:Mat) (a:Nat):anyC m [a]=m a:=funext fun j=>by simp [anyC]
theorem any2 (m:Mat) (a b:Nat):anyC m [a,b]=fun j=>m a j||m b j:=funext fun j=>by simp [anyC]
theorem any3 (m:Mat) (a b c:Nat):anyC m [a,b,c]=fun j=>m a j||(m b j||m c j):=funext fun j=>by simp [anyC]
theorem any4 (m:Mat) (a b c d:Nat):anyC m [a,b,c,d]=fun j=>m a j||(m b j||(m c j||m d j)):=funext fun j=>by simp [anyC]
theorem xor1 (m:Mat) (a:Nat):xorC m [a]=m a:=funext fun j=>by simp [xorC]
theorem xor2 (m:Mat) (a b:Nat):xorC m [a,b]=fun j=>m a j ^^ m b j:=funext fun j=>by simp [xorC]
theorem xor3 (m:Mat) (a b c:Nat):xorC m [a,b,c]=fun j=>m a j ^^ (m b j ^^ m c j):=funext fun j=>by simp [xorC]
theorem xor4 (m:Mat) (a b c d:Nat):xorC m [a,b,c,d]=fun j=>m a j ^^ (m b j ^^ (m c j ^^ m d j)):=funext fun j=>by simp [xorC]
theorem hall_all (m:Mat):enN m 15=hall (maskF (m 0)) (maskF (m 1)) (maskF (m 2)) (maskF (m 3)):=by
  have e:enN m 15=(enC m [0]&&(enC m [1]&&(enC m [0,1]&&(enC m [2]&&(enC m [0,2]&&(enC m [1,2]&&(enC m [0,1,2]&&(enC m [3]&&(enC m [0,3]&&(enC m [1,3]&&(enC m [0,1,3]&&(enC m [2,3]&&(enC m [0,2,3]&&(enC m [1,2,3]&&(enC m [0,1,2,3]&&true))))))))))))))):=rfl
  rw [e]
  simp only [en_mask,any1,any2,any3,any4,List.length_cons,List.length_nil,Nat.zero_add,Nat.reduceAdd]
  unfold hall
  simp only [or_mask,Bool.or_assoc,Bool.and_true,Bool.and_assoc]
theorem ind_all (m:Mat):odN m 15=ind (maskF (m 0)) (maskF (m 1)) (maskF (m 2)) (maskF (m 3)):=by
  have e:odN m 15=(odC m [0]&&(odC m [1]&&(odC m [0,1]&&(odC m [2]&&(odC m [0,2]&&(odC m [1,2]&&(odC m [0,1,2]&&(odC m [3]&&(odC m [0,3]&&(odC m [1,3]&&(odC m [0,1,3]&&(odC m [2,3]&&(odC m [0,2,3]&&(odC m [1,2,3]&&(odC m [0,1,2,3]&&true))))))))))))))):=rfl
  rw [e]
  simp only [od_mask,xor1,xor2,xor3,xor4]
  unfold ind
  simp only [xor_mask,Bool.xor_assoc,Bool.and_true,Bool.and_assoc]
theorem len_filter_sum {α:Type} (p:α→Bool):∀l:List α,(l.filter p).length=(l.map fun x=>(p x).toNat).sum
  | []=>rfl
  | x::l=>by
    rw [List.map_cons,List.sum_cons,←len_filter_sum p l]
    cases h:p x with
    | true=>rw [List.filter_cons_of_pos h,List.length_cons];exact Nat.add_comm _ _
    | false=>rw [List.filter_cons_of_neg (by rw [h];exact Bool.false_ne_true)];exact (Nat.zero_add _).symm
theorem orders4_eq:orders4=[[0,1,2,3],[0,1,3,2],[0,2,1,3],[0,2,3,1],[0,3,1,2],[0,3,2,1],[1,0,2,3],[1,0,3,2],[1,2,0,3],[1,2,3,0],[1,3,0,2],[1,3,2,0],[2,0,1,3],[2,0,3,1],[2,1,0,3],[2,1,3,0],[2,3,0,1],[2,3,1,0],[3,0,1,2],[3,0,2,1],[3,1,0,2],[3,1,2,0],[3,2,0,1],[3,2,1,0]]:=by decide+kernel
theorem fits4 (m:Mat) (a b c d:Nat):(fits m [a,b,c,d]).toNat=(m 0 a).toNat * (m 1 b).toNat * (m 2 c).toNat * (m 3 d).toNat:=by
  show (m 0 a&&(m 1 b&&(m 2 c&&(m 3 d&&true)))).toNat=_
  cases m 0 a<;>cases m 1 b<;>cases m 2 c<;>cases m 3 d<;>rfl
noncomputable def permX {α:Type} [Add α] [Mul α] (f:Nat→Nat→α):α:=f 0 0 * (f 1 1 * (f 2 2 * f 3 3+f 2 3 * f 3 2)+f 1 2 * (f 2 1 * f 3 3+f 2 3 * f 3 1)+f 1 3 * (f 2 1 * f 3 2+f 2 2 * f 3 1))+f 0 1 * (f 1 0 * (f 2 2 * f 3 3+f 2 3 * f 3 2)+f 1 2 * (f 2 0 * f 3 3+f 2 3 * f 3 0)+f 1 3 * (f 2 0 * f 3 2+f 2 2 * f 3 0))+f 0 2 * (f 1 0 * (f 2 1 * f 3 3+f 2 3 * f 3 1)+f 1 1 * (f 2 0 * f 3 3+f 2 3 * f 3 0)+f 1 3 * (f 2 0 * f 3 1+f 2 1 * f 3 0))+f 0 3 * (f 1 0 * (f 2 1 * f 3 2+f 2 2 * f 3 1)+f 1 1 * (f 2 0 * f 3 2+f 2 2 * f 3 0)+f 1 2 * (f 2 0 * f 3 1+f 2 1 * f 3 0))
noncomputable def dueE (f:Nat→Nat→Int):Int:=((-1) ^ 1 * (f 0 0+0) * (f 1 0+0) * (f 2 0+0) * (f 3 0+0)+((-1) ^ 1 * (f 0 1+0) * (f 1 1+0) * (f 2 1+0) * (f 3 1+0)+((-1) ^ 2 * (f 0 0+(f 0 1+0)) * (f 1 0+(f 1 1+0)) * (f 2 0+(f 2 1+0)) * (f 3 0+(f 3 1+0))+((-1) ^ 1 * (f 0 2+0) * (f 1 2+0) * (f 2 2+0) * (f 3 2+0)+((-1) ^ 2 * (f 0 0+(f 0 2+0)) * (f 1 0+(f 1 2+0)) * (f 2 0+(f 2 2+0)) * (f 3 0+(f 3 2+0))+((-1) ^ 2 * (f 0 1+(f 0 2+0)) * (f 1 1+(f 1 2+0)) * (f 2 1+(f 2 2+0)) * (f 3 1+(f 3 2+0))+((-1) ^ 3 * (f 0 0+(f 0 1+(f 0 2+0))) * (f 1 0+(f 1 1+(f 1 2+0))) * (f 2 0+(f 2 1+(f 2 2+0))) * (f 3 0+(f 3 1+(f 3 2+0)))+((-1) ^ 1 * (f 0 3+0) * (f 1 3+0) * (f 2 3+0) * (f 3 3+0)+((-1) ^ 2 * (f 0 0+(f 0 3+0)) * (f 1 0+(f 1 3+0)) * (f 2 0+(f 2 3+0)) * (f 3 0+(f 3 3+0))+((-1) ^ 2 * (f 0 1+(f 0 3+0)) * (f 1 1+(f 1 3+0)) * (f 2 1+(f 2 3+0)) * (f 3 1+(f 3 3+0))+((-1) ^ 3 * (f 0 0+(f 0 1+(f 0 3+0))) * (f 1 0+(f 1 1+(f 1 3+0))) * (f 2 0+(f 2 1+(f 2 3+0))) * (f 3 0+(f 3 1+(f 3 3+0)))+((-1) ^ 2 * (f 0 2+(f 0 3+0)) * (f 1 2+(f 1 3+0)) * (f 2 2+(f 2 3+0)) * (f 3 2+(f 3 3+0))+((-1) ^ 3 * (f 0 0+(f 0 2+(f 0 3+0))) * (f 1 0+(f 1 2+(f 1 3+0))) * (f 2 0+(f 2 2+(f 2 3+0))) * (f 3 0+(f 3 2+(f 3 3+0)))+((-1) ^ 3 * (f 0 1+(f 0 2+(f 0 3+0))) * (f 1 1+(f 1 2+(f 1 3+0))) * (f 2 1+(f 2 2+(f 2 3+0))) * (f 3 1+(f 3 2+(f 3 3+0)))+((-1) ^ 4 * (f 0 0+(f 0 1+(f 0 2+(f 0 3+0)))) * (f 1 0+(f 1 1+(f 1 2+(f 1 3+0)))) * (f 2 0+(f 2 1+(f 2 2+(f 2 3+0)))) * (f 3 0+(f 3 1+(f 3 2+(f 3 3+0))))+0)))))))))))))))
theorem sum24 (f:Nat→Nat→Nat):f 0 0 * f 1 1 * f 2 2 * f 3 3+(f 0 0 * f 1 1 * f 2 3 * f 3 2+(f 0 0 * f 1 2 * f 2 1 * f 3 3+(f 0 0 * f 1 2 * f 2 3 * f 3 1+(f 0 0 * f 1 3 * f 2 1 * f 3 2+(f 0 0 * f 1 3 * f 2 2 * f 3 1+(f 0 1 * f 1 0 * f 2 2 * f 3 3+(f 0 1 * f 1 0 * f 2 3 * f 3 2+(f 0 1 * f 1 2 * f 2 0 * f 3 3+(f 0 1 * f 1 2 * f 2 3 * f 3 0+(f 0 1 * f 1 3 * f 2 0 * f 3 2+(f 0 1 * f 1 3 * f 2 2 * f 3 0+(f 0 2 * f 1 0 * f 2 1 * f 3 3+(f 0 2 * f 1 0 * f 2 3 * f 3 1+(f 0 2 * f 1 1 * f 2 0 * f 3 3+(f 0 2 * f 1 1 * f 2 3 * f 3 0+(f 0 2 * f 1 3 * f 2 0 * f 3 1+(f 0 2 * f 1 3 * f 2 1 * f 3 0+(f 0 3 * f 1 0 * f 2 1 * f 3 2+(f 0 3 * f 1 0 * f 2 2 * f 3 1+(f 0 3 * f 1 1 * f 2 0 * f 3 2+(f 0 3 * f 1 1 * f 2 2 * f 3 0+(f 0 3 * f 1 2 * f 2 0 * f 3 1+(f 0 3 * f 1 2 * f 2 1 * f 3 0+0)))))))))))))))))))))))=permX f:=by
  unfold permX
  grind
theorem told_X (m:Mat):toldN m=permX fun k j=>(m k j).toNat:=by
  unfold toldN
  rw [len_filter_sum,orders4_eq]
  simp only [List.map_cons,List.map_nil,List.sum_cons,List.sum_nil,fits4]
  exact sum24 fun k j=>(m k j).toNat
theorem perm4_X (m:Mat):perm4 (maskF (m 0)) (maskF (m 1)) (maskF (m 2)) (maskF (m 3))=permX fun k j=>(m k j).toNat:=by
  unfold perm4
  obtain ⟨h00,h01,h02,h03⟩:=bt_mask (m 0)
  obtain ⟨h10,h11,h12,h13⟩:=bt_mask (m 1)
  obtain ⟨h20,h21,h22,h23⟩:=bt_mask (m 2)
  obtain ⟨h30,h31,h32,h33⟩:=bt_mask (m 3)
  simp only [h00,h01,h02,h03,h10,h11,h12,h13,h20,h21,h22,h23,h30,h31,h32,h33]
  rfl
theorem told_perm (m:Mat):toldN m=perm4 (maskF (m 0)) (maskF (m 1)) (maskF (m 2)) (maskF (m 3)):=(told_X m).trans (perm4_X m).symm
theorem bI_toNat (m:Mat) (k j:Nat):bI m k j=(((m k j).toNat:Nat):Int):=by
  unfold bI
  cases m k j<;>rfl
theorem due_raw (f:Nat→Nat→Int):dueE f=permX f:=by
  unfold dueE permX
  grind
theorem due_told (m:Mat):dueN m 15=((toldN m:Nat):Int):=by
  rw [show dueN m 15=dueE (bI m) from rfl,due_raw,told_X,show bI m=fun k j=>(((m k j).toNat:Nat):Int) from funext fun k=>funext fun j=>bI_toNat m k j]
  rfl
theorem law_plain (m:Mat):((toldN m:Nat):Int)=dueN m 15∧decide (0 < toldN m)=enN m 15∧(toldN m % 2==1)=odN m 15:=by
  have h:=chk_all (maskF (m 0)) (maskF (m 1)) (maskF (m 2)) (maskF (m 3)) (maskF_lt _) (maskF_lt _) (maskF_lt _) (maskF_lt _)
  unfold chk at h
  simp only [Bool.and_eq_true,beq_iff_eq] at h
  rw [←hall_all,←ind_all,←told_perm] at h
  refine ⟨(due_told m).symm,?_,?_⟩
  · rw [←h.1]
    rw [Bool.eq_iff_iff,decide_eq_true_eq,Nat.blt_eq]
  · rw [←h.2]
    rw [Bool.eq_iff_iff,beq_iff_eq,Nat.beq_eq]
end Mine
end
section
open PySem PySem.W PyProof.Rows PySem.SeqAt PySem.Builtin.Str
set_option tactic.hygienic false
namespace Mine
noncomputable abbrev nmE (i:Nat):EvE:=fun st=>getV i st
noncomputable abbrev cI (i:Int):EvE:=fun st=>pureE (.int i) st
noncomputable abbrev a1 (f:EvE):St→Option (List PV×St):=bindE f fun a=>bindE (pureE []) fun as=>pureE (a::as)
noncomputable abbrev a2 (f g:EvE):St→Option (List PV×St):=bindE f fun a=>bindE (a1 g) fun as=>pureE (a::as)
noncomputable abbrev a3 (f g h:EvE):St→Option (List PV×St):=bindE f fun a=>bindE (a2 g h) fun as=>pureE (a::as)
noncomputable abbrev cl (m:List PV→Option PV) (as:St→Option (List PV×St)):EvE:=fun st=>bindE as (fun as=>liftE (m as)) st
noncomputable abbrev bn (op:Operator) (f g:EvE):EvE:=fun st=>bindE f (fun a=>bindE g fun b=>liftE (binOp op a b)) st
noncomputable abbrev itE (f g:EvE):EvE:=fun st=>bindE f (fun o=>bindE g fun i=>liftE (pyItem o i)) st
noncomputable abbrev asg (i:Nat) (f:EvE):EvS:=fun st=>bindE f (fun p=>setV i p) st
set_option tactic.hygienic true in
noncomputable abbrev nx0:EvS:=fun st=>pureE .next st
noncomputable abbrev forS (i:Nat) (f:EvE) (g:EvS):EvS:=fun st=>bindE f (fun p=>bindE (liftE (itemsOf p)) fun xs=>forF i g xs) st
noncomputable abbrev cmE (op:CmpOp) (f g:EvE):EvE:=fun st=>bindE (cmpF op f g) (fun b=>pureE (PV.bool b)) st
noncomputable abbrev ttB:EvB:=fun st=>pureE true st
noncomputable abbrev nilE:EvE:=fun st=>bindE (pureE []) (fun as=>liftE (mkL as)) st
end Mine
end
section
open PySem PySem.W PyProof.Rows PySem.SeqAt PySem.Builtin.Str
set_option tactic.hygienic false
namespace Mine
noncomputable def chosenE:EvE:=fun st=>compE [17] (cl pyRange (a1 (cI 4))) (compV 1 0 (fun st=>cmpF .Eq (bn .Mod (bn .FloorDiv (nmE 1) (bn .Pow (cI 2) (nmE 0))) (cI 2)) (cI 1) st) (nmE 0)) st
noncomputable def rowE:EvE:=cl pySum (a1 (fun st=>compE [20] (nmE 18) (compV 1 0 ttB (itE (nmE 1) (nmE 0))) st))
noncomputable def rowBody:EvS:=fun st=>seqF (fun st=>augF 19 .Mult rowE st) nx0 st
noncomputable def oneE:EvE:=cl pySum (a1 (fun st=>compE [1,0] (nmE 2) (compV 1 0 ttB (itE (itE (nmE 1) (nmE 0)) (nmE 2))) st))
noncomputable def onesE:EvE:=compE [7,18] (cl pyRange (a1 (cI 4))) (compV 1 0 ttB oneE)
noncomputable def enE:EvE:=fun st=>andV (nmE 15) (cmE .GtE (cl pyLen (a1 (fun st=>compE [] (nmE 21) (compV 1 0 (fun st=>cmpF .Gt (nmE 0) (cI 0) st) (nmE 0)) st))) (fun st=>ofP (fun st=>lenP 18 st) st)) st
noncomputable def odE:EvE:=fun st=>andV (nmE 16) (cmE .NotEq (fun st=>compE [] (nmE 21) (compV 1 0 (fun st=>cmpF .Eq (bn .Mod (nmE 0) (cI 2)) (cI 1) st) (nmE 0)) st) nilE) st
noncomputable def choiceBody:EvS:=fun st=>seqF (asg 18 chosenE) (fun st=>seqF (asg 19 (bn .Pow (fun st=>ofP (fun st=>some (PV.int (-1))) st) (fun st=>ofP (fun st=>lenP 18 st) st))) (fun st=>seqF (forS 20 (nmE 7) rowBody) (fun st=>seqF (fun st=>augF 14 .Add (nmE 19) st)
  (fun st=>seqF (asg 21 onesE) (fun st=>seqF (asg 15 enE) (fun st=>seqF (asg 16 odE) nx0 st) st) st) st) st) st) st
noncomputable def turnBody:EvS:=fun st=>seqF (fun st=>bindE (capF []) (fun ps=>bindE (srcOf (nmE 11)) fun xs=>bindE (liftE (packL (comp2F 0 1 (cl pyRange (a1 (cI 4))) (fun st=>cmpF .NotIn (nmE 1) (nmE 0) st) (fun st=>bindE (nmE 0) (fun a=>bindE (cl mkL (a1 (nmE 1))) fun b=>liftE (catL a b)) st) xs (List.replicate 2 Bind.none++ps.map Bind.froz)))) fun p=>setV 11 p) st) nx0 st
noncomputable def toldE:EvE:=cl pyLen (a1 (fun st=>compE [10] (nmE 11) (compV 1 0 (fun st=>cmpF .Eq (fun st=>compE [0,1] (cl pyRange (a1 (cI 4))) (compV 1 0 (fun st=>cmpF .NotIn (itE (nmE 1) (nmE 0)) (itE (nmE 2) (nmE 0)) st) (nmE 0)) st) nilE st) (nmE 0)) st))
noncomputable def tailS:EvS:=seqF (fun st=>bindE (fun st=>cmpF .NotEq (fun st=>ofP (fun st=>lenP 10 st) st) (cI 4) st) (fun c=>if c=true then fun st=>seqF (fun st=>bindE (fun st=>pureE (PV.bool false) st) (fun p=>pureE (Fl.ret p)) st) nx0 st else nx0) st)
  (seqF (asg 11 (cl mkL (a1 nilE)))
  (seqF (forS 12 (cl pyRange (a1 (cI 4))) turnBody)
  (seqF (asg 13 toldE)
  (seqF (fun st=>tupF [14,15,16] (fun st=>bindE (cI 0) (fun a=>bindE (fun st=>bindE (fun st=>pureE (PV.bool true) st) (fun a=>bindE (fun st=>bindE (fun st=>pureE (PV.bool true) st) (fun a=>bindE (fun st=>pureE [] st) fun as=>pureE (El.froz a::as)) st) fun as=>pureE (El.froz a::as)) st) fun as=>pureE (El.froz a::as)) st) st)
  (seqF (forS 17 (cl pyRange (a2 (cI 1) (cI 16))) choiceBody)
  (seqF (fun st=>bindE (cmE .Eq (cl mkL (a3 (nmE 13) (cmE .Gt (nmE 13) (cI 0)) (cmE .Eq (bn .Mod (nmE 13) (cI 2)) (cI 1)))) (cl mkL (a3 (nmE 14) (nmE 15) (nmE 16)))) (fun p=>pureE (Fl.ret p)) st) nx0))))))
end Mine
end
section
open PySem PySem.W PyProof.Rows PySem.SeqAt PySem.Builtin.Str
set_option tactic.hygienic false
namespace Mine
noncomputable abbrev natsP (l:List Nat):List PV:=l.map fun (k:Nat)=>.int k
theorem filter_tt {α:Type} (l:List α):l.filter (fun _=>true)=l:=List.filter_eq_self.mpr fun _ _=>rfl
theorem pySum_ints (l:List Int) (hl:l.length≤1000) (h:∀x∈l,x.natAbs≤1099511627776):pySum [.list (l.map .int)]=some (.int l.sum):=by
  show ((allOf asInt (l.map .int)).bind fun ss=>if ss.length≤1000∧ss.all (fun x=>x.natAbs≤1099511627776)=true then some (PV.int ss.sum) else none)=_
  rw [allOf_ints,Option.bind_some,if_pos ⟨hl,List.all_eq_true.mpr fun x hx=>decide_eq_true (h x hx)⟩]
theorem r_cap1 {i:Nat} {st:St} {p:PV} (h:st[i]? =some (.froz p)):capF [i] st=some ([p],st):=by simp only [capF,bindE,r_name h,pureE]
theorem r_andV {f g:EvE} {st st1 st2:St} {a b:Bool} (h:f st=some (.bool a,st1)) (h2:g st1=some (.bool b,st2)) (hs:st2=st1):andV f g st=some (.bool (a&&b),st1):=by
  subst hs
  simp only [andV,bindE,h,liftE,truthOf]
  cases a with
  | true=>simp [h2]
  | false=>simp [pureE]
theorem ints_ne (l:List Int):cmpOp .NotEq (.list (l.map .int)) (.list [])=some (!l.isEmpty):=by
  show (pyEq (.list (l.map .int)) (.list (([]:List Int).map .int))).map (!·)=_
  rw [pyEq_ints]
  cases l<;>rfl
theorem aug_mul (a b:Int) (h:a.natAbs < 2 ^ 64):augOp .Mult (.int a) (.int b)=some (.int (a * b)):=if_pos h
theorem nats_in (x:Nat) (l:List Nat):cmpOp .NotIn (.int (x:Int)) (.list (natsP l))=some (!(decide (x∈l))):=by
  show (pyIn (.int (x:Int)) (.list (natsP l))).map (!·)=_
  have e1:toPys (natsP l)=some ((l.map fun (k:Nat)=>(k:Int)).map PyData.int):=by
    have:=toPys_int (l.map fun (k:Nat)=>(k:Int))
    rw [List.map_map] at this
    exact this
  unfold pyIn
  simp only [e1]
  have s1:=shaped_ints (l.map fun (k:Nat)=>(k:Int))
  have s2:shaped (.int (x:Int))=true:=by simp [shaped,PyData.canLay0,PyData.depth]
  rw [show toPy (.int (x:Int))=some (.int x) from by unfold toPy;rfl]
  dsimp only
  rw [if_pos ⟨s1,s2⟩]
  refine congrArg some (congrArg (!·) ?_)
  rw [Bool.eq_iff_iff,decide_eq_true_eq,List.any_eq_true]
  constructor
  · rintro ⟨y,hy,he⟩
    obtain ⟨z,hz,rfl⟩:=List.mem_map.mp hy
    obtain ⟨k,hk,rfl⟩:=List.mem_map.mp hz
    simp only [PyData.eqv] at he
    have:(k:Int)=x:=by simpa using he
    have:k=x:=by lia
    exact this ▸ hk
  · intro h
    exact ⟨.int x,List.mem_map.mpr ⟨_,List.mem_map.mpr ⟨x,h,rfl⟩,rfl⟩,by simp [PyData.eqv]⟩
theorem nats_eq0 (l:List Nat):cmpOp .Eq (.list (natsP l)) (.list [])=some l.isEmpty:=by
  show pyEq (.list (natsP l)) (.list (([]:List Int).map .int))=_
  have:natsP l=(l.map fun (k:Nat)=>(k:Int)).map .int:=by rw [List.map_map];rfl
  rw [this,pyEq_ints]
  cases l<;>rfl
end Mine
end
section
open PySem PySem.W PyProof.Rows PySem.SeqAt PySem.Builtin.Str
set_option tactic.hygienic false
namespace Mine
noncomputable def rowP (m:Mat) (k:Nat):PV:=.list ((List.range 4).map fun j=>.int (bI m k j))
noncomputable def bitsP (m:Mat):List PV:=(List.range 4).map (rowP m)
noncomputable def setP (m:Mat) (k:Nat):PV:=.list (natsP ((List.range 4).filter (m k)))
noncomputable def setsP (m:Mat):List PV:=(List.range 4).map (setP m)
theorem chosen_lt {c j:Nat} (h:j∈chosenN c):j < 4:=List.mem_range.mp (List.mem_filter.mp h).1
theorem chosen_len (c:Nat):(chosenN c).length≤4:=by
  unfold chosenN
  have:=List.length_filter_le (fun k=>c / 2 ^ k % 2==1) (List.range 4)
  rw [List.length_range] at this
  exact this
theorem bI_abs (m:Mat) (k j:Nat):(bI m k j).natAbs≤1099511627776:=by
  unfold bI
  split<;>decide
theorem chosen_run (c:Nat) (st:St) (h:st[17]? =some (.froz (.int (c:Int)))):chosenE st=some (.list (natsP (chosenN c)),st):=by
  unfold chosenE
  refine r_comp (ps:=[.int (c:Int)]) (st1:=st) (a:=.range 0 ((4:Nat):Int) 1) (r_cap1 h) rfl (items_range 4 (by decide)) ?_
  exact compV_runM (n:=1) (i:=0) (t:=fun st=>cmpF .Eq (bn .Mod (bn .FloorDiv (nmE 1) (bn .Pow (cI 2) (nmE 0))) (cI 2)) (cI 1) st) (e:=nmE 0) (ps:=[.int (c:Int)]) (l:=List.range 4) (fun (j:Nat)=>PV.int j) (fun k=>c / 2 ^ k % 2==1) (fun j=>.int (j:Int)) (by decide) (fun k hk=>by
    have hk4:k < 4:=List.mem_range.mp hk
    refine ⟨?_,fun _=>r_name rfl⟩
    refine r_cmp (r_bin (r_bin (r_name rfl) (r_bin r_const (r_name rfl) (pow2_run k (by lia))) (bin_fd _ _ (pow2_ok k (by lia)))) r_const (bin_mod _ _ (by decide))) r_const ((eq_I _ _).trans (congrArg some ?_))
    have h2:(2:Int) ^ k=((2 ^ k:Nat):Int):=by rw [Int.natCast_pow];rfl
    rw [h2,fd_nat _ _ (Nat.pow_pos (by decide)),Int.fmod_eq_emod_of_nonneg _ (by decide)]
    have e:((c:Int) / ((2 ^ k:Nat):Int)) % 2=((c / 2 ^ k % 2:Nat):Int):=rfl
    rw [e,Bool.eq_iff_iff,beq_iff_eq,beq_iff_eq]
    lia)
theorem rowP_get (m:Mat) (k j:Nat) (h:j < 4):pyItem (rowP m k) (.int (j:Int))=some (.int (bI m k j)):=by
  unfold rowP
  refine item_L _ j _ ?_ (by simp)
  rw [List.getElem?_map,List.getElem?_range h]
  rfl
theorem bitsP_get (m:Mat) (k:Nat) (h:k < 4):pyItem (.list (bitsP m)) (.int (k:Int))=some (rowP m k):=by
  refine item_L _ k _ ?_ (by simp [bitsP])
  unfold bitsP
  rw [List.getElem?_map,List.getElem?_range h]
  rfl
theorem setsP_get (m:Mat) (k:Nat) (h:k < 4):pyItem (.list (setsP m)) (.int (k:Int))=some (setP m k):=by
  refine item_L _ k _ ?_ (by simp [setsP])
  unfold setsP
  rw [List.getElem?_map,List.getElem?_range h]
  rfl
theorem row_run (m:Mat) (k:Nat) (ch:List Nat) (hc:∀j∈ch,j < 4) (hl:ch.length≤4) (st:St) (h20:st[20]? =some (.froz (rowP m k))) (h18:st[18]? =some (.froz (.list (natsP ch)))):rowE st=some (.int (rowS m k ch),st):=by
  unfold rowE
  refine r_call1 (a:=.list ((ch.map (bI m k)).map .int)) ?_ (pySum_ints _ (by rw [List.length_map];lia) fun x hx=>by
    obtain ⟨j,_,rfl⟩:=List.mem_map.mp hx
    exact bI_abs m k j)
  refine r_comp (ps:=[rowP m k]) (st1:=st) (r_cap1 h20) (r_name h18) rfl ?_
  have:=compV_runM (n:=1) (i:=0) (t:=ttB) (e:=itE (nmE 1) (nmE 0)) (ps:=[rowP m k]) (l:=ch) (fun (j:Nat)=>PV.int j) (fun _=>true) (fun j=>.int (bI m k j)) (by lia) (fun j hj=>⟨rfl,fun _=>r_two (r_name rfl) (r_name rfl) (rowP_get m k j (hc j hj))⟩)
  rw [filter_tt] at this
  rw [List.map_map]
  exact this
theorem one_run (m:Mat) (j:Nat) (hj:j < 4) (ch:List Nat) (hc:∀j∈ch,j < 4) (hl:ch.length≤4) (st:St) (h0:st[0]? =some (.froz (.int (j:Int)))) (h1:st[1]? =some (.froz (.list (bitsP m)))) (h2:st[2]? =some (.froz (.list (natsP ch)))):oneE st=some (.int (onesN m ch j),st):=by
  unfold oneE
  refine r_call1 (a:=.list ((ch.map fun k=>bI m k j).map .int)) ?_ (pySum_ints _ (by rw [List.length_map];lia) fun x hx=>by
    obtain ⟨k,_,rfl⟩:=List.mem_map.mp hx
    exact bI_abs m k j)
  refine r_comp (ps:=[.list (bitsP m),.int (j:Int)]) (st1:=st) (by simp only [capF,bindE,r_name h0,r_name h1,pureE]) (r_name h2) rfl ?_
  have:=compV_runM (n:=1) (i:=0) (t:=ttB) (e:=itE (itE (nmE 1) (nmE 0)) (nmE 2)) (ps:=[.list (bitsP m),.int (j:Int)]) (l:=ch) (fun (j:Nat)=>PV.int j) (fun _=>true) (fun k=>.int (bI m k j)) (by lia) (fun k hk=>⟨rfl,fun _=>r_two (r_two (r_name rfl) (r_name rfl) (bitsP_get m k (hc k hk))) (r_name rfl) (rowP_get m k j hj)⟩)
  rw [filter_tt] at this
  rw [List.map_map]
  exact this
theorem ones_run (m:Mat) (ch:List Nat) (hc:∀j∈ch,j < 4) (hl:ch.length≤4) (st:St) (h7:st[7]? =some (.froz (.list (bitsP m)))) (h18:st[18]? =some (.froz (.list (natsP ch)))):onesE st=some (.list (((List.range 4).map (onesN m ch)).map .int),st):=by
  unfold onesE
  refine r_comp (ps:=[.list (bitsP m),.list (natsP ch)]) (st1:=st) (a:=.range 0 ((4:Nat):Int) 1) (by simp only [capF,bindE,r_name h7,r_name h18,pureE]) rfl (items_range 4 (by decide)) ?_
  have:=compV_runM (n:=1) (i:=0) (t:=ttB) (e:=oneE) (ps:=[.list (bitsP m),.list (natsP ch)]) (l:=List.range 4) (fun (j:Nat)=>PV.int j) (fun _=>true) (fun j=>.int (onesN m ch j)) (by decide) (fun j hj=>⟨rfl,fun _=>one_run m j (List.mem_range.mp hj) ch hc hl _ rfl rfl rfl⟩)
  rw [filter_tt] at this
  rw [List.map_map]
  exact this
theorem en_run (m:Mat) (ch:List Nat) (hl:ch.length≤4) (a:Bool) (st:St) (h15:st[15]? =some (.froz (.bool a))) (h18:st[18]? =some (.froz (.list (natsP ch)))) (h21:st[21]? =some (.froz (.list (((List.range 4).map (onesN m ch)).map .int)))):enE st=some (.bool (a&&enC m ch),st):=by
  unfold enE
  refine r_andV (r_name h15) ?_ rfl
  refine r_bool (r_cmp (r_call1 (a:=.list ((((List.range 4).map (onesN m ch)).filter fun x=>decide (x>0)).map .int)) ?_ (len_L _ ?_)) (r_len h18 (len_L _ ?_)) ((ge_I _ _).trans (congrArg some ?_)))
  · refine r_comp (ps:=[]) (st1:=st) rfl (r_name h21) rfl ?_
    exact compV_runM (n:=1) (i:=0) (t:=fun st=>cmpF .Gt (nmE 0) (cI 0) st) (e:=nmE 0) (ps:=[]) (l:=(List.range 4).map (onesN m ch)) PV.int (fun x=>decide (x>0)) PV.int (by simp) (fun x hx=>⟨r_cmp (r_name rfl) r_const (gt_I _ _),fun _=>r_name rfl⟩)
  · rw [List.length_map]
    have:=List.length_filter_le (fun x=>decide (x>0)) ((List.range 4).map (onesN m ch))
    rw [List.length_map,List.length_range] at this
    lia
  · rw [List.length_map];lia
  · unfold enC
    rw [List.length_map,List.length_map,Bool.eq_iff_iff,decide_eq_true_eq,decide_eq_true_eq]
    lia
theorem od_run (m:Mat) (ch:List Nat) (a:Bool) (st:St) (h16:st[16]? =some (.froz (.bool a))) (h21:st[21]? =some (.froz (.list (((List.range 4).map (onesN m ch)).map .int)))):odE st=some (.bool (a&&odC m ch),st):=by
  unfold odE
  refine r_andV (r_name h16) ?_ rfl
  refine r_bool (r_cmp (a:=.list ((((List.range 4).map (onesN m ch)).filter fun x=>x.fmod 2==1).map .int)) ?_ rfl (ints_ne _))
  refine r_comp (ps:=[]) (st1:=st) rfl (r_name h21) rfl ?_
  exact compV_runM (n:=1) (i:=0) (t:=fun st=>cmpF .Eq (bn .Mod (nmE 0) (cI 2)) (cI 1) st) (e:=nmE 0) (ps:=[]) (l:=(List.range 4).map (onesN m ch)) PV.int (fun x=>x.fmod 2==1) PV.int (by simp) (fun x hx=>⟨r_cmp (r_bin (r_name rfl) r_const (bin_mod _ _ (by decide))) r_const (eq_I _ _),fun _=>r_name rfl⟩)
theorem rowS_abs (m:Mat) (k:Nat) (ch:List Nat) (hl:ch.length≤4):(rowS m k ch).natAbs≤4:=by
  have:∀ch:List Nat,0≤rowS m k ch∧rowS m k ch≤ch.length:=by
    intro ch
    induction ch with
    | nil=>exact ⟨Int.le_refl 0,Int.le_refl 0⟩
    | cons j ch ih=>
      unfold rowS at ih ⊢
      rw [List.map_cons,List.sum_cons,List.length_cons]
      have hb:0≤bI m k j∧bI m k j≤1:=by unfold bI;split<;>decide
      lia
  have:=this ch
  lia
theorem prodN_succ (m:Mat) (ch:List Nat) (n:Nat):prodN m ch (n+1)=prodN m ch n * rowS m n ch:=by
  unfold prodN
  rw [List.range_succ,List.foldl_append]
  rfl
theorem prodN_abs (m:Mat) (ch:List Nat) (hl:ch.length≤4):∀n,(prodN m ch n).natAbs≤4 ^ n
  | 0=>by
    show ((-1:Int) ^ ch.length).natAbs≤1
    match ch.length,hl with
    | 0,_ | 1,_ | 2,_ | 3,_ | 4,_=>decide
    | n+5,h=>exact absurd h (by lia)
  | n+1=>by
    rw [prodN_succ,Int.natAbs_mul,Nat.pow_succ]
    exact Nat.mul_le_mul (prodN_abs m ch hl n) (rowS_abs m n ch hl)
theorem pow_m1 (n:Nat) (h:n≤4):binOp .Pow (.int (-1)) (.int (n:Int))=some (.int ((-1) ^ n)):=by
  show (if 0≤(n:Int)∧(n:Int)≤1000000∧(-1:Int).natAbs < 2 ^ 64 then some (PV.int ((-1) ^ (n:Int).toNat)) else none)=_
  rw [if_pos ⟨by lia,by lia,by decide⟩,Int.toNat_natCast]
noncomputable def ChoiceJ (m:Mat) (c:Nat) (due:Int) (en od:Bool) (b0 b1 b2 b3 b4 b5 b6 b8 b9 b10 b11 b12 b13:Bind) (s:St):Prop:=∃b18 b19 b20 b21:Bind,s=[b0,b1,b2,b3,b4,b5,b6,.froz (.list (bitsP m)),b8,b9,b10,b11,b12,b13,.froz (.int (due+prodN m (chosenN c) 4)),.froz (.bool (en&&enC m (chosenN c))),.froz (.bool (od&&odC m (chosenN c))),.froz (.int ((c:Nat))),b18,b19,b20,b21]
set_option maxHeartbeats 4000000 in
theorem choice_run (m:Mat) (c:Nat) (due:Int) (en od:Bool) (b0 b1 b2 b3 b4 b5 b6 b7 b8 b9 b10 b11 b12 b13 b18 b19 b20 b21:Bind) (h7:b7=.own (bitsP m)∨b7=.froz (.list (bitsP m))):
    Nxt (ChoiceJ m c due en od b0 b1 b2 b3 b4 b5 b6 b8 b9 b10 b11 b12 b13) (choiceBody [b0,b1,b2,b3,b4,b5,b6,b7,b8,b9,b10,b11,b12,b13,.froz (.int (due)),.froz (.bool (en)),.froz (.bool (od)),.froz (.int ((c:Nat))),b18,b19,b20,b21]):=by
  unfold choiceBody
  have hcl:=chosen_len c
  have hlt:∀j∈chosenN c,j < 4:=fun j h=>chosen_lt h
  refine pseq (st1:=[b0,b1,b2,b3,b4,b5,b6,b7,b8,b9,b10,b11,b12,b13,.froz (.int (due)),.froz (.bool (en)),.froz (.bool (od)),.froz (.int ((c:Nat))),.froz (.list ((chosenN c).map fun (k:Nat)=>.int k)),b19,b20,b21]) (r_set (chosen_run c _ rfl) rfl) ?_
  have hlen:=len_L ((chosenN c).map fun (k:Nat)=>.int k) (by rw [List.length_map];lia)
  rw [List.length_map] at hlen
  refine pseq (st1:=[b0,b1,b2,b3,b4,b5,b6,b7,b8,b9,b10,b11,b12,b13,.froz (.int (due)),.froz (.bool (en)),.froz (.bool (od)),.froz (.int ((c:Nat))),.froz (.list ((chosenN c).map fun (k:Nat)=>.int k)),.froz (.int (prodN m (chosenN c) 0)),b20,b21]) (r_set (r_bin (a:=.int (-1)) rfl (r_len rfl hlen) (pow_m1 _ hcl)) rfl) ?_
  have hget:getV 7 [b0,b1,b2,b3,b4,b5,b6,b7,b8,b9,b10,b11,b12,b13,.froz (.int (due)),.froz (.bool (en)),.froz (.bool (od)),.froz (.int ((c:Nat))),.froz (.list ((chosenN c).map fun (k:Nat)=>.int k)),.froz (.int (prodN m (chosenN c) 0)),b20,b21]=some (.list (bitsP m),[b0,b1,b2,b3,b4,b5,b6,.froz (.list (bitsP m)),b8,b9,b10,b11,b12,b13,.froz (.int (due)),.froz (.bool (en)),.froz (.bool (od)),.froz (.int ((c:Nat))),.froz (.list ((chosenN c).map fun (k:Nat)=>.int k)),.froz (.int (prodN m (chosenN c) 0)),b20,b21]):=by
    rcases h7 with rfl | rfl<;>rfl
  refine pfor (p:=.list (bitsP m)) (xs:=bitsP m) (b0:=b20) (fun k b=>[b0,b1,b2,b3,b4,b5,b6,.froz (.list (bitsP m)),b8,b9,b10,b11,b12,b13,.froz (.int (due)),.froz (.bool (en)),.froz (.bool (od)),.froz (.int ((c:Nat))),.froz (.list ((chosenN c).map fun (k:Nat)=>.int k)),.froz (.int (prodN m (chosenN c) k)),b,b21]) (fun _ _ _=>rfl) hget rfl rfl ?_ ?_
  · intro k p hp
    obtain ⟨hk,rfl⟩:k < 4∧p=rowP m k:=by
      unfold bitsP at hp
      rw [List.getElem?_map,Option.map_eq_some_iff] at hp
      obtain ⟨k',hk',rfl⟩:=hp
      obtain ⟨h1,h2⟩:=List.getElem?_eq_some_iff.mp hk'
      rw [List.length_range] at h1
      rw [List.getElem_range] at h2
      subst h2
      exact ⟨h1,rfl⟩
    unfold rowBody
    refine run_seq (r_aug rfl (row_run m k _ hlt hcl _ rfl rfl) (aug_mul _ _ ?_) rfl) ?_
    · have:=prodN_abs m (chosenN c) hcl k
      have h4:4 ^ k≤4 ^ 4:=Nat.pow_le_pow_right (by decide) (by lia)
      exact Nat.lt_of_le_of_lt (Nat.le_trans this h4) (by decide)
    · rw [←prodN_succ]
      rfl
  intro b
  have hbl:(bitsP m).length=4:=by simp [bitsP]
  rw [hbl]
  refine pseq (st1:=[b0,b1,b2,b3,b4,b5,b6,.froz (.list (bitsP m)),b8,b9,b10,b11,b12,b13,.froz (.int (due+prodN m (chosenN c) 4)),.froz (.bool (en)),.froz (.bool (od)),.froz (.int ((c:Nat))),.froz (.list ((chosenN c).map fun (k:Nat)=>.int k)),.froz (.int (prodN m (chosenN c) 4)),b,b21]) (r_aug rfl (r_name rfl) (aug_I _ _) rfl) ?_
  refine pseq (st1:=[b0,b1,b2,b3,b4,b5,b6,.froz (.list (bitsP m)),b8,b9,b10,b11,b12,b13,.froz (.int (due+prodN m (chosenN c) 4)),.froz (.bool (en)),.froz (.bool (od)),.froz (.int ((c:Nat))),.froz (.list ((chosenN c).map fun (k:Nat)=>.int k)),.froz (.int (prodN m (chosenN c) 4)),b,.froz (.list (((List.range 4).map (onesN m (chosenN c))).map .int))]) (r_set (ones_run m _ hlt hcl _ rfl rfl) rfl) ?_
  refine pseq (st1:=[b0,b1,b2,b3,b4,b5,b6,.froz (.list (bitsP m)),b8,b9,b10,b11,b12,b13,.froz (.int (due+prodN m (chosenN c) 4)),.froz (.bool (en&&enC m (chosenN c))),.froz (.bool (od)),.froz (.int ((c:Nat))),.froz (.list ((chosenN c).map fun (k:Nat)=>.int k)),.froz (.int (prodN m (chosenN c) 4)),b,.froz (.list (((List.range 4).map (onesN m (chosenN c))).map .int))]) (r_set (en_run m _ hcl en _ rfl rfl rfl) rfl) ?_
  refine plast (st1:=[b0,b1,b2,b3,b4,b5,b6,.froz (.list (bitsP m)),b8,b9,b10,b11,b12,b13,.froz (.int (due+prodN m (chosenN c) 4)),.froz (.bool (en&&enC m (chosenN c))),.froz (.bool (od&&odC m (chosenN c))),.froz (.int ((c:Nat))),.froz (.list ((chosenN c).map fun (k:Nat)=>.int k)),.froz (.int (prodN m (chosenN c) 4)),b,.froz (.list (((List.range 4).map (onesN m (chosenN c))).map .int))]) (r_set (od_run m _ od _ rfl rfl) rfl) ?_
  exact ⟨_,_,_,_,rfl⟩
end Mine
end
section
open PySem PySem.W PyProof.Rows PySem.SeqAt PySem.Builtin.Str
set_option tactic.hygienic false
namespace Mine
theorem orders_ok:orders4.all (fun o=>o.length==4&&o.all (fun j=>decide (j < 4)))=true:=by decide+kernel
theorem setP_in (m:Mat) (k x:Nat) (hx:x < 4):cmpOp .NotIn (.int (x:Int)) (setP m k)=some (!(m k x)):=by
  unfold setP
  rw [nats_in]
  refine congrArg some (congrArg (!·) ?_)
  rw [Bool.eq_iff_iff,decide_eq_true_eq,List.mem_filter,List.mem_range]
  exact ⟨fun h=>h.2,fun h=>⟨hx,h⟩⟩
theorem told4_run (m:Mat) (st:St) (h10:st[10]? =some (.froz (.list (setsP m)))) (h11:st[11]? =some (.froz (.list (orders4.map fun o=>.list (natsP o))))):toldE st=some (.int ((toldN m:Nat):Int),st):=by
  unfold toldE
  have hol:orders4.length=24:=by rw [orders4_eq];rfl
  refine r_call1 (a:=.list ((orders4.filter (fits m)).map fun o=>.list (natsP o))) ?_ ?_
  · refine r_comp (ps:=[.list (setsP m)]) (st1:=st) (r_cap1 h10) (r_name h11) rfl ?_
    exact compV_runM (n:=1) (i:=0) (t:=fun st=>cmpF .Eq (fun st=>compE [0,1] (cl pyRange (a1 (cI 4))) (compV 1 0 (fun st=>cmpF .NotIn (itE (nmE 1) (nmE 0)) (itE (nmE 2) (nmE 0)) st) (nmE 0)) st) nilE st) (e:=nmE 0) (ps:=[.list (setsP m)]) (l:=orders4) (fun o=>PV.list (natsP o)) (fits m) (fun o=>PV.list (natsP o)) (by rw [hol];decide) (fun o ho=>by
      refine ⟨?_,fun _=>r_name rfl⟩
      have h1:=List.all_eq_true.mp orders_ok o ho
      simp only [Bool.and_eq_true,beq_iff_eq,List.all_eq_true,decide_eq_true_eq] at h1
      obtain ⟨hl,hlt⟩:=h1
      refine r_cmp (a:=.list (natsP ((List.range 4).filter fun k=> !(m k (o.getD k 0))))) (b:=.list []) ?_ rfl ((nats_eq0 _).trans (congrArg some ?_))
      · refine r_comp (ps:=[.list (natsP o),.list (setsP m)]) (a:=.range 0 ((4:Nat):Int) 1) rfl rfl (items_range 4 (by decide)) ?_
        exact compV_runM (n:=1) (i:=0) (t:=fun st=>cmpF .NotIn (itE (nmE 1) (nmE 0)) (itE (nmE 2) (nmE 0)) st) (e:=nmE 0) (ps:=[.list (natsP o),.list (setsP m)]) (l:=List.range 4) (fun (j:Nat)=>PV.int j) (fun k=> !(m k (o.getD k 0))) (fun (j:Nat)=>PV.int j) (by decide) (fun k hk=>by
          have hk4:k < 4:=List.mem_range.mp hk
          have hko:o[k]? =some (o.getD k 0):=by
            rw [List.getD_eq_getElem?_getD,List.getElem?_eq_getElem (by lia)]
            rfl
          have hx:o.getD k 0 < 4:=hlt _ (List.mem_of_getElem? hko)
          refine ⟨?_,fun _=>r_name rfl⟩
          refine r_cmp (a:=.int ((o.getD k 0:Nat):Int)) (b:=setP m k) (r_two (r_name rfl) (r_name rfl) (item_L _ k _ ?_ (by rw [List.length_map];lia))) (r_two (r_name rfl) (r_name rfl) (setsP_get m k hk4)) (setP_in m k _ hx)
          rw [List.getElem?_map,hko]
          rfl)
      · unfold fits
        show (List.filter (fun k=> !(m k (o.getD k 0))) [0,1,2,3]).isEmpty=(m 0 (o.getD 0 0)&&(m 1 (o.getD 1 0)&&(m 2 (o.getD 2 0)&&(m 3 (o.getD 3 0)&&true))))
        simp only [List.filter_cons,List.filter_nil]
        cases m 0 (o.getD 0 0)<;>cases m 1 (o.getD 1 0)<;>cases m 2 (o.getD 2 0)<;>cases m 3 (o.getD 3 0)<;>rfl)
  · refine (len_L _ ?_).trans ?_
    · rw [List.length_map]
      have:=List.length_filter_le (fits m) orders4
      lia
    · rw [List.length_map]
      rfl
theorem dueN_succ (m:Mat) (n:Nat):dueN m (n+1)=dueN m n+prodN m (chosenN (n+1)) 4:=by
  unfold dueN
  rw [List.range_succ,List.map_append,List.sum_append]
  simp
theorem enN_succ (m:Mat) (n:Nat):enN m (n+1)=(enN m n&&enC m (chosenN (n+1))):=by
  unfold enN
  rw [List.range_succ,List.all_append]
  simp
theorem odN_succ (m:Mat) (n:Nat):odN m (n+1)=(odN m n&&odC m (chosenN (n+1))):=by
  unfold odN
  rw [List.range_succ,List.all_append]
  simp
theorem three_eq (a:Int) (b c:Bool):cmpOp .Eq (.list [.int a,.bool b,.bool c]) (.list [.int a,.bool b,.bool c])=some true:=by
  show pyEq (.list [.int a,.bool b,.bool c]) (.list [.int a,.bool b,.bool c])=_
  have e:toPy (.list [.int a,.bool b,.bool c])=some (.list [.int a,.bool b,.bool c]):=by
    simp [toPy,toPys]
  unfold pyEq
  rw [e]
  dsimp only
  have hs:shaped (.list [.int a,.bool b,.bool c])=true:=by simp [shaped,PyData.canLay0,PyData.canLayAll0,PyData.depth,PyData.depthAll]
  rw [if_pos ⟨hs,hs⟩]
  · refine congrArg some ?_
    cases b<;>cases c<;>simp [PyData.eqv,PyData.eqvAll]
theorem items_16:itemsOf (.range 1 16 1)=some ((List.range 15).map fun (j:Nat)=>.int ((j+1:Nat):Int)):=by rfl
theorem turns_run (b0 b1 b2 b3 b4 b5 b6 b7 b8 b9 b10 b13 b14 b15 b16 b17 b18 b19 b20 b21:Bind):forF 12 turnBody ((List.range 4).map fun (j:Nat)=>.int j) [b0,b1,b2,b3,b4,b5,b6,b7,b8,b9,b10,.froz (.list [.list []]),b12,b13,b14,b15,b16,b17,b18,b19,b20,b21]=some (.next,[b0,b1,b2,b3,b4,b5,b6,b7,b8,b9,b10,.froz (.list (orders4.map fun o=>.list (natsP o))),.froz (.int (3)),b13,b14,b15,b16,b17,b18,b19,b20,b21]):=by
  kernel_rfl
noncomputable def oO:Bind:=.froz (.list (orders4.map fun o=>.list (natsP o)))
noncomputable def TL (m:Mat) (b0 b1 b2 b3 b4 b5 b6 b7 b8 b9 b11 b12 b13 b14 b15 b16 b17 b18 b19 b20 b21:Bind):St:=[b0,b1,b2,b3,b4,b5,b6,b7,b8,b9,.froz (.list (setsP m)),b11,b12,b13,b14,b15,b16,b17,b18,b19,b20,b21]
theorem t_pos (t:Nat):decide ((t:Int)>0)=decide (0 < t):=by
  rw [Bool.eq_iff_iff,decide_eq_true_eq,decide_eq_true_eq]
  exact Int.natCast_pos
theorem t_odd (t:Nat):((t:Int).fmod 2==1)=(t % 2==1):=by
  rw [Int.fmod_eq_emod_of_nonneg _ (by decide),Bool.eq_iff_iff,beq_iff_eq,beq_iff_eq]
  lia
theorem tail_end (m:Mat) (t:Nat) {b0 b1 b2 b3 b4 b5 b6 b7 b8 b9 b17 b18 b19 b20 b21:Bind}:Ret (fun p=>p=.bool true) (seqF (fun st=>bindE (cmE .Eq (cl mkL (a3 (nmE 13) (cmE .Gt (nmE 13) (cI 0)) (cmE .Eq (bn .Mod (nmE 13) (cI 2)) (cI 1)))) (cl mkL (a3 (nmE 14) (nmE 15) (nmE 16)))) (fun p=>pureE (Fl.ret p)) st) nx0 (TL m b0 b1 b2 b3 b4 b5 b6 b7 b8 b9 oO (.froz (.int 3)) (.froz (.int (t:Int))) (.froz (.int (t:Int))) (.froz (.bool (decide (0 < t)))) (.froz (.bool (t % 2==1))) b17 b18 b19 b20 b21)):=by
  refine pret (st1:=(TL m b0 b1 b2 b3 b4 b5 b6 b7 b8 b9 oO (.froz (.int 3)) (.froz (.int (t:Int))) (.froz (.int (t:Int))) (.froz (.bool (decide (0 < t)))) (.froz (.bool (t % 2==1))) b17 b18 b19 b20 b21)) (p:=.bool true) ?_ rfl
  refine r_bool (r_cmp (st1:=(TL m b0 b1 b2 b3 b4 b5 b6 b7 b8 b9 oO (.froz (.int 3)) (.froz (.int (t:Int))) (.froz (.int (t:Int))) (.froz (.bool (decide (0 < t)))) (.froz (.bool (t % 2==1))) b17 b18 b19 b20 b21)) (a:=.list [.int (t:Int),.bool (decide (0 < t)),.bool (t % 2==1)]) ?_ rfl (three_eq ..))
  rw [←t_pos,←t_odd]
  refine run_bind (a:=[.int (t:Int),.bool (decide ((t:Int)>0)),.bool ((t:Int).fmod 2==1)]) ?_ rfl
  refine run_bind (r_name rfl) (run_bind ?_ rfl)
  refine run_bind (r_bool (r_cmp (r_name rfl) r_const (gt_I _ _))) (run_bind ?_ rfl)
  exact run_bind (r_bool (r_cmp (r_bin (r_name rfl) r_const (bin_mod _ _ (by decide))) r_const (eq_I _ _))) rfl
set_option maxHeartbeats 4000000 in
theorem tail_run (m:Mat) (b0 b1 b2 b3 b4 b5 b6 b7 b8 b9 b11 b12 b13 b14 b15 b16 b17 b18 b19 b20 b21:Bind) (h7:b7=.own (bitsP m)∨b7=.froz (.list (bitsP m))):Ret (fun p=>p=.bool true) (tailS (TL m b0 b1 b2 b3 b4 b5 b6 b7 b8 b9 b11 b12 b13 b14 b15 b16 b17 b18 b19 b20 b21)):=by
  unfold tailS
  have hsl:pyLen [.list (setsP m)]=some (.int 4):=rfl
  refine pseq (st1:=(TL m b0 b1 b2 b3 b4 b5 b6 b7 b8 b9 b11 b12 b13 b14 b15 b16 b17 b18 b19 b20 b21)) ?_ ?_
  · refine r_ifF (r_cmp (r_len rfl hsl) r_const (ne_I _ _)) rfl
  refine pseq (st1:=(TL m b0 b1 b2 b3 b4 b5 b6 b7 b8 b9 (.froz (.list [.list []])) b12 b13 b14 b15 b16 b17 b18 b19 b20 b21)) rfl ?_
  refine pseq (st1:=(TL m b0 b1 b2 b3 b4 b5 b6 b7 b8 b9 oO (.froz (.int (3))) b13 b14 b15 b16 b17 b18 b19 b20 b21)) ?_ ?_
  · exact run_bind (a:=.range 0 ((4:Nat):Int) 1) rfl (run_bind (run_lift (items_range 4 (by decide))) (turns_run ..))
  refine pseq (st1:=(TL m b0 b1 b2 b3 b4 b5 b6 b7 b8 b9 oO (.froz (.int (3))) (.froz (.int ((toldN m:Nat)))) b14 b15 b16 b17 b18 b19 b20 b21)) (r_set (told4_run m _ rfl rfl) rfl) ?_
  refine pseq (st1:=(TL m b0 b1 b2 b3 b4 b5 b6 b7 b8 b9 oO (.froz (.int (3))) (.froz (.int ((toldN m:Nat)))) (.froz (.int (dueN m 0))) (.froz (.bool (enN m 0))) (.froz (.bool (odN m 0))) b17 b18 b19 b20 b21)) rfl ?_
  refine pforI (p:=.range 1 16 1) (xs:=(List.range 15).map fun (j:Nat)=>.int ((j+1:Nat):Int)) (fun k st=>∃b7 b17 b18 b19 b20 b21:Bind,(b7=.own (bitsP m)∨b7=.froz (.list (bitsP m)))∧st=(TL m b0 b1 b2 b3 b4 b5 b6 b7 b8 b9 oO (.froz (.int (3))) (.froz (.int ((toldN m:Nat)))) (.froz (.int (dueN m k))) (.froz (.bool (enN m k))) (.froz (.bool (odN m k))) b17 b18 b19 b20 b21)) rfl items_16 ⟨_,_,_,_,_,_,h7,rfl⟩ ?_ ?_
  · rintro k p st hp ⟨c7,c17,c18,c19,c20,c21,hc7,rfl⟩
    obtain ⟨hk,rfl⟩:k < 15∧p=.int ((k+1:Nat):Int):=by
      rw [List.getElem?_map,Option.map_eq_some_iff] at hp
      obtain ⟨k',hk',rfl⟩:=hp
      obtain ⟨h1,h2⟩:=List.getElem?_eq_some_iff.mp hk'
      rw [List.length_range] at h1
      rw [List.getElem_range] at h2
      subst h2
      exact ⟨h1,rfl⟩
    obtain ⟨s2,e,c18',c19',c20',c21',rfl⟩:=choice_run m (k+1) (dueN m k) (enN m k) (odN m k) b0 b1 b2 b3 b4 b5 b6 c7 b8 b9 (.froz (.list (setsP m))) (.froz (.list (orders4.map fun o=>.list (natsP o)))) (.froz (.int (3))) (.froz (.int ((toldN m:Nat)))) c18 c19 c20 c21 hc7
    refine ⟨_,e,_,.froz (.int ((k+1:Nat):Int)),c18',c19',c20',c21',.inr rfl,?_⟩
    rw [dueN_succ,enN_succ,odN_succ]
    rfl
  · rintro st2 ⟨c7,c17,c18,c19,c20,c21,hc7,rfl⟩
    obtain ⟨l1,l2,l3⟩:=law_plain m
    simp only [List.length_map,List.length_range]
    rw [←l1,←l2,←l3]
    exact tail_end m (toldN m)
end Mine
end
section
open PySem PySem.W PyProof.Rows PySem.SeqAt PySem.Builtin.Str
set_option tactic.hygienic false
namespace Mine
theorem told_mem {octs:List Int} {bs n c:Nat} (h:c∈toldO octs bs n):bs≤c∧c < bs+n:=by
  unfold toldO at h
  obtain ⟨p,hp,rfl⟩:=List.mem_map.mp h
  have:=List.mem_range.mp (List.mem_filter.mp hp).1
  lia
theorem told_len (octs:List Int) (bs n:Nat):(toldO octs bs n).length≤n:=by
  unfold toldO
  rw [List.length_map]
  have:=List.length_filter_le (fun p=>bitO octs p != barO octs) (List.range n)
  rw [List.length_range] at this
  exact this
theorem parts_of {brs:List (Bool×List Nat×List Nat)} {qs:List (List Nat)} (h:Parts brs qs) (hb:∀x∈brs,BrOK x):∃parts:List (Bool×List Nat×List Nat),(parts.map fun x=>(x.1,x.2.1))=(brs.map fun x=>(x.1,x.2.1))∧(parts.map fun x=>x.2.2)=qs∧∀x∈parts,PK x.1 x.2.1 x.2.2:=by
  induction h with
  | nil=>exact ⟨[],rfl,rfl,fun _ h=>nomatch h⟩
  | @cons xs qs x q hq _ ih=>
    obtain ⟨parts,h1,h2,h3⟩:=ih fun y hy=>hb y (List.mem_cons_of_mem _ hy)
    have hx:=hb x List.mem_cons_self
    exact ⟨(x.1,x.2.1,q)::parts,congrArg ((x.1,x.2.1)::·) h1,congrArg (q::·) h2,fun y hy=>(List.mem_cons.mp hy).elim (fun e=>e ▸ PK_of hq hx.lo hx.len) (h3 y)⟩
theorem setOf_bits (octs:List Int) (bs:Nat) (pls ss:List Nat) (f:Nat→Bool) (hs:∀j,j < 4→ss.getD j 0=bs+pls.getD j 0) (hf:∀j,j < 4→f j=bitN octs (pls.getD j 0)):setOf (barO octs) (toldO octs bs (8 * octs.length)) ss=(List.range 4).filter f:=by
  unfold setOf
  refine List.filter_congr fun j hj=>?_
  have hj4:=List.mem_range.mp hj
  rw [hs j hj4,told_bit,hf j hj4]
noncomputable def kTT:EvB:=pureE true
noncomputable def lMod:EvE:=kBin .Mod (kBin .Add (kN 0) (kN 1)) (kBin .Pow (kI 10) (kI 9))
noncomputable def kB2 (m:PV→PV→Option PV) (f g:EvE):EvE:=bindE f fun a=>bindE g fun b=>liftE (m a b)
noncomputable def kAc (f:EvE) (g:St→Option (List PV×St)):St→Option (List PV×St):=bindE f fun a=>bindE g fun as=>pureE (a::as)
noncomputable def lCat:EvE:=kB2 catL (kSl (kN 0) kNo (kAs (kI 4))) (kB2 repL (kF mkL (kA1 (kI 0))) (kI 4))
noncomputable def lNums:EvS:=bindE (capF []) fun ps=>bindE (srcZ (kAc lCat (kA1 (kF mkL (kAc (kI 90767490) (kAc (kI 147328) (kA2 (kI 172034) (kI 65666)))))))) fun xs=>bindE (liftE (packL (compZF 0 1 lMod xs (List.replicate 2 Bind.none++ps.map .froz)))) fun p=>setV 2 p
noncomputable def lRest:EvS:=dSet 3 (kF pySum (kA1 (compE [] (kN 2) (compV 1 0 kTT (kBin .FloorDiv (kN 0) (kI 196608))))))
noncomputable def lBase:EvS:=dSet 4 (kIt (kF mkT (kAc (kI 97) (kAc (kI 80) (kA2 (kI 34) (kI 110))))) (kBin .Mod (kBin .FloorDiv (kN 3) (kI 625)) (kI 4)))
noncomputable def lPlace:EvE:=kBin .Add (kBin .Mult (kI 5) (kN 0)) (kBin .Mod (kBin .FloorDiv (kN 1) (kBin .Pow (kI 5) (kN 0))) (kI 5))
noncomputable def lPl:EvS:=dSet 5 (compE [3] (kF pyRange (kA1 (kI 4))) (compV 1 0 kTT lPlace))
noncomputable def lTup:EvS:=tupF [6,7] (kV (kS []) (kEl (pureE [])))
noncomputable def lByte (f:EvE):EvE:=kBin .Mod f (kI 256)
noncomputable def lOct:EvS:=dSet 8 (kSl (kF mkL (kA2 (lByte (kN 1)) (lByte (kBin .FloorDiv (kN 1) (kI 256))))) kNo (kAs (kBin .Mod (kBin .FloorDiv (kN 1) (kI 65536)) (kI 3))))
noncomputable def lBit:EvE:=kBin .Mod (kBin .FloorDiv (kN 1) (kBin .Pow (kI 2) (kN 0))) (kI 2)
noncomputable def lTurn (mB mN:List PV→Option PV):EvS:=seqF lOct (seqF (augF 6 .Add (kF mB (kA2 (kN 8) (kN 4)))) (seqF (dSet 9 (kF mN (kA1 (kN 8)))) (seqF (appF 7 (compE [9] (kN 5) (compV 1 0 kTT lBit))) dNil)))
noncomputable def lSgn:EvE:=compE [4] (kN 5) (compV 1 0 kTT (kF pyChr (kA1 (kBin .Add (kN 1) (kN 0)))))
noncomputable def lSets (mS mT:List PV→Option PV):EvS:=dSet 10 (kF mS (kA2 (kF mT (kA1 (kN 6))) lSgn))
noncomputable def lAll (mB mN mS mT:List PV→Option PV):EvS:=seqF lNums (seqF lRest (seqF lBase (seqF lPl (seqF lTup (seqF (dFor 1 (kN 2) (lTurn mB mN)) (seqF (lSets mS mT) tailS))))))
theorem lw_code {X:Cx} {d:Nat} {cd:Value} {ql:PySem.Str} (G:Glo X) {fBracket:Addr} {mBracket:List PV→Option PV} (hBracket:CallW X d fBracket mBracket) (gBracket:X.mg "_law_bracket"=some (.ref fBracket)) (oBracket:∃o fd,X.B.get? fBracket=some o∧o.data=.func fd) {fNumber:Addr} {mNumber:List PV→Option PV} (hNumber:CallW X d fNumber mNumber) (gNumber:X.mg "_law_number"=some (.ref fNumber)) (oNumber:∃o fd,X.B.get? fNumber=some o∧o.data=.func fd) {fSets:Addr} {mSets:List PV→Option PV} (hSets:CallW X d fSets mSets) (gSets:X.mg "_law_sets"=some (.ref fSets)) (oSets:∃o fd,X.B.get? fSets=some o∧o.data=.func fd) {fTranslate:Addr} {mTranslate:List PV→Option PV} (hTranslate:CallW X d fTranslate mTranslate) (gTranslate:X.mg "translate"=some (.ref fTranslate)) (oTranslate:∃o fd,X.B.get? fTranslate=some o∧o.data=.func fd):
    (WLaw.lawS (X:=X) (d:=d) (cd:=cd) (ql:=ql) G hBracket gBracket oBracket hNumber gNumber oNumber hSets gSets oSets hTranslate gTranslate oTranslate).1=lAll mBracket mNumber mSets mTranslate:=by
  unfold WLaw.lawS
  rfl
noncomputable def LS (c b1 b2 b3 b4 b5 b6 b7 b8 b9:Bind):St:=[c,b1,b2,b3,b4,b5,b6,b7,b8,b9,.none,.none,.none,.none,.none,.none,.none,.none,.none,.none,.none,.none]
noncomputable def iL (l:List Int):Bind:=.froz (.list (l.map .int))
noncomputable def nL (l:List Nat):Bind:=.froz (.list (l.map fun (p:Nat)=>.int p))
theorem fdN (x:Nat) {k:Nat} (h:0 < k):(x:Int).fdiv (k:Int)=((x / k:Nat):Int):=Int.fdiv_eq_ediv_of_nonneg _ (Int.ofNat_le.mpr (Nat.zero_le k))
theorem fmN (x:Nat) {k:Nat} (h:0 < k):(x:Int).fmod (k:Int)=((x % k:Nat):Int):=Int.fmod_eq_emod_of_nonneg _ (Int.ofNat_le.mpr (Nat.zero_le k))
theorem compV_all {α:Type} {n i:Nat} {e:EvE} {l:List α} {ps:List PV} (g f:α→PV) (hl:l.length≤16777216) (h:∀x∈l,Ev e ((List.replicate n Bind.none++ps.map Bind.froz).set i (.froz (g x))) (f x)):compV n i kTT e (l.map g) ps=some (.list (l.map f)):=by
  have:=compV_runM (n:=n) (i:=i) (t:=kTT) (e:=e) (ps:=ps) g (fun _=>true) f hl fun x hx=>⟨rfl,fun _=>h x hx⟩
  rwa [filter_tt] at this
section
variable {c b1 b2 b3 b4 b5 b6 b7 b8 b9:Bind} {script:List Int}
theorem l_cat (h:script.length≤1000):Ev lCat (LS (iL script) b1 b2 b3 b4 b5 b6 b7 b8 b9) (.list ((script.take 4++[0,0,0,0]).map .int)):=by
  have hs:=slL (script.map PV.int) none (some ((4:Nat):Int)) (by rw [List.length_map];exact Nat.le_trans h (by decide))
  have e:clipN (some ((4:Nat):Int)) (script.map PV.int).length (script.map PV.int).length - clipN none 0 (script.map PV.int).length=min 4 (script.map PV.int).length:=by rw [clipN_nat];rfl
  rw [e,show clipN none 0 (script.map PV.int).length=0 from rfl,List.drop_zero,List.take_eq_take_min.symm,←List.map_take] at hs
  have hc:=catL_ok ((script.take 4).map PV.int) (List.replicate 4 (PV.int 0)) (Nat.le_trans (Nat.add_le_add_right (by rw [List.length_map];exact List.length_take_le 4 script) 4) (by decide))
  rw [List.map_append]
  exact ev2 (q_Sl (q_N rfl) q_No (q_As q_I rfl) hs) (ev2 (q_F (q_A1 q_I) rfl) q_I rfl) hc
theorem l_mod (x y:Int) (a b:Bind):Ev lMod [.froz (.int x),.froz (.int y)] (.int ((x+y).fmod (10 ^ 9))):=q_Bin (q_Bin (q_N rfl) (q_N rfl) (bin_add _ _)) (q_Bin (c:=.int (10 ^ 9)) q_I q_I rfl) (bin_mod _ _ (by decide))
theorem q_Ac {f:EvE} {g:St→Option (List PV×St)} {st:St} {a:PV} {as:List PV} (h:Ev f st a) (h2:Ev g st as):Ev (kAc f g) st (a::as):=q_Acons h h2
theorem l_nums (h:script.length≤1000):Do lNums (LS (iL script) .none .none .none .none .none .none .none .none .none) (LS (iL script) .none (iL (nums script)) .none .none .none .none .none .none .none):=by
  obtain ⟨st',hz⟩:=compZF_run (ix:=0) (iy:=1) (e:=lMod) (fun x y:Int=>(x+y).fmod (10 ^ 9)) (script.take 4++[0,0,0,0]) [90767490,147328,172034,65666] [.none,.none] (fun st=>st.length=2) rfl fun x y st hst=>match st,hst with
    | [a,b],_=>⟨l_mod x y a b,rfl⟩
  have h2:packL (compZF 0 1 lMod (((script.take 4++[0,0,0,0]).map PV.int).zipWith prOf ([90767490,147328,172034,65666].map PV.int)) [.none,.none])=some (.list ((nums script).map .int)):=
    (congrArg packL hz).trans (if_pos (by rw [List.length_map];exact Nat.le_trans (Nat.le_of_eq (nums_len script)) (by decide)))
  have ha:=q_Ac (l_cat (b1:=.none) (b2:=.none) (b3:=.none) (b4:=.none) (b5:=.none) (b6:=.none) (b7:=.none) (b8:=.none) (b9:=.none) h) (q_A1 (q_F (m:=mkL) (v:=.list ([90767490,147328,172034,65666].map PV.int)) (q_Ac q_I (q_Ac q_I (q_A2 (h:=kN 0) q_I q_I))) rfl))
  exact run_bind (a:=[]) rfl (run_bind (run_bind ha (run_lift rfl)) (run_bind (run_lift h2) rfl))
theorem div_range {x:Int} (h:0≤x∧x < 1000000000):0≤x.fdiv 196608∧x.fdiv 196608 < 5100:=by
  rw [Int.fdiv_eq_ediv_of_nonneg _ (by decide)]
  lia
theorem l_restN (script:List Int):∃n:Nat,restN (nums script)=n∧pySum [.list (((nums script).map fun x=>x.fdiv 196608).map .int)]=some (.int n):=by
  have hr:=fun x hx=>div_range (nums_range script x hx)
  have h0:0≤restN (nums script):=by
    obtain ⟨a,b,c,d,e⟩:=nums4 script
    rw [e] at hr ⊢
    have h1:=(hr a (by simp)).1
    have h2:=(hr b (by simp)).1
    have h3:=(hr c (by simp)).1
    have h4:=(hr d (by simp)).1
    unfold restN
    simp only [List.map_cons,List.map_nil,List.sum_cons,List.sum_nil]
    lia
  obtain ⟨n,hn⟩:=Int.eq_ofNat_of_zero_le h0
  refine ⟨n,hn,hn ▸ pySum_ints _ (by rw [List.length_map,nums_len];decide) fun z hz=>?_⟩
  obtain ⟨x,hx,rfl⟩:=List.mem_map.mp hz
  have:=hr x hx
  lia
theorem l_rest {n:Nat} (h:pySum [.list (((nums script).map fun x=>x.fdiv 196608).map .int)]=some (.int n)):Do lRest (LS c b1 (iL (nums script)) b3 b4 b5 b6 b7 b8 b9) (LS c b1 (iL (nums script)) (fN n) b4 b5 b6 b7 b8 b9):=by
  rw [List.map_map] at h
  exact D_set (q_F (q_A1 (r_comp (ps:=[]) rfl (r_name rfl) rfl (compV_all (l:=nums script) PV.int (fun x=>.int (x.fdiv 196608)) (Nat.le_trans (Nat.le_of_eq (nums_len script)) (by decide)) fun x _=>q_Bin (q_N rfl) q_I (bin_fd _ _ (by decide))))) h) rfl
theorem l_bases (i:Nat) (h:i < 4):∃bs:Nat,pyItem (.tuple [.int 97,.int 80,.int 34,.int 110]) (.int (i:Int))=some (.int (bs:Int))∧34≤bs∧bs≤110:=match i,h with
  | 0,_=>⟨97,rfl,by decide⟩
  | 1,_=>⟨80,rfl,by decide⟩
  | 2,_=>⟨34,rfl,by decide⟩
  | 3,_=>⟨110,rfl,by decide⟩
theorem q_fd {f:EvE} {st:St} {x k:Nat} (h:Ev f st (.int (x:Int))) (hk:0 < k) (hb:k < 1073741824):Ev (kBin .FloorDiv f (kI (k:Int))) st (.int ((x / k:Nat):Int)):=
  q_Bin h q_I ((bin_fd _ _ ⟨Int.ofNat_ne_zero.mpr (Nat.ne_of_gt hk),hb⟩).trans (congrArg (fun z=>some (PV.int z)) (fdN x hk)))
theorem q_fm {f:EvE} {st:St} {x k:Nat} (h:Ev f st (.int (x:Int))) (hk:0 < k):Ev (kBin .Mod f (kI (k:Int))) st (.int ((x % k:Nat):Int)):=
  q_Bin h q_I ((bin_mod _ _ (Int.ofNat_ne_zero.mpr (Nat.ne_of_gt hk))).trans (congrArg (fun z=>some (PV.int z)) (fmN x hk)))
theorem l_base (n:Nat):∃bs:Nat,(34≤bs∧bs≤110)∧∀{c b1 b2 b4 b5 b6 b7 b8 b9:Bind},Do lBase (LS c b1 b2 (fN n) b4 b5 b6 b7 b8 b9) (LS c b1 b2 (fN n) (fN bs) b5 b6 b7 b8 b9):=by
  obtain ⟨bs,h1,h2⟩:=l_bases (n / 625 % 4) (Nat.mod_lt _ (by decide))
  exact ⟨bs,h2,D_set (q_It (q_F (q_Ac q_I (q_Ac q_I (q_A2 (h:=kN 0) q_I q_I))) rfl) (q_fm (k:=4) (q_fd (k:=625) (q_N rfl) (by decide) (by decide)) (by decide)) h1) rfl⟩
theorem pow5_run (j:Nat) (h:j < 4):binOp .Pow (.int 5) (.int (j:Int))=some (.int ((5 ^ j:Nat):Int)):=match j,h with
  | 0,_=>rfl
  | 1,_=>rfl
  | 2,_=>rfl
  | 3,_=>rfl
theorem l_place {n j:Nat} (h:j < 4):Ev lPlace [.froz (.int (j:Int)),fN n] (.int (plN n j:Nat)):=
  have hp:=pow5 j h
  q_Bin (a:=.int ((5 * j:Nat):Int)) (q_Bin q_I (q_N rfl) (bin_mul5 j)) (q_fm (k:=5) (q_Bin (q_N rfl) (q_Bin q_I (q_N rfl) (pow5_run j h)) ((bin_fd _ _ ⟨Int.ofNat_ne_zero.mpr (Nat.ne_of_gt hp.1),Nat.lt_of_le_of_lt hp.2 (by decide)⟩).trans (congrArg (fun z=>some (PV.int z)) (fdN n hp.1)))) (by decide)) (fN_add _ _)
noncomputable def plsN (n:Nat):List Nat:=(List.range 4).map (plN n)
theorem l_pl {n:Nat}:Do lPl (LS c b1 b2 (fN n) b4 b5 b6 b7 b8 b9) (LS c b1 b2 (fN n) b4 (nL (plsN n)) b6 b7 b8 b9):=by
  have h:=compV_all (n:=1) (i:=0) (e:=lPlace) (ps:=[.int (n:Int)]) (l:=List.range 4) (fun (j:Nat)=>PV.int j) (fun j=>.int (plN n j:Nat)) (by decide) fun j hj=>l_place (List.mem_range.mp hj)
  have e:(PV.list ((List.range 4).map fun j=>.int (plN n j:Nat)))=.list ((plsN n).map fun (p:Nat)=>.int p):=by unfold plsN;rw [List.map_map];rfl
  exact D_set (r_comp (ps:=[.int (n:Int)]) (a:=.range 0 ((4:Nat):Int) 1) (r_cap1 rfl) rfl (items_range 4 (by decide)) (e ▸ h)) rfl
theorem pls_lt {n p:Nat} (h:p∈plsN n):p < 20:=by
  obtain ⟨j,hj,rfl⟩:=List.mem_map.mp h
  have:=List.mem_range.mp hj
  unfold plN
  lia
theorem q_byte {f:EvE} {st:St} {x:Int} (h:Ev f st (.int x)):Ev (lByte f) st (.int (x.fmod 256)):=q_Bin h q_I (bin_mod _ _ (by decide))
theorem l_oct {x:Int}:Do lOct (LS c (.froz (.int x)) b2 b3 b4 b5 b6 b7 b8 b9) (LS c (.froz (.int x)) b2 b3 b4 b5 b6 b7 (iL (octI x)) b9):=
  D_set (q_Sl (q_F (q_A2 (h:=kN 0) (q_byte (q_N rfl)) (q_byte (q_Bin (q_N rfl) q_I (bin_fd _ _ (by decide))))) rfl) q_No (q_As (q_Bin (q_Bin (q_N rfl) q_I (bin_fd _ _ (by decide))) q_I (bin_mod _ _ (by decide))) rfl) (octI_slice x)) rfl
noncomputable def rowI (pls:List Nat) (x:Int):PV:=.list (pls.map fun p=>.int (if bitN (octI x) p=true then 1 else 0))
theorem l_bits {x:Int} {pls:List Nat} {xs:List PV} (hp:∀p∈pls,p < 20) (hl:pls.length≤4) (hx:xs.length≤100):Do (appF 7 (compE [9] (kN 5) (compV 1 0 kTT lBit))) (LS c b1 b2 b3 b4 (nL pls) b6 (.own xs) b8 (.froz (.int (numO (octI x))))) (LS c b1 b2 b3 b4 (nL pls) b6 (.own (xs++[rowI pls x])) b8 (.froz (.int (numO (octI x))))):=
  D_app (r_comp (ps:=[.int (numO (octI x))]) (r_cap1 rfl) (r_name rfl) rfl (compV_all (l:=pls) (fun (p:Nat)=>PV.int p) (fun p=>.int (if bitN (octI x) p=true then 1 else 0)) (Nat.le_trans hl (by decide)) fun p h=>
    q_Bin (q_Bin (q_N rfl) (q_Bin q_I (q_N rfl) (pow2_run p (hp p h))) (bin_fd _ _ (pow2_ok p (hp p h)))) q_I ((bin_mod _ _ (by decide)).trans (congrArg (fun z=>some (PV.int z)) (num_bit (octI x) (octI_len x) (octI_range x) p (hp p h)))))) rfl (Nat.le_trans hx (by decide)) rfl
end
noncomputable def keyI (bs:Nat) (x:Int):Bool×List Nat:=(barO (octI x),toldO (octI x) bs (8 * (octI x).length))
noncomputable def BrA (mB:List PV→Option PV):Prop:=∀(octs:List Int) (bs:Nat),octs.length≤2→bs≤1000→∃t,mB [.list (octs.map .int),.int (bs:Int)]=some (.str (S t))∧BrText (barO octs) (toldO octs bs (8 * octs.length)) t
noncomputable def NuA (mN:List PV→Option PV):Prop:=∀octs:List Int,octs.length≤2→(∀o∈octs,0≤o∧o < 256)→mN [.list (octs.map .int)]=some (.int (numO octs))
noncomputable def TrA (mT:List PV→Option PV):Prop:=∀brs:List (Bool×List Nat×List Nat),(∀x∈brs,BrOK x)→brs.length≤4→∃qs,mT [.str (S (brsT brs))]=some (.str (S ([40,63,115,58]++qs.flatten++[41,92,90])))∧Parts brs qs
noncomputable def SeA (mS:List PV→Option PV):Prop:=∀{parts:List (Bool×List Nat×List Nat)} {ss:List Nat},(∀x∈parts,PK x.1 x.2.1 x.2.2)→parts.length≤4→ss.length=4→mS [.str (S ([40,63,115,58]++(parts.map fun x=>x.2.2).flatten++[41,92,90])),.list (ss.map C)]=some (.list (parts.map fun x=>pvS (setOf x.1 x.2.1 ss)))
noncomputable def keyB (x:Bool×List Nat×List Nat):Bool×List Nat:=(x.1,x.2.1)
theorem brOK_of {bs:Nat} {x:Int} {t:List Nat} (hb:34≤bs∧bs≤110) (h:BrText (keyI bs x).1 (keyI bs x).2 t):BrOK ((keyI bs x).1,(keyI bs x).2,t):=by
  have hol:=octI_len x
  refine ⟨h,fun c hc=>?_,Nat.le_trans (told_len _ _ _) (Nat.mul_le_mul_left 8 hol)⟩
  have:=told_mem hc
  exact ⟨Nat.le_trans hb.1 this.1,by lia⟩
inductive LMid (c:Bind) (ns:List Int) (b3:Bind) (bs:Nat) (pls:List Nat) (k:Nat):St→Prop
  | mk {brs:List (Bool×List Nat×List Nat)} {b1 b8 b9:Bind} (h:brs.map keyB=(ns.take k).map (keyI bs)) (ok:∀x∈brs,BrOK x):LMid c ns b3 bs pls k (LS c b1 (iL ns) b3 (fN bs) (nL pls) (fS (brsT brs)) (.own ((ns.take k).map (rowI pls))) b8 b9)
set_option tactic.hygienic true in
theorem l_turn {c b3:Bind} {ns:List Int} {bs k:Nat} {pls:List Nat} {x:Int} {st:St} {mB mN:List PV→Option PV} (hB:BrA mB) (hN:NuA mN) (hb:34≤bs∧bs≤110) (hp:∀p∈pls,p < 20) (hpl:pls.length≤4) (hn:ns.length≤4) (hx:ns[k]? =some x) (h:LMid c ns b3 bs pls k st):∃s2,Do (lTurn mB mN) (st.set 1 (.froz (.int x))) s2∧LMid c ns b3 bs pls (k+1) s2:=by
  obtain ⟨hk,ok⟩:=h
  rename_i brs b1 b8 b9
  obtain ⟨t,ht,htx⟩:=hB (octI x) bs (octI_len x) (Nat.le_trans hb.2 (by decide))
  have hok:=brOK_of hb htx
  have hnl:(ns.take k).length≤4:=Nat.le_trans (List.length_take_le' ..) hn
  have hbl:brs.length≤4:=by
    have:=congrArg List.length hk
    rw [List.length_map,List.length_map] at this
    exact this ▸ hnl
  have h1:=Nat.add_le_add (Nat.le_trans (brs_len brs ok) (Nat.mul_le_mul_right 60 hbl)) (br_len hok)
  refine ⟨_,D_seq l_oct (D_seq (D_aug rfl (q_F (q_A2 (h:=kN 0) (q_N rfl) (q_N rfl)) ht) (aug_S _ _ (Nat.le_trans h1 (by decide))) rfl) (D_seq (D_set (q_F (q_A1 (q_N rfl)) (hN (octI x) (octI_len x) (octI_range x))) rfl) (D_one (l_bits hp hpl (by rw [List.length_map];exact Nat.le_trans hnl (by decide)))))),?_⟩
  have htk:ns.take (k+1)=ns.take k++[x]:=by rw [List.take_add_one,hx];rfl
  have e:(ns.take k).map (rowI pls)++[rowI pls x]=(ns.take (k+1)).map (rowI pls):=by rw [htk,List.map_append];rfl
  have e2:brsT brs++t=brsT (brs++[((keyI bs x).1,(keyI bs x).2,t)]):=by unfold brsT;rw [List.flatMap_append,List.flatMap_singleton]
  rw [e,e2]
  exact ⟨by rw [htk,List.map_append,List.map_append,hk];rfl,fun y hy=>(List.mem_append.mp hy).elim (ok y) fun q=>(List.mem_singleton.mp q) ▸ hok⟩
theorem l_sgn {c b1 b2 b3 b6 b7 b8 b9:Bind} {bs:Nat} {pls:List Nat} (hb:bs≤110) (hp:∀p∈pls,p < 20) (hl:pls.length≤4):Ev lSgn (LS c b1 b2 b3 (fN bs) (nL pls) b6 b7 b8 b9) (.list ((pls.map (bs+·)).map C)):=by
  rw [List.map_map]
  exact r_comp (ps:=[.int (bs:Int)]) (r_cap1 rfl) (r_name rfl) rfl (compV_all (l:=pls) (fun (p:Nat)=>PV.int p) (fun p=>C (bs+p)) (Nat.le_trans hl (by decide)) fun p h=>q_F (q_A1 (q_Bin (q_N rfl) (q_N rfl) (bin_add _ _))) (chr_nat bs p (Nat.le_trans (Nat.add_le_add hb (Nat.le_of_lt (hp p h))) (by decide))))
theorem sets_eq {bs n:Nat} {ns:List Int} (hn:ns.length=4):(ns.map fun x=>pvS (setOf (keyI bs x).1 (keyI bs x).2 ((plsN n).map (bs+·))))=setsP (fun k j=>bitN (octI (ns.getD k 0)) ((plsN n).getD j 0)):=by
  have e:∀x:Int,setOf (keyI bs x).1 (keyI bs x).2 ((plsN n).map (bs+·))=(List.range 4).filter fun j=>bitN (octI x) ((plsN n).getD j 0):=fun x=>setOf_bits (octI x) bs (plsN n) _ _ (fun j hj=>match j,hj with
    | 0,_=>rfl
    | 1,_=>rfl
    | 2,_=>rfl
    | 3,_=>rfl) fun _ _=>rfl
  match ns,hn with
  | [a,b,c,d],_=>
    simp only [List.map_cons,List.map_nil,e]
    rfl
theorem bits_eq {n:Nat} {ns:List Int} (hn:ns.length=4):ns.map (rowI (plsN n))=bitsP (fun k j=>bitN (octI (ns.getD k 0)) ((plsN n).getD j 0)):=match ns,hn with
  | [a,b,c,d],_=>rfl
set_option tactic.hygienic true in
theorem lAll_run {mB mN mS mT:List PV→Option PV} (hB:BrA mB) (hN:NuA mN) (hS:SeA mS) (hT:TrA mT) {script:List Int} (hs:script.length≤1000):runF (lAll mB mN mS mT) 22 [.list (script.map .int)]=some (.bool true):=by
  obtain ⟨n,_,hsum⟩:=l_restN script
  obtain ⟨bs,hb,hbase⟩:=l_base n
  have hn4:=nums_len script
  have hp:∀p∈plsN n,p < 20:=fun p h=>pls_lt h
  obtain ⟨st2,hloop,hmid⟩:=D_forI (i:=1) (f:=kN 2) (g:=lTurn mB mN) (LMid (iL script) (nums script) (fN n) bs (plsN n)) (st:=LS (iL script) .none (iL (nums script)) (fN n) (fN bs) (nL (plsN n)) (fS []) (.own []) .none .none) (q_N rfl) rfl (LMid.mk (brs:=[]) rfl fun _ h=>nomatch h) fun k p st hk h=>by
    rw [List.getElem?_map,Option.map_eq_some_iff] at hk
    obtain ⟨x,hx,rfl⟩:=hk
    exact l_turn hB hN hb hp (Nat.le_refl 4) (Nat.le_of_eq hn4) hx h
  rw [List.length_map] at hmid
  obtain ⟨hk,ok⟩:=hmid
  rename_i brs b1 b8 b9
  rw [List.take_length] at hk hloop
  have hbl:brs.length≤4:=by
    have:=congrArg List.length hk
    rw [List.length_map,List.length_map] at this
    exact Nat.le_of_eq (this.trans hn4)
  obtain ⟨qs,hq,hparts⟩:=hT brs ok hbl
  obtain ⟨parts,hp1,hp2,hp3⟩:=parts_of hparts ok
  have hk2:parts.map keyB=(nums script).map (keyI bs):=hp1.trans hk
  have hpn:parts.length≤4:=by
    have:=congrArg List.length hk2
    rw [List.length_map,List.length_map] at this
    exact Nat.le_of_eq (this.trans hn4)
  have hse:=hS (ss:=(plsN n).map (bs+·)) hp3 hpn rfl
  have e1:=congrArg (List.map fun y:Bool×List Nat=>pvS (setOf y.1 y.2 ((plsN n).map (bs+·)))) hk2
  rw [List.map_map,List.map_map] at e1
  rw [hp2,show (parts.map fun x=>pvS (setOf x.1 x.2.1 ((plsN n).map (bs+·))))=_ from e1.trans (sets_eq hn4)] at hse
  rw [bits_eq hn4] at hloop
  obtain ⟨p,st',hr,rfl⟩:=tail_run (fun k j=>bitN (octI ((nums script).getD k 0)) ((plsN n).getD j 0)) (iL script) b1 (iL (nums script)) (fN n) (fN bs) (nL (plsN n)) (fS (brsT brs)) _ b8 b9 .none .none .none .none .none .none .none .none .none .none .none (.inl rfl)
  exact runF_ret ((seq_next (l_nums hs)).trans ((seq_next (l_rest hsum)).trans ((seq_next hbase).trans ((seq_next l_pl).trans ((seq_next (st1:=LS (iL script) .none (iL (nums script)) (fN n) (fN bs) (nL (plsN n)) (fS []) (.own []) .none .none) rfl).trans ((seq_next hloop).trans ((seq_next (D_set (q_F (q_A2 (h:=kN 0) (q_F (q_A1 (q_N rfl)) hq) (l_sgn hb.2 hp (Nat.le_refl 4))) hse) rfl)).trans hr)))))))
end Mine
end
section
open PySem PySem.W PyProof.Rows PySem.SeqAt PySem.Builtin.Str
set_option tactic.hygienic false
namespace Mine
noncomputable def brOne:EvS:=seqF (kIf (kCmp .NotEq (kCV .Eq (kBin .Mod (kBin .FloorDiv (kIt (kN 0) (kBin .FloorDiv (kN 4) (kI 8))) (kBin .Pow (kI 2) (kBin .Mod (kN 4) (kI 8)))) (kI 2)) (kI 1)) (kN 2)) (seqF (appF 3 (kF pyChr (kA1 (kBin .Add (kN 1) (kN 4))))) dNil) dNil) dNil
noncomputable def brTold:EvS:=dFor 4 (kF pyRange (kA1 (kBin .Mult (kI 8) (kLen 0)))) brOne
noncomputable def brTup:EvS:=tupF [5,6,7,8] (kV (kIf (nameT 2) (kS [33]) (kS [])) (kV (kIf (kCmp .Eq (kN 3) (kF mkL (pureE []))) (kS [122,45,121]) (kS [])) (kV (kS []) (kV (kI 0) (pureE [])))))
noncomputable def brSzC:EvB:=andF (kCmp .Lt (kBin .Add (kN 8) (kN 9)) (kLen 3)) (kCmp .Eq (kF pyOrd (kA1 (kOwn 3 (kP2 .Add (getP 8) (getP 9))))) (kBin .Add (kF pyOrd (kA1 (kOwn 3 (getP 8)))) (kN 9)))
noncomputable def brSzB:EvS:=seqF (augF 9 .Add (kI 1)) dNil
noncomputable def brEnd:EvE:=kOwn 3 (kP2 .Sub (kP2 .Add (getP 8) (getP 9)) (fun _=>some (.int 1)))
noncomputable def brSgn (i:Nat) (t:EvB):EvS:=augF i .Add (kIf t (kN 10) (kS []))
noncomputable def brSign:EvS:=seqF (brSgn 5 (kCmp .Eq (kN 10) (kS [93]))) (seqF (brSgn 7 (kCmp .Eq (kN 10) (kS [45]))) (seqF (brSgn 6 (kCmp .NotIn (kN 10) (kS [93,45]))) dNil))
noncomputable def brIf:EvS:=kIf (andF (kCmp .Gt (kN 9) (kI 2)) (andF (kCmp .NotIn (kOwn 3 (getP 8)) (kS [93,45])) (kCmp .NotIn brEnd (kS [93,45]))))
  (seqF (augF 6 .Add (kBin .Add (kBin .Add (kOwn 3 (getP 8)) (kS [45])) brEnd)) dNil)
  (seqF (dFor 10 (kSl (kN 3) (kAs (kN 8)) (kAs (kBin .Add (kN 8) (kN 9)))) brSign) dNil)
noncomputable def brTurn:EvS:=seqF (dSet 9 (kI 1)) (seqF (whileF brSzC brSzB 1000) (seqF brIf (seqF (augF 8 .Add (kN 9)) dNil)))
noncomputable def brRet:EvE:=kBin .Add (kBin .Add (kBin .Add (kBin .Add (kS [91]) (kN 5)) (kN 6)) (kN 7)) (kS [93])
noncomputable def brAll:EvS:=seqF (dSet 2 (bindE (kSl (kN 0) (kAs (ofP fun _=>some (.int (-1)))) kNo) fun a=>bindE (kF mkL (kA1 (kI 127))) fun b=>liftE (gtL a b)))
  (seqF (bindE (pureE []) fun as=>setOwn 3 as) (seqF brTold (seqF brTup (seqF (whileF (kCmp .Lt (kN 8) (kLen 3)) brTurn 1000) (seqF (bindE brRet fun p=>pureE (.ret p)) dNil)))))
theorem br_code {X:Cx} {d:Nat} {cd:Value} {ql:Str} (G:Glo X):(WBracket.bracketS (X:=X) (d:=d) (cd:=cd) (ql:=ql) G).1=brAll:=by
  unfold WBracket.bracketS
  rfl
noncomputable def BS (o:PV) (base:Nat) (bar:Bool) (L:List Nat) (b4:Bind) (fr mid bk:List Nat) (k:Nat) (b9 b10:Bind):St:=[.froz o,.froz (.int base),.froz (.bool bar),.froz (.list (L.map C)),b4,fS fr,fS mid,fS bk,fN k,b9,b10]
section
variable {o:PV} {base:Nat} {bar:Bool} {L:List Nat} {b4:Bind} {fr mid bk:List Nat} {k:Nat} {b9 b10:Bind}
theorem br_szC {s a c:Nat} (hL:L.length≤16) (ha:L[k]? =some a) (hc:L[k+s]? =some c):Ev brSzC (BS o base bar L b4 fr mid bk k (fN s) b10) ((c:Int)==(a:Int)+s):=
  have h:=Nat.le_trans hL (by decide:16≤100000)
  q_AndT (q_Cmp (q_Bin (c:=.int ((k+s:Nat):Int)) (q_N rfl) (q_N rfl) rfl) (q_Len rfl (len_C h)) (lt_T _ _ (List.getElem?_eq_some_iff.mp hc).1))
    (q_Cmp (q_F (q_A1 (q_Own (a:=.int ((k+s:Nat):Int)) rfl rfl (item_C h hc))) (ord_C c)) (q_Bin (q_F (q_A1 (q_Own rfl rfl (item_C h ha))) (ord_C a)) (q_N rfl) rfl) rfl)
theorem br_szF {s:Nat} (hL:L.length≤16) (hc:¬ k+s < L.length):Ev brSzC (BS o base bar L b4 fr mid bk k (fN s) b10) false:=
  q_AndF (q_Cmp (q_Bin (c:=.int ((k+s:Nat):Int)) (q_N rfl) (q_N rfl) rfl) (q_Len rfl (len_C (Nat.le_trans hL (by decide:16≤100000)))) (lt_F _ _ hc))
theorem br_szB {s:Nat}:Do brSzB (BS o base bar L b4 fr mid bk k (fN s) b10) (BS o base bar L b4 fr mid bk k (fN (s+1)) b10):=D_one (D_aug rfl q_I rfl rfl)
noncomputable def Runs (L:List Nat) (k a s:Nat):Prop:=1≤s∧k+s≤L.length∧∀i,i < s→L[k+i]? =some (a+i)
theorem br_sz {a:Nat} (hL:L.length≤16) (ha:L[k]? =some a):∀(n s:Nat),Runs L k a s→L.length < k+s+n→∃s',Runs L k a s'∧Do (whileF brSzC brSzB n) (BS o base bar L b4 fr mid bk k (fN s) b10) (BS o base bar L b4 fr mid bk k (fN s') b10)
  | 0,s,h,hn=>absurd hn (Nat.not_lt.mpr h.2.1)
  | n+1,s,h,hn=>by
    rcases Nat.lt_or_ge (k+s) L.length with hk | hk
    · have hc:L[k+s]? =some L[k+s]:=List.getElem?_eq_getElem hk
      have e:=br_szC (o:=o) (base:=base) (bar:=bar) (b4:=b4) (fr:=fr) (mid:=mid) (bk:=bk) (b10:=b10) hL ha hc
      cases hb:((L[k+s]:Int)==(a:Int)+s) with
      | false=>exact ⟨s,h,D_wF (hb ▸ e)⟩
      | true=>
        obtain ⟨s',h',q⟩:=br_sz hL ha n (s+1) ⟨Nat.le_succ_of_le h.1,hk,fun i hi=>(Nat.lt_succ_iff_lt_or_eq.mp hi).elim (h.2.2 i) fun e=>by rw [e,hc,Int.ofNat.inj (eq_of_beq hb)]⟩ (by lia)
        exact ⟨s',h',D_wT (hb ▸ e) br_szB q⟩
    · exact ⟨s,h,D_wF (br_szF hL (Nat.not_lt.mpr hk))⟩
theorem one_len (b:Bool) (c:Nat):(if b=true then [c] else []).length≤1:=match b with
  | true=>Nat.le_refl 1
  | false=>Nat.zero_le 1
theorem br_sgn {i:Nat} {t:EvB} {st:St} {x:List Nat} {c:Nat} {b:Bool} (hi:st[i]? =some (fS x)) (h10:st[10]? =some (.froz (C c))) (ht:Ev t st b) (hl:x.length≤1000):Do (brSgn i t) st (st.set i (fS (x++if b=true then [c] else []))):=
  D_aug hi (ite_S b c ▸ q_If ht (q_N h10) q_S) (aug_S _ _ (Nat.le_trans (Nat.add_le_add hl (one_len b c)) (by decide))) rfl
theorem br_sign {c:Nat} (h1:fr.length≤1000) (h2:bk.length≤1000) (h3:mid.length≤1000):Do brSign (BS o base bar L b4 fr mid bk k b9 (.froz (C c))) (BS o base bar L b4 (fr++if ([c]==[93])=true then [c] else []) (mid++if (!decide (c∈[93,45]))=true then [c] else []) (bk++if ([c]==[45])=true then [c] else []) k b9 (.froz (C c))):=
  D_seq (br_sgn rfl rfl (q_Cmp (q_N rfl) q_S (eq_S _ _)) h1) (D_seq (br_sgn rfl rfl (q_Cmp (q_N rfl) q_S (eq_S _ _)) h2) (D_one (br_sgn rfl rfl (q_Cmp (q_N rfl) q_S (notIn_S _ _)) h3)))
theorem sg_eq (c x:Nat):(if ([c]==[x])=true then [c] else [])=if c=x then [x] else []:=by
  by_cases h:c=x
  · subst h;rw [if_pos rfl,if_pos (beq_self_eq_true _)]
  · rw [if_neg h,if_neg fun e=>h (List.cons.inj (eq_of_beq e)).1]
theorem sg_in (c:Nat):(if (!decide (c∈[93,45]))=true then [c] else [])=(if c≠93∧c≠45 then [(c,c)] else []).flatMap render:=by
  by_cases h:c≠93∧c≠45
  · rw [if_pos h,if_pos (by simpa using h)];simp [render]
  · rw [if_neg h,if_neg fun e=>h (by simpa using e)];rfl
noncomputable def SgI (o:PV) (base:Nat) (bar:Bool) (L:List Nat) (b4:Bind) (br zy:List Nat) (k s j:Nat) (st:St):Prop:=∃fr bk items b10,st=BS o base bar L b4 (br++fr) (zy++items.flatMap render) bk k (fN s) b10∧Cov fr bk items (L.take (k+j))
theorem Cov.small {items:List (Nat×Nat)} {l:List Nat} (h:Cov fr bk items l) (hl:l.length≤16):fr.length≤1∧bk.length≤1∧(items.flatMap render).length≤48:=
  ⟨h.frOK.elim (fun e=>e ▸ Nat.zero_le 1) fun e=>e ▸ Nat.le_refl 1,h.bkOK.elim (fun e=>e ▸ Nat.zero_le 1) fun e=>e ▸ Nat.le_refl 1,Nat.le_trans (flat_len items) (Nat.mul_le_mul_left 3 (Nat.le_trans h.len hl))⟩
theorem take_le (h:L.length≤16) (n:Nat):(L.take n).length≤16:=Nat.le_trans (List.length_take_le' ..) h
theorem app_le {a b:List Nat} {m n:Nat} (h:a.length≤m) (h2:b.length≤n):(a++b).length≤m+n:=by rw [List.length_append];exact Nat.add_le_add h h2
theorem br_signT {br zy:List Nat} {s j c:Nat} {st:St} (hL:L.length≤16) (hs:L.Pairwise (· < ·)) (hb:br.length≤1) (hz:zy.length≤3) (hc:L[k+j]? =some c) (h:SgI o base bar L b4 br zy k s j st):∃s2,Do brSign (st.set 10 (.froz (C c))) s2∧SgI o base bar L b4 br zy k s (j+1) s2:=by
  obtain ⟨fr,bk,items,b10,rfl,q⟩:=h
  obtain ⟨q1,q2,q3⟩:=q.small (take_le hL _)
  have e:=br_sign (o:=o) (base:=base) (bar:=bar) (L:=L) (b4:=b4) (k:=k) (b9:=fN s) (c:=c) (Nat.le_trans (app_le hb q1) (by decide)) (Nat.le_trans q2 (by decide)) (Nat.le_trans (app_le hz q3) (by decide))
  rw [sg_eq,sg_eq,sg_in,List.append_assoc,List.append_assoc,←List.flatMap_append] at e
  refine ⟨_,e,_,_,_,_,rfl,?_⟩
  have t:=q.sign (get_lt hs hc)
  rw [←Nat.add_assoc,List.take_add_one,hc]
  exact t
set_option tactic.hygienic true in
theorem br_signs {br zy:List Nat} {s a:Nat} (hL:L.length≤16) (hs:L.Pairwise (· < ·)) (hb:br.length≤1) (hz:zy.length≤3) (hr:Runs L k a s) {items:List (Nat×Nat)} (q:Cov fr bk items (L.take k)):
    ∃s2,Do (dFor 10 (kSl (kN 3) (kAs (kN 8)) (kAs (kBin .Add (kN 8) (kN 9)))) brSign) (BS o base bar L b4 (br++fr) (zy++items.flatMap render) bk k (fN s) b10) s2∧SgI o base bar L b4 br zy k s s s2:=by
  have hl:(((L.map C).drop k).take s).length=s:=by rw [List.length_take,List.length_drop,List.length_map];exact Nat.min_eq_left (Nat.le_sub_of_add_le (Nat.add_comm k s ▸ hr.2.1))
  have:=D_forI (i:=10) (f:=kSl (kN 3) (kAs (kN 8)) (kAs (kBin .Add (kN 8) (kN 9)))) (g:=brSign) (SgI o base bar L b4 br zy k s) (q_Sl (st:=BS o base bar L b4 (br++fr) (zy++items.flatMap render) bk k (fN s) b10) (q_N rfl) (q_As (q_N rfl) rfl) (q_As (q_Bin (q_N rfl) (q_N rfl) (bin_add _ _)) rfl)
    (slL_nat (L.map C) k s (by rw [List.length_map];exact hr.2.1) (by rw [List.length_map];exact Nat.le_trans hL (by decide)))) rfl ⟨_,_,_,_,rfl,q⟩ fun j p st hp h=>by
      rw [List.getElem?_take] at hp
      split at hp
      · next hj=>
        have hc:=hr.2.2 j hj
        rw [List.getElem?_drop,List.getElem?_map,hc] at hp
        cases hp
        exact br_signT hL hs hb hz hc h
      · cases hp
  rwa [hl] at this
theorem runs_last {s a:Nat} (hr:Runs L k a s):L[k+s - 1]? =some (a+(s - 1)):=by
  rw [show k+s - 1=k+(s - 1) from Nat.add_sub_assoc hr.1 k]
  exact hr.2.2 _ (Nat.sub_lt hr.1 Nat.one_pos)
theorem sub_one (n m:Nat) (h:1≤m):binOp .Sub (.int ((n+m:Nat):Int)) (.int 1)=some (.int ((n+m - 1:Nat):Int)):=by
  rw [bin_sub]
  exact congrArg (fun z=>some (PV.int z)) (by lia)
theorem gt_two (s:Nat):cmpOp .Gt (.int (s:Int)) (.int 2)=some (decide (2 < s)):=by
  rw [gt_I]
  exact congrArg some (by rw [decide_eq_decide];lia)
theorem q_And {s t:EvB} {st:St} {a b:Bool} (h:Ev s st a) (k:Ev t st b):Ev (andF s t) st (a&&b):=match a,h with
  | true,h=>q_AndT h k
  | false,h=>q_AndF h
theorem br_end {s a:Nat} (hL:L.length≤16) (hr:Runs L k a s):Ev brEnd (BS o base bar L b4 fr mid bk k (fN s) b10) (C (a+(s - 1))):=
  q_Own (a:=.int ((k+s - 1:Nat):Int)) rfl (sub_one k s hr.1) (item_C (Nat.le_trans hL (by decide)) (runs_last hr))
theorem br_first {s a:Nat} (hL:L.length≤16) (hr:Runs L k a s):Ev (kOwn 3 (getP 8)) (BS o base bar L b4 fr mid bk k (fN s) b10) (C a):=
  q_Own rfl rfl (item_C (Nat.le_trans hL (by decide)) (hr.2.2 0 hr.1))
theorem br_cond {s a:Nat} (hL:L.length≤16) (hr:Runs L k a s):Ev (andF (kCmp .Gt (kN 9) (kI 2)) (andF (kCmp .NotIn (kOwn 3 (getP 8)) (kS [93,45])) (kCmp .NotIn brEnd (kS [93,45])))) (BS o base bar L b4 fr mid bk k (fN s) b10) (decide (2 < s)&&(!decide (a∈[93,45])&& !decide (a+(s - 1)∈[93,45]))):=
  q_And (q_Cmp (q_N rfl) q_I (gt_two s)) (q_And (q_Cmp (br_first hL hr) q_S (notIn_S _ _)) (q_Cmp (br_end hL hr) q_S (notIn_S _ _)))
set_option tactic.hygienic true in
theorem runs_mem {s a:Nat} (hr:Runs L k a s) (c:Nat):c∈(L.drop k).take s↔a≤c∧c≤a+(s - 1):=by
  rw [List.mem_iff_getElem?]
  constructor
  · rintro ⟨i,hi⟩
    rw [List.getElem?_take] at hi
    split at hi
    · next h=>
      rw [List.getElem?_drop,hr.2.2 i h] at hi
      cases hi
      exact ⟨Nat.le_add_right _ _,Nat.add_le_add_left (Nat.le_sub_one_of_lt h) a⟩
    · cases hi
  · rintro ⟨g1,g2⟩
    have h0:=hr.1
    refine ⟨c - a,?_⟩
    rw [List.getElem?_take,if_pos (by lia),List.getElem?_drop,hr.2.2 (c - a) (by lia),Nat.add_sub_cancel' g1]
theorem render_two {a b:Nat} (h:a < b):[(a,b)].flatMap render=[a,45,b]:=by
  rw [List.flatMap_singleton,render,if_neg (Nat.ne_of_lt h)]
theorem not_two {a:Nat} (h:(!decide (a∈[93,45]))=true):a≠93∧a≠45:=by simpa using h
theorem br_if {br zy:List Nat} {s a:Nat} (hL:L.length≤16) (hs:L.Pairwise (· < ·)) (hb:br.length≤1) (hz:zy.length≤3) (hr:Runs L k a s) {items:List (Nat×Nat)} (q:Cov fr bk items (L.take k)):
    ∃s2,Do brIf (BS o base bar L b4 (br++fr) (zy++items.flatMap render) bk k (fN s) b10) s2∧SgI o base bar L b4 br zy k s s s2:=by
  have e:=br_cond (o:=o) (base:=base) (bar:=bar) (b4:=b4) (fr:=br++fr) (mid:=zy++items.flatMap render) (bk:=bk) (b10:=b10) hL hr
  cases h:(decide (2 < s)&&(!decide (a∈[93,45])&& !decide (a+(s - 1)∈[93,45]))) with
  | true=>
    rw [h] at e
    obtain ⟨h1,h2⟩:=Bool.and_eq_true_iff.mp h
    obtain ⟨h2,h3⟩:=Bool.and_eq_true_iff.mp h2
    have h2:=not_two h2
    have h3:=not_two h3
    have hlt:a < a+(s - 1):=Nat.lt_add_of_pos_right (Nat.sub_pos_of_lt (Nat.lt_trans (by decide:1 < 2) (of_decide_eq_true h1)))
    have hq:=(q.small (take_le hL _)).2.2
    refine ⟨_,D_IfT e (D_one (D_aug rfl (q_Bin (q_Bin (br_first hL hr) q_S (add_S [a] [45] (show 2≤16777216 by decide))) (br_end hL hr) (add_S ([a]++[45]) [a+(s - 1)] (show 3≤16777216 by decide))) (aug_S _ _ (Nat.le_trans (Nat.add_le_add (app_le hz hq) (Nat.le_refl 3)) (show 3+48+3≤16777216 by decide))) rfl)),fr,bk,items++[(a,a+(s - 1))],b10,?_,?_⟩
    · rw [List.flatMap_append,render_two hlt,←List.append_assoc zy]
      rfl
    · rw [List.take_add]
      exact q.range ⟨Nat.le_of_lt hlt,h2.2,h2.1,h3.2,h3.1⟩ (runs_mem hr)
  | false=>
    obtain ⟨s2,w,z⟩:=br_signs (o:=o) (base:=base) (bar:=bar) (b4:=b4) (b10:=b10) hL hs hb hz hr q
    exact ⟨s2,D_IfF (h ▸ e) (D_one w),z⟩
noncomputable def TuI (o:PV) (base:Nat) (bar:Bool) (L:List Nat) (b4:Bind) (br zy:List Nat) (k:Nat) (st:St):Prop:=∃fr bk items b9 b10,st=BS o base bar L b4 (br++fr) (zy++items.flatMap render) bk k b9 b10∧Cov fr bk items (L.take k)
theorem br_turn {br zy:List Nat} {st:St} (hL:L.length≤16) (hs:L.Pairwise (· < ·)) (hb:br.length≤1) (hz:zy.length≤3) (hk:k < L.length) (h:TuI o base bar L b4 br zy k st):∃k' s2,k < k'∧k'≤L.length∧Do brTurn st s2∧TuI o base bar L b4 br zy k' s2:=by
  obtain ⟨fr,bk,items,b9,b10,rfl,q⟩:=h
  have ha:L[k]? =some L[k]:=List.getElem?_eq_getElem hk
  obtain ⟨s,hr,e1⟩:=br_sz (o:=o) (base:=base) (bar:=bar) (b4:=b4) (fr:=br++fr) (mid:=zy++items.flatMap render) (bk:=bk) (b10:=b10) hL ha 1000 1 ⟨Nat.le_refl 1,hk,fun i hi=>by rw [Nat.lt_one_iff.mp hi];exact ha⟩ (by lia)
  obtain ⟨_,e2,fr',bk',items',b10',rfl,q'⟩:=br_if (o:=o) (base:=base) (bar:=bar) (b4:=b4) (b10:=b10) hL hs hb hz hr q
  exact ⟨k+s,_,Nat.lt_add_of_pos_right hr.1,hr.2.1,D_seq (D_set q_I rfl) (D_seq e1 (D_seq e2 (D_one (D_aug rfl (q_N rfl) rfl rfl)))),fr',bk',items',_,_,rfl,q'⟩
theorem br_loop {br zy:List Nat} (hL:L.length≤16) (hs:L.Pairwise (· < ·)) (hb:br.length≤1) (hz:zy.length≤3):∀(n k:Nat) (st:St),k≤L.length→L.length < k+n→TuI o base bar L b4 br zy k st→∃s2,Do (whileF (kCmp .Lt (kN 8) (kLen 3)) brTurn n) st s2∧TuI o base bar L b4 br zy L.length s2
  | 0,k,st,h,hn,_=>absurd hn (Nat.not_lt.mpr h)
  | n+1,k,st,h,hn,hI=>by
    have ht:∀b,cmpOp .Lt (.int (k:Int)) (.int (L.length:Int))=some b→Ev (kCmp .Lt (kN 8) (kLen 3)) st b:=fun b hb=>by
      obtain ⟨fr,bk,items,b9,b10,rfl,q⟩:=hI
      exact q_Cmp (q_N rfl) (q_Len rfl (len_C (Nat.le_trans hL (by decide)))) hb
    rcases Nat.lt_or_ge k L.length with hk | hk
    · obtain ⟨k',s1,h1,h2,e,hI'⟩:=br_turn hL hs hb hz hk hI
      obtain ⟨s2,e2,z⟩:=br_loop hL hs hb hz n k' s1 h2 (by lia) hI'
      exact ⟨s2,D_wT (ht _ (lt_T _ _ hk)) e e2,z⟩
    · exact ⟨st,D_wF (ht _ (lt_F _ _ (Nat.not_lt.mpr hk))),Nat.le_antisymm h hk ▸ hI⟩
end
theorem fd8 (k:Nat):binOp .FloorDiv (.int (k:Int)) (.int 8)=some (.int ((k / 8:Nat):Int)):=by
  rw [bin_fd _ _ (by decide),Int.fdiv_eq_ediv_of_nonneg _ (by decide)];rfl
theorem md8 (k:Nat):binOp .Mod (.int (k:Int)) (.int 8)=some (.int ((k % 8:Nat):Int)):=by
  rw [bin_mod _ _ (by decide),Int.fmod_eq_emod_of_nonneg _ (by decide)];rfl
theorem ne_B5 (a b:Bool):cmpOp .NotEq (.bool a) (.bool b)=some (a != b):=by
  show (pyEq (.bool a) (.bool b)).map (!·)=_
  rw [pyEq_bool];rfl
noncomputable def TS0 (octs:List Int) (base:Nat) (bar:Bool) (l:List Nat) (b4:Bind):St:=[.froz (.list (octs.map .int)),.froz (.int base),.froz (.bool bar),.own (l.map C),b4,.none,.none,.none,.none,.none,.none]
theorem mod8_lt (k:Nat):k % 8 < 20:=Nat.lt_trans (Nat.mod_lt k (by decide)) (by decide)
theorem br_one {octs:List Int} {base k:Nat} (hl:octs.length≤2) (hb:base≤1000) (hk:k < 8 * octs.length):Do brOne (TS0 octs base (barO octs) (toldO octs base k) (fN k)) (TS0 octs base (barO octs) (toldO octs base (k+1)) (fN k)):=by
  have hc:Ev (kCmp .NotEq (kCV .Eq (kBin .Mod (kBin .FloorDiv (kIt (kN 0) (kBin .FloorDiv (kN 4) (kI 8))) (kBin .Pow (kI 2) (kBin .Mod (kN 4) (kI 8)))) (kI 2)) (kI 1)) (kN 2)) (TS0 octs base (barO octs) (toldO octs base k) (fN k)) (bitO octs k != barO octs):=
    q_Cmp (q_CV (q_Bin (q_Bin (q_It (q_N rfl) (q_Bin (q_N rfl) q_I (fd8 k)) (told_run (n:=0) (base:=base) hl hk)) (q_Bin q_I (q_Bin (q_N rfl) q_I (md8 k)) (pow2_run _ (mod8_lt k))) (bin_fd _ _ (pow2_ok _ (mod8_lt k)))) q_I (bin_mod _ _ (by decide))) q_I (eq_I _ _)) (q_N rfl) (ne_B5 _ _)
  rw [told_succ]
  cases h:(bitO octs k != barO octs) with
  | false=>
    rw [if_neg Bool.false_ne_true,List.append_nil]
    exact D_one (D_IfF (h ▸ hc) D_nil)
  | true=>
    have hn:(toldO octs base k).length≤16777215:=by
      rw [toldO,List.length_map]
      exact Nat.le_trans (List.length_filter_le ..) (by rw [List.length_range];lia)
    refine D_one (D_IfT (h ▸ hc) (D_one (D_app (q_F (q_A1 (q_Bin (q_N rfl) (q_N rfl) rfl)) (chr_nat base k (by lia))) rfl (by rw [List.length_map];exact hn) ?_)))
    rw [←show (toldO octs base k++[base+k]).map C=(toldO octs base k).map C++[C (base+k)] from List.map_append]
    rfl
theorem br_told {octs:List Int} {base:Nat} (hl:octs.length≤2) (hb:base≤1000):∃b4,Do brTold (TS0 octs base (barO octs) [] .none) (TS0 octs base (barO octs) (toldO octs base (8 * octs.length)) b4):=by
  obtain ⟨b,e⟩:=D_for (i:=4) (g:=brOne) (fun k b=>TS0 octs base (barO octs) (toldO octs base k) b) (fun _ _ _=>rfl) ((List.range (8 * octs.length)).map fun (j:Nat)=>.int j) 0 .none fun k p hp=>by
    obtain ⟨hk,rfl⟩:=range_get hp
    rw [Nat.zero_add]
    exact br_one hl hb hk
  rw [List.length_map,List.length_range,Nat.zero_add] at e
  exact ⟨b,D_forE (q_F (q_A1 (q_Bin q_I (q_Len (v:=.int octs.length) rfl (by rw [len_L _ (by rw [List.length_map];lia),List.length_map])) rfl)) rfl) (items_range (8 * octs.length) (by lia)) e⟩
theorem emptyL {L:List Nat} (h:∀c∈L,c < 2000):pyEq (.list (L.map C)) (.list [])=some L.isEmpty:=by
  rw [pyEq_nil (xs:=L.map C) (toPys_map C (fun c=>PyData.str (S [c])) L fun x _=>rfl) (canAll_map _ L fun x hx=>by have:=h x hx;simp [PyData.canLay0,PyData.strOk];lia) (Nat.le_trans (depthAll_map (fun c=>PyData.str (S [c])) 0 L fun x _=>by simp [PyData.depth]) (by decide)),List.isEmpty_map]
theorem r_kV {f:EvE} {g:St→Option (List El×St)} {st st1 st2:St} {a:PV} {es:List El} (h:f st=some (a,st1)) (k:g st1=some (es,st2)):kV f g st=some (.froz a::es,st2):=run_bind h (run_bind k rfl)
noncomputable def TS1 (octs:List Int) (base:Nat) (bar:Bool) (l:List Nat) (b4:Bind):St:=[.froz (.list (octs.map .int)),.froz (.int base),.froz (.bool bar),.froz (.list (l.map C)),b4,.none,.none,.none,.none,.none,.none]
theorem if_S (b:Bool) (x y:List Nat):(if b=true then PV.str (S x) else .str (S y))=.str (S (if b=true then x else y)):=by cases b<;>rfl
theorem br_z {octs:List Int} {base:Nat} {bar:Bool} {L:List Nat} {b4:Bind} (h:∀c∈L,c < 2000):kIf (kCmp .Eq (kN 3) (kF mkL (pureE []))) (kS [122,45,121]) (kS []) (TS0 octs base bar L b4)=some (.str (S (if L.isEmpty=true then [122,45,121] else [])),TS1 octs base bar L b4):=by
  have hc:kCmp .Eq (kN 3) (kF mkL (pureE [])) (TS0 octs base bar L b4)=some (L.isEmpty,TS1 octs base bar L b4):=r_cmp rfl rfl (emptyL h)
  cases e:L.isEmpty with
  | true=>exact r_ifT (e ▸ hc) rfl
  | false=>exact r_ifF (e ▸ hc) rfl
theorem br_tup {octs:List Int} {base:Nat} {bar:Bool} {L:List Nat} {b4:Bind} (h:∀c∈L,c < 2000):Do brTup (TS0 octs base bar L b4) (BS (.list (octs.map .int)) base bar L b4 (if bar=true then [33] else []) (if L.isEmpty=true then [122,45,121] else []) [] 0 .none .none):=
  by
  unfold Do brTup tupF
  refine run_bind (r_kV (?_:Ev (kIf (nameT 2) (kS [33]) (kS [])) (TS0 octs base bar L b4) _) (r_kV (br_z h) (q_V q_S (q_V (g:=pureE []) (es:=[]) q_I rfl)))) rfl
  rw [←if_S bar [33] []]
  exact q_If (q_T (p:=.bool bar) rfl rfl) q_S q_S
theorem told_small {octs:List Int} {base n:Nat} (hb:base≤1000) (hn:n≤16):(toldO octs base n).length≤16∧(∀c∈toldO octs base n,c < 2000)∧(toldO octs base n).Pairwise (· < ·):=by
  unfold toldO
  refine ⟨?_,fun c hc=>?_,?_⟩
  · rw [List.length_map]
    exact Nat.le_trans (List.length_filter_le ..) (by rw [List.length_range];exact hn)
  · obtain ⟨p,hp,rfl⟩:=List.mem_map.mp hc
    have:=List.mem_range.mp (List.mem_filter.mp hp).1
    lia
  · exact List.Pairwise.map _ (fun a b h=>Nat.add_lt_add_left h base) ((List.pairwise_lt_range).filter _)
theorem br_ret {octs:List Int} {base:Nat} {bar:Bool} {L br zy fr mid bk:List Nat} {b4 b9 b10:Bind} {n:Nat} (h1:(br++fr).length≤100) (h2:(zy++mid).length≤100) (h3:bk.length≤100):Ev brRet (BS (.list (octs.map .int)) base bar L b4 (br++fr) (zy++mid) bk n b9 b10) (.str (S ([91]++(br++fr)++(zy++mid)++bk++[93]))):=
  have e1:=app_le (Nat.le_refl [91].length) h1
  have e2:=app_le e1 h2
  have e3:=app_le e2 h3
  q_Bin (q_Bin (q_Bin (q_Bin q_S (q_N rfl) (add_S _ _ (Nat.le_trans (Nat.add_le_add (Nat.le_refl _) h1) (show 1+100≤16777216 by decide)))) (q_N rfl) (add_S _ _ (Nat.le_trans (Nat.add_le_add e1 h2) (show 1+100+100≤16777216 by decide)))) (q_N rfl) (add_S _ _ (Nat.le_trans (Nat.add_le_add e2 h3) (show 1+100+100+100≤16777216 by decide)))) q_S (add_S _ _ (Nat.le_trans (Nat.add_le_add e3 (Nat.le_refl _)) (show 1+100+100+100+1≤16777216 by decide)))
theorem bracket_run {X:Cx} {d:Nat} {cd:Value} {ql:Str} (G:Glo X) (octs:List Int) (base:Nat) (hl:octs.length≤2) (hb:base≤1000):
    ∃p,runF (WBracket.bracketS (X:=X) (d:=d) (cd:=cd) (ql:=ql) G).1 11 [.list (octs.map .int),.int base]=some p∧∃t,p=.str (S t)∧BrText (barO octs) (toldO octs base (8 * octs.length)) t:=by
  rw [br_code]
  refine runF_of ?_
  obtain ⟨a,h1,h2⟩:=barO_run octs hl
  obtain ⟨b4,e⟩:=br_told (base:=base) hl hb
  obtain ⟨t1,t2,t3⟩:=told_small (octs:=octs) (base:=base) (n:=8 * octs.length) hb (Nat.mul_le_mul_left 8 hl)
  generalize toldO octs base (8 * octs.length)=L at e t1 t2 t3
  have hbr:(if barO octs=true then [33] else []).length≤1:=one_len (barO octs) 33
  have hzy:(if L.isEmpty=true then [122,45,121] else []).length≤3:=by cases L.isEmpty<;>decide
  obtain ⟨_,e2,fr,bk,items,b9,b10,rfl,q⟩:=br_loop t1 t3 hbr hzy 1000 0 _ (Nat.zero_le _) (by lia) ⟨[],[],[],.none,.none,by rw [List.append_nil,List.flatMap_nil,List.append_nil],by rw [List.take_zero];exact Cov.nil⟩
  rw [List.take_length] at q
  obtain ⟨q1,q2,q3⟩:=q.small t1
  refine pseq (r_set (ev2 (q_Sl (q_N rfl) (q_As rfl rfl) q_No h1) (q_F (q_A1 q_I) rfl) h2) rfl) (pseq (r_own0 rfl rfl) (pseq e (pseq (br_tup t2) (pseq e2 ?_))))
  exact pret (br_ret (Nat.le_trans (app_le hbr q1) (by decide)) (Nat.le_trans (app_le hzy q3) (by decide)) (Nat.le_trans q2 (by decide))) ⟨_,rfl,fr,bk,items,rfl,q⟩
end Mine
end
section
open PySem PySem.W PyProof.Rows PySem.SeqAt PySem.Builtin.Str PySem.Calls
set_option tactic.hygienic false
namespace Mine
theorem partOK_len {bar:Bool} {L q:List Nat} (hq:PartOK bar L q) (hL:∀c∈L,34≤c∧c < 1000) (hlen:L.length≤16):q.length≤2000:=by
  have:=(PK_len (PK_of hq hL hlen)).1
  lia
theorem parts_le {brs:List (Bool×List Nat×List Nat)} {qs:List (List Nat)} (h:Parts brs qs) (hb:∀x∈brs,BrOK x):∀q∈qs,q.length≤2000:=by
  induction h with
  | nil=>exact fun _ h=>nomatch h
  | @cons xs qs x q hq _ ih=>
    have hx:=hb x List.mem_cons_self
    exact fun r hr=>(List.mem_cons.mp hr).elim (fun e=>e ▸ partOK_len hq hx.lo hx.len) (ih (fun y hy=>hb y (List.mem_cons_of_mem _ hy)) r)
noncomputable def ansOf (k n:Nat) (g:EvS):List PV→Option PV:=fun as=>if as.length=k then runF g n as else none
theorem ansOf_eq {k n:Nat} {g:EvS} {as:List PV} (h:as.length=k):ansOf k n g as=runF g n as:=if_pos h
section
variable {w:World} {p:Program} {loose:List Str} {mean:ExcName→Option Value} {mg mb:Str→Option Value} {h:Heap} (T:Top p loose mean mg mb h) (hT:TabsAt tabs0 h) (KX:(K0 w.params).In h)
include T hT KX
noncomputable abbrev trS:=(WTrans.transS (X:=X0 T hT KX) (d:=1) (cd:=.ref 61) (ql:="_translate"++".<locals>.") (glo0 T hT KX) (mkLam T hT KX) (mkGen T hT KX) (gTw T hT KX) (pat0 T hT KX))
noncomputable abbrev joS:=(WJoin.joinS (X:=X0 T hT KX) (d:=1) (cd:=.ref 68) (ql:="_join_translated_parts"++".<locals>.") (glo0 T hT KX))
noncomputable abbrev seS:=(WSet.setS (X:=X0 T hT KX) (d:=1) (cd:=.ref 110) (ql:="_law_set"++".<locals>.") (glo0 T hT KX))
noncomputable abbrev brS:=(WBracket.bracketS (X:=X0 T hT KX) (d:=2) (cd:=.ref 103) (ql:="_law_bracket"++".<locals>.") (glo0 T hT KX))
noncomputable abbrev nuS:=(WNumber.numberS (X:=X0 T hT KX) (d:=2) (cd:=.ref 96) (ql:="_law_number"++".<locals>.") (glo0 T hT KX) (long0 T hT KX) (mkRead T hT KX) (mkLam2 T hT KX) (gLong T hT KX))
theorem cTrans:CallW (X0 T hT KX) 2 62 (ansOf 3 13 (trS T hT KX).1):=callW_of (okTrans T hT KX) (trS T hT KX).2
theorem cJoin:CallW (X0 T hT KX) 2 69 (ansOf 2 7 (joS T hT KX).1):=callW_of (okJoin T hT KX) (joS T hT KX).2
theorem cSet:CallW (X0 T hT KX) 2 111 (ansOf 2 7 (seS T hT KX).1):=callW_of (okSet T hT KX) (seS T hT KX).2
theorem cBracket:CallW (X0 T hT KX) 3 104 (ansOf 2 11 (brS T hT KX).1):=callW_of (okBracket T hT KX) (brS T hT KX).2
theorem cNumber:CallW (X0 T hT KX) 3 97 (ansOf 1 5 (nuS T hT KX).1):=callW_of (okNumber T hT KX) (nuS T hT KX).2
noncomputable abbrev stS:=(WSets.setsS (X:=X0 T hT KX) (d:=2) (cd:=.ref 115) (ql:="_law_sets"++".<locals>.") (glo0 T hT KX) (cSet T hT KX) (gSet T hT KX) (thSet T hT KX))
theorem cSets:CallW (X0 T hT KX) 3 116 (ansOf 2 6 (stS T hT KX).1):=callW_of (okSets T hT KX) (stS T hT KX).2
noncomputable def trT (pat:Str):Option Str:=by
  classical
  exact if ∃brs:List (Bool×List Nat×List Nat),(∀x∈brs,BrOK x)∧brs.length≤4∧pat=S (brs.flatMap fun x=>x.2.2) then
    (match runF (trS T hT KX).1 13 [.str pat,.obj 0,.str (S [46])] with
    | some r=>(match runF (joS T hT KX).1 7 [r,.obj 0] with
      | some (.str x)=>some x
      | _=>none)
    | none=>none) else none
theorem tr_both (brs:List (Bool×List Nat×List Nat)) (hb:∀x∈brs,BrOK x) (hn:brs.length≤4):∃qs,Parts brs qs∧∀a:Addr,runF (trS T hT KX).1 13 [.str (S (brs.flatMap fun x=>x.2.2)),.obj a,.str (S [46])]=some (.list (qs.map fun q=>.str (S q)))∧
    runF (joS T hT KX).1 7 [.list (qs.map fun q=>.str (S q)),.obj a]=some (.str (S ([40,63,115,58]++qs.flatten++[41,92,90]))):=by
  obtain ⟨qs,h1,h2⟩:=trans_run (d:=1) (cd:=.ref 61) (ql:="_translate"++".<locals>.") (glo0 T hT KX) (mkLam T hT KX) (mkGen T hT KX) (gTw T hT KX) (pat0 T hT KX) brs hb (Nat.le_trans hn (by decide))
  exact ⟨qs,h1,fun a=>⟨h2 a,join_run (a:=a) (X:=X0 T hT KX) (d:=1) (cd:=.ref 68) (ql:="_join_translated_parts"++".<locals>.") (glo0 T hT KX) (parts_le h1 hb) (by rw [h1.len];exact Nat.le_trans hn (by decide))⟩⟩
theorem trT_eq (brs:List (Bool×List Nat×List Nat)) (hb:∀x∈brs,BrOK x) (hn:brs.length≤4) {qs:List (List Nat)} (h:∀a:Addr,runF (trS T hT KX).1 13 [.str (S (brs.flatMap fun x=>x.2.2)),.obj a,.str (S [46])]=some (.list (qs.map fun q=>.str (S q)))∧
    runF (joS T hT KX).1 7 [.list (qs.map fun q=>.str (S q)),.obj a]=some (.str (S ([40,63,115,58]++qs.flatten++[41,92,90])))):trT T hT KX (S (brs.flatMap fun x=>x.2.2))=some (S ([40,63,115,58]++qs.flatten++[41,92,90])):=by
  unfold trT
  refine (if_pos ⟨brs,hb,hn,rfl⟩).trans ?_
  rw [(h 0).1]
  dsimp only
  rw [(h 0).2]
theorem tr_spec:∀a pat r,trT T hT KX pat=some r→∃parts,ansOf 3 13 (trS T hT KX).1 [.str pat,.obj a,.str (PySem.Str.ofString ".")]=some parts∧ansOf 2 7 (joS T hT KX).1 [parts,.obj a]=some (.str r):=by
  intro a pat r hr
  have hd:∃brs:List (Bool×List Nat×List Nat),(∀x∈brs,BrOK x)∧brs.length≤4∧pat=S (brs.flatMap fun x=>x.2.2):=by
    refine Classical.byContradiction fun hn=>?_
    unfold trT at hr
    rw [if_neg hn] at hr
    cases hr
  obtain ⟨brs,hb,hn,rfl⟩:=hd
  obtain ⟨qs,h1,h2⟩:=tr_both T hT KX brs hb hn
  rw [trT_eq T hT KX brs hb hn h2] at hr
  cases hr
  exact ⟨_,(ansOf_eq rfl).trans (h2 a).1,(ansOf_eq rfl).trans (h2 a).2⟩
theorem cTranslate:CallW (X0 T hT KX) 3 43 (fun as=>if as.length=1 then trM (trT T hT KX) as else none):=
  callW_of2 (okTranslate T hT KX) (WTranslate.translateR (d:=2) (glo0 T hT KX) (cTrans T hT KX) (cJoin T hT KX) (gTrans T hT KX) (gJoin T hT KX) (thTrans T hT KX) (thJoin T hT KX) (tr_spec T hT KX))
noncomputable abbrev laS:=(WLaw.lawS (X:=X0 T hT KX) (d:=3) (cd:=.ref 120) (ql:="law"++".<locals>.") (glo0 T hT KX) (cBracket T hT KX) (gBracket T hT KX) (thBracket T hT KX) (cNumber T hT KX) (gNumber T hT KX) (thNumber T hT KX) (cSets T hT KX) (gSets T hT KX) (thSets T hT KX) (cTranslate T hT KX) (gTranslate T hT KX) (thTranslate T hT KX))
theorem setSpec:SetSpec (ansOf 2 7 (seS T hT KX).1):=by
  intro text post k gs hg ht hl
  exact (ansOf_eq rfl).trans (set_run (X:=X0 T hT KX) (d:=1) (cd:=.ref 110) (ql:="_law_set"++".<locals>.") (glo0 T hT KX) hg ht hl)
theorem lawAns (script:List Int) (hs:script.length≤1000):runF (laS T hT KX).1 22 [.list (script.map .int)]=some (.bool true):=by
  rw [lw_code]
  refine lAll_run (fun octs bs h1 h2=>?_) (fun octs h1 h2=>?_) (fun {parts ss} h1 h2 h3=>?_) (fun brs hb hn=>?_) hs
  · obtain ⟨r,e,t,rfl,ht⟩:=bracket_run (X:=X0 T hT KX) (d:=2) (cd:=.ref 103) (ql:="_law_bracket"++".<locals>.") (glo0 T hT KX) octs bs h1 h2
    exact ⟨t,(ansOf_eq rfl).trans e,ht⟩
  · obtain ⟨r,e,rfl⟩:=number_run (X:=X0 T hT KX) (d:=2) (cd:=.ref 96) (ql:="_law_number"++".<locals>.") (glo0 T hT KX) (long0 T hT KX) (mkRead T hT KX) (mkLam2 T hT KX) (gLong T hT KX) octs h1 h2
    exact (ansOf_eq rfl).trans e
  · exact (ansOf_eq rfl).trans (sets_run (X:=X0 T hT KX) (d:=2) (cd:=.ref 115) (ql:="_law_sets"++".<locals>.") (glo0 T hT KX) (cSet T hT KX) (gSet T hT KX) (thSet T hT KX) (setSpec T hT KX) h1 h2 h3)
  · obtain ⟨qs,h1,h2⟩:=tr_both T hT KX brs hb hn
    exact ⟨qs,(if_pos rfl).trans (congrArg (Option.map PV.str) (trT_eq T hT KX brs hb hn h2)),h1⟩
end
end Mine
namespace Mine
noncomputable abbrev lawDef:DefRec:=⟨Str.ofString "law",paramsAt P2 21,bodyAt P2 21,scopeAt P2 21,⟨177,0,205,64⟩⟩
end Mine
end
section
open PySem PySem.W PyProof.Rows PySem.SeqAt PySem.Builtin.Str PySem.Calls
set_option Elab.async false
set_option tactic.hygienic false
set_option tactic.hygienic true in
set_option maxHeartbeats 8000000 in
theorem PySem.Challenge.cw_ij0201_02_holds : PySem.Challenge.rw_ij0201_02.Holds := by
  w_on
  refine holds_law (by kernel_rfl) fun said=>?_
  refine holds_open (q:=Mine.view0) (loose:=Mine.loose0) (Xt:=fun s=>xlAt Mine.view0 [] s&&recOk [] s) (XP:=XL Mine.view0 []) (Yf:=Hook.obs Mine.hook0) (Ya:=Hook.val Mine.hook0) (YP:=Hook.says Mine.hook0) (N:=3688) (d:=Mine.lawDef) (kwd:=[]) Mine.left0 (Hook.of Mine.hook0) (Hook.keeps Mine.hook0) (fun s e=>xl_of s (Bool.and_eq_true_iff.mp e).1) XL.keeps (by kernel_rfl) (by kernel_rfl) (by kernel_rfl) (fun s e=>recFacts_of (Bool.and_eq_true_iff.mp e).2) (by kernel_rfl) (by first | assumption | decide+kernel) (by decide+kernel) ⟨rfl,rfl,rfl,rfl,rfl,by decide+kernel⟩ ?hw ?hc
  case hw=>w_witness2
  case hc=>
    intro w s₀ s₁ mg mb G Y fa o pm cd doc dV kV ho hd hcd hD hmg hg args vals as hpre hlay hrd hwl hlo
    have KX:=km_in_of Y
    km_tabs Y
    refine Ground.open G ?_
    intro T B D TE TW
    have hT9:TabsAt [(96,92),(61,57)] s₁.heap:=List.forall_mem_cons.mpr ⟨⟨codeHd_of_K (c:=96) (P:=92) KX (by kernel_rfl),hT8 92 (by simp)⟩,List.forall_mem_cons.mpr ⟨⟨codeHd_of_K (c:=61) (P:=57) KX (by kernel_rfl),hT8 57 (by simp)⟩,fun _ h=>nomatch h⟩⟩
    clear ho hd hcd hD B D TE TW G Y
    wrow_args hpre hlay hrd hwl hlo
    refine enter_call ?_
    rename_i ns hs1 hlay1 hL1 hr1 hl21 a1 a2 a3 vs1 a4 hL2 ra1 w1 r01 hI1 hr2 hlen htr
    have hfa:fa=121:=by
      have e1:mg (PySem.Str.ofString "law")=some (.ref fa):=hmg
      rw [Mine.gLaw T hT9 KX] at e1
      cases e1
      rfl
    subst hfa
    exact Mine.law_end (ns:=ns) T hT9 (Mine.nb0 T hT9 KX) Mine.tq0 (Mine.okLaw T hT9 KX) (Mine.soundR_of (Mine.laS T hT9 KX).2) (by kernel_rfl) (by decide) w1 (Mine.lawAns T hT9 KX ns (by omega)) hg (fun _=>rfl) (by kernel_rfl)
end
