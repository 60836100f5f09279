import PyProof.Rows.All
import PySem.Sre
import PyProof.FactsAll.str_8
import PyProof.FactsAll.list_1
import PyProof.StrLawsReplace
import KE.KFromBytes
import Wide.All
import OpenK.AllK
import Wide.FinOn
import PySem.Challenge.RW_ij0201_01
set_option Elab.async false
set_option linter.all false
set_option bootstrap.genMatcherCode false
set_option tactic.hygienic false
set_option maxRecDepth 100000
section
open PySem PySem.W PyProof.Rows
namespace Mine
set_option genInjectivity false in
inductive PV where
 | none
 | bool (b:Bool)
 | int (i:Int)
 | str (x:Str)
 | obj (a:Addr)
 | list (xs:List PV)
 | tuple (xs:List PV)
 | range (a b c:Int)
 deriving Inhabited
noncomputable abbrev listObj (vs:List Value) (n:Nat):Obj:={ cls:=.type "list",data:=.seq vs.toArray n }
noncomputable abbrev tupObj (vs:List Value) (n:Nat):Obj:={ cls:=.type "tuple",data:=.seq vs.toArray n }
noncomputable abbrev rangeObj (a b c:Int) (t u v:Tok):Obj:={ cls:=.type "range",data:=.fields #[.int a t,.int b u,.int c v] }
noncomputable abbrev tabO (ps:Array Value):Obj:={ cls:=.none,data:=.fields ps }
noncomputable abbrev appObj (a:Addr):Obj:={ cls:=.type "builtin_function_or_method",data:=.fields #[.builtin "list.append",.ref a] }
mutual
noncomputable def VR (h:Heap) (Av:Addr→Prop):Value→PV→Prop
 | v,.none=>v=.none
 | v,.bool b=>v=.bool b
 | v,.int i=>∃t,v=.int i t
 | v,.str x=>∃t,v=.str x t
 | v,.obj a=>v=.ref a∧¬ Av a∧a < h.objs.size
 | v,.list xs=>∃a vs n,v=.ref a∧h.get? a=some (listObj vs n)∧¬ Av a∧VRs h Av vs xs
 | v,.tuple xs=>∃a vs n,v=.ref a∧h.get? a=some (tupObj vs n)∧¬ Av a∧VRs h Av vs xs
 | v,.range p q r=>∃a t1 t2 t3,v=.ref a∧h.get? a=some (rangeObj p q r t1 t2 t3)∧¬ Av a
noncomputable def VRs (h:Heap) (Av:Addr→Prop):List Value→List PV→Prop
 | [],[]=>True
 | v::vs,x::xs=>VR h Av v x∧VRs h Av vs xs
 | _,_=>False
end
theorem VRs.length {h:Heap} {Av:Addr→Prop}:∀{vs:List Value} {xs:List PV},VRs h Av vs xs→vs.length=xs.length
 | [],[],_=>rfl
 | _::_,_::_,h=>by simp only [List.length_cons];unfold VRs at h;rw [VRs.length h.2]
 | [],_::_,h=>by unfold VRs at h;exact h.elim
 | _::_,[],h=>by unfold VRs at h;exact h.elim
section mono
variable {h h':Heap} {Av Av':Addr→Prop}
mutual
theorem VR.mono (hk:∀a o,h.get? a=some o→¬ Av a→h'.get? a=some o) (ha:∀a,a < h.objs.size→¬ Av a→¬ Av' a) (hs:h.objs.size≤h'.objs.size):
  ∀{p:PV} {v:Value},VR h Av v p→VR h' Av' v p
 | .none,_,x=>by unfold VR at x ⊢;exact x
 | .bool _,_,x=>by unfold VR at x ⊢;exact x
 | .int _,_,x=>by unfold VR at x ⊢;exact x
 | .str _,_,x=>by unfold VR at x ⊢;exact x
 | .obj _,_,x=>by unfold VR at x ⊢;exact ⟨x.1,ha _ x.2.2 x.2.1,Nat.lt_of_lt_of_le x.2.2 hs⟩
 | .list xs,_,x=>by
  unfold VR at x ⊢
  obtain ⟨a,vs,n,e,g,na,r⟩:=x
  exact ⟨a,vs,n,e,hk _ _ g na,ha _ (Heap.lt_size g) na,VRs.mono hk ha hs r⟩
 | .tuple xs,_,x=>by
  unfold VR at x ⊢
  obtain ⟨a,vs,n,e,g,na,r⟩:=x
  exact ⟨a,vs,n,e,hk _ _ g na,ha _ (Heap.lt_size g) na,VRs.mono hk ha hs r⟩
 | .range _ _ _,_,x=>by
  unfold VR at x ⊢
  obtain ⟨a,t1,t2,t3,e,g,na⟩:=x
  exact ⟨a,t1,t2,t3,e,hk _ _ g na,ha _ (Heap.lt_size g) na⟩
theorem VRs.mono (hk:∀a o,h.get? a=some o→¬ Av a→h'.get? a=some o) (ha:∀a,a < h.objs.size→¬ Av a→¬ Av' a) (hs:h.objs.size≤h'.objs.size):
  ∀{ps:List PV} {vs:List Value},VRs h Av vs ps→VRs h' Av' vs ps
 | [],[],_=>by unfold VRs;trivial
 | [],_::_,x=>by unfold VRs at x;exact x.elim
 | _::_,[],x=>by unfold VRs at x;exact x.elim
 | p::ps,v::vs,x=>by
  unfold VRs at x ⊢
  exact ⟨VR.mono hk ha hs x.1,VRs.mono hk ha hs x.2⟩
end
end mono
structure Step (Av Mu:Addr→Prop) (s:Shared) (Av' Mu':Addr→Prop) (s':Shared):Prop where
 keep:∀a o,s.heap.get? a=some o→¬ Mu a→s'.heap.get? a=some o
 mu:∀a,Mu' a→Mu a∨s.heap.objs.size≤a
 av:∀a,Av' a→Av a∨s.heap.objs.size≤a
 av':∀a,Av a→¬ Mu a→Av' a
 size:s.heap.objs.size≤s'.heap.objs.size
 os:s'.os=s.os
 gens:AllBare s.gens→AllBare s'.gens
theorem Step.refl {Av Mu:Addr→Prop} {s:Shared}:Step Av Mu s Av Mu s:=
 ⟨fun _ _ e _=>e,fun _ h=>.inl h,fun _ h=>.inl h,fun _ h _=>h,Nat.le_refl _,rfl,id⟩
theorem Step.trans {Av Mu Av' Mu' Av'' Mu'':Addr→Prop} {s s' s'':Shared}
  (x:Step Av Mu s Av' Mu' s') (y:Step Av' Mu' s' Av'' Mu'' s'') (hm:∀a,Av a→a < s.heap.objs.size):Step Av Mu s Av'' Mu'' s'' where
 keep a o e n:=y.keep a o (x.keep a o e n) fun m=>(x.mu a m).elim n fun q=>absurd (Heap.lt_size e) (Nat.not_lt.mpr q)
 mu a m:=(y.mu a m).elim (x.mu a) fun q=>.inr (Nat.le_trans x.size q)
 av a m:=(y.av a m).elim (x.av a) fun q=>.inr (Nat.le_trans x.size q)
 av' a m n:=y.av' a (x.av' a m n) fun q=>(x.mu a q).elim n fun z=>absurd (hm a m) (Nat.not_lt.mpr z)
 size:=Nat.le_trans x.size y.size
 os:=y.os.trans x.os
 gens h:=y.gens (x.gens h)
theorem VR.step {Av Mu Av' Mu':Addr→Prop} {s s':Shared} (S:Step Av Mu s Av' Mu' s') (ma:∀a,Mu a→Av a) {v:Value} {p:PV} (x:VR s.heap Av v p):VR s'.heap Av' v p:=
 x.mono (fun a o e n=>S.keep a o e fun m=>n (ma a m)) (fun a l n m=>(S.av a m).elim n fun z=>absurd l (Nat.not_lt.mpr z)) S.size
theorem VRs.step {Av Mu Av' Mu':Addr→Prop} {s s':Shared} (S:Step Av Mu s Av' Mu' s') (ma:∀a,Mu a→Av a) {v:List Value} {p:List PV} (x:VRs s.heap Av v p):VRs s'.heap Av' v p:=
 x.mono (fun a o e n=>S.keep a o e fun m=>n (ma a m)) (fun a l n m=>(S.av a m).elim n fun z=>absurd l (Nat.not_lt.mpr z)) S.size
set_option genInjectivity false in
structure Cx where
 prog:Program
 w:World
 B:Heap
 mg:Str→Option Value
 mb:Str→Option Value
 g:B.Ns mainGlobals mg
 b:B.Ns builtinsNs mb
 bb:∀x:Str,x≠"__name__"→mb x=bootBuiltins x
 nolimit:B.NoLimit
 nb:NoneBooked B
 Tb:Addr→Prop
 /-- the name of the code at a place of such a table -/
 tq:Addr→Nat→Nat→Str
set_option genInjectivity false in
inductive Bind where
 | none
 | froz (p:PV)
 | own (xs:List PV)
 | meth (j:Nat)
 /-- the variable holds the object at a -/
 | ref (a:Addr)
 deriving Inhabited
noncomputable abbrev St:=List Bind
set_option genInjectivity false in
structure FI where
 scope:Scope
 names:List Str
 /-- variables of a frame around,that this one but reads -/
 ro:List Str
 cd:Value
 ql:Str
noncomputable def ValAt (h:Heap) (env:Env) (x:Str) (v:Value):Prop:=
 match env.kindOf x with
 | some .local=>∃m,h.Ns env.locals m∧m x=some v
 | some .cell=>∃c,env.cells.lookup x=some c∧h.IsCell c (some v)
 | some .free=>∃c,env.cells.lookup x=some c∧h.IsCell c (some v)
 | _=>False
noncomputable def SlotOK (h:Heap) (Mu:Addr→Prop) (env:Env) (x:Str):Prop:=
 match env.kindOf x with
 | some .local=>True
 | some .cell=>∃c v,env.cells.lookup x=some c∧h.IsCell c v∧Mu c
 | some .free=>True
 | _=>False
noncomputable def BindOK (h:Heap) (Av Mu:Addr→Prop) (env:Env) (ns:List Str) (st:St) (x:Str):Bind→Prop
 | .none=>True
 | .froz p=>∃v,ValAt h env x v∧VR h Av v p
 | .own xs=>∃a vs n,ValAt h env x (.ref a)∧h.get? a=some (listObj vs n)∧Mu a∧VRs h Av vs xs
 | .meth j=>∃m a,ValAt h env x (.ref m)∧h.get? m=some (appObj a)∧¬ Av m∧∀y xs,ns[j]? =some y→st[j]? =some (.own xs)→ValAt h env y (.ref a)
 | .ref a=>ValAt h env x (.ref a)
noncomputable def TabAt (X:Cx) (h:Heap) (Av:Addr→Prop) (a:Addr):Prop:=∃ps:Array Value,h.get? a=some (tabO ps)∧TriplesOk ps.toList∧
 ∀(pos:Pos) (cv:Value),codeAmong pos ps.toList=some cv→∃c o vs t,cv=.ref c∧h.get? c=some o∧¬ Av c∧o.data=.fields vs∧vs[1]? =some (.str (X.tq a pos.line pos.col) t)
theorem TabAt.mono {X:Cx} {h h':Heap} {Av Av':Addr→Prop} {a:Addr} (x:TabAt X h Av a) (ht:∀o,h.get? a=some o→h'.get? a=some o) (hk:∀b o,h.get? b=some o→¬ Av b→(∃vs,o.data=.fields vs)→h'.get? b=some o∧¬ Av' b):TabAt X h' Av' a:=by
 obtain ⟨ps,e,t3,w⟩:=x
 refine ⟨ps,ht _ e,t3,fun pos cv hc=>?_⟩
 obtain ⟨c,o,vs,t,e1,e2,e3,e4,e5⟩:=w pos cv hc
 obtain ⟨p,q⟩:=hk c o e2 e3 ⟨vs,e4⟩
 exact ⟨c,o,vs,t,e1,p,q,e4,e5⟩
structure R (X:Cx) (F:FI) (Av Mu:Addr→Prop) (env:Env) (st:St) (s:Shared):Prop where
 sc:env.scope=F.scope
 fn:F.scope.kind=.function
 gl:env.globals=mainGlobals
 bl:env.builtins=builtinsNs
 cd:env.code=F.cd
 ql:env.qual=F.ql
 base:∀b o,X.B.get? b=some o→s.heap.get? b=some o∧¬ Av b
 tabs:∀a,X.Tb a→Mu a∧TabAt X s.heap Av a
 ma:∀a,Mu a→Av a
 lt:∀a,Av a→a < s.heap.objs.size
 ns:∃m,s.heap.Ns env.locals m
 nsMu:Mu env.locals
 nd:F.names.Nodup
 len:st.length=F.names.length
 cinj:∀x y c,env.cells.lookup x=some c→env.cells.lookup y=some c→x=y
 slots:∀x,x∈F.names→x ∉ F.ro→SlotOK s.heap Mu env x
 vars:∀(i:Nat) (x:Str) (b:Bind),F.names[i]? =some x→st[i]? =some b→BindOK s.heap Av Mu env F.names st x b
 inj:∀(i j:Nat) (x y:Str) (xs ys:List PV) (a:Addr),F.names[i]? =some x→F.names[j]? =some y→st[i]? =some (.own xs)→st[j]? =some (.own ys)→
  ValAt s.heap env x (.ref a)→ValAt s.heap env y (.ref a)→i=j
section
variable {X:Cx} {F:FI} {Av Mu:Addr→Prop} {env:Env} {st:St} {s s':Shared}
theorem ValAt.unique {h:Heap} {x:Str} {v v':Value} (p:ValAt h env x v) (q:ValAt h env x v'):v=v':=by
  unfold ValAt at p q
  cases hk:env.kindOf x with
  | none=>simp only [hk] at p
  | some k=>
    cases k<;>simp only [hk] at p q<;>try (exact p.elim)
    · obtain ⟨m,hm,e⟩:=p
      obtain ⟨m',hm',e'⟩:=q
      rw [hm.agree hm' x,e'] at e
      exact (Option.some.inj e).symm
    all_goals
      (obtain ⟨c,hc,o,ho,hd⟩:=p
       obtain ⟨c',hc',o',ho',hd'⟩:=q
       rw [hc] at hc'
       cases hc'
       rw [ho] at ho'
       cases ho'
       rw [hd] at hd'
       cases hd'
       rfl)
theorem ValAt.keep {h h':Heap} {x:Str} {v:Value} (p:ValAt h env x v) (hk:∀a o,h.get? a=some o→(a=env.locals∨∃y,env.cells.lookup y=some a)→h'.get? a=some o):ValAt h' env x v:=by
 unfold ValAt at p ⊢
 split at p
 ·obtain ⟨m,⟨o,es,ep,ho,r⟩,e⟩:=p
  exact ⟨m,⟨o,es,ep,hk _ _ ho (.inl rfl),r⟩,e⟩
 ·obtain ⟨c,hc,o,ho,hd⟩:=p
  exact ⟨c,hc,o,hk _ _ ho (.inr ⟨_,hc⟩),hd⟩
 ·obtain ⟨c,hc,o,ho,hd⟩:=p
  exact ⟨c,hc,o,hk _ _ ho (.inr ⟨_,hc⟩),hd⟩
 ·exact p.elim
theorem R.keep2 (r:R X F Av Mu env st s) {Av' Mu':Addr→Prop} (hk2:∀a o,s.heap.get? a=some o→(¬ Av a∨(Mu a∧∀vs,o.data≠.fields vs)∨∃v,o.data=.cell v)→s'.heap.get? a=some o) (ht:∀a,X.Tb a→TabAt X s'.heap Av' a) (hs:s.heap.objs.size≤s'.heap.objs.size)
  (h1:∀a,Av a→Av' a) (h2:∀a,Av' a→Av a∨(s.heap.objs.size≤a∧a < s'.heap.objs.size)) (h3:∀a,Mu a→Mu' a) (h4:∀a,Mu' a→Av' a):R X F Av' Mu' env st s':=by
 have nt:∀a,¬ Av a→¬ X.Tb a:=fun a n t=>n (r.ma a (r.tabs a t).1)
 have hv:∀{v p},VR s.heap Av v p→VR s'.heap Av' v p:=fun q=>q.mono (fun a o e n=>hk2 a o e (.inl n)) (fun a l n m=>(h2 a m).elim n fun z=>absurd l (Nat.not_lt.mpr z.1)) hs
 have hvs:∀{v p},VRs s.heap Av v p→VRs s'.heap Av' v p:=fun q=>q.mono (fun a o e n=>hk2 a o e (.inl n)) (fun a l n m=>(h2 a m).elim n fun z=>absurd l (Nat.not_lt.mpr z.1)) hs
 have tb:∀{a o},X.Tb a→s.heap.get? a=some o→∃ps,o=tabO ps:=fun t e=>by
  obtain ⟨ps,q,_⟩:=(r.tabs _ t).2
  exact ⟨ps,Option.some.inj (e.symm.trans q)⟩
 have kN:∀{m},s.heap.Ns env.locals m→s'.heap.Ns env.locals m:=fun {m} q=>by
  obtain ⟨o,es,ep,ho,hd,z⟩:=q
  exact ⟨o,es,ep,hk2 _ _ ho (.inr (.inl ⟨r.nsMu,fun vs q=>by rw [q] at hd;cases hd⟩)),hd,z⟩
 have kC:∀{c v},s.heap.IsCell c v→s'.heap.IsCell c v:=fun {c v} q=>by
  obtain ⟨o,ho,hd⟩:=q
  exact ⟨o,hk2 _ _ ho (.inr (.inr ⟨_,hd⟩)),hd⟩
 have kV:∀{x v},ValAt s.heap env x v→ValAt s'.heap env x v:=fun {x v} q=>by
  unfold ValAt at q ⊢
  split at q
  ·obtain ⟨m,a,b⟩:=q;exact ⟨m,kN a,b⟩
  ·obtain ⟨c,a,b⟩:=q;exact ⟨c,a,kC b⟩
  ·obtain ⟨c,a,b⟩:=q;exact ⟨c,a,kC b⟩
  ·exact q.elim
 have kV':∀{x v v'},ValAt s.heap env x v→ValAt s'.heap env x v'→v'=v:=fun p q=>(ValAt.unique (kV p) q).symm
 refine ⟨r.sc,r.fn,r.gl,r.bl,r.cd,r.ql,fun b o e=>?_,fun a t=>⟨h3 a (r.tabs a t).1,ht a t⟩,h4,fun a m=>?_,?_,h3 _ r.nsMu,r.nd,r.len,r.cinj,fun x hx hro=>?_,fun i x b hi hb=>?_,fun i j x y xs ys a hi hj hx hy vx vy=>?_⟩
 ·obtain ⟨p,q⟩:=r.base b o e
  exact ⟨hk2 b o p (.inl q),fun m=>(h2 b m).elim q fun z=>absurd (Heap.lt_size p) (Nat.not_lt.mpr z.1)⟩
 ·exact (h2 a m).elim (fun q=>Nat.lt_of_lt_of_le (r.lt a q) hs) fun z=>z.2
 ·obtain ⟨m,q⟩:=r.ns
  exact ⟨m,kN q⟩
 ·have q:=r.slots x hx hro
  unfold SlotOK at q ⊢
  split at q
  ·trivial
  ·obtain ⟨c,v,a,b,m⟩:=q;exact ⟨c,v,a,kC b,h3 _ m⟩
  ·trivial
  ·exact q.elim
 ·have q:=r.vars i x b hi hb
  cases b with
  | none=>trivial
  | froz p=>obtain ⟨v,a,b⟩:=q;exact ⟨v,kV a,hv b⟩
  | ref a=>exact kV q
  | own xs=>obtain ⟨a,vs,n,p,e,m,z⟩:=q;exact ⟨a,vs,n,kV p,hk2 _ _ e (.inr (.inl ⟨m,fun ps q=>by cases q⟩)),h3 _ m,hvs z⟩
  | meth j=>
   obtain ⟨m,a,p,e,n,z⟩:=q
   exact ⟨m,a,kV p,hk2 _ _ e (.inl n),fun q=>(h2 _ q).elim n fun z=>absurd (Heap.lt_size e) (Nat.not_lt.mpr z.1),fun y xs hy hs=>kV (z y xs hy hs)⟩
 ·obtain ⟨a1,_,_,p1,_⟩:=r.vars i x _ hi hx
  obtain ⟨a2,_,_,p2,_⟩:=r.vars j y _ hj hy
  have e1:Value.ref a=.ref a1:=kV' p1 vx
  have e2:Value.ref a=.ref a2:=kV' p2 vy
  cases e1
  cases e2
  exact r.inj i j x y xs ys _ hi hj hx hy p1 p2
theorem R.keep' (r:R X F Av Mu env st s) {Av' Mu':Addr→Prop} (hk:∀a o,s.heap.get? a=some o→¬ X.Tb a→s'.heap.get? a=some o) (ht:∀a,X.Tb a→TabAt X s'.heap Av' a) (hs:s.heap.objs.size≤s'.heap.objs.size)
  (h1:∀a,Av a→Av' a) (h2:∀a,Av' a→Av a∨(s.heap.objs.size≤a∧a < s'.heap.objs.size)) (h3:∀a,Mu a→Mu' a) (h4:∀a,Mu' a→Av' a):R X F Av' Mu' env st s':=
 r.keep2 (fun a o e q=>hk a o e fun t=>by
  obtain ⟨m,ps,z,_⟩:=r.tabs a t
  rw [e] at z;cases z
  rcases q with q | q | ⟨v,q⟩
  ·exact q (r.ma a m)
  ·exact q.2 _ rfl
  ·cases q) ht hs h1 h2 h3 h4
theorem R.keepI (r:R X F Av Mu env st s) {I:Addr} (hI:Av I) (hm:¬ Mu I) (ho:∀o,s.heap.get? I=some o→∀v,o.data≠.cell v) (hk:∀a o,a≠I→s.heap.get? a=some o→s'.heap.get? a=some o) (hs:s.heap.objs.size≤s'.heap.objs.size):R X F Av Mu env st s':=
 r.keep2 (fun a o e q=>hk a o (fun z=>by
  subst z
  rcases q with q | q | ⟨v,q⟩
  ·exact q hI
  ·exact hm q.1
  ·exact ho o e v q) e) (fun a t=>(r.tabs a t).2.mono (fun o e=>hk a _ (fun z=>hm (z ▸ (r.tabs a t).1)) e) fun b o e n _=>⟨hk b o (fun z=>n (z ▸ hI)) e,n⟩) hs (fun _ h=>h) (fun _ h=>.inl h) (fun _ h=>h) r.ma
theorem R.keep (r:R X F Av Mu env st s) (hk:∀a o,s.heap.get? a=some o→s'.heap.get? a=some o) (hs:s.heap.objs.size≤s'.heap.objs.size):R X F Av Mu env st s':=
 r.keep' (fun a o e _=>hk a o e) (fun a t=>(r.tabs a t).2.mono (fun o e=>hk _ _ e) fun b o e n _=>⟨hk _ _ e,n⟩) hs (fun _ h=>h) (fun _ h=>.inl h) (fun _ h=>h) r.ma
theorem R.toks (r:R X F Av Mu env st s) {tk:Nat} {gs:Array GenState} {dr:Drawn} {os:OsState}:R X F Av Mu env st { heap:=s.heap,gens:=gs,drawn:=dr,toks:=tk,os:=os }:=r.keep (fun _ _ e=>e) (Nat.le_refl _)
end
section
variable {X:Cx} {F:FI} {Av Mu:Addr→Prop} {env:Env} {st:St} {s s':Shared}
noncomputable def FI.Wr (F:FI) (x:Str):Prop:=x ∉ F.ro∧(F.scope.names.lookup x=some .local∨F.scope.names.lookup x=some .cell)
noncomputable def NewB (h:Heap) (Av Mu:Addr→Prop) (env:Env) (ns:List Str) (st:St) (i:Nat) (v:Value):Bind→Prop
  | .none=>True
  | .froz p=>VR h Av v p
  | .own xs=>∃a vs n,v=.ref a∧h.get? a=some (listObj vs n)∧Mu a∧VRs h Av vs xs∧
      (∀(j:Nat) (y:Str) (ys:List PV),j≠i→ns[j]? =some y→st[j]? =some (.own ys)→¬ ValAt h env y (.ref a))∧(∀j:Nat,st[j]? ≠some (.meth i))
  | .meth j=>∃m a,v=.ref m∧h.get? m=some (appObj a)∧¬ Av m∧j≠i∧∀(y:Str) (xs:List PV),ns[j]? =some y→st[j]? =some (.own xs)→ValAt h env y (.ref a)
  | .ref a=>v=.ref a
theorem names_inj (hnd:F.names.Nodup) {i j:Nat} {x:Str} (hi:F.names[i]? =some x) (hj:F.names[j]? =some x):i=j:=by
 obtain ⟨h1,e1⟩:=List.getElem?_eq_some_iff.mp hi
 obtain ⟨h2,e2⟩:=List.getElem?_eq_some_iff.mp hj
 have p:=List.pairwise_iff_getElem.mp hnd
 rcases Nat.lt_trichotomy i j with l | l | l
 ·exact absurd (e1.trans e2.symm) (p i j h1 h2 l)
 ·exact l
 ·exact absurd (e2.trans e1.symm) (p j i h2 h1 l)
theorem get_set {st:St} {i j:Nat} {b b':Bind} (h:(st.set i b)[j]? =some b'):(j=i∧b'=b)∨(j≠i∧st[j]? =some b'):=by
 rw [List.getElem?_set] at h
 by_cases e:i=j
 ·subst e
  rw [if_pos rfl] at h
  split at h
  ·exact .inl ⟨rfl,(Option.some.inj h).symm⟩
  ·cases h
 ·rw [if_neg e] at h
  exact .inr ⟨Ne.symm e,h⟩
theorem R.turn (r:R X F Av Mu env st s) {z:Addr} (hz:Mu z) (hs:Heap.SameBut z s.heap s'.heap) (hl:∀vs n,s.heap.get? z≠some (listObj vs n)) (ht:¬ X.Tb z)
  {i:Nat} {x:Str} (hi:F.names[i]? =some x) {v:Value} {b:Bind} (hb:NewB s.heap Av Mu env F.names st i v b)
  (same:∀y u,y≠x→ValAt s.heap env y u→ValAt s'.heap env y u) (new:ValAt s'.heap env x v)
  (hns:∃m,s'.heap.Ns env.locals m) (hsl:∀y,SlotOK s.heap Mu env y→SlotOK s'.heap Mu env y):R X F Av Mu env (st.set i b) s':=by
 have hk:∀a o,s.heap.get? a=some o→¬ Av a→s'.heap.get? a=some o:=fun a o e n=>(hs.2 a fun q=>n (r.ma a (q ▸ hz))).trans e
 have hsz:s.heap.objs.size≤s'.heap.objs.size:=Nat.le_of_eq hs.1.symm
 have hv:∀{v p},VR s.heap Av v p→VR s'.heap Av v p:=fun q=>q.mono hk (fun _ _ n=>n) hsz
 have hvs:∀{v p},VRs s.heap Av v p→VRs s'.heap Av v p:=fun q=>q.mono hk (fun _ _ n=>n) hsz
 have kl:∀{a vs n},s.heap.get? a=some (listObj vs n)→s'.heap.get? a=some (listObj vs n):=fun {a vs n} e=>(hs.2 a fun q=>hl vs n (q ▸ e)).trans e
 have nx:∀{j y},F.names[j]? =some y→j≠i→y≠x:=fun hj n e=>n (names_inj r.nd hj (e ▸ hi))
 refine ⟨r.sc,r.fn,r.gl,r.bl,r.cd,r.ql,fun b o e=>⟨hk _ _ (r.base b o e).1 (r.base b o e).2,(r.base b o e).2⟩,fun a t=>⟨(r.tabs a t).1,?_⟩,r.ma,fun a m=>hs.1 ▸ r.lt a m,hns,r.nsMu,r.nd,by rw [List.length_set];exact r.len,r.cinj,
  fun y hy ho=>hsl y (r.slots y hy ho),fun j y b' hj hb'=>?_,fun j k y w ys ws a hj hk' hy hw vy vw=>?_⟩
 ·exact (r.tabs a t).2.mono (fun o e=>(hs.2 a fun q=>ht (q ▸ t)).trans e) fun b o e n _=>⟨hk b o e n,n⟩
 ·rcases get_set hb' with ⟨e1,e2⟩ | ⟨e1,e2⟩
  ·subst e1;subst e2
   have e3:y=x:=Option.some.inj (hj.symm.trans hi)
   subst e3
   cases b' with
   | none=>trivial
   | froz p=>exact ⟨v,new,hv hb⟩
   | ref a=>subst hb;exact new
   | own xs=>
    obtain ⟨a,vs,n,e,g,m,w,_⟩:=hb
    exact ⟨a,vs,n,e ▸ new,kl g,m,hvs w⟩
   | meth k=>
    obtain ⟨m,a,e,g,n,hne,w⟩:=hb
    refine ⟨m,a,e ▸ new,hk _ _ g n,n,fun y' xs hy' hs'=>?_⟩
    rcases get_set hs' with ⟨e1,_⟩ | ⟨_,e2⟩
    ·exact absurd e1 hne
    ·exact same _ _ (nx hy' hne) (w y' xs hy' e2)
  ·have q:=r.vars j y b' hj e2
   have ny:=nx hj e1
   cases b' with
   | none=>trivial
   | froz p=>obtain ⟨u,p1,p2⟩:=q;exact ⟨u,same _ _ ny p1,hv p2⟩
   | ref a=>exact same _ _ ny q
   | own xs=>obtain ⟨a,vs,n,p1,p2,p3,p4⟩:=q;exact ⟨a,vs,n,same _ _ ny p1,kl p2,p3,hvs p4⟩
   | meth k=>
    obtain ⟨m,a,p1,p2,p3,p4⟩:=q
    refine ⟨m,a,same _ _ ny p1,hk _ _ p2 p3,p3,fun y' xs hy' hs'=>?_⟩
    rcases get_set hs' with ⟨f1,f2⟩ | ⟨f1,f2⟩
    ·subst f1
     cases b with
     | own ws=>
      obtain ⟨_,_,_,_,_,_,_,_,nm⟩:=hb
      exact absurd e2 (nm j)
     | _=>cases f2
    ·exact same _ _ (nx hy' f1) (p4 y' xs hy' f2)
 ·-- no list is held by two
  have back:∀{j y ys a},j≠i→F.names[j]? =some y→st[j]? =some (.own ys)→ValAt s'.heap env y (.ref a)→ValAt s.heap env y (.ref a):=fun {j y ys a} n hj hy vy=>by
   obtain ⟨a',_,_,p,_⟩:=r.vars j y _ hj hy
   have:=(same _ _ (nx hj n) p).unique vy
   exact this ▸ p
  rcases get_set hy with ⟨e1,e2⟩ | ⟨e1,e2⟩<;>rcases get_set hw with ⟨f1,f2⟩ | ⟨f1,f2⟩
  ·exact e1.trans f1.symm
  ·subst e1
   have e3:y=x:=Option.some.inj (hj.symm.trans hi)
   subst e3
   subst e2
   obtain ⟨a',_,_,e,_,_,_,q,_⟩:=hb
   have ea:Value.ref a'=.ref a:=(e ▸ new).unique vy
   cases ea
   exact absurd (back f1 hk' f2 vw) (q k w ws f1 hk' f2)
  ·subst f1
   have e3:w=x:=Option.some.inj (hk'.symm.trans hi)
   subst e3
   subst f2
   obtain ⟨a',_,_,e,_,_,_,q,_⟩:=hb
   have ea:Value.ref a'=.ref a:=(e ▸ new).unique vw
   cases ea
   exact absurd (back e1 hj e2 vy) (q j y ys e1 hj e2)
  ·exact r.inj j k y w ys ws a hj hk' e2 f2 (back e1 hj e2 vy) (back f1 hk' f2 vw)
theorem Step.same {Av Mu:Addr→Prop} {s s':Shared} {z:Addr} (hz:Mu z) (hs:Heap.SameBut z s.heap s'.heap) (ho:s'.os=s.os) (hg:s'.gens=s.gens):Step Av Mu s Av Mu s':=
 ⟨fun a o e n=>(hs.2 a fun q=>n (q ▸ hz)).trans e,fun _ h=>.inl h,fun _ h=>.inl h,fun _ h _=>h,Nat.le_of_eq hs.1.symm,ho,fun h=>hg ▸ h⟩
theorem Step.grown {Av Mu:Addr→Prop} {s s':Shared} (hk:∀a o,s.heap.get? a=some o→s'.heap.get? a=some o) (hs:s.heap.objs.size≤s'.heap.objs.size) (ho:s'.os=s.os) (hg:s'.gens=s.gens):Step Av Mu s Av Mu s':=
 ⟨fun a o e _=>hk a o e,fun _ h=>.inl h,fun _ h=>.inl h,fun _ h _=>h,hs,ho,fun h=>hg ▸ h⟩
theorem wp_store {M:Model} {A:Around} {Q:Unit→Shared→Prop} {E:Value→Shared→Prop} (r:R X F Av Mu env st s) {i:Nat} {x:Str} (hi:F.names[i]? =some x) {v:Value} {b:Bind}
  (hb:NewB s.heap Av Mu env F.names st i v b) (hkind:F.Wr x)
  (k:∀s',R X F Av Mu env (st.set i b) s'→Step Av Mu s Av Mu s'→Q () s'):wpAny M A (storeName env x v) Q E s:=by
 have hfn:env.scope.kind=.function:=by rw [r.sc];exact r.fn
 obtain ⟨hro,hkind⟩:=hkind
 rcases hkind with hk | hk
 ·have hk':env.kindOf x=some .local:=by show env.scope.names.lookup x=_;rw [r.sc];exact hk
  obtain ⟨m,hm⟩:=r.ns
  refine wpAny_storeName_local hk' hm (fun h' hn hs=>k _ ?_ (Step.same r.nsMu hs rfl rfl)) (by rw [hfn];rfl)
  obtain ⟨o,es,ep,ho,hd,_⟩:=hm
  have hnl:∀vs n,s.heap.get? env.locals≠some (listObj vs n):=fun vs n e=>by
   rw [ho] at e;cases e;cases hd
  have hnt:¬ X.Tb env.locals:=fun t=>by
   obtain ⟨ps,e,_⟩:=(r.tabs _ t).2
   rw [ho] at e;cases e;cases hd
  have hnc:∀{c u},s.heap.IsCell c u→c≠env.locals:=fun {c u} q e=>by
   obtain ⟨o',ho',hd'⟩:=q
   rw [e,ho] at ho';cases ho';rw [hd] at hd';cases hd'
  refine R.turn (s:=s) (s':=⟨h',s.gens,s.drawn,s.toks+1,s.os⟩) r r.nsMu hs hnl hnt hi (v:=v) hb (fun y u ny q=>?_) ?_ ⟨_,hn⟩ fun y q=>?_
  ·unfold ValAt at q ⊢
   split at q
   ·obtain ⟨m',hm',e⟩:=q
    refine ⟨_,hn,?_⟩
    rw [if_neg ny,←e]
    exact (Heap.Ns.agree ⟨o,es,ep,ho,hd,‹_›⟩ hm' y)
   ·obtain ⟨c,hc,q⟩:=q
    exact ⟨c,hc,q.sameBut hs (hnc q)⟩
   ·obtain ⟨c,hc,q⟩:=q
    exact ⟨c,hc,q.sameBut hs (hnc q)⟩
   ·exact q.elim
  ·unfold ValAt
   simp only [hk']
   exact ⟨_,hn,by simp⟩
  ·unfold SlotOK at q ⊢
   split at q
   ·trivial
   ·obtain ⟨c,u,hc,q,z⟩:=q
    exact ⟨c,u,hc,q.sameBut hs (hnc q),z⟩
   ·trivial
   ·exact q.elim
 ·have hk':env.kindOf x=some .cell:=by show env.scope.names.lookup x=_;rw [r.sc];exact hk
  have hsl:=r.slots x (List.mem_of_getElem? hi) hro
  unfold SlotOK at hsl
  simp only [hk'] at hsl
  obtain ⟨c,v₀,hc,hv,hmu⟩:=hsl
  refine wpAny_storeName_cell hfn hk' hc hv (fun h' hn hs=>k _ ?_ (Step.same hmu hs rfl rfl))
  obtain ⟨o,ho,hd⟩:=hv
  have hnl:∀vs n,s.heap.get? c≠some (listObj vs n):=fun vs n e=>by
   rw [ho] at e;cases e;cases hd
  have hnt:¬ X.Tb c:=fun t=>by
   obtain ⟨ps,e,_⟩:=(r.tabs _ t).2
   rw [ho] at e;cases e;cases hd
  have hnL:∀{L m},s.heap.Ns L m→L≠c:=fun {L m} q e=>by
   obtain ⟨o',es,ep,ho',hd',_⟩:=q
   rw [e,ho] at ho';cases ho';rw [hd] at hd';cases hd'
  refine R.turn (s:=s) (s':=⟨h',s.gens,s.drawn,s.toks,s.os⟩) r hmu hs hnl hnt hi (v:=v) hb (fun y u ny q=>?_) ?_ ?_ fun y q=>?_
  ·unfold ValAt at q ⊢
   split at q
   ·obtain ⟨m',hm',e⟩:=q
    exact ⟨m',hm'.sameBut hs (hnL hm'),e⟩
   ·obtain ⟨c',hc',q⟩:=q
    exact ⟨c',hc',q.sameBut hs fun e=>ny (r.cinj _ _ c (e ▸ hc') hc)⟩
   ·obtain ⟨c',hc',q⟩:=q
    exact ⟨c',hc',q.sameBut hs fun e=>ny (r.cinj _ _ c (e ▸ hc') hc)⟩
   ·exact q.elim
  ·unfold ValAt
   simp only [hk']
   exact ⟨c,hc,hn⟩
  ·obtain ⟨m,hm⟩:=r.ns
   exact ⟨m,hm.sameBut hs (hnL hm)⟩
  ·unfold SlotOK at q ⊢
   split at q
   ·trivial
   ·obtain ⟨c',u,hc',q,z⟩:=q
    by_cases e:c'=c
    ·subst e
     exact ⟨c',_,hc',hn,z⟩
    ·exact ⟨c',u,hc',q.sameBut hs e,z⟩
   ·trivial
   ·exact q.elim
end
theorem au1 (_:True:=by intro _ _;rfl):True:=trivial
theorem au2 (_:True:=by rfl):True:=trivial
theorem au3 (_:True:=by decide+kernel):True:=trivial
theorem au4 (_:True:=by intro _;rfl):True:=trivial
theorem au5 (_:True:=by intro _ q;cases q):True:=trivial
theorem au6 (_:True:=by intro env h;unfold interactive;rw [h];rfl):True:=trivial
theorem au7 (_:True:=by intro _ _ _;rfl):True:=trivial
theorem au8 (_:True:=by decide):True:=trivial
theorem au9 (_:True:=by with_unfolding_all rfl):True:=trivial
theorem au10 (_:True:=by intro _ _;exact ⟨_,rfl⟩):True:=trivial
theorem runs_toks {M:Model} {Γ :Ctx} {p:Pos} {t:Sem Fin} {fs:List Frame} {s s':Shared} {e:End} (h:Runs M Γ p t fs s e s'):s.toks≤s'.toks:=by
 induction h with
 | done=>exact Nat.le_refl _
 | raise=>exact Nat.le_refl _
 | fresh _ ih=>exact Nat.le_of_succ_le ih
 | call _ _ ih1 ih2=>exact Nat.le_trans ih1 ih2
 | callSusp _ ih=>exact ih
 | yield=>exact Nat.le_refl _
 | resumeFresh _ _ _ _ ih1 ih2=>exact Nat.le_trans ih1 ih2
 | resumeSuspended _ _ _ _ ih1 ih2=>exact Nat.le_trans ih1 ih2
 | segRet _ _ ih1 ih2=>exact Nat.le_trans ih1 ih2
 | segGen _ _ ih1 ih2=>exact Nat.le_trans ih1 ih2
 | segSuspOut _ _ ih=>exact ih
 | segSuspGen _ _ _ _ ih1 ih2=>exact Nat.le_trans ih1 ih2
 | _=>assumption
theorem wakes_toks {M:Model} {Γ :Ctx} {p:Pos} {g:Nat} {r:Resume} {s s':Shared} {res:GenResult} (h:Wakes M Γ p g r s res s'):s.toks≤s'.toks:=by
 unfold Wakes at h
 split at h
 ·exact h.elim
 ·split at h
  ·obtain ⟨e₁,s₁,hr,_,_,rfl⟩:=h
   have:=runs_toks hr
   exact this
  ·exact Nat.le_of_eq (congrArg Shared.toks h.2.symm)
  ·exact Nat.le_of_eq (congrArg Shared.toks h.2).symm
 ·obtain ⟨e₁,s₁,hr,_,_,rfl⟩:=h
  have:=runs_toks hr
  exact this
 ·exact Nat.le_of_eq (congrArg Shared.toks h.2.symm)
 ·exact Nat.le_of_eq (congrArg Shared.toks h.2.symm)
open PySem.Sem in
theorem wp_toks {α:Type} (M:Model) (Γ :Ctx) (t:Sem α):∀(Q:α→Pos→Shared→Prop) (E:Value→Pos→Shared→Prop) (p:Pos) (s:Shared) (n:Nat),n≤s.toks→
  wp M Γ t Q E p s→wp M Γ t (fun a p' s'=>Q a p' s'∧n≤s'.toks) E p s:=by
 induction t with
 | pure a=>intro Q E p s n hn h;rw [wp] at h ⊢;exact ⟨h,hn⟩
 | raise e=>intro Q E p s n hn h;rw [wp] at h ⊢;exact h
 | unsupported _=>intro Q E p s n hn h;rw [wp] at h;exact h.elim
 | finish _=>intro Q E p s n hn h;rw [wp] at h;exact h.elim
 | rule _ k ih=>intro Q E p s n hn h;rw [wp] at h ⊢;exact ih _ _ _ _ _ _ hn h
 | «at» _ k ih=>intro Q E p s n hn h;rw [wp] at h ⊢;exact ih _ _ _ _ _ _ hn h
 | load a _ k ih=>intro Q E p s n hn h;rw [wp] at h ⊢;obtain ⟨o,e,h⟩:=h;exact ⟨o,e,ih _ _ _ _ _ _ hn h⟩
 | update a _ f k ih=>intro Q E p s n hn h;rw [wp] at h ⊢;exact ⟨h.1,ih () _ _ _ _ n hn h.2⟩
 | alloc o k ih=>intro Q E p s n hn h;rw [wp] at h ⊢;exact ih _ _ _ _ _ n hn h
 | loadIfAlive a k ih=>intro Q E p s n hn h;rw [wp] at h ⊢;exact ih _ _ _ _ _ _ hn h
 | point _ k ih=>intro Q E p s n hn h;rw [wp] at h ⊢;exact ih _ _ _ _ _ _ hn h
 | register _ _ _=>intro Q E p s n hn h;rw [wp] at h;exact h.elim
 | fresh k ih=>intro Q E p s n hn h;rw [wp] at h ⊢;exact ih _ _ _ _ { s with toks:=s.toks+1 } n (Nat.le_succ_of_le hn) h
 | ask k ih=>intro Q E p s n hn h;rw [wp] at h ⊢;exact ih _ _ _ _ _ _ hn h
 | choose src m k ih=>intro Q E p s n hn h;rw [wp] at h ⊢;exact ⟨h.1,ih _ _ _ _ { s with drawn:=s.drawn.bump src } n hn h.2⟩
 | os q _ k ih=>intro Q E p s n hn h;rw [wp] at h ⊢;exact ih _ _ _ _ { s with os:=(Os.step s.os q).1 } n hn h
 | call c hd _ _ k ih=>
  intro Q E p s n hn h
  rw [wp] at h ⊢
  obtain ⟨r,s',hr,h⟩:=h
  exact ⟨r,s',hr,ih _ _ _ _ s' n (Nat.le_trans hn (runs_toks hr)) h⟩
 | handled own k ih=>intro Q E p s n hn h;rw [wp] at h ⊢;exact ih _ _ _ _ _ _ hn h
 | newGen c k ih=>intro Q E p s n hn h;rw [wp] at h ⊢;exact ih _ _ _ _ { s with gens:=s.gens.push (.fresh c) } n hn h
 | genState g k ih=>intro Q E p s n hn h;rw [wp] at h ⊢;obtain ⟨o,e,h⟩:=h;exact ⟨o,e,ih _ _ _ _ _ _ hn h⟩
 | resume g r _ k ih=>
  intro Q E p s n hn h
  rw [wp] at h ⊢
  obtain ⟨res,s',hr,h⟩:=h
  exact ⟨res,s',hr,ih _ _ _ _ s' n (Nat.le_trans hn (wakes_toks hr)) h⟩
 | yield _ _ _ _ _=>intro Q E p s n hn h;rw [wp] at h;exact h.elim
 | stack k ih=>intro Q E p s n hn h;rw [wp] at h ⊢;exact ih _ _ _ _ _ _ hn h
 | fork _ _ _=>intro Q E p s n hn h;rw [wp] at h;exact h.elim
 | thread k ih=>intro Q E p s n hn h;rw [wp] at h ⊢;exact ih _ _ _ _ _ _ hn h
 | await _ _ _ _ _ _=>intro Q E p s n hn h;rw [wp] at h;exact h.elim
theorem wpAny_toks {α:Type} {M:Model} {A:Around} {t:Sem α} {Q:α→Shared→Prop} {E:Value→Shared→Prop} {s:Shared} (h:wpAny M A t Q E s):wpAny M A t (fun a s'=>Q a s'∧s.toks≤s'.toks) E s:=
 fun Γ p hΓ =>wp_toks M Γ t _ _ p s s.toks (Nat.le_refl _) (h Γ p hΓ)
theorem runs_size {M:Model} {Γ :Ctx} {p:Pos} {t:Sem Fin} {fs:List Frame} {s s':Shared} {e:End} (h:Runs M Γ p t fs s e s'):s.heap.objs.size≤s'.heap.objs.size:=by
 induction h with
 | done=>exact Nat.le_refl _
 | raise=>exact Nat.le_refl _
 | alloc _ ih=>exact Nat.le_trans (by simp) ih
 | update _ _ ih=>exact Nat.le_trans (by simp) ih
 | call _ _ ih1 ih2=>exact Nat.le_trans ih1 ih2
 | callSusp _ ih=>exact ih
 | yield=>exact Nat.le_refl _
 | resumeFresh _ _ _ _ ih1 ih2=>exact Nat.le_trans ih1 ih2
 | resumeSuspended _ _ _ _ ih1 ih2=>exact Nat.le_trans ih1 ih2
 | segRet _ _ ih1 ih2=>exact Nat.le_trans ih1 ih2
 | segGen _ _ ih1 ih2=>exact Nat.le_trans ih1 ih2
 | segSuspOut _ _ ih=>exact ih
 | segSuspGen _ _ _ _ ih1 ih2=>exact Nat.le_trans ih1 ih2
 | _=>assumption
theorem wakes_size {M:Model} {Γ :Ctx} {p:Pos} {g:Nat} {r:Resume} {s s':Shared} {res:GenResult} (h:Wakes M Γ p g r s res s'):s.heap.objs.size≤s'.heap.objs.size:=by
 unfold Wakes at h
 split at h
 ·exact h.elim
 ·split at h
  ·obtain ⟨e₁,s₁,hr,_,_,rfl⟩:=h
   have:=runs_size hr
   exact this
  ·exact Nat.le_of_eq (congrArg (fun s:Shared=>s.heap.objs.size) h.2.symm)
  ·exact Nat.le_of_eq (congrArg (fun s:Shared=>s.heap.objs.size) h.2).symm
 ·obtain ⟨e₁,s₁,hr,_,_,rfl⟩:=h
  have:=runs_size hr
  exact this
 ·exact Nat.le_of_eq (congrArg (fun s:Shared=>s.heap.objs.size) h.2.symm)
 ·exact Nat.le_of_eq (congrArg (fun s:Shared=>s.heap.objs.size) h.2.symm)
open PySem.Sem in
theorem wp_size {α:Type} (M:Model) (Γ :Ctx) (t:Sem α):∀(Q:α→Pos→Shared→Prop) (E:Value→Pos→Shared→Prop) (p:Pos) (s:Shared) (n:Nat),n≤s.heap.objs.size→
  wp M Γ t Q E p s→wp M Γ t (fun a p' s'=>Q a p' s'∧n≤s'.heap.objs.size) E p s:=by
 induction t with
 | pure a=>intro Q E p s n hn h;rw [wp] at h ⊢;exact ⟨h,hn⟩
 | raise e=>intro Q E p s n hn h;rw [wp] at h ⊢;exact h
 | unsupported _=>intro Q E p s n hn h;rw [wp] at h;exact h.elim
 | finish _=>intro Q E p s n hn h;rw [wp] at h;exact h.elim
 | rule _ k ih=>intro Q E p s n hn h;rw [wp] at h ⊢;exact ih _ _ _ _ _ _ hn h
 | «at» _ k ih=>intro Q E p s n hn h;rw [wp] at h ⊢;exact ih _ _ _ _ _ _ hn h
 | load a _ k ih=>intro Q E p s n hn h;rw [wp] at h ⊢;obtain ⟨o,e,h⟩:=h;exact ⟨o,e,ih _ _ _ _ _ _ hn h⟩
 | update a _ f k ih=>intro Q E p s n hn h;rw [wp] at h ⊢;exact ⟨h.1,ih () _ _ _ { s with heap:=s.heap.update a f } n (by simpa using hn) h.2⟩
 | alloc o k ih=>intro Q E p s n hn h;rw [wp] at h ⊢;exact ih _ _ _ _ { s with heap:=s.heap.push o } n (by simp;lia) h
 | loadIfAlive a k ih=>intro Q E p s n hn h;rw [wp] at h ⊢;exact ih _ _ _ _ _ _ hn h
 | point _ k ih=>intro Q E p s n hn h;rw [wp] at h ⊢;exact ih _ _ _ _ _ _ hn h
 | register _ _ _=>intro Q E p s n hn h;rw [wp] at h;exact h.elim
 | fresh k ih=>intro Q E p s n hn h;rw [wp] at h ⊢;exact ih _ _ _ _ { s with toks:=s.toks+1 } n hn h
 | ask k ih=>intro Q E p s n hn h;rw [wp] at h ⊢;exact ih _ _ _ _ _ _ hn h
 | choose src m k ih=>intro Q E p s n hn h;rw [wp] at h ⊢;exact ⟨h.1,ih _ _ _ _ { s with drawn:=s.drawn.bump src } n hn h.2⟩
 | os q _ k ih=>intro Q E p s n hn h;rw [wp] at h ⊢;exact ih _ _ _ _ { s with os:=(Os.step s.os q).1 } n hn h
 | call c hd _ _ k ih=>
  intro Q E p s n hn h
  rw [wp] at h ⊢
  obtain ⟨r,s',hr,h⟩:=h
  exact ⟨r,s',hr,ih _ _ _ _ s' n (Nat.le_trans hn (runs_size hr)) h⟩
 | handled own k ih=>intro Q E p s n hn h;rw [wp] at h ⊢;exact ih _ _ _ _ _ _ hn h
 | newGen c k ih=>intro Q E p s n hn h;rw [wp] at h ⊢;exact ih _ _ _ _ { s with gens:=s.gens.push (.fresh c) } n hn h
 | genState g k ih=>intro Q E p s n hn h;rw [wp] at h ⊢;obtain ⟨o,e,h⟩:=h;exact ⟨o,e,ih _ _ _ _ _ _ hn h⟩
 | resume g r _ k ih=>
  intro Q E p s n hn h
  rw [wp] at h ⊢
  obtain ⟨res,s',hr,h⟩:=h
  exact ⟨res,s',hr,ih _ _ _ _ s' n (Nat.le_trans hn (wakes_size hr)) h⟩
 | yield _ _ _ _ _=>intro Q E p s n hn h;rw [wp] at h;exact h.elim
 | stack k ih=>intro Q E p s n hn h;rw [wp] at h ⊢;exact ih _ _ _ _ _ _ hn h
 | fork _ _ _=>intro Q E p s n hn h;rw [wp] at h;exact h.elim
 | thread k ih=>intro Q E p s n hn h;rw [wp] at h ⊢;exact ih _ _ _ _ _ _ hn h
 | await _ _ _ _ _ _=>intro Q E p s n hn h;rw [wp] at h;exact h.elim
theorem wpAny_size {α:Type} {M:Model} {A:Around} {t:Sem α} {Q:α→Shared→Prop} {E:Value→Shared→Prop} {s:Shared} (h:wpAny M A t Q E s):wpAny M A t (fun a s'=>Q a s'∧s.heap.objs.size≤s'.heap.objs.size) E s:=
 fun Γ p hΓ =>wp_size M Γ t _ _ p s s.heap.objs.size (Nat.le_refl _) (h Γ p hΓ)
structure Grow (s s':Shared):Prop where
 keep:∀a o,s.heap.get? a=some o→s'.heap.get? a=some o
 size:s.heap.objs.size≤s'.heap.objs.size
 os:s'.os=s.os
 gens:s'.gens=s.gens
theorem Grow.refl (s:Shared):Grow s s:=⟨fun _ _ e=>e,Nat.le_refl _,rfl,rfl⟩
theorem Grow.toks {s:Shared} {tk:Nat} {d:Drawn}:Grow s { heap:=s.heap,gens:=s.gens,drawn:=d,toks:=tk,os:=s.os }:=⟨fun _ _ e=>e,Nat.le_refl _,rfl,rfl⟩
theorem Grow.push {s:Shared} (o:Obj) {tk:Nat} {d:Drawn}:Grow s { heap:=s.heap.push o,gens:=s.gens,drawn:=d,toks:=tk,os:=s.os }:=
 ⟨fun _ _ e=>Heap.get?_push_of_some _ e,by simp,rfl,rfl⟩
theorem Grow.trans {s s' s'':Shared} (x:Grow s s') (y:Grow s' s''):Grow s s'':=
 ⟨fun a o e=>y.keep a o (x.keep a o e),Nat.le_trans x.size y.size,y.os.trans x.os,y.gens.trans x.gens⟩
section
variable {X:Cx} {F:FI} {Av Mu:Addr→Prop} {env:Env} {st:St} {s s':Shared}
theorem R.grow (r:R X F Av Mu env st s) (g:Grow s s'):R X F Av Mu env st s':=r.keep g.keep g.size
theorem Step.ofGrow (g:Grow s s'):Step Av Mu s Av Mu s':=Step.grown g.keep g.size g.os g.gens
theorem VR.grow {v:Value} {p:PV} (x:VR s.heap Av v p) (g:Grow s s'):VR s'.heap Av v p:=x.mono (fun a o e _=>g.keep a o e) (fun _ _ n=>n) g.size
theorem VRs.grow {v:List Value} {p:List PV} (x:VRs s.heap Av v p) (g:Grow s s'):VRs s'.heap Av v p:=x.mono (fun a o e _=>g.keep a o e) (fun _ _ n=>n) g.size
end
set_option genInjectivity false in
structure StepE (env:Env) (Av Mu:Addr→Prop) (s:Shared) (Av' Mu':Addr→Prop) (s':Shared):Prop extends Step Av Mu s Av' Mu' s' where
 vals:∀x v,ValAt s.heap env x v→ValAt s'.heap env x v
theorem StepE.refl {env:Env} {Av Mu:Addr→Prop} {s:Shared}:StepE env Av Mu s Av Mu s:=⟨Step.refl,fun _ _ h=>h⟩
theorem StepE.trans {env:Env} {Av Mu Av' Mu' Av'' Mu'':Addr→Prop} {s s' s'':Shared} (x:StepE env Av Mu s Av' Mu' s') (y:StepE env Av' Mu' s' Av'' Mu'' s'') (hm:∀a,Av a→a < s.heap.objs.size):StepE env Av Mu s Av'' Mu'' s'':=
 ⟨x.toStep.trans y.toStep hm,fun n v h=>y.vals n v (x.vals n v h)⟩
theorem StepE.ofGrow {env:Env} {Av Mu:Addr→Prop} {s s':Shared} (g:Grow s s'):StepE env Av Mu s Av Mu s':=⟨Step.ofGrow g,fun _ _ h=>h.keep fun a o e _=>g.keep a o e⟩
noncomputable def Room (d:Nat) (A:Around):Prop:=A.handled=none∧A.depth+20 * d < 690∧A.units+100 * d < 9000
set_option genInjectivity false in
inductive Fl where
 | next | brk | ret (p:PV)
 deriving Inhabited
noncomputable abbrev EvE:=St→Option (PV×St)
noncomputable abbrev EvB:=St→Option (Bool×St)
noncomputable abbrev EvS:=St→Option (Fl×St)
noncomputable def FlR (h:Heap) (Av:Addr→Prop):Flow→Fl→Prop
 | .next,.next=>True
 | .brk,.brk=>True
 | .ret v,.ret p=>VR h Av v p
 | _,_=>False
noncomputable def SoundT (X:Cx) (F:FI) (d:Nat) {α β:Type} (rel:Heap→(Addr→Prop)→α→β→Prop) (t:Env→Sem α) (f:St→Option (β×St)):Prop:=
 ∀(A:Around) {Av Mu:Addr→Prop} {env:Env} {st st':St} {s:Shared} {v:β} {Q:α→Shared→Prop} {E:Value→Shared→Prop},
  Room d A→f st=some (v,st')→R X F Av Mu env st s→1≤s.toks→
  (∀x s' Av' Mu',R X F Av' Mu' env st' s'→StepE env Av Mu s Av' Mu' s'→rel s'.heap Av' x v→1≤s'.toks→Q x s')→wpAny (model X.prog X.w) A (t env) Q E s
theorem SoundT.intro {X:Cx} {F:FI} {d:Nat} {α β:Type} {rel:Heap→(Addr→Prop)→α→β→Prop} {t:Env→Sem α} {f:St→Option (β×St)}
  (h:∀{A:Around} {Av Mu:Addr→Prop} {env:Env} {st st':St} {s:Shared} {v:β} {Q:α→Shared→Prop} {E:Value→Shared→Prop},
   Room d A→f st=some (v,st')→R X F Av Mu env st s→1≤s.toks→
   (∀x s' Av' Mu',R X F Av' Mu' env st' s'→StepE env Av Mu s Av' Mu' s'→rel s'.heap Av' x v→Q x s')→wpAny (model X.prog X.w) A (t env) Q E s):SoundT X F d rel t f:=by
 intro A Av Mu env st st' s v Q E hA hf r tk k
 exact wpAny_mono (wpAny_toks (h (Q:=fun x s'=>1≤s'.toks→Q x s') hA hf r tk fun x s' Av' Mu' R' S' V' t'=>k x s' Av' Mu' R' S' V' t')) (fun x s' q=>q.1 (Nat.le_trans tk q.2)) fun _ _ e=>e
noncomputable def SoundU (X:Cx) (F:FI) (d:Nat) {α β:Type} (rel:Heap→(Addr→Prop)→α→β→Prop) (t:Env→Sem α) (f:St→Option (β×St)):Prop:=
 ∀(A:Around) {Av Mu:Addr→Prop} {env:Env} {st st':St} {s:Shared} {v:β} {Q:α→Shared→Prop} {E:Value→Shared→Prop},
  Room d A→f st=some (v,st')→R X F Av Mu env st s→1≤s.toks→
  (∀x s' Av' Mu',R X F Av' Mu' env st' s'→Step Av Mu s Av' Mu' s'→rel s'.heap Av' x v→1≤s'.toks→Q x s')→wpAny (model X.prog X.w) A (t env) Q E s
theorem SoundU.intro {X:Cx} {F:FI} {d:Nat} {α β:Type} {rel:Heap→(Addr→Prop)→α→β→Prop} {t:Env→Sem α} {f:St→Option (β×St)}
  (h:∀{A:Around} {Av Mu:Addr→Prop} {env:Env} {st st':St} {s:Shared} {v:β} {Q:α→Shared→Prop} {E:Value→Shared→Prop},
   Room d A→f st=some (v,st')→R X F Av Mu env st s→1≤s.toks→
   (∀x s' Av' Mu',R X F Av' Mu' env st' s'→Step Av Mu s Av' Mu' s'→rel s'.heap Av' x v→Q x s')→wpAny (model X.prog X.w) A (t env) Q E s):SoundU X F d rel t f:=by
 intro A Av Mu env st st' s v Q E hA hf r tk k
 exact wpAny_mono (wpAny_toks (h (Q:=fun x s'=>1≤s'.toks→Q x s') hA hf r tk fun x s' Av' Mu' R' S' V' t'=>k x s' Av' Mu' R' S' V' t')) (fun x s' q=>q.1 (Nat.le_trans tk q.2)) fun _ _ e=>e
noncomputable def SoundE (X:Cx) (F:FI) (d:Nat) (e:Expr) (f:EvE):Prop:=SoundT X F d VR (eval e) f
noncomputable def BR (h:Heap) (Av:Addr→Prop) (b b':Bool):Prop:=b=b'
noncomputable def SoundB (X:Cx) (F:FI) (d:Nat) (e:Expr) (f:EvB):Prop:=SoundT X F d BR (fun env=>isTrue e env (eval e env)) f
noncomputable def SoundX (X:Cx) (F:FI) (d:Nat) (c:Stmt) (f:EvS):Prop:=SoundU X F d FlR (exec c) f
noncomputable def SoundS (X:Cx) (F:FI) (d:Nat) (c:List Stmt) (f:EvS):Prop:=SoundU X F d FlR (execs c) f
noncomputable def bindE {α β:Type} (f:St→Option (α×St)) (g:α→St→Option (β×St)):St→Option (β×St):=fun st=>match f st with
 | some p=>g p.1 p.2
 | none=>none
noncomputable def pureE {α:Type} (a:α):St→Option (α×St):=fun st=>some (a,st)
noncomputable def liftE {α:Type} (a:Option α):St→Option (α×St):=fun st=>match a with
 | some x=>some (x,st)
 | none=>none
set_option tactic.hygienic true in
theorem bindE_some {α β:Type} {f:St→Option (α×St)} {g:α→St→Option (β×St)} {st st':St} {v:β} (h:bindE f g st=some (v,st')):∃a st1,f st=some (a,st1)∧g a st1=some (v,st'):=by
 unfold bindE at h
 split at h
 ·rename_i p e
  exact ⟨p.1,p.2,e,h⟩
 ·cases h
theorem bindE_elim {α β:Type} {C:Prop} {f:St→Option (α×St)} {g:α→St→Option (β×St)} {st st':St} {v:β} (h:bindE f g st=some (v,st')) (k:∀a st1,f st=some (a,st1)→g a st1=some (v,st')→C):C:=let ⟨a,st1,h1,h2⟩:=bindE_some h;k a st1 h1 h2
theorem liftE_some {α:Type} {a:Option α} {st st':St} {v:α} (h:liftE a st=some (v,st')):a=some v∧st'=st:=by
 unfold liftE at h
 split at h
 ·cases h;exact ⟨rfl,rfl⟩
 ·cases h
section
variable {X:Cx} {F:FI} {d:Nat}
theorem s_int {i:Int} {k:Nat} {pos:Pos}:SoundE X F d (.Constant (.int i) k pos) (pureE (.int i)):=by
 refine @SoundT.intro _ _ _ _ _ _ _ _ ?_
 intro A Av Mu env st st' s v Q E hr hf r tk k'
 cases hf
 exact wpAny_Constant_int (k' _ _ _ _ r.toks (StepE.ofGrow .toks) (by unfold VR;exact ⟨_,rfl⟩))
theorem s_str {x:Str} {k:Nat} {pos:Pos}:SoundE X F d (.Constant (.str x) k pos) (pureE (.str x)):=by
 refine @SoundT.intro _ _ _ _ _ _ _ _ ?_
 intro A Av Mu env st st' s v Q E hr hf r tk k'
 cases hf
 exact Calls.Constant_str (k' _ _ _ _ r.toks (StepE.ofGrow .toks) (by unfold VR;exact ⟨_,rfl⟩))
theorem s_true {b:Bool} {k:Nat} {pos:Pos}:SoundE X F d (.Constant (.bool b) k pos) (pureE (.bool b)):=by
 refine @SoundT.intro _ _ _ _ _ _ _ _ ?_
 intro A Av Mu env st st' s v Q E hr hf r tk k'
 cases hf
 exact wpAny_pure (k' _ _ _ _ r StepE.refl (by unfold VR;rfl))
theorem wp_load {M:Model} {A:Around} {Q:Value→Shared→Prop} {E:Value→Shared→Prop} {Av Mu:Addr→Prop} {env:Env} {st:St} {s:Shared} (r:R X F Av Mu env st s) {x:Str} {v:Value} (hv:ValAt s.heap env x v)
  (hn:(x==("__classdict__":Str))=false) (k:Q v s):wpAny M A (loadName env x) Q E s:=by
 have hfn:env.scope.kind=.function:=by rw [r.sc];exact r.fn
 unfold ValAt at hv
 cases hk:env.kindOf x with
 | none=>simp only [hk] at hv
 | some kd=>
  cases kd<;>simp only [hk] at hv
  ·obtain ⟨m,hm,e⟩:=hv
   exact wpAny_loadName_local hfn hk hm e k
  ·obtain ⟨c,hc,q⟩:=hv
   exact wpAny_loadName_cell hfn hk hc q k
  ·obtain ⟨c,hc,q⟩:=hv
   exact wpAny_loadName_free hfn hk hc q k hn
theorem R.freeze {Av Mu:Addr→Prop} {env:Env} {st:St} {s:Shared} (r:R X F Av Mu env st s) {i:Nat} {x:Str} (hi:F.names[i]? =some x) {xs:List PV} (hs:st[i]? =some (.own xs)):
    ∃Av' Mu' v,R X F Av' Mu' env (st.set i (.froz (.list xs))) s∧Step Av Mu s Av' Mu' s∧ValAt s.heap env x v∧VR s.heap Av' v (.list xs):=by
  obtain ⟨a,vs,n,p,e,m,z⟩:=r.vars i x _ hi hs
  have nt:¬ X.Tb a:=fun t=>by
    obtain ⟨ps,q,_⟩:=(r.tabs a t).2
    rw [e] at q;cases q
  have hv:∀{v p},VR s.heap Av v p→VR s.heap (fun b=>Av b∧b≠a) v p:=fun q=>q.mono (fun _ _ e _=>e) (fun _ _ n q=>n q.1) (Nat.le_refl _)
  have hvs:∀{v p},VRs s.heap Av v p→VRs s.heap (fun b=>Av b∧b≠a) v p:=fun q=>q.mono (fun _ _ e _=>e) (fun _ _ n q=>n q.1) (Nat.le_refl _)
  have hV:VR s.heap (fun b=>Av b∧b≠a) (.ref a) (.list xs):=by
    unfold VR
    exact ⟨a,vs,n,rfl,e,fun q=>q.2 rfl,hvs z⟩
  refine ⟨fun b=>Av b∧b≠a,fun b=>Mu b∧b≠a,.ref a,?_,?_,p,hV⟩
  · refine ⟨r.sc,r.fn,r.gl,r.bl,r.cd,r.ql,fun b o e'=>⟨(r.base b o e').1,fun q=>(r.base b o e').2 q.1⟩,fun b t=>⟨⟨(r.tabs b t).1,fun q=>nt (q ▸ t)⟩,(r.tabs b t).2.mono (fun _ e=>e) fun _ _ e n _=>⟨e,fun q=>n q.1⟩⟩,fun b q=>⟨r.ma b q.1,q.2⟩,fun b q=>r.lt b q.1,r.ns,⟨r.nsMu,fun q=>?_⟩,r.nd,
      by rw [List.length_set];exact r.len,r.cinj,fun y hy hro=>?_,fun j y b hj hb=>?_,fun j k y w ys ws b hj hk hy hw=>?_⟩
    · obtain ⟨m',o,es,ep,ho,hd,_⟩:=r.ns
      rw [q,e] at ho;cases ho;cases hd
    · have q:=r.slots y hy hro
      unfold SlotOK at q ⊢
      split at q
      · trivial
      · obtain ⟨c,u,hc,hq,hm⟩:=q
        refine ⟨c,u,hc,hq,hm,fun q'=>?_⟩
        obtain ⟨o,ho,hd⟩:=hq
        rw [q',e] at ho;cases ho;cases hd
      · trivial
      · exact q.elim
    · rcases get_set hb with ⟨e1,e2⟩ | ⟨e1,e2⟩
      · subst e1;subst e2
        have e3:y=x:=Option.some.inj (hj.symm.trans hi)
        subst e3
        exact ⟨_,p,hV⟩
      · have q:=r.vars j y b hj e2
        cases b with
        | none=>trivial
        | froz p=>obtain ⟨u,p1,p2⟩:=q;exact ⟨u,p1,hv p2⟩
        | ref a=>exact q
        | own ys=>
          obtain ⟨b,us,n',p1,p2,p3,p4⟩:=q
          refine ⟨b,us,n',p1,p2,⟨p3,fun q=>?_⟩,hvs p4⟩
          subst q
          exact e1 (r.inj j i y x ys xs b hj hi e2 hs p1 p)
        | meth k=>
          obtain ⟨m',a',p1,p2,p3,p4⟩:=q
          refine ⟨m',a',p1,p2,fun q=>p3 q.1,fun y' ws hy' hs'=>?_⟩
          rcases get_set hs' with ⟨_,f2⟩ | ⟨_,f2⟩
          · cases f2
          · exact p4 y' ws hy' f2
    · rcases get_set hy with ⟨_,e2⟩ | ⟨_,e2⟩
      · cases e2
      rcases get_set hw with ⟨_,f2⟩ | ⟨_,f2⟩
      · cases f2
      exact r.inj j k y w ys ws b hj hk e2 f2
  · exact ⟨fun _ _ e _=>e,fun b q=>.inl q.1,fun b q=>.inl q.1,fun b q n=>⟨q,fun z=>n (z ▸ m)⟩,Nat.le_refl _,rfl,id⟩
noncomputable def getV (i:Nat):EvE:=fun st=>match st[i]? with
 | some (.froz p)=>some (p,st)
 | some (.own xs)=>some (.list xs,st.set i (.froz (.list xs)))
 | _=>none
set_option tactic.hygienic true in
theorem wp_getV {M:Model} {A:Around} {Q:Value→Shared→Prop} {E:Value→Shared→Prop} {Av Mu:Addr→Prop} {env:Env} {st st':St} {s:Shared} {p:PV} (r:R X F Av Mu env st s) {i:Nat} {x:Str} (hi:F.names[i]? =some x)
  (hf:getV i st=some (p,st')) (hn:(x==("__classdict__":Str))=false)
  (k:∀v Av' Mu',R X F Av' Mu' env st' s→StepE env Av Mu s Av' Mu' s→VR s.heap Av' v p→Q v s):wpAny M A (loadName env x) Q E s:=by
 unfold getV at hf
 split at hf
 ·rename_i p' e
  cases hf
  obtain ⟨v,hv,q⟩:=r.vars i x _ hi e
  exact wp_load r hv hn (k v Av Mu r StepE.refl q)
 ·rename_i xs e
  cases hf
  obtain ⟨Av',Mu',v,r',S,hv,q⟩:=r.freeze hi e
  exact wp_load r' hv hn (k v Av' Mu' r' ⟨S,fun _ _ h=>h⟩ q)
 ·cases hf
theorem s_name {x:Str} {pos:Pos} {i:Nat} (hi:F.names[i]? =some x) (hn:autoParam ((x==("__classdict__":Str))=false) Mine.au3._auto_1) (hd:autoParam ((x==("__debug__":Str))=false) Mine.au3._auto_1):SoundE X F d (.Name x pos) (getV i):=by
 refine @SoundT.intro _ _ _ _ _ _ _ _ ?_
 intro A Av Mu env st st' s v Q E hr hf r tk k
 exact wpAny_Name (wp_getV r hi hf hn fun u Av' Mu' r' S q=>k _ _ _ _ r' S q) hd
noncomputable def asInt:PV→Option Int
 | .int x=>some x
 | _=>none
noncomputable def asStr:PV→Option Str
 | .str x=>some x
 | _=>none
noncomputable def asList:PV→Option (List PV)
 | .list xs=>some xs
 | _=>none
theorem asList_some {p:PV} {xs:List PV} (h:asList p=some xs):p=.list xs:=by cases p<;>cases h;rfl
theorem asInt_some {p:PV} {i:Int} (h:asInt p=some i):p=.int i:=by cases p<;>cases h;rfl
theorem asStr_some {p:PV} {x:Str} (h:asStr p=some x):p=.str x:=by cases p<;>cases h;rfl
noncomputable def onI {α:Type} (a b:PV) (f:Int→Int→Option α):Option α:=(asInt a).bind fun x=>(asInt b).bind (f x)
noncomputable def onS {α:Type} (a b:PV) (f:Str→Str→Option α):Option α:=(asStr a).bind fun x=>(asStr b).bind (f x)
theorem onI_some {α:Type} {a b:PV} {f:Int→Int→Option α} {c:α} (h:onI a b f=some c):∃x y,a=.int x∧b=.int y∧f x y=some c:=by
 obtain ⟨x,h1,h⟩:=Option.bind_eq_some_iff.mp h
 obtain ⟨y,h2,h⟩:=Option.bind_eq_some_iff.mp h
 exact ⟨x,y,asInt_some h1,asInt_some h2,h⟩
theorem onS_some {α:Type} {a b:PV} {f:Str→Str→Option α} {c:α} (h:onS a b f=some c):∃x y,a=.str x∧b=.str y∧f x y=some c:=by
 obtain ⟨x,h1,h⟩:=Option.bind_eq_some_iff.mp h
 obtain ⟨y,h2,h⟩:=Option.bind_eq_some_iff.mp h
 exact ⟨x,y,asStr_some h1,asStr_some h2,h⟩
theorem or_some {α:Type} {x y:Option α} {c:α} (h:x.or y=some c):x=some c∨y=some c:=by
 cases x with
 | none=>exact .inr h
 | some _=>exact .inl h
theorem when_some {α:Type} {p:Prop} [Decidable p] {x c:α} (h:(if p then some x else none)=some c):p∧x=c:=by
 by_cases hp:p
 ·rw [if_pos hp] at h;exact ⟨hp,Option.some.inj h⟩
 ·rw [if_neg hp] at h;cases h
noncomputable def addS (a b:PV):Option PV:=onS a b fun a b=>if a.length+b.length≤16777216 then some (.str (a++b)) else none
noncomputable def mulI (a b:PV):Option PV:=onI a b fun a b=>if a.natAbs < 2 ^ 64 then some (.int (a * b)) else none
noncomputable def binOp (op:Operator) (a b:PV):Option PV:=match op with
 | .Add=>(onI a b fun a b=>some (.int (a+b))).or (addS a b)
 | .Sub=>onI a b fun a b=>some (.int (a - b))
 | .Mult=>mulI a b
 | .FloorDiv=>onI a b fun a b=>if b≠0∧b.natAbs < 1073741824 then some (.int (a.fdiv b)) else none
 | .Mod=>onI a b fun a b=>if b≠0 then some (.int (a.fmod b)) else none
 | .Pow=>onI a b fun a b=>if 0≤b∧b≤1000000∧a.natAbs < 2 ^ 64 then some (.int (a ^ b.toNat)) else none
 | _=>none
section
variable {A:Around} {Av:Addr→Prop} {s:Shared} {Q:Value→Shared→Prop} {E:Value→Shared→Prop}
theorem VR.int' {h:Heap} {i:Int} {t:Tok}:VR h Av (.int i t) (.int i):=by unfold VR;exact ⟨_,rfl⟩
theorem VR.str' {h:Heap} {x:Str} {t:Tok}:VR h Av (.str x t) (.str x):=by unfold VR;exact ⟨_,rfl⟩
theorem VR.bool' {h:Heap} {b:Bool}:VR h Av (.bool b) (.bool b):=by unfold VR;rfl
theorem str_empty_add {a b:Str} (h:(a.length==0)=true):a++b=b:=by
 have:a.cps.size=0:=by simpa [PySem.Str.length] using h
 have e:a.cps=#[]:=Array.eq_empty_of_size_eq_zero this
 exact PySem.Str.ext' (by rw [PySem.Str.cps_append,e];simp)
theorem str_add_empty {a b:Str} (h:(b.length==0)=true):a++b=a:=by
 have:b.cps.size=0:=by simpa [PySem.Str.length] using h
 have e:b.cps=#[]:=Array.eq_empty_of_size_eq_zero this
 exact PySem.Str.ext' (by rw [PySem.Str.cps_append,e];simp)
theorem add_str_w {a b:Str} {t u:Tok} (h:a.length+b.length≤16777216) (k:∀v s',Grow s s'→VR s'.heap Av v (.str (a++b))→Q v s'):wpAny (model X.prog X.w) A (binaryOp .Add (.str a t) (.str b u)) Q E s:=by
 refine P.add_str ?_
 by_cases h1:(a.length==0)=true
 ·rw [if_pos h1]
  exact k _ _ (Grow.refl s) (str_empty_add h1 ▸ VR.str')
 ·rw [if_neg h1]
  by_cases h2:(b.length==0)=true
  ·rw [if_pos h2]
   exact k _ _ (Grow.refl s) (str_add_empty h2 ▸ VR.str')
  ·rw [if_neg h2]
   exact ⟨by rw [PySem.Str.length_append];exact h,k _ _ .toks VR.str'⟩
theorem VR.int_of {h:Heap} {i:Int} {v:Value} (x:VR h Av v (.int i)):∃t,v=.int i t:=by unfold VR at x;exact x
theorem VR.str_of {h:Heap} {i:Str} {v:Value} (x:VR h Av v (.str i)):∃t,v=.str i t:=by unfold VR at x;exact x
theorem binI {op:Operator} {f:Int→Int→Option PV} {a b c:PV} {va vb:Value} (P:∀{x y:Int} {t u:Tok},f x y=some c→wpAny (model X.prog X.w) A (binaryOp op (.int x t) (.int y u)) Q E s) (h:onI a b f=some c) (ha:VR s.heap Av va a) (hb:VR s.heap Av vb b):
  wpAny (model X.prog X.w) A (binaryOp op va vb) Q E s:=by
 obtain ⟨x,y,rfl,rfl,h⟩:=onI_some h
 obtain ⟨t,rfl⟩:=ha.int_of
 obtain ⟨u,rfl⟩:=hb.int_of
 exact P h
theorem addS_w {a b c:PV} {va vb:Value} (h:addS a b=some c) (ha:VR s.heap Av va a) (hb:VR s.heap Av vb b) (k:∀v s',Grow s s'→VR s'.heap Av v c→Q v s'):wpAny (model X.prog X.w) A (binaryOp .Add va vb) Q E s:=by
 obtain ⟨x,y,rfl,rfl,h⟩:=onS_some h
 obtain ⟨t,rfl⟩:=ha.str_of
 obtain ⟨u,rfl⟩:=hb.str_of
 obtain ⟨hl,rfl⟩:=when_some h
 exact add_str_w hl k
theorem binOp_w {op:Operator} {a b c:PV} {va vb:Value} (h:binOp op a b=some c) (ha:VR s.heap Av va a) (hb:VR s.heap Av vb b) (k:∀v s',Grow s s'→VR s'.heap Av v c→Q v s'):
  wpAny (model X.prog X.w) A (binaryOp op va vb) Q E s:=
 match op,h with
 | .Add,h=>(or_some h).elim (fun h=>binI (fun e=>by cases e;exact P.add_int (k _ _ .toks VR.int')) h ha hb) fun h=>addS_w h ha hb k
 | .Sub,h=>binI (fun e=>by cases e;exact P.sub_int (k _ _ .toks VR.int')) h ha hb
 | .Mult,h=>binI (fun e=>by obtain ⟨hl,rfl⟩:=when_some e;exact P.mul_int (k _ _ .toks VR.int') (IntMulOk.of_left (intBits_le hl))) h ha hb
 | .FloorDiv,h=>binI (fun e=>by obtain ⟨q,rfl⟩:=when_some e;exact floordiv_int q.1 (k _ _ .toks VR.int') (.inl (PyProof.noPylong_small q.2))) h ha hb
 | .Mod,h=>binI (fun e=>by obtain ⟨q,rfl⟩:=when_some e;exact mod_int' q (k _ _ .toks VR.int')) h ha hb
 | .Pow,h=>binI (fun e=>by obtain ⟨q,rfl⟩:=when_some e;exact pow_int_small q.1 q.2.1 q.2.2 (k _ _ .toks VR.int')) h ha hb
end
theorem s_bin {op:Operator} {l r:Expr} {pos:Pos} {f g:EvE} (hl:SoundE X F d l f) (hr:SoundE X F d r g):SoundE X F d (.BinOp l op r pos) (bindE f fun a=>bindE g fun b=>liftE (binOp op a b)):=by
 refine @SoundT.intro _ _ _ _ _ _ _ _ ?_
 intro A Av Mu env st st' s v Q E hA hf R₀ tk k
 refine bindE_elim hf fun a st1 h1 hf=>?_
 refine bindE_elim hf fun b st2 h2 hf=>?_
 obtain ⟨h3,rfl⟩:=liftE_some hf
 refine wpAny_BinOp (hl _ hA h1 R₀ tk fun va s1 Av1 Mu1 R1 S1 V1 tk1=>hr _ hA h2 R1 tk1 fun vb s2 Av2 Mu2 R2 S2 V2 tk2=>?_)
 refine binOp_w h3 (V1.step S2.toStep R1.ma) V2 fun v' s' G V=>k _ _ Av2 Mu2 (R2.grow G) ((S1.trans S2 R₀.lt).trans (StepE.ofGrow G) R₀.lt) V
end
end Mine
end
section
open PySem PySem.W PyProof.Rows PySem.SeqAt PySem.Builtin.Str
namespace Mine
mutual
noncomputable def toPy:PV→Option PyData
 | .none=>some .none
 | .bool b=>some (.bool b)
 | .int i=>some (.int i)
 | .str x=>some (.str x)
 | .list xs=>(toPys xs).map .list
 | .tuple xs=>(toPys xs).map .tuple
 | .obj _=>none
 | .range _ _ _=>none
noncomputable def toPys:List PV→Option (List PyData)
 | []=>some []
 | x::xs=>match toPy x,toPys xs with
  | some d,some ds=>some (d::ds)
  | _,_=>none
end
section
variable {h:Heap} {Av:Addr→Prop}
mutual
theorem VR.reads:∀{p:PV} {v:Value} {d:PyData},VR h Av v p→toPy p=some d→∃as,Reads h v d as
 | .none,v,d,x,e=>by unfold VR at x;unfold toPy at e;cases e;subst x;exact ⟨_,.none⟩
 | .bool b,v,d,x,e=>by unfold VR at x;unfold toPy at e;cases e;subst x;exact ⟨_,.bool b⟩
 | .int i,v,d,x,e=>by unfold VR at x;unfold toPy at e;cases e;obtain ⟨t,rfl⟩:=x;exact ⟨_,.int i t⟩
 | .str y,v,d,x,e=>by unfold VR at x;unfold toPy at e;cases e;obtain ⟨t,rfl⟩:=x;exact ⟨_,.str y t⟩
 | .list xs,v,d,x,e=>by
  unfold VR at x;unfold toPy at e
  obtain ⟨a,vs,n,rfl,g,_,r⟩:=x
  cases q:toPys xs with
  | none=>rw [q] at e;cases e
  | some ds=>
   rw [q] at e;cases e
   obtain ⟨as,z⟩:=VRs.reads r q
   exact ⟨_,.list (vs:=vs.toArray) g rfl rfl z⟩
 | .tuple xs,v,d,x,e=>by
  unfold VR at x;unfold toPy at e
  obtain ⟨a,vs,n,rfl,g,_,r⟩:=x
  cases q:toPys xs with
  | none=>rw [q] at e;cases e
  | some ds=>
   rw [q] at e;cases e
   obtain ⟨as,z⟩:=VRs.reads r q
   exact ⟨_,.tuple (vs:=vs.toArray) g rfl rfl z⟩
 | .obj _,v,d,x,e=>by unfold toPy at e;cases e
 | .range _ _ _,v,d,x,e=>by unfold toPy at e;cases e
theorem VRs.reads:∀{ps:List PV} {vs:List Value} {ds:List PyData},VRs h Av vs ps→toPys ps=some ds→∃as,ReadsAll h vs ds as
 | [],[],ds,_,e=>by unfold toPys at e;cases e;exact ⟨_,.nil⟩
 | [],_::_,_,x,_=>by unfold VRs at x;exact x.elim
 | _::_,[],_,x,_=>by unfold VRs at x;exact x.elim
 | p::ps,v::vs,ds,x,e=>by
  unfold VRs at x
  unfold toPys at e
  cases q1:toPy p with
  | none=>rw [q1] at e;cases e
  | some d=>
   cases q2:toPys ps with
   | none=>rw [q1,q2] at e;cases e
   | some dt=>
    rw [q1,q2] at e
    cases e
    obtain ⟨as,z1⟩:=VR.reads x.1 q1
    obtain ⟨bs,z2⟩:=VRs.reads x.2 q2
    exact ⟨_,.cons z1 z2⟩
end
end
noncomputable def pyEq (a b:PV):Option Bool:=match toPy a,toPy b with
 | some x,some y=>if shaped x=true∧shaped y=true then some (PyData.eqv x y) else none
 | _,_=>none
noncomputable def pyIn (x c:PV):Option Bool:=match c with
 | .list ys=>match toPy x,toPys ys with
  | some d,some ds=>if shaped (.list ds)=true∧shaped d=true then some (ds.any fun y=>PyData.eqv y d) else none
  | _,_=>none
 | _=>none
noncomputable def pyIs:PV→PV→Option Bool
 | .obj a,.obj b=>if a=b then some true else none
 | .str _,.obj _=>some false
 | _,_=>none
noncomputable def strIn (y x:Str):Bool:= !(occurrences x y 0 x.length 1).isEmpty
noncomputable def cmpOp (op:CmpOp) (a b:PV):Option Bool:=match op with
 | .Eq=>((onI a b fun a b=>some (a==b)).or (onS a b fun a b=>some (a.cps.toList==b.cps.toList))).or (pyEq a b)
 | .NotEq=>((onI a b fun a b=>some (a != b)).or (onS a b fun a b=>some (a.cps.toList != b.cps.toList))).or ((pyEq a b).map (!·))
 | .Lt=>onI a b fun a b=>some (decide (a < b))
 | .LtE=>(onI a b fun a b=>some (decide (a≤b))).or (onS a b fun a b=>some (!(decide (b.cps.toList < a.cps.toList))))
 | .Gt=>(onI a b fun a b=>some (decide (a>b))).or (onS a b fun a b=>some (decide (b.cps.toList < a.cps.toList)))
 | .GtE=>onI a b fun a b=>some (decide (a≥b))
 | .In=>(onS a b fun a b=>some (strIn a b)).or (pyIn a b)
 | .NotIn=>(onS a b fun a b=>some (!strIn a b)).or ((pyIn a b).map (!·))
 | .Is=>pyIs a b
 | .IsNot=>(pyIs a b).map (!·)
section
variable {X:Cx} {F:FI} {d:Nat} {A:Around} {Av:Addr→Prop} {s:Shared} {Q:Value→Shared→Prop} {E:Value→Shared→Prop}
theorem Room.u {d:Nat} {A:Around} (h:Room d A) (k:Nat) (hk:autoParam (k≤900) Mine.au8._auto_1):A.units+k < cLine:=by
 have:=h.2.2
 show A.units+k < 9900
 lia
theorem not_some {o:Option Bool} {c:Bool} (h:o.map (!·)=some c):∃b,o=some b∧(!b)=c:=Option.map_eq_some_iff.mp h
set_option tactic.hygienic true in
theorem pyEq_some {a b:PV} {c:Bool} (h:pyEq a b=some c):∃x y,toPy a=some x∧toPy b=some y∧(shaped x=true∧shaped y=true)∧PyData.eqv x y=c:=by
 unfold pyEq at h
 split at h
 ·rename_i x y e1 e2
  exact ⟨x,y,e1,e2,when_some h⟩
 ·cases h
theorem pyEq_w {a b:PV} {va vb:Value} {c:Bool} (hA:Room d A) (h:pyEq a b=some c) (ha:VR s.heap Av va a) (hb:VR s.heap Av vb b) (k:Q (.bool c) s):wpAny (model X.prog X.w) A (compareOp .Eq va vb) Q E s:=by
 obtain ⟨x,y,e1,e2,q,rfl⟩:=pyEq_some h
 obtain ⟨_,z1⟩:=ha.reads e1
 obtain ⟨_,z2⟩:=hb.reads e2
 exact eq_dataH z1 z2 q.1 q.2 (hA.u 64) k
theorem pyNe_w {a b:PV} {va vb:Value} {c:Bool} (hA:Room d A) (h:(pyEq a b).map (!·)=some c) (ha:VR s.heap Av va a) (hb:VR s.heap Av vb b) (k:Q (.bool c) s):wpAny (model X.prog X.w) A (compareOp .NotEq va vb) Q E s:=by
 obtain ⟨c',h',rfl⟩:=not_some h
 obtain ⟨x,y,e1,e2,q,rfl⟩:=pyEq_some h'
 obtain ⟨_,z1⟩:=ha.reads e1
 obtain ⟨_,z2⟩:=hb.reads e2
 exact ne_dataH z1 z2 q.1 q.2 (hA.u 64) k
set_option tactic.hygienic true in
theorem pyIn_some {a b:PV} {c:Bool} (h:pyIn a b=some c):∃d ds,toPy a=some d∧toPy b=some (.list ds)∧(shaped (.list ds)=true∧shaped d=true)∧(ds.any fun y=>PyData.eqv y d)=c:=by
 unfold pyIn at h
 split at h
 ·split at h
  ·rename_i x ds e1 e2
   exact ⟨x,ds,e1,by unfold toPy;rw [e2];rfl,when_some h⟩
  ·cases h
 ·cases h
theorem pyIn_w {a b:PV} {va vb:Value} {c:Bool} (hA:Room d A) (h:pyIn a b=some c) (ha:VR s.heap Av va a) (hb:VR s.heap Av vb b) (k:Q (.bool c) s):wpAny (model X.prog X.w) A (compareOp .In va vb) Q E s:=by
 obtain ⟨x,ds,e1,e2,q,rfl⟩:=pyIn_some h
 obtain ⟨_,z1⟩:=ha.reads e1
 obtain ⟨_,z2⟩:=hb.reads e2
 exact in_list_reads z2 z1 (canLay_of_shaped q.1) (canLay_of_shaped q.2) (room_in_shaped q.2 (hA.u 65)) k
theorem pyNotIn_w {a b:PV} {va vb:Value} {c:Bool} (hA:Room d A) (h:(pyIn a b).map (!·)=some c) (ha:VR s.heap Av va a) (hb:VR s.heap Av vb b) (k:Q (.bool c) s):wpAny (model X.prog X.w) A (compareOp .NotIn va vb) Q E s:=by
 obtain ⟨c',h',rfl⟩:=not_some h
 obtain ⟨x,ds,e1,e2,q,rfl⟩:=pyIn_some h'
 obtain ⟨_,z1⟩:=ha.reads e1
 obtain ⟨_,z2⟩:=hb.reads e2
 exact notIn_list_reads z2 z1 (canLay_of_shaped q.1) (canLay_of_shaped q.2) (room_in_shaped q.2 (hA.u 65)) k
theorem pyIs_w {a b:PV} {va vb:Value} {c:Bool} (h:pyIs a b=some c) (ha:VR s.heap Av va a) (hb:VR s.heap Av vb b) (k:Q (.bool c) s):wpAny (model X.prog X.w) A (compareOp .Is va vb) Q E s:=by
 unfold pyIs at h
 split at h
 ·split at h<;>cases h
  subst_vars
  unfold VR at ha hb
  obtain ⟨rfl,_⟩:=ha
  obtain ⟨rfl,_⟩:=hb
  exact wpAny_is_ref_self k
 ·cases h
  unfold VR at ha hb
  obtain ⟨t,rfl⟩:=ha
  obtain ⟨rfl,_⟩:=hb
  exact wpAny_is_other rfl (fun e=>by cases e) k
 ·cases h
theorem pyIsNot_w {a b:PV} {va vb:Value} {c:Bool} (h:(pyIs a b).map (!·)=some c) (ha:VR s.heap Av va a) (hb:VR s.heap Av vb b) (k:Q (.bool c) s):wpAny (model X.prog X.w) A (compareOp .IsNot va vb) Q E s:=by
 unfold pyIs at h
 split at h
 ·split at h<;>cases h
  subst_vars
  unfold VR at ha hb
  obtain ⟨rfl,_⟩:=ha
  obtain ⟨rfl,_⟩:=hb
  exact wpAny_isNot_ref_self k
 ·cases h
  unfold VR at ha hb
  obtain ⟨t,rfl⟩:=ha
  obtain ⟨rfl,_⟩:=hb
  exact wpAny_isNot_other rfl (fun e=>by cases e) k
 ·cases h
theorem cmpI {op:CmpOp} {f:Int→Int→Bool} {a b:PV} {va vb:Value} {c:Bool} (P:∀{x y:Int} {t u:Tok},Q (.bool (f x y)) s→wpAny (model X.prog X.w) A (compareOp op (.int x t) (.int y u)) Q E s) (h:onI a b (fun x y=>some (f x y))=some c) (ha:VR s.heap Av va a) (hb:VR s.heap Av vb b) (k:Q (.bool c) s):wpAny (model X.prog X.w) A (compareOp op va vb) Q E s:=by
 obtain ⟨x,y,rfl,rfl,h⟩:=onI_some h
 obtain ⟨t,rfl⟩:=ha.int_of
 obtain ⟨u,rfl⟩:=hb.int_of
 cases h
 exact P k
theorem cmpS {op:CmpOp} {f:Str→Str→Bool} {a b:PV} {va vb:Value} {c:Bool} (P:∀{x y:Str} {t u:Tok},Q (.bool (f x y)) s→wpAny (model X.prog X.w) A (compareOp op (.str x t) (.str y u)) Q E s) (h:onS a b (fun x y=>some (f x y))=some c) (ha:VR s.heap Av va a) (hb:VR s.heap Av vb b) (k:Q (.bool c) s):wpAny (model X.prog X.w) A (compareOp op va vb) Q E s:=by
 obtain ⟨x,y,rfl,rfl,h⟩:=onS_some h
 obtain ⟨t,rfl⟩:=ha.str_of
 obtain ⟨u,rfl⟩:=hb.str_of
 cases h
 exact P k
theorem cmpOp_w {op:CmpOp} {a b:PV} {va vb:Value} {c:Bool} (hA:Room d A) (h:cmpOp op a b=some c) (ha:VR s.heap Av va a) (hb:VR s.heap Av vb b) (k:Q (.bool c) s):wpAny (model X.prog X.w) A (compareOp op va vb) Q E s:=
 match op,h with
 | .Eq,h=>(or_some h).elim (fun h=>(or_some h).elim (fun h=>cmpI P.eq_int h ha hb k) fun h=>cmpS P.eq_str h ha hb k) fun h=>pyEq_w hA h ha hb k
 | .NotEq,h=>(or_some h).elim (fun h=>(or_some h).elim (fun h=>cmpI P.ne_int h ha hb k) fun h=>cmpS P.ne_str h ha hb k) fun h=>pyNe_w hA h ha hb k
 | .Lt,h=>cmpI P.lt_int h ha hb k
 | .LtE,h=>(or_some h).elim (fun h=>cmpI P.le_int h ha hb k) fun h=>cmpS (fun k=>P.le_str (by simpa using k)) h ha hb k
 | .Gt,h=>(or_some h).elim (fun h=>cmpI P.gt_int h ha hb k) fun h=>cmpS P.gt_str h ha hb k
 | .GtE,h=>cmpI P.ge_int h ha hb k
 | .In,h=>(or_some h).elim (fun h=>cmpS P.in_str h ha hb k) fun h=>pyIn_w hA h ha hb k
 | .NotIn,h=>(or_some h).elim (fun h=>cmpS P.notIn_str h ha hb k) fun h=>pyNotIn_w hA h ha hb k
 | .Is,h=>pyIs_w h ha hb k
 | .IsNot,h=>pyIsNot_w h ha hb k
noncomputable def truthOf:PV→Option Bool
 | .bool b=>some b
 | .int i=>some (i != 0)
 | .str x=>if x.length < 9223372036854775808 then some ((x.length:Int) != 0) else none
 | .list xs=>if xs.length < 9223372036854775808 then some (!xs.isEmpty) else none
 | .none=>some false
 | _=>none
set_option tactic.hygienic true in
theorem truthOf_w {p:PV} {v:Value} {c:Bool} {Q:Bool→Shared→Prop} (h:truthOf p=some c) (hp:VR s.heap Av v p) (k:∀s',Grow s s'→Q c s'):wpAny (model X.prog X.w) A (truthy v) Q E s:=by
 unfold truthOf at h
 split at h
 ·cases h;unfold VR at hp;subst hp;exact wpAny_truthy_bool (k _ (Grow.refl s))
 ·cases h;unfold VR at hp;obtain ⟨t,rfl⟩:=hp;exact truthy_int (k _ (Grow.refl s))
 ·split at h<;>cases h
  unfold VR at hp;obtain ⟨t,rfl⟩:=hp
  exact SBL.truthy (by lia) (k _ .toks)
 ·split at h<;>cases h
  rename_i xs q
  unfold VR at hp
  obtain ⟨a,vs,n,rfl,g,_,z⟩:=hp
  have hl:=VRs.length z
  refine wpAny_truthy_list (l:=a) (items:=vs.toArray) ⟨_,g,rfl,n,rfl⟩ (by rw [List.size_toArray];lia) ?_
  have e:(!vs.toArray.isEmpty)=(!xs.isEmpty):=by cases vs<;>cases xs<;>simp_all
  rw [e]
  exact k _ .toks
 ·cases h;unfold VR at hp;subst hp;exact truthy_none (k _ (Grow.refl s))
 ·cases h
end
end Mine
end
section
open PySem PySem.W PyProof.Rows
namespace Mine
section
variable {X:Cx} {F:FI} {d:Nat}
noncomputable def cmpF (op:CmpOp) (f g:EvE):EvB:=bindE f fun a=>bindE g fun b=>liftE (cmpOp op a b)
theorem b_cmp {op:CmpOp} {l r:Expr} {pos:Pos} {f g:EvE} (hl:SoundE X F d l f) (hr:SoundE X F d r g) (hm:autoParam (behindInMarks op r=false) Mine.au9._auto_1):SoundB X F d (.Compare l [op] [r] pos) (cmpF op f g):=by
 refine @SoundT.intro _ _ _ _ _ _ _ _ ?_
 intro A Av Mu env st st' s v Q E hA hf R₀ tk k
 refine bindE_elim hf fun a st1 h1 hf=>?_
 refine bindE_elim hf fun b st2 h2 hf=>?_
 obtain ⟨h3,rfl⟩:=liftE_some hf
 refine wpAny_isTrue_Compare1 (hl _ hA h1 R₀ tk fun va s1 Av1 Mu1 R1 S1 V1 tk1=>hr _ hA h2 R1 tk1 fun vb s2 Av2 Mu2 R2 S2 V2 tk2=>?_) hm
 exact cmpOp_w hA h3 (V1.step S2.toStep R1.ma) V2 (wpAny_truthy_bool (k _ _ Av2 Mu2 R2 (S1.trans S2 R₀.lt) rfl))
theorem s_cmp {op:CmpOp} {l r:Expr} {pos:Pos} {f g:EvE} (hl:SoundE X F d l f) (hr:SoundE X F d r g) (hm:autoParam (behindInMarks op r=false) Mine.au9._auto_1):
  SoundE X F d (.Compare l [op] [r] pos) (bindE (cmpF op f g) fun b=>pureE (.bool b)):=by
 refine @SoundT.intro _ _ _ _ _ _ _ _ ?_
 intro A Av Mu env st st' s v Q E hA hf R₀ tk k
 refine bindE_elim hf fun c st3 hf hz=>?_
 cases hz
 refine bindE_elim hf fun a st1 h1 hf=>?_
 refine bindE_elim hf fun b st2 h2 hf=>?_
 obtain ⟨h3,rfl⟩:=liftE_some hf
 refine wpAny_Compare1 (hl _ hA h1 R₀ tk fun va s1 Av1 Mu1 R1 S1 V1 tk1=>hr _ hA h2 R1 tk1 fun vb s2 Av2 Mu2 R2 S2 V2 tk2=>?_) hm
 exact cmpOp_w hA h3 (V1.step S2.toStep R1.ma) V2 (k _ _ Av2 Mu2 R2 (S1.trans S2 R₀.lt) VR.bool')
theorem b_cmp2 {op op':CmpOp} {l r r':Expr} {pos:Pos} {f g h:EvE} (hl:SoundE X F d l f) (hr:SoundE X F d r g) (hr':SoundE X F d r' h) (hm:autoParam (lastMarks [op,op'] [r,r']=false) Mine.au9._auto_1):
  SoundB X F d (.Compare l [op,op'] [r,r'] pos) (bindE f fun a=>bindE g fun b=>bindE (liftE (cmpOp op a b)) fun c=>if c then bindE h fun b'=>liftE (cmpOp op' b b') else pureE false):=by
 refine @SoundT.intro _ _ _ _ _ _ _ _ ?_
 intro A Av Mu env st st' s v Q E hA hf R₀ tk k
 refine bindE_elim hf fun a st1 h1 hf1=>?_
 refine bindE_elim hf1 fun b st2 h2 hf2=>?_
 refine bindE_elim hf2 fun c st3 h3 hf3=>?_
 obtain ⟨h4,e4⟩:=liftE_some h3
 rw [e4] at hf3
 refine isTrue_chain (hl _ hA h1 R₀ tk fun va s1 Av1 Mu1 R1 S1 V1 tk1=>test_link (hr _ hA h2 R1 tk1 fun vb s2 Av2 Mu2 R2 S2 V2 tk2=>?_)) hm
 refine cmpOp_w hA h4 (V1.step S2.toStep R1.ma) V2 (wpAny_truthy_bool ?_)
 cases c with
 | false=>
  cases hf3
  exact k _ _ Av2 Mu2 R2 (S1.trans S2 R₀.lt) rfl
 | true=>
  rw [if_pos rfl] at hf3
  refine bindE_elim hf3 fun b' st4 h5 hf5=>?_
  obtain ⟨h6,e6⟩:=liftE_some hf5
  subst e6
  refine test_last (hr' _ hA h5 R2 tk2 fun vc s3 Av3 Mu3 R3 S3 V3 tk3=>?_)
  exact cmpOp_w hA h6 (V2.step S3.toStep R2.ma) V3 (wpAny_truthy_bool (k _ _ Av3 Mu3 R3 ((S1.trans S2 R₀.lt).trans S3 R₀.lt) rfl))
theorem b_not {e:Expr} {pos:Pos} {f:EvB} (h:SoundB X F d e f):SoundB X F d (.UnaryOp .Not e pos) (bindE f fun b=>pureE (!b)):=by
 refine @SoundT.intro _ _ _ _ _ _ _ _ ?_
 intro A Av Mu env st st' s v Q E hA hf R₀ tk k
 refine bindE_elim hf fun a st1 h1 hf=>?_
 cases hf
 refine isTrue_not (h _ hA h1 R₀ tk fun va s1 Av1 Mu1 R1 S1 V1 tk1=>?_)
 cases V1
 exact k _ _ _ _ R1 S1 rfl
noncomputable def andF (f g:EvB):EvB:=bindE f fun b=>if b then g else pureE false
noncomputable def orF (f g:EvB):EvB:=bindE f fun b=>if b then pureE true else g
theorem b_and1 {x:Expr} {pos:Pos} {f:EvB} (h:SoundB X F d x f):SoundB X F d (.BoolOp .And [x] pos) f:=by
 refine @SoundT.intro _ _ _ _ _ _ _ _ ?_
 intro A Av Mu env st st' s v Q E hA hf R₀ tk k
 refine isTrue_and (h _ hA hf R₀ tk fun va s1 Av1 Mu1 R1 S1 V1 tk1=>?_)
 cases V1
 cases v with
 | false=>exact k _ _ _ _ R1 S1 rfl
 | true=>exact isTrue_and_nil (k _ _ _ _ R1 S1 rfl)
theorem b_and {x y:Expr} {r:List Expr} {pos:Pos} {f g:EvB} (h:SoundB X F d x f) (h':SoundB X F d (.BoolOp .And (y::r) pos) g):SoundB X F d (.BoolOp .And (x::y::r) pos) (andF f g):=by
 refine @SoundT.intro _ _ _ _ _ _ _ _ ?_
 intro A Av Mu env st st' s v Q E hA hf R₀ tk k
 refine bindE_elim hf fun a st1 h1 hf=>?_
 refine isTrue_and (h _ hA h1 R₀ tk fun va s1 Av1 Mu1 R1 S1 V1 tk1=>?_)
 cases V1
 cases a with
 | false=>cases hf;exact k _ _ _ _ R1 S1 rfl
 | true=>exact h' _ hA hf R1 tk1 fun vb s2 Av2 Mu2 R2 S2 V2 tk2=>k _ _ _ _ R2 (S1.trans S2 R₀.lt) V2
theorem b_or1 {x:Expr} {pos:Pos} {f:EvB} (h:SoundB X F d x f):SoundB X F d (.BoolOp .Or [x] pos) f:=by
 refine @SoundT.intro _ _ _ _ _ _ _ _ ?_
 intro A Av Mu env st st' s v Q E hA hf R₀ tk k
 refine isTrue_or (h _ hA hf R₀ tk fun va s1 Av1 Mu1 R1 S1 V1 tk1=>?_)
 cases V1
 cases v with
 | true=>exact k _ _ _ _ R1 S1 rfl
 | false=>exact isTrue_or_nil (k _ _ _ _ R1 S1 rfl)
theorem b_or {x y:Expr} {r:List Expr} {pos:Pos} {f g:EvB} (h:SoundB X F d x f) (h':SoundB X F d (.BoolOp .Or (y::r) pos) g):SoundB X F d (.BoolOp .Or (x::y::r) pos) (orF f g):=by
 refine @SoundT.intro _ _ _ _ _ _ _ _ ?_
 intro A Av Mu env st st' s v Q E hA hf R₀ tk k
 refine bindE_elim hf fun a st1 h1 hf=>?_
 refine isTrue_or (h _ hA h1 R₀ tk fun va s1 Av1 Mu1 R1 S1 V1 tk1=>?_)
 cases V1
 cases a with
 | true=>cases hf;exact k _ _ _ _ R1 S1 rfl
 | false=>exact h' _ hA hf R1 tk1 fun vb s2 Av2 Mu2 R2 S2 V2 tk2=>k _ _ _ _ R2 (S1.trans S2 R₀.lt) V2
theorem b_plain {e:Expr} {f:EvE} (h:SoundE X F d e f) (he:autoParam (∀env whole,isTrue e env whole=(do let v ←whole;standAt e.pos;holding [v] (truthy v))) Mine.au1._auto_1):SoundB X F d e (bindE f fun a=>liftE (truthOf a)):=by
 refine @SoundT.intro _ _ _ _ _ _ _ _ ?_
 intro A Av Mu env st st' s v Q E hA hf R₀ tk k
 refine bindE_elim hf fun a st1 h1 hf=>?_
 obtain ⟨h3,rfl⟩:=liftE_some hf
 refine isTrue_plain (h _ hA h1 R₀ tk fun va s1 Av1 Mu1 R1 S1 V1 tk1=>?_) (he env _)
 exact truthOf_w h3 V1 fun s' G=>k _ _ Av1 Mu1 (R1.grow G) (S1.trans (StepE.ofGrow G) R₀.lt) rfl
theorem s_ifexp {t b o:Expr} {pos:Pos} {f:EvB} {g h:EvE} (ht:SoundB X F d t f) (hb:SoundE X F d b g) (ho:SoundE X F d o h):SoundE X F d (.IfExp t b o pos) (bindE f fun c=>if c then g else h):=by
 refine @SoundT.intro _ _ _ _ _ _ _ _ ?_
 intro A Av Mu env st st' s v Q E hA hf R₀ tk k
 refine bindE_elim hf fun a st1 h1 hf=>?_
 refine wpAny_IfExp (ht _ hA h1 R₀ tk fun va s1 Av1 Mu1 R1 S1 V1 tk1=>?_)
 cases V1
 cases a with
 | true=>exact hb _ hA hf R1 tk1 fun vb s2 Av2 Mu2 R2 S2 V2 tk2=>k _ _ _ _ R2 (S1.trans S2 R₀.lt) V2
 | false=>exact ho _ hA hf R1 tk1 fun vb s2 Av2 Mu2 R2 S2 V2 tk2=>k _ _ _ _ R2 (S1.trans S2 R₀.lt) V2
noncomputable def seqF (f g:EvS):EvS:=bindE f fun fl=>match fl with
 | .next=>g
 | fl=>pureE fl
theorem s_nil:SoundS X F d [] (pureE .next):=by
 refine @SoundU.intro _ _ _ _ _ _ _ _ ?_
 intro A Av Mu env st st' s v Q E hA hf R₀ tk k
 cases hf
 exact wpAny_execs_nil (k _ _ _ _ R₀ Step.refl trivial)
theorem s_cons {c:Stmt} {r:List Stmt} {f g:EvS} (h:SoundX X F d c f) (h':SoundS X F d r g):SoundS X F d (c::r) (seqF f g):=by
 refine @SoundU.intro _ _ _ _ _ _ _ _ ?_
 intro A Av Mu env st st' s v Q E hA hf R₀ tk k
 refine bindE_elim hf fun a st1 h1 hf=>?_
 refine wpAny_execs_cons (h _ hA h1 R₀ tk fun va s1 Av1 Mu1 R1 S1 V1 tk1=>?_)
 cases a with
 | next=>
  cases va<;>first | exact V1.elim | skip
  exact h' _ hA hf R1 tk1 fun vb s2 Av2 Mu2 R2 S2 V2 tk2=>k _ _ _ _ R2 (S1.trans S2 R₀.lt) V2
 | brk=>
  cases va<;>first | exact V1.elim | skip
  cases hf
  exact k _ _ _ _ R1 S1 V1
 | ret p=>
  cases va<;>first | exact V1.elim | skip
  cases hf
  exact k _ _ _ _ R1 S1 V1
theorem x_break {pos:Pos}:SoundX X F d (.Break pos) (pureE .brk):=by
 refine @SoundU.intro _ _ _ _ _ _ _ _ ?_
 intro A Av Mu env st st' s v Q E hA hf R₀ tk k
 cases hf
 exact wpAny_Break (k _ _ _ _ R₀ Step.refl trivial)
theorem x_ret {e:Expr} {pos:Pos} {f:EvE} (h:SoundE X F d e f):SoundX X F d (.Return (some e) pos) (bindE f fun p=>pureE (.ret p)):=by
 refine @SoundU.intro _ _ _ _ _ _ _ _ ?_
 intro A Av Mu env st st' s v Q E hA hf R₀ tk k
 refine bindE_elim hf fun a st1 h1 hf=>?_
 cases hf
 exact wpAny_Return_some (h _ hA h1 R₀ tk fun va s1 Av1 Mu1 R1 S1 V1 tk1=>k _ _ _ _ R1 S1.toStep V1)
theorem x_if {t:Expr} {b o:List Stmt} {pos:Pos} {f:EvB} {g h:EvS} (ht:SoundB X F d t f) (hb:SoundS X F d b g) (ho:SoundS X F d o h):SoundX X F d (.If t b o pos) (bindE f fun c=>if c then g else h):=by
 refine @SoundU.intro _ _ _ _ _ _ _ _ ?_
 intro A Av Mu env st st' s v Q E hA hf R₀ tk k
 refine bindE_elim hf fun a st1 h1 hf=>?_
 refine wpAny_If (ht _ hA h1 R₀ tk fun va s1 Av1 Mu1 R1 S1 V1 tk1=>?_)
 cases V1
 cases a with
 | true=>exact hb _ hA hf R1 tk1 fun vb s2 Av2 Mu2 R2 S2 V2 tk2=>k _ _ _ _ R2 (S1.toStep.trans S2 R₀.lt) V2
 | false=>exact ho _ hA hf R1 tk1 fun vb s2 Av2 Mu2 R2 S2 V2 tk2=>k _ _ _ _ R2 (S1.toStep.trans S2 R₀.lt) V2
set_option tactic.hygienic true in
theorem x_assert {t:Expr} {m:Option Expr} {pos:Pos} {f:EvB} (ht:SoundB X F d t f):SoundX X F d (.Assert t m pos) (bindE f fun c=>if c then pureE .next else fun _=>none):=by
 refine @SoundU.intro _ _ _ _ _ _ _ _ ?_
 intro A Av Mu env st st' s v Q E hA hf R₀ tk k
 refine bindE_elim hf fun a st1 h1 hf=>?_
 refine wpAny_Assert_holds (ht _ hA h1 R₀ tk fun va s1 Av1 Mu1 R1 S1 V1 tk1=>?_)
 cases V1
 cases a with
 | true=>cases hf;exact ⟨rfl,k _ _ _ _ R1 S1.toStep trivial⟩
 | false=>cases hf
noncomputable def setV (i:Nat) (p:PV):EvS:=fun st=>some (.next,st.set i (.froz p))
theorem x_assign {x:Str} {i:Nat} {pos' pos:Pos} {e:Expr} {f:EvE} (h:SoundE X F d e f) (hi:F.names[i]? =some x) (hl:F.Wr x)
  (hs:autoParam (∀env,swapsWith e (some (.Name x pos')) pos.line env=pure false) Mine.au4._auto_1):SoundX X F d (.Assign [.Name x pos'] e pos) (bindE f fun p=>setV i p):=by
 refine @SoundU.intro _ _ _ _ _ _ _ _ ?_
 intro A Av Mu env st st' s v Q E hA hf R₀ tk k
 refine bindE_elim hf fun a st1 h1 hf=>?_
 cases hf
 refine wpAny_Assign_Name (h _ hA h1 R₀ tk fun va s1 Av1 Mu1 R1 S1 V1 tk1=>?_) (hs env)
 exact wp_store R1 hi (b:=.froz a) V1 hl fun s2 R2 S2=>k _ _ _ _ R2 (S1.toStep.trans S2 R₀.lt) trivial
noncomputable def whileF (t:EvB) (b:EvS):Nat→EvS
  | 0=>fun _=>none
  | n+1=>bindE t fun c=>if c then (bindE b fun fl=>match fl with
      | .next=>whileF t b n
      | .brk=>pureE .next
      | .ret p=>pureE (.ret p)) else pureE .next
theorem loop_turn {M:Model} {A:Around} {c:Code} {t:Sem Fin} {kk:Value→Sem Unit} {K:Result→Shared→Prop} {s:Shared} (hw:c.weight=0) (hu:c.cUnits=0) (hd:M.den c=t.onRaise kk)
  (h:∀(Q:Fin→Shared→Prop) (E:Value→Shared→Prop),(∀f s',K (.ok f) s'→Q (.done f) s')→(∀c s',c.quiet=true→codeAny M A c K s'→Q (.again c) s')→wpAny M A t Q E s):codeAny M A c K s:=by
 refine codeAny_of_tree ?_
 rw [Around.under_of_weight hw hu,hd]
 exact wpAny_onRaise (h _ _ (fun f s' h=>h) fun c s' q h=>⟨q,h⟩)
theorem code_while {t:Expr} {b:List Stmt} {f:EvB} {g:EvS} (ht:SoundB X F d t f) (hb:SoundS X F d b g):∀(n:Nat) {A:Around} {Av Mu:Addr→Prop} {env:Env} {st st':St} {s:Shared} {v:Fl} {K:Result→Shared→Prop},
  Room d A→whileF f g n st=some (v,st')→R X F Av Mu env st s→1≤s.toks→(∀x s' Av' Mu',R X F Av' Mu' env st' s'→Step Av Mu s Av' Mu' s'→FlR s'.heap Av' x v→K (.ok x) s')→
  codeAny (model X.prog X.w) A (.whileLoop t b [] env) K s
 | 0,_,_,_,_,_,_,_,_,_,_,hf,_,_,_=>by cases hf
 | n+1,A,Av,Mu,env,st,st',s,v,K,hA,hf,R₀,tk,k=>by
  refine loop_turn (t:=whileTurn t b [] env) (kk:=fun x=>do noteFrame x env;theTreesLotGoes x) rfl rfl rfl fun Q E hdone hagain=>?_
  unfold whileTurn
  refine bindE_elim hf fun c st1 h1 hf=>?_
  refine wpAny_bind (ht _ hA h1 R₀ tk fun va s1 Av1 Mu1 R1 S1 V1 tk1=>?_)
  cases V1
  cases c with
  | false=>
   cases hf
   exact wpAny_bind (wpAny_execs_nil (wpAny_pure (hdone _ _ (k _ _ _ _ R1 S1.toStep trivial))))
  | true=>
   rw [if_pos rfl] at hf
   refine bindE_elim hf fun fl st2 h2 hf=>?_
   refine wpAny_bind (hb _ hA h2 R1 tk1 fun vb s2 Av2 Mu2 R2 S2 V2 tk2=>?_)
   have T:=S1.toStep.trans S2 R₀.lt
   cases fl with
   | next=>
    cases vb<;>first | exact V2.elim | exact wpAny_pure (hagain _ _ rfl (code_while ht hb n hA hf R2 tk2 fun x s' Av' Mu' R' S' V'=>k x s' Av' Mu' R' (T.trans S' R₀.lt) V'))
   | brk=>
    cases hf
    cases vb<;>first | exact V2.elim | exact wpAny_pure (hdone _ _ (k _ _ _ _ R2 T trivial))
   | ret p=>
    cases hf
    cases vb<;>first | exact V2.elim | exact wpAny_pure (hdone _ _ (k _ _ _ _ R2 T V2))
theorem x_while {t:Expr} {b:List Stmt} {pos:Pos} {f:EvB} {g:EvS} (n:Nat) (ht:SoundB X F d t f) (hb:SoundS X F d b g):SoundX X F d (.While t b [] pos) (whileF f g n):=by
 refine @SoundU.intro _ _ _ _ _ _ _ _ ?_
 intro A Av Mu env st st' s v Q E hA hf R₀ tk k
 refine wpAny_While ?_
 exact code_while ht hb n hA hf R₀ tk fun x s' Av' Mu' R' S' V'=>k x s' Av' Mu' R' S' V'
end
end Mine
end
section
open PySem PySem.W PyProof.Rows PySem.Builtin.Str
namespace Mine
theorem VRs.get {h:Heap} {Av:Addr→Prop}:∀{vs:List Value} {xs:List PV} {i:Nat} {p:PV},VRs h Av vs xs→xs[i]? =some p→∃v,vs[i]? =some v∧VR h Av v p
 | [],[],i,p,_,e=>by simp at e
 | [],_::_,_,_,x,_=>by unfold VRs at x;exact x.elim
 | _::_,[],_,_,x,_=>by unfold VRs at x;exact x.elim
 | v::vs,x::xs,0,p,h,e=>by
  unfold VRs at h
  simp at e
  exact ⟨v,rfl,e ▸ h.1⟩
 | v::vs,x::xs,i+1,p,h,e=>by
  unfold VRs at h
  simp only [List.getElem?_cons_succ] at e ⊢
  exact VRs.get h.2 e
theorem VRs.append {h:Heap} {Av:Addr→Prop}:∀{vs us:List Value} {xs ys:List PV},VRs h Av vs xs→VRs h Av us ys→VRs h Av (vs++us) (xs++ys)
 | [],us,[],ys,_,y=>y
 | [],_,_::_,_,x,_=>by unfold VRs at x;exact x.elim
 | _::_,_,[],_,x,_=>by unfold VRs at x;exact x.elim
 | v::vs,us,x::xs,ys,h,y=>by
  unfold VRs at h
  show VRs _ _ (v::(vs++us)) (x::(xs++ys))
  unfold VRs
  exact ⟨h.1,VRs.append h.2 y⟩
theorem VRs.nil {h:Heap} {Av:Addr→Prop}:VRs h Av [] []:=by unfold VRs;trivial
theorem VRs.cons {h:Heap} {Av:Addr→Prop} {v:Value} {vs:List Value} {x:PV} {xs:List PV} (a:VR h Av v x) (b:VRs h Av vs xs):VRs h Av (v::vs) (x::xs):=by unfold VRs;exact ⟨a,b⟩
noncomputable def pick {α:Type} (xs:List α) (is:List Nat):List α:=is.filterMap (xs[·]?)
theorem VRs.pick {h:Heap} {Av:Addr→Prop} {vs:List Value} {xs:List PV} (x:VRs h Av vs xs):∀is:List Nat,VRs h Av (Mine.pick vs is) (Mine.pick xs is)
 | []=>VRs.nil
 | i::is=>by
  have ih:=x.pick is
  unfold Mine.pick at ih ⊢
  simp only [List.filterMap_cons]
  cases e:xs[i]? with
  | none=>
   have:vs[i]? =none:=by
    rw [List.getElem?_eq_none_iff] at e ⊢
    rw [x.length];exact e
   rw [this]
   exact ih
  | some p=>
   obtain ⟨v,e1,z⟩:=x.get e
   rw [e1]
   exact VRs.cons z ih
section
variable {X:Cx} {F:FI} {d:Nat}
noncomputable def itemI (i:Int):PV→Option PV
 | .str x=>((seqIndex? i x.length).bind (x.cps[·]?)).map fun c=>.str ⟨#[c]⟩
 | .list xs=>(seqIndex? i xs.length).bind fun j=>xs[j]?
 | .tuple xs=>(seqIndex? i xs.length).bind fun j=>xs[j]?
 | _=>none
noncomputable def pyItem (o i:PV):Option PV:=(asInt i).bind fun i=>if -(2 ^ 63)≤i∧i < 2 ^ 63 then itemI i o else none
theorem inI {i:Int} (q: -(2 ^ 63)≤i∧i < 2 ^ 63):(decide (i < -(2 ^ 63:Int))||decide (i≥2 ^ 63))=false:=Bool.or_eq_false_iff.mpr ⟨decide_eq_false (Int.not_lt.mpr q.1),decide_eq_false (Int.not_le.mpr q.2)⟩
theorem pyItem_some {o i r:PV} (h:pyItem o i=some r):∃k,i=.int k∧(-(2 ^ 63)≤k∧k < 2 ^ 63)∧itemI k o=some r:=by
 obtain ⟨k,e,h⟩:=Option.bind_eq_some_iff.mp h
 by_cases q: -(2 ^ 63)≤k∧k < 2 ^ 63
 ·rw [if_pos q] at h
  exact ⟨k,asInt_some e,q,h⟩
 ·rw [if_neg q] at h
  cases h
theorem seqIndex_spec {i:Int} {n j:Nat} (h:seqIndex? i n=some j):(0≤i∧i < n∧j=i.toNat)∨(i < 0∧ -(n:Int)≤i∧j=(i+n).toNat):=by
 by_cases z:i < 0
 ·simp only [seqIndex?,Bool.and_eq_true,decide_eq_true_eq,z,if_true,Option.ite_none_right_eq_some,Option.some.injEq] at h
  exact .inr ⟨z,by lia,h.2.symm⟩
 ·simp only [seqIndex?,Bool.and_eq_true,decide_eq_true_eq,z,if_false,Option.ite_none_right_eq_some,Option.some.injEq] at h
  exact .inl ⟨by lia,by lia,h.2.symm⟩
theorem pyItem_list {xs:List PV} {i r:PV} (h:pyItem (.list xs) i=some r):∃k j,i=.int k∧(-(2 ^ 63)≤k∧k < 2 ^ 63)∧seqIndex? k xs.length=some j∧xs[j]? =some r:=by
 obtain ⟨k,e,q,h⟩:=pyItem_some h
 obtain ⟨j,e1,h⟩:=Option.bind_eq_some_iff.mp h
 exact ⟨k,j,e,q,e1,h⟩
section
variable {A:Around} {Av:Addr→Prop} {s:Shared} {Q:Value→Shared→Prop} {E:Value→Shared→Prop}
theorem list_item_w {l:Addr} {vs:List Value} {n:Nat} {i:Int} {t:Tok} {j:Nat} {v:Value} (g:s.heap.get? l=some (listObj vs n)) (hr: -(2 ^ 63)≤i∧i < 2 ^ 63) (hj:seqIndex? i vs.length=some j) (hv:vs[j]? =some v) (k:Q v s):
  wpAny (model X.prog X.w) A (getItem (.ref l) (.int i t)) Q E s:=by
 have hl:s.heap.IsList l vs.toArray:=⟨_,g,rfl,n,rfl⟩
 rcases seqIndex_spec hj with ⟨h1,h2,h3⟩ | ⟨h1,h2,h3⟩
 ·exact wpAny_getItem_list hl h1 hr.2 (by rw [←h3];simpa using hv) k
 ·exact wpAny_getItem_list_neg hl h1 (by rw [List.size_toArray];exact h2) hr.1 (by rw [List.size_toArray,←h3];simpa using hv) k
theorem pyItem_w {o i r:PV} {vo vi:Value} {value slice:Expr} (h:pyItem o i=some r) (ho:VR s.heap Av vo o) (hi:VR s.heap Av vi i)
  (hs:∀o i,subscripted slice false o i=operate [o,i] (getItem o i)) (k:∀v s',Grow s s'→VR s'.heap Av v r→Q v s'):wpAny (model X.prog X.w) A (subscriptTail value slice vo vi) Q E s:=by
 obtain ⟨i,rfl,q,h⟩:=pyItem_some h
 obtain ⟨u,rfl⟩:=hi.int_of
 cases o with
 | str x=>
  obtain ⟨c,e,rfl⟩:=Option.map_eq_some_iff.mp h
  obtain ⟨t,rfl⟩:=ho.str_of
  exact tail_any (typeIs_str s _ t) F.slot_str_getitem.lookup (P.getItem_str (inI q) e (k _ _ .toks VR.str')) (hs _ _)
 | list xs=>
  obtain ⟨j,e,h⟩:=Option.bind_eq_some_iff.mp h
  unfold VR at ho;obtain ⟨l,vs,n,rfl,g,na,z⟩:=ho
  obtain ⟨v,e1,z1⟩:=z.get h
  have hl:s.heap.IsList l vs.toArray:=⟨_,g,rfl,n,rfl⟩
  exact tail_any hl.typeIs slot_list_getitem.lookup (list_item_w g q (by rw [z.length];exact e) e1 (k _ _ (Grow.refl s) z1)) (hs _ _)
 | tuple xs=>
  obtain ⟨j,e,h⟩:=Option.bind_eq_some_iff.mp h
  unfold VR at ho;obtain ⟨l,vs,n,rfl,g,na,z⟩:=ho
  obtain ⟨v,e1,z1⟩:=z.get h
  have ht:IsTup s.heap l vs.toArray:=⟨_,g,rfl,n,rfl⟩
  exact tail_any ht.typeIs F.slot_tuple_getitem.lookup (getItem_tuple ht q.1 q.2 (by rw [List.size_toArray,z.length];exact e) (by simpa using e1) (k _ _ (Grow.refl s) z1)) (hs _ _)
 | _=>cases h
end
theorem s_item {value slice:Expr} {pos:Pos} {f g:EvE} (hv:SoundE X F d value f) (hi:SoundE X F d slice g) (hs:autoParam (∀o i,subscripted slice false o i=operate [o,i] (getItem o i)) Mine.au1._auto_1):
  SoundE X F d (.Subscript value slice pos) (bindE f fun o=>bindE g fun i=>liftE (pyItem o i)):=by
 refine @SoundT.intro _ _ _ _ _ _ _ _ ?_
 intro A Av Mu env st st' s v Q E hA hf R₀ tk k
 refine bindE_elim hf fun a st1 h1 hf=>?_
 refine bindE_elim hf fun b st2 h2 hf=>?_
 obtain ⟨h3,rfl⟩:=liftE_some hf
 refine Subscript_ (hv _ hA h1 R₀ tk fun va s1 Av1 Mu1 R1 S1 V1 tk1=>hi _ hA h2 R1 tk1 fun vb s2 Av2 Mu2 R2 S2 V2 tk2=>?_)
 exact pyItem_w h3 (V1.step S2.toStep R1.ma) V2 hs fun v' s' G V=>k _ _ Av2 Mu2 (R2.grow G) ((S1.trans S2 R₀.lt).trans (StepE.ofGrow G) R₀.lt) V
noncomputable def SoundP (X:Cx) (F:FI) (d:Nat) (e:Expr) (f:St→Option PV):Prop:=
 ∀(A:Around) {Av Mu:Addr→Prop} {env:Env} {st:St} {s:Shared} {v:PV} {Q:Value→Shared→Prop} {E:Value→Shared→Prop},
  Room d A→f st=some v→R X F Av Mu env st s→(∀x s',Grow s s'→VR s'.heap Av x v→Q x s')→wpAny (model X.prog X.w) A (eval e env) Q E s
noncomputable def ofP (f:St→Option PV):EvE:=fun st=>match f st with
 | some v=>some (v,st)
 | none=>none
set_option tactic.hygienic true in
theorem ofP_some {f:St→Option PV} {st st':St} {v:PV} (h:ofP f st=some (v,st')):f st=some v∧st'=st:=by
 unfold ofP at h
 split at h
 ·rename_i x e
  cases h
  exact ⟨e,rfl⟩
 ·cases h
theorem s_ofP {e:Expr} {f:St→Option PV} (h:SoundP X F d e f):SoundE X F d e (ofP f):=by
 refine @SoundT.intro _ _ _ _ _ _ _ _ ?_
 intro A Av Mu env st st' s v Q E hA hf R₀ tk k
 obtain ⟨h1,rfl⟩:=ofP_some hf
 exact h _ hA h1 R₀ fun x s' G V=>k _ _ _ _ (R₀.grow G) (StepE.ofGrow G) V
noncomputable def getP (i:Nat):St→Option PV:=fun st=>match st[i]? with
 | some (.froz p)=>some p
 | _=>none
theorem p_int {i:Int} {k:Nat} {pos:Pos}:SoundP X F d (.Constant (.int i) k pos) (fun _=>some (.int i)):=by
 intro A Av Mu env st s v Q E hr hf r k'
 cases hf
 exact wpAny_Constant_int (k' _ _ .toks VR.int')
set_option tactic.hygienic true in
theorem p_name {x:Str} {pos:Pos} {i:Nat} (hi:F.names[i]? =some x) (hn:autoParam ((x==("__classdict__":Str))=false) Mine.au3._auto_1) (hd:autoParam ((x==("__debug__":Str))=false) Mine.au3._auto_1):SoundP X F d (.Name x pos) (getP i):=by
 intro A Av Mu env st s v Q E hr hf r k
 unfold getP at hf
 split at hf<;>cases hf
 rename_i e
 obtain ⟨u,hv,q⟩:=r.vars i x _ hi e
 exact wpAny_Name (wp_load r hv hn (k _ _ (Grow.refl s) q)) hd
set_option tactic.hygienic true in
theorem p_bin {op:Operator} {l r:Expr} {pos:Pos} {f g:St→Option PV} (hl:SoundP X F d l f) (hr:SoundP X F d r g):SoundP X F d (.BinOp l op r pos) (fun st=>match f st,g st with
  | some a,some b=>binOp op a b
  | _,_=>none):=by
 intro A Av Mu env st s v Q E hA hf R₀ k
 dsimp only at hf
 split at hf
 ·rename_i a b e1 e2
  refine wpAny_BinOp (hl _ hA e1 R₀ fun va s1 G1 V1=>hr _ hA e2 (R₀.grow G1) fun vb s2 G2 V2=>?_)
  exact binOp_w hf (V1.grow G2) V2 fun v' s' G V=>k _ _ ((G1.trans G2).trans G) V
 ·cases hf
theorem p_neg {i:Int} {k:Nat} {pos pos':Pos}:SoundP X F d (.UnaryOp .USub (.Constant (.int i) k pos) pos') (fun _=>some (.int (-i))):=by
 intro A Av Mu env st s v Q E hr hf r k'
 cases hf
 show wpAny _ _ (do let v ←eval (.Constant (.int i) k pos) env;standAt pos';holding [v] (unaryOp .USub v)) _ _ _
 exact wpAny_bind (wpAny_Constant_int (wpAny_bind (wpAny_standAt (wpAny_holding (P.neg_int (k' _ _ .toks VR.int'))))))
noncomputable def ownItem (j:Nat) (g:St→Option PV):St→Option PV:=fun st=>match st[j]?,g st with
 | some (.own xs),some i=>pyItem (.list xs) i
 | some (.froz p),some i=>pyItem p i
 | _,_=>none
set_option tactic.hygienic true in
theorem p_item_own {x:Str} {slice:Expr} {p pos:Pos} {j:Nat} {g:St→Option PV} (hx:F.names[j]? =some x) (hi:SoundP X F d slice g)
  (hs:autoParam (∀o i,subscripted slice false o i=operate [o,i] (getItem o i)) Mine.au1._auto_1)
  (hn:autoParam ((x==("__classdict__":Str))=false) Mine.au3._auto_1) (hd:autoParam ((x==("__debug__":Str))=false) Mine.au3._auto_1):
  SoundP X F d (.Subscript (.Name x p) slice pos) (ownItem j g):=by
 intro A Av Mu env st s v Q E hA hf R₀ k
 unfold ownItem at hf
 split at hf
 ·rename_i xs i e1 e2
  obtain ⟨a,vs,n,hv,g1,hm,z⟩:=R₀.vars j x _ hx e1
  refine Subscript_ (wpAny_Name (wp_load R₀ hv hn ?_) hd)
  refine hi _ hA e2 R₀ fun vb s2 G V2=>?_
  obtain ⟨m,j',rfl,q,e,e3⟩:=pyItem_list hf
  unfold VR at V2;obtain ⟨u,rfl⟩:=V2
  obtain ⟨w,e3,z1⟩:=z.get e3
  have g2:=G.keep _ _ g1
  have hl:s2.heap.IsList a vs.toArray:=⟨_,g2,rfl,n,rfl⟩
  refine tail_any hl.typeIs slot_list_getitem.lookup ?_ (hs _ _)
  exact list_item_w g2 q (by rw [z.length];exact e) e3 (k _ _ G (z1.grow G))
 ·rename_i p i e1 e2
  obtain ⟨u,hv,q⟩:=R₀.vars j x _ hx e1
  refine Subscript_ (wpAny_Name (wp_load R₀ hv hn ?_) hd)
  refine hi _ hA e2 R₀ fun vb s2 G V2=>?_
  exact pyItem_w hf (q.grow G) V2 hs fun v' s' G' V=>k _ _ (G.trans G') V
 ·cases hf
noncomputable def SoundEs (X:Cx) (F:FI) (d:Nat) (es:List Expr) (f:St→Option (List PV×St)):Prop:=∀pos:Pos,SoundT X F d VRs (fun env=>spliced (backTo pos (starEach es env))) f
theorem es_nil:SoundEs X F d [] (pureE []):=by
 intro pos
 refine @SoundT.intro _ _ _ _ _ _ _ _ ?_
 intro A Av Mu env st st' s v Q E hA hf R₀ tk k
 cases hf
 exact Calls.spliced_nil (k _ _ _ _ R₀ StepE.refl VRs.nil)
theorem es_cons {e:Expr} {es:List Expr} {f:EvE} {g:St→Option (List PV×St)} (h:SoundE X F d e f) (h':SoundEs X F d es g) (hp:autoParam (∀env,starEach (e::es) env=(false,eval e env)::starEach es env) Mine.au4._auto_1):
  SoundEs X F d (e::es) (bindE f fun a=>bindE g fun as=>pureE (a::as)):=by
 intro pos
 refine @SoundT.intro _ _ _ _ _ _ _ _ ?_
 intro A Av Mu env st st' s v Q E hA hf R₀ tk k
 refine bindE_elim hf fun a st1 h1 hf=>?_
 refine bindE_elim hf fun as st2 h2 hf=>?_
 cases hf
 show wpAny _ _ (spliced (backTo pos (starEach (e::es) env))) _ _ _
 rw [hp]
 refine Calls.spliced_cons (h _ hA h1 R₀ tk fun va s1 Av1 Mu1 R1 S1 V1 tk1=>h' pos _ hA h2 R1 tk1 fun vb s2 Av2 Mu2 R2 S2 V2 tk2=>?_)
 exact k _ _ _ _ R2 (S1.trans S2 R₀.lt) (VRs.cons (V1.step S2.toStep R1.ma) V2)
theorem newList_w {A:Around} {Av:Addr→Prop} {s:Shared} {Q:Value→Shared→Prop} {E:Value→Shared→Prop} {M:Model} {vs:List Value} {xs:List PV} (lt:∀a,Av a→a < s.heap.objs.size) (hv:VRs s.heap Av vs xs) (hl:xs.length≤16777216)
  (k:∀v s',Grow s s'→VR s'.heap Av v (.list xs)→Q v s'):wpAny M A (newList vs) Q E s:=by
 refine wpAny_newObj_type (k _ _ (Grow.push _) ?_) (by show vs.toArray.size≤sizeLine;rw [List.size_toArray,hv.length];exact hl)
 unfold VR
 refine ⟨_,vs,0,rfl,Heap.get?_push_size _ rfl,fun q=>absurd (lt _ q) (Nat.lt_irrefl _),?_⟩
 exact hv.mono (fun a o e _=>Heap.get?_push_of_some _ e) (fun _ _ n=>n) (by simp)
theorem newTuple_w {A:Around} {Av:Addr→Prop} {s:Shared} {Q:Value→Shared→Prop} {E:Value→Shared→Prop} {M:Model} {vs:List Value} {xs:List PV} (lt:∀a,Av a→a < s.heap.objs.size) (hv:VRs s.heap Av vs xs) (hl:xs.length≤16777216)
  (k:∀v s',Grow s s'→VR s'.heap Av v (.tuple xs)→Q v s'):wpAny M A (newTuple vs) Q E s:=by
 refine wpAny_newObj_type (k _ _ (Grow.push _) ?_) (by show vs.toArray.size≤sizeLine;rw [List.size_toArray,hv.length];exact hl)
 unfold VR
 refine ⟨_,vs,0,rfl,Heap.get?_push_size _ rfl,fun q=>absurd (lt _ q) (Nat.lt_irrefl _),?_⟩
 exact hv.mono (fun a o e _=>Heap.get?_push_of_some _ e) (fun _ _ n=>n) (by simp)
noncomputable def mkL (as:List PV):Option PV:=if as.length≤16777216 then some (.list as) else none
noncomputable def mkT (as:List PV):Option PV:=if as.length≤16777216 then some (.tuple as) else none
theorem s_list {es:List Expr} {pos:Pos} {f:St→Option (List PV×St)} (h:SoundEs X F d es f):SoundE X F d (.List es pos) (bindE f fun as=>liftE (mkL as)):=by
 refine @SoundT.intro _ _ _ _ _ _ _ _ ?_
 intro A Av Mu env st st' s v Q E hA hf R₀ tk k
 refine bindE_elim hf fun as st1 h1 hf=>?_
 obtain ⟨h3,rfl⟩:=liftE_some hf
 unfold mkL at h3
 split at h3<;>cases h3
 refine List_ (h pos _ hA h1 R₀ tk fun va s1 Av1 Mu1 R1 S1 V1 tk1=>newList_w R1.lt V1 ‹_› fun v' s' G V=>?_)
 exact k _ _ _ _ (R1.grow G) (S1.trans (StepE.ofGrow G) R₀.lt) V
theorem s_tuple {es:List Expr} {n:Nat} {pos:Pos} {f:St→Option (List PV×St)} (h:SoundEs X F d es f):SoundE X F d (.Tuple es n pos) (bindE f fun as=>liftE (mkT as)):=by
 refine @SoundT.intro _ _ _ _ _ _ _ _ ?_
 intro A Av Mu env st st' s v Q E hA hf R₀ tk k
 refine bindE_elim hf fun as st1 h1 hf=>?_
 obtain ⟨h3,rfl⟩:=liftE_some hf
 unfold mkT at h3
 split at h3<;>cases h3
 refine Tuple_ (h pos _ hA h1 R₀ tk fun va s1 Av1 Mu1 R1 S1 V1 tk1=>newTuple_w R1.lt V1 ‹_› fun v' s' G V=>?_)
 exact k _ _ _ _ (R1.grow G) (S1.trans (StepE.ofGrow G) R₀.lt) V
end
section
variable {X:Cx} {F:FI} {d:Nat}
noncomputable def PartR (h:Heap) (Av:Addr→Prop) (v:Value) (p:Option Int):Prop:=match p with
 | none=>v=.none
 | some i=>∃t,v=.int i t
noncomputable def SoundPt (X:Cx) (F:FI) (d:Nat) (o:Option Expr) (f:St→Option (Option Int×St)):Prop:=SoundT X F d PartR (evalPart o) f
noncomputable def asI:PV→Option (Option Int)
 | .int i=>some (some i)
 | _=>none
theorem pt_none:SoundPt X F d none (pureE none):=by
 refine @SoundT.intro _ _ _ _ _ _ _ _ ?_
 intro A Av Mu env st st' s v Q E hA hf R₀ tk k
 cases hf
 exact wpAny_pure (k _ _ _ _ R₀ StepE.refl rfl)
theorem pt_some {e:Expr} {f:EvE} (h:SoundE X F d e f):SoundPt X F d (some e) (bindE f fun p=>liftE (asI p)):=by
 refine @SoundT.intro _ _ _ _ _ _ _ _ ?_
 intro A Av Mu env st st' s v Q E hA hf R₀ tk k
 refine bindE_elim hf fun a st1 h1 hf=>?_
 obtain ⟨h3,rfl⟩:=liftE_some hf
 refine h _ hA h1 R₀ tk fun va s1 Av1 Mu1 R1 S1 V1 tk1=>?_
 cases a<;>(try cases h3)
 unfold VR at V1
 exact k _ _ _ _ R1 S1 V1
noncomputable def strSl (x:Str) (a b c:Option Int):Str:=if (c.getD 1==1&&(strSliceIndices a b (c.getD 1) x.length).length==x.length)=true then x else ⟨((strSliceIndices a b (c.getD 1) x.length).filterMap (x.cps[·]?)).toArray⟩
noncomputable def listSl {α:Type} (xs:List α) (a b c:Option Int):List α:=pick xs (sliceRange (sliceBounds a b c xs.length).1 (sliceBounds a b c xs.length).2.1 (sliceBounds a b c xs.length).2.2)
noncomputable def pySlice (o:PV) (a b c:Option Int):Option PV:=if c=some 0 then none else match o with
 | .str x=>if (strSl x a b c).length≤16777216 then some (.str (strSl x a b c)) else none
 | .list xs=>if xs.length≤16777216 then some (.list (listSl xs a b c)) else none
 | _=>none
noncomputable def withTok (p:Option Int) (t:Tok):Option (Int×Tok):=p.map fun i=>(i,t)
theorem partR_part {h:Heap} {Av:Addr→Prop} {v:Value} {p:Option Int} (x:PartR h Av v p):∃t,v=partValue (withTok p t):=by
 cases p with
 | none=>exact ⟨0,x⟩
 | some i=>obtain ⟨t,e⟩:=x;exact ⟨t,e⟩
theorem partR_is {h:Heap} {Av:Addr→Prop} {v:Value} {p:Option Int} (x:PartR h Av v p):IsPart v p:=by
 cases p with
 | none=>cases x;exact .none
 | some i=>obtain ⟨t,e⟩:=x;subst e;exact .int i t
theorem withTok_fst {p:Option Int} {t:Tok}:(withTok p t).map (·.1)=p:=by cases p<;>rfl
section
variable {A:Around} {Av:Addr→Prop} {s:Shared} {Q:Value→Shared→Prop} {E:Value→Shared→Prop}
set_option tactic.hygienic true in
theorem pySlice_w {o r:PV} {a b c:Option Int} {vo va vb vc:Value} (h:pySlice o a b c=some r) (lt:∀a,Av a→a < s.heap.objs.size) (ho:VR s.heap Av vo o) (ha:PartR s.heap Av va a) (hb:PartR s.heap Av vb b) (hc:PartR s.heap Av vc c)
  {value slice:Expr} (hs:∀o i,∃ops,subscripted slice false o i=operate ops (getItem o i)) (k:∀v s',Grow s s'→VR s'.heap Av v r→Q v s'):
  wpAny (model X.prog X.w) A (subscriptTail value slice vo (.ref s.heap.objs.size)) Q E { s with heap:=s.heap.push { cls:=.type "slice",data:=.fields #[va,vb,vc] } }:=by
 unfold pySlice at h
 split at h
 ·cases h
 rename_i h0
 split at h
 ·split at h<;>cases h
  rename_i x hlen
  unfold VR at ho;obtain ⟨t,rfl⟩:=ho
  obtain ⟨t1,rfl⟩:=partR_part ha
  obtain ⟨t2,rfl⟩:=partR_part hb
  obtain ⟨t3,rfl⟩:=partR_part hc
  obtain ⟨ops,hs⟩:=hs (.str x t) (.ref s.heap.objs.size)
  refine tail_any (typeIs_str _ _ t) F.slot_str_getitem.lookup ?_ hs
  refine wpAny_getItem_str_slice (l:=withTok a t1) (u:=withTok b t2) (st:=withTok c t3) ⟨_,Heap.get?_push_size _ rfl,rfl,rfl⟩ ?_ ?_
  ·rw [withTok_fst]
   cases c with
   | none=>rfl
   | some i=>
    show (i==0)=false
    exact beq_eq_false_iff_ne.mpr fun e=>h0 (by rw [e])
  ·unfold sliceMade slicePicked
   rw [withTok_fst,withTok_fst,withTok_fst]
   unfold strSl at hlen k
   by_cases hq:(c.getD 1==1&&(strSliceIndices a b (c.getD 1) x.length).length==x.length)=true
   ·rw [if_pos hq]
    rw [if_pos hq] at k
    exact k _ _ (Grow.push _) VR.str'
   ·rw [if_neg hq]
    rw [if_neg hq] at k hlen
    exact ⟨hlen,k _ _ (Grow.push _) VR.str'⟩
 ·split at h<;>cases h
  rename_i xs hlen
  unfold VR at ho;obtain ⟨l,vs,n,rfl,g,na,z⟩:=ho
  obtain ⟨ops,hs⟩:=hs (.ref l) (.ref s.heap.objs.size)
  have g':(s.heap.push { cls:=.type "slice",data:=.fields #[va,vb,vc] }).get? l=some (listObj vs n):=Heap.get?_push_of_some _ g
  have hl:(s.heap.push { cls:=.type "slice",data:=.fields #[va,vb,vc] }).IsList l vs.toArray:=⟨_,g',rfl,n,rfl⟩
  refine tail_any (Heap.IsList.typeIs (s:={ s with heap:=s.heap.push { cls:=.type "slice",data:=.fields #[va,vb,vc] } }) hl) slot_list_getitem.lookup ?_ hs
  refine wpAny_getItem_list_slice (lo:=a) (hi:=b) (st:=c) hl (Heap.IsSliceOf.new ..) (partR_is ha) (partR_is hb) (partR_is hc) h0 ?_ (by rw [List.size_toArray,z.length];exact hlen)
  refine k _ _ ((Grow.push _).trans (Grow.push (s:={ s with heap:=s.heap.push { cls:=.type "slice",data:=.fields #[va,vb,vc] } }) _)) ?_
  unfold VR
  have e:slicePick vs.toArray a b c=(listSl vs a b c).toArray:=by
   unfold slicePick listSl pick
   simp
  refine ⟨_,listSl vs a b c,0,rfl,?_,fun q=>?_,?_⟩
  ·rw [e]
   exact Heap.get?_push_size _ rfl
  ·have h8:(s.heap.push { cls:=.type "slice",data:=.fields #[va,vb,vc] }).objs.size=s.heap.objs.size+1:=Heap.size_push ..
   have h9:(s.heap.push { cls:=.type "slice",data:=.fields #[va,vb,vc] }).objs.size < s.heap.objs.size:=lt _ q
   lia
  ·have:=z.pick (sliceRange (sliceBounds a b c xs.length).1 (sliceBounds a b c xs.length).2.1 (sliceBounds a b c xs.length).2.2)
   unfold listSl
   rw [z.length]
   exact this.mono (fun a o e _=>Heap.get?_push_of_some _ (Heap.get?_push_of_some _ e)) (fun _ _ n=>n) (by simp;lia)
 ·cases h
end
theorem PartR.any {h h':Heap} {Av Av':Addr→Prop} {v:Value} {p:Option Int} (x:PartR h Av v p):PartR h' Av' v p:=by cases p<;>exact x
theorem s_slice {value:Expr} {l u stp:Option Expr} {p pos:Pos} {f:EvE} {g h k:St→Option (Option Int×St)} (hv:SoundE X F d value f) (hl:SoundPt X F d l g) (hu:SoundPt X F d u h) (hst:SoundPt X F d stp k)
  (hs:autoParam (∀o i,∃ops,subscripted (.Slice l u stp p) false o i=operate ops (getItem o i)) Mine.au10._auto_1):
  SoundE X F d (.Subscript value (.Slice l u stp p) pos) (bindE f fun o=>bindE g fun a=>bindE h fun b=>bindE k fun c=>liftE (pySlice o a b c)):=by
 refine @SoundT.intro _ _ _ _ _ _ _ _ ?_
 intro A Av Mu env st st' s v Q E hA hf R₀ tk kk
 refine bindE_elim hf fun o st1 h1 hf1=>?_
 refine bindE_elim hf1 fun a st2 h2 hf2=>?_
 refine bindE_elim hf2 fun b st3 h3 hf3=>?_
 refine bindE_elim hf3 fun c st4 h4 hf4=>?_
 obtain ⟨h5,e5⟩:=liftE_some hf4
 subst e5
 refine Subscript_ (hv _ hA h1 R₀ tk fun vo s1 Av1 Mu1 R1 S1 V1 tk1=>wpAny_Slice ?_)
 refine hl _ hA h2 R1 tk1 fun va s2 Av2 Mu2 R2 S2 V2 tk2=>hu _ hA h3 R2 tk2 fun vb s3 Av3 Mu3 R3 S3 V3 tk3=>hst _ hA h4 R3 tk3 fun vc s4 Av4 Mu4 R4 S4 V4 tk4=>?_
 have S24:=(S2.trans S3 R1.lt).trans S4 R1.lt
 refine pySlice_w h5 R4.lt (V1.step S24.toStep R1.ma) V2.any V3.any V4 hs fun v' s' G V=>?_
 exact kk _ _ _ _ (R4.grow G) ((S1.trans S24 R₀.lt).trans (StepE.ofGrow G) R₀.lt) V
structure MethW (X:Cx) (d:Nat) (name:Str) (m:PV→List PV→Option PV):Prop where
 w:∀{Av:Addr→Prop} {s:Shared} {ov:Value} {o r:PV} {as:List PV},m o as=some r→VR s.heap Av ov o→∃(T id:String),PlainAttrs T∧Slot T name id∧typeOf (.builtin id)=pure (.type "method_descriptor")∧s.TypeIs ov T∧
  (∀a,ov=.ref a→∃ob,s.heap.get? a=some ob∧ob.dict=none)∧
  ∀{A:Around} {Av':Addr→Prop} {s':Shared} {avs:List Value} {Q E:Value→Shared→Prop},Room d A→(∀a,Av' a→a < s'.heap.objs.size)→VR s'.heap Av' ov o→VRs s'.heap Av' avs as→
   (∀v s'',Grow s' s''→VR s''.heap Av' v r→Q v s'')→wpAny (model X.prog X.w) A (call (.builtin id) (ov::avs) []) Q E s'
theorem callArgs {M:Model} {A:Around} {Q E:Value→Shared→Prop} {s:Shared} {id:String} {first:List Value} {args:List Expr} {env:Env} {pos:Pos} (hp:(backTo pos (starEach args env)).any (·.1)=false)
  (h:wpAny M A (spliced (backTo pos (starEach args env))) (fun vs s₁=>wpAny M A (call (.builtin id) (first++vs) []) Q E s₁) E s):wpAny M A (callWith pos (.builtin id) first (backTo pos (starEach args env)) []) Q E s:=by
 refine Calls.callWith_builtin hp ?_
 cases hq:backTo pos (starEach args env) with
 | nil=>
  rw [hq] at h
  unfold spliced at h
  refine PySem.evalArgs_none ?_
  have:wpAny M A (Pure.pure []:Sem (List Value)) (fun vs s₁=>wpAny M A (call (.builtin id) (first++vs) []) Q E s₁) E s:=h
  intro Γ p hΓ
  exact this Γ p hΓ Γ p hΓ
 | cons x r=>
  obtain ⟨b,x⟩:=x
  rw [hq] at hp h
  have hb:b=false:=by
   simp at hp
   exact hp.1
  subst hb
  exact Calls.evalArgs_plain h
theorem s_meth {o:Expr} {name:Str} {apos pos:Pos} {args:List Expr} {f:EvE} {g:St→Option (List PV×St)} {m:PV→List PV→Option PV} (ho:SoundE X F d o f) (ha:SoundEs X F d args g) (hm:MethW X d name m)
  (hbase:autoParam (∀env,attributeBase o name env (eval o env)=eval o env) Mine.au4._auto_1)
  (hp:autoParam (∀env,(backTo pos (starEach args env)).any (·.1)=false) Mine.au4._auto_1)
  (hfew:autoParam (∀env,((backTo pos (starEach args env)).all (fun x=> !x.1)&&(backToKw pos (keywordEach [] env)).all (fun x=>x.1.isSome)&&decide (args.length+([]:List Keyword).length+(if ([]:List Keyword).isEmpty then 0 else 1) < 30))=true) Mine.au4._auto_1)
  (hline:autoParam ((apos.endLine==pos.line)=true) Mine.au2._auto_1):SoundE X F d (.Call (.Attribute o name apos) args [] pos) (bindE f fun a=>bindE g fun as=>liftE (m a as)):=by
 refine @SoundT.intro _ _ _ _ _ _ _ _ ?_
 intro A Av Mu env st st' s v Q E hA hf R₀ tk k
 refine bindE_elim hf fun a st1 h1 hf1=>?_
 refine bindE_elim hf1 fun as st2 h2 hf2=>?_
 obtain ⟨h3,e3⟩:=liftE_some hf2
 subst e3
 refine wpAny_Call_method_lateS (hbase env) (hfew env) hline (ho _ hA h1 R₀ tk fun va s1 Av1 Mu1 R1 S1 V1 tk1=>?_)
 obtain ⟨T,id,p1,p2,p3,p4,p5,w⟩:=hm.w h3 V1
 refine ⟨T,id,p1,p2,p3,p4,p5,callArgs (hp env) (ha pos _ hA h2 R1 tk1 fun vb s2 Av2 Mu2 R2 S2 V2 tk2=>?_)⟩
 exact w hA R2.lt (V1.step S2.toStep R1.ma) V2 fun v' s' G V=>k _ _ _ _ (R2.grow G) ((S1.trans S2 R₀.lt).trans (StepE.ofGrow G) R₀.lt) V
end
theorem wpAny_grow {α:Type} {M:Model} {A:Around} {t:Sem α} {P Q:α→Shared→Prop} {E:Value→Shared→Prop} {s:Shared}
  (h:wpAny M A t (fun v s'=>(∀a o,s.heap.get? a=some o→s'.heap.get? a=some o)∧s'.os=s.os∧s'.gens=s.gens∧P v s') E s) (k:∀v s',Grow s s'→P v s'→Q v s'):wpAny M A t Q E s:=
 wpAny_mono (wpAny_size h) (fun v s' q=>k v s' ⟨q.1.1,q.2,q.1.2.1,q.1.2.2.1⟩ q.1.2.2.2) fun _ _ e=>e
noncomputable def allOf {α β:Type} (f:α→Option β):List α→Option (List β)
 | []=>some []
 | x::r=>match f x,allOf f r with
  | some y,some ys=>some (y::ys)
  | _,_=>none
theorem strs_of {h:Heap} {Av:Addr→Prop}:∀{xs:List PV} {vs:List Value} {ss:List Str},VRs h Av vs xs→allOf asStr xs=some ss→∃l:List (Str×Tok),vs=strValues l∧l.map (·.1)=ss
 | [],[],ss,_,e=>by unfold allOf at e;cases e;exact ⟨[],rfl,rfl⟩
 | [],_::_,_,x,_=>by unfold VRs at x;exact x.elim
 | _::_,[],_,x,_=>by unfold VRs at x;exact x.elim
 | p::ps,v::vs,ss,x,e=>by
  unfold VRs at x
  unfold allOf at e
  cases p with
  | str y=>
   cases q:allOf asStr ps with
   | none=>rw [q] at e;cases e
   | some ys=>
    rw [q] at e
    cases e
    obtain ⟨l,rfl,hl⟩:=strs_of x.2 q
    have:=x.1
    unfold VR at this
    obtain ⟨t,rfl⟩:=this
    exact ⟨(y,t)::l,rfl,by simp [hl]⟩
  | _=>cases e
theorem ints_of {h:Heap} {Av:Addr→Prop}:∀{xs:List PV} {vs:List Value} {ss:List Int},VRs h Av vs xs→allOf asInt xs=some ss→∃l:List (Int×Tok),vs=l.map (fun p=>Value.int p.1 p.2)∧l.map (·.1)=ss
 | [],[],ss,_,e=>by unfold allOf at e;cases e;exact ⟨[],rfl,rfl⟩
 | [],_::_,_,x,_=>by unfold VRs at x;exact x.elim
 | _::_,[],_,x,_=>by unfold VRs at x;exact x.elim
 | p::ps,v::vs,ss,x,e=>by
  unfold VRs at x
  unfold allOf at e
  cases p with
  | int y=>
   cases q:allOf asInt ps with
   | none=>rw [q] at e;cases e
   | some ys=>
    rw [q] at e
    cases e
    obtain ⟨l,rfl,hl⟩:=ints_of x.2 q
    have:=x.1
    unfold VR at this
    obtain ⟨t,rfl⟩:=this
    exact ⟨(y,t)::l,rfl,by simp [hl]⟩
  | _=>cases e
theorem VRs.strs {h:Heap} {Av:Addr→Prop}:∀l:List (Str×Tok),VRs h Av (strValues l) (l.map fun p=>.str p.1)
 | []=>VRs.nil
 | p::l=>VRs.cons VR.str' (VRs.strs l)
section
variable {X:Cx} {F:FI} {d:Nat}
noncomputable def find4 (x y:Str) (i j:Int):Int:=match occurrences x y (fromIndex x.length i) (min (fromIndex x.length j) x.length) 1 with
 | k::_=>(k:Int)
 | []=>-1
theorem gives_find4 (x y:Str) (i j:Int) (t u v w:Tok):Gives (Builtin.«str.find» ⟨[.str x t,.str y u,.int i v,.int j w],[]⟩) (.int (find4 x y i j)):=by
 show Gives (match occurrences x y (fromIndex x.length i) (min (fromIndex x.length j) x.length) 1 with | k::_=>retInt k | []=>(do rule "str.find.not-found";retInt (-1))) _
 unfold find4
 cases occurrences x y (fromIndex x.length i) (min (fromIndex x.length j) x.length) 1 with
 | nil=>exact .rule (.of_eq rfl)
 | cons k _=>exact .of_eq rfl
theorem VRs.uncons {h:Heap} {Av:Addr→Prop} {vs:List Value} {p:PV} {ps:List PV} (x:VRs h Av vs (p::ps)):∃v us,vs=v::us∧VR h Av v p∧VRs h Av us ps:=by
 cases vs with
 | nil=>unfold VRs at x;exact x.elim
 | cons v us=>unfold VRs at x;exact ⟨v,us,rfl,x.1,x.2⟩
theorem VRs.none {h:Heap} {Av:Addr→Prop} {vs:List Value} (x:VRs h Av vs []):vs=[]:=by
 cases vs with
 | nil=>rfl
 | cons=>unfold VRs at x;exact x.elim
noncomputable def args3 (f:PV→PV→PV→Option PV) (as:List PV):Option PV:=match as with
 | [a,b,c]=>f a b c
 | _=>none
theorem args3_some {f:PV→PV→PV→Option PV} {as:List PV} {r:PV} (h:args3 f as=some r):∃a b c,as=[a,b,c]∧f a b c=some r:=match as,h with
 | [a,b,c],h=>⟨a,b,c,rfl,h⟩
noncomputable def pyFind (o:PV) (as:List PV):Option PV:=(asStr o).bind fun x=>args3 (fun y i j=>(asStr y).bind fun y=>(asInt i).bind fun i=>(asInt j).map fun j=>.int (find4 x y i j)) as
theorem m_find:MethW X d "find" pyFind:=by
 refine ⟨fun {Av s ov o r as} h ho=>?_⟩
 obtain ⟨x,e0,h⟩:=Option.bind_eq_some_iff.mp h
 obtain ⟨y,i,j,rfl,h⟩:=args3_some h
 obtain ⟨y,e1,h⟩:=Option.bind_eq_some_iff.mp h
 obtain ⟨i,e2,h⟩:=Option.bind_eq_some_iff.mp h
 obtain ⟨j,e3,rfl⟩:=Option.map_eq_some_iff.mp h
 obtain ⟨t,rfl⟩:=(asStr_some e0 ▸ ho).str_of
 refine ⟨"str","str.find",F.plainAttrs_str,F.slot_str_find,F.type_str_find,typeIs_str _ _ _,(fun _ e=>nomatch e),?_⟩
 intro A Av' s' avs Q E hA lt ho' ha k
 obtain ⟨v1,vs,rfl,a1,ha⟩:=ha.uncons
 obtain ⟨v2,vs,rfl,a2,ha⟩:=ha.uncons
 obtain ⟨v3,vs,rfl,a3,ha⟩:=ha.uncons
 obtain rfl:=ha.none
 obtain ⟨t1,rfl⟩:=(asStr_some e1 ▸ a1).str_of
 obtain ⟨t2,rfl⟩:=(asInt_some e2 ▸ a2).int_of
 obtain ⟨t3,rfl⟩:=(asInt_some e3 ▸ a3).int_of
 exact call_gives F.slot_str_find (typeIs_str _ _ _) F.entry_str_find (F.args_str_find_4 _ _ _ _) (gives_find4 _ _ _ _ _ _ _ _) (k _ _ .toks VR.int')
noncomputable def joinS (sep:Str):List Str→Str
 | [x]=>x
 | xs=>glued sep xs
noncomputable def joinV (sep:Str) (a:PV):Option PV:=(asList a).bind fun xs=>(allOf asStr xs).bind fun ss=>if tooLong (ss.toArray.foldl (· +·.length+sep.length) 0)=false∧(joinS sep ss).length≤16777216 then some (.str (joinS sep ss)) else none
noncomputable def pyJoin (o:PV) (as:List PV):Option PV:=(asStr o).bind fun sep=>as.head?.bind fun a=>if as.tail.isEmpty=true then joinV sep a else none
theorem m_join:MethW X d "join" pyJoin:=by
 refine ⟨fun {Av s ov o r as} h ho=>?_⟩
 obtain ⟨sep,e0,h⟩:=Option.bind_eq_some_iff.mp h
 obtain ⟨a,e1,h⟩:=Option.bind_eq_some_iff.mp h
 obtain ⟨rfl,h⟩:as=[a]∧joinV sep a=some r:=by
  cases as with
  | nil=>cases e1
  | cons b l=>cases l with
   | nil=>cases e1;exact ⟨rfl,h⟩
   | cons=>cases h
 obtain ⟨xs,e2,h⟩:=Option.bind_eq_some_iff.mp h
 obtain ⟨ss,e,h⟩:=Option.bind_eq_some_iff.mp h
 obtain ⟨hl,rfl⟩:=when_some h
 obtain ⟨t,rfl⟩:=(asStr_some e0 ▸ ho).str_of
 refine ⟨"str","str.join",F.plainAttrs_str,F.slot_str_join,F.type_str_join,typeIs_str _ _ _,(fun _ e=>nomatch e),?_⟩
 intro A Av' s' avs Q E hA lt ho' ha k
 obtain ⟨v1,vs,rfl,a1,ha⟩:=ha.uncons
 obtain rfl:=ha.none
 rw [asList_some e2] at a1
 unfold VR at a1
 obtain ⟨D,vs,n,rfl,g,na,z⟩:=a1
 obtain ⟨l,rfl,rfl⟩:=strs_of z e
 refine call_meets F.slot_str_join (typeIs_str _ _ _) F.entry_str_join (F.args_str_join_2 _ _) (meets_str_join_list sep t D l hl.1) ⟨⟨_,g,rfl,n,rfl⟩,?_⟩
 have hl2:=hl.2
 cases l with
 | nil=>exact ⟨hl2,k _ _ .toks VR.str'⟩
 | cons p l=>cases l with
  | nil=>exact k _ _ (Grow.refl _) VR.str'
  | cons=>exact ⟨hl2,k _ _ .toks VR.str'⟩
noncomputable def pySplit:PV→List PV→Option PV
 | .str x,[.str y]=>if (y.length==0)=false∧x.length≤16777216∧(partsBetween x (occurrences x y 0 x.length (x.length+1)) y.length).length≤16777216 then some (.list ((Txt.split x y).map .str)) else none
 | _,_=>none
set_option tactic.hygienic true in
theorem m_split:MethW X d "split" pySplit:=by
  refine ⟨fun {Av s ov o r as} h ho=>?_⟩
  unfold pySplit at h
  split at h<;>(try cases h)
  split at h<;>cases h
  rename_i x y hc
  unfold VR at ho;obtain ⟨t,rfl⟩:=ho
  refine ⟨"str","str.split",F.plainAttrs_str,F.slot_str_split,F.type_str_split,typeIs_str _ _ _,(fun _ e=>nomatch e),?_⟩
  intro A Av' s' avs Q E hA lt ho' ha k
  match avs,ha with
  | [a],ha=>
    unfold VRs at ha;obtain ⟨a1,ha⟩:=ha
    unfold VR at a1
    obtain ⟨u,rfl⟩:=a1
    have fin:∀(l:List (Str×Tok)) (tk:Nat),l.map (·.1)=Txt.split x y→Q (.ref s'.heap.objs.size) { s' with heap:=s'.heap.push { cls:=.type "list",data:=.seq (strValues l).toArray },toks:=tk }:=fun l tk e=>by
      refine k _ _ (Grow.push _) ?_
      unfold VR
      refine ⟨_,strValues l,0,rfl,Heap.get?_push_size _ rfl,fun q=>absurd (lt _ q) (Nat.lt_irrefl _),?_⟩
      rw [←e,List.map_map]
      exact VRs.strs l
    cases h1:(decide (x.length < y.length)||decide (strKind x < strKind y))
    · cases hf:(occurrences x y 0 x.length (x.length+1)).isEmpty
      · refine call_meets F.slot_str_split (typeIs_str _ _ _) F.entry_str_split (F.args_str_split_2 _ _) (meets_str_split_sep x y t u h1 hc.1 hf hc.2.1 hc.2.2) ?_
        show wants Q E _ { s' with toks:=_,heap:=s'.heap.push { cls:=.type "list",data:=.seq (strsFrom s'.toks (partsBetween x (occurrences x y 0 x.length (x.length+1)) y.length)).toArray } }
        rw [strsFrom_eq]
        exact fin (numbered s'.toks _) _ ((numbered_texts _ _).trans ((if_neg (ne_true_of_eq_false h1)).trans (if_neg (ne_true_of_eq_false hf))).symm)
      · exact call_meets F.slot_str_split (typeIs_str _ _ _) F.entry_str_split (F.args_str_split_2 _ _) (meets_str_split_not_found x y t u h1 hc.1 hf)
          (fin [(x,t)] _ ((if_neg (ne_true_of_eq_false h1)).trans (if_pos hf)).symm)
    · exact call_meets F.slot_str_split (typeIs_str _ _ _) F.entry_str_split (F.args_str_split_2 _ _) (meets_str_split_cannot_occur x y t u h1) (fin [(x,t)] _ (if_pos h1).symm)
  | [],ha=>unfold VRs at ha;exact ha.elim
  | _::_::_,ha=>unfold VRs at ha;have:=ha.2;unfold VRs at this;exact this.elim
end
theorem bindL_off {k:Str→Option NameKind} {x:Str}:∀{binds:List (Str×Value)} {m:Str→Option Value},x ∉ binds.map (·.1)→bindL k binds m x=m x
 | [],_,_=>rfl
 | (n,v)::r,m,h=>by
  unfold bindL
  rw [bindL_off (fun q=>h (List.mem_cons_of_mem _ q))]
  split
  ·show (if x=n then some v else m x)=m x
   rw [if_neg fun e=>h (by rw [e];exact List.mem_cons_self)]
  ·rfl
theorem bindC_off {k:Str→Option NameKind} {x:Str}:∀{binds:List (Str×Value)} {m:Str→Option Value},x ∉ binds.map (·.1)→bindC k binds m x=m x
 | [],_,_=>rfl
 | (n,v)::r,m,h=>by
  unfold bindC
  rw [bindC_off (fun q=>h (List.mem_cons_of_mem _ q))]
  split
  ·rfl
  ·show (if x=n then some v else m x)=m x
   rw [if_neg fun e=>h (by rw [e];exact List.mem_cons_self)]
theorem bindL_get {k:Str→Option NameKind} {x:Str} {v:Value} (hk:k x=some .local):∀{binds:List (Str×Value)} {m:Str→Option Value},(binds.map (·.1)).Nodup→(x,v)∈binds→bindL k binds m x=some v
 | (n,u)::r,m,hn,h=>by
  rw [List.map_cons,List.nodup_cons] at hn
  unfold bindL
  rcases List.mem_cons.mp h with e | h
  ·cases e
   rw [bindL_off hn.1,if_pos hk]
   simp
  ·exact bindL_get hk hn.2 h
theorem bindC_get {k:Str→Option NameKind} {x:Str} {v:Value} (hk:k x≠some .local):∀{binds:List (Str×Value)} {m:Str→Option Value},(binds.map (·.1)).Nodup→(x,v)∈binds→bindC k binds m x=some v
 | (n,u)::r,m,hn,h=>by
  rw [List.map_cons,List.nodup_cons] at hn
  unfold bindC
  rcases List.mem_cons.mp h with e | h
  ·cases e
   rw [bindC_off hn.1,if_neg hk]
   simp
  ·exact bindC_get hk hn.2 h
theorem newEnv_one {M:Model} {A:Around} {E:Value→Shared→Prop} {s:Shared} {scope:Scope} {globals:Addr} {n:Str} {v:Value} {qual:Str} {func:Option Addr} {code:Value} {builtins:Addr} {Q:Env→Shared→Prop}
  (hk:scope.kind=.function) (hl:scope.names.lookup n=some .local)
  (hQ:∀env,env=newEnv scope s.heap.objs.size globals (cellsFrom (s.heap.objs.size+1) scope.names []) qual func code none builtins→
   ∀s',InCallC s env.locals (bindL env.kindOf [(n,v)] fun _=>none) env.cells (bindC env.kindOf [(n,v)] fun _=>none) s'→1≤s'.toks→Q env s'):
  wpAny M A (newFunctionEnv scope globals [] [(n,v)] qual func code none builtins) Q E s:=by
 simp only [newFunctionEnv,Option.isSome_none,Bool.false_eq_true,if_false]
 refine wpAny_bind (wpAny_alloc ?_)
 refine wpAny_bind (wpAny_layCells _ (fun name kind cells=>by cases hkc:kind==NameKind.cell<;>simp [hkc]) _ _ _ _ ?_)
 have ok:=cellsFrom_ok scope.names (s.heap.push { cls:=.type "frame",data:=.dict #[] }) (s.heap.objs.size+1) [] ⟨fun _ _ hm=>(nomatch hm),List.Pairwise.nil⟩ (by rw [Heap.size_push];exact Nat.le_refl _)
 rw [Heap.size_push] at ok
 rw [show ({ s with heap:=s.heap.push { cls:=.type "frame",data:=.dict #[] } }:Shared).heap.objs.size=s.heap.objs.size+1 from Heap.size_push ..]
 have X0:InCallC s s.heap.objs.size (fun _=>none) (cellsFrom (s.heap.objs.size+1) scope.names []) (fun _=>none) { s with heap:=pushCells (s.heap.push { cls:=.type "frame",data:=.dict #[] }) scope.names }:=
  ⟨⟨⟨_,_,rfl⟩,(Heap.Ns.new s.heap (.type "frame")).keeps (pushCells_keeps _ _),fun b o e=>pushCells_keeps _ _ b o (Heap.get?_push_of_some _ e),Nat.le_refl _⟩,
   fun n c hc=>(ok.empty n c (mem_of_lookup hc)).1,ok.apart,fun n c hm=>(ok.empty n c hm).2⟩
 refine wpAny_bind ?_
 rw [List.forIn_cons]
 refine wpAny_bind (wpAny_bind (wpAny_storeName_local (env:=newEnv scope s.heap.objs.size globals (cellsFrom (s.heap.objs.size+1) scope.names []) qual func code none builtins) hl X0.toInCall.ns (fun h' hn' hs'=>?_) (by show (scope.kind==.class||(scope.kind==.module&&_))=false;rw [hk];rfl)))
 refine wpAny_pure ?_
 dsimp only
 rw [List.forIn_nil]
 refine wpAny_pure (wpAny_pure (hQ _ rfl _ ⟨⟨⟨h',_,rfl⟩,?_,fun b o e=>?_,X0.toInCall.fresh⟩,fun k c hc=>?_,X0.apart,X0.above⟩ (Nat.succ_le_succ (Nat.zero_le _))))
 ·unfold bindL
  rw [if_pos (show (newEnv scope s.heap.objs.size globals (cellsFrom (s.heap.objs.size+1) scope.names []) qual func code none builtins).kindOf n=some NameKind.local from hl)]
  exact hn'
 ·exact hs'.extBut b o (Nat.ne_of_lt (Nat.lt_of_lt_of_le (Heap.lt_size e) X0.toInCall.fresh)) (X0.toInCall.keep b o e)
 ·unfold bindC
  rw [if_pos (show (newEnv scope s.heap.objs.size globals (cellsFrom (s.heap.objs.size+1) scope.names []) qual func code none builtins).kindOf n=some NameKind.local from hl)]
  exact (X0.cell k c hc).sameBut hs' (Nat.ne_of_gt (X0.above k c (mem_of_lookup hc)))
theorem call_cellsT {prog:Program} {w:World} {A:Around} {s:Shared} {R:Result→Shared→Prop} {a:Addr} {o:Obj} {fd:FuncData} {body:List Stmt} {vals:List Value} {binds:List (Str×Value)}
    (hroom:A.depth < recursionLimit) (ho:s.heap.get? a=some o) (hdata:o.data=.func fd) (hlim:s.heap.NoLimit) (hcd:s.heap.CodeRec fd.code fd.qualname)
    (hbody:fd.body=.stmts body) (hbind:bindArgs fd ⟨vals,[]⟩=pure binds) (hclo:fd.closure=[])
    (hkind:∀x∈binds,fd.scope.names.lookup x.1=some .local∨(fd.scope.names.lookup x.1=some .cell∧((cellsFrom (s.heap.objs.size+1) fd.scope.names []).lookup x.1).isSome=true))
    (h:∀s₁,InCallC s (callEnvC fd s.heap.objs.size a).locals (bindL (callEnvC fd s.heap.objs.size a).kindOf binds fun _=>none) (callEnvC fd s.heap.objs.size a).cells
        (bindC (callEnvC fd s.heap.objs.size a).kindOf binds fun _=>none) s₁→(1≤s.toks∨(∃n v,binds=[(n,v)]∧fd.scope.names.lookup n=some .local)→1≤s₁.toks)→
      wpAny (model prog w) (A.deeper (callEnvC fd s.heap.objs.size a)) (execs body (callEnvC fd s.heap.objs.size a)) (fun f s'=>R (.ok (.ret (match f with | .ret v=>v | _=>.none))) s')
        (fun e s'=>wpAny (model prog w) (A.deeper (callEnvC fd s.heap.objs.size a)) (leaving (callEnvC fd s.heap.objs.size a) e) (fun _ s''=>R (.error e) s'') (fun e' s''=>R (.error e') s'') s') s₁)
    (hco:fd.scope.isCoroutine=false) (hgen:fd.scope.isGenerator=false) (hk:fd.scope.kind=.function):
    codeAny (model prog w) A (.call (.ref a) ⟨vals,[]⟩) R s:=by
  refine codeAny_call_function hroom ho hdata hco hgen hbody hcd ?_
  rw [hbind,hclo]
  by_cases h1:∃n v,binds=[(n,v)]∧fd.scope.names.lookup n=some .local
  · obtain ⟨n,v,rfl,hl⟩:=h1
    refine wpAny_pure (newEnv_one hk hl fun env he s' x ht=>?_)
    subst he
    exact ⟨hlim.keeps x.toInCall.keep,codeAny_func (h s' x fun _=>ht)⟩
  refine wpAny_pure (wpAny_mono (wpAny_toks (wpAny_newFunctionEnv_cells (Q:=fun env s'=>env=newEnv fd.scope s.heap.objs.size fd.globals (cellsFrom (s.heap.objs.size+1) fd.scope.names []) (fd.qualname++".<locals>.") (some a) fd.code none fd.builtins∧
    InCallC s env.locals (bindL env.kindOf binds fun _=>none) env.cells (bindC env.kindOf binds fun _=>none) s') hk hkind fun env he s' x=>⟨he,x⟩)) (fun env s' q=>?_) fun _ _ e=>e)
  obtain ⟨⟨he,x⟩,ht⟩:=q
  subst he
  exact ⟨hlim.keeps x.toInCall.keep,codeAny_func (h s' x fun q=>q.elim (fun t=>Nat.le_trans t ht) fun t=>absurd t h1)⟩
structure Pre (X:Cx) (Av:Addr→Prop) (s:Shared):Prop where
 base:∀b o,X.B.get? b=some o→s.heap.get? b=some o∧¬ Av b
 tabs:∀a,X.Tb a→Av a∧TabAt X s.heap Av a
 lt:∀a,Av a→a < s.heap.objs.size
theorem R.pre {X:Cx} {F:FI} {Av Mu:Addr→Prop} {env:Env} {st:St} {s:Shared} (r:R X F Av Mu env st s):Pre X Av s:=⟨r.base,fun a t=>⟨r.ma a (r.tabs a t).1,(r.tabs a t).2⟩,r.lt⟩
structure Post (X:Cx) (Av:Addr→Prop) (s:Shared) (v:Value) (p:PV) (s':Shared):Prop where
 keep:∀a o,s.heap.get? a=some o→¬ X.Tb a→s'.heap.get? a=some o
 tabs:∀a,X.Tb a→TabAt X s'.heap Av a
 size:s.heap.objs.size≤s'.heap.objs.size
 os:s'.os=s.os
 gens:AllBare s.gens→AllBare s'.gens
 val:VR s'.heap Av v p
theorem R.after {X:Cx} {F:FI} {Av Mu:Addr→Prop} {env:Env} {st:St} {s s':Shared} {v:Value} {p:PV} (r:R X F Av Mu env st s) (P:Post X Av s v p s'):R X F Av Mu env st s'∧Step Av Mu s Av Mu s':=
 ⟨r.keep' P.keep P.tabs P.size (fun _ h=>h) (fun _ h=>.inl h) (fun _ h=>h) r.ma,
  ⟨fun a o e n=>P.keep a o e fun t=>n (r.tabs a t).1,fun _ h=>.inl h,fun _ h=>.inl h,fun _ h _=>h,P.size,P.os,P.gens⟩⟩
theorem R.valsAfter {X:Cx} {F:FI} {Av Mu:Addr→Prop} {env:Env} {st:St} {s:Shared} {h':Heap} (r:R X F Av Mu env st s) (hk:∀a o,s.heap.get? a=some o→¬ X.Tb a→h'.get? a=some o):∀x v,ValAt s.heap env x v→ValAt h' env x v:=fun x v q=>by
 have tb:∀{a o},X.Tb a→s.heap.get? a=some o→∃ps,o=tabO ps:=fun t e=>by
  obtain ⟨ps,q,_⟩:=(r.tabs _ t).2
  exact ⟨ps,Option.some.inj (e.symm.trans q)⟩
 have kC:∀{c v},s.heap.IsCell c v→h'.IsCell c v:=fun {c v} q=>by
  obtain ⟨o,ho,hd⟩:=q
  refine ⟨o,hk _ _ ho fun t=>?_,hd⟩
  obtain ⟨ps,e⟩:=tb t ho
  rw [e] at hd;cases hd
 unfold ValAt at q ⊢
 split at q
 ·obtain ⟨m,⟨o,es,ep,ho,hd,z⟩,b⟩:=q
  refine ⟨m,⟨o,es,ep,hk _ _ ho fun t=>?_,hd,z⟩,b⟩
  obtain ⟨ps,e⟩:=tb t ho
  rw [e] at hd;cases hd
 ·obtain ⟨c,a,b⟩:=q;exact ⟨c,a,kC b⟩
 ·obtain ⟨c,a,b⟩:=q;exact ⟨c,a,kC b⟩
 ·exact q.elim
noncomputable def CallW (X:Cx) (d:Nat) (fa:Addr) (m:List PV→Option PV):Prop:=
 ∀{A:Around} {Av:Addr→Prop} {s:Shared} {avs:List Value} {as:List PV} {r:PV} {K:Result→Shared→Prop},Room d A→m as=some r→Pre X Av s→1≤s.toks→VRs s.heap Av avs as→
  (∀v s',Post X Av s v r s'→K (.ok (.ret v)) s')→codeAny (model X.prog X.w) A (.call (.ref fa) ⟨avs,[]⟩) K s
noncomputable def runF (g:EvS) (n:Nat) (as:List PV):Option PV:=match g (as.map .froz++List.replicate (n - as.length) .none) with
 | some (.ret p,_)=>some p
 | some (.next,_)=>some .none
 | _=>none
structure FnOK (X:Cx) (fa:Addr) (fd:FuncData) (body:List Stmt) (ps:List Str) (names:List Str):Prop where
 obj:∃o,X.B.get? fa=some o∧o.data=.func fd
 code:X.B.CodeRec fd.code fd.qualname
 body:fd.body=.stmts body
 clo:fd.closure=[]
 gl:fd.globals=mainGlobals
 bl:fd.builtins=builtinsNs
 bind:∀vals:List Value,vals.length=ps.length→bindArgs fd ⟨vals,[]⟩=pure (ps.zip vals)
 pre:∃rest,names=ps++rest
 nd:names.Nodup
 kinds:∀x∈names,fd.scope.names.lookup x=some .local∨fd.scope.names.lookup x=some .cell
 co:fd.scope.isCoroutine=false
 gen:fd.scope.isGenerator=false
 fn:fd.scope.kind=.function
theorem lookup_zip {ps:List Str} {vals:List Value}:∀{i:Nat} {x:Str} {v:Value},ps[i]? =some x→vals[i]? =some v→(x,v)∈ps.zip vals:=fun {i x v} h1 h2=>
 List.mem_of_getElem? (i:=i) (by rw [List.getElem?_zip_eq_some];exact ⟨h1,h2⟩)
noncomputable def SoundR (X:Cx) (F:FI) (d n:Nat) (body:List Stmt) (m:List PV→Option PV):Prop:=
 ∀{A:Around} {Av Mu:Addr→Prop} {env:Env} {s:Shared} {as:List PV} {r:PV} {Q:Flow→Shared→Prop} {E:Value→Shared→Prop},
  Room d A→m as=some r→R X F Av Mu env (as.map .froz++List.replicate (n - as.length) .none) s→1≤s.toks→
  (∀fl v s' Av' Mu' st',fl=.ret v∨(fl=.next∧v=.none)→R X F Av' Mu' env st' s'→Step Av Mu s Av' Mu' s'→VR s'.heap Av' v r→Q fl s')→wpAny (model X.prog X.w) A (execs body env) Q E s
set_option tactic.hygienic true in
theorem soundR_of {X:Cx} {F:FI} {d n:Nat} {body:List Stmt} {g:EvS} (hb:SoundS X F d body g):SoundR X F d n body (runF g n):=by
 intro A Av Mu env s as r Q E hA hm hR tk k
 unfold runF at hm
 split at hm
 ·rename_i p st' e
  cases hm
  refine hb _ hA e hR tk fun fl s' Av' Mu' R' S' V' tk'=>?_
  cases fl<;>first | exact V'.elim | skip
  exact k _ _ _ _ _ _ (.inl rfl) R' S' V'
 ·rename_i st' e
  cases hm
  refine hb _ hA e hR tk fun fl s' Av' Mu' R' S' V' tk'=>?_
  cases fl<;>first | exact V'.elim | skip
  exact k _ .none _ _ _ _ (.inr ⟨rfl,rfl⟩) R' S' (by unfold VR;rfl)
 ·cases hm
set_option tactic.hygienic true in
theorem callG {X:Cx} {fa:Addr} {fd:FuncData} {body:List Stmt} {ps names:List Str} {d:Nat} {m:List PV→Option PV} (ok:FnOK X fa fd body ps names) (hb:SoundR X ⟨fd.scope,names,[],fd.code,fd.qualname++".<locals>."⟩ d names.length body m) {A:Around} {Av:Addr→Prop} {s:Shared} {avs:List Value} {as:List PV} {r:PV} {K:Result→Shared→Prop}
  (hK:Room (d+1) A) (hm:(if as.length=ps.length then m as else none)=some r) (P:Pre X Av s) (tk:1≤s.toks∨∃p,ps=[p]∧fd.scope.names.lookup p=some .local) (hv:VRs s.heap Av avs as)
  (k:∀v s',Post X Av s v r s'→K (.ok (.ret v)) s'):codeAny (model X.prog X.w) A (.call (.ref fa) ⟨avs,[]⟩) K s:=by
 have hA:=hK
 split at hm
 case isFalse=>cases hm
 rename_i hlen
 obtain ⟨o,ho,hd⟩:=ok.obj
 have hvl:avs.length=ps.length:=hv.length.trans hlen
 obtain ⟨rest,hrest⟩:=ok.pre
 have hpsn:ps.Nodup:=by
  have:=ok.nd
  rw [hrest] at this
  exact (List.nodup_append.mp this).1
 have hzk:((ps.zip avs).map (·.1))=ps:=by
  rw [List.map_fst_zip]
  lia
 have hkd:∀x∈ps,fd.scope.names.lookup x=some .local∨fd.scope.names.lookup x=some .cell:=fun x hx=>ok.kinds x (by rw [hrest];exact List.mem_append_left _ hx)
 have hroom:A.depth < recursionLimit:=by
  have:=hA.2.1
  show A.depth < 1000
  lia
 refine call_cellsT hroom (P.base _ _ ho).1 hd (X.nolimit.keeps fun b o e=>(P.base b o e).1) (ok.code.keeps fun b o e=>(P.base b o e).1) ok.body (ok.bind avs hvl) ok.clo (fun x hx=>?_) (fun s₁ I htk0=>?_) ok.co ok.gen ok.fn
 ·have hx1:x.1∈ps:=by rw [←hzk];exact List.mem_map_of_mem hx
  rcases hkd x.1 hx1 with h | h
  ·exact .inl h
  ·exact .inr ⟨h,cellsFrom_some _ _ _ (.inl h)⟩
 ·-- the callee's frame
  generalize hE:callEnvC fd s.heap.objs.size fa=env at I ⊢
  have e1:env.scope=fd.scope:=by rw [←hE];rfl
  have e2:env.locals=s.heap.objs.size:=by rw [←hE];rfl
  have e3:env.globals=mainGlobals:=by rw [←hE];exact ok.gl
  have e4:env.builtins=builtinsNs:=by rw [←hE];exact ok.bl
  have e5:env.cells=cellsFrom (s.heap.objs.size+1) fd.scope.names []:=by rw [←hE];rfl
  have hK:∀x,env.kindOf x=fd.scope.names.lookup x:=fun x=>by show env.scope.names.lookup x=_;rw [e1]
  have hkeep:=I.toInCall.keep
  have hcl:∀x c,env.cells.lookup x=some c→s.heap.objs.size < c:=fun x c hc=>by
   have:=I.above x c (mem_of_lookup hc)
   rw [e2] at this
   exact this
  have hold:∀b o,s.heap.get? b=some o→b≠env.locals∧∀x,env.cells.lookup x≠some b:=fun b o e=>by
   have hlt:=Heap.lt_size e
   exact ⟨fun q=>by rw [q,e2] at hlt;exact Nat.lt_irrefl _ hlt,fun x q=>absurd (hcl x b q) (Nat.lt_asymm hlt)⟩
  have hLlt:env.locals < s₁.heap.objs.size:=I.toInCall.ns.lt
  have hsz:s.heap.objs.size≤s₁.heap.objs.size:=by rw [e2] at hLlt;exact Nat.le_of_lt hLlt
  let Mu:Addr→Prop:=fun a=>a=env.locals∨(∃y,env.cells.lookup y=some a)∨X.Tb a
  let Av1:Addr→Prop:=fun a=>Av a∨Mu a
  have hmu:∀a,a < s.heap.objs.size→¬ X.Tb a→¬ Mu a:=fun a l n q=>by
   rcases q with q | ⟨y,q⟩ | q
   ·rw [q,e2] at l;exact Nat.lt_irrefl _ l
   ·exact absurd (hcl y a q) (Nat.lt_asymm l)
   ·exact n q
  have hvs:VRs s₁.heap Av1 avs as:=hv.mono (fun a o e _=>hkeep a o e) (fun a l n q=>q.elim n (hmu a l fun t=>n (P.tabs a t).1)) hsz
  have hR:R X ⟨fd.scope,names,[],fd.code,fd.qualname++".<locals>."⟩ Av1 Mu env (as.map .froz++List.replicate (names.length - as.length) .none) s₁:=by
   refine ⟨e1,ok.fn,e3,e4,by rw [←hE];rfl,by rw [←hE];rfl,fun b o e=>⟨hkeep b o (P.base b o e).1,fun q=>?_⟩,fun a t=>⟨.inr (.inr t),?_⟩,fun a q=>.inr q,fun a q=>?_,⟨_,I.toInCall.ns⟩,.inl rfl,ok.nd,?_,fun x y c hx hy=>?_,fun x hx _=>?_,fun i x b hi hb'=>?_,fun i j x y xs ys a hi hj hx=>?_⟩
   ·exact q.elim (P.base b o e).2 (hmu b (Heap.lt_size (P.base b o e).1) fun t=>(P.base b o e).2 (P.tabs b t).1)
   ·refine (P.tabs a t).2.mono (fun o e=>hkeep a _ e) fun b o e n _=>⟨hkeep b o e,fun q=>?_⟩
    exact q.elim n (hmu b (Heap.lt_size e) fun t=>n (P.tabs b t).1)
   ·rcases q with q | q | ⟨y,q⟩ | q
    ·exact Nat.lt_of_lt_of_le (P.lt a q) hsz
    ·rw [q];exact hLlt
    ·exact (I.cell y a q).lt
    ·obtain ⟨_,_,e,_⟩:=P.tabs a q
     exact Heap.lt_size (hkeep a _ e)
   ·rw [List.length_append,List.length_map,List.length_replicate]
    have:as.length≤names.length:=by rw [hlen,hrest,List.length_append];lia
    show as.length+(names.length - as.length)=names.length
    lia
   ·exact name_of_addr I.apart (mem_of_lookup hx) (mem_of_lookup hy)
   ·unfold SlotOK
    rcases ok.kinds x hx with h | h
    ·rw [←hK] at h
     simp only [h]
    ·have hc:(env.cells.lookup x).isSome=true:=by rw [e5];exact cellsFrom_some _ _ _ (.inl h)
     obtain ⟨c,hc⟩:=Option.isSome_iff_exists.mp hc
     rw [←hK] at h
     simp only [h]
     exact ⟨c,_,hc,I.cell x c hc,.inr (.inl ⟨x,hc⟩)⟩
   ·by_cases hia:i < as.length
    ·rw [List.getElem?_append_left (by rw [List.length_map];exact hia),List.getElem?_map] at hb'
     obtain ⟨p,hp,rfl⟩:=Option.map_eq_some_iff.mp hb'
     obtain ⟨v,hv1,hv2⟩:=hvs.get hp
     have hxp:ps[i]? =some x:=by
      have:i < ps.length:=by lia
      show _
      have h9:names[i]? =some x:=hi
      rw [hrest,List.getElem?_append_left this] at h9
      exact h9
     have hmem:(x,v)∈ps.zip avs:=lookup_zip hxp hv1
     refine ⟨v,?_,hv2⟩
     unfold ValAt
     rcases hkd x (List.mem_of_getElem? hxp) with h | h
     ·rw [←hK] at h
      simp only [h]
      exact ⟨_,I.toInCall.ns,bindL_get h (by rw [hzk];exact hpsn) hmem⟩
     ·have hc:(env.cells.lookup x).isSome=true:=by rw [e5];exact cellsFrom_some _ _ _ (.inl h)
      obtain ⟨c,hc⟩:=Option.isSome_iff_exists.mp hc
      rw [←hK] at h
      simp only [h]
      have:=I.cell x c hc
      rw [bindC_get (by rw [h];decide) (by rw [hzk];exact hpsn) hmem] at this
      exact ⟨c,hc,this⟩
    ·rw [List.getElem?_append_right (by rw [List.length_map];lia),List.getElem?_replicate] at hb'
     split at hb'<;>cases hb'
     trivial
   ·-- no list is the frame's own yet
    by_cases hia:i < as.length
    ·rw [List.getElem?_append_left (by rw [List.length_map];exact hia),List.getElem?_map] at hx
     obtain ⟨p,hp,q⟩:=Option.map_eq_some_iff.mp hx
     cases q
    ·rw [List.getElem?_append_right (by rw [List.length_map];lia),List.getElem?_replicate] at hx
     split at hx<;>cases hx
  have hA':Room d (A.deeper env):=by
   obtain ⟨a1,a2,a3⟩:=hA
   refine ⟨a1,?_,?_⟩
   ·show A.depth+1+20 * d < 690
    lia
   ·show A.units+3+100 * d < 9000
    lia
  obtain ⟨tk₁,hs₁⟩:∃tk,s₁={ s with heap:=s₁.heap,toks:=tk }:=by
   obtain ⟨h',tk,e⟩:=I.toInCall.same
   exact ⟨tk,by rw [e]⟩
  have htk:1≤s₁.toks:=htk0 (tk.imp id fun ⟨p,hp,hl⟩=>by
   obtain ⟨v,hv1⟩:=List.length_eq_one_iff.mp (hvl.trans (congrArg List.length hp))
   exact ⟨p,v,by rw [hp,hv1];rfl,hl⟩)
  have hos:s₁.os=s.os:=by rw [hs₁]
  have hgs:s₁.gens=s.gens:=by rw [hs₁]
  have back:∀(Av' Mu':Addr→Prop) (st':St) (s':Shared),R X ⟨fd.scope,names,[],fd.code,fd.qualname++".<locals>."⟩ Av' Mu' env st' s'→Step Av1 Mu s₁ Av' Mu' s'→∀a,Av a→Av' a:=fun Av' Mu' st' s' R' S' a q=>by
   by_cases z:X.Tb a
   ·exact R'.ma a (R'.tabs a z).1
   ·exact S'.av' a (.inl q) (hmu a (P.lt a q) z)
  have fin:∀(v:Value) (p:PV) (st':St) (s':Shared) (Av' Mu':Addr→Prop),R X ⟨fd.scope,names,[],fd.code,fd.qualname++".<locals>."⟩ Av' Mu' env st' s'→Step Av1 Mu s₁ Av' Mu' s'→VR s'.heap Av' v p→Post X Av s v p s':=fun v p st' s' Av' Mu' R' S' V'=>by
   refine ⟨fun a o e n=>S'.keep a o (hkeep a o e) fun q=>?_,fun a t=>(R'.tabs a t).2.mono (fun _ e=>e) fun b _ e n _=>⟨e,fun q=>n (back _ _ _ _ R' S' b q)⟩,Nat.le_trans hsz S'.size,S'.os.trans hos,fun h=>S'.gens (hgs ▸ h),V'.mono (fun _ _ e _=>e) (fun a l n q=>n ?_) (Nat.le_refl _)⟩
   ·exact hmu a (Heap.lt_size e) n q
   ·exact back _ _ _ _ R' S' a q
  refine hb hA' hm hR htk fun fl v s' Av' Mu' st' hfl R' S' V'=>?_
  have hk:=k _ _ (fin _ _ _ _ _ _ R' S' V')
  rcases hfl with h | ⟨h,h'⟩
  ·subst h
   exact hk
  ·subst h
   subst h'
   exact hk
theorem callW_of2 {X:Cx} {fa:Addr} {fd:FuncData} {body:List Stmt} {ps names:List Str} {d:Nat} {m:List PV→Option PV} (ok:FnOK X fa fd body ps names) (hb:SoundR X ⟨fd.scope,names,[],fd.code,fd.qualname++".<locals>."⟩ d names.length body m):CallW X (d+1) fa (fun as=>if as.length=ps.length then m as else none):=
 fun hA hm P tk hv k=>callG ok hb hA hm P (.inl tk) hv k
theorem callW_of {X:Cx} {fa:Addr} {fd:FuncData} {body:List Stmt} {ps names:List Str} {d:Nat} {g:EvS} (ok:FnOK X fa fd body ps names) (hb:SoundS X ⟨fd.scope,names,[],fd.code,fd.qualname++".<locals>."⟩ d body g):CallW X (d+1) fa (fun as=>if as.length=ps.length then runF g names.length as else none):=
 callW_of2 ok (soundR_of hb)
section
variable {X:Cx} {F:FI} {d:Nat}
noncomputable def FnW (X:Cx) (d:Nat) (fv:Value) (m:List PV→Option PV):Prop:=
 ∀{A:Around} {Av:Addr→Prop} {s:Shared} {avs:List Value} {as:List PV} {r:PV} {Q E:Value→Shared→Prop},Room d A→m as=some r→(∀a,Av a→a < s.heap.objs.size)→VRs s.heap Av avs as→
  (∀v s',Grow s s'→VR s'.heap Av v r→Q v s')→wpAny (model X.prog X.w) A (call fv avs []) Q E s
theorem VRs1 {h:Heap} {Av:Addr→Prop} {vs:List Value} {a:PV} (x:VRs h Av vs [a]):∃v,vs=[v]∧VR h Av v a:=by
 match vs,x with
 | [v],x=>unfold VRs at x;exact ⟨v,rfl,x.1⟩
 | [],x=>unfold VRs at x;exact x.elim
 | _::_::_,x=>unfold VRs at x;have:=x.2;unfold VRs at this;exact this.elim
theorem VRs2 {h:Heap} {Av:Addr→Prop} {vs:List Value} {a b:PV} (x:VRs h Av vs [a,b]):∃v u,vs=[v,u]∧VR h Av v a∧VR h Av u b:=by
 match vs,x with
 | v::r,x=>unfold VRs at x;obtain ⟨u,rfl,y⟩:=VRs1 x.2;exact ⟨v,u,rfl,x.1,y⟩
 | [],x=>unfold VRs at x;exact x.elim
theorem VRs3 {h:Heap} {Av:Addr→Prop} {vs:List Value} {a b c:PV} (x:VRs h Av vs [a,b,c]):∃v u w,vs=[v,u,w]∧VR h Av v a∧VR h Av u b∧VR h Av w c:=by
 match vs,x with
 | v::r,x=>unfold VRs at x;obtain ⟨u,w,rfl,y,z⟩:=VRs2 x.2;exact ⟨v,u,w,rfl,x.1,y,z⟩
 | [],x=>unfold VRs at x;exact x.elim
noncomputable def args1 (f:PV→Option PV) (as:List PV):Option PV:=match as with
 | [a]=>f a
 | _=>none
theorem args1_some {f:PV→Option PV} {as:List PV} {r:PV} (h:args1 f as=some r):∃a,as=[a]∧f a=some r:=by
 unfold args1 at h
 split at h
 ·exact ⟨_,rfl,h⟩
 ·cases h
theorem fn1 {F:Value} {f:PV→Option PV} (H:∀{A:Around} {Av:Addr→Prop} {s:Shared} {a r:PV} {v:Value} {Q:Value→Shared→Prop} {E:Value→Shared→Prop},Room d A→f a=some r→(∀a,Av a→a < s.heap.objs.size)→VR s.heap Av v a→
  (∀v s',Grow s s'→VR s'.heap Av v r→Q v s')→wpAny (model X.prog X.w) A (call F [v] []) Q E s):FnW X d F (args1 f):=by
 intro A Av s avs as r Q E hA h lt hv k
 obtain ⟨a,rfl,h⟩:=args1_some h
 obtain ⟨v,rfl,q⟩:=VRs1 hv
 exact H hA h lt q k
noncomputable def lenA:PV→Option PV
 | .str x=>if x.length < 9223372036854775808 then some (.int x.length) else none
 | .list xs=>if xs.length < 9223372036854775808 then some (.int xs.length) else none
 | _=>none
noncomputable abbrev pyLen:List PV→Option PV:=args1 lenA
theorem len_small {n:Nat} (h:n < 9223372036854775808):(n:Int) < 2 ^ 63:=Int.ofNat_lt.mpr h
theorem lenA_some {a r:PV} (h:lenA a=some r):(∃x,a=.str x∧x.length < 9223372036854775808∧r=.int x.length)∨∃xs,a=.list xs∧xs.length < 9223372036854775808∧r=.int xs.length:=by
 cases a with
 | str x=>obtain ⟨hl,rfl⟩:=when_some h;exact .inl ⟨x,rfl,hl,rfl⟩
 | list xs=>obtain ⟨hl,rfl⟩:=when_some h;exact .inr ⟨xs,rfl,hl,rfl⟩
 | _=>cases h
theorem f_len:FnW X d (.builtin "len") pyLen:=fn1 fun {A Av s a r v Q E} hA h lt q k=>by
 rcases lenA_some h with ⟨x,rfl,hl,rfl⟩ | ⟨xs,rfl,hl,rfl⟩
 ·obtain ⟨t,rfl⟩:=q.str_of
  exact SBL.len (len_small hl) (k _ _ .toks VR.int')
 ·unfold VR at q;obtain ⟨l,vs,n,rfl,g,na,z⟩:=q
  refine Calls.call_len_list (l:=l) (items:=vs.toArray) ⟨_,g,rfl,n,rfl⟩ (by rw [List.size_toArray,z.length];exact len_small hl) (k _ _ .toks ?_)
  rw [List.size_toArray,z.length]
  exact VR.int'
noncomputable def pyRange:List PV→Option PV
 | [a]=>(asInt a).map fun n=>.range 0 n 1
 | [a,b]=>onI a b fun a b=>some (.range a b 1)
 | [a,b,c]=>onI a b fun a b=>(asInt c).bind fun c=>if c≠0∧c.natAbs < 1073741824 then some (.range a b c) else none
 | _=>none
theorem VR.range' {h:Heap} {Av:Addr→Prop} {r:Addr} {a b c:Int} {t u v:Tok} (g:h.get? r=some (rangeObj a b c t u v)) (n:¬ Av r):VR h Av (.ref r) (.range a b c):=by unfold VR;exact ⟨r,t,u,v,rfl,g,n⟩
theorem VR.range_new {s:Shared} {Av:Addr→Prop} {a b c:Int} {t u v:Tok} (lt:∀a,Av a→a < s.heap.objs.size):VR (s.heap.push (rangeObj a b c t u v)) Av (.ref s.heap.objs.size) (.range a b c):=
 VR.range' (Heap.get?_push_size _ rfl) fun q=>absurd (lt _ q) (Nat.lt_irrefl _)
theorem f_range:FnW X d (.type "range") pyRange:=by
 intro A Av s avs as r Q E hA h lt hv k
 match as,h with
 | [a],h=>
  obtain ⟨n,e,rfl⟩:=Option.map_eq_some_iff.mp h
  obtain ⟨v,rfl,q⟩:=VRs1 hv
  obtain ⟨t,rfl⟩:=(asInt_some e ▸ q).int_of
  exact call_range_1 (k _ _ (Grow.push _) (VR.range_new lt))
 | [a,b],h=>
  obtain ⟨x,y,rfl,rfl,e⟩:=onI_some h
  obtain ⟨v,u,rfl,q,q'⟩:=VRs2 hv
  obtain ⟨t,rfl⟩:=q.int_of
  obtain ⟨t',rfl⟩:=q'.int_of
  cases e
  exact call_range_2 (k _ _ (Grow.push _) (VR.range_new lt))
 | [a,b,c],h=>
  obtain ⟨x,y,rfl,rfl,e⟩:=onI_some h
  obtain ⟨z,e1,e⟩:=Option.bind_eq_some_iff.mp e
  obtain ⟨hc,rfl⟩:=when_some e
  obtain ⟨v,u,w,rfl,q,q',q''⟩:=VRs3 hv
  obtain ⟨t,rfl⟩:=q.int_of
  obtain ⟨t',rfl⟩:=q'.int_of
  obtain ⟨t'',rfl⟩:=(asInt_some e1 ▸ q'').int_of
  exact call_range_3 hc.1 (k _ _ (Grow.push _) (VR.range_new lt)) (.inl (PyProof.noPylong_small hc.2))
theorem numAt_eq {l:List (Int×Tok)} {i:Nat}:numAt l.toArray i=((l.map (·.1))[i]?).getD 0:=by
 unfold numAt
 simp
theorem preSum_eq {l:List (Int×Tok)}:∀k,k≤l.length→preSum (numAt l.toArray) k=((l.map (·.1)).take k).sum
 | 0,_=>by simp [preSum]
 | k+1,h=>by
  rw [preSum,preSum_eq k (by lia),numAt_eq]
  have hk:k < (l.map (·.1)).length:=by rw [List.length_map];lia
  rw [List.take_succ_eq_append_getElem hk,List.sum_append,List.getElem?_eq_getElem hk]
  simp
theorem sum_bound:∀(l:List Int) (B:Nat),(∀x∈l,x.natAbs≤B)→l.sum.natAbs≤l.length * B
 | [],B,_=>by simp
 | x::l,B,h=>by
  have h1:=h x (.head _)
  have h2:=sum_bound l B fun y hy=>h y (.tail _ hy)
  rw [List.sum_cons,List.length_cons,Nat.succ_mul,Nat.add_comm]
  exact Nat.le_trans (Int.natAbs_add_le _ _) (Nat.add_le_add h1 h2)
noncomputable def sumA:PV→Option PV
 | .list xs=>(allOf asInt xs).bind fun ss=>if ss.length≤1000∧ss.all (fun x=>x.natAbs≤1099511627776)=true then some (.int ss.sum) else none
 | _=>none
noncomputable abbrev pySum:List PV→Option PV:=args1 sumA
theorem intItems_list {l:List (Int×Tok)}:(l.map fun p=>Value.int p.1 p.2).toArray=intItems l.toArray:=by simp [intItems]
theorem inLong_of {x:Int} (h:x.natAbs≤1099511627776000):InLong x:=by unfold InLong;lia
theorem pre_long {l:List Int} (hlen:l.length≤1000) (hall:∀x∈l,x.natAbs≤1099511627776) (j:Nat):InLong (l.take j).sum:=
 inLong_of (Nat.le_trans (sum_bound _ 1099511627776 fun x hx=>hall x (List.mem_of_mem_take hx)) (Nat.mul_le_mul_right _ (Nat.le_trans (List.length_take_le' ..) hlen)))
theorem sumA_some {a r:PV} (h:sumA a=some r):∃xs ss,a=.list xs∧allOf asInt xs=some ss∧(ss.length≤1000∧ss.all (fun x=>x.natAbs≤1099511627776)=true)∧r=.int ss.sum:=by
 cases a with
 | list xs=>
  obtain ⟨ss,e,h⟩:=Option.bind_eq_some_iff.mp h
  obtain ⟨hb,rfl⟩:=when_some h
  exact ⟨xs,ss,rfl,e,hb,rfl⟩
 | _=>cases h
theorem f_sum:FnW X d (.builtin "sum") pySum:=fn1 fun {A Av s a r v Q E} hA h lt q k=>by
 obtain ⟨xs,ss,rfl,e,hb,rfl⟩:=sumA_some h
 unfold VR at q;obtain ⟨a,vs,n,rfl,g,na,z⟩:=q
 obtain ⟨l,rfl,rfl⟩:=ints_of z e
 have hlen:(l.map (·.1)).length≤1000:=hb.1
 have hall:∀x∈l.map (·.1),x.natAbs≤1099511627776:=fun x hx=>of_decide_eq_true (List.all_eq_true.mp hb.2 x hx)
 refine wpAny_grow (P:=fun v s'=>∃t,v=.int (l.map (·.1)).sum t) (sum_intList (xs:=l.toArray) hA.1 ⟨_,g,rfl,n,congrArg (fun x=>Data.seq x n) intItems_list⟩ (fun j hj=>?_) fun h' tk t' hk=>⟨hk,rfl,rfl,t',?_⟩) fun v s' G P=>?_
 ·have hj':j < (l.map (·.1)).length:=by rw [List.length_map];exact hj
  constructor
  ·rw [numAt_eq,List.getElem?_eq_getElem hj']
   exact inLong_of (Nat.le_trans (hall _ (List.getElem_mem _)) (by decide))
  ·rw [preSum_eq _ (by rw [List.length_map] at hj';exact hj')]
   exact pre_long hlen hall _
 ·rw [show l.toArray.size=l.length from List.size_toArray ..,preSum_eq _ (Nat.le_refl _),List.take_of_length_le (by rw [List.length_map];exact Nat.le_refl _)]
 ·obtain ⟨t,rfl⟩:=P
  exact k _ _ G VR.int'
theorem callArgsT {M:Model} {A:Around} {Q E:Value→Shared→Prop} {s:Shared} {T:String} {first:List Value} {args:List Expr} {env:Env} {pos:Pos} (hp:(backTo pos (starEach args env)).any (·.1)=false)
  (h:wpAny M A (spliced (backTo pos (starEach args env))) (fun vs s₁=>wpAny M A (call (.type T) (first++vs) []) Q E s₁) E s):wpAny M A (callWith pos (.type T) first (backTo pos (starEach args env)) []) Q E s:=by
 refine PyProof.Rows.callWith_type hp ?_
 cases hq:backTo pos (starEach args env) with
 | nil=>
  rw [hq] at h
  unfold spliced at h
  refine PySem.evalArgs_none ?_
  have:wpAny M A (Pure.pure []:Sem (List Value)) (fun vs s₁=>wpAny M A (call (.type T) (first++vs) []) Q E s₁) E s:=h
  intro Γ p hΓ
  exact this Γ p hΓ Γ p hΓ
 | cons x r=>
  obtain ⟨b,x⟩:=x
  rw [hq] at hp h
  have hb:b=false:=by
   simp at hp
   exact hp.1
  subst hb
  exact Calls.evalArgs_plain h
theorem callArgsF {M:Model} {A:Around} {Q E:Value→Shared→Prop} {s:Shared} {a:Addr} {o:Obj} {fd:FuncData} {args:List Expr} {env:Env} {pos:Pos} (hp:(backTo pos (starEach args env)).any (·.1)=false) (hne:backTo pos (starEach args env)≠[])
  (h:wpAny M A (spliced (backTo pos (starEach args env))) (fun vs s₁=>(s₁.heap.get? a=some o∧o.data=.func fd)∧wpAny M A (call (.ref a) vs []) Q E s₁) E s):wpAny M A (callWith pos (.ref a) [] (backTo pos (starEach args env)) []) Q E s:=by
 refine Calls.callWith_function (o:=o) (fd:=fd) ?_
 cases hq:backTo pos (starEach args env) with
 | nil=>exact absurd hq hne
 | cons x r=>
  obtain ⟨b,x⟩:=x
  rw [hq] at hp h
  have hb:b=false:=by
   simp at hp
   exact hp.1
  subst hb
  exact Calls.evalArgs_plain h
theorem wp_gname {Av Mu:Addr→Prop} {env:Env} {st:St} {s:Shared} {M:Model} {A:Around} {Q E:Value→Shared→Prop} (r:R X F Av Mu env st s) {x:Str} {p:Pos} {v:Value} (hx:F.scope.names.lookup x=some .globalImplicit)
  (hv:X.mg x=some v) (k:Q v s) (hd:autoParam ((x==("__debug__":Str))=false) Mine.au3._auto_1):wpAny M A (eval (.Name x p) env) Q E s:=by
 refine Calls.Name_function_global (by rw [r.sc];exact r.fn) (by show env.scope.names.lookup x=_;rw [r.sc];exact hx) (Calls.loadGlobal_global (mg:=X.mg) ?_ hv k) hd
 rw [r.gl]
 exact X.g.keeps fun b o e=>(r.base b o e).1
theorem wp_bname {Av Mu:Addr→Prop} {env:Env} {st:St} {s:Shared} {M:Model} {A:Around} {Q E:Value→Shared→Prop} (r:R X F Av Mu env st s) {x:Str} {p:Pos} {v:Value} (hx:F.scope.names.lookup x=some .globalImplicit)
  (hg:X.mg x=none) (hv:bootBuiltins x=some v) (k:Q v s) (hn:autoParam (x≠"__name__") Mine.au3._auto_1) (hd:autoParam ((x==("__debug__":Str))=false) Mine.au3._auto_1):wpAny M A (eval (.Name x p) env) Q E s:=by
 refine Calls.Name_function_global (by rw [r.sc];exact r.fn) (by show env.scope.names.lookup x=_;rw [r.sc];exact hx) (Calls.loadGlobal_builtin (mg:=X.mg) (mb:=X.mb) ?_ hg ?_ ((X.bb x hn).trans hv) k) hd
 ·rw [r.gl]
  exact X.g.keeps fun b o e=>(r.base b o e).1
 ·rw [r.bl]
  exact X.b.keeps fun b o e=>(r.base b o e).1
theorem s_callb {x:Str} {p pos:Pos} {id:String} {args:List Expr} {g:St→Option (List PV×St)} {m:List PV→Option PV} (ha:SoundEs X F d args g) (hm:FnW X d (.builtin id) m) (hx:F.scope.names.lookup x=some .globalImplicit)
  (hg:X.mg x=none) (hv:bootBuiltins x=some (.builtin id)) (hp:autoParam (∀env,(backTo pos (starEach args env)).any (·.1)=false) Mine.au4._auto_1)
  (hn:autoParam (x≠"__name__") Mine.au3._auto_1) (hd:autoParam ((x==("__debug__":Str))=false) Mine.au3._auto_1):SoundE X F d (.Call (.Name x p) args [] pos) (bindE g fun as=>liftE (m as)):=by
 refine @SoundT.intro _ _ _ _ _ _ _ _ ?_
 intro A Av Mu env st st' s v Q E hA hf R₀ tk k
 refine bindE_elim hf fun as st2 h2 hf2=>?_
 obtain ⟨h3,e3⟩:=liftE_some hf2
 subst e3
 show wpAny _ _ (do callWith pos (←eval (.Name x p) env) [] (backTo pos (starEach args env)) (backToKw pos (keywordEach [] env))) _ _ _
 refine wpAny_bind (wp_bname R₀ hx hg hv (callArgs (hp env) (ha pos _ hA h2 R₀ tk fun vb s2 Av2 Mu2 R2 S2 V2 tk2=>?_)) hn hd)
 exact hm hA h3 R2.lt V2 fun v' s' G V=>k _ _ _ _ (R2.grow G) (S2.trans (StepE.ofGrow G) R₀.lt) V
theorem s_callt {x:Str} {p pos:Pos} {T:String} {args:List Expr} {g:St→Option (List PV×St)} {m:List PV→Option PV} (ha:SoundEs X F d args g) (hm:FnW X d (.type T) m) (hx:F.scope.names.lookup x=some .globalImplicit)
  (hg:X.mg x=none) (hv:bootBuiltins x=some (.type T)) (hp:autoParam (∀env,(backTo pos (starEach args env)).any (·.1)=false) Mine.au4._auto_1)
  (hn:autoParam (x≠"__name__") Mine.au3._auto_1) (hd:autoParam ((x==("__debug__":Str))=false) Mine.au3._auto_1):SoundE X F d (.Call (.Name x p) args [] pos) (bindE g fun as=>liftE (m as)):=by
 refine @SoundT.intro _ _ _ _ _ _ _ _ ?_
 intro A Av Mu env st st' s v Q E hA hf R₀ tk k
 refine bindE_elim hf fun as st2 h2 hf2=>?_
 obtain ⟨h3,e3⟩:=liftE_some hf2
 subst e3
 show wpAny _ _ (do callWith pos (←eval (.Name x p) env) [] (backTo pos (starEach args env)) (backToKw pos (keywordEach [] env))) _ _ _
 refine wpAny_bind (wp_bname R₀ hx hg hv (callArgsT (hp env) (ha pos _ hA h2 R₀ tk fun vb s2 Av2 Mu2 R2 S2 V2 tk2=>?_)) hn hd)
 exact hm hA h3 R2.lt V2 fun v' s' G V=>k _ _ _ _ (R2.grow G) (S2.trans (StepE.ofGrow G) R₀.lt) V
theorem s_call {x:Str} {p pos:Pos} {fa:Addr} {args:List Expr} {g:St→Option (List PV×St)} {m:List PV→Option PV} (ha:SoundEs X F d args g) (hm:CallW X d fa m) (hx:F.scope.names.lookup x=some .globalImplicit)
  (hg:X.mg x=some (.ref fa)) (ho:∃o fd,X.B.get? fa=some o∧o.data=.func fd) (hp:autoParam (∀env,(backTo pos (starEach args env)).any (·.1)=false) Mine.au4._auto_1) (hne:autoParam (∀env,backTo pos (starEach args env)≠[]) Mine.au5._auto_1)
  (hd:autoParam ((x==("__debug__":Str))=false) Mine.au3._auto_1):SoundE X F d (.Call (.Name x p) args [] pos) (bindE g fun as=>liftE (m as)):=by
 refine @SoundT.intro _ _ _ _ _ _ _ _ ?_
 intro A Av Mu env st st' s v Q E hA hf R₀ tk k
 refine bindE_elim hf fun as st2 h2 hf2=>?_
 obtain ⟨h3,e3⟩:=liftE_some hf2
 subst e3
 obtain ⟨o,fd,ho,hfd⟩:=ho
 show wpAny _ _ (do callWith pos (←eval (.Name x p) env) [] (backTo pos (starEach args env)) (backToKw pos (keywordEach [] env))) _ _ _
 refine wpAny_bind (wp_gname R₀ hx hg (callArgsF (o:=o) (fd:=fd) (hp env) (hne env) (ha pos _ hA h2 R₀ tk fun vb s2 Av2 Mu2 R2 S2 V2 tk2=>?_)) hd)
 refine ⟨⟨(R2.base _ _ ho).1,hfd⟩,wpAny_call (hm hA h3 R2.pre tk2 V2 fun v' s' P=>?_)⟩
 obtain ⟨R3,S3⟩:=R2.after P
 exact k _ _ _ _ R3 (S2.trans ⟨S3,R2.valsAfter P.keep⟩ R₀.lt) P.val
end
section
variable {prog:Program} {w:World} {A:Around} {E:Value→Shared→Prop} {s:Shared}
theorem upd_obj {h:Heap} {l:Addr} {vs us:List Value} {n:Nat} {f:Array Value→Array Value} (g:h.get? l=some (listObj vs n)) (hf:f vs.toArray=us.toArray):
  ∃n',(h.update l (Obj.mapSeq f)).get? l=some (listObj us n'):=by
 have:=IsL.update (h:=h) (l:=l) (items:=vs.toArray) (n:=n) g f
 rw [hf] at this
 exact ⟨_,this⟩
theorem list_append_x {l:Addr} {vs:List Value} {n:Nat} {x:Value} {Q:Value→Shared→Prop} (g:s.heap.get? l=some (listObj vs n)) (hsz:vs.length≤16777216)
  (hQ:∀h' n',h'.get? l=some (listObj (vs++[x]) n')→Heap.SameBut l s.heap h'→Q .none { s with heap:=h' }):
  wpAny (model prog w) A (call (.builtin "list.append") [.ref l,x]) Q E s:=by
 have hl:s.heap.IsList l vs.toArray:=⟨_,g,rfl,n,rfl⟩
 obtain ⟨n',g'⟩:=upd_obj (f:=(·.push x)) (us:=vs++[x]) g (by simp)
 refine wpAny_call_entry slot_list_append hl.typeIs entry_list_append ?_ (args_list_append _ _)
 show wpAny _ _ (updateSeq l (·.push x)>>=fun _=>ret .none) _ _ s
 refine wpAny_bind ?_
 exact wpAny_updateSeq g rfl (wpAny_pure ⟨.none,rfl,hQ _ n' g' (Heap.SameBut.update ..)⟩) (by show vs.toArray.size≤sizeLine;rw [List.size_toArray];exact hsz)
theorem list_set_x {l:Addr} {vs:List Value} {n j:Nat} {i:Int} {t:Tok} {v:Value} {Q:Unit→Shared→Prop} (g:s.heap.get? l=some (listObj vs n)) (hr: -(2 ^ 63)≤i∧i < 2 ^ 63) (hj:seqIndex? i vs.length=some j)
  (hQ:∀h' n',h'.get? l=some (listObj (vs.set j v) n')→Heap.SameBut l s.heap h'→Q () { s with heap:=h' }):
  wpAny (model prog w) A (setItem (.ref l) (.int i t) v) Q E s:=by
 have hl:s.heap.IsList l vs.toArray:=⟨_,g,rfl,n,rfl⟩
 obtain ⟨n',g'⟩:=upd_obj (f:=(·.setIfInBounds j v)) (us:=vs.set j v) g (by simp)
 unfold setItem
 try with_reducible refine wpAny_holding ?_
 first | refine wpAny_bind (wpAny_pure ?_) | skip
 refine wpAny_bind (wpAny_sequenceKey hl.typeIs (by decide) ?_)
 refine wpAny_bind (wpAny_callSpecial?_slot (name:=Str.ofString "__setitem__") hl.typeIs slot_list_setitem
  (wpAny_call_entry slot_list_setitem hl.typeIs entry_list_setitem ?_ (args_list_setitem _ _ _)))
 show wpAny _ _ (Builtin.List.listSubscript? (.int i t)>>=_) _ _ s
 have fin:∀{K:Value→Shared→Prop},(∀h' n',h'.get? l=some (listObj (vs.set j v) n')→Heap.SameBut l s.heap h'→K .none { s with heap:=h' })→wpAny (model prog w) A.in1 (do setSeqItemAt l j v;ret .none:Sem Fin) (fun r s'=>∃v',r=.done (.ret v')∧K v' s') (fun _ _=>False) s:=fun {K} hK=>by
  refine wpAny_bind (wpAny_setSeqItemAt g rfl ?_)
  exact wpAny_pure ⟨.none,rfl,hK _ n' g' (Heap.SameBut.update ..)⟩
 have hjl:j < vs.length:=by
  rcases seqIndex_spec hj with ⟨h1,h2,h3⟩ | ⟨h1,h2,h3⟩<;>lia
 have hx':vs.toArray[j]? =some vs[j]:=by simp [hjl]
 rcases seqIndex_spec hj with ⟨h1,h2,h3⟩ | ⟨h1,h2,h3⟩
 ·refine wpAny_bind (wpAny_listSubscript_int (fitsIndex_of h1 hr.2) ?_)
  clear hr
  obtain ⟨j',rfl⟩:=Int.eq_ofNat_of_zero_le h1
  have hj':j'=j:=by lia
  subst hj'
  show wpAny _ _ ((seqItemAt l j'>>=fun r=>pure (r.map (j',·)))>>=_) _ _ s
  refine wpAny_bind (wpAny_bind (wpAny_seqItemAt g rfl (wpAny_pure ?_)))
  rw [hx']
  show wpAny _ _ (setSeqItemAt l j' v>>=_) _ _ s
  refine wpAny_bind (wpAny_setSeqItemAt g rfl ?_)
  first
   | exact wpAny_bind (wpAny_pure (wpAny_pure ⟨.none,rfl,wpAny_pure (hQ _ n' g' (Heap.SameBut.update ..))⟩))
   | exact wpAny_pure ⟨.none,rfl,wpAny_pure (hQ _ n' g' (Heap.SameBut.update ..))⟩
 ·refine wpAny_bind (wpAny_listSubscript_int (fitsIndex_neg h1 hr.1) ?_)
  clear hr
  obtain ⟨j',rfl⟩:∃j:Nat,i=Int.negSucc j:=by
   cases i with
   | ofNat n=>exact absurd h1 (Int.not_lt.mpr (Int.natCast_nonneg n))
   | negSucc n=>exact ⟨n,rfl⟩
  show wpAny _ _ ((Builtin.List.listItems (.ref l)>>=fun xs=>pure ((seqIndex? (Int.negSucc j') xs.size).bind fun i=>xs[i]?.map (i,·)))>>=_) _ _ s
  refine wpAny_bind (wpAny_bind ?_)
  show wpAny _ _ (seqItems? (.ref l)>>=_) _ _ s
  refine wpAny_bind (wpAny_seqItems g rfl (wpAny_pure (wpAny_pure ?_)))
  rw [List.size_toArray,hj]
  simp only [Option.bind_some,hx',Option.map_some]
  show wpAny _ _ (setSeqItemAt l j v>>=_) _ _ s
  refine wpAny_bind (wpAny_setSeqItemAt g rfl ?_)
  first
   | exact wpAny_bind (wpAny_pure (wpAny_pure ⟨.none,rfl,wpAny_pure (hQ _ n' g' (Heap.SameBut.update ..))⟩))
   | exact wpAny_pure ⟨.none,rfl,wpAny_pure (hQ _ n' g' (Heap.SameBut.update ..))⟩
end
section
variable {X:Cx} {F:FI} {d:Nat}
theorem R.turnOwn {Av Mu:Addr→Prop} {env:Env} {st:St} {s:Shared} {h':Heap} {tk:Nat} (r:R X F Av Mu env st s) {i:Nat} {x:Str} (hi:F.names[i]? =some x) {xs ys:List PV} (hs:st[i]? =some (.own xs))
    {a:Addr} {us:List Value} {n':Nat} (ha:ValAt s.heap env x (.ref a)) (hb:Heap.SameBut a s.heap h') (g':h'.get? a=some (listObj us n')) (hv:VRs s.heap Av us ys):
    R X F Av Mu env (st.set i (.own ys)) { s with heap:=h',toks:=tk }∧Step Av Mu s Av Mu { s with heap:=h',toks:=tk }:=by
  obtain ⟨a',vs,n,p,e,m,z⟩:=r.vars i x _ hi hs
  have:Value.ref a=.ref a':=ha.unique p
  cases this
  have nt:¬ X.Tb a:=fun t=>by
    obtain ⟨ps,q,_⟩:=(r.tabs a t).2
    rw [e] at q;cases q
  have hk:∀b o,s.heap.get? b=some o→b≠a→h'.get? b=some o:=fun b o e n=>(hb.2 b n).trans e
  have hk':∀b o,s.heap.get? b=some o→¬ Av b→h'.get? b=some o:=fun b o e n=>hk b o e fun q=>n (r.ma b (q ▸ m))
  have hsz:s.heap.objs.size≤h'.objs.size:=Nat.le_of_eq hb.1.symm
  have mv:∀{v p},VR s.heap Av v p→VR h' Av v p:=fun q=>q.mono hk' (fun _ _ n=>n) hsz
  have mvs:∀{v p},VRs s.heap Av v p→VRs h' Av v p:=fun q=>q.mono hk' (fun _ _ n=>n) hsz
  have kN:∀{L m},s.heap.Ns L m→h'.Ns L m:=fun {L m} q=>by
    obtain ⟨o,es,ep,ho,hd,w⟩:=q
    exact ⟨o,es,ep,hk _ _ ho (fun z=>by rw [z,e] at ho;cases ho;cases hd),hd,w⟩
  have kC:∀{c v},s.heap.IsCell c v→h'.IsCell c v:=fun {c v} q=>by
    obtain ⟨o,ho,hd⟩:=q
    exact ⟨o,hk _ _ ho (fun z=>by rw [z,e] at ho;cases ho;cases hd),hd⟩
  have kV:∀{x v},ValAt s.heap env x v→ValAt h' env x v:=fun {x v} q=>by
    unfold ValAt at q ⊢
    split at q
    · obtain ⟨m,a,b⟩:=q;exact ⟨m,kN a,b⟩
    · obtain ⟨c,a,b⟩:=q;exact ⟨c,a,kC b⟩
    · obtain ⟨c,a,b⟩:=q;exact ⟨c,a,kC b⟩
    · exact q.elim
  have kV':∀{x v v'},ValAt s.heap env x v→ValAt h' env x v'→v'=v:=fun p q=>(ValAt.unique (kV p) q).symm
  refine ⟨⟨r.sc,r.fn,r.gl,r.bl,r.cd,r.ql,fun b o q=>⟨hk' b o (r.base b o q).1 (r.base b o q).2,(r.base b o q).2⟩,fun b t=>⟨(r.tabs b t).1,?_⟩,r.ma,fun b q=>Nat.lt_of_lt_of_le (r.lt b q) hsz,?_,r.nsMu,r.nd,by rw [List.length_set];exact r.len,r.cinj,
    fun y hy hro=>?_,fun j y b hj hb'=>?_,fun j k y w ys' ws b hj hk2 hy hw vy vw=>?_⟩,?_⟩
  · exact (r.tabs b t).2.mono (fun o q=>hk b _ q fun z=>nt (z ▸ t)) fun c o e n _=>⟨hk' c o e n,n⟩
  · obtain ⟨m',q⟩:=r.ns
    exact ⟨m',kN q⟩
  · have q:=r.slots y hy hro
    unfold SlotOK at q ⊢
    split at q
    · trivial
    · obtain ⟨c,v,p1,p2,p3⟩:=q;exact ⟨c,v,p1,kC p2,p3⟩
    · trivial
    · exact q.elim
  · rcases get_set hb' with ⟨e1,e2⟩ | ⟨e1,e2⟩
    · subst e1;subst e2
      have e3:y=x:=Option.some.inj (hj.symm.trans hi)
      subst e3
      exact ⟨a,us,n',kV p,g',m,mvs hv⟩
    · have q:=r.vars j y b hj e2
      cases b with
      | none=>trivial
      | froz p'=>obtain ⟨u,p1,p2⟩:=q;exact ⟨u,kV p1,mv p2⟩
      | ref a=>exact kV q
      | own zs=>
        obtain ⟨b,us',n2,p1,p2,p3,p4⟩:=q
        refine ⟨b,us',n2,kV p1,hk _ _ p2 fun z=>?_,p3,mvs p4⟩
        subst z
        exact e1 (r.inj j i y x zs xs b hj hi e2 hs p1 p)
      | meth k=>
        obtain ⟨m',a',p1,p2,p3,p4⟩:=q
        refine ⟨m',a',kV p1,hk' _ _ p2 p3,p3,fun y' ws hy' hs'=>?_⟩
        rcases get_set hs' with ⟨f1,f2⟩ | ⟨f1,f2⟩
        · subst f1
          exact kV (p4 y' xs hy' hs)
        · exact kV (p4 y' ws hy' f2)
  · have old:∀{j:Nat} {y:Str} {zs:List PV},F.names[j]? =some y→(st.set i (Bind.own ys))[j]? =some (Bind.own zs)→∃zs',st[j]? =some (Bind.own zs'):=fun {j y zs} hj h=>by
      rcases get_set h with ⟨e1,e2⟩ | ⟨e1,e2⟩
      · subst e1;exact ⟨xs,hs⟩
      · exact ⟨zs,e2⟩
    obtain ⟨z1,q1⟩:=old hj hy
    obtain ⟨z2,q2⟩:=old hk2 hw
    obtain ⟨a1,_,_,p1,_⟩:=r.vars j y _ hj q1
    obtain ⟨a2,_,_,p2,_⟩:=r.vars k w _ hk2 q2
    have e1:Value.ref b=.ref a1:=kV' p1 vy
    have e2:Value.ref b=.ref a2:=kV' p2 vw
    cases e1
    cases e2
    exact r.inj j k y w z1 z2 _ hj hk2 q1 q2 p1 p2
  · exact ⟨fun b o q n=>hk b o q fun z=>n (z ▸ m),fun _ h=>.inl h,fun _ h=>.inl h,fun _ h _=>h,hsz,rfl,id⟩
noncomputable def noMeth (i:Nat) (st:St):Bool:=st.all fun b=>match b with
 | .meth j=>j != i
 | _=>true
theorem noMeth_spec {i:Nat} {st:St} (h:noMeth i st=true) (j:Nat):st[j]? ≠some (.meth i):=fun e=>by
 have:=List.all_eq_true.mp h (.meth i) (List.mem_of_getElem? e)
 simp at this
noncomputable def setOwn (i:Nat) (as:List PV):EvS:=fun st=>if noMeth i st=true∧as.length≤16777216 then some (.next,st.set i (.own as)) else none
theorem wp_newOwn {M:Model} {A:Around} {Q:Unit→Shared→Prop} {E:Value→Shared→Prop} {Av Mu:Addr→Prop} {env:Env} {st:St} {s:Shared} (r:R X F Av Mu env st s) {i:Nat} {x:Str} (hi:F.names[i]? =some x)
  (hl:F.Wr x) {vs:List Value} {as:List PV} (hv:VRs s.heap Av vs as) (hn:noMeth i st=true) (hlen:as.length≤16777216)
  (k:∀s' Av' Mu',R X F Av' Mu' env (st.set i (.own as)) s'→Step Av Mu s Av' Mu' s'→Q () s'):
  wpAny M A (newList vs) (fun v s₁=>wpAny M A (storeName env x v) Q E s₁) E s:=by
 refine wpAny_newObj_type ?_ (by show vs.toArray.size≤sizeLine;rw [List.size_toArray,hv.length];exact hlen)
 have g:(s.heap.push (listObj vs 0)).get? s.heap.objs.size=some (listObj vs 0):=Heap.get?_push_size _ rfl
 have kp:∀a o,s.heap.get? a=some o→(s.heap.push (listObj vs 0)).get? a=some o:=fun a o e=>Heap.get?_push_of_some _ e
 have hsz:(s.heap.push (listObj vs 0)).objs.size=s.heap.objs.size+1:=Heap.size_push ..
 have r1:R X F (fun a=>Av a∨a=s.heap.objs.size) (fun a=>Mu a∨a=s.heap.objs.size) env st { s with heap:=s.heap.push (listObj vs 0) }:=
  r.keep' (fun a o e _=>kp a o e) (fun a t=>(r.tabs a t).2.mono (fun o e=>kp _ _ e) fun b o e n _=>⟨kp _ _ e,fun q=>q.elim n fun z=>absurd (Heap.lt_size e) (z ▸ Nat.lt_irrefl _)⟩) (by show _≤(s.heap.push _).objs.size;rw [hsz];exact Nat.le_succ _) (fun _ h=>.inl h) (fun a h=>h.imp id fun q=>⟨Nat.le_of_eq q.symm,by show a < (s.heap.push _).objs.size;rw [hsz,q];exact Nat.lt_succ_self _⟩)
   (fun _ h=>.inl h) (fun a h=>h.imp (r.ma a) id)
 have S1:Step Av Mu s (fun a=>Av a∨a=s.heap.objs.size) (fun a=>Mu a∨a=s.heap.objs.size) { s with heap:=s.heap.push (listObj vs 0) }:=
  ⟨fun a o e _=>kp a o e,fun a h=>h.imp id fun q=>Nat.le_of_eq q.symm,fun a h=>h.imp id fun q=>Nat.le_of_eq q.symm,fun a h _=>.inl h,by show _≤(s.heap.push _).objs.size;rw [hsz];exact Nat.le_succ _,rfl,id⟩
 refine wp_store r1 hi (b:=.own as) ⟨s.heap.objs.size,vs,0,rfl,g,.inr rfl,?_,fun j y ys hj hy hb va=>?_,fun j=>noMeth_spec hn j⟩ hl fun s2 R2 S2=>k s2 _ _ R2 (S1.trans S2 r.lt)
 ·exact hv.mono (fun a o e _=>kp a o e) (fun a l n q=>q.elim n fun z=>Nat.lt_irrefl _ (z ▸ l)) (by rw [hsz];exact Nat.le_succ _)
 ·obtain ⟨a',_,_,p,e,_⟩:=r.vars j y _ hy hb
  have:Value.ref a'=.ref s.heap.objs.size:=ValAt.unique (p.keep fun a o e _=>kp a o e) va
  cases this
  exact Nat.lt_irrefl _ (Heap.lt_size e)
set_option tactic.hygienic true in
theorem x_own {x:Str} {i:Nat} {pos' pos pos2:Pos} {es:List Expr} {g:St→Option (List PV×St)} (h:SoundEs X F d es g) (hi:F.names[i]? =some x) (hl:F.Wr x):
  SoundX X F d (.Assign [.Name x pos'] (.List es pos2) pos) (bindE g fun as=>setOwn i as):=by
 refine @SoundU.intro _ _ _ _ _ _ _ _ ?_
 intro A Av Mu env st st' s v Q E hA hf R₀ tk k
 refine bindE_elim hf fun as st1 h1 hf=>?_
 unfold setOwn at hf
 split at hf<;>cases hf
 rename_i hc
 refine wpAny_Assign_Name (List_ (h pos2 _ hA h1 R₀ tk fun va s1 Av1 Mu1 R1 S1 V1 tk1=>wp_newOwn R1 hi hl V1 hc.1 hc.2 fun s2 Av2 Mu2 R2 S2=>?_))
 exact k _ _ _ _ R2 (S1.toStep.trans S2 R₀.lt) trivial
noncomputable def appF (i:Nat) (f:EvE):EvS:=bindE f fun a=>fun st=>match st[i]? with
 | some (.own xs)=>if xs.length≤16777215 then some (.next,st.set i (.own (xs++[a]))) else none
 | _=>none
set_option tactic.hygienic true in
theorem x_append {x:Str} {i:Nat} {p apos pos pos':Pos} {e:Expr} {f:EvE} (h:SoundE X F d e f) (hi:F.names[i]? =some x)
  (hkeep:∀st st' v,f st=some (v,st')→∀xs,st'[i]? =some (.own xs)→∃ys,st[i]? =some (.own ys))
  (hp:autoParam (∀env,starEach [e] env=[(false,eval e env)]) Mine.au4._auto_1)
  (hline:autoParam ((apos.endLine==pos.line)=true) Mine.au2._auto_1) (hn:autoParam ((x==("__classdict__":Str))=false) Mine.au3._auto_1) (hd:autoParam ((x==("__debug__":Str))=false) Mine.au3._auto_1)
  (hi2:autoParam (∀env:Env,env.scope.kind=.function→interactive env=false) Mine.au6._auto_1):
  SoundX X F d (.Expr (.Call (.Attribute (.Name x p) "append" apos) [e] [] pos) pos') (appF i f):=by
 refine @SoundU.intro _ _ _ _ _ _ _ _ ?_
 intro A Av Mu env st st' s v Q E hA hf R₀ tk k
 refine bindE_elim hf fun a st1 h1 hf=>?_
 split at hf<;>(try cases hf)
 rename_i xs e1
 split at hf<;>cases hf
 rename_i hlen
 obtain ⟨ys,e0⟩:=hkeep _ _ _ h1 xs e1
 obtain ⟨l,vs,n,hv,g,hm,z⟩:=R₀.vars i x _ hi e0
 refine wpAny_Expr ?_ (hi2 env (by rw [R₀.sc];exact R₀.fn)) rfl
 refine wpAny_Call_method_lateS rfl (by rw [hp];rfl) hline (wpAny_Name (wp_load R₀ hv hn ?_) hd)
 refine ⟨"list","list.append",_root_.PySem.F.plainAttrs_list,_root_.PySem.F.slot_list_append,_root_.PySem.F.type_list_append,⟨_,g,rfl⟩,(fun b q=>by cases q;exact ⟨_,g,rfl⟩),?_⟩
 rw [hp]
 refine Calls.callWith_builtin rfl (Calls.evalArgs_plain (Calls.spliced_cons (h _ hA h1 R₀ tk fun va s1 Av1 Mu1 R1 S1 V1 tk1=>Calls.spliced_nil ?_)))
 have hv1:=S1.vals _ _ hv
 obtain ⟨l',vs',n',hv',g',hm',z'⟩:=R1.vars i x _ hi e1
 have:Value.ref l=.ref l':=hv1.unique hv'
 cases this
 refine list_append_x g' (by rw [z'.length];lia) fun h' n2 g2 sb=>?_
 obtain ⟨R2,S2⟩:=R1.turnOwn (tk:=s1.toks) hi e1 hv' sb g2 (z'.append (VRs.cons V1 VRs.nil))
 exact k _ _ _ _ R2 (S1.toStep.trans S2 R₀.lt) trivial
end
noncomputable def chars (x:Str):List PV:=x.cps.toList.map fun c=>.str ⟨#[c]⟩
inductive IterAt (h:Heap) (Av:Addr→Prop) (I:Addr):List PV→Nat→Prop
 | list {l:Addr} {vs:List Value} {n:Nat} {xs:List PV} {i:Nat}:h.IsListIter I l i→h.get? l=some (listObj vs n)→¬ Av l→VRs h Av vs xs→IterAt h Av I xs i
 | range {a c:Int} {n i:Nat}:IsRangeIter h I (a+(i:Nat) * c) ((n:Int) - (i:Nat)) c→i≤n→IterAt h Av I ((List.range n).map fun (j:Nat)=>.int (a+(j:Int) * c)) i
 | stra {x:Str} {t:Tok} {i:Nat}:h.IsStrIter I "str_ascii_iterator" x t i→IterAt h Av I (chars x) i
 | strw {x:Str} {t:Tok} {i:Nat}:h.IsStrIter I "str_iterator" x t i→IterAt h Av I (chars x) i
section
variable {prog:Program} {w:World} {A:Around} {E:Value→Shared→Prop} {s:Shared} {Av:Addr→Prop} {I:Addr} {xs:List PV} {i:Nat}
theorem IterAt.obj {h:Heap} (W:IterAt h Av I xs i):∃o vs,h.get? I=some o∧o.data=.fields vs:=by
 cases W with
 | list a b c d=>obtain ⟨o,h1,_,h2⟩:=a;exact ⟨o,_,h1,h2⟩
 | range a=>exact ⟨_,_,a,rfl⟩
 | stra a=>obtain ⟨o,h1,_,h2⟩:=a;exact ⟨o,_,h1,h2⟩
 | strw a=>obtain ⟨o,h1,_,h2⟩:=a;exact ⟨o,_,h1,h2⟩
theorem IterAt.nocell {h:Heap} (W:IterAt h Av I xs i):∀o,h.get? I=some o→∀v,o.data≠.cell v:=fun o e v z=>by
 obtain ⟨o',vs,e',q⟩:=W.obj
 rw [e] at e';cases e';rw [q] at z;cases z
theorem IterAt.mono {h h':Heap} {Av':Addr→Prop} (W:IterAt h Av I xs i) (hI:∀o,h.get? I=some o→h'.get? I=some o) (hk:∀a o,h.get? a=some o→¬ Av a→h'.get? a=some o) (ha:∀a,a < h.objs.size→¬ Av a→¬ Av' a) (hs:h.objs.size≤h'.objs.size):IterAt h' Av' I xs i:=by
 cases W with
 | list a b c d=>
  obtain ⟨o,h1,h2⟩:=a
  exact .list ⟨o,hI o h1,h2⟩ (hk _ _ b c) (ha _ (Heap.lt_size b) c) (d.mono hk ha hs)
 | range a b=>exact .range (hI _ a) b
 | stra a=>obtain ⟨o,h1,h2⟩:=a;exact .stra ⟨o,hI o h1,h2⟩
 | strw a=>obtain ⟨o,h1,h2⟩:=a;exact .strw ⟨o,hI o h1,h2⟩
theorem chars_get {x:Str} {i:Nat} {p:PV} (h:(chars x)[i]? =some p):∃c,x.cps[i]? =some c∧p=.str ⟨#[c]⟩:=by
 unfold chars at h
 rw [List.getElem?_map] at h
 obtain ⟨c,h1,h2⟩:=Option.map_eq_some_iff.mp h
 exact ⟨c,by simpa using h1,h2.symm⟩
theorem chars_end {x:Str} {i:Nat} (h:(chars x)[i]? =none):x.cps[i]? =none:=by
 unfold chars at h
 rw [List.getElem?_map] at h
 simpa using h
set_option tactic.hygienic true in
theorem wp_next {Q:Option Value→Shared→Prop} (hh:A.handled=none) (hI:Av I) (W:IterAt s.heap Av I xs i)
  (item:∀p v h' tk,xs[i]? =some p→VR h' Av v p→IterAt h' Av I xs (i+1)→Heap.SameBut I s.heap h'→Q (some v) { s with heap:=h',toks:=tk })
  (done:xs[i]? =none→∀h',Heap.ExtBut I s.heap h'→s.heap.objs.size≤h'.objs.size→Q none { s with heap:=h' }):wpAny (model prog w) A (pyNext (.ref I)) Q E s:=by
 have fin:∀{Z},xs[i]? =none→(∀Q:Option Value→Shared→Prop,(∀h',Heap.ExtBut I s.heap h'→Q none { s with heap:=h' })→wpAny (model prog w) A Z Q E s)→wpAny (model prog w) A Z Q E s:=fun {Z} hn q=>by
  refine wpAny_mono (wpAny_size (q (fun r s'=>∃h',Heap.ExtBut I s.heap h'∧r=none∧s'={ s with heap:=h' }) fun h' e=>⟨h',e,rfl,rfl⟩)) (fun r s' z=>?_) fun _ _ e=>e
  obtain ⟨⟨h',e,rfl,rfl⟩,z⟩:=z
  exact done hn h' e z
 cases W with
 | list a b c d=>
  rename_i l vs n
  have hne:l≠I:=fun q=>c (q ▸ hI)
  have hl:s.heap.IsList l vs.toArray:=⟨_,b,rfl,n,rfl⟩
  cases hx:xs[i]? with
  | none=>
   have hv:vs.toArray[i]? =none:=by
    have:=d.length
    simp only [List.getElem?_toArray]
    rw [List.getElem?_eq_none_iff] at hx ⊢
    lia
   exact fin hx fun Q hQ=>wpAny_pyNext_list_end hh a hl hv hQ
  | some p=>
   obtain ⟨v,hv,hp⟩:=d.get hx
   refine wpAny_pyNext_list_item a hl (x:=v) (by simpa using hv) fun h' hi hs=>?_
   have hk:∀a o,s.heap.get? a=some o→¬ Av a→h'.get? a=some o:=fun a o e q=>(hs.2 a fun z=>q (z ▸ hI)).trans e
   have hz:s.heap.objs.size≤h'.objs.size:=Nat.le_of_eq hs.1.symm
   exact item p v h' s.toks hx (hp.mono hk (fun _ _ q=>q) hz) (.list hi (hk _ _ b c) c (d.mono hk (fun _ _ q=>q) hz)) hs
 | range a b=>
  rename_i x c n
  by_cases hlt:i < n
  ·refine wpAny_pyNext_range_item a (by lia) fun h' hi hs=>?_
   refine item (.int (x+(i:Int) * c)) _ h' _ (by simp [hlt]) VR.int' (.range ?_ hlt) hs
   have e1:x+((i+1:Nat):Int) * c=x+(i:Int) * c+c:=by push_cast;rw [Int.add_mul,Int.one_mul,Int.add_assoc]
   have e2:(n:Int) - ((i+1:Nat):Int)=(n:Int) - (i:Int) - 1:=by push_cast;lia
   rw [e1,e2];exact hi
  ·exact fin (by simp;lia) fun Q hQ=>wpAny_pyNext_range_end hh a (by lia) hQ
 | stra a=>
  rename_i x t
  cases hx:(chars x)[i]? with
  | none=>exact fin hx fun Q hQ=>wpAny_pyNext_ascii_end hh a (chars_end hx) hQ
  | some p=>
   obtain ⟨c,hc,rfl⟩:=chars_get hx
   exact wpAny_pyNext_ascii_item a hc fun h' hi hs=>item _ _ h' _ hx VR.str' (.stra hi) hs
 | strw a=>
  rename_i x t
  cases hx:(chars x)[i]? with
  | none=>exact fin hx fun Q hQ=>wpAny_pyNext_wide_end hh a (chars_end hx) hQ
  | some p=>
   obtain ⟨c,hc,rfl⟩:=chars_get hx
   exact wpAny_pyNext_wide_item a hc fun h' hi hs=>item _ _ h' _ hx VR.str' (.strw hi) hs
end
noncomputable def itemsOf:PV→Option (List PV)
 | .list xs=>some xs
 | .str x=>some (chars x)
 | .range a b c=>if Builtin.Range.small a b c=true∧0≤Builtin.Range.rangeSize a b c then some ((List.range (Builtin.Range.rangeSize a b c).toNat).map fun (j:Nat)=>.int (a+(j:Int) * c)) else none
 | _=>none
section
variable {X:Cx} {F:FI} {d:Nat}
set_option tactic.hygienic true in
theorem wp_iter {A:Around} {Av:Addr→Prop} {s:Shared} {v:Value} {p:PV} {xs:List PV} {Q:Value→Shared→Prop} {E:Value→Shared→Prop} (h:itemsOf p=some xs) (lt:∀a,Av a→a < s.heap.objs.size) (hv:VR s.heap Av v p)
  (k:∀o,IterAt (s.heap.push o) (fun a=>Av a∨a=s.heap.objs.size) s.heap.objs.size xs 0→Q (.ref s.heap.objs.size) { s with heap:=s.heap.push o }):wpAny (model X.prog X.w) A (pyIter v) Q E s:=by
 unfold itemsOf at h
 split at h<;>(try cases h)
 ·unfold VR at hv
  obtain ⟨l,vs,n,rfl,g,na,z⟩:=hv
  refine wpAny_pyIter_list ⟨_,g,rfl,n,rfl⟩ (k _ (.list ⟨_,Heap.get?_push_size _ rfl,rfl,rfl⟩ (Heap.get?_push_of_some _ g) (fun q=>q.elim na fun q=>absurd (Heap.lt_size g) (q ▸ Nat.lt_irrefl _)) ?_))
  exact z.mono (fun a o e _=>Heap.get?_push_of_some _ e) (fun a l n q=>q.elim n fun z=>Nat.lt_irrefl _ (z ▸ l)) (by simp)
 ·unfold VR at hv
  obtain ⟨t,rfl⟩:=hv
  rename_i x
  cases ha:x.cps.all (· < 128) with
  | true=>exact wpAny_pyIter_ascii ha (k _ (.stra ⟨_,Heap.get?_push_size _ rfl,rfl,rfl⟩))
  | false=>exact wpAny_pyIter_wide ha (k _ (.strw ⟨_,Heap.get?_push_size _ rfl,rfl,rfl⟩))
 ·split at h<;>cases h
  rename_i a b c hc
  unfold VR at hv
  obtain ⟨r,t1,t2,t3,rfl,g,na⟩:=hv
  refine wpAny_pyIter_range g hc.1 (k _ (.range ?_ (Nat.zero_le _)))
  obtain ⟨n,hn⟩:=Int.eq_ofNat_of_zero_le hc.2
  rw [hn]
  show _=_
  simpa using Heap.get?_push_size _ rfl
theorem R.fresh {Av Mu:Addr→Prop} {env:Env} {st:St} {s:Shared} (r:R X F Av Mu env st s) (o:Obj):R X F (fun a=>Av a∨a=s.heap.objs.size) Mu env st { s with heap:=s.heap.push o }:=
 r.keep' (fun a o' e _=>Heap.get?_push_of_some _ e) (fun a t=>(r.tabs a t).2.mono (fun o e=>Heap.get?_push_of_some _ e) fun b o e n _=>⟨Heap.get?_push_of_some _ e,fun q=>q.elim n fun z=>absurd (Heap.lt_size e) (z ▸ Nat.lt_irrefl _)⟩) (by show _≤(s.heap.push o).objs.size;rw [Heap.size_push];exact Nat.le_succ _) (fun _ h=>.inl h)
  (fun a h=>h.imp id fun q=>⟨Nat.le_of_eq q.symm,by show a < (s.heap.push o).objs.size;rw [Heap.size_push,q];exact Nat.lt_succ_self _⟩) (fun _ h=>h) (fun a h=>.inl (r.ma a h))
theorem Step.fresh {Av Mu:Addr→Prop} {s:Shared} (o:Obj):Step Av Mu s (fun a=>Av a∨a=s.heap.objs.size) Mu { s with heap:=s.heap.push o }:=
 ⟨fun a o' e _=>Heap.get?_push_of_some _ e,fun a h=>.inl h,fun a h=>h.imp id fun q=>Nat.le_of_eq q.symm,fun a h _=>.inl h,by show _≤(s.heap.push o).objs.size;rw [Heap.size_push];exact Nat.le_succ _,rfl,id⟩
theorem Step.iter {Av Mu Av' Mu':Addr→Prop} {s s' s'':Shared} {I:Addr} (S:Step Av Mu s Av' Mu' s') (hI:s.heap.objs.size≤I) (hk:Heap.ExtBut I s'.heap s''.heap) (hs:s'.heap.objs.size≤s''.heap.objs.size) (ho:s''.os=s'.os) (hg:s''.gens=s'.gens):Step Av Mu s Av' Mu' s'':=
 ⟨fun a o e n=>hk a o (fun q=>absurd (Heap.lt_size e) (Nat.not_lt.mpr (q ▸ hI))) (S.keep a o e n),S.mu,S.av,S.av',Nat.le_trans S.size hs,ho.trans S.os,fun h=>hg ▸ S.gens h⟩
noncomputable def forF (i:Nat) (g:EvS):List PV→EvS
 | []=>pureE .next
 | p::ps=>fun st=>match g (st.set i (.froz p)) with
  | some (.next,st')=>forF i g ps st'
  | some (.brk,st')=>some (.next,st')
  | some (.ret q,st')=>some (.ret q,st')
  | none=>none
theorem wp_next' {prog:Program} {w:World} {A:Around} {E:Value→Shared→Prop} {s:Shared} {Av:Addr→Prop} {I:Addr} {xs:List PV} {i:Nat} {Q:Option Value→Shared→Prop} (hh:A.handled=none) (tk:1≤s.toks) (hI:Av I) (W:IterAt s.heap Av I xs i)
  (item:∀p v h' tk,xs[i]? =some p→VR h' Av v p→IterAt h' Av I xs (i+1)→Heap.SameBut I s.heap h'→1≤tk→Q (some v) { s with heap:=h',toks:=tk })
  (done:xs[i]? =none→∀h',Heap.ExtBut I s.heap h'→s.heap.objs.size≤h'.objs.size→Q none { s with heap:=h' }):wpAny (model prog w) A (pyNext (.ref I)) Q E s:=
 wpAny_mono (wpAny_toks (wp_next (Q:=fun r s'=>1≤s'.toks→Q r s') hh hI W (fun p v h' tk h1 h2 h3 h4 h5=>item p v h' tk h1 h2 h3 h4 h5) fun h1 h' h2 h3 h4=>done h1 h' h2 h3)) (fun r s' q=>q.1 (Nat.le_trans tk q.2)) fun _ _ e=>e
theorem wp_store' {M:Model} {A:Around} {Q:Unit→Shared→Prop} {E:Value→Shared→Prop} {Av Mu:Addr→Prop} {env:Env} {st:St} {s:Shared} (r:R X F Av Mu env st s) (tk:1≤s.toks) {i:Nat} {x:Str} (hi:F.names[i]? =some x) {v:Value} {b:Bind}
  (hb:NewB s.heap Av Mu env F.names st i v b) (hkind:F.Wr x)
  (k:∀s',R X F Av Mu env (st.set i b) s'→Step Av Mu s Av Mu s'→1≤s'.toks→Q () s'):wpAny M A (storeName env x v) Q E s:=
 wpAny_mono (wpAny_toks (wp_store (Q:=fun _ s'=>1≤s'.toks→Q () s') r hi hb hkind fun s' R' S' t=>k s' R' S' t)) (fun _ s' q=>q.1 (Nat.le_trans tk q.2)) fun _ _ e=>e
theorem code_for {x:Str} {px:Pos} {b:List Stmt} {g:EvS} {i:Nat} (hb:SoundS X F d b g) (hi:F.names[i]? =some x) (hl:F.Wr x) {A:Around} {Av₀ Mu₀:Addr→Prop} {s₀:Shared} {env:Env} {I:Addr} {K:Result→Shared→Prop} {xs:List PV} {st₂:St} {v:Fl}
  (hA:Room d A) (h0:s₀.heap.objs.size≤I) (lt₀:∀a,Av₀ a→a < s₀.heap.objs.size)
  (k:∀x s' Av' Mu',R X F Av' Mu' env st₂ s'→Step Av₀ Mu₀ s₀ Av' Mu' s'→FlR s'.heap Av' x v→K (.ok x) s'):
  ∀(ps:List PV) {j:Nat} {Av Mu:Addr→Prop} {st:St} {s:Shared},xs.drop j=ps→forF i g ps st=some (v,st₂)→R X F Av Mu env st s→Step Av₀ Mu₀ s₀ Av Mu s→Av I→¬ Mu I→IterAt s.heap Av I xs j→1≤s.toks→
   codeAny (model X.prog X.w) A (.forLoop (.Name x px) (.ref I) b [] env) K s
 | [],j,Av,Mu,st,s,hd,hf,R₀,S₀,hI,hMu,W,tk=>by
  have hn:xs[j]? =none:=by rw [←Nat.add_zero j,←List.getElem?_drop,hd];rfl
  refine loop_turn (t:=forTurn (.Name x px) (.ref I) b [] env) (kk:=fun x=>do noteFrame x env;theTreesLotGoes x) rfl rfl rfl fun Q E hdone hagain=>?_
  unfold forTurn
  refine wpAny_bind (wpAny_standAt (wpAny_bind (wpAny_onRaise (wp_next' hA.1 tk hI W (fun p u h' tk' hp=>nomatch hn.symm.trans hp) fun _ h' he hz=>?_))))
  cases hf
  exact wpAny_pure (hagain _ _ rfl (codeAny_block (wpAny_execs_nil (k _ _ _ _ (R₀.keepI hI hMu W.nocell he hz) (S₀.iter h0 he hz rfl rfl) trivial))))
 | p::ps,j,Av,Mu,st,s,hd,hf,R₀,S₀,hI,hMu,W,tk=>by
  have hj:xs[j]? =some p:=by rw [←Nat.add_zero j,←List.getElem?_drop,hd];rfl
  have hd2:xs.drop (j+1)=ps:=by rw [←List.drop_drop,hd];rfl
  refine loop_turn (t:=forTurn (.Name x px) (.ref I) b [] env) (kk:=fun x=>do noteFrame x env;theTreesLotGoes x) rfl rfl rfl fun Q E hdone hagain=>?_
  unfold forTurn
  refine wpAny_bind (wpAny_standAt (wpAny_bind (wpAny_onRaise (wp_next' hA.1 tk hI W (fun p' u h' tk' hp hu W' hs tk1=>?_) fun hn h' he hz=>nomatch hn.symm.trans hj))))
  obtain rfl:p'=p:=Option.some.inj (hp.symm.trans hj)
  have R1:R X F Av Mu env st { s with heap:=h',toks:=tk' }:=R₀.keepI hI hMu W.nocell (fun a o n e=>(hs.2 a n).trans e) (Nat.le_of_eq hs.1.symm)
  have mv:∀{Av' Mu':Addr→Prop} {s1 s2:Shared} {Av Mu:Addr→Prop} {n:Nat},Step Av Mu s1 Av' Mu' s2→(∀a,Mu a→Av a)→¬ Mu I→IterAt s1.heap Av I xs n→IterAt s2.heap Av' I xs n:=fun S ma nI W=>
   W.mono (fun o e=>S.keep I o e nI) (fun a o e n=>S.keep a o e fun q=>n (ma a q)) (fun a l n q=>(S.av a q).elim n fun z=>absurd l (Nat.not_lt.mpr z)) S.size
  have S1:Step Av₀ Mu₀ s₀ Av Mu { s with heap:=h',toks:=tk' }:=S₀.iter h0 hs.extBut (Nat.le_of_eq hs.1.symm) rfl rfl
  refine wpAny_bind (wpAny_pure (wpAny_bind (wpAny_assign_Name (wp_store' R1 tk1 hi (b:=.froz p') hu hl fun s2 R2 S2 tk2=>?_))))
  have W2:=mv S2 R1.ma hMu W'
  have T2:=S1.trans S2 lt₀
  unfold forF at hf
  match hg:g (st.set i (.froz p')),hf with
  | some (fl,st3),hf=>
   refine wpAny_bind (hb _ hA hg R2 tk2 fun fl' s3 Av3 Mu3 R3 S3 V3 tk3=>?_)
   have T:=T2.trans S3 lt₀
   cases fl with
   | next=>
    cases fl'<;>first | exact V3.elim | exact wpAny_pure (hagain _ _ rfl (code_for hb hi hl hA h0 lt₀ k ps hd2 hf R3 T (S3.av' I hI hMu) (fun q=>(S3.mu I q).elim hMu fun z=>absurd (R2.lt I hI) (Nat.not_lt.mpr z)) (mv S3 R2.ma hMu W2) tk3))
   | brk=>
    cases hf
    cases fl'<;>first | exact V3.elim | exact wpAny_pure (hdone _ _ (k .next _ _ _ R3 T trivial))
   | ret q=>
    cases hf
    cases fl'<;>first | exact V3.elim | exact wpAny_pure (hdone _ _ (k _ _ _ _ R3 T V3))
theorem x_for {x:Str} {px pos:Pos} {iter:Expr} {b:List Stmt} {f:EvE} {g:EvS} {i:Nat} (h:SoundE X F d iter f) (hb:SoundS X F d b g) (hi:F.names[i]? =some x) (hl:F.Wr x)
  (hs:autoParam (∀env x,foldedSetIterable iter env x=pure x) Mine.au1._auto_1):
  SoundX X F d (.For (.Name x px) iter b [] pos) (bindE f fun p=>bindE (liftE (itemsOf p)) fun xs=>forF i g xs):=by
 refine @SoundU.intro _ _ _ _ _ _ _ _ ?_
 intro A Av Mu env st st' s v Q E hA hf R₀ tk k
 refine bindE_elim hf fun p st1 h1 hf1=>?_
 refine bindE_elim hf1 fun xs st2 h2 hf2=>?_
 obtain ⟨h3,e3⟩:=liftE_some h2
 subst e3
 refine wpAny_For (h _ hA h1 R₀ tk fun va s1 Av1 Mu1 R1 S1 V1 tk1=>wp_iter h3 R1.lt V1 fun o W=>?_) (hs env)
 refine code_for hb hi hl hA (s₀:=s1) (Nat.le_refl _) R1.lt (fun u s' Av' Mu' R' S' V'=>?_) xs (j:=0) List.drop_zero hf2 (R1.fresh o) (Step.fresh o) (.inr rfl) (fun q=>absurd (R1.lt _ (R1.ma _ q)) (Nat.lt_irrefl _)) W tk1
 exact k _ _ _ _ R' (S1.toStep.trans S' R₀.lt) V'
end
noncomputable def compF (i:Nat) (t:EvB) (e:EvE):List PV→St→Option (List PV×St)
 | []=>pureE []
 | p::ps=>fun st=>match t (st.set i (.froz p)) with
  | some (false,st')=>compF i t e ps st'
  | some (true,st')=>(match e st' with
   | some (a,st'')=>(match compF i t e ps st'' with
    | some (as,st3)=>some (a::as,st3)
    | none=>none)
   | none=>none)
  | none=>none
theorem compF_cons {i:Nat} {t:EvB} {e:EvE} {p:PV} {ps rest:List PV} {st st₂:St} (h:compF i t e (p::ps) st=some (rest,st₂)):
  (∃st1,t (st.set i (.froz p))=some (false,st1)∧compF i t e ps st1=some (rest,st₂))∨∃st1 a st2 as,t (st.set i (.froz p))=some (true,st1)∧e st1=some (a,st2)∧compF i t e ps st2=some (as,st₂)∧rest=a::as:=by
 unfold compF at h
 match h1:t (st.set i (.froz p)),h with
 | some (false,st1),h=>exact .inl ⟨st1,rfl,h⟩
 | some (true,st1),h=>
  dsimp only at h
  match h2:e st1,h with
  | some (a,st2),h=>
   dsimp only at h
   match h3:compF i t e ps st2,h with
   | some (as,st3),h=>
    cases h
    exact .inr ⟨st1,a,st2,as,rfl,h2,h3,rfl⟩
theorem compF_len {i:Nat} {t:EvB} {e:EvE}:∀(ps:List PV) {st st₂:St} {rest:List PV},compF i t e ps st=some (rest,st₂)→rest.length≤ps.length
 | [],_,_,_,h=>by cases h;exact Nat.le_refl 0
 | p::ps,_,_,_,h=>by
  rcases compF_cons h with ⟨_,_,q⟩ | ⟨_,_,_,_,_,_,q,rfl⟩
  ·exact Nat.le_succ_of_le (compF_len ps q)
  ·exact Nat.succ_le_succ (compF_len ps q)
section
variable {X:Cx} {F:FI} {d:Nat}
noncomputable abbrev testsOf (ifs:List Expr) (env:Env):Sem Bool:=forIn ifs true fun c r=>if r=true then do let ok ←isTrue c env (eval c env);pure (ForInStep.yield ok) else pure (ForInStep.yield r)
noncomputable def SoundIfs (X:Cx) (F:FI) (d:Nat) (ifs:List Expr) (t:EvB):Prop:=SoundT X F d BR (testsOf ifs) t
theorem ifs_nil:SoundIfs X F d [] (pureE true):=by
 refine @SoundT.intro _ _ _ _ _ _ _ _ ?_
 intro A Av Mu env st st' s v Q E hA hf R₀ tk k
 cases hf
 exact wpAny_pure (k _ _ _ _ R₀ StepE.refl rfl)
theorem ifs_one {c:Expr} {t:EvB} (h:SoundB X F d c t):SoundIfs X F d [c] t:=by
 refine @SoundT.intro _ _ _ _ _ _ _ _ ?_
 intro A Av Mu env st st' s v Q E hA hf R₀ tk k
 exact wpAny_tests_one (h _ hA hf R₀ tk fun x s' Av' Mu' R' S' V' tk'=>k _ _ _ _ R' S' V')
end
structure ItW (prog:Program) (w:World) (I:Addr) (Z:Addr→Prop) (xs:List PV) (IV:Value→PV→Heap→(Addr→Prop)→Prop) (IT:Nat→Heap→(Addr→Prop)→Prop) (IE:Heap→(Addr→Prop)→Prop) (G:Value→Sem Unit):Prop where
 mono:∀{j:Nat} {h h':Heap} {Av Av':Addr→Prop},IT j h Av→(∀a o,Z a→h.get? a=some o→h'.get? a=some o)→(∀a o,h.get? a=some o→¬ Av a→h'.get? a=some o)→(∀a,a < h.objs.size→¬ Av a→¬ Av' a)→h.objs.size≤h'.objs.size→IT j h' Av'
 nocell:∀{j:Nat} {h:Heap} {Av:Addr→Prop},IT j h Av→∀a,Z a→∀o,h.get? a=some o→∀v,o.data≠.cell v
 next:∀{A:Around} {Av:Addr→Prop} {s:Shared} {j:Nat} {Qs:Value→Shared→Prop} {Qn:Shared→Prop} {E:Value→Shared→Prop},A.handled=none→1≤s.toks→(∀a,Z a→Av a)→IT j s.heap Av→
  (∀p v h' tk,xs[j]? =some p→IV v p h' Av→IT (j+1) h' Av→(∀a o,¬ Z a→s.heap.get? a=some o→h'.get? a=some o)→s.heap.objs.size≤h'.objs.size→1≤tk→Qs v { s with heap:=h',toks:=tk })→
  (xs[j]? =none→∀h',IE h' Av→(∀a o,¬ Z a→s.heap.get? a=some o→h'.get? a=some o)→s.heap.objs.size≤h'.objs.size→Qn { s with heap:=h' })→
  wpAny (model prog w) A (pyNext (.ref I)) (fun r s'=>match r with | none=>Qn s' | some v=>wpAny (model prog w) A (G v) (fun _ s''=>Qs v s'') E s') E s
structure CY (Z:Addr→Prop) (IT:Nat→Heap→(Addr→Prop)→Prop) (D:Addr) (Av Mu:Addr→Prop) (h:Heap) (j:Nat) (done:List PV):Prop where
 zone:∀a,Z a→Av a∧¬ Mu a∧a≠D
 aD:Av D
 mD:¬ Mu D
 it:IT j h Av
 ls:∃us n,h.get? D=some (listObj us n)∧VRs h Av us done
section
variable {X:Cx} {F:FI} {d:Nat}
theorem R.keepZ {Av Mu:Addr→Prop} {env:Env} {st:St} {s s':Shared} (r:R X F Av Mu env st s) {P:Addr→Prop} (hI:∀a,P a→Av a∧¬ Mu a∧∀o,s.heap.get? a=some o→∀v,o.data≠.cell v) (hk:∀a o,¬ P a→s.heap.get? a=some o→s'.heap.get? a=some o) (hs:s.heap.objs.size≤s'.heap.objs.size):R X F Av Mu env st s':=
 r.keep2 (fun a o e q=>hk a o (fun z=>by
  obtain ⟨h1,h2,h3⟩:=hI a z
  rcases q with q | q | ⟨v,q⟩
  ·exact q h1
  ·exact h2 q.1
  ·exact h3 o e v q) e) (fun a t=>(r.tabs a t).2.mono (fun o e=>hk a _ (fun z=>(hI a z).2.1 (r.tabs a t).1) e) fun b o e n _=>⟨hk b o (fun z=>n (hI b z).1) e,n⟩) hs (fun _ h=>h) (fun _ h=>.inl h) (fun _ h=>h) r.ma
theorem Step.iterZ {Av Mu Av' Mu':Addr→Prop} {s s' s'':Shared} (S:Step Av Mu s Av' Mu' s') (hk:∀a o,a < s.heap.objs.size→s'.heap.get? a=some o→s''.heap.get? a=some o) (hs:s'.heap.objs.size≤s''.heap.objs.size) (ho:s''.os=s'.os) (hg:s''.gens=s'.gens):Step Av Mu s Av' Mu' s'':=
 ⟨fun a o e n=>hk a o (Heap.lt_size e) (S.keep a o e n),S.mu,S.av,S.av',Nat.le_trans S.size hs,ho.trans S.os,fun h=>hg ▸ S.gens h⟩
variable {I D:Addr} {Z:Addr→Prop} {xs:List PV} {IV:Value→PV→Heap→(Addr→Prop)→Prop} {IT:Nat→Heap→(Addr→Prop)→Prop} {IE:Heap→(Addr→Prop)→Prop} {G:Value→Sem Unit}
theorem CY.step (W:ItW X.prog X.w I Z xs IV IT IE G) {Av Mu Av' Mu':Addr→Prop} {s s':Shared} {j:Nat} {done:List PV} (S:Step Av Mu s Av' Mu' s') (ma:∀a,Mu a→Av a) (lt:∀a,Av a→a < s.heap.objs.size) (c:CY Z IT D Av Mu s.heap j done):CY Z IT D Av' Mu' s'.heap j done:=by
 refine ⟨fun a h=>?_,S.av' D c.aD c.mD,fun q=>(S.mu D q).elim c.mD fun z=>absurd (lt D c.aD) (Nat.not_lt.mpr z),?_,?_⟩
 ·obtain ⟨h1,h2,h3⟩:=c.zone a h
  exact ⟨S.av' a h1 h2,fun q=>(S.mu a q).elim h2 fun z=>absurd (lt a h1) (Nat.not_lt.mpr z),h3⟩
 ·exact W.mono c.it (fun a o h e=>S.keep a o e (c.zone a h).2.1) (fun a o e n=>S.keep a o e fun q=>n (ma a q)) (fun a l n q=>(S.av a q).elim n fun z=>absurd l (Nat.not_lt.mpr z)) S.size
 ·obtain ⟨us,n,e,z⟩:=c.ls
  exact ⟨us,n,S.keep D _ e c.mD,z.step S ma⟩
theorem CY.app (W:ItW X.prog X.w I Z xs IV IT IE G) {A:Around} {Av₀ Mu₀ Av Mu:Addr→Prop} {env:Env} {st:St} {s₀ s:Shared} {j:Nat} {done:List PV} {va:Value} {a:PV} {Q:Fin→Shared→Prop} {E:Value→Shared→Prop} {c:Code} (h1:s₀.heap.objs.size≤D) (R₀:R X F Av Mu env st s) (S:Step Av₀ Mu₀ s₀ Av Mu s) (C:CY Z IT D Av Mu s.heap j done) (V:VR s.heap Av va a) (hl:done.length≤16777216)
  (k:∀h',R X F Av Mu env st { s with heap:=h' }→Step Av₀ Mu₀ s₀ Av Mu { s with heap:=h' }→CY Z IT D Av Mu h' j (done++[a])→Q (.again c) { s with heap:=h' }):
  wpAny (model X.prog X.w) A (call (.builtin "list.append") [.ref D,va]>>=fun _=>pure ()) (fun _ s'=>wpAny (model X.prog X.w) A (again c) Q E s') E s:=by
 obtain ⟨us,n,g,z⟩:=C.ls
 refine wpAny_bind (list_append_x g (z.length ▸ hl) fun h5 n5 g5 hs5=>wpAny_pure (wpAny_pure (k h5 ?_ ?_ ?_)))
 ·exact R₀.keepI C.aD C.mD (fun o e v q=>by rw [g] at e;cases e;cases q) (fun a o n e=>(hs5.2 a n).trans e) (Nat.le_of_eq hs5.1.symm)
 ·exact S.iter h1 hs5.extBut (Nat.le_of_eq hs5.1.symm) rfl rfl
 ·have hk:∀a o,s.heap.get? a=some o→¬ Av a→h5.get? a=some o:=fun a o e q=>(hs5.2 a fun z=>q (z ▸ C.aD)).trans e
  have hz:s.heap.objs.size≤h5.objs.size:=Nat.le_of_eq hs5.1.symm
  exact ⟨C.zone,C.aD,C.mD,W.mono C.it (fun a o h e=>(hs5.2 a (C.zone a h).2.2).trans e) hk (fun _ _ q=>q) hz,_,_,g5,VRs.append (z.mono hk (fun _ _ q=>q) hz) (VRs.cons (V.mono hk (fun _ _ q=>q) hz) VRs.nil)⟩
theorem drop_some {α:Type} {l ps:List α} {j:Nat} {p:α} (h:l.drop j=p::ps):l[j]? =some p∧l.drop (j+1)=ps:=⟨by rw [←Nat.add_zero j,←List.getElem?_drop,h];rfl,by rw [←List.drop_drop,h];rfl⟩
theorem code_gen {c:Code} {T:Value→Sem Fin} {kk:Value→Sem Unit} {pp:Pos} {f:List PV→St→Option (List PV×St)} (W:ItW X.prog X.w I Z xs IV IT IE G) (hw:c.weight=0) (hu:c.cUnits=0) (hq:c.quiet=true)
    (hd:(model X.prog X.w).den c=(standAt pp>>=fun _=>pyNext (.ref I)>>=fun r=>match r with | none=>pure (.done .next) | some v=>G v>>=fun _=>T v).onRaise kk)
    {A:Around} {Av₀ Mu₀:Addr→Prop} {s₀:Shared} {env:Env} {K:Result→Shared→Prop} {all:List PV} {st₂:St}
    (hnil:∀st,f [] st=some ([],st)) (hA:Room d A) (h0:∀a,Z a→s₀.heap.objs.size≤a)
    (body:∀{Av Mu:Addr→Prop} {st:St} {s:Shared} {p:PV} {ps done rest:List PV} {j:Nat} {v:Value} {Q:Fin→Shared→Prop} {E:Value→Shared→Prop},f (p::ps) st=some (rest,st₂)→done++rest=all→IV v p s.heap Av→R X F Av Mu env st s→Step Av₀ Mu₀ s₀ Av Mu s→CY Z IT D Av Mu s.heap (j+1) done→1≤s.toks→
      (∀{Av' Mu':Addr→Prop} {st':St} {s':Shared} {done' rest':List PV},f ps st'=some (rest',st₂)→done'++rest'=all→R X F Av' Mu' env st' s'→Step Av₀ Mu₀ s₀ Av' Mu' s'→CY Z IT D Av' Mu' s'.heap (j+1) done'→1≤s'.toks→Q (.again c) s')→wpAny (model X.prog X.w) A (T v) Q E s)
    (k:∀s' Av' Mu',R X F Av' Mu' env st₂ s'→Step Av₀ Mu₀ s₀ Av' Mu' s'→(∀a,Z a→Av' a∧¬ Mu' a∧a≠D)→Av' D→¬ Mu' D→(∃us n,s'.heap.get? D=some (listObj us n)∧VRs s'.heap Av' us all)→IE s'.heap Av'→1≤s'.toks→K (.ok .next) s'):
    ∀(ps:List PV) {j:Nat} {Av Mu:Addr→Prop} {st:St} {s:Shared} {done rest:List PV},xs.drop j=ps→f ps st=some (rest,st₂)→done++rest=all→R X F Av Mu env st s→Step Av₀ Mu₀ s₀ Av Mu s→CY Z IT D Av Mu s.heap j done→1≤s.toks→codeAny (model X.prog X.w) A c K s:=by
  have step:∀(ps:List PV) {j:Nat} {Av Mu:Addr→Prop} {st:St} {s:Shared} {done rest:List PV},(∀p qs,ps=p::qs→∀{Av Mu:Addr→Prop} {st:St} {s:Shared} {done rest:List PV},f qs st=some (rest,st₂)→done++rest=all→R X F Av Mu env st s→Step Av₀ Mu₀ s₀ Av Mu s→CY Z IT D Av Mu s.heap (j+1) done→1≤s.toks→codeAny (model X.prog X.w) A c K s)→
      xs.drop j=ps→f ps st=some (rest,st₂)→done++rest=all→R X F Av Mu env st s→Step Av₀ Mu₀ s₀ Av Mu s→CY Z IT D Av Mu s.heap j done→1≤s.toks→codeAny (model X.prog X.w) A c K s:=by
    intro ps j Av Mu st s done rest ih hj hf hall R₀ S₀ C tk
    refine loop_turn hw hu hd fun Q E hdone hagain=>wpAny_bind (wpAny_standAt (wpAny_bind (wpAny_mono (W.next (Qs:=fun v s'=>wpAny (model X.prog X.w) A (T v) Q E s') (Qn:=fun s'=>Q (.done .next) s') hA.1 tk (fun a h=>(C.zone a h).1) C.it (fun p v h' tk' hp hv it hk hz tk1=>?_) fun hn h' ie hk hz=>?_) (fun r s' q=>?_) fun _ _ x=>x)))
    · have key:∀a o,s.heap.get? a=some o→¬ Av a→h'.get? a=some o:=fun a o e q=>hk a o (fun z=>q (C.zone a z).1) e
      have hps:ps=p::xs.drop (j+1):=by
        obtain ⟨hlt,e⟩:=List.getElem?_eq_some_iff.mp hp
        rw [←hj,List.drop_eq_getElem_cons hlt,e]
      obtain ⟨us,n,g,z⟩:=C.ls
      exact body (hps ▸ hf) hall hv (R₀.keepZ (fun a h=>⟨(C.zone a h).1,(C.zone a h).2.1,W.nocell C.it a h⟩) hk hz) (S₀.iterZ (fun a o l e=>hk a o (fun q=>absurd l (Nat.not_lt.mpr (h0 a q))) e) hz rfl rfl)
        ⟨C.zone,C.aD,C.mD,it,us,n,hk D _ (fun q=>(C.zone D q).2.2 rfl) g,z.mono key (fun _ _ q=>q) hz⟩ tk1 fun f1 f2 f3 f4 f5 f6=>hagain _ _ hq (ih p _ hps f1 f2 f3 f4 f5 f6)
    · have key:∀a o,s.heap.get? a=some o→¬ Av a→h'.get? a=some o:=fun a o e q=>hk a o (fun z=>q (C.zone a z).1) e
      have hps:ps=[]:=by rw [←hj];exact List.drop_eq_nil_of_le (List.getElem?_eq_none_iff.mp hn)
      rw [hps,hnil] at hf
      cases hf
      rw [List.append_nil] at hall
      obtain ⟨us,n,g,z⟩:=C.ls
      exact hdone _ _ (k _ _ _ (R₀.keepZ (fun a h=>⟨(C.zone a h).1,(C.zone a h).2.1,W.nocell C.it a h⟩) hk hz) (S₀.iterZ (fun a o l e=>hk a o (fun q=>absurd l (Nat.not_lt.mpr (h0 a q))) e) hz rfl rfl) C.zone C.aD C.mD
        ⟨us,n,hk D _ (fun q=>(C.zone D q).2.2 rfl) g,hall ▸ z.mono key (fun _ _ q=>q) hz⟩ ie tk)
    · cases r with
      | none=>exact wpAny_pure q
      | some v=>exact wpAny_bind q
  intro ps
  induction ps with
  | nil=>exact step [] (fun _ _ e=>nomatch e)
  | cons p ps ih=>exact fun {j} _ _ _ _ _ _ h=>step (p::ps) (fun _ _ e=>by cases e;exact ih (drop_some h).2) h
theorem it_one:ItW X.prog X.w I (fun a=>a=I) xs (fun v p h Av=>VR h Av v p) (fun j h Av=>IterAt h Av I xs j) (fun _ _=>True) (fun _=>pure ()):=
 ⟨fun x hz hk ha hs=>x.mono (fun o e=>hz I o rfl e) hk ha hs,fun x a h=>h ▸ x.nocell,fun hh tk hI W item done=>by
  refine wp_next' hh tk (hI I rfl) W (fun p v h' tk' hp hv it hs tk1=>?_) fun hn h' he hz=>?_
  ·exact wpAny_pure (item p v h' tk' hp hv it (fun a o n e=>(hs.2 a n).trans e) (Nat.le_of_eq hs.1.symm) tk1)
  ·exact done hn h' trivial he hz⟩
noncomputable def filT (x:Str) (px:Pos) (ifs:List Expr) (elt:Expr) (D:Addr) (env:Env) (c:Code) (v:Value):Sem Fin:=assign (.Name x px) env v>>=fun _=>testsOf ifs env>>=fun ok=>if ok=true then (eval elt env>>=fun x=>call (.builtin "list.append") [.ref D,x]>>=fun _=>pure ())>>=fun _=>again c else again c
theorem fil_body {c:Code} {x:Str} {px:Pos} {elt:Expr} {ifs:List Expr} {t:EvB} {e:EvE} {i:Nat} (W:ItW X.prog X.w I Z xs (fun v p h Av=>VR h Av v p) IT IE G) (ht:SoundIfs X F d ifs t) (he:SoundE X F d elt e) (hi:F.names[i]? =some x) (hl:F.Wr x)
  {A:Around} {Av₀ Mu₀:Addr→Prop} {s₀:Shared} {env:Env} {all:List PV} {st₂:St} (hA:Room d A) (h1:s₀.heap.objs.size≤D) (lt₀:∀a,Av₀ a→a < s₀.heap.objs.size) (hal:all.length≤16777216)
  {Av Mu:Addr→Prop} {st:St} {s:Shared} {p:PV} {ps done rest:List PV} {j:Nat} {v:Value} {Q:Fin→Shared→Prop} {E:Value→Shared→Prop} (hf:compF i t e (p::ps) st=some (rest,st₂)) (hall:done++rest=all) (hv:VR s.heap Av v p) (R₁:R X F Av Mu env st s) (S₁:Step Av₀ Mu₀ s₀ Av Mu s) (C₁:CY Z IT D Av Mu s.heap (j+1) done) (tk:1≤s.toks)
  (k:∀{Av' Mu':Addr→Prop} {st':St} {s':Shared} {done' rest':List PV},compF i t e ps st'=some (rest',st₂)→done'++rest'=all→R X F Av' Mu' env st' s'→Step Av₀ Mu₀ s₀ Av' Mu' s'→CY Z IT D Av' Mu' s'.heap (j+1) done'→1≤s'.toks→Q (.again c) s'):wpAny (model X.prog X.w) A (filT x px ifs elt D env c v) Q E s:=by
 refine wpAny_bind (wpAny_assign_Name (wp_store' R₁ tk hi (b:=.froz p) hv hl fun s2 R2 S2 tk2=>?_))
 have C2:=C₁.step W S2 R₁.ma R₁.lt
 rcases compF_cons hf with ⟨st1,f1,f2⟩ | ⟨st1,a,st2,as,f1,f2,f3,rfl⟩
 ·refine wpAny_bind (ht _ hA f1 R2 tk2 fun b' s3 Av3 Mu3 R3 S3 V3 tk3=>?_)
  cases V3
  exact wpAny_pure (k f2 hall R3 ((S₁.trans S2 lt₀).trans S3.toStep lt₀) (C2.step W S3.toStep R2.ma R2.lt) tk3)
 ·refine wpAny_bind (ht _ hA f1 R2 tk2 fun b' s3 Av3 Mu3 R3 S3 V3 tk3=>?_)
  cases V3
  have C3:=C2.step W S3.toStep R2.ma R2.lt
  refine wpAny_bind (wpAny_bind (he _ hA f2 R3 tk3 fun va s4 Av4 Mu4 R4 S4 V4 tk4=>?_))
  refine CY.app W h1 R4 (((S₁.trans S2 lt₀).trans S3.toStep lt₀).trans S4.toStep lt₀) (C3.step W S4.toStep R3.ma R3.lt) V4 (Nat.le_trans ?_ hal) fun h' R5 S5 C5=>k f3 ?_ R5 S5 C5 tk4
  ·rw [←hall,List.length_append];exact Nat.le_add_right _ _
  ·rw [List.append_assoc];exact hall
theorem code_comp {x:Str} {px:Pos} {elt iter:Expr} {ifs:List Expr} {scope:Scope} {pos:Pos} {t:EvB} {e:EvE} {i:Nat} (ht:SoundIfs X F d ifs t) (he:SoundE X F d elt e) (hi:F.names[i]? =some x) (hl:F.Wr x)
  {A:Around} {Av₀ Mu₀:Addr→Prop} {s₀:Shared} {env:Env} {K:Result→Shared→Prop} {all:List PV} {st₂:St}
  (hA:Room d A) (h0:s₀.heap.objs.size≤I) (h1:s₀.heap.objs.size≤D) (lt₀:∀a,Av₀ a→a < s₀.heap.objs.size) (hal:all.length≤16777216)
  (k:∀s' Av' Mu',R X F Av' Mu' env st₂ s'→Step Av₀ Mu₀ s₀ Av' Mu' s'→Av' D→¬ Mu' D→(∃us n,s'.heap.get? D=some (listObj us n)∧VRs s'.heap Av' us all)→K (.ok .next) s')
  {Av Mu:Addr→Prop} {st:St} {s:Shared} (hf:compF i t e xs st=some (all,st₂)) (R₀:R X F Av Mu env st s) (S₀:Step Av₀ Mu₀ s₀ Av Mu s) (C:CY (fun a=>a=I) (fun j h Av=>IterAt h Av I xs j) D Av Mu s.heap 0 []) (tk:1≤s.toks):
  codeAny (model X.prog X.w) A (.compLoop (.ListComp elt [⟨.Name x px,iter,ifs,0⟩] scope pos) 0 (.ref I) (.ref D) env) K s:=
 code_gen (f:=compF i t e) (T:=filT x px ifs elt D env (.compLoop (.ListComp elt [⟨.Name x px,iter,ifs,0⟩] scope pos) 0 (.ref I) (.ref D) env)) (pp:=iter.pos) (kk:=fun x=>do noteFrame x env;theTreesLotGoes x) it_one rfl rfl rfl rfl (fun _=>rfl) hA (fun a h=>h ▸ h0) (fil_body it_one ht he hi hl hA h1 lt₀ hal) (fun s' Av' Mu' r S _ a m l _ _=>k s' Av' Mu' r S a m l) xs (List.drop_zero) hf rfl R₀ S₀ C tk
end
noncomputable def clOf (cells:List (Str×Addr)):List (Str×NameKind)→List (Str×Addr)→List (Str×Addr)
 | [],acc=>acc
 | (n,k)::r,acc=>if k==.free then clOf cells r ((n,(cells.lookup n).getD 0)::acc) else clOf cells r acc
theorem closureFor_eq {env:Env}:∀(names:List (Str×NameKind)) (acc:List (Str×Addr)),(∀n,(n,NameKind.free)∈names→∃c,env.cells.lookup n=some c)→
  (forIn names acc fun (x:Str×NameKind) (r:List (Str×Addr))=>(if (x.2==.free)=true then do let a ←cellOf env x.1;pure (ForInStep.yield ((x.1,a)::r)) else pure (ForInStep.yield r):Sem (ForInStep (List (Str×Addr)))))=pure (clOf env.cells names acc)
 | [],acc,_=>rfl
 | (n,k)::r,acc,h=>by
  rw [List.forIn_cons]
  unfold clOf
  dsimp only
  by_cases hk:(k==NameKind.free)=true
  ·rw [if_pos hk,if_pos hk]
   obtain ⟨c,hc⟩:=h n (by rw [beq_iff_eq] at hk;rw [hk];exact List.mem_cons_self)
   have:cellOf env n=pure c:=by unfold cellOf;rw [hc]
   rw [this]
   simp only [pure_bind]
   rw [closureFor_eq r _ fun m hm=>h m (List.mem_cons_of_mem _ hm),hc]
   rfl
  ·rw [if_neg hk,if_neg hk]
   simp only [pure_bind]
   exact closureFor_eq r _ fun m hm=>h m (List.mem_cons_of_mem _ hm)
theorem closure_eq {env:Env} {scope:Scope} (h:∀n,(n,NameKind.free)∈scope.names→∃c,env.cells.lookup n=some c):closureFor scope env=pure (clOf env.cells scope.names []):=by
 rw [←closureFor_eq scope.names [] h]
 unfold closureFor
 simp only [bind_pure]
theorem clOf_lookup {cells:List (Str×Addr)} {x:Str} {c:Addr} (hc:cells.lookup x=some c):∀(names:List (Str×NameKind)) (acc:List (Str×Addr)),(acc.lookup x=some c∨(x,NameKind.free)∈names)→(clOf cells names acc).lookup x=some c
 | [],acc,h=>by
  rcases h with h | h
  ·exact h
  ·cases h
 | (n,k)::r,acc,h=>by
  unfold clOf
  by_cases hk:(k==NameKind.free)=true
  ·rw [if_pos hk]
   refine clOf_lookup hc r _ ?_
   by_cases e:x=n
   ·subst e
    left
    rw [List.lookup_cons,beq_self_eq_true,hc]
    rfl
   ·have e':(x==n)=false:=beq_eq_false_iff_ne.mpr e
    rcases h with h | h
    ·left
     rw [List.lookup_cons,e']
     exact h
    ·rcases List.mem_cons.mp h with h | h
     ·cases h;exact absurd rfl e
     ·exact .inr h
  ·rw [if_neg hk]
   refine clOf_lookup hc r _ (h.imp id fun h=>?_)
   rcases List.mem_cons.mp h with h | h
   ·cases h;exact absurd rfl hk
   ·exact h
theorem clOf_ok {cells:List (Str×Addr)} (cinj:∀x y c,cells.lookup x=some c→cells.lookup y=some c→x=y):∀(names:List (Str×NameKind)) (acc:List (Str×Addr)),(names.map (·.1)).Nodup→
  (∀n,(n,NameKind.free)∈names→∃c,cells.lookup n=some c)→(∀x c,(x,c)∈acc→cells.lookup x=some c∧x ∉ names.map (·.1))→acc.Pairwise (fun x y=>x.2≠y.2)→
  (clOf cells names acc).Pairwise (fun x y=>x.2≠y.2)∧∀x c,(x,c)∈clOf cells names acc→cells.lookup x=some c∧((x,c)∈acc∨(x,NameKind.free)∈names)
 | [],acc,_,_,h,hp=>⟨hp,fun x c hm=>⟨(h x c hm).1,.inl hm⟩⟩
 | (n,k)::r,acc,hnd,hex,h,hp=>by
  rw [List.map_cons,List.nodup_cons] at hnd
  unfold clOf
  by_cases hk:(k==NameKind.free)=true
  ·rw [if_pos hk]
   have hk':k=NameKind.free:=by simpa using hk
   subst hk'
   obtain ⟨c,hc⟩:=hex n List.mem_cons_self
   rw [hc]
   obtain ⟨p,q⟩:=clOf_ok cinj r ((n,c)::acc) hnd.2 (fun m hm=>hex m (List.mem_cons_of_mem _ hm)) (fun x c' hm=>by
    rcases List.mem_cons.mp hm with hm | hm
    ·cases hm;exact ⟨hc,hnd.1⟩
    ·exact ⟨(h x c' hm).1,fun z=>(h x c' hm).2 (List.mem_cons_of_mem _ z)⟩) (List.pairwise_cons.mpr ⟨fun y hy e=>by
     obtain ⟨y1,y2⟩:=y
     have e':c=y2:=e
     subst e'
     have:=cinj _ _ _ (h y1 c hy).1 hc
     exact (h y1 c hy).2 (by rw [this];exact List.mem_cons_self),hp⟩)
   refine ⟨p,fun x c' hm=>⟨(q x c' hm).1,?_⟩⟩
   rcases (q x c' hm).2 with z | z
   ·rcases List.mem_cons.mp z with z | z
    ·cases z;exact .inr List.mem_cons_self
    ·exact .inl z
   ·exact .inr (List.mem_cons_of_mem _ z)
  ·rw [if_neg hk]
   obtain ⟨p,q⟩:=clOf_ok cinj r acc hnd.2 (fun m hm=>hex m (List.mem_cons_of_mem _ hm)) (fun x c' hm=>⟨(h x c' hm).1,fun z=>(h x c' hm).2 (List.mem_cons_of_mem _ z)⟩) hp
   exact ⟨p,fun x c' hm=>⟨(q x c' hm).1,(q x c' hm).2.imp id fun z=>List.mem_cons_of_mem _ z⟩⟩
theorem pushCells_size:∀(names:List (Str×NameKind)) (h:Heap),h.objs.size≤(pushCells h names).objs.size
 | [],_=>Nat.le_refl _
 | (n,k)::r,h=>by
  unfold pushCells
  split
  ·exact Nat.le_trans (by rw [Heap.size_push];exact Nat.le_succ _) (pushCells_size r _)
  ·exact pushCells_size r h
theorem cellsFrom_all:∀(names:List (Str×NameKind)) (h:Heap) (acc:List (Str×Addr)),acc.Pairwise (fun x y=>x.2≠y.2)→(∀x c,(x,c)∈acc→c < h.objs.size)→
    (cellsFrom h.objs.size names acc).Pairwise (fun x y=>x.2≠y.2)∧∀x c,(x,c)∈cellsFrom h.objs.size names acc→(x,c)∈acc∨(h.objs.size≤c∧(pushCells h names).IsCell c none∧(x,NameKind.cell)∈names)
  | [],h,acc,hp,_=>⟨hp,fun x c hm=>.inl hm⟩
  | (n,k)::r,h,acc,hp,hl=>by
    unfold cellsFrom pushCells
    by_cases hk:(k==NameKind.cell)=true
    · rw [if_pos hk,if_pos hk]
      have hk':k=NameKind.cell:=by simpa using hk
      subst hk'
      have hsz:(h.push { cls:=.type "cell",data:=.cell none }).objs.size=h.objs.size+1:=Heap.size_push ..
      have:=cellsFrom_all r (h.push { cls:=.type "cell",data:=.cell none }) ((n,h.objs.size)::acc) (List.pairwise_cons.mpr ⟨fun y hy e=>by
          obtain ⟨y1,y2⟩:=y
          have e':h.objs.size=y2:=e
          exact absurd (hl y1 y2 hy) (e' ▸ Nat.lt_irrefl _),hp⟩) (fun x c hm=>by
          rw [hsz]
          rcases List.mem_cons.mp hm with hm | hm
          · cases hm;exact Nat.lt_succ_self _
          · exact Nat.lt_succ_of_lt (hl x c hm))
      rw [hsz] at this
      refine ⟨this.1,fun x c hm=>?_⟩
      rcases this.2 x c hm with z | ⟨z1,z2,z3⟩
      · rcases List.mem_cons.mp z with z | z
        · cases z
          exact .inr ⟨Nat.le_refl _,⟨_,pushCells_keeps _ _ _ _ (Heap.get?_push_size _ rfl),rfl⟩,List.mem_cons_self⟩
        · exact .inl z
      · exact .inr ⟨Nat.le_of_succ_le z1,z2,List.mem_cons_of_mem _ z3⟩
    · rw [if_neg hk,if_neg hk]
      obtain ⟨p,q⟩:=cellsFrom_all r h acc hp hl
      exact ⟨p,fun x c hm=>(q x c hm).imp id fun z=>⟨z.1,z.2.1,List.mem_cons_of_mem _ z.2.2⟩⟩
set_option tactic.hygienic true in
theorem cellsFrom_off {x:Str}:∀(names:List (Str×NameKind)) (n:Nat) (acc:List (Str×Addr)),(x,NameKind.cell) ∉ names→(cellsFrom n names acc).lookup x=acc.lookup x
 | [],_,_,_=>rfl
 | (m,k)::r,n,acc,h=>by
  unfold cellsFrom
  have ih:=fun n acc=>cellsFrom_off r n acc fun z=>h (List.mem_cons_of_mem _ z)
  split
  ·rename_i hk
   rw [ih,List.lookup_cons]
   have:(x==m)=false:=beq_eq_false_iff_ne.mpr fun e=>by
    have hk':k=NameKind.cell:=by simpa using hk
    exact h (by rw [e,hk'];exact List.mem_cons_self)
   rw [this]
  ·exact ih _ _
noncomputable def relS (scope fs:Scope):Scope:=
 { scope with names:=scope.names.map fun (n,k)=>if (k==.free&&fs.kind==.function&&fs.names.lookup n==some .cell) then (n,.cell) else (n,k) }
theorem relabel_eq {scope:Scope} {env:Env}:relabel scope env=relS scope env.scope:=rfl
theorem relS_lookup {fs:Scope}:∀(names:List (Str×NameKind)) (x:Str),(names.map fun (p:Str×NameKind)=>if (p.2==.free&&fs.kind==.function&&fs.names.lookup p.1==some .cell) then (p.1,NameKind.cell) else (p.1,p.2)).lookup x=
  (names.lookup x).map fun k=>if (k==.free&&fs.kind==.function&&fs.names.lookup x==some .cell) then .cell else k
 | [],_=>rfl
 | (n,k)::r,x=>by
  show List.lookup x ((if (k==NameKind.free&&fs.kind==.function&&fs.names.lookup n==some .cell)=true then (n,NameKind.cell) else (n,k))::_)=_
  by_cases e:x=n
  ·subst e
   rw [show List.lookup x ((x,k)::r)=some k by rw [List.lookup_cons,beq_self_eq_true]]
   by_cases h:(k==NameKind.free&&fs.kind==.function&&fs.names.lookup x==some .cell)=true
   ·rw [if_pos h,List.lookup_cons,beq_self_eq_true];simp only [Option.map_some];rw [if_pos h]
   ·rw [if_neg h,List.lookup_cons,beq_self_eq_true];simp only [Option.map_some];rw [if_neg h]
  ·have e':(x==n)=false:=beq_eq_false_iff_ne.mpr e
   rw [show List.lookup x ((n,k)::r)=List.lookup x r by rw [List.lookup_cons,e']]
   by_cases h:(k==NameKind.free&&fs.kind==.function&&fs.names.lookup n==some .cell)=true
   ·rw [if_pos h,List.lookup_cons,e'];exact relS_lookup r x
   ·rw [if_neg h,List.lookup_cons,e'];exact relS_lookup r x
theorem lookup_of_nodup {x:Str} {k:NameKind}:∀{names:List (Str×NameKind)},(names.map (·.1)).Nodup→(x,k)∈names→names.lookup x=some k
 | (n,j)::r,hn,h=>by
  rw [List.map_cons,List.nodup_cons] at hn
  rw [List.lookup_cons]
  rcases List.mem_cons.mp h with h | h
  ·cases h;rw [beq_self_eq_true]
  ·have:(x==n)=false:=beq_eq_false_iff_ne.mpr fun e=>hn.1 (by rw [←e];exact List.mem_map.mpr ⟨_,h,rfl⟩)
   rw [this]
   exact lookup_of_nodup hn.2 h
section
variable {M:Model} {A:Around} {E:Value→Shared→Prop} {s:Shared}
theorem wpAny_newEnvC {scope:Scope} {globals:Addr} {cl:List (Str×Addr)} {qual:Str} {env:Env} {Q:Env→Shared→Prop}
  (h:Q { scope:=scope,locals:=s.heap.objs.size,globals:=globals,cells:=cellsFrom (s.heap.objs.size+1) scope.names cl,qual:=qual,func:=none,code:=env.code,frame:=env.frame,builtins:=env.builtins }
   { s with heap:=pushCells (s.heap.push { cls:=.type "dict",data:=.dict #[] }) scope.names }):
  wpAny M A (newFunctionEnv scope globals cl [] qual none .none (some env)) Q E s:=by
 simp only [newFunctionEnv,Option.isSome_some,if_true]
 refine wpAny_bind (wpAny_alloc ?_)
 refine wpAny_bind (wpAny_layCells _ (fun name kind cells=>by cases hkc:kind==NameKind.cell<;>simp [hkc]) _ _ _ _ ?_)
 rw [show ({ s with heap:=s.heap.push { cls:=.type "dict",data:=.dict #[] } }:Shared).heap.objs.size=s.heap.objs.size+1 from Heap.size_push ..]
 exact wpAny_bind (wpAny_pure (wpAny_pure h))
end
section
variable {X:Cx} {F:FI} {d:Nat}
noncomputable def capF:List Nat→St→Option (List PV×St)
 | []=>pureE []
 | i::is=>bindE (getV i) fun p=>bindE (capF is) fun ps=>pureE (p::ps)
set_option tactic.hygienic true in
theorem getV_froz {i:Nat} {st st':St} {p:PV} (h:getV i st=some (p,st')):st'[i]? =some (Bind.froz p)∧∀(j:Nat) (q:PV),st[j]? =some (Bind.froz q)→st'[j]? =some (Bind.froz q):=by
 unfold getV at h
 split at h<;>cases h
 ·rename_i e
  exact ⟨e,fun _ _ h=>h⟩
 ·rename_i xs e
  have hlt:i < st.length:=(List.getElem?_eq_some_iff.mp e).1
  refine ⟨by rw [List.getElem?_set_self hlt],fun j q h=>?_⟩
  by_cases hj:i=j
  ·subst hj;rw [e] at h;cases h
  ·rw [List.getElem?_set_ne hj];exact h
set_option tactic.hygienic true in
theorem R.getV {Av Mu:Addr→Prop} {env:Env} {st st':St} {s:Shared} {i:Nat} {x:Str} {p:PV} (r:R X F Av Mu env st s) (hi:F.names[i]? =some x) (hf:getV i st=some (p,st')):
  ∃Av' Mu',R X F Av' Mu' env st' s∧StepE env Av Mu s Av' Mu' s:=by
 unfold Mine.getV at hf
 split at hf<;>cases hf
 ·exact ⟨Av,Mu,r,StepE.refl⟩
 ·rename_i xs e
  obtain ⟨Av',Mu',v,r',S,hv,q⟩:=r.freeze hi e
  exact ⟨Av',Mu',r',S,fun _ _ h=>h⟩
theorem R.cap {env:Env} {s:Shared}:∀{is:List Nat} {xs:List Str} {ps:List PV} {Av Mu:Addr→Prop} {st st':St},is.map (F.names[·]?)=xs.map some→capF is st=some (ps,st')→R X F Av Mu env st s→
  ∃Av' Mu',R X F Av' Mu' env st' s∧StepE env Av Mu s Av' Mu' s∧(∀(j:Nat) (q:PV),st[j]? =some (Bind.froz q)→st'[j]? =some (Bind.froz q))∧ps.length=xs.length∧∀(j:Nat) (x:Str),xs[j]? =some x→∃(p:PV) (i:Nat),ps[j]? =some p∧F.names[i]? =some x∧st'[i]? =some (Bind.froz p)
 | [],[],ps,Av,Mu,st,st',_,hf,r=>by
  cases hf
  exact ⟨Av,Mu,r,StepE.refl,fun _ _ h=>h,rfl,fun j x h=>by simp at h⟩
 | [],_::_,_,_,_,_,_,h,_,_=>by cases h
 | _::_,[],_,_,_,_,_,h,_,_=>by cases h
 | i::is,x::xs,ps,Av,Mu,st,st',h,hf,r=>by
  rw [List.map_cons,List.map_cons,List.cons.injEq] at h
  unfold capF at hf
  refine bindE_elim hf fun p st1 h1 hf1=>?_
  refine bindE_elim hf1 fun qs st2 h2 hf2=>?_
  cases hf2
  obtain ⟨Av1,Mu1,r1,S1⟩:=r.getV h.1 h1
  obtain ⟨Av2,Mu2,r2,S2,k2,l2,g2⟩:=R.cap h.2 h2 r1
  obtain ⟨f1,f2⟩:=getV_froz h1
  refine ⟨Av2,Mu2,r2,S1.trans S2 r.lt,fun j q e=>k2 j q (f2 j q e),by simp [l2],fun j y hy=>?_⟩
  cases j with
  | zero=>
   simp at hy
   subst hy
   exact ⟨p,i,rfl,h.1,k2 _ _ f1⟩
  | succ j=>
   simp only [List.getElem?_cons_succ] at hy ⊢
   exact g2 j y hy
structure CompOK (F:FI) (scope:Scope) (own caps:List Str):Prop where
 fn:scope.kind=.function
 nd:(scope.names.map (·.1)).Nodup
 hown:∀x∈own,scope.names.lookup x=some .local∨scope.names.lookup x=some .cell
 hcaps:∀x∈caps,scope.names.lookup x=some .free
 all:∀p∈scope.names,p.2=.free→p.1∈caps
 outer:∀x∈caps,F.scope.names.lookup x=some .cell∨F.scope.names.lookup x=some .free
 nd2:(own++caps).Nodup
noncomputable abbrev innerF (F:FI) (scope:Scope) (own caps:List Str):FI:=⟨relS scope F.scope,own++caps,caps,F.cd,F.ql⟩
theorem innerF_wr {scope:Scope} {own caps:List Str} (ok:CompOK F scope own caps) {x:Str} (hx:x∈own):(innerF F scope own caps).Wr x:=by
 refine ⟨fun h=>(List.nodup_append.mp ok.nd2).2.2 x hx x h rfl,?_⟩
 show (relS scope F.scope).names.lookup x=_∨(relS scope F.scope).names.lookup x=_
 have e:(relS scope F.scope).names.lookup x=_:=relS_lookup (fs:=F.scope) scope.names x
 rw [e]
 rcases ok.hown x hx with h | h
 ·left;rw [h];rfl
 ·right;rw [h];rfl
theorem capCells {scope:Scope} {own caps:List Str} (ok:CompOK F scope own caps) {env:Env} {h:Heap} (sc:env.scope=F.scope) (hcap:∀(j:Nat) (x:Str),caps[j]? =some x→∃v,ValAt h env x v):∀n,(n,NameKind.free)∈scope.names→∃c,env.cells.lookup n=some c:=fun n hn=>by
 have hm:=ok.all _ hn rfl
 obtain ⟨j,hj⟩:=List.mem_iff_getElem?.mp hm
 obtain ⟨v,hv⟩:=hcap j n hj
 unfold ValAt at hv
 have hkd:env.kindOf n=F.scope.names.lookup n:=by show env.scope.names.lookup n=_;rw [sc]
 rcases ok.outer n hm with e | e
 ·rw [←hkd] at e
  simp only [e] at hv
  obtain ⟨c,hc,_⟩:=hv
  exact ⟨c,hc⟩
 ·rw [←hkd] at e
  simp only [e] at hv
  obtain ⟨c,hc,_⟩:=hv
  exact ⟨c,hc⟩
set_option tactic.hygienic true in
theorem R.inner {scope:Scope} {own caps:List Str} (ok:CompOK F scope own caps) {Av Mu:Addr→Prop} {env:Env} {st:St} {s₁ s₂:Shared} {ps:List PV} (r:R X F Av Mu env st s₁)
    (hps:ps.length=caps.length) (hcap:∀(j:Nat) (x:Str),caps[j]? =some x→∃(p:PV) (v:Value),ps[j]? =some p∧ValAt s₁.heap env x v∧VR s₁.heap Av v p)
    (hk:∀a o,s₁.heap.get? a=some o→s₂.heap.get? a=some o) (hs:s₁.heap.objs.size≤s₂.heap.objs.size) (ho:s₂.os=s₁.os) (hg:s₂.gens=s₁.gens):
    (∀n,(n,NameKind.free)∈scope.names→∃c,env.cells.lookup n=some c)∧∀tk dr,∃Av' Mu':Addr→Prop,
      R X (innerF F scope own caps) Av' Mu' (compEnvC scope (cellsFrom (s₂.heap.objs.size+1) scope.names (clOf env.cells scope.names [])) s₂.heap.objs.size env) (own.map (fun _=>.none)++ps.map .froz)
        ⟨pushCells (s₂.heap.push { cls:=.type "dict",data:=.dict #[] }) scope.names,s₂.gens,dr,tk,s₂.os⟩∧
      Step Av X.Tb s₁ Av' Mu' ⟨pushCells (s₂.heap.push { cls:=.type "dict",data:=.dict #[] }) scope.names,s₂.gens,dr,tk,s₂.os⟩∧
      (∀a,s₁.heap.objs.size≤a→a < s₂.heap.objs.size→Av' a∧¬ Mu' a):=by
  have hval:∀(j:Nat) (x:Str),caps[j]? =some x→∃p v c,ps[j]? =some p∧env.cells.lookup x=some c∧s₁.heap.IsCell c (some v)∧VR s₁.heap Av v p:=fun j x hx=>by
    obtain ⟨p,v,h1,hv,q⟩:=hcap j x hx
    unfold ValAt at hv
    have hkd:env.kindOf x=F.scope.names.lookup x:=by show env.scope.names.lookup x=_;rw [r.sc]
    rcases ok.outer x (List.mem_of_getElem? hx) with e | e
    · rw [←hkd] at e
      simp only [e] at hv
      obtain ⟨c,hc,hcell⟩:=hv
      exact ⟨p,v,c,h1,hc,hcell,q⟩
    · rw [←hkd] at e
      simp only [e] at hv
      obtain ⟨c,hc,hcell⟩:=hv
      exact ⟨p,v,c,h1,hc,hcell,q⟩
  have hex:∀n,(n,NameKind.free)∈scope.names→∃c,env.cells.lookup n=some c:=fun n hn=>by
    have hm:=ok.all _ hn rfl
    obtain ⟨j,hj⟩:=List.mem_iff_getElem?.mp hm
    obtain ⟨p,v,c,_,hc,_⟩:=hval j n hj
    exact ⟨c,hc⟩
  refine ⟨hex,fun tk dr=>?_⟩
  generalize hH1:s₂.heap.push { cls:=.type "dict",data:=.dict #[] }=H1
  have hz1:H1.objs.size=s₂.heap.objs.size+1:=by rw [←hH1];exact Heap.size_push ..
  have k1:∀a o,s₂.heap.get? a=some o→H1.get? a=some o:=fun a o e=>hH1 ▸ Heap.get?_push_of_some _ e
  generalize hH2:pushCells H1 scope.names=H2
  have k2:∀a o,H1.get? a=some o→H2.get? a=some o:=fun a o e=>hH2 ▸ pushCells_keeps _ _ a o e
  have hz2:H1.objs.size≤H2.objs.size:=hH2 ▸ pushCells_size _ _
  have kk:∀a o,s₁.heap.get? a=some o→H2.get? a=some o:=fun a o e=>k2 a o (k1 a o (hk a o e))
  obtain ⟨clP,clM⟩:=clOf_ok r.cinj scope.names [] ok.nd hex (fun x c hm=>by cases hm) List.Pairwise.nil
  have clLt:∀x c,(x,c)∈clOf env.cells scope.names []→c < s₁.heap.objs.size:=fun x c hm=>by
    obtain ⟨e,h⟩:=clM x c hm
    rcases h with h | h
    · cases h
    · obtain ⟨j,hj⟩:=List.mem_iff_getElem?.mp (ok.all _ h rfl)
      obtain ⟨p,v,c',_,hc,hcell,_⟩:=hval j x hj
      rw [e] at hc;cases hc
      exact hcell.lt
  have hcs:=cellsFrom_all scope.names H1 (clOf env.cells scope.names []) clP (fun x c hm=>Nat.lt_of_lt_of_le (clLt x c hm) (by lia))
  rw [hz1,hH2] at hcs
  generalize hcells:cellsFrom (s₂.heap.objs.size+1) scope.names (clOf env.cells scope.names [])=cs at hcs
  obtain ⟨csP,csM⟩:=hcs
  have hcapl:∀(x:Str) (c:Addr),x∈caps→env.cells.lookup x=some c→cs.lookup x=some c:=fun x c hx hc=>by
    have hf:(x,NameKind.free)∈scope.names:=mem_of_lookup (ok.hcaps x hx)
    rw [←hcells,cellsFrom_off _ _ _ fun q=>?_]
    · exact clOf_lookup hc _ _ (.inr hf)
    · have:=lookup_of_nodup ok.nd q
      rw [ok.hcaps x hx] at this
      cases this
  have hkd:∀x,(compEnvC scope cs s₂.heap.objs.size env).kindOf x=(scope.names.lookup x).map fun k=>if (k==.free&&F.scope.kind==.function&&F.scope.names.lookup x==some .cell) then .cell else k:=fun x=>by
    show (relabel scope env).names.lookup x=_
    rw [relabel_eq,r.sc]
    exact relS_lookup (fs:=F.scope) scope.names x
  have hTlt:∀a,X.Tb a→a < s₁.heap.objs.size:=fun a t=>r.lt a (r.ma a (r.tabs a t).1)
  refine ⟨fun a=>Av a∨(s₁.heap.objs.size≤a∧a < H2.objs.size),fun a=>X.Tb a∨(s₂.heap.objs.size≤a∧a < H2.objs.size),?_,?_,fun a h1 h2=>⟨.inr ⟨h1,Nat.lt_of_lt_of_le h2 (by lia)⟩,fun q=>?_⟩⟩
  · have hLlt:s₂.heap.objs.size < H2.objs.size:=by lia
    have hD:H2.Ns s₂.heap.objs.size (fun _=>none):=(Heap.Ns.new s₂.heap (.type "dict")).keeps fun b o e=>k2 b o (hH1 ▸ e)
    refine ⟨by show relabel scope env=_;rw [relabel_eq,r.sc],by show (relS scope F.scope).kind=_;exact ok.fn,r.gl,r.bl,r.cd,r.ql,fun b o e=>⟨kk b o (r.base b o e).1,fun q=>?_⟩,fun a t=>⟨.inl t,?_⟩,fun a q=>?_,fun a q=>?_,⟨_,hD⟩,.inr ⟨Nat.le_refl _,hLlt⟩,ok.nd2,?_,
      fun x y c hx hy=>name_of_addr csP (mem_of_lookup hx) (mem_of_lookup hy),fun x hx hro=>?_,fun i x b hi hb=>?_,fun i j x y xs ys a hi hj hx=>?_⟩
    · rcases q with q | q
      · exact (r.base b o e).2 q
      · exact absurd (Heap.lt_size (r.base b o e).1) (Nat.not_lt.mpr q.1)
    · exact (r.tabs a t).2.mono (fun o e=>kk _ _ e) fun b o e n _=>⟨kk _ _ e,fun q=>q.elim n fun z=>absurd (Heap.lt_size e) (Nat.not_lt.mpr z.1)⟩
    · rcases q with q | q
      · exact .inl (r.ma a (r.tabs a q).1)
      · exact .inr ⟨Nat.le_trans hs q.1,q.2⟩
    · rcases q with q | q
      · exact Nat.lt_of_lt_of_le (r.lt a q) (by show s₁.heap.objs.size≤H2.objs.size;lia)
      · exact q.2
    · rw [List.length_append,List.length_map,List.length_map,hps]
      show _=(own++caps).length
      rw [List.length_append]
    · have hxo:x∈own:=by
        rcases List.mem_append.mp (show x∈own++caps from hx) with h | h
        · exact h
        · exact absurd h hro
      unfold SlotOK
      rw [hkd]
      rcases ok.hown x hxo with e | e
      · rw [e];exact trivial
      · rw [e]
        show ∃c v,cs.lookup x=some c∧H2.IsCell c v∧_
        obtain ⟨c,hc⟩:=Option.isSome_iff_exists.mp (show (cs.lookup x).isSome=true by rw [←hcells];exact cellsFrom_some _ _ _ (.inl e))
        rcases csM x c (mem_of_lookup hc) with h | ⟨h1,h2,h3⟩
        · obtain ⟨_,h⟩:=clM x c h
          rcases h with h | h
          · cases h
          · have:=lookup_of_nodup ok.nd h
            rw [e] at this;cases this
        · exact ⟨c,none,hc,h2,.inr ⟨by lia,h2.lt⟩⟩
    · by_cases hio:i < own.length
      · rw [List.getElem?_append_left (by rw [List.length_map];exact hio),List.getElem?_map] at hb
        obtain ⟨_,_,rfl⟩:=Option.map_eq_some_iff.mp hb
        trivial
      · rw [List.getElem?_append_right (by rw [List.length_map];lia),List.length_map,List.getElem?_map] at hb
        have hx:caps[i - own.length]? =some x:=by
          have:(own++caps)[i]? =some x:=hi
          rwa [List.getElem?_append_right (by lia)] at this
        obtain ⟨p,v,c,h1,hc,hcell,q⟩:=hval _ x hx
        rw [h1] at hb
        cases hb
        have hxm:=List.mem_of_getElem? hx
        refine ⟨v,?_,q.mono (fun a o e _=>kk a o e) (fun a l n m=>m.elim n fun z=>absurd l (Nat.not_lt.mpr z.1)) (by show s₁.heap.objs.size≤H2.objs.size;lia)⟩
        unfold ValAt
        rw [hkd,ok.hcaps x hxm]
        simp only [Option.map_some]
        have hl:=hcapl x c hxm hc
        have hcl:H2.IsCell c (some v):=hcell.keeps kk
        split<;>rename_i e
        · split at e<;>cases e
        · exact ⟨c,hl,hcl⟩
        · exact ⟨c,hl,hcl⟩
        · rename_i n1 n2 n3
          split at n2<;>simp_all
    · by_cases hio:i < own.length
      · rw [List.getElem?_append_left (by rw [List.length_map];exact hio),List.getElem?_map] at hx
        obtain ⟨_,_,q⟩:=Option.map_eq_some_iff.mp hx
        cases q
      · rw [List.getElem?_append_right (by rw [List.length_map];lia),List.length_map,List.getElem?_map] at hx
        obtain ⟨_,_,q⟩:=Option.map_eq_some_iff.mp hx
        cases q
  · exact ⟨fun a o e _=>kk a o e,fun a q=>q.imp id fun z=>Nat.le_trans hs z.1,fun a q=>q.imp id fun z=>z.1,fun a q _=>.inl q,by show s₁.heap.objs.size≤H2.objs.size;lia,ho,fun h=>by show AllBare s₂.gens;rw [hg];exact h⟩
  · rcases q with q | q
    · exact absurd (hTlt a q) (Nat.not_lt.mpr h1)
    · exact absurd h2 (Nat.not_lt.mpr q.1)
end
theorem IterAt.self {prog:Program} {w:World} {A:Around} {E:Value→Shared→Prop} {s:Shared} {Av:Addr→Prop} {I:Addr} {xs:List PV} {i:Nat} {Q:Value→Shared→Prop} (W:IterAt s.heap Av I xs i) (k:Q (.ref I) s):wpAny (model prog w) A (pyIter (.ref I)) Q E s:=by
 cases W with
 | list a b c d=>exact wpAny_pyIter_listiter a k
 | range a=>exact wpAny_pyIter_rangeiter a k
 | stra a=>exact wpAny_pyIter_striter_ascii a k
 | strw a=>exact wpAny_pyIter_striter_wide a k
section
variable {X:Cx} {F:FI} {d:Nat}
noncomputable def compV (nown:Nat) (i:Nat) (t:EvB) (e:EvE) (xs ps:List PV):Option PV:=if xs.length≤16777216 then (match compF i t e xs (List.replicate nown .none++ps.map .froz) with
 | some (as,_)=>some (.list as)
 | none=>none) else none
structure SrcW (prog:Program) (w:World) (W:Heap→(Addr→Prop)→Addr→Addr→Addr→Prop):Prop where
 mono:∀{h h':Heap} {Av Av':Addr→Prop} {I lo hi:Addr},W h Av I lo hi→(∀a o,h.get? a=some o→h'.get? a=some o)→(∀a,a < h.objs.size→¬ Av a→¬ Av' a)→h.objs.size≤h'.objs.size→W h' Av' I lo hi
 self:∀{A:Around} {E:Value→Shared→Prop} {s:Shared} {Av:Addr→Prop} {I lo hi:Addr} {Q:Value→Shared→Prop},W s.heap Av I lo hi→Q (.ref I) s→wpAny (model prog w) A (pyIter (.ref I)) Q E s
noncomputable def LoopW (X:Cx) (F:FI) (d:Nat) (e:Expr) (W:Heap→(Addr→Prop)→Addr→Addr→Addr→Prop) (st0:St) (as:List PV) (st4:St):Prop:=
 ∀{A:Around} {Av₀ Mu₀ Av Mu:Addr→Prop} {s₀ s:Shared} {env:Env} {I D lo hi:Addr} {K:Result→Shared→Prop},Room d A→s₀.heap.objs.size≤lo→s₀.heap.objs.size≤D→(∀a,Av₀ a→a < s₀.heap.objs.size)→
  (∀s' Av' Mu',R X F Av' Mu' env st4 s'→Step Av₀ Mu₀ s₀ Av' Mu' s'→Av' D→¬ Mu' D→(∃us n,s'.heap.get? D=some (listObj us n)∧VRs s'.heap Av' us as)→K (.ok .next) s')→
  R X F Av Mu env st0 s→Step Av₀ Mu₀ s₀ Av Mu s→W s.heap Av I lo hi→(∀b,lo≤b→b < hi→Av b∧¬ Mu b)→hi≤D→Av D→¬ Mu D→s.heap.get? D=some (listObj [] 0)→1≤s.toks→
  codeAny (model X.prog X.w) A (.compLoop e 0 (.ref I) (.ref D) env) K s
theorem wp_compG {target iter elt:Expr} {ifs:List Expr} {gs:List Comprehension} {scope:Scope} {pos:Pos} {own caps:List Str} {is:List Nat} {W:Heap→(Addr→Prop)→Addr→Addr→Addr→Prop} (ok:CompOK F scope own caps) (hidx:is.map (F.names[·]?)=caps.map some)
    (hW:SrcW X.prog X.w W) (hs:∀env x,foldedSetIterable iter env x=pure x)
    {A:Around} {Av Mu:Addr→Prop} {env:Env} {st st1 st2 st4:St} {s:Shared} {ps as:List PV} {use:Option (Value→Sem Unit)} {Q:Value→Shared→Prop} {E:Value→Shared→Prop}
    (hA:Room d A) (h3:capF is st=some (ps,st1))
    (hsrc:∀{Av Mu:Addr→Prop} {s:Shared} {Q:Value→Shared→Prop} {E:Value→Shared→Prop},R X F Av Mu env st1 s→1≤s.toks→
      (∀s1 s2 I Av2 Mu2,R X F Av2 Mu2 env st2 s1→StepE env Av Mu s Av2 Mu2 s1→(∀a o,s1.heap.get? a=some o→s2.heap.get? a=some o)→s1.heap.objs.size≤s2.heap.objs.size→s2.os=s1.os→s2.gens=s1.gens→1≤s2.toks→
        W s2.heap (fun a=>Av2 a∨s1.heap.objs.size≤a) I s1.heap.objs.size s2.heap.objs.size→Q (.ref I) s2)→wpAny (model X.prog X.w) A (eval iter env) (fun x s₁=>wpAny (model X.prog X.w) A (pyIter x) Q E s₁) E s)
    (hloop:LoopW X (innerF F scope own caps) d (.ListComp elt (⟨target,iter,ifs,0⟩::gs) scope pos) W (List.replicate own.length .none++ps.map .froz) as st4)
    (R₀:R X F Av Mu env st s) (tk:1≤s.toks)
    (k:∀s1 s' Av' Mu' D C,R X F Av' Mu' env st2 s1→StepE env Av Mu s Av' Mu' s1→Post X Av' s1 (.ref D) (.list as) s'→s1.heap.objs.size≤C→(∃m,s'.heap.Ns C m)→
      (∀h',Heap.SameBut C s'.heap h'→VR h' (fun a=>Av' a∨a=C) (.ref D) (.list as))→compPost (model X.prog X.w) A E use Q (.ref D) C (.ok .next) s'):
    wpAny (model X.prog X.w) A (comprehension (.ListComp elt (⟨target,iter,ifs,0⟩::gs) scope pos) scope env (firstIterPos (⟨target,iter,ifs,0⟩::gs) pos) (newList []) false (firstIter (⟨target,iter,ifs,0⟩::gs) env) use) Q E s:=by
  have hnames:∀y∈scope.names,y.2=.local→scope.names.lookup y.1=some .local:=fun y hy hl=>lookup_of_nodup ok.nd (by rw [←hl];exact hy)
  obtain ⟨Av1,Mu1,R1,S1,_,hlen,hcap⟩:=R.cap hidx h3 R₀
  have hcv:∀(j:Nat) (x:Str),caps[j]? =some x→∃(p:PV) (v:Value),ps[j]? =some p∧ValAt s.heap env x v∧VR s.heap Av1 v p:=fun j x hx=>by
    obtain ⟨p,i,h1,h2,h3⟩:=hcap j x hx
    obtain ⟨v,hv,q⟩:=R1.vars i x _ h2 h3
    exact ⟨p,v,h1,hv,q⟩
  have hcl:closureFor scope env=pure (clOf env.cells scope.names []):=closure_eq (capCells ok R₀.sc fun j x hx=>let ⟨p,v,_,h,_⟩:=hcv j x hx;⟨v,h⟩)
  refine wpAny_comprehension_free (g:=⟨target,iter,ifs,0⟩) (gs:=gs) rfl (hs env) hcl ok.fn hnames ?_
  show wpAny _ _ (eval iter env) _ _ _
  refine hsrc R1 tk fun s1 sa I Av2 Mu2 R2 S2 ka za oa ga tka Wa=>?_
  refine wpAny_newObj_type (wpAny_newEnvC ?_) (by show (0:Nat)≤sizeLine;exact Nat.zero_le _)
  generalize hs2:({ sa with heap:=sa.heap.push (listObj [] 0) }:Shared)=s2
  have hsz:s2.heap.objs.size=sa.heap.objs.size+1:=by
    rw [←hs2]
    show (sa.heap.push (listObj [] 0)).objs.size=_
    rw [Heap.size_push]
  have hka:∀a o',sa.heap.get? a=some o'→s2.heap.get? a=some o':=fun a o' e=>by rw [←hs2];exact Heap.get?_push_of_some _ e
  have hk2:∀a o',s1.heap.get? a=some o'→s2.heap.get? a=some o':=fun a o' e=>hka _ _ (ka _ _ e)
  have htk2:1≤s2.toks:=by rw [←hs2];exact tka
  obtain ⟨hex,fin⟩:=R2.inner ok (s₂:=s2) (ps:=ps) hlen (fun j x hx=>by
    obtain ⟨p,v,h1,h2,h3⟩:=hcv j x hx
    exact ⟨p,v,h1,S2.vals _ _ h2,h3.step S2.toStep R1.ma⟩) hk2 (by lia) (by rw [←hs2];exact oa) (by rw [←hs2];exact ga)
  obtain ⟨Av3,Mu3,R3,S3,hIn⟩:=fin s2.toks s2.drawn
  have hgD:s2.heap.get? sa.heap.objs.size=some (listObj [] 0):=by rw [←hs2];exact Heap.get?_push_size _ rfl
  have hkp:∀a o',s2.heap.get? a=some o'→(pushCells (s2.heap.push { cls:=.type "dict",data:=.dict #[] }) scope.names).get? a=some o':=fun a o' e=>pushCells_keeps _ _ a _ (Heap.get?_push_of_some _ e)
  have hsz3:s2.heap.objs.size≤(pushCells (s2.heap.push { cls:=.type "dict",data:=.dict #[] }) scope.names).objs.size:=Nat.le_trans (by rw [Heap.size_push];exact Nat.le_succ _) (pushCells_size _ _)
  have W3:W (pushCells (s2.heap.push { cls:=.type "dict",data:=.dict #[] }) scope.names) Av3 I s1.heap.objs.size sa.heap.objs.size:=by
    refine hW.mono Wa (fun a o e=>hkp _ _ (hka _ _ e)) (fun a l n q=>?_) (by lia)
    rcases S3.av a q with h | h
    · exact n (.inl h)
    · exact n (.inr h)
  have hst:own.map (fun _=>Bind.none)=List.replicate own.length Bind.none:=by rw [List.map_const']
  rw [hst] at R3
  have loop:∀K:Result→Shared→Prop,(∀s' Av' Mu',R X (innerF F scope own caps) Av' Mu' (compEnvC scope (cellsFrom (s2.heap.objs.size+1) scope.names (clOf env.cells scope.names [])) s2.heap.objs.size env) st4 s'→Step Av2 X.Tb s1 Av' Mu' s'→Av' sa.heap.objs.size→¬ Mu' sa.heap.objs.size→
      (∃us n,s'.heap.get? sa.heap.objs.size=some (listObj us n)∧VRs s'.heap Av' us as)→K (.ok .next) s')→
      codeAny (model X.prog X.w) A (.compLoop (.ListComp elt (⟨target,iter,ifs,0⟩::gs) scope pos) 0 (.ref I) (.ref sa.heap.objs.size) (compEnvC scope (cellsFrom (s2.heap.objs.size+1) scope.names (clOf env.cells scope.names [])) s2.heap.objs.size env)) K
        ⟨pushCells (s2.heap.push { cls:=.type "dict",data:=.dict #[] }) scope.names,s2.gens,s2.drawn,s2.toks,s2.os⟩:=fun K hK=>
    hloop hA (Nat.le_refl _) za R2.lt hK R3 S3 W3 (fun b h1 h2=>hIn b h1 (Nat.lt_of_lt_of_le h2 (by rw [hsz];exact Nat.le_succ _))) (Nat.le_refl _) (hIn _ za (by rw [hsz];exact Nat.lt_succ_self _)).1 (hIn _ za (by rw [hsz];exact Nat.lt_succ_self _)).2 (hkp _ _ hgD) htk2
  have hK:∀s' Av' Mu',R X (innerF F scope own caps) Av' Mu' (compEnvC scope (cellsFrom (s2.heap.objs.size+1) scope.names (clOf env.cells scope.names [])) s2.heap.objs.size env) st4 s'→Step Av2 X.Tb s1 Av' Mu' s'→Av' sa.heap.objs.size→¬ Mu' sa.heap.objs.size→
      (∃us n,s'.heap.get? sa.heap.objs.size=some (listObj us n)∧VRs s'.heap Av' us as)→compPost (model X.prog X.w) A E use Q (.ref sa.heap.objs.size) s2.heap.objs.size (.ok .next) s':=by
    intro s' Av' Mu' R' S' aD mD hls
    obtain ⟨us,n,g,z⟩:=hls
    have nDAv:¬ Av2 sa.heap.objs.size:=fun q=>absurd (R2.lt _ q) (Nat.not_lt.mpr za)
    have back:∀a,¬ Av' a→¬ Av2 a:=fun a n q=>by
      by_cases t:X.Tb a
      · exact n (R'.ma a (R'.tabs a t).1)
      · exact n (S'.av' a q t)
    have hV:∀h',(∀a o,s'.heap.get? a=some o→(¬ Av' a∨a=sa.heap.objs.size)→h'.get? a=some o)→s'.heap.objs.size≤h'.objs.size→VR h' (fun a=>Av2 a∨a=s2.heap.objs.size) (.ref sa.heap.objs.size) (.list as):=fun h' hk hz=>by
      unfold VR
      refine ⟨_,us,n,rfl,?_,fun q=>q.elim nDAv fun q=>?_,z.mono (fun a o e q=>hk a o e (.inl q)) (fun a _ q w=>w.elim (back a q) fun w=>q (w ▸ R'.ma _ R'.nsMu)) hz⟩
      · exact hk _ _ g (.inr rfl)
      · rw [hsz] at q;exact absurd q (Nat.ne_of_lt (Nat.lt_succ_self _))
    refine k s1 s' Av2 Mu2 _ _ R2 ⟨S1.toStep.trans S2.toStep R₀.lt,fun y v h=>S2.vals y v (S1.vals y v h)⟩ ⟨fun a o e t=>S'.keep a o e t,fun a t=>(R'.tabs a t).2.mono (fun _ e=>e) fun b _ e n _=>⟨e,back b n⟩,S'.size,S'.os,S'.gens,?_⟩ (by lia) R'.ns fun h' hb=>?_
    · exact (hV _ (fun a o e _=>e) (Nat.le_refl _)).mono (fun _ _ e _=>e) (fun _ _ n q=>n (.inl q)) (Nat.le_refl _)
    · refine hV _ (fun a o' e q=>(hb.2 a fun w=>?_).trans e) (Nat.le_of_eq hb.1.symm)
      rcases q with q | q
      · exact q (w ▸ R'.ma _ R'.nsMu)
      · rw [w,hsz] at q
        exact absurd q (Nat.ne_of_gt (Nat.lt_succ_self _))
  exact codeAny_compStart_list (loop _ hK) (hW.self W3 (loop _ hK))
noncomputable def OneW (xs:List PV) (h:Heap) (Av:Addr→Prop) (I lo hi:Addr):Prop:=lo≤I∧I < hi∧IterAt h Av I xs 0
theorem src_one (xs:List PV):SrcW X.prog X.w (OneW xs):=
 ⟨fun x hk ha hs=>⟨x.1,x.2.1,x.2.2.mono (fun _ e=>hk _ _ e) (fun _ _ e _=>hk _ _ e) ha hs⟩,fun x q=>x.2.2.self q⟩
theorem one_wp {iter:Expr} {f:EvE} (hf:SoundE X F d iter f) {A:Around} {env:Env} {a:PV} {xs:List PV} {st1 st2:St} {Av Mu:Addr→Prop} {s:Shared} {Q:Value→Shared→Prop} {E:Value→Shared→Prop} (hA:Room d A) (h1:f st1=some (a,st2)) (h3:itemsOf a=some xs) (r:R X F Av Mu env st1 s) (tk:1≤s.toks)
    (k:∀s1 s2 I Av2 Mu2,R X F Av2 Mu2 env st2 s1→StepE env Av Mu s Av2 Mu2 s1→(∀a o,s1.heap.get? a=some o→s2.heap.get? a=some o)→s1.heap.objs.size≤s2.heap.objs.size→s2.os=s1.os→s2.gens=s1.gens→1≤s2.toks→
        OneW xs s2.heap (fun a=>Av2 a∨s1.heap.objs.size≤a) I s1.heap.objs.size s2.heap.objs.size→Q (.ref I) s2):wpAny (model X.prog X.w) A (eval iter env) (fun x s₁=>wpAny (model X.prog X.w) A (pyIter x) Q E s₁) E s:=by
  refine hf _ hA h1 r tk fun va s1 Av2 Mu2 R2 S2 V2 tk1=>wp_iter h3 R2.lt V2 fun o W=>?_
  have hz:(s1.heap.push o).objs.size=s1.heap.objs.size+1:=Heap.size_push ..
  refine k s1 _ _ Av2 Mu2 R2 S2 (fun a o' e=>Heap.get?_push_of_some _ e) (hz ▸ Nat.le_succ _) rfl rfl tk1 ⟨Nat.le_refl _,hz ▸ Nat.lt_succ_self _,W.mono (fun _ e=>e) (fun _ _ e _=>e) (fun a l n q=>?_) (Nat.le_refl _)⟩
  rw [hz] at l
  exact q.elim (fun q=>n (.inl q)) fun q=>n (.inr (Nat.le_antisymm (Nat.le_of_lt_succ l) q))
set_option tactic.hygienic true in
theorem wp_comp {x:Str} {px:Pos} {elt iter:Expr} {ifs:List Expr} {scope:Scope} {pos:Pos} {own caps:List Str} {is:List Nat} {t:EvB} {e f:EvE} {i:Nat} (ok:CompOK F scope own caps) (hidx:is.map (F.names[·]?)=caps.map some)
  (hf:SoundE X F d iter f) (ht:SoundIfs X (innerF F scope own caps) d ifs t) (he:SoundE X (innerF F scope own caps) d elt e) (hi:own[i]? =some x)
  (hs:∀env x,foldedSetIterable iter env x=pure x)
  {A:Around} {Av Mu:Addr→Prop} {env:Env} {st st1 st2:St} {s:Shared} {a:PV} {xs ps:List PV} {r:PV} {use:Option (Value→Sem Unit)} {Q:Value→Shared→Prop} {E:Value→Shared→Prop}
  (hA:Room d A) (h3:capF is st=some (ps,st1)) (h1:f st1=some (a,st2)) (h2:itemsOf a=some xs) (h4:compV own.length i t e xs ps=some r) (R₀:R X F Av Mu env st s) (tk:1≤s.toks)
  (k:∀s1 s' Av' Mu' D C,R X F Av' Mu' env st2 s1→StepE env Av Mu s Av' Mu' s1→Post X Av' s1 (.ref D) r s'→s1.heap.objs.size≤C→(∃m,s'.heap.Ns C m)→
   (∀h',Heap.SameBut C s'.heap h'→VR h' (fun a=>Av' a∨a=C) (.ref D) r)→compPost (model X.prog X.w) A E use Q (.ref D) C (.ok .next) s'):
  wpAny (model X.prog X.w) A (comprehension (.ListComp elt [⟨.Name x px,iter,ifs,0⟩] scope pos) scope env (firstIterPos [⟨.Name x px,iter,ifs,0⟩] pos) (newList []) false (firstIter [⟨.Name x px,iter,ifs,0⟩] env) use) Q E s:=by
 unfold compV at h4
 split at h4
 case isFalse=>cases h4
 rename_i hxl
 split at h4<;>cases h4
 rename_i as st4 h5
 have hi':(innerF F scope own caps).names[i]? =some x:=(List.getElem?_append_left (List.getElem?_eq_some_iff.mp hi).1).trans hi
 refine wp_compG (W:=OneW xs) (st4:=st4) ok hidx (src_one xs) hs hA h3 (fun r tk k=>one_wp hf hA h1 h2 r tk k) ?_ R₀ tk k
 intro A Av₀ Mu₀ Av Mu s₀ s env I D lo hi K hA h0 h1 lt₀ k r S w zone hD aD mD gD tk
 obtain ⟨w1,w2,w3⟩:=w
 exact code_comp ht he hi' (innerF_wr ok (List.mem_of_getElem? ‹own[i]? =some x›)) hA (Nat.le_trans h0 w1) h1 lt₀ (Nat.le_trans (compF_len xs h5) hxl) k h5 r S ⟨fun a h=>h ▸ ⟨(zone _ w1 w2).1,(zone _ w1 w2).2,Nat.ne_of_lt (Nat.lt_of_lt_of_le w2 hD)⟩,aD,mD,w3,[],0,gD,VRs.nil⟩ tk
noncomputable def compE (is:List Nat) (f:EvE) (v:List PV→List PV→Option PV):EvE:=bindE (capF is) fun ps=>bindE f fun a=>bindE (liftE (itemsOf a)) fun xs=>liftE (v xs ps)
theorem s_comp {x:Str} {px:Pos} {elt iter:Expr} {ifs:List Expr} {scope:Scope} {pos:Pos} {own caps:List Str} {is:List Nat} {t:EvB} {e f:EvE} {i:Nat} (ok:CompOK F scope own caps) (hidx:is.map (F.names[·]?)=caps.map some)
  (hi:own[i]? =some x) (hf:SoundE X F d iter f) (ht:SoundIfs X (innerF F scope own caps) d ifs t) (he:SoundE X (innerF F scope own caps) d elt e)
  (hs:autoParam (∀env x,foldedSetIterable iter env x=pure x) Mine.au1._auto_1):
  SoundE X F d (.ListComp elt [⟨.Name x px,iter,ifs,0⟩] scope pos) (compE is f (compV own.length i t e)):=by
 refine @SoundT.intro _ _ _ _ _ _ _ _ ?_
 intro A Av Mu env st st' s v Q E hA hf' R₀ tk k
 refine bindE_elim hf' fun ps st1 h1 hf1=>?_
 refine bindE_elim hf1 fun a st2 h2 hf2=>?_
 refine bindE_elim hf2 fun xs st3 h3 hf3=>?_
 obtain ⟨h4,e4⟩:=liftE_some h3
 subst e4
 obtain ⟨h5,e5⟩:=liftE_some hf3
 subst e5
 rw [eval_ListComp]
 refine wp_comp ok hidx hf ht he hi hs (use:=none) hA h1 h2 h4 h5 R₀ tk fun s1 s' Av' Mu' D C R1 S1 P hC hN hV=>?_
 obtain ⟨m,hN⟩:=hN
 refine ⟨m,hN,fun h' hb=>?_⟩
 have P':Post X Av' s1 (.ref D) v { s' with heap:=h' }:=by
  refine ⟨fun a o e t=>(hb.2 a fun z=>absurd (Heap.lt_size e) (Nat.not_lt.mpr (z ▸ hC))).trans (P.keep a o e t),fun a t=>?_,Nat.le_trans P.size (Nat.le_of_eq hb.1.symm),P.os,P.gens,(hV h' hb).mono (fun _ _ e _=>e) (fun _ _ n q=>n (.inl q)) (Nat.le_refl _)⟩
  have hlt:a < s1.heap.objs.size:=R1.lt a (R1.ma a (R1.tabs a t).1)
  refine (P.tabs a t).mono (fun o e=>(hb.2 a fun z=>absurd hlt (Nat.not_lt.mpr (z ▸ hC))).trans e) fun b o e n hd=>⟨(hb.2 b fun z=>?_).trans e,n⟩
  obtain ⟨o',es,ep,ho,hd',_⟩:=hN
  obtain ⟨vs,hd⟩:=hd
  rw [z,ho] at e;cases e;rw [hd] at hd';cases hd'
 obtain ⟨R2,S2⟩:=R1.after P'
 exact k _ _ _ _ R2 (S1.trans ⟨S2,R1.valsAfter P'.keep⟩ R₀.lt) P'.val
set_option tactic.hygienic true in
theorem comp_name {y:Str} {j:Nat} {py:Pos} (hj:F.names[j]? =some y) (hl:F.Wr y) {A:Around} {Av Mu Av' Mu':Addr→Prop} {env:Env} {st2:St} {s s1 s':Shared} {D C:Addr} {r:PV} {Q:Flow→Shared→Prop} {E:Value→Shared→Prop} (lt:∀a,Av a→a < s.heap.objs.size) (R1:R X F Av' Mu' env st2 s1) (S1:StepE env Av Mu s Av' Mu' s1) (P:Post X Av' s1 (.ref D) r s') (hC:s1.heap.objs.size≤C) (hN:∃m,s'.heap.Ns C m)
  (hV:∀h',Heap.SameBut C s'.heap h'→VR h' (fun a=>Av' a∨a=C) (.ref D) r) (k:∀s3 Av3 Mu3,R X F Av3 Mu3 env (st2.set j (.froz r)) s3→Step Av Mu s Av3 Mu3 s3→Q .next s3):compPost (model X.prog X.w) A E (some (assign (.Name y py) env)) (fun _ s'=>Q .next s') (.ref D) C (.ok .next) s':=by
 obtain ⟨m,hN⟩:=hN
 have hMC:¬ Mu' C:=fun q=>absurd (R1.lt C (R1.ma C q)) (Nat.not_lt.mpr hC)
 have R2:=R1.keep' (s':=s') (Av':=fun a=>Av' a∨a=C) (Mu':=Mu') P.keep (fun a t=>(P.tabs a t).mono (fun _ e=>e) fun b o e n hd=>⟨e,fun q=>q.elim n fun z=>by
  obtain ⟨o',es,ep,ho,hd',_⟩:=hN
  obtain ⟨vs,hd⟩:=hd
  rw [z,ho] at e;cases e;rw [hd] at hd';cases hd'⟩) P.size (fun _ h=>.inl h) (fun a h=>Or.imp id (fun (q:a=C)=>⟨q ▸ hC,q ▸ hN.lt⟩) h) (fun _ h=>h) (fun a h=>.inl (R1.ma a h))
 have S2:Step Av' Mu' s1 (fun a=>Av' a∨a=C) Mu' s':=⟨fun a o e n=>P.keep a o e fun t=>n (R1.tabs a t).1,fun _ h=>.inl h,fun a h=>Or.imp id (fun (q:a=C)=>q ▸ hC) h,fun _ h _=>.inl h,P.size,P.os,P.gens⟩
 refine wpAny_assign_Name (wp_store R2 hj (b:=.froz r) (hV _ (.refl ..)) hl fun s3 R3 S3=>?_)
 have hN3:s3.heap.Ns C m:=by
  obtain ⟨o,es,ep,ho,q⟩:=hN
  exact ⟨o,es,ep,S3.keep C o ho hMC,q⟩
 refine ⟨m,hN3,fun h' hb=>?_⟩
 have T:=(S1.toStep.trans S2 lt).trans S3 lt
 refine k _ _ _ (R3.keepI (.inr rfl) hMC (fun o e v q=>?_) (fun a o n e=>(hb.2 a n).trans e) (Nat.le_of_eq hb.1.symm)) (T.iter (Nat.le_trans S1.size hC) hb.extBut (Nat.le_of_eq hb.1.symm) rfl rfl)
 obtain ⟨o',es,ep,ho,hd,_⟩:=hN3
 rw [e] at ho;cases ho;rw [hd] at q;cases q
set_option tactic.hygienic true in
theorem x_comp {y:Str} {j:Nat} {py spos:Pos} {x:Str} {px:Pos} {elt iter:Expr} {ifs:List Expr} {scope:Scope} {pos:Pos} {own caps:List Str} {is:List Nat} {t:EvB} {e f:EvE} {i:Nat} (ok:CompOK F scope own caps) (hidx:is.map (F.names[·]?)=caps.map some)
  (hi:own[i]? =some x) (hf:SoundE X F d iter f) (ht:SoundIfs X (innerF F scope own caps) d ifs t) (he:SoundE X (innerF F scope own caps) d elt e)
  (hj:F.names[j]? =some y) (hl:F.Wr y) (hsw:∀env:Env,env.scope=F.scope→swapsWith (.ListComp elt [⟨.Name x px,iter,ifs,0⟩] scope pos) (some (.Name y py)) spos.line env=pure true)
  (hs:autoParam (∀env x,foldedSetIterable iter env x=pure x) Mine.au1._auto_1):
  SoundX X F d (.Assign [.Name y py] (.ListComp elt [⟨.Name x px,iter,ifs,0⟩] scope pos) spos) (bindE (compE is f (compV own.length i t e)) fun p=>setV j p):=by
 refine @SoundU.intro _ _ _ _ _ _ _ _ ?_
 intro A Av Mu env st st' s v Q E hA hf' R₀ tk k
 refine bindE_elim hf' fun r st0 h0 hf0=>?_
 cases hf0
 refine bindE_elim h0 fun ps st1 h1 hf1=>?_
 refine bindE_elim hf1 fun a st2 h2 hf2=>?_
 refine bindE_elim hf2 fun xs st3 h3 hf3=>?_
 obtain ⟨h4,e4⟩:=liftE_some h3
 subst e4
 obtain ⟨h5,e5⟩:=liftE_some hf3
 subst e5
 rw [exec_Assign_Name_used _ _ _ _ (hsw env R₀.sc)]
 refine wpAny_bind (wpAny_standAt (wpAny_bind ?_))
 show wpAny _ A (do let _ ←comprehension (.ListComp elt [⟨.Name x px,iter,ifs,0⟩] scope pos) scope env (firstIterPos [⟨.Name x px,iter,ifs,0⟩] pos) (newList []) false (firstIter [⟨.Name x px,iter,ifs,0⟩] env) (some (assign (.Name y py) env))) _ _ s
 refine wpAny_bind (wpAny_mono (wp_comp ok hidx hf ht he hi hs (use:=some (assign (.Name y py) env)) (Q:=fun _ s'=>Q .next s') hA h1 h2 h4 h5 R₀ tk fun s1 s' Av' Mu' D C R1 S1 P hC hN hV=>comp_name hj hl R₀.lt R1 S1 P hC hN hV fun s3 Av3 Mu3 R3 S3=>k _ _ _ _ R3 S3 trivial) (fun _ s' hq=>wpAny_pure (wpAny_pure hq)) fun _ _ e=>e)
end
end Mine
end
section
open PySem PySem.W PyProof.Rows PySem.Builtin.Str PySem.Builtin PySem.Builtin.ObjectAttr
namespace Mine
theorem lookup_list_append:typeLookup (.type "list") "append"=pure (some (.builtin "list.append")):=PySem.F.slot_list_append.lookup
theorem lk_md_get:typeLookup (.type "method_descriptor") "__get__"=pure (some (.builtin "method_descriptor.__get__")):=by rw [typeLookup_type,builtinLookup_eq_fast];kernel_rfl
theorem lk_md_set:typeLookup (.type "method_descriptor") "__set__"=pure none:=by rw [typeLookup_type,builtinLookup_eq_fast];kernel_rfl
theorem lk_md_del:typeLookup (.type "method_descriptor") "__delete__"=pure none:=by rw [typeLookup_type,builtinLookup_eq_fast];kernel_rfl
theorem slot_md_get:Slot "method_descriptor" "__get__" "method_descriptor.__get__":=
 .of (owner:="method_descriptor") (n:="__get__") (by rw [typeLookup_type,builtinLookup_eq_fast];kernel_rfl) (by decide+kernel) (by decide+kernel) (by decide+kernel)
  (by first | exact .inl (by decide+kernel) | exact .inr (by decide+kernel)) (by rw [isSubtype_type];kernel_rfl)
theorem entry_md_get:entryFor table "method_descriptor.__get__"=some Builtin.«method_descriptor.__get__» :=entryFor_of_tree (by kernel_rfl)
theorem args_md_get (a b c:Value):argsOk "method_descriptor.__get__" ⟨[a,b,c],[]⟩:=by unfold argsOk;kernel_rfl
theorem sub_list_list:isSubtype (.type "list") (.type "list")=pure true:=by rw [isSubtype_type];kernel_rfl
theorem run_md_get {M:Model} {A:Around} {E:Value→Shared→Prop} {s:Shared} {a:Addr} {P:Fin→Shared→Prop} (hT:s.TypeIs (.ref a) "list") (h:P (.done (.ret (.ref s.heap.objs.size))) { s with heap:=s.heap.push (appObj a) }):
  wpAny M A (Builtin.«method_descriptor.__get__» ⟨[.builtin "list.append",.ref a,.type "list"],[]⟩) P E s:=by
 unfold Builtin.«method_descriptor.__get__»
 refine wpAny_bind (wpAny_of_eq (a:=(.builtin "list.append",some (.ref a),some (.type "list"))) (by first | rfl | kernel_rfl) ?_)
 dsimp only
 refine KFB.if_not (by decide+kernel) ?_
 have key:∀Q:Unit→Shared→Prop,Q () s→wpAny M A ((kfb_private% "checkInstance") (.builtin "list.append") (.ref a)) Q E s:=fun Q hQ=>by
  show wpAny M A (bind ((kfb_private% "nameAndClass") (.builtin "list.append")) _) Q E s
  refine wpAny_bind (wpAny_of_eq (a:=(PySem.Str.ofString "append",.type "list")) (by first | rfl | kernel_rfl) ?_)
  show wpAny M A (bind (isInstance (.ref a) (.type "list")) _) Q E s
  refine wpAny_bind (wpAny_isInstance hT sub_list_list ?_)
  exact wpAny_pure hQ
 show wpAny M A (bind ((kfb_private% "checkInstance") (.builtin "list.append") (.ref a)) _) P E s
 refine wpAny_bind (key _ ?_)
 show wpAny M A (bind (newFields "builtin_function_or_method" [.builtin "list.append",.ref a]) _) P E s
 exact wpAny_bind (wpAny_newObj_type (wpAny_pure h))
set_option maxHeartbeats 4000000 in
theorem getAttr_append {prog:Program} {w:World} {A:Around} {E:Value→Shared→Prop} {s:Shared} {a:Addr} {xs:Array Value} {k:Nat} {Q:Value→Shared→Prop}
  (hx:s.heap.get? a=some { cls:=.type "list",data:=.seq xs k })
  (h:∀tk,Q (.ref s.heap.objs.size) { s with heap:=s.heap.push (appObj a),toks:=tk }):
  wpAny (model prog w) A (getAttr (.ref a) "append" true) Q E s:=by
 obtain ⟨hp,g,d,tk,os⟩:=s
 have hT:∀tk',(⟨hp,g,d,tk',os⟩:Shared).TypeIs (.ref a) "list":=fun _=>⟨_,hx,rfl⟩
 have f3:=F.slot_list_getattribute.lookup
 have f4:=F.slot_list_getattribute.bind (.ref a)
 have f5:=am_list_getattr_none
 have f6:=lookup_list_append
 have f7:=PySem.F.type_list_append
 have f8:=lk_md_get
 have f9:=lk_md_set
 have f10:=lk_md_del
 unfold getAttr getAttrBy
 repeat (any_goals (first | assumption | exact hT _ | wp_step))
 refine codeAny_call_builtin F.slot_list_getattribute.plain am_entry_list_getattribute (F.slot_list_getattribute.check _ _ _ _ _ _ _ _ (hT (tk+1)) (F.args_list_getattribute_2 _ _) ?_)
 unfold Builtin.«object.__getattribute__»
 repeat (any_goals (first | assumption | exact hT _ | wp_step))
 refine codeAny_call_builtin slot_md_get.plain entry_md_get (slot_md_get.check _ _ _ _ _ _ _ _ (by first | exact PySem.F.type_list_append | skip) (args_md_get _ _ _) (run_md_get (hT _) ?_))
 exact wpAny_pure (wpAny_pure (h (tk+1)))
end Mine
end
section
open PySem PySem.W PyProof.Rows PySem.Builtin.Str
namespace Mine
section
variable {prog:Program} {w:World} {A:Around} {E:Value→Shared→Prop} {s:Shared}
theorem callWith_app {M:Model} {pos:Pos} {u a:Addr} {args:List (Bool×Sem Value)} {Q:Value→Shared→Prop} (hplain:args.any (·.1)=false)
  (h:wpAny M A (evalArgs (.ref u) true args []) (fun x s₁=>s₁.heap.get? u=some (appObj a)∧wpAny M A (call (.ref u) x.pos x.kw) Q E s₁) E s):wpAny M A (callWith pos (.ref u) [] args []) Q E s:=by
 unfold callWith
 refine wpAny_bind (wpAny_holding (wpAny_mono h (fun x s₁ h₁=>wpAny_bind (wpAny_standAt ?_)) fun _ _ x=>x))
 obtain ⟨ho,hcall⟩:=h₁
 simp only [hplain,List.any_nil,Bool.or_false]
 refine wpAny_bind (m:=keeperOf (.ref u)) ?_
 unfold keeperOf
 refine wpAny_bind (wpAny_load ho ?_)
 simp only [show (Value.type "builtin_function_or_method" != Value.type "method")=true by decide,show (Value.type "builtin_function_or_method"==Value.type "builtin_function_or_method"||Value.type "builtin_function_or_method"==Value.type "method-wrapper")=true by decide,if_true]
 refine wpAny_pure ?_
 exact wpAny_bind (wpAny_mono hcall (fun r s₂ hr=>wpAny_bind (wpAny_holding (wpAny_point (wpAny_pure hr)))) fun _ _ x=>x)
theorem sig_app:Manifest.signature? "list.append"=some ⟨.oneArg,"list.append","append",.self,[⟨"object",.posOnly,true⟩]⟩:=by
 rw [signature?_of (id:="list.append") (n:=['d','n','e','p','p','a']) (o:=['t','s','i','l']) (by kernel_rfl) _root_.PySem.F.owner_list];kernel_rfl
theorem kind_app:builtinKind "list.append"=some .method:=by first | decide+kernel | kernel_rfl
theorem sub_list_module:isSubtype (.type "list") (.type "module")=pure false:=by rw [isSubtype_type];kernel_rfl
theorem args_app {a:Addr} {v:Value}:Bind.checkArgs "list.append" ⟨.oneArg,s!"{Bind.lastOf "list"}.{Bind.lastOf "list.append"}","append",.self,[⟨"object",.posOnly,true⟩]⟩ ⟨[.ref a,v],[]⟩=pure ():=by first | kernel_rfl | rfl
theorem check_app_w {M:Model} {a:Addr} {vs:List Value} {n:Nat} {v:Value} {Q:Unit→Shared→Prop} (g:s.heap.get? a=some (listObj vs n)) (h:Q () s):wpAny M A (checkBoundCall "list.append" ⟨[.ref a,v],[]⟩) Q E s:=by
 have hT:s.TypeIs (.ref a) "list":=⟨_,g,rfl⟩
 unfold checkBoundCall
 rw [sig_app,kind_app]
 dsimp only
 rw [if_neg (by decide)]
 refine wpAny_bind (wpAny_isInstance hT sub_list_module ?_)
 rw [if_neg (by decide+kernel)]
 have ht:∀Q:Bool→Shared→Prop,Q false s→wpAny M A (isType (.ref a)) Q E s:=fun Q hQ=>by
  unfold isType
  exact wpAny_bind (wpAny_loadPart g (wpAny_pure hQ))
 refine wpAny_bind (ht _ ?_)
 rw [if_neg (by decide)]
 refine wpAny_bind (wpAny_typeOf hT ?_)
 exact wpAny_of_eq args_app h
theorem quiet_app {as:Args}:(Code.builtin "list.append" as).quiet=true:=Code.quiet_builtin _ (by decide+kernel)
theorem call_app {u l:Addr} {vs:List Value} {n:Nat} {x:Value} {Q:Value→Shared→Prop} (hu:s.heap.get? u=some (appObj l)) (g:s.heap.get? l=some (listObj vs n)) (hsz:vs.length≤16777216)
  (hQ:∀h' n',h'.get? l=some (listObj (vs++[x]) n')→Heap.SameBut l s.heap h'→Q .none { s with heap:=h' }):
  wpAny (model prog w) A (call (.ref u) [x]) Q E s:=by
 obtain ⟨n',g'⟩:=upd_obj (f:=(·.push x)) (us:=vs++[x]) g (by simp)
 refine wpAny_call (codeAny_of_tree ?_)
 show wpAny _ A.in1 (callAny (.ref u) ⟨[x],[]⟩) _ _ s
 simp only [callAny]
 refine wpAny_bind (wpAny_load hu ?_)
 simp only [show (Value.type "builtin_function_or_method"==Value.type "method"||Value.type "builtin_function_or_method"==Value.type "builtin_function_or_method"||Value.type "builtin_function_or_method"==Value.type "method-wrapper")=true by decide,if_true]
 refine KFB.if_so (by decide) ?_
 refine wpAny_bind (check_app_w g ?_)
 refine wpAny_bind (wpAny_pure (wpAny_pure ?_))
 refine ⟨quiet_app,codeAny_builtin entry_list_append ?_⟩
 show wpAny _ _ (updateSeq l (·.push x)>>=fun _=>ret .none) _ _ s
 refine wpAny_bind ?_
 exact wpAny_updateSeq g rfl (wpAny_pure (hQ _ n' g' (Heap.SameBut.update ..))) (by show vs.toArray.size≤sizeLine;rw [List.size_toArray];exact hsz)
end
section
variable {X:Cx} {F:FI} {d:Nat}
noncomputable def isOwn:Option Bind→Bool
 | some (.own _)=>true
 | _=>false
noncomputable def methIs (j:Nat):Option Bind→Bool
 | some (.meth k)=>k==j
 | _=>false
theorem methIs_spec {j:Nat} {o:Option Bind} (h:methIs j o=true):o=some (.meth j):=by
 unfold methIs at h
 split at h
 ·rw [beq_iff_eq.mp h]
 ·cases h
noncomputable def setMeth (i j:Nat):EvS:=fun st=>if i≠j∧isOwn st[j]? =true then some (.next,st.set i (.meth j)) else none
set_option tactic.hygienic true in
theorem x_meth {x y:Str} {i j:Nat} {p apos px pos:Pos} (hi:F.names[i]? =some x) (hl:F.Wr x) (hj:F.names[j]? =some y) (hn:autoParam ((y==("__classdict__":Str))=false) Mine.au3._auto_1) (hd:autoParam ((y==("__debug__":Str))=false) Mine.au3._auto_1)
  (hs:autoParam (∀env,swapsWith (.Attribute (.Name y p) "append" apos) (some (.Name x px)) pos.line env=pure false) Mine.au4._auto_1):
  SoundX X F d (.Assign [.Name x px] (.Attribute (.Name y p) "append" apos) pos) (setMeth i j):=by
 refine @SoundU.intro _ _ _ _ _ _ _ _ ?_
 intro A Av Mu env st st' s v Q E hA hf R₀ tk k
 unfold setMeth at hf
 split at hf
 case isFalse=>cases hf
 rename_i hc
 cases hf
 obtain ⟨hij,hc⟩:=hc
 unfold isOwn at hc
 split at hc
 case h_2=>cases hc
 rename_i xs e0
 obtain ⟨l,vs,n,hv,g,hm,z⟩:=R₀.vars j y _ hj e0
 refine wpAny_Assign_Name (Attribute_name (wpAny_Name (wp_load R₀ hv hn ?_) hd)) (hs env)
 refine getAttr_append g fun tk'=>?_
 have R1:R X F Av Mu env st { s with heap:=s.heap.push (appObj l),toks:=tk' }:=R₀.grow (Grow.push _)
 have hv1:=hv.keep (env:=env) (h':=s.heap.push (appObj l)) fun a o e _=>Heap.get?_push_of_some _ e
 refine wp_store R1 hi (b:=.meth j) ⟨_,l,rfl,Heap.get?_push_size _ rfl,fun q=>absurd (R₀.lt _ q) (Nat.lt_irrefl _),fun e=>hij e.symm,fun y' ys hy' hs'=>?_⟩ hl fun s2 R2 S2=>?_
 ·have:y'=y:=Option.some.inj (hy'.symm.trans hj)
  subst this
  exact hv1
 ·exact k _ _ _ _ R2 ((Step.ofGrow (Grow.push _)).trans S2 R₀.lt) trivial
noncomputable def addF (i j:Nat) (f:EvE):EvS:=fun st=>if methIs j st[i]? =true then (match f st with
  | some (a,st1)=>if methIs j st1[i]? =true then (match st1[j]? with
   | some (.own xs)=>if xs.length≤16777215 then some (.next,st1.set j (.own (xs++[a]))) else none
   | _=>none) else none
  | none=>none) else none
set_option tactic.hygienic true in
theorem x_add {x:Str} {i j:Nat} {p pos pos':Pos} {e:Expr} {f:EvE} (h:SoundE X F d e f) (hi:F.names[i]? =some x) (hj:j < F.names.length)
  (hp:autoParam (∀env,starEach [e] env=[(false,eval e env)]) Mine.au4._auto_1)
  (hn:autoParam ((x==("__classdict__":Str))=false) Mine.au3._auto_1) (hd:autoParam ((x==("__debug__":Str))=false) Mine.au3._auto_1)
  (hi2:autoParam (∀env:Env,env.scope.kind=.function→interactive env=false) Mine.au6._auto_1):
  SoundX X F d (.Expr (.Call (.Name x p) [e] [] pos) pos') (addF i j f):=by
 refine @SoundU.intro _ _ _ _ _ _ _ _ ?_
 intro A Av Mu env st st' s v Q E hA hf R₀ tk k
 unfold addF at hf
 split at hf
 case isFalse=>cases hf
 rename_i e0
 split at hf
 case h_2=>cases hf
 rename_i a st1 h1
 split at hf
 case isFalse=>cases hf
 rename_i e2
 split at hf
 case h_2=>cases hf
 rename_i xs e1
 split at hf<;>cases hf
 rename_i hlen
 have e0:=methIs_spec e0
 have e2:=methIs_spec e2
 obtain ⟨m,l,hv,g,na,w⟩:=R₀.vars i x _ hi e0
 have hy:F.names[j]? =some F.names[j]:=List.getElem?_eq_getElem hj
 refine wpAny_Expr ?_ (hi2 env (by rw [R₀.sc];exact R₀.fn)) rfl
 show wpAny _ _ (do callWith pos (←eval (.Name x p) env) [] (backTo pos (starEach [e] env)) (backToKw pos (keywordEach [] env))) _ _ _
 refine wpAny_bind (wpAny_Name (wp_load R₀ hv hn ?_) hd)
 rw [hp]
 refine callWith_app (a:=l) rfl (Calls.evalArgs_plain (Calls.spliced_cons (h _ hA h1 R₀ tk fun va s1 Av1 Mu1 R1 S1 V1 tk1=>Calls.spliced_nil ?_)))
 obtain ⟨m',l',hv',g',na',w'⟩:=R1.vars i x _ hi e2
 have:Value.ref m=.ref m':=(S1.vals _ _ hv).unique hv'
 cases this
 have g1:s1.heap.get? m=some (appObj l):=S1.keep _ _ g fun q=>na (R₀.ma _ q)
 rw [g1] at g'
 have:l=l':=by injection g' with g';injection g' with _ _ g' _;injection g' with g';simpa using g'
 subst this
 obtain ⟨l2,vs,n,hv2,g2,hm2,z2⟩:=R1.vars j _ _ hy e1
 have:Value.ref l2=.ref l:=hv2.unique (w' _ _ hy e1)
 cases this
 refine ⟨g1,call_app g1 g2 (by rw [z2.length];lia) fun h' n2 g3 sb=>?_⟩
 obtain ⟨R2,S2⟩:=R1.turnOwn (tk:=s1.toks) hy e1 hv2 sb g3 (z2.append (VRs.cons V1 VRs.nil))
 exact k _ _ _ _ R2 (S1.toStep.trans S2 R₀.lt) trivial
end
noncomputable def augOp (op:Operator) (a b:PV):Option PV:=match op with
 | .Add=>(onI a b fun a b=>some (.int (a+b))).or (addS a b)
 | .Mult=>mulI a b
 | _=>none
section
variable {X:Cx} {F:FI} {d:Nat}
section
variable {A:Around} {Av:Addr→Prop} {s:Shared} {Q:Value→Shared→Prop} {E:Value→Shared→Prop}
theorem augOp_w {op:Operator} {a b c:PV} {va vb:Value} (h:augOp op a b=some c) (ha:VR s.heap Av va a) (hb:VR s.heap Av vb b) (k:∀v s',Grow s s'→VR s'.heap Av v c→Q v s'):
  wpAny (model X.prog X.w) A (inplaceOp op va vb) Q E s:=by
 cases op with
 | Add=>
  rcases or_some h with h | h
  ·obtain ⟨x,y,rfl,rfl,h⟩:=onI_some h
   obtain ⟨t,rfl⟩:=ha.int_of
   obtain ⟨u,rfl⟩:=hb.int_of
   cases h
   exact P.iadd_int (k _ _ .toks VR.int')
  ·obtain ⟨a,b,rfl,rfl,h⟩:=onS_some h
   obtain ⟨t,rfl⟩:=ha.str_of
   obtain ⟨u,rfl⟩:=hb.str_of
   obtain ⟨hlen,rfl⟩:=when_some h
   refine P.iadd_str ?_
   by_cases h1:(a.length==0)=true
   ·rw [if_pos h1]
    exact k _ _ (Grow.refl s) (str_empty_add h1 ▸ VR.str')
   ·rw [if_neg h1]
    by_cases h2:(b.length==0)=true
    ·rw [if_pos h2]
     exact k _ _ (Grow.refl s) (str_add_empty h2 ▸ VR.str')
    ·rw [if_neg h2]
     exact ⟨by rw [PySem.Str.length_append];exact hlen,k _ _ .toks VR.str'⟩
 | Mult=>
  obtain ⟨x,y,rfl,rfl,h⟩:=onI_some h
  obtain ⟨t,rfl⟩:=ha.int_of
  obtain ⟨u,rfl⟩:=hb.int_of
  obtain ⟨hl,rfl⟩:=when_some h
  exact P.imul_int (k _ _ .toks VR.int') (IntMulOk.of_left (intBits_le hl))
 | _=>cases h
end
noncomputable def augF (i:Nat) (op:Operator) (f:EvE):EvS:=bindE (getV i) fun a=>bindE f fun b=>bindE (liftE (augOp op a b)) fun r=>setV i r
theorem x_aug {x:Str} {i:Nat} {px pos:Pos} {op:Operator} {e:Expr} {f:EvE} (h:SoundE X F d e f) (hi:F.names[i]? =some x) (hl:F.Wr x) (hn:autoParam ((x==("__classdict__":Str))=false) Mine.au3._auto_1):
  SoundX X F d (.AugAssign (.Name x px) op e pos) (augF i op f):=by
 refine @SoundU.intro _ _ _ _ _ _ _ _ ?_
 intro A Av Mu env st st' s v Q E hA hf R₀ tk k
 refine bindE_elim hf fun a st1 h1 hf1=>?_
 refine bindE_elim hf1 fun b st2 h2 hf2=>?_
 refine bindE_elim hf2 fun r st3 h3 hf3=>?_
 obtain ⟨h4,e4⟩:=liftE_some h3
 subst e4
 cases hf3
 refine wpAny_AugAssign_Name (wp_getV R₀ hi h1 hn fun va Av1 Mu1 R1 S1 V1=>h _ hA h2 R1 tk fun vb s2 Av2 Mu2 R2 S2 V2 tk2=>?_)
 refine augOp_w h4 (V1.step S2.toStep R1.ma) V2 fun v' s3 G V=>wp_store (R2.grow G) hi (b:=.froz r) V hl fun s4 R4 S4=>?_
 exact k _ _ _ _ R4 ((((S1.toStep.trans S2.toStep R₀.lt).trans (Step.ofGrow G) R₀.lt)).trans S4 R₀.lt) trivial
noncomputable def SoundJ (X:Cx) (F:FI) (d:Nat) (es:List Expr) (g:Str→EvE):Prop:=∀out:Str,SoundT X F d VR (fun env=>joinParts out (evalEach es env)) (g out)
theorem j_nil:SoundJ X F d [] (fun out=>if out.length≤16777216 then pureE (.str out) else fun _=>none):=by
 intro out
 refine @SoundT.intro _ _ _ _ _ _ _ _ ?_
 intro A Av Mu env st st' s v Q E hA hf R₀ tk k
 dsimp only at hf
 split at hf<;>cases hf
 exact joinParts_nilE (joinParts_nil (k _ _ _ _ R₀.toks (StepE.ofGrow .toks) VR.str') ‹_›)
noncomputable def partOf:PV→Option Str
 | .str y=>some y
 | _=>none
set_option tactic.hygienic true in
theorem j_cons {e:Expr} {es:List Expr} {f:EvE} {g:Str→EvE} (h:SoundE X F d e f) (h':SoundJ X F d es g):
  SoundJ X F d (e::es) (fun out=>bindE f fun p=>bindE (liftE (partOf p)) fun y=>if (out++y).length≤16777216 then g (out++y) else fun _=>none):=by
 intro out
 refine @SoundT.intro _ _ _ _ _ _ _ _ ?_
 intro A Av Mu env st st' s v Q E hA hf R₀ tk k
 refine bindE_elim hf fun a st1 h1 hf1=>?_
 refine bindE_elim hf1 fun y st2 h2 hf2=>?_
 obtain ⟨h4,e4⟩:=liftE_some h2
 subst e4
 split at hf2
 case isFalse=>cases hf2
 rename_i hlen
 refine joinParts_consE (joinParts_cons (h _ hA h1 R₀ tk fun va s1 Av1 Mu1 R1 S1 V1 tk1=>?_))
 unfold partOf at h4
 split at h4<;>cases h4
 unfold VR at V1
 obtain ⟨t,rfl⟩:=V1
 exact ⟨hlen,h' _ _ hA hf2 R1 tk1 fun vb s2 Av2 Mu2 R2 S2 V2 tk2=>k _ _ _ _ R2 (S1.trans S2 R₀.lt) V2⟩
theorem s_fstr {e₁ e₂:Expr} {es:List Expr} {pos:Pos} {g:Str→EvE} (h:SoundJ X F d (e₁::e₂::es) g):SoundE X F d (.JoinedStr (e₁::e₂::es) pos) (g Str.empty):=by
 refine @SoundT.intro _ _ _ _ _ _ _ _ ?_
 intro A Av Mu env st st' s v Q E hA hf R₀ tk k
 refine JoinedStr_many ?_
 exact h Str.empty _ hA hf R₀ tk fun vb s2 Av2 Mu2 R2 S2 V2 tk2=>k _ _ _ _ R2 S2 V2
noncomputable def fmtOf:PV→Option PV
 | .str y=>if y.length≤16777216 then some (.str y) else none
 | _=>none
theorem s_fval {e:Expr} {pos:Pos} {f:EvE} (h:SoundE X F d e f):SoundE X F d (.FormattedValue e (-1) none pos) (bindE f fun p=>liftE (fmtOf p)):=by
 refine @SoundT.intro _ _ _ _ _ _ _ _ ?_
 intro A Av Mu env st st' s v Q E hA hf R₀ tk k
 refine bindE_elim hf fun a st1 h1 hf1=>?_
 obtain ⟨h4,e4⟩:=liftE_some hf1
 subst e4
 refine FormattedValue_plain (h _ hA h1 R₀ tk fun va s1 Av1 Mu1 R1 S1 V1 tk1=>?_)
 unfold fmtOf at h4
 split at h4<;>(try cases h4)
 split at h4<;>cases h4
 unfold VR at V1
 obtain ⟨t,rfl⟩:=V1
 refine formatField_str (fun t' tk'=>?_) ‹_›
 exact k _ _ _ _ (R1.grow .toks) (S1.trans (StepE.ofGrow .toks) R₀.lt) VR.str'
set_option genInjectivity false in
inductive El where
 | froz (p:PV)
 | own (xs:List PV)
inductive Pend (h:Heap) (Av Mu:Addr→Prop) (lo:Nat):List Value→List El→Prop
 | nil:Pend h Av Mu lo [] []
 | froz {v:Value} {vs:List Value} {p:PV} {es:List El}:VR h Av v p→Pend h Av Mu lo vs es→Pend h Av Mu lo (v::vs) (.froz p::es)
 | own {a:Addr} {us:List Value} {n:Nat} {xs:List PV} {vs:List Value} {es:List El}:h.get? a=some (listObj us n)→Av a→¬ Mu a→lo≤a→VRs h Av us xs→Value.ref a ∉ vs→Pend h Av Mu lo vs es→Pend h Av Mu lo (.ref a::vs) (.own xs::es)
theorem Pend.length {h:Heap} {Av Mu:Addr→Prop} {lo:Nat} {vs:List Value} {es:List El} (p:Pend h Av Mu lo vs es):vs.length=es.length:=by
 induction p with
 | nil=>rfl
 | froz _ _ ih=>simp [ih]
 | own _ _ _ _ _ _ _ ih=>simp [ih]
theorem Pend.move {h h':Heap} {Av Mu Av' Mu':Addr→Prop} {lo lo':Nat} {vs:List Value} {es:List El} (p:Pend h Av Mu lo vs es) (hk:∀a o,h.get? a=some o→¬ Mu a→h'.get? a=some o) (ma:∀a,Mu a→Av a)
  (ha:∀a,a < h.objs.size→¬ Av a→¬ Av' a) (ha':∀a,Value.ref a∈vs→Av a→¬ Mu a→a < h.objs.size→Av' a∧¬ Mu' a) (hs:h.objs.size≤h'.objs.size) (hlo:lo'≤lo):Pend h' Av' Mu' lo' vs es:=by
 induction p with
 | nil=>exact .nil
 | froz v _ ih=>exact .froz (v.mono (fun a o e n=>hk a o e fun q=>n (ma a q)) ha hs) (ih fun a q=>ha' a (List.mem_cons_of_mem _ q))
 | own g a m l z ne _ ih=>
  obtain ⟨q1,q2⟩:=ha' _ List.mem_cons_self a m (Heap.lt_size g)
  exact .own (hk _ _ g m) q1 q2 (Nat.le_trans hlo l) (z.mono (fun a o e n=>hk a o e fun q=>n (ma a q)) ha hs) ne (ih fun a q=>ha' a (List.mem_cons_of_mem _ q))
theorem Pend.step {Av Mu Av' Mu':Addr→Prop} {s s':Shared} {lo:Nat} {vs:List Value} {es:List El} (S:Step Av Mu s Av' Mu' s') (ma:∀a,Mu a→Av a) (p:Pend s.heap Av Mu lo vs es):Pend s'.heap Av' Mu' lo vs es:=
 p.move S.keep ma (fun a l n q=>(S.av a q).elim n fun z=>absurd l (Nat.not_lt.mpr z)) (fun a _ h n l=>⟨S.av' a h n,fun q=>(S.mu a q).elim n fun z=>absurd l (Nat.not_lt.mpr z)⟩) S.size (Nat.le_refl _)
noncomputable def SoundVs (X:Cx) (F:FI) (d:Nat) (es:List Expr) (f:St→Option (List El×St)):Prop:=
 ∀(A:Around) {pos:Pos} {Av Mu:Addr→Prop} {env:Env} {st st':St} {s:Shared} {v:List El} {Q:List Value→Shared→Prop} {E:Value→Shared→Prop},
  Room d A→f st=some (v,st')→R X F Av Mu env st s→1≤s.toks→
  (∀x s' Av' Mu',R X F Av' Mu' env st' s'→StepE env Av Mu s Av' Mu' s'→Pend s'.heap Av' Mu' s.heap.objs.size x v→(∀a,Value.ref a∈x→¬ (Av a∧¬ Mu a))→1≤s'.toks→Q x s')→wpAny (model X.prog X.w) A (spliced (backTo pos (starEach es env))) Q E s
theorem vs_nil:SoundVs X F d [] (pureE []):=by
 intro A pos Av Mu env st st' s v Q E hA hf R₀ tk k
 cases hf
 exact Calls.spliced_nil (k _ _ _ _ R₀ StepE.refl .nil (fun a q=>by cases q) tk)
theorem VR.ref {h:Heap} {Av:Addr→Prop} {a:Addr} {p:PV} (x:VR h Av (.ref a) p):¬ Av a:=by
 cases p<;>unfold VR at x
 ·cases x
 ·cases x
 ·obtain ⟨t,e⟩:=x;cases e
 ·obtain ⟨t,e⟩:=x;cases e
 ·obtain ⟨e,n,_⟩:=x;cases e;exact n
 ·obtain ⟨b,vs,n,e,_,n,_⟩:=x;cases e;exact n
 ·obtain ⟨b,vs,n,e,_,n,_⟩:=x;cases e;exact n
 ·obtain ⟨b,_,_,_,e,_,n⟩:=x;cases e;exact n
theorem vs_froz {e:Expr} {es:List Expr} {f:EvE} {g:St→Option (List El×St)} (h:SoundE X F d e f) (h':SoundVs X F d es g) (hp:autoParam (∀env,starEach (e::es) env=(false,eval e env)::starEach es env) Mine.au4._auto_1):
  SoundVs X F d (e::es) (bindE f fun a=>bindE g fun as=>pureE (.froz a::as)):=by
 intro A pos Av Mu env st st' s v Q E hA hf R₀ tk k
 refine bindE_elim hf fun a st1 h1 hf=>?_
 refine bindE_elim hf fun as st2 h2 hf=>?_
 cases hf
 rw [hp]
 refine Calls.spliced_cons (h _ hA h1 R₀ tk fun va s1 Av1 Mu1 R1 S1 V1 tk1=>h' _ hA h2 R1 tk1 fun vb s2 Av2 Mu2 R2 S2 P2 ne tk2=>?_)
 refine k _ _ _ _ R2 (S1.trans S2 R₀.lt) (.froz (V1.step S2.toStep R1.ma) (P2.move (fun _ _ e _=>e) R2.ma (fun _ _ n=>n) (fun _ _ a b _=>⟨a,b⟩) (Nat.le_refl _) S1.size)) (fun b q=>?_) tk2
 rintro ⟨q1,q2⟩
 have hlt:=R₀.lt b q1
 have q3:=S1.av' b q1 q2
 rcases List.mem_cons.mp q with q | q
 ·exact (q ▸ V1).ref q3
 ·exact ne b q ⟨q3,fun z=>(S1.mu b z).elim q2 fun z=>absurd hlt (Nat.not_lt.mpr z)⟩
set_option tactic.hygienic true in
theorem vs_own {ds es:List Expr} {pos2:Pos} {f:St→Option (List PV×St)} {g:St→Option (List El×St)} (h:SoundEs X F d ds f) (h':SoundVs X F d es g) (hp:autoParam (∀env,starEach (.List ds pos2::es) env=(false,eval (.List ds pos2) env)::starEach es env) Mine.au4._auto_1):
  SoundVs X F d (.List ds pos2::es) (bindE f fun a=>bindE g fun as=>if a.length≤16777216 then pureE (.own a::as) else fun _=>none):=by
 intro A pos Av Mu env st st' s v Q E hA hf R₀ tk k
 refine bindE_elim hf fun a st1 h1 hf=>?_
 refine bindE_elim hf fun as st2 h2 hf=>?_
 split at hf
 case isFalse=>cases hf
 rename_i hlen
 cases hf
 rw [hp]
 refine Calls.spliced_cons (List_ (h pos2 _ hA h1 R₀ tk fun va s1 Av1 Mu1 R1 S1 V1 tk1=>wpAny_newObj_type ?_ (by show va.toArray.size≤sizeLine;rw [List.size_toArray,V1.length];exact hlen)))
 have gD:(s1.heap.push (listObj va 0)).get? s1.heap.objs.size=some (listObj va 0):=Heap.get?_push_size _ rfl
 have nMu:¬ Mu1 s1.heap.objs.size:=fun q=>absurd (R1.lt _ (R1.ma _ q)) (Nat.lt_irrefl _)
 refine h' _ hA h2 (R1.fresh (listObj va 0)) tk1 fun vb s2 Av2 Mu2 R2 S2 P2 ne tk2=>?_
 have V1':VRs (s1.heap.push (listObj va 0)) (fun a=>Av1 a∨a=s1.heap.objs.size) va a:=V1.mono (fun a o e _=>Heap.get?_push_of_some _ e) (fun a l n q=>q.elim n fun z=>Nat.lt_irrefl _ (z ▸ l)) (by rw [Heap.size_push];exact Nat.le_succ _)
 have S1':StepE env Av1 Mu1 s1 (fun a=>Av1 a∨a=s1.heap.objs.size) Mu1 { s1 with heap:=s1.heap.push (listObj va 0) }:=⟨Step.fresh _,fun x u q=>q.keep fun a o e _=>Heap.get?_push_of_some _ e⟩
 have T:=(S1.trans S1' R₀.lt).trans S2 R₀.lt
 have hlt:s1.heap.objs.size < (s1.heap.push (listObj va 0)).objs.size:=by rw [Heap.size_push];exact Nat.lt_succ_self _
 refine k _ _ _ _ R2 T (.own (S2.keep _ _ gD nMu) (S2.av' _ (.inr rfl) nMu) (fun q=>(S2.mu _ q).elim nMu fun z=>absurd hlt (Nat.not_lt.mpr z)) S1.size (V1'.step S2.toStep fun a q=>.inl (R1.ma a q)) (fun q=>ne _ q ⟨.inr rfl,nMu⟩)
  (P2.move (fun _ _ e _=>e) R2.ma (fun _ _ n=>n) (fun _ _ a b _=>⟨a,b⟩) (Nat.le_refl _) (Nat.le_trans S1.size (Nat.le_of_lt hlt)))) (fun b q=>?_) tk2
 rintro ⟨q1,q2⟩
 have hlt0:=R₀.lt b q1
 rcases List.mem_cons.mp q with q | q
 ·cases q
  exact absurd hlt0 (Nat.not_lt.mpr S1.size)
 ·exact ne b q ⟨.inl (S1.av' b q1 q2),fun z=>(S1.mu b z).elim q2 fun z=>absurd hlt0 (Nat.not_lt.mpr z)⟩
noncomputable def setEls:List Nat→List El→St→Option St
 | [],[],st=>some st
 | i::is,.froz p::es,st=>setEls is es (st.set i (.froz p))
 | i::is,.own xs::es,st=>if noMeth i st=true then setEls is es (st.set i (.own xs)) else none
 | _,_,_=>none
inductive Stores (env:Env):List (Value→Sem Unit)→List Str→Prop
 | nil:Stores env [] []
 | cons {f:Value→Sem Unit} {fs:List (Value→Sem Unit)} {x:Str} {xs:List Str}:(∀{M:Model} {A:Around} {v:Value} {Q:Unit→Shared→Prop} {E:Value→Shared→Prop} {s:Shared},wpAny M A (storeName env x v) Q E s→wpAny M A (f v) Q E s)→Stores env fs xs→Stores env (f::fs) (x::xs)
set_option tactic.hygienic true in
theorem storeAll {env:Env} {A:Around} {M:Model} {E:Value→Shared→Prop} {Q:Unit→Shared→Prop} {Av₀ Mu₀:Addr→Prop} {s₀:Shared} (lt₀:∀a,Av₀ a→a < s₀.heap.objs.size) {fs:List (Value→Sem Unit)} {xs:List Str} (hS:Stores env fs xs):
  ∀{is:List Nat} {vs:List Value} {es:List El} {Av Mu:Addr→Prop} {st st2:St} {s:Shared},is.map (F.names[·]?)=xs.map some→(∀x∈xs,F.Wr x)→setEls is es st=some st2→Pend s.heap Av Mu s₀.heap.objs.size vs es→R X F Av Mu env st s→Step Av₀ Mu₀ s₀ Av Mu s→
   (∀s' Av' Mu',R X F Av' Mu' env st2 s'→Step Av₀ Mu₀ s₀ Av' Mu' s'→Q () s')→wpAny M A (assignInOrder fs vs) Q E s:=by
 induction hS with
 | nil=>
  intro is vs es Av Mu st st2 s hi hw hf P R₀ S₀ k
  cases is with
  | cons=>cases hi
  | nil=>
   cases P with
   | nil=>
    unfold setEls at hf
    cases hf
    exact wpAny_pure (k _ _ _ R₀ S₀)
   | froz=>cases hf
   | own=>cases hf
 | cons hx hS ih=>
  intro is vs es Av Mu st st2 s hi hw hf P R₀ S₀ k
  cases is with
  | nil=>cases hi
  | cons i is=>
   rw [List.map_cons,List.map_cons,List.cons.injEq] at hi
   have hw1:=hw _ List.mem_cons_self
   have hw2:=fun y hy=>hw y (List.mem_cons_of_mem _ hy)
   cases P with
   | nil=>cases hf
   | froz v P=>
    unfold setEls at hf
    refine wpAny_bind (wpAny_holding (hx (wp_store R₀ hi.1 (b:=.froz _) v hw1 fun s1 R1 S1=>?_)))
    exact ih hi.2 hw2 hf (P.step S1 R₀.ma) R1 (S₀.trans S1 lt₀) k
   | own g ha hm l z ne P=>
    rename_i a us n ys vs es
    unfold setEls at hf
    split at hf
    case isFalse=>cases hf
    rename_i hno
    have R1:R X F Av (fun b=>Mu b∨b=a) env st s:=R₀.keep' (fun _ _ e _=>e) (fun a t=>(R₀.tabs a t).2) (Nat.le_refl _) (fun _ h=>h) (fun _ h=>.inl h) (fun _ h=>.inl h) (fun b h=>h.elim (R₀.ma b) fun q=>q ▸ ha)
    have T1:Step Av₀ Mu₀ s₀ Av (fun b=>Mu b∨b=a) s:=⟨S₀.keep,fun b q=>q.elim (S₀.mu b) fun q=>.inr (q ▸ l),S₀.av,S₀.av',S₀.size,S₀.os,S₀.gens⟩
    have P1:Pend s.heap Av (fun b=>Mu b∨b=a) s₀.heap.objs.size vs es:=P.move (fun _ _ e _=>e) R₀.ma (fun _ _ n=>n) (fun b hb q1 q2 _=>⟨q1,fun q=>q.elim q2 fun q=>ne (q ▸ hb)⟩) (Nat.le_refl _) (Nat.le_refl _)
    refine wpAny_bind (wpAny_holding (hx (wp_store R1 hi.1 (b:=.own ys) ⟨a,us,n,rfl,g,.inr rfl,z,fun j y zs hj hy hb va=>?_,fun j=>noMeth_spec hno j⟩ hw1 fun s1 R2 S2=>?_)))
    ·obtain ⟨a',_,_,p,_,m,_⟩:=R₀.vars j y _ hy hb
     have:Value.ref a'=.ref a:=p.unique va
     cases this
     exact hm m
    ·exact ih hi.2 hw2 hf (P1.step S2 R1.ma) R2 (T1.trans S2 lt₀) k
end
theorem Pend.append {h:Heap} {Av Mu:Addr→Prop} {lo:Nat} {vs us:List Value} {es fs:List El} (p:Pend h Av Mu lo vs es) (q:Pend h Av Mu lo us fs) (cross:∀a,Value.ref a∈vs→Av a→Value.ref a ∉ us):Pend h Av Mu lo (vs++us) (es++fs):=by
 induction p with
 | nil=>exact q
 | froz v _ ih=>exact .froz v (ih fun a ha=>cross a (List.mem_cons_of_mem _ ha))
 | own g a m l z ne _ ih=>
  refine .own g a m l z (fun z=>?_) (ih fun a ha=>cross a (List.mem_cons_of_mem _ ha))
  rcases List.mem_append.mp z with z | z
  ·exact ne z
  ·exact cross _ List.mem_cons_self a z
theorem Pend.reverse {h:Heap} {Av Mu:Addr→Prop} {lo:Nat} {vs:List Value} {es:List El} (p:Pend h Av Mu lo vs es):Pend h Av Mu lo vs.reverse es.reverse:=by
 induction p with
 | nil=>exact .nil
 | froz v _ ih=>
  rw [List.reverse_cons,List.reverse_cons]
  refine ih.append (.froz v .nil) fun a ha hav z=>?_
  rw [List.mem_singleton] at z
  exact (z ▸ v).ref hav
 | own g a m l z ne _ ih=>
  rw [List.reverse_cons,List.reverse_cons]
  refine ih.append (.own g a m l z (by simp) .nil) fun b hb hav y=>?_
  rw [List.mem_singleton] at y
  exact ne (y ▸ List.mem_reverse.mp hb)
theorem stores_bind {env:Env}:∀xs:List Str,Stores env (xs.map fun n=>bindName env n) xs
 | []=>.nil
 | x::xs=>.cons (fun h=>bindName_ h) (stores_bind xs)
section
variable {X:Cx} {F:FI} {d:Nat}
noncomputable def tupF (is:List Nat) (g:St→Option (List El×St)):EvS:=bindE g fun es=>fun st=>if es.length=is.length∧es.length≤16777216 then (match setEls is es st with
 | some st'=>some (.next,st')
 | none=>none) else none
theorem x_tup_core {es:List Expr} {n:Nat} {vpos:Pos} {g:St→Option (List El×St)} (h:SoundVs X F d es g) {A:Around} {Av Mu:Addr→Prop} {env:Env} {st st1:St} {s:Shared} {els:List El} {Q:Value→Shared→Prop} {E:Value→Shared→Prop}
  (hA:Room d A) (hf:g st=some (els,st1)) (hlen:els.length≤16777216) (R₀:R X F Av Mu env st s) (tk:1≤s.toks)
  (k:∀t vs s' Av' Mu',IsTup s'.heap t vs.toArray→R X F Av' Mu' env st1 s'→Step Av Mu s Av' Mu' s'→Pend s'.heap Av' Mu' s.heap.objs.size vs els→Q (.ref t) s'):wpAny (model X.prog X.w) A (eval (.Tuple es n vpos) env) Q E s:=by
 refine Tuple_ (h _ hA hf R₀ tk fun vs s1 Av1 Mu1 R1 S1 P1 ne tk1=>wpAny_newObj_type ?_ (by show vs.toArray.size≤sizeLine;rw [List.size_toArray,P1.length];exact hlen))
 have G:Grow s1 { s1 with heap:=s1.heap.push (tupObj vs 0) }:=Grow.push (s:=s1) _
 refine k _ vs _ Av1 Mu1 ⟨_,Heap.get?_push_size _ rfl,rfl,_,rfl⟩ (R1.grow G) (S1.toStep.trans (Step.ofGrow G) R₀.lt) ?_
 exact P1.move (fun a o e _=>G.keep a o e) R1.ma (fun _ _ n=>n) (fun _ _ a b _=>⟨a,b⟩) G.size (Nat.le_refl _)
theorem wp_unpackItems {A:Around} {s:Shared} {t:Addr} {vs:List Value} {n:Nat} {Q:List Value→Shared→Prop} {E:Value→Shared→Prop} (hh:A.handled=none) (ht:IsTup s.heap t vs.toArray) (hn:n=vs.length)
  (k:∀s',Grow s s'→Q vs s'):wpAny (model X.prog X.w) A (unpackItems (.ref t) n none) Q E s:=by
 have e:n=vs.toArray.size:=by rw [List.size_toArray];exact hn
 subst e
 refine wpAny_mono (wpAny_size (PyProof.Rows.unpackItems_tuple (Q:=fun r s'=>r=vs∧∃h',Heap.ExtBut s.heap.objs.size s.heap h'∧s'={ s with heap:=h' }) hh ht fun h' he=>⟨by simp,h',he,rfl⟩)) (fun r s' q=>?_) fun _ _ e=>e
 obtain ⟨⟨rfl,h',he,rfl⟩,hz⟩:=q
 exact k _ ⟨fun a o e=>he a o (Nat.ne_of_lt (Heap.lt_size e)) e,hz,rfl,rfl⟩
set_option tactic.hygienic true in
theorem x_tup {elts es:List Expr} {k' n:Nat} {tpos vpos pos:Pos} {is:List Nat} {xs:List Str} {g:St→Option (List El×St)} (h:SoundVs X F d es g) (hi:is.map (F.names[·]?)=xs.map some) (hw:∀x∈xs,F.Wr x)
  (hS:∀env,Stores env ((assignEach elts env).map (·.2)) xs) (hlen:∀env,(assignEach elts env).length=is.length) (hstar:∀env,(assignEach elts env).findIdx? (·.1)=none)
  (hsw:∀env:Env,env.scope=F.scope→swappedStores [.Tuple elts k' tpos] (.Tuple es n vpos) env=pure none)
  (hs:autoParam (∀env,swapsWithSole [.Tuple elts k' tpos] (.Tuple es n vpos) pos.line env=pure false) Mine.au4._auto_1):
  SoundX X F d (.Assign [.Tuple elts k' tpos] (.Tuple es n vpos) pos) (tupF is g):=by
 refine @SoundU.intro _ _ _ _ _ _ _ _ ?_
 intro A Av Mu env st st' s v Q E hA hf R₀ tk k
 refine bindE_elim hf fun els st1 h1 hf1=>?_
 split at hf1
 case isFalse=>cases hf1
 rename_i hl
 split at hf1<;>cases hf1
 rename_i h2
 refine Assign_Tuple (x_tup_core h hA h1 hl.2 R₀ tk fun t vs s1 Av1 Mu1 ht R1 S1 P1=>?_) (hs env) (hsw env R₀.sc)
 rw [assign_Tuple]
 refine wpAny_bind (wpAny_standAt ?_)
 unfold unpack
 rw [hstar env,hlen env]
 refine wpAny_bind (wpAny_holding (wp_unpackItems hA.1 ht (by rw [P1.length,hl.1]) fun s2 G=>?_))
 refine storeAll R₀.lt (hS env) hi hw h2 (P1.move (fun a o e _=>G.keep a o e) R1.ma (fun _ _ n=>n) (fun _ _ a b _=>⟨a,b⟩) G.size (Nat.le_refl _)) (R1.grow G) (S1.trans (Step.ofGrow G) R₀.lt) fun s3 Av3 Mu3 R3 S3=>k _ _ _ _ R3 S3 trivial
set_option tactic.hygienic true in
theorem x_tupS {elts es:List Expr} {k' n:Nat} {tpos vpos pos:Pos} {is:List Nat} {xs:List Str} {g:St→Option (List El×St)} (h:SoundVs X F d es g) (hi:is.map (F.names[·]?)=xs.map some) (hw:∀x∈xs,F.Wr x)
  (hsw:∀env:Env,env.scope=F.scope→swappedStores [.Tuple elts k' tpos] (.Tuple es n vpos) env=pure (some xs))
  (hs:autoParam (∀env,swapsWithSole [.Tuple elts k' tpos] (.Tuple es n vpos) pos.line env=pure false) Mine.au4._auto_1):
  SoundX X F d (.Assign [.Tuple elts k' tpos] (.Tuple es n vpos) pos) (tupF is.reverse (bindE g fun es=>pureE es.reverse)):=by
 refine @SoundU.intro _ _ _ _ _ _ _ _ ?_
 intro A Av Mu env st st' s v Q E hA hf R₀ tk k
 refine bindE_elim hf fun els' st1 h0 hf1=>?_
 refine bindE_elim h0 fun els st0 h1 h0=>?_
 cases h0
 split at hf1
 case isFalse=>cases hf1
 rename_i hl
 split at hf1<;>cases hf1
 rename_i h2
 rw [List.length_reverse,List.length_reverse] at hl
 have hxl:is.length=xs.length:=by simpa using congrArg List.length hi
 refine Assign_Tuple_swapped (x_tup_core h hA h1 hl.2 R₀ tk fun t vs s1 Av1 Mu1 ht R1 S1 P1=>?_) (hs env) (hsw env R₀.sc)
 refine wp_unpackItems hA.1 ht (by rw [P1.length,hl.1,hxl]) fun s2 G=>?_
 refine storeAll R₀.lt (stores_bind xs.reverse) (is:=is.reverse) (by rw [List.map_reverse,List.map_reverse,hi]) (fun x hx=>hw x (List.mem_reverse.mp hx)) h2 (P1.reverse.move (fun a o e _=>G.keep a o e) R1.ma (fun _ _ n=>n) (fun _ _ a b _=>⟨a,b⟩) G.size (Nat.le_refl _)) (R1.grow G) (S1.trans (Step.ofGrow G) R₀.lt) fun s3 Av3 Mu3 R3 S3=>k _ _ _ _ R3 S3 trivial
end
section
variable {X:Cx} {F:FI} {d:Nat}
noncomputable def nameT (i:Nat):EvB:=fun st=>match st[i]? with
 | some (.own xs)=>if xs.length < 9223372036854775808 then some (!xs.isEmpty,st) else none
 | some (.froz p)=>(match truthOf p with
  | some b=>some (b,st)
  | none=>none)
 | _=>none
set_option tactic.hygienic true in
theorem b_name {x:Str} {p:Pos} {i:Nat} (hi:F.names[i]? =some x) (hn:autoParam ((x==("__classdict__":Str))=false) Mine.au3._auto_1) (hd:autoParam ((x==("__debug__":Str))=false) Mine.au3._auto_1):SoundB X F d (.Name x p) (nameT i):=by
 refine @SoundT.intro _ _ _ _ _ _ _ _ ?_
 intro A Av Mu env st st' s v Q E hA hf R₀ tk k
 unfold nameT at hf
 split at hf
 ·rename_i xs e
  split at hf<;>cases hf
  rename_i hlen
  obtain ⟨a,vs,n,hv,g,hm,z⟩:=R₀.vars i x _ hi e
  refine isTrue_plain (wpAny_Name (wp_load R₀ hv hn ?_) hd) rfl
  have hl:=VRs.length z
  refine wpAny_truthy_list (l:=a) (items:=vs.toArray) ⟨_,g,rfl,n,rfl⟩ (by rw [List.size_toArray];lia) ?_
  have e:(!vs.toArray.isEmpty)=(!xs.isEmpty):=by cases vs<;>cases xs<;>simp_all
  rw [e]
  exact k _ _ _ _ (R₀.grow .toks) (StepE.ofGrow .toks) rfl
 ·rename_i q e
  split at hf<;>cases hf
  rename_i hb
  obtain ⟨u,hv,z⟩:=R₀.vars i x _ hi e
  refine isTrue_plain (wpAny_Name (wp_load R₀ hv hn ?_) hd) rfl
  exact truthOf_w hb z fun s' G=>k _ _ _ _ (R₀.grow G) (StepE.ofGrow G) rfl
 ·cases hf
noncomputable def lenP (i:Nat):St→Option PV:=fun st=>match st[i]? with
 | some (.own xs)=>pyLen [.list xs]
 | some (.froz p)=>pyLen [p]
 | _=>none
set_option tactic.hygienic true in
theorem p_len {x f:Str} {fp p pos:Pos} {i:Nat} (hf:f="len") (hi:F.names[i]? =some x) (hx:F.scope.names.lookup f=some .globalImplicit) (hg:X.mg f=none)
  (hn:autoParam ((x==("__classdict__":Str))=false) Mine.au3._auto_1) (hd:autoParam ((x==("__debug__":Str))=false) Mine.au3._auto_1):SoundP X F d (.Call (.Name f fp) [.Name x p] [] pos) (lenP i):=by
 intro A Av Mu env st s v Q E hA hf' R₀ k
 subst hf
 show wpAny _ _ (do callWith pos (←eval (.Name "len" fp) env) [] (backTo pos (starEach [.Name x p] env)) (backToKw pos (keywordEach [] env))) _ _ _
 refine wpAny_bind (wp_bname R₀ hx hg boot_len (callArgs rfl ?_))
 show wpAny _ _ (spliced (backTo pos [(false,eval (.Name x p) env)])) _ _ _
 unfold lenP at hf'
 split at hf'
 ·rename_i xs e
  obtain ⟨a,vs,n,hv,g,hm,z⟩:=R₀.vars i x _ hi e
  refine Calls.spliced_cons (wpAny_Name (wp_load R₀ hv hn (Calls.spliced_nil ?_)) hd)
  obtain ⟨hl,rfl⟩:=when_some hf'
  refine Calls.call_len_list (l:=a) (items:=vs.toArray) ⟨_,g,rfl,n,rfl⟩ (by rw [List.size_toArray,z.length];exact len_small hl) (k _ _ .toks ?_)
  rw [List.size_toArray,z.length]
  exact VR.int'
 ·rename_i q e
  obtain ⟨u,hv,z⟩:=R₀.vars i x _ hi e
  refine Calls.spliced_cons (wpAny_Name (wp_load R₀ hv hn (Calls.spliced_nil ?_)) hd)
  exact f_len hA hf' R₀.lt (VRs.cons z VRs.nil) k
 ·cases hf'
theorem p_str {x:Str} {k:Nat} {pos:Pos}:SoundP X F d (.Constant (.str x) k pos) (fun _=>some (.str x)):=by
 intro A Av Mu env st s v Q E hr hf r k'
 cases hf
 exact Calls.Constant_str (k' _ _ .toks VR.str')
noncomputable def setAt (j:Nat) (g:St→Option PV) (v:PV):EvS:=fun st=>match st[j]?,g st with
 | some (.own xs),some (.int i)=>if -(2 ^ 63)≤i∧i < 2 ^ 63 then (match seqIndex? i xs.length with
  | some k=>some (.next,st.set j (.own (xs.set k v)))
  | none=>none) else none
 | _,_=>none
theorem VRs.set {h:Heap} {Av:Addr→Prop} {v:Value} {p:PV}:∀{vs:List Value} {xs:List PV} {k:Nat},VRs h Av vs xs→VR h Av v p→VRs h Av (vs.set k v) (xs.set k p)
 | [],[],_,x,_=>by simp;exact x
 | [],_::_,_,x,_=>by unfold VRs at x;exact x.elim
 | _::_,[],_,x,_=>by unfold VRs at x;exact x.elim
 | _::vs,_::xs,0,x,y=>by unfold VRs at x;exact VRs.cons y x.2
 | _::vs,_::xs,k+1,x,y=>by unfold VRs at x;exact VRs.cons x.1 (VRs.set x.2 y)
theorem VRs.erase {h:Heap} {Av:Addr→Prop}:∀{vs:List Value} {xs:List PV} {k:Nat},VRs h Av vs xs→VRs h Av (vs.eraseIdx k) (xs.eraseIdx k)
 | [],[],_,x=>by simp;exact x
 | [],_::_,_,x=>by unfold VRs at x;exact x.elim
 | _::_,[],_,x=>by unfold VRs at x;exact x.elim
 | _::vs,_::xs,0,x=>by unfold VRs at x;exact x.2
 | _::vs,_::xs,k+1,x=>by unfold VRs at x;exact VRs.cons x.1 (VRs.erase x.2)
set_option tactic.hygienic true in
theorem x_setown {x:Str} {j:Nat} {p pos' pos:Pos} {slice e:Expr} {f:EvE} {g:St→Option PV} (h:SoundE X F d e f) (hx:F.names[j]? =some x) (hg:SoundP X F d slice g)
  (hs:autoParam (∀env,swapsWith e (some (.Subscript (.Name x p) slice pos')) pos.line env=pure false) Mine.au4._auto_1)
  (hn:autoParam ((x==("__classdict__":Str))=false) Mine.au3._auto_1) (hd:autoParam ((x==("__debug__":Str))=false) Mine.au3._auto_1):
  SoundX X F d (.Assign [.Subscript (.Name x p) slice pos'] e pos) (bindE f fun v=>setAt j g v):=by
 refine @SoundU.intro _ _ _ _ _ _ _ _ ?_
 intro A Av Mu env st st' s v Q E hA hf R₀ tk k
 refine bindE_elim hf fun a st1 h1 hf1=>?_
 unfold setAt at hf1
 split at hf1
 case h_2=>cases hf1
 rename_i xs i e1 e2
 split at hf1
 case isFalse=>cases hf1
 rename_i hr
 split at hf1<;>cases hf1
 rename_i kk e3
 refine wpAny_Assign_Subscript (h _ hA h1 R₀ tk fun va s1 Av1 Mu1 R1 S1 V1 tk1=>?_) (hs env)
 obtain ⟨l,vs,n,hv,gl,hm,z⟩:=R1.vars j x _ hx e1
 refine wpAny_Name (wp_load R1 hv hn (hg _ hA e2 R1 fun vi s2 G V2=>?_)) hd
 unfold VR at V2
 obtain ⟨t,rfl⟩:=V2
 have R2:=R1.grow G
 have hv2:=hv.keep (env:=env) (h':=s2.heap) fun a o e _=>G.keep a o e
 refine list_set_x (G.keep _ _ gl) hr (by rw [z.length];exact e3) fun h' n2 g2 sb=>?_
 obtain ⟨R3,S3⟩:=R2.turnOwn (tk:=s2.toks) hx e1 hv2 sb g2 (VRs.set (z.grow G) (V1.grow G))
 exact k _ _ _ _ R3 ((S1.toStep.trans (Step.ofGrow G) R₀.lt).trans S3 R₀.lt) trivial
noncomputable def augAt (j:Nat) (g:St→Option PV) (op:Operator) (f:St→Option PV):EvS:=fun st=>match st[j]?,g st,f st with
 | some (.own xs),some (.int i),some b=>if -(2 ^ 63)≤i∧i < 2 ^ 63 then (match seqIndex? i xs.length with
  | some k=>(match xs[k]? with
   | some a=>(match augOp op a b with
    | some r=>some (.next,st.set j (.own (xs.set k r)))
    | none=>none)
   | none=>none)
  | none=>none) else none
 | _,_,_=>none
set_option tactic.hygienic true in
theorem x_augown {x:Str} {j:Nat} {p pos' pos:Pos} {slice e:Expr} {op:Operator} {f g:St→Option PV} (h:SoundP X F d e f) (hx:F.names[j]? =some x) (hg:SoundP X F d slice g)
  (ha:autoParam (∀ov iv new,augStore slice ov iv new=(do holding [new,ov,iv] (setItem ov iv new);release [new,ov,iv] [];pure .next)) Mine.au7._auto_1)
  (hn:autoParam ((x==("__classdict__":Str))=false) Mine.au3._auto_1) (hd:autoParam ((x==("__debug__":Str))=false) Mine.au3._auto_1):
  SoundX X F d (.AugAssign (.Subscript (.Name x p) slice pos') op e pos) (augAt j g op f):=by
 refine @SoundU.intro _ _ _ _ _ _ _ _ ?_
 intro A Av Mu env st st' s v Q E hA hf R₀ tk k
 unfold augAt at hf
 split at hf
 case h_2=>cases hf
 rename_i xs i b e1 e2 e3
 split at hf
 case isFalse=>cases hf
 rename_i hr
 split at hf
 case h_2=>cases hf
 rename_i kk e4
 split at hf
 case h_2=>cases hf
 rename_i a e5
 split at hf<;>cases hf
 rename_i r e6
 obtain ⟨l,vs,n,hv,gl,hm,z⟩:=R₀.vars j x _ hx e1
 refine wpAny_AugAssign_SubscriptAny (wpAny_Name (wp_load R₀ hv hn (hg _ hA e2 R₀ fun vi s1 G1 V1=>?_)) hd) ha
 unfold VR at V1
 obtain ⟨t,rfl⟩:=V1
 obtain ⟨va,q1,q2⟩:=z.get e5
 refine list_item_w (X:=X) (G1.keep _ _ gl) hr (by rw [z.length];exact e4) q1 ?_
 refine h _ hA e3 (R₀.grow G1) fun vb s2 G2 V2=>?_
 refine augOp_w e6 ((q2.grow G1).grow G2) V2 fun vr s3 G3 V3=>?_
 have G:=(G1.trans G2).trans G3
 have hv2:=hv.keep (env:=env) (h':=s3.heap) fun a o e _=>G.keep a o e
 refine list_set_x (G.keep _ _ gl) hr (by rw [z.length];exact e4) fun h' n2 g2 sb=>?_
 obtain ⟨R3,S3⟩:=(R₀.grow G).turnOwn (tk:=s3.toks) hx e1 hv2 sb g2 (VRs.set (z.grow G) V3)
 exact k _ _ _ _ R3 ((Step.ofGrow G).trans S3 R₀.lt) trivial
noncomputable def delAt (j:Nat) (g:St→Option PV):EvS:=fun st=>match st[j]?,g st with
 | some (.own xs),some (.int i)=>if (-(2 ^ 63)≤i∧i < 2 ^ 63)∧xs.length≤16777216 then (match seqIndex? i xs.length with
  | some k=>some (.next,st.set j (.own (xs.eraseIdx k)))
  | none=>none) else none
 | _,_=>none
set_option tactic.hygienic true in
theorem x_delown {x:Str} {j:Nat} {p pos' pos:Pos} {slice:Expr} {g:St→Option PV} (hx:F.names[j]? =some x) (hg:SoundP X F d slice g)
  (hn:autoParam ((x==("__classdict__":Str))=false) Mine.au3._auto_1) (hd:autoParam ((x==("__debug__":Str))=false) Mine.au3._auto_1):
  SoundX X F d (.Delete [.Subscript (.Name x p) slice pos'] pos) (delAt j g):=by
 refine @SoundU.intro _ _ _ _ _ _ _ _ ?_
 intro A Av Mu env st st' s v Q E hA hf R₀ tk k
 unfold delAt at hf
 split at hf
 case h_2=>cases hf
 rename_i xs i e1 e2
 split at hf
 case isFalse=>cases hf
 rename_i hr
 split at hf<;>cases hf
 rename_i kk e3
 obtain ⟨l,vs,n,hv,gl,hm,z⟩:=R₀.vars j x _ hx e1
 refine wpAny_Delete (wpAny_deleteEach_cons (wpAny_delete_Subscript (wpAny_Name (wp_load R₀ hv hn (hg _ hA e2 R₀ fun vi s1 G1 V1=>?_)) hd)))
 unfold VR at V1
 obtain ⟨t,rfl⟩:=V1
 have hv2:=hv.keep (env:=env) (h':=s1.heap) fun a o e _=>G1.keep a o e
 refine delItem_at (k:=kk) (G1.keep _ _ gl) (by unfold Builtin.List.listFitsIndex;simp;lia) (by rw [List.size_toArray,z.length];exact e3) (fun h' sb g2=>?_) (by rw [List.size_toArray,z.length];exact hr.2)
 refine wpAny_deleteEach_nil ?_
 obtain ⟨R3,S3⟩:=(R₀.grow G1).turnOwn (tk:=s1.toks) (us:=vs.eraseIdx kk) hx e1 hv2 sb g2 (VRs.erase (z.grow G1))
 exact k _ _ _ _ R3 ((Step.ofGrow G1).trans S3 R₀.lt) trivial
end
end Mine
end
section
open PySem PySem.W PyProof.Rows PySem.Builtin.Str PySem.Builtin PySem.Builtin.ObjectAttr
namespace Mine
theorem mro_object':mroOf (.type "object")=pure [.type "object"]:=by rw [mroOf_type];kernel_rfl
theorem lk_obj_new:typeLookup (.type "object") "__new__"=pure (some (.builtin "object.__new__")):=by rw [typeLookup_type,builtinLookup_eq_fast];kernel_rfl
theorem called_object:TypeCalled "object" "object.__new__" "object.__init__":=
 ⟨by decide+kernel,by decide+kernel,⟨_,_,mro_object'⟩,madeBy_type mro_object' lk_obj_new (by decide+kernel),by decide+kernel,by rw [isSubtype_type];kernel_rfl,PySem.F.slot_object_init⟩
theorem typeCall_object:checkTypeCall "object" ⟨[],[]⟩=pure ():=by kernel_rfl
theorem newCall_object:checkBuiltinCall "object.__new__" ⟨[.type "object"],[]⟩=pure ():=by kernel_rfl
theorem entry_object_new':entryFor table "object.__new__"=some Builtin.«object.__new__» :=entryFor_of_tree (by kernel_rfl)
theorem object_new_meets:Meets (Builtin.«object.__new__» ⟨[.type "object"],[]⟩) (fun _ R s=>R (.ok (.ret (.ref s.heap.objs.size))) { s with heap:=s.heap.push { cls:=.type "object",data:=.plain } }):=by
 refine Meets.of_wp fun prog w A R s hs=>?_
 obtain ⟨hp,g,d,tk,os⟩:=s
 have h0:=called_object.made
 have hmro:=mro_object'
 unfold Builtin.«object.__new__»
 repeat (any_goals (first | assumption | wp_step))
 exact ⟨_,rfl,hs⟩
theorem args_obj_init (a:Value):argsOk "object.__init__" ⟨[a],[]⟩:=by
 unfold argsOk;rw [signature?_of (id:="object.__init__") (n:=['_','_','t','i','n','i','_','_']) (o:=['t','c','e','j','b','o']) (by kernel_rfl) PySem.F.owner_object];kernel_rfl
theorem call_object {prog:Program} {w:World} {A:Around} {E:Value→Shared→Prop} {s:Shared} {Q:Value→Shared→Prop}
  (h:Q (.ref s.heap.objs.size) { s with heap:=s.heap.push { cls:=.type "object",data:=.plain } }):
  wpAny (model prog w) A (call (.type "object") []) Q E s:=
 callType_meets called_object typeCall_object newCall_object entry_object_new' PySem.F.entry_object_init object_new_meets (Q₁:=fun v s'=>s'.TypeIs v "object"∧Q v s') ⟨⟨_,Heap.get?_push_size _ rfl,rfl⟩,h⟩ fun obj s₁ hq=>
  ⟨hq.1,args_obj_init obj,_,(show Meets (Builtin.«object.__init__» ⟨[obj],[]⟩) (fun _ R s=>R (.ok (.ret .none)) s) from Meets.of_wp fun prog w A R s hs=>wpAny_pure ⟨_,rfl,hs⟩),rfl,hq.2⟩
end Mine
end
section
open PySem PySem.W PyProof.Rows PySem.Builtin.Str
namespace Mine
section
variable {X:Cx} {F:FI} {d:Nat}
noncomputable def catL:PV→PV→Option PV
 | .list xs,.list ys=>if xs.length+ys.length≤16777216 then some (.list (xs++ys)) else none
 | _,_=>none
set_option tactic.hygienic true in
theorem catL_w {A:Around} {Av:Addr→Prop} {s:Shared} {Q:Value→Shared→Prop} {E:Value→Shared→Prop} {a b c:PV} {va vb:Value} (h:catL a b=some c) (lt:∀a,Av a→a < s.heap.objs.size) (ha:VR s.heap Av va a) (hb:VR s.heap Av vb b) (k:∀v s',Grow s s'→VR s'.heap Av v c→Q v s'):
  wpAny (model X.prog X.w) A (binaryOp .Add va vb) Q E s:=by
 unfold catL at h
 split at h<;>(try cases h)
 split at h<;>cases h
 rename_i xs ys hlen
 unfold VR at ha hb
 obtain ⟨l,vs,n,rfl,g,na,z⟩:=ha
 obtain ⟨l2,us,n2,rfl,g2,na2,z2⟩:=hb
 have hv:=z.length
 have hu:=z2.length
 have e:vs.toArray++us.toArray=(vs++us).toArray:=by simp
 refine concat_meets ⟨_,g,rfl⟩ ⟨_,g2,rfl⟩ noFill_list_add seq_list_add PySem.F.slot_list_add PySem.F.entry_list_add (PySem.F.args_list_add_2 _ _) (list_addW l l2 vs.toArray us.toArray n n2 none none #[] #[] (by rw [List.size_toArray,List.size_toArray,hv,hu];exact hlen)) ⟨g,g2,?_⟩
 rw [e]
 refine k _ _ (Grow.push _) ?_
 unfold VR
 refine ⟨_,vs++us,0,rfl,Heap.get?_push_size _ rfl,fun q=>absurd (lt _ q) (Nat.lt_irrefl _),?_⟩
 exact (z.append z2).mono (fun a o e _=>Heap.get?_push_of_some _ e) (fun _ _ n=>n) (by simp)
theorem s_cat {l r:Expr} {pos:Pos} {f g:EvE} (hl:SoundE X F d l f) (hr:SoundE X F d r g):SoundE X F d (.BinOp l .Add r pos) (bindE f fun a=>bindE g fun b=>liftE (catL a b)):=by
 refine @SoundT.intro _ _ _ _ _ _ _ _ ?_
 intro A Av Mu env st st' s v Q E hA hf R₀ tk k
 refine bindE_elim hf fun a st1 h1 hf=>?_
 refine bindE_elim hf fun b st2 h2 hf=>?_
 obtain ⟨h3,rfl⟩:=liftE_some hf
 refine wpAny_BinOp (hl _ hA h1 R₀ tk fun va s1 Av1 Mu1 R1 S1 V1 tk1=>hr _ hA h2 R1 tk1 fun vb s2 Av2 Mu2 R2 S2 V2 tk2=>?_)
 refine catL_w h3 R2.lt (V1.step S2.toStep R1.ma) V2 fun v' s' G V=>k _ _ Av2 Mu2 (R2.grow G) ((S1.trans S2 R₀.lt).trans (StepE.ofGrow G) R₀.lt) V
noncomputable def replF (y z:Str):PV→Option PV
 | .str x=>if x.length+(x.length+1) * z.length≤16777216 then some (.str (Txt.replace x y z)) else none
 | _=>none
set_option tactic.hygienic true in
theorem s_replace {o:Expr} {apos pos p1 p2:Pos} {k1 k2:Nat} {y z:Str} {f:EvE} (ho:SoundE X F d o f)
  (hbase:autoParam (∀env,attributeBase o "replace" env (eval o env)=eval o env) Mine.au4._auto_1)
  (hline:autoParam ((apos.endLine==pos.line)=true) Mine.au2._auto_1):SoundE X F d (.Call (.Attribute o "replace" apos) [.Constant (.str y) k1 p1,.Constant (.str z) k2 p2] [] pos) (bindE f fun a=>liftE (replF y z a)):=by
 refine @SoundT.intro _ _ _ _ _ _ _ _ ?_
 intro A Av Mu env st st' s v Q E hA hf R₀ tk k
 refine bindE_elim hf fun a st1 h1 hf1=>?_
 obtain ⟨h3,e3⟩:=liftE_some hf1
 subst e3
 unfold replF at h3
 split at h3<;>(try cases h3)
 split at h3<;>cases h3
 rename_i x hlen
 refine wpAny_Call_method_lateS (hbase env) rfl hline (ho _ hA h1 R₀ tk fun va s1 Av1 Mu1 R1 S1 V1 tk1=>?_)
 unfold VR at V1
 obtain ⟨t,rfl⟩:=V1
 refine ⟨"str","str.replace",_root_.PySem.F.plainAttrs_str,_root_.PySem.F.slot_str_replace,_root_.PySem.F.type_str_replace,typeIs_str _ _ _,(fun b q=>by cases q),callArgs rfl ?_⟩
 show wpAny _ _ (spliced (backTo pos [(false,eval (.Constant (.str y) k1 p1) env),(false,eval (.Constant (.str z) k2 p2) env)])) _ _ _
 refine Calls.spliced_cons (Calls.Constant_str (k:=k1) (pos:=p1) (Calls.spliced_cons (Calls.Constant_str (k:=k2) (pos:=p2) (Calls.spliced_nil ?_))))
 refine SC.replaceA (by show s1.toks≠0;lia) (by show s1.toks+1≠0;lia) (by show s1.toks≠s1.toks+1;lia) hlen (fun t' k'=>?_) ?_
 ·exact k _ _ _ _ (R1.grow .toks) (S1.trans (StepE.ofGrow .toks) R₀.lt) VR.str'
 ·obtain ⟨mc,hn,h0⟩:=X.nb
  exact ⟨mc,hn.keeps fun b o e=>(R1.base b o e).1,h0⟩
end
end Mine
end
section
namespace Mine
open PySem PySem.Sre
noncomputable def twin:Array Nat:=#[14,14,4,1,1,9,0,64,0,1342177280,0,0,0,0,0,17,0,13,11,9,0,64,0,1342177280,0,0,0,0,0,17,1,1]
noncomputable def sp (c:Nat):Bool:=c==38||c==124||c==126
noncomputable def spw (c:Nat):Bool:=decide (c < 256)&&(twin.getD (5+(1+c / 32)) 0).testBit (c % 32)
noncomputable def spw2 (c:Nat):Bool:=decide (c < 256)&&(twin.getD (19+(1+c / 32)) 0).testBit (c % 32)
theorem spw_small:∀c,c < 256→spw c=sp c:=by decide+kernel
theorem spw2_small:∀c,c < 256→spw2 c=sp c:=by decide+kernel
theorem sp_big {c:Nat} (h:¬ c < 256):sp c=false:=by
 unfold sp
 simp
 lia
theorem spw_eq (c:Nat):spw c=sp c:=by
 by_cases h:c < 256
 ·exact spw_small c h
 ·rw [sp_big h]
  unfold spw
  simp [h]
theorem spw2_eq (c:Nat):spw2 c=sp c:=by
 by_cases h:c < 256
 ·exact spw2_small c h
 ·rw [sp_big h]
  unfold spw2
  simp [h]
theorem inSet_twin (c:Nat) (seen:Seen):∃s',inSet twin c 32 5 true seen=.ok (sp c,s'):=by
 rw [←spw_eq c]
 unfold spw
 by_cases h:(decide (c < 256)&&(twin.getD (5+(1+c / 32)) 0).testBit (c % 32))=true
 ·rw [h]
  refine ⟨seen.add (twin.getD (5+0) 0),?_⟩
  show (if (decide (c < 256)&&(twin.getD (5+(1+c / 32)) 0).testBit (c % 32))=true then _ else _)=_
  rw [if_pos h]
 ·have h':(decide (c < 256)&&(twin.getD (5+(1+c / 32)) 0).testBit (c % 32))=false:=by simpa using h
  rw [h']
  refine ⟨(seen.add (twin.getD (5+0) 0)).add (twin.getD (14+0) 0),?_⟩
  show (if (decide (c < 256)&&(twin.getD (5+(1+c / 32)) 0).testBit (c % 32))=true then _ else _)=_
  rw [if_neg h]
  rfl
theorem inSet_twin2 (c:Nat) (seen:Seen):∃s',inSet twin c 32 19 true seen=.ok (sp c,s'):=by
 rw [←spw2_eq c]
 unfold spw2
 by_cases h:(decide (c < 256)&&(twin.getD (19+(1+c / 32)) 0).testBit (c % 32))=true
 ·rw [h]
  refine ⟨seen.add (twin.getD (19+0) 0),?_⟩
  show (if (decide (c < 256)&&(twin.getD (19+(1+c / 32)) 0).testBit (c % 32))=true then _ else _)=_
  rw [if_pos h]
 ·have h':(decide (c < 256)&&(twin.getD (19+(1+c / 32)) 0).testBit (c % 32))=false:=by simpa using h
  rw [h']
  refine ⟨(seen.add (twin.getD (19+0) 0)).add (twin.getD (28+0) 0),?_⟩
  show (if (decide (c < 256)&&(twin.getD (19+(1+c / 32)) 0).testBit (c % 32))=true then _ else _)=_
  rw [if_neg h]
  rfl
noncomputable def nextSp (text:Array Nat):Nat→Nat→Option Nat
 | 0,_=>none
 | n+1,s=>if s≥text.size then none else if sp (text.getD s 0)=true then some s else nextSp text n (s+1)
theorem admitted_twin (m:M) (hc:m.code=twin) (hl:m.lim=m.text.size):∀(n s:Nat) (seen:Seen),∃s',M.admitted m n s seen=.ok (nextSp m.text n s,s')
 | 0,_,seen=>⟨seen,rfl⟩
 | n+1,s,seen=>by
  unfold M.admitted nextSp
  rw [hl]
  by_cases h:s≥m.text.size
  ·rw [if_pos h,if_pos h];exact ⟨_,rfl⟩
  ·rw [if_neg h,if_neg h,hc]
   obtain ⟨s',e⟩:=inSet_twin (m.text.getD s 0) seen
   have e':inSet twin (m.text.getD s 0) twin.size 5 true seen=.ok (sp (m.text.getD s 0),s'):=e
   rw [e']
   cases hs:sp (m.text.getD s 0) with
   | true=>exact ⟨_,rfl⟩
   | false=>
    obtain ⟨s2,e2⟩:=admitted_twin m hc hl n (s+1) s'
    exact ⟨s2,e2⟩
noncomputable def mFresh (text:Array Nat) (pos:Nat) (must:Bool) (ls:Nat):M:=
 { code:=twin,text,lim:=text.size,start:=pos,pc:=15,pos,handed:=pos,marks:=#[none,none],mustAdvance:=must,seen:=({}:Seen).add 14,lastStart:=ls }
noncomputable def mStart (text:Array Nat) (s:Nat) (seen:Seen):M:=
 { code:=twin,text,lim:=text.size,start:=s,lastStart:=text.size,pc:=15,pos:=s,handed:=s,marks:=#[none,none],mustAdvance:=false,seen,frames:=[{ wait:=.nextStart,pc:=15,pos:=s,outermost:=true }],weight:=1 }
theorem forSearch_eq (text:Array Nat) (pos:Nat) (must:Bool):forSearch twin text 1 pos text.size must=
  if (decide (pos>text.size)||decide (text.size - pos < 1))=true then (mFresh text pos must 0).say false else (mFresh text pos must text.size).attemptFrom pos true:=by
 rfl
theorem nextSp_lt {text:Array Nat}:∀{n s p:Nat},nextSp text n s=some p→s≤p∧p < text.size∧sp (text.getD p 0)=true
 | 0,_,_,h=>by cases h
 | n+1,s,p,h=>by
  unfold nextSp at h
  by_cases hg:s≥text.size
  ·rw [if_pos hg] at h;cases h
  rw [if_neg hg] at h
  cases hs:sp (text.getD s 0) with
  | true=>
   rw [hs,if_pos rfl] at h
   cases h
   exact ⟨Nat.le_refl _,Nat.lt_of_not_le hg,hs⟩
  | false=>
   rw [hs,if_neg Bool.false_ne_true] at h
   exact ⟨Nat.le_of_succ_le (nextSp_lt h).1,(nextSp_lt h).2⟩
theorem search_none {text:Array Nat} {pos:Nat} {must:Bool} (h:nextSp text (text.size+1 - pos) pos=none):∃m:M,forSearch twin text 1 pos text.size must=m∧m.answer=some false∧m.frames=[]∧m.outcome=none:=by
 rw [forSearch_eq]
 by_cases hc:(decide (pos>text.size)||decide (text.size - pos < 1))=true
 ·rw [if_pos hc]
  exact ⟨_,rfl,rfl,rfl,rfl⟩
 ·rw [if_neg hc]
  obtain ⟨s',e⟩:=admitted_twin (mFresh text pos must text.size) rfl rfl (text.size+1 - pos) pos (mFresh text pos must text.size).seen
  refine ⟨_,rfl,?_⟩
  unfold M.attemptFrom
  rw [show (mFresh text pos must text.size).hasFirstSet=true from rfl,if_neg (show ¬ ((!true)=true) by decide)]
  rw [show (mFresh text pos must text.size).lim=text.size from rfl,e]
  rw [show (mFresh text pos must text.size).text=text from rfl,h]
  exact ⟨rfl,rfl,rfl⟩
theorem search_some {text:Array Nat} {pos s:Nat} {must:Bool} (h:nextSp text (text.size+1 - pos) pos=some s):∃seen,forSearch twin text 1 pos text.size must=mStart text s seen:=by
 have hlt:=nextSp_lt h
 rw [forSearch_eq,if_neg (by simp;lia)]
 obtain ⟨s',e⟩:=admitted_twin (mFresh text pos must text.size) rfl rfl (text.size+1 - pos) pos (mFresh text pos must text.size).seen
 refine ⟨s',?_⟩
 unfold M.attemptFrom
 rw [show (mFresh text pos must text.size).hasFirstSet=true from rfl,if_neg (show ¬ ((!true)=true) by decide)]
 rw [show (mFresh text pos must text.size).lim=text.size from rfl,e]
 rw [show (mFresh text pos must text.size).text=text from rfl,h]
 rfl
theorem step1 (text:Array Nat) (s:Nat) (seen:Seen):(mStart text s seen).step={ mStart text s (seen.add 17) with marks:=#[some s,none],lastmark:=0,pc:=17 }:=by
 rfl
theorem step2 (text:Array Nat) (s:Nat) (seen:Seen) (hs:s < text.size) (hp:sp (text.getD s 0)=true):∃seen',({ mStart text s seen with marks:=#[some s,none],lastmark:=0,pc:=17 }:M).step={ mStart text s seen' with marks:=#[some s,none],lastmark:=0,pc:=29,pos:=s+1 }:=by
 obtain ⟨s',e⟩:=inSet_twin2 (text.getD s 0) (seen.add 13)
 refine ⟨s',?_⟩
 show (if s≥text.size then _ else (match inSet twin (text.getD s 0) 32 19 true (seen.add 13) with | .error why=>_ | .ok (false,seen)=>_ | .ok (true,seen)=>_))=_
 rw [if_neg (by lia),e,hp]
 rfl
theorem step3 (text:Array Nat) (s:Nat) (seen:Seen):({ mStart text s seen with marks:=#[some s,none],lastmark:=0,pc:=29,pos:=s+1 }:M).step={ mStart text s (seen.add 17) with marks:=#[some s,some (s+1)],lastmark:=1,lastindex:=1,pc:=31,pos:=s+1 }:=by
 show M.mark { mStart text s (seen.add 17) with marks:=#[some s,none],lastmark:=0,pc:=29,pos:=s+1 } 1=_
 unfold M.mark
 rw [if_pos (show ((1:Nat):Int)≤0+1 by decide)]
 rfl
theorem step4 (text:Array Nat) (s:Nat) (seen:Seen):({ mStart text s seen with marks:=#[some s,some (s+1)],lastmark:=1,lastindex:=1,pc:=31,pos:=s+1 }:M).step={ mStart text s (seen.add 1) with marks:=#[some s,some (s+1)],lastmark:=1,lastindex:=1,pc:=31,pos:=s+1,handed:=s+1,answer:=some true }:=by
 rfl
noncomputable def mEnd (text:Array Nat) (s:Nat) (seen:Seen):M:=
 { code:=twin,text,lim:=text.size,start:=s,lastStart:=text.size,pc:=15,pos:=s,handed:=s+1,marks:=#[some s,some (s+1)],lastmark:=1,lastindex:=1,mustAdvance:=false,seen,answer:=some true,outcome:=some .matched }
theorem run4 (text:Array Nat) (s:Nat) (seen:Seen) (hs:s < text.size) (hp:sp (text.getD s 0)=true):∃m:M,(mStart text s seen).runFor 4=m∧m.outcome=none∧∃seen',m.runFor 4=mEnd text s seen':=by
 obtain ⟨s2,e2⟩:=step2 text s (seen.add 17) hs hp
 refine ⟨{ mStart text s ((s2.add 17).add 1) with marks:=#[some s,some (s+1)],lastmark:=1,lastindex:=1,pc:=31,pos:=s+1,handed:=s+1,answer:=some true },?_,rfl,_,rfl⟩
 show M.runFor 3 (mStart text s seen).step=_
 rw [step1]
 have h2:∀m:M,m.outcome=none→m.runFor 3=(m.step).runFor 2:=fun m h=>by show (if m.outcome.isSome=true then m else _)=_;rw [h];rfl
 have h3:∀m:M,m.outcome=none→m.runFor 2=(m.step).runFor 1:=fun m h=>by show (if m.outcome.isSome=true then m else _)=_;rw [h];rfl
 have h4:∀m:M,m.outcome=none→m.runFor 1=(m.step).runFor 0:=fun m h=>by show (if m.outcome.isSome=true then m else _)=_;rw [h];rfl
 rw [h2 _ rfl,e2,h3 _ rfl,step3,h4 _ rfl,step4]
 rfl
theorem run_none {m:M} (h1:m.answer=some false) (h2:m.frames=[]) (h3:m.outcome=none):(m.runFor 4).outcome=some .failed:=by
 obtain ⟨⟩:=m
 simp only at h1 h2 h3
 subst h1 h2 h3
 rfl
end Mine
end
section
open PySem PySem.W PyProof.Rows PySem.Builtin.Str PySem.Builtin.Re PySem.Sre
namespace Mine
section
variable {M:Model} {A:Around} {E:Value→Shared→Prop} {s:Shared}
theorem wp_ruleLoop {seen:Sre.Seen}:∀(l:List Nat) {Q:PUnit→Shared→Prop},Q ⟨⟩ s→wpAny M A (forIn l PUnit.unit fun i _=>(if seen.has i=true then do rule (Sre.names.getD i "");pure (ForInStep.yield PUnit.unit) else pure (ForInStep.yield PUnit.unit):Sem (ForInStep PUnit))) Q E s
 | [],Q,h=>by rw [List.forIn_nil];exact wpAny_pure h
 | i::l,Q,h=>by
  rw [List.forIn_cons]
  by_cases hc:seen.has i=true
  ·rw [if_pos hc]
   exact wpAny_bind (wpAny_bind (wpAny_rule (wpAny_pure (wp_ruleLoop l h))))
  ·rw [if_neg hc]
   exact wpAny_bind (wpAny_pure (wp_ruleLoop l h))
theorem drive_done {m m':Sre.M} {n:Nat} {Q:Sre.M→Shared→Prop} (h1:m.runFor 4=m') (h2:m'.outcome.isSome=true) (h:Q m' s):wpAny M A (reDrive (n+1) m) Q E s:=by
 unfold reDrive
 show wpAny _ _ (if (m.runFor 4).outcome.isSome=true then pure (m.runFor 4) else _) _ _ _
 rw [h1,if_pos h2]
 exact wpAny_pure h
theorem drive_on {m m':Sre.M} {n:Nat} {Q:Sre.M→Shared→Prop} (h1:m.runFor 4=m') (h2:m'.outcome=none) (h:wpAny M A (reDrive n m') Q E s):wpAny M A (reDrive (n+1) m) Q E s:=by
 unfold reDrive
 show wpAny _ _ (if (m.runFor 4).outcome.isSome=true then pure (m.runFor 4) else do rule "sre.turn";reDrive n (m.runFor 4)) _ _ _
 rw [h1,h2,if_neg (by decide)]
 exact wpAny_bind (wpAny_rule h)
theorem run_none_w {text:Array Nat} {pos:Nat} {must:Bool} {Q:Option Sre.M→Shared→Prop} (hn:nextSp text (text.size+1 - pos) pos=none) (h:Q none s):wpAny M A (reRunToEnd (forSearch twin text 1 pos text.size must)) Q E s:=by
 obtain ⟨m,e,h1,h2,h3⟩:=search_none (must:=must) hn
 rw [e]
 have h4:=Mine.run_none h1 h2 h3
 unfold reRunToEnd
 have e64:(2 ^ 64:Nat)=18446744073709551615+1:=rfl
 rw [e64]
 refine wpAny_bind (drive_done rfl (by rw [h4];rfl) ?_)
 refine wpAny_bind (wp_ruleLoop _ ?_)
 rw [h4]
 exact wpAny_pure h
theorem run_some_w {text:Array Nat} {pos p:Nat} {must:Bool} {Q:Option Sre.M→Shared→Prop} (hn:nextSp text (text.size+1 - pos) pos=some p) (h:∀seen,Q (some (mEnd text p seen)) s):wpAny M A (reRunToEnd (forSearch twin text 1 pos text.size must)) Q E s:=by
 obtain ⟨seen,e⟩:=search_some (must:=must) hn
 obtain ⟨h1,h2,h3⟩:=nextSp_lt hn
 rw [e]
 obtain ⟨m,e1,e2,seen',e3⟩:=run4 text p seen h2 h3
 unfold reRunToEnd
 have e64:(2 ^ 64:Nat)=18446744073709551614+1+1:=rfl
 rw [e64]
 refine wpAny_bind (drive_on e1 e2 (drive_done e3 rfl ?_))
 refine wpAny_bind (wp_ruleLoop _ ?_)
 exact wpAny_pure (h seen')
end
theorem plainAttrs_pat:PlainAttrs "re.Pattern":=
 ⟨⟨"object.__getattribute__",by rw [typeLookup_type,builtinLookup_eq_fast];kernel_rfl,by decide+kernel⟩,by rw [typeLookup_type,builtinLookup_eq_fast];kernel_rfl⟩
theorem slot_pat_sub:Slot "re.Pattern" "sub" "re.Pattern.sub":=
 .of (owner:="re.Pattern") (n:="sub") (by rw [typeLookup_type,builtinLookup_eq_fast];kernel_rfl) (by decide+kernel) (by decide+kernel) (by decide+kernel)
  (by first | exact .inl (by decide+kernel) | exact .inr (by decide+kernel)) (by rw [isSubtype_type];kernel_rfl)
theorem type_pat_sub:typeOf (.builtin "re.Pattern.sub")=pure (.type "method_descriptor"):=by show builtinType _=_;rw [builtinType_eq_fast];kernel_rfl
theorem entry_pat_sub:entryFor table "re.Pattern.sub"=some Builtin.«re.Pattern.sub» :=entryFor_of_tree (by kernel_rfl)
theorem owner_pat:Manifest.owners.lookup (String.ofList ['n','r','e','t','t','a','P','.','e','r'].reverse)=some Manifest.sig_re_Pattern:=by kernel_rfl
theorem args_pat_sub (a b c:Value):argsOk "re.Pattern.sub" ⟨[a,b,c],[]⟩:=by
 unfold argsOk;rw [signature?_of (id:="re.Pattern.sub") (n:=['b','u','s']) (o:=['n','r','e','t','t','a','P','.','e','r']) (by kernel_rfl) owner_pat];kernel_rfl
theorem entry_pat_loop:entryFor table "re.Pattern.sub.loop"=some Builtin.«re.Pattern.sub.loop» :=entryFor_of_tree (by kernel_rfl)
theorem plainAttrs_match:PlainAttrs "re.Match":=
 ⟨⟨"object.__getattribute__",by rw [typeLookup_type,builtinLookup_eq_fast];kernel_rfl,by decide+kernel⟩,by rw [typeLookup_type,builtinLookup_eq_fast];kernel_rfl⟩
theorem slot_match_group:Slot "re.Match" "group" "re.Match.group":=
 .of (owner:="re.Match") (n:="group") (by rw [typeLookup_type,builtinLookup_eq_fast];kernel_rfl) (by decide+kernel) (by decide+kernel) (by decide+kernel)
  (by first | exact .inl (by decide+kernel) | exact .inr (by decide+kernel)) (by rw [isSubtype_type];kernel_rfl)
theorem type_match_group:typeOf (.builtin "re.Match.group")=pure (.type "method_descriptor"):=by show builtinType _=_;rw [builtinType_eq_fast];kernel_rfl
theorem entry_match_group:entryFor table "re.Match.group"=some Builtin.«re.Match.group» :=entryFor_of_tree (by kernel_rfl)
theorem owner_match:Manifest.owners.lookup (String.ofList ['h','c','t','a','M','.','e','r'].reverse)=some Manifest.sig_re_Match:=by kernel_rfl
theorem args_match_group (a b:Value):argsOk "re.Match.group" ⟨[a,b],[]⟩:=by
 unfold argsOk;rw [signature?_of (id:="re.Match.group") (n:=['p','u','o','r','g']) (o:=['h','c','t','a','M','.','e','r']) (by kernel_rfl) owner_match];kernel_rfl
noncomputable abbrev matchObj (x:Str) (t:Tok) (P tA:Addr):Obj:={ cls:=.type "re.Match",data:=.fields #[.str x t,.ref P,rawInt ((0:Nat):Int),rawInt ((x.cps.size:Nat):Int),rawInt 1,.ref tA] }
noncomputable abbrev spanObj (s:Nat):Obj:={ cls:=.type "tuple",data:=.seq #[rawInt (s:Int),rawInt ((s+1:Nat):Int),rawInt (s:Int),rawInt ((s+1:Nat):Int)] 0 }
section
variable {M:Model} {A:Around} {E:Value→Shared→Prop} {s:Shared}
theorem run_group {x:Str} {t u:Tok} {P tA a:Addr} {p:Nat} {Q:Fin→Shared→Prop} (hx:s.heap.get? a=some (matchObj x t P tA)) (ht:s.heap.get? tA=some (spanObj p))
  (h:Q (.done (.ret (.str ⟨x.cps.extract p (p+1)⟩ s.toks))) { s with toks:=s.toks+1 }):wpAny M A (Builtin.«re.Match.group» ⟨[.ref a,.int 1 u],[]⟩) Q E s:=by
 unfold Builtin.«re.Match.group»
 refine wpAny_bind (wpAny_of_eq (a:=()) (by first | rfl | kernel_rfl) ?_)
 show wpAny _ _ (bind (reFound (.ref a)) _) _ _ _
 have hfound:∀{Q':ReFound→Shared→Prop},Q' { fields:=#[.str x t,.ref P,rawInt ((0:Nat):Int),rawInt ((x.cps.size:Nat):Int),rawInt 1,.ref tA],spans:=#[(p:Int),((p+1:Nat):Int),(p:Int),((p+1:Nat):Int)] } s→wpAny M A (reFound (.ref a)) Q' E s:=fun {Q'} hQ=>by
  unfold reFound
  show wpAny _ _ (bind (fieldsOf (.ref a)) _) _ _ _
  have hf:∀{Q'':Array Value→Shared→Prop},Q'' #[.str x t,.ref P,rawInt ((0:Nat):Int),rawInt ((x.cps.size:Nat):Int),rawInt 1,.ref tA] s→wpAny M A (fieldsOf (.ref a)) Q'' E s:=fun {Q''} hQ=>by
   unfold fieldsOf
   exact wpAny_bind (wpAny_load hx (wpAny_pure hQ))
  refine wpAny_bind (hf ?_)
  refine wpAny_bind ?_
  unfold reRawItems
  show wpAny _ _ (bind (seqItems? (.ref tA)) _) _ _ _
  have e:Array.map reRawOf ((some #[rawInt (p:Int),rawInt ((p+1:Nat):Int),rawInt (p:Int),rawInt ((p+1:Nat):Int)]).getD #[])=#[(p:Int),((p+1:Nat):Int),(p:Int),((p+1:Nat):Int)]:=by simp [rawInt,reRawOf]
  refine wpAny_bind (wpAny_seqItems ht rfl (wpAny_pure (wpAny_pure ?_)))
  rw [e]
  exact hQ
 refine wpAny_bind (hfound ?_)
 show wpAny _ _ (bind (reGroupNumber _ (.int 1 u)) _) _ _ _
 refine wpAny_bind (wpAny_of_eq (a:=1) (by first | rfl | kernel_rfl) ?_)
 show wpAny _ _ (bind (reGroupText _ 1 .none) _) _ _ _
 refine wpAny_bind ?_
 unfold reGroupText
 show wpAny _ _ (if (decide ((p:Int) < 0)||decide (((p+1:Nat):Int) < 0))=true then _ else _) _ _ _
 rw [if_neg (by simp;lia)]
 refine wpAny_bind (wpAny_of_eq (a:=(x.cps,0)) (by first | rfl | kernel_rfl) ?_)
 show wpAny _ _ (mkStr ⟨x.cps.extract p (p+1)⟩) _ _ _
 refine wpAny_mkStr (wpAny_pure h) ?_
 show (x.cps.extract p (p+1)).size≤sizeLine
 rw [Array.size_extract]
 have:min (p+1) x.cps.size - p≤1:=by lia
 exact Nat.le_trans this (by decide)
end
noncomputable abbrev lamParams (pa:Pos):Arguments:={ posonlyargs:=[],args:=[{ arg:="_m",annotation:=none,pos:=pa }],vararg:=none,kwonlyargs:=[],kw_defaults:=[],kwarg:=none,defaults:=[] }
noncomputable abbrev lamBody (p1 p2 p3 p4 p5 p6 p7 p8:Pos):Expr:=
 .BinOp (.Constant (.str "\\") 0 p1) .Add (.BoolOp .Or [.Call (.Attribute (.Name "_m" p2) "group" p3) [.Constant (.int 1) 0 p4] [] p5, .Constant (.str "") 0 p6] p7) p8
noncomputable abbrev lamScope:Scope:={ kind:=.function,names:=[(PySem.Str.ofString "_m",.local)],isGenerator:=false,isCoroutine:=false,more:=[] }
section
variable {prog:Program} {w:World} {A:Around} {E:Value→Shared→Prop} {s:Shared}
theorem call_lam {f:Addr} {name qual:Str} {pa p1 p2 p3 p4 p5 p6 p7 p8:Pos} {pm cdv ctv:Value} {x:Str} {t:Tok} {P tA a:Addr} {p:Nat} {Q:Value→Shared→Prop}
  (ho:s.heap.get? f=some { cls:=.type "function",data:=.func (kla_fn name qual (lamParams pa) (lamBody p1 p2 p3 p4 p5 p6 p7 p8) lamScope [] pm cdv ctv) }) (hcd:s.heap.CodeRec cdv qual) (hl:s.heap.NoLimit) (hroom:A.depth < recursionLimit)
  (hx:s.heap.get? a=some (matchObj x t P tA)) (ht:s.heap.get? tA=some (spanObj p)) (hp:p < x.cps.size) (hline:(p3.endLine==p5.line)=true)
  (k : ∀ u s', Grow s s' → Q (.str (("\\" : Str) ++ ⟨x.cps.extract p (p + 1)⟩) u) s') : wpAny (model prog w) A (call (.ref f) [.ref a]) Q E s := by
 refine wpAny_call (kla_callFunE hroom ho rfl rfl rfl rfl hcd ?_)
 refine wpAny_of_eq (a:=[((PySem.Str.ofString "_m"),.ref a)]) (by first | rfl | kernel_rfl) ?_
 refine wpAny_newFunctionEnv (by intro y hy;simp at hy;subst hy;decide) (by intro y hy;simp at hy;subst hy;rfl) (fun h₁ hns hsb=>⟨hl.fresh _ hsb,?_⟩) rfl
 have hk₁:∀b o,s.heap.get? b=some o→h₁.get? b=some o:=fun b o e=>hsb.extBut b o (Nat.ne_of_lt (Heap.lt_size e)) (Heap.get?_push_of_some _ e)
 have hz₁:s.heap.objs.size≤h₁.objs.size:=by
  have:=hsb.1
  rw [Heap.size_push] at this
  lia
 generalize hE:newEnv lamScope s.heap.objs.size mainGlobals [] (qual++".<locals>.") (some f) cdv none builtinsNs=env
 have hkind:env.scope.kind=.function:=by rw [←hE];rfl
 have hloc:env.kindOf (PySem.Str.ofString "_m")=some .local:=by rw [←hE];rfl
 have hL:env.locals=s.heap.objs.size:=by rw [←hE];rfl
 have G0:Grow s { s with heap:=h₁,toks:=s.toks+1 }:=⟨hk₁,hz₁,rfl,rfl⟩
 refine kla_codeExpr ?_
 refine wpAny_BinOp (Calls.Constant_str ?_)
 refine BoolOp_or ?_
 refine wpAny_Call_method_lateS rfl rfl hline (wpAny_Name (wpAny_loadName_local hkind hloc (by rw [hL];exact hns) (v:=.ref a) (by rfl) ?_) (by decide+kernel))
 have hx₁:h₁.get? a=some (matchObj x t P tA):=hk₁ _ _ hx
 have ht₁:h₁.get? tA=some (spanObj p):=hk₁ _ _ ht
 refine ⟨"re.Match","re.Match.group",plainAttrs_match,slot_match_group,type_match_group,⟨_,hx₁,rfl⟩,(fun b q=>by cases q;exact ⟨_,hx₁,rfl⟩),callArgs rfl ?_⟩
 show wpAny _ _ (spliced (backTo p5 [(false,eval (.Constant (.int 1) 0 p4) env)])) _ _ _
 refine Calls.spliced_cons (wpAny_Constant_int (k:=0) (pos:=p4) (Calls.spliced_nil ?_))
 refine wpAny_call_entry slot_match_group ⟨_,hx₁,rfl⟩ entry_match_group ?_ (args_match_group _ _)
 refine run_group hx₁ ht₁ ⟨_,rfl,?_⟩
 have hlen:(⟨x.cps.extract p (p+1)⟩:Str).length=1:=by
  show (x.cps.extract p (p+1)).size=1
  rw [Array.size_extract]
  lia
 refine SBL.truthy (by rw [hlen];decide) ?_
 rw [hlen]
 rw [if_pos (by decide)]
 refine _root_.PySem.P.add_str ?_
 rw [if_neg (by decide+kernel),hlen,if_neg (by decide)]
 refine ⟨?_,?_⟩
 ·rw [PySem.Str.length_append,hlen]
  decide+kernel
 ·exact k _ _ (G0.trans .toks)
end
structure PatAt (h:Heap) (P:Addr) (fs:Array Value) (cA:Addr) (items:Array Value):Prop where
 pat:∃o,h.get? P=some o∧o.cls=.type "re.Pattern"∧o.dict=none∧o.data=.fields fs
 five:fs.getD 5 .none=.ref cA
 two:reRawNat (fs.getD 2 .none)=1
 six:reRawNat (fs.getD 6 .none)=0
 tup:∃oc n,h.get? cA=some oc∧oc.data=.seq items n
 code:(items.map reRawOf).map (·.toNat)=twin
theorem PatAt.keeps {h h':Heap} {P cA:Addr} {fs items:Array Value} (x:PatAt h P fs cA items) (hk:∀a o,h.get? a=some o→h'.get? a=some o):PatAt h' P fs cA items:=
 ⟨let ⟨o,e,r⟩:=x.pat;⟨o,hk _ _ e,r⟩,x.five,x.two,x.six,let ⟨o,n,e,r⟩:=x.tup;⟨o,n,hk _ _ e,r⟩,x.code⟩
section
variable {M:Model} {A:Around} {E:Value→Shared→Prop} {s:Shared}
theorem wp_whole {P cA:Addr} {fs items:Array Value} {x:Str} {t:Tok} {Q:ReTarget→Shared→Prop} (hP:PatAt s.heap P fs cA items)
  (h:Q { pattern:=.ref P,string:=.str x t,code:=twin,text:=x.cps,kind:=0,groups:=1,pos:=0,lim:=x.cps.size } s):wpAny M A (reWholeTarget (.ref P) (.str x t)) Q E s:=by
 obtain ⟨o,ho,_,_,hd⟩:=hP.pat
 obtain ⟨oc,n,hoc,hdc⟩:=hP.tup
 unfold reWholeTarget
 have hf:∀{Q'':Array Value→Shared→Prop},Q'' fs s→wpAny M A (fieldsOf (.ref P)) Q'' E s:=fun {Q''} hQ=>by
  unfold fieldsOf
  refine wpAny_bind (wpAny_load ho ?_)
  rw [hd]
  exact wpAny_pure hQ
 refine wpAny_bind (hf ?_)
 refine wpAny_bind (wpAny_of_eq (a:=(x.cps,0)) (by first | rfl | kernel_rfl) ?_)
 dsimp only
 rw [hP.six,if_neg (by decide),if_neg (by decide)]
 refine wpAny_bind (wpAny_of_eq (a:=()) (by first | rfl | kernel_rfl) ?_)
 rw [hP.five]
 refine wpAny_bind ?_
 unfold reRawItems
 show wpAny _ _ (bind (seqItems? (.ref cA)) _) _ _ _
 refine wpAny_bind (wpAny_seqItems hoc hdc (wpAny_pure (wpAny_pure ?_)))
 show Q { pattern:=.ref P,string:=.str x t,code:=((items.map reRawOf).map (·.toNat)),text:=x.cps,kind:=0,groups:=reRawNat (fs.getD 2 .none),pos:=0,lim:=x.cps.size } s
 rw [hP.code,hP.two]
 exact h
theorem wp_newMatch {P:Addr} {x:Str} {t:Tok} {p:Nat} {seen:Sre.Seen} {Q:Value→Shared→Prop}
  (h:Q (.ref (s.heap.objs.size+1)) { s with heap:=(s.heap.push (spanObj p)).push (matchObj x t P s.heap.objs.size) }):wpAny M A (reNewMatch (.ref P) (.str x t) 1 0 x.cps.size (mEnd x.cps p seen)) Q E s:=by
 unfold reNewMatch
 dsimp only
 rw [if_neg]
 ·show wpAny _ _ (bind (newTuple [rawInt (p:Int),rawInt ((p+1:Nat):Int),rawInt (p:Int),rawInt ((p+1:Nat):Int)]) _) _ _ _
  refine wpAny_bind (wpAny_newObj_type ?_ (by size_fits))
  refine wpAny_newObj_type ?_ (by size_fits)
  rw [show (s.heap.push _).objs.size=s.heap.objs.size+1 from Heap.size_push ..]
  exact h
 ·simp [mEnd]
end
noncomputable def subL (l:List Nat):List Nat:=l.flatMap fun c=>if sp c=true then [92,c] else [c]
theorem subL_append (a b:List Nat):subL (a++b)=subL a++subL b:=List.flatMap_append ..
theorem subL_plain:∀{l:List Nat},(∀c∈l,sp c=false)→subL l=l
 | [],_=>rfl
 | c::l,h=>by
  show (if sp c=true then [92,c] else [c])++subL l=_
  rw [if_neg (by rw [h c List.mem_cons_self];decide),subL_plain fun d hd=>h d (List.mem_cons_of_mem _ hd)]
  rfl
set_option tactic.hygienic true in
theorem nextSp_none {text:Array Nat}:∀{n s:Nat},n=text.size+1 - s→nextSp text n s=none→∀i,s≤i→i < text.size→sp (text.getD i 0)=false
 | 0,s,hn,_,i,h1,h2=>absurd (Nat.le_trans (Nat.le_of_sub_eq_zero hn.symm) h1) (Nat.not_le.mpr (Nat.lt_succ_of_lt h2))
 | n+1,s,hn,h,i,h1,h2=>by
  unfold nextSp at h
  have hl:=Nat.lt_of_le_of_lt h1 h2
  rw [if_neg (Nat.not_le.mpr hl)] at h
  rw [Nat.succ_sub (Nat.le_of_lt hl)] at hn
  cases hs:sp (text.getD s 0) with
  | true=>rw [hs,if_pos rfl] at h;cases h
  | false=>
   rw [hs,if_neg Bool.false_ne_true] at h
   rcases Nat.eq_or_lt_of_le h1 with rfl | h1
   ·exact hs
   ·exact nextSp_none ((Nat.succ.inj hn).trans (Nat.add_sub_add_right _ 1 s).symm) h i h1 h2
set_option tactic.hygienic true in
theorem nextSp_first {text:Array Nat}:∀{n s p:Nat},nextSp text n s=some p→∀i,s≤i→i < p→sp (text.getD i 0)=false
 | 0,s,p,h,_,_,_=>by cases h
 | n+1,s,p,h,i,h1,h2=>by
  unfold nextSp at h
  by_cases hg:s≥text.size
  ·rw [if_pos hg] at h;cases h
  rw [if_neg hg] at h
  cases hs:sp (text.getD s 0) with
  | true=>rw [hs,if_pos rfl] at h;cases h;exact absurd h1 (Nat.not_le.mpr h2)
  | false=>
   rw [hs,if_neg Bool.false_ne_true] at h
   rcases Nat.eq_or_lt_of_le h1 with rfl | h1
   ·exact hs
   ·exact nextSp_first h i h1 h2
theorem getD_list {text:Array Nat} {i:Nat} (h:i < text.size):text.getD i 0=text.toList[i]'(by simpa using h):=by
 rw [Array.getD_eq_getD_getElem?,Array.getElem?_eq_getElem h];simp
theorem drop_plain {text:Array Nat} {d:Nat} (h:∀i,d≤i→i < text.size→sp (text.getD i 0)=false):subL (text.toList.drop d)=text.toList.drop d:=
 subL_plain fun c hc=>by
  obtain ⟨i,hi,e⟩:=List.mem_iff_getElem.mp hc
  rw [List.getElem_drop] at e
  have hlt:d+i < text.size:=by rw [List.length_drop] at hi;simp at hi;lia
  rw [←e,←getD_list hlt]
  exact h _ (by lia) hlt
theorem drop_split {text:Array Nat} {d p:Nat} (hd:d≤p) (hp:p < text.size) (hs:sp (text.getD p 0)=true) (h:∀i,d≤i→i < p→sp (text.getD i 0)=false):
  subL (text.toList.drop d)=(text.extract d p).toList++(92::(text.extract p (p+1)).toList)++subL (text.toList.drop (p+1)):=by
 have e1:text.toList.drop d=(text.extract d p).toList++((text.extract p (p+1)).toList++text.toList.drop (p+1)):=by
  rw [Array.toList_extract,Array.toList_extract,List.extract_eq_take_drop,List.extract_eq_take_drop]
  have a1:text.toList.drop d=(text.toList.drop d).take (p - d)++(text.toList.drop d).drop (p - d):=(List.take_append_drop ..).symm
  have a2:(text.toList.drop d).drop (p - d)=text.toList.drop p:=by rw [List.drop_drop];congr 1;lia
  have a3:text.toList.drop p=(text.toList.drop p).take (p+1 - p)++(text.toList.drop p).drop (p+1 - p):=(List.take_append_drop ..).symm
  have a4:(text.toList.drop p).drop (p+1 - p)=text.toList.drop (p+1):=by rw [List.drop_drop];congr 1;lia
  rw [a2] at a1
  rw [a4] at a3
  rw [←a3]
  exact a1
 have hx:(text.extract p (p+1)).toList=[text.getD p 0]:=by
  rw [Array.toList_extract,List.extract_eq_take_drop,getD_list hp,show p+1 - p=1 by lia,List.drop_eq_getElem_cons (by simpa using hp)]
  rfl
 have hpl:subL (text.extract d p).toList=(text.extract d p).toList:=subL_plain fun c hc=>by
  rw [Array.toList_extract,List.extract_eq_take_drop] at hc
  obtain ⟨i,hi,e⟩:=List.mem_iff_getElem.mp hc
  rw [List.length_take,List.length_drop] at hi
  simp at hi
  rw [List.getElem_take,List.getElem_drop] at e
  rw [←e,←getD_list (by lia)]
  exact h _ (by lia) (by lia)
 rw [e1,subL_append,subL_append,hpl,hx]
 show _++((if sp (text.getD p 0)=true then [92,text.getD p 0] else [text.getD p 0])++[]++_)=_
 rw [if_pos hs]
 simp
structure GrowBut (L:Addr) (s s':Shared):Prop where
 keep:∀a o,a≠L→s.heap.get? a=some o→s'.heap.get? a=some o
 size:s.heap.objs.size≤s'.heap.objs.size
 os:s'.os=s.os
 gens:s'.gens=s.gens
theorem GrowBut.trans {L:Addr} {s s' s'':Shared} (x:GrowBut L s s') (y:GrowBut L s' s''):GrowBut L s s'':=
 ⟨fun a o n e=>y.keep a o n (x.keep a o n e),Nat.le_trans x.size y.size,y.os.trans x.os,y.gens.trans x.gens⟩
theorem Grow.but {L:Addr} {s s':Shared} (g:Grow s s'):GrowBut L s s':=⟨fun a o _ e=>g.keep a o e,g.size,g.os,g.gens⟩
theorem GrowBut.same {L:Addr} {s:Shared} {h':Heap} (hb:Heap.SameBut L s.heap h') {tk:Nat}:GrowBut L s { s with heap:=h',toks:=tk }:=⟨fun a o n e=>(hb.2 a n).trans e,Nat.le_of_eq hb.1.symm,rfl,rfl⟩
section
variable {prog:Program} {w:World} {A:Around} {E:Value→Shared→Prop} {s:Shared}
structure Pieces (h:Heap) (L:Addr) (ps:List Str):Prop where
 ls:∃l:List (Str×Tok),∃n,h.get? L=some (listObj (l.map fun p=>Value.str p.1 p.2) n)∧l.map (·.1)=ps
theorem pieces_push {L:Addr} {ps:List Str} {y:Str} {u:Tok} {Q:Unit→Shared→Prop} (g:Pieces s.heap L ps) (hsz:ps.length≤16777216)
  (hQ:∀h',Pieces h' L (ps++[y])→Heap.SameBut L s.heap h'→Q () { s with heap:=h' }):wpAny (model prog w) A (updateSeq L (·.push (.str y u))) Q E s:=by
 obtain ⟨l,n,g2,rfl⟩:=g.ls
 obtain ⟨n',g'⟩:=upd_obj (f:=(·.push (.str y u))) (us:=(l++[(y,u)]).map fun p=>Value.str p.1 p.2) g2 (by simp)
 refine wpAny_updateSeq g2 rfl (hQ _ ⟨l++[(y,u)],n',g',by simp⟩ (Heap.SameBut.update ..)) ?_
 show ((l.map fun p=>Value.str p.1 p.2).toArray).size≤sizeLine
 rw [List.size_toArray,List.length_map]
 rw [List.length_map] at hsz
 exact hsz
set_option genInjectivity false in
set_option genSizeOf false in
structure SubK where
 P:Addr
 cA:Addr
 f:Addr
 L:Addr
 fs:Array Value
 items:Array Value
 name:Str
 qual:Str
 pa:Pos
 p1:Pos
 p2:Pos
 p3:Pos
 p4:Pos
 p5:Pos
 p6:Pos
 p7:Pos
 p8:Pos
 pm:Value
 cdv:Value
 ctv:Value
structure SubCx (A:Around) (h:Heap) (K:SubK):Prop where
 pat:PatAt h K.P K.fs K.cA K.items
 lam:h.get? K.f=some { cls:=.type "function",data:=.func (kla_fn K.name K.qual (lamParams K.pa) (lamBody K.p1 K.p2 K.p3 K.p4 K.p5 K.p6 K.p7 K.p8) lamScope [] K.pm K.cdv K.ctv) }
 crec:h.CodeRec K.cdv K.qual
 nolimit:h.NoLimit
 room:A.depth < recursionLimit
 line:(K.p3.endLine==K.p5.line)=true
 off:K.P≠K.L∧K.cA≠K.L∧K.f≠K.L
 recL:∀c,K.cdv=.ref c→c≠K.L
 lim:∀h':Heap,(∀a o,a≠K.L→h.get? a=some o→h'.get? a=some o)→h'.NoLimit
theorem SubCx.move {h h':Heap} {K:SubK} (x:SubCx A h K) (hk:∀a o,a≠K.L→h.get? a=some o→h'.get? a=some o):SubCx A h' K:=
 ⟨⟨let ⟨o,e,r⟩:=x.pat.pat;⟨o,hk _ _ x.off.1 e,r⟩,x.pat.five,x.pat.two,x.pat.six,let ⟨o,n,e,r⟩:=x.pat.tup;⟨o,n,hk _ _ x.off.2.1 e,r⟩,x.pat.code⟩,hk _ _ x.off.2.2 x.lam,
  let ⟨c,o,vs,t,e,g,r⟩:=x.crec;⟨c,o,vs,t,e,hk _ _ (x.recL c e) g,r⟩,x.lim h' hk,x.room,x.line,x.off,x.recL,fun h'' hk'=>x.lim h'' fun a o n e=>hk' a o n (hk a o n e)⟩
noncomputable abbrev loopArgs (P f L:Addr) (x:Str) (t:Tok) (n d:Nat) (must:Bool):Args:=⟨[.ref P,.str x t,.ref f,rawInt 1,rawInt 0,rawInt (n:Int),rawInt (d:Int),rawInt (d:Int),.bool must,.ref L,.bool false],[]⟩
theorem Pieces.keeps {h h':Heap} {L:Addr} {ps:List Str} (g:Pieces h L ps) (hk:∀o,h.get? L=some o→h'.get? L=some o):Pieces h' L ps:=by
 obtain ⟨l,n,e,q⟩:=g.ls
 exact ⟨l,n,hk _ e,q⟩
theorem quiet_loop {as:Args}:(Code.builtin "re.Pattern.sub.loop" as).quiet=true:=Code.quiet_builtin _ (by decide+kernel)
theorem under_loop {A:Around} {as:Args}:A.under (.builtin "re.Pattern.sub.loop" as)=A.in1:=Around.under_plainId (show plainId "re.Pattern.sub.loop"=true by decide+kernel) _
theorem foldLen:∀(ss:List Str) (a:Nat) (sep:Str),sep.length=0→ss.foldl (fun b y=>b+y.length+sep.length) a=a+(ss.flatMap fun y=>y.cps.toList).length
 | [],a,sep,_=>by simp
 | y::ss,a,sep,h=>by
  have e:y.cps.toList.length=y.cps.size:=Array.length_toList ..
  rw [List.foldl_cons,foldLen ss _ sep h,h,List.flatMap_cons,List.length_append,e]
  show a+y.cps.size+0+_=_
  lia
theorem glued_go {sep:Str} (h:sep.length=0):∀(ss:List Str) (a:Array Nat),(ss.foldl (fun acc p=>acc++sep.cps++p.cps) a).toList=a.toList++ss.flatMap fun y=>y.cps.toList
 | [],a=>by simp
 | y::ss,a=>by
  rw [List.foldl_cons,glued_go h ss]
  have:sep.cps=#[]:=Array.eq_empty_of_size_eq_zero h
  rw [this]
  simp
theorem glued_flat {sep:Str} (h:sep.length=0):∀ss:List Str,(glued sep ss).cps.toList=ss.flatMap fun y=>y.cps.toList
 | []=>by simp [glued,Str.empty]
 | y::ss=>by
  unfold glued
  rw [List.drop_one,List.tail_cons,List.headD_cons,glued_go h]
  rfl
theorem subL_len:∀l:List Nat,(subL l).length≤2 * l.length
 | []=>Nat.le_refl _
 | c::l=>by
  have:=subL_len l
  show ((if sp c=true then [92,c] else [c])++subL l).length≤_
  rw [List.length_append,List.length_cons]
  split<;>simp<;>lia
theorem den_builtin {id:String} {b:Builtin} {args:Args} (hb:entryFor table id=some b):(model prog w).den (.builtin id args)=b args:=by
 show (match entryFor table id with | some b=>b args | none=>unsupported ((withoutEnding? id "#data").getD id))=_
 rw [hb]
theorem builtin_turn {M:Model} {id:String} {f:Args→Sem Fin} {args:Args} {R:Result→Shared→Prop} {A':Around} (he:M.den (.builtin id args)=f args) (hu:A.under (.builtin id args)=A')
  (h:∀(Q:Fin→Shared→Prop) (E:Value→Shared→Prop),(∀v s',R (.ok v) s'→Q (.done v) s')→(∀c s',c.quiet=true→codeAny M A c R s'→Q (.again c) s')→wpAny M A' (f args) Q E s):codeAny M A (.builtin id args) R s:=by
 refine codeAny_of_tree ?_
 rw [hu,he]
 exact h _ _ (fun _ _ h=>h) fun _ _ q h=>⟨q,h⟩
theorem ite_jp {M:Model} {c:Prop} [Decidable c] {α β γ:Type} {m1:Sem γ} {m2:γ→Sem β} {T:Sem α} {Q:α→Shared→Prop} (Q1:Shared→Prop) (hc:c→wpAny M A m1 (fun y s'=>wpAny M A (m2 y) (fun _ s''=>Q1 s'') E s') E s) (hn:¬ c→Q1 s) (hT:∀s',Q1 s'→wpAny M A T Q E s'):
  wpAny M A (if c then m1>>=fun y=>m2 y>>=fun _=>T else T) Q E s:=by
 by_cases h:c
 ·rw [if_pos h]
  exact wpAny_bind (wpAny_mono (hc h) (fun y s' q=>wpAny_bind (wpAny_mono q (fun _ s'' q=>hT s'' q) fun _ _ x=>x)) fun _ _ x=>x)
 ·rw [if_neg h]
  exact hT s (hn h)
noncomputable def outS (x:Str) (u:Tok):Fin:=.done (.ret (.str ⟨(subL x.cps.toList).toArray⟩ u))
theorem sub_tail {L:Addr} {x:Str} {n:Nat} {Q:Fin→Shared→Prop} {ps:List Str} (hx:x.cps.size≤4000000) (g:Pieces s.heap L ps) (hfl:ps.flatMap (fun y=>y.cps.toList)=subL x.cps.toList) (k:∀u s',GrowBut L s s'→Q (outS x u) s'):
    wpAny (model prog w) A (do
        let joiner ←reSlice x.cps 0 0 0
        let text ←if ((←seqItems? (.ref L)).getD #[]).isEmpty then pure joiner
          else call (.builtin (if (0==0)=true then "str.join" else "bytes.join")) [joiner,.ref L]
        if false=true then ret (←holding [text] do newTuple [text,←mkInt (n:Int)]) else ret text:Sem Fin) Q E s:=by
  obtain ⟨j,hj⟩:∃j:Str,(⟨x.cps.extract 0 0⟩:Str)=j:=⟨_,rfl⟩
  have hz0:j.length=0:=by
    rw [←hj]
    show (x.cps.extract 0 0).size=0
    rw [Array.size_extract]
    exact Nat.sub_eq_zero_of_le (Nat.min_le_left 0 _)
  have fin:∀(u:Tok) (s':Shared) (y:Str),y.cps.toList=subL x.cps.toList→GrowBut L s s'→Q (.done (.ret (.str y u))) s':=fun u s' y hy B=>by
    have e:y=⟨(subL x.cps.toList).toArray⟩:=PySem.Str.ext' (Array.ext' hy)
    exact e ▸ k u s' B
  refine wpAny_bind (wpAny_mkStr ?_ (show (⟨x.cps.extract 0 0⟩:Str).length≤sizeLine from hj ▸ hz0 ▸ Nat.zero_le _))
  rw [hj]
  obtain ⟨l,n',g2,rfl⟩:=g.ls
  have B0:∀k,GrowBut L s { s with toks:=k }:=fun _=>⟨fun _ _ _ e=>e,Nat.le_refl _,rfl,rfl⟩
  refine wpAny_bind (wpAny_seqItems (s:={ s with toks:=s.toks+1 }) g2 rfl ?_)
  have hlen:(subL x.cps.toList).length≤8000000:=Nat.le_trans (subL_len _) (Nat.mul_le_mul_left 2 (Nat.le_trans (Nat.le_of_eq (Array.length_toList ..)) hx))
  have hg:=glued_flat hz0 (l.map (·.1))
  rw [hfl] at hg
  cases l with
  | nil=>exact wpAny_bind (wpAny_pure (wpAny_pure (fin _ _ _ (hfl ▸ List.eq_nil_of_length_eq_zero (by rw [Array.length_toList];exact hz0)) (B0 _))))
  | cons p l=>
    refine wpAny_bind (call_meets (s:={ s with toks:=s.toks+1 }) _root_.PySem.F.slot_str_join (typeIs_str _ _ _) _root_.PySem.F.entry_str_join (_root_.PySem.F.args_str_join_2 _ _) (meets_str_join_list _ _ L (p::l) ?_) ⟨⟨_,g2,rfl,n',rfl⟩,?_⟩)
    · unfold tooLong
      rw [List.foldl_toArray,foldLen _ 0 j hz0,Nat.zero_add,hfl]
      exact decide_eq_false (Nat.not_lt.mpr (Nat.le_trans hlen (show 8000000≤sizeLine by decide)))
    · cases l with
      | nil=>exact wpAny_pure (fin _ _ _ (hfl ▸ (List.append_nil _).symm) (B0 _))
      | cons q r=>exact ⟨Nat.le_trans (Nat.le_of_eq ((Array.length_toList ..).symm.trans (congrArg List.length hg))) (Nat.le_trans hlen (by decide)),wpAny_pure (fin _ _ _ hg (B0 _))⟩
theorem piece_add {L:Addr} {x:Str} {d p:Nat} {ps:List Str} {Q1:Shared→Prop} (hp:p≤x.cps.size) (hx:x.cps.size≤4000000) (g:Pieces s.heap L ps) (hl:ps.length≤8000000) (k:∀s',GrowBut L s s'→Pieces s'.heap L (ps++[⟨x.cps.extract d p⟩])→Q1 s'):
  wpAny (model prog w) A (reSlice x.cps 0 d p) (fun y s'=>wpAny (model prog w) A (updateSeq L (·.push y)) (fun _ s''=>Q1 s'') E s') E s:=by
 refine wpAny_mkStr (s:=s) ?_ (show (x.cps.extract d p).size≤sizeLine from ?_)
 ·exact pieces_push (s:={ s with toks:=s.toks+1 }) g (Nat.le_trans hl (by decide)) fun h1 g1 sb=>k _ ⟨fun a o n e=>(sb.2 a n).trans e,Nat.le_of_eq sb.1.symm,rfl,rfl⟩ g1
 ·rw [Array.size_extract]
  exact Nat.le_trans (Nat.sub_le _ _) (Nat.le_trans (Nat.min_le_left _ _) (Nat.le_trans hp (Nat.le_trans hx (show 4000000≤sizeLine by decide))))
theorem code_subLoop {K:SubK} {x:Str} {t:Tok} {R:Result→Shared→Prop} (hx:x.cps.size≤4000000):
  ∀(m d n:Nat) (must:Bool) (s:Shared) (ps:List Str),m=x.cps.size - d→d≤x.cps.size→SubCx A s.heap K→Pieces s.heap K.L ps→ps.length≤2 * d→
   (ps.flatMap fun y=>y.cps.toList)++subL (x.cps.toList.drop d)=subL x.cps.toList→
   (∀u s',GrowBut K.L s s'→R (.ok (.ret (.str ⟨(subL x.cps.toList).toArray⟩ u))) s')→codeAny (model prog w) A (.builtin "re.Pattern.sub.loop" (loopArgs K.P K.f K.L x t n d must)) R s:=by
 intro m
 induction m using Nat.strongRecOn with
 | ind m ih=>
 intro d n must s ps hm hd C g hlen htot k
 refine builtin_turn (den_builtin entry_pat_loop) under_loop fun Q E hdone hagain=>?_
 unfold Builtin.«re.Pattern.sub.loop»
 refine wpAny_bind (wp_whole C.pat ?_)
 dsimp only
 rw [if_neg (by decide),if_neg (show ¬ (((0:Int) != 0&&decide ((n:Int)≥0))=true) by simp)]
 unfold reNextFound
 have hl8:ps.length≤8000000:=Nat.le_trans hlen (Nat.mul_le_mul_left 2 (Nat.le_trans hd hx))
 cases e:nextSp x.cps (x.cps.size+1 - d) d with
 | none=>
  refine wpAny_bind (run_none_w (pos:=d) e ?_)
  have hpl:=drop_plain (nextSp_none rfl e)
  rw [hpl] at htot
  refine ite_jp (fun s1=>GrowBut K.L s s1∧∃ps1,Pieces s1.heap K.L ps1∧ps1.flatMap (fun y=>y.cps.toList)=subL x.cps.toList) (fun hc=>piece_add (Nat.le_refl _) hx g hl8 fun s' B g'=>⟨B,_,g',?_⟩) (fun hc=>⟨⟨fun _ _ _ e=>e,Nat.le_refl _,rfl,rfl⟩,ps,g,?_⟩) fun s1 h=>?_
  ·rw [←htot,List.flatMap_append,List.flatMap_singleton,Array.toList_extract,List.extract_eq_take_drop,List.take_of_length_le (by rw [List.length_drop,Array.length_toList];exact Nat.le_refl _)]
   rfl
  ·rw [←htot,List.drop_of_length_le (by rw [Array.length_toList];exact Nat.not_lt.mp hc),List.append_nil]
  ·obtain ⟨B1,ps1,g1,hfl⟩:=h
   exact sub_tail hx g1 hfl fun u s' B=>hdone _ _ (k u s' (B1.trans B))
 | some p=>
  obtain ⟨h1,h2,h3⟩:=nextSp_lt e
  refine wpAny_bind (run_some_w (pos:=d) e fun seen=>?_)
  refine ite_jp (fun s1=>GrowBut K.L s s1∧∃ps1:List Str,Pieces s1.heap K.L ps1∧ps1.length≤2 * d+1∧ps1.flatMap (fun y=>y.cps.toList)=ps.flatMap (fun y=>y.cps.toList)++(x.cps.extract d p).toList) (fun hc=>piece_add (Nat.le_of_lt h2) hx g hl8 fun s' B g'=>⟨B,_,g',?_,?_⟩) (fun hc=>⟨⟨fun _ _ _ e=>e,Nat.le_refl _,rfl,rfl⟩,ps,g,Nat.le_succ_of_le hlen,?_⟩) fun s1 h=>?_
  ·rw [List.length_append];exact Nat.succ_le_succ hlen
  ·rw [List.flatMap_append,List.flatMap_singleton]
   rfl
  ·rw [Nat.le_antisymm h1 (Nat.not_lt.mp hc),Array.toList_extract,List.extract_eq_take_drop,Nat.sub_self,List.take_zero,List.append_nil]
  ·obtain ⟨B1,ps1,g1,hl1,hfl⟩:=h
   have C1:=C.move B1.keep
   rw [if_neg (by decide)]
   refine wpAny_bind (wp_newMatch (wpAny_bind (wpAny_holding ?_)))
   rw [if_pos (by decide)]
   have hz2:(s1.heap.push (spanObj p)).objs.size=s1.heap.objs.size+1:=Heap.size_push ..
   have G2:Grow s1 { s1 with heap:=(s1.heap.push (spanObj p)).push (matchObj x t K.P s1.heap.objs.size) }:=⟨fun a o e=>Heap.get?_push_of_some _ (Heap.get?_push_of_some _ e),by show _≤((s1.heap.push (spanObj p)).push _).objs.size;rw [Heap.size_push,hz2];exact Nat.le_add_right _ 2,rfl,rfl⟩
   have C2:=C1.move G2.but.keep
   refine call_lam (p:=p) (x:=x) (t:=t) (P:=K.P) (tA:=s1.heap.objs.size) C2.lam C2.crec C2.nolimit C2.room (by rw [←hz2];exact Heap.get?_push_size _ rfl) (Heap.get?_push_of_some _ (Heap.get?_push_size _ rfl)) h2 C2.line fun u s3 G3=>?_
   rw [if_pos (by rfl)]
   have g3:Pieces s3.heap K.L ps1:=g1.keeps fun o e=>G3.keep _ _ (G2.keep _ _ e)
   have hp1:p+1≤x.cps.size:=h2
   have hl2:ps1.length≤2 * p+1:=Nat.le_trans hl1 (Nat.succ_le_succ (Nat.mul_le_mul_left 2 h1))
   refine wpAny_bind (pieces_push g3 (Nat.le_trans hl2 (Nat.le_trans (Nat.succ_le_succ (Nat.mul_le_mul_left 2 (Nat.le_trans (Nat.le_of_lt h2) hx))) (by decide))) fun h' g4 sb=>wpAny_pure (hagain _ _ quiet_loop ?_))
   have B4:GrowBut K.L s1 { s3 with heap:=h' }:=(G2.but.trans G3.but).trans (GrowBut.same sb)
   refine ih (x.cps.size - (p+1)) (hm ▸ Nat.sub_lt_sub_left (Nat.lt_of_le_of_lt h1 h2) (Nat.lt_succ_of_le h1)) (p+1) (n+1) _ _ _ rfl hp1 (C1.move B4.keep) g4 (by rw [List.length_append];exact Nat.succ_le_succ hl2) ?_ fun u s' B=>k u s' ((B1.trans B4).trans B)
   rw [List.flatMap_append,List.flatMap_singleton,hfl,←htot,drop_split h1 h2 h3 (nextSp_first e),PySem.Str.cps_append,Array.toList_append,List.append_assoc,List.append_assoc,List.append_assoc,List.append_assoc (x.cps.extract d p).toList (92::_)]
   have eb : (PySem.Str.ofString "\\").cps.toList = [92] := by first | rfl | decide +kernel
   rw [eb]
   rfl
end
theorem lk_fn_call:∃v,typeLookup (.type "function") "__call__"=pure (some v):=⟨.builtin "function.__call__",by rw [typeLookup_type,builtinLookup_eq_fast];kernel_rfl⟩
theorem sub_str_bytearray:isSubtype (.type "str") (.type "bytearray")=pure false:=by rw [isSubtype_type];kernel_rfl
section
variable {prog:Program} {w:World} {A:Around} {E:Value→Shared→Prop} {s:Shared}
theorem call_sub {P cA f:Addr} {fs items:Array Value} {name qual:Str} {pa p1 p2 p3 p4 p5 p6 p7 p8:Pos} {pm cdv ctv:Value} {x:Str} {t:Tok} {Q:Value→Shared→Prop} (hx:x.cps.size≤4000000)
  (hP:PatAt s.heap P fs cA items) (hf:s.heap.get? f=some { cls:=.type "function",data:=.func (kla_fn name qual (lamParams pa) (lamBody p1 p2 p3 p4 p5 p6 p7 p8) lamScope [] pm cdv ctv) }) (hcd:s.heap.CodeRec cdv qual)
  (hl:s.heap.NoLimit) (hroom:A.depth < recursionLimit) (hline:(p3.endLine==p5.line)=true)
  (k:∀u s',Grow s s'→Q (.str ⟨(subL x.cps.toList).toArray⟩ u) s'):wpAny (model prog w) A (call (.builtin "re.Pattern.sub") [.ref P,.ref f,.str x t]) Q E s:=by
 obtain ⟨o,ho,hc,hd,hdt⟩:=hP.pat
 have hT:s.TypeIs (.ref P) "re.Pattern":=⟨o,ho,hc⟩
 have hTf:s.TypeIs (.ref f) "function":=⟨_,hf,rfl⟩
 obtain ⟨fc,hfc⟩:=lk_fn_call
 refine wpAny_call (codeAny_call_builtin slot_pat_sub.plain entry_pat_sub (slot_pat_sub.check _ _ _ _ _ _ _ _ hT (args_pat_sub _ _ _) ?_))
 unfold Builtin.«re.Pattern.sub» reSubstitute
 refine wpAny_bind (wpAny_of_eq (a:=[some (.ref f),some (.str x t),none]) (by first | rfl | kernel_rfl) ?_)
 dsimp only
 refine wpAny_bind (wpAny_pure ?_)
 refine wpAny_bind (wpAny_specialOf hTf hfc ?_)
 rw [if_pos (by rfl)]
 refine wpAny_bind (wpAny_pure ?_)
 rw [if_pos (by rfl)]
 refine wpAny_bind (wpAny_pure ?_)
 dsimp only
 refine wpAny_bind (wpAny_holding (wp_whole hP ?_))
 rw [if_pos (by decide)]
 have hheld:∀{Q':Unit→Shared→Prop} {A':Around} {E':Value→Shared→Prop},Q' () s→wpAny (model prog w) A' (reNotHeld "re.Pattern.sub" (.str x t)) Q' E' s:=fun {Q'} {A'} {E'} hQ=>by
  unfold reNotHeld
  refine wpAny_bind (wpAny_isInstance (typeIs_str s x t) sub_str_bytearray ?_)
  rw [if_neg (by decide)]
  exact wpAny_pure hQ
 refine wpAny_bind (hheld ?_)
 refine wpAny_bind (wpAny_newObj_type ?_ (by size_fits))
 refine wpAny_pure ⟨quiet_loop,?_⟩
 have hk:∀a o',s.heap.get? a=some o'→(s.heap.push (listObj [] 0)).get? a=some o':=fun a o' e=>Heap.get?_push_of_some _ e
 have ne:∀{a o'},s.heap.get? a=some o'→a≠s.heap.objs.size:=fun e=>Nat.ne_of_lt (Heap.lt_size e)
 obtain ⟨oc,n,hoc,_⟩:=hP.tup
 refine code_subLoop (K:=⟨P,cA,f,s.heap.objs.size,fs,items,name,qual,pa,p1,p2,p3,p4,p5,p6,p7,p8,pm,cdv,ctv⟩) hx _ 0 0 false _ [] rfl (Nat.zero_le _) ⟨hP.keeps hk,hk _ _ hf,hcd.keeps hk,hl.keeps hk,hroom,hline,⟨ne ho,ne hoc,ne hf⟩,fun c e=>?_,fun h' hk'=>hl.keeps fun a o' e=>hk' a o' (ne e) (hk _ _ e)⟩ ⟨[],0,Heap.get?_push_size _ rfl,rfl⟩ (Nat.le_refl _) (by simp) fun u s' B=>?_
 ·obtain ⟨c',o',vs,t',e',g',_⟩:=hcd
  exact Value.ref.inj (e'.symm.trans e) ▸ ne g'
 ·refine k u s' ⟨fun a o' e=>B.keep a o' (ne e) (hk _ _ e),?_,B.os,B.gens⟩
  have:=B.size
  have e:(s.heap.push (listObj [] 0)).objs.size=s.heap.objs.size+1:=Heap.size_push ..
  exact Nat.le_trans (by rw [←Nat.succ_eq_add_one] at e;exact Nat.le_trans (Nat.le_succ _) (Nat.le_of_eq e.symm)) this
end
set_option tactic.hygienic true in
theorem codeAmong_app {pos pos':Pos} {c cv:Value} (l:List Value) (h:TriplesOk l) (hf:codeAmong pos' (l++[rawInt pos.line,rawInt pos.col,c])=some cv):
  codeAmong pos' l=some cv∨(cv=c∧pos'.line=pos.line∧pos'.col=pos.col):=by
 fun_induction TriplesOk l with
 | case1=>
  simp [codeAmong,rawInt] at hf
  exact .inr ⟨hf.2.symm,by lia,by lia⟩
 | case2 a t b u x rest ih=>
  simp only [List.cons_append,codeAmong] at hf ⊢
  split at hf
  ·rename_i hc;rw [if_pos hc];exact .inl hf
  ·rename_i hc;rw [if_neg hc];exact ih h hf
 | case3 l h1 h2=>exact h.elim
section
variable {X:Cx} {F:FI} {d:Nat}
structure MakeOK (X:Cx) (F:FI) (c T:Addr) (pos:Pos) (nm:Str):Prop where
 cd:F.cd=.ref c
 hd:CodeHd X.B c T
 tb:X.Tb T
 nm:X.tq T pos.line pos.col=F.ql++nm
 bi:∃bm o,X.mg "__builtins__"=some (.ref bm)∧bm≠builtinsNs∧bm≠mainGlobals∧X.B.get? bm=some o∧o.cls=.type "module"∧o.dict=some builtinsNs∧o.data=.plain
theorem R.coded {Av Mu:Addr→Prop} {env:Env} {st:St} {s:Shared} (r:R X F Av Mu env st s) {T c':Addr} {ps:Array Value} {pos:Pos} {h':Heap} {tk:Nat} (hT:X.Tb T) (hp:s.heap.get? T=some (tabO ps)) (hx:Heap.ExtBut T s.heap h') (hge:s.heap.objs.size≤c') (hlt:c' < h'.objs.size)
  (hrec:h'.CodeRec (.ref c') (X.tq T pos.line pos.col)) (hnew:h'.get? T=some (tabO (ps++#[rawInt pos.line,rawInt pos.col,.ref c']))) (hz:s.heap.objs.size≤h'.objs.size):
  R X F Av Mu env st { s with heap:=h',toks:=tk }∧StepE env Av Mu s Av Mu { s with heap:=h',toks:=tk }:=by
 have hk:∀a o,s.heap.get? a=some o→¬ X.Tb a→h'.get? a=some o:=fun a o e n=>hx a o (fun q=>n (q ▸ hT)) e
 have nAv:¬ Av c':=fun q=>absurd (r.lt c' q) (Nat.not_lt.mpr hge)
 have R1:R X F Av Mu env st { s with heap:=h',toks:=tk }:=by
  refine r.keep' hk (fun a t=>?_) hz (fun _ h=>h) (fun _ h=>.inl h) (fun _ h=>h) r.ma
  by_cases e:a=T
  ·subst e
   obtain ⟨ps',q,t3,w⟩:=(r.tabs a hT).2
   rw [hp] at q
   cases q
   refine ⟨_,hnew,?_,fun pos' cv hc=>?_⟩
   ·rw [Array.toList_append]
    exact TriplesOk_snoc _ _ _ _ t3
   ·rw [Array.toList_append] at hc
    rcases codeAmong_app _ t3 hc with hc | ⟨hc,l1,l2⟩
    ·obtain ⟨c,o,vs,t,e1,e2,e3,e4,e5⟩:=w pos' cv hc
     exact ⟨c,o,vs,t,e1,hx c o (fun q=>e3 (q ▸ r.ma _ (r.tabs a hT).1)) e2,e3,e4,e5⟩
    ·obtain ⟨c,o,vs,t,e1,e2,e4,e5⟩:=hrec
     cases e1
     exact ⟨c',o,vs,t,hc,e2,nAv,e4,by rw [l1,l2];exact e5⟩
  ·exact (r.tabs a t).2.mono (fun o q=>hx a o e q) fun b o q n _=>⟨hx b o (fun z=>n (z ▸ r.ma _ (r.tabs T hT).1)) q,n⟩
 exact ⟨R1,⟨⟨fun a o e n=>hx a o (fun q=>n (q ▸ (r.tabs T hT).1)) e,fun _ h=>.inl h,fun _ h=>.inl h,fun _ h _=>h,hz,rfl,id⟩,r.valsAfter hk⟩⟩
theorem wp_lambda {A:Around} {Av Mu:Addr→Prop} {env:Env} {st:St} {s:Shared} {Q:Value→Shared→Prop} {E:Value→Shared→Prop} {c T:Addr} {pos:Pos} {params:Arguments} {body:Expr} {scope:Scope} (ok:MakeOK X F c T pos "<lambda>")
  (hdef:defaultsOf params env=([],[])) (hfree:∀x∈scope.names,x.2≠.free) (r:R X F Av Mu env st s)
  (k:∀f pm cdv ctv s',R X F Av Mu env st s'→StepE env Av Mu s Av Mu s'→s'.heap.get? f=some { cls:=.type "function",data:=.func (kla_fn "<lambda>" (F.ql++"<lambda>") params body scope [] pm cdv ctv) }→¬ Av f→s'.heap.CodeRec cdv (F.ql++"<lambda>")→(∀c,cdv=.ref c→¬ Av c)→Q (.ref f) s'):
  wpAny (model X.prog X.w) A (eval (.Lambda params body scope pos) env) Q E s:=by
 refine kla_eval hdef ?_
 have hg:s.heap.Ns mainGlobals X.mg:=X.g.keeps fun b o e=>(r.base b o e).1
 obtain ⟨hMu,ps,hp,t3,w⟩:=r.tabs T ok.tb
 have hC:CodeHd s.heap c T:=ok.hd.keeps fun b o e=>(r.base b o e).1
 obtain ⟨bm,ob,b1,b2,b3,b4,b5,b6,b7⟩:=ok.bi
 have hbT:bm≠T:=fun q=>(r.base _ _ b4).2 (q ▸ r.ma _ hMu)
 have hB:s.heap.BuiltinsAt X.mg T:=⟨bm,ob,b1,b2,b3,hbT,(r.base _ _ b4).1,b5,b6,b7⟩
 have hGT:mainGlobals≠T:=fun q=>by
  obtain ⟨o,es,ep,e,hd,_⟩:=hg
  rw [q,hp] at e;cases e;cases hd
 have hql:env.qual++"<lambda>"=F.ql++"<lambda>":=by rw [r.ql]
 rw [hql]
 have hcl:closureFor scope env=pure []:=closureFor_none hfree
 cases hc:codeAmong pos ps.toList with
 | none=>
  refine kla_makeFunction (mg:=X.mg) hcl r.gl hg (by rw [r.cd];exact ok.cd) hC hp t3 hc hGT hB fun c' ctv h' tk hx hge hlt hrec htb=>?_
  have hz:s.heap.objs.size≤h'.objs.size:=Nat.le_of_lt (Nat.lt_of_le_of_lt hge hlt)
  obtain ⟨R1,S1⟩:=r.coded (tk:=tk) ok.tb hp hx hge hlt (by rw [ok.nm];exact hrec) htb hz
  have G:=Grow.push (s:={ s with heap:=h',toks:=tk }) (kla_obj "<lambda>" (F.ql++"<lambda>") params body scope [] ((X.mg "__name__").getD .none) c' ctv) (tk:=tk) (d:=s.drawn)
  refine k _ _ _ _ _ (R1.grow G) (S1.trans (StepE.ofGrow G) r.lt) (Heap.get?_push_size _ rfl) (fun q=>absurd (R1.lt _ q) (Nat.lt_irrefl _)) (hrec.keeps fun _ _ e=>Heap.get?_push_of_some _ e) fun c2 e=>?_
  cases e
  exact fun q=>absurd (r.lt _ q) (Nat.not_lt.mpr hge)
 | some cv=>
  obtain ⟨c',o,vs,t,e1,e2,e3,e4,e5⟩:=w pos cv hc
  subst e1
  refine kla_makeFunctionHit (mg:=X.mg) hcl r.gl hg (by rw [r.cd];exact ok.cd) hC hp t3 hc hB fun ctv h' tk hk hz=>?_
  have G1:Grow s { s with heap:=h',toks:=tk }:=⟨hk,hz,rfl,rfl⟩
  have G:=G1.trans (Grow.push (s:={ s with heap:=h',toks:=tk }) { cls:=.type "function",data:=.func (kla_fn "<lambda>" (F.ql++"<lambda>") params body scope [] ((X.mg "__name__").getD .none) (.ref c') ctv) } (tk:=tk) (d:=s.drawn))
  refine k _ _ _ _ _ (r.grow G) (StepE.ofGrow G) (Heap.get?_push_size _ rfl) (fun q=>absurd ((r.grow G1).lt _ q) (Nat.lt_irrefl _)) ⟨c',o,vs,t,rfl,G.keep _ _ e2,e4,by rw [←ok.nm];exact e5⟩ fun c2 e=>?_
  cases e
  exact e3
theorem lam_free:∀x∈lamScope.names,x.2≠.free:=by
 intro x hx
 cases hx with
 | head=>decide
 | tail _ h=>cases h
noncomputable def subF:PV→Option PV
 | .str x=>if x.cps.size≤4000000 then some (.str ⟨(subL x.cps.toList).toArray⟩) else none
 | _=>none
set_option tactic.hygienic true in
theorem s_sub {tw y:Str} {tp apos yp lpos pos pa p1 p2 p3 p4 p5 p6 p7 p8:Pos} {c T P cA:Addr} {fs items:Array Value} {i:Nat} (ok:MakeOK X F c T lpos "<lambda>") (hx:F.scope.names.lookup tw=some .globalImplicit) (hg:X.mg tw=some (.ref P))
  (hP:PatAt X.B P fs cA items) (hi:F.names[i]? =some y) (hline:autoParam ((apos.endLine==pos.line)=true) Mine.au2._auto_1) (hline2:autoParam ((p3.endLine==p5.line)=true) Mine.au2._auto_1)
  (hn:autoParam ((y==("__classdict__":Str))=false) Mine.au3._auto_1) (hd:autoParam ((y==("__debug__":Str))=false) Mine.au3._auto_1) (hd2:autoParam ((tw==("__debug__":Str))=false) Mine.au3._auto_1)
  (hbase:autoParam (∀env,attributeBase (.Name tw tp) "sub" env (eval (.Name tw tp) env)=eval (.Name tw tp) env) Mine.au4._auto_1):
  SoundE X F d (.Call (.Attribute (.Name tw tp) "sub" apos) [.Lambda (lamParams pa) (lamBody p1 p2 p3 p4 p5 p6 p7 p8) lamScope lpos,.Name y yp] [] pos) (bindE (getV i) fun p=>liftE (subF p)):=by
 refine @SoundT.intro _ _ _ _ _ _ _ _ ?_
 intro A Av Mu env st st' s v Q E hA hf R₀ tk k
 refine bindE_elim hf fun a st1 h1 hf1=>?_
 obtain ⟨h3,e3⟩:=liftE_some hf1
 subst e3
 unfold subF at h3
 split at h3<;>(try cases h3)
 split at h3<;>cases h3
 rename_i x hsz
 refine wpAny_Call_method_lateS (hbase env) rfl hline (wp_gname R₀ hx hg ?_ hd2)
 have hP0:PatAt s.heap P fs cA items:=hP.keeps fun b o e=>(R₀.base b o e).1
 obtain ⟨o,ho,hc,hdn,hdt⟩:=hP0.pat
 refine ⟨"re.Pattern","re.Pattern.sub",plainAttrs_pat,slot_pat_sub,type_pat_sub,⟨o,ho,hc⟩,(fun b q=>by cases q;exact ⟨o,ho,hdn⟩),callArgs rfl ?_⟩
 show wpAny _ _ (spliced (backTo pos [(false,eval (.Lambda (lamParams pa) (lamBody p1 p2 p3 p4 p5 p6 p7 p8) lamScope lpos) env),(false,eval (.Name y yp) env)])) _ _ _
 refine Calls.spliced_cons ?_
 show wpAny _ _ (eval (.Lambda (lamParams pa) (lamBody p1 p2 p3 p4 p5 p6 p7 p8) lamScope lpos) env) _ _ _
 refine wp_lambda ok rfl lam_free R₀ fun f pm cdv ctv s1 R1 S1 hf nf hcd nc=>?_
 refine Calls.spliced_cons ?_
 show wpAny _ _ (eval (.Name y yp) env) _ _ _
 refine wpAny_Name (wp_getV R1 hi h1 hn fun v Av2 Mu2 R2 S2 V2=>Calls.spliced_nil ?_) hd
 unfold VR at V2
 obtain ⟨t,rfl⟩:=V2
 refine call_sub hsz (hP.keeps fun b o e=>(R1.base b o e).1) hf hcd (X.nolimit.keeps fun b o e=>(R1.base b o e).1) (by have:=hA.2.1;show A.depth < 1000;lia) hline2 fun u s' G=>?_
 exact k _ _ _ _ (R2.grow G) ((S1.trans S2 R₀.lt).trans (StepE.ofGrow G) R₀.lt) VR.str'
end
end Mine
end
section
open PySem PySem.W PyProof.Rows PySem.Builtin.Str
namespace Mine
noncomputable def GRel (C I:Addr) (s₀ s:Shared):Prop:=∃h' tk,s={ s₀ with heap:=h',toks:=tk }∧(∀b o,b≠C→b≠I→s₀.heap.get? b=some o→h'.get? b=some o)∧s₀.toks≤tk
theorem GRel.refl (C I:Addr) (s:Shared):GRel C I s s:=⟨s.heap,s.toks,rfl,fun _ _ _ _ e=>e,Nat.le_refl _⟩
theorem GRel.step {C I:Addr} {s₀ s:Shared} (x:GRel C I s₀ s) {h':Heap} {tk:Nat} (hk:∀b o,b≠C→b≠I→s.heap.get? b=some o→h'.get? b=some o) (ht:s.toks≤tk):GRel C I s₀ { s with heap:=h',toks:=tk }:=by
 obtain ⟨h₁,t₁,rfl,k₁,l₁⟩:=x
 exact ⟨h',tk,rfl,fun b o c i e=>hk b o c i (k₁ b o c i e),Nat.le_trans l₁ ht⟩
noncomputable def Later (fp:List Addr) (s s'':Shared):Prop:=1≤s''.toks∧∀b∈fp,∀o,s.heap.get? b=some o→s''.heap.get? b=some o
noncomputable def GP (C I:Addr) (fp:List Addr) (outs:List Str):Protocol:=fun m s₀ v s kap=>
 (∃y u,outs[outs.length - 1 - m]? =some y∧v=.str y u)∧GRel C I s₀ s∧∀s'',Later fp s s''→kap (.send .none) s''
structure GInv (C I l:Addr) (lt:List (Str×Tok)) (j:Nat) (s:Shared):Prop where
 it:s.heap.IsListIter I l j
 ls:s.heap.IsList l (lt.map fun p=>Value.str p.1 p.2).toArray
 ns:∃m,s.heap.Ns C m
 nb:NoneBooked s.heap
 tk:1≤s.toks
theorem GInv.later {C I l:Addr} {lt:List (Str×Tok)} {j:Nat} {s s'':Shared} (x:GInv C I l lt j s) (h:Later [C,I,l,cStatics] s s''):GInv C I l lt j s'':=
 ⟨let ⟨o,e,r⟩:=x.it;⟨o,h.2 I (by simp) o e,r⟩,let ⟨o,e,r⟩:=x.ls;⟨o,h.2 l (by simp) o e,r⟩,let ⟨m,o,es,ep,e,r⟩:=x.ns;⟨m,o,es,ep,h.2 C (by simp) o e,r⟩,
  let ⟨mc,⟨o,es,ep,e,r⟩,q⟩:=x.nb;⟨mc,⟨o,es,ep,h.2 cStatics (by simp) o e,r⟩,q⟩,h.1⟩
structure EltOK (prog:Program) (w:World) (cenv:Env) (x:Str) (elt:Expr) (ok:Str→Prop) (f:Str→Str):Prop where
 w:∀{A:Around} {E:Value→Shared→Prop} {Q:Value→Shared→Prop} {y:Str} {t:Tok} {s:Shared} {m:Str→Option Value},ok y→A.handled=none→1≤s.toks→NoneBooked s.heap→s.heap.Ns cenv.locals m→m x=some (.str y t)→
  (∀u h' tk,(∀b o,s.heap.get? b=some o→h'.get? b=some o)→s.toks≤tk→Q (.str (f y) u) { s with heap:=h',toks:=tk })→wpAny (model prog w) A (eval elt cenv) Q E s
section
variable {prog:Program} {w:World} {A:Around}
theorem seg_g {elt iter:Expr} {x:Str} {px:Pos} {scope:Scope} {pos:Pos} {I l:Addr} {cenv:Env} {lt:List (Str×Tok)} {ok:Str→Prop} {f:Str→Str} (hh:A.handled=none)
  (hx:cenv.kindOf x=some .local) (hp:(cenv.scope.kind==.class||(cenv.scope.kind==.module&&cenv.locals != cenv.globals))=false) (hco:cenv.scope.isCoroutine=false)
  (hCI:cenv.locals≠I) (hCl:cenv.locals≠l) (hIl:l≠I) (hCs:cStatics≠cenv.locals) (hIs:cStatics≠I) (hok:∀p∈lt,ok p.1) (he:EltOK prog w cenv x elt ok f):
  ∀(k j:Nat) (s₀ s:Shared),lt.length - j=k→j≤lt.length→GInv cenv.locals I l lt j s→GRel cenv.locals I s₀ s→
   Seg (model prog w) A (fun n s₀ r s₁=>r=.ok .next∧(n=0∧GRel cenv.locals I s₀ s₁)) (GP cenv.locals I [cenv.locals,I,l,cStatics] (lt.map fun p=>f p.1)) k s₀
    (.compLoop (.GeneratorExp elt [⟨.Name x px,iter,[],0⟩] scope pos) 0 (.ref I) .none cenv)
    ((model prog w).den (.compLoop (.GeneratorExp elt [⟨.Name x px,iter,[],0⟩] scope pos) 0 (.ref I) .none cenv)) [] s:=by
 have hh':(A.over (.compLoop (.GeneratorExp elt [⟨.Name x px,iter,[],0⟩] scope pos) 0 (.ref I) .none cenv) []).handled=none:=hh
 intro k
 induction k with
 | zero=>
  intro j s₀ s hk hj G S
  show Seg _ A _ _ _ s₀ _ ((compTurn (.GeneratorExp elt [⟨.Name x px,iter,[],0⟩] scope pos) 0 (.ref I) .none cenv).onRaise (leaving cenv)) [] s
  rw [compTurn_gen,Sem.onRaise_eq_wrap]
  refine seg_bind_wrap (wpAny_standAt ?_)
  refine seg_bind_wrap (wpAny_pyNext_list_end hh' G.it G.ls (by simp;lia) fun h' he'=>?_)
  exact seg_end (.ok .next) ⟨rfl,rfl,S.step (fun b o _ bi e=>he' b o bi e) (Nat.le_refl _)⟩
 | succ k ih=>
  intro j s₀ s hk hj G S
  have hlt:j < lt.length:=by lia
  show Seg _ A _ _ _ s₀ _ ((compTurn (.GeneratorExp elt [⟨.Name x px,iter,[],0⟩] scope pos) 0 (.ref I) .none cenv).onRaise (leaving cenv)) [] s
  rw [compTurn_gen,Sem.onRaise_eq_wrap]
  refine seg_bind_wrap (wpAny_standAt ?_)
  refine seg_bind_wrap (wpAny_pyNext_list_item G.it G.ls (x:=.str lt[j].1 lt[j].2) (by simp [hlt]) fun h₁ hi₁ hs₁=>?_)
  refine seg_bind_wrap (wpAny_of_eq (rfl:letOwnedTupleGo (.Name x px) (.ref I) (.str lt[j].1 lt[j].2)=pure ()) ?_)
  obtain ⟨m,hn⟩:=G.ns
  refine seg_bind_wrap (wpAny_assign_Name (wpAny_storeName_local hx (hn.sameBut hs₁ hCI) (fun h₂ hn₂ hs₂=>?_) hp))
  refine seg_bind_wrap (wpAny_pure ?_)
  simp only [if_true]
  have hy:∀v,yieldOut cenv v=yieldValue v:=fun v=>by simp only [yieldOut,hco,Bool.false_eq_true,if_false]
  simp only [hy]
  rw [Sem.bind_eq_wrap',Sem.bind_eq_wrap',Sem.wrap_wrap,Sem.wrap_wrap]
  have up:∀b o,b≠cenv.locals→b≠I→s.heap.get? b=some o→h₂.get? b=some o:=fun b o c i e=>(hs₂.2 b c).trans ((hs₁.2 b i).trans e)
  have nb₂:NoneBooked h₂:=by
   obtain ⟨mc,⟨o,es,ep,e,r⟩,q⟩:=G.nb
   exact ⟨mc,⟨o,es,ep,up _ o hCs hIs e,r⟩,q⟩
  refine seg_wrap (he.w (t:=lt[j].2) (hok _ (List.getElem_mem hlt)) hh' (by show 1≤s.toks+1;lia) nb₂ hn₂ (by simp) fun u h₃ tk₃ hk₃ ht₃=>?_)
  have G₃:GInv cenv.locals I l lt (j+1) { s with heap:=h₃,toks:=tk₃ }:=by
   refine ⟨?_,?_,⟨_,hn₂.keeps hk₃⟩,?_,?_⟩
   ·obtain ⟨o,e,r⟩:=hi₁
    exact ⟨o,hk₃ _ _ ((hs₂.2 I (Ne.symm hCI)).trans e),r⟩
   ·obtain ⟨o,e,r⟩:=G.ls
    exact ⟨o,hk₃ _ _ (up _ _ (Ne.symm hCl) hIl e),r⟩
   ·obtain ⟨mc,hc,q⟩:=nb₂
    exact ⟨mc,hc.keeps hk₃,q⟩
   ·have h3:s.toks+1≤tk₃:=ht₃
    show 1≤tk₃
    lia
  have S₃:GRel cenv.locals I s₀ { s with heap:=h₃,toks:=tk₃ }:=S.step (fun b o c i e=>hk₃ b o (up b o c i e)) (by have h3:s.toks+1≤tk₃:=ht₃;lia)
  refine seg_at (seg_yield rfl rfl rfl ⟨⟨f lt[j].1,u,?_,rfl⟩,S₃,fun s'' hl=>?_⟩)
  ·rw [List.getElem?_map,List.length_map,show lt.length - 1 - k=j by lia,List.getElem?_eq_getElem hlt]
   rfl
  ·exact seg_again rfl (ih (j+1) s'' s'' (by lia) hlt (G₃.later hl) (GRel.refl _ _ _))
end
section
variable {prog:Program} {w:World} {A:Around}
theorem seg_gs {elt iter:Expr} {x:Str} {px:Pos} {scope:Scope} {pos:Pos} {I l:Addr} {cenv:Env} {lt:List (Str×Tok)} {ok:Str→Prop} {f:Str→Str} (hh:A.handled=none)
    (hx:cenv.kindOf x=some .local) (hp:(cenv.scope.kind==.class||(cenv.scope.kind==.module&&cenv.locals != cenv.globals))=false) (hco:cenv.scope.isCoroutine=false)
    (hCI:cenv.locals≠I) (hCl:cenv.locals≠l) (hIl:l≠I) (hCs:cStatics≠cenv.locals) (hIs:cStatics≠I) (hok:∀p∈lt,ok p.1) (he:EltOK prog w cenv x elt ok f) {s₀ s:Shared} (G:GInv cenv.locals I l lt 0 s) (S:GRel cenv.locals I s₀ s):
    Seg (model prog w) A (fun n s₀ r s₁=>r=.ok .next∧(n=0∧GRel cenv.locals I s₀ s₁)) (GP cenv.locals I [cenv.locals,I,l,cStatics] (lt.map fun p=>f p.1)) lt.length s₀
      (.compStart (.GeneratorExp elt [⟨.Name x px,iter,[],0⟩] scope pos) 0 (.ref I) .none cenv)
      ((model prog w).den (.compStart (.GeneratorExp elt [⟨.Name x px,iter,[],0⟩] scope pos) 0 (.ref I) .none cenv)) [] s:=by
  have loop:=seg_g (iter:=iter) (px:=px) (scope:=scope) (pos:=pos) hh hx hp hco hCI hCl hIl hCs hIs hok he lt.length 0 s₀ s (Nat.sub_zero _) (Nat.zero_le _) G S
  show Seg _ A _ _ _ s₀ _ ((compStart (.GeneratorExp elt [⟨.Name x px,iter,[],0⟩] scope pos) 0 (.ref I) .none cenv).onRaise (leaving cenv)) [] s
  unfold compStart
  rw [Sem.onRaise_eq_wrap]
  show Seg _ A _ _ _ s₀ _ ((ask>>=_).wrap _ _ _ _) [] s
  refine seg_bind_wrap (wpAny_askSetting ?_)
  split
  · exact seg_again rfl loop
  · first
      | exact seg_bind_wrap (wpAny_rule (seg_bind_wrap (wpAny_standAt (seg_bind_wrap (wpAny_pyIter_listiter G.it (seg_again rfl loop))))))
      | (refine seg_bind_wrap (wpAny_rule ?_);show Seg _ A _ _ _ s₀ _ ((standAt iter.pos>>=_).wrap _ _ _ _) [] s;exact seg_bind_wrap (wpAny_standAt (seg_bind_wrap (wpAny_pyIter_listiter G.it (seg_again rfl loop)))))
noncomputable def GAt (prog:Program) (w:World) (A:Around) (a:Addr) (g:Nat) (C I l:Addr) (outs:List Str) (j:Nat) (s:Shared):Prop:=
 s.heap.IsGen a g∧s.heap.NoLimit∧1≤s.toks∧∃gs,s.gens[g]? =some gs∧∀s'':Shared,Later [C,I,l,cStatics] s s''→
  gs.Goes (model prog w) A.in1 (fun n s₀ r s₁=>r=.ok .next∧(n=0∧GRel C I s₀ s₁)) (GP C I [C,I,l,cStatics] outs) (outs.length - j) (.send .none) s''
theorem walks_g (hh:A.handled=none) (a:Addr) (g:Nat) (C I l:Addr) (outs:List Str) (haC:a≠C) (haI:a≠I) (hroom:A.depth < recursionLimit) (hcC:cStatics≠C) (hcI:cStatics≠I):
    WalksS prog w A a [a,C,I,l,cStatics] [C,I] (GenOnlyQ g) outs.length (fun j y=>∃z u,outs[j]? =some z∧y=Value.str z u) (GAt prog w A a g C I l outs) where
  sub:=fun b hb=>by
    rcases List.mem_cons.mp hb with rfl | hb
    · simp
    · rw [List.mem_singleton.mp hb];simp
  grefl:=fun _=>.inl rfl
  gtrans:=fun _ _ _ x y=>x.trans y
  frame:=fun j s h' tk st ht hk=>
    ⟨let ⟨o,nm,qn,ho,r⟩:=st.1;⟨o,nm,qn,hk a (by simp) o ho,r⟩,(let ⟨mc,⟨o,es,ep,e,r⟩,q⟩:=st.2.1;⟨mc,⟨o,es,ep,hk cStatics (by simp) o e,r⟩,q⟩),Nat.le_trans st.2.2.1 ht,
     let ⟨gs,hgs,hgo⟩:=st.2.2.2;⟨gs,hgs,fun s'' hal=>hgo s'' ⟨hal.1,fun b hb o e=>hal.2 b hb o (hk b (List.mem_cons_of_mem _ hb) o e)⟩⟩⟩
  item:=fun j s Q E hj st hQ=>by
    obtain ⟨hg,hl,htk1,gs,hgs,hgo⟩:=st
    obtain ⟨m,hm⟩:∃m,outs.length - j=m+1:=⟨outs.length - j - 1,by lia⟩
    rw [hm] at hgo
    refine wpAny_with_toks (Nat.le_refl s.toks) ?_
    refine wpAny_pyNext_genexpQ (P:=fun n s₀ s₁=>n=0∧GRel C I s₀ s₁) hh hl hroom hg hgs (hgo _ ⟨htk1,fun _ _ _ e=>e⟩) (fun v s₁ gs' hb hv=>?_) (fun s₁ hp h' hk=>?_)
    · obtain ⟨⟨y,u,hi,rfl⟩,⟨h₁,tk₁,rfl,hk₁,ht₁⟩,hkap⟩:=hv
      have hidx:outs.length - 1 - (m+1 - 1)=j:=by lia
      rw [hidx] at hi
      intro htk
      have ht1:s.toks≤tk₁:=ht₁
      refine hQ _ _ ⟨y,u,hi,rfl⟩ ⟨let ⟨o,nm,qn,ho,r⟩:=hg;⟨o,nm,qn,hk₁ a o haC haI ho,r⟩,(let ⟨mc,⟨o,es,ep,e,r⟩,q⟩:=hl;⟨mc,⟨o,es,ep,hk₁ cStatics o hcC hcI e,r⟩,q⟩),Nat.le_trans htk1 ht1,gs',setGen_self (gs:=.running) (setGen_self hgs),fun s'' hal=>?_⟩
        ⟨fun b o hb e=>hk₁ b o (fun h=>hb (by simp [h])) (fun h=>hb (by simp [h])) e,GenOnlyQ.of ((GenOnly.setGen s g .running).trans (GenOnly.setGen _ g gs')) (setGen_self (gs:=.running) (setGen_self hgs)) hb,rfl,rfl,htk⟩
      have e:outs.length - (j+1)=m:=by lia
      rw [e]
      exact hkap s'' hal
    · exact absurd hp.1 (Nat.succ_ne_zero m)
  done:=fun s Q E st hQ=>by
    obtain ⟨hg,hl,htk1,gs,hgs,hgo⟩:=st
    rw [Nat.sub_self] at hgo
    refine wpAny_with_toks (Nat.le_refl s.toks) ?_
    refine wpAny_pyNext_genexpQ (P:=fun n s₀ s₁=>n=0∧GRel C I s₀ s₁) hh hl hroom hg hgs (hgo _ ⟨htk1,fun _ _ _ e=>e⟩) (fun v s₁ gs' hb hv=>?_) (fun s₁ hp h' hk=>?_)
    · obtain ⟨_,⟨h₁,tk₁,rfl,hk₁,ht₁⟩,hkap⟩:=hv
      have ht1:s.toks≤tk₁:=ht₁
      exact False.elim (hkap { s with heap:=h₁,toks:=tk₁ } ⟨Nat.le_trans htk1 ht1,fun _ _ _ e=>e⟩)
    · obtain ⟨_,h₁,tk₁,rfl,hk₁,_⟩:=hp
      intro htk
      exact hQ _ ⟨fun b o hb e=>hk b o (hk₁ b o (fun h=>hb (by simp [h])) (fun h=>hb (by simp [h])) e),GenOnlyQ.of ((GenOnly.setGen s g .running).trans (GenOnly.setGen _ g .finished)) (setGen_self (gs:=.running) (setGen_self hgs)) rfl,rfl,rfl,htk⟩
  self:=fun _ _ _ _ st hQ=>wpAny_pyIter_gen st.1 hQ
end
noncomputable def joinG (okb:Str→Bool) (f:Str→Str) (sep:Str):PV→Option PV
 | .list xs=>match allOf asStr xs with
  | some ss=>if ss.all okb=true∧ss.length≤16777216∧JoinOk sep (ss.map f)=true then some (.str (Txt.join sep (ss.map f))) else none
  | none=>none
 | _=>none
section
variable {X:Cx} {F:FI} {d:Nat}
theorem wp_gcode {A:Around} {Av Mu:Addr→Prop} {env:Env} {st:St} {s:Shared} {Q:Value→Shared→Prop} {E:Value→Shared→Prop} {c T:Addr} {pos:Pos} {scope:Scope} (ok:MakeOK X F c T pos "<genexpr>") (r:R X F Av Mu env st s)
  (k:∀cv s',R X F Av Mu env st s'→StepE env Av Mu s Av Mu s'→(∃h tk,s'={ s with heap:=h,toks:=tk })→(∀a o,¬ X.Tb a→s.heap.get? a=some o→s'.heap.get? a=some o)→Q cv s'):
  wpAny (model X.prog X.w) A (genexprCode env pos (env.qual++"<genexpr>") scope) Q E s:=by
 obtain ⟨hMu,ps,hp,t3,w⟩:=r.tabs T ok.tb
 have hC:CodeHd s.heap c T:=ok.hd.keeps fun b o e=>(r.base b o e).1
 have hql:env.qual++"<genexpr>"=F.ql++"<genexpr>":=by rw [r.ql]
 rw [hql]
 have hcd:env.code=.ref c:=by rw [r.cd];exact ok.cd
 cases hc:codeAmong pos ps.toList with
 | none=>
  refine wpAny_genexprCodeX hcd (hC.code hp t3) (hC.tab hp) hc fun c' h' tk hx hge hlt _ hrec htb _=>?_
  have hz:s.heap.objs.size≤h'.objs.size:=Nat.le_of_lt (Nat.lt_of_le_of_lt hge hlt)
  obtain ⟨R1,S1⟩:=r.coded (tk:=tk) ok.tb hp hx hge hlt (by rw [ok.nm];exact hrec) htb.2 hz
  exact k _ _ R1 S1 ⟨_,_,rfl⟩ fun a o n e=>hx a o (fun q=>n (q ▸ ok.tb)) e
 | some cv=>exact wpAny_genexprCode_hit hcd (hC.code hp t3) hc (k _ _ r StepE.refl ⟨_,_,rfl⟩ fun _ _ _ e=>e)
set_option tactic.hygienic true in
set_option maxHeartbeats 1000000 in
theorem s_joing {sep x:Str} {sp apos gpos px pos:Pos} {k0:Nat} {elt iter:Expr} {scope:Scope} {c T:Addr} {fe:EvE} {okb:Str→Bool} {f:Str→Str} (ok:MakeOK X F c T gpos "<genexpr>")
    (hit:SoundE X F d iter fe) (he:∀cenv:Env,cenv.scope=scope→EltOK X.prog X.w cenv x elt (fun y=>okb y=true) f)
    (hco:scope.isCoroutine=false) (hfree:∀y∈scope.names,y.2≠.free) (hcell:∀y∈scope.names,y.2≠.cell) (h0:scope.names.lookup (".0":Str)=some NameKind.local) (hx:scope.names.lookup x=some .local) (hkind:scope.kind=.function)
    (hs:autoParam (∀env x,genFold iter env x=pure x) Mine.au1._auto_1) (hline:autoParam ((apos.endLine==pos.line)=true) Mine.au2._auto_1):
    SoundE X F d (.Call (.Attribute (.Constant (.str sep) k0 sp) "join" apos) [.GeneratorExp elt [⟨.Name x px,iter,[],0⟩] scope gpos] [] pos) (bindE fe fun a=>liftE (joinG okb f sep a)):=by
  refine @SoundT.intro _ _ _ _ _ _ _ _ ?_
  intro A Av Mu env st st' s v Q E hA hf R₀ tk k
  refine bindE_elim hf fun a st1 h1 hf1=>?_
  obtain ⟨h3,e3⟩:=liftE_some hf1
  subst e3
  unfold joinG at h3
  split at h3<;>(try cases h3)
  rename_i xs
  split at h3<;>(try cases h3)
  rename_i ss hss
  split at h3<;>cases h3
  rename_i hc
  refine wpAny_Call_method_lateS rfl rfl hline (Calls.Constant_str ?_)
  refine ⟨"str","str.join",_root_.PySem.F.plainAttrs_str,_root_.PySem.F.slot_str_join,_root_.PySem.F.type_str_join,typeIs_str _ _ _,(fun _ e=>nomatch e),callArgs rfl ?_⟩
  show wpAny _ _ (spliced (backTo pos [(false,eval (.GeneratorExp elt [⟨.Name x px,iter,[],0⟩] scope gpos) env)])) _ _ _
  refine Calls.spliced_cons ?_
  show wpAny _ _ (eval (.GeneratorExp elt [⟨.Name x px,iter,[],0⟩] scope gpos) env) _ _ _
  have hroom:A.depth < recursionLimit:=by have:=hA.2.1;show A.depth < 1000;lia
  refine wpAny_GeneratorExp_make hco (closureFor_none hfree) hcell h0 hkind hroom (hit _ hA h1 (R₀.toks (tk:=s.toks+1)) (by show 1≤s.toks+1;lia) fun va s1 Av1 Mu1 R1 S1 V1 tk1=>?_) (hs env)
  unfold VR at V1
  obtain ⟨l,vs,n,rfl,g,na,z⟩:=V1
  obtain ⟨lt,rfl,rfl⟩:=strs_of z hss
  refine wpAny_pyIter_list ⟨_,g,rfl,n,rfl⟩ ?_
  have R2:=R1.fresh { cls:=.type "list_iterator",data:=.fields #[.ref l,.int 0 0] }
  refine ⟨X.nolimit.keeps fun b o e=>(R2.base b o e).1,wp_gcode ok R2 fun cv s3 R3 S3 hs3 hk3=>?_⟩
  obtain ⟨h3,tk3,hs3⟩:=hs3
  have hI2:(s1.heap.push { cls:=.type "list_iterator",data:=.fields #[.ref l,.int 0 0] }).get? s1.heap.objs.size=some { cls:=.type "list_iterator",data:=.fields #[.ref l,.int 0 0] }:=Heap.get?_push_size _ rfl
  have hTI:¬ X.Tb s1.heap.objs.size:=fun t=>absurd (R1.lt _ (R1.ma _ (R1.tabs _ t).1)) (Nat.lt_irrefl _)
  have hTl:¬ X.Tb l:=fun t=>na (R1.ma _ (R1.tabs _ t).1)
  have hI3:=hk3 _ _ hTI hI2
  have hl3:=hk3 _ _ hTl (Heap.get?_push_of_some _ g)
  have hllt:l < s1.heap.objs.size:=Heap.lt_size g
  have hIlt:s1.heap.objs.size < s3.heap.objs.size:=Heap.lt_size hI3
  have k13:∀b o,s1.heap.get? b=some o→¬ X.Tb b→s3.heap.get? b=some o:=fun b o e n=>hk3 b o n (Heap.get?_push_of_some _ e)
  obtain ⟨bm,ob,b1,b2,b3,b4,b5,b6,b7⟩:=ok.bi
  have hg3:s3.heap.Ns env.globals X.mg:=by rw [R3.gl];exact X.g.keeps fun b o e=>(R3.base b o e).1
  refine wpAny_builtinsFor hg3 b1 b2 (R3.base _ _ b4).1 b5 b6 b7 ?_
  intro h' hn' hs'
  have hsz':h'.objs.size=s3.heap.objs.size+1:=by rw [hs'.1,Heap.size_push]
  have k3:∀b o,s3.heap.get? b=some o→h'.get? b=some o:=fun b o e=>hs'.extBut b o (Nat.ne_of_lt (Heap.lt_size e)) (Heap.get?_push_of_some _ e)
  refine Calls.spliced_nil ?_
  generalize hgo:({ cls:=.type "generator",data:=.fields #[.int s3.gens.size 0,.str "<genexpr>" (s3.toks+1),.str (env.qual++"<genexpr>") (s3.toks+1+1)] }:Obj)=go
  generalize hgs:(GenState.fresh (.compStart (.GeneratorExp elt [⟨.Name x px,iter,[],0⟩] scope gpos) 0 (.ref s1.heap.objs.size) .none (genEnv scope [] s3.heap.objs.size cv builtinsNs env)))=gs
  generalize hs4:({ s3 with gens:=s3.gens.push gs,toks:=s3.toks+1+1+1,heap:=h'.push go }:Shared)=s4
  have k4:∀b o,s3.heap.get? b=some o→s4.heap.get? b=some o:=fun b o e=>by rw [←hs4];exact Heap.get?_push_of_some _ (k3 b o e)
  have hcs:cStatics < s3.heap.objs.size:=by
    obtain ⟨mc,hc,_⟩:=X.nb
    exact (hc.keeps fun b o e=>(R3.base b o e).1).lt
  have hcI:cStatics≠s1.heap.objs.size:=fun e=>by
    obtain ⟨mc,⟨o,es,ep,ho,_⟩,_⟩:=X.nb
    have:=Heap.lt_size (R1.base _ _ ho).1
    rw [e] at this
    exact Nat.lt_irrefl _ this
  have G4:GInv s3.heap.objs.size s1.heap.objs.size l lt 0 s4:=by
    refine ⟨⟨_,k4 _ _ hI3,rfl,rfl⟩,⟨_,k4 _ _ hl3,rfl,n,rfl⟩,⟨_,by rw [←hs4];exact hn'.push _⟩,?_,by rw [←hs4];show 1≤s3.toks+1+1+1;lia⟩
    obtain ⟨mc,hc,q⟩:=X.nb
    exact ⟨mc,hc.keeps fun b o e=>k4 _ _ (R3.base b o e).1,q⟩
  have hkd:(genEnv scope [] s3.heap.objs.size cv builtinsNs env).kindOf x=some .local:=hx
  have GA:GAt X.prog X.w A.in1.in1 h'.objs.size s3.gens.size s3.heap.objs.size s1.heap.objs.size l (lt.map fun p=>f p.1) 0 s4:=by
    refine ⟨by rw [←hs4,←hgo];exact ⟨_,_,_,Heap.get?_push_size _ rfl,rfl,rfl,rfl⟩,X.nolimit.keeps fun b o e=>k4 _ _ (R3.base b o e).1,G4.tk,gs,by rw [←hs4];exact Array.getElem?_push_size ..,fun s'' hl=>?_⟩
    rw [←hgs]
    refine ⟨rfl,?_⟩
    rw [List.length_map,Nat.sub_zero]
    exact seg_gs (A:=A.in1.in1.in1) (cenv:=genEnv scope [] s3.heap.objs.size cv builtinsNs env) hA.1 hkd (by simp [genEnv,hkind]) hco (Nat.ne_of_gt hIlt) (Nat.ne_of_gt (Nat.lt_trans hllt hIlt)) (Nat.ne_of_lt hllt) (Nat.ne_of_lt hcs) hcI
      (fun p hp=>List.all_eq_true.mp hc.1 _ (List.mem_map_of_mem hp)) (he _ rfl) (G4.later hl) (GRel.refl _ _ _)
  have W:=walks_g (prog:=X.prog) (w:=X.w) (A:=A.in1.in1) hA.1 h'.objs.size s3.gens.size s3.heap.objs.size s1.heap.objs.size l (lt.map fun p=>f p.1) (by rw [hsz'];exact Nat.ne_of_gt (Nat.lt_succ_self _)) (by rw [hsz'];exact Nat.ne_of_gt (Nat.lt_succ_of_lt hIlt)) hroom (Nat.ne_of_lt hcs) hcI
  have hsz4:s4.heap.objs.size=h'.objs.size+1:=by rw [←hs4];exact Heap.size_push ..
  refine wpAny_mono (wpAny_size (SC.joinGen (Q:=fun r s'=>∃t',r=.str (Txt.join sep ((lt.map (·.1)).map f)) t'∧∃s5 tk5,s'={ s5 with toks:=tk5 }∧Moved [s3.heap.objs.size,s1.heap.objs.size] (GenOnlyQ s3.gens.size) s4 s5) W (fun i s' st=>st.1.typeIs) GA (fun b hb=>?_) (by simp) (fun i v hv=>let ⟨y,u,_,e⟩:=hv;⟨y,u,e⟩) (fun s' l' hm hi=>?_) (by have h9:=hc.2.1;rw [List.length_map] at h9 ⊢;exact h9))) (fun r s' q=>?_) fun _ _ e=>e
  · rw [hsz4,hsz']
    have e1:∀q:Nat,q < s3.heap.objs.size→q < s3.heap.objs.size+1+1:=fun q h=>Nat.lt_succ_of_lt (Nat.lt_succ_of_lt h)
    rcases List.mem_cons.mp hb with h | hb
    · rw [h,hsz'];exact Nat.lt_succ_self _
    rcases List.mem_cons.mp hb with h | hb
    · rw [h];exact Nat.lt_succ_of_lt (Nat.lt_succ_self _)
    rcases List.mem_cons.mp hb with h | hb
    · rw [h];exact e1 _ hIlt
    rcases List.mem_cons.mp hb with h | hb
    · rw [h];exact e1 _ (Nat.lt_trans hllt hIlt)
    · rw [List.mem_singleton.mp hb];exact e1 _ hcs
  · have hl:l'.map (·.1)=(lt.map (·.1)).map f:=by
      rw [List.map_map]
      apply List.ext_getElem?
      intro j
      have hsz:l'.length=(lt.map fun p=>f p.1).length:=by simpa [strValues] using hi.1
      by_cases hj:j < l'.length
      · obtain ⟨y,u,h1,h2⟩:=hi.2 j (.str l'[j].1 l'[j].2) (by simp [strValues,List.getElem?_eq_getElem hj])
        injection h2 with h2 _
        rw [List.getElem?_map,List.getElem?_eq_getElem hj]
        show some l'[j].1=_
        rw [h2,←h1]
        rfl
      · rw [List.getElem?_eq_none (by simpa using Nat.le_of_not_lt hj),List.getElem?_eq_none (by rw [List.length_map] at hsz ⊢;lia)]
    rw [hl]
    exact ⟨hc.2.2,fun t' k'=>⟨t',rfl,s',k',rfl,hm⟩⟩
  · obtain ⟨⟨t',rfl,s5,tk5,rfl,hm⟩,hz⟩:=q
    have hz5:s4.heap.objs.size≤s5.heap.objs.size:=hz
    have k35:∀b o,b≠s1.heap.objs.size→s3.heap.get? b=some o→s5.heap.get? b=some o:=fun b o n e=>hm.heap b o (fun q=>by
      rcases List.mem_cons.mp q with q | q
      · exact absurd (Heap.lt_size e) (q ▸ Nat.lt_irrefl _)
      · exact n (List.mem_singleton.mp q)) (k4 b o e)
    have z35:s3.heap.objs.size≤s5.heap.objs.size:=Nat.le_trans (by rw [hsz4,hsz'];lia) hz5
    have R5:R X F (fun a=>Av1 a∨a=s1.heap.objs.size) Mu1 env st' { s5 with toks:=tk5 }:=
      R3.keepI (.inr rfl) (fun q=>absurd (R1.lt _ (R1.ma _ q)) (Nat.lt_irrefl _)) (fun o e v q=>by rw [hI3] at e;cases e;cases q) k35 z35
    have k15:∀b o,s1.heap.get? b=some o→¬ X.Tb b→s5.heap.get? b=some o:=fun b o e n=>k35 b o (Nat.ne_of_lt (Heap.lt_size e)) (k13 b o e n)
    have S5:StepE env Av1 Mu1 s1 (fun a=>Av1 a∨a=s1.heap.objs.size) Mu1 { s5 with toks:=tk5 }:=by
      refine ⟨⟨fun a o e n=>k15 a o e fun t=>n (R1.tabs a t).1,fun _ h=>.inl h,fun a h=>Or.imp id (fun (q:a=s1.heap.objs.size)=>Nat.le_of_eq q.symm) h,fun _ h _=>.inl h,Nat.le_trans (Nat.le_of_lt hIlt) z35,?_,fun hb=>?_⟩,R1.valsAfter k15⟩
      · rw [show ({ s5 with toks:=tk5 }:Shared).os=s4.os from hm.os,←hs4,hs3]
      · refine AllBare.moved ?_ hm.gens
        rw [←hs4]
        refine AllBare.push ?_ (by rw [←hgs];rfl)
        rw [hs3]
        exact hb
    refine k _ _ _ _ R5 (((StepE.ofGrow .toks).trans S1 R₀.lt).trans S5 R₀.lt) VR.str'
end
noncomputable def okR (z1 z2 y1:Str) (y:Str):Bool:=decide (y.length+(y.length+1) * z1.length≤16777216)&&decide ((Txt.replace y y1 z1).length+((Txt.replace y y1 z1).length+1) * z2.length≤16777216)
section
variable {prog:Program} {w:World}
theorem elt_rr {cenv:Env} {x y1 z1 y2 z2:Str} {p ap1 ap2 pos1 pos2 p1 p2 p3 p4:Pos} {k1 k2 k3 k4:Nat} (hk:cenv.scope.kind=.function) (hx:cenv.kindOf x=some .local)
  (hl1:(ap1.endLine==pos1.line)=true) (hl2:(ap2.endLine==pos2.line)=true) (hd:(x==("__debug__":Str))=false):
  EltOK prog w cenv x (.Call (.Attribute (.Call (.Attribute (.Name x p) "replace" ap1) [.Constant (.str y1) k1 p1,.Constant (.str z1) k2 p2] [] pos1) "replace" ap2) [.Constant (.str y2) k3 p3,.Constant (.str z2) k4 p4] [] pos2)
   (fun y=>okR z1 z2 y1 y=true) (fun y=>Txt.replace (Txt.replace y y1 z1) y2 z2):=by
 refine ⟨fun {A E Q y t s m} hok hh htk hnb hns hm k=>?_⟩
 unfold okR at hok
 rw [Bool.and_eq_true,decide_eq_true_eq,decide_eq_true_eq] at hok
 refine wpAny_Call_method_lateS rfl rfl hl2 (wpAny_Call_method_lateS rfl rfl hl1 (wpAny_Name (wpAny_loadName_local hk hx hns hm ?_) hd))
 refine ⟨"str","str.replace",_root_.PySem.F.plainAttrs_str,_root_.PySem.F.slot_str_replace,_root_.PySem.F.type_str_replace,typeIs_str _ _ _,(fun b q=>by cases q),callArgs rfl ?_⟩
 show wpAny _ _ (spliced (backTo pos1 [(false,eval (.Constant (.str y1) k1 p1) cenv),(false,eval (.Constant (.str z1) k2 p2) cenv)])) _ _ _
 refine Calls.spliced_cons (Calls.Constant_str (k:=k1) (pos:=p1) (Calls.spliced_cons (Calls.Constant_str (k:=k2) (pos:=p2) (Calls.spliced_nil ?_))))
 refine wpAny_mono (wpAny_toks (SC.replaceA (Q:=fun v s'=>∃t' k',v=.str (Txt.replace y y1 z1) t'∧s'={ s with toks:=k' }) (by show s.toks≠0;lia) (by show s.toks+1≠0;lia) (by show s.toks≠s.toks+1;lia) hok.1 (fun t' k'=>⟨t',k',rfl,rfl⟩) hnb)) (fun v s' q=>?_) fun _ _ e=>e
 obtain ⟨⟨t',k',rfl,rfl⟩,ht⟩:=q
 have ht':s.toks+1+1≤k':=ht
 refine ⟨"str","str.replace",_root_.PySem.F.plainAttrs_str,_root_.PySem.F.slot_str_replace,_root_.PySem.F.type_str_replace,typeIs_str _ _ _,(fun b q=>by cases q),callArgs rfl ?_⟩
 show wpAny _ _ (spliced (backTo pos2 [(false,eval (.Constant (.str y2) k3 p3) cenv),(false,eval (.Constant (.str z2) k4 p4) cenv)])) _ _ _
 refine Calls.spliced_cons (Calls.Constant_str (k:=k3) (pos:=p3) (Calls.spliced_cons (Calls.Constant_str (k:=k4) (pos:=p4) (Calls.spliced_nil ?_))))
 refine wpAny_mono (wpAny_toks (SC.replaceA (Q:=fun v s'=>∃t' k',v=.str (Txt.replace (Txt.replace y y1 z1) y2 z2) t'∧s'={ s with toks:=k' }) (by show k'≠0;lia) (by show k'+1≠0;lia) (by show k'≠k'+1;lia) hok.2 (fun t' k'=>⟨t',k',rfl,rfl⟩) hnb)) (fun v s' q=>?_) fun _ _ e=>e
 obtain ⟨⟨t2,k2',rfl,rfl⟩,ht2⟩:=q
 have ht2':k'+1+1≤k2':=ht2
 exact k _ s.heap k2' (fun _ _ e=>e) (by lia)
end
end Mine
end
section
open PySem PySem.W PyProof.Rows PySem.Builtin.Str PySem.Spec PyProof
namespace Mine
variable {X:Cx} {F:FI} {d:Nat}
noncomputable def pyMin:List PV→Option PV
 | [.list xs]=>match allOf asInt xs with
  | some ss=>match ss.min? with
   | some m=>some (.int m)
   | none=>none
  | none=>none
 | _=>none
set_option tactic.hygienic true in
theorem f_min:FnW X d (.builtin "min") pyMin:=by
 intro A Av s avs as r Q E hA h lt hv k
 unfold pyMin at h
 split at h<;>(try cases h)
 rename_i xs
 split at h<;>(try cases h)
 rename_i ss e
 split at h<;>cases h
 rename_i m hm
 obtain ⟨v,rfl,q⟩:=VRs1 hv
 unfold VR at q;obtain ⟨a,vs,n,rfl,g,na,z⟩:=q
 obtain ⟨l,rfl,rfl⟩:=ints_of z e
 have hne:0 < l.toArray.size:=by
  cases l with
  | nil=>simp at hm
  | cons=>simp
 have hm':=List.min?_eq_some_iff.mp hm
 refine wpAny_grow (P:=fun v s'=>∃t,v=.int m t) (min_intList (xs:=l.toArray) hA.1 ⟨_,g,rfl,n,congrArg (fun x=>Data.seq x n) intItems_list⟩ hne fun v h' tk hv hk=>⟨hk,rfl,rfl,?_⟩) fun v s' G P=>?_
 ·obtain ⟨t,rfl⟩:=intItems_at hv
  obtain ⟨h1,h2⟩:=argBest_lt (numAt l.toArray) (l.toArray.size - 1)
  have hsz:l.toArray.size=l.length:=List.size_toArray ..
  refine ⟨t,?_⟩
  congr 1
  apply Int.le_antisymm
  ·obtain ⟨j,hj,ej⟩:=List.getElem_of_mem hm'.1
   have hj':j < l.length:=by simpa using hj
   have:=h2 j (by lia)
   rw [numAt_eq (i:=j),List.getElem?_eq_getElem hj,Option.getD_some,ej] at this
   exact this
  ·apply hm'.2
   rw [numAt_eq]
   have hb:argBest (fun i j=>decide (numAt l.toArray i < numAt l.toArray j)) (l.toArray.size - 1) < (l.map (·.1)).length:=by rw [List.length_map];lia
   rw [List.getElem?_eq_getElem hb,Option.getD_some]
   exact List.getElem_mem hb
 ·obtain ⟨t,rfl⟩:=P
  exact k _ _ G VR.int'
end Mine
end
section
open PySem PySem.W PyProof.Rows PySem.Builtin.Str PySem.Spec PyProof PySem.SeqAt
open AutoSeq1 (wpAny_loadPart')
open MeetsSeq MeetsSeq2 MeetsSeq3
namespace Mine
variable {X:Cx} {F:FI} {d:Nat}
end Mine
end
section
open PySem PySem.W PyProof.Rows PySem.Builtin.Str PySem.Spec PyProof PySem.SeqAt
namespace Mine
section
variable {prog:Program} {w:World} {A:Around} {E:Value→Shared→Prop} {s:Shared} {d:Addr} {f:Int→Option Value}
end
end Mine
end
section
open PySem PySem.W PyProof.Rows PySem.Builtin PySem.Builtin.ObjectAttr
namespace Mine
noncomputable abbrev fnO (fd:FuncData) (D:Option Addr):Obj:={ cls:=.type "function",dict:=D,data:=.func fd }
theorem lk_fn_getattr:typeLookup (.type "function") "__getattr__"=pure none:=by rw [typeLookup_type,builtinLookup_eq_fast];kernel_rfl
theorem lk_fn_read:typeLookup (.type "function") "read"=pure none:=by rw [typeLookup_type,builtinLookup_eq_fast];kernel_rfl
theorem slot_fn_ga:Slot "function" "__getattribute__" "object.__getattribute__":=
 .of (owner:="object") (n:="__getattribute__") (by rw [typeLookup_type,builtinLookup_eq_fast];kernel_rfl) (by decide+kernel) (by decide+kernel) (by decide+kernel)
  (by first | exact .inl (by decide+kernel) | exact .inr (by decide+kernel)) (by rw [isSubtype_type];kernel_rfl)
theorem slot_fn_sa:Slot "function" "__setattr__" "object.__setattr__":=
 .of (owner:="object") (n:="__setattr__") (by rw [typeLookup_type,builtinLookup_eq_fast];kernel_rfl) (by decide+kernel) (by decide+kernel) (by decide+kernel)
  (by first | exact .inl (by decide+kernel) | exact .inr (by decide+kernel)) (by rw [isSubtype_type];kernel_rfl)
theorem canon_fn_ga:(Manifest.canonical "object.__getattribute__" != "object.__getattribute__")=false:=by decide+kernel
theorem entry_obj_sa:entryFor table "object.__setattr__"=some Builtin.«object.__setattr__» :=entryFor_of_tree (by kernel_rfl)
theorem args_obj_sa (a b c:Value):argsOk "object.__setattr__" ⟨[a,b,c],[]⟩:=by unfold argsOk;kernel_rfl
theorem args_obj_ga (a b:Value):argsOk "object.__getattribute__" ⟨[a,b],[]⟩:=by unfold argsOk;kernel_rfl
theorem mro_fn:mroOf (.type "function")=pure [.type "function",.type "object"]:=by rw [mroOf_type];kernel_rfl
theorem sub_fn_static:isSubtype (.type "function") (.type "staticmethod")=pure false:=by rw [isSubtype_type];kernel_rfl
theorem sub_fn_classm:isSubtype (.type "function") (.type "classmethod")=pure false:=by rw [isSubtype_type];kernel_rfl
theorem refuse_fn (self:Value):refuseLoop self "__setattr__" [.type "function",.type "object"]=pure ():=by
 kernel_rfl
end Mine
end
section
open PySem PySem.W PyProof.Rows PySem.Builtin PySem.Builtin.ObjectAttr PySem.Flt PySem.Calls
namespace Mine
section
variable {prog:Program} {w:World} {A:Around} {E:Value→Shared→Prop} {h:Heap} {g:Array GenState} {d:Drawn} {t:Nat} {os:OsState} {f D:Addr} {fd:FuncData} {md:Str→Option Value}
theorem fn_object_entry {name:Str} {tk:Tok} {v:Value} {Q:Fin→Shared→Prop} (hM:h.get? f=some (fnO fd (some D))) (hD:h.Ns D md) (hnm:typeLookup (.type "function") name=pure none) (hv:md name=some v)
  (hq:Q (.done (.ret v)) ⟨h,g,d,t,os⟩):wpAny (model prog w) A (Builtin.«object.__getattribute__» ⟨[.ref f,.str name tk],[]⟩) Q E ⟨h,g,d,t,os⟩:=by
 have hT:(⟨h,g,d,t,os⟩:Shared).TypeIs (.ref f) "function":=⟨_,hM,rfl⟩
 have f1:=sub_fn_static
 have f2:=sub_fn_classm
 repeat (any_goals (first | assumption | with_reducible apply wpAny_nsGet_known | with_reducible apply wpAny_loadPart_known | wp_step))
theorem getMethod_fn {name:Str} {v:Value} {pl:Sem Bool} {Q:Value×List Value→Shared→Prop} (hM:h.get? f=some (fnO fd (some D))) (hD:h.Ns D md) (hnm:typeLookup (.type "function") name=pure none) (hv:md name=some v)
  (hh:handedOut v=pure v) (hq:Q (v,[]) ⟨h,g,d,t+1,os⟩):wpAny (model prog w) A (getMethod (.ref f) name pl) Q E ⟨h,g,d,t,os⟩:=by
 have hT:(⟨h,g,d,t,os⟩:Shared).TypeIs (.ref f) "function":=⟨_,hM,rfl⟩
 have hT1:(⟨h,g,d,t+1,os⟩:Shared).TypeIs (.ref f) "function":=⟨_,hM,rfl⟩
 have f1:=slot_fn_ga.lookup
 have f2:=lk_fn_getattr
 have f4:=slot_fn_ga.bind (.ref f)
 unfold getMethod
 refine wpAny_bind (wpAny_specialOf hT f1 ?_)
 show wpAny _ A (if (Manifest.canonical "object.__getattribute__" != "object.__getattribute__")=true then _ else _) Q E _
 rw [canon_fn_ga,if_neg (by decide)]
 refine wpAny_bind (wpAny_specialOf hT f2 ?_)
 refine wpAny_bind (wpAny_specialOf hT hnm ?_)
 show wpAny _ A (getAttr (.ref f) name>>=fun x=>pure (x,[])) Q E _
 refine wpAny_bind ?_
 repeat (any_goals (first | assumption | wp_step))
 refine codeAny_call_builtin slot_fn_ga.plain F.entry_object_getattribute (slot_fn_ga.check _ _ _ _ _ _ _ _ hT1 (args_obj_ga _ _) (fn_object_entry hM hD hnm hv ?_))
 repeat (any_goals (first | assumption | wp_step))
end
section
variable {prog:Program} {w:World} {A:Around} {E:Value→Shared→Prop} {h:Heap} {g:Array GenState} {d:Drawn} {t:Nat} {os:OsState} {f D:Addr} {fd:FuncData} {md:Str→Option Value}
theorem hasDict_fn:typeHasDict (.type "function")=true:=by decide+kernel
theorem fin_fn:finalisedInACycleAlone "function"=false:=by decide+kernel
theorem fn_store_entry {o:Obj} {name:Str} {tk:Tok} {v:Value} {Q:PySem.Fin→Shared→Prop} (hx:h.get? f=some o) (hc:o.cls=.type "function") (hdn:o.dict=none) (hdt:o.data=.func fd) (hnm:typeLookup (.type "function") name=pure none)
    (hq:∀h' D md tk',h'.get? f=some { cls:=o.cls,dict:=some D,data:=o.data,slots:=o.slots }→h'.Ns D md→md name=some v→D=h.objs.size→(∀b ob,b≠f→h.get? b=some ob→h'.get? b=some ob)→h.objs.size≤h'.objs.size→Q (.done (.ret .none)) ⟨h',g,d,tk',os⟩):
    wpAny (model prog w) A (Builtin.«object.__setattr__» ⟨[.ref f,.str name tk,v],[]⟩) Q E ⟨h,g,d,t,os⟩:=by
  have hT:(⟨h,g,d,t,os⟩:Shared).TypeIs (.ref f) "function":=⟨_,hx,hc⟩
  unfold Builtin.«object.__setattr__»
  repeat (first | rw [refuse_eq] | (rw [refuse_fn]) | (with_reducible refine wpAny_loadPart_at hx ?_;rw [hc]) | (rw [mro_fn]) | (rw [hnm]) | wp_step)
  rw [hdn,hdt]
  dsimp only
  rw [if_neg (by rw [hasDict_fn];decide)]
  have hx₁:(h.push { cls:=.type "dict",data:=.dict #[] }).get? f=some o:=Heap.get?_push_of_some _ hx
  have hxs:f≠h.objs.size:=Nat.ne_of_lt (Heap.lt_size hx)
  refine wpAny_bind (wpAny_alloc' ?_)
  refine wpAny_bind (wpAny_update' hx₁ ?_)
  unfold dictMade
  dsimp only
  rw [fin_fn]
  refine wpAny_bind (wpAny_pure (wpAny_pure ?_))
  have hgd:((h.push { cls:=.type "dict",data:=.dict #[] }).update f fun o=>{ cls:=o.cls,dict:=some h.objs.size,data:=o.data,slots:=o.slots }).get? h.objs.size
      =some { cls:=.type "dict",data:=.dict #[] }:=
    (Heap.get?_update_ne _ _ _ _ hxs.symm).trans (Heap.get?_push_at rfl rfl)
  have hnd:((h.push { cls:=.type "dict",data:=.dict #[] }).update f fun o=>{ cls:=o.cls,dict:=some h.objs.size,data:=o.data,slots:=o.slots }).Ns h.objs.size (fun _=>none):=
    ⟨_,#[],_,hgd,rfl,fun e he=>absurd he (by simp),fun _=>rfl⟩
  show wpAny _ _ (storeInDict h.objs.size (.str name tk) name v) _ _ _
  unfold storeInDict newKeyGuard
  refine wpAny_bind (wpAny_pure (wpAny_bind (wpAny_nsSet1 (Heap.Ns1.of_empty hnd) fun h' hn' hs=>?_)))
  obtain ⟨oD,esD,epD,hoD,hdD,hcD⟩:=hn'.count (Within.cons name v Within.nil)
  refine wpAny_bind (wpAny_lookBehind hoD (by rw [hdD];exact pastItsLine_dict (Nat.le_trans hcD (by rw [List.length_cons,List.length_nil,sizeLine_eq];lia))) ?_)
  wp_walk
  have hx':h'.get? f=some { cls:=o.cls,dict:=some h.objs.size,data:=o.data,slots:=o.slots }:=by
    refine (hs.2 f hxs).trans (Heap.get?_update_self _ hx₁ ?_)
    have hfr:=(Heap.get?_some_iff.mp hx).2
    obtain ⟨oc,od,odt,osl⟩:=o
    cases odt<;>first | rfl | exact hfr
  refine hq h' h.objs.size (fun y=>if y=name then some v else none) _ hx' ?_ (by simp) rfl (fun b ob hb e=>?_) ?_
  · obtain ⟨o',es,ep,e1,e2,e3,eu,e4⟩:=hn'
    exact ⟨o',es,ep,e1,e2,e3,fun y=>by rw [e4 y]⟩
  · exact (hs.2 b (Nat.ne_of_lt (Heap.lt_size e))).trans ((Heap.get?_update_ne _ _ _ _ hb).trans (Heap.get?_push_of_some _ e))
  · rw [hs.1]
    simp [Heap.update,Heap.push]
    try lia
theorem setAttr_fn {o:Obj} {name:Str} {v:Value} {Q:Unit→Shared→Prop} (hx:h.get? f=some o) (hc:o.cls=.type "function") (hdn:o.dict=none) (hdt:o.data=.func fd) (hnm:typeLookup (.type "function") name=pure none)
  (hq:∀h' D md tk',h'.get? f=some { cls:=o.cls,dict:=some D,data:=o.data,slots:=o.slots }→h'.Ns D md→md name=some v→D=h.objs.size→(∀b ob,b≠f→h.get? b=some ob→h'.get? b=some ob)→h.objs.size≤h'.objs.size→Q () ⟨h',g,d,tk',os⟩):
  wpAny (model prog w) A (setAttr (.ref f) name v) Q E ⟨h,g,d,t,os⟩:=by
 have hT:(⟨h,g,d,t,os⟩:Shared).TypeIs (.ref f) "function":=⟨_,hx,hc⟩
 have hT1:(⟨h,g,d,t+1,os⟩:Shared).TypeIs (.ref f) "function":=⟨_,hx,hc⟩
 have f1:=slot_fn_sa.lookup
 have f4:=slot_fn_sa.bind (.ref f)
 unfold setAttr callSpecial? specialOf
 repeat (any_goals (first | assumption | wp_step))
 refine codeAny_call_builtin slot_fn_sa.plain entry_obj_sa (slot_fn_sa.check _ _ _ _ _ _ _ _ hT1 (args_obj_sa _ _ _) (fn_store_entry hx hc hdn hdt hnm fun h' D md tk' a b c e k z=>?_))
 repeat (any_goals (first | assumption | wp_step))
 exact hq h' D md tk' a b c e k z
end
end Mine
end
section
open PySem PySem.W PyProof.Rows PySem.Builtin
namespace Mine
variable {X:Cx} {F:FI} {d:Nat}
theorem R.makes {Av Mu:Addr→Prop} {env:Env} {st:St} {s:Shared} {c T:Addr} {pos:Pos} {nm:Str} (ok:MakeOK X F c T pos nm) (r:R X F Av Mu env st s):
  s.heap.Ns mainGlobals X.mg∧CodeHd s.heap c T∧s.heap.BuiltinsAt X.mg T∧mainGlobals≠T:=by
 have hg:s.heap.Ns mainGlobals X.mg:=X.g.keeps fun b o e=>(r.base b o e).1
 obtain ⟨hMu,ps,hp,t3,w⟩:=r.tabs T ok.tb
 obtain ⟨bm,ob,b1,b2,b3,b4,b5,b6,b7⟩:=ok.bi
 have hbT:bm≠T:=fun q=>(r.base _ _ b4).2 (q ▸ r.ma _ hMu)
 refine ⟨hg,ok.hd.keeps fun b o e=>(r.base b o e).1,⟨bm,ob,b1,b2,b3,hbT,(r.base _ _ b4).1,b5,b6,b7⟩,fun q=>?_⟩
 obtain ⟨o,es,ep,e,hd,_⟩:=hg
 rw [q,hp] at e;cases e;cases hd
theorem wp_lambdaF {A:Around} {Av Mu:Addr→Prop} {env:Env} {st:St} {s:Shared} {Q:Value→Shared→Prop} {E:Value→Shared→Prop} {c T:Addr} {pos:Pos} {params:Arguments} {body:Expr} {scope:Scope} (ok:MakeOK X F c T pos "<lambda>")
  (hdef:defaultsOf params env=([],[])) (hfree:∀x∈scope.names,x.2≠.free) (r:R X F Av Mu env st s)
  (k:∀f fd s',R X F (fun a=>Av a∨a=f) Mu env st s'→Step Av Mu s (fun a=>Av a∨a=f) Mu s'→s'.heap.get? f=some (fnO fd none)→¬ Mu f→s.heap.objs.size≤f→Q (.ref f) s'):
  wpAny (model X.prog X.w) A (eval (.Lambda params body scope pos) env) Q E s:=by
 refine kla_eval hdef ?_
 obtain ⟨hg,hC,hB,hGT⟩:=r.makes ok
 obtain ⟨hMu,ps,hp,t3,w⟩:=r.tabs T ok.tb
 have hql:env.qual++"<lambda>"=F.ql++"<lambda>":=by rw [r.ql]
 rw [hql]
 have hcl:closureFor scope env=pure []:=closureFor_none hfree
 cases hc:codeAmong pos ps.toList with
 | none=>
  refine kla_makeFunction (mg:=X.mg) hcl r.gl hg (by rw [r.cd];exact ok.cd) hC hp t3 hc hGT hB fun c' ctv h' tk hx hge hlt hrec htb=>?_
  have hz:s.heap.objs.size≤h'.objs.size:=Nat.le_of_lt (Nat.lt_of_le_of_lt hge hlt)
  obtain ⟨R1,S1⟩:=r.coded (tk:=tk) ok.tb hp hx hge hlt (by rw [ok.nm];exact hrec) htb hz
  have R2:=R1.fresh (kla_obj "<lambda>" (F.ql++"<lambda>") params body scope [] ((X.mg "__name__").getD .none) c' ctv)
  have S2:=S1.toStep.trans (Step.fresh (kla_obj "<lambda>" (F.ql++"<lambda>") params body scope [] ((X.mg "__name__").getD .none) c' ctv)) r.lt
  exact k _ _ _ R2 S2 (Heap.get?_push_size _ rfl) (fun q=>absurd (R1.lt _ (R1.ma _ q)) (Nat.lt_irrefl _)) hz
 | some cv=>
  obtain ⟨c',o,vs,t,e1,e2,e3,e4,e5⟩:=w pos cv hc
  subst e1
  refine kla_makeFunctionHit (mg:=X.mg) hcl r.gl hg (by rw [r.cd];exact ok.cd) hC hp t3 hc hB fun ctv h' tk hk hz=>?_
  have G1:Grow s { s with heap:=h',toks:=tk }:=⟨hk,hz,rfl,rfl⟩
  have R1:=r.grow G1
  have R2:=R1.fresh { cls:=.type "function",data:=.func (kla_fn "<lambda>" (F.ql++"<lambda>") params body scope [] ((X.mg "__name__").getD .none) (.ref c') ctv) }
  have S2:=(Step.ofGrow (Av:=Av) (Mu:=Mu) G1).trans (Step.fresh { cls:=.type "function",data:=.func (kla_fn "<lambda>" (F.ql++"<lambda>") params body scope [] ((X.mg "__name__").getD .none) (.ref c') ctv) }) r.lt
  exact k _ _ _ R2 S2 (Heap.get?_push_size _ rfl) (fun q=>absurd (R1.lt _ (R1.ma _ q)) (Nat.lt_irrefl _)) hz
set_option tactic.hygienic true in
theorem wp_def {A:Around} {Av Mu:Addr→Prop} {env:Env} {st:St} {s:Shared} {Q:Flow→Shared→Prop} {E:Value→Shared→Prop} {c T:Addr} {pos:Pos} {name:Str} {params:Arguments} {body:List Stmt} {scope:Scope} {i:Nat} (ok:MakeOK X F c T pos name)
  (hd0:params.defaults=[]) (hk0:params.kw_defaults=[]) (ha:annTrees params none env=[]) (hcells:∀n,(n,NameKind.free)∈scope.names→∃c,env.cells.lookup n=some c) (r:R X F Av Mu env st s)
  (hi:F.names[i]? =some name) (hl:F.Wr name) (hkl:F.scope.names.lookup name≠some .globalExplicit)
  (k:∀f doc pm cdv ctv s',R X F Av Mu env (st.set i (.ref f)) s'→Step Av Mu s Av Mu s'→s'.heap.get? f=some (fnO (fnX name (F.ql++name) params body scope (clOf env.cells scope.names []) .none .none doc pm none cdv ctv) none)→¬ Av f→
   s'.heap.CodeRec cdv (F.ql++name)→(∀c,cdv=.ref c→¬ Av c)→Q .next s'):
  wpAny (model X.prog X.w) A (exec (.FunctionDef name params body [] none [] scope none name pos) env) Q E s:=by
 refine nestDef_K hd0 hk0 ha ?_
 obtain ⟨hg,hC,hB,hGT⟩:=r.makes ok
 obtain ⟨hMu,ps,hp,t3,w⟩:=r.tabs T ok.tb
 have hql:qualnameIn env name name=F.ql++name:=by
  have hke:env.kindOf name=F.scope.names.lookup name:=by show env.scope.names.lookup name=_;rw [r.sc]
  unfold qualnameIn
  rw [hke,if_neg (by simpa using hkl),r.ql]
 rw [hql]
 have hcl:closureFor scope env=pure (clOf env.cells scope.names []):=closure_eq hcells
 cases hc:codeAmong pos ps.toList with
 | none=>
  refine makeFunction_K (mg:=X.mg) hcl r.gl hg (by rw [r.cd];exact ok.cd) hC hp t3 hc hGT hB fun c' ctv doc h' tk hx hge hlt hrec htb=>?_
  have hz:s.heap.objs.size≤h'.objs.size:=Nat.le_of_lt (Nat.lt_of_le_of_lt hge hlt)
  obtain ⟨R1,S1⟩:=r.coded (tk:=tk) ok.tb hp hx hge hlt (by rw [ok.nm];exact hrec) htb hz
  have G:=Grow.push (s:={ s with heap:=h',toks:=tk }) (fnMade name (F.ql++name) params body scope (clOf env.cells scope.names []) doc ((X.mg "__name__").getD .none) c' ctv) (tk:=tk) (d:=s.drawn)
  have hn:¬ Av h'.objs.size:=fun q=>absurd (R1.lt _ q) (Nat.lt_irrefl _)
  have hc2:∀c2,Value.ref c'=.ref c2→¬ Av c2:=fun c2 e=>by
   cases e
   exact fun q=>absurd (r.lt _ q) (Nat.not_lt.mpr hge)
  refine wp_store (R1.grow G) hi (b:=.ref h'.objs.size) rfl hl fun s2 R2 S2=>?_
  obtain ⟨c3,oc,vs,t,e1,e2,e4,e5⟩:=hrec
  cases e1
  refine k _ doc _ _ ctv s2 R2 ((S1.toStep.trans (Step.ofGrow G) r.lt).trans S2 r.lt) (S2.keep _ _ (Heap.get?_push_size _ rfl) fun q=>hn (R1.ma _ q)) hn ⟨c',oc,vs,t,rfl,S2.keep _ _ (Heap.get?_push_of_some _ e2) fun q=>?_,e4,e5⟩ hc2
  exact hc2 _ rfl (R1.ma _ q)
 | some cv=>
  obtain ⟨c',o,vs,t,e1,e2,e3,e4,e5⟩:=w pos cv hc
  subst e1
  refine makeFunction_hit (mg:=X.mg) hcl r.gl hg (by rw [r.cd];exact ok.cd) hC hp t3 hc hB fun ctv doc h' tk hk hz=>?_
  have G1:Grow s { s with heap:=h',toks:=tk }:=⟨hk,hz,rfl,rfl⟩
  have R1:=r.grow G1
  have G:=Grow.push (s:={ s with heap:=h',toks:=tk }) { cls:=.type "function",data:=.func (fnX name (F.ql++name) params body scope (clOf env.cells scope.names []) .none .none doc ((X.mg "__name__").getD .none) none (.ref c') ctv) } (tk:=tk) (d:=s.drawn)
  have hn:¬ Av h'.objs.size:=fun q=>absurd (R1.lt _ q) (Nat.lt_irrefl _)
  refine wp_store (R1.grow G) hi (b:=.ref h'.objs.size) rfl hl fun s2 R2 S2=>?_
  refine k _ doc _ _ ctv s2 R2 (((Step.ofGrow G1).trans (Step.ofGrow G) r.lt).trans S2 r.lt) (S2.keep _ _ (Heap.get?_push_size _ rfl) fun q=>hn (R1.ma _ q)) hn ⟨c',o,vs,t,rfl,S2.keep _ _ (G.keep _ _ (hk _ _ e2)) fun q=>e3 (R1.ma _ q),e4,by rw [←ok.nm];exact e5⟩ fun c2 e=>?_
  cases e
  exact e3
end Mine
end
section
open PySem PySem.W PyProof.Rows PySem.SeqAt PySem.Builtin.Str
namespace Mine
noncomputable def clipN (o:Option Int) (d n:Nat):Nat:=match o with
 | none=>d
 | some i=>(max 0 (min (if i < 0 then i+n else i) n)).toNat
theorem clip_cast (o:Option Int) (d n:Nat) (x:Int) (h:x=d):(match o with
  | none=>x
  | some i=>max 0 (min (if i < 0 then i+(n:Int) else i) (n:Int)))=((clipN o d n:Nat):Int):=by
 cases o with
 | none=>exact h
 | some i=>exact (Int.toNat_of_nonneg (Int.le_max_left ..)).symm
theorem clipN_le (o:Option Int) {d n:Nat} (h:d≤n):clipN o d n≤n:=by
 cases o with
 | none=>exact h
 | some i=>exact Int.toNat_le.mpr (Int.max_le.mpr ⟨Int.natCast_nonneg _,Int.min_le_right ..⟩)
theorem clipN_nat (k d n:Nat):clipN (some (k:Int)) d n=min k n:=by
 show (max 0 (min (if (k:Int) < 0 then (k:Int)+n else (k:Int)) (n:Int))).toNat=_
 rw [if_neg (Int.not_lt.mpr (Int.natCast_nonneg k))]
 rcases Nat.le_total k n with h | h
 ·rw [Int.min_eq_left (Int.ofNat_le.mpr h),Nat.min_eq_left h];rfl
 ·rw [Int.min_eq_right (Int.ofNat_le.mpr h),Nat.min_eq_right h];rfl
set_option tactic.hygienic true in
theorem range_nat (a b:Nat):sliceRange (a:Int) (b:Int) 1=(List.range (b - a)).map fun k=>a+k:=by
 unfold sliceRange
 dsimp only
 rw [if_pos (by decide)]
 have:(if (a:Int) < b then ((b:Int) - a+1 - 1) / 1 else 0).toNat=b - a:=by
  rw [Int.ediv_one,Int.add_sub_cancel]
  split
  ·exact Int.toNat_sub b a
  ·rename_i h
   exact (Nat.sub_eq_zero_of_le (Int.ofNat_le.mp (Int.not_lt.mp h))).symm
 rw [this]
 refine List.map_congr_left fun k _=>?_
 rw [Int.one_mul]
 exact Int.toNat_natCast (a+k)
theorem bounds_nat (a b:Option Int) (n:Nat):sliceBounds a b none n=(((clipN a 0 n:Nat):Int),((clipN b n n:Nat):Int),1):=by
 unfold sliceBounds
 simp only [Option.getD_none,show ((1:Int)>0)=True from by simp,if_true]
 rw [←clip_cast a 0 n 0 rfl,←clip_cast b n n n rfl]
 cases a<;>cases b<;>rfl
theorem picksO {α:Type} (l:List α) (a b:Nat) (hb:b≤l.length):((List.range (b - a)).map (fun k=>a+k)).filterMap (l[·]?)=(l.drop a).take (b - a):=by
 by_cases h:a≤b
 ·exact StrLaws.picks l (b - a) a (by rw [Nat.add_sub_cancel' h];exact hb)
 ·rw [Nat.sub_eq_zero_of_le (Nat.le_of_not_le h)];simp
theorem listSl_eq {α:Type} (l:List α) (a b:Option Int):listSl l a b none=(l.drop (clipN a 0 l.length)).take (clipN b l.length l.length - clipN a 0 l.length):=by
 unfold listSl pick
 rw [bounds_nat]
 dsimp only
 rw [range_nat]
 exact picksO l _ _ (clipN_le b (Nat.le_refl _))
theorem listSl_length {α:Type} (l:List α) (a b:Option Int):(listSl l a b none).length≤l.length:=by
 rw [listSl_eq,List.length_take,List.length_drop]
 exact Nat.le_trans (Nat.min_le_right ..) (Nat.sub_le ..)
end Mine
end
section
open PySem PySem.W PyProof.Rows PySem.Builtin
namespace Mine
variable {X:Cx}
noncomputable abbrev sAt:Str:=PySem.Str.ofString "at"
noncomputable abbrev sSize:Str:=PySem.Str.ofString "size"
set_option genInjectivity false in
set_option genSizeOf false in
structure PsR where
 (pa a1 a2 a3 a4 a5 b1 b2 b3 b4 b5 b6 b7 b8 b9 b10 b11 b12 b13 b14:Pos)
noncomputable abbrev readParams (pa:Pos):Arguments:={ posonlyargs:=[],args:=[{ arg:="size",annotation:=none,pos:=pa }],vararg:=none,kwonlyargs:=[],kw_defaults:=[],kwarg:=none,defaults:=[] }
noncomputable abbrev readScope (oc:Str):Scope:={ kind:=.function,names:=[(PySem.Str.ofString "size",.local),(PySem.Str.ofString "at",.free),(oc,.free),(PySem.Str.ofString "bytes",.globalImplicit)],isGenerator:=false,isCoroutine:=false,more:=[] }
noncomputable abbrev readBody (oc:Str) (Z:PsR):List Stmt:=
  [.AugAssign (.Subscript (.Name "at" Z.a1) (.Constant (.int 0) 0 Z.a2) Z.a3) .Add (.Name "size" Z.a4) Z.a5,
   .Return (some (.Call (.Name "bytes" Z.b1) [.Subscript (.Name oc Z.b2) (.Slice (some (.BinOp (.Subscript (.Name "at" Z.b3) (.Constant (.int 0) 0 Z.b4) Z.b5) .Sub (.Name "size" Z.b6) Z.b7)) (some (.Subscript (.Name "at" Z.b8) (.Constant (.int 0) 0 Z.b9) Z.b10)) none Z.b11) Z.b12] [] Z.b13)) Z.b14]
structure Go (a:Addr) (s s':Shared):Prop where
 keep:∀b o,b≠a→s.heap.get? b=some o→s'.heap.get? b=some o
 os:s'.os=s.os
 gens:s'.gens=s.gens
theorem Go.trans {a:Addr} {s s' s'':Shared} (x:Go a s s') (y:Go a s' s''):Go a s s'':=⟨fun b o n e=>y.keep b o n (x.keep b o n e),y.os.trans x.os,y.gens.trans x.gens⟩
theorem Go.ofGrow {a:Addr} {s s':Shared} (g:Grow s s'):Go a s s':=⟨fun b o _ e=>g.keep b o e,g.os,g.gens⟩
structure ReadAt (h:Heap) (f1 cA cO aAt aOc:Addr) (oc:Str) (octs:List Int):Prop where
 fn:∃(qual:Str) (Z:PsR) (clos:List (Str×Addr)) (doc pm cdv ctv:Value),
  h.get? f1=some (fnO (fnX "_law_read" qual (readParams Z.pa) (readBody oc Z) (readScope oc) clos .none .none doc pm none cdv ctv) none)∧
  h.CodeRec cdv qual∧clos.lookup sAt=some cA∧clos.lookup oc=some cO
 cA:h.IsCell cA (some (.ref aAt))
 cO:h.IsCell cO (some (.ref aOc))
 oc:∃vs n,h.get? aOc=some (listObj vs n)∧VRs h (fun _=>False) vs (octs.map .int)
 ne:aOc≠aAt
 nl:h.NoLimit
noncomputable def AtIs (h:Heap) (aAt:Addr) (p:Int):Prop:=∃n t,h.get? aAt=some (listObj [.int p t] n)
theorem VRs_int_mono {h h':Heap} {vs:List Value} {octs:List Int} (x:VRs h (fun _=>False) vs (octs.map .int)):VRs h' (fun _=>False) vs (octs.map .int):=by
 induction octs generalizing vs with
 | nil=>cases vs with
  | nil=>unfold VRs;trivial
  | cons=>unfold VRs at x;exact x.elim
 | cons i r ih=>cases vs with
  | nil=>unfold VRs at x;exact x.elim
  | cons v vs=>
   rw [List.map_cons] at x ⊢
   unfold VRs at x ⊢
   refine ⟨?_,ih x.2⟩
   have:=x.1
   unfold VR at this ⊢
   exact this
theorem ReadAt.go {s s':Shared} {f1 cA cO aAt aOc:Addr} {oc:Str} {octs:List Int} {p:Int} (x:ReadAt s.heap f1 cA cO aAt aOc oc octs) (hat:AtIs s.heap aAt p) (hl:s'.heap.NoLimit) (g:Go aAt s s'):ReadAt s'.heap f1 cA cO aAt aOc oc octs:=by
 obtain ⟨n,t,hat⟩:=hat
 have nd:∀{b o},s.heap.get? b=some o→(∀vs n,o≠listObj vs n)→b≠aAt:=fun e q z=>by subst z;rw [hat] at e;cases e;exact q _ _ rfl
 refine ⟨?_,?_,?_,?_,x.ne,hl⟩
 ·obtain ⟨qual,Z,clos,doc,pm,cdv,ctv,e,hc,r⟩:=x.fn
  refine ⟨qual,Z,clos,doc,pm,cdv,ctv,g.keep _ _ (nd e fun _ _ q=>by cases (congrArg Obj.data q)) e,?_,r⟩
  obtain ⟨c,o,vs,t,e1,e2,e3,e4⟩:=hc
  exact ⟨c,o,vs,t,e1,g.keep _ _ (nd e2 fun _ _ q=>by rw [q] at e3;cases e3) e2,e3,e4⟩
 ·obtain ⟨o,e,hd⟩:=x.cA
  exact ⟨o,g.keep _ _ (nd e fun _ _ q=>by rw [q] at hd;cases hd) e,hd⟩
 ·obtain ⟨o,e,hd⟩:=x.cO
  exact ⟨o,g.keep _ _ (nd e fun _ _ q=>by rw [q] at hd;cases hd) e,hd⟩
 ·obtain ⟨vs,n,e,z⟩:=x.oc
  exact ⟨vs,n,g.keep _ _ x.ne e,VRs_int_mono z⟩
theorem ints_slice {octs:List Int} {a b:Option Int}:listSl (octs.map PV.int) a b none=(listSl octs a b none).map PV.int:=by
 unfold listSl
 rw [List.length_map]
 unfold pick
 rw [List.map_filterMap]
 congr 1
 funext i
 rw [List.getElem?_map]
theorem boot_bytes:bootBuiltins (PySem.Str.ofString "bytes")=some (.type "bytes"):=by kernel_rfl
theorem allOf_ints:∀l:List Int,allOf asInt (l.map PV.int)=some l
 | []=>rfl
 | x::l=>by
  rw [List.map_cons]
  unfold allOf
  rw [allOf_ints l]
  rfl
theorem intsAre_map:∀l:List (Int×Tok),IntsAre (l.map fun p=>Value.int p.1 p.2) (l.map (·.1))
 | []=>.nil
 | _::l=>.cons _ _ (intsAre_map l)
theorem mem_listSl {α:Type} {l:List α} {a b:Option Int} {z:α} (h:z∈listSl l a b none):z∈l:=by
 unfold listSl pick at h
 obtain ⟨i,_,e⟩:=List.mem_filterMap.mp h
 exact List.mem_of_getElem? e
theorem read_nocell {oc:Str}:∀y∈(readScope oc).names,y.2≠NameKind.cell:=by
 intro y hy
 simp only [List.mem_cons,List.not_mem_nil,or_false] at hy
 rcases hy with rfl | rfl | rfl | rfl<;>(intro h;cases h)
theorem read_free {oc:Str} (h:oc≠sAt∧oc≠sSize∧oc≠"bytes"):List.lookup oc (readScope oc).names=some .free:=by
 unfold readScope
 rw [List.lookup_cons,beq_eq_false_iff_ne.mpr h.2.1]
 show List.lookup oc _=_
 rw [List.lookup_cons,beq_eq_false_iff_ne.mpr h.1]
 show List.lookup oc _=_
 rw [List.lookup_cons,beq_self_eq_true]
theorem read_glob {oc:Str} (h:oc≠sAt∧oc≠sSize∧oc≠"bytes"):List.lookup (PySem.Str.ofString "bytes") (readScope oc).names=some .globalImplicit:=by
 unfold readScope
 rw [List.lookup_cons,show ((PySem.Str.ofString "bytes":Str)==PySem.Str.ofString "size")=false by decide+kernel]
 show List.lookup _ _=_
 rw [List.lookup_cons,show ((PySem.Str.ofString "bytes":Str)==PySem.Str.ofString "at")=false by decide+kernel]
 show List.lookup _ _=_
 rw [List.lookup_cons,show ((PySem.Str.ofString "bytes":Str)==oc)=false from beq_eq_false_iff_ne.mpr (Ne.symm h.2.2)]
 show List.lookup _ _=_
 rw [List.lookup_cons,beq_self_eq_true]
theorem slice_ints {octs:List Int} {p n:Int} (hp:0≤p∧p < 1000) (hn:0≤n∧n < 1000) (hlen:octs.length≤1000):
  pySlice (.list (octs.map .int)) (some p) (some (p+n)) none=some (.list (listSl (octs.map .int) (some p) (some (p+n)) none)):=by
 unfold pySlice
 rw [if_neg (by simp)]
 dsimp only
 rw [if_pos (by rw [List.length_map];lia)]
set_option maxHeartbeats 400000 in
theorem read_w {A:Around} {s:Shared} {f1 cA cO aAt aOc:Addr} {oc:Str} {octs:List Int} {p n:Int} {t:Tok} {K:Result→Shared→Prop} (hroom:A.depth < recursionLimit) (hh:A.handled=none)
  (hg:s.heap.Ns mainGlobals X.mg) (hb:s.heap.Ns builtinsNs X.mb) (hnb:X.mg "bytes"=none)
  (x:ReadAt s.heap f1 cA cO aAt aOc oc octs) (hat:AtIs s.heap aAt p) (hp:0≤p∧p < 1000) (hn:0≤n∧n < 1000) (hr:∀z∈octs,0≤z∧z < 256) (hlen:octs.length≤1000) (hoc:(oc==("__classdict__":Str))=false) (hoc2:(oc==("__debug__":Str))=false) (hoc3:oc≠sAt∧oc≠sSize∧oc≠"bytes")
  (k:∀t' s',Go aAt s s'→AtIs s'.heap aAt (p+n)→s'.heap.NoLimit→K (.ok (.ret (.bytes (byteArr (listSl octs (some p) (some (p+n)) none)) t'))) s'):
  codeAny (model X.prog X.w) A (.call (.ref f1) ⟨[.int n t],[]⟩) K s:=by
 obtain ⟨qual,Z,clos,doc,pm,cdv,ctv,ef,hcd,hcA,hcO⟩:=x.fn
 refine codeAny_call_def (fd:=fnX "_law_read" qual (readParams Z.pa) (readBody oc Z) (readScope oc) clos .none .none doc pm none cdv ctv) (binds:=[(sSize,.int n t)]) hroom ef rfl x.nl hcd rfl (.of_eq (by first | rfl | kernel_rfl)) ?_ ?_ (fun h₁ hns hk₁=>?_) rfl rfl rfl
 ·exact read_nocell
 ·intro y hy
  simp at hy
  subst hy
  rfl
 have hz₁:s.heap.objs.size≤h₁.objs.size:=Nat.le_of_lt hns.lt
 generalize hE:callEnv (fnX "_law_read" qual (readParams Z.pa) (readBody oc Z) (readScope oc) clos .none .none doc pm none cdv ctv) s.heap.objs.size f1=env
 have hkind:env.scope.kind=.function:=by rw [←hE];rfl
 have kSize:env.kindOf sSize=some .local:=by rw [←hE];rfl
 have kAt:env.kindOf sAt=some .free:=by rw [←hE];rfl
 have kOc:env.kindOf oc=some .free:=by rw [←hE];exact read_free hoc3
 have kBy:env.kindOf (PySem.Str.ofString "bytes")=some .globalImplicit:=by rw [←hE];exact read_glob hoc3
 have hL:env.locals=s.heap.objs.size:=by rw [←hE];rfl
 have hcells:env.cells=clos:=by rw [←hE];rfl
 have hgl:env.globals=mainGlobals:=by rw [←hE];rfl
 have hbl:env.builtins=builtinsNs:=by rw [←hE];rfl
 have G0:Grow s { s with heap:=h₁,toks:=s.toks+1 }:=⟨hk₁,hz₁,rfl,rfl⟩
 obtain ⟨nA,tA,eA⟩:=hat
 obtain ⟨oA,ecA,edA⟩:=x.cA
 obtain ⟨oO,ecO,edO⟩:=x.cO
 obtain ⟨vs,nO,eO,zO⟩:=x.oc
 have ev:∀{M:Model} {A':Around} {E:Value→Shared→Prop} {Q:Value→Shared→Prop} {s':Shared} {pos:Pos},Go aAt s s'→Q (.ref aAt) s'→wpAny M A' (eval (.Name "at" pos) env) Q E s':=fun {M A' E Q s' pos} G q=>
  wpAny_Name (wpAny_loadName_free hkind kAt (by rw [hcells];exact hcA) ⟨oA,G.keep _ _ (fun z=>by rw [z,eA] at ecA;cases ecA;cases edA) ecA,edA⟩ q (by decide+kernel)) (by decide+kernel)
 have evS:∀{M:Model} {A':Around} {E:Value→Shared→Prop} {Q:Value→Shared→Prop} {s':Shared} {pos:Pos},(∃m,s'.heap.Ns s.heap.objs.size m∧m sSize=some (.int n t))→Q (.int n t) s'→wpAny M A' (eval (.Name "size" pos) env) Q E s':=fun {M A' E Q s' pos} G q=>by
  obtain ⟨m,hm,e⟩:=G
  exact wpAny_Name (wpAny_loadName_local hkind kSize (by rw [hL];exact hm) e q) (by decide+kernel)
 have ns0:∃m,h₁.Ns s.heap.objs.size m∧m sSize=some (.int n t):=⟨_,hns,by rfl⟩
 have item:∀{A':Around} {E:Value→Shared→Prop} {Q:Value→Shared→Prop} {s':Shared} {q:Int} {u t0:Tok} {n':Nat},s'.heap.get? aAt=some (listObj [.int q u] n')→Q (.int q u) s'→wpAny (model X.prog X.w) A' (getItem (.ref aAt) (.int 0 t0)) Q E s':=fun {A' E Q s' q u t0 n'} g hq=>
  list_item_w (X:=X) (j:=0) g (by lia) (by rfl) (by rfl) hq
 refine wpAny_execs_cons (wpAny_AugAssign_SubscriptAny (ev (.ofGrow G0) (wpAny_Constant_int (item (hk₁ _ _ eA) ?_))))
 refine evS ns0 (P.iadd_int ?_)
 have hLA:s.heap.objs.size≠aAt:=fun z=>absurd (Heap.lt_size eA) (z ▸ Nat.lt_irrefl _)
 refine list_set_x (j:=0) (hk₁ _ _ eA) (by lia) (by rfl) fun h4 n4 g4 sb=>?_
 have G4:∀{tk:Nat},Go aAt s { s with heap:=h4,toks:=tk }:=fun {tk}=>(Go.ofGrow G0).trans ⟨fun b o hb e=>(sb.2 b hb).trans e,rfl,rfl⟩
 obtain ⟨m1,hns1,e1⟩:=ns0
 have ns4:∃m,h4.Ns s.heap.objs.size m∧m sSize=some (.int n t):=⟨_,hns1.extBut sb.extBut hLA,e1⟩
 have gl4:h4.Ns mainGlobals X.mg:=by
  refine (hg.keeps hk₁).extBut sb.extBut fun z=>?_
  obtain ⟨o,es,ep,e,hd,_⟩:=hg
  rw [z,eA] at e;cases e;cases hd
 have bl4:h4.Ns builtinsNs X.mb:=by
  refine (hb.keeps hk₁).extBut sb.extBut fun z=>?_
  obtain ⟨o,es,ep,e,hd,_⟩:=hb
  rw [z,eA] at e;cases e;cases hd
 refine wpAny_execs_cons (wpAny_Return_some ?_)
 show wpAny _ _ (do callWith Z.b13 (←eval (.Name "bytes" Z.b1) env) [] (backTo Z.b13 (starEach [_] env)) (backToKw Z.b13 (keywordEach [] env))) _ _ _
 refine wpAny_bind (Calls.Name_function_global hkind kBy (Calls.loadGlobal_builtin (mg:=X.mg) (mb:=X.mb) (by rw [hgl];exact gl4) hnb (by rw [hbl];exact bl4) ((X.bb _ (by decide+kernel)).trans boot_bytes) (callArgsT rfl ?_)) (by decide+kernel))
 refine Calls.spliced_cons ?_
 refine Subscript_ (wpAny_Name (wpAny_loadName_free hkind kOc (by rw [hcells];exact hcO) ⟨oO,(G4 (tk:=0)).keep _ _ (fun z=>by rw [z,eA] at ecO;cases ecO;cases edO) ecO,edO⟩ ?_ hoc) hoc2)
 refine wpAny_Slice ?_
 have tail4:∀{A':Around} {E:Value→Shared→Prop} {Q:Value→Shared→Prop} {g:Array GenState} {dr:Drawn} {tk:Nat} {os:OsState} {t0:Tok} {e1:Expr} {b:Pos},(∀u,Q (.int (p+n) u) { heap:=h4,gens:=g,drawn:=dr,toks:=tk,os:=os })→wpAny (model X.prog X.w) A' (subscriptTail e1 (.Constant (.int 0) 0 b) (.ref aAt) (.int 0 t0)) Q E { heap:=h4,gens:=g,drawn:=dr,toks:=tk,os:=os }:=fun {A' E Q g dr tk os t0 e1 b} hq=>
  tail_any (T:="list") ⟨_,g4,rfl⟩ slot_list_getitem.lookup (item g4 (hq _)) (by rfl)
 show wpAny _ _ (eval _ env) _ _ _
 refine wpAny_BinOp (Subscript_ (ev G4 (wpAny_Constant_int (tail4 fun u4=>evS ns4 (_root_.PySem.P.sub_int ?_)))))
 show wpAny _ _ (eval _ env) _ _ _
 refine Subscript_ (ev G4 (wpAny_Constant_int (tail4 fun u5=>?_)))
 show wpAny _ _ (pure Value.none) _ _ _
 refine wpAny_pure ?_
 have hV:VR h4 (fun _=>False) (.ref aOc) (.list (octs.map .int)):=by
  unfold VR
  exact ⟨aOc,vs,nO,rfl,(G4 (tk:=0)).keep _ _ x.ne eO,fun h=>h,VRs_int_mono zO⟩
 refine pySlice_w (X:=X) (Av:=fun _=>False) (o:=.list (octs.map .int)) (a:=some p) (b:=some (p+n)) (c:=none) (r:=.list (listSl (octs.map .int) (some p) (some (p+n)) none)) (slice_ints hp hn hlen) (fun _ h=>h.elim) hV ⟨_,by rw [Int.add_sub_cancel]⟩ ⟨_,rfl⟩ rfl (by intro _ _;exact ⟨_,rfl⟩) fun v6 s6 G6 V6=>?_
 rw [ints_slice] at V6
 unfold VR at V6
 obtain ⟨l6,vs6,n6,rfl,gl6,_,z6⟩:=V6
 obtain ⟨l7,rfl,e7⟩:=ints_of z6 (allOf_ints _)
 refine Calls.spliced_nil ?_
 refine call_bytes_ints (l:=l6) (vs:=l7.map fun p=>Value.int p.1 p.2) (ns:=listSl octs (some p) (some (p+n)) none) ⟨_,gl6,rfl,n6,rfl⟩ ?_ ?_ ?_ hh fun h8 t8 k8 hk8=>?_
 ·rw [←e7];exact intsAre_map _
 ·exact fun z hz=>hr z (mem_listSl hz)
 ·rw [List.length_map,←List.length_map (f:=(·.1)),e7]
  exact Nat.le_trans (listSl_length ..) (Nat.le_trans hlen (by decide))
 have k6:∀b o,h4.get? b=some o→s6.heap.get? b=some o:=fun b o e=>G6.keep b o e
 have hG6:Go aAt s s6:=⟨fun b o n e=>k6 b o ((G4 (tk:=0)).keep b o n e),G6.os,G6.gens⟩
 have hfin:Go aAt s { s6 with heap:=h8,toks:=k8 }:=hG6.trans ⟨fun b o _ e=>hk8 b o e,rfl,rfl⟩
 refine k t8 _ hfin ⟨n4,_,hk8 _ _ (k6 _ _ g4)⟩ ?_
 refine x.nl.at fun o e=>hfin.keep _ _ (fun z=>?_) e
 obtain ⟨mc,⟨o',es,ep,e',hd',_⟩,_⟩:=x.nl
 rw [z,eA] at e'
 cases e'
 cases hd'
end Mine
end
section
open PySem PySem.W PyProof.Rows PySem.Builtin PySem.Builtin.ObjectAttr
namespace Mine
variable {X:Cx}
noncomputable def StreamAt (h:Heap) (f2 f1:Addr):Prop:=∃fd D md,h.get? f2=some (fnO fd (some D))∧h.Ns D md∧md (PySem.Str.ofString "read")=some (.ref f1)
theorem StreamAt.go {s s':Shared} {f2 f1 aAt:Addr} {p:Int} (x:StreamAt s.heap f2 f1) (hat:AtIs s.heap aAt p) (g:Go aAt s s'):StreamAt s'.heap f2 f1:=by
 obtain ⟨n,t,hat⟩:=hat
 obtain ⟨fd,D,md,e,⟨o,es,ep,eo,hd,r⟩,hm⟩:=x
 refine ⟨fd,D,md,g.keep _ _ (fun z=>?_) e,⟨o,es,ep,g.keep _ _ (fun z=>?_) eo,hd,r⟩,hm⟩
 ·subst z;rw [hat] at e;cases (congrArg (fun o=>o.map Obj.data) e)
 ·subst z;rw [hat] at eo;cases eo;cases hd
theorem call_read {A:Around} {E:Value→Shared→Prop} {s:Shared} {env:Env} {f2 f1:Addr} {p1 p2 pos:Pos} {arg:Expr} {n:Int} {Q:Value→Shared→Prop} (x:StreamAt s.heap f2 f1) (hf1:∃fd,s.heap.get? f1=some (fnO fd none)) (hline:(p2.endLine==pos.line)=true)
  (hn:∀{Q':Value→Shared→Prop},Q' (.ref f2) s→wpAny (model X.prog X.w) A (eval (.Name "f" p1) env) Q' E s)
  (ha:∀{Q':Value→Shared→Prop} {tk:Nat},(∀t tk',Q' (.int n t) { s with toks:=tk' })→wpAny (model X.prog X.w) A (eval arg env) Q' E { s with toks:=tk })
  (hstar:starEach [arg] env=[(false,eval arg env)])
  (h:∀t tk,wpAny (model X.prog X.w) A (call (.ref f1) [.int n t]) Q E { s with toks:=tk }):
  wpAny (model X.prog X.w) A (eval (.Call (.Attribute (.Name "f" p1) "read" p2) [arg] [] pos) env) Q E s:=by
 rw [arm_eval_Call,show attributeBase (.Name "f" p1) "read" env (eval (.Name "f" p1) env)=eval (.Name "f" p1) env from rfl]
 refine wpAny_bind (hn ?_)
 refine wpAny_bind (wpAny_standAt ?_)
 have hform:methodCallForm ([arg].length+([]:List Keyword).length) (backTo pos (starEach [arg] env)) (backToKw pos (keywordEach [] env))=true:=by rw [hstar];rfl
 have hpos:methodCallPos true (.Name "f" p1) env p2 pos=pure pos:=by unfold methodCallPos;simp [hline]
 unfold methodCall
 rw [hform]
 obtain ⟨hp,g,d,t,os⟩:=s
 obtain ⟨fd,D,md,e1,e2,e3⟩:=x
 refine wpAny_bind (wpAny_holding (getMethod_fn e1 e2 lk_fn_read e3 rfl ?_))
 refine wpAny_bind (wpAny_of_eq hpos ?_)
 obtain ⟨fd1,e4⟩:=hf1
 refine callWith_F ⟨_,_,_,_,e4⟩ ?_ hstar
 show wpAny _ _ (spliced (backTo pos (starEach [arg] env))) _ _ _
 rw [hstar]
 exact Calls.spliced_cons (ha fun t tk=>Calls.spliced_nil ⟨⟨_,_,_,_,e4⟩,h t tk⟩)
end Mine
end
section
open PySem PySem.W PyProof.Rows PySem.Builtin PySem.Builtin.ObjectAttr
namespace Mine
variable {X:Cx}
noncomputable def leB (l:List UInt8):Int:=l.reverse.foldl (fun acc (b:UInt8)=>acc * 256+(b.toNat:Int)) ((0:Nat):Int) - (if (l.reverse.head?.any (· ≥128))=true then 256 ^ l.length else 0)
theorem leB_small {l:List UInt8} (h:l.length≤7):(leB l).natAbs < 2 ^ 63:=by
 unfold leB
 rw [KFB.foldI_eq]
 have h1:=KFB.fold_lt l.reverse 0
 rw [Nat.zero_add,Nat.one_mul,List.length_reverse] at h1
 have h2:256 ^ l.length≤256 ^ 7:=Nat.pow_le_pow_right (by decide) h
 have h3:(256:Nat) ^ 7=72057594037927936:=by decide
 have h4:((256:Int) ^ l.length)=((256 ^ l.length:Nat):Int):=by push_cast;rfl
 split
 ·rw [h4];lia
 ·lia
theorem grownI {M:Model} {A:Around} {E:Value→Shared→Prop} {s:Shared} {i:Int} {Q:Value→Shared→Prop} (hn:i.natAbs < 2 ^ 63) (h:Q (.int i s.toks) { s with toks:=s.toks+1 }):wpAny M A (mkIntGrown i) Q E s:=by
 unfold mkIntGrown
 have hl:¬ (i.natAbs.log2≥bitsLine):=by
  have hb:bitsLine=134217728:=by first | rfl | decide
  by_cases hz:i.natAbs=0
  ·rw [hz,hb]
   decide
  ·have h1:=(Nat.log2_lt hz).mpr hn
   lia
 rw [if_neg hl]
 exact wpAny_mkInt h
theorem tree_signed {prog:Program} {w:World} {A:Around} {E:Value→Shared→Prop} {s:Shared} {b:Array UInt8} {t u:Tok} {P:PySem.Fin→Shared→Prop} (hl:b.toList.length≤7) (h:P (.done (.ret (.int (leB b.toList) s.toks))) { s with toks:=s.toks+1 }):
  wpAny (model prog w) A (Builtin.«int.from_bytes» ⟨[.type "int",.bytes b t],[("byteorder",.str (PySem.Str.ofString "little") u),("signed",.bool true)]⟩) P E s:=by
 unfold Builtin.«int.from_bytes»
 refine wpAny_bind (wpAny_of_eq (a:=true) KFB.type_int ?_)
 refine KFB.if_not rfl ?_
 refine wpAny_bind (wpAny_of_eq (a:=true) PySem.F.conv_sub_int ?_)
 refine KFB.if_not rfl ?_
 refine wpAny_bind (wpAny_of_eq (a:=[some (.bytes b t),some (.str (PySem.Str.ofString "little") u),some (.bool true)]) (by kernel_rfl) ?_)
 refine wpAny_bind (wpAny_of_eq (a:=PySem.Str.ofString "little") (by kernel_rfl) ?_)
 refine wpAny_bind (wpAny_of_eq (a:=true) rfl ?_)
 refine wpAny_bind (wpAny_of_eq (a:=true) (by kernel_rfl) ?_)
 refine wpAny_bind (wpAny_of_eq (a:=b) rfl ?_)
 have hv:(if (true&&(b.toList.reverse.head?.any (· ≥128)))=true then b.toList.reverse.foldl (fun (acc:Int) (b:UInt8)=>acc * 256+(b.toNat:Int)) ((0:Nat):Int) - 256 ^ b.toList.reverse.length else b.toList.reverse.foldl (fun (acc:Int) (b:UInt8)=>acc * 256+(b.toNat:Int)) ((0:Nat):Int))=leB b.toList:=by
  unfold leB
  rw [List.length_reverse,Bool.true_and]
  split<;>simp
 show wpAny _ _ (mkIntGrown (if (true&&(b.toList.reverse.head?.any (· ≥128)))=true then b.toList.reverse.foldl (fun (acc:Int) (b:UInt8)=>acc * 256+(b.toNat:Int)) ((0:Nat):Int) - 256 ^ b.toList.reverse.length else b.toList.reverse.foldl (fun (acc:Int) (b:UInt8)=>acc * 256+(b.toNat:Int)) ((0:Nat):Int))>>=fun v=>_) _ _ _
 rw [hv]
 refine wpAny_bind (grownI (leB_small hl) ?_)
 refine KFB.if_so (by decide+kernel) ?_
 exact wpAny_bind (wpAny_pure (wpAny_pure h))
theorem check_fbk {b:Array UInt8} {t u:Tok} {o:PySem.Str}:checkBoundCall "int.from_bytes" ⟨[.type "int",.bytes b t],[("byteorder",.str o u),("signed",.bool true)]⟩=pure ():=by first | kernel_rfl | rfl
theorem call_signed {prog:Program} {w:World} {A:Around} {E:Value→Shared→Prop} {s:Shared} {x:Addr} {b:Array UInt8} {t u:Tok} {Q:Value→Shared→Prop} (ho:KFB.StandsAt x s.heap) (hl:b.toList.length≤7)
  (h:Q (.int (leB b.toList) s.toks) { s with toks:=s.toks+1 }):wpAny (model prog w) A (call (.ref x) [.bytes b t] [("byteorder",.str (PySem.Str.ofString "little") u),("signed",.bool true)]) Q E s:=by
 refine wpAny_call (codeAny_of_tree ?_)
 show wpAny _ A.in1 (callAny (.ref x) ⟨[.bytes b t],[("byteorder",.str (PySem.Str.ofString "little") u),("signed",.bool true)]⟩) _ _ s
 simp only [callAny]
 refine wpAny_bind (wpAny_load ho ?_)
 simp only [KFB.bound,show (Value.type "builtin_function_or_method"==Value.type "method"||Value.type "builtin_function_or_method"==Value.type "builtin_function_or_method"||Value.type "builtin_function_or_method"==Value.type "method-wrapper")=true by decide,if_true]
 refine KFB.if_so (by decide) ?_
 refine wpAny_bind (wpAny_of_eq (a:=()) check_fbk ?_)
 refine wpAny_bind (wpAny_pure (wpAny_pure ?_))
 exact ⟨KFB.quiet_fb,codeAny_builtin KFB.entry_fb (tree_signed hl h)⟩
theorem callWith_fieldsK {M:Model} {A:Around} {E:Value→Shared→Prop} {s:Shared} {pos:Pos} {u:Addr} {first:List Value} {args:List (Bool×Sem Value)} {kws:List (Option Str×Sem Value)} {Q:Value→Shared→Prop} (hplain:args.any (·.1)=false) (hk:kws.any (·.1.isNone)=false)
  (h:wpAny M A (evalArgs (.ref u) true args kws) (fun x s₁=>KFB.StandsAt u s₁.heap∧wpAny M A (call (.ref u) (first++x.pos) x.kw) Q E s₁) E s):wpAny M A (callWith pos (.ref u) first args kws) Q E s:=by
 unfold callWith
 refine wpAny_bind (wpAny_holding (wpAny_mono h (fun x s₁ h₁=>wpAny_bind (wpAny_standAt ?_)) fun _ _ x=>x))
 obtain ⟨ho,hcall⟩:=h₁
 simp only [hplain,hk,Bool.or_false]
 refine wpAny_bind (m:=keeperOf (.ref u)) ?_
 unfold keeperOf
 refine wpAny_bind (wpAny_load ho ?_)
 simp only [KFB.bound,show (Value.type "builtin_function_or_method" != Value.type "method")=true by decide,show (Value.type "builtin_function_or_method"==Value.type "builtin_function_or_method"||Value.type "builtin_function_or_method"==Value.type "method-wrapper")=true by decide,if_true]
 refine wpAny_pure ?_
 exact wpAny_bind (wpAny_mono hcall (fun r s₂ hr=>wpAny_bind (wpAny_holding (wpAny_point (wpAny_pure hr)))) fun _ _ x=>x)
end Mine
end
section
open PySem PySem.W PyProof.Rows PySem.Builtin PySem.Builtin.ObjectAttr
namespace Mine
variable {X:Cx}
theorem code_fn {fa:Addr} {fd:FuncData} {body:List Stmt} {ps names:List Str} {A:Around} {s:Shared} {K:Result→Shared→Prop} {vals:List Value} (ok:FnOK X fa fd body ps names) (hnc:∀x∈fd.scope.names,x.2≠.cell)
  (hbase:∀b o,X.B.get? b=some o→s.heap.get? b=some o) (hroom:A.depth < recursionLimit) (hlen:vals.length=ps.length)
  (h:∀h₁,h₁.Ns s.heap.objs.size (fun x=>(ps.zip vals).reverse.lookup x)→(∀b o,s.heap.get? b=some o→h₁.get? b=some o)→
   wpAny (model X.prog X.w) (A.deeper (callEnv fd s.heap.objs.size fa)) (execs body (callEnv fd s.heap.objs.size fa)) (fun f s'=>K (.ok (.ret (match f with | .ret v=>v | _=>.none))) s')
    (fun e s'=>wpAny (model X.prog X.w) (A.deeper (callEnv fd s.heap.objs.size fa)) (leaving (callEnv fd s.heap.objs.size fa) e) (fun _ s''=>K (.error e) s'') (fun e' s''=>K (.error e') s'') s')
    { s with heap:=h₁,toks:=s.toks+(ps.zip vals).length }):
  codeAny (model X.prog X.w) A (.call (.ref fa) ⟨vals,[]⟩) K s:=by
 obtain ⟨o,ho,hd⟩:=ok.obj
 refine codeAny_call_def (binds:=ps.zip vals) hroom (hbase _ _ ho) hd (X.nolimit.keeps hbase) (ok.code.keeps hbase) ok.body (.of_eq (ok.bind vals hlen)) hnc (fun y hy=>?_) (fun h₁ a b=>h h₁ a b) ok.co ok.gen ok.fn
 obtain ⟨rest,hrest⟩:=ok.pre
 have hm:y.1∈ps:=by
  have:y.1∈(ps.zip vals).map (·.1):=List.mem_map_of_mem hy
  rw [List.map_fst_zip (by lia)] at this
  exact this
 rcases ok.kinds y.1 (by rw [hrest];exact List.mem_append_left _ hm) with e | e
 ·exact e
 ·exact absurd rfl (hnc _ (mem_of_lookup e))
theorem int_from:findCls [] (.type "int") (.type "type") (PySem.Str.ofString "from_bytes")=some (.get (.builtin "classmethod_descriptor.__get__") (.builtin "int.from_bytes") .none (.type "int")):=by kernel_rfl
theorem boot_int:bootBuiltins (PySem.Str.ofString "int")=some (.type "int"):=by kernel_rfl
set_option genInjectivity false in
set_option genSizeOf false in
structure Ps9 where
 (p1 p2 p3 p4 p5 p6 p7 p8 p9:Pos)
noncomputable abbrev decodeBody (Z:Ps9):List Stmt:=
 [.Return (some (.Call (.Attribute (.Name "int" Z.p1) "from_bytes" Z.p2) [.Name "data" Z.p3]
  [{ arg:=some "byteorder",value:=.Constant (.str "little") 0 Z.p4,pos:=Z.p5 },{ arg:=some "signed",value:=.Constant (.bool true) 0 Z.p6,pos:=Z.p7 }] Z.p8)) Z.p9]
theorem decode_w {fa:Addr} {fd:FuncData} {Z:Ps9} {A:Around} {s:Shared} {K:Result→Shared→Prop} {b:Array UInt8} {t:Tok}
  (ok:FnOK X fa fd (decodeBody Z) [PySem.Str.ofString "data"] [PySem.Str.ofString "data"]) (hnc:∀x∈fd.scope.names,x.2≠.cell) (hline:(Z.p2.endLine==Z.p8.line)=true)
  (hI:fd.scope.names.lookup (PySem.Str.ofString "int")=some .globalImplicit) (hng:X.mg (PySem.Str.ofString "int")=none)
  (hbase:∀b o,X.B.get? b=some o→s.heap.get? b=some o) (hroom:A.depth < recursionLimit) (hl:b.toList.length≤7)
  (k:∀t' s',(∀b o,s.heap.get? b=some o→s'.heap.get? b=some o)→s'.os=s.os→s'.gens=s.gens→K (.ok (.ret (.int (leB b.toList) t'))) s'):
  codeAny (model X.prog X.w) A (.call (.ref fa) ⟨[.bytes b t],[]⟩) K s:=by
 refine code_fn ok hnc hbase hroom rfl fun h₁ hns hk₁=>?_
 have hdata:fd.scope.names.lookup (PySem.Str.ofString "data")=some .local:=by
  rcases ok.kinds _ (.head _) with e | e
  ·exact e
  ·exact absurd rfl (hnc _ (mem_of_lookup e))
 have hgl:=ok.gl
 have hbl:=ok.bl
 have hfn:=ok.fn
 generalize hE:callEnv fd s.heap.objs.size fa=env
 have hkind:env.scope.kind=.function:=by rw [←hE];exact hfn
 have kData:env.kindOf (PySem.Str.ofString "data")=some .local:=by rw [←hE];exact hdata
 have kInt:env.kindOf (PySem.Str.ofString "int")=some .globalImplicit:=by rw [←hE];exact hI
 have hL:env.locals=s.heap.objs.size:=by rw [←hE];rfl
 have hg':env.globals=mainGlobals:=by rw [←hE];exact hgl
 have hb':env.builtins=builtinsNs:=by rw [←hE];exact hbl
 refine wpAny_execs_cons (wpAny_Return_some ?_)
 rw [arm_eval_Call,show attributeBase (.Name "int" Z.p1) "from_bytes" env (eval (.Name "int" Z.p1) env)=eval (.Name "int" Z.p1) env from rfl]
 have kB:∀b o,X.B.get? b=some o→h₁.get? b=some o:=fun b o e=>hk₁ _ _ (hbase _ _ e)
 refine wpAny_bind (Calls.Name_function_global hkind kInt (Calls.loadGlobal_builtin (mg:=X.mg) (mb:=X.mb) (by rw [hg'];exact X.g.keeps kB) hng (by rw [hb'];exact X.b.keeps kB) ((X.bb _ (by decide+kernel)).trans boot_int) ?_) (by decide+kernel))
 refine wpAny_bind (wpAny_standAt ?_)
 have hpos:methodCallPos true (.Name "int" Z.p1) env Z.p2 Z.p8=pure Z.p8:=by unfold methodCallPos;simp [hline]
 unfold methodCall
 rw [show methodCallForm _ _ _=true from by rfl]
 refine wpAny_bind (wpAny_holding (KFB.getm (K:=[]) (h₀:=s.heap) (news:=[]) ⟨hns,hk₁,Nat.le_refl _⟩ News.nil (fun a o e=>by cases e) int_from fun x h2 F2 N2 _=>?_))
 refine wpAny_bind (wpAny_of_eq hpos ?_)
 have hx2:KFB.StandsAt x h2:=KFB.at_of N2 (.head _)
 refine callWith_fieldsK rfl (by rfl) ?_
 show wpAny _ _ (evalArgs _ true [(false,eval (.Name "data" Z.p3) env)] _) _ _ _
 refine evalArgs_kw (by rfl) (Calls.spliced_cons (wpAny_Name (wpAny_loadName_local hkind kData (by rw [hL];exact F2.ns) (v:=.bytes b t) (by rfl) (Calls.spliced_nil ?_)) (by decide+kernel)))
 show wpAny _ _ (evalAll [(do let v ←eval (.Constant (.str "little") 0 Z.p4) env;standAt Z.p8;pure v),(do let v ←eval (.Constant (.bool true) 0 Z.p6) env;standAt Z.p8;pure v)]) _ _ _
 refine wpAny_evalAll_cons (wpAny_bind (Calls.Constant_str (wpAny_bind (wpAny_standAt (wpAny_pure ?_)))))
 refine wpAny_evalAll_cons (wpAny_bind (wpAny_pure (wpAny_bind (wpAny_standAt (wpAny_pure (wpAny_evalAll_nil ?_))))))
 refine ⟨hx2,call_signed hx2 hl ?_⟩
 exact k _ _ F2.keep rfl rfl
end Mine
end
section
open PySem PySem.W PyProof.Rows PySem.Builtin PySem.Builtin.ObjectAttr
namespace Mine
variable {X:Cx}
set_option genInjectivity false in
set_option genSizeOf false in
structure Ps12 where
 (p1 p2 p3 p4 p5 p6 p7 p8 p9 p10 p11 p12:Pos)
noncomputable abbrev uintBody (Z:Ps12) (rest:List Stmt):List Stmt:=
 .Assign [.Name "data" Z.p1] (.Call (.Attribute (.Name "f" Z.p2) "read" Z.p3) [.Constant (.int 1) 0 Z.p4] [] Z.p5) Z.p6::
 .If (.Name "data" Z.p7) [.Return (some (.Subscript (.Name "data" Z.p8) (.Constant (.int 0) 0 Z.p9) Z.p10)) Z.p11] [] Z.p12::rest
theorem noAt {aAt:Addr} {s:Shared} (hA0:∀o,X.B.get? aAt≠some o) {s':Shared} (g:Go aAt s s') (hbase:∀b o,X.B.get? b=some o→s.heap.get? b=some o):∀b o,X.B.get? b=some o→s'.heap.get? b=some o:=
 fun b o e=>g.keep b o (fun z=>hA0 o (z ▸ e)) (hbase b o e)
theorem byte_toInt {z:Int} (h:0≤z∧z < 256):((z.toNat.toUInt8.toNat:Nat):Int)=z:=by
 have:z.toNat.toUInt8.toNat=z.toNat:=by
  rw [Nat.toUInt8,UInt8.toNat_ofNat']
  lia
 rw [this]
 lia
set_option maxHeartbeats 400000 in
theorem uint_w {fa:Addr} {fd:FuncData} {Z:Ps12} {rest:List Stmt} {A:Around} {s:Shared} {K:Result→Shared→Prop} {f2 f1 cA cO aAt aOc:Addr} {oc:Str} {o0:Int} {os:List Int}
  (ok:FnOK X fa fd (uintBody Z rest) [PySem.Str.ofString "f"] [PySem.Str.ofString "f",PySem.Str.ofString "data"]) (hnc:∀x∈fd.scope.names,x.2≠.cell) (hline:(Z.p3.endLine==Z.p5.line)=true)
  (hnb:X.mg "bytes"=none) (hbase:∀b o,X.B.get? b=some o→s.heap.get? b=some o) (hA0:∀o,X.B.get? aAt≠some o) (hroom:A.depth+5 < recursionLimit) (hh:A.handled=none)
  (x:ReadAt s.heap f1 cA cO aAt aOc oc (o0::os)) (hs:StreamAt s.heap f2 f1) (hat:AtIs s.heap aAt 0) (hr:∀z∈o0::os,0≤z∧z < 256) (hlen:(o0::os).length≤1000) (hoc:(oc==("__classdict__":Str))=false) (hoc2:(oc==("__debug__":Str))=false) (hoc3:oc≠sAt∧oc≠sSize∧oc≠"bytes")
  (k:∀t' s',Go aAt s s'→AtIs s'.heap aAt 1→s'.heap.NoLimit→K (.ok (.ret (.int o0 t'))) s'):
  codeAny (model X.prog X.w) A (.call (.ref fa) ⟨[.ref f2],[]⟩) K s:=by
 refine code_fn ok hnc hbase (by lia) rfl fun h₁ hns hk₁=>?_
 have hloc:∀y∈[PySem.Str.ofString "f",PySem.Str.ofString "data"],fd.scope.names.lookup y=some .local:=fun y hy=>by
  rcases ok.kinds y hy with e | e
  ·exact e
  ·exact absurd rfl (hnc _ (mem_of_lookup e))
 have hfn:=ok.fn
 generalize hE:callEnv fd s.heap.objs.size fa=env
 have hkind:env.scope.kind=.function:=by rw [←hE];exact hfn
 have kF:env.kindOf (PySem.Str.ofString "f")=some .local:=by rw [←hE];exact hloc _ (.head _)
 have kData:env.kindOf (PySem.Str.ofString "data")=some .local:=by rw [←hE];exact hloc _ (.tail _ (.head _))
 have hL:env.locals=s.heap.objs.size:=by rw [←hE];rfl
 have G1:∀{tk},Go aAt s { s with heap:=h₁,toks:=tk }:=⟨fun b o _ e=>hk₁ b o e,rfl,rfl⟩
 have x1:ReadAt h₁ f1 cA cO aAt aOc oc (o0::os):=x.go (s':={ s with heap:=h₁ }) hat (x.nl.keeps hk₁) (G1 (tk:=s.toks))
 have s1:StreamAt h₁ f2 f1:=hs.go (s':={ s with heap:=h₁ }) hat (G1 (tk:=s.toks))
 have at1:AtIs h₁ aAt 0:=by obtain ⟨n,t,e⟩:=hat;exact ⟨n,t,hk₁ _ _ e⟩
 have hLA:s.heap.objs.size≠aAt:=fun z=>by
  obtain ⟨n,t,e⟩:=hat
  exact absurd (Heap.lt_size e) (z ▸ Nat.lt_irrefl _)
 have kB:∀b o,X.B.get? b=some o→h₁.get? b=some o:=fun b o e=>hk₁ _ _ (hbase _ _ e)
 obtain ⟨fdr,er⟩:∃fd,h₁.get? f1=some (fnO fd none):=by
  obtain ⟨qual,Z,clos,doc,pm,cdv,ctv,e,_⟩:=x1.fn
  exact ⟨_,e⟩
 refine wpAny_execs_cons (wpAny_Assign_Name ?_ (by rfl))
 refine call_read (n:=1) s1 ⟨_,er⟩ hline (fun {Q'} q=>?_) (fun {Q' tk} q=>?_) (by rfl) fun t2 tk2=>?_
 ·exact wpAny_Name (wpAny_loadName_local hkind kF (by rw [hL];exact hns) (v:=.ref f2) (by rfl) q) (by decide+kernel)
 ·exact wpAny_Constant_int (q _ _)
 refine wpAny_call ?_
 refine read_w (X:=X) (p:=0) (n:=1) (s:={ heap:=h₁,gens:=s.gens,drawn:=s.drawn,toks:=tk2,os:=s.os }) (by show A.depth+1 < recursionLimit;lia) hh (X.g.keeps kB) (X.b.keeps kB) hnb x1 at1 (by lia) (by lia) hr hlen hoc hoc2 hoc3 fun t3 s3 G3 at3 nl3=>?_
 have ns3:s3.heap.Ns s.heap.objs.size (fun y=>([PySem.Str.ofString "f"].zip [Value.ref f2]).reverse.lookup y):=by
  obtain ⟨o,es,ep,e,r⟩:=hns
  exact ⟨o,es,ep,G3.keep _ _ hLA e,r⟩
 refine wpAny_storeName_local kData (by rw [hL];exact ns3) (fun h4 hn4 hs4=>?_) (by rw [hkind];rfl)
 have hb3:byteArr (listSl (o0::os) (some 0) (some (0+1)) none)=[o0.toNat.toUInt8].toArray:=by
  rw [show (some (0:Int))=some ((0:Nat):Int) from rfl,show (some (0+1:Int))=some ((1:Nat):Int) from rfl,listSl_eq,clipN_nat,clipN_nat]
  rfl
 rw [hb3] at hn4
 rw [hL] at hs4
 rw [hL] at hn4
 have G4:∀{tk},Go aAt s { s3 with heap:=h4,toks:=tk }:=fun {tk}=>⟨fun b o n e=>(hs4.2 b (Nat.ne_of_lt (Heap.lt_size e))).trans (G3.keep b o n (hk₁ b o e)),G3.os,G3.gens⟩
 have at4:AtIs h4 aAt 1:=by
  obtain ⟨n,t,e⟩:=at3
  exact ⟨n,t,(hs4.2 aAt (Ne.symm hLA)).trans e⟩
 refine wpAny_execs_cons (wpAny_If (isTrue_plain (wpAny_Name (wpAny_loadName_local hkind kData (by rw [hL];exact hn4) (v:=.bytes [o0.toNat.toUInt8].toArray t3) (by rfl) ?_) (by decide+kernel))))
 refine truthy_bytes (by simp) ?_
 show wpAny _ _ (execs [_] env) _ _ _
 refine wpAny_execs_cons (wpAny_Return_some (Subscript_ (wpAny_Name (wpAny_loadName_local hkind kData (by rw [hL];exact hn4) (v:=.bytes [o0.toNat.toUInt8].toArray t3) (by rfl) ?_) (by decide+kernel))))
 refine wpAny_Constant_int ?_
 refine tail_any (T:="bytes") (typeIs_bytes _ _ _) FB.slot_bytes_getitem.lookup (getItem_bytes (by simp) (by lia) (by simp) ?_) (by rfl)
 have hv:(([o0.toNat.toUInt8].getD (0:Int).toNat 0).toNat:Int)=o0:=byte_toInt (hr o0 (.head _))
 rw [hv]
 refine k _ _ G4 at4 ?_
 refine x.nl.at fun o e=>(G4 (tk:=0)).keep _ _ (fun z=>?_) e
 obtain ⟨n,t,eA⟩:=hat
 obtain ⟨mc,⟨o',es,ep,e',hd',_⟩,_⟩:=x.nl
 rw [z,eA] at e'
 cases e'
 cases hd'
end Mine
end
section
open PySem PySem.W PyProof.Rows PySem.Builtin PySem.Builtin.ObjectAttr
namespace Mine
variable {X:Cx}
set_option genInjectivity false in
set_option genSizeOf false in
structure Ps21 where
 (q1 q2 q3 q4 q5 q6 q7 q8 q9 q10 q11 q12 q13 q14 q15 q16 q17 q18 q19 q20 q21:Pos)
noncomputable abbrev longBody (Q:Ps21) (rs:List Stmt):List Stmt:=
 [.Assign [.Name "n" Q.q1] (.Call (.Name "read_uint1" Q.q2) [.Name "f" Q.q3] [] Q.q4) Q.q5,
  .Assign [.Name "data" Q.q6] (.Call (.Attribute (.Name "f" Q.q7) "read" Q.q8) [.Name "n" Q.q9] [] Q.q10) Q.q11,
  .If (.Compare (.Call (.Name "len" Q.q12) [.Name "data" Q.q13] [] Q.q14) [.NotEq] [.Name "n" Q.q15] Q.q16) rs [] Q.q17,
  .Return (some (.Call (.Name "decode_long" Q.q18) [.Name "data" Q.q19] [] Q.q20)) Q.q21]
structure LongOK (X:Cx) (fL fU fD:Addr):Prop where
 long:∃fd Q rs,FnOK X fL fd (longBody Q rs) [PySem.Str.ofString "f"] [PySem.Str.ofString "f",PySem.Str.ofString "n",PySem.Str.ofString "data"]∧
  (∀x∈fd.scope.names,x.2≠.cell)∧(Q.q8.endLine==Q.q10.line)=true∧fd.scope.names.lookup (PySem.Str.ofString "read_uint1")=some .globalImplicit∧fd.scope.names.lookup (PySem.Str.ofString "len")=some .globalImplicit∧fd.scope.names.lookup (PySem.Str.ofString "decode_long")=some .globalImplicit
 uint:∃fd Z rest,FnOK X fU fd (uintBody Z rest) [PySem.Str.ofString "f"] [PySem.Str.ofString "f",PySem.Str.ofString "data"]∧(∀x∈fd.scope.names,x.2≠.cell)∧(Z.p3.endLine==Z.p5.line)=true
 dec:∃fd Z,FnOK X fD fd (decodeBody Z) [PySem.Str.ofString "data"] [PySem.Str.ofString "data"]∧(∀x∈fd.scope.names,x.2≠.cell)∧(Z.p2.endLine==Z.p8.line)=true∧fd.scope.names.lookup (PySem.Str.ofString "int")=some .globalImplicit
 gU:X.mg (PySem.Str.ofString "read_uint1")=some (.ref fU)
 gD:X.mg (PySem.Str.ofString "decode_long")=some (.ref fD)
 nLen:X.mg (PySem.Str.ofString "len")=none
 nBy:X.mg (PySem.Str.ofString "bytes")=none
 nInt:X.mg (PySem.Str.ofString "int")=none
theorem boot_len:bootBuiltins (PySem.Str.ofString "len")=some (.builtin "len"):=by kernel_rfl
set_option maxHeartbeats 800000 in
theorem long_w {fL fU fD:Addr} {A:Around} {s:Shared} {K:Result→Shared→Prop} {f2 f1 cA cO aAt aOc:Addr} {oc:Str} {o0:Int} {os:List Int}
  (ok:LongOK X fL fU fD)
  (hbase:∀b o,X.B.get? b=some o→s.heap.get? b=some o) (hA0:∀o,X.B.get? aAt≠some o) (hroom:A.depth+10 < recursionLimit) (hh:A.handled=none)
  (x:ReadAt s.heap f1 cA cO aAt aOc oc (o0::os)) (hs:StreamAt s.heap f2 f1) (hat:AtIs s.heap aAt 0) (hr:∀z∈o0::os,0≤z∧z < 256) (hlen:os.length≤7) (ho0:o0=os.length) (hoc:(oc==("__classdict__":Str))=false) (hoc2:(oc==("__debug__":Str))=false) (hoc3:oc≠sAt∧oc≠sSize∧oc≠"bytes")
  (k:∀t' s',Go aAt s s'→K (.ok (.ret (.int (leB (byteArr os).toList) t'))) s'):
  codeAny (model X.prog X.w) A (.call (.ref fL) ⟨[.ref f2],[]⟩) K s:=by
 obtain ⟨fd,Q,rs,okL,hnc,hline,lU,lLen,lD⟩:=ok.long
 obtain ⟨fdU,Z,rest,okU,hncU,hlineU⟩:=ok.uint
 obtain ⟨fdD,P9,okD,hncD,hlineD,lInt⟩:=ok.dec
 refine code_fn okL hnc hbase (by lia) rfl fun h₁ hns hk₁=>?_
 have hloc:∀y∈[PySem.Str.ofString "f",PySem.Str.ofString "n",PySem.Str.ofString "data"],fd.scope.names.lookup y=some .local:=fun y hy=>by
  rcases okL.kinds y hy with e | e
  ·exact e
  ·exact absurd rfl (hnc _ (mem_of_lookup e))
 have hfn:=okL.fn
 have hgl:=okL.gl
 have hbl:=okL.bl
 generalize hE:callEnv fd s.heap.objs.size fL=env
 have hkind:env.scope.kind=.function:=by rw [←hE];exact hfn
 have kF:env.kindOf (PySem.Str.ofString "f")=some .local:=by rw [←hE];exact hloc _ (.head _)
 have kN:env.kindOf (PySem.Str.ofString "n")=some .local:=by rw [←hE];exact hloc _ (.tail _ (.head _))
 have kData:env.kindOf (PySem.Str.ofString "data")=some .local:=by rw [←hE];exact hloc _ (.tail _ (.tail _ (.head _)))
 have kU:env.kindOf (PySem.Str.ofString "read_uint1")=some .globalImplicit:=by rw [←hE];exact lU
 have kLen:env.kindOf (PySem.Str.ofString "len")=some .globalImplicit:=by rw [←hE];exact lLen
 have kD:env.kindOf (PySem.Str.ofString "decode_long")=some .globalImplicit:=by rw [←hE];exact lD
 have hL:env.locals=s.heap.objs.size:=by rw [←hE];rfl
 have hg':env.globals=mainGlobals:=by rw [←hE];exact hgl
 have hb':env.builtins=builtinsNs:=by rw [←hE];exact hbl
 have G1:∀{tk},Go aAt s { s with heap:=h₁,toks:=tk }:=⟨fun b o _ e=>hk₁ b o e,rfl,rfl⟩
 have x1:ReadAt h₁ f1 cA cO aAt aOc oc (o0::os):=x.go (s':={ s with heap:=h₁ }) hat (x.nl.keeps hk₁) (G1 (tk:=s.toks))
 have s1:StreamAt h₁ f2 f1:=hs.go (s':={ s with heap:=h₁ }) hat (G1 (tk:=s.toks))
 have at1:AtIs h₁ aAt 0:=by obtain ⟨n,t,e⟩:=hat;exact ⟨n,t,hk₁ _ _ e⟩
 have hLA:s.heap.objs.size≠aAt:=fun z=>by
  obtain ⟨n,t,e⟩:=hat
  exact absurd (Heap.lt_size e) (z ▸ Nat.lt_irrefl _)
 have kB:∀b o,X.B.get? b=some o→h₁.get? b=some o:=fun b o e=>hk₁ _ _ (hbase _ _ e)
 obtain ⟨oU,eU,dU⟩:=okU.obj
 obtain ⟨oD,eD,dD⟩:=okD.obj
 refine wpAny_execs_cons (wpAny_Assign_Name ?_ (by rfl))
 show wpAny _ _ (do callWith Q.q4 (←eval (.Name "read_uint1" Q.q2) env) [] (backTo Q.q4 (starEach [_] env)) (backToKw Q.q4 (keywordEach [] env))) _ _ _
 refine wpAny_bind (Calls.Name_function_global hkind kU (Calls.loadGlobal_global (mg:=X.mg) (by rw [hg'];exact X.g.keeps kB) ok.gU (callArgsF (o:=oU) (fd:=fdU) rfl (by intro q;cases q) ?_)) (by decide+kernel))
 refine Calls.spliced_cons (wpAny_Name (wpAny_loadName_local hkind kF (by rw [hL];exact hns) (v:=.ref f2) (by rfl) (Calls.spliced_nil ?_)) (by decide+kernel))
 refine ⟨⟨kB _ _ eU,dU⟩,wpAny_call ?_⟩
 refine uint_w okU hncU hlineU ok.nBy kB hA0 (by show A.depth+1+5 < recursionLimit;lia) hh x1 s1 at1 hr (by simp only [List.length_cons];lia) hoc hoc2 hoc3 fun t2 s2 G2 at2 nl2=>?_
 have ns2:s2.heap.Ns s.heap.objs.size (fun y=>([PySem.Str.ofString "f"].zip [Value.ref f2]).reverse.lookup y):=by
  obtain ⟨o,es,ep,e,r⟩:=hns
  exact ⟨o,es,ep,G2.keep _ _ hLA e,r⟩
 refine wpAny_storeName_local kN (by rw [hL];exact ns2) (fun h3 hn3 hs3=>?_) (by rw [hkind];rfl)
 rw [hL] at hs3 hn3
 have G3:∀{tk},Go aAt s { s2 with heap:=h3,toks:=tk }:=fun {tk}=>⟨fun b o n e=>(hs3.2 b (Nat.ne_of_lt (Heap.lt_size e))).trans (G2.keep b o n (hk₁ b o e)),G2.os,G2.gens⟩
 have at3:AtIs h3 aAt 1:=by
  obtain ⟨n,t,e⟩:=at2
  exact ⟨n,t,(hs3.2 aAt (Ne.symm hLA)).trans e⟩
 have nlg:∀{s':Shared},Go aAt s s'→s'.heap.NoLimit:=fun {s'} g=>by
  refine x.nl.at fun o e=>g.keep _ _ (fun z=>?_) e
  obtain ⟨n,t,eA⟩:=hat
  obtain ⟨mc,⟨o',es,ep,e',hd',_⟩,_⟩:=x.nl
  rw [z,eA] at e'
  cases e'
  cases hd'
 have kB3:∀b o,X.B.get? b=some o→h3.get? b=some o:=noAt hA0 (G3 (tk:=0)) hbase
 have x3:ReadAt h3 f1 cA cO aAt aOc oc (o0::os):=x.go (s':={ s2 with heap:=h3,toks:=0 }) hat (nlg G3) G3
 have s3:StreamAt h3 f2 f1:=hs.go (s':={ s2 with heap:=h3,toks:=0 }) hat G3
 obtain ⟨fdr,er⟩:∃fd,h3.get? f1=some (fnO fd none):=by
  obtain ⟨qual,Z,clos,doc,pm,cdv,ctv,e,_⟩:=x3.fn
  exact ⟨_,e⟩
 refine wpAny_execs_cons (wpAny_Assign_Name ?_ (by rfl))
 refine call_read (n:=o0) s3 ⟨_,er⟩ hline (fun {Q'} q=>?_) (fun {Q' tk} q=>?_) (by rfl) fun t4 tk4=>?_
 ·exact wpAny_Name (wpAny_loadName_local hkind kF (by rw [hL];exact hn3) (v:=.ref f2) (by rfl) q) (by decide+kernel)
 ·exact wpAny_Name (wpAny_loadName_local hkind kN (by rw [hL];exact hn3) (v:=.int o0 t2) (by rfl) (q _ _)) (by decide+kernel)
 refine wpAny_call ?_
 refine read_w (X:=X) (p:=1) (n:=o0) (s:={ heap:=h3,gens:=s2.gens,drawn:=s2.drawn,toks:=tk4,os:=s2.os }) (by show A.depth+1 < recursionLimit;lia) hh (X.g.keeps kB3) (X.b.keeps kB3) ok.nBy x3 at3 (by lia) (by lia) hr (by simp only [List.length_cons];lia) hoc hoc2 hoc3 fun t5 s5 G5 at5 nl5=>?_
 have ns5:s5.heap.Ns s.heap.objs.size (fun x=>if x=PySem.Str.ofString "n" then some (Value.int o0 t2) else List.lookup x ([PySem.Str.ofString "f"].zip [Value.ref f2]).reverse):=by
  obtain ⟨o,es,ep,e,r⟩:=hn3
  exact ⟨o,es,ep,G5.keep _ _ hLA e,r⟩
 have hb5:byteArr (listSl (o0::os) (some 1) (some (1+o0)) none)=byteArr os:=by
  subst ho0
  rw [show (some (1:Int))=some ((1:Nat):Int) from rfl,show (some (1+(os.length:Int)))=some ((1+os.length:Nat):Int) from by rw [Int.natCast_add];rfl,listSl_eq,clipN_nat,clipN_nat]
  refine congrArg byteArr ?_
  rw [List.length_cons,Nat.add_comm 1,Nat.min_self]
  exact List.take_length
 rw [hb5]
 have hbl5:(byteArr os).size=os.length:=byteArr_size os
 generalize byteArr os=bs at hbl5 k ⊢
 refine wpAny_storeName_local kData (by rw [hL];exact ns5) (fun h6 hn6 hs6=>?_) (by rw [hkind];rfl)
 rw [hL] at hs6 hn6
 have G6:∀{tk},Go aAt s { s5 with heap:=h6,toks:=tk }:=fun {tk}=>⟨fun b o n e=>(hs6.2 b (Nat.ne_of_lt (Heap.lt_size e))).trans (G5.keep b o n ((G3 (tk:=0)).keep b o n e)),G5.os.trans G2.os,G5.gens.trans G2.gens⟩
 have kB6:∀b o,X.B.get? b=some o→h6.get? b=some o:=noAt hA0 (G6 (tk:=0)) hbase
 have eN:∀{M:Model} {A':Around} {E:Value→Shared→Prop} {Q:Value→Shared→Prop} {g:Array GenState} {dr:Drawn} {tk:Nat} {os':OsState} {pos:Pos},Q (.int o0 t2) ⟨h6,g,dr,tk,os'⟩→wpAny M A' (eval (.Name "n" pos) env) Q E ⟨h6,g,dr,tk,os'⟩:=fun {M A' E Q g dr tk os' pos} q=>
  wpAny_Name (wpAny_loadName_local hkind kN (by rw [hL];exact hn6) (v:=.int o0 t2) (by rfl) q) (by decide+kernel)
 have eData:∀{M:Model} {A':Around} {E:Value→Shared→Prop} {Q:Value→Shared→Prop} {g:Array GenState} {dr:Drawn} {tk:Nat} {os':OsState} {pos:Pos},Q (.bytes bs t5) ⟨h6,g,dr,tk,os'⟩→wpAny M A' (eval (.Name "data" pos) env) Q E ⟨h6,g,dr,tk,os'⟩:=fun {M A' E Q g dr tk os' pos} q=>
  wpAny_Name (wpAny_loadName_local hkind kData (by rw [hL];exact hn6) (v:=.bytes bs t5) (by rfl) q) (by decide+kernel)
 refine wpAny_execs_cons (wpAny_If (wpAny_isTrue_Compare1 ?_ (by with_unfolding_all rfl)))
 show wpAny _ _ (do callWith Q.q14 (←eval (.Name "len" Q.q12) env) [] (backTo Q.q14 (starEach [_] env)) (backToKw Q.q14 (keywordEach [] env))) _ _ _
 refine wpAny_bind (Calls.Name_function_global hkind kLen (Calls.loadGlobal_builtin (mg:=X.mg) (mb:=X.mb) (by rw [hg'];exact X.g.keeps kB6) ok.nLen (by rw [hb'];exact X.b.keeps kB6) ((X.bb _ (by decide+kernel)).trans boot_len) (callArgs rfl ?_)) (by decide+kernel))
 refine Calls.spliced_cons (eData (Calls.spliced_nil ?_))
 refine len_bytes (by lia) ?_
 refine eN (_root_.PySem.P.ne_int ?_)
 rw [show ((bs.size:Int) != o0)=false by rw [hbl5,ho0];simp]
 refine wpAny_truthy_bool ?_
 show wpAny _ _ (execs [] env) _ _ _
 refine wpAny_execs_nil ?_
 refine wpAny_execs_cons (wpAny_Return_some ?_)
 show wpAny _ _ (do callWith Q.q20 (←eval (.Name "decode_long" Q.q18) env) [] (backTo Q.q20 (starEach [_] env)) (backToKw Q.q20 (keywordEach [] env))) _ _ _
 refine wpAny_bind (Calls.Name_function_global hkind kD (Calls.loadGlobal_global (mg:=X.mg) (by rw [hg'];exact X.g.keeps kB6) ok.gD (callArgsF (o:=oD) (fd:=fdD) rfl (by intro q;cases q) ?_)) (by decide+kernel))
 refine Calls.spliced_cons (eData (Calls.spliced_nil ?_))
 refine ⟨⟨kB6 _ _ eD,dD⟩,wpAny_call ?_⟩
 refine decode_w okD hncD hlineD lInt ok.nInt kB6 (by show A.depth+1 < recursionLimit;lia) (by rw [Array.length_toList,hbl5];exact hlen) fun t7 s7 k7 o7 g7=>?_
 exact k _ _ ⟨fun b o n e=>k7 b o ((G6 (tk:=0)).keep b o n e),o7.trans (G6 (tk:=0)).os,g7.trans (G6 (tk:=0)).gens⟩
end Mine
end
section
open PySem PySem.W PyProof.Rows PySem.Builtin
namespace Mine
variable {X:Cx} {F:FI} {d:Nat}
theorem R.none {Av Mu:Addr→Prop} {env:Env} {st:St} {s:Shared} (r:R X F Av Mu env st s) (i:Nat):R X F Av Mu env (st.set i .none) s:=by
 refine ⟨r.sc,r.fn,r.gl,r.bl,r.cd,r.ql,r.base,r.tabs,r.ma,r.lt,r.ns,r.nsMu,r.nd,by rw [List.length_set];exact r.len,r.cinj,r.slots,fun j y b hj hb=>?_,fun j k y w ys ws b hj hk hy hw=>?_⟩
 ·rcases get_set hb with ⟨e1,e2⟩ | ⟨e1,e2⟩
  ·subst e2;trivial
  ·have q:=r.vars j y b hj e2
   cases b with
   | meth k=>
    obtain ⟨m',a',p1,p2,p3,p4⟩:=q
    refine ⟨m',a',p1,p2,p3,fun y' ws hy' hs'=>?_⟩
    rcases get_set hs' with ⟨_,f2⟩ | ⟨_,f2⟩
    ·cases f2
    ·exact p4 y' ws hy' f2
   | _=>exact q
 ·rcases get_set hy with ⟨_,e2⟩ | ⟨_,e2⟩
  ·cases e2
  rcases get_set hw with ⟨_,f2⟩ | ⟨_,f2⟩
  ·cases f2
  exact r.inj j k y w ys ws b hj hk e2 f2
theorem R.forget {Av Mu:Addr→Prop} {env:Env} {st:St} {s:Shared} (r:R X F Av Mu env st s) {i:Nat} {x:Str} (hi:F.names[i]? =some x) {xs:List PV} (hs:st[i]? =some (.own xs)) {a:Addr} (p:ValAt s.heap env x (.ref a)):
    R X F Av (fun b=>Mu b∧b≠a) env (st.set i .none) s:=by
  obtain ⟨a',vs,n,p',e,m,z⟩:=r.vars i x _ hi hs
  cases p.unique p'
  have nt:¬ X.Tb a:=fun t=>by
    obtain ⟨ps,q,_⟩:=(r.tabs a t).2
    rw [e] at q;cases q
  have r1:=r.none i
  refine ⟨r.sc,r.fn,r.gl,r.bl,r.cd,r.ql,r.base,fun b t=>⟨⟨(r.tabs b t).1,fun q=>nt (q ▸ t)⟩,(r.tabs b t).2⟩,fun b q=>r.ma b q.1,r.lt,r.ns,⟨r.nsMu,fun q=>?_⟩,r.nd,
      r1.len,r.cinj,fun y hy hro=>?_,fun j y b hj hb=>?_,r1.inj⟩
  · obtain ⟨m',o,es,ep,ho,hd,_⟩:=r.ns
    rw [q,e] at ho;cases ho;cases hd
  · have q:=r.slots y hy hro
    unfold SlotOK at q ⊢
    split at q
    · trivial
    · obtain ⟨c,u,hc,hq,hm⟩:=q
      refine ⟨c,u,hc,hq,hm,fun q'=>?_⟩
      obtain ⟨o,ho,hd⟩:=hq
      rw [q',e] at ho;cases ho;cases hd
    · trivial
    · exact q.elim
  · have q:=r1.vars j y b hj hb
    cases b with
    | own ys=>
      obtain ⟨b,us,n',p1,p2,p3,p4⟩:=q
      refine ⟨b,us,n',p1,p2,⟨p3,fun q=>?_⟩,p4⟩
      subst q
      rcases get_set hb with ⟨_,e2⟩ | ⟨e1,e2⟩
      · cases e2
      · exact e1 (r.inj j i y x ys xs b hj hi e2 hs p1 p)
    | _=>exact q
theorem VRs_int_av {h:Heap} {Av Av':Addr→Prop}:∀{vs:List Value} {octs:List Int},VRs h Av vs (octs.map .int)→VRs h Av' vs (octs.map .int)
 | [],[],_=>by show VRs h Av' [] [];unfold VRs;trivial
 | _::_,[],x=>by rw [List.map_nil] at x;unfold VRs at x;exact x.elim
 | [],_::_,x=>by rw [List.map_cons] at x;unfold VRs at x;exact x.elim
 | v::vs,i::r,x=>by
  rw [List.map_cons] at x ⊢
  unfold VRs at x ⊢
  refine ⟨?_,VRs_int_av x.2⟩
  have:=x.1
  unfold VR at this ⊢
  exact this
noncomputable def listOf:Bind→Option (List PV)
 | .own xs=>some xs
 | .froz (.list xs)=>some xs
 | _=>none
set_option tactic.hygienic true in
theorem allOf_asInt:∀{l:List PV} {is:List Int},allOf asInt l=some is→l=is.map .int
 | [],is,h=>by unfold allOf at h;cases h;rfl
 | p::l,is,h=>by
  unfold allOf at h
  split at h
  ·rename_i y ys e1 e2
   cases h
   rw [List.map_cons,allOf_asInt e2]
   cases p<;>cases e1
   rfl
  ·cases h
noncomputable def oneO:Bind→Option Int
 | .own [.int i]=>some i
 | _=>none
noncomputable def numTail (iRd iSt iAt iOc:Nat):EvS:=fun st=>(st[iAt]?).bind fun bA=>(oneO bA).bind fun i=>(st[iOc]?).bind fun bO=>(listOf bO).bind fun xs=>(allOf asInt xs).bind fun is=>is.head?.bind fun o0=>
 if i=0∧(∀z∈is,0≤z∧z < 256)∧is.tail.length≤7∧o0=is.tail.length then some (.ret (.int (leB (byteArr is.tail).toList)),((st.set iRd .none).set iSt .none).set iAt .none) else none
theorem oneO_some {b:Bind} {i:Int} (h:oneO b=some i):b=.own [.int i]:=by
 unfold oneO at h
 split at h<;>cases h
 rfl
theorem numTail_elim {iRd iSt iAt iOc:Nat} {st st':St} {v:Fl} {C:Prop} (h:numTail iRd iSt iAt iOc st=some (v,st'))
  (k:∀bO o0 os,st[iAt]? =some (.own [.int 0])→st[iOc]? =some bO→listOf bO=some ((o0::os).map .int)→(∀z∈o0::os,0≤z∧z < 256)→os.length≤7→o0=os.length→v=.ret (.int (leB (byteArr os).toList))→st'=((st.set iRd .none).set iSt .none).set iAt .none→C):C:=by
 obtain ⟨bA,e1,h⟩:=Option.bind_eq_some_iff.mp h
 obtain ⟨i,e2,h⟩:=Option.bind_eq_some_iff.mp h
 obtain ⟨bO,e3,h⟩:=Option.bind_eq_some_iff.mp h
 obtain ⟨xs,e4,h⟩:=Option.bind_eq_some_iff.mp h
 obtain ⟨is,e5,h⟩:=Option.bind_eq_some_iff.mp h
 obtain ⟨o0,e6,h⟩:=Option.bind_eq_some_iff.mp h
 have h2:=when_some h
 clear h
 obtain ⟨⟨h3,hc⟩,h4⟩:=h2
 subst h3
 cases is with
 | nil=>cases e6
 | cons o os=>
  obtain rfl:o=o0:=Option.some.inj e6
  obtain ⟨h5,h6⟩:=Prod.mk.inj h4
  exact k bO o os (oneO_some e2 ▸ e1) e3 (allOf_asInt e5 ▸ e4) hc.1 hc.2.1 hc.2.2 h5.symm h6.symm
noncomputable abbrev lam0:Arguments:={ posonlyargs:=[],args:=[],vararg:=none,kwonlyargs:=[],kw_defaults:=[],kwarg:=none,defaults:=[] }
noncomputable abbrev lam0S:Scope:={ kind:=.function,names:=[],isGenerator:=false,isCoroutine:=false,more:=[] }
set_option genInjectivity false in
set_option genSizeOf false in
structure Ps13 where
 (c1 c2 c3 c4 c5 c6 c7 c8 c9 c10 c11 c12 c13:Pos)
noncomputable abbrev numBody (oc:Str) (Z:PsR) (C:Ps13):List Stmt:=
  [.FunctionDef "_law_read" (readParams Z.pa) (readBody oc Z) [] none [] (readScope oc) none "_law_read" C.c1,
   .Assign [.Name "stream" C.c2] (.Lambda lam0 (.Constant .none 0 C.c3) lam0S C.c4) C.c5,
   .Assign [.Attribute (.Name "stream" C.c6) "read" C.c7] (.Name "_law_read" C.c8) C.c9,
   .Return (some (.Call (.Name "read_long1" C.c10) [.Name "stream" C.c11] [] C.c12)) C.c13]
theorem R.bound {Av Mu:Addr→Prop} {env:Env} {st:St} {s:Shared} (r:R X F Av Mu env st s) {i:Nat} {x:Str} {b:Bind} {xs:List PV} (hi:F.names[i]? =some x) (hs:st[i]? =some b) (hb:listOf b=some xs):
  ∃a vs n,ValAt s.heap env x (.ref a)∧s.heap.get? a=some (listObj vs n)∧VRs s.heap Av vs xs∧((b=.own xs∧Mu a)∨¬ Av a):=by
 have q:=r.vars i x b hi hs
 unfold listOf at hb
 split at hb
 ·cases hb
  obtain ⟨a,vs,n,p1,p2,p3,p4⟩:=q
  exact ⟨a,vs,n,p1,p2,p4,.inl ⟨rfl,p3⟩⟩
 ·cases hb
  obtain ⟨v,p1,p2⟩:=q
  unfold VR at p2
  obtain ⟨a,vs,n,rfl,e,na,z⟩:=p2
  exact ⟨a,vs,n,p1,e,z,.inr na⟩
 ·cases hb
theorem cell_of {h:Heap} {env:Env} {x:Str} {v:Value} (hk:env.kindOf x=some .cell) (p:ValAt h env x v):∃c,env.cells.lookup x=some c∧h.IsCell c (some v):=by
 unfold ValAt at p
 rw [hk] at p
 exact p
end Mine
end
section
open PySem PySem.W PyProof.Rows PySem.Builtin
namespace Mine
variable {X:Cx} {F:FI} {d:Nat}
set_option tactic.hygienic true in
theorem room10 {A:Around} (hA:Room d A):A.depth+10 < recursionLimit:=by have:=hA.2.1;show A.depth+10 < 1000;lia
set_option maxHeartbeats 1000000 in
theorem num_ret {fL fU fD:Addr} {iSt iAt iOc:Nat} {oc:Str} {p10 p11 p12:Pos} (okN:LongOK X fL fU fD) (hgL:X.mg (PySem.Str.ofString "read_long1")=some (.ref fL)) (hlL:F.scope.names.lookup (PySem.Str.ofString "read_long1")=some .globalImplicit)
  (hSt:F.names[iSt]? =some (PySem.Str.ofString "stream")) (hAt:F.names[iAt]? =some sAt) (hOc:F.names[iOc]? =some oc)
  (kAt:F.scope.names.lookup sAt=some .cell) (kOc:F.scope.names.lookup oc=some .cell) (hne:iAt≠iOc)
  (hoc:(oc==("__classdict__":Str))=false) (hoc2:(oc==("__debug__":Str))=false) (hoc3:oc≠sAt∧oc≠sSize∧oc≠"bytes")
  {A:Around} {Av Mu:Addr→Prop} {env:Env} {st:St} {s:Shared} {Q:Value→Shared→Prop} {E:Value→Shared→Prop} {f1 f2 cA cO:Addr} {bO:Bind} {o0:Int} {os:List Int}
  (hA:Room d A) (R4:R X F Av Mu env st s) (g2:st[iSt]? =some (.ref f2)) (gAt:st[iAt]? =some (.own [.int 0])) (gOc:st[iOc]? =some bO) (eO:listOf bO=some ((o0::os).map .int)) (lcA:env.cells.lookup sAt=some cA) (lcO:env.cells.lookup oc=some cO)
  (fn:∃(qual:Str) (Z:PsR) (clos:List (Str×Addr)) (doc pm cdv ctv:Value),s.heap.get? f1=some (fnO (fnX "_law_read" qual (readParams Z.pa) (readBody oc Z) (readScope oc) clos .none .none doc pm none cdv ctv) none)∧s.heap.CodeRec cdv qual∧clos.lookup sAt=some cA∧clos.lookup oc=some cO)
  (stm:StreamAt s.heap f2 f1) (hr:∀z∈o0::os,0≤z∧z < 256) (hl7:os.length≤7) (ho0:o0=os.length)
  (k:∀aAt t' s5,Mu aAt→Go aAt s s5→s.heap.objs.size≤s5.heap.objs.size→R X F Av (fun b=>Mu b∧b≠aAt) env (st.set iAt .none) s5→Q (.int (leB (byteArr os).toList) t') s5):
  wpAny (model X.prog X.w) A (eval (.Call (.Name "read_long1" p10) [.Name "stream" p11] [] p12) env) Q E s:=by
 have hk:∀y,env.kindOf y=F.scope.names.lookup y:=fun y=>by show env.scope.names.lookup y=_;rw [R4.sc]
 show wpAny _ _ (do callWith p12 (←eval (.Name "read_long1" p10) env) [] (backTo p12 (starEach [_] env)) (backToKw p12 (keywordEach [] env))) _ _ _
 obtain ⟨fdL,Q',rs,okF,_⟩:=id okN.long
 obtain ⟨oL,eL,dL⟩:=okF.obj
 refine wpAny_bind (wp_gname R4 hlL hgL (callArgsF (o:=oL) (fd:=fdL) rfl (by intro q;cases q) ?_) (by decide+kernel))
 refine Calls.spliced_cons (wpAny_Name (wp_load R4 (R4.vars _ _ _ hSt g2) (by decide+kernel) (Calls.spliced_nil ?_)) (by decide+kernel))
 refine ⟨⟨(R4.base _ _ eL).1,dL⟩,?_⟩
 obtain ⟨aAt,vA,nA,vaA,gaA,mA,zA⟩:=R4.vars _ _ _ hAt gAt
 obtain ⟨aOc,vO,nO,vaO,gaO,zO,hO⟩:=R4.bound hOc gOc eO
 obtain ⟨cA',lA',iA⟩:=cell_of (by rw [hk];exact kAt) vaA
 obtain ⟨cO',lO',iO⟩:=cell_of (by rw [hk];exact kOc) vaO
 cases lcA.symm.trans lA'
 cases lcO.symm.trans lO'
 obtain ⟨wA,rfl,qA⟩:=VRs1 zA
 unfold VR at qA
 obtain ⟨tA,rfl⟩:=qA
 have hneA:aOc≠aAt:=fun z=>by
  rcases hO with ⟨rfl,mO⟩ | nO'
  ·subst z
   exact hne (R4.inj _ _ _ _ _ _ _ hAt hOc gAt gOc vaA vaO)
  ·exact nO' (z ▸ R4.ma _ mA)
 refine wpAny_mono (wpAny_size (wpAny_call (long_w (K:=wants (fun v s'=>∃t',v=.int (leB (byteArr os).toList) t'∧Go aAt s s') E) okN (fun b o e=>(R4.base b o e).1) (fun o e=>(R4.base _ _ e).2 (R4.ma _ mA)) (Nat.lt_of_le_of_lt (Nat.le_refl _) (room10 hA)) hA.1 ⟨fn,iA,iO,⟨vO,nO,gaO,VRs_int_av zO⟩,hneA,X.nolimit.keeps fun b o e=>(R4.base b o e).1⟩ stm ⟨nA,tA,gaA⟩ hr hl7 ho0 hoc hoc2 hoc3 fun t' s' G=>⟨t',rfl,G⟩))) (fun v s5 q=>?_) fun _ _ e=>e
 obtain ⟨⟨t',rfl,G⟩,hz⟩:=q
 exact k aAt t' s5 mA G hz ((R4.forget hAt gAt vaA).keepI (I:=aAt) (R4.ma _ mA) (fun q=>q.2 rfl) (fun o q u z=>by rw [gaA] at q;cases q;cases z) (fun a o na q=>G.keep a o na q) hz)
set_option maxHeartbeats 1000000 in
theorem x_numtail {fL fU fD:Addr} {c T:Addr} {iRd iSt iAt iOc:Nat} {oc:Str} {Z:PsR} {C:Ps13}
  (okN:LongOK X fL fU fD) (okD:MakeOK X F c T C.c1 "_law_read") (okL:MakeOK X F c T C.c4 "<lambda>") (hgL:X.mg (PySem.Str.ofString "read_long1")=some (.ref fL)) (hlL:F.scope.names.lookup (PySem.Str.ofString "read_long1")=some .globalImplicit)
  (hRd:F.names[iRd]? =some (PySem.Str.ofString "_law_read")) (hSt:F.names[iSt]? =some (PySem.Str.ofString "stream")) (hAt:F.names[iAt]? =some sAt) (hOc:F.names[iOc]? =some oc)
  (wRd:F.Wr (PySem.Str.ofString "_law_read")) (wSt:F.Wr (PySem.Str.ofString "stream")) (kRd:F.scope.names.lookup (PySem.Str.ofString "_law_read")≠some .globalExplicit)
  (kAt:F.scope.names.lookup sAt=some .cell) (kOc:F.scope.names.lookup oc=some .cell)
  (hne:iRd≠iSt∧iRd≠iAt∧iRd≠iOc∧iSt≠iAt∧iSt≠iOc∧iAt≠iOc) (hro:sAt ∉ F.ro∧oc ∉ F.ro)
  (hoc:(oc==("__classdict__":Str))=false) (hoc2:(oc==("__debug__":Str))=false) (hoc3:oc≠sAt∧oc≠sSize∧oc≠"bytes"):
  SoundS X F d (numBody oc Z C) (numTail iRd iSt iAt iOc):=by
 refine @SoundU.intro _ _ _ _ _ _ _ _ ?_
 intro A Av Mu env st st' s v Q E hA hf r tk k
 refine numTail_elim hf fun bOc o0 os eAt eOc1 eOc2 hr hl7 ho0 hv hst'=>?_
 subst hv hst'
 have hk:∀y,env.kindOf y=F.scope.names.lookup y:=fun y=>by show env.scope.names.lookup y=_;rw [r.sc]
 have mAt:sAt∈F.names:=List.mem_of_getElem? hAt
 have mOc:oc∈F.names:=List.mem_of_getElem? hOc
 have cellEx:∀y,y∈F.names→y ∉ F.ro→F.scope.names.lookup y=some .cell→∃c,env.cells.lookup y=some c:=fun y hy hro hc=>by
  have q:=r.slots y hy hro
  unfold SlotOK at q
  rw [hk,hc] at q
  obtain ⟨c,_,e,_⟩:=q
  exact ⟨c,e⟩
 obtain ⟨cA,lcA⟩:=cellEx _ mAt hro.1 kAt
 obtain ⟨cO,lcO⟩:=cellEx _ mOc hro.2 kOc
 refine wpAny_execs_cons (wp_def okD rfl rfl (by rfl) (fun n hn=>?_) r hRd wRd kRd fun f1 doc pm cdv ctv s1 R1 S1 e1 n1 hc1 nc1=>?_)
 ·simp only [List.mem_cons,List.not_mem_nil,or_false,Prod.mk.injEq] at hn
  rcases hn with ⟨_,h⟩ | ⟨rfl,_⟩ | ⟨rfl,_⟩ | ⟨_,h⟩
  ·cases h
  ·exact ⟨cA,lcA⟩
  ·exact ⟨cO,lcO⟩
  ·cases h
 refine wpAny_execs_cons (wpAny_Assign_Name (wp_lambdaF okL rfl (by intro y hy;cases hy) R1 fun f2 fd2 s2 R2 S2 e2 n2 ge2=>?_) (by rfl))
 refine wp_store R2 hSt (b:=.ref f2) rfl wSt fun s3 R3 S3=>?_
 have e2':s3.heap.get? f2=some (fnO fd2 none):=S3.keep _ _ e2 n2
 have f1s:f1 < s1.heap.objs.size:=Heap.lt_size e1
 have e1':s3.heap.get? f1=some (fnO _ none):=S3.keep _ _ (S2.keep _ _ e1 fun q=>n1 (R1.ma _ q)) fun q=>n1 (R1.ma _ q)
 have hc1':s3.heap.CodeRec cdv (F.ql++"_law_read"):=by
  obtain ⟨c',o,vs,t,q1,q2,q3⟩:=hc1
  have n':¬ Mu c':=fun q=>nc1 _ q1 (R1.ma _ q)
  exact ⟨c',o,vs,t,q1,S3.keep _ _ (S2.keep _ _ q2 n') n',q3⟩
 refine wpAny_execs_cons (plainObj_wpAny_Assign_Attribute ?_ (by rfl))
 have g1:((st.set iRd (.ref f1)).set iSt (.ref f2))[iRd]? =some (.ref f1):=by
  have hlt:iRd < st.length:=by
   rw [r.len]
   exact (List.getElem?_eq_some_iff.mp hRd).1
  rw [List.getElem?_set_ne (Ne.symm hne.1),List.getElem?_set_self hlt]
 have g2:((st.set iRd (.ref f1)).set iSt (.ref f2))[iSt]? =some (.ref f2):=by
  have hlt:iSt < st.length:=by
   rw [r.len]
   exact (List.getElem?_eq_some_iff.mp hSt).1
  rw [List.getElem?_set_self (by rw [List.length_set];exact hlt)]
 refine wpAny_Name (wp_load R3 (R3.vars _ _ _ hRd g1) (by decide+kernel) ?_) (by decide+kernel)
 refine wpAny_Name (wp_load R3 (R3.vars _ _ _ hSt g2) (by decide+kernel) ?_) (by decide+kernel)
 obtain ⟨hp3,gs3,dr3,tk3,os3⟩:=s3
 refine setAttr_fn e2' rfl rfl rfl lk_fn_read fun h4 D md tk4 p1 p2 p3 p4 p5 p6=>?_
 have R4:R X F (fun a=>Av a∨a=f2) Mu env ((st.set iRd (.ref f1)).set iSt (.ref f2)) ⟨h4,gs3,dr3,tk4,os3⟩:=
  R3.keepI (I:=f2) (.inr rfl) n2 (fun o q u z=>by rw [e2'] at q;cases q;cases z) (fun a o na q=>p5 a o na q) p6
 have hf2:f1≠f2:=fun q=>by
  have:s1.heap.objs.size≤f2:=ge2
  rw [←q] at this
  exact absurd f1s (Nat.not_lt.mpr this)
 have e1'':h4.get? f1=some (fnO _ none):=p5 _ _ hf2 e1'
 have hc1'':h4.CodeRec cdv (F.ql++"_law_read"):=by
  obtain ⟨c',o,vs,t,q1,q2,q3,q4⟩:=hc1'
  exact ⟨c',o,vs,t,q1,p5 _ _ (fun z=>by subst z;rw [e2'] at q2;cases q2;cases q3) q2,q3,q4⟩
 refine wpAny_execs_cons (wpAny_Return_some ?_)
 have gAt:((st.set iRd (.ref f1)).set iSt (.ref f2))[iAt]? =some (.own [.int 0]):=by
  rw [List.getElem?_set_ne hne.2.2.2.1,List.getElem?_set_ne hne.2.1]
  exact eAt
 have gOc:((st.set iRd (.ref f1)).set iSt (.ref f2))[iOc]? =some bOc:=by
  rw [List.getElem?_set_ne hne.2.2.2.2.1,List.getElem?_set_ne hne.2.2.1]
  exact eOc1
 refine num_ret okN hgL hlL hSt hAt hOc kAt kOc hne.2.2.2.2.2 hoc hoc2 hoc3 hA R4 g2 gAt gOc eOc2 lcA lcO ⟨_,Z,_,doc,pm,cdv,ctv,e1'',hc1'',clOf_lookup lcA _ _ (.inr (.tail _ (.head _))),clOf_lookup lcO _ _ (.inr (.tail _ (.tail _ (.head _))))⟩ ⟨_,D,md,p1,p2,p3⟩ hr hl7 ho0 fun aAt t' s5 mA G hz R6=>?_
 have R7:=(R6.none iRd).none iSt
 have hst:((((st.set iRd (.ref f1)).set iSt (.ref f2)).set iAt .none).set iRd .none).set iSt .none=((st.set iRd Bind.none).set iSt .none).set iAt .none:=by
  rw [List.set_comm _ _ hne.2.1.symm,List.set_comm _ _ hne.1.symm,List.set_set,List.set_comm _ _ hne.2.2.2.1.symm,List.set_set]
 rw [hst] at R7
 have keepAll:∀a o,s.heap.get? a=some o→¬ Mu a→s5.heap.get? a=some o:=fun a o q n=>by
  have q1:=S1.keep a o q n
  have q2:=S2.keep a o q1 n
  have q3:=S3.keep a o q2 n
  have na2:a≠f2:=fun z=>by
   have:=Heap.lt_size q1
   rw [z] at this
   exact absurd this (Nat.not_lt.mpr ge2)
  exact G.keep a o (fun z=>n (z ▸ mA)) (p5 a o na2 q3)
 refine k _ s5 _ _ R7 ⟨keepAll,fun a m=>.inl m.1,fun a m=>m.imp id fun z=>?_,fun a m _=>.inl m,?_,?_,?_⟩ (VR.int' (h:=s5.heap) (Av:=fun a=>Av a∨a=f2) (t:=t'))
 ·rw [z]
  exact Nat.le_trans S1.size ge2
 ·exact Nat.le_trans S1.size (Nat.le_trans S2.size (Nat.le_trans S3.size (Nat.le_trans p6 hz)))
 ·exact G.os.trans (S3.os.trans (S2.os.trans S1.os))
 ·intro h
  rw [G.gens]
  exact S3.gens (S2.gens (S1.gens h))
end Mine
end
section
open PySem PySem.W PyProof.Rows PySem.Builtin.Str
namespace Mine
section
variable {X:Cx} {F:FI} {d:Nat}
end
section
variable {X:Cx} {F:FI} {d:Nat}
end
section
variable {X:Cx} {F:FI} {d:Nat}
end
section
variable {X:Cx} {F:FI} {d:Nat}
end
section
variable {X:Cx} {F:FI} {d:Nat}
end
section
variable {X:Cx} {F:FI} {d:Nat}
theorem p_list0 {pos:Pos}:SoundP X F d (.List [] pos) (fun _=>some (.list [])):=by
 intro A Av Mu env st s v Q E hr hf r k'
 cases hf
 refine List_ ?_
 show wpAny _ _ (spliced (backTo pos (starEach [] env))) _ _ _
 refine Calls.spliced_nil ?_
 exact newList_w r.lt VRs.nil (by simp) fun v s' G V=>k' _ _ G V
noncomputable def cmpOwn (op:CmpOp) (i:Nat) (g:St→Option PV):EvB:=fun st=>match st[i]?,g st with
 | some (.own xs),some b=>(match cmpOp op (.list xs) b with
  | some c=>some (c,st)
  | none=>none)
 | some (.froz p),some b=>(match cmpOp op p b with
  | some c=>some (c,st)
  | none=>none)
 | _,_=>none
theorem x_assign' {x:Str} {i:Nat} {pos' pos:Pos} {e:Expr} {f:EvE} (h:SoundE X F d e f) (hi:F.names[i]? =some x) (hl:F.Wr x)
  (hs:∀env:Env,env.scope=F.scope→swapsWith e (some (.Name x pos')) pos.line env=pure false):SoundX X F d (.Assign [.Name x pos'] e pos) (bindE f fun p=>setV i p):=by
 refine @SoundU.intro _ _ _ _ _ _ _ _ ?_
 intro A Av Mu env st st' s v Q E hA hf R₀ tk k
 refine bindE_elim hf fun a st1 h1 hf1=>?_
 cases hf1
 refine wpAny_Assign_Name (h _ hA h1 R₀ tk fun va s1 Av1 Mu1 R1 S1 V1 tk1=>?_) (hs env R₀.sc)
 exact wp_store R1 hi (b:=.froz a) V1 hl fun s2 R2 S2=>k _ _ _ _ R2 (S1.toStep.trans S2 R₀.lt) trivial
theorem ss_skip {c:List Stmt}:SoundS X F d c (fun _=>none):=by
 refine @SoundU.intro _ _ _ _ _ _ _ _ ?_
 intro A Av Mu env st st' s v Q E hA hf R₀ tk k
 cases hf
end
noncomputable def KO {α:Type} (f:St→Option (α×St)):Prop:=∀(i:Nat) st st' v,f st=some (v,st')→∀xs,st'[i]? =some (.own xs)→∃ys,st[i]? =some (.own ys)
theorem KO.at {α:Type} {f:St→Option (α×St)} (h:KO f) {i:Nat}:∀st st' v,f st=some (v,st')→∀xs,st'[i]? =some (.own xs)→∃ys,st[i]? =some (.own ys):=h i
theorem ko_pure {α:Type} {a:α}:KO (pureE a):=fun i st st' v h xs e=>by cases h;exact ⟨xs,e⟩
theorem ko_lift {α:Type} {a:Option α}:KO (liftE a):=fun i st st' v h xs e=>by obtain ⟨_,h⟩:=liftE_some h;subst h;exact ⟨xs,e⟩
theorem ko_bind {α β:Type} {f:St→Option (α×St)} {g:α→St→Option (β×St)} (hf:KO f) (hg:∀a,KO (g a)):KO (bindE f g):=fun i st st' v h xs e=>by
 refine bindE_elim h fun a st1 h1 h2=>?_
 obtain ⟨ys,e2⟩:=hg a i _ _ _ h2 xs e
 exact hf i _ _ _ h1 ys e2
theorem ko_getV {j:Nat}:KO (getV j):=fun i st st' v h xs e=>by
 unfold getV at h
 split at h
 ·cases h;exact ⟨xs,e⟩
 ·cases h
  rcases get_set e with ⟨_,e2⟩ | ⟨_,e2⟩
  ·cases e2
  ·exact ⟨xs,e2⟩
 ·cases h
theorem ko_capF:∀is:List Nat,KO (capF is)
 | []=>ko_pure
 | i::is=>ko_bind ko_getV fun _=>ko_bind (ko_capF is) fun _=>ko_pure
noncomputable def compCheck (Fs scope:Scope) (own caps:List Str):Bool:=
 (scope.kind==.function)&&decide ((scope.names.map (·.1)).Nodup)&&own.all (fun x=>scope.names.lookup x==some .local||scope.names.lookup x==some .cell)&&
 caps.all (fun x=>scope.names.lookup x==some .free)&&scope.names.all (fun p=>p.2 != .free||caps.contains p.1)&&caps.all (fun x=>Fs.names.lookup x==some .cell||Fs.names.lookup x==some .free)&&decide ((own++caps).Nodup)
theorem compOK_of {F:FI} {scope:Scope} {own caps:List Str} (h:compCheck F.scope scope own caps=true):CompOK F scope own caps:=by
 unfold compCheck at h
 simp only [Bool.and_eq_true,decide_eq_true_eq,List.all_eq_true,Bool.or_eq_true,beq_iff_eq,bne_iff_ne,List.contains_iff_mem] at h
 obtain ⟨⟨⟨⟨⟨⟨h1,h2⟩,h3⟩,h4⟩,h5⟩,h6⟩,h7⟩:=h
 exact ⟨h1,h2,h3,h4,fun p hp hf=>(h5 p hp).resolve_left fun q=>q hf,h6,h7⟩
theorem boot_range:bootBuiltins (PySem.Str.ofString "range")=some (.type "range"):=by kernel_rfl
theorem boot_sum:bootBuiltins (PySem.Str.ofString "sum")=some (.builtin "sum"):=by kernel_rfl
theorem boot_min:bootBuiltins (PySem.Str.ofString "min")=some (.builtin "min"):=by kernel_rfl
theorem boot_object:bootBuiltins (PySem.Str.ofString "object")=some (.type "object"):=by kernel_rfl
theorem boot_isinstance:bootBuiltins (PySem.Str.ofString "isinstance")=some (.builtin "isinstance"):=by kernel_rfl
theorem boot_str:bootBuiltins (PySem.Str.ofString "str")=some (.type "str"):=by kernel_rfl
structure Glo (X:Cx):Prop where
 len:X.mg (PySem.Str.ofString "len")=none
 range:X.mg (PySem.Str.ofString "range")=none
 sum:X.mg (PySem.Str.ofString "sum")=none
 chr:X.mg (PySem.Str.ofString "chr")=none
 ord:X.mg (PySem.Str.ofString "ord")=none
 min:X.mg (PySem.Str.ofString "min")=none
 zip:X.mg (PySem.Str.ofString "zip")=none
 object:X.mg (PySem.Str.ofString "object")=none
 isinstance:X.mg (PySem.Str.ofString "isinstance")=none
 str:X.mg (PySem.Str.ofString "str")=none
 bytes:X.mg (PySem.Str.ofString "bytes")=none
 int:X.mg (PySem.Str.ofString "int")=none
noncomputable def bodyAt (p:Program) (i:Nat):List Stmt:=match p.main.body[i]? with
 | some (.FunctionDef _ _ b _ _ _ _ _ _ _)=>b
 | _=>[]
noncomputable def scopeAt (p:Program) (i:Nat):Scope:=match p.main.body[i]? with
 | some (.FunctionDef _ _ _ _ _ _ s _ _ _)=>s
 | _=>default
end Mine
end
section
open PySem PySem.W PyProof.Rows
namespace Mine
noncomputable def paramsAt (p:Program) (i:Nat):Arguments:=match p.main.body[i]? with
 | some (.FunctionDef _ a _ _ _ _ _ _ _ _)=>a
 | _=>{ posonlyargs:=[],args:=[],vararg:=none,kwonlyargs:=[],kw_defaults:=[],kwarg:=none,defaults:=[] }
noncomputable abbrev fnData (nm:Str) (P:Program) (i:Nat) (c:Addr) (pm:Value):FuncData:=
 { name:=nm,qualname:=nm,params:=paramsAt P i,body:=.stmts (bodyAt P i),scope:=scopeAt P i,globals:=mainGlobals,closure:=[],defaults:=.none,kwdefaults:=.none,pyModule:=pm,code:=.ref c }
noncomputable def fnCheck (scope:Scope) (names:List Str):Bool:=
 decide names.Nodup&&names.all (fun x=>scope.names.lookup x==some .local||scope.names.lookup x==some .cell)&& !scope.isCoroutine&& !scope.isGenerator&&(scope.kind==.function)
theorem fnOK_of {X:Cx} {K:Frag} (KB:K.In X.B) {nm:Str} {P:Program} {i:Nat} {c fa:Addr} {pm:Value} (hK:K.lookup fa=some { cls:=.type "function",data:=.func (fnData nm P i c pm) }) (hc:codeIn K (.ref c) nm=true)
  {ps names:List Str} (hb:∀vals:List Value,vals.length=ps.length→bindArgs (fnData nm P i c pm) ⟨vals,[]⟩=pure (ps.zip vals)) (hpre:∃rest,names=ps++rest) (hchk:fnCheck (scopeAt P i) names=true):
  FnOK X fa (fnData nm P i c pm) (bodyAt P i) ps names:=by
 unfold fnCheck at hchk
 simp only [Bool.and_eq_true,decide_eq_true_eq,List.all_eq_true,Bool.or_eq_true,beq_iff_eq,Bool.not_eq_true'] at hchk
 obtain ⟨⟨⟨⟨h1,h2⟩,h3⟩,h4⟩,h5⟩:=hchk
 exact ⟨⟨_,KB _ _ hK,rfl⟩,codeRec_of KB hc,rfl,rfl,rfl,rfl,hb,hpre,h1,h2,h3,h4,h5⟩
theorem fn_there {X:Cx} {K:Frag} (KB:K.In X.B) {nm:Str} {P:Program} {i:Nat} {c fa:Addr} {pm:Value} (hK:K.lookup fa=some { cls:=.type "function",data:=.func (fnData nm P i c pm) }):∃o fd,X.B.get? fa=some o∧o.data=.func fd:=
 ⟨_,_,KB _ _ hK,rfl⟩
noncomputable abbrev cxOf (prog:Program) (w:World) {p:Program} {loose:List Str} {mean:ExcName→Option Value} {mg mb:Str→Option Value} {h:Heap} (T:Top p loose mean mg mb h) {tabs:List (Addr×Addr)} (hT:TabsAt tabs h) (nb:NoneBooked (ghostOf h tabs)) (tq:Addr→Nat→Nat→Str):Cx where
 prog:=prog
 w:=w
 B:=ghostOf h tabs
 mg:=mg
 mb:=mb
 g:=ghost_ns hT T.g
 b:=ghost_ns hT T.b
 bb:=T.builtins
 nolimit:=let ⟨mc,a,r⟩:=T.nolimit;⟨mc,ghost_ns hT a,r⟩
 nb:=nb
 Tb:=fun a=>a∈tabs.map (·.2)
 tq:=tq
theorem booked_of {p:Program} {loose:List Str} {mean:ExcName→Option Value} {mg mb:Str→Option Value} {h:Heap} (T:Top p loose mean mg mb h) {tabs:List (Addr×Addr)} (hT:TabsAt tabs h) {K:Frag} (KX:K.In h) (hK:nsIn K cStatics sharingNotToldKey=some none):NoneBooked (ghostOf h tabs):=by
 obtain ⟨mc,a,r⟩:=T.nolimit
 exact ⟨mc,ghost_ns hT a,ns_none_of KX a hK⟩
theorem well_ints {P:Params} {h:Heap}:∀{ns:List Int} {vs:List Value},WellAll P h vs (ns.map WData.int)→VRs h (fun _=>False) vs (ns.map .int)
 | [],vs,x=>by cases x;unfold VRs;trivial
 | i::ns,vs,x=>by
  rw [List.map_cons] at x ⊢
  cases x with
  | cons x y=>
   cases x
   unfold VRs
   exact ⟨VR.int',well_ints y⟩
theorem ofPys_ints:∀ns:List Int,ofPys (ns.map PyData.int)=ns.map WData.int
 | []=>rfl
 | i::ns=>by
  rw [List.map_cons,List.map_cons]
  show WData.int i::ofPys (ns.map PyData.int)=_
  rw [ofPys_ints ns]
theorem ints_laid {P:Params} {h:Heap} {Av:Addr→Prop} {v:Value} {ns:List Int} (x:Well P h v (ofPy (.list (ns.map .int)))) (hA:∀a vs n,v=.ref a→h.get? a=some (listObj vs n)→¬ Av a):VR h Av v (.list (ns.map .int)):=by
 have e:ofPy (.list (ns.map .int))=.list (ns.map WData.int):=by
  show WData.list (ofPys _)=_
  rw [ofPys_ints]
 rw [e] at x
 cases x with
 | list g y=>
  unfold VR
  exact ⟨_,_,0,rfl,g,hA _ _ _ rfl g,VRs_int_av (well_ints y)⟩
theorem law_end {prog:Program} {w:World} {p:Program} {loose:List Str} {mean:ExcName→Option Value} {mg mb:Str→Option Value} {s₁:Shared} (T:Top p loose mean mg mb s₁.heap) {tabs:List (Addr×Addr)} (hT:TabsAt tabs s₁.heap) (nb:NoneBooked (ghostOf s₁.heap tabs)) (tq:Addr→Nat→Nat→Str)
  {fa:Addr} {fd:FuncData} {body:List Stmt} {pn:Str} {names:List Str} {d:Nat} {m:List PV→Option PV} (ok:FnOK (cxOf prog w T hT nb tq) fa fd body [pn] names) (hb:SoundR (cxOf prog w T hT nb tq) ⟨fd.scope,names,[],fd.code,fd.qualname++".<locals>."⟩ d names.length body m)
  (hp:fd.scope.names.lookup pn=some .local) (hd:d≤17) {v:Value} {ns:List Int} (hw:Well w.params s₁.heap v (ofPy (.list (ns.map .int)))) (hm:m [.list (ns.map .int)]=some (.bool true)) (hg:s₁.gens=#[])
  {c:ClaimW} {cl:Str→Option Addr} {mean':ExcName→Option Value} {args:List WData} (hn:∀cls,c.raises args cls=false) (hpost:c.post args (.bool true) args=true):
  codeAny (model prog w) callerA (.call (.ref fa) ⟨[v],[]⟩) (GoodWG c cl mean' args s₁) s₁:=by
 have tabEq:∀a,a∈tabs.map (·.2)→s₁.heap.get? a=some (tabObj #[]):=fun a h=>by
  obtain ⟨q,hq,rfl⟩:=List.mem_map.mp h
  exact (hT q hq).2
 have hpre:Pre (cxOf prog w T hT nb tq) (fun a=>a∈tabs.map (·.2)) s₁:=by
  refine ⟨fun b o e=>?_,fun a t=>⟨t,#[],tabEq a t,trivial,fun pos cv h=>by cases h⟩,fun a t=>Heap.lt_size (tabEq a t)⟩
  have e1:=of_hideAll _ e
  refine ⟨e1,fun t=>?_⟩
  have:=hideAll_none (h:=s₁.heap) (l:=tabs.map (·.2)) t
  rw [show (ghostOf s₁.heap tabs).get? b=some o from e] at this
  cases this
 have hroom:Room (d+1) callerA:=by
  refine ⟨rfl,?_,?_⟩
  ·have:callerA.depth=301:=rfl
   lia
  ·have:callerA.units=4:=rfl
   lia
 refine callG (X:=cxOf prog w T hT nb tq) (s:=s₁) (as:=[.list (ns.map .int)]) ok hb hroom (r:=.bool true) ((if_pos rfl).trans hm) hpre (.inr ⟨pn,rfl,hp⟩) (VRs.cons (ints_laid hw fun a vs n e1 e2 t=>by rw [tabEq a t] at e2;cases e2) VRs.nil) fun v' s' P=>?_
 have hv:=P.val
 unfold VR at hv
 subst hv
 refine ⟨.inl ⟨.bool true,.bool true,[],rfl,hn,.bool true,hpost,unshared_nil⟩,⟨fun b o e=>?_,fun b o e=>?_⟩,P.os,P.gens (.of_eq hg)⟩
 ·by_cases hb':b∈tabs.map (·.2)
  ·obtain ⟨q,hq,rfl⟩:=List.mem_map.mp hb'
   have e2:=(hT q hq).2
   rw [e] at e2
   cases e2
   obtain ⟨ps,hP,_⟩:=P.tabs q.2 hb'
   exact .inr (.inl ⟨((hT q hq).1.tab (hT q hq).2).isCodeTable,rfl,#[],ps,rfl,by rw [Array.empty_append];exact hP⟩)
  ·exact .inl (P.keep b o e hb')
 ·by_cases hb':b∈tabs.map (·.2)
  ·obtain ⟨ps,hP,_⟩:=P.tabs b hb'
   exact ⟨_,hP⟩
  ·exact ⟨o,P.keep b o e hb'⟩
end Mine
namespace Mine
theorem make_bi {p:Program} {loose:List Str} {mean:ExcName→Option Value} {mg mb:Str→Option Value} {h:Heap} (T:Top p loose mean mg mb h) {tabs:List (Addr×Addr)} (hT:TabsAt tabs h):
  ∃bm o,mg "__builtins__"=some (.ref bm)∧bm≠builtinsNs∧bm≠mainGlobals∧(ghostOf h tabs).get? bm=some o∧o.cls=.type "module"∧o.dict=some builtinsNs∧o.data=.plain:=by
 obtain ⟨bm,ob,b1,b2,b3,b4,b5,b6⟩:=T.bmain
 refine ⟨bm,ob,b1,b2,fun q=>?_,ghost_get hT b3 (fun q=>by rw [q] at b4;cases b4),b4,b5,b6⟩
 obtain ⟨o,es,ep,e,hd,_⟩:=T.g
 rw [q,e] at b3;cases b3;rw [hd] at b6;cases b6
end Mine
end
section
open PySem PySem.W PyProof.Rows PySem.Builtin.Str
namespace Mine
abbrev P1:Program:=PySem.Challenge.pw_ij0201_01
end Mine
end
section
open PySem PySem.W PyProof.Rows
namespace Mine
noncomputable def K0:Params→Frag:=fun P=>[
 (2,{ cls:=Value.none,data:=Data.dict #[{ hash:=PyData.keyHash P (Str.ofString "\x69mport.loaded._sre"),key:=Value.str (Str.ofString "\x69mport.loaded._sre") 183,val:=Value.bool true },{ hash:=PyData.keyHash P (Str.ofString "class._frozen_\x69mportlib.BuiltinImporter"),key:=Value.str (Str.ofString "class._frozen_\x69mportlib.BuiltinImporter") 185,val:=Value.ref 14 },{ hash:=PyData.keyHash P (Str.ofString "watched.\x69mport"),key:=Value.str (Str.ofString "watched.\x69mport") 206,val:=Value.ref 18 },{ hash:=PyData.keyHash P (Str.ofString "class._frozen_\x69mportlib.ModuleSpec"),key:=Value.str (Str.ofString "class._frozen_\x69mportlib.ModuleSpec") 216,val:=Value.ref 22 },{ hash:=PyData.keyHash P (Str.ofString "sys.modules.booked-epoch"),key:=Value.str (Str.ofString "sys.modules.booked-epoch") 245,val:=Value.int 3 0 },{ hash:=PyData.keyHash P (Str.ofString "\x69mport.later-laid._sre"),key:=Value.str (Str.ofString "\x69mport.later-laid._sre") 270,val:=Value.bool true },{ hash:=PyData.keyHash P (Str.ofString "watched.library"),key:=Value.str (Str.ofString "watched.library") 272,val:=Value.ref 27 },{ hash:=PyData.keyHash P (Str.ofString "watched.library-objects"),key:=Value.str (Str.ofString "watched.library-objects") 0,val:=Value.str (Str.ofString "\x0c") 0 },{ hash:=PyData.keyHash P (Str.ofString "watched.library-deep._sre"),key:=Value.str (Str.ofString "watched.library-deep._sre") 273,val:=Value.str (Str.ofString "\x04\x00\x00\x0b\x04\x00\x00\x0b\x04\x00\x00\x03\x04\x00\x00\x0b\x08\x04dict\x02") 0 }] 9 }),
 (3,{ cls:=Value.type "dict",data:=Data.dict #[{ hash:=PyData.keyHash P (Str.ofString "__name__"),key:=Value.str (Str.ofString "__name__") 165,val:=Value.str (Str.ofString "law_ij0201_01") 550 },{ hash:=PyData.keyHash P (Str.ofString "__doc__"),key:=Value.str (Str.ofString "__doc__") 166,val:=Value.none },{ hash:=PyData.keyHash P (Str.ofString "__package__"),key:=Value.str (Str.ofString "__package__") 167,val:=Value.none },{ hash:=PyData.keyHash P (Str.ofString "__loader__"),key:=Value.str (Str.ofString "__loader__") 168,val:=Value.builtin "__main__.__loader__#opaque" },{ hash:=PyData.keyHash P (Str.ofString "__spec__"),key:=Value.str (Str.ofString "__spec__") 169,val:=Value.none },{ hash:=PyData.keyHash P (Str.ofString "__annotations__"),key:=Value.str (Str.ofString "__annotations__") 170,val:=Value.ref 6 },{ hash:=PyData.keyHash P (Str.ofString "__builtins__"),key:=Value.str (Str.ofString "__builtins__") 171,val:=Value.ref 4 },{ hash:=PyData.keyHash P (Str.ofString "__file__"),key:=Value.str (Str.ofString "__file__") 173,val:=Value.str (Str.ofString "/claim/cut.py") 172 },{ hash:=PyData.keyHash P (Str.ofString "__cached__"),key:=Value.str (Str.ofString "__cached__") 174,val:=Value.none },{ hash:=PyData.keyHash P (Str.ofString "_sre"),key:=Value.str (Str.ofString "_sre") 275,val:=Value.ref 12 },{ hash:=PyData.keyHash P (Str.ofString "read_uint1"),key:=Value.str (Str.ofString "read_uint1") 291,val:=Value.ref 38 },{ hash:=PyData.keyHash P (Str.ofString "decode_long"),key:=Value.str (Str.ofString "decode_long") 300,val:=Value.ref 45 },{ hash:=PyData.keyHash P (Str.ofString "read_long1"),key:=Value.str (Str.ofString "read_long1") 311,val:=Value.ref 52 },{ hash:=PyData.keyHash P (Str.ofString "_twin_re_1"),key:=Value.str (Str.ofString "_twin_re_1") 351,val:=Value.ref 57 },{ hash:=PyData.keyHash P (Str.ofString "translate"),key:=Value.str (Str.ofString "translate") 360,val:=Value.ref 64 },{ hash:=PyData.keyHash P (Str.ofString "_special_chars_map"),key:=Value.str (Str.ofString "_special_chars_map") 508,val:=Value.ref 66 },{ hash:=PyData.keyHash P (Str.ofString "escape"),key:=Value.str (Str.ofString "escape") 515,val:=Value.ref 76 },{ hash:=PyData.keyHash P (Str.ofString "_translate"),key:=Value.str (Str.ofString "_translate") 536,val:=Value.ref 83 },{ hash:=PyData.keyHash P (Str.ofString "_join_translated_parts"),key:=Value.str (Str.ofString "_join_translated_parts") 549,val:=Value.ref 90 },{ hash:=PyData.keyHash P (Str.ofString "_law_number"),key:=Value.str (Str.ofString "_law_number") 564,val:=Value.ref 97 },{ hash:=PyData.keyHash P (Str.ofString "_law_piece"),key:=Value.str (Str.ofString "_law_piece") 570,val:=Value.ref 102 },{ hash:=PyData.keyHash P (Str.ofString "_law_sets"),key:=Value.str (Str.ofString "_law_sets") 576,val:=Value.ref 107 },{ hash:=PyData.keyHash P (Str.ofString "_law_rows"),key:=Value.str (Str.ofString "_law_rows") 582,val:=Value.ref 112 },{ hash:=PyData.keyHash P (Str.ofString "_law_figures"),key:=Value.str (Str.ofString "_law_figures") 592,val:=Value.ref 119 },{ hash:=PyData.keyHash P (Str.ofString "_law_lying"),key:=Value.str (Str.ofString "_law_lying") 598,val:=Value.ref 124 },{ hash:=PyData.keyHash P (Str.ofString "_law_takes"),key:=Value.str (Str.ofString "_law_takes") 604,val:=Value.ref 129 },{ hash:=PyData.keyHash P (Str.ofString "law"),key:=Value.str (Str.ofString "law") 610,val:=Value.ref 134 }] 27 }),
 (37,{ cls:=Value.type "code",data:=Data.fields #[Value.str (Str.ofString "read_uint1") 284,Value.str (Str.ofString "read_uint1") 285,Value.str (Str.ofString "/claim/cut.py") 286,Value.int 3 0,Value.int 1 0,Value.int 0 0,Value.int 0 0,Value.int 3 0,Value.ref 32,Value.bool true,Value.int 276 0,Value.ref 33,Value.none,Value.ref 34,Value.ref 35,Value.ref 36,Value.int 289 0,Value.int 3 0,Value.str (Str.ofString "/claim/cut.py") 290] }),
 (38,{ cls:=.type "function",data:=.func (fnData "read_uint1" P1 2 37 (Value.str (Str.ofString "cpy313.pickletools") 282)) }),
 (44,{ cls:=Value.type "code",data:=Data.fields #[Value.str (Str.ofString "decode_long") 294,Value.str (Str.ofString "decode_long") 295,Value.str (Str.ofString "/claim/cut.py") 296,Value.int 9 0,Value.int 1 0,Value.int 0 0,Value.int 0 0,Value.int 3 0,Value.ref 39,Value.bool true,Value.int 276 0,Value.ref 40,Value.none,Value.ref 41,Value.ref 42,Value.ref 43,Value.int 298 0,Value.int 9 0,Value.str (Str.ofString "/claim/cut.py") 299] }),
 (45,{ cls:=.type "function",data:=.func (fnData "decode_long" P1 4 44 (Value.str (Str.ofString "pickle") 292)) }),
 (51,{ cls:=Value.type "code",data:=Data.fields #[Value.str (Str.ofString "read_long1") 303,Value.str (Str.ofString "read_long1") 304,Value.str (Str.ofString "/claim/cut.py") 305,Value.int 12 0,Value.int 1 0,Value.int 0 0,Value.int 0 0,Value.int 3 0,Value.ref 46,Value.bool true,Value.int 276 0,Value.ref 47,Value.none,Value.ref 48,Value.ref 49,Value.ref 50,Value.int 309 0,Value.int 12 0,Value.str (Str.ofString "/claim/cut.py") 310] }),
 (52,{ cls:=.type "function",data:=.func (fnData "read_long1" P1 6 51 (Value.str (Str.ofString "cpy313.pickletools") 301)) }),
 (56,{ cls:=Value.type "tuple",data:=Data.seq #[Value.int 14 0,Value.int 14 0,Value.int 4 0,Value.int 1 0,Value.int 1 0,Value.int 9 0,Value.int 0 0,Value.int 64 0,Value.int 0 0,Value.int 1342177280 0,Value.int 0 0,Value.int 0 0,Value.int 0 0,Value.int 0 0,Value.int 0 0,Value.int 17 0,Value.int 0 0,Value.int 13 0,Value.int 11 0,Value.int 9 0,Value.int 0 0,Value.int 64 0,Value.int 0 0,Value.int 1342177280 0,Value.int 0 0,Value.int 0 0,Value.int 0 0,Value.int 0 0,Value.int 0 0,Value.int 17 0,Value.int 1 0,Value.int 1 0] }),
 (57,{ cls:=Value.type "re.Pattern",data:=Data.fields #[Value.str (Str.ofString "([&~|])") 315,Value.int 32 350,Value.int 1 0,Value.none,Value.none,Value.ref 56,Value.int 0 0] }),
 (63,{ cls:=Value.type "code",data:=Data.fields #[Value.str (Str.ofString "translate") 352,Value.str (Str.ofString "translate") 353,Value.str (Str.ofString "/claim/cut.py") 354,Value.int 20 0,Value.int 1 0,Value.int 0 0,Value.int 0 0,Value.int 3 0,Value.ref 58,Value.bool true,Value.int 276 0,Value.ref 59,Value.none,Value.ref 60,Value.ref 61,Value.ref 62,Value.int 358 0,Value.int 20 0,Value.str (Str.ofString "/claim/cut.py") 359] }),
 (64,{ cls:=.type "function",data:=.func (fnData "translate" P1 9 63 (Value.str (Str.ofString "cpy313.fnmatch") 312)) }),
 (66, { cls := Value.type "dict", data := Data.dict #[{ hash := 40, key := Value.int 40 364, val := Value.str (Str.ofString "\\(") 368 }, { hash := 41, key := Value.int 41 370, val := Value.str (Str.ofString "\\)") 374 }, { hash := 91, key := Value.int 91 376, val := Value.str (Str.ofString "\\[") 380 }, { hash := 93, key := Value.int 93 382, val := Value.str (Str.ofString "\\]") 386 }, { hash := 123, key := Value.int 123 388, val := Value.str (Str.ofString "\\{") 392 }, { hash := 125, key := Value.int 125 394, val := Value.str (Str.ofString "\\}") 398 }, { hash := 63, key := Value.int 63 400, val := Value.str (Str.ofString "\\?") 404 }, { hash := 42, key := Value.int 42 406, val := Value.str (Str.ofString "\\*") 410 }, { hash := 43, key := Value.int 43 412, val := Value.str (Str.ofString "\\+") 416 }, { hash := 45, key := Value.int 45 418, val := Value.str (Str.ofString "\\-") 422 }, { hash := 124, key := Value.int 124 424, val := Value.str (Str.ofString "\\|") 428 }, { hash := 94, key := Value.int 94 430, val := Value.str (Str.ofString "\\^") 434 }, { hash := 36, key := Value.int 36 436, val := Value.str (Str.ofString "\\$") 440 }, { hash := 92, key := Value.int 92 442, val := Value.str (Str.ofString "\\\\") 446 }, { hash := 46, key := Value.int 46 448, val := Value.str (Str.ofString "\\.") 452 }, { hash := 38, key := Value.int 38 454, val := Value.str (Str.ofString "\\&") 458 }, { hash := 126, key := Value.int 126 460, val := Value.str (Str.ofString "\\~") 464 }, { hash := 35, key := Value.int 35 466, val := Value.str (Str.ofString "\\#") 470 }, { hash := 32, key := Value.int 32 472, val := Value.str (Str.ofString "\\ ") 476 }, { hash := 9, key := Value.int 9 478, val := Value.str (Str.ofString "\\\t") 482 }, { hash := 10, key := Value.int 10 484, val := Value.str (Str.ofString "\\\n") 488 }, { hash := 13, key := Value.int 13 490, val := Value.str (Str.ofString "\\\x0d") 494 }, { hash := 11, key := Value.int 11 496, val := Value.str (Str.ofString "\\\x0b") 500 }, { hash := 12, key := Value.int 12 502, val := Value.str (Str.ofString "\\\x0c") 506 }] 24 }),
 (75,{ cls:=Value.type "code",data:=Data.fields #[Value.str (Str.ofString "escape") 509,Value.str (Str.ofString "escape") 510,Value.str (Str.ofString "/claim/cut.py") 511,Value.int 26 0,Value.int 1 0,Value.int 0 0,Value.int 0 0,Value.int 3 0,Value.ref 70,Value.bool true,Value.int 276 0,Value.ref 71,Value.none,Value.ref 72,Value.ref 73,Value.ref 74,Value.int 513 0,Value.int 26 0,Value.str (Str.ofString "/claim/cut.py") 514] }),
 (76,{ cls:=.type "function",data:=.func (fnData "escape" P1 12 75 (Value.str (Str.ofString "re") 361)) }),
 (82,{ cls:=Value.type "code",data:=Data.fields #[Value.str (Str.ofString "_translate") 518,Value.str (Str.ofString "_translate") 519,Value.str (Str.ofString "/claim/cut.py") 520,Value.int 33 0,Value.int 3 0,Value.int 0 0,Value.int 0 0,Value.int 3 0,Value.ref 77,Value.bool true,Value.int 276 0,Value.ref 78,Value.none,Value.ref 79,Value.ref 80,Value.ref 81,Value.int 534 0,Value.int 33 0,Value.str (Str.ofString "/claim/cut.py") 535] }),
 (83,{ cls:=.type "function",data:=.func (fnData "_translate" P1 14 82 (Value.str (Str.ofString "cpy313.fnmatch") 516)) }),
 (89,{ cls:=Value.type "code",data:=Data.fields #[Value.str (Str.ofString "_join_translated_parts") 537,Value.str (Str.ofString "_join_translated_parts") 538,Value.str (Str.ofString "/claim/cut.py") 539,Value.int 95 0,Value.int 2 0,Value.int 0 0,Value.int 0 0,Value.int 3 0,Value.ref 84,Value.bool true,Value.int 276 0,Value.ref 85,Value.none,Value.ref 86,Value.ref 87,Value.ref 88,Value.int 547 0,Value.int 95 0,Value.str (Str.ofString "/claim/cut.py") 548] }),
 (90,{ cls:=.type "function",data:=.func (fnData "_join_translated_parts" P1 15 89 (Value.str (Str.ofString "cpy313.fnmatch") 516)) }),
 (96,{ cls:=Value.type "code",data:=Data.fields #[Value.str (Str.ofString "_law_number") 552,Value.str (Str.ofString "_law_number") 553,Value.str (Str.ofString "/claim/cut.py") 554,Value.int 123 0,Value.int 1 0,Value.int 0 0,Value.int 0 0,Value.int 3 0,Value.ref 91,Value.bool true,Value.int 276 0,Value.ref 92,Value.none,Value.ref 93,Value.ref 94,Value.ref 95,Value.int 562 0,Value.int 123 0,Value.str (Str.ofString "/claim/cut.py") 563] }),
 (97,{ cls:=.type "function",data:=.func (fnData "_law_number" P1 17 96 (Value.str (Str.ofString "law_ij0201_01") 550)) }),
 (101,{ cls:=Value.type "code",data:=Data.fields #[Value.str (Str.ofString "_law_piece") 565,Value.str (Str.ofString "_law_piece") 566,Value.str (Str.ofString "/claim/cut.py") 567,Value.int 136 0,Value.int 3 0,Value.int 0 0,Value.int 0 0,Value.int 3 0,Value.ref 98,Value.bool true,Value.int 276 0,Value.ref 99,Value.none,Value.none,Value.none,Value.ref 100,Value.int 568 0,Value.int 136 0,Value.str (Str.ofString "/claim/cut.py") 569] }),
 (102,{ cls:=.type "function",data:=.func (fnData "_law_piece" P1 18 101 (Value.str (Str.ofString "law_ij0201_01") 550)) }),
 (106,{ cls:=Value.type "code",data:=Data.fields #[Value.str (Str.ofString "_law_sets") 571,Value.str (Str.ofString "_law_sets") 572,Value.str (Str.ofString "/claim/cut.py") 573,Value.int 147 0,Value.int 2 0,Value.int 0 0,Value.int 0 0,Value.int 3 0,Value.ref 103,Value.bool true,Value.int 276 0,Value.ref 104,Value.none,Value.none,Value.none,Value.ref 105,Value.int 574 0,Value.int 147 0,Value.str (Str.ofString "/claim/cut.py") 575] }),
 (107,{ cls:=.type "function",data:=.func (fnData "_law_sets" P1 19 106 (Value.str (Str.ofString "law_ij0201_01") 550)) }),
 (111,{ cls:=Value.type "code",data:=Data.fields #[Value.str (Str.ofString "_law_rows") 577,Value.str (Str.ofString "_law_rows") 578,Value.str (Str.ofString "/claim/cut.py") 579,Value.int 169 0,Value.int 2 0,Value.int 0 0,Value.int 0 0,Value.int 3 0,Value.ref 108,Value.bool true,Value.int 276 0,Value.ref 109,Value.none,Value.none,Value.none,Value.ref 110,Value.int 580 0,Value.int 169 0,Value.str (Str.ofString "/claim/cut.py") 581] }),
 (112,{ cls:=.type "function",data:=.func (fnData "_law_rows" P1 20 111 (Value.str (Str.ofString "law_ij0201_01") 550)) }),
 (118,{ cls:=Value.type "code",data:=Data.fields #[Value.str (Str.ofString "_law_figures") 583,Value.str (Str.ofString "_law_figures") 584,Value.str (Str.ofString "/claim/cut.py") 585,Value.int 178 0,Value.int 2 0,Value.int 0 0,Value.int 0 0,Value.int 3 0,Value.ref 113,Value.bool true,Value.int 276 0,Value.ref 114,Value.none,Value.ref 115,Value.ref 116,Value.ref 117,Value.int 590 0,Value.int 178 0,Value.str (Str.ofString "/claim/cut.py") 591] }),
 (119,{ cls:=.type "function",data:=.func (fnData "_law_figures" P1 21 118 (Value.str (Str.ofString "law_ij0201_01") 550)) }),
 (123,{ cls:=Value.type "code",data:=Data.fields #[Value.str (Str.ofString "_law_lying") 593,Value.str (Str.ofString "_law_lying") 594,Value.str (Str.ofString "/claim/cut.py") 595,Value.int 184 0,Value.int 2 0,Value.int 0 0,Value.int 0 0,Value.int 3 0,Value.ref 120,Value.bool true,Value.int 276 0,Value.ref 121,Value.none,Value.none,Value.none,Value.ref 122,Value.int 596 0,Value.int 184 0,Value.str (Str.ofString "/claim/cut.py") 597] }),
 (124,{ cls:=.type "function",data:=.func (fnData "_law_lying" P1 22 123 (Value.str (Str.ofString "law_ij0201_01") 550)) }),
 (128,{ cls:=Value.type "code",data:=Data.fields #[Value.str (Str.ofString "_law_takes") 599,Value.str (Str.ofString "_law_takes") 600,Value.str (Str.ofString "/claim/cut.py") 601,Value.int 191 0,Value.int 2 0,Value.int 0 0,Value.int 0 0,Value.int 3 0,Value.ref 125,Value.bool true,Value.int 276 0,Value.ref 126,Value.none,Value.none,Value.none,Value.ref 127,Value.int 602 0,Value.int 191 0,Value.str (Str.ofString "/claim/cut.py") 603] }),
 (129,{ cls:=.type "function",data:=.func (fnData "_law_takes" P1 23 128 (Value.str (Str.ofString "law_ij0201_01") 550)) }),
 (133,{ cls:=Value.type "code",data:=Data.fields #[Value.str (Str.ofString "law") 605,Value.str (Str.ofString "law") 606,Value.str (Str.ofString "/claim/cut.py") 607,Value.int 203 0,Value.int 1 0,Value.int 0 0,Value.int 0 0,Value.int 3 0,Value.ref 130,Value.bool true,Value.int 276 0,Value.ref 131,Value.none,Value.none,Value.none,Value.ref 132,Value.int 608 0,Value.int 203 0,Value.str (Str.ofString "/claim/cut.py") 609] }),
 (134,{ cls:=.type "function",data:=.func (fnData "law" P1 24 133 (Value.str (Str.ofString "law_ij0201_01") 550)) })
]
noncomputable abbrev as0:List Addr:=[2,3,37,38,44,45,51,52,56,57,63,64,66,75,76,82,83,89,90,96,97,101,102,106,107,111,112,118,119,123,124,128,129,133,134]
noncomputable abbrev view0:Program:=view P1 [0,24]
noncomputable abbrev loose0:List Str:=["read_uint1","decode_long","read_long1","translate","escape","_translate","_join_translated_parts","_law_number","_law_piece","_law_sets","_law_rows","_law_figures","_law_lying","_law_takes","_twin_re_1","_special_chars_map"].map Str.ofString
noncomputable abbrev hook0:Hook:=kmHook K0 as0 (fun _=>by kernel_rfl) [92,78]
set_option maxHeartbeats 8000000 in
theorem left0:LeftO P1 view0 loose0 (fun s=>xlAt view0 [] s&&recOk [] s) (Hook.obs hook0) (Hook.val hook0) 3716:=by
  refine byRow2 "comprehension-iter-twice" ?_ ?_<;>refine byRow2 "special-get-raises" ?_ ?_<;>
  (intro w
   unfold openEnds fencedOpening topFrom view0 P1
   rw [PySem.W.Fast.te10274390034422433532,PySem.W.Fast.te14289696077712309145,PySem.W.Fast.te14082659384304107361,PySem.W.Fast.te1435165496053646825,PySem.W.Fast.te14364793385576792824,PySem.W.Fast.te4187177175401517315]
   kernel_rfl)
end Mine
end
section
open PySem PySem.W PyProof.Rows PySem.SeqAt PySem.Builtin.Str
namespace Mine
noncomputable def inTup (x c:PV):Option Bool:=match c with
 | .tuple ys=>match toPy x,toPys ys with
  | some d,some ds=>if shaped (.tuple ds)=true∧shaped d=true then some (ds.any fun y=>PyData.eqv y d) else none
  | _,_=>none
 | _=>none
section
variable {X:Cx} {F:FI} {d:Nat}
set_option tactic.hygienic true in
theorem inTup_w {A:Around} {Av:Addr→Prop} {s:Shared} {Q:Value→Shared→Prop} {E:Value→Shared→Prop} {a b:PV} {va vb:Value} {c:Bool} (hA:Room d A) (h:inTup a b=some c) (ha:VR s.heap Av va a) (hb:VR s.heap Av vb b) (k:Q (.bool c) s):wpAny (model X.prog X.w) A (compareOp .In va vb) Q E s:=by
 unfold inTup at h
 split at h
 ·rename_i ys
  split at h
  ·rename_i x ds e1 e2
   split at h<;>cases h
   rename_i q
   obtain ⟨_,z1⟩:=ha.reads e1
   obtain ⟨_,z2⟩:=hb.reads (d:=.tuple ds) (by unfold toPy;rw [e2];rfl)
   exact in_tuple_reads z2 z1 (canLay_of_shaped q.1) (canLay_of_shaped q.2) (room_in_shaped q.2 (hA.u 65)) k
  ·cases h
 ·cases h
theorem b_intup {l r:Expr} {pos:Pos} {f g:EvE} (hl:SoundE X F d l f) (hr:SoundE X F d r g) (hm:autoParam (behindInMarks .In r=false) Mine.au9._auto_1):SoundB X F d (.Compare l [.In] [r] pos) (bindE f fun a=>bindE g fun b=>liftE (inTup a b)):=by
 refine @SoundT.intro _ _ _ _ _ _ _ _ ?_
 intro A Av Mu env st st' s v Q E hA hf R₀ tk k
 refine bindE_elim hf fun a st1 h1 hf=>?_
 refine bindE_elim hf fun b st2 h2 hf=>?_
 obtain ⟨h3,rfl⟩:=liftE_some hf
 refine wpAny_isTrue_Compare1 (hl _ hA h1 R₀ tk fun va s1 Av1 Mu1 R1 S1 V1 tk1=>hr _ hA h2 R1 tk1 fun vb s2 Av2 Mu2 R2 S2 V2 tk2=>?_) hm
 exact inTup_w hA h3 (V1.step S2.toStep R1.ma) V2 (wpAny_truthy_bool (k _ _ Av2 Mu2 R2 (S1.trans S2 R₀.lt) rfl))
end
end Mine
end
section
open PySem PySem.W PyProof.Rows PySem.Builtin PySem.Builtin.Str
namespace Mine
section
variable {prog:Program} {w:World} {A:Around} {s:Shared}
theorem table_hit {D:Addr} {f:Int→Option Value} {c:Nat} {y:PySem.Str} {t:Tok} {Q:Mapped→Shared→Prop} {E:Value→Shared→Prop} (hm:s.heap.MapOf (intKind prog w) D f) (hv:f c=some (.str y t))
  (h:∀tk,Q (.text y) { s with toks:=tk }):wpAny (model prog w) A (tableLookup (.ref D) c) Q E s:=by
 unfold tableLookup
 refine wpAny_bind (wpAny_attempt (wpAny_bind (wpAny_mkInt ?_)))
 refine wpAny_getItem_of (knd:=intKind prog w) (k:=(c:Int)) (intKind_is _ _ _ _) hm hv ?_
 exact wpAny_bind (wpAny_pure (wpAny_bind (wpAny_pure (wpAny_pure (h _)))))
theorem table_miss {D:Addr} {f:Int→Option Value} {c:Nat} {Q:Mapped→Shared→Prop} {E:Value→Shared→Prop} (hh:A.handled=none) (hD:(D==sysModules)=false) (hm:s.heap.MapOf (intKind prog w) D f) (hv:f c=none)
  (h:∀s',Grow s s'→Q .keep s'):wpAny (model prog w) A (tableLookup (.ref D) c) Q E s:=by
 unfold tableLookup
 refine wpAny_bind (wpAny_mono (wpAny_size (Q:=fun r s'=>∃a,r=.error (.ref a)∧s'.TypeIs (.ref a) "KeyError"∧(∀b o,s.heap.get? b=some o→s'.heap.get? b=some o)∧s'.os=s.os∧s'.gens=s.gens) (wpAny_attempt (wpAny_bind (wpAny_mkInt ?_)))) ?_ fun _ _ e=>e)
 ·refine wpAny_getItem_missing_of (knd:=intKind prog w) (k:=(c:Int)) (intKind_is _ _ _ _) hD hh hm hv fun h' e hx=>?_
  obtain ⟨ob,t,e1,e2,_⟩:=hx.there
  exact ⟨e,rfl,⟨ob,e1,e2⟩,hx.keeps,rfl,rfl⟩
 ·rintro r s' ⟨⟨a,rfl,hT,hk,ho,hg⟩,hs⟩
  exact wpAny_bind (wpAny_isInstance hT (b:=true) (by rw [isSubtype_type];kernel_rfl) (wpAny_bind (wpAny_rule (wpAny_pure (h _ ⟨hk,hs,ho,hg⟩)))))
theorem forIn_one {M:Model} {β:Type} {c:Nat} {b:β} {f:Nat→β→Sem (ForInStep β)} {Q:β→Shared→Prop} {E:Value→Shared→Prop} (h:wpAny M A (f c b) (fun r s'=>∃b',r=.yield b'∧Q b' s') E s):wpAny M A (forIn #[c] b f) Q E s:=by
 rw [←Array.forIn_toList]
 show wpAny M A (forIn [c] b f) Q E s
 rw [List.forIn_cons]
 refine wpAny_bind (wpAny_mono h ?_ fun _ _ e=>e)
 rintro r s' ⟨b',rfl,q⟩
 exact wpAny_pure q
theorem ite_no {M:Model} {α:Type} {p:Prop} {dp:Decidable p} {x z:Sem α} {Q:α→Shared→Prop} {E:Value→Shared→Prop} (h:¬ p) (k:wpAny M A z Q E s):wpAny M A (if p then x else z) Q E s:=by rwa [if_neg h]
theorem ite_yes {M:Model} {α:Type} {p:Prop} {dp:Decidable p} {x z:Sem α} {Q:α→Shared→Prop} {E:Value→Shared→Prop} (h:p) (k:wpAny M A x Q E s):wpAny M A (if p then x else z) Q E s:=by rwa [if_pos h]
theorem long_no {n:Nat} (h:n≤2):¬ tooLong n=true:=by unfold tooLong;simp;exact Nat.le_trans h (by decide)
theorem ret_one {M:Model} {y:PySem.Str} {Q:PySem.Fin→Shared→Prop} {E:Value→Shared→Prop} (hy:y.length≤2) (h:∀t,Q (.done (.ret (.str y t))) { s with toks:=s.toks+1 }):wpAny M A (retStr ⟨List.foldl (fun (acc:Array Nat) (p:PySem.Str)=>acc++p.cps) #[] [y].reverse⟩) Q E s:=by
 have e:(⟨List.foldl (fun (acc:Array Nat) (p:PySem.Str)=>acc++p.cps) #[] [y].reverse⟩:PySem.Str)=y:=PySem.Str.ext' (Array.empty_append)
 rw [e]
 exact wpAny_bind (wpAny_mkStr (wpAny_pure (h _)) (Nat.le_trans hy (by decide)))
theorem call_translate {D:Addr} {f:Int→Option Value} {c:Nat} {t:Tok} {y:PySem.Str} {Q E:Value→Shared→Prop} (hc:c < 128) (hh:A.handled=none) (hD:(D==sysModules)=false) (hm:s.heap.MapOf (intKind prog w) D f)
  (hv:(f c=none∧y=⟨#[c]⟩)∨(∃t,f c=some (.str y t))∧y.length=2) (h:∀t' s',Grow s s'→Q (.str y t') s'):wpAny (model prog w) A (call (.builtin "str.translate") [.str ⟨#[c]⟩ t,.ref D]) Q E s:=by
 refine wpAny_call_entry F.slot_str_translate (typeIs_str _ _ _) F.entry_str_translate ?_ (F.args_str_translate_2 _ _)
 unfold «str.translate»
 have hf:((⟨#[c]⟩:PySem.Str).cps.all fun x=>decide (x < 128))=true:=by simp [hc]
 refine wpAny_bind (wpAny_bind (wpAny_pure (wpAny_bind (wpAny_bind (wpAny_pure (wpAny_pure (wpAny_pure ?_)))))))
 refine ite_no (show ¬ ((1:Nat)==0)=true by decide) (wpAny_bind (forIn_one (ite_no (long_no (Nat.zero_le 2)) (ite_yes hf ?_))))
 rcases hv with ⟨hv,rfl⟩ | ⟨⟨t',hv⟩,hl⟩
 ·refine wpAny_bind (table_miss hh hD hm hv fun s1 G=>?_)
  exact wpAny_bind (wpAny_pure (wpAny_pure ⟨_,rfl,ite_no (long_no (show 0+1≤2 by decide)) (ret_one (y:=⟨#[c]⟩) (by decide:1≤2) fun t=>⟨_,rfl,h _ _ (G.trans .toks)⟩)⟩))
 ·refine wpAny_bind (table_hit hm hv fun tk=>?_)
  dsimp only
  rw [hl]
  refine wpAny_bind (wpAny_pure (wpAny_bind (wpAny_rule (ite_no (by decide) ?_))))
  refine wpAny_bind (table_hit hm hv fun tk=>?_)
  exact wpAny_pure ⟨_,rfl,ite_no (long_no (show 0+y.length≤2 by rw [hl];decide)) (ret_one (Nat.le_of_eq hl) fun t=>⟨_,rfl,h _ _ .toks⟩)⟩
end
section
variable {X:Cx} {F:FI} {d:Nat}
noncomputable def escTab:List (Nat×List Nat):=[(97,[97]),(98,[98]),(45,[92,45]),(93,[92,93]),(94,[92,94]),(92,[92,92]),(38,[92,38]),(124,[92,124]),(126,[92,126])]
noncomputable def escP (o:PV):Option PV:=(asStr o).bind fun x=>match x.cps with
 | ⟨[c]⟩=>(escTab.lookup c).map fun y=>.str ⟨y.toArray⟩
 | _=>none
noncomputable def TabOK (f:Int→Option Value):Prop:=∀c y,escTab.lookup c=some y→c < 128∧((f c=none∧(⟨y.toArray⟩:PySem.Str)=⟨#[c]⟩)∨(∃t,f c=some (.str ⟨y.toArray⟩ t))∧(⟨y.toArray⟩:PySem.Str).length=2)
theorem escP_some {o r:PV} (h:escP o=some r):∃c y,o=.str ⟨#[c]⟩∧escTab.lookup c=some y∧r=.str ⟨y.toArray⟩:=by
 obtain ⟨x,e,h⟩:=Option.bind_eq_some_iff.mp h
 obtain ⟨l⟩:=x
 obtain ⟨l⟩:=l
 match l,h with
 | [c],h=>
  obtain ⟨y,h1,h2⟩:=Option.map_eq_some_iff.mp h
  exact ⟨c,y,asStr_some e,h1,h2.symm⟩
theorem s_translate {tb:PySem.Str} {tp apos pos:Pos} {o:Expr} {D:Addr} {f:EvE} {fT:Int→Option Value} (ho:SoundE X F d o f) (hx:F.scope.names.lookup tb=some .globalImplicit) (hg:X.mg tb=some (.ref D)) (hD:(D==sysModules)=false) (hm:X.B.MapOf (intKind X.prog X.w) D fT) (hT:TabOK fT)
  (hd2:autoParam ((tb==("__debug__":PySem.Str))=false) Mine.au3._auto_1) (hbase:autoParam (∀env,attributeBase o "translate" env (eval o env)=eval o env) Mine.au4._auto_1)
  (hline:autoParam ((apos.endLine==pos.line)=true) Mine.au2._auto_1):SoundE X F d (.Call (.Attribute o "translate" apos) [.Name tb tp] [] pos) (bindE f fun a=>liftE (escP a)):=by
 refine @SoundT.intro _ _ _ _ _ _ _ _ ?_
 intro A Av Mu env st st' s v Q E hA hf R₀ tk k
 refine bindE_elim hf fun a st1 h1 hf1=>?_
 obtain ⟨h3,rfl⟩:=liftE_some hf1
 obtain ⟨c,y,rfl,h4,rfl⟩:=escP_some h3
 obtain ⟨hc,hv⟩:=hT c y h4
 refine wpAny_Call_method_lateS (hbase env) rfl hline (ho _ hA h1 R₀ tk fun va s1 Av1 Mu1 R1 S1 V1 tk1=>?_)
 obtain ⟨t,rfl⟩:=V1.str_of
 refine ⟨"str","str.translate",_root_.PySem.F.plainAttrs_str,_root_.PySem.F.slot_str_translate,_root_.PySem.F.type_str_translate,typeIs_str _ _ _,(fun _ e=>nomatch e),callArgs rfl ?_⟩
 show wpAny _ _ (spliced (backTo pos [(false,eval (.Name tb tp) env)])) _ _ _
 refine Calls.spliced_cons (wp_gname R1 hx hg (Calls.spliced_nil ?_) hd2)
 refine call_translate hc hA.1 hD (let ⟨o,es,ep,ho,r⟩:=hm;⟨o,es,ep,(R1.base _ _ ho).1,r⟩) (hv.imp id fun q=>q) fun t' s' G=>?_
 exact k _ _ _ _ (R1.grow G) (S1.trans (StepE.ofGrow G) R₀.lt) VR.str'
noncomputable def isStrF (i:Nat):EvE:=fun st=>match st[i]? with
 | some (.froz (.str _))=>some (.bool true,st)
 | _=>none
set_option tactic.hygienic true in
theorem s_isstr {x g u:PySem.Str} {fp p sp pos:Pos} {i:Nat} (hgn:g="isinstance") (hu:u="str") (hi:F.names[i]? =some x) (hx:F.scope.names.lookup g=some .globalImplicit) (hx2:F.scope.names.lookup u=some .globalImplicit) (hg:X.mg g=none) (hg2:X.mg u=none)
  (hn:autoParam ((x==("__classdict__":PySem.Str))=false) Mine.au3._auto_1) (hd:autoParam ((x==("__debug__":PySem.Str))=false) Mine.au3._auto_1):SoundE X F d (.Call (.Name g fp) [.Name x p,.Name u sp] [] pos) (isStrF i):=by
 refine @SoundT.intro _ _ _ _ _ _ _ _ ?_
 intro A Av Mu env st st' s v Q E hA hf R₀ tk k
 unfold isStrF at hf
 split at hf<;>cases hf
 rename_i y e
 subst hgn hu
 obtain ⟨va,hv,q⟩:=R₀.vars i x _ hi e
 obtain ⟨t,rfl⟩:=q.str_of
 show wpAny _ _ (do callWith pos (←eval (.Name "isinstance" fp) env) [] (backTo pos (starEach [.Name x p,.Name "str" sp] env)) (backToKw pos (keywordEach [] env))) _ _ _
 refine wpAny_bind (wp_bname R₀ hx hg boot_isinstance (callArgs rfl ?_))
 show wpAny _ _ (spliced (backTo pos [(false,eval (.Name x p) env),(false,eval (.Name "str" sp) env)])) _ _ _
 refine Calls.spliced_cons (wpAny_Name (wp_load R₀ hv hn (Calls.spliced_cons (wp_bname R₀ hx2 hg2 boot_str (Calls.spliced_nil ?_)))) hd)
 exact IsiPair.str_str (k _ _ _ _ R₀ StepE.refl (by unfold VR;rfl))
end
noncomputable def dictOf (o:Option Obj):Array DictEntry:=match o with
 | some ⟨_,_,.dict es _,_⟩=>es
 | _=>#[]
noncomputable def keyB (e:DictEntry):Bool:=match e.key with
 | .int i _=>e.hash==hashInt i
 | _=>false
set_option tactic.hygienic true in
theorem keys_of {prog:Program} {w:World} {es:Array DictEntry} (h:es.toList.all keyB=true):KeysOf (intKind prog w) es:=fun e he=>by
 have:=List.all_eq_true.mp h e (Array.mem_toList_iff.mpr he)
 unfold keyB at this
 split at this
 ·rename_i e1
  exact ⟨_,by rw [e1];exact intKind_is _ _ _ _,beq_iff_eq.mp this⟩
 ·cases this
noncomputable def tabB (f:Int→Option Value) (p:Nat×List Nat):Bool:=decide (p.1 < 128)&&(match f p.1 with
 | none=>p.2==[p.1]
 | some (.str s _)=>s.cps.toList==p.2&&p.2.length==2
 | _=>false)
set_option tactic.hygienic true in
theorem tab_of {f:Int→Option Value} (h:escTab.all (tabB f)=true):TabOK f:=fun c y hc=>by
 have hm:(c,y)∈escTab:=by
  obtain ⟨l1,l2,e,_⟩:=List.lookup_eq_some_iff.mp hc
  rw [e]
  exact List.mem_append_right _ List.mem_cons_self
 have:=List.all_eq_true.mp h _ hm
 unfold tabB at this
 obtain ⟨h1,h2⟩:=Bool.and_eq_true_iff.mp this
 refine ⟨of_decide_eq_true h1,?_⟩
 dsimp only at h2
 split at h2
 ·rename_i e1
  refine .inl ⟨e1,?_⟩
  rw [beq_iff_eq.mp h2]
 ·rename_i e1
  obtain ⟨h3,h4⟩:=Bool.and_eq_true_iff.mp h2
  rename_i s t
  obtain rfl:s.cps.toList=y:=beq_iff_eq.mp h3
  exact .inr ⟨⟨t,e1⟩,beq_iff_eq.mp h4⟩
 ·cases h2
end Mine
end
section
open PySem PySem.W PyProof.Rows PySem.Builtin.Str
namespace Mine
noncomputable abbrev FEsc (cd:Value) (ql:Str):FI:=⟨scopeAt P1 12,["pattern"].map PySem.Str.ofString,[],cd,ql⟩
namespace WEsc
noncomputable def escS {X:Cx} {d:Nat} {cd:Value} {ql:Str} (G:Glo X) {D:Addr} {fT:Int→Option Value} (hg:X.mg "_special_chars_map"=some (.ref D)) (hD:(D==sysModules)=false) (hm:X.B.MapOf (intKind X.prog X.w) D fT) (hT:TabOK fT):{ g:EvS // SoundS X (FEsc cd ql) d (bodyAt P1 12) g }:=by
  apply Subtype.mk
  apply s_cons
  exact (x_if (b_plain (s_isstr (i:=0) rfl rfl rfl (by kernel_rfl) (by kernel_rfl) G.isinstance G.str))
   (s_cons (x_ret (s_translate (s_name (i:=0) rfl) (by kernel_rfl) hg hD hm hT)) s_nil)
   ss_skip)
  exact s_nil
end WEsc
noncomputable abbrev FFigures (cd:Value) (ql:Str):FI:=⟨scopeAt P1 21,["total","size","figures","place"].map PySem.Str.ofString,[],cd,ql⟩
namespace WFigures
theorem F_total (cd:Value) (ql:Str):(FFigures cd ql).Wr (PySem.Str.ofString "total"):=⟨(fun h=>nomatch h),.inl (by kernel_rfl)⟩
theorem F_figures (cd:Value) (ql:Str):(FFigures cd ql).Wr (PySem.Str.ofString "figures"):=⟨(fun h=>nomatch h),.inl (by kernel_rfl)⟩
theorem F_place (cd:Value) (ql:Str):(FFigures cd ql).Wr (PySem.Str.ofString "place"):=⟨(fun h=>nomatch h),.inl (by kernel_rfl)⟩
set_option maxHeartbeats 4000000 in
noncomputable def figuresS {X:Cx} {d:Nat} {cd:Value} {ql:Str} (G:Glo X):{ g:EvS // SoundS X (FFigures cd ql) d (bodyAt P1 21) g }:=by
  apply Subtype.mk
  apply s_cons
  exact (x_own (i:=2) es_nil rfl (F_figures cd ql))
  apply s_cons
  exact (x_for (i:=3) (s_callt (es_cons (s_name (i:=1) rfl) es_nil) f_range (by kernel_rfl) G.range boot_range)
 (s_cons (x_append (i:=2) (s_bin (s_bin (s_bin (s_name (i:=0) rfl) s_int) s_int) s_int) rfl (KO.at (by repeat' first | exact ko_getV | exact ko_pure | exact ko_lift | exact ko_ofP | exact ko_nameT | exact ko_capF _ | exact ko_cmpOwn | apply ko_bind | apply ko_ite | intro _)))
 (s_cons (x_assign (i:=0) (s_bin (s_bin (s_name (i:=0) rfl) (s_ofP (p_item_own (j:=2) rfl p_neg))) s_int) rfl (F_total cd ql))
 s_nil)) rfl (F_place cd ql))
  apply s_cons
  exact (x_ret (s_name (i:=2) rfl))
  exact s_nil
end WFigures
noncomputable abbrev FJoin (cd:Value) (ql:Str):FI:=⟨scopeAt P1 15,["inp","STAR","res","add","i","n","fixed"].map PySem.Str.ofString,[],cd,ql⟩
namespace WJoin
theorem F_res (cd:Value) (ql:Str):(FJoin cd ql).Wr (PySem.Str.ofString "res"):=⟨(fun h=>nomatch h),.inl (by kernel_rfl)⟩
theorem F_add (cd:Value) (ql:Str):(FJoin cd ql).Wr (PySem.Str.ofString "add"):=⟨(fun h=>nomatch h),.inl (by kernel_rfl)⟩
theorem F_i (cd:Value) (ql:Str):(FJoin cd ql).Wr (PySem.Str.ofString "i"):=⟨(fun h=>nomatch h),.inl (by kernel_rfl)⟩
theorem F_n (cd:Value) (ql:Str):(FJoin cd ql).Wr (PySem.Str.ofString "n"):=⟨(fun h=>nomatch h),.inl (by kernel_rfl)⟩
theorem F_fixed (cd:Value) (ql:Str):(FJoin cd ql).Wr (PySem.Str.ofString "fixed"):=⟨(fun h=>nomatch h),.inl (by kernel_rfl)⟩
set_option maxHeartbeats 4000000 in
noncomputable def joinS {X:Cx} {d:Nat} {cd:Value} {ql:Str} (G:Glo X):{ g:EvS // SoundS X (FJoin cd ql) d (bodyAt P1 15) g }:=by
  apply Subtype.mk
  apply s_cons
  exact (x_own (i:=2) es_nil rfl (F_res cd ql))
  apply s_cons
  exact (x_meth (i:=3) (j:=2) rfl (F_add cd ql) rfl)
  apply s_cons
  exact (x_tupS (is:=[4,5]) (xs:=["i","n"]) (vs_froz s_int (vs_froz (s_ofP (p_len (i:=0) rfl rfl (by kernel_rfl) G.len)) vs_nil)) rfl (fun x hx=>by simp only [List.mem_cons,List.not_mem_nil,or_false] at hx;rcases hx with rfl | rfl;exact (F_i cd ql);exact (F_n cd ql)) (fun env h=>by obtain ⟨⟩:=env;cases h;kernel_rfl))
  apply s_cons
  exact (x_while 1000 (b_and (b_cmp (s_name (i:=4) rfl) (s_name (i:=5) rfl)) (b_and1 (b_cmp (s_item (s_name (i:=0) rfl) (s_name (i:=4) rfl)) (s_name (i:=1) rfl))))
 (s_cons (x_add (i:=3) (j:=2) (s_item (s_name (i:=0) rfl) (s_name (i:=4) rfl)) rfl (by show 2 < 7;decide))
 (s_cons (x_aug (i:=4) s_int rfl (F_i cd ql))
 s_nil)))
  apply s_cons
  exact (x_while 1000 (b_cmp (s_name (i:=4) rfl) (s_name (i:=5) rfl))
 (s_cons (x_assert (b_cmp (s_item (s_name (i:=0) rfl) (s_name (i:=4) rfl)) (s_name (i:=1) rfl)))
 (s_cons (x_aug (i:=4) s_int rfl (F_i cd ql))
 (s_cons (x_if (b_cmp (s_name (i:=4) rfl) (s_name (i:=5) rfl))
 (s_cons (x_add (i:=3) (j:=2) s_str rfl (by show 2 < 7;decide))
 (s_cons x_break
 s_nil))
 s_nil)
 (s_cons (x_assert (b_cmp (s_item (s_name (i:=0) rfl) (s_name (i:=4) rfl)) (s_name (i:=1) rfl)))
 (s_cons (x_own (i:=6) es_nil rfl (F_fixed cd ql))
 (s_cons (x_while 1000 (b_and (b_cmp (s_name (i:=4) rfl) (s_name (i:=5) rfl)) (b_and1 (b_cmp (s_item (s_name (i:=0) rfl) (s_name (i:=4) rfl)) (s_name (i:=1) rfl))))
 (s_cons (x_append (i:=6) (s_item (s_name (i:=0) rfl) (s_name (i:=4) rfl)) rfl (KO.at (by repeat' first | exact ko_getV | exact ko_pure | exact ko_lift | exact ko_ofP | exact ko_nameT | exact ko_capF _ | exact ko_cmpOwn | apply ko_bind | apply ko_ite | intro _)))
 (s_cons (x_aug (i:=4) s_int rfl (F_i cd ql))
 s_nil)))
 (s_cons (x_assign (i:=6) (s_meth s_str (es_cons (s_name (i:=6) rfl) es_nil) m_join) rfl (F_fixed cd ql))
 (s_cons (x_if (b_cmp (s_name (i:=4) rfl) (s_name (i:=5) rfl))
 (s_cons (x_add (i:=3) (j:=2) s_str rfl (by show 2 < 7;decide))
 (s_cons (x_add (i:=3) (j:=2) (s_name (i:=6) rfl) rfl (by show 2 < 7;decide))
 s_nil))
 (s_cons (x_add (i:=3) (j:=2) (s_fstr (j_cons s_str (j_cons (s_fval (s_name (i:=6) rfl)) (j_cons s_str j_nil)))) rfl (by show 2 < 7;decide))
 s_nil))
 s_nil)))))))))
  apply s_cons
  exact (x_assert (b_cmp (s_name (i:=4) rfl) (s_name (i:=5) rfl)))
  apply s_cons
  exact (x_assign (i:=2) (s_meth s_str (es_cons (s_name (i:=2) rfl) es_nil) m_join) rfl (F_res cd ql))
  apply s_cons
  exact (x_ret (s_fstr (j_cons s_str (j_cons (s_fval (s_name (i:=2) rfl)) (j_cons s_str j_nil)))))
  exact s_nil
end WJoin
noncomputable abbrev FTakes (cd:Value) (ql:Str):FI:=⟨scopeAt P1 23,["rows","name","at","k","last","places","fits"].map PySem.Str.ofString,[],cd,ql⟩
namespace WTakes
theorem F_at (cd:Value) (ql:Str):(FTakes cd ql).Wr (PySem.Str.ofString "at"):=⟨(fun h=>nomatch h),.inl (by kernel_rfl)⟩
theorem F_k (cd:Value) (ql:Str):(FTakes cd ql).Wr (PySem.Str.ofString "k"):=⟨(fun h=>nomatch h),.inr (by kernel_rfl)⟩
theorem F_last (cd:Value) (ql:Str):(FTakes cd ql).Wr (PySem.Str.ofString "last"):=⟨(fun h=>nomatch h),.inr (by kernel_rfl)⟩
theorem F_places (cd:Value) (ql:Str):(FTakes cd ql).Wr (PySem.Str.ofString "places"):=⟨(fun h=>nomatch h),.inl (by kernel_rfl)⟩
theorem F_fits (cd:Value) (ql:Str):(FTakes cd ql).Wr (PySem.Str.ofString "fits"):=⟨(fun h=>nomatch h),.inl (by kernel_rfl)⟩
set_option maxHeartbeats 4000000 in
noncomputable def takesS {X:Cx} {d:Nat} {cd:Value} {ql:Str} (G:Glo X):{ g:EvS // SoundS X (FTakes cd ql) d (bodyAt P1 23) g }:=by
  apply Subtype.mk
  apply s_cons
  exact (x_assign (i:=2) s_int rfl (F_at cd ql))
  apply s_cons
  exact (x_for (i:=3) (s_callt (es_cons (s_ofP (p_len (i:=0) rfl rfl (by kernel_rfl) G.len)) es_nil) f_range (by kernel_rfl) G.range boot_range)
 (s_cons (x_assign (i:=4) (s_bin (s_ofP (p_len (i:=1) rfl rfl (by kernel_rfl) G.len)) (s_callb (es_cons (s_item (s_name (i:=0) rfl) (s_name (i:=3) rfl)) es_nil) f_len (by kernel_rfl) G.len boot_len)) rfl (F_last cd ql))
 (s_cons (x_comp (j:=5) (own:=["place"]) (caps:=["k"]) (is:=[3]) (i:=0) (compOK_of (by kernel_rfl)) rfl rfl (s_callt (es_cons (s_name (i:=2) rfl) (es_cons (s_bin (s_name (i:=4) rfl) s_int) es_nil)) f_range (by kernel_rfl) G.range boot_range) (ifs_one (b_or (b_cmp (s_name (i:=1) rfl) s_int) (b_or1 (b_cmp (s_name (i:=0) rfl) s_int)))) (s_name (i:=0) rfl) rfl (F_places cd ql) (fun env h=>by obtain ⟨⟩:=env;cases h;kernel_rfl))
 (s_cons (x_if (b_cmp (s_name (i:=3) rfl) (s_bin (s_ofP (p_len (i:=0) rfl rfl (by kernel_rfl) G.len)) s_int))
 (s_cons (x_comp (j:=5) (own:=["place"]) (caps:=["last"]) (is:=[4]) (i:=0) (compOK_of (by kernel_rfl)) rfl rfl (s_name (i:=5) rfl) (ifs_one (b_cmp (s_name (i:=0) rfl) (s_name (i:=1) rfl))) (s_name (i:=0) rfl) rfl (F_places cd ql) (fun env h=>by obtain ⟨⟩:=env;cases h;kernel_rfl))
 s_nil)
 s_nil)
 (s_cons (x_comp (j:=6) (own:=["p"]) (caps:=["k","name","rows"]) (is:=[3,1,0]) (i:=0) (compOK_of (by kernel_rfl)) rfl rfl (s_name (i:=5) rfl) (ifs_one (b_cmp (s_comp (own:=["j"]) (caps:=["k","name","p","rows"]) (is:=[1,2,0,3]) (i:=0) (compOK_of (by kernel_rfl)) rfl rfl (s_callt (es_cons (s_callb (es_cons (s_item (s_name (i:=3) rfl) (s_name (i:=1) rfl)) es_nil) f_len (by kernel_rfl) G.len boot_len) es_nil) f_range (by kernel_rfl) G.range boot_range) (ifs_one (b_cmp (s_item (s_name (i:=2) rfl) (s_bin (s_name (i:=3) rfl) (s_name (i:=0) rfl))) (s_item (s_item (s_name (i:=4) rfl) (s_name (i:=1) rfl)) (s_name (i:=0) rfl)))) (s_name (i:=0) rfl)) (s_list es_nil))) (s_name (i:=0) rfl) rfl (F_fits cd ql) (fun env h=>by obtain ⟨⟩:=env;cases h;kernel_rfl))
 (s_cons (x_if (b_cmp (s_name (i:=6) rfl) (s_list es_nil))
 (s_cons (x_ret s_true)
 s_nil)
 s_nil)
 (s_cons (x_assign (i:=2) (s_bin (s_item (s_name (i:=6) rfl) s_int) (s_callb (es_cons (s_item (s_name (i:=0) rfl) (s_name (i:=3) rfl)) es_nil) f_len (by kernel_rfl) G.len boot_len)) rfl (F_at cd ql))
 s_nil)))))) rfl (F_k cd ql))
  apply s_cons
  exact (x_ret s_true)
  exact s_nil
end WTakes
noncomputable abbrev FLying (cd:Value) (ql:Str):FI:=⟨scopeAt P1 22,["row","name","figures","place","below","told"].map PySem.Str.ofString,[],cd,ql⟩
namespace WLying
theorem F_figures (cd:Value) (ql:Str):(FLying cd ql).Wr (PySem.Str.ofString "figures"):=⟨(fun h=>nomatch h),.inl (by kernel_rfl)⟩
theorem F_place (cd:Value) (ql:Str):(FLying cd ql).Wr (PySem.Str.ofString "place"):=⟨(fun h=>nomatch h),.inr (by kernel_rfl)⟩
theorem F_below (cd:Value) (ql:Str):(FLying cd ql).Wr (PySem.Str.ofString "below"):=⟨(fun h=>nomatch h),.inr (by kernel_rfl)⟩
theorem F_told (cd:Value) (ql:Str):(FLying cd ql).Wr (PySem.Str.ofString "told"):=⟨(fun h=>nomatch h),.inl (by kernel_rfl)⟩
set_option maxHeartbeats 4000000 in
noncomputable def lyingS {X:Cx} {d:Nat} {cd:Value} {ql:Str} (G:Glo X):{ g:EvS // SoundS X (FLying cd ql) d (bodyAt P1 22) g }:=by
  apply Subtype.mk
  apply s_cons
  exact (x_own (i:=2) es_nil rfl (F_figures cd ql))
  apply s_cons
  exact (x_for (i:=3) (s_callt (es_cons (s_bin (s_ofP (p_len (i:=1) rfl rfl (by kernel_rfl) G.len)) (s_ofP (p_len (i:=0) rfl rfl (by kernel_rfl) G.len))) es_nil) f_range (by kernel_rfl) G.range boot_range)
 (s_cons (x_assign' (i:=4) (s_comp (own:=["j"]) (caps:=["place","row"]) (is:=[3,0]) (i:=0) (compOK_of (by kernel_rfl)) rfl rfl (s_callt (es_cons (s_ofP (p_len (i:=0) rfl rfl (by kernel_rfl) G.len)) es_nil) f_range (by kernel_rfl) G.range boot_range) ifs_nil (s_bin (s_bin (s_bin (s_name (i:=1) rfl) s_int) (s_ofP (p_len (i:=2) rfl rfl (by kernel_rfl) G.len))) (s_name (i:=0) rfl))) rfl (F_below cd ql) (fun env h=>by obtain ⟨⟩:=env;cases h;kernel_rfl))
 (s_cons (x_comp (j:=5) (own:=["j"]) (caps:=["below","name","row"]) (is:=[4,1,0]) (i:=0) (compOK_of (by kernel_rfl)) rfl rfl (s_callt (es_cons (s_ofP (p_len (i:=0) rfl rfl (by kernel_rfl) G.len)) es_nil) f_range (by kernel_rfl) G.range boot_range) (ifs_one (b_cmp2 s_int (s_item (s_name (i:=1) rfl) (s_name (i:=0) rfl)) (s_ofP (p_len (i:=2) rfl rfl (by kernel_rfl) G.len)))) (s_cmp (s_item (s_name (i:=2) rfl) (s_item (s_name (i:=1) rfl) (s_name (i:=0) rfl))) (s_item (s_name (i:=3) rfl) (s_name (i:=0) rfl))) rfl (F_told cd ql) (fun env h=>by obtain ⟨⟩:=env;cases h;kernel_rfl))
 (s_cons (x_append (i:=2) (s_callb (es_cons (s_comp (own:=["yes"]) (caps:=[]) (is:=[]) (i:=0) (compOK_of (by kernel_rfl)) rfl rfl (s_name (i:=5) rfl) ifs_nil (s_ifexp (b_name (i:=0) rfl) s_int (s_ofP p_neg))) es_nil) f_sum (by kernel_rfl) G.sum boot_sum) rfl (KO.at (by repeat' first | exact ko_getV | exact ko_pure | exact ko_lift | exact ko_ofP | exact ko_nameT | exact ko_capF _ | exact ko_cmpOwn | apply ko_bind | apply ko_ite | intro _)))
 s_nil))) rfl (F_place cd ql))
  apply s_cons
  exact (x_ret (s_name (i:=2) rfl))
  exact s_nil
end WLying
noncomputable abbrev FNumber (cd:Value) (ql:Str):FI:=⟨scopeAt P1 17,["figures","over","figure","_law_read","stream","at","octets"].map PySem.Str.ofString,[],cd,ql⟩
namespace WNumber
theorem F_over (cd:Value) (ql:Str):(FNumber cd ql).Wr (PySem.Str.ofString "over"):=⟨(fun h=>nomatch h),.inl (by kernel_rfl)⟩
theorem F_figure (cd:Value) (ql:Str):(FNumber cd ql).Wr (PySem.Str.ofString "figure"):=⟨(fun h=>nomatch h),.inl (by kernel_rfl)⟩
theorem F_law_read (cd:Value) (ql:Str):(FNumber cd ql).Wr (PySem.Str.ofString "_law_read"):=⟨(fun h=>nomatch h),.inl (by kernel_rfl)⟩
theorem F_stream (cd:Value) (ql:Str):(FNumber cd ql).Wr (PySem.Str.ofString "stream"):=⟨(fun h=>nomatch h),.inl (by kernel_rfl)⟩
theorem F_at (cd:Value) (ql:Str):(FNumber cd ql).Wr (PySem.Str.ofString "at"):=⟨(fun h=>nomatch h),.inr (by kernel_rfl)⟩
theorem F_octets (cd:Value) (ql:Str):(FNumber cd ql).Wr (PySem.Str.ofString "octets"):=⟨(fun h=>nomatch h),.inr (by kernel_rfl)⟩
set_option maxHeartbeats 4000000 in
noncomputable def numberS {X:Cx} {d:Nat} {cd:Value} {ql:Str} (G:Glo X) {c T fL fU fD:Addr} (okN:LongOK X fL fU fD) (okD:MakeOK X (FNumber cd ql) c T ⟨130,4,132,48⟩ "_law_read") (okL:MakeOK X (FNumber cd ql) c T ⟨133,13,133,25⟩ "<lambda>") (hgL:X.mg (PySem.Str.ofString "read_long1")=some (.ref fL)):{ g:EvS // SoundS X (FNumber cd ql) d (bodyAt P1 17) g }:=by
  apply Subtype.mk
  apply s_cons
  exact (x_tup (is:=[6,1]) (xs:=["octets","over"]) (vs_own (es_cons (s_ofP (p_len (i:=0) rfl rfl (by kernel_rfl) G.len)) es_nil) (vs_froz s_int vs_nil)) rfl (fun x hx=>by simp only [List.mem_cons,List.not_mem_nil,or_false] at hx;rcases hx with rfl | rfl;exact (F_octets cd ql);exact (F_over cd ql)) (fun env=>(.cons (fun h=>wpAny_assign_Name h) (.cons (fun h=>wpAny_assign_Name h) .nil))) (fun _=>rfl) (fun _=>by rfl) (fun env h=>by obtain ⟨⟩:=env;cases h;kernel_rfl))
  apply s_cons
  exact (x_for (i:=2) (s_name (i:=0) rfl)
 (s_cons (x_append (i:=6) (s_bin (s_bin (s_name (i:=2) rfl) (s_name (i:=1) rfl)) s_int) rfl (KO.at (by repeat' first | exact ko_getV | exact ko_pure | exact ko_lift | exact ko_ofP | exact ko_nameT | exact ko_capF _ | exact ko_cmpOwn | apply ko_bind | apply ko_ite | intro _)))
 (s_cons (x_assign (i:=1) (s_bin (s_bin (s_name (i:=2) rfl) (s_name (i:=1) rfl)) s_int) rfl (F_over cd ql))
 s_nil)) rfl (F_figure cd ql))
  apply s_cons
  exact (x_own (i:=5) (es_cons s_int es_nil) rfl (F_at cd ql))
  exact x_numtail (Z:=⟨_,_,_,_,_,_,_,_,_,_,_,_,_,_,_,_,_,_,_,_⟩) (C:=⟨_,_,_,_,_,_,_,_,_,_,_,_,_⟩) (iRd:=3) (iSt:=4) (iAt:=5) (iOc:=6) okN okD okL hgL (by kernel_rfl) rfl rfl rfl rfl (F_law_read cd ql) (F_stream cd ql) (by rw [show List.lookup (PySem.Str.ofString "_law_read") (FNumber cd ql).scope.names=some .local by kernel_rfl];decide) (by kernel_rfl) (by kernel_rfl) (by decide) ⟨(fun h=>nomatch h),(fun h=>nomatch h)⟩ (by decide+kernel) (by decide+kernel) (by decide+kernel)
end WNumber
noncomputable abbrev FPiece (cd:Value) (ql:Str):FI:=⟨scopeAt P1 18,["item","signs","dress","barred","told","front","strewn","middle"].map PySem.Str.ofString,[],cd,ql⟩
namespace WPiece
theorem F_barred (cd:Value) (ql:Str):(FPiece cd ql).Wr (PySem.Str.ofString "barred"):=⟨(fun h=>nomatch h),.inr (by kernel_rfl)⟩
theorem F_told (cd:Value) (ql:Str):(FPiece cd ql).Wr (PySem.Str.ofString "told"):=⟨(fun h=>nomatch h),.inl (by kernel_rfl)⟩
theorem F_front (cd:Value) (ql:Str):(FPiece cd ql).Wr (PySem.Str.ofString "front"):=⟨(fun h=>nomatch h),.inl (by kernel_rfl)⟩
theorem F_strewn (cd:Value) (ql:Str):(FPiece cd ql).Wr (PySem.Str.ofString "strewn"):=⟨(fun h=>nomatch h),.inl (by kernel_rfl)⟩
theorem F_middle (cd:Value) (ql:Str):(FPiece cd ql).Wr (PySem.Str.ofString "middle"):=⟨(fun h=>nomatch h),.inl (by kernel_rfl)⟩
set_option maxHeartbeats 4000000 in
noncomputable def pieceS {X:Cx} {d:Nat} {cd:Value} {ql:Str} (G:Glo X):{ g:EvS // SoundS X (FPiece cd ql) d (bodyAt P1 18) g }:=by
  apply Subtype.mk
  apply s_cons
  exact (x_if (b_and (b_cmp (s_name (i:=2) rfl) s_int) (b_and1 (b_cmp (s_name (i:=0) rfl) (s_name (i:=1) rfl))))
 (s_cons (x_ret s_str)
 s_nil)
 s_nil)
  apply s_cons
  exact (x_if (b_and (b_cmp (s_name (i:=2) rfl) s_int) (b_and (b_cmp (s_ofP (p_len (i:=0) rfl rfl (by kernel_rfl) G.len)) s_int) (b_and1 (b_cmp (s_name (i:=0) rfl) s_str))))
 (s_cons (x_ret (s_name (i:=0) rfl))
 s_nil)
 s_nil)
  apply s_cons
  exact (x_assign (i:=3) (s_cmp (s_bin (s_name (i:=2) rfl) s_int) s_int) rfl (F_barred cd ql))
  apply s_cons
  exact (x_assign (i:=4) (s_meth s_str (es_cons (s_comp (own:=["sign"]) (caps:=["barred","item"]) (is:=[3,0]) (i:=0) (compOK_of (by kernel_rfl)) rfl rfl (s_name (i:=1) rfl) (ifs_one (b_cmp (s_cmp (s_name (i:=0) rfl) (s_name (i:=2) rfl)) (s_name (i:=1) rfl))) (s_name (i:=0) rfl)) es_nil) m_join) rfl (F_told cd ql))
  apply s_cons
  exact (x_assign (i:=5) (s_bin (s_ifexp (b_name (i:=3) rfl) s_str s_str) (s_ifexp (b_cmp s_str (s_name (i:=4) rfl)) s_str s_str)) rfl (F_front cd ql))
  apply s_cons
  exact (x_assign (i:=6) (s_ifexp (b_or (b_cmp (s_name (i:=2) rfl) s_int) (b_or1 (b_cmp (s_name (i:=4) rfl) s_str))) s_str s_str) rfl (F_strewn cd ql))
  apply s_cons
  exact (x_assign (i:=7) (s_meth s_str (es_cons (s_comp (own:=["sign"]) (caps:=[]) (is:=[]) (i:=0) (compOK_of (by kernel_rfl)) rfl rfl (s_name (i:=4) rfl) (ifs_one (b_cmp (s_name (i:=0) rfl) s_str)) (s_name (i:=0) rfl)) es_nil) m_join) rfl (F_middle cd ql))
  apply s_cons
  exact (x_ret (s_bin (s_bin (s_bin (s_bin (s_bin s_str (s_name (i:=5) rfl)) (s_name (i:=6) rfl)) (s_name (i:=7) rfl)) (s_ifexp (b_cmp s_str (s_name (i:=4) rfl)) s_str s_str)) s_str))
  exact s_nil
end WPiece
noncomputable abbrev FRows (cd:Value) (ql:Str):FI:=⟨scopeAt P1 20,["text","signs","rows","held","last","written"].map PySem.Str.ofString,[],cd,ql⟩
namespace WRows
theorem F_rows (cd:Value) (ql:Str):(FRows cd ql).Wr (PySem.Str.ofString "rows"):=⟨(fun h=>nomatch h),.inl (by kernel_rfl)⟩
theorem F_held (cd:Value) (ql:Str):(FRows cd ql).Wr (PySem.Str.ofString "held"):=⟨(fun h=>nomatch h),.inl (by kernel_rfl)⟩
theorem F_last (cd:Value) (ql:Str):(FRows cd ql).Wr (PySem.Str.ofString "last"):=⟨(fun h=>nomatch h),.inl (by kernel_rfl)⟩
theorem F_written (cd:Value) (ql:Str):(FRows cd ql).Wr (PySem.Str.ofString "written"):=⟨(fun h=>nomatch h),.inl (by kernel_rfl)⟩
set_option maxHeartbeats 4000000 in
noncomputable def rowsS {X:Cx} {d:Nat} {cd:Value} {ql:Str} (G:Glo X) {fSets:Addr} {mSets:List PV→Option PV} (hSets:CallW X d fSets mSets) (gSets:X.mg "_law_sets"=some (.ref fSets)) (oSets:∃o fd,X.B.get? fSets=some o∧o.data=.func fd):{ g:EvS // SoundS X (FRows cd ql) d (bodyAt P1 20) g }:=by
  apply Subtype.mk
  apply s_cons
  exact (x_assign (i:=2) (s_meth (s_slice (s_name (i:=0) rfl) (pt_some s_int) (pt_some (s_ofP p_neg)) pt_none) (es_cons s_str es_nil) m_split) rfl (F_rows cd ql))
  apply s_cons
  exact (x_assign (i:=2) (s_cat (s_slice (s_name (i:=2) rfl) pt_none (pt_some (s_ofP p_neg)) pt_none) (s_meth (s_item (s_name (i:=2) rfl) (s_ofP p_neg)) (es_cons s_str es_nil) m_split)) rfl (F_rows cd ql))
  apply s_cons
  exact (x_comp (j:=3) (own:=["row"]) (caps:=[]) (is:=[]) (i:=0) (compOK_of (by kernel_rfl)) rfl rfl (s_slice (s_name (i:=2) rfl) (pt_some s_int) (pt_some (s_ofP p_neg)) pt_none) ifs_nil (s_slice (s_name (i:=0) rfl) pt_none (pt_some (s_ofP p_neg)) pt_none) rfl (F_held cd ql) (fun env h=>by obtain ⟨⟩:=env;cases h;kernel_rfl))
  apply s_cons
  exact (x_assign (i:=4) (s_slice (s_slice (s_name (i:=2) rfl) (pt_some s_int) pt_none pt_none) (pt_some (s_ofP p_neg)) pt_none pt_none) rfl (F_last cd ql))
  apply s_cons
  exact (x_assign (i:=5) (s_bin (s_bin (s_item (s_name (i:=2) rfl) s_int) (s_meth s_str (es_cons (s_comp (own:=["row"]) (caps:=[]) (is:=[]) (i:=0) (compOK_of (by kernel_rfl)) rfl rfl (s_name (i:=3) rfl) ifs_nil (s_bin (s_bin s_str (s_name (i:=0) rfl)) s_str)) es_nil) m_join)) (s_meth s_str (es_cons (s_comp (own:=["row"]) (caps:=[]) (is:=[]) (i:=0) (compOK_of (by kernel_rfl)) rfl rfl (s_name (i:=4) rfl) ifs_nil (s_bin s_str (s_name (i:=0) rfl))) es_nil) m_join)) rfl (F_written cd ql))
  apply s_cons
  exact (x_if (b_cmp (s_name (i:=0) rfl) (s_bin (s_bin s_str (s_name (i:=5) rfl)) s_str))
 (s_cons (x_ret (s_list es_nil))
 s_nil)
 s_nil)
  apply s_cons
  exact (x_ret (s_comp (own:=["row"]) (caps:=["signs"]) (is:=[1]) (i:=0) (compOK_of (by kernel_rfl)) rfl rfl (s_cat (s_cat (s_slice (s_name (i:=2) rfl) pt_none (pt_some s_int) pt_none) (s_name (i:=3) rfl)) (s_name (i:=4) rfl)) ifs_nil (s_call (es_cons (s_name (i:=0) rfl) (es_cons (s_name (i:=1) rfl) es_nil)) hSets (by kernel_rfl) gSets oSets)))
  exact s_nil
end WRows
noncomputable abbrev FSets (cd:Value) (ql:Str):FI:=⟨scopeAt P1 19,["row","signs","sets","k","barred","told"].map PySem.Str.ofString,[],cd,ql⟩
namespace WSets
theorem F_sets (cd:Value) (ql:Str):(FSets cd ql).Wr (PySem.Str.ofString "sets"):=⟨(fun h=>nomatch h),.inl (by kernel_rfl)⟩
theorem F_k (cd:Value) (ql:Str):(FSets cd ql).Wr (PySem.Str.ofString "k"):=⟨(fun h=>nomatch h),.inl (by kernel_rfl)⟩
theorem F_barred (cd:Value) (ql:Str):(FSets cd ql).Wr (PySem.Str.ofString "barred"):=⟨(fun h=>nomatch h),.inr (by kernel_rfl)⟩
theorem F_told (cd:Value) (ql:Str):(FSets cd ql).Wr (PySem.Str.ofString "told"):=⟨(fun h=>nomatch h),.inr (by kernel_rfl)⟩
set_option maxHeartbeats 4000000 in
noncomputable def setsS {X:Cx} {d:Nat} {cd:Value} {ql:Str} (G:Glo X):{ g:EvS // SoundS X (FSets cd ql) d (bodyAt P1 19) g }:=by
  apply Subtype.mk
  apply s_cons
  exact (x_tupS (is:=[2,3]) (xs:=["sets","k"]) (vs_own es_nil (vs_froz s_int vs_nil)) rfl (fun x hx=>by simp only [List.mem_cons,List.not_mem_nil,or_false] at hx;rcases hx with rfl | rfl;exact (F_sets cd ql);exact (F_k cd ql)) (fun env h=>by obtain ⟨⟩:=env;cases h;kernel_rfl))
  apply s_cons
  exact (x_while 1000 (b_cmp (s_name (i:=3) rfl) (s_ofP (p_len (i:=0) rfl rfl (by kernel_rfl) G.len)))
 (s_cons (x_if (b_cmp (s_item (s_name (i:=0) rfl) (s_name (i:=3) rfl)) s_str)
 (s_cons (x_append (i:=2) (s_name (i:=1) rfl) rfl (KO.at (by repeat' first | exact ko_getV | exact ko_pure | exact ko_lift | exact ko_ofP | exact ko_nameT | exact ko_capF _ | exact ko_cmpOwn | apply ko_bind | apply ko_ite | intro _)))
 s_nil)
 (s_cons (x_if (b_cmp (s_slice (s_name (i:=0) rfl) (pt_some (s_name (i:=3) rfl)) (pt_some (s_bin (s_name (i:=3) rfl) s_int)) pt_none) s_str)
 (s_cons (x_append (i:=2) s_str rfl (KO.at (by repeat' first | exact ko_getV | exact ko_pure | exact ko_lift | exact ko_ofP | exact ko_nameT | exact ko_capF _ | exact ko_cmpOwn | apply ko_bind | apply ko_ite | intro _)))
 (s_cons (x_aug (i:=3) s_int rfl (F_k cd ql))
 s_nil))
 (s_cons (x_if (b_cmp (s_item (s_name (i:=0) rfl) (s_name (i:=3) rfl)) s_str)
 (s_cons (x_assign (i:=4) (s_cmp (s_item (s_name (i:=0) rfl) (s_bin (s_name (i:=3) rfl) s_int)) s_str) rfl (F_barred cd ql))
 (s_cons (x_aug (i:=3) (s_ifexp (b_name (i:=4) rfl) s_int s_int) rfl (F_k cd ql))
 (s_cons (x_assign (i:=5) s_str rfl (F_told cd ql))
 (s_cons (x_while 1000 (b_or (b_cmp (s_name (i:=5) rfl) s_str) (b_or1 (b_cmp (s_item (s_name (i:=0) rfl) (s_name (i:=3) rfl)) s_str)))
 (s_cons (x_aug (i:=3) (s_ifexp (b_cmp (s_item (s_name (i:=0) rfl) (s_name (i:=3) rfl)) s_str) s_int s_int) rfl (F_k cd ql))
 (s_cons (x_aug (i:=5) (s_item (s_name (i:=0) rfl) (s_name (i:=3) rfl)) rfl (F_told cd ql))
 (s_cons (x_aug (i:=3) s_int rfl (F_k cd ql))
 s_nil))))
 (s_cons (x_append (i:=2) (s_meth s_str (es_cons (s_comp (own:=["sign"]) (caps:=["barred","told"]) (is:=[4,5]) (i:=0) (compOK_of (by kernel_rfl)) rfl rfl (s_name (i:=1) rfl) (ifs_one (b_cmp (s_cmp (s_name (i:=0) rfl) (s_name (i:=2) rfl)) (s_name (i:=1) rfl))) (s_name (i:=0) rfl)) es_nil) m_join) rfl (KO.at (by repeat' first | exact ko_getV | exact ko_pure | exact ko_lift | exact ko_ofP | exact ko_nameT | exact ko_capF _ | exact ko_cmpOwn | apply ko_bind | apply ko_ite | intro _)))
 s_nil)))))
 (s_cons (x_aug (i:=3) (s_ifexp (b_cmp (s_item (s_name (i:=0) rfl) (s_name (i:=3) rfl)) s_str) s_int s_int) rfl (F_k cd ql))
 (s_cons (x_append (i:=2) (s_item (s_name (i:=0) rfl) (s_name (i:=3) rfl)) rfl (KO.at (by repeat' first | exact ko_getV | exact ko_pure | exact ko_lift | exact ko_ofP | exact ko_nameT | exact ko_capF _ | exact ko_cmpOwn | apply ko_bind | apply ko_ite | intro _)))
 s_nil)))
 s_nil))
 s_nil))
 (s_cons (x_aug (i:=3) s_int rfl (F_k cd ql))
 s_nil)))
  apply s_cons
  exact (x_ret (s_name (i:=2) rfl))
  exact s_nil
end WSets
noncomputable abbrev FTrans (cd:Value) (ql:Str):FI:=⟨scopeAt P1 14,["pat","STAR","QUESTION_MARK","res","add","i","n","c","j","stuff","chunks","k","chunk"].map PySem.Str.ofString,[],cd,ql⟩
namespace WTrans
theorem F_res (cd:Value) (ql:Str):(FTrans cd ql).Wr (PySem.Str.ofString "res"):=⟨(fun h=>nomatch h),.inl (by kernel_rfl)⟩
theorem F_add (cd:Value) (ql:Str):(FTrans cd ql).Wr (PySem.Str.ofString "add"):=⟨(fun h=>nomatch h),.inl (by kernel_rfl)⟩
theorem F_i (cd:Value) (ql:Str):(FTrans cd ql).Wr (PySem.Str.ofString "i"):=⟨(fun h=>nomatch h),.inl (by kernel_rfl)⟩
theorem F_n (cd:Value) (ql:Str):(FTrans cd ql).Wr (PySem.Str.ofString "n"):=⟨(fun h=>nomatch h),.inl (by kernel_rfl)⟩
theorem F_c (cd:Value) (ql:Str):(FTrans cd ql).Wr (PySem.Str.ofString "c"):=⟨(fun h=>nomatch h),.inl (by kernel_rfl)⟩
theorem F_j (cd:Value) (ql:Str):(FTrans cd ql).Wr (PySem.Str.ofString "j"):=⟨(fun h=>nomatch h),.inl (by kernel_rfl)⟩
theorem F_stuff (cd:Value) (ql:Str):(FTrans cd ql).Wr (PySem.Str.ofString "stuff"):=⟨(fun h=>nomatch h),.inl (by kernel_rfl)⟩
theorem F_chunks (cd:Value) (ql:Str):(FTrans cd ql).Wr (PySem.Str.ofString "chunks"):=⟨(fun h=>nomatch h),.inl (by kernel_rfl)⟩
theorem F_k (cd:Value) (ql:Str):(FTrans cd ql).Wr (PySem.Str.ofString "k"):=⟨(fun h=>nomatch h),.inl (by kernel_rfl)⟩
theorem F_chunk (cd:Value) (ql:Str):(FTrans cd ql).Wr (PySem.Str.ofString "chunk"):=⟨(fun h=>nomatch h),.inl (by kernel_rfl)⟩
set_option maxHeartbeats 4000000 in
noncomputable def transS {X:Cx} {d:Nat} {cd:Value} {ql:Str} (G:Glo X) {fEscape:Addr} {mEscape:List PV→Option PV} (hEscape:CallW X d fEscape mEscape) (gEscape:X.mg "escape"=some (.ref fEscape)) (oEscape:∃o fd,X.B.get? fEscape=some o∧o.data=.func fd) {c T P cA:Addr} {fs items:Array Value} (okS:MakeOK X (FTrans cd ql) c T ⟨79,39,79,76⟩ "<lambda>") (okG:MakeOK X (FTrans cd ql) c T ⟨78,37,78,98⟩ "<genexpr>") (hTw:X.mg "_twin_re_1"=some (.ref P)) (hPat:PatAt X.B P fs cA items):{ g:EvS // SoundS X (FTrans cd ql) d (bodyAt P1 14) g }:=by
  apply Subtype.mk
  apply s_cons
  exact (x_own (i:=3) es_nil rfl (F_res cd ql))
  apply s_cons
  exact (x_meth (i:=4) (j:=3) rfl (F_add cd ql) rfl)
  apply s_cons
  exact (x_tupS (is:=[5,6]) (xs:=["i","n"]) (vs_froz s_int (vs_froz (s_ofP (p_len (i:=0) rfl rfl (by kernel_rfl) G.len)) vs_nil)) rfl (fun x hx=>by simp only [List.mem_cons,List.not_mem_nil,or_false] at hx;rcases hx with rfl | rfl;exact (F_i cd ql);exact (F_n cd ql)) (fun env h=>by obtain ⟨⟩:=env;cases h;kernel_rfl))
  apply s_cons
  exact (x_while 1000 (b_cmp (s_name (i:=5) rfl) (s_name (i:=6) rfl))
 (s_cons (x_assign (i:=7) (s_item (s_name (i:=0) rfl) (s_name (i:=5) rfl)) rfl (F_c cd ql))
 (s_cons (x_assign (i:=5) (s_bin (s_name (i:=5) rfl) s_int) rfl (F_i cd ql))
 (s_cons (x_if (b_cmp (s_name (i:=7) rfl) s_str)
 (s_cons (x_if (b_or (b_not (b_name (i:=3) rfl)) (b_or1 (b_cmp (s_ofP (p_item_own (j:=3) rfl p_neg)) (s_name (i:=1) rfl))))
 (s_cons (x_add (i:=4) (j:=3) (s_name (i:=1) rfl) rfl (by show 3 < 13;decide))
 s_nil)
 s_nil)
 s_nil)
 (s_cons (x_if (b_cmp (s_name (i:=7) rfl) s_str)
 (s_cons (x_add (i:=4) (j:=3) (s_name (i:=2) rfl) rfl (by show 3 < 13;decide))
 s_nil)
 (s_cons (x_if (b_cmp (s_name (i:=7) rfl) s_str)
 (s_cons (x_assign (i:=8) (s_name (i:=5) rfl) rfl (F_j cd ql))
 (s_cons (x_if (b_and (b_cmp (s_name (i:=8) rfl) (s_name (i:=6) rfl)) (b_and1 (b_cmp (s_item (s_name (i:=0) rfl) (s_name (i:=8) rfl)) s_str)))
 (s_cons (x_assign (i:=8) (s_bin (s_name (i:=8) rfl) s_int) rfl (F_j cd ql))
 s_nil)
 s_nil)
 (s_cons (x_if (b_and (b_cmp (s_name (i:=8) rfl) (s_name (i:=6) rfl)) (b_and1 (b_cmp (s_item (s_name (i:=0) rfl) (s_name (i:=8) rfl)) s_str)))
 (s_cons (x_assign (i:=8) (s_bin (s_name (i:=8) rfl) s_int) rfl (F_j cd ql))
 s_nil)
 s_nil)
 (s_cons (x_while 1000 (b_and (b_cmp (s_name (i:=8) rfl) (s_name (i:=6) rfl)) (b_and1 (b_cmp (s_item (s_name (i:=0) rfl) (s_name (i:=8) rfl)) s_str)))
 (s_cons (x_assign (i:=8) (s_bin (s_name (i:=8) rfl) s_int) rfl (F_j cd ql))
 s_nil))
 (s_cons (x_if (b_cmp (s_name (i:=8) rfl) (s_name (i:=6) rfl))
 ss_skip
 (s_cons (x_assign (i:=9) (s_slice (s_name (i:=0) rfl) (pt_some (s_name (i:=5) rfl)) (pt_some (s_name (i:=8) rfl)) pt_none) rfl (F_stuff cd ql))
 (s_cons (x_if (b_cmp s_str (s_name (i:=9) rfl))
 (s_cons (x_assign (i:=9) (s_replace (s_name (i:=9) rfl) (by intro _;rfl) (by rfl)) rfl (F_stuff cd ql))
 s_nil)
 (s_cons (x_own (i:=10) es_nil rfl (F_chunks cd ql))
 (s_cons (x_assign (i:=11) (s_ifexp (b_cmp (s_item (s_name (i:=0) rfl) (s_name (i:=5) rfl)) s_str) (s_bin (s_name (i:=5) rfl) s_int) (s_bin (s_name (i:=5) rfl) s_int)) rfl (F_k cd ql))
 (s_cons (x_while 1000 (b_plain s_true)
 (s_cons (x_assign (i:=11) (s_meth (s_name (i:=0) rfl) (es_cons s_str (es_cons (s_name (i:=11) rfl) (es_cons (s_name (i:=8) rfl) es_nil))) m_find) rfl (F_k cd ql))
 (s_cons (x_if (b_cmp (s_name (i:=11) rfl) s_int)
 (s_cons x_break
 s_nil)
 s_nil)
 (s_cons (x_append (i:=10) (s_slice (s_name (i:=0) rfl) (pt_some (s_name (i:=5) rfl)) (pt_some (s_name (i:=11) rfl)) pt_none) rfl (KO.at (by repeat' first | exact ko_getV | exact ko_pure | exact ko_lift | exact ko_ofP | exact ko_nameT | exact ko_capF _ | exact ko_cmpOwn | apply ko_bind | apply ko_ite | intro _)))
 (s_cons (x_assign (i:=5) (s_bin (s_name (i:=11) rfl) s_int) rfl (F_i cd ql))
 (s_cons (x_assign (i:=11) (s_bin (s_name (i:=11) rfl) s_int) rfl (F_k cd ql))
 s_nil))))))
 (s_cons (x_assign (i:=12) (s_slice (s_name (i:=0) rfl) (pt_some (s_name (i:=5) rfl)) (pt_some (s_name (i:=8) rfl)) pt_none) rfl (F_chunk cd ql))
 (s_cons (x_if (b_name (i:=12) rfl)
 (s_cons (x_append (i:=10) (s_name (i:=12) rfl) rfl (KO.at (by repeat' first | exact ko_getV | exact ko_pure | exact ko_lift | exact ko_ofP | exact ko_nameT | exact ko_capF _ | exact ko_cmpOwn | apply ko_bind | apply ko_ite | intro _)))
 s_nil)
 (s_cons (x_augown (j:=10) p_str rfl p_neg)
 s_nil))
 (s_cons (x_for (i:=11) (s_callt (es_cons (s_bin (s_ofP (p_len (i:=10) rfl rfl (by kernel_rfl) G.len)) s_int) (es_cons s_int (es_cons (s_ofP p_neg) es_nil))) f_range (by kernel_rfl) G.range boot_range)
 (s_cons (x_if (b_cmp (s_item (s_ofP (p_item_own (j:=10) rfl (p_bin (p_name (i:=11) rfl) p_int))) (s_ofP p_neg)) (s_item (s_ofP (p_item_own (j:=10) rfl (p_name (i:=11) rfl))) s_int))
 (s_cons (x_setown (j:=10) (s_bin (s_slice (s_ofP (p_item_own (j:=10) rfl (p_bin (p_name (i:=11) rfl) p_int))) pt_none (pt_some (s_ofP p_neg)) pt_none) (s_slice (s_ofP (p_item_own (j:=10) rfl (p_name (i:=11) rfl))) (pt_some s_int) pt_none pt_none)) rfl (p_bin (p_name (i:=11) rfl) p_int))
 (s_cons (x_delown (j:=10) rfl (p_name (i:=11) rfl))
 s_nil))
 s_nil)
 s_nil) rfl (F_k cd ql))
 (s_cons (x_assign (i:=9) (s_joing okG (s_name (i:=10) rfl) (fun cenv hc=>elt_rr (by rw [hc]) (by show List.lookup _ cenv.scope.names=_;rw [hc];kernel_rfl) (by rfl) (by rfl) (by decide+kernel)) (by rfl) (by decide) (by decide) (by kernel_rfl) (by kernel_rfl) (by rfl) (by intro _ _;rfl) (by rfl)) rfl (F_stuff cd ql))
 s_nil))))))))
 (s_cons (x_assign (i:=9) (s_sub okS (by kernel_rfl) hTw hPat (i:=9) rfl (by rfl) (by rfl)) rfl (F_stuff cd ql))
 (s_cons (x_assign (i:=5) (s_bin (s_name (i:=8) rfl) s_int) rfl (F_i cd ql))
 (s_cons (x_if (b_not (b_name (i:=9) rfl))
 (s_cons (x_add (i:=4) (j:=3) s_str rfl (by show 3 < 13;decide))
 s_nil)
 (s_cons (x_if (b_cmp (s_name (i:=9) rfl) s_str)
 (s_cons (x_add (i:=4) (j:=3) s_str rfl (by show 3 < 13;decide))
 s_nil)
 (s_cons (x_if (b_cmp (s_item (s_name (i:=9) rfl) s_int) s_str)
 (s_cons (x_assign (i:=9) (s_bin s_str (s_slice (s_name (i:=9) rfl) (pt_some s_int) pt_none pt_none)) rfl (F_stuff cd ql))
 s_nil)
 (s_cons (x_if (b_intup (s_item (s_name (i:=9) rfl) s_int) (s_tuple (es_cons s_str (es_cons s_str es_nil))))
 (s_cons (x_assign (i:=9) (s_bin s_str (s_name (i:=9) rfl)) rfl (F_stuff cd ql))
 s_nil)
 s_nil)
 s_nil))
 (s_cons (x_add (i:=4) (j:=3) (s_fstr (j_cons s_str (j_cons (s_fval (s_name (i:=9) rfl)) (j_cons s_str j_nil)))) rfl (by show 3 < 13;decide))
 s_nil)))
 s_nil))
 s_nil))))))
 s_nil)))))
 (s_cons (x_add (i:=4) (j:=3) (s_call (es_cons (s_name (i:=7) rfl) es_nil) hEscape (by kernel_rfl) gEscape oEscape) rfl (by show 3 < 13;decide))
 s_nil))
 s_nil))
 s_nil))
 s_nil))))
  apply s_cons
  exact (x_assert (b_cmp (s_name (i:=5) rfl) (s_name (i:=6) rfl)))
  apply s_cons
  exact (x_ret (s_name (i:=3) rfl))
  exact s_nil
end WTrans
noncomputable def trM (T:Str→Option Str):List PV→Option PV
 | [.str pat]=>(T pat).map .str
 | _=>none
noncomputable abbrev FTranslate (cd:Value) (ql:Str):FI:=⟨scopeAt P1 9,["pat","STAR","parts"].map PySem.Str.ofString,[],cd,ql⟩
namespace WTranslate
theorem F_STAR (cd:Value) (ql:Str):(FTranslate cd ql).Wr (PySem.Str.ofString "STAR"):=⟨(fun h=>nomatch h),.inl (by kernel_rfl)⟩
theorem F_parts (cd:Value) (ql:Str):(FTranslate cd ql).Wr (PySem.Str.ofString "parts"):=⟨(fun h=>nomatch h),.inl (by kernel_rfl)⟩
set_option maxHeartbeats 1000000 in
noncomputable def restS {X:Cx} {d:Nat} {cd:Value} {ql:Str} {fT fJ:Addr} {mT mJ:List PV→Option PV} (hT:CallW X d fT mT) (hJ:CallW X d fJ mJ) (gT:X.mg (PySem.Str.ofString "_translate")=some (.ref fT)) (gJ:X.mg (PySem.Str.ofString "_join_translated_parts")=some (.ref fJ))
  (oT:∃o fd,X.B.get? fT=some o∧o.data=.func fd) (oJ:∃o fd,X.B.get? fJ=some o∧o.data=.func fd):{ g:EvS // SoundS X (FTranslate cd ql) d ((bodyAt P1 9).drop 1) g }:=by
 apply Subtype.mk
 apply s_cons
 exact (x_assign (i:=2) (s_call (es_cons (s_name (i:=0) rfl) (es_cons (s_name (i:=1) rfl) (es_cons s_str es_nil))) hT (by kernel_rfl) gT oT) rfl (F_parts cd ql))
 apply s_cons
 exact (x_ret (s_call (es_cons (s_name (i:=2) rfl) (es_cons (s_name (i:=1) rfl) es_nil)) hJ (by kernel_rfl) gJ oJ))
 exact s_nil
set_option tactic.hygienic true in
set_option maxHeartbeats 1000000 in
theorem translateR {X:Cx} {d:Nat} {cd:Value} {ql:Str} (G:Glo X) {fT fJ:Addr} {mT mJ:List PV→Option PV} {T:Str→Option Str} (hT:CallW X d fT mT) (hJ:CallW X d fJ mJ) (gT:X.mg (PySem.Str.ofString "_translate")=some (.ref fT)) (gJ:X.mg (PySem.Str.ofString "_join_translated_parts")=some (.ref fJ))
  (oT:∃o fd,X.B.get? fT=some o∧o.data=.func fd) (oJ:∃o fd,X.B.get? fJ=some o∧o.data=.func fd)
  (hspec:∀a pat r,T pat=some r→∃parts,mT [.str pat,.obj a,.str (PySem.Str.ofString ".")]=some parts∧mJ [parts,.obj a]=some (.str r)):
  SoundR X (FTranslate cd ql) d 3 (bodyAt P1 9) (trM T):=by
 intro A Av Mu env s as r Q E hA hm R₀ tk k
 unfold trM at hm
 split at hm
 case h_2=>cases hm
 rename_i pat
 obtain ⟨r',hr,rfl⟩:=Option.map_eq_some_iff.mp hm
 have e0:([PV.str pat].map Bind.froz++List.replicate (3 - [PV.str pat].length) Bind.none)=[.froz (.str pat),.none,.none]:=rfl
 rw [e0] at R₀
 have rest:∀{s1:Shared} {Av1 Mu1:Addr→Prop} {a:Addr} {b:List Stmt},b=(bodyAt P1 9).drop 1→R X (FTranslate cd ql) Av1 Mu1 env [.froz (.str pat),.froz (.obj a),.none] s1→1≤s1.toks→Step Av Mu s Av1 Mu1 s1→wpAny (model X.prog X.w) A (execs b env) Q E s1:=by
  intro s1 Av1 Mu1 a b hb R1 tk1 S1
  subst hb
  obtain ⟨parts,h1,h2⟩:=hspec a pat r' hr
  refine (restS (d:=d) (cd:=cd) (ql:=ql) hT hJ gT gJ oT oJ).2 (st':=[.froz (.str pat),.froz (.obj a),.froz parts]) (v:=.ret (.str r')) _ hA ?_ R1 tk1 fun x s' Av' Mu' R' S' V' tk'=>?_
  ·simp only [restS,seqF,bindE,getV,pureE,liftE,setV,List.getElem?_cons_zero,List.getElem?_cons_succ,h1,h2,List.set_cons_zero,List.set_cons_succ]
  ·cases x<;>first | exact V'.elim | skip
   exact k _ _ _ _ _ _ (.inl rfl) R' (S1.trans S' R₀.lt) V'
 show wpAny _ _ (execs (_::_) env) _ _ _
 refine wpAny_execs_cons (wpAny_Assign_Name ?_ (by rfl))
 show wpAny _ _ (do callWith _ (←eval (.Name "object" _) env) [] (backTo _ (starEach [] env)) (backToKw _ (keywordEach [] env))) _ _ _
 refine wpAny_bind (wp_bname R₀ (by kernel_rfl) G.object boot_object (callArgsT rfl (Calls.spliced_nil (call_object ?_))) (by decide+kernel) (by decide+kernel))
 have G1:Grow s { s with heap:=s.heap.push { cls:=.type "object",data:=.plain } }:=Grow.push (s:=s) _
 refine wpAny_mono (wpAny_toks (wp_store (Q:=fun _ s'=>R X (FTranslate cd ql) Av Mu env [.froz (.str pat),.froz (.obj s.heap.objs.size),.none] s'∧Step Av Mu s Av Mu s') (R₀.grow G1) (i:=1) rfl (b:=.froz (.obj s.heap.objs.size)) ?_ (F_STAR cd ql) fun s2 R2 S2=>⟨R2,(Step.ofGrow G1).trans S2 R₀.lt⟩)) (fun _ s2 q=>?_) fun _ _ e=>e
 ·show VR _ _ _ _
  unfold VR
  exact ⟨rfl,fun q=>absurd (R₀.lt _ q) (Nat.lt_irrefl _),by show _ < (s.heap.push _).objs.size;rw [Heap.size_push];exact Nat.lt_succ_self _⟩
 ·obtain ⟨⟨R2,S2⟩,tk2⟩:=q
  exact rest rfl R2 (Nat.le_trans tk tk2) S2
end WTranslate
theorem listItems_w {M:Model} {A:Around} {s:Shared} {a:Addr} {vs:List Value} {n:Nat} {E:Value→Shared→Prop} {Q:Array Value→Shared→Prop} (ha:s.heap.get? a=some (listObj vs n)) (k:Q vs.toArray s):wpAny M A (Builtin.List.listItems (.ref a)) Q E s:=by
 unfold Builtin.List.listItems
 exact wpAny_bind (wpAny_seqItems ha rfl (wpAny_pure k))
theorem iadd_list {prog:Program} {w:World} {A:Around} {s:Shared} {a b:Addr} {vs ws:List Value} {n m:Nat} {Q E:Value→Shared→Prop} (ha:s.heap.get? a=some (listObj vs n)) (hb:s.heap.get? b=some (listObj ws m)) (hl:vs.length+ws.length≤1000)
  (k:∀h' n',h'.get? a=some (listObj (vs++ws) n')→Heap.SameBut a s.heap h'→Q (.ref a) { s with heap:=h' }):wpAny (model prog w) A (inplaceOp .Add (.ref a) (.ref b)) Q E s:=by
 have hl1:s.heap.IsList a vs.toArray:=⟨_,ha,rfl,n,rfl⟩
 have hl2:s.heap.IsList b ws.toArray:=⟨_,hb,rfl,m,rfl⟩
 obtain ⟨n',g'⟩:=upd_obj (f:=(· ++ws.toArray)) (us:=vs++ws) ha (by simp)
 have hsl:isSeqSlot (some (.builtin "list.__iadd__"))=true:=by decide+kernel
 unfold inplaceOp
 refine wpAny_holding ?_
 have hfi:fillsInplaceSlot (.type "list") "add" (Operator.Add==.Add)=pure false:=by
  unfold fillsInplaceSlot
  show (typeLookup (.type "list") (dunderI "add")>>=fun fi=>pure (fi.isSome&& !isSeqSlot fi))=pure false
  rw [F.slot_list_iadd.lookup]
  show (Pure.pure (true&& !isSeqSlot (some (.builtin "list.__iadd__"))):Sem Bool)=_
  rw [hsl];rfl
 have hsi:seqSlot? (.type "list") (dunderI "add")=pure (some (.builtin "list.__iadd__")):=PySem.seqSlot_of F.slot_list_iadd.lookup hsl
 refine wpAny_bind (wpAny_typeOf hl1.typeIs (wpAny_bind (wpAny_of_eq hfi ?_)))
 show wpAny _ A (if false=true then _ else _) Q E s
 rw [if_neg Bool.false_ne_true]
 refine wpAny_bind (wpAny_binaryOp1_none (nm:="add") hl1.typeIs hl2.typeIs noFill_list_add ?_)
 refine wpAny_bind (wpAny_of_eq hsi ?_)
 refine wpAny_bind (wpAny_rule ?_)
 refine wpAny_call_entry F.slot_list_iadd hl1.typeIs F.entry_list_iadd ?_ (F.args_list_iadd_2 _ _)
 show wpAny _ _ (Builtin.List.listExtendWith (.ref a) (.ref b) (.ref a)) _ _ s
 unfold Builtin.List.listExtendWith
 refine wpAny_bind (wpAny_typeOf hl2.typeIs ?_)
 rw [if_pos (by simp)]
 refine wpAny_bind (listItems_w hb (wpAny_bind (listItems_w ha ?_)))
 have hz:¬ ((!vs.toArray.isEmpty&&Builtin.List.listTooLong (vs.toArray.size+ws.toArray.size))=true):=by
  rw [List.size_toArray,List.size_toArray]
  unfold Builtin.List.listTooLong
  rw [decide_eq_false (Nat.not_lt.mpr (Nat.le_trans hl (by decide:1000≤sizeLine))),Bool.and_false]
  exact Bool.false_ne_true
 rw [if_neg hz]
 refine wpAny_bind (wpAny_updateSeq ha rfl (wpAny_pure ⟨_,rfl,k _ n' g' (Heap.SameBut.update ..)⟩) ?_ ?_)
 ·rw [List.size_toArray];exact Nat.le_trans (Nat.le_trans (Nat.le_add_right _ _) hl) (by decide)
 ·rw [Array.size_append,List.size_toArray,List.size_toArray];exact Nat.le_trans hl (by decide)
structure InAt (h:Heap) (Av Mu:Addr→Prop) (o a:Addr) (ys:List PV):Prop where
 obj:∃us n,h.get? a=some (listObj us n)∧VRs h Av us ys
 av:Av a
 mu:¬ Mu a
 ne:a≠o
structure OutAt (h:Heap) (Av Mu:Addr→Prop) (o:Addr) (as:List Addr) (L:List (List PV)):Prop where
 obj:∃n,h.get? o=some (listObj (as.map .ref) n)
 av:Av o
 mu:¬ Mu o
 nd:as.Nodup
 len:as.length=L.length
 ins:∀(i:Nat) (a:Addr) (ys:List PV),as[i]? =some a→L[i]? =some ys→InAt h Av Mu o a ys
theorem OutAt.move {h h':Heap} {Av Mu Av' Mu':Addr→Prop} {o:Addr} {as:List Addr} {L:List (List PV)} (W:OutAt h Av Mu o as L) (ma:∀a,Mu a→Av a) (hk:∀a o,h.get? a=some o→¬ Mu a→h'.get? a=some o)
  (ha:∀a,a < h.objs.size→¬ Av a→¬ Av' a) (ha':∀a,Av a→¬ Mu a→a < h.objs.size→Av' a∧¬ Mu' a) (hs:h.objs.size≤h'.objs.size):OutAt h' Av' Mu' o as L:=by
 obtain ⟨⟨n,g⟩,q1,q2,nd,hl,ins⟩:=W
 obtain ⟨p1,p2⟩:=ha' o q1 q2 (Heap.lt_size g)
 refine ⟨⟨n,hk _ _ g q2⟩,p1,p2,nd,hl,fun i a ys h1 h2=>?_⟩
 obtain ⟨⟨us,n,g,z⟩,q1,q2,ne⟩:=ins i a ys h1 h2
 obtain ⟨p1,p2⟩:=ha' a q1 q2 (Heap.lt_size g)
 exact ⟨⟨us,n,hk _ _ g q2,z.mono (fun a o e n=>hk a o e fun q=>n (ma a q)) ha hs⟩,p1,p2,ne⟩
theorem OutAt.step {Av Mu Av' Mu':Addr→Prop} {s s':Shared} {o:Addr} {as:List Addr} {L:List (List PV)} (S:Step Av Mu s Av' Mu' s') (ma:∀a,Mu a→Av a) (W:OutAt s.heap Av Mu o as L):OutAt s'.heap Av' Mu' o as L:=
 W.move ma S.keep (fun a l n q=>(S.av a q).elim n fun z=>absurd l (Nat.not_lt.mpr z)) (fun a h n l=>⟨S.av' a h n,fun q=>(S.mu a q).elim n fun z=>absurd l (Nat.not_lt.mpr z)⟩) S.size
theorem refs_VR {h:Heap} {Av Av' Mu:Addr→Prop} {o:Addr} (h1:∀a,a < h.objs.size→¬ Av a→¬ Av' a):∀{as:List Addr} {L:List (List PV)},as.length=L.length→(∀a∈as,¬ Av' a)→(∀(i:Nat) (a:Addr) (ys:List PV),as[i]? =some a→L[i]? =some ys→InAt h Av Mu o a ys)→VRs h Av' (as.map .ref) (L.map .list)
 | [],[],_,_,_=>VRs.nil
 | a::as,ys::L,hl,hn,ins=>by
  obtain ⟨⟨us,n,g,z⟩,_⟩:=ins 0 a ys rfl rfl
  refine VRs.cons ?_ (refs_VR h1 (Nat.succ.inj hl) (fun b hb=>hn b (List.mem_cons_of_mem _ hb)) fun i b zs e1 e2=>ins (i+1) b zs e1 e2)
  unfold VR
  exact ⟨a,us,n,rfl,g,hn a List.mem_cons_self,z.mono (fun _ _ e _=>e) h1 (Nat.le_refl _)⟩
section
variable {X:Cx} {F:FI} {d:Nat}
theorem R.frz {Av Mu Av':Addr→Prop} {env:Env} {st:St} {s:Shared} (r:R X F Av Mu env st s) (h1:∀a,Av' a→Av a) (h2:∀a,Mu a→Av' a) {i:Nat} {x:PySem.Str} (hi:F.names[i]? =some x) {u:Value} {p:PV} (hu:ValAt s.heap env x u) (hp:VR s.heap Av' u p) (hno:∀xs,st[i]? ≠some (.own xs)):R X F Av' Mu env (st.set i (.froz p)) s:=by
 have hv:∀{v p},VR s.heap Av v p→VR s.heap Av' v p:=fun q=>q.mono (fun _ _ e _=>e) (fun a _ n q=>n (h1 a q)) (Nat.le_refl _)
 have hvs:∀{v p},VRs s.heap Av v p→VRs s.heap Av' v p:=fun q=>q.mono (fun _ _ e _=>e) (fun a _ n q=>n (h1 a q)) (Nat.le_refl _)
 refine ⟨r.sc,r.fn,r.gl,r.bl,r.cd,r.ql,fun b o e=>⟨(r.base b o e).1,fun q=>(r.base b o e).2 (h1 _ q)⟩,fun a t=>⟨(r.tabs a t).1,(r.tabs a t).2.mono (fun _ e=>e) fun _ _ e n _=>⟨e,fun q=>n (h1 _ q)⟩⟩,h2,fun a q=>r.lt a (h1 a q),r.ns,r.nsMu,r.nd,by rw [List.length_set];exact r.len,r.cinj,r.slots,fun j y b hj hb=>?_,fun j k y w ys ws b hj hk hy hw=>?_⟩
 ·rcases get_set hb with ⟨e1,e2⟩ | ⟨e1,e2⟩
  ·subst e1;subst e2
   obtain rfl:y=x:=Option.some.inj (hj.symm.trans hi)
   exact ⟨u,hu,hp⟩
  ·have q:=r.vars j y b hj e2
   cases b with
   | none=>trivial
   | froz p=>obtain ⟨u,p1,p2⟩:=q;exact ⟨u,p1,hv p2⟩
   | ref a=>exact q
   | own ys=>obtain ⟨b,us,n',p1,p2,p3,p4⟩:=q;exact ⟨b,us,n',p1,p2,p3,hvs p4⟩
   | meth k=>
    obtain ⟨m',a',p1,p2,p3,p4⟩:=q
    refine ⟨m',a',p1,p2,fun q=>p3 (h1 _ q),fun y' ws hy' hs'=>?_⟩
    rcases get_set hs' with ⟨_,f2⟩ | ⟨_,f2⟩
    ·cases f2
    ·exact p4 y' ws hy' f2
 ·rcases get_set hy with ⟨_,e2⟩ | ⟨_,e2⟩
  ·cases e2
  rcases get_set hw with ⟨_,f2⟩ | ⟨_,f2⟩
  ·cases f2
  exact r.inj j k y w ys ws b hj hk e2 f2
structure WI (X:Cx) (F:FI) (iR:Nat) (o:Addr) (as:List Addr) (L:List (List PV)) (Av Mu:Addr→Prop) (env:Env) (st:St) (s:Shared):Prop where
 r:R X F Av Mu env st s
 ref:st[iR]? =some (.ref o)
 out:OutAt s.heap Av Mu o as L
 tk:1≤s.toks
noncomputable def Own (Mu:Addr→Prop) (o:Addr) (as:List Addr) (a:Addr):Prop:=Mu a∨a=o∨a∈as
theorem OutAt.mem {h:Heap} {Av Mu:Addr→Prop} {o:Addr} {as:List Addr} {L:List (List PV)} (W:OutAt h Av Mu o as L) {a:Addr} (ha:a∈as):∃ys,InAt h Av Mu o a ys:=by
 obtain ⟨i,h1⟩:=List.mem_iff_getElem?.mp ha
 have hi:=(List.getElem?_eq_some_iff.mp h1).1
 rw [W.len] at hi
 exact ⟨_,W.ins i a _ h1 (List.getElem?_eq_getElem hi)⟩
theorem OutAt.own {h:Heap} {Av Mu:Addr→Prop} {o:Addr} {as:List Addr} {L:List (List PV)} (W:OutAt h Av Mu o as L) (ma:∀a,Mu a→Av a) {a:Addr} (q:Own Mu o as a):Av a:=by
 rcases q with q | rfl | q
 ·exact ma a q
 ·exact W.av
 ·obtain ⟨ys,w⟩:=W.mem q
  exact w.av
theorem OutAt.other {h:Heap} {Av Mu:Addr→Prop} {o:Addr} {as:List Addr} {L:List (List PV)} (W:OutAt h Av Mu o as L) {a:Addr} (hm:¬ Mu a) (hf:∃ob vs,h.get? a=some ob∧ob.data=.fields vs):¬ Own Mu o as a:=by
 obtain ⟨ob,vs,e,hd⟩:=hf
 rintro (q | rfl | q)
 ·exact hm q
 ·obtain ⟨n,g⟩:=W.obj
  rw [e] at g;cases g;cases hd
 ·obtain ⟨ys,⟨us,n,g,_⟩,_⟩:=W.mem q
  rw [e] at g;cases g;cases hd
theorem Step.wide {Av Mu Av' Mu':Addr→Prop} {s s':Shared} {o:Addr} {as:List Addr} {L:List (List PV)} (S:Step Av Mu s Av' Mu' s') (W:OutAt s.heap Av Mu o as L):Step Av (Own Mu o as) s Av' (Own Mu' o as) s':=
 ⟨fun a o e n=>S.keep a o e fun q=>n (.inl q),fun a q=>q.elim (fun q=>(S.mu a q).imp .inl id) fun q=>.inl (.inr q),S.av,fun a h n=>S.av' a h fun q=>n (.inl q),S.size,S.os,S.gens⟩
theorem WI.froz {iR:Nat} {Av Mu:Addr→Prop} {s:Shared} {o:Addr} {as:List Addr} {L:List (List PV)} {env:Env} {st:St} {x:PySem.Str} (W:WI X F iR o as L Av Mu env st s) (hi:F.names[iR]? =some x):
  ∃Av',(∀a,Av' a↔Av a∧a≠o∧a ∉ as)∧R X F Av' Mu env (st.set iR (.froz (.list (L.map .list)))) s:=by
 obtain ⟨r,e,w,_⟩:=W
 obtain ⟨n,g⟩:=w.obj
 have h2:∀a,Mu a→Av a∧a≠o∧a ∉ as:=fun a q=>⟨r.ma a q,fun z=>w.mu (z ▸ q),fun z=>by
  obtain ⟨ys,w2⟩:=w.mem z
  exact w2.mu q⟩
 have hp:VR s.heap (fun a=>Av a∧a≠o∧a ∉ as) (.ref o) (.list (L.map .list)):=by
  unfold VR
  exact ⟨o,_,n,rfl,g,fun q=>q.2.1 rfl,refs_VR (fun a _ n q=>n q.1) w.len (fun a ha q=>q.2.2 ha) w.ins⟩
 exact ⟨_,fun a=>Iff.rfl,r.frz (fun a q=>q.1) h2 hi (r.vars iR x _ hi e) hp (fun xs q=>by rw [e] at q;cases q)⟩
end
noncomputable abbrev LL:=List (List PV)
noncomputable abbrev EvW:=LL→St→Option (LL×St)
theorem OutAt.moveI {h h':Heap} {Av Mu:Addr→Prop} {o I:Addr} {as:List Addr} {L:List (List PV)} (W:OutAt h Av Mu o as L) (hI:¬ Own Mu o as I) (ha:Av I) (he:Heap.ExtBut I h h') (hz:h.objs.size≤h'.objs.size):OutAt h' Av Mu o as L:=by
 obtain ⟨⟨n,g⟩,q1,q2,nd,hl,ins⟩:=W
 refine ⟨⟨n,he _ _ (fun z=>hI (.inr (.inl z.symm))) g⟩,q1,q2,nd,hl,fun i a ys h1 h2=>?_⟩
 obtain ⟨⟨us,n,g,z⟩,q1,q2,ne⟩:=ins i a ys h1 h2
 exact ⟨⟨us,n,he _ _ (fun z=>hI (.inr (.inr (z ▸ List.mem_of_getElem? h1)))) g,z.mono (fun a o e n=>he a o (fun z=>n (z ▸ ha)) e) (fun _ _ n=>n) hz⟩,q1,q2,ne⟩
section
variable {X:Cx} {F:FI} {d:Nat} {iR:Nat}
noncomputable def SoundW (X:Cx) (F:FI) (d iR:Nat) (c:List Stmt) (g:EvW):Prop:=
 ∀(A:Around) {Av Mu:Addr→Prop} {s:Shared} {o:Addr} {as:List Addr} {L L':LL} {env:Env} {st st':St} {Q:Flow→Shared→Prop} {E:Value→Shared→Prop},
  Room d A→g L st=some (L',st')→WI X F iR o as L Av Mu env st s→(∀s' Av' Mu' as',WI X F iR o as' L' Av' Mu' env st' s'→Step Av (Own Mu o as) s Av' (Own Mu' o as') s'→Q .next s')→wpAny (model X.prog X.w) A (execs c env) Q E s
noncomputable def sameRef (iR:Nat) (st st':St):Prop:=st'[iR]? =st[iR]?
open Classical in
noncomputable def thenW (f:EvS) (iR:Nat) (g:EvW):EvW:=fun L st=>(f st).bind fun p=>match p.1 with
 | .next=>if sameRef iR st p.2 then g L p.2 else none
 | _=>none
theorem when_else {α:Type} {p:Prop} {dp:Decidable p} {x:Option α} {c:α} (h:(if p then x else none)=some c):p∧x=some c:=by
 by_cases hp:p
 ·rw [if_pos hp] at h;exact ⟨hp,h⟩
 ·rw [if_neg hp] at h;cases h
theorem thenW_some {f:EvS} {g:EvW} {L L':LL} {st st':St} (h:thenW f iR g L st=some (L',st')):∃st1,f st=some (.next,st1)∧st1[iR]? =st[iR]? ∧g L st1=some (L',st'):=by
 obtain ⟨⟨fl,st1⟩,h1,h2⟩:=Option.bind_eq_some_iff.mp h
 cases fl with
 | next=>exact ⟨st1,h1,when_else h2⟩
 | brk=>cases h2
 | ret=>cases h2
theorem w_cons {c:Stmt} {r:List Stmt} {f:EvS} {g:EvW} (h:SoundX X F d c f) (h':SoundW X F d iR r g):SoundW X F d iR (c::r) (thenW f iR g):=by
 intro A Av Mu s o as L L' env st st' Q E hA hf W k
 obtain ⟨st1,h1,h2,h3⟩:=thenW_some hf
 refine wpAny_execs_cons (h _ hA h1 W.r W.tk fun va s1 Av1 Mu1 R1 S1 V1 tk1=>?_)
 cases va<;>first | exact V1.elim | skip
 exact h' _ hA h3 ⟨R1,h2.trans W.ref,W.out.step S1 W.r.ma,tk1⟩ fun s2 Av2 Mu2 as2 W2 S2=>k _ _ _ _ W2 ((S1.wide W.out).trans S2 W.r.lt)
open Classical in
noncomputable def ifW (f:EvB) (iR:Nat) (g h:EvW):EvW:=fun L st=>(f st).bind fun p=>if sameRef iR st p.2 then (if p.1 then g L p.2 else h L p.2) else none
theorem w_if {t:Expr} {b e:List Stmt} {pos:Pos} {f:EvB} {g h:EvW} (ht:SoundB X F d t f) (hb:SoundW X F d iR b g) (he:SoundW X F d iR e h):SoundW X F d iR [.If t b e pos] (ifW f iR g h):=by
  intro A Av Mu s o as L L' env st st' Q E hA hf W k
  obtain ⟨⟨c,st1⟩,h1,h2⟩:=Option.bind_eq_some_iff.mp hf
  obtain ⟨h2,h3⟩:=when_else h2
  have fin:∀{c:List Stmt} {g:EvW},SoundW X F d iR c g→∀{s1:Shared} {Av1 Mu1:Addr→Prop},g L st1=some (L',st')→WI X F iR o as L Av1 Mu1 env st1 s1→Step Av (Own Mu o as) s Av1 (Own Mu1 o as) s1→wpAny (model X.prog X.w) A (execs c env) (fun x s'=>match x with
      | .next=>wpAny (model X.prog X.w) A (execs [] env) Q E s'
      | x=>Q x s') E s1:=fun hc s1 Av1 Mu1 h3 W1 S1=>hc _ hA h3 W1 fun s' Av' Mu' as' W' S'=>wpAny_execs_nil (k _ _ _ _ W' (S1.trans S' W.r.lt))
  refine wpAny_execs_cons (wpAny_If (ht _ hA h1 W.r W.tk fun va s1 Av1 Mu1 R1 S1 V1 tk1=>?_))
  cases V1
  have W1:WI X F iR o as L Av1 Mu1 env st1 s1:=⟨R1,h2.trans W.ref,W.out.step S1.toStep W.r.ma,tk1⟩
  cases c with
  | true=>exact fin hb h3 W1 (S1.toStep.wide W.out)
  | false=>exact fin he h3 W1 (S1.toStep.wide W.out)
noncomputable def forW (i:Nat) (g:EvW):List PV→EvW
 | []=>fun L st=>some (L,st)
 | p::ps=>fun L st=>(g L (st.set i (.froz p))).bind fun q=>forW i g ps q.1 q.2
theorem code_forW {x:PySem.Str} {px:Pos} {b:List Stmt} {g:EvW} {i:Nat} (hb:SoundW X F d iR b g) (hi:F.names[i]? =some x) (hl:F.Wr x) (hne:i≠iR) {A:Around} {Av₀ Mu₀:Addr→Prop} {s₀:Shared} {o:Addr} {env:Env} {I:Addr} {K:Result→Shared→Prop} {xs:List PV} {st₂:St} {L₂:LL}
  (hA:Room d A) (h0:s₀.heap.objs.size≤I) (lt₀:∀a,Av₀ a→a < s₀.heap.objs.size) (k:∀s' Av' Mu' as',WI X F iR o as' L₂ Av' Mu' env st₂ s'→Step Av₀ Mu₀ s₀ Av' (Own Mu' o as') s'→K (.ok .next) s'):
  ∀(ps:List PV) {j:Nat} {Av Mu:Addr→Prop} {st:St} {L:LL} {as:List Addr} {s:Shared},xs.drop j=ps→forW i g ps L st=some (L₂,st₂)→WI X F iR o as L Av Mu env st s→Step Av₀ Mu₀ s₀ Av (Own Mu o as) s→Av I→¬ Own Mu o as I→IterAt s.heap Av I xs j→
   codeAny (model X.prog X.w) A (.forLoop (.Name x px) (.ref I) b [] env) K s
 | [],j,Av,Mu,st,L,as,s,hd,hf,W₀,S₀,hI,hMu,W=>by
  have hn:xs[j]? =none:=by rw [←Nat.add_zero j,←List.getElem?_drop,hd];rfl
  refine loop_turn (t:=forTurn (.Name x px) (.ref I) b [] env) (kk:=fun x=>do noteFrame x env;theTreesLotGoes x) rfl rfl rfl fun Q E hdone hagain=>?_
  unfold forTurn
  refine wpAny_bind (wpAny_standAt (wpAny_bind (wpAny_onRaise (wp_next' hA.1 W₀.tk hI W (fun p u h' tk' hp=>nomatch hn.symm.trans hp) fun _ h' he hz=>?_))))
  cases hf
  refine wpAny_pure (hagain _ _ rfl (codeAny_block (wpAny_execs_nil (k _ Av Mu as ⟨W₀.r.keepI hI (fun q=>hMu (.inl q)) W.nocell he hz,W₀.ref,W₀.out.moveI hMu hI he hz,W₀.tk⟩ (S₀.iter h0 he hz rfl rfl)))))
 | p::ps,j,Av,Mu,st,L,as,s,hd,hf,W₀,S₀,hI,hMu,W=>by
  have hj:xs[j]? =some p:=by rw [←Nat.add_zero j,←List.getElem?_drop,hd];rfl
  have hd2:xs.drop (j+1)=ps:=by rw [←List.drop_drop,hd];rfl
  refine loop_turn (t:=forTurn (.Name x px) (.ref I) b [] env) (kk:=fun x=>do noteFrame x env;theTreesLotGoes x) rfl rfl rfl fun Q E hdone hagain=>?_
  unfold forTurn
  refine wpAny_bind (wpAny_standAt (wpAny_bind (wpAny_onRaise (wp_next' hA.1 W₀.tk hI W (fun p' u h' tk' hp hu W' hs tk1=>?_) fun hn h' he hz=>nomatch hn.symm.trans hj))))
  obtain rfl:p'=p:=Option.some.inj (hp.symm.trans hj)
  have hz:s.heap.objs.size≤h'.objs.size:=Nat.le_of_eq hs.1.symm
  have R1:R X F Av Mu env st { s with heap:=h',toks:=tk' }:=W₀.r.keepI hI (fun q=>hMu (.inl q)) W.nocell (fun a o n e=>(hs.2 a n).trans e) hz
  have O1:OutAt h' Av Mu o as L:=W₀.out.moveI hMu hI hs.extBut hz
  have mv:∀{Av' Mu':Addr→Prop} {s1 s2:Shared} {Av Mu:Addr→Prop} {n:Nat},Step Av Mu s1 Av' Mu' s2→(∀a,Mu a→Av a)→¬ Mu I→IterAt s1.heap Av I xs n→IterAt s2.heap Av' I xs n:=fun S ma nI W=>
   W.mono (fun o e=>S.keep I o e nI) (fun a o e n=>S.keep a o e fun q=>n (ma a q)) (fun a l n q=>(S.av a q).elim n fun z=>absurd l (Nat.not_lt.mpr z)) S.size
  have S1:Step Av₀ Mu₀ s₀ Av (Own Mu o as) { s with heap:=h',toks:=tk' }:=S₀.iter h0 hs.extBut hz rfl rfl
  refine wpAny_bind (wpAny_pure (wpAny_bind (wpAny_assign_Name (wp_store' R1 tk1 hi (b:=.froz p') hu hl fun s2 R2 S2 tk2=>?_))))
  have W2:=mv S2 R1.ma (fun q=>hMu (.inl q)) W'
  have O2:=O1.step S2 R1.ma
  have T2:=S1.trans (S2.wide O1) lt₀
  obtain ⟨⟨L3,st3⟩,hg,hf⟩:=Option.bind_eq_some_iff.mp hf
  refine wpAny_bind (hb _ hA hg ⟨R2,(List.getElem?_set_ne hne).trans W₀.ref,O2,tk2⟩ fun s3 Av3 Mu3 as3 W3 S3=>?_)
  exact wpAny_pure (hagain _ _ rfl (code_forW hb hi hl hne hA h0 lt₀ k ps hd2 hf W3 (T2.trans S3 lt₀) (S3.av' I hI hMu) (fun q=>(S3.mu I q).elim hMu fun z=>absurd (R2.lt I hI) (Nat.not_lt.mpr z)) (mv S3 (fun a q=>O2.own R2.ma q) hMu W2)))
end
section
variable {X:Cx} {F:FI} {d:Nat} {iR:Nat}
theorem seq_last {n:Nat} (h:0 < n):seqIndex? (-1) n=some (n - 1):=by
 obtain ⟨m,rfl⟩:=Nat.exists_eq_succ_of_ne_zero (Nat.ne_of_gt h)
 have e:(-1:Int)+((m+1:Nat):Int)=m:=(Int.add_comm _ _).trans (show ((m:Int)+1)+(-1)=m from Int.add_sub_cancel (m:Int) 1)
 unfold seqIndex?
 rw [if_pos (show (-1:Int) < 0 by decide),e]
 exact if_pos (Bool.and_eq_true_iff.mpr ⟨decide_eq_true (Int.natCast_nonneg m),decide_eq_true (Int.ofNat_lt.mpr (Nat.lt_succ_self m))⟩)
noncomputable def appW (j:Nat):EvW:=fun L st=>(L[L.length - 1]?).bind fun ys=>match st[j]? with
 | some (.froz p)=>if ys.length≤1000 then some (L.set (L.length - 1) (ys++[p]),st) else none
 | _=>none
set_option tactic.hygienic true in
theorem w_app {x y:PySem.Str} {px p1 p2 p3 apos py pos pos':Pos} {k1 j:Nat} (hx:F.names[iR]? =some x) (hy:F.names[j]? =some y) (hline:autoParam ((apos.endLine==pos.line)=true) Mine.au2._auto_1)
  (hn:autoParam ((x==("__classdict__":PySem.Str))=false) Mine.au3._auto_1) (hd:autoParam ((x==("__debug__":PySem.Str))=false) Mine.au3._auto_1) (hn2:autoParam ((y==("__classdict__":PySem.Str))=false) Mine.au3._auto_1) (hd2:autoParam ((y==("__debug__":PySem.Str))=false) Mine.au3._auto_1)
  (hi2:autoParam (∀env:Env,env.scope.kind=.function→interactive env=false) Mine.au6._auto_1):
  SoundW X F d iR [.Expr (.Call (.Attribute (.Subscript (.Name x px) (.UnaryOp .USub (.Constant (.int 1) k1 p1) p2) p3) "append" apos) [.Name y py] [] pos) pos'] (appW j):=by
 intro A Av Mu s o as L L' env st st' Q E hA hf W k
 obtain ⟨ys,h1,h2⟩:=Option.bind_eq_some_iff.mp hf
 split at h2
 case h_2=>cases h2
 rename_i p e
 obtain ⟨hl,h2⟩:=when_some h2
 cases h2
 obtain ⟨r,eR,O,tk⟩:=W
 refine wpAny_mono (wpAny_toks (Q:=fun x s'=>1≤s'.toks→Q x s') ?_) (fun x s' q=>q.1 (Nat.le_trans tk q.2)) fun _ _ e=>e
 have hL:=(List.getElem?_eq_some_iff.mp h1).1
 obtain ⟨a,ha⟩:∃a,as[L.length - 1]? =some a:=⟨_,List.getElem?_eq_getElem (O.len ▸ hL)⟩
 have I:=O.ins _ _ _ ha h1
 obtain ⟨us,n,g,z⟩:=I.obj
 obtain ⟨n2,g2⟩:=O.obj
 refine wpAny_execs_cons (wpAny_Expr ?_ (hi2 env (by rw [r.sc];exact r.fn)) rfl)
 refine wpAny_Call_method_lateS rfl rfl hline (Subscript_ (wpAny_Name (wp_load r (r.vars iR x _ hx eR) hn (p_neg (k:=k1) _ hA rfl r fun vi s1 G1 V1=>?_)) hd))
 obtain ⟨t,rfl⟩:=V1.int_of
 have hl2:s1.heap.IsList o (as.map Value.ref).toArray:=⟨_,G1.keep _ _ g2,rfl,n2,rfl⟩
 refine tail_any hl2.typeIs slot_list_getitem.lookup (list_item_w (X:=X) (j:=L.length - 1) (v:=.ref a) (G1.keep _ _ g2) (by decide) (by rw [List.length_map,O.len];exact seq_last (Nat.lt_of_le_of_lt (Nat.zero_le _) hL)) (by rw [List.getElem?_map,ha];rfl) ?_) rfl
 refine ⟨"list","list.append",_root_.PySem.F.plainAttrs_list,_root_.PySem.F.slot_list_append,_root_.PySem.F.type_list_append,⟨_,G1.keep _ _ g,rfl⟩,(fun b q=>by cases q;exact ⟨_,G1.keep _ _ g,rfl⟩),callArgs rfl ?_⟩
 show wpAny _ _ (spliced (backTo pos [(false,eval (.Name y py) env)])) _ _ _
 have r1:=r.grow G1
 obtain ⟨u,hu,zu⟩:=r.vars j y _ hy e
 refine Calls.spliced_cons (wpAny_Name (wp_load r1 (hu.keep fun a o e _=>G1.keep a o e) hn2 (Calls.spliced_nil ?_)) hd2)
 refine list_append_x (G1.keep _ _ g) (by rw [z.length];exact Nat.le_trans hl (by decide)) fun h' n' g' hb=>wpAny_execs_nil fun tk2=>?_
 have O1:=O.step (Step.ofGrow (Av:=Av) (Mu:=Mu) G1) r.ma
 have I1:=O1.ins _ _ _ ha h1
 have hz:s1.heap.objs.size≤h'.objs.size:=Nat.le_of_eq hb.1.symm
 have hk:∀b ob,b≠a→s1.heap.get? b=some ob→h'.get? b=some ob:=fun b ob n e=>(hb.2 b n).trans e
 have mv:∀{vs xs},VRs s1.heap Av vs xs→VRs h' Av vs xs:=fun q=>q.mono (fun b ob e n=>hk b ob (fun z=>n (z ▸ I1.av)) e) (fun _ _ n=>n) hz
 refine k { s1 with heap:=h' } Av Mu as ⟨r1.keepI I1.av I1.mu (fun ob e v q=>?_) hk hz,eR,?_,tk2⟩ ?_
 ·rw [G1.keep _ _ g] at e
  cases e
  cases q
 ·obtain ⟨⟨n3,g3⟩,q1,q2,nd,hlen,ins⟩:=O1
  refine ⟨⟨n3,hk _ _ (fun z=>I1.ne z.symm) g3⟩,q1,q2,nd,by rw [List.length_set];exact hlen,fun i b ws e1 e2=>?_⟩
  by_cases hi:i=L.length - 1
  ·subst hi
   rw [List.getElem?_set_self hL] at e2
   cases e2
   obtain rfl:b=a:=Option.some.inj (e1.symm.trans ha)
   exact ⟨⟨_,n',g',(mv (z.grow G1)).append (VRs.cons (by
    have:=(zu.grow G1)
    exact this.mono (fun b ob e n=>hk b ob (fun z=>n (z ▸ I1.av)) e) (fun _ _ n=>n) hz) VRs.nil)⟩,I1.av,I1.mu,I1.ne⟩
  ·rw [List.getElem?_set_ne (fun q=>hi q.symm)] at e2
   obtain ⟨⟨us2,n4,g4,z4⟩,p1,p2,p3⟩:=ins i b ws e1 e2
   refine ⟨⟨us2,n4,hk _ _ (fun q=>?_) g4,mv z4⟩,p1,p2,p3⟩
   subst q
   exact hi ((List.getElem?_inj (List.getElem?_eq_some_iff.mp e1).1 nd).mp (e1.trans ha.symm))
 ·refine ⟨fun b ob e n=>hk b ob (fun z=>n (.inr (.inr (z ▸ List.mem_of_getElem? ha)))) (G1.keep _ _ e),fun _ h=>.inl h,fun _ h=>.inl h,fun _ h _=>h,Nat.le_trans G1.size hz,G1.os,fun h=>G1.gens ▸ h⟩
noncomputable def tstW (L:LL):Option Bool:=(L[L.length - 1]?).bind fun ys=>(cmpOp .NotEq (.list ys) (.list [])).map fun b=>b||(L.length==1)
noncomputable def augW:EvW:=fun L st=>(tstW L).bind fun b=>if L.length≤500 then some (if b then L++[[]] else L,st) else none
theorem set_same {st:St} {i:Nat} {b:Bind} (h:st[i]? =some b):st.set i b=st:=by
 obtain ⟨h1,rfl⟩:=List.getElem?_eq_some_iff.mp h
 exact List.set_getElem_self h1
theorem Step.more {Av M Av' M' M'':Addr→Prop} {s s':Shared} (S:Step Av M s Av' M' s') (h:∀a,M'' a→M' a∨s.heap.objs.size≤a):Step Av M s Av' M'' s':=
 ⟨S.keep,fun a q=>(h a q).elim (S.mu a) .inr,S.av,S.av',S.size,S.os,S.gens⟩
theorem aug_fin {Av Mu:Addr→Prop} {env:Env} {st:St} {s s0:Shared} {Av0:Addr→Prop} {o t:Addr} {as bs:List Addr} {L:LL} {m:Nat} {x:PySem.Str} {A:Around} {K:Shared→Prop} {E:Value→Shared→Prop} (hA:Room d A) (r:R X F Av Mu env st s) (eR:st[iR]? =some (.ref o)) (hx:F.names[iR]? =some x) (hwr:F.Wr x) (O:OutAt s.heap Av Mu o as L) (ht:s.heap.get? t=some (listObj (bs.map .ref) m))
  (hb:bs=[]∨∃b,bs=[b]∧InAt s.heap Av Mu o b []∧b ∉ as∧s0.heap.objs.size≤b) (hl:L.length≤500) (S:Step Av0 (Own Mu o as) s0 Av (Own Mu o as) s) (lt0:∀a,Av0 a→a < s0.heap.objs.size)
  (k:∀s' Av' Mu' as',R X F Av' Mu' env st s'→OutAt s'.heap Av' Mu' o as' (L++bs.map fun _=>[])→Step Av0 (Own Mu o as) s0 Av' (Own Mu' o as') s'→K s'):
  wpAny (model X.prog X.w) A (inplaceOp .Add (.ref o) (.ref t)) (fun r s₃=>wpAny (model X.prog X.w) A (storeName env x r) (fun _ s'=>K s') E s₃) E s:=by
 obtain ⟨n,g⟩:=O.obj
 have hbl:bs.length≤1:=by rcases hb with rfl | ⟨b,rfl,_⟩;exact Nat.zero_le 1;exact Nat.le_refl 1
 refine iadd_list g ht (by rw [List.length_map,List.length_map,O.len];exact Nat.le_trans (Nat.add_le_add hl hbl) (by decide)) fun h' n' g' hs=>?_
 have hz:s.heap.objs.size≤h'.objs.size:=Nat.le_of_eq hs.1.symm
 have hk:∀b ob,b≠o→s.heap.get? b=some ob→h'.get? b=some ob:=fun b ob n e=>(hs.2 b n).trans e
 have mv:∀{vs xs},VRs s.heap Av vs xs→VRs h' Av vs xs:=fun q=>q.mono (fun b ob e n=>hk b ob (fun z=>n (z ▸ O.av)) e) (fun _ _ n=>n) hz
 have r2:R X F Av Mu env st { s with heap:=h' }:=r.keepI O.av O.mu (fun ob e v q=>by rw [g] at e;cases e;cases q) hk hz
 have hin:∀{a ys},InAt s.heap Av Mu o a ys→InAt h' Av Mu o a ys:=fun I=>by
  obtain ⟨⟨us,n4,g4,z4⟩,p1,p2,p3⟩:=I
  exact ⟨⟨us,n4,hk _ _ p3 g4,mv z4⟩,p1,p2,p3⟩
 have O2:OutAt h' Av Mu o (as++bs) (L++bs.map fun _=>[]):=by
  refine ⟨⟨n',by rw [List.map_append];exact g'⟩,O.av,O.mu,?_,by rw [List.length_append,List.length_append,List.length_map,O.len],fun i a ys e1 e2=>?_⟩
  ·rcases hb with rfl | ⟨b,rfl,_,hn,_⟩
   ·rw [List.append_nil];exact O.nd
   ·exact List.nodup_append.mpr ⟨O.nd,by simp,fun a ha c hc e=>hn (by rw [List.mem_singleton.mp hc] at e;exact e ▸ ha)⟩
  ·by_cases hi:i < as.length
   ·rw [List.getElem?_append_left hi] at e1
    rw [List.getElem?_append_left (O.len ▸ hi)] at e2
    exact hin (O.ins i a ys e1 e2)
   ·have hi:=Nat.le_of_not_lt hi
    rw [List.getElem?_append_right hi] at e1
    rw [List.getElem?_append_right (O.len ▸ hi),List.getElem?_map] at e2
    rcases hb with rfl | ⟨b,rfl,I,_⟩
    ·cases e1
    ·obtain ⟨c,hc,rfl⟩:=Option.map_eq_some_iff.mp e2
     obtain rfl:=List.mem_singleton.mp (List.mem_of_getElem? e1)
     exact hin I
 refine wp_store r2 hx (b:=.ref o) rfl hwr fun s3 R3 S3=>?_
 rw [set_same eR] at R3
 refine k s3 Av Mu (as++bs) R3 (O2.step S3 r2.ma) ?_
 have T:Step Av0 (Own Mu o as) s0 Av (Own Mu o as) { s with heap:=h' }:=S.trans ⟨fun b ob e n=>hk b ob (fun z=>n (.inr (.inl z))) e,fun _ h=>.inl h,fun _ h=>.inl h,fun _ h _=>h,hz,rfl,id⟩ lt0
 refine (T.more fun a q=>?_).trans (S3.wide O2) lt0
 rcases q with q | q | q
 ·exact .inl (.inl q)
 ·exact .inl (.inr (.inl q))
 ·rcases List.mem_append.mp q with q | q
  ·exact .inl (.inr (.inr q))
  ·rcases hb with rfl | ⟨b,rfl,_,_,hb⟩
   ·cases q
   ·exact .inr (List.mem_singleton.mp q ▸ hb)
theorem aug_lists {Av Mu:Addr→Prop} {env:Env} {st:St} {s s1:Shared} {o:Addr} {as:List Addr} {L:LL} {A:Around} {q13 q14 q15:Pos} {Q:Value→Shared→Prop} {E:Value→Shared→Prop} {b:Bool} (r:R X F Av Mu env st s) (O:OutAt s.heap Av Mu o as L) (G:Grow s s1)
  (k:∀t bs m s2 Av2,R X F Av2 Mu env st s2→OutAt s2.heap Av2 Mu o as L→s2.heap.get? t=some (listObj (bs.map .ref) m)→(bs=[]∨∃b,bs=[b]∧InAt s2.heap Av2 Mu o b []∧b ∉ as∧s.heap.objs.size≤b)→Step Av (Own Mu o as) s Av2 (Own Mu o as) s2→(bs.map fun _=>([]:List PV))=(if b then [[]] else [])→Q (.ref t) s2):
  (if b then wpAny (model X.prog X.w) A (eval (.List [.List [] q13] q14) env) Q E s1 else wpAny (model X.prog X.w) A (eval (.List [] q15) env) Q E s1):=by
 have r1:=r.grow G
 have O1:=O.step (Step.ofGrow (Av:=Av) (Mu:=Mu) G) r.ma
 have S1:Step Av (Own Mu o as) s Av (Own Mu o as) s1:=Step.ofGrow G
 cases b with
 | false=>
  rw [if_neg Bool.false_ne_true]
  have G2:Grow s1 { s1 with heap:=s1.heap.push (listObj [] 0) }:=Grow.push (s:=s1) _
  exact List_ (Calls.spliced_nil (wpAny_newObj_type (k _ [] 0 _ Av (r1.grow G2) (O1.step (Step.ofGrow (Av:=Av) (Mu:=Mu) G2) r.ma) (Heap.get?_push_size _ rfl) (.inl rfl) (S1.trans (Step.ofGrow G2) r.lt) rfl) (Nat.zero_le _)))
 | true=>
  rw [if_pos rfl]
  have r2:=r1.fresh (listObj [] 0)
  have T2:Step Av Mu s1 (fun a=>Av a∨a=s1.heap.objs.size) Mu { s1 with heap:=s1.heap.push (listObj [] 0) }:=Step.fresh _
  have O2:=O1.step T2 r.ma
  have G3:Grow { s1 with heap:=s1.heap.push (listObj [] 0) } { s1 with heap:=(s1.heap.push (listObj [] 0)).push (listObj [.ref s1.heap.objs.size] 0) }:=Grow.push (s:={ s1 with heap:=s1.heap.push (listObj [] 0) }) _
  refine List_ (Calls.spliced_cons (List_ (Calls.spliced_nil (wpAny_newObj_type (Calls.spliced_nil (wpAny_newObj_type (k _ [s1.heap.objs.size] 0 _ _ (r2.grow G3) (O2.step (Step.ofGrow (Av:=fun a=>Av a∨a=s1.heap.objs.size) (Mu:=Mu) G3) r2.ma) (Heap.get?_push_size _ rfl) (.inr ⟨_,rfl,⟨⟨[],0,G3.keep _ _ (Heap.get?_push_size _ rfl),VRs.nil⟩,.inr rfl,fun q=>absurd (r1.lt _ (r1.ma _ q)) (Nat.lt_irrefl _),fun q=>absurd (r1.lt _ O1.av) (q ▸ Nat.lt_irrefl _)⟩,fun q=>?_,G.size⟩) ((S1.trans (T2.wide O1) r.lt).trans (Step.ofGrow G3) r.lt) rfl) (show 1≤sizeLine by decide))) (Nat.zero_le _)))))
  obtain ⟨ys,w⟩:=O1.mem q
  exact absurd (r1.lt _ w.av) (Nat.lt_irrefl _)
set_option tactic.hygienic true in
theorem w_aug {x f:PySem.Str} {px q1 q2 q3 q4 q5 q6 q7 q8 q9 q10 q11 q12 q13 q14 q15 q16 pos:Pos} {k1 k2:Nat} (hx:F.names[iR]? =some x) (hwr:F.Wr x) (hf:f="len") (hlf:F.scope.names.lookup f=some .globalImplicit) (hgl:X.mg f=none)
    (hn:autoParam ((x==("__classdict__":PySem.Str))=false) Mine.au3._auto_1) (hd:autoParam ((x==("__debug__":PySem.Str))=false) Mine.au3._auto_1):
    SoundW X F d iR [.AugAssign (.Name x px) .Add (.IfExp (.BoolOp .Or [.Compare (.Subscript (.Name x q1) (.UnaryOp .USub (.Constant (.int 1) k1 q2) q3) q4) [.NotEq] [.List [] q5] q6,.Compare (.Call (.Name f q7) [.Name x q8] [] q9) [.Eq] [.Constant (.int 1) k2 q10] q11] q12) (.List [.List [] q13] q14) (.List [] q15) q16) pos] augW:=by
  intro A Av Mu s o as L L' env st st' Q E hA hf' W k
  obtain ⟨b,h1,h2⟩:=Option.bind_eq_some_iff.mp hf'
  obtain ⟨hl,h2⟩:=when_some h2
  cases h2
  obtain ⟨ys,h3,h4⟩:=Option.bind_eq_some_iff.mp h1
  obtain ⟨c,h4,h5⟩:=Option.map_eq_some_iff.mp h4
  obtain ⟨Av',hAv,R'⟩:=W.froz hx
  obtain ⟨r,eR,O,tk⟩:=W
  refine wpAny_mono (wpAny_toks (Q:=fun x s'=>1≤s'.toks→Q x s') ?_) (fun x s' q=>q.1 (Nat.le_trans tk q.2)) fun _ _ e=>e
  obtain ⟨n2,g2⟩:=O.obj
  have hL:=(List.getElem?_eq_some_iff.mp h3).1
  have hLp:=Nat.lt_of_le_of_lt (Nat.zero_le _) hL
  have hi:(st.set iR (.froz (.list (L.map .list))))[iR]? =some (.froz (.list (L.map .list))):=List.getElem?_set_self (List.getElem?_eq_some_iff.mp eR).1
  have e1:ownItem iR (fun _=>some (.int (-1))) (st.set iR (.froz (.list (L.map .list))))=some (.list ys):=by
    unfold ownItem
    rw [hi]
    show (if -(2 ^ 63)≤(-1:Int)∧(-1:Int) < 2 ^ 63 then (seqIndex? (-1) (L.map PV.list).length).bind ((L.map PV.list)[·]?) else none)=_
    rw [if_pos (by decide),List.length_map,seq_last hLp]
    show (L.map PV.list)[L.length - 1]? =_
    rw [List.getElem?_map,h3];rfl
  have e2:lenP iR (st.set iR (.froz (.list (L.map .list))))=some (.int L.length):=by
    unfold lenP
    rw [hi]
    show (if (L.map PV.list).length < 9223372036854775808 then some (PV.int (L.map PV.list).length) else none)=_
    rw [List.length_map,if_pos (Nat.lt_of_le_of_lt hl (by decide))]
  refine wpAny_execs_cons (wpAny_AugAssign_Name (wp_load r (r.vars iR x _ hx eR) hn (wpAny_IfExp ?_)))
  have hrest:=fun {s1:Shared} (G:Grow s s1)=>aug_lists (q13:=q13) (q14:=q14) (q15:=q15) (b:=b) (A:=A) (E:=E) (Q:=fun v s₂=>wpAny (model X.prog X.w) A (inplaceOp .Add (.ref o) v) (fun r s₃=>wpAny (model X.prog X.w) A (storeName env x r) (fun _ s'=>wpAny (model X.prog X.w) A (execs [] env) (fun x s'=>1≤s'.toks→Q x s') E s') E s₃) E s₂) r O G fun t bs m s2 Av2 r2 O2 ht hb S2 e=>aug_fin hA r2 eR hx hwr O2 ht hb hl S2 r.lt fun s' Av' Mu' as' R2 O3 S3=>wpAny_execs_nil fun tk2=>k _ _ _ _ ⟨R2,eR,by
      rw [e] at O3
      cases b with
      | false=>exact (List.append_nil L) ▸ O3
      | true=>exact O3,tk2⟩ S3
  refine isTrue_or (wpAny_isTrue_Compare1 (p_item_own hx (p_neg (k:=k1)) (fun _ _=>rfl) hn hd _ hA e1 R' fun u s1 G1 V1=>p_list0 _ hA rfl (R'.grow G1) fun v s2 G2 V2=>cmpOp_w hA h4 (V1.grow G2) V2 (wpAny_truthy_bool ?_)))
  have G:=G1.trans G2
  cases c with
  | true=>
    obtain rfl:true=b:=h5
    exact hrest G
  | false=>
    rw [Bool.false_or] at h5
    refine isTrue_or (wpAny_isTrue_Compare1 (p_len hf hx hlf hgl hn hd _ hA e2 (R'.grow G) fun u s3 G3 V3=>p_int (k:=k2) _ hA rfl ((R'.grow G).grow G3) fun v s4 G4 V4=>cmpOp_w (c:=b) hA ?_ (V3.grow G4) V4 (wpAny_truthy_bool ?_)))
    · rw [←h5]
      exact congrArg some (Bool.eq_iff_iff.mpr ((beq_iff_eq.trans (Int.ofNat_inj (n:=1))).trans beq_iff_eq.symm))
    · have G:=G.trans (G3.trans G4)
      cases b with
      | true=>exact hrest G
      | false=>exact isTrue_or_nil (hrest G)
end
open Classical in
noncomputable def allO (g:Addr→EvS):EvS:=fun st=>if h:∃r,∀o,g o st=some r then some h.choose else none
theorem allO_some {g:Addr→EvS} {st:St} {r:Fl×St} (h:allO g st=some r) (o:Addr):g o st=some r:=by
 unfold allO at h
 by_cases q:∃r,∀o,g o st=some r
 ·rw [dif_pos q] at h
  exact Option.some.inj h ▸ q.choose_spec o
 ·rw [dif_neg q] at h
  cases h
theorem allO_of {g:Addr→EvS} {st:St} {r:Fl×St} (h:∀o,g o st=some r):allO g st=some r:=by
 have q:∃r,∀o,g o st=some r:=⟨r,h⟩
 unfold allO
 rw [dif_pos q]
 exact (q.choose_spec 0).symm.trans (h 0)
section
variable {X:Cx} {F:FI} {d:Nat} {iR:Nat}
theorem new_av {Av Mu:Addr→Prop} {env:Env} {st:St} {s:Shared} {M:Model} {A:Around} {Q:Value→Shared→Prop} {E:Value→Shared→Prop} (r:R X F Av Mu env st s) {vs:List Value} (hl:vs.length≤10) (tk:1≤s.toks)
  (k:∀s' a,R X F (fun b=>Av b∨b=a) Mu env st s'→Step Av Mu s (fun b=>Av b∨b=a) Mu s'→s'.heap.get? a=some (listObj vs 0)→¬ Mu a→¬ Av a→s.heap.objs.size≤a→1≤s'.toks→Q (.ref a) s'):wpAny M A (newList vs) Q E s:=
 wpAny_newObj_type (k _ _ (r.fresh (listObj vs 0)) (Step.fresh _) (Heap.get?_push_size _ rfl) (fun q=>absurd (r.lt _ (r.ma _ q)) (Nat.lt_irrefl _)) (fun q=>absurd (r.lt _ q) (Nat.lt_irrefl _)) (Nat.le_refl _) tk) (by show vs.toArray.size≤sizeLine;rw [List.size_toArray];exact Nat.le_trans hl (by decide))
open Classical in
noncomputable def runsG (i iP iR:Nat) (x0:PySem.Str) (f:EvE) (g:EvW) (h:EvS) (o:Addr):EvS:=fun st=>(f ((st.set iR (.ref o)).set iP (.froz (.str x0)))).bind fun p=>
 if p.2[iR]? =some (.ref o) then (itemsOf p.1).bind fun xs=>(forW i g xs [[]] p.2).bind fun q=>h (q.2.set iR (.froz (.list (q.1.map .list)))) else none
theorem x_runs {x xP xR:PySem.Str} {px p1 p2 p3 p4 p5 p6 p7 pos pos2:Pos} {k0 k1 k2:Nat} {x0:PySem.Str} {iter:Expr} {b r:List Stmt} {f:EvE} {g:EvW} {h:EvS} {i iP:Nat} (hI:SoundE X F d iter f) (hb:SoundW X F d iR b g) (hr:SoundS X F d r h) (hi:F.names[i]? =some x) (hl:F.Wr x) (hP:F.names[iP]? =some xP) (hPw:F.Wr xP) (hR:F.names[iR]? =some xR) (hRw:F.Wr xR) (hne:i≠iR) (hne2:iP≠iR)
  (hsw:∀env:Env,env.scope=F.scope→swappedStores [.Tuple [.Name xP p1,.Name xR p2] k0 p3] (.Tuple [.Constant (.str x0) k1 p4,.List [.List [] p5] p6] k2 p7) env=pure (some [xP,xR]))
  (hs:autoParam (∀env,swapsWithSole [.Tuple [.Name xP p1,.Name xR p2] k0 p3] (.Tuple [.Constant (.str x0) k1 p4,.List [.List [] p5] p6] k2 p7) pos.line env=pure false) Mine.au4._auto_1)
  (hs2:autoParam (∀env x,foldedSetIterable iter env x=pure x) Mine.au1._auto_1):
  SoundS X F d (.Assign [.Tuple [.Name xP p1,.Name xR p2] k0 p3] (.Tuple [.Constant (.str x0) k1 p4,.List [.List [] p5] p6] k2 p7) pos::.For (.Name x px) iter b [] pos2::r) (allO (runsG i iP iR x0 f g h)):=by
 refine @SoundU.intro _ _ _ _ _ _ _ _ ?_
 intro A Av Mu env st st' s v Q E hA hf R₀ tk k
 refine wpAny_execs_cons (Assign_Tuple_swapped (Tuple_ (Calls.spliced_cons (Calls.Constant_str (k:=k1) (pos:=p4) (Calls.spliced_cons (List_ (Calls.spliced_cons (List_ (Calls.spliced_nil ?_)))))))) (hs env) (hsw env R₀.sc))
 have G0:Grow s { s with toks:=s.toks+1 }:=.toks
 refine new_av (R₀.grow G0) (Nat.zero_le 10) (Nat.le_succ_of_le tk) fun s1 b1 R1 S1 g1 m1 v1 l1 tk1=>Calls.spliced_nil (new_av R1 (by decide:1≤10) tk1 fun s2 o R2 S2 g2 m2 v2 l2 tk2=>Calls.spliced_nil (wpAny_newObj_type ?_ (show 2≤sizeLine by decide)))
 have hlt1:=Heap.lt_size g1
 have T2:Step Av Mu s _ Mu s2:=((Step.ofGrow G0).trans S1 R₀.lt).trans S2 R₀.lt
 have O2:OutAt s2.heap (fun b=>(Av b∨b=b1)∨b=o) Mu o [b1] [[]]:=by
  refine ⟨⟨0,g2⟩,.inr rfl,m2,by simp,rfl,fun i a ys e1 e2=>?_⟩
  obtain rfl:=List.mem_singleton.mp (List.mem_of_getElem? e1)
  obtain rfl:=List.mem_singleton.mp (List.mem_of_getElem? e2)
  exact ⟨⟨[],0,S2.keep _ _ g1 m1,VRs.nil⟩,.inl (.inr rfl),m1,fun e=>v2 (.inr e.symm)⟩
 have G3:=Grow.push (s:=s2) (tupObj [.str x0 s.toks,.ref o] 0) (tk:=s2.toks) (d:=s2.drawn)
 refine wpAny_mono (wpAny_toks (wp_unpackItems hA.1 (vs:=[.str x0 s.toks,.ref o]) (Q:=fun vs s'=>vs=[.str x0 s.toks,.ref o]∧Grow s2 s') ⟨_,Heap.get?_push_size _ rfl,rfl,_,rfl⟩ rfl fun s4 G4=>⟨rfl,G3.trans G4⟩)) ?_ fun _ _ e=>e
 rintro vs s4 ⟨⟨rfl,G⟩,tk4⟩
 refine wpAny_mono (wpAny_toks (Q:=fun _ s'=>1≤s'.toks→wpAny (model X.prog X.w) A (execs (.For (.Name x px) iter b [] pos2::r) env) Q E s') ?_) (fun x s' q=>q.1 ?_) fun _ _ e=>e
 ·refine wpAny_bind (wpAny_holding (bindName_ (wp_store (R2.grow G) hR (b:=.ref o) rfl hRw fun s5 R5 S5=>?_)))
  refine wpAny_bind (wpAny_holding (bindName_ (wp_store R5 hP (b:=.froz (.str x0)) (show VR s5.heap (fun b=>(Av b∨b=b1)∨b=o) (.str x0 s.toks) (.str x0) from VR.str') hPw fun s6 R6 S6=>wpAny_pure fun tk6=>?_)))
  have O4:=O2.step (Step.ofGrow (Av:=fun b=>(Av b∨b=b1)∨b=o) (Mu:=Mu) G) R2.ma
  have O6:=(O4.step S5 R2.ma).step S6 R5.ma
  have T6:Step Av Mu s _ Mu s6:=((T2.trans (Step.ofGrow G) R₀.lt).trans S5 R₀.lt).trans S6 R₀.lt
  have W6:WI X F iR o [b1] [[]] _ Mu env _ s6:=⟨R6,(List.getElem?_set_ne hne2).trans (List.getElem?_set_self (by rw [R₀.len];exact (List.getElem?_eq_some_iff.mp hR).1)),O6,tk6⟩
  have U6:Step Av Mu s _ (Own Mu o [b1]) s6:=T6.more fun a q=>q.imp id fun q=>by
   rcases q with rfl | q
   ·exact Nat.le_trans (Nat.le_trans G0.size (Nat.le_trans S1.size (Nat.le_refl _))) l2
   ·exact List.mem_singleton.mp q ▸ l1
  have hf':=allO_some hf o
  unfold runsG at hf'
  obtain ⟨⟨p,st1⟩,h1,h2⟩:=Option.bind_eq_some_iff.mp hf'
  obtain ⟨h2,h3⟩:=when_else h2
  obtain ⟨xs,h4,h5⟩:=Option.bind_eq_some_iff.mp h3
  obtain ⟨⟨L,st2⟩,h6,h7⟩:=Option.bind_eq_some_iff.mp h5
  refine wpAny_execs_cons (wpAny_For (hI _ hA h1 R6 tk6 fun va s7 Av7 Mu7 R7 S7 V7 tk7=>wp_iter h4 R7.lt V7 fun ob W=>?_) (hs2 env))
  have O7:=O6.step S7.toStep R6.ma
  have R8:=R7.fresh ob
  have S8:Step Av7 Mu7 s7 (fun a=>Av7 a∨a=s7.heap.objs.size) Mu7 { s7 with heap:=s7.heap.push ob }:=Step.fresh ob
  have O8:=O7.step S8 R7.ma
  have nMu:¬ Mu7 s7.heap.objs.size:=fun q=>absurd (R7.lt _ (R7.ma _ q)) (Nat.lt_irrefl _)
  have T8:=(U6.trans (S7.toStep.wide O6) R₀.lt).trans (S8.wide O7) R₀.lt
  refine code_forW hb hi hl hne hA (s₀:=s) (Nat.le_trans T6.size S7.size) R₀.lt (fun s9 Av9 Mu9 as9 W9 T9=>?_) xs (j:=0) List.drop_zero h6 ⟨R8,h2,O8,tk7⟩ T8 (.inr rfl) (O8.other nMu (by obtain ⟨o',vs,e1,e2⟩:=W.obj;exact ⟨o',vs,e1,e2⟩)) W
  obtain ⟨Av',hAv,R'⟩:=W9.froz hR
  have S':Step Av Mu s Av' Mu9 s9:=⟨T9.keep,fun a q=>T9.mu a (.inl q),fun a q=>T9.av a ((hAv a).mp q).1,fun a h n=>(hAv a).mpr ⟨T9.av' a h n,fun z=>(T9.mu a (.inr (.inl z))).elim n fun q=>absurd (R₀.lt a h) (Nat.not_lt.mpr q),fun z=>(T9.mu a (.inr (.inr z))).elim n fun q=>absurd (R₀.lt a h) (Nat.not_lt.mpr q)⟩,T9.size,T9.os,T9.gens⟩
  exact hr _ hA h7 R' W9.tk fun x s' Av'' Mu'' R'' S'' V'' tk''=>k _ _ _ _ R'' (S'.trans S'' R₀.lt) V''
 ·exact Nat.le_trans (Nat.le_trans tk2 tk4) q.2
end
noncomputable abbrev FLaw (cd:Value) (ql:Str):FI:=⟨scopeAt P1 24,["script","x","numbers","signs","name","pattern","runs","kind","mask","j","item","rows","spots","reach","k","size","total","figures","places"].map PySem.Str.ofString,[],cd,ql⟩
namespace WLaw
theorem F_x (cd:Value) (ql:Str):(FLaw cd ql).Wr (PySem.Str.ofString "x"):=⟨(fun h=>nomatch h),.inl (by kernel_rfl)⟩
theorem F_numbers (cd:Value) (ql:Str):(FLaw cd ql).Wr (PySem.Str.ofString "numbers"):=⟨(fun h=>nomatch h),.inl (by kernel_rfl)⟩
theorem F_signs (cd:Value) (ql:Str):(FLaw cd ql).Wr (PySem.Str.ofString "signs"):=⟨(fun h=>nomatch h),.inr (by kernel_rfl)⟩
theorem F_name (cd:Value) (ql:Str):(FLaw cd ql).Wr (PySem.Str.ofString "name"):=⟨(fun h=>nomatch h),.inr (by kernel_rfl)⟩
theorem F_pattern (cd:Value) (ql:Str):(FLaw cd ql).Wr (PySem.Str.ofString "pattern"):=⟨(fun h=>nomatch h),.inl (by kernel_rfl)⟩
theorem F_runs (cd:Value) (ql:Str):(FLaw cd ql).Wr (PySem.Str.ofString "runs"):=⟨(fun h=>nomatch h),.inl (by kernel_rfl)⟩
theorem F_kind (cd:Value) (ql:Str):(FLaw cd ql).Wr (PySem.Str.ofString "kind"):=⟨(fun h=>nomatch h),.inl (by kernel_rfl)⟩
theorem F_mask (cd:Value) (ql:Str):(FLaw cd ql).Wr (PySem.Str.ofString "mask"):=⟨(fun h=>nomatch h),.inr (by kernel_rfl)⟩
theorem F_j (cd:Value) (ql:Str):(FLaw cd ql).Wr (PySem.Str.ofString "j"):=⟨(fun h=>nomatch h),.inr (by kernel_rfl)⟩
theorem F_item (cd:Value) (ql:Str):(FLaw cd ql).Wr (PySem.Str.ofString "item"):=⟨(fun h=>nomatch h),.inl (by kernel_rfl)⟩
theorem F_rows (cd:Value) (ql:Str):(FLaw cd ql).Wr (PySem.Str.ofString "rows"):=⟨(fun h=>nomatch h),.inr (by kernel_rfl)⟩
theorem F_spots (cd:Value) (ql:Str):(FLaw cd ql).Wr (PySem.Str.ofString "spots"):=⟨(fun h=>nomatch h),.inl (by kernel_rfl)⟩
theorem F_reach (cd:Value) (ql:Str):(FLaw cd ql).Wr (PySem.Str.ofString "reach"):=⟨(fun h=>nomatch h),.inl (by kernel_rfl)⟩
theorem F_k (cd:Value) (ql:Str):(FLaw cd ql).Wr (PySem.Str.ofString "k"):=⟨(fun h=>nomatch h),.inl (by kernel_rfl)⟩
theorem F_size (cd:Value) (ql:Str):(FLaw cd ql).Wr (PySem.Str.ofString "size"):=⟨(fun h=>nomatch h),.inr (by kernel_rfl)⟩
theorem F_total (cd:Value) (ql:Str):(FLaw cd ql).Wr (PySem.Str.ofString "total"):=⟨(fun h=>nomatch h),.inl (by kernel_rfl)⟩
theorem F_figures (cd:Value) (ql:Str):(FLaw cd ql).Wr (PySem.Str.ofString "figures"):=⟨(fun h=>nomatch h),.inr (by kernel_rfl)⟩
theorem F_places (cd:Value) (ql:Str):(FLaw cd ql).Wr (PySem.Str.ofString "places"):=⟨(fun h=>nomatch h),.inl (by kernel_rfl)⟩
set_option maxHeartbeats 4000000 in
noncomputable def lawS {X:Cx} {d:Nat} {cd:Value} {ql:Str} (G:Glo X) {fPiece:Addr} {mPiece:List PV→Option PV} (hPiece:CallW X d fPiece mPiece) (gPiece:X.mg "_law_piece"=some (.ref fPiece)) (oPiece:∃o fd,X.B.get? fPiece=some o∧o.data=.func fd) {fRows:Addr} {mRows:List PV→Option PV} (hRows:CallW X d fRows mRows) (gRows:X.mg "_law_rows"=some (.ref fRows)) (oRows:∃o fd,X.B.get? fRows=some o∧o.data=.func fd) {fTranslate:Addr} {mTranslate:List PV→Option PV} (hTranslate:CallW X d fTranslate mTranslate) (gTranslate:X.mg "translate"=some (.ref fTranslate)) (oTranslate:∃o fd,X.B.get? fTranslate=some o∧o.data=.func fd) {fNumber:Addr} {mNumber:List PV→Option PV} (hNumber:CallW X d fNumber mNumber) (gNumber:X.mg "_law_number"=some (.ref fNumber)) (oNumber:∃o fd,X.B.get? fNumber=some o∧o.data=.func fd) {fFigures:Addr} {mFigures:List PV→Option PV} (hFigures:CallW X d fFigures mFigures) (gFigures:X.mg "_law_figures"=some (.ref fFigures)) (oFigures:∃o fd,X.B.get? fFigures=some o∧o.data=.func fd) {fLying:Addr} {mLying:List PV→Option PV} (hLying:CallW X d fLying mLying) (gLying:X.mg "_law_lying"=some (.ref fLying)) (oLying:∃o fd,X.B.get? fLying=some o∧o.data=.func fd) {fTakes:Addr} {mTakes:List PV→Option PV} (hTakes:CallW X d fTakes mTakes) (gTakes:X.mg "_law_takes"=some (.ref fTakes)) (oTakes:∃o fd,X.B.get? fTakes=some o∧o.data=.func fd):{ g:EvS // SoundS X (FLaw cd ql) d (bodyAt P1 24) g }:=by
  apply Subtype.mk
  apply s_cons
  exact (x_comp (j:=2) (own:=["x"]) (caps:=[]) (is:=[]) (i:=0) (compOK_of (by kernel_rfl)) rfl rfl (s_slice (s_cat (s_slice (s_name (i:=0) rfl) pt_none (pt_some s_int) pt_none) (s_list (es_cons s_int (es_cons s_int (es_cons s_int (es_cons s_int (es_cons s_int (es_cons s_int es_nil)))))))) pt_none (pt_some s_int) pt_none) ifs_nil (s_bin (s_name (i:=0) rfl) (s_bin s_int s_int)) rfl (F_numbers cd ql) (fun env h=>by obtain ⟨⟩:=env;cases h;kernel_rfl))
  apply s_cons
  exact (x_assign (i:=3) (s_item (s_list (es_cons s_str (es_cons s_str (es_cons s_str (es_cons s_str (es_cons s_str (es_cons s_str es_nil))))))) (s_bin (s_bin (s_callb (es_cons (s_name (i:=2) rfl) es_nil) f_sum (by kernel_rfl) G.sum boot_sum) s_int) s_int)) rfl (F_signs cd ql))
  apply s_cons
  exact (x_assign (i:=4) (s_meth s_str (es_cons (s_comp (own:=["x"]) (caps:=["signs"]) (is:=[3]) (i:=0) (compOK_of (by kernel_rfl)) rfl rfl (s_name (i:=2) rfl) ifs_nil (s_item (s_name (i:=1) rfl) (s_bin (s_name (i:=0) rfl) s_int))) es_nil) m_join) rfl (F_name cd ql))
  apply x_runs (iR:=6) (i:=1) (iP:=5) (hI:=s_name (i:=2) rfl) (hi:=rfl) (hl:=(F_x cd ql)) (hP:=rfl) (hPw:=(F_pattern cd ql)) (hR:=rfl) (hRw:=(F_runs cd ql)) (hne:=by decide) (hne2:=by decide) (hsw:=(fun env h=>by obtain ⟨⟩:=env;cases h;kernel_rfl))
  case hb=>exact (w_cons (x_assign (i:=7) (s_bin (s_bin (s_name (i:=1) rfl) s_int) s_int) rfl (F_kind cd ql))
 (w_if (b_cmp (s_name (i:=7) rfl) s_int)
 (w_cons (x_assign (i:=8) (s_item (s_tuple (es_cons s_int (es_cons s_int (es_cons s_int (es_cons s_int (es_cons s_int (es_cons s_int (es_cons s_int (es_cons s_int es_nil))))))))) (s_bin (s_name (i:=7) rfl) s_int)) rfl (F_mask cd ql))
 (w_cons (x_assign (i:=10) (s_meth s_str (es_cons (s_comp (own:=["j"]) (caps:=["mask","signs"]) (is:=[8,3]) (i:=0) (compOK_of (by kernel_rfl)) rfl rfl (s_callt (es_cons s_int es_nil) f_range (by kernel_rfl) G.range boot_range) (ifs_one (b_cmp (s_bin (s_bin (s_name (i:=1) rfl) (s_bin s_int (s_name (i:=0) rfl))) s_int) s_int)) (s_item (s_name (i:=2) rfl) (s_name (i:=0) rfl))) es_nil) m_join) rfl (F_item cd ql))
 (w_cons (x_aug (i:=5) (s_call (es_cons (s_name (i:=10) rfl) (es_cons (s_name (i:=3) rfl) (es_cons (s_bin (s_bin (s_name (i:=1) rfl) s_int) s_int) es_nil))) hPiece (by kernel_rfl) gPiece oPiece) rfl (F_pattern cd ql))
 (w_app (iR:=6) (j:=10) rfl rfl))))
 (w_cons (x_aug (i:=5) s_str rfl (F_pattern cd ql))
 (w_aug (iR:=6) rfl (F_runs cd ql) rfl (by kernel_rfl) G.len))))
  case hr=>
    apply s_cons
    exact (x_assign (i:=11) (s_call (es_cons (s_call (es_cons (s_name (i:=5) rfl) es_nil) hTranslate (by kernel_rfl) gTranslate oTranslate) (es_cons (s_name (i:=3) rfl) es_nil)) hRows (by kernel_rfl) gRows oRows) rfl (F_rows cd ql))
    apply s_cons
    exact (x_if (b_cmp (s_ofP (p_len (i:=11) rfl rfl (by kernel_rfl) G.len)) (s_ofP (p_len (i:=6) rfl rfl (by kernel_rfl) G.len)))
 (s_cons (x_ret s_true)
 s_nil)
 s_nil)
    apply s_cons
    exact (x_comp (j:=12) (own:=["sign"]) (caps:=["name"]) (is:=[4]) (i:=0) (compOK_of (by kernel_rfl)) rfl rfl (s_name (i:=3) rfl) ifs_nil (s_call (es_cons (s_comp (own:=["one"]) (caps:=["sign"]) (is:=[0]) (i:=0) (compOK_of (by kernel_rfl)) rfl rfl (s_name (i:=1) rfl) ifs_nil (s_ifexp (b_cmp (s_name (i:=0) rfl) (s_name (i:=1) rfl)) s_int s_int)) es_nil) hNumber (by kernel_rfl) gNumber oNumber) rfl (F_spots cd ql) (fun env h=>by obtain ⟨⟩:=env;cases h;kernel_rfl))
    apply s_cons
    exact (x_assign (i:=13) (s_list (es_cons s_int es_nil)) rfl (F_reach cd ql))
    apply s_cons
    exact (x_for (i:=14) (s_callt (es_cons (s_ofP (p_len (i:=6) rfl rfl (by kernel_rfl) G.len)) es_nil) f_range (by kernel_rfl) G.range boot_range)
 (s_cons (x_tup (is:=[15,16]) (xs:=["size","total"]) (vs_froz (s_callb (es_cons (s_item (s_name (i:=6) rfl) (s_name (i:=14) rfl)) es_nil) f_len (by kernel_rfl) G.len boot_len) (vs_froz s_int vs_nil)) rfl (fun x hx=>by simp only [List.mem_cons,List.not_mem_nil,or_false] at hx;rcases hx with rfl | rfl;exact (F_size cd ql);exact (F_total cd ql)) (fun env=>(.cons (fun h=>wpAny_assign_Name h) (.cons (fun h=>wpAny_assign_Name h) .nil))) (fun _=>rfl) (fun _=>by rfl) (fun env h=>by obtain ⟨⟩:=env;cases h;kernel_rfl))
 (s_cons (x_for (i:=9) (s_callt (es_cons s_int es_nil) f_range (by kernel_rfl) G.range boot_range)
 (s_cons (x_aug (i:=16) (s_bin (s_item (s_name (i:=12) rfl) (s_name (i:=9) rfl)) (s_call (es_cons (s_comp (own:=["item"]) (caps:=["j","signs"]) (is:=[9,3]) (i:=0) (compOK_of (by kernel_rfl)) rfl rfl (s_slice (s_item (s_name (i:=6) rfl) (s_name (i:=14) rfl)) pt_none pt_none (pt_some (s_ofP p_neg))) ifs_nil (s_ifexp (b_cmp (s_item (s_name (i:=2) rfl) (s_name (i:=1) rfl)) (s_name (i:=0) rfl)) s_int (s_ofP p_neg))) es_nil) hNumber (by kernel_rfl) gNumber oNumber)) rfl (F_total cd ql))
 s_nil) rfl (F_j cd ql))
 (s_cons (x_assign (i:=17) (s_call (es_cons (s_name (i:=16) rfl) (es_cons (s_bin s_int (s_name (i:=15) rfl)) es_nil)) hFigures (by kernel_rfl) gFigures oFigures) rfl (F_figures cd ql))
 (s_cons (x_if (b_cmp (s_name (i:=17) rfl) (s_call (es_cons (s_item (s_name (i:=11) rfl) (s_name (i:=14) rfl)) (es_cons (s_name (i:=4) rfl) es_nil)) hLying (by kernel_rfl) gLying oLying))
 (s_cons (x_ret s_true)
 s_nil)
 s_nil)
 (s_cons (x_assign (i:=18) (s_ifexp (b_and (b_cmp (s_name (i:=14) rfl) s_int) (b_and1 (b_cmp (s_name (i:=13) rfl) (s_list es_nil)))) (s_callt (es_cons (s_callb (es_cons (s_name (i:=13) rfl) es_nil) f_min (by kernel_rfl) G.min boot_min) (es_cons s_int es_nil)) f_range (by kernel_rfl) G.range boot_range) (s_name (i:=13) rfl)) rfl (F_places cd ql))
 (s_cons (x_comp (j:=13) (own:=["place"]) (caps:=["figures","size"]) (is:=[17,15]) (i:=0) (compOK_of (by kernel_rfl)) rfl rfl (s_name (i:=18) rfl) (ifs_one (b_and (b_cmp (s_bin (s_name (i:=0) rfl) (s_name (i:=2) rfl)) s_int) (b_and1 (b_cmp (s_item (s_name (i:=1) rfl) (s_bin (s_bin (s_name (i:=0) rfl) (s_name (i:=2) rfl)) s_int)) (s_name (i:=2) rfl))))) (s_bin (s_name (i:=0) rfl) (s_name (i:=2) rfl)) rfl (F_reach cd ql) (fun env h=>by obtain ⟨⟩:=env;cases h;kernel_rfl))
 s_nil)))))) rfl (F_k cd ql))
    apply s_cons
    exact (x_ret (s_cmp (s_name (i:=13) rfl) (s_comp (own:=["head"]) (caps:=["name","rows"]) (is:=[4,11]) (i:=0) (compOK_of (by kernel_rfl)) rfl rfl (s_callt (es_cons s_int es_nil) f_range (by kernel_rfl) G.range boot_range) (ifs_one (b_plain (s_call (es_cons (s_name (i:=2) rfl) (es_cons (s_slice (s_name (i:=1) rfl) pt_none (pt_some (s_name (i:=0) rfl)) pt_none) es_nil)) hTakes (by kernel_rfl) gTakes oTakes))) (s_name (i:=0) rfl))))
    exact s_nil
end WLaw
end Mine
end
section
open PySem PySem.W PyProof.Rows
namespace Mine
theorem noCell {scope:Scope} (h:scope.names.all (fun x=>x.2 != .cell)=true):∀x∈scope.names,x.2≠.cell:=fun x hx=>by
 have:=List.all_eq_true.mp h x hx
 simpa using this
theorem len1 {P:List Value→Prop} (h:∀a,P [a]) (vals:List Value) (e:vals.length=1):P vals:=by
 obtain ⟨a,rfl⟩:=List.length_eq_one_iff.mp e
 exact h a
theorem lenS {P:List Value→Prop} {n:Nat} (h:∀a r,r.length=n→P (a::r)):∀(vals:List Value),vals.length=n+1→P vals
 | [],e=>nomatch e
 | a::r,e=>h a r (Nat.succ.inj e)
theorem len2 {P:List Value→Prop} (h:∀a b,P [a,b]):∀vals:List Value,vals.length=2→P vals:=lenS fun a=>len1 (h a)
theorem len3 {P:List Value→Prop} (h:∀a b c,P [a,b,c]):∀vals:List Value,vals.length=3→P vals:=lenS fun a=>len2 (h a)
noncomputable abbrev tabs0:List (Addr×Addr):=[(96,92),(82,78)]
noncomputable def tq0 (T:Addr) (l c:Nat):Str:=if T=78 then (if l=79∧c=39 then "_translate.<locals>.<lambda>" else "_translate.<locals>.<genexpr>") else (if l=130∧c=4 then "_law_number.<locals>._law_read" else "_law_number.<locals>.<lambda>")
section
variable {w:World} {p:Program} {loose:List Str} {mean:ExcName→Option Value} {mg mb:Str→Option Value} {h:Heap} (T:Top p loose mean mg mb h) (hT:TabsAt tabs0 h) (KX:(K0 w.params).In h)
include T hT KX
theorem kxB:(K0 w.params).In (ghostOf h tabs0):=ghost_K hT KX (by kernel_rfl)
theorem nb0:NoneBooked (ghostOf h tabs0):=booked_of T hT KX (by kernel_rfl)
noncomputable abbrev X0:Cx:=cxOf P1 w T hT (nb0 T hT KX) tq0
theorem kxX:(K0 w.params).In (X0 T hT KX).B:=kxB T hT KX
theorem glo0:Glo (X0 T hT KX):=by
 constructor<;>exact mg_none_of KX T.g (by kernel_rfl)
theorem kUint:(K0 w.params).lookup 38=some { cls:=.type "function",data:=.func (fnData "read_uint1" P1 2 37 (Value.str (Str.ofString "cpy313.pickletools") 282)) }:=by kernel_rfl
theorem gUint:mg (PySem.Str.ofString "read_uint1")=some (.ref 38):=mg_of KX T.g (by kernel_rfl)
theorem okUint:FnOK (X0 T hT KX) 38 (fnData "read_uint1" P1 2 37 (Value.str (Str.ofString "cpy313.pickletools") 282)) (bodyAt P1 2) [PySem.Str.ofString "f"] [PySem.Str.ofString "f",PySem.Str.ofString "data"]:=
 fnOK_of (X:=X0 T hT KX) (K:=K0 w.params) (kxX T hT KX) (kUint T hT KX) (by kernel_rfl) (len1 fun a=>by kernel_rfl) ⟨_,rfl⟩ (by kernel_rfl)
theorem kDec:(K0 w.params).lookup 45=some { cls:=.type "function",data:=.func (fnData "decode_long" P1 4 44 (Value.str (Str.ofString "pickle") 292)) }:=by kernel_rfl
theorem gDec:mg (PySem.Str.ofString "decode_long")=some (.ref 45):=mg_of KX T.g (by kernel_rfl)
theorem okDec:FnOK (X0 T hT KX) 45 (fnData "decode_long" P1 4 44 (Value.str (Str.ofString "pickle") 292)) (bodyAt P1 4) [PySem.Str.ofString "data"] [PySem.Str.ofString "data"]:=
 fnOK_of (X:=X0 T hT KX) (K:=K0 w.params) (kxX T hT KX) (kDec T hT KX) (by kernel_rfl) (len1 fun a=>by kernel_rfl) ⟨_,rfl⟩ (by kernel_rfl)
theorem kLong:(K0 w.params).lookup 52=some { cls:=.type "function",data:=.func (fnData "read_long1" P1 6 51 (Value.str (Str.ofString "cpy313.pickletools") 301)) }:=by kernel_rfl
theorem gLong:mg (PySem.Str.ofString "read_long1")=some (.ref 52):=mg_of KX T.g (by kernel_rfl)
theorem okLong:FnOK (X0 T hT KX) 52 (fnData "read_long1" P1 6 51 (Value.str (Str.ofString "cpy313.pickletools") 301)) (bodyAt P1 6) [PySem.Str.ofString "f"] [PySem.Str.ofString "f",PySem.Str.ofString "n",PySem.Str.ofString "data"]:=
 fnOK_of (X:=X0 T hT KX) (K:=K0 w.params) (kxX T hT KX) (kLong T hT KX) (by kernel_rfl) (len1 fun a=>by kernel_rfl) ⟨_,rfl⟩ (by kernel_rfl)
theorem kTranslate:(K0 w.params).lookup 64=some { cls:=.type "function",data:=.func (fnData "translate" P1 9 63 (Value.str (Str.ofString "cpy313.fnmatch") 312)) }:=by kernel_rfl
theorem gTranslate:mg (PySem.Str.ofString "translate")=some (.ref 64):=mg_of KX T.g (by kernel_rfl)
theorem okTranslate:FnOK (X0 T hT KX) 64 (fnData "translate" P1 9 63 (Value.str (Str.ofString "cpy313.fnmatch") 312)) (bodyAt P1 9) [PySem.Str.ofString "pat"] [PySem.Str.ofString "pat",PySem.Str.ofString "STAR",PySem.Str.ofString "parts"]:=
 fnOK_of (X:=X0 T hT KX) (K:=K0 w.params) (kxX T hT KX) (kTranslate T hT KX) (by kernel_rfl) (len1 fun a=>by kernel_rfl) ⟨_,rfl⟩ (by kernel_rfl)
theorem thTranslate:∃o fd,(X0 T hT KX).B.get? 64=some o∧o.data=.func fd:=fn_there (X:=X0 T hT KX) (K:=K0 w.params) (kxX T hT KX) (kTranslate T hT KX)
theorem kEscape:(K0 w.params).lookup 76=some { cls:=.type "function",data:=.func (fnData "escape" P1 12 75 (Value.str (Str.ofString "re") 361)) }:=by kernel_rfl
theorem gEscape:mg (PySem.Str.ofString "escape")=some (.ref 76):=mg_of KX T.g (by kernel_rfl)
theorem okEscape:FnOK (X0 T hT KX) 76 (fnData "escape" P1 12 75 (Value.str (Str.ofString "re") 361)) (bodyAt P1 12) [PySem.Str.ofString "pattern"] [PySem.Str.ofString "pattern"]:=
 fnOK_of (X:=X0 T hT KX) (K:=K0 w.params) (kxX T hT KX) (kEscape T hT KX) (by kernel_rfl) (len1 fun a=>by kernel_rfl) ⟨_,rfl⟩ (by kernel_rfl)
theorem thEscape:∃o fd,(X0 T hT KX).B.get? 76=some o∧o.data=.func fd:=fn_there (X:=X0 T hT KX) (K:=K0 w.params) (kxX T hT KX) (kEscape T hT KX)
theorem kTrans:(K0 w.params).lookup 83=some { cls:=.type "function",data:=.func (fnData "_translate" P1 14 82 (Value.str (Str.ofString "cpy313.fnmatch") 516)) }:=by kernel_rfl
theorem gTrans:mg (PySem.Str.ofString "_translate")=some (.ref 83):=mg_of KX T.g (by kernel_rfl)
theorem okTrans:FnOK (X0 T hT KX) 83 (fnData "_translate" P1 14 82 (Value.str (Str.ofString "cpy313.fnmatch") 516)) (bodyAt P1 14) [PySem.Str.ofString "pat",PySem.Str.ofString "STAR",PySem.Str.ofString "QUESTION_MARK"] [PySem.Str.ofString "pat",PySem.Str.ofString "STAR",PySem.Str.ofString "QUESTION_MARK",PySem.Str.ofString "res",PySem.Str.ofString "add",PySem.Str.ofString "i",PySem.Str.ofString "n",PySem.Str.ofString "c",PySem.Str.ofString "j",PySem.Str.ofString "stuff",PySem.Str.ofString "chunks",PySem.Str.ofString "k",PySem.Str.ofString "chunk"]:=
 fnOK_of (X:=X0 T hT KX) (K:=K0 w.params) (kxX T hT KX) (kTrans T hT KX) (by kernel_rfl) (len3 fun a b c=>by kernel_rfl) ⟨_,rfl⟩ (by kernel_rfl)
theorem thTrans:∃o fd,(X0 T hT KX).B.get? 83=some o∧o.data=.func fd:=fn_there (X:=X0 T hT KX) (K:=K0 w.params) (kxX T hT KX) (kTrans T hT KX)
theorem kJoin:(K0 w.params).lookup 90=some { cls:=.type "function",data:=.func (fnData "_join_translated_parts" P1 15 89 (Value.str (Str.ofString "cpy313.fnmatch") 516)) }:=by kernel_rfl
theorem gJoin:mg (PySem.Str.ofString "_join_translated_parts")=some (.ref 90):=mg_of KX T.g (by kernel_rfl)
theorem okJoin:FnOK (X0 T hT KX) 90 (fnData "_join_translated_parts" P1 15 89 (Value.str (Str.ofString "cpy313.fnmatch") 516)) (bodyAt P1 15) [PySem.Str.ofString "inp",PySem.Str.ofString "STAR"] [PySem.Str.ofString "inp",PySem.Str.ofString "STAR",PySem.Str.ofString "res",PySem.Str.ofString "add",PySem.Str.ofString "i",PySem.Str.ofString "n",PySem.Str.ofString "fixed"]:=
 fnOK_of (X:=X0 T hT KX) (K:=K0 w.params) (kxX T hT KX) (kJoin T hT KX) (by kernel_rfl) (len2 fun a b=>by kernel_rfl) ⟨_,rfl⟩ (by kernel_rfl)
theorem thJoin:∃o fd,(X0 T hT KX).B.get? 90=some o∧o.data=.func fd:=fn_there (X:=X0 T hT KX) (K:=K0 w.params) (kxX T hT KX) (kJoin T hT KX)
theorem kNumber:(K0 w.params).lookup 97=some { cls:=.type "function",data:=.func (fnData "_law_number" P1 17 96 (Value.str (Str.ofString "law_ij0201_01") 550)) }:=by kernel_rfl
theorem gNumber:mg (PySem.Str.ofString "_law_number")=some (.ref 97):=mg_of KX T.g (by kernel_rfl)
theorem okNumber:FnOK (X0 T hT KX) 97 (fnData "_law_number" P1 17 96 (Value.str (Str.ofString "law_ij0201_01") 550)) (bodyAt P1 17) [PySem.Str.ofString "figures"] [PySem.Str.ofString "figures",PySem.Str.ofString "over",PySem.Str.ofString "figure",PySem.Str.ofString "_law_read",PySem.Str.ofString "stream",PySem.Str.ofString "at",PySem.Str.ofString "octets"]:=
 fnOK_of (X:=X0 T hT KX) (K:=K0 w.params) (kxX T hT KX) (kNumber T hT KX) (by kernel_rfl) (len1 fun a=>by kernel_rfl) ⟨_,rfl⟩ (by kernel_rfl)
theorem thNumber:∃o fd,(X0 T hT KX).B.get? 97=some o∧o.data=.func fd:=fn_there (X:=X0 T hT KX) (K:=K0 w.params) (kxX T hT KX) (kNumber T hT KX)
theorem kPiece:(K0 w.params).lookup 102=some { cls:=.type "function",data:=.func (fnData "_law_piece" P1 18 101 (Value.str (Str.ofString "law_ij0201_01") 550)) }:=by kernel_rfl
theorem gPiece:mg (PySem.Str.ofString "_law_piece")=some (.ref 102):=mg_of KX T.g (by kernel_rfl)
theorem okPiece:FnOK (X0 T hT KX) 102 (fnData "_law_piece" P1 18 101 (Value.str (Str.ofString "law_ij0201_01") 550)) (bodyAt P1 18) [PySem.Str.ofString "item",PySem.Str.ofString "signs",PySem.Str.ofString "dress"] [PySem.Str.ofString "item",PySem.Str.ofString "signs",PySem.Str.ofString "dress",PySem.Str.ofString "barred",PySem.Str.ofString "told",PySem.Str.ofString "front",PySem.Str.ofString "strewn",PySem.Str.ofString "middle"]:=
 fnOK_of (X:=X0 T hT KX) (K:=K0 w.params) (kxX T hT KX) (kPiece T hT KX) (by kernel_rfl) (len3 fun a b c=>by kernel_rfl) ⟨_,rfl⟩ (by kernel_rfl)
theorem thPiece:∃o fd,(X0 T hT KX).B.get? 102=some o∧o.data=.func fd:=fn_there (X:=X0 T hT KX) (K:=K0 w.params) (kxX T hT KX) (kPiece T hT KX)
theorem kSets:(K0 w.params).lookup 107=some { cls:=.type "function",data:=.func (fnData "_law_sets" P1 19 106 (Value.str (Str.ofString "law_ij0201_01") 550)) }:=by kernel_rfl
theorem gSets:mg (PySem.Str.ofString "_law_sets")=some (.ref 107):=mg_of KX T.g (by kernel_rfl)
theorem okSets:FnOK (X0 T hT KX) 107 (fnData "_law_sets" P1 19 106 (Value.str (Str.ofString "law_ij0201_01") 550)) (bodyAt P1 19) [PySem.Str.ofString "row",PySem.Str.ofString "signs"] [PySem.Str.ofString "row",PySem.Str.ofString "signs",PySem.Str.ofString "sets",PySem.Str.ofString "k",PySem.Str.ofString "barred",PySem.Str.ofString "told"]:=
 fnOK_of (X:=X0 T hT KX) (K:=K0 w.params) (kxX T hT KX) (kSets T hT KX) (by kernel_rfl) (len2 fun a b=>by kernel_rfl) ⟨_,rfl⟩ (by kernel_rfl)
theorem thSets:∃o fd,(X0 T hT KX).B.get? 107=some o∧o.data=.func fd:=fn_there (X:=X0 T hT KX) (K:=K0 w.params) (kxX T hT KX) (kSets T hT KX)
theorem kRows:(K0 w.params).lookup 112=some { cls:=.type "function",data:=.func (fnData "_law_rows" P1 20 111 (Value.str (Str.ofString "law_ij0201_01") 550)) }:=by kernel_rfl
theorem gRows:mg (PySem.Str.ofString "_law_rows")=some (.ref 112):=mg_of KX T.g (by kernel_rfl)
theorem okRows:FnOK (X0 T hT KX) 112 (fnData "_law_rows" P1 20 111 (Value.str (Str.ofString "law_ij0201_01") 550)) (bodyAt P1 20) [PySem.Str.ofString "text",PySem.Str.ofString "signs"] [PySem.Str.ofString "text",PySem.Str.ofString "signs",PySem.Str.ofString "rows",PySem.Str.ofString "held",PySem.Str.ofString "last",PySem.Str.ofString "written"]:=
 fnOK_of (X:=X0 T hT KX) (K:=K0 w.params) (kxX T hT KX) (kRows T hT KX) (by kernel_rfl) (len2 fun a b=>by kernel_rfl) ⟨_,rfl⟩ (by kernel_rfl)
theorem thRows:∃o fd,(X0 T hT KX).B.get? 112=some o∧o.data=.func fd:=fn_there (X:=X0 T hT KX) (K:=K0 w.params) (kxX T hT KX) (kRows T hT KX)
theorem kFigures:(K0 w.params).lookup 119=some { cls:=.type "function",data:=.func (fnData "_law_figures" P1 21 118 (Value.str (Str.ofString "law_ij0201_01") 550)) }:=by kernel_rfl
theorem gFigures:mg (PySem.Str.ofString "_law_figures")=some (.ref 119):=mg_of KX T.g (by kernel_rfl)
theorem okFigures:FnOK (X0 T hT KX) 119 (fnData "_law_figures" P1 21 118 (Value.str (Str.ofString "law_ij0201_01") 550)) (bodyAt P1 21) [PySem.Str.ofString "total",PySem.Str.ofString "size"] [PySem.Str.ofString "total",PySem.Str.ofString "size",PySem.Str.ofString "figures",PySem.Str.ofString "place"]:=
 fnOK_of (X:=X0 T hT KX) (K:=K0 w.params) (kxX T hT KX) (kFigures T hT KX) (by kernel_rfl) (len2 fun a b=>by kernel_rfl) ⟨_,rfl⟩ (by kernel_rfl)
theorem thFigures:∃o fd,(X0 T hT KX).B.get? 119=some o∧o.data=.func fd:=fn_there (X:=X0 T hT KX) (K:=K0 w.params) (kxX T hT KX) (kFigures T hT KX)
theorem kLying:(K0 w.params).lookup 124=some { cls:=.type "function",data:=.func (fnData "_law_lying" P1 22 123 (Value.str (Str.ofString "law_ij0201_01") 550)) }:=by kernel_rfl
theorem gLying:mg (PySem.Str.ofString "_law_lying")=some (.ref 124):=mg_of KX T.g (by kernel_rfl)
theorem okLying:FnOK (X0 T hT KX) 124 (fnData "_law_lying" P1 22 123 (Value.str (Str.ofString "law_ij0201_01") 550)) (bodyAt P1 22) [PySem.Str.ofString "row",PySem.Str.ofString "name"] [PySem.Str.ofString "row",PySem.Str.ofString "name",PySem.Str.ofString "figures",PySem.Str.ofString "place",PySem.Str.ofString "below",PySem.Str.ofString "told"]:=
 fnOK_of (X:=X0 T hT KX) (K:=K0 w.params) (kxX T hT KX) (kLying T hT KX) (by kernel_rfl) (len2 fun a b=>by kernel_rfl) ⟨_,rfl⟩ (by kernel_rfl)
theorem thLying:∃o fd,(X0 T hT KX).B.get? 124=some o∧o.data=.func fd:=fn_there (X:=X0 T hT KX) (K:=K0 w.params) (kxX T hT KX) (kLying T hT KX)
theorem kTakes:(K0 w.params).lookup 129=some { cls:=.type "function",data:=.func (fnData "_law_takes" P1 23 128 (Value.str (Str.ofString "law_ij0201_01") 550)) }:=by kernel_rfl
theorem gTakes:mg (PySem.Str.ofString "_law_takes")=some (.ref 129):=mg_of KX T.g (by kernel_rfl)
theorem okTakes:FnOK (X0 T hT KX) 129 (fnData "_law_takes" P1 23 128 (Value.str (Str.ofString "law_ij0201_01") 550)) (bodyAt P1 23) [PySem.Str.ofString "rows",PySem.Str.ofString "name"] [PySem.Str.ofString "rows",PySem.Str.ofString "name",PySem.Str.ofString "at",PySem.Str.ofString "k",PySem.Str.ofString "last",PySem.Str.ofString "places",PySem.Str.ofString "fits"]:=
 fnOK_of (X:=X0 T hT KX) (K:=K0 w.params) (kxX T hT KX) (kTakes T hT KX) (by kernel_rfl) (len2 fun a b=>by kernel_rfl) ⟨_,rfl⟩ (by kernel_rfl)
theorem thTakes:∃o fd,(X0 T hT KX).B.get? 129=some o∧o.data=.func fd:=fn_there (X:=X0 T hT KX) (K:=K0 w.params) (kxX T hT KX) (kTakes T hT KX)
theorem kLaw:(K0 w.params).lookup 134=some { cls:=.type "function",data:=.func (fnData "law" P1 24 133 (Value.str (Str.ofString "law_ij0201_01") 550)) }:=by kernel_rfl
theorem gLaw:mg (PySem.Str.ofString "law")=some (.ref 134):=mg_of KX T.g (by kernel_rfl)
theorem okLaw:FnOK (X0 T hT KX) 134 (fnData "law" P1 24 133 (Value.str (Str.ofString "law_ij0201_01") 550)) (bodyAt P1 24) [PySem.Str.ofString "script"] [PySem.Str.ofString "script",PySem.Str.ofString "x",PySem.Str.ofString "numbers",PySem.Str.ofString "signs",PySem.Str.ofString "name",PySem.Str.ofString "pattern",PySem.Str.ofString "runs",PySem.Str.ofString "kind",PySem.Str.ofString "mask",PySem.Str.ofString "j",PySem.Str.ofString "item",PySem.Str.ofString "rows",PySem.Str.ofString "spots",PySem.Str.ofString "reach",PySem.Str.ofString "k",PySem.Str.ofString "size",PySem.Str.ofString "total",PySem.Str.ofString "figures",PySem.Str.ofString "places"]:=
 fnOK_of (X:=X0 T hT KX) (K:=K0 w.params) (kxX T hT KX) (kLaw T hT KX) (by kernel_rfl) (len1 fun a=>by kernel_rfl) ⟨_,rfl⟩ (by kernel_rfl)
theorem mkLam:MakeOK (X0 T hT KX) (FTrans (.ref 82) ("_translate"++".<locals>.")) 82 78 ⟨79,39,79,76⟩ "<lambda>":=⟨rfl,(ghost_code hT).2.1,.tail _ (.head _),by kernel_rfl,make_bi T hT⟩
theorem mkGen:MakeOK (X0 T hT KX) (FTrans (.ref 82) ("_translate"++".<locals>.")) 82 78 ⟨78,37,78,98⟩ "<genexpr>":=⟨rfl,(ghost_code hT).2.1,.tail _ (.head _),by kernel_rfl,make_bi T hT⟩
theorem mkRead:MakeOK (X0 T hT KX) (FNumber (.ref 96) ("_law_number"++".<locals>.")) 96 92 ⟨130,4,132,48⟩ "_law_read":=⟨rfl,(ghost_code hT).1,.head _,by kernel_rfl,make_bi T hT⟩
theorem mkLam2:MakeOK (X0 T hT KX) (FNumber (.ref 96) ("_law_number"++".<locals>.")) 96 92 ⟨133,13,133,25⟩ "<lambda>":=⟨rfl,(ghost_code hT).1,.head _,by kernel_rfl,make_bi T hT⟩
theorem gTw:mg "_twin_re_1"=some (.ref 57):=mg_of KX T.g (by kernel_rfl)
noncomputable abbrev twF:Array Value:=#[Value.str (Str.ofString "([&~|])") 315,Value.int 32 350,Value.int 1 0,Value.none,Value.none,Value.ref 56,Value.int 0 0]
noncomputable abbrev twI:Array Value:=#[Value.int 14 0,Value.int 14 0,Value.int 4 0,Value.int 1 0,Value.int 1 0,Value.int 9 0,Value.int 0 0,Value.int 64 0,Value.int 0 0,Value.int 1342177280 0,Value.int 0 0,Value.int 0 0,Value.int 0 0,Value.int 0 0,Value.int 0 0,Value.int 17 0,Value.int 0 0,Value.int 13 0,Value.int 11 0,Value.int 9 0,Value.int 0 0,Value.int 64 0,Value.int 0 0,Value.int 1342177280 0,Value.int 0 0,Value.int 0 0,Value.int 0 0,Value.int 0 0,Value.int 0 0,Value.int 17 0,Value.int 1 0,Value.int 1 0]
theorem kTw1:(K0 w.params).lookup 57=some { cls:=.type "re.Pattern",data:=.fields twF }:=by kernel_rfl
theorem kTw2:(K0 w.params).lookup 56=some { cls:=.type "tuple",data:=.seq twI }:=by kernel_rfl
theorem pat0:PatAt (X0 T hT KX).B 57 twF 56 twI:=⟨⟨_,kxX T hT KX _ _ (kTw1 T hT KX),rfl,rfl,rfl⟩,rfl,by kernel_rfl,by kernel_rfl,⟨_,_,kxX T hT KX _ _ (kTw2 T hT KX),rfl⟩,by kernel_rfl⟩
theorem long0:LongOK (X0 T hT KX) 52 38 45:=by
 refine ⟨⟨_,⟨_,_,_,_,_,_,_,_,_,_,_,_,_,_,_,_,_,_,_,_,_⟩,_,okLong T hT KX,?_,by kernel_rfl,by kernel_rfl,by kernel_rfl,by kernel_rfl⟩,
  ⟨_,⟨_,_,_,_,_,_,_,_,_,_,_,_⟩,_,okUint T hT KX,?_,by kernel_rfl⟩,⟨_,⟨_,_,_,_,_,_,_,_,_⟩,okDec T hT KX,?_,by kernel_rfl,by kernel_rfl⟩,gUint T hT KX,gDec T hT KX,(glo0 T hT KX).len,(glo0 T hT KX).bytes,(glo0 T hT KX).int⟩
 ·exact noCell (by kernel_rfl)
 ·exact noCell (by kernel_rfl)
 ·exact noCell (by kernel_rfl)
theorem gMap:mg (PySem.Str.ofString "_special_chars_map")=some (.ref 66):=mg_of KX T.g (by kernel_rfl)
omit T hT KX in
theorem kMap (w:World):(K0 w.params).lookup 66=some { cls:=.type "dict",data:=.dict (dictOf ((K0 w.params).lookup 66)) 24 }:=by kernel_rfl
omit T hT KX in
noncomputable abbrev fMap (w:World):Int→Option Value:=fun k=>findBy (intKind P1 w).is (dictOf ((K0 w.params).lookup 66)) k
theorem map0:(X0 T hT KX).B.MapOf (intKind P1 w) 66 (fMap w):=⟨_,dictOf ((K0 w.params).lookup 66),24,kxX T hT KX _ _ (kMap w),⟨rfl,rfl,rfl⟩,rfl,keys_of (by kernel_rfl),fun _=>rfl⟩
theorem tab0:TabOK (fMap w):=tab_of (by kernel_rfl)
end
end Mine
end
section
open PySem PySem.W PyProof.Rows PySem.Builtin.Str
namespace Mine
noncomputable abbrev S (l:List Nat):Str:=⟨l.toArray⟩
theorem S_app (a b:List Nat):S a++S b=S (a++b):=PySem.Str.ext' (by rw [PySem.Str.cps_append];simp)
theorem S_len (l:List Nat):(S l).length=l.length:=by show (l.toArray).size=_;simp
theorem S_of (x:Str):x=S x.cps.toList:=PySem.Str.ext' (by simp)
theorem S_inj {a b:List Nat} (h:S a=S b):a=b:=by
 have:=congrArg (fun x:Str=>x.cps.toList) h
 simpa using this
theorem strIn1 (c:Nat) (l:List Nat):strIn (S [c]) (S l)=decide (c∈l):=by
 unfold strIn
 rw [StrLaws.found_one]
theorem flat_free (c:Nat) (z:List Nat):∀l:List Nat,c ∉ l→l.flatMap (fun d=>if d=c then z else [d])=l
 | [],_=>rfl
 | d::l,h=>by
  have h1:¬ d=c:=fun e=>h (by rw [e];exact List.mem_cons_self ..)
  rw [List.flatMap_cons,if_neg h1,flat_free c z l fun m=>h (List.mem_cons_of_mem _ m)]
  rfl
theorem flat_join (c:Nat) (z:List Nat):∀parts:List Str,(∀p∈parts,c ∉ p.cps.toList)→(Str.join ⟨#[c]⟩ parts).cps.toList.flatMap (fun d=>if d=c then z else [d])=(Str.join (S z) parts).cps.toList
 | [],_=>rfl
 | [p],h=>flat_free c z _ (h p (List.mem_singleton.mpr rfl))
 | p::q::r,h=>by
  have ih:=flat_join c z (q::r) fun a ha=>h a (List.mem_cons_of_mem _ ha)
  show (p++⟨#[c]⟩++Str.join ⟨#[c]⟩ (q::r)).cps.toList.flatMap _=(p++S z++Str.join (S z) (q::r)).cps.toList
  simp only [Str.cps_append,Array.toList_append,List.flatMap_append]
  rw [ih,flat_free c z _ (h p (List.mem_cons_self ..))]
  simp
theorem replace_S (l z:List Nat) (c:Nat):Txt.replace (S l) (S [c]) (S z)=S (l.flatMap fun d=>if d=c then z else [d]):=by
 refine PySem.Str.ext' ?_
 rw [StrLaws.replace_one]
 have h:=flat_join c z (Txt.split (S l) ⟨#[c]⟩) (StrLaws.split_free (S l) c)
 rw [StrLaws.join_split] at h
 have h2:=congrArg List.toArray h
 simpa using h2.symm
theorem occ1_aux (l:List Nat) (c hi lim:Nat) (hh:hi≤l.length):∀(n a:Nat) (st:Array Nat) (f:Nat),f≤a→st.size≤lim→
  (forIn (List.range' a n) (st,f) (StrLaws.occBody (S l) (S [c]) hi lim)).run.fst.toList=st.toList++(((List.range' a n).filter fun i=>decide (i < hi∧l[i]? =some c)).take (lim - st.size))
 | 0,a,st,f,_,_=>by simp
 | n+1,a,st,f,hf,hs=>by
  rw [List.range'_succ,List.forIn_cons]
  have e1:(a+(S [c]).length≤hi∧subAt (S l) (S [c]) a=true)↔(a < hi∧l[a]? =some c):=by
   have:=StrLaws.subAt_one (S l) c a
   have hl:(S [c]).length=1:=rfl
   have hL:(S l).length=l.length:=S_len l
   rw [hl] at this ⊢
   rw [hL] at this
   constructor
   ·rintro ⟨h1,h2⟩
    exact ⟨by lia,by simpa using this.mp ⟨by lia,h2⟩⟩
   ·rintro ⟨h1,h2⟩
    exact ⟨by lia,(this.mpr (by simpa using h2)).2⟩
  by_cases hc:a < hi∧l[a]? =some c
  ·obtain ⟨q1,q2⟩:=e1.mpr hc
   by_cases hl:st.size < lim
   ·rw [show StrLaws.occBody (S l) (S [c]) hi lim a (st,f)=pure (ForInStep.yield (st.push a,a+(S [c]).length)) from if_pos ⟨⟨⟨hl,hf⟩,q1⟩,q2⟩]
    show (forIn (List.range' (a+1) n) (st.push a,a+1) (StrLaws.occBody (S l) (S [c]) hi lim)).run.fst.toList=_
    rw [occ1_aux l c hi lim hh n (a+1) _ _ (Nat.le_refl _) (by rw [Array.size_push];lia),List.filter_cons_of_pos (by simpa using hc)]
    have:lim - st.size=(lim - (st.push a).size)+1:=by rw [Array.size_push];lia
    rw [this,List.take_succ_cons]
    simp
   ·rw [show StrLaws.occBody (S l) (S [c]) hi lim a (st,f)=pure (ForInStep.yield (st,f)) from if_neg fun q=>hl q.1.1.1]
    show (forIn (List.range' (a+1) n) (st,f) (StrLaws.occBody (S l) (S [c]) hi lim)).run.fst.toList=_
    rw [occ1_aux l c hi lim hh n (a+1) _ _ (by lia) hs]
    have:lim - st.size=0:=by lia
    rw [this]
    simp
  ·rw [show StrLaws.occBody (S l) (S [c]) hi lim a (st,f)=pure (ForInStep.yield (st,f)) from if_neg fun q=>hc (e1.mp ⟨q.1.2,q.2⟩)]
   show (forIn (List.range' (a+1) n) (st,f) (StrLaws.occBody (S l) (S [c]) hi lim)).run.fst.toList=_
   rw [occ1_aux l c hi lim hh n (a+1) _ _ (by lia) hs,List.filter_cons_of_neg (by simpa using hc)]
theorem occ1 (l:List Nat) (c lo hi lim:Nat) (hh:hi≤l.length):occurrences (S l) (S [c]) lo hi lim=(((List.range' lo (hi+1 - lo)).filter fun i=>decide (i < hi∧l[i]? =some c)).take lim):=by
 rw [StrLaws.occ_eq,occ1_aux l c hi lim hh _ _ _ _ (Nat.le_refl _) (Nat.zero_le _)]
 simp
theorem fromIdx_nat (n k:Nat):fromIndex n (k:Int)=k:=by
 unfold fromIndex
 rw [if_neg (Int.not_lt.mpr (Int.natCast_nonneg k)),Int.max_eq_right (Int.natCast_nonneg k)]
 rfl
theorem find4_S {l:List Nat} {c k j:Nat} (hj:j≤l.length):find4 (S l) (S [c]) (k:Int) (j:Int)=(match ((List.range' k (j+1 - k)).filter fun i=>decide (i < j∧l[i]? =some c)).take 1 with
  | k::_=>(k:Int)
  | []=>-1):=by
 unfold find4
 rw [fromIdx_nat,fromIdx_nat,S_len,Nat.min_eq_left hj,occ1 l c k j 1 hj]
 try rfl
theorem find1_some (l:List Nat) (c k j p:Nat) (hj:j≤l.length) (hk:k≤p) (hp:p < j) (hc:l[p]? =some c) (hno:∀i,k≤i→i < p→l[i]? ≠some c):find4 (S l) (S [c]) (k:Int) (j:Int)=(p:Int):=by
 rw [find4_S hj]
 obtain ⟨a,rfl⟩:=Nat.exists_eq_add_of_le hk
 obtain ⟨b,rfl⟩:=Nat.exists_eq_add_of_lt hp
 have h1:k+a+b+1+1 - k=a+(b+1+1):=by rw [Nat.add_assoc,Nat.add_assoc,Nat.add_assoc,Nat.add_sub_cancel_left,Nat.add_assoc]
 rw [h1,←List.range'_append_1,List.range'_succ,List.filter_append,List.filter_eq_nil_iff.mpr (fun i hi=>by
  rw [List.mem_range'_1] at hi
  rw [decide_eq_true_eq]
  exact fun q=>hno i hi.1 hi.2 q.2),List.nil_append,List.filter_cons_of_pos (by rw [decide_eq_true_eq];exact ⟨hp,hc⟩)]
 rfl
theorem find1_none (l:List Nat) (c k j:Nat) (hj:j≤l.length) (hno:∀i,k≤i→i < j→l[i]? ≠some c):find4 (S l) (S [c]) (k:Int) (j:Int)= -1:=by
 rw [find4_S hj,List.filter_eq_nil_iff.mpr (fun i hi=>by
  rw [List.mem_range'_1] at hi
  rw [decide_eq_true_eq]
  exact fun q=>hno i hi.1 q.1 q.2)]
 rfl
end Mine
end
section
open PySem PySem.W PyProof.Rows PySem.Builtin.Str
open PySem.SeqAt
namespace Mine
theorem seq_next {f g:EvS} {st st1:St} (h:f st=some (.next,st1)):seqF f g st=g st1:=by simp [seqF,bindE,h]
theorem seq_ret {f g:EvS} {st st1:St} {p:PV} (h:f st=some (.ret p,st1)):seqF f g st=some (.ret p,st1):=by simp [seqF,bindE,h,pureE]
theorem seq_brk {f g:EvS} {st st1:St} (h:f st=some (.brk,st1)):seqF f g st=some (.brk,st1):=by simp [seqF,bindE,h,pureE]
theorem pyEq_nil {xs:List PV} {ds:List PyData} (h:toPys xs=some ds) (hc:PyData.canLayAll0 ds=true) (hd:PyData.depthAll ds≤60):pyEq (.list xs) (.list [])=some xs.isEmpty:=by
 have e1:toPy (.list xs)=some (.list ds):=by unfold toPy;rw [h];rfl
 have e2:toPy (.list [])=some (.list []):=by unfold toPy toPys;rfl
 have s1:shaped (.list ds)=true:=by
  unfold shaped
  simp only [PyData.canLay0,PyData.depth,hc,Bool.true_and]
  exact decide_eq_true (by lia)
 have s2:shaped (.list [])=true:=by decide
 unfold pyEq
 rw [e1,e2]
 dsimp only
 rw [if_pos ⟨s1,s2⟩]
 cases xs with
 | nil=>unfold toPys at h;cases h;rfl
 | cons x xs=>
  cases ds with
  | nil=>unfold toPys at h;split at h<;>cases h
  | cons d ds=>rfl
theorem toPys_map {α:Type} (f:α→PV) (g:α→PyData):∀(l:List α),(∀x∈l,toPy (f x)=some (g x))→toPys (l.map f)=some (l.map g)
 | [],_=>by unfold toPys;rfl
 | x::l,h=>by
  rw [List.map_cons]
  unfold toPys
  rw [h x (List.mem_cons_self ..),toPys_map f g l fun y hy=>h y (List.mem_cons_of_mem _ hy)]
  rfl
theorem canAll_map {α:Type} (g:α→PyData):∀(l:List α),(∀x∈l,(g x).canLay0=true)→PyData.canLayAll0 (l.map g)=true
 | [],_=>by simp [PyData.canLayAll0]
 | x::l,h=>by simp [PyData.canLayAll0,h x (List.mem_cons_self ..),canAll_map g l fun y hy=>h y (List.mem_cons_of_mem _ hy)]
theorem depthAll_map {α:Type} (g:α→PyData) (n:Nat):∀(l:List α),(∀x∈l,(g x).depth≤n)→PyData.depthAll (l.map g)≤n
 | [],_=>by simp [PyData.depthAll]
 | x::l,h=>by
  have h1:=h x (List.mem_cons_self ..)
  have h2:=depthAll_map g n l fun y hy=>h y (List.mem_cons_of_mem _ hy)
  simp only [List.map_cons,PyData.depthAll]
  lia
theorem eqvAll_int:∀(is js:List Int),PyData.eqvAll (is.map .int) (js.map .int)=decide (is=js)
 | [],[]=>rfl
 | [],_::_=>rfl
 | _::_,[]=>rfl
 | i::is,j::js=>by
  simp only [List.map_cons,PyData.eqvAll,PyData.eqv,eqvAll_int is js]
  by_cases h1:i=j<;>by_cases h2:is=js<;>simp [h1,h2]
theorem toPys_int (is:List Int):toPys (is.map .int)=some (is.map .int):=toPys_map PV.int PyData.int is fun x _=>by unfold toPy;rfl
theorem shaped_ints (is:List Int):shaped (.list (is.map .int))=true:=by
 unfold shaped
 have h1:=canAll_map PyData.int is fun x _=>by simp [PyData.canLay0]
 have h2:=depthAll_map PyData.int 0 is fun x _=>by simp [PyData.depth]
 simp only [PyData.canLay0,PyData.depth,h1,Bool.true_and]
 exact decide_eq_true (by lia)
theorem pyEq_ints (is js:List Int):pyEq (.list (is.map .int)) (.list (js.map .int))=some (decide (is=js)):=by
 unfold pyEq
 have e:∀is:List Int,toPy (.list (is.map .int))=some (.list (is.map .int)):=fun is=>by unfold toPy;rw [toPys_int];rfl
 rw [e,e]
 dsimp only
 rw [if_pos ⟨shaped_ints is,shaped_ints js⟩]
 simp only [PyData.eqv,eqvAll_int]
theorem pyEq_bool (a b:Bool):pyEq (.bool a) (.bool b)=some (a==b):=by cases a<;>cases b<;>decide
end Mine
end
section
open PySem PySem.W PyProof.Rows PySem.SeqAt PySem.Builtin.Str
namespace Mine
theorem run_seq {f g:EvS} {st st1:St} {r} (h:f st=some (.next,st1)) (k:g st1=r):seqF f g st=r:=by rw [seq_next h];exact k
theorem run_bind {α β:Type} {f:St→Option (α×St)} {g:α→St→Option (β×St)} {st st1:St} {a:α} {r} (h:f st=some (a,st1)) (k:g a st1=r):bindE f g st=r:=by simp only [bindE,h];exact k
theorem run_lift {α:Type} {a:α} {o:Option α} {st:St} (h:o=some a):liftE o st=some (a,st):=by subst h;rfl
theorem run_ifT {c:Prop} [Decidable c] {α:Type} {f g:St→α} {st:St} {r} (h:c) (k:f st=r):(if c then f else g) st=r:=by rw [if_pos h];exact k
theorem r_name {st:St} {i:Nat} {p:PV} (h:st[i]? =some (.froz p)):getV i st=some (p,st):=by simp only [getV,h]
theorem r_const {α:Type} {st:St} {p:α}:pureE p st=some (p,st):=rfl
theorem r_len {st:St} {i:Nat} {p v:PV} (h:st[i]? =some (.froz p)) (h2:pyLen [p]=some v):ofP (lenP i) st=some (v,st):=by simp only [ofP,lenP,h,h2]
theorem r_lenO {st:St} {i:Nat} {xs:List PV} {v:PV} (h:st[i]? =some (.own xs)) (h2:pyLen [.list xs]=some v):ofP (lenP i) st=some (v,st):=by simp only [ofP,lenP,h,h2]
theorem r_itemO {st:St} {j:Nat} {g:St→Option PV} {xs:List PV} {i v:PV} (h:st[j]? =some (.own xs)) (h1:g st=some i) (h2:pyItem (.list xs) i=some v):ofP (ownItem j g) st=some (v,st):=by simp only [ofP,ownItem,h,h1,h2]
theorem r_ofP {st:St} {f:St→Option PV} {v:PV} (h:f st=some v):ofP f st=some (v,st):=by simp only [ofP,h]
theorem r_andT {f g:EvB} {st st1 st2:St} {c:Bool} (h1:f st=some (true,st1)) (h2:g st1=some (c,st2)):andF f g st=some (c,st2):=by simp only [andF,bindE,h1,if_true,h2]
theorem r_andF {f g:EvB} {st st1:St} (h1:f st=some (false,st1)):andF f g st=some (false,st1):=by simp [andF,bindE,h1,pureE]
theorem r_orF {f g:EvB} {st st1 st2:St} {c:Bool} (h1:f st=some (false,st1)) (h2:g st1=some (c,st2)):orF f g st=some (c,st2):=by simp [orF,bindE,h1,h2]
theorem r_orT {f g:EvB} {st st1:St} (h1:f st=some (true,st1)):orF f g st=some (true,st1):=by simp [orF,bindE,h1,pureE]
theorem r_ifT {α:Type} {t:EvB} {f g:St→Option (α×St)} {st st1:St} {r:Option (α×St)} (h:t st=some (true,st1)) (k:f st1=r):bindE t (fun c=>if c=true then f else g) st=r:=by simp only [bindE,h,if_true,k]
theorem r_ifF {α:Type} {t:EvB} {f g:St→Option (α×St)} {st st1:St} {r:Option (α×St)} (h:t st=some (false,st1)) (k:g st1=r):bindE t (fun c=>if c=true then f else g) st=r:=by simp [bindE,h,k]
theorem r_set {i:Nat} {f:EvE} {st st1 st2:St} {p:PV} (h:f st=some (p,st1)) (h2:st1.set i (.froz p)=st2):bindE f (fun p=>setV i p) st=some (.next,st2):=by simp only [bindE,h,setV,h2]
theorem r_aug {i:Nat} {op:Operator} {f:EvE} {st st2 st3:St} {a b c:PV} (h1:st[i]? =some (.froz a)) (h2:f st=some (b,st2)) (h3:augOp op a b=some c) (h4:st2.set i (.froz c)=st3):augF i op f st=some (.next,st3):=by simp only [augF,bindE,getV,h1,h2,h3,liftE,setV,h4]
theorem r_app {i:Nat} {f:EvE} {st st1 st2:St} {a:PV} {xs:List PV} (h1:f st=some (a,st1)) (h2:st1[i]? =some (.own xs)) (h3:xs.length≤16777215) (h4:st1.set i (.own (xs++[a]))=st2):appF i f st=some (.next,st2):=by simp only [appF,bindE,h1,h2,h3,if_true,h4]
theorem r_own0 {i:Nat} {st st2:St} (h1:noMeth i st=true) (h2:st.set i (.own [])=st2):bindE (pureE []) (fun as=>setOwn i as) st=some (.next,st2):=by simp [bindE,pureE,setOwn,h1,h2]
theorem r_slice {f:EvE} {a b c:St→Option (Option Int×St)} {st st1 st2 st3 st4:St} {p r:PV} {x y z:Option Int} (h:f st=some (p,st1)) (h1:a st1=some (x,st2)) (h2:b st2=some (y,st3)) (h3:c st3=some (z,st4)) (h4:pySlice p x y z=some r):
  bindE f (fun o=>bindE a fun x=>bindE b fun y=>bindE c fun z=>liftE (pySlice o x y z)) st=some (r,st4):=by simp only [bindE,h,h1,h2,h3,h4,liftE]
theorem bin_add (a b:Int):binOp .Add (.int a) (.int b)=some (.int (a+b)):=rfl
theorem bin_sub (a b:Int):binOp .Sub (.int a) (.int b)=some (.int (a - b)):=rfl
theorem gt_I (a b:Int):cmpOp .Gt (.int a) (.int b)=some (decide (a>b)):=rfl
theorem lt_I (a b:Int):cmpOp .Lt (.int a) (.int b)=some (decide (a < b)):=rfl
theorem le_I (a b:Int):cmpOp .LtE (.int a) (.int b)=some (decide (a≤b)):=rfl
theorem ge_I (a b:Int):cmpOp .GtE (.int a) (.int b)=some (decide (a≥b)):=rfl
theorem eq_I (a b:Int):cmpOp .Eq (.int a) (.int b)=some (a==b):=rfl
theorem len_L (l:List PV) (h:l.length < 9223372036854775808):pyLen [.list l]=some (.int l.length):=if_pos h
theorem len_St (l:Str) (h:l.length < 9223372036854775808):pyLen [.str l]=some (.int l.length):=if_pos h
theorem r_ifbrk {t:EvB} {g:EvS} {st st1:St} (h:t st=some (true,st1)):bindE t (fun c=>if c=true then seqF (pureE .brk) (pureE .next) else g) st=some (.brk,st1):=by rw [r_ifT h rfl];rfl
theorem r_add {i j:Nat} {f:EvE} {st st1 st2:St} {a:PV} {xs:List PV} (h0:methIs j st[i]? =true) (h1:f st=some (a,st1)) (h2:methIs j st1[i]? =true) (h3:st1[j]? =some (.own xs)) (h4:xs.length≤16777215) (h5:st1.set j (.own (xs++[a]))=st2):addF i j f st=some (.next,st2):=by
 simp only [addF,h0,h1,h2,h3,h4,if_true,h5]
theorem r_not {f:EvB} {st st1:St} {b:Bool} (h:f st=some (b,st1)):bindE f (fun b=>pureE (!b)) st=some (!b,st1):=by simp only [bindE,h,pureE]
theorem r_nameT {st:St} {i:Nat} {p:PV} {b:Bool} (h:st[i]? =some (.froz p)) (h2:truthOf p=some b):nameT i st=some (b,st):=by simp only [nameT,h,h2]
noncomputable abbrev C (c:Nat):PV:=.str (S [c])
theorem len_S (l:List Nat):(S l).cps.toList=l:=by simp
theorem strIdx (a b:Option Int) (n:Nat):strSliceIndices a b 1 n=(List.range (clipN b n n - clipN a 0 n)).map fun k=>clipN a 0 n+k:=by
 rw [←range_nat]
 unfold strSliceIndices
 simp only [show ((1:Int)>0)=True from by simp,if_true]
 rw [←clip_cast a 0 n 0 rfl,←clip_cast b n n n rfl]
 cases a<;>cases b<;>rfl
set_option tactic.hygienic true in
theorem strSl_S (l:List Nat) (a b:Option Int):strSl (S l) a b none=S ((l.drop (clipN a 0 l.length)).take (clipN b l.length l.length - clipN a 0 l.length)):=by
 have hl:(S l).length=l.length:=S_len l
 have e:((strSliceIndices a b 1 (S l).length).filterMap ((S l).cps[·]?))=(l.drop (clipN a 0 l.length)).take (clipN b l.length l.length - clipN a 0 l.length):=by
  rw [hl,strIdx]
  have:=picksO l (clipN a 0 l.length) (clipN b l.length l.length) (clipN_le b (Nat.le_refl _))
  rw [←this]
  congr 1
  funext x
  simp
 unfold strSl
 simp only [Option.getD_none,e]
 split
 ·next h=>
  have h2:(strSliceIndices a b 1 (S l).length).length=l.length:=by
   have:=h
   simp only [Bool.and_eq_true,beq_iff_eq] at this
   rw [this.2,hl]
  rw [hl,strIdx,List.length_map,List.length_range] at h2
  have hb:=clipN_le b (Nat.le_refl l.length)
  by_cases h3:clipN a 0 l.length=0
  ·rw [h3] at h2 ⊢
   rw [h2]
   simp
  ·have:l.length=0:=by lia
   have:l=[]:=List.length_eq_zero_iff.mp this
   subst this
   simp
 ·rfl
theorem slS (l:List Nat) (a b:Option Int) (h:l.length≤16777216):pySlice (.str (S l)) a b none=some (.str (S ((l.drop (clipN a 0 l.length)).take (clipN b l.length l.length - clipN a 0 l.length)))):=by
 unfold pySlice
 rw [if_neg (by simp)]
 dsimp only
 rw [strSl_S,if_pos]
 rw [S_len]
 exact Nat.le_trans (List.length_take_le' ..) (Nat.le_trans (by rw [List.length_drop];exact Nat.sub_le _ _) h)
theorem slL (l:List PV) (a b:Option Int) (h:l.length≤16777216):pySlice (.list l) a b none=some (.list ((l.drop (clipN a 0 l.length)).take (clipN b l.length l.length - clipN a 0 l.length))):=by
 unfold pySlice
 rw [if_neg (by simp)]
 dsimp only
 rw [listSl_eq,if_pos h]
theorem seqIdx_nat {k n:Nat} (h:k < n):seqIndex? (k:Int) n=some k:=by
 unfold seqIndex?
 rw [if_neg (Int.not_lt.mpr (Int.natCast_nonneg k))]
 exact if_pos (Bool.and_eq_true_iff.mpr ⟨decide_eq_true (Int.natCast_nonneg k),decide_eq_true (Int.ofNat_lt.mpr h)⟩)
theorem i63 {k:Nat} (h:k≤16777216): -(2 ^ 63)≤(k:Int)∧(k:Int) < 2 ^ 63:=⟨Int.le_trans (by decide) (Int.natCast_nonneg k),Int.ofNat_lt.mpr (Nat.lt_of_le_of_lt h (by decide:16777216 < 9223372036854775808))⟩
theorem pyItem_nat {o:PV} {k:Nat} (h:k≤16777216):pyItem o (.int k)=itemI k o:=by
 unfold pyItem asInt
 rw [Option.bind_some,if_pos (i63 h)]
theorem get_lt' {α:Type} {l:List α} {k:Nat} {c:α} (h:l[k]? =some c):k < l.length:=(List.getElem?_eq_some_iff.mp h).1
theorem item_S (l:List Nat) (k c:Nat) (h:l[k]? =some c) (hl:l.length≤16777216):pyItem (.str (S l)) (.int k)=some (C c):=by
 rw [pyItem_nat (Nat.le_trans (Nat.le_of_lt (get_lt' h)) hl)]
 show ((seqIndex? (k:Int) (S l).length).bind ((S l).cps[·]?)).map _=_
 rw [S_len,seqIdx_nat (get_lt' h),Option.bind_some,List.getElem?_toArray,h]
 rfl
theorem item_L (l:List PV) (k:Nat) (c:PV) (h:l[k]? =some c) (hl:l.length≤16777216):pyItem (.list l) (.int k)=some c:=by
 rw [pyItem_nat (Nat.le_trans (Nat.le_of_lt (get_lt' h)) hl)]
 show (seqIndex? (k:Int) l.length).bind _=_
 rw [seqIdx_nat (get_lt' h)]
 exact h
theorem range_n {a b:Int} (ha: -(2 ^ 62)≤a) (ha':a < 2 ^ 62) (hb: -(2 ^ 62)≤b) (hb':b < 2 ^ 62):itemsOf (.range a b 1)=some ((List.range (b - a).toNat).map fun (j:Nat)=>PV.int (a+j)):=by
 unfold itemsOf
 dsimp only
 rw [if_pos ⟨small_one ha ha' hb hb',rangeSize_nat a b ▸ Int.natCast_nonneg _⟩,rangeSize_nat,Int.toNat_natCast]
 exact congrArg some (List.map_congr_left fun j _=>congrArg PV.int (congrArg (a+·) (Int.mul_one _)))
theorem items_range (n:Nat) (h:n < 1000000000):itemsOf (.range 0 n 1)=some ((List.range n).map fun (j:Nat)=>.int j):=by
 rw [range_n (by decide) (by decide) (Int.le_trans (by decide) (Int.natCast_nonneg n)) (Int.ofNat_lt.mpr (Nat.lt_trans h (by decide))),Int.sub_zero,Int.toNat_natCast]
 exact congrArg some (List.map_congr_left fun j _=>congrArg PV.int (Int.zero_add _))
noncomputable def render (p:Nat×Nat):List Nat:=if p.1=p.2 then [p.1] else [p.1,45,p.2]
theorem of_e:PySem.Str.ofString ""=S []:=rfl
theorem of_zy:PySem.Str.ofString "z-y"=S [122,45,121]:=by rfl
theorem of_ch:PySem.Str.ofString "]-"=S [93,45]:=by rfl
theorem add_S (a b:List Nat) (h:a.length+b.length≤16777216):binOp .Add (.str (S a)) (.str (S b))=some (.str (S (a++b))):=by
 show (if (S a).length+(S b).length≤16777216 then some (PV.str (S a++S b)) else none)=_
 rw [S_len,S_len,if_pos h,S_app]
theorem aug_S (a b:List Nat) (h:a.length+b.length≤16777216):augOp .Add (.str (S a)) (.str (S b))=some (.str (S (a++b))):=add_S a b h
theorem notIn_S (c:Nat) (l:List Nat):cmpOp .NotIn (C c) (.str (S l))=some (!decide (c∈l)):=by
 show some (!strIn (S [c]) (S l))=_
 rw [strIn1]
theorem in_S (c:Nat) (l:List Nat):cmpOp .In (C c) (.str (S l))=some (decide (c∈l)):=by
 show some (strIn (S [c]) (S l))=_
 rw [strIn1]
theorem eq_S (a b:List Nat):cmpOp .Eq (.str (S a)) (.str (S b))=some (a==b):=by
 show some ((S a).cps.toList==(S b).cps.toList)=_
 rw [len_S,len_S]
theorem bin_fd (a b:Int) (h:b≠0∧b.natAbs < 1073741824):binOp .FloorDiv (.int a) (.int b)=some (.int (a.fdiv b)):=by
 show (if b≠0∧b.natAbs < 1073741824 then some (PV.int (a.fdiv b)) else none)=_
 rw [if_pos h]
noncomputable abbrev fN (n:Nat):Bind:=.froz (.int ((n:Nat):Int))
noncomputable abbrev fS (l:List Nat):Bind:=.froz (.str (S l))
theorem lt_T (x n:Nat) (h:x < n):cmpOp .Lt (.int (x:Int)) (.int (n:Int))=some true:=by rw [lt_I,decide_eq_true (by lia)]
theorem lt_F (x n:Nat) (h:¬ x < n):cmpOp .Lt (.int (x:Int)) (.int (n:Int))=some false:=by rw [lt_I,decide_eq_false (by lia)]
noncomputable def Ev {α:Type} (f:St→Option (α×St)) (st:St) (v:α):Prop:=f st=some (v,st)
noncomputable def Do (f:EvS) (st st':St):Prop:=f st=some (.next,st')
noncomputable def kN (i:Nat):EvE:=getV i
noncomputable def kI (n:Int):EvE:=pureE (.int n)
noncomputable def kS (l:List Nat):EvE:=pureE (.str (S l))
noncomputable def kBin (op:Operator) (f g:EvE):EvE:=bindE f fun a=>bindE g fun b=>liftE (binOp op a b)
noncomputable def kCmp (op:CmpOp) (f g:EvE):EvB:=cmpF op f g
noncomputable def kIt (f g:EvE):EvE:=bindE f fun a=>bindE g fun b=>liftE (pyItem a b)
noncomputable def kLen (i:Nat):EvE:=ofP (lenP i)
noncomputable def kOwn (i:Nat) (g:St→Option PV):EvE:=ofP (ownItem i g)
noncomputable def kA1 (f:EvE):St→Option (List PV×St):=bindE f fun a=>bindE (pureE []) fun as=>pureE (a::as)
noncomputable def kA2 (f g:EvE):St→Option (List PV×St):=bindE f fun a=>bindE (kA1 g) fun as=>pureE (a::as)
noncomputable def kA3 (f g h:EvE):St→Option (List PV×St):=bindE f fun a=>bindE (kA2 g h) fun as=>pureE (a::as)
noncomputable def kF (m:List PV→Option PV) (as:St→Option (List PV×St)):EvE:=bindE as fun as=>liftE (m as)
noncomputable def kM (f:EvE) (m:PV→List PV→Option PV) (as:St→Option (List PV×St)):EvE:=bindE f fun o=>bindE as fun as=>liftE (m o as)
noncomputable def kAs (f:EvE):St→Option (Option Int×St):=bindE f fun p=>liftE (asI p)
noncomputable def kNo:St→Option (Option Int×St):=pureE none
noncomputable def kSl (f:EvE) (a b:St→Option (Option Int×St)):EvE:=bindE f fun o=>bindE a fun x=>bindE b fun y=>bindE kNo fun z=>liftE (pySlice o x y z)
noncomputable def kP2 (op:Operator) (f g:St→Option PV):St→Option PV:=fun st=>match f st,g st with
 | some a,some b=>binOp op a b
 | _,_=>none
noncomputable def kV (f:EvE) (g:St→Option (List El×St)):St→Option (List El×St):=bindE f fun a=>bindE g fun as=>pureE (El.froz a::as)
noncomputable def kCV (op:CmpOp) (f g:EvE):EvE:=bindE (cmpF op f g) fun b=>pureE (PV.bool b)
noncomputable def kIf {α:Type} (t:EvB) (f g:St→Option (α×St)):St→Option (α×St):=bindE t fun c=>if c=true then f else g
noncomputable def kNot (t:EvB):EvB:=bindE t fun b=>pureE (!b)
noncomputable def dSet (i:Nat) (f:EvE):EvS:=bindE f fun p=>setV i p
noncomputable def dNil:EvS:=pureE .next
noncomputable def dBrk:EvS:=pureE .brk
noncomputable def dFor (i:Nat) (f:EvE) (g:EvS):EvS:=bindE f fun p=>bindE (liftE (itemsOf p)) fun xs=>forF i g xs
section
variable {st st' st1 st2:St} {f g:EvE} {a b c p v:PV} {i j:Nat}
theorem q_N (h:st[i]? =some (.froz p)):Ev (kN i) st p:=r_name h
theorem q_I {n:Int}:Ev (kI n) st (.int n):=rfl
theorem q_S {l:List Nat}:Ev (kS l) st (.str (S l)):=rfl
theorem ev2 {α β γ:Type} {f:St→Option (α×St)} {g:St→Option (β×St)} {m:α→β→Option γ} {a:α} {b:β} {c:γ} (h1:Ev f st a) (h2:Ev g st b) (h3:m a b=some c):Ev (bindE f fun a=>bindE g fun b=>liftE (m a b)) st c:=by
 unfold Ev at *
 simp only [bindE,h1,h2,h3,liftE]
theorem ev1 {α γ:Type} {f:St→Option (α×St)} {m:α→Option γ} {a:α} {c:γ} (h1:Ev f st a) (h3:m a=some c):Ev (bindE f fun a=>liftE (m a)) st c:=by
 unfold Ev at *
 simp only [bindE,h1,h3,liftE]
theorem q_Bin {op:Operator} (h1:Ev f st a) (h2:Ev g st b) (h3:binOp op a b=some c):Ev (kBin op f g) st c:=ev2 h1 h2 h3
theorem q_Cmp {op:CmpOp} {c:Bool} (h1:Ev f st a) (h2:Ev g st b) (h3:cmpOp op a b=some c):Ev (kCmp op f g) st c:=ev2 h1 h2 h3
theorem q_It (h1:Ev f st a) (h2:Ev g st b) (h3:pyItem a b=some c):Ev (kIt f g) st c:=ev2 h1 h2 h3
theorem q_Len (h:st[i]? =some (.froz p)) (h2:pyLen [p]=some v):Ev (kLen i) st v:=r_len h h2
theorem q_LenO {xs:List PV} (h:st[i]? =some (.own xs)) (h2:pyLen [.list xs]=some v):Ev (kLen i) st v:=r_lenO h h2
theorem q_OwnO {g:St→Option PV} {xs:List PV} (h:st[i]? =some (.own xs)) (h1:g st=some a) (h2:pyItem (.list xs) a=some v):Ev (kOwn i g) st v:=r_itemO h h1 h2
theorem q_A1 (h:Ev f st a):Ev (kA1 f) st [a]:=by
 unfold Ev kA1 at *
 simp only [bindE,h,pureE]
theorem q_Acons {g:St→Option (List PV×St)} {as:List PV} (h:Ev f st a) (h2:Ev g st as):Ev (bindE f fun a=>bindE g fun as=>pureE (a::as)) st (a::as):=by
 unfold Ev at *
 simp only [bindE,h,h2,pureE]
theorem q_A2 {h:EvE} (h1:Ev f st a) (h2:Ev g st b):Ev (kA2 f g) st [a,b]:=q_Acons h1 (q_A1 h2)
theorem q_A3 {h:EvE} (h1:Ev f st a) (h2:Ev g st b) (h3:Ev h st c):Ev (kA3 f g h) st [a,b,c]:=q_Acons h1 (q_A2 (h:=h) h2 h3)
theorem q_F {m:List PV→Option PV} {as:St→Option (List PV×St)} {xs:List PV} (h1:Ev as st xs) (h2:m xs=some v):Ev (kF m as) st v:=ev1 h1 h2
theorem q_M {m:PV→List PV→Option PV} {as:St→Option (List PV×St)} {xs:List PV} (h:Ev f st a) (h1:Ev as st xs) (h2:m a xs=some v):Ev (kM f m as) st v:=ev2 h h1 h2
theorem q_As {o:Option Int} (h:Ev f st a) (h2:asI a=some o):Ev (kAs f) st o:=ev1 h h2
theorem q_No:Ev kNo st none:=rfl
theorem q_Sl {x y:St→Option (Option Int×St)} {u w:Option Int} (h:Ev f st a) (h1:Ev x st u) (h2:Ev y st w) (h3:pySlice a u w none=some c):Ev (kSl f x y) st c:=r_slice h h1 h2 rfl h3
theorem q_V {g:St→Option (List El×St)} {es:List El} (h:Ev f st a) (k:Ev g st es):Ev (kV f g) st (.froz a::es):=by
 unfold Ev kV at *
 simp only [bindE,h,k,pureE]
theorem q_CV {op:CmpOp} {c:Bool} (h1:Ev f st a) (h2:Ev g st b) (h3:cmpOp op a b=some c):Ev (kCV op f g) st (.bool c):=by
 unfold Ev kCV
 rw [run_bind (show cmpF op f g st=some (c,st) from ev2 h1 h2 h3) rfl]
 rfl
theorem q_IfT {α:Type} {t:EvB} {f g:St→Option (α×St)} {v:α} (h:Ev t st true) (k:Ev f st v):Ev (kIf t f g) st v:=r_ifT h k
theorem q_IfF {α:Type} {t:EvB} {f g:St→Option (α×St)} {v:α} (h:Ev t st false) (k:Ev g st v):Ev (kIf t f g) st v:=r_ifF h k
theorem q_AndT {s t:EvB} {b:Bool} (h:Ev s st true) (k:Ev t st b):Ev (andF s t) st b:=r_andT h k
theorem q_AndF {s t:EvB} (h:Ev s st false):Ev (andF s t) st false:=r_andF h
theorem q_Not {t:EvB} {b:Bool} (h:Ev t st b):Ev (kNot t) st (!b):=r_not h
theorem q_T {b:Bool} (h:st[i]? =some (.froz p)) (h2:truthOf p=some b):Ev (nameT i) st b:=r_nameT h h2
theorem D_seq {f g:EvS} (h:Do f st st1) (k:Do g st1 st2):Do (seqF f g) st st2:=run_seq h k
theorem D_one {f:EvS} (h:Do f st st1):Do (seqF f dNil) st st1:=run_seq h rfl
theorem D_nil:Do dNil st st:=rfl
theorem D_set (h:Ev f st v) (h2:st.set i (.froz v)=st'):Do (dSet i f) st st':=r_set h h2
theorem D_IfT {t:EvB} {f g:EvS} (h:Ev t st true) (k:Do f st st1):Do (kIf t f g) st st1:=r_ifT h k
theorem D_IfF {t:EvB} {f g:EvS} (h:Ev t st false) (k:Do g st st1):Do (kIf t f g) st st1:=r_ifF h k
theorem D_aug {op:Operator} (h1:st[i]? =some (.froz a)) (h2:Ev f st b) (h3:augOp op a b=some c) (h4:st.set i (.froz c)=st'):Do (augF i op f) st st':=r_aug h1 h2 h3 h4
theorem D_app {xs:List PV} (h1:Ev f st a) (h2:st[i]? =some (.own xs)) (h3:xs.length≤16777215) (h4:st.set i (.own (xs++[a]))=st'):Do (appF i f) st st':=r_app h1 h2 h3 h4
theorem D_add {xs:List PV} (h0:methIs j st[i]? =true) (h1:Ev f st a) (h3:st[j]? =some (.own xs)) (h4:xs.length≤16777215) (h5:st.set j (.own (xs++[a]))=st'):Do (addF i j f) st st':=r_add h0 h1 h0 h3 h4 h5
theorem D_wF {t:EvB} {b:EvS} {n:Nat} (h:Ev t st false):Do (whileF t b (n+1)) st st:=run_bind h rfl
theorem D_wT {t:EvB} {b:EvS} {n:Nat} (h:Ev t st true) (h1:Do b st st1) (h2:Do (whileF t b n) st1 st2):Do (whileF t b (n+1)) st st2:=by
 refine run_bind h (run_ifT rfl (run_bind h1 ?_))
 exact h2
theorem D_wB {t:EvB} {b:EvS} {n:Nat} (h:Ev t st true) (h1:b st=some (.brk,st1)):Do (whileF t b (n+1)) st st1:=by
 refine run_bind h (run_ifT rfl (run_bind h1 ?_))
 rfl
theorem D_forE {f:EvE} {g:EvS} {xs:List PV} (h:Ev f st p) (h2:itemsOf p=some xs) (k:Do (forF i g xs) st st1):Do (dFor i f g) st st1:=by
 unfold Do dFor
 rw [run_bind h (run_bind (run_lift h2) k)]
end
noncomputable def pe:List Int→Int
 | []=>0
 | x::xs=>x+256 * pe xs
noncomputable def allL (vs:List Int):Nat→List (List Int)
 | 0=>[[]]
 | n+1=>vs.flatMap fun v=>(allL vs n).map (v::·)
theorem mem_allL {vs:List Int}:∀{l:List Int},(∀x∈l,x∈vs)→l∈allL vs l.length
 | [],_=>List.mem_singleton.mpr rfl
 | x::l,h=>List.mem_flatMap.mpr ⟨x,h x List.mem_cons_self,List.mem_map.mpr ⟨l,mem_allL fun y hy=>h y (List.mem_cons_of_mem _ hy),rfl⟩⟩
noncomputable def intIs (r:Option PV) (i:Int):Bool:=match r with
 | some (.int x)=>x==i
 | _=>false
theorem intIs_of {r:Option PV} {i:Int} (h:intIs r i=true):r=some (.int i):=by
 unfold intIs at h
 split at h
 ·rw [beq_iff_eq.mp h]
 ·cases h
section
variable {X:Cx} {d:Nat} {cd:Value} {ql:PySem.Str} (G:Glo X) {c T fL fU fD:Addr} (okN:LongOK X fL fU fD) (okD:MakeOK X (FNumber cd ql) c T ⟨130,4,132,48⟩ "_law_read") (okL:MakeOK X (FNumber cd ql) c T ⟨133,13,133,25⟩ "<lambda>") (hgL:X.mg (PySem.Str.ofString "read_long1")=some (.ref fL))
noncomputable def nmChk (vs:List Int) (n:Nat):Bool:=(allL vs n).all fun fs=>intIs (runF (WNumber.numberS (X:=X) (d:=d) (cd:=cd) (ql:=ql) G okN okD okL hgL).1 7 [.list (fs.map .int)]) (pe fs)
theorem nm_01:nmChk (d:=d) G okN okD okL hgL [0,1] 6=true:=by kernel_rfl
theorem nm_pm:((List.range 7).all fun n=>nmChk (d:=d) G okN okD okL hgL [1,-1] n)=true:=by kernel_rfl
theorem number_run1 {fs:List Int} (h:(fs.length=6∧∀x∈fs,x=0∨x=1)∨(fs.length≤6∧∀x∈fs,x=1∨x= -1)):runF (WNumber.numberS (X:=X) (d:=d) (cd:=cd) (ql:=ql) G okN okD okL hgL).1 7 [.list (fs.map .int)]=some (.int (pe fs)):=by
  rcases h with ⟨hl,hx⟩ | ⟨hl,hx⟩
  · have hm:=mem_allL (vs:=[0,1]) (l:=fs) fun x h=>by
      rcases hx x h with rfl | rfl<;>decide
    rw [hl] at hm
    exact intIs_of (List.all_eq_true.mp (nm_01 G okN okD okL hgL) fs hm)
  · have hm:=mem_allL (vs:=[1,-1]) (l:=fs) fun x h=>by
      rcases hx x h with rfl | rfl<;>decide
    exact intIs_of (List.all_eq_true.mp (List.all_eq_true.mp (nm_pm G okN okD okL hgL) fs.length (List.mem_range.mpr (Nat.lt_succ_of_le hl))) fs hm)
end
noncomputable def esc (c:Nat):List Nat:=if c=92 then [92,92] else if c=45 then [92,45] else [c]
noncomputable def escR (l:List Nat):List Nat:=l.flatMap esc
noncomputable def e92 (c:Nat):List Nat:=if c=92 then [92,92] else [c]
theorem esc_two (l:List Nat):(l.flatMap e92).flatMap (fun d=>if d=45 then [92,45] else [d])=escR l:=by
 unfold escR
 rw [List.flatMap_assoc]
 congr 1
 funext c
 unfold e92 esc
 by_cases h:c=92
 ·simp [h]
 ·by_cases h2:c=45<;>simp [h,h2]
noncomputable def segs (bk:List Nat):List Nat→List (Nat×Nat)→List (List Nat)
 | cur,[]=>[cur++bk]
 | cur,p::r=>if p.1=p.2 then segs bk (cur++[p.1]) r else (cur++[p.1])::segs bk [p.2] r
noncomputable def joinH:List (List Nat)→List Nat
 | []=>[]
 | [x]=>x
 | x::y::r=>x++45::joinH (y::r)
theorem txt_joinH:∀l:List (List Nat),PySem.Str.join (S [45]) (l.map S)=S (joinH l)
 | []=>rfl
 | [x]=>rfl
 | x::y::r=>by
  have ih:=txt_joinH (y::r)
  show S x++S [45]++PySem.Str.join (S [45]) ((y::r).map S)=_
  rw [ih,S_app,S_app]
  simp [joinH]
theorem segs_nil {bk cur:List Nat}:segs bk cur []=[cur++bk]:=by rw [segs]
where
 seg_head {bk:List Nat}:∀(items:List (Nat×Nat)) (c:Nat) (l y:List Nat),(segs bk (c::l) items)[0]? =some y→∃y',y=c::y'
  | [],c,l,y,h=>by
   rw [segs_nil] at h
   simp at h
   exact ⟨l++bk,h.symm⟩
  | p::r,c,l,y,h=>by
   rw [segs] at h
   split at h
   ·exact seg_head r c (l++[p.1]) y h
   ·simp at h
    exact ⟨l++[p.1],h.symm⟩
theorem segs_len {bk:List Nat}:∀(items:List (Nat×Nat)) (cur:List Nat),(segs bk cur items).length≤items.length+1
 | [],cur=>by rw [segs_nil];simp
 | p::r,cur=>by
  rw [segs]
  split
  ·have:=segs_len (bk:=bk) r (cur++[p.1]);simp only [List.length_cons];lia
  ·have:=segs_len (bk:=bk) r [p.2];simp only [List.length_cons];lia
end Mine
namespace Mine
theorem esc_len (c : Nat) : (esc c).length ≤ 2 := by unfold esc; split; · simp
                                                     · split<;>simp
theorem escR_len:∀l:List Nat,(escR l).length≤2 * l.length
 | []=>by simp [escR]
 | c::l=>by
  have h1:=escR_len l
  have h2:=esc_len c
  have e:escR (c::l)=esc c++escR l:=by simp [escR]
  rw [e,List.length_append,List.length_cons]
  lia
theorem e92_len:∀l:List Nat,(l.flatMap e92).length≤2 * l.length
 | []=>by simp
 | c::l=>by
  have h1:=e92_len l
  have h2:(e92 c).length≤2:=by unfold e92;split<;>simp
  rw [List.flatMap_cons,List.length_append,List.length_cons]
  lia
theorem sum_le (M:Nat):∀l:List Nat,(∀x∈l,x≤M)→l.sum≤l.length * M
 | [],_=>by simp
 | x::l,h=>by
  have h1:=h x (List.mem_cons_self ..)
  have h2:=sum_le M l fun y hy=>h y (List.mem_cons_of_mem _ hy)
  rw [List.sum_cons,List.length_cons,Nat.succ_mul]
  lia
theorem allOf_str:∀l:List (List Nat),allOf asStr (l.map fun q=>PV.str (S q))=some (l.map S)
 | []=>rfl
 | q::l=>by
  rw [List.map_cons,List.map_cons]
  unfold allOf
  rw [allOf_str l]
  rfl
noncomputable abbrev repF (y:PySem.Str):PySem.Str:=Txt.replace (Txt.replace y (S [92]) (S [92,92])) (S [45]) (S [92,45])
theorem repF_S (q:List Nat):repF (S q)=S (escR q):=by
 unfold repF
 rw [replace_S,replace_S]
 exact congrArg S (esc_two q)
theorem joinG_S (l:List (List Nat)) (h:∀q∈l,q.length≤900) (hl:l.length≤900):joinG (okR (S [92,92]) (S [92,45]) (S [92])) repF (S [45]) (.list (l.map fun q=>.str (S q)))=some (.str (S (joinH (l.map escR)))):=by
 unfold joinG
 simp only [allOf_str]
 have e1:(l.map S).map repF=(l.map escR).map S:=by
  rw [List.map_map,List.map_map]
  exact List.map_congr_left fun q _=>repF_S q
 have h1:(l.map S).all (okR (S [92,92]) (S [92,45]) (S [92]))=true:=by
  rw [List.all_eq_true]
  intro y hy
  obtain ⟨q,hq,rfl⟩:=List.mem_map.mp hy
  have:=h q hq
  unfold okR
  have e:Txt.replace (S q) (S [92]) (S [92,92])=S (q.flatMap e92):=replace_S ..
  have e3:=e92_len q
  rw [e,S_len,S_len,Bool.and_eq_true,decide_eq_true_eq,decide_eq_true_eq]
  simp only [S_len,List.length_cons,List.length_nil]
  lia
 have hjo:JoinOk (S [45]) ((l.map escR).map S)=true:=by
  refine joinOk_of ?_
  have hs:=sum_le 1800 (((l.map escR).map S).map (·.length)) (by
   intro x hx
   rw [List.map_map,List.map_map] at hx
   obtain ⟨q,hq,rfl⟩:=List.mem_map.mp hx
   have:=h q hq
   have:=escR_len q
   simp only [Function.comp,S_len]
   lia)
  simp only [List.length_map,S_len,List.length_singleton] at hs ⊢
  lia
 rw [e1,if_pos ⟨h1,by rw [List.length_map];lia,hjo⟩]
 show some (PV.str (glued (S [45]) ((l.map escR).map S)))=_
 rw [StrLaws.glued_eq_join,txt_joinH]
theorem gt_C (a b:Nat):cmpOp .Gt (C a) (C b)=some (decide (b < a)):=by
 show some (decide ((S [b]).cps.toList < (S [a]).cps.toList))=_
 rw [len_S,len_S]
 congr 2
 simp [List.cons_lt_cons_iff]
theorem seqIdx_last (n:Nat):seqIndex? (-1) (n+1)=some n:=by
 have e:(-1:Int)+((n+1:Nat):Int)=n:=(Int.add_comm _ _).trans (show ((n:Int)+1)+(-1)=n from Int.add_sub_cancel (n:Int) 1)
 unfold seqIndex?
 rw [if_pos (show (-1:Int) < 0 by decide),e]
 exact if_pos (Bool.and_eq_true_iff.mpr ⟨decide_eq_true (Int.natCast_nonneg n),decide_eq_true (Int.ofNat_lt.mpr (Nat.lt_succ_self n))⟩)
theorem item_last (x:List Nat) (a:Nat) (h:x.length≤1000):pyItem (.str (S (x++[a]))) (.int (-1))=some (C a):=by
 show ((seqIndex? (-1) (S (x++[a])).length).bind ((S (x++[a])).cps[·]?)).map _=_
 rw [S_len,List.length_append,List.length_singleton,seqIdx_last,Option.bind_some,List.getElem?_toArray,List.getElem?_append_right (Nat.le_refl _),Nat.sub_self]
 rfl
theorem items_down (m:Nat) (h:m < 1000000000):itemsOf (.range m 0 (-1))=some ((List.range m).map fun (j:Nat)=>.int ((m:Int)+(j:Int) * (-1))):=by
 unfold itemsOf
 have e:Builtin.Range.rangeSize (m:Int) 0 (-1)=m:=by
  unfold Builtin.Range.rangeSize
  simp
  lia
 simp only []
 rw [e,if_pos ⟨by simp [Builtin.Range.small,Builtin.Range.rangeFitsLong,e];lia,by lia⟩]
 simp
theorem r_one {o:PV→Option PV} {f:EvE} {st st1:St} {a c:PV} (h:f st=some (a,st1)) (h2:o a=some c):bindE f (fun a=>liftE (o a)) st=some (c,st1):=by simp only [bindE,h,h2,liftE]
theorem r_f3 (st:St) (x:List Nat) (i:Nat) (h:st[i]? =some (.froz (.str (S x)))) (hl:x.length≤100000) (a z:List Nat) (ha:a.length≤10) (hz:z.length≤10):
 (bindE (pureE (PV.str (S a))) fun p=>bindE (liftE (partOf p)) fun y=>if (S []++y).length≤16777216 then (bindE (bindE (getV i) fun p=>liftE (fmtOf p)) fun p=>bindE (liftE (partOf p)) fun y_1=>if (S []++y++y_1).length≤16777216 then bindE (pureE (PV.str (S z))) fun p=>bindE (liftE (partOf p)) fun y_2=>if (S []++y++y_1++y_2).length≤16777216 then (if (S []++y++y_1++y_2).length≤16777216 then pureE (PV.str (S []++y++y_1++y_2)) else fun _=>none) else fun _=>none else fun _=>none) else fun _=>none) st=some (.str (S (a++x++z)),st):=by
  refine run_bind r_const (run_bind (run_lift rfl) ?_)
  rw [if_pos (by rw [S_app,S_len];simp only [List.length_append,List.length_nil];lia)]
  refine run_bind (r_one (r_name h) (c:=.str (S x)) (by show (if (S x).length≤16777216 then some (PV.str (S x)) else none)=_;rw [S_len,if_pos (by lia)])) (run_bind (run_lift rfl) ?_)
  rw [if_pos (by rw [S_app,S_app,S_len];simp only [List.length_append,List.length_nil];lia)]
  refine run_bind r_const (run_bind (run_lift rfl) ?_)
  rw [if_pos (by rw [S_app,S_app,S_app,S_len];simp only [List.length_append,List.length_nil];lia),if_pos (by rw [S_app,S_app,S_app,S_len];simp only [List.length_append,List.length_nil];lia)]
  rw [S_app,S_app,S_app,List.nil_append]
  rfl
where q_eq {c x:Nat} {l:List Nat} (h:x=c) (hc:c∈l):x∈l:=h ▸ hc
theorem inTup_C (c:Nat) (h:c < 1000):inTup (C c) (.tuple [C 94,C 91])=some (decide (c=94∨c=91)):=by
 have e1:toPy (C c)=some (.str (S [c])):=by unfold toPy;rfl
 have e2:toPys [C 94,C 91]=some [.str (S [94]),.str (S [91])]:=by rfl
 have s1:shaped (.tuple [.str (S [94]),.str (S [91])])=true:=by decide+kernel
 have s2:shaped (.str (S [c]))=true:=by
  unfold shaped
  simp [PyData.canLay0,PyData.strOk,PyData.depth]
  lia
 unfold inTup
 simp only [e1,e2,s1,s2,and_self,if_true]
 congr 1
 simp only [List.any_cons,List.any_nil,PyData.eqv,Bool.or_false]
 have hb:∀a b:Nat,(S [a]==S [b])=decide (b=a):=by
  intro a b
  by_cases e:b=a
  ·rw [e];simp
  ·rw [decide_eq_false e]
   exact beq_eq_false_iff_ne.mpr fun q=>e ((List.cons.inj (S_inj q)).1).symm
 rw [hb,hb]
 by_cases q1:c=94<;>by_cases q2:c=91<;>simp [q1,q2]
theorem emp_S:PySem.Str.empty=S []:=rfl
noncomputable def outOf (bar md:Bool) (T:List Nat):List Nat:=if md=true then (if bar=true then [91,94]++T++[93] else [91]++(if T.head? =some 94∨T.head? =some 91 then 92::T else T)++[93]) else if bar=true then [46] else [40,63,33,41]
theorem ne_S (a b:List Nat):cmpOp .NotEq (.str (S a)) (.str (S b))=some (a != b):=by
 show some ((S a).cps.toList != (S b).cps.toList)=_
 rw [len_S,len_S]
theorem ge_F (x n:Nat) (h:x < n):cmpOp .GtE (.int (x:Int)) (.int (n:Int))=some false:=by rw [ge_I,decide_eq_false (by lia)]
theorem repl_S (l z:List Nat) (c:Nat) (h:l.length+(l.length+1) * z.length≤16777216):replF (S [c]) (S z) (.str (S l))=some (.str (S (l.flatMap fun d=>if d=c then z else [d]))):=by
 unfold replF
 simp only [S_len,h,if_true,replace_S]
theorem augAt_last {j:Nat} {g f:St→Option PV} {op:Operator} {st:St} {xs:List PV} {a b r:PV} (h:st[j]? =some (.own (xs++[a]))) (hg:g st=some (.int (-1))) (hf:f st=some b) (hr:augOp op a b=some r) (hl:xs.length≤900):augAt j g op f st=some (.next,st.set j (.own (xs++[r]))):=by
 have e:seqIndex? (-1) (xs++[a]).length=some xs.length:=by rw [List.length_append];exact seqIdx_last _
 unfold augAt
 simp only [h,hg,hf,e]
 rw [if_pos (by decide)]
 simp [hr]
theorem idx_nat (k n:Nat) (h:k < n):seqIndex? (k:Int) n=some k:=seqIdx_nat h
theorem setAt_at {j k:Nat} {g:St→Option PV} {v:PV} {st:St} {xs:List PV} (h:st[j]? =some (.own xs)) (hg:g st=some (.int (k:Int))) (hk:k < xs.length) (hl:xs.length≤900):setAt j g v st=some (.next,st.set j (.own (xs.set k v))):=by
 unfold setAt
 simp only [h,hg,idx_nat k _ hk]
 rw [if_pos (by lia)]
theorem delAt_at {j k:Nat} {g:St→Option PV} {st:St} {xs:List PV} (h:st[j]? =some (.own xs)) (hg:g st=some (.int (k:Int))) (hk:k < xs.length) (hl:xs.length≤900):delAt j g st=some (.next,st.set j (.own (xs.eraseIdx k))):=by
 unfold delAt
 simp only [h,hg,idx_nat k _ hk]
 rw [if_pos (by lia)]
theorem r_meth1 {m:PV→List PV→Option PV} {f g1:EvE} {st st1 st2:St} {o a r:PV} (h:f st=some (o,st1)) (h1:g1 st1=some (a,st2)) (h4:m o [a]=some r):
  bindE f (fun o=>bindE (bindE g1 fun a=>bindE (pureE []) fun as=>pureE (a::as)) fun as=>liftE (m o as)) st=some (r,st2):=by simp only [bindE,h,h1,h4,liftE,pureE]
theorem join_flat:∀l:List (List Nat),PySem.Str.join (S []) (l.map S)=S l.flatten
 | []=>rfl
 | [x]=>by
  show S x=_
  simp
 | x::y::r=>by
  have ih:=join_flat (y::r)
  show S x++S []++PySem.Str.join (S []) ((y::r).map S)=_
  rw [ih,S_app,S_app]
  simp
theorem joinS_eq (sep:PySem.Str) (l:List PySem.Str):Mine.joinS sep l=PySem.Str.join sep l:=by
 unfold Mine.joinS
 split
 ·rfl
 ·exact StrLaws.glued_eq_join ..
theorem pyJoin_S (l:List (List Nat)) (h:∀q∈l,q.length≤2000) (hl:l.length≤900):pyJoin (.str (S [])) [.list (l.map fun q=>.str (S q))]=some (.str (S l.flatten)):=by
 have hs:=sum_le 2000 ((l.map S).map (·.length)) (by
  intro x hx
  rw [List.map_map] at hx
  obtain ⟨q,hq,rfl⟩:=List.mem_map.mp hx
  have:=h q hq
  simp only [Function.comp,S_len]
  lia)
 have hjo:JoinOk (S []) (l.map S)=true:=by
  refine joinOk_of ?_
  simp only [List.length_map,S_len,List.length_nil] at hs ⊢
  lia
 show (allOf asStr (l.map fun q=>PV.str (S q))).bind _=_
 rw [allOf_str,Option.bind_some]
 have e:Mine.joinS (S []) (l.map S)=S l.flatten:=by rw [joinS_eq,join_flat]
 have h1:PySem.Builtin.Str.tooLong ((l.map S).toArray.foldl (· +·.length+(S []).length) 0)=false:=by
  unfold JoinOk at hjo
  rw [Bool.not_eq_true'] at hjo
  exact hjo
 have h2:(S l.flatten).length≤16777216:=by
  rw [S_len,List.length_flatten]
  simp only [List.length_map,List.map_map] at hs
  have:(l.map (List.length)).sum=(l.map ((fun x:PySem.Str=>x.length) ∘ S)).sum:=by
   exact congrArg List.sum (List.map_congr_left fun q _=>(S_len q).symm)
  lia
 rw [e,if_pos ⟨h1,h2⟩]
noncomputable def mk (m:Nat×Bool):List Nat:=if m.2=true then [92,m.1] else [m.1]
theorem compF_runM {α:Type} {i:Nat} {t:EvB} {e:EvE} {st:St} (g:α→PV) (P:α→Bool) (f:α→PV):∀(l:List α),(∀x∈l,t (st.set i (.froz (g x)))=some (P x,st.set i (.froz (g x)))∧(P x=true→e (st.set i (.froz (g x)))=some (f x,st.set i (.froz (g x)))))→
  ∀st0:St,(∀p,st0.set i (.froz p)=st.set i (.froz p))→∃st',compF i t e (l.map g) st0=some ((l.filter P).map f,st')
 | [],_,st0,_=>⟨st0,rfl⟩
 | x::xs,h,st0,h0=>by
  obtain ⟨h1,h2⟩:=h x (List.mem_cons_self ..)
  obtain ⟨st',e'⟩:=compF_runM g P f xs (fun q hq=>h q (List.mem_cons_of_mem _ hq)) (st.set i (.froz (g x))) (fun q=>by rw [List.set_set])
  rw [List.map_cons]
  unfold compF
  rw [h0,h1]
  cases hp:P x with
  | false=>
   refine ⟨st',?_⟩
   dsimp only
   rw [e',List.filter_cons_of_neg (by rw [hp];exact Bool.false_ne_true)]
  | true=>
   refine ⟨st',?_⟩
   dsimp only
   rw [h2 hp]
   dsimp only
   rw [e',List.filter_cons_of_pos hp]
   rfl
theorem compV_runM {α:Type} {n i:Nat} {t:EvB} {e:EvE} {l:List α} {ps:List PV} (g:α→PV) (P:α→Bool) (f:α→PV) (hl:l.length≤16777216)
  (h:∀x∈l,t ((List.replicate n Bind.none++ps.map Bind.froz).set i (.froz (g x)))=some (P x,(List.replicate n Bind.none++ps.map Bind.froz).set i (.froz (g x)))∧
   (P x=true→e ((List.replicate n Bind.none++ps.map Bind.froz).set i (.froz (g x)))=some (f x,(List.replicate n Bind.none++ps.map Bind.froz).set i (.froz (g x))))):
  compV n i t e (l.map g) ps=some (.list ((l.filter P).map f)):=by
 obtain ⟨st',h1⟩:=compF_runM g P f l h _ fun _=>rfl
 unfold compV
 rw [if_pos (by rw [List.length_map];exact hl),h1]
theorem r_comp {is:List Nat} {f:EvE} {v:List PV→List PV→Option PV} {st st1 st2:St} {ps xs:List PV} {a r:PV} (h:capF is st=some (ps,st1)) (h1:f st1=some (a,st2)) (h2:itemsOf a=some xs) (h3:v xs ps=some r):compE is f v st=some (r,st2):=by
 simp only [compE,bindE,h,h1,h2,h3,liftE]
theorem ne_BB (a b:Bool):cmpOp .NotEq (.bool a) (.bool b)=some (a != b):=by
 show (pyEq (.bool a) (.bool b)).map (!·)=_
 rw [pyEq_bool]
 cases a<;>cases b<;>rfl
noncomputable abbrev natsP (l:List Nat):List PV:=l.map fun (k:Nat)=>.int k
theorem filter_tt {α:Type} (l:List α):l.filter (fun _=>true)=l:=List.filter_eq_self.mpr fun _ _=>rfl
theorem pySum_ints (l:List Int) (hl:l.length≤1000) (h:∀x∈l,x.natAbs≤1099511627776):pySum [.list (l.map .int)]=some (.int l.sum):=by
 show ((allOf asInt (l.map .int)).bind fun ss=>if ss.length≤1000∧ss.all (fun x=>x.natAbs≤1099511627776)=true then some (PV.int ss.sum) else none)=_
 rw [allOf_ints,Option.bind_some,if_pos ⟨hl,List.all_eq_true.mpr fun x hx=>decide_eq_true (h x hx)⟩]
theorem r_cap1 {i:Nat} {st:St} {p:PV} (h:st[i]? =some (.froz p)):capF [i] st=some ([p],st):=by simp only [capF,bindE,r_name h,pureE]
theorem ints_ne (l:List Int):cmpOp .NotEq (.list (l.map .int)) (.list [])=some (!l.isEmpty):=by
 show (pyEq (.list (l.map .int)) (.list (([]:List Int).map .int))).map (!·)=_
 rw [pyEq_ints]
 cases l<;>rfl
theorem nats_eq0 (l:List Nat):cmpOp .Eq (.list (natsP l)) (.list [])=some l.isEmpty:=by
 show pyEq (.list (natsP l)) (.list (([]:List Int).map .int))=_
 have:natsP l=(l.map fun (k:Nat)=>(k:Int)).map .int:=by rw [List.map_map];rfl
 rw [this,pyEq_ints]
 cases l<;>rfl
noncomputable def AtN (y l:List Nat) (i:Nat):Prop:=i+y.length≤l.length∧(l.drop i).take y.length=y
theorem at_iff (y l:List Nat) (i:Nat):StrLaws.At (S l) (S y) (S l).length i↔AtN y l i:=by
 unfold StrLaws.At AtN
 rw [StrLaws.subAt_eq,S_len,S_len,len_S,len_S,beq_iff_eq]
noncomputable def mmB (y l:List Nat):Bool:=(y.zip l).any fun p=>p.1 != p.2
theorem mm_app (t:List Nat):∀{y p:List Nat},mmB y p=true→mmB y (p++t)=true
 | [],_,h=>by cases h
 | _::_,[],h=>by cases h
 | a::y,b::p,h=>by
  unfold mmB at h ⊢
  rw [List.zip_cons_cons,List.any_cons,Bool.or_eq_true] at h
  rw [List.cons_append,List.zip_cons_cons,List.any_cons,Bool.or_eq_true]
  exact h.imp id fun q=>mm_app t (y:=y) (p:=p) q
theorem mm_self (t:List Nat):∀y:List Nat,mmB y (y++t)=false
 | []=>rfl
 | a::y=>by
  unfold mmB
  rw [List.cons_append,List.zip_cons_cons,List.any_cons]
  show ((a != a)||mmB y (y++t))=false
  rw [mm_self t y,bne_self_eq_false]
  rfl
theorem mm_no {y l:List Nat} {i:Nat} (h:mmB y (l.drop i)=true):¬ AtN y l i:=fun q=>by
 have e:=mm_self ((l.drop i).drop y.length) y
 rw [←List.take_append_drop y.length (l.drop i),q.2,e] at h
 cases h
noncomputable def Cl (y u t:List Nat):Prop:=∀i,i < u.length→¬ AtN y (u++t) i
theorem atN_app {y l t:List Nat} {i:Nat} (h:AtN y l i):AtN y (l++t) i:=by
 refine ⟨Nat.le_trans h.1 (by rw [List.length_append];exact Nat.le_add_right _ _),?_⟩
 rw [List.drop_append_of_le_length (Nat.le_trans (Nat.le_add_right _ _) h.1),List.take_append_of_le_length (by rw [List.length_drop];exact Nat.le_sub_of_add_le (Nat.add_comm i _ ▸ h.1))]
 exact h.2
theorem atN_drop {y u t:List Nat} {i:Nat} (h:AtN y (u++t) (u.length+i)):AtN y t i:=by
 refine ⟨?_,?_⟩
 ·have:=h.1
  rw [List.length_append,Nat.add_assoc] at this
  exact Nat.le_of_add_le_add_left this
 ·have:=h.2
  rwa [←List.drop_drop,List.drop_left] at this
theorem cl_app {y a b t:List Nat} (h1:Cl y a (b++t)) (h2:Cl y b t):Cl y (a++b) t:=fun i hi q=>by
 rw [List.append_assoc] at q
 rcases Nat.lt_or_ge i a.length with h | h
 ·exact h1 i h q
 ·obtain ⟨k,rfl⟩:=Nat.exists_eq_add_of_le h
  rw [List.length_append] at hi
  exact h2 k (Nat.lt_of_add_lt_add_left hi) (atN_drop q)
noncomputable def heads:List Nat:=[91,46,40,92,97,98,41]
noncomputable def TH (t:List Nat):Prop:=t=[]∨∃h r,t=h::r∧h∈heads
noncomputable def goodP (y p:List Nat):Bool:=heads.contains (p.headD 0)&& !p.isEmpty&&heads.all fun h=>(List.range p.length).all fun i=>mmB y (p.drop i++[h])
theorem good_cl {y p t:List Nat} (h:goodP y p=true) (ht:TH t):Cl y p t:=fun i hi q=>by
 obtain ⟨h1,h2⟩:=Bool.and_eq_true_iff.mp h
 have hm:∀c∈heads,mmB y (p.drop i++[c])=true:=fun c hc=>List.all_eq_true.mp (List.all_eq_true.mp h2 c hc) i (List.mem_range.mpr hi)
 have key:∀c r,c∈heads→¬ AtN y (p++c::r) i:=fun c r hc=>mm_no (by
  rw [List.drop_append_of_le_length (Nat.le_of_lt hi),show p.drop i++c::r=(p.drop i++[c])++r by rw [List.append_assoc];rfl]
  exact mm_app r (hm c hc))
 rcases ht with rfl | ⟨c,r,rfl,hc⟩
 ·rw [List.append_nil] at q
  exact key 41 [] (by decide) (atN_app q)
 ·exact key c r hc q
theorem good_TH {y p:List Nat} (h:goodP y p=true) (t:List Nat):TH (p++t):=by
 obtain ⟨h1,_⟩:=Bool.and_eq_true_iff.mp h
 obtain ⟨h1,h2⟩:=Bool.and_eq_true_iff.mp h1
 cases p with
 | nil=>cases h2
 | cons c p=>exact .inr ⟨c,p++t,rfl,List.contains_iff_mem.mp h1⟩
theorem flat_TH {y:List Nat} {ps:List (List Nat)} (h:∀p∈ps,goodP y p=true) {t:List Nat} (ht:TH t):TH (ps.flatten++t):=by
 cases ps with
 | nil=>exact ht
 | cons p ps=>rw [List.flatten_cons,List.append_assoc];exact good_TH (h p List.mem_cons_self) _
theorem flat_cl {y t:List Nat} (ht:TH t):∀{ps:List (List Nat)},(∀p∈ps,goodP y p=true)→Cl y ps.flatten t
 | [],_=>fun i hi=>absurd hi (Nat.not_lt_zero _)
 | p::ps,h=>by
  have h':=fun q hq=>h q (List.mem_cons_of_mem _ hq)
  rw [List.flatten_cons]
  exact cl_app (good_cl (h p List.mem_cons_self) (flat_TH h' ht)) (flat_cl ht h')
noncomputable def glu (y:List Nat):List (List Nat)→List Nat
 | []=>[]
 | [u]=>u
 | u::t::r=>u++(y++glu y (t::r))
noncomputable def CLS (y:List Nat):List (List Nat)→Prop
 | []=>True
 | [u]=>Cl y u []
 | u::t::r=>Cl y u (y++glu y (t::r))∧CLS y (t::r)
theorem drop_app' {α:Type} {l u v:List α} {i:Nat} (h:l.drop i=u++v):l.drop (i+u.length)=v:=by rw [←List.drop_drop,h,List.drop_left]
theorem chain_uniq {x y:PySem.Str} {hi:Nat}:∀{a f f':Nat} {C C':List Nat},StrLaws.ChainG x y hi a C f→(∀k,f≤k→¬ StrLaws.At x y hi k)→StrLaws.ChainG x y hi a C' f'→(∀k,f'≤k→¬ StrLaws.At x y hi k)→C=C'
 | _,_,_,[],[],_,_,_,_=>rfl
 | a,f,f',[],c::C',h,h2,h',_=>by
  obtain rfl:f=a:=h
  exact absurd h'.2.1 (h2 c h'.1)
 | a,f,f',c::C,[],h,_,h',h2=>by
  obtain rfl:f'=a:=h'
  exact absurd h.2.1 (h2 c h.1)
 | a,f,f',c::C,c'::C',h,h1,h',h2=>by
  obtain rfl:c=c':=by
   rcases Nat.lt_trichotomy c c' with l | l | l
   ·exact absurd h.2.1 (h'.2.2.1 c h.1 l)
   ·exact l
   ·exact absurd h'.2.1 (h.2.2.1 c' h'.1 l)
  rw [chain_uniq h.2.2.2 h1 h'.2.2.2 h2]
theorem atN_at {y l v:List Nat} {a m:Nat} (h:l.drop a=v) (ha:a≤l.length) (q:AtN y l (a+m)):AtN y v m:=by
 have e:l=l.take a++v:=by rw [←h];exact (List.take_append_drop a l).symm
 have la:(l.take a).length=a:=by rw [List.length_take,Nat.min_eq_left ha]
 rw [e,show a+m=(l.take a).length+m by rw [la]] at q
 exact atN_drop q
theorem sub_S {l u v:List Nat} {a:Nat} (h:l.drop a=u++v):strSub (S l) a (a+u.length)=S u:=by
 refine PySem.Str.ext' (Array.toList_inj.mp ?_)
 rw [StrLaws.strSub_toList,len_S,len_S,h,Nat.add_sub_cancel_left,List.take_left' rfl]
theorem chain_of {y l:List Nat} (hy:1≤y.length):∀{us:List (List Nat)} {a:Nat},us≠[]→l.drop a=glu y us→a≤l.length→CLS y us→∃C f,StrLaws.ChainG (S l) (S y) (S l).length a C f∧(∀k,f≤k→¬ StrLaws.At (S l) (S y) (S l).length k)∧StrLaws.partsFrom (S l) (S y).length a C=us.map S∧C.length+1=us.length
 | [u],a,_,h,ha,hc=>by
  have h:l.drop a=u:=h
  refine ⟨[],a,rfl,fun k hk q=>?_,?_,rfl⟩
  ·obtain ⟨m,rfl⟩:=Nat.exists_eq_add_of_le hk
   have q:=atN_at h ha ((at_iff y l _).mp q)
   exact hc m (Nat.lt_of_lt_of_le (Nat.lt_add_of_pos_right hy) q.1) (by rwa [List.append_nil])
  ·show [strSub (S l) a (S l).length]=[S u]
   have e:(S l).length=a+u.length:=by rw [S_len,←h,List.length_drop,Nat.add_sub_cancel' ha]
   rw [e,sub_S (h.trans (List.append_nil u).symm)]
 | u::t::r,a,_,h,ha,hc=>by
  have h:l.drop a=u++(y++glu y (t::r)):=h
  have h1:l.drop (a+u.length)=y++glu y (t::r):=drop_app' h
  have hle:a+u.length+y.length≤l.length:=by
   have:=congrArg List.length h
   rw [List.length_drop,List.length_append,List.length_append] at this
   lia
  have hA:AtN y l (a+u.length):=⟨hle,by rw [h1,List.take_left' rfl]⟩
  obtain ⟨C,f,c1,c2,c3,c4⟩:=chain_of hy (us:=t::r) (a:=a+u.length+y.length) (List.cons_ne_nil _ _) (drop_app' h1) hle hc.2
  refine ⟨(a+u.length)::C,f,⟨Nat.le_add_right _ _,(at_iff y l _).mpr hA,fun k hk hlt q=>?_,by rwa [S_len y]⟩,c2,?_,by rw [List.length_cons,c4];rfl⟩
  ·obtain ⟨m,rfl⟩:=Nat.exists_eq_add_of_le hk
   exact hc.1 m (Nat.lt_of_add_lt_add_left hlt) (atN_at h ha ((at_iff y l _).mp q))
  ·show strSub (S l) a (a+u.length)::StrLaws.partsFrom (S l) (S y).length (a+u.length+(S y).length) C=S u::(t::r).map S
   rw [sub_S h,←c3,S_len y]
theorem kind_pos (x:PySem.Str):1≤PySem.Builtin.Str.strKind x:=by
 unfold PySem.Builtin.Str.strKind
 split
 ·exact Nat.le_refl 1
 ·split<;>decide
theorem split_S {y:List Nat} {us:List (List Nat)} (hy:1≤y.length) (hk:PySem.Builtin.Str.strKind (S y)=1) (hne:us≠[]) (hc:CLS y us) (hl:(glu y us).length≤100000):pySplit (.str (S (glu y us))) [.str (S y)]=some (.list (us.map fun u=>.str (S u))):=by
 obtain ⟨C,f,c1,c2,c3,c4⟩:=chain_of (l:=glu y us) hy hne List.drop_zero (Nat.zero_le _) hc
 obtain ⟨f',d1,d2⟩:=StrLaws.occ_tight (S (glu y us)) (S y) (by rw [S_len];exact hy)
 have e:=chain_uniq d1 d2 c1 c2
 have hlen:C.length≤(S (glu y us)).length+1:=by rw [←e];exact StrLaws.occ_length_le ..
 have hp:partsBetween (S (glu y us)) (occurrences (S (glu y us)) (S y) 0 (S (glu y us)).length ((S (glu y us)).length+1)) (S y).length=us.map S:=by rw [StrLaws.partsBetween_eq,e,c3]
 have hs:Txt.split (S (glu y us)) (S y)=us.map S:=by
  match us,hne,C,c4,e,hp with
  | [u],_,[],_,e,_=>
   unfold Txt.split
   rw [e]
   split
   ·rfl
   ·exact if_pos rfl
  | u::t::r,_,c::C,_,e,hp=>
   unfold Txt.split
   rw [if_neg,if_neg,hp]
   ·rw [e];exact Bool.false_ne_true
   ·rw [hk]
    intro q
    rcases (Bool.or_eq_true _ _).mp q with q | q
    ·have q:=of_decide_eq_true q
     rw [S_len,S_len,glu,List.length_append,List.length_append] at q
     lia
    ·exact absurd (of_decide_eq_true q) (Nat.not_lt.mpr (kind_pos _))
 show (if _∧_∧_ then some (PV.list ((Txt.split (S (glu y us)) (S y)).map .str)) else none)=_
 rw [hp,if_pos ⟨by rw [S_len];exact beq_eq_false_iff_ne.mpr (Nat.ne_of_gt hy),by rw [S_len];exact Nat.le_trans hl (by decide),by rw [List.length_map,←c4];rw [S_len] at hlen;exact Nat.le_trans (Nat.add_le_add_right hlen 1) (by lia)⟩,hs,List.map_map]
 rfl
noncomputable def tIt (op:CmpOp) (i c:Nat):EvB:=kCmp op (kIt (kN 0) (kN i)) (kS [c])
noncomputable def tPk (op:CmpOp) (c:Nat):EvB:=andF (kCmp .Lt (kN 8) (kN 6)) (tIt op 8 c)
noncomputable def tAdd (j i:Nat) (k:Int):EvS:=dSet j (kBin .Add (kN i) (kI k))
noncomputable def tJ:EvS:=seqF (tAdd 8 8 1) dNil
noncomputable def tOpt (c:Nat):EvS:=kIf (tPk .Eq c) tJ dNil
noncomputable def tScan:EvS:=whileF (tPk .NotEq 93) tJ 1000
noncomputable def tSl (i:Nat):EvE:=kSl (kN 0) (kAs (kN 5)) (kAs (kN i))
noncomputable def kO (f:EvE) (m:PV→Option PV):EvE:=bindE f fun a=>liftE (m a)
noncomputable def tPlain:EvS:=seqF (dSet 9 (kO (kN 9) (replF (S [92]) (S [92,92])))) dNil
noncomputable def tK0:EvS:=dSet 11 (kIf (tIt .Eq 5 33) (kBin .Add (kN 5) (kI 2)) (kBin .Add (kN 5) (kI 1)))
noncomputable def tFind:EvS:=dSet 11 (kM (kN 0) pyFind (kA3 (kS [45]) (kN 11) (kN 8)))
noncomputable def tBrk:EvS:=kIf (kCmp .Lt (kN 11) (kI 0)) (seqF dBrk dNil) dNil
noncomputable def tTurn:EvS:=seqF tFind (seqF tBrk (seqF (appF 10 (tSl 11)) (seqF (tAdd 5 11 1) (seqF (tAdd 11 11 3) dNil))))
noncomputable def tTrue:EvB:=bindE (pureE (.bool true)) fun a=>liftE (truthOf a)
noncomputable def kM1:St→Option PV:=fun _=>some (.int (-1))
noncomputable def tRest:EvS:=kIf (nameT 12) (seqF (appF 10 (kN 12)) dNil) (seqF (augAt 10 kM1 .Add (fun _=>some (.str (S [45])))) dNil)
noncomputable def tPrev:St→Option PV:=kP2 .Sub (getP 11) (fun _=>some (.int 1))
noncomputable def tGt:EvB:=kCmp .Gt (kIt (kOwn 10 tPrev) (ofP kM1)) (kIt (kOwn 10 (getP 11)) (kI 0))
noncomputable def tPut:EvS:=bindE (kBin .Add (kSl (kOwn 10 tPrev) kNo (kAs (ofP kM1))) (kSl (kOwn 10 (getP 11)) (kAs (kI 1)) kNo)) fun v=>setAt 10 tPrev v
noncomputable def tOne:EvS:=seqF (kIf tGt (seqF tPut (seqF (delAt 10 (getP 11)) dNil)) dNil) dNil
noncomputable def tDown:EvE:=kF pyRange (kA3 (kBin .Sub (kLen 10) (kI 1)) (kI 0) (ofP kM1))
noncomputable def tGlue:EvS:=dSet 9 (kO (kN 10) (joinG (okR (S [92,92]) (S [92,45]) (S [92])) repF (S [45])))
noncomputable def tHyph:EvS:=seqF (bindE (pureE []) fun as=>setOwn 10 as) (seqF tK0 (seqF (whileF tTrue tTurn 1000) (seqF (dSet 12 (tSl 8)) (seqF tRest (seqF (dFor 11 tDown tOne) (seqF tGlue dNil))))))
noncomputable def tApp (e:EvE):EvS:=seqF (addF 4 3 e) dNil
noncomputable def tTup:EvE:=bindE (kA2 (kS [94]) (kS [91])) fun as=>liftE (mkT as)
noncomputable def tHead:EvS:=kIf (kCmp .Eq (kIt (kN 9) (kI 0)) (kS [33])) (seqF (dSet 9 (kBin .Add (kS [94]) (kSl (kN 9) (kAs (kI 1)) kNo))) dNil)
 (seqF (kIf (bindE (kIt (kN 9) (kI 0)) fun a=>bindE tTup fun b=>liftE (inTup a b)) (seqF (dSet 9 (kBin .Add (kS [92]) (kN 9))) dNil) dNil) dNil)
noncomputable def kJo (f:EvE) (g:Str→EvE):Str→EvE:=fun out=>bindE f fun p=>bindE (liftE (partOf p)) fun y=>if (out++y).length≤16777216 then g (out++y) else fun _=>none
noncomputable def kJn:Str→EvE:=fun out=>if out.length≤16777216 then pureE (.str out) else fun _=>none
noncomputable def tFstr:EvE:=kJo (kS [91]) (kJo (kO (kN 9) fmtOf) (kJo (kS [93]) kJn)) (S [])
noncomputable def tEnd:EvS:=kIf (kNot (nameT 9)) (tApp (kS [40,63,33,41])) (seqF (kIf (kCmp .Eq (kN 9) (kS [33])) (tApp (kS [46])) (seqF tHead (tApp tFstr))) dNil)
noncomputable def tIn:EvS:=seqF (dSet 9 (tSl 8)) (seqF (kIf (kCmp .NotIn (kS [45]) (kN 9)) tPlain tHyph) (seqF (dSet 9 (kO (kN 9) subF)) (seqF (tAdd 5 8 1) (seqF tEnd dNil))))
noncomputable def tBr:EvS:=seqF (dSet 8 (kN 5)) (seqF (tOpt 33) (seqF (tOpt 93) (seqF tScan (seqF (kIf (kCmp .GtE (kN 8) (kN 6)) (fun _=>none) tIn) dNil))))
noncomputable def tBody (x y z:EvS):EvS:=seqF (dSet 7 (kIt (kN 0) (kN 5))) (seqF (tAdd 5 5 1) (seqF (kIf (kCmp .Eq (kN 7) (kS [42])) x (seqF (kIf (kCmp .Eq (kN 7) (kS [63])) y (seqF (kIf (kCmp .Eq (kN 7) (kS [91])) tBr z) dNil)) dNil)) dNil))
noncomputable def tHd:EvS:=tupF [6,5] (bindE (kV (kI 0) (kV (kLen 0) (pureE []))) fun es=>pureE es.reverse)
noncomputable def tAll (x y z:EvS):EvS:=seqF (bindE (pureE []) fun as=>setOwn 3 as) (seqF (setMeth 4 3) (seqF tHd (seqF (whileF (kCmp .Lt (kN 5) (kN 6)) (tBody x y z) 1000)
 (seqF (kIf (kCmp .Eq (kN 5) (kN 6)) dNil (fun _=>none)) (seqF (bindE (kN 3) fun p=>pureE (.ret p)) dNil)))))
theorem eq_one (x c:Nat):cmpOp .Eq (C x) (.str (S [c]))=some (decide (x=c)):=(eq_S [x] [c]).trans (congrArg some (by by_cases h:x=c<;>simp [h]))
theorem ne_one (x c:Nat):cmpOp .NotEq (C x) (.str (S [c]))=some (!decide (x=c)):=(ne_S [x] [c]).trans (congrArg some (by by_cases h:x=c<;>simp [h]))
theorem fN_add (j:Nat) (k:Nat):binOp .Add (.int (j:Int)) (.int (k:Int))=some (.int ((j+k:Nat):Int)):=rfl
theorem get_drop {α:Type} {l v:List α} {i:Nat} {c:α} (h:l.drop i=c::v):l[i]? =some c:=by rw [←Nat.add_zero i,←List.getElem?_drop,h];rfl
theorem drop_le {α:Type} {l v:List α} {i:Nat} {c:α} (h:l.drop i=c::v):i < l.length:=(List.getElem?_eq_some_iff.mp (get_drop h)).1
theorem drop_app {α:Type} {l u v:List α} {i:Nat} (h:l.drop i=u++v):l.drop (i+u.length)=v:=by rw [←List.drop_drop,h,List.drop_left]
theorem slice_S' {l u v:List Nat} {i:Nat} (hl:l.length≤16777216) (h:l.drop i=u++v) (hi:i≤l.length):pySlice (.str (S l)) (some (i:Int)) (some ((i+u.length:Nat):Int)) none=some (.str (S u)):=by
 have hlen:i+u.length≤l.length:=by
  have:=congrArg List.length h
  rw [List.length_drop,List.length_append] at this
  lia
 rw [slS l _ _ hl,clipN_nat,clipN_nat,Nat.min_eq_left hi,Nat.min_eq_left hlen,h,Nat.add_sub_cancel_left,List.take_left' rfl]
theorem slice_S {l u v:List Nat} {i:Nat} (hl:l.length≤800) (h:l.drop i=u++v) (hi:i≤l.length):pySlice (.str (S l)) (some (i:Int)) (some ((i+u.length:Nat):Int)) none=some (.str (S u)):=slice_S' (Nat.le_trans hl (by decide)) h hi
theorem find_S {l u v:List Nat} {i off j:Nat} (h:l.drop i=u++45::v) (hu:45 ∉ u) (ho:off≤u.length) (hj:j≤l.length) (hlt:i+u.length < j):pyFind (.str (S l)) [.str (S [45]),.int ((i+off:Nat):Int),.int (j:Int)]=some (.int ((i+u.length:Nat):Int)):=
 congrArg (fun z=>some (PV.int z)) (find1_some l 45 _ j _ hj (Nat.add_le_add_left ho i) hlt (get_drop (drop_app h)) fun k h1 h2 e=>by
  obtain ⟨m,rfl⟩:=Nat.exists_eq_add_of_le (Nat.le_trans (Nat.le_add_right i off) h1)
  rw [←List.getElem?_drop,h,List.getElem?_append_left (Nat.lt_of_add_lt_add_left h2)] at e
  exact hu (List.mem_of_getElem? e))
theorem find_no {l w v:List Nat} {i off:Nat} (h:l.drop i=w++93::v) (hu:∀m,off≤m→w[m]? ≠some 45):pyFind (.str (S l)) [.str (S [45]),.int ((i+off:Nat):Int),.int ((i+w.length:Nat):Int)]=some (.int (-1)):=
 congrArg (fun z=>some (PV.int z)) (find1_none l 45 _ _ (Nat.le_of_lt (drop_le (drop_app h))) fun k h1 h2 e=>by
  obtain ⟨m,rfl⟩:=Nat.exists_eq_add_of_le (Nat.le_trans (Nat.le_add_right i off) h1)
  rw [←List.getElem?_drop,h,List.getElem?_append_left (Nat.lt_of_add_lt_add_left h2)] at e
  exact hu m (Nat.le_of_add_le_add_left h1) e)
noncomputable def TS (pat:List Nat) (a:Addr) (res:List PV) (b5 b8 b9 b10 b11 b12:Bind):St:=[fS pat,.froz (.obj a),fS [46],.own res,.meth 3,b5,fN pat.length,.froz (C 91),b8,b9,b10,b11,b12]
section
variable {pat:List Nat} {a:Addr} {res:List PV} {b5 b8 b9 b10 b11 b12:Bind}
theorem t_it' {st:St} {op:CmpOp} {i c k x:Nat} {r:Bool} (hx:pat[k]? =some x) (hl:pat.length≤16777216) (h0:st[0]? =some (fS pat)) (hk:st[i]? =some (fN k)) (h:cmpOp op (C x) (.str (S [c]))=some r):Ev (tIt op i c) st r:=
 q_Cmp (q_It (q_N h0) (q_N hk) (item_S pat k x hx hl)) q_S h
theorem t_it {st:St} {op:CmpOp} {i c k x:Nat} {r:Bool} (hx:pat[k]? =some x) (hl:pat.length≤800) (h0:st[0]? =some (fS pat)) (hk:st[i]? =some (fN k)) (h:cmpOp op (C x) (.str (S [c]))=some r):Ev (tIt op i c) st r:=
 t_it' hx (Nat.le_trans hl (by decide)) h0 hk h
theorem t_pk {op:CmpOp} {c k x:Nat} {r:Bool} (hx:pat[k]? =some x) (hl:pat.length≤800) (h:cmpOp op (C x) (.str (S [c]))=some r):Ev (tPk op c) (TS pat a res b5 (fN k) b9 b10 b11 b12) r:=
 q_AndT (q_Cmp (q_N rfl) (q_N rfl) (lt_T _ _ (List.getElem?_eq_some_iff.mp hx).1)) (t_it hx hl rfl rfl h)
theorem t_j {k:Nat}:Do tJ (TS pat a res b5 (fN k) b9 b10 b11 b12) (TS pat a res b5 (fN (k+1)) b9 b10 b11 b12):=D_one (D_set (q_Bin (q_N rfl) q_I (fN_add k 1)) rfl)
theorem t_opt {c k x:Nat} (hx:pat[k]? =some x) (hl:pat.length≤800):Do (tOpt c) (TS pat a res b5 (fN k) b9 b10 b11 b12) (TS pat a res b5 (fN (k+if x=c then 1 else 0)) b9 b10 b11 b12):=by
 have e:=t_pk (a:=a) (res:=res) (b5:=b5) (b9:=b9) (b10:=b10) (b11:=b11) (b12:=b12) hx hl (eq_one x c)
 by_cases h:x=c
 ·rw [if_pos h]
  exact D_IfT (decide_eq_true h ▸ e) t_j
 ·rw [if_neg h]
  exact D_IfF (decide_eq_false h ▸ e) D_nil
theorem t_scan (hl:pat.length≤800):∀(w:List Nat) {v:List Nat} {k n:Nat},pat.drop k=w++93::v→(∀c∈w,c≠93)→w.length < n→Do (whileF (tPk .NotEq 93) tJ n) (TS pat a res b5 (fN k) b9 b10 b11 b12) (TS pat a res b5 (fN (k+w.length)) b9 b10 b11 b12)
 | [],v,k,n+1,h,_,_=>D_wF (t_pk (get_drop h) hl (ne_one 93 93))
 | c::w,v,k,n+1,h,hw,hn=>D_wT (t_pk (get_drop h) hl ((ne_one c 93).trans (congrArg (fun b=>some !b) (decide_eq_false (hw c List.mem_cons_self))))) t_j
  (Nat.add_right_comm k w.length 1 ▸ t_scan hl w (k:=k+1) (drop_app (u:=[c]) h) (fun d hd=>hw d (List.mem_cons_of_mem _ hd)) (Nat.lt_of_succ_lt_succ hn))
noncomputable def oL (cs:List (List Nat)):Bind:=.own (cs.map fun q=>.str (S q))
theorem t_find {i j k:Nat} {v:PV} (h:pyFind (.str (S pat)) [.str (S [45]),.int (k:Int),.int (j:Int)]=some v):Do tFind (TS pat a res (fN i) (fN j) b9 b10 (fN k) b12) (TS pat a res (fN i) (fN j) b9 b10 (.froz v) b12):=
 D_set (q_M (q_N rfl) (q_A3 q_S (q_N rfl) (q_N rfl)) h) rfl
theorem t_brk {st:St} (h:st[11]? =some (.froz (.int (-1)))):tBrk st=some (.brk,st):=
 r_ifbrk (t:=kCmp .Lt (kN 11) (kI 0)) (g:=dNil) (q_Cmp (q_N h) q_I (c:=true) rfl)
theorem t_stop {w v:List Nat} {i off:Nat} {cs:List (List Nat)} (h:pat.drop i=w++93::v) (hu:∀m,off≤m→w[m]? ≠some 45):
  tTurn (TS pat a res (fN i) (fN (i+w.length)) b9 b10 (fN (i+off)) b12)=some (.brk,TS pat a res (fN i) (fN (i+w.length)) b9 b10 (.froz (.int (-1))) b12):=
 (seq_next (t_find (find_no h hu))).trans (seq_brk (t_brk rfl))
theorem map_snoc (cs:List (List Nat)) (u:List Nat):Bind.own ((cs.map fun q=>.str (S q))++[.str (S u)])=oL (cs++[u]):=by unfold oL;rw [List.map_append];rfl
theorem t_turn {u v:List Nat} {i off j:Nat} {cs:List (List Nat)} (hl:pat.length≤800) (hc:cs.length≤900) (h:pat.drop i=u++45::v) (hu:45 ∉ u) (ho:off≤u.length) (hj:j≤pat.length) (hlt:i+u.length < j):
  Do tTurn (TS pat a res (fN i) (fN j) b9 (oL cs) (fN (i+off)) b12) (TS pat a res (fN (i+u.length+1)) (fN j) b9 (oL (cs++[u])) (fN (i+u.length+1+2)) b12):=
 D_seq (t_find (find_S h hu ho hj hlt)) (D_seq (D_IfF (q_Cmp (q_N rfl) q_I (lt_F _ 0 (Nat.not_lt_zero _))) D_nil)
  (D_seq (D_app (q_Sl (q_N rfl) (q_As (q_N rfl) rfl) (q_As (q_N rfl) rfl) (slice_S hl h (Nat.le_trans (Nat.le_add_right i _) (Nat.le_of_lt (Nat.lt_of_lt_of_le hlt hj))))) rfl (by rw [List.length_map];exact Nat.le_trans hc (by decide)) rfl)
  (map_snoc cs u ▸ D_seq (D_set (q_Bin (q_N rfl) q_I (fN_add _ 1)) rfl) (D_one (D_set (q_Bin (q_N rfl) q_I (fN_add _ 3)) rfl)))))
noncomputable def CutOK (pat Q:List Nat) (j:Nat) (all:List (List Nat)) (i:Nat) (cs:List (List Nat)):Prop:=∃w,pat.drop i=w++93::Q∧i+w.length=j∧((w≠[]∧cs++[w]=all)∨(w=[]∧∃d l,cs=d++[l]∧d++[l++[45]]=all))
theorem ev_true {st:St}:Ev tTrue st true:=rfl
theorem none45 {u:List Nat} (hu:45 ∉ u) (off m:Nat) (_:off≤m):u[m]? ≠some 45:=fun e=>hu (List.mem_of_getElem? e)
theorem t_cut {Q bk:List Nat} {j:Nat} (hl:pat.length≤800) (hbk:bk=[]∨bk=[45]):∀(its:List (Nat×Nat)) {cur:List Nat} {i off n:Nat} {cs:List (List Nat)},pat.drop i=cur++its.flatMap render++bk++93::Q→i+(cur++its.flatMap render++bk).length=j→
    cur++its.flatMap render++bk≠[]→45 ∉ cur→off≤cur.length+1→(∀p∈its,p.1≠45∧p.2≠45)→its.length+2≤n→cs.length+its.length≤900→
    ∃i' cs',Do (whileF tTrue tTurn n) (TS pat a res (fN i) (fN j) b9 (oL cs) (fN (i+off)) b12) (TS pat a res (fN i') (fN j) b9 (oL cs') (.froz (.int (-1))) b12)∧CutOK pat Q j (cs++segs bk cur its) i' cs'
  | [],cur,i,off,n+2,cs,h,hj,hne,hcur,ho,_,_,hcs=>by
    subst hj
    rw [List.flatMap_nil,List.append_nil] at h hne ⊢
    rw [segs_nil]
    rcases hbk with rfl | rfl
    · exact ⟨i,cs,D_wB ev_true (t_stop (cs:=cs) h (none45 (by rwa [List.append_nil]) off)),_,h,rfl,.inl ⟨hne,rfl⟩⟩
    · rcases Nat.lt_or_ge cur.length off with hc | hc
      · exact ⟨i,cs,D_wB ev_true (t_stop (cs:=cs) h fun m hm e=>by
          rw [List.getElem?_eq_none (by rw [List.length_append];exact Nat.le_trans hc hm)] at e
          cases e),_,h,rfl,.inl ⟨hne,rfl⟩⟩
      · rw [List.append_assoc] at h
        have h2:=drop_app (u:=cur++[45]) (h.trans (List.append_assoc cur [45] (93::Q)).symm)
        have e:=t_turn (a:=a) (res:=res) (b9:=b9) (b12:=b12) (j:=i+(cur++[45]).length) hl hcs h hcur hc (Nat.le_of_lt (drop_le h2)) (by rw [List.length_append];exact Nat.lt_succ_self _)
        rw [List.length_append] at h2
        refine ⟨_,_,D_wT ev_true e (D_wB ev_true ?_),[],h2,by rw [List.length_append];rfl,.inr ⟨rfl,cs,cur,rfl,rfl⟩⟩
        rw [List.length_append]
        exact t_stop (cs:=cs) (w:=[]) h2 fun m _ e=>by cases e
  | p::r,cur,i,off,n,cs,h,hj,hne,hcur,ho,hg,hn,hcs=>by
    have hp:=hg p List.mem_cons_self
    have hr:=fun q hq=>hg q (List.mem_cons_of_mem _ hq)
    rw [segs]
    by_cases e:p.1=p.2
    · have et:cur++(p::r).flatMap render=cur++[p.1]++r.flatMap render:=by rw [List.flatMap_cons,render,if_pos e,List.append_assoc]
      rw [if_pos e]
      rw [et] at h hj hne
      exact t_cut hl hbk r h hj hne (fun q=>(List.mem_append.mp q).elim hcur fun q=>hp.1 (List.mem_singleton.mp q).symm) (Nat.le_trans ho (by rw [List.length_append];exact Nat.le_succ _)) hr (Nat.le_of_succ_le hn) (Nat.le_of_succ_le hcs)
    · have et:cur++(p::r).flatMap render=(cur++[p.1])++45::([p.2]++r.flatMap render):=by rw [List.flatMap_cons,render,if_neg e,List.append_assoc];rfl
      rw [if_neg e]
      rw [et] at h hj
      have h':pat.drop i=(cur++[p.1])++45::([p.2]++r.flatMap render++bk++93::Q):=by rw [h];simp only [List.append_assoc,List.cons_append]
      have h2:pat.drop (i+(cur++[p.1]).length+1)=[p.2]++r.flatMap render++bk++93::Q:=drop_app (u:=[45]) (drop_app h')
      have hj2:i+(cur++[p.1]).length+1+([p.2]++r.flatMap render++bk).length=j:=by rw [←hj];simp only [List.length_append,List.length_cons];lia
      have hjl:j≤pat.length:=by rw [←hj2];exact Nat.le_of_lt (drop_le (drop_app h2))
      have hcl:cs.length+1+r.length≤900:=(Nat.add_right_comm _ 1 _).symm ▸ hcs
      have t:=t_turn (a:=a) (res:=res) (b9:=b9) (b12:=b12) hl (Nat.le_trans (Nat.le_add_right _ _) hcs) h' (fun q=>(List.mem_append.mp q).elim hcur fun q=>hp.1 (List.mem_singleton.mp q).symm) (by rw [List.length_append];exact ho) hjl (by rw [←hj2];exact Nat.lt_of_lt_of_le (Nat.lt_succ_self _) (Nat.le_add_right _ _))
      match n,hn with
      | n+1,hn=>
        obtain ⟨i',cs',d,q⟩:=t_cut (off:=2) (cs:=cs++[cur++[p.1]]) hl hbk r h2 hj2 (fun e=>by simp at e) (fun q=>hp.2 (List.mem_singleton.mp q).symm) (Nat.le_refl 2) hr (Nat.le_of_succ_le_succ hn) (by rw [List.length_append];exact hcl)
        rw [List.append_assoc] at q
        exact ⟨i',cs',D_wT ev_true t d,q⟩
end
section
variable {pat:List Nat} {a:Addr} {res:List PV} {b5 b8 b9 b10 b11 b12:Bind}
theorem t_k0 {i x:Nat} (hx:pat[i]? =some x) (hl:pat.length≤800):Do tK0 (TS pat a res (fN i) b8 b9 b10 b11 b12) (TS pat a res (fN i) b8 b9 b10 (fN (i+((if x=33 then 1 else 0)+1))) b12):=by
 have e:=t_it (st:=TS pat a res (fN i) b8 b9 b10 b11 b12) hx hl rfl (k:=i) (i:=5) rfl (eq_one x 33)
 by_cases h:x=33
 ·rw [if_pos h]
  exact D_set (q_IfT (decide_eq_true h ▸ e) (q_Bin (q_N rfl) q_I (fN_add i 2))) rfl
 ·rw [if_neg h]
  exact D_set (q_IfF (decide_eq_false h ▸ e) (q_Bin (q_N rfl) q_I (fN_add i 1))) rfl
theorem t_slice {i k n:Nat} {u v:List Nat} (hl:pat.length≤800) (h:pat.drop i=u++93::v) (hn:i+u.length=n) {st:St} (h0:st[0]? =some (fS pat)) (h5:st[5]? =some (fN i)) (h8:st[k]? =some (fN n)):Ev (tSl k) st (.str (S u)):=
 q_Sl (q_N h0) (q_As (q_N h5) rfl) (q_As (q_N h8) rfl) (hn ▸ slice_S hl h (Nat.le_trans (Nat.le_add_right i _) (Nat.le_of_lt (drop_le (drop_app h)))))
theorem tr_S {w:List Nat} (h:w.length≤100000):truthOf (.str (S w))=some (!w.isEmpty):=by
 show (if (S w).length < 9223372036854775808 then some (((S w).length:Int) != 0) else none)=_
 rw [S_len,if_pos (Nat.lt_of_le_of_lt h (by decide))]
 cases w<;>rfl
theorem len_oL {cs:List (List Nat)} {n:Nat} (h:cs.length≤n):(cs.map fun q=>PV.str (S q)).length≤n:=by rw [List.length_map];exact h
theorem t_rest {w:List Nat} {cs all:List (List Nat)} (hw:w.length≤800) (ha:all.length≤900) (hq:∀q∈all,q.length≤900) (h:(w≠[]∧cs++[w]=all)∨(w=[]∧∃d l,cs=d++[l]∧d++[l++[45]]=all)):
  Do tRest (TS pat a res b5 b8 b9 (oL cs) b11 (fS w)) (TS pat a res b5 b8 b9 (oL all) b11 (fS w)):=by
 have ht:=q_T (st:=TS pat a res b5 b8 b9 (oL cs) b11 (fS w)) (i:=12) rfl (tr_S (Nat.le_trans hw (by decide)))
 rcases h with ⟨h1,rfl⟩ | ⟨rfl,d,l,rfl,rfl⟩
 ·rw [List.length_append] at ha
  have e:(!w.isEmpty)=true:=by cases w with | nil=>exact absurd rfl h1 | cons _ _=>rfl
  exact D_IfT (e ▸ ht) (D_one (map_snoc cs w ▸ D_app (q_N rfl) rfl (len_oL (Nat.le_trans (Nat.le_of_succ_le ha) (by decide))) rfl))
 ·rw [List.length_append] at ha
  have hs:=hq _ (List.mem_append_right _ (List.mem_singleton.mpr rfl))
  rw [List.length_append] at hs
  refine D_IfF ht (D_one ?_)
  rw [←map_snoc d (l++[45]),←map_snoc d l]
  exact augAt_last rfl rfl rfl (aug_S l [45] (Nat.le_trans hs (by decide))) (len_oL (Nat.le_of_succ_le ha))
theorem item_oL {cs:List (List Nat)} {k:Nat} {x:List Nat} (hc:cs.length≤900) (h:cs[k]? =some x):pyItem (.list (cs.map fun q=>.str (S q))) (.int (k:Int))=some (.str (S x)):=
 item_L _ _ _ (by rw [List.getElem?_map,h];rfl) (len_oL (Nat.le_trans hc (by decide)))
theorem sub_11 {st:St} {k:Nat} (h:st[11]? =some (fN (k+1))):tPrev st=some (.int (k:Int)):=by
 unfold tPrev kP2 getP
 rw [h]
 exact congrArg (fun z=>some (PV.int z)) (Int.add_sub_cancel k 1)
theorem t_gt {cs:List (List Nat)} {k u w:Nat} {x y:List Nat} (hc:cs.length≤900) (h1:cs[k]? =some (x++[u])) (h2:cs[k+1]? =some (w::y)) (hx:x.length≤1000) (hy:y.length≤1000):
  Ev tGt (TS pat a res b5 b8 b9 (oL cs) (fN (k+1)) b12) (decide (w < u)):=
 q_Cmp (q_It (q_OwnO (a:=.int (k:Int)) rfl (sub_11 rfl) (item_oL hc h1)) (r_ofP rfl) (item_last x u hx)) (q_It (q_OwnO (a:=.int ((k+1:Nat):Int)) rfl rfl (item_oL hc h2)) q_I (item_S (w::y) 0 w rfl (Nat.le_trans (Nat.succ_le_succ hy) (by decide)))) (gt_C u w)
theorem sub_len {n:Nat} (h:1≤n):binOp .Sub (.int (n:Int)) (.int 1)=some (.int ((n - 1:Nat):Int)):=congrArg (fun z=>some (PV.int z)) (Int.ofNat_sub h).symm
theorem range_m1 (a:Int):pyRange [.int a,.int 0,.int (-1)]=some (.range a 0 (-1)):=if_pos (e:=none) (by decide:(-1:Int)≠0∧(-1:Int).natAbs < 1073741824)
theorem t_down {cs:List (List Nat)} (h1:1≤cs.length) (hc:cs.length≤900):Ev tDown (TS pat a res b5 b8 b9 (oL cs) b11 b12) (.range ((cs.length - 1:Nat):Int) 0 (-1)):=
 q_F (q_A3 (h:=ofP kM1) (q_Bin (q_LenO rfl ((len_L _ (Nat.lt_of_le_of_lt (len_oL hc) (by decide:900 < 9223372036854775808))).trans (by rw [List.length_map]))) q_I (sub_len h1)) q_I (r_ofP rfl)) (range_m1 _)
theorem D_for1 {i:Nat} {g:EvS} {p:PV} {st st':St} (h:Do g (st.set i (.froz p)) st'):Do (forF i g [p]) st st':=by
 unfold Do forF at *
 rw [h]
 rfl
theorem D_put {j k:Nat} {f:EvE} {g:St→Option PV} {st:St} {v:PV} {xs:List PV} (hf:Ev f st v) (h:st[j]? =some (.own xs)) (hg:g st=some (.int (k:Int))) (hk:k < xs.length) (hl:xs.length≤900):Do (bindE f fun v=>setAt j g v) st (st.set j (.own (xs.set k v))):=
 run_bind hf (setAt_at h hg hk hl)
theorem t_glue {cs:List (List Nat)} (hc:cs.length≤900) (hq:∀q∈cs,q.length≤900):Do tGlue (TS pat a res b5 b8 b9 (oL cs) b11 b12) (TS pat a res b5 b8 (fS (joinH (cs.map escR))) (.froz (.list (cs.map fun q=>.str (S q)))) b11 b12):=
 r_set (r_one (st1:=TS pat a res b5 b8 b9 (.froz (.list (cs.map fun q=>.str (S q)))) b11 b12) rfl (joinG_S cs hq hc)) rfl
theorem noMeth_TS {x y z:PV}:noMeth 10 (TS pat a res (.froz x) (.froz y) (.froz z) b10 b11 b12)=noMeth 10 [b10,b11,b12]:=by unfold TS;rfl
end
section
variable {pat:List Nat} {a:Addr} {res:List PV} {b5 b8 b9 b10 b11 b12:Bind}
theorem t_sub {W:List Nat} (h:W.length≤20000):Do (dSet 9 (kO (kN 9) subF)) (TS pat a res b5 b8 (fS W) b10 b11 b12) (TS pat a res b5 b8 (fS (subL W)) b10 b11 b12):=
 D_set (ev1 (q_N rfl) (if_pos (Nat.le_trans (Nat.le_of_eq (S_len W)) (Nat.le_trans h (by decide))))) rfl
theorem t_app {x:Nat} {W z:List Nat} {f:EvE} (hr:res.length≤100) (h:Ev f (TS pat a res b5 b8 (fS W) b10 b11 b12) (.str (S z))):Do (tApp f) (TS pat a res b5 b8 (fS W) b10 b11 b12) (TS pat a (res++[.str (S z)]) b5 b8 (fS W) b10 b11 b12):=
 D_one (D_add rfl h rfl (Nat.le_trans hr (by decide)) rfl)
theorem sl_one {c:Nat} {l:List Nat} (h:l.length≤40000):pySlice (.str (S (c::l))) (some 1) none none=some (.str (S l)):=by
 refine (slS (c::l) (some ((1:Nat):Int)) none (Nat.le_trans (Nat.succ_le_succ h) (by decide))).trans ?_
 rw [clipN_nat,Nat.min_eq_left (show 1≤(c::l).length from Nat.succ_le_succ (Nat.zero_le _))]
 exact congrArg (fun z=>some (PV.str (S z))) (List.take_of_length_le (Nat.le_refl _))
theorem t_hd1 {l:List Nat} (h:l.length≤40000):Do tHead (TS pat a res b5 b8 (fS (33::l)) b10 b11 b12) (TS pat a res b5 b8 (fS (94::l)) b10 b11 b12):=
 D_IfT (q_Cmp (q_It (q_N rfl) q_I (item_S (33::l) 0 33 rfl (Nat.le_trans (Nat.succ_le_succ h) (by decide)))) q_S (eq_one 33 33))
  (D_one (D_set (q_Bin q_S (q_Sl (q_N rfl) (q_As q_I rfl) q_No (sl_one h)) (add_S [94] l (Nat.le_trans (Nat.add_le_add_left h 1) (by decide)))) rfl))
theorem t_hd2 {c:Nat} {l:List Nat} (h:(c::l).length≤40000) (h33:c≠33) (hc:c < 1000):Do tHead (TS pat a res b5 b8 (fS (c::l)) b10 b11 b12) (TS pat a res b5 b8 (fS (if c=94∨c=91 then 92::c::l else c::l)) b10 b11 b12):=by
 have hi:Ev (kIt (kN 9) (kI 0)) (TS pat a res b5 b8 (fS (c::l)) b10 b11 b12) (C c):=q_It (q_N rfl) q_I (item_S (c::l) 0 c rfl (Nat.le_trans h (by decide)))
 have hT:Ev tTup (TS pat a res b5 b8 (fS (c::l)) b10 b11 b12) (PV.tuple [C 94,C 91]):=rfl
 have ht:=ev2 hi hT (inTup_C c hc)
 refine D_IfF (q_Cmp hi q_S ((eq_one c 33).trans (congrArg some (decide_eq_false h33)))) (D_one ?_)
 by_cases q:c=94∨c=91
 ·rw [if_pos q]
  rw [decide_eq_true q] at ht
  exact D_IfT ht (D_one (D_set (q_Bin q_S (q_N rfl) (add_S [92] (c::l) (Nat.le_trans (Nat.add_le_add_left h 1) (by decide)))) rfl))
 ·rw [if_neg q]
  rw [decide_eq_false q] at ht
  exact D_IfF ht D_nil
theorem t_fstr {W:List Nat} (h:W.length≤100000):Ev tFstr (TS pat a res b5 b8 (fS W) b10 b11 b12) (.str (S ([91]++W++[93]))):=r_f3 _ W 9 rfl h [91] [93] (by decide) (by decide)
theorem out_true {c:Nat} {l:List Nat} (bar:Bool):outOf bar true (c::l)=[91]++(if bar=true then 94::c::l else if c=94∨c=91 then 92::c::l else c::l)++[93]:=by
 cases bar with
 | true=>rfl
 | false=>
  have e:(c::l).head? =some 94∨(c::l).head? =some 91↔c=94∨c=91:=or_congr Option.some_inj Option.some_inj
  by_cases h:c=94∨c=91
  ·exact congrArg (fun z=>[91]++z++[93]) ((if_pos (e.mpr h)).trans (if_pos h).symm)
  ·exact congrArg (fun z=>[91]++z++[93]) ((if_neg fun q=>h (e.mp q)).trans (if_neg h).symm)
theorem if_len {P:Prop} [Decidable P] {x:Nat} {l:List Nat} {n:Nat} (h:l.length≤n):(if P then x::l else l).length≤n+1:=by
 split
 ·exact Nat.succ_le_succ h
 ·exact Nat.le_succ_of_le h
theorem t_end {bar md:Bool} {br T:List Nat} (hr:res.length≤100) (hb:br=if bar=true then [33] else []) (hT:T≠[]) (hm:∀x∈T,x≠33∧x < 1000) (hl:T.length≤40000):
  ∃W,Do tEnd (TS pat a res b5 b8 (fS (if md=true then br++T else br)) b10 b11 b12) (TS pat a (res++[.str (S (outOf bar md T))]) b5 b8 (fS W) b10 b11 b12):=by
 obtain ⟨c,l,rfl⟩:=List.exists_cons_of_ne_nil hT
 have hc:=hm c List.mem_cons_self
 subst hb
 cases md with
 | false=>
  cases bar with
  | false=>exact ⟨_,D_IfT (q_Not (q_T rfl (tr_S (w:=[]) (Nat.zero_le _)))) (t_app (x:=0) hr q_S)⟩
  | true=>exact ⟨_,D_IfF (q_Not (q_T rfl (tr_S (w:=[33]) (by decide:1≤100000)))) (D_one (D_IfT (q_Cmp (q_N rfl) q_S (eq_one 33 33)) (t_app (x:=0) hr q_S)))⟩
 | true=>
  rw [out_true]
  cases bar with
  | true=>exact ⟨_,D_IfF (q_Not (q_T rfl (tr_S (w:=33::c::l) (Nat.le_trans (Nat.succ_le_succ hl) (by decide:40001≤100000))))) (D_one (D_IfF (q_Cmp (q_N rfl) q_S (eq_S _ _)) (D_seq (t_hd1 hl) (t_app (x:=0) hr (t_fstr (Nat.le_trans (Nat.succ_le_succ hl) (by decide)))))))⟩
  | false=>
   have e2:((c::l)==[33])=false:=beq_eq_false_iff_ne.mpr fun e=>hc.1 (List.cons.inj e).1
   exact ⟨_,D_IfF (q_Not (q_T rfl (tr_S (w:=c::l) (Nat.le_trans hl (by decide))))) (D_one (D_IfF (q_Cmp (q_N rfl) q_S ((eq_S (c::l) [33]).trans (congrArg some e2))) (D_seq (t_hd2 hl hc.1 hc.2) (t_app (x:=0) hr (t_fstr (Nat.le_trans (if_len hl) (by decide)))))))⟩
end
inductive TTail (pat:List Nat) (a:Addr) (res:List PV) (i:Nat):St→Prop
 | mk {b7 b8 b9 b10 b11 b12:Bind} (h:noMeth 10 [b7,b8,b9,b10,b11,b12]=true):TTail pat a res i [fS pat,.froz (.obj a),fS [46],.own res,.meth 3,fN i,fN pat.length,b7,b8,b9,b10,b11,b12]
theorem noMeth_tl {b:Bind} {l:List Bind} (h:noMeth 10 (b::l)=true):noMeth 10 l=true:=(Bool.and_eq_true_iff.mp h).2
section
variable {pat:List Nat} {a:Addr} {res:List PV} {b5 b8 b9 b10 b11 b12:Bind}
end
structure BrZ (B br fr bk:List Nat) (items:List (Nat×Nat)) (W T:List Nat) (bar md:Bool):Prop where
 hB:br++fr++items.flatMap render++bk=B
 brE:br=if bar=true then [33] else []
 frE:fr=[]∨fr=[93]
 bkE:bk=[]∨bk=[45]
 n93:∀c∈items.flatMap render++bk,c≠93
 ne:fr++items.flatMap render++bk≠[]
 hd:(if B.head? =some 33 then 1 else 0)=br.length
 cur:45 ∉ br++fr
 n45:∀p∈items,p.1≠45∧p.2≠45
 cut:segs bk (br++fr) items=[W]∨∃u v,segs bk (br++fr) items=[u++[122],121::v]∧u++v=W
 il:items.length≤20
 sl:∀q∈segs bk (br++fr) items,q.length≤40
 plain:45 ∉ B→B.flatMap e92=escR W
 bl:B.length≤40
 wl:W.length≤40
 el:(escR W).length≤100
 out:subL (escR W)=if md=true then br++T else br
 tne:T≠[]
 tm:∀x∈T,x≠33∧x < 1000
 tl:T.length≤60
theorem hd_of {B:List Nat} {n c:Nat} {t:List Nat} (h:(if B.head? =some 33 then 1 else 0)=n) (e:B=c::t):(if c=33 then 1 else 0)=n:=by
 subst e
 rw [←h]
 by_cases q:c=33
 ·exact (if_pos q).trans (if_pos (c:=(c::t).head? =some 33) (congrArg some q)).symm
 ·exact (if_neg q).trans (if_neg (c:=(c::t).head? =some 33) fun z=>q (Option.some.inj z)).symm
section
variable {pat:List Nat} {a:Addr} {res:List PV} {b5 b8 b9 b10 b11 b12:Bind} {B br fr bk W T Q:List Nat} {items:List (Nat×Nat)} {bar md:Bool} {i:Nat}
theorem clipN_neg (k d n:Nat):clipN (some (-((k+1:Nat):Int))) d n=n - (k+1):=by
 show (max 0 (min (if -((k+1:Nat):Int) < 0 then -((k+1:Nat):Int)+n else _) (n:Int))).toNat=_
 rw [if_pos (show -((k+1:Nat):Int) < 0 from Int.negSucc_lt_zero k),Int.add_comm,←Int.sub_eq_add_neg,Int.min_eq_left (Int.sub_le_self _ (Int.natCast_nonneg _)),Int.max_comm,←Int.ofNat_toNat,Int.toNat_natCast]
 exact Int.toNat_sub n (k+1)
theorem sl_m1 {u:List Nat} {x:Nat} (h:u.length≤2000):pySlice (.str (S (u++[x]))) none (some (-1)) none=some (.str (S u)):=by
 refine (slS (u++[x]) none (some (-1)) (by rw [List.length_append];exact Nat.le_trans (Nat.succ_le_succ h) (by decide))).trans ?_
 rw [show (-1:Int)= -((0+1:Nat):Int) from rfl,clipN_neg,List.length_append]
 exact congrArg (fun z=>some (PV.str (S z))) (List.take_left' rfl)
theorem z_zy {u v:List Nat} {x:PV} (hu:u.length≤40) (hv:v.length≤40):Do (dFor 11 tDown tOne) (TS pat a res b5 b8 b9 (oL [u++[122],121::v]) (.froz x) b12) (TS pat a res b5 b8 b9 (oL [u++v]) (fN 1) b12):=by
 refine D_forE (t_down (Nat.le_succ 1) (by decide:2≤900)) (items_down 1 (by decide)) (D_for1 ?_)
 refine D_one (D_IfT (t_gt (k:=0) (cs:=[u++[122],121::v]) (by decide:2≤900) rfl rfl (Nat.le_trans hu (by decide)) (Nat.le_trans hv (by decide))) ?_)
 refine D_seq (D_put (k:=0) (v:=.str (S (u++v))) ?_ rfl (sub_11 rfl) (Nat.succ_pos 1) (show 2≤900 by decide)) (D_one (delAt_at (xs:=[.str (S (u++v)),.str (S (121::v))]) (k:=1) rfl rfl (Nat.lt_succ_self 1) (show 2≤900 by decide)))
 exact q_Bin (a:=.str (S u)) (b:=.str (S v)) (q_Sl (a:=.str (S (u++[122]))) (q_OwnO rfl (sub_11 rfl) (item_oL (k:=0) (cs:=[u++[122],121::v]) (by decide:2≤900) rfl)) q_No (q_As (r_ofP rfl) rfl) (sl_m1 (Nat.le_trans hu (by decide))))
  (q_Sl (a:=.str (S (121::v))) (q_OwnO rfl rfl (item_oL (k:=1) (cs:=[u++[122],121::v]) (by decide:2≤900) rfl)) (q_As q_I rfl) q_No (sl_one (Nat.le_trans hv (by decide)))) (add_S u v (Nat.le_trans (Nat.add_le_add hu hv) (by decide)))
theorem z_none {w:List Nat} {x:PV}:Do (dFor 11 tDown tOne) (TS pat a res b5 b8 b9 (oL [w]) (.froz x) b12) (TS pat a res b5 b8 b9 (oL [w]) (.froz x) b12):=
 D_forE (t_down (Nat.le_refl 1) (by decide:1≤900)) (items_down 0 (by decide)) rfl
theorem z_hyph {j:Nat} (H:BrZ B br fr bk items W T bar md) (hl:pat.length≤800) (h:pat.drop i=B++93::Q) (hj:i+B.length=j) (hm:45∈B) (hn:noMeth 10 [b10,b11,b12]=true):
  ∃i' x y z,Do tHyph (TS pat a res (fN i) (fN j) (fS B) b10 b11 b12) (TS pat a res (fN i') (fN j) (fS (escR W)) (.froz x) (.froz y) (.froz z)):=by
 have hB:=H.hB
 obtain ⟨c,t,e⟩:∃c t,B=c::t:=List.exists_cons_of_ne_nil fun e=>by rw [e] at hm;cases hm
 have hK:=t_k0 (a:=a) (res:=res) (b8:=fN j) (b9:=fS B) (b10:=oL []) (b11:=b11) (b12:=b12) (get_drop (h.trans (by rw [e];rfl))) hl
 rw [hd_of H.hd e] at hK
 have hsl:∀q∈segs bk (br++fr) items,q.length≤900:=fun q hq=>Nat.le_trans (H.sl q hq) (by decide)
 have hal:(segs bk (br++fr) items).length≤900:=Nat.le_trans (segs_len items _) (Nat.le_trans (Nat.succ_le_succ H.il) (by decide))
 obtain ⟨i',cs,hC,w,hw,hwj,hfin⟩:=t_cut (a:=a) (res:=res) (b9:=fS B) (b12:=b12) (j:=j) (off:=br.length+1) (n:=1000) (cs:=[]) hl H.bkE items (by rw [hB];exact h) (by rw [hB];exact hj) (by rw [hB,e];exact List.cons_ne_nil _ _) H.cur (by rw [List.length_append];exact Nat.succ_le_succ (Nat.le_add_right _ _)) H.n45 (Nat.le_trans (Nat.add_le_add_right H.il 2) (by decide)) (Nat.le_trans (Nat.le_of_eq (Nat.zero_add _)) (Nat.le_trans H.il (by decide)))
 have hwl:w.length≤800:=by
  have:=congrArg List.length hw
  rw [List.length_drop,List.length_append] at this
  lia
 have hM:∃y,Do (dFor 11 tDown tOne) (TS pat a res (fN i') (fN j) (fS B) (oL (segs bk (br++fr) items)) (.froz (.int (-1))) (fS w)) (TS pat a res (fN i') (fN j) (fS B) (oL [W]) (.froz y) (fS w)):=by
  rcases H.cut with q | ⟨u,v,q,rfl⟩
  ·rw [q];exact ⟨_,z_none⟩
  ·have h1:=H.sl (u++[122]) (by rw [q];exact List.mem_cons_self)
   have h2:=H.sl (121::v) (by rw [q];exact List.mem_cons_of_mem _ List.mem_cons_self)
   rw [List.length_append] at h1
   rw [q]
   exact ⟨_,z_zy (Nat.le_of_succ_le h1) (Nat.le_of_succ_le h2)⟩
 obtain ⟨y,hM⟩:=hM
 have hG:=t_glue (pat:=pat) (a:=a) (res:=res) (b5:=fN i') (b8:=fN j) (b9:=fS B) (b11:=.froz y) (b12:=fS w) (cs:=[W]) (by decide:1≤900) fun q hq=>by rw [List.mem_singleton.mp hq];exact Nat.le_trans H.wl (by decide)
 exact ⟨i',_,y,_,D_seq (r_own0 (st2:=TS pat a res (fN i) (fN j) (fS B) (oL []) b11 b12) (noMeth_TS.trans hn) rfl) (D_seq hK (D_seq hC (D_seq (D_set (t_slice hl hw hwj rfl rfl rfl) rfl) (D_seq (t_rest hwl hal hsl hfin) (D_seq hM (D_one hG))))))⟩
theorem z_in (H:BrZ B br fr bk items W T bar md) (hl:pat.length≤800) (hr:res.length≤100) (h:pat.drop i=B++93::Q) (hn:noMeth 10 [b10,b11,b12]=true):
  ∃x b10' b11' b12',Do tIn (TS pat a res (fN i) (fN (i+B.length)) b9 b10 b11 b12) (TS pat a (res++[.str (S (outOf bar md T))]) (fN (i+B.length+1)) (fN (i+B.length)) (.froz x) b10' b11' b12')∧noMeth 10 [b10',b11',b12']=true:=by
 have hq:Ev (kCmp .NotIn (kS [45]) (kN 9)) (TS pat a res (fN i) (fN (i+B.length)) (fS B) b10 b11 b12) (!decide (45∈B)):=q_Cmp q_S (q_N rfl) (notIn_S 45 B)
 have hS:∃i' b10' b11' b12',Do (kIf (kCmp .NotIn (kS [45]) (kN 9)) tPlain tHyph) (TS pat a res (fN i) (fN (i+B.length)) (fS B) b10 b11 b12) (TS pat a res (fN i') (fN (i+B.length)) (fS (escR W)) b10' b11' b12')∧noMeth 10 [b10',b11',b12']=true:=by
  by_cases hm:45∈B
  ·rw [decide_eq_true hm] at hq
   obtain ⟨i',x,y,z,q⟩:=z_hyph (a:=a) (res:=res) H hl h rfl hm hn
   exact ⟨i',_,_,_,D_IfF hq q,rfl⟩
  ·rw [decide_eq_false hm] at hq
   refine ⟨i,b10,b11,b12,D_IfT hq (D_one (D_set (ev1 (q_N rfl) ?_) rfl)),hn⟩
   rw [←H.plain hm]
   exact repl_S B [92,92] 92 (Nat.le_trans (Nat.add_le_add H.bl (Nat.mul_le_mul_right 2 (Nat.succ_le_succ H.bl))) (by decide))
 obtain ⟨i',b10',b11',b12',hS,hn'⟩:=hS
 have hX:=t_sub (pat:=pat) (a:=a) (res:=res) (b5:=fN i') (b8:=fN (i+B.length)) (b10:=b10') (b11:=b11') (b12:=b12') (Nat.le_trans H.el (by decide))
 rw [H.out] at hX
 obtain ⟨W',hE⟩:=t_end (pat:=pat) (a:=a) (md:=md) (b5:=fN (i+B.length+1)) (b8:=fN (i+B.length)) (b10:=b10') (b11:=b11') (b12:=b12') hr H.brE H.tne H.tm (Nat.le_trans H.tl (by decide))
 exact ⟨_,_,_,_,D_seq (D_set (t_slice hl h rfl rfl rfl rfl) rfl) (D_seq hS (D_seq hX (D_seq (D_set (q_Bin (q_N rfl) q_I (fN_add _ 1)) rfl) (D_one hE)))),hn'⟩
theorem z_br (H:BrZ B br fr bk items W T bar md) (hl:pat.length≤800) (hr:res.length≤100) (h:pat.drop i=B++93::Q) (hn:noMeth 10 [b10,b11,b12]=true):
  ∃b8' x b10' b11' b12',Do tBr (TS pat a res (fN i) b8 b9 b10 b11 b12) (TS pat a (res++[.str (S (outOf bar md T))]) (fN (i+B.length+1)) (.froz b8') (.froz x) b10' b11' b12')∧noMeth 10 [b10',b11',b12']=true:=by
 obtain ⟨w,hw⟩:∃w,items.flatMap render++bk=w:=⟨_,rfl⟩
 have hB:br++(fr++w)=B:=by rw [←hw,←List.append_assoc,←List.append_assoc];exact H.hB
 have hne:fr++w≠[]:=by rw [←hw,←List.append_assoc];exact H.ne
 obtain ⟨c,t,e⟩:∃c t,B=c::t:=List.exists_cons_of_ne_nil fun e=>hne (List.append_eq_nil_iff.mp (hB.trans e)).2
 have h1:=t_opt (c:=33) (a:=a) (res:=res) (b5:=fN i) (b9:=b9) (b10:=b10) (b11:=b11) (b12:=b12) (get_drop (h.trans (by rw [e];rfl))) hl
 rw [hd_of H.hd e] at h1
 have d1:pat.drop (i+br.length)=(fr++w)++93::Q:=drop_app (h.trans (by rw [←hB,List.append_assoc]))
 obtain ⟨c2,t2,e2⟩:∃c t,fr++w=c::t:=List.exists_cons_of_ne_nil hne
 have h2:=t_opt (c:=93) (a:=a) (res:=res) (b5:=fN i) (b9:=b9) (b10:=b10) (b11:=b11) (b12:=b12) (get_drop (d1.trans (by rw [e2];rfl))) hl
 have ef:(if c2=93 then 1 else 0)=fr.length:=by
  rcases H.frE with q | q
  ·rw [q] at e2 ⊢
   rw [if_neg]
   ·rfl
   ·exact H.n93 c2 (by rw [hw,show w=c2::t2 from e2];exact List.mem_cons_self)
  ·rw [q] at e2 ⊢
   rw [if_pos (List.cons.inj e2).1.symm]
   rfl
 rw [ef] at h2
 have d2:pat.drop (i+br.length+fr.length)=w++93::Q:=drop_app (d1.trans (List.append_assoc ..))
 have hB2:i+br.length+fr.length+w.length=i+B.length:=by rw [←hB,List.length_append,List.length_append,Nat.add_assoc,Nat.add_assoc]
 have hlt:i+B.length < pat.length:=drop_le (drop_app h)
 have hwl:w.length < 1000:=by
  have:=congrArg List.length d2
  rw [List.length_drop,List.length_append] at this
  lia
 have h3:=t_scan (a:=a) (res:=res) (b5:=fN i) (b9:=b9) (b10:=b10) (b11:=b11) (b12:=b12) hl w d2 (fun c hc=>H.n93 c (hw ▸ hc)) hwl
 rw [hB2] at h3
 obtain ⟨x,b10',b11',b12',hI,hn'⟩:=z_in (a:=a) (b9:=b9) H hl hr h hn
 exact ⟨_,x,_,_,_,D_seq (D_set (q_N rfl) rfl) (D_seq h1 (D_seq h2 (D_seq h3 (D_one (D_IfF (q_Cmp (q_N rfl) (q_N rfl) (ge_F _ _ hlt)) hI))))),hn'⟩
theorem z_body {x y z:EvS} {st:St} (H:BrZ B br fr bk items W T bar md) (hl:pat.length≤800) (hr:res.length≤100) (h:pat.drop i=91::(B++93::Q)) (hs:TTail pat a res i st):
  ∃s2,Do (tBody x y z) st s2∧TTail pat a (res++[.str (S (outOf bar md T))]) (i+(B.length+2)) s2:=by
 obtain ⟨hn⟩:=hs
 obtain ⟨b8',u,b10',b11',b12',hB,hn'⟩:=z_br (a:=a) H hl hr (drop_app (u:=[91]) h) (noMeth_tl (noMeth_tl (noMeth_tl hn)))
 refine ⟨_,D_seq (D_set (q_It (q_N rfl) (q_N rfl) (item_S pat i 91 (get_drop h) (Nat.le_trans hl (by decide)))) rfl) (D_seq (D_set (q_Bin (q_N rfl) q_I (fN_add i 1)) rfl)
  (D_one (D_IfF (q_Cmp (q_N rfl) q_S (eq_one 91 42)) (D_one (D_IfF (q_Cmp (q_N rfl) q_S (eq_one 91 63)) (D_one (D_IfT (q_Cmp (q_N rfl) q_S (eq_one 91 91)) hB))))))),?_⟩
 rw [show i+(B.length+2)=i+1+B.length+1 by lia]
 exact ⟨hn'⟩
end
noncomputable def xTest:EvB:=orF (kNot (nameT 3)) (kCmp .IsNot (kOwn 3 kM1) (kN 1))
noncomputable def xStar:EvS:=seqF (kIf xTest (seqF (addF 4 3 (kN 1)) dNil) dNil) dNil
noncomputable def xQ:EvS:=seqF (addF 4 3 (kN 2)) dNil
noncomputable def xEsc (m:List PV→Option PV):EvS:=seqF (addF 4 3 (kF m (kA1 (kN 7)))) dNil
theorem tr1_code {X:Cx} {d:Nat} {cd:Value} {ql:PySem.Str} (G:Glo X) {fEscape:Addr} {mEscape:List PV→Option PV} (hEscape:CallW X d fEscape mEscape) (gEscape:X.mg "escape"=some (.ref fEscape)) (oEscape:∃o fd,X.B.get? fEscape=some o∧o.data=.func fd) {c T P cA:Addr} {fs items:Array Value} (okS:MakeOK X (FTrans cd ql) c T ⟨79,39,79,76⟩ "<lambda>") (okG:MakeOK X (FTrans cd ql) c T ⟨78,37,78,98⟩ "<genexpr>") (hTw:X.mg "_twin_re_1"=some (.ref P)) (hPat:PatAt X.B P fs cA items):
  (WTrans.transS (X:=X) (d:=d) (cd:=cd) (ql:=ql) G hEscape gEscape oEscape okS okG hTw hPat).1=tAll xStar xQ (xEsc mEscape):=by
 unfold WTrans.transS
 rfl
noncomputable def pvO (a:Addr):Option (List Nat)→PV
 | none=>.obj a
 | some q=>.str (S q)
noncomputable def addStar (ps:List (Option (List Nat))):List (Option (List Nat)):=if ps.getLast? =some none then ps else ps++[none]
noncomputable def stp (ps:List (Option (List Nat))):Option (List Nat×List Nat)→List (Option (List Nat))
 | none=>addStar ps
 | some p=>ps++[some p.2]
noncomputable def pcX:Option (List Nat×List Nat)→List Nat
 | none=>[42]
 | some p=>p.1
theorem itemL_last {xs:List PV} {x:PV} (h:xs.length≤1000):pyItem (.list (xs++[x])) (.int (-1))=some x:=by
 show ((seqIndex? (-1) (xs++[x]).length).bind ((xs++[x])[·]?))=_
 rw [List.length_append,List.length_singleton,seqIdx_last,Option.bind_some,List.getElem?_append_right (Nat.le_refl _),Nat.sub_self]
 rfl
theorem D_ret {f:EvE} {st:St} {v:PV} (h:Ev f st v):(bindE f fun p=>pureE (Fl.ret p)) st=some (.ret v,st):=run_bind h rfl
section
variable {pat:List Nat} {a:Addr} {ps:List (Option (List Nat))} {i:Nat} {st:St}
theorem lastO (ps:List (Option (List Nat))):(ps=[]∨∃qs q,ps=qs++[some q])∨∃qs,ps=qs++[none]:=by
 rcases List.eq_nil_or_concat ps with rfl | ⟨qs,x,rfl⟩
 ·exact .inl (.inl rfl)
 ·rw [List.concat_eq_append]
  cases x with
  | none=>exact .inr ⟨qs,rfl⟩
  | some q=>exact .inl (.inr ⟨qs,q,rfl⟩)
theorem x_test {b5 b7 b8 b9 b10 b11 b12:Bind} {n:Nat} (hl:ps.length≤100):Ev xTest [fS pat,.froz (.obj a),fS [46],.own (ps.map (pvO a)),.meth 3,b5,fN n,b7,b8,b9,b10,b11,b12] (decide (ps.getLast? ≠some none)):=by
 have hN:∀{xs:List PV} {b:Bool},xs.length≤100→(!xs.isEmpty)=b→Ev (kNot (nameT 3)) [fS pat,.froz (.obj a),fS [46],.own xs,.meth 3,b5,fN n,b7,b8,b9,b10,b11,b12] (!b):=fun {xs b} h e=>q_Not (by
  show (if xs.length < 9223372036854775808 then some (!xs.isEmpty,_) else none)=_
  rw [if_pos (Nat.lt_of_le_of_lt h (by decide)),e])
 have hm:(ps.map (pvO a)).length≤100:=by rw [List.length_map];exact hl
 rcases lastO ps with (rfl | ⟨qs,q,rfl⟩) | ⟨qs,rfl⟩
 ·exact r_orT (hN hm (b:=false) rfl)
 ·have hq:qs.length≤100:=Nat.le_trans (by rw [List.length_append];exact Nat.le_add_right _ _) hl
  rw [List.map_append] at hm ⊢
  rw [List.getLast?_concat]
  refine r_orF (hN hm (b:=true) (by cases qs<;>rfl)) (q_Cmp (q_OwnO rfl rfl (itemL_last (by rw [List.length_map];exact Nat.le_trans hq (by decide)))) (q_N rfl) rfl)
 ·have hq:qs.length≤100:=Nat.le_trans (by rw [List.length_append];exact Nat.le_add_right _ _) hl
  rw [List.map_append] at hm ⊢
  rw [List.getLast?_concat]
  refine r_orF (hN hm (b:=true) (by cases qs<;>rfl)) (q_Cmp (q_OwnO rfl rfl (itemL_last (by rw [List.length_map];exact Nat.le_trans hq (by decide)))) (q_N rfl) ?_)
  exact (congrArg (Option.map (!·)) (if_pos (e:=none) (rfl:a=a):pyIs (.obj a) (.obj a)=some true))
theorem star_turn {y z:EvS} {Q:List Nat} (hl:pat.length≤800) (hr:ps.length≤100) (h:pat.drop i=42::Q) (hs:TTail pat a (ps.map (pvO a)) i st):
    ∃s2,Do (tBody xStar y z) st s2∧TTail pat a ((addStar ps).map (pvO a)) (i+1) s2:=by
  obtain ⟨hn⟩:=hs
  have hT:=x_test (pat:=pat) (a:=a) (b5:=fN (i+1)) (b7:=.froz (C 42)) (b8:=b8) (b9:=b9) (b10:=b10) (b11:=b11) (b12:=b12) (n:=pat.length) hr
  have hm:(ps.map (pvO a)).length≤16777215:=by rw [List.length_map];exact Nat.le_trans hr (by decide)
  have hX:Do (kIf xTest (seqF (addF 4 3 (kN 1)) dNil) dNil) [fS pat,.froz (.obj a),fS [46],.own (ps.map (pvO a)),.meth 3,fN (i+1),fN pat.length,.froz (C 42),b8,b9,b10,b11,b12]
      [fS pat,.froz (.obj a),fS [46],.own ((addStar ps).map (pvO a)),.meth 3,fN (i+1),fN pat.length,.froz (C 42),b8,b9,b10,b11,b12]:=by
    unfold addStar
    by_cases q:ps.getLast? =some none
    · rw [if_pos q]
      rw [decide_eq_false (fun z=>z q)] at hT
      exact D_IfF hT D_nil
    · rw [if_neg q,List.map_append]
      rw [decide_eq_true q] at hT
      exact D_IfT hT (D_one (D_add rfl (q_N rfl) rfl hm rfl))
  exact ⟨_,D_seq (D_set (q_It (q_N rfl) (q_N rfl) (item_S pat i 42 (get_drop h) (Nat.le_trans hl (by decide)))) rfl) (D_seq (D_set (q_Bin (q_N rfl) q_I (fN_add i 1)) rfl) (D_one (D_IfT (q_Cmp (q_N rfl) q_S (eq_one 42 42)) (D_one hX)))),⟨noMeth_tl hn⟩⟩
theorem q_turn {x z:EvS} {res:List PV} {Q:List Nat} (hl:pat.length≤800) (hr:res.length≤100) (h:pat.drop i=63::Q) (hs:TTail pat a res i st):
  ∃s2,Do (tBody x xQ z) st s2∧TTail pat a (res++[.str (S [46])]) (i+1) s2:=by
 obtain ⟨hn⟩:=hs
 exact ⟨_,D_seq (D_set (q_It (q_N rfl) (q_N rfl) (item_S pat i 63 (get_drop h) (Nat.le_trans hl (by decide)))) rfl) (D_seq (D_set (q_Bin (q_N rfl) q_I (fN_add i 1)) rfl) (D_one (D_IfF (q_Cmp (q_N rfl) q_S (eq_one 63 42)) (D_one (D_IfT (q_Cmp (q_N rfl) q_S (eq_one 63 63)) (D_one (D_add rfl (q_N rfl) rfl (Nat.le_trans hr (by decide)) rfl))))))),⟨noMeth_tl hn⟩⟩
theorem e_turn1 {x y:EvS} {m:List PV→Option PV} {res:List PV} {Q v:List Nat} {c:Nat} (hc:c≠42∧c≠63∧c≠91) (hm:m [C c]=some (.str (S v))) (hl:pat.length≤800) (hr:res.length≤100) (h:pat.drop i=c::Q) (hs:TTail pat a res i st):
  ∃s2,Do (tBody x y (xEsc m)) st s2∧TTail pat a (res++[.str (S v)]) (i+1) s2:=by
 obtain ⟨hn⟩:=hs
 have he:∀{st:St} {k:Nat},st[7]? =some (.froz (C c))→c≠k→Ev (kCmp .Eq (kN 7) (kS [k])) st false:=fun h e=>q_Cmp (q_N h) q_S ((eq_one _ _).trans (congrArg some (decide_eq_false e)))
 exact ⟨_,D_seq (D_set (q_It (q_N rfl) (q_N rfl) (item_S pat i c (get_drop h) (Nat.le_trans hl (by decide)))) rfl) (D_seq (D_set (q_Bin (q_N rfl) q_I (fN_add i 1)) rfl) (D_one (D_IfF (he rfl hc.1) (D_one (D_IfF (he rfl hc.2.1) (D_one (D_IfF (he rfl hc.2.2) (D_one (D_add rfl (q_F (q_A1 (q_N rfl)) hm) rfl (Nat.le_trans hr (by decide)) rfl))))))))),⟨noMeth_tl hn⟩⟩
end
theorem runF_ret' {g:EvS} {n:Nat} {as:List PV} {p:PV} {st':St} (h:g (as.map .froz++List.replicate (n - as.length) .none)=some (.ret p,st')):runF g n as=some p:=by
 unfold runF
 rw [h]
theorem t_hdr' {pat:List Nat} {a:Addr} (h:pat.length≤800):Do tHd [fS pat,.froz (.obj a),fS [46],.own [],.meth 3,.none,.none,.none,.none,.none,.none,.none,.none] [fS pat,.froz (.obj a),fS [46],.own [],.meth 3,fN 0,fN pat.length,.none,.none,.none,.none,.none,.none]:=by
 have h2:pyLen [.str (S pat)]=some (.int pat.length):=by rw [len_St _ (by rw [S_len];exact Nat.lt_of_le_of_lt h (by decide)),S_len]
 have e:(kV (kI 0) (kV (kLen 0) (pureE []))) [fS pat,.froz (.obj a),fS [46],.own [],.meth 3,.none,.none,.none,.none,.none,.none,.none,.none]=some ([El.froz (.int ((0:Nat):Int)),El.froz (.int (pat.length:Int))],_):=q_V q_I (q_V (g:=pureE []) (es:=[]) (q_Len (i:=0) rfl h2) rfl)
 unfold Do tHd tupF
 rw [run_bind (run_bind (g:=fun es=>pureE es.reverse) e rfl) rfl]
 rfl
structure PcOK (m:List PV→Option PV) (p q:List Nat):Prop where
 ne:p≠[]
 pl:p.length≤60
 ql:q.length≤100
 run:∀{pat:List Nat} {a:Addr} {res:List PV} {i:Nat} {st:St} {Q:List Nat},pat.length≤800→res.length≤100→pat.drop i=p++Q→TTail pat a res i st→∃s2,Do (tBody xStar xQ (xEsc m)) st s2∧TTail pat a (res++[.str (S q)]) (i+p.length) s2
theorem pc_q {m:List PV→Option PV}:PcOK m [63] [46]:=⟨by decide,by decide,by decide,q_turn⟩
theorem pc_1 {m:List PV→Option PV} {c:Nat} {v:List Nat} (hc:c≠42∧c≠63∧c≠91) (hm:m [C c]=some (.str (S v))) (hv:v.length≤100):PcOK m [c] v:=⟨List.cons_ne_nil _ _,(by decide:1≤60),hv,e_turn1 hc hm⟩
theorem out_len {bar md:Bool} {T:List Nat} (h:T.length≤60):(outOf bar md T).length≤100:=by
 unfold outOf
 split<;>split<;>simp only [List.length_append,List.length_cons,List.length_nil]<;>(try split)<;>(try simp only [List.length_cons])<;>lia
theorem pc_br {m:List PV→Option PV} {B br fr bk W T:List Nat} {items:List (Nat×Nat)} {bar md:Bool} (H:BrZ B br fr bk items W T bar md):PcOK m (91::(B++[93])) (outOf bar md T):=
 ⟨List.cons_ne_nil _ _,by rw [List.length_cons,List.length_append];exact Nat.le_trans (Nat.succ_le_succ (Nat.succ_le_succ H.bl)) (by decide),out_len H.tl,fun {pat a res i st Q} hl hr h hs=>by
  have e:pat.drop i=91::(B++93::Q):=h.trans (by rw [List.cons_append,List.append_assoc];rfl)
  have q:=z_body (x:=xStar) (y:=xQ) (z:=xEsc m) H hl hr e hs
  rwa [show (91::(B++[93])).length=B.length+2 by rw [List.length_cons,List.length_append];rfl]⟩
noncomputable abbrev Pcs:=List (Option (List Nat×List Nat))
noncomputable def PcsOK (m:List PV→Option PV) (pcs:Pcs):Prop:=∀p q,some (p,q)∈pcs→PcOK m p q
noncomputable def txt (pcs:Pcs):List Nat:=pcs.flatMap pcX
theorem txt_len {m:List PV→Option PV}:∀(pcs:Pcs),PcsOK m pcs→(txt pcs).length≤pcs.length * 60
 | [],_=>Nat.le_refl 0
 | x::l,h=>by
  rw [txt,List.flatMap_cons,List.length_append,List.length_cons,Nat.succ_mul,Nat.add_comm]
  refine Nat.add_le_add (txt_len l fun p q hp=>h p q (List.mem_cons_of_mem _ hp)) ?_
  cases x with
  | none=>exact (by decide:1≤60)
  | some x=>exact (h x.1 x.2 List.mem_cons_self).pl
theorem addStar_len (ps:List (Option (List Nat))):(addStar ps).length≤ps.length+1:=by
 unfold addStar
 split
 ·exact Nat.le_succ _
 ·rw [List.length_append];exact Nat.le_refl _
theorem t1_loop {m:List PV→Option PV} {pat:List Nat} {a:Addr} (hl:pat.length≤800):∀(pcs:Pcs) {ps:List (Option (List Nat))} {n i:Nat} {st:St},PcsOK m pcs→pcs.length < n→ps.length+pcs.length≤100→pat.drop i=txt pcs→i+(txt pcs).length=pat.length→TTail pat a (ps.map (pvO a)) i st→
  ∃s2,Do (whileF (kCmp .Lt (kN 5) (kN 6)) (tBody xStar xQ (xEsc m)) n) st s2∧TTail pat a ((pcs.foldl stp ps).map (pvO a)) pat.length s2
 | [],ps,n+1,i,st,_,_,_,_,hi,hs=>by
  obtain rfl:i=pat.length:=hi
  refine ⟨st,D_wF ?_,hs⟩
  obtain ⟨hn⟩:=hs
  exact q_Cmp (q_N rfl) (q_N rfl) (lt_F _ _ (Nat.lt_irrefl _))
 | x::pcs,ps,n+1,i,st,ho,hn,hp,hd,hi,hs=>by
  rw [txt,List.flatMap_cons] at hd hi
  have hps:ps.length≤100:=Nat.le_trans (Nat.le_add_right _ _) hp
  obtain ⟨s1,h1,h2,h3⟩:∃s1,Do (tBody xStar xQ (xEsc m)) st s1∧TTail pat a ((stp ps x).map (pvO a)) (i+(pcX x).length) s1∧(stp ps x).length≤ps.length+1:=by
   cases x with
   | none=>
    obtain ⟨s1,h1,h2⟩:=star_turn (y:=xQ) (z:=xEsc m) hl hps hd hs
    exact ⟨s1,h1,h2,addStar_len ps⟩
   | some x=>
    obtain ⟨s1,h1,h2⟩:=(ho x.1 x.2 List.mem_cons_self).run hl (by rw [List.length_map];exact hps) hd hs
    exact ⟨s1,h1,by rw [stp,List.map_append];exact h2,by rw [stp,List.length_append];exact Nat.le_refl _⟩
  rw [List.length_append,←Nat.add_assoc] at hi
  rw [List.length_cons,←Nat.add_assoc,Nat.add_right_comm] at hp
  obtain ⟨s2,h4,h5⟩:=t1_loop hl pcs (fun p q hq=>ho p q (List.mem_cons_of_mem _ hq)) (Nat.lt_of_succ_lt_succ hn) (Nat.le_trans (Nat.add_le_add_right h3 _) hp) (drop_app hd) hi h2
  refine ⟨s2,D_wT ?_ h1 h4,h5⟩
  obtain ⟨hn⟩:=hs
  refine q_Cmp (q_N rfl) (q_N rfl) (lt_T i _ ?_)
  have:1≤(pcX x).length:=by
   cases x with
   | none=>exact Nat.le_refl 1
   | some x=>exact List.length_pos_iff.mpr (ho x.1 x.2 List.mem_cons_self).ne
  rw [←hi]
  exact Nat.lt_of_lt_of_le (Nat.lt_add_of_pos_right this) (Nat.le_add_right _ _)
theorem trans_run1 {X:Cx} {d:Nat} {cd:Value} {ql:PySem.Str} (G:Glo X) {fEscape:Addr} {mEscape:List PV→Option PV} (hEscape:CallW X d fEscape mEscape) (gEscape:X.mg "escape"=some (.ref fEscape)) (oEscape:∃o fd,X.B.get? fEscape=some o∧o.data=.func fd) {c T P cA:Addr} {fs items:Array Value} (okS:MakeOK X (FTrans cd ql) c T ⟨79,39,79,76⟩ "<lambda>") (okG:MakeOK X (FTrans cd ql) c T ⟨78,37,78,98⟩ "<genexpr>") (hTw:X.mg "_twin_re_1"=some (.ref P)) (hPat:PatAt X.B P fs cA items)
  (pcs:Pcs) (ho:PcsOK mEscape pcs) (hn:pcs.length≤12) (a:Addr):
  runF (WTrans.transS (X:=X) (d:=d) (cd:=cd) (ql:=ql) G hEscape gEscape oEscape okS okG hTw hPat).1 13 [.str (S (txt pcs)),.obj a,.str (S [46])]=some (.list ((pcs.foldl stp []).map (pvO a))):=by
 have hl:(txt pcs).length≤800:=Nat.le_trans (txt_len pcs ho) (Nat.le_trans (Nat.mul_le_mul_right 60 hn) (by decide))
 obtain ⟨s2,h1,h2⟩:=t1_loop (a:=a) (ps:=[]) (n:=1000) (i:=0) hl pcs ho (Nat.lt_of_le_of_lt hn (by decide)) (Nat.le_trans (Nat.le_of_eq (Nat.zero_add _)) (Nat.le_trans hn (by decide))) List.drop_zero (Nat.zero_add _) (@TTail.mk _ _ _ _ .none .none .none .none .none .none rfl)
 rw [tr1_code]
 obtain ⟨_⟩:=h2
 exact runF_ret' ((seq_next (r_own0 rfl rfl)).trans ((seq_next (f:=setMeth 4 3) rfl).trans ((seq_next (t_hdr' hl)).trans ((seq_next h1).trans ((seq_next (D_IfT (q_Cmp (q_N rfl) (q_N rfl) ((eq_I _ _).trans (congrArg some (beq_self_eq_true _)))) D_nil)).trans (seq_ret (run_bind rfl rfl)))))))
noncomputable def kEl (g:St→Option (List El×St)):St→Option (List El×St):=bindE (pureE []) fun a=>bindE g fun as=>if a.length≤16777216 then pureE (El.own a::as) else fun _=>none
noncomputable def sIt:EvE:=kIt (kN 0) (kN 3)
noncomputable def sIs (c:Nat):EvB:=kCmp .Eq sIt (kS [c])
noncomputable def sNo:EvB:=kCmp .Eq (kSl (kN 0) (kAs (kN 3)) (kAs (kBin .Add (kN 3) (kI 4)))) (kS [40,63,33,41])
noncomputable def sEsc:EvS:=augF 3 .Add (kIf (sIs 92) (kI 1) (kI 0))
noncomputable def sInc (n:Int):EvS:=augF 3 .Add (kI n)
noncomputable def sTurn:EvS:=seqF sEsc (seqF (augF 5 .Add sIt) (seqF (sInc 1) dNil))
noncomputable def sTest:EvB:=orF (kCmp .Eq (kN 5) (kS [])) (kCmp .NotEq sIt (kS [93]))
noncomputable def sSel:EvE:=kM (kS []) pyJoin (kA1 (compE [4,5] (kN 1) (compV 1 0 (kCmp .NotEq (kCV .In (kN 0) (kN 2)) (kN 1)) (kN 0))))
noncomputable def sBr:EvS:=seqF (dSet 4 (kCV .Eq (kIt (kN 0) (kBin .Add (kN 3) (kI 1))) (kS [94]))) (seqF (augF 3 .Add (kIf (nameT 4) (kI 2) (kI 1))) (seqF (dSet 5 (kS [])) (seqF (whileF sTest sTurn 1000) (seqF (appF 2 sSel) dNil))))
noncomputable def sElse:EvS:=seqF sEsc (seqF (appF 2 sIt) dNil)
noncomputable def sBody:EvS:=seqF (kIf (sIs 46) (seqF (appF 2 (kN 1)) dNil) (seqF (kIf sNo (seqF (appF 2 (kS [])) (seqF (sInc 3) dNil)) (seqF (kIf (sIs 91) sBr sElse) dNil)) dNil)) (seqF (sInc 1) dNil)
noncomputable def sHd:EvS:=tupF [3,2] (bindE (kEl (kV (kI 0) (pureE []))) fun es=>pureE es.reverse)
noncomputable def sAll:EvS:=seqF sHd (seqF (whileF (kCmp .Lt (kN 3) (kLen 0)) sBody 1000) (seqF (bindE (kN 2) fun p=>pureE (.ret p)) dNil))
theorem st_code {X:Cx} {d:Nat} {cd:Value} {ql:PySem.Str} (G:Glo X):(WSets.setsS (X:=X) (d:=d) (cd:=cd) (ql:=ql) G).1=sAll:=by
 unfold WSets.setsS
 rfl
noncomputable def XS (row sg:List Nat) (sets:List (List Nat)) (k:Nat) (b4 b5:Bind):St:=[fS row,fS sg,oL sets,fN k,b4,b5]
section
variable {row sg:List Nat} {sets:List (List Nat)} {k:Nat} {b4 b5:Bind}
theorem sIt_ev {c:Nat} {v:List Nat} (hl:row.length≤900) (h:row.drop k=c::v):Ev sIt (XS row sg sets k b4 b5) (C c):=q_It (q_N rfl) (q_N rfl) (item_S row k c (get_drop h) (Nat.le_trans hl (by decide)))
theorem sIs_ev {c:Nat} {v:List Nat} (d:Nat) (hl:row.length≤900) (h:row.drop k=c::v):Ev (sIs d) (XS row sg sets k b4 b5) (decide (c=d)):=q_Cmp (sIt_ev hl h) q_S (eq_one c d)
theorem sInc_do (n:Nat):Do (sInc n) (XS row sg sets k b4 b5) (XS row sg sets (k+n) b4 b5):=D_aug rfl q_I rfl rfl
theorem sEsc_do {m:Nat×Bool} {v:List Nat} (hl:row.length≤900) (h:row.drop k=mk m++v) (h92:m.2=false→m.1≠92):Do sEsc (XS row sg sets k b4 b5) (XS row sg sets (k+(if m.2=true then 1 else 0)) b4 b5)∧row.drop (k+(if m.2=true then 1 else 0))=m.1::v:=by
 obtain ⟨c,e⟩:=m
 cases e with
 | true=>exact ⟨D_aug rfl (q_IfT (sIs_ev 92 hl h) (q_I (n:=((1:Nat):Int)))) rfl rfl,drop_app (u:=[92]) h⟩
 | false=>exact ⟨D_aug rfl (q_IfF ((decide_eq_false (h92 rfl)) ▸ sIs_ev 92 hl h) (q_I (n:=((0:Nat):Int)))) rfl rfl,h⟩
theorem s_turn {m:Nat×Bool} {v w:List Nat} (hl:row.length≤900) (hw:w.length≤900) (h:row.drop k=mk m++v) (h92:m.2=false→m.1≠92):Do sTurn (XS row sg sets k b4 (fS w)) (XS row sg sets (k+(mk m).length) b4 (fS (w++[m.1]))):=by
 obtain ⟨h1,h2⟩:=sEsc_do (sg:=sg) (sets:=sets) (b4:=b4) (b5:=fS w) hl h h92
 have h3:Do (augF 5 .Add sIt) (XS row sg sets (k+(if m.2=true then 1 else 0)) b4 (fS w)) (XS row sg sets (k+(if m.2=true then 1 else 0)) b4 (fS (w++[m.1]))):=D_aug rfl (sIt_ev hl h2) (aug_S w [m.1] (Nat.le_trans (Nat.succ_le_succ hw) (by decide))) rfl
 have e:k+(mk m).length=k+(if m.2=true then 1 else 0)+1:=by
  obtain ⟨c,q⟩:=m
  cases q<;>rfl
 rw [e]
 exact D_seq h1 (D_seq h3 (D_one (sInc_do 1)))
theorem s_test {c:Nat} {v w:List Nat} (hl:row.length≤900) (h:row.drop k=c::v):Ev sTest (XS row sg sets k b4 (fS w)) (w==[]|| !decide (c=93)):=by
 cases hw:w==[] with
 | true=>exact r_orT (q_Cmp (q_N rfl) q_S ((eq_S w []).trans (congrArg some hw)))
 | false=>exact r_orF (q_Cmp (q_N rfl) q_S ((eq_S w []).trans (congrArg some hw))) (q_Cmp (sIt_ev hl h) q_S (ne_one c 93))
theorem s_marks {post:List Nat} (hl:row.length≤900):∀(ms:List (Nat×Bool)) (w:List Nat) (k n:Nat),row.drop k=ms.flatMap mk++93::post→w++ms.map (·.1)≠[]→(∀m∈ms,m.2=false→m.1≠92)→(w≠[]→∀m∈ms,m.2=false→m.1≠93)→(∀m∈ms.tail,m.2=false→m.1≠93)→
  ms.length < n→w.length+ms.length≤900→Do (whileF sTest sTurn n) (XS row sg sets k b4 (fS w)) (XS row sg sets (k+(ms.flatMap mk).length) b4 (fS (w++ms.map (·.1))))
 | [],w,k,n+1,h,hne,_,_,_,_,_=>by
  rw [List.map_nil,List.append_nil] at hne ⊢
  have e:=s_test (sg:=sg) (sets:=sets) (b4:=b4) (w:=w) hl h
  rw [beq_eq_false_iff_ne.mpr hne] at e
  exact D_wF e
 | m::ms,w,k,n+1,h,_,h92,h93,ht,hn,hs=>by
  rw [List.flatMap_cons,List.append_assoc] at h
  have h1:=s_turn (sg:=sg) (sets:=sets) (b4:=b4) hl (Nat.le_trans (Nat.le_add_right _ _) hs) h (h92 m List.mem_cons_self)
  have h2:=s_marks (post:=post) hl ms (w++[m.1]) (k+(mk m).length) n (drop_app h) (by rw [List.append_assoc];exact List.append_ne_nil_of_right_ne_nil _ (List.cons_ne_nil _ _)) (fun x hx=>h92 x (List.mem_cons_of_mem _ hx)) (fun _=>ht) (fun x hx=>ht x (List.mem_of_mem_tail hx)) (Nat.lt_of_succ_lt_succ hn) (by rw [List.length_append,Nat.add_assoc,Nat.add_comm _ ms.length];exact hs)
  rw [List.append_assoc,Nat.add_assoc,←List.length_append,←List.flatMap_cons] at h2
  refine D_wT ?_ h1 h2
  obtain ⟨c,q⟩:=m
  cases q with
  | true=>
   have e:=s_test (sg:=sg) (sets:=sets) (b4:=b4) (w:=w) hl (c:=92) h
   rwa [show (w==[]|| !decide (92=93))=true by rw [decide_eq_false (by decide),Bool.not_false,Bool.or_true]] at e
  | false=>
   have e:=s_test (sg:=sg) (sets:=sets) (b4:=b4) (w:=w) hl (c:=c) h
   cases hw:w==[] with
   | true=>rwa [hw] at e
   | false=>rwa [hw,Bool.false_or,decide_eq_false (h93 (beq_eq_false_iff_ne.mp hw) (c,false) List.mem_cons_self rfl)] at e
end
theorem items_S (l:List Nat):itemsOf (.str (S l))=some (l.map C):=rfl
theorem map_one (l:List Nat):l.map C=(l.map fun c=>[c]).map fun q=>PV.str (S q):=by rw [List.map_map];rfl
theorem flat_one:∀l:List Nat,(l.map fun c=>[c]).flatten=l
 | []=>rfl
 | c::l=>by rw [List.map_cons,List.flatten_cons,flat_one l];rfl
theorem join_C {l:List Nat} (hl:l.length≤900):pyJoin (.str (S [])) [.list (l.map C)]=some (.str (S l)):=by
 rw [map_one,pyJoin_S _ (fun q h=>by
  obtain ⟨c,_,rfl⟩:=List.mem_map.mp h
  exact (by decide:1≤2000)) (by rw [List.length_map];exact hl),flat_one]
theorem r_cap2 {i j:Nat} {st:St} {p q:PV} (h:st[i]? =some (.froz p)) (h2:st[j]? =some (.froz q)):capF [i,j] st=some ([p,q],st):=by simp only [capF,bindE,r_name h,r_name h2,pureE]
section
variable {row sg:List Nat} {sets:List (List Nat)} {k:Nat} {b4 b5:Bind}
theorem sSel_ev {w:List Nat} {bar:Bool} (hs:sg.length≤100):Ev sSel (XS row sg sets k (.froz (.bool bar)) (fS w)) (.str (S (sg.filter fun c=>decide (c∈w) != bar))):=by
 have hc:compV 1 0 (kCmp .NotEq (kCV .In (kN 0) (kN 2)) (kN 1)) (kN 0) (sg.map C) [.bool bar,.str (S w)]=some (.list ((sg.filter fun c=>decide (c∈w) != bar).map C)):=
  compV_runM (n:=1) (i:=0) (ps:=[.bool bar,.str (S w)]) C (fun c=>decide (c∈w) != bar) C (Nat.le_trans hs (by decide)) fun c _=>⟨q_Cmp (q_CV (q_N rfl) (q_N rfl) (in_S c w)) (q_N rfl) (ne_BB _ _),fun _=>q_N rfl⟩
 have hr:Ev (compE [4,5] (kN 1) (compV 1 0 (kCmp .NotEq (kCV .In (kN 0) (kN 2)) (kN 1)) (kN 0))) (XS row sg sets k (.froz (.bool bar)) (fS w)) (.list ((sg.filter fun c=>decide (c∈w) != bar).map C)):=
  r_comp (r_cap2 rfl rfl) (q_N rfl) (items_S sg) hc
 exact q_M q_S (q_A1 hr) (join_C (Nat.le_trans (List.length_filter_le _ _) (Nat.le_trans hs (by decide))))
theorem app2 {f:EvE} {q:List Nat} (hp:sets.length≤900) (h:Ev f (XS row sg sets k b4 b5) (.str (S q))):Do (appF 2 f) (XS row sg sets k b4 b5) (XS row sg (sets++[q]) k b4 b5):=
 D_app h rfl (len_oL (Nat.le_trans hp (by decide))) (congrArg (fun b:Bind=>([fS row,fS sg,b,fN k,b4,b5]:St)) (map_snoc sets q))
theorem sNo_F {c:Nat} {v:List Nat} (hl:row.length≤900) (h:row.drop k=c::v) (hc:c≠40):Ev sNo (XS row sg sets k b4 b5) false:=by
 refine q_Cmp (q_Sl (q_N rfl) (q_As (q_N rfl) rfl) (q_As (q_Bin (q_N rfl) q_I (fN_add k 4)) rfl) (slS row _ _ (Nat.le_trans hl (by decide)))) q_S ((eq_S _ _).trans (congrArg some (beq_eq_false_iff_ne.mpr fun e=>?_)))
 have hlt:=drop_le h
 rw [clipN_nat,clipN_nat,Nat.min_eq_left (Nat.le_of_lt hlt),h] at e
 cases hn:min (k+4) row.length - k with
 | zero=>rw [hn] at e;cases e
 | succ n=>rw [hn,List.take_succ_cons] at e;exact hc (List.cons.inj e).1
theorem sNo_T {v:List Nat} (hl:row.length≤900) (h:row.drop k=[40,63,33,41]++v):Ev sNo (XS row sg sets k b4 b5) true:=
 q_Cmp (q_Sl (q_N rfl) (q_As (q_N rfl) rfl) (q_As (q_Bin (q_N rfl) q_I (fN_add k 4)) rfl) (slice_S' (u:=[40,63,33,41]) (Nat.le_trans hl (by decide)) h (Nat.le_of_lt (drop_le h)))) q_S (eq_S _ _)
end
structure SeOK (sg p it:List Nat):Prop where
 ne:p≠[]
 run:∀{row:List Nat} {sets:List (List Nat)} {k:Nat} {b4 b5:Bind} {Q:List Nat},row.length≤900→sets.length≤100→row.drop k=p++Q→∃b4' b5',Do sBody (XS row sg sets k b4 b5) (XS row sg (sets++[it]) (k+p.length) b4' b5')
theorem se_dot {sg:List Nat}:SeOK sg [46] sg:=⟨by decide,fun {row sets k b4 b5 Q} hl hs h=>⟨b4,b5,D_seq (D_IfT (sIs_ev 46 hl h) (D_one (app2 (Nat.le_trans hs (by decide)) (q_N rfl)))) (D_one (sInc_do 1))⟩⟩
theorem se_no {sg:List Nat}:SeOK sg [40,63,33,41] []:=⟨by decide,fun {row sets k b4 b5 Q} hl hs h=>⟨b4,b5,D_seq (D_IfF (sIs_ev 46 hl h) (D_one (D_IfT (sNo_T hl h) (D_seq (app2 (Nat.le_trans hs (by decide)) q_S) (D_one (sInc_do 3)))))) (D_one (sInc_do 1))⟩⟩
theorem se_one {sg:List Nat} {m:Nat×Bool} (h92:m.2=false→m.1≠92) (hc:m.2=false→m.1≠46∧m.1≠40∧m.1≠91):SeOK sg (mk m) [m.1]:=by
 refine ⟨by obtain ⟨c,q⟩:=m;cases q<;>exact List.cons_ne_nil _ _,fun {row sets k b4 b5 Q} hl hs h=>⟨b4,b5,?_⟩⟩
 obtain ⟨h1,h2⟩:=sEsc_do (sg:=sg) (sets:=sets) (b4:=b4) (b5:=b5) hl h h92
 have hd:∃c v,row.drop k=c::v∧c≠46∧c≠40∧c≠91:=by
  obtain ⟨c,q⟩:=m
  cases q with
  | true=>exact ⟨92,_,h,by decide⟩
  | false=>exact ⟨c,_,h,hc rfl⟩
 obtain ⟨c,v,hd,c1,c2,c3⟩:=hd
 have e:k+(mk m).length=k+(if m.2=true then 1 else 0)+1:=by
  obtain ⟨c,q⟩:=m
  cases q<;>rfl
 rw [e]
 exact D_seq (D_IfF ((decide_eq_false c1) ▸ sIs_ev 46 hl hd) (D_one (D_IfF (sNo_F hl hd c2) (D_one (D_IfF ((decide_eq_false c3) ▸ sIs_ev 91 hl hd) (D_seq h1 (D_one (app2 (Nat.le_trans hs (by decide)) (sIt_ev hl h2))))))))) (D_one (sInc_do 1))
theorem se_br {sg:List Nat} {ms:List (Nat×Bool)} (bar:Bool) (hsg:sg.length≤100) (hne:ms≠[]) (h94:bar=false→∀v,ms.flatMap mk++v≠94::(ms.flatMap mk++v).tail) (h92:∀m∈ms,m.2=false→m.1≠92) (ht:∀m∈ms.tail,m.2=false→m.1≠93) (hl:ms.length≤100):
  SeOK sg (91::((if bar=true then [94] else [])++ms.flatMap mk++[93])) (sg.filter fun c=>decide (c∈ms.map (·.1)) != bar):=by
 refine ⟨List.cons_ne_nil _ _,fun {row sets k b4 b5 Q} hlr hs h=>⟨.froz (.bool bar),fS ([]++ms.map (·.1)),?_⟩⟩
 have hr9:=hlr
 have h:row.drop k=91::((if bar=true then [94] else [])++(ms.flatMap mk++93::Q)):=h.trans (by rw [List.cons_append,List.append_assoc,List.append_assoc];rfl)
 have h1:row.drop (k+1)=(if bar=true then [94] else [])++(ms.flatMap mk++93::Q):=drop_app (u:=[91]) h
 have h2:row.drop (k+1+(if bar=true then [94] else []).length)=ms.flatMap mk++93::Q:=drop_app h1
 have hbar:Ev (kCV .Eq (kIt (kN 0) (kBin .Add (kN 3) (kI 1))) (kS [94])) (XS row sg sets k b4 b5) (.bool bar):=by
  obtain ⟨c,v,e⟩:∃c v,row.drop (k+1)=c::v:=by
   rw [h1]
   cases bar
   ·cases hm:ms.flatMap mk++93::Q with
    | nil=>exact absurd hm (by simp)
    | cons c v=>exact ⟨c,v,rfl⟩
   ·exact ⟨_,_,rfl⟩
  have hq:=q_CV (op:=.Eq) (q_It (q_N (i:=0) (st:=XS row sg sets k b4 b5) rfl) (q_Bin (q_N (i:=3) rfl) q_I (fN_add k 1)) (item_S row (k+1) c (get_drop e) (Nat.le_trans hlr (by decide)))) (q_S (l:=[94])) (eq_one c 94)
  have eb:decide (c=94)=bar:=by
   rw [e] at h1
   cases bar with
   | true=>exact decide_eq_true (List.cons.inj h1).1
   | false=>
    refine decide_eq_false fun z=>h94 rfl (93::Q) ?_
    have h1:c::v=ms.flatMap mk++93::Q:=h1
    rw [←h1,z]
    rfl
  exact eb ▸ hq
 have hif:Do (augF 3 .Add (kIf (nameT 4) (kI 2) (kI 1))) (XS row sg sets k (.froz (.bool bar)) b5) (XS row sg sets (k+1+(if bar=true then [94] else []).length) (.froz (.bool bar)) b5):=by
  cases bar with
  | true=>exact D_aug rfl (q_IfT (q_T rfl rfl) (q_I (n:=((2:Nat):Int)))) rfl rfl
  | false=>exact D_aug rfl (q_IfF (q_T rfl rfl) (q_I (n:=((1:Nat):Int)))) rfl rfl
 have hm:=s_marks (sg:=sg) (sets:=sets) (b4:=.froz (.bool bar)) (post:=Q) hlr ms [] _ 1000 h2 (by rw [List.nil_append];exact fun z=>hne (List.map_eq_nil_iff.mp z)) h92 (fun z=>absurd rfl z) ht (Nat.lt_of_le_of_lt hl (by decide)) (Nat.le_trans (Nat.le_of_eq (Nat.zero_add _)) (Nat.le_trans hl (by decide)))
 have el:k+(91::((if bar=true then [94] else [])++ms.flatMap mk++[93])).length=k+1+(if bar=true then [94] else []).length+(ms.flatMap mk).length+1:=by
  simp only [List.length_cons,List.length_append,List.length_nil]
  lia
 rw [el]
 have hX:Do sBr (XS row sg sets k b4 b5) (XS row sg (sets++[sg.filter fun c=>decide (c∈ms.map (·.1)) != bar]) (k+1+(if bar=true then [94] else []).length+(ms.flatMap mk).length) (.froz (.bool bar)) (fS ([]++ms.map (·.1)))):=
  D_seq (D_set hbar rfl) (D_seq hif (D_seq (D_set q_S rfl) (D_seq hm (D_one (app2 (Nat.le_trans hs (by decide)) (sSel_ev hsg))))))
 exact D_seq (D_IfF (sIs_ev 46 hlr h) (D_one (D_IfF (sNo_F hlr h (by decide)) (D_one (D_IfT (sIs_ev 91 hlr h) hX))))) (D_one (sInc_do 1))
end Mine
end
section
open PySem PySem.W PyProof.Rows PySem.Builtin.Str
namespace Mine
noncomputable def sgs:List (List Nat):=[[97,98,45],[93,97,94],[91,97,92],[38,124,126],[42,63,97],[94,45,93]]
noncomputable def sgn (g:Nat):List Nat:=sgs.getD g []
noncomputable def itm (g m:Nat):List Nat:=(List.range 3).filterMap fun j=>if m / 2 ^ j % 2=1 then some ((sgn g).getD j 0) else none
noncomputable def tld (sg it:List Nat) (b:Bool):List Nat:=sg.filter fun c=>decide (c∈it) != b
noncomputable def isW (sg it:List Nat) (d:Nat):Bool:=d==0&&it==sg
noncomputable def is1 (it:List Nat) (d:Nat):Bool:=d==0&&it.length==1&&it.all fun c=>c != 42&&c != 63&&c != 91
noncomputable def brT (sg it:List Nat) (d:Nat):List Nat:=
 let t:=tld sg it (d % 2==1)
 (if d % 2=1 then [33] else [])++(if 93∈t then [93] else [])++(if d>1∨t=[] then [122,45,121] else [])++(t.filter fun c=>c != 93&&c != 45)++(if 45∈t then [45] else [])
noncomputable def pcT (g m d:Nat):List Nat:=if isW (sgn g) (itm g m) d then [63] else if is1 (itm g m) d then itm g m else [91]++brT (sgn g) (itm g m) d++[93]
noncomputable def all3 (p:Nat→Nat→Nat→Bool):Bool:=(List.range 6).all fun g=>(List.range 8).all fun m=>(List.range 4).all fun d=>p g m d
theorem all3_of {p:Nat→Nat→Nat→Bool} (h:all3 p=true) {g m d:Nat} (hg:g < 6) (hm:m < 8) (hd:d < 4):p g m d=true:=
 List.all_eq_true.mp (List.all_eq_true.mp (List.all_eq_true.mp h g (List.mem_range.mpr hg)) m (List.mem_range.mpr hm)) d (List.mem_range.mpr hd)
noncomputable def strIs (r:Option PV) (l:List Nat):Bool:=match r with
 | some (.str x)=>x.cps.toList==l
 | _=>false
theorem strIs_of {r:Option PV} {l:List Nat} (h:strIs r l=true):r=some (.str (S l)):=by
 unfold strIs at h
 split at h
 ·rw [←beq_iff_eq.mp h,←S_of]
 ·cases h
noncomputable def pcChk {X:Cx} (G:Glo X) (d0:Nat) (cd:Value) (ql:PySem.Str):Bool:=all3 fun g m d=>strIs (runF (WPiece.pieceS (X:=X) (d:=d0) (cd:=cd) (ql:=ql) G).1 8 [.str (S (itm g m)),.str (S (sgn g)),.int d]) (pcT g m d)
theorem pc_all {X:Cx} (G:Glo X) (d0:Nat) (cd:Value) (ql:PySem.Str):pcChk G d0 cd ql=true:=by kernel_rfl
theorem piece_run {X:Cx} (G:Glo X) {d0:Nat} {cd:Value} {ql:PySem.Str} {g m d:Nat} (hg:g < 6) (hm:m < 8) (hd:d < 4):
  runF (WPiece.pieceS (X:=X) (d:=d0) (cd:=cd) (ql:=ql) G).1 8 [.str (S (itm g m)),.str (S (sgn g)),.int d]=some (.str (S (pcT g m d))):=strIs_of (all3_of (pc_all G d0 cd ql) hg hm hd)
end Mine
end
section
open PySem PySem.W PyProof.Rows PySem.SeqAt PySem.Builtin.Str
namespace Mine
noncomputable def cutB (l:List (List Nat)) (W:List Nat):Bool:=match l with
 | [w]=>w==W
 | [x,y]=>x==x.dropLast++[122]&&y==121::y.tail&&W==x.dropLast++y.tail
 | _=>false
theorem cutB_of {l:List (List Nat)} {W:List Nat} (h:cutB l W=true):l=[W]∨∃u v,l=[u++[122],121::v]∧u++v=W:=by
 unfold cutB at h
 split at h
 ·exact .inl (by rw [beq_iff_eq.mp h])
 ·obtain ⟨h1,h3⟩:=Bool.and_eq_true_iff.mp h
  obtain ⟨h1,h2⟩:=Bool.and_eq_true_iff.mp h1
  exact .inr ⟨x.dropLast,y.tail,by rw [←beq_iff_eq.mp h1,←beq_iff_eq.mp h2],(beq_iff_eq.mp h3).symm⟩
 ·cases h
noncomputable def brF (t:List Nat):List Nat:=if 93∈t then [93] else []
noncomputable def brK (t:List Nat):List Nat:=if 45∈t then [45] else []
noncomputable def brM (t:List Nat):List Nat:=t.filter fun c=>c != 93&&c != 45
noncomputable def brR (d:Nat):List Nat:=if d % 2=1 then [33] else []
noncomputable def brI (t:List Nat) (d:Nat):List (Nat×Nat):=(if d>1∨t=[] then [(122,121)] else [])++(brM t).map fun c=>(c,c)
noncomputable def brW (t:List Nat) (d:Nat):List Nat:=brR d++brF t++brM t++brK t
noncomputable def brV (t:List Nat) (d:Nat):List Nat:=(subL (escR (brW t d))).drop (brR d).length
noncomputable def brE (t:List Nat) (d:Nat):List Nat:=if brV t d=[] then [0] else brV t d
noncomputable def brOut (t:List Nat) (d:Nat):List Nat:=outOf (d % 2==1) (!(brV t d).isEmpty) (brE t d)
noncomputable def brZb (B br fr bk:List Nat) (items:List (Nat×Nat)) (W T:List Nat) (bar md:Bool):Bool:=
 br++fr++items.flatMap render++bk==B&&br==(if bar then [33] else [])&&(fr==[]||fr==[93])&&(bk==[]||bk==[45])&&(items.flatMap render++bk).all (fun c=>c != 93)&&(fr++items.flatMap render++bk != [])&&decide ((if B.head? =some 33 then 1 else 0)=br.length)
 && !(br++fr).contains 45&&items.all (fun p=>p.1 != 45&&p.2 != 45)&&cutB (segs bk (br++fr) items) W&&decide (items.length≤20)&&(segs bk (br++fr) items).all (fun q=>decide (q.length≤40))&&(B.contains 45||B.flatMap e92==escR W)&&decide (B.length≤40)&&decide (W.length≤40)
 &&decide ((escR W).length≤100)&&subL (escR W)==(if md then br++T else br)&&(T != [])&&T.all (fun x=>x != 33&&decide (x < 1000))&&decide (T.length≤60)
theorem brZ_of {B br fr bk:List Nat} {items:List (Nat×Nat)} {W T:List Nat} {bar md:Bool} (h:brZb B br fr bk items W T bar md=true):BrZ B br fr bk items W T bar md:=by
 unfold brZb at h
 simp only [Bool.and_eq_true,Bool.or_eq_true,beq_iff_eq,bne_iff_ne,List.all_eq_true,decide_eq_true_eq,Bool.not_eq_true',List.contains_eq_mem,decide_eq_false_iff_not] at h
 obtain ⟨⟨⟨⟨⟨⟨⟨⟨⟨⟨⟨⟨⟨⟨⟨⟨⟨⟨⟨h1,h2⟩,h3⟩,h4⟩,h5⟩,h6⟩,h7⟩,h8⟩,h9⟩,h10⟩,h11⟩,h12⟩,h13⟩,h14⟩,h15⟩,h16⟩,h17⟩,h18⟩,h19⟩,h20⟩:=h
 exact ⟨h1,h2,h3,h4,h5,h6,h7,h8,h9,cutB_of h10,h11,h12,fun q=>h13.resolve_left q,h14,h15,h16,h17,h18,h19,h20⟩
noncomputable def paT (g m d:Nat):List Nat:=if isW (sgn g) (itm g m) d then [46] else if is1 (itm g m) d then (escTab.lookup ((itm g m).headD 0)).getD [] else brOut (tld (sgn g) (itm g m) (d % 2==1)) d
noncomputable def paChk (g m d:Nat):Bool:=
 let t:=tld (sgn g) (itm g m) (d % 2==1)
 isW (sgn g) (itm g m) d||(if is1 (itm g m) d then (let c:=(itm g m).headD 0;itm g m==[c]&&c != 42&&c != 63&&c != 91&&(escTab.lookup c).isSome&&decide (((escTab.lookup c).getD []).length≤100)) else brZb (brT (sgn g) (itm g m) d) (brR d) (brF t) (brK t) (brI t d) (brW t d) (brE t d) (d % 2==1) (!(brV t d).isEmpty))
theorem pa_all:all3 paChk=true:=by kernel_rfl
noncomputable def EscOK (m:List PV→Option PV):Prop:=∀c v,escTab.lookup c=some v→m [C c]=some (.str (S v))
theorem pc_ok {mE:List PV→Option PV} (hE:EscOK mE) {g m d:Nat} (hg:g < 6) (hm:m < 8) (hd:d < 4):PcOK mE (pcT g m d) (paT g m d):=by
 have h:=all3_of pa_all hg hm hd
 unfold paChk at h
 unfold pcT paT
 cases hw:isW (sgn g) (itm g m) d with
 | true=>exact pc_q
 | false=>
  rw [hw] at h
  cases h1:is1 (itm g m) d with
  | true=>
   rw [h1] at h
   simp only [Bool.false_or,if_true,Bool.and_eq_true,beq_iff_eq,bne_iff_ne,decide_eq_true_eq] at h
   obtain ⟨⟨⟨⟨⟨e,c1⟩,c2⟩,c3⟩,hs⟩,hl⟩:=h
   obtain ⟨v,hv⟩:=Option.isSome_iff_exists.mp hs
   rw [hv] at hl
   show PcOK mE (itm g m) ((escTab.lookup ((itm g m).headD 0)).getD [])
   rw [hv,e]
   exact pc_1 ⟨c1,c2,c3⟩ (hE _ _ hv) hl
  | false=>
   rw [h1] at h
   simp only [Bool.false_or,Bool.false_eq_true,if_false] at h
   exact pc_br (brZ_of h)
noncomputable abbrev SPs:=List (List Nat×List Nat)
noncomputable def SPsOK (sg:List Nat) (l:SPs):Prop:=∀p it,(p,it)∈l→SeOK sg p it
noncomputable def spT (l:SPs):List Nat:=l.flatMap (·.1)
section
variable {row sg:List Nat}
theorem s_loop (hl:row.length≤900):∀(ps:SPs) {sets:List (List Nat)} {k n:Nat} {b4 b5:Bind},SPsOK sg ps→row.drop k=spT ps→k+(spT ps).length=row.length→ps.length < n→sets.length+ps.length≤100→
  ∃b4' b5',Do (whileF (kCmp .Lt (kN 3) (kLen 0)) sBody n) (XS row sg sets k b4 b5) (XS row sg (sets++ps.map (·.2)) row.length b4' b5')
 | [],sets,k,n+1,b4,b5,_,_,hk,_,_=>by
  obtain rfl:k=row.length:=hk
  rw [List.map_nil,List.append_nil]
  exact ⟨b4,b5,D_wF (q_Cmp (q_N rfl) (q_Len rfl ((len_St _ (by rw [S_len];exact Nat.lt_of_le_of_lt hl (by decide))).trans (by rw [S_len]))) (lt_F _ _ (Nat.lt_irrefl _)))⟩
 | p::ps,sets,k,n+1,b4,b5,ho,hd,hk,hn,hs=>by
  have o:=ho p.1 p.2 List.mem_cons_self
  rw [spT,List.flatMap_cons] at hd hk
  obtain ⟨c4,c5,h1⟩:=o.run (sets:=sets) (b4:=b4) (b5:=b5) hl (Nat.le_trans (Nat.le_add_right _ _) hs) hd
  rw [List.length_append,←Nat.add_assoc] at hk
  obtain ⟨d4,d5,h2⟩:=s_loop hl ps (sets:=sets++[p.2]) (k:=k+p.1.length) (n:=n) (b4:=c4) (b5:=c5) (fun q it hq=>ho q it (List.mem_cons_of_mem _ hq)) (drop_app hd) hk (Nat.lt_of_succ_lt_succ hn) (by rw [List.length_append,Nat.add_assoc,Nat.add_comm _ ps.length];exact hs)
  rw [List.append_assoc] at h2
  obtain ⟨c,v,e⟩:=List.exists_cons_of_ne_nil o.ne
  rw [e] at hd
  exact ⟨d4,d5,D_wT (q_Cmp (q_N rfl) (q_Len rfl ((len_St _ (by rw [S_len];exact Nat.lt_of_le_of_lt hl (by decide))).trans (by rw [S_len]))) (lt_T _ _ (drop_le hd))) h1 h2⟩
end
theorem sets_run1 {X:Cx} {d:Nat} {cd:Value} {ql:PySem.Str} (G:Glo X) {sg:List Nat} {ps:SPs} (ho:SPsOK sg ps) (hl:(spT ps).length≤900) (hn:ps.length≤100):
  runF (WSets.setsS (X:=X) (d:=d) (cd:=cd) (ql:=ql) G).1 6 [.str (S (spT ps)),.str (S sg)]=some (.list ((ps.map (·.2)).map fun q=>.str (S q))):=by
 obtain ⟨b4,b5,h⟩:=s_loop (sets:=[]) (k:=0) (n:=1000) (b4:=.none) (b5:=.none) hl ps ho List.drop_zero (Nat.zero_add _) (Nat.lt_of_le_of_lt hn (by decide)) (Nat.le_trans (Nat.le_of_eq (Nat.zero_add _)) hn)
 rw [st_code]
 exact runF_ret' ((seq_next (f:=sHd) (st1:=XS (spT ps) sg [] 0 .none .none) rfl).trans ((seq_next h).trans (seq_ret (run_bind rfl rfl))))
noncomputable def parseM:Nat→List Nat→List (Nat×Bool)
 | 0,_=>[]
 | _+1,[]=>[]
 | _+1,[c]=>[(c,false)]
 | n+1,c::e::r=>if c=92 then (e,true)::parseM n r else (c,false)::parseM n (e::r)
noncomputable def seOne (p it:List Nat):Bool:=match parseM 50 p with
 | [m]=>mk m==p&&it==[m.1]&&(m.2||(m.1 != 92&&m.1 != 46&&m.1 != 40&&m.1 != 91))
 | _=>false
noncomputable def seBr (sg p it:List Nat) (bar:Bool):Bool:=
 let ms:=parseM 50 ((p.drop (if bar then 2 else 1)).dropLast)
 p==91::((if bar then [94] else [])++ms.flatMap mk++[93])&&it==sg.filter (fun c=>decide (c∈ms.map (·.1)) != bar)&& !ms.isEmpty&&(bar||((ms.flatMap mk).headD 94 != 94))&&ms.all (fun m=>m.2||m.1 != 92)&&ms.tail.all (fun m=>m.2||m.1 != 93)&&decide (ms.length≤100)
noncomputable def y6:List Nat:=[40,63,62,46,42,63]
noncomputable def y2:List Nat:=[46,42]
noncomputable def seChk (g m d:Nat):Bool:=
 let p:=paT g m d
 (p==[46]&&itm g m==sgn g||p==[40,63,33,41]&&itm g m==[]||seOne p (itm g m)||seBr (sgn g) p (itm g m) (d % 2==1))&&goodP y6 p&&goodP y2 p&&decide (p.length≤40)
theorem se_all:all3 seChk=true:=by kernel_rfl
theorem sgn_len {g:Nat} (hg:g < 6):(sgn g).length=3:=match g,hg with
 | 0,_=>rfl
 | 1,_=>rfl
 | 2,_=>rfl
 | 3,_=>rfl
 | 4,_=>rfl
 | 5,_=>rfl
theorem se_ok {g m d:Nat} (hg:g < 6) (hm:m < 8) (hd:d < 4):SeOK (sgn g) (paT g m d) (itm g m)∧goodP y6 (paT g m d)=true∧goodP y2 (paT g m d)=true∧(paT g m d).length≤40:=by
 have h:=all3_of se_all hg hm hd
 unfold seChk at h
 dsimp only at h
 obtain ⟨h,hl⟩:=Bool.and_eq_true_iff.mp h
 obtain ⟨h,h2⟩:=Bool.and_eq_true_iff.mp h
 obtain ⟨h,h6⟩:=Bool.and_eq_true_iff.mp h
 refine ⟨?_,h6,h2,of_decide_eq_true hl⟩
 rcases (Bool.or_eq_true _ _).mp h with h | h
 ·rcases (Bool.or_eq_true _ _).mp h with h | h
  ·rcases (Bool.or_eq_true _ _).mp h with h | h
   ·obtain ⟨e1,e2⟩:=Bool.and_eq_true_iff.mp h
    rw [beq_iff_eq.mp e1,beq_iff_eq.mp e2]
    exact se_dot
   ·obtain ⟨e1,e2⟩:=Bool.and_eq_true_iff.mp h
    rw [beq_iff_eq.mp e1,beq_iff_eq.mp e2]
    exact se_no
  ·unfold seOne at h
   split at h
   ·obtain ⟨h,e3⟩:=Bool.and_eq_true_iff.mp h
    obtain ⟨e1,e2⟩:=Bool.and_eq_true_iff.mp h
    rw [←beq_iff_eq.mp e1,beq_iff_eq.mp e2]
    simp only [Bool.or_eq_true,Bool.and_eq_true,bne_iff_ne] at e3
    exact se_one (fun q=>(e3.resolve_left (by rw [q];exact Bool.false_ne_true)).1.1.1) fun q=>have z:=e3.resolve_left (by rw [q];exact Bool.false_ne_true);⟨z.1.1.2,z.1.2,z.2⟩
   ·cases h
 ·unfold seBr at h
  dsimp only at h
  obtain ⟨bar,hb⟩:∃b,(d % 2==1)=b:=⟨_,rfl⟩
  rw [hb] at h
  obtain ⟨ms,hms⟩:∃ms,parseM 50 (((paT g m d).drop (if bar=true then 2 else 1)).dropLast)=ms:=⟨_,rfl⟩
  rw [hms] at h
  simp only [Bool.and_eq_true,Bool.or_eq_true,beq_iff_eq,bne_iff_ne,List.all_eq_true,decide_eq_true_eq,Bool.not_eq_true'] at h
  obtain ⟨⟨⟨⟨⟨⟨e1,e2⟩,e3⟩,e4⟩,e5⟩,e6⟩,e7⟩:=h
  rw [e1,e2]
  refine se_br _ (by rw [sgn_len hg];decide) (fun z=>by rw [z] at e3;cases e3) (fun q v z=>?_) (fun x hx q=>(e5 x hx).resolve_left (by rw [q];exact Bool.false_ne_true)) (fun x hx q=>(e6 x hx).resolve_left (by rw [q];exact Bool.false_ne_true)) e7
  have e4:=e4.resolve_left (fun z=>by rw [z] at q;cases q)
  cases hf:ms.flatMap mk with
  | nil=>rw [hf] at e4;exact e4 rfl
  | cons c r=>
   rw [hf] at e4 z
   exact e4 (List.cons.inj z).1
noncomputable def jTest1:EvB:=andF (kCmp .Lt (kN 4) (kN 5)) (kCmp .IsNot (kIt (kN 0) (kN 4)) (kN 1))
noncomputable def jInc:EvS:=augF 4 .Add (kI 1)
noncomputable def jT1:EvS:=seqF (addF 3 2 (kIt (kN 0) (kN 4))) (seqF jInc dNil)
noncomputable def jT2:EvS:=seqF (appF 6 (kIt (kN 0) (kN 4))) (seqF jInc dNil)
noncomputable def jSay (op:CmpOp):EvS:=kIf (kCmp op (kIt (kN 0) (kN 4)) (kN 1)) dNil (fun _=>none)
noncomputable def jAtEnd:EvB:=kCmp .Eq (kN 4) (kN 5)
noncomputable def jStar:EvS:=addF 3 2 (kS [46,42])
noncomputable def jHd1:EvS:=tupF [5,4] (bindE (kV (kI 0) (kV (kLen 0) (pureE []))) fun es=>pureE es.reverse)
noncomputable def jF (a z:List Nat) (i:Nat):EvE:=kJo (kS a) (kJo (kO (kN i) fmtOf) (kJo (kS z) kJn)) (S [])
noncomputable def jHeld:EvS:=addF 3 2 (jF [40,63,62,46,42,63] [41] 6)
noncomputable def jGlue (i:Nat):EvS:=dSet i (kM (kS []) pyJoin (kA1 (kN i)))
noncomputable def jLast:EvS:=kIf jAtEnd (seqF jStar (seqF (addF 3 2 (kN 6)) dNil)) (seqF jHeld dNil)
noncomputable def jRest:EvS:=seqF (jSay .IsNot) (seqF (bindE (pureE []) fun as=>setOwn 6 as) (seqF (whileF jTest1 jT2 1000) (seqF (jGlue 6) (seqF jLast dNil))))
noncomputable def jBody:EvS:=seqF (jSay .Is) (seqF jInc (seqF (kIf jAtEnd (seqF jStar (seqF dBrk dNil)) dNil) jRest))
noncomputable def jAll1:EvS:=seqF (bindE (pureE []) fun as=>setOwn 2 as) (seqF (setMeth 3 2) (seqF jHd1 (seqF (whileF jTest1 jT1 1000) (seqF (whileF (kCmp .Lt (kN 4) (kN 5)) jBody 1000)
 (seqF (kIf jAtEnd dNil (fun _=>none)) (seqF (jGlue 2) (seqF (bindE (jF [40,63,115,58] [41,92,90] 2) fun p=>pureE (.ret p)) dNil)))))))
theorem jo1_code {X:Cx} {d:Nat} {cd:Value} {ql:PySem.Str} (G:Glo X):(WJoin.joinS (X:=X) (d:=d) (cd:=cd) (ql:=ql) G).1=jAll1:=by
 unfold WJoin.joinS
 rfl
noncomputable def JS1 (ps:List (Option (List Nat))) (a:Addr) (acc:List (List Nat)) (j:Nat) (b6:Bind):St:=[.froz (.list (ps.map (pvO a))),.froz (.obj a),oL acc,.meth 2,fN j,fN ps.length,b6]
section
variable {ps:List (Option (List Nat))} {a:Addr} {acc:List (List Nat)} {j:Nat} {b6:Bind}
theorem itemO (hn:ps.length≤900) {x:Option (List Nat)} (h:ps[j]? =some x):pyItem (.list (ps.map (pvO a))) (.int (j:Int))=some (pvO a x):=item_L _ _ _ (by rw [List.getElem?_map,h];rfl) (by rw [List.length_map];exact Nat.le_trans hn (by decide))
theorem is_obj:cmpOp .Is (.obj a) (.obj a)=some true:=if_pos rfl
theorem isn_obj:cmpOp .IsNot (.obj a) (.obj a)=some false:=congrArg (Option.map (!·)) (if_pos (e:=none) (rfl:a=a):pyIs (.obj a) (.obj a)=some true)
theorem isn_x (x:Option (List Nat)):cmpOp .IsNot (pvO a x) (.obj a)=some x.isSome:=match x with
 | none=>isn_obj
 | some _=>rfl
theorem it_ev (hn:ps.length≤900) {x:Option (List Nat)} (h:ps[j]? =some x):Ev (kIt (kN 0) (kN 4)) (JS1 ps a acc j b6) (pvO a x):=q_It (q_N rfl) (q_N rfl) (itemO hn h)
theorem jt_ev (hn:ps.length≤900) {x:Option (List Nat)} (h:ps[j]? =some x):Ev jTest1 (JS1 ps a acc j b6) x.isSome:=q_AndT (q_Cmp (q_N rfl) (q_N rfl) (lt_T _ _ (List.getElem?_eq_some_iff.mp h).1)) (q_Cmp (it_ev hn h) (q_N rfl) (isn_x x))
theorem jt_end (h:ps.length≤j):Ev jTest1 (JS1 ps a acc j b6) false:=q_AndF (q_Cmp (q_N rfl) (q_N rfl) (lt_F _ _ (Nat.not_lt.mpr h)))
theorem inc_do:Do jInc (JS1 ps a acc j b6) (JS1 ps a acc (j+1) b6):=D_aug rfl q_I rfl rfl
theorem jt1_do (hn:ps.length≤900) (hp:acc.length≤900) {q:List Nat} (h:ps[j]? =some (some q)):Do jT1 (JS1 ps a acc j b6) (JS1 ps a (acc++[q]) (j+1) b6):=
 D_seq (D_add rfl (it_ev hn h) rfl (len_oL (Nat.le_trans hp (by decide))) rfl) (map_snoc acc q ▸ D_one inc_do)
theorem jt2_do (hn:ps.length≤900) {fx:List (List Nat)} (hp:fx.length≤900) {q:List Nat} (h:ps[j]? =some (some q)):Do jT2 (JS1 ps a acc j (oL fx)) (JS1 ps a acc (j+1) (oL (fx++[q]))):=
 D_seq (D_app (it_ev hn h) rfl (len_oL (Nat.le_trans hp (by decide))) rfl) (map_snoc fx q ▸ D_one inc_do)
theorem j_while {B:EvS} (hn:ps.length≤900) (τ:Nat→List (List Nat)→St) (hτ:∀j acc,∃acc' b6,τ j acc=JS1 ps a acc' j b6) (hB:∀j acc q,ps[j]? =some (some q)→acc.length≤100→Do B (τ j acc) (τ (j+1) (acc++[q]))):
  ∀(s:List (List Nat)) {acc:List (List Nat)} {j n:Nat} {rest:List (Option (List Nat))},ps.drop j=s.map some++rest→(rest=[]∨∃r,rest=none::r)→s.length < n→acc.length+s.length≤100→Do (whileF jTest1 B n) (τ j acc) (τ (j+s.length) (acc++s))
 | [],acc,j,n+1,rest,h,hr,_,_=>by
  obtain ⟨acc',b6,e⟩:=hτ j acc
  rw [List.append_nil]
  refine D_wF ?_
  rw [e]
  rcases hr with rfl | ⟨r,rfl⟩
  ·exact jt_end (List.drop_eq_nil_iff.mp h)
  ·exact jt_ev hn (get_drop h)
 | q::s,acc,j,n+1,rest,h,hr,hl,hs=>by
  obtain ⟨acc',b6,e⟩:=hτ j acc
  have hj:=get_drop h
  have hq:acc.length≤100:=Nat.le_trans (Nat.le_add_right _ _) hs
  have h2:=j_while hn τ hτ hB s (acc:=acc++[q]) (j:=j+1) (drop_app (u:=[some q]) h) hr (Nat.lt_of_succ_lt_succ hl) (by rw [List.length_append,Nat.add_assoc,Nat.add_comm _ s.length];exact hs)
  rw [List.append_assoc,Nat.add_assoc,Nat.add_comm 1] at h2
  refine D_wT ?_ (hB j acc q hj hq) h2
  rw [e]
  exact jt_ev hn hj
theorem glue_ok (l:List (List Nat)) (h:∀q∈l,q.length≤1000) (hl:l.length≤100):pyJoin (.str (S [])) [.list (l.map fun q=>.str (S q))]=some (.str (S l.flatten)):=pyJoin_S l (fun q hq=>Nat.le_trans (h q hq) (by decide)) (Nat.le_trans hl (by decide))
theorem at_end (b:Bool) (h:decide (j=ps.length)=b):Ev jAtEnd (JS1 ps a acc j b6) b:=q_Cmp (q_N rfl) (q_N rfl) ((eq_I _ _).trans (congrArg some (by
 rw [←h]
 exact Bool.eq_iff_iff.mpr (beq_iff_eq.trans (Int.ofNat_inj.trans decide_eq_true_iff.symm)))))
theorem say_is (hn:ps.length≤900) (h:ps[j]? =some none):Do (jSay .Is) (JS1 ps a acc j b6) (JS1 ps a acc j b6):=D_IfT (q_Cmp (it_ev hn h) (q_N rfl) is_obj) D_nil
theorem say_isn (hn:ps.length≤900) {q:List Nat} (h:ps[j]? =some (some q)):Do (jSay .IsNot) (JS1 ps a acc j b6) (JS1 ps a acc j b6):=D_IfT (q_Cmp (it_ev hn h) (q_N rfl) (isn_x _)) D_nil
theorem addq {f:EvE} {q:List Nat} (hp:acc.length≤900) (h:Ev f (JS1 ps a acc j b6) (.str (S q))):Do (addF 3 2 f) (JS1 ps a acc j b6) (JS1 ps a (acc++[q]) j b6):=
 D_add rfl h rfl (len_oL (Nat.le_trans hp (by decide))) (congrArg (fun b:Bind=>([.froz (.list (ps.map (pvO a))),.froz (.obj a),b,.meth 2,fN j,fN ps.length,b6]:St)) (map_snoc acc q))
end
noncomputable abbrev Seg:=List (List Nat)
noncomputable def SegOK:List Seg→Prop
 | []=>True
 | [_]=>True
 | s::t::r=>s≠[]∧SegOK (t::r)
noncomputable def segO (s:Seg):List (Option (List Nat)):=none::s.map some
noncomputable def segOut:List Seg→List Nat
 | []=>[]
 | [s]=>[46,42]++s.flatten
 | s::t::r=>([40,63,62,46,42,63]++s.flatten++[41])++segOut (t::r)
section
variable {ps:List (Option (List Nat))} {a:Addr} {acc:List (List Nat)} {j:Nat} {b6:Bind}
theorem glue6 {fx:List (List Nat)} (h:∀q∈fx,q.length≤1000) (hl:fx.length≤100):Do (jGlue 6) (JS1 ps a acc j (oL fx)) (JS1 ps a acc j (fS fx.flatten)):=
 r_set (st1:=JS1 ps a acc j (.froz (.list (fx.map fun q=>.str (S q))))) (r_meth1 r_const rfl (glue_ok fx h hl)) rfl
theorem sflat_len {fx:List (List Nat)} (h:∀q∈fx,q.length≤100) (hl:fx.length≤8):fx.flatten.length≤800:=by
 have hs:=sum_le 100 (fx.map List.length) fun x hx=>by
  obtain ⟨q,hq',rfl⟩:=List.mem_map.mp hx
  exact h q hq'
 rw [List.length_map] at hs
 rw [List.length_flatten]
 exact Nat.le_trans hs (Nat.mul_le_mul_right 100 hl)
theorem held_ev {w:List Nat} (h:w.length≤800):Ev (jF [40,63,62,46,42,63] [41] 6) (JS1 ps a acc j (fS w)) (.str (S ([40,63,62,46,42,63]++w++[41]))):=r_f3 _ w 6 rfl (Nat.le_trans h (by decide)) [40,63,62,46,42,63] [41] (by decide) (by decide)
theorem drop_len {u:List (Option (List Nat))} (hd:ps.drop j=u) (hj:j≤ps.length):j+u.length=ps.length:=by rw [←hd,List.length_drop,Nat.add_sub_cancel' hj]
theorem j_body {s:Seg} {r:List Seg} (hn:ps.length≤100) (hd:ps.drop j=segO s++r.flatMap segO) (hne:s≠[]) (hq:∀q∈s,q.length≤100) (hs:s.length≤8) (hp:acc.length≤100) (hb:noMeth 6 [b6]=true):
  ∃acc' b6',noMeth 6 [b6']=true∧Do jBody (JS1 ps a acc j b6) (JS1 ps a acc' (j+(segO s).length) b6')∧acc'.length≤acc.length+2∧acc'.flatten=acc.flatten++(if r=[] then [46,42]++s.flatten else [40,63,62,46,42,63]++s.flatten++[41])∧(∀q∈acc',q∈acc∨q.length≤900):=by
 have hn9:ps.length≤900:=Nat.le_trans hn (by decide)
 have h0:ps[j]? =some none:=get_drop hd
 have hd1:ps.drop (j+1)=s.map some++r.flatMap segO:=drop_app (u:=[none]) hd
 obtain ⟨q0,s0,rfl⟩:=List.exists_cons_of_ne_nil hne
 have h1:ps[j+1]? =some (some q0):=get_drop hd1
 have hlt:=(List.getElem?_eq_some_iff.mp h1).1
 have hw:=j_while (a:=a) (B:=jT2) hn9 (fun j fx=>JS1 ps a acc j (oL fx)) (fun j fx=>⟨_,_,rfl⟩) (fun j fx q h hl=>jt2_do hn9 (Nat.le_trans hl (by decide)) h) (q0::s0) (acc:=[]) (n:=1000) hd1 (by
  cases r with
  | nil=>exact .inl rfl
  | cons t r=>exact .inr ⟨_,rfl⟩) (Nat.lt_of_le_of_lt hs (by decide)) (Nat.le_trans (Nat.le_of_eq (Nat.zero_add _)) (Nat.le_trans hs (by decide)))
 have hg:=glue6 (ps:=ps) (a:=a) (acc:=acc) (j:=j+1+(q0::s0).length) (fx:=q0::s0) (fun q h=>Nat.le_trans (hq q h) (by decide)) (Nat.le_trans hs (by decide))
 have hf:=sflat_len hq hs
 have el:j+(segO (q0::s0)).length=j+1+(q0::s0).length:=by rw [segO,List.length_cons,List.length_map,Nat.add_assoc,Nat.add_comm 1]
 have hpre:∀{st:St} {acc':List (List Nat)},Do jLast (JS1 ps a acc (j+1+(q0::s0).length) (fS (q0::s0).flatten)) st→Do jBody (JS1 ps a acc j b6) st:=fun h=>
  D_seq (say_is hn9 h0) (D_seq inc_do (D_seq (D_IfF (at_end false (decide_eq_false (Nat.ne_of_lt hlt))) D_nil) (D_seq (say_isn hn9 h1) (D_seq (r_own0 (st2:=JS1 ps a acc (j+1) (oL [])) hb rfl) (D_seq hw (D_seq hg (D_one h)))))))
 rw [el]
 cases r with
 | nil=>
  have he:j+1+(q0::s0).length=ps.length:=by
   have:=drop_len hd1 (Nat.le_of_lt hlt)
   rwa [List.flatMap_nil,List.append_nil,List.length_map] at this
  refine ⟨acc++[[46,42]]++[(q0::s0).flatten],_,rfl,hpre (acc':=acc) (D_IfT (at_end true (decide_eq_true he)) (D_seq (addq (Nat.le_trans hp (by decide)) q_S) (D_one (addq (by rw [List.length_append];exact Nat.le_trans (Nat.succ_le_succ hp) (by decide)) (q_N rfl))))),by rw [List.length_append,List.length_append];exact Nat.le_refl _,by rw [if_pos rfl,List.flatten_append,List.flatten_append,List.flatten_singleton,List.flatten_singleton,List.append_assoc],fun q h=>?_⟩
  rcases List.mem_append.mp h with h | h
  ·rcases List.mem_append.mp h with h | h
   ·exact .inl h
   ·exact .inr (by rw [List.mem_singleton.mp h];exact (by decide:2≤900))
  ·exact .inr (by rw [List.mem_singleton.mp h];exact Nat.le_trans hf (by decide))
 | cons t r=>
  have he:j+1+(q0::s0).length≠ps.length:=by
   have:=drop_len hd1 (Nat.le_of_lt hlt)
   rw [List.length_append,List.length_map,←Nat.add_assoc] at this
   exact this ▸ Nat.ne_of_lt (Nat.lt_add_of_pos_right (show 0 < (none::(t.map some++r.flatMap segO)).length from Nat.succ_pos _))
  refine ⟨acc++[[40,63,62,46,42,63]++(q0::s0).flatten++[41]],_,rfl,hpre (acc':=acc) (D_IfF (at_end false (decide_eq_false he)) (D_one (addq (Nat.le_trans hp (by decide)) (held_ev hf)))),by rw [List.length_append];exact Nat.le_succ _,by rw [if_neg (List.cons_ne_nil _ _),List.flatten_append,List.flatten_singleton],fun q h=>?_⟩
  rcases List.mem_append.mp h with h | h
  ·exact .inl h
  ·exact .inr (by rw [List.mem_singleton.mp h,List.length_append,List.length_append];exact Nat.le_trans (Nat.add_le_add_right (Nat.add_le_add_left hf 6) 1) (by decide))
theorem j_outer (hn:ps.length≤100):∀(segs:List Seg) {acc:List (List Nat)} {j n:Nat} {b6:Bind},ps.drop j=segs.flatMap segO→j+(segs.flatMap segO).length=ps.length→SegOK segs→(∀s∈segs,s.length≤8∧∀q∈s,q.length≤100)→segs.length < n→acc.length+2 * segs.length≤100→(∀q∈acc,q.length≤900)→noMeth 6 [b6]=true→
  ∃acc' b6',Do (whileF (kCmp .Lt (kN 4) (kN 5)) jBody n) (JS1 ps a acc j b6) (JS1 ps a acc' ps.length b6')∧acc'.length≤100∧acc'.flatten=acc.flatten++segOut segs∧∀q∈acc',q.length≤900
 | [],acc,j,n+1,b6,_,hj,_,_,_,hl,hq,_=>by
  obtain rfl:j=ps.length:=hj
  exact ⟨acc,b6,D_wF (q_Cmp (q_N rfl) (q_N rfl) (lt_F _ _ (Nat.lt_irrefl _))),hl,(List.append_nil _).symm,hq⟩
 | s::r,acc,j,n+1,b6,hd,hj,hok,hs,hn1,hl,hq,hb=>by
  obtain ⟨s1,s2⟩:=hs s List.mem_cons_self
  rw [List.flatMap_cons] at hd hj
  have hlt:j < ps.length:=(List.getElem?_eq_some_iff.mp (get_drop (v:=s.map some++r.flatMap segO) (c:=none) hd)).1
  have hT:Ev (kCmp .Lt (kN 4) (kN 5)) (JS1 ps a acc j b6) true:=q_Cmp (q_N rfl) (q_N rfl) (lt_T _ _ hlt)
  have hp:acc.length≤100:=Nat.le_trans (Nat.le_add_right _ _) hl
  by_cases hne:s=[]
  ·subst hne
   obtain rfl:r=[]:=by
    cases r with
    | nil=>rfl
    | cons t r=>exact absurd rfl hok.1
   have he:j+1=ps.length:=hj
   have hB:jBody (JS1 ps a acc j b6)=some (.brk,JS1 ps a (acc++[[46,42]]) ps.length b6):=by
    refine (seq_next (say_is (Nat.le_trans hn (by decide)) (get_drop hd))).trans ((seq_next inc_do).trans (seq_brk ?_))
    rw [he]
    refine run_bind (at_end true (decide_eq_true rfl)) (run_ifT rfl ?_)
    exact (seq_next (addq (Nat.le_trans hp (by decide)) q_S)).trans (seq_brk rfl)
   refine ⟨_,b6,D_wB hT hB,by rw [List.length_append];exact Nat.le_trans (Nat.le_trans (Nat.le_succ _) (by show acc.length+2≤_;exact hl)) (Nat.le_refl _),by rw [List.flatten_append];rfl,fun q h=>?_⟩
   rcases List.mem_append.mp h with h | h
   ·exact hq q h
   ·rw [List.mem_singleton.mp h];exact (by decide:2≤900)
  ·obtain ⟨acc',b6',hb',h1,h2,h3,h4⟩:=j_body (a:=a) (b6:=b6) hn hd hne s2 s1 hp hb
   rw [List.length_append,←Nat.add_assoc] at hj
   obtain ⟨acc2,b62,g1,g2,g3,g4⟩:=j_outer hn r (acc:=acc') (j:=j+(segO s).length) (n:=n) (b6:=b6') (drop_app hd) hj (by
    cases r with
    | nil=>trivial
    | cons t r=>exact hok.2) (fun x hx=>hs x (List.mem_cons_of_mem _ hx)) (Nat.lt_of_succ_lt_succ hn1) (by
     rw [List.length_cons,Nat.mul_add] at hl
     exact Nat.le_trans (Nat.add_le_add_right h2 _) (by rw [Nat.add_right_comm,Nat.add_assoc];exact hl)) (fun q h=>(h4 q h).elim (hq q) id) hb'
   refine ⟨acc2,b62,D_wT hT h1 g1,g2,?_,g4⟩
   rw [g3,h3]
   cases r with
   | nil=>rw [if_pos rfl,segOut,segOut,List.append_nil]
   | cons t r=>rw [if_neg (List.cons_ne_nil _ _),segOut,List.append_assoc]
end
theorem join_run1 {X:Cx} {d:Nat} {cd:Value} {ql:PySem.Str} (G:Glo X) {s0:Seg} {segs:List Seg} {a:Addr} (h0:s0.length≤8) (hq0:∀q∈s0,q.length≤100) (hok:SegOK segs) (hs:∀s∈segs,s.length≤8∧∀q∈s,q.length≤100) (hn:segs.length≤8) (hl:(s0.map some++segs.flatMap segO).length≤100):
  runF (WJoin.joinS (X:=X) (d:=d) (cd:=cd) (ql:=ql) G).1 7 [.list ((s0.map some++segs.flatMap segO).map (pvO a)),.obj a]=some (.str (S ([40,63,115,58]++(s0.flatten++segOut segs)++[41,92,90]))):=by
 obtain ⟨ps,hps⟩:∃ps,s0.map some++segs.flatMap segO=ps:=⟨_,rfl⟩
 rw [hps] at hl ⊢
 have hn9:ps.length≤900:=Nat.le_trans hl (by decide)
 have hlen:pyLen [.list (ps.map (pvO a))]=some (.int ps.length):=(len_L _ (by rw [List.length_map];exact Nat.lt_of_le_of_lt hl (by decide))).trans (by rw [List.length_map])
 have e:(kV (kI 0) (kV (kLen 0) (pureE []))) [.froz (.list (ps.map (pvO a))),.froz (.obj a),oL [],.meth 2,.none,.none,.none]=some ([El.froz (.int ((0:Nat):Int)),El.froz (.int (ps.length:Int))],_):=q_V q_I (q_V (g:=pureE []) (es:=[]) (q_Len (i:=0) rfl hlen) rfl)
 have h3:Do jHd1 [.froz (.list (ps.map (pvO a))),.froz (.obj a),oL [],.meth 2,.none,.none,.none] (JS1 ps a [] 0 .none):=by
  unfold Do jHd1 tupF
  rw [run_bind (run_bind (g:=fun es=>pureE es.reverse) e rfl) rfl]
  rfl
 have h4:=j_while (a:=a) (B:=jT1) hn9 (fun j acc=>JS1 ps a acc j .none) (fun j acc=>⟨_,_,rfl⟩) (fun j acc q h hl=>jt1_do hn9 (Nat.le_trans hl (by decide)) h) s0 (acc:=[]) (j:=0) (n:=1000) (rest:=segs.flatMap segO) hps.symm (by
  cases segs with
  | nil=>exact .inl rfl
  | cons t r=>exact .inr ⟨_,rfl⟩) (Nat.lt_of_le_of_lt h0 (by decide)) (Nat.le_trans (Nat.le_of_eq (Nat.zero_add _)) (Nat.le_trans h0 (by decide)))
 rw [List.nil_append] at h4
 have hd:ps.drop (0+s0.length)=segs.flatMap segO:=by
  have:=drop_app (l:=ps) (i:=0) (u:=s0.map some) (v:=segs.flatMap segO) hps.symm
  rwa [List.length_map] at this
 have hj:0+s0.length+(segs.flatMap segO).length=ps.length:=by rw [←hps,List.length_append,List.length_map,Nat.zero_add]
 obtain ⟨acc,b6,h5,h6,h7,h8⟩:=j_outer (a:=a) (n:=1000) (b6:=.none) hl segs hd hj hok hs (Nat.lt_of_le_of_lt hn (by decide)) (Nat.le_trans (Nat.add_le_add h0 (Nat.mul_le_mul_left 2 hn)) (by decide)) (fun q h=>Nat.le_trans (hq0 q h) (by decide)) rfl
 have hfl:acc.flatten.length≤90000:=by
  have hs:=sum_le 900 (acc.map List.length) fun x hx=>by
   obtain ⟨q,hq',rfl⟩:=List.mem_map.mp hx
   exact h8 q hq'
  rw [List.length_map] at hs
  rw [List.length_flatten]
  exact Nat.le_trans hs (Nat.le_trans (Nat.mul_le_mul_right 900 h6) (by decide))
 have h9:Do (jGlue 2) (JS1 ps a acc ps.length b6) ((JS1 ps a acc ps.length b6).set 2 (fS acc.flatten)):=
  r_set (st1:=(JS1 ps a acc ps.length b6).set 2 (.froz (.list (acc.map fun q=>.str (S q))))) (r_meth1 r_const rfl (pyJoin_S acc (fun q h=>Nat.le_trans (h8 q h) (by decide)) (Nat.le_trans h6 (by decide)))) rfl
 have h10:Ev (jF [40,63,115,58] [41,92,90] 2) ((JS1 ps a acc ps.length b6).set 2 (fS acc.flatten)) (.str (S ([40,63,115,58]++(s0.flatten++segOut segs)++[41,92,90]))):=by
  rw [←h7]
  exact r_f3 _ acc.flatten 2 rfl (Nat.le_trans hfl (by decide)) [40,63,115,58] [41,92,90] (by decide) (by decide)
 rw [jo1_code]
 exact runF_ret' ((seq_next (r_own0 rfl rfl)).trans ((seq_next (f:=setMeth 3 2) rfl).trans ((seq_next h3).trans ((seq_next h4).trans ((seq_next h5).trans ((seq_next (D_IfT (at_end true (decide_eq_true rfl)) D_nil)).trans ((seq_next h9).trans (seq_ret (run_bind h10 rfl)))))))))
noncomputable def kNg (n:Int):EvE:=ofP (fun _=>some (.int (-n)))
noncomputable def kCat (f g:EvE):EvE:=bindE f fun a=>bindE g fun b=>liftE (catL a b)
noncomputable def kTT:EvB:=pureE true
noncomputable def kSp (f:EvE) (y:List Nat):EvE:=kM f pySplit (kA1 (kS y))
noncomputable def kGl (f:EvE):EvE:=kM (kS []) pyJoin (kA1 f)
noncomputable def kRet (f:EvE):EvS:=bindE f fun p=>pureE (.ret p)
noncomputable def wMid:EvE:=kSl (kN 0) (kAs (kI 4)) (kAs (kNg 3))
noncomputable def w1:EvS:=dSet 2 (kSp wMid y6)
noncomputable def w2:EvS:=dSet 2 (kCat (kSl (kN 2) kNo (kAs (kNg 1))) (kSp (kIt (kN 2) (kNg 1)) y2))
noncomputable def w3:EvS:=dSet 3 (compE [] (kSl (kN 2) (kAs (kI 1)) (kAs (kNg 1))) (compV 1 0 kTT (kSl (kN 0) kNo (kAs (kNg 1)))))
noncomputable def w4:EvS:=dSet 4 (kSl (kSl (kN 2) (kAs (kI 1)) kNo) (kAs (kNg 1)) kNo)
noncomputable def wH:EvE:=compE [] (kN 3) (compV 1 0 kTT (kBin .Add (kBin .Add (kS y6) (kN 0)) (kS [41])))
noncomputable def wL:EvE:=compE [] (kN 4) (compV 1 0 kTT (kBin .Add (kS y2) (kN 0)))
noncomputable def w5:EvS:=dSet 5 (kBin .Add (kBin .Add (kIt (kN 2) (kI 0)) (kGl wH)) (kGl wL))
noncomputable def wNe:EvB:=kCmp .NotEq (kN 0) (kBin .Add (kBin .Add (kS [40,63,115,58]) (kN 5)) (kS [41,92,90]))
noncomputable def w6:EvS:=kIf wNe (seqF (kRet (bindE (pureE []) fun as=>liftE (mkL as))) dNil) dNil
noncomputable def w7 (m:List PV→Option PV):EvE:=compE [1] (kCat (kCat (kSl (kN 2) kNo (kAs (kI 1))) (kN 3)) (kN 4)) (compV 1 0 kTT (kF m (kA2 (kN 0) (kN 1))))
noncomputable def wAll (m:List PV→Option PV):EvS:=seqF w1 (seqF w2 (seqF w3 (seqF w4 (seqF w5 (seqF w6 (seqF (kRet (w7 m)) dNil))))))
theorem rw_code {X:Cx} {d:Nat} {cd:Value} {ql:PySem.Str} (G:Glo X) {fSets:Addr} {mSets:List PV→Option PV} (hSets:CallW X d fSets mSets) (gSets:X.mg "_law_sets"=some (.ref fSets)) (oSets:∃o fd,X.B.get? fSets=some o∧o.data=.func fd):
  (WRows.rowsS (X:=X) (d:=d) (cd:=cd) (ql:=ql) G hSets gSets oSets).1=wAll mSets:=by
 unfold WRows.rowsS
 rfl
theorem compV_all {α:Type} {n i:Nat} {e:EvE} {l:List α} {ps:List PV} (g f:α→PV) (hl:l.length≤16777216) (h:∀x∈l,Ev e ((List.replicate n Bind.none++ps.map Bind.froz).set i (.froz (g x))) (f x)):compV n i kTT e (l.map g) ps=some (.list (l.map f)):=by
 have:=compV_runM (n:=n) (i:=i) (t:=kTT) (e:=e) (ps:=ps) g (fun _=>true) f hl fun x hx=>⟨rfl,fun _=>h x hx⟩
 rwa [filter_tt] at this
theorem slL_m1 {xs:List PV} {x:PV} (h:xs.length≤1000):pySlice (.list (xs++[x])) none (some (-1)) none=some (.list xs):=by
 refine (slL _ _ _ (by rw [List.length_append];exact Nat.le_trans (Nat.succ_le_succ h) (by decide))).trans ?_
 rw [show (-1:Int)= -((0+1:Nat):Int) from rfl,clipN_neg,List.length_append]
 exact congrArg (fun z=>some (PV.list z)) (List.take_left' rfl)
theorem slL_1 {xs:List PV} {x:PV} (h:xs.length≤1000):pySlice (.list (x::xs)) (some 1) none none=some (.list xs):=by
 refine (slL (x::xs) (some ((1:Nat):Int)) none (Nat.le_trans (Nat.succ_le_succ h) (by decide))).trans ?_
 rw [clipN_nat,Nat.min_eq_left (show 1≤(x::xs).length from Nat.succ_le_succ (Nat.zero_le _))]
 exact congrArg (fun z=>some (PV.list z)) (List.take_of_length_le (Nat.le_refl _))
theorem slL_mid {xs:List PV} {x:PV} (h:xs.length≤1000):pySlice (.list (x::xs)) (some 1) (some (-1)) none=some (.list xs.dropLast):=by
 refine (slL (x::xs) (some ((1:Nat):Int)) _ (Nat.le_trans (Nat.succ_le_succ h) (by decide))).trans ?_
 rw [show (-1:Int)= -((0+1:Nat):Int) from rfl,clipN_neg,clipN_nat,Nat.min_eq_left (show 1≤(x::xs).length from Nat.succ_le_succ (Nat.zero_le _)),List.dropLast_eq_take]
 rfl
theorem slL_last {xs:List PV} (h:xs.length≤1000):pySlice (.list xs) (some (-1)) none none=some (.list (xs.drop (xs.length - 1))):=by
 refine (slL xs _ none (Nat.le_trans h (by decide))).trans ?_
 rw [show (-1:Int)= -((0+1:Nat):Int) from rfl,clipN_neg]
 exact congrArg (fun z=>some (PV.list z)) (List.take_of_length_le (by rw [List.length_drop];exact Nat.le_refl _))
theorem slL_t1 {xs:List PV} {x:PV} (h:xs.length≤1000):pySlice (.list (x::xs)) none (some 1) none=some (.list [x]):=by
 refine (slL (x::xs) none (some ((1:Nat):Int)) (Nat.le_trans (Nat.succ_le_succ h) (by decide))).trans ?_
 rw [clipN_nat,Nat.min_eq_left (show 1≤(x::xs).length from Nat.succ_le_succ (Nat.zero_le _))]
 rfl
theorem slS_mid {a m z:List Nat} (ha:a.length=4) (hz:z.length=3) (hm:m.length≤100000):pySlice (.str (S (a++m++z))) (some 4) (some (-3)) none=some (.str (S m)):=by
 have hl:(a++m++z).length=m.length+7:=by rw [List.length_append,List.length_append,ha,hz];lia
 refine (slS _ (some ((4:Nat):Int)) _ (by rw [hl];exact Nat.le_trans (Nat.add_le_add_right hm 7) (by decide))).trans ?_
 rw [show (-3:Int)= -((2+1:Nat):Int) from rfl,clipN_neg,clipN_nat,hl,Nat.min_eq_left (Nat.le_trans (by decide:4≤7) (Nat.le_add_left 7 _)),List.append_assoc,List.drop_left' ha]
 exact congrArg (fun z=>some (PV.str (S z))) (List.take_left' rfl)
theorem catL_k {xs ys:List PV} (h:xs.length≤1000) (h2:ys.length≤1000):catL (.list xs) (.list ys)=some (.list (xs++ys)):=if_pos (Nat.le_trans (Nat.add_le_add h h2) (by decide))
theorem q_Cat {f g:EvE} {st:St} {xs ys:List PV} (h1:Ev f st (.list xs)) (h2:Ev g st (.list ys)) (h:xs.length≤1000) (h3:ys.length≤1000):Ev (kCat f g) st (.list (xs++ys)):=ev2 h1 h2 (catL_k h h3)
theorem q_Ng {n:Int} {st:St}:Ev (kNg n) st (.int (-n)):=r_ofP rfl
theorem q_Gl {f:EvE} {st:St} {qs:List (List Nat)} (h:Ev f st (.list (qs.map fun q=>.str (S q)))) (hq:∀q∈qs,q.length≤2000) (hl:qs.length≤100):Ev (kGl f) st (.str (S qs.flatten)):=q_M q_S (q_A1 h) (pyJoin_S qs hq (Nat.le_trans hl (by decide)))
noncomputable def fTurn:EvS:=seqF (appF 2 (kBin .Sub (kBin .Mod (kBin .Add (kN 0) (kI 128)) (kI 256)) (kI 128))) (seqF (dSet 0 (kBin .FloorDiv (kBin .Sub (kN 0) (kOwn 2 (fun _=>some (.int (-1))))) (kI 256))) dNil)
noncomputable def fAll:EvS:=seqF (bindE (pureE []) fun as=>setOwn 2 as) (seqF (dFor 3 (kF pyRange (kA1 (kN 1))) fTurn) (seqF (kRet (kN 2)) dNil))
theorem fi_code {X:Cx} {d:Nat} {cd:Value} {ql:PySem.Str} (G:Glo X):(WFigures.figuresS (X:=X) (d:=d) (cd:=cd) (ql:=ql) G).1=fAll:=by
 unfold WFigures.figuresS
 rfl
theorem bin_md (a b:Int) (h:b≠0):binOp .Mod (.int a) (.int b)=some (.int (a.fmod b)):=if_pos h
theorem D_fcons {i:Nat} {g:EvS} {p:PV} {ps:List PV} {st st1 st2:St} (h:Do g (st.set i (.froz p)) st1) (h2:Do (forF i g ps) st1 st2):Do (forF i g (p::ps)) st st2:=by
 unfold Do at *
 rw [forF]
 show (match g (st.set i (.froz p)) with
  | some (.next,st')=>forF i g ps st'
  | some (.brk,st')=>some (.next,st')
  | some (.ret q,st')=>some (.ret q,st')
  | none=>none)=_
 rw [h]
 exact h2
theorem fdiv_256 (x r:Int):(x+256 * r - x).fdiv 256=r:=by rw [show x+256 * r - x=256 * r by lia,Int.mul_fdiv_cancel_left r (by decide)]
theorem fig_mod {x r:Int} (h: -128≤x∧x≤127):(x+256 * r+128).fmod 256 - 128=x:=by
 rw [Int.fmod_eq_emod_of_nonneg _ (by decide)]
 lia
noncomputable abbrev intsP (l:List Int):List PV:=l.map .int
noncomputable def FS (t n:Int) (dn:List Int) (b:Bind):St:=[.froz (.int t),.froz (.int n),.own (intsP dn),b]
theorem f_turn {x r n:Int} {dn:List Int} {b:Bind} (hl:dn.length≤900) (h: -128≤x∧x≤127):Do fTurn (FS (pe (x::[])+256 * r) n dn b) (FS r n (dn++[x]) b):=by
 have e:pe [x]=x:=by show x+256 * 0=x;lia
 rw [e]
 have h1:Ev (kBin .Sub (kBin .Mod (kBin .Add (kN 0) (kI 128)) (kI 256)) (kI 128)) (FS (x+256 * r) n dn b) (.int x):=by
  have:=q_Bin (op:=.Sub) (q_Bin (op:=.Mod) (q_Bin (op:=.Add) (q_N (i:=0) (st:=FS (x+256 * r) n dn b) rfl) (q_I (n:=128)) rfl) (q_I (n:=256)) (bin_md _ _ (by decide))) (q_I (n:=128)) (bin_sub _ _)
  rwa [fig_mod h] at this
 have h2:Ev (kBin .FloorDiv (kBin .Sub (kN 0) (kOwn 2 (fun _=>some (.int (-1))))) (kI 256)) (FS (x+256 * r) n (dn++[x]) b) (.int r):=by
  have hx:pyItem (.list (intsP (dn++[x]))) (.int (-1))=some (.int x):=by
   show pyItem (.list (List.map _ _)) _=_
   rw [List.map_append]
   exact itemL_last (by rw [List.length_map];exact Nat.le_trans hl (by decide))
  have:=q_Bin (op:=.FloorDiv) (q_Bin (op:=.Sub) (q_N (i:=0) (st:=FS (x+256 * r) n (dn++[x]) b) rfl) (q_OwnO (i:=2) (g:=fun _=>some (.int (-1))) rfl rfl hx) (bin_sub _ _)) (q_I (n:=256)) (bin_fd _ _ (by decide))
  rwa [fdiv_256] at this
 have e2:intsP dn++[PV.int x]=intsP (dn++[x]):=by
  show _=List.map _ _
  rw [List.map_append]
  rfl
 exact D_seq (D_app h1 rfl (by rw [List.length_map];exact Nat.le_trans hl (by decide)) (congrArg (fun l=>([.froz (.int (x+256 * r)),.froz (.int n),.own l,b]:St)) e2)) (D_one (D_set h2 rfl))
theorem f_loop {n:Int}:∀(cs:List Int) (ps:List PV) {dn:List Int} {b:Bind},ps.length=cs.length→(∀x∈cs,-128≤x∧x≤127)→dn.length+cs.length≤900→∃b',Do (forF 3 fTurn ps) (FS (pe cs) n dn b) (FS 0 n (dn++cs) b')
 | [],[],dn,b,_,_,_=>⟨b,by rw [List.append_nil];rfl⟩
 | x::cs,p::ps,dn,b,hl,hx,hn=>by
  obtain ⟨b',h⟩:=f_loop cs ps (dn:=dn++[x]) (b:=.froz p) (Nat.succ.inj hl) (fun y hy=>hx y (List.mem_cons_of_mem _ hy)) (by rw [List.length_append,Nat.add_assoc,Nat.add_comm _ cs.length];exact hn)
  rw [List.append_assoc] at h
  have h1:=f_turn (r:=pe cs) (n:=n) (b:=.froz p) (Nat.le_trans (Nat.le_add_right _ _) hn) (hx x List.mem_cons_self)
  have e:pe [x]+256 * pe cs=pe (x::cs):=by show x+256 * 0+256 * pe cs=x+256 * pe cs;lia
  rw [e] at h1
  exact ⟨b',D_fcons h1 h⟩
theorem figures_run {X:Cx} {d:Nat} {cd:Value} {ql:PySem.Str} (G:Glo X) {cs:List Int} (hx:∀x∈cs,-128≤x∧x≤127) (hn:cs.length≤100):
  runF (WFigures.figuresS (X:=X) (d:=d) (cd:=cd) (ql:=ql) G).1 4 [.int (pe cs),.int (cs.length:Int)]=some (.list (intsP cs)):=by
 obtain ⟨b,h⟩:=f_loop (n:=cs.length) cs ((List.range cs.length).map fun (j:Nat)=>PV.int j) (dn:=[]) (b:=.none) (by rw [List.length_map,List.length_range]) hx (Nat.le_trans (Nat.le_of_eq (Nat.zero_add _)) (Nat.le_trans hn (by decide)))
 rw [fi_code]
 exact runF_ret' ((seq_next (r_own0 (st2:=FS (pe cs) cs.length [] .none) rfl rfl)).trans ((seq_next (D_forE (q_F (q_A1 (q_N rfl)) rfl) (items_range cs.length (Nat.lt_of_le_of_lt hn (by decide))) h)).trans (seq_ret (run_bind rfl rfl))))
noncomputable def ltx:Option (List Nat)→List Nat
 | none=>[]
 | some t=>y2++t
noncomputable def wrp (h:List Nat):List Nat:=y6++h++[41]
noncomputable def midT (T:List Nat) (hs:List (List Nat)) (lo:Option (List Nat)):List Nat:=T++hs.flatMap wrp++ltx lo
noncomputable def us6:List Nat→List (List Nat)→Option (List Nat)→List (List Nat)
 | T,[],lo=>[T++ltx lo]
 | T,h::hs,lo=>T::us6 (h++[41]) hs lo
theorem us6_ne (lo:Option (List Nat)):∀(hs:List (List Nat)) (T:List Nat),us6 T hs lo≠[]
 | [],_=>List.cons_ne_nil _ _
 | _::_,_=>List.cons_ne_nil _ _
theorem glu_cons (y u:List Nat):∀{r:List (List Nat)},r≠[]→glu y (u::r)=u++(y++glu y r)
 | [],h=>absurd rfl h
 | _::_,_=>rfl
theorem glu_us6 (lo:Option (List Nat)):∀(hs:List (List Nat)) (T:List Nat),glu y6 (us6 T hs lo)=midT T hs lo
 | [],T=>by
  show T++ltx lo=T++[]++ltx lo
  rw [List.append_nil]
 | h::hs,T=>by
  rw [us6,glu_cons _ _ (us6_ne lo hs _),glu_us6 lo hs]
  unfold midT wrp
  rw [List.flatMap_cons]
  simp only [List.append_assoc]
noncomputable def GT (T:List Nat):Prop:=∀t,TH t→Cl y6 T t∧Cl y2 T t
theorem cl_close {y:List Nat} (hy:mmB y [41]=true) (t:List Nat):Cl y [41] t:=fun i hi=>by
 obtain rfl:i=0:=Nat.lt_one_iff.mp hi
 exact mm_no (mm_app t hy)
theorem TH_41 (t:List Nat):TH ([41]++t):=.inr ⟨41,t,rfl,by decide⟩
theorem TH_y6 (t:List Nat):TH (y6++t):=.inr ⟨40,_,rfl,by decide⟩
theorem TH_y2 (t:List Nat):TH (y2++t):=.inr ⟨46,_,rfl,by decide⟩
theorem GT_close {h:List Nat} (g:GT h):GT (h++[41]):=fun t _=>⟨cl_app (g _ (TH_41 t)).1 (cl_close (by decide) t),cl_app (g _ (TH_41 t)).2 (cl_close (by decide) t)⟩
theorem CLS_cons {y u:List Nat}:∀{r:List (List Nat)},r≠[]→Cl y u (y++glu y r)→CLS y r→CLS y (u::r)
 | [],h,_,_=>absurd rfl h
 | _::_,_,h1,h2=>⟨h1,h2⟩
theorem cl6_y2 {t:List Nat}:Cl y6 y2 t:=fun i hi=>by
 match i,hi with
 | 0,_=>exact mm_no (by rfl)
 | 1,_=>exact mm_no (by rfl)
theorem cls_us6 {lo:Option (List Nat)} (hlo:∀t,lo=some t→GT t):∀(hs:List (List Nat)) (T:List Nat),GT T→(∀h∈hs,GT h)→CLS y6 (us6 T hs lo)
 | [],T,g,_=>by
  cases lo with
  | none=>
   show Cl y6 (T++[]) []
   rw [List.append_nil]
   exact (g [] (.inl rfl)).1
  | some t=>
   show Cl y6 (T++(y2++t)) []
   exact cl_app (g _ (by rw [List.append_nil];exact TH_y2 t)).1 (cl_app cl6_y2 (hlo t rfl [] (.inl rfl)).1)
 | h::hs,T,g,gs=>CLS_cons (us6_ne lo hs _) (g _ (TH_y6 _)).1 (cls_us6 hlo hs _ (GT_close (gs h List.mem_cons_self)) fun x hx=>gs x (List.mem_cons_of_mem _ hx))
theorem us6_last (lo:Option (List Nat)):∀(hs:List (List Nat)) (T:List Nat),∃ini u,us6 T hs lo=ini++[u++ltx lo]∧T::hs.map (· ++[41])=ini++[u]
 | [],T=>⟨[],T,rfl,rfl⟩
 | h::hs,T=>by
  obtain ⟨ini,u,h1,h2⟩:=us6_last lo hs (h++[41])
  exact ⟨T::ini,u,by rw [us6,h1];rfl,by rw [List.map_cons,h2];rfl⟩
theorem cls_lo {u:List Nat} {lo:Option (List Nat)} (g:GT u) (hlo:∀t,lo=some t→GT t):CLS y2 (u::lo.toList)∧glu y2 (u::lo.toList)=u++ltx lo:=by
 cases lo with
 | none=>exact ⟨(g [] (.inl rfl)).2,(List.append_nil u).symm⟩
 | some t=>exact ⟨⟨(g _ (TH_y2 t)).2,(hlo t rfl [] (.inl rfl)).2⟩,rfl⟩
theorem flat_GT {ps:List (List Nat)} (h:∀p∈ps,goodP y6 p=true∧goodP y2 p=true):GT ps.flatten:=fun t ht=>⟨flat_cl ht fun p hp=>(h p hp).1,flat_cl ht fun p hp=>(h p hp).2⟩
noncomputable abbrev pvS (l:List (List Nat)):List PV:=l.map fun u=>.str (S u)
noncomputable def WS (text sg:List Nat) (b2 b3 b4 b5:Bind):St:=[fS text,fS sg,b2,b3,b4,b5]
section
variable {T sg:List Nat} {hs:List (List Nat)} {lo:Option (List Nat)} {b2 b3 b4 b5:Bind}
noncomputable abbrev txtT (T:List Nat) (hs:List (List Nat)) (lo:Option (List Nat)):List Nat:=[40,63,115,58]++midT T hs lo++[41,92,90]
theorem w1_do (hl:(midT T hs lo).length≤90000) (g:GT T) (gs:∀h∈hs,GT h) (hlo:∀t,lo=some t→GT t):Do w1 (WS (txtT T hs lo) sg b2 b3 b4 b5) (WS (txtT T hs lo) sg (.froz (.list (pvS (us6 T hs lo)))) b3 b4 b5):=by
 have h1:Ev wMid (WS (txtT T hs lo) sg b2 b3 b4 b5) (.str (S (midT T hs lo))):=q_Sl (q_N rfl) (q_As q_I rfl) (q_As q_Ng rfl) (slS_mid rfl rfl (Nat.le_trans hl (by decide)))
 have h2:=split_S (y:=y6) (us:=us6 T hs lo) (by decide) (by kernel_rfl) (us6_ne lo hs T) (cls_us6 hlo hs T g gs) (by rw [glu_us6];exact Nat.le_trans hl (by decide))
 rw [glu_us6] at h2
 exact D_set (q_M h1 (q_A1 q_S) h2) rfl
theorem w2_do (hl:(midT T hs lo).length≤90000) (hn:hs.length≤100) (g:GT T) (gs:∀h∈hs,GT h) (hlo:∀t,lo=some t→GT t):
  Do w2 (WS (txtT T hs lo) sg (.froz (.list (pvS (us6 T hs lo)))) b3 b4 b5) (WS (txtT T hs lo) sg (.froz (.list (pvS (T::(hs.map (· ++[41])++lo.toList))))) b3 b4 b5):=by
 obtain ⟨ini,u,h1,h2⟩:=us6_last lo hs T
 have hu:GT u:=by
  have hm:u∈T::hs.map (· ++[41]):=by rw [h2];exact List.mem_append_right _ (List.mem_singleton.mpr rfl)
  rcases List.mem_cons.mp hm with rfl | hm
  ·exact g
  ·obtain ⟨h,hh,rfl⟩:=List.mem_map.mp hm
   exact GT_close (gs h hh)
 obtain ⟨c1,c2⟩:=cls_lo hu hlo
 have hini:ini.length≤100:=by
  have:=congrArg List.length h2
  rw [List.length_cons,List.length_map,List.length_append,List.length_singleton] at this
  exact Nat.le_trans (Nat.le_of_eq (Nat.succ.inj this).symm) hn
 have hul:(u++ltx lo).length≤90000:=by
  have e:=glu_us6 lo hs T
  have hle:∀(l:List (List Nat)),(glu y6 (l++[u++ltx lo])).length≥(u++ltx lo).length:=by
   intro l
   induction l with
   | nil=>exact Nat.le_refl _
   | cons x l ih=>
    rw [List.cons_append,glu_cons _ _ (List.append_ne_nil_of_right_ne_nil _ (List.cons_ne_nil _ _)),List.length_append,List.length_append]
    exact Nat.le_trans ih (by lia)
  have:=hle ini
  rw [←h1,e] at this
  exact Nat.le_trans this hl
 have h3:=split_S (y:=y2) (us:=u::lo.toList) (by decide) (by kernel_rfl) (List.cons_ne_nil _ _) c1 (by rw [c2];exact Nat.le_trans hul (by decide))
 rw [c2] at h3
 have hlo1:(pvS (u::lo.toList)).length≤1000:=by rw [List.length_map];cases lo;exact (by decide:1≤1000);exact (by decide:2≤1000)
 rw [h1]
 have e1:pvS (ini++[u++ltx lo])=pvS ini++[.str (S (u++ltx lo))]:=List.map_append
 rw [e1]
 have hi1:(pvS ini).length≤1000:=by rw [List.length_map];exact Nat.le_trans hini (by decide)
 refine D_set (q_Cat (xs:=pvS ini) (ys:=pvS (u::lo.toList)) (q_Sl (q_N rfl) q_No (q_As q_Ng rfl) (slL_m1 hi1)) (q_M (q_It (q_N rfl) q_Ng (itemL_last hi1)) (q_A1 q_S) h3) hi1 hlo1) ?_
 have e2:pvS ini++pvS (u::lo.toList)=pvS (T::(hs.map (· ++[41])++lo.toList)):=by
  rw [←List.cons_append,h2]
  show _=List.map _ _
  rw [List.append_assoc,List.map_append]
  rfl
 rw [e2]
 rfl
end
noncomputable def kRng (f:EvE):EvE:=kF pyRange (kA1 f)
noncomputable def kBtw (f g h:EvE):EvB:=bindE f fun a=>bindE g fun b=>bindE (liftE (cmpOp .LtE a b)) fun c=>if c then bindE h fun b'=>liftE (cmpOp .Lt b b') else pureE false
noncomputable def yBelow:EvE:=compE [3,0] (kRng (kLen 0)) (compV 1 0 kTT (kBin .Add (kBin .Sub (kBin .Add (kN 1) (kI 1)) (kLen 2)) (kN 0)))
noncomputable def yTold:EvE:=compE [4,1,0] (kRng (kLen 0)) (compV 1 0 (kBtw (kI 0) (kIt (kN 1) (kN 0)) (kLen 2)) (kCV .In (kIt (kN 2) (kIt (kN 1) (kN 0))) (kIt (kN 3) (kN 0))))
noncomputable def ySum:EvE:=kF pySum (kA1 (compE [] (kN 5) (compV 1 0 kTT (kIf (nameT 0) (kI 1) (kNg 1)))))
noncomputable def yTurn:EvS:=seqF (dSet 4 yBelow) (seqF (dSet 5 yTold) (seqF (appF 2 ySum) dNil))
noncomputable def yAll:EvS:=seqF (bindE (pureE []) fun as=>setOwn 2 as) (seqF (dFor 3 (kRng (kBin .Add (kLen 1) (kLen 0))) yTurn) (seqF (kRet (kN 2)) dNil))
theorem ly_code {X:Cx} {d:Nat} {cd:Value} {ql:PySem.Str} (G:Glo X):(WLying.lyingS (X:=X) (d:=d) (cd:=cd) (ql:=ql) G).1=yAll:=by
 unfold WLying.lyingS
 rfl
noncomputable def bl (n p j:Nat):Int:=(p:Int)+1 - n+j
noncomputable def hitI (name:List Nat) (row:List (List Nat)) (a j:Nat):Bool:=decide (name.getD a 0∈row.getD j [])
noncomputable def okB (L n p j:Nat):Bool:=decide (0≤bl n p j)&&decide (bl n p j < L)
noncomputable def toldJ (L n p:Nat):List Nat:=(List.range n).filter (okB L n p)
noncomputable def sgI (b:Bool):Int:=if b=true then 1 else -1
noncomputable def lyC (name:List Nat) (row:List (List Nat)) (p:Nat):Int:=((toldJ name.length row.length p).map fun j=>sgI (hitI name row (bl row.length p j).toNat j)).sum
noncomputable def lyF (name:List Nat) (row:List (List Nat)):List Int:=(List.range (name.length+row.length)).map (lyC name row)
noncomputable def YS (name:List Nat) (row:List (List Nat)) (dn:List Int) (b3 b4 b5:Bind):St:=[.froz (.list (pvS row)),fS name,.own (intsP dn),b3,b4,b5]
section
variable {name:List Nat} {row:List (List Nat)} {dn:List Int} {b3 b4 b5:Bind}
theorem len_row {i:Nat} {st:St} (hr:row.length≤100) (h:st[i]? =some (.froz (.list (pvS row)))):Ev (kLen i) st (.int (row.length:Int)):=q_Len h ((len_L _ (by rw [List.length_map];exact Nat.lt_of_le_of_lt hr (by decide))).trans (by rw [List.length_map]))
theorem len_name {i:Nat} {st:St} (hn:name.length≤100) (h:st[i]? =some (fS name)):Ev (kLen i) st (.int (name.length:Int)):=q_Len h ((len_St _ (by rw [S_len];exact Nat.lt_of_le_of_lt hn (by decide))).trans (by rw [S_len]))
theorem rng_ev {f:EvE} {st:St} {n:Nat} (h:Ev f st (.int (n:Int))):Ev (kRng f) st (.range 0 n 1):=q_F (q_A1 h) rfl
theorem rng_items {n:Nat} (h:n≤1000):itemsOf (.range 0 (n:Int) 1)=some ((List.range n).map fun (j:Nat)=>PV.int (j:Int)):=items_range n (Nat.lt_of_le_of_lt h (by decide))
theorem r_cap3 {i j k:Nat} {st:St} {p q r:PV} (h:st[i]? =some (.froz p)) (h2:st[j]? =some (.froz q)) (h3:st[k]? =some (.froz r)):capF [i,j,k] st=some ([p,q,r],st):=by simp only [capF,bindE,r_name h,r_name h2,r_name h3,pureE]
theorem y_below {p:Nat} (hr:row.length≤100):Ev yBelow (YS name row dn (fN p) b4 b5) (.list ((List.range row.length).map fun j=>.int (bl row.length p j))):=
 r_comp (r_cap2 rfl rfl) (rng_ev (len_row hr rfl)) (rng_items (Nat.le_trans hr (by decide))) (compV_all (fun (j:Nat)=>PV.int (j:Int)) (fun j=>.int (bl row.length p j)) (by rw [List.length_range];exact Nat.le_trans hr (by decide)) fun j _=>q_Bin (q_Bin (q_Bin (q_N rfl) q_I (bin_add _ _)) (len_row hr rfl) (bin_sub _ _)) (q_N rfl) (bin_add _ _))
theorem q_Btw {f g h:EvE} {st:St} {a b c:Int} (h1:Ev f st (.int a)) (h2:Ev g st (.int b)) (h3:Ev h st (.int c)):Ev (kBtw f g h) st (decide (a≤b)&&decide (b < c)):=by
 refine run_bind h1 (run_bind h2 (run_bind (run_lift (le_I a b)) ?_))
 by_cases q:a≤b
 ·rw [decide_eq_true q,if_pos rfl]
  exact run_bind h3 (run_lift (lt_I b c))
 ·rw [decide_eq_false q,if_neg Bool.false_ne_true]
  rfl
theorem getD_some {α:Type} {l:List α} {j:Nat} (d:α) (h:j < l.length):l[j]? =some (l.getD j d):=by rw [List.getD_eq_getElem?_getD,List.getElem?_eq_getElem h];rfl
theorem row_item {j:Nat} {st:St} {i k:Nat} (hr:row.length≤100) (hj:j < row.length) (h:st[i]? =some (.froz (.list (pvS row)))) (h2:st[k]? =some (fN j)):Ev (kIt (kN i) (kN k)) st (.str (S (row.getD j []))):=by
 refine q_It (q_N h) (q_N h2) (item_L _ j _ ?_ (by rw [List.length_map];exact Nat.le_trans hr (by decide)))
 rw [List.getElem?_map,getD_some [] hj]
 rfl
theorem y_told {p:Nat} (hr:row.length≤100) (hn:name.length≤100):Ev yTold (YS name row dn b3 (.froz (.list ((List.range row.length).map fun j=>.int (bl row.length p j)))) b5) (.list ((toldJ name.length row.length p).map fun j=>.bool (hitI name row (bl row.length p j).toNat j))):=by
 refine r_comp (r_cap3 rfl rfl rfl) (rng_ev (len_row hr rfl)) (rng_items (Nat.le_trans hr (by decide))) (compV_runM (l:=List.range row.length) (fun (j:Nat)=>PV.int (j:Int)) (okB name.length row.length p) (fun j=>.bool (hitI name row (bl row.length p j).toNat j)) (by rw [List.length_range];exact Nat.le_trans hr (by decide)) fun j hj=>?_)
 have hj:=List.mem_range.mp hj
 have hB:∀{st:St},st[1]? =some (.froz (.list ((List.range row.length).map fun j=>.int (bl row.length p j))))→st[0]? =some (fN j)→Ev (kIt (kN 1) (kN 0)) st (.int (bl row.length p j)):=fun h h2=>
  q_It (q_N h) (q_N h2) (item_L _ j _ (by rw [List.getElem?_map,List.getElem?_range hj];rfl) (by rw [List.length_map,List.length_range];exact Nat.le_trans hr (by decide)))
 refine ⟨q_Btw q_I (hB rfl rfl) (len_name hn rfl),fun hP=>?_⟩
 obtain ⟨h0,h1⟩:=Bool.and_eq_true_iff.mp hP
 obtain ⟨a,ha⟩:=Int.eq_ofNat_of_zero_le (of_decide_eq_true h0)
 have h1:bl row.length p j < name.length:=of_decide_eq_true h1
 rw [ha] at h1
 have hB':∀{st:St},st[1]? =some (.froz (.list ((List.range row.length).map fun j=>.int (bl row.length p j))))→st[0]? =some (fN j)→Ev (kIt (kN 1) (kN 0)) st (.int (a:Int)):=fun h h2=>ha ▸ hB h h2
 have hl:=Int.ofNat_lt.mp h1
 rw [ha]
 exact q_CV (q_It (q_N rfl) (hB' rfl rfl) (item_S name a _ (getD_some 0 hl) (Nat.le_trans hn (by decide)))) (row_item hr hj rfl rfl) (in_S _ _)
theorem sg_le (b:Bool):(sgI b).natAbs≤1099511627776:=by cases b<;>decide
theorem y_sum {bs:List Bool} (hl:bs.length≤100):Ev ySum (YS name row dn b3 b4 (.froz (.list (bs.map .bool)))) (.int (bs.map sgI).sum):=by
 have h:=compV_all (n:=1) (i:=0) (e:=kIf (nameT 0) (kI 1) (kNg 1)) (ps:=[]) (l:=bs) PV.bool (fun b=>.int (sgI b)) (Nat.le_trans hl (by decide)) fun b _=>by
  cases b with
  | true=>exact q_IfT (q_T rfl rfl) q_I
  | false=>exact q_IfF (q_T rfl rfl) q_Ng
 have e:(bs.map fun b=>PV.int (sgI b))=(bs.map sgI).map .int:=by rw [List.map_map];rfl
 rw [e] at h
 exact q_F (q_A1 (r_comp (ps:=[]) rfl (q_N rfl) rfl h)) (pySum_ints _ (by rw [List.length_map];exact Nat.le_trans hl (by decide)) fun x hx=>by
  obtain ⟨b,_,rfl⟩:=List.mem_map.mp hx
  exact sg_le b)
theorem y_turn {p:Nat} (hr:row.length≤100) (hn:name.length≤100) (hd:dn.length≤900):∃b4' b5',Do yTurn (YS name row dn (fN p) b4 b5) (YS name row (dn++[lyC name row p]) (fN p) b4' b5'):=by
 have h3:=y_sum (name:=name) (row:=row) (dn:=dn) (b3:=fN p) (b4:=.froz (.list ((List.range row.length).map fun j=>.int (bl row.length p j)))) (bs:=(toldJ name.length row.length p).map fun j=>hitI name row (bl row.length p j).toNat j) (by
  rw [List.length_map]
  exact Nat.le_trans (List.length_filter_le _ _) (by rw [List.length_range];exact hr))
 rw [List.map_map,List.map_map] at h3
 have e2:intsP dn++[PV.int (lyC name row p)]=intsP (dn++[lyC name row p]):=by
  show _=List.map _ _
  rw [List.map_append]
  rfl
 exact ⟨_,_,D_seq (D_set (y_below hr) rfl) (D_seq (D_set (y_told hr hn) rfl) (D_one (D_app h3 rfl (by rw [List.length_map];exact Nat.le_trans hd (by decide)) (congrArg (fun l=>([.froz (.list (pvS row)),fS name,.own l,fN p,.froz (.list ((List.range row.length).map fun j=>.int (bl row.length p j))),.froz (.list ((toldJ name.length row.length p).map fun j=>.bool (hitI name row (bl row.length p j).toNat j)))]:St)) e2))))⟩
theorem y_loop (hr:row.length≤100) (hn:name.length≤100):∀(ps:List Nat) {dn:List Int} {b3 b4 b5:Bind},dn.length+ps.length≤900→∃b3' b4' b5',Do (forF 3 yTurn (ps.map fun (j:Nat)=>PV.int (j:Int))) (YS name row dn b3 b4 b5) (YS name row (dn++ps.map (lyC name row)) b3' b4' b5')
 | [],dn,b3,b4,b5,_=>⟨b3,b4,b5,by rw [List.map_nil,List.map_nil,List.append_nil];rfl⟩
 | p::ps,dn,b3,b4,b5,hl=>by
  obtain ⟨c4,c5,h1⟩:=y_turn (p:=p) (b4:=b4) (b5:=b5) hr hn (Nat.le_trans (Nat.le_add_right _ _) hl)
  obtain ⟨d3,d4,d5,h2⟩:=y_loop hr hn ps (dn:=dn++[lyC name row p]) (b3:=fN p) (b4:=c4) (b5:=c5) (by rw [List.length_append,Nat.add_assoc,Nat.add_comm _ ps.length];exact hl)
  rw [List.append_assoc] at h2
  exact ⟨d3,d4,d5,D_fcons h1 h2⟩
end
theorem lying_run {X:Cx} {d:Nat} {cd:Value} {ql:PySem.Str} (G:Glo X) {name:List Nat} {row:List (List Nat)} (hr:row.length≤100) (hn:name.length≤100):
  runF (WLying.lyingS (X:=X) (d:=d) (cd:=cd) (ql:=ql) G).1 6 [.list (pvS row),.str (S name)]=some (.list (intsP (lyF name row))):=by
 have hs:name.length+row.length≤200:=Nat.add_le_add hn hr
 obtain ⟨b3,b4,b5,h⟩:=y_loop (name:=name) hr hn (List.range (name.length+row.length)) (dn:=[]) (b3:=.none) (b4:=.none) (b5:=.none) (by rw [List.length_range];exact Nat.le_trans (Nat.le_of_eq (Nat.zero_add _)) (Nat.le_trans hs (by decide)))
 rw [ly_code]
 exact runF_ret' ((seq_next (r_own0 (st2:=YS name row [] .none .none .none) rfl rfl)).trans ((seq_next (D_forE (rng_ev (q_Bin (len_name hn rfl) (len_row hr rfl) (bin_add _ _))) (rng_items (Nat.le_trans hs (by decide))) h)).trans (seq_ret (run_bind rfl rfl))))
noncomputable def kE0:EvE:=bindE (pureE []) fun as=>liftE (mkL as)
noncomputable def kLn (f:EvE):EvE:=kF pyLen (kA1 f)
noncomputable def kBo (b:Bool):EvE:=pureE (.bool b)
noncomputable def vLast:EvS:=dSet 4 (kBin .Sub (kLen 1) (kLn (kIt (kN 0) (kN 3))))
noncomputable def vPl:EvS:=dSet 5 (compE [3] (kF pyRange (kA2 (kN 2) (kBin .Add (kN 4) (kI 1)))) (compV 1 0 (orF (kCmp .Gt (kN 1) (kI 0)) (kCmp .Eq (kN 0) (kI 0))) (kN 0)))
noncomputable def vEnd:EvB:=kCmp .Eq (kN 3) (kBin .Sub (kLen 0) (kI 1))
noncomputable def vPl2:EvS:=dSet 5 (compE [4] (kN 5) (compV 1 0 (kCmp .Eq (kN 0) (kN 1)) (kN 0)))
noncomputable def vBad:EvE:=compE [1,2,0,3] (kRng (kLn (kIt (kN 3) (kN 1)))) (compV 1 0 (kCmp .NotIn (kIt (kN 2) (kBin .Add (kN 3) (kN 0))) (kIt (kIt (kN 4) (kN 1)) (kN 0))) (kN 0))
noncomputable def vFits:EvS:=dSet 6 (compE [3,1,0] (kN 5) (compV 1 0 (kCmp .Eq vBad kE0) (kN 0)))
noncomputable def vNone:EvB:=kCmp .Eq (kN 6) kE0
noncomputable def vAt:EvS:=dSet 2 (kBin .Add (kIt (kN 6) (kI 0)) (kLn (kIt (kN 0) (kN 3))))
noncomputable def vTurn:EvS:=seqF vLast (seqF vPl (seqF (kIf vEnd (seqF vPl2 dNil) dNil) (seqF vFits (seqF (kIf vNone (seqF (kRet (kBo false)) dNil) dNil) (seqF vAt dNil)))))
noncomputable def vAll:EvS:=seqF (dSet 2 (kI 0)) (seqF (dFor 3 (kRng (kLen 0)) vTurn) (seqF (kRet (kBo true)) dNil))
theorem tk_code {X:Cx} {d:Nat} {cd:Value} {ql:PySem.Str} (G:Glo X):(WTakes.takesS (X:=X) (d:=d) (cd:=cd) (ql:=ql) G).1=vAll:=by
 unfold WTakes.takesS
 rfl
noncomputable abbrev Row:=List (List Nat)
noncomputable def pvR (rows:List Row):List PV:=rows.map fun r=>.list (pvS r)
noncomputable def fitB (name:List Nat) (r:Row) (p:Nat):Bool:=(List.range r.length).all fun j=>decide (name.getD (p+j) 0∈r.getD j [])
noncomputable def cand (k a z L:Nat):List Nat:=(List.range' a (L+1 - (z+a))).filter fun p=>decide (0 < k)||p==0
noncomputable def plc (b:Bool) (k a z L:Nat):List Nat:=if b=true then (cand k a z L).filter (fun p=>p+z==L) else cand k a z L
noncomputable def tkR (name:List Nat):Nat→Nat→List Row→Bool
 | _,_,[]=>true
 | k,a,r::rs=>match (plc rs.isEmpty k a r.length name.length).filter (fitB name r) with
  | []=>false
  | p::_=>tkR name (k+1) (p+r.length) rs
noncomputable def VS (rows:List Row) (name:List Nat) (a:Nat) (b3 b4 b5 b6:Bind):St:=[.froz (.list (pvR rows)),fS name,fN a,b3,b4,b5,b6]
section
variable {rows:List Row} {name:List Nat} {a k:Nat} {r:Row} {b3 b4 b5 b6:Bind}
theorem rows_item {st:St} {i j:Nat} (hn:rows.length≤100) (hk:rows[k]? =some r) (h:st[i]? =some (.froz (.list (pvR rows)))) (h2:st[j]? =some (fN k)):Ev (kIt (kN i) (kN j)) st (.list (pvS r)):=
 q_It (q_N h) (q_N h2) (item_L _ k _ (by rw [pvR,List.getElem?_map,hk];rfl) (by rw [pvR,List.length_map];exact Nat.le_trans hn (by decide)))
theorem ln_ev {f:EvE} {st:St} (hr:r.length≤100) (h:Ev f st (.list (pvS r))):Ev (kLn f) st (.int (r.length:Int)):=q_F (q_A1 h) ((len_L _ (by rw [List.length_map];exact Nat.lt_of_le_of_lt hr (by decide))).trans (by rw [List.length_map]))
theorem fit_iff {a z h x:Nat} (hx:a≤x):x < a+(h+1 - (z+a))↔x+z≤h:=by
 obtain ⟨m,rfl⟩:=Nat.exists_eq_add_of_le hx
 rw [Nat.add_lt_add_iff_left,Nat.lt_sub_iff_add_lt,Nat.lt_succ_iff,Nat.add_comm z a,←Nat.add_assoc,Nat.add_comm m a]
theorem range2_items {a z L:Nat} (h:L≤1000) (ha:a≤1000) (hz:z≤1000):itemsOf (.range (a:Int) ((L:Int) - z+1) 1)=some ((List.range' a (L+1 - (z+a))).map fun (j:Nat)=>PV.int (j:Int)):=by
 have e:(L:Int) - z+1 - a=((L+1:Nat):Int) - ((z+a:Nat):Int):=by lia
 rw [range_n (by lia) (by lia) (by lia) (by lia),e,Int.toNat_sub,List.range'_eq_map_range,List.map_map]
 rfl
theorem v_last (hn:rows.length≤100) (hL:name.length≤100) (hr:r.length≤100) (hk:rows[k]? =some r):Do vLast (VS rows name a (fN k) b4 b5 b6) (VS rows name a (fN k) (.froz (.int ((name.length:Int) - r.length))) b5 b6):=
 D_set (q_Bin (len_name hL rfl) (ln_ev hr (rows_item hn hk rfl rfl)) (bin_sub _ _)) rfl
theorem gt0 (k:Nat):cmpOp .Gt (.int (k:Int)) (.int 0)=some (decide (0 < k)):=(gt_I _ _).trans (congrArg some (decide_eq_decide.mpr (by lia)))
theorem eqN (p q:Nat):cmpOp .Eq (.int (p:Int)) (.int (q:Int))=some (p==q):=(eq_I _ _).trans (congrArg some (Bool.eq_iff_iff.mpr (beq_iff_eq.trans (Int.ofNat_inj.trans beq_iff_eq.symm))))
theorem v_or {st:St} {p:Nat} (h0:st[0]? =some (fN p)) (h1:st[1]? =some (fN k)):Ev (orF (kCmp .Gt (kN 1) (kI 0)) (kCmp .Eq (kN 0) (kI 0))) st (decide (0 < k)||p==0):=by
 have e1:Ev (kCmp .Gt (kN 1) (kI 0)) st (decide (0 < k)):=q_Cmp (q_N h1) q_I (gt0 k)
 cases hd:decide (0 < k) with
 | true=>exact r_orT (hd ▸ e1)
 | false=>exact r_orF (hd ▸ e1) (q_Cmp (q_N h0) q_I (eqN p 0))
theorem v_pl {z:Nat} (hL:name.length≤100) (ha:a≤1000) (hz:z≤1000):Do vPl (VS rows name a (fN k) (.froz (.int ((name.length:Int) - z))) b5 b6) (VS rows name a (fN k) (.froz (.int ((name.length:Int) - z))) (.froz (.list (natsP (cand k a z name.length)))) b6):=
 D_set (r_comp (ps:=[.int (k:Int)]) (r_cap1 rfl) (q_F (q_A2 (h:=kN 0) (q_N rfl) (q_Bin (q_N rfl) q_I (bin_add _ _))) rfl) (range2_items (Nat.le_trans hL (by decide)) ha hz) (compV_runM (fun (j:Nat)=>PV.int (j:Int)) (fun p=>decide (0 < k)||p==0) (fun (j:Nat)=>PV.int (j:Int)) (by rw [List.length_range'];exact Nat.le_trans (Nat.sub_le _ _) (Nat.le_trans (Nat.succ_le_succ hL) (by decide))) fun p _=>⟨v_or rfl rfl,fun _=>q_N rfl⟩)) rfl
theorem filt_len {α:Type} {l:List α} {P:α→Bool} {n:Nat} (h:l.length≤n):(l.filter P).length≤n:=Nat.le_trans (List.length_filter_le _ _) h
theorem cand_len {z L:Nat} (h:L≤100):(cand k a z L).length≤101:=filt_len (by rw [List.length_range'];exact Nat.le_trans (Nat.sub_le _ _) (Nat.succ_le_succ h))
theorem v_pl2 {z:Nat} (hL:name.length≤100) {l:List Nat} (hl:l.length≤101):Do vPl2 (VS rows name a (fN k) (.froz (.int ((name.length:Int) - z))) (.froz (.list (natsP l))) b6) (VS rows name a (fN k) (.froz (.int ((name.length:Int) - z))) (.froz (.list (natsP (l.filter fun p=>p+z==name.length)))) b6):=
 D_set (r_comp (ps:=[.int ((name.length:Int) - z)]) (r_cap1 rfl) (q_N rfl) rfl (compV_runM (fun (j:Nat)=>PV.int (j:Int)) (fun p=>p+z==name.length) (fun (j:Nat)=>PV.int (j:Int)) (Nat.le_trans hl (by decide)) fun p _=>⟨q_Cmp (q_N rfl) (q_N rfl) ((eq_I _ _).trans (congrArg some (Bool.eq_iff_iff.mpr (by rw [beq_iff_eq,beq_iff_eq];lia)))),fun _=>q_N rfl⟩)) rfl
theorem r_cap4 {i j k l:Nat} {st:St} {p q r s:PV} (h:st[i]? =some (.froz p)) (h2:st[j]? =some (.froz q)) (h3:st[k]? =some (.froz r)) (h4:st[l]? =some (.froz s)):capF [i,j,k,l] st=some ([p,q,r,s],st):=by simp only [capF,bindE,r_name h,r_name h2,r_name h3,r_name h4,pureE]
theorem all_filter {α:Type} (P:α→Bool) (l:List α):(l.filter fun x=> !P x).isEmpty=l.all P:=by
 induction l with
 | nil=>rfl
 | cons x l ih=>
  rw [List.filter_cons,List.all_cons,←ih]
  cases P x<;>rfl
theorem v_bad {p:Nat} (hn:rows.length≤100) (hL:name.length≤100) (hr:r.length≤100) (hk:rows[k]? =some r) (hp:p+r.length≤name.length):Ev (kCmp .Eq vBad kE0) [fN p,fN k,fS name,.froz (.list (pvR rows))] (fitB name r p):=by
 have h:Ev vBad [fN p,fN k,fS name,.froz (.list (pvR rows))] (.list (natsP ((List.range r.length).filter fun j=> !decide (name.getD (p+j) 0∈r.getD j [])))):=by
  refine r_comp (r_cap4 rfl rfl rfl rfl) (rng_ev (ln_ev hr (rows_item hn hk rfl rfl))) (rng_items (Nat.le_trans hr (by decide))) (compV_runM (l:=List.range r.length) (fun (j:Nat)=>PV.int (j:Int)) (fun j=> !decide (name.getD (p+j) 0∈r.getD j [])) (fun (j:Nat)=>PV.int (j:Int)) (by rw [List.length_range];exact Nat.le_trans hr (by decide)) fun j hj=>⟨?_,fun _=>q_N rfl⟩)
  have hj:=List.mem_range.mp hj
  have hlt:p+j < name.length:=Nat.lt_of_lt_of_le (Nat.add_lt_add_left hj p) hp
  exact q_Cmp (q_It (q_N rfl) (q_Bin (q_N rfl) (q_N rfl) (fN_add p j)) (item_S name (p+j) _ (getD_some 0 hlt) (Nat.le_trans hL (by decide)))) (q_It (rows_item hn hk rfl rfl) (q_N rfl) (item_L _ j _ (by rw [List.getElem?_map,getD_some [] hj];rfl) (by rw [List.length_map];exact Nat.le_trans hr (by decide)))) (notIn_S _ _)
 have:=q_Cmp (op:=.Eq) h (g:=kE0) (b:=.list []) rfl (nats_eq0 _)
 rwa [all_filter] at this
theorem v_fits (hn:rows.length≤100) (hL:name.length≤100) (hr:r.length≤100) (hk:rows[k]? =some r) {l:List Nat} (hl:l.length≤101) (hp:∀p∈l,p+r.length≤name.length):Do vFits (VS rows name a (fN k) b4 (.froz (.list (natsP l))) b6) (VS rows name a (fN k) b4 (.froz (.list (natsP l))) (.froz (.list (natsP (l.filter (fitB name r)))))):=
 D_set (r_comp (r_cap3 rfl rfl rfl) (q_N rfl) rfl (compV_runM (fun (j:Nat)=>PV.int (j:Int)) (fitB name r) (fun (j:Nat)=>PV.int (j:Int)) (Nat.le_trans hl (by decide)) fun p hm=>⟨v_bad hn hL hr hk (hp p hm),fun _=>q_N rfl⟩)) rfl
end
section
variable {rows:List Row} {name:List Nat} {a k:Nat} {r:Row} {b3 b4 b5 b6:Bind}
theorem mem_filt {α:Type} {P:α→Bool} {l:List α} {x:α} (h:x∈l.filter P):x∈l:=(List.mem_filter.mp h).1
theorem cand_le {z L:Nat} {p:Nat} (h:p∈cand k a z L):p+z≤L:=by
 have h:=List.mem_range'_1.mp (mem_filt h)
 exact (fit_iff h.1).mp h.2
theorem plc_le {b:Bool} {z L p:Nat} (h:p∈plc b k a z L):p+z≤L:=by
 unfold plc at h
 split at h
 ·exact cand_le (mem_filt h)
 ·exact cand_le h
theorem plc_len {b:Bool} {z L:Nat} (h:L≤100):(plc b k a z L).length≤101:=by
 unfold plc
 split
 ·exact filt_len (cand_len h)
 ·exact cand_len h
theorem v_end (hn:rows.length≤100) {e:Bool} (he:(k+1==rows.length)=e):Ev vEnd (VS rows name a (fN k) b4 b5 b6) e:=by
 have hl:Ev (kLen 0) (VS rows name a (fN k) b4 b5 b6) (.int (rows.length:Int)):=q_Len rfl ((len_L _ (by rw [pvR,List.length_map];exact Nat.lt_of_le_of_lt hn (by decide))).trans (by rw [pvR,List.length_map]))
 refine q_Cmp (q_N rfl) (q_Bin hl q_I (bin_sub _ _)) ((eq_I _ _).trans (congrArg some ?_))
 rw [←he]
 exact Bool.eq_iff_iff.mpr (by rw [beq_iff_eq,beq_iff_eq];lia)
theorem v_pre {g:EvS} {x:Fl×St} (hn:rows.length≤100) (hL:name.length≤100) (ha:a≤1000) (hr:r.length≤100) (hk:rows[k]? =some r) {e:Bool} (he:(k+1==rows.length)=e)
  (h:g (VS rows name a (fN k) (.froz (.int ((name.length:Int) - r.length))) (.froz (.list (natsP (plc e k a r.length name.length)))) (.froz (.list (natsP ((plc e k a r.length name.length).filter (fitB name r))))))=some x):
  seqF vLast (seqF vPl (seqF (kIf vEnd (seqF vPl2 dNil) dNil) (seqF vFits g))) (VS rows name a (fN k) b4 b5 b6)=some x:=by
 have h1:=v_last (b4:=b4) (b5:=b5) (b6:=b6) (a:=a) hn hL hr hk
 have h2:=v_pl (name:=name) (rows:=rows) (a:=a) (k:=k) (z:=r.length) (b5:=b5) (b6:=b6) hL ha (Nat.le_trans hr (by decide))
 have h3:Do (kIf vEnd (seqF vPl2 dNil) dNil) (VS rows name a (fN k) (.froz (.int ((name.length:Int) - r.length))) (.froz (.list (natsP (cand k a r.length name.length)))) b6) (VS rows name a (fN k) (.froz (.int ((name.length:Int) - r.length))) (.froz (.list (natsP (plc e k a r.length name.length)))) b6):=by
  cases e with
  | true=>exact D_IfT (v_end hn he) (D_one (v_pl2 hL (cand_len hL)))
  | false=>exact D_IfF (v_end hn he) D_nil
 have h4:=v_fits (a:=a) (b4:=.froz (.int ((name.length:Int) - r.length))) (b6:=b6) hn hL hr hk (plc_len (b:=e) (k:=k) (a:=a) (z:=r.length) hL) fun p hp=>plc_le hp
 exact (seq_next h1).trans ((seq_next h2).trans ((seq_next h3).trans ((seq_next h4).trans h)))
theorem v_turn (hn:rows.length≤100) (hL:name.length≤100) (ha:a≤1000) (hr:r.length≤100) (hk:rows[k]? =some r) {e:Bool} (he:(k+1==rows.length)=e) {ps:List Nat} (hps:(plc e k a r.length name.length).filter (fitB name r)=ps):
  ∃b4' b5' b6',vTurn (VS rows name a (fN k) b4 b5 b6)=some (match ps with
   | []=>(.ret (.bool false),VS rows name a (fN k) b4' b5' b6')
   | p::_=>(.next,VS rows name (p+r.length) (fN k) b4' b5' b6')):=by
 refine ⟨.froz (.int ((name.length:Int) - r.length)),.froz (.list (natsP (plc e k a r.length name.length))),.froz (.list (natsP ps)),v_pre hn hL ha hr hk he ?_⟩
 rw [hps]
 have hN:Ev vNone (VS rows name a (fN k) (.froz (.int ((name.length:Int) - r.length))) (.froz (.list (natsP (plc e k a r.length name.length)))) (.froz (.list (natsP ps)))) ps.isEmpty:=q_Cmp (g:=kE0) (b:=.list []) (q_N rfl) rfl (nats_eq0 ps)
 cases ps with
 | nil=>exact seq_ret (run_bind hN (run_ifT rfl (seq_ret rfl)))
 | cons p ps=>
  have hle:(p::ps).length≤101:=hps ▸ filt_len (plc_len hL)
  exact (seq_next (D_IfF hN D_nil)).trans ((D_one (D_set (q_Bin (q_It (q_N rfl) (q_I (n:=((0:Nat):Int))) (item_L (natsP (p::ps)) 0 (.int (p:Int)) rfl (by rw [List.length_map];exact Nat.le_trans hle (by decide)))) (ln_ev hr (rows_item hn hk rfl rfl)) (fN_add p r.length)) rfl)):_)
theorem forF_ret {i:Nat} {g:EvS} {p q:PV} {ps:List PV} {st st1:St} (h:g (st.set i (.froz p))=some (.ret q,st1)):forF i g (p::ps) st=some (.ret q,st1):=by
 rw [forF]
 show (match g (st.set i (.froz p)) with
  | some (.next,st')=>forF i g ps st'
  | some (.brk,st')=>some (.next,st')
  | some (.ret q,st')=>some (.ret q,st')
  | none=>none)=_
 rw [h]
theorem v_loop (hn:rows.length≤100) (hL:name.length≤100) (hr:∀r∈rows,r.length≤100):∀(rs:List Row) {k a:Nat} {b3 b4 b5 b6:Bind},rows.drop k=rs→k+rs.length=rows.length→a≤1000→∃st',forF 3 vTurn ((List.range' k rs.length).map fun (j:Nat)=>PV.int (j:Int)) (VS rows name a b3 b4 b5 b6)=some (if tkR name k a rs=true then .next else .ret (.bool false),st')
 | [],k,a,b3,b4,b5,b6,_,_,_=>⟨_,rfl⟩
 | r::rs,k,a,b3,b4,b5,b6,hd,hk,ha=>by
  have hk0:=get_drop hd
  have hr1:=hr r (List.mem_of_getElem? hk0)
  have he:(k+1==rows.length)=rs.isEmpty:=by
   rw [←hk]
   cases rs with
   | nil=>exact beq_self_eq_true _
   | cons x l=>exact beq_eq_false_iff_ne.mpr (by rw [List.length_cons,List.length_cons];lia)
  obtain ⟨c4,c5,c6,h1⟩:=v_turn (b4:=b4) (b5:=b5) (b6:=b6) hn hL ha hr1 hk0 he rfl
  rw [List.length_cons,List.range'_succ,List.map_cons,tkR]
  cases hps:(plc rs.isEmpty k a r.length name.length).filter (fitB name r) with
  | nil=>
   rw [hps] at h1
   exact ⟨_,forF_ret h1⟩
  | cons p ps=>
   rw [hps] at h1
   have hp:p+r.length≤name.length:=plc_le (mem_filt (hps ▸ List.mem_cons_self:p∈_))
   obtain ⟨st',h2⟩:=v_loop hn hL hr rs (k:=k+1) (a:=p+r.length) (b3:=fN k) (b4:=c4) (b5:=c5) (b6:=c6) (drop_app (u:=[r]) hd) (by rw [←hk,List.length_cons,Nat.add_assoc,Nat.add_comm 1]) (Nat.le_trans hp (Nat.le_trans hL (by decide)))
   refine ⟨st',?_⟩
   rw [←h2,forF]
   show (match vTurn (VS rows name a (fN k) b4 b5 b6) with
    | some (.next,st')=>forF 3 vTurn _ st'
    | some (.brk,st')=>some (.next,st')
    | some (.ret q,st')=>some (.ret q,st')
    | none=>none)=_
   rw [h1]
end
theorem takes_run {X:Cx} {d:Nat} {cd:Value} {ql:PySem.Str} (G:Glo X) {rows:List Row} {name:List Nat} (hn:rows.length≤100) (hL:name.length≤100) (hr:∀r∈rows,r.length≤100):
  runF (WTakes.takesS (X:=X) (d:=d) (cd:=cd) (ql:=ql) G).1 7 [.list (pvR rows),.str (S name)]=some (.bool (tkR name 0 0 rows)):=by
 obtain ⟨st',h⟩:=v_loop (name:=name) (b3:=.none) (b4:=.none) (b5:=.none) (b6:=.none) hn hL hr rows (k:=0) (a:=0) rfl (Nat.zero_add _) (Nat.zero_le _)
 have hl:Ev (kLen 0) (VS rows name 0 .none .none .none .none) (.int (rows.length:Int)):=q_Len rfl ((len_L _ (by rw [pvR,List.length_map];exact Nat.lt_of_le_of_lt hn (by decide))).trans (by rw [pvR,List.length_map]))
 rw [←List.range_eq_range'] at h
 rw [tk_code]
 have hF:dFor 3 (kRng (kLen 0)) vTurn (VS rows name 0 .none .none .none .none)=some (if tkR name 0 0 rows=true then .next else .ret (.bool false),st'):=run_bind (rng_ev hl) (run_bind (run_lift (rng_items (Nat.le_trans hn (by decide)))) h)
 cases ht:tkR name 0 0 rows with
 | true=>
  rw [ht] at hF
  exact runF_ret' ((seq_next (st1:=VS rows name 0 .none .none .none .none) (D_set (i:=2) q_I rfl)).trans ((seq_next hF).trans (seq_ret (D_ret (f:=kBo true) rfl))))
 | false=>
  rw [ht] at hF
  exact runF_ret' ((seq_next (st1:=VS rows name 0 .none .none .none .none) (D_set (i:=2) q_I rfl)).trans (seq_ret hF))
theorem pe_zero (f:Nat→Int):∀l:List Nat,(∀x∈l,f x=0)→pe (l.map f)=0
 | [],_=>rfl
 | x::l,h=>by
  rw [List.map_cons,pe,h x List.mem_cons_self,pe_zero f l fun y hy=>h y (List.mem_cons_of_mem _ hy)]
  rfl
theorem pe_add (f g:Nat→Int):∀l:List Nat,pe (l.map fun x=>f x+g x)=pe (l.map f)+pe (l.map g)
 | []=>rfl
 | x::l=>by
  rw [List.map_cons,List.map_cons,List.map_cons,pe,pe,pe,pe_add f g l]
  lia
theorem pe_app (xs ys:List Int) (h:pe ys=0):pe (xs++ys)=pe xs:=by
 induction xs with
 | nil=>exact h
 | cons x xs ih=>rw [List.cons_append,pe,pe,ih]
noncomputable def hC (name it:List Nat) (p:Nat):Int:=if p < name.length then sgI (decide (name.getD p 0∈it)) else 0
noncomputable def sgL (it:List Nat) (l:List Nat):List Int:=l.map fun c=>sgI (decide (c∈it))
theorem map_getD {α:Type} (f:Nat→α):∀l:List Nat,l.map f=(List.range l.length).map fun p=>f (l.getD p 0)
 | []=>rfl
 | c::l=>by
  rw [List.map_cons,List.length_cons,List.range_succ_eq_map,List.map_cons,List.map_map,map_getD f l]
  rfl
theorem pe_h (name it:List Nat) (m:Nat):pe ((List.range (name.length+m)).map (hC name it))=pe (sgL it name):=by
 rw [List.range_add,List.map_append,pe_app]
 ·refine congrArg pe ?_
  unfold sgL
  rw [map_getD (fun c=>sgI (decide (c∈it))) name]
  exact List.map_congr_left fun p hp=>if_pos (List.mem_range.mp hp)
 ·rw [List.map_map]
  exact pe_zero _ _ fun p _=>if_neg (Nat.not_lt.mpr (Nat.le_add_right _ _))
theorem bl_succ (n p j:Nat):bl (n+1) (p+1) j=bl n p j:=by unfold bl;lia
theorem bl_last (n p:Nat):bl (n+1) p n=p:=by unfold bl;lia
theorem hit_left {name:List Nat} {row:List (List Nat)} {x:List Nat} {a j:Nat} (h:j < row.length):hitI name (row++[x]) a j=hitI name row a j:=by
 unfold hitI
 rw [List.getD_eq_getElem?_getD,List.getElem?_append_left h,←List.getD_eq_getElem?_getD]
theorem hit_last {name:List Nat} {row:List (List Nat)} {x:List Nat} {a:Nat}:hitI name (row++[x]) a row.length=decide (name.getD a 0∈x):=by
 unfold hitI
 rw [List.getD_eq_getElem?_getD,List.getElem?_append_right (Nat.le_refl _),Nat.sub_self]
 rfl
theorem lyC_split (name:List Nat) (row:List (List Nat)) (x:List Nat) (p:Nat):lyC name (row++[x]) p=(((List.range row.length).filter (okB name.length (row.length+1) p)).map fun j=>sgI (hitI name row (bl (row.length+1) p j).toNat j)).sum+hC name x p:=by
  unfold lyC toldJ
  have e:(row++[x]).length=row.length+1:=List.length_append
  rw [e,List.range_succ,List.filter_append,List.map_append,List.sum_append]
  refine congr (congrArg HAdd.hAdd (congrArg List.sum (List.map_congr_left fun j hj=>?_))) ?_
  · rw [hit_left (List.mem_range.mp (List.mem_filter.mp hj).1)]
  · have e2:okB name.length (row.length+1) p row.length=decide (p < name.length):=by
      unfold okB
      rw [bl_last,decide_eq_true (Int.natCast_nonneg p),Bool.true_and]
      exact decide_eq_decide.mpr Int.ofNat_lt
    rw [List.filter_cons,e2]
    unfold hC
    by_cases h:p < name.length
    · rw [decide_eq_true h,if_pos rfl,if_pos h,List.filter_nil,List.map_cons,hit_last,bl_last]
      exact Int.add_zero _
    · rw [decide_eq_false h,if_neg Bool.false_ne_true,if_neg h]
      rfl
theorem lyC_zero (name:List Nat) (row:List (List Nat)) (x:List Nat):lyC name (row++[x]) 0=hC name x 0:=by
 rw [lyC_split]
 have e:(List.range row.length).filter (okB name.length (row.length+1) 0)=[]:=List.filter_eq_nil_iff.mpr fun j hj q=>by
  have:=of_decide_eq_true (Bool.and_eq_true_iff.mp q).1
  have hj:=List.mem_range.mp hj
  unfold bl at this
  lia
 rw [e]
 exact Int.zero_add _
theorem lyC_succ (name:List Nat) (row:List (List Nat)) (x:List Nat) (p:Nat):lyC name (row++[x]) (p+1)=lyC name row p+hC name x (p+1):=by
 rw [lyC_split]
 have e:okB name.length (row.length+1) (p+1)=okB name.length row.length p:=by
  funext j
  unfold okB
  rw [bl_succ]
 rw [e]
 refine congrArg (· +_) (congrArg List.sum (List.map_congr_left fun j _=>?_))
 rw [bl_succ]
theorem ly_snoc (name:List Nat) (row:List (List Nat)) (x:List Nat):pe (lyF name (row++[x]))=pe (sgL x name)+256 * pe (lyF name row):=by
 have e:name.length+(row++[x]).length=(name.length+row.length)+1:=by rw [List.length_append];rfl
 have h:=pe_h name x (row.length+1)
 rw [←Nat.add_assoc,List.range_succ_eq_map,List.map_cons,List.map_map,pe] at h
 unfold lyF
 rw [e,List.range_succ_eq_map,List.map_cons,List.map_map,pe,lyC_zero,←h]
 have e2:(List.range (name.length+row.length)).map (lyC name (row++[x]) ∘ Nat.succ)=(List.range (name.length+row.length)).map fun p=>lyC name row p+(hC name x ∘ Nat.succ) p:=List.map_congr_left fun p _=>lyC_succ name row x p
 rw [e2,pe_add]
 lia
noncomputable def spO (name:List Nat) (s:Nat):Int:=pe (name.map fun c=>if c=s then 1 else 0)
noncomputable def nmO (q:List (List Nat)) (s:Nat):Int:=pe (q.map fun it=>sgI (decide (s∈it)))
theorem lin3 (d e g a b c x y z:Int):(d+256 * a) * x+(e+256 * b) * y+(g+256 * c) * z=(d * x+e * y+g * z)+256 * (a * x+b * y+c * z):=by
 rw [Int.add_mul,Int.add_mul,Int.add_mul,Int.mul_assoc,Int.mul_assoc,Int.mul_assoc,Int.mul_add,Int.mul_add]
 ac_rfl
theorem one_sign {s0 s1 s2:Nat} (h01:s0≠s1) (h02:s0≠s2) (h12:s1≠s2) (f:Nat→Int):∀name:List Nat,(∀c∈name,c=s0∨c=s1∨c=s2)→spO name s0 * f s0+spO name s1 * f s1+spO name s2 * f s2=pe (name.map f)
 | [],_=>by
  show (0:Int) * f s0+0 * f s1+0 * f s2=0
  rw [Int.zero_mul,Int.zero_mul,Int.zero_mul];rfl
 | c::l,h=>by
  have ih:=one_sign h01 h02 h12 f l fun d hd=>h d (List.mem_cons_of_mem _ hd)
  have e:∀s,spO (c::l) s=(if c=s then 1 else 0)+256 * spO l s:=fun s=>rfl
  rw [e,e,e,List.map_cons,pe,←ih,lin3]
  refine congrArg (· +_) ?_
  rcases h c List.mem_cons_self with rfl | rfl | rfl
  ·rw [if_pos rfl,if_neg h01,if_neg h02,Int.one_mul,Int.zero_mul,Int.zero_mul,Int.add_zero,Int.add_zero]
  ·rw [if_pos rfl,if_neg (Ne.symm h01),if_neg h12,Int.one_mul,Int.zero_mul,Int.zero_mul,Int.add_zero,Int.zero_add]
  ·rw [if_pos rfl,if_neg (Ne.symm h02),if_neg (Ne.symm h12),Int.one_mul,Int.zero_mul,Int.zero_mul,Int.zero_add,Int.zero_add]
theorem tot_ly {s0 s1 s2:Nat} (h01:s0≠s1) (h02:s0≠s2) (h12:s1≠s2) {name:List Nat} (hn:∀c∈name,c=s0∨c=s1∨c=s2):∀q:List (List Nat),spO name s0 * nmO q s0+spO name s1 * nmO q s1+spO name s2 * nmO q s2=pe (lyF name q.reverse)
 | []=>by
  show spO name s0 * 0+spO name s1 * 0+spO name s2 * 0=_
  rw [Int.mul_zero,Int.mul_zero,Int.mul_zero]
  exact (pe_zero _ _ fun p _=>rfl).symm
 | x::q=>by
  have ih:=tot_ly h01 h02 h12 hn q
  have h1:=one_sign h01 h02 h12 (fun c=>sgI (decide (c∈x))) name hn
  have e:∀s,nmO (x::q) s=sgI (decide (s∈x))+256 * nmO q s:=fun s=>rfl
  rw [List.reverse_cons,ly_snoc,←ih,e,e,e]
  show _=pe (name.map fun c=>sgI (decide (c∈x)))+_
  rw [←h1,Int.mul_add,Int.mul_add,Int.mul_add,Int.mul_left_comm _ 256,Int.mul_left_comm _ 256,Int.mul_left_comm _ 256]
  lia
theorem sg_one (b:Bool) {s:Int} {n:Nat} (h1:s≤n) (h2: -(n:Int)≤s):sgI b+s≤((n+1:Nat):Int)∧ -((n+1:Nat):Int)≤sgI b+s∧(sgI b+s==((n+1:Nat):Int))=(b&&s==(n:Int)):=by
 cases b with
 | true=>
  show 1+s≤_∧_≤1+s∧(1+s==_)=_
  rw [Int.natCast_add,Int.add_comm 1 s]
  exact ⟨Int.add_le_add_right h1 1,Int.le_trans (Int.neg_le_neg (Int.le_add_one (Int.le_refl _))) (Int.le_add_one h2),Bool.eq_iff_iff.mpr (beq_iff_eq.trans (Int.add_left_inj 1 |>.trans beq_iff_eq.symm))⟩
 | false=>
  show -1+s≤_∧_≤ -1+s∧(-1+s==_)=_
  rw [Bool.false_and,beq_eq_false_iff_ne]
  refine ⟨by lia,by lia,by lia⟩
theorem sg_sum (b:Nat→Bool):∀l:List Nat,(l.map fun j=>sgI (b j)).sum≤l.length∧ -(l.length:Int)≤(l.map fun j=>sgI (b j)).sum∧((l.map fun j=>sgI (b j)).sum==(l.length:Int))=l.all b
 | []=>⟨Int.le_refl 0,Int.le_refl 0,rfl⟩
 | x::l=>by
  obtain ⟨h1,h2,h3⟩:=sg_sum b l
  rw [List.map_cons,List.sum_cons,List.length_cons,List.all_cons,←h3]
  exact sg_one (b x) h1 h2
theorem lyC_le {name:List Nat} {row:List (List Nat)} (h:row.length≤100) (p:Nat): -128≤lyC name row p∧lyC name row p≤127:=by
 obtain ⟨h1,h2,_⟩:=sg_sum (fun j=>hitI name row (bl row.length p j).toNat j) (toldJ name.length row.length p)
 have hl:(toldJ name.length row.length p).length≤100:=Nat.le_trans (List.length_filter_le _ _) (by rw [List.length_range];exact h)
 unfold lyC
 lia
theorem ly_fit {name:List Nat} {row:List (List Nat)} {p P:Nat} (hP:P+1=p+row.length) (hl:p+row.length≤name.length):(lyC name row P==(row.length:Int))=fitB name row p:=by
 have hb:∀j,bl row.length P j=((p+j:Nat):Int):=fun j=>by unfold bl;lia
 have ht:toldJ name.length row.length P=List.range row.length:=List.filter_eq_self.mpr fun j hj=>by
  have hj:=List.mem_range.mp hj
  unfold okB
  rw [hb,decide_eq_true (Int.natCast_nonneg _),decide_eq_true (Int.ofNat_lt.mpr (Nat.lt_of_lt_of_le (Nat.add_lt_add_left hj p) hl))]
  rfl
 obtain ⟨_,_,h3⟩:=sg_sum (fun j=>hitI name row (bl row.length P j).toNat j) (List.range row.length)
 rw [List.length_range] at h3
 unfold lyC
 rw [ht,h3]
 unfold fitB
 refine congrArg (fun f=>(List.range row.length).all f) (funext fun j=>?_)
 rw [hb]
 rfl
theorem sorted_filter (n:Nat):∀(a:Nat) {l:List Nat},l.Pairwise (· < ·)→(∀x∈l,a≤x∧x < a+n)→(List.range' a n).filter (fun x=>decide (x∈l))=l:=by
 induction n with
 | zero=>
  intro a l _ h
  cases l with
  | nil=>rfl
  | cons x l=>
   have:=h x List.mem_cons_self
   exact absurd (Nat.lt_of_le_of_lt this.1 this.2) (Nat.lt_irrefl _)
 | succ n ih=>
  intro a l hs h
  rw [List.range'_succ,List.filter_cons]
  cases l with
  | nil=>
   rw [decide_eq_false (by simp),if_neg Bool.false_ne_true]
   exact ih (a+1) hs (by simp)
  | cons x l=>
   have hs':=List.pairwise_cons.mp hs
   by_cases e:a=x
   ·subst e
    rw [decide_eq_true List.mem_cons_self,if_pos rfl]
    have e2:(List.range' (a+1) n).filter (fun y=>decide (y∈a::l))=(List.range' (a+1) n).filter fun y=>decide (y∈l):=List.filter_congr fun y hy=>by
     rw [List.mem_range'_1] at hy
     exact decide_eq_decide.mpr ⟨fun q=>(List.mem_cons.mp q).resolve_left (by lia),fun q=>List.mem_cons_of_mem _ q⟩
    rw [e2,ih (a+1) hs'.2 fun y hy=>⟨hs'.1 y hy,by have:=(h y (List.mem_cons_of_mem _ hy)).2;lia⟩]
   ·have hx:=h x List.mem_cons_self
    have hlt:a < x:=Nat.lt_of_le_of_ne hx.1 e
    rw [decide_eq_false (fun q=>(List.mem_cons.mp q).elim e fun q=>Nat.lt_asymm hlt (hs'.1 a q)),if_neg Bool.false_ne_true]
    refine ih (a+1) hs fun y hy=>⟨?_,by have:=(h y hy).2;lia⟩
    rcases List.mem_cons.mp hy with rfl | hy
    ·exact hlt
    ·exact Nat.lt_trans hlt (hs'.1 y hy)
noncomputable def PLof (k a:Nat):List Nat:=if k=0 then [0] else List.range' a (7 - a)
noncomputable def GF (name:List Nat) (k a:Nat) (r:Row):List Nat:=(PLof k a).filter fun p=>decide (p+r.length < 7)&&fitB name r p
noncomputable def mn (l:List Nat):Nat:=l.headD 0
noncomputable def stepR (name:List Nat) (k:Nat) (re:List Nat) (r:Row):List Nat:=((if k>0∧re≠[] then List.range' (mn re) (7 - mn re) else re).filter fun p=>decide (p+r.length < 7)&&fitB name r p).map (· +r.length)
noncomputable def reR (name:List Nat):Nat→List Nat→List Row→List Nat
 | _,re,[]=>re
 | k,re,r::rs=>reR name (k+1) (stepR name k re r) rs
section
variable {name:List Nat} {k a:Nat} {r:Row}
theorem PL_sorted (k a:Nat):(PLof k a).Pairwise (· < ·):=by
 unfold PLof
 split
 ·exact List.pairwise_singleton _ _
 ·exact List.pairwise_lt_range'
theorem fit_take {h p:Nat} (hp:p+r.length≤h):fitB (name.take h) r p=fitB name r p:=by
 unfold fitB
 rw [Bool.eq_iff_iff,List.all_eq_true,List.all_eq_true]
 refine forall_congr' fun j=>forall_congr' fun hj=>?_
 have hj:=List.mem_range.mp hj
 have e:(name.take h).getD (p+j) 0=name.getD (p+j) 0:=by rw [List.getD_eq_getElem?_getD,List.getElem?_take_of_lt (Nat.lt_of_lt_of_le (Nat.add_lt_add_left hj p) hp),←List.getD_eq_getElem?_getD]
 rw [e]
theorem cand_PL {h z:Nat} (hh:h < 7) (ha:k=0→a=0):cand k a z h=(PLof k a).filter fun p=>decide (p+z≤h):=by
 have key:∀P:Nat→Bool,(List.range' a (h+1 - (z+a))).filter P=((List.range' a (7 - a)).filter P).filter fun p=>decide (p+z≤h):=fun P=>by
  have e:=sorted_filter (7 - a) a (l:=List.range' a (h+1 - (z+a))) List.pairwise_lt_range' fun x hx=>by
   have hx:=List.mem_range'_1.mp hx
   exact ⟨hx.1,Nat.lt_of_lt_of_le hx.2 (Nat.add_le_add_left (Nat.le_trans (Nat.sub_le_sub_right hh _) (Nat.sub_le_sub_left (Nat.le_add_left a z) 7)) a)⟩
  rw [List.filter_filter,←e,List.filter_filter]
  refine List.filter_congr fun x hx=>?_
  have hx:=List.mem_range'_1.mp hx
  rw [Bool.and_comm,decide_eq_decide.mpr (List.mem_range'_1.trans ((and_iff_right hx.1).trans (fit_iff hx.1)))]
 unfold cand PLof
 rw [key]
 by_cases hk:k=0
 ·obtain rfl:=ha hk
  subst hk
  rfl
 ·rw [if_neg hk,decide_eq_true (Nat.pos_of_ne_zero hk)]
  exact congrArg (List.filter _) (List.filter_eq_self.mpr fun x _=>rfl)
theorem filt2 {α:Type} (P Q:α→Bool) (l:List α):(l.filter P).filter Q=l.filter fun x=>P x&&Q x:=by
 rw [List.filter_filter]
 exact List.filter_congr fun x _=>Bool.and_comm _ _
theorem plc_GF {h:Nat} {b:Bool} (hh:h < 7) (ha:k=0→a=0):(plc b k a r.length h).filter (fitB (name.take h) r)=(GF name k a r).filter fun p=>if b=true then p+r.length==h else decide (p+r.length≤h):=by
 have e:plc b k a r.length h=(PLof k a).filter fun p=>if b=true then p+r.length==h else decide (p+r.length≤h):=by
  unfold plc
  rw [cand_PL hh ha]
  cases b with
  | false=>rfl
  | true=>
   rw [if_pos rfl,filt2]
   refine List.filter_congr fun p _=>Bool.eq_iff_iff.mpr ?_
   rw [Bool.and_eq_true,decide_eq_true_iff,if_pos rfl,beq_iff_eq]
   lia
 rw [e]
 unfold GF
 rw [filt2,filt2]
 refine List.filter_congr fun p _=>?_
 have key:∀c:Bool,(c=true→p+r.length≤h)→(c&&fitB (name.take h) r p)=(decide (p+r.length < 7)&&fitB name r p&&c):=fun c hc=>by
  cases c with
  | false=>rw [Bool.false_and,Bool.and_false]
  | true=>rw [Bool.true_and,Bool.and_true,fit_take (hc rfl),decide_eq_true (Nat.lt_of_le_of_lt (hc rfl) hh),Bool.true_and]
 refine key _ fun q=>?_
 cases b with
 | true=>exact Nat.le_of_eq (beq_iff_eq.mp q)
 | false=>exact of_decide_eq_true q
theorem G_sorted:(GF name k a r).Pairwise (· < ·):=(PL_sorted k a).filter _
theorem map_sorted {z:Nat}:∀{l:List Nat},l.Pairwise (· < ·)→(l.map (· +z)).Pairwise (· < ·)
 | [],_=>List.Pairwise.nil
 | x::l,h=>by
  have h:=List.pairwise_cons.mp h
  refine List.pairwise_cons.mpr ⟨fun y hy=>?_,map_sorted h.2⟩
  obtain ⟨w,hw,rfl⟩:=List.mem_map.mp hy
  exact Nat.add_lt_add_right (h.1 w hw) z
theorem nil_reR:∀(rs:List Row) (k:Nat),0 < k→reR name k [] rs=[]
 | [],_,_=>rfl
 | r::rs,k,hk=>by
  have e:stepR name k [] r=[]:=by
   unfold stepR
   rw [if_neg (fun q=>q.2 rfl)]
   rfl
  rw [reR,e]
  exact nil_reR rs (k+1) (Nat.succ_pos k)
end
theorem tk_far {name:List Nat} {k a:Nat} {h:Nat} (hk:k≠0) (hh:h < 7) (hl:(name.take h).length=h) (ha:h < a):∀{rs:List Row},rs≠[]→tkR (name.take h) k a rs=false
 | [],hne=>absurd rfl hne
 | r::rs,_=>by
  rw [tkR,hl,plc_GF hh (fun q=>absurd q hk)]
  have e:(GF name k a r).filter (fun p=>if rs.isEmpty=true then p+r.length==h else decide (p+r.length≤h))=[]:=List.filter_eq_nil_iff.mpr fun p hp q=>by
   have h1:=(List.mem_filter.mp hp).1
   unfold PLof at h1
   rw [if_neg hk,List.mem_range'_1] at h1
   have h2:p+r.length≤h:=by
    cases hb:rs.isEmpty with
    | true=>rw [hb] at q;exact Nat.le_of_eq (beq_iff_eq.mp q)
    | false=>rw [hb] at q;exact of_decide_eq_true q
   lia
  rw [e]
theorem reach_run {name:List Nat} (hn:name.length=6):∀(rs:List Row) {k a:Nat} {re:List Nat},rs≠[]→(k=0→a=0)→(if k>0∧re≠[] then List.range' (mn re) (7 - mn re) else re)=PLof k a→reR name k re rs=(List.range 7).filter fun h=>tkR (name.take h) k a rs
 | [],_,_,_,hne,_,_=>absurd rfl hne
 | r::rs,k,a,re,_,ha,hp=>by
  have hs:stepR name k re r=(GF name k a r).map (· +r.length):=by
   unfold stepR
   rw [hp]
   rfl
  have hlen:∀{h:Nat},h < 7→(name.take h).length=h:=fun hh=>by rw [List.length_take,hn];exact Nat.min_eq_left (Nat.le_of_lt_succ hh)
  have hG:∀p∈GF name k a r,p+r.length < 7:=fun p hp=>of_decide_eq_true (Bool.and_eq_true_iff.mp (List.mem_filter.mp hp).2).1
  rw [reR,hs]
  cases rs with
  | nil=>
   show (GF name k a r).map (· +r.length)=_
   rw [←sorted_filter 7 0 (map_sorted (z:=r.length) G_sorted) fun x hx=>by
    obtain ⟨p,hp,rfl⟩:=List.mem_map.mp hx
    exact ⟨Nat.zero_le _,by rw [Nat.zero_add];exact hG p hp⟩,List.range_eq_range']
   refine List.filter_congr fun h hh=>?_
   have hh:h < 7:=by rw [List.mem_range'_1] at hh;lia
   rw [tkR,hlen hh,plc_GF hh ha]
   cases hF:(GF name k a r).filter (fun p=>if ([]:List Row).isEmpty=true then p+r.length==h else decide (p+r.length≤h)) with
   | nil=>
    refine decide_eq_false fun q=>?_
    obtain ⟨p,hp,rfl⟩:=List.mem_map.mp q
    exact List.filter_eq_nil_iff.mp hF p hp (beq_self_eq_true _)
   | cons p l=>
    have hm:p∈(GF name k a r).filter (fun p=>if ([]:List Row).isEmpty=true then p+r.length==h else decide (p+r.length≤h)):=hF ▸ List.mem_cons_self
    obtain ⟨h1,h2⟩:=List.mem_filter.mp hm
    exact decide_eq_true (List.mem_map.mpr ⟨p,h1,beq_iff_eq.mp h2⟩)
  | cons r2 rs=>
   cases hg:GF name k a r with
   | nil=>
    rw [List.map_nil,nil_reR (r2::rs) (k+1) (Nat.succ_pos k)]
    refine (List.filter_eq_nil_iff.mpr fun h hh q=>?_).symm
    have hh:=List.mem_range.mp hh
    rw [tkR,hlen hh,plc_GF hh ha,hg] at q
    cases q
   | cons p G=>
    have hsort:=List.pairwise_cons.mp (hg ▸ G_sorted:(p::G).Pairwise (· < ·))
    rw [reach_run hn (r2::rs) (k:=k+1) (a:=p+r.length) (re:=(p::G).map (· +r.length)) (List.cons_ne_nil _ _) (fun q=>nomatch q) (by
     rw [if_pos ⟨Nat.succ_pos k,fun q=>nomatch q⟩]
     exact (if_neg (Nat.succ_ne_zero k)).symm)]
    refine List.filter_congr fun h hh=>?_
    have hh:=List.mem_range.mp hh
    show _=(match (plc (r2::rs).isEmpty k a r.length (name.take h).length).filter (fitB (name.take h) r) with
     | []=>false
     | q::_=>tkR (name.take h) (k+1) (q+r.length) (r2::rs))
    rw [hlen hh,plc_GF hh ha,hg,List.filter_cons]
    by_cases hle:p+r.length≤h
    ·rw [if_pos (show (if (r2::rs).isEmpty=true then p+r.length==h else decide (p+r.length≤h))=true from decide_eq_true hle)]
    ·rw [if_neg (show ¬ (if (r2::rs).isEmpty=true then p+r.length==h else decide (p+r.length≤h))=true from fun q=>hle (of_decide_eq_true q)),tk_far (Nat.succ_ne_zero k) hh (hlen hh) (Nat.lt_of_not_le hle) (List.cons_ne_nil _ _)]
     have e:G.filter (fun p=>if (r2::rs).isEmpty=true then p+r.length==h else decide (p+r.length≤h))=[]:=List.filter_eq_nil_iff.mpr fun x hx q=>by
      have h1:=hsort.1 x hx
      have h2:x+r.length≤h:=of_decide_eq_true q
      lia
     rw [e]
noncomputable def kLs:List EvE→St→Option (List PV×St)
 | []=>pureE []
 | f::fs=>bindE f fun a=>bindE (kLs fs) fun as=>pureE (a::as)
noncomputable def kL (fs:List EvE):EvE:=bindE (kLs fs) fun as=>liftE (mkL as)
noncomputable def kT (fs:List EvE):EvE:=bindE (kLs fs) fun as=>liftE (mkT as)
noncomputable def kRev (f:EvE):EvE:=bindE f fun o=>bindE kNo fun x=>bindE kNo fun y=>bindE (kAs (kNg 1)) fun z=>liftE (pySlice o x y z)
noncomputable def kTru (f:EvE):EvB:=bindE f fun a=>liftE (truthOf a)
noncomputable def u1:EvS:=dSet 2 (compE [] (kSl (kCat (kSl (kN 0) kNo (kAs (kI 6))) (kL [kI 18,kI 1,kI 51,kI 16,kI 3,kI 11])) kNo (kAs (kI 6))) (compV 1 0 kTT (kBin .Mod (kN 0) (kBin .Pow (kI 10) (kI 6)))))
noncomputable def u2:EvS:=dSet 3 (kIt (kL [kS [97,98,45],kS [93,97,94],kS [91,97,92],kS [38,124,126],kS [42,63,97],kS [94,45,93]]) (kBin .Mod (kBin .FloorDiv (kF pySum (kA1 (kN 2))) (kI 120)) (kI 6)))
noncomputable def u3:EvS:=dSet 4 (kGl (compE [3] (kN 2) (compV 1 0 kTT (kIt (kN 1) (kBin .Mod (kN 0) (kI 3))))))
noncomputable def uKind:EvS:=dSet 7 (kBin .Mod (kBin .FloorDiv (kN 1) (kI 3)) (kI 10))
noncomputable def uMask:EvS:=dSet 8 (kIt (kT [kI 7,kI 6,kI 5,kI 3,kI 1,kI 2,kI 4,kI 0]) (kBin .Sub (kN 7) (kI 2)))
noncomputable def uItem:EvS:=dSet 10 (kGl (compE [8,3] (kRng (kI 3)) (compV 1 0 (kCmp .Eq (kBin .Mod (kBin .FloorDiv (kN 1) (kBin .Pow (kI 2) (kN 0))) (kI 2)) (kI 1)) (kIt (kN 2) (kN 0)))))
noncomputable def uPat (mP:List PV→Option PV):EvS:=augF 5 .Add (kF mP (kA3 (kN 10) (kN 3) (kBin .Mod (kBin .FloorDiv (kN 1) (kI 30)) (kI 4))))
noncomputable def uThen (mP:List PV→Option PV):EvW:=thenW uMask 6 (thenW uItem 6 (thenW (uPat mP) 6 (appW 10)))
noncomputable def uElse:EvW:=thenW (augF 5 .Add (kS [42])) 6 augW
noncomputable def uBody (mP:List PV→Option PV):EvW:=thenW uKind 6 (ifW (kCmp .Gt (kN 7) (kI 1)) 6 (uThen mP) uElse)
noncomputable def uRows (mR mT:List PV→Option PV):EvS:=dSet 11 (kF mR (kA2 (kF mT (kA1 (kN 5))) (kN 3)))
noncomputable def uLen:EvS:=kIf (kCmp .NotEq (kLen 11) (kLen 6)) (seqF (kRet (kBo false)) dNil) dNil
noncomputable def uSpots (mN:List PV→Option PV):EvS:=dSet 12 (compE [4] (kN 3) (compV 1 0 kTT (kF mN (kA1 (compE [0] (kN 1) (compV 1 0 kTT (kIf (kCmp .Eq (kN 0) (kN 1)) (kI 1) (kI 0))))))))
noncomputable def uReach:EvS:=dSet 13 (kL [kI 0])
noncomputable def uSz:EvS:=tupF [15,16] (kV (kLn (kIt (kN 6) (kN 14))) (kV (kI 0) (pureE [])))
noncomputable def uNum (mN:List PV→Option PV):EvE:=kF mN (kA1 (compE [9,3] (kRev (kIt (kN 6) (kN 14))) (compV 1 0 kTT (kIf (kCmp .In (kIt (kN 2) (kN 1)) (kN 0)) (kI 1) (kNg 1)))))
noncomputable def uAdd (mN:List PV→Option PV):EvS:=seqF (augF 16 .Add (kBin .Mult (kIt (kN 12) (kN 9)) (uNum mN))) dNil
noncomputable def uFig (mF:List PV→Option PV):EvS:=dSet 17 (kF mF (kA2 (kN 16) (kBin .Add (kI 6) (kN 15))))
noncomputable def uChk (mY:List PV→Option PV):EvS:=kIf (kCmp .NotEq (kN 17) (kF mY (kA2 (kIt (kN 11) (kN 14)) (kN 4)))) (seqF (kRet (kBo false)) dNil) dNil
noncomputable def uPlc:EvS:=dSet 18 (kIf (andF (kCmp .Gt (kN 14) (kI 0)) (kCmp .NotEq (kN 13) (kL []))) (kF pyRange (kA2 (kF pyMin (kA1 (kN 13))) (kI 7))) (kN 13))
noncomputable def uNew:EvS:=dSet 13 (compE [17,15] (kN 18) (compV 1 0 (andF (kCmp .Lt (kBin .Add (kN 0) (kN 2)) (kI 7)) (kCmp .Eq (kIt (kN 1) (kBin .Sub (kBin .Add (kN 0) (kN 2)) (kI 1))) (kN 2))) (kBin .Add (kN 0) (kN 2))))
noncomputable def uTurn (mN mF mY:List PV→Option PV):EvS:=seqF uSz (seqF (dFor 9 (kRng (kI 3)) (uAdd mN)) (seqF (uFig mF) (seqF (uChk mY) (seqF uPlc (seqF uNew dNil)))))
noncomputable def uEnd (mK:List PV→Option PV):EvE:=kCV .Eq (kN 13) (compE [4,11] (kRng (kI 7)) (compV 1 0 (kTru (kF mK (kA2 (kN 2) (kSl (kN 1) kNo (kAs (kN 0)))))) (kN 0)))
noncomputable def uRest (mR mT mN mF mY mK:List PV→Option PV):EvS:=seqF (uRows mR mT) (seqF uLen (seqF (uSpots mN) (seqF uReach (seqF (dFor 14 (kRng (kLen 6)) (uTurn mN mF mY)) (seqF (kRet (uEnd mK)) dNil)))))
noncomputable def uAll (mP mR mT mN mF mY mK:List PV→Option PV):EvS:=seqF u1 (seqF u2 (seqF u3 (allO (runsG 1 5 6 (S []) (kN 2) (uBody mP) (uRest mR mT mN mF mY mK)))))
theorem la_code {X:Cx} {d:Nat} {cd:Value} {ql:PySem.Str} (G:Glo X) {fPiece fRows fTranslate fNumber fFigures fLying fTakes:Addr} {mP mR mT mN mF mY mK:List PV→Option PV} (hP:CallW X d fPiece mP) (gP:X.mg "_law_piece"=some (.ref fPiece)) (oP:∃o fd,X.B.get? fPiece=some o∧o.data=.func fd) (hR:CallW X d fRows mR) (gR:X.mg "_law_rows"=some (.ref fRows)) (oR:∃o fd,X.B.get? fRows=some o∧o.data=.func fd)
  (hT:CallW X d fTranslate mT) (gT:X.mg "translate"=some (.ref fTranslate)) (oT:∃o fd,X.B.get? fTranslate=some o∧o.data=.func fd) (hN:CallW X d fNumber mN) (gN:X.mg "_law_number"=some (.ref fNumber)) (oN:∃o fd,X.B.get? fNumber=some o∧o.data=.func fd) (hF:CallW X d fFigures mF) (gF:X.mg "_law_figures"=some (.ref fFigures)) (oF:∃o fd,X.B.get? fFigures=some o∧o.data=.func fd)
  (hY:CallW X d fLying mY) (gY:X.mg "_law_lying"=some (.ref fLying)) (oY:∃o fd,X.B.get? fLying=some o∧o.data=.func fd) (hK:CallW X d fTakes mK) (gK:X.mg "_law_takes"=some (.ref fTakes)) (oK:∃o fd,X.B.get? fTakes=some o∧o.data=.func fd):
  (WLaw.lawS (X:=X) (d:=d) (cd:=cd) (ql:=ql) G hP gP oP hR gR oR hT gT oT hN gN oN hF gF oF hY gY oY hK gK oK).1=uAll mP mR mT mN mF mY mK:=by
 unfold WLaw.lawS
 rfl
noncomputable def nsO (script:List Int):List Nat:=((script.take 6++[18,1,51,16,3,11]).take 6).map fun (x:Int)=>(x.fmod 1000000).toNat
theorem ns_len (script:List Int):(nsO script).length=6:=by
 unfold nsO
 rw [List.length_map,List.length_take,List.length_append]
 exact Nat.min_eq_left (Nat.le_add_left 6 _)
theorem ns_lt {script:List Int} {x:Nat} (h:x∈nsO script):x < 1000000:=by
 obtain ⟨y,_,rfl⟩:=List.mem_map.mp h
 have h1:=Int.fmod_nonneg_of_pos y (b:=1000000) (by decide)
 have h2:=Int.fmod_lt_of_pos y (b:=1000000) (by decide)
 lia
noncomputable def gO (ns:List Nat):Nat:=ns.sum / 120 % 6
noncomputable def nmO' (g:Nat) (ns:List Nat):List Nat:=ns.map fun x=>(sgn g).getD (x % 3) 0
theorem q_Ls1 {f:EvE} {fs:List EvE} {st:St} {a:PV} {as:List PV} (h:Ev f st a) (h2:Ev (kLs fs) st as):Ev (kLs (f::fs)) st (a::as):=q_Acons h h2
theorem q_L {fs:List EvE} {st:St} {as:List PV} (h:Ev (kLs fs) st as) (hl:as.length≤1000):Ev (kL fs) st (.list as):=ev1 h (if_pos (Nat.le_trans hl (by decide)))
theorem ints_L:∀(l:List Int) {st:St},Ev (kLs (l.map kI)) st (intsP l)
 | [],_=>rfl
 | x::l,st=>q_Ls1 q_I (ints_L l)
theorem strs_L:∀(l:List (List Nat)) {st:St},Ev (kLs (l.map kS)) st (pvS l)
 | [],_=>rfl
 | x::l,st=>q_Ls1 q_S (strs_L l)
theorem sl_6 {l:List Int} (h:l.length≤1000):pySlice (.list (intsP l)) none (some 6) none=some (.list (intsP (l.take 6))):=by
 refine (slL _ none (some ((6:Nat):Int)) (by rw [List.length_map];exact Nat.le_trans h (by decide))).trans ?_
 rw [clipN_nat]
 show some (PV.list (((intsP l).drop 0).take (min 6 (intsP l).length - 0)))=_
 rw [List.drop_zero,Nat.sub_zero,List.length_map,←List.map_take]
 refine congrArg (fun z=>some (PV.list (intsP z))) ?_
 rcases Nat.le_total 6 l.length with q | q
 ·rw [Nat.min_eq_left q]
 ·rw [Nat.min_eq_right q,List.take_of_length_le (Nat.le_refl _),List.take_of_length_le q]
noncomputable def LT (b0 b1 b2 b3 b4 b5 b6 b7 b8 b10:Bind):St:=[b0,b1,b2,b3,b4,b5,b6,b7,b8,.none,b10,.none,.none,.none,.none,.none,.none,.none,.none]
theorem pow_1e6:binOp .Pow (.int 10) (.int 6)=some (.int 1000000):=by kernel_rfl
section
variable {b0 b1 b2 b3 b4 b5 b6 b7 b8 b10:Bind} {script:List Int} {ns:List Nat} {g:Nat}
theorem u1_do (hs:script.length≤1000):Do u1 (LT (.froz (.list (intsP script))) b1 b2 b3 b4 b5 b6 b7 b8 b10) (LT (.froz (.list (intsP script))) b1 (.froz (.list (natsP (nsO script)))) b3 b4 b5 b6 b7 b8 b10):=by
 have ht:(script.take 6).length≤6:=by rw [List.length_take];exact Nat.min_le_left _ _
 have h1:=q_Cat (q_Sl (q_N (i:=0) (st:=LT (.froz (.list (intsP script))) b1 b2 b3 b4 b5 b6 b7 b8 b10) rfl) q_No (q_As q_I rfl) (sl_6 hs)) (q_L (ints_L [18,1,51,16,3,11]) (by decide:6≤1000)) (by rw [List.length_map];exact Nat.le_trans ht (by decide)) (by decide:6≤1000)
 have e:intsP (script.take 6)++intsP [18,1,51,16,3,11]=intsP (script.take 6++[18,1,51,16,3,11]):=by
  show List.map _ _++List.map _ _=List.map _ _
  rw [List.map_append]
 rw [e] at h1
 have h2:=q_Sl h1 q_No (q_As (q_I (n:=6)) rfl) (sl_6 (by rw [List.length_append];exact Nat.le_trans (Nat.add_le_add_right ht 6) (by decide)))
 have h3:=compV_all (n:=1) (i:=0) (e:=kBin .Mod (kN 0) (kBin .Pow (kI 10) (kI 6))) (ps:=[]) (l:=(script.take 6++[18,1,51,16,3,11]).take 6) PV.int (fun x=>.int ((x.fmod 1000000).toNat:Nat)) (by rw [List.length_take];exact Nat.le_trans (Nat.min_le_left _ _) (by decide)) fun x _=>by
  have:=q_Bin (op:=.Mod) (q_N (i:=0) (st:=[.froz (.int x)]) rfl) (q_Bin (op:=.Pow) q_I q_I pow_1e6) (bin_md x 1000000 (by decide))
  rwa [show x.fmod 1000000=((x.fmod 1000000).toNat:Int) from (Int.toNat_of_nonneg (Int.fmod_nonneg_of_pos x (by decide))).symm] at this
 have e2:(((script.take 6++[18,1,51,16,3,11]).take 6).map fun (x:Int)=>PV.int ((x.fmod 1000000).toNat:Nat))=natsP (nsO script):=by
  unfold nsO
  show _=List.map _ _
  rw [List.map_map]
  rfl
 rw [e2] at h3
 exact D_set (r_comp (ps:=[]) rfl h2 rfl h3) rfl
theorem g_lt:gO ns < 6:=Nat.mod_lt _ (by decide)
theorem sum_nats (ns:List Nat):(ns.map fun (k:Nat)=>(k:Int)).sum=(ns.sum:Nat):=by
 induction ns with
 | nil=>rfl
 | cons x l ih=>rw [List.map_cons,List.sum_cons,List.sum_cons,ih];rfl
theorem fdN (a b:Nat):((a:Nat):Int).fdiv (b:Nat)=((a / b:Nat):Int):=by
 rw [Int.fdiv_eq_ediv_of_nonneg _ (Int.natCast_nonneg b)]
 rfl
theorem fmN (a b:Nat):((a:Nat):Int).fmod (b:Nat)=((a % b:Nat):Int):=by
 rw [Int.fmod_eq_emod_of_nonneg _ (Int.natCast_nonneg b)]
 rfl
theorem q_fd {f:EvE} {st:St} {a:Nat} (b:Nat) (h:Ev f st (.int (a:Int))) (hb:b≠0∧b < 1000):Ev (kBin .FloorDiv f (kI (b:Int))) st (.int ((a / b:Nat):Int)):=by
 have:=q_Bin (op:=.FloorDiv) h (q_I (n:=(b:Int))) (bin_fd _ _ (by lia))
 rwa [fdN] at this
theorem q_md {f:EvE} {st:St} {a:Nat} (b:Nat) (h:Ev f st (.int (a:Int))) (hb:b≠0):Ev (kBin .Mod f (kI (b:Int))) st (.int ((a % b:Nat):Int)):=by
 have:=q_Bin (op:=.Mod) h (q_I (n:=(b:Int))) (bin_md _ _ (by lia))
 rwa [fmN] at this
theorem sgs_get {g:Nat} (h:g < 6):sgs[g]? =some (sgn g):=getD_some [] h
theorem u2_do (hl:ns.length=6) (hx:∀x∈ns,x < 1000000):Do u2 (LT b0 b1 (.froz (.list (natsP ns))) b3 b4 b5 b6 b7 b8 b10) (LT b0 b1 (.froz (.list (natsP ns))) (fS (sgn (gO ns))) b4 b5 b6 b7 b8 b10):=by
 have e:natsP ns=(ns.map fun (k:Nat)=>(k:Int)).map .int:=by rw [List.map_map];rfl
 have h1:Ev (kF pySum (kA1 (kN 2))) (LT b0 b1 (.froz (.list (natsP ns))) b3 b4 b5 b6 b7 b8 b10) (.int ((ns.sum:Nat):Int)):=by
  refine q_F (q_A1 (q_N rfl)) ?_
  rw [e,pySum_ints _ (by rw [List.length_map,hl];decide) fun x hx'=>by
   obtain ⟨k,hk,rfl⟩:=List.mem_map.mp hx'
   have:=hx k hk
   lia,sum_nats]
 have h2:=q_md 6 (q_fd 120 h1 (by decide)) (by decide)
 exact D_set (q_It (q_L (strs_L sgs) (by decide:6≤1000)) h2 (item_L (pvS sgs) _ (.str (S (sgn (gO ns)))) (by rw [List.getElem?_map,sgs_get (Nat.mod_lt _ (by decide))];rfl) (by decide:6≤16777216))) rfl
theorem u3_do (hg:g < 6) (hl:ns.length=6):Do u3 (LT b0 b1 (.froz (.list (natsP ns))) (fS (sgn g)) b4 b5 b6 b7 b8 b10) (LT b0 b1 (.froz (.list (natsP ns))) (fS (sgn g)) (fS (nmO' g ns)) b5 b6 b7 b8 b10):=by
 have h:=compV_all (n:=1) (i:=0) (e:=kIt (kN 1) (kBin .Mod (kN 0) (kI 3))) (ps:=[.str (S (sgn g))]) (l:=ns) (fun (x:Nat)=>PV.int (x:Int)) (fun x=>C ((sgn g).getD (x % 3) 0)) (by rw [hl];decide) fun x _=>
  q_It (q_N rfl) (q_md 3 (q_N rfl) (by decide)) (item_S (sgn g) _ _ (getD_some 0 (by rw [sgn_len hg];exact Nat.mod_lt _ (by decide))) (by rw [sgn_len hg];decide))
 have e:(ns.map fun x=>C ((sgn g).getD (x % 3) 0))=(nmO' g ns).map C:=by unfold nmO';rw [List.map_map];rfl
 rw [e] at h
 exact D_set (q_M q_S (q_A1 (r_comp (r_cap1 rfl) (q_N rfl) rfl h)) (join_C (by unfold nmO';rw [List.length_map,hl];decide))) rfl
end
noncomputable abbrev Ent:=Nat×Nat
noncomputable def mskO:List Nat:=[7,6,5,3,1,2,4,0]
noncomputable def pcO (x:Nat):Option Ent:=if 1 < x / 3 % 10 then some (mskO.getD (x / 3 % 10 - 2) 0,x / 30 % 4) else none
noncomputable def pcW (g:Nat):Option Ent→List Nat
 | none=>[42]
 | some e=>pcT g e.1 e.2
noncomputable def rowOf (g:Nat) (s:List Ent):Row:=s.map fun e=>itm g e.1
noncomputable def absStep (M:List (List Ent)) (r:List Ent):Option Ent→List (List Ent)
 | none=>if !r.isEmpty||M.isEmpty then M++[r]++[[]] else M++[r]
 | some e=>M++[r++[e]]
noncomputable def LA (g:Nat) (A:List (List Ent)):LL:=A.map fun s=>pvS (rowOf g s)
theorem msk_lt (k:Nat):mskO.getD k 0 < 8:=by
 rw [List.getD_eq_getElem?_getD]
 cases h:mskO[k]? with
 | none=>exact (by decide:0 < 8)
 | some v=>
  have:∀x∈mskO,x < 8:=by decide
  exact this v (List.mem_of_getElem? h)
theorem pcO_ok {x:Nat} {e:Ent} (h:pcO x=some e):e.1 < 8∧e.2 < 4:=by
 unfold pcO at h
 split at h<;>cases h
 exact ⟨msk_lt _,Nat.mod_lt _ (by decide)⟩
theorem thenW_eq {f:EvS} {iR:Nat} {g:EvW} {L:LL} {st st1:St} (h:Do f st st1) (hs:st1[iR]? =st[iR]?):thenW f iR g L st=g L st1:=by
 unfold thenW
 rw [show f st=some (.next,st1) from h]
 exact if_pos hs
theorem ifW_eq {f:EvB} {iR:Nat} {g h:EvW} {L:LL} {st:St} {b:Bool} (e:Ev f st b):ifW f iR g h L st=if b=true then g L st else h L st:=by
 unfold ifW
 rw [show f st=some (b,st) from e]
 exact if_pos (show sameRef iR st st from rfl)
theorem filterMap_if {α β:Type} (P:α→Prop) [DecidablePred P] (f:α→β) (l:List α):(l.filterMap fun x=>if P x then some (f x) else none)=(l.filter fun x=>decide (P x)).map f:=by
 induction l with
 | nil=>rfl
 | cons x l ih=>
  rw [List.filterMap_cons,List.filter_cons]
  by_cases h:P x
  ·rw [if_pos h,decide_eq_true h,if_pos rfl,List.map_cons,ih]
  ·rw [if_neg h,decide_eq_false h,if_neg Bool.false_ne_true,ih]
theorem pow_2 {j:Nat} (h:j < 3):binOp .Pow (.int 2) (.int (j:Int))=some (.int ((2 ^ j:Nat):Int)):=match j,h with
 | 0,_=>by kernel_rfl
 | 1,_=>by kernel_rfl
 | 2,_=>by kernel_rfl
theorem q_fd2 {f h:EvE} {st:St} {a b:Nat} (h1:Ev f st (.int (a:Int))) (h2:Ev h st (.int (b:Int))) (hb:b≠0∧b < 1000):Ev (kBin .FloorDiv f h) st (.int ((a / b:Nat):Int)):=by
 have:=q_Bin (op:=.FloorDiv) h1 h2 (bin_fd _ _ (by lia))
 rwa [fdN] at this
section
variable {b0 b1 b2 b3 b4 b5 b6 b7 b8 b10:Bind} {ns name pat:List Nat} {g x k m:Nat}
noncomputable abbrev LB (b0:Bind) (x:Nat) (ns:List Nat) (g:Nat) (name pat:List Nat) (o:Addr) (b7 b8 b10:Bind):St:=LT b0 (fN x) (.froz (.list (natsP ns))) (fS (sgn g)) (fS name) (fS pat) (.ref o) b7 b8 b10
theorem kind_do {o:Addr}:Do uKind (LB b0 x ns g name pat o b7 b8 b10) (LB b0 x ns g name pat o (fN (x / 3 % 10)) b8 b10):=D_set (q_md 10 (q_fd 3 (q_N rfl) (by decide)) (by decide)) rfl
theorem tup_item {j:Nat} (h:j < 8):pyItem (.tuple (intsP [7,6,5,3,1,2,4,0])) (.int (j:Int))=some (.int ((mskO.getD j 0:Nat):Int)):=match j,h with
 | 0,_=>by kernel_rfl
 | 1,_=>by kernel_rfl
 | 2,_=>by kernel_rfl
 | 3,_=>by kernel_rfl
 | 4,_=>by kernel_rfl
 | 5,_=>by kernel_rfl
 | 6,_=>by kernel_rfl
 | 7,_=>by kernel_rfl
theorem mask_do {o:Addr} (h1:1 < k) (h2:k < 10):Do uMask (LB b0 x ns g name pat o (fN k) b8 b10) (LB b0 x ns g name pat o (fN k) (fN (mskO.getD (k - 2) 0)) b10):=by
 have e:binOp .Sub (.int (k:Int)) (.int 2)=some (.int ((k - 2:Nat):Int)):=(bin_sub _ _).trans (congrArg (fun z=>some (PV.int z)) (by lia))
 have hT:Ev (kT [kI 7,kI 6,kI 5,kI 3,kI 1,kI 2,kI 4,kI 0]) (LB b0 x ns g name pat o (fN k) b8 b10) (.tuple (intsP [7,6,5,3,1,2,4,0])):=ev1 (ints_L [7,6,5,3,1,2,4,0]) rfl
 exact D_set (q_It hT (q_Bin (q_N rfl) q_I e) (tup_item (by lia))) rfl
theorem item_do {o:Addr} (hg:g < 6):Do uItem (LB b0 x ns g name pat o b7 (fN m) b10) (LB b0 x ns g name pat o b7 (fN m) (fS (itm g m))):=by
 have h:=compV_runM (n:=1) (i:=0) (t:=kCmp .Eq (kBin .Mod (kBin .FloorDiv (kN 1) (kBin .Pow (kI 2) (kN 0))) (kI 2)) (kI 1)) (e:=kIt (kN 2) (kN 0)) (ps:=[.int (m:Int),.str (S (sgn g))]) (l:=List.range 3) (fun (j:Nat)=>PV.int (j:Int)) (fun j=>decide (m / 2 ^ j % 2=1)) (fun j=>C ((sgn g).getD j 0)) (by decide) fun j hj=>by
  have hj:=List.mem_range.mp hj
  refine ⟨q_Cmp (q_md 2 (q_fd2 (q_N rfl) (q_Bin q_I (q_N rfl) (pow_2 hj)) ?_) (by decide)) q_I ((eqN _ 1).trans rfl),fun _=>q_It (q_N rfl) (q_N rfl) (item_S (sgn g) j _ (getD_some 0 (by rw [sgn_len hg];exact hj)) (by rw [sgn_len hg];decide))⟩
  match j,hj with
  | 0,_=>decide
  | 1,_=>decide
  | 2,_=>decide
 have e:((List.range 3).filter fun j=>decide (m / 2 ^ j % 2=1)).map (fun j=>C ((sgn g).getD j 0))=(itm g m).map C:=by
  unfold itm
  rw [filterMap_if,List.map_map]
  rfl
 rw [e] at h
 have hl:(itm g m).length≤900:=by
  unfold itm
  exact Nat.le_trans (List.length_filterMap_le _ _) (by decide)
 exact D_set (q_M q_S (q_A1 (r_comp (r_cap2 rfl rfl) (rng_ev (q_I (n:=((3:Nat):Int)))) (rng_items (by decide)) h)) (join_C hl)) rfl
theorem pat_do {o:Addr} {mP:List PV→Option PV} (hm:mP [.str (S (itm g m)),.str (S (sgn g)),.int ((x / 30 % 4:Nat):Int)]=some (.str (S (pcT g m (x / 30 % 4))))) (hp:pat.length+(pcT g m (x / 30 % 4)).length≤16777216):
  Do (uPat mP) (LB b0 x ns g name pat o b7 b8 (fS (itm g m))) (LB b0 x ns g name (pat++pcT g m (x / 30 % 4)) o b7 b8 (fS (itm g m))):=
 D_aug rfl (q_F (q_A3 (q_N rfl) (q_N rfl) (q_md 4 (q_fd 30 (q_N rfl) (by decide)) (by decide))) hm) (aug_S _ _ hp) rfl
theorem LA_last (g:Nat) (M:List (List Ent)) (r:List Ent):(LA g (M++[r]))[(LA g (M++[r])).length - 1]? =some (pvS (rowOf g r)):=by
 unfold LA
 rw [List.length_map,List.length_append,List.getElem?_map]
 show Option.map _ (M++[r])[M.length]? =_
 rw [List.getElem?_append_right (Nat.le_refl _),Nat.sub_self]
 rfl
theorem app_eq {o:Addr} {M:List (List Ent)} {r:List Ent} {e:Ent} (he:m=e.1) (hr:r.length≤1000):appW 10 (LA g (M++[r])) (LB b0 x ns g name pat o b7 b8 (fS (itm g m)))=some (LA g (M++[r++[e]]),LB b0 x ns g name pat o b7 b8 (fS (itm g m))):=by
 unfold appW
 rw [LA_last,Option.bind_some]
 show (if (pvS (rowOf g r)).length≤1000 then _ else none)=_
 rw [if_pos (by rw [List.length_map];unfold rowOf;rw [List.length_map];exact hr)]
 have e1:(LA g (M++[r])).set ((LA g (M++[r])).length - 1) (pvS (rowOf g r)++[.str (S (itm g m))])=LA g (M++[r++[e]]):=by
  unfold LA
  rw [List.map_append,List.map_append,List.length_append,List.length_map]
  show (M.map _++[pvS (rowOf g r)]).set M.length _=_
  rw [show M.length=(M.map fun s=>pvS (rowOf g s)).length by rw [List.length_map],List.set_append_right _ _ (Nat.le_refl _),Nat.sub_self]
  subst he
  show _++[_]=_++[pvS (rowOf g (r++[e]))]
  unfold rowOf
  rw [List.map_append]
  show _=_++[List.map _ _]
  rw [List.map_append]
  rfl
 rw [e1]
end
noncomputable def itChk (g m d:Nat):Bool:=(PyData.str (S (itm g m))).canLay0&&decide ((pcT g m d).length≤60)
theorem it_all:all3 itChk=true:=by kernel_rfl
theorem it_ok {g m d:Nat} (hg:g < 6) (hm:m < 8) (hd:d < 4):(PyData.str (S (itm g m))).canLay0=true∧(pcT g m d).length≤60:=
 have h:=Bool.and_eq_true_iff.mp (all3_of it_all hg hm hd)
 ⟨h.1,of_decide_eq_true h.2⟩
noncomputable def EntOK (s:List Ent):Prop:=∀e∈s,e.1 < 8∧e.2 < 4
theorem row_ne {g:Nat} {s:List Ent} (hg:g < 6) (hs:EntOK s):cmpOp .NotEq (.list (pvS (rowOf g s))) (.list [])=some (!s.isEmpty):=by
 have e:pvS (rowOf g s)=s.map fun e=>PV.str (S (itm g e.1)):=by unfold rowOf;show List.map _ _=_;rw [List.map_map];rfl
 have h1:toPys (s.map fun e=>PV.str (S (itm g e.1)))=some (s.map fun e=>PyData.str (S (itm g e.1))):=toPys_map _ _ s fun x _=>by unfold toPy;rfl
 have h2:=canAll_map (fun e:Ent=>PyData.str (S (itm g e.1))) s fun x hx=>(it_ok hg (hs x hx).1 (hs x hx).2).1
 have h3:=depthAll_map (fun e:Ent=>PyData.str (S (itm g e.1))) 60 s fun x _=>(by show (PyData.str _).depth≤60;unfold PyData.depth;decide)
 show (pyEq _ _).map (!·)=_
 rw [e,pyEq_nil h1 h2 h3]
 cases s<;>rfl
theorem tst_eq {g:Nat} {M:List (List Ent)} {r:List Ent} (hg:g < 6) (hr:EntOK r):tstW (LA g (M++[r]))=some (!r.isEmpty||M.isEmpty):=by
 unfold tstW
 rw [LA_last,Option.bind_some,row_ne hg hr,Option.map_some]
 refine congrArg (fun b=>some (!r.isEmpty||b)) ?_
 unfold LA
 rw [List.length_map,List.length_append]
 cases M with
 | nil=>rfl
 | cons s M=>exact beq_eq_false_iff_ne.mpr (by rw [List.length_cons,List.length_singleton];lia)
section
variable {b0 b7 b8 b10:Bind} {ns name pat:List Nat} {g x:Nat}
theorem then_LB {o:Addr} {f:EvS} {k:EvW} {L:LL} {pat':List Nat} {c7 c8 c10:Bind} (h:Do f (LB b0 x ns g name pat o b7 b8 b10) (LB b0 x ns g name pat' o c7 c8 c10)):thenW f 6 k L (LB b0 x ns g name pat o b7 b8 b10)=k L (LB b0 x ns g name pat' o c7 c8 c10):=thenW_eq h rfl
theorem u_turn {mP:List PV→Option PV} (hg:g < 6) (hm:∀m d:Nat,m < 8→d < 4→mP [.str (S (itm g m)),.str (S (sgn g)),.int (d:Int)]=some (.str (S (pcT g m d)))) {M:List (List Ent)} {r:List Ent} (hr:EntOK r) (hl:r.length≤1000) (hM:M.length≤400) (hp:pat.length≤1000):
  ∃b7' b8' b10',∀o:Addr,uBody mP (LA g (M++[r])) (LB b0 x ns g name pat o b7 b8 b10)=some (LA g (absStep M r (pcO x)),LB b0 x ns g name (pat++pcW g (pcO x)) o b7' b8' b10'):=by
 have hk:∀o:Addr,Ev (kCmp .Gt (kN 7) (kI 1)) (LB b0 x ns g name pat o (fN (x / 3 % 10)) b8 b10) (decide (1 < x / 3 % 10)):=fun o=>q_Cmp (q_N rfl) q_I ((gt_I _ _).trans (congrArg some (decide_eq_decide.mpr (by lia))))
 by_cases h:1 < x / 3 % 10
 ·have hm8:=msk_lt (x / 3 % 10 - 2)
  have hd4:x / 30 % 4 < 4:=Nat.mod_lt _ (by decide)
  have ho:pcO x=some (mskO.getD (x / 3 % 10 - 2) 0,x / 30 % 4):=if_pos h
  have hpc:=(it_ok hg hm8 hd4).2
  refine ⟨fN (x / 3 % 10),fN (mskO.getD (x / 3 % 10 - 2) 0),fS (itm g (mskO.getD (x / 3 % 10 - 2) 0)),fun o=>?_⟩
  unfold uBody
  rw [then_LB kind_do,ifW_eq (hk o),decide_eq_true h,if_pos rfl,ho]
  unfold uThen
  rw [then_LB (mask_do h (Nat.mod_lt _ (by decide))),then_LB (item_do hg),then_LB (pat_do (hm _ _ hm8 hd4) (Nat.le_trans (Nat.add_le_add hp hpc) (by decide)))]
  exact app_eq rfl hl
 ·have ho:pcO x=none:=if_neg h
  refine ⟨fN (x / 3 % 10),b8,b10,fun o=>?_⟩
  unfold uBody
  rw [then_LB kind_do,ifW_eq (hk o),decide_eq_false h,if_neg Bool.false_ne_true,ho]
  unfold uElse
  have ha:Do (augF 5 .Add (kS [42])) (LB b0 x ns g name pat o (fN (x / 3 % 10)) b8 b10) (LB b0 x ns g name (pat++[42]) o (fN (x / 3 % 10)) b8 b10):=D_aug rfl q_S (aug_S _ _ (Nat.le_trans (Nat.succ_le_succ hp) (by decide))) rfl
  rw [then_LB ha]
  unfold augW
  rw [tst_eq hg hr,Option.bind_some]
  rw [if_pos (by unfold LA;rw [List.length_map,List.length_append];exact Nat.le_trans (Nat.add_le_add_right hM 1) (by decide))]
  unfold absStep
  cases hb:(!r.isEmpty||M.isEmpty) with
  | true=>
   rw [if_pos rfl,if_pos rfl]
   unfold LA
   rw [List.map_append (l₁:=M++[r])]
   rfl
  | false=>rfl
end
noncomputable def absN (A:List (List Ent)) (o:Option Ent):List (List Ent):=absStep A.dropLast (A.getLastD []) o
theorem absN_eq (M:List (List Ent)) (r:List Ent) (o:Option Ent):absN (M++[r]) o=absStep M r o:=by
 unfold absN
 rw [List.dropLast_concat,List.getLastD_eq_getLast?,List.getLast?_concat]
 rfl
noncomputable def absAll (A:List (List Ent)) (os:List (Option Ent)):List (List Ent):=os.foldl absN A
structure AbsOK (A:List (List Ent)) (n:Nat):Prop where
 ne:A≠[]
 ent:∀s∈A,EntOK s
 len:A.length≤n+1
 ln:∀s∈A,s.length≤n
theorem ne_concat {α:Type} {A:List α} (h:A≠[]):∃M r,A=M++[r]:=by
 rcases List.eq_nil_or_concat A with rfl | ⟨M,r,rfl⟩
 ·exact absurd rfl h
 ·exact ⟨M,r,by rw [List.concat_eq_append]⟩
theorem abs_ok {A:List (List Ent)} {n:Nat} (h:AbsOK A n) {o:Option Ent} (ho:∀e,o=some e→e.1 < 8∧e.2 < 4):AbsOK (absN A o) (n+1):=by
 obtain ⟨M,r,rfl⟩:=ne_concat h.ne
 rw [absN_eq]
 have hM:∀s∈M,EntOK s∧s.length≤n:=fun s hs=>⟨h.ent s (List.mem_append_left _ hs),h.ln s (List.mem_append_left _ hs)⟩
 have hr:=List.mem_append_right M (List.mem_singleton.mpr (rfl:r=r))
 have hl:=h.len
 rw [List.length_append] at hl
 cases o with
 | some e=>
  refine ⟨List.append_ne_nil_of_right_ne_nil _ (List.cons_ne_nil _ _),fun s hs=>?_,by rw [absStep,List.length_append];exact Nat.le_succ_of_le hl,fun s hs=>?_⟩
  ·rcases List.mem_append.mp hs with hs | hs
   ·exact (hM s hs).1
   ·rw [List.mem_singleton.mp hs]
    intro x hx
    rcases List.mem_append.mp hx with hx | hx
    ·exact h.ent r hr x hx
    ·rw [List.mem_singleton.mp hx];exact ho e rfl
  ·rcases List.mem_append.mp hs with hs | hs
   ·exact Nat.le_succ_of_le (hM s hs).2
   ·rw [List.mem_singleton.mp hs,List.length_append];exact Nat.succ_le_succ (h.ln r hr)
 | none=>
  show AbsOK (if (!r.isEmpty||M.isEmpty)=true then M++[r]++[[]] else M++[r]) (n+1)
  split
  ·refine ⟨List.append_ne_nil_of_right_ne_nil _ (List.cons_ne_nil _ _),fun s hs=>?_,by rw [List.length_append,List.length_append];exact Nat.succ_le_succ hl,fun s hs=>?_⟩
   ·rcases List.mem_append.mp hs with hs | hs
    ·exact h.ent s hs
    ·rw [List.mem_singleton.mp hs];exact fun _ h=>nomatch h
   ·rcases List.mem_append.mp hs with hs | hs
    ·exact Nat.le_succ_of_le (h.ln s hs)
    ·rw [List.mem_singleton.mp hs];exact Nat.zero_le _
  ·exact ⟨h.ne,h.ent,Nat.le_succ_of_le h.len,fun s hs=>Nat.le_succ_of_le (h.ln s hs)⟩
theorem pcW_len {g:Nat} (hg:g < 6) {o:Option Ent} (ho:∀e,o=some e→e.1 < 8∧e.2 < 4):(pcW g o).length≤60:=by
 cases o with
 | none=>exact (by decide:1≤60)
 | some e=>exact (it_ok hg (ho e rfl).1 (ho e rfl).2).2
theorem u_loop {b0:Bind} {ns name:List Nat} {g:Nat} {mP:List PV→Option PV} (hg:g < 6) (hm:∀m d:Nat,m < 8→d < 4→mP [.str (S (itm g m)),.str (S (sgn g)),.int (d:Int)]=some (.str (S (pcT g m d)))):
  ∀(xs:List Nat) {A:List (List Ent)} {n:Nat} {pat:List Nat} {b1 b7 b8 b10:Bind},AbsOK A n→n+xs.length≤100→pat.length+60 * xs.length≤1000→
   ∃b1' b7' b8' b10',∀o:Addr,forW 1 (uBody mP) (natsP xs) (LA g A) (LT b0 b1 (.froz (.list (natsP ns))) (fS (sgn g)) (fS name) (fS pat) (.ref o) b7 b8 b10)=some (LA g (absAll A (xs.map pcO)),LT b0 b1' (.froz (.list (natsP ns))) (fS (sgn g)) (fS name) (fS (pat++(xs.map pcO).flatMap (pcW g))) (.ref o) b7' b8' b10')
 | [],A,n,pat,b1,b7,b8,b10,_,_,_=>⟨b1,b7,b8,b10,fun o=>by rw [List.map_nil,List.flatMap_nil,List.append_nil];rfl⟩
 | x::xs,A,n,pat,b1,b7,b8,b10,hA,hn,hp=>by
  have hpe:∀e,pcO x=some e→e.1 < 8∧e.2 < 4:=fun e he=>pcO_ok he
  obtain ⟨M,r,rfl⟩:=ne_concat hA.ne
  have hr:=List.mem_append_right M (List.mem_singleton.mpr (rfl:r=r))
  have hn100:n≤100:=Nat.le_trans (Nat.le_add_right _ _) hn
  have hMl:M.length≤400:=by
   have:=hA.len
   rw [List.length_append] at this
   exact Nat.le_trans (Nat.le_of_succ_le_succ this) (Nat.le_trans hn100 (by decide))
  obtain ⟨c7,c8,c10,h1⟩:=u_turn (b0:=b0) (ns:=ns) (name:=name) (x:=x) (b7:=b7) (b8:=b8) (b10:=b10) hg hm (hA.ent r hr) (Nat.le_trans (hA.ln r hr) (Nat.le_trans hn100 (by decide))) hMl (Nat.le_trans (Nat.le_add_right _ _) hp)
  have hA':=abs_ok hA hpe
  rw [absN_eq] at hA'
  have hw:=pcW_len hg hpe
  rw [List.length_cons] at hn hp
  obtain ⟨d1,d7,d8,d10,h2⟩:=u_loop hg hm xs (A:=absStep M r (pcO x)) (n:=n+1) (pat:=pat++pcW g (pcO x)) (b1:=fN x) (b7:=c7) (b8:=c8) (b10:=c10) hA' (by lia) (by rw [List.length_append];lia)
  refine ⟨d1,d7,d8,d10,fun o=>?_⟩
  rw [List.map_cons,List.flatMap_cons,←List.append_assoc,absAll,List.foldl_cons,absN_eq]
  show (uBody mP (LA g (M++[r])) ((LT b0 b1 (.froz (.list (natsP ns))) (fS (sgn g)) (fS name) (fS pat) (.ref o) b7 b8 b10).set 1 (.froz (.int (x:Int))))).bind _=_
  rw [show (LT b0 b1 (.froz (.list (natsP ns))) (fS (sgn g)) (fS name) (fS pat) (.ref o) b7 b8 b10).set 1 (.froz (.int (x:Int)))=LB b0 x ns g name pat o b7 b8 b10 from rfl,h1 o,Option.bind_some]
  exact h2 o
section
variable {T sg:List Nat} {hs:List (List Nat)} {lo:Option (List Nat)} {b2 b3 b4 b5:Bind} {text:List Nat}
noncomputable abbrev rowsR (T:List Nat) (hs:List (List Nat)) (lo:Option (List Nat)):List (List Nat):=T::(hs.map (· ++[41])++lo.toList)
theorem rows_len (hn:hs.length≤100):(pvS (hs.map (· ++[41])++lo.toList)).length≤1000:=by
 rw [List.length_map,List.length_append,List.length_map]
 have:lo.toList.length≤1:=by cases lo;exact Nat.zero_le 1;exact Nat.le_refl 1
 exact Nat.le_trans (Nat.add_le_add hn this) (by decide)
theorem pv_two:pvS (hs.map (· ++[41])++lo.toList)=(hs.map fun h=>PV.str (S (h++[41])))++pvS lo.toList:=by
 show List.map _ _=_
 rw [List.map_append,List.map_map]
 rfl
theorem w3_do (hn:hs.length≤100) (hh:∀h∈hs,h.length≤900) (hok:lo=none→hs=[]):
  Do w3 (WS text sg (.froz (.list (pvS (rowsR T hs lo)))) b3 b4 b5) (WS text sg (.froz (.list (pvS (rowsR T hs lo)))) (.froz (.list (pvS hs))) b4 b5):=by
 have h1:=slL_mid (x:=.str (S T)) (rows_len (lo:=lo) hn)
 have e:(pvS (hs.map (· ++[41])++lo.toList)).dropLast=hs.map fun h=>PV.str (S (h++[41])):=by
  rw [pv_two]
  cases lo with
  | none=>
   obtain rfl:=hok rfl
   rfl
  | some t=>exact List.dropLast_concat
 rw [e] at h1
 refine D_set (r_comp (ps:=[]) rfl (q_Sl (q_N rfl) (q_As q_I rfl) (q_As q_Ng rfl) h1) rfl (compV_all (fun h=>.str (S (h++[41]))) (fun h=>.str (S h)) (Nat.le_trans hn (by decide)) fun h hm=>q_Sl (q_N rfl) q_No (q_As q_Ng rfl) (sl_m1 (Nat.le_trans (hh h hm) (by decide))))) rfl
theorem w4_do (hn:hs.length≤100) (hok:lo=none→hs=[]):Do w4 (WS text sg (.froz (.list (pvS (rowsR T hs lo)))) b3 b4 b5) (WS text sg (.froz (.list (pvS (rowsR T hs lo)))) b3 (.froz (.list (pvS lo.toList))) b5):=by
 have h1:=slL_1 (x:=.str (S T)) (rows_len (lo:=lo) hn)
 have h2:=slL_last (rows_len (lo:=lo) hn)
 have e:(pvS (hs.map (· ++[41])++lo.toList)).drop ((pvS (hs.map (· ++[41])++lo.toList)).length - 1)=pvS lo.toList:=by
  rw [pv_two]
  cases lo with
  | none=>
   obtain rfl:=hok rfl
   rfl
  | some t=>
   have e:((hs.map fun h=>PV.str (S (h++[41])))++pvS (some t).toList).length - 1=(hs.map fun h=>PV.str (S (h++[41]))).length:=by rw [List.length_append];rfl
   rw [e,List.drop_left]
 rw [e] at h2
 exact D_set (q_Sl (q_Sl (q_N rfl) (q_As q_I rfl) q_No h1) (q_As q_Ng rfl) q_No h2) rfl
theorem lo_len (hh:∀t,lo=some t→t.length≤900):∀t∈lo.toList,t.length≤900:=fun t ht=>hh t (Option.mem_toList.mp ht)
theorem w5_do (hn:hs.length≤30) (hT:T.length≤900) (hh:∀h∈hs,h.length≤900) (hl:∀t,lo=some t→t.length≤900):
  Do w5 (WS text sg (.froz (.list (pvS (rowsR T hs lo)))) (.froz (.list (pvS hs))) (.froz (.list (pvS lo.toList))) b5) (WS text sg (.froz (.list (pvS (rowsR T hs lo)))) (.froz (.list (pvS hs))) (.froz (.list (pvS lo.toList))) (fS (midT T hs lo))):=by
 have hn9:hs.length≤100:=Nat.le_trans hn (by decide)
 have hH:Ev wH (WS text sg (.froz (.list (pvS (rowsR T hs lo)))) (.froz (.list (pvS hs))) (.froz (.list (pvS lo.toList))) b5) (.list (hs.map fun h=>.str (S (wrp h)))):=
  r_comp (ps:=[]) rfl (q_N rfl) rfl (compV_all (fun h=>.str (S h)) (fun h=>.str (S (wrp h))) (Nat.le_trans hn (by decide)) fun h hm=>q_Bin (q_Bin q_S (q_N rfl) (add_S y6 h (Nat.le_trans (Nat.add_le_add_left (hh h hm) 6) (by decide)))) q_S (add_S (y6++h) [41] (by
   rw [List.length_append]
   exact Nat.le_trans (Nat.add_le_add_right (Nat.add_le_add_left (hh h hm) 6) 1) (by decide))))
 have hL:Ev wL (WS text sg (.froz (.list (pvS (rowsR T hs lo)))) (.froz (.list (pvS hs))) (.froz (.list (pvS lo.toList))) b5) (.list (lo.toList.map fun t=>.str (S (y2++t)))):=
  r_comp (ps:=[]) rfl (q_N rfl) rfl (compV_all (fun h=>.str (S h)) (fun t=>.str (S (y2++t))) (by cases lo;exact Nat.zero_le _;exact (by decide:1≤16777216)) fun t ht=>q_Bin q_S (q_N rfl) (add_S y2 t (Nat.le_trans (Nat.add_le_add_left (lo_len hl t ht) 2) (by decide))))
 have eH:(hs.map fun h=>PV.str (S (wrp h)))=pvS (hs.map wrp):=by
  show _=List.map _ _
  rw [List.map_map]
  rfl
 have eL:(lo.toList.map fun t=>PV.str (S (y2++t)))=pvS (lo.toList.map (y2++·)):=by
  show _=List.map _ _
  rw [List.map_map]
  rfl
 rw [eH] at hH
 rw [eL] at hL
 have gH:=q_Gl hH (fun q hq=>by
  obtain ⟨h,hm,rfl⟩:=List.mem_map.mp hq
  unfold wrp
  rw [List.length_append,List.length_append]
  exact Nat.le_trans (Nat.add_le_add_right (Nat.add_le_add_left (hh h hm) 6) 1) (by decide)) (by rw [List.length_map];exact hn9)
 have gL:=q_Gl hL (fun q hq=>by
  obtain ⟨t,hm,rfl⟩:=List.mem_map.mp hq
  rw [List.length_append]
  exact Nat.le_trans (Nat.add_le_add_left (lo_len hl t hm) 2) (by decide)) (by rw [List.length_map];cases lo;exact Nat.zero_le _;exact (by decide:1≤100))
 have fH:(hs.map wrp).flatten.length≤30 * 907:=by
  have hs2:=sum_le 907 ((hs.map wrp).map List.length) fun x hx=>by
   rw [List.map_map] at hx
   obtain ⟨h,hm,rfl⟩:=List.mem_map.mp hx
   show (y6++h++[41]).length≤907
   rw [List.length_append,List.length_append]
   exact Nat.add_le_add_right (Nat.add_le_add_left (hh h hm) 6) 1
  rw [List.length_map,List.length_map] at hs2
  rw [List.length_flatten]
  exact Nat.le_trans hs2 (Nat.mul_le_mul_right 907 hn)
 have fL:(lo.toList.map (y2++·)).flatten=ltx lo:=by
  cases lo with
  | none=>rfl
  | some t=>exact List.append_nil _
 have lL:(ltx lo).length≤902:=by
  cases lo with
  | none=>exact Nat.zero_le _
  | some t=>show (y2++t).length≤902;rw [List.length_append];exact Nat.add_le_add_left (hl t rfl) 2
 have h1:=q_Bin (op:=.Add) (q_It (q_N (i:=2) (st:=WS text sg (.froz (.list (pvS (rowsR T hs lo)))) (.froz (.list (pvS hs))) (.froz (.list (pvS lo.toList))) b5) rfl) (q_I (n:=((0:Nat):Int))) (item_L (pvS (rowsR T hs lo)) 0 (.str (S T)) rfl (Nat.le_trans (Nat.succ_le_succ (rows_len (lo:=lo) hn9)) (by decide)))) gH (add_S _ _ (Nat.le_trans (Nat.add_le_add hT fH) (by decide)))
 rw [fL] at gL
 have h2:=q_Bin (op:=.Add) h1 gL (add_S _ _ (by rw [List.length_append];exact Nat.le_trans (Nat.add_le_add (Nat.add_le_add hT fH) lL) (by decide)))
 have e:T++(hs.map wrp).flatten++ltx lo=midT T hs lo:=by unfold midT;rw [List.flatMap_def]
 rw [e] at h2
 exact D_set h2 rfl
theorem w6_do (hl:(midT T hs lo).length≤90000):Do w6 (WS (txtT T hs lo) sg b2 b3 b4 (fS (midT T hs lo))) (WS (txtT T hs lo) sg b2 b3 b4 (fS (midT T hs lo))):=
 D_IfF (q_Cmp (q_N rfl) (q_Bin (q_Bin q_S (q_N rfl) (add_S [40,63,115,58] _ (Nat.le_trans (Nat.add_le_add_left hl 4) (by decide)))) q_S (add_S _ [41,92,90] (by rw [List.length_append];exact Nat.le_trans (Nat.add_le_add_right (Nat.add_le_add_left hl 4) 3) (by decide)))) ((ne_S _ _).trans (congrArg some (bne_self_eq_false _)))) D_nil
theorem w7_ev {m:List PV→Option PV} {rv:List Nat→PV} (hn:hs.length≤100) (hm:∀t∈T::(hs++lo.toList),m [.str (S t),.str (S sg)]=some (rv t)):
  Ev (w7 m) (WS text sg (.froz (.list (pvS (rowsR T hs lo)))) (.froz (.list (pvS hs))) (.froz (.list (pvS lo.toList))) b5) (.list ((T::(hs++lo.toList)).map rv)):=by
 have l1:(pvS hs).length≤1000:=by rw [List.length_map];exact Nat.le_trans hn (by decide)
 have l2:(pvS lo.toList).length≤1000:=by rw [List.length_map];cases lo;exact Nat.zero_le _;exact (by decide:1≤1000)
 have h1:Ev (kCat (kCat (kSl (kN 2) kNo (kAs (kI 1))) (kN 3)) (kN 4)) (WS text sg (.froz (.list (pvS (rowsR T hs lo)))) (.froz (.list (pvS hs))) (.froz (.list (pvS lo.toList))) b5) (.list (pvS (T::(hs++lo.toList)))):=by
  have:=q_Cat (q_Cat (xs:=[.str (S T)]) (ys:=pvS hs) (q_Sl (q_N (i:=2) (st:=WS text sg (.froz (.list (pvS (rowsR T hs lo)))) (.froz (.list (pvS hs))) (.froz (.list (pvS lo.toList))) b5) rfl) q_No (q_As q_I rfl) (slL_t1 (rows_len (lo:=lo) hn))) (q_N (i:=3) rfl) (by decide:1≤1000) l1) (q_N (i:=4) (p:=.list (pvS lo.toList)) rfl) (by rw [List.length_append,List.length_map];exact Nat.le_trans (Nat.add_le_add_left hn 1) (by decide)) l2
  have e:[.str (S T)]++pvS hs++pvS lo.toList=pvS (T::(hs++lo.toList)):=by
   show _=List.map _ _
   rw [List.map_cons,List.map_append]
   rfl
  rwa [e] at this
 exact r_comp (ps:=[.str (S sg)]) (r_cap1 rfl) h1 rfl (compV_all (fun t=>.str (S t)) rv (by
  rw [List.length_cons,List.length_append]
  have:lo.toList.length≤1:=by cases lo;exact Nat.zero_le 1;exact Nat.le_refl 1
  exact Nat.le_trans (Nat.succ_le_succ (Nat.add_le_add hn this)) (by decide)) fun t ht=>q_F (q_A2 (h:=kN 0) (q_N rfl) (q_N rfl)) (hm t ht))
end
theorem rows_run1 {X:Cx} {d:Nat} {cd:Value} {ql:PySem.Str} (G:Glo X) {fSets:Addr} {mSets:List PV→Option PV} (hSets:CallW X d fSets mSets) (gSets:X.mg "_law_sets"=some (.ref fSets)) (oSets:∃o fd,X.B.get? fSets=some o∧o.data=.func fd)
  {T sg:List Nat} {hs:List (List Nat)} {lo:Option (List Nat)} {rv:List Nat→PV} (hok:lo=none→hs=[]) (hn:hs.length≤30) (hl:(midT T hs lo).length≤90000) (hT:GT T∧T.length≤900) (hh:∀h∈hs,GT h∧h.length≤900) (hlo:∀t,lo=some t→GT t∧t.length≤900) (hm:∀t∈T::(hs++lo.toList),mSets [.str (S t),.str (S sg)]=some (rv t)):
  runF (WRows.rowsS (X:=X) (d:=d) (cd:=cd) (ql:=ql) G hSets gSets oSets).1 6 [.str (S (txtT T hs lo)),.str (S sg)]=some (.list ((T::(hs++lo.toList)).map rv)):=by
 have hn9:hs.length≤100:=Nat.le_trans hn (by decide)
 have g1:=fun h hh'=>(hh h hh').1
 have g2:=fun t ht=>(hlo t ht).1
 rw [rw_code]
 exact runF_ret' ((seq_next (w1_do (sg:=sg) (b2:=.none) (b3:=.none) (b4:=.none) (b5:=.none) hl hT.1 g1 g2)).trans ((seq_next (w2_do hl hn9 hT.1 g1 g2)).trans ((seq_next (w3_do hn9 (fun h hh'=>(hh h hh').2) hok)).trans ((seq_next (w4_do hn9 hok)).trans ((seq_next (w5_do hn hT.2 (fun h hh'=>(hh h hh').2) fun t ht=>(hlo t ht).2)).trans ((seq_next (w6_do hl)).trans (seq_ret (D_ret (w7_ev hn9 hm)))))))))
noncomputable def segP (g:Nat) (s:List Ent):Seg:=s.map fun e=>paT g e.1 e.2
noncomputable def partsOf (g:Nat):List (List Ent)→List (Option (List Nat))
 | []=>[]
 | s::r=>(segP g s).map some++(r.map (segP g)).flatMap segO
noncomputable def preP (g:Nat) (M:List (List Ent)):List (Option (List Nat)):=if M.isEmpty then [] else partsOf g M++[none]
theorem parts_snoc (g:Nat) (M:List (List Ent)) (r:List Ent):partsOf g (M++[r])=preP g M++(segP g r).map some:=by
 cases M with
 | nil=>exact List.append_nil _
 | cons s M=>
  show (segP g s).map some++((M++[r]).map (segP g)).flatMap segO=(partsOf g (s::M)++[none])++(segP g r).map some
  rw [List.map_append,List.flatMap_append]
  show _=((segP g s).map some++(M.map (segP g)).flatMap segO++[none])++_
  rw [List.append_assoc,List.append_assoc]
  refine congrArg (_++·) (congrArg (_++·) ?_)
  show segO (segP g r)++[]=_
  rw [List.append_nil]
  rfl
noncomputable def pcsO (g:Nat) (os:List (Option Ent)):Pcs:=os.map fun o=>o.map fun e=>(pcT g e.1 e.2,paT g e.1 e.2)
theorem txt_pcs (g:Nat) (os:List (Option Ent)):txt (pcsO g os)=os.flatMap (pcW g):=by
 unfold txt pcsO
 rw [List.flatMap_map]
 exact congrArg (fun f=>os.flatMap f) (funext fun o=>by cases o<;>rfl)
theorem parts_step (g:Nat) {A:List (List Ent)} (hA:A≠[]) (o:Option Ent):stp (partsOf g A) (o.map fun e=>(pcT g e.1 e.2,paT g e.1 e.2))=partsOf g (absN A o):=by
 obtain ⟨M,r,rfl⟩:=ne_concat hA
 rw [absN_eq]
 cases o with
 | some e=>
  show partsOf g (M++[r])++[some (paT g e.1 e.2)]=partsOf g (M++[r++[e]])
  rw [parts_snoc,parts_snoc,List.append_assoc]
  refine congrArg (preP g M++·) ?_
  unfold segP
  rw [List.map_append,List.map_append]
  rfl
 | none=>
  show addStar (partsOf g (M++[r]))=partsOf g (if (!r.isEmpty||M.isEmpty)=true then M++[r]++[[]] else M++[r])
  unfold addStar
  rcases List.eq_nil_or_concat r with rfl | ⟨r',e,rfl⟩
  ·cases M with
   | nil=>rfl
   | cons s M=>
    have h:partsOf g ((s::M)++[[]])=partsOf g (s::M)++[none]:=(parts_snoc g (s::M) []).trans (List.append_nil _)
    rw [h,List.getLast?_concat,if_pos rfl]
    exact h.symm
  ·rw [List.concat_eq_append]
   have hl:(partsOf g (M++[r'++[e]])).getLast? =some (some (paT g e.1 e.2)):=by
    rw [parts_snoc]
    unfold segP
    rw [List.map_append,List.map_append,←List.append_assoc]
    exact List.getLast?_concat
   have hb:(!(r'++[e]).isEmpty||M.isEmpty)=true:=by cases r'<;>rfl
   rw [hl,if_neg (fun q=>nomatch q),if_pos hb,parts_snoc g (M++[r'++[e]]) []]
   have hM:preP g (M++[r'++[e]])=partsOf g (M++[r'++[e]])++[none]:=if_neg (by cases M<;>exact Bool.false_ne_true)
   rw [hM]
   exact (List.append_nil _).symm
theorem abs_ne {A:List (List Ent)} (hA:A≠[]) (o:Option Ent):absN A o≠[]:=by
 obtain ⟨M,r,rfl⟩:=ne_concat hA
 rw [absN_eq]
 cases o with
 | some e=>exact List.append_ne_nil_of_right_ne_nil _ (List.cons_ne_nil _ _)
 | none=>
  show (if (!r.isEmpty||M.isEmpty)=true then M++[r]++[[]] else M++[r])≠[]
  split
  ·exact List.append_ne_nil_of_right_ne_nil _ (List.cons_ne_nil _ _)
  ·exact hA
theorem parts_all (g:Nat):∀(os:List (Option Ent)) {A:List (List Ent)},A≠[]→(pcsO g os).foldl stp (partsOf g A)=partsOf g (absAll A os)
 | [],_,_=>rfl
 | o::os,A,hA=>by
  show (pcsO g os).foldl stp (stp (partsOf g A) (o.map fun e=>(pcT g e.1 e.2,paT g e.1 e.2)))=partsOf g (absAll (absN A o) os)
  rw [parts_step g hA,parts_all g os (abs_ne hA o)]
theorem abs_all {n:Nat}:∀(os:List (Option Ent)) {A:List (List Ent)} {n:Nat},AbsOK A n→(∀e,some e∈os→e.1 < 8∧e.2 < 4)→AbsOK (absAll A os) (n+os.length)
 | [],_,_,h,_=>h
 | o::os,A,n,h,ho=>by
  have:=abs_all (n:=n) os (abs_ok h fun e he=>ho e (he ▸ List.mem_cons_self)) fun e he=>ho e (List.mem_cons_of_mem _ he)
  rw [Nat.add_assoc,Nat.add_comm 1] at this
  exact this
noncomputable def MidOK (A:List (List Ent)):Prop:=∀s∈A.dropLast.tail,s≠[]
theorem mid_step {A:List (List Ent)} (hA:A≠[]) (h:MidOK A) (o:Option Ent):MidOK (absN A o):=by
 obtain ⟨M,r,rfl⟩:=ne_concat hA
 unfold MidOK at *
 rw [List.dropLast_concat] at h
 rw [absN_eq]
 cases o with
 | some e=>
  show ∀s∈(M++[r++[e]]).dropLast.tail,s≠[]
  rwa [List.dropLast_concat]
 | none=>
  show ∀s∈(if (!r.isEmpty||M.isEmpty)=true then M++[r]++[[]] else M++[r]).dropLast.tail,s≠[]
  by_cases hb:(!r.isEmpty||M.isEmpty)=true
  ·rw [if_pos hb,List.dropLast_concat]
   cases M with
   | nil=>exact fun _ h=>nomatch h
   | cons x M=>
    intro s hs
    rcases List.mem_append.mp (show s∈M++[r] from hs) with hs | hs
    ·exact h s hs
    ·rw [List.mem_singleton.mp hs]
     intro e
     rw [e] at hb
     cases hb
  ·rw [if_neg hb,List.dropLast_concat]
   exact h
theorem mid_all:∀(os:List (Option Ent)) {A:List (List Ent)},A≠[]→MidOK A→MidOK (absAll A os)
 | [],_,_,h=>h
 | o::os,A,hA,h=>mid_all os (abs_ne hA o) (mid_step hA h o)
noncomputable def flO (g:Nat) (s:List Ent):List Nat:=(segP g s).flatten
theorem segOut_snoc:∀(N:List Seg) (l:Seg),segOut (N++[l])=(N.map List.flatten).flatMap wrp++(y2++l.flatten)
 | [],l=>rfl
 | s::N,l=>by
  obtain ⟨t,r,e⟩:∃t r,N++[l]=t::r:=List.exists_cons_of_ne_nil (List.append_ne_nil_of_right_ne_nil _ (List.cons_ne_nil _ _))
  rw [List.cons_append,e,segOut,←e,segOut_snoc N l,List.map_cons,List.flatMap_cons]
  unfold wrp y6
  rw [List.append_assoc (_++_++[41])]
theorem segOK_of:∀{l:List Seg},(∀s∈l.dropLast,s≠[])→SegOK l
 | [],_=>trivial
 | [_],_=>trivial
 | s::t::r,h=>⟨h s List.mem_cons_self,segOK_of fun x hx=>h x (List.mem_cons_of_mem _ hx)⟩
noncomputable def hsO (g:Nat) (A:List (List Ent)):List (List Nat):=A.tail.dropLast.map (flO g)
noncomputable def loO (g:Nat) (A:List (List Ent)):Option (List Nat):=A.tail.getLast?.map (flO g)
noncomputable def tO (g:Nat) (A:List (List Ent)):List Nat:=flO g (A.headD [])
noncomputable def midO (g:Nat) (A:List (List Ent)):List Nat:=txtT (tO g A) (hsO g A) (loO g A)
theorem drop_last_toList {α:Type} (l:List α):l.dropLast++l.getLast?.toList=l:=by
 rcases List.eq_nil_or_concat l with rfl | ⟨M,r,rfl⟩
 ·rfl
 ·rw [List.concat_eq_append,List.dropLast_concat,List.getLast?_concat]
  rfl
theorem all_rows (g:Nat) {A:List (List Ent)} (hA:A≠[]):tO g A::(hsO g A++(loO g A).toList)=A.map (flO g):=by
 obtain ⟨s,r,rfl⟩:=List.exists_cons_of_ne_nil hA
 show flO g s::(r.dropLast.map (flO g)++(r.getLast?.map (flO g)).toList)=flO g s::r.map (flO g)
 have e:(r.getLast?.map (flO g)).toList=r.getLast?.toList.map (flO g):=by cases r.getLast? <;>rfl
 rw [e,←List.map_append,drop_last_toList]
theorem seg_out (g:Nat) (s:List Ent) (r:List (List Ent)):(segP g s).flatten++segOut (r.map (segP g))=midT (tO g (s::r)) (hsO g (s::r)) (loO g (s::r)):=by
 rcases List.eq_nil_or_concat r with rfl | ⟨M,l,rfl⟩
 ·show _++[]=(_++[]++[]:List Nat)
  rw [List.append_nil,List.append_nil,List.append_nil]
  rfl
 ·rw [List.concat_eq_append]
  have e1:hsO g (s::(M++[l]))=M.map (flO g):=by
   unfold hsO
   show (M++[l]).dropLast.map _=_
   rw [List.dropLast_concat]
  have e2:loO g (s::(M++[l]))=some (flO g l):=by
   unfold loO
   show (M++[l]).getLast?.map _=_
   rw [List.getLast?_concat]
   rfl
  rw [e1,e2,List.map_append]
  show _++segOut (M.map (segP g)++[segP g l])=_
  rw [segOut_snoc,List.map_map]
  unfold midT
  rw [List.append_assoc]
  rfl
section
variable {g:Nat} {s:List Ent} {A:List (List Ent)}
theorem pa_le (hg:g < 6) (hs:EntOK s):∀q∈segP g s,goodP y6 q=true∧goodP y2 q=true∧q.length≤40:=fun q hq=>by
 obtain ⟨e,he,rfl⟩:=List.mem_map.mp hq
 obtain ⟨_,h1,h2,h3⟩:=se_ok hg (hs e he).1 (hs e he).2
 exact ⟨h1,h2,h3⟩
theorem fl_GT (hg:g < 6) (hs:EntOK s) (hl:s.length≤6):GT (flO g s)∧(flO g s).length≤900:=by
 refine ⟨flat_GT fun p hp=>⟨(pa_le hg hs p hp).1,(pa_le hg hs p hp).2.1⟩,?_⟩
 have h:=sum_le 40 ((segP g s).map List.length) fun x hx=>by
  obtain ⟨q,hq,rfl⟩:=List.mem_map.mp hx
  exact (pa_le hg hs q hq).2.2
 rw [List.length_map] at h
 unfold flO
 rw [List.length_flatten]
 have:(segP g s).length≤6:=by unfold segP;rw [List.length_map];exact hl
 exact Nat.le_trans h (Nat.le_trans (Nat.mul_le_mul_right 40 this) (by decide))
theorem mem_rows (hA:A≠[]) {t:List Nat} (h:t∈tO g A::(hsO g A++(loO g A).toList)):∃s∈A,flO g s=t:=by
 rw [all_rows g hA] at h
 exact List.mem_map.mp h
theorem hs_le (h:AbsOK A 6):(hsO g A).length≤30:=by
 unfold hsO
 rw [List.length_map,List.length_dropLast,List.length_tail]
 have:=h.len
 lia
theorem mid_le (hg:g < 6) (h:AbsOK A 6):(midT (tO g A) (hsO g A) (loO g A)).length≤90000:=by
 have hT:∀t∈tO g A::(hsO g A++(loO g A).toList),t.length≤900:=fun t ht=>by
  obtain ⟨s,hs,rfl⟩:=mem_rows h.ne ht
  exact (fl_GT hg (h.ent s hs) (h.ln s hs)).2
 have h1:=hT _ List.mem_cons_self
 have h2:((hsO g A).flatMap wrp).length≤30 * 907:=by
  have hs2:=sum_le 907 ((hsO g A).map fun t=>(wrp t).length) fun x hx=>by
   obtain ⟨t,ht,rfl⟩:=List.mem_map.mp hx
   have:=hT t (List.mem_cons_of_mem _ (List.mem_append_left _ ht))
   unfold wrp
   rw [List.length_append,List.length_append]
   exact Nat.add_le_add_right (Nat.add_le_add_left this 6) 1
  rw [List.length_map] at hs2
  rw [List.length_flatMap]
  exact Nat.le_trans hs2 (Nat.mul_le_mul_right 907 (hs_le h))
 have h3:(ltx (loO g A)).length≤902:=by
  cases hl:loO g A with
  | none=>exact Nat.zero_le _
  | some t=>
   have:=hT t (List.mem_cons_of_mem _ (List.mem_append_right _ (by rw [hl];exact List.mem_singleton.mpr rfl)))
   show (y2++t).length≤902
   rw [List.length_append]
   exact Nat.add_le_add_left this 2
 unfold midT
 rw [List.length_append,List.length_append]
 exact Nat.le_trans (Nat.add_le_add (Nat.add_le_add h1 h2) h3) (by decide)
end
theorem join_A {X:Cx} {d:Nat} {cd:Value} {ql:PySem.Str} (G:Glo X) {g:Nat} {A:List (List Ent)} (hg:g < 6) (h:AbsOK A 6) (hm:MidOK A) (a:Addr):
  runF (WJoin.joinS (X:=X) (d:=d) (cd:=cd) (ql:=ql) G).1 7 [.list ((partsOf g A).map (pvO a)),.obj a]=some (.str (S (midO g A))):=by
 obtain ⟨s,r,rfl⟩:=List.exists_cons_of_ne_nil h.ne
 have hq:∀s'∈s::r,(segP g s').length≤8∧∀q∈segP g s',q.length≤100:=fun s' hs=>⟨by unfold segP;rw [List.length_map];exact Nat.le_trans (h.ln s' hs) (by decide),fun q hq=>Nat.le_trans (pa_le hg (h.ent s' hs) q hq).2.2 (by decide)⟩
 have hrl:r.length≤6:=Nat.le_of_succ_le_succ h.len
 have hlen:((segP g s).map some++(r.map (segP g)).flatMap segO).length≤100:=by
  rw [List.length_append,List.length_map,List.length_flatMap,List.map_map]
  have h1:=sum_le 9 (r.map ((fun x=>(segO x).length) ∘ segP g)) fun x hx=>by
   obtain ⟨t,ht,rfl⟩:=List.mem_map.mp hx
   show (none::(segP g t).map some).length≤9
   rw [List.length_cons,List.length_map]
   exact Nat.succ_le_succ (hq t (List.mem_cons_of_mem _ ht)).1
  rw [List.length_map] at h1
  exact Nat.le_trans (Nat.add_le_add (hq s List.mem_cons_self).1 (Nat.le_trans h1 (Nat.mul_le_mul_right 9 hrl))) (by decide)
 have hok:SegOK (r.map (segP g)):=segOK_of fun x hx=>by
  rw [←List.map_dropLast] at hx
  obtain ⟨t,ht,rfl⟩:=List.mem_map.mp hx
  have:t∈(s::r).dropLast.tail:=by
   cases r with
   | nil=>cases ht
   | cons y r=>exact ht
  exact fun e=>hm t this (List.map_eq_nil_iff.mp e)
 have hJ:=join_run1 (X:=X) (d:=d) (cd:=cd) (ql:=ql) G (a:=a) (s0:=segP g s) (segs:=r.map (segP g)) (hq s List.mem_cons_self).1 (hq s List.mem_cons_self).2 hok (fun x hx=>by
  obtain ⟨t,ht,rfl⟩:=List.mem_map.mp hx
  exact hq t (List.mem_cons_of_mem _ ht)) (by rw [List.length_map];exact Nat.le_trans hrl (by decide)) hlen
 rw [seg_out] at hJ
 exact hJ
theorem rows_A {X:Cx} {d:Nat} {cd:Value} {ql:PySem.Str} (G:Glo X) {fSets:Addr} {mSets:List PV→Option PV} (hSets:CallW X d fSets mSets) (gSets:X.mg "_law_sets"=some (.ref fSets)) (oSets:∃o fd,X.B.get? fSets=some o∧o.data=.func fd)
  {g:Nat} {A:List (List Ent)} (hg:g < 6) (h:AbsOK A 6) (hm:∀ps:SPs,SPsOK (sgn g) ps→(spT ps).length≤900→ps.length≤100→mSets [.str (S (spT ps)),.str (S (sgn g))]=some (.list ((ps.map (·.2)).map fun q=>.str (S q)))):
  runF (WRows.rowsS (X:=X) (d:=d) (cd:=cd) (ql:=ql) G hSets gSets oSets).1 6 [.str (S (midO g A)),.str (S (sgn g))]=some (.list (pvR (A.map (rowOf g)))):=by
 have hS:∀s∈A,mSets [.str (S (flO g s)),.str (S (sgn g))]=some (.list (pvS (rowOf g s))):=fun s hs=>by
  have h1:=hm (s.map fun e=>(paT g e.1 e.2,itm g e.1)) (fun p it hp=>by
   obtain ⟨e,he,heq⟩:=List.mem_map.mp hp
   cases heq
   exact (se_ok hg (h.ent s hs e he).1 (h.ent s hs e he).2).1)
  have e1:spT (s.map fun e=>(paT g e.1 e.2,itm g e.1))=flO g s:=by
   unfold spT flO segP
   rw [List.flatMap_map,List.flatMap_def]
  have e2:(s.map fun e=>(paT g e.1 e.2,itm g e.1)).map (·.2)=rowOf g s:=by
   unfold rowOf
   rw [List.map_map]
   rfl
  rw [e1,e2,List.length_map] at h1
  exact h1 (fl_GT hg (h.ent s hs) (h.ln s hs)).2 (Nat.le_trans (h.ln s hs) (by decide))
 have hT:∀t∈tO g A::(hsO g A++(loO g A).toList),GT t∧t.length≤900:=fun t ht=>by
  obtain ⟨s,hs,rfl⟩:=mem_rows h.ne ht
  exact fl_GT hg (h.ent s hs) (h.ln s hs)
 have hr:=rows_run1 (X:=X) (d:=d) (cd:=cd) (ql:=ql) G hSets gSets oSets (T:=tO g A) (sg:=sgn g) (hs:=hsO g A) (lo:=loO g A) (rv:=fun t=>(mSets [.str (S t),.str (S (sgn g))]).getD .none) (fun hl=>by
  have:A.tail=[]:=List.getLast?_eq_none_iff.mp (Option.map_eq_none_iff.mp hl)
  unfold hsO
  rw [this]
  rfl) (hs_le h) (mid_le hg h) (hT _ List.mem_cons_self) (fun t ht=>hT t (List.mem_cons_of_mem _ (List.mem_append_left _ ht))) (fun t ht=>hT t (List.mem_cons_of_mem _ (List.mem_append_right _ (Option.mem_toList.mpr ht)))) fun t ht=>by
   obtain ⟨s,hs,rfl⟩:=mem_rows h.ne ht
   rw [hS s hs]
   rfl
 rw [all_rows g h.ne,List.map_map] at hr
 refine hr.trans (congrArg (fun l=>some (PV.list l)) ?_)
 unfold pvR
 rw [List.map_map]
 refine List.map_congr_left fun s hs=>?_
 show (mSets [.str (S (flO g s)),.str (S (sgn g))]).getD .none=_
 rw [hS s hs]
 rfl
theorem rev_L {xs:List PV} (h:xs.length≤6):pySlice (.list xs) none none (some (-1))=some (.list xs.reverse):=match xs,h with
 | [],_=>by kernel_rfl
 | [_],_=>by kernel_rfl
 | [_,_],_=>by kernel_rfl
 | [_,_,_],_=>by kernel_rfl
 | [_,_,_,_],_=>by kernel_rfl
 | [_,_,_,_,_],_=>by kernel_rfl
 | [_,_,_,_,_,_],_=>by kernel_rfl
 | _::_::_::_::_::_::_::l,h=>absurd h (by simp only [List.length_cons];lia)
theorem foldl_min {x:Int}:∀{l:List Int},(∀y∈l,x≤y)→l.foldl min x=x
 | [],_=>rfl
 | y::l,h=>by
  rw [List.foldl_cons,Int.min_eq_left (h y List.mem_cons_self)]
  exact foldl_min fun z hz=>h z (List.mem_cons_of_mem _ hz)
theorem min_nats {re:List Nat} (hs:re.Pairwise (· < ·)) (hne:re≠[]):pyMin [.list (natsP re)]=some (.int ((mn re:Nat):Int)):=by
 obtain ⟨x,l,rfl⟩:=List.exists_cons_of_ne_nil hne
 have e:natsP (x::l)=((x::l).map fun (k:Nat)=>(k:Int)).map PV.int:=by rw [List.map_map];rfl
 have h2:((x::l).map fun (k:Nat)=>(k:Int)).min? =some (x:Int):=by
  rw [List.map_cons,List.min?_cons']
  refine congrArg some (foldl_min fun y hy=>?_)
  obtain ⟨z,hz,rfl⟩:=List.mem_map.mp hy
  exact Int.ofNat_le.mpr (Nat.le_of_lt ((List.pairwise_cons.mp hs).1 z hz))
 rw [e]
 show (match allOf asInt (((x::l).map fun (k:Nat)=>(k:Int)).map PV.int) with
  | some ss=>match ss.min? with
   | some m=>some (PV.int m)
   | none=>none
  | none=>none)=_
 rw [allOf_ints]
 show (match ((x::l).map fun (k:Nat)=>(k:Int)).min? with
  | some m=>some (PV.int m)
  | none=>none)=_
 rw [h2]
 rfl
theorem pe_01:∀{l:List Int},(∀x∈l,x=0∨x=1)→0≤pe l∧pe l < 256 ^ l.length
 | [],_=>⟨Int.le_refl 0,by decide⟩
 | x::l,h=>by
  obtain ⟨h1,h2⟩:=pe_01 (l:=l) fun y hy=>h y (List.mem_cons_of_mem _ hy)
  rw [pe,List.length_cons,Int.pow_succ]
  rcases h x List.mem_cons_self with rfl | rfl<;>constructor<;>lia
theorem ints_same (l:List Int):cmpOp .NotEq (.list (intsP l)) (.list (intsP l))=some false:=by
 show (pyEq _ _).map (!·)=_
 rw [pyEq_ints,decide_eq_true rfl]
 rfl
noncomputable def RS (b0 b1 b2:Bind) (g:Nat) (name pat:List Nat) (rows:List Row) (b7 b8 b9 b10 b11 b12 b13 b14 b15 b16 b17 b18:Bind):St:=[b0,b1,b2,fS (sgn g),fS name,fS pat,.froz (.list (pvR rows)),b7,b8,b9,b10,b11,b12,b13,b14,b15,b16,b17,b18]
section
variable {b0 b1 b2 b7 b8 b9 b10 b11 b12 b13 b14 b15 b16 b17 b18:Bind} {g k:Nat} {name pat:List Nat} {rows:List Row} {r:Row} {re:List Nat}
theorem uRows_do {mR mT:List PV→Option PV} {text:PV} (h1:mT [.str (S pat)]=some text) (h2:mR [text,.str (S (sgn g))]=some (.list (pvR rows))):Do (uRows mR mT) (RS b0 b1 b2 g name pat rows b7 b8 b9 b10 b11 b12 b13 b14 b15 b16 b17 b18) (RS b0 b1 b2 g name pat rows b7 b8 b9 b10 (.froz (.list (pvR rows))) b12 b13 b14 b15 b16 b17 b18):=
 D_set (q_F (q_A2 (h:=kN 0) (q_F (q_A1 (q_N rfl)) h1) (q_N rfl)) h2) rfl
theorem len_R {i:Nat} {st:St} (hr:rows.length≤100) (h:st[i]? =some (.froz (.list (pvR rows)))):Ev (kLen i) st (.int (rows.length:Int)):=q_Len h ((len_L _ (by rw [pvR,List.length_map];exact Nat.lt_of_le_of_lt hr (by decide))).trans (by rw [pvR,List.length_map]))
theorem uLen_do (hr:rows.length≤100):Do uLen (RS b0 b1 b2 g name pat rows b7 b8 b9 b10 (.froz (.list (pvR rows))) b12 b13 b14 b15 b16 b17 b18) (RS b0 b1 b2 g name pat rows b7 b8 b9 b10 (.froz (.list (pvR rows))) b12 b13 b14 b15 b16 b17 b18):=
 D_IfF (q_Cmp (len_R hr rfl) (len_R hr rfl) (congrArg some (bne_self_eq_false _))) D_nil
noncomputable def NumOK (mN:List PV→Option PV):Prop:=∀fs:List Int,(fs.length=6∧∀x∈fs,x=0∨x=1)∨(fs.length≤6∧∀x∈fs,x=1∨x= -1)→mN [.list (intsP fs)]=some (.int (pe fs))
theorem uSpots_do {mN:List PV→Option PV} (hN:NumOK mN) (hg:g < 6) (hn:name.length=6):Do (uSpots mN) (RS b0 b1 b2 g name pat rows b7 b8 b9 b10 b11 b12 b13 b14 b15 b16 b17 b18) (RS b0 b1 b2 g name pat rows b7 b8 b9 b10 b11 (.froz (.list (intsP ((sgn g).map (spO name))))) b13 b14 b15 b16 b17 b18):=by
 have h:=compV_all (n:=1) (i:=0) (e:=kF mN (kA1 (compE [0] (kN 1) (compV 1 0 kTT (kIf (kCmp .Eq (kN 0) (kN 1)) (kI 1) (kI 0)))))) (ps:=[.str (S name)]) (l:=sgn g) C (fun s=>.int (spO name s)) (by rw [sgn_len hg];decide) fun s _=>by
  have h1:=compV_all (n:=1) (i:=0) (e:=kIf (kCmp .Eq (kN 0) (kN 1)) (kI 1) (kI 0)) (ps:=[C s]) (l:=name) C (fun c=>.int (if c=s then 1 else 0)) (by rw [hn];decide) fun c _=>by
   have ht:=q_Cmp (op:=.Eq) (q_N (i:=0) (st:=[.froz (C c),.froz (C s)]) rfl) (q_N (i:=1) rfl) (eq_one c s)
   by_cases q:c=s
   ·rw [if_pos q]
    rw [decide_eq_true q] at ht
    exact q_IfT ht q_I
   ·rw [if_neg q]
    rw [decide_eq_false q] at ht
    exact q_IfF ht q_I
  have e:(name.map fun c=>PV.int (if c=s then 1 else 0))=intsP (name.map fun c=>if c=s then 1 else 0):=by
   show _=List.map _ _
   rw [List.map_map]
   rfl
  rw [e] at h1
  refine q_F (q_A1 (r_comp (r_cap1 rfl) (q_N rfl) (items_S name) h1)) (hN _ (.inl ⟨by rw [List.length_map,hn],fun x hx=>?_⟩))
  obtain ⟨c,_,rfl⟩:=List.mem_map.mp hx
  by_cases q:c=s
  ·exact .inr (if_pos q)
  ·exact .inl (if_neg q)
 have e:((sgn g).map fun s=>PV.int (spO name s))=intsP ((sgn g).map (spO name)):=by
  show _=List.map _ _
  rw [List.map_map]
  rfl
 rw [e] at h
 exact D_set (r_comp (r_cap1 rfl) (q_N rfl) (items_S (sgn g)) h) rfl
theorem uReach_do:Do uReach (RS b0 b1 b2 g name pat rows b7 b8 b9 b10 b11 b12 b13 b14 b15 b16 b17 b18) (RS b0 b1 b2 g name pat rows b7 b8 b9 b10 b11 b12 (.froz (.list (natsP [0]))) b14 b15 b16 b17 b18):=D_set (q_L (ints_L [0]) (by decide:1≤1000)) rfl
theorem row_ev {i:Nat} {st:St} {e:EvE} (hr:rows.length≤100) (hk:rows[k]? =some r) (h:st[i]? =some (.froz (.list (pvR rows)))) (h2:Ev e st (.int (k:Int))):Ev (kIt (kN i) e) st (.list (pvS r)):=
 q_It (q_N h) h2 (item_L _ k _ (by rw [pvR,List.getElem?_map,hk];rfl) (by rw [pvR,List.length_map];exact Nat.le_trans hr (by decide)))
theorem uSz_do (hr:rows.length≤100) (hk:rows[k]? =some r) (hl:r.length≤100):Do uSz (RS b0 b1 b2 g name pat rows b7 b8 b9 b10 b11 b12 b13 (fN k) b15 b16 b17 b18) (RS b0 b1 b2 g name pat rows b7 b8 b9 b10 b11 b12 b13 (fN k) (fN r.length) (.froz (.int 0)) b17 b18):=by
 have e:Ev (kV (kLn (kIt (kN 6) (kN 14))) (kV (kI 0) (pureE []))) (RS b0 b1 b2 g name pat rows b7 b8 b9 b10 b11 b12 b13 (fN k) b15 b16 b17 b18) [.froz (.int (r.length:Int)),.froz (.int 0)]:=q_V (ln_ev hl (row_ev hr hk rfl (q_N rfl))) (q_V (g:=pureE []) q_I rfl)
 unfold Do uSz tupF
 rw [run_bind e rfl]
 rfl
end
noncomputable def FigOK (mF:List PV→Option PV):Prop:=∀cs:List Int,(∀x∈cs,-128≤x∧x≤127)→cs.length≤100→mF [.int (pe cs),.int (cs.length:Int)]=some (.list (intsP cs))
noncomputable def LyOK (mY:List PV→Option PV):Prop:=∀(row:Row) (name:List Nat),row.length≤100→name.length≤100→mY [.list (pvS row),.str (S name)]=some (.list (intsP (lyF name row)))
noncomputable def sq (g j:Nat):Nat:=(sgn g).getD j 0
noncomputable def sgChk (g m d:Nat):Bool:=decide (sq g 0≠sq g 1∧sq g 0≠sq g 2∧sq g 1≠sq g 2)
theorem sg_all:all3 sgChk=true:=by kernel_rfl
theorem sg_ne {g:Nat} (hg:g < 6):sq g 0≠sq g 1∧sq g 0≠sq g 2∧sq g 1≠sq g 2:=of_decide_eq_true (all3_of sg_all hg (by decide:0 < 8) (by decide:0 < 4))
theorem mul_I (a b:Int) (h:a.natAbs < 2 ^ 64):binOp .Mult (.int a) (.int b)=some (.int (a * b)):=if_pos h
theorem sp_lt {name:List Nat} (hn:name.length=6) (s:Nat):(spO name s).natAbs < 2 ^ 64:=by
 obtain ⟨h1,h2⟩:=pe_01 (l:=name.map fun c=>if c=s then 1 else 0) fun x hx=>by
  obtain ⟨c,_,rfl⟩:=List.mem_map.mp hx
  by_cases q:c=s
  ·exact .inr (if_pos q)
  ·exact .inl (if_neg q)
 rw [List.length_map,hn] at h2
 have h3:(256:Int) ^ 6 < 2 ^ 64:=by decide
 show (pe _).natAbs < 2 ^ 64
 lia
section
variable {b0 b1 b2 b7 b8 b9 b10 b11 b12 b13 b14 b15 b16 b17 b18:Bind} {g k j:Nat} {name pat:List Nat} {rows:List Row} {r:Row} {re:List Nat} {t:Int}
noncomputable abbrev spB (g:Nat) (name:List Nat):Bind:=.froz (.list (intsP ((sgn g).map (spO name))))
theorem uNum_ev {mN:List PV→Option PV} (hN:NumOK mN) (hg:g < 6) (hj:j < 3) (hr:rows.length≤100) (hk:rows[k]? =some r) (hl:r.length≤6):Ev (uNum mN) (RS b0 b1 b2 g name pat rows b7 b8 (fN j) b10 b11 b12 b13 (fN k) b15 b16 b17 b18) (.int (nmO r.reverse (sq g j))):=by
 have h1:=compV_all (n:=1) (i:=0) (e:=kIf (kCmp .In (kIt (kN 2) (kN 1)) (kN 0)) (kI 1) (kNg 1)) (ps:=[.int (j:Int),.str (S (sgn g))]) (l:=r.reverse) (fun it=>.str (S it)) (fun it=>.int (sgI (decide (sq g j∈it)))) (by rw [List.length_reverse];exact Nat.le_trans hl (by decide)) fun it _=>by
  have ht:=q_Cmp (op:=.In) (q_It (q_N (i:=2) (st:=[.froz (.str (S it)),.froz (.int (j:Int)),.froz (.str (S (sgn g)))]) rfl) (q_N (i:=1) rfl) (item_S (sgn g) j (sq g j) (getD_some 0 (by rw [sgn_len hg];exact hj)) (by rw [sgn_len hg];decide))) (q_N (i:=0) rfl) (in_S (sq g j) it)
  cases hd:decide (sq g j∈it) with
  | true=>
   rw [hd] at ht
   exact q_IfT ht q_I
  | false=>
   rw [hd] at ht
   exact q_IfF ht q_Ng
 have e:(r.reverse.map fun it=>PV.int (sgI (decide (sq g j∈it))))=intsP (r.reverse.map fun it=>sgI (decide (sq g j∈it))):=by
  show _=List.map _ _
  rw [List.map_map]
  rfl
 rw [e] at h1
 have h2:Ev (kRev (kIt (kN 6) (kN 14))) (RS b0 b1 b2 g name pat rows b7 b8 (fN j) b10 b11 b12 b13 (fN k) b15 b16 b17 b18) (.list (pvS r.reverse)):=by
  have:=rev_L (xs:=pvS r) (by rw [List.length_map];exact hl)
  rw [←List.map_reverse] at this
  exact run_bind (row_ev hr hk rfl (q_N rfl)) (run_bind rfl (run_bind rfl (run_bind (q_As q_Ng rfl) (run_lift this))))
 refine q_F (q_A1 (r_comp (r_cap2 rfl rfl) h2 rfl h1)) (hN _ (.inr ⟨by rw [List.length_map,List.length_reverse];exact hl,fun x hx=>?_⟩))
 obtain ⟨it,_,rfl⟩:=List.mem_map.mp hx
 cases decide (sq g j∈it)
 ·exact .inr rfl
 ·exact .inl rfl
theorem uAdd_do {mN:List PV→Option PV} (hN:NumOK mN) (hg:g < 6) (hn:name.length=6) (hj:j < 3) (hr:rows.length≤100) (hk:rows[k]? =some r) (hl:r.length≤6):
  Do (uAdd mN) (RS b0 b1 b2 g name pat rows b7 b8 (fN j) b10 b11 (spB g name) b13 (fN k) b15 (.froz (.int t)) b17 b18) (RS b0 b1 b2 g name pat rows b7 b8 (fN j) b10 b11 (spB g name) b13 (fN k) b15 (.froz (.int (t+spO name (sq g j) * nmO r.reverse (sq g j)))) b17 b18):=by
 have hi:pyItem (.list (intsP ((sgn g).map (spO name)))) (.int (j:Int))=some (.int (spO name (sq g j))):=item_L _ j _ (by rw [List.getElem?_map,List.getElem?_map,getD_some 0 (by rw [sgn_len hg];exact hj)];rfl) (by rw [List.length_map,List.length_map,sgn_len hg];decide)
 exact D_one (D_aug rfl (q_Bin (q_It (q_N rfl) (q_N rfl) hi) (uNum_ev hN hg hj hr hk hl) (mul_I _ _ (sp_lt hn _))) rfl rfl)
theorem uSum_do {mN:List PV→Option PV} (hN:NumOK mN) (hg:g < 6) (hn:name.length=6) (hc:∀c∈name,c=sq g 0∨c=sq g 1∨c=sq g 2) (hr:rows.length≤100) (hk:rows[k]? =some r) (hl:r.length≤6):
  Do (dFor 9 (kRng (kI 3)) (uAdd mN)) (RS b0 b1 b2 g name pat rows b7 b8 b9 b10 b11 (spB g name) b13 (fN k) b15 (.froz (.int 0)) b17 b18) (RS b0 b1 b2 g name pat rows b7 b8 (fN 2) b10 b11 (spB g name) b13 (fN k) b15 (.froz (.int (pe (lyF name r)))) b17 b18):=by
 obtain ⟨n1,n2,n3⟩:=sg_ne hg
 have e:=tot_ly n1 n2 n3 hc r.reverse
 rw [List.reverse_reverse] at e
 have e2:(0:Int)+spO name (sq g 0) * nmO r.reverse (sq g 0)+spO name (sq g 1) * nmO r.reverse (sq g 1)+spO name (sq g 2) * nmO r.reverse (sq g 2)=pe (lyF name r):=by rw [Int.zero_add];exact e
 rw [←e2]
 exact D_forE (rng_ev (q_I (n:=((3:Nat):Int)))) (rng_items (by decide)) (D_fcons (uAdd_do (j:=0) hN hg hn (by decide) hr hk hl) (D_fcons (uAdd_do (j:=1) hN hg hn (by decide) hr hk hl) (D_fcons (uAdd_do (j:=2) hN hg hn (by decide) hr hk hl) rfl)))
theorem ly_len (name:List Nat) (r:Row):(lyF name r).length=name.length+r.length:=by unfold lyF;rw [List.length_map,List.length_range]
theorem uFig_do {mF:List PV→Option PV} (hF:FigOK mF) (hn:name.length=6) (hl:r.length≤6):Do (uFig mF) (RS b0 b1 b2 g name pat rows b7 b8 b9 b10 b11 b12 b13 b14 (fN r.length) (.froz (.int (pe (lyF name r)))) b17 b18) (RS b0 b1 b2 g name pat rows b7 b8 b9 b10 b11 b12 b13 b14 (fN r.length) (.froz (.int (pe (lyF name r)))) (.froz (.list (intsP (lyF name r)))) b18):=by
 have h:=hF (lyF name r) (fun x hx=>by
  obtain ⟨p,_,rfl⟩:=List.mem_map.mp hx
  exact lyC_le (Nat.le_trans hl (by decide)) p) (by rw [ly_len,hn];exact Nat.le_trans (Nat.add_le_add_left hl 6) (by decide))
 rw [ly_len,hn] at h
 exact D_set (q_F (q_A2 (h:=kN 0) (q_N rfl) (q_Bin q_I (q_N rfl) (fN_add 6 r.length))) h) rfl
theorem uChk_do {mY:List PV→Option PV} (hY:LyOK mY) (hn:name.length=6) (hr:rows.length≤100) (hk:rows[k]? =some r) (hl:r.length≤6):Do (uChk mY) (RS b0 b1 b2 g name pat rows b7 b8 b9 b10 (.froz (.list (pvR rows))) b12 b13 (fN k) b15 b16 (.froz (.list (intsP (lyF name r)))) b18) (RS b0 b1 b2 g name pat rows b7 b8 b9 b10 (.froz (.list (pvR rows))) b12 b13 (fN k) b15 b16 (.froz (.list (intsP (lyF name r)))) b18):=
 D_IfF (q_Cmp (q_N rfl) (q_F (q_A2 (h:=kN 0) (row_ev hr hk rfl (q_N rfl)) (q_N rfl)) (hY r name (Nat.le_trans hl (by decide)) (by rw [hn];decide))) (ints_same _)) D_nil
theorem nats_ne0 (l:List Nat):cmpOp .NotEq (.list (natsP l)) (.list [])=some (!l.isEmpty):=by
 have e:natsP l=(l.map fun (k:Nat)=>(k:Int)).map .int:=by rw [List.map_map];rfl
 rw [e,ints_ne]
 cases l<;>rfl
noncomputable def plP (k:Nat) (re:List Nat):PV:=if k>0∧re≠[] then .range ((mn re:Nat):Int) 7 1 else .list (natsP re)
noncomputable def plN (k:Nat) (re:List Nat):List Nat:=if k>0∧re≠[] then List.range' (mn re) (7 - mn re) else re
theorem pl_items (hm:mn re≤1000):itemsOf (plP k re)=some ((plN k re).map fun (j:Nat)=>PV.int (j:Int)):=by
 unfold plP plN
 by_cases h:k>0∧re≠[]
 ·rw [if_pos h,if_pos h]
  have:=range2_items (a:=mn re) (z:=0) (L:=6) (by decide) hm (by decide)
  rwa [Nat.zero_add] at this
 ·rw [if_neg h,if_neg h]
  rfl
theorem uPlc_do (hs:re.Pairwise (· < ·)):Do uPlc (RS b0 b1 b2 g name pat rows b7 b8 b9 b10 b11 b12 (.froz (.list (natsP re))) (fN k) b15 b16 b17 b18) (RS b0 b1 b2 g name pat rows b7 b8 b9 b10 b11 b12 (.froz (.list (natsP re))) (fN k) b15 b16 b17 (.froz (plP k re))):=by
 refine D_set ?_ rfl
 have hG:Ev (kCmp .Gt (kN 14) (kI 0)) (RS b0 b1 b2 g name pat rows b7 b8 b9 b10 b11 b12 (.froz (.list (natsP re))) (fN k) b15 b16 b17 b18) (decide (0 < k)):=q_Cmp (q_N rfl) q_I (gt0 k)
 have hN:Ev (kCmp .NotEq (kN 13) (kL [])) (RS b0 b1 b2 g name pat rows b7 b8 b9 b10 b11 b12 (.froz (.list (natsP re))) (fN k) b15 b16 b17 b18) (!re.isEmpty):=q_Cmp (q_N rfl) (q_L (as:=[]) rfl (by decide)) (nats_ne0 re)
 unfold plP
 by_cases hk:0 < k
 ·rw [decide_eq_true hk] at hG
  by_cases hr:re=[]
  ·rw [if_neg fun q=>q.2 hr]
   rw [show (!re.isEmpty)=false by rw [hr];rfl] at hN
   exact q_IfF (q_AndT hG hN) (q_N rfl)
  ·rw [if_pos ⟨hk,hr⟩]
   rw [show (!re.isEmpty)=true by cases re;exact absurd rfl hr;rfl] at hN
   exact q_IfT (q_AndT hG hN) (q_F (q_A2 (h:=kN 0) (q_F (q_A1 (q_N rfl)) (min_nats hs hr)) q_I) rfl)
 ·rw [decide_eq_false hk] at hG
  rw [if_neg fun q=>hk q.1]
  exact q_IfF (q_AndF hG) (q_N rfl)
end
noncomputable def TkOK (mK:List PV→Option PV):Prop:=∀(rows:List Row) (name:List Nat),rows.length≤100→name.length≤100→(∀r∈rows,r.length≤100)→mK [.list (pvR rows),.str (S name)]=some (.bool (tkR name 0 0 rows))
section
variable {b0 b1 b2 b7 b8 b9 b10 b11 b12 b13 b14 b15 b16 b17 b18:Bind} {g k j:Nat} {name pat:List Nat} {rows:List Row} {r:Row} {re:List Nat} {t:Int}
theorem step_eq (name:List Nat) (k:Nat) (re:List Nat) (r:Row):stepR name k re r=((plN k re).filter fun p=>decide (p+r.length < 7)&&fitB name r p).map (· +r.length):=rfl
theorem fig_at (hn:name.length=6) (hl:r.length≤6) {p:Nat} (hp:p+r.length < 7):∃x,pyItem (.list (intsP (lyF name r))) (.int (((p+r.length:Nat):Int) - 1))=some (.int x)∧(x==(r.length:Int))=fitB name r p:=by
 have hF:(intsP (lyF name r)).length≤16777216:=by rw [List.length_map,ly_len,hn];exact Nat.le_trans (Nat.add_le_add_left hl 6) (by decide)
 cases hq:p+r.length with
 | zero=>
  obtain ⟨hp0,hr0⟩:=Nat.add_eq_zero_iff.mp hq
  obtain rfl:=List.length_eq_zero_iff.mp hr0
  refine ⟨0,?_,rfl⟩
  have e:intsP (lyF name [])=(intsP ((List.range 5).map (lyC name [])))++[.int 0]:=by
   unfold lyF
   rw [hn]
   rfl
  rw [e]
  exact itemL_last (by rw [List.length_map,List.length_map];decide)
 | succ P=>
  have hP:P < 6:=by rw [hq] at hp;exact Nat.lt_of_succ_lt_succ hp
  have hPl:P < name.length+r.length:=by rw [hn];exact Nat.lt_of_lt_of_le hP (Nat.le_add_right _ _)
  refine ⟨lyC name r P,?_,ly_fit hq.symm (by rw [hn,hq];exact hP)⟩
  rw [show (((P+1:Nat):Int) - 1)=(P:Int) from Int.add_sub_cancel (P:Int) 1]
  exact item_L _ P _ (by
   unfold lyF
   rw [List.getElem?_map,List.getElem?_map,List.getElem?_range hPl]
   rfl) hF
theorem uNew_do (hn:name.length=6) (hl:r.length≤6) (hm:mn re≤1000) (hre:re.length≤7):Do uNew (RS b0 b1 b2 g name pat rows b7 b8 b9 b10 b11 b12 b13 b14 (fN r.length) b16 (.froz (.list (intsP (lyF name r)))) (.froz (plP k re))) (RS b0 b1 b2 g name pat rows b7 b8 b9 b10 b11 b12 (.froz (.list (natsP (stepR name k re r)))) b14 (fN r.length) b16 (.froz (.list (intsP (lyF name r)))) (.froz (plP k re))):=by
 have hpl:(plN k re).length≤16777216:=by
  unfold plN
  split
  ·rw [List.length_range'];exact Nat.le_trans (Nat.sub_le _ _) (by decide)
  ·exact Nat.le_trans hre (by decide)
 have h:=compV_runM (n:=1) (i:=0) (t:=andF (kCmp .Lt (kBin .Add (kN 0) (kN 2)) (kI 7)) (kCmp .Eq (kIt (kN 1) (kBin .Sub (kBin .Add (kN 0) (kN 2)) (kI 1))) (kN 2))) (e:=kBin .Add (kN 0) (kN 2)) (ps:=[.list (intsP (lyF name r)),.int (r.length:Int)]) (l:=plN k re) (fun (j:Nat)=>PV.int (j:Int)) (fun p=>decide (p+r.length < 7)&&fitB name r p) (fun p=>.int ((p+r.length:Nat):Int)) hpl fun p _=>by
  have hA:∀{st:St},st[0]? =some (fN p)→st[2]? =some (fN r.length)→Ev (kBin .Add (kN 0) (kN 2)) st (.int ((p+r.length:Nat):Int)):=fun h h2=>q_Bin (q_N h) (q_N h2) (fN_add p r.length)
  refine ⟨?_,fun _=>hA rfl rfl⟩
  have hL:Ev (kCmp .Lt (kBin .Add (kN 0) (kN 2)) (kI 7)) ((List.replicate 1 Bind.none++[PV.list (intsP (lyF name r)),.int (r.length:Int)].map Bind.froz).set 0 (.froz (.int (p:Int)))) (decide (p+r.length < 7)):=q_Cmp (hA rfl rfl) q_I ((lt_I _ _).trans (congrArg some (decide_eq_decide.mpr (by lia))))
  by_cases hp:p+r.length < 7
  ·rw [decide_eq_true hp] at hL ⊢
   obtain ⟨x,h1,h2⟩:=fig_at hn hl hp
   rw [Bool.true_and,←h2]
   exact q_AndT hL (q_Cmp (q_It (q_N rfl) (q_Bin (hA rfl rfl) q_I (bin_sub _ _)) h1) (q_N rfl) (eq_I _ _))
  ·rw [decide_eq_false hp] at hL ⊢
   exact q_AndF hL
 have e:((plN k re).filter fun p=>decide (p+r.length < 7)&&fitB name r p).map (fun p=>PV.int ((p+r.length:Nat):Int))=natsP (stepR name k re r):=by
  rw [step_eq]
  show _=List.map _ (List.map _ _)
  rw [List.map_map]
  rfl
 rw [e] at h
 exact D_set (r_comp (r_cap2 rfl rfl) (q_N rfl) (pl_items hm) h) rfl
structure ReOK (re:List Nat):Prop where
 so:re.Pairwise (· < ·)
 lt:∀x∈re,x < 7
 len:re.length≤7
theorem re_mn (h:ReOK re):mn re≤1000:=by
 cases re with
 | nil=>exact Nat.zero_le _
 | cons x l=>exact Nat.le_trans (Nat.le_of_lt (h.lt x List.mem_cons_self)) (by decide)
theorem re_step (h:ReOK re) (name:List Nat) (k:Nat) (r:Row):ReOK (stepR name k re r):=by
 have hs:(plN k re).Pairwise (· < ·)∧(plN k re).length≤7:=by
  unfold plN
  split
  ·exact ⟨List.pairwise_lt_range',by rw [List.length_range'];exact Nat.sub_le _ _⟩
  ·exact ⟨h.so,h.len⟩
 rw [step_eq]
 refine ⟨map_sorted (hs.1.filter _),fun x hx=>?_,by rw [List.length_map];exact Nat.le_trans (List.length_filter_le _ _) hs.2⟩
 obtain ⟨p,hp,rfl⟩:=List.mem_map.mp hx
 exact of_decide_eq_true (Bool.and_eq_true_iff.mp (List.mem_filter.mp hp).2).1
theorem uTurn_do {mN mF mY:List PV→Option PV} (hN:NumOK mN) (hF:FigOK mF) (hY:LyOK mY) (hg:g < 6) (hn:name.length=6) (hc:∀c∈name,c=sq g 0∨c=sq g 1∨c=sq g 2) (hr:rows.length≤100) (hk:rows[k]? =some r) (hl:r.length≤6) (hre:ReOK re):
  ∃c9 c15 c16 c17 c18,Do (uTurn mN mF mY) (RS b0 b1 b2 g name pat rows b7 b8 b9 b10 (.froz (.list (pvR rows))) (spB g name) (.froz (.list (natsP re))) (fN k) b15 b16 b17 b18) (RS b0 b1 b2 g name pat rows b7 b8 c9 b10 (.froz (.list (pvR rows))) (spB g name) (.froz (.list (natsP (stepR name k re r)))) (fN k) c15 c16 c17 c18):=
 ⟨_,_,_,_,_,D_seq (uSz_do hr hk (Nat.le_trans hl (by decide))) (D_seq (uSum_do hN hg hn hc hr hk hl) (D_seq (uFig_do hF hn hl) (D_seq (uChk_do hY hn hr hk hl) (D_seq (uPlc_do hre.so) (D_one (uNew_do hn hl (re_mn hre) hre.len))))))⟩
theorem uLoop_do {mN mF mY:List PV→Option PV} (hN:NumOK mN) (hF:FigOK mF) (hY:LyOK mY) (hg:g < 6) (hn:name.length=6) (hc:∀c∈name,c=sq g 0∨c=sq g 1∨c=sq g 2) (hr:rows.length≤100) (hl:∀r∈rows,r.length≤6):∀(rs:List Row) {k:Nat} {re:List Nat} {b9 b14 b15 b16 b17 b18:Bind},rows.drop k=rs→ReOK re→
  ∃c9 c14 c15 c16 c17 c18,Do (forF 14 (uTurn mN mF mY) ((List.range' k rs.length).map fun (j:Nat)=>PV.int (j:Int))) (RS b0 b1 b2 g name pat rows b7 b8 b9 b10 (.froz (.list (pvR rows))) (spB g name) (.froz (.list (natsP re))) b14 b15 b16 b17 b18) (RS b0 b1 b2 g name pat rows b7 b8 c9 b10 (.froz (.list (pvR rows))) (spB g name) (.froz (.list (natsP (reR name k re rs)))) c14 c15 c16 c17 c18)
 | [],k,re,b9,b14,b15,b16,b17,b18,_,_=>⟨b9,b14,b15,b16,b17,b18,rfl⟩
 | r::rs,k,re,b9,b14,b15,b16,b17,b18,hd,hre=>by
  have hk:=get_drop hd
  obtain ⟨c9,c15,c16,c17,c18,h1⟩:=uTurn_do (b0:=b0) (b1:=b1) (b2:=b2) (pat:=pat) (b7:=b7) (b8:=b8) (b9:=b9) (b10:=b10) (b15:=b15) (b16:=b16) (b17:=b17) (b18:=b18) hN hF hY hg hn hc hr hk (hl r (List.mem_of_getElem? hk)) hre
  obtain ⟨d9,d14,d15,d16,d17,d18,h2⟩:=uLoop_do hN hF hY hg hn hc hr hl rs (k:=k+1) (b9:=c9) (b14:=fN k) (b15:=c15) (b16:=c16) (b17:=c17) (b18:=c18) (drop_app (u:=[r]) hd) (re_step hre name k r)
  exact ⟨d9,d14,d15,d16,d17,d18,D_fcons h1 h2⟩
theorem nats_same {a b:List Nat} (h:a=b):cmpOp .Eq (.list (natsP a)) (.list (natsP b))=some true:=by
 subst h
 have e:natsP a=(a.map fun (k:Nat)=>(k:Int)).map .int:=by rw [List.map_map];rfl
 show pyEq _ _=_
 rw [e,pyEq_ints,decide_eq_true rfl]
theorem sl_head {name:List Nat} {h:Nat} (hn:name.length=6) (hh:h < 7):pySlice (.str (S name)) none (some (h:Int)) none=some (.str (S (name.take h))):=by
 refine (slS name none (some (h:Int)) (by rw [hn];decide)).trans ?_
 rw [clipN_nat,hn,Nat.min_eq_left (Nat.le_of_lt_succ hh)]
 rfl
theorem uEnd_ev {mK:List PV→Option PV} (hK:TkOK mK) (hn:name.length=6) (hr:rows.length≤100) (hl:∀r∈rows,r.length≤6) (he:re=(List.range 7).filter fun h=>tkR (name.take h) 0 0 rows):Ev (uEnd mK) (RS b0 b1 b2 g name pat rows b7 b8 b9 b10 (.froz (.list (pvR rows))) b12 (.froz (.list (natsP re))) b14 b15 b16 b17 b18) (.bool true):=by
 have h:=compV_runM (n:=1) (i:=0) (t:=kTru (kF mK (kA2 (kN 2) (kSl (kN 1) kNo (kAs (kN 0)))))) (e:=kN 0) (ps:=[.str (S name),.list (pvR rows)]) (l:=List.range 7) (fun (j:Nat)=>PV.int (j:Int)) (fun h=>tkR (name.take h) 0 0 rows) (fun (j:Nat)=>PV.int (j:Int)) (by decide) fun h hh=>by
  have hh:=List.mem_range.mp hh
  refine ⟨ev1 (q_F (q_A2 (h:=kN 0) (q_N rfl) (q_Sl (q_N rfl) q_No (q_As (q_N rfl) rfl) (sl_head hn hh))) (hK rows (name.take h) hr (by rw [List.length_take];exact Nat.le_trans (Nat.min_le_left _ _) (Nat.le_trans (Nat.le_of_lt hh) (by decide))) fun r hr'=>Nat.le_trans (hl r hr') (by decide))) rfl,fun _=>q_N rfl⟩
 exact q_CV (q_N rfl) (r_comp (r_cap2 rfl rfl) (rng_ev (q_I (n:=((7:Nat):Int)))) (rng_items (by decide)) h) (nats_same he)
end
theorem law_run {mP mR mT mN mF mY mK:List PV→Option PV} (hP:∀g m d:Nat,g < 6→m < 8→d < 4→mP [.str (S (itm g m)),.str (S (sgn g)),.int (d:Int)]=some (.str (S (pcT g m d))))
  (hT:∀(g:Nat) (os:List (Option Ent)),g < 6→os.length=6→(∀e,some e∈os→e.1 < 8∧e.2 < 4)→∃text,mT [.str (S (os.flatMap (pcW g)))]=some text∧mR [text,.str (S (sgn g))]=some (.list (pvR ((absAll [[]] os).map (rowOf g)))))
  (hN:NumOK mN) (hF:FigOK mF) (hY:LyOK mY) (hK:TkOK mK) {script:List Int} (hs:script.length≤1000):runF (uAll mP mR mT mN mF mY mK) 19 [.list (intsP script)]=some (.bool true):=by
 have hns:=ns_len script
 obtain ⟨ns,ens⟩:∃ns,nsO script=ns:=⟨_,rfl⟩
 have hlt:∀x∈ns,x < 1000000:=fun x hx=>ns_lt (ens ▸ hx)
 rw [ens] at hns
 have hg:gO ns < 6:=g_lt
 obtain ⟨g,eg⟩:∃g,gO ns=g:=⟨_,rfl⟩
 rw [eg] at hg
 have hnl:(nmO' g ns).length=6:=by unfold nmO';rw [List.length_map];exact hns
 have hpo:∀e,some e∈ns.map pcO→e.1 < 8∧e.2 < 4:=fun e he=>by
  obtain ⟨x,_,hx⟩:=List.mem_map.mp he
  exact pcO_ok hx
 have hA0:AbsOK [[]] 0:=⟨List.cons_ne_nil _ _,(fun s hs=>by rw [List.mem_singleton.mp hs];exact (fun _ h=>nomatch h)),Nat.le_refl 1,(fun s hs=>by rw [List.mem_singleton.mp hs];exact Nat.le_refl 0)⟩
 have hA:=abs_all (n:=0) (ns.map pcO) hA0 hpo
 rw [List.length_map,hns] at hA
 obtain ⟨text,t1,t2⟩:=hT g (ns.map pcO) hg (by rw [List.length_map,hns]) hpo
 obtain ⟨A,eA⟩:∃A,absAll [[]] (ns.map pcO)=A:=⟨_,rfl⟩
 rw [eA] at hA t2
 have hrl:(A.map (rowOf g)).length≤100:=by rw [List.length_map];exact Nat.le_trans hA.len (by decide)
 have hr6:∀r∈A.map (rowOf g),r.length≤6:=fun r hr=>by
  obtain ⟨s,hs,rfl⟩:=List.mem_map.mp hr
  unfold rowOf
  rw [List.length_map]
  exact hA.ln s hs
 have hc:∀c∈nmO' g ns,c=sq g 0∨c=sq g 1∨c=sq g 2:=fun c hc=>by
  obtain ⟨x,_,rfl⟩:=List.mem_map.mp hc
  have:x % 3 < 3:=Nat.mod_lt _ (by decide)
  unfold sq
  match x % 3,this with
  | 0,_=>exact .inl rfl
  | 1,_=>exact .inr (.inl rfl)
  | 2,_=>exact .inr (.inr rfl)
 have hend:=reach_run hnl (A.map (rowOf g)) (k:=0) (a:=0) (re:=[0]) (fun e=>hA.ne (List.map_eq_nil_iff.mp e)) (fun _=>rfl) rfl
 have h1:=u1_do (script:=script) (b1:=.none) (b2:=.none) (b3:=.none) (b4:=.none) (b5:=.none) (b6:=.none) (b7:=.none) (b8:=.none) (b10:=.none) hs
 have h2:=u2_do (b0:=.froz (.list (intsP script))) (b1:=.none) (b3:=.none) (b4:=.none) (b5:=.none) (b6:=.none) (b7:=.none) (b8:=.none) (b10:=.none) hns hlt
 have h3:=u3_do (b0:=.froz (.list (intsP script))) (b1:=.none) (b4:=.none) (b5:=.none) (b6:=.none) (b7:=.none) (b8:=.none) (b10:=.none) hg hns
 rw [ens] at h1
 rw [eg] at h2
 obtain ⟨c1,c7,c8,c10,hW⟩:=u_loop (b0:=.froz (.list (intsP script))) (ns:=ns) (name:=nmO' g ns) (b1:=.none) (b7:=.none) (b8:=.none) (b10:=.none) (pat:=[]) hg (fun m d=>hP g m d hg) ns hA0 (by rw [hns];decide) (by rw [hns];decide)
 rw [eA,List.nil_append] at hW
 have hloop:=uLoop_do (b0:=.froz (.list (intsP script))) (b1:=c1) (b2:=.froz (.list (natsP ns))) (pat:=(ns.map pcO).flatMap (pcW g)) (b7:=c7) (b8:=c8) (b10:=c10) hN hF hY hg hnl hc hrl hr6 (A.map (rowOf g)) (k:=0) (re:=[0]) (b9:=.none) (b14:=.none) (b15:=.none) (b16:=.none) (b17:=.none) (b18:=.none) rfl ⟨List.pairwise_singleton _ _,(fun x hx=>by rw [List.mem_singleton.mp hx];decide),(by decide:1≤7)⟩
 rw [←List.range_eq_range',hend] at hloop
 obtain ⟨d9,d14,d15,d16,d17,d18,hL⟩:=hloop
 have hRest:uRest mR mT mN mF mY mK (RS (.froz (.list (intsP script))) c1 (.froz (.list (natsP ns))) g (nmO' g ns) ((ns.map pcO).flatMap (pcW g)) (A.map (rowOf g)) c7 c8 .none c10 .none .none .none .none .none .none .none .none)=some (.ret (.bool true),RS (.froz (.list (intsP script))) c1 (.froz (.list (natsP ns))) g (nmO' g ns) ((ns.map pcO).flatMap (pcW g)) (A.map (rowOf g)) c7 c8 d9 c10 (.froz (.list (pvR (A.map (rowOf g))))) (spB g (nmO' g ns)) (.froz (.list (natsP ((List.range 7).filter fun h=>tkR ((nmO' g ns).take h) 0 0 (A.map (rowOf g)))))) d14 d15 d16 d17 d18):=
  (seq_next (uRows_do t1 t2)).trans ((seq_next (uLen_do hrl)).trans ((seq_next (uSpots_do hN hg hnl)).trans ((seq_next uReach_do).trans ((seq_next (D_forE (rng_ev (len_R hrl rfl)) (rng_items (Nat.le_trans hrl (by decide))) hL)).trans (seq_ret (D_ret (uEnd_ev hK hnl hrl hr6 rfl)))))))
 have hAll:allO (runsG 1 5 6 (S []) (kN 2) (uBody mP) (uRest mR mT mN mF mY mK)) (LT (.froz (.list (intsP script))) .none (.froz (.list (natsP ns))) (fS (sgn g)) (fS (nmO' g ns)) .none .none .none .none .none)=some (.ret (.bool true),_):=allO_of fun o=>by
  have e:runsG 1 5 6 (S []) (kN 2) (uBody mP) (uRest mR mT mN mF mY mK) o (LT (.froz (.list (intsP script))) .none (.froz (.list (natsP ns))) (fS (sgn g)) (fS (nmO' g ns)) .none .none .none .none .none)=(forW 1 (uBody mP) (natsP ns) [[]] (LT (.froz (.list (intsP script))) .none (.froz (.list (natsP ns))) (fS (sgn g)) (fS (nmO' g ns)) (fS []) (.ref o) .none .none .none)).bind fun q=>uRest mR mT mN mF mY mK (q.2.set 6 (.froz (.list (q.1.map .list)))):=if_pos rfl
  rw [e]
  have e2:([[]]:LL)=LA g [[]]:=rfl
  rw [e2,hW o,Option.bind_some]
  have e3:(LA g A).map PV.list=pvR (A.map (rowOf g)):=by
   unfold LA pvR
   rw [List.map_map,List.map_map]
   rfl
  dsimp only
  rw [e3]
  exact hRest
 exact runF_ret' ((seq_next h1).trans ((seq_next h2).trans ((seq_next h3).trans hAll)))
noncomputable def eAll1:EvS:=seqF (kIf (kTru (isStrF 0)) (seqF (kRet (kO (kN 0) escP)) dNil) (fun _=>none)) dNil
theorem es_code {X:Cx} {d:Nat} {cd:Value} {ql:PySem.Str} (G:Glo X) {D:Addr} {fT:Int→Option Value} (hg:X.mg "_special_chars_map"=some (.ref D)) (hD:(D==sysModules)=false) (hm:X.B.MapOf (intKind X.prog X.w) D fT) (hT:TabOK fT):
  (WEsc.escS (X:=X) (d:=d) (cd:=cd) (ql:=ql) G hg hD hm hT).1=eAll1:=by
 unfold WEsc.escS
 rfl
theorem esc_run {X:Cx} {d:Nat} {cd:Value} {ql:PySem.Str} (G:Glo X) {D:Addr} {fT:Int→Option Value} (hg:X.mg "_special_chars_map"=some (.ref D)) (hD:(D==sysModules)=false) (hm:X.B.MapOf (intKind X.prog X.w) D fT) (hT:TabOK fT) {c:Nat} {v:List Nat} (h:escTab.lookup c=some v):
  runF (WEsc.escS (X:=X) (d:=d) (cd:=cd) (ql:=ql) G hg hD hm hT).1 1 [C c]=some (.str (S v)):=by
 have e:escP (C c)=some (.str (S v)):=by
  show (escTab.lookup c).map _=_
  rw [h]
  rfl
 rw [es_code]
 have h1:Ev (kTru (isStrF 0)) [.froz (C c)] true:=ev1 (f:=isStrF 0) (a:=.bool true) rfl rfl
 exact runF_ret' (seq_ret (run_bind h1 (run_ifT rfl (seq_ret (D_ret (ev1 (q_N rfl) e))))))
end Mine
end
section
open PySem PySem.W PyProof.Rows PySem.SeqAt PySem.Builtin.Str PySem.Calls
namespace Mine
noncomputable def ansOf (k n:Nat) (g:EvS):List PV→Option PV:=fun as=>if as.length=k then runF g n as else none
theorem ans1 {n:Nat} {g:EvS} (a:PV):ansOf 1 n g [a]=runF g n [a]:=if_pos rfl
theorem ans2 {n:Nat} {g:EvS} (a b:PV):ansOf 2 n g [a,b]=runF g n [a,b]:=if_pos rfl
theorem ansOf_eq {k n:Nat} {g:EvS} {as:List PV} (h:as.length=k):ansOf k n g as=runF g n as:=if_pos h
section
variable {w:World} {p:Program} {loose:List Str} {mean:ExcName→Option Value} {mg mb:Str→Option Value} {h:Heap} (T:Top p loose mean mg mb h) (hT:TabsAt tabs0 h) (KX:(K0 w.params).In h)
include T hT KX
noncomputable abbrev esS:=(WEsc.escS (X:=X0 T hT KX) (d:=0) (cd:=.ref 75) (ql:="escape"++".<locals>.") (glo0 T hT KX) (gMap T hT KX) (by decide) (map0 T hT KX) (tab0 T hT KX))
theorem cEscape:CallW (X0 T hT KX) 1 76 (ansOf 1 1 (esS T hT KX).1):=callW_of (okEscape T hT KX) (esS T hT KX).2
noncomputable abbrev trS:=(WTrans.transS (X:=X0 T hT KX) (d:=1) (cd:=.ref 82) (ql:="_translate"++".<locals>.") (glo0 T hT KX) (cEscape T hT KX) (gEscape T hT KX) (thEscape T hT KX) (mkLam T hT KX) (mkGen T hT KX) (gTw T hT KX) (pat0 T hT KX))
noncomputable abbrev joS:=(WJoin.joinS (X:=X0 T hT KX) (d:=1) (cd:=.ref 89) (ql:="_join_translated_parts"++".<locals>.") (glo0 T hT KX))
noncomputable abbrev nuS:=(WNumber.numberS (X:=X0 T hT KX) (d:=2) (cd:=.ref 96) (ql:="_law_number"++".<locals>.") (glo0 T hT KX) (long0 T hT KX) (mkRead T hT KX) (mkLam2 T hT KX) (gLong T hT KX))
noncomputable abbrev piS:=(WPiece.pieceS (X:=X0 T hT KX) (d:=2) (cd:=.ref 101) (ql:="_law_piece"++".<locals>.") (glo0 T hT KX))
noncomputable abbrev stS:=(WSets.setsS (X:=X0 T hT KX) (d:=1) (cd:=.ref 106) (ql:="_law_sets"++".<locals>.") (glo0 T hT KX))
noncomputable abbrev fiS:=(WFigures.figuresS (X:=X0 T hT KX) (d:=2) (cd:=.ref 118) (ql:="_law_figures"++".<locals>.") (glo0 T hT KX))
noncomputable abbrev lyS:=(WLying.lyingS (X:=X0 T hT KX) (d:=2) (cd:=.ref 123) (ql:="_law_lying"++".<locals>.") (glo0 T hT KX))
noncomputable abbrev tkS:=(WTakes.takesS (X:=X0 T hT KX) (d:=2) (cd:=.ref 128) (ql:="_law_takes"++".<locals>.") (glo0 T hT KX))
theorem cTrans:CallW (X0 T hT KX) 2 83 (ansOf 3 13 (trS T hT KX).1):=callW_of (okTrans T hT KX) (trS T hT KX).2
theorem cJoin:CallW (X0 T hT KX) 2 90 (ansOf 2 7 (joS T hT KX).1):=callW_of (okJoin T hT KX) (joS T hT KX).2
theorem cNumber:CallW (X0 T hT KX) 3 97 (ansOf 1 7 (nuS T hT KX).1):=callW_of (okNumber T hT KX) (nuS T hT KX).2
theorem cPiece:CallW (X0 T hT KX) 3 102 (ansOf 3 8 (piS T hT KX).1):=callW_of (okPiece T hT KX) (piS T hT KX).2
theorem cSets:CallW (X0 T hT KX) 2 107 (ansOf 2 6 (stS T hT KX).1):=callW_of (okSets T hT KX) (stS T hT KX).2
noncomputable abbrev roS:=(WRows.rowsS (X:=X0 T hT KX) (d:=2) (cd:=.ref 111) (ql:="_law_rows"++".<locals>.") (glo0 T hT KX) (cSets T hT KX) (gSets T hT KX) (thSets T hT KX))
theorem cRows:CallW (X0 T hT KX) 3 112 (ansOf 2 6 (roS T hT KX).1):=callW_of (okRows T hT KX) (roS T hT KX).2
theorem cFigures:CallW (X0 T hT KX) 3 119 (ansOf 2 4 (fiS T hT KX).1):=callW_of (okFigures T hT KX) (fiS T hT KX).2
theorem cLying:CallW (X0 T hT KX) 3 124 (ansOf 2 6 (lyS T hT KX).1):=callW_of (okLying T hT KX) (lyS T hT KX).2
theorem cTakes:CallW (X0 T hT KX) 3 129 (ansOf 2 7 (tkS T hT KX).1):=callW_of (okTakes T hT KX) (tkS T hT KX).2
noncomputable def trP (pat r:Str):Prop:=∀a:Addr,∃parts,ansOf 3 13 (trS T hT KX).1 [.str pat,.obj a,.str (PySem.Str.ofString ".")]=some parts∧ansOf 2 7 (joS T hT KX).1 [parts,.obj a]=some (.str r)
open Classical in
noncomputable def trT (pat:Str):Option Str:=if h:∃r,trP T hT KX pat r then some h.choose else none
theorem tr_spec:∀a pat r,trT T hT KX pat=some r→∃parts,ansOf 3 13 (trS T hT KX).1 [.str pat,.obj a,.str (PySem.Str.ofString ".")]=some parts∧ansOf 2 7 (joS T hT KX).1 [parts,.obj a]=some (.str r):=by
 intro a pat r hr
 unfold trT at hr
 by_cases hd:∃r,trP T hT KX pat r
 ·rw [dif_pos hd] at hr
  exact Option.some.inj hr ▸ hd.choose_spec a
 ·rw [dif_neg hd] at hr
  cases hr
omit T hT KX in
theorem str_inj {a b:Str} (h:some (PV.str a)=some (PV.str b)):b=a:=by cases h;rfl
theorem trT_eq {pat r:Str} (h:trP T hT KX pat r):trT T hT KX pat=some r:=by
 have hd:∃r,trP T hT KX pat r:=⟨r,h⟩
 unfold trT
 rw [dif_pos hd]
 obtain ⟨parts,h1,h2⟩:=h 0
 obtain ⟨parts',h3,h4⟩:=hd.choose_spec 0
 obtain rfl:=Option.some.inj (h3.symm.trans h1)
 rw [h2] at h4
 exact congrArg some (str_inj h4)
theorem cTranslate:CallW (X0 T hT KX) 3 64 (fun as=>if as.length=1 then trM (trT T hT KX) as else none):=
 callW_of2 (okTranslate T hT KX) (WTranslate.translateR (d:=2) (glo0 T hT KX) (cTrans T hT KX) (cJoin T hT KX) (gTrans T hT KX) (gJoin T hT KX) (thTrans T hT KX) (thJoin T hT KX) (tr_spec T hT KX))
noncomputable abbrev laS:=(WLaw.lawS (X:=X0 T hT KX) (d:=3) (cd:=.ref 133) (ql:="law"++".<locals>.") (glo0 T hT KX) (cPiece T hT KX) (gPiece T hT KX) (thPiece T hT KX) (cRows T hT KX) (gRows T hT KX) (thRows T hT KX) (cTranslate T hT KX) (gTranslate T hT KX) (thTranslate T hT KX) (cNumber T hT KX) (gNumber T hT KX) (thNumber T hT KX) (cFigures T hT KX) (gFigures T hT KX) (thFigures T hT KX) (cLying T hT KX) (gLying T hT KX) (thLying T hT KX) (cTakes T hT KX) (gTakes T hT KX) (thTakes T hT KX))
theorem escOK:EscOK (ansOf 1 1 (esS T hT KX).1):=fun c v h=>(ansOf_eq rfl).trans (esc_run (X:=X0 T hT KX) (d:=0) (cd:=.ref 75) (ql:="escape"++".<locals>.") (glo0 T hT KX) (gMap T hT KX) (by decide) (map0 T hT KX) (tab0 T hT KX) h)
theorem pat_rows (g:Nat) (os:List (Option Ent)) (hg:g < 6) (hl:os.length=6) (ho:∀e,some e∈os→e.1 < 8∧e.2 < 4):∃text,(fun as=>if as.length=1 then trM (trT T hT KX) as else none) [.str (S (os.flatMap (pcW g)))]=some text∧ansOf 2 6 (roS T hT KX).1 [text,.str (S (sgn g))]=some (.list (pvR ((absAll [[]] os).map (rowOf g)))):=by
 have hA0:AbsOK [[]] 0:=⟨List.cons_ne_nil _ _,(fun s hs=>by rw [List.mem_singleton.mp hs];exact (fun _ h=>nomatch h)),Nat.le_refl 1,(fun s hs=>by rw [List.mem_singleton.mp hs];exact Nat.le_refl 0)⟩
 have hA:=abs_all (n:=0) os hA0 ho
 rw [hl] at hA
 have hM:MidOK (absAll [[]] os):=mid_all os (List.cons_ne_nil _ _) (fun _ h=>nomatch h)
 have hp:PcsOK (ansOf 1 1 (esS T hT KX).1) (pcsO g os):=fun p q hq=>by
  obtain ⟨o,hm,e⟩:=List.mem_map.mp hq
  obtain ⟨e',he,e2⟩:=Option.map_eq_some_iff.mp e
  cases e2
  exact pc_ok (escOK T hT KX) hg (ho e' (he ▸ hm)).1 (ho e' (he ▸ hm)).2
 have hP:trP T hT KX (S (os.flatMap (pcW g))) (S (midO g (absAll [[]] os))):=fun a=>by
  have h1:=trans_run1 (X:=X0 T hT KX) (d:=1) (cd:=.ref 82) (ql:="_translate"++".<locals>.") (glo0 T hT KX) (cEscape T hT KX) (gEscape T hT KX) (thEscape T hT KX) (mkLam T hT KX) (mkGen T hT KX) (gTw T hT KX) (pat0 T hT KX) (pcsO g os) hp (by unfold pcsO;rw [List.length_map,hl];decide) a
  rw [txt_pcs,show ([]:List (Option (List Nat)))=partsOf g [[]] from rfl,parts_all g os (List.cons_ne_nil _ _)] at h1
  refine ⟨.list ((partsOf g (absAll [[]] os)).map (pvO a)),(ansOf_eq (as:=[.str (S (os.flatMap (pcW g))),.obj a,.str (S [46])]) rfl).trans h1,(ansOf_eq (as:=[.list ((partsOf g (absAll [[]] os)).map (pvO a)),.obj a]) rfl).trans (join_A (X:=X0 T hT KX) (d:=1) (cd:=.ref 89) (ql:="_join_translated_parts"++".<locals>.") (glo0 T hT KX) hg hA hM a)⟩
 refine ⟨.str (S (midO g (absAll [[]] os))),(if_pos rfl).trans (congrArg (Option.map PV.str) (trT_eq T hT KX hP)),(ansOf_eq rfl).trans (rows_A (X:=X0 T hT KX) (d:=2) (cd:=.ref 111) (ql:="_law_rows"++".<locals>.") (glo0 T hT KX) (cSets T hT KX) (gSets T hT KX) (thSets T hT KX) hg hA fun ps h1 h2 h3=>(ansOf_eq rfl).trans (sets_run1 (X:=X0 T hT KX) (d:=1) (cd:=.ref 106) (ql:="_law_sets"++".<locals>.") (glo0 T hT KX) h1 h2 h3))⟩
theorem numOK:NumOK (ansOf 1 7 (nuS T hT KX).1):=by
 intro fs hf
 rw [ans1]
 exact number_run1 (glo0 T hT KX) (long0 T hT KX) (mkRead T hT KX) (mkLam2 T hT KX) (gLong T hT KX) hf
theorem figOK:FigOK (ansOf 2 4 (fiS T hT KX).1):=by
 intro cs h1 h2
 rw [ans2]
 exact figures_run (X:=X0 T hT KX) (glo0 T hT KX) h1 h2
theorem lyOK:LyOK (ansOf 2 6 (lyS T hT KX).1):=by
 intro row name h1 h2
 rw [ans2]
 exact lying_run (X:=X0 T hT KX) (glo0 T hT KX) h1 h2
theorem tkOK:TkOK (ansOf 2 7 (tkS T hT KX).1):=by
 intro rows name h1 h2 h3
 rw [ans2]
 exact takes_run (X:=X0 T hT KX) (glo0 T hT KX) h1 h2 h3
theorem lawAns (script:List Int) (hs:script.length≤1000):runF (laS T hT KX).1 19 [.list (script.map .int)]=some (.bool true):=by
 rw [la_code]
 exact law_run (fun g m d hg hm hd=>(ansOf_eq rfl).trans (piece_run (X:=X0 T hT KX) (glo0 T hT KX) hg hm hd)) (pat_rows T hT KX) (numOK T hT KX) (figOK T hT KX) (lyOK T hT KX) (tkOK T hT KX) hs
end
end Mine
namespace Mine
noncomputable abbrev lawDef:DefRec:=⟨Str.ofString "law",paramsAt P1 24,bodyAt P1 24,scopeAt P1 24,⟨203,0,232,80⟩⟩
end Mine
end
section
open PySem PySem.W PyProof.Rows PySem.SeqAt PySem.Builtin.Str PySem.Calls
set_option tactic.hygienic true in
set_option maxHeartbeats 8000000 in
theorem PySem.Challenge.cw_ij0201_01_holds : PySem.Challenge.rw_ij0201_01.Holds := by
 w_on
 refine holds_law (by kernel_rfl) fun said=>?_
 refine holds_open (q:=Mine.view0) (loose:=Mine.loose0) (Xt:=fun s=>xlAt Mine.view0 [] s&&recOk [] s) (XP:=XL Mine.view0 []) (Yf:=Hook.obs Mine.hook0) (Ya:=Hook.val Mine.hook0) (YP:=Hook.says Mine.hook0) (N:=3716) (d:=Mine.lawDef) (kwd:=[]) Mine.left0 (Hook.of Mine.hook0) (Hook.keeps Mine.hook0) (fun s e=>xl_of s (Bool.and_eq_true_iff.mp e).1) XL.keeps (by kernel_rfl) (by kernel_rfl) (by kernel_rfl) (fun s e=>recFacts_of (Bool.and_eq_true_iff.mp e).2) (by kernel_rfl) (by first | assumption | decide+kernel) (by decide+kernel) ⟨rfl,rfl,rfl,rfl,rfl,by decide+kernel⟩ ?hw ?hc
 case hw=>w_witness2
 case hc=>
  intro w s₀ s₁ mg mb G Y fa o pm cd doc dV kV ho hd hcd hD hmg hg args vals as hpre hlay hrd hwl hlo
  have KX:=km_in_of Y
  km_tabs Y
  refine Ground.open G ?_
  intro T B D TE TW
  have hT9:TabsAt [(96,92),(82,78)] s₁.heap:=List.forall_mem_cons.mpr ⟨⟨codeHd_of_K (c:=96) (P:=92) KX (by kernel_rfl),hT8 92 (by simp)⟩,List.forall_mem_cons.mpr ⟨⟨codeHd_of_K (c:=82) (P:=78) KX (by kernel_rfl),hT8 78 (by simp)⟩,fun _ h=>nomatch h⟩⟩
  clear ho hd hcd hD B D TE TW G Y
  wrow_args hpre hlay hrd hwl hlo
  refine enter_call ?_
  rename_i ns hs1 hlay1 hL1 hr1 hl21 a1 a2 a3 vs1 a4 hL2 ra1 w1 r01 hI1 hr2 hlen htr
  have hfa:fa=134:=by
   have e1:mg (PySem.Str.ofString "law")=some (.ref fa):=hmg
   rw [Mine.gLaw T hT9 KX] at e1
   cases e1
   rfl
  subst hfa
  exact Mine.law_end (ns:=ns) T hT9 (Mine.nb0 T hT9 KX) Mine.tq0 (Mine.okLaw T hT9 KX) (Mine.soundR_of (Mine.laS T hT9 KX).2) (by kernel_rfl) (by decide) w1 (Mine.lawAns T hT9 KX ns (by omega)) hg (fun _=>rfl) (by kernel_rfl)
end
