import PyProof.Rows.All
import Wide.All
import OpenK.AllK
import Wide.FinOn
import PySem.Challenge.RW_rx0086_01
open PySem PySem.W PyProof.Rows PySem.Calls
set_option Elab.async false
set_option linter.unusedVariables false
set_option maxRecDepth 100000
namespace Mine
open List (all_eq_true any_cons any_eq_true append_assoc append_nil cons_append drop_drop drop_eq_nil_iff filterMap_eq_map' filter_cons filter_eq_nil_iff find?_cons flatMap_append flatMap_cons foldl_append foldl_cons forIn_cons forIn_nil getElem?_append_left getElem?_eq_getElem getElem?_eq_none getElem?_map getElem?_range getElem_mem getLastD_eq_getLast? length_append length_cons length_drop length_filterMap_le length_filter_le length_map length_pos_iff length_range length_reverse length_take lookup_cons map_append map_congr_left map_cons map_map map_nil mem_append mem_append_left mem_append_right mem_cons mem_cons_of_mem mem_cons_self mem_filter mem_flatMap mem_map mem_map_of_mem mem_of_getElem? mem_of_getLast? mem_range mem_singleton nodup_append nodup_cons not_mem_nil of_mem_zip range_succ size_toArray sum_append sum_cons take_add_one take_append_drop take_length take_zero toArray)
abbrev Ext(h h':Heap):Prop:=∀b o,h.get? b=some o->h'.get? b=some o
abbrev vis(h:Heap)(η:List Addr):Heap:=hideAll h η
abbrev NoE:Value->Shared->Prop:=fun _ _=>False
theorem Ext.refl(h:Heap):Ext h h:=fun _ _ e=>e
theorem Ext.trans{h h' h'':Heap}(x:Ext h h')(y:Ext h' h''):Ext h h'':=fun b o e=>y b o (x b o e)
theorem vis_get{h:Heap}{η:List Addr}{b:Addr}{o:Obj}(e:h.get? b=some o)(n:b∉η):(vis h η).get? b=some o:=hideAll_get _ e n
theorem vis_inv{h:Heap}{η:List Addr}{b:Addr}{o:Obj}(e:(vis h η).get? b=some o):h.get? b=some o∧b∉η:=
 ⟨of_hideAll _ e,fun m=>by rw[hideAll_none _ m] at e;cases e⟩
theorem vis_ext{h h':Heap}(η:List Addr)(x:Ext h h'):Ext (vis h η) (vis h' η):=fun b o e=>vis_get (x b o (vis_inv e).1) (vis_inv e).2
theorem vis_to(h:Heap)(η:List Addr):Ext (vis h η) h:=fun _ _ e=>(vis_inv e).1
abbrev KeepBut(own:List Addr)(h h':Heap):Prop:=∀b o,b∉own->h.get? b=some o->h'.get? b=some o
theorem vis_keepBut{own η:List Addr}{h h':Heap}(hs:∀a∈own,a∈η)(x:KeepBut own h h'):Ext (vis h η) (vis h' η):=
 fun b o e=>vis_get (x b o (fun m=>(vis_inv e).2 (hs b m)) (vis_inv e).1) (vis_inv e).2
theorem vis_less{η η':List Addr}(h:Heap)(hs:∀a∈η,a∈η'):Ext (vis h η') (vis h η):=
 fun b o e=>vis_get (vis_inv e).1 fun m=>(vis_inv e).2 (hs b m)
theorem vis_more{own η:List Addr}{h h':Heap}(x:Ext h h')(hf:∀a∈own,h.get? a=none):Ext (vis h η) (vis h' (own++η)):=fun b o e=>
 vis_get (x b o (vis_inv e).1) fun m=>by
  rcases mem_append.mp m with m|m
  ·have:=(vis_inv e).1;rw[hf b m] at this;cases this
  ·exact(vis_inv e).2 m
def Rd(d:PyData)(g:Heap)(v:Value):Prop:=∃as,Reads g v d as
theorem Rd.ext{d:PyData}{g g':Heap}{v:Value}(r:Rd d g v)(x:Ext g g'):Rd d g' v:=let⟨as,r⟩:=r;⟨as,Reads.keeps x r⟩
inductive Ent where
 |d(x:PyData)
 |v(x:Value)
 |p(P:Heap->Value->Prop)(h:∀g g' v,Ext g g'->P g v->P g' v)
def Means(g:Heap)(v:Value):Ent->Prop
 |.d x=>Rd x g v
 |.v x=>v=x
 |.p P _=>P g v
theorem Means.ext{g g':Heap}{v:Value}{e:Ent}(r:Means g v e)(x:Ext g g'):Means g' v e:=by
 cases e with
 |d d=>exact Rd.ext r x
 |v u=>exact r
 |p P h=>exact h _ _ _ x r
abbrev Sto:=List (Str×Ent)
abbrev Led:=List (Addr×Obj)
def Pu{α:Type}(s:Shared)(η:List Addr)(P:Heap->α->Prop)(v:α)(s':Shared):Prop:=
 ∃h' tk,s'={s with heap:=h',toks:=tk}∧Ext s.heap h'∧P (vis h' η) v
theorem Pu.trans{α β:Type}{s s₁ s2:Shared}{η:List Addr}{P:Heap->α->Prop}{P':Heap->β->Prop}{a:α}{b:β}(x:Pu s η P a s₁)(y:Pu s₁ η P' b s2):Pu s η P' b s2:=by
 obtain⟨h₁,t₁,rfl,e1,_⟩:=x;obtain⟨h2,t2,rfl,e2,q⟩:=y;exact⟨h2,t2,rfl,e1.trans e2,q⟩
theorem Pu.mono{α:Type}{s s':Shared}{η:List Addr}{P P':Heap->α->Prop}{a:α}(x:Pu s η P a s')(h:∀g,P g a->P' g a):Pu s η P' a s':=by
 obtain⟨h₁,t₁,rfl,e1,q⟩:=x;exact⟨h₁,t₁,rfl,e1,h _ q⟩
theorem Pu.here{α:Type}{s:Shared}{η:List Addr}{P:Heap->α->Prop}{a:α}(h:P (vis s.heap η) a):Pu s η P a s:=⟨s.heap,s.toks,rfl,Ext.refl _,h⟩
theorem Pu.tok{α:Type}{s:Shared}{η:List Addr}{P:Heap->α->Prop}{a:α}{t:Nat}(h:P (vis s.heap η) a):Pu s η P a {s with toks:=t}:=⟨s.heap,t,rfl,Ext.refl _,h⟩
theorem Pu.ext{α:Type}{s s':Shared}{η:List Addr}{P:Heap->α->Prop}{a:α}(x:Pu s η P a s'):Ext s.heap s'.heap:=by
 obtain⟨h₁,t₁,rfl,e1,q⟩:=x;exact e1
theorem Pu.val{α:Type}{s s':Shared}{η:List Addr}{P:Heap->α->Prop}{a:α}(x:Pu s η P a s'):P (vis s'.heap η) a:=by
 obtain⟨h₁,t₁,rfl,e1,q⟩:=x;exact q
structure Good(n:Nat)(A:Around):Prop where
 hh:A.handled=none
 dep:A.depth+n<recursionLimit
 unt:A.units+8*n+200<cLine
theorem Good.le{n k:Nat}{A:Around}(g:Good n A)(h:k≤n):Good k A:=⟨g.hh,by have:=g.dep;omega,by have:=g.unt;omega⟩
theorem Good.deeper{n:Nat}{A:Around}{V:Env}(g:Good (n+1) A):Good n (A.deeper V):=⟨g.hh,by have:=g.dep;show A.depth+1+n<_;omega,by have:=g.unt;show A.units+3+8*n+200<_;omega⟩
theorem Good.in1{n:Nat}{A:Around}(g:Good (n+1) A):Good n A.in1:=⟨g.hh,by have:=g.dep;show A.depth+n<_;omega,by have:=g.unt;show A.units+1+8*n+200<_;omega⟩
theorem Good.depth{n:Nat}{A:Around}(g:Good n A):A.depth<recursionLimit:=by have:=g.dep;omega
theorem Good.units{n:Nat}{A:Around}(g:Good n A){k:Nat}(hk:k≤200):A.units+k<cLine:=by have:=g.unt;omega
structure Base(H0:Heap)(η:List Addr)(h:Heap):Prop where
 base:Ext H0 (vis h η)
 alive:∀a∈η,∃o,h.get? a=some o
structure EnvOk(sc:Scope)(V:Env):Prop where
 scope:V.scope=sc
 glob:V.globals=mainGlobals
 bi:V.builtins=builtinsNs
 fn:sc.kind=.function
 cells:∀x,(sc.names.lookup x=some .cell∨sc.names.lookup x=some .free)->(V.cells.lookup x).isSome=true
theorem EnvOk.kf{sc:Scope}{V:Env}(e:EnvOk sc V):V.scope.kind=.function:=by rw[e.scope];exact e.fn
theorem EnvOk.kind{sc:Scope}{V:Env}(e:EnvOk sc V)(x:Str):V.kindOf x=sc.names.lookup x:=by rw[Env.kindOf,e.scope]
structure Fm(H0:Heap)(η:List Addr)(δ:Led)(V:Env)(σ:Sto)(h:Heap):Prop extends Base H0 η h where
 loc:V.locals∈η
 celh:∀p∈V.cells,p.2∈η
 ledh:∀p∈δ,p.1∈η
 ns:∃m,h.Ns V.locals m∧∀x e,σ.lookup x=some e->V.kindOf x=some .local->∃v,m x=some v∧Means (vis h η) v e
 cell:∀x e,σ.lookup x=some e->(V.kindOf x=some .cell∨V.kindOf x=some .free)->∃c v,V.cells.lookup x=some c∧h.IsCell c (some v)∧Means (vis h η) v e
 cells:∀p∈V.cells,∃v,h.IsCell p.2 v
 ledg:∀p∈δ,h.get? p.1=some p.2
 apart:V.cells.Pairwise fun x y=>x.2≠y.2
 off:∀p∈V.cells,p.2≠V.locals
 ledoff:∀p∈δ,p.1≠V.locals∧∀q∈V.cells,p.1≠q.2
section
variable{H0:Heap}{η:List Addr}{δ:Led}{V:Env}{σ:Sto}{h h':Heap}
theorem Base.ext(F:Base H0 η h)(x:Ext h h'):Base H0 η h':=⟨F.base.trans (vis_ext η x),fun a m=>let⟨o,e⟩:=F.alive a m;⟨o,x a o e⟩⟩
theorem Base.low(F:Base H0 η h){a:Addr}(m:a∈η):a<h.objs.size:=let⟨_,e⟩:=F.alive a m;Heap.lt_size e
theorem Base.h0(F:Base H0 η h):Ext H0 h:=F.base.trans (vis_to h η)
theorem Base.fresh(F:Base H0 η h):h.objs.size∉η:=fun m=>Nat.lt_irrefl _ (F.low m)
theorem Fm.ext(F:Fm H0 η δ V σ h)(x:Ext h h'):Fm H0 η δ V σ h' where
 toBase:=F.toBase.ext x
 loc:=F.loc
 celh:=F.celh
 ledh:=F.ledh
 ns:=let⟨m,n,q⟩:=F.ns;⟨m,n.keeps x,fun y e a b=>let⟨v,c,d⟩:=q y e a b;⟨v,c,d.ext (vis_ext η x)⟩⟩
 cell:=fun y e a b=>let⟨c,v,p,q,r⟩:=F.cell y e a b;⟨c,v,p,q.keeps x,r.ext (vis_ext η x)⟩
 cells:=fun p m=>let⟨v,c⟩:=F.cells p m;⟨v,c.keeps x⟩
 ledg:=fun p m=>x _ _ (F.ledg p m)
 apart:=F.apart
 off:=F.off
 ledoff:=F.ledoff
end
section
variable(Z:Program)(w:World)(H0:Heap)
def EvP(n:Nat)(sc:Scope)(σ:Sto)(δ:Led)(e:Expr)(P:Heap->Value->Prop):Prop:=
 ∀A V s η,Good n A->EnvOk sc V->Fm H0 η δ V σ s.heap->wpAny (model Z w) A (eval e V) (Pu s η P) NoE s
def TrP(n:Nat)(sc:Scope)(σ:Sto)(δ:Led)(e:Expr)(b:Bool):Prop:=
 ∀A V s η,Good n A->EnvOk sc V->Fm H0 η δ V σ s.heap->wpAny (model Z w) A (isTrue e V (eval e V)) (Pu s η (fun _ c=>c=b)) NoE s
end
section
variable{M:Model}{A:Around}{α:Type}{s:Shared}{η:List Addr}{P:Heap->α->Prop}
theorem seqP{t:Sem α}{Q:α->Shared->Prop}{E:Value->Shared->Prop}(h:wpAny M A t (Pu s η P) NoE s)(k:∀a s',Pu s η P a s'->Q a s'):wpAny M A t Q E s:=
 wpAny_mono h k fun _ _ f=>f.elim
end
def MeansAll(g:Heap):List Value->List Ent->Prop
 |[],[]=>True
 |v::vs,e::es=>Means g v e∧MeansAll g vs es
 |_,_=>False
theorem MeansAll.ext{g g':Heap}(x:Ext g g'):∀{vs:List Value} {es:List Ent},MeansAll g vs es->MeansAll g' vs es
 |[],[],_=>trivial
 |_::_,_::_,⟨a,b⟩=>⟨a.ext x,MeansAll.ext x b⟩
 |[],_::_,h=>h.elim
 |_::_,[],h=>h.elim
variable{Z:Program}{w:World}{H0:Heap}{n:Nat}{sc:Scope}{σ:Sto}{δ:Led}
abbrev EvE(Z:Program)(w:World)(H0:Heap)(n:Nat)(sc:Scope)(σ:Sto)(δ:Led)(e:Expr)(x:Ent):Prop:=EvP Z w H0 n sc σ δ e (fun g v=>Means g v x)
theorem EvP.mono{e:Expr}{P P':Heap->Value->Prop}(h:EvP Z w H0 n sc σ δ e P)(k:∀g v,P g v->P' g v):EvP Z w H0 n sc σ δ e P':=
 fun A V s η g o F=>seqP (h A V s η g o F) fun _ _ q=>q.mono fun _=>k _ _
theorem ev_name{x:Str}{pos:Pos}{e:Ent}(hs:σ.lookup x=some e)(hx:sc.names.lookup x=some .local∨sc.names.lookup x=some .cell∨sc.names.lookup x=some .free)
  (hd:(x==("__debug__":Str))=false)(hn:(x==("__classdict__":Str))=false):EvE Z w H0 n sc σ δ (.Name x pos) e:=by
 intro A V s η g o F;have hkf:=o.kf;refine wpAny_Name ?_ hd;rcases hx with hx|hx|hx
 ·obtain⟨m,hm,q⟩:=F.ns
  obtain⟨v,a,b⟩:=q x e hs (by rw[o.kind];exact hx);exact wpAny_loadName_local hkf (by rw[o.kind];exact hx) hm a (Pu.here b)
 ·obtain⟨c,v,a,b,d⟩:=F.cell x e hs (by rw[o.kind];exact .inl hx)
  exact wpAny_loadName_cell hkf (by rw[o.kind];exact hx) a b (Pu.here d)
 ·obtain⟨c,v,a,b,d⟩:=F.cell x e hs (by rw[o.kind];exact .inr hx)
  exact wpAny_loadName_free hkf (by rw[o.kind];exact hx) a b (Pu.here d) hn
def GIs(H0:Heap)(x:Str)(v:Value):Prop:=∃mg,H0.Ns mainGlobals mg∧(mg x=some v∨(mg x=none∧∃mb,H0.Ns builtinsNs mb∧mb x=some v))
theorem ev_glob{x:Str}{pos:Pos}{v:Value}(hg:GIs H0 x v)(hx:sc.names.lookup x=some .globalImplicit)
  (hd:(x==("__debug__":Str))=false):EvE Z w H0 n sc σ δ (.Name x pos) (.v v):=by
 intro A V s η g o F;have hkf:=o.kf;obtain⟨mg,h1,h2⟩:=hg;have h1':s.heap.Ns V.globals mg:=by rw[o.glob];exact h1.keeps F.toBase.h0
 refine Name_function_global hkf (by rw[o.kind];exact hx) ?_ hd;rcases h2 with h2|⟨h2,mb,h3,h4⟩
 ·exact loadGlobal_global h1' h2 (Pu.here rfl)
 ·exact loadGlobal_builtin h1' h2 (by rw[o.bi];exact h3.keeps F.toBase.h0) h4 (Pu.here rfl)
theorem ev_int{i:Int}{k:Nat}{pos:Pos}:EvE Z w H0 n sc σ δ (.Constant (.int i) k pos) (.d (.int i)):=
 fun _ _ _ _ _ _ _=>wpAny_Constant_int (Pu.tok ⟨[],.int _ _⟩)
theorem ev_str{x:Str}{k:Nat}{pos:Pos}:EvE Z w H0 n sc σ δ (.Constant (.str x) k pos) (.d (.str x)):=
 fun _ _ _ _ _ _ _=>Constant_str (Pu.tok ⟨[],.str _ _⟩)
theorem ev_none{k:Nat}{pos:Pos}:EvE Z w H0 n sc σ δ (.Constant .none k pos) (.d .none):=
 fun _ _ _ _ _ _ _=>wpAny_pure (Pu.here ⟨[],.none⟩)
theorem ev_bool{b:Bool}{k:Nat}{pos:Pos}:EvE Z w H0 n sc σ δ (.Constant (.bool b) k pos) (.d (.bool b)):=
 fun _ _ _ _ _ _ _=>wpAny_pure (Pu.here ⟨[],.bool _⟩)
def OpBin(Z:Program)(w:World)(H0:Heap)(n:Nat)(f:Value->Value->Sem Value)(x y:Ent)(P:Heap->Value->Prop):Prop:=
 ∀A s η a b,Good n A->Base H0 η s.heap->Means (vis s.heap η) a x->Means (vis s.heap η) b y->wpAny (model Z w) A (f a b) (Pu s η P) NoE s
theorem ev_bin{l r:Expr}{op:Operator}{pos:Pos}{x y:Ent}{P:Heap->Value->Prop}(hl:EvE Z w H0 n sc σ δ l x)(hr:EvE Z w H0 n sc σ δ r y)(ho:OpBin Z w H0 n (binaryOp op) x y P):
  EvP Z w H0 n sc σ δ (.BinOp l op r pos) P:=by
 intro A V s η g o F;refine wpAny_BinOp (seqP (hl A V s η g o F) fun a s₁ q1=>?_);have F1:=F.ext q1.ext;refine seqP (hr A V s₁ η g o F1) fun b s2 q2=>?_;refine seqP (ho A s2 η a b g (F1.ext q2.ext).toBase (q1.val.ext (vis_ext η q2.ext)) q2.val) fun _ _ q3=>(q1.trans q2).trans q3
theorem ev_cmp{l r:Expr}{op:CmpOp}{pos:Pos}{x y:Ent}{P:Heap->Value->Prop}(hl:EvE Z w H0 n sc σ δ l x)(hr:EvE Z w H0 n sc σ δ r y)(ho:OpBin Z w H0 n (compareOp op) x y P)
  (hm:behindInMarks op r=false):EvP Z w H0 n sc σ δ (.Compare l [op] [r] pos) P:=by
 intro A V s η g o F;refine wpAny_Compare1 (seqP (hl A V s η g o F) fun a s₁ q1=>?_) hm;have F1:=F.ext q1.ext;refine seqP (hr A V s₁ η g o F1) fun b s2 q2=>?_;refine seqP (ho A s2 η a b g (F1.ext q2.ext).toBase (q1.val.ext (vis_ext η q2.ext)) q2.val) fun _ _ q3=>(q1.trans q2).trans q3
theorem tr_cmp{l r:Expr}{op:CmpOp}{pos:Pos}{x y:Ent}{b:Bool}(hl:EvE Z w H0 n sc σ δ l x)(hr:EvE Z w H0 n sc σ δ r y)(ho:OpBin Z w H0 n (compareOp op) x y (Rd (.bool b)))
  (hm:behindInMarks op r=false):TrP Z w H0 n sc σ δ (.Compare l [op] [r] pos) b:=by
 intro A V s η g o F;refine wpAny_isTrue_Compare1 (seqP (hl A V s η g o F) fun a s₁ q1=>?_) hm;have F1:=F.ext q1.ext;refine seqP (hr A V s₁ η g o F1) fun c s2 q2=>?_;refine seqP (ho A s2 η a c g (F1.ext q2.ext).toBase (q1.val.ext (vis_ext η q2.ext)) q2.val) fun v s3 q3=>?_;obtain⟨as,hv⟩:=q3.val;cases hv;exact wpAny_truthy_bool (((q1.trans q2).trans q3).trans (Pu.here rfl))
def OpTr(Z:Program)(w:World)(H0:Heap)(n:Nat)(x:Ent)(b:Bool):Prop:=
 ∀A s η a,Good n A->Base H0 η s.heap->Means (vis s.heap η) a x->wpAny (model Z w) A (truthy a) (Pu s η (fun _ c=>c=b)) NoE s
theorem tr_bool{b:Bool}:OpTr Z w H0 n (.d (.bool b)) b:=by
 intro A s η a g B ⟨as,r⟩;cases r;exact wpAny_truthy_bool (Pu.here rfl)
theorem tr_plain{e:Expr}{x:Ent}{b:Bool}(h:EvE Z w H0 n sc σ δ e x)(ht:OpTr Z w H0 n x b)
  (hp:∀V whole,PySem.isTrue e V whole=(do let v ←whole;standAt e.pos;holding [v] (truthy v))):TrP Z w H0 n sc σ δ e b:=by
 intro A V s η g o F;refine isTrue_plain (seqP (h A V s η g o F) fun v s₁ q1=>?_) (hp _ _);exact seqP (ht A s₁ η v g (F.ext q1.ext).toBase q1.val) fun _ _ q2=>q1.trans q2
theorem tr_not{e:Expr}{pos:Pos}{b:Bool}(h:TrP Z w H0 n sc σ δ e b):TrP Z w H0 n sc σ δ (.UnaryOp .Not e pos) (!b):=by
 intro A V s η g o F;show wpAny _ A (do return !(←isTrue e V (eval e V))) _ _ s;exact wpAny_bind (seqP (h A V s η g o F) fun c s₁ q1=>wpAny_pure (q1.trans (Pu.here (by rw[q1.val]))))
def TrsP(Z:Program)(w:World)(H0:Heap)(n:Nat)(sc:Scope)(σ:Sto)(δ:Led)(op:BoolOp)(es:List Expr)(b:Bool):Prop:=
 ∀A V s η,Good n A->EnvOk sc V->Fm H0 η δ V σ s.heap->wpAny (model Z w) A (allTrue op es V) (Pu s η (fun _ c=>c=b)) NoE s
theorem tr_boolop{op:BoolOp}{es:List Expr}{pos:Pos}{b:Bool}(h:TrsP Z w H0 n sc σ δ op es b):TrP Z w H0 n sc σ δ (.BoolOp op es pos) b:=
 fun A V s η g o F=>h A V s η g o F
theorem trs_nil{op:BoolOp}:TrsP Z w H0 n sc σ δ op [] (op==.And):=fun A V s η g o F=>wpAny_pure (Pu.here rfl)
theorem trs_and{e:Expr}{es:List Expr}{a b:Bool}(h:TrP Z w H0 n sc σ δ e a)(hr:a=true->TrsP Z w H0 n sc σ δ .And es b):TrsP Z w H0 n sc σ δ .And (e::es) (a && b):=by
 intro A V s η g o F;show wpAny _ A (isTrue e V (eval e V) >>=fun t=>match BoolOp.And,t with|.And,false=>pure false|.Or,true=>pure true|_,_=>allTrue .And es V) _ _ s;refine wpAny_bind (seqP (h A V s η g o F) fun c s₁ q1=>?_);have e1:=q1.val;subst e1;cases c with
 |false=>exact wpAny_pure (q1.trans (Pu.here rfl))
 |true=>exact seqP (hr rfl A V s₁ η g o (F.ext q1.ext)) fun _ _ q2=>q1.trans (q2.mono fun _ e=>by rw[e];rfl)
theorem trs_or{e:Expr}{es:List Expr}{a b:Bool}(h:TrP Z w H0 n sc σ δ e a)(hr:a=false->TrsP Z w H0 n sc σ δ .Or es b):TrsP Z w H0 n sc σ δ .Or (e::es) (a ||b):=by
 intro A V s η g o F;show wpAny _ A (isTrue e V (eval e V) >>=fun t=>match BoolOp.Or,t with|.And,false=>pure false|.Or,true=>pure true|_,_=>allTrue .Or es V) _ _ s;refine wpAny_bind (seqP (h A V s η g o F) fun c s₁ q1=>?_);have e1:=q1.val;subst e1;cases c with
 |true=>exact wpAny_pure (q1.trans (Pu.here rfl))
 |false=>exact seqP (hr rfl A V s₁ η g o (F.ext q1.ext)) fun _ _ q2=>q1.trans (q2.mono fun _ e=>by rw[e];rfl)
def BosP(Z:Program)(w:World)(H0:Heap)(n:Nat)(sc:Scope)(σ:Sto)(δ:Led)(pos:Pos)(op:BoolOp)(es:List Expr)(x:Ent):Prop:=
 ∀A V s η,Good n A->EnvOk sc V->Fm H0 η δ V σ s.heap->wpAny (model Z w) A (boolOp pos op (evalEach es V)) (Pu s η (fun g v=>Means g v x)) NoE s
theorem ev_boolop{op:BoolOp}{es:List Expr}{pos:Pos}{x:Ent}(h:BosP Z w H0 n sc σ δ pos op es x):EvE Z w H0 n sc σ δ (.BoolOp op es pos) x:=
 fun A V s η g o F=>h A V s η g o F
theorem bos_one{op:BoolOp}{e:Expr}{pos:Pos}{x:Ent}(h:EvE Z w H0 n sc σ δ e x):BosP Z w H0 n sc σ δ pos op [e] x:=
 fun A V s η g o F=>h A V s η g o F
theorem bos_and{e e':Expr}{es:List Expr}{pos:Pos}{a b:Bool}(h:EvE Z w H0 n sc σ δ e (.d (.bool a)))(hr:a=true->BosP Z w H0 n sc σ δ pos .And (e'::es) (.d (.bool b))):
  BosP Z w H0 n sc σ δ pos .And (e::e'::es) (.d (.bool (a && b))):=by
 intro A V s η g o F;show wpAny _ A (eval e V >>=fun v=>standAt pos >>=fun _=>holding [v] (truthy v) >>=fun t=>match BoolOp.And,t with|.And,false=>pure v|.Or,true=>pure v|_,_=>boolOp pos .And (evalEach (e'::es) V)) _ _ s;refine wpAny_bind (seqP (h A V s η g o F) fun v s₁ q1=>wpAny_bind (wpAny_standAt (wpAny_bind (wpAny_holding ?_))));obtain⟨as,hv⟩:=q1.val;cases hv;refine wpAny_truthy_bool ?_;cases a with
 |false=>exact wpAny_pure q1
 |true=>exact seqP (hr rfl A V s₁ η g o (F.ext q1.ext)) fun _ _ q2=>q1.trans q2
theorem bos_or{e e':Expr}{es:List Expr}{pos:Pos}{a b:Bool}(h:EvE Z w H0 n sc σ δ e (.d (.bool a)))(hr:a=false->BosP Z w H0 n sc σ δ pos .Or (e'::es) (.d (.bool b))):
  BosP Z w H0 n sc σ δ pos .Or (e::e'::es) (.d (.bool (a ||b))):=by
 intro A V s η g o F;show wpAny _ A (eval e V >>=fun v=>standAt pos >>=fun _=>holding [v] (truthy v) >>=fun t=>match BoolOp.Or,t with|.And,false=>pure v|.Or,true=>pure v|_,_=>boolOp pos .Or (evalEach (e'::es) V)) _ _ s;refine wpAny_bind (seqP (h A V s η g o F) fun v s₁ q1=>wpAny_bind (wpAny_standAt (wpAny_bind (wpAny_holding ?_))));obtain⟨as,hv⟩:=q1.val;cases hv;refine wpAny_truthy_bool ?_;cases a with
 |true=>exact wpAny_pure q1
 |false=>exact seqP (hr rfl A V s₁ η g o (F.ext q1.ext)) fun _ _ q2=>q1.trans q2
theorem ev_if{t b c:Expr}{pos:Pos}{p:Bool}{P:Heap->Value->Prop}(h:TrP Z w H0 n sc σ δ t p)(h1:p=true->EvP Z w H0 n sc σ δ b P)(h2:p=false->EvP Z w H0 n sc σ δ c P):
  EvP Z w H0 n sc σ δ (.IfExp t b c pos) P:=by
 intro A V s η g o F;show wpAny _ A (isTrue t V (eval t V) >>=fun x=>if x=true then eval b V else eval c V) _ _ s;refine wpAny_bind (seqP (h A V s η g o F) fun x s₁ q1=>?_);have e1:=q1.val;subst e1;cases x with
 |true=>exact seqP (h1 rfl A V s₁ η g o (F.ext q1.ext)) fun _ _ q2=>q1.trans q2
 |false=>exact seqP (h2 rfl A V s₁ η g o (F.ext q1.ext)) fun _ _ q2=>q1.trans q2
theorem ev_ifd{t b c:Expr}{pos:Pos}{p:Bool}{x y:PyData}(h:TrP Z w H0 n sc σ δ t p)(h1:p=true->EvE Z w H0 n sc σ δ b (.d x))(h2:p=false->EvE Z w H0 n sc σ δ c (.d y)):
  EvE Z w H0 n sc σ δ (.IfExp t b c pos) (.d (if p then x else y)):=
 ev_if h (fun e=>by subst e;exact h1 rfl) (fun e=>by subst e;exact h2 rfl)
def EvsP(Z:Program)(w:World)(H0:Heap)(n:Nat)(sc:Scope)(σ:Sto)(δ:Led)(pos:Pos)(es:List Expr)(xs:List Ent):Prop:=
 ∀A V s η,Good n A->EnvOk sc V->Fm H0 η δ V σ s.heap->wpAny (model Z w) A (spliced (backTo pos (starEach es V))) (Pu s η (fun g vs=>MeansAll g vs xs)) NoE s
theorem evs_nil{pos:Pos}:EvsP Z w H0 n sc σ δ pos [] []:=fun A V s η g o F=>spliced_nil (Pu.here trivial)
theorem evs_cons{pos:Pos}{e:Expr}{es:List Expr}{x:Ent}{xs:List Ent}(h:EvE Z w H0 n sc σ δ e x)(hs:EvsP Z w H0 n sc σ δ pos es xs)
  (hb:∀V,backTo pos (starEach (e::es) V)=(false,eval e V)::backTo pos (starEach es V)):EvsP Z w H0 n sc σ δ pos (e::es) (x::xs):=by
 intro A V s η g o F;rw[hb];refine spliced_cons (seqP (h A V s η g o F) fun v s₁ q1=>?_);exact seqP (hs A V s₁ η g o (F.ext q1.ext)) fun vs s2 q2=>(q1.trans q2).trans (Pu.here ⟨q1.val.ext (vis_ext η q2.ext),q2.val⟩)
inductive F2{α β:Type}(R:α->β->Prop):List α->List β->Prop
 |nil:F2 R [] []
 |cons {a b as bs}:R a b->F2 R as bs->F2 R (a::as) (b::bs)
namespace F2
variable{α β:Type}{R R':α->β->Prop}
theorem length:∀{as:List α} {bs:List β},F2 R as bs->as.length=bs.length
 |_,_,.nil=>rfl
 |_,_,.cons _ h=>by rw[length_cons,length_cons,h.length]
theorem imp(k:∀a b,R a b->R' a b):∀{as:List α} {bs:List β},F2 R as bs->F2 R' as bs
 |_,_,.nil=>.nil
 |_,_,.cons h r=>.cons (k _ _ h) (r.imp k)
theorem append:∀{as as':List α} {bs bs':List β},F2 R as bs->F2 R as' bs'->F2 R (as++as') (bs++bs')
 |_,_,_,_,.nil,h=>h
 |_,_,_,_,.cons a r,h=>.cons a (r.append h)
theorem drop:∀{as:List α} {bs:List β},F2 R as bs->∀k,F2 R (as.drop k) (bs.drop k)
 |_,_,h,0=>by simpa using h
 |_,_,.nil,k+1=>by simpa using F2.nil
 |_,_,.cons _ r,k+1=>by simpa using r.drop k
theorem take:∀{as:List α} {bs:List β},F2 R as bs->∀k,F2 R (as.take k) (bs.take k)
 |_,_,h,0=>by simpa using F2.nil
 |_,_,.nil,k+1=>by simpa using F2.nil
 |_,_,.cons a r,k+1=>by simpa using F2.cons a (r.take k)
theorem get:∀{as:List α} {bs:List β},F2 R as bs->∀{i:Nat} {b:β},bs[i]? =some b->∃a,as[i]? =some a∧R a b
 |_,_,.nil,_,_,h=>by simp at h
 |_,_,.cons a r,0,_,h=>by simp at h;subst h;exact⟨_,rfl,a⟩
 |_,_,.cons a r,i+1,_,h=>by simp at h;obtain⟨x,y,z⟩:=r.get h;exact⟨x,by simpa using y,z⟩
theorem get':∀{as:List α} {bs:List β},F2 R as bs->∀{i:Nat} {a:α},as[i]? =some a->∃b,bs[i]? =some b∧R a b
 |_,_,.nil,_,_,h=>by simp at h
 |_,_,.cons a r,0,_,h=>by simp at h;subst h;exact⟨_,rfl,a⟩
 |_,_,.cons a r,i+1,_,h=>by simp at h;obtain⟨x,y,z⟩:=r.get' h;exact⟨x,by simpa using y,z⟩
end F2
theorem readsAll_f2{g:Heap}:∀{vs:List Value} {ds:List PyData} {as:List Addr},ReadsAll g vs ds as->F2 (fun v d=>Rd d g v) vs ds
 |_,_,_,.nil=>.nil
 |_,_,_,.cons r h=>.cons ⟨_,r⟩ (readsAll_f2 h)
theorem f2_readsAll{g:Heap}:∀{vs:List Value} {ds:List PyData},F2 (fun v d=>Rd d g v) vs ds->∃as,ReadsAll g vs ds as
 |_,_,.nil=>⟨_,.nil⟩
 |_,_,.cons ⟨_,r⟩ h=>let⟨_,q⟩:=f2_readsAll h;⟨_,.cons r q⟩
theorem meansAll_f2{g:Heap}:∀{vs:List Value} {ds:List PyData},MeansAll g vs (ds.map .d)->F2 (fun v d=>Rd d g v) vs ds
 |[],[],_=>.nil
 |_::_,_::_,⟨a,b⟩=>.cons a (meansAll_f2 b)
 |[],_::_,h=>h.elim
 |_::_,[],h=>h.elim
theorem rd_list{g:Heap}{v:Value}{ds:List PyData}(r:Rd (.list ds) g v):∃a vs,v=.ref a∧g.IsList a (toArray vs)∧F2 (fun v d=>Rd d g v) vs ds:=by
 obtain⟨as,r⟩:=r;cases r with
 |@list a o vs n _ as ho hc hd hr=>exact⟨a,vs.toList,rfl,⟨o,ho,hc,n,by simpa using hd⟩,readsAll_f2 hr⟩
theorem list_rd{g:Heap}{a:Addr}{vs:List Value}{ds:List PyData}(hl:g.IsList a vs.toArray)(h:F2 (fun v d=>Rd d g v) vs ds):Rd (.list ds) g (.ref a):=by
 obtain⟨o,ho,hc,n,hd⟩:=hl;obtain⟨as,hr⟩:=f2_readsAll h;exact⟨_,.list ho hc hd (by simpa using hr)⟩
theorem rd_tuple{g:Heap}{v:Value}{ds:List PyData}(r:Rd (.tuple ds) g v):∃a vs,v=.ref a∧IsTup g a (toArray vs)∧F2 (fun v d=>Rd d g v) vs ds:=by
 obtain⟨as,r⟩:=r;cases r with
 |@tuple a o vs n _ as ho hc hd hr=>exact⟨a,vs.toList,rfl,⟨o,ho,hc,n,by simpa using hd⟩,readsAll_f2 hr⟩
theorem tuple_rd{g:Heap}{a:Addr}{vs:List Value}{ds:List PyData}(hl:IsTup g a vs.toArray)(h:F2 (fun v d=>Rd d g v) vs ds):Rd (.tuple ds) g (.ref a):=by
 obtain⟨o,ho,hc,n,hd⟩:=hl;obtain⟨as,hr⟩:=f2_readsAll h;exact⟨_,.tuple ho hc hd (by simpa using hr)⟩
theorem rd_int{g:Heap}{v:Value}{i:Int}(r:Rd (.int i) g v):∃t,v=.int i t:=by obtain⟨as,r⟩:=r;cases r;exact⟨_,rfl⟩
theorem rd_str{g:Heap}{v:Value}{x:Str}(r:Rd (.str x) g v):∃t,v=.str x t:=by obtain⟨as,r⟩:=r;cases r;exact⟨_,rfl⟩
theorem rd_bool{g:Heap}{v:Value}{x:Bool}(r:Rd (.bool x) g v):v=.bool x:=by obtain⟨as,r⟩:=r;cases r;rfl
theorem rd_none{g:Heap}{v:Value}(r:Rd .none g v):v=.none:=by obtain⟨as,r⟩:=r;cases r;rfl
theorem int_rd(g:Heap)(i:Int)(t:Tok):Rd (.int i) g (.int i t):=⟨[],.int _ _⟩
theorem str_rd(g:Heap)(i:Str)(t:Tok):Rd (.str i) g (.str i t):=⟨[],.str _ _⟩
theorem bool_rd(g:Heap)(i:Bool):Rd (.bool i) g (.bool i):=⟨[],.bool _⟩
theorem isList_ext{g h:Heap}{a:Addr}{x:Array Value}(e:Ext g h)(i:g.IsList a x):h.IsList a x:=let⟨o,ho,r⟩:=i;⟨o,e _ _ ho,r⟩
theorem isTup_ext{g h:Heap}{a:Addr}{x:Array Value}(e:Ext g h)(i:IsTup g a x):IsTup h a x:=let⟨o,ho,r⟩:=i;⟨o,e _ _ ho,r⟩
theorem ext_push(h:Heap)(o:Obj):Ext h (h.push o):=fun _ _ e=>Heap.get?_push_of_some _ e
theorem vis_push{H0 h:Heap}{η:List Addr}(B:Base H0 η h)(o:Obj)(hf:o.isFreed=false:=by rfl):(vis (h.push o) η).get? h.objs.size=some o:=
 vis_get (Heap.get?_push_size _ hf) B.fresh
theorem newList_P{A:Around}{s:Shared}{η:List Addr}{vs:List Value}{ds:List PyData}(B:Base H0 η s.heap)(h:F2 (fun v d=>Rd d (vis s.heap η) v) vs ds)(hz:ds.length≤sizeLine):
  wpAny (model Z w) A (newList vs) (Pu s η (Rd (.list ds))) NoE s:=by
 refine wpAny_newObj_type ⟨_,_,rfl,ext_push _ _,?_⟩ (by show vs.toArray.size≤sizeLine;rw[size_toArray,h.length];exact hz);exact list_rd ⟨_,vis_push B _,rfl,0,rfl⟩ (h.imp fun _ _ r=>r.ext (vis_ext η (ext_push _ _)))
theorem newTuple_P{A:Around}{s:Shared}{η:List Addr}{vs:List Value}{ds:List PyData}(B:Base H0 η s.heap)(h:F2 (fun v d=>Rd d (vis s.heap η) v) vs ds)(hz:ds.length≤sizeLine):
  wpAny (model Z w) A (newTuple vs) (Pu s η (Rd (.tuple ds))) NoE s:=by
 refine wpAny_newObj_type ⟨_,_,rfl,ext_push _ _,?_⟩ (by show vs.toArray.size≤sizeLine;rw[size_toArray,h.length];exact hz);exact tuple_rd ⟨_,vis_push B _,rfl,0,rfl⟩ (h.imp fun _ _ r=>r.ext (vis_ext η (ext_push _ _)))
theorem ev_list{es:List Expr}{pos:Pos}{ds:List PyData}(h:EvsP Z w H0 n sc σ δ pos es (ds.map .d))(hz:ds.length≤sizeLine):EvE Z w H0 n sc σ δ (.List es pos) (.d (.list ds)):=by
 intro A V s η g o F;refine List_ (seqP (h A V s η g o F) fun vs s₁ q1=>?_);exact seqP (newList_P (F.ext q1.ext).toBase (meansAll_f2 q1.val) hz) fun _ _ q2=>q1.trans q2
theorem ev_tuple{es:List Expr}{k:Nat}{pos:Pos}{ds:List PyData}(h:EvsP Z w H0 n sc σ δ pos es (ds.map .d))(hz:ds.length≤sizeLine):EvE Z w H0 n sc σ δ (.Tuple es k pos) (.d (.tuple ds)):=by
 intro A V s η g o F;refine Tuple_ (seqP (h A V s η g o F) fun vs s₁ q1=>?_);exact seqP (newTuple_P (F.ext q1.ext).toBase (meansAll_f2 q1.val) hz) fun _ _ q2=>q1.trans q2
theorem op_addI{a b:Int}:OpBin Z w H0 n (binaryOp .Add) (.d (.int a)) (.d (.int b)) (Rd (.int (a+b))):=by
 intro A s η u v g B ra rb;obtain⟨t,rfl⟩:=rd_int ra;obtain⟨t',rfl⟩:=rd_int rb;exact add_int (Pu.tok (int_rd _ _ _))
theorem op_subI{a b:Int}:OpBin Z w H0 n (binaryOp .Sub) (.d (.int a)) (.d (.int b)) (Rd (.int (a - b))):=by
 intro A s η u v g B ra rb;obtain⟨t,rfl⟩:=rd_int ra;obtain⟨t',rfl⟩:=rd_int rb;exact sub_int (Pu.tok (int_rd _ _ _))
theorem op_modI{a b:Int}(hb:b≠0):OpBin Z w H0 n (binaryOp .Mod) (.d (.int a)) (.d (.int b)) (Rd (.int (a.fmod b))):=by
 intro A s η u v g B ra rb;obtain⟨t,rfl⟩:=rd_int ra;obtain⟨t',rfl⟩:=rd_int rb;exact mod_int hb (Pu.tok (int_rd _ _ _))
theorem op_divI{a b:Int}(hb:b≠0)(hs:b.natAbs<1073741824):OpBin Z w H0 n (binaryOp .FloorDiv) (.d (.int a)) (.d (.int b)) (Rd (.int (a.fdiv b))):=by
 intro A s η u v g B ra rb;obtain⟨t,rfl⟩:=rd_int ra;obtain⟨t',rfl⟩:=rd_int rb;exact floordiv_int hb (Pu.tok (int_rd _ _ _)) (.inl (PyProof.noPylong_small hs))
theorem op_addS{a b:Str}(hz:(a++b).length≤sizeLine):OpBin Z w H0 n (binaryOp .Add) (.d (.str a)) (.d (.str b)) (Rd (.str (a++b))):=by
 intro A s η u v g B ra rb;obtain⟨t,rfl⟩:=rd_str ra;obtain⟨t',rfl⟩:=rd_str rb;refine PySem.P.add_str ?_;have e0:∀x:Str,(x.length==0)=true->x=⟨#[]⟩:=fun x h=>by
  obtain⟨⟨l⟩⟩:=x;have:l=[]:=by simpa [Str.length] using h
  rw[this]
 split
 ·rename_i h
  rw[e0 a h];refine Pu.here ?_;have:(⟨#[]⟩:Str)++b=b:=Str.empty_append b;rw[this];exact str_rd _ _ _
 ·split
  ·rename_i h
   rw[e0 b h];refine Pu.here ?_;have:a++(⟨#[]⟩:Str)=a:=Str.append_empty a;rw[this];exact str_rd _ _ _
  ·exact⟨hz,Pu.tok (str_rd _ _ _)⟩
theorem op_ltI{a b:Int}:OpBin Z w H0 n (compareOp .Lt) (.d (.int a)) (.d (.int b)) (Rd (.bool (decide (a<b)))):=by
 intro A s η u v g B ra rb;obtain⟨t,rfl⟩:=rd_int ra;obtain⟨t',rfl⟩:=rd_int rb;exact PyProof.Rows.lt_int (Pu.here (bool_rd _ _))
theorem op_gtI{a b:Int}:OpBin Z w H0 n (compareOp .Gt) (.d (.int a)) (.d (.int b)) (Rd (.bool (decide (b<a)))):=by
 intro A s η u v g B ra rb;obtain⟨t,rfl⟩:=rd_int ra;obtain⟨t',rfl⟩:=rd_int rb;exact PyProof.Rows.gt_int (Pu.here (bool_rd _ _))
theorem op_eqI{a b:Int}:OpBin Z w H0 n (compareOp .Eq) (.d (.int a)) (.d (.int b)) (Rd (.bool (a==b))):=by
 intro A s η u v g B ra rb;obtain⟨t,rfl⟩:=rd_int ra;obtain⟨t',rfl⟩:=rd_int rb;exact PyProof.Rows.eq_int (Pu.here (bool_rd _ _))
theorem op_eqS{a b:Str}:OpBin Z w H0 n (compareOp .Eq) (.d (.str a)) (.d (.str b)) (Rd (.bool (a==b))):=by
 intro A s η u v g B ra rb;obtain⟨t,rfl⟩:=rd_str ra;obtain⟨t',rfl⟩:=rd_str rb;exact PyProof.Rows.eq_str (Pu.here (bool_rd _ _))
theorem op_neS{a b:Str}:OpBin Z w H0 n (compareOp .NotEq) (.d (.str a)) (.d (.str b)) (Rd (.bool (a !=b))):=by
 intro A s η u v g B ra rb;obtain⟨t,rfl⟩:=rd_str ra;obtain⟨t',rfl⟩:=rd_str rb;exact PyProof.Rows.ne_str (Pu.here (bool_rd _ _))
mutual
def clean:PyData->Bool
 |.none|.int _=>true
 |.bool _=>false
 |.str x=>PyData.strOk x
 |.list xs|.tuple xs=>cleanAll xs
 |.dict _=>false
def cleanAll:List PyData->Bool
 |[]=>true
 |x::xs=>clean x && cleanAll xs
end
mutual
theorem clean_lay:∀d:PyData,clean d=true->d.canLay0=true
 |.none,_|.int _,_=>by simp[PyData.canLay0]
 |.bool _,h|.dict _,h=>by simp[clean] at h
 |.str x,h=>by simpa [clean,PyData.canLay0] using h
 |.list xs,h|.tuple xs,h=>by rw[clean] at h;rw[PyData.canLay0];exact cleanAll_lay xs h
theorem cleanAll_lay:∀ds:List PyData,cleanAll ds=true->PyData.canLayAll0 ds=true
 |[],_=>rfl
 |x::xs,h=>by
  rw[cleanAll,Bool.and_eq_true] at h;rw[PyData.canLayAll0,clean_lay x h.1,cleanAll_lay xs h.2];rfl
end
mutual
theorem clean_noMix:∀a b:PyData,clean a=true->clean b=true->SeqAt.noMix a b=true
 |.bool _,_,h,_|.dict _,_,h,_=>by simp[clean] at h
 |.list xs,.list ys,h,h'|.tuple xs,.tuple ys,h,h'=>by rw[clean] at h h';rw[SeqAt.noMix];exact cleanAll_noMix xs ys h h'
 |.none,b,_,h'|.int _,b,_,h'|.str _,b,_,h'=>by cases b<;> simp_all [SeqAt.noMix,clean]
 |.list _,.none,_,_|.list _,.bool _,_,_|.list _,.int _,_,_|.list _,.str _,_,_|.list _,.tuple _,_,_|.list _,.dict _,_,_=>by simp[SeqAt.noMix]
 |.tuple _,.none,_,_|.tuple _,.bool _,_,_|.tuple _,.int _,_,_|.tuple _,.str _,_,_|.tuple _,.list _,_,_|.tuple _,.dict _,_,_=>by simp[SeqAt.noMix]
theorem cleanAll_noMix:∀a b:List PyData,cleanAll a=true->cleanAll b=true->SeqAt.noMixAll a b=true
 |[],[],_,_|[],_::_,_,_|_::_,[],_,_=>by simp[SeqAt.noMixAll]
 |x::xs,y::ys,h,h'=>by
  rw[cleanAll,Bool.and_eq_true] at h h';rw[SeqAt.noMixAll,clean_noMix x y h.1 h'.1,cleanAll_noMix xs ys h.2 h'.2];rfl
end
theorem eqv_same{a b:PyData}(ha:clean a=true)(hb:clean b=true):PyData.eqv a b=PySem.Spec.same a b:=(SeqAt.same_eq_eqv a b (clean_noMix a b ha hb)).symm
def fine(d:PyData):Bool:=clean d && decide (d.depth≤64)
theorem fine_shaped{d:PyData}(h:fine d=true):SeqAt.shaped d=true:=by
 rw[fine,Bool.and_eq_true] at h;rw[SeqAt.shaped,clean_lay d h.1,h.2];rfl
theorem fine_clean{d:PyData}(h:fine d=true):clean d=true:=by rw[fine,Bool.and_eq_true] at h;exact h.1
theorem op_eqD{a b:PyData}(ha:fine a=true)(hb:fine b=true):OpBin Z w H0 n (compareOp .Eq) (.d a) (.d b) (Rd (.bool (PySem.Spec.same a b))):=by
 intro A s η u v g B ⟨_,ra⟩ ⟨_,rb⟩;exact SeqAt.compareEq_shaped (Reads.keeps (vis_to _ _) ra) (Reads.keeps (vis_to _ _) rb) (fine_shaped ha) (fine_shaped hb) (g.units (by decide)) (by rw[eqv_same (fine_clean ha) (fine_clean hb)];exact Pu.here (bool_rd _ _))
theorem op_neD{a b:PyData}(ha:fine a=true)(hb:fine b=true):OpBin Z w H0 n (compareOp .NotEq) (.d a) (.d b) (Rd (.bool (!PySem.Spec.same a b))):=by
 intro A s η u v g B ⟨_,ra⟩ ⟨_,rb⟩;exact SeqAt.compareNe_shaped (Reads.keeps (vis_to _ _) ra) (Reads.keeps (vis_to _ _) rb) (fine_shaped ha) (fine_shaped hb) (g.units (by decide)) (by rw[eqv_same (fine_clean ha) (fine_clean hb)];exact Pu.here (bool_rd _ _))
theorem any_same{d:PyData}(hd:clean d=true):∀xs:List PyData,cleanAll xs=true->xs.any (fun y=>PyData.eqv y d)=xs.any (fun y=>PySem.Spec.same y d)
 |[],_=>rfl
 |x::xs,h=>by
  rw[cleanAll,Bool.and_eq_true] at h;rw[any_cons,any_cons,eqv_same h.1 hd,any_same hd xs h.2]
theorem op_inL{d:PyData}{xs:List PyData}(hd:fine d=true)(hx:cleanAll xs=true):OpBin Z w H0 n (compareOp .In) (.d d) (.d (.list xs)) (Rd (.bool (xs.any fun y=>PySem.Spec.same y d))):=by
 intro A s η u v g B ⟨_,ra⟩ ⟨_,rb⟩;refine SeqAt.in_list_reads (Reads.keeps (vis_to _ _) rb) (Reads.keeps (vis_to _ _) ra) (cleanAll_lay _ hx) (clean_lay _ (fine_clean hd)) ?_ (by rw[any_same (fine_clean hd) _ hx];exact Pu.here (bool_rd _ _));have h1:d.depth≤64:=by rw[fine,Bool.and_eq_true] at hd;exact of_decide_eq_true hd.2
 have h2:=g.units (k:=200) (Nat.le_refl _);have h3:min (PyData.depthAll xs) d.depth≤d.depth:=Nat.min_le_right _ _;omega
theorem op_notInL{d:PyData}{xs:List PyData}(hd:fine d=true)(hx:cleanAll xs=true):OpBin Z w H0 n (compareOp .NotIn) (.d d) (.d (.list xs)) (Rd (.bool (!xs.any fun y=>PySem.Spec.same y d))):=by
 intro A s η u v g B ⟨_,ra⟩ ⟨_,rb⟩;refine SeqAt.notIn_list_reads (Reads.keeps (vis_to _ _) rb) (Reads.keeps (vis_to _ _) ra) (cleanAll_lay _ hx) (clean_lay _ (fine_clean hd)) ?_ (by rw[any_same (fine_clean hd) _ hx];exact Pu.here (bool_rd _ _));have h1:d.depth≤64:=by rw[fine,Bool.and_eq_true] at hd;exact of_decide_eq_true hd.2
 have h2:=g.units (k:=200) (Nat.le_refl _);have h3:min (PyData.depthAll xs) d.depth≤d.depth:=Nat.min_le_right _ _;omega
theorem op_isNone{d:PyData}(hd:d≠ .none):OpBin Z w H0 n (compareOp .Is) (.d d) (.d .none) (Rd (.bool false)):=by
 intro A s η u v g B ra rb;cases rd_none rb;refine is_none_ne (fun e=>?_) (Pu.here (bool_rd _ _));subst e;obtain⟨as,r⟩:=ra;cases r;exact hd rfl
theorem op_isNone1:OpBin Z w H0 n (compareOp .Is) (.d .none) (.d .none) (Rd (.bool true)):=by
 intro A s η u v g B ra rb;cases rd_none rb;cases rd_none ra;exact wpAny_is_self rfl (Pu.here (bool_rd _ _))
theorem op_inS{a b:Str}:OpBin Z w H0 n (compareOp .In) (.d (.str a)) (.d (.str b)) (Rd (.bool !(Builtin.Str.occurrences b a 0 b.length 1).isEmpty)):=by
 intro A s η u v g B ra rb;obtain⟨t,rfl⟩:=rd_str ra;obtain⟨t',rfl⟩:=rd_str rb;exact PySem.P.in_str (Pu.here (bool_rd _ _))
theorem op_addL{xs ys:List PyData}(hz:xs.length+ys.length≤sizeLine):OpBin Z w H0 n (binaryOp .Add) (.d (.list xs)) (.d (.list ys)) (Rd (.list (xs++ys))):=by
 intro A s η u v g B ra rb;obtain⟨l,vs,rfl,hl,f⟩:=rd_list ra;obtain⟨b,ws,rfl,hb,f'⟩:=rd_list rb;obtain⟨⟨cls,dd,data,sl⟩,ho,hc,k,hd⟩:=isList_ext (vis_to _ _) hl;obtain⟨⟨cls2,dd2,data2,sl2⟩,ho2,hc2,k2,hd2⟩:=isList_ext (vis_to _ _) hb;simp only at hc hd hc2 hd2;subst hc hd hc2 hd2;have e:vs.toArray++ws.toArray=(vs++ws).toArray:=by simp
 refine concat_meets ⟨_,ho,rfl⟩ ⟨_,ho2,rfl⟩ noFill_list_add seq_list_add PySem.F.slot_list_add PySem.F.entry_list_add (PySem.F.args_list_add_2 _ _) (list_addW l b vs.toArray ws.toArray k k2 dd dd2 sl sl2 (by simp[f.length,f'.length];exact hz)) ⟨ho,ho2,?_⟩;rw[e];refine⟨_,_,rfl,ext_push _ _,list_rd ⟨_,vis_push B _,rfl,0,rfl⟩ ?_⟩;exact(f.append f').imp fun _ _ r=>r.ext (vis_ext η (ext_push _ _))
theorem tr_list{xs:List PyData}(hz:xs.length≤sizeLine):OpTr Z w H0 n (.d (.list xs)) (!xs.isEmpty):=by
 intro A s η a g B ra;obtain⟨l,vs,rfl,hl,f⟩:=rd_list ra;have hlen:=f.length;have e:(!(toArray vs).isEmpty)=!xs.isEmpty:=by
  cases vs<;> cases xs<;> simp_all
 refine wpAny_truthy_list (isList_ext (vis_to _ _) hl) (by rw[size_toArray,hlen];have:sizeLine=2 ^ 24:=rfl;omega) ?_;rw[e];exact Pu.tok rfl
theorem sameBut_keep{a:Addr}{h h':Heap}(x:Heap.SameBut a h h'):KeepBut [a] h h':=fun b o n e=>x.extBut b o (fun q=>n (by simp[q])) e
theorem KeepBut.trans{own:List Addr}{h h' h'':Heap}(x:KeepBut own h h')(y:KeepBut own h' h''):KeepBut own h h'':=fun b o n e=>y b o n (x b o n e)
theorem KeepBut.more{own own':List Addr}{h h':Heap}(x:KeepBut own h h')(hs:∀a∈own,a∈own'):KeepBut own' h h':=fun b o n e=>x b o (fun m=>n (hs b m)) e
theorem Ext.keep{h h':Heap}(x:Ext h h')(own:List Addr):KeepBut own h h':=fun b o _ e=>x b o e
theorem KeepBut.refl(own:List Addr)(h:Heap):KeepBut own h h:=fun _ _ _ e=>e
section
variable{M:Model}{H0:Heap}{η:List Addr}{δ:Led}{V:Env}{σ:Sto}{h h':Heap}
theorem Fm.keepBut{own:List Addr}(F:Fm H0 η δ V σ h)(k:KeepBut own h h')(h1:∀a∈own,a∈η)(h2:∀a∈own,a≠V.locals∧(∀p∈V.cells,p.2≠a)∧∀p∈δ,p.1≠a)
  (h3:∀a∈own,∃o,h'.get? a=some o):Fm H0 η δ V σ h':=by
 have at':∀a,(∀b∈own,a≠b)->∀o,h.get? a=some o->h'.get? a=some o:=fun a n o e=>k a o (fun m=>n a m rfl) e;have vk:=vis_keepBut h1 k;exact{
  base:=F.base.trans vk
  alive:=fun a m=>by
   by_cases q:a∈own
   ·exact h3 a q
   ·obtain⟨o,e⟩:=F.alive a m;exact⟨o,k a o q e⟩
  loc:=F.loc
  celh:=F.celh
  ledh:=F.ledh
  ns:=let⟨m,⟨o,es,ep,e,r⟩,q⟩:=F.ns;⟨m,⟨o,es,ep,at' _ (fun b mb=>Ne.symm (h2 b mb).1) _ e,r⟩,fun y e a b=>let⟨v,c,d⟩:=q y e a b;⟨v,c,d.ext vk⟩⟩
  cell:=fun y e a b=>let⟨c,v,p,⟨o,e1,e2⟩,r⟩:=F.cell y e a b;⟨c,v,p,⟨o,at' _ (fun b mb=>(h2 b mb).2.1 (y,c) (mem_of_lookup p)) _ e1,e2⟩,r.ext vk⟩
  cells:=fun p m=>let⟨v,o,e1,e2⟩:=F.cells p m;⟨v,o,at' _ (fun b mb=>(h2 b mb).2.1 p m) _ e1,e2⟩
  ledg:=fun p m=>at' _ (fun b mb=>(h2 b mb).2.2 p m) _ (F.ledg p m)
  apart:=F.apart
  off:=F.off
  ledoff:=F.ledoff}
theorem Fm.sub{σ':Sto}(F:Fm H0 η δ V σ h)(hs:∀x e,σ'.lookup x=some e->σ.lookup x=some e):Fm H0 η δ V σ' h:=
 {F with
  ns:=let⟨m,a,q⟩:=F.ns;⟨m,a,fun y e p r=>q y e (hs y e p) r⟩
  cell:=fun y e p r=>F.cell y e (hs y e p) r}
theorem Fm.more{own:List Addr}(F:Fm H0 η δ V σ h)(x:Ext h h')(hf:∀a∈own,h.get? a=none)(ha:∀a∈own,∃o,h'.get? a=some o):Fm H0 (own++η) δ V σ h':=by
 have vk:=vis_more (η:=η) x hf;have F':=F.ext x;exact{
  base:=F.base.trans vk
  alive:=fun a m=>(mem_append.mp m).elim (ha a) (F'.alive a)
  loc:=mem_append_right _ F.loc
  celh:=fun p m=>mem_append_right _ (F.celh p m)
  ledh:=fun p m=>mem_append_right _ (F.ledh p m)
  ns:=let⟨m,a,q⟩:=F.ns;⟨m,a.keeps x,fun y e p r=>let⟨v,c,d⟩:=q y e p r;⟨v,c,d.ext vk⟩⟩
  cell:=fun y e a b=>let⟨c,v,p,q,r⟩:=F.cell y e a b;⟨c,v,p,q.keeps x,r.ext vk⟩
  cells:=F'.cells
  ledg:=F'.ledg
  apart:=F.apart
  off:=F.off
  ledoff:=F.ledoff}
theorem Fm.less{η':List Addr}(F:Fm H0 η' δ V σ h)(hs:∀a∈η,a∈η')(hl:V.locals∈η)(hc:∀p∈V.cells,p.2∈η)(hd:∀p∈δ,p.1∈η):Fm H0 η δ V σ h:=by
 have vk:=vis_less h hs;exact{
  base:=F.base.trans vk
  alive:=fun a m=>F.alive a (hs a m)
  loc:=hl
  celh:=hc
  ledh:=hd
  ns:=let⟨m,a,q⟩:=F.ns;⟨m,a,fun y e p r=>let⟨v,c,d⟩:=q y e p r;⟨v,c,d.ext vk⟩⟩
  cell:=fun y e a b=>let⟨c,v,p,q,r⟩:=F.cell y e a b;⟨c,v,p,q,r.ext vk⟩
  cells:=F.cells
  ledg:=F.ledg
  apart:=F.apart
  off:=F.off
  ledoff:=F.ledoff}
def placeOf(V:Env)(x:Str):List Addr:=if V.kindOf x=some .local then [V.locals] else ((V.cells.lookup x).map fun c=>[c]).getD []
theorem lookup_cons_ne{α:Type}{x y:Str}{e:α}{l:List (Str×α)}(h:y≠x):((x,e)::l).lookup y=l.lookup y:=by
 rw[lookup_cons];have:(y==x)=false:=by simpa using h
 rw[this]
theorem lookup_cons_eq{α:Type}{x:Str}{e:α}{l:List (Str×α)}:((x,e)::l).lookup x=some e:=by
 rw[lookup_cons];simp
theorem store_P{A:Around}{s:Shared}{x:Str}{v:Value}{e:Ent}(F:Fm H0 η δ V σ s.heap)(hm:Means (vis s.heap η) v e)(hk:V.scope.kind=.function)
  (hx:V.kindOf x=some .local∨(V.kindOf x=some .cell∧(V.cells.lookup x).isSome=true)):
  wpAny M A (storeName V x v) (fun _ s'=>∃h' tk,s'={s with heap:=h',toks:=tk}∧KeepBut (placeOf V x) s.heap h'∧Fm H0 η δ V ((x,e)::σ) h') NoE s:=by
 rcases hx with hx|⟨hx,hc⟩
 ·obtain⟨m,hn,q⟩:=F.ns
  refine wpAny_storeName_local hx hn (fun h' hn' hs=>⟨h',_,rfl,?_,?_⟩) (by rw[hk];rfl)
  ·rw[placeOf,if_pos hx];exact sameBut_keep hs
  ·have k:=sameBut_keep hs
   have own:∀a∈[V.locals],a∈η:=fun a m=>by rw[mem_singleton.mp m];exact F.loc
   have vk:=vis_keepBut own k;have cellk:∀p∈V.cells,∀o,s.heap.get? p.2=some o->h'.get? p.2=some o:=fun p m o e=>k _ _ (fun n=>F.off p m (by simpa using n)) e;exact{
    base:=F.base.trans vk
    alive:=fun a m=>by
     obtain⟨o,e⟩:=F.alive a m
     by_cases q:a=V.locals
     ·obtain⟨o,_,_,e,_⟩:=hn';exact⟨o,q▸e⟩
     ·exact⟨o,k a o (by simpa using q) e⟩
    loc:=F.loc
    celh:=F.celh
    ledh:=F.ledh
    ns:=⟨_,hn',fun y e' p r=>by
     by_cases hy:y=x
     ·subst hy
      rw[lookup_cons_eq] at p;cases p;exact⟨v,by simp,hm.ext vk⟩
     ·rw[lookup_cons_ne hy] at p
      obtain⟨u,a,b⟩:=q y e' p r;exact⟨u,by simpa [hy] using a,b.ext vk⟩⟩
    cell:=fun y e' p r=>by
     by_cases hy:y=x
     ·subst hy;rw[hx] at r;rcases r with r|r<;> cases r
     ·rw[lookup_cons_ne hy] at p
      obtain⟨c,u,a,⟨o,e1,e2⟩,b⟩:=F.cell y e' p r;exact⟨c,u,a,⟨o,cellk _ (mem_of_lookup a) _ e1,e2⟩,b.ext vk⟩
    cells:=fun p m=>let⟨u,o,e1,e2⟩:=F.cells p m;⟨u,o,cellk p m _ e1,e2⟩
    ledg:=fun p m=>k _ _ (fun n=>(F.ledoff p m).1 (by simpa using n)) (F.ledg p m)
    apart:=F.apart
    off:=F.off
    ledoff:=F.ledoff}
 ·obtain⟨c,hc⟩:=Option.isSome_iff_exists.mp hc
  have hmc:=mem_of_lookup hc;obtain⟨v0,hv0⟩:=F.cells _ hmc;have hnl:¬V.kindOf x=some .local:=by rw[hx];decide
  refine wpAny_storeName_cell hk hx hc hv0 fun h' hn' hs=>⟨h',_,rfl,?_,?_⟩
  ·rw[placeOf,if_neg hnl,hc];exact sameBut_keep hs
  ·have k:=sameBut_keep hs
   have own:∀a∈[c],a∈η:=fun a m=>by rw[mem_singleton.mp m];exact F.celh _ hmc
   have vk:=vis_keepBut own k;have apart:∀p∈V.cells,p.1≠x->p.2≠c:=fun p m n q=>n (name_of_addr F.apart (show(p.1,p.2)∈V.cells from m) (q▸hmc));exact{
    base:=F.base.trans vk
    alive:=fun a m=>by
     obtain⟨o,e⟩:=F.alive a m
     by_cases q:a=c
     ·obtain⟨o,e,_⟩:=hn';exact⟨o,q▸e⟩
     ·exact⟨o,k a o (by simpa using q) e⟩
    loc:=F.loc
    celh:=F.celh
    ledh:=F.ledh
    ns:=by
     obtain⟨m,⟨o,es,ep,e0,r0⟩,q⟩:=F.ns;refine⟨m,⟨o,es,ep,k _ _ (fun n=>F.off _ hmc (by simpa using Eq.symm (by simpa using n))) e0,r0⟩,fun y e' p r=>?_⟩;have hy:y≠x:=fun z=>by rw[z] at r;exact hnl r
     rw[lookup_cons_ne hy] at p;obtain⟨u,a,b⟩:=q y e' p r;exact⟨u,a,b.ext vk⟩
    cell:=fun y e' p r=>by
     by_cases hy:y=x
     ·subst hy
      rw[lookup_cons_eq] at p;cases p;exact⟨c,v,hc,hn',hm.ext vk⟩
     ·rw[lookup_cons_ne hy] at p
      obtain⟨c',u,a,⟨o,e1,e2⟩,b⟩:=F.cell y e' p r;exact⟨c',u,a,⟨o,k _ _ (fun n=>apart _ (mem_of_lookup a) hy (by simpa using n)) e1,e2⟩,b.ext vk⟩
    cells:=fun p m=>by
     by_cases q:p.2=c
     ·exact⟨_,q▸hn'⟩
     ·obtain⟨u,o,e1,e2⟩:=F.cells p m
      exact⟨u,o,k _ _ (by simpa using q) e1,e2⟩
    ledg:=fun p m=>k _ _ (fun n=>(F.ledoff p m).2 _ hmc (by simpa using n)) (F.ledg p m)
    apart:=F.apart
    off:=F.off
    ledoff:=F.ledoff}
end
def tupleMakers:List String:=["enumerate","zip","dict_itemiterator","dict_reverseitemiterator","odict_iterator","itertools.zip_longest","itertools.pairwise"]
structure Src(Z:Program)(w:World)(A:Around)(g:Heap)(I:Addr)(fp wr:List Addr)(ds:List Ent)(St:Nat->Heap->Prop):Prop where
 walk:Walks Z w A I fp wr ds.length (fun i v=>∃e,ds[i]? =some e∧Means g v e) St
 alive:∀i h,St i h->∀b∈wr,∃o,h.get? b=some o
 plain:∀i h,St i h->∃o T,h.get? I=some o∧o.cls=.type T∧tupleMakers.contains T=false
def IsSrc(Z:Program)(w:World)(A:Around)(s:Shared)(η:List Addr)(ds:List Ent)(it:Value)(s2:Shared):Prop:=
 ∃I fp wr St h2 tk,it=.ref I∧s2={s with heap:=h2,toks:=tk}∧Ext s.heap h2∧Src Z w A (vis s.heap η) I fp wr ds St∧St 0 h2∧(∀b∈wr,s.heap.get? b=none)∧(∀b∈fp,(∃o,h2.get? b=some o)∧b∉η)
def SrcV(Z:Program)(w:World)(H0:Heap)(n:Nat)(x:Ent)(ds:List Ent):Prop:=
 ∀A s η v,Good n A->Base H0 η s.heap->Means (vis s.heap η) v x->wpAny (model Z w) A (pyIter v) (IsSrc Z w A s η ds) NoE s
theorem f2_ents{g:Heap}:∀{vs:List Value} {ds:List PyData},F2 (fun v d=>Rd d g v) vs ds->F2 (fun v e=>Means g v e) vs (ds.map .d)
 |_,_,.nil=>.nil
 |_,_,.cons a r=>.cons a (f2_ents r)
theorem f2_meansAll{g:Heap}:∀{vs:List Value} {es:List Ent},F2 (fun v e=>Means g v e) vs es->MeansAll g vs es
 |_,_,.nil=>trivial
 |_,_,.cons a r=>⟨a,f2_meansAll r⟩
theorem meansAll_f2e{g:Heap}:∀{vs:List Value} {es:List Ent},MeansAll g vs es->F2 (fun v e=>Means g v e) vs es
 |[],[],_=>.nil
 |_::_,_::_,⟨a,b⟩=>.cons a (meansAll_f2e b)
 |[],_::_,h=>h.elim
 |_::_,[],h=>h.elim
theorem Walks.imp{A:Around}{I:Addr}{fp wr:List Addr}{k:Nat}{P P':Nat->Value->Prop}{St:Nat->Heap->Prop}(W:Walks Z w A I fp wr k P St)(h:∀i v,P i v->P' i v):Walks Z w A I fp wr k P' St where
 sub:=W.sub
 frame:=W.frame
 item:=fun i s Q E hi st hQ=>W.item i s Q E hi st fun v h' tk p st' k=>hQ v h' tk (h _ _ p) st' k
 done:=W.done
 self:=W.self
theorem src_list{ds:List PyData}:SrcV Z w H0 n (.d (.list ds)) (ds.map .d):=by
 intro A s η v g B ra;obtain⟨l,vs,rfl,hl,f⟩:=rd_list ra;have hl':=isList_ext (vis_to _ _) hl;have lne:l≠s.heap.objs.size:=by obtain⟨o,e,_⟩:=hl';exact Nat.ne_of_lt (Heap.lt_size e)
 have lnh:l∉η:=by obtain⟨o,e,_⟩:=hl;exact(vis_inv e).2
 refine wpAny_pyIter_list hl' ⟨s.heap.objs.size,[s.heap.objs.size,l],[s.heap.objs.size],(fun i h=>h.IsListIter s.heap.objs.size l i∧h.IsList l (toArray vs)),_,s.toks,rfl,rfl,ext_push _ _,⟨?_,?_,?_⟩,?_,?_,?_⟩
 case refine_1=>
  have W:=Walks.list (prog:=Z) (w:=w) g.hh s.heap.objs.size l lne (toArray vs);have e:(toArray vs).size=(ds.map Ent.d).length:=by rw[size_toArray,f.length,length_map]
  rw[e] at W;exact Walks.imp W fun i v p=>by
   obtain⟨d,a,b⟩:=f.get' (i:=i) (a:=v) (by simpa using p);exact⟨.d d,by simp[a],b⟩
 case refine_2=>
  intro i h st b hb;obtain⟨⟨o,e,_⟩,_⟩:=st;rw[mem_singleton.mp hb];exact⟨o,e⟩
 case refine_3=>
  intro i h st;obtain⟨⟨o,e,c,_⟩,_⟩:=st;exact⟨o,_,e,c,by decide⟩
 ·exact⟨⟨_,Heap.get?_push_size _ rfl,rfl,rfl⟩,hl'.push _⟩
 ·intro b hb
  rw[mem_singleton.mp hb];cases e:s.heap.get? s.heap.objs.size with
  |none=>rfl
  |some o=>exact absurd (Heap.lt_size e) (Nat.lt_irrefl _)
 ·intro b hb
  rcases mem_cons.mp hb with rfl|hb
  ·exact⟨⟨_,Heap.get?_push_size _ rfl⟩,B.fresh⟩
  ·rw[mem_singleton.mp hb]
   obtain⟨o,e,_⟩:=hl';exact⟨⟨_,Heap.get?_push_of_some _ e⟩,lnh⟩
def UnpV(Z:Program)(w:World)(H0:Heap)(n:Nat)(x:Ent)(es:List Ent):Prop:=
 ∀A s η v,Good n A->Base H0 η s.heap->Means (vis s.heap η) v x->wpAny (model Z w) A (unpackItems v es.length none) (Pu s η (fun g vs=>MeansAll g vs es)) NoE s
theorem extBut_ext{h h':Heap}(x:Heap.ExtBut h.objs.size h h'):Ext h h':=fun b o e=>x b o (Nat.ne_of_lt (Heap.lt_size e)) e
theorem unp_list{ds:List PyData}:UnpV Z w H0 n (.d (.list ds)) (ds.map .d):=by
 intro A s η v g B ra;obtain⟨l,vs,rfl,hl,f⟩:=rd_list ra;have e:(ds.map Ent.d).length=(toArray vs).size:=by rw[size_toArray,f.length,length_map]
 rw[e];refine kun_itemsOf g.hh (isList_ext (vis_to _ _) hl) fun h' he=>⟨h',s.toks,rfl,extBut_ext he,?_⟩;exact f2_meansAll ((f2_ents f).imp fun _ _ r=>r.ext (vis_ext η (extBut_ext he)))
theorem unp_tuple{ds:List PyData}:UnpV Z w H0 n (.d (.tuple ds)) (ds.map .d):=by
 intro A s η v g B ra;obtain⟨l,vs,rfl,hl,f⟩:=rd_tuple ra;have e:(ds.map Ent.d).length=(toArray vs).size:=by rw[size_toArray,f.length,length_map]
 rw[e];refine unpackItems_tuple g.hh (isTup_ext (vis_to _ _) hl) fun h' he=>⟨h',s.toks,rfl,extBut_ext he,?_⟩;exact f2_meansAll ((f2_ents f).imp fun _ _ r=>r.ext (vis_ext η (extBut_ext he)))
def placesOf(V:Env)(xs:List Str):List Addr:=xs.flatMap (placeOf V)
def AsP(Z:Program)(w:World)(H0:Heap)(n:Nat)(sc:Scope)(t:Expr)(x:Ent)(bs:List (Str×Ent)):Prop:=
 ∀A V s η δ σ v,Good n A->EnvOk sc V->Fm H0 η δ V σ s.heap->Means (vis s.heap η) v x->
  wpAny (model Z w) A (assign t V v) (fun _ s'=>∃h' tk,s'={s with heap:=h',toks:=tk}∧KeepBut (placesOf V (bs.map (·.1))) s.heap h'∧Fm H0 η δ V (bs++σ) h') NoE s
def settable(sc:Scope)(x:Str):Prop:=sc.names.lookup x=some .local∨sc.names.lookup x=some .cell
theorem settable_env{V:Env}{x:Str}(o:EnvOk sc V)(h:settable sc x):V.kindOf x=some .local∨(V.kindOf x=some .cell∧(V.cells.lookup x).isSome=true):=by
 rcases h with h|h
 ·exact .inl (by rw[o.kind];exact h)
 ·exact .inr ⟨by rw[o.kind];exact h,o.cells x (.inl h)⟩
theorem as_name{x:Str}{pos:Pos}{e:Ent}(hx:settable sc x):AsP Z w H0 n sc (.Name x pos) e [(x,e)]:=by
 intro A V s η δ σ v g o F hm;refine wpAny_assign_Name (wpAny_mono (store_P F hm o.kf (settable_env o hx)) (fun _ s' q=>?_) fun _ _ f=>f);obtain⟨h',tk,a,b,c⟩:=q;exact⟨h',tk,a,by simpa [placesOf] using b,c⟩
theorem placeOf_hid{η:List Addr}{V:Env}{h:Heap}(F:Fm H0 η δ V σ h)(x:Str):∀a∈placeOf V x,a∈η:=by
 intro a m;unfold placeOf at m;split at m
 ·rw[mem_singleton.mp m];exact F.loc
 ·cases e:V.cells.lookup x with
  |none=>rw[e] at m;simp at m
  |some c=>rw[e] at m;simp at m;subst m;exact F.celh _ (mem_of_lookup e)
theorem placesOf_hid{η:List Addr}{V:Env}{h:Heap}(F:Fm H0 η δ V σ h)(xs:List Str):∀a∈placesOf V xs,a∈η:=by
 intro a m;obtain⟨x,_,m⟩:=mem_flatMap.mp m;exact placeOf_hid F x a m
theorem as_two{t1 t2:Expr}{k:Nat}{pos:Pos}{x e1 e2:Ent}{b1 b2:List (Str×Ent)}(hu:UnpV Z w H0 n x [e1,e2])(h1:AsP Z w H0 n sc t1 e1 b1)(h2:AsP Z w H0 n sc t2 e2 b2)
  (hs:∀V,assignEach [t1,t2] V=[(false,assign t1 V),(false,assign t2 V)]):AsP Z w H0 n sc (.Tuple [t1,t2] k pos) x (b2++b1):=by
 intro A V s η δ σ v g o F hm;rw[PyProof.Rows.assign_Tuple,hs];refine wpAny_bind (wpAny_standAt ?_);unfold unpack;refine wpAny_bind (wpAny_holding (seqP (hu A s η v g F.toBase hm) fun vs s₁ q=>?_));obtain⟨hh,tk,rfl,ex,mv⟩:=q
 match vs,mv with
 |[v1,v2],⟨m1,m2,_⟩=>
 show wpAny _ A (assignInOrder [assign t1 V,assign t2 V] [v1,v2]) _ _ _;unfold assignInOrder
 first
  |refine wpAny_bind (wpAny_holding (wpAny_mono (h1 A V _ η δ σ v1 g o (F.ext ex) m1) (fun _ s2 q2=>?_) fun _ _ f=>f))
  |refine wpAny_bind (wpAny_mono (h1 A V _ η δ σ v1 g o (F.ext ex) m1) (fun _ s2 q2=>?_) fun _ _ f=>f)
 obtain⟨h₂,tk2,rfl,k2,F2⟩:=q2;unfold assignInOrder;have m2':=m2.ext (vis_keepBut (placesOf_hid (F.ext ex) _) k2)
 first
  |refine wpAny_bind (wpAny_holding (wpAny_mono (h2 A V _ η δ _ v2 g o F2 m2') (fun _ s3 q3=>?_) fun _ _ f=>f))
  |refine wpAny_bind (wpAny_mono (h2 A V _ η δ _ v2 g o F2 m2') (fun _ s3 q3=>?_) fun _ _ f=>f)
 obtain⟨h₃,tk3,rfl,k3,F3⟩:=q3;unfold assignInOrder;refine wpAny_pure ⟨h₃,tk3,rfl,?_,by rw[append_assoc];exact F3⟩;refine(ex.keep _).trans ((k2.more ?_).trans (k3.more ?_))
 ·intro a m;simp only[placesOf,map_append,flatMap_append,mem_append] at m ⊢;exact .inr m
 ·intro a m;simp only[placesOf,map_append,flatMap_append,mem_append] at m ⊢;exact .inl m
inductive Out where
 |next(σ:Sto)
 |ret(x:Ent)
def ownOf(V:Env)(δ:Led):List Addr:=V.locals::(V.cells.map (·.2)++δ.map (·.1))
def OutIs(H0:Heap)(η:List Addr)(V:Env)(δ:Led):Out->Flow->Heap->Prop
 |.next σ,fl,h=>fl=.next∧Fm H0 η δ V σ h
 |.ret x,fl,h=>∃v,fl=.ret v∧Base H0 η h∧Means (vis h η) v x
def Fin(H0:Heap)(s:Shared)(η:List Addr)(V:Env)(δ:Led)(O:Out)(fl:Flow)(s':Shared):Prop:=
 ∃h' tk,s'={s with heap:=h',toks:=tk}∧KeepBut (ownOf V δ) s.heap h'∧OutIs H0 η V δ O fl h'
theorem own_hid{H0:Heap}{η:List Addr}{δ:Led}{V:Env}{σ:Sto}{h:Heap}(F:Fm H0 η δ V σ h):∀a∈ownOf V δ,a∈η:=by
 intro a m;rcases mem_cons.mp m with rfl|m
 ·exact F.loc
 ·rcases mem_append.mp m with m|m
  ·obtain⟨p,hp,rfl⟩:=mem_map.mp m;exact F.celh p hp
  ·obtain⟨p,hp,rfl⟩:=mem_map.mp m;exact F.ledh p hp
theorem places_own(V:Env)(δ:Led)(xs:List Str):∀a∈placesOf V xs,a∈ownOf V δ:=by
 intro a m;obtain⟨x,_,m⟩:=mem_flatMap.mp m;unfold placeOf at m;split at m
 ·rw[mem_singleton.mp m];exact mem_cons_self
 ·cases e:V.cells.lookup x with
  |none=>rw[e] at m;simp at m
  |some c=>rw[e] at m;simp at m;subst m;exact mem_cons_of_mem _ (mem_append_left _ (mem_map.mpr ⟨_,mem_of_lookup e,rfl⟩))
def StP(Z:Program)(w:World)(H0:Heap)(n:Nat)(sc:Scope)(σ:Sto)(δ:Led)(st:Stmt)(O:Out):Prop:=
 ∀A V s η,Good n A->EnvOk sc V->Fm H0 η δ V σ s.heap->wpAny (model Z w) A (exec st V) (Fin H0 s η V δ O) NoE s
def ExP(Z:Program)(w:World)(H0:Heap)(n:Nat)(sc:Scope)(σ:Sto)(δ:Led)(sts:List Stmt)(O:Out):Prop:=
 ∀A V s η,Good n A->EnvOk sc V->Fm H0 η δ V σ s.heap->wpAny (model Z w) A (execs sts V) (Fin H0 s η V δ O) NoE s
theorem ex_nil:ExP Z w H0 n sc σ δ [] (.next σ):=fun A V s η g o F=>wpAny_execs_nil ⟨s.heap,s.toks,rfl,KeepBut.refl _ _,rfl,F⟩
theorem ex_cons{st:Stmt}{rest:List Stmt}{σ':Sto}{O:Out}(h:StP Z w H0 n sc σ δ st (.next σ'))(hr:ExP Z w H0 n sc σ' δ rest O):ExP Z w H0 n sc σ δ (st::rest) O:=by
 intro A V s η g o F;refine wpAny_execs_cons (wpAny_mono (h A V s η g o F) (fun fl s₁ q=>?_) fun _ _ f=>f);obtain⟨h₁,t₁,rfl,k1,rfl,F1⟩:=q;refine wpAny_mono (hr A V _ η g o F1) (fun fl s2 q=>?_) fun _ _ f=>f;obtain⟨h2,t2,rfl,k2,q2⟩:=q;exact⟨h2,t2,rfl,k1.trans k2,q2⟩
theorem ex_ret{st:Stmt}{rest:List Stmt}{x:Ent}(h:StP Z w H0 n sc σ δ st (.ret x)):ExP Z w H0 n sc σ δ (st::rest) (.ret x):=by
 intro A V s η g o F;refine wpAny_execs_cons (wpAny_mono (h A V s η g o F) (fun fl s₁ q=>?_) fun _ _ f=>f);obtain⟨h₁,t₁,rfl,k1,v,rfl,q⟩:=q;exact⟨h₁,t₁,rfl,k1,v,rfl,q⟩
theorem ex_sub{sts:List Stmt}{σ' σ'':Sto}(h:ExP Z w H0 n sc σ δ sts (.next σ'))(hs:∀x e,σ''.lookup x=some e->σ'.lookup x=some e):ExP Z w H0 n sc σ δ sts (.next σ''):=by
 intro A V s η g o F;refine wpAny_mono (h A V s η g o F) (fun fl s₁ q=>?_) fun _ _ f=>f;obtain⟨h₁,t₁,rfl,k1,e,F1⟩:=q;exact⟨h₁,t₁,rfl,k1,e,F1.sub hs⟩
theorem st_return{e:Expr}{pos:Pos}{x:Ent}(h:EvE Z w H0 n sc σ δ e x):StP Z w H0 n sc σ δ (.Return (some e) pos) (.ret x):=by
 intro A V s η g o F;refine wpAny_Return_some (seqP (h A V s η g o F) fun v s₁ q=>?_);obtain⟨h₁,t₁,rfl,e1,m⟩:=q;exact⟨h₁,t₁,rfl,e1.keep _,v,rfl,(F.ext e1).toBase,m⟩
theorem st_if{test:Expr}{body orelse:List Stmt}{pos:Pos}{b:Bool}{O:Out}(h:TrP Z w H0 n sc σ δ test b)(h1:b=true->ExP Z w H0 n sc σ δ body O)(h2:b=false->ExP Z w H0 n sc σ δ orelse O):
  StP Z w H0 n sc σ δ (.If test body orelse pos) O:=by
 intro A V s η g o F;refine wpAny_If (seqP (h A V s η g o F) fun c s₁ q=>?_);have e1:=q.val;subst e1;have F1:=F.ext q.ext;obtain⟨h₁,t₁,rfl,e₁,_⟩:=q;cases c with
 |true=>
  refine wpAny_mono (h1 rfl A V _ η g o F1) (fun fl s2 f=>?_) fun _ _ f=>f;obtain⟨h₂,t2,rfl,k2,q2⟩:=f;exact⟨h₂,t2,rfl,(e₁.keep _).trans k2,q2⟩
 |false=>
  refine wpAny_mono (h2 rfl A V _ η g o F1) (fun fl s2 f=>?_) fun _ _ f=>f;obtain⟨h₂,t2,rfl,k2,q2⟩:=f;exact⟨h₂,t2,rfl,(e₁.keep _).trans k2,q2⟩
theorem st_assign{t value:Expr}{pos:Pos}{x:Ent}{bs:List (Str×Ent)}(h:EvE Z w H0 n sc σ δ value x)(ht:AsP Z w H0 n sc t x bs)
  (hs:∀V,EnvOk sc V->swapsWith value (some t) pos.line V=pure false)(hw:∀V,EnvOk sc V->swappedStores [t] value V=pure none)
  (he:∀V,assignEach [t] V=[(false,assign t V)]):StP Z w H0 n sc σ δ (.Assign [t] value pos) (.next (bs++σ)):=by
 intro A V s η g o F;show wpAny _ A (standAt pos >>=fun _=>swapsWithSole [t] value pos.line V >>=fun b=>if b=true then _ else _) _ _ s;refine wpAny_bind (wpAny_standAt (wpAny_bind ?_));show wpAny _ A (swapsWith value (some t) pos.line V) _ _ s;rw[hs V o];refine wpAny_pure ?_;rw[if_neg Bool.false_ne_true];refine wpAny_bind (seqP (h A V s η g o F) fun v s₁ q=>?_);have F1:=F.ext q.ext;refine wpAny_bind ?_;rw[hw V o];refine wpAny_pure ?_;rw[he];show wpAny _ A (assignAll v [assign t V] >>=fun _=>pure Flow.next) _ _ s₁;refine wpAny_bind ?_;show wpAny _ A (assign t V v) _ _ s₁;refine wpAny_mono (ht A V s₁ η δ σ v g o F1 q.val) (fun _ s2 q2=>wpAny_pure ?_) fun _ _ f=>f;obtain⟨h₁,t₁,rfl,e1,_⟩:=q;obtain⟨h2,t2,rfl,k2,F2⟩:=q2;exact⟨h2,t2,rfl,(e1.keep _).trans (k2.more (places_own V δ _)),rfl,F2⟩
theorem st_assign_sw{t1 t2:Str}{p1 p2 p3 pos:Pos}{k:Nat}{value:Expr}{x e1 e2:Ent}(h:EvE Z w H0 n sc σ δ value x)(hu:UnpV Z w H0 n x [e1,e2])(h1:settable sc t1)(h2:settable sc t2)
  (hs:∀V,EnvOk sc V->swapsWith value (some (.Tuple [.Name t1 p1,.Name t2 p2] k p3)) pos.line V=pure false)
  (hw:∀V,EnvOk sc V->swappedStores [.Tuple [.Name t1 p1,.Name t2 p2] k p3] value V=pure (some [t1,t2])):
  StP Z w H0 n sc σ δ (.Assign [.Tuple [.Name t1 p1,.Name t2 p2] k p3] value pos) (.next ((t1,e1)::(t2,e2)::σ)):=by
 intro A V s η g o F;show wpAny _ A (standAt pos >>=fun _=>swapsWithSole [.Tuple [.Name t1 p1,.Name t2 p2] k p3] value pos.line V >>=fun b=>if b=true then _ else _) _ _ s;refine wpAny_bind (wpAny_standAt (wpAny_bind ?_));show wpAny _ A (swapsWith value (some (.Tuple [.Name t1 p1,.Name t2 p2] k p3)) pos.line V) _ _ s;rw[hs V o];refine wpAny_pure ?_;rw[if_neg Bool.false_ne_true];refine wpAny_bind (seqP (h A V s η g o F) fun v s₁ q=>?_);have F1:=F.ext q.ext;refine wpAny_bind ?_;rw[hw V o];refine wpAny_pure ?_;show wpAny _ A (rule "assign.swapped-stores" >>=fun _=>unpackItems v 2 none >>=fun items=>assignInOrder [bindName V t2,bindName V t1] items.reverse >>=fun _=>pure Flow.next) _ _ s₁;refine wpAny_bind (wpAny_rule (wpAny_bind (seqP (hu A s₁ η v g F1.toBase q.val) fun vs s2 q2=>?_)));have F2:=F1.ext q2.ext;obtain⟨h₁,t₁,rfl,ex1,_⟩:=q;obtain⟨h₂,t₂,rfl,ex2,mv⟩:=q2
 match vs,mv with
 |[v1,v2],⟨m1,m2,_⟩=>
 refine wpAny_bind ?_;show wpAny _ A (holding [v1] (bindName V t2 v2) >>=fun _=>holding [] (bindName V t1 v1) >>=fun _=>pure ()) _ _ _;refine wpAny_bind (wpAny_holding (wpAny_bindName (wpAny_mono (store_P F2 m2 o.kf (settable_env o h2)) (fun _ s3 q3=>?_) fun _ _ f=>f)));obtain⟨h₃,t3,rfl,k3,F3⟩:=q3;have m1':=m1.ext (vis_keepBut (placeOf_hid F2 _) k3);refine wpAny_bind (wpAny_holding (wpAny_bindName (wpAny_mono (store_P F3 m1' o.kf (settable_env o h1)) (fun _ s4 q4=>?_) fun _ _ f=>f)));obtain⟨h4,t4,rfl,k4,F4⟩:=q4;refine wpAny_pure (wpAny_pure ⟨h4,t4,rfl,?_,rfl,F4⟩);refine(ex1.keep _).trans ((ex2.keep _).trans ((k3.more ?_).trans (k4.more ?_)))
 ·intro a m;exact places_own V δ [t2] a (by simpa [placesOf] using m)
 ·intro a m;exact places_own V δ [t1] a (by simpa [placesOf] using m)
theorem st_for{target iter:Expr}{body:List Stmt}{pos:Pos}{x:Ent}{ds:List Ent}(J:Nat->Sto)(hi:EvE Z w H0 n sc σ δ iter x)(hsrc:SrcV Z w H0 n x ds)
  (h0:∀y e,(J 0).lookup y=some e->σ.lookup y=some e)
  (turn:∀i e,ds[i]? =some e->∃bs,AsP Z w H0 n sc target e bs∧ExP Z w H0 n sc (bs++J i) δ body (.next (J (i+1))))
  (hs:∀V x,foldedSetIterable iter V x=pure x)(ht:(∃y p,target=.Name y p)∨∃es k p,target=.Tuple es k p):
  StP Z w H0 n sc σ δ (.For target iter body [] pos) (.next (J ds.length)):=by
 intro A V s η g o F;refine wpAny_For (seqP (hi A V s η g o F) fun v s₁ q=>?_) (hs V);have F1:=(F.ext q.ext).sub h0;obtain⟨h₁,t₁,rfl,ex1,mv⟩:=q;refine wpAny_mono (hsrc A _ η v g F1.toBase mv) (fun it s2 q2=>?_) fun _ _ f=>f.elim;obtain⟨I,fp,wr,St,h2,t2,rfl,rfl,ex2,S,st0,fresh,fps⟩:=q2;have W:=S.walk;have F2:Fm H0 (wr++η) δ V (J 0) h2:=F1.more ex2 fresh (fun b hb=>S.alive 0 _ st0 b hb);have gm:Ext (vis h₁ η) (vis h2 (wr++η)):=vis_more ex2 fresh;have wrn:∀b∈wr,b∉ownOf V δ:=fun b hb m=>by
  have:=own_hid F1 b m;obtain⟨oo,e⟩:=F1.alive b this;have hf:=fresh b hb;rw[e] at hf;cases hf
 have fpn:∀b∈fp,b∉ownOf V δ:=fun b hb m=>(fps b hb).2 (own_hid F1 b m);have gOwn:∀a∈ownOf V δ,a∈wr++η:=fun a m=>mem_append_right _ (own_hid F1 a m);refine codeAny_loop' rfl (fun k s'=>∃i h' tk,s'={s with heap:=h',toks:=tk}∧i≤ds.length∧k=ds.length - i∧St i h'∧Fm H0 (wr++η) δ V (J i) h'∧Ext (vis h₁ η) (vis h' (wr++η))∧KeepBut (wr++ownOf V δ) h2 h')
  (fun k s' hI=>?_) ds.length ⟨0,h2,t2,rfl,Nat.zero_le _,rfl,st0,F2,gm,KeepBut.refl _ _⟩
 obtain⟨i,h',tk,rfl,hle,rfl,sti,Fi,gi,ki⟩:=hI;show wpAny _ A ((forTurn target (.ref I) body [] V).onRaise (fun x=>do noteFrame x V;theTreesLotGoes x)) _ _ _;refine wpAny_noted ?_;simp only[forTurn];refine wpAny_bind (wpAny_standAt (wpAny_bind (wpAny_onRaise ?_)));have wrh:∀b∈wr,b∈wr++η:=fun b hb=>mem_append_left _ hb;have wro:∀b∈wr,b≠V.locals∧(∀p∈V.cells,p.2≠b)∧∀p∈δ,p.1≠b:=fun b hb=>
  ⟨fun q=>wrn b hb (q▸mem_cons_self),fun p hp q=>wrn b hb (q▸mem_cons_of_mem _ (mem_append_left _ (mem_map_of_mem hp))),
   fun p hp q=>wrn b hb (q▸mem_cons_of_mem _ (mem_append_right _ (mem_map_of_mem hp)))⟩
 by_cases hlt:i<ds.length
 ·refine W.item i _ _ _ hlt sti fun v h₃ t3 hv st3 k3=>?_
  obtain⟨e,he,me⟩:=hv;have F3:Fm H0 (wr++η) δ V (J i) h₃:=Fi.keepBut k3 wrh wro (fun b hb=>S.alive (i+1) h₃ st3 b hb);have g3:Ext (vis h₁ η) (vis h₃ (wr++η)):=gi.trans (vis_keepBut wrh k3);obtain⟨bs,hAs,hEx⟩:=turn i e he;have go:∀(Q:Unit->Shared->Prop) (E:Value->Shared->Prop) (s5:Shared),s5.heap=h₃->Q () s5->wpAny (model Z w) A (letOwnedTupleGo target (.ref I) v) Q E s5:=by
   intro Q E s5 hs5 hQ;rcases ht with ⟨y,p,rfl⟩|⟨es,kk,p,rfl⟩
   ·exact wpAny_pure hQ
   ·cases v with
    |ref a=>
     obtain⟨oo,T,e1,e2,e3⟩:=S.plain (i+1) h₃ st3;show wpAny _ A (load I >>=fun o=>_) _ _ _;refine wpAny_bind (wpAny_load (by rw[hs5];exact e1) ?_);rw[e2];cases hd:oo.data<;> (try exact wpAny_pure hQ)
     simp only;have:(["enumerate","zip","dict_itemiterator","dict_reverseitemiterator","odict_iterator","itertools.zip_longest","itertools.pairwise"].contains T)=false:=e3;rw[this];exact wpAny_pure hQ
    |_=>exact wpAny_pure hQ
  refine wpAny_bind (go _ _ _ rfl ?_);refine wpAny_bind (wpAny_mono (hAs A V _ (wr++η) δ (J i) v g o F3 (me.ext g3)) (fun _ s4 q4=>?_) fun _ _ f=>f.elim);obtain⟨h4,t4,rfl,k₄,F4⟩:=q4;refine wpAny_bind (wpAny_mono (hEx A V _ (wr++η) g o F4) (fun fl s5 q5=>?_) fun _ _ f=>f.elim);obtain⟨h5,t5,rfl,k5,rfl,F5⟩:=q5;have k4:KeepBut (ownOf V δ) h₃ h4:=k₄.more (places_own V δ _);have k45:KeepBut (ownOf V δ) h₃ h5:=k4.trans k5;refine wpAny_pure (.inl ⟨rfl,ds.length - (i+1),by omega,i+1,h5,t5,rfl,hlt,rfl,?_,F5,g3.trans (vis_keepBut gOwn k45),?_⟩)
  ·exact W.frame _ _ _ st3 fun b hb oo e=>k45 b oo (fpn b hb) e
  ·exact ki.trans ((KeepBut.more k3 fun b hb=>mem_append_left _ hb).trans (k45.more fun b hb=>mem_append_right _ hb))
 ·have hi':i=ds.length:=by omega
  subst hi';refine W.done _ _ _ sti fun h₃ t3 k3=>?_;refine wpAny_pure (.inr ⟨rfl,?_⟩);refine codeAny_block (wpAny_execs_nil ?_);have kall:KeepBut (wr++ownOf V δ) h2 h₃:=ki.trans (KeepBut.more k3 fun b hb=>mem_append_left _ hb);have kold:KeepBut (ownOf V δ) s.heap h₃:=fun b oo nb e=>by
   have e1:=ex1 b oo e;refine kall b oo (fun m=>?_) (ex2 b oo e1);rcases mem_append.mp m with m|m
   ·have:=fresh b m;rw[e1] at this;cases this
   ·exact nb m
  have F3:Fm H0 η δ V (J ds.length) h₃:=by
   have Fl:Fm H0 η δ V (J ds.length) h':=Fi.less (fun a m=>mem_append_right _ m) F1.loc F1.celh F1.ledh;exact{
    base:=by
     refine fun b oo e=>vis_get (k3 b oo (fun m=>?_) (vis_inv (Fi.base b oo e)).1) fun m=>(vis_inv (Fi.base b oo e)).2 (mem_append_right _ m);exact(vis_inv (Fi.base b oo e)).2 (mem_append_left _ m)
    alive:=fun a m=>by
     obtain⟨oo,e⟩:=Fl.alive a m;refine⟨oo,k3 a oo (fun q=>?_) e⟩;obtain⟨o',e'⟩:=F1.alive a m;have:=fresh a q;rw[e'] at this;cases this
    loc:=F1.loc
    celh:=F1.celh
    ledh:=F1.ledh
    ns:=by
     obtain⟨m,⟨oo,es,ep,e0,r0⟩,q⟩:=Fi.ns;refine⟨m,⟨oo,es,ep,k3 _ _ (fun q=>(wro _ q).1 rfl) e0,r0⟩,fun y e' p r=>?_⟩;obtain⟨u,a,b⟩:=q y e' p r;refine⟨u,a,b.ext fun b' o' e''=>vis_get (k3 b' o' (fun m=>(vis_inv e'').2 (mem_append_left _ m)) (vis_inv e'').1) fun m=>(vis_inv e'').2 (mem_append_right _ m)⟩
    cell:=fun y e' p r=>by
     obtain⟨c,u,a,⟨oo,e1,e2⟩,b⟩:=Fi.cell y e' p r;exact⟨c,u,a,⟨oo,k3 _ _ (fun q=>(wro _ q).2.1 _ (mem_of_lookup a) rfl) e1,e2⟩,b.ext fun b' o' e''=>vis_get (k3 b' o' (fun m=>(vis_inv e'').2 (mem_append_left _ m)) (vis_inv e'').1) fun m=>(vis_inv e'').2 (mem_append_right _ m)⟩
    cells:=fun p m=>let⟨u,oo,e1,e2⟩:=Fi.cells p m;⟨u,oo,k3 _ _ (fun q=>(wro _ q).2.1 p m rfl) e1,e2⟩
    ledg:=fun p m=>k3 _ _ (fun q=>(wro _ q).2.2 p m rfl) (Fi.ledg p m)
    apart:=F1.apart
    off:=F1.off
    ledoff:=F1.ledoff}
  exact⟨h₃,t3,rfl,kold,rfl,F3⟩
def FnP(Z:Program)(w:World)(H0:Heap)(n:Nat)(f:Value)(xs:List Ent)(P:Heap->Value->Prop):Prop:=
 ∀A s η vs,Good n A->Base H0 η s.heap->MeansAll (vis s.heap η) vs xs->wpAny (model Z w) A (call f vs) (Pu s η P) NoE s
theorem FnP.le{k:Nat}{f:Value}{xs:List Ent}{P:Heap->Value->Prop}(h:FnP Z w H0 n f xs P)(hk:n≤k):FnP Z w H0 k f xs P:=
 fun A s η vs g B m=>h A s η vs (g.le hk) B m
def Callee(H0:Heap)(f:Value):Prop:=∀(M:Model) h,Ext H0 h->∃k,(k=Keeper.frame∨k=Keeper.machine∨k=Keeper.boundFrame)∧Looks M h (keeperOf f) k
theorem callee_fn{f:Addr}{o:Obj}{fd:FuncData}(ho:H0.get? f=some o)(hd:o.data=.func fd):Callee H0 (.ref f):=by
 intro M h e;refine⟨.frame,.inl rfl,(Looks.ld (part:=none) (e _ _ ho)).andThen ?_⟩;rw[hd];exact .now
theorem callee_builtin{id:String}:Callee H0 (.builtin id):=fun M h e=>⟨.machine,.inr (.inl rfl),.now⟩
theorem callee_type{id:String}:Callee H0 (.type id):=fun M h e=>⟨.machine,.inr (.inl rfl),.now⟩
theorem evalArgs_any{M:Model}{A:Around}{E:Value->Shared->Prop}{s:Shared}{f:Value}{trees:List (Bool×Sem Value)}{Q:Args->Shared->Prop}(hp:trees.any (·.1)=false)
  (h:wpAny M A (spliced trees) (fun vs s'=>Q ⟨vs,[]⟩ s') E s):wpAny M A (evalArgs f true trees []) Q E s:=by
 match trees,hp,h with
 |[],_,h=>
  unfold evalArgs;show wpAny M A (spliced [] >>=_) Q E s;refine wpAny_bind (wpAny_mono h (fun vs s' h'=>?_) fun _ _ x=>x);exact wpAny_holding (wpAny_bind (wpAny_pure (wpAny_bind (wpAny_pure (wpAny_pure h')))))
 |(false,x)::rest,_,h=>exact evalArgs_plain h
 |(true,x)::rest,hp,_=>simp at hp
theorem callWith_P{A:Around}{V:Env}{s:Shared}{η:List Addr}{f:Value}{first:List Value}{pos:Pos}{trees:List (Bool×Sem Value)}{xs:List Ent}{Q:Value->Shared->Prop}(hH:Ext H0 s.heap)(hc:Callee H0 f)(hp:trees.any (·.1)=false)
  (ha:wpAny (model Z w) A (spliced trees) (Pu s η (fun g vs=>MeansAll g vs xs)) NoE s)
  (h:∀vs s₁,Pu s η (fun g vs=>MeansAll g vs xs) vs s₁->wpAny (model Z w) A (call f (first++vs)) Q NoE s₁):
  wpAny (model Z w) A (callWith pos f first trees []) Q NoE s:=by
 refine callWith_of (P:=fun h=>Ext H0 h) (by rw[hp];rfl) (fun h e=>hc _ h e) (evalArgs_any hp ?_);exact seqP ha fun vs s₁ q=>⟨hH.trans q.ext,h vs s₁ q⟩
theorem ev_call{x:Str}{p pos:Pos}{args:List Expr}{f:Value}{xs:List Ent}{P:Heap->Value->Prop}(hf:EvE Z w H0 n sc σ δ (.Name x p) (.v f))(hc:Callee H0 f)(ha:EvsP Z w H0 n sc σ δ pos args xs)(hcall:FnP Z w H0 n f xs P)
  (hb:∀V,(backTo pos (starEach args V)).any (·.1)=false):EvP Z w H0 n sc σ δ (.Call (.Name x p) args [] pos) P:=by
 intro A V s η g o F;refine Call_Name rfl (seqP (hf A V s η g o F) fun v s₁ q=>?_);have e1:=q.val;subst e1;have F1:=F.ext q.ext;refine callWith_P (V:=V) F1.toBase.h0 hc (hb V) (ha A V s₁ η g o F1) fun vs s2 q2=>?_;exact seqP (hcall A s2 η vs g (F1.ext q2.ext).toBase q2.val) fun _ _ q3=>(q.trans q2).trans q3
theorem bindL_old{k:Str->Option NameKind}{x:Str}:∀{binds:List (Str×Value)} {m:Str->Option Value},x∉binds.map (·.1)->bindL k binds m x=m x
 |[],m,_=>rfl
 |(y,v)::r,m,h=>by
  have h1:x≠y:=fun q=>h (by simp[q]);have h2:x∉r.map (·.1):=fun q=>h (by simp only[map_cons,mem_cons];exact .inr q);rw[bindL,bindL_old h2];split<;> simp[h1]
theorem bindC_old{k:Str->Option NameKind}{x:Str}:∀{binds:List (Str×Value)} {m:Str->Option Value},x∉binds.map (·.1)->bindC k binds m x=m x
 |[],m,_=>rfl
 |(y,v)::r,m,h=>by
  have h1:x≠y:=fun q=>h (by simp[q]);have h2:x∉r.map (·.1):=fun q=>h (by simp only[map_cons,mem_cons];exact .inr q);rw[bindC,bindC_old h2];split<;> simp[h1]
theorem bindL_get{k:Str->Option NameKind}{x:Str}{v:Value}(hk:k x=some .local):∀{binds:List (Str×Value)} {m:Str->Option Value},(binds.map (·.1)).Nodup->(x,v)∈binds->bindL k binds m x=some v
 |(y,u)::r,m,hn,h=>by
  rw[map_cons,nodup_cons] at hn;rcases mem_cons.mp h with e|h
  ·cases e
   rw[bindL,bindL_old hn.1,if_pos hk];simp
  ·rw[bindL];exact bindL_get hk hn.2 h
theorem bindC_get{k:Str->Option NameKind}{x:Str}{v:Value}(hk:k x≠some .local):∀{binds:List (Str×Value)} {m:Str->Option Value},(binds.map (·.1)).Nodup->(x,v)∈binds->bindC k binds m x=some v
 |(y,u)::r,m,hn,h=>by
  rw[map_cons,nodup_cons] at hn;rcases mem_cons.mp h with e|h
  ·cases e
   rw[bindC,bindC_old hn.1,if_neg hk];simp
  ·rw[bindC];exact bindC_get hk hn.2 h
theorem zip_lookup{g:Heap}{x:Str}{e:Ent}:∀{ps:List Str} {vs:List Value} {xs:List Ent},MeansAll g vs xs->(ps.zip xs).lookup x=some e->∃v,(x,v)∈ps.zip vs∧Means g v e
 |[],_,_,_,h=>by simp at h
 |_::_,[],[],_,h=>by simp at h
 |p::ps,v::vs,y::ys,⟨a,b⟩,h=>by
  rw[List.zip_cons_cons,lookup_cons] at h;cases q:x==p with
  |true=>
   rw[q] at h;cases h;have:x=p:=by simpa using q
   subst this;exact⟨v,by simp,a⟩
  |false=>
   rw[q] at h;obtain⟨u,m,c⟩:=zip_lookup b h;exact⟨u,by rw[List.zip_cons_cons];exact .tail _ m,c⟩
 |_::_,[],_::_,h,_=>h.elim
 |_::_,_::_,[],h,_=>h.elim
structure DefIs(H0:Heap)(f:Addr)(fd:FuncData)(sc:Scope)(ps:List Str)(body:List Stmt):Prop where
 obj:∃o,H0.get? f=some o∧o.data=.func fd
 lim:H0.NoLimit
 rec':H0.CodeRec fd.code fd.qualname
 body:fd.body=.stmts body
 clo:fd.closure=[]
 scope:fd.scope=sc
 glob:fd.globals=mainGlobals
 bi:fd.builtins=builtinsNs
 bind:∀vs:List Value,vs.length=ps.length->bindArgs fd ⟨vs,[]⟩=pure (ps.zip vs)
def scopeOk(sc:Scope)(ps:List Str):Bool:=
 sc.kind==.function && !sc.isCoroutine && !sc.isGenerator && decide ((cellsFrom 0 sc.names []).map (·.1)).Nodup && decide ps.Nodup &&
 ps.all (fun x=>sc.names.lookup x==some .local ||sc.names.lookup x==some .cell) &&
 sc.names.all (fun x=>x.2 !=.free) &&
 sc.names.all (fun x=>sc.names.lookup x.1 !=some .cell ||((cellsFrom 0 sc.names []).lookup x.1).isSome) && (cellsFrom 0 sc.names []).all (fun x=>sc.names.lookup x.1==some .cell)
theorem DefIs.callee{f:Addr}{fd:FuncData}{ps:List Str}{body:List Stmt}(D:DefIs H0 f fd sc ps body):Callee H0 (.ref f):=let⟨_,a,b⟩:=D.obj;callee_fn a b
theorem lookup_isSome_names{cs cs':List (Str×Addr)}(h:cs.map (·.1)=cs'.map (·.1))(x:Str):(cs.lookup x).isSome=(cs'.lookup x).isSome:=by
 induction cs generalizing cs' with
 |nil=>cases cs' with|nil=>rfl|cons _ _=>simp at h
 |cons p r ih=>
  cases cs' with
  |nil=>simp at h
  |cons q r'=>
   simp only[map_cons,List.cons.injEq] at h;obtain⟨a,b⟩:=p;obtain⟨c,d⟩:=q;simp only at h;obtain⟨rfl,h⟩:=h;rw[lookup_cons,lookup_cons];cases x==a
   ·exact ih h
   ·rfl
theorem fn_def{f:Addr}{fd:FuncData}{ps:List Str}{body:List Stmt}{xs:List Ent}{x:Ent}(D:DefIs H0 f fd sc ps body)(hsc:scopeOk sc ps=true)(hl:xs.length=ps.length)(h:ExP Z w H0 n sc (ps.zip xs) [] body (.ret x)):
  FnP Z w H0 (n+1) (.ref f) xs (fun g v=>Means g v x):=by
 intro A s η vs g B hm;have hlv:vs.length=ps.length:=(meansAll_f2e hm).length.trans hl;simp only[scopeOk,Bool.and_eq_true,decide_eq_true_eq,all_eq_true,Bool.not_eq_true'] at hsc;obtain⟨⟨⟨⟨⟨⟨⟨⟨hk,hco⟩,hge⟩,hnd⟩,hps⟩,hset⟩,hfree⟩,hcl⟩,hcl2⟩:=hsc;have hk:sc.kind=.function:=by simpa using hk
 obtain⟨oo,ho,hd⟩:=D.obj;have hnames:∀L,(cellsFrom L sc.names []).map (·.1)=(cellsFrom 0 sc.names []).map (·.1):=fun L=>cellsFrom_names sc.names L 0 [] [] rfl;have hmem:∀p∈ps.zip vs,p.1∈ps:=fun p hp=>by
  obtain⟨a,b⟩:=p;exact(of_mem_zip hp).1
 have hsc':=D.scope;subst hsc';refine wpAny_call (codeAny_call_cells (binds:=ps.zip vs) g.depth (B.h0 _ _ ho) hd (D.lim.keeps B.h0) (D.rec'.keeps B.h0) D.body (D.bind vs hlv) D.clo ?_ (fun s₁ X=>?_) hco hge hk)
 ·intro p hp
  have:=hset p.1 (hmem p hp);simp only[Bool.or_eq_true,beq_iff_eq] at this;rcases this with h1|h1
  ·exact .inl h1
  ·refine .inr ⟨h1,?_⟩
   rw[lookup_isSome_names (hnames _)];have:=hcl (p.1,.cell) (mem_of_lookup (l:=fd.scope.names) (by
    exact h1))
   simpa [h1] using this
 ·obtain⟨h₁,tk1,e1⟩:=X.toInCall.same
  have keep:=X.toInCall.keep;have hL:s.heap.get? s.heap.objs.size=none:=by
   cases e:s.heap.get? s.heap.objs.size with
   |none=>rfl
   |some o=>exact absurd (Heap.lt_size e) (Nat.lt_irrefl _)
  have fr:∀a,s.heap.objs.size≤a->s.heap.get? a=none:=fun a ha=>by
   cases e:s.heap.get? a with
   |none=>rfl
   |some o=>exact absurd (Heap.lt_size e) (Nat.not_lt.mpr ha)
  generalize hE:callEnvC fd s.heap.objs.size f=V at X ⊢;have eL:V.locals=s.heap.objs.size:=by rw[←hE];rfl
  have eC:V.cells=cellsFrom (s.heap.objs.size+1) fd.scope.names []:=by rw[←hE];rfl
  have eS:V.scope=fd.scope:=by rw[←hE];rfl
  have hndc:(V.cells.map (·.1)).Nodup:=by rw[eC,hnames];exact hnd
  have o:EnvOk fd.scope V:=⟨eS,by rw[←hE];exact D.glob,by rw[←hE];exact D.bi,hk,fun x hx=>by
   rw[eC,lookup_isSome_names (hnames _)];rcases hx with hx|hx
   ·have:=hcl (x,.cell) (mem_of_lookup hx)
    simpa [hx] using this
   ·have:=hfree (x,.free) (mem_of_lookup hx)
    simp at this⟩
  have cellIs:∀p∈V.cells,s₁.heap.IsCell p.2 (bindC V.kindOf (ps.zip vs) (fun _=>none) p.1):=fun p hp=>X.cell p.1 p.2 (lookup_of_mem_nodup hndc hp);have gk:Ext (vis s.heap η) (vis s₁.heap ((V.locals::V.cells.map (·.2))++η)):=vis_more keep fun a ha=>by
   rcases mem_cons.mp ha with rfl|ha
   ·rw[eL];exact hL
   ·obtain⟨p,hp,rfl⟩:=mem_map.mp ha
    have:=X.above p.1 p.2 hp;exact fr _ (Nat.le_of_lt (eL▸this))
  have hvn:((ps.zip vs).map (·.1))=ps:=by rw[List.map_fst_zip];omega
  have F:Fm H0 ((V.locals::V.cells.map (·.2))++η) [] V (ps.zip xs) s₁.heap:={
   base:=B.base.trans gk
   alive:=fun a ha=>by
    rcases mem_append.mp ha with ha|ha
    ·rcases mem_cons.mp ha with rfl|ha
     ·obtain⟨o,_,_,e,_⟩:=X.toInCall.ns;exact⟨o,e⟩
     ·obtain⟨p,hp,rfl⟩:=mem_map.mp ha
      obtain⟨o,e,_⟩:=cellIs p hp;exact⟨o,e⟩
    ·obtain⟨o,e⟩:=B.alive a ha;exact⟨o,keep _ _ e⟩
   loc:=by simp
   celh:=fun p hp=>mem_append_left _ (mem_cons_of_mem _ (mem_map_of_mem hp))
   ledh:=fun p hp=>nomatch hp
   ns:=⟨_,X.toInCall.ns,fun y e hy hkl=>by
    obtain⟨v,mv,me⟩:=zip_lookup hm hy;exact⟨v,bindL_get hkl (by rw[hvn];exact hps) mv,me.ext gk⟩⟩
   cell:=fun y e hy hkc=>by
    obtain⟨v,mv,me⟩:=zip_lookup hm hy;have hkc':fd.scope.names.lookup y=some .cell:=by
     rw[Env.kindOf,eS] at hkc;rcases hkc with q|q
     ·exact q
     ·have:=hfree (y,.free) (mem_of_lookup q)
      simp at this
    obtain⟨c,hc⟩:=Option.isSome_iff_exists.mp (o.cells y (.inl hkc'));refine⟨c,v,hc,?_,me.ext gk⟩;have:=X.cell y c hc;rwa [bindC_get (by rw[Env.kindOf,eS,hkc'];decide) (by rw[hvn];exact hps) mv] at this
   cells:=fun p hp=>⟨_,cellIs p hp⟩
   ledg:=fun p hp=>nomatch hp
   apart:=X.apart
   off:=fun p hp=>Nat.ne_of_gt (X.above p.1 p.2 hp)
   ledoff:=fun p hp=>nomatch hp}
  rw[e1] at F ⊢;refine wpAny_mono (h _ V _ _ g.deeper o F) (fun fl s2 q=>?_) fun _ _ f=>f.elim;obtain⟨h2,t2,rfl,k2,v,rfl,B2,mv⟩:=q;refine⟨h2,t2,rfl,fun b ob e=>?_,mv.ext (vis_less h2 fun a m=>mem_append_right _ m)⟩;have e':=keep b ob e;rw[e1] at e';refine k2 b ob (fun m=>?_) e';have:s.heap.get? b=none:=by
   simp only[ownOf,map_nil,append_nil] at m;rcases mem_cons.mp m with rfl|m
   ·rw[eL];exact hL
   ·obtain⟨p,hp,rfl⟩:=mem_map.mp m
    have:=X.above p.1 p.2 hp;exact fr _ (Nat.le_of_lt (eL▸this))
  rw[e] at this;cases this
def closOf(cells:List (Str×Addr)):List (Str×NameKind)->List (Str×Addr)->List (Str×Addr)
 |[],acc=>acc
 |(x,k)::r,acc=>closOf cells r (if k==.free then (x,(cells.lookup x).getD 0)::acc else acc)
theorem closureFor_eq{scope:Scope}{V:Env}(h:∀x∈scope.names,x.2=.free->(V.cells.lookup x.1).isSome=true):closureFor scope V=pure (closOf V.cells scope.names []):=by
 have gen:∀(names:List (Str×NameKind)) (acc:List (Str×Addr)),(∀x∈names,x.2=.free->(V.cells.lookup x.1).isSome=true)->
   (forIn names acc (fun x r=>(match x with|(name,kind)=>if(kind==.free)=true then (do let a ←cellOf V name;pure (ForInStep.yield ((name,a)::r))) else pure (ForInStep.yield r):Sem (ForInStep (List (Str×Addr))))))=pure (closOf V.cells names acc):=by
  intro names
  induction names with
  |nil=>intro acc _;rfl
  |cons x r ih=>
   intro acc hx;obtain⟨x,k⟩:=x;rw[forIn_cons]
   by_cases hk:k=.free
   ·subst hk
    obtain⟨c,hc⟩:=Option.isSome_iff_exists.mp (hx (x,.free) mem_cons_self rfl);have e1:cellOf V x=pure c:=by unfold cellOf;rw[hc]
    simp only[beq_self_eq_true,if_true,e1];show(forIn r ((x,c)::acc) _:Sem _)=_;rw[ih _ fun y hy=>hx y (mem_cons_of_mem _ hy)];simp[closOf,hc]
   ·have hb:(k==NameKind.free)=false:=by simpa using hk
    simp only[hb,Bool.false_eq_true,if_false];show(forIn r acc _:Sem _)=_;rw[ih _ fun y hy=>hx y (mem_cons_of_mem _ hy)];simp[closOf,hb]
 have e:=congrArg (fun t:Sem (List (Str×Addr))=>t >>=fun cs=>pure cs) (gen scope.names [] h);exact Eq.trans (by rfl) (e.trans rfl)
theorem closOf_mem{cells:List (Str×Addr)}:∀{names:List (Str×NameKind)} {acc:List (Str×Addr)} {x:Str} {c:Addr},(x,c)∈closOf cells names acc->(x,c)∈acc∨((x,NameKind.free)∈names∧c=(cells.lookup x).getD 0)
 |[],acc,x,c,h=>.inl h
 |(y,k)::r,acc,x,c,h=>by
  rcases closOf_mem (names:=r) h with h|⟨h1,h2⟩
  ·by_cases hk:k=.free
   ·subst hk
    simp only[beq_self_eq_true,if_true] at h;rcases mem_cons.mp h with e|h
    ·cases e;exact .inr ⟨mem_cons_self,rfl⟩
    ·exact .inl h
   ·have hb:(k==NameKind.free)=false:=by simpa using hk
    simp only[hb,Bool.false_eq_true,if_false] at h;exact .inl h
  ·exact .inr ⟨mem_cons_of_mem _ h1,h2⟩
theorem closOf_lookup{cells:List (Str×Addr)}{x:Str}:∀{names:List (Str×NameKind)} {acc:List (Str×Addr)},((x,NameKind.free)∈names∨∃c,acc.lookup x=some c∧c=(cells.lookup x).getD 0)->(∀c,acc.lookup x=some c->c=(cells.lookup x).getD 0)->
  (closOf cells names acc).lookup x=some ((cells.lookup x).getD 0)
 |[],acc,h,_=>by
  rcases h with h|⟨c,h,rfl⟩
  ·cases h
  ·exact h
 |(y,k)::r,acc,h,hc=>by
  rw[closOf]
  by_cases hk:k=.free
  ·subst hk
   simp only[beq_self_eq_true,if_true]
   by_cases hy:x=y
   ·subst hy
    exact closOf_lookup (.inr ⟨_,by rw[lookup_cons];simp,rfl⟩) (fun c e=>by rw[lookup_cons] at e;simp at e;exact e.symm)
   ·have e:(((y,(cells.lookup y).getD 0)::acc).lookup x)=acc.lookup x:=lookup_cons_ne hy
    refine closOf_lookup ?_ (fun c q=>hc c (by rwa [e] at q));rcases h with h|h
    ·rcases mem_cons.mp h with q|h
     ·cases q;exact absurd rfl hy
     ·exact .inl h
    ·rw[e];exact .inr h
  ·have hb:(k==NameKind.free)=false:=by simpa using hk
   simp only[hb,Bool.false_eq_true,if_false];refine closOf_lookup ?_ hc;rcases h with h|h
   ·rcases mem_cons.mp h with q|h
    ·cases q;exact absurd rfl hk
    ·exact .inl h
   ·exact .inr h
theorem closOf_names{cells:List (Str×Addr)}:∀(names:List (Str×NameKind)) (acc:List (Str×Addr)),(closOf cells names acc).map (·.1)=(names.filterMap fun x=>if x.2==.free then some x.1 else none).reverse++acc.map (·.1)
 |[],acc=>by simp[closOf]
 |(y,k)::r,acc=>by
  rw[closOf,closOf_names r]
  by_cases hk:k=.free
  ·subst hk;simp
  ·have hb:(k==NameKind.free)=false:=by simpa using hk
   simp[hk]
theorem cellsFrom_mem:∀{names:List (Str×NameKind)} {h:Heap} {acc:List (Str×Addr)} {x:Str} {c:Addr},(x,c)∈cellsFrom h.objs.size names acc->(x,c)∈acc∨(h.objs.size≤c∧(pushCells h names).IsCell c none∧(x,NameKind.cell)∈names)
 |[],h,acc,x,c,m=>.inl m
 |(y,k)::r,h,acc,x,c,m=>by
  rw[cellsFrom] at m;rw[pushCells]
  by_cases hk:k=.cell
  ·subst hk
   simp only[beq_self_eq_true,if_true] at m ⊢;have e:h.objs.size+1=(h.push {cls:=.type "cell",data:=.cell none}).objs.size:=(Heap.size_push ..).symm;rw[e] at m;rcases cellsFrom_mem m with m|⟨m1,m2,m3⟩
   ·rcases mem_cons.mp m with q|m
    ·cases q
     exact .inr ⟨Nat.le_refl _,⟨_,pushCells_keeps r _ _ _ (Heap.get?_push_size _ rfl),rfl⟩,mem_cons_self⟩
    ·exact .inl m
   ·exact .inr ⟨by have m1:=m1;rw[←e] at m1;exact Nat.le_of_succ_le m1,m2,mem_cons_of_mem _ m3⟩
  ·have hb:(k==NameKind.cell)=false:=by simpa using hk
   simp only[hb,Bool.false_eq_true,if_false] at m ⊢;rcases cellsFrom_mem m with m|⟨m1,m2,m3⟩
   ·exact .inl m
   ·exact .inr ⟨m1,m2,mem_cons_of_mem _ m3⟩
theorem cellsFrom_apart:∀{names:List (Str×NameKind)} {b:Nat} {acc:List (Str×Addr)},(acc.Pairwise fun x y=>x.2≠y.2)->(∀p∈acc,p.2<b)->(cellsFrom b names acc).Pairwise fun x y=>x.2≠y.2
 |[],b,acc,h,_=>h
 |(y,k)::r,b,acc,h,hb=>by
  rw[cellsFrom];split
  ·refine cellsFrom_apart (List.pairwise_cons.mpr ⟨fun p hp=>Nat.ne_of_gt (hb p hp),h⟩) fun p hp=>?_
   rcases mem_cons.mp hp with rfl|hp
   ·exact Nat.lt_succ_self _
   ·exact Nat.lt_succ_of_lt (hb p hp)
  ·exact cellsFrom_apart h hb
theorem cellsFrom_lookup{x:Str}:∀{names:List (Str×NameKind)} {b:Nat} {acc:List (Str×Addr)},(x,NameKind.cell)∉names->(cellsFrom b names acc).lookup x=acc.lookup x
 |[],b,acc,_=>rfl
 |(y,k)::r,b,acc,h=>by
  rw[cellsFrom];split
  ·rename_i hk
   have hk:k=.cell:=by simpa using hk
   subst hk;have hy:x≠y:=fun q=>h (by rw[q];exact mem_cons_self);rw[cellsFrom_lookup fun m=>h (mem_cons_of_mem _ m),lookup_cons_ne hy]
  ·exact cellsFrom_lookup fun m=>h (mem_cons_of_mem _ m)
theorem cellsFrom_some{x:Str}:∀{names:List (Str×NameKind)} {b:Nat} {acc:List (Str×Addr)},((x,NameKind.cell)∈names∨(acc.lookup x).isSome=true)->((cellsFrom b names acc).lookup x).isSome=true
 |[],b,acc,h=>h.elim (fun m=>nomatch m) id
 |(y,k)::r,b,acc,h=>by
  rw[cellsFrom]
  by_cases hk:k=.cell
  ·subst hk
   simp only[beq_self_eq_true,if_true];refine cellsFrom_some ?_
   by_cases hy:x=y
   ·subst hy;exact .inr (by rw[lookup_cons];simp)
   ·rw[lookup_cons_ne hy]
    rcases h with h|h
    ·rcases mem_cons.mp h with q|h
     ·cases q;exact absurd rfl hy
     ·exact .inl h
    ·exact .inr h
  ·have hb:(k==NameKind.cell)=false:=by simpa using hk
   simp only[hb,Bool.false_eq_true,if_false];refine cellsFrom_some ?_;rcases h with h|h
   ·rcases mem_cons.mp h with q|h
    ·cases q;exact absurd rfl hk
    ·exact .inl h
   ·exact .inr h
def compOk(sc scope:Scope):Bool:=
 scope.kind==.function && decide (scope.names.map (·.1)).Nodup && scope.names.all (fun x=>x.2 !=.free ||(sc.names.lookup x.1==some .cell ||sc.names.lookup x.1==some .free)) &&
 scope.names.all (fun x=>x.2 !=.local ||scope.names.lookup x.1==some .local)
def scIn(sc scope:Scope):Scope:={scope with names:=scope.names.map fun(x,k)=>if(k==.free && sc.kind==.function && sc.names.lookup x==some .cell) then (x,.cell) else (x,k)}
def stoIn(scope:Scope)(σ:Sto):Sto:=scope.names.filterMap fun x=>if x.2==.free then (σ.lookup x.1).map fun e=>(x.1,e) else none
theorem lookup_nodup{α:Type}:∀{l:List (Str×α)} {x:Str} {c:α},(l.map (·.1)).Nodup->(x,c)∈l->l.lookup x=some c
 |(y,d)::r,x,c,hn,h=>by
  rw[map_cons,nodup_cons] at hn;rcases mem_cons.mp h with e|h
  ·cases e;rw[lookup_cons];simp
  ·have:x≠y:=fun q=>hn.1 (by rw[←q];exact mem_map.mpr ⟨_,h,rfl⟩)
   rw[lookup_cons_ne this];exact lookup_nodup hn.2 h
theorem stoIn_lookup{scope:Scope}{σ:Sto}{x:Str}{e:Ent}(h:(stoIn scope σ).lookup x=some e):(x,NameKind.free)∈scope.names∧σ.lookup x=some e:=by
 have m:=mem_of_lookup h;unfold stoIn at m;obtain⟨⟨y,k⟩,hy,q⟩:=List.mem_filterMap.mp m
 by_cases hk:k=.free
 ·subst hk
  simp only[beq_self_eq_true,if_true] at q;cases hl:σ.lookup y with
  |none=>rw[hl] at q;simp at q
  |some d=>rw[hl] at q;simp at q;obtain⟨rfl,rfl⟩:=q;exact⟨hy,hl⟩
 ·have hb:(k==NameKind.free)=false:=by simpa using hk
  simp[hb] at q
theorem runs_toks{M:Model}{Γ:Ctx}{p:Pos}{t:Sem PySem.Fin}{fs:List Frame}{s s':Shared}{e:End}(h:Runs M Γ p t fs s e s'):s.toks≤s'.toks:=by
 induction h with
 |done|raise|yield=>exact Nat.le_refl _
 |again _ _ ih|rule _ ih|«at» _ ih|load _ _ ih|update _ _ ih|loadIfAlive _ ih|point _ ih|alloc _ ih|ask _ ih|choose _ _ ih|os _ ih|handled _ ih|genState _ _ ih|stack _ ih|thread _ ih|newGen _ ih|callSusp _ ih|resumeJustStarted _ _ _ ih|resumeThrowFresh _ _ ih|resumeRunning _ _ ih|resumeFinished _ _ ih|segSuspOut _ _ ih=>exact ih
 |fresh _ ih=>exact Nat.le_trans (Nat.le_succ _) ih
 |call _ _ ih1 ih2|resumeFresh _ _ _ _ ih1 ih2|resumeSuspended _ _ _ _ ih1 ih2|segRet _ _ ih1 ih2|segGen _ _ ih1 ih2|segSuspGen _ _ _ _ ih1 ih2=>exact Nat.le_trans ih1 ih2
theorem wakes_toks{M:Model}{Γ:Ctx}{p:Pos}{g:Nat}{r:Resume}{s s':Shared}{res:GenResult}(h:Wakes M Γ p g r s res s'):s.toks≤s'.toks:=by
 unfold Wakes at h;split at h
 ·exact h.elim
 ·split at h
  ·obtain⟨e1,s₁,h1,_,_,rfl⟩:=h
   have q:=runs_toks h1;exact q
  ·obtain⟨_,rfl⟩:=h;exact Nat.le_refl _
  ·obtain⟨_,rfl⟩:=h;exact Nat.le_refl _
 ·obtain⟨e1,s₁,h1,_,_,rfl⟩:=h
  have q:=runs_toks h1;exact q
 ·obtain⟨_,rfl⟩:=h;exact Nat.le_refl _
 ·obtain⟨_,rfl⟩:=h;exact Nat.le_refl _
theorem wp_toks{α:Type}{M:Model}{Γ:Ctx}{Q:α->Pos->Shared->Prop}{E:Value->Pos->Shared->Prop}{k:Nat}(t:Sem α):∀(p:Pos) (s:Shared),k≤s.toks->Sem.wp M Γ t Q E p s->Sem.wp M Γ t (fun a p s'=>k≤s'.toks∧Q a p s') E p s:=by
 induction t with
 |pure x=>exact fun p s hk h=>⟨hk,h⟩
 |raise v=>exact fun p s hk h=>h
 |unsupported|finish|yield|fork|await|register=>exact fun p s hk h=>h
 |rule _ k ih|«at» _ k ih|alloc _ k ih|loadIfAlive _ k ih|point _ k ih|ask k ih|os _ _ k ih|handled _ k ih|newGen _ k ih|stack k ih|thread k ih=>exact fun p s hk h=>ih _ _ _ hk h
 |fresh k ih=>exact fun p s hk h=>ih _ _ {s with toks:=s.toks+1} (Nat.le_succ_of_le hk) h
 |load a _ k ih|genState a k ih=>exact fun p s hk ⟨o,ho,h⟩=>⟨o,ho,ih _ _ _ hk h⟩
 |update a _ f k ih=>exact fun p s hk ⟨ha,h⟩=>⟨ha,ih _ _ {s with heap:=s.heap.update a f} hk h⟩
 |choose src n k ih=>exact fun p s hk ⟨ha,h⟩=>⟨ha,ih _ _ {s with drawn:=s.drawn.bump src} hk h⟩
 |call c h g l k ih=>exact fun p s hk ⟨r,s',hr,h⟩=>⟨r,s',hr,ih r p s' (Nat.le_trans hk (runs_toks hr)) h⟩
 |resume g r l k ih=>exact fun p s hk ⟨res,s',hw,h⟩=>⟨res,s',hw,ih _ _ _ (Nat.le_trans hk (wakes_toks hw)) h⟩
theorem wpAny_toks{α:Type}{M:Model}{A:Around}{t:Sem α}{Q:α->Shared->Prop}{E:Value->Shared->Prop}{s:Shared}{k:Nat}(hk:k≤s.toks)(h:wpAny M A t Q E s):wpAny M A t (fun a s'=>k≤s'.toks∧Q a s') E s:=
 fun Γ p hΓ=>wp_toks t p s hk (h Γ p hΓ)
structure AccK(β:Type) where
 R:Heap->List Addr->Addr->β->Prop
 move:∀{h h':Heap} {η η':List Addr} {D:Addr} {b:β},(∀o,h.get? D=some o->h'.get? D=some o)->Ext (vis h η) (vis h' η')->R h η D b->R h' η' D b
 alive:∀{h:Heap} {η:List Addr} {D:Addr} {b:β},R h η D b->∃o,h.get? D=some o
def listK:AccK (List PyData) where
 R:=fun h η D ds=>∃vs,h.IsList D (toArray vs)∧F2 (fun v d=>Rd d (vis h η) v) vs ds
 move:=fun hD x ⟨vs,⟨o,e,r⟩,f⟩=>⟨vs,⟨o,hD o e,r⟩,f.imp fun _ _ q=>q.ext x⟩
 alive:=fun⟨_,⟨o,e,_⟩,_⟩=>⟨o,e⟩
def Off(D:Addr)(V:Env)(δ:Led):Prop:=D≠V.locals∧(∀p∈V.cells,p.2≠D)∧∀p∈δ,p.1≠D
section
variable{Z:Program}{w:World}{H0:Heap}{n:Nat}{sc:Scope}{σ:Sto}{β:Type}{K:AccK β}
def CoP(Z:Program)(w:World)(H0:Heap)(n:Nat)(sc:Scope)(σ:Sto)(δ:Led)(xs:List Str)(K:AccK β)(t:Env->Value->Sem Unit)(b b':β):Prop:=
 ∀A V s η D,Good n A->EnvOk sc V->Fm H0 η δ V σ s.heap->D∈η->Off D V δ->K.R s.heap η D b->
  wpAny (model Z w) A (t V (.ref D)) (fun _ s'=>∃h' tk,s'={s with heap:=h',toks:=tk}∧KeepBut (D::placesOf V xs) s.heap h'∧Fm H0 η δ V σ h'∧K.R h' η D b') NoE s
def CoPj(j:Nat)(Z:Program)(w:World)(H0:Heap)(n:Nat)(sc:Scope)(σ:Sto)(δ:Led)(xs:List Str)(K:AccK β)(t:Env->Value->Sem Unit)(b b':β):Prop:=
 ∀A V s η D,j≤s.toks->Good n A->EnvOk sc V->Fm H0 η δ V σ s.heap->D∈η->Off D V δ->K.R s.heap η D b->
  wpAny (model Z w) A (t V (.ref D)) (fun _ s'=>∃h' tk,s'={s with heap:=h',toks:=tk}∧KeepBut (D::placesOf V xs) s.heap h'∧Fm H0 η δ V σ h'∧K.R h' η D b') NoE s
theorem CoP.j{j:Nat}{δ:Led}{xs:List Str}{t:Env->Value->Sem Unit}{b b':β}(h:CoP Z w H0 n sc σ δ xs K t b b'):CoPj j Z w H0 n sc σ δ xs K t b b':=fun A V s η D _=>h A V s η D
def IfsP(Z:Program)(w:World)(H0:Heap)(n:Nat)(sc:Scope)(σ:Sto)(δ:Led)(ifs:List Expr)(p:Bool):Prop:=
 ∀A V s η,Good n A->EnvOk sc V->Fm H0 η δ V σ s.heap->
  wpAny (model Z w) A (forIn ifs true fun c r=>if r=true then do let ok ←isTrue c V (eval c V);pure (ForInStep.yield ok) else pure (ForInStep.yield r)) (Pu s η (fun _ c=>c=p)) NoE s
theorem ifs_nil{δ:Led}:IfsP Z w H0 n sc σ δ [] true:=fun A V s η g o F=>wpAny_pure (Pu.here rfl)
theorem ifs_one{δ:Led}{c:Expr}{p:Bool}(h:TrP Z w H0 n sc σ δ c p):IfsP Z w H0 n sc σ δ [c] p:=fun A V s η g o F=>wpAny_tests_one (h A V s η g o F)
theorem off_own{D:Addr}{V:Env}{δ:Led}(h:Off D V δ)(xs:List Str):D∉placesOf V xs:=by
 intro m;obtain⟨x,_,m⟩:=mem_flatMap.mp m;unfold placeOf at m;split at m
 ·exact h.1 (by simpa using m)
 ·cases e:V.cells.lookup x with
  |none=>rw[e] at m;simp at m
  |some c=>rw[e] at m;simp at m;exact h.2.1 _ (mem_of_lookup e) m.symm
structure SrcT(Z:Program)(w:World)(A:Around)(target:Expr)(g:Heap)(η:List Addr)(I:Addr)(fp wr:List Addr)(ds:List Ent)(St:Nat->Heap->Prop):Prop where
 sub:∀b∈wr,b∈fp
 frame:∀i h h',St i h->(∀b∈fp,∀o,h.get? b=some o->h'.get? b=some o)->St i h'
 item:∀i (s:Shared) (e:Ent) (Q:Value->Shared->Prop) (E:Value->Shared->Prop),ds[i]? =some e->St i s.heap->Ext g (vis s.heap η)->(∀b∈η,∃o,s.heap.get? b=some o)->
  (∀v h' tk,Means (vis h' η) v e->St (i+1) h'->(∀b o,b∉wr->s.heap.get? b=some o->h'.get? b=some o)->Q v {s with heap:=h',toks:=tk})->
  wpAny (model Z w) A (pyNext (.ref I)) (fun r s'=>∃v,r=some v∧wpAny (model Z w) A (letOwnedTupleGo target (.ref I) v) (fun _ s''=>Q v s'') E s') E s
 done:∀(s:Shared) (Q:Option Value->Shared->Prop) (E:Value->Shared->Prop),St ds.length s.heap->
  (∀h' tk,(∀b o,b∉wr->s.heap.get? b=some o->h'.get? b=some o)->Q none {s with heap:=h',toks:=tk})->wpAny (model Z w) A (pyNext (.ref I)) Q E s
 self:∀i (s:Shared) (Q:Value->Shared->Prop) (E:Value->Shared->Prop),St i s.heap->Q (.ref I) s->wpAny (model Z w) A (pyIter (.ref I)) Q E s
 alive:∀i h,St i h->∀b∈wr,∃o,h.get? b=some o
theorem SrcT.next{β:Type}{j:Nat}{A:Around}{target:Expr}{g:Heap}{η:List Addr}{I:Addr}{fp wr:List Addr}{ds:List Ent}{St:Nat->Heap->Prop}(S:SrcT Z w A target g η I fp wr ds St){k:Value->Sem β}{z:Sem β}{Q:β->Shared->Prop}{E:Value->Shared->Prop}{s:Shared}{i:Nat}{e:Ent}
  (hj:j≤s.toks)(he:ds[i]? =some e)(st:St i s.heap)(hg:Ext g (vis s.heap η))(hal:∀b∈η,∃o,s.heap.get? b=some o)
  (h:∀v h' tk,j≤tk->Means (vis h' η) v e->St (i+1) h'->(∀b o,b∉wr->s.heap.get? b=some o->h'.get? b=some o)->wpAny (model Z w) A (k v) Q E {s with heap:=h',toks:=tk}):
  wpAny (model Z w) A (pyNext (.ref I) >>=fun r=>match r with|none=>z|some v=>letOwnedTupleGo target (.ref I) v >>=fun _=>k v) Q E s:=
 wpAny_bind (wpAny_mono (wpAny_toks hj (S.item i s e (fun v s''=>j≤s''.toks->wpAny (model Z w) A (k v) Q E s'') E he st hg hal fun v h' tk a b c ht=>h v h' tk ht a b c))
  (fun r s' q=>by
   obtain⟨hj',v,rfl,q⟩:=q;exact wpAny_bind (wpAny_mono (wpAny_toks hj' q) (fun _ s'' z=>z.2 z.1) fun _ _ f=>f)) fun _ _ f=>f)
def isTarget(t:Expr):Prop:=(∃y p,t=.Name y p)∨∃es k p,t=.Tuple es k p
theorem Src.toT{A:Around}{target:Expr}{g:Heap}{η:List Addr}{I:Addr}{fp wr:List Addr}{ds:List Ent}{St:Nat->Heap->Prop}(S:Src Z w A g I fp wr ds St)(htg:isTarget target)(hw:∀b∈wr,b∈η):
  SrcT Z w A target g η I fp wr ds St where
 sub:=S.walk.sub
 frame:=S.walk.frame
 item:=fun i s e Q E he st hg hal hQ=>by
  refine S.walk.item i s _ _ (List.getElem?_eq_some_iff.mp he).1 st fun v h₃ t3 hv st3 k3=>⟨v,rfl,?_⟩;obtain⟨e',he',me⟩:=hv;rw[he] at he';cases he';have fin:=hQ v h₃ t3 (me.ext (hg.trans (vis_keepBut hw k3))) st3 k3;rcases htg with ⟨y,p,rfl⟩|⟨es,kk,p,rfl⟩
  ·exact wpAny_pure fin
  ·cases v with
   |ref a=>
    obtain⟨oo,T,e1,e2,e3⟩:=S.plain (i+1) h₃ st3;show wpAny _ A (load I >>=fun o=>_) _ _ _;refine wpAny_bind (wpAny_load e1 ?_);rw[e2];cases hd:oo.data<;> (try exact wpAny_pure fin)
    simp only;have:(["enumerate","zip","dict_itemiterator","dict_reverseitemiterator","odict_iterator","itertools.zip_longest","itertools.pairwise"].contains T)=false:=e3;rw[this];exact wpAny_pure fin
   |_=>exact wpAny_pure fin
 done:=S.walk.done
 self:=S.walk.self
 alive:=S.alive
def IsSrcT(Z:Program)(w:World)(A:Around)(target:Expr)(s:Shared)(η:List Addr)(ds:List Ent)(it:Value)(s2:Shared):Prop:=
 ∃I fp wr St h2 tk g₀,it=.ref I∧s2={s with heap:=h2,toks:=tk}∧Ext s.heap h2∧(∀η',(∀b∈wr,b∈η')->SrcT Z w A target g₀ η' I fp wr ds St)∧St 0 h2∧(∀b∈wr,s.heap.get? b=none)∧(∀b∈fp,b<h2.objs.size∧b∉η)∧Ext g₀ (vis h2 (wr++η))
def ItP(Z:Program)(w:World)(H0:Heap)(n:Nat)(sc:Scope)(σ:Sto)(δ:Led)(target iter:Expr)(ds:List Ent):Prop:=
 ∀A V s η,Good n A->EnvOk sc V->Fm H0 η δ V σ s.heap->wpAny (model Z w) A (eval iter V) (fun x s₁=>wpAny (model Z w) A (pyIter x) (IsSrcT Z w A target s η ds) NoE s₁) NoE s
theorem it_of{δ:Led}{target iter:Expr}{x:Ent}{ds:List Ent}(hi:EvE Z w H0 n sc σ δ iter x)(h:SrcV Z w H0 n x ds)(htg:isTarget target):ItP Z w H0 n sc σ δ target iter ds:=by
 intro A V s η g o F;refine seqP (hi A V s η g o F) fun v s₁ q=>?_;refine wpAny_mono (h A s₁ η v g (F.ext q.ext).toBase q.val) (fun it s2 q2=>?_) fun _ _ f=>f;obtain⟨h₁,t₁,rfl,ex1,_⟩:=q;obtain⟨I,fp,wr,St,h2,tk,a,rfl,c,S,d,e,f⟩:=q2;have fr:∀b∈wr,s.heap.get? b=none:=fun b hb=>by
  cases q:s.heap.get? b with
  |none=>rfl
  |some o=>have:=e b hb;rw[ex1 _ _ q] at this;cases this
 exact⟨I,fp,wr,St,h2,tk,vis h₁ η,a,rfl,ex1.trans c,fun η' hw=>S.toT htg hw,d,fr,fun b hb=>⟨let⟨_,q⟩:=(f b hb).1;Heap.lt_size q,fun m=>(f b hb).2 m⟩,vis_more c e⟩
theorem comp_loop{j:Nat}{e:Expr}{d:Nat}{target iter:Expr}{ifs:List Expr}{tail:Env->Value->Sem Unit}{xs:List Str}{ds:List Ent}{δ:Led}(B:Nat->β)
  (hturn:∀it acc V,compTurn e d it acc V=(do
   standAt iter.pos
   match ←pyNext it with
   |none=>pure (.done .next)
   |some v=>
    letOwnedTupleGo target it v
    assign target V v
    let mut ok:=true
    for c in ifs do
     if ok then ok ←isTrue c V (eval c V)
    if ok then tail V acc
    again (.compLoop e d it acc V)))
  (hfr:∀it acc V,(Code.compLoop e d it acc V).isFrame=false)(hq:∀it acc V,(Code.compLoop e d it acc V).quiet=true)(hun:∀(A:Around) it acc V,A.under (Code.compLoop e d it acc V)=A)
  (turn:∀i x,ds[i]? =some x->∃bs p,AsP Z w H0 n sc target x bs∧(∀y∈bs.map (·.1),y∈xs)∧(∀y∈bs.map (·.1),σ.lookup y=none)∧IfsP Z w H0 n sc (bs++σ) δ ifs p∧
   (p=true->CoPj j Z w H0 n sc (bs++σ) δ xs K tail (B i) (B (i+1)))∧(p=false->B (i+1)=B i))
  {A:Around}{V:Env}{s:Shared}{η:List Addr}{D I:Addr}{fp wr:List Addr}{St:Nat->Heap->Prop}{g₀:Heap}{R:Result->Shared->Prop}
  (hj:j≤s.toks)(g:Good n A)(o:EnvOk sc V)(S:SrcT Z w A target g₀ (wr++η) I fp wr ds St)(hst:St 0 s.heap)(F:Fm H0 (wr++η) δ V σ s.heap)(hD:D∈η)(hoff:Off D V δ)(hDw:D∉wr)(hDf:D∉fp)
  (hwr:∀b∈wr,b∉ownOf V δ∧b∉η)(hfp:∀b∈fp,b∉ownOf V δ)(hg:Ext g₀ (vis s.heap (wr++η)))(hK:K.R s.heap (wr++η) D (B 0))(hhid:∀a∈ownOf V δ,a∈η)
  (hR:∀h' tk,KeepBut (wr++D::placesOf V xs) s.heap h'->Fm H0 η δ V σ h'->K.R h' η D (B ds.length)->R (.ok .next) {s with heap:=h',toks:=tk}):
  codeAny (model Z w) A (.compLoop e d (.ref I) (.ref D) V) R s:=by
 refine codeAny_loop (hq _ _ _) (fun k s'=>∃i h' tk,s'={s with heap:=h',toks:=tk}∧j≤tk∧i≤ds.length∧k=ds.length - i∧St i h'∧Fm H0 (wr++η) δ V σ h'∧Ext g₀ (vis h' (wr++η))∧K.R h' (wr++η) D (B i)∧KeepBut (wr++D::placesOf V xs) s.heap h')
  (fun k s' hI=>?_) ds.length ⟨0,s.heap,s.toks,rfl,hj,Nat.zero_le _,rfl,hst,F,hg,hK,KeepBut.refl _ _⟩
 obtain⟨i,h',tk,rfl,hjt,hle,rfl,sti,Fi,gi,Ki,ki⟩:=hI;rw[hun];show wpAny _ A (if(Code.compLoop e d (.ref I) (.ref D) V).isFrame=true then (compTurn e d (.ref I) (.ref D) V).onRaise (leaving V) else (compTurn e d (.ref I) (.ref D) V).onRaise (fun x=>do noteFrame x V;theTreesLotGoes x)) _ _ _;rw[if_neg (by rw[hfr];exact Bool.false_ne_true)];refine wpAny_noted ?_;rw[hturn];refine wpAny_bind (wpAny_standAt ?_);have wrh:∀b∈wr,b∈wr++η:=fun b hb=>mem_append_left _ hb;have wro:∀b∈wr,b≠V.locals∧(∀p∈V.cells,p.2≠b)∧∀p∈δ,p.1≠b:=fun b hb=>
  ⟨fun q=>(hwr b hb).1 (q▸mem_cons_self),fun p hp q=>(hwr b hb).1 (q▸mem_cons_of_mem _ (mem_append_left _ (mem_map_of_mem hp))),
   fun p hp q=>(hwr b hb).1 (q▸mem_cons_of_mem _ (mem_append_right _ (mem_map_of_mem hp)))⟩
 by_cases hlt:i<ds.length
 ·obtain⟨x,he⟩:∃x,ds[i]? =some x:=⟨ds[i],by simp[hlt]⟩
  refine S.next (j:=j) hjt he sti gi Fi.alive fun v h₃ t3 hj3 me st3 k3=>?_;have F3:Fm H0 (wr++η) δ V σ h₃:=Fi.keepBut k3 wrh wro (fun b hb=>S.alive (i+1) h₃ st3 b hb);have v3:Ext (vis h' (wr++η)) (vis h₃ (wr++η)):=vis_keepBut wrh k3;have K3:K.R h₃ (wr++η) D (B i):=K.move (fun oo q=>k3 _ _ hDw q) v3 Ki;obtain⟨bs,p,hAs,hxs,hσ,hIf,h1,h2⟩:=turn i x he;refine wpAny_bind (wpAny_mono (wpAny_toks (k:=j) hj3 (hAs A V _ (wr++η) δ σ v g o F3 me)) (fun _ s4 q4=>?_) fun _ _ f=>f.elim);obtain⟨hj4,h4,t4,rfl,k4,F4⟩:=q4;have v4:Ext (vis h₃ (wr++η)) (vis h4 (wr++η)):=vis_keepBut (placesOf_hid F3 _) k4;have K4:K.R h4 (wr++η) D (B i):=K.move (fun oo q=>k4 _ _ (off_own hoff _) q) v4 K3;refine wpAny_bind (wpAny_mono (wpAny_toks (k:=j) hj4 (hIf A V _ (wr++η) g o F4)) (fun ok s5 q5=>?_) fun _ _ f=>f.elim);obtain⟨hj5,q5⟩:=q5;have eok:=q5.val;subst eok;have F5:=F4.ext q5.ext;obtain⟨h5,t5,rfl,ex5,_⟩:=q5;have v5:=vis_ext (wr++η) ex5;have K5:K.R h5 (wr++η) D (B i):=K.move (fun oo q=>ex5 _ _ q) v5 K4;have pl:∀a∈placesOf V (bs.map (·.1)),a∈placesOf V xs:=fun a m=>by
   obtain⟨y,hy,m⟩:=mem_flatMap.mp m;exact mem_flatMap.mpr ⟨y,hxs y hy,m⟩
  have back:∀(b:Str) (e:Ent),σ.lookup b=some e->(bs++σ).lookup b=some e:=fun y e hy=>by
   have hn:y∉bs.map (·.1):=fun m=>by rw[hσ y m] at hy;cases hy
   clear hAs hxs hσ hIf h1 h2 F4 F5 k4 pl
   induction bs with
   |nil=>exact hy
   |cons q r ih=>
    obtain⟨a,c⟩:=q;rw[cons_append,lookup_cons_ne (fun z=>hn (by simp[z]))];exact ih fun m=>hn (by simp only[map_cons,mem_cons];exact .inr m)
  have k35:KeepBut (placesOf V xs) h₃ h5:=(k4.more pl).trans (ex5.keep _);have fin:∀(h6:Heap) (t6:Nat),j≤t6->KeepBut (D::placesOf V xs) h5 h6->Fm H0 (wr++η) δ V (bs++σ) h6->K.R h6 (wr++η) D (B (i+1))->
    ∃m,m<ds.length - i∧∃i h' tk,({s with heap:=h6,toks:=t6}:Shared)={s with heap:=h',toks:=tk}∧j≤tk∧i≤ds.length∧m=ds.length - i∧St i h'∧Fm H0 (wr++η) δ V σ h'∧Ext g₀ (vis h' (wr++η))∧K.R h' (wr++η) D (B i)∧KeepBut (wr++D::placesOf V xs) s.heap h':=by
   intro h6 t6 hj6 k6 F6 K6;have kk:KeepBut (D::placesOf V xs) h₃ h6:=(k35.more fun a m=>mem_cons_of_mem _ m).trans k6;have Dhid:∀a∈D::placesOf V xs,a∈wr++η:=fun a m=>by
    rcases mem_cons.mp m with rfl|m
    ·exact mem_append_right _ hD
    ·exact mem_append_right _ (hhid a (places_own V δ xs a m))
   refine⟨ds.length - (i+1),by omega,i+1,h6,t6,rfl,hj6,hlt,rfl,?_,F6.sub back,gi.trans (v3.trans (vis_keepBut Dhid kk)),K6,?_⟩
   ·refine S.frame _ _ _ st3 fun b hb oo e=>kk b oo (fun m=>?_) e
    rcases mem_cons.mp m with rfl|m
    ·exact hDf hb
    ·exact hfp b hb (places_own V δ xs b m)
   ·exact ki.trans ((KeepBut.more k3 fun b hb=>mem_append_left _ hb).trans (kk.more fun b hb=>mem_append_right _ hb))
  cases ok with
  |false=>
   refine wpAny_pure ⟨rfl,fin h5 t5 hj5 (KeepBut.refl _ _) F5 (by rw[h2 rfl];exact K5)⟩
  |true=>
   refine wpAny_bind (wpAny_mono (wpAny_toks (k:=j) hj5 (h1 rfl A V _ (wr++η) D hj5 g o F5 (mem_append_right _ hD) hoff K5)) (fun _ s6 q6=>?_) fun _ _ f=>f.elim);obtain⟨hj6,h6,t6,rfl,k6,F6,K6⟩:=q6;exact wpAny_pure ⟨rfl,fin h6 t6 hj6 k6 F6 K6⟩
 ·have hi':i=ds.length:=by omega
  subst hi';refine wpAny_bind (S.done _ _ _ sti fun h₃ t3 k3=>?_);refine wpAny_pure ?_;have vl:Ext (vis h' (wr++η)) (vis h₃ η):=fun b' o' e''=>vis_get (k3 b' o' (fun m=>(vis_inv e'').2 (mem_append_left _ m)) (vis_inv e'').1) fun m=>(vis_inv e'').2 (mem_append_right _ m);refine hR h₃ t3 (ki.trans (KeepBut.more k3 fun b hb=>mem_append_left _ hb)) ?_ (K.move (fun oo q=>k3 _ _ hDw q) vl Ki);exact{
   base:=Fi.base.trans vl
   alive:=fun a m=>by
    obtain⟨oo,e⟩:=Fi.alive a (mem_append_right _ m);exact⟨oo,k3 a oo (fun q=>(hwr a q).2 m) e⟩
   loc:=hhid _ mem_cons_self
   celh:=fun p hp=>hhid _ (mem_cons_of_mem _ (mem_append_left _ (mem_map_of_mem hp)))
   ledh:=fun p hp=>hhid _ (mem_cons_of_mem _ (mem_append_right _ (mem_map_of_mem hp)))
   ns:=by
    obtain⟨m,⟨oo,es,ep,e0,r0⟩,q⟩:=Fi.ns;refine⟨m,⟨oo,es,ep,k3 _ _ (fun q=>(wro _ q).1 rfl) e0,r0⟩,fun y e' p r=>?_⟩;obtain⟨u,a,b⟩:=q y e' p r;exact⟨u,a,b.ext vl⟩
   cell:=fun y e' p r=>by
    obtain⟨c,u,a,⟨oo,e1,e2⟩,b⟩:=Fi.cell y e' p r;exact⟨c,u,a,⟨oo,k3 _ _ (fun q=>(wro _ q).2.1 _ (mem_of_lookup a) rfl) e1,e2⟩,b.ext vl⟩
   cells:=fun p m=>let⟨u,oo,e1,e2⟩:=Fi.cells p m;⟨u,oo,k3 _ _ (fun q=>(wro _ q).2.1 p m rfl) e1,e2⟩
   ledg:=fun p m=>k3 _ _ (fun q=>(wro _ q).2.2 p m rfl) (Fi.ledg p m)
   apart:=Fi.apart
   off:=Fi.off
   ledoff:=Fi.ledoff}
theorem comp_start{e:Expr}{d:Nat}{c:Comprehension}{it acc:Value}{V:Env}{A:Around}{R:Result->Shared->Prop}{s:Shared}(hc:(clausesOf e)[d]? =some c)(ha:c.is_async=0)
  (hfr:(Code.compStart e d it acc V).isFrame=false)(hq:(Code.compStart e d it acc V).quiet=true)(hq':∀it,(Code.compLoop e d it acc V).quiet=true)(hun:A.under (Code.compStart e d it acc V)=A)
  (h:∀Q,Q it s->wpAny (model Z w) A (pyIter it) Q NoE s)(h0:codeAny (model Z w) A (.compLoop e d it acc V) R s):codeAny (model Z w) A (.compStart e d it acc V) R s:=by
 refine codeAny_of_tree ?_;rw[hun];show wpAny _ A (if(Code.compStart e d it acc V).isFrame=true then (compStart e d it acc V).onRaise (leaving V) else (compStart e d it acc V).onRaise (fun x=>do noteFrame x V;standAt theWindowsPlace)) _ _ s;rw[if_neg (by rw[hfr];exact Bool.false_ne_true)];refine wpAny_notedAt ?_;unfold compStart;rw[hc];simp only[Option.elim,ha,bne_self_eq_false,Bool.false_eq_true,if_false];refine wpAny_bind (wpAny_askSetting (wpAny_ite ?_));split
 ·exact wpAny_pure ⟨hq' _,h0⟩
 ·refine wpAny_bind (wpAny_rule ?_)
  refine wpAny_bind (wpAny_standAt ?_);exact wpAny_bind (wpAny_mono (h (fun it' s'=>it'=it∧s'=s) ⟨rfl,rfl⟩) (fun it' s' q=>by obtain⟨rfl,rfl⟩:=q;exact wpAny_pure ⟨hq' _,h0⟩) fun _ _ f=>f.elim)
end
theorem vis_more'{own η:List Addr}{h h':Heap}(x:Ext h h')(hf:∀a∈own,h.get? a=none∨a∈η):Ext (vis h η) (vis h' (own++η)):=fun b o e=>
 vis_get (x b o (vis_inv e).1) fun m=>by
  rcases mem_append.mp m with m|m
  ·rcases hf b m with q|q
   ·have:=(vis_inv e).1;rw[q] at this;cases this
   ·exact(vis_inv e).2 q
  ·exact(vis_inv e).2 m
theorem fresh_of{h:Heap}{a:Addr}(ha:h.objs.size≤a):h.get? a=none:=by
 cases e:h.get? a with
 |none=>rfl
 |some o=>exact absurd (Heap.lt_size e) (Nat.not_lt.mpr ha)
theorem newCompEnv{M:Model}{A:Around}{E:Value->Shared->Prop}{s:Shared}{scope:Scope}{globals:Addr}{cl:List (Str×Addr)}{qual:Str}{V:Env}{Q:Env->Shared->Prop}
  (h:Q (newEnv scope s.heap.objs.size globals (cellsFrom (s.heap.objs.size+1) scope.names cl) qual none .none (some V) builtinsNs) {s with heap:=pushCells (s.heap.push {cls:=.type "dict",data:=.dict #[]}) scope.names}):
  wpAny M A (newFunctionEnv scope globals cl [] qual none .none (some V)) Q E s:=by
 simp only[newFunctionEnv,Option.isSome_some,if_true];refine wpAny_bind (wpAny_alloc ?_);refine wpAny_bind (wpAny_layCells _ (fun name kind cells=>by cases hkc:kind==NameKind.cell<;> simp[hkc]) _ _ _ _ ?_)
 rw[show({s with heap:=s.heap.push {cls:=.type "dict",data:=.dict #[]}}:Shared).heap.objs.size=s.heap.objs.size+1 from Heap.size_push ..];refine wpAny_bind ?_;rw[forIn_nil];exact wpAny_pure (wpAny_pure h)
theorem frees_eq:∀names:List (Str×NameKind),(names.filterMap fun x=>if x.2==.free then some x.1 else none)=(names.filter fun x=>x.2==.free).map (·.1)
 |[]=>rfl
 |p::r=>by
  rw[List.filterMap_cons,filter_cons,frees_eq r];cases hp:(p.2==NameKind.free)<;> simp
def blockEnv(scope:Scope)(V:Env)(C:Addr):Env:=
 {newEnv scope C V.globals (cellsFrom (C+1) scope.names (closOf V.cells scope.names [])) V.qual none .none (some V) builtinsNs with scope:=relabel scope V}
theorem relabel_scIn{sc scope:Scope}{V:Env}(h:V.scope=sc):relabel scope V=scIn sc scope:=by
 subst h;unfold relabel scIn Env.kindOf
 rfl
theorem map_lookup{names:List (Str×NameKind)}{f:Str->NameKind->NameKind}:∀{x:Str},(names.map fun p=>(p.1,f p.1 p.2)).lookup x=(names.lookup x).map (f x):=by
 induction names with
 |nil=>intro x;rfl
 |cons p r ih=>
  obtain⟨y,k⟩:=p;intro x;rw[map_cons,lookup_cons,lookup_cons];cases q:x==y with
  |true=>
   have:x=y:=by simpa using q
   subst this;rfl
  |false=>exact ih
theorem scIn_lookup{sc scope:Scope}{x:Str}:(scIn sc scope).names.lookup x=(scope.names.lookup x).map fun k=>if(k==.free && sc.kind==.function && sc.names.lookup x==some .cell) then NameKind.cell else k:=by
 rw[←map_lookup (f:=fun x k=>if(k==.free && sc.kind==.function && sc.names.lookup x==some .cell) then NameKind.cell else k)];unfold scIn
 congr 1
 apply map_congr_left;intro p _;obtain⟨y,k⟩:=p;dsimp only;split<;> rfl
section
variable{β:Type}{K:AccK β}
theorem block_fm{scope:Scope}{V:Env}{h₁ h₃:Heap}{η add:List Addr}(hok:compOk sc scope=true)(o:EnvOk sc V)(F:Fm H0 η δ V σ h₁)(x:Ext h₁ h₃)(hadd:∀a∈add,h₁.get? a=none∧∃ob,h₃.get? a=some ob):
  let V':=blockEnv scope V h₃.objs.size
  let h4:=pushCells (h₃.push {cls:=.type "dict",data:=.dict #[]}) scope.names
  EnvOk (scIn sc scope) V'∧Fm H0 ((V'.locals::V'.cells.map (·.2))++add++η) δ V' (stoIn scope σ) h4∧Ext h₃ h4∧V'.locals=h₃.objs.size∧
   (∀p∈V'.cells,(p.2∈η∧(p.1,NameKind.free)∈scope.names)∨(h₃.objs.size≤p.2∧(p.1,NameKind.cell)∈scope.names))∧Ext (vis h₁ η) (vis h4 ((V'.locals::V'.cells.map (·.2))++add++η)):=by
 intro V' h4;simp only[compOk,Bool.and_eq_true,decide_eq_true_eq,all_eq_true,Bool.or_eq_true,bne_iff_ne,ne_eq,beq_iff_eq] at hok;obtain⟨⟨⟨hk,hnd⟩,hfree⟩,hloc⟩:=hok;have hfun:sc.kind=.function:=o.fn;have eL:V'.locals=h₃.objs.size:=rfl;have eS:V'.scope=scIn sc scope:=relabel_scIn o.scope;have eC:V'.cells=cellsFrom (h₃.objs.size+1) scope.names (closOf V.cells scope.names []):=rfl;have hclo:∀y,(y,NameKind.free)∈scope.names->(V.cells.lookup y).isSome=true:=fun y hy=>by
  have:=hfree (y,.free) hy;simp at this;exact o.cells y this
 have clm:∀y c,(y,c)∈closOf V.cells scope.names []->(y,NameKind.free)∈scope.names∧V.cells.lookup y=some c:=fun y c hm=>by
  rcases closOf_mem hm with hm|⟨h1,h2⟩
  ·cases hm
  ·obtain⟨c',hc⟩:=Option.isSome_iff_exists.mp (hclo y h1)
   rw[hc] at h2;exact⟨h1,by rw[hc,h2];rfl⟩
 have e34:Ext h₃ h4:=(ext_push h₃ _).trans (pushCells_keeps scope.names _);have e14:=x.trans e34;have hsz:(h₃.push {cls:=.type "dict",data:=.dict #[]}).objs.size=h₃.objs.size+1:=Heap.size_push ..;have cm:∀p∈V'.cells,((p.1,NameKind.free)∈scope.names∧V.cells.lookup p.1=some p.2)∨(h₃.objs.size+1≤p.2∧h4.IsCell p.2 none∧(p.1,NameKind.cell)∈scope.names):=fun p hp=>by
  rw[eC,←hsz] at hp;rcases cellsFrom_mem (x:=p.1) (c:=p.2) hp with hm|⟨h1,h2,h3⟩
  ·exact .inl (clm _ _ hm)
  ·exact .inr ⟨hsz▸h1,h2,h3⟩
 have up:∀a∈(V'.locals::V'.cells.map (·.2))++add,h₁.get? a=none∨a∈η:=fun a ha=>by
  rcases mem_append.mp ha with ha|ha
  ·rcases mem_cons.mp ha with rfl|ha
   ·left
    cases e:h₁.get? V'.locals with
    |none=>rfl
    |some ob=>have:=Heap.lt_size (x _ _ e);rw[eL] at this;exact absurd this (Nat.lt_irrefl _)
   ·obtain⟨p,hp,rfl⟩:=mem_map.mp ha
    rcases cm p hp with ⟨_,h2⟩|⟨h1,_,_⟩
    ·exact .inr (F.celh _ (mem_of_lookup h2))
    ·left
     cases e:h₁.get? p.2 with
     |none=>rfl
     |some ob=>have h5:=Heap.lt_size (x _ _ e);exact absurd h5 (Nat.not_lt.mpr (Nat.le_of_succ_le h1))
  ·exact .inl (hadd a ha).1
 have gk:Ext (vis h₁ η) (vis h4 ((V'.locals::V'.cells.map (·.2))++add++η)):=vis_more' e14 up;have lk:∀y,(scIn sc scope).names.lookup y=(scope.names.lookup y).map fun k=>if(k==.free && sc.kind==.function && sc.names.lookup y==some .cell) then NameKind.cell else k:=fun y=>scIn_lookup;have o':EnvOk (scIn sc scope) V':=⟨eS,o.glob,o.bi,hk,fun y hy=>by
  rw[eC];rw[lk] at hy;cases hl:scope.names.lookup y with
  |none=>rw[hl] at hy;simp at hy
  |some k=>
   have hm:=mem_of_lookup hl;cases k with
   |cell=>exact cellsFrom_some (.inl hm)
   |free=>
    refine cellsFrom_some (.inr ?_);rw[closOf_lookup (.inl hm) (fun c e=>(by simp at e))];rfl
   |_=>rw[hl] at hy;simp at hy⟩
 have hns:h4.Ns V'.locals fun _=>none:=(Heap.Ns.new h₃ (.type "dict")).keeps (pushCells_keeps _ _);have sfree:∀y e,(stoIn scope σ).lookup y=some e->scope.names.lookup y=some .free∧σ.lookup y=some e:=fun y e hy=>by
  obtain⟨a,b⟩:=stoIn_lookup hy;exact⟨lookup_nodup hnd a,b⟩
 refine⟨o',?_,e34,rfl,fun p hp=>?_,gk⟩
 ·exact{
   base:=F.base.trans gk
   alive:=fun a ha=>by
    rcases mem_append.mp ha with ha|ha
    ·rcases mem_append.mp ha with ha|ha
     ·rcases mem_cons.mp ha with rfl|ha
      ·obtain⟨ob,_,_,e,_⟩:=hns;exact⟨ob,e⟩
      ·obtain⟨p,hp,rfl⟩:=mem_map.mp ha
       rcases cm p hp with ⟨_,h2⟩|⟨_,h2,_⟩
       ·obtain⟨v,ob,e,_⟩:=F.cells _ (mem_of_lookup h2);exact⟨ob,e14 _ _ e⟩
       ·obtain⟨ob,e,_⟩:=h2;exact⟨ob,e⟩
     ·obtain⟨ob,e⟩:=(hadd a ha).2;exact⟨ob,e34 _ _ e⟩
    ·obtain⟨ob,e⟩:=F.alive a ha;exact⟨ob,e14 _ _ e⟩
   loc:=by simp
   celh:=fun p hp=>mem_append_left _ (mem_append_left _ (mem_cons_of_mem _ (mem_map_of_mem hp)))
   ledh:=fun p hp=>mem_append_right _ (F.ledh p hp)
   ns:=⟨_,hns,fun y e hy hkl=>by
    obtain⟨a,_⟩:=sfree y e hy;rw[Env.kindOf,eS,lk,a] at hkl;simp only[Option.map_some,Option.some.injEq] at hkl;split at hkl<;> cases hkl⟩
   cell:=fun y e hy _=>by
    obtain⟨a,b⟩:=sfree y e hy;have hm:=mem_of_lookup a;obtain⟨c,hc⟩:=Option.isSome_iff_exists.mp (hclo y hm);have hk':V.kindOf y=some .cell∨V.kindOf y=some .free:=by
     have:=hfree (y,.free) hm;simp at this;rw[o.kind];exact this
    obtain⟨c',v,h1,h2,h3⟩:=F.cell y e b hk';refine⟨c',v,?_,h2.keeps e14,h3.ext gk⟩;rw[eC,cellsFrom_lookup (fun m=>(by have:=lookup_nodup hnd m;rw[a] at this;cases this)),closOf_lookup (.inl hm) (fun c e=>(by simp at e)),h1];rfl
   cells:=fun p hp=>by
    rcases cm p hp with ⟨_,h2⟩|⟨_,h2,_⟩
    ·obtain⟨v,q⟩:=F.cells _ (mem_of_lookup h2);exact⟨v,q.keeps e14⟩
    ·exact⟨_,h2⟩
   ledg:=fun p hp=>e14 _ _ (F.ledg p hp)
   apart:=by
    rw[eC];refine cellsFrom_apart ?_ fun p hp=>?_
    ·have hn:((closOf V.cells scope.names []).map (·.1)).Nodup:=by
      rw[closOf_names];simp only[map_nil,append_nil];rw[frees_eq];refine List.pairwise_reverse.mpr ?_;refine List.Pairwise.imp (fun h=>Ne.symm h) (?_:List.Nodup _);exact List.Nodup.sublist (List.Sublist.map _ List.filter_sublist) hnd
     refine List.Pairwise.imp_of_mem ?_ (List.pairwise_map.mp hn);intro a b ha hb hne hab;have h1:=(clm a.1 a.2 ha).2;have h2:=(clm b.1 b.2 hb).2;exact hne (name_of_addr F.apart (mem_of_lookup h1) (hab▸mem_of_lookup h2))
    ·obtain⟨_,h2⟩:=clm p.1 p.2 hp
     obtain⟨v,ob,e,_⟩:=F.cells _ (mem_of_lookup h2);exact Nat.lt_succ_of_lt (Heap.lt_size (x _ _ e))
   off:=fun p hp=>by
    rw[eL];rcases cm p hp with ⟨_,h2⟩|⟨h1,_,_⟩
    ·obtain⟨v,ob,e,_⟩:=F.cells _ (mem_of_lookup h2)
     exact Nat.ne_of_lt (Heap.lt_size (x _ _ e))
    ·exact Nat.ne_of_gt h1
   ledoff:=fun p hp=>by
    have lt:=Heap.lt_size (x _ _ (F.ledg p hp));refine⟨by rw[eL];exact Nat.ne_of_lt lt,fun q hq=>?_⟩;rcases cm q hq with ⟨_,h2⟩|⟨h1,_,_⟩
    ·exact(F.ledoff p hp).2 _ (mem_of_lookup h2)
    ·exact Nat.ne_of_lt (Nat.lt_of_lt_of_le lt (Nat.le_of_succ_le h1))}
 ·rcases cm p hp with ⟨h1,h2⟩|⟨h1,_,h3⟩
  ·exact .inl ⟨F.celh _ (mem_of_lookup h2),h1⟩
  ·exact .inr ⟨Nat.le_of_succ_le h1,h3⟩
end
section
variable{β:Type}{K:AccK β}
structure CompForm(e:Expr)(d:Nat)(c:Comprehension)(tail:Env->Value->Sem Unit):Prop where
 clause:(clausesOf e)[d]? =some c
 sync:c.is_async=0
 turn:∀it acc V,compTurn e d it acc V=(do
   standAt c.iter.pos
   match ←pyNext it with
   |none=>pure (.done .next)
   |some v=>
    letOwnedTupleGo c.target it v
    assign c.target V v
    let mut ok:=true
    for t in c.ifs do
     if ok then ok ←isTrue t V (eval t V)
    if ok then tail V acc
    again (.compLoop e d it acc V))
 fr1:∀it acc V,(Code.compLoop e d it acc V).isFrame=false
 q1:∀it acc V,(Code.compLoop e d it acc V).quiet=true
 un1:∀(A:Around) it acc V,A.under (Code.compLoop e d it acc V)=A
 fr2:∀it acc V,(Code.compStart e d it acc V).isFrame=false
 q2:∀it acc V,(Code.compStart e d it acc V).quiet=true
 un2:∀(A:Around) it acc V,A.under (Code.compStart e d it acc V)=A
 targets:(∃y p,c.target=.Name y p)∨∃es k p,c.target=.Tuple es k p
def TurnsP(Z:Program)(w:World)(H0:Heap)(n:Nat)(sc:Scope)(σ:Sto)(δ:Led)(c:Comprehension)(tail:Env->Value->Sem Unit)(xs:List Str)(K:AccK β)(ds:List Ent)(B:Nat->β):Prop:=
 ∀i x,ds[i]? =some x->∃bs p,AsP Z w H0 n sc c.target x bs∧(∀y∈bs.map (·.1),y∈xs)∧(∀y∈bs.map (·.1),σ.lookup y=none)∧IfsP Z w H0 n sc (bs++σ) δ c.ifs p∧
   (p=true->CoP Z w H0 n sc (bs++σ) δ xs K tail (B i) (B (i+1)))∧(p=false->B (i+1)=B i)
def TurnsPj(j:Nat)(Z:Program)(w:World)(H0:Heap)(n:Nat)(sc:Scope)(σ:Sto)(δ:Led)(c:Comprehension)(tail:Env->Value->Sem Unit)(xs:List Str)(K:AccK β)(ds:List Ent)(B:Nat->β):Prop:=
 ∀i x,ds[i]? =some x->∃bs p,AsP Z w H0 n sc c.target x bs∧(∀y∈bs.map (·.1),y∈xs)∧(∀y∈bs.map (·.1),σ.lookup y=none)∧IfsP Z w H0 n sc (bs++σ) δ c.ifs p∧
   (p=true->CoPj j Z w H0 n sc (bs++σ) δ xs K tail (B i) (B (i+1)))∧(p=false->B (i+1)=B i)
theorem TurnsP.j{j:Nat}{c:Comprehension}{tail:Env->Value->Sem Unit}{xs:List Str}{ds:List Ent}{B:Nat->β}(h:TurnsP Z w H0 n sc σ δ c tail xs K ds B):TurnsPj j Z w H0 n sc σ δ c tail xs K ds B:=fun i x hx=>
 let⟨bs,p,h1,h2,h3,h4,h5,h6⟩:=h i x hx;⟨bs,p,h1,h2,h3,h4,fun q=>(h5 q).j,h6⟩
def EvPj(j:Nat)(Z:Program)(w:World)(H0:Heap)(n:Nat)(sc:Scope)(σ:Sto)(δ:Led)(e:Expr)(P:Heap->Value->Prop):Prop:=
 ∀A V s η,j≤s.toks->Good n A->EnvOk sc V->Fm H0 η δ V σ s.heap->wpAny (model Z w) A (eval e V) (Pu s η P) NoE s
def ItPj(j:Nat)(Z:Program)(w:World)(H0:Heap)(n:Nat)(sc:Scope)(σ:Sto)(δ:Led)(target iter:Expr)(ds:List Ent):Prop:=
 ∀A V s η,j≤s.toks->Good n A->EnvOk sc V->Fm H0 η δ V σ s.heap->wpAny (model Z w) A (eval iter V) (fun x s₁=>wpAny (model Z w) A (pyIter x) (IsSrcT Z w A target s η ds) NoE s₁) NoE s
def NewAcc(Z:Program)(w:World)(H0:Heap)(K:AccK β)(newAcc:Sem Value)(b:β):Prop:=
 ∀(A:Around) (s:Shared),Ext H0 s.heap->wpAny (model Z w) A newAcc (fun acc s'=>∃o,acc=.ref s.heap.objs.size∧s'={s with heap:=s.heap.push o}∧o.isFreed=false∧∀η,K.R (s.heap.push o) η s.heap.objs.size b) NoE s
theorem newAcc_list:NewAcc Z w H0 listK (newList []) []:=fun A s _=>wpAny_newObj_type ⟨_,rfl,rfl,rfl,fun η=>⟨[],⟨_,Heap.get?_push_size _ rfl,rfl,0,rfl⟩,.nil⟩⟩
theorem comp_core{j:Nat}{e:Expr}{c:Comprehension}{tail:Env->Value->Sem Unit}{scope:Scope}{xs:List Str}{ds:List Ent}{newAcc:Sem Value}(B:Nat->β)(hf:CompForm e 0 c tail)(hok:compOk sc scope=true)
  (hxs:∀x∈xs,scope.names.lookup x=some .local∨scope.names.lookup x=some .cell)(hacc:NewAcc Z w H0 K newAcc (B 0))
  (turn:TurnsPj j Z w H0 n (scIn sc scope) (stoIn scope σ) δ c tail xs K ds B)
  {A:Around}{V:Env}{s₁ s2:Shared}{η:List Addr}{it:Value}(hj:j≤s2.toks)(g:Good n A)(o:EnvOk sc V)(F:Fm H0 η δ V σ s₁.heap)(hsrc:IsSrcT Z w A c.target s₁ η ds it s2){RR:Value->Addr->Result->Shared->Prop}
  (hRR:∀D C h' tk,(∃m,h'.Ns C m)->Ext s₁.heap h'->s₁.heap.get? C=none->s₁.heap.get? D=none->D≠C->K.R h' (C::D::η) D (B ds.length)->RR (.ref D) C (.ok .next) {s₁ with heap:=h',toks:=tk}):
  wpAny (model Z w) A newAcc (fun acc s3=>wpAny (model Z w) A (newFunctionEnv scope V.globals (closOf V.cells scope.names []) [] V.qual none .none (some V)) (fun cenv s4=>
   codeAny (model Z w) A (.compStart e 0 it acc {cenv with scope:=relabel scope V}) (RR acc cenv.locals) s4) NoE s3) NoE s2:=by
 obtain⟨I,fp,wr,St,h2,t2,g₀,rfl,rfl,ex2,SS,st0,fresh,fps,hg0⟩:=hsrc;have S:=SS wr fun _ h=>h;have W:=S;refine wpAny_mono (hacc A _ (F.toBase.h0.trans ex2)) (fun acc s3 q=>?_) fun _ _ f=>f;obtain⟨ob,rfl,rfl,hfr,hK⟩:=q;refine newCompEnv ?_;have e23:Ext h2 (h2.push ob):=ext_push _ _;have D2:(h2.push ob).get? h2.objs.size=some ob:=Heap.get?_push_size _ hfr;have old:∀a oo,s₁.heap.get? a=some oo->a<h2.objs.size:=fun a oo q=>Heap.lt_size (ex2 _ _ q);have hadd:∀a∈h2.objs.size::wr,s₁.heap.get? a=none∧∃oo,(h2.push ob).get? a=some oo:=fun a ha=>by
  rcases mem_cons.mp ha with rfl|ha
  ·refine⟨?_,ob,D2⟩
   cases q:s₁.heap.get? h2.objs.size with
   |none=>rfl
   |some oo=>exact absurd (old _ _ q) (Nat.lt_irrefl _)
  ·obtain⟨oo,q⟩:=S.alive 0 _ st0 a ha
   exact⟨fresh a ha,oo,e23 _ _ q⟩
 obtain⟨o',F',e34,eL,hcl,gk⟩:=block_fm (h₃:=h2.push ob) hok o F (ex2.trans e23) hadd;show codeAny (model Z w) A (.compStart e 0 (.ref I) (.ref h2.objs.size) (blockEnv scope V (h2.push ob).objs.size)) (RR (.ref h2.objs.size) (blockEnv scope V (h2.push ob).objs.size).locals) {s₁ with heap:=pushCells ((h2.push ob).push {cls:=.type "dict",data:=.dict #[]}) scope.names,toks:=t2};generalize hE:blockEnv scope V (h2.push ob).objs.size=V' at o' F' eL hcl gk ⊢;generalize hH:pushCells ((h2.push ob).push {cls:=.type "dict",data:=.dict #[]}) scope.names=h4 at F' e34 gk ⊢;have hsz:(h2.push ob).objs.size=h2.objs.size+1:=Heap.size_push ..;have DL:h2.objs.size≠V'.locals:=by rw[eL,hsz];exact Nat.ne_of_lt (Nat.lt_succ_self _)
 have hoff:Off h2.objs.size V' δ:=by
  refine⟨DL,fun p hp q=>?_,fun p hp q=>?_⟩
  ·rcases hcl p hp with ⟨hm,_⟩|⟨hm,_⟩
   ·obtain⟨oo,e1⟩:=F.alive _ hm
    have:=old _ _ e1;rw[q] at this;exact Nat.lt_irrefl _ this
   ·rw[q,hsz] at hm;exact Nat.lt_irrefl _ hm
  ·have:=old _ _ (F.ledg p hp)
   rw[q] at this;exact Nat.lt_irrefl _ this
 have wlt:∀b∈wr,b<h2.objs.size:=fun b hb=>let⟨oo,q⟩:=S.alive 0 _ st0 b hb;Heap.lt_size q;have ownb:∀a∈ownOf V' δ,(h2.objs.size<a)∨a∈η:=fun a m=>by
  rcases mem_cons.mp m with rfl|m
  ·rw[eL,hsz];exact .inl (Nat.lt_succ_self _)
  ·rcases mem_append.mp m with m|m
   ·obtain⟨p,hp,rfl⟩:=mem_map.mp m
    rcases hcl p hp with ⟨q,_⟩|⟨q,_⟩
    ·exact .inr q
    ·rw[hsz] at q;exact .inl q
   ·obtain⟨p,hp,rfl⟩:=mem_map.mp m;exact .inr (F.ledh p hp)
 have hS:∀a,a∈wr++(ownOf V' δ++h2.objs.size::η)->a∈(V'.locals::V'.cells.map (·.2))++(h2.objs.size::wr)++η:=fun a m=>by
  simp only[ownOf,mem_append,mem_cons] at m ⊢;rcases m with m|((m|m|m)|m|m)
  ·exact .inl (.inr (.inr m))
  ·exact .inl (.inl (.inl m))
  ·exact .inl (.inl (.inr m))
  ·obtain⟨p,hp,rfl⟩:=mem_map.mp m;exact .inr (F.ledh p hp)
  ·exact .inl (.inr (.inl m))
  ·exact .inr m
 have FL:Fm H0 (wr++(ownOf V' δ++h2.objs.size::η)) δ V' (stoIn scope σ) h4:=F'.less hS (mem_append_right _ (mem_append_left _ mem_cons_self))
  (fun p hp=>mem_append_right _ (mem_append_left _ (mem_cons_of_mem _ (mem_append_left _ (mem_map_of_mem hp)))))
  (fun p hp=>mem_append_right _ (mem_append_left _ (mem_cons_of_mem _ (mem_append_right _ (mem_map_of_mem hp)))))
 have e24:=e23.trans e34;have st4:St 0 h4:=W.frame 0 _ _ st0 fun b _ oo q=>e24 _ _ q;have hidold:∀a∈η,a<h2.objs.size:=fun a m=>let⟨oo,q⟩:=F.alive a m;old _ _ q;have hgx:Ext (vis h2 (wr++η)) (vis h4 (wr++(ownOf V' δ++h2.objs.size::η))):=fun b oo q=>by
  obtain⟨q1,q2⟩:=vis_inv q;refine vis_get (e24 _ _ q1) fun m=>?_;have lt:=Heap.lt_size q1;rcases mem_append.mp m with m|m
  ·exact q2 (mem_append_left _ m)
  ·rcases mem_append.mp m with m|m
   ·rcases ownb b m with q|q
    ·exact Nat.lt_asymm q lt
    ·exact q2 (mem_append_right _ q)
   ·rcases mem_cons.mp m with rfl|m
    ·exact Nat.lt_irrefl _ lt
    ·exact q2 (mem_append_right _ m)
 have loop:codeAny (model Z w) A (.compLoop e 0 (.ref I) (.ref h2.objs.size) V') (RR (.ref h2.objs.size) V'.locals) {s₁ with heap:=h4,toks:=t2}:=by
  refine comp_loop (e:=e) (d:=0) (tail:=tail) (K:=K) (η:=ownOf V' δ++h2.objs.size::η) (g₀:=g₀) B hf.turn hf.fr1 hf.q1 hf.un1 turn hj g o' (SS _ fun b hb=>mem_append_left _ hb) st4 FL ?_ hoff (fun m=>Nat.lt_irrefl _ (wlt _ m)) (fun m=>Nat.lt_irrefl _ (fps _ m).1)
   (fun b hb=>⟨fun m=>?_,fun m=>?_⟩) (fun b hb m=>?_) (hg0.trans hgx) (K.move (fun oo q=>e34 _ _ q) (vis_ext _ e34) (hK (wr++(ownOf V' δ++h2.objs.size::η)))) (fun a m=>mem_append_left _ m) fun h' tk kb F5 K5=>?_
  ·exact mem_append_right _ mem_cons_self
  ·rcases ownb b m with q|q
   ·exact Nat.lt_asymm q (wlt b hb)
   ·obtain⟨oo,q⟩:=F.alive b q;rw[fresh b hb] at q;cases q
  ·rcases mem_append.mp m with m|m
   ·rcases ownb b m with q|q
    ·exact Nat.lt_asymm q (wlt b hb)
    ·obtain⟨oo,q⟩:=F.alive b q;rw[fresh b hb] at q;cases q
   ·rcases mem_cons.mp m with rfl|m
    ·exact Nat.lt_irrefl _ (wlt _ hb)
    ·obtain⟨oo,q⟩:=F.alive b m;rw[fresh b hb] at q;cases q
  ·rcases ownb b m with q|q
   ·exact Nat.lt_asymm q (fps b hb).1
   ·exact(fps b hb).2 q
  ·have C1:s₁.heap.get? V'.locals=none:=by
    cases q:s₁.heap.get? V'.locals with
    |none=>rfl
    |some oo=>have:=old _ _ q;rw[eL,hsz] at this;exact absurd this (Nat.not_lt.mpr (Nat.le_succ _))
   have hnd:(scope.names.map (·.1)).Nodup:=by
    simp only[compOk,Bool.and_eq_true,decide_eq_true_eq] at hok;exact hok.1.1.2
   refine hRR _ _ h' tk (let⟨m,q,_⟩:=F5.ns;⟨m,q⟩) (fun b oo q=>?_) C1 (hadd _ mem_cons_self).1 DL (K.move (fun _ q=>q) (vis_less h' fun a m=>?_) K5)
   ·refine kb b oo (fun m=>?_) (e24 _ _ (ex2 _ _ q))
    rcases mem_append.mp m with m|m
    ·rw[fresh b m] at q;cases q
    ·rcases mem_cons.mp m with rfl|m
     ·rw[(hadd _ mem_cons_self).1] at q;cases q
     ·obtain⟨x,hx,m⟩:=mem_flatMap.mp m
      unfold placeOf at m;split at m
      ·rw[mem_singleton.mp m,C1] at q;cases q
      ·cases hl:V'.cells.lookup x with
       |none=>rw[hl] at m;simp at m
       |some cc=>
        rw[hl] at m;simp at m;subst m;rcases hcl _ (mem_of_lookup hl) with ⟨_,hm⟩|⟨hm,_⟩
        ·have:=lookup_nodup hnd hm
         rcases hxs x hx with h1|h1<;> rw[this] at h1<;> cases h1
        ·have:=old _ _ q
         rw[hsz] at hm;exact absurd this (Nat.not_lt.mpr (Nat.le_of_succ_le hm))
   ·rcases mem_cons.mp m with rfl|m
    ·exact mem_append_left _ mem_cons_self
    ·exact mem_append_right _ m
 refine comp_start (e:=e) (d:=0) hf.clause hf.sync (hf.fr2 _ _ _) (hf.q2 _ _ _) (hf.q1 · _ _) (hf.un2 _ _ _ _) (fun Q hQ=>W.self 0 _ _ _ st4 hQ) loop
theorem closureFor_ok{scope:Scope}{V:Env}(hok:compOk sc scope=true)(o:EnvOk sc V):closureFor scope V=pure (closOf V.cells scope.names []):=by
 simp only[compOk,Bool.and_eq_true,decide_eq_true_eq,all_eq_true,Bool.or_eq_true,bne_iff_ne,ne_eq,beq_iff_eq] at hok;obtain⟨⟨⟨hk,hnd⟩,hfree⟩,hloc⟩:=hok;refine closureFor_eq fun x hx hf=>o.cells x.1 ?_;have:=hfree x hx;simpa [hf] using this
theorem Fm.drop{own η:List Addr}{V:Env}{σ:Sto}{h h':Heap}(Fi:Fm H0 (own++η) δ V σ h)(k3:KeepBut own h h')(hn:∀a∈own,a∉η)(hl:V.locals∈η)(hc:∀p∈V.cells,p.2∈η)(hd:∀p∈δ,p.1∈η):Fm H0 η δ V σ h':=by
 have vl:Ext (vis h (own++η)) (vis h' η):=fun b' o' e''=>vis_get (k3 b' o' (fun m=>(vis_inv e'').2 (mem_append_left _ m)) (vis_inv e'').1) fun m=>(vis_inv e'').2 (mem_append_right _ m);exact{
  base:=Fi.base.trans vl
  alive:=fun a m=>by
   obtain⟨oo,e⟩:=Fi.alive a (mem_append_right _ m);exact⟨oo,k3 a oo (fun q=>hn a q m) e⟩
  loc:=hl
  celh:=hc
  ledh:=hd
  ns:=by
   obtain⟨m,⟨oo,es,ep,e0,r0⟩,q⟩:=Fi.ns;refine⟨m,⟨oo,es,ep,k3 _ _ (fun q=>hn _ q hl) e0,r0⟩,fun y e' p r=>?_⟩;obtain⟨u,a,b⟩:=q y e' p r;exact⟨u,a,b.ext vl⟩
  cell:=fun y e' p r=>by
   obtain⟨c,u,a,⟨oo,e1,e2⟩,b⟩:=Fi.cell y e' p r;exact⟨c,u,a,⟨oo,k3 _ _ (fun q=>hn _ q (hc _ (mem_of_lookup a))) e1,e2⟩,b.ext vl⟩
  cells:=fun p m=>let⟨u,oo,e1,e2⟩:=Fi.cells p m;⟨u,oo,k3 _ _ (fun q=>hn _ q (hc p m)) e1,e2⟩
  ledg:=fun p m=>k3 _ _ (fun q=>hn _ q (hd p m)) (Fi.ledg p m)
  apart:=Fi.apart
  off:=Fi.off
  ledoff:=Fi.ledoff}
theorem ev_compJ{j:Nat}{e:Expr}{c:Comprehension}{gs:List Comprehension}{tail:Env->Value->Sem Unit}{scope:Scope}{xs:List Str}{ds:List Ent}{newAcc:Sem Value}{pos:Pos}{P:Heap->Value->Prop}(B:Nat->β)
  (hf:CompForm e 0 c tail)(hgs:clausesOf e=c::gs)(hok:compOk sc scope=true)(hxs:∀x∈xs,scope.names.lookup x=some .local∨scope.names.lookup x=some .cell)(hacc:NewAcc Z w H0 K newAcc (B 0))
  (he:∀V,eval e V=comprehension e scope V pos newAcc false (eval c.iter V))(hs:∀V x,foldedSetIterable c.iter V x=pure x)
  (hi:ItPj j Z w H0 n sc σ δ c.target c.iter ds)(turn:TurnsPj j Z w H0 n (scIn sc scope) (stoIn scope σ) δ c tail xs K ds B)
  (hP:∀h η D,D∉η->K.R h η D (B ds.length)->P (vis h η) (.ref D)):EvPj j Z w H0 n sc σ δ e P:=by
 intro A V s η hj g o F;rw[he];have hok':=hok;simp only[compOk,Bool.and_eq_true,decide_eq_true_eq,all_eq_true,Bool.or_eq_true,bne_iff_ne,ne_eq,beq_iff_eq] at hok';obtain⟨⟨⟨hk,hnd⟩,hfree⟩,hloc⟩:=hok';refine wpAny_comprehension_free (use:=none) hgs (hs V) (closureFor_ok hok o) hk (fun y hy hl=>(hloc y hy).resolve_left fun q=>q hl) ?_;refine wpAny_mono (wpAny_toks (k:=j) hj (hi A V s η hj g o F)) (fun v s₁ q=>wpAny_mono (wpAny_toks (k:=j) q.1 q.2) (fun it s2 q2=>?_) fun _ _ f=>f) fun _ _ f=>f;obtain⟨hj2,q2⟩:=q2;have F1:=F;have ex1:Ext s.heap s.heap:=Ext.refl _;refine comp_core (RR:=fun acc C=>compPost (model Z w) A NoE none (Pu s η P) acc C) B hf hok hxs hacc turn hj2 g o F1 q2 ?_;intro D C h' tk hn hx hC hD hDC hR;obtain⟨m,hn⟩:=hn;refine⟨m,hn,fun h'' hs''=>?_⟩;have k:=sameBut_keep hs'';refine⟨h'',tk,rfl,fun b ob eb=>?_,hP _ _ _ (fun hm=>?_) (K.move (fun oo q=>k D oo (by simpa using hDC) q) (fun b ob eb=>?_) hR)⟩
 ·refine k b ob (fun hm=>?_) (hx b ob (ex1 b ob eb))
  have:=ex1 b ob eb;rw[mem_singleton.mp hm,hC] at this;cases this
 ·obtain⟨oo,q⟩:=F1.alive D hm;rw[hD] at q;cases q
 ·obtain⟨e1,e2⟩:=vis_inv eb
  refine vis_get (k b ob (fun hm=>e2 ?_) e1) fun hm=>e2 (mem_cons_of_mem _ (mem_cons_of_mem _ hm));rw[mem_singleton.mp hm];exact mem_cons_self
theorem ev_comp{e:Expr}{c:Comprehension}{gs:List Comprehension}{tail:Env->Value->Sem Unit}{scope:Scope}{xs:List Str}{ds:List Ent}{newAcc:Sem Value}{pos:Pos}{P:Heap->Value->Prop}(B:Nat->β)
  (hf:CompForm e 0 c tail)(hgs:clausesOf e=c::gs)(hok:compOk sc scope=true)(hxs:∀x∈xs,scope.names.lookup x=some .local∨scope.names.lookup x=some .cell)(hacc:NewAcc Z w H0 K newAcc (B 0))
  (he:∀V,eval e V=comprehension e scope V pos newAcc false (eval c.iter V))(hs:∀V x,foldedSetIterable c.iter V x=pure x)
  (hi:ItP Z w H0 n sc σ δ c.target c.iter ds)(turn:TurnsP Z w H0 n (scIn sc scope) (stoIn scope σ) δ c tail xs K ds B)
  (hP:∀h η D,D∉η->K.R h η D (B ds.length)->P (vis h η) (.ref D)):EvP Z w H0 n sc σ δ e P:=fun A V s η=>ev_compJ (j:=0) B hf hgs hok hxs hacc he hs (fun A V s η _=>hi A V s η) turn.j hP A V s η (Nat.zero_le _)
theorem st_assign_comp{e:Expr}{c:Comprehension}{gs:List Comprehension}{tail:Env->Value->Sem Unit}{scope:Scope}{xs:List Str}{ds:List Ent}{newAcc:Sem Value}{pos spos py:Pos}{y:Str}{d:PyData}(B:Nat->β)
  (hf:CompForm e 0 c tail)(hgs:clausesOf e=c::gs)(hok:compOk sc scope=true)(hxs:∀x∈xs,scope.names.lookup x=some .local∨scope.names.lookup x=some .cell)(hacc:NewAcc Z w H0 K newAcc (B 0))
  (he:∀V use,evalThenUse e V use=(do let _ ←comprehension e scope V pos newAcc false (eval c.iter V) (some use)))(hs:∀V x,foldedSetIterable c.iter V x=pure x)
  (hsw:∀V,EnvOk sc V->swapsWith e (some (.Name y py)) spos.line V=pure true)(hy:settable sc y)
  (hi:ItP Z w H0 n sc σ δ c.target c.iter ds)(turn:TurnsP Z w H0 n (scIn sc scope) (stoIn scope σ) δ c tail xs K ds B)
  (hP:∀h η D,D∉η->K.R h η D (B ds.length)->Rd d (vis h η) (.ref D)):StP Z w H0 n sc σ δ (.Assign [.Name y py] e spos) (.next ((y,.d d)::σ)):=by
 intro A V s η g o F;show wpAny _ A (standAt spos >>=fun _=>swapsWithSole [.Name y py] e spos.line V >>=fun b=>if b=true then (evalThenUse e V (fun v=>assignAll v ((assignEach [.Name y py] V).map (·.2))) >>=fun _=>pure Flow.next) else _) _ _ s;refine wpAny_bind (wpAny_standAt (wpAny_bind ?_));show wpAny _ A (swapsWith e (some (.Name y py)) spos.line V) _ _ s;rw[hsw V o];refine wpAny_pure ?_;rw[if_pos rfl,he];have hok':=hok;simp only[compOk,Bool.and_eq_true,decide_eq_true_eq,all_eq_true,Bool.or_eq_true,bne_iff_ne,ne_eq,beq_iff_eq] at hok';obtain⟨⟨⟨hk,hnd⟩,hfree⟩,hloc⟩:=hok';generalize hU:(fun v=>assignAll v ((assignEach [PySem.Expr.Name y py] V).map (·.2)))=U;have hU':∀v,U v=assign (.Name y py) V v:=fun v=>by rw[←hU];rfl
 clear hU;suffices key:wpAny (model Z w) A (comprehension e scope V pos newAcc false (eval c.iter V) (some U)) (fun _ s'=>Fin H0 s η V δ (.next ((y,.d d)::σ)) .next s') NoE s by
  exact wpAny_bind (wpAny_bind (wpAny_mono key (fun _ s' q=>wpAny_pure (wpAny_pure q)) fun _ _ f=>f))
 refine wpAny_comprehension_free (use:=some U) hgs (hs V) (closureFor_ok hok o) hk (fun y hy hl=>(hloc y hy).resolve_left fun q=>q hl) ?_;refine wpAny_mono (hi A V s η g o F) (fun v s₁ q=>wpAny_mono q (fun it s2 q2=>?_) fun _ _ f=>f) fun _ _ f=>f;have F1:=F;have ex1:Ext s.heap s.heap:=Ext.refl _;refine comp_core (RR:=fun acc C=>compPost (model Z w) A NoE (some U) (fun _ s'=>Fin H0 s η V δ (.next ((y,.d d)::σ)) .next s') acc C) B hf hok hxs hacc turn.j (Nat.zero_le _) g o F1 q2 ?_;intro D C h' tk hn hx hC hD hDC hR;obtain⟨m,hn⟩:=hn;have F2:=F1.ext hx;have hDh:D∉η:=fun hm=>by obtain⟨oo,q⟩:=F1.alive D hm;rw[hD] at q;cases q
 have hCh:C∉η:=fun hm=>by obtain⟨oo,q⟩:=F1.alive C hm;rw[hC] at q;cases q
 have rd:Rd d (vis h' η) (.ref D):=hP _ _ _ hDh (K.move (fun _ q=>q) (vis_less h' fun a m=>mem_cons_of_mem _ (mem_cons_of_mem _ m)) hR);have nD:D∉C::η:=fun hm=>(mem_cons.mp hm).elim hDC hDh;have sub3:∀a∈C::η,a∈C::D::η:=fun a m=>(mem_cons.mp m).elim (fun q=>q▸mem_cons_self) fun m=>mem_cons_of_mem _ (mem_cons_of_mem _ m);have rdC:Rd d (vis h' (C::η)) (.ref D):=hP _ _ _ nD (K.move (fun _ q=>q) (vis_less h' sub3) hR);show wpAny _ A (U (.ref D)) _ _ _;rw[hU'];have FC:Fm H0 (C::η) δ V σ h':=F1.more (own:=[C]) hx (fun a ha=>by rw[mem_singleton.mp ha];exact hC) (fun a ha=>by rw[mem_singleton.mp ha];obtain⟨oo,_,_,q,_⟩:=hn;exact⟨oo,q⟩);refine wpAny_assign_Name (wpAny_mono (store_P (e:=.d d) FC rdC o.kf (settable_env o hy)) (fun _ s3 q3=>?_) fun _ _ f=>f);obtain⟨h₃,t3,rfl,k3,F3⟩:=q3;have Cpl:C∉placeOf V y:=fun hm=>by
  have:=placeOf_hid F y C hm;exact hCh this
 refine⟨m,hn.at' fun oo q=>k3 C oo Cpl q,fun h'' hs''=>?_⟩;have k:=sameBut_keep hs'';have kk:KeepBut [C] h₃ h'':=k;have F4:Fm H0 η δ V ((y,.d d)::σ) h'':=Fm.drop (own:=[C]) F3 kk (fun a ha q=>hCh (mem_singleton.mp ha▸q)) F.loc F.celh F.ledh;refine⟨h'',t3,rfl,fun b ob nb eb=>?_,rfl,F4⟩;refine k b ob (fun hm=>?_) (k3 b ob (fun hm=>nb (places_own V δ [y] b (by simpa [placesOf] using hm))) (hx b ob (ex1 b ob eb)));have:=ex1 b ob eb;rw[mem_singleton.mp hm,hC] at this;cases this
end
def plainSlice(slice:Expr):Prop:=∀o i,subscripted slice false o i=operate [o,i] (getItem o i)
theorem ev_item_list{value slice:Expr}{pos:Pos}{xs:List PyData}{k:Int}{d:PyData}(hv:EvE Z w H0 n sc σ δ value (.d (.list xs)))(hi:EvE Z w H0 n sc σ δ slice (.d (.int k)))
  (h0:0≤k)(hk:k<2 ^ 63)(hd:xs[k.toNat]? =some d)(hs:plainSlice slice):EvE Z w H0 n sc σ δ (.Subscript value slice pos) (.d d):=by
 intro A V s η g o F;refine PyProof.Rows.Subscript_ (seqP (hv A V s η g o F) fun v s₁ q1=>seqP (hi A V s₁ η g o (F.ext q1.ext)) fun i s2 q2=>?_);obtain⟨t,rfl⟩:=rd_int q2.val;obtain⟨l,vs,rfl,hl,f⟩:=rd_list (q1.val.ext (vis_ext η q2.ext));obtain⟨u,hu,hr⟩:=f.get hd;have hl':=isList_ext (vis_to _ _) hl;exact tail_any hl'.typeIs slot_list_getitem.lookup (wpAny_getItem_list hl' h0 hk (by simpa using hu) ((q1.trans q2).trans (Pu.here hr))) (hs _ _)
theorem ev_item_list_neg{value slice:Expr}{pos:Pos}{xs:List PyData}{k:Int}{d:PyData}(hv:EvE Z w H0 n sc σ δ value (.d (.list xs)))(hi:EvE Z w H0 n sc σ δ slice (.d (.int k)))
  (h0:k<0)(hk: -(2 ^ 63)≤k)(hl: -(xs.length:Int)≤k)(hd:xs[(k+xs.length).toNat]? =some d)(hs:plainSlice slice):EvE Z w H0 n sc σ δ (.Subscript value slice pos) (.d d):=by
 intro A V s η g o F;refine PyProof.Rows.Subscript_ (seqP (hv A V s η g o F) fun v s₁ q1=>seqP (hi A V s₁ η g o (F.ext q1.ext)) fun i s2 q2=>?_);obtain⟨t,rfl⟩:=rd_int q2.val;obtain⟨l,vs,rfl,hl1,f⟩:=rd_list (q1.val.ext (vis_ext η q2.ext));obtain⟨u,hu,hr⟩:=f.get hd;have hl':=isList_ext (vis_to _ _) hl1;have e:=f.length;exact tail_any hl'.typeIs slot_list_getitem.lookup (wpAny_getItem_list_neg hl' h0 (by rw[size_toArray,e];exact hl) hk (by rw[size_toArray,e];simpa using hu) ((q1.trans q2).trans (Pu.here hr))) (hs _ _)
theorem ev_item_str{value slice:Expr}{pos:Pos}{x:Str}{k:Int}{c:Nat}(hv:EvE Z w H0 n sc σ δ value (.d (.str x)))(hi:EvE Z w H0 n sc σ δ slice (.d (.int k)))
  (hr:(decide (k< -(2 ^ 63:Int)) ||decide (k ≥ 2 ^ 63))=false)(hc:(seqIndex? k x.length).bind (x.cps[·]?)=some c)(hs:plainSlice slice):EvE Z w H0 n sc σ δ (.Subscript value slice pos) (.d (.str ⟨#[c]⟩)):=by
 intro A V s η g o F;refine PyProof.Rows.Subscript_ (seqP (hv A V s η g o F) fun v s₁ q1=>seqP (hi A V s₁ η g o (F.ext q1.ext)) fun i s2 q2=>?_);obtain⟨t,rfl⟩:=rd_int q2.val;obtain⟨t',rfl⟩:=rd_str (q1.val);exact tail_any (typeIs_str _ _ _) PySem.F.slot_str_getitem.lookup (PyProof.Rows.getItem_str hr hc ((q1.trans q2).trans (Pu.tok (str_rd _ _ _)))) (hs _ _)
def PartP(Z:Program)(w:World)(H0:Heap)(n:Nat)(sc:Scope)(σ:Sto)(δ:Led)(e:Option Expr)(k:Option Int):Prop:=
 ∀A V s η,Good n A->EnvOk sc V->Fm H0 η δ V σ s.heap->wpAny (model Z w) A (evalPart e V) (Pu s η (fun _ v=>IsPart v k)) NoE s
theorem part_none:PartP Z w H0 n sc σ δ none none:=fun A V s η g o F=>wpAny_pure (Pu.here .none)
theorem part_some{e:Expr}{k:Int}(h:EvE Z w H0 n sc σ δ e (.d (.int k))):PartP Z w H0 n sc σ δ (some e) (some k):=
 fun A V s η g o F=>wpAny_evalPart_some (seqP (h A V s η g o F) fun v s' q=>by
  obtain⟨t,rfl⟩:=rd_int q.val;exact q.trans (Pu.here (.int _ _)))
def pickD(xs:List PyData)(lo hi:Option Int):List PyData:=(xs.drop (kms_lo lo xs.length)).take (kms_hi hi xs.length - kms_lo lo xs.length)
theorem ev_slice_list{value:Expr}{lower upper:Option Expr}{p pos:Pos}{xs:List PyData}{lo hi:Option Int}(hv:EvE Z w H0 n sc σ δ value (.d (.list xs)))(hl:PartP Z w H0 n sc σ δ lower lo)(hu:PartP Z w H0 n sc σ δ upper hi)
  (hz:xs.length≤sizeLine)(ht:∀o r,letTemporaryGo value o r=pure ()):EvE Z w H0 n sc σ δ (.Subscript value (.Slice lower upper none p) pos) (.d (.list (pickD xs lo hi))):=by
 intro A V s η g o F;refine PyProof.Rows.Subscript_ (seqP (hv A V s η g o F) fun v s₁ q1=>?_);have F1:=F.ext q1.ext;refine wpAny_Slice (seqP (hl A V s₁ η g o F1) fun vl s2 q2=>seqP (hu A V s2 η g o (F1.ext q2.ext)) fun vu s3 q3=>?_);have F3:=(F1.ext q2.ext).ext q3.ext;refine wpAny_pure ?_;obtain⟨l,vs,rfl,hl1,f⟩:=rd_list ((q1.val.ext (vis_ext η q2.ext)).ext (vis_ext η q3.ext));have hl':=isList_ext (vis_to _ _) hl1;have e:=f.length;refine subscriptTail_ops (Heap.IsList.typeIs (s:={s3 with heap:=s3.heap.push {cls:=.type "slice",data:=.fields #[vl,vu,.none]}}) (hl'.push _)) list_getitem_lookup
  (wpAny_getItem_list_slice (hl'.push _) (Heap.IsSliceOf.new ..) q2.val q3.val .none (by simp) ?_ (by rw[size_toArray,e];exact hz)) rfl (ht _)
 rw[kms_pick_eq];have e1:=ext_push s3.heap {cls:=.type "slice",data:=.fields #[vl,vu,.none]};have e2:=ext_push (s3.heap.push {cls:=.type "slice",data:=.fields #[vl,vu,.none]}) {cls:=.type "list",data:=.seq (kms_pick vs lo hi).toArray};refine((q1.trans q2).trans q3).trans ⟨_,_,rfl,e1.trans e2,list_rd ⟨_,vis_push (F3.toBase.ext e1) _,rfl,0,rfl⟩ ?_⟩;have f':F2 (fun v d=>Rd d (vis s3.heap η) v) (kms_pick vs lo hi) (pickD xs lo hi):=by
  unfold kms_pick pickD;rw[e];exact(f.drop _).take _
 exact f'.imp fun _ _ r=>(r.ext (vis_ext η e1)).ext (vis_ext η e2)
theorem append_CoP{elt:Expr}{xs:List Str}{b:List PyData}{d:PyData}(h:EvE Z w H0 n sc σ δ elt (.d d))(hz:b.length≤sizeLine):
  CoP Z w H0 n sc σ δ xs listK (fun V acc=>do let _ ←call (.builtin "list.append") [acc,←eval elt V]) b (b++[d]):=by
 intro A V s η D g o F hD hoff hK;refine wpAny_bind (seqP (h A V s η g o F) fun v s₁ q=>?_);obtain⟨h₁,t₁,rfl,ex,r⟩:=q;obtain⟨vs,hl,f⟩:=hK;refine wpAny_bind (wpAny_list_append (isList_ext ex hl) (fun h2 hl2 hs=>?_) (by rw[size_toArray,f.length];exact hz));refine wpAny_pure ?_;have k:=sameBut_keep hs;have vk:Ext (vis h₁ η) (vis h2 η):=vis_keepBut (fun a m=>by rw[mem_singleton.mp m];exact hD) k;refine⟨h2,t₁,rfl,(ex.keep _).trans (k.more fun a m=>by rw[mem_singleton.mp m];exact mem_cons_self),?_,?_⟩
 ·refine(F.ext ex).keepBut k (fun a m=>by rw[mem_singleton.mp m];exact hD) (fun a m=>by rw[mem_singleton.mp m];exact⟨hoff.1,hoff.2.1,hoff.2.2⟩) (fun a m=>?_)
  rw[mem_singleton.mp m];obtain⟨oo,e,_⟩:=hl2;exact⟨oo,e⟩
 ·refine⟨vs++[v],by simpa using hl2,?_⟩
  exact(f.imp fun _ _ q=>(q.ext (vis_ext η ex)).ext vk).append (.cons (r.ext vk) .nil)
theorem form_lc1{elt target iter:Expr}{ifs:List Expr}{scope:Scope}{pos:Pos}(ht:(∃y p,target=.Name y p)∨∃es k p,target=.Tuple es k p):
  CompForm (.ListComp elt [⟨target,iter,ifs,0⟩] scope pos) 0 ⟨target,iter,ifs,0⟩ (fun V acc=>do let _ ←call (.builtin "list.append") [acc,←eval elt V]) where
 clause:=rfl
 sync:=rfl
 turn:=fun _ _ _=>rfl
 fr1:=fun _ _ _=>rfl
 q1:=fun _ _ _=>rfl
 un1:=fun A _ _ _=>Around.under_of_weight rfl rfl
 fr2:=fun _ _ _=>rfl
 q2:=fun _ _ _=>rfl
 un2:=fun A _ _ _=>Around.under_of_weight rfl rfl
 targets:=ht
def TurnLC{α:Type}(Z:Program)(w:World)(H0:Heap)(n:Nat)(sc:Scope)(σ:Sto)(δ:Led)(target:Expr)(ifs:List Expr)(elt:Expr)(xs:List Str)(enc:α->Ent)(F:α->Option PyData)(a:α):Prop:=
 ∃bs p,AsP Z w H0 n sc target (enc a) bs∧bs.map (·.1)=xs∧(∀y∈xs,σ.lookup y=none)∧IfsP Z w H0 n sc (bs++σ) δ ifs p∧
  (p=true->∃d,F a=some d∧EvE Z w H0 n sc (bs++σ) δ elt (.d d))∧(p=false->F a=none)
theorem turnsP_lc{α:Type}{items:List α}{enc:α->Ent}{F:α->Option PyData}{target iter elt:Expr}{ifs:List Expr}{xs:List Str}(hz:items.length≤sizeLine)
  (turn:∀a∈items,TurnLC Z w H0 n sc σ δ target ifs elt xs enc F a):
  TurnsP Z w H0 n sc σ δ ⟨target,iter,ifs,0⟩ (fun V acc=>do let _ ←call (.builtin "list.append") [acc,←eval elt V]) xs listK (items.map enc) (fun i=>(items.take i).filterMap F):=by
 intro i x hx;rw[getElem?_map] at hx;cases ha:items[i]? with
 |none=>rw[ha] at hx;simp at hx
 |some a=>
  rw[ha] at hx;simp at hx;subst hx;have hm:a∈items:=mem_of_getElem? ha;obtain⟨bs,p,h1,h2,h3,h4,h5,h6⟩:=turn a hm;have e:(items.take (i+1)).filterMap F=(items.take i).filterMap F++(F a).toList:=by
   rw[List.take_succ,ha,List.filterMap_append];simp only[Option.toList];cases hF:F a<;> simp[hF]
  have hlen:((items.take i).filterMap F).length≤sizeLine:=Nat.le_trans (length_filterMap_le ..) (Nat.le_trans (by rw[length_take];exact Nat.min_le_right _ _) hz);refine⟨bs,p,h1,fun y hy=>by rw[←h2];exact hy,fun y hy=>h3 y (by rw[←h2];exact hy),h4,fun hp=>?_,fun hp=>?_⟩
  ·obtain⟨d,hd,hE⟩:=h5 hp
   show CoP _ _ _ _ _ _ _ _ _ _ _ ((items.take (i+1)).filterMap F);rw[e,hd];exact append_CoP hE hlen
  ·show(items.take (i+1)).filterMap F=_
   rw[e,h6 hp];simp
theorem listK_rd{h:Heap}{η:List Addr}{D:Addr}{ds:List PyData}(hD:D∉η)(hK:listK.R h η D ds):Rd (.list ds) (vis h η) (.ref D):=by
 obtain⟨vs,⟨oo,e,r⟩,f⟩:=hK;exact list_rd ⟨oo,vis_get e hD,r⟩ f
theorem ev_lc{α:Type}{items:List α}{enc:α->Ent}(F:α->Option PyData){target iter elt:Expr}{ifs:List Expr}{scope:Scope}{pos:Pos}{xs:List Str}{x:Ent}(ht:(∃y p,target=.Name y p)∨∃es k p,target=.Tuple es k p)
  (hok:compOk sc scope=true)(hxs:∀x∈xs,scope.names.lookup x=some .local∨scope.names.lookup x=some .cell)(hs:∀V x,foldedSetIterable iter V x=pure x)
  (hi:EvE Z w H0 n sc σ δ iter x)(hsrc:SrcV Z w H0 n x (items.map enc))(hz:items.length≤sizeLine)
  (turn:∀a∈items,TurnLC Z w H0 n (scIn sc scope) (stoIn scope σ) δ target ifs elt xs enc F a):EvE Z w H0 n sc σ δ (.ListComp elt [⟨target,iter,ifs,0⟩] scope pos) (.d (.list (items.filterMap F))):=by
 refine ev_comp (K:=listK) (fun i=>(items.take i).filterMap F) (form_lc1 ht) rfl hok hxs (by simpa using newAcc_list) (fun V=>rfl) hs (it_of hi hsrc ht) (turnsP_lc hz turn) fun h η D hD hK=>?_;have:=listK_rd hD hK;rwa [length_map,take_length] at this
theorem ev_lcI{α:Type}{items:List α}{enc:α->Ent}(F:α->Option PyData){target iter elt:Expr}{ifs:List Expr}{scope:Scope}{pos:Pos}{xs:List Str}(ht:(∃y p,target=.Name y p)∨∃es k p,target=.Tuple es k p)
  (hok:compOk sc scope=true)(hxs:∀x∈xs,scope.names.lookup x=some .local∨scope.names.lookup x=some .cell)(hs:∀V x,foldedSetIterable iter V x=pure x)
  (hi:ItP Z w H0 n sc σ δ target iter (items.map enc))(hz:items.length≤sizeLine)
  (turn:∀a∈items,TurnLC Z w H0 n (scIn sc scope) (stoIn scope σ) δ target ifs elt xs enc F a):EvE Z w H0 n sc σ δ (.ListComp elt [⟨target,iter,ifs,0⟩] scope pos) (.d (.list (items.filterMap F))):=by
 refine ev_comp (K:=listK) (fun i=>(items.take i).filterMap F) (form_lc1 ht) rfl hok hxs (by simpa using newAcc_list) (fun V=>rfl) hs hi (turnsP_lc hz turn) fun h η D hD hK=>?_;have:=listK_rd hD hK;rwa [length_map,take_length] at this
theorem st_assign_lc{α:Type}{items:List α}{enc:α->Ent}(F:α->Option PyData){target iter elt:Expr}{ifs:List Expr}{scope:Scope}{pos spos py:Pos}{xs:List Str}{x:Ent}{y:Str}(ht:(∃y p,target=.Name y p)∨∃es k p,target=.Tuple es k p)
  (hok:compOk sc scope=true)(hxs:∀x∈xs,scope.names.lookup x=some .local∨scope.names.lookup x=some .cell)(hs:∀V x,foldedSetIterable iter V x=pure x)
  (hsw:∀V,EnvOk sc V->swapsWith (.ListComp elt [⟨target,iter,ifs,0⟩] scope pos) (some (.Name y py)) spos.line V=pure true)(hy:settable sc y)
  (hi:EvE Z w H0 n sc σ δ iter x)(hsrc:SrcV Z w H0 n x (items.map enc))(hz:items.length≤sizeLine)
  (turn:∀a∈items,TurnLC Z w H0 n (scIn sc scope) (stoIn scope σ) δ target ifs elt xs enc F a):
  StP Z w H0 n sc σ δ (.Assign [.Name y py] (.ListComp elt [⟨target,iter,ifs,0⟩] scope pos) spos) (.next ((y,.d (.list (items.filterMap F)))::σ)):=by
 refine st_assign_comp (K:=listK) (fun i=>(items.take i).filterMap F) (form_lc1 ht) rfl hok hxs (by simpa using newAcc_list) (fun V use=>rfl) hs hsw hy (it_of hi hsrc ht) (turnsP_lc hz turn) fun h η D hD hK=>?_;have:=listK_rd hD hK;rwa [length_map,take_length] at this
section
variable{β:Type}{K:AccK β}
theorem nested_CoP{e:Expr}{d:Nat}{c:Comprehension}{tail:Env->Value->Sem Unit}{xs xs2:List Str}{ds:List Ent}(B:Nat->β)(hf:CompForm e d c tail)(hi:ItP Z w H0 n sc σ δ c.target c.iter ds)
  (hs:∀V x,foldedSetIterable c.iter V x=pure x)(turn:TurnsP Z w H0 n sc σ δ c tail xs2 K ds B)(hxs:∀y∈xs2,y∈xs):
  CoP Z w H0 n sc σ δ xs K (fun V acc=>do
   let x ←eval c.iter V
   standAt c.iter.pos
   let x ←foldedSetIterable c.iter V x
   let _ ←runOwn (.compStart e d (←holding [x] (pyIter x)) acc V) V) (B 0) (B ds.length):=by
 intro A V s η D g o F hD hoff hK;refine wpAny_bind (wpAny_mono (hi A V s η g o F) (fun v s₁ q=>wpAny_bind (wpAny_standAt (wpAny_bind (wpAny_of_eq (hs V v) (wpAny_bind (wpAny_holding (wpAny_mono q (fun it s2 q₂=>?_) fun _ _ f=>f))))))) fun _ _ f=>f);obtain⟨I,fp,wr,St,h2,t2,g₀,rfl,rfl,ex2,SS,st0,fresh,fps,hg0⟩:=q₂;have S:=SS (wr++η) fun _ h=>mem_append_left _ h;have W:=S;have F1:=F;have ex1:Ext s.heap s.heap:=Ext.refl _;have F2:Fm H0 (wr++η) δ V σ h2:=F1.more ex2 fresh (fun b hb=>S.alive 0 _ st0 b hb);have gm:Ext (vis s.heap η) (vis h2 (wr++η)):=vis_more ex2 fresh;have nw:∀b∈wr,∀a∈η,b≠a:=fun b hb a ha q=>by
  obtain⟨oo,e⟩:=F1.alive a ha;rw[←q,fresh b hb] at e;cases e
 refine wpAny_bind (wpAny_runOwn (h:=none) (show codeAny (model Z w) A _ _ _ from ?_));refine comp_start (e:=e) (d:=d) hf.clause hf.sync (hf.fr2 _ _ _) (hf.q2 _ _ _) (hf.q1 · _ _) (hf.un2 _ _ _ _) (fun Q hQ=>W.self 0 _ _ _ st0 hQ) ?_;refine comp_loop (j:=0) (e:=e) (d:=d) (tail:=tail) (K:=K) (η:=η) (g₀:=g₀) B hf.turn hf.fr1 hf.q1 hf.un1 turn.j (Nat.zero_le _) g o S st0 F2 hD hoff (fun m=>nw _ m D hD rfl) (fun m=>(fps _ m).2 hD)
  (fun b hb=>⟨fun m=>nw b hb b (own_hid F1 b m) rfl,fun m=>nw b hb b m rfl⟩) (fun b hb m=>(fps b hb).2 (own_hid F1 b m)) hg0
  (K.move (fun oo q=>ex2 _ _ (ex1 _ _ q)) ((vis_ext η ex1).trans gm) hK) (own_hid F1) fun h' tk kb F5 K5=>?_
 refine wpAny_pure ⟨h',tk,rfl,fun b oo nb eb=>?_,F5,K5⟩;have e1:=ex1 b oo eb;refine kb b oo (fun m=>?_) (ex2 _ _ e1);rcases mem_append.mp m with m|m
 ·rw[fresh b m] at e1;cases e1
 ·rcases mem_cons.mp m with rfl|m
  ·exact nb mem_cons_self
  ·obtain⟨y,hy,m⟩:=mem_flatMap.mp m
   exact nb (mem_cons_of_mem _ (mem_flatMap.mpr ⟨y,hxs y hy,m⟩))
theorem form_lc2a{elt t1 i1 t2 i2:Expr}{ifs1 ifs2:List Expr}{scope:Scope}{pos:Pos}(ht:(∃y p,t1=.Name y p)∨∃es k p,t1=.Tuple es k p):
  CompForm (.ListComp elt [⟨t1,i1,ifs1,0⟩,⟨t2,i2,ifs2,0⟩] scope pos) 0 ⟨t1,i1,ifs1,0⟩ (fun V acc=>do
   let x ←eval i2 V
   standAt i2.pos
   let x ←foldedSetIterable i2 V x
   let _ ←runOwn (.compStart (.ListComp elt [⟨t1,i1,ifs1,0⟩,⟨t2,i2,ifs2,0⟩] scope pos) 1 (←holding [x] (pyIter x)) acc V) V) where
 clause:=rfl
 sync:=rfl
 turn:=fun it acc V=>by
  have h:compTurn (.ListComp elt [⟨t1,i1,ifs1,0⟩,⟨t2,i2,ifs2,0⟩] scope pos) 0 it acc V=(do
   standAt i1.pos
   match ←pyNext it with
   |none=>pure (.done .next)
   |some v=>
    letOwnedTupleGo t1 it v
    assign t1 V v
    let mut ok:=true
    for c in ifs1 do
     if ok then ok ←isTrue c V (eval c V)
    if ok then
     let x ←eval i2 V
     standAt i2.pos
     let x ←foldedSetIterable i2 V x
     let _ ←runOwn (.compStart (.ListComp elt [⟨t1,i1,ifs1,0⟩,⟨t2,i2,ifs2,0⟩] scope pos) 1 (←holding [x] (pyIter x)) acc V) V
    again (.compLoop (.ListComp elt [⟨t1,i1,ifs1,0⟩,⟨t2,i2,ifs2,0⟩] scope pos) 0 it acc V)):=rfl
  rw[h];refine bind_congr fun _=>bind_congr fun r=>?_;cases r with
  |none=>rfl
  |some v=>
   refine bind_congr fun _=>bind_congr fun _=>bind_congr fun ok=>?_;cases ok with
   |false=>rfl
   |true=>simp only[if_true,bind_assoc,pure_bind]
 fr1:=fun _ _ _=>rfl
 q1:=fun _ _ _=>rfl
 un1:=fun A _ _ _=>Around.under_of_weight rfl rfl
 fr2:=fun _ _ _=>rfl
 q2:=fun _ _ _=>rfl
 un2:=fun A _ _ _=>Around.under_of_weight rfl rfl
 targets:=ht
theorem form_lc2b{elt t1 i1 t2 i2:Expr}{ifs1 ifs2:List Expr}{scope:Scope}{pos:Pos}(ht:(∃y p,t2=.Name y p)∨∃es k p,t2=.Tuple es k p):
  CompForm (.ListComp elt [⟨t1,i1,ifs1,0⟩,⟨t2,i2,ifs2,0⟩] scope pos) 1 ⟨t2,i2,ifs2,0⟩ (fun V acc=>do let _ ←call (.builtin "list.append") [acc,←eval elt V]) where
 clause:=rfl
 sync:=rfl
 turn:=fun _ _ _=>rfl
 fr1:=fun _ _ _=>rfl
 q1:=fun _ _ _=>rfl
 un1:=fun A _ _ _=>Around.under_of_weight rfl rfl
 fr2:=fun _ _ _=>rfl
 q2:=fun _ _ _=>rfl
 un2:=fun A _ _ _=>Around.under_of_weight rfl rfl
 targets:=ht
theorem turnsP_from{α:Type}{items:List α}{enc:α->Ent}{F:α->Option PyData}{target iter elt:Expr}{ifs:List Expr}{xs:List Str}{b:List PyData}(hz:b.length+items.length≤sizeLine)
  (turn:∀a∈items,TurnLC Z w H0 n sc σ δ target ifs elt xs enc F a):
  TurnsP Z w H0 n sc σ δ ⟨target,iter,ifs,0⟩ (fun V acc=>do let _ ←call (.builtin "list.append") [acc,←eval elt V]) xs listK (items.map enc) (fun i=>b++(items.take i).filterMap F):=by
 intro i x hx;rw[getElem?_map] at hx;cases ha:items[i]? with
 |none=>rw[ha] at hx;simp at hx
 |some a=>
  rw[ha] at hx;simp at hx;subst hx;have hm:a∈items:=mem_of_getElem? ha;obtain⟨bs,p,h1,h2,h3,h4,h5,h6⟩:=turn a hm;have e:b++(items.take (i+1)).filterMap F=(b++(items.take i).filterMap F)++(F a).toList:=by
   rw[take_add_one,ha,List.filterMap_append,append_assoc];simp only[Option.toList];cases hF:F a<;> simp[hF]
  have hlen:(b++(items.take i).filterMap F).length≤sizeLine:=by
   have h1:((items.take i).filterMap F).length≤(items.take i).length:=length_filterMap_le ..;rw[length_take] at h1;rw[length_append];omega
  refine⟨bs,p,h1,fun y hy=>by rw[←h2];exact hy,fun y hy=>h3 y (by rw[←h2];exact hy),h4,fun hp=>?_,fun hp=>?_⟩
  ·obtain⟨d,hd,hE⟩:=h5 hp
   show CoP _ _ _ _ _ _ _ _ _ _ _ (b++(items.take (i+1)).filterMap F);rw[e,hd];exact append_CoP hE hlen
  ·show b++(items.take (i+1)).filterMap F=_
   rw[e,h6 hp];simp
theorem ev_lc2{α γ:Type}{items:List α}{enc:α->Ent}{items2:α->List γ}{enc2:α->γ->Ent}(F:α->γ->Option PyData){elt t1 i1 t2 i2:Expr}{ifs2:List Expr}{scope:Scope}{pos:Pos}{xs1 xs2:List Str}{x:Ent}(ht1:(∃y p,t1=.Name y p)∨∃es k p,t1=.Tuple es k p)(ht2:(∃y p,t2=.Name y p)∨∃es k p,t2=.Tuple es k p)
  (hok:compOk sc scope=true)(hxs:∀x∈xs1++xs2,scope.names.lookup x=some .local∨scope.names.lookup x=some .cell)(hs1:∀V x,foldedSetIterable i1 V x=pure x)(hs2:∀V x,foldedSetIterable i2 V x=pure x)
  (hi:EvE Z w H0 n sc σ δ i1 x)(hsrc:SrcV Z w H0 n x (items.map enc))(hz:(items.map fun a=>(items2 a).length).sum≤sizeLine)
  (turn:∀a∈items,∃bs x2,AsP Z w H0 n (scIn sc scope) t1 (enc a) bs∧bs.map (·.1)=xs1∧(∀y∈xs1,(stoIn scope σ).lookup y=none)∧
   EvE Z w H0 n (scIn sc scope) (bs++stoIn scope σ) δ i2 x2∧SrcV Z w H0 n x2 ((items2 a).map (enc2 a))∧∀c∈items2 a,TurnLC Z w H0 n (scIn sc scope) (bs++stoIn scope σ) δ t2 ifs2 elt xs2 (enc2 a) (F a) c):
  EvE Z w H0 n sc σ δ (.ListComp elt [⟨t1,i1,[],0⟩,⟨t2,i2,ifs2,0⟩] scope pos) (.d (.list (items.flatMap fun a=>(items2 a).filterMap (F a)))):=by
 have hlen:∀l:List α,(l.flatMap fun a=>(items2 a).filterMap (F a)).length≤(l.map fun a=>(items2 a).length).sum:=fun l=>by
  induction l with
  |nil=>simp
  |cons a l ih=>
   rw[flatMap_cons,length_append,map_cons,sum_cons];have:((items2 a).filterMap (F a)).length≤(items2 a).length:=length_filterMap_le ..;omega
 refine ev_comp (K:=listK) (xs:=xs1++xs2) (fun i=>(items.take i).flatMap fun a=>(items2 a).filterMap (F a)) (form_lc2a ht1) rfl hok hxs (by simpa using newAcc_list) (fun V=>rfl) hs1 (it_of hi hsrc ht1) ?_ fun h η D hD hK=>?_
 ·intro i x hx
  rw[getElem?_map] at hx;cases ha:items[i]? with
  |none=>rw[ha] at hx;simp at hx
  |some a=>
   rw[ha] at hx;simp at hx;subst hx;have hm:a∈items:=mem_of_getElem? ha;obtain⟨bs,x2,h1,h2,h3,h4,h5,h6⟩:=turn a hm;refine⟨bs,true,h1,fun y hy=>mem_append_left _ (by rw[←h2];exact hy),fun y hy=>h3 y (by rw[←h2];exact hy),ifs_nil,fun _=>?_,fun h=>by cases h⟩;have e:((items.take (i+1)).flatMap fun a=>(items2 a).filterMap (F a))=((items.take i).flatMap fun a=>(items2 a).filterMap (F a))++(items2 a).filterMap (F a):=by
    rw[take_add_one,ha,flatMap_append];simp
   have bound:((items.take i).flatMap fun a=>(items2 a).filterMap (F a)).length+(items2 a).length≤sizeLine:=by
    have h7:=hlen (items.take i);have h8:((items.take (i+1)).map fun a=>(items2 a).length).sum≤(items.map fun a=>(items2 a).length).sum:=by
     have:=congrArg (fun l=>(l.map fun a=>(items2 a).length).sum) (take_append_drop (i+1) items);simp only[map_append,sum_append] at this;omega
    rw[take_add_one,ha,map_append,sum_append] at h8;simp only[Option.toList,map_cons,map_nil,sum_cons,List.sum_nil] at h8;omega
   have tp:=turnsP_from (iter:=i2) bound h6;have:=nested_CoP (K:=listK) (xs:=xs1++xs2) _ (form_lc2b (elt:=elt) (t1:=t1) (i1:=i1) (ifs1:=[]) (i2:=i2) (ifs2:=ifs2) (scope:=scope) (pos:=pos) ht2) (it_of h4 h5 ht2) hs2 tp (fun y hy=>mem_append_right _ hy);simp only[take_zero,List.filterMap_nil,append_nil,length_map,take_length] at this;show CoP _ _ _ _ _ _ _ _ _ _ _ ((items.take (i+1)).flatMap fun a=>(items2 a).filterMap (F a));rw[e];exact this
 ·have:=listK_rd hD hK
  rwa [length_map,take_length] at this
end
def bodyOf:Stmt->List Stmt
 |.FunctionDef _ _ b _ _ _ _ _ _ _=>b
 |_=>[]
def scopeOf:Stmt->Scope
 |.FunctionDef _ _ _ _ _ _ s _ _ _=>s
 |_=>default
def stm(k:Nat):Stmt:=(PySem.Challenge.pw_rx0086_01.main.body[k]?).getD (.Pass default)
abbrev S(x:String):Str:=Str.ofString x
def sg(c:Nat):Str:=⟨#[c]⟩
def letter(i:Int):Str:=sg (if i=0 then 97 else if i=1 then 65 else 98)
def nameF(x:Int):Str:=letter (x.fmod 3)++(if((x.fdiv 3).fmod 4)<3 then letter ((x.fdiv 3).fmod 4) else S "")
def varOk(sc:Scope)(x:Str):Bool:=(sc.names.lookup x==some .local ||sc.names.lookup x==some .cell ||sc.names.lookup x==some .free) && x !="__debug__" && x !="__classdict__"
theorem ev_var{x:Str}{pos:Pos}{e:Ent}(hs:σ.lookup x=some e)(h:varOk sc x=true:=by decide +kernel):EvE Z w H0 n sc σ δ (.Name x pos) e:=by
 simp only[varOk,Bool.and_eq_true,Bool.or_eq_true,beq_iff_eq,bne_iff_ne] at h;refine ev_name hs ?_ (by simpa using h.1.2) (by simpa using h.2);rcases h.1.1 with (h|h)|h
 ·exact .inl h
 ·exact .inr (.inl h)
 ·exact .inr (.inr h)
def globOk(sc:Scope)(x:Str):Bool:=sc.names.lookup x==some .globalImplicit && x !="__debug__"
theorem ev_gl{x:Str}{pos:Pos}{v:Value}(hg:GIs H0 x v)(h:globOk sc x=true:=by decide +kernel):EvE Z w H0 n sc σ δ (.Name x pos) (.v v):=by
 simp only[globOk,Bool.and_eq_true,beq_iff_eq,bne_iff_ne] at h;exact ev_glob hg h.1 (by simpa using h.2)
theorem settable_of{x:Str}(h:(sc.names.lookup x==some .local ||sc.names.lookup x==some .cell)=true:=by decide +kernel):settable sc x:=by
 simpa [settable] using h
theorem len_sg(c:Nat):(sg c).length=1:=rfl
theorem ev_if_eq{t b c:Expr}{pos:Pos}{p:Bool}{d x y:PyData}(h:TrP Z w H0 n sc σ δ t p)(h1:p=true->EvE Z w H0 n sc σ δ b (.d x))(h2:p=false->EvE Z w H0 n sc σ δ c (.d y))(e:d=if p then x else y):
  EvE Z w H0 n sc σ δ (.IfExp t b c pos) (.d d):=by rw[e];exact ev_ifd h h1 h2
theorem letter_at{k:Int}(h0:0≤k)(h1:k<3):(seqIndex? k (S "aAb").length).bind ((S "aAb").cps[·]?)=some (if k=0 then 97 else if k=1 then 65 else 98):=by
 have:k=0∨k=1∨k=2:=by omega
 rcases this with rfl|rfl|rfl<;> decide +kernel
theorem fits63{k:Int}(h0:0≤k)(h1:k<64):(decide (k< -(2 ^ 63:Int)) ||decide (k ≥ 2 ^ 63))=false:=by
 simp;omega
theorem size_ok{a b:Str}(h:a.length≤1000)(h':b.length≤1000):(a++b).length≤sizeLine:=by
 rw[Str.length_append];have:sizeLine=2 ^ 24:=rfl;omega
theorem fmod_lt{x:Int}{k:Int}(h:0<k):0≤x.fmod k∧x.fmod k<k:=⟨Int.fmod_nonneg_of_pos _ h,Int.fmod_lt_of_pos _ h⟩
theorem len_letter(i:Int):(letter i).length=1:=rfl
theorem name_body(x:Int):ExP Z w H0 n (scopeOf (stm 21)) [(S "x",.d (.int x))] [] (bodyOf (stm 21)) (.ret (.d (.str (nameF x)))):=by
 have h3:=fmod_lt (x:=x) (k:=3) (by decide);have h4:=fmod_lt (x:=x.fdiv 3) (k:=4) (by decide);have vx:∀pos,EvE Z w H0 n (scopeOf (stm 21)) [(S "x",.d (.int x))] [] (.Name "x" pos) (.d (.int x)):=fun pos=>ev_var rfl;refine ex_ret (st_return ?_);refine ev_bin (x:=.d (.str (letter (x.fmod 3)))) (y:=.d (.str (if((x.fdiv 3).fmod 4)<3 then letter ((x.fdiv 3).fmod 4) else S ""))) ?_ ?_ (op_addS (size_ok (by rw[len_letter];decide) (by split;rw[len_letter];decide;decide)))
 ·exact ev_item_str ev_str (ev_bin (vx _) ev_int (op_modI (by decide))) (fits63 h3.1 (by omega)) (letter_at h3.1 h3.2) (fun _ _=>rfl)
 ·refine ev_if_eq (p:=decide ((x.fdiv 3).fmod 4<3)) (x:=.str (letter ((x.fdiv 3).fmod 4))) (y:=.str (S "")) ?_ (fun h=>?_) (fun _=>ev_str) ?_
  ·exact tr_cmp (ev_bin (ev_bin (vx _) ev_int (op_divI (by decide) (by decide))) ev_int (op_modI (by decide))) ev_int op_ltI rfl
  ·exact ev_item_str ev_str (ev_bin (ev_bin (vx _) ev_int (op_divI (by decide) (by decide))) ev_int (op_modI (by decide))) (fits63 h4.1 (by omega)) (letter_at h4.1 (of_decide_eq_true h)) (fun _ _=>rfl)
  ·by_cases q:(x.fdiv 3).fmod 4<3<;> simp[q]
def sign(i:Int):Str:=sg (if i=0 then 97 else if i=1 then 98 else if i=2 then 63 else 42)
theorem sign_at{k:Int}(h0:0≤k)(h1:k<4):(seqIndex? k (S "ab?*").length).bind ((S "ab?*").cps[·]?)=some (if k=0 then 97 else if k=1 then 98 else if k=2 then 63 else 42):=by
 have:k=0∨k=1∨k=2∨k=3:=by omega
 rcases this with rfl|rfl|rfl|rfl<;> decide +kernel
def patF(x:Int):Str:=if 0<(x.fdiv 12).fmod 16 then sign ((x.fdiv 12).fmod 4)++sign ((x.fdiv 48).fmod 4) else S ""
theorem pat_body(x:Int):ExP Z w H0 n (scopeOf (stm 22)) [(S "x",.d (.int x))] [] (bodyOf (stm 22)) (.ret (.d (.str (patF x)))):=by
 have h3:=fmod_lt (x:=x.fdiv 12) (k:=4) (by decide);have h4:=fmod_lt (x:=x.fdiv 48) (k:=4) (by decide);have vx:∀pos,EvE Z w H0 n (scopeOf (stm 22)) [(S "x",.d (.int x))] [] (.Name "x" pos) (.d (.int x)):=fun pos=>ev_var rfl;refine ex_ret (st_return ?_);refine ev_if_eq (p:=decide (0<(x.fdiv 12).fmod 16)) (x:=.str (sign ((x.fdiv 12).fmod 4)++sign ((x.fdiv 48).fmod 4))) (y:=.str (S "")) ?_ (fun h=>?_) (fun _=>ev_str) ?_
 ·exact tr_cmp (ev_bin (ev_bin (vx _) ev_int (op_divI (by decide) (by decide))) ev_int (op_modI (by decide))) ev_int op_gtI rfl
 ·refine ev_bin (x:=.d (.str (sign ((x.fdiv 12).fmod 4)))) (y:=.d (.str (sign ((x.fdiv 48).fmod 4)))) ?_ ?_ (op_addS (size_ok (by show 1≤1000;decide) (by show 1≤1000;decide)))
  ·exact ev_item_str ev_str (ev_bin (ev_bin (vx _) ev_int (op_divI (by decide) (by decide))) ev_int (op_modI (by decide))) (fits63 h3.1 (by omega)) (sign_at h3.1 h3.2) (fun _ _=>rfl)
  ·exact ev_item_str ev_str (ev_bin (ev_bin (vx _) ev_int (op_divI (by decide) (by decide))) ev_int (op_modI (by decide))) (fits63 h4.1 (by omega)) (sign_at h4.1 h4.2) (fun _ _=>rfl)
 ·unfold patF;by_cases q:0<(x.fdiv 12).fmod 16<;> simp[q]
def Has(Z:Program)(w:World)(H0:Heap)(x:Str)(n:Nat)(xs:List Ent)(P:Heap->Value->Prop):Prop:=
 ∃f,GIs H0 x f∧Callee H0 f∧FnP Z w H0 n f xs P
abbrev HasD(Z:Program)(w:World)(H0:Heap)(x:Str)(n:Nat)(xs:List PyData)(d:PyData):Prop:=Has Z w H0 x n (xs.map .d) (Rd d)
theorem Has.le{x:Str}{k:Nat}{xs:List Ent}{P:Heap->Value->Prop}(h:Has Z w H0 x n xs P)(hk:n≤k):Has Z w H0 x k xs P:=let⟨f,a,b,c⟩:=h;⟨f,a,b,c.le hk⟩
theorem ev_has{x:Str}{p pos:Pos}{args:List Expr}{xs:List Ent}{P:Heap->Value->Prop}{k:Nat}(h:Has Z w H0 x k xs P)(hk:k≤n)(hg:globOk sc x=true)(ha:EvsP Z w H0 n sc σ δ pos args xs)
  (hb:∀V,(backTo pos (starEach args V)).any (·.1)=false):EvP Z w H0 n sc σ δ (.Call (.Name x p) args [] pos) P:=by
 obtain⟨f,a,b,c⟩:=h;exact ev_call (ev_gl a hg) b ha (c.le hk) hb
theorem evs_1{pos:Pos}{a:Expr}{x:Ent}(h:EvE Z w H0 n sc σ δ a x)(hb:∀V,backTo pos (starEach [a] V)=[(false,eval a V)]):EvsP Z w H0 n sc σ δ pos [a] [x]:=evs_cons h evs_nil hb
theorem evs_2{pos:Pos}{a b:Expr}{x y:Ent}(h:EvE Z w H0 n sc σ δ a x)(h':EvE Z w H0 n sc σ δ b y)(hb:∀V,backTo pos (starEach [a,b] V)=(false,eval a V)::backTo pos (starEach [b] V))(hb':∀V,backTo pos (starEach [b] V)=[(false,eval b V)]):EvsP Z w H0 n sc σ δ pos [a,b] [x,y]:=
 evs_cons h (evs_cons h' evs_nil hb') hb
theorem trs_and1{e:Expr}{a:Bool}(h:TrP Z w H0 n sc σ δ e a):TrsP Z w H0 n sc σ δ .And [e] a:=by
 have:=trs_and (b:=true) h fun _=>trs_nil;rwa [Bool.and_true] at this
theorem trs_or1{e:Expr}{a:Bool}(h:TrP Z w H0 n sc σ δ e a):TrsP Z w H0 n sc σ δ .Or [e] a:=by
 have:=trs_or (b:=false) h fun _=>trs_nil;rwa [Bool.or_false] at this
theorem fn_len_list{ds:List PyData}(hz:ds.length≤sizeLine):FnP Z w H0 n (.builtin "len") [.d (.list ds)] (Rd (.int ds.length)):=by
 intro A s η vs g B m
 match vs,m with
 |[v],⟨m,_⟩=>
 obtain⟨l,vs,rfl,hl,f⟩:=rd_list m;have e:=f.length;refine PyProof.Rows.len_list (isList_ext (vis_to _ _) hl) (by rw[size_toArray,e];have:sizeLine=2 ^ 24:=rfl;omega) ?_;rw[size_toArray,e];exact Pu.tok (int_rd _ _ _)
theorem fn_len_str{x:Str}(hz:x.length≤sizeLine):FnP Z w H0 n (.builtin "len") [.d (.str x)] (Rd (.int x.length)):=by
 intro A s η vs g B m
 match vs,m with
 |[v],⟨m,_⟩=>
 obtain⟨t,rfl⟩:=rd_str m;exact PySem.P.len_str (by have:sizeLine=2 ^ 24:=rfl;omega) (Pu.tok (int_rd _ _ _))
theorem has_len_list(hg:GIs H0 "len" (.builtin "len")){ds:List PyData}(hz:ds.length≤sizeLine):Has Z w H0 "len" n [.d (.list ds)] (Rd (.int ds.length)):=⟨_,hg,callee_builtin,fn_len_list hz⟩
theorem has_len_str(hg:GIs H0 "len" (.builtin "len")){x:Str}(hz:x.length≤sizeLine):Has Z w H0 "len" n [.d (.str x)] (Rd (.int x.length)):=⟨_,hg,callee_builtin,fn_len_str hz⟩
def LS(xs:List Str):PyData:=.list (xs.map .str)
def dJob(p:Str×Str):PyData:=.list [.str p.1,.str p.2]
def dJobs(js:List (Str×Str)):PyData:=.list (js.map dJob)
def jobStep(js:List (Str×Str))(x:Int):List (Str×Str):=js++(if js.length<8∧nameF x∉js.map (·.1) then [(nameF x,patF x)] else [])
def jobsF(xs:List Int):List (Str×Str):=xs.foldl jobStep []
theorem strOk_append{a b:Str}(ha:PyData.strOk a=true)(hb:PyData.strOk b=true):PyData.strOk (a++b)=true:=by
 unfold PyData.strOk at *;rw[Str.cps_append,Array.all_append,ha,hb];rfl
theorem strOk_sg{c:Nat}(h:c<0x110000):PyData.strOk (sg c)=true:=by
 simp[PyData.strOk,sg];omega
theorem strOk_letter(i:Int):PyData.strOk (letter i)=true:=by
 unfold letter;refine strOk_sg ?_;split<;> (try split)<;> decide
theorem strOk_nameF(x:Int):PyData.strOk (nameF x)=true:=by
 unfold nameF;refine strOk_append (strOk_letter _) ?_;split
 ·exact strOk_letter _
 ·decide +kernel
theorem cleanAll_strs:∀{xs:List Str},(∀x∈xs,PyData.strOk x=true)->cleanAll (xs.map .str)=true
 |[],_=>rfl
 |x::xs,h=>by
  rw[map_cons,cleanAll,clean,h x mem_cons_self,cleanAll_strs fun y hy=>h y (mem_cons_of_mem _ hy)];rfl
theorem fine_str{x:Str}(h:PyData.strOk x=true):fine (.str x)=true:=by simp[fine,clean,h,PyData.depth]
theorem any_str{xs:List Str}{a:Str}:((xs.map PyData.str).any fun y=>PySem.Spec.same y (.str a))=decide (a∈xs):=by
 induction xs with
 |nil=>rfl
 |cons x xs ih=>
  rw[map_cons,any_cons,ih,PySem.Spec.same]
  by_cases h:x=a
  ·subst h;simp
  ·have:(x==a)=false:=by simpa using h
   rw[this];simp[Ne.symm h]
def jobsOk(js:List (Str×Str)):Prop:=js.length≤8∧∀p∈js,PyData.strOk p.1=true
theorem jobsOk_step{js:List (Str×Str)}{x:Int}(h:jobsOk js):jobsOk (jobStep js x):=by
 unfold jobStep;split
 ·rename_i q
  refine⟨by rw[length_append];simp;omega,fun p hp=>?_⟩;rcases mem_append.mp hp with hp|hp
  ·exact h.2 p hp
  ·rw[mem_singleton.mp hp];exact strOk_nameF x
 ·rw[append_nil];exact h
theorem jobsOk_foldl{xs:List Int}:∀{js:List (Str×Str)},jobsOk js->jobsOk (xs.foldl jobStep js):=by
 induction xs with
 |nil=>exact id
 |cons x xs ih=>exact fun h=>ih (jobsOk_step h)
theorem jobsOk_F(xs:List Int):jobsOk (jobsF xs):=jobsOk_foldl ⟨by simp,fun _ h=>nomatch h⟩
theorem size_le{k:Nat}(h:k≤1000000):k≤sizeLine:=by have:sizeLine=2 ^ 24:=rfl;omega
theorem lc_names{iter:Expr}{scope:Scope}{pos p1 p2 p3 p4:Pos}{a b:Str}{k:Nat}{js:List (Str×Str)}(hi:EvE Z w H0 n sc σ δ iter (.d (dJobs js)))(hz:js.length≤8)(hok:compOk sc scope=true)
  (hx:scope.names.lookup a=some .local)(hy:scope.names.lookup b=some .local)(hab:a≠b)(hv:varOk (scIn sc scope) a=true)
  (hna:(stoIn scope σ).lookup a=none)(hnb:(stoIn scope σ).lookup b=none)
  (hs:∀V x,foldedSetIterable iter V x=pure x):
  EvE Z w H0 n sc σ δ (.ListComp (.Name a p1) [⟨.Tuple [.Name a p2,.Name b p3] k p4,iter,[],0⟩] scope pos) (.d (LS (js.map (·.1)))):=by
 have:=ev_lc (items:=js) (enc:=fun p=>.d (dJob p)) (F:=fun p=>some (.str p.1)) (xs:=[b,a]) (elt:=.Name a p1) (ifs:=[]) (target:=.Tuple [.Name a p2,.Name b p3] k p4) (pos:=pos) (.inr ⟨_,_,_,rfl⟩) hok
  (fun x hx'=>by
   rcases mem_cons.mp hx' with rfl|hx'
   ·exact .inl hy
   ·rw[mem_singleton.mp hx'];exact .inl hx) hs hi
  (by have:=src_list (Z:=Z) (w:=w) (H0:=H0) (n:=n) (ds:=js.map dJob);rw[map_map] at this;exact this) (size_le (by omega)) (fun p _=>by
   have sa:settable (scIn sc scope) a:=.inl (by rw[scIn_lookup,hx];rfl);have sb:settable (scIn sc scope) b:=.inl (by rw[scIn_lookup,hy];rfl);refine⟨_,true,as_two (unp_list (ds:=[.str p.1,.str p.2])) (as_name sa) (as_name sb) (fun _=>rfl),rfl,fun y hy'=>?_,ifs_nil,fun _=>⟨_,rfl,ev_var ?_ hv⟩,fun h=>by cases h⟩
   ·rcases mem_cons.mp hy' with rfl|hy'
    ·exact hnb
    ·rw[mem_singleton.mp hy'];exact hna
   ·show((b,Ent.d (.str p.2))::(a,Ent.d (.str p.1))::stoIn scope σ).lookup a=_
    rw[lookup_cons_ne hab,lookup_cons_eq])
 have e:js.filterMap (fun p=>some (PyData.str p.1))=(js.map (·.1)).map .str:=by
  rw[filterMap_eq_map',map_map];rfl
 rw[e] at this;exact this
theorem sub_nil{σ:Sto}:∀x e,([]:Sto).lookup x=some e->σ.lookup x=some e:=fun x e h=>by simp at h
theorem sub_cons{σ σ':Sto}{y:Str}{d:Ent}(h:σ.lookup y=some d)(hr:∀x e,σ'.lookup x=some e->σ.lookup x=some e):∀x e,((y,d)::σ').lookup x=some e->σ.lookup x=some e:=fun x e hx=>by
 by_cases q:x=y
 ·subst q;rw[lookup_cons_eq] at hx;cases hx;exact h
 ·rw[lookup_cons_ne q] at hx;exact hr x e hx
theorem take_foldl{α β:Type}{f:β->α->β}{b:β}{l:List α}{i:Nat}{a:α}(h:l[i]? =some a):(l.take (i+1)).foldl f b=f ((l.take i).foldl f b) a:=by
 rw[take_add_one,h,foldl_append];rfl
theorem jobs_body(hlen:GIs H0 "len" (.builtin "len"))(hname:∀x,HasD Z w H0 "_law_name" n [.int x] (.str (nameF x)))(hpat:∀x,HasD Z w H0 "_law_pattern" n [.int x] (.str (patF x)))(ns:List Int):
  ExP Z w H0 n (scopeOf (stm 23)) [(S "numbers",.d (.list (ns.map .int))),(S "many",.d (.int 8))] [] (bodyOf (stm 23)) (.ret (.d (dJobs (jobsF ns)))):=by
 refine ex_cons (σ':=[(S "jobs",.d (dJobs []))]++[(S "numbers",.d (.list (ns.map .int))),(S "many",.d (.int 8))]) (st_assign (ev_list (ds:=[]) evs_nil (by decide)) (as_name (settable_of)) (fun _ _=>rfl) (fun _ _=>rfl) (fun _=>rfl)) ?_;refine ex_cons (st_for (J:=fun i=>[(S "jobs",.d (dJobs ((ns.take i).foldl jobStep []))),(S "many",.d (.int 8))]) (ds:=(ns.map PyData.int).map .d) (x:=.d (.list (ns.map .int))) (ev_var rfl) src_list (sub_cons rfl (sub_cons rfl sub_nil)) ?_ (fun _ _=>rfl) (.inl ⟨_,_,rfl⟩)) ?_
 ·intro i e he
  simp only[getElem?_map,Option.map_map,Option.map_eq_some_iff] at he;obtain⟨x,hx,rfl⟩:=he;generalize hjs:(ns.take i).foldl jobStep []=js;have hok:jobsOk js:=by rw[←hjs];exact jobsOk_foldl ⟨by simp,fun _ h=>nomatch h⟩
  have vj:∀sc δ pos,varOk sc "jobs"=true->EvE Z w H0 n sc ([(S "x",.d (.int x))]++[(S "jobs",.d (dJobs js)),(S "many",.d (.int 8))]) δ (.Name "jobs" pos) (.d (dJobs js)):=fun sc δ pos h=>ev_var rfl h;refine⟨[(S "x",.d (.int x))],as_name (settable_of),ex_sub (ex_cons (st_assign (x:=.d (dJobs (jobStep js x))) ?_ (as_name (settable_of)) (fun _ _=>rfl) (fun _ _=>rfl) (fun _=>rfl)) ex_nil) ?_⟩
  ·have e:jobStep js x=js++(if js.length<8∧nameF x∉js.map (·.1) then [(nameF x,patF x)] else []):=rfl
   rw[e];have hm:dJobs (js++(if js.length<8∧nameF x∉js.map (·.1) then [(nameF x,patF x)] else []))=.list (js.map dJob++(if js.length<8∧nameF x∉js.map (·.1) then [(nameF x,patF x)] else []).map dJob):=by
    unfold dJobs;rw[map_append]
   rw[hm];have h8:=hok.1;refine ev_bin (vj _ _ _ (by decide +kernel)) (y:=.d (.list ((if js.length<8∧nameF x∉js.map (·.1) then [(nameF x,patF x)] else []).map dJob))) ?_ (op_addL (size_le (by rw[length_map,length_map];split<;> simp<;> omega)))
   refine ev_if_eq (p:=decide (((js.map dJob).length:Int)<8) && (!decide (nameF x∈js.map (·.1)))) (x:=.list [dJob (nameF x,patF x)]) (y:=.list []) (tr_boolop (trs_and ?_ fun _=>trs_and1 ?_)) (fun _=>?_) (fun _=>ev_list (ds:=[]) evs_nil (by decide)) ?_
   ·exact tr_cmp (ev_has (has_len_list (n:=n) hlen (size_le (by rw[length_map];omega))) (Nat.le_refl _) (by decide +kernel) (evs_1 (vj _ _ _ (by decide +kernel)) fun _=>rfl) fun _=>rfl) (ev_var rfl) op_ltI rfl
   ·refine tr_cmp (x:=.d (.str (nameF x))) (y:=.d (LS (js.map (·.1)))) ?_ ?_ ?_ rfl
    ·exact ev_has (hname x) (Nat.le_refl _) (by decide +kernel) (evs_1 (ev_var rfl) fun _=>rfl) fun _=>rfl
    ·exact lc_names (vj _ _ _ (by decide +kernel)) h8 (by decide +kernel) (by decide +kernel) (by decide +kernel) (by decide +kernel) (by decide +kernel) rfl rfl fun _ _=>rfl
    ·have:=op_notInL (Z:=Z) (w:=w) (H0:=H0) (n:=n) (d:=.str (nameF x)) (xs:=(js.map (·.1)).map .str) (fine_str (strOk_nameF x)) (cleanAll_strs fun y hy=>by
      obtain⟨p,hp,rfl⟩:=mem_map.mp hy;exact hok.2 p hp)
     rw[any_str] at this;exact this
   ·exact ev_list (ds:=[dJob (nameF x,patF x)]) (evs_1 (ev_list (ds:=[.str (nameF x),.str (patF x)]) (evs_2 (ev_has (hname x) (Nat.le_refl _) (by decide +kernel) (evs_1 (ev_var rfl) fun _=>rfl) fun _=>rfl)
     (ev_has (hpat x) (Nat.le_refl _) (by decide +kernel) (evs_1 (ev_var rfl) fun _=>rfl) fun _=>rfl) (fun _=>rfl) fun _=>rfl) (size_le (by simp))) fun _=>rfl) (size_le (by simp))
   ·rw[length_map]
    have e8:((js.length:Int)<8)=(js.length<8):=by apply propext;omega
    simp only[e8]
    by_cases h1:js.length<8<;> by_cases h2:nameF x∈js.map (·.1)<;> simp only[h1,h2,not_true_eq_false,not_false_eq_true,and_true,and_false,if_true,if_false,decide_true,decide_false,Bool.not_true,Bool.not_false,Bool.and_true,Bool.and_false,Bool.false_eq_true]<;> rfl
  ·rw[take_foldl hx,hjs]
   exact sub_cons rfl (sub_cons rfl sub_nil)
 ·refine ex_ret (st_return ?_)
  have e:jobsF ns=(ns.take ((ns.map PyData.int).map Ent.d).length).foldl jobStep []:=by
   rw[length_map,length_map,take_length];rfl
  rw[e];exact ev_var rfl
def signsD(x:Str):List PyData:=x.cps.toList.map fun c=>.str (sg c)
theorem src_str{x:Str}(ha:x.cps.all (·<128)=true):SrcV Z w H0 n (.d (.str x)) ((signsD x).map .d):=by
 intro A s η v g B ra;obtain⟨t,rfl⟩:=rd_str ra;refine wpAny_pyIter_ascii ha ⟨s.heap.objs.size,[s.heap.objs.size],[s.heap.objs.size],(fun i h=>h.IsStrIter s.heap.objs.size "str_ascii_iterator" x t i),_,s.toks,rfl,rfl,ext_push _ _,⟨?_,?_,?_⟩,?_,?_,?_⟩
 ·have W:=Walks.strAscii (prog:=Z) (w:=w) g.hh s.heap.objs.size x t
  have e:x.cps.size=((signsD x).map Ent.d).length:=by simp[signsD]
  rw[e] at W;refine Walks.imp W fun i v p=>?_;obtain⟨c,u,a,rfl⟩:=p;refine⟨.d (.str (sg c)),?_,str_rd _ _ _⟩;simp[signsD,a]
 ·intro i h st b hb
  obtain⟨o,e,_⟩:=st;rw[mem_singleton.mp hb];exact⟨o,e⟩
 ·intro i h st
  obtain⟨o,e,c,_⟩:=st;exact⟨o,_,e,c,by decide⟩
 ·exact⟨_,Heap.get?_push_size _ rfl,rfl,rfl⟩
 ·intro b hb
  rw[mem_singleton.mp hb];exact fresh_of (Nat.le_refl _)
 ·intro b hb
  rw[mem_singleton.mp hb];exact⟨⟨_,Heap.get?_push_size _ rfl⟩,B.fresh⟩
theorem draw_walks{A:Around}{I:Addr}{fp wr:List Addr}{N:Nat}{P:Nat->Value->Prop}{St:Nat->Heap->Prop}(W:Walks Z w A I fp wr N P St):∀(k i:Nat) (s:Shared) (Q:List Value->Shared->Prop),i+k≤N->St i s.heap->
  (∀vs h' tk,vs.length=k->(∀j v,vs[j]? =some v->P (i+j) v)->St (i+k) h'->KeepBut wr s.heap h'->Q vs {s with heap:=h',toks:=tk})->wpAny (model Z w) A (draw (.ref I) k) Q NoE s
 |0,i,s,Q,_,st,hQ=>wpAny_pure (hQ [] s.heap s.toks rfl (fun j v h=>by simp at h) st (KeepBut.refl _ _))
 |k+1,i,s,Q,hle,st,hQ=>by
  show wpAny _ _ (pyNext (.ref I) >>=_) Q NoE s;refine wpAny_bind (W.item i s _ _ (by omega) st fun v h₁ t₁ hp st1 k1=>?_);refine wpAny_bind (wpAny_holding (draw_walks W k (i+1) _ _ (by omega) st1 fun vs h2 t2 hl hP st2 k2=>wpAny_pure ?_));refine hQ (v::vs) h2 t2 (by rw[length_cons,hl]) (fun j u hj=>?_) (by rw[show i+(k+1)=i+1+k by omega];exact st2) (KeepBut.trans k1 k2);cases j with
  |zero=>simp at hj;subst hj;exact hp
  |succ j=>simp at hj;rw[show i+(j+1)=i+1+j by omega];exact hP j u hj
theorem f2_of_places{α β:Type}{R:α->β->Prop}:∀{as:List α} {bs:List β},as.length=bs.length->(∀(j:Nat) (a:α),as[j]? =some a->∃b,bs[j]? =some b∧R a b)->F2 R as bs
 |[],[],_,_=>.nil
 |a::as,b::bs,hl,h=>by
  obtain⟨b',hb,r⟩:=h 0 a rfl;simp at hb;subst hb;exact .cons r (f2_of_places (by simpa using hl) fun j x hj=>by
   obtain⟨y,hy,q⟩:=h (j+1) x (by simpa using hj);exact⟨y,by simpa using hy,q⟩)
theorem unp_src{x:Ent}{es:List Ent}(hs:SrcV Z w H0 n x es)(hn:∀A s η v,Good n A->Base H0 η s.heap->Means (vis s.heap η) v x->∀Q,Q false s->wpAny (model Z w) A (notIterableAtAll v) Q NoE s):UnpV Z w H0 n x es:=by
 intro A s η v g B hm;unfold unpackItems;refine wpAny_bind (hn A s η v g B hm _ ?_);simp only[Bool.false_eq_true,if_false];refine wpAny_bind (wpAny_holding (wpAny_mono (hs A s η v g B hm) (fun it s2 q=>?_) fun _ _ f=>f));obtain⟨I,fp,wr,St,h₂,t2,rfl,rfl,ex2,S,st0,fresh,fps⟩:=q;refine wpAny_bind (wpAny_holding (draw_walks S.walk es.length 0 _ _ (by omega) st0 fun vs h₃ t3 hl hP st3 k3=>?_));rw[if_neg (by omega)];refine wpAny_bind (wpAny_holding (S.walk.done _ _ _ (by simpa using st3) fun h4 t4 k4=>?_));simp only[Option.isSome_none,Bool.false_eq_true,if_false];have ext:Ext s.heap h4:=fun b o e=>by
  have nb:b∉wr:=fun m=>by rw[fresh b m] at e;cases e
  exact k4 b o nb (k3 b o nb (ex2 b o e))
 refine wpAny_pure ⟨h4,t4,rfl,ext,?_⟩;exact f2_meansAll (f2_of_places hl fun j a hj=>by
  obtain⟨e,h1,h2⟩:=hP j a hj;exact⟨e,by simpa using h1,h2.ext (vis_ext η ext)⟩)
theorem unp_str{x:Str}(ha:x.cps.all (·<128)=true):UnpV Z w H0 n (.d (.str x)) ((signsD x).map .d):=
 unp_src (src_str ha) fun A s η v g B m Q hQ=>by
  obtain⟨t,rfl⟩:=rd_str m;unfold notIterableAtAll;refine wpAny_bind (wpAny_specialOf (typeIs_str s x t) PySem.F.slot_str_iter.lookup ?_);exact wpAny_pure hQ
theorem ev_slice_str_from{value:Expr}{lower:Expr}{p pos:Pos}{x:Str}{i:Int}(hv:EvE Z w H0 n sc σ δ value (.d (.str x)))(hl:EvE Z w H0 n sc σ δ lower (.d (.int i)))
  (hz:x.length≤sizeLine)(ht:∀o r,letTemporaryGo value o r=pure ()):EvE Z w H0 n sc σ δ (.Subscript value (.Slice (some lower) none none p) pos) (.d (.str (Txt.slice x (some i) none))):=by
 intro A V s η g o F;refine PyProof.Rows.Subscript_ (seqP (hv A V s η g o F) fun v s₁ q1=>?_);have F1:=F.ext q1.ext;refine wpAny_Slice (wpAny_evalPart_some (seqP (hl A V s₁ η g o F1) fun vl s2 q2=>wpAny_pure (wpAny_pure ?_)));obtain⟨t,rfl⟩:=rd_str q1.val;obtain⟨u,rfl⟩:=rd_int q2.val;refine tail_of_ItemOn (SBH.sliceItem_sn (P:=fun h'=>Ext s2.heap h') (fun h ob e=>e.trans (ext_push _ _)) (Ext.refl _) (fun h' t' k e=>?_) hz) rfl (ht _);exact(q1.trans q2).trans ⟨h',k,rfl,e,str_rd _ _ _⟩
theorem slice1(c:Nat)(l:List Nat):Txt.slice ⟨(c::l).toArray⟩ (some 1) none=⟨l.toArray⟩:=by
 rw[slice_from_eq (b:=(c::l).length) (by decide) (by simp[Str.length];omega) (by simp[Str.length])];simp
def takesF:List (Option Str)->List Nat->Bool
 |[],l=>l.isEmpty
 |none::ps,[]=>takesF ps []
 |none::ps,c::l=>takesF ps (c::l) ||takesF (none::ps) l
 |some s::ps,[]=>false
 |some s::ps,c::l=>(s==S "any" ||s==sg c) && takesF ps l
termination_by ps l=>ps.length+l.length
def dPart:Option Str->PyData
 |none=>.none
 |some s=>.str s
def dParts(ps:List (Option Str)):PyData:=.list (ps.map dPart)
def partsOk(ps:List (Option Str)):Prop:=∀s,some s∈ps->PyData.strOk s=true
theorem clean_parts:∀{ps:List (Option Str)},partsOk ps->cleanAll (ps.map dPart)=true
 |[],_=>rfl
 |p::ps,h=>by
  have hr:=clean_parts (ps:=ps) fun s hs=>h s (mem_cons_of_mem _ hs);rw[map_cons,cleanAll,hr,Bool.and_true];cases p with
  |none=>rfl
  |some s=>exact h s mem_cons_self
theorem depth_parts:∀ps:List (Option Str),PyData.depthAll (ps.map dPart)=0
 |[]=>rfl
 |p::ps=>by
  rw[map_cons,PyData.depthAll,depth_parts ps];cases p<;> rfl
theorem fine_parts{ps:List (Option Str)}(h:partsOk ps):fine (dParts ps)=true:=by
 unfold fine dParts;rw[clean,clean_parts h,PyData.depth,depth_parts];rfl
theorem fine_nil:fine (.list [])=true:=by decide +kernel
theorem same_nil{ds:List PyData}:PySem.Spec.same (.list ds) (.list [])=ds.isEmpty:=by
 cases ds<;> simp[PySem.Spec.same,PySem.Spec.sameAll]
def tx(l:List Nat):Str:=⟨l.toArray⟩
theorem tx_nil:(tx []==S "")=true:=by decide +kernel
theorem tx_cons{c:Nat}{l:List Nat}:(tx (c::l)==S "")=false:=by
 have:tx (c::l)≠S "":=fun e=>by
  have h2:(S "").length=0:=by decide +kernel
  rw[←e] at h2;simp[tx,Str.length] at h2
 simpa using this
theorem head_str{c:Nat}{l:List Nat}:(seqIndex? 0 (tx (c::l)).length).bind ((tx (c::l)).cps[·]?)=some c:=by
 simp[tx,Str.length,seqIndex?]
theorem pick1(d:PyData)(ds:List PyData):pickD (d::ds) (some 1) none=ds:=by
 unfold pickD kms_lo kms_hi;simp only[show¬((1:Int)<0) by decide,if_false,length_cons];have:min (1:Int).toNat (ds.length+1)=1:=by
  show min 1 (ds.length+1)=1;omega
 rw[this];simp
def signOk(l:List Nat):Prop:=∀c∈l,c<128
theorem strOk_tx{l:List Nat}(h:signOk l):PyData.strOk (tx l)=true:=by
 simp only[PyData.strOk,tx];rw[Array.all_eq_true'];intro c hc;have:=h c (by simpa using hc);simp;omega
theorem takes_body(ps:List (Option Str))(l:List Nat)(hp:partsOk ps)(hl:signOk l)(hzp:ps.length≤1000)(hzl:l.length≤1000)
  (ih:∀ps' l',ps'.length+l'.length<ps.length+l.length->partsOk ps'->signOk l'->ps'.length≤1000->l'.length≤1000->HasD Z w H0 "_law_takes" n [dParts ps',.str (tx l')] (.bool (takesF ps' l'))):
  ExP Z w H0 n (scopeOf (stm 24)) [(S "parts",.d (dParts ps)),(S "name",.d (.str (tx l)))] [] (bodyOf (stm 24)) (.ret (.d (.bool (takesF ps l)))):=by
 generalize hσ:([(S "parts",.d (dParts ps)),(S "name",.d (.str (tx l)))]:Sto)=σ;have vp:∀pos,EvE Z w H0 n (scopeOf (stm 24)) σ [] (.Name "parts" pos) (.d (dParts ps)):=fun pos=>by subst hσ;exact ev_var rfl
 have vn:∀pos,EvE Z w H0 n (scopeOf (stm 24)) σ [] (.Name "name" pos) (.d (.str (tx l))):=fun pos=>by subst hσ;exact ev_var rfl
 have zp:(ps.map dPart).length≤sizeLine:=size_le (by rw[length_map];omega);have zl:(tx l).length≤sizeLine:=size_le (by show l.toArray.size≤_;rw[size_toArray];omega);have tEmpty:∀pos p1 p2,TrP Z w H0 n (scopeOf (stm 24)) σ [] (.Compare (.Name "parts" p1) [.Eq] [.List [] p2] pos) (ps.map dPart).isEmpty:=fun pos p1 p2=>
  tr_cmp (vp _) (ev_list (ds:=[]) evs_nil (by decide)) (by have:=op_eqD (Z:=Z) (w:=w) (H0:=H0) (n:=n) (fine_parts hp) fine_nil;rwa [dParts,same_nil] at this) rfl
 have eEmpty:∀pos p1 p2,EvE Z w H0 n (scopeOf (stm 24)) σ [] (.Compare (.Name "parts" p1) [.Eq] [.List [] p2] pos) (.d (.bool (ps.map dPart).isEmpty)):=fun pos p1 p2=>
  ev_cmp (vp _) (ev_list (ds:=[]) evs_nil (by decide)) (by have:=op_eqD (Z:=Z) (w:=w) (H0:=H0) (n:=n) (fine_parts hp) fine_nil;rwa [dParts,same_nil] at this) rfl
 have tName:∀pos p1 k p2,TrP Z w H0 n (scopeOf (stm 24)) σ [] (.Compare (.Name "name" p1) [.Eq] [.Constant (.str (S "")) k p2] pos) (tx l==S ""):=fun pos p1 k p2=>tr_cmp (vn _) ev_str op_eqS rfl;have eName:∀pos p1 k p2,EvE Z w H0 n (scopeOf (stm 24)) σ [] (.Compare (.Name "name" p1) [.Eq] [.Constant (.str (S "")) k p2] pos) (.d (.bool (tx l==S ""))):=fun pos p1 k p2=>ev_cmp (vn _) ev_str op_eqS rfl;have head:∀d ds,ps.map dPart=d::ds->∀pos p1 k p2,EvE Z w H0 n (scopeOf (stm 24)) σ [] (.Subscript (.Name "parts" p1) (.Constant (.int 0) k p2) pos) (.d d):=fun d ds e pos p1 k p2=>
  ev_item_list (xs:=d::ds) (by have:=vp p1;rwa [dParts,e] at this) ev_int (by decide) (by decide) rfl (fun _ _=>rfl)
 have rest:∀d ds,ps.map dPart=d::ds->∀pos p1 k p2 p3,EvE Z w H0 n (scopeOf (stm 24)) σ [] (.Subscript (.Name "parts" p1) (.Slice (some (.Constant (.int 1) k p2)) none none p3) pos) (.d (.list ds)):=fun d ds e pos p1 k p2 p3=>by
  have:=ev_slice_list (Z:=Z) (w:=w) (H0:=H0) (n:=n) (sc:=scopeOf (stm 24)) (σ:=σ) (δ:=[]) (p:=p3) (pos:=pos) (xs:=d::ds) (lower:=some (.Constant (.int 1) k p2)) (upper:=none) (by have:=vp p1;rwa [dParts,e] at this) (part_some ev_int) part_none (by rw[←e];exact zp) (fun _ _=>rfl);rwa [pick1] at this
 have nrest:∀c l',l=c::l'->∀pos p1 k p2 p3,EvE Z w H0 n (scopeOf (stm 24)) σ [] (.Subscript (.Name "name" p1) (.Slice (some (.Constant (.int 1) k p2)) none none p3) pos) (.d (.str (tx l'))):=fun c l' e pos p1 k p2 p3=>by
  have:=ev_slice_str_from (Z:=Z) (w:=w) (H0:=H0) (n:=n) (sc:=scopeOf (stm 24)) (σ:=σ) (δ:=[]) (p:=p3) (pos:=pos) (lower:=.Constant (.int 1) k p2) (i:=1) (vn p1) ev_int zl (fun _ _=>rfl);rw[e] at this;unfold tx at this;rwa [slice1] at this
 have nhead:∀c l',l=c::l'->∀pos p1 k p2,EvE Z w H0 n (scopeOf (stm 24)) σ [] (.Subscript (.Name "name" p1) (.Constant (.int 0) k p2) pos) (.d (.str (sg c))):=fun c l' e pos p1 k p2=>
  ev_item_str (vn _) ev_int (fits63 (by decide) (by decide)) (by rw[e];exact head_str) (fun _ _=>rfl)
 clear hσ
 match ps,l with
 |[],l=>
  have et:takesF [] l=((tx l==S "") && true):=by
   rw[takesF,Bool.and_true];cases l with
   |nil=>exact tx_nil.symm
   |cons c l=>exact tx_cons.symm
  rw[et];refine ex_ret (st_if (b:=true ||true) (tr_boolop (trs_or (tEmpty _ _ _) fun h=>by cases h)) (fun _=>ex_ret (st_return ?_)) fun h=>by cases h);refine ev_boolop (bos_and (eName _ _ _ _) fun _=>bos_one (ev_boolop (bos_or (b:=true) (eEmpty _ _ _) fun h=>by cases h)))
 |none::ps',[]=>
  have et:takesF (none::ps') []=(true && (false ||takesF ps' [])):=by rw[takesF];rfl
  rw[et];refine ex_ret (st_if (b:=false ||(true && true)) (tr_boolop (trs_or (tEmpty _ _ _) fun _=>trs_or1 (tr_boolop (trs_and (tr_cmp (head _ _ rfl _ _ _ _) ev_none op_isNone1 rfl) fun _=>trs_and1 (by have:=tName;rw[tx_nil] at this;exact this _ _ _ _))))) (fun _=>ex_ret (st_return ?_)) fun h=>by cases h);have e1:=eName;rw[tx_nil] at e1;refine ev_boolop (bos_and (e1 _ _ _ _) fun _=>bos_one (ev_boolop (bos_or (eEmpty _ _ _) fun _=>bos_one ?_)));exact ev_has (ih ps' [] (by simp) (fun s hs=>hp s (mem_cons_of_mem _ hs)) hl (by simp at hzp;omega) (by simp)) (Nat.le_refl _) (by decide +kernel) (evs_2 (rest _ _ rfl _ _ _ _ _) (vn _) (fun _=>rfl) fun _=>rfl) fun _=>rfl
 |none::ps',c::l'=>
  have et:takesF (none::ps') (c::l')=(takesF ps' (c::l') ||takesF (none::ps') l'):=by rw[takesF]
  rw[et];refine ex_cons (σ':=σ) (st_if (b:=false ||(true && false)) (tr_boolop (trs_or (tEmpty _ _ _) fun _=>trs_or1 (tr_boolop (trs_and (tr_cmp (head _ _ rfl _ _ _ _) ev_none op_isNone1 rfl) fun _=>trs_and1 (by have:=tName;rw[tx_cons] at this;exact this _ _ _ _))))) (fun h=>by cases h) fun _=>ex_nil) ?_;refine ex_ret (st_if (b:=true) (tr_cmp (head _ _ rfl _ _ _ _) ev_none op_isNone1 rfl) (fun _=>ex_ret (st_return ?_)) fun h=>by cases h);refine ev_boolop (bos_or ?_ fun _=>bos_one ?_)
  ·exact ev_has (ih ps' (c::l') (by simp) (fun s hs=>hp s (mem_cons_of_mem _ hs)) hl (by simp at hzp;omega) hzl) (Nat.le_refl _) (by decide +kernel) (evs_2 (rest _ _ rfl _ _ _ _ _) (vn _) (fun _=>rfl) fun _=>rfl) fun _=>rfl
  ·exact ev_has (ih (none::ps') l' (by simp) hp (fun x hx=>hl x (mem_cons_of_mem _ hx)) hzp (by simp at hzl;omega)) (Nat.le_refl _) (by decide +kernel) (evs_2 (vp _) (nrest _ _ rfl _ _ _ _ _) (fun _=>rfl) fun _=>rfl) fun _=>rfl
 |some x::ps',[]=>
  have et:takesF (some x::ps') []=((tx [] !=S "") && false):=by rw[takesF,Bool.and_false]
  rw[et];refine ex_cons (σ':=σ) (st_if (b:=false ||(false && true)) (tr_boolop (trs_or (tEmpty _ _ _) fun _=>trs_or1 (tr_boolop (trs_and (tr_cmp (head _ _ rfl _ _ _ _) ev_none (op_isNone (by intro q;cases q)) rfl) fun h=>by cases h)))) (fun h=>by cases h) fun _=>ex_nil) ?_;refine ex_cons (σ':=σ) (st_if (b:=false) (tr_cmp (head _ _ rfl _ _ _ _) ev_none (op_isNone (by intro q;cases q)) rfl) (fun h=>by cases h) fun _=>ex_nil) ?_;refine ex_ret (st_return (ev_boolop (bos_and (ev_cmp (vn _) ev_str op_neS rfl) fun h=>?_)));rw[bne,tx_nil] at h;cases h
 |some x::ps',c::l'=>
  have et:takesF (some x::ps') (c::l')=((tx (c::l') !=S "") && (([PyData.str (S "any"),PyData.str (sg c)].any fun y=>PySem.Spec.same y (.str x)) && takesF ps' l')):=by
   rw[takesF,bne,tx_cons,Bool.not_false,Bool.true_and]
   congr 1
   simp only[any_cons,List.any_nil,Bool.or_false,PySem.Spec.same];rw[Bool.beq_comm,Bool.beq_comm (a:=x)]
  rw[et];refine ex_cons (σ':=σ) (st_if (b:=false ||(false && true)) (tr_boolop (trs_or (tEmpty _ _ _) fun _=>trs_or1 (tr_boolop (trs_and (tr_cmp (head _ _ rfl _ _ _ _) ev_none (op_isNone (by intro q;cases q)) rfl) fun h=>by cases h)))) (fun h=>by cases h) fun _=>ex_nil) ?_;refine ex_cons (σ':=σ) (st_if (b:=false) (tr_cmp (head _ _ rfl _ _ _ _) ev_none (op_isNone (by intro q;cases q)) rfl) (fun h=>by cases h) fun _=>ex_nil) ?_;refine ex_ret (st_return (ev_boolop (bos_and (ev_cmp (vn _) ev_str op_neS rfl) fun _=>bos_and ?_ fun _=>bos_one ?_)))
  ·refine ev_cmp (head _ _ rfl _ _ _ _) (ev_list (ds:=[.str (S "any"),.str (sg c)]) (evs_2 ev_str (nhead _ _ rfl _ _ _ _) (fun _=>rfl) fun _=>rfl) (size_le (by simp))) (op_inL (fine_str (hp x mem_cons_self)) ?_) rfl
   rw[cleanAll,cleanAll,cleanAll,clean,clean,show PyData.strOk (S "any")=true by decide +kernel,strOk_sg (by have:=hl c mem_cons_self;omega)];rfl
  ·exact ev_has (ih ps' l' (by simp;omega) (fun s hs=>hp s (mem_cons_of_mem _ hs)) (fun x hx=>hl x (mem_cons_of_mem _ hx)) (by simp at hzp;omega) (by simp at hzl;omega)) (Nat.le_refl _) (by decide +kernel)
    (evs_2 (rest _ _ rfl _ _ _ _ _) (nrest _ _ rfl _ _ _ _ _) (fun _=>rfl) fun _=>rfl) fun _=>rfl
theorem has_takes{f:Addr}{fd:FuncData}(hg:GIs H0 "_law_takes" (.ref f))(D:DefIs H0 f fd (scopeOf (stm 24)) [S "parts",S "name"] (bodyOf (stm 24))):
  ∀(m:Nat) (ps:List (Option Str)) (l:List Nat),ps.length+l.length≤m->partsOk ps->signOk l->ps.length≤1000->l.length≤1000->HasD Z w H0 "_law_takes" (m+1) [dParts ps,.str (tx l)] (.bool (takesF ps l)):=by
 intro m
 induction m with
 |zero=>
  intro ps l hm hp hl h1 h2;exact⟨_,hg,D.callee,fn_def (xs:=[.d (dParts ps),.d (.str (tx l))]) D (by decide +kernel) rfl (takes_body ps l hp hl h1 h2 fun ps' l' h=>by omega)⟩
 |succ m ih=>
  intro ps l hm hp hl h1 h2;exact⟨_,hg,D.callee,fn_def (xs:=[.d (dParts ps),.d (.str (tx l))]) D (by decide +kernel) rfl (takes_body ps l hp hl h1 h2 fun ps' l' h a b c d=>ih ps' l' (by omega) a b c d)⟩
theorem ev_neg{e:Expr}{pos:Pos}{i:Int}(h:EvE Z w H0 n sc σ δ e (.d (.int i))):EvE Z w H0 n sc σ δ (.UnaryOp .USub e pos) (.d (.int (-i))):=by
 intro A V s η g o F;show wpAny _ A (eval e V >>=fun v=>standAt pos >>=fun _=>holding [v] (unaryOp .USub v)) _ _ s;refine wpAny_bind (seqP (h A V s η g o F) fun v s₁ q=>wpAny_bind (wpAny_standAt (wpAny_holding ?_)));obtain⟨t,rfl⟩:=rd_int q.val;exact PyProof.Rows.neg_int (q.trans (Pu.tok (int_rd _ _ _)))
theorem ev_has'{x:Str}{p pos:Pos}{args:List Expr}{xs:List PyData}{d:PyData}{k:Nat}(h:HasD Z w H0 x k xs d)(hk:k≤n)(hg:globOk sc x=true)(ha:EvsP Z w H0 n sc σ δ pos args (xs.map .d))
  (hb:∀V,(backTo pos (starEach args V)).any (·.1)=false):EvE Z w H0 n sc σ δ (.Call (.Name x p) args [] pos) (.d d):=ev_has h hk hg ha hb
def fitsF(p:Nat×Nat)(l:List Nat):Bool:=
 (p.1==42 ||(p.1==63 ||p.1==l.headD 0)) && ((p.2==42 ||(p.2==63 ||p.2==l.getLastD 0)) && (l.length==2 ||(p.1==42 ||p.2==42)))
def isSign(c:Nat):Prop:=c=97∨c=98∨c=63∨c=42
theorem isSign_lt{c:Nat}(h:isSign c):c<128:=by rcases h with rfl|rfl|rfl|rfl<;> decide
theorem star_in{a b:Nat}(ha:isSign a)(hb:isSign b):(!(Builtin.Str.occurrences (tx [a,b]) (S "*") 0 (tx [a,b]).length 1).isEmpty)=(a==42 ||b==42):=by
 rcases ha with rfl|rfl|rfl|rfl<;> rcases hb with rfl|rfl|rfl|rfl<;> decide +kernel
theorem sg_beq(a b:Nat):(sg a==sg b)=(a==b):=by
 by_cases h:a=b
 ·subst h;simp
 ·have:sg a≠sg b:=fun e=>by
   have h2:=congrArg Str.cps e;simp[sg] at h2;exact h h2
  rw[show(sg a==sg b)=false by simpa using this,show(a==b)=false by simpa using h]
theorem any_sg3(x a b c:Nat):([PyData.str (sg a),PyData.str (sg b),PyData.str (sg c)].any fun y=>PySem.Spec.same y (.str (sg x)))=(x==a ||(x==b ||x==c)):=by
 simp only[any_cons,List.any_nil,Bool.or_false,PySem.Spec.same,sg_beq];rw[Bool.beq_comm (a:=a),Bool.beq_comm (a:=b),Bool.beq_comm (a:=c)]
theorem last_str{c:Nat}{l:List Nat}:(seqIndex? (-1) (tx (c::l)).length).bind ((tx (c::l)).cps[·]?)=some ((c::l).getLastD 0):=by
 have e:seqIndex? (-1) (tx (c::l)).length=some l.length:=by
  simp[tx,Str.length,seqIndex?];omega
 rw[e];simp only[tx,Option.bind_some,List.getElem?_toArray];rw[getLastD_eq_getLast?,List.getLast?_eq_getElem?];simp
theorem fits_body(hlen:GIs H0 "len" (.builtin "len")){a b c:Nat}{l:List Nat}(ha:isSign a)(hb:isSign b)(hl:signOk (c::l))(hz:l.length≤100):
  ExP Z w H0 n (scopeOf (stm 25)) [(S "pattern",.d (.str (tx [a,b]))),(S "name",.d (.str (tx (c::l))))] [] (bodyOf (stm 25)) (.ret (.d (.bool (fitsF (a,b) (c::l))))):=by
 have vn:∀σ:Sto,σ.lookup (S "name")=some (.d (.str (tx (c::l))))->∀pos,EvE Z w H0 n (scopeOf (stm 25)) σ [] (.Name "name" pos) (.d (.str (tx (c::l)))):=fun σ h pos=>ev_var h;have hlast:(c::l).getLastD 0<128:=by
  rw[getLastD_eq_getLast?];cases h:(c::l).getLast? with
  |none=>decide
  |some x=>exact hl x (mem_of_getLast? h)
 refine ex_cons (σ':=[(S "last",.d (.str (sg b))),(S "first",.d (.str (sg a)))]++[(S "pattern",.d (.str (tx [a,b]))),(S "name",.d (.str (tx (c::l))))])
  (st_assign (bs:=[(S "last",.d (.str (sg b))),(S "first",.d (.str (sg a)))]) (ev_var rfl) (as_two (b1:=[(S "first",.d (.str (sg a)))]) (b2:=[(S "last",.d (.str (sg b)))]) (unp_str (x:=tx [a,b]) (by simp[tx];exact⟨isSign_lt ha,isSign_lt hb⟩)) (as_name (settable_of)) (as_name (settable_of)) fun _=>rfl) (fun _ _=>rfl) (fun _ _=>rfl) fun _=>rfl) ?_
 refine ex_cons (st_assign_sw (x:=.d (.tuple [.bool (a==42 ||(a==63 ||a==c)),.bool (b==42 ||(b==63 ||b==(c::l).getLastD 0))])) (e1:=.d (.bool (a==42 ||(a==63 ||a==c)))) (e2:=.d (.bool (b==42 ||(b==63 ||b==(c::l).getLastD 0)))) ?_ unp_tuple (settable_of) (settable_of) (fun _ _=>rfl) ?_) ?_
 ·refine ev_tuple (ds:=[.bool _,.bool _]) (evs_2 ?_ ?_ (fun _=>rfl) fun _=>rfl) (size_le (by simp))
  ·rw[←any_sg3]
   refine ev_cmp (ev_var rfl) (ev_list (ds:=[.str (sg 42),.str (sg 63),.str (sg c)]) (evs_cons ev_str (evs_2 ev_str (ev_item_str (vn _ rfl _) ev_int (fits63 (by decide) (by decide)) head_str fun _ _=>rfl) (fun _=>rfl) fun _=>rfl) fun _=>rfl) (size_le (by simp)))
    (op_inL (fine_str (strOk_sg (by have:=isSign_lt ha;omega))) ?_) rfl
   have:=hl c mem_cons_self;rw[cleanAll,cleanAll,cleanAll,cleanAll,clean,clean,clean,strOk_sg (by omega),strOk_sg (by omega),strOk_sg (by omega)];rfl
  ·rw[←any_sg3]
   refine ev_cmp (ev_var rfl) (ev_list (ds:=[.str (sg 42),.str (sg 63),.str (sg _)]) (evs_cons ev_str (evs_2 ev_str (ev_item_str (vn _ rfl _) (ev_neg ev_int) (k:= -1) (by decide) last_str fun _ _=>rfl) (fun _=>rfl) fun _=>rfl) fun _=>rfl) (size_le (by simp)))
    (op_inL (fine_str (strOk_sg (by have:=isSign_lt hb;omega))) ?_) rfl
   rw[cleanAll,cleanAll,cleanAll,cleanAll,clean,clean,clean,strOk_sg (by omega),strOk_sg (by omega),strOk_sg (by omega)];rfl
 ·intro V o
  have hs:=o.scope;cases V;simp only at hs;subst hs
  rfl
 ·refine ex_ret (st_return (ev_boolop (bos_and (ev_var rfl) fun _=>bos_and (ev_var rfl) fun _=>bos_one (ev_boolop (bos_or (a:=(c::l).length==2) ?_ fun _=>bos_one ?_)))))
  ·have e2:((c::l).length==2)=(((tx (c::l)).length:Int)==2):=by
    have:(tx (c::l)).length=(c::l).length:=by simp[tx,Str.length]
    rw[this]
    by_cases q:(c::l).length=2
    ·rw[q];rfl
    ·rw[show((c::l).length==2)=false by simpa using q,show(((c::l).length:Int)==2)=false by simp only[beq_eq_false_iff_ne];omega]
   rw[e2];exact ev_cmp (ev_has (has_len_str (n:=n) hlen (size_le (by simp[tx,Str.length];omega))) (Nat.le_refl _) (by decide +kernel) (evs_1 (vn _ rfl _) fun _=>rfl) fun _=>rfl) ev_int op_eqI rfl
  ·rw[←star_in ha hb]
   exact ev_cmp ev_str (ev_var rfl) op_inS rfl
def zipRec(f0:Value)(TI TO:Addr):Obj:={cls:=.type "zip",dict:=none,data:=.fields #[f0,.bool false,.bool false,.ref TI,.ref TO],slots:=#[]}
def pairRec(a b:Value):Obj:={cls:=.type "tuple",data:=.seq #[a,b]}
section
variable{Z:Program}{w:World}{A:Around}{E:Value->Shared->Prop}{s:Shared}{z TI TO i1 i2:Addr}{N1 N2:Nat}{P1 P2:Nat->Value->Prop}{St1 St2:Nat->Heap->Prop}
structure Apart5(z TI TO i1 i2:Addr):Prop where
 a:TI≠z
 b:TO≠z
 c:i1≠z
 d:i2≠z
 e:TI≠TO
 f:TI≠i1
 g:TI≠i2
 h:TO≠i1
 i:TO≠i2
 j:i1≠i2
def ZSt(z TI TO i1 i2:Addr)(St1 St2:Nat->Heap->Prop)(f0:Value)(k:Nat)(h:Heap):Prop:=
 h.get? z=some (zipRec f0 TI TO)∧h.get? TI=some (pairRec (.ref i1) (.ref i2))∧(∃a b,h.get? TO=some (pairRec a b))∧St1 k h∧St2 k h
abbrev KeepZ(z TO i1 i2:Addr)(h h':Heap):Prop:=∀c o,c≠z->c≠TO->c≠i1->c≠i2->h.get? c=some o->h'.get? c=some o
theorem keep1{p:Addr}{h h':Heap}(hs:Heap.SameBut p h h'){c:Addr}{o:Obj}(n:c≠p)(e:h.get? c=some o):h'.get? c=some o:=hs.extBut c o n e
theorem St.stay{it p:Addr}{N:Nat}{P:Nat->Value->Prop}{St:Nat->Heap->Prop}{h h':Heap}{k:Nat}{A:Around}(D:Draws Z w A it [it] N P St)(st:St k h)(hs:Heap.SameBut p h h')(n:it≠p):St k h':=
 D.frame k h h' st fun b hb o e=>by rw[mem_singleton.mp hb] at e ⊢;exact keep1 hs n e
theorem zip_item(AP:Apart5 z TI TO i1 i2)(D1:∀A:Around,A.handled=none->Draws Z w A i1 [i1] N1 P1 St1)(D2:∀A:Around,A.handled=none->Draws Z w A i2 [i2] N2 P2 St2)(hh:A.handled=none){k:Nat}(hk1:k<N1)(hk2:k<N2)
  (st:ZSt z TI TO i1 i2 St1 St2 .none k s.heap){Q:Value->Shared->Prop}
  (hQ:∀x y (T:Addr) h' tk,P1 k x->P2 k y->ZSt z TI TO i1 i2 St1 St2 (rawInt T) (k+1) h'->h'.get? T=some (pairRec x y)->s.heap.get? T=none->T≠z->T≠TO->T≠i1->T≠i2->KeepZ z TO i1 i2 s.heap h'->Q (.ref T) {s with heap:=h',toks:=tk}):
  wpAny (model Z w) A (Builtin.«zip.__next__» ⟨[.ref z],[]⟩) (fun fin s'=>∃v,fin=.done (.ret v)∧Q v s') E s:=by
 obtain⟨hz,hTI,⟨a,b,hTO⟩,s1,s2⟩:=st;show wpAny _ _ (field (.ref z) 2 >>=_) _ _ _;refine wpAny_bind (wpAny_field hz rfl (x:=.bool false) rfl ?_);show wpAny _ _ (field (.ref z) 3 >>=_) _ _ _;refine wpAny_bind (wpAny_field hz rfl (x:=.ref TI) rfl (wpAny_bind (wpAny_seqItems hTI rfl ?_)));show wpAny _ _ (Builtin.SmallTypes.ownedTupleIsFree (.ref z) >>=_) _ _ _;refine wpAny_bind ?_;unfold Builtin.SmallTypes.ownedTupleIsFree;refine wpAny_bind (wpAny_field hz rfl (x:=.none) rfl (wpAny_pure ?_));simp only[if_true];refine wpAny_bind (wpAny_rule (wpAny_bind (wpAny_field hz rfl (x:=.ref TO) rfl (wpAny_bind (wpAny_setField_rec hz (by simp) fun g1 z1 b1=>?_)))));refine wpAny_bind ?_;simp only[List.zipIdx_cons,List.zipIdx_nil,forIn_cons,forIn_nil];refine wpAny_bind (wpAny_bind (wpAny_onRaise ?_));show wpAny _ _ (Builtin.SmallTypes.nextOf (.ref i1) >>=_) _ _ _;refine wpAny_bind ((D1 A hh).item k _ _ _ hk1 (St.stay (D1 A hh) s1 b1 AP.c) fun x g2 t2 px s1' b2=>wpAny_pure ?_);have TO2:g2.get? TO=some (pairRec a b):=keep1 b2 AP.h (keep1 b1 AP.b hTO);refine wpAny_bind (wpAny_seqItems TO2 rfl (wpAny_bind (wpAny_updateSeq_pair TO2 fun g3 TO3 b3=>wpAny_bind (wpAny_letGo (wpAny_pure ?_)))))
 replace TO3:g3.get? TO=some (pairRec x b):=TO3
 refine wpAny_bind (wpAny_bind (wpAny_onRaise ?_));show wpAny _ _ (Builtin.SmallTypes.nextOf (.ref i2) >>=_) _ _ _;have s2':St2 k g3:=St.stay (D2 A hh) (St.stay (D2 A hh) (St.stay (D2 A hh) s2 b1 AP.d) b2 AP.j.symm) b3 AP.i.symm;refine wpAny_bind ((D2 A hh).item k _ _ _ hk2 s2' fun y g4 t4 py s2'' b4=>wpAny_pure ?_);have TO4:g4.get? TO=some (pairRec x b):=keep1 b4 AP.i TO3;refine wpAny_bind (wpAny_seqItems TO4 rfl (wpAny_bind (wpAny_updateSeq_pair TO4 fun g5 TO5 b5=>wpAny_bind (wpAny_letGo (wpAny_pure (wpAny_pure ?_))))))
 replace TO5:g5.get? TO=some (pairRec x y):=TO5
 refine wpAny_bind (wpAny_seqItems TO5 rfl (wpAny_bind (wpAny_newTuple ?_)));have z5:g5.get? z=some (zipRec .ellipsis TI TO):=keep1 b5 AP.b.symm (keep1 b4 AP.d.symm (keep1 b3 AP.b.symm (keep1 b2 AP.c.symm z1)));have kz:KeepZ z TO i1 i2 s.heap g5:=fun c o c1 c2 c3 c4 e=>keep1 b5 c2 (keep1 b4 c4 (keep1 b3 c2 (keep1 b2 c3 (keep1 b1 c1 e))));have s1'':St1 (k+1) g5:=St.stay (D1 A hh) (St.stay (D1 A hh) (St.stay (D1 A hh) s1' b3 AP.h.symm) b4 AP.j) b5 AP.h.symm;have s2f:St2 (k+1) g5:=St.stay (D2 A hh) s2'' b5 AP.i.symm;obtain⟨o1,e1⟩:=(D1 A hh).live _ _ s1'';obtain⟨o2,e2⟩:=(D2 A hh).live _ _ s2f;have sz:g5.objs.size=s.heap.objs.size:=by rw[b5.1,b4.1,b3.1,b2.1,b1.1]
 show wpAny _ _ (Builtin.SmallTypes.ownedTupleHandOut (.ref z) (.ref g5.objs.size) >>=_) _ _ _;refine wpAny_bind ?_;unfold Builtin.SmallTypes.ownedTupleHandOut;have z6:(g5.push (pairRec x y)).get? z=some (zipRec .ellipsis TI TO):=Heap.get?_push_of_some _ z5;refine wpAny_bind (wpAny_setField_rec z6 (by simp) fun g7 z7 b7=>wpAny_setField_rec z7 (by simp) fun g8 z8 b8=>wpAny_pure ⟨_,rfl,?_⟩);have up:∀c o,c≠z->g5.get? c=some o->g8.get? c=some o:=fun c o n e=>keep1 b8 n (keep1 b7 n (Heap.get?_push_of_some _ e));have nz:∀{c o},g5.get? c=some o->g5.objs.size≠c:=fun e=>Nat.ne_of_gt (Heap.lt_size e);refine hQ x y g5.objs.size g8 t4 px py ⟨z8,up _ _ AP.a (keep1 b5 AP.e (keep1 b4 AP.g (keep1 b3 AP.e (keep1 b2 AP.f (keep1 b1 AP.a hTI))))),⟨_,_,up _ _ AP.b TO5⟩,?_,?_⟩ ?_ (fresh_of (Nat.le_of_eq sz.symm)) (nz z5) (nz TO5) (nz e1) (nz e2) fun c o c1 c2 c3 c4 e=>up c o c1 (kz c o c1 c2 c3 c4 e)
 ·exact(D1 A hh).frame _ _ _ s1'' fun b hb o e=>by rw[mem_singleton.mp hb] at e ⊢;exact up _ _ AP.c e
 ·exact(D2 A hh).frame _ _ _ s2f fun b hb o e=>by rw[mem_singleton.mp hb] at e ⊢;exact up _ _ AP.d e
 ·exact keep1 b8 (nz z5) (keep1 b7 (nz z5) (Heap.get?_push_size _ rfl))
theorem zip_done(AP:Apart5 z TI TO i1 i2)(D1:∀A:Around,A.handled=none->Draws Z w A i1 [i1] N1 P1 St1)(hh:A.handled=none)(st:ZSt z TI TO i1 i2 St1 St2 .none N1 s.heap){Q:PySem.Fin->Shared->Prop}
  (hE:∀h' e tk,KeepZ z TO i1 i2 s.heap h'->(∃o,h'.get? e=some o∧o.cls=.type "StopIteration")->E (.ref e) {s with heap:=h',toks:=tk}):
  wpAny (model Z w) A (Builtin.«zip.__next__» ⟨[.ref z],[]⟩) Q E s:=by
 obtain⟨hz,hTI,⟨a,b,hTO⟩,s1,s2⟩:=st;show wpAny _ _ (field (.ref z) 2 >>=_) _ _ _;refine wpAny_bind (wpAny_field hz rfl (x:=.bool false) rfl ?_);show wpAny _ _ (field (.ref z) 3 >>=_) _ _ _;refine wpAny_bind (wpAny_field hz rfl (x:=.ref TI) rfl (wpAny_bind (wpAny_seqItems hTI rfl ?_)));show wpAny _ _ (Builtin.SmallTypes.ownedTupleIsFree (.ref z) >>=_) _ _ _;refine wpAny_bind ?_;unfold Builtin.SmallTypes.ownedTupleIsFree;refine wpAny_bind (wpAny_field hz rfl (x:=.none) rfl (wpAny_pure ?_));simp only[if_true];refine wpAny_bind (wpAny_rule (wpAny_bind (wpAny_field hz rfl (x:=.ref TO) rfl (wpAny_bind (wpAny_setField_rec hz (by simp) fun g1 z1 b1=>?_)))));refine wpAny_bind ?_;simp only[List.zipIdx_cons,List.zipIdx_nil,forIn_cons,forIn_nil];refine wpAny_bind (wpAny_bind (wpAny_onRaise ?_));show wpAny _ _ (Builtin.SmallTypes.nextOf (.ref i1) >>=_) _ _ _;refine wpAny_bind ((D1 A hh).done _ _ _ (St.stay (D1 A hh) s1 b1 AP.c) fun g2 e b2 he=>?_);obtain⟨oe,hoe,hce⟩:=he;have z2:g2.get? z=some (zipRec .ellipsis TI TO):=b2 _ _ AP.c.symm z1;have nez:e≠z:=fun q=>by
  rw[q,z2] at hoe;cases hoe;simp[zipRec] at hce
 exact wpAny_setField_rec z2 (by simp) fun g3 _ b3=>hE g3 e s.toks (fun c o c1 c2 c3 c4 q=>keep1 b3 c1 (b2 _ _ c3 (keep1 b1 c1 q))) ⟨oe,keep1 b3 nez hoe,hce⟩
theorem srcT_zip(AP:Apart5 z TI TO i1 i2)(D1:∀A:Around,A.handled=none->Draws Z w A i1 [i1] N1 P1 St1)(D2:∀A:Around,A.handled=none->Draws Z w A i2 [i2] N2 P2 St2)(hh:A.handled=none){ds:List (PyData×PyData)}(hl1:ds.length=N1)(hl2:ds.length=N2)
  (hP1:∀i v p,ds[i]? =some p->P1 i v->∀g,Rd p.1 g v)(hP2:∀i v p,ds[i]? =some p->P2 i v->∀g,Rd p.2 g v){es:List Expr}{k:Nat}{p:Pos}{g:Heap}{η:List Addr}(hhid:∀b∈[z,TO,i1,i2],b∈η):
  SrcT Z w A (.Tuple es k p) g η z [z,TI,TO,i1,i2] [z,TO,i1,i2] (ds.map fun p=>.d (.tuple [p.1,p.2])) (fun i h=>ZSt z TI TO i1 i2 St1 St2 .none i h) where
 sub:=fun b hb=>by simp at hb ⊢;rcases hb with rfl|rfl|rfl|rfl<;> simp
 frame:=fun i h h' st hk=>by
  obtain⟨hz,hTI,⟨a,b,hTO⟩,s1,s2⟩:=st;exact⟨hk z (by simp) _ hz,hk TI (by simp) _ hTI,⟨a,b,hk TO (by simp) _ hTO⟩,(D1 A hh).frame _ _ _ s1 fun b hb o e=>hk b (by rw[mem_singleton.mp hb];simp) o e,(D2 A hh).frame _ _ _ s2 fun b hb o e=>hk b (by rw[mem_singleton.mp hb];simp) o e⟩
 item:=fun i s e Q E he st hg hal hQ=>by
  rw[getElem?_map] at he;cases hd:ds[i]? with
  |none=>rw[hd] at he;simp at he
  |some q=>
   rw[hd] at he;simp at he;subst he;have hlt:i<ds.length:=(List.getElem?_eq_some_iff.mp hd).1;have hT:s.TypeIs (.ref z) "zip":=⟨_,st.1,rfl⟩;unfold pyNext;refine wpAny_bind (wpAny_attempt (wpAny_callSpecial?_slot (name:=Str.ofString "__next__") hT PySem.F.slot_zip_next
    (wpAny_call_entry PySem.F.slot_zip_next hT PySem.F.entry_zip_next (zip_item (A:=A.in1) AP D1 D2 hh (by omega) (by omega) st fun x y T h' tk p1 p2 st' hTp hTn t1 t2 t3 t4 kz=>?_) (PySem.F.args_zip_next_1 _))))
   refine wpAny_pure ⟨_,rfl,?_⟩;unfold letOwnedTupleGo;refine wpAny_bind (wpAny_load st'.1 ?_);show wpAny _ _ (if(["enumerate","zip","dict_itemiterator","dict_reverseitemiterator","odict_iterator","itertools.zip_longest","itertools.pairwise"].contains "zip" &&
    (#[rawInt T,.bool false,.bool false,.ref TI,.ref TO]:Array Value)[0]? ==some (rawInt T))=true then _ else _) _ _ _
   rw[if_pos (by simp)];refine wpAny_bind (wpAny_rule ?_);show wpAny _ _ (setField (.ref z) 0 .none) _ _ _;refine wpAny_setField_rec st'.1 (by simp) fun h'' z'' b''=>?_;obtain⟨_,hTI,⟨a,b,hTO⟩,s1,s2⟩:=st';have Thid:T∉η:=fun m=>by obtain⟨o,e⟩:=hal T m;rw[hTn] at e;cases e
   have T2:h''.get? T=some (pairRec x y):=keep1 b'' t1 hTp;refine hQ (.ref T) h'' tk ?_ ⟨z'',keep1 b'' AP.a hTI,⟨a,b,keep1 b'' AP.b hTO⟩,St.stay (D1 A hh) s1 b'' AP.c,St.stay (D2 A hh) s2 b'' AP.d⟩ fun c o nc e=>?_
   ·exact tuple_rd (vs:=[x,y]) ⟨_,vis_get T2 Thid,rfl,0,rfl⟩ (.cons (hP1 i x q hd p1 _) (.cons (hP2 i y q hd p2 _) .nil))
   ·simp only[mem_cons,not_mem_nil,or_false,not_or] at nc
    exact keep1 b'' nc.1 (kz c o nc.1 nc.2.1 nc.2.2.1 nc.2.2.2 e)
 done:=fun s Q E st hQ=>by
  rw[length_map,hl1] at st;have hT:s.TypeIs (.ref z) "zip":=⟨_,st.1,rfl⟩;unfold pyNext;refine wpAny_bind (wpAny_attempt (wpAny_callSpecial?_slot (name:=Str.ofString "__next__") hT PySem.F.slot_zip_next
   (wpAny_call_entry PySem.F.slot_zip_next hT PySem.F.entry_zip_next (zip_done (A:=A.in1) AP D1 hh st fun h' e tk kz he=>?_) (PySem.F.args_zip_next_1 _))))
  obtain⟨o,ho,hc⟩:=he;refine wpAny_bind (wpAny_isInstance (T:="StopIteration") (b:=true) ⟨o,ho,hc⟩ isSubtype_stop ?_);refine wpAny_pure (hQ _ _ fun c o nc e=>?_);simp only[mem_cons,not_mem_nil,or_false,not_or] at nc;exact kz c o nc.1 nc.2.1 nc.2.2.1 nc.2.2.2 e
 self:=fun i s Q E st hQ=>by
  have hT:s.TypeIs (.ref z) "zip":=⟨_,st.1,rfl⟩;refine wpAny_pyIter_slot hT PySem.F.slot_zip_iter (wpAny_call_entry PySem.F.slot_zip_iter hT PySem.F.entry_zip_iter ?_ (PySem.F.args_zip_iter_1 _));show wpAny _ _ (ret (.ref z)) _ _ s;exact wpAny_pure ⟨_,rfl,"zip",_,hT,PySem.F.slot_zip_next.lookup,hQ⟩
 alive:=fun i h st b hb=>by
  obtain⟨hz,hTI,⟨a,c,hTO⟩,s1,s2⟩:=st;simp at hb;rcases hb with rfl|rfl|rfl|rfl
  ·exact⟨_,hz⟩
  ·exact⟨_,hTO⟩
  ·exact(D1 A hh).live _ _ s1
  ·exact(D2 A hh).live _ _ s2
end
def itRec(x:Str)(t:Tok):Obj:={cls:=.type "str_ascii_iterator",data:=.fields #[.str x t,.int 0 0]}
abbrev zh1(h:Heap)(x:Str)(t:Tok):Heap:=h.push (itRec x t)
abbrev zh2(h:Heap)(x y:Str)(t u:Tok):Heap:=(zh1 h x t).push (itRec y u)
abbrev zh3(h:Heap)(x y:Str)(t u:Tok):Heap:=(zh2 h x y t u).push (pairRec (.ref h.objs.size) (.ref (zh1 h x t).objs.size))
abbrev zh4(h:Heap)(x y:Str)(t u:Tok):Heap:=(zh3 h x y t u).push (pairRec .none .none)
abbrev zh5(h:Heap)(x y:Str)(t u:Tok):Heap:=(zh4 h x y t u).push (zipRec .none (zh2 h x y t u).objs.size (zh3 h x y t u).objs.size)
theorem newClass_zip(vs:List Value):Builtin.SmallTypes.newClass "zip" ⟨.type "zip"::vs,[]⟩=pure (.type "zip",vs):=by
 unfold Builtin.SmallTypes.newClass;show(isType (.type "zip") >>=fun b=>if(!b)=true then _ else _)=_;rw[show isType (.type "zip")=pure true from rfl];show(isSubtype (.type "zip") (.type "zip") >>=fun b=>if(!b)=true then _ else _)=_;rw[sub_zip]
 rfl
theorem meets_zip_strs(x y:Str)(t u:Tok)(ha:x.cps.all (·<128)=true)(hb:y.cps.all (·<128)=true):
  Meets (Builtin.«zip.__new__» ⟨[.type "zip",.str x t,.str y u],[]⟩) (fun _ R s=>R (.ok (.ret (.ref (zh4 s.heap x y t u).objs.size))) {s with heap:=zh5 s.heap x y t u}):=
 .of_wp fun Z w A R s h=>by
  unfold Builtin.«zip.__new__»;rw[newClass_zip];refine wpAny_bind (wpAny_pure ?_);show wpAny _ A.in1 (Builtin.SmallTypes.iterAll [.str x t,.str y u] >>=_) _ _ s;refine wpAny_bind ?_;unfold Builtin.SmallTypes.iterAll;simp only[forIn_cons,forIn_nil];refine wpAny_bind (wpAny_bind (wpAny_bind (wpAny_holding (wpAny_pyIter_ascii ha (wpAny_pure ?_)))));refine wpAny_bind (wpAny_bind (wpAny_holding (wpAny_pyIter_ascii hb (wpAny_pure ?_))));refine wpAny_pure (wpAny_pure ?_);refine wpAny_bind (wpAny_newObj_type ?_ (by show(2:Nat)≤_;decide));refine wpAny_bind (wpAny_newObj_type ?_ (by show(2:Nat)≤_;decide));unfold Builtin.SmallTypes.newRecord;refine wpAny_bind (wpAny_newObj_type (T:="zip") ?_ ?_)
  ·exact wpAny_pure ⟨_,rfl,h⟩
  ·show(5:Nat)≤_
   decide
theorem ascii_tx{l:List Nat}(h:signOk l):(tx l).cps.all (·<128)=true:=by
 rw[Array.all_eq_true'];intro c hc;simpa using h c (by simpa [tx] using hc)
theorem zh_sizes(h:Heap)(x y:Str)(t u:Tok):(zh1 h x t).objs.size=h.objs.size+1∧(zh2 h x y t u).objs.size=h.objs.size+2∧(zh3 h x y t u).objs.size=h.objs.size+3∧(zh4 h x y t u).objs.size=h.objs.size+4∧(zh5 h x y t u).objs.size=h.objs.size+5:=by
 refine⟨?_,?_,?_,?_,?_⟩<;> simp[zh1,zh2,zh3,zh4,zh5,Heap.size_push]
theorem zh_ext(h:Heap)(x y:Str)(t u:Tok):Ext h (zh5 h x y t u):=
 ((((ext_push _ _).trans (ext_push _ _)).trans (ext_push _ _)).trans (ext_push _ _)).trans (ext_push _ _)
def dPairs(x y:List Nat):List (PyData×PyData):=(x.zip y).map fun q=>(.str (sg q.1),.str (sg q.2))
theorem pairs_get{x y:List Nat}{i:Nat}{p:PyData×PyData}(h:(dPairs x y)[i]? =some p):∃a b,x[i]? =some a∧y[i]? =some b∧p=(.str (sg a),.str (sg b)):=by
 unfold dPairs at h;rw[getElem?_map] at h;cases e:(x.zip y)[i]? with
 |none=>rw[e] at h;cases h
 |some q=>
  rw[e] at h;have:=List.getElem?_zip_eq_some.mp e;exact⟨q.1,q.2,this.1,this.2,by simpa using h.symm⟩
theorem it_zip{es args:List Expr}{kx:Nat}{tp p pos:Pos}{x y:List Nat}(hf:EvE Z w H0 n sc σ δ (.Name "zip" p) (.v (.type "zip")))(ha:EvsP Z w H0 n sc σ δ pos args [.d (.str (tx x)),.d (.str (tx y))])
  (hl:x.length=y.length)(hx:signOk x)(hy:signOk y)(hb:∀V,(backTo pos (starEach args V)).any (·.1)=false):
  ItP Z w H0 n sc σ δ (.Tuple es kx tp) (.Call (.Name "zip" p) args [] pos) ((dPairs x y).map fun q=>.d (.tuple [q.1,q.2])):=by
 intro A V s η g o F;refine Call_Name rfl (seqP (hf A V s η g o F) fun v s₁ q=>?_);have e1:=q.val;subst e1;have F1:=F.ext q.ext;refine callWith_P (V:=V) F1.toBase.h0 callee_type (hb V) (ha A V s₁ η g o F1) fun vs s2 q2=>?_;have ext2:Ext s.heap s2.heap:=q.ext.trans q2.ext;have F2:=F1.ext q2.ext;obtain⟨h₂,t2,e2,_,m₂⟩:=q.trans q2
 match vs,m₂ with
 |[u,v],⟨m1,m2,_⟩=>
 obtain⟨t,rfl⟩:=rd_str m1;obtain⟨u,rfl⟩:=rd_str m2;subst e2;simp only at ext2 F2;refine callType_new PySem.F.called_zip (by decide) (PySem.F.typeCall_zip_2 _ _) (PySem.F.newCall_zip_2 _ _) (fun obj=>PySem.F.args_object_init_3 obj _ _) PySem.F.entry_zip_new (meets_zip_strs _ _ t u (ascii_tx hx) (ascii_tx hy)) ?_;obtain⟨z1,z2,z3,z4,z5⟩:=zh_sizes h₂ (tx x) (tx y) t u;have AP:Apart5 (zh4 h₂ (tx x) (tx y) t u).objs.size (zh2 h₂ (tx x) (tx y) t u).objs.size (zh3 h₂ (tx x) (tx y) t u).objs.size h₂.objs.size (zh1 h₂ (tx x) t).objs.size:=by
  constructor<;> (intro q;have q:(_:Nat)=_:=q;omega)
 have gz:(zh5 h₂ (tx x) (tx y) t u).get? (zh4 h₂ (tx x) (tx y) t u).objs.size=some (zipRec .none (zh2 h₂ (tx x) (tx y) t u).objs.size (zh3 h₂ (tx x) (tx y) t u).objs.size):=Heap.get?_push_size _ rfl;have ST:∀η',(∀b∈[(zh4 h₂ (tx x) (tx y) t u).objs.size,(zh3 h₂ (tx x) (tx y) t u).objs.size,h₂.objs.size,(zh1 h₂ (tx x) t).objs.size],b∈η')->SrcT Z w A (.Tuple es kx tp) (vis s.heap η) η' _ _ _ _ _:=fun η' hh=>srcT_zip (k:=kx) (es:=es) (p:=tp) AP (D1:=fun A hA=>Draws.strAscii hA _ (tx x) t) (D2:=fun A hA=>Draws.strAscii hA _ (tx y) u) g.hh (ds:=dPairs x y)
  (by simp[dPairs,tx,hl]) (by simp[dPairs,tx,hl]) (fun i v p e ⟨c,k,a,b⟩ g=>by
   obtain⟨a',b',h1,h2,rfl⟩:=pairs_get e;have:c=a':=by simpa [tx,h1] using a.symm
   subst this;subst b;exact str_rd _ _ _) (fun i v p e ⟨c,k,a,b⟩ g=>by
   obtain⟨a',b',h1,h2,rfl⟩:=pairs_get e;have:c=b':=by simpa [tx,h2] using a.symm
   subst this;subst b;exact str_rd _ _ _) hh
 have z0:ZSt (zh4 h₂ (tx x) (tx y) t u).objs.size (zh2 h₂ (tx x) (tx y) t u).objs.size (zh3 h₂ (tx x) (tx y) t u).objs.size h₂.objs.size (zh1 h₂ (tx x) t).objs.size
   (fun i h=>h.IsStrIter h₂.objs.size "str_ascii_iterator" (tx x) t i) (fun i h=>h.IsStrIter (zh1 h₂ (tx x) t).objs.size "str_ascii_iterator" (tx y) u i) .none 0 (zh5 h₂ (tx x) (tx y) t u):=
  ⟨gz,Heap.get?_push_of_some _ (Heap.get?_push_of_some _ (Heap.get?_push_size _ rfl)),⟨_,_,Heap.get?_push_of_some _ (Heap.get?_push_size _ rfl)⟩,
   ⟨_,Heap.get?_push_of_some _ (Heap.get?_push_of_some _ (Heap.get?_push_of_some _ (Heap.get?_push_of_some _ (Heap.get?_push_size _ rfl)))),rfl,rfl⟩,
   ⟨_,Heap.get?_push_of_some _ (Heap.get?_push_of_some _ (Heap.get?_push_of_some _ (Heap.get?_push_size _ rfl))),rfl,rfl⟩⟩
 have fr:∀a,h₂.objs.size≤a->s.heap.get? a=none:=fun a ha=>by
  cases e:s.heap.get? a with
  |none=>rfl
  |some o=>exact absurd (Heap.lt_size (ext2 _ _ e)) (Nat.not_lt.mpr ha)
 refine⟨⟨_,gz,rfl⟩,(ST _ fun b h=>h).self 0 _ _ _ z0 ?_⟩;have exz:Ext s.heap (zh5 h₂ (tx x) (tx y) t u):=ext2.trans (zh_ext _ _ _ _ _);have frw:∀b∈[(zh4 h₂ (tx x) (tx y) t u).objs.size,(zh3 h₂ (tx x) (tx y) t u).objs.size,h₂.objs.size,(zh1 h₂ (tx x) t).objs.size],s.heap.get? b=none:=fun b hb=>by
  refine fr b ?_;simp only[mem_cons,not_mem_nil,or_false] at hb;rcases hb with rfl|rfl|rfl|rfl
  ·show(_:Nat)≤_;omega
  ·show(_:Nat)≤_;omega
  ·exact Nat.le_refl _
  ·show(_:Nat)≤_;omega
 refine⟨_,_,_,_,_,_,vis s.heap η,rfl,rfl,exz,ST,z0,frw,fun b hb=>?_,vis_more exz frw⟩;have hlo:h₂.objs.size≤b∧b<(zh5 h₂ (tx x) (tx y) t u).objs.size:=by
  simp only[mem_cons,not_mem_nil,or_false] at hb;rcases hb with rfl|rfl|rfl|rfl|rfl<;> constructor<;> first|exact Nat.le_refl _|(show(_:Nat)≤_;omega)|(show(_:Nat)<_;omega)
 refine⟨hlo.2,fun m=>?_⟩;obtain⟨oo,e⟩:=F.alive b m;rw[fr b hlo.1] at e;cases e
def LtAt(A:Around)(s:Shared)(x y:Value)(b:Bool):Prop:=
 ∀(Z:Program) (w:World) (E:Value->Shared->Prop) (Q:Value->Shared->Prop),Q (.bool b) s->wpAny (model Z w) A (richCompare .Lt x y) Q E s
theorem ltAt_int{A:Around}{s:Shared}(a b:Int)(t u:Tok):LtAt A s (.int a t) (.int b u) (decide (a<b)):=fun Z w E Q h=>
 richCompare_gives (op:=.Lt) (typeIs_int s _ t) (typeIs_int s _ u) PySem.F.slot_int_lt PySem.F.entry_int_lt (PySem.F.args_int_lt_2 _ _) (gives_int_lt _ _ t u) (fun x=>nomatch x) h
theorem ltAt_str{A:Around}{s:Shared}(x y:Str)(t u:Tok):LtAt A s (.str x t) (.str y u) (decide (x.cps.toList<y.cps.toList)):=fun Z w E Q h=>
 richCompare_gives (op:=.Lt) (typeIs_str s _ t) (typeIs_str s _ u) PySem.F.slot_str_lt PySem.F.entry_str_lt (PySem.F.args_str_lt_2 _ _) (gives_str_lt _ _ t u) (fun x=>nomatch x) h
def Parts(A:Around)(s:Shared)(xs ys:Array Value)(i:Nat)(b:Bool):Prop:=
 ∃d,i≤d∧(∀j,i≤j->j<d->∃u v,xs[j]? =some u∧ys[j]? =some v∧SeqAt.EqAt A s u v true)∧
  ((∃u v,xs[d]? =some u∧ys[d]? =some v∧SeqAt.EqAt A s u v false∧LtAt A s u v b)∨((xs[d]? =none∨ys[d]? =none)∧b=decide (xs.size<ys.size)))
theorem lt_loop(l b:Addr)(xs ys:Array Value)(n n2:Nat)(dd dd2:Option Addr)(sl sl2:Array (Option Value))(r:Bool)(k:Nat):
  ∀i:Nat,xs.size - i=k->Meets (Builtin.«list.__eq__.loop» ⟨[.ref l,.ref b,rawInt i,rawInt 0],[]⟩)
   (fun A R s=>s.heap.get? l=some {cls:=.type "list",dict:=dd,data:=.seq xs n,slots:=sl}∧s.heap.get? b=some {cls:=.type "list",dict:=dd2,data:=.seq ys n2,slots:=sl2}∧
    Parts A.in1 s xs ys i r∧R (.ok (.ret (.bool r))) s):=by
 induction k using Nat.strongRecOn with
 |ind k ih=>
  intro i hk Z w A R s h;obtain⟨hl,hb,⟨d,η,hsame,hd⟩,h⟩:=h;show wpAny _ _ (PySem.Builtin.List.listItems (.ref l) >>=_) _ _ _;refine wpAny_bind (PySem.wpAny_listItems hl rfl ?_);show wpAny _ _ (PySem.Builtin.List.listItems (.ref b) >>=_) _ _ _;refine wpAny_bind (PySem.wpAny_listItems hb rfl ?_);simp only[Int.toNat_natCast]
  by_cases hlt:i<d
  ·obtain⟨u,v,e1,e2,eq⟩:=hsame i (Nat.le_refl _) hlt
   rw[e1,e2];refine wpAny_bind (eq Z w _ _ ?_);simp only[if_true];have hi:i<xs.size:=(Array.getElem?_eq_some_iff.mp e1).1;refine wpAny_pure ⟨plainId_quiet MeetsSeq3.plain_eq_loop _,codeAny_builtin MeetsSeq3.entry_eq_loop (by
    rw[Around.under_plainId MeetsSeq3.plain_eq_loop _];exact ih (xs.size - (i+1)) (by omega) (i+1) rfl Z w A R _ ⟨hl,hb,⟨d,hlt,fun j h1 h2=>hsame j (by omega) h2,hd⟩,h⟩)⟩
  ·have hi:i=d:=by omega
   subst hi;rcases hd with ⟨u,v,e1,e2,eq,lt⟩|⟨hn,hr⟩
   ·rw[e1,e2]
    refine wpAny_bind (eq Z w _ _ ?_);simp only[Bool.false_eq_true,if_false];refine wpAny_bind (PySem.wpAny_listItems hl rfl (wpAny_bind (PySem.wpAny_listItems hb rfl ?_)));simp only[e1,e2];exact wpAny_bind (lt Z w _ _ (wpAny_pure h))
   ·have fin:wpAny (model Z w) A.in1 (do let a ←PySem.Builtin.List.listItems (.ref l);let c ←PySem.Builtin.List.listItems (.ref b);ret (.bool (decide (a.size<c.size)))) (fun fin s'=>match fin with|.done f=>R (.ok f) s'|.again c'=>c'.quiet=true∧codeAny (model Z w) A c' R s') (fun e s'=>R (.error e) s') s:=
     wpAny_bind (PySem.wpAny_listItems hl rfl (wpAny_bind (PySem.wpAny_listItems hb rfl (wpAny_pure (by rw[←hr];exact h)))))
    rcases hn with e|e
    ·rw[e];exact fin
    ·rw[e]
     cases xs[i]?<;> exact fin
theorem meets_list_lt(l b:Addr)(xs ys:Array Value)(n n2:Nat)(dd dd2:Option Addr)(sl sl2:Array (Option Value))(r:Bool):
  Meets (Builtin.«list.__lt__» ⟨[.ref l,.ref b],[]⟩)
   (fun A R s=>s.heap.get? l=some {cls:=.type "list",dict:=dd,data:=.seq xs n,slots:=sl}∧s.heap.get? b=some {cls:=.type "list",dict:=dd2,data:=.seq ys n2,slots:=sl2}∧
    Parts A.in1 s xs ys 0 r∧R (.ok (.ret (.bool r))) s):=by
 intro Z w A R s h;obtain⟨hl,hb,hd,h⟩:=h;show wpAny _ _ (isInstance (.ref b) (.type "list") >>=_) _ _ _;refine wpAny_bind (wpAny_isInstance (T:="list") (b:=true) ⟨_,hb,rfl⟩ AutoSeq1.sub_list_list ?_);refine wpAny_pure ⟨plainId_quiet MeetsSeq3.plain_eq_loop _,codeAny_builtin MeetsSeq3.entry_eq_loop (by
  rw[Around.under_plainId MeetsSeq3.plain_eq_loop _];exact lt_loop l b xs ys n n2 dd dd2 sl sl2 r _ 0 rfl Z w A R _ ⟨hl,hb,hd,h⟩)⟩
def LtD(m:Nat)(x y:PyData)(b:Bool):Prop:=∀(A:Around) (s:Shared) u v,A.units+m<cLine->Rd x s.heap u->Rd y s.heap v->LtAt A s u v b
theorem ltD_int{m:Nat}(a b:Int):LtD m (.int a) (.int b) (decide (a<b)):=fun A s u v _ ru rv=>by
 obtain⟨t,rfl⟩:=rd_int ru;obtain⟨t',rfl⟩:=rd_int rv;exact ltAt_int a b t t'
theorem ltD_str{m:Nat}(a b:Str):LtD m (.str a) (.str b) (decide (a.cps.toList<b.cps.toList)):=fun A s u v _ ru rv=>by
 obtain⟨t,rfl⟩:=rd_str ru;obtain⟨t',rfl⟩:=rd_str rv;exact ltAt_str a b t t'
inductive Lex(m:Nat):List PyData->List PyData->Bool->Prop
 |nilL {ys:List PyData}:Lex m [] ys (decide (0<ys.length))
 |nilR {x:PyData} {xs:List PyData}:Lex m (x::xs) [] false
 |same {x y:PyData} {xs ys:List PyData} {b:Bool} (hx:fine x=true) (hy:fine y=true) (h:PySem.Spec.same x y=true) (r:Lex m xs ys b):Lex m (x::xs) (y::ys) b
 |diff {x y:PyData} {xs ys:List PyData} {b:Bool} (hx:fine x=true) (hy:fine y=true) (h:PySem.Spec.same x y=false) (r:LtD m x y b):Lex m (x::xs) (y::ys) b
theorem eqAt_fine{A:Around}{s:Shared}{x y:PyData}{u v:Value}(hx:fine x=true)(hy:fine y=true)(hu:A.units+100<cLine)(ru:Rd x s.heap u)(rv:Rd y s.heap v):SeqAt.EqAt A s u v (PySem.Spec.same x y):=by
 obtain⟨as,ru⟩:=ru;obtain⟨bs,rv⟩:=rv;intro Z w E Q hQ;refine SeqAt.eqBoolOverData Z w A E s u v x y as bs Q ru rv (clean_lay _ (fine_clean hx)) (clean_lay _ (fine_clean hy)) ?_ (by rw[eqv_same (fine_clean hx) (fine_clean hy)];exact hQ);have h1:x.depth≤64:=by rw[fine,Bool.and_eq_true] at hx;exact of_decide_eq_true hx.2
 have h3:min x.depth y.depth≤x.depth:=Nat.min_le_left _ _;omega
theorem parts_of{m:Nat}{A:Around}{s:Shared}(hu:A.units+100<cLine)(hm:A.units+m<cLine){xs ys:List PyData}{b:Bool}(L:Lex m xs ys b):∀{vs ws:List Value},F2 (fun v d=>Rd d s.heap v) vs xs->F2 (fun v d=>Rd d s.heap v) ws ys->
  ∃d:Nat,(∀j:Nat,j<d->∃u v,vs[j]? =some u∧ws[j]? =some v∧SeqAt.EqAt A s u v true)∧
   ((∃u v,vs[d]? =some u∧ws[d]? =some v∧SeqAt.EqAt A s u v false∧LtAt A s u v b)∨((vs[d]? =none∨ws[d]? =none)∧b=decide (vs.length<ws.length))):=by
 induction L with
 |nilL=>
  intro vs ws f1 f2;cases f1;exact⟨0,fun j h=>by omega,.inr ⟨.inl rfl,by rw[f2.length];rfl⟩⟩
 |nilR=>
  intro vs ws f1 f2;cases f2;exact⟨0,fun j h=>by omega,.inr ⟨.inr rfl,by simp⟩⟩
 |same hx hy h r ih=>
  intro vs ws f1 f2;cases f1 with
  |cons r1 f1=>
  cases f2 with
  |cons r2 f2=>
  obtain⟨d,h1,h2⟩:=ih f1 f2;refine⟨d+1,fun j hj=>?_,?_⟩
  ·cases j with
   |zero=>exact⟨_,_,rfl,rfl,by have:=eqAt_fine hx hy hu r1 r2;rwa [h] at this⟩
   |succ j=>simpa using h1 j (by omega)
  ·simpa using h2
 |diff hx hy h r=>
  intro vs ws f1 f2;cases f1 with
  |cons r1 f1=>
  cases f2 with
  |cons r2 f2=>
  exact⟨0,fun j h=>by omega,.inl ⟨_,_,rfl,rfl,by have:=eqAt_fine hx hy hu r1 r2;rwa [h] at this,r A s _ _ hm r1 r2⟩⟩
theorem ltD_list{m:Nat}{xs ys:List PyData}{b:Bool}(L:Lex m xs ys b)(h100:100≤m):LtD (m+2) (.list xs) (.list ys) b:=fun A s u v hu ru rv=>by
 obtain⟨l,vs,rfl,⟨⟨cls,dd,data,sl⟩,ho,hc,k,hd⟩,f⟩:=rd_list ru;obtain⟨l2,ws,rfl,⟨⟨cls2,dd2,data2,sl2⟩,ho2,hc2,k2,hd2⟩,f2⟩:=rd_list rv;simp only at hc hd hc2 hd2;subst hc hd hc2 hd2;have hin:A.in1.units=A.units+1:=rfl;intro Z w E Q hQ;refine richCompare_meets_room ⟨_,ho,rfl⟩ ⟨_,ho2,rfl⟩ PySem.F.slot_list_lt PySem.F.entry_list_lt (PySem.F.args_list_lt_2 _ _) (meets_list_lt l l2 _ _ k k2 dd dd2 sl sl2 b) ⟨ho,ho2,?_,?_⟩ (by omega)
 ·obtain⟨d,h1,h2⟩:=parts_of (A:=A.in1) (s:=s) (by omega) (by omega) L f f2
  exact⟨d,Nat.zero_le _,fun j _ hj=>by simpa using h1 j hj,by simpa using h2⟩
 ·exact⟨(fun q=>by cases q),hQ⟩
section
variable{Z:Program}{w:World}{A:Around}{R:Result->Shared->Prop}{I S:Addr}{fp wr:List Addr}{N:Nat}{P:Nat->Value->Prop}{St:Nat->Heap->Prop}{bt:Nat->Nat->Bool}{h0:Heap}
def twoOf(v:Value)(c:Nat):Obj:={cls:=.type "list",dict:=none,data:=.seq #[v,v] c,slots:=#[]}
theorem min_turns(W:Walks Z w A.in1 I fp wr N P St)(hcmp:∀i j u v (s:Shared),P i u->P j v->Ext h0 s.heap->LtAt A.in1 s u v (bt i j))(hSf:S∉fp)(hS0:h0.get? S=none)(hw0:∀b∈wr,h0.get? b=none):
  ∀(k j:Nat) (s:Shared) (u:Value) (c:Nat),N - (j+1)=k->j+1≤N->St (j+1) s.heap->P (argBest bt j) u->s.heap.get? S=some (twoOf u c)->Ext h0 s.heap->
   (∀v h' tk,P (argBest bt (N - 1)) v->Ext h0 h'->R (.ok (.ret v)) {s with heap:=h',toks:=tk})->codeAny (model Z w) A (.builtin "min.loop" ⟨[.ref I,.none,.ref S],[]⟩) R s:=by
 have hSw:S∉wr:=fun h=>hSf (W.sub _ h);have keepE:∀{h h':Heap},Ext h0 h->KeepBut wr h h'->Ext h0 h':=fun e k b o q=>k b o (fun m=>by rw[hw0 b m] at q;cases q) (e b o q);have upE:∀{h:Heap} {f:Obj->Obj},Ext h0 h->Ext h0 (h.update S f):=fun e b o q=>(Heap.get?_update_other _ _ (fun m:S=b=>by rw[←m,hS0] at q;cases q)).trans (e b o q);intro k
 induction k with
 |zero=>
  intro j s u c hk hj st pu hS ex hR;have hN:j+1=N:=by omega
  refine codeAny_builtin PySem.F.entry_min_loop ?_;rw[Around.under_plainId PySem.F.plain_min_loop _];show wpAny _ A.in1 (seqItems? (.ref S) >>=_) _ _ s;refine wpAny_bind (wpAny_seqItems hS rfl ?_);show wpAny _ A.in1 (tryCatch (pyNext (.ref I)) _ >>=_) _ _ s;refine wpAny_bind (wpAny_tryCatch (W.done s _ _ (hN▸st) fun h' tk kb=>?_));have hS':h'.get? S=some (twoOf u c):=kb S _ hSw hS;show wpAny _ A.in1 (updateSeq S (fun _=>#[]) >>=_) _ _ _;refine wpAny_bind (wpAny_updateSeq hS' rfl (wpAny_bind (wpAny_letGo (wpAny_pure ?_))));exact hR u _ tk (by rw[←hN];exact pu) (upE (keepE ex kb))
 |succ k ih=>
  intro j s u c hk hj st pu hS ex hR;have hlt:j+1<N:=by omega
  refine codeAny_builtin PySem.F.entry_min_loop ?_;rw[Around.under_plainId PySem.F.plain_min_loop _];show wpAny _ A.in1 (seqItems? (.ref S) >>=_) _ _ s;refine wpAny_bind (wpAny_seqItems hS rfl ?_);show wpAny _ A.in1 (tryCatch (pyNext (.ref I)) _ >>=_) _ _ s;refine wpAny_bind (wpAny_tryCatch (W.item (j+1) s _ _ hlt st fun v h' tk pv st' kb=>?_));have hS':h'.get? S=some (twoOf u c):=kb S _ hSw hS;have ex':Ext h0 h':=keepE ex kb;show wpAny _ A.in1 (tryCatch (holding [v,v] (richCompare .Lt v u >>=_)) _ >>=_) _ _ _;refine wpAny_bind (wpAny_tryCatch (wpAny_holding (wpAny_bind (hcmp (j+1) (argBest bt j) v u {s with heap:=h',toks:=tk} pv pu ex' Z w _ _ ?_))));refine wpAny_bind (wpAny_holding (wpAny_truthy_bool ?_));refine wpAny_bind (wpAny_letGo (wpAny_pure ?_));cases hb:bt (j+1) (argBest bt j) with
  |true=>
   simp only[if_true];refine wpAny_bind (wpAny_updateSeq hS' rfl (wpAny_bind (wpAny_letGo ?_)));refine wpAny_pure ⟨plainId_quiet PySem.F.plain_min_loop _,ih (j+1) _ v c (by omega) hlt (W.frame _ h' _ st' fun b hbf o e=>?_) (by simp only[argBest,hb,if_true];exact pv) (Heap.get?_update_self _ hS' rfl) (upE ex')
    fun v' h'' tk' pv' ex''=>hR v' h'' tk' pv' ex''⟩
   exact(Heap.get?_update_other _ _ (fun h:S=b=>hSf (by rw[h];exact hbf))).trans e
  |false=>
   simp only[Bool.false_eq_true,if_false];refine wpAny_bind (wpAny_letGo ?_);exact wpAny_pure ⟨plainId_quiet PySem.F.plain_min_loop _,ih (j+1) _ u c (by omega) hlt st' (by simp only[argBest,hb,Bool.false_eq_true,if_false];exact pu) hS' ex' fun v' h'' tk' pv' ex''=>hR v' h'' tk' pv' ex''⟩
theorem min_first(W:Walks Z w A.in1 I fp wr N P St)(hcmp:∀i j u v (s:Shared),P i u->P j v->Ext h0 s.heap->LtAt A.in1 s u v (bt i j))(hSf:S∉fp)(hS0:h0.get? S=none)(hw0:∀b∈wr,h0.get? b=none)(hN:0<N)
  {s:Shared}{c:Nat}(st:St 0 s.heap)(hS:s.heap.get? S=some {cls:=.type "list",dict:=none,data:=.seq #[] c,slots:=#[]})(ex:Ext h0 s.heap)
  (hR:∀v h' tk,P (argBest bt (N - 1)) v->Ext h0 h'->R (.ok (.ret v)) {s with heap:=h',toks:=tk}):codeAny (model Z w) A (.builtin "min.loop" ⟨[.ref I,.none,.ref S],[]⟩) R s:=by
 have hSw:S∉wr:=fun h=>hSf (W.sub _ h);refine codeAny_builtin PySem.F.entry_min_loop ?_;rw[Around.under_plainId PySem.F.plain_min_loop _];show wpAny _ A.in1 (seqItems? (.ref S) >>=_) _ _ s;refine wpAny_bind (wpAny_seqItems hS rfl ?_);show wpAny _ A.in1 (tryCatch (pyNext (.ref I)) _ >>=_) _ _ s;refine wpAny_bind (wpAny_tryCatch (W.item 0 s _ _ hN st fun v h' tk pv st' kb=>?_));have hS':=kb S _ hSw hS;show wpAny _ A.in1 (updateSeq S (fun _=>#[v,v]) >>=_) _ _ _;refine wpAny_bind (wpAny_updateSeq hS' rfl ?_);have ex':Ext h0 h':=fun b o q=>kb b o (fun m=>by rw[hw0 b m] at q;cases q) (ex b o q);refine wpAny_pure ⟨plainId_quiet PySem.F.plain_min_loop _,min_turns W hcmp hSf hS0 hw0 _ 0 _ v _ rfl hN (W.frame _ h' _ st' fun b hbf o e=>?_) pv (Heap.get?_update_self _ hS' rfl) (fun b o q=>?_) fun v' h'' tk' pv' ex''=>hR v' h'' tk' pv' ex''⟩
 ·exact(Heap.get?_update_other _ _ (fun h:S=b=>hSf (by rw[h];exact hbf))).trans e
 ·exact(Heap.get?_update_other _ _ (fun m:S=b=>by rw[←m,hS0] at q;cases q)).trans (ex' b o q)
end
theorem fn_min{ds:List PyData}{bt:Nat->Nat->Bool}{d:PyData}(hn:0<ds.length)(hlt:∀i j x y,ds[i]? =some x->ds[j]? =some y->LtD 150 x y (bt i j))(hd:ds[argBest bt (ds.length - 1)]? =some d):
  FnP Z w H0 (n+1) (.builtin "min") [.d (.list ds)] (Rd d):=by
 intro A s η vs g B hm
 match vs,hm with
 |[v],⟨m,_⟩=>
 refine call_function_tree PySem.F.kind_min PySem.F.plain_min PySem.F.entry_min (PySem.F.args_min1 _) ?_;show wpAny _ A.in1 (Builtin.Builtins.bindParams "min" ["key","default"] 0 ⟨[],[]⟩ >>=_) _ _ s;refine wpAny_bind (wpAny_of_eq (show Builtin.Builtins.bindParams "min" ["key","default"] 0 ⟨[],[]⟩=pure [none,none] from rfl) ?_);refine wpAny_bind (wpAny_pure ?_);refine wpAny_bind (wpAny_mono (src_list (Z:=Z) (w:=w) (H0:=H0) (n:=n) A.in1 s η v g.in1 B m) (fun it s2 q=>?_) fun _ _ f=>f.elim);obtain⟨I,fp,wr,St,h2,t2,rfl,rfl,ex2,SS,st0,fresh,fps⟩:=q;refine wpAny_bind (wpAny_newObj_type ?_);have hSf:h2.objs.size∉fp:=fun hm=>let⟨_,q⟩:=(fps _ hm).1;Nat.lt_irrefl _ (Heap.lt_size q);refine wpAny_pure ⟨plainId_quiet PySem.F.plain_min_loop _,min_first (bt:=bt) (h0:=s.heap) (N:=ds.length) (by have:=SS.walk;rwa [length_map] at this) (fun i j u v s' pu pv ex=>?_) hSf ?_ fresh hn (SS.walk.frame _ _ _ st0 fun b _ o e=>Heap.get?_push_of_some _ e) (Heap.get?_push_size _ rfl) (fun b o e=>Heap.get?_push_of_some _ (ex2 b o e)) fun v h' tk pv ex=>?_⟩
 ·obtain⟨e1,a1,b1⟩:=pu
  obtain⟨e2,a2,b2⟩:=pv;rw[getElem?_map] at a1 a2;cases c1:ds[i]? with
  |none=>rw[c1] at a1;cases a1
  |some x=>
  cases c2:ds[j]? with
  |none=>rw[c2] at a2;cases a2
  |some y=>
  rw[c1] at a1;rw[c2] at a2;cases a1;cases a2;exact hlt i j x y c1 c2 A.in1 s' u v (by have:=g.units (k:=200) (Nat.le_refl _);show A.units+1+150<_;omega) (Rd.ext b1 fun b o e=>ex b o (vis_inv e).1) (Rd.ext b2 fun b o e=>ex b o (vis_inv e).1)
 ·cases q:s.heap.get? h2.objs.size with
  |none=>rfl
  |some o=>exact absurd (Heap.lt_size (ex2 _ _ q)) (Nat.lt_irrefl _)
 ·obtain⟨e1,a1,b1⟩:=pv
  rw[getElem?_map,hd] at a1;cases a1;exact⟨h',tk,rfl,ex,b1.ext (vis_ext η ex)⟩
theorem has_min(hg:GIs H0 "min" (.builtin "min")){ds:List PyData}{bt:Nat->Nat->Bool}{d:PyData}(hn:0<ds.length)(hlt:∀i j x y,ds[i]? =some x->ds[j]? =some y->LtD 150 x y (bt i j))(hd:ds[argBest bt (ds.length - 1)]? =some d):
  Has Z w H0 "min" (n+1) [.d (.list ds)] (Rd d):=⟨_,hg,callee_builtin,fn_min hn hlt hd⟩
theorem preSum_list:∀(ks:List Int) (val:Nat->Int),(∀i k,ks[i]? =some k->val i=k)->∀m,m≤ks.length->preSum val m=(ks.take m).sum
 |ks,val,h,0,_=>by simp[preSum]
 |ks,val,h,m+1,hm=>by
  have hlt:m<ks.length:=by omega
  rw[preSum,preSum_list ks val h m (by omega),List.take_succ_eq_append_getElem hlt,sum_append,h m _ (getElem?_eq_getElem hlt)];simp
theorem fn_sum{ks:List Int}:FnP Z w H0 (n+1) (.builtin "sum") [.d (.list (ks.map .int))] (Rd (.int ks.sum)):=by
 intro A s η vs g B hm
 match vs,hm with
 |[v],⟨m,_⟩=>
 refine call_sum_walkG (wpAny_mono (src_list (Z:=Z) (w:=w) (H0:=H0) (n:=n) A.in1 s η v g.in1 B m) (fun it s2 q=>?_) fun _ _ f=>f.elim);obtain⟨I,fp,wr,St,h2,t2,rfl,rfl,ex2,SS,st0,fresh,fps⟩:=q;refine⟨I,fp,wr,ks.length,_,St,fun i=>(ks[i]?).getD 0,rfl,by have:=SS.walk;rwa [length_map,length_map] at this,st0,fun b hb=>let⟨_,q⟩:=(fps b hb).1;Heap.lt_size q,fun i v p=>?_,fun h' tk t' kb=>?_⟩
 ·obtain⟨e,a,b⟩:=p
  rw[getElem?_map,getElem?_map] at a;cases c:ks[i]? with
  |none=>rw[c] at a;cases a
  |some k=>
   rw[c] at a;cases a;obtain⟨t,rfl⟩:=rd_int b;exact⟨t,by simp[c]⟩
 ·have ex:Ext s.heap h':=fun b o e=>kb b o (fun m=>by rw[fresh b m] at e;cases e) (ex2 b o e)
  rw[preSum_list ks _ (fun i k h=>by rw[h];rfl) _ (Nat.le_refl _),take_length];exact⟨h',tk,rfl,ex,int_rd _ _ _⟩
theorem has_sum(hg:GIs H0 "sum" (.builtin "sum")){ks:List Int}:Has Z w H0 "sum" (n+1) [.d (.list (ks.map .int))] (Rd (.int ks.sum)):=⟨_,hg,callee_builtin,fn_sum⟩
theorem ev_lower{value:Expr}{pa pos:Pos}{x:Str}(hv:EvE Z w H0 n sc σ δ value (.d (.str x)))(hfit:Builtin.Str.tooLong (Txt.lower x).length=false)(hbase:∀V,attributeBase value "lower" V (eval value V)=eval value V)(hline:(pa.endLine==pos.line)=true):
  EvE Z w H0 n sc σ δ (.Call (.Attribute value "lower" pa) [] [] pos) (.d (.str (Txt.lower x))):=by
 intro A V s η g o F;refine Call_method0 (hbase _) hline (seqP (hv A V s η g o F) fun v s₁ q=>?_);obtain⟨t,rfl⟩:=rd_str q.val;exact SB.lower hfit (q.trans (Pu.tok (str_rd _ _ _)))
def isLetter(c:Nat):Prop:=c=97∨c=65∨c=98
def lowC(c:Nat):Nat:=if c==65 then 97 else c
def priceC(a b:Nat):Int:=if a==b then 0 else if lowC a==lowC b then 1 else 2
def minI(ps:List Int):Int:=(ps[argBest (fun i j=>decide ((ps[i]?).getD 0<(ps[j]?).getD 0)) (ps.length - 1)]?).getD 0
def lettersOf(one two:List Nat):List (Nat×Nat):=
 if one.length<two.length then one.flatMap fun a=>two.map fun b=>(a,b) else if two.length<one.length then two.flatMap fun a=>one.map fun b=>(a,b) else one.zip two
def priceF(one two:List Nat):Int:=
 let ps:=(lettersOf one two).map fun p=>priceC p.1 p.2
 if one.length<two.length∨two.length<one.length then 2+minI ps else ps.sum
def dLetters(ps:List (Nat×Nat)):PyData:=.list (ps.map fun p=>.list [.str (sg p.1),.str (sg p.2)])
theorem lower_sg{c:Nat}(h:isLetter c):Txt.lower (sg c)=sg (lowC c)∧Builtin.Str.tooLong (Txt.lower (sg c)).length=false:=by
 rcases h with rfl|rfl|rfl<;> constructor<;> decide +kernel
theorem letter_lt{c:Nat}(h:isLetter c):c<128:=by rcases h with rfl|rfl|rfl<;> decide
theorem letters_sign{l:List Nat}(h:∀c∈l,isLetter c):signOk l:=fun c hc=>letter_lt (h c hc)
theorem len_tx{l:List Nat}:(tx l).length=l.length:=by simp[tx,Str.length]
theorem signsD_tx{l:List Nat}:signsD (tx l)=l.map fun c=>.str (sg c):=by simp[signsD,tx]
theorem argBest_le(bt:Nat->Nat->Bool):∀m,argBest bt m≤m
 |0=>Nat.le_refl _
 |m+1=>by
  rw[argBest];split
  ·exact Nat.le_refl _
  ·exact Nat.le_succ_of_le (argBest_le bt m)
theorem has_minI(hg:GIs H0 "min" (.builtin "min")){ps:List Int}(hn:0<ps.length):HasD Z w H0 "min" (n+1) [.list (ps.map .int)] (.int (minI ps)):=by
 refine has_min hg (bt:=fun i j=>decide ((ps[i]?).getD 0<(ps[j]?).getD 0)) (by rwa [length_map]) (fun i j x y h1 h2=>?_) ?_
 ·rw[getElem?_map] at h1 h2
  cases c1:ps[i]? with
  |none=>rw[c1] at h1;cases h1
  |some k1=>
  cases c2:ps[j]? with
  |none=>rw[c2] at h2;cases h2
  |some k2=>
  rw[c1] at h1;rw[c2] at h2;cases h1;cases h2;exact ltD_int k1 k2
 ·rw[length_map,getElem?_map]
  have hlt:argBest (fun i j=>decide ((ps[i]?).getD 0<(ps[j]?).getD 0)) (ps.length - 1)<ps.length:=by
   have:=argBest_le (fun i j=>decide ((ps[i]?).getD 0<(ps[j]?).getD 0)) (ps.length - 1);omega
  rw[getElem?_eq_getElem hlt,minI,getElem?_eq_getElem hlt]
  rfl
theorem ev_len_tx(hlen:GIs H0 "len" (.builtin "len")){l:List Nat}{e:Expr}{p pos:Pos}(hz:l.length≤1000)(h:EvE Z w H0 n sc σ δ e (.d (.str (tx l))))(hgl:globOk sc "len"=true)(hb:∀V,backTo pos (starEach [e] V)=[(false,eval e V)]):
  EvE Z w H0 n sc σ δ (.Call (.Name "len" p) [e] [] pos) (.d (.int l.length)):=by
 have:=ev_has (pos:=pos) (p:=p) (has_len_str (Z:=Z) (w:=w) (n:=n) hlen (x:=tx l) (size_le (by rw[len_tx];omega))) (Nat.le_refl _) hgl (evs_1 h hb) (fun V=>by rw[hb];rfl);rwa [len_tx] at this
theorem price_body(hlen:GIs H0 "len" (.builtin "len"))(hmin:GIs H0 "min" (.builtin "min"))(hsum:GIs H0 "sum" (.builtin "sum"))(hzip:GIs H0 "zip" (.type "zip")){one two:List Nat}
  (h1:∀c∈one,isLetter c)(h2:∀c∈two,isLetter c)(z1:one.length≤2)(z2:two.length≤2)(p1:1≤one.length)(p2:1≤two.length):
  ExP Z w H0 (n+1) (scopeOf (stm 26)) [(S "one",.d (.str (tx one))),(S "two",.d (.str (tx two)))] [] (bodyOf (stm 26)) (.ret (.d (.int (priceF one two)))):=by
 generalize hs:(if one.length<two.length then one else two)=short;generalize hg:(if one.length<two.length then two else one)=long;have hsl:∀c∈short,isLetter c:=by rw[←hs];split<;> assumption
 have hll:∀c∈long,isLetter c:=by rw[←hg];split<;> assumption
 have zs:short.length≤2:=by rw[←hs];split<;> assumption
 have zl:long.length≤2:=by rw[←hg];split<;> assumption
 have cast:∀a b:Nat,decide ((a:Int)<b)=decide (a<b):=fun a b=>by simp
 refine ex_cons (σ':=[(S "long",.d (.str (tx long))),(S "short",.d (.str (tx short)))]++[(S "one",.d (.str (tx one))),(S "two",.d (.str (tx two)))])
  (st_assign (x:=.d (.tuple [.str (tx short),.str (tx long)])) (bs:=[(S "long",.d (.str (tx long))),(S "short",.d (.str (tx short)))]) ?_ (as_two (b1:=[(S "short",.d (.str (tx short)))]) (b2:=[(S "long",.d (.str (tx long)))]) unp_tuple (as_name (settable_of)) (as_name (settable_of)) fun _=>rfl) (fun _ _=>rfl) (fun _ _=>rfl) fun _=>rfl) ?_
 ·have e:PyData.tuple [.str (tx short),.str (tx long)]=if decide ((one.length:Int)<two.length) then PyData.tuple [.str (tx one),.str (tx two)] else PyData.tuple [.str (tx two),.str (tx one)]:=by
   rw[←hs,←hg,cast]
   by_cases q:one.length<two.length<;> simp[q]
  rw[e];refine ev_ifd (tr_cmp (ev_len_tx hlen (by omega) (ev_var rfl) (by decide +kernel) fun _=>rfl) (ev_len_tx hlen (by omega) (ev_var rfl) (by decide +kernel) fun _=>rfl) op_ltI rfl) (fun _=>?_) fun _=>?_
  ·exact ev_tuple (ds:=[.str _,.str _]) (evs_2 (ev_var rfl) (ev_var rfl) (fun _=>rfl) fun _=>rfl) (size_le (by simp))
  ·exact ev_tuple (ds:=[.str _,.str _]) (evs_2 (ev_var rfl) (ev_var rfl) (fun _=>rfl) fun _=>rfl) (size_le (by simp))
 generalize hσ:([(S "long",.d (.str (tx long))),(S "short",.d (.str (tx short)))]++[(S "one",.d (.str (tx one))),(S "two",.d (.str (tx two)))]:Sto)=σ;have vl:∀pos,EvE Z w H0 (n+1) (scopeOf (stm 26)) σ [] (.Name "long" pos) (.d (.str (tx long))):=fun pos=>by subst hσ;exact ev_var rfl
 have vs:∀pos,EvE Z w H0 (n+1) (scopeOf (stm 26)) σ [] (.Name "short" pos) (.d (.str (tx short))):=fun pos=>by subst hσ;exact ev_var rfl
 refine ex_cons (σ':=[(S "letters",.d (dLetters (lettersOf one two)))]++σ) (st_assign (x:=.d (dLetters (lettersOf one two))) ?_ (as_name (settable_of)) (fun _ _=>rfl) (fun _ _=>rfl) fun _=>rfl) ?_
 ·have e:dLetters (lettersOf one two)=if decide ((short.length:Int)<long.length) then dLetters (short.flatMap fun a=>long.map fun b=>(a,b)) else dLetters (one.zip two):=by
   rw[←hs,←hg,cast,lettersOf]
   by_cases q:one.length<two.length
   ·simp[q]
   ·by_cases q':two.length<one.length<;> simp[q,q']
  rw[e];refine ev_ifd (tr_cmp (ev_len_tx hlen (by omega) (vs _) (by decide +kernel) fun _=>rfl) (ev_len_tx hlen (by omega) (vl _) (by decide +kernel) fun _=>rfl) op_ltI rfl) (fun _=>?_) fun q=>?_
  ·have e2:dLetters (short.flatMap fun a=>long.map fun b=>(a,b))=.list (short.flatMap fun a=>long.filterMap fun b=>some (.list [.str (sg a),.str (sg b)])):=by
    unfold dLetters;rw[List.map_flatMap]
    congr 2
    funext a
    rw[filterMap_eq_map',map_map];rfl
   rw[e2];refine ev_lc2 (items:=short) (enc:=fun a=>.d (.str (sg a))) (items2:=fun _=>long) (enc2:=fun _ b=>.d (.str (sg b))) (F:=fun a b=>some (.list [.str (sg a),.str (sg b)])) (xs1:=[S "a"]) (xs2:=[S "b"])
    (.inl ⟨_,_,rfl⟩) (.inl ⟨_,_,rfl⟩) (by decide +kernel) (by decide +kernel) (fun _ _=>rfl) (fun _ _=>rfl) (vs _) (by have:=src_str (Z:=Z) (w:=w) (H0:=H0) (n:=n+1) (ascii_tx (letters_sign hsl));rwa [signsD_tx,map_map] at this) ?_ fun a ha=>?_
   ·refine size_le ?_
    have:(short.map fun _=>long.length).sum≤4:=by
     match short,zs with
     |[],_=>simp
     |[_],_=>simp;omega
     |[_,_],_=>simp;omega
    omega
   ·refine⟨[(S "a",.d (.str (sg a)))],.d (.str (tx long)),as_name (settable_of),rfl,?_,?_,?_,fun b hb=>?_⟩
    ·intro y hy;rw[mem_singleton.mp hy];subst hσ;rfl
    ·subst hσ;exact ev_var rfl
    ·have:=src_str (Z:=Z) (w:=w) (H0:=H0) (n:=n+1) (ascii_tx (letters_sign hll));rwa [signsD_tx,map_map] at this
    ·refine⟨[(S "b",.d (.str (sg b)))],true,as_name (settable_of),rfl,?_,ifs_nil,fun _=>⟨_,rfl,?_⟩,fun h=>by cases h⟩
     ·intro y hy;rw[mem_singleton.mp hy];subst hσ;rfl
     ·subst hσ
      exact ev_list (ds:=[.str (sg a),.str (sg b)]) (evs_2 (ev_var rfl) (ev_var rfl) (fun _=>rfl) fun _=>rfl) (size_le (by simp))
  ·have el:one.length=two.length:=by
    have q2:¬short.length<long.length:=by rw[cast] at q;simpa using q
    rw[←hs,←hg] at q2
    by_cases c:one.length<two.length
    ·rw[if_pos c,if_pos c] at q2;omega
    ·rw[if_neg c,if_neg c] at q2;omega
   have e2:dLetters (one.zip two)=.list ((dPairs one two).filterMap fun p=>some (.list [p.1,p.2])):=by
    unfold dLetters dPairs;rw[filterMap_eq_map',map_map];rfl
   rw[e2];refine ev_lcI (xs:=[S "b",S "a"]) _ (.inr ⟨_,_,_,rfl⟩) (by decide +kernel) (by decide +kernel) (fun _ _=>rfl) (it_zip (ev_gl hzip) (evs_2 (by subst hσ;exact ev_var rfl) (by subst hσ;exact ev_var rfl) (fun _=>rfl) fun _=>rfl) el (letters_sign h1) (letters_sign h2) fun _=>rfl) (size_le (by simp[dPairs];omega)) fun p hp=>?_;refine⟨_,true,as_two (b1:=[(S "a",.d p.1)]) (b2:=[(S "b",.d p.2)]) unp_tuple (as_name (settable_of)) (as_name (settable_of)) (fun _=>rfl),rfl,fun y hy=>?_,ifs_nil,fun _=>⟨_,rfl,?_⟩,fun h=>by cases h⟩
   ·subst hσ
    rcases mem_cons.mp hy with rfl|hy
    ·rfl
    ·rw[mem_singleton.mp hy];rfl
   ·subst hσ
    exact ev_list (ds:=[p.1,p.2]) (evs_2 (ev_var rfl) (ev_var rfl) (fun _=>rfl) fun _=>rfl) (size_le (by simp))
 generalize hL:lettersOf one two=L;have hLl:∀p∈L,isLetter p.1∧isLetter p.2:=fun p hp=>by
  rw[←hL] at hp;unfold lettersOf at hp;split at hp
  ·obtain⟨a,ha,hb⟩:=mem_flatMap.mp hp
   obtain⟨b,hb',rfl⟩:=mem_map.mp hb;exact⟨h1 a ha,h2 b hb'⟩
  ·split at hp
   ·obtain⟨a,ha,hb⟩:=mem_flatMap.mp hp
    obtain⟨b,hb',rfl⟩:=mem_map.mp hb;exact⟨h2 a ha,h1 b hb'⟩
   ·obtain⟨a,b⟩:=p
    have:=of_mem_zip hp;exact⟨h1 a this.1,h2 b this.2⟩
 have zL:L.length≤4∧1≤L.length:=by
  rw[←hL]
  match one,two,z1,z2,p1,p2 with
  |[_],[_],_,_,_,_=>simp[lettersOf]
  |[_],[_,_],_,_,_,_=>simp[lettersOf]
  |[_,_],[_],_,_,_,_=>simp[lettersOf]
  |[_,_],[_,_],_,_,_,_=>simp[lettersOf]
 refine ex_cons (st_assign_lc (items:=L) (enc:=fun p=>.d (.list [.str (sg p.1),.str (sg p.2)])) (fun p=>some (.int (priceC p.1 p.2))) (xs:=[S "b",S "a"]) (x:=.d (dLetters L)) (.inr ⟨_,_,_,rfl⟩) (by decide +kernel) (by decide +kernel) (fun _ _=>rfl) (fun V o=>by have q:=o.scope;cases V;simp only at q;subst q;rfl) (settable_of) (ev_var rfl)
  (by have:=src_list (Z:=Z) (w:=w) (H0:=H0) (n:=n+1) (ds:=L.map fun p=>.list [.str (sg p.1),.str (sg p.2)]);rw[map_map] at this;exact this) (size_le (by omega)) fun p hp=>?_) ?_
 ·refine⟨_,true,as_two (b1:=[(S "a",.d (.str (sg p.1)))]) (b2:=[(S "b",.d (.str (sg p.2)))]) (unp_list (ds:=[.str (sg p.1),.str (sg p.2)])) (as_name (settable_of)) (as_name (settable_of)) (fun _=>rfl),rfl,fun y hy=>?_,ifs_nil,fun _=>⟨_,rfl,?_⟩,fun h=>by cases h⟩
  ·subst hσ
   rcases mem_cons.mp hy with rfl|hy
   ·rfl
   ·rw[mem_singleton.mp hy];rfl
  ·subst hσ
   have la:=lower_sg (hLl p hp).1;have lb:=lower_sg (hLl p hp).2;have e:PyData.int (priceC p.1 p.2)=if sg p.1==sg p.2 then PyData.int 0 else if Txt.lower (sg p.1)==Txt.lower (sg p.2) then PyData.int 1 else PyData.int 2:=by
    rw[la.1,lb.1,sg_beq,sg_beq,priceC];split
    ·rfl
    ·split<;> rfl
   rw[e];refine ev_ifd (tr_cmp (ev_var rfl) (ev_var rfl) op_eqS rfl) (fun _=>ev_int) fun _=>?_;exact ev_ifd (tr_cmp (ev_lower (ev_var rfl) la.2 (fun _=>rfl) (by decide +kernel)) (ev_lower (ev_var rfl) lb.2 (fun _=>rfl) (by decide +kernel)) op_eqS rfl) (fun _=>ev_int) fun _=>ev_int
 have ep:L.filterMap (fun p=>some (PyData.int (priceC p.1 p.2)))=(L.map fun p=>priceC p.1 p.2).map .int:=by
  rw[filterMap_eq_map',map_map];rfl
 rw[ep];have e:PyData.int (priceF one two)=if decide ((short.length:Int)<long.length) then PyData.int (2+minI (L.map fun p=>priceC p.1 p.2)) else PyData.int (L.map fun p=>priceC p.1 p.2).sum:=by
  rw[←hs,←hg,cast,priceF,hL]
  by_cases q:one.length<two.length
  ·simp[q]
  ·by_cases q':two.length<one.length<;> simp[q,q']
 rw[e];subst hσ;refine ex_ret (st_return (ev_ifd (tr_cmp (ev_len_tx hlen (by omega) (ev_var rfl) (by decide +kernel) fun _=>rfl) (ev_len_tx hlen (by omega) (ev_var rfl) (by decide +kernel) fun _=>rfl) op_ltI rfl) (fun _=>?_) fun _=>?_))
 ·exact ev_bin ev_int (ev_has (has_minI (n:=n) hmin (by rw[length_map];omega)) (Nat.le_refl _) (by decide +kernel) (evs_1 (ev_var rfl) fun _=>rfl) fun _=>rfl) op_addI
 ·exact ev_has (has_sum (n:=n) hsum) (Nat.le_refl _) (by decide +kernel) (evs_1 (ev_var rfl) fun _=>rfl) fun _=>rfl
section
variable(Z:Program)(w:World)
abbrev skd:=PySem.strKind Z w
def MapAt(g h:Heap)(d:Addr)(kvs:List (Str×PyData)):Prop:=
 (d==sysModules)=false∧∃vs,h.DictOf (skd Z w) d vs∧F2 (fun(v:Str×Value) (p:Str×PyData)=>v.1=p.1∧Rd p.2 g v.2) vs kvs
theorem MapAt.move{g g' h h':Heap}{d:Addr}{kvs:List (Str×PyData)}(hd:∀o,h.get? d=some o->h'.get? d=some o)(x:Ext g g')(m:MapAt Z w g h d kvs):MapAt Z w g' h' d kvs:=by
 obtain⟨n,vs,⟨o,es,ep,ho,r⟩,f⟩:=m;exact⟨n,vs,⟨o,es,ep,hd o ho,r⟩,f.imp fun _ _ q=>⟨q.1,q.2.ext x⟩⟩
def IsMap(kvs:List (Str×PyData))(g:Heap)(v:Value):Prop:=∃d,v=.ref d∧MapAt Z w g g d kvs
def dMap(kvs:List (Str×PyData)):Ent:=.p (IsMap Z w kvs) fun g g' v x ⟨d,e,m⟩=>⟨d,e,m.move Z w (fun o q=>x _ _ q) x⟩
def mapK:AccK (List (Str×PyData)) where
 R:=fun h η D kvs=>MapAt Z w (vis h η) h D kvs
 move:=fun hD x m=>m.move Z w hD x
 alive:=fun⟨_,vs,⟨o,es,ep,e,_⟩,_⟩=>⟨o,e⟩
end
theorem newAcc_map(hm:∃o,H0.get? mainGlobals=some o):NewAcc Z w H0 (mapK Z w) newDict []:=fun A s x=>wpAny_newObj_type ⟨_,rfl,rfl,rfl,fun η=>⟨by
 obtain⟨o,e⟩:=hm;have h1:=Heap.lt_size (x _ _ e);have h2:(1:Nat)<mainGlobals:=by decide
 have h3:(1:Nat)<s.heap.objs.size:=Nat.lt_trans h2 h1;have h4:s.heap.objs.size≠sysModules:=fun q=>by
  have:sysModules=(1:Nat):=rfl;rw[q,this] at h3;exact Nat.lt_irrefl _ h3
 simpa using h4,[],Heap.DictOf.new _,.nil⟩⟩
theorem form_dc1{kx vx target iter:Expr}{ifs:List Expr}{scope:Scope}{pos:Pos}(ht:(∃y p,target=.Name y p)∨∃es k p,target=.Tuple es k p):
  CompForm (.DictComp kx vx [⟨target,iter,ifs,0⟩] scope pos) 0 ⟨target,iter,ifs,0⟩ (fun V acc=>do
   let kv ←eval kx V
   let vv ←holding [kv] (eval vx V)
   match acc with
   |.ref d=>do
    standAt {kx.pos with endLine:=vx.pos.endLine,endCol:=vx.pos.endCol}
    holding [kv,vv] (dictSet d kv vv)
   |_=>unsupported "internal:dictcomp") where
 clause:=rfl
 sync:=rfl
 turn:=fun _ _ _=>rfl
 fr1:=fun _ _ _=>rfl
 q1:=fun _ _ _=>rfl
 un1:=fun A _ _ _=>Around.under_of_weight rfl rfl
 fr2:=fun _ _ _=>rfl
 q2:=fun _ _ _=>rfl
 un2:=fun A _ _ _=>Around.under_of_weight rfl rfl
 targets:=ht
theorem stored_new{kvs:List (Str×Value)}{k:Str}{v:Value}(h:k∉kvs.map (·.1)):stored kvs k v=kvs++[(k,v)]:=by
 unfold stored;rw[if_neg];intro q;obtain⟨p,hp,e⟩:=any_eq_true.mp q;exact h (mem_map.mpr ⟨p,hp,by simpa using e⟩)
theorem f2_keys{g:Heap}:∀{vs:List (Str×Value)} {kvs:List (Str×PyData)},F2 (fun(v:Str×Value) (p:Str×PyData)=>v.1=p.1∧Rd p.2 g v.2) vs kvs->vs.map (·.1)=kvs.map (·.1)
 |_,_,.nil=>rfl
 |_,_,.cons a r=>by rw[map_cons,map_cons,a.1,f2_keys r]
theorem store_CoP{kx vx:Expr}{xs:List Str}{b:List (Str×PyData)}{k:Str}{d:PyData}(hk:EvE Z w H0 n sc σ δ kx (.d (.str k)))(hv:EvE Z w H0 n sc σ δ vx (.d d))(hn:k∉b.map (·.1))(hz:b.length≤sizeLine):
  CoP Z w H0 n sc σ δ xs (mapK Z w) (fun V acc=>do
   let kv ←eval kx V
   let vv ←holding [kv] (eval vx V)
   match acc with
   |.ref d=>do
    standAt {kx.pos with endLine:=vx.pos.endLine,endCol:=vx.pos.endCol}
    holding [kv,vv] (dictSet d kv vv)
   |_=>unsupported "internal:dictcomp") b (b++[(k,d)]):=by
 intro A V s η D g o F hD hoff hK;refine wpAny_bind (seqP (hk A V s η g o F) fun u s₁ q=>wpAny_bind (wpAny_holding (seqP (hv A V s₁ η g o (F.ext q.ext)) fun v s2 q2=>?_)));obtain⟨h2,t2,e2,ex,r⟩:=q.trans q2;have ru:=q.val;obtain⟨t,rfl⟩:=rd_str ru;subst e2;obtain⟨nd,vs,hl,f⟩:=MapAt.move Z w (fun o e=>ex _ _ e) (vis_ext η ex) hK;refine wpAny_bind (wpAny_standAt (wpAny_holding (wpAny_dictSet_pairs (knd:=skd Z w) (k:=k) (by show Value.isStrOf k (.str k t)=true;simp[Value.isStrOf]) hl (fun h₃ hl3 hs=>?_) (by rw[f.length];exact hz))));have k3:=sameBut_keep hs;have vk:Ext (vis h2 η) (vis h₃ η):=vis_keepBut (fun a m=>by rw[mem_singleton.mp m];exact hD) k3;rw[stored_new (by rw[f2_keys f];exact hn)] at hl3;refine⟨h₃,t2+1,rfl,(ex.keep _).trans (k3.more fun a m=>by rw[mem_singleton.mp m];exact mem_cons_self),?_,?_⟩
 ·refine(F.ext ex).keepBut k3 (fun a m=>by rw[mem_singleton.mp m];exact hD) (fun a m=>by rw[mem_singleton.mp m];exact⟨hoff.1,hoff.2.1,hoff.2.2⟩) (fun a m=>?_)
  rw[mem_singleton.mp m];obtain⟨oo,es,ep,e,_⟩:=hl3;exact⟨oo,e⟩
 ·exact⟨nd,vs++[(k,v)],hl3,(f.imp fun _ _ q=>⟨q.1,q.2.ext vk⟩).append (.cons ⟨rfl,r.ext vk⟩ .nil)⟩
def TurnDC{α:Type}(Z:Program)(w:World)(H0:Heap)(n:Nat)(sc:Scope)(σ:Sto)(δ:Led)(target:Expr)(kx vx:Expr)(xs:List Str)(enc:α->Ent)(F:α->Str×PyData)(a:α):Prop:=
 ∃bs,AsP Z w H0 n sc target (enc a) bs∧bs.map (·.1)=xs∧(∀y∈xs,σ.lookup y=none)∧EvE Z w H0 n sc (bs++σ) δ kx (.d (.str (F a).1))∧EvE Z w H0 n sc (bs++σ) δ vx (.d (F a).2)
theorem turnsP_dc{α:Type}{items:List α}{enc:α->Ent}{F:α->Str×PyData}{target iter kx vx:Expr}{xs:List Str}(hz:items.length≤sizeLine)(hnd:(items.map fun a=>(F a).1).Nodup)
  (turn:∀a∈items,TurnDC Z w H0 n sc σ δ target kx vx xs enc F a):
  TurnsP Z w H0 n sc σ δ ⟨target,iter,[],0⟩ (fun V acc=>do
   let kv ←eval kx V
   let vv ←holding [kv] (eval vx V)
   match acc with
   |.ref d=>do
    standAt {kx.pos with endLine:=vx.pos.endLine,endCol:=vx.pos.endCol}
    holding [kv,vv] (dictSet d kv vv)
   |_=>unsupported "internal:dictcomp") xs (mapK Z w) (items.map enc) (fun i=>(items.take i).map F):=by
 intro i x hx;rw[getElem?_map] at hx;cases ha:items[i]? with
 |none=>rw[ha] at hx;simp at hx
 |some a=>
  rw[ha] at hx;simp at hx;subst hx;obtain⟨bs,h1,h2,h3,h4,h5⟩:=turn a (mem_of_getElem? ha);have e:(items.take (i+1)).map F=(items.take i).map F++[((F a).1,(F a).2)]:=by
   rw[take_add_one,ha,map_append];rfl
  have hlen:((items.take i).map F).length≤sizeLine:=by
   rw[length_map,length_take];omega
  have hnot:(F a).1∉((items.take i).map F).map (·.1):=by
   intro m;rw[map_map] at m;obtain⟨j,hj,e1⟩:=List.mem_iff_getElem.mp m;simp only[length_map,length_take] at hj;rw[List.getElem_map,List.getElem_take] at e1;have hi:=(List.getElem?_eq_some_iff.mp ha);have hji:j<i:=by omega
   have hlt:=hi.1;have:=List.pairwise_iff_getElem.mp hnd j i (by rw[length_map];omega) (by rw[length_map];exact hlt) hji;rw[List.getElem_map,List.getElem_map] at this;apply this;rw[hi.2];exact e1
  refine⟨bs,true,h1,fun y hy=>by rw[←h2];exact hy,fun y hy=>h3 y (by rw[←h2];exact hy),ifs_nil,fun _=>?_,fun h=>by cases h⟩;show CoP _ _ _ _ _ _ _ _ _ _ _ ((items.take (i+1)).map F);rw[e];exact store_CoP h4 h5 hnot hlen
theorem ev_dc{α:Type}{items:List α}{enc:α->Ent}(F:α->Str×PyData){target iter kx vx:Expr}{scope:Scope}{pos:Pos}{xs:List Str}{x:Ent}(hmg:∃o,H0.get? mainGlobals=some o)(ht:(∃y p,target=.Name y p)∨∃es k p,target=.Tuple es k p)
  (hok:compOk sc scope=true)(hxs:∀x∈xs,scope.names.lookup x=some .local∨scope.names.lookup x=some .cell)(hs:∀V x,foldedSetIterable iter V x=pure x)
  (hi:EvE Z w H0 n sc σ δ iter x)(hsrc:SrcV Z w H0 n x (items.map enc))(hz:items.length≤sizeLine)(hnd:(items.map fun a=>(F a).1).Nodup)
  (turn:∀a∈items,TurnDC Z w H0 n (scIn sc scope) (stoIn scope σ) δ target kx vx xs enc F a):EvE Z w H0 n sc σ δ (.DictComp kx vx [⟨target,iter,[],0⟩] scope pos) (dMap Z w (items.map F)):=by
 refine ev_comp (K:=mapK Z w) (fun i=>(items.take i).map F) (form_dc1 ht) rfl hok hxs (by simpa using newAcc_map hmg) (fun V=>rfl) hs (it_of hi hsrc ht) (turnsP_dc hz hnd turn) fun h η D hD hK=>?_;rw[length_map,take_length] at hK;exact⟨D,rfl,MapAt.move Z w (fun o e=>vis_get e hD) (Ext.refl _) hK⟩
theorem src_map{kvs:List (Str×PyData)}:SrcV Z w H0 n (dMap Z w kvs) (kvs.map fun p=>.d (.str p.1)):=by
 intro A s η v g B m;obtain⟨d,rfl,nd,vs,⟨o,es,ep,ho,hr⟩,f⟩:=m;have ho':=vis_to _ _ _ _ ho;have hat:s.heap.DictAt (skd Z w) d vs ep:=⟨o,es,ho',hr⟩;have dne:d≠s.heap.objs.size:=Nat.ne_of_lt (Heap.lt_size ho');have dnh:d∉η:=(vis_inv ho).2;refine wpAny_pyIter_dict (knd:=skd Z w) nd hat ⟨s.heap.objs.size,[s.heap.objs.size,d],[s.heap.objs.size],(fun i h=>h.IsKeyIter s.heap.objs.size d i vs.length ep∧h.DictAt (skd Z w) d vs ep),_,s.toks,rfl,rfl,ext_push _ _,⟨?_,?_,?_⟩,?_,?_,?_⟩
 ·have W:=Walks.dictKeys (prog:=Z) (w:=w) (knd:=skd Z w) g.hh s.heap.objs.size d dne vs ep
  have e:vs.length=(kvs.map fun p=>Ent.d (.str p.1)).length:=by rw[f.length,length_map]
  rw[e] at W;have:=Walks.imp (P':=fun i v=>∃e,(kvs.map fun p=>Ent.d (.str p.1))[i]? =some e∧Means (vis s.heap η) v e) W fun i v p=>by
   obtain⟨k,x,h1,h2⟩:=p;obtain⟨t,rfl⟩:=Value.isStrOf_shape h2;obtain⟨q,h3,h4⟩:=f.get' h1;refine⟨.d (.str q.1),by rw[getElem?_map,h3];rfl,?_⟩;rw[←h4.1];exact str_rd _ _ _
  rw[←e] at this ⊢;exact this
 ·intro i h st b hb
  obtain⟨⟨o,e,_⟩,_⟩:=st;rw[mem_singleton.mp hb];exact⟨o,e⟩
 ·intro i h st
  obtain⟨⟨o,e,c,_⟩,_⟩:=st;exact⟨o,_,e,c,by decide⟩
 ·exact⟨⟨_,Heap.get?_push_size _ rfl,rfl,rfl⟩,⟨o,es,Heap.get?_push_of_some _ ho',hr⟩⟩
 ·intro b hb
  rw[mem_singleton.mp hb];exact fresh_of (Nat.le_refl _)
 ·intro b hb
  have hsz:(s.heap.push {cls:=.type "dict_keyiterator",data:=.fields #[.ref d,.int 0 0,.int vs.length 0,.int ep 0]}).objs.size=s.heap.objs.size+1:=Heap.size_push ..;rcases mem_cons.mp hb with rfl|hb
  ·exact⟨⟨_,Heap.get?_push_size _ rfl⟩,B.fresh⟩
  ·rw[mem_singleton.mp hb]
   exact⟨⟨_,Heap.get?_push_of_some _ ho'⟩,dnh⟩
theorem ev_item_map{value slice:Expr}{pos:Pos}{kvs:List (Str×PyData)}{k:Str}{d:PyData}(hv:EvE Z w H0 n sc σ δ value (dMap Z w kvs))(hi:EvE Z w H0 n sc σ δ slice (.d (.str k)))
  (hd:(kvs.find? fun p=>p.1=k).map (·.2)=some d)(hs:plainSlice slice):EvE Z w H0 n sc σ δ (.Subscript value slice pos) (.d d):=by
 intro A V s η g o F;refine PyProof.Rows.Subscript_ (seqP (hv A V s η g o F) fun v s₁ q1=>seqP (hi A V s₁ η g o (F.ext q1.ext)) fun i s2 q2=>?_);obtain⟨t,rfl⟩:=rd_str q2.val;obtain⟨a,rfl,m⟩:=q1.val;obtain⟨nd,vs,hl,f⟩:=m.move Z w (fun o e=>vis_to _ η _ _ (vis_ext η q2.ext _ _ e)) (vis_ext η q2.ext);have hval:∃u,valueAt vs k=some u∧Rd d (vis s2.heap η) u:=by
  clear hl hi hv q1 q2 m
  induction f with
  |nil=>cases hd
  |@cons v p vs kvs h1 f ih=>
   unfold valueAt;rw[find?_cons] at hd ⊢;rw[h1.1]
   by_cases e:p.1=k
   ·rw[decide_eq_true e] at hd ⊢
    cases hd;exact⟨_,rfl,h1.2⟩
   ·rw[decide_eq_false e] at hd ⊢
    exact ih hd
 obtain⟨u,hu,hr⟩:=hval;exact tail_any hl.typeIs slot_dict_getitem.lookup (wpAny_getItem_of (knd:=skd Z w) (by show Value.isStrOf k (.str k t)=true;simp[Value.isStrOf]) hl.mapOf hu ((q1.trans q2).trans (Pu.tok hr))) (hs _ _)
abbrev NJ:=List (List Nat×List Nat)
def toJ(p:List Nat×List Nat):Str×Str:=(tx p.1,tx p.2)
def dNames(ls:List (List Nat)):PyData:=LS (ls.map tx)
def isName(l:List Nat):Prop:=1≤l.length∧l.length≤2∧∀c∈l,isLetter c
def isPat(p:List Nat):Prop:=p=[]∨∃a b,p=[a,b]∧isSign a∧isSign b
structure JobsOk(js:NJ):Prop where
 len:js.length≤8
 names:∀j∈js,isName j.1
 pats:∀j∈js,isPat j.2
 nodup:(js.map (·.1)).Nodup
def fitsN(p o:List Nat):Bool:=match p with
 |[a,b]=>fitsF (a,b) o
 |_=>false
def needsOf(js:NJ)(j:List Nat×List Nat):List (List Nat):=(js.map (·.1)).filter fun o=>o !=j.1 && (j.2 !=[] && fitsN j.2 o)
def needsN(js:NJ):List (List Nat×List (List Nat)):=js.map fun j=>(j.1,needsOf js j)
def dNeeds(ns:List (List Nat×List (List Nat))):List (Str×PyData):=ns.map fun p=>(tx p.1,dNames p.2)
theorem tx_inj{a b:List Nat}(h:tx a=tx b):a=b:=by
 have:=congrArg (fun x=>x.cps.toList) h;simpa [tx] using this
theorem tx_beq(a b:List Nat):(tx a==tx b)=(a==b):=by
 by_cases h:a=b
 ·subst h
  rw[show(tx a==tx a)=true from beq_self_eq_true _,show(a==a)=true from beq_self_eq_true _]
 ·have:tx a≠tx b:=fun e=>h (tx_inj e)
  rw[show(tx a==tx b)=false by simpa using this,show(a==b)=false by simpa using h]
theorem tx_bne(a b:List Nat):(tx a !=tx b)=(a !=b):=by rw[bne,bne,tx_beq]
theorem tx_empty:S ""=tx []:=by
 have h:(tx []==S "")=true:=tx_nil;exact(eq_of_beq h).symm
theorem name_cons{l:List Nat}(h:isName l):∃c r,l=c::r∧r.length≤100:=by
 cases l with
 |nil=>exact absurd h.1 (by decide)
 |cons c r=>exact⟨c,r,rfl,by have:=h.2.1;simp at this;omega⟩
theorem f2_filterMap{α β:Type}{p:α->Bool}{f:α->β}(l:List α):l.filterMap (fun a=>if p a then some (f a) else none)=(l.filter p).map f:=by
 induction l with
 |nil=>rfl
 |cons a l ih=>
  rw[List.filterMap_cons,filter_cons];cases h:p a<;> simp[ih]
theorem tr_has{x:Str}{p pos:Pos}{args:List Expr}{xs:List PyData}{b:Bool}{k:Nat}(h:HasD Z w H0 x k xs (.bool b))(hk:k≤n)(hg:globOk sc x=true)(ha:EvsP Z w H0 n sc σ δ pos args (xs.map .d))
  (hb:∀V,(backTo pos (starEach args V)).any (·.1)=false):TrP Z w H0 n sc σ δ (.Call (.Name x p) args [] pos) b:=
 tr_plain (ev_has' h hk hg ha hb) tr_bool fun _ _=>rfl
theorem needs_body(hmg:∃o,H0.get? mainGlobals=some o){js:NJ}(ok:JobsOk js)(hfits:∀a b l,isSign a->isSign b->isName l->HasD Z w H0 "_law_fits" n [.str (tx [a,b]),.str (tx l)] (.bool (fitsF (a,b) l))):
  ExP Z w H0 n (scopeOf (stm 28)) [(S "jobs",.d (dJobs (js.map toJ)))] [] (bodyOf (stm 28)) (.ret (dMap Z w (dNeeds (needsN js)))):=by
 have en:js.map (fun j=>(toJ j).1)=(js.map (·.1)).map tx:=by rw[map_map];rfl
 have src:SrcV Z w H0 n (.d (dJobs (js.map toJ))) (js.map fun j=>.d (dJob (toJ j))):=by
  have:=src_list (Z:=Z) (w:=w) (H0:=H0) (n:=n) (ds:=(js.map toJ).map dJob);rw[map_map,map_map] at this;unfold dJobs;rw[map_map];exact this
 have z8:=ok.len;refine ex_cons (σ':=[(S "names",.d (dNames (js.map (·.1))))]++[(S "jobs",.d (dJobs (js.map toJ)))]) (st_assign ?_ (as_name (settable_of)) (fun V o=>by have q:=o.scope;cases V;simp only at q;subst q;rfl) (fun _ _=>rfl) fun _=>rfl) ?_
 ·have:=fun scope pos p1 p2 p3 p4 k pi h1 h2 h3=>lc_names (Z:=Z) (w:=w) (H0:=H0) (n:=n) (sc:=scopeOf (stm 28)) (σ:=[(S "jobs",.d (dJobs (js.map toJ)))]) (δ:=[]) (iter:=.Name "jobs" pi) (scope:=scope) (pos:=pos) (p1:=p1) (p2:=p2) (p3:=p3) (p4:=p4) (a:=S "name") (b:=S "pattern") (k:=k) (js:=js.map toJ) (ev_var rfl) (by rw[length_map];exact z8) h1 h2 h3 (by decide +kernel)
  rw[map_map] at this;unfold dNames;rw[map_map];exact this _ _ _ _ _ _ _ _ (by decide +kernel) (by decide +kernel) (by decide +kernel) (by decide +kernel) rfl rfl fun _ _=>rfl
 refine ex_ret (st_return ?_);have e2:dNeeds (needsN js)=js.map fun j=>(tx j.1,dNames (needsOf js j)):=by
  rw[dNeeds,needsN,map_map];rfl
 rw[e2];refine ev_dc (items:=js) (enc:=fun j=>.d (dJob (toJ j))) (fun j=>(tx j.1,dNames (needsOf js j))) (xs:=[S "pattern",S "name"]) hmg (.inr ⟨_,_,_,rfl⟩) (by decide +kernel) (by decide +kernel) (fun _ _=>rfl) (ev_var rfl) src (size_le (by omega)) ?_ fun j hj=>?_
 ·have h:=ok.nodup
  have e3:js.map (fun j=>tx j.1)=(js.map (·.1)).map tx:=by rw[map_map];rfl
  show(js.map fun j=>tx j.1).Nodup;rw[e3];exact List.Pairwise.map tx (fun a b hab e=>hab (tx_inj e)) h
 refine⟨_,as_two (b1:=[(S "name",.d (.str (tx j.1)))]) (b2:=[(S "pattern",.d (.str (tx j.2)))]) (unp_list (ds:=[.str (tx j.1),.str (tx j.2)])) (as_name (settable_of)) (as_name (settable_of)) (fun _=>rfl),rfl,fun y hy=>?_,ev_var rfl (by decide +kernel),?_⟩
 ·rcases mem_cons.mp hy with rfl|hy
  ·rfl
  ·rw[mem_singleton.mp hy];rfl
 have hj':=ok.pats j hj;have e4:dNames (needsOf js j)=.list ((js.map (·.1)).filterMap fun o=>if(o !=j.1 && (j.2 !=[] && fitsN j.2 o)) then some (PyData.str (tx o)) else none):=by
  rw[f2_filterMap,dNames,LS,map_map];rfl
 show EvE _ _ _ _ _ _ _ _ (.d (dNames (needsOf js j)));rw[e4];refine ev_lc (items:=js.map (·.1)) (enc:=fun o=>.d (.str (tx o))) (xs:=[S "other"]) (x:=.d (dNames (js.map (·.1)))) (fun o=>if(o !=j.1 && (j.2 !=[] && fitsN j.2 o)) then some (PyData.str (tx o)) else none) ?_ ?_ ?_ ?_ ?_ ?_ (size_le (by rw[length_map];omega)) fun o ho=>?_
 ·exact .inl ⟨_,_,rfl⟩
 ·decide +kernel
 ·decide +kernel
 ·exact fun _ _=>rfl
 ·exact ev_var rfl
 ·have:=src_list (Z:=Z) (w:=w) (H0:=H0) (n:=n) (ds:=((js.map (·.1)).map tx).map .str)
  rw[map_map (f:=tx),map_map (f:=PyData.str ∘ tx)] at this;unfold dNames LS;rw[map_map (f:=tx)];exact this
 have hn:isName o:=by
  obtain⟨j',hj2,rfl⟩:=mem_map.mp ho;exact ok.names j' hj2
 refine⟨[(S "other",.d (.str (tx o)))],_,as_name (settable_of),rfl,fun y hy=>by rw[mem_singleton.mp hy];rfl,ifs_one (p:=o !=j.1 && (j.2 !=[] && fitsN j.2 o)) ?_,fun h=>⟨_,if_pos h,ev_var rfl (by decide +kernel)⟩,fun h=>by simp[h]⟩;refine tr_boolop (trs_and ?_ fun _=>trs_and ?_ fun hp=>trs_and1 ?_)
 ·rw[←tx_bne]
  exact tr_cmp (ev_var rfl) (ev_var rfl) op_neS rfl
 ·rw[←tx_bne,←tx_empty]
  exact tr_cmp (ev_var rfl) ev_str op_neS rfl
 ·rcases hj' with e|⟨a,b,e,ha,hb⟩
  ·rw[e] at hp;cases hp
  ·have:fitsN j.2 o=fitsF (a,b) o:=by rw[e];rfl
   rw[this];have q:=hfits a b o ha hb hn;rw[←e] at q;exact tr_has q (Nat.le_refl _) (by decide +kernel) (evs_2 (ev_var rfl) (ev_var rfl) (fun _=>rfl) fun _=>rfl) fun _=>rfl
def GP{α:Type}(H0:Heap)(s:Shared)(η:List Addr)(V:Env)(δ:Led)(Ψ:Heap->α->Sto->Led->Prop)(a:α)(s':Shared):Prop:=
 ∃h' tk η' σ' δ',s'={s with heap:=h',toks:=tk}∧KeepBut (ownOf V δ) s.heap h'∧Fm H0 η' δ' V σ' h'∧(∀b∈η,b∈η')∧
  (∀b∈η',b∈η∨s.heap.get? b=none)∧(∀p∈δ',p.1∈δ.map (·.1)∨s.heap.get? p.1=none)∧Ψ (vis h' η') a σ' δ'
theorem own_of{V:Env}{δ:Led}{b:Addr}(h:b∈δ.map (·.1)):b∈ownOf V δ:=mem_cons_of_mem _ (mem_append_right _ h)
theorem own_led{V:Env}{δ δ':Led}{h:Heap}(hl:∀p∈δ',p.1∈δ.map (·.1)∨h.get? p.1=none){b:Addr}(hb:b∈ownOf V δ'):b∈ownOf V δ∨h.get? b=none:=by
 rcases mem_cons.mp hb with rfl|hb
 ·exact .inl mem_cons_self
 ·rcases mem_append.mp hb with hb|hb
  ·exact .inl (mem_cons_of_mem _ (mem_append_left _ hb))
  ·obtain⟨p,hp,rfl⟩:=mem_map.mp hb
   exact(hl p hp).imp own_of id
theorem GP.vis{α:Type}{H0:Heap}{s:Shared}{η η':List Addr}{V:Env}{δ:Led}{h':Heap}(ho:∀b∈ownOf V δ,b∈η)(k:KeepBut (ownOf V δ) s.heap h')(hf:∀b∈η',b∈η∨s.heap.get? b=none):Ext (vis s.heap η) (vis h' η'):=fun b o e=>
 vis_get (k b o (fun m=>(vis_inv e).2 (ho b m)) (vis_inv e).1) fun m=>by
  rcases hf b m with m|m
  ·exact(vis_inv e).2 m
  ·rw[(vis_inv e).1] at m;cases m
theorem GP.glue{β:Type}{H0:Heap}{s s2:Shared}{η η1:List Addr}{V:Env}{δ δ₁:Led}{σ σ₁:Sto}{Φ:Heap->β->Sto->Led->Prop}{b:β}{h₁:Heap}{t₁:Nat}(F:Fm H0 η δ V σ s.heap)
  (k1:KeepBut (ownOf V δ) s.heap h₁)(F1:Fm H0 η1 δ₁ V σ₁ h₁)(hm1:∀b∈η,b∈η1)(hf1:∀b∈η1,b∈η∨s.heap.get? b=none)(hl1:∀p∈δ₁,p.1∈δ.map (·.1)∨s.heap.get? p.1=none)
  (q:GP H0 {s with heap:=h₁,toks:=t₁} η1 V δ₁ Φ b s2):GP H0 s η V δ Φ b s2:=by
 obtain⟨h2,t2,η2,σ2,δ2,rfl,k2,F2,hm2,hf2,hl2,p2⟩:=q;have back:∀b,h₁.get? b=none->s.heap.get? b=none∨b∈ownOf V δ:=fun b e=>by
  by_cases m:b∈ownOf V δ
  ·exact .inr m
  ·cases q:s.heap.get? b with
   |none=>exact .inl rfl
   |some o=>rw[k1 b o m q] at e;cases e
 have back':∀b,h₁.get? b=none->s.heap.get? b=none:=fun b e=>by
  rcases back b e with h|h
  ·exact h
  ·obtain⟨o,q⟩:=F1.alive b (hm1 b (own_hid F b h))
   rw[q] at e;cases e
 refine⟨h2,t2,η2,σ2,δ2,rfl,fun b o nb e=>?_,F2,fun b m=>hm2 b (hm1 b m),fun b m=>?_,fun p m=>?_,p2⟩
 ·refine k2 b o (fun m=>?_) (k1 b o nb e)
  rcases own_led hl1 m with q|q
  ·exact nb q
  ·rw[e] at q;cases q
 ·rcases hf2 b m with q|q
  ·exact hf1 b q
  ·exact .inr (back' b q)
 ·rcases hl2 p m with q|q
  ·obtain⟨p',hp',e⟩:=mem_map.mp q
   rw[←e];exact hl1 p' hp'
  ·exact .inr (back' _ q)
theorem GP.then{α β:Type}{H0:Heap}{s s₁:Shared}{η:List Addr}{V:Env}{δ:Led}{σ:Sto}{Ψ:Heap->α->Sto->Led->Prop}{Φ:Heap->β->Sto->Led->Prop}{a:α}{M:Model}{A:Around}{m:Sem β}
  (F:Fm H0 η δ V σ s.heap)(x:GP H0 s η V δ Ψ a s₁)
  (hk:∀η1 σ₁ δ₁,Fm H0 η1 δ₁ V σ₁ s₁.heap->Ψ (Mine.vis s₁.heap η1) a σ₁ δ₁->Ext (Mine.vis s.heap η) (Mine.vis s₁.heap η1)->wpAny M A m (GP H0 s₁ η1 V δ₁ Φ) NoE s₁):
  wpAny M A m (GP H0 s η V δ Φ) NoE s₁:=by
 obtain⟨h₁,t₁,η1,σ₁,δ₁,rfl,k1,F1,hm1,hf1,hl1,p1⟩:=x;exact wpAny_mono (hk η1 σ₁ δ₁ F1 p1 (GP.vis (α:=α) (H0:=H0) (own_hid F) k1 hf1)) (fun b s2 q=>GP.glue F k1 F1 hm1 hf1 hl1 q) fun _ _ f=>f
def GS{α:Type}(Z:Program)(w:World)(H0:Heap)(n:Nat)(sc:Scope)(σ:Sto)(δ:Led)(m:Env->Sem α)(Ψ:Heap->α->Sto->Led->Prop):Prop:=
 ∀A V s η,Good n A->EnvOk sc V->Fm H0 η δ V σ s.heap->wpAny (model Z w) A (m V) (GP H0 s η V δ Ψ) NoE s
theorem GP.of_pu{α:Type}{s s':Shared}{η:List Addr}{V:Env}{P:Heap->α->Prop}{a:α}(F:Fm H0 η δ V σ s.heap)(x:Pu s η P a s'):GP H0 s η V δ (fun g v σ' δ'=>P g v∧σ'=σ∧δ'=δ) a s':=by
 obtain⟨h',tk,rfl,ex,p⟩:=x;exact⟨h',tk,η,σ,δ,rfl,ex.keep _,F.ext ex,fun _ m=>m,fun _ m=>.inl m,fun p m=>.inl (mem_map_of_mem m),p,rfl,rfl⟩
theorem GP.mono{α:Type}{s s':Shared}{η:List Addr}{V:Env}{Ψ Φ:Heap->α->Sto->Led->Prop}{a:α}(x:GP H0 s η V δ Ψ a s')(h:∀g σ' δ',Ψ g a σ' δ'->Φ g a σ' δ'):GP H0 s η V δ Φ a s':=by
 obtain⟨h',tk,η',σ',δ',e,k,F,m1,m2,m3,p⟩:=x;exact⟨h',tk,η',σ',δ',e,k,F,m1,m2,m3,h _ _ _ p⟩
theorem GP.here{α:Type}{s:Shared}{η:List Addr}{V:Env}{Ψ:Heap->α->Sto->Led->Prop}{a:α}(F:Fm H0 η δ V σ s.heap)(h:Ψ (Mine.vis s.heap η) a σ δ):GP H0 s η V δ Ψ a s:=
 ⟨s.heap,s.toks,η,σ,δ,rfl,KeepBut.refl _ _,F,fun _ m=>m,fun _ m=>.inl m,fun p m=>.inl (mem_map_of_mem m),h⟩
theorem gs_mono{α:Type}{m:Env->Sem α}{Ψ Φ:Heap->α->Sto->Led->Prop}(h:GS Z w H0 n sc σ δ m Ψ)(hi:∀g a σ' δ',Ψ g a σ' δ'->Φ g a σ' δ'):GS Z w H0 n sc σ δ m Φ:=
 fun A V s η g o F=>wpAny_mono (h A V s η g o F) (fun a s' q=>q.mono (hi · a)) fun _ _ f=>f
theorem gs_ev{e:Expr}{P:Heap->Value->Prop}(h:EvP Z w H0 n sc σ δ e P):GS Z w H0 n sc σ δ (eval e) (fun g v σ' δ'=>P g v∧σ'=σ∧δ'=δ):=
 fun A V s η g o F=>wpAny_mono (h A V s η g o F) (fun a s' q=>GP.of_pu F q) fun _ _ f=>f
abbrev PostS:=Heap->Flow->Sto->Led->Prop
abbrev nextIs(σ:Sto)(δ:Led):PostS:=fun _ fl σ' δ'=>fl=.next∧σ'=σ∧δ'=δ
abbrev GT(Z:Program)(w:World)(H0:Heap)(n:Nat)(sc:Scope)(σ:Sto)(δ:Led)(st:Stmt)(Ψ:PostS):Prop:=GS Z w H0 n sc σ δ (exec st) Ψ
abbrev GX(Z:Program)(w:World)(H0:Heap)(n:Nat)(sc:Scope)(σ:Sto)(δ:Led)(sts:List Stmt)(Ψ:PostS):Prop:=GS Z w H0 n sc σ δ (execs sts) Ψ
theorem gt_st{st:Stmt}{σ':Sto}(h:StP Z w H0 n sc σ δ st (.next σ')):GT Z w H0 n sc σ δ st (nextIs σ' δ):=by
 intro A V s η g o F;refine wpAny_mono (h A V s η g o F) (fun fl s' q=>?_) fun _ _ f=>f;obtain⟨h',tk,rfl,k,e,F'⟩:=q;exact⟨h',tk,η,σ',δ,rfl,k,F',fun _ m=>m,fun _ m=>.inl m,fun p m=>.inl (mem_map_of_mem m),e,rfl,rfl⟩
theorem gt_return{e:Expr}{pos:Pos}{P:Heap->Value->Prop}(h:EvP Z w H0 n sc σ δ e P):GT Z w H0 n sc σ δ (.Return (some e) pos) (fun g fl _ δ'=>(∃v,fl=.ret v∧P g v)∧δ'=δ):=by
 intro A V s η g o F;exact wpAny_Return_some (wpAny_mono (h A V s η g o F) (fun v s' q=>by
  obtain⟨h',tk,η',σ',δ',e,k,F',m1,m2,m3,p⟩:=GP.of_pu F q;exact⟨h',tk,η',σ',δ',e,k,F',m1,m2,m3,⟨v,rfl,p.1⟩,p.2.2⟩) fun _ _ f=>f)
theorem gx_nil{Ψ:PostS}(h:∀g,Ψ g .next σ δ):GX Z w H0 n sc σ δ [] Ψ:=fun A V s η g o F=>wpAny_execs_nil (GP.here F (h _))
theorem gx_cons{st:Stmt}{rest:List Stmt}{Ψ Φ:PostS}(h:GT Z w H0 n sc σ δ st Ψ)(hr:∀g σ' δ',Ψ g .next σ' δ'->GX Z w H0 n sc σ' δ' rest Φ)(hs:∀g fl σ' δ',fl≠ .next->Ψ g fl σ' δ'->Φ g fl σ' δ'):
  GX Z w H0 n sc σ δ (st::rest) Φ:=by
 intro A V s η g o F;refine wpAny_execs_cons (wpAny_mono (h A V s η g o F) (fun fl s₁ q=>?_) fun _ _ f=>f);cases fl with
 |next=>exact q.then F fun η1 σ₁ δ₁ F1 p1 _=>hr _ σ₁ δ₁ p1 A V s₁ η1 g o F1
 |_=>exact q.mono fun g σ' δ' p=>hs g _ σ' δ' (by intro e;cases e) p
theorem gx_step{st:Stmt}{rest:List Stmt}{σ₁:Sto}{δ₁:Led}{Φ:PostS}(h:GT Z w H0 n sc σ δ st (nextIs σ₁ δ₁))(hr:GX Z w H0 n sc σ₁ δ₁ rest Φ):GX Z w H0 n sc σ δ (st::rest) Φ:=
 gx_cons h (fun g σ' δ' ⟨_,a,b⟩=>by subst a b;exact hr) fun g fl σ' δ' hn ⟨a,_⟩=>absurd a hn
theorem gx_last{st:Stmt}{rest:List Stmt}{Φ:PostS}(h:GT Z w H0 n sc σ δ st Φ)(hn:∀g σ' δ',¬Φ g .next σ' δ'):GX Z w H0 n sc σ δ (st::rest) Φ:=
 gx_cons h (fun g σ' δ' p=>absurd p (hn g σ' δ')) fun _ _ _ _ _ p=>p
theorem gx_sub{σ':Sto}{sts:List Stmt}{Ψ:PostS}(h:GX Z w H0 n sc σ' δ sts Ψ)(hs:∀x e,σ'.lookup x=some e->σ.lookup x=some e):GX Z w H0 n sc σ δ sts Ψ:=
 fun A V s η g o F=>h A V s η g o (F.sub hs)
theorem gt_if{test:Expr}{body orelse:List Stmt}{pos:Pos}{b:Bool}{Ψ:PostS}(h:TrP Z w H0 n sc σ δ test b)(h1:b=true->GX Z w H0 n sc σ δ body Ψ)(h2:b=false->GX Z w H0 n sc σ δ orelse Ψ):
  GT Z w H0 n sc σ δ (.If test body orelse pos) Ψ:=by
 intro A V s η g o F;refine wpAny_If (wpAny_mono (h A V s η g o F) (fun c s₁ q=>?_) fun _ _ f=>f);have e:=q.val;subst e;cases c with
 |true=>exact(GP.of_pu F q).then F fun η1 σ₁ δ₁ F1 p1 _=>by obtain⟨_,rfl,rfl⟩:=p1;exact h1 rfl A V s₁ η1 g o F1
 |false=>exact(GP.of_pu F q).then F fun η1 σ₁ δ₁ F1 p1 _=>by obtain⟨_,rfl,rfl⟩:=p1;exact h2 rfl A V s₁ η1 g o F1
theorem gt_while{test:Expr}{body orelse:List Stmt}{pos:Pos}(I:Nat->Sto->Led->Prop){Ψ:PostS}(k:Nat)
  (turn:∀i σ' δ',I i σ' δ'->∃b,TrP Z w H0 n sc σ' δ' test b∧
   (b=true->GX Z w H0 n sc σ' δ' body (fun g fl σ₁ δ₁=>match fl with|.next|.cont=>∃j,j<i∧I j σ₁ δ₁|.brk=>Ψ g .next σ₁ δ₁|.ret v=>Ψ g (.ret v) σ₁ δ₁))∧
   (b=false->GX Z w H0 n sc σ' δ' orelse Ψ))
  (h0:I k σ δ):GT Z w H0 n sc σ δ (.While test body orelse pos) Ψ:=by
 intro A V s η g o F;refine wpAny_While (codeAny_whileLoop (fun i s'=>GP H0 s η V δ (fun _ (_:Unit) σ' δ'=>I i σ' δ') () s') (fun i s' hI=>?_) k (GP.here F h0));obtain⟨h₁,t₁,η1,σ₁,δ₁,rfl,k1,F1,m1,m2,m3,p1⟩:=id hI;obtain⟨b,ht,hb,hb'⟩:=turn i σ₁ δ₁ p1;refine wpAny_mono (ht A V _ η1 g o F1) (fun c s2 q=>?_) fun _ _ f=>f.elim;have e:=q.val;subst e;obtain⟨h2,t2,rfl,ex2,_⟩:=q;have F2:=F1.ext ex2;cases c with
 |true=>
  refine wpAny_mono (hb rfl A V _ η1 g o F2) (fun fl s3 q3=>?_) fun _ _ f=>f.elim;have q3':GP H0 {s with heap:=h₁,toks:=t₁} η1 V δ₁ _ fl s3:=GP.glue (t₁:=t2) F1 (ex2.keep _) F2 (fun _ m=>m) (fun _ m=>.inl m) (fun p m=>.inl (mem_map_of_mem m)) q3;have q4:=GP.glue F k1 F1 m1 m2 m3 q3';cases fl with
  |next=>
   obtain⟨h',tk,η',σ',δ',e,k,F',n1,n2,n3,j,hj,p⟩:=q4;exact⟨j,hj,h',tk,η',σ',δ',e,k,F',n1,n2,n3,p⟩
  |cont=>
   obtain⟨h',tk,η',σ',δ',e,k,F',n1,n2,n3,j,hj,p⟩:=q4;exact⟨j,hj,h',tk,η',σ',δ',e,k,F',n1,n2,n3,p⟩
  |brk=>exact q4
  |ret v=>exact q4
 |false=>
  refine wpAny_mono (hb' rfl A V _ η1 g o F2) (fun fl s3 q3=>?_) fun _ _ f=>f.elim;have q3':GP H0 {s with heap:=h₁,toks:=t₁} η1 V δ₁ _ fl s3:=GP.glue (t₁:=t2) F1 (ex2.keep _) F2 (fun _ m=>m) (fun _ m=>.inl m) (fun p m=>.inl (mem_map_of_mem m)) q3;exact GP.glue F k1 F1 m1 m2 m3 q3'
def LedOk(η:List Addr)(L:Led)(h:Heap):Prop:=(∀p∈L,p.1∈η)∧∀p∈L,h.get? p.1=some p.2
def CP(H0:Heap)(s:Shared)(η:List Addr)(L:Led)(Ψ:Heap->Value->Led->Prop)(v:Value)(s':Shared):Prop:=
 ∃h' tk η' L',s'={s with heap:=h',toks:=tk}∧KeepBut (L.map (·.1)) s.heap h'∧Base H0 η' h'∧LedOk η' L' h'∧(∀b∈η,b∈η')∧
  (∀b∈η',b∈η∨s.heap.get? b=none)∧(∀p∈L',p.1∈L.map (·.1)∨s.heap.get? p.1=none)∧Ψ (vis h' η') v L'
def FnG(Z:Program)(w:World)(H0:Heap)(n:Nat)(f:Value)(xs:List Ent)(L:Led)(Ψ:Heap->Value->Led->Prop):Prop:=
 ∀A s η vs,Good n A->Base H0 η s.heap->LedOk η L s.heap->MeansAll (vis s.heap η) vs xs->wpAny (model Z w) A (call f vs) (CP H0 s η L Ψ) NoE s
theorem fn_gdef{f:Addr}{fd:FuncData}{ps:List Str}{body:List Stmt}{xs:List Ent}{L:Led}{Ψ:Heap->Value->Led->Prop}(D:DefIs H0 f fd sc ps body)(hsc:scopeOk sc ps=true)(hl:xs.length=ps.length)
  (h:GX Z w H0 n sc (ps.zip xs) L body (fun g fl _ δ'=>Ψ g (match fl with|.ret v=>v|_=>.none) δ')):FnG Z w H0 (n+1) (.ref f) xs L Ψ:=by
 intro A s η vs g B LO hm;have hlv:vs.length=ps.length:=(meansAll_f2e hm).length.trans hl;simp only[scopeOk,Bool.and_eq_true,decide_eq_true_eq,all_eq_true,Bool.not_eq_true'] at hsc;obtain⟨⟨⟨⟨⟨⟨⟨⟨hk,hco⟩,hge⟩,hnd⟩,hps⟩,hset⟩,hfree⟩,hcl⟩,hcl2⟩:=hsc;have hk:sc.kind=.function:=by simpa using hk
 obtain⟨oo,ho,hd⟩:=D.obj;have hnames:∀L,(cellsFrom L sc.names []).map (·.1)=(cellsFrom 0 sc.names []).map (·.1):=fun L=>cellsFrom_names sc.names L 0 [] [] rfl;have hmem:∀p∈ps.zip vs,p.1∈ps:=fun p hp=>by
  obtain⟨a,b⟩:=p;exact(of_mem_zip hp).1
 have hsc':=D.scope;subst hsc';refine wpAny_call (codeAny_call_cells (binds:=ps.zip vs) g.depth (B.h0 _ _ ho) hd (D.lim.keeps B.h0) (D.rec'.keeps B.h0) D.body (D.bind vs hlv) D.clo ?_ (fun s₁ X=>?_) hco hge hk)
 ·intro p hp
  have:=hset p.1 (hmem p hp);simp only[Bool.or_eq_true,beq_iff_eq] at this;rcases this with h1|h1
  ·exact .inl h1
  ·refine .inr ⟨h1,?_⟩
   rw[lookup_isSome_names (hnames _)];have:=hcl (p.1,.cell) (mem_of_lookup (l:=fd.scope.names) (by
    exact h1))
   simpa [h1] using this
 ·obtain⟨h₁,tk1,e1⟩:=X.toInCall.same
  have keep:=X.toInCall.keep;have fr:∀a,s.heap.objs.size≤a->s.heap.get? a=none:=fun a ha=>by
   cases e:s.heap.get? a with
   |none=>rfl
   |some o=>exact absurd (Heap.lt_size e) (Nat.not_lt.mpr ha)
  have hL:s.heap.get? s.heap.objs.size=none:=fr _ (Nat.le_refl _);generalize hE:callEnvC fd s.heap.objs.size f=V at X ⊢;have eL:V.locals=s.heap.objs.size:=by rw[←hE];rfl
  have eC:V.cells=cellsFrom (s.heap.objs.size+1) fd.scope.names []:=by rw[←hE];rfl
  have eS:V.scope=fd.scope:=by rw[←hE];rfl
  have hndc:(V.cells.map (·.1)).Nodup:=by rw[eC,hnames];exact hnd
  have o:EnvOk fd.scope V:=⟨eS,by rw[←hE];exact D.glob,by rw[←hE];exact D.bi,hk,fun x hx=>by
   rw[eC,lookup_isSome_names (hnames _)];rcases hx with hx|hx
   ·have:=hcl (x,.cell) (mem_of_lookup hx)
    simpa [hx] using this
   ·have:=hfree (x,.free) (mem_of_lookup hx)
    simp at this⟩
  have cellIs:∀p∈V.cells,s₁.heap.IsCell p.2 (bindC V.kindOf (ps.zip vs) (fun _=>none) p.1):=fun p hp=>X.cell p.1 p.2 (lookup_of_mem_nodup hndc hp);have ownNew:∀a∈V.locals::V.cells.map (·.2),s.heap.get? a=none:=fun a ha=>by
   rcases mem_cons.mp ha with rfl|ha
   ·rw[eL];exact hL
   ·obtain⟨p,hp,rfl⟩:=mem_map.mp ha
    have:=X.above p.1 p.2 hp;exact fr _ (Nat.le_of_lt (eL▸this))
  have gk:Ext (vis s.heap η) (vis s₁.heap ((V.locals::V.cells.map (·.2))++η)):=vis_more keep ownNew;have hvn:((ps.zip vs).map (·.1))=ps:=by rw[List.map_fst_zip];omega
  have F:Fm H0 ((V.locals::V.cells.map (·.2))++η) L V (ps.zip xs) s₁.heap:={
   base:=B.base.trans gk
   alive:=fun a ha=>by
    rcases mem_append.mp ha with ha|ha
    ·rcases mem_cons.mp ha with rfl|ha
     ·obtain⟨o,_,_,e,_⟩:=X.toInCall.ns;exact⟨o,e⟩
     ·obtain⟨p,hp,rfl⟩:=mem_map.mp ha
      obtain⟨o,e,_⟩:=cellIs p hp;exact⟨o,e⟩
    ·obtain⟨o,e⟩:=B.alive a ha;exact⟨o,keep _ _ e⟩
   loc:=by simp
   celh:=fun p hp=>mem_append_left _ (mem_cons_of_mem _ (mem_map_of_mem hp))
   ledh:=fun p hp=>mem_append_right _ (LO.1 p hp)
   ns:=⟨_,X.toInCall.ns,fun y e hy hkl=>by
    obtain⟨v,mv,me⟩:=zip_lookup hm hy;exact⟨v,bindL_get hkl (by rw[hvn];exact hps) mv,me.ext gk⟩⟩
   cell:=fun y e hy hkc=>by
    obtain⟨v,mv,me⟩:=zip_lookup hm hy;have hkc':fd.scope.names.lookup y=some .cell:=by
     rw[Env.kindOf,eS] at hkc;rcases hkc with q|q
     ·exact q
     ·have:=hfree (y,.free) (mem_of_lookup q)
      simp at this
    obtain⟨c,hc⟩:=Option.isSome_iff_exists.mp (o.cells y (.inl hkc'));refine⟨c,v,hc,?_,me.ext gk⟩;have:=X.cell y c hc;rwa [bindC_get (by rw[Env.kindOf,eS,hkc'];decide) (by rw[hvn];exact hps) mv] at this
   cells:=fun p hp=>⟨_,cellIs p hp⟩
   ledg:=fun p hp=>keep _ _ (LO.2 p hp)
   apart:=X.apart
   off:=fun p hp=>Nat.ne_of_gt (X.above p.1 p.2 hp)
   ledoff:=fun p hp=>by
    have a:=LO.2 p hp;refine⟨fun q=>?_,fun c hc q=>?_⟩
    ·rw[q,ownNew _ mem_cons_self] at a;cases a
    ·rw[q,ownNew _ (mem_cons_of_mem _ (mem_map_of_mem hc))] at a;cases a}
  rw[e1] at F ⊢;refine wpAny_mono (h _ V _ _ g.deeper o F) (fun fl s2 q=>?_) fun _ _ f=>f.elim;obtain⟨h2,t2,η2,σ2,L2,rfl,k2,F2,m1,m2,m3,p2⟩:=q;have keep':∀b ob,s.heap.get? b=some ob->h₁.get? b=some ob:=fun b ob e=>by
   have:=keep b ob e;rwa [e1] at this
  have back:∀b,h₁.get? b=none->s.heap.get? b=none:=fun b e=>by
   cases q:s.heap.get? b with
   |none=>rfl
   |some ob=>rw[keep' b ob q] at e;cases e
  refine⟨h2,t2,η2,L2,rfl,fun b ob nb e=>?_,F2.toBase,⟨F2.ledh,F2.ledg⟩,fun b m=>m1 b (mem_append_right _ m),fun b m=>?_,fun p m=>(m3 p m).imp id (back _),p2⟩
  ·refine k2 b ob (fun m=>?_) (keep' b ob e)
   rcases mem_cons.mp m with rfl|m
   ·rw[ownNew _ mem_cons_self] at e;cases e
   ·rcases mem_append.mp m with m|m
    ·rw[ownNew _ (mem_cons_of_mem _ m)] at e;cases e
    ·exact nb m
  ·rcases m2 b m with m|m
   ·rcases mem_append.mp m with m|m
    ·exact .inr (ownNew _ m)
    ·exact .inl m
   ·exact .inr (back _ m)
theorem fn_of_g{f:Value}{xs:List Ent}{P:Heap->Value->Prop}(hP:∀g g' v,Ext g g'->P g v->P g' v)(h:FnG Z w H0 n f xs [] (fun g v _=>P g v)):FnP Z w H0 n f xs P:=by
 intro A s η vs g B hm;refine wpAny_mono (h A s η vs g B ⟨(fun p hp=>nomatch hp),(fun p hp=>nomatch hp)⟩ hm) (fun v s' q=>?_) fun _ _ f=>f;obtain⟨h',tk,η',L',rfl,k,B',LO',m1,m2,m3,p⟩:=q;exact⟨h',tk,rfl,fun b o e=>k b o (fun m=>by cases m) e,hP _ _ _ (vis_less _ m1) p⟩
theorem Fm.call{η η':List Addr}{V:Env}{h h':Heap}{L L' rest:Led}(F:Fm H0 η δ V σ h)(hL:∀p∈L,p∈δ)(hr:∀p∈rest,p∈δ∧p.1∉L.map (·.1))(k:KeepBut (L.map (·.1)) h h')(B:Base H0 η' h')(LO:LedOk η' L' h')
  (m1:∀b∈η,b∈η')(m2:∀b∈η',b∈η∨h.get? b=none)(m3:∀p∈L',p.1∈L.map (·.1)∨h.get? p.1=none):Fm H0 η' (L'++rest) V σ h':=by
 have hLo:∀b∈L.map (·.1),b∈η:=fun b m=>by obtain⟨p,hp,rfl⟩:=mem_map.mp m;exact F.ledh p (hL p hp)
 have vk:Ext (vis h η) (vis h' η'):=fun b o e=>vis_get (k b o (fun m=>(vis_inv e).2 (hLo b m)) (vis_inv e).1) fun m=>by
  rcases m2 b m with m|m
  ·exact(vis_inv e).2 m
  ·rw[(vis_inv e).1] at m;cases m
 have nl:V.locals∉L.map (·.1):=fun m=>by obtain⟨p,hp,e⟩:=mem_map.mp m;exact(F.ledoff p (hL p hp)).1 e
 have nc:∀q∈V.cells,q.2∉L.map (·.1):=fun q hq m=>by obtain⟨p,hp,e⟩:=mem_map.mp m;exact(F.ledoff p (hL p hp)).2 q hq e
 exact{
  toBase:=B
  loc:=m1 _ F.loc
  celh:=fun p hp=>m1 _ (F.celh p hp)
  ledh:=fun p hp=>by
   rcases mem_append.mp hp with hp|hp
   ·exact LO.1 p hp
   ·exact m1 _ (F.ledh p (hr p hp).1)
  ns:=by
   obtain⟨m,⟨o,es,ep,e,r⟩,q⟩:=F.ns;exact⟨m,⟨o,es,ep,k _ _ nl e,r⟩,fun y e a b=>let⟨v,c,d⟩:=q y e a b;⟨v,c,d.ext vk⟩⟩
  cell:=fun y e a b=>let⟨c,v,p,⟨o,e1,e2⟩,r⟩:=F.cell y e a b;⟨c,v,p,⟨o,k _ _ (nc (y,c) (mem_of_lookup p)) e1,e2⟩,r.ext vk⟩
  cells:=fun p m=>let⟨v,o,e1,e2⟩:=F.cells p m;⟨v,o,k _ _ (nc p m) e1,e2⟩
  ledg:=fun p hp=>by
   rcases mem_append.mp hp with hp|hp
   ·exact LO.2 p hp
   ·exact k _ _ (hr p hp).2 (F.ledg p (hr p hp).1)
  apart:=F.apart
  off:=F.off
  ledoff:=fun p hp=>by
   rcases mem_append.mp hp with hp|hp
   ·rcases m3 p hp with m|m
    ·obtain⟨p',hp',e⟩:=mem_map.mp m
     rw[←e];exact F.ledoff p' (hL p' hp')
    ·refine⟨fun q=>?_,fun c hc q=>?_⟩
     ·obtain⟨m',⟨o,es,ep,e,r⟩,_⟩:=F.ns
      rw[q,e] at m;cases m
     ·obtain⟨v,o,e1,e2⟩:=F.cells c hc
      rw[q,e1] at m;cases m
   ·exact F.ledoff p (hr p hp).1}
theorem GP.of_cp{s s':Shared}{η:List Addr}{V:Env}{L rest:Led}{Ψ:Heap->Value->Led->Prop}{v:Value}(F:Fm H0 η δ V σ s.heap)(hL:∀p∈L,p∈δ)(hr:∀p∈rest,p∈δ∧p.1∉L.map (·.1))(x:CP H0 s η L Ψ v s'):
  GP H0 s η V δ (fun g v σ' δ'=>σ'=σ∧∃L',Ψ g v L'∧δ'=L'++rest) v s':=by
 obtain⟨h',tk,η',L',rfl,k,B,LO,m1,m2,m3,p⟩:=x;refine⟨h',tk,η',σ,L'++rest,rfl,KeepBut.more k fun b m=>?_,F.call hL hr k B LO m1 m2 m3,m1,m2,fun p hp=>?_,rfl,L',p,rfl⟩
 ·obtain⟨q,hq,rfl⟩:=mem_map.mp m
  exact own_of (mem_map_of_mem (hL q hq))
 ·rcases mem_append.mp hp with hp|hp
  ·rcases m3 p hp with m|m
   ·obtain⟨q,hq,e⟩:=mem_map.mp m
    rw[←e];exact .inl (mem_map_of_mem (hL q hq))
   ·exact .inr m
  ·exact .inl (mem_map_of_mem (hr p hp).1)
theorem ltCps_total:∀a b:List Nat,PySem.Spec.ltCps a b=false->PySem.Spec.ltCps b a=false->a=b
 |[],[],_,_=>rfl
 |[],_::_,h,_=>by simp[PySem.Spec.ltCps] at h
 |_::_,[],_,h=>by simp[PySem.Spec.ltCps] at h
 |a::r,b::t,h,h'=>by
  rw[PySem.Spec.ltCps,Bool.or_eq_false_iff,decide_eq_false_iff_not] at h h';have e:a=b:=by omega
  subst e;have h1:PySem.Spec.ltCps r t=false:=by simpa using h.2
  have h2:PySem.Spec.ltCps t r=false:=by simpa using h'.2
  rw[ltCps_total r t h1 h2]
theorem leCps_trans:∀a b c:List Nat,PySem.Spec.ltCps b a=false->PySem.Spec.ltCps c b=false->PySem.Spec.ltCps c a=false
 |[],[],[],_,_=>rfl
 |[],_,_::_,_,_=>by simp[PySem.Spec.ltCps]
 |[],_::_,[],_,h=>by simp[PySem.Spec.ltCps] at h
 |_::_,[],_,h,_=>by simp[PySem.Spec.ltCps] at h
 |_::_,_::_,[],_,h=>by simp[PySem.Spec.ltCps] at h
 |a::r,b::t,c::u,h,h'=>by
  rw[PySem.Spec.ltCps,Bool.or_eq_false_iff,decide_eq_false_iff_not] at h h' ⊢;refine⟨by omega,?_⟩
  by_cases e:c=a
  ·subst e
   have e2:b=c:=by omega
   subst e2;have h1:PySem.Spec.ltCps t r=false:=by simpa using h.2
   have h2:PySem.Spec.ltCps u t=false:=by simpa using h'.2
   rw[leCps_trans r t u h1 h2];simp
  ·simp[e]
def leT(a b:List Nat):Bool:=!PySem.Spec.ltCps b a
def sortT(ls:List (List Nat)):List (List Nat):=ls.mergeSort leT
theorem leT_trans(a b c:List Nat)(h:leT a b=true)(h':leT b c=true):leT a c=true:=by
 unfold leT at *;simp only[Bool.not_eq_true'] at *;exact leCps_trans a b c h h'
theorem leT_total(a b:List Nat):(leT a b ||leT b a)=true:=by
 unfold leT;cases h:PySem.Spec.ltCps b a with
 |false=>rfl
 |true=>
  cases h2:PySem.Spec.ltCps a b with
  |false=>rfl
  |true=>
   exfalso;clear leT_total
   induction a generalizing b with
   |nil=>cases b<;> simp[PySem.Spec.ltCps] at h
   |cons x r ih=>
    cases b with
    |nil=>simp[PySem.Spec.ltCps] at h2
    |cons y t=>
     simp only[PySem.Spec.ltCps,Bool.or_eq_true,decide_eq_true_eq,Bool.and_eq_true,beq_iff_eq] at h h2;rcases h with h|⟨e,h⟩
     ·rcases h2 with h2|⟨e2,h2⟩<;> omega
     ·subst e
      rcases h2 with h2|⟨_,h2⟩
      ·omega
      ·exact ih t h h2
theorem sortT_perm(ls:List (List Nat)):(sortT ls).Perm ls:=List.mergeSort_perm ..
theorem sortT_sorted(ls:List (List Nat)):(sortT ls).Pairwise fun a b=>leT a b=true:=List.pairwise_mergeSort leT_trans leT_total ls
theorem sortT_unique{ls out:List (List Nat)}(hp:out.Perm ls)(hs:out.Pairwise fun a b=>leT a b=true):out=sortT ls:=
 List.Perm.eq_of_pairwise (fun a b _ _ h h'=>by
  unfold leT at h h';simp only[Bool.not_eq_true'] at h h';exact ltCps_total a b h' h) hs (sortT_sorted ls) (hp.trans (sortT_perm ls).symm)
theorem rising_pairwise:∀(ss:List Str) (p:Str),risingS p ss=true->(p::ss).Pairwise fun a b=>leT a.cps.toList b.cps.toList=true
 |[],p,_=>by simp
 |x::r,p,h=>by
  rw[risingS,Bool.and_eq_true] at h;have ih:=rising_pairwise r x h.2;rw[List.pairwise_cons];refine⟨fun y hy=>?_,ih⟩;have h1:leT p.cps.toList x.cps.toList=true:=h.1;rcases mem_cons.mp hy with rfl|hy
  ·exact h1
  ·rw[List.pairwise_cons] at ih
   exact leT_trans _ _ _ h1 (ih.1 y hy)
theorem sorted_pairwise{ss:List Str}(h:sortedS ss=true):ss.Pairwise fun a b=>leT a.cps.toList b.cps.toList=true:=by
 cases ss with
 |nil=>exact .nil
 |cons x r=>exact rising_pairwise r x h
theorem tx_cps(x:Str):tx x.cps.toList=x:=by simp[tx]
theorem sorted_is{ls:List (List Nat)}{out:List Str}(hp:out.Perm (ls.map tx))(hs:sortedS out=true):out=(sortT ls).map tx:=by
 have h1:(out.map fun x=>x.cps.toList).Perm ls:=by
  have:=hp.map fun x=>x.cps.toList;rw[map_map] at this;have e:ls.map ((fun x:Str=>x.cps.toList) ∘ tx)=ls:=by
   conv=>rhs;rw[←List.map_id ls]
   apply map_congr_left;intro a _;simp[tx]
  rwa [e] at this
 have h2:(out.map fun x=>x.cps.toList).Pairwise fun a b=>leT a b=true:=List.Pairwise.map _ (fun _ _ h=>h) (sorted_pairwise hs);have:=sortT_unique h1 h2;rw[←this,map_map]
 conv=>lhs;rw[←List.map_id out]
 apply map_congr_left;intro a _;exact(tx_cps a).symm
theorem strsAre_of{g:Heap}:∀{vs:List Value} {ss:List Str},F2 (fun v d=>Rd d g v) vs (ss.map .str)->StrsAre vs ss
 |[],[],_=>.nil
 |v::vs,s::ss,f=>by
  cases f with
  |cons a f=>
   obtain⟨t,rfl⟩:=rd_str a;exact .cons s t (strsAre_of f)
theorem strsAre_f2{g:Heap}:∀{vs:List Value} {ss:List Str},StrsAre vs ss->F2 (fun v d=>Rd d g v) vs (ss.map .str)
 |_,_,.nil=>.nil
 |_,_,.cons y t r=>.cons (str_rd _ _ _) (strsAre_f2 r)
theorem fn_sorted{ls:List (List Nat)}(hz:ls.length<64):FnP Z w H0 n (.builtin "sorted") [.d (dNames ls)] (Rd (dNames (sortT ls))):=by
 intro A s η vs g B hm
 match vs,hm with
 |[v],⟨m,_⟩=>
 obtain⟨l,vs,rfl,hl,f⟩:=rd_list m;have hl':=isList_ext (vis_to _ _) hl;refine sorted_strs hl' (strsAre_of f) (by have:=f.length;rw[this,length_map,length_map];exact hz) fun out ss' h1 h2 h3=>?_;have e:=sorted_is h2 h3;subst e;have ex:Ext s.heap (sortedAll s.heap vs out):=fun b o e=>sortedAll_old e;obtain⟨k,hk⟩:=sortedAll_at s.heap vs out;have hn:s.heap.objs.size+1∉η:=fun m=>by
  have:=B.low m;have h2:s.heap.objs.size+1<s.heap.objs.size:=this;omega
 have:out=toArray out.toList:=by simp
 refine⟨_,s.toks,rfl,ex,list_rd (vs:=out.toList) ⟨_,vis_get hk hn,rfl,k,?_⟩ (strsAre_f2 h1)⟩;simp[seqObj]
theorem has_sorted(hg:GIs H0 "sorted" (.builtin "sorted")){ls:List (List Nat)}(hz:ls.length<64):HasD Z w H0 "sorted" n [dNames ls] (dNames (sortT ls)):=⟨_,hg,callee_builtin,fn_sorted hz⟩
abbrev NN:=List (List Nat×List (List Nat))
def dRounds(rs:List (List (List Nat))):PyData:=.list (rs.map dNames)
def dueStep(ns:NN)(come:List (List Nat)):List (List Nat):=
 sortT ((ns.filter fun p=>(!decide (p.1∈come)) && (p.2.filter fun q=>!decide (q∈come)).isEmpty).map (·.1))
def dueGo(ns:NN):Nat->List (List Nat)->List (List (List Nat))
 |0,_=>[]
 |k+1,come=>if dueStep ns come=[] then [] else dueStep ns come::dueGo ns k (come++dueStep ns come)
def left(ns:NN)(come:List (List Nat)):Nat:=(ns.filter fun p=>!decide (p.1∈come)).length
def dueF(ns:NN):List (List (List Nat)):=dueGo ns (ns.length+1) []
structure NeedsOk(ns:NN):Prop where
 len:ns.length≤8
 names:∀p∈ns,isName p.1
 needs:∀p∈ns,p.2.length≤8∧∀q∈p.2,isName q
 nodup:(ns.map (·.1)).Nodup
theorem dueStep_mem{ns:NN}{come:List (List Nat)}{x:List Nat}(h:x∈dueStep ns come):∃p∈ns,p.1=x∧x∉come:=by
 have:=(sortT_perm _).mem_iff.mp h;obtain⟨p,hp,rfl⟩:=mem_map.mp this;rw[mem_filter,Bool.and_eq_true] at hp;exact⟨p,hp.1,rfl,by simpa using hp.2.1⟩
theorem left_lt{ns:NN}{come:List (List Nat)}(h:dueStep ns come≠[]):left ns (come++dueStep ns come)<left ns come:=by
 obtain⟨x,hx⟩:=List.exists_mem_of_ne_nil _ h;obtain⟨p,hp,rfl,hn⟩:=dueStep_mem hx;unfold left;have e:(ns.filter fun p=>!decide (p.1∈come++dueStep ns come))=(ns.filter fun p=>!decide (p.1∈come)).filter fun p=>!decide (p.1∈dueStep ns come):=by
  rw[List.filter_filter];apply List.filter_congr;intro a _;simp only[mem_append]
  by_cases h1:a.1∈come<;> by_cases h2:a.1∈dueStep ns come<;> simp[h1,h2]
 rw[e];refine List.length_filter_lt_length_iff_exists.mpr ⟨p,mem_filter.mpr ⟨hp,by simpa using hn⟩,by simpa using hx⟩
theorem dueGo_fuel{ns:NN}:∀(k k':Nat) (come:List (List Nat)),left ns come<k->left ns come<k'->dueGo ns k come=dueGo ns k' come
 |0,_,_,h,_=>absurd h (Nat.not_lt_zero _)
 |_,0,_,_,h=>absurd h (Nat.not_lt_zero _)
 |k+1,k'+1,come,h,h'=>by
  rw[dueGo,dueGo]
  by_cases e:dueStep ns come=[]
  ·rw[if_pos e,if_pos e]
  ·have:=left_lt e
   rw[if_neg e,if_neg e,dueGo_fuel k k' _ (by omega) (by omega)]
theorem find_needs:∀{ns:NN} {p:List Nat×List (List Nat)},(ns.map (·.1)).Nodup->p∈ns->((dNeeds ns).find? fun q=>q.1=tx p.1).map (·.2)=some (dNames p.2)
 |a::r,p,nd,hp=>by
  rw[map_cons,nodup_cons] at nd;show(((tx a.1,dNames a.2)::dNeeds r).find? fun q=>q.1=tx p.1).map (·.2)=_;rw[find?_cons];rcases mem_cons.mp hp with rfl|hp
  ·simp
  ·have:tx a.1≠tx p.1:=fun e=>nd.1 (by rw[tx_inj e];exact mem_map_of_mem hp)
   simp only[decide_eq_false this];exact find_needs nd.2 hp
theorem strOk_name{l:List Nat}(h:isName l):PyData.strOk (tx l)=true:=strOk_tx (letters_sign h.2.2)
theorem clean_names{ls:List (List Nat)}(h:∀l∈ls,isName l):cleanAll ((ls.map tx).map .str)=true:=cleanAll_strs fun y hy=>by
 obtain⟨l,hl,rfl⟩:=mem_map.mp hy;exact strOk_name (h l hl)
theorem depth_strs:∀ss:List Str,PyData.depthAll (ss.map .str)=0
 |[]=>rfl
 |x::r=>by rw[map_cons,PyData.depthAll,depth_strs r];rfl
theorem fine_names{ls:List (List Nat)}(h:∀l∈ls,isName l):fine (dNames ls)=true:=by
 unfold fine dNames LS;rw[clean,clean_names h,PyData.depth,depth_strs];rfl
theorem any_names{ls:List (List Nat)}{a:List Nat}:(((ls.map tx).map PyData.str).any fun y=>PySem.Spec.same y (.str (tx a)))=decide (a∈ls):=by
 rw[any_str]
 by_cases h:a∈ls
 ·rw[decide_eq_true h,decide_eq_true (mem_map_of_mem h)]
 ·rw[decide_eq_false h,decide_eq_false]
  intro m;obtain⟨b,hb,e⟩:=mem_map.mp m;rw[tx_inj e] at hb;exact h hb
theorem src_names{ls:List (List Nat)}:SrcV Z w H0 n (.d (dNames ls)) (ls.map fun l=>.d (.str (tx l))):=by
 have:=src_list (Z:=Z) (w:=w) (H0:=H0) (n:=n) (ds:=(ls.map tx).map .str);rw[map_map (f:=tx),map_map (f:=PyData.str ∘ tx)] at this;unfold dNames LS;rw[map_map (f:=tx)];exact this
theorem op_notInN{ls:List (List Nat)}{a:List Nat}(ha:isName a)(h:∀l∈ls,isName l):OpBin Z w H0 n (compareOp .NotIn) (.d (.str (tx a))) (.d (dNames ls)) (Rd (.bool (!decide (a∈ls)))):=by
 have:=op_notInL (Z:=Z) (w:=w) (H0:=H0) (n:=n) (d:=.str (tx a)) (xs:=(ls.map tx).map .str) (fine_str (strOk_name ha)) (clean_names h);rwa [any_names] at this
theorem op_eqNil{ls:List (List Nat)}(h:∀l∈ls,isName l):OpBin Z w H0 n (compareOp .Eq) (.d (dNames ls)) (.d (.list [])) (Rd (.bool ls.isEmpty)):=by
 have:=op_eqD (Z:=Z) (w:=w) (H0:=H0) (n:=n) (fine_names h) fine_nil;unfold dNames LS at this;rw[same_nil] at this;have e:((ls.map tx).map PyData.str).isEmpty=ls.isEmpty:=by cases ls<;> rfl
 rw[e] at this;exact this
theorem gx_stop{st:Stmt}{rest:List Stmt}{Φ:PostS}(h:GT Z w H0 n sc σ δ st (fun g fl σ' δ'=>fl≠ .next∧Φ g fl σ' δ')):GX Z w H0 n sc σ δ (st::rest) Φ:=
 gx_cons h (fun g σ' δ' p=>absurd rfl p.1) fun _ _ _ _ _ p=>p.2
theorem gx_ret{e:Expr}{pos:Pos}{rest:List Stmt}{P:Heap->Value->Prop}{Φ:PostS}(h:EvP Z w H0 n sc σ δ e P)(hi:∀g v σ',P g v->Φ g (.ret v) σ' δ):GX Z w H0 n sc σ δ (.Return (some e) pos::rest) Φ:=
 gx_stop (gs_mono (gt_return h) fun g fl σ' δ' p=>by
  obtain⟨⟨v,rfl,p⟩,rfl⟩:=p;exact⟨(by intro e;cases e),hi g v σ' p⟩)
theorem due_body(hsort:GIs H0 "sorted" (.builtin "sorted")){ns:NN}(ok:NeedsOk ns):
  GX Z w H0 n (scopeOf (stm 30)) [(S "needs",dMap Z w (dNeeds ns))] [] (bodyOf (stm 30)) (fun g fl _ _=>∃v,fl=.ret v∧Rd (dRounds (dueF ns)) g v):=by
 refine gx_step (gt_st (st_assign (x:=.d (.tuple [.list [],.list []])) (bs:=[(S "come",.d (.list [])),(S "rounds",.d (.list []))]) (ev_tuple (ds:=[.list [],.list []]) (evs_2 (ev_list (ds:=[]) evs_nil (by decide)) (ev_list (ds:=[]) evs_nil (by decide)) (fun _=>rfl) fun _=>rfl) (size_le (by simp)))
  (as_two (b1:=[(S "rounds",.d (.list []))]) (b2:=[(S "come",.d (.list []))]) unp_tuple (as_name (settable_of)) (as_name (settable_of)) fun _=>rfl) (fun _ _=>rfl) (fun V o=>by have q:=o.scope;cases V;simp only at q;subst q;rfl) fun _=>rfl)) ?_
 have hlen8:∀come,(dueStep ns come).length≤8:=fun come=>by
  rw[dueStep,(sortT_perm _).length_eq,length_map];exact Nat.le_trans (length_filter_le ..) ok.len
 have hl8:∀come,left ns come≤8:=fun come=>Nat.le_trans (length_filter_le ..) ok.len;refine gx_last (gt_while (I:=fun i σ' δ'=>δ'=[]∧∃rs come,(∀x∈come,isName x)∧come.length+8*left ns come≤64∧rs.length+left ns come≤8∧left ns come=i∧rs++dueGo ns (i+1) come=dueF ns∧∀x e,([(S "rounds",.d (dRounds rs)),(S "come",.d (dNames come)),(S "needs",dMap Z w (dNeeds ns))]:Sto).lookup x=some e->σ'.lookup x=some e) (left ns []) (fun i σ' δ' hI=>?_) ?_) ?_
 ·obtain⟨rfl,rs,come,hn,hl,hl2,hi,hr,hs⟩:=hI
  refine⟨true,tr_plain ev_bool tr_bool fun _ _=>rfl,fun _=>gx_sub ?_ hs,fun h=>by cases h⟩;have hg:∀x∈dueStep ns come,isName x:=fun x hx=>by
   obtain⟨p,hp,rfl,_⟩:=dueStep_mem hx;exact ok.names p hp
  have hz:=hlen8 come;refine gx_step (σ₁:=[(S "group",.d (dNames (dueStep ns come)))]++[(S "rounds",.d (dRounds rs)),(S "come",.d (dNames come)),(S "needs",dMap Z w (dNeeds ns))]) (gt_st (st_assign (x:=.d (dNames (dueStep ns come))) ?_ (as_name (settable_of)) (fun _ _=>rfl) (fun _ _=>rfl) fun _=>rfl)) ?_
  ·refine ev_has (has_sorted (n:=n) hsort (ls:=(ns.filter fun p=>(!decide (p.1∈come)) && (p.2.filter fun q=>!decide (q∈come)).isEmpty).map (·.1)) (by
    rw[length_map];have:=length_filter_le (fun p:List Nat×List (List Nat)=>(!decide (p.1∈come)) && (p.2.filter fun q=>!decide (q∈come)).isEmpty) ns;have:=ok.len;omega)) (Nat.le_refl _) (by decide +kernel) (evs_1 ?_ fun _=>rfl) fun _=>rfl
   have e4:dNames ((ns.filter fun p=>(!decide (p.1∈come)) && (p.2.filter fun q=>!decide (q∈come)).isEmpty).map (·.1))=.list (ns.filterMap fun p=>if((!decide (p.1∈come)) && (p.2.filter fun q=>!decide (q∈come)).isEmpty) then some (PyData.str (tx p.1)) else none):=by
    rw[f2_filterMap,dNames,LS,map_map,map_map];rfl
   rw[e4];refine ev_lc (items:=ns) (enc:=fun p=>.d (.str (tx p.1))) (xs:=[S "name"]) (x:=dMap Z w (dNeeds ns)) (fun p=>if((!decide (p.1∈come)) && (p.2.filter fun q=>!decide (q∈come)).isEmpty) then some (PyData.str (tx p.1)) else none) ?_ ?_ ?_ ?_ ?_ ?_ (size_le (by have:=ok.len;omega)) fun p hp=>?_
   ·exact .inl ⟨_,_,rfl⟩
   ·decide +kernel
   ·decide +kernel
   ·exact fun _ _=>rfl
   ·exact ev_var rfl
   ·have:=src_map (Z:=Z) (w:=w) (H0:=H0) (n:=n) (kvs:=dNeeds ns)
    unfold dNeeds at this ⊢;rw[map_map] at this;exact this
   refine⟨[(S "name",.d (.str (tx p.1)))],_,as_name (settable_of),rfl,fun y hy=>by rw[mem_singleton.mp hy];rfl,ifs_one (p:=(!decide (p.1∈come)) && (p.2.filter fun q=>!decide (q∈come)).isEmpty) ?_,fun h=>⟨_,if_pos h,ev_var rfl (by decide +kernel)⟩,fun h=>by simp[h]⟩;refine tr_boolop (trs_and ?_ fun _=>trs_and1 ?_)
   ·exact tr_cmp (ev_var rfl) (ev_var rfl) (op_notInN (ok.names p hp) hn) rfl
   ·refine tr_cmp (x:=.d (dNames (p.2.filter fun q=>!decide (q∈come)))) ?_ (ev_list (ds:=[]) evs_nil (by decide)) (op_eqNil fun l hl=>((ok.needs p hp).2 l (mem_filter.mp hl).1)) rfl
    have e5:dNames (p.2.filter fun q=>!decide (q∈come))=.list (p.2.filterMap fun q=>if(!decide (q∈come)) then some (PyData.str (tx q)) else none):=by
     rw[f2_filterMap,dNames,LS,map_map];rfl
    rw[e5];refine ev_lc (items:=p.2) (enc:=fun q=>.d (.str (tx q))) (xs:=[S "need"]) (x:=.d (dNames p.2)) (fun q=>if(!decide (q∈come)) then some (PyData.str (tx q)) else none) ?_ ?_ ?_ ?_ ?_ ?_ (size_le (by have:=(ok.needs p hp).1;omega)) fun q hq=>?_
    ·exact .inl ⟨_,_,rfl⟩
    ·decide +kernel
    ·decide +kernel
    ·exact fun _ _=>rfl
    ·exact ev_item_map (kvs:=dNeeds ns) (k:=tx p.1) (ev_var rfl) (ev_var rfl) (find_needs ok.nodup hp) fun _ _=>rfl
    ·exact src_names
    ·refine⟨[(S "need",.d (.str (tx q)))],_,as_name (settable_of),rfl,fun y hy=>by rw[mem_singleton.mp hy];rfl,ifs_one (p:=!decide (q∈come)) ?_,fun h=>⟨_,if_pos h,ev_var rfl (by decide +kernel)⟩,fun h=>by simp[h]⟩
     exact tr_cmp (ev_var rfl) (ev_var rfl) (op_notInN ((ok.needs p hp).2 q hq) hn) rfl
  have vg:∀pos,EvE Z w H0 n (scopeOf (stm 30)) ([(S "group",.d (dNames (dueStep ns come)))]++[(S "rounds",.d (dRounds rs)),(S "come",.d (dNames come)),(S "needs",dMap Z w (dNeeds ns))]) [] (.Name "group" pos) (.d (dNames (dueStep ns come))):=fun pos=>ev_var rfl;have go:dueGo ns (i+1) come=if dueStep ns come=[] then [] else dueStep ns come::dueGo ns i (come++dueStep ns come):=rfl
  by_cases e:dueStep ns come=[]
  ·refine gx_stop (gt_if (b:=true) ?_ (fun _=>?_) fun h=>by cases h)
   ·have:=op_eqNil (Z:=Z) (w:=w) (H0:=H0) (n:=n) hg
    rw[e] at this vg;rw[e];exact tr_cmp (vg _) (ev_list (ds:=[]) evs_nil (by decide)) this rfl
   ·refine gx_ret (P:=Rd (dRounds rs)) ?_ fun g v σ' p=>⟨(by intro q;cases q),v,rfl,?_⟩
    ·exact(show EvE _ _ _ _ _ _ _ _ (.d (dRounds rs)) from ev_var rfl)
    ·rw[go,if_pos e,append_nil] at hr
     rw[←hr];exact p
  ·refine gx_step (gt_if (b:=false) ?_ (fun h=>by cases h) fun _=>gx_nil fun g=>⟨rfl,rfl,rfl⟩) ?_
   ·have:=op_eqNil (Z:=Z) (w:=w) (H0:=H0) (n:=n) hg
    rw[show(dueStep ns come).isEmpty=false by simpa using e] at this;exact tr_cmp (vg _) (ev_list (ds:=[]) evs_nil (by decide)) this rfl
   have hlt:=left_lt e;refine gx_step (gt_st (st_assign (x:=.d (.tuple [dRounds (rs++[dueStep ns come]),dNames (come++dueStep ns come)])) (bs:=[(S "come",.d (dNames (come++dueStep ns come))),(S "rounds",.d (dRounds (rs++[dueStep ns come])))]) (ev_tuple (ds:=[dRounds _,dNames _]) (evs_2 ?_ ?_ (fun _=>rfl) fun _=>rfl) (size_le (by simp)))
    (as_two (b1:=[(S "rounds",.d (dRounds (rs++[dueStep ns come])))]) (b2:=[(S "come",.d (dNames (come++dueStep ns come)))]) unp_tuple (as_name (settable_of)) (as_name (settable_of)) fun _=>rfl) (fun _ _=>rfl) (fun V o=>by have q:=o.scope;cases V;simp only at q;subst q;rfl) fun _=>rfl)) (gx_nil fun g=>?_)
   ·have e1:dRounds (rs++[dueStep ns come])=.list (rs.map dNames++[dNames (dueStep ns come)]):=by rw[dRounds,map_append];rfl
    rw[e1];exact ev_bin (y:=.d (.list [dNames (dueStep ns come)])) (ev_var rfl) (ev_list (ds:=[dNames _]) (evs_1 (vg _) fun _=>rfl) (size_le (by simp))) (op_addL (size_le (by rw[length_map];simp;omega)))
   ·have e1:dNames (come++dueStep ns come)=.list ((come.map tx).map .str++((dueStep ns come).map tx).map .str):=by rw[dNames,LS,map_append,map_append]
    rw[e1];exact ev_bin (ev_var rfl) (vg _) (op_addL (size_le (by rw[length_map,length_map,length_map,length_map];omega)))
   ·refine⟨left ns (come++dueStep ns come),by omega,rfl,rs++[dueStep ns come],come++dueStep ns come,fun x hx=>?_,?_,?_,rfl,?_,sub_cons rfl (sub_cons rfl (sub_cons rfl sub_nil))⟩
    ·rcases mem_append.mp hx with hx|hx
     ·exact hn x hx
     ·exact hg x hx
    ·rw[length_append];omega
    ·rw[length_append];simp;omega
    ·rw[go,if_neg e] at hr
     rw[←hr,append_assoc,dueGo_fuel (left ns (come++dueStep ns come)+1) i _ (by omega) (by omega)]
     rfl
 ·refine⟨rfl,[],[],fun x h=>(by cases h),?_,?_,rfl,?_,sub_cons rfl (sub_cons rfl (sub_cons rfl sub_nil))⟩
  ·have:=hl8 [];simp;omega
  ·have:=hl8 [];simp;omega
  ·have h1:left ns []≤ns.length:=length_filter_le ..
   rw[List.nil_append,dueF];exact dueGo_fuel _ _ _ (by omega) (by omega)
 ·intro g σ' δ' h
  obtain⟨v,h,_⟩:=h;cases h
def IsRng(a b c:Int)(g:Heap)(v:Value):Prop:=∃r t u k,v=.ref r∧IsRange g r a b c t u k
def dRng(a b c:Int):Ent:=.p (IsRng a b c) fun g g' v x ⟨r,t,u,k,e,h⟩=>⟨r,t,u,k,e,x _ _ h⟩
theorem rng_new{s:Shared}{η:List Addr}{h:Heap}(B:Base H0 η h){a b c:Int}{t u k:Tok}:IsRng a b c (vis (h.push {cls:=.type "range",data:=.fields #[.int a t,.int b u,.int c k]}) η) (.ref h.objs.size):=
 ⟨_,t,u,k,rfl,vis_get (IsRange.new ..) B.fresh⟩
theorem fn_range1{k:Int}:FnP Z w H0 n (.type "range") [.d (.int k)] (IsRng 0 k 1):=by
 intro A s η vs g B hm
 match vs,hm with
 |[v],⟨m,_⟩=>
 obtain⟨t,rfl⟩:=rd_int m;exact call_range_1 ⟨_,_,rfl,ext_push _ _,rng_new (s:=s) B⟩
theorem fn_range2{a b:Int}:FnP Z w H0 n (.type "range") [.d (.int a),.d (.int b)] (IsRng a b 1):=by
 intro A s η vs g B hm
 match vs,hm with
 |[v,u],⟨m,m2,_⟩=>
 obtain⟨t,rfl⟩:=rd_int m;obtain⟨t',rfl⟩:=rd_int m2;exact call_range_2 ⟨_,_,rfl,ext_push _ _,rng_new (s:=s) B⟩
theorem has_range1(hg:GIs H0 "range" (.type "range")){k:Int}:Has Z w H0 "range" n [.d (.int k)] (IsRng 0 k 1):=⟨_,hg,callee_type,fn_range1⟩
theorem has_range2(hg:GIs H0 "range" (.type "range")){a b:Int}:Has Z w H0 "range" n [.d (.int a),.d (.int b)] (IsRng a b 1):=⟨_,hg,callee_type,fn_range2⟩
theorem src_rng{a b:Int}(ha: -(2 ^ 62)≤a)(ha':a<2 ^ 62)(hb: -(2 ^ 62)≤b)(hb':b<2 ^ 62):SrcV Z w H0 n (dRng a b 1) ((List.range (b - a).toNat).map fun i:Nat=>.d (.int (a+(i:Int)))):=by
 intro A s η v g B m;obtain⟨r,t,u,k,rfl,hr⟩:=m;have hs:Builtin.Range.rangeSize a b 1=((b - a).toNat:Int):=by rw[rangeSize_one];split<;> omega
 have hnext:IsRangeIter (s.heap.push {cls:=.type "range_iterator",data:=.fields #[rawInt a,rawInt (Builtin.Range.rangeSize a b 1),rawInt 1]}) s.heap.objs.size (a+((0:Nat):Int)*1) (((b - a).toNat:Int) - ((0:Nat):Int)) 1:=by
  have e:a+((0:Nat):Int)*1=a:=by omega
  have e2:(((b - a).toNat:Int) - ((0:Nat):Int))=Builtin.Range.rangeSize a b 1:=by rw[hs];omega
  rw[e,e2];exact Heap.get?_push_size _ rfl
 refine wpAny_pyIter_range (vis_to _ _ _ _ hr) (small_one ha ha' hb hb') ⟨s.heap.objs.size,[s.heap.objs.size],[s.heap.objs.size],(fun i h=>IsRangeIter h s.heap.objs.size (a+(i:Nat)*1) (((b - a).toNat:Int) - (i:Nat)) 1),_,s.toks,rfl,rfl,ext_push _ _,⟨?_,?_,?_⟩,hnext,?_,?_⟩
 ·have W:=Walks.range (prog:=Z) (w:=w) g.hh s.heap.objs.size a 1 (b - a).toNat
  have e:(b - a).toNat=((List.range (b - a).toNat).map fun i:Nat=>Ent.d (.int (a+i))).length:=by rw[length_map,length_range]
  have:=Walks.imp (P':=fun i v=>∃e,((List.range (b - a).toNat).map fun i:Nat=>Ent.d (.int (a+i)))[i]? =some e∧Means (vis s.heap η) v e) (k:=(b - a).toNat) (St:=fun i h=>IsRangeIter h s.heap.objs.size (a+(i:Nat)*1) (((b - a).toNat:Int) - (i:Nat)) 1) {
    sub:=W.sub,frame:=W.frame,done:=W.done,self:=W.self
    item:=fun i s' Q E hi st hQ=>W.item i s' Q E hi st fun v h' tk p st' kb=>hQ v h' tk (show(∃t,v=.int (a+i*1) t)∧i<(b - a).toNat from⟨p,hi⟩) st' kb:Walks Z w A s.heap.objs.size [s.heap.objs.size] [s.heap.objs.size] (b - a).toNat (fun i v=>(∃t,v=.int (a+i*1) t)∧i<(b - a).toNat) _} fun i v p=>by
   obtain⟨⟨t,rfl⟩,hi⟩:=p;refine⟨.d (.int (a+i)),by rw[getElem?_map,getElem?_range hi];rfl,?_⟩;rw[Int.mul_one];exact int_rd _ _ _
  rw[←e];exact this
 ·intro i h st b hb
  rw[mem_singleton.mp hb];exact⟨_,st⟩
 ·intro i h st
  exact⟨_,_,st,rfl,by decide⟩
 ·intro b hb
  rw[mem_singleton.mp hb];exact fresh_of (Nat.le_refl _)
 ·intro b hb
  rw[mem_singleton.mp hb];exact⟨⟨_,Heap.get?_push_size _ rfl⟩,B.fresh⟩
abbrev CW:=Int×List (List Nat)
def dCW(p:CW):PyData:=.list [.int p.1,dNames p.2]
def dCWs(ps:List CW):PyData:=.list (ps.map dCW)
def ltNames:List (List Nat)->List (List Nat)->Bool
 |[],ys=>decide (0<ys.length)
 |_::_,[]=>false
 |x::xs,y::ys=>if x=y then ltNames xs ys else decide (x<y)
def ltW(a b:CW):Bool:=if a.1=b.1 then (if a.2=b.2 then false else ltNames a.2 b.2) else decide (a.1<b.1)
def minW(ps:List CW):CW:=(ps[argBest (fun i j=>ltW ((ps[i]?).getD (0,[])) ((ps[j]?).getD (0,[]))) (ps.length - 1)]?).getD (0,[])
def wayOk(l:List (List Nat)):Prop:=∀x∈l,isName x
theorem LtD.le{m k:Nat}{x y:PyData}{b:Bool}(h:LtD m x y b)(hk:m≤k):LtD k x y b:=fun A s u v hu=>h A s u v (by omega)
theorem same_tx(a b:List Nat):PySem.Spec.same (.str (tx a)) (.str (tx b))=decide (a=b):=by
 rw[PySem.Spec.same,tx_beq]
 by_cases h:a=b<;> simp[h]
theorem lex_names:∀{a b:List (List Nat)},wayOk a->wayOk b->Lex 100 ((a.map tx).map .str) ((b.map tx).map .str) (ltNames a b)
 |[],ys,_,_=>by
  have:=Lex.nilL (m:=100) (ys:=(ys.map tx).map .str);rw[length_map,length_map] at this;exact this
 |_::_,[],_,_=>.nilR
 |x::xs,y::ys,ha,hb=>by
  have hx:=fine_str (strOk_name (ha x mem_cons_self));have hy:=fine_str (strOk_name (hb y mem_cons_self));simp only[map_cons];rw[ltNames]
  by_cases e:x=y
  ·rw[if_pos e]
   exact .same hx hy (by rw[same_tx,decide_eq_true e]) (lex_names (fun z hz=>ha z (mem_cons_of_mem _ hz)) fun z hz=>hb z (mem_cons_of_mem _ hz))
  ·rw[if_neg e]
   refine .diff hx hy (by rw[same_tx,decide_eq_false e]) ?_;have:=ltD_str (m:=100) (tx x) (tx y);exact cast (congrArg (LtD 100 _ _) (decide_eq_decide.mpr (by simp[tx]))) this
theorem same_names:∀(a b:List (List Nat)),PySem.Spec.sameAll ((a.map tx).map .str) ((b.map tx).map .str)=decide (a=b)
 |[],[]=>by simp[PySem.Spec.sameAll]
 |[],_::_=>by simp[PySem.Spec.sameAll]
 |_::_,[]=>by simp[PySem.Spec.sameAll]
 |x::xs,y::ys=>by
  simp only[map_cons];rw[PySem.Spec.sameAll,same_tx,same_names xs ys]
  by_cases h:x=y<;> by_cases h2:xs=ys<;> simp[h,h2]
theorem ltD_CW{a b:CW}(ha:wayOk a.2)(hb:wayOk b.2):LtD 150 (dCW a) (dCW b) (ltW a b):=by
 have fi:∀k:Int,fine (.int k)=true:=fun k=>by simp[fine,clean,PyData.depth]
 have hn:LtD 102 (dNames a.2) (dNames b.2) (ltNames a.2 b.2):=ltD_list (lex_names ha hb) (by decide);refine LtD.le (m:=104) (ltD_list (m:=102) ?_ (by decide)) (by decide);unfold ltW
 by_cases e:a.1=b.1
 ·rw[if_pos e]
  refine .same (fi _) (fi _) (by simp[PySem.Spec.same,e]) ?_;have sn:PySem.Spec.same (dNames a.2) (dNames b.2)=decide (a.2=b.2):=by unfold dNames LS;rw[PySem.Spec.same,same_names]
  by_cases e2:a.2=b.2
  ·rw[if_pos e2]
   exact .same (fine_names ha) (fine_names hb) (by rw[sn,decide_eq_true e2]) .nilL
  ·rw[if_neg e2]
   exact .diff (fine_names ha) (fine_names hb) (by rw[sn,decide_eq_false e2]) hn
 ·rw[if_neg e]
  exact .diff (fi _) (fi _) (by simp[PySem.Spec.same,e]) (ltD_int _ _)
theorem has_minW(hg:GIs H0 "min" (.builtin "min")){ps:List CW}(hn:0<ps.length)(ok:∀p∈ps,wayOk p.2):HasD Z w H0 "min" (n+1) [dCWs ps] (dCW (minW ps)):=by
 refine has_min hg (bt:=fun i j=>ltW ((ps[i]?).getD (0,[])) ((ps[j]?).getD (0,[]))) (by rwa [length_map]) (fun i j x y h1 h2=>?_) ?_
 ·rw[getElem?_map] at h1 h2
  cases c1:ps[i]? with
  |none=>rw[c1] at h1;cases h1
  |some k1=>
  cases c2:ps[j]? with
  |none=>rw[c2] at h2;cases h2
  |some k2=>
  rw[c1] at h1;rw[c2] at h2;cases h1;cases h2;exact ltD_CW (ok _ (mem_of_getElem? c1)) (ok _ (mem_of_getElem? c2))
 ·rw[length_map,getElem?_map]
  have hlt:argBest (fun i j=>ltW ((ps[i]?).getD (0,[])) ((ps[j]?).getD (0,[]))) (ps.length - 1)<ps.length:=by
   have:=argBest_le (fun i j=>ltW ((ps[i]?).getD (0,[])) ((ps[j]?).getD (0,[]))) (ps.length - 1);omega
  rw[getElem?_eq_getElem hlt,minW,getElem?_eq_getElem hlt]
  rfl
theorem st_assign_lc2{α γ:Type}{items:List α}{enc:α->Ent}{items2:α->List γ}{enc2:α->γ->Ent}(F:α->γ->Option PyData){elt t1 i1 t2 i2:Expr}{ifs2:List Expr}{scope:Scope}{pos spos py:Pos}{xs1 xs2:List Str}{x:Ent}{y:Str}(ht1:(∃y p,t1=.Name y p)∨∃es k p,t1=.Tuple es k p)(ht2:(∃y p,t2=.Name y p)∨∃es k p,t2=.Tuple es k p)
  (hok:compOk sc scope=true)(hxs:∀x∈xs1++xs2,scope.names.lookup x=some .local∨scope.names.lookup x=some .cell)(hs1:∀V x,foldedSetIterable i1 V x=pure x)(hs2:∀V x,foldedSetIterable i2 V x=pure x)
  (hsw:∀V,EnvOk sc V->swapsWith (.ListComp elt [⟨t1,i1,[],0⟩,⟨t2,i2,ifs2,0⟩] scope pos) (some (.Name y py)) spos.line V=pure true)(hy:settable sc y)
  (hi:EvE Z w H0 n sc σ δ i1 x)(hsrc:SrcV Z w H0 n x (items.map enc))(hz:(items.map fun a=>(items2 a).length).sum≤sizeLine)
  (turn:∀a∈items,∃bs x2,AsP Z w H0 n (scIn sc scope) t1 (enc a) bs∧bs.map (·.1)=xs1∧(∀y∈xs1,(stoIn scope σ).lookup y=none)∧
   EvE Z w H0 n (scIn sc scope) (bs++stoIn scope σ) δ i2 x2∧SrcV Z w H0 n x2 ((items2 a).map (enc2 a))∧∀c∈items2 a,TurnLC Z w H0 n (scIn sc scope) (bs++stoIn scope σ) δ t2 ifs2 elt xs2 (enc2 a) (F a) c):
  StP Z w H0 n sc σ δ (.Assign [.Name y py] (.ListComp elt [⟨t1,i1,[],0⟩,⟨t2,i2,ifs2,0⟩] scope pos) spos) (.next ((y,.d (.list (items.flatMap fun a=>(items2 a).filterMap (F a))))::σ)):=by
 have hlen:∀l:List α,(l.flatMap fun a=>(items2 a).filterMap (F a)).length≤(l.map fun a=>(items2 a).length).sum:=fun l=>by
  induction l with
  |nil=>simp
  |cons a l ih=>
   rw[flatMap_cons,length_append,map_cons,sum_cons];have:((items2 a).filterMap (F a)).length≤(items2 a).length:=length_filterMap_le ..;omega
 refine st_assign_comp (K:=listK) (xs:=xs1++xs2) (fun i=>(items.take i).flatMap fun a=>(items2 a).filterMap (F a)) (form_lc2a ht1) rfl hok hxs (by simpa using newAcc_list) (fun V use=>rfl) hs1 hsw hy (it_of hi hsrc ht1) ?_ fun h η D hD hK=>?_
 ·intro i x hx
  rw[getElem?_map] at hx;cases ha:items[i]? with
  |none=>rw[ha] at hx;simp at hx
  |some a=>
   rw[ha] at hx;simp at hx;subst hx;have hm:a∈items:=mem_of_getElem? ha;obtain⟨bs,x2,h1,h2,h3,h4,h5,h6⟩:=turn a hm;refine⟨bs,true,h1,fun y hy=>mem_append_left _ (by rw[←h2];exact hy),fun y hy=>h3 y (by rw[←h2];exact hy),ifs_nil,fun _=>?_,fun h=>by cases h⟩;have e:((items.take (i+1)).flatMap fun a=>(items2 a).filterMap (F a))=((items.take i).flatMap fun a=>(items2 a).filterMap (F a))++(items2 a).filterMap (F a):=by
    rw[take_add_one,ha,flatMap_append];simp
   have bound:((items.take i).flatMap fun a=>(items2 a).filterMap (F a)).length+(items2 a).length≤sizeLine:=by
    have h7:=hlen (items.take i);have h8:((items.take (i+1)).map fun a=>(items2 a).length).sum≤(items.map fun a=>(items2 a).length).sum:=by
     have:=congrArg (fun l=>(l.map fun a=>(items2 a).length).sum) (take_append_drop (i+1) items);simp only[map_append,sum_append] at this;omega
    rw[take_add_one,ha,map_append,sum_append] at h8;simp only[Option.toList,map_cons,map_nil,sum_cons,List.sum_nil] at h8;omega
   have tp:=turnsP_from (iter:=i2) bound h6;have:=nested_CoP (K:=listK) (xs:=xs1++xs2) _ (form_lc2b (elt:=elt) (t1:=t1) (i1:=i1) (ifs1:=[]) (i2:=i2) (ifs2:=ifs2) (scope:=scope) (pos:=pos) ht2) (it_of h4 h5 ht2) hs2 tp (fun y hy=>mem_append_right _ hy);simp only[take_zero,List.filterMap_nil,append_nil,length_map,take_length] at this;show CoP _ _ _ _ _ _ _ _ _ _ _ ((items.take (i+1)).flatMap fun a=>(items2 a).filterMap (F a));rw[e];exact this
 ·have:=listK_rd hD hK
  rwa [length_map,take_length] at this
abbrev RR:=List (List (List Nat))
abbrev WS:=List (List (List Nat))
def dWays(ws:WS):PyData:=.list (ws.map dNames)
def allStep(pat:List Nat)(ws:WS)(group:List (List Nat)):WS:=ws.flatMap fun way=>(group.filter (fitsN pat)).map fun x=>way++[x]
def priceSum(way:List (List Nat)):Int:=((List.range (way.length - 1)).map fun i=>priceF ((way[i]?).getD []) ((way[i+1]?).getD [])).sum
def costsOf(ws:WS):List CW:=ws.map fun w=>(priceSum w,w)
def bestOf(cs:List CW)(rs:RR):Option CW:=if cs≠[]∧rs≠[] then some (minW cs) else none
def dBest:Option CW->PyData
 |none=>.none
 |some p=>dCW p
def allF(rs:RR)(pat:List Nat):Option CW:=bestOf (costsOf (rs.foldl (allStep pat) [[]])) rs
structure RoundsOk(rs:RR):Prop where
 total:(rs.map List.length).sum≤8
 len:rs.length≤8
 names:∀g∈rs,∀x∈g,isName x
theorem len_allStep(pat:List Nat)(group:List (List Nat)):∀ws:WS,(allStep pat ws group).length≤ws.length*group.length
 |[]=>by simp[allStep]
 |w::ws=>by
  have ih:=len_allStep pat group ws;unfold allStep at ih ⊢;rw[flatMap_cons,length_append,length_map,length_cons,Nat.succ_mul];have:=length_filter_le (fitsN pat) group;omega
theorem sum_const{α:Type}(k:Nat):∀l:List α,(l.map fun _=>k).sum=l.length*k
 |[]=>by simp
 |_::l=>by rw[map_cons,sum_cons,sum_const k l,length_cons,Nat.succ_mul,Nat.add_comm]
theorem le_two_pow(k:Nat):k≤2 ^ k:=Nat.le_of_lt Nat.lt_two_pow_self
structure WaysOk(rs:RR)(i:Nat)(ws:WS):Prop where
 len:ws.length≤2 ^ ((rs.take i).map List.length).sum
 ok:∀w∈ws,wayOk w∧w.length≤i
theorem sum_take{rs:RR}{i:Nat}{g:List (List Nat)}(h:rs[i]? =some g):((rs.take (i+1)).map List.length).sum=((rs.take i).map List.length).sum+g.length:=by
 rw[take_add_one,h,map_append,sum_append];simp
theorem sum_take_le(rs:RR)(i:Nat):((rs.take i).map List.length).sum≤(rs.map List.length).sum:=by
 have:=congrArg (fun l=>(l.map List.length).sum) (take_append_drop i rs);simp only[map_append,sum_append] at this;omega
theorem waysOk_step{pat:List Nat}{rs:RR}{i:Nat}{g:List (List Nat)}{ws:WS}(h:rs[i]? =some g)(hn:∀x∈g,isName x)(ok:WaysOk rs i ws):WaysOk rs (i+1) (allStep pat ws g) where
 len:=by
  rw[sum_take h,Nat.pow_add];exact Nat.le_trans (len_allStep pat g ws) (Nat.mul_le_mul ok.len (le_two_pow _))
 ok:=fun w hw=>by
  obtain⟨v,hv,hw⟩:=mem_flatMap.mp hw;obtain⟨x,hx,rfl⟩:=mem_map.mp hw;have:=ok.ok v hv;refine⟨fun y hy=>?_,by rw[length_append];simp;omega⟩;rcases mem_append.mp hy with hy|hy
  ·exact this.1 y hy
  ·rw[mem_singleton.mp hy];exact hn x (mem_filter.mp hx).1
theorem waysOk_take{pat:List Nat}{rs:RR}(hn:∀g∈rs,∀x∈g,isName x):∀i,i≤rs.length->WaysOk rs i ((rs.take i).foldl (allStep pat) [[]])
 |0,_=>⟨by simp,fun w hw=>by
   rw[take_zero,List.foldl_nil,mem_singleton] at hw;subst hw;exact⟨fun x h=>(by cases h),Nat.le_refl _⟩⟩
 |i+1,hi=>by
  have hlt:i<rs.length:=by omega
  have e:=getElem?_eq_getElem hlt;rw[take_foldl e];exact waysOk_step e (hn _ (getElem_mem hlt)) (waysOk_take hn i (by omega))
theorem src_ways{ws:WS}:SrcV Z w H0 n (.d (dWays ws)) (ws.map fun w=>.d (dNames w)):=by
 have:=src_list (Z:=Z) (w:=w) (H0:=H0) (n:=n) (ds:=ws.map dNames);rw[map_map] at this;exact this
theorem clean_rounds{rs:RR}(h:∀g∈rs,∀x∈g,isName x):cleanAll (rs.map dNames)=true:=by
 induction rs with
 |nil=>rfl
 |cons g r ih=>rw[map_cons,cleanAll,fine_clean (fine_names (h g mem_cons_self)),ih fun g' hg=>h g' (mem_cons_of_mem _ hg)];rfl
theorem depth_names(g:List (List Nat)):PyData.depth (dNames g)=1:=by
 unfold dNames LS;rw[PyData.depth,depth_strs]
theorem depth_rounds:∀rs:RR,PyData.depthAll (rs.map dNames)≤1
 |[]=>by simp[PyData.depthAll]
 |g::r=>by
  have:=depth_rounds r;rw[map_cons,PyData.depthAll,depth_names];omega
theorem op_neNilR{rs:RR}(h:∀g∈rs,∀x∈g,isName x):OpBin Z w H0 n (compareOp .NotEq) (.d (dRounds rs)) (.d (.list [])) (Rd (.bool (!rs.isEmpty))):=by
 have hf:fine (dRounds rs)=true:=by
  unfold fine dRounds;have:=depth_rounds rs;rw[clean,clean_rounds h,PyData.depth,Bool.true_and,decide_eq_true_eq];omega
 have:=op_neD (Z:=Z) (w:=w) (H0:=H0) (n:=n) hf fine_nil;unfold dRounds at this;rw[same_nil] at this;have e:(rs.map dNames).isEmpty=rs.isEmpty:=by cases rs<;> rfl
 rw[e] at this;exact this
theorem clean_CWs{cs:List CW}(h:∀p∈cs,wayOk p.2):cleanAll (cs.map dCW)=true:=by
 induction cs with
 |nil=>rfl
 |cons p r ih=>
  rw[map_cons,cleanAll,ih fun q hq=>h q (mem_cons_of_mem _ hq),Bool.and_true,dCW,clean,cleanAll,cleanAll,cleanAll,clean,fine_clean (fine_names (h p mem_cons_self))];rfl
theorem depth_CWs:∀cs:List CW,PyData.depthAll (cs.map dCW)≤2
 |[]=>by simp[PyData.depthAll]
 |p::r=>by
  have:=depth_CWs r;rw[map_cons,PyData.depthAll,dCW,PyData.depth,PyData.depthAll,PyData.depthAll,PyData.depthAll,depth_names,PyData.depth];omega
theorem op_neNilCW{cs:List CW}(h:∀p∈cs,wayOk p.2):OpBin Z w H0 n (compareOp .NotEq) (.d (dCWs cs)) (.d (.list [])) (Rd (.bool (!cs.isEmpty))):=by
 have hf:fine (dCWs cs)=true:=by
  unfold fine dCWs;have:=depth_CWs cs;rw[clean,clean_CWs h,PyData.depth,Bool.true_and,decide_eq_true_eq];omega
 have:=op_neD (Z:=Z) (w:=w) (H0:=H0) (n:=n) hf fine_nil;unfold dCWs at this;rw[same_nil] at this;have e:(cs.map dCW).isEmpty=cs.isEmpty:=by cases cs<;> rfl
 rw[e] at this;exact this
theorem all_body(hg:GIs H0 "len" (.builtin "len"))(hmin:GIs H0 "min" (.builtin "min"))(hsum:GIs H0 "sum" (.builtin "sum"))(hrange:GIs H0 "range" (.type "range")){rs:RR}{pat:List Nat}(ok:RoundsOk rs){a b:Nat}(hp:pat=[a,b])(ha:isSign a)(hb:isSign b)
  (hfits:∀a b l,isSign a->isSign b->isName l->HasD Z w H0 "_law_fits" (n+1) [.str (tx [a,b]),.str (tx l)] (.bool (fitsF (a,b) l)))
  (hprice:∀x y,isName x->isName y->HasD Z w H0 "_law_price" (n+1) [.str (tx x),.str (tx y)] (.int (priceF x y))):
  ExP Z w H0 (n+1) (scopeOf (stm 32)) [(S "rounds",.d (dRounds rs)),(S "pattern",.d (.str (tx pat)))] [] (bodyOf (stm 32)) (.ret (.d (dBest (allF rs pat)))):=by
 refine ex_cons (σ':=[(S "ways",.d (dWays [[]]))]++[(S "rounds",.d (dRounds rs)),(S "pattern",.d (.str (tx pat)))]) (st_assign (ev_list (ds:=[.list []]) (evs_1 (ev_list (ds:=[]) evs_nil (by decide)) fun _=>rfl) (by decide)) (as_name (settable_of)) (fun _ _=>rfl) (fun _ _=>rfl) fun _=>rfl) ?_;refine ex_cons (st_for (J:=fun i=>[(S "ways",.d (dWays ((rs.take i).foldl (allStep pat) [[]]))),(S "rounds",.d (dRounds rs)),(S "pattern",.d (.str (tx pat)))]) (x:=.d (dRounds rs)) (ds:=rs.map fun g=>.d (dNames g)) (ev_var rfl) src_ways (sub_cons rfl (sub_cons rfl (sub_cons rfl sub_nil))) (fun i e he=>?_) (fun _ _=>rfl) (.inl ⟨_,_,rfl⟩)) ?_
 ·rw[getElem?_map] at he
  cases hgi:rs[i]? with
  |none=>rw[hgi] at he;cases he
  |some g=>
  rw[hgi] at he;cases he;have hmem:g∈rs:=mem_of_getElem? hgi;have hlt:=(List.getElem?_eq_some_iff.mp hgi).1;have wok:=waysOk_take (pat:=pat) ok.names i (by omega);have wok':=waysOk_step (pat:=pat) hgi (ok.names g hmem) wok;rw[take_foldl hgi];generalize (rs.take i).foldl (allStep pat) [[]]=ws at wok wok' ⊢;refine⟨[(S "group",.d (dNames g))],as_name (settable_of),ex_sub (ex_cons (σ':=(S "ways",.d (dWays (allStep pat ws g)))::([(S "group",.d (dNames g))]++[(S "ways",.d (dWays ws)),(S "rounds",.d (dRounds rs)),(S "pattern",.d (.str (tx pat)))])) ?_ ex_nil) (sub_cons rfl (sub_cons rfl (sub_cons rfl sub_nil)))⟩;have e3:dWays (allStep pat ws g)=.list (ws.flatMap fun v=>g.filterMap fun x=>if fitsN pat x then some (dNames (v++[x])) else none):=by
   unfold dWays allStep;rw[List.map_flatMap]
   congr 2
   funext v
   rw[f2_filterMap,map_map];rfl
  rw[e3];have t8:=ok.total;have hle:=sum_take_le rs i;have hle':=sum_take_le rs (i+1);have h256:∀k,k≤8->2 ^ k≤256:=fun k hk=>Nat.pow_le_pow_right (by decide) hk;have l1:=wok.len;have l2:=h256 _ (Nat.le_trans hle t8);have g8:g.length≤8:=by rw[sum_take hgi] at hle';omega
  refine st_assign_lc2 (items:=ws) (enc:=fun v=>.d (dNames v)) (items2:=fun _=>g) (enc2:=fun _ x=>.d (.str (tx x))) (F:=fun v x=>if fitsN pat x then some (dNames (v++[x])) else none) (xs1:=[S "way"]) (xs2:=[S "name"]) (x:=.d (dWays ws)) ?_ ?_ ?_ ?_ ?_ ?_ ?_ ?_ ?_ ?_ ?_ fun v hv=>?_
  ·exact .inl ⟨_,_,rfl⟩
  ·exact .inl ⟨_,_,rfl⟩
  ·decide +kernel
  ·decide +kernel
  ·exact fun _ _=>rfl
  ·exact fun _ _=>rfl
  ·exact fun V o=>by have q:=o.scope;cases V;simp only at q;subst q;rfl
  ·exact settable_of
  ·exact ev_var rfl
  ·exact src_ways
  ·refine size_le ?_
   rw[sum_const];exact Nat.le_trans (Nat.mul_le_mul (Nat.le_trans l1 l2) g8) (by decide)
  ·refine⟨[(S "way",.d (dNames v))],.d (dNames g),as_name (settable_of),rfl,fun y hy=>by rw[mem_singleton.mp hy];rfl,ev_var rfl (by decide +kernel),src_names,fun x hx=>?_⟩
   refine⟨[(S "name",.d (.str (tx x)))],_,as_name (settable_of),rfl,fun y hy=>by rw[mem_singleton.mp hy];rfl,ifs_one (p:=fitsN pat x) ?_,fun h=>⟨_,if_pos h,?_⟩,fun h=>by simp[h]⟩
   ·have q:=hfits a b x ha hb (ok.names g hmem x hx)
    have e5:fitsN pat x=fitsF (a,b) x:=by rw[hp];rfl
    rw[e5];rw[←hp] at q;exact tr_has q (Nat.le_refl _) (by decide +kernel) (evs_2 (ev_var rfl) (ev_var rfl) (fun _=>rfl) fun _=>rfl) fun _=>rfl
   ·have e6:dNames (v++[x])=.list ((v.map tx).map .str++[.str (tx x)]):=by rw[dNames,LS,map_append,map_append];rfl
    rw[e6];have v9:=(wok.ok v hv).2;have r8:=ok.len;exact ev_bin (x:=.d (dNames v)) (y:=.d (.list [.str (tx x)])) (ev_var rfl) (ev_list (ds:=[.str _]) (evs_1 (ev_var rfl) fun _=>rfl) (size_le (by simp))) (op_addL (size_le (by rw[length_map,length_map];simp;omega)))
 have ef:(rs.map fun g=>Ent.d (dNames g)).length=rs.length:=length_map ..;rw[ef,take_length];have wok:=waysOk_take (pat:=pat) ok.names rs.length (Nat.le_refl _);rw[take_length] at wok;have hall:allF rs pat=bestOf (costsOf (rs.foldl (allStep pat) [[]])) rs:=rfl;rw[hall];generalize rs.foldl (allStep pat) [[]]=ws at wok ⊢;have l8:=ok.len;have l256:ws.length≤256:=by
  have h1:=wok.len;rw[take_length] at h1;exact Nat.le_trans h1 (Nat.pow_le_pow_right (by decide) ok.total)
 have ec:dCWs (costsOf ws)=.list (ws.filterMap fun v=>some (dCW (priceSum v,v))):=by
  rw[filterMap_eq_map',dCWs,costsOf,map_map];rfl
 refine ex_cons (σ':=(S "costs",.d (dCWs (costsOf ws)))::[(S "ways",.d (dWays ws)),(S "rounds",.d (dRounds rs)),(S "pattern",.d (.str (tx pat)))]) ?_ ?_
 ·rw[ec]
  refine st_assign_lc (items:=ws) (enc:=fun v=>.d (dNames v)) (fun v=>some (dCW (priceSum v,v))) (xs:=[S "way"]) (x:=.d (dWays ws)) ?_ ?_ ?_ ?_ ?_ ?_ ?_ ?_ (size_le (by omega)) fun v hv=>?_
  ·exact .inl ⟨_,_,rfl⟩
  ·decide +kernel
  ·decide +kernel
  ·exact fun _ _=>rfl
  ·exact fun V o=>by have q:=o.scope;cases V;simp only at q;subst q;rfl
  ·exact settable_of
  ·exact ev_var rfl
  ·exact src_ways
  ·refine⟨[(S "way",.d (dNames v))],true,as_name (settable_of),rfl,fun y hy=>by rw[mem_singleton.mp hy];rfl,ifs_nil,fun _=>⟨_,rfl,?_⟩,fun h=>by cases h⟩
   refine ev_list (ds:=[.int (priceSum v),dNames v]) (evs_2 ?_ (ev_var rfl) (fun _=>rfl) fun _=>rfl) (size_le (by simp));have v9:=(wok.ok v hv).2;have vn:=(wok.ok v hv).1;have e1:PyData.list ((List.range (v.length - 1)).filterMap fun i=>some (PyData.int (priceF ((v[i]?).getD []) ((v[i+1]?).getD []))))=.list (((List.range (v.length - 1)).map fun i=>priceF ((v[i]?).getD []) ((v[i+1]?).getD [])).map .int):=by
    rw[filterMap_eq_map',map_map];rfl
   refine ev_has (has_sum (n:=n) hsum (ks:=(List.range (v.length - 1)).map fun i=>priceF ((v[i]?).getD []) ((v[i+1]?).getD []))) (Nat.le_refl _) (by decide +kernel) (evs_1 ?_ fun _=>rfl) fun _=>rfl;rw[←e1];refine ev_lc (items:=List.range (v.length - 1)) (enc:=fun i=>.d (.int (1+(i:Int)))) (fun i=>some (PyData.int (priceF ((v[i]?).getD []) ((v[i+1]?).getD [])))) (xs:=[S "k"]) (x:=dRng 1 v.length 1) ?_ ?_ ?_ ?_ ?_ ?_ (size_le (by rw[length_range];omega)) fun i hi=>?_
   ·exact .inl ⟨_,_,rfl⟩
   ·decide +kernel
   ·decide +kernel
   ·exact fun _ _=>rfl
   ·refine ev_has (has_range2 (n:=n+1) hrange) (Nat.le_refl _) (by decide +kernel) (evs_2 ev_int ?_ (fun _=>rfl) fun _=>rfl) fun _=>rfl
    have hz:((v.map tx).map PyData.str).length≤sizeLine:=size_le (by rw[length_map,length_map];omega);have e8:PyData.int v.length=.int ((v.map tx).map PyData.str).length:=by rw[length_map,length_map]
    rw[e8];exact ev_has (has_len_list (n:=n+1) hg hz) (Nat.le_refl _) (by decide +kernel) (evs_1 (show EvE _ _ _ _ _ _ _ _ (.d (dNames v)) from ev_var rfl) fun _=>rfl) fun _=>rfl
   ·have h2:((v.length:Int) - 1).toNat=v.length - 1:=by omega
    have:=src_rng (Z:=Z) (w:=w) (H0:=H0) (n:=n+1) (a:=1) (b:=v.length) (by decide) (by decide) (by omega) (by omega);rwa [h2] at this
   ·have hi':i<v.length - 1:=mem_range.mp hi
    refine⟨[(S "k",.d (.int (1+(i:Int))))],true,as_name (settable_of),rfl,fun y hy=>by rw[mem_singleton.mp hy];rfl,ifs_nil,fun _=>⟨_,rfl,?_⟩,fun h=>by cases h⟩;have a1:v[i]? =some v[i]:=getElem?_eq_getElem (by omega);have a2:v[i+1]? =some v[i+1]:=getElem?_eq_getElem (by omega);rw[a1,a2];refine ev_has (hprice v[i] v[i+1] (vn _ (getElem_mem _)) (vn _ (getElem_mem _))) (Nat.le_refl _) (by decide +kernel) (evs_2 ?_ ?_ (fun _=>rfl) fun _=>rfl) fun _=>rfl
    ·refine ev_item_list (xs:=(v.map tx).map .str) (k:=1+(i:Int) - 1) (show EvE _ _ _ _ _ _ _ _ (.d (dNames v)) from ev_var rfl) (ev_bin (ev_var rfl) ev_int op_subI) (by omega) (by omega) ?_ fun _ _=>rfl
     rw[show(1+(i:Int) - 1).toNat=i by omega,getElem?_map,getElem?_map,a1];rfl
    ·refine ev_item_list (xs:=(v.map tx).map .str) (k:=1+(i:Int)) (show EvE _ _ _ _ _ _ _ _ (.d (dNames v)) from ev_var rfl) (ev_var rfl) (by omega) (by omega) ?_ fun _ _=>rfl
     rw[show(1+(i:Int)).toNat=i+1 by omega,getElem?_map,getElem?_map,a2];rfl
 have cl:(costsOf ws).length=ws.length:=length_map ..;have cok:∀p∈costsOf ws,wayOk p.2:=fun p hp=>by
  obtain⟨v,hv,rfl⟩:=mem_map.mp hp;exact(wok.ok v hv).1
 have e9:dBest (bestOf (costsOf ws) rs)=if(!(costsOf ws).isEmpty && !rs.isEmpty) then dCW (minW (costsOf ws)) else .none:=by
  unfold bestOf;cases h1:costsOf ws<;> cases h2:rs<;> simp[dBest]
 rw[e9];refine ex_ret (st_return (ev_ifd (tr_boolop (trs_and ?_ fun _=>trs_and1 ?_)) (fun h=>?_) fun _=>ev_none))
 ·exact tr_cmp (ev_var rfl) (ev_list (ds:=[]) evs_nil (by decide)) (op_neNilCW cok) rfl
 ·exact tr_cmp (ev_var rfl) (ev_list (ds:=[]) evs_nil (by decide)) (op_neNilR ok.names) rfl
 ·rw[Bool.and_eq_true] at h
  have hpos:0<(costsOf ws).length:=by
   cases h3:costsOf ws with
   |nil=>rw[h3] at h;simp at h
   |cons _ _=>simp
  exact ev_has (has_minW (n:=n) hmin hpos cok) (Nat.le_refl _) (by decide +kernel) (evs_1 (ev_var rfl) fun _=>rfl) fun _=>rfl
def rowOf(lev:List Nat->List Nat->Int)(ts:List CW)(x:List Nat):List CW:=ts.map fun p=>(p.1+(if p.2=[] then 0 else lev (p.2.getLastD []) x),p.2++[x])
def namesOf(parts:List (Option Str))(ts:List CW)(g:List (List Nat)):List (List Nat):=g.filter fun x=>!ts.isEmpty && takesF parts x
def threadStep(lev:List Nat->List Nat->Int)(parts:List (Option Str))(ts:List CW)(g:List (List Nat)):List CW:=(namesOf parts ts g).map fun x=>minW (rowOf lev ts x)
def threadF(lev:List Nat->List Nat->Int)(rs:RR)(parts:List (Option Str)):Option CW:=bestOf (rs.foldl (threadStep lev parts) [(0,[])]) rs
structure ThOk(i:Nat)(ts:List CW):Prop where
 len:ts.length≤8
 ok:∀p∈ts,wayOk p.2∧p.2.length≤i
theorem minW_mem{ps:List CW}(h:0<ps.length):minW ps∈ps:=by
 unfold minW;have hlt:argBest (fun i j=>ltW ((ps[i]?).getD (0,[])) ((ps[j]?).getD (0,[]))) (ps.length - 1)<ps.length:=by
  have:=argBest_le (fun i j=>ltW ((ps[i]?).getD (0,[])) ((ps[j]?).getD (0,[]))) (ps.length - 1);omega
 rw[getElem?_eq_getElem hlt];exact getElem_mem _
theorem row_ok{lev:List Nat->List Nat->Int}{i:Nat}{ts:List CW}{x:List Nat}(ok:ThOk i ts)(hx:isName x):∀p∈rowOf lev ts x,wayOk p.2∧p.2.length≤i+1:=fun p hp=>by
 obtain⟨q,hq,rfl⟩:=mem_map.mp hp;have:=ok.ok q hq;refine⟨fun y hy=>?_,by simp;omega⟩;rcases mem_append.mp hy with hy|hy
 ·exact this.1 y hy
 ·rw[mem_singleton.mp hy];exact hx
theorem names_pos{parts:List (Option Str)}{ts:List CW}{g:List (List Nat)}{x:List Nat}(h:x∈namesOf parts ts g):0<ts.length:=by
 have:=(mem_filter.mp h).2;rw[Bool.and_eq_true] at this;cases ts with
 |nil=>simp at this
 |cons _ _=>simp
theorem thOk_step{lev:List Nat->List Nat->Int}{parts:List (Option Str)}{i:Nat}{ts:List CW}{g:List (List Nat)}(ok:ThOk i ts)(hg:∀x∈g,isName x)(h8:g.length≤8):ThOk (i+1) (threadStep lev parts ts g) where
 len:=by
  unfold threadStep;rw[length_map];exact Nat.le_trans (length_filter_le ..) h8
 ok:=fun p hp=>by
  obtain⟨x,hx,rfl⟩:=mem_map.mp hp;exact row_ok ok (hg x (mem_filter.mp hx).1) _ (minW_mem (by unfold rowOf;rw[length_map];exact names_pos hx))
theorem le_sum:∀{l:List Nat} {k:Nat},k∈l->k≤l.sum
 |a::r,k,h=>by
  rw[sum_cons];rcases mem_cons.mp h with rfl|h
  ·omega
  ·have:=le_sum h;omega
theorem group_len{rs:RR}(ok:RoundsOk rs){g:List (List Nat)}(h:g∈rs):g.length≤8:=by
 have h1:g.length∈rs.map List.length:=mem_map_of_mem h;have h2:g.length≤(rs.map List.length).sum:=le_sum h1;have:=ok.total;omega
theorem thOk_take{lev:List Nat->List Nat->Int}{parts:List (Option Str)}{rs:RR}(ok:RoundsOk rs):∀i,i≤rs.length->ThOk i ((rs.take i).foldl (threadStep lev parts) [(0,[])])
 |0,_=>⟨by simp,fun p hp=>by
   rw[take_zero,List.foldl_nil,mem_singleton] at hp;subst hp;exact⟨fun x h=>(by cases h),Nat.le_refl _⟩⟩
 |i+1,hi=>by
  have hlt:i<rs.length:=by omega
  have e:=getElem?_eq_getElem hlt;rw[take_foldl e];exact thOk_step (thOk_take ok i (by omega)) (ok.names _ (getElem_mem hlt)) (group_len ok (getElem_mem hlt))
theorem src_CWs{ts:List CW}:SrcV Z w H0 n (.d (dCWs ts)) (ts.map fun p=>.d (dCW p)):=by
 have:=src_list (Z:=Z) (w:=w) (H0:=H0) (n:=n) (ds:=ts.map dCW);rw[map_map] at this;exact this
theorem op_neNilN{ls:List (List Nat)}(h:∀l∈ls,isName l):OpBin Z w H0 n (compareOp .NotEq) (.d (dNames ls)) (.d (.list [])) (Rd (.bool (!ls.isEmpty))):=by
 have:=op_neD (Z:=Z) (w:=w) (H0:=H0) (n:=n) (fine_names h) fine_nil;unfold dNames LS at this;rw[same_nil] at this;have e:((ls.map tx).map PyData.str).isEmpty=ls.isEmpty:=by cases ls<;> rfl
 rw[e] at this;exact this
theorem thread_body(hmin:GIs H0 "min" (.builtin "min")){lev:List Nat->List Nat->Int}{rs:RR}{parts:List (Option Str)}(ok:RoundsOk rs)
  (htakes:∀x,isName x->HasD Z w H0 "_law_takes" (n+1) [dParts parts,.str (tx x)] (.bool (takesF parts x)))
  (hlev:∀x y,isName x->isName y->HasD Z w H0 "_levenshtein_distance" (n+1) [.str (tx x),.str (tx y),.int 9] (.int (lev x y))):
  ExP Z w H0 (n+1) (scopeOf (stm 31)) [(S "rounds",.d (dRounds rs)),(S "parts",.d (dParts parts))] [] (bodyOf (stm 31)) (.ret (.d (dBest (threadF lev rs parts)))):=by
 refine ex_cons (σ':=[(S "threads",.d (dCWs [(0,[])]))]++[(S "rounds",.d (dRounds rs)),(S "parts",.d (dParts parts))]) (st_assign (ev_list (ds:=[dCW (0,[])]) (evs_1 (ev_list (ds:=[.int 0,dNames []]) (evs_2 ev_int (ev_list (ds:=[]) evs_nil (by decide)) (fun _=>rfl) fun _=>rfl) (size_le (by simp))) fun _=>rfl) (size_le (by simp))) (as_name (settable_of)) (fun V o=>by have q:=o.scope;cases V;simp only at q;subst q;rfl) (fun V o=>by have q:=o.scope;cases V;simp only at q;subst q;rfl) fun _=>rfl) ?_;refine ex_cons (st_for (J:=fun i=>[(S "threads",.d (dCWs ((rs.take i).foldl (threadStep lev parts) [(0,[])]))),(S "rounds",.d (dRounds rs)),(S "parts",.d (dParts parts))]) (x:=.d (dRounds rs)) (ds:=rs.map fun g=>.d (dNames g)) (ev_var rfl) src_ways (sub_cons rfl (sub_cons rfl (sub_cons rfl sub_nil))) (fun i e he=>?_) (fun _ _=>rfl) (.inl ⟨_,_,rfl⟩)) ?_
 ·rw[getElem?_map] at he
  cases hgi:rs[i]? with
  |none=>rw[hgi] at he;cases he
  |some g=>
  rw[hgi] at he;cases he;have hmem:g∈rs:=mem_of_getElem? hgi;have hlt:=(List.getElem?_eq_some_iff.mp hgi).1;have wok:=thOk_take (lev:=lev) (parts:=parts) ok i (by omega);have g8:=group_len ok hmem;have gn:=ok.names g hmem;rw[take_foldl hgi];generalize (rs.take i).foldl (threadStep lev parts) [(0,[])]=ts at wok ⊢;have t8:=wok.len;have r8:=ok.len;have n8:(namesOf parts ts g).length≤8:=Nat.le_trans (length_filter_le ..) g8;have nn:∀x∈namesOf parts ts g,isName x:=fun x hx=>gn x (mem_filter.mp hx).1;refine⟨[(S "group",.d (dNames g))],as_name (settable_of),?_⟩;refine ex_sub (ex_cons (σ':=(S "names",.d (dNames (namesOf parts ts g)))::([(S "group",.d (dNames g))]++[(S "threads",.d (dCWs ts)),(S "rounds",.d (dRounds rs)),(S "parts",.d (dParts parts))])) ?_
   (ex_cons (σ':=(S "rows",.d (.list ((namesOf parts ts g).map fun x=>dCWs (rowOf lev ts x))))::(S "names",.d (dNames (namesOf parts ts g)))::([(S "group",.d (dNames g))]++[(S "threads",.d (dCWs ts)),(S "rounds",.d (dRounds rs)),(S "parts",.d (dParts parts))])) ?_
    (ex_cons (σ':=[(S "threads",.d (dCWs (threadStep lev parts ts g)))]++((S "rows",.d (.list ((namesOf parts ts g).map fun x=>dCWs (rowOf lev ts x))))::(S "names",.d (dNames (namesOf parts ts g)))::([(S "group",.d (dNames g))]++[(S "threads",.d (dCWs ts)),(S "rounds",.d (dRounds rs)),(S "parts",.d (dParts parts))]))) ?_ ex_nil))) (sub_cons rfl (sub_cons rfl (sub_cons rfl sub_nil)))
  ·have e3:dNames (namesOf parts ts g)=.list (g.filterMap fun x=>if(!ts.isEmpty && takesF parts x) then some (PyData.str (tx x)) else none):=by
    rw[f2_filterMap,dNames,LS,map_map];rfl
   rw[e3];refine st_assign_lc (items:=g) (enc:=fun x=>.d (.str (tx x))) (fun x=>if(!ts.isEmpty && takesF parts x) then some (PyData.str (tx x)) else none) (xs:=[S "name"]) (x:=.d (dNames g)) ?_ ?_ ?_ ?_ ?_ ?_ ?_ src_names (size_le (by omega)) fun x hx=>?_
   ·exact .inl ⟨_,_,rfl⟩
   ·decide +kernel
   ·decide +kernel
   ·exact fun _ _=>rfl
   ·exact fun V o=>by have q:=o.scope;cases V;simp only at q;subst q;rfl
   ·exact settable_of
   ·exact ev_var rfl
   ·refine⟨[(S "name",.d (.str (tx x)))],_,as_name (settable_of),rfl,fun y hy=>by rw[mem_singleton.mp hy];rfl,ifs_one (p:=!ts.isEmpty && takesF parts x) ?_,fun h=>⟨_,if_pos h,ev_var rfl (by decide +kernel)⟩,fun h=>by simp[h]⟩
    refine tr_boolop (trs_and ?_ fun _=>trs_and1 ?_)
    ·exact tr_cmp (ev_var rfl) (ev_list (ds:=[]) evs_nil (by decide)) (op_neNilCW fun p hp=>(wok.ok p hp).1) rfl
    ·exact tr_has (htakes x (gn x hx)) (Nat.le_refl _) (by decide +kernel) (evs_2 (ev_var rfl) (ev_var rfl) (fun _=>rfl) fun _=>rfl) fun _=>rfl
  ·have e3:PyData.list ((namesOf parts ts g).map fun x=>dCWs (rowOf lev ts x))=.list ((namesOf parts ts g).filterMap fun x=>some (dCWs (rowOf lev ts x))):=by rw[filterMap_eq_map']
   rw[e3];refine st_assign_lc (items:=namesOf parts ts g) (enc:=fun x=>.d (.str (tx x))) (fun x=>some (dCWs (rowOf lev ts x))) (xs:=[S "name"]) (x:=.d (dNames (namesOf parts ts g))) ?_ ?_ ?_ ?_ ?_ ?_ ?_ src_names (size_le (by omega)) fun x hx=>?_
   ·exact .inl ⟨_,_,rfl⟩
   ·decide +kernel
   ·decide +kernel
   ·exact fun _ _=>rfl
   ·exact fun V o=>by have q:=o.scope;cases V;simp only at q;subst q;rfl
   ·exact settable_of
   ·exact ev_var rfl
   ·refine⟨[(S "name",.d (.str (tx x)))],true,as_name (settable_of),rfl,fun y hy=>by rw[mem_singleton.mp hy];rfl,ifs_nil,fun _=>⟨_,rfl,?_⟩,fun h=>by cases h⟩
    have hxn:=nn x hx;have e4:dCWs (rowOf lev ts x)=.list (ts.filterMap fun p=>some (dCW (p.1+(if p.2=[] then 0 else lev (p.2.getLastD []) x),p.2++[x]))):=by
     rw[filterMap_eq_map',dCWs,rowOf,map_map];rfl
    rw[e4];refine ev_lc (items:=ts) (enc:=fun p=>.d (dCW p)) (fun p=>some (dCW (p.1+(if p.2=[] then 0 else lev (p.2.getLastD []) x),p.2++[x]))) (xs:=[S "way",S "cost"]) (x:=.d (dCWs ts)) ?_ ?_ ?_ ?_ ?_ src_CWs (size_le (by omega)) fun p hp=>?_
    ·exact .inr ⟨_,_,_,rfl⟩
    ·decide +kernel
    ·decide +kernel
    ·exact fun _ _=>rfl
    ·exact ev_var rfl
    ·have pok:=wok.ok p hp
     refine⟨_,true,as_two (b1:=[(S "cost",.d (.int p.1))]) (b2:=[(S "way",.d (dNames p.2))]) (unp_list (ds:=[.int p.1,dNames p.2])) (as_name (settable_of)) (as_name (settable_of)) (fun _=>rfl),rfl,fun y hy=>?_,ifs_nil,fun _=>⟨_,rfl,?_⟩,fun h=>by cases h⟩
     ·rcases mem_cons.mp hy with rfl|hy
      ·rfl
      ·rw[mem_singleton.mp hy];rfl
     ·refine ev_list (ds:=[.int (p.1+(if p.2=[] then 0 else lev (p.2.getLastD []) x)),dNames (p.2++[x])]) (evs_2 (ev_bin (x:=.d (.int p.1)) (y:=.d (.int (if p.2=[] then 0 else lev (p.2.getLastD []) x))) (ev_var rfl) ?_ op_addI) ?_ (fun _=>rfl) fun _=>rfl) (size_le (by simp))
      ·have e5:PyData.int (if p.2=[] then 0 else lev (p.2.getLastD []) x)=if(!p.2.isEmpty) then PyData.int (lev (p.2.getLastD []) x) else .int 0:=by
        cases p.2<;> simp
       rw[e5];refine ev_ifd (tr_cmp (ev_var rfl) (ev_list (ds:=[]) evs_nil (by decide)) (op_neNilN pok.1) rfl) (fun hne=>?_) fun _=>ev_int;obtain⟨y,hy⟩:∃y,p.2.getLast? =some y:=by
        cases h:p.2 with
        |nil=>rw[h] at hne;simp at hne
        |cons a r=>exact⟨_,List.getLast?_cons⟩
       have hlast:p.2.getLastD []=y:=by rw[getLastD_eq_getLast?,hy];rfl
       have hym:y∈p.2:=mem_of_getLast? hy;have hpos:0<p.2.length:=List.length_pos_of_mem hym;rw[hlast];refine ev_has (hlev y x (pok.1 y hym) hxn) (Nat.le_refl _) (by decide +kernel) (evs_cons ?_ (evs_2 (ev_var rfl) ev_int (fun _=>rfl) fun _=>rfl) fun _=>rfl) fun _=>rfl;refine ev_item_list_neg (xs:=(p.2.map tx).map .str) (k:= -1) (show EvE _ _ _ _ _ _ _ _ (.d (dNames p.2)) from ev_var rfl) (ev_neg ev_int) (by decide) (by decide) (by rw[length_map,length_map];omega) ?_ fun _ _=>rfl;rw[length_map,length_map,show((-1:Int)+p.2.length).toNat=p.2.length - 1 by omega,getElem?_map,getElem?_map];rw[List.getLast?_eq_getElem?] at hy;rw[hy];rfl
      ·have e6:dNames (p.2++[x])=.list ((p.2.map tx).map .str++[.str (tx x)]):=by rw[dNames,LS,map_append,map_append];rfl
       rw[e6];have:=pok.2;exact ev_bin (x:=.d (dNames p.2)) (y:=.d (.list [.str (tx x)])) (ev_var rfl) (ev_list (ds:=[.str _]) (evs_1 (ev_var rfl) fun _=>rfl) (size_le (by simp))) (op_addL (size_le (by rw[length_map,length_map];simp;omega)))
  ·have e3:dCWs (threadStep lev parts ts g)=.list ((namesOf parts ts g).filterMap fun x=>some (dCW (minW (rowOf lev ts x)))):=by
    rw[filterMap_eq_map',dCWs,threadStep,map_map];rfl
   refine st_assign (bs:=[(S "threads",.d (dCWs (threadStep lev parts ts g)))]) ?_ (as_name (settable_of)) (fun V o=>by have q:=o.scope;cases V;simp only at q;subst q;rfl) (fun V o=>by have q:=o.scope;cases V;simp only at q;subst q;rfl) fun _=>rfl;rw[e3];refine ev_lc (items:=namesOf parts ts g) (enc:=fun x=>.d (dCWs (rowOf lev ts x))) (fun x=>some (dCW (minW (rowOf lev ts x)))) (xs:=[S "row"]) (x:=.d (.list ((namesOf parts ts g).map fun x=>dCWs (rowOf lev ts x)))) ?_ ?_ ?_ ?_ ?_ ?_ (size_le (by omega)) fun x hx=>?_
   ·exact .inl ⟨_,_,rfl⟩
   ·decide +kernel
   ·decide +kernel
   ·exact fun _ _=>rfl
   ·exact ev_var rfl
   ·have:=src_list (Z:=Z) (w:=w) (H0:=H0) (n:=n+1) (ds:=(namesOf parts ts g).map fun x=>dCWs (rowOf lev ts x))
    rw[map_map] at this;exact this
   ·refine⟨[(S "row",.d (dCWs (rowOf lev ts x)))],true,as_name (settable_of),rfl,fun y hy=>by rw[mem_singleton.mp hy];rfl,ifs_nil,fun _=>⟨_,rfl,?_⟩,fun h=>by cases h⟩
    have hpos:0<(rowOf lev ts x).length:=by unfold rowOf;rw[length_map];exact names_pos hx
    exact ev_has (has_minW (n:=n) hmin hpos fun p hp=>(row_ok wok (nn x hx) p hp).1) (Nat.le_refl _) (by decide +kernel) (evs_1 (ev_var rfl) fun _=>rfl) fun _=>rfl
 have ef:(rs.map fun g=>Ent.d (dNames g)).length=rs.length:=length_map ..;rw[ef,take_length];have wok:=thOk_take (lev:=lev) (parts:=parts) ok rs.length (Nat.le_refl _);rw[take_length] at wok;have hall:threadF lev rs parts=bestOf (rs.foldl (threadStep lev parts) [(0,[])]) rs:=rfl;rw[hall];generalize rs.foldl (threadStep lev parts) [(0,[])]=ts at wok ⊢;have e9:dBest (bestOf ts rs)=if(!ts.isEmpty && !rs.isEmpty) then dCW (minW ts) else .none:=by
  unfold bestOf;cases h1:ts<;> cases h2:rs<;> simp[dBest]
 rw[e9];refine ex_ret (st_return (ev_ifd (tr_boolop (trs_and ?_ fun _=>trs_and1 ?_)) (fun h=>?_) fun _=>ev_none))
 ·exact tr_cmp (ev_var rfl) (ev_list (ds:=[]) evs_nil (by decide)) (op_neNilCW fun p hp=>(wok.ok p hp).1) rfl
 ·exact tr_cmp (ev_var rfl) (ev_list (ds:=[]) evs_nil (by decide)) (op_neNilR ok.names) rfl
 ·rw[Bool.and_eq_true] at h
  have hpos:0<ts.length:=by
   cases h3:ts with
   |nil=>rw[h3] at h;simp at h
   |cons _ _=>simp
  exact ev_has (has_minW (n:=n) hmin hpos fun p hp=>(wok.ok p hp).1) (Nat.le_refl _) (by decide +kernel) (evs_1 (ev_var rfl) fun _=>rfl) fun _=>rfl
theorem ev_gint{x:Str}{pos:Pos}{k:Int}{t:Tok}(hg:GIs H0 x (.int k t))(h:globOk sc x=true):EvE Z w H0 n sc σ δ (.Name x pos) (.d (.int k)):=by
 intro A V s η g o F;refine wpAny_mono (ev_gl hg h A V s η g o F) (fun v s' q=>?_) fun _ _ f=>f;have e:=q.val;subst e;obtain⟨h',tk,rfl,ex,_⟩:=q;exact⟨h',tk,rfl,ex,int_rd _ _ _⟩
theorem cost_body{t1 t2:Tok}(hcase:GIs H0 "_CASE_COST" (.int 1 t1))(hmove:GIs H0 "_MOVE_COST" (.int 2 t2)){a b:Nat}(ha:isLetter a)(hb:isLetter b):
  ExP Z w H0 n (scopeOf (stm 18)) [(S "ch_a",.d (.str (sg a))),(S "ch_b",.d (.str (sg b)))] [] (bodyOf (stm 18)) (.ret (.d (.int (priceC a b)))):=by
 have la:=lower_sg ha;have lb:=lower_sg hb;have va:∀pos,EvE Z w H0 n (scopeOf (stm 18)) [(S "ch_a",.d (.str (sg a))),(S "ch_b",.d (.str (sg b)))] [] (.Name "ch_a" pos) (.d (.str (sg a))):=fun pos=>ev_var rfl;have vb:∀pos,EvE Z w H0 n (scopeOf (stm 18)) [(S "ch_a",.d (.str (sg a))),(S "ch_b",.d (.str (sg b)))] [] (.Name "ch_b" pos) (.d (.str (sg b))):=fun pos=>ev_var rfl;cases h1:(a==b) with
 |true=>
  have e:priceC a b=0:=by rw[priceC,h1];rfl
  rw[e];refine ex_ret (st_if (b:=true) ?_ (fun _=>ex_ret (st_return ev_int)) fun h=>by cases h);rw[←h1,←sg_beq];exact tr_cmp (va _) (vb _) op_eqS rfl
 |false=>
  refine ex_cons (st_if (b:=false) ?_ (fun h=>by cases h) fun _=>ex_nil) ?_
  ·rw[←h1,←sg_beq]
   exact tr_cmp (va _) (vb _) op_eqS rfl
  ·cases h2:(lowC a==lowC b) with
   |true=>
    have e:priceC a b=1:=by rw[priceC,h1,h2];rfl
    rw[e];refine ex_ret (st_if (b:=true) ?_ (fun _=>ex_ret (st_return (ev_gint hcase (by decide +kernel)))) fun h=>by cases h);rw[←h2,←sg_beq,←la.1,←lb.1];exact tr_cmp (ev_lower (va _) la.2 (fun _=>rfl) (by decide +kernel)) (ev_lower (vb _) lb.2 (fun _=>rfl) (by decide +kernel)) op_eqS rfl
   |false=>
    have e:priceC a b=2:=by rw[priceC,h1,h2];rfl
    rw[e];refine ex_cons (st_if (b:=false) ?_ (fun h=>by cases h) fun _=>ex_nil) (ex_ret (st_return (ev_gint hmove (by decide +kernel))));rw[←h2,←sg_beq,←la.1,←lb.1];exact tr_cmp (ev_lower (va _) la.2 (fun _=>rfl) (by decide +kernel)) (ev_lower (vb _) lb.2 (fun _=>rfl) (by decide +kernel)) op_eqS rfl
theorem gt_for{target iter:Expr}{body:List Stmt}{pos:Pos}{x:Ent}{ds:List Ent}(J:Nat->Sto->Led->Prop){Ψ:PostS}(hi:EvE Z w H0 n sc σ δ iter x)(hsrc:SrcV Z w H0 n x ds)(h0:J 0 σ δ)
  (turn:∀i e σ' δ',ds[i]? =some e->J i σ' δ'->∃bs,AsP Z w H0 n sc target e bs∧
   GX Z w H0 n sc (bs++σ') δ' body (fun g fl σ₁ δ₁=>match fl with|.next|.cont=>J (i+1) σ₁ δ₁|.brk=>∀g,Ψ g .next σ₁ δ₁|.ret v=>Ψ g (.ret v) σ₁ δ₁))
  (hend:∀g σ' δ',J ds.length σ' δ'->Ψ g .next σ' δ')
  (hs:∀V x,foldedSetIterable iter V x=pure x)(ht:(∃y p,target=.Name y p)∨∃es k p,target=.Tuple es k p):
  GT Z w H0 n sc σ δ (.For target iter body [] pos) Ψ:=by
 intro A V s η g o F;refine wpAny_For (seqP (hi A V s η g o F) fun v s₁ q=>?_) (hs V);have F1:=F.ext q.ext;obtain⟨h₁,t₁,rfl,ex1,mv⟩:=q;refine wpAny_mono (hsrc A _ η v g F1.toBase mv) (fun it s₂ q2=>?_) fun _ _ f=>f.elim;obtain⟨I,fp,wr,St,h₂,t2,rfl,rfl,ex2,S,st0,fresh,fps⟩:=q2;have W:=S.walk;have F2:Fm H0 (wr++η) δ V σ h₂:=F1.more ex2 fresh (fun b hb=>S.alive 0 _ st0 b hb);have gm:Ext (vis h₁ η) (vis h₂ (wr++η)):=vis_more ex2 fresh;have ex02:Ext s.heap h₂:=fun b oo e=>ex2 b oo (ex1 b oo e);have freshS:∀b∈wr,s.heap.get? b=none:=fun b hb=>by
  cases q:s.heap.get? b with
  |none=>rfl
  |some oo=>have:=fresh b hb;rw[ex1 b oo q] at this;cases this
 let s2:Shared:={s with heap:=h₂,toks:=t2}
 have fpo:∀(δ':Led),(∀p∈δ',p.1∈δ.map (·.1)∨h₂.get? p.1=none)->∀b∈fp,b∉ownOf V δ':=fun δ' hl b hb m=>by
  rcases own_led (V:=V) (δ:=δ) hl m with m|m
  ·exact(fps b hb).2 (own_hid F1 b m)
  ·obtain⟨oo,e⟩:=(fps b hb).1
   rw[e] at m;cases m
 have wrfp:∀b∈wr,b∈fp:=W.sub;have out:∀{β:Type} {Φ:Heap->β->Sto->Led->Prop} {b:β} {s':Shared} {h':Heap} {tk:Nat} {η':List Addr} {σ':Sto} {δ':Led},s'={s with heap:=h',toks:=tk}->KeepBut (wr++ownOf V δ) h₂ h'->Fm H0 η' δ' V σ' h'->(∀b∈wr++η,b∈η')->
   (∀b∈η',b∈wr++η∨h₂.get? b=none)->(∀p∈δ',p.1∈δ.map (·.1)∨h₂.get? p.1=none)->Φ (vis h' η') b σ' δ'->GP H0 s η V δ Φ b s':=by
  intro β Φ b s' h' tk η' σ' δ' e k F' m1 m2 m3 p;have back:∀b,h₂.get? b=none->s.heap.get? b=none:=fun b e=>by
   cases q:s.heap.get? b with
   |none=>rfl
   |some oo=>rw[ex02 b oo q] at e;cases e
  refine⟨h',tk,η',σ',δ',e,fun b oo nb e=>k b oo (fun m=>?_) (ex02 b oo e),F',fun b m=>m1 b (mem_append_right _ m),fun b m=>?_,fun p m=>(m3 p m).imp id (back _),p⟩
  ·rcases mem_append.mp m with m|m
   ·rw[freshS b m] at e;cases e
   ·exact nb m
  ·rcases m2 b m with m|m
   ·rcases mem_append.mp m with m|m
    ·exact .inr (freshS b m)
    ·exact .inl m
   ·exact .inr (back b m)
 refine codeAny_loop' rfl (fun k s'=>∃i h' tk η' σ' δ',s'={s with heap:=h',toks:=tk}∧i≤ds.length∧k=ds.length - i∧St i h'∧Fm H0 η' δ' V σ' h'∧J i σ' δ'∧Ext (vis h₁ η) (vis h' η')∧KeepBut (wr++ownOf V δ) h₂ h'∧
   (∀b∈wr++η,b∈η')∧(∀b∈η',b∈wr++η∨h₂.get? b=none)∧(∀p∈δ',p.1∈δ.map (·.1)∨h₂.get? p.1=none))
  (fun k s' hI=>?_) ds.length ⟨0,h₂,t2,wr++η,σ,δ,rfl,Nat.zero_le _,rfl,st0,F2,h0,gm,KeepBut.refl _ _,fun _ m=>m,fun _ m=>.inl m,fun p m=>.inl (mem_map_of_mem m)⟩
 obtain⟨i,h',tk,η',σ',δ',rfl,hle,rfl,sti,Fi,ji,gi,ki,m1,m2,m3⟩:=hI;show wpAny _ A ((forTurn target (.ref I) body [] V).onRaise (fun x=>do noteFrame x V;theTreesLotGoes x)) _ _ _;refine wpAny_noted ?_;simp only[forTurn];refine wpAny_bind (wpAny_standAt (wpAny_bind (wpAny_onRaise ?_)));have wrh:∀b∈wr,b∈η':=fun b hb=>m1 b (mem_append_left _ hb);have wrn:∀b∈wr,b∉ownOf V δ':=fun b hb=>fpo δ' m3 b (wrfp b hb);have wro:∀b∈wr,b≠V.locals∧(∀p∈V.cells,p.2≠b)∧∀p∈δ',p.1≠b:=fun b hb=>
  ⟨fun q=>wrn b hb (q▸mem_cons_self),fun p hp q=>wrn b hb (q▸mem_cons_of_mem _ (mem_append_left _ (mem_map_of_mem hp))),
   fun p hp q=>wrn b hb (q▸mem_cons_of_mem _ (mem_append_right _ (mem_map_of_mem hp)))⟩
 by_cases hlt:i<ds.length
 ·refine W.item i _ _ _ hlt sti fun v h₃ t3 hv st3 k3=>?_
  obtain⟨e,he,me⟩:=hv;have F3:Fm H0 η' δ' V σ' h₃:=Fi.keepBut k3 wrh wro (fun b hb=>S.alive (i+1) h₃ st3 b hb);have g3:Ext (vis h₁ η) (vis h₃ η'):=gi.trans (vis_keepBut wrh k3);obtain⟨bs,hAs,hEx⟩:=turn i e σ' δ' he ji;have go:∀(Q:Unit->Shared->Prop) (E:Value->Shared->Prop) (s5:Shared),s5.heap=h₃->Q () s5->wpAny (model Z w) A (letOwnedTupleGo target (.ref I) v) Q E s5:=by
   intro Q E s5 hs5 hQ;rcases ht with ⟨y,p,rfl⟩|⟨es,kk,p,rfl⟩
   ·exact wpAny_pure hQ
   ·cases v with
    |ref a=>
     obtain⟨oo,T,e1,e2,e3⟩:=S.plain (i+1) h₃ st3;show wpAny _ A (load I >>=fun o=>_) _ _ _;refine wpAny_bind (wpAny_load (by rw[hs5];exact e1) ?_);rw[e2];cases hd:oo.data<;> (try exact wpAny_pure hQ)
     simp only;have:(["enumerate","zip","dict_itemiterator","dict_reverseitemiterator","odict_iterator","itertools.zip_longest","itertools.pairwise"].contains T)=false:=e3;rw[this];exact wpAny_pure hQ
    |_=>exact wpAny_pure hQ
  refine wpAny_bind (go _ _ _ rfl ?_);refine wpAny_bind (wpAny_mono (hAs A V _ η' δ' σ' v g o F3 (me.ext g3)) (fun _ s4 q₄=>?_) fun _ _ f=>f.elim);obtain⟨h4,t4,rfl,k₄,F4⟩:=q₄;refine wpAny_bind (wpAny_mono (hEx A V _ η' g o F4) (fun fl s5 q5=>?_) fun _ _ f=>f.elim);obtain⟨h5,t5,η5,σ5,δ5,rfl,k5,F5,n1,n2,n3,p5⟩:=q5;have k4:KeepBut (ownOf V δ') h₃ h4:=k₄.more (places_own V δ' _);have k45:KeepBut (ownOf V δ') h₃ h5:=k4.trans k5;have back4:∀b,h4.get? b=none->h₂.get? b=none:=fun b e4=>by
   cases q:h₂.get? b with
   |none=>rfl
   |some oo=>
    exfalso
    by_cases mb:b∈wr++ownOf V δ
    ·have hb':b∈η':=by
      rcases mem_append.mp mb with mb|mb
      ·exact wrh b mb
      ·exact m1 b (mem_append_right _ (own_hid F1 b mb))
     obtain⟨ob,q4⟩:=F4.alive b hb';rw[q4] at e4;cases e4
    ·have a1:=ki b oo mb q
     by_cases mw:b∈wr
     ·exact mb (mem_append_left _ mw)
     ·have a3:=k3 b oo mw a1
      by_cases mo:b∈ownOf V δ'
      ·obtain⟨ob,q4⟩:=F4.alive b (own_hid F4 b mo)
       rw[q4] at e4;cases e4
      ·rw[k4 b oo mo a3] at e4;cases e4
  have kk:KeepBut (wr++ownOf V δ) h₂ h5:=fun b oo nb e2=>by
   have a1:=ki b oo nb e2;have a3:=k3 b oo (fun m=>nb (mem_append_left _ m)) a1;refine k45 b oo (fun m=>?_) a3;rcases own_led (V:=V) (δ:=δ) m3 m with m|m
   ·exact nb (mem_append_right _ m)
   ·rw[e2] at m;cases m
  have mm1:∀b∈wr++η,b∈η5:=fun b m=>n1 b (m1 b m);have mm2:∀b∈η5,b∈wr++η∨h₂.get? b=none:=fun b m=>by
   rcases n2 b m with m|m
   ·exact m2 b m
   ·exact .inr (back4 b m)
  have mm3:∀p∈δ5,p.1∈δ.map (·.1)∨h₂.get? p.1=none:=fun p m=>by
   rcases n3 p m with m|m
   ·obtain⟨p',hp',e⟩:=mem_map.mp m
    rw[←e];exact m3 p' hp'
   ·exact .inr (back4 _ m)
  have st5:St (i+1) h5:=W.frame _ _ _ st3 fun b hb oo e=>k45 b oo (fpo δ' m3 b hb) e;have gk:Ext (vis h₃ η') (vis h5 η5):=fun b oo e=>vis_get (k45 b oo (fun m=>(vis_inv e).2 (own_hid F4 b m)) (vis_inv e).1) fun m=>by
   rcases n2 b m with m|m
   ·exact(vis_inv e).2 m
   ·have:h4.get? b=some oo:=k4 b oo (fun mo=>(vis_inv e).2 (own_hid F4 b mo)) (vis_inv e).1
    rw[this] at m;cases m
  cases fl with
  |next=>exact wpAny_pure (.inl ⟨rfl,ds.length - (i+1),by omega,i+1,h5,t5,η5,σ5,δ5,rfl,hlt,rfl,st5,F5,p5,g3.trans gk,kk,mm1,mm2,mm3⟩)
  |cont=>exact wpAny_pure (.inl ⟨rfl,ds.length - (i+1),by omega,i+1,h5,t5,η5,σ5,δ5,rfl,hlt,rfl,st5,F5,p5,g3.trans gk,kk,mm1,mm2,mm3⟩)
  |brk=>exact wpAny_pure (out rfl kk F5 mm1 mm2 mm3 (p5 _))
  |ret v=>exact wpAny_pure (out rfl kk F5 mm1 mm2 mm3 p5)
 ·have hi':i=ds.length:=by omega
  subst hi';refine W.done _ _ _ sti fun h₃ t3 k3=>?_;refine wpAny_pure (.inr ⟨rfl,?_⟩);refine codeAny_block (wpAny_execs_nil ?_);have inr:∀a,a∈η'->a∉wr->a∈η'.filter (fun a=>!decide (a∈wr)):=fun a h1 h2=>mem_filter.mpr ⟨h1,by simpa using h2⟩;have hl1:V.locals∈η'.filter (fun a=>!decide (a∈wr)):=inr _ Fi.loc fun m=>(wro _ m).1 rfl;have hl2:∀p∈V.cells,p.2∈η'.filter (fun a=>!decide (a∈wr)):=fun p hp=>inr _ (Fi.celh p hp) fun m=>(wro _ m).2.1 p hp rfl;have hl3:∀p∈δ',p.1∈η'.filter (fun a=>!decide (a∈wr)):=fun p hp=>inr _ (Fi.ledh p hp) fun m=>(wro _ m).2.2 p hp rfl;have Fw:Fm H0 (wr++η'.filter (fun a=>!decide (a∈wr))) δ' V σ' h':=Fi.less (fun a m=>by
    rcases mem_append.mp m with m|m
    ·exact wrh a m
    ·exact(mem_filter.mp m).1) (mem_append_right _ hl1) (fun p hp=>mem_append_right _ (hl2 p hp)) fun p hp=>mem_append_right _ (hl3 p hp)
  have F3:Fm H0 (η'.filter (fun a=>!decide (a∈wr))) δ' V σ' h₃:=Fm.drop Fw k3 (fun a m q=>by simpa [m] using (mem_filter.mp q).2) hl1 hl2 hl3;refine⟨h₃,t3,_,σ',δ',rfl,fun b oo nb e=>?_,F3,fun b m=>inr b (m1 b (mem_append_right _ m)) fun q=>?_,fun b m=>?_,fun p m=>(m3 p m).imp id fun e=>?_,hend _ _ _ ji⟩
  ·refine ki.trans (KeepBut.more k3 fun b hb=>mem_append_left _ hb) b oo (fun m=>?_) (ex02 b oo e)
   rcases mem_append.mp m with m|m
   ·rw[freshS b m] at e;cases e
   ·exact nb m
  ·obtain⟨oo,e⟩:=F.alive b m
   rw[freshS b q] at e;cases e
  ·rcases m2 b (mem_filter.mp m).1 with q|q
   ·rcases mem_append.mp q with q|q
    ·exact .inr (freshS b q)
    ·exact .inl q
   ·refine .inr ?_
    cases z:s.heap.get? b with
    |none=>rfl
    |some oo=>rw[ex02 b oo z] at q;cases q
  ·cases z:s.heap.get? p.1 with
   |none=>rfl
   |some oo=>rw[ex02 _ oo z] at e;cases e
theorem ld_name{A:Around}{V:Env}{s:Shared}{η:List Addr}{x:Str}{e:Ent}(o:EnvOk sc V)(F:Fm H0 η δ V σ s.heap)(hs:σ.lookup x=some e)(h:varOk sc x=true):wpAny (model Z w) A (loadName V x) (Pu s η (fun g v=>Means g v e)) NoE s:=by
 simp only[varOk,Bool.and_eq_true,Bool.or_eq_true,beq_iff_eq,bne_iff_ne] at h;have hkf:=o.kf;rcases h.1.1 with (hx|hx)|hx
 ·obtain⟨m,hm,q⟩:=F.ns
  obtain⟨v,a,b⟩:=q x e hs (by rw[o.kind];exact hx);exact wpAny_loadName_local hkf (by rw[o.kind];exact hx) hm a (Pu.here b)
 ·obtain⟨c,v,a,b,d⟩:=F.cell x e hs (by rw[o.kind];exact .inl hx)
  exact wpAny_loadName_cell hkf (by rw[o.kind];exact hx) a b (Pu.here d)
 ·obtain⟨c,v,a,b,d⟩:=F.cell x e hs (by rw[o.kind];exact .inr hx)
  exact wpAny_loadName_free hkf (by rw[o.kind];exact hx) a b (Pu.here d) (by simpa using h.2)
theorem st_aug{x:Str}{p pos:Pos}{op:Operator}{value:Expr}{a b:Ent}{c:Ent}(hs:σ.lookup x=some a)(h:varOk sc x=true)(hset:settable sc x)(hv:EvE Z w H0 n sc σ δ value b)(ho:OpBin Z w H0 n (inplaceOp op) a b (fun g v=>Means g v c)):
  StP Z w H0 n sc σ δ (.AugAssign (.Name x p) op value pos) (.next ((x,c)::σ)):=by
 intro A V s η g o F;refine wpAny_AugAssign_Name (seqP (ld_name o F hs h) fun u s₁ q1=>seqP (hv A V s₁ η g o (F.ext q1.ext)) fun v s2 q2=>?_);have F2:=(F.ext q1.ext).ext q2.ext;refine seqP (ho A s2 η u v g F2.toBase (q1.val.ext (vis_ext η q2.ext)) q2.val) fun r s3 q3=>?_;have F3:=F2.ext q3.ext;obtain⟨h₃,t3,e3,ex,m⟩:=(q1.trans q2).trans q3;refine wpAny_mono (store_P F3 q3.val o.kf (settable_env o hset)) (fun _ s4 q4=>?_) fun _ _ f=>f;subst e3;obtain⟨h4,t4,rfl,k,F4⟩:=q4;refine⟨h4,t4,rfl,(ex.keep _).trans (k.more fun a ma=>places_own V δ [x] a ?_),rfl,F4⟩;simpa [placesOf] using ma
theorem op_iaddI{a b:Int}:OpBin Z w H0 n (inplaceOp .Add) (.d (.int a)) (.d (.int b)) (Rd (.int (a+b))):=by
 intro A s η u v g B ra rb;obtain⟨t,rfl⟩:=rd_int ra;obtain⟨t',rfl⟩:=rd_int rb;exact iadd_int (Pu.tok (int_rd _ _ _))
theorem op_isubI{a b:Int}:OpBin Z w H0 n (inplaceOp .Sub) (.d (.int a)) (.d (.int b)) (Rd (.int (a - b))):=by
 intro A s η u v g B ra rb;obtain⟨t,rfl⟩:=rd_int ra;obtain⟨t',rfl⟩:=rd_int rb;exact isub_int (Pu.tok (int_rd _ _ _))
theorem op_mulI{a b:Int}(h:IntMulOk a b):OpBin Z w H0 n (binaryOp .Mult) (.d (.int a)) (.d (.int b)) (Rd (.int (a *b))):=by
 intro A s η u v g B ra rb;obtain⟨t,rfl⟩:=rd_int ra;obtain⟨t',rfl⟩:=rd_int rb;exact mul_int (Pu.tok (int_rd _ _ _)) h
theorem fn_min2{a b:Int}:FnP Z w H0 n (.builtin "min") [.d (.int a),.d (.int b)] (Rd (.int (if b<a then b else a))):=by
 intro A s η vs g B hm
 match vs,hm with
 |[u,v],⟨m1,m2,_⟩=>
 obtain⟨t,rfl⟩:=rd_int m1;obtain⟨t',rfl⟩:=rd_int m2;refine min_two_ints g.hh fun h' tk ex=>⟨h',tk,rfl,ex,?_⟩;split<;> exact int_rd _ _ _
theorem has_min2(hg:GIs H0 "min" (.builtin "min")){a b:Int}:HasD Z w H0 "min" n [.int a,.int b] (.int (if b<a then b else a)):=⟨_,hg,callee_builtin,fn_min2⟩
theorem tr_txt{x:Str}(hz:x.length≤sizeLine):OpTr Z w H0 n (.d (.str x)) (x.length !=0):=by
 intro A s η v g B m;obtain⟨t,rfl⟩:=rd_str m;refine PySem.P.truthy_str (by have:sizeLine=2 ^ 24:=rfl;omega) ⟨s.heap,_,rfl,Ext.refl _,?_⟩
 by_cases h:x.length=0
 ·rw[h];rfl
 ·rw[show(((x.length:Int)) !=0)=true by simp;omega,show(x.length !=0)=true by simpa using h]
theorem tr_num{k:Int}:OpTr Z w H0 n (.d (.int k)) (k !=0):=by
 intro A s η v g B m;obtain⟨t,rfl⟩:=rd_int m;exact truthy_int (Pu.here rfl)
theorem ev_or2{e e':Expr}{pos:Pos}{a b c:Ent}{t:Bool}(h:EvE Z w H0 n sc σ δ e a)(ht:OpTr Z w H0 n a t)(h1:t=true->c=a)(h2:t=false->EvE Z w H0 n sc σ δ e' b∧c=b):
  EvE Z w H0 n sc σ δ (.BoolOp .Or [e,e'] pos) c:=by
 refine ev_boolop fun A V s η g o F=>?_;show wpAny _ A (eval e V >>=fun v=>standAt pos >>=fun _=>holding [v] (truthy v) >>=fun t=>match BoolOp.Or,t with|.And,false=>pure v|.Or,true=>pure v|_,_=>boolOp pos .Or (evalEach [e'] V)) _ _ s;refine wpAny_bind (seqP (h A V s η g o F) fun v s₁ q1=>wpAny_bind (wpAny_standAt (wpAny_bind (wpAny_holding ?_))));refine seqP (ht A s₁ η v g (F.ext q1.ext).toBase q1.val) fun r s2 q2=>?_;have e1:=q2.val;subst e1;cases r with
 |true=>
  rw[h1 rfl];obtain⟨h',tk,rfl,ex,_⟩:=q2;exact wpAny_pure (q1.trans ⟨h',tk,rfl,ex,q1.val.ext (vis_ext η ex)⟩)
 |false=>
  obtain⟨h3,rfl⟩:=h2 rfl;exact wpAny_mono (h3 A V s2 η g o ((F.ext q1.ext).ext q2.ext)) (fun v' s3 q3=>(q1.trans q2).trans q3) fun _ _ f=>f
def NewP(Z:Program)(w:World)(H0:Heap)(n:Nat)(sc:Scope)(σ:Sto)(δ:Led)(e:Expr)(Q:Obj->Prop):Prop:=
 ∀A V s η,Good n A->EnvOk sc V->Fm H0 η δ V σ s.heap->wpAny (model Z w) A (eval e V) (fun v s'=>∃h' tk a o,s'={s with heap:=h',toks:=tk}∧Ext s.heap h'∧v=.ref a∧h'.get? a=some o∧s.heap.get? a=none∧Q o) NoE s
theorem gt_assign_new{e:Expr}{y:Str}{py pos:Pos}{Q:Obj->Prop}(h:NewP Z w H0 n sc σ δ e Q)(hy:settable sc y)
  (hs:∀V,EnvOk sc V->swapsWith e (some (.Name y py)) pos.line V=pure false)(hw:∀V,EnvOk sc V->swappedStores [.Name y py] e V=pure none):
  GT Z w H0 n sc σ δ (.Assign [.Name y py] e pos) (fun _ fl σ' δ'=>fl=.next∧∃a o,Q o∧σ'=(y,.v (.ref a))::σ∧δ'=(a,o)::δ):=by
 intro A V s η g o F;show wpAny _ A (standAt pos >>=fun _=>swapsWithSole [.Name y py] e pos.line V >>=fun b=>if b=true then _ else _) _ _ s;refine wpAny_bind (wpAny_standAt (wpAny_bind ?_));show wpAny _ A (swapsWith e (some (.Name y py)) pos.line V) _ _ s;rw[hs V o];refine wpAny_pure ?_;rw[if_neg Bool.false_ne_true];refine wpAny_bind (wpAny_mono (h A V s η g o F) (fun v s₁ q=>?_) fun _ _ f=>f);obtain⟨h₁,t₁,a,ob,rfl,ex,rfl,ha,hn,hq⟩:=q;refine wpAny_bind ?_;rw[hw V o];refine wpAny_pure ?_;show wpAny _ A (assignAll (.ref a) [assign (.Name y py) V] >>=fun _=>pure Flow.next) _ _ _;refine wpAny_bind ?_;show wpAny _ A (assign (.Name y py) V (.ref a)) _ _ _;have F1:Fm H0 ([a]++η) δ V σ h₁:=F.more ex (fun b m=>by rw[mem_singleton.mp m];exact hn) fun b m=>by rw[mem_singleton.mp m];exact⟨ob,ha⟩
 have nl:a≠V.locals:=fun q=>by obtain⟨m,⟨oo,es,ep,e1,r⟩,_⟩:=F.ns;rw[←q,hn] at e1;cases e1
 have nc:∀q∈V.cells,a≠q.2:=fun q hq e=>by obtain⟨v,oo,e1,_⟩:=F.cells q hq;rw[←e,hn] at e1;cases e1
 have F2:Fm H0 ([a]++η) ((a,ob)::δ) V σ h₁:={F1 with
  ledh:=fun p hp=>by
   rcases mem_cons.mp hp with rfl|hp
   ·exact mem_cons_self
   ·exact F1.ledh p hp
  ledg:=fun p hp=>by
   rcases mem_cons.mp hp with rfl|hp
   ·exact ha
   ·exact F1.ledg p hp
  ledoff:=fun p hp=>by
   rcases mem_cons.mp hp with rfl|hp
   ·exact⟨nl,nc⟩
   ·exact F1.ledoff p hp}
 refine wpAny_mono (as_name (Z:=Z) (w:=w) (H0:=H0) (n:=n) (e:=.v (.ref a)) hy A V _ ([a]++η) ((a,ob)::δ) σ (.ref a) g o F2 rfl) (fun _ s2 q2=>wpAny_pure ?_) fun _ _ f=>f;obtain⟨h2,t2,rfl,k2,F3⟩:=q2;refine⟨h2,t2,[a]++η,_,_,rfl,(ex.keep _).trans (k2.more (places_own V δ _)),F3,fun b m=>mem_append_right _ m,fun b m=>?_,fun p hp=>?_,rfl,a,ob,hq,rfl,rfl⟩
 ·rcases mem_append.mp m with m|m
  ·rw[mem_singleton.mp m];exact .inr hn
  ·exact .inl m
 ·rcases mem_cons.mp hp with rfl|hp
  ·exact .inr hn
  ·exact .inl (mem_map_of_mem hp)
def IntList(ks:List Int)(o:Obj):Prop:=o.cls=.type "list"∧∃vs c,o.data=.seq vs c∧F2 (fun v k=>∃t,v=Value.int k t) vs.toList ks
theorem intList_isList{ks:List Int}{o:Obj}{h:Heap}{a:Addr}(ho:IntList ks o)(ha:h.get? a=some o):∃vs,h.IsList a vs∧F2 (fun v k=>∃t,v=Value.int k t) vs.toList ks:=by
 obtain⟨hc,vs,c,hd,f⟩:=ho;exact⟨vs,⟨_,ha,hc,c,hd⟩,f⟩
theorem ev_item_led{x:Str}{p:Pos}{slice:Expr}{pos:Pos}{a:Addr}{o:Obj}{ks:List Int}{i k:Int}(hx:EvE Z w H0 n sc σ δ (.Name x p) (.v (.ref a)))(ho:(a,o)∈δ)(hl:IntList ks o)(hi:EvE Z w H0 n sc σ δ slice (.d (.int i)))
  (h0:0≤i)(hk:i<2 ^ 63)(hd:ks[i.toNat]? =some k)(hs:plainSlice slice):EvE Z w H0 n sc σ δ (.Subscript (.Name x p) slice pos) (.d (.int k)):=by
 intro A V s η g oo F;refine PyProof.Rows.Subscript_ (seqP (hx A V s η g oo F) fun v s₁ q1=>seqP (hi A V s₁ η g oo (F.ext q1.ext)) fun u s2 q2=>?_);obtain⟨t,rfl⟩:=rd_int q2.val;have e:=q1.val;subst e;have F2:=(F.ext q1.ext).ext q2.ext;obtain⟨vs,hL,f⟩:=intList_isList hl (F2.ledg _ ho);obtain⟨u,hu,t',rfl⟩:=f.get hd;exact tail_any hL.typeIs slot_list_getitem.lookup (wpAny_getItem_list hL h0 hk (by simpa using hu) ((q1.trans q2).trans (Pu.here (int_rd _ _ _)))) (hs _ _)
def setLed(a:Addr)(o:Obj)(δ:Led):Led:=(a,o)::δ.filter fun p=>!decide (p.1=a)
theorem Fm.mut{η:List Addr}{V:Env}{h h':Heap}{a:Addr}{o o':Obj}(F:Fm H0 η δ V σ h)(ha:(a,o)∈δ)(k:KeepBut [a] h h')(e:h'.get? a=some o'):Fm H0 η (setLed a o' δ) V σ h':=by
 have hm:∀b∈[a],b∈η:=fun b m=>by rw[mem_singleton.mp m];exact F.ledh _ ha
 have B:Base H0 η h':=⟨F.base.trans (vis_keepBut hm k),fun b m=>by
  by_cases q:b=a
  ·exact⟨o',by rw[q];exact e⟩
  ·obtain⟨ob,e1⟩:=F.alive b m
   exact⟨ob,k b ob (by simpa using q) e1⟩⟩
 exact F.call (L:=[(a,o)]) (L':=[(a,o')]) (rest:=δ.filter fun p=>!decide (p.1=a)) (fun p hp=>by rw[mem_singleton.mp hp];exact ha) (fun p hp=>by
   have:=mem_filter.mp hp;exact⟨this.1,by simpa using this.2⟩) k B ⟨fun p hp=>by rw[mem_singleton.mp hp];exact F.ledh (a,o) ha,fun p hp=>by rw[mem_singleton.mp hp];exact e⟩ (fun _ m=>m) (fun _ m=>.inl m) fun p hp=>by rw[mem_singleton.mp hp];exact .inl (by simp)
theorem GP.mut{α:Type}{s:Shared}{η:List Addr}{V:Env}{h':Heap}{tk:Nat}{a:Addr}{o o':Obj}{Ψ:Heap->α->Sto->Led->Prop}{r:α}(F:Fm H0 η δ V σ s.heap)(ha:(a,o)∈δ)(k:KeepBut [a] s.heap h')(e:h'.get? a=some o')
  (h:Ψ (Mine.vis h' η) r σ (setLed a o' δ)):GP H0 s η V δ Ψ r {s with heap:=h',toks:=tk}:=
 ⟨h',tk,η,σ,setLed a o' δ,rfl,k.more fun b m=>by rw[mem_singleton.mp m];exact own_of (mem_map_of_mem ha),F.mut ha k e,fun _ m=>m,fun _ m=>.inl m,fun p hp=>by
  rcases mem_cons.mp hp with rfl|hp
  ·exact .inl (mem_map_of_mem (f:=(·.1)) ha)
  ·exact .inl (mem_map_of_mem (mem_filter.mp hp).1),h⟩
theorem f2_set{α β:Type}{R:α->β->Prop}:∀{as:List α} {bs:List β} {i:Nat} {a:α} {b:β},F2 R as bs->R a b->F2 R (as.set i a) (bs.set i b)
 |_,_,_,_,_,.nil,_=>.nil
 |_,_,0,_,_,.cons _ f,r=>.cons r f
 |_,_,i+1,_,_,.cons x f,r=>.cons x (f2_set f r)
theorem gt_set_led{x:Str}{p q:Pos}{slice value:Expr}{pos:Pos}{a:Addr}{o:Obj}{ks:List Int}{i k:Int}(hv:EvE Z w H0 n sc σ δ value (.d (.int k)))(hx:EvE Z w H0 n sc σ δ (.Name x p) (.v (.ref a)))(ho:(a,o)∈δ)(hl:IntList ks o)(hi:EvE Z w H0 n sc σ δ slice (.d (.int i)))
  (h0:0≤i)(hk:i<2 ^ 63)(hd:i.toNat<ks.length)(hs:∀V,swapsWith value (some (.Subscript (.Name x p) slice q)) pos.line V=pure false):
  GT Z w H0 n sc σ δ (.Assign [.Subscript (.Name x p) slice q] value pos) (fun _ fl σ' δ'=>fl=.next∧σ'=σ∧∃o',IntList (ks.set i.toNat k) o'∧δ'=setLed a o' δ):=by
 intro A V s η g oo F;refine wpAny_Assign_Subscript (seqP (hv A V s η g oo F) fun r s0 q0=>seqP (hx A V s0 η g oo (F.ext q0.ext)) fun v s₁ q1=>seqP (hi A V s₁ η g oo ((F.ext q0.ext).ext q1.ext)) fun u s2 q2=>?_) (hs V);obtain⟨t,rfl⟩:=rd_int q2.val;obtain⟨t',rfl⟩:=rd_int q0.val;have e:=q1.val;subst e;have F2:=((F.ext q0.ext).ext q1.ext).ext q2.ext;obtain⟨vs,hL,f⟩:=intList_isList hl (F2.ledg _ ho);obtain⟨h2,t2,e2,ex,_⟩:=(q0.trans q1).trans q2;refine wpAny_setItem_list hL h0 hk (by have:=f.length;rw[Array.length_toList] at this;omega) fun h' hL' hsb=>?_;obtain⟨o',e',hc',c',hd'⟩:=hL';subst e2;have gp:GP H0 {s with heap:=h2,toks:=t2} η V δ (fun _ fl σ' δ'=>fl=.next∧σ'=σ∧∃o',IntList (ks.set i.toNat k) o'∧δ'=setLed a o' δ) Flow.next {s with heap:=h',toks:=t2}:=
  GP.mut (s:={s with heap:=h2,toks:=t2}) (o':=o') F2 ho (sameBut_keep hsb) e' ⟨rfl,rfl,o',⟨hc',_,_,hd',by
   rw[Array.toList_setIfInBounds];exact f2_set f ⟨t',rfl⟩⟩,rfl⟩
 exact GP.glue F (ex.keep _) F2 (fun _ m=>m) (fun _ m=>.inl m) (fun p m=>.inl (mem_map_of_mem m)) gp
theorem new_list_rng{pl pr p1 p2:Pos}{args:List Expr}{a b c:Int}{m:Nat}(hlist:GIs H0 "list" (.type "list"))(hgl:globOk sc "list"=true)
  (hr:EvP Z w H0 n sc σ δ (.Call (.Name "range" p1) args [] p2) (IsRng a b c))(hsmall:Builtin.Range.small a b c=true)(hm:Builtin.Range.rangeSize a b c=m)(hz:m≤2 ^ 24):
  NewP Z w H0 n sc σ δ (.Call (.Name "list" pl) [.Call (.Name "range" p1) args [] p2] [] pr) (IntList ((List.range m).map fun i:Nat=>a+(i:Int)*c)):=by
 intro A V s η g o F;refine Call_Name rfl (seqP (ev_gl (pos:=pl) hlist hgl A V s η g o F) fun v s₁ q=>?_);have e1:=q.val;subst e1;have F1:=F.ext q.ext;refine callWith_of (P:=fun h=>Ext H0 h) rfl (fun h e=>callee_type _ h e) (evalArgs_any rfl ?_);refine spliced_cons (seqP (hr A V s₁ η g o F1) fun r s2 q2=>spliced_nil ?_);obtain⟨ra,t,u,k,rfl,hR⟩:=q2.val;have F2:=F1.ext q2.ext;refine⟨F2.toBase.h0,?_⟩;obtain⟨h2,t2,e2,ex,_⟩:=q.trans q2;subst e2;refine call_list_range g.hh (vis_to _ _ _ _ hR) hsmall hm hz fun h' tk acc' c' kk ha hacc=>?_;refine⟨h',tk,_,_,rfl,fun b ob e=>kk b ob (ex b ob e),rfl,ha,?_,rfl,acc',c',rfl,?_⟩
 ·cases z:s.heap.get? h2.objs.size with
  |none=>rfl
  |some ob=>exact absurd (Heap.lt_size (ex _ _ z)) (Nat.lt_irrefl _)
 ·refine f2_of_places (by rw[Array.length_toList,hacc.1,length_map,length_range]) fun j v hj=>?_
  rw[Array.getElem?_toList] at hj;obtain⟨t',rfl⟩:=hacc.2 j v hj;have hlt:j<m:=by
   have:=(Array.getElem?_eq_some_iff.mp hj).1;rw[hacc.1] at this;exact this
  exact⟨a+(j:Int)*c,by rw[getElem?_map,getElem?_range hlt];rfl,t',rfl⟩
theorem st_assign2{x y:Str}{p1 p2 pos:Pos}{value:Expr}{e:Ent}(h:EvE Z w H0 n sc σ δ value e)(hx:settable sc x)(hy:settable sc y)
  (hw:∀V,EnvOk sc V->swappedStores [.Name x p1,.Name y p2] value V=pure none):
  StP Z w H0 n sc σ δ (.Assign [.Name x p1,.Name y p2] value pos) (.next ((y,e)::(x,e)::σ)):=by
 intro A V s η g o F;show wpAny _ A (standAt pos >>=fun _=>swapsWithSole [.Name x p1,.Name y p2] value pos.line V >>=fun b=>if b=true then _ else _) _ _ s;refine wpAny_bind (wpAny_standAt (wpAny_bind ?_));show wpAny _ A (pure false) _ _ s;refine wpAny_pure ?_;rw[if_neg Bool.false_ne_true];refine wpAny_bind (seqP (h A V s η g o F) fun v s₁ q=>?_);have F1:=F.ext q.ext;refine wpAny_bind ?_;rw[hw V o];refine wpAny_pure ?_;show wpAny _ A (assignAll v [assign (.Name x p1) V,assign (.Name y p2) V] >>=fun _=>pure Flow.next) _ _ s₁;refine wpAny_bind ?_;show wpAny _ A (holding [v] (assign (.Name x p1) V v) >>=fun _=>assign (.Name y p2) V v) _ _ s₁;refine wpAny_bind (wpAny_holding (wpAny_mono (as_name (Z:=Z) (w:=w) (H0:=H0) (n:=n) hx A V s₁ η δ σ v g o F1 q.val) (fun _ s2 q2=>?_) fun _ _ f=>f));obtain⟨h₁,t₁,rfl,e1,m1⟩:=q;obtain⟨h2,t2,rfl,k2,F2⟩:=q2;have vk:Ext (vis h₁ η) (vis h2 η):=vis_keepBut (fun a ma=>own_hid F1 a (places_own V δ _ a ma)) k2;refine wpAny_mono (as_name (Z:=Z) (w:=w) (H0:=H0) (n:=n) hy A V _ η δ _ v g o F2 (m1.ext vk)) (fun _ s3 q3=>wpAny_pure ?_) fun _ _ f=>f;obtain⟨h₃,t3,rfl,k3,F3⟩:=q3;exact⟨h₃,t3,rfl,(e1.keep _).trans ((k2.more (places_own V δ _)).trans (k3.more (places_own V δ _))),rfl,F3⟩
structure LS4 where
 dist:Int
 res:Int
 row:List Int
 mn:Int
def inStep(bc:Nat)(s:List Nat)(st:LS4)(i:Nat):LS4:=
 let sub:=st.dist+priceC bc ((s[i]?).getD 0)
 let d:=(st.row[i]?).getD 0
 let ins:=(if d<st.res then d else st.res)+2
 let r:=if sub<ins then sub else ins
 ⟨d,r,st.row.set i r,if r<st.mn then r else st.mn⟩
def inRow(bc:Nat)(s:List Nat)(row:List Int)(b0:Int)(k:Nat):LS4:=(List.range k).foldl (inStep bc s) ⟨b0,b0,row,9223372036854775807⟩
def levOut(s l:List Nat):List Nat->List Int->Int->Int
 |[],_,res=>res
 |i::is,row,_=>
  let st:=inRow ((l[i]?).getD 0) s row (i*2) s.length
  if 9<st.mn then 10 else levOut s l is st.row st.res
def row0(s:List Nat):List Int:=(List.range s.length).map fun i:Nat=>2+(i:Int)*2
def levMain(s l:List Nat):Int:=levOut s l (List.range l.length) (row0 s) 0
theorem inRow_len(bc:Nat)(s:List Nat)(row:List Int)(b0:Int):∀k,(inRow bc s row b0 k).row.length=row.length
 |0=>rfl
 |k+1=>by
  unfold inRow;rw[range_succ,foldl_append];show((inRow bc s row b0 k).row.set k _).length=_;rw[List.length_set];exact inRow_len bc s row b0 k
theorem inRow_succ(bc:Nat)(s:List Nat)(row:List Int)(b0:Int)(k:Nat):inRow bc s row b0 (k+1)=inStep bc s (inRow bc s row b0 k) k:=by
 unfold inRow;rw[range_succ,foldl_append];rfl
theorem mulOk_two(a:Int):IntMulOk a 2:=by
 unfold IntMulOk;rw[show decide (Builtin.Int.intBits 2 > shortFactorBits)=false by decide +kernel];simp
theorem mulOk_two'(a:Int):IntMulOk 2 a:=IntMulOk.of_left (by decide +kernel)
theorem item_tx{l:List Nat}{i:Nat}(h:i<l.length):(seqIndex? (0+(i:Int)) (tx l).length).bind ((tx l).cps[·]?)=some ((l[i]?).getD 0):=by
 have e:seqIndex? (0+(i:Int)) (tx l).length=some i:=by
  have:(tx l).length=l.length:=len_tx;simp[seqIndex?,this];omega
 rw[e];simp[tx,h]
theorem fn_range3{a b c:Int}(hc:c≠0)(hp:Builtin.divisionGoesByPylong (b - a) c=false):FnP Z w H0 n (.type "range") [.d (.int a),.d (.int b),.d (.int c)] (IsRng a b c):=by
 intro A s η vs g B hm
 match vs,hm with
 |[v,u,x],⟨m,m2,m3,_⟩=>
 obtain⟨t,rfl⟩:=rd_int m;obtain⟨t',rfl⟩:=rd_int m2;obtain⟨t'',rfl⟩:=rd_int m3;exact call_range_3 hc ⟨_,_,rfl,ext_push _ _,rng_new (s:=s) B⟩ (.inl hp)
theorem has_range3(hg:GIs H0 "range" (.type "range")){a b c:Int}(hc:c≠0)(hp:Builtin.divisionGoesByPylong (b - a) c=false):Has Z w H0 "range" n [.d (.int a),.d (.int b),.d (.int c)] (IsRng a b c):=⟨_,hg,callee_type,fn_range3 hc hp⟩
theorem sub_past{σ σ':Sto}{y:Str}{d:Ent}(hn:σ.lookup y=none)(h:∀x e,σ.lookup x=some e->σ'.lookup x=some e):∀x e,σ.lookup x=some e->((y,d)::σ').lookup x=some e:=fun x e hx=>by
 have:x≠y:=fun q=>by rw[q,hn] at hx;cases hx
 rw[lookup_cons_ne this];exact h x e hx
abbrev sc19:Scope:=scopeOf (stm 19)
theorem lev_tail{t2:Tok}(hcost:∀a b,isLetter a->isLetter b->HasD Z w H0 "_substitution_cost" (n+1) [.str (sg a),.str (sg b)] (.int (priceC a b)))(hlen:GIs H0 "len" (.builtin "len"))(hmin:GIs H0 "min" (.builtin "min"))(hrange:GIs H0 "range" (.type "range"))(hlist:GIs H0 "list" (.type "list"))
  (hmove:GIs H0 "_MOVE_COST" (.int 2 t2)){s l:List Nat}(hs:∀c∈s,isLetter c)(hl:∀c∈l,isLetter c)(zs:s.length≤2)(zl:l.length≤2):
  GX Z w H0 (n+1) sc19 [(S "a",.d (.str (tx s))),(S "b",.d (.str (tx l))),(S "max_cost",.d (.int 9))] [] ((bodyOf (stm 19)).drop 13) (fun g fl _ _=>∃v,fl=.ret v∧Rd (.int (levMain s l)) g v):=by
 have hsz:Builtin.Range.rangeSize 2 (2*((s.length:Int)+1)) 2=(s.length:Int)∧Builtin.Range.small 2 (2*((s.length:Int)+1)) 2=true:=by
  have:s.length=0∨s.length=1∨s.length=2:=by omega
  rcases this with h|h|h<;> rw[h]<;> decide +kernel
 refine gx_cons (gt_assign_new (Q:=IntList (row0 s)) (y:=S "row") ?_ (settable_of) (fun _ _=>rfl) (fun _ _=>rfl)) (fun g σ' δ' p=>?_) fun g fl σ' δ' hn p=>absurd p.1 hn
 ·refine new_list_rng (a:=2) (b:=2*((s.length:Int)+1)) (c:=2) (m:=s.length) hlist (by decide +kernel) ?_ hsz.2 hsz.1 (by omega)
  have hpy:Builtin.divisionGoesByPylong (2*((s.length:Int)+1) - 2) 2=false:=by
   have:s.length=0∨s.length=1∨s.length=2:=by omega
   rcases this with h|h|h<;> rw[h]<;> decide +kernel
  exact ev_has (has_range3 (n:=n+1) hrange (by decide) hpy) (Nat.le_refl _) (by decide +kernel) (evs_cons (ev_gint hmove (by decide +kernel)) (evs_2 (ev_bin (ev_gint hmove (by decide +kernel)) (ev_bin (ev_len_tx hlen (by omega) (ev_var rfl) (by decide +kernel) fun _=>rfl) ev_int op_addI) (op_mulI (mulOk_two' _))) (ev_gint hmove (by decide +kernel)) (fun _=>rfl) fun _=>rfl) fun _=>rfl) fun _=>rfl
 obtain⟨_,a,o,ho,rfl,rfl⟩:=p;refine gx_step (gt_st (st_assign ev_int (as_name (settable_of)) (fun _ _=>rfl) (fun _ _=>rfl) fun _=>rfl)) ?_;have cast:∀i,i<l.length->(l[i]?).getD 0=l[i]!:=fun i hi=>by simp[hi]
 refine gx_cons (Ψ:=fun g fl σ' δ'=>(fl=.next∧σ'.lookup (S "result")=some (.d (.int (levMain s l))))∨∃v,fl=.ret v∧Rd (.int (levMain s l)) g v) (gt_for (J:=fun i σ' δ'=>∃row o res,IntList row o∧row.length=s.length∧δ'=[(a,o)]∧levOut s l ((List.range l.length).drop i) row res=levMain s l∧
   ∀x e,([(S "result",.d (.int res)),(S "row",.v (.ref a)),(S "a",.d (.str (tx s))),(S "b",.d (.str (tx l))),(S "max_cost",.d (.int 9))]:Sto).lookup x=some e->σ'.lookup x=some e)
   (x:=dRng 0 l.length 1) (ds:=(List.range ((l.length:Int) - 0).toNat).map fun i:Nat=>.d (.int (0+(i:Int)))) ?_ (src_rng (by decide) (by decide) (by omega) (by omega)) ?_ (fun i e σ' δ' he hJ=>?_) ?_ (fun _ _=>rfl) (.inl ⟨_,_,rfl⟩)) ?_ ?_
 ·exact ev_has (has_range1 (n:=n+1) hrange) (Nat.le_refl _) (by decide +kernel) (evs_1 (ev_len_tx hlen (by omega) (ev_var rfl) (by decide +kernel) fun _=>rfl) fun _=>rfl) fun _=>rfl
 ·refine⟨row0 s,o,0,ho,by simp[row0],rfl,rfl,sub_cons rfl (sub_cons rfl (sub_cons rfl (sub_cons rfl (sub_cons rfl sub_nil))))⟩
 ·obtain⟨row,o,res,ho,hrow,rfl,hgo,hsub⟩:=hJ
  rw[getElem?_map] at he;have hlt:i<l.length:=by
   cases h:(List.range ((l.length:Int) - 0).toNat)[i]? with
   |none=>rw[h] at he;cases he
   |some j=>
    have:=(List.getElem?_eq_some_iff.mp h).1;rw[length_range] at this;omega
  rw[getElem?_range (by omega)] at he;cases he;have hdrop:(List.range l.length).drop i=i::(List.range l.length).drop (i+1):=by
   rw[List.drop_eq_getElem_cons (by rw[length_range];exact hlt),List.getElem_range]
  rw[hdrop,levOut] at hgo;generalize hbc:(l[i]?).getD 0=bc at hgo;have hbl:isLetter bc:=by
   rw[←hbc,getElem?_eq_getElem hlt];exact hl _ (getElem_mem hlt)
  have cast0:(0+(i:Int))=i:=by omega
  refine⟨[(S "bindex",.d (.int (0+(i:Int))))],as_name (settable_of),gx_sub (σ':=[(S "bindex",.d (.int (0+(i:Int)))),(S "result",.d (.int res)),(S "row",.v (.ref a)),(S "a",.d (.str (tx s))),(S "b",.d (.str (tx l))),(S "max_cost",.d (.int 9))]) ?_ ?_⟩
  ·refine gx_step (gt_st (st_assign (bs:=[(S "bchar",.d (.str (sg bc)))]) (ev_item_str (k:=0+(i:Int)) (x:=tx l) (c:=bc) (ev_var rfl) (ev_var rfl) (fits63 (by omega) (by omega)) (by rw[item_tx hlt,hbc]) fun _ _=>rfl) (as_name (settable_of)) (fun _ _=>rfl) (fun _ _=>rfl) fun _=>rfl)) ?_
   refine gx_step (gt_st (st_assign2 (e:=.d (.int ((0+(i:Int))*2))) (ev_bin (ev_var rfl) (ev_gint hmove (by decide +kernel)) (op_mulI (mulOk_two _))) (settable_of) (settable_of) (fun _ _=>rfl))) ?_;refine gx_step (gt_st (st_assign (bs:=[(S "minimum",.d (.int 9223372036854775807))]) ev_int (as_name (settable_of)) (fun _ _=>rfl) (fun _ _=>rfl) fun _=>rfl)) ?_;rw[cast0];refine gx_cons (Ψ:=fun g fl σ' δ'=>fl=.next∧∃o',IntList (inRow bc s row (i*2) s.length).row o'∧δ'=[(a,o')]∧∀x e,([(S "result",.d (.int (inRow bc s row (i*2) s.length).res)),(S "minimum",.d (.int (inRow bc s row (i*2) s.length).mn)),(S "row",.v (.ref a)),(S "a",.d (.str (tx s))),(S "b",.d (.str (tx l))),(S "max_cost",.d (.int 9))]:Sto).lookup x=some e->σ'.lookup x=some e)
    (gt_for (J:=fun k σ' δ'=>∃o',IntList (inRow bc s row (i*2) k).row o'∧δ'=[(a,o')]∧
     ∀x e,([(S "distance",.d (.int (inRow bc s row (i*2) k).dist)),(S "result",.d (.int (inRow bc s row (i*2) k).res)),(S "minimum",.d (.int (inRow bc s row (i*2) k).mn)),(S "bchar",.d (.str (sg bc))),(S "row",.v (.ref a)),(S "a",.d (.str (tx s))),(S "b",.d (.str (tx l))),(S "max_cost",.d (.int 9))]:Sto).lookup x=some e->σ'.lookup x=some e)
     (x:=dRng 0 s.length 1) (ds:=(List.range ((s.length:Int) - 0).toNat).map fun i:Nat=>.d (.int (0+(i:Int)))) ?_ (src_rng (by decide) (by decide) (by omega) (by omega)) ?_ (fun k e σ' δ' he hJ=>?_) (fun g σ' δ' hJ=>?_) (fun _ _=>rfl) (.inl ⟨_,_,rfl⟩)) (fun g σ' δ' p=>?_) fun g fl σ' δ' hn p=>absurd p.1 hn
   ·exact ev_has (has_range1 (n:=n+1) hrange) (Nat.le_refl _) (by decide +kernel) (evs_1 (ev_len_tx hlen (by omega) (ev_var rfl) (by decide +kernel) fun _=>rfl) fun _=>rfl) fun _=>rfl
   ·exact⟨o,ho,rfl,sub_cons rfl (sub_cons rfl (sub_cons rfl (sub_cons rfl (sub_cons rfl (sub_cons rfl (sub_cons rfl (sub_cons rfl sub_nil)))))))⟩
   ·obtain⟨o',ho',rfl,hsub'⟩:=hJ
    rw[getElem?_map] at he;have hk:k<s.length:=by
     cases h:(List.range ((s.length:Int) - 0).toNat)[k]? with
     |none=>rw[h] at he;cases he
     |some j=>
      have:=(List.getElem?_eq_some_iff.mp h).1;rw[length_range] at this;omega
    rw[getElem?_range (by omega)] at he;cases he;have hcl:isLetter ((s[k]?).getD 0):=by
     rw[getElem?_eq_getElem hk];exact hs _ (getElem_mem hk)
    have hrl:(inRow bc s row (i*2) k).row.length=s.length:=by rw[inRow_len,hrow]
    have hstep:=inRow_succ bc s row (i*2) k;rw[hstep];generalize inRow bc s row (i*2) k=st at ho' hsub' hrl ⊢;have hrk:st.row[k]? =some ((st.row[k]?).getD 0):=by rw[getElem?_eq_getElem (by omega)];rfl
    generalize hd:(st.row[k]?).getD 0=d at hrk;generalize hsubv:st.dist+priceC bc ((s[k]?).getD 0)=sub;generalize hins:(if d<st.res then d else st.res)+2=ins;generalize hr:(if sub<ins then sub else ins)=r;have e1:inStep bc s st k=⟨d,r,st.row.set k r,if r<st.mn then r else st.mn⟩:=by
     unfold inStep;simp only[hd,hsubv,hins,hr]
    rw[e1];refine⟨[(S "index",.d (.int (0+(k:Int))))],as_name (settable_of),gx_sub (σ':=[(S "index",.d (.int (0+(k:Int)))),(S "distance",.d (.int st.dist)),(S "result",.d (.int st.res)),(S "minimum",.d (.int st.mn)),(S "bchar",.d (.str (sg bc))),(S "row",.v (.ref a)),(S "a",.d (.str (tx s))),(S "b",.d (.str (tx l))),(S "max_cost",.d (.int 9))]) ?_ (sub_cons rfl fun x e hx=>?_)⟩
    ·refine gx_step (gt_st (st_assign (x:=.d (.int sub)) (bs:=[(S "substitute",.d (.int sub))]) ?_ (as_name (settable_of)) (fun _ _=>rfl) (fun _ _=>rfl) fun _=>rfl)) ?_
     ·rw[←hsubv]
      exact ev_bin (ev_var rfl) (ev_has (hcost bc _ hbl hcl) (Nat.le_refl _) (by decide +kernel) (evs_2 (ev_var rfl) (ev_item_str (k:=0+(k:Int)) (x:=tx s) (ev_var rfl) (ev_var rfl) (fits63 (by omega) (by omega)) (item_tx hk) fun _ _=>rfl) (fun _=>rfl) fun _=>rfl) fun _=>rfl) op_addI
     refine gx_step (gt_st (st_assign (bs:=[(S "distance",.d (.int d))]) (ev_item_led (a:=a) (o:=o') (i:=0+(k:Int)) (ev_var rfl) (mem_singleton.mpr rfl) ho' (ev_var rfl) (by omega) (by omega) (by rw[show(0+(k:Int)).toNat=k by omega];exact hrk) fun _ _=>rfl) (as_name (settable_of)) (fun _ _=>rfl) (fun _ _=>rfl) fun _=>rfl)) ?_;refine gx_step (gt_st (st_assign (x:=.d (.int ins)) (bs:=[(S "insert_delete",.d (.int ins))]) ?_ (as_name (settable_of)) (fun _ _=>rfl) (fun _ _=>rfl) fun _=>rfl)) ?_
     ·rw[←hins]
      exact ev_bin (ev_has (has_min2 (n:=n+1) hmin) (Nat.le_refl _) (by decide +kernel) (evs_2 (ev_var rfl) (ev_var rfl) (fun _=>rfl) fun _=>rfl) fun _=>rfl) (ev_gint hmove (by decide +kernel)) op_addI
     refine gx_step (gt_st (st_assign (x:=.d (.int r)) (bs:=[(S "result",.d (.int r))]) ?_ (as_name (settable_of)) (fun _ _=>rfl) (fun _ _=>rfl) fun _=>rfl)) ?_
     ·rw[←hr]
      exact ev_has (has_min2 (n:=n+1) hmin) (Nat.le_refl _) (by decide +kernel) (evs_2 (ev_var rfl) (ev_var rfl) (fun _=>rfl) fun _=>rfl) fun _=>rfl
     refine gx_cons (gt_set_led (a:=a) (o:=o') (ks:=st.row) (i:=0+(k:Int)) (k:=r) (ev_var rfl) (ev_var rfl) (mem_singleton.mpr rfl) ho' (ev_var rfl) (by omega) (by omega) (by omega) fun _=>rfl) (fun g σ' δ' p=>?_) fun g fl σ' δ' hn p=>absurd p.1 hn;obtain⟨_,rfl,o2,ho2,rfl⟩:=p;rw[show(0+(k:Int)).toNat=k by omega] at ho2;have el:setLed a o2 [(a,o')]=[(a,o2)]:=by simp[setLed]
     rw[el]
     by_cases hm:r<st.mn
     ·rw[if_pos hm]
      refine gx_step (δ₁:=[(a,o2)]) (σ₁:=[(S "minimum",.d (.int r))]++([(S "result",.d (.int r))]++([(S "insert_delete",.d (.int ins))]++([(S "distance",.d (.int d))]++([(S "substitute",.d (.int sub))]++[(S "index",.d (.int (0+(k:Int)))),(S "distance",.d (.int st.dist)),(S "result",.d (.int st.res)),(S "minimum",.d (.int st.mn)),(S "bchar",.d (.str (sg bc))),(S "row",.v (.ref a)),(S "a",.d (.str (tx s))),(S "b",.d (.str (tx l))),(S "max_cost",.d (.int 9))]))))) (gt_if (b:=true) ?_ (fun _=>?_) fun h=>by cases h) ?_
      ·have:=op_ltI (Z:=Z) (w:=w) (H0:=H0) (n:=n+1) (a:=r) (b:=st.mn)
       rw[decide_eq_true hm] at this;exact tr_cmp (ev_var rfl) (ev_var rfl) this rfl
      ·exact gx_step (gt_st (st_assign (bs:=[(S "minimum",.d (.int r))]) (ev_var rfl) (as_name (settable_of)) (fun _ _=>rfl) (fun _ _=>rfl) fun _=>rfl)) (gx_nil fun g=>⟨rfl,rfl,rfl⟩)
      ·exact gx_nil fun g=>⟨o2,ho2,rfl,sub_cons rfl (sub_cons rfl (sub_cons rfl (sub_cons rfl (sub_cons rfl (sub_cons rfl (sub_cons rfl (sub_cons rfl sub_nil)))))))⟩
     ·rw[if_neg hm]
      refine gx_step (gt_if (b:=false) ?_ (fun h=>by cases h) fun _=>gx_nil fun g=>⟨rfl,rfl,rfl⟩) (gx_nil fun g=>⟨o2,ho2,rfl,sub_cons rfl (sub_cons rfl (sub_cons rfl (sub_cons rfl (sub_cons rfl (sub_cons rfl (sub_cons rfl (sub_cons rfl sub_nil)))))))⟩);have:=op_ltI (Z:=Z) (w:=w) (H0:=H0) (n:=n+1) (a:=r) (b:=st.mn);rw[decide_eq_false hm] at this;exact tr_cmp (ev_var rfl) (ev_var rfl) this rfl
    ·exact sub_past (σ:=[(S "distance",.d (.int st.dist)),(S "result",.d (.int st.res)),(S "minimum",.d (.int st.mn)),(S "bchar",.d (.str (sg bc))),(S "row",.v (.ref a)),(S "a",.d (.str (tx s))),(S "b",.d (.str (tx l))),(S "max_cost",.d (.int 9))]) rfl hsub' x e hx
   ·obtain⟨o',ho',rfl,hsub'⟩:=hJ
    have el:((List.range ((s.length:Int) - 0).toNat).map fun i:Nat=>Ent.d (.int (0+(i:Int)))).length=s.length:=by rw[length_map,length_range];omega
    rw[el] at ho' hsub';exact⟨rfl,o',ho',rfl,fun x e hx=>hsub' x e (sub_cons rfl (sub_cons rfl (sub_cons rfl (sub_cons rfl (sub_cons rfl (sub_cons rfl sub_nil))))) x e hx)⟩
   ·obtain⟨_,o',ho',rfl,hsub'⟩:=p
    have hrl:(inRow bc s row (i*2) s.length).row.length=s.length:=by rw[inRow_len,hrow]
    generalize inRow bc s row (i*2) s.length=st at ho' hsub' hrl hgo;refine gx_sub ?_ hsub';have hcmp:=op_gtI (Z:=Z) (w:=w) (H0:=H0) (n:=n+1) (a:=st.mn) (b:=9)
    by_cases hm:9<st.mn
    ·rw[decide_eq_true hm] at hcmp
     rw[if_pos hm] at hgo;refine gx_stop (gt_if (b:=true) (tr_cmp (ev_var rfl) (ev_var rfl) hcmp rfl) (fun _=>?_) fun h=>by cases h);refine gx_ret (P:=Rd (.int 10)) (show EvE _ _ _ _ _ _ _ _ (.d (.int (9+1))) from ev_bin (ev_var rfl) ev_int op_addI) fun g v σ' p=>⟨(by intro q;cases q),.inr ⟨v,rfl,?_⟩⟩;rw[←hgo];exact p
    ·rw[decide_eq_false hm] at hcmp
     rw[if_neg hm] at hgo;refine gx_step (gt_if (b:=false) (tr_cmp (ev_var rfl) (ev_var rfl) hcmp rfl) (fun h=>by cases h) fun _=>gx_nil fun g=>⟨rfl,rfl,rfl⟩) (gx_nil fun g=>?_);exact⟨st.row,o',st.res,ho',hrl,rfl,hgo,sub_cons rfl (sub_cons rfl (sub_cons rfl (sub_cons rfl (sub_cons rfl sub_nil))))⟩
  ·exact sub_cons rfl (sub_past (σ:=[(S "result",.d (.int res)),(S "row",.v (.ref a)),(S "a",.d (.str (tx s))),(S "b",.d (.str (tx l))),(S "max_cost",.d (.int 9))]) rfl hsub)
 ·intro g σ' δ' hJ
  obtain⟨row,o',res,ho',hrow,rfl,hgo,hsub⟩:=hJ;have el:((List.range ((l.length:Int) - 0).toNat).map fun i:Nat=>Ent.d (.int (0+(i:Int)))).length=l.length:=by rw[length_map,length_range];omega
  rw[el,List.drop_eq_nil_of_le (by rw[length_range];exact Nat.le_refl _),levOut] at hgo;exact .inl ⟨rfl,by rw[←hgo];exact hsub _ _ rfl⟩
 ·intro g σ' δ' p
  rcases p with ⟨_,h⟩|⟨v,h,_⟩
  ·exact gx_ret (P:=Rd (.int (levMain s l))) (show EvE _ _ _ _ _ _ _ _ (.d (.int (levMain s l))) from ev_var h) fun g v σ' p=>⟨v,rfl,p⟩
  ·cases h
 ·intro g fl σ' δ' hn p
  rcases p with ⟨h,_⟩|h
  ·exact absurd h hn
  ·exact h
def cpre:List Nat->List Nat->Nat
 |x::xs,y::ys=>if x=y then cpre xs ys+1 else 0
 |_,_=>0
def cut(l:List Nat)(k:Nat):List Nat:=l.take (l.length - k)
def levT(a b:List Nat):Int:=
 if a=[]∨b=[] then 2*((a.length:Int)+b.length) else if b.length<a.length then levMain b a else levMain a b
def levF(a b:List Nat):Int:=
 if a=b then 0 else
 let a1:=a.drop (cpre a b)
 let b1:=b.drop (cpre a b)
 let q:=cpre a1.reverse b1.reverse
 levT (cut a1 q) (cut b1 q)
theorem slice_drop{l:List Nat}{p:Nat}(h:p≤l.length):Txt.slice (tx l) (some (p:Int)) none=tx (l.drop p):=by
 have hz:(tx l).length=l.length:=len_tx;rw[slice_from_eq (b:=l.length) (by omega) (by rw[hz];omega) (by rw[hz])];have e:((l.length:Int) - p).toNat=l.length - p:=by omega
 rw[e];simp only[tx,Int.toNat_natCast];rw[List.take_of_length_le (by rw[length_drop];exact Nat.le_refl _)]
theorem slice_of{x:Str}{lo hi:Option Int}{is:List Nat}(h:Builtin.Str.strSliceIndices lo hi 1 x.length=is):Txt.slice x lo hi=if is.length=x.length then x else ⟨(is.filterMap (x.cps[·]?)).toArray⟩:=by
 unfold Txt.slice;rw[h]
 by_cases e:is.length=x.length<;> simp[e]
theorem slice_all{l:List Nat}(h:l.length≤2):Txt.slice (tx l) none none=tx l:=by
 match l,h with
 |[],_=>rfl
 |[a],_=>rw[slice_of (is:=[0]) (by show Builtin.Str.strSliceIndices none none 1 1=_;decide +kernel)];rfl
 |[a,b],_=>rw[slice_of (is:=[0,1]) (by show Builtin.Str.strSliceIndices none none 1 2=_;decide +kernel)];rfl
theorem slice_cut{l:List Nat}{k:Nat}(h2:l.length≤2)(hk:k≤l.length)(h0:0<k):Txt.slice (tx l) none (some (-(k:Int)))=tx (cut l k):=by
 match l,k,h2,hk,h0 with
 |[],0,_,_,h=>exact absurd h (by decide)
 |[a],1,_,_,_=>rw[slice_of (is:=[]) (by show Builtin.Str.strSliceIndices none (some (-1)) 1 1=_;decide +kernel)];rfl
 |[a,b],1,_,_,_=>rw[slice_of (is:=[0]) (by show Builtin.Str.strSliceIndices none (some (-1)) 1 2=_;decide +kernel)];rfl
 |[a,b],2,_,_,_=>rw[slice_of (is:=[]) (by show Builtin.Str.strSliceIndices none (some (-2)) 1 2=_;decide +kernel)];rfl
theorem cpre_le:∀a b:List Nat,cpre a b≤a.length∧cpre a b≤b.length
 |[],_=>by simp[cpre]
 |_::_,[]=>by simp[cpre]
 |x::xs,y::ys=>by
  have:=cpre_le xs ys;rw[cpre];split
  ·simp;omega
  ·simp
def dOpt(k:Option Int):PyData:=match k with
 |none=>.none
 |some k=>.int k
theorem ev_slice_str_to{value upper:Expr}{p pos:Pos}{x:Str}{hi:Option Int}(hv:EvE Z w H0 n sc σ δ value (.d (.str x)))(hu:EvE Z w H0 n sc σ δ upper (.d (dOpt hi)))
  (hz:x.length≤sizeLine)(ht:∀o r,letTemporaryGo value o r=pure ()):EvE Z w H0 n sc σ δ (.Subscript value (.Slice none (some upper) none p) pos) (.d (.str (Txt.slice x none hi))):=by
 intro A V s η g o F;refine PyProof.Rows.Subscript_ (seqP (hv A V s η g o F) fun v s₁ q1=>?_);have F1:=F.ext q1.ext;refine wpAny_Slice (wpAny_evalPart_none (wpAny_evalPart_some (seqP (hu A V s₁ η g o F1) fun vu s2 q2=>wpAny_pure ?_)));obtain⟨t,rfl⟩:=rd_str q1.val;cases hi with
 |none=>
  have e:=rd_none q2.val;subst e;refine tail_of_ItemOn (SBH.sliceItem_nn (P:=fun h'=>Ext s2.heap h') (fun h ob e=>e.trans (ext_push _ _)) (Ext.refl _) (fun h' t' k e=>?_) hz) rfl (ht _);exact(q1.trans q2).trans ⟨h',k,rfl,e,str_rd _ _ _⟩
 |some k=>
  obtain⟨u,rfl⟩:=rd_int q2.val;refine tail_of_ItemOn (SBH.sliceItem_ns (P:=fun h'=>Ext s2.heap h') (fun h ob e=>e.trans (ext_push _ _)) (Ext.refl _) (fun h' t' k e=>?_) hz) rfl (ht _);exact(q1.trans q2).trans ⟨h',k,rfl,e,str_rd _ _ _⟩
theorem lev_post{t2 t3:Tok}(hcost:∀a b,isLetter a->isLetter b->HasD Z w H0 "_substitution_cost" (n+1) [.str (sg a),.str (sg b)] (.int (priceC a b)))(hlen:GIs H0 "len" (.builtin "len"))(hmin:GIs H0 "min" (.builtin "min"))(hrange:GIs H0 "range" (.type "range"))(hlist:GIs H0 "list" (.type "list"))
  (hmove:GIs H0 "_MOVE_COST" (.int 2 t2))(hmax:GIs H0 "_MAX_STRING_SIZE" (.int 40 t3)){a b:List Nat}(ha:∀c∈a,isLetter c)(hb:∀c∈b,isLetter c)(za:a.length≤2)(zb:b.length≤2):
  GX Z w H0 (n+1) sc19 [(S "a",.d (.str (tx a))),(S "b",.d (.str (tx b))),(S "max_cost",.d (.int 9))] [] ((bodyOf (stm 19)).drop 9) (fun g fl _ _=>∃v,fl=.ret v∧Rd (.int (levT a b)) g v):=by
 have zl:∀{l:List Nat},l.length≤2->(tx l).length≤sizeLine:=fun h=>size_le (by rw[len_tx];omega);have va:∀pos,EvE Z w H0 (n+1) sc19 [(S "a",.d (.str (tx a))),(S "b",.d (.str (tx b))),(S "max_cost",.d (.int 9))] [] (.Name "a" pos) (.d (.str (tx a))):=fun pos=>ev_var rfl;have vb:∀pos,EvE Z w H0 (n+1) sc19 [(S "a",.d (.str (tx a))),(S "b",.d (.str (tx b))),(S "max_cost",.d (.int 9))] [] (.Name "b" pos) (.d (.str (tx b))):=fun pos=>ev_var rfl;have tn:∀{l:List Nat},((tx l).length !=0)=!l.isEmpty:=fun{l}=>by rw[len_tx];cases l<;> rfl
 have gt40:∀{l:List Nat},l.length≤2->decide ((40:Int)<l.length)=false:=fun h=>by simp;omega
 have h40a:=op_gtI (Z:=Z) (w:=w) (H0:=H0) (n:=n+1) (a:=(a.length:Int)) (b:=40);have h40b:=op_gtI (Z:=Z) (w:=w) (H0:=H0) (n:=n+1) (a:=(b.length:Int)) (b:=40);rw[gt40 za] at h40a;rw[gt40 zb] at h40b;have ta:∀pos,TrP Z w H0 (n+1) sc19 [(S "a",.d (.str (tx a))),(S "b",.d (.str (tx b))),(S "max_cost",.d (.int 9))] [] (.Name "a" pos) (!a.isEmpty):=fun pos=>by
  have:=tr_plain (va pos) (tr_txt (zl za)) (fun _ _=>rfl);rwa [tn] at this
 have tb:∀pos,TrP Z w H0 (n+1) sc19 [(S "a",.d (.str (tx a))),(S "b",.d (.str (tx b))),(S "max_cost",.d (.int 9))] [] (.Name "b" pos) (!b.isEmpty):=fun pos=>by
  have:=tr_plain (vb pos) (tr_txt (zl zb)) (fun _ _=>rfl);rwa [tn] at this
 by_cases he:a=[]∨b=[]
 ·have et:levT a b=2*((a.length:Int)+b.length):=by rw[levT,if_pos he]
  rw[et];refine gx_stop (gt_if (b:=true) ?_ (fun _=>?_) fun h=>by cases h)
  ·have e:true=(!(!a.isEmpty) ||!(!b.isEmpty)):=by
    rcases he with rfl|rfl
    ·simp
    ·simp
   rw[e];exact tr_boolop (trs_or (tr_not (ta _)) fun _=>trs_or1 (tr_not (tb _)))
  ·refine gx_ret (P:=Rd (.int (2*((a.length:Int)+b.length)))) (show EvE _ _ _ _ _ _ _ _ (.d (.int (2*((a.length:Int)+b.length)))) from ev_bin (ev_gint hmove (by decide +kernel)) (ev_bin (ev_len_tx hlen (by omega) (va _) (by decide +kernel) fun _=>rfl) (ev_len_tx hlen (by omega) (vb _) (by decide +kernel) fun _=>rfl) op_addI) (op_mulI (mulOk_two' _))) fun g v σ' p=>⟨(by intro q;cases q),v,rfl,p⟩
 ·have et:levT a b=if b.length<a.length then levMain b a else levMain a b:=by rw[levT,if_neg he]
  rw[et];simp only[not_or] at he;refine gx_step (gt_if (b:=false) ?_ (fun h=>by cases h) fun _=>gx_nil fun g=>⟨rfl,rfl,rfl⟩) ?_
  ·have e:false=(!(!a.isEmpty) ||!(!b.isEmpty)):=by
    rw[show a.isEmpty=false by simpa using he.1,show b.isEmpty=false by simpa using he.2];rfl
   rw[e];exact tr_boolop (trs_or (tr_not (ta _)) fun _=>trs_or1 (tr_not (tb _)))
  refine gx_step (gt_if (b:=false) ?_ (fun h=>by cases h) fun _=>gx_nil fun g=>⟨rfl,rfl,rfl⟩) ?_
  ·exact tr_boolop (trs_or (a:=false) (b:=false) (tr_cmp (ev_len_tx hlen (by omega) (va _) (by decide +kernel) fun _=>rfl) (ev_gint hmax (by decide +kernel)) h40a rfl) fun _=>trs_or1 (tr_cmp (ev_len_tx hlen (by omega) (vb _) (by decide +kernel) fun _=>rfl) (ev_gint hmax (by decide +kernel)) h40b rfl))
  have fin:∀s l:List Nat,s.length≤l.length->s.length≤2->l.length≤2->(∀c∈s,isLetter c)->(∀c∈l,isLetter c)->GX Z w H0 (n+1) sc19 [(S "a",.d (.str (tx s))),(S "b",.d (.str (tx l))),(S "max_cost",.d (.int 9))] [] ((bodyOf (stm 19)).drop 12) (fun g fl _ _=>∃v,fl=.ret v∧Rd (.int (levMain s l)) g v):=fun s l hsl zs zl hs hl=>by
   refine gx_step (gt_if (b:=false) ?_ (fun h=>by cases h) fun _=>gx_nil fun g=>⟨rfl,rfl,rfl⟩) (lev_tail hcost hlen hmin hrange hlist hmove hs hl zs zl);have hc:=op_gtI (Z:=Z) (w:=w) (H0:=H0) (n:=n+1) (a:=((l.length:Int) - s.length)*2) (b:=9);rw[show decide ((9:Int)<((l.length:Int) - s.length)*2)=false by simp;omega] at hc;exact tr_cmp (ev_bin (ev_bin (ev_len_tx hlen (by omega) (ev_var rfl) (by decide +kernel) fun _=>rfl) (ev_len_tx hlen (by omega) (ev_var rfl) (by decide +kernel) fun _=>rfl) op_subI) (ev_gint hmove (by decide +kernel)) (op_mulI (mulOk_two _))) (ev_var rfl) hc rfl
  have hc:=op_ltI (Z:=Z) (w:=w) (H0:=H0) (n:=n+1) (a:=(b.length:Int)) (b:=(a.length:Int))
  by_cases hlt:b.length<a.length
  ·rw[if_pos hlt]
   rw[show decide ((b.length:Int)<a.length)=true by simpa using hlt] at hc;refine gx_step (δ₁:=[]) (σ₁:=(S "a",.d (.str (tx b)))::(S "b",.d (.str (tx a)))::[(S "a",.d (.str (tx a))),(S "b",.d (.str (tx b))),(S "max_cost",.d (.int 9))]) (gt_if (b:=true) (tr_cmp (ev_len_tx hlen (by omega) (vb _) (by decide +kernel) fun _=>rfl) (ev_len_tx hlen (by omega) (va _) (by decide +kernel) fun _=>rfl) hc rfl) (fun _=>?_) fun h=>by cases h) ?_
   ·refine gx_step (gt_st (st_assign_sw (x:=.d (.tuple [.str (tx b),.str (tx a)])) (e1:=.d (.str (tx b))) (e2:=.d (.str (tx a))) (ev_tuple (ds:=[.str _,.str _]) (evs_2 (vb _) (va _) (fun _=>rfl) fun _=>rfl) (size_le (by simp))) unp_tuple (settable_of) (settable_of) (fun V o=>by have q:=o.scope;cases V;simp only at q;subst q;rfl) (fun V o=>by have q:=o.scope;cases V;simp only at q;subst q;rfl))) (gx_nil fun g=>⟨rfl,rfl,rfl⟩)
   ·exact gx_sub (fin b a (by omega) zb za hb ha) (sub_cons rfl (sub_cons rfl (sub_cons rfl sub_nil)))
  ·rw[if_neg hlt]
   rw[show decide ((b.length:Int)<a.length)=false by simpa using hlt] at hc;exact gx_step (gt_if (b:=false) (tr_cmp (ev_len_tx hlen (by omega) (vb _) (by decide +kernel) fun _=>rfl) (ev_len_tx hlen (by omega) (va _) (by decide +kernel) fun _=>rfl) hc rfl) (fun h=>by cases h) fun _=>gx_nil fun g=>⟨rfl,rfl,rfl⟩) (fin a b (by omega) za zb ha hb)
def agree(a b:List Nat):Bool:=!a.isEmpty && (!b.isEmpty && (a.headD 0==b.headD 0))
theorem agree_true{a b:List Nat}(h:agree a b=true):cpre a b=cpre (a.drop 1) (b.drop 1)+1∧0<a.length∧0<b.length:=by
 cases a with
 |nil=>simp[agree] at h
 |cons x xs=>
  cases b with
  |nil=>simp[agree] at h
  |cons y ys=>
   simp[agree] at h;simp[cpre,h]
theorem agree_false{a b:List Nat}(h:agree a b=false):cpre a b=0:=by
 cases a with
 |nil=>simp[cpre]
 |cons x xs=>
  cases b with
  |nil=>simp[cpre]
  |cons y ys=>
   simp[agree] at h;simp[cpre,h]
theorem item_at{l:List Nat}{i:Nat}(h:i<l.length):(seqIndex? (i:Int) (tx l).length).bind ((tx l).cps[·]?)=some ((l.drop i).headD 0):=by
 have:=item_tx h;rw[Int.zero_add] at this;rw[this]
 congr 1
 rw[getElem?_eq_getElem h,List.drop_eq_getElem_cons h];rfl
theorem tr_sub{e:Expr}{b:Bool}{σ':Sto}(h:TrP Z w H0 n sc σ δ e b)(hs:∀x e,σ.lookup x=some e->σ'.lookup x=some e):TrP Z w H0 n sc σ' δ e b:=fun A V s η g o F=>h A V s η g o (F.sub hs)
theorem tr_from{value lower:Expr}{p pos:Pos}{l:List Nat}{i:Nat}(hv:EvE Z w H0 n sc σ δ value (.d (.str (tx l))))(hl:EvE Z w H0 n sc σ δ lower (.d (.int (i:Int))))(hi:i≤l.length)(hz:l.length≤2)
  (ht:∀o r,letTemporaryGo value o r=pure ())(hp:∀V whole,PySem.isTrue (.Subscript value (.Slice (some lower) none none p) pos) V whole=(do let v ←whole;standAt (Expr.Subscript value (.Slice (some lower) none none p) pos).pos;holding [v] (truthy v))):
  TrP Z w H0 n sc σ δ (.Subscript value (.Slice (some lower) none none p) pos) (!(l.drop i).isEmpty):=by
 have h1:=ev_slice_str_from (Z:=Z) (w:=w) (H0:=H0) (n:=n) (p:=p) (pos:=pos) hv hl (size_le (by rw[len_tx];omega)) ht;rw[slice_drop hi] at h1;have:=tr_plain h1 (tr_txt (size_le (by rw[len_tx,length_drop];omega))) hp;rw[len_tx] at this;have e:((l.drop i).length !=0)=!(l.drop i).isEmpty:=by cases l.drop i<;> rfl
 rwa [e] at this
theorem lev_pre{a b:List Nat}(za:a.length≤2)(zb:b.length≤2){test:Expr}{body:List Stmt}{pos:Pos}
  (hst:(bodyOf (stm 19))[2]? =some (.While test body [] pos)):
  GT Z w H0 (n+1) sc19 [(S "pre",.d (.int 0)),(S "a",.d (.str (tx a))),(S "b",.d (.str (tx b))),(S "max_cost",.d (.int 9))] [] (.While test body [] pos)
   (fun _ fl σ' δ'=>fl=.next∧δ'=[]∧∀x e,([(S "pre",.d (.int (cpre a b:Int))),(S "a",.d (.str (tx a))),(S "b",.d (.str (tx b))),(S "max_cost",.d (.int 9))]:Sto).lookup x=some e->σ'.lookup x=some e):=by
 cases hst;refine gt_while (I:=fun i σ' δ'=>δ'=[]∧∃p:Nat,p≤a.length∧p≤b.length∧cpre a b=p+cpre (a.drop p) (b.drop p)∧i=a.length - p∧
  ∀x e,([(S "pre",.d (.int (p:Int))),(S "a",.d (.str (tx a))),(S "b",.d (.str (tx b))),(S "max_cost",.d (.int 9))]:Sto).lookup x=some e->σ'.lookup x=some e) a.length (fun i σ' δ' hI=>?_) ⟨rfl,0,Nat.zero_le _,Nat.zero_le _,by simp,by simp,fun x e h=>h⟩
 obtain⟨rfl,p,pa,pb,hc,hi,hsub⟩:=hI;generalize hσ:([(S "pre",.d (.int (p:Int))),(S "a",.d (.str (tx a))),(S "b",.d (.str (tx b))),(S "max_cost",.d (.int 9))]:Sto)=τ at hsub;have vp:∀pos,EvE Z w H0 (n+1) sc19 τ [] (.Name "pre" pos) (.d (.int (p:Int))):=fun pos=>by subst hσ;exact ev_var rfl
 have va:∀pos,EvE Z w H0 (n+1) sc19 τ [] (.Name "a" pos) (.d (.str (tx a))):=fun pos=>by subst hσ;exact ev_var rfl
 have vb:∀pos,EvE Z w H0 (n+1) sc19 τ [] (.Name "b" pos) (.d (.str (tx b))):=fun pos=>by subst hσ;exact ev_var rfl
 refine⟨agree (a.drop p) (b.drop p),tr_sub ?_ hsub,fun ht=>gx_sub ?_ hsub,fun hf=>gx_nil fun g=>⟨rfl,rfl,?_⟩⟩
 ·refine tr_boolop (trs_and (tr_from (va _) (vp _) pa za (fun _ _=>rfl) fun _ _=>rfl) fun h1=>trs_and (tr_from (vb _) (vp _) pb zb (fun _ _=>rfl) fun _ _=>rfl) fun h2=>trs_and1 ?_)
  have l1:p<a.length:=by
   have:a.drop p≠[]:=by simpa using h1
   rw[ne_eq,drop_eq_nil_iff] at this;omega
  have l2:p<b.length:=by
   have:b.drop p≠[]:=by simpa using h2
   rw[ne_eq,drop_eq_nil_iff] at this;omega
  rw[←sg_beq];exact tr_cmp (ev_item_str (va _) (vp _) (fits63 (by omega) (by omega)) (item_at l1) fun _ _=>rfl) (ev_item_str (vb _) (vp _) (fits63 (by omega) (by omega)) (item_at l2) fun _ _=>rfl) op_eqS rfl
 ·have ha:=agree_true ht
  rw[length_drop,length_drop,drop_drop,drop_drop] at ha;subst hσ;refine gx_step (gt_st (st_aug (a:=.d (.int (p:Int))) (b:=.d (.int 1)) (c:=.d (.int ((p:Int)+1))) rfl (by decide +kernel) (settable_of) ev_int op_iaddI)) (gx_nil fun g=>?_);refine⟨a.length - (p+1),by omega,rfl,p+1,by omega,by omega,?_,rfl,?_⟩
  ·rw[hc]
   have e1:=ha.1;omega
  ·have e1:((p+1:Nat):Int)=(p:Int)+1:=by omega
   rw[e1];exact sub_cons rfl (sub_cons rfl (sub_cons rfl (sub_cons rfl sub_nil)))
 ·have h0:=agree_false hf
  rw[h0] at hc;have e1:cpre a b=p:=by omega
  rw[e1];subst hσ;exact hsub
theorem item_back{l:List Nat}{k:Nat}(h:k<l.length):(seqIndex? (-(k:Int) - 1) (tx l).length).bind ((tx l).cps[·]?)=some ((l.reverse.drop k).headD 0):=by
 have e:seqIndex? (-(k:Int) - 1) (tx l).length=some (l.length - 1 - k):=by
  rw[len_tx];unfold seqIndex?;have h1:(-(k:Int) - 1)<0:=by omega
  simp only[h1,if_true];have h2:(-(k:Int) - 1+l.length)=((l.length - 1 - k:Nat):Int):=by omega
  rw[h2];have h3:l.length - 1 - k<l.length:=by omega
  simp[h3]
 rw[e];have hr:k<l.reverse.length:=by rw[length_reverse];exact h
 rw[List.drop_eq_getElem_cons hr,List.getElem_reverse];have h3:l.length - 1 - k<l.length:=by omega
 simp[tx,h3]
theorem cut_zero(l:List Nat):cut l 0=l:=by simp[cut]
theorem ev_cut{value post:Expr}{c1:Const}{kx:Nat}{p p2 p3 pos:Pos}{l:List Nat}{k:Nat}(hv:EvE Z w H0 n sc σ δ value (.d (.str (tx l))))(hp:EvE Z w H0 n sc σ δ post (.d (.int (-(k:Int)))))(hk:k≤l.length)(hz:l.length≤2)(ht:∀o r,letTemporaryGo value o r=pure ()):
  EvE Z w H0 n sc σ δ (.Subscript value (.Slice none (some (.BoolOp .Or [post,.Constant .none kx p2] p3)) none p) pos) (.d (.str (tx (cut l k)))):=by
 cases k with
 |zero=>
  have:=ev_slice_str_to (Z:=Z) (w:=w) (H0:=H0) (n:=n) (p:=p) (pos:=pos) (hi:=none) hv (ev_or2 (pos:=p3) (t:=false) (b:=.d .none) (c:=.d (dOpt none)) hp (tr_num (k:= -((0:Nat):Int))) (fun h=>by cases h) fun _=>⟨ev_none (k:=kx) (pos:=p2),rfl⟩) (size_le (by rw[len_tx];omega)) ht;rw[slice_all hz] at this;rwa [cut_zero]
 |succ k=>
  have hne:((-((k+1:Nat):Int)) !=0)=true:=by simp;omega
  have ht':=tr_num (Z:=Z) (w:=w) (H0:=H0) (n:=n) (k:= -((k+1:Nat):Int));rw[hne] at ht';have:=ev_slice_str_to (Z:=Z) (w:=w) (H0:=H0) (n:=n) (p:=p) (pos:=pos) (hi:=some (-((k+1:Nat):Int))) hv (ev_or2 (pos:=p3) (t:=true) (b:=.d .none) (c:=.d (dOpt (some (-((k+1:Nat):Int))))) (e':=.Constant .none kx p2) hp ht' (fun _=>rfl) fun h=>by cases h) (size_le (by rw[len_tx];omega)) ht;rw[slice_cut hz hk (by omega)] at this;exact this
theorem cut_some{l:List Nat}{k:Nat}:(!(cut l k).isEmpty)=!(l.reverse.drop k).isEmpty:=by
 have h:(cut l k).length=(l.reverse.drop k).length:=by
  unfold cut;rw[length_take,length_drop,length_reverse];omega
 cases h1:cut l k<;> cases h2:l.reverse.drop k<;> simp_all
theorem tr_cut{value post:Expr}{kx:Nat}{p p2 p3 pos:Pos}{l:List Nat}{k:Nat}(hv:EvE Z w H0 n sc σ δ value (.d (.str (tx l))))(hpo:EvE Z w H0 n sc σ δ post (.d (.int (-(k:Int)))))(hk:k≤l.length)(hz:l.length≤2)(ht:∀o r,letTemporaryGo value o r=pure ())
  (hp:∀V whole,PySem.isTrue (.Subscript value (.Slice none (some (.BoolOp .Or [post,.Constant .none kx p2] p3)) none p) pos) V whole=(do let v ←whole;standAt (Expr.Subscript value (.Slice none (some (.BoolOp .Or [post,.Constant .none kx p2] p3)) none p) pos).pos;holding [v] (truthy v))):
  TrP Z w H0 n sc σ δ (.Subscript value (.Slice none (some (.BoolOp .Or [post,.Constant .none kx p2] p3)) none p) pos) (!(l.reverse.drop k).isEmpty):=by
 have h1:=ev_cut (Z:=Z) (w:=w) (H0:=H0) (n:=n) (kx:=kx) (p:=p) (p2:=p2) (p3:=p3) (pos:=pos) (c1:=.none) hv hpo hk hz ht;have:=tr_plain h1 (tr_txt (size_le (by rw[len_tx];unfold cut;rw[length_take];omega))) hp;rw[len_tx] at this;have e:((cut l k).length !=0)=!(cut l k).isEmpty:=by cases cut l k<;> rfl
 rw[e,cut_some] at this;exact this
theorem lev_cut{a b:List Nat}(za:a.length≤2)(zb:b.length≤2){test:Expr}{body:List Stmt}{pos:Pos}
  (hst:(bodyOf (stm 19))[6]? =some (.While test body [] pos)):
  GT Z w H0 (n+1) sc19 [(S "post",.d (.int 0)),(S "a",.d (.str (tx a))),(S "b",.d (.str (tx b))),(S "max_cost",.d (.int 9))] [] (.While test body [] pos)
   (fun _ fl σ' δ'=>fl=.next∧δ'=[]∧∀x e,([(S "post",.d (.int (-(cpre a.reverse b.reverse:Int)))),(S "a",.d (.str (tx a))),(S "b",.d (.str (tx b))),(S "max_cost",.d (.int 9))]:Sto).lookup x=some e->σ'.lookup x=some e):=by
 cases hst;refine gt_while (I:=fun i σ' δ'=>δ'=[]∧∃p:Nat,p≤a.length∧p≤b.length∧cpre a.reverse b.reverse=p+cpre (a.reverse.drop p) (b.reverse.drop p)∧i=a.length - p∧
  ∀x e,([(S "post",.d (.int (-(p:Int)))),(S "a",.d (.str (tx a))),(S "b",.d (.str (tx b))),(S "max_cost",.d (.int 9))]:Sto).lookup x=some e->σ'.lookup x=some e) a.length (fun i σ' δ' hI=>?_) ⟨rfl,0,Nat.zero_le _,Nat.zero_le _,by simp,by simp,fun x e h=>h⟩
 obtain⟨rfl,p,pa,pb,hc,hi,hsub⟩:=hI;generalize hσ:([(S "post",.d (.int (-(p:Int)))),(S "a",.d (.str (tx a))),(S "b",.d (.str (tx b))),(S "max_cost",.d (.int 9))]:Sto)=τ at hsub;have vp:∀pos,EvE Z w H0 (n+1) sc19 τ [] (.Name "post" pos) (.d (.int (-(p:Int)))):=fun pos=>by subst hσ;exact ev_var rfl
 have va:∀pos,EvE Z w H0 (n+1) sc19 τ [] (.Name "a" pos) (.d (.str (tx a))):=fun pos=>by subst hσ;exact ev_var rfl
 have vb:∀pos,EvE Z w H0 (n+1) sc19 τ [] (.Name "b" pos) (.d (.str (tx b))):=fun pos=>by subst hσ;exact ev_var rfl
 have f63:∀k:Nat,k≤2->(decide ((-(k:Int) - 1)< -(2 ^ 63:Int)) ||decide ((-(k:Int) - 1) ≥ 2 ^ 63))=false:=fun k hk=>by simp;omega
 refine⟨agree (a.reverse.drop p) (b.reverse.drop p),tr_sub ?_ hsub,fun ht=>gx_sub ?_ hsub,fun hf=>gx_nil fun g=>⟨rfl,rfl,?_⟩⟩
 ·refine tr_boolop (trs_and (tr_cut (va _) (vp _) pa za (fun _ _=>rfl) fun _ _=>rfl) fun h1=>trs_and (tr_cut (vb _) (vp _) pb zb (fun _ _=>rfl) fun _ _=>rfl) fun h2=>trs_and1 ?_)
  have l1:p<a.length:=by
   have:a.reverse.drop p≠[]:=by simpa using h1
   rw[ne_eq,drop_eq_nil_iff,length_reverse] at this;omega
  have l2:p<b.length:=by
   have:b.reverse.drop p≠[]:=by simpa using h2
   rw[ne_eq,drop_eq_nil_iff,length_reverse] at this;omega
  rw[←sg_beq];exact tr_cmp (ev_item_str (va _) (ev_bin (vp _) ev_int op_subI) (f63 p (by omega)) (item_back l1) fun _ _=>rfl) (ev_item_str (vb _) (ev_bin (vp _) ev_int op_subI) (f63 p (by omega)) (item_back l2) fun _ _=>rfl) op_eqS rfl
 ·have ha:=agree_true ht
  rw[length_drop,length_drop,drop_drop,drop_drop,length_reverse,length_reverse] at ha;subst hσ;refine gx_step (gt_st (st_aug (a:=.d (.int (-(p:Int)))) (b:=.d (.int 1)) (c:=.d (.int (-(p:Int) - 1))) rfl (by decide +kernel) (settable_of) ev_int op_isubI)) (gx_nil fun g=>?_);refine⟨a.length - (p+1),by omega,rfl,p+1,by omega,by omega,?_,rfl,?_⟩
  ·rw[hc]
   have e1:=ha.1;omega
  ·have e1:(-((p+1:Nat):Int))= -(p:Int) - 1:=by omega
   rw[e1];exact sub_cons rfl (sub_cons rfl (sub_cons rfl (sub_cons rfl sub_nil)))
 ·have h0:=agree_false hf
  rw[h0] at hc;have e1:cpre a.reverse b.reverse=p:=by omega
  rw[e1];subst hσ;exact hsub
theorem ev_from{value lower:Expr}{p pos:Pos}{l:List Nat}{i:Nat}(hv:EvE Z w H0 n sc σ δ value (.d (.str (tx l))))(hl:EvE Z w H0 n sc σ δ lower (.d (.int (i:Int))))(hi:i≤l.length)(hz:l.length≤2)
  (ht:∀o r,letTemporaryGo value o r=pure ()):EvE Z w H0 n sc σ δ (.Subscript value (.Slice (some lower) none none p) pos) (.d (.str (tx (l.drop i)))):=by
 have h1:=ev_slice_str_from (Z:=Z) (w:=w) (H0:=H0) (n:=n) (p:=p) (pos:=pos) hv hl (size_le (by rw[len_tx];omega)) ht;rwa [slice_drop hi] at h1
theorem lev_body{t2 t3:Tok}(hcost:∀a b,isLetter a->isLetter b->HasD Z w H0 "_substitution_cost" (n+1) [.str (sg a),.str (sg b)] (.int (priceC a b)))(hlen:GIs H0 "len" (.builtin "len"))(hmin:GIs H0 "min" (.builtin "min"))(hrange:GIs H0 "range" (.type "range"))(hlist:GIs H0 "list" (.type "list"))
  (hmove:GIs H0 "_MOVE_COST" (.int 2 t2))(hmax:GIs H0 "_MAX_STRING_SIZE" (.int 40 t3)){a b:List Nat}(ha:∀c∈a,isLetter c)(hb:∀c∈b,isLetter c)(za:a.length≤2)(zb:b.length≤2):
  GX Z w H0 (n+1) sc19 [(S "a",.d (.str (tx a))),(S "b",.d (.str (tx b))),(S "max_cost",.d (.int 9))] [] (bodyOf (stm 19)) (fun g fl _ _=>∃v,fl=.ret v∧Rd (.int (levF a b)) g v):=by
 have hcmp:=op_eqS (Z:=Z) (w:=w) (H0:=H0) (n:=n+1) (a:=tx a) (b:=tx b);rw[tx_beq] at hcmp
 by_cases he:a=b
 ·have e:levF a b=0:=by rw[levF,if_pos he]
  rw[e];rw[show(a==b)=true by simpa using he] at hcmp;refine gx_stop (gt_if (b:=true) (tr_cmp (ev_var rfl) (ev_var rfl) hcmp rfl) (fun _=>?_) fun h=>by cases h);exact gx_ret (P:=Rd (.int 0)) (show EvE _ _ _ _ _ _ _ _ (.d (.int 0)) from ev_int) fun g v σ' p=>⟨(by intro q;cases q),v,rfl,p⟩
 rw[show(a==b)=false by simpa using he] at hcmp;have e:levF a b=levT (cut (a.drop (cpre a b)) (cpre (a.drop (cpre a b)).reverse (b.drop (cpre a b)).reverse)) (cut (b.drop (cpre a b)) (cpre (a.drop (cpre a b)).reverse (b.drop (cpre a b)).reverse)):=by rw[levF,if_neg he]
 rw[e];have pl:=cpre_le a b;generalize hp:cpre a b=p at pl;refine gx_step (gt_if (b:=false) (tr_cmp (ev_var rfl) (ev_var rfl) hcmp rfl) (fun h=>by cases h) fun _=>gx_nil fun g=>⟨rfl,rfl,rfl⟩) ?_;refine gx_step (gt_st (st_assign (bs:=[(S "pre",.d (.int 0))]) ev_int (as_name (settable_of)) (fun _ _=>rfl) (fun _ _=>rfl) fun _=>rfl)) ?_;refine gx_cons (lev_pre za zb rfl) (fun g σ' δ' q=>?_) fun g fl σ' δ' hn q=>absurd q.1 hn;obtain⟨_,rfl,hsub⟩:=q;rw[hp] at hsub;refine gx_sub ?_ hsub;refine gx_step (gt_st (st_assign (bs:=[(S "a",.d (.str (tx (a.drop p))))]) (ev_from (ev_var rfl) (ev_var rfl) pl.1 za fun _ _=>rfl) (as_name (settable_of)) (fun _ _=>rfl) (fun _ _=>rfl) fun _=>rfl)) ?_;refine gx_step (gt_st (st_assign (bs:=[(S "b",.d (.str (tx (b.drop p))))]) (ev_from (ev_var rfl) (ev_var rfl) pl.2 zb fun _ _=>rfl) (as_name (settable_of)) (fun _ _=>rfl) (fun _ _=>rfl) fun _=>rfl)) ?_;have za1:(a.drop p).length≤2:=by rw[length_drop];omega
 have zb1:(b.drop p).length≤2:=by rw[length_drop];omega
 have ha1:∀c∈a.drop p,isLetter c:=fun c hc=>ha c (List.mem_of_mem_drop hc);have hb1:∀c∈b.drop p,isLetter c:=fun c hc=>hb c (List.mem_of_mem_drop hc);generalize a.drop p=a1 at za1 ha1 ⊢;generalize b.drop p=b1 at zb1 hb1 ⊢;refine gx_sub (σ':=[(S "a",.d (.str (tx a1))),(S "b",.d (.str (tx b1))),(S "max_cost",.d (.int 9))]) ?_ (sub_cons rfl (sub_cons rfl (sub_cons rfl sub_nil)));refine gx_step (gt_st (st_assign (bs:=[(S "post",.d (.int 0))]) ev_int (as_name (settable_of)) (fun _ _=>rfl) (fun _ _=>rfl) fun _=>rfl)) ?_;refine gx_cons (lev_cut za1 zb1 rfl) (fun g σ' δ' q=>?_) fun g fl σ' δ' hn q=>absurd q.1 hn;obtain⟨_,rfl,hsub⟩:=q;have ql:=cpre_le a1.reverse b1.reverse;rw[length_reverse,length_reverse] at ql;generalize cpre a1.reverse b1.reverse=k at hsub ql ⊢;refine gx_sub ?_ hsub;refine gx_step (gt_st (st_assign (bs:=[(S "a",.d (.str (tx (cut a1 k))))]) (ev_cut (c1:=.none) (ev_var rfl) (ev_var rfl) ql.1 za1 fun _ _=>rfl) (as_name (settable_of)) (fun _ _=>rfl) (fun _ _=>rfl) fun _=>rfl)) ?_;refine gx_step (gt_st (st_assign (bs:=[(S "b",.d (.str (tx (cut b1 k))))]) (ev_cut (c1:=.none) (ev_var rfl) (ev_var rfl) ql.2 zb1 fun _ _=>rfl) (as_name (settable_of)) (fun _ _=>rfl) (fun _ _=>rfl) fun _=>rfl)) ?_;have cl:∀{l:List Nat},l.length≤2->(cut l k).length≤2:=fun h=>by unfold cut;rw[length_take];omega
 exact gx_sub (lev_post hcost hlen hmin hrange hlist hmove hmax (fun c hc=>ha1 c (List.mem_of_mem_take hc)) (fun c hc=>hb1 c (List.mem_of_mem_take hc)) (cl za1) (cl zb1)) (sub_cons rfl (sub_cons rfl (sub_cons rfl sub_nil)))
def names12:List (List Nat):=[[97],[65],[98],[97,97],[97,65],[97,98],[65,97],[65,65],[65,98],[98,97],[98,65],[98,98]]
theorem name_in{l:List Nat}(h:isName l):l∈names12:=by
 obtain⟨h1,h2,h3⟩:=h
 match l,h1,h2,h3 with
 |[a],_,_,h3=>
  have:=h3 a (by simp);rcases this with rfl|rfl|rfl<;> decide
 |[a,b],_,_,h3=>
  have ha:=h3 a (by simp);have hb:=h3 b (by simp);rcases ha with rfl|rfl|rfl<;> rcases hb with rfl|rfl|rfl<;> decide
theorem lev_price12:(names12.all fun a=>names12.all fun b=>levF a b==priceF a b)=true:=by decide +kernel
theorem lev_price{a b:List Nat}(ha:isName a)(hb:isName b):levF a b=priceF a b:=by
 have:=all_eq_true.mp (all_eq_true.mp lev_price12 a (name_in ha)) b (name_in hb);simpa using this
def letN(i:Int):Nat:=if i=0 then 97 else if i=1 then 65 else 98
def sigN(i:Int):Nat:=if i=0 then 97 else if i=1 then 98 else if i=2 then 63 else 42
def nameN(x:Int):List Nat:=letN (x.fmod 3)::(if(x.fdiv 3).fmod 4<3 then [letN ((x.fdiv 3).fmod 4)] else [])
def patN(x:Int):List Nat:=if 0<(x.fdiv 12).fmod 16 then [sigN ((x.fdiv 12).fmod 4),sigN ((x.fdiv 48).fmod 4)] else []
def stepN(js:NJ)(x:Int):NJ:=js++(if js.length<8∧nameN x∉js.map (·.1) then [(nameN x,patN x)] else [])
def jobsN(xs:List Int):NJ:=xs.foldl stepN []
theorem tx_append(a b:List Nat):tx a++tx b=tx (a++b):=by
 have:(tx a++tx b).cps=(tx (a++b)).cps:=by rw[Str.cps_append];simp[tx]
 exact congrArg Str.mk this
theorem nameF_tx(x:Int):nameF x=tx (nameN x):=by
 have e:∀i,letter i=tx [letN i]:=fun i=>rfl;unfold nameF nameN;rw[e]
 by_cases h:(x.fdiv 3).fmod 4<3
 ·rw[if_pos h,if_pos h,e,tx_append];rfl
 ·rw[if_neg h,if_neg h,tx_empty,tx_append];rfl
theorem patF_tx(x:Int):patF x=tx (patN x):=by
 have e:∀i,sign i=tx [sigN i]:=fun i=>rfl;unfold patF patN
 by_cases h:0<(x.fdiv 12).fmod 16
 ·rw[if_pos h,if_pos h,e,e,tx_append];rfl
 ·rw[if_neg h,if_neg h,tx_empty]
theorem mem_names{js:NJ}{l:List Nat}:tx l∈(js.map toJ).map (·.1)↔l∈js.map (·.1):=by
 constructor
 ·intro h
  obtain⟨p,hp,e⟩:=mem_map.mp h;obtain⟨q,hq,rfl⟩:=mem_map.mp hp;have:q.1=l:=tx_inj e;rw[←this];exact mem_map_of_mem hq
 ·intro h
  obtain⟨q,hq,rfl⟩:=mem_map.mp h;exact mem_map.mpr ⟨toJ q,mem_map_of_mem hq,rfl⟩
theorem step_tx(js:NJ)(x:Int):jobStep (js.map toJ) x=(stepN js x).map toJ:=by
 unfold jobStep stepN;rw[map_append,length_map,nameF_tx,patF_tx]
 by_cases h1:js.length<8<;> by_cases h2:nameN x∈js.map (·.1)
 ·rw[if_neg (fun q=>q.2 (mem_names.mpr h2)),if_neg (fun q=>q.2 h2)];rfl
 ·rw[if_pos ⟨h1,fun q=>h2 (mem_names.mp q)⟩,if_pos ⟨h1,h2⟩];rfl
 ·rw[if_neg (fun q=>h1 q.1),if_neg (fun q=>h1 q.1)];rfl
 ·rw[if_neg (fun q=>h1 q.1),if_neg (fun q=>h1 q.1)];rfl
theorem fold_tx:∀(xs:List Int) (js:NJ),xs.foldl jobStep (js.map toJ)=(xs.foldl stepN js).map toJ
 |[],_=>rfl
 |x::xs,js=>by rw[foldl_cons,foldl_cons,step_tx,fold_tx xs]
theorem jobsF_tx(xs:List Int):jobsF xs=(jobsN xs).map toJ:=fold_tx xs []
theorem letN_letter(i:Int):isLetter (letN i):=by unfold letN isLetter;split<;> (try split)<;> simp
theorem sigN_sign(i:Int):isSign (sigN i):=by unfold sigN isSign;split<;> (try split)<;> (try split)<;> simp
theorem nameN_ok(x:Int):isName (nameN x):=by
 unfold nameN isName
 by_cases h:(x.fdiv 3).fmod 4<3
 ·rw[if_pos h]
  refine⟨by simp,by simp,fun c hc=>?_⟩;rcases mem_cons.mp hc with rfl|hc
  ·exact letN_letter _
  ·rw[mem_singleton.mp hc];exact letN_letter _
 ·rw[if_neg h]
  refine⟨by simp,by simp,fun c hc=>?_⟩;rw[mem_singleton.mp hc];exact letN_letter _
theorem patN_ok(x:Int):isPat (patN x):=by
 unfold patN isPat
 by_cases h:0<(x.fdiv 12).fmod 16
 ·rw[if_pos h];exact .inr ⟨_,_,rfl,sigN_sign _,sigN_sign _⟩
 ·rw[if_neg h];exact .inl rfl
theorem jobsOk_stepN{js:NJ}{x:Int}(h:JobsOk js):JobsOk (stepN js x):=by
 unfold stepN;split
 ·rename_i q
  refine⟨by rw[length_append];simp;omega,fun j hj=>?_,fun j hj=>?_,?_⟩
  ·rcases mem_append.mp hj with hj|hj
   ·exact h.names j hj
   ·rw[mem_singleton.mp hj];exact nameN_ok x
  ·rcases mem_append.mp hj with hj|hj
   ·exact h.pats j hj
   ·rw[mem_singleton.mp hj];exact patN_ok x
  ·rw[map_append]
   refine nodup_append.mpr ⟨h.nodup,by simp,fun a ha b hb e=>?_⟩;simp at hb;subst e hb;exact q.2 ha
 ·rw[append_nil];exact h
theorem jobsOk_foldN:∀{xs:List Int} {js:NJ},JobsOk js->JobsOk (xs.foldl stepN js)
 |[],_,h=>h
 |x::xs,_,h=>jobsOk_foldN (xs:=xs) (jobsOk_stepN h)
theorem jobsOk_N(xs:List Int):JobsOk (jobsN xs):=jobsOk_foldN ⟨by simp,(fun _ h=>by cases h),(fun _ h=>by cases h),by simp⟩
theorem nodup_len:∀{l m:List (List Nat)},l.Nodup->(∀x∈l,x∈m)->l.length≤m.length
 |[],_,_,_=>Nat.zero_le _
 |x::l,m,h,hs=>by
  rw[nodup_cons] at h;have hx:=hs x mem_cons_self;have:=nodup_len (l:=l) (m:=m.erase x) h.2 fun y hy=>by
   have hne:y≠x:=fun e=>h.1 (e▸hy);exact(List.mem_erase_of_ne hne).mpr (hs y (mem_cons_of_mem _ hy))
  rw[List.length_erase_of_mem hx] at this;have hpos:0<m.length:=List.length_pos_of_mem hx;rw[length_cons];omega
theorem stepN_keep{js:NJ}{x:Int}{l:List Nat}(h:l∈js.map (·.1)):l∈(stepN js x).map (·.1):=by
 unfold stepN;rw[map_append];exact mem_append_left _ h
theorem foldN_keep:∀{xs:List Int} {js:NJ} {l:List Nat},l∈js.map (·.1)->l∈(xs.foldl stepN js).map (·.1)
 |[],_,_,h=>h
 |_::xs,_,_,h=>foldN_keep (xs:=xs) (stepN_keep h)
theorem foldN_len:∀{xs:List Int} {js:NJ},js.length≤(xs.foldl stepN js).length
 |[],_=>Nat.le_refl _
 |x::xs,js=>by
  refine Nat.le_trans ?_ (foldN_len (xs:=xs) (js:=stepN js x));unfold stepN;rw[length_append];omega
theorem foldN_all:∀{xs:List Int} {js:NJ},JobsOk js->(xs.foldl stepN js).length=8∨∀x∈xs,nameN x∈(xs.foldl stepN js).map (·.1)
 |[],_,_=>.inr (fun x h=>by cases h)
 |x::xs,js,h=>by
  rcases foldN_all (xs:=xs) (jobsOk_stepN (x:=x) h) with h8|ha
  ·exact .inl h8
  ·by_cases hl:js.length<8
   ·refine .inr fun y hy=>?_
    rcases mem_cons.mp hy with rfl|hy
    ·rw[foldl_cons]
     refine foldN_keep (xs:=xs) (js:=stepN js y) ?_;unfold stepN
     by_cases hm:nameN y∈js.map (·.1)
     ·rw[map_append];exact mem_append_left _ hm
     ·rw[if_pos ⟨hl,hm⟩,map_append];exact mem_append_right _ (by simp)
    ·exact ha y hy
   ·refine .inl ?_
    have h1:=(jobsOk_foldN (xs:=xs) (jobsOk_stepN (x:=x) h)).len;have h2:=foldN_len (xs:=xs) (js:=stepN js x);have h3:js.length≤(stepN js x).length:=by unfold stepN;rw[length_append];omega
    rw[foldl_cons];omega
def tail8:List Int:=[0,1,29,27,116,114,118,117]
theorem jobs_eight(xs:List Int):(jobsN (xs++tail8)).length=8:=by
 unfold jobsN;rw[foldl_append];have ok:=jobsOk_N xs;unfold jobsN at ok;rcases foldN_all (xs:=tail8) ok with h|h
 ·exact h
 ·have h1:=(jobsOk_foldN (xs:=tail8) ok).len
  have h2:(tail8.map nameN).length≤_:=nodup_len (l:=tail8.map nameN) (m:=(tail8.foldl stepN (xs.foldl stepN [])).map (·.1)) (by decide +kernel) fun y hy=>by
   obtain⟨x,hx,rfl⟩:=mem_map.mp hy;exact h x hx
  rw[length_map] at h2;rw[length_map] at h2;have h3:tail8.length=8:=rfl;omega
def takesK:Nat->List (Option Str)->List Nat->Bool
 |_,[],l=>l.isEmpty
 |0,_,_=>false
 |k+1,none::ps,[]=>takesK k ps []
 |k+1,none::ps,c::l=>takesK k ps (c::l) ||takesK k (none::ps) l
 |k+1,some s::ps,[]=>false
 |k+1,some s::ps,c::l=>(s==S "any" ||s==sg c) && takesK k ps l
theorem takesK_eq:∀(k:Nat) (ps:List (Option Str)) (l:List Nat),ps.length+l.length≤k->takesF ps l=takesK k ps l
 |k,[],l,_=>by cases k<;> simp[takesF,takesK]
 |0,p::ps,l,h=>by simp at h
 |k+1,none::ps,[],h=>by
  rw[takesF,takesK];exact takesK_eq k ps [] (by simp at h ⊢;omega)
 |k+1,none::ps,c::l,h=>by
  rw[takesF,takesK,takesK_eq k ps (c::l) (by simp at h ⊢;omega),takesK_eq k (none::ps) l (by simp at h ⊢;omega)]
 |k+1,some s::ps,[],h=>by rw[takesF,takesK]
 |k+1,some s::ps,c::l,h=>by rw[takesF,takesK,takesK_eq k ps l (by simp at h ⊢;omega)]
def partOf(c:Nat):Option Str:=if c=42 then none else if c=63 then some (S "any") else some (sg c)
def partsN(p:List Nat):List (Option Str):=if p=[42,42] then [none] else p.map partOf
def pats16:List (List Nat):=[97,98,63,42].flatMap fun a=>[97,98,63,42].map fun b=>[a,b]
theorem takes16:(pats16.all fun p=>names12.all fun l=>takesK 4 (partsN p) l==fitsN p l)=true:=by decide +kernel
theorem pat_in{a b:Nat}(ha:isSign a)(hb:isSign b):[a,b]∈pats16:=by
 rcases ha with rfl|rfl|rfl|rfl<;> rcases hb with rfl|rfl|rfl|rfl<;> decide
theorem takes_fits{a b:Nat}{l:List Nat}(ha:isSign a)(hb:isSign b)(hl:isName l):takesF (partsN [a,b]) l=fitsN [a,b] l:=by
 have h1:(partsN [a,b]).length≤2:=by unfold partsN;split<;> simp
 rw[takesK_eq 4 _ _ (by have:=hl.2.1;omega)];have:=all_eq_true.mp (all_eq_true.mp takes16 [a,b] (pat_in ha hb)) l (name_in hl);simpa using this
theorem lt_total{a b:List Nat}(h:a≠b):a<b∨b<a:=by
 by_cases h1:a<b
 ·exact .inl h1
 ·by_cases h2:b<a
  ·exact .inr h2
  ·exact absurd (List.le_antisymm (List.not_lt.mp h2) (List.not_lt.mp h1)) h
theorem ltNames_irrefl:∀a:List (List Nat),ltNames a a=false
 |[]=>by simp[ltNames]
 |x::xs=>by rw[ltNames,if_pos rfl];exact ltNames_irrefl xs
theorem ltNames_total:∀a b:List (List Nat),a≠b->ltNames a b=true∨ltNames b a=true
 |[],[],h=>absurd rfl h
 |[],_::_,_=>.inl (by simp[ltNames])
 |_::_,[],_=>.inr (by simp[ltNames])
 |x::xs,y::ys,h=>by
  rw[ltNames,ltNames]
  by_cases e:x=y
  ·rw[if_pos e,if_pos e.symm]
   exact ltNames_total xs ys fun q=>h (by rw[e,q])
  ·rw[if_neg e,if_neg (Ne.symm e)]
   rcases lt_total e with q|q
   ·exact .inl (decide_eq_true q)
   ·exact .inr (decide_eq_true q)
theorem ltNames_trans:∀a b c:List (List Nat),ltNames a b=true->ltNames b c=true->ltNames a c=true
 |[],[],_,h,_=>by simp[ltNames] at h
 |[],_::_,[],_,h=>by simp[ltNames] at h
 |[],_::_,_::_,_,_=>by simp[ltNames]
 |_::_,[],_,h,_=>by simp[ltNames] at h
 |_::_,_::_,[],_,h=>by simp[ltNames] at h
 |x::xs,y::ys,z::zs,h,h'=>by
  rw[ltNames] at h h' ⊢
  by_cases e:x=y
  ·subst e
   rw[if_pos rfl] at h
   by_cases e2:x=z
   ·rw[if_pos e2] at h' ⊢;exact ltNames_trans xs ys zs h h'
   ·rw[if_neg e2] at h' ⊢;exact h'
  ·rw[if_neg e] at h
   have h1:=of_decide_eq_true h
   by_cases e2:y=z
   ·subst e2
    rw[if_neg e];exact h
   ·rw[if_neg e2] at h'
    have h2:=of_decide_eq_true h';have h3:x<z:=List.lt_trans h1 h2;have e3:x≠z:=fun q=>by subst q;exact List.lt_irrefl _ h3
    rw[if_neg e3];exact decide_eq_true h3
theorem ltW_irrefl(a:CW):ltW a a=false:=by rw[ltW,if_pos rfl,if_pos rfl]
theorem ltW_total(a b:CW)(h:a≠b):ltW a b=true∨ltW b a=true:=by
 rw[ltW,ltW]
 by_cases e:a.1=b.1
 ·rw[if_pos e,if_pos e.symm]
  have e2:a.2≠b.2:=fun q=>h (Prod.ext e q);rw[if_neg e2,if_neg (Ne.symm e2)];exact ltNames_total _ _ e2
 ·rw[if_neg e,if_neg (Ne.symm e)]
  rcases Int.lt_or_gt_of_ne e with q|q
  ·exact .inl (decide_eq_true q)
  ·exact .inr (decide_eq_true q)
theorem ltW_trans(a b c:CW)(h:ltW a b=true)(h':ltW b c=true):ltW a c=true:=by
 rw[ltW] at h h' ⊢
 by_cases e:a.1=b.1
 ·rw[if_pos e] at h
  by_cases e2:b.1=c.1
  ·rw[if_pos e2] at h'
   rw[if_pos (e.trans e2)]
   by_cases f:a.2=b.2
   ·rw[if_pos f] at h;cases h
   ·rw[if_neg f] at h
    by_cases f2:b.2=c.2
    ·rw[if_pos f2] at h';cases h'
    ·rw[if_neg f2] at h'
     have h3:=ltNames_trans _ _ _ h h';have f3:a.2≠c.2:=fun q=>by rw[q,ltNames_irrefl] at h3;cases h3
     rw[if_neg f3];exact h3
  ·rw[if_neg e2] at h'
   rw[if_neg (by rw[e];exact e2),e];exact h'
 ·rw[if_neg e] at h
  have h1:=of_decide_eq_true h
  by_cases e2:b.1=c.1
  ·rw[if_neg (by rw[←e2];exact e),←e2];exact h
  ·rw[if_neg e2] at h'
   have h2:=of_decide_eq_true h';rw[if_neg (by omega)];exact decide_eq_true (by omega)
theorem argBest_least{bt:Nat->Nat->Bool}(hi:∀i,bt i i=false)(ht:∀i j k,bt i j=true->bt j k=true->bt i k=true):∀k j,j≤k->bt j (argBest bt k)=false
 |0,j,h=>by
  have:j=0:=by omega
  subst this;exact hi 0
 |k+1,j,h=>by
  rw[argBest];cases hb:bt (k+1) (argBest bt k) with
  |true=>
   simp only[if_true]
   by_cases e:j=k+1
   ·subst e;exact hi _
   ·cases hj:bt j (k+1) with
    |false=>rfl
    |true=>
     have h1:=ht _ _ _ hj hb;rw[argBest_least hi ht k j (by omega)] at h1;cases h1
  |false=>
   simp only[Bool.false_eq_true,if_false]
   by_cases e:j=k+1
   ·subst e;exact hb
   ·exact argBest_least hi ht k j (by omega)
def IsLeast(ps:List CW)(m:CW):Prop:=m∈ps∧∀p∈ps,ltW p m=false
theorem minW_least{ps:List CW}(h:0<ps.length):IsLeast ps (minW ps):=by
 refine⟨minW_mem h,fun p hp=>?_⟩;obtain⟨j,hj,e⟩:=List.mem_iff_getElem.mp hp;have:=argBest_least (bt:=fun i j=>ltW ((ps[i]?).getD (0,[])) ((ps[j]?).getD (0,[]))) (fun i=>ltW_irrefl _) (fun i j k a b=>ltW_trans _ _ _ a b) (ps.length - 1) j (by omega);have e2:(ps[j]?).getD (0,[])=p:=by rw[getElem?_eq_getElem hj,e];rfl
 rw[e2] at this;exact this
theorem least_unique{ps qs:List CW}{m m':CW}(h:IsLeast ps m)(h':IsLeast qs m')(hs:∀p,p∈ps↔p∈qs):m=m':=by
 by_cases e:m=m'
 ·exact e
 ·rcases ltW_total m m' e with q|q
  ·rw[h'.2 m ((hs m).mp h.1)] at q;cases q
  ·rw[h.2 m' ((hs m').mpr h'.1)] at q;cases q
theorem minW_eq{ps:List CW}{m:CW}(h:IsLeast ps m):minW ps=m:=
 least_unique (minW_least (List.length_pos_of_mem h.1)) h fun _=>Iff.rfl
theorem ltNames_snoc(x:List Nat):∀a b:List (List Nat),a.length=b.length->ltNames (a++[x]) (b++[x])=ltNames a b
 |[],[],_=>by simp[ltNames]
 |[],_::_,h=>by simp at h
 |_::_,[],h=>by simp at h
 |y::ys,z::zs,h=>by
  rw[cons_append,cons_append,ltNames,ltNames,ltNames_snoc x ys zs (by simpa using h)]
theorem ltW_snoc(x:List Nat)(p:Int)(a b:CW)(h:a.2.length=b.2.length):ltW (a.1+p,a.2++[x]) (b.1+p,b.2++[x])=ltW a b:=by
 rw[ltW,ltW]
 by_cases e:a.1=b.1
 ·rw[if_pos e,if_pos (by rw[e])]
  by_cases e2:a.2=b.2
  ·rw[if_pos e2,if_pos (by rw[e2])]
  ·rw[if_neg e2,if_neg (fun q=>e2 (List.append_cancel_right q))]
   exact ltNames_snoc x _ _ h
 ·have:a.1+p≠b.1+p:=by omega
  rw[if_neg e,if_neg this];exact decide_eq_decide.mpr (by omega)
theorem ltW_neg_trans{a b c:CW}(h:ltW a b=false)(h':ltW b c=false):ltW a c=false:=by
 cases q:ltW a c with
 |false=>rfl
 |true=>
  by_cases e:b=c
  ·subst e;rw[h] at q;cases q
  ·rcases ltW_total b c e with r|r
   ·rw[h'] at r;cases r
   ·rw[ltW_trans _ _ _ q r] at h;cases h
theorem priceSum_snoc(w:List (List Nat))(x:List Nat):priceSum (w++[x])=priceSum w+(if w=[] then 0 else priceF (w.getLastD []) x):=by
 unfold priceSum;cases h:w.length with
 |zero=>
  have:w=[]:=List.eq_nil_of_length_eq_zero h;subst this;simp
 |succ k=>
  have hne:w≠[]:=fun q=>by rw[q] at h;simp at h
  have e1:(w++[x]).length - 1=k+1:=by rw[length_append,h];rfl
  have e2:k+1 - 1=k:=rfl;rw[e1,e2,if_neg hne,range_succ,map_append,sum_append]
  congr 1
  ·congr 1
   apply map_congr_left;intro i hi;have hi:=mem_range.mp hi;rw[getElem?_append_left (by omega),getElem?_append_left (by omega)]
  ·have a1:(w++[x])[k]? =w[k]?:=getElem?_append_left (by omega)
   have a2:(w++[x])[k+1]? =some x:=by rw[List.getElem?_append_right (by omega),h];simp
   have a3:w.getLastD []=(w[k]?).getD []:=by
    rw[getLastD_eq_getLast?,List.getLast?_eq_getElem?,h];rfl
   rw[a3];simp[a1,a2]
structure Best(i:Nat)(ws:WS)(ts:List CW):Prop where
 len:∀w∈ws,w.length=i
 ok:∀w∈ws,wayOk w
 own:∀t∈ts,t.1=priceSum t.2∧t.2∈ws
 best:∀w∈ws,∃t∈ts,t.2.getLastD []=w.getLastD []∧ltW (priceSum w,w) t=false
theorem best_step{i:Nat}{ws:WS}{ts:List CW}{pat:List Nat}{parts:List (Option Str)}{g:List (List Nat)}(hg:∀x∈g,isName x)(hp:∀x,isName x->takesF parts x=fitsN pat x)(B:Best i ws ts):Best (i+1) (allStep pat ws g) (threadStep levF parts ts g) where
 len:=fun w hw=>by
  obtain⟨v,hv,hw⟩:=mem_flatMap.mp hw;obtain⟨x,hx,rfl⟩:=mem_map.mp hw;rw[length_append,B.len v hv];rfl
 ok:=fun w hw=>by
  obtain⟨v,hv,hw⟩:=mem_flatMap.mp hw;obtain⟨x,hx,rfl⟩:=mem_map.mp hw;intro y hy;rcases mem_append.mp hy with hy|hy
  ·exact B.ok v hv y hy
  ·rw[mem_singleton.mp hy];exact hg x (mem_filter.mp hx).1
 own:=fun t ht=>by
  obtain⟨x,hx,rfl⟩:=mem_map.mp ht;have hxg:=mem_filter.mp hx;have hxn:=hg x hxg.1;have hpos:0<(rowOf levF ts x).length:=by unfold rowOf;rw[length_map];exact names_pos hx
  have hm:=minW_mem hpos;generalize minW (rowOf levF ts x)=m at hm;obtain⟨u,hu,rfl⟩:=mem_map.mp hm;have ou:=B.own u hu;refine⟨?_,?_⟩
  ·show u.1+(if u.2=[] then 0 else levF (u.2.getLastD []) x)=priceSum (u.2++[x])
   rw[priceSum_snoc,ou.1]
   by_cases h:u.2=[]
   ·rw[if_pos h,if_pos h]
   ·rw[if_neg h,if_neg h]
    have hl:isName (u.2.getLastD []):=by
     rw[getLastD_eq_getLast?];cases q:u.2.getLast? with
     |none=>exact absurd (List.getLast?_eq_none_iff.mp q) h
     |some y=>exact B.ok u.2 ou.2 y (mem_of_getLast? q)
    rw[lev_price hl hxn]
  ·refine mem_flatMap.mpr ⟨u.2,ou.2,mem_map.mpr ⟨x,mem_filter.mpr ⟨hxg.1,?_⟩,rfl⟩⟩
   have:=hxg.2;rw[Bool.and_eq_true] at this;rw[←hp x hxn];exact this.2
 best:=fun w hw=>by
  obtain⟨v,hv,hw⟩:=mem_flatMap.mp hw;obtain⟨x,hx,rfl⟩:=mem_map.mp hw;have hxf:=mem_filter.mp hx;have hxn:=hg x hxf.1;obtain⟨t,ht,hl,hb⟩:=B.best v hv;have hne:ts.isEmpty=false:=by cases ts with
   |nil=>cases ht
   |cons _ _=>rfl
  have hxm:x∈namesOf parts ts g:=mem_filter.mpr ⟨hxf.1,by rw[hne,hp x hxn];simpa using hxf.2⟩;have hpos:0<(rowOf levF ts x).length:=by unfold rowOf;rw[length_map];exact names_pos hxm
  have L:=minW_least hpos;have ot:=B.own t ht;have hlen:v.length=t.2.length:=by rw[B.len v hv,B.len _ ot.2]
  have hcand:(t.1+(if t.2=[] then 0 else levF (t.2.getLastD []) x),t.2++[x])∈rowOf levF ts x:=mem_map.mpr ⟨t,ht,rfl⟩;refine⟨minW (rowOf levF ts x),mem_map.mpr ⟨x,hxm,rfl⟩,?_,?_⟩
  ·have hm:=L.1
   generalize minW (rowOf levF ts x)=m at hm;obtain⟨u,hu,rfl⟩:=mem_map.mp hm;simp
  ·refine ltW_neg_trans ?_ (L.2 _ hcand)
   rw[priceSum_snoc];have e1:(if v=[] then (0:Int) else priceF (v.getLastD []) x)=if t.2=[] then 0 else levF (t.2.getLastD []) x:=by
    by_cases h:v=[]
    ·have h2:t.2=[]:=List.eq_nil_of_length_eq_zero (by rw[←hlen,h];rfl)
     rw[if_pos h,if_pos h2]
    ·have h2:t.2≠[]:=fun q=>h (List.eq_nil_of_length_eq_zero (by rw[hlen,q];rfl))
     rw[if_neg h,if_neg h2,hl];have hn:isName (v.getLastD []):=by
      rw[getLastD_eq_getLast?];cases q:v.getLast? with
      |none=>exact absurd (List.getLast?_eq_none_iff.mp q) h
      |some y=>exact B.ok v hv y (mem_of_getLast? q)
     rw[lev_price hn hxn]
   rw[e1];have:=ltW_snoc x (if t.2=[] then 0 else levF (t.2.getLastD []) x) (priceSum v,v) t hlen;rw[this];exact hb
theorem best_fold{pat:List Nat}{parts:List (Option Str)}(hp:∀x,isName x->takesF parts x=fitsN pat x):∀(rs:RR) (i:Nat) (ws:WS) (ts:List CW),(∀g∈rs,∀x∈g,isName x)->Best i ws ts->Best (i+rs.length) (rs.foldl (allStep pat) ws) (rs.foldl (threadStep levF parts) ts)
 |[],i,ws,ts,_,B=>B
 |g::rs,i,ws,ts,hn,B=>by
  have:=best_fold hp rs (i+1) _ _ (fun g' hg=>hn g' (mem_cons_of_mem _ hg)) (best_step (pat:=pat) (parts:=parts) (hn g mem_cons_self) hp B);rw[foldl_cons,foldl_cons,length_cons,show i+(rs.length+1)=i+1+rs.length by omega];exact this
theorem best_zero:Best 0 [[]] [(0,[])] where
 len:=fun w hw=>by rw[mem_singleton.mp hw];rfl
 ok:=fun w hw=>by rw[mem_singleton.mp hw];intro x hx;cases hx
 own:=fun t ht=>by rw[mem_singleton.mp ht];exact⟨by simp[priceSum],by simp⟩
 best:=fun w hw=>⟨(0,[]),by simp,by rw[mem_singleton.mp hw],by rw[mem_singleton.mp hw,show priceSum []=0 by simp[priceSum]];exact ltW_irrefl _⟩
theorem thread_all{rs:RR}{pat:List Nat}{parts:List (Option Str)}(hp:∀x,isName x->takesF parts x=fitsN pat x)(hn:∀g∈rs,∀x∈g,isName x):threadF levF rs parts=allF rs pat:=by
 have B:=best_fold hp rs 0 _ _ hn best_zero;unfold threadF allF;generalize rs.foldl (threadStep levF parts) [(0,[])]=ts at B;generalize rs.foldl (allStep pat) [[]]=ws at B;unfold bestOf;have e1:(ts≠[])↔(costsOf ws≠[]):=by
  constructor
  ·intro h q
   obtain⟨t,ht⟩:=List.exists_mem_of_ne_nil _ h;have hw:=(B.own t ht).2;have:ws=[]:=by simpa [costsOf] using q
   rw[this] at hw;cases hw
  ·intro h q
   have:ws≠[]:=fun z=>h (by rw[z];rfl);obtain⟨w,hw⟩:=List.exists_mem_of_ne_nil _ this;obtain⟨t,ht,_⟩:=B.best w hw;rw[q] at ht;cases ht
 by_cases h:ts≠[]∧rs≠[]
 ·rw[if_pos h,if_pos ⟨e1.mp h.1,h.2⟩]
  have L:=minW_least (length_pos_iff.mpr h.1);have o:=B.own _ L.1;rw[minW_eq (ps:=costsOf ws) (m:=minW ts) ⟨mem_map.mpr ⟨(minW ts).2,o.2,Prod.ext o.1.symm rfl⟩,fun p hp=>?_⟩];obtain⟨w,hw,rfl⟩:=mem_map.mp hp;obtain⟨t,ht,_,hb⟩:=B.best w hw;exact ltW_neg_trans hb (L.2 t ht)
 ·rw[if_neg h,if_neg (fun q=>h ⟨e1.mpr q.1,q.2⟩)]
abbrev boundObj(T:String)(f self:Value):Obj:={cls:=.type T,data:=.fields #[f,self]}
structure Bnd(T:String)(name:Str)(id DT BT gid dget:String):Prop where
 lk:typeLookup (.type T) name=pure (some (.builtin id))
 ty:typeOf (.builtin id)=pure (.type DT)
 get:Slot DT "__get__" dget
 set':typeLookup (.type DT) "__set__"=pure none
 del:typeLookup (.type DT) "__delete__"=pure none
 made:∀{Z:Program} {w:World} {A:Around} {h:Heap} {g:Array GenState} {d:Drawn} {t:Nat} {os:OsState} {a:Addr} {o:Obj} {R:Result->Shared->Prop},h.get? a=some o->o.cls=.type T->
  R (.ok (.ret (.ref h.objs.size))) ⟨h.push (boundObj BT (.builtin id) (.ref a)),g,d,t,os⟩->codeAny (model Z w) A (.call (.builtin dget) ⟨[.builtin id,.ref a,.type T],[]⟩) R ⟨h,g,d,t,os⟩
 ga:Slot T "__getattribute__" gid
 gaE:entryFor table gid=some Builtin.«object.__getattribute__»
 gaA:∀a b,argsOk gid ⟨[a,b],[]⟩
 cop:((["__module__","__name__","__qualname__","__doc__","__annotations__"]:List Str).contains name)=false
section
variable{Z:Program}{w:World}{A:Around}{E:Value->Shared->Prop}{h:Heap}{g:Array GenState}{d:Drawn}{t:Nat}{os:OsState}{a:Addr}{o:Obj}{T id DT BT gid dget:String}{name:Str}
theorem Bnd.run(B:Bnd T name id DT BT gid dget){tk:Tok}{Q:PySem.Fin->Shared->Prop}(hx:h.get? a=some o)(hc:o.cls=.type T)(hd:o.dict=none)(hn:notCls o=true)
  (hq:Q (.done (.ret (.ref h.objs.size))) ⟨h.push (boundObj BT (.builtin id) (.ref a)),g,d,t,os⟩):
  wpAny (model Z w) A (Builtin.«object.__getattribute__» ⟨[.ref a,.str name tk],[]⟩) Q E ⟨h,g,d,t,os⟩:=by
 obtain⟨oc,od,odt,osl⟩:=o;simp only at hc hd hn;subst hc hd;have L0:Looks (model Z w) h (typeOf (.ref a)) (.type T):=(Looks.ld hx).andThen .now;have L1:Looks (model Z w) h (typeLookup (.type T) name) (some (.builtin id)):=Looks.of_pure B.lk;have L2:Looks (model Z w) h (typeOf (.builtin id)) (.type DT):=Looks.of_pure B.ty;have L3:Looks (model Z w) h (typeLookup (.type DT) "__get__") (some (.builtin dget)):=Looks.of_pure B.get.lookup;have L4:Looks (model Z w) h (typeLookup (.type DT) "__set__") none:=Looks.of_pure B.set';have L5:Looks (model Z w) h (typeLookup (.type DT) "__delete__") none:=Looks.of_pure B.del;have L6:Looks (model Z w) h (Builtin.ObjectAttr.inOwnDict name (.ref a)) none:=by
  intro A Q E s k q;refine wpAny_bind (wpAny_bind (wpAny_loadPart (k _ _ hx) ?_));have L6:wpAny (model Z w) A (Builtin.ObjectAttr.inDict name none) Q E s:=wpAny_pure q;cases odt<;> first|(cases hn;done)|exact wpAny_bind (wpAny_loadPart (k _ _ hx) (wpAny_pure L6))
 have L7:Looks (model Z w) h (Builtin.ObjectAttr.copiedAttributeGuard name (.ref a)) ():=by
  intro A Q E s k q;show wpAny _ A (if((["__module__","__name__","__qualname__","__doc__","__annotations__"]:List Str).contains name)=true then _ else pure ()) _ _ s;rw[B.cop,if_neg Bool.false_ne_true];exact wpAny_pure q
 unfold Builtin.«object.__getattribute__»
 repeat (first|with_reducible refine wpAny_call ?_|lk)
 refine B.made hx rfl ?_
 repeat lk
 exact hq
theorem Bnd.attr(B:Bnd T name id DT BT gid dget){s:Shared}{ex:Bool}{Q:Value->Shared->Prop}(hx:s.heap.get? a=some o)(hc:o.cls=.type T)(hd:o.dict=none)(hn:notCls o=true)
  (hq:Q (.ref s.heap.objs.size) {s with heap:=s.heap.push (boundObj BT (.builtin id) (.ref a)),toks:=s.toks+1}):
  wpAny (model Z w) A (getAttr (.ref a) name ex) Q E s:=by
 obtain⟨h,g,d,t,os⟩:=s;have L0:Looks (model Z w) h (typeOf (.ref a)) (.type T):=hc▸(Looks.ld hx).andThen .now;have L1:Looks (model Z w) h (typeLookup (.type T) "__getattribute__") (some (.builtin gid)):=Looks.of_pure B.ga.lookup;have L2:Looks (model Z w) h (bindSpecial (.builtin gid) (.ref a)) (.builtin gid,[.ref a]):=Looks.of_pure (B.ga.bind _);unfold getAttr getAttrBy;refine wpAny_bind (wpAny_mkText ?_)
 repeat (first|with_reducible refine wpAny_attempt ?_|with_reducible refine wpAny_call ?_|lk)
 rw[show(ex && onTheHeap (Value.builtin gid))=false by cases ex<;> rfl]
 simp only[Bool.false_eq_true,if_false];unfold boundAndCalled
 repeat (first|with_reducible refine wpAny_attempt ?_|with_reducible refine wpAny_call ?_|lk)
 refine codeAny_call_builtin B.ga.plain B.gaE (B.ga.check _ _ _ _ _ _ _ _ ⟨_,hx,hc⟩ (B.gaA _ _) ?_);refine B.run hx hc hd hn ?_;exact wpAny_pure hq
theorem bound_call{p:Addr}{self:Value}{pos:List Value}{s:Shared}{Bi:Builtin}{Q:Value->Shared->Prop}(ho:s.heap.get? p=some (boundObj T (.builtin id) self))(hT:T="builtin_function_or_method"∨T="method-wrapper")
  (hck:∀A' (Q:Unit->Shared->Prop) E,Q () s->wpAny (model Z w) A' (checkBoundCall id ⟨self::pos,[]⟩) Q E s)(hp:plainId id=true)(hb:entryFor table id=some Bi)
  (h:wpAny (model Z w) A.in1 (Bi ⟨self::pos,[]⟩) (fun fin s'=>match fin with|.done f=>wants Q E (.ok f) s'|.again c'=>c'.quiet=true∧codeAny (model Z w) A c' (wants Q E) s') (fun e s'=>wants Q E (.error e) s') s):wpAny (model Z w) A (call (.ref p) pos) Q E s:=by
 obtain⟨hh,g,dr,t,os⟩:=s;refine wpAny_call (codeAny_of_tree ?_);show wpAny _ _ (callAny (.ref p) _) _ _ _;dsimp only at ho;refine nd_load ho ?_;have fin:∀A',wpAny (model Z w) A' (checkBoundCall id ⟨self::pos,[]⟩ >>=fun _=>again (.builtin id ⟨self::pos,[]⟩)) (fun fin s'=>match fin with|.done f=>wants Q E (.ok f) s'|.again c'=>c'.quiet=true∧codeAny (model Z w) A c' (wants Q E) s')
   (fun e s'=>E e s') ⟨hh,g,dr,t,os⟩:=fun A'=>wpAny_bind (hck A' _ _ (wpAny_pure ⟨plainId_quiet hp _,codeAny_builtin hb (by
  rw[Around.under_plainId hp];exact h)⟩))
 rcases hT with rfl|rfl<;> exact fin _
theorem looks_bound{p:Addr}{self:Value}{M:Model}{h:Heap}(ho:h.get? p=some (boundObj T (.builtin id) self))(hT:T="builtin_function_or_method"∨T="method-wrapper"):Looks M h (keeperOf (.ref p)) .machine:=by
 rcases hT with rfl|rfl<;> exact(Looks.ld (part:=none) ho).andThen .now
end
namespace NF
theorem ty_append:typeOf (.builtin "list.append")=pure (.type "method_descriptor"):=by show builtinType _=_;rw[builtinType_eq_fast];kernel_rfl
theorem slot_md:Slot "method_descriptor" "__get__" "method_descriptor.__get__":=
 .of (owner:="method_descriptor") (n:="__get__") (by rw[typeLookup_type,builtinLookup_eq_fast];kernel_rfl) (by decide +kernel) (by decide +kernel) (by decide +kernel)
  (by first|exact .inl (by decide +kernel)|exact .inr (by decide +kernel)) (by rw[isSubtype_type];kernel_rfl)
theorem entry_md:entryFor table "method_descriptor.__get__"=some Builtin.«method_descriptor.__get__»:=entryFor_of_tree (by kernel_rfl)
theorem args_md(a b c:Value):argsOk "method_descriptor.__get__" ⟨[a,b,c],[]⟩:=by unfold argsOk;kernel_rfl
theorem slot_wd:Slot "wrapper_descriptor" "__get__" "wrapper_descriptor.__get__":=
 .of (owner:="wrapper_descriptor") (n:="__get__") (by rw[typeLookup_type,builtinLookup_eq_fast];kernel_rfl) (by decide +kernel) (by decide +kernel) (by decide +kernel)
  (by first|exact .inl (by decide +kernel)|exact .inr (by decide +kernel)) (by rw[isSubtype_type];kernel_rfl)
theorem entry_wd:entryFor table "wrapper_descriptor.__get__"=some Builtin.«wrapper_descriptor.__get__»:=entryFor_of_tree (by kernel_rfl)
theorem args_wd(a b c:Value):argsOk "wrapper_descriptor.__get__" ⟨[a,b,c],[]⟩:=by unfold argsOk;kernel_rfl
theorem ty_next:typeOf (.builtin "list_iterator.__next__")=pure (.type "wrapper_descriptor"):=by show builtinType _=_;rw[builtinType_eq_fast];kernel_rfl
theorem slot_li_ga:Slot "list_iterator" "__getattribute__" "object.__getattribute__":=
 .of (owner:="object") (n:="__getattribute__") (by rw[typeLookup_type,builtinLookup_eq_fast];kernel_rfl) (by decide +kernel) (by decide +kernel) (by decide +kernel)
  (by first|exact .inl (by decide +kernel)|exact .inr (by decide +kernel)) (by rw[isSubtype_type];kernel_rfl)
theorem entry_li_ga:entryFor table "object.__getattribute__"=some Builtin.«object.__getattribute__»:=entryFor_of_tree (by kernel_rfl)
theorem args_li_ga(a b:Value):argsOk "object.__getattribute__" ⟨[a,b],[]⟩:=by unfold argsOk;kernel_rfl
theorem entry_list_ga:entryFor table "list.__getattribute__"=some Builtin.«object.__getattribute__»:=
 entryFor_alias (id':="object.__getattribute__") (by kernel_rfl) (by first|rfl|decide +kernel) (by decide +kernel) (by kernel_rfl)
end NF
theorem bnd_append:Bnd "list" "append" "list.append" "method_descriptor" "builtin_function_or_method" "list.__getattribute__" "method_descriptor.__get__" where
 lk:=by rw[typeLookup_type,builtinLookup_eq_fast];kernel_rfl
 ty:=NF.ty_append
 get:=NF.slot_md
 set':=by rw[typeLookup_type,builtinLookup_eq_fast];kernel_rfl
 del:=by rw[typeLookup_type,builtinLookup_eq_fast];kernel_rfl
 made:=fun{Z w A h g d t os a o R} hx hc hq=>by
  have hT5:(⟨h,g,d,t,os⟩:Shared).TypeIs (.builtin "list.append") "method_descriptor":=NF.ty_append;have L0:Looks (model Z w) h (typeOf (.ref a)) (.type "list"):=hc▸(Looks.ld hx).andThen .now;have L1:Looks (model Z w) h (isSubtype (.type "list") (.type "list")) true:=Looks.of_pure (by rw[isSubtype_type];kernel_rfl);have e1:Manifest.toldItsClass.contains "list.append"=false:=by decide +kernel
  refine codeAny_call_builtin NF.slot_md.plain NF.entry_md (NF.slot_md.check _ _ _ _ _ _ _ _ hT5 (NF.args_md _ _ _) ?_);unfold Builtin.«method_descriptor.__get__»;refine wpAny_bind (wpAny_of_eq (a:=(.builtin "list.append",some (.ref a),some (.type "list"))) (by kernel_rfl) ?_);dsimp only;rw[e1];simp only[Bool.false_eq_true,if_false]
  repeat lk
  exact hq
 ga:=PySem.F.slot_list_getattribute
 gaE:=NF.entry_list_ga
 gaA:=PySem.F.args_list_getattribute_2
 cop:=by decide +kernel
theorem bnd_next:Bnd "list_iterator" "__next__" "list_iterator.__next__" "wrapper_descriptor" "method-wrapper" "object.__getattribute__" "wrapper_descriptor.__get__" where
 lk:=slot_listiter_next.lookup
 ty:=NF.ty_next
 get:=NF.slot_wd
 set':=by rw[typeLookup_type,builtinLookup_eq_fast];kernel_rfl
 del:=by rw[typeLookup_type,builtinLookup_eq_fast];kernel_rfl
 made:=fun{Z w A h g d t os a o R} hx hc hq=>by
  have hT5:(⟨h,g,d,t,os⟩:Shared).TypeIs (.builtin "list_iterator.__next__") "wrapper_descriptor":=NF.ty_next;have L0:Looks (model Z w) h (typeOf (.ref a)) (.type "list_iterator"):=hc▸(Looks.ld hx).andThen .now;have L1:Looks (model Z w) h (isSubtype (.type "list_iterator") (.type "list_iterator")) true:=Looks.of_pure (by rw[isSubtype_type];kernel_rfl);refine codeAny_call_builtin NF.slot_wd.plain NF.entry_wd (NF.slot_wd.check _ _ _ _ _ _ _ _ hT5 (NF.args_wd _ _ _) ?_);unfold Builtin.«wrapper_descriptor.__get__»;refine wpAny_bind (wpAny_of_eq (a:=(.builtin "list_iterator.__next__",some (.ref a),some (.type "list_iterator"))) (by kernel_rfl) ?_);dsimp only
  repeat lk
  exact hq
 ga:=NF.slot_li_ga
 gaE:=NF.entry_li_ga
 gaA:=NF.args_li_ga
 cop:=by decide +kernel
theorem sig_append(a v:Value):(match Manifest.signature? "list.append" with|some sig=>Bind.checkArgs "list.append" {sig with full:=s!"{Bind.lastOf "list"}.{Bind.lastOf "list.append"}"} ⟨[a,v],[]⟩|none=>unsupported "")=pure ():=by kernel_rfl
theorem check_append{Z:Program}{w:World}{A:Around}{E:Value->Shared->Prop}{s:Shared}{a:Addr}{o:Obj}{v:Value}{Q:Unit->Shared->Prop}(hx:s.heap.get? a=some o)(hc:o.cls=.type "list")(hn:notCls o=true)(q:Q () s):
  wpAny (model Z w) A (checkBoundCall "list.append" ⟨[.ref a,v],[]⟩) Q E s:=by
 obtain⟨hh,g,d,t,os⟩:=s;obtain⟨oc,od,odt,osl⟩:=o;simp only at hc hn;subst hc;have L0:Looks (model Z w) hh (typeOf (.ref a)) (.type "list"):=(Looks.ld hx).andThen .now;have L1:Looks (model Z w) hh (isSubtype (.type "list") (.type "module")) false:=Looks.of_pure (by rw[isSubtype_type];kernel_rfl);have L2:Looks (model Z w) hh (isInstance (.ref a) (.type "module")) false:=L0.andThen L1;have L3:Looks (model Z w) hh (isType (.ref a)) false:=by
  intro A Q E s k q;refine wpAny_bind (wpAny_loadPart (k _ _ hx) ?_);cases odt<;> first|(cases hn;done)|exact wpAny_pure q
 have hs:=sig_append (.ref a) v;cases hsig:Manifest.signature? "list.append" with
 |none=>rw[hsig] at hs;cases hs
 |some sig=>
  rw[hsig] at hs;have hk:builtinKind "list.append"=some .method:=by decide +kernel
  have hv:Manifest.varargsMethods.contains "list.append"=false:=by decide +kernel
  unfold checkBoundCall;simp only[hsig,hk];refine wpAny_ite ?_;rw[if_neg (by decide)];refine wpAny_bind (L2.at ?_);rw[hv];simp only[Bool.or_self,Bool.false_eq_true,if_false]
  with_reducible refine wpAny_bind ?_
  refine L3.at ?_;simp only[Bool.false_eq_true,if_false]
  with_reducible refine wpAny_bind ?_
  refine L0.at ?_;dsimp only at hs;exact wpAny_of_eq (a:=()) hs q
theorem check_next{Z:Program}{w:World}{A:Around}{E:Value->Shared->Prop}{s:Shared}{a:Addr}{Q:Unit->Shared->Prop}(q:Q () s):
  wpAny (model Z w) A (checkBoundCall "list_iterator.__next__" ⟨[.ref a],[]⟩) Q E s:=by
 have e:checkBoundCall "list_iterator.__next__" ⟨[.ref a],[]⟩=pure ():=by kernel_rfl
 rw[e];exact wpAny_pure q
def Flt(d:PyData)(v:Value):Prop:=∀g,Rd d g v
def OwnL(ds:List PyData)(o:Obj):Prop:=∃vs k,o=W.listOf (toArray vs) k∧F2 (fun v d=>Flt d v) vs ds
theorem flt_int(i:Int)(t:Tok):Flt (.int i) (.int i t):=fun g=>int_rd g i t
theorem flt_str(x:Str)(t:Tok):Flt (.str x) (.str x t):=fun g=>str_rd g x t
theorem flt_none:Flt .none .none:=fun g=>⟨[],.none⟩
def flatD:PyData->Bool
 |.none|.int _|.str _|.bool _=>true
 |_=>false
theorem flt_of{d:PyData}{g:Heap}{v:Value}(h:flatD d=true)(r:Rd d g v):Flt d v:=by
 cases d with
 |none=>cases rd_none r;exact flt_none
 |int i=>obtain⟨t,rfl⟩:=rd_int r;exact flt_int i t
 |str i=>obtain⟨t,rfl⟩:=rd_str r;exact flt_str i t
 |bool b=>cases rd_bool r;exact fun g=>bool_rd g b
 |_=>cases h
theorem new_nil{pos:Pos}:NewP Z w H0 n sc σ δ (.List [] pos) (OwnL []):=by
 intro A V s η g o F;refine List_ (spliced_nil ?_);refine wpAny_newObj_type ⟨_,_,_,_,rfl,ext_push _ _,rfl,Heap.get?_push_size _ rfl,?_,[],0,rfl,.nil⟩ (by show 0≤sizeLine;exact Nat.zero_le _);cases z:s.heap.get? s.heap.objs.size with
 |none=>rfl
 |some ob=>exact absurd (Heap.lt_size z) (Nat.lt_irrefl _)
def AppOf(a:Addr):Ent:=.p (fun g v=>∃b,v=.ref b∧g.get? b=some (boundObj "builtin_function_or_method" (.builtin "list.append") (.ref a))) fun g g' v x ⟨b,e,q⟩=>⟨b,e,x _ _ q⟩
theorem ev_append{x:Str}{p pos:Pos}{a:Addr}{o:Obj}{ds:List PyData}(hx:EvE Z w H0 n sc σ δ (.Name x p) (.v (.ref a)))(ho:(a,o)∈δ)(hl:OwnL ds o):EvE Z w H0 n sc σ δ (.Attribute (.Name x p) "append" pos) (AppOf a):=by
 intro A V s η g oo F;obtain⟨vs,k,rfl,f⟩:=hl;refine Attribute_name (seqP (hx A V s η g oo F) fun v s₁ q1=>?_);have e:=q1.val;subst e;have F1:=F.ext q1.ext;refine bnd_append.attr (F1.ledg _ ho) rfl rfl rfl ?_;exact q1.trans ⟨_,_,rfl,ext_push _ _,_,rfl,vis_push F1.toBase _⟩
theorem envOk_inter{V:Env}(o:EnvOk sc V):interactive V=false:=by
 unfold interactive;rw[o.kf];rfl
theorem ownL_isL{ds:List PyData}{ob:Obj}{h:Heap}{a:Addr}(hl:OwnL ds ob)(ha:h.get? a=some ob):∃vs k,IsL h a (toArray vs) k∧F2 (fun v d=>Flt d v) vs ds:=by
 obtain⟨vs,k,rfl,f⟩:=hl;exact⟨vs,k,ha,f⟩
theorem GP.upd{α:Type}{s:Shared}{η:List Addr}{V:Env}{tk:Nat}{a:Addr}{ob:Obj}{f:Obj->Obj}{Ψ:Heap->α->Sto->Led->Prop}{r:α}(F:Fm H0 η δ V σ s.heap)(ha:(a,ob)∈δ)(hf:(f ob).isFreed=false)
  (h:Ψ (Mine.vis (s.heap.update a f) η) r σ (setLed a (f ob) δ)):GP H0 s η V δ Ψ r {s with heap:=s.heap.update a f,toks:=tk}:=
 GP.mut F ha (sameBut_keep (Heap.SameBut.update ..)) (Heap.get?_update_self _ (F.ledg _ ha) hf) h
theorem gt_app{x:Str}{p pos pos':Pos}{e:Expr}{a:Addr}{ob:Obj}{ds:List PyData}{d:PyData}(hx:EvE Z w H0 n sc σ δ (.Name x p) (AppOf a))(he:EvE Z w H0 n sc σ δ e (.d d))(hd:flatD d=true)(ho:(a,ob)∈δ)(hl:OwnL ds ob)(hz:ds.length≤sizeLine)
  (hb:∀V,backTo pos (starEach [e] V)=(false,eval e V)::backTo pos (starEach [] V))(hsw:∀V,swapsWith (.Call (.Name x p) [e] [] pos) none pos'.line V=pure false):
  GT Z w H0 n sc σ δ (.Expr (.Call (.Name x p) [e] [] pos) pos') (fun _ fl σ' δ'=>fl=.next∧σ'=σ∧∃o',OwnL (ds++[d]) o'∧δ'=setLed a o' δ):=by
 intro A V s η g oo F;refine wpAny_Expr_any ?_ (envOk_inter oo) (hsw V);refine Call_Name rfl (seqP (hx A V s η g oo F) fun v s₁ q=>?_);obtain⟨b,rfl,hbo⟩:=q.val;have F1:=F.ext q.ext;refine callWith_of (P:=fun h=>h.get? b=some (boundObj "builtin_function_or_method" (.builtin "list.append") (.ref a))) (by rw[hb];rfl) (fun h e=>⟨.machine,.inr (.inl rfl),looks_bound e (.inl rfl)⟩) (evalArgs_any (by rw[hb];rfl) ?_);rw[hb];refine spliced_cons (seqP (he A V s₁ η g oo F1) fun u s2 q2=>spliced_nil ?_);have hbo2:s2.heap.get? b=some (boundObj "builtin_function_or_method" (.builtin "list.append") (.ref a)):=q2.ext _ _ (vis_to _ _ _ _ hbo);refine⟨hbo2,?_⟩;have F2:=F1.ext q2.ext;have fu:=flt_of hd q2.val;obtain⟨vs,k,rfl,f⟩:=hl;have hL:IsL s2.heap a (toArray vs) k:=F2.ledg _ ho;refine bound_call (Bi:=Builtin.«list.append») hbo2 (.inl rfl) (fun A' Q E q=>check_append (F2.ledg _ ho) rfl rfl q) (by decide +kernel) PySem.F.entry_list_append ?_;refine list_append a (toArray vs) k u (by rw[size_toArray,f.length];exact hz) Z w A _ s2 ⟨hL,?_⟩;obtain⟨h2,t2,e2,ex,_⟩:=q.trans q2;subst e2;have gp:GP H0 {s with heap:=h2,toks:=t2} η V δ (fun _ fl σ' δ'=>fl=.next∧σ'=σ∧∃o',OwnL (ds++[d]) o'∧δ'=setLed a o' δ) Flow.next {s with heap:=h2.update a (Obj.mapSeq fun x=>x.push u),toks:=t2}:=
  GP.upd (s:={s with heap:=h2,toks:=t2}) F2 ho (by simp[Obj.mapSeq,Obj.isFreed]) ⟨rfl,rfl,_,⟨vs++[u],k+1,by simp[Obj.mapSeq],f.append (.cons fu .nil)⟩,rfl⟩
 exact GP.glue F (ex.keep _) F2 (fun _ m=>m) (fun _ m=>.inl m) (fun p m=>.inl (mem_map_of_mem m)) gp
theorem tr_own{x:Str}{p:Pos}{a:Addr}{ob:Obj}{ds:List PyData}(hx:EvE Z w H0 n sc σ δ (.Name x p) (.v (.ref a)))(ho:(a,ob)∈δ)(hl:OwnL ds ob)(hz:ds.length≤sizeLine):TrP Z w H0 n sc σ δ (.Name x p) (!ds.isEmpty):=by
 intro A V s η g oo F;refine isTrue_plain (seqP (hx A V s η g oo F) fun v s₁ q1=>?_) rfl;have e:=q1.val;subst e;obtain⟨vs,k,hL,f⟩:=ownL_isL hl ((F.ext q1.ext).ledg _ ho);have e:(!(toArray vs).isEmpty)=!ds.isEmpty:=by
  have:=f.length;cases vs<;> cases ds<;> simp_all
 refine wpAny_truthy_list hL.isList (by rw[size_toArray,f.length];have:sizeLine=2 ^ 24:=rfl;omega) ?_;rw[e];exact q1.trans (Pu.tok rfl)
theorem ev_item_own_neg{x:Str}{p:Pos}{slice:Expr}{pos:Pos}{a:Addr}{ob:Obj}{ds:List PyData}{i:Int}{d:PyData}(hx:EvE Z w H0 n sc σ δ (.Name x p) (.v (.ref a)))(ho:(a,ob)∈δ)(hl:OwnL ds ob)(hi:EvE Z w H0 n sc σ δ slice (.d (.int i)))
  (h0:i<0)(hk: -(2 ^ 63)≤i)(hlo: -(ds.length:Int)≤i)(hd:ds[(i+ds.length).toNat]? =some d)(hs:plainSlice slice):EvE Z w H0 n sc σ δ (.Subscript (.Name x p) slice pos) (.d d):=by
 intro A V s η g oo F;refine PyProof.Rows.Subscript_ (seqP (hx A V s η g oo F) fun v s₁ q1=>seqP (hi A V s₁ η g oo (F.ext q1.ext)) fun u s2 q2=>?_);obtain⟨t,rfl⟩:=rd_int q2.val;have e:=q1.val;subst e;obtain⟨vs,k,hL,f⟩:=ownL_isL hl (((F.ext q1.ext).ext q2.ext).ledg _ ho);obtain⟨u,hu,hf⟩:=f.get hd;have el:=f.length;exact tail_any hL.isList.typeIs slot_list_getitem.lookup (wpAny_getItem_list_neg hL.isList h0 (by rw[size_toArray,el];exact hlo) hk (by rw[size_toArray,el];simpa using hu) ((q1.trans q2).trans (Pu.here (hf _)))) (hs _ _)
theorem fn_of_own{f:Value}{xs:List Ent}{ds:List PyData}(h:FnG Z w H0 n f xs [] (fun _ v δ'=>∃a ob,v=.ref a∧(a,ob)∈δ'∧OwnL ds ob)):FnP Z w H0 n f xs (Rd (.list ds)):=by
 intro A s η vs g B hm;refine wpAny_mono (h A s η vs g B ⟨(fun p hp=>nomatch hp),(fun p hp=>nomatch hp)⟩ hm) (fun v s' q=>?_) fun _ _ f=>f;obtain⟨h',tk,η',L',rfl,k,B',LO',m1,m2,m3,a,ob,rfl,ha,hl⟩:=q;have hn:a∉η:=fun m=>by
  obtain⟨oo,e⟩:=B.alive a m;rcases m3 _ ha with q|q
  ·cases q
  ·rw[e] at q;cases q
 obtain⟨ws,k',hL,f⟩:=ownL_isL hl (LO'.2 _ ha);refine⟨h',tk,rfl,fun b o e=>k b o (fun m=>by cases m) e,list_rd ⟨_,vis_get hL hn,rfl,k',rfl⟩ (f.imp fun _ _ r=>r _)⟩
theorem sub_KeyLookup:isSubtype (.type "KeyError") (.type "LookupError")=pure true:=by rw[isSubtype_type];kernel_rfl
theorem lookup_keep{A:Around}{E:Value->Shared->Prop}{s:Shared}{d:Addr}{c:Nat}{f:Int->Option Value}{Q:Builtin.Str.Mapped->Shared->Prop}(hd:(d==sysModules)=false)(hh:A.handled=none)(hm:s.heap.MapOf (intKind Z w) d f)(hv:f c=none)
  (h:∀h' tk,Ext s.heap h'->Q .keep {s with heap:=h',toks:=tk}):wpAny (model Z w) A (Builtin.Str.tableLookup (.ref d) c) Q E s:=by
 unfold Builtin.Str.tableLookup;refine wpAny_bind (wpAny_attempt (wpAny_bind (wpAny_mkInt ?_)));refine wpAny_getItem_missing_of (knd:=intKind Z w) (k:=(c:Int)) (by simp[intKind,Value.isInt]) hd hh hm hv fun h' e N=>?_;obtain⟨ob,t,ho,hc,hdt⟩:=N.there;refine wpAny_bind (wpAny_isInstance (T:="KeyError") (b:=true) ⟨ob,ho,hc⟩ sub_KeyLookup ?_);exact wpAny_bind (wpAny_rule (wpAny_pure (h _ _ N.keeps)))
theorem translate_keep{A:Around}{E:Value->Shared->Prop}{s:Shared}{d:Addr}{c:Nat}{t:Tok}{f:Int->Option Value}{Q:Value->Shared->Prop}(h1:(d==sysModules)=false)(hh:A.handled=none)(hm:s.heap.MapOf (intKind Z w) d f)(hv:f c=none)(hc:c=97∨c=98)
  (h:∀h' tk,Ext s.heap h'->Q (.str (sg c) tk) {s with heap:=h',toks:=tk+1}):wpAny (model Z w) A (call (.builtin "str.translate") [.str (sg c) t,.ref d]) Q E s:=by
 refine wpAny_call (codeAny_call_builtin PySem.F.slot_str_translate.plain PySem.F.entry_str_translate (PySem.F.slot_str_translate.check _ _ _ _ _ _ _ _ (typeIs_str _ _ _) (PySem.F.args_str_translate_2 _ _) ?_));unfold Builtin.«str.translate»;refine wpAny_bind (wpAny_of_eq (a:=(.str (sg c) t,sg c,.ref d)) (by kernel_rfl) ?_);dsimp only;have e0:(sg c).cps.toList=[c]:=rfl;have e1:((sg c).cps.all fun x=>decide (x<128))=true:=by rcases hc with rfl|rfl<;> decide +kernel
 rw[e1,←Array.forIn_toList,e0,forIn_cons,if_neg (by simp[sg,Str.length])];refine wpAny_bind (wpAny_bind ?_);rw[if_neg (by simp[Builtin.Str.tooLong])];simp only[List.lookup_nil,if_true];refine wpAny_bind (lookup_keep h1 hh hm hv fun h' tk ex=>?_);simp only;refine wpAny_bind (wpAny_pure ?_);simp only;refine wpAny_pure ?_;simp only[forIn_nil];refine wpAny_pure ?_;rw[if_neg (show¬Builtin.Str.tooLong 1=true by decide +kernel)];have e2:(⟨([({cps:=#[c]}:Str)].reverse.foldl (fun acc p=>acc++p.cps) #[])⟩:Str)=sg c:=by simp[sg]
 rw[e2];exact wpAny_bind (wpAny_mkStr (hx:=by rw[len_sg];decide) (wpAny_pure (h _ _ ex)))
def TabOf(w:World)(Z:Program)(d:Addr)(f:Int->Option Value)(h:Heap):Prop:=(d==sysModules)=false∧h.MapOf (intKind Z w) d f
theorem ev_translate{value arg:Expr}{pa pos:Pos}{c:Nat}{d:Addr}{f:Int->Option Value}(hv:EvE Z w H0 n sc σ δ value (.d (.str (sg c))))(ha:EvE Z w H0 n sc σ δ arg (.v (.ref d)))(hm:TabOf w Z d f H0)(hf:f c=none)(hc:c=97∨c=98)
  (hbase:∀V,attributeBase value "translate" V (eval value V)=eval value V)(hline:(pa.endLine==pos.line)=true)(hs:∀V,starEach [arg] V=[(false,eval arg V)]):
  EvE Z w H0 n sc σ δ (.Call (.Attribute value "translate" pa) [arg] [] pos) (.d (.str (sg c))):=by
 intro A V s η g o F;refine Call_method1 (hbase _) (hs V) hline (seqP (hv A V s η g o F) fun v s₁ q=>?_);obtain⟨t,rfl⟩:=rd_str q.val;have F1:=F.ext q.ext;refine⟨"str","str.translate",PySem.F.plainAttrs_str,PySem.F.slot_str_translate,PySem.F.type_str_translate,typeIs_str _ _ _,(fun a e=>by cases e),?_⟩;refine callWith_builtin rfl (evalArgs_plain (spliced_cons (seqP (ha A V s₁ η g o F1) fun u s2 q2=>spliced_nil ?_)));have e:=q2.val;subst e;have F2:=F1.ext q2.ext;refine translate_keep hm.1 g.hh (let⟨o,es,ep,ho,r⟩:=hm.2;⟨o,es,ep,F2.toBase.h0 _ _ ho,r⟩) hf hc fun h' tk ex=>?_;exact(q.trans q2).trans ⟨h',_,rfl,ex,str_rd _ _ _⟩
theorem fn_isstr{x:Str}:FnP Z w H0 n (.builtin "isinstance") [.d (.str x),.v (.type "str")] (Rd (.bool true)):=by
 intro A s η vs g B hm
 match vs,hm with
 |[u,v],⟨m1,m2,_⟩=>
 obtain⟨t,rfl⟩:=rd_str m1;have e:v=_:=m2;subst e;exact PySem.IsiPair.str_str (Pu.here (bool_rd _ _))
def trStep(acc:List (Option Str))(c:Nat):List (Option Str):=if c=42 then (if acc=[]∨acc.getLast?≠some none then acc++[none] else acc) else acc++[partOf c]
def trN(p:List Nat):List (Option Str):=p.foldl trStep []
theorem trN_parts{p:List Nat}(h:isPat p):trN p=partsN p:=by
 rcases h with rfl|⟨a,b,rfl,ha,hb⟩
 ·rfl
 ·rcases ha with rfl|rfl|rfl|rfl<;> rcases hb with rfl|rfl|rfl|rfl<;> decide +kernel
theorem trN_len(p:List Nat):(trN p).length≤p.length:=by
 have:∀(l:List Nat) acc,(l.foldl trStep acc).length≤acc.length+l.length:=fun l=>by
  induction l with
  |nil=>intro acc;simp
  |cons c l ih=>
   intro acc;rw[foldl_cons,length_cons];have h1:=ih (trStep acc c);have h2:(trStep acc c).length≤acc.length+1:=by
    unfold trStep;split
    ·split<;> simp
    ·simp
   omega
 have:=this p [];simpa [trN] using this
theorem trN_succ{p:List Nat}{k:Nat}{c:Nat}(h:p[k]? =some c):trN (p.take (k+1))=trStep (trN (p.take k)) c:=by
 unfold trN;rw[take_add_one,h,foldl_append];rfl
theorem gt_assert{test:Expr}{msg:Option Expr}{pos:Pos}(h:TrP Z w H0 n sc σ δ test true):GT Z w H0 n sc σ δ (.Assert test msg pos) (nextIs σ δ):=by
 intro A V s η g o F;refine wpAny_Assert_holds (seqP (h A V s η g o F) fun b s₁ q=>?_);have e:=q.val;subst e;obtain⟨h',tk,η',σ',δ',e,k,F',m1,m2,m3,p⟩:=GP.of_pu F q;exact⟨rfl,h',tk,η',σ',δ',e,k,F',m1,m2,m3,rfl,p.2.1,p.2.2⟩
theorem op_isNotNone{d:PyData}(hd:d≠ .none):OpBin Z w H0 n (compareOp .IsNot) (.d d) (.d .none) (Rd (.bool true)):=by
 intro A s η u v g B ra rb;cases rd_none rb;refine isnot_none_ne (fun e=>?_) (Pu.here (bool_rd _ _));subst e;obtain⟨as,r⟩:=ra;cases r;exact hd rfl
theorem op_isNotNone1:OpBin Z w H0 n (compareOp .IsNot) (.d .none) (.d .none) (Rd (.bool false)):=by
 intro A s η u v g B ra rb;cases rd_none rb;cases rd_none ra;exact wpAny_isNot_self rfl (Pu.here (bool_rd _ _))
theorem esc_body{c:Nat}(hc:c=97∨c=98){d:Addr}{f:Int->Option Value}(hf:f c=none)(hm:TabOf w Z d f H0)(htab:GIs H0 "_special_chars_map" (.ref d))(hisi:GIs H0 "isinstance" (.builtin "isinstance"))(hstr:GIs H0 "str" (.type "str")):
  ExP Z w H0 n (scopeOf (stm 5)) [(S "pattern",.d (.str (sg c)))] [] (bodyOf (stm 5)) (.ret (.d (.str (sg c)))):=by
 refine ex_ret (st_if (b:=true) ?_ (fun _=>?_) fun h=>by cases h)
 ·refine tr_plain (x:=.d (.bool true)) ?_ tr_bool fun _ _=>rfl
  exact ev_has ⟨_,hisi,callee_builtin,fn_isstr⟩ (Nat.le_refl _) (by decide +kernel) (evs_2 (ev_var rfl) (ev_gl hstr) (fun _=>rfl) fun _=>rfl) fun _=>rfl
 ·exact ex_ret (st_return (ev_translate (ev_var rfl) (ev_gl htab) hm hf hc (fun _=>rfl) (by decide) fun _=>rfl))
theorem tr_eqS{l r:Expr}{pos:Pos}{a b:Str}{t:Bool}(hl:EvE Z w H0 n sc σ δ l (.d (.str a)))(hr:EvE Z w H0 n sc σ δ r (.d (.str b)))(e:(a==b)=t)(hm:behindInMarks .Eq r=false):TrP Z w H0 n sc σ δ (.Compare l [.Eq] [r] pos) t:=by
 refine tr_cmp hl hr ?_ hm;rw[←e];exact op_eqS
theorem gx_app{x:Str}{p pos pos':Pos}{e:Expr}{a:Addr}{ob:Obj}{ds ds':List PyData}{d:PyData}{σ0:Sto}(hx:EvE Z w H0 n sc σ [(a,ob)] (.Name x p) (AppOf a))(he:EvE Z w H0 n sc σ [(a,ob)] e (.d d))(hd:flatD d=true)(hl:OwnL ds ob)(hz:ds.length≤sizeLine)(e':ds'=ds++[d])
  (hs:∀x e,σ0.lookup x=some e->σ.lookup x=some e)
  (hb:∀V,backTo pos (starEach [e] V)=(false,eval e V)::backTo pos (starEach [] V))(hsw:∀V,swapsWith (.Call (.Name x p) [e] [] pos) none pos'.line V=pure false):
  GX Z w H0 n sc σ [(a,ob)] [.Expr (.Call (.Name x p) [e] [] pos) pos'] (fun _ fl σ' δ'=>fl=.next∧(∃o',OwnL ds' o'∧δ'=[(a,o')])∧∀x e,σ0.lookup x=some e->σ'.lookup x=some e):=
 gx_cons (gt_app hx he hd (mem_singleton.mpr rfl) hl hz hb hsw) (fun g σ' δ' q=>gx_nil fun g=>by
  obtain⟨_,rfl,o',ho',rfl⟩:=q;exact⟨rfl,⟨o',by rw[e'];exact ho',by simp[setLed]⟩,hs⟩) fun g fl σ' δ' hn q=>absurd q.1 hn
theorem gs_sub_tr{σ':Sto}{e:Expr}{b:Bool}(hs:∀x e,σ'.lookup x=some e->σ.lookup x=some e)(h:TrP Z w H0 n sc σ' δ e b):TrP Z w H0 n sc σ δ e b:=
 fun A V s η g o F=>h A V s η g o (F.sub hs)
abbrev sc7:Scope:=scopeOf (stm 7)
theorem trans_body(hesc:∀c,c=97∨c=98->HasD Z w H0 "escape" n [.str (sg c)] (.str (sg c)))(hlen:GIs H0 "len" (.builtin "len")){p:List Nat}(hp:∀c∈p,isSign c)(hz:p.length≤8):
  GX Z w H0 n sc7 [(S "pat",.d (.str (tx p))),(S "STAR",.d .none),(S "QUESTION_MARK",.d (.str (S "any")))] [] (bodyOf (stm 7)) (fun _ fl _ δ'=>∃v,fl=.ret v∧∃a ob,v=.ref a∧(a,ob)∈δ'∧OwnL ((trN p).map dPart) ob):=by
 refine gx_cons (gt_assign_new (Q:=OwnL []) (y:=S "res") new_nil (settable_of) (fun _ _=>rfl) (fun _ _=>rfl)) (fun g σ' δ' q=>?_) fun g fl σ' δ' hn p=>absurd p.1 hn;obtain⟨_,a,o,ho,rfl,rfl⟩:=q;refine gx_step (gt_st (st_assign (x:=AppOf a) (bs:=[(S "add",AppOf a)]) (ev_append (ev_var rfl) (mem_singleton.mpr rfl) ho) (as_name (settable_of)) (fun _ _=>rfl) (fun _ _=>rfl) fun _=>rfl)) ?_;refine gx_step (gt_st (st_assign_sw (x:=.d (.tuple [.int 0,.int p.length])) (e1:=.d (.int 0)) (e2:=.d (.int p.length)) (ev_tuple (ds:=[.int 0,.int _]) (evs_2 ev_int (ev_len_tx hlen (by omega) (ev_var rfl) (by decide +kernel) fun _=>rfl) (fun _=>rfl) fun _=>rfl) (size_le (by simp)))
  unp_tuple (settable_of) (settable_of) (fun V o=>by have q:=o.scope;cases V;simp only at q;subst q;rfl) (fun V o=>by have q:=o.scope;cases V;simp only at q;subst q;rfl))) ?_
 refine gx_cons (Ψ:=fun _ fl σ' δ'=>fl=.next∧∃o',OwnL ((trN p).map dPart) o'∧δ'=[(a,o')]∧∀x e,([(S "i",.d (.int p.length)),(S "n",.d (.int p.length)),(S "res",.v (.ref a))]:Sto).lookup x=some e->σ'.lookup x=some e)
  (gt_while (I:=fun j σ' δ'=>∃k o',k≤p.length∧j=p.length - k∧OwnL ((trN (p.take k)).map dPart) o'∧δ'=[(a,o')]∧
   ∀x e,([(S "i",.d (.int k)),(S "n",.d (.int p.length)),(S "add",AppOf a),(S "res",.v (.ref a)),(S "pat",.d (.str (tx p))),(S "STAR",.d .none),(S "QUESTION_MARK",.d (.str (S "any")))]:Sto).lookup x=some e->σ'.lookup x=some e) p.length (fun j σ' δ' hI=>?_) ?_) (fun g σ' δ' q=>?_) fun g fl σ' δ' hn q=>absurd q.1 hn
 ·obtain⟨k,o',hk,rfl,ho',rfl,hs⟩:=hI
  have hlt:=op_ltI (Z:=Z) (w:=w) (H0:=H0) (n:=n) (a:=k) (b:=p.length);refine⟨decide (k<p.length),gs_sub_tr hs (tr_cmp (ev_var rfl) (ev_var rfl) (by rw[show decide (k<p.length)=decide ((k:Int)<p.length) by simp];exact hlt) rfl),fun hb=>?_,fun hb=>?_⟩
  ·have hk':k<p.length:=of_decide_eq_true hb
   have hc:p[k]? =some p[k]:=getElem?_eq_getElem hk';have hsg:=hp _ (getElem_mem hk');have hsucc:=trN_succ hc;generalize p[k]=c at hc hsg hsucc;have hzz:(trN (p.take k)).length≤8:=by have:=trN_len (p.take k);rw[length_take] at this;omega
   generalize trN (p.take k)=acc at ho' hsucc hzz;refine gx_sub ?_ hs;refine gx_step (gt_st (st_assign (bs:=[(S "c",.d (.str (sg c)))]) (ev_item_str (k:=(k:Int)) (x:=tx p) (c:=c) (ev_var rfl) (ev_var rfl) (fits63 (by omega) (by omega)) (by have:=item_tx hk';simpa [hc] using this) fun _ _=>rfl) (as_name (settable_of)) (fun _ _=>rfl) (fun _ _=>rfl) fun _=>rfl)) ?_;refine gx_step (gt_st (st_assign (x:=.d (.int ((k:Int)+1))) (bs:=[(S "i",.d (.int ((k:Int)+1)))]) (ev_bin (ev_var rfl) ev_int op_addI) (as_name (settable_of)) (fun _ _=>rfl) (fun _ _=>rfl) fun _=>rfl)) ?_;refine gx_cons (Ψ:=fun _ fl σ' δ'=>fl=.next∧(∃o',OwnL ((trStep acc c).map dPart) o'∧δ'=[(a,o')])∧∀x e,([(S "i",.d (.int ((k:Int)+1))),(S "n",.d (.int p.length)),(S "add",AppOf a),(S "res",.v (.ref a)),(S "pat",.d (.str (tx p))),(S "STAR",.d .none),(S "QUESTION_MARK",.d (.str (S "any")))]:Sto).lookup x=some e->σ'.lookup x=some e)
    ?_ (fun g σ' δ' q=>gx_nil fun g=>?_) fun g fl σ' δ' hn q=>absurd q.1 hn
   ·have hzl:(acc.map dPart).length≤sizeLine:=size_le (by rw[length_map];omega)
    by_cases h42:c=42
    ·subst h42
     refine gt_if (b:=true) (tr_eqS (ev_var rfl) ev_str (by decide +kernel) rfl) (fun _=>?_) fun h=>by cases h
     by_cases hnil:acc=[]
     ·refine gx_cons (Ψ:=_) (gt_if (b:=true) (tr_boolop (trs_or (a:=true) (b:=true) ?_ fun h=>by cases h)) (fun _=>gx_app (ev_var rfl) (ev_var rfl) rfl ho' hzl ?_ ?_ (fun _=>rfl) fun _=>rfl) fun h=>by cases h) (fun g σ' δ' q=>gx_nil fun g=>q) fun g fl σ' δ' hn q=>q
      ·subst hnil
       exact tr_not (tr_own (ev_var rfl) (mem_singleton.mpr rfl) ho' hzl)
      ·subst hnil;rfl
      ·exact sub_cons rfl (sub_cons rfl (sub_cons rfl (sub_cons rfl (sub_cons rfl (sub_cons rfl (sub_cons rfl sub_nil))))))
     ·obtain⟨x,hx⟩:∃x,acc.getLast? =some x:=by
       cases e:acc.getLast? with
       |none=>exact absurd (List.getLast?_eq_none_iff.mp e) hnil
       |some x=>exact⟨x,rfl⟩
      have hpos:0<acc.length:=length_pos_iff.mpr hnil;have hget:(acc.map dPart)[((-1:Int)+(acc.map dPart).length).toNat]? =some (dPart x):=by
       rw[List.getLast?_eq_getElem?] at hx;rw[length_map,getElem?_map,show((-1:Int)+acc.length).toNat=acc.length - 1 by omega,hx];rfl
      have hne:(!(!(acc.map dPart).isEmpty))=false:=by cases acc with|nil=>exact absurd rfl hnil|cons _ _=>rfl
      cases x with
      |none=>
       have e4:trStep acc 42=acc:=by simp[trStep,hnil,hx]
       rw[e4];refine gx_cons (Ψ:=_) (gt_if (b:=false) (tr_boolop (trs_or (a:=false) (b:=false) ?_ fun _=>trs_or1 ?_)) (fun h=>by cases h) (fun _=>gx_nil fun g=>⟨rfl,⟨o',ho',rfl⟩,?_⟩)) (fun g σ' δ' q=>gx_nil fun g=>q) fun g fl σ' δ' hn q=>q
       ·rw[←hne]
        exact tr_not (tr_own (ev_var rfl) (mem_singleton.mpr rfl) ho' hzl)
       ·exact tr_cmp (ev_item_own_neg (a:=a) (ob:=o') (i:= -1) (ev_var rfl) (mem_singleton.mpr rfl) ho' (ev_neg ev_int) (by decide) (by decide) (by rw[length_map];omega) hget fun _ _=>rfl) (ev_var rfl) op_isNotNone1 rfl
       ·exact sub_cons rfl (sub_cons rfl (sub_cons rfl (sub_cons rfl (sub_cons rfl (sub_cons rfl (sub_cons rfl sub_nil))))))
      |some y=>
       have e4:(trStep acc 42).map dPart=acc.map dPart++[.none]:=by simp[trStep,hnil,hx,dPart]
       refine gx_cons (Ψ:=_) (gt_if (b:=true) (tr_boolop (trs_or (a:=false) (b:=true) ?_ fun _=>trs_or1 ?_)) (fun _=>gx_app (ev_var rfl) (ev_var rfl) rfl ho' hzl e4 ?_ (fun _=>rfl) fun _=>rfl) fun h=>by cases h) (fun g σ' δ' q=>gx_nil fun g=>q) fun g fl σ' δ' hn q=>q
       ·rw[←hne]
        exact tr_not (tr_own (ev_var rfl) (mem_singleton.mpr rfl) ho' hzl)
       ·exact tr_cmp (ev_item_own_neg (a:=a) (ob:=o') (i:= -1) (ev_var rfl) (mem_singleton.mpr rfl) ho' (ev_neg ev_int) (by decide) (by decide) (by rw[length_map];omega) hget fun _ _=>rfl) (ev_var rfl) (op_isNotNone (by intro q;cases q)) rfl
       ·exact sub_cons rfl (sub_cons rfl (sub_cons rfl (sub_cons rfl (sub_cons rfl (sub_cons rfl (sub_cons rfl sub_nil))))))
    ·have e4:(trStep acc c).map dPart=acc.map dPart++[dPart (partOf c)]:=by simp[trStep,h42]
     have e5:(sg c==S "*")=false:=by
      rcases hsg with rfl|rfl|rfl|rfl
      ·decide +kernel
      ·decide +kernel
      ·decide +kernel
      ·exact absurd rfl h42
     refine gt_if (b:=false) (tr_eqS (ev_var rfl) ev_str e5 rfl) (fun h=>by cases h) fun _=>?_
     by_cases h63:c=63
     ·subst h63
      refine gx_cons (Ψ:=_) (gt_if (b:=true) (tr_eqS (ev_var rfl) ev_str (by decide +kernel) rfl) (fun _=>gx_app (d:=.str (S "any")) (ev_var rfl) (ev_var rfl) rfl ho' hzl e4 ?_ (fun _=>rfl) fun _=>rfl) fun h=>by cases h) (fun g σ' δ' q=>gx_nil fun g=>q) fun g fl σ' δ' hn q=>q;exact sub_cons rfl (sub_cons rfl (sub_cons rfl (sub_cons rfl (sub_cons rfl (sub_cons rfl (sub_cons rfl sub_nil))))))
     ·have hc2:c=97∨c=98:=by
       rcases hsg with h|h|h|h
       ·exact .inl h
       ·exact .inr h
       ·exact absurd h h63
       ·exact absurd h h42
      have e6:(sg c==S "?")=false:=by rcases hc2 with rfl|rfl<;> decide +kernel
      have e7:(sg c==S "[")=false:=by rcases hc2 with rfl|rfl<;> decide +kernel
      have e8:dPart (partOf c)=.str (sg c):=by simp[partOf,h42,h63,dPart]
      rw[e8] at e4;refine gx_cons (Ψ:=_) (gt_if (b:=false) (tr_eqS (ev_var rfl) ev_str e6 rfl) (fun h=>by cases h) fun _=>?_) (fun g σ' δ' q=>gx_nil fun g=>q) fun g fl σ' δ' hn q=>q;refine gx_cons (Ψ:=_) (gt_if (b:=false) (tr_eqS (ev_var rfl) ev_str e7 rfl) (fun h=>by cases h) fun _=>?_) (fun g σ' δ' q=>gx_nil fun g=>q) fun g fl σ' δ' hn q=>q;refine gx_app (ev_var rfl) (ev_has (hesc c hc2) (Nat.le_refl _) (by decide +kernel) (evs_1 (ev_var rfl) fun _=>rfl) fun _=>rfl) rfl ho' hzl e4 ?_ (fun _=>rfl) fun _=>rfl;exact sub_cons rfl (sub_cons rfl (sub_cons rfl (sub_cons rfl (sub_cons rfl (sub_cons rfl (sub_cons rfl sub_nil))))))
   ·obtain⟨_,⟨o'',ho'',rfl⟩,hs'⟩:=q
    exact⟨p.length - (k+1),by omega,k+1,o'',by omega,rfl,by rw[hsucc];exact ho'',rfl,hs'⟩
  ·have hk':k=p.length:=by have:=of_decide_eq_false hb;omega
   subst hk';exact gx_nil fun g=>⟨rfl,o',by simpa using ho',rfl,sub_cons (hs (S "i") _ rfl) (sub_cons (hs (S "n") _ rfl) (sub_cons (hs (S "res") _ rfl) sub_nil))⟩
 ·exact⟨0,o,Nat.zero_le _,by simp,by simpa [trN] using ho,rfl,sub_cons rfl (sub_cons rfl (sub_cons rfl (sub_cons rfl (sub_cons rfl (sub_cons rfl (sub_cons rfl sub_nil))))))⟩
 ·obtain⟨_,o',ho',rfl,hs⟩:=q
  refine gx_sub ?_ hs;refine gx_step (gt_assert (tr_cmp (ev_var rfl) (ev_var rfl) (by simpa using op_eqI (Z:=Z) (w:=w) (H0:=H0) (n:=n) (a:=p.length) (b:=p.length)) rfl)) ?_;exact gx_ret (P:=fun _ v=>v=.ref a) (show EvE _ _ _ _ _ _ _ _ (.v (.ref a)) from ev_var rfl) fun g v σ' q=>⟨v,rfl,a,o',q,mem_singleton.mpr rfl,ho'⟩
section
open Builtin Builtin.ObjectAttr
structure DCls(K:Frag)(C:Addr):Prop where
 ga:findIn K (.ref C) "__getattribute__"=some (some (.builtin "object.__getattribute__"))
 gn:findIn K (.ref C) "__getattr__"=some none
 sa:findIn K (.ref C) "__setattr__"=some (some (.builtin "object.__setattr__"))
 hasD:hasDictIn K C=true
 over:plainOver K C=true
def freeName(K:Frag)(C:Addr)(name:Str):Prop:=findIn K (.ref C) name=some none
structure SCls(K:Frag)(C:Addr):Prop where
 ga:findIn K (.ref C) "__getattribute__"=some (some (.builtin "object.__getattribute__"))
 gn:findIn K (.ref C) "__getattr__"=some none
 sa:findIn K (.ref C) "__setattr__"=some (some (.builtin "object.__setattr__"))
 is:(clsIn K C).isSome=true
 over:plainOver K C=true
structure SlotAt(K:Frag)(C:Addr)(name:Str)(i:Nat)(p:Addr):Prop where
 find:findIn K (.ref C) name=some (some (.ref p))
 get:specialIn K (.ref p) "__get__"=some (some (.builtin "member_descriptor.__get__"))
 takes:takesIn K (.ref p)=some true
 ty:typeIn K (.ref p)=some (.type "member_descriptor")
 slot:slotIn K p C=some i
 small:i<1000
section
variable{Z:Program}{w:World}{A:Around}{E:Value->Shared->Prop}{s:Shared}{K:Frag}{C x dx:Addr}{es:List DictEntry}{m:Nat}{name:Str}{v:Value}{sl:Array (Option Value)}
abbrev instD(C dx:Addr)(sl:Array (Option Value)):Obj:=⟨.ref C,some dx,.plain,sl⟩
theorem inst_at{h:Heap}{od:Obj}(hx:h.get? x=some (instD C dx sl))(hd:h.get? dx=some od):InstAt h x (instD C dx sl) C (some od):=⟨hx,rfl,rfl,hd⟩
theorem getD{ex:Bool}{Q:Value->Shared->Prop}(X:K.In s.heap)(c:DCls K C)(hx:s.heap.get? x=some (instD C dx sl))(hd:s.heap.get? dx=some (dictOf es m))(hf:freeName K C name)(hl:getL name es=some (some v))(hv:handedIn v=true)
  (h:Q v {s with toks:=s.toks+1}):wpAny (model Z w) A (getAttr (.ref x) name ex) Q E s:=
 get_value X (inst_at hx hd) c.ga (findObj_own c.hasD hf rfl hl) hv h
theorem putL_len(name:Str)(hs:Int)(k v:Value):∀l:List DictEntry,(putL name hs k v l).length≤l.length+1
 |[]=>by simp[putL]
 |e::r=>by
  have:=putL_len name hs k v r;unfold putL;split<;> simp<;> omega
theorem noRef_of{name:Str}:∀{l:List DictEntry},(getL name l).isSome=true->aRefKeyMayBeTheName name l.toArray=false:=fun{l} h=>by
 rw[aRefKeyMayBeTheName_at,List.any_toArray,List.any_toArray];cases hf:l.find? (·.key.isStr name) with
 |some e=>rw[any_eq_true.mpr ⟨e,List.mem_of_find?_eq_some hf,List.find?_some hf⟩];rfl
 |none=>
  cases hr:l.any (·.refKey) with
  |false=>simp
  |true=>rw[getL,hf,hr] at h;cases h
theorem put_here{Q:Unit->Shared->Prop}(hd:s.heap.get? dx=some (dictOf es m))(hl:(getL name es).isSome=true)(h:Q () {s with heap:=s.heap.update dx (Obj.putName name (PyData.keyHash w.params name) (.str name s.toks) v),toks:=s.toks+1}):
  wpAny (model Z w) A (nsSet dx name v) Q E s:=by
 unfold nsSet;refine wpAny_bind (wpAny_bind (wpAny_askSetting (wpAny_pure (wpAny_bind (wpAny_mkText (wpAny_bind (wpAny_loadPart hd ?_)))))));dsimp only;rw[noRef_of hl];exact wpAny_updatePart hd h
theorem put_at{h:Heap}{t:Tok}(hd:h.get? dx=some (dictOf es m)):(h.update dx (Obj.putName name (PyData.keyHash w.params name) (.str name t) v)).get? dx=some (dictOf (putL name (PyData.keyHash w.params name) (.str name t) v es) (putN name es m)):=by
 have e:=putName_dict name (PyData.keyHash w.params name) (.str name t) v es m;rw[Heap.get?_update_self _ hd (by rw[e];rfl),e]
theorem setD{Q:Unit->Shared->Prop}(X:K.In s.heap)(c:DCls K C)(hx:s.heap.get? x=some (instD C dx sl))(hd:s.heap.get? dx=some (dictOf es m))(hf:freeName K C name)(hl:(getL name es).isSome=true)(hz:es.length≤100)
  (h:Q () {s with heap:=s.heap.update dx (Obj.putName name (PyData.keyHash w.params name) (.str name (s.toks+1)) v),toks:=s.toks+2}):wpAny (model Z w) A (setAttr (.ref x) name v) Q E s:=by
 obtain⟨hh,g,d,t,os⟩:=s;have I:=inst_at hx hd;refine set_plain X I c.sa (osa_open (s:=⟨hh,g,d,t+1,os⟩) (r:=none) X I c.over (by unfold takerIn;rw[show findIn K (.ref C) name=some none from hf];rfl) fun b=>?_);obtain⟨cd,hc,hd'⟩:=any_some c.hasD;have T:Looks (model Z w) hh (ownDictForStores (.ref x)) (some dx):=(Looks.ld hx).andThen ((looks_clsIn X hc).andThen (by rw[hd'];exact .now));have S0:Looks (model Z w) hh (ownStreamTells (.ref x) (.ref C)) ():=.now;unfold storeInOwnDict
 repeat (first|with_reducible refine put_here hd hl ?_|lk)
 have hlen:=putL_len name (PyData.keyHash w.params name) (.str name (t+1)) v es;refine nd_load (put_at hd) (wpAny_pure ?_);rw[pastItsLine_dict (by rw[size_toArray,sizeLine_eq];dsimp only;omega)];exact wpAny_pure (wpAny_pure h)
theorem getS{ex:Bool}{Q:Value->Shared->Prop}{i:Nat}{p:Addr}{od:Obj}(X:K.In s.heap)(c:SCls K C)(hx:s.heap.get? x=some (instD C dx sl))(hd:s.heap.get? dx=some od)(hp:SlotAt K C name i p)(hl:(sl[i]?).join=some v)(hv:handedIn v=true)
  (h:Q v {s with toks:=s.toks+1}):wpAny (model Z w) A (getAttr (.ref x) name ex) Q E s:=by
 have I:=inst_at hx hd;refine get_bind X I c.ga (findObj_data c.is hp.find hp.get hp.takes) c.gn ?_;refine wpAny_call (slot_get (s:={s with toks:=s.toks+1}) X I hp.slot hl ?_);show wpAny _ _ (handedOut v) _ _ _;rw[handedOut_of hv];exact wpAny_pure h
theorem looks_place{i:Nat}{p:Addr}{h:Heap}{od:Obj}(X:K.In h)(hx:h.get? x=some (instD C dx sl))(hd:h.get? dx=some od)(hp:slotIn K p C=some i):∃nn,Looks (model Z w) h (Slots.target (.ref x) (.ref p)) (x,i,nn):=by
 obtain⟨nn,tn,owner,behind,tb,dd,ssl,cd,ho,hc,hm,hb,rfl⟩:=slot_of X hp;have f0:=looks_field (M:=model Z w) ho 0 (v:=.str nn tn) rfl;have f4:=looks_field (M:=model Z w) ho 4 (v:=.int behind tb) rfl;have L2:Looks (model Z w) h (typeOf (.ref x)) (.ref C):=(Looks.ld hx).andThen .now;have L3:Looks (model Z w) h (Slots.slotNamesOf (.ref C)) cd.slotNames:=(looks_clsIn X hc).andThen .now;refine⟨nn,f4.andThen (f0.andThen (L2.andThen (L3.andThen ?_)))⟩;rw[if_neg hb];exact .now
theorem setS{Q:Unit->Shared->Prop}{i:Nat}{p:Addr}{od:Obj}(X:K.In s.heap)(c:SCls K C)(hx:s.heap.get? x=some (instD C dx sl))(hd:s.heap.get? dx=some od)(hp:SlotAt K C name i p)
  (h:Q () {s with heap:=s.heap.update x (fun o=>{o with slots:=(o.slots++Array.replicate (i+1 - o.slots.size) none).setIfInBounds i (some v)}),toks:=s.toks+1}):wpAny (model Z w) A (setAttr (.ref x) name v) Q E s:=by
 have I:=inst_at hx hd;refine set_plain X I c.sa (osa_descr (s:={s with toks:=s.toks+1}) KF.slot_mset X I c.over (by unfold takerIn;rw[hp.find];simp[hp.takes]) hp.ty ?_);obtain⟨nn,L0⟩:=looks_place (Z:=Z) (w:=w) X hx hd hp.slot;obtain⟨n1,tn,owner,behind,tb,dd,ssl,cd,ho,hc,hm,hb,e⟩:=slot_of X hp.slot;obtain⟨hh,g,dr,t,os⟩:=s;dsimp only at ho hx hd h L0 X;have L1:Looks (model Z w) hh (isInstance (.ref x) owner) true:=((Looks.ld hx).andThen .now).andThen (looks_mroIn X hm);have f0:=looks_field (M:=model Z w) ho 0 (v:=.str n1 tn) rfl;have f1:=looks_field (M:=model Z w) ho 1 (v:=owner) rfl;have f3:=looks_field (M:=model Z w) ho 3 (v:=.builtin "proto.slot#set") rfl;have hld:=Looks.ld (M:=model Z w) (part:=none) ho;refine codeAny_call_builtin KF.slot_mset.plain KF.entry_mset (KF.slot_mset.check _ _ _ _ _ _ _ _ ⟨_,ho,rfl⟩ (KF.args_mset _ _ _) ?_);unfold Builtin.«member_descriptor.__set__» Getset_descriptor.descrSet Getset_descriptor.descrStoreThrough Getset_descriptor.descrCheckInstance Getset_descriptor.descrNameAndClass
 repeat lk
 show(Code.builtin "proto.slot#set" ⟨[.ref x,v,.ref p],[]⟩).quiet=true∧codeAny _ _ (Code.builtin "proto.slot#set" ⟨[.ref x,v,.ref p],[]⟩) _ _;refine⟨Code.quiet_builtin _ (by decide +kernel),codeAny_builtin KF.entry_slotset ?_⟩;unfold Builtin.«proto.slot#set»;have hs:∀{A':Around} {Q:Unit->Shared->Prop} {E},Q () ⟨hh.update x (fun o=>{o with slots:=(o.slots++Array.replicate (i+1 - o.slots.size) none).setIfInBounds i (some v)}),g,dr,t+1,os⟩->wpAny (model Z w) A' (setSlotAt x i (some v)) Q E ⟨hh,g,dr,t+1,os⟩:=fun{A' Q E} q=>by
  have hsm:=hp.small;unfold setSlotAt;rw[if_neg (by rw[sizeLine_eq];omega)];exact wpAny_updatePart hx q
 repeat (first|with_reducible refine hs ?_|lk)
 exact h
end
end
def KeepU(own fr:List Addr)(h h':Heap):Prop:=
 (∀b o,b∉own->b∉fr->h.get? b=some o->h'.get? b=some o)∧∀b∈fr,∀o,h.get? b=some o->(∀vs,o.data≠ .fields vs)->∃sl,h'.get? b=some {o with slots:=sl}
theorem KeepU.refl(own fr:List Addr)(h:Heap):KeepU own fr h h:=⟨fun _ _ _ _ e=>e,fun _ _ o e _=>⟨o.slots,e⟩⟩
theorem KeepU.trans{own fr:List Addr}{h h' h'':Heap}(x:KeepU own fr h h')(y:KeepU own fr h' h''):KeepU own fr h h'':=
 ⟨fun b o n1 n2 e=>y.1 b o n1 n2 (x.1 b o n1 n2 e),fun b m o e d=>by
  obtain⟨sl,e1⟩:=x.2 b m o e d;obtain⟨sl',e2⟩:=y.2 b m _ e1 d;exact⟨sl',e2⟩⟩
theorem KeepU.of_but{own fr:List Addr}{h h':Heap}(k:KeepBut own h h')(hf:∀b∈fr,b∉own):KeepU own fr h h':=⟨fun b o n _ e=>k b o n e,fun b m o e _=>⟨o.slots,k b o (hf b m) e⟩⟩
theorem KeepU.but{own:List Addr}{h h':Heap}(k:KeepU own [] h h'):KeepBut own h h':=fun b o n e=>k.1 b o n (fun m=>nomatch m) e
abbrev frs(ω:List Env):List Addr:=ω.map (·.locals)
structure FrOk(A:Around)(V:Env)(ω:List Env)(η:List Addr)(h:Heap):Prop where
 stack:A.frames=some (V::ω)
 fn:∀e∈V::ω,e.scope.kind≠ .module∧e.frame=some e.locals
 low:∀b∈frs ω,b∈η∧∃o,h.get? b=some o∧∀vs,o.data≠ .fields vs
def Fk(x:Bool)(A:Around)(V:Env)(ω:List Env)(η:List Addr)(h:Heap):Prop:=if x=true then FrOk A V ω η h else ω=[]
def Off2(ω:List Env)(V:Env)(δ:Led):Prop:=∀b∈frs ω,b∉ownOf V δ
theorem Fk.low{x:Bool}{A:Around}{V:Env}{ω:List Env}{η:List Addr}{h:Heap}(k:Fk x A V ω η h):∀b∈frs ω,b∈η∧∃o,h.get? b=some o∧∀vs,o.data≠ .fields vs:=by
 cases x with
 |true=>exact FrOk.low (show FrOk A V ω η h from k)
 |false=>intro b m;rw[show ω=[] from k] at m;cases m
theorem Fk.move{x:Bool}{A:Around}{V:Env}{ω:List Env}{η η' own:List Addr}{h h':Heap}(k:Fk x A V ω η h)(hm:∀b∈η,b∈η')(ku:KeepU own (frs ω) h h'):Fk x A V ω η' h':=by
 cases x with
 |true=>
  have f:FrOk A V ω η h:=k;exact(show FrOk A V ω η' h' from⟨f.stack,f.fn,fun b m=>by
   obtain⟨h1,o,e,d⟩:=f.low b m;obtain⟨sl,e1⟩:=ku.2 b m o e d;exact⟨hm b h1,_,e1,d⟩⟩)
 |false=>exact k
def GPf{α:Type}(H0:Heap)(s:Shared)(η:List Addr)(V:Env)(δ:Led)(fr:List Addr)(Ψ:Heap->α->Sto->Led->Prop)(a:α)(s':Shared):Prop:=
 ∃h' tk η' σ' δ',s'={s with heap:=h',toks:=tk}∧KeepU (ownOf V δ) fr s.heap h'∧Fm H0 η' δ' V σ' h'∧(∀b∈η,b∈η')∧
  (∀b∈η',b∈η∨s.heap.get? b=none)∧(∀p∈δ',p.1∈δ.map (·.1)∨s.heap.get? p.1=none)∧Ψ (vis h' η') a σ' δ'
theorem GPf.vis{H0:Heap}{s:Shared}{η η':List Addr}{V:Env}{δ:Led}{fr:List Addr}{h':Heap}(ho:∀b∈ownOf V δ,b∈η)(hr:∀b∈fr,b∈η)(k:KeepU (ownOf V δ) fr s.heap h')(hf:∀b∈η',b∈η∨s.heap.get? b=none):Ext (vis s.heap η) (vis h' η'):=fun b o e=>
 vis_get (k.1 b o (fun m=>(vis_inv e).2 (ho b m)) (fun m=>(vis_inv e).2 (hr b m)) (vis_inv e).1) fun m=>by
  rcases hf b m with m|m
  ·exact(vis_inv e).2 m
  ·rw[(vis_inv e).1] at m;cases m
theorem off2_move{ω:List Env}{V:Env}{δ δ':Led}{h:Heap}(o:Off2 ω V δ)(hlow:∀b∈frs ω,∃ob,h.get? b=some ob)(m3:∀p∈δ',p.1∈δ.map (·.1)∨h.get? p.1=none):Off2 ω V δ':=fun b m hb=>by
 rcases own_led m3 hb with q|q
 ·exact o b m q
 ·obtain⟨ob,e⟩:=hlow b m
  rw[e] at q;cases q
section
variable{x:Bool}
theorem GPf.glue{β:Type}{s s2:Shared}{η η1:List Addr}{V:Env}{δ₁:Led}{σ₁:Sto}{fr:List Addr}{Φ:Heap->β->Sto->Led->Prop}{b:β}{h₁:Heap}{t₁:Nat}(F:Fm H0 η δ V σ s.heap)(hr:∀b∈fr,b∈η∧∃o,s.heap.get? b=some o)
  (k1:KeepU (ownOf V δ) fr s.heap h₁)(F1:Fm H0 η1 δ₁ V σ₁ h₁)(hm1:∀b∈η,b∈η1)(hf1:∀b∈η1,b∈η∨s.heap.get? b=none)(hl1:∀p∈δ₁,p.1∈δ.map (·.1)∨s.heap.get? p.1=none)
  (q:GPf H0 {s with heap:=h₁,toks:=t₁} η1 V δ₁ fr Φ b s2):GPf H0 s η V δ fr Φ b s2:=by
 obtain⟨h2,t2,η2,σ2,δ2,rfl,k2,F2,hm2,hf2,hl2,p2⟩:=q;have back:∀b,h₁.get? b=none->s.heap.get? b=none:=fun b e=>by
  cases q:s.heap.get? b with
  |none=>rfl
  |some o=>
   exfalso
   by_cases m:b∈η
   ·obtain⟨o',q'⟩:=F1.alive b (hm1 b m)
    rw[q'] at e;cases e
   ·rw[k1.1 b o (fun z=>m (own_hid F b z)) (fun z=>m (hr b z).1) q] at e;cases e
 refine⟨h2,t2,η2,σ2,δ2,rfl,⟨fun b o nb nf e=>?_,fun b m o e d=>?_⟩,F2,fun b m=>hm2 b (hm1 b m),fun b m=>?_,fun p m=>?_,p2⟩
 ·refine k2.1 b o (fun m=>?_) nf (k1.1 b o nb nf e)
  rcases own_led hl1 m with q|q
  ·exact nb q
  ·rw[e] at q;cases q
 ·obtain⟨sl,e1⟩:=k1.2 b m o e d
  obtain⟨sl2,e2⟩:=k2.2 b m _ e1 d;exact⟨sl2,e2⟩
 ·rcases hf2 b m with q|q
  ·exact hf1 b q
  ·exact .inr (back b q)
 ·rcases hl2 p m with q|q
  ·obtain⟨p',hp',e⟩:=mem_map.mp q
   rw[←e];exact hl1 p' hp'
  ·exact .inr (back _ q)
def GSf{α:Type}(x:Bool)(Z:Program)(w:World)(H0:Heap)(n:Nat)(sc:Scope)(σ:Sto)(δ:Led)(m:Env->Sem α)(Ψ:Heap->α->Sto->Led->Prop):Prop:=
 ∀A V ω s η,Good n A->EnvOk sc V->Fm H0 η δ V σ s.heap->Fk x A V ω η s.heap->Off2 ω V δ->wpAny (model Z w) A (m V) (GPf H0 s η V δ (frs ω) Ψ) NoE s
theorem gsf_of{α:Type}{m:Env->Sem α}{Ψ:Heap->α->Sto->Led->Prop}(h:GS Z w H0 n sc σ δ m Ψ):GSf x Z w H0 n sc σ δ m Ψ:=fun A V ω s η g o F K O=>
 wpAny_mono (h A V s η g o F) (fun a s' q=>by
  obtain⟨h',tk,η',σ',δ',e,k,F',m1,m2,m3,p⟩:=q;exact⟨h',tk,η',σ',δ',e,.of_but k O,F',m1,m2,m3,p⟩) fun _ _ f=>f
theorem gs_of_f{α:Type}{m:Env->Sem α}{Ψ:Heap->α->Sto->Led->Prop}(h:GSf false Z w H0 n sc σ δ m Ψ):GS Z w H0 n sc σ δ m Ψ:=fun A V s η g o F=>
 wpAny_mono (h A V [] s η g o F rfl (fun b m=>nomatch m)) (fun a s' q=>by
  obtain⟨h',tk,η',σ',δ',e,k,F',m1,m2,m3,p⟩:=q;exact⟨h',tk,η',σ',δ',e,k.but,F',m1,m2,m3,p⟩) fun _ _ f=>f
theorem GPf.mono{α:Type}{s s':Shared}{η:List Addr}{V:Env}{fr:List Addr}{Ψ Φ:Heap->α->Sto->Led->Prop}{a:α}(y:GPf H0 s η V δ fr Ψ a s')(h:∀g σ' δ',Ψ g a σ' δ'->Φ g a σ' δ'):GPf H0 s η V δ fr Φ a s':=by
 obtain⟨h',tk,η',σ',δ',e,k,F,m1,m2,m3,p⟩:=y;exact⟨h',tk,η',σ',δ',e,k,F,m1,m2,m3,h _ _ _ p⟩
theorem GPf.here{α:Type}{s:Shared}{η:List Addr}{V:Env}{fr:List Addr}{Ψ:Heap->α->Sto->Led->Prop}{a:α}(F:Fm H0 η δ V σ s.heap)(h:Ψ (Mine.vis s.heap η) a σ δ):GPf H0 s η V δ fr Ψ a s:=
 ⟨s.heap,s.toks,η,σ,δ,rfl,KeepU.refl _ _ _,F,fun _ m=>m,fun _ m=>.inl m,fun p m=>.inl (mem_map_of_mem m),h⟩
theorem GPf.then{α β:Type}{s s₁:Shared}{η:List Addr}{V:Env}{ω:List Env}{Ψ:Heap->α->Sto->Led->Prop}{Φ:Heap->β->Sto->Led->Prop}{a:α}{A:Around}{m:Sem β}
  (F:Fm H0 η δ V σ s.heap)(K:Fk x A V ω η s.heap)(O:Off2 ω V δ)(y:GPf H0 s η V δ (frs ω) Ψ a s₁)
  (hk:∀η1 σ₁ δ₁,Fm H0 η1 δ₁ V σ₁ s₁.heap->Fk x A V ω η1 s₁.heap->Off2 ω V δ₁->Ψ (Mine.vis s₁.heap η1) a σ₁ δ₁->Ext (Mine.vis s.heap η) (Mine.vis s₁.heap η1)->wpAny (model Z w) A m (GPf H0 s₁ η1 V δ₁ (frs ω) Φ) NoE s₁):
  wpAny (model Z w) A m (GPf H0 s η V δ (frs ω) Φ) NoE s₁:=by
 obtain⟨h₁,t₁,η1,σ₁,δ₁,rfl,k1,F1,hm1,hf1,hl1,p1⟩:=y;have lo:=K.low;have al:∀b∈frs ω,∃ob,s.heap.get? b=some ob:=fun b m=>let⟨_,o,e,_⟩:=lo b m;⟨o,e⟩;exact wpAny_mono (hk η1 σ₁ δ₁ F1 (K.move hm1 k1) (off2_move O al hl1) p1 (GPf.vis (H0:=H0) (own_hid F) (fun b m=>(lo b m).1) k1 hf1)) (fun b s2 q=>GPf.glue F (fun b m=>⟨(lo b m).1,al b m⟩) k1 F1 hm1 hf1 hl1 q) fun _ _ f=>f
theorem GPf.of_pu{α:Type}{s s':Shared}{η:List Addr}{V:Env}{fr:List Addr}{P:Heap->α->Prop}{a:α}(F:Fm H0 η δ V σ s.heap)(hf:∀b∈fr,b∉ownOf V δ)(y:Pu s η P a s'):GPf H0 s η V δ fr (fun g v σ' δ'=>P g v∧σ'=σ∧δ'=δ) a s':=by
 obtain⟨h',tk,rfl,ex,p⟩:=y;exact⟨h',tk,η,σ,δ,rfl,.of_but (ex.keep _) hf,F.ext ex,fun _ m=>m,fun _ m=>.inl m,fun p m=>.inl (mem_map_of_mem m),p,rfl,rfl⟩
abbrev HT(x:Bool)(Z:Program)(w:World)(H0:Heap)(n:Nat)(sc:Scope)(σ:Sto)(δ:Led)(st:Stmt)(Ψ:PostS):Prop:=GSf x Z w H0 n sc σ δ (exec st) Ψ
abbrev HX(x:Bool)(Z:Program)(w:World)(H0:Heap)(n:Nat)(sc:Scope)(σ:Sto)(δ:Led)(sts:List Stmt)(Ψ:PostS):Prop:=GSf x Z w H0 n sc σ δ (execs sts) Ψ
theorem gsf_mono{α:Type}{m:Env->Sem α}{Ψ Φ:Heap->α->Sto->Led->Prop}(h:GSf x Z w H0 n sc σ δ m Ψ)(hi:∀g a σ' δ',Ψ g a σ' δ'->Φ g a σ' δ'):GSf x Z w H0 n sc σ δ m Φ:=
 fun A V ω s η g o F K O=>wpAny_mono (h A V ω s η g o F K O) (fun a s' q=>q.mono (hi · a)) fun _ _ f=>f
theorem hx_nil{Ψ:PostS}(h:∀g,Ψ g .next σ δ):HX x Z w H0 n sc σ δ [] Ψ:=fun A V ω s η g o F K O=>wpAny_execs_nil (GPf.here F (h _))
theorem hx_cons{st:Stmt}{rest:List Stmt}{Ψ Φ:PostS}(h:HT x Z w H0 n sc σ δ st Ψ)(hr:∀g σ' δ',Ψ g .next σ' δ'->HX x Z w H0 n sc σ' δ' rest Φ)(hs:∀g fl σ' δ',fl≠ .next->Ψ g fl σ' δ'->Φ g fl σ' δ'):
  HX x Z w H0 n sc σ δ (st::rest) Φ:=by
 intro A V ω s η g o F K O;refine wpAny_execs_cons (wpAny_mono (h A V ω s η g o F K O) (fun fl s₁ q=>?_) fun _ _ f=>f);cases fl with
 |next=>exact q.then F K O fun η1 σ₁ δ₁ F1 K1 O1 p1 _=>hr _ σ₁ δ₁ p1 A V ω s₁ η1 g o F1 K1 O1
 |_=>exact q.mono fun g σ' δ' p=>hs g _ σ' δ' (by intro e;cases e) p
theorem hx_step{st:Stmt}{rest:List Stmt}{σ₁:Sto}{δ₁:Led}{Φ:PostS}(h:HT x Z w H0 n sc σ δ st (nextIs σ₁ δ₁))(hr:HX x Z w H0 n sc σ₁ δ₁ rest Φ):HX x Z w H0 n sc σ δ (st::rest) Φ:=
 hx_cons h (fun g σ' δ' ⟨_,a,b⟩=>by subst a b;exact hr) fun g fl σ' δ' hn ⟨a,_⟩=>absurd a hn
theorem hx_sub{σ':Sto}{sts:List Stmt}{Ψ:PostS}(h:HX x Z w H0 n sc σ' δ sts Ψ)(hs:∀x e,σ'.lookup x=some e->σ.lookup x=some e):HX x Z w H0 n sc σ δ sts Ψ:=
 fun A V ω s η g o F K O=>h A V ω s η g o (F.sub hs) K O
theorem ht_of{st:Stmt}{Ψ:PostS}(h:GT Z w H0 n sc σ δ st Ψ):HT x Z w H0 n sc σ δ st Ψ:=gsf_of h
theorem hx_of{sts:List Stmt}{Ψ:PostS}(h:GX Z w H0 n sc σ δ sts Ψ):HX x Z w H0 n sc σ δ sts Ψ:=gsf_of h
theorem gt_of_h{st:Stmt}{Ψ:PostS}(h:HT false Z w H0 n sc σ δ st Ψ):GT Z w H0 n sc σ δ st Ψ:=gs_of_f h
theorem ht_ifg{test:Expr}{body orelse:List Stmt}{pos:Pos}{Θ:Heap->Bool->Sto->Led->Prop}{Ψ:PostS}(h:GSf x Z w H0 n sc σ δ (fun V=>isTrue test V (eval test V)) Θ)(h1:∀g σ' δ',Θ g true σ' δ'->HX x Z w H0 n sc σ' δ' body Ψ)(h2:∀g σ' δ',Θ g false σ' δ'->HX x Z w H0 n sc σ' δ' orelse Ψ):
  HT x Z w H0 n sc σ δ (.If test body orelse pos) Ψ:=by
 intro A V ω s η g o F K O;refine wpAny_If (wpAny_mono (h A V ω s η g o F K O) (fun c s₁ q=>?_) fun _ _ f=>f);cases c with
 |true=>exact q.then F K O fun η1 σ₁ δ₁ F1 K1 O1 p1 _=>h1 _ _ _ p1 A V ω s₁ η1 g o F1 K1 O1
 |false=>exact q.then F K O fun η1 σ₁ δ₁ F1 K1 O1 p1 _=>h2 _ _ _ p1 A V ω s₁ η1 g o F1 K1 O1
theorem gsf_tr{test:Expr}{b:Bool}(h:TrP Z w H0 n sc σ δ test b):GSf x Z w H0 n sc σ δ (fun V=>isTrue test V (eval test V)) (fun _ c σ' δ'=>c=b∧σ'=σ∧δ'=δ):=
 fun A V ω s η g o F K O=>wpAny_mono (h A V s η g o F) (fun c s₁ q=>(GPf.of_pu F O q)) fun _ _ f=>f
theorem ht_if{test:Expr}{body orelse:List Stmt}{pos:Pos}{b:Bool}{Ψ:PostS}(h:TrP Z w H0 n sc σ δ test b)(h1:b=true->HX x Z w H0 n sc σ δ body Ψ)(h2:b=false->HX x Z w H0 n sc σ δ orelse Ψ):
  HT x Z w H0 n sc σ δ (.If test body orelse pos) Ψ:=
 ht_ifg (gsf_tr h) (fun g σ' δ' ⟨e,a,c⟩=>by subst a c;exact h1 e.symm) fun g σ' δ' ⟨e,a,c⟩=>by subst a c;exact h2 e.symm
theorem ht_while{test:Expr}{body orelse:List Stmt}{pos:Pos}(I:Nat->Sto->Led->Prop){Ψ:PostS}(k:Nat)
  (turn:∀i σ' δ',I i σ' δ'->∃Θ,GSf x Z w H0 n sc σ' δ' (fun V=>isTrue test V (eval test V)) Θ∧
   (∀g σ₁ δ₁,Θ g true σ₁ δ₁->HX x Z w H0 n sc σ₁ δ₁ body (fun g fl σ₁ δ₁=>match fl with|.next|.cont=>∃j,j<i∧I j σ₁ δ₁|.brk=>Ψ g .next σ₁ δ₁|.ret v=>Ψ g (.ret v) σ₁ δ₁))∧
   (∀g σ₁ δ₁,Θ g false σ₁ δ₁->HX x Z w H0 n sc σ₁ δ₁ orelse Ψ))
  (h0:I k σ δ):HT x Z w H0 n sc σ δ (.While test body orelse pos) Ψ:=by
 intro A V ω s η g o F K O;have lo:=K.low;have al:∀b∈frs ω,b∈η∧∃ob,s.heap.get? b=some ob:=fun b m=>let⟨h1,o,e,_⟩:=lo b m;⟨h1,o,e⟩;refine wpAny_While (codeAny_whileLoop (fun i s'=>GPf H0 s η V δ (frs ω) (fun _ (_:Unit) σ' δ'=>I i σ' δ') () s') (fun i s' hI=>?_) k (GPf.here F h0));obtain⟨h₁,t₁,η1,σ₁,δ₁,rfl,k1,F1,m1,m2,m3,p1⟩:=id hI;have K1:=K.move m1 k1;have O1:=off2_move O (fun b m=>(al b m).2) m3;obtain⟨Θ,ht,hb,hb'⟩:=turn i σ₁ δ₁ p1;refine wpAny_mono (ht A V ω _ η1 g o F1 K1 O1) (fun c s2 q=>?_) fun _ _ f=>f.elim;obtain⟨h2,t2,η2,σ2,δ2,rfl,k2,F2,n1,n2,n3,p2⟩:=q;have K2:=K1.move n1 k2;have al1:∀b∈frs ω,b∈η1∧∃ob,h₁.get? b=some ob:=fun b m=>let⟨h1,o,e,_⟩:=K1.low b m;⟨h1,o,e⟩;have O2:=off2_move O1 (fun b m=>(al1 b m).2) n3;cases c with
 |true=>
  refine wpAny_mono (hb _ _ _ p2 A V ω _ η2 g o F2 K2 O2) (fun fl s3 q3=>?_) fun _ _ f=>f.elim;have q3':GPf H0 {s with heap:=h₁,toks:=t₁} η1 V δ₁ (frs ω) _ fl s3:=GPf.glue (t₁:=t2) F1 al1 k2 F2 n1 n2 n3 q3;have q4:=GPf.glue F al k1 F1 m1 m2 m3 q3';cases fl with
  |next=>
   obtain⟨h',tk,η',σ',δ',e,k,F',u1,u2,u3,j,hj,p⟩:=q4;exact⟨j,hj,h',tk,η',σ',δ',e,k,F',u1,u2,u3,p⟩
  |cont=>
   obtain⟨h',tk,η',σ',δ',e,k,F',u1,u2,u3,j,hj,p⟩:=q4;exact⟨j,hj,h',tk,η',σ',δ',e,k,F',u1,u2,u3,p⟩
  |brk=>exact q4
  |ret v=>exact q4
 |false=>
  refine wpAny_mono (hb' _ _ _ p2 A V ω _ η2 g o F2 K2 O2) (fun fl s3 q3=>?_) fun _ _ f=>f.elim;have q3':GPf H0 {s with heap:=h₁,toks:=t₁} η1 V δ₁ (frs ω) _ fl s3:=GPf.glue (t₁:=t2) F1 al1 k2 F2 n1 n2 n3 q3;exact GPf.glue F al k1 F1 m1 m2 m3 q3'
end
def IsSrcF(Z:Program)(w:World)(A:Around)(s:Shared)(η fixed:List Addr)(ds:List Ent)(it:Value)(s2:Shared):Prop:=
 ∃I fp wr St h2 tk,it=.ref I∧s2={s with heap:=h2,toks:=tk}∧Ext s.heap h2∧Src Z w A (vis s.heap η) I fp wr ds St∧St 0 h2∧(∀b∈wr,s.heap.get? b=none)∧(∀b∈fp,(∃o,h2.get? b=some o)∧(b∉η∨b∈fixed))
section
variable{x:Bool}
def ItF(Z:Program)(w:World)(H0:Heap)(n:Nat)(sc:Scope)(σ:Sto)(δ:Led)(fixed:List Addr)(iter:Expr)(ds:List Ent):Prop:=
 ∀A V s η,Good n A->EnvOk sc V->Fm H0 η δ V σ s.heap->wpAny (model Z w) A (eval iter V) (fun v s₁=>Pu s η (fun _ _=>True) v s₁∧wpAny (model Z w) A (pyIter v) (IsSrcF Z w A s₁ η fixed ds) NoE s₁) NoE s
theorem itf_of{iter:Expr}{y:Ent}{ds:List Ent}(hi:EvE Z w H0 n sc σ δ iter y)(h:SrcV Z w H0 n y ds):ItF Z w H0 n sc σ δ [] iter ds:=by
 intro A V s η g o F;refine seqP (hi A V s η g o F) fun v s₁ q=>⟨q.mono fun _ _=>trivial,?_⟩;refine wpAny_mono (h A s₁ η v g (F.ext q.ext).toBase q.val) (fun it s2 q2=>?_) fun _ _ f=>f;obtain⟨I,fp,wr,St,h2,tk,e1,e2,e3,e4,e5,e6,e7⟩:=q2;exact⟨I,fp,wr,St,h2,tk,e1,e2,e3,e4,e5,e6,fun b m=>⟨(e7 b m).1,.inl (e7 b m).2⟩⟩
theorem itf_own{iter:Expr}{a:Addr}{ob:Obj}{ds:List PyData}(hi:EvE Z w H0 n sc σ δ iter (.v (.ref a)))(ho:(a,ob)∈δ)(hl:OwnL ds ob):ItF Z w H0 n sc σ δ [a] iter (ds.map .d):=by
 intro A V s η g o F;refine seqP (hi A V s η g o F) fun v s₁ q=>⟨q.mono fun _ _=>trivial,?_⟩;have e:=q.val;subst e;have F1:=F.ext q.ext;have hLs:=F1.ledg _ ho;obtain⟨vs,k,hL,f⟩:=ownL_isL hl hLs;have hl':=hL.isList;have lne:a≠s₁.heap.objs.size:=Nat.ne_of_lt (Heap.lt_size hLs);have nfresh:s₁.heap.get? s₁.heap.objs.size=none:=by
  cases e:s₁.heap.get? s₁.heap.objs.size with
  |none=>rfl
  |some o=>exact absurd (Heap.lt_size e) (Nat.lt_irrefl _)
 refine wpAny_pyIter_list hl' ⟨s₁.heap.objs.size,[s₁.heap.objs.size,a],[s₁.heap.objs.size],(fun i h=>h.IsListIter s₁.heap.objs.size a i∧h.IsList a (toArray vs)),_,s₁.toks,rfl,rfl,ext_push _ _,⟨?_,?_,?_⟩,?_,?_,?_⟩
 case refine_1=>
  have W:=Walks.list (prog:=Z) (w:=w) g.hh s₁.heap.objs.size a lne (toArray vs);have e:(toArray vs).size=(ds.map Ent.d).length:=by rw[size_toArray,f.length,length_map]
  rw[e] at W;exact Walks.imp W fun i v p=>by
   obtain⟨d,h1,h2⟩:=f.get' (i:=i) (a:=v) (by simpa using p);exact⟨.d d,by simp[h1],h2 _⟩
 case refine_2=>
  intro i h st b hb;obtain⟨⟨o,e,_⟩,_⟩:=st;rw[mem_singleton.mp hb];exact⟨o,e⟩
 case refine_3=>
  intro i h st;obtain⟨⟨o,e,c,_⟩,_⟩:=st;exact⟨o,_,e,c,by decide⟩
 ·exact⟨⟨_,Heap.get?_push_size _ rfl,rfl,rfl⟩,hl'.push _⟩
 ·intro b hb
  rw[mem_singleton.mp hb];exact nfresh
 ·intro b hb
  rcases mem_cons.mp hb with rfl|hb
  ·exact⟨⟨_,Heap.get?_push_size _ rfl⟩,.inl F1.toBase.fresh⟩
  ·rw[mem_singleton.mp hb]
   exact⟨⟨_,Heap.get?_push_of_some _ hLs⟩,.inr (mem_singleton.mpr rfl)⟩
theorem itf_keys{iter:Expr}{d:Addr}{ob:Obj}{kvs:List (Str×Value)}(hi:EvE Z w H0 n sc σ δ iter (.v (.ref d)))(ho:(d,ob)∈δ)(hl:ob.IsDictOf (skd Z w) kvs)(lo:(d==sysModules)=false):ItF Z w H0 n sc σ δ [d] iter (kvs.map fun p=>.d (.str p.1)):=by
 intro A V s η g o F;refine seqP (hi A V s η g o F) fun v s₁ q=>⟨q.mono fun _ _=>trivial,?_⟩;have e:=q.val;subst e;have F1:=F.ext q.ext;have hLs:=F1.ledg _ ho;obtain⟨o',es,ep,ho',hr⟩:=Heap.dictOf_iff.mpr ⟨ob,hLs,hl⟩;have hat:s₁.heap.DictAt (skd Z w) d kvs ep:=⟨o',es,ho',hr⟩;have dne:d≠s₁.heap.objs.size:=Nat.ne_of_lt (Heap.lt_size hLs);have nfresh:s₁.heap.get? s₁.heap.objs.size=none:=by
  cases e:s₁.heap.get? s₁.heap.objs.size with
  |none=>rfl
  |some o=>exact absurd (Heap.lt_size e) (Nat.lt_irrefl _)
 refine wpAny_pyIter_dict (knd:=skd Z w) lo hat ⟨s₁.heap.objs.size,[s₁.heap.objs.size,d],[s₁.heap.objs.size],(fun i h=>h.IsKeyIter s₁.heap.objs.size d i kvs.length ep∧h.DictAt (skd Z w) d kvs ep),_,s₁.toks,rfl,rfl,ext_push _ _,⟨?_,?_,?_⟩,?_,?_,?_⟩
 ·have W:=Walks.dictKeys (prog:=Z) (w:=w) (knd:=skd Z w) g.hh s₁.heap.objs.size d dne kvs ep
  have e:kvs.length=(kvs.map fun p=>Ent.d (.str p.1)).length:=by rw[length_map]
  rw[e] at W;have:=Walks.imp (P':=fun i v=>∃e,(kvs.map fun p=>Ent.d (.str p.1))[i]? =some e∧Means (vis s₁.heap η) v e) W fun i v p=>by
   obtain⟨k,y,h1,h2⟩:=p;obtain⟨t,rfl⟩:=Value.isStrOf_shape h2;exact⟨.d (.str k),by rw[getElem?_map,h1];rfl,str_rd _ _ _⟩
  rw[←e] at this ⊢;exact this
 ·intro i h st b hb
  obtain⟨⟨o,e,_⟩,_⟩:=st;rw[mem_singleton.mp hb];exact⟨o,e⟩
 ·intro i h st
  obtain⟨⟨o,e,c,_⟩,_⟩:=st;exact⟨o,_,e,c,by decide⟩
 ·exact⟨⟨_,Heap.get?_push_size _ rfl,rfl,rfl⟩,⟨o',es,Heap.get?_push_of_some _ ho',hr⟩⟩
 ·intro b hb
  rw[mem_singleton.mp hb];exact nfresh
 ·intro b hb
  rcases mem_cons.mp hb with rfl|hb
  ·exact⟨⟨_,Heap.get?_push_size _ rfl⟩,.inl F1.toBase.fresh⟩
  ·rw[mem_singleton.mp hb]
   exact⟨⟨_,Heap.get?_push_of_some _ hLs⟩,.inr (mem_singleton.mpr rfl)⟩
end
section
variable{x:Bool}
theorem ht_for{target iter:Expr}{body:List Stmt}{pos:Pos}{ds:List Ent}(fx:Led)(J:Nat->Sto->Led->Prop){Ψ:PostS}(hi:ItF Z w H0 n sc σ δ (fx.map (·.1)) iter ds)(h0:J 0 σ δ)(hfx:∀i σ' δ',J i σ' δ'->∀p∈fx,p∈δ')
  (turn:∀i e σ' δ',ds[i]? =some e->J i σ' δ'->∃bs,AsP Z w H0 n sc target e bs∧
   HX x Z w H0 n sc (bs++σ') δ' body (fun g fl σ₁ δ₁=>match fl with|.next|.cont=>J (i+1) σ₁ δ₁|.brk=>∀g,Ψ g .next σ₁ δ₁|.ret v=>∀g',Ext g g'->Ψ g' (.ret v) σ₁ δ₁))
  (hend:∀g σ' δ',J ds.length σ' δ'->Ψ g .next σ' δ')
  (hs:∀V x,foldedSetIterable iter V x=pure x)(ht:(∃y p,target=.Name y p)∨∃es k p,target=.Tuple es k p):
  HT x Z w H0 n sc σ δ (.For target iter body [] pos) Ψ:=by
 intro A V ω s η g o F K O;refine wpAny_For (wpAny_mono (hi A V s η g o F) (fun v s₁ q=>?_) fun _ _ f=>f.elim) (hs V);obtain⟨q,hit⟩:=q;have F1:=F.ext q.ext;have ku1:KeepU (ownOf V δ) (frs ω) s.heap s₁.heap:=.of_but (q.ext.keep _) O;have K1:Fk x A V ω η s₁.heap:=K.move (fun _ m=>m) ku1;obtain⟨h₁,t₁,rfl,ex1,_⟩:=q;refine wpAny_mono hit (fun it s2 q2=>?_) fun _ _ f=>f.elim;obtain⟨I,fp,wr,St,h₂,t2,rfl,rfl,ex2,S,st0,fresh,fps⟩:=q2;have W:=S.walk;have F2:Fm H0 (wr++η) δ V σ h₂:=F1.more ex2 fresh (fun b hb=>S.alive 0 _ st0 b hb);have gm:Ext (vis h₁ η) (vis h₂ (wr++η)):=vis_more ex2 fresh;have ex02:Ext s.heap h₂:=fun b oo e=>ex2 b oo (ex1 b oo e);have ku2:KeepU (ownOf V δ) (frs ω) s.heap h₂:=.of_but (ex02.keep _) O;have K2:Fk x A V ω (wr++η) h₂:=K.move (fun _ m=>mem_append_right _ m) ku2;have lo:=K.low;have freshS:∀b∈wr,s.heap.get? b=none:=fun b hb=>by
  cases q:s.heap.get? b with
  |none=>rfl
  |some oo=>have:=fresh b hb;rw[ex1 b oo q] at this;cases this
 have wrh2:∀b∈wr,∃oo,h₂.get? b=some oo:=fun b hb=>S.alive 0 _ st0 b hb;have wrn0:∀(δ':Led),(∀p∈δ',p.1∈δ.map (·.1)∨h₂.get? p.1=none)->∀b∈wr,b∉ownOf V δ':=fun δ' hl b hb m=>by
  rcases own_led (V:=V) (δ:=δ) hl m with m|m
  ·obtain⟨oo,e⟩:=F.alive b (own_hid F b m)
   rw[freshS b hb] at e;cases e
  ·obtain⟨oo,e⟩:=wrh2 b hb
   rw[e] at m;cases m
 have wrf:∀b∈wr,b∉frs ω:=fun b hb m=>by
  obtain⟨_,oo,e,_⟩:=lo b m;rw[freshS b hb] at e;cases e
 have out:∀{β:Type} {Φ:Heap->β->Sto->Led->Prop} {b:β} {s':Shared} {h':Heap} {tk:Nat} {η':List Addr} {σ':Sto} {δ':Led},s'={s with heap:=h',toks:=tk}->KeepU (wr++ownOf V δ) (frs ω) h₂ h'->Fm H0 η' δ' V σ' h'->(∀b∈wr++η,b∈η')->
   (∀b∈η',b∈wr++η∨h₂.get? b=none)->(∀p∈δ',p.1∈δ.map (·.1)∨h₂.get? p.1=none)->Φ (vis h' η') b σ' δ'->GPf H0 s η V δ (frs ω) Φ b s':=by
  intro β Φ b s' h' tk η' σ' δ' e k F' m1 m2 m3 p;have back:∀b,h₂.get? b=none->s.heap.get? b=none:=fun b e=>by
   cases q:s.heap.get? b with
   |none=>rfl
   |some oo=>rw[ex02 b oo q] at e;cases e
  refine⟨h',tk,η',σ',δ',e,⟨fun b oo nb nf e=>k.1 b oo (fun m=>?_) nf (ex02 b oo e),fun b m oo e d=>k.2 b m oo (ex02 b oo e) d⟩,F',fun b m=>m1 b (mem_append_right _ m),fun b m=>?_,fun p m=>(m3 p m).imp id (back _),p⟩
  ·rcases mem_append.mp m with m|m
   ·rw[freshS b m] at e;cases e
   ·exact nb m
  ·rcases m2 b m with m|m
   ·rcases mem_append.mp m with m|m
    ·exact .inr (freshS b m)
    ·exact .inl m
   ·exact .inr (back b m)
 refine codeAny_loop' rfl (fun k s'=>∃i h' tk η' σ' δ',s'={s with heap:=h',toks:=tk}∧i≤ds.length∧k=ds.length - i∧St i h'∧Fm H0 η' δ' V σ' h'∧J i σ' δ'∧Ext (vis h₁ η) (vis h' η')∧KeepU (wr++ownOf V δ) (frs ω) h₂ h'∧
   (∀b∈wr++η,b∈η')∧(∀b∈η',b∈wr++η∨h₂.get? b=none)∧(∀p∈δ',p.1∈δ.map (·.1)∨h₂.get? p.1=none))
  (fun k s' hI=>?_) ds.length ⟨0,h₂,t2,wr++η,σ,δ,rfl,Nat.zero_le _,rfl,st0,F2,h0,gm,KeepU.refl _ _ _,fun _ m=>m,fun _ m=>.inl m,fun p m=>.inl (mem_map_of_mem m)⟩
 obtain⟨i,h',tk,η',σ',δ',rfl,hle,rfl,sti,Fi,ji,gi,ki,m1,m2,m3⟩:=hI;show wpAny _ A ((forTurn target (.ref I) body [] V).onRaise (fun x=>do noteFrame x V;theTreesLotGoes x)) _ _ _;refine wpAny_noted ?_;simp only[forTurn];refine wpAny_bind (wpAny_standAt (wpAny_bind (wpAny_onRaise ?_)));have wrh:∀b∈wr,b∈η':=fun b hb=>m1 b (mem_append_left _ hb);have wrn:∀b∈wr,b∉ownOf V δ':=wrn0 δ' m3;have wro:∀b∈wr,b≠V.locals∧(∀p∈V.cells,p.2≠b)∧∀p∈δ',p.1≠b:=fun b hb=>
  ⟨fun q=>wrn b hb (q▸mem_cons_self),fun p hp q=>wrn b hb (q▸mem_cons_of_mem _ (mem_append_left _ (mem_map_of_mem hp))),
   fun p hp q=>wrn b hb (q▸mem_cons_of_mem _ (mem_append_right _ (mem_map_of_mem hp)))⟩
 have Ki:Fk x A V ω η' h':=by
  have kk:KeepU (wr++ownOf V δ) (frs ω) s.heap h':=⟨fun b oo nb nf e=>ki.1 b oo nb nf (ex02 b oo e),fun b m oo e d=>ki.2 b m oo (ex02 b oo e) d⟩;cases x with
  |true=>
   have f:FrOk A V ω η s.heap:=K;exact(show FrOk A V ω η' h' from⟨f.stack,f.fn,fun b m=>by
    obtain⟨h1,oo,e,d⟩:=f.low b m;obtain⟨sl,e1⟩:=kk.2 b m oo e d;exact⟨m1 b (mem_append_right _ h1),_,e1,d⟩⟩)
  |false=>exact K
 have Oi:Off2 ω V δ':=fun b m hb=>by
  rcases own_led m3 hb with q|q
  ·exact O b m q
  ·obtain⟨_,oo,e,_⟩:=K2.low b m
   rw[e] at q;cases q
 by_cases hlt:i<ds.length
 ·refine W.item i _ _ _ hlt sti fun v h₃ t3 hv st3 k3=>?_
  obtain⟨e,he,me⟩:=hv;have F3:Fm H0 η' δ' V σ' h₃:=Fi.keepBut k3 wrh wro (fun b hb=>S.alive (i+1) h₃ st3 b hb);have ku3:KeepU wr (frs ω) h' h₃:=.of_but k3 (fun b m hb=>wrf b hb m);have K3:Fk x A V ω η' h₃:=by
   cases x with
   |true=>
    have f:FrOk A V ω η' h':=Ki;exact(show FrOk A V ω η' h₃ from⟨f.stack,f.fn,fun b m=>by
     obtain⟨h1,oo,e,d⟩:=f.low b m;obtain⟨sl,e1⟩:=ku3.2 b m oo e d;exact⟨h1,_,e1,d⟩⟩)
   |false=>exact Ki
  have g3:Ext (vis h₁ η) (vis h₃ η'):=gi.trans (vis_keepBut wrh k3);obtain⟨bs,hAs,hEx⟩:=turn i e σ' δ' he ji;have go:∀(Q:Unit->Shared->Prop) (E:Value->Shared->Prop) (s5:Shared),s5.heap=h₃->Q () s5->wpAny (model Z w) A (letOwnedTupleGo target (.ref I) v) Q E s5:=by
   intro Q E s5 hs5 hQ;rcases ht with ⟨y,p,rfl⟩|⟨es,kk,p,rfl⟩
   ·exact wpAny_pure hQ
   ·cases v with
    |ref a=>
     obtain⟨oo,T,e1,e2,e3⟩:=S.plain (i+1) h₃ st3;show wpAny _ A (load I >>=fun o=>_) _ _ _;refine wpAny_bind (wpAny_load (by rw[hs5];exact e1) ?_);rw[e2];cases hd:oo.data<;> (try exact wpAny_pure hQ)
     simp only;have:(["enumerate","zip","dict_itemiterator","dict_reverseitemiterator","odict_iterator","itertools.zip_longest","itertools.pairwise"].contains T)=false:=e3;rw[this];exact wpAny_pure hQ
    |_=>exact wpAny_pure hQ
  refine wpAny_bind (go _ _ _ rfl ?_);refine wpAny_bind (wpAny_mono (hAs A V _ η' δ' σ' v g o F3 (me.ext g3)) (fun _ s4 q₄=>?_) fun _ _ f=>f.elim);obtain⟨h4,t4,rfl,k₄,F4⟩:=q₄;have k4:KeepBut (ownOf V δ') h₃ h4:=k₄.more (places_own V δ' _);have ku4:KeepU (ownOf V δ') (frs ω) h₃ h4:=.of_but k4 Oi;have K4:=K3.move (fun _ m=>m) ku4;refine wpAny_bind (wpAny_mono (hEx A V ω _ η' g o F4 K4 Oi) (fun fl s5 q5=>?_) fun _ _ f=>f.elim);obtain⟨h5,t5,η5,σ5,δ5,rfl,k5,F5,n1,n2,n3,p5⟩:=q5;have k45:KeepU (ownOf V δ') (frs ω) h₃ h5:=ku4.trans k5;have back4:∀b,h4.get? b=none->h₂.get? b=none:=fun b e4=>by
   cases q:h₂.get? b with
   |none=>rfl
   |some oo=>
    exfalso
    by_cases mh:b∈η'
    ·obtain⟨ob,q4⟩:=F4.alive b mh
     rw[q4] at e4;cases e4
    ·have nw:b∉wr++ownOf V δ:=fun mb=>mh (by
      rcases mem_append.mp mb with mb|mb
      ·exact wrh b mb
      ·exact m1 b (mem_append_right _ (own_hid F1 b mb)))
     have nf:b∉frs ω:=fun m=>mh (m1 b (mem_append_right _ (lo b m).1));have a1:=ki.1 b oo nw nf q;have a3:=k3 b oo (fun m=>mh (wrh b m)) a1;rw[k4 b oo (fun m=>mh (own_hid F4 b m)) a3] at e4;cases e4
  have kk:KeepU (wr++ownOf V δ) (frs ω) h₂ h5:=by
   refine⟨fun b oo nb nf e2=>?_,fun b m oo e2 d=>?_⟩
   ·have a1:=ki.1 b oo nb nf e2
    have a3:=k3 b oo (fun m=>nb (mem_append_left _ m)) a1;refine k45.1 b oo (fun m=>?_) nf a3;rcases own_led (V:=V) (δ:=δ) m3 m with m|m
    ·exact nb (mem_append_right _ m)
    ·rw[e2] at m;cases m
   ·obtain⟨sl,a1⟩:=ki.2 b m oo e2 d
    obtain⟨sl',a3⟩:=ku3.2 b m _ a1 d;obtain⟨sl'',a4⟩:=k45.2 b m _ a3 d;exact⟨sl'',a4⟩
  have mm1:∀b∈wr++η,b∈η5:=fun b m=>n1 b (m1 b m);have mm2:∀b∈η5,b∈wr++η∨h₂.get? b=none:=fun b m=>by
   rcases n2 b m with m|m
   ·exact m2 b m
   ·exact .inr (back4 b m)
  have mm3:∀p∈δ5,p.1∈δ.map (·.1)∨h₂.get? p.1=none:=fun p m=>by
   rcases n3 p m with m|m
   ·obtain⟨p',hp',e⟩:=mem_map.mp m
    rw[←e];exact m3 p' hp'
   ·exact .inr (back4 _ m)
  have st5:J (i+1) σ5 δ5->St (i+1) h5:=fun j5=>W.frame _ _ _ st3 fun b hb oo e=>by
   rcases(fps b hb).2 with q|q
   ·refine k45.1 b oo (fun m=>?_) (fun m=>q (lo b m).1) e
    rcases own_led (V:=V) (δ:=δ) m3 m with z|z
    ·exact q (own_hid F1 b z)
    ·obtain⟨ob,z'⟩:=(fps b hb).1
     rw[z'] at z;cases z
   ·obtain⟨p,hp,rfl⟩:=mem_map.mp q
    have a1:=F3.ledg _ (hfx i σ' δ' ji p hp);rw[e] at a1;cases a1;exact F5.ledg _ (hfx _ _ _ j5 p hp)
  have gk:Ext (vis h₃ η') (vis h5 η5):=fun b oo e=>vis_get (k45.1 b oo (fun m=>(vis_inv e).2 (own_hid F4 b m)) (fun m=>(vis_inv e).2 (m1 b (mem_append_right _ (lo b m).1))) (vis_inv e).1) fun m=>by
   rcases n2 b m with m|m
   ·exact(vis_inv e).2 m
   ·have:h4.get? b=some oo:=k4 b oo (fun mo=>(vis_inv e).2 (own_hid F4 b mo)) (vis_inv e).1
    rw[this] at m;cases m
  cases fl with
  |next=>exact wpAny_pure (.inl ⟨rfl,ds.length - (i+1),by omega,i+1,h5,t5,η5,σ5,δ5,rfl,hlt,rfl,st5 p5,F5,p5,g3.trans gk,kk,mm1,mm2,mm3⟩)
  |cont=>exact wpAny_pure (.inl ⟨rfl,ds.length - (i+1),by omega,i+1,h5,t5,η5,σ5,δ5,rfl,hlt,rfl,st5 p5,F5,p5,g3.trans gk,kk,mm1,mm2,mm3⟩)
  |brk=>exact wpAny_pure (out rfl kk F5 mm1 mm2 mm3 (p5 _))
  |ret v=>exact wpAny_pure (out rfl kk F5 mm1 mm2 mm3 (p5 _ (Ext.refl _)))
 ·have hi':i=ds.length:=by omega
  subst hi';refine W.done _ _ _ sti fun h₃ t3 k3=>?_;refine wpAny_pure (.inr ⟨rfl,?_⟩);refine codeAny_block (wpAny_execs_nil ?_);have inr:∀a,a∈η'->a∉wr->a∈η'.filter (fun a=>!decide (a∈wr)):=fun a h1 h2=>mem_filter.mpr ⟨h1,by simpa using h2⟩;have hl1:V.locals∈η'.filter (fun a=>!decide (a∈wr)):=inr _ Fi.loc fun m=>(wro _ m).1 rfl;have hl2:∀p∈V.cells,p.2∈η'.filter (fun a=>!decide (a∈wr)):=fun p hp=>inr _ (Fi.celh p hp) fun m=>(wro _ m).2.1 p hp rfl;have hl3:∀p∈δ',p.1∈η'.filter (fun a=>!decide (a∈wr)):=fun p hp=>inr _ (Fi.ledh p hp) fun m=>(wro _ m).2.2 p hp rfl;have Fw:Fm H0 (wr++η'.filter (fun a=>!decide (a∈wr))) δ' V σ' h':=Fi.less (fun a m=>by
    rcases mem_append.mp m with m|m
    ·exact wrh a m
    ·exact(mem_filter.mp m).1) (mem_append_right _ hl1) (fun p hp=>mem_append_right _ (hl2 p hp)) fun p hp=>mem_append_right _ (hl3 p hp)
  have F3:Fm H0 (η'.filter (fun a=>!decide (a∈wr))) δ' V σ' h₃:=Fm.drop Fw k3 (fun a m q=>by simpa [m] using (mem_filter.mp q).2) hl1 hl2 hl3;have ku3:KeepU wr (frs ω) h' h₃:=.of_but k3 (fun b m hb=>wrf b hb m);refine⟨h₃,t3,_,σ',δ',rfl,⟨fun b oo nb nf e=>?_,fun b m oo e d=>?_⟩,F3,fun b m=>inr b (m1 b (mem_append_right _ m)) fun q=>?_,fun b m=>?_,fun p m=>(m3 p m).imp id fun e=>?_,hend _ _ _ ji⟩
  ·have nw:b∉wr:=fun m=>by rw[freshS b m] at e;cases e
   exact k3 b oo nw (ki.1 b oo (fun m=>by
    rcases mem_append.mp m with m|m
    ·exact nw m
    ·exact nb m) nf (ex02 b oo e))
  ·obtain⟨sl,a1⟩:=ki.2 b m oo (ex02 b oo e) d
   obtain⟨sl',a2⟩:=ku3.2 b m _ a1 d;exact⟨sl',a2⟩
  ·obtain⟨oo,e⟩:=F.alive b m
   rw[freshS b q] at e;cases e
  ·rcases m2 b (mem_filter.mp m).1 with q|q
   ·rcases mem_append.mp q with q|q
    ·exact .inr (freshS b q)
    ·exact .inl q
   ·refine .inr ?_
    cases z:s.heap.get? b with
    |none=>rfl
    |some oo=>rw[ex02 b oo z] at q;cases q
  ·cases z:s.heap.get? p.1 with
   |none=>rfl
   |some oo=>rw[ex02 _ oo z] at e;cases e
end
def EsFs(es:List DictEntry)(fs:List (Str×Value)):Prop:=F2 (fun(e:DictEntry) (p:Str×Value)=>(∃t,e.key=.str p.1 t)∧e.val=p.2) es fs
def FD(fs:List (Str×Value))(o:Obj):Prop:=∃es m,o=dictOf es m∧EsFs es fs
def putF(name:Str)(v:Value):List (Str×Value)->List (Str×Value)
 |[]=>[(name,v)]
 |p::r=>if p.1==name then (p.1,v)::r else p::putF name v r
theorem lookupF_eq{name:Str}:∀{fs:List (Str×Value)},fs.lookup name=(fs.find? fun p=>p.1==name).map (·.2)
 |[]=>rfl
 |(k,v)::r=>by
  rw[lookup_cons,find?_cons]
  by_cases h:k=name
  ·subst h;simp
  ·have h1:(name==k)=false:=by simpa using fun q=>h q.symm
   have h2:(k==name)=false:=by simpa using h
   rw[h1];simp only[h2];exact lookupF_eq
theorem esfs_any{es:List DictEntry}{fs:List (Str×Value)}(h:EsFs es fs):es.any (·.refKey)=false:=by
 induction h with
 |nil=>rfl
 |cons a _ ih=>
  obtain⟨⟨t,e⟩,_⟩:=a;rw[any_cons,ih,DictEntry.refKey,e];rfl
theorem esfs_get{es:List DictEntry}{fs:List (Str×Value)}(name:Str)(h:EsFs es fs):getL name es=some (fs.lookup name):=by
 have hr:=esfs_any h;have hf:(es.find? (·.key.isStr name)).map (·.val)=fs.lookup name:=by
  rw[lookupF_eq];clear hr
  induction h with
  |nil=>rfl
  |@cons e p es fs a _ ih=>
   obtain⟨⟨t,e1⟩,e2⟩:=a;rw[find?_cons,find?_cons,e1];show Option.map _ (match(p.1==name) with|true=>some e|false=>_)=_;cases p.1==name with
   |true=>simp[e2]
   |false=>simpa using ih
 unfold getL;cases h1:es.find? (·.key.isStr name) with
 |some e=>rw[h1] at hf;simp at hf;rw[←hf]
 |none=>rw[h1] at hf;simp only[Option.map_none] at hf;rw[hr,←hf];rfl
theorem esfs_put{es:List DictEntry}{fs:List (Str×Value)}(name:Str)(hs:Int)(t:Tok)(v:Value)(h:EsFs es fs):EsFs (putL name hs (.str name t) v es) (putF name v fs):=by
 induction h with
 |nil=>exact .cons ⟨⟨t,rfl⟩,rfl⟩ .nil
 |@cons e p es fs a r ih=>
  obtain⟨⟨t',e1⟩,e2⟩:=a;unfold putL putF;rw[e1];show EsFs (if(p.1==name)=true then _ else _) (if(p.1==name)=true then _ else _);split
  ·exact .cons ⟨⟨t',rfl⟩,rfl⟩ r
  ·exact .cons ⟨⟨t',e1⟩,e2⟩ ih
section
variable{K:Frag}
theorem GP.backP{α β:Type}{s s₁:Shared}{η:List Addr}{V:Env}{P:Heap->β->Prop}{b:β}(F:Fm H0 η δ V σ s.heap)(q:Pu s η P b s₁){Φ:Heap->α->Sto->Led->Prop}{a:α}{s2:Shared}(g:GP H0 s₁ η V δ Φ a s2):GP H0 s η V δ Φ a s2:=by
 have F1:=F.ext q.ext;obtain⟨h2,t2,rfl,ex,_⟩:=q;exact GP.glue F (ex.keep _) F1 (fun _ m=>m) (fun _ m=>.inl m) (fun p m=>.inl (mem_map_of_mem m)) g
theorem GP.back{α β:Type}{s s₁:Shared}{η:List Addr}{V:Env}{Ψ:Heap->β->Sto->Led->Prop}{b:β}(F:Fm H0 η δ V σ s.heap)(x:GP H0 s η V δ Ψ b s₁):
  ∃η1 σ₁ δ₁,Fm H0 η1 δ₁ V σ₁ s₁.heap∧Ψ (Mine.vis s₁.heap η1) b σ₁ δ₁∧Ext (Mine.vis s.heap η) (Mine.vis s₁.heap η1)∧∀(Φ:Heap->α->Sto->Led->Prop) (a:α) (s2:Shared),GP H0 s₁ η1 V δ₁ Φ a s2->GP H0 s η V δ Φ a s2:=by
 obtain⟨h₁,t₁,η1,σ₁,δ₁,rfl,k1,F1,hm1,hf1,hl1,p1⟩:=x;exact⟨η1,σ₁,δ₁,F1,p1,GP.vis (α:=α) (H0:=H0) (own_hid F) k1 hf1,fun Φ a s2 q=>GP.glue F k1 F1 hm1 hf1 hl1 q⟩
theorem fm_K(hK:K.In H0){η:List Addr}{V:Env}{h:Heap}(F:Fm H0 η δ V σ h):K.In h:=hK.keeps F.toBase.h0
abbrev attrEv(e:Expr)(name:Str)(pos:Pos):Prop:=∀V,eval (.Attribute e name pos) V=(do
 let o ←eval e V
 standAt pos.atName
 let r ←holding [o] (getAttr o name true)
 letTemporaryGo e o r
 pure r)
theorem ev_attrD{e:Expr}{name:Str}{pos:Pos}{C x dx:Addr}{sl:Array (Option Value)}{od:Obj}{fs:List (Str×Value)}{v:Value}(hK:K.In H0)(c:DCls K C)(he:EvE Z w H0 n sc σ δ e (.v (.ref x)))(hx:(x,instD C dx sl)∈δ)(hd:(dx,od)∈δ)(hf:FD fs od)
  (hn:freeName K C name)(hl:fs.lookup name=some v)(hv:handedIn v=true)(ha:attrEv e name pos):EvE Z w H0 n sc σ δ (.Attribute e name pos) (.v v):=by
 intro A V s η g o F;obtain⟨es,m,rfl,hes⟩:=hf;refine Attribute_any_ (seqP (he A V s η g o F) fun u s₁ q=>?_) (ha V);have e1:=q.val;subst e1;have F1:=F.ext q.ext;exact getD (fm_K hK F1) c (F1.ledg _ hx) (F1.ledg _ hd) hn (by rw[esfs_get name hes,hl]) hv (q.trans (Pu.tok rfl))
theorem ev_attrS{e:Expr}{name:Str}{pos:Pos}{C x dx p:Addr}{i:Nat}{sl:Array (Option Value)}{od:Obj}{v:Value}(hK:K.In H0)(c:SCls K C)(he:EvE Z w H0 n sc σ δ e (.v (.ref x)))(hx:(x,instD C dx sl)∈δ)(hd:(dx,od)∈δ)
  (hp:SlotAt K C name i p)(hl:(sl[i]?).join=some v)(hv:handedIn v=true)(ha:attrEv e name pos):EvE Z w H0 n sc σ δ (.Attribute e name pos) (.v v):=by
 intro A V s η g o F;refine Attribute_any_ (seqP (he A V s η g o F) fun u s₁ q=>?_) (ha V);have e1:=q.val;subst e1;have F1:=F.ext q.ext;exact getS (fm_K hK F1) c (F1.ledg _ hx) (F1.ledg _ hd) hp hl hv (q.trans (Pu.tok rfl))
theorem ev_asInt{e:Expr}{i:Int}{t:Tok}(h:EvE Z w H0 n sc σ δ e (.v (.int i t))):EvE Z w H0 n sc σ δ e (.d (.int i)):=EvP.mono h fun g u q=>by
 have q':u=_:=q;subst q';exact int_rd _ _ _
theorem ev_asNone{e:Expr}(h:EvE Z w H0 n sc σ δ e (.v .none)):EvE Z w H0 n sc σ δ e (.d .none):=EvP.mono h fun g u q=>by
 have q':u=_:=q;subst q';exact⟨[],.none⟩
theorem ev_asStr{e:Expr}{i:Str}{t:Tok}(h:EvE Z w H0 n sc σ δ e (.v (.str i t))):EvE Z w H0 n sc σ δ e (.d (.str i)):=EvP.mono h fun g u q=>by
 have q':u=_:=q;subst q';exact str_rd _ _ _
theorem putD_gp{α:Type}{s:Shared}{η:List Addr}{V:Env}{tk:Nat}{t:Tok}{dx:Addr}{od:Obj}{fs:List (Str×Value)}{name:Str}{v:Value}{Ψ:Heap->α->Sto->Led->Prop}{r:α}(F:Fm H0 η δ V σ s.heap)(hd:(dx,od)∈δ)(hf:FD fs od)
  (h:∀g od',FD (putF name v fs) od'->Ψ g r σ (setLed dx od' δ)):GP H0 s η V δ Ψ r {s with heap:=s.heap.update dx (Obj.putName name (PyData.keyHash w.params name) (.str name t) v),toks:=tk}:=by
 obtain⟨es,m,rfl,hes⟩:=hf;have e:=putName_dict name (PyData.keyHash w.params name) (.str name t) v es m;exact GP.upd F hd (by rw[e];rfl) (h _ _ ⟨_,_,e,esfs_put name _ t v hes⟩)
theorem gt_setD{e value:Expr}{name:Str}{p pos:Pos}{C x dx:Addr}{sl:Array (Option Value)}{fs:List (Str×Value)}{Ψ:Heap->Value->Sto->Led->Prop}(hK:K.In H0)(c:DCls K C)(hv:GS Z w H0 n sc σ δ (eval value) Ψ)
  (hr:∀g v σ₁ δ₁,Ψ g v σ₁ δ₁->EvE Z w H0 n sc σ₁ δ₁ e (.v (.ref x))∧(x,instD C dx sl)∈δ₁∧∃od,(dx,od)∈δ₁∧FD fs od)(hz:fs.length≤100)(hn:freeName K C name)(hs:∀V,swapsWith value (some (.Attribute e name p)) pos.line V=pure false):
  GT Z w H0 n sc σ δ (.Assign [.Attribute e name p] value pos) (fun _ fl σ' δ'=>fl=.next∧∃g1 v δ₁ od',Ψ g1 v σ' δ₁∧FD (putF name v fs) od'∧δ'=setLed dx od' δ₁):=by
 intro A V s η g o F;refine plainObj_wpAny_Assign_Attribute (env:=V) (wpAny_mono (hv A V s η g o F) (fun v s₁ q=>?_) fun _ _ f=>f) (hs V);obtain⟨η1,σ₁,δ₁,F1,p1,_,back1⟩:=GP.back (α:=Flow) F q;obtain⟨he,hx,od,hd,hf⟩:=hr _ _ _ _ p1;refine wpAny_mono (he A V s₁ η1 g o F1) (fun u s2 q2=>?_) fun _ _ f=>f.elim;have e2:=q2.val;subst e2;have F2:=F1.ext q2.ext;obtain⟨es,m,rfl,hes⟩:=id hf;refine setD (fm_K hK F2) c (F2.ledg _ hx) (F2.ledg _ hd) hn (by rw[esfs_get name hes];rfl) (by rw[hes.length];exact hz) ?_;exact back1 _ _ _ (GP.backP F1 q2 (putD_gp F2 hd hf fun _ od' h'=>⟨rfl,_,v,δ₁,od',p1,h',rfl⟩))
end
def putS(sl:Array (Option Value))(i:Nat)(v:Value):Array (Option Value):=(sl++Array.replicate (i+1 - sl.size) none).setIfInBounds i (some v)
section
variable{K:Frag}
theorem putS_gp{α:Type}{s:Shared}{η:List Addr}{V:Env}{tk:Nat}{C x dx:Addr}{sl:Array (Option Value)}{i:Nat}{v:Value}{Ψ:Heap->α->Sto->Led->Prop}{r:α}(F:Fm H0 η δ V σ s.heap)(hx:(x,instD C dx sl)∈δ)
  (h:∀g,Ψ g r σ (setLed x (instD C dx (putS sl i v)) δ)):GP H0 s η V δ Ψ r {s with heap:=s.heap.update x (fun o=>{o with slots:=(o.slots++Array.replicate (i+1 - o.slots.size) none).setIfInBounds i (some v)}),toks:=tk}:=
 GP.upd (f:=fun o=>{o with slots:=(o.slots++Array.replicate (i+1 - o.slots.size) none).setIfInBounds i (some v)}) F hx rfl (h _)
theorem gt_setS{e value:Expr}{name:Str}{p pos:Pos}{C x dx d:Addr}{i:Nat}{sl:Array (Option Value)}{Ψ:Heap->Value->Sto->Led->Prop}(hK:K.In H0)(c:SCls K C)(hv:GS Z w H0 n sc σ δ (eval value) Ψ)
  (hr:∀g v σ₁ δ₁,Ψ g v σ₁ δ₁->EvE Z w H0 n sc σ₁ δ₁ e (.v (.ref x))∧(x,instD C dx sl)∈δ₁∧∃od,(dx,od)∈δ₁)(hp:SlotAt K C name i d)(hs:∀V,swapsWith value (some (.Attribute e name p)) pos.line V=pure false):
  GT Z w H0 n sc σ δ (.Assign [.Attribute e name p] value pos) (fun _ fl σ' δ'=>fl=.next∧∃g1 v δ₁,Ψ g1 v σ' δ₁∧δ'=setLed x (instD C dx (putS sl i v)) δ₁):=by
 intro A V s η g o F;refine plainObj_wpAny_Assign_Attribute (env:=V) (wpAny_mono (hv A V s η g o F) (fun v s₁ q=>?_) fun _ _ f=>f) (hs V);obtain⟨η1,σ₁,δ₁,F1,p1,_,back1⟩:=GP.back (α:=Flow) F q;obtain⟨he,hx,od,hd⟩:=hr _ _ _ _ p1;refine wpAny_mono (he A V s₁ η1 g o F1) (fun u s2 q2=>?_) fun _ _ f=>f.elim;have e2:=q2.val;subst e2;have F2:=F1.ext q2.ext;refine setS (fm_K hK F2) c (F2.ledg _ hx) (F2.ledg _ hd) hp ?_;exact back1 _ _ _ (GP.backP F1 q2 (putS_gp F2 hx fun _=>⟨rfl,_,v,δ₁,p1,rfl⟩))
theorem gt_augD{e value:Expr}{name:Str}{p pos:Pos}{op:Operator}{C x dx:Addr}{sl:Array (Option Value)}{od:Obj}{fs:List (Str×Value)}{i k r:Int}{t:Tok}(hK:K.In H0)(c:DCls K C)(he:EvE Z w H0 n sc σ δ e (.v (.ref x)))(hx:(x,instD C dx sl)∈δ)(hd:(dx,od)∈δ)(hf:FD fs od)
  (hn:freeName K C name)(hl:fs.lookup name=some (.int i t))(hv:EvE Z w H0 n sc σ δ value (.d (.int k)))(ho:OpBin Z w H0 n (inplaceOp op) (.d (.int i)) (.d (.int k)) (Rd (.int r)))(hz:fs.length≤100):
  GT Z w H0 n sc σ δ (.AugAssign (.Attribute e name p) op value pos) (fun _ fl σ' δ'=>fl=.next∧σ'=σ∧∃t' od',FD (putF name (.int r t') fs) od'∧δ'=setLed dx od' δ):=by
 intro A V s η g o F;obtain⟨es,m,rfl,hes⟩:=id hf;refine wpAny_AugAssign_AttributeAny (seqP (he A V s η g o F) fun u s₁ q1=>?_);have e1:=q1.val;subst e1;have F1:=F.ext q1.ext;refine getD (fm_K hK F1) c (F1.ledg _ hx) (F1.ledg _ hd) hn (by rw[esfs_get name hes,hl]) rfl ?_;have F1':Fm H0 η δ V σ ({s₁ with toks:=s₁.toks+1}:Shared).heap:=F1;refine seqP (hv A V _ η g o F1') fun v s2 q2=>?_;have F2:=F1'.ext q2.ext;refine seqP (ho A s2 η (.int i t) v g F2.toBase (int_rd _ _ _) q2.val) fun v' s3 q3=>?_;have F3:=F2.ext q3.ext;obtain⟨t',rfl⟩:=rd_int q3.val;refine setD (fm_K hK F3) c (F3.ledg _ hx) (F3.ledg _ hd) hn (by rw[esfs_get name hes];rfl) (by rw[hes.length];exact hz) ?_;have q1':Pu s η (fun _ (_:Value)=>True) (.int 0 0) {s₁ with toks:=s₁.toks+1}:=by
  obtain⟨h',tk,rfl,ex,_⟩:=q1;exact⟨h',_,rfl,ex,trivial⟩
 exact GP.backP F q1' (GP.backP F1' q2 (GP.backP F2 q3 (putD_gp F3 hd hf fun _ od' h'=>⟨rfl,rfl,t',od',h',rfl⟩)))
theorem gt_augS{e value:Expr}{name:Str}{p pos:Pos}{op:Operator}{C x dx d:Addr}{j:Nat}{sl:Array (Option Value)}{od:Obj}{i k r:Int}{t:Tok}(hK:K.In H0)(c:SCls K C)(he:EvE Z w H0 n sc σ δ e (.v (.ref x)))(hx:(x,instD C dx sl)∈δ)(hd:(dx,od)∈δ)
  (hp:SlotAt K C name j d)(hl:(sl[j]?).join=some (.int i t))(hv:EvE Z w H0 n sc σ δ value (.d (.int k)))(ho:OpBin Z w H0 n (inplaceOp op) (.d (.int i)) (.d (.int k)) (Rd (.int r))):
  GT Z w H0 n sc σ δ (.AugAssign (.Attribute e name p) op value pos) (fun _ fl σ' δ'=>fl=.next∧σ'=σ∧∃t',δ'=setLed x (instD C dx (putS sl j (.int r t'))) δ):=by
 intro A V s η g o F;refine wpAny_AugAssign_AttributeAny (seqP (he A V s η g o F) fun u s₁ q1=>?_);have e1:=q1.val;subst e1;have F1:=F.ext q1.ext;refine getS (fm_K hK F1) c (F1.ledg _ hx) (F1.ledg _ hd) hp hl rfl ?_;have F1':Fm H0 η δ V σ ({s₁ with toks:=s₁.toks+1}:Shared).heap:=F1;refine seqP (hv A V _ η g o F1') fun v s2 q2=>?_;have F2:=F1'.ext q2.ext;refine seqP (ho A s2 η (.int i t) v g F2.toBase (int_rd _ _ _) q2.val) fun v' s3 q3=>?_;have F3:=F2.ext q3.ext;obtain⟨t',rfl⟩:=rd_int q3.val;refine setS (fm_K hK F3) c (F3.ledg _ hx) (F3.ledg _ hd) hp ?_;have q1':Pu s η (fun _ (_:Value)=>True) (.int 0 0) {s₁ with toks:=s₁.toks+1}:=by
  obtain⟨h',tk,rfl,ex,_⟩:=q1;exact⟨h',_,rfl,ex,trivial⟩
 exact GP.backP F q1' (GP.backP F1' q2 (GP.backP F2 q3 (putS_gp F3 hx fun _=>⟨rfl,rfl,t',rfl⟩)))
theorem dict_at{h:Heap}{d:Addr}{ob:Obj}{kvs:List (Str×Value)}(e:h.get? d=some ob)(hl:ob.IsDictOf (skd Z w) kvs):h.DictOf (skd Z w) d kvs:=Heap.dictOf_iff.mpr ⟨ob,e,hl⟩
theorem skd_is(x:Str)(t:Tok):(skd Z w).is x (.str x t)=true:=by show Value.isStrOf x (.str x t)=true;simp[Value.isStrOf]
theorem ev_getO{e k:Expr}{pa pos:Pos}{d:Addr}{ob:Obj}{kvs:List (Str×Value)}{x:Str}{r:Value}(he:EvE Z w H0 n sc σ δ e (.v (.ref d)))(ho:(d,ob)∈δ)(hl:ob.IsDictOf (skd Z w) kvs)(lo:(d==sysModules)=false)(hk:EvE Z w H0 n sc σ δ k (.d (.str x)))(hr:(valueAt kvs x).getD .none=r)
  (hbase:∀V,attributeBase e "get" V (eval e V)=eval e V)(hline:(pa.endLine==pos.line)=true)(hs:∀V,starEach [k] V=[(false,eval k V)]):EvE Z w H0 n sc σ δ (.Call (.Attribute e "get" pa) [k] [] pos) (.v r):=by
 intro A V s η g o F;refine Call_method1 (hbase _) (hs V) hline (seqP (he A V s η g o F) fun u s₁ q=>?_);have e1:=q.val;subst e1;have F1:=F.ext q.ext;have hD:=dict_at (Z:=Z) (w:=w) (F1.ledg _ ho) hl;refine⟨"dict","dict.get",PySem.F.plainAttrs_dict,PySem.F.slot_dict_get,PySem.F.type_dict_get,hD.typeIs,hD.mapOf.noDict,?_⟩;refine callWith_builtin rfl (evalArgs_plain (spliced_cons (seqP (hk A V s₁ η g o F1) fun v s2 q2=>spliced_nil ?_)));obtain⟨t,rfl⟩:=rd_str q2.val;have F2:=F1.ext q2.ext;have hD2:=dict_at (Z:=Z) (w:=w) (F2.ledg _ ho) hl;refine call_meetsIn PySem.F.slot_dict_get hD2.typeIs PySem.F.entry_dict_get (PySem.F.args_dict_get_2 _ _) (meets_dict_get (skd Z w) d (skd_is x t) lo) ⟨_,hD2.mapOf,?_⟩;refine(q.trans q2).trans ⟨_,_,rfl,Ext.refl _,?_⟩;rw[←hr]
 rfl
theorem ev_itemO{e k:Expr}{pos:Pos}{d:Addr}{ob:Obj}{kvs:List (Str×Value)}{x:Str}{r:Value}(he:EvE Z w H0 n sc σ δ e (.v (.ref d)))(ho:(d,ob)∈δ)(hl:ob.IsDictOf (skd Z w) kvs)(hk:EvE Z w H0 n sc σ δ k (.d (.str x)))(hr:valueAt kvs x=some r)(hs:plainSlice k):
  EvE Z w H0 n sc σ δ (.Subscript e k pos) (.v r):=by
 intro A V s η g o F;refine PyProof.Rows.Subscript_ (seqP (he A V s η g o F) fun v s₁ q1=>seqP (hk A V s₁ η g o (F.ext q1.ext)) fun i s2 q2=>?_);obtain⟨t,rfl⟩:=rd_str q2.val;have e1:=q1.val;subst e1;have hD:=dict_at (Z:=Z) (w:=w) (((F.ext q1.ext).ext q2.ext).ledg _ ho) hl;exact tail_any hD.typeIs slot_dict_getitem.lookup (wpAny_getItem_of (knd:=skd Z w) (skd_is x t) hD.mapOf hr ((q1.trans q2).trans (Pu.tok rfl))) (hs _ _)
theorem tr_inO{e k:Expr}{pos:Pos}{d:Addr}{ob:Obj}{kvs:List (Str×Value)}{x:Str}(he:EvE Z w H0 n sc σ δ e (.v (.ref d)))(ho:(d,ob)∈δ)(hl:ob.IsDictOf (skd Z w) kvs)(lo:(d==sysModules)=false)(hk:EvE Z w H0 n sc σ δ k (.d (.str x)))(hm:behindInMarks .In e=false):
  TrP Z w H0 n sc σ δ (.Compare k [.In] [e] pos) (valueAt kvs x).isSome:=by
 intro A V s η g o F;refine wpAny_isTrue_Compare1 (seqP (hk A V s η g o F) fun a s₁ q1=>?_) hm;have F1:=F.ext q1.ext;refine seqP (he A V s₁ η g o F1) fun c s2 q2=>?_;have e1:=q2.val;subst e1;obtain⟨t,rfl⟩:=rd_str q1.val;have hD:=dict_at (Z:=Z) (w:=w) ((F1.ext q2.ext).ledg _ ho) hl;exact wpAny_in_of (knd:=skd Z w) (skd_is x t) lo hD.mapOf (wpAny_truthy_bool ((q1.trans q2).trans (Pu.tok rfl)))
end
section
variable{K:Frag}
def FnGc(Z:Program)(w:World)(H0:Heap)(n:Nat)(f:Value)(xs:List Ent)(L:Led)(Ψ:Heap->Value->Led->Prop):Prop:=
 ∀A s η vs,Good n A->Base H0 η s.heap->LedOk η L s.heap->MeansAll (vis s.heap η) vs xs->codeAny (model Z w) A (.call f ⟨vs,[]⟩) (fun r s'=>match r with|.ok (.ret v)=>CP H0 s η L Ψ v s'|_=>False) s
theorem FnGc.g{f:Value}{xs:List Ent}{L:Led}{Ψ:Heap->Value->Led->Prop}(h:FnGc Z w H0 n f xs L Ψ):FnG Z w H0 n f xs L Ψ:=fun A s η vs g B LO hm=>
 wpAny_call (codeAny_mono (h A s η vs g B LO hm) fun r s' z=>by
  rcases r with e|(v|_|_|_)<;> first|exact z|exact z.elim)
abbrev MethEv(e:Expr)(m:Str)(pa:Pos)(args:List Expr)(pos:Pos):Prop:=∀V,∃pl,eval (.Call (.Attribute e m pa) args [] pos) V=(do
 let ov ←eval e V
 standAt pa.atName
 let(f,first) ←holding [ov] (getMethod ov m pl)
 callWith pos f first (backTo pos (starEach args V)) [])
theorem gs_meth{e:Expr}{m:Str}{pa pos:Pos}{args:List Expr}{C x dx f:Addr}{sl:Array (Option Value)}{od:Obj}{fs:List (Str×Value)}{xs:List Ent}{L rest:Led}{Ψ:Heap->Value->Led->Prop}(hK:K.In H0)(c:DCls K C)(he:EvE Z w H0 n sc σ δ e (.v (.ref x)))(hx:(x,instD C dx sl)∈δ)(hd:(dx,od)∈δ)(hf:FD fs od)
  (hsh:fs.lookup m=none)(hm:findIn K (.ref C) m=some (some (.ref f)))(ht:typeIn K (.ref f)=some (.type "function"))(hc:Callee H0 (.ref f))(ha:EvsP Z w H0 n sc σ δ pos args xs)(hcall:FnG Z w H0 n (.ref f) (.v (.ref x)::xs) L Ψ)(hL:∀p∈L,p∈δ)(hr:∀p∈rest,p∈δ∧p.1∉L.map (·.1))
  (hb:∀V,(backTo pos (starEach args V)).any (·.1)=false)(hev:MethEv e m pa args pos):GS Z w H0 n sc σ δ (eval (.Call (.Attribute e m pa) args [] pos)) (fun g v σ' δ'=>σ'=σ∧∃L',Ψ g v L'∧δ'=L'++rest):=by
 intro A V s η g o F;obtain⟨pl,hpl⟩:=hev V;obtain⟨es,k,rfl,hes⟩:=hf;refine MethodCall_ (pl:=pl) (seqP (he A V s η g o F) fun u s₁ q=>?_) hpl;have e1:=q.val;subst e1;have F1:=F.ext q.ext;refine method_fn (fm_K hK F1) (inst_at (F1.ledg _ hx) (F1.ledg _ hd)) c.ga c.gn hm ht (by show(lookIn m (dictOf es k)).map _=_;rw[lookIn_dict,esfs_get m hes,hsh];rfl) ?_;refine callWith_P (V:=V) F1.toBase.h0 hc (hb V) (ha A V s₁ η g o F1) fun vs s2 q2=>?_;have F2:=F1.ext q2.ext;refine wpAny_mono (hcall A s2 η (.ref x::vs) g F2.toBase ⟨fun p hp=>F2.ledh p (hL p hp),fun p hp=>F2.ledg p (hL p hp)⟩ ⟨rfl,q2.val⟩) (fun v s3 q3=>?_) fun _ _ f=>f;exact GP.backP F q (GP.backP F1 q2 (GP.of_cp F2 hL hr q3))
theorem gs_callG{x:Str}{p pos:Pos}{args:List Expr}{f:Value}{xs:List Ent}{L rest:Led}{Ψ:Heap->Value->Led->Prop}(hf:EvE Z w H0 n sc σ δ (.Name x p) (.v f))(hc:Callee H0 f)(ha:EvsP Z w H0 n sc σ δ pos args xs)(hcall:FnG Z w H0 n f xs L Ψ)(hL:∀p∈L,p∈δ)(hr:∀p∈rest,p∈δ∧p.1∉L.map (·.1))
  (hb:∀V,(backTo pos (starEach args V)).any (·.1)=false):GS Z w H0 n sc σ δ (eval (.Call (.Name x p) args [] pos)) (fun g v σ' δ'=>σ'=σ∧∃L',Ψ g v L'∧δ'=L'++rest):=by
 intro A V s η g o F;refine Call_Name rfl (seqP (hf A V s η g o F) fun v s₁ q=>?_);have e1:=q.val;subst e1;have F1:=F.ext q.ext;refine callWith_P (V:=V) F1.toBase.h0 hc (hb V) (ha A V s₁ η g o F1) fun vs s2 q2=>?_;have F2:=F1.ext q2.ext;refine wpAny_mono (hcall A s2 η vs g F2.toBase ⟨fun p hp=>F2.ledh p (hL p hp),fun p hp=>F2.ledg p (hL p hp)⟩ q2.val) (fun v s3 q3=>?_) fun _ _ f=>f;exact GP.backP F q (GP.backP F1 q2 (GP.of_cp F2 hL hr q3))
theorem gt_expr{e:Expr}{pos:Pos}{Ψ:Heap->Value->Sto->Led->Prop}(h:GS Z w H0 n sc σ δ (eval e) Ψ)(hsw:∀V,swapsWith e none pos.line V=pure false):GT Z w H0 n sc σ δ (.Expr e pos) (fun g fl σ' δ'=>fl=.next∧∃v,Ψ g v σ' δ'):=by
 intro A V s η g o F;refine wpAny_Expr_any (wpAny_mono (h A V s η g o F) (fun v s' q=>?_) fun _ _ f=>f) (envOk_inter o) (hsw V);obtain⟨h',tk,η',σ',δ',e,k,F',m1,m2,m3,p⟩:=q;exact⟨h',tk,η',σ',δ',e,k,F',m1,m2,m3,rfl,v,p⟩
theorem gs_walrus{e:Expr}{y:Str}{py p1 p2:Pos}{k:Nat}{p3:Pos}{v:Value}(h:EvE Z w H0 n sc σ δ e (.v v))(hy:settable sc y)(hv:v=.none∨∃a,v=.ref a):
  GS Z w H0 n sc σ δ (fun V=>isTrue (.Compare (.NamedExpr (.Name y py) e p1) [.Is] [.Constant .none k p3] p2) V (eval (.Compare (.NamedExpr (.Name y py) e p1) [.Is] [.Constant .none k p3] p2) V)) (fun _ b σ' δ'=>b=decide (v=.none)∧σ'=(y,.v v)::σ∧δ'=δ):=by
 intro A V s η g o F;refine wpAny_isTrue_Compare1 ?_ rfl;show wpAny _ A (eval e V >>=fun u=>holding [u] (assign (.Name y py) V u) >>=fun _=>pure u) _ _ s;refine wpAny_bind (seqP (h A V s η g o F) fun u s₁ q=>?_);have e1:=q.val;subst e1;have F1:=F.ext q.ext;refine wpAny_bind (wpAny_holding (wpAny_mono (as_name (Z:=Z) (w:=w) (H0:=H0) (n:=n) (e:=.v u) hy A V s₁ η δ σ u g o F1 rfl) (fun _ s2 q2=>wpAny_pure ?_) fun _ _ f=>f));obtain⟨h2,t2,rfl,k2,F2⟩:=q2;refine(show wpAny _ A (pure Value.none) _ _ _ from wpAny_pure ?_);have fin:∀b:Bool,b=decide (u=.none)->GP H0 s η V δ (fun _ b σ' δ'=>b=decide (u=.none)∧σ'=(y,.v u)::σ∧δ'=δ) b {s₁ with heap:=h2,toks:=t2}:=fun b hb=>
  GP.backP F q ⟨h2,t2,η,_,δ,rfl,k2.more (places_own V δ _),F2,fun _ m=>m,fun _ m=>.inl m,fun p m=>.inl (mem_map_of_mem m),hb,rfl,rfl⟩
 rcases hv with rfl|⟨a,rfl⟩
 ·exact wpAny_is_self rfl (wpAny_truthy_bool (fin _ rfl))
 ·exact is_ref_none (wpAny_truthy_bool (fin _ rfl))
end
structure DefG(H0:Heap)(f:Addr)(fd:FuncData)(sc:Scope)(body:List Stmt):Prop where
 obj:∃o,H0.get? f=some o∧o.data=.func fd
 lim:H0.NoLimit
 rec':H0.CodeRec fd.code fd.qualname
 body:fd.body=.stmts body
 clo:fd.closure=[]
 scope:fd.scope=sc
 glob:fd.globals=mainGlobals
 bi:fd.builtins=builtinsNs
theorem DefG.callee{H0:Heap}{f:Addr}{fd:FuncData}{sc:Scope}{body:List Stmt}(D:DefG H0 f fd sc body):Callee H0 (.ref f):=let⟨_,a,b⟩:=D.obj;callee_fn a b
section
variable{x:Bool}
def BindP(Z:Program)(w:World)(H0:Heap)(fd:FuncData)(ps:List Str)(xs xs':List Ent):Prop:=
 ∀A s η vs,Base H0 η s.heap->MeansAll (vis s.heap η) vs xs->wpAny (model Z w) A (bindArgs fd ⟨vs,[]⟩) (Pu s η (fun g bs=>∃ws,bs=ps.zip ws∧MeansAll g ws xs')) NoE s
theorem bind_plain{fd:FuncData}{ps:List Str}{xs:List Ent}(h:∀vs:List Value,vs.length=ps.length->bindArgs fd ⟨vs,[]⟩=pure (ps.zip vs))(hl:xs.length=ps.length):BindP Z w H0 fd ps xs xs:=fun A s η vs B m=>by
 rw[h vs ((meansAll_f2e m).length.trans hl)];exact wpAny_pure (Pu.here ⟨vs,rfl,m⟩)
theorem enter_gen{f:Addr}{fd:FuncData}{ps:List Str}{body:List Stmt}{xs xs':List Ent}{L:Led}{A:Around}{s:Shared}{η:List Addr}{vs:List Value}{R:Result->Shared->Prop}(D:DefG H0 f fd sc body)(hb:BindP Z w H0 fd ps xs xs')(hsc:scopeOk sc ps=true)(hl:xs'.length=ps.length)
  (g:Good (n+1) A)(B:Base H0 η s.heap)(LO:LedOk η L s.heap)(hm:MeansAll (vis s.heap η) vs xs)
  (h:∀V h₁ t₁,EnvOk sc V->V.frame=some V.locals->Fm H0 (ownOf V []++η) L V (ps.zip xs') h₁->Ext s.heap h₁->(∀b∈ownOf V [],s.heap.get? b=none)->
   wpAny (model Z w) (A.deeper V) (execs body V) (fun fl s'=>R (.ok (.ret (match fl with|.ret v=>v|_=>.none))) s') (fun e s'=>wpAny (model Z w) (A.deeper V) (leaving V e) (fun _ s''=>R (.error e) s'') (fun e' s''=>R (.error e') s'') s') {s with heap:=h₁,toks:=t₁}):
  codeAny (model Z w) A (.call (.ref f) ⟨vs,[]⟩) R s:=by
 simp only[scopeOk,Bool.and_eq_true,decide_eq_true_eq,all_eq_true,Bool.not_eq_true'] at hsc;obtain⟨⟨⟨⟨⟨⟨⟨⟨hk,hco⟩,hge⟩,hnd⟩,hps⟩,hset⟩,hfree⟩,hcl⟩,hcl2⟩:=hsc;have hk:sc.kind=.function:=by simpa using hk
 obtain⟨oo,ho,hd⟩:=D.obj;have hnames:∀L,(cellsFrom L sc.names []).map (·.1)=(cellsFrom 0 sc.names []).map (·.1):=fun L=>cellsFrom_names sc.names L 0 [] [] rfl;have hsc':=D.scope;subst hsc';refine codeAny_call_function g.depth (B.h0 _ _ ho) hd hco hge D.body (D.rec'.keeps B.h0) ?_;refine wpAny_mono (hb A.in1 s η vs B hm) (fun bs s0 q=>?_) fun _ _ f=>f.elim;obtain⟨h₀,t0,rfl,ex0,ws,rfl,mw⟩:=q;have B0:Base H0 η h₀:=B.ext ex0;have LO0:LedOk η L h₀:=⟨LO.1,fun p hp=>ex0 _ _ (LO.2 p hp)⟩;have hlv:ws.length=ps.length:=(meansAll_f2e mw).length.trans hl;have hmem:∀p∈ps.zip ws,p.1∈ps:=fun p hp=>by
  obtain⟨a,b⟩:=p;exact(of_mem_zip hp).1
 rw[D.clo];refine wpAny_newFunctionEnv_cells hk ?_ fun V he s₁ X=>?_
 ·intro p hp
  have:=hset p.1 (hmem p hp);simp only[Bool.or_eq_true,beq_iff_eq] at this;rcases this with h1|h1
  ·exact .inl h1
  ·refine .inr ⟨h1,?_⟩
   rw[lookup_isSome_names (hnames _)];have:=hcl (p.1,.cell) (mem_of_lookup (l:=fd.scope.names) h1);simpa [h1] using this
 ·refine⟨D.lim.keeps (fun b o e=>X.toInCall.keep _ _ (B0.h0 _ _ e)),codeAny_func ?_⟩
  obtain⟨h₁,tk1,e1⟩:=X.toInCall.same;have keep:=X.toInCall.keep;have fr:∀a,h₀.objs.size≤a->h₀.get? a=none:=fun a ha=>by
   cases e:h₀.get? a with
   |none=>rfl
   |some o=>exact absurd (Heap.lt_size e) (Nat.not_lt.mpr ha)
  have hL:h₀.get? h₀.objs.size=none:=fr _ (Nat.le_refl _);have eL:V.locals=h₀.objs.size:=by rw[he];rfl
  have eF:V.frame=some V.locals:=by rw[he];rfl
  have eC:V.cells=cellsFrom (h₀.objs.size+1) fd.scope.names []:=by rw[he];rfl
  have eS:V.scope=fd.scope:=by rw[he];rfl
  have eG:V.globals=mainGlobals:=by rw[he];exact D.glob
  have eB:V.builtins=builtinsNs:=by rw[he];exact D.bi
  clear he;have hndc:(V.cells.map (·.1)).Nodup:=by rw[eC,hnames];exact hnd
  have o:EnvOk fd.scope V:=⟨eS,eG,eB,hk,fun x hx=>by
   rw[eC,lookup_isSome_names (hnames _)];rcases hx with hx|hx
   ·have:=hcl (x,.cell) (mem_of_lookup hx)
    simpa [hx] using this
   ·have:=hfree (x,.free) (mem_of_lookup hx)
    simp at this⟩
  have cellIs:∀p∈V.cells,s₁.heap.IsCell p.2 (bindC V.kindOf (ps.zip ws) (fun _=>none) p.1):=fun p hp=>X.cell p.1 p.2 (lookup_of_mem_nodup hndc hp);have ownNew:∀a∈ownOf V [],h₀.get? a=none:=fun a ha=>by
   rcases mem_cons.mp ha with rfl|ha
   ·rw[eL];exact hL
   ·simp only[map_nil,append_nil] at ha
    obtain⟨p,hp,rfl⟩:=mem_map.mp ha;have:=X.above p.1 p.2 hp;exact fr _ (Nat.le_of_lt (eL▸this))
  have gk:Ext (vis h₀ η) (vis s₁.heap (ownOf V []++η)):=vis_more keep ownNew;have hvn:((ps.zip ws).map (·.1))=ps:=by rw[List.map_fst_zip];omega
  have F:Fm H0 (ownOf V []++η) L V (ps.zip xs') s₁.heap:={
   base:=B0.base.trans gk
   alive:=fun a ha=>by
    rcases mem_append.mp ha with ha|ha
    ·rcases mem_cons.mp ha with rfl|ha
     ·obtain⟨o,_,_,e,_⟩:=X.toInCall.ns;exact⟨o,e⟩
     ·simp only[map_nil,append_nil] at ha
      obtain⟨p,hp,rfl⟩:=mem_map.mp ha;obtain⟨o,e,_⟩:=cellIs p hp;exact⟨o,e⟩
    ·obtain⟨o,e⟩:=B0.alive a ha;exact⟨o,keep _ _ e⟩
   loc:=by simp[ownOf]
   celh:=fun p hp=>mem_append_left _ (mem_cons_of_mem _ (mem_append_left _ (mem_map_of_mem hp)))
   ledh:=fun p hp=>mem_append_right _ (LO0.1 p hp)
   ns:=⟨_,X.toInCall.ns,fun y e hy hkl=>by
    obtain⟨v,mv,me⟩:=zip_lookup mw hy;exact⟨v,bindL_get hkl (by rw[hvn];exact hps) mv,me.ext gk⟩⟩
   cell:=fun y e hy hkc=>by
    obtain⟨v,mv,me⟩:=zip_lookup mw hy;have hkc':fd.scope.names.lookup y=some .cell:=by
     rw[Env.kindOf,eS] at hkc;rcases hkc with q|q
     ·exact q
     ·have:=hfree (y,.free) (mem_of_lookup q)
      simp at this
    obtain⟨c,hc⟩:=Option.isSome_iff_exists.mp (o.cells y (.inl hkc'));refine⟨c,v,hc,?_,me.ext gk⟩;have:=X.cell y c hc;rwa [bindC_get (by rw[Env.kindOf,eS,hkc'];decide) (by rw[hvn];exact hps) mv] at this
   cells:=fun p hp=>⟨_,cellIs p hp⟩
   ledg:=fun p hp=>keep _ _ (LO0.2 p hp)
   apart:=X.apart
   off:=fun p hp=>Nat.ne_of_gt (X.above p.1 p.2 hp)
   ledoff:=fun p hp=>by
    have a:=LO0.2 p hp;refine⟨fun q=>?_,fun c hc q=>?_⟩
    ·rw[q,ownNew _ mem_cons_self] at a;cases a
    ·rw[q,ownNew _ (mem_cons_of_mem _ (mem_append_left _ (mem_map_of_mem hc)))] at a;cases a}
  have keep':Ext h₀ s₁.heap:=keep;rw[e1] at F keep' ⊢;exact h V h₁ tk1 o eF F (fun b ob e=>keep' _ _ (ex0 _ _ e)) fun b m=>by
   have:=ownNew b m;cases q:s.heap.get? b with
   |none=>rfl
   |some ob=>rw[ex0 _ _ q] at this;cases this
end
def FkC(x:Bool)(A:Around)(ω:List Env)(η:List Addr)(h:Heap):Prop:=
 if x=true then (A.frames=some ω∧(∀e∈ω,e.scope.kind≠ .module∧e.frame=some e.locals)∧∀b∈frs ω,b∈η∧∃o,h.get? b=some o∧∀vs,o.data≠ .fields vs) else ω=[]
def CPf(H0:Heap)(s:Shared)(η:List Addr)(L:Led)(fr:List Addr)(Ψ:Heap->Value->Led->Prop)(v:Value)(s':Shared):Prop:=
 ∃h' tk η' L',s'={s with heap:=h',toks:=tk}∧KeepU (L.map (·.1)) fr s.heap h'∧Base H0 η' h'∧LedOk η' L' h'∧(∀b∈η,b∈η')∧
  (∀b∈η',b∈η∨s.heap.get? b=none)∧(∀p∈L',p.1∈L.map (·.1)∨s.heap.get? p.1=none)∧Ψ (vis h' η') v L'
theorem FkC.low{x:Bool}{A:Around}{ω:List Env}{η:List Addr}{h:Heap}(k:FkC x A ω η h):∀b∈frs ω,b∈η∧∃o,h.get? b=some o∧∀vs,o.data≠ .fields vs:=by
 cases x with
 |true=>
  have k':_∧_∧_:=k;exact k'.2.2
 |false=>intro b m;rw[show ω=[] from k] at m;cases m
section
variable{x:Bool}
def FnF(x:Bool)(Z:Program)(w:World)(H0:Heap)(n:Nat)(f:Value)(xs:List Ent)(L:Led)(Ψ:Heap->Value->Led->Prop):Prop:=
 ∀A ω s η vs,Good n A->Base H0 η s.heap->LedOk η L s.heap->FkC x A ω η s.heap->(∀b∈frs ω,b∉L.map (·.1))->MeansAll (vis s.heap η) vs xs->
  codeAny (model Z w) A (.call f ⟨vs,[]⟩) (fun r s'=>match r with|.ok (.ret v)=>CPf H0 s η L (frs ω) Ψ v s'|_=>False) s
theorem FnF.gc{f:Value}{xs:List Ent}{L:Led}{Ψ:Heap->Value->Led->Prop}(h:FnF false Z w H0 n f xs L Ψ):FnGc Z w H0 n f xs L Ψ:=fun A s η vs g B LO hm=>
 codeAny_mono (h A [] s η vs g B LO rfl (fun b m=>nomatch m) hm) fun r s' z=>by
  rcases r with e|(v|_|_|_)<;> first|exact z.elim|skip
  obtain⟨h',tk,η',L',e,k,r⟩:=z;exact⟨h',tk,η',L',e,k.but,r⟩
theorem Fk.enter{A:Around}{V:Env}{ω:List Env}{s:Shared}{η η':List Addr}{h₁:Heap}(o:EnvOk sc V)(eF:V.frame=some V.locals)(K:FkC x A ω η s.heap)(ex:Ext s.heap h₁)(hm:∀b∈η,b∈η'):Fk x (A.deeper V) V ω η' h₁:=by
 cases x with
 |true=>
  have k:_∧_∧_:=K;obtain⟨k1,k2,k3⟩:=k;exact(show FrOk (A.deeper V) V ω η' h₁ from⟨Around.frames_deeper k1,fun e he=>by
   rcases mem_cons.mp he with rfl|he
   ·exact⟨by rw[o.kf];decide,eF⟩
   ·exact k2 e he,fun b m=>by
   obtain⟨h1,ob,e,d⟩:=k3 b m;exact⟨hm b h1,ob,ex _ _ e,d⟩⟩)
 |false=>exact K
theorem off_enter{V:Env}{ω:List Env}{s:Shared}{L:Led}(hal:∀b∈frs ω,∃o,s.heap.get? b=some o)(hL:∀b∈frs ω,b∉L.map (·.1))(hnew:∀b∈ownOf V [],s.heap.get? b=none):Off2 ω V L:=fun b m hb=>by
 obtain⟨o,e⟩:=hal b m;have:b∈ownOf V []∨b∈L.map (·.1):=by
  rcases mem_cons.mp hb with rfl|hb
  ·exact .inl mem_cons_self
  ·rcases mem_append.mp hb with hb|hb
   ·exact .inl (mem_cons_of_mem _ (mem_append_left _ hb))
   ·exact .inr hb
 rcases this with q|q
 ·rw[hnew b q] at e;cases e
 ·exact hL b m q
theorem CPf.of_gpf{V:Env}{s:Shared}{η:List Addr}{L:Led}{fr:List Addr}{h₁:Heap}{t₁:Nat}{s':Shared}{fl:Flow}{v:Value}{Ψ:Heap->Value->Led->Prop}(ex:Ext s.heap h₁)(hnew:∀b∈ownOf V [],s.heap.get? b=none)
  (q:GPf H0 {s with heap:=h₁,toks:=t₁} (ownOf V []++η) V L fr (fun g _ _ δ'=>Ψ g v δ') fl s'):CPf H0 s η L fr Ψ v s':=by
 obtain⟨h2,t2,η2,σ2,L2,rfl,k2,F2,m1,m2,m3,p2⟩:=q;have back:∀b,h₁.get? b=none->s.heap.get? b=none:=fun b e=>by
  cases q:s.heap.get? b with
  |none=>rfl
  |some ob=>rw[ex b ob q] at e;cases e
 have own:∀b,b∈ownOf V L->b∈ownOf V []∨b∈L.map (·.1):=fun b hb=>by
  rcases mem_cons.mp hb with rfl|hb
  ·exact .inl mem_cons_self
  ·rcases mem_append.mp hb with hb|hb
   ·exact .inl (mem_cons_of_mem _ (mem_append_left _ hb))
   ·exact .inr hb
 refine⟨h2,t2,η2,L2,rfl,⟨fun b ob nb nf e=>k2.1 b ob (fun m=>?_) nf (ex b ob e),fun b m ob e d=>k2.2 b m ob (ex b ob e) d⟩,F2.toBase,⟨F2.ledh,F2.ledg⟩,fun b m=>m1 b (mem_append_right _ m),fun b m=>?_,fun p m=>(m3 p m).imp id (back _),p2⟩
 ·rcases own b m with q|q
  ·rw[hnew b q] at e;cases e
  ·exact nb q
 ·rcases m2 b m with m|m
  ·rcases mem_append.mp m with m|m
   ·exact .inr (hnew b m)
   ·exact .inl m
  ·exact .inr (back b m)
theorem fn_gen{f:Addr}{fd:FuncData}{ps:List Str}{body:List Stmt}{xs xs':List Ent}{L:Led}{Ψ:Heap->Value->Led->Prop}(D:DefG H0 f fd sc body)(hb:BindP Z w H0 fd ps xs xs')(hsc:scopeOk sc ps=true)(hl:xs'.length=ps.length)
  (h:HX x Z w H0 n sc (ps.zip xs') L body (fun g fl _ δ'=>Ψ g (match fl with|.ret v=>v|_=>.none) δ')):FnF x Z w H0 (n+1) (.ref f) xs L Ψ:=by
 intro A ω s η vs g B LO K hO hm;refine enter_gen D hb hsc hl g B LO hm fun V h₁ t₁ o eF F ex hnew=>?_;have lo:=K.low;refine wpAny_mono (h _ V ω _ _ g.deeper o F (Fk.enter o eF K ex fun b m=>mem_append_right _ m) (off_enter (fun b m=>(lo b m).2.imp fun _ q=>q.1) hO hnew)) (fun fl s' q=>?_) fun _ _ f=>f.elim;cases fl with
 |ret v=>exact CPf.of_gpf (fl:=.ret v) (v:=v) ex hnew q
 |next=>exact CPf.of_gpf (fl:=.next) (v:=.none) ex hnew q
 |brk=>exact CPf.of_gpf (fl:=.brk) (v:=.none) ex hnew q
 |cont=>exact CPf.of_gpf (fl:=.cont) (v:=.none) ex hnew q
end
theorem Good.tc{n:Nat}{A:Around}{C:Addr}{vs:List Value}(g:Good (n+1) A):Good n (A.under (.builtin "type.__call__" ⟨.ref C::vs,[]⟩)):=⟨g.hh,by
 have:=g.dep;have e:(A.under (.builtin "type.__call__" ⟨.ref C::vs,[]⟩)).depth=A.depth+1:=rfl;rw[e];omega,by
 have:=g.unt;show A.units+1+8*n+200<_;omega⟩
section
variable{K:Frag}
theorem callee_cls{C:Addr}(hK:K.In H0)(h:makesIn K C=true):Callee H0 (.ref C):=fun M h' e=>by
 have Y:=makes_of (M:=M) (hK.keeps e) h;obtain⟨⟨oc,od,cd,sl,hC,_⟩,_,_,_,_,call,_⟩:=Y;refine⟨.machine,.inr (.inl rfl),(Looks.ld (part:=none) hC).andThen ?_⟩;exact call.andThen (by simp;exact .now)
theorem gs_new{x:Str}{p pos:Pos}{args:List Expr}{C fI:Addr}{xs:List Ent}{Θ:Addr->Addr->Led->Prop}(hK:K.In H0)(hmk:makesIn K C=true)(hi:findIn K (.ref C) "__init__"=some (some (.ref fI)))(hft:typeIn K (.ref fI)=some (.type "function"))
  (hg:EvE Z w H0 (n+1) sc σ δ (.Name x p) (.v (.ref C)))(ha:EvsP Z w H0 (n+1) sc σ δ pos args xs)
  (hinit:∀a d,d≠a->FnGc Z w H0 n (.ref fI) (.v (.ref a)::xs) [(a,instD C d #[]),(d,emptyDict)] (fun _ v L'=>v=.none∧Θ a d L'))
  (hb:∀V,(backTo pos (starEach args V)).any (·.1)=false):
  GS Z w H0 (n+1) sc σ δ (eval (.Call (.Name x p) args [] pos)) (fun g v σ' δ'=>σ'=σ∧∃a d L',v=.ref a∧(Θ a d L'∧∀p∈δ,∀q∈L',p.1≠q.1)∧δ'=L'++δ):=by
 intro A V s η g o F;refine Call_Name rfl (seqP (hg A V s η g o F) fun v s₁ q=>?_);have e1:=q.val;subst e1;have F1:=F.ext q.ext;refine callWith_P (V:=V) F1.toBase.h0 (callee_cls hK hmk) (hb V) (ha A V s₁ η g o F1) fun vs s2 q2=>?_;have F2:=F1.ext q2.ext;obtain⟨hh,gn,d,t,os⟩:=s2;have Y:=makes_of (M:=model Z w) (fm_K hK F2) hmk;have ex:Ext hh ((hh.push emptyDict).push (instObj C hh.objs.size)):=(ext_push _ _).trans (ext_push _ _);have hsz:(hh.push emptyDict).objs.size=hh.objs.size+1:=Heap.size_push ..;have n0:hh.get? hh.objs.size=none:=fresh_of (Nat.le_refl _);have n1:hh.get? (hh.objs.size+1)=none:=fresh_of (Nat.le_succ _);have a0:((hh.push emptyDict).push (instObj C hh.objs.size)).get? hh.objs.size=some emptyDict:=Heap.get?_push_of_some _ (Heap.get?_push_size _ rfl);have a1:((hh.push emptyDict).push (instObj C hh.objs.size)).get? (hh.objs.size+1)=some (instD C hh.objs.size #[]):=by
  have:=Heap.get?_push_size (hh.push emptyDict) (o:=instObj C hh.objs.size) rfl;rwa [hsz] at this
 let L:Led:=[(hh.objs.size+1,instD C hh.objs.size #[]),(hh.objs.size,emptyDict)]
 have hLn:∀p∈L,hh.get? p.1=none:=fun p hp=>by
  rcases mem_cons.mp hp with rfl|hp
  ·exact n1
  ·rw[mem_singleton.mp hp];exact n0
 have hLa:∀p∈L,((hh.push emptyDict).push (instObj C hh.objs.size)).get? p.1=some p.2:=fun p hp=>by
  rcases mem_cons.mp hp with rfl|hp
  ·exact a1
  ·rw[mem_singleton.mp hp];exact a0
 have F3:Fm H0 (L.map (·.1)++η) δ V σ ((hh.push emptyDict).push (instObj C hh.objs.size)):=F2.more ex (fun b m=>by
   obtain⟨p,hp,rfl⟩:=mem_map.mp m;exact hLn p hp) fun b m=>by
   obtain⟨p,hp,rfl⟩:=mem_map.mp m;exact⟨_,hLa p hp⟩
 have nl:∀p∈L,p.1≠V.locals:=fun p hp q=>by
  obtain⟨m,⟨oo,es,ep,e1,r⟩,_⟩:=F2.ns;have:=hLn p hp;rw[q] at this;have e1':hh.get? V.locals=some oo:=e1;rw[e1'] at this;cases this
 have nc:∀p∈L,∀c∈V.cells,p.1≠c.2:=fun p hp c hc q=>by
  obtain⟨v,oo,e1,_⟩:=F2.cells c hc;have:=hLn p hp;rw[q] at this;have e1':hh.get? c.2=some oo:=e1;rw[e1'] at this;cases this
 have F4:Fm H0 (L.map (·.1)++η) (L++δ) V σ ((hh.push emptyDict).push (instObj C hh.objs.size)):={F3 with
  ledh:=fun p hp=>by
   rcases mem_append.mp hp with hp|hp
   ·exact mem_append_left _ (mem_map_of_mem (f:=(·.1)) hp)
   ·exact F3.ledh p hp
  ledg:=fun p hp=>by
   rcases mem_append.mp hp with hp|hp
   ·exact hLa p hp
   ·exact F3.ledg p hp
  ledoff:=fun p hp=>by
   rcases mem_append.mp hp with hp|hp
   ·exact⟨nl p hp,nc p hp⟩
   ·exact F3.ledoff p hp}
 have hrest:∀p∈δ,p∈L++δ∧p.1∉L.map (·.1):=fun p hp=>⟨mem_append_right _ hp,fun m=>by
  obtain⟨p',hp',e⟩:=mem_map.mp m;have:=hLn p' hp';rw[e] at this;have e1:hh.get? p.1=some p.2:=F2.ledg p hp;rw[e1] at this;cases this⟩
 have mv:MeansAll (vis ((hh.push emptyDict).push (instObj C hh.objs.size)) (L.map (·.1)++η)) (.ref (hh.objs.size+1)::vs) (.v (.ref (hh.objs.size+1))::xs):=⟨rfl,MeansAll.ext (vis_more ex fun b m=>by
  obtain⟨p,hp,rfl⟩:=mem_map.mp m;exact hLn p hp) q2.val⟩
 show wpAny _ A (call (.ref C) vs) _ _ _;refine wpAny_call (make_core (init:=.ref fI) Y (looks_findIn (fm_K hK F2) hi) (fun self=>bind_fn (fm_K hK F2) self hft) (.inl rfl) ?_);refine codeAny_mono (hinit (hh.objs.size+1) hh.objs.size (Nat.ne_of_lt (Nat.lt_succ_self _)) _ ⟨(hh.push emptyDict).push (instObj C hh.objs.size),gn,d,t,os⟩ (L.map (·.1)++η) (.ref (hh.objs.size+1)::vs) g.tc F4.toBase ⟨fun p hp=>F4.ledh p (mem_append_left _ hp),hLa⟩ mv) fun r s' z=>?_;cases r with
 |error e=>exact z.elim
 |ok fl=>
  cases fl with
  |next=>exact z.elim
  |brk=>exact z.elim
  |cont=>exact z.elim
  |ret v=>
   have hv:v=.none:=by
    obtain⟨_,_,_,_,_,_,_,_,_,_,_,p⟩:=z;exact p.1
   refine⟨hv,?_⟩;have z':CP H0 ⟨(hh.push emptyDict).push (instObj C hh.objs.size),gn,d,t,os⟩ (L.map (·.1)++η) L (fun _ v L'=>v=.none∧(Θ (hh.objs.size+1) hh.objs.size L'∧∀p∈δ,∀q∈L',p.1≠q.1)) v s':=by
    obtain⟨h',tk,η',L',e,k,B,LO,m1,m2,m3,p⟩:=z;refine⟨h',tk,η',L',e,k,B,LO,m1,m2,m3,p.1,p.2,fun p hp q hq e=>?_⟩;have ep:hh.get? p.1=some p.2:=F2.ledg p hp;rcases m3 q hq with m|m
    ·obtain⟨p',hp',e'⟩:=mem_map.mp m
     have:=hLn p' hp';rw[e',←e,ep] at this;cases this
    ·have:=ex _ _ ep
     rw[e] at this;rw[show(((hh.push emptyDict).push (instObj C hh.objs.size)).get? q.1)=none from m] at this;cases this
   have gp:=GP.of_cp F4 (fun p hp=>mem_append_left _ hp) hrest z';have gp2:GP H0 ⟨(hh.push emptyDict).push (instObj C hh.objs.size),gn,d,t,os⟩ (L.map (·.1)++η) V (L++δ) (fun g (v:Value) σ' δ'=>σ'=σ∧∃a d L',v=Value.ref a∧(Θ a d L'∧∀p∈δ,∀q∈L',p.1≠q.1)∧δ'=L'++δ) (Value.ref (hh.objs.size+1)) s':=by
    obtain⟨h',tk,η',σ',δ',e,k,F',m1,m2,m3,e2,L',p,e3⟩:=gp;exact⟨h',tk,η',σ',δ',e,k,F',m1,m2,m3,e2,_,_,L',rfl,p.2,e3⟩
   refine GP.backP F q (GP.backP F1 q2 ?_);exact GP.glue (t₁:=t) F2 (ex.keep _) F4 (fun _ m=>mem_append_right _ m) (fun b m=>by
    rcases mem_append.mp m with m|m
    ·obtain⟨p,hp,rfl⟩:=mem_map.mp m;exact .inr (hLn p hp)
    ·exact .inl m) (fun p hp=>by
    rcases mem_append.mp hp with hp|hp
    ·exact .inr (hLn p hp)
    ·exact .inl (mem_map_of_mem hp)) gp2
end
def LO(vs:List Value)(o:Obj):Prop:=∃k,o=W.listOf (toArray vs) k
theorem ownL_lo{ds:List PyData}{o:Obj}:OwnL ds o↔∃vs,LO vs o∧F2 (fun v d=>Flt d v) vs ds:=⟨fun⟨vs,k,e,f⟩=>⟨vs,⟨k,e⟩,f⟩,fun⟨vs,⟨k,e⟩,f⟩=>⟨vs,k,e,f⟩⟩
theorem GP.next{H0:Heap}{s s':Shared}{η:List Addr}{V:Env}{δ:Led}{α β:Type}{Ψ:Heap->α->Sto->Led->Prop}{Φ:Heap->β->Sto->Led->Prop}{a:α}{b:β}(x:GP H0 s η V δ Ψ a s')(h:∀g σ' δ',Ψ g a σ' δ'->Φ g b σ' δ'):GP H0 s η V δ Φ b s':=by
 obtain⟨h',tk,η',σ',δ',e,k,F,m1,m2,m3,p⟩:=x;exact⟨h',tk,η',σ',δ',e,k,F,m1,m2,m3,h _ _ _ p⟩
section
variable{K:Frag}
theorem lo_push{vs:List Value}{v:Value}{k:Nat}:Obj.mapSeq (fun xs=>xs.push v) (W.listOf (toArray vs) k)=W.listOf (toArray (vs++[v])) (k+1):=by simp[Obj.mapSeq]
theorem gt_appendM{e arg:Expr}{pa pos pos':Pos}{a:Addr}{ob:Obj}{vs:List Value}{Ψ:Heap->Value->Sto->Led->Prop}(he:EvE Z w H0 n sc σ δ e (.v (.ref a)))(ho:(a,ob)∈δ)(hl:LO vs ob)(harg:GS Z w H0 n sc σ δ (eval arg) Ψ)
  (hk:∀g v σ₁ δ₁,Ψ g v σ₁ δ₁->(a,ob)∈δ₁)(hz:vs.length≤sizeLine)
  (hbase:∀V,attributeBase e "append" V (eval e V)=eval e V)(hline:(pa.endLine==pos.line)=true)(hs:∀V,starEach [arg] V=[(false,eval arg V)])(hsw:∀V,swapsWith (.Call (.Attribute e "append" pa) [arg] [] pos) none pos'.line V=pure false):
  GT Z w H0 n sc σ δ (.Expr (.Call (.Attribute e "append" pa) [arg] [] pos) pos') (fun _ fl σ' δ'=>fl=.next∧∃g1 v δ₁ o',Ψ g1 v σ' δ₁∧LO (vs++[v]) o'∧δ'=setLed a o' δ₁):=by
 intro A V s η g oo F;obtain⟨k,rfl⟩:=hl;refine wpAny_Expr_any ?_ (envOk_inter oo) (hsw V);refine Call_method1 (hbase _) (hs V) hline (seqP (he A V s η g oo F) fun u s₁ q=>?_);have e1:=q.val;subst e1;have F1:=F.ext q.ext;refine⟨"list","list.append",PySem.F.plainAttrs_list,PySem.F.slot_list_append,PySem.F.type_list_append,⟨_,F1.ledg _ ho,rfl⟩,(fun b e=>by injection e with e;subst e;exact⟨_,F1.ledg _ ho,rfl⟩),?_⟩;refine P.append_list (wpAny_mono (harg A V s₁ η g oo F1) (fun v s2 q2=>?_) fun _ _ f=>f);obtain⟨η2,σ2,δ2,F2,p2,_,back2⟩:=GP.back (α:=Flow) F1 q2;have ho2:=hk _ _ _ _ p2;refine⟨toArray vs,k,by simpa using hz,F2.ledg _ ho2,?_⟩;exact GP.backP F q (back2 _ _ _ (GP.upd F2 ho2 (by rw[lo_push];rfl) ⟨rfl,_,v,δ2,_,p2,⟨k+1,lo_push⟩,rfl⟩))
theorem gt_clearM{e:Expr}{pa pos pos':Pos}{a:Addr}{ob:Obj}{vs:List Value}(he:EvE Z w H0 n sc σ δ e (.v (.ref a)))(ho:(a,ob)∈δ)(hl:LO vs ob)(hz:vs.length≤sizeLine)
  (hbase:∀V,attributeBase e "clear" V (eval e V)=eval e V)(hline:(pa.endLine==pos.line)=true)(hsw:∀V,swapsWith (.Call (.Attribute e "clear" pa) [] [] pos) none pos'.line V=pure false):
  GT Z w H0 n sc σ δ (.Expr (.Call (.Attribute e "clear" pa) [] [] pos) pos') (fun _ fl σ' δ'=>fl=.next∧σ'=σ∧∃o',LO [] o'∧δ'=setLed a o' δ):=by
 intro A V s η g oo F;obtain⟨k,rfl⟩:=hl;refine wpAny_Expr_any ?_ (envOk_inter oo) (hsw V);refine Call_method0 (hbase _) hline (seqP (he A V s η g oo F) fun u s₁ q=>?_);have e1:=q.val;subst e1;have F1:=F.ext q.ext;refine⟨"list","list.clear",PySem.F.plainAttrs_list,PySem.F.slot_list_clear,PySem.F.type_list_clear,⟨_,F1.ledg _ ho,rfl⟩,(fun b e=>by injection e with e;subst e;exact⟨_,F1.ledg _ ho,rfl⟩),?_⟩;refine P.clear_list (n:=k) (F1.ledg _ ho) ?_ (by simpa using hz);exact GP.backP F q (GP.upd F1 ho rfl ⟨rfl,rfl,_,⟨_,rfl⟩,rfl⟩)
theorem isDict_empty:(emptyDict).IsDictOf (skd Z w) []:=⟨#[],0,⟨rfl,rfl,rfl⟩,rfl,fun e he=>by simp at he,.nil,by simp⟩
def NewPA(Z:Program)(w:World)(H0:Heap)(n:Nat)(sc:Scope)(σ:Sto)(δ:Led)(e:Expr)(Q:Addr->Obj->Prop):Prop:=
 ∀A V s η,Good n A->EnvOk sc V->Fm H0 η δ V σ s.heap->wpAny (model Z w) A (eval e V) (fun v s'=>∃h' tk a o,s'={s with heap:=h',toks:=tk}∧Ext s.heap h'∧v=.ref a∧h'.get? a=some o∧s.heap.get? a=none∧Q a o) NoE s
theorem above_sys{hm:∃o,H0.get? mainGlobals=some o}{η:List Addr}{h:Heap}(B:Base H0 η h):(h.objs.size==sysModules)=false:=by
 obtain⟨o,q⟩:=hm;have:mainGlobals<h.objs.size:=Heap.lt_size (B.h0 _ _ q);have h3:(3:Nat)<h.objs.size:=this;exact beq_eq_false_iff_ne.mpr (fun e=>by have e:h.objs.size=1:=e;omega)
theorem new_dictA{pos:Pos}(hm:∃o,H0.get? mainGlobals=some o):NewPA Z w H0 n sc σ δ (.Dict [] [] pos) (fun a o=>o=emptyDict∧(a==sysModules)=false):=by
 intro A V s η g o F;refine wpAny_Dict_empty ⟨_,_,_,_,rfl,ext_push _ _,rfl,Heap.get?_push_size _ rfl,fresh_of (Nat.le_refl _),rfl,above_sys (hm:=hm) F.toBase⟩
theorem gs_newHA{e:Expr}{Q:Addr->Obj->Prop}(h:NewPA Z w H0 n sc σ δ e Q):GS Z w H0 n sc σ δ (eval e) (fun _ v σ' δ'=>σ'=σ∧∃a o,v=.ref a∧Q a o∧δ'=(a,o)::δ∧(∀p∈δ,p.1≠a)∧∀b o,H0.get? b=some o->a≠b):=by
 intro A V s η g o F;refine wpAny_mono (h A V s η g o F) (fun v s₁ q=>?_) fun _ _ f=>f;obtain⟨h₁,t₁,a,ob,rfl,ex,rfl,ha,hn,hq⟩:=q;have F1:Fm H0 ([a]++η) δ V σ h₁:=F.more ex (fun b m=>by rw[mem_singleton.mp m];exact hn) fun b m=>by rw[mem_singleton.mp m];exact⟨ob,ha⟩
 have nl:a≠V.locals:=fun q=>by obtain⟨m,⟨oo,es,ep,e1,r⟩,_⟩:=F.ns;rw[←q,hn] at e1;cases e1
 have nc:∀q∈V.cells,a≠q.2:=fun q hq e=>by obtain⟨v,oo,e1,_⟩:=F.cells q hq;rw[←e,hn] at e1;cases e1
 have F2:Fm H0 ([a]++η) ((a,ob)::δ) V σ h₁:={F1 with
  ledh:=fun p hp=>by
   rcases mem_cons.mp hp with rfl|hp
   ·exact mem_cons_self
   ·exact F1.ledh p hp
  ledg:=fun p hp=>by
   rcases mem_cons.mp hp with rfl|hp
   ·exact ha
   ·exact F1.ledg p hp
  ledoff:=fun p hp=>by
   rcases mem_cons.mp hp with rfl|hp
   ·exact⟨nl,nc⟩
   ·exact F1.ledoff p hp}
 refine⟨h₁,t₁,[a]++η,σ,(a,ob)::δ,rfl,ex.keep _,F2,fun b m=>mem_append_right _ m,fun b m=>?_,fun p hp=>?_,rfl,a,ob,rfl,hq,rfl,fun p hp e=>?_,fun b o' e q=>?_⟩
 ·rcases mem_append.mp m with m|m
  ·rw[mem_singleton.mp m];exact .inr hn
  ·exact .inl m
 ·rcases mem_cons.mp hp with rfl|hp
  ·exact .inr hn
  ·exact .inl (mem_map_of_mem hp)
 ·have:=F.ledg p hp
  rw[e,hn] at this;cases this
 ·have:=F.toBase.h0 _ _ e
  rw[←q,hn] at this;cases this
theorem gs_newH{e:Expr}{Q:Obj->Prop}(h:NewP Z w H0 n sc σ δ e Q):GS Z w H0 n sc σ δ (eval e) (fun _ v σ' δ'=>σ'=σ∧∃a o,v=.ref a∧Q o∧δ'=(a,o)::δ∧(∀p∈δ,p.1≠a)∧∀b o,H0.get? b=some o->a≠b):=gs_newHA (Q:=fun _=>Q) h
theorem gs_newP{e:Expr}{Q:Obj->Prop}(h:NewP Z w H0 n sc σ δ e Q):GS Z w H0 n sc σ δ (eval e) (fun _ v σ' δ'=>σ'=σ∧∃a o,v=.ref a∧Q o∧δ'=(a,o)::δ∧(∀p∈δ,p.1≠a)):=gs_mono (gs_newH h) fun _ _ _ _ ⟨e,a,o,p1,p2,p3,p4,_⟩=>⟨e,a,o,p1,p2,p3,p4⟩
theorem setItem_gp{α:Type}{s:Shared}{η:List Addr}{V:Env}{d:Addr}{ob:Obj}{h':Heap}{tk:Nat}{kvs:List (Str×Value)}{Ψ:Heap->α->Sto->Led->Prop}{r:α}(F:Fm H0 η δ V σ s.heap)(ho:(d,ob)∈δ)(hD:h'.DictOf (skd Z w) d kvs)(hsb:Heap.SameBut d s.heap h')
  (h:∀g o',o'.IsDictOf (skd Z w) kvs->Ψ g r σ (setLed d o' δ)):GP H0 s η V δ Ψ r {s with heap:=h',toks:=tk}:=by
 obtain⟨o',e',hi⟩:=Heap.dictOf_iff.mp hD;exact GP.mut F ho (sameBut_keep hsb) e' (h _ _ hi)
theorem gt_setItem{e k value:Expr}{p pos:Pos}{d:Addr}{ob:Obj}{kvs:List (Str×Value)}{x:Str}{Ψ:Heap->Value->Sto->Led->Prop}(hv:GS Z w H0 n sc σ δ (eval value) Ψ)
  (hr:∀g v σ₁ δ₁,Ψ g v σ₁ δ₁->EvE Z w H0 n sc σ₁ δ₁ e (.v (.ref d))∧EvE Z w H0 n sc σ₁ δ₁ k (.d (.str x))∧(d,ob)∈δ₁)(hl:ob.IsDictOf (skd Z w) kvs)(hz:kvs.length≤sizeLine)(hs:∀V,swapsWith value (some (.Subscript e k p)) pos.line V=pure false):
  GT Z w H0 n sc σ δ (.Assign [.Subscript e k p] value pos) (fun _ fl σ' δ'=>fl=.next∧∃g1 v δ₁ o',Ψ g1 v σ' δ₁∧o'.IsDictOf (skd Z w) (stored kvs x v)∧δ'=setLed d o' δ₁):=by
 intro A V s η g o F;refine wpAny_Assign_Subscript (env:=V) (wpAny_mono (hv A V s η g o F) (fun v s₁ q=>?_) fun _ _ f=>f) (hs V);obtain⟨η1,σ₁,δ₁,F1,p1,_,back1⟩:=GP.back (α:=Flow) F q;obtain⟨he,hk,ho⟩:=hr _ _ _ _ p1;refine seqP (he A V s₁ η1 g o F1) fun u s2 q2=>?_;have e2:=q2.val;subst e2;have F2:=F1.ext q2.ext;refine seqP (hk A V s2 η1 g o F2) fun u s3 q3=>?_;obtain⟨t,rfl⟩:=rd_str q3.val;have F3:=F2.ext q3.ext;refine wpAny_setItem_pairs (knd:=skd Z w) (skd_is x t) (dict_at (F3.ledg _ ho) hl) (fun h' hD hsb=>?_) hz;exact back1 _ _ _ (GP.backP F1 q2 (GP.backP F2 q3 (setItem_gp F3 ho hD hsb fun _ o' hi=>⟨rfl,_,v,δ₁,o',p1,hi,rfl⟩)))
theorem gt_setItem2{e k value:Expr}{y:Str}{p py pos:Pos}{d:Addr}{ob:Obj}{kvs:List (Str×Value)}{x:Str}{Ψ:Heap->Value->Sto->Led->Prop}(hv:GS Z w H0 n sc σ δ (eval value) Ψ)
  (hr:∀g v σ₁ δ₁,Ψ g v σ₁ δ₁->EvE Z w H0 n sc σ₁ δ₁ e (.v (.ref d))∧EvE Z w H0 n sc σ₁ δ₁ k (.d (.str x))∧(d,ob)∈δ₁)(hl:ob.IsDictOf (skd Z w) kvs)(hz:kvs.length≤sizeLine)(hy:settable sc y)
  (hw:∀V,EnvOk sc V->swappedStores [.Subscript e k p,.Name y py] value V=pure none):
  GT Z w H0 n sc σ δ (.Assign [.Subscript e k p,.Name y py] value pos) (fun _ fl σ' δ'=>fl=.next∧∃g1 v σ₁ δ₁ o',Ψ g1 v σ₁ δ₁∧o'.IsDictOf (skd Z w) (stored kvs x v)∧σ'=(y,.v v)::σ₁∧δ'=setLed d o' δ₁):=by
 intro A V s η g o F;show wpAny _ A (standAt pos >>=fun _=>swapsWithSole [.Subscript e k p,.Name y py] value pos.line V >>=fun b=>if b=true then _ else _) _ _ s;refine wpAny_bind (wpAny_standAt (wpAny_bind ?_));show wpAny _ A (pure false) _ _ s;refine wpAny_pure ?_;rw[if_neg Bool.false_ne_true];refine wpAny_bind (wpAny_mono (hv A V s η g o F) (fun v s₁ q=>?_) fun _ _ f=>f);obtain⟨η1,σ₁,δ₁,F1,p1,_,back1⟩:=GP.back (α:=Flow) F q;obtain⟨he,hk,ho⟩:=hr _ _ _ _ p1;refine wpAny_bind ?_;rw[hw V o];refine wpAny_pure ?_;show wpAny _ A (assignAll v [assign (.Subscript e k p) V,assign (.Name y py) V] >>=fun _=>pure Flow.next) _ _ s₁;refine wpAny_bind ?_;show wpAny _ A (holding [v] (assign (.Subscript e k p) V v) >>=fun _=>assign (.Name y py) V v) _ _ s₁;refine wpAny_bind (wpAny_holding ?_);rw[assign_Subscript];refine wpAny_bind (wpAny_holding (seqP (he A V s₁ η1 g o F1) fun u s2 q2=>?_));have e2:=q2.val;subst e2;have F2:=F1.ext q2.ext;refine wpAny_bind (wpAny_holding (seqP (hk A V s2 η1 g o F2) fun u s3 q3=>?_));obtain⟨t,rfl⟩:=rd_str q3.val;have F3:=F2.ext q3.ext;refine wpAny_bind (wpAny_standAt (wpAny_bind (wpAny_holding (wpAny_setItem_pairs (knd:=skd Z w) (skd_is x t) (dict_at (F3.ledg _ ho) hl) (fun h' hD hsb=>?_) hz))));refine wpAny_release ?_;obtain⟨o',e',hi⟩:=Heap.dictOf_iff.mp hD;have gp:GP H0 s3 η1 V δ₁ (fun _ (_:Unit) σ' δ'=>σ'=σ₁∧δ'=setLed d o' δ₁) () {s3 with heap:=h',toks:=s3.toks+1}:=GP.mut F3 ho (sameBut_keep hsb) e' ⟨rfl,rfl⟩;obtain⟨η4,σ4,δ4,F4,⟨rfl,rfl⟩,_,back4⟩:=GP.back (α:=Flow) F3 gp;refine wpAny_mono (as_name (Z:=Z) (w:=w) (H0:=H0) (n:=n) (e:=.v v) hy A V _ η4 _ σ4 v g o F4 rfl) (fun _ s5 q5=>wpAny_pure ?_) fun _ _ f=>f;obtain⟨h5,t5,rfl,k5,F5⟩:=q5;exact back1 _ _ _ (GP.backP F1 q2 (GP.backP F2 q3 (back4 _ _ _ ⟨h5,t5,η4,_,_,rfl,k5.more (places_own V _ _),F5,fun _ m=>m,fun _ m=>.inl m,fun p m=>.inl (mem_map_of_mem m),rfl,_,v,σ4,δ₁,o',p1,hi,rfl,rfl⟩)))
end
abbrev NM:=List Nat
inductive Pl where
 |S|dS|D|R
 |I(x:NM)|e(x:NM)|T(x:NM)
 deriving DecidableEq
structure Rep where
 at':Pl->Addr
 names:List NM
 np:NM->Int
 succ:NM->List NM
 ready:Option (List NM)
 passed:Int
 fin:Int
def Rep.ok(r:Rep):Pl->Prop
 |.R=>r.ready.isSome=true
 |.I x|.e x|.T x=>x∈r.names
 |_=>True
def dNs(xs:List NM):List PyData:=xs.map fun x=>.str (tx x)
def Rep.rv(r:Rep):Value:=match r.ready with|none=>.none|some _=>.ref (r.at' .R)
def Rep.fields(r:Rep)(t1 t2:Tok):List (Str×Value):=[(S "_node2info",.ref (r.at' .D)),(S "_ready_nodes",r.rv),(S "_npassedout",.int r.passed t1),(S "_nfinished",.int r.fin t2)]
structure Cls2 where
 C1:Addr
 C2:Addr
section
variable(Z:Program)(w:World)(c:Cls2)
def Rep.shape(r:Rep)(o:Obj):Pl->Prop
 |.S=>o=instD c.C1 (r.at' .dS) #[]
 |.dS=>∃t1 t2,FD (r.fields t1 t2) o
 |.D=>o.IsDictOf (skd Z w) (r.names.map fun x=>(tx x,.ref (r.at' (.I x))))
 |.R=>OwnL (dNs (r.ready.getD [])) o
 |.I x=>∃t1 t2,o=instD c.C2 (r.at' (.e x)) #[some (.str (tx x) t1),some (.int (r.np x) t2),some (.ref (r.at' (.T x)))]
 |.e _=>True
 |.T x=>OwnL (dNs (r.succ x)) o
structure RepOk(r:Rep)(L:Led):Prop where
 hold:∀p,r.ok p->∃o,(r.at' p,o)∈L∧r.shape Z w c o p
 apart:∀p q,r.ok p->r.ok q->r.at' p=r.at' q->p=q
 lo:(r.at' .D==sysModules)=false
end
theorem mem_setLed_ne{a b:Addr}{o o':Obj}{δ:Led}(h:(b,o)∈δ)(hn:b≠a):(b,o)∈setLed a o' δ:=mem_cons_of_mem _ (mem_filter.mpr ⟨h,by simpa using hn⟩)
theorem mem_setLed_self{a:Addr}{o':Obj}{δ:Led}:(a,o')∈setLed a o' δ:=mem_cons_self
section
variable{Z:Program}{w:World}{c:Cls2}{r r':Rep}{L:Led}
theorem RepOk.upd(h:RepOk Z w c r L){p₀:Pl}{o':Obj}(hat:r'.at'=r.at')(hok:∀p,r'.ok p->r.ok p)(h0:r.ok p₀)(hs:r'.shape Z w c o' p₀)(ho:∀p,p≠p₀->r'.ok p->∀o,r.shape Z w c o p->r'.shape Z w c o p):RepOk Z w c r' (setLed (r.at' p₀) o' L) where
 hold:=fun p hp=>by
  by_cases e:p=p₀
  ·subst e
   exact⟨o',by rw[hat];exact mem_setLed_self,hs⟩
  ·obtain⟨o,m,sh⟩:=h.hold p (hok p hp)
   exact⟨o,by rw[hat];exact mem_setLed_ne m fun q=>e (h.apart _ _ (hok p hp) h0 q),ho p e hp o sh⟩
 apart:=fun p q hp hq e=>h.apart p q (hok p hp) (hok q hq) (by rw[hat] at e;exact e)
 lo:=by rw[hat];exact h.lo
theorem RepOk.mono(h:RepOk Z w c r L){L':Led}(hs:∀p∈L,p∈L'):RepOk Z w c r L':=⟨fun p hp=>let⟨o,m,s⟩:=h.hold p hp;⟨o,hs _ m,s⟩,h.apart,h.lo⟩
end
structure ClsK(K:Frag)(c:Cls2):Prop where
 c1:DCls K c.C1
 c2:SCls K c.C2
 f1:freeName K c.C1 (S "_node2info")
 f2:freeName K c.C1 (S "_ready_nodes")
 f3:freeName K c.C1 (S "_npassedout")
 f4:freeName K c.C1 (S "_nfinished")
 s0:∃p,SlotAt K c.C2 (S "node") 0 p
 s1:∃p,SlotAt K c.C2 (S "npredecessors") 1 p
 s2:∃p,SlotAt K c.C2 (S "successors") 2 p
section
variable{K:Frag}{c:Cls2}{r:Rep}
theorem ev_n2i{e:Expr}{pos:Pos}(hK:K.In H0)(ck:ClsK K c)(h:RepOk Z w c r δ)(he:EvE Z w H0 n sc σ δ e (.v (.ref (r.at' .S))))(ha:attrEv e (S "_node2info") pos):EvE Z w H0 n sc σ δ (.Attribute e (S "_node2info") pos) (.v (.ref (r.at' .D))):=by
 obtain⟨o,m,rfl⟩:=h.hold .S trivial;obtain⟨o,m',t1,t2,f⟩:=h.hold .dS trivial;exact ev_attrD hK ck.c1 he m m' f ck.f1 rfl rfl ha
theorem ev_ready{e:Expr}{pos:Pos}(hK:K.In H0)(ck:ClsK K c)(h:RepOk Z w c r δ)(he:EvE Z w H0 n sc σ δ e (.v (.ref (r.at' .S))))(ha:attrEv e (S "_ready_nodes") pos):EvE Z w H0 n sc σ δ (.Attribute e (S "_ready_nodes") pos) (.v r.rv):=by
 obtain⟨o,m,rfl⟩:=h.hold .S trivial;obtain⟨o,m',t1,t2,f⟩:=h.hold .dS trivial;exact ev_attrD hK ck.c1 he m m' f ck.f2 rfl (by unfold Rep.rv;cases r.ready<;> rfl) ha
theorem ev_passed{e:Expr}{pos:Pos}(hK:K.In H0)(ck:ClsK K c)(h:RepOk Z w c r δ)(he:EvE Z w H0 n sc σ δ e (.v (.ref (r.at' .S))))(ha:attrEv e (S "_npassedout") pos):EvE Z w H0 n sc σ δ (.Attribute e (S "_npassedout") pos) (.d (.int r.passed)):=by
 obtain⟨o,m,rfl⟩:=h.hold .S trivial;obtain⟨o,m',t1,t2,f⟩:=h.hold .dS trivial;exact ev_asInt (ev_attrD hK ck.c1 he m m' f ck.f3 (v:=.int r.passed t1) rfl rfl ha)
theorem ev_fin{e:Expr}{pos:Pos}(hK:K.In H0)(ck:ClsK K c)(h:RepOk Z w c r δ)(he:EvE Z w H0 n sc σ δ e (.v (.ref (r.at' .S))))(ha:attrEv e (S "_nfinished") pos):EvE Z w H0 n sc σ δ (.Attribute e (S "_nfinished") pos) (.d (.int r.fin)):=by
 obtain⟨o,m,rfl⟩:=h.hold .S trivial;obtain⟨o,m',t1,t2,f⟩:=h.hold .dS trivial;exact ev_asInt (ev_attrD hK ck.c1 he m m' f ck.f4 (v:=.int r.fin t2) rfl rfl ha)
theorem ev_np{e:Expr}{pos:Pos}{x:NM}(hK:K.In H0)(ck:ClsK K c)(h:RepOk Z w c r δ)(hx:x∈r.names)(he:EvE Z w H0 n sc σ δ e (.v (.ref (r.at' (.I x)))))(ha:attrEv e (S "npredecessors") pos):EvE Z w H0 n sc σ δ (.Attribute e (S "npredecessors") pos) (.d (.int (r.np x))):=by
 obtain⟨o,m,t1,t2,rfl⟩:=h.hold (.I x) hx;obtain⟨o,m',_⟩:=h.hold (.e x) hx;obtain⟨p,sp⟩:=ck.s1;exact ev_asInt (ev_attrS hK ck.c2 he m m' sp (v:=.int (r.np x) t2) rfl rfl ha)
theorem ev_succ{e:Expr}{pos:Pos}{x:NM}(hK:K.In H0)(ck:ClsK K c)(h:RepOk Z w c r δ)(hx:x∈r.names)(he:EvE Z w H0 n sc σ δ e (.v (.ref (r.at' (.I x)))))(ha:attrEv e (S "successors") pos):EvE Z w H0 n sc σ δ (.Attribute e (S "successors") pos) (.v (.ref (r.at' (.T x)))):=by
 obtain⟨o,m,t1,t2,rfl⟩:=h.hold (.I x) hx;obtain⟨o,m',_⟩:=h.hold (.e x) hx;obtain⟨p,sp⟩:=ck.s2;exact ev_attrS hK ck.c2 he m m' sp rfl rfl ha
end
def classBody:Stmt->List Stmt
 |.ClassDef _ _ _ b _ _ _ _ _ _ _=>b
 |_=>[]
def meth(k j:Nat):Stmt:=((classBody (stm k))[j]?).getD (.Pass default)
theorem putS_0{v:Value}:putS #[] 0 v=#[some v]:=by simp[putS,Array.replicate]
theorem putS_1{u v:Value}:putS #[some u] 1 v=#[some u,some v]:=by simp[putS,Array.replicate]
theorem putS_2{u v y:Value}:putS #[some u,some v] 2 y=#[some u,some v,some y]:=by simp[putS,Array.replicate]
section
variable{K:Frag}{c:Cls2}{r:Rep}
abbrev scNI:Scope:=scopeOf (meth 11 1)
def NodeNew(c:Cls2)(x:NM)(a d:Addr)(L':Led):Prop:=∃T t1 t2 oT oe,(a,instD c.C2 d #[some (.str (tx x) t1),some (.int 0 t2),some (.ref T)])∈L'∧(d,oe)∈L'∧(T,oT)∈L'∧OwnL [] oT∧T≠a∧T≠d
theorem node_init{x:NM}{a d:Addr}(hne:d≠a)(hK:K.In H0)(ck:ClsK K c):
  GX Z w H0 n scNI [(S "self",.v (.ref a)),(S "node",.d (.str (tx x)))] [(a,instD c.C2 d #[]),(d,emptyDict)] (bodyOf (meth 11 1)) (fun _ fl _ δ'=>fl=.next∧NodeNew c x a d δ'):=by
 obtain⟨p0,s0⟩:=ck.s0;obtain⟨p1,s1⟩:=ck.s1;obtain⟨p2,s2⟩:=ck.s2;have vs:∀δ pos,EvE Z w H0 n scNI [(S "self",.v (.ref a)),(S "node",.d (.str (tx x)))] δ (.Name (S "self") pos) (.v (.ref a)):=fun δ pos=>ev_var rfl;refine gx_cons (gt_setS (C:=c.C2) (x:=a) (dx:=d) (sl:=#[]) hK ck.c2 (gs_ev (ev_var (e:=.d (.str (tx x))) rfl (by decide +kernel))) (fun g v σ₁ δ₁ q=>?_) s0 fun _=>rfl) (fun g σ' δ' q=>?_) fun g fl σ' δ' hn q=>absurd q.1 hn
 ·obtain⟨_,rfl,rfl⟩:=q
  exact⟨vs _ _,by simp,emptyDict,by simp⟩
 obtain⟨_,g1,v,δ₁,⟨mv,rfl,rfl⟩,rfl⟩:=q;obtain⟨t1,rfl⟩:=rd_str mv;rw[putS_0];have hl1:setLed a (instD c.C2 d #[some (.str (tx x) t1)]) [(a,instD c.C2 d #[]),(d,emptyDict)]=[(a,instD c.C2 d #[some (.str (tx x) t1)]),(d,emptyDict)]:=by simp[setLed,hne]
 rw[hl1];refine gx_cons (gt_setS (C:=c.C2) (x:=a) (dx:=d) (sl:=#[some (.str (tx x) t1)]) hK ck.c2 (gs_ev (ev_int (i:=0))) (fun g v σ₁ δ₁ q=>?_) s1 fun _=>rfl) (fun g σ' δ' q=>?_) fun g fl σ' δ' hn q=>absurd q.1 hn
 ·obtain⟨_,rfl,rfl⟩:=q
  exact⟨vs _ _,by simp,emptyDict,by simp⟩
 obtain⟨_,g1,v,δ₁,⟨mv,rfl,rfl⟩,rfl⟩:=q;obtain⟨t2,rfl⟩:=rd_int mv;rw[putS_1];have hl2:setLed a (instD c.C2 d #[some (.str (tx x) t1),some (.int 0 t2)]) [(a,instD c.C2 d #[some (.str (tx x) t1)]),(d,emptyDict)]=[(a,instD c.C2 d #[some (.str (tx x) t1),some (.int 0 t2)]),(d,emptyDict)]:=by simp[setLed,hne]
 rw[hl2];refine gx_cons (gt_setS (C:=c.C2) (x:=a) (dx:=d) (sl:=#[some (.str (tx x) t1),some (.int 0 t2)]) hK ck.c2 (gs_newP new_nil) (fun g v σ₁ δ₁ q=>?_) s2 fun _=>rfl) (fun g σ' δ' q=>gx_nil fun g=>?_) fun g fl σ' δ' hn q=>absurd q.1 hn
 ·obtain⟨rfl,T,oT,rfl,_,rfl,_⟩:=q
  exact⟨vs _ _,by simp,emptyDict,by simp⟩
 obtain⟨_,g1,v,δ₁,⟨rfl,T,oT,rfl,hT,rfl,hnew⟩,rfl⟩:=q;rw[putS_2];have n1:a≠T:=hnew _ (mem_cons_self);have n2:d≠T:=hnew (d,emptyDict) (by simp);refine⟨rfl,T,t1,t2,oT,emptyDict,mem_setLed_self,mem_setLed_ne (by simp) hne,mem_setLed_ne (by simp) (Ne.symm n1),hT,Ne.symm n1,Ne.symm n2⟩
end
def Rep.with1(r:Rep)(x:NM)(a d T:Addr):Rep:={r with
 at':=fun p=>match p with
  |.I y=>if y=x then a else r.at' (.I y)
  |.e y=>if y=x then d else r.at' (.e y)
  |.T y=>if y=x then T else r.at' (.T y)
  |p=>r.at' p
 names:=r.names++[x]
 np:=fun y=>if y=x then 0 else r.np y
 succ:=fun y=>if y=x then [] else r.succ y}
def Rep.Added(r:Rep)(x:NM)(r':Rep):Prop:=(x∈r.names∧r'=r)∨(x∉r.names∧∃a d T,r'=r.with1 x a d T)
theorem Rep.Added.old{r r':Rep}{x:NM}(h:r.Added x r'):∀p,r.ok p->r'.at' p=r.at' p:=by
 rcases h with ⟨_,rfl⟩|⟨hx,a,d,T,rfl⟩
 ·exact fun _ _=>rfl
 ·intro p hp
  cases p with
  |I y=>exact if_neg fun q:y=x=>hx (by rw[←q];exact hp)
  |e y=>exact if_neg fun q:y=x=>hx (by rw[←q];exact hp)
  |T y=>exact if_neg fun q:y=x=>hx (by rw[←q];exact hp)
  |_=>rfl
theorem Rep.Added.mem{r r':Rep}{x:NM}(h:r.Added x r'):x∈r'.names:=by
 rcases h with ⟨hx,rfl⟩|⟨hx,a,d,T,rfl⟩
 ·exact hx
 ·simp[Rep.with1]
theorem valueAt_names(f:NM->Value):∀(xs:List NM) (x:NM),valueAt (xs.map fun y=>(tx y,f y)) (tx x)=if x∈xs then some (f x) else none
 |[],x=>rfl
 |y::ys,x=>by
  have ih:=valueAt_names f ys x;unfold valueAt at ih ⊢;rw[map_cons,find?_cons]
  by_cases h:y=x
  ·subst h;simp
  ·have h1:decide (tx y=tx x)=false:=by simpa using fun q=>h (tx_inj q)
   rw[h1];simp only[ih,mem_cons,Ne.symm h,false_or]
theorem Ent_names{xs:List NM}(f:NM->Value){x:NM}(h:x∉xs):stored (xs.map fun y=>(tx y,f y)) (tx x) (f x)=(xs++[x]).map fun y=>(tx y,f y):=by
 rw[stored_new,map_append];rfl;intro m;rw[map_map] at m;obtain⟨y,hy,e⟩:=mem_map.mp m;exact h (tx_inj e▸hy)
section
variable{K:Frag}{c:Cls2}{r:Rep}
theorem rep_with1{x:NM}{a d:Addr}{L':Led}{oD:Obj}(h:RepOk Z w c r δ)(hx:x∉r.names)(hn:NodeNew c x a d L')(hdis:∀p∈δ,∀q∈L',p.1≠q.1)(hD:oD.IsDictOf (skd Z w) (stored (r.names.map fun x=>(tx x,Value.ref (r.at' (.I x)))) (tx x) (.ref a)))(hda:d≠a):
  ∃r',r.Added x r'∧RepOk Z w c r' (setLed (r.at' .D) oD (L'++δ))∧r'.at' (.I x)=a:=by
 obtain⟨T,t1,t2,oT,oe,ha,hd,hT,hTo,hTa,hTd⟩:=hn;obtain⟨oD0,mD,_⟩:=h.hold .D trivial;have nD:∀q∈L',q.1≠r.at' .D:=fun q hq e=>hdis _ mD q hq e.symm;have old:∀p,r.ok p->∀q∈L',r.at' p≠q.1:=fun p hp q hq=>by
  obtain⟨o,m,_⟩:=h.hold p hp;exact hdis _ m q hq
 refine⟨r.with1 x a d T,.inr ⟨hx,a,d,T,rfl⟩,⟨fun p hp=>?_,fun p q hp hq e=>?_,h.lo⟩,if_pos rfl⟩
 ·have keep:∀p,r.ok p->p≠ .D->(r.with1 x a d T).at' p=r.at' p->(∀o,r.shape Z w c o p->(r.with1 x a d T).shape Z w c o p)->∃o,((r.with1 x a d T).at' p,o)∈setLed (r.at' .D) oD (L'++δ)∧(r.with1 x a d T).shape Z w c o p:=fun p hp hne e hs=>by
   obtain⟨o,m,sh⟩:=h.hold p hp;exact⟨o,by rw[e];exact mem_setLed_ne (mem_append_right _ m) fun q=>hne (h.apart _ _ hp trivial q),hs o sh⟩
  cases p with
  |S=>exact keep .S trivial (by intro q;cases q) rfl fun o s=>s
  |dS=>exact keep .dS trivial (by intro q;cases q) rfl fun o s=>s
  |D=>
   refine⟨oD,mem_setLed_self,?_⟩;show oD.IsDictOf (skd Z w) ((r.names++[x]).map fun y=>(tx y,Value.ref (if y=x then a else r.at' (.I y))));have e:=Ent_names (fun y=>Value.ref (if y=x then a else r.at' (.I y))) hx;rw[←e];have e2:(r.names.map fun y=>(tx y,Value.ref (if y=x then a else r.at' (.I y))))=r.names.map fun y=>(tx y,Value.ref (r.at' (.I y))):=by
    refine map_congr_left fun y hy=>?_;rw[if_neg fun q:y=x=>hx (by rw[←q];exact hy)]
   simp only[if_pos];rw[e2];simpa using hD
  |R=>exact keep .R hp (by intro q;cases q) rfl fun o s=>s
  |I y=>
   by_cases hy:y=x
   ·subst hy
    refine⟨_,by show((if y=y then a else _),_)∈_;rw[if_pos rfl];exact mem_setLed_ne (mem_append_left _ ha) (nD _ ha),t1,t2,?_⟩;show instD c.C2 d _=instD c.C2 (if y=y then d else _) #[_,some (.int (if y=y then 0 else _) t2),some (.ref (if y=y then T else _))];simp
   ·have hy':y∈r.names:=by
     have:y∈r.names++[x]:=hp;simpa [hy] using this
    refine keep (.I y) hy' (by intro q;cases q) (if_neg hy) fun o ⟨u1,u2,s⟩=>⟨u1,u2,?_⟩;rw[s];show _=instD c.C2 (if y=x then d else r.at' (.e y)) #[_,some (.int (if y=x then 0 else r.np y) u2),some (.ref (if y=x then T else r.at' (.T y)))];rw[if_neg hy,if_neg hy,if_neg hy]
  |e y=>
   by_cases hy:y=x
   ·subst hy
    exact⟨_,by show((if y=y then d else _),_)∈_;rw[if_pos rfl];exact mem_setLed_ne (mem_append_left _ hd) (nD _ hd),trivial⟩
   ·have hy':y∈r.names:=by
     have:y∈r.names++[x]:=hp;simpa [hy] using this
    exact keep (.e y) hy' (by intro q;cases q) (if_neg hy) fun o s=>trivial
  |T y=>
   by_cases hy:y=x
   ·subst hy
    refine⟨_,by show((if y=y then T else _),_)∈_;rw[if_pos rfl];exact mem_setLed_ne (mem_append_left _ hT) (nD _ hT),?_⟩;show OwnL (dNs (if y=y then [] else _)) oT;rw[if_pos rfl];exact hTo
   ·have hy':y∈r.names:=by
     have:y∈r.names++[x]:=hp;simpa [hy] using this
    refine keep (.T y) hy' (by intro q;cases q) (if_neg hy) fun o s=>?_;show OwnL (dNs (if y=x then [] else r.succ y)) o;rw[if_neg hy];exact s
 ·
  have cls:∀p,(r.with1 x a d T).ok p->(r.ok p∧(r.with1 x a d T).at' p=r.at' p)∨(p=.I x∧(r.with1 x a d T).at' p=a)∨(p=.e x∧(r.with1 x a d T).at' p=d)∨(p=.T x∧(r.with1 x a d T).at' p=T):=fun p hp=>by
   cases p with
   |I y=>
    by_cases hy:y=x
    ·subst hy;exact .inr (.inl ⟨rfl,if_pos rfl⟩)
    ·refine .inl ⟨?_,if_neg hy⟩
     have:y∈r.names++[x]:=hp;show y∈r.names;simpa [hy] using this
   |e y=>
    by_cases hy:y=x
    ·subst hy;exact .inr (.inr (.inl ⟨rfl,if_pos rfl⟩))
    ·refine .inl ⟨?_,if_neg hy⟩
     have:y∈r.names++[x]:=hp;show y∈r.names;simpa [hy] using this
   |T y=>
    by_cases hy:y=x
    ·subst hy;exact .inr (.inr (.inr ⟨rfl,if_pos rfl⟩))
    ·refine .inl ⟨?_,if_neg hy⟩
     have:y∈r.names++[x]:=hp;show y∈r.names;simpa [hy] using this
   |R=>exact .inl ⟨hp,rfl⟩
   |_=>exact .inl ⟨trivial,rfl⟩
  rcases cls p hp with ⟨h1,e1⟩|⟨rfl,e1⟩|⟨rfl,e1⟩|⟨rfl,e1⟩<;> rcases cls q hq with ⟨h2,e2⟩|⟨rfl,e2⟩|⟨rfl,e2⟩|⟨rfl,e2⟩<;> have e:=e1.symm.trans (e.trans e2)
  ·exact h.apart _ _ h1 h2 e
  ·exact absurd e (old _ h1 _ ha)
  ·exact absurd e (old _ h1 _ hd)
  ·exact absurd e (old _ h1 _ hT)
  ·exact absurd e.symm (old _ h2 _ ha)
  ·rfl
  ·exact absurd e.symm hda
  ·exact absurd e.symm hTa
  ·exact absurd e.symm (old _ h2 _ hd)
  ·exact absurd e hda
  ·rfl
  ·exact absurd e.symm hTd
  ·exact absurd e.symm (old _ h2 _ hT)
  ·exact absurd e hTa
  ·exact absurd e hTd
  ·rfl
end
section
variable{K:Frag}{c:Cls2}{r:Rep}
structure NodeK(Z:Program)(w:World)(H0:Heap)(K:Frag)(c:Cls2):Prop where
 mkc:makesIn K c.C2=true
 init:∃fI fd,findIn K (.ref c.C2) (S "__init__")=some (some (.ref fI))∧typeIn K (.ref fI)=some (.type "function")∧DefG H0 fI fd scNI (bodyOf (meth 11 1))∧∀vs:List Value,vs.length=[S "self",S "node"].length->bindArgs fd ⟨vs,[]⟩=pure ([S "self",S "node"].zip vs)
 glob:GIs H0 (S "_NodeInfo") (.ref c.C2)
theorem gs_node{p p1 pos:Pos}{x:NM}(hK:K.In H0)(ck:ClsK K c)(nk:NodeK Z w H0 K c)(hgl:globOk sc (S "_NodeInfo")=true){y:Str}(hy:EvE Z w H0 (n+2) sc σ δ (.Name y p1) (.d (.str (tx x)))):
  GS Z w H0 (n+2) sc σ δ (eval (.Call (.Name (S "_NodeInfo") p) [.Name y p1] [] pos)) (fun g v σ' δ'=>σ'=σ∧∃a d L',v=.ref a∧((NodeNew c x a d L'∧d≠a)∧∀p∈δ,∀q∈L',p.1≠q.1)∧δ'=L'++δ):=by
 obtain⟨fI,fd,h1,h2,D,hb⟩:=nk.init;refine gs_new (n:=n+1) (xs:=[.d (.str (tx x))]) (Θ:=fun a d L'=>NodeNew c x a d L'∧d≠a) hK nk.mkc h1 h2 (ev_gl nk.glob hgl) (evs_1 hy fun _=>rfl) (fun a d hne=>?_) fun _=>rfl;refine(fn_gen (x:=false) (ps:=[S "self",S "node"]) (xs':=[.v (.ref a),.d (.str (tx x))]) D (bind_plain hb rfl) (by decide +kernel) rfl (hx_of (gs_mono (node_init hne hK ck) fun g fl σ' δ' q=>?_))).gc;obtain⟨rfl,q⟩:=q;exact⟨rfl,q,hne⟩
abbrev scGN:Scope:=scopeOf (meth 13 1)
theorem gn_body{x:NM}(hK:K.In H0)(ck:ClsK K c)(nk:NodeK Z w H0 K c)(h:RepOk Z w c r δ)(hz:r.names.length≤8):
  GX Z w H0 (n+2) scGN [(S "self",.v (.ref (r.at' .S))),(S "node",.d (.str (tx x)))] δ (bodyOf (meth 13 1)) (fun _ fl _ δ'=>∃r',r.Added x r'∧RepOk Z w c r' δ'∧fl=.ret (.ref (r'.at' (.I x)))):=by
 obtain⟨oD,mD,hD⟩:=h.hold .D trivial;have vs:∀{σ' pos},σ'.lookup (S "self")=some (.v (.ref (r.at' .S)))->EvE Z w H0 (n+2) scGN σ' δ (.Name (S "self") pos) (.v (.ref (r.at' .S))):=fun h=>ev_var h;have hget:=valueAt_names (fun y=>Value.ref (r.at' (.I y))) r.names x;refine gx_cons (Ψ:=fun _ fl σ' δ'=>fl=.next∧∃r',r.Added x r'∧RepOk Z w c r' δ'∧σ'.lookup (S "result")=some (.v (.ref (r'.at' (.I x))))) (gt_of_h (ht_ifg (x:=false) (gsf_of (gs_walrus (y:=S "result") (v:=if x∈r.names then .ref (r.at' (.I x)) else .none) (ev_getO (d:=r.at' .D) (x:=tx x) (ev_n2i hK ck h (vs rfl) fun _=>rfl) mD hD h.lo (ev_var rfl) (by rw[hget];split<;> rfl) (fun _=>rfl) (by decide) fun _=>rfl) (settable_of) (by split;exact .inr ⟨_,rfl⟩;exact .inl rfl)))
  (fun g σ' δ' q=>?_) fun g σ' δ' q=>?_)) (fun g σ' δ' q=>?_) fun g fl σ' δ' hn q=>absurd q.1 hn
 ·obtain⟨hb,rfl,rfl⟩:=q
  have hx:x∉r.names:=fun m=>by rw[if_pos m] at hb;simp at hb
  refine hx_of (gx_cons (gt_setItem2 (d:=r.at' .D) (ob:=oD) (kvs:=r.names.map fun x=>(tx x,Value.ref (r.at' (.I x)))) (x:=tx x) (y:=S "result") (gs_node (x:=x) hK ck nk (by decide +kernel) (ev_var rfl)) (fun g v σ₁ δ₁ q=>?_) hD (size_le (by rw[length_map];omega)) (settable_of) (fun _ _=>rfl)) (fun g σ' δ' q=>gx_nil fun g=>?_) fun g fl σ' δ' hn q=>absurd q.1 hn)
  ·obtain⟨rfl,a,d,L',rfl,⟨⟨hn,hda⟩,hdis⟩,rfl⟩:=q
   have h2:=h.mono fun p hp=>mem_append_right L' hp;exact⟨ev_n2i hK ck h2 (ev_var rfl) fun _=>rfl,ev_var rfl (by decide +kernel),mem_append_right _ mD⟩
  ·obtain⟨_,g1,v,σ₁,δ₁,o',⟨rfl,a,d,L',rfl,⟨⟨hn,hda⟩,hdis⟩,rfl⟩,hi,rfl,rfl⟩:=q
   obtain⟨r',h1,h2,h3⟩:=rep_with1 h hx hn hdis hi hda;exact⟨rfl,r',h1,h2,by rw[h3];rfl⟩
 ·obtain⟨hb,rfl,rfl⟩:=q
  have hx:x∈r.names:=by
   by_cases m:x∈r.names
   ·exact m
   ·rw[if_neg m] at hb;simp at hb
  exact hx_nil fun g=>⟨rfl,r,.inl ⟨hx,rfl⟩,h,by rw[if_pos hx];rfl⟩
 ·obtain⟨_,r',h1,h2,h3⟩:=q
  exact gx_ret (P:=fun _ v=>v=.ref (r'.at' (.I x))) (show EvE _ _ _ _ _ _ _ _ (.v (.ref (r'.at' (.I x)))) from ev_var h3) fun g v σ'' p=>⟨r',h1,h2,by rw[p]⟩
end
section
variable{K:Frag}
theorem src_tuple{ds:List PyData}:SrcV Z w H0 n (.d (.tuple ds)) (ds.map .d):=by
 intro A s η v g B ra;obtain⟨l,vs,rfl,hl,f⟩:=rd_tuple ra;have hl':s.heap.IsTuple l (toArray vs):=isTup_ext (vis_to _ _) hl;have lne:l≠s.heap.objs.size:=by obtain⟨o,e,_⟩:=hl';exact Nat.ne_of_lt (Heap.lt_size e)
 have lnh:l∉η:=by obtain⟨o,e,_⟩:=hl;exact(vis_inv e).2
 refine wpAny_pyIter_tuple hl' ⟨s.heap.objs.size,[s.heap.objs.size,l],[s.heap.objs.size],(fun i h=>h.IsTupleIter s.heap.objs.size l i∧h.IsTuple l (toArray vs)),_,s.toks,rfl,rfl,ext_push _ _,⟨?_,?_,?_⟩,?_,?_,?_⟩
 case refine_1=>
  have W:=Walks.tuple (prog:=Z) (w:=w) g.hh s.heap.objs.size l lne (toArray vs);have e:(toArray vs).size=(ds.map Ent.d).length:=by rw[size_toArray,f.length,length_map]
  rw[e] at W;exact Walks.imp W fun i v p=>by
   obtain⟨d,a,b⟩:=f.get' (i:=i) (a:=v) (by simpa using p);exact⟨.d d,by simp[a],b⟩
 case refine_2=>
  intro i h st b hb;obtain⟨⟨o,e,_⟩,_⟩:=st;rw[mem_singleton.mp hb];exact⟨o,e⟩
 case refine_3=>
  intro i h st;obtain⟨⟨o,e,c,_⟩,_⟩:=st;exact⟨o,_,e,c,by decide⟩
 ·exact⟨⟨_,Heap.get?_push_size _ rfl,rfl,rfl⟩,isTup_ext (ext_push _ _) hl'⟩
 ·intro b hb
  rw[mem_singleton.mp hb];cases e:s.heap.get? s.heap.objs.size with
  |none=>rfl
  |some o=>exact absurd (Heap.lt_size e) (Nat.lt_irrefl _)
 ·intro b hb
  rcases mem_cons.mp hb with rfl|hb
  ·exact⟨⟨_,Heap.get?_push_size _ rfl⟩,B.fresh⟩
  ·rw[mem_singleton.mp hb]
   obtain⟨o,e,_⟩:=hl';exact⟨⟨_,Heap.get?_push_of_some _ e⟩,lnh⟩
theorem fn_len_tuple{ds:List PyData}(hz:ds.length≤sizeLine):FnP Z w H0 n (.builtin "len") [.d (.tuple ds)] (Rd (.int ds.length)):=by
 intro A s η vs g B m
 match vs,m with
 |[v],⟨m,_⟩=>
 obtain⟨l,vs,rfl,hl,f⟩:=rd_tuple m;have e:=f.length;refine PyProof.Rows.len_tuple (isTup_ext (vis_to _ _) hl) (by rw[size_toArray,e];have:sizeLine=2 ^ 24:=rfl;omega) ?_;rw[size_toArray,e];exact Pu.tok (int_rd _ _ _)
theorem has_len_tuple(hg:GIs H0 (S "len") (.builtin "len")){ds:List PyData}(hz:ds.length≤sizeLine):Has Z w H0 (S "len") n [.d (.tuple ds)] (Rd (.int ds.length)):=⟨_,hg,callee_builtin,fn_len_tuple hz⟩
theorem gt_assignE{e:Expr}{y:Str}{py pos:Pos}{Ψ:Heap->Value->Sto->Led->Prop}(h:GS Z w H0 n sc σ δ (eval e) Ψ)(hy:settable sc y)
  (hs:∀V,EnvOk sc V->swapsWith e (some (.Name y py)) pos.line V=pure false)(hw:∀V,EnvOk sc V->swappedStores [.Name y py] e V=pure none):
  GT Z w H0 n sc σ δ (.Assign [.Name y py] e pos) (fun _ fl σ' δ'=>fl=.next∧∃g1 v σ₁,Ψ g1 v σ₁ δ'∧σ'=(y,.v v)::σ₁):=by
 intro A V s η g o F;show wpAny _ A (standAt pos >>=fun _=>swapsWithSole [.Name y py] e pos.line V >>=fun b=>if b=true then _ else _) _ _ s;refine wpAny_bind (wpAny_standAt (wpAny_bind ?_));show wpAny _ A (swapsWith e (some (.Name y py)) pos.line V) _ _ s;rw[hs V o];refine wpAny_pure ?_;rw[if_neg Bool.false_ne_true];refine wpAny_bind (wpAny_mono (h A V s η g o F) (fun v s₁ q=>?_) fun _ _ f=>f);obtain⟨η1,σ₁,δ₁,F1,p1,_,back1⟩:=GP.back (α:=Flow) F q;refine wpAny_bind ?_;rw[hw V o];refine wpAny_pure ?_;show wpAny _ A (assignAll v [assign (.Name y py) V] >>=fun _=>pure Flow.next) _ _ _;refine wpAny_bind ?_;show wpAny _ A (assign (.Name y py) V v) _ _ _;refine wpAny_mono (as_name (Z:=Z) (w:=w) (H0:=H0) (n:=n) (e:=.v v) hy A V s₁ η1 δ₁ σ₁ v g o F1 rfl) (fun _ s2 q2=>wpAny_pure ?_) fun _ _ f=>f;obtain⟨h2,t2,rfl,k2,F2⟩:=q2;exact back1 _ _ _ ⟨h2,t2,η1,_,δ₁,rfl,k2.more (places_own V δ₁ _),F2,fun _ m=>m,fun _ m=>.inl m,fun p m=>.inl (mem_map_of_mem m),rfl,_,v,σ₁,p1,rfl⟩
theorem bind_star{fd:FuncData}{ps:List Str}{nr:Str}{xs:List Ent}{ds:List PyData}(h:∀vs ws:List Value,vs.length=ps.length->bindArgs fd ⟨vs++ws,[]⟩=(newTuple ws >>=fun t=>pure ((ps++[nr]).zip (vs++[t]))))(hl:xs.length=ps.length)(hz:ds.length≤sizeLine):
  BindP Z w H0 fd (ps++[nr]) (xs++ds.map .d) (xs++[.d (.tuple ds)]):=fun A s η vs B m=>by
 have hsplit:∀(xs:List Ent) (vs:List Value),MeansAll (vis s.heap η) vs (xs++ds.map .d)->∃us ws,vs=us++ws∧us.length=xs.length∧MeansAll (vis s.heap η) us xs∧F2 (fun v d=>Rd d (vis s.heap η) v) ws ds:=fun xs=>by
  induction xs with
  |nil=>exact fun vs m=>⟨[],vs,rfl,rfl,trivial,meansAll_f2 m⟩
  |cons x xs ih=>
   intro vs m
   match vs,m with
   |v::vs,⟨m1,m2⟩=>
    obtain⟨us,ws,e,l,a,b⟩:=ih vs m2;exact⟨v::us,ws,by rw[e];rfl,by simp[l],⟨m1,a⟩,b⟩
 obtain⟨us,ws,rfl,hlen,mu,mw⟩:=hsplit xs vs m;rw[h us ws (hlen.trans hl)];refine wpAny_bind (seqP (newTuple_P B mw hz) fun t s₁ q=>wpAny_pure (q.trans (Pu.here ⟨us++[t],rfl,?_⟩)));have hcat:∀(xs:List Ent) (us:List Value),MeansAll (vis s₁.heap η) us xs->MeansAll (vis s₁.heap η) (us++[t]) (xs++[.d (.tuple ds)]):=fun xs=>by
  induction xs with
  |nil=>
   intro us m
   match us,m with
   |[],_=>exact⟨q.val,trivial⟩
  |cons x xs ih=>
   intro us m
   match us,m with
   |u::us,⟨m1,m2⟩=>exact⟨m1,ih us m2⟩
 exact hcat xs us (mu.ext (vis_ext η q.ext))
end
structure Abs where
 names:List NM
 np:NM->Int
 succ:NM->List NM
def Rep.abs(r:Rep):Abs:=⟨r.names,r.np,r.succ⟩
def Abs.get(a:Abs)(x:NM):Abs:=if x∈a.names then a else ⟨a.names++[x],fun y=>if y=x then 0 else a.np y,fun y=>if y=x then [] else a.succ y⟩
def Abs.link(x:NM)(a:Abs)(p:NM):Abs:={a.get p with succ:=fun y=>if y=p then (a.get p).succ p++[x] else (a.get p).succ y}
def Abs.add(a:Abs)(x:NM)(ps:List NM):Abs:=ps.foldl (Abs.link x) {a.get x with np:=fun y=>if y=x then (a.get x).np x+ps.length else (a.get x).np y}
structure Rep.Same(r r':Rep):Prop where
 old:∀p,r.ok p->r'.at' p=r.at' p
 okk:∀p,r.ok p->r'.ok p
 ready:r'.ready=r.ready
 passed:r'.passed=r.passed
 fin:r'.fin=r.fin
theorem Rep.Same.trans{r r' r'':Rep}(x:r.Same r')(y:r'.Same r''):r.Same r'':=⟨fun p h=>(y.old p (x.okk p h)).trans (x.old p h),fun p h=>y.okk p (x.okk p h),y.ready.trans x.ready,y.passed.trans x.passed,y.fin.trans x.fin⟩
theorem Rep.Added.same{r r':Rep}{x:NM}(h:r.Added x r'):r.Same r':=by
 refine⟨h.old,?_,?_,?_,?_⟩<;> rcases h with ⟨_,rfl⟩|⟨_,a,d,T,rfl⟩
 ·exact fun _ h=>h
 ·intro p hp
  cases p with
  |I y=>exact mem_append_left _ hp
  |e y=>exact mem_append_left _ hp
  |T y=>exact mem_append_left _ hp
  |R=>exact hp
  |_=>trivial
 all_goals rfl
theorem Rep.Added.abs{r r':Rep}{x:NM}(h:r.Added x r'):r'.abs=r.abs.get x:=by
 rcases h with ⟨hx,rfl⟩|⟨hx,a,d,T,rfl⟩
 ·unfold Abs.get;rw[if_pos (show x∈r'.abs.names from hx)]
 ·unfold Abs.get;rw[if_neg (show¬x∈r.abs.names from hx)];rfl
theorem get_len(a:Abs)(x:NM):a.names.length≤(a.get x).names.length:=by
 unfold Abs.get;split<;> simp
theorem link_len(a:Abs)(x p:NM):a.names.length≤(a.link x p).names.length:=get_len a p
theorem links_len(x:NM):∀(ps:List NM) (a:Abs),a.names.length≤(ps.foldl (Abs.link x) a).names.length
 |[],a=>Nat.le_refl _
 |p::ps,a=>Nat.le_trans (link_len a x p) (links_len x ps _)
structure MethK(K:Frag)(H0:Heap)(c:Cls2)(name:Str)(st:Stmt)(f:Addr)(fd:FuncData):Prop where
 find:findIn K (.ref c.C1) name=some (some (.ref f))
 ty:typeIn K (.ref f)=some (.type "function")
 dfn:DefG H0 f fd (scopeOf st) (bodyOf st)
section
variable{K:Frag}{c:Cls2}{r:Rep}
theorem gs_sm{e:Expr}{m:Str}{pa pos:Pos}{args:List Expr}{f:Addr}{fd:FuncData}{st:Stmt}{xs:List Ent}{Ψ:Heap->Value->Led->Prop}(hK:K.In H0)(ck:ClsK K c)(h:RepOk Z w c r δ)(mk:MethK K H0 c m st f fd)(he:EvE Z w H0 n sc σ δ e (.v (.ref (r.at' .S))))(hsh:∀t1 t2,(r.fields t1 t2).lookup m=none)
  (ha:EvsP Z w H0 n sc σ δ pos args xs)(hcall:FnG Z w H0 n (.ref f) (.v (.ref (r.at' .S))::xs) δ Ψ)(hb:∀V,(backTo pos (starEach args V)).any (·.1)=false)(hev:MethEv e m pa args pos):
  GS Z w H0 n sc σ δ (eval (.Call (.Attribute e m pa) args [] pos)) (fun g v σ' δ'=>σ'=σ∧Ψ g v δ'):=by
 obtain⟨o,m1,rfl⟩:=h.hold .S trivial;obtain⟨o,m2,t1,t2,f⟩:=h.hold .dS trivial;refine gs_mono (gs_meth (rest:=[]) hK ck.c1 he m1 m2 f (hsh t1 t2) mk.find mk.ty mk.dfn.callee ha hcall (fun p hp=>hp) (fun p hp=>nomatch hp) hb hev) fun g v σ' δ' q=>?_;obtain⟨e,L',p,rfl⟩:=q;rw[append_nil];exact⟨e,p⟩
def GnK(K:Frag)(H0:Heap)(c:Cls2):Prop:=∃f fd,MethK K H0 c (S "_get_nodeinfo") (meth 13 1) f fd∧∀vs:List Value,vs.length=[S "self",S "node"].length->bindArgs fd ⟨vs,[]⟩=pure ([S "self",S "node"].zip vs)
theorem gs_gn{e:Expr}{pa p1 pos:Pos}{y:Str}{x:NM}(hK:K.In H0)(ck:ClsK K c)(nk:NodeK Z w H0 K c)(gk:GnK K H0 c)(h:RepOk Z w c r δ)(hz:r.names.length≤8)(he:EvE Z w H0 (n+3) sc σ δ e (.v (.ref (r.at' .S))))(hy:EvE Z w H0 (n+3) sc σ δ (.Name y p1) (.d (.str (tx x))))
  (hev:MethEv e (S "_get_nodeinfo") pa [.Name y p1] pos):
  GS Z w H0 (n+3) sc σ δ (eval (.Call (.Attribute e (S "_get_nodeinfo") pa) [.Name y p1] [] pos)) (fun g v σ' δ'=>σ'=σ∧∃r',r.Added x r'∧RepOk Z w c r' δ'∧v=.ref (r'.at' (.I x))):=by
 obtain⟨f,fd,mk,hb⟩:=gk;refine gs_sm (xs:=[.d (.str (tx x))]) hK ck h mk he (fun t1 t2=>rfl) (evs_1 hy fun _=>rfl) (FnGc.g (FnF.gc (fn_gen (x:=false) (n:=n+2) (ps:=[S "self",S "node"]) (xs':=[.v (.ref (r.at' .S)),.d (.str (tx x))]) mk.dfn (bind_plain hb rfl) (by decide +kernel) rfl (hx_of (gs_mono (gn_body hK ck nk h hz) fun g fl σ' δ' q=>?_))))) (fun _=>rfl) hev;obtain⟨r',h1,h2,rfl⟩:=q;exact⟨r',h1,h2,rfl⟩
end
def Abs.bnd(k:Nat)(a:Abs):Prop:=∀y∈a.names,(a.succ y).length≤k
theorem bnd_get{k:Nat}{a:Abs}(h:a.bnd k)(x:NM):(a.get x).bnd k:=by
 unfold Abs.get;split
 ·exact h
 ·intro y hy
  have hy':y∈a.names++[x]:=hy;show(if y=x then [] else a.succ y).length≤k;split
  ·exact Nat.zero_le _
  ·next hn=>exact h y (by simpa [hn] using hy')
theorem bnd_link{k:Nat}{a:Abs}(h:a.bnd k)(x p:NM):(a.link x p).bnd (k+1):=by
 intro y hy;have h1:=bnd_get h p;show(if y=p then (a.get p).succ p++[x] else (a.get p).succ y).length≤k+1;split
 ·next e=>
  subst e;have:=h1 y hy;simp;omega
 ·exact Nat.le_succ_of_le (h1 y hy)
theorem bnd_links(x:NM):∀(ps:List NM) (k:Nat) (a:Abs),a.bnd k->(ps.foldl (Abs.link x) a).bnd (k+ps.length)
 |[],k,a,h=>h
 |p::ps,k,a,h=>by
  have:=bnd_links x ps (k+1) _ (bnd_link h x p);rw[length_cons,←Nat.add_assoc,Nat.add_right_comm];exact this
def Abs.more(a:Abs)(x:NM)(k:Nat):Abs:={a.get x with np:=fun y=>if y=x then (a.get x).np x+k else (a.get x).np y}
theorem add_eq(a:Abs)(x:NM)(ps:List NM):a.add x ps=ps.foldl (Abs.link x) (a.more x ps.length):=rfl
theorem bnd_more{k:Nat}{a:Abs}(h:a.bnd k)(x:NM)(j:Nat):(a.more x j).bnd k:=bnd_get h x
theorem bnd_add{k:Nat}{a:Abs}(h:a.bnd k)(x:NM)(ps:List NM):(a.add x ps).bnd (k+ps.length):=bnd_links x ps k _ (bnd_more h x _)
section
variable{K:Frag}{c:Cls2}{r:Rep}
theorem rep_np(h:RepOk Z w c r δ){x:NM}(hx:x∈r.names){i:Int}{t1 t:Tok}{e T:Addr}(he:e=r.at' (.e x))(hT:T=r.at' (.T x)):RepOk Z w c {r with np:=fun y=>if y=x then i else r.np y} (setLed (r.at' (.I x)) (instD c.C2 e #[some (.str (tx x) t1),some (.int i t),some (.ref T)]) δ):=by
 subst he hT;refine h.upd (p₀:=.I x) rfl (fun p hp=>by cases p<;> exact hp) hx ⟨t1,t,?_⟩ fun p hp ok o sh=>?_
 ·show _=instD c.C2 (r.at' (.e x)) #[_,some (.int (if x=x then i else _) t),_]
  rw[if_pos rfl]
 ·cases p with
  |I y=>
   obtain⟨t1,t2,sh⟩:=sh;refine⟨t1,t2,?_⟩;have hy:y≠x:=fun q=>hp (by rw[q]);show o=instD c.C2 _ #[_,some (.int (if y=x then i else r.np y) t2),_];rw[if_neg hy];exact sh
  |_=>exact sh
theorem rep_succ(h:RepOk Z w c r δ){x:NM}(hx:x∈r.names){l:List NM}{o':Obj}(ho:OwnL (dNs l) o'):RepOk Z w c {r with succ:=fun y=>if y=x then l else r.succ y} (setLed (r.at' (.T x)) o' δ):=by
 refine h.upd (p₀:=.T x) rfl (fun p hp=>by cases p<;> exact hp) hx ?_ fun p hp ok o sh=>?_
 ·show OwnL (dNs (if x=x then l else _)) o'
  rw[if_pos rfl];exact ho
 ·cases p with
  |T y=>
   have hy:y≠x:=fun q=>hp (by rw[q]);show OwnL (dNs (if y=x then l else r.succ y)) o;rw[if_neg hy];exact sh
  |_=>exact sh
theorem gt_augNp{e value:Expr}{p pos:Pos}{op:Operator}{x:NM}{k i:Int}(hK:K.In H0)(ck:ClsK K c)(h:RepOk Z w c r δ)(hx:x∈r.names)(he:EvE Z w H0 n sc σ δ e (.v (.ref (r.at' (.I x)))))(hv:EvE Z w H0 n sc σ δ value (.d (.int k)))(ho:OpBin Z w H0 n (inplaceOp op) (.d (.int (r.np x))) (.d (.int k)) (Rd (.int i))):
  GT Z w H0 n sc σ δ (.AugAssign (.Attribute e (S "npredecessors") p) op value pos) (fun _ fl σ' δ'=>fl=.next∧σ'=σ∧RepOk Z w c {r with np:=fun y=>if y=x then i else r.np y} δ'∧∃o',δ'=setLed (r.at' (.I x)) o' δ):=by
 obtain⟨o,m,t1,t2,rfl⟩:=h.hold (.I x) hx;obtain⟨o,m',_⟩:=h.hold (.e x) hx;obtain⟨pp,sp⟩:=ck.s1;refine gs_mono (gt_augS hK ck.c2 he m m' sp (i:=r.np x) (t:=t2) rfl hv ho) fun g fl σ' δ' q=>?_;obtain⟨e1,e2,t',rfl⟩:=q;exact⟨e1,e2,rep_np h hx rfl rfl,_,rfl⟩
theorem ev_lenT{y:Str}{p p1 pos:Pos}{ps:List NM}{k:Int}(hlen:GIs H0 (S "len") (.builtin "len"))(hg:globOk sc (S "len")=true)(hy:EvE Z w H0 n sc σ δ (.Name y p1) (.d (.tuple (dNs ps))))(hz:ps.length≤sizeLine)(hk:(ps.length:Int)=k):EvE Z w H0 n sc σ δ (.Call (.Name (S "len") p) [.Name y p1] [] pos) (.d (.int k)):=by
 subst hk;have e:(dNs ps).length=ps.length:=by simp[dNs]
 have:=ev_has (pos:=pos) (p:=p) (has_len_tuple hlen (n:=n) (Z:=Z) (w:=w) (ds:=dNs ps) (by rw[e];exact hz)) (Nat.le_refl _) hg (evs_1 hy fun _=>rfl) fun _=>rfl;rw[e] at this;exact this
abbrev scAdd:Scope:=scopeOf (meth 13 2)
theorem add_body{x:NM}{ps:List NM}{k:Nat}(hK:K.In H0)(ck:ClsK K c)(nk:NodeK Z w H0 K c)(gk:GnK K H0 c)(hlen:GIs H0 (S "len") (.builtin "len"))(h:RepOk Z w c r δ)(hr:r.ready=none)(hz:(r.abs.add x ps).names.length≤8)(hk:r.abs.bnd k)(hkz:k+ps.length≤1000):
  GX Z w H0 (n+3) scAdd [(S "self",.v (.ref (r.at' .S))),(S "node",.d (.str (tx x))),(S "predecessors",.d (.tuple (dNs ps)))] δ (bodyOf (meth 13 2)) (fun _ fl _ δ'=>fl=.next∧∃r',RepOk Z w c r' δ'∧r.Same r'∧r'.abs=r.abs.add x ps):=by
 have vs:∀{σ' δ' pos},σ'.lookup (S "self")=some (.v (.ref (r.at' .S)))->EvE Z w H0 (n+3) scAdd σ' δ' (.Name (S "self") pos) (.v (.ref (r.at' .S))):=fun h=>ev_var h;have hps:(dNs ps).length=ps.length:=by simp[dNs]
 have z0:(r.abs.more x ps.length).names.length≤8:=Nat.le_trans (links_len x ps _) (by rw[←add_eq];exact hz);have z1:r.names.length≤8:=Nat.le_trans (get_len r.abs x) z0;refine gx_step (σ₁:=_) (δ₁:=δ) (gt_if (b:=false) (tr_cmp (ev_asNone (by
   have hrv:r.rv=.none:=by unfold Rep.rv;rw[hr]
   rw[←hrv];exact ev_ready hK ck h (vs rfl) fun _=>rfl)) ev_none op_isNotNone1 rfl) (fun q=>absurd q (by decide)) fun _=>gx_nil fun g=>⟨rfl,rfl,rfl⟩) ?_
 refine gx_cons (gt_assignE (gs_gn (x:=x) hK ck nk gk h z1 (vs rfl) (ev_var rfl) fun _=>⟨_,rfl⟩) (settable_of) (fun _ _=>rfl) (fun _ _=>rfl)) (fun g σ' δ' q=>?_) fun g fl σ' δ' hn q=>absurd q.1 hn;obtain⟨_,g1,v,σ₁,⟨rfl,r1,a1,h1,rfl⟩,rfl⟩:=q;have s1:=a1.same;have e1:=a1.abs;refine gx_cons (gt_augNp (x:=x) (k:=ps.length) (i:=r1.np x+ps.length) hK ck h1 a1.mem (ev_var rfl) (ev_lenT hlen (by decide +kernel) (ev_var rfl) (size_le (by omega)) rfl) op_iaddI) (fun g σ' δ'' q=>?_) fun g fl σ' δ' hn q=>absurd q.1 hn;obtain⟨_,rfl,h2,_⟩:=q;generalize hr2:({r1 with np:=fun y=>if y=x then r1.np x+ps.length else r1.np y}:Rep)=r2 at h2;have s2:r.Same r2:=s1.trans (by subst hr2;exact⟨fun _ _=>rfl,fun p hp=>by cases p<;> exact hp,rfl,rfl,rfl⟩)
 have e2:r2.abs=r.abs.more x ps.length:=by
  subst hr2;show(⟨r1.names,fun y=>if y=x then r1.np x+ps.length else r1.np y,r1.succ⟩:Abs)=_;unfold Abs.more;rw[←e1];rfl
 refine gx_cons (gt_of_h (ht_for (x:=false) (ds:=(dNs ps).map .d) [] (fun i σ' δ'=>σ'.lookup (S "self")=some (.v (.ref (r.at' .S)))∧σ'.lookup (S "node")=some (.d (.str (tx x)))∧∃r',RepOk Z w c r' δ'∧r.Same r'∧r'.abs=(ps.take i).foldl (Abs.link x) (r.abs.more x ps.length))
  (Ψ:=fun _ fl σ' δ'=>fl=.next∧∃r',RepOk Z w c r' δ'∧r.Same r'∧r'.abs=r.abs.add x ps) (itf_of (ev_var rfl) src_tuple) ⟨rfl,rfl,r2,h2,s2,e2⟩ (fun _ _ _ _ p hp=>nomatch hp) (fun i e σ' δ' he hJ=>?_) (fun g σ' δ' hJ=>?_) (fun _ _=>rfl) (.inl ⟨_,_,rfl⟩))) (fun g σ' δ' q=>gx_nil fun g=>q) fun g fl σ' δ' hn q=>absurd q.1 hn
 ·obtain⟨l1,l2,r',h',s',e'⟩:=hJ
  rw[getElem?_map,Option.map_eq_some_iff] at he;obtain⟨d,hd,rfl⟩:=he;rw[dNs,getElem?_map,Option.map_eq_some_iff] at hd;obtain⟨p,hp,rfl⟩:=hd;have hi:i<ps.length:=by
   rcases Nat.lt_or_ge i ps.length with q|q
   ·exact q
   ·rw[getElem?_eq_none q] at hp;cases hp
  have htk:ps.take (i+1)=ps.take i++[p]:=by rw[take_add_one,hp];rfl
  have hd:ps.take i++(p::ps.drop (i+1))=ps:=by
   have:ps.drop i=p::ps.drop (i+1):=by
    rw[List.drop_eq_getElem_cons hi];rw[getElem?_eq_getElem hi] at hp;injection hp with hp;rw[hp]
   rw[←this,take_append_drop]
  have z2:((r'.abs).link x p).names.length≤8:=by
   rw[e'];have:((ps.take i++[p]).foldl (Abs.link x) (r.abs.more x ps.length)).names.length≤8:=by
    rw[←htk];refine Nat.le_trans (links_len x (ps.drop (i+1)) _) ?_;rw[←foldl_append,take_append_drop,←add_eq];exact hz
   rw[foldl_append] at this;exact this
  have z3:r'.names.length≤8:=Nat.le_trans (link_len r'.abs x p) z2;have b3:r'.abs.bnd (k+i):=by
   rw[e'];have:=bnd_links x (ps.take i) k _ (bnd_more hk x ps.length);rwa [length_take,Nat.min_eq_left (Nat.le_of_lt hi)] at this
  refine⟨_,as_name (settable_of),hx_of ?_⟩;have so:=s'.old .S trivial;have vs2:∀{σ' δ' pos},σ'.lookup (S "self")=some (.v (.ref (r.at' .S)))->EvE Z w H0 (n+3) scAdd σ' δ' (.Name (S "self") pos) (.v (.ref (r'.at' .S))):=fun h=>by rw[so];exact vs h
  refine gx_cons (gt_assignE (gs_gn (x:=p) hK ck nk gk h' z3 (vs2 l1) (ev_var rfl) fun _=>⟨_,rfl⟩) (settable_of) (fun _ _=>rfl) (fun _ _=>rfl)) (fun g σ' δ' q=>?_) fun g fl σ' δ' hn q=>absurd q.1 hn;obtain⟨_,g1,v,σ₁,⟨rfl,r3,a3,h3,rfl⟩,rfl⟩:=q;obtain⟨oT,mT,hT⟩:=h3.hold (.T p) a3.mem;obtain⟨us,hl,hf⟩:=ownL_lo.mp hT;have b4:r3.abs.bnd (k+i):=by rw[a3.abs];exact bnd_get b3 p
  have hul:us.length≤1000:=by
   have e:=hf.length;have:=b4 p a3.mem;have q:(r3.abs.succ p).length=(r3.succ p).length:=rfl;rw[e,dNs,length_map];omega
  refine gx_cons (gt_appendM (a:=r3.at' (.T p)) (ob:=oT) (vs:=us) (ev_succ hK ck h3 a3.mem (ev_var rfl) fun _=>rfl) mT hl (gs_ev (ev_var (e:=.d (.str (tx x))) l2 (by decide +kernel))) (fun g v σ₁ δ₁ q=>?_) (size_le (by omega)) (fun _=>rfl) rfl (fun _=>rfl) fun _=>rfl) (fun g σ' δ' q=>gx_nil fun g=>?_) fun g fl σ' δ' hn q=>absurd q.1 hn
  ·obtain⟨_,rfl,rfl⟩:=q;exact mT
  obtain⟨_,g1,v,δ₁,o',⟨mv,rfl,rfl⟩,hl',rfl⟩:=q;have mv':Rd (.str (tx x)) g1 v:=mv;have ho':OwnL (dNs (r3.succ p++[x])) o':=ownL_lo.mpr ⟨_,hl',by
   rw[dNs,map_append];exact F2.append hf (.cons (flt_of rfl mv') .nil)⟩
  have h4:=rep_succ h3 a3.mem ho';refine⟨l1,l2,_,h4,s'.trans (a3.same.trans ⟨fun _ _=>rfl,fun p hp=>by cases p<;> exact hp,rfl,rfl,rfl⟩),?_⟩
  rw[htk,foldl_append,←e'];show _=r'.abs.link x p;unfold Abs.link;rw[←a3.abs];rfl
 ·obtain⟨_,_,r',h',s',e'⟩:=hJ
  have e:(dNs ps).length=ps.length:=by simp[dNs]
  rw[length_map,e,take_length,←add_eq] at e';exact⟨rfl,r',h',s',e'⟩
end
theorem meets_bool_new_list(l:Addr)(xs:Array Value)(hfit:(xs.size:Int)<2 ^ 63):
  Meets (Builtin.«bool.__new__» ⟨[.type "bool",.ref l],[]⟩) (fun _ R s=>s.heap.IsList l xs∧R (.ok (.ret (.bool (!xs.isEmpty)))) {s with toks:=s.toks+1+1}):=
 Meets.of_wp fun Z w A R s hs=>by
  obtain⟨hp,g,d,tk,os⟩:=s;obtain⟨hl,hs⟩:=hs;have f1:=F.conv_sub_bool
  repeat (any_goals (first|assumption|(with_reducible refine wpAny_truthy_list hl hfit ?_)|wp_step))
  all_goals first|exact⟨_,rfl,hs⟩|exact hs|skip
theorem call_bool_list{Z:Program}{w:World}{A:Around}{E:Value->Shared->Prop}{s:Shared}{l:Addr}{xs:Array Value}{Q:Value->Shared->Prop}(hl:s.heap.IsList l xs)(hfit:(xs.size:Int)<2 ^ 63)(h:∀tk,Q (.bool (!xs.isEmpty)) {s with toks:=tk}):
  wpAny (model Z w) A (call (.type "bool") [.ref l]) Q E s:=
 call_bool_1 (meets_bool_new_list l xs hfit) ⟨hl,show wants (fun obj s₁=>s₁.TypeIs obj "bool"∧Q obj s₁) E _ _ from⟨rfl,h _⟩⟩
section
variable{K:Frag}
theorem op_isNoneV{a:Addr}:OpBin Z w H0 n (compareOp .Is) (.v (.ref a)) (.d .none) (Rd (.bool false)):=by
 intro A s η u v g B ra rb;cases rd_none rb;have e:u=.ref a:=ra;subst e;exact is_ref_none (Pu.here (bool_rd _ _))
theorem ev_tupleO{e:Expr}{p pos:Pos}{a:Addr}{ob:Obj}{ds:List PyData}(hg:GIs H0 (S "tuple") (.type "tuple"))(hgo:globOk sc (S "tuple")=true)(he:EvE Z w H0 n sc σ δ e (.v (.ref a)))(ho:(a,ob)∈δ)(hl:OwnL ds ob)(hz:ds.length≤sizeLine)
  (hb:∀V,backTo pos (starEach [e] V)=[(false,eval e V)])(hb2:∀V,(backTo pos (starEach [e] V)).any (·.1)=false):EvE Z w H0 n sc σ δ (.Call (.Name (S "tuple") p) [e] [] pos) (.d (.tuple ds)):=by
 intro A V s η g o F;refine Call_Name rfl (seqP (ev_gl hg hgo A V s η g o F) fun v s₁ q=>?_);have e1:=q.val;subst e1;have F1:=F.ext q.ext;refine callWith_P (V:=V) F1.toBase.h0 callee_type (hb2 V) (evs_1 he hb A V s₁ η g o F1) fun vs s2 q2=>?_;have F2:=F1.ext q2.ext;have mv:=q2.val
 match vs,mv with
 |[u],⟨hu,_⟩=>
 have e2:u=.ref a:=hu;subst e2;obtain⟨vs,k,hL,f⟩:=ownL_isL hl (F2.ledg _ ho);have sz:(toArray vs).size≤sizeLine:=by rw[size_toArray,f.length];exact hz
 refine call_tuple_list hL.isList (fun h' hk=>?_) sz;have fr:s2.heap.get? h'.objs.size=none:=by
  cases e:s2.heap.get? h'.objs.size with
  |none=>rfl
  |some o=>exact absurd (Heap.lt_size (hk _ _ e)) (Nat.lt_irrefl _)
 refine(q.trans q2).trans ⟨_,s2.toks,rfl,fun b o e=>Heap.get?_push_of_some _ (hk b o e),?_⟩;have nh:h'.objs.size∉η:=fun m=>by
  obtain⟨o,e⟩:=F2.alive _ m;rw[fr] at e;cases e
 exact tuple_rd (vs:=vs) ⟨_,vis_get (Heap.get?_push_size _ rfl) nh,rfl,_,rfl⟩ (f.imp fun v d hv=>hv _)
theorem ev_boolO{e:Expr}{p pos:Pos}{a:Addr}{ob:Obj}{ds:List PyData}(hg:GIs H0 (S "bool") (.type "bool"))(hgo:globOk sc (S "bool")=true)(he:EvE Z w H0 n sc σ δ e (.v (.ref a)))(ho:(a,ob)∈δ)(hl:OwnL ds ob)(hz:ds.length≤sizeLine)
  (hb:∀V,backTo pos (starEach [e] V)=[(false,eval e V)])(hb2:∀V,(backTo pos (starEach [e] V)).any (·.1)=false):EvE Z w H0 n sc σ δ (.Call (.Name (S "bool") p) [e] [] pos) (.d (.bool (!ds.isEmpty))):=by
 intro A V s η g o F;refine Call_Name rfl (seqP (ev_gl hg hgo A V s η g o F) fun v s₁ q=>?_);have e1:=q.val;subst e1;have F1:=F.ext q.ext;refine callWith_P (V:=V) F1.toBase.h0 callee_type (hb2 V) (evs_1 he hb A V s₁ η g o F1) fun vs s2 q2=>?_;have F2:=F1.ext q2.ext;have mv:=q2.val
 match vs,mv with
 |[u],⟨hu,_⟩=>
 have e2:u=.ref a:=hu;subst e2;obtain⟨vs,k,hL,f⟩:=ownL_isL hl (F2.ledg _ ho);have e:(!(toArray vs).isEmpty)=!ds.isEmpty:=by
  have:=f.length;cases vs<;> cases ds<;> simp_all
 refine call_bool_list hL.isList (by rw[size_toArray,f.length];have:sizeLine=2 ^ 24:=rfl;omega) fun tk=>?_;rw[e];exact(q.trans q2).trans (Pu.tok (bool_rd _ _))
end
def Rep.outs(r:Rep)(l:List NM):Rep:={r with np:=fun y=>if y∈l then -1 else r.np y}
def Rep.got(r:Rep)(l:List NM):Rep:={r.outs l with ready:=some [],passed:=r.passed+l.length}
theorem ev_lit{Z:Program}{w:World}{H0:Heap}{n:Nat}{sc:Scope}{σ:Sto}{δ:Led}{x:Str}{p:Pos}{i:Int}(h:∃t,GIs H0 x (.int i t))(hg:globOk sc x=true:=by decide +kernel):EvE Z w H0 n sc σ δ (.Name x p) (.d (.int i)):=by
 obtain⟨t,h⟩:=h;exact ev_asInt (ev_gl h hg)
section
variable{K:Frag}{c:Cls2}{r:Rep}
theorem rep_fields(h:RepOk Z w c r δ){r':Rep}{o':Obj}(hn:r'.names=r.names)(hat:r'.at'=r.at')(hnp:r'.np=r.np)(hs:r'.succ=r.succ)(hrd:r'.ready=r.ready)(hf:∃t1 t2,FD (r'.fields t1 t2) o'):RepOk Z w c r' (setLed (r.at' .dS) o' δ):=by
 obtain⟨a,ns,np,su,rd,pa,fi⟩:=r';dsimp at hn hat hnp hs hrd;subst hn hat hnp hs hrd;refine h.upd (p₀:=.dS) rfl (fun p hp=>by cases p<;> exact hp) trivial hf fun p hp ok o sh=>?_
 cases p<;> first|exact sh|exact absurd rfl hp
theorem rep_ready(h:RepOk Z w c r δ){l l':List NM}(hr:r.ready=some l){o':Obj}(ho:OwnL (dNs l') o'):RepOk Z w c {r with ready:=some l'} (setLed (r.at' .R) o' δ):=by
 have hrv:∀p,({r with ready:=some l'}:Rep).ok p->r.ok p:=fun p hp=>by
  cases p with
  |R=>show r.ready.isSome=true;rw[hr];rfl
  |_=>exact hp
 refine h.upd (p₀:=.R) rfl hrv (by show r.ready.isSome=true;rw[hr];rfl) ho fun p hp ok o sh=>?_;cases p with
 |R=>exact absurd rfl hp
 |dS=>
  obtain⟨t1,t2,f⟩:=sh;refine⟨t1,t2,?_⟩;have e:({r with ready:=some l'}:Rep).fields t1 t2=r.fields t1 t2:=by
   unfold Rep.fields Rep.rv;rw[hr]
  rw[e];exact f
 |_=>exact sh
theorem gt_setNp{e value:Expr}{p pos:Pos}{x:NM}{i:Int}(hK:K.In H0)(ck:ClsK K c)(h:RepOk Z w c r δ)(hx:x∈r.names)(he:EvE Z w H0 n sc σ δ e (.v (.ref (r.at' (.I x)))))(hv:EvE Z w H0 n sc σ δ value (.d (.int i)))(hs:∀V,swapsWith value (some (.Attribute e (S "npredecessors") p)) pos.line V=pure false):
  GT Z w H0 n sc σ δ (.Assign [.Attribute e (S "npredecessors") p] value pos) (fun _ fl σ' δ'=>fl=.next∧σ'=σ∧RepOk Z w c {r with np:=fun y=>if y=x then i else r.np y} δ'∧∃o',δ'=setLed (r.at' (.I x)) o' δ):=by
 obtain⟨o,m,t1,t2,rfl⟩:=h.hold (.I x) hx;obtain⟨o,m',_⟩:=h.hold (.e x) hx;obtain⟨pp,sp⟩:=ck.s1;refine gs_mono (gt_setS (x:=r.at' (.I x)) (dx:=r.at' (.e x)) (sl:=#[some (.str (tx x) t1),some (.int (r.np x) t2),some (.ref (r.at' (.T x)))]) hK ck.c2 (gs_ev hv) (fun g v σ₁ δ₁ q=>?_) sp hs) fun g fl σ' δ' q=>?_
 ·obtain⟨_,rfl,rfl⟩:=q
  exact⟨he,m,_,m'⟩
 ·obtain⟨e1,g1,v,δ₁,⟨mv,rfl,rfl⟩,rfl⟩:=q
  obtain⟨t',rfl⟩:=rd_int mv;exact⟨e1,rfl,rep_np h hx rfl rfl,_,rfl⟩
theorem ev_item{e k:Expr}{pos:Pos}{x:NM}(h:RepOk Z w c r δ)(hx:x∈r.names)(he:EvE Z w H0 n sc σ δ e (.v (.ref (r.at' .D))))(hk:EvE Z w H0 n sc σ δ k (.d (.str (tx x))))(hs:plainSlice k):
  EvE Z w H0 n sc σ δ (.Subscript e k pos) (.v (.ref (r.at' (.I x)))):=by
 obtain⟨oD,mD,hD⟩:=h.hold .D trivial;exact ev_itemO he mD hD hk (by rw[valueAt_names (fun y=>Value.ref (r.at' (.I y))),if_pos hx]) hs
theorem rv_some{l:List NM}(hr:r.ready=some l):r.rv=.ref (r.at' .R):=by unfold Rep.rv;rw[hr]
theorem ev_readyS{e:Expr}{pos:Pos}{l:List NM}(hK:K.In H0)(ck:ClsK K c)(h:RepOk Z w c r δ)(hr:r.ready=some l)(he:EvE Z w H0 n sc σ δ e (.v (.ref (r.at' .S))))(ha:attrEv e (S "_ready_nodes") pos):EvE Z w H0 n sc σ δ (.Attribute e (S "_ready_nodes") pos) (.v (.ref (r.at' .R))):=by
 rw[←rv_some hr];exact ev_ready hK ck h he ha
theorem tr_notReady{e:Expr}{pa p0 pos:Pos}{l:List NM}{k:Nat}(hK:K.In H0)(ck:ClsK K c)(h:RepOk Z w c r δ)(hr:r.ready=some l)(he:EvE Z w H0 n sc σ δ e (.v (.ref (r.at' .S))))(ha:attrEv e (S "_ready_nodes") pa)(hm:behindInMarks .Is (.Constant .none k p0)=false):
  TrP Z w H0 n sc σ δ (.Compare (.Attribute e (S "_ready_nodes") pa) [.Is] [.Constant .none k p0] pos) false:=
 tr_cmp (ev_readyS hK ck h hr he ha) ev_none op_isNoneV hm
theorem gx_set{e:Expr}{y:Str}{py pos:Pos}{rest:List Stmt}{x:Ent}{Φ:PostS}(h:EvE Z w H0 n sc σ δ e x)(hr:GX Z w H0 n sc ((y,x)::σ) δ rest Φ)(hy:settable sc y)(hs:∀V,EnvOk sc V->swapsWith e (some (.Name y py)) pos.line V=pure false)(hw:∀V,EnvOk sc V->swappedStores [.Name y py] e V=pure none):
  GX Z w H0 n sc σ δ (.Assign [.Name y py] e pos::rest) Φ:=gx_step (gt_st (st_assign h (as_name hy) hs hw fun _=>rfl)) hr
abbrev scGR:Scope:=scopeOf (meth 13 4)
theorem got_body{l:List NM}(hK:K.In H0)(ck:ClsK K c)(hlen:GIs H0 (S "len") (.builtin "len"))(htup:GIs H0 (S "tuple") (.type "tuple"))(hout:∃t,GIs H0 (S "_NODE_OUT") (.int (-1) t))(h:RepOk Z w c r δ)(hr:r.ready=some l)(hz:l.length≤1000)(hl:∀x∈l,x∈r.names):
  GX Z w H0 n scGR [(S "self",.v (.ref (r.at' .S)))] δ (bodyOf (meth 13 4)) (fun g fl _ δ'=>∃v,fl=.ret v∧Rd (.tuple (dNs l)) g v∧RepOk Z w c (r.got l) δ'):=by
 have vs:∀{σ' δ' pos},σ'.lookup (S "self")=some (.v (.ref (r.at' .S)))->EvE Z w H0 n scGR σ' δ' (.Name (S "self") pos) (.v (.ref (r.at' .S))):=fun h=>ev_var h;have hzl:(dNs l).length=l.length:=by simp[dNs]
 refine gx_step (σ₁:=_) (δ₁:=δ) (gt_if (b:=false) (tr_notReady hK ck h hr (vs rfl) (fun _=>rfl) rfl) (fun q=>absurd q (by decide)) fun _=>gx_nil fun g=>⟨rfl,rfl,rfl⟩) ?_;obtain⟨oR,mR,hR⟩:=h.hold .R (by show r.ready.isSome=true;rw[hr];rfl);have hR':OwnL (dNs l) oR:=by
  have:OwnL (dNs (r.ready.getD [])) oR:=hR;rw[hr] at this;exact this
 refine gx_set (x:=.d (.tuple (dNs l))) (ev_tupleO (a:=r.at' .R) htup (by decide +kernel) (ev_readyS hK ck h hr (vs rfl) fun _=>rfl) mR hR' (by rw[hzl];exact size_le (by omega)) (fun _=>rfl) fun _=>rfl) ?_ (settable_of) (fun _ _=>rfl) (fun _ _=>rfl);refine gx_set (x:=.v (.ref (r.at' .D))) (ev_n2i hK ck h (vs rfl) fun _=>rfl) ?_ (settable_of) (fun _ _=>rfl) (fun _ _=>rfl);refine gx_cons (gt_of_h (ht_for (x:=false) (ds:=(dNs l).map .d) [] (fun i σ' δ'=>σ'.lookup (S "self")=some (.v (.ref (r.at' .S)))∧σ'.lookup (S "n2i")=some (.v (.ref (r.at' .D)))∧σ'.lookup (S "result")=some (.d (.tuple (dNs l)))∧RepOk Z w c (r.outs (l.take i)) δ')
  (Ψ:=fun _ fl σ' δ'=>fl=.next∧σ'.lookup (S "self")=some (.v (.ref (r.at' .S)))∧σ'.lookup (S "result")=some (.d (.tuple (dNs l)))∧RepOk Z w c (r.outs l) δ') (itf_of (ev_var rfl) src_tuple) ⟨rfl,rfl,rfl,?_⟩ (fun _ _ _ _ p hp=>nomatch hp) (fun i e σ' δ' he hJ=>?_) (fun g σ' δ' hJ=>?_) (fun _ _=>rfl) (.inl ⟨_,_,rfl⟩))) (fun g σ' δ' q=>?_) fun g fl σ' δ' hn q=>absurd q.1 hn
 ·have e:r.outs (l.take 0)=r:=by unfold Rep.outs;simp
  rw[e];exact h
 ·obtain⟨l1,l2,l3,h'⟩:=hJ
  rw[getElem?_map,Option.map_eq_some_iff] at he;obtain⟨d,hd,rfl⟩:=he;rw[dNs,getElem?_map,Option.map_eq_some_iff] at hd;obtain⟨p,hp,rfl⟩:=hd;have hpl:p∈l:=mem_of_getElem? hp;refine⟨_,as_name (settable_of),hx_of ?_⟩;refine gx_cons (gt_setNp (x:=p) (i:= -1) hK ck h' (hl p hpl) (ev_item h' (hl p hpl) (show EvE _ _ _ _ _ _ _ _ (.v (.ref (r.at' .D))) from ev_var l2) (ev_var rfl) fun _ _=>rfl) (ev_lit hout) fun _=>rfl) (fun g σ' δ' q=>gx_nil fun g=>?_) fun g fl σ' δ' hn q=>absurd q.1 hn;obtain⟨_,rfl,h2,_⟩:=q;refine⟨l1,l2,l3,?_⟩;have e:r.outs (l.take (i+1))={r.outs (l.take i) with np:=fun y=>if y=p then -1 else (r.outs (l.take i)).np y}:=by
   have ht:l.take (i+1)=l.take i++[p]:=by rw[take_add_one,hp];rfl
   unfold Rep.outs;rw[ht]
   congr 1
   funext y
   by_cases hy:y=p
   ·subst hy;simp
   ·simp[hy]
  rw[e];exact h2
 ·obtain⟨l1,l2,l3,h'⟩:=hJ
  rw[length_map,hzl,take_length] at h';exact⟨rfl,l1,l3,h'⟩
 obtain⟨_,l1,l3,h2⟩:=q;obtain⟨oR,mR,hR⟩:=h2.hold .R (by show r.ready.isSome=true;rw[hr];rfl);have hR':OwnL (dNs l) oR:=by
  have:OwnL (dNs (r.ready.getD [])) oR:=hR;rw[hr] at this;exact this
 obtain⟨us,hlo,hf⟩:=ownL_lo.mp hR';have hr2:(r.outs l).ready=some l:=hr;refine gx_cons (gt_clearM (a:=r.at' .R) (vs:=us) (ev_readyS (r:=r.outs l) hK ck h2 hr2 (show EvE _ _ _ _ _ _ _ _ (.v (.ref (r.at' .S))) from vs l1) fun _=>rfl) mR hlo (by rw[hf.length,hzl];exact size_le (by omega)) (fun _=>rfl) rfl fun _=>rfl) (fun g σ'' δ'' q=>?_) fun g fl σ' δ' hn q=>absurd q.1 hn;obtain⟨_,rfl,o',ho',rfl⟩:=q;have h3:=rep_ready (l':=[]) h2 hr2 (o':=o') (ownL_lo.mpr ⟨[],ho',.nil⟩);obtain⟨oS,mS,rfl⟩:=h3.hold .S trivial;obtain⟨oF,mF,t1,t2,f⟩:=h3.hold .dS trivial;refine gx_cons (gt_augD (x:=r.at' .S) (dx:=r.at' .dS) (i:=r.passed) (k:=l.length) (r:=r.passed+l.length) hK ck.c1 (vs l1) mS mF f ck.f3 rfl (ev_lenT hlen (by decide +kernel) (ev_var l3) (size_le (by omega)) rfl) op_iaddI (show(4:Nat)≤100 by decide)) (fun g σ3 δ3 q=>?_) fun g fl σ' δ' hn q=>absurd q.1 hn;obtain⟨_,rfl,t',od',hfd,rfl⟩:=q;have h4:RepOk Z w c (r.got l) (setLed (r.at' .dS) od' _):=rep_fields h3 (r':=r.got l) rfl rfl rfl rfl rfl ⟨t',t2,hfd⟩;exact gx_last (gs_mono (gt_return (show EvE _ _ _ _ _ _ _ _ (.d (.tuple (dNs l))) from ev_var l3)) fun g fl σ' δ' q=>by
  obtain⟨⟨v,e,m⟩,rfl⟩:=q;exact⟨v,e,m,h4⟩) fun g σ' δ' q=>by
  obtain⟨v,e,_⟩:=q;cases e
end
def Rep.putNp(r:Rep)(x:NM)(i:Int):Rep:={r with np:=fun y=>if y=x then i else r.np y}
def Rep.dec(r:Rep)(y:NM):Rep:={r.putNp y (r.np y - 1) with ready:=if r.np y - 1=0 then r.ready.map (·++[y]) else r.ready}
def Rep.decs(r:Rep)(l:List NM):Rep:=l.foldl Rep.dec r
def Rep.done(r:Rep)(x:NM):Rep:={(r.putNp x (-2)).decs (r.succ x) with fin:=r.fin+1}
theorem decs_at:∀(l:List NM) (r:Rep),(r.decs l).at'=r.at'∧(r.decs l).names=r.names∧(r.decs l).succ=r.succ∧(r.decs l).passed=r.passed∧(r.decs l).fin=r.fin
 |[],r=>⟨rfl,rfl,rfl,rfl,rfl⟩
 |y::l,r=>decs_at l (r.dec y)
theorem decs_ready:∀(l:List NM) (r:Rep) (m:List NM),r.ready=some m->∃m',(r.decs l).ready=some m'∧m'.length≤m.length+l.length
 |[],r,m,h=>⟨m,h,Nat.le_refl _⟩
 |y::l,r,m,h=>by
  have:∃m1,(r.dec y).ready=some m1∧m1.length≤m.length+1:=by
   show∃m1,(if r.np y - 1=0 then r.ready.map (·++[y]) else r.ready)=some m1∧_;rw[h];split
   ·exact⟨m++[y],rfl,by simp⟩
   ·exact⟨m,rfl,Nat.le_succ _⟩
  obtain⟨m1,h1,h2⟩:=this;obtain⟨m2,h3,h4⟩:=decs_ready l (r.dec y) m1 h1;exact⟨m2,h3,by rw[length_cons];omega⟩
section
variable{K:Frag}{c:Cls2}{r:Rep}
theorem ev_npE{e:Expr}{pos:Pos}{x:NM}{i:Int}(hK:K.In H0)(ck:ClsK K c)(h:RepOk Z w c r δ)(hx:x∈r.names)(hi:r.np x=i)(he:EvE Z w H0 n sc σ δ e (.v (.ref (r.at' (.I x)))))(ha:attrEv e (S "npredecessors") pos):EvE Z w H0 n sc σ δ (.Attribute e (S "npredecessors") pos) (.d (.int i)):=by
 subst hi;exact ev_np hK ck h hx he ha
abbrev scIA:Scope:=scopeOf (meth 13 5)
theorem act_body{l:List NM}(hK:K.In H0)(ck:ClsK K c)(hbool:GIs H0 (S "bool") (.type "bool"))(h:RepOk Z w c r δ)(hr:r.ready=some l)(hz:l.length≤1000):
  GX Z w H0 n scIA [(S "self",.v (.ref (r.at' .S)))] δ (bodyOf (meth 13 5)) (fun g fl _ δ'=>(∃v,fl=.ret v∧Rd (.bool (decide (r.fin<r.passed) ||!l.isEmpty)) g v)∧δ'=δ):=by
 have vs:∀{σ' δ' pos},σ'.lookup (S "self")=some (.v (.ref (r.at' .S)))->EvE Z w H0 n scIA σ' δ' (.Name (S "self") pos) (.v (.ref (r.at' .S))):=fun h=>ev_var h;have hzl:(dNs l).length=l.length:=by simp[dNs]
 refine gx_step (σ₁:=_) (δ₁:=δ) (gt_if (b:=false) (tr_notReady hK ck h hr (vs rfl) (fun _=>rfl) rfl) (fun q=>absurd q (by decide)) fun _=>gx_nil fun g=>⟨rfl,rfl,rfl⟩) ?_;obtain⟨oR,mR,hR⟩:=h.hold .R (by show r.ready.isSome=true;rw[hr];rfl);have hR':OwnL (dNs l) oR:=by
  have:OwnL (dNs (r.ready.getD [])) oR:=hR;rw[hr] at this;exact this
 have e:(dNs l).isEmpty=l.isEmpty:=by cases l<;> rfl
 refine gx_last (gt_return (P:=fun g v=>Rd (.bool (decide (r.fin<r.passed) ||!l.isEmpty)) g v) (ev_boolop (x:=.d _) (bos_or (ev_cmp (ev_fin hK ck h (vs rfl) fun _=>rfl) (ev_passed hK ck h (vs rfl) fun _=>rfl) op_ltI rfl) fun _=>bos_one (by
  rw[←e];exact ev_boolO (a:=r.at' .R) hbool (by decide +kernel) (ev_readyS hK ck h hr (vs rfl) fun _=>rfl) mR hR' (by rw[hzl];exact size_le (by omega)) (fun _=>rfl) fun _=>rfl)))) fun g σ' δ' q=>by
  obtain⟨⟨v,e,_⟩,_⟩:=q;cases e
abbrev scDn:Scope:=scopeOf (meth 13 7)
theorem done_body{x:NM}{l:List NM}(hK:K.In H0)(ck:ClsK K c)(hout:∃t,GIs H0 (S "_NODE_OUT") (.int (-1) t))(hdn:∃t,GIs H0 (S "_NODE_DONE") (.int (-2) t))(h:RepOk Z w c r δ)(hr:r.ready=some l)(hx:x∈r.names)(hnp:r.np x= -1)(hs:∀y∈r.succ x,y∈r.names)(hz:l.length+(r.succ x).length≤1000):
  GX Z w H0 n scDn [(S "self",.v (.ref (r.at' .S))),(S "nodes",.d (.tuple (dNs [x])))] δ (bodyOf (meth 13 7)) (fun _ fl _ δ'=>fl=.next∧RepOk Z w c (r.done x) δ'):=by
 have vs:∀{σ' δ' pos},σ'.lookup (S "self")=some (.v (.ref (r.at' .S)))->EvE Z w H0 n scDn σ' δ' (.Name (S "self") pos) (.v (.ref (r.at' .S))):=fun h=>ev_var h;refine gx_step (σ₁:=_) (δ₁:=δ) (gt_if (b:=false) (tr_notReady hK ck h hr (vs rfl) (fun _=>rfl) rfl) (fun q=>absurd q (by decide)) fun _=>gx_nil fun g=>⟨rfl,rfl,rfl⟩) ?_;refine gx_set (x:=.v (.ref (r.at' .D))) (ev_n2i hK ck h (vs rfl) fun _=>rfl) ?_ (settable_of) (fun _ _=>rfl) (fun _ _=>rfl);refine gx_cons (gt_of_h (ht_for (x:=false) (ds:=(dNs [x]).map .d) [] (fun i σ' δ'=>σ'.lookup (S "self")=some (.v (.ref (r.at' .S)))∧σ'.lookup (S "n2i")=some (.v (.ref (r.at' .D)))∧(i=0->δ'=δ)∧(i=1->RepOk Z w c (r.done x) δ'))
  (Ψ:=fun _ fl σ' δ'=>fl=.next∧RepOk Z w c (r.done x) δ') (itf_of (ev_var rfl) src_tuple) ⟨rfl,rfl,fun _=>rfl,fun e=>by cases e⟩ (fun _ _ _ _ p hp=>nomatch hp) (fun i e σ' δ' he hJ=>?_) (fun g σ' δ' hJ=>⟨rfl,hJ.2.2.2 rfl⟩) (fun _ _=>rfl) (.inl ⟨_,_,rfl⟩))) (fun g σ' δ' q=>gx_nil fun g=>q) fun g fl σ' δ' hn q=>absurd q.1 hn
 obtain⟨l1,l2,hJ,_⟩:=hJ;have hi:i=0:=by
  cases i with
  |zero=>rfl
  |succ i=>simp[dNs] at he
 subst hi;obtain rfl:=hJ rfl;have e0:e=.d (.str (tx x)):=by
  have:some (Ent.d (.str (tx x)))=some e:=he;injection this with q;exact q.symm
 subst e0;refine⟨_,as_name (settable_of),hx_of ?_⟩;obtain⟨oD,mD,hD⟩:=h.hold .D trivial;have hget:=valueAt_names (fun y=>Value.ref (r.at' (.I y))) r.names x;rw[if_pos hx] at hget;refine gx_cons (gt_of_h (Ψ:=nextIs ((S "nodeinfo",.v (.ref (r.at' (.I x))))::(S "node",.d (.str (tx x)))::σ') δ') (ht_ifg (x:=false) (gsf_of (gs_walrus (y:=S "nodeinfo") (v:=.ref (r.at' (.I x))) (ev_getO (d:=r.at' .D) (x:=tx x) (show EvE _ _ _ _ _ _ _ _ (.v (.ref (r.at' .D))) from ev_var l2) mD hD h.lo (ev_var rfl) (by rw[hget];rfl) (fun _=>rfl) (by decide) fun _=>rfl) (settable_of) (.inr ⟨_,rfl⟩)))
  (fun g σ' δ' q=>absurd q.1 (by simp)) fun g σ' δ' q=>hx_nil fun g=>⟨rfl,q.2.1,q.2.2⟩)) (fun g σ₁ δ₁ q=>?_) fun g fl σ' δ' hn q=>absurd q.1 hn
 obtain⟨_,rfl,rfl⟩:=q;refine gx_set (x:=.d (.int (-1))) (ev_npE hK ck h hx hnp (ev_var rfl) fun _=>rfl) ?_ (settable_of) (fun _ _=>rfl) (fun _ _=>rfl);refine gx_step (gt_if (b:=false) (tr_cmp (ev_var (e:=.d (.int (-1))) rfl (by decide +kernel)) (ev_lit hout) (op_neD rfl rfl) rfl) (fun q=>absurd q (by decide)) fun _=>gx_nil fun g=>⟨rfl,rfl,rfl⟩) ?_;refine gx_cons (gt_setNp (x:=x) (i:= -2) hK ck h hx (ev_var rfl) (ev_lit hdn) fun _=>rfl) (fun g σ2 δ2 q=>?_) fun g fl σ' δ' hn q=>absurd q.1 hn;obtain⟨_,rfl,h2,_⟩:=q;have h2:RepOk Z w c (r.putNp x (-2)) δ2:=h2;obtain⟨oT,mT,hT⟩:=h2.hold (.T x) hx;have hT:OwnL (dNs (r.succ x)) oT:=hT;have hzs:(dNs (r.succ x)).length=(r.succ x).length:=by simp[dNs]
 refine gx_cons (gt_of_h (ht_for (x:=false) (ds:=(dNs (r.succ x)).map .d) [(r.at' (.T x),oT)] (fun i σ' δ'=>σ'.lookup (S "self")=some (.v (.ref (r.at' .S)))∧σ'.lookup (S "n2i")=some (.v (.ref (r.at' .D)))∧(r.at' (.T x),oT)∈δ'∧RepOk Z w c ((r.putNp x (-2)).decs ((r.succ x).take i)) δ')
  (Ψ:=fun _ fl σ' δ'=>fl=.next∧σ'.lookup (S "self")=some (.v (.ref (r.at' .S)))∧σ'.lookup (S "n2i")=some (.v (.ref (r.at' .D)))∧RepOk Z w c ((r.putNp x (-2)).decs (r.succ x)) δ')
  (itf_own (ev_succ (r:=r.putNp x (-2)) (x:=x) hK ck h2 hx (ev_var rfl) fun _=>rfl) mT hT) ⟨l1,l2,mT,h2⟩ (fun i σ' δ' hJ p hp=>by rw[mem_singleton.mp hp];exact hJ.2.2.1) (fun i e σ' δ' he hJ=>?_) (fun g σ' δ' hJ=>?_) (fun _ _=>rfl) (.inl ⟨_,_,rfl⟩))) (fun g σ3 δ3 q=>?_) fun g fl σ' δ' hn q=>absurd q.1 hn
 ·obtain⟨l1,l2,mT',h'⟩:=hJ
  rw[getElem?_map,Option.map_eq_some_iff] at he;obtain⟨d,hd,rfl⟩:=he;rw[dNs,getElem?_map,Option.map_eq_some_iff] at hd;obtain⟨y,hp,rfl⟩:=hd;have hyl:y∈r.succ x:=mem_of_getElem? hp;have htk:(r.succ x).take (i+1)=(r.succ x).take i++[y]:=by rw[take_add_one,hp];rfl
  have hdec:(r.putNp x (-2)).decs ((r.succ x).take (i+1))=((r.putNp x (-2)).decs ((r.succ x).take i)).dec y:=by
   unfold Rep.decs;rw[htk,foldl_append];rfl
  obtain⟨ea,en,es,_,_⟩:=decs_at ((r.succ x).take i) (r.putNp x (-2));obtain⟨m,hm,hml⟩:=decs_ready ((r.succ x).take i) (r.putNp x (-2)) l hr;rw[hdec];generalize (r.putNp x (-2)).decs ((r.succ x).take i)=r' at h' ea en es hm;have ea:r'.at'=r.at':=ea;have hyn:y∈r'.names:=by rw[en];exact hs y hyl
  have hTn:x∈r'.names:=by rw[en];exact hx
  refine⟨_,as_name (settable_of),hx_of ?_⟩;refine gx_set (x:=.v (.ref (r'.at' (.I y)))) (ev_item h' hyn (by rw[ea];exact ev_var l2) (ev_var rfl) fun _ _=>rfl) ?_ (settable_of) (fun _ _=>rfl) (fun _ _=>rfl);refine gx_cons (gt_augNp (x:=y) (k:=1) (i:=r'.np y - 1) hK ck h' hyn (ev_var rfl) ev_int op_isubI) (fun g σ₁ δ₁ q=>?_) fun g fl σ' δ' hn q=>absurd q.1 hn;obtain⟨_,rfl,h3,o',rfl⟩:=q;have h3:RepOk Z w c (r'.putNp y (r'.np y - 1)) _:=h3;have hne:r.at' (.T x)≠r'.at' (.I y):=fun e=>by
   rw[←ea] at e;exact absurd (h'.apart (.T x) (.I y) hTn hyn e) (by intro q;cases q)
  have mT3:=mem_setLed_ne (o':=o') mT' hne;have hnp3:(r'.putNp y (r'.np y - 1)).np y=r'.np y - 1:=if_pos rfl;refine gx_cons (gt_if (b:=(r'.np y - 1==0)) (tr_cmp (ev_npE (r:=r'.putNp y (r'.np y - 1)) (x:=y) hK ck h3 hyn hnp3 (ev_var rfl) fun _=>rfl) ev_int op_eqI rfl)
   (Ψ:=fun _ fl σ' δ'=>fl=.next∧σ'.lookup (S "self")=some (.v (.ref (r.at' .S)))∧σ'.lookup (S "n2i")=some (.v (.ref (r.at' .D)))∧(r.at' (.T x),oT)∈δ'∧RepOk Z w c (r'.dec y) δ') (fun hb=>?_) fun hb=>gx_nil fun g=>?_) (fun g σ2 δ2 q=>gx_nil fun g=>q.2) fun g fl σ' δ' hn q=>absurd q.1 hn
  ·obtain⟨oR,mR,hR⟩:=h3.hold .R (by show r'.ready.isSome=true;rw[hm];rfl)
   have hR':OwnL (dNs m) oR:=by
    have:OwnL (dNs (r'.ready.getD [])) oR:=hR;rw[hm] at this;exact this
   obtain⟨us,hlo,hf⟩:=ownL_lo.mp hR';have hul:us.length=m.length:=by rw[hf.length,dNs,length_map]
   have hlt:((r.succ x).take i).length≤(r.succ x).length:=by rw[length_take];exact Nat.min_le_right _ _
   refine gx_cons (gt_appendM (a:=r'.at' .R) (ob:=oR) (vs:=us) (ev_readyS (r:=r'.putNp y (r'.np y - 1)) (l:=m) hK ck h3 hm (by show EvE _ _ _ _ _ _ _ _ (.v (.ref (r'.at' .S)));rw[ea];exact vs l1) fun _=>rfl) mR hlo (gs_ev (ev_var (e:=.d (.str (tx y))) rfl (by decide +kernel))) (fun g v σ₁ δ₁ q=>?_) (size_le (by omega)) (fun _=>rfl) rfl (fun _=>rfl) fun _=>rfl) (fun g σ2 δ2 q=>gx_nil fun g=>?_) fun g fl σ' δ' hn q=>absurd q.1 hn
   ·obtain⟨_,rfl,rfl⟩:=q;exact mR
   obtain⟨_,g1,v,δ₁,o2,⟨mv,rfl,rfl⟩,hl',rfl⟩:=q;have mv':Rd (.str (tx y)) g1 v:=mv;have h4:=rep_ready (r:=r'.putNp y (r'.np y - 1)) (l':=m++[y]) h3 hm (ownL_lo.mpr ⟨_,hl',by
    rw[dNs,map_append];exact F2.append hf (.cons (flt_of rfl mv') .nil)⟩)
   have e4:r'.dec y={r'.putNp y (r'.np y - 1) with ready:=some (m++[y])}:=by
    have hb':r'.np y - 1=0:=by simpa using hb
    unfold Rep.dec;rw[if_pos hb',hm];rfl
   refine⟨rfl,l1,l2,mem_setLed_ne mT3 fun e=>?_,by rw[e4];exact h4⟩;have e:r.at' (.T x)=r'.at' .R:=e;rw[←ea] at e;exact absurd (h'.apart (.T x) .R hTn (by show r'.ready.isSome=true;rw[hm];rfl) e) (by intro q;cases q)
  ·have e4:r'.dec y=r'.putNp y (r'.np y - 1):=by
    have hb':¬(r'.np y - 1=0):=by simpa using hb
    unfold Rep.dec;rw[if_neg hb'];rfl
   exact⟨rfl,l1,l2,mT3,by rw[e4];exact h3⟩
 ·obtain⟨l1,l2,mT',h'⟩:=hJ
  rw[length_map,hzs,take_length] at h';exact⟨rfl,l1,l2,h'⟩
 ·obtain⟨_,l1,l2,h3⟩:=q
  obtain⟨ea,en,es,ep,ef⟩:=decs_at (r.succ x) (r.putNp x (-2));have hd:r.done x={(r.putNp x (-2)).decs (r.succ x) with fin:=r.fin+1}:=rfl;rw[hd];generalize (r.putNp x (-2)).decs (r.succ x)=r' at h3 ea en es ep ef;have ea:r'.at'=r.at':=ea;have ef:r'.fin=r.fin:=ef;obtain⟨oS,mS,rfl⟩:=h3.hold .S trivial;obtain⟨oF,mF,t1,t2,f⟩:=h3.hold .dS trivial;refine gx_cons (gt_augD (x:=r'.at' .S) (dx:=r'.at' .dS) (i:=r'.fin) (k:=1) (r:=r.fin+1) hK ck.c1 (by rw[ea];exact vs l1) mS mF f ck.f4 rfl ev_int (by rw[ef];exact op_iaddI) (show(4:Nat)≤100 by decide)) (fun g σ3 δ3 q=>gx_nil fun g=>?_) fun g fl σ' δ' hn q=>absurd q.1 hn;obtain⟨_,rfl,t',od',hfd,rfl⟩:=q;exact⟨l1,l2,(fun e=>by cases e),fun _=>rep_fields h3 (r':={r' with fin:=r.fin+1}) rfl rfl rfl rfl rfl ⟨t1,t',hfd⟩⟩
end
def Rep.new(a d D:Addr):Rep:=⟨fun p=>match p with|.dS=>d|.D=>D|_=>a,[],fun _=>0,fun _=>[],none,0,0⟩
section
variable{K:Frag}{c:Cls2}{r:Rep}
abbrev scSI:Scope:=scopeOf (meth 13 0)
theorem sinit_body{a d:Addr}(hda:d≠a)(hsm:∃o,H0.get? mainGlobals=some o)(hK:K.In H0)(ck:ClsK K c):
  GX Z w H0 n scSI [(S "self",.v (.ref a)),(S "graph",.d .none)] [(a,instD c.C1 d #[]),(d,emptyDict)] (bodyOf (meth 13 0)) (fun _ fl _ δ'=>fl=.next∧∃D,RepOk Z w c (Rep.new a d D) δ'):=by
 have vs:∀δ pos,EvE Z w H0 n scSI [(S "self",.v (.ref a)),(S "graph",.d .none)] δ (.Name (S "self") pos) (.v (.ref a)):=fun δ pos=>ev_var rfl;refine gx_cons (gt_setD (x:=a) (dx:=d) (sl:=#[]) (fs:=[]) hK ck.c1 (gs_newHA (new_dictA hsm)) (fun g v σ₁ δ₁ q=>?_) (Nat.zero_le _) ck.f1 fun _=>rfl) (fun g σ' δ' q=>?_) fun g fl σ' δ' hn q=>absurd q.1 hn
 ·obtain⟨rfl,D,oD,rfl,⟨rfl,_⟩,rfl,_⟩:=q
  exact⟨vs _ _,by simp,emptyDict,by simp,[],0,rfl,.nil⟩
 obtain⟨_,g1,v,δ₁,od,⟨rfl,D,oD,rfl,⟨rfl,lo⟩,rfl,hnw,hh0⟩,hfd,rfl⟩:=q;have nDa:a≠D:=hnw _ mem_cons_self;have nDd:d≠D:=hnw (d,emptyDict) (by simp);have stp:∀{δ:Led} {fs:List (Str×Value)} {od:Obj},((a,instD c.C1 d #[])∈δ∧(D,emptyDict)∈δ)->FD fs od->(a,instD c.C1 d #[])∈setLed d od δ∧(D,emptyDict)∈setLed d od δ∧(d,od)∈setLed d od δ∧FD fs od:=fun h f=>⟨mem_setLed_ne h.1 hda.symm,mem_setLed_ne h.2 (Ne.symm nDd),mem_setLed_self,f⟩;have b1:=stp (δ:=(D,emptyDict)::[(a,instD c.C1 d #[]),(d,emptyDict)]) ⟨by simp,by simp⟩ hfd;generalize setLed d od ((D,emptyDict)::[(a,instD c.C1 d #[]),(d,emptyDict)])=δ1 at b1;refine gx_cons (gt_setD (x:=a) (dx:=d) (sl:=#[]) (fs:=[(S "_node2info",.ref D)]) hK ck.c1 (gs_ev ev_none) (fun g v σ₁ δ₁ q=>?_) (show(1:Nat)≤100 by decide) ck.f2 fun _=>rfl) (fun g σ' δ' q=>?_) fun g fl σ' δ' hn q=>absurd q.1 hn
 ·obtain⟨_,rfl,rfl⟩:=q
  exact⟨vs _ _,b1.1,od,b1.2.2⟩
 obtain⟨_,g2,v,δ₂,od2,⟨mv,rfl,rfl⟩,hfd2,rfl⟩:=q;have e:=rd_none mv;subst e;have b2:=stp ⟨b1.1,b1.2.1⟩ hfd2;generalize setLed d od2 δ₂=δ2 at b2;refine gx_cons (gt_setD (x:=a) (dx:=d) (sl:=#[]) (fs:=[(S "_node2info",.ref D),(S "_ready_nodes",.none)]) hK ck.c1 (gs_ev (ev_int (i:=0))) (fun g v σ₁ δ₁ q=>?_) (show(2:Nat)≤100 by decide) ck.f3 fun _=>rfl) (fun g σ' δ' q=>?_) fun g fl σ' δ' hn q=>absurd q.1 hn
 ·obtain⟨_,rfl,rfl⟩:=q
  exact⟨vs _ _,b2.1,od2,b2.2.2⟩
 obtain⟨_,g3,v,δ₃,od3,⟨mv,rfl,rfl⟩,hfd3,rfl⟩:=q;obtain⟨t3,rfl⟩:=rd_int mv;have b3:=stp ⟨b2.1,b2.2.1⟩ hfd3;generalize setLed d od3 δ₃=δ3 at b3;refine gx_cons (gt_setD (x:=a) (dx:=d) (sl:=#[]) (fs:=[(S "_node2info",.ref D),(S "_ready_nodes",.none),(S "_npassedout",.int 0 t3)]) hK ck.c1 (gs_ev (ev_int (i:=0))) (fun g v σ₁ δ₁ q=>?_) (show(3:Nat)≤100 by decide) ck.f4 fun _=>rfl) (fun g σ' δ' q=>?_) fun g fl σ' δ' hn q=>absurd q.1 hn
 ·obtain⟨_,rfl,rfl⟩:=q
  exact⟨vs _ _,b3.1,od3,b3.2.2⟩
 obtain⟨_,g4,v,δ₄,od4,⟨mv,rfl,rfl⟩,hfd4,rfl⟩:=q;obtain⟨t4,rfl⟩:=rd_int mv;have b4:=stp ⟨b3.1,b3.2.1⟩ hfd4;generalize setLed d od4 δ₄=δ4 at b4;refine gx_cons (gt_if (b:=false) (tr_cmp (ev_var (e:=.d .none) rfl (by decide +kernel)) ev_none op_isNotNone1 rfl) (fun q=>absurd q (by decide)) fun _=>gx_nil (Ψ:=nextIs _ δ4) fun g=>⟨rfl,rfl,rfl⟩) (fun g σ' δ' q=>gx_nil fun g=>?_) fun g fl σ' δ' hn q=>absurd q.1 hn;obtain⟨_,rfl,rfl⟩:=q;refine⟨rfl,D,fun p hp=>?_,fun p q hp hq e=>?_,lo⟩
 ·cases p with
  |S=>exact⟨_,b4.1,rfl⟩
  |dS=>exact⟨_,b4.2.2.1,t3,t4,b4.2.2.2⟩
  |D=>exact⟨_,b4.2.1,isDict_empty⟩
  |R=>cases hp
  |I y=>cases hp
  |e y=>cases hp
  |T y=>cases hp
 ·cases p<;> first|(cases hp;done)|skip
  all_goals cases q<;> first|rfl|(cases hq;done)|exact absurd e hda|exact absurd e.symm hda|exact absurd e nDa|exact absurd e.symm nDa|exact absurd e nDd|exact absurd e.symm nDd
structure SortK(Z:Program)(w:World)(H0:Heap)(K:Frag)(c:Cls2):Prop where
 mkc:makesIn K c.C1=true
 sm:∃o,H0.get? mainGlobals=some o
 init:∃fI fd,findIn K (.ref c.C1) (S "__init__")=some (some (.ref fI))∧typeIn K (.ref fI)=some (.type "function")∧DefG H0 fI fd scSI (bodyOf (meth 13 0))∧∀a,BindP Z w H0 fd [S "self",S "graph"] [.v (.ref a)] [.v (.ref a),.d .none]
 glob:GIs H0 (S "TopologicalSorter") (.ref c.C1)
theorem gs_sorter{p pos:Pos}(hK:K.In H0)(ck:ClsK K c)(sk:SortK Z w H0 K c)(hgl:globOk sc (S "TopologicalSorter")=true):
  GS Z w H0 (n+2) sc σ δ (eval (.Call (.Name (S "TopologicalSorter") p) [] [] pos)) (fun g v σ' δ'=>σ'=σ∧∃a d D L',v=.ref a∧RepOk Z w c (Rep.new a d D) L'∧δ'=L'++δ):=by
 obtain⟨fI,fd,h1,h2,Df,hb⟩:=sk.init;refine gs_mono (gs_new (n:=n+1) (xs:=[]) (Θ:=fun a d L'=>∃D,RepOk Z w c (Rep.new a d D) L') hK sk.mkc h1 h2 (ev_gl sk.glob hgl) evs_nil (fun a d hne=>?_) fun _=>rfl) fun g v σ' δ' q=>?_
 ·refine(fn_gen (x:=false) (ps:=[S "self",S "graph"]) (xs':=[.v (.ref a),.d .none]) Df (hb a) (by decide +kernel) rfl (hx_of (gs_mono (sinit_body hne sk.sm hK ck) fun g fl σ' δ' q=>?_))).gc
  obtain⟨rfl,q⟩:=q;exact⟨rfl,q⟩
 ·obtain⟨rfl,a,d,L',rfl,⟨⟨D,h⟩,_⟩,rfl⟩:=q
  exact⟨rfl,a,d,D,L',rfl,h,rfl⟩
end
section
variable{K:Frag}
theorem GP.news{α:Type}{s:Shared}{η:List Addr}{V:Env}{h₁:Heap}{tk:Nat}{N:Led}{Ψ:Heap->α->Sto->Led->Prop}{v:α}(F:Fm H0 η δ V σ s.heap)(ex:Ext s.heap h₁)(hn:∀p∈N,s.heap.get? p.1=none)(ha:∀p∈N,h₁.get? p.1=some p.2)
  (h:∀g,(∀p∈δ,∀q∈N,p.1≠q.1)->Ψ g v σ (N++δ)):GP H0 s η V δ Ψ v {s with heap:=h₁,toks:=tk}:=by
 have F1:Fm H0 (N.map (·.1)++η) δ V σ h₁:=F.more ex (fun b m=>by
   obtain⟨p,hp,rfl⟩:=mem_map.mp m;exact hn p hp) fun b m=>by
   obtain⟨p,hp,rfl⟩:=mem_map.mp m;exact⟨_,ha p hp⟩
 have nl:∀p∈N,p.1≠V.locals:=fun p hp q=>by
  obtain⟨m,⟨oo,es,ep,e1,r⟩,_⟩:=F.ns;have:=hn p hp;rw[q,e1] at this;cases this
 have nc:∀p∈N,∀c∈V.cells,p.1≠c.2:=fun p hp c hc q=>by
  obtain⟨v,oo,e1,_⟩:=F.cells c hc;have:=hn p hp;rw[q,e1] at this;cases this
 have F2:Fm H0 (N.map (·.1)++η) (N++δ) V σ h₁:={F1 with
  ledh:=fun p hp=>by
   rcases mem_append.mp hp with hp|hp
   ·exact mem_append_left _ (mem_map_of_mem (f:=(·.1)) hp)
   ·exact F1.ledh p hp
  ledg:=fun p hp=>by
   rcases mem_append.mp hp with hp|hp
   ·exact ha p hp
   ·exact F1.ledg p hp
  ledoff:=fun p hp=>by
   rcases mem_append.mp hp with hp|hp
   ·exact⟨nl p hp,nc p hp⟩
   ·exact F1.ledoff p hp}
 refine⟨h₁,tk,_,σ,N++δ,rfl,ex.keep _,F2,fun b m=>mem_append_right _ m,fun b m=>?_,fun p hp=>?_,h _ fun p hp q hq e=>?_⟩
 ·rcases mem_append.mp m with m|m
  ·obtain⟨p,hp,rfl⟩:=mem_map.mp m;exact .inr (hn p hp)
  ·exact .inl m
 ·rcases mem_append.mp hp with hp|hp
  ·exact .inr (hn p hp)
  ·exact .inl (mem_map_of_mem hp)
 ·have:=F.ledg p hp
  rw[e,hn q hq] at this;cases this
theorem ev_call1O{x:Str}{e:Expr}{p pos:Pos}{f:Value}{a:Addr}{P:Heap->Value->Prop}(hg:GIs H0 x f)(hc:Callee H0 f)(hgo:globOk sc x=true)(he:EvE Z w H0 n sc σ δ e (.v (.ref a)))
  (hcall:∀A s η V,Good n A->Fm H0 η δ V σ s.heap->wpAny (model Z w) A (call f [.ref a]) (Pu s η P) NoE s)
  (hb:∀V,backTo pos (starEach [e] V)=[(false,eval e V)])(hb2:∀V,(backTo pos (starEach [e] V)).any (·.1)=false):EvP Z w H0 n sc σ δ (.Call (.Name x p) [e] [] pos) P:=by
 intro A V s η g o F;refine Call_Name rfl (seqP (ev_gl hg hgo A V s η g o F) fun v s₁ q=>?_);have e1:=q.val;subst e1;have F1:=F.ext q.ext;refine callWith_P (V:=V) F1.toBase.h0 hc (hb2 V) (evs_1 he hb A V s₁ η g o F1) fun vs s2 q2=>?_;have F2:=F1.ext q2.ext;have mv:=q2.val
 match vs,mv with
 |[u],⟨hu,_⟩=>
 have e2:u=.ref a:=hu;subst e2;exact wpAny_mono (hcall A s2 η V g F2) (fun v s3 q3=>(q.trans q2).trans q3) fun _ _ f=>f
theorem ev_lenO{e:Expr}{p pos:Pos}{a:Addr}{ob:Obj}{vs:List Value}(hg:GIs H0 (S "len") (.builtin "len"))(hgo:globOk sc (S "len")=true)(he:EvE Z w H0 n sc σ δ e (.v (.ref a)))(ho:(a,ob)∈δ)(hl:LO vs ob)(hz:vs.length≤sizeLine)
  (hb:∀V,backTo pos (starEach [e] V)=[(false,eval e V)])(hb2:∀V,(backTo pos (starEach [e] V)).any (·.1)=false):EvE Z w H0 n sc σ δ (.Call (.Name (S "len") p) [e] [] pos) (.d (.int vs.length)):=by
 refine ev_call1O hg callee_builtin hgo he (fun A s η V g F=>?_) hb hb2;obtain⟨k,rfl⟩:=hl;have hL:=F.ledg _ ho;refine PyProof.Rows.len_list (items:=toArray vs) ⟨_,hL,rfl,k,rfl⟩ (by rw[size_toArray];have:sizeLine=2 ^ 24:=rfl;omega) ?_;rw[size_toArray];exact Pu.tok (int_rd _ _ _)
abbrev iterObj(T:Addr)(i:Nat):Obj:={cls:=.type "list_iterator",data:=.fields #[.ref T,.int i 0]}
abbrev wrapObj(I:Addr):Obj:=boundObj "method-wrapper" (.builtin "list_iterator.__next__") (.ref I)
namespace NF
theorem entry_iter:entryFor table "iter"=some Builtin.«iter»:=entryFor_of_fast (by kernel_rfl)
theorem plain_iter:plainId "iter"=true:=by decide +kernel
end NF
theorem call_iter_list{A:Around}{E:Value->Shared->Prop}{s:Shared}{l:Addr}{items:Array Value}{Q:Value->Shared->Prop}(hl:s.heap.IsList l items)(hQ:Q (.ref s.heap.objs.size) {s with heap:=s.heap.push (iterObj l 0)}):wpAny (model Z w) A (call (.builtin "iter") [.ref l]) Q E s:=by
 have ck:checkBuiltinCall "iter" ⟨[.ref l],[]⟩=pure ():=by kernel_rfl
 refine wpAny_call (codeAny_call_builtin NF.plain_iter NF.entry_iter ?_);rw[ck];refine wpAny_pure ?_;show wpAny _ _ (pyIter (.ref l) >>=fun v=>ret v) _ _ _;exact wpAny_bind (wpAny_pyIter_list hl (wpAny_pure hQ))
theorem gs_iterNext{e:Expr}{p pc pa:Pos}{a:Addr}{ob:Obj}{ds:List PyData}(hg:GIs H0 (S "iter") (.builtin "iter"))(hgo:globOk sc (S "iter")=true)(he:EvE Z w H0 n sc σ δ e (.v (.ref a)))(ho:(a,ob)∈δ)(hl:OwnL ds ob)
  (hb:∀V,backTo pc (starEach [e] V)=[(false,eval e V)])(hb2:∀V,(backTo pc (starEach [e] V)).any (·.1)=false)(hat:attrEv (.Call (.Name (S "iter") p) [e] [] pc) (S "__next__") pa):
  GS Z w H0 n sc σ δ (eval (.Attribute (.Call (.Name (S "iter") p) [e] [] pc) (S "__next__") pa)) (fun _ v σ' δ'=>σ'=σ∧∃W I,v=.ref W∧W≠I∧(∀p∈δ,p.1≠W∧p.1≠I)∧δ'=[(W,wrapObj I),(I,iterObj a 0)]++δ):=by
 intro A V s η g o F;refine Attribute_any_ (he:=hat V) (Call_Name rfl (seqP (ev_gl hg hgo A V s η g o F) fun v s₁ q=>?_));have e1:=q.val;subst e1;have F1:=F.ext q.ext;refine callWith_P (V:=V) F1.toBase.h0 callee_builtin (hb2 V) (evs_1 he hb A V s₁ η g o F1) fun vs s2 q2=>?_;have F2:=F1.ext q2.ext;have mv:=q2.val
 match vs,mv with
 |[u],⟨hu,_⟩=>
 have e2:u=.ref a:=hu;subst e2;obtain⟨vs,k,hL,f⟩:=ownL_isL hl (F2.ledg _ ho);refine call_iter_list hL.isList ?_;obtain⟨h,gn,dr,tk,os⟩:=s2;have eI:(h.push (iterObj a 0)).get? h.objs.size=some (iterObj a 0):=Heap.get?_push_size _ rfl;refine bnd_next.attr (a:=h.objs.size) (o:=iterObj a 0) eI rfl rfl rfl ?_;have hsz:(h.push (iterObj a 0)).objs.size=h.objs.size+1:=Heap.size_push ..;have n1:h.get? (h.push (iterObj a 0)).objs.size=none:=by rw[hsz];exact fresh_of (Nat.le_succ _)
 have hne:(h.push (iterObj a 0)).objs.size≠h.objs.size:=by rw[hsz];exact Nat.succ_ne_self _
 refine GP.backP F q (GP.backP F1 q2 (GP.news (N:=[((h.push (iterObj a 0)).objs.size,wrapObj h.objs.size),(h.objs.size,iterObj a 0)]) F2 ((ext_push _ _).trans (ext_push _ _)) (fun p hp=>?_) (fun p hp=>?_) fun g hd=>⟨rfl,_,_,rfl,hne,fun p hp=>⟨hd p hp _ mem_cons_self,hd p hp (h.objs.size,iterObj a 0) (by simp)⟩,rfl⟩))
 ·rcases mem_cons.mp hp with rfl|hp
  ·exact n1
  ·rw[mem_singleton.mp hp];exact fresh_of (Nat.le_refl _)
 ·rcases mem_cons.mp hp with rfl|hp
  ·exact Heap.get?_push_size _ rfl
  ·rw[mem_singleton.mp hp];exact Heap.get?_push_of_some _ eI
def SetO(Z:Program)(w:World)(xs:List (List Nat))(o:Obj):Prop:=∃S n,o.SetObjOf (skd Z w) S n∧n≤xs.length∧∀x:List Nat,S (tx x)=decide (x∈xs)
theorem new_set{p pos:Pos}(hg:GIs H0 (S "set") (.type "set"))(hgo:globOk sc (S "set")=true):NewP Z w H0 n sc σ δ (.Call (.Name (S "set") p) [] [] pos) (SetO Z w []):=by
 intro A V s η g o F;refine Call_Name rfl (seqP (ev_gl hg hgo A V s η g o F) fun v s₁ q=>?_);have e1:=q.val;subst e1;have F1:=F.ext q.ext;refine callWith_P (V:=V) F1.toBase.h0 callee_type rfl (evs_nil A V s₁ η g o F1) fun vs s2 q2=>?_;have mv:=q2.val
 match vs,mv with
 |[],_=>
 refine call_set_0 fun ld=>?_;obtain⟨h2,t2,e2,ex,_⟩:=q.trans q2;subst e2;exact⟨_,_,_,_,rfl,ex.trans (ext_push _ _),rfl,Heap.get?_push_size _ rfl,by
  cases z:s.heap.get? h2.objs.size with
  |none=>rfl
  |some o=>exact absurd (Heap.lt_size (ex _ _ z)) (Nat.lt_irrefl _),fun _=>false,0,setObjOf_fresh ld,Nat.le_refl _,fun x=>by simp⟩
theorem tr_inSet{e k:Expr}{pos:Pos}{a:Addr}{ob:Obj}{xs:List (List Nat)}{x:List Nat}(he:EvE Z w H0 n sc σ δ e (.v (.ref a)))(ho:(a,ob)∈δ)(hs:SetO Z w xs ob)(hz:xs.length≤100)(hk:EvE Z w H0 n sc σ δ k (.d (.str (tx x))))(hm:behindInMarks .In e=false):
  TrP Z w H0 n sc σ δ (.Compare k [.In] [e] pos) (decide (x∈xs)):=by
 intro A V s η g o F;refine wpAny_isTrue_Compare1 (seqP (hk A V s η g o F) fun u s₁ q1=>?_) hm;have F1:=F.ext q1.ext;refine seqP (he A V s₁ η g o F1) fun c s2 q2=>?_;have e1:=q2.val;subst e1;obtain⟨t,rfl⟩:=rd_str q1.val;obtain⟨S',m,hso,hm',hS⟩:=hs;refine wpAny_inSet_of (knd:=skd Z w) (k:=tx x) (skd_is _ t) rfl (hso.setOf ((F1.ext q2.ext).ledg _ ho) (Nat.lt_of_le_of_lt hm' (Nat.lt_of_le_of_lt hz (by decide)))) ?_;rw[hS];exact wpAny_truthy_bool ((q1.trans q2).trans (Pu.tok rfl))
theorem gt_addSet{e k:Expr}{pa pos pos':Pos}{a:Addr}{ob:Obj}{xs:List (List Nat)}{x:List Nat}(he:EvE Z w H0 n sc σ δ e (.v (.ref a)))(ho:(a,ob)∈δ)(hs:SetO Z w xs ob)(hz:xs.length≤99)(hk:EvE Z w H0 n sc σ δ k (.d (.str (tx x))))
  (hbase:∀V,attributeBase e "add" V (eval e V)=eval e V)(hline:(pa.endLine==pos.line)=true)(hs1:∀V,starEach [k] V=[(false,eval k V)])(hsw:∀V,swapsWith (.Call (.Attribute e "add" pa) [k] [] pos) none pos'.line V=pure false):
  GT Z w H0 n sc σ δ (.Expr (.Call (.Attribute e "add" pa) [k] [] pos) pos') (fun _ fl σ' δ'=>fl=.next∧σ'=σ∧∃o',SetO Z w (xs++[x]) o'∧δ'=setLed a o' δ):=by
 intro A V s η g oo F;refine wpAny_Expr_any ?_ (envOk_inter oo) (hsw V);obtain⟨S',m,hso,hm',hS⟩:=hs;refine Call_method1 (hbase _) (hs1 V) hline (seqP (he A V s η g oo F) fun u s₁ q=>?_);have e1:=q.val;subst e1;have F1:=F.ext q.ext;have hb1:m<scanBound:=Nat.lt_of_le_of_lt hm' (Nat.lt_of_le_of_lt hz (by decide));have h1:=hso.setOf (F1.ledg _ ho) hb1;refine⟨"set","set.add",PySem.F.plainAttrs_set,PySem.F.slot_set_add,PySem.F.type_set_add,h1.typeIs,h1.noDict,?_⟩;refine callWith_builtin rfl (evalArgs_plain (spliced_cons (seqP (hk A V s₁ η g oo F1) fun v s2 q2=>spliced_nil ?_)));obtain⟨t,rfl⟩:=rd_str q2.val;have F2:=F1.ext q2.ext;refine call_set_add (knd:=skd Z w) (k:=tx x) (skd_is _ t) rfl (hso.setOf (F2.ledg _ ho) hb1) (Nat.lt_of_le_of_lt (Nat.succ_le_succ (Nat.le_trans hm' hz)) (by decide)) fun h' hsb hS'=>?_;obtain⟨o',ho',hso'⟩:=hS'.objOf;refine GP.backP F q (GP.backP F1 q2 (GP.mut F2 ho (sameBut_keep hsb) ho' ⟨rfl,rfl,o',⟨_,_,hso',?_,fun y=>?_⟩,rfl⟩))
 ·rw[length_append,List.length_singleton]
  split<;> omega
 ·rw[hS]
  by_cases hy:y=x
  ·subst hy;simp
  ·have:tx y≠tx x:=fun e=>hy (tx_inj e)
   simp[hy,this]
end
section
variable{K:Frag}
structure Seen(L:List Addr)(h h':Heap):Prop where
 stay:∀b o,b∉L->h.get? b=some o->h'.get? b=some o
 up:∀b∈L,∀o,h.get? b=some o->(∀vs,o.data≠ .fields vs)->∃sl,h'.get? b=some {o with slots:=sl}
theorem fm_seen{η:List Addr}{V:Env}{ω:List Env}{h h':Heap}(F:Fm H0 η δ V σ h)(lo:∀b∈frs ω,b∈η∧∃o,h.get? b=some o∧∀vs,o.data≠ .fields vs)(O:Off2 ω V δ)(s:Seen (V.locals::frs ω) h h'):
  Fm H0 η δ V σ h'∧KeepU (ownOf V δ) (frs ω) h h':=by
 have inh:∀b∈V.locals::frs ω,b∈η:=fun b m=>by
  rcases mem_cons.mp m with rfl|m
  ·exact F.loc
  ·exact(lo b m).1
 have nd:∀b∈V.locals::frs ω,∃o,h.get? b=some o∧∀vs,o.data≠ .fields vs:=fun b m=>by
  rcases mem_cons.mp m with rfl|m
  ·obtain⟨m,⟨o,es,ep,e,hd,_⟩,_⟩:=F.ns
   exact⟨o,e,fun vs q=>by rw[hd] at q;cases q⟩
  ·exact(lo b m).2
 have gv:Ext (vis h η) (vis h' η):=fun b o e=>vis_get (s.stay b o (fun m=>(vis_inv e).2 (inh b m)) (vis_inv e).1) (vis_inv e).2;have offc:∀p∈V.cells,p.2∉V.locals::frs ω:=fun p hp m=>by
  rcases mem_cons.mp m with e|m
  ·exact F.off p hp e
  ·exact O _ m (mem_cons_of_mem _ (mem_append_left _ (mem_map_of_mem hp)))
 have offl:∀p∈δ,p.1∉V.locals::frs ω:=fun p hp m=>by
  rcases mem_cons.mp m with e|m
  ·exact(F.ledoff p hp).1 e
  ·exact O _ m (own_of (mem_map_of_mem hp))
 have cell:∀c v,(∃p∈V.cells,p.2=c)->h.IsCell c v->h'.IsCell c v:=fun c v ⟨p,hp,e⟩ ⟨o,a,b⟩=>⟨o,s.stay c o (by rw[←e];exact offc p hp) a,b⟩;refine⟨{F with
  base:=F.base.trans gv
  alive:=fun a m=>?_
  ns:=?_
  cell:=fun x e hx hk=>?_
  cells:=fun p hp=>let⟨v,c⟩:=F.cells p hp;⟨v,cell _ _ ⟨p,hp,rfl⟩ c⟩
  ledg:=fun p hp=>s.stay _ _ (offl p hp) (F.ledg p hp)},fun b o n1 n2 e=>s.stay b o (fun m=>?_) e,fun b m o e d=>s.up b (mem_cons_of_mem _ m) o e d⟩
 ·by_cases q:a∈V.locals::frs ω
  ·obtain⟨o,e,d⟩:=nd a q
   obtain⟨sl,e'⟩:=s.up a q o e d;exact⟨_,e'⟩
  ·obtain⟨o,e⟩:=F.alive a m
   exact⟨o,s.stay a o q e⟩
 ·obtain⟨m,⟨o,es,ep,e,hd,r⟩,q⟩:=F.ns
  obtain⟨sl,e'⟩:=s.up _ mem_cons_self o e fun vs q=>by rw[hd] at q;cases q
  refine⟨m,⟨_,es,ep,e',hd,r⟩,fun x e hx hk=>?_⟩;obtain⟨v,a,b⟩:=q x e hx hk;exact⟨v,a,b.ext gv⟩
 ·obtain⟨c,v,a,b,d⟩:=F.cell x e hx hk
  exact⟨c,v,a,cell c _ ⟨(x,c),mem_of_lookup a,rfl⟩ b,d.ext gv⟩
 ·rcases mem_cons.mp m with rfl|m
  ·exact n1 mem_cons_self
  ·exact n2 m
section
variable{A:Around}{E:Value->Shared->Prop}{s:Shared}{it l:Addr}{i:Nat}{items:Array Value}
theorem next_item{x:Value}{Q:PySem.Fin->Shared->Prop}(ho:s.heap.get? it=some (iterObj l i))(hl:s.heap.IsList l items)(hx:items[i]? =some x)
  (hQ:Q (.done (.ret x)) {s with heap:=s.heap.update it (Obj.mapFields (·.setIfInBounds 1 (.int (i+1:Nat) 0)))}):wpAny (model Z w) A (Builtin.«list_iterator.__next__» ⟨[.ref it],[]⟩) Q E s:=by
 obtain⟨ol,hol,_,nl,hdl⟩:=hl;show wpAny _ _ (field (.ref it) 0 >>=_) _ _ s;refine wpAny_bind (wpAny_field ho rfl (x:=.ref l) rfl ?_);show wpAny _ _ (if(Value.ref l==Value.none)=true then _ else _) _ _ s;rw[if_neg (show¬((Value.ref l==Value.none)=true) from Bool.false_ne_true)];show wpAny _ _ (field (.ref it) 1 >>=_) _ _ s;refine wpAny_bind (wpAny_field ho rfl (x:=.int i 0) rfl ?_);show wpAny _ _ (seqItems? (.ref l) >>=_) _ _ s;refine wpAny_bind (wpAny_seqItems hol hdl ?_);simp only[Int.toNat_natCast,hx];exact wpAny_bind (wpAny_setField ho rfl (by simp) (wpAny_pure hQ))
theorem next_end{Q:PySem.Fin->Shared->Prop}(hh:A.handled=none)(ho:s.heap.get? it=some (iterObj l i))(hl:s.heap.IsList l items)(hx:items[i]? =none)
  (hE:∀u o' h' e oe vs t,Heap.SameBut it s.heap u->u.get? it=some o'->Ext u h'->u.get? e=none->h'.get? e=some oe->oe.cls=.type "StopIteration"->oe.data=.fields vs->vs[0]? =some (.ref t)->vs[1]? =some .none->E (.ref e) {s with heap:=h'}):wpAny (model Z w) A (Builtin.«list_iterator.__next__» ⟨[.ref it],[]⟩) Q E s:=by
 obtain⟨ol,hol,_,nl,hdl⟩:=hl;show wpAny _ _ (field (.ref it) 0 >>=_) _ _ s;refine wpAny_bind (wpAny_field ho rfl (x:=.ref l) rfl ?_);show wpAny _ _ (if(Value.ref l==Value.none)=true then _ else _) _ _ s;rw[if_neg (show¬((Value.ref l==Value.none)=true) from Bool.false_ne_true)];show wpAny _ _ (field (.ref it) 1 >>=_) _ _ s;refine wpAny_bind (wpAny_field ho rfl (x:=.int i 0) rfl ?_);show wpAny _ _ (seqItems? (.ref l) >>=_) _ _ s;refine wpAny_bind (wpAny_seqItems hol hdl ?_);simp only[Int.toNat_natCast,hx];refine wpAny_bind (wpAny_rule (wpAny_bind (wpAny_setField ho rfl (by simp) ?_)));show wpAny _ _ (newExc (.type "StopIteration") [] >>=_) _ _ _;refine wpAny_bind ?_;simp only[newExc,newTuple];refine wpAny_bind (wpAny_newObj_type ?_ (by size_fits));refine wpAny_bind (m:=firstArgMember _ _) (wpAny_of_eq (a:=Value.none) (by first|rfl|(simp only[firstArgMember];rfl)) ?_);refine wpAny_newObj_type ?_ (by size_fits);simp only[raiseNew];refine wpAny_bind (wpAny_handled ?_);rw[hh];refine wpAny_bind (wpAny_pure (wpAny_throw ?_));have eu:(s.heap.update it (Obj.mapFields (·.setIfInBounds 0 Value.none))).get? it=some (Obj.mapFields (·.setIfInBounds 0 Value.none) (iterObj l i)):=Heap.get?_update_self _ ho rfl;have sb:Heap.SameBut it s.heap (s.heap.update it (Obj.mapFields (·.setIfInBounds 0 Value.none))):=Heap.SameBut.update ..;generalize s.heap.update it (Obj.mapFields (·.setIfInBounds 0 Value.none))=u at *;have sz:=sb.1;have sz2:(u.push {cls:=.type "tuple",data:=.seq #[]}).objs.size=s.heap.objs.size+1:=by rw[Heap.size_push,sz]
 exact hE u _ _ _ _ _ u.objs.size sb eu ((ext_push _ _).trans (ext_push _ _)) (by rw[sz2,←sz];exact fresh_of (Nat.le_succ _)) (Heap.get?_push_size _ rfl) rfl rfl (by rw[Array.getElem?_append_left (by simp)];rfl) (by rw[Array.getElem?_append_left (by simp)];rfl)
end
theorem fun_frames{h base:Heap}:∀(l:List Env),(∀e∈l,(e.scope.kind≠ .module∧e.frame=some e.locals)∧base.get? e.locals=none∧∃o,h.get? e.locals=some o∧∀vs,o.data≠ .fields vs)->h.FunFrames base l
 |[],_=>trivial
 |e::l,q=>⟨(q e mem_cons_self).1.1,⟨e.locals,(q e mem_cons_self).2.2.choose,(q e mem_cons_self).1.2,(q e mem_cons_self).2.1,(q e mem_cons_self).2.2.choose_spec⟩,fun_frames l fun e' m=>q e' (mem_cons_of_mem _ m)⟩
abbrev baseOf(V:Env)(ω:List Env)(u:Heap):Heap:=vis u (V.locals::frs ω)
theorem base_none{V:Env}{ω:List Env}{u:Heap}{b:Addr}(m:b∈V.locals::frs ω∨u.get? b=none):(baseOf V ω u).get? b=none:=by
 cases e:(baseOf V ω u).get? b with
 |none=>rfl
 |some o=>
  have:=vis_inv e;rcases m with m|m
  ·exact absurd m this.2
  ·rw[this.1] at m;cases m
theorem frames_of{A:Around}{V:Env}{ω:List Env}{η:List Addr}{u h':Heap}(F:Fm H0 η δ V σ u)(K:FrOk A V ω η u)(ex:Ext u h'):h'.FunFrames (baseOf V ω u) (V::ω):=fun_frames _ fun e m=>⟨K.fn e m,base_none (.inl (by
  rcases mem_cons.mp m with rfl|m
  ·exact mem_cons_self
  ·exact mem_cons_of_mem _ (mem_map_of_mem m))),by
 rcases mem_cons.mp m with rfl|m
 ·obtain⟨m,⟨o,es,ep,e,hd,_⟩,_⟩:=F.ns
  exact⟨o,ex _ _ e,fun vs q=>by rw[hd] at q;cases q⟩
 ·obtain⟨_,o,e,d⟩:=K.low _ (mem_map_of_mem m)
  exact⟨o,ex _ _ e,d⟩⟩
theorem note_first{A:Around}{E:Value->Shared->Prop}{s:Shared}{V:Env}{ω:List Env}{η:List Addr}{u:Heap}{e:Addr}{oe:Obj}{vs:Array Value}{a0:Value}{Q:Unit->Shared->Prop}(F:Fm H0 η δ V σ u)(K:FrOk A V ω η u)
  (ex:Ext u s.heap)(hn:u.get? e=none)(he:s.heap.get? e=some oe)(hd:oe.data=.fields vs)(h0:vs[0]? =some a0)(h1:vs[1]? =some .none)
  (hQ:∀h',Heap.FlyingW (baseOf V ω u) (V::ω) e oe.cls a0 h'->Seen (V.locals::frs ω) u h'->Q () {s with heap:=h'}):
  wpAny (model Z w) A (noteFrame (.ref e) V) (fun _ s2=>wpAny (model Z w) A (setFlight (.ref e) none) Q E s2) E s:=by
 have hf:V.frame=some V.locals:=(K.fn V mem_cons_self).2;have fl:s.heap.FunFrames (baseOf V ω u) (V::ω):=frames_of F K ex;have st:(baseOf V ω u).StaysIn s.heap:=fun b o q=>ex b o (vis_inv q).1;unfold noteFrame;simp only[hf];refine wpAny_bind (wpAny_field he hd h1 ?_);rw[if_neg (by decide)];refine wpAny_entryW K.stack fl hf he st (base_none (.inr hn)) hd (Array.getElem?_eq_some_iff.mp h1).1 h0 fun h2 ⟨k1,k2,k3,k4⟩=>?_;refine wpAny_landsW ⟨k1,base_none (.inr hn),k2,k3⟩ fun h₃ fl3 up=>hQ h₃ fl3 ⟨fun b o n q=>fl3.1 b o (vis_get q n),fun b m o q d=>?_⟩;obtain⟨sl,q2⟩:=k4 b o (ex b o q) d;obtain⟨sl',q3⟩:=up b _ q2 d;exact⟨sl',q3⟩
theorem note_again{A:Around}{E:Value->Shared->Prop}{s:Shared}{V:Env}{ω:List Env}{u:Heap}{e:Addr}{cls a0:Value}{Q:Unit->Shared->Prop}(fl:Heap.FlyingW (baseOf V ω u) (V::ω) e cls a0 s.heap)(sn:Seen (V.locals::frs ω) u s.heap)
  (hQ:∀h',Heap.FlyingW (baseOf V ω u) (V::ω) e cls a0 h'->Seen (V.locals::frs ω) u h'->Q () {s with heap:=h'}):wpAny (model Z w) A (setFlight (.ref e) none) Q E s:=by
 obtain⟨f1,f2,f3,f4⟩:=fl;refine wpAny_setFlight_noneW f1 f3 f4.at fun h' k1 k2 k3 k4=>hQ h' ⟨k1,f2,k2,k3⟩ ⟨fun b o n q=>k1 b o (vis_get q n),fun b m o q d=>?_⟩;obtain⟨sl,q2⟩:=sn.up b m o q d;exact⟨sl,k4 b _ q2 d⟩
end
section
variable{K:Frag}
section
variable{A:Around}{V:Env}{s:Shared}{η:List Addr}
theorem name_raw{x:Str}{pos:Pos}{e:Ent}(o:EnvOk sc V)(F:Fm H0 η δ V σ s.heap)(hs:σ.lookup x=some e)(h:varOk sc x=true):wpAny (model Z w) A (eval (.Name x pos) V) (Pu s η (fun g v=>Means g v e)) NoE s:=by
 have hkf:=o.kf;simp only[varOk,Bool.and_eq_true,Bool.or_eq_true,beq_iff_eq,bne_iff_ne] at h;obtain⟨⟨hx,hd⟩,hn⟩:=h;refine wpAny_Name ?_ (by simpa using hd);rcases hx with (hx|hx)|hx
 ·obtain⟨m,hm,q⟩:=F.ns
  obtain⟨v,a,b⟩:=q x e hs (by rw[o.kind];exact hx);exact wpAny_loadName_local hkf (by rw[o.kind];exact hx) hm a (Pu.here b)
 ·obtain⟨c,v,a,b,d⟩:=F.cell x e hs (by rw[o.kind];exact .inl hx)
  exact wpAny_loadName_cell hkf (by rw[o.kind];exact hx) a b (Pu.here d)
 ·obtain⟨c,v,a,b,d⟩:=F.cell x e hs (by rw[o.kind];exact .inr hx)
  exact wpAny_loadName_free hkf (by rw[o.kind];exact hx) a b (Pu.here d) (by simpa using hn)
theorem glob_raw{x:Str}{pos:Pos}{v:Value}(o:EnvOk sc V)(F:Fm H0 η δ V σ s.heap)(hg:GIs H0 x v)(h:globOk sc x=true):wpAny (model Z w) A (eval (.Name x pos) V) (Pu s η (fun g u=>u=v)) NoE s:=by
 simp only[globOk,Bool.and_eq_true,beq_iff_eq,bne_iff_ne] at h;have hkf:=o.kf;obtain⟨mg,h1,h2⟩:=hg;have h1':s.heap.Ns V.globals mg:=by rw[o.glob];exact h1.keeps F.toBase.h0
 refine Name_function_global hkf (by rw[o.kind];exact h.1) ?_ (by simpa using h.2);rcases h2 with h2|⟨h2,mb,h3,h4⟩
 ·exact loadGlobal_global h1' h2 (Pu.here rfl)
 ·exact loadGlobal_builtin h1' h2 (by rw[o.bi];exact h3.keeps F.toBase.h0) h4 (Pu.here rfl)
theorem pop_arr{vs:List Value}{v:Value}{k:Nat}:Obj.mapSeq (fun xs=>xs.eraseIdxIfInBounds ((toArray (vs++[v])).size - 1)) (W.listOf (toArray (vs++[v])) k)=W.listOf (toArray vs) (k+1):=by
 have e:(toArray (vs++[v])).eraseIdxIfInBounds ((toArray (vs++[v])).size - 1)=toArray vs:=by
  unfold Array.eraseIdxIfInBounds;rw[dif_pos (by simp)];apply Array.ext';simp[List.eraseIdx_append_of_length_le]
 simp only[Obj.mapSeq,e];simp
theorem pop_raw{x:Str}{p pa pos:Pos}{a:Addr}{ob:Obj}{vs:List Value}{v:Value}(o:EnvOk sc V)(F:Fm H0 η δ V σ s.heap)(hs:σ.lookup x=some (.v (.ref a)))(h:varOk sc x=true)(ho:(a,ob)∈δ)(hl:LO (vs++[v]) ob)(hz:vs.length<sizeLine)
  (hbase:attributeBase (.Name x p) "pop" V (eval (.Name x p) V)=eval (.Name x p) V)(hline:(pa.endLine==pos.line)=true):
  wpAny (model Z w) A (eval (.Call (.Attribute (.Name x p) "pop" pa) [] [] pos) V) (GP H0 s η V δ (fun _ u σ' δ'=>u=v∧σ'=σ∧∃o',LO vs o'∧δ'=setLed a o' δ)) NoE s:=by
 obtain⟨k,rfl⟩:=hl;refine Call_method0 hbase hline (seqP (name_raw o F hs h) fun u s₁ q=>?_);have e1:=q.val;subst e1;have F1:=F.ext q.ext;refine⟨"list","list.pop",PySem.F.plainAttrs_list,PySem.F.slot_list_pop,PySem.F.type_list_pop,⟨_,F1.ledg _ ho,rfl⟩,(fun b e=>by injection e with e;subst e;exact⟨_,F1.ledg _ ho,rfl⟩),?_⟩;refine P.pop_list (y:=v) (n:=k) (F1.ledg _ ho) (by simp) ?_ (by simp;omega);exact GP.backP F q (GP.upd F1 ho (by rw[pop_arr];rfl) ⟨rfl,rfl,_,⟨k+1,pop_arr⟩,rfl⟩)
theorem del_raw{d:Addr}{ob:Obj}{kvs:List (Str×Value)}{x:Str}{t:Tok}(F:Fm H0 η δ V σ s.heap)(ho:(d,ob)∈δ)(hl:ob.IsDictOf (skd Z w) kvs)(hx:(valueAt kvs x).isSome=true)(hz:kvs.length≤sizeLine):
  wpAny (model Z w) A (delItem (.ref d) (.str x t)) (GP H0 s η V δ (fun _ (_:Unit) σ' δ'=>σ'=σ∧∃o',o'.IsDictOf (skd Z w) (without kvs x)∧δ'=setLed d o' δ)) NoE s:=by
 have hD:=dict_at (Z:=Z) (w:=w) (F.ledg _ ho) hl;unfold delItem
 try with_reducible refine wpAny_holding ?_
 refine wpAny_bind (wpAny_sequenceKey hD.typeIs (by decide) ?_);refine wpAny_bind (wpAny_callSpecial?_slot (name:=Str.ofString "__delitem__") hD.typeIs PySem.F.slot_dict_delitem
  (call_meetsIn PySem.F.slot_dict_delitem hD.typeIs PySem.F.entry_dict_delitem (PySem.F.args_dict_delitem_2 _ _) (meets_dict_delitem_pairs (skd Z w) d (skd_is x t)) ⟨kvs,hD,hz,hx,fun h' hmm hs=>?_⟩))
 exact wpAny_pure (setItem_gp F ho hmm hs fun _ o' hi=>⟨rfl,o',hi,rfl⟩)
end
theorem ev_lastLO{x:Str}{p:Pos}{slice:Expr}{pos:Pos}{a:Addr}{ob:Obj}{vs:List Value}{u:Value}(hx:EvE Z w H0 n sc σ δ (.Name x p) (.v (.ref a)))(ho:(a,ob)∈δ)(hl:LO (vs++[u]) ob)(hz:vs.length<1000)(hi:EvE Z w H0 n sc σ δ slice (.d (.int (-1))))
  (hs:plainSlice slice):EvE Z w H0 n sc σ δ (.Subscript (.Name x p) slice pos) (.v u):=by
 intro A V s η g oo F;refine PyProof.Rows.Subscript_ (seqP (hx A V s η g oo F) fun v s₁ q1=>seqP (hi A V s₁ η g oo (F.ext q1.ext)) fun i s2 q2=>?_);obtain⟨t,rfl⟩:=rd_int q2.val;have e:=q1.val;subst e;obtain⟨k,rfl⟩:=hl;have hL:=((F.ext q1.ext).ext q2.ext).ledg _ ho;have hI:s2.heap.IsList a (toArray (vs++[u])):=⟨_,hL,rfl,k,rfl⟩;exact tail_any hI.typeIs slot_list_getitem.lookup (wpAny_getItem_list_neg hI (by decide) (by simp;omega) (by decide) (by rw[show((-1:Int)+((toArray (vs++[u])).size:Nat)).toNat=vs.length by simp;omega];simp) ((q1.trans q2).trans (Pu.here rfl))) (hs _ _)
theorem GP.toF{α:Type}{s s':Shared}{η:List Addr}{V:Env}{ω:List Env}{Ψ:Heap->α->Sto->Led->Prop}{a:α}(O:Off2 ω V δ)(x:GP H0 s η V δ Ψ a s'):GPf H0 s η V δ (frs ω) Ψ a s':=by
 obtain⟨h',tk,η',σ',δ',e,k,F',m1,m2,m3,p⟩:=x;exact⟨h',tk,η',σ',δ',e,.of_but k O,F',m1,m2,m3,p⟩
theorem flying_ext{base h h':Heap}{l:List Env}{e:Addr}{cls a0:Value}(x:Heap.FlyingW base l e cls a0 h)(ex:Ext h h'):Heap.FlyingW base l e cls a0 h':=by
 obtain⟨f1,f2,f3,oe,vs,T,oT,ts,he,hc,hd,h1,hn,hT,hT2,hd2,h3⟩:=x;exact⟨fun b o q=>ex _ _ (f1 b o q),f2,f3.of_keeps fun b o q d=>⟨o,ex _ _ q,rfl⟩,oe,vs,T,oT,ts,ex _ _ he,hc,hd,h1,hn,hT,ex _ _ hT2,hd2,h3⟩
theorem Seen.ext{L:List Addr}{h h' h'':Heap}(x:Seen L h h')(ex:Ext h' h''):Seen L h h'':=⟨fun b o n q=>ex _ _ (x.stay b o n q),fun b m o q d=>let⟨sl,e⟩:=x.up b m o q d;⟨sl,ex _ _ e⟩⟩
theorem excT_stop:isSubtype (.type "StopIteration") (.type "BaseException")=pure true:=by rw[isSubtype_type];kernel_rfl
theorem excN_stop:isSubtype (.type ((Manifest.find? "StopIteration").elim "type" fun x=>x.metatype)) (.type "tuple")=pure false:=by kernel_rfl
theorem gx_stop'{pos:Pos}{A:Around}{s:Shared}{V:Env}{E:Value->Shared->Prop}{Q:Flow->Shared->Prop}{rest:List Stmt}(h:Q .brk s):wpAny (model Z w) A (execs (.Break pos::rest) V) Q E s:=wpAny_execs_cons (wpAny_Break h)
theorem try_next{y z d st:Str}{py pz p1 pc pa pb pos ph pd pdn p3 pst p4 pp p5 pi p6 p7:Pos}{slice:Expr}{px:Pos}{aI aD aS W I T:Addr}{oI oD oS oT:Obj}{vs us:List Value}{u:Value}{kvs:List (Str×Value)}{x:List Nat}{i:Nat}{ds:List PyData}{Φ:PostS}
  (hst:GIs H0 (S "StopIteration") (.type "StopIteration"))(hgo:globOk sc (S "StopIteration")=true)(vz:varOk sc z=true)(vd:varOk sc d=true)(vst:varOk sc st=true)(hy:settable sc y)
  (lz:σ.lookup z=some (.v (.ref aI)))(ld:σ.lookup d=some (.v (.ref aD)))(ls:σ.lookup st=some (.v (.ref aS)))
  (mI:(aI,oI)∈δ)(hI:LO (vs++[.ref W]) oI)(mW:(W,wrapObj I)∈δ)(mIt:(I,iterObj T i)∈δ)(mT:(T,oT)∈δ)(hT:OwnL ds oT)
  (mS:(aS,oS)∈δ)(hS:LO (us++[u]) oS)(fu:Flt (.str (tx x)) u)(mD:(aD,oD)∈δ)(hD:oD.IsDictOf (skd Z w) kvs)(hx:(valueAt kvs (tx x)).isSome=true)
  (nIS:I≠aS)(nID:I≠aD)(nII:I≠aI)(nSD:aS≠aD)(nSI:aS≠aI)(nDI:aD≠aI)(hz:vs.length<1000∧us.length<1000∧kvs.length<1000)
  (hi:∀σ' δ',EvE Z w H0 n sc σ' δ' slice (.d (.int (-1))))(hsl:plainSlice slice)
  (hcall:∀V,eval (.Call (.Subscript (.Name z pz) slice p1) [] [] pc) V=(do callWith pc (←eval (.Subscript (.Name z pz) slice p1) V) [] (backTo pc (starEach [] V)) (backToKw pc (keywordEach [] V))))
  (hsw:∀V,swapsWith (.Call (.Subscript (.Name z pz) slice p1) [] [] pc) (some (.Name y py)) pa.line V=pure false)(hws:∀V,swappedStores [.Name y py] (.Call (.Subscript (.Name z pz) slice p1) [] [] pc) V=pure none)
  (hb1:∀V,attributeBase (.Name st pst) "pop" V (eval (.Name st pst) V)=eval (.Name st pst) V)(hl1:(p4.endLine==pp.line)=true)(hb2:∀V,attributeBase (.Name z pi) "pop" V (eval (.Name z pi) V)=eval (.Name z pi) V)(hl2:(p6.endLine==p7.line)=true)
  (hsw2:∀V,swapsWith (.Call (.Attribute (.Name z pi) "pop" p6) [] [] p7) none px.line V=pure false)
  (hA:∀g dd,ds[i]? =some dd->Φ g .brk ((y,.d dd)::σ) (setLed I (iterObj T (i+1)) δ))
  (hB:∀g oI' oD' oS' o',ds[i]? =none->LO vs oI'->oD'.IsDictOf (skd Z w) (without kvs (tx x))->LO us oS'->Φ g .next σ (setLed aI oI' (setLed aD oD' (setLed aS oS' (setLed I o' δ))))):
  HT true Z w H0 n sc σ δ (.Try [.Assign [.Name y py] (.Call (.Subscript (.Name z pz) slice p1) [] [] pc) pa,.Break pb] [.ExceptHandler (some (.Name (S "StopIteration") ph)) none [.Delete [.Subscript (.Name d pdn) (.Call (.Attribute (.Name st pst) "pop" p4) [] [] pp) p3] pd,.Expr (.Call (.Attribute (.Name z pi) "pop" p6) [] [] p7) px] p5] [] [] pos) Φ:=by
 intro A V ω s η g oo F K O;have K':FrOk A V ω η s.heap:=K;refine wpAny_Try_except (wpAny_execs_cons ?_);show wpAny _ A (standAt pa >>=fun _=>swapsWithSole [.Name y py] (.Call (.Subscript (.Name z pz) slice p1) [] [] pc) pa.line V >>=fun b=>if b=true then _ else _) _ _ s;refine wpAny_bind (wpAny_standAt (wpAny_bind ?_));show wpAny _ A (swapsWith (.Call (.Subscript (.Name z pz) slice p1) [] [] pc) (some (.Name y py)) pa.line V) _ _ s;rw[hsw V];refine wpAny_pure ?_;rw[if_neg Bool.false_ne_true];refine wpAny_bind (Call_ (he:=hcall V) (wpAny_mono (ev_lastLO (ev_var lz vz) mI hI hz.1 (hi _ _) hsl A V s η g oo F) (fun v s₁ q=>?_) fun _ _ f=>f.elim));have e1:=q.val;subst e1;have F1:=F.ext q.ext;obtain⟨h₁,t₁,rfl,ex1,_⟩:=id q;have hW:=F1.ledg _ mW;have hIt:=F1.ledg _ mIt;obtain⟨ws,k,hL,f⟩:=ownL_isL hT (F1.ledg _ mT);refine callWith_of (P:=fun h=>h.get? W=some (wrapObj I)) rfl (fun h e=>⟨.machine,.inr (.inl rfl),looks_bound e (.inr rfl)⟩) (evalArgs_any rfl (spliced_nil ⟨hW,?_⟩));refine bound_call (Bi:=Builtin.«list_iterator.__next__») hW (.inr rfl) (fun A' Q E q=>check_next q) (by decide +kernel) entry_listiter_next ?_;cases hd:ds[i]? with
 |some dd=>
  obtain⟨v,hv,hf⟩:=f.get hd;refine next_item hIt hL.isList (by simpa using hv) ?_;have gp:GP H0 s η V δ (fun _ (u:Value) σ' δ'=>σ'=σ∧δ'=setLed I (iterObj T (i+1)) δ) v {s with toks:=t₁,heap:=h₁.update I (Obj.mapFields (·.setIfInBounds 1 (.int (i+1:Nat) 0)))}:=GP.backP F q (GP.upd (f:=Obj.mapFields (·.setIfInBounds 1 (.int (i+1:Nat) 0))) F1 mIt rfl ⟨rfl,rfl⟩);obtain⟨η2,σ2,δ2,F2,⟨rfl,rfl⟩,_,back2⟩:=GP.back (α:=Flow) F gp;show wpAny _ A _ _ _ _;refine wpAny_bind ?_;rw[hws V];refine wpAny_pure ?_;show wpAny _ A (assignAll v [assign (.Name y py) V] >>=fun _=>pure Flow.next) _ _ _;refine wpAny_bind ?_;show wpAny _ A (assign (.Name y py) V v) _ _ _;refine wpAny_mono (as_name (Z:=Z) (w:=w) (H0:=H0) (n:=n) (e:=.d dd) hy A V _ η2 _ _ v g oo F2 (hf _)) (fun _ s2 q2=>wpAny_pure ?_) fun _ _ f=>f.elim;obtain⟨h2,t2,rfl,k2,F3⟩:=q2;refine gx_stop' (GP.toF O (back2 _ _ _ ⟨h2,t2,η2,_,_,rfl,k2.more (places_own V _ _),F3,fun _ m=>m,fun _ m=>.inl m,fun p m=>.inl (mem_map_of_mem m),hA _ dd hd⟩))
 |none=>
  have hn:(toArray ws)[i]? =none:=by
   have:=f.length;simp only[List.getElem?_toArray,List.getElem?_eq_none_iff] at hd ⊢;omega
  refine next_end g.hh hIt hL.isList hn fun u' o' h' e oe vs' t sb hu ex en he hc hdt h0 h1=>?_;have gp:GP H0 s η V δ (fun _ (_:Unit) σ' δ'=>σ'=σ∧δ'=setLed I o' δ) () {s with toks:=t₁,heap:=u'}:=GP.backP F q (GP.mut F1 mIt (sameBut_keep sb) hu ⟨rfl,rfl⟩);obtain⟨hU,tU,η2,σ2,δ2,eU,k2,F2,m1,m2,m3,rfl,rfl⟩:=GP.toF O gp;have eh:hU=u':=by have:=congrArg Shared.heap eU;exact this.symm
  subst eh;have lo:=K'.low;have al:∀b∈frs ω,b∈η∧∃ob,s.heap.get? b=some ob:=fun b m=>let⟨h1,o,e,_⟩:=lo b m;⟨h1,o,e⟩;have K2:FrOk A V ω η2 hU:=Fk.move (x:=true) K m1 k2;have O2:=off2_move O (fun b m=>(al b m).2) m3;show wpAny _ A (noteFrame (.ref e) V) _ _ _;refine note_first F2 K2 ex en he hdt h0 h1 fun h₃ fl3 sn3=>?_;obtain⟨F3,_⟩:=fm_seen F2 K2.low O2 sn3;refine wpAny_handleBy_builtin (X:="StopIteration") (T:="StopIteration") (b:=true) excT_stop excN_stop isSubtype_stop ?_;refine wpAny_mono (glob_raw (s:={s with heap:=h₃,toks:=t₁}) oo F3 hst hgo) (fun c s4 q4=>?_) fun _ _ f=>f.elim;obtain⟨h4,t4,rfl,ex4,ec⟩:=q4;refine⟨ec,?_,?_⟩
  ·obtain⟨ob,hob,hoc⟩:=(flying_ext fl3 ex4).there
   exact⟨ob,hob,hoc.trans hc⟩
  rw[if_pos rfl];refine note_again (flying_ext fl3 ex4) (sn3.ext ex4) fun h5 fl5 sn5=>?_;obtain⟨F5,k5⟩:=fm_seen F2 K2.low O2 sn5;have mS':(aS,oS)∈setLed I o' δ:=mem_setLed_ne mS nIS.symm;refine wpAny_execs_cons (wpAny_Delete (wpAny_deleteEach_cons (delete_Subscript (wpAny_mono (name_raw (s:={s with heap:=h5,toks:=t4}) oo F5 ld vd) (fun u1 s7 q7=>?_) fun _ _ f=>f.elim))));have e7:=q7.val;subst e7;have F7:=F5.ext q7.ext;refine wpAny_mono (pop_raw oo F7 ls vst mS' hS (Nat.lt_of_lt_of_le hz.2.1 (by decide)) (hb1 V) hl1) (fun u2 s8 gp8=>?_) fun _ _ f=>f.elim;obtain⟨η8,σ8,δ8,F8,⟨rfl,rfl,oS',hS',rfl⟩,_,back8⟩:=GP.back (α:=Flow) F7 gp8;obtain⟨tt,rfl⟩:=rd_str (fu h5);refine wpAny_mono (del_raw F8 (mem_setLed_ne (mem_setLed_ne mD nID.symm) nSD.symm) hD hx (Nat.le_of_lt (Nat.lt_of_lt_of_le hz.2.2 (by decide)))) (fun _ s9 gp9=>wpAny_deleteEach_nil ?_) fun _ _ f=>f.elim;obtain⟨η9,σ9,δ9,F9,⟨rfl,oD',hD',rfl⟩,_,back9⟩:=GP.back (α:=Flow) F8 gp9;refine wpAny_execs_cons (wpAny_Expr_any (wpAny_mono (pop_raw oo F9 lz vz (mem_setLed_ne (mem_setLed_ne (mem_setLed_ne mI nII.symm) nSI.symm) nDI.symm) hI (Nat.lt_of_lt_of_le hz.1 (by decide)) (hb2 V) hl2) (fun u3 s10 gp10=>?_) fun _ _ f=>f.elim) (envOk_inter oo) (hsw2 V));refine wpAny_execs_nil ?_;have g6:GP H0 {s with heap:=h5,toks:=t4} η2 V (setLed I o' δ) Φ .next s10:=GP.backP F5 q7 (back8 _ _ _ (back9 _ _ _ (GP.next gp10 fun gg σ' δ' p=>by
   obtain⟨_,rfl,oI',hI',rfl⟩:=p;exact hB gg oI' oD' oS' o' hd hI' hD' hS')))
  have al2:∀b∈frs ω,b∈η2∧∃ob,hU.get? b=some ob:=fun b m=>let⟨h1,o,e,_⟩:=K2.low b m;⟨h1,o,e⟩;exact GPf.glue F al k2 F2 m1 m2 m3 (GPf.glue (s:={s with heap:=hU,toks:=tU}) F2 al2 k5 F5 (fun _ m=>m) (fun _ m=>.inl m) (fun p m=>.inl (mem_map_of_mem m)) (g6.toF O2))
end
section
variable{K:Frag}
theorem ev_sliceO{value lower:Expr}{p pos:Pos}{a:Addr}{ob:Obj}{ds:List PyData}{i:Nat}(hv:EvE Z w H0 n sc σ δ value (.v (.ref a)))(ho:(a,ob)∈δ)(hl:OwnL ds ob)(hi:EvE Z w H0 n sc σ δ lower (.d (.int i)))(hz:ds.length≤sizeLine)(ht:∀o r,letTemporaryGo value o r=pure ()):
  EvE Z w H0 n sc σ δ (.Subscript value (.Slice (some lower) none none p) pos) (.d (.list (ds.drop i))):=by
 intro A V s η g o F;refine PyProof.Rows.Subscript_ (seqP (hv A V s η g o F) fun v s₁ q1=>?_);have e1:=q1.val;subst e1;have F1:=F.ext q1.ext;refine wpAny_Slice (wpAny_evalPart_some (seqP (hi A V s₁ η g o F1) fun vl s2 q2=>wpAny_pure (wpAny_pure ?_)));obtain⟨u,rfl⟩:=rd_int q2.val;have F2:=F1.ext q2.ext;obtain⟨vs,k,hL,f⟩:=ownL_isL hl (F2.ledg _ ho);have hl':=hL.isList;refine subscriptTail_ops (Heap.IsList.typeIs (s:={s2 with heap:=s2.heap.push {cls:=.type "slice",data:=.fields #[.int i u,.none,.none]}}) (hl'.push _)) list_getitem_lookup
  (wpAny_getItem_list_slice (hl'.push _) (Heap.IsSliceOf.new ..) (lo:=some (i:Int)) (.int _ _) .none .none (by simp) ?_ (by rw[size_toArray,f.length];exact hz)) rfl (ht _)
 rw[slicePick_from'];have e1:=ext_push s2.heap {cls:=.type "slice",data:=.fields #[.int i u,.none,.none]};have e2:=ext_push (s2.heap.push {cls:=.type "slice",data:=.fields #[.int i u,.none,.none]}) {cls:=.type "list",data:=.seq ((toArray vs).toList.drop i).toArray};refine(q1.trans q2).trans ⟨_,_,rfl,e1.trans e2,list_rd ⟨_,vis_push (F2.toBase.ext e1) _,rfl,0,rfl⟩ ?_⟩;exact(f.drop i).imp fun _ _ r=>r _
end
section
variable{succ:NM->List NM}
def Chain(succ:NM->List NM)(dn:List NM):List (NM×Nat)->Option NM->Prop
 |[],_=>True
 |(x,i)::r,some y=>(∃j,i=j+1∧(succ x)[j]? =some y∧∀m,m<j->∀z,(succ x)[m]? =some z->z∈dn)∧Chain succ dn r (some x)
 |(x,i)::r,none=>(∀m,m<i->∀z,(succ x)[m]? =some z->z∈dn)∧Chain succ dn r (some x)
def Topo(succ:NM->List NM):List NM->Prop
 |[]=>True
 |x::r=>(∀y∈succ x,y∈r)∧Topo succ r
structure Dfs(succ:NM->List NM)(names:List NM)(fs:List (NM×Nat))(seen dn:List NM)(pend:Option NM):Prop where
 chain:Chain succ dn fs pend
 topo:Topo succ dn
 nd:(fs.map (·.1)).Nodup
 mem:∀x,x∈seen↔x∈fs.map (·.1)∨x∈dn
 sub:∀x∈seen,x∈names
 apart:∀x∈fs.map (·.1),x∉dn
 snd:seen.Nodup
theorem chain_mono{dn dn':List NM}(h:∀x∈dn,x∈dn'):∀{fs:List (NM×Nat)} {p:Option NM},Chain succ dn fs p->Chain succ dn' fs p
 |[],_,_=>trivial
 |(x,i)::r,some y,⟨⟨j,a,b,c⟩,d⟩=>⟨⟨j,a,b,fun m hm z hz=>h z (c m hm z hz)⟩,chain_mono h d⟩
 |(x,i)::r,none,⟨c,d⟩=>⟨fun m hm z hz=>h z (c m hm z hz),chain_mono h d⟩
theorem chain_free{dn:List NM}:∀{fs:List (NM×Nat)} {y:NM},Chain succ dn fs (some y)->y∈dn->Chain succ dn fs none
 |[],_,_,_=>trivial
 |(x,i)::r,y,⟨⟨j,a,b,c⟩,d⟩,hy=>⟨fun m hm z hz=>by
   by_cases e:m<j
   ·exact c m e z hz
   ·have:m=j:=by omega
    subst this;rw[b] at hz;injection hz with hz;rw[←hz];exact hy,d⟩
variable{names seen dn:List NM}{fs:List (NM×Nat)}
theorem Dfs.start(h:Dfs succ names [] seen dn none)(y:NM):Dfs succ names [] seen dn (some y):={h with chain:=trivial}
theorem Dfs.known{y:NM}(h:Dfs succ names fs seen dn (some y))(hs:y∈seen)(hn:y∉fs.map (·.1)):Dfs succ names fs seen dn none:={h with
 chain:=chain_free h.chain (((h.mem y).mp hs).resolve_left hn)}
theorem Dfs.push{y:NM}(h:Dfs succ names fs seen dn (some y))(hs:y∉seen)(hy:y∈names):Dfs succ names ((y,0)::fs) (seen++[y]) dn none where
 chain:=⟨fun m hm=>absurd hm (Nat.not_lt_zero _),h.chain⟩
 topo:=h.topo
 nd:=nodup_cons.mpr ⟨fun m=>hs ((h.mem y).mpr (.inl m)),h.nd⟩
 mem:=fun x=>by
  rw[mem_append,mem_singleton,h.mem,map_cons,mem_cons];constructor
  ·rintro ((a|a)|a)
   ·exact .inl (.inr a)
   ·exact .inr a
   ·exact .inl (.inl a)
  ·rintro ((a|a)|a)
   ·exact .inr a
   ·exact .inl (.inl a)
   ·exact .inl (.inr a)
 sub:=fun x m=>by
  rcases mem_append.mp m with m|m
  ·exact h.sub x m
  ·rw[mem_singleton.mp m];exact hy
 apart:=fun x m=>by
  rcases mem_cons.mp m with rfl|m
  ·exact fun q=>hs ((h.mem _).mpr (.inr q))
  ·exact h.apart x m
 snd:=nodup_append.mpr ⟨h.snd,by simp,fun a ha b hb e=>by
  rw[mem_singleton.mp hb] at e;exact hs (e▸ha)⟩
theorem Dfs.take{x y:NM}{i:Nat}(h:Dfs succ names ((x,i)::fs) seen dn none)(hy:(succ x)[i]? =some y):Dfs succ names ((x,i+1)::fs) seen dn (some y):={h with
 chain:=⟨⟨i,rfl,hy,h.chain.1⟩,h.chain.2⟩}
theorem Dfs.pop{x:NM}{i:Nat}(h:Dfs succ names ((x,i)::fs) seen dn none)(hy:(succ x)[i]? =none):Dfs succ names fs seen (x::dn) none:=by
 have hx:∀y∈succ x,y∈dn:=fun y hm=>by
  obtain⟨j,hj,e⟩:=List.mem_iff_getElem.mp hm;have hi:=List.getElem?_eq_none_iff.mp hy;exact h.chain.1 j (by omega) y (by rw[getElem?_eq_getElem hj,e])
 have nd:=nodup_cons.mp h.nd;exact{
  chain:=chain_free (chain_mono (fun z m=>mem_cons_of_mem _ m) h.chain.2) mem_cons_self
  topo:=⟨hx,h.topo⟩
  nd:=nd.2
  mem:=fun z=>by
   rw[h.mem,map_cons,mem_cons,mem_cons];constructor
   ·rintro ((a|a)|a)
    ·exact .inr (.inl a)
    ·exact .inl a
    ·exact .inr (.inr a)
   ·rintro (a|a|a)
    ·exact .inl (.inr a)
    ·exact .inl (.inl a)
    ·exact .inr a
  sub:=h.sub
  apart:=fun z m q=>by
   rcases mem_cons.mp q with rfl|q
   ·exact nd.1 m
   ·exact h.apart z (mem_cons_of_mem _ m) q
  snd:=h.snd}
def Ringed(succ:NM->List NM)(names:List NM):Prop:=∀lv:NM->Nat,¬∀x∈names,∀y∈succ x,lv x<lv y
theorem chain_rank{dn:List NM}{lv:NM->Nat}:∀{fs:List (NM×Nat)} {y:NM},Chain succ dn fs (some y)->(∀x∈fs.map (·.1),∀z∈succ x,lv x<lv z)->∀x∈fs.map (·.1),lv x<lv y
 |(x,i)::r,y,⟨⟨j,a,b,c⟩,d⟩,hl,z,hz=>by
  have hxy:lv x<lv y:=hl x mem_cons_self y (mem_of_getElem? b);rcases mem_cons.mp hz with rfl|hz
  ·exact hxy
  ·exact Nat.lt_trans (chain_rank d (fun w m=>hl w (mem_cons_of_mem _ m)) z hz) hxy
theorem Dfs.ring{y:NM}(h:Dfs succ names fs seen dn (some y))(hy:y∈fs.map (·.1)):Ringed succ names:=fun lv hl=>
 Nat.lt_irrefl _ (chain_rank h.chain (fun x m=>hl x (h.sub x ((h.mem x).mpr (.inl m)))) y hy)
def room(succ:NM->List NM)(names seen:List NM)(fs:List (NM×Nat)):Nat:=(((names.filter fun x=>decide (x∉seen)).map fun x=>(succ x).length+1).sum)+(fs.map fun p=>(succ p.1).length - p.2).sum
theorem sum_out(f:NM->Nat){y:NM}:∀(l:List NM),y∈l->y∉seen->((l.filter fun x=>decide (x∉seen++[y])).map f).sum+f y≤((l.filter fun x=>decide (x∉seen)).map f).sum
 |a::l,hm,hs=>by
  have le:∀(l:List NM),((l.filter fun x=>decide (x∉seen++[y])).map f).sum≤((l.filter fun x=>decide (x∉seen)).map f).sum:=fun l=>by
   induction l with
   |nil=>simp
   |cons b l ih=>
    by_cases h1:b∈seen
    ·simp[h1] at ih ⊢;exact ih
    ·by_cases h2:b=y
     ·subst h2;simp[h1] at ih ⊢;omega
     ·simp[h1,h2] at ih ⊢;omega
  by_cases h2:a=y
  ·subst h2
   have:=le l;simp[hs] at this ⊢;omega
  ·have ih:=sum_out f l ((mem_cons.mp hm).resolve_left fun e=>h2 e.symm) hs
   by_cases h1:a∈seen
   ·simp[h1] at ih ⊢;omega
   ·simp[h1,h2] at ih ⊢;omega
theorem room_push{y:NM}(hy:y∈names)(hs:y∉seen):room succ names (seen++[y]) ((y,0)::fs)<room succ names seen fs:=by
 have:=sum_out (fun x=>(succ x).length+1) names hy hs;unfold room;simp only[map_cons,sum_cons,Nat.sub_zero];omega
theorem room_take{x y:NM}{i:Nat}(h:(succ x)[i]? =some y):room succ names seen ((x,i+1)::fs)<room succ names seen ((x,i)::fs):=by
 have:i<(succ x).length:=by
  rcases Nat.lt_or_ge i (succ x).length with q|q
  ·exact q
  ·rw[getElem?_eq_none q] at h;cases h
 unfold room;simp only[map_cons,sum_cons];omega
theorem room_pop{x:NM}{i:Nat}:room succ names seen fs≤room succ names seen ((x,i)::fs):=by
 unfold room;simp only[map_cons,sum_cons];omega
end
inductive FPl where
 |st|it|se|di
 |I(k:Nat)|W(k:Nat)
 |old(p:Addr×Obj)
structure Cy where
 a:FPl->Addr
 st:List NM
 it:Nat
 di:List NM
 fr:List (NM×Nat)
 seen:List NM
def Cy.ok(c:Cy)(δ0:Led):FPl->Prop
 |.I k|.W k=>k<c.fr.length
 |.old p=>p∈δ0
 |_=>True
def KvOk(kvs:List (Str×Value))(xs:List NM):Prop:=kvs.map (·.1)=xs.map tx∧∀kv∈kvs,∃(i:Nat) (t:Tok),kv.2=.int i t∧i<1000
def wrs(c:Cy)(k:Nat):List Value:=(List.range k).map fun j=>.ref (c.a (.W j))
section
variable(Z:Program)(w:World)(r:Rep)
def Cy.shape(c:Cy)(o:Obj):FPl->Prop
 |.st=>OwnL (dNs c.st) o
 |.it=>LO (wrs c c.it) o
 |.se=>SetO Z w c.seen o
 |.di=>∃kvs,o.IsDictOf (skd Z w) kvs∧KvOk kvs c.di
 |.I k=>∃x i,c.fr[k]? =some (x,i)∧o=iterObj (r.at' (.T x)) i
 |.W k=>o=wrapObj (c.a (.I k))
 |.old p=>o=p.2
structure CyOk(δ0:Led)(c:Cy)(L:Led):Prop where
 hold:∀p,c.ok δ0 p->∃o,(c.a p,o)∈L∧c.shape Z w r o p
 apart:∀p q,(∀b,p≠ .old b)->c.ok δ0 p->c.ok δ0 q->c.a p=c.a q->p=q
 old:∀p,c.a (.old p)=p.1
end
section
variable{Z:Program}{w:World}{r:Rep}{δ0 L:Led}{c c':Cy}
theorem CyOk.upd(h:CyOk Z w r δ0 c L){p₀:FPl}{o':Obj}(ha:c'.a=c.a)(hok:∀p,c'.ok δ0 p->c.ok δ0 p)(hno:∀b,p₀≠ .old b)(h0:c.ok δ0 p₀)(hs:c'.shape Z w r o' p₀)(ho:∀p,p≠p₀->c'.ok δ0 p->∀o,c.shape Z w r o p->c'.shape Z w r o p):CyOk Z w r δ0 c' (setLed (c.a p₀) o' L) where
 hold:=fun p hp=>by
  by_cases e:p=p₀
  ·subst e
   exact⟨o',by rw[ha];exact mem_setLed_self,hs⟩
  ·obtain⟨o,m,sh⟩:=h.hold p (hok p hp)
   exact⟨o,by rw[ha];exact mem_setLed_ne m fun q=>e (h.apart _ _ hno h0 (hok p hp) q.symm).symm,ho p e hp o sh⟩
 apart:=fun p q hn hp hq e=>h.apart p q hn (hok p hp) (hok q hq) (by rw[ha] at e;exact e)
 old:=by rw[ha];exact h.old
theorem CyOk.keeps(h:CyOk Z w r δ0 c L):∀p∈δ0,p∈L:=fun p hp=>by
 obtain⟨o,m,sh⟩:=h.hold (.old p) hp;have e:o=p.2:=sh;rw[h.old,e] at m;exact m
theorem cy_st(h:CyOk Z w r δ0 c L){l:List NM}{o':Obj}(ho:OwnL (dNs l) o'):CyOk Z w r δ0 {c with st:=l} (setLed (c.a .st) o' L):=
 h.upd (p₀:=.st) rfl (fun p hp=>by cases p<;> exact hp) (fun b e=>by cases e) trivial ho fun p hp ok o sh=>by cases p<;> first|exact absurd rfl hp|exact sh
theorem cy_it(h:CyOk Z w r δ0 c L){k:Nat}{o':Obj}(ho:LO (wrs c k) o'):CyOk Z w r δ0 {c with it:=k} (setLed (c.a .it) o' L):=
 h.upd (p₀:=.it) rfl (fun p hp=>by cases p<;> exact hp) (fun b e=>by cases e) trivial ho fun p hp ok o sh=>by cases p<;> first|exact absurd rfl hp|exact sh
theorem cy_se(h:CyOk Z w r δ0 c L){l:List NM}{o':Obj}(ho:SetO Z w l o'):CyOk Z w r δ0 {c with seen:=l} (setLed (c.a .se) o' L):=
 h.upd (p₀:=.se) rfl (fun p hp=>by cases p<;> exact hp) (fun b e=>by cases e) trivial ho fun p hp ok o sh=>by cases p<;> first|exact absurd rfl hp|exact sh
theorem cy_di(h:CyOk Z w r δ0 c L){l:List NM}{o':Obj}{kvs:List (Str×Value)}(ho:o'.IsDictOf (skd Z w) kvs)(hk:KvOk kvs l):CyOk Z w r δ0 {c with di:=l} (setLed (c.a .di) o' L):=
 h.upd (p₀:=.di) rfl (fun p hp=>by cases p<;> exact hp) (fun b e=>by cases e) trivial ⟨kvs,ho,hk⟩ fun p hp ok o sh=>by cases p<;> first|exact absurd rfl hp|exact sh
theorem cy_step(h:CyOk Z w r δ0 c L){fr:List (NM×Nat)}{x:NM}{i:Nat}(hf:c.fr=fr++[(x,i)]):CyOk Z w r δ0 {c with fr:=fr++[(x,i+1)]} (setLed (c.a (.I fr.length)) (iterObj (r.at' (.T x)) (i+1)) L):=by
 have hl:c.fr.length=fr.length+1:=by rw[hf];simp
 refine h.upd (p₀:=.I fr.length) rfl (fun p hp=>?_) (fun b e=>by cases e) (by show fr.length<c.fr.length;omega) ⟨x,i+1,by simp,rfl⟩ fun p hp ok o sh=>?_
 ·cases p with
  |I k=>
   have hp':k<(fr++[(x,i+1)]).length:=hp;show k<c.fr.length;rw[hl];simpa using hp'
  |W k=>
   have hp':k<(fr++[(x,i+1)]).length:=hp;show k<c.fr.length;rw[hl];simpa using hp'
  |_=>exact hp
 ·cases p with
  |I k=>
   obtain⟨y,j,e,q⟩:=sh;refine⟨y,j,?_,q⟩;have ok':k<(fr++[(x,i+1)]).length:=ok;have hk:k≠fr.length:=fun e=>hp (by rw[e]);have hk2:k<fr.length:=by simp at ok';omega
   show(fr++[(x,i+1)])[k]? =some (y,j);rw[hf,getElem?_append_left hk2] at e;rw[getElem?_append_left hk2];exact e
  |_=>exact sh
theorem cy_less(h:CyOk Z w r δ0 c L){fr:List (NM×Nat)}{x:NM}{i:Nat}(hf:c.fr=fr++[(x,i)]):CyOk Z w r δ0 {c with fr:=fr} L:=by
 have hl:c.fr.length=fr.length+1:=by rw[hf];simp
 have hok:∀p,({c with fr:=fr}:Cy).ok δ0 p->c.ok δ0 p:=fun p hp=>by
  cases p with
  |I k=>
   have hp':k<fr.length:=hp;show k<c.fr.length;omega
  |W k=>
   have hp':k<fr.length:=hp;show k<c.fr.length;omega
  |_=>exact hp
 refine⟨fun p hp=>?_,fun p q hn hp hq e=>h.apart p q hn (hok p hp) (hok q hq) e,h.old⟩;obtain⟨o,m,sh⟩:=h.hold p (hok p hp);refine⟨o,m,?_⟩;cases p with
 |I k=>
  obtain⟨y,j,e,q⟩:=sh;have hp':k<fr.length:=hp;refine⟨y,j,?_,q⟩;rw[hf,getElem?_append_left hp'] at e;exact e
 |_=>exact sh
theorem cy_off(h:CyOk Z w r δ0 c L){b:Addr}{o':Obj}(hb:∀p,c.ok δ0 p->c.a p≠b):CyOk Z w r δ0 c (setLed b o' L) where
 hold:=fun p hp=>let⟨o,m,sh⟩:=h.hold p hp;⟨o,mem_setLed_ne m (hb p hp),sh⟩
 apart:=h.apart
 old:=h.old
def Cy.grow(c:Cy)(x:NM)(I W:Addr):Cy:={c with
 a:=fun p=>match p with
  |.I k=>if k=c.fr.length then I else c.a (.I k)
  |.W k=>if k=c.fr.length then W else c.a (.W k)
  |p=>c.a p
 fr:=c.fr++[(x,0)]}
theorem cy_grow(h:CyOk Z w r δ0 c L){x:NM}{I W:Addr}(hn:∀p∈L,p.1≠W∧p.1≠I)(hWI:W≠I)(hi:c.it≤c.fr.length):CyOk Z w r δ0 (c.grow x I W) ([(W,wrapObj I),(I,iterObj (r.at' (.T x)) 0)]++L):=by
 have hl:(c.grow x I W).fr.length=c.fr.length+1:=by simp[Cy.grow]
 have hI:(c.grow x I W).a (.I c.fr.length)=I:=if_pos rfl;have hW:(c.grow x I W).a (.W c.fr.length)=W:=if_pos rfl;have hIk:∀k,k≠c.fr.length->(c.grow x I W).a (.I k)=c.a (.I k):=fun k e=>if_neg e;have hWk:∀k,k≠c.fr.length->(c.grow x I W).a (.W k)=c.a (.W k):=fun k e=>if_neg e;have cls:∀p,(c.grow x I W).ok δ0 p->(c.ok δ0 p∧(c.grow x I W).a p=c.a p)∨(p=.I c.fr.length∧(c.grow x I W).a p=I)∨(p=.W c.fr.length∧(c.grow x I W).a p=W):=fun p hp=>by
  cases p with
  |I k=>
   have hp':k<(c.grow x I W).fr.length:=hp
   by_cases e:k=c.fr.length
   ·subst e;exact .inr (.inl ⟨rfl,hI⟩)
   ·exact .inl ⟨by show k<c.fr.length;omega,hIk k e⟩
  |W k=>
   have hp':k<(c.grow x I W).fr.length:=hp
   by_cases e:k=c.fr.length
   ·subst e;exact .inr (.inr ⟨rfl,hW⟩)
   ·exact .inl ⟨by show k<c.fr.length;omega,hWk k e⟩
  |old p=>exact .inl ⟨hp,rfl⟩
  |_=>exact .inl ⟨trivial,rfl⟩
 have old:∀p,c.ok δ0 p->c.a p≠W∧c.a p≠I:=fun p hp=>by
  obtain⟨o,m,_⟩:=h.hold p hp;exact hn _ m
 refine⟨fun p hp=>?_,fun p q hno hp hq e=>?_,h.old⟩
 ·rcases cls p hp with ⟨h1,e1⟩|⟨rfl,e1⟩|⟨rfl,e1⟩
  ·obtain⟨o,m,sh⟩:=h.hold p h1
   refine⟨o,by rw[e1];exact mem_append_right _ m,?_⟩;cases p with
   |I k=>
    obtain⟨y,j,e,q⟩:=sh;have h1':k<c.fr.length:=h1;exact⟨y,j,by show(c.fr++[(x,0)])[k]? =_;rw[getElem?_append_left h1'];exact e,q⟩
   |W k=>
    have h1':k<c.fr.length:=h1;have:o=wrapObj (c.a (.I k)):=sh;show o=wrapObj ((c.grow x I W).a (.I k));rw[hIk k (by omega)];exact this
   |it=>
    have sh':LO (wrs c c.it) o:=sh;show LO (wrs (c.grow x I W) c.it) o;have e:wrs (c.grow x I W) c.it=wrs c c.it:=by
     unfold wrs;refine map_congr_left fun k hk=>?_;have:=mem_range.mp hk;rw[hWk k (by omega)]
    rw[e];exact sh'
   |_=>exact sh
  ·exact⟨_,by rw[e1];simp,x,0,by show(c.fr++[(x,0)])[c.fr.length]? =_;simp,rfl⟩
  ·exact⟨_,by rw[e1];exact mem_cons_self,by show _=wrapObj _;rw[hI]⟩
 ·rcases cls p hp with ⟨h1,e1⟩|⟨rfl,e1⟩|⟨rfl,e1⟩<;> rcases cls q hq with ⟨h2,e2⟩|⟨rfl,e2⟩|⟨rfl,e2⟩<;> have e:=e1.symm.trans (e.trans e2)
  ·exact h.apart _ _ hno h1 h2 e
  ·exact absurd e (old _ h1).2
  ·exact absurd e (old _ h1).1
  ·exact absurd e.symm (old _ h2).2
  ·rfl
  ·exact absurd e.symm hWI
  ·exact absurd e.symm (old _ h2).1
  ·exact absurd e hWI
  ·rfl
end
def forBody:Stmt->List Stmt
 |.For _ _ b _ _=>b
 |_=>[]
def whileBody:Stmt->List Stmt
 |.While _ b _ _=>b
 |_=>[]
def nthS(l:List Stmt)(k:Nat):Stmt:=l[k]?.getD (.Pass default)
abbrev scFC:Scope:=scopeOf (meth 13 8)
abbrev fcFor:Stmt:=nthS (bodyOf (meth 13 8)) 5
abbrev fcW:Stmt:=nthS (forBody fcFor) 1
abbrev fcIn:Stmt:=nthS (whileBody fcW) 1
structure FcK(H0:Heap):Prop where
 set:GIs H0 (S "set") (.type "set")
 iter:GIs H0 (S "iter") (.builtin "iter")
 len:GIs H0 (S "len") (.builtin "len")
 stop:GIs H0 (S "StopIteration") (.type "StopIteration")
structure Ad4 where
 st:Addr
 it:Addr
 se:Addr
 di:Addr
structure Lk(r:Rep)(d:Ad4)(σ:Sto):Prop where
 n2i:σ.lookup (S "n2i")=some (.v (.ref (r.at' .D)))
 st:σ.lookup (S "stack")=some (.v (.ref d.st))
 it:σ.lookup (S "itstack")=some (.v (.ref d.it))
 se:σ.lookup (S "seen")=some (.v (.ref d.se))
 di:σ.lookup (S "node2stacki")=some (.v (.ref d.di))
theorem Lk.node{r:Rep}{d:Ad4}{σ:Sto}(h:Lk r d σ)(e:Ent):Lk r d ((S "node",e)::σ):=⟨h.n2i,h.st,h.it,h.se,h.di⟩
structure At(Z:Program)(w:World)(r:Rep)(δ0:Led)(d:Ad4)(c:Cy)(L:Led)(dn:List NM)(pend:Option NM):Prop where
 ok:CyOk Z w r δ0 c L
 ast:c.a .st=d.st
 ait:c.a .it=d.it
 ase:c.a .se=d.se
 adi:c.a .di=d.di
 st:c.st=c.fr.map (·.1)
 it:c.it=c.fr.length
 di:c.di=c.fr.map (·.1)
 dfs:Dfs r.succ r.names c.fr.reverse c.seen dn pend
section
variable{Z:Program}{w:World}{H0:Heap}{n:Nat}{σ:Sto}{L δ0:Led}{K:Frag}{c2:Cls2}{r:Rep}{d:Ad4}{c:Cy}{dn:List NM}{pend:Option NM}
theorem hx_brk{sc:Scope}{x:Bool}{δ:Led}{pos:Pos}{rest:List Stmt}{Φ:PostS}(h:∀g,Φ g .brk σ δ):HX x Z w H0 n sc σ δ (.Break pos::rest) Φ:=fun A V ω s η g o F K O=>wpAny_execs_cons (wpAny_Break (GPf.here F (h _)))
theorem hx_cont{sc:Scope}{x:Bool}{δ:Led}{pos:Pos}{rest:List Stmt}{Φ:PostS}(h:∀g,Φ g .cont σ δ):HX x Z w H0 n sc σ δ (.Continue pos::rest) Φ:=fun A V ω s η g o F K O=>wpAny_execs_cons (wpAny_Continue (GPf.here F (h _)))
theorem At.frLen(h:At Z w r δ0 d c L dn pend)(hz:r.names.length≤8):c.fr.length≤8:=by
 have:=nodup_len (l:=c.fr.reverse.map (·.1)) (m:=r.names) h.dfs.nd fun x m=>h.dfs.sub x ((h.dfs.mem x).mpr (.inl m));rw[length_map,length_reverse] at this;omega
theorem At.seLen(h:At Z w r δ0 d c L dn pend)(hz:r.names.length≤8):c.seen.length≤8:=Nat.le_trans (nodup_len h.dfs.snd h.dfs.sub) hz
theorem without_last{kvs:List (Str×Value)}{xs:List NM}{x:NM}(h:KvOk kvs (xs++[x]))(hx:x∉xs):(valueAt kvs (tx x)).isSome=true∧KvOk (without kvs (tx x)) xs:=by
 obtain⟨h1,h2⟩:=h;have hl:kvs.length=xs.length+1:=by
  have:=congrArg List.length h1;simpa using this
 obtain⟨ks,kv,rfl⟩:∃ks kv,kvs=ks++[kv]:=by
  refine⟨kvs.dropLast,kvs.getLast (fun e=>by rw[e] at hl;simp at hl),(List.dropLast_concat_getLast _).symm⟩
 rw[map_append,map_append] at h1;have e:=List.append_inj h1 (by simp at hl ⊢;exact hl);have e2:kv.1=tx x:=by simpa using e.2
 have hn:tx x∉ks.map (·.1):=fun m=>by
  rw[e.1] at m;obtain⟨y,hy,q⟩:=mem_map.mp m;exact hx (tx_inj q▸hy)
 constructor
 ·rw[valueAt_isSome_eq_any]
  simp[e2]
 ·have:without (ks++[kv]) (tx x)=ks:=by
   have h1:=without_of_not_mem ks (tx x) hn;unfold without at h1 ⊢;rw[List.filter_append,h1];simp[e2]
  rw[this];exact⟨e.1,fun q m=>h2 q (mem_append_left _ m)⟩
theorem f2_snoc{α β:Type}{R:α->β->Prop}:∀{as:List β} {b:β} {vs:List α},F2 R vs (as++[b])->∃us u,vs=us++[u]∧F2 R us as∧R u b
 |[],b,_,.cons h .nil=>⟨[],_,rfl,.nil,h⟩
 |a::as,b,_,.cons h t=>by
  obtain⟨us,u,e,f,q⟩:=f2_snoc t;exact⟨_::us,u,by rw[e];rfl,.cons h f,q⟩
def InPost(Z:Program)(w:World)(r:Rep)(δ0:Led)(d:Ad4)(k:Nat)(sn:List NM):PostS:=fun _ fl σ L=>Lk r d σ∧∃c dn,(∀z∈sn,z∈c.seen)∧match fl with
 |.next=>∃y,At Z w r δ0 d c L dn (some y)∧y∈r.names∧σ.lookup (S "node")=some (.d (.str (tx y)))∧room r.succ r.names c.seen c.fr.reverse<k
 |.brk=>At Z w r δ0 d c L dn none∧c.fr=[]
 |_=>False
theorem fc_inner{k:Nat}{sn:List NM}(fk:FcK H0)(R:RepOk Z w c2 r δ0)(hz:r.names.length≤8)(hcl:∀x∈r.names,∀y∈r.succ x,y∈r.names)(lk:Lk r d σ)(h:At Z w r δ0 d c L dn none)(hk:room r.succ r.names c.seen c.fr.reverse≤k)(hs:∀z∈sn,z∈c.seen):
  HT true Z w H0 n scFC σ L fcIn (InPost Z w r δ0 d k sn):=by
 refine ht_while (fun i σ' L'=>Lk r d σ'∧∃c dn,At Z w r δ0 d c L' dn none∧room r.succ r.names c.seen c.fr.reverse≤k∧(∀z∈sn,z∈c.seen)∧c.fr.length=i) c.fr.length (fun i σ' L' hI=>?_) ⟨lk,c,dn,h,hk,hs,rfl⟩;obtain⟨lk,c,dn,h,hk,hs,rfl⟩:=hI;obtain⟨oS,mS,hS⟩:=h.ok.hold .st trivial;rw[h.ast] at mS;have hS:OwnL (dNs c.st) oS:=hS;have zf:=h.frLen hz;have zs:(dNs c.st).length≤8:=by rw[dNs,length_map,h.st,length_map];exact zf
 refine⟨_,gsf_tr (tr_own (ev_var lk.st) mS hS (Nat.le_trans zs (by decide))),fun g σ₁ δ₁ q=>?_,fun g σ₁ δ₁ q=>?_⟩
 ·obtain⟨hb,rfl,rfl⟩:=q
  have hne:c.fr≠[]:=fun e=>by rw[dNs,h.st,e] at hb;simp at hb
  obtain⟨fr,⟨x,i⟩,hfr⟩:∃fr p,c.fr=fr++[p]:=⟨c.fr.dropLast,c.fr.getLast hne,(List.dropLast_concat_getLast _).symm⟩;have hrev:c.fr.reverse=(x,i)::fr.reverse:=by rw[hfr];simp
  have hlen:c.fr.length=fr.length+1:=by rw[hfr];simp
  have hst:c.st=fr.map (·.1)++[x]:=by rw[h.st,hfr];simp
  have hdi:c.di=fr.map (·.1)++[x]:=by rw[h.di,hfr];simp
  have df:=h.dfs;rw[hrev] at df hk;have hxn:x∈r.names:=df.sub x ((df.mem x).mpr (.inl (by simp)));have hnf:x∉fr.map (·.1):=fun m=>by
   have:=(nodup_cons.mp df.nd).1;simp at this m;obtain⟨b,hb⟩:=m;exact this b hb
  have okI:c.ok δ0 (.I fr.length):=by show fr.length<c.fr.length;omega
  have okW:c.ok δ0 (.W fr.length):=okI;obtain⟨oI,mI,hI⟩:=h.ok.hold .it trivial;have hI:LO (wrs c fr.length++[.ref (c.a (.W fr.length))]) oI:=by
   have:LO (wrs c c.it) oI:=hI;rw[h.it,hlen] at this;unfold wrs at this ⊢;rw[range_succ,map_append] at this;exact this
  obtain⟨oW,mW,hW⟩:=h.ok.hold (.W fr.length) okW;have hW:oW=wrapObj (c.a (.I fr.length)):=hW;obtain⟨oJ,mJ,x',i',e',hJ⟩:=h.ok.hold (.I fr.length) okI;have e'':(x',i')=(x,i):=by rw[hfr] at e';simp at e';rw[e'.1,e'.2]
  cases e'';obtain⟨oT,mT0,hT⟩:=R.hold (.T x) hxn;have mT:=h.ok.keeps _ mT0;have hT:OwnL (dNs (r.succ x)) oT:=hT;rw[hst,dNs,map_append] at hS;obtain⟨vs0,hlo,hf0⟩:=ownL_lo.mp hS;obtain⟨us,u,rfl,hf,hu⟩:=f2_snoc hf0;obtain⟨oD,mD,kvs,hD,hkv⟩:=h.ok.hold .di trivial;rw[hdi] at hkv;obtain⟨hv1,hv2⟩:=without_last hkv hnf;rw[h.ait] at mI;rw[h.adi] at mD;subst hW hJ;have hul:us.length=fr.length:=by have:=hf.length;simpa [dNs] using this
  have hkl:kvs.length=fr.length+1:=by have:=congrArg List.length hkv.1;simpa using this
  have ap:∀q,c.ok δ0 q->q≠ .I fr.length->c.a (.I fr.length)≠c.a q:=fun q hq hn e=>hn (h.ok.apart _ _ (fun b e=>by cases e) okI hq e).symm;have aS:=ap .st trivial (fun e=>by cases e);have aI:=ap .it trivial (fun e=>by cases e);have aD:=ap .di trivial (fun e=>by cases e);have n1:c.a .st≠c.a .di:=fun e=>by cases h.ok.apart .st .di (fun b e=>by cases e) trivial trivial e
  have n2:c.a .st≠c.a .it:=fun e=>by cases h.ok.apart .st .it (fun b e=>by cases e) trivial trivial e
  have n3:c.a .di≠c.a .it:=fun e=>by cases h.ok.apart .di .it (fun b e=>by cases e) trivial trivial e
  rw[h.ast] at aS n1 n2;rw[h.ait] at aI n2 n3;rw[h.adi] at aD n1 n3;refine hx_cons (try_next fk.stop (by decide +kernel) (by decide +kernel) (by decide +kernel) (by decide +kernel) (settable_of) lk.it lk.di lk.st mI hI mW mJ mT hT mS hlo hu mD hD hv1 aS aD aI n1 n2 n3 ⟨by unfold wrs;simp;omega,by omega,by omega⟩
   (fun σ' δ'=>ev_neg (i:=1) ev_int) (fun _ _=>rfl) (fun _=>rfl) (fun _=>rfl) (fun _=>rfl) (fun _=>rfl) rfl (fun _=>rfl) rfl (fun _=>rfl)
   (Φ:=fun g fl σ₁ δ₁=>match fl with|.next|.cont=>∃j,j<c.fr.length∧(Lk r d σ₁∧∃c dn,At Z w r δ0 d c δ₁ dn none∧room r.succ r.names c.seen c.fr.reverse≤k∧(∀z∈sn,z∈c.seen)∧c.fr.length=j)|.brk=>InPost Z w r δ0 d k sn g .next σ₁ δ₁|.ret v=>InPost Z w r δ0 d k sn g (.ret v) σ₁ δ₁)
   (fun g dd hdd=>?_) fun g oI' oD' oS' o' hdd hI' hD' hS'=>?_) (fun g σ' δ' q=>hx_nil fun _=>q) fun g fl σ' δ' hn q=>by cases fl<;> first|exact absurd rfl hn|exact q
  ·rw[dNs,getElem?_map,Option.map_eq_some_iff] at hdd
   obtain⟨y,hy,rfl⟩:=hdd;refine⟨lk.node _,{c with fr:=fr++[(x,i+1)]},dn,hs,y,⟨cy_step h.ok hfr,h.ast,h.ait,h.ase,h.adi,by rw[hst];simp,by rw[h.it,hlen];simp,by rw[hdi];simp,?_⟩,hcl x hxn y (mem_of_getElem? hy),rfl,?_⟩
   ·show Dfs r.succ r.names (fr++[(x,i+1)]).reverse c.seen dn (some y)
    rw[List.reverse_append];exact df.take hy
   ·show room r.succ r.names c.seen (fr++[(x,i+1)]).reverse<k
    rw[List.reverse_append];exact Nat.lt_of_lt_of_le (room_take hy) hk
  ·rw[dNs,getElem?_map,Option.map_eq_none_iff] at hdd
   have h1:=cy_less h.ok hfr;have h2:=cy_off (b:=c.a (.I fr.length)) (o':=o') h1 fun p hp e=>by
    have okp:c.ok δ0 p:=by
     cases p with
     |I k=>
      have hp':k<fr.length:=hp;show k<c.fr.length;omega
     |W k=>
      have hp':k<fr.length:=hp;show k<c.fr.length;omega
     |_=>exact hp
    have:=h.ok.apart (.I fr.length) p (fun b e=>by cases e) okI okp e.symm;subst this;exact absurd (show fr.length<fr.length from hp) (Nat.lt_irrefl _)
   have hf:F2 (fun v d=>Flt d v) us (dNs (fr.map (·.1))):=hf;have h5:CyOk Z w r δ0 {c with fr:=fr,st:=fr.map (·.1),di:=fr.map (·.1),it:=fr.length} (setLed d.it oI' (setLed d.di oD' (setLed d.st oS' (setLed (c.a (.I fr.length)) o' δ₁)))):=by
    rw[←h.ait,←h.adi,←h.ast];exact cy_it (k:=fr.length) (cy_di (l:=fr.map (·.1)) (cy_st (l:=fr.map (·.1)) h2 (o':=oS') (ownL_lo.mpr ⟨us,hS',hf⟩)) hD' hv2) hI'
   exact⟨fr.length,by omega,lk,_,x::dn,⟨h5,h.ast,h.ait,h.ase,h.adi,rfl,rfl,rfl,df.pop hdd⟩,Nat.le_trans room_pop hk,hs,rfl⟩
 ·obtain⟨hb,rfl,rfl⟩:=q
  have hfr:c.fr=[]:=by
   have:(dNs c.st).isEmpty=true:=by simpa using hb.symm
   rw[dNs,h.st] at this;simpa using this
  exact hx_brk fun g=>⟨lk,c,dn,hs,h,hfr⟩
end
section
variable{Z:Program}{w:World}{H0:Heap}{n:Nat}{σ:Sto}{L δ0:Led}{K:Frag}{c2:Cls2}{r:Rep}{d:Ad4}{c:Cy}{dn:List NM}{pend:Option NM}
def RingRet(r:Rep)(δ0:Led):Heap->Value->Led->Prop:=fun g v L=>(∃ds,ds≠[]∧ds.length≤100∧Rd (.list ds) g v)∧Ringed r.succ r.names∧∀p∈δ0,p∈L
def MidPost(Z:Program)(w:World)(r:Rep)(δ0:Led)(d:Ad4)(k:Nat)(sn:List NM):PostS:=fun g fl σ L=>match fl with
 |.next=>Lk r d σ∧∃c dn,At Z w r δ0 d c L dn none∧room r.succ r.names c.seen c.fr.reverse≤k∧∀z∈sn,z∈c.seen
 |.ret v=>RingRet r δ0 g v L
 |_=>False
def OutPost(Z:Program)(w:World)(r:Rep)(δ0:Led)(d:Ad4)(sn:List NM):PostS:=fun g fl σ L=>match fl with
 |.next=>Lk r d σ∧∃c dn,At Z w r δ0 d c L dn none∧c.fr=[]∧∀z∈sn,z∈c.seen
 |.ret v=>RingRet r δ0 g v L
 |_=>False
abbrev fcIf:Stmt:=nthS (whileBody fcW) 0
theorem kv_mem{kvs:List (Str×Value)}{xs:List NM}{y:NM}(h:KvOk kvs xs):(valueAt kvs (tx y)).isSome=decide (y∈xs):=by
 rw[valueAt_isSome_eq_any]
 by_cases hy:y∈xs
 ·rw[decide_eq_true hy,any_eq_true]
  have:tx y∈kvs.map (·.1):=by rw[h.1];exact mem_map_of_mem hy
  obtain⟨kv,hm,e⟩:=mem_map.mp this;exact⟨kv,hm,by simpa using e⟩
 ·rw[decide_eq_false hy]
  cases hq:kvs.any fun kv=>decide (kv.1=tx y) with
  |false=>rfl
  |true=>
   obtain⟨kv,hm,e⟩:=any_eq_true.mp hq;have:kv.1∈xs.map tx:=by rw[←h.1];exact mem_map_of_mem hm
   obtain⟨z,hz,e2⟩:=mem_map.mp this;have e:kv.1=tx y:=by simpa using e
   exact absurd (tx_inj (e2.trans e)▸hz) hy
theorem kv_val{kvs:List (Str×Value)}{xs:List NM}{y:NM}(h:KvOk kvs xs)(hy:y∈xs):∃(i:Nat) (t:Tok),valueAt kvs (tx y)=some (.int i t):=by
 have:=kv_mem (y:=y) h;rw[decide_eq_true hy] at this;obtain⟨v,hv⟩:=Option.isSome_iff_exists.mp this;have:∃k,(k,v)∈kvs:=by
  unfold valueAt at hv;obtain⟨p,hp,e⟩:=Option.map_eq_some_iff.mp hv;exact⟨p.1,by rw[←e];exact List.mem_of_find?_eq_some hp⟩
 obtain⟨k,hk⟩:=this;obtain⟨i,t,e,_⟩:=h.2 _ hk;exact⟨i,t,by rw[hv];exact congrArg some e⟩
theorem kv_push{kvs:List (Str×Value)}{xs:List NM}{y:NM}{i:Nat}{t:Tok}(h:KvOk kvs xs)(hy:y∉xs)(hi:i<1000):KvOk (stored kvs (tx y) (.int i t)) (xs++[y]):=by
 have hn:tx y∉kvs.map (·.1):=fun m=>by
  rw[h.1] at m;obtain⟨z,hz,q⟩:=mem_map.mp m;exact hy (tx_inj q▸hz)
 rw[stored_new hn];refine⟨by rw[map_append,h.1,map_append];rfl,fun kv m=>?_⟩;rcases mem_append.mp m with m|m
 ·exact h.2 kv m
 ·rw[mem_singleton.mp m];exact⟨i,t,rfl,hi⟩
theorem fc_if{k:Nat}{sn:List NM}{y y0:NM}(hlo:(d.di==sysModules)=false)(hK:K.In H0)(ck:ClsK K c2)(fk:FcK H0)(R:RepOk Z w c2 r δ0)(hz:r.names.length≤8)(lk:Lk r d σ)(h:At Z w r δ0 d c L dn (some y))(hy:y∈r.names)(hn:σ.lookup (S "node")=some (.d (.str (tx y))))(hk:room r.succ r.names c.seen c.fr.reverse≤k)(hs:∀z∈sn,z∈c.seen)(h0:y0∈c.seen∨y=y0):
  HT true Z w H0 n scFC σ L fcIf (MidPost Z w r δ0 d k (y0::sn)):=by
 obtain⟨oE,mE,hE⟩:=h.ok.hold .se trivial;rw[h.ase] at mE;have hE:SetO Z w c.seen oE:=hE;have zf:=h.frLen hz;have ze:=h.seLen hz;have vn:∀{δ' pos},EvE Z w H0 n scFC σ δ' (.Name (S "node") pos) (.d (.str (tx y))):=ev_var hn;refine ht_if (tr_inSet (ev_var lk.se) mE hE (by omega) vn rfl) (fun hb=>?_) fun hb=>?_
 ·have hys:y∈c.seen:=by simpa using hb
  obtain⟨oD,mD,kvs,hD,hkv⟩:=h.ok.hold .di trivial;rw[h.adi] at mD;rw[h.di] at hkv;have hys0:∀z∈y0::sn,z∈c.seen:=fun z m=>by
   rcases mem_cons.mp m with rfl|m
   ·rcases h0 with q|rfl
    ·exact q
    ·exact hys
   ·exact hs z m
  refine hx_cons (ht_if (b:=decide (y∈c.fr.map (·.1))) (by rw[←kv_mem hkv];exact tr_inO (ev_var lk.di) mD hD hlo vn rfl) (fun hb2=>?_) fun hb2=>hx_nil (Ψ:=MidPost Z w r δ0 d k (y0::sn)) fun g=>⟨lk,c,dn,?_,hk,hys0⟩) (fun g σ' δ' q=>hx_nil fun g=>q) fun g fl σ' δ' hn q=>q
  ·have hyf:y∈c.fr.map (·.1):=by simpa using hb2
   obtain⟨oS,mS,hS⟩:=h.ok.hold .st trivial;rw[h.ast] at mS;have hS:OwnL (dNs c.st) oS:=hS;obtain⟨i,t,hi⟩:=kv_val hkv hyf;have zs:(dNs c.st).length≤8:=by rw[dNs,length_map,h.st,length_map];exact zf
   have zd:((dNs c.st).drop i).length≤8:=by rw[length_drop];omega
   have ring:Ringed r.succ r.names:=h.dfs.ring (by rw[List.map_reverse,List.mem_reverse];exact hyf);refine hx_cons (Ψ:=MidPost Z w r δ0 d k (y0::sn)) (ht_of (gs_mono (gt_return (P:=fun g v=>Rd (.list ((dNs c.st).drop i++[.str (tx y)])) g v) (ev_bin (ev_sliceO (ev_var lk.st) mS hS (ev_asInt (ev_itemO (ev_var lk.di) mD hD vn hi fun _ _=>rfl)) (Nat.le_trans zs (by decide)) fun _ _=>rfl) (ev_list (ds:=[.str (tx y)]) (evs_1 vn fun _=>rfl) (show(1:Nat)≤sizeLine by decide)) (op_addL (by
    rw[List.length_singleton];have:(9:Nat)≤sizeLine:=by decide
    omega)))) fun g fl σ' δ' q=>?_)) (fun g σ' δ' q=>hx_nil fun g=>q) fun g fl σ' δ' hn q=>q
   obtain⟨⟨v,rfl,hv⟩,rfl⟩:=q;exact⟨⟨_,by simp,by rw[length_append,List.length_singleton];omega,hv⟩,ring,h.ok.keeps⟩
  ·have hyf:y∉c.fr.map (·.1):=by simpa using hb2
   exact{h with dfs:=h.dfs.known hys (by rw[List.map_reverse,List.mem_reverse];exact hyf)}
 ·have hys:y∉c.seen:=by simpa using hb
  have hyf:y∉c.fr.map (·.1):=fun m=>hys ((h.dfs.mem y).mpr (.inl (by rw[List.map_reverse,List.mem_reverse];exact m)));refine hx_cons (ht_of (gt_addSet (a:=d.se) (xs:=c.seen) (x:=y) (ev_var lk.se) mE hE (by omega) vn (fun _=>rfl) rfl (fun _=>rfl) fun _=>rfl)) (fun g σ' δ' q=>?_) fun g fl σ' δ' hn q=>absurd q.1 hn;obtain⟨_,rfl,oE',hE',rfl⟩:=q;have k1:CyOk Z w r δ0 {c with seen:=c.seen++[y]} (setLed d.se oE' L):=by rw[←h.ase];exact cy_se h.ok hE'
  generalize setLed d.se oE' L=L1 at k1;obtain⟨oI,mI,hI⟩:=k1.hold .it trivial;have mI:(d.it,oI)∈L1:=by rw[←h.ait];exact mI
  have hI:LO (wrs c c.it) oI:=hI;have R1:=R.mono k1.keeps;obtain⟨oT,mT,hT⟩:=R1.hold (.T y) hy;refine hx_cons (ht_of (gt_appendM (a:=d.it) (ob:=oI) (vs:=wrs c c.it) (ev_var lk.it) mI hI (gs_iterNext fk.iter (by decide +kernel) (ev_succ (x:=y) hK ck R1 hy (ev_item R1 hy (ev_var lk.n2i) vn fun _ _=>rfl) fun _=>rfl) mT hT (fun _=>rfl) (fun _=>rfl) fun _=>rfl) (fun g v σ₁ δ₁ q=>?_) (by unfold wrs;rw[length_map,length_range,h.it];exact Nat.le_trans zf (by decide)) (fun _=>rfl) rfl (fun _=>rfl) fun _=>rfl)) (fun g σ' δ' q=>?_) fun g fl σ' δ' hn q=>absurd q.1 hn
  ·obtain⟨_,W,I,_,_,_,rfl⟩:=q
   exact mem_append_right _ mI
  obtain⟨_,g1,v,δ₁,oI',⟨rfl,W,I,rfl,hWI,hnew,rfl⟩,hI',rfl⟩:=q;have k2:=cy_grow (x:=y) k1 hnew hWI (Nat.le_of_eq h.it);have hI2:LO (wrs (Cy.grow {c with seen:=c.seen++[y]} y I W) (c.fr.length+1)) oI':=by
   have e:wrs (Cy.grow {c with seen:=c.seen++[y]} y I W) (c.fr.length+1)=wrs c c.it++[.ref W]:=by
    unfold wrs;rw[range_succ,map_append,h.it]
    congr 1
    ·refine map_congr_left fun j hj=>?_
     have:=mem_range.mp hj;exact congrArg Value.ref (if_neg (by show¬j=c.fr.length;omega))
    ·exact congrArg (fun q=>[Value.ref q]) (if_pos rfl)
   rw[e];exact hI'
  have k3:CyOk Z w r δ0 {Cy.grow {c with seen:=c.seen++[y]} y I W with it:=c.fr.length+1} (setLed d.it oI' ([(W,wrapObj I),(I,iterObj (r.at' (.T y)) 0)]++L1)):=by
   rw[←h.ait];exact cy_it k2 hI2
  generalize hc3:({Cy.grow {c with seen:=c.seen++[y]} y I W with it:=c.fr.length+1}:Cy)=c3 at k3;generalize setLed d.it oI' ([(W,wrapObj I),(I,iterObj (r.at' (.T y)) 0)]++L1)=L3 at k3;have f1:c3.a .st=d.st:=by subst hc3;exact h.ast
  have f2:c3.a .it=d.it:=by subst hc3;exact h.ait
  have f3:c3.a .se=d.se:=by subst hc3;exact h.ase
  have f4:c3.a .di=d.di:=by subst hc3;exact h.adi
  have f5:c3.fr=c.fr++[(y,0)]:=by subst hc3;rfl
  have f6:c3.st=c.fr.map (·.1):=by subst hc3;exact h.st
  have f7:c3.di=c.fr.map (·.1):=by subst hc3;exact h.di
  have f8:c3.it=c.fr.length+1:=by subst hc3;rfl
  have f9:c3.seen=c.seen++[y]:=by subst hc3;rfl
  clear hc3;obtain⟨oS,mS,hS⟩:=k3.hold .st trivial;rw[f1] at mS;have hS:OwnL (dNs (c.fr.map (·.1))) oS:=by rw[←f6];exact hS
  obtain⟨us,hlo',hf⟩:=ownL_lo.mp hS;have hul:us.length=c.fr.length:=by have:=hf.length;simpa [dNs] using this
  obtain⟨oD,mD,kvs,hD,hkv⟩:=k3.hold .di trivial;rw[f4] at mD;rw[f7] at hkv;have hkl:kvs.length=c.fr.length:=by have:=congrArg List.length hkv.1;simpa using this
  refine hx_cons (ht_of (gt_setItem (d:=d.di) (ob:=oD) (kvs:=kvs) (x:=tx y) (gs_ev (ev_lenO (a:=d.st) fk.len (by decide +kernel) (ev_var lk.st) mS hlo' (by rw[hul];exact Nat.le_trans zf (by decide)) (fun _=>rfl) fun _=>rfl)) (fun g v σ₁ δ₁ q=>?_) hD (by rw[hkl];exact Nat.le_trans zf (by decide)) fun _=>rfl)) (fun g σ' δ' q=>?_) fun g fl σ' δ' hn q=>absurd q.1 hn
  ·obtain⟨_,rfl,rfl⟩:=q
   exact⟨ev_var lk.di (by decide +kernel),vn,mD⟩
  obtain⟨_,g2,v,δ2,oD',⟨mv,rfl,rfl⟩,hD',rfl⟩:=q;obtain⟨t,rfl⟩:=rd_int mv;have k4:CyOk Z w r δ0 {c3 with di:=c.fr.map (·.1)++[y]} (setLed d.di oD' δ2):=by
   rw[←f4];exact cy_di k3 hD' (kv_push hkv hyf (by omega))
  generalize hc4:({c3 with di:=c.fr.map (·.1)++[y]}:Cy)=c4 at k4;have f1:c4.a .st=d.st:=by subst hc4;exact f1
  have f2:c4.a .it=d.it:=by subst hc4;exact f2
  have f3:c4.a .se=d.se:=by subst hc4;exact f3
  have f4:c4.a .di=d.di:=by subst hc4;exact f4
  have f5:c4.fr=c.fr++[(y,0)]:=by subst hc4;exact f5
  have f6:c4.st=c.fr.map (·.1):=by subst hc4;exact f6
  have f7:c4.di=c.fr.map (·.1)++[y]:=by subst hc4;rfl
  have f8:c4.it=c.fr.length+1:=by subst hc4;exact f8
  have f9:c4.seen=c.seen++[y]:=by subst hc4;exact f9
  clear hc4;obtain⟨oS,mS,hS⟩:=k4.hold .st trivial;rw[f1] at mS;have hS:OwnL (dNs (c.fr.map (·.1))) oS:=by rw[←f6];exact hS
  obtain⟨us,hlo',hf⟩:=ownL_lo.mp hS;have hul:us.length=c.fr.length:=by have:=hf.length;simpa [dNs] using this
  refine hx_cons (ht_of (gt_appendM (a:=d.st) (ob:=oS) (vs:=us) (ev_var lk.st) mS hlo' (gs_ev vn) (fun g v σ₁ δ₁ q=>?_) (by rw[hul];exact Nat.le_trans zf (by decide)) (fun _=>rfl) rfl (fun _=>rfl) fun _=>rfl)) (fun g σ' δ' q=>hx_nil fun g=>?_) fun g fl σ' δ' hn q=>absurd q.1 hn
  ·obtain⟨_,rfl,rfl⟩:=q;exact mS
  obtain⟨_,g3,v,δ3,oS',⟨mv,rfl,rfl⟩,hS',rfl⟩:=q;have mv':Rd (.str (tx y)) g3 v:=mv;have k5:CyOk Z w r δ0 {c4 with st:=c.fr.map (·.1)++[y]} (setLed d.st oS' (setLed d.di oD' δ2)):=by
   rw[←f1];exact cy_st k4 (ownL_lo.mpr ⟨_,hS',by rw[dNs,map_append];exact F2.append hf (.cons (flt_of rfl mv') .nil)⟩)
  have rv:c4.fr.reverse=(y,0)::c.fr.reverse:=by rw[f5];simp
  refine⟨lk,{c4 with st:=c.fr.map (·.1)++[y]},dn,⟨k5,f1,f2,f3,f4,by rw[f5];simp,by rw[f5];simpa using f8,by rw[f5,f7];simp,?_⟩,?_,fun z m=>?_⟩
  ·show Dfs r.succ r.names c4.fr.reverse c4.seen dn none
   rw[rv,f9];exact h.dfs.push hys hy
  ·show room r.succ r.names c4.seen c4.fr.reverse≤k
   rw[rv,f9];exact Nat.le_trans (Nat.le_of_lt (room_push hy hys)) hk
  ·show z∈c4.seen
   rw[f9];rcases mem_cons.mp m with rfl|m
   ·rcases h0 with q|rfl
    ·exact mem_append_left _ q
    ·simp
   ·exact mem_append_left _ (hs z m)
end
section
variable{Z:Program}{w:World}{H0:Heap}{n:Nat}{σ:Sto}{L δ0:Led}{K:Frag}{c2:Cls2}{r:Rep}{d:Ad4}{c:Cy}{dn:List NM}{pend:Option NM}
theorem fc_outer{sn:List NM}{y0:NM}(hlo:(d.di==sysModules)=false)(hK:K.In H0)(ck:ClsK K c2)(fk:FcK H0)(R:RepOk Z w c2 r δ0)(hz:r.names.length≤8)(hcl:∀x∈r.names,∀y∈r.succ x,y∈r.names)(lk:Lk r d σ)(h:At Z w r δ0 d c L dn none)(hfr:c.fr=[])(hy:y0∈r.names)(hn:σ.lookup (S "node")=some (.d (.str (tx y0))))(hs:∀z∈sn,z∈c.seen):
  HT true Z w H0 n scFC σ L fcW (OutPost Z w r δ0 d (y0::sn)):=by
 refine ht_while (fun i σ' L'=>Lk r d σ'∧∃c dn y,At Z w r δ0 d c L' dn (some y)∧y∈r.names∧σ'.lookup (S "node")=some (.d (.str (tx y)))∧room r.succ r.names c.seen c.fr.reverse=i∧(∀z∈sn,z∈c.seen)∧(y0∈c.seen∨y=y0)) (room r.succ r.names c.seen c.fr.reverse) (fun i σ' L' hI=>?_)
  ⟨lk,c,dn,y0,{h with dfs:=by have:=h.dfs;rw[hfr] at this ⊢;exact this.start y0},hy,hn,rfl,hs,.inr rfl⟩
 obtain⟨lk,c,dn,y,h,hy,hn,rfl,hs,h0⟩:=hI;refine⟨_,gsf_tr (b:=true) (tr_plain (ev_bool (b:=true)) tr_bool fun _ _=>rfl),fun g σ₁ δ₁ q=>?_,fun g σ₁ δ₁ q=>absurd q.1 (by decide)⟩;obtain⟨_,rfl,rfl⟩:=q;refine hx_cons (fc_if (y0:=y0) hlo hK ck fk R hz lk h hy hn (Nat.le_refl _) hs h0) (fun g σ' δ' q=>?_) fun g fl σ' δ' hn q=>?_
 ·obtain⟨lk,c',dn',h',hk',hs'⟩:=q
  refine hx_cons (fc_inner fk R hz hcl lk h' hk' hs') (fun g σ' δ' q=>hx_nil fun g=>?_) fun g fl σ' δ' hn q=>?_
  ·obtain⟨lk,c,dn,hs,y,h,hy,hn,hr⟩:=q
   exact⟨_,hr,lk,c,dn,y,h,hy,hn,rfl,fun z m=>hs z (mem_cons_of_mem _ m),.inl (hs y0 mem_cons_self)⟩
  ·obtain⟨lk,c,dn,hs,q⟩:=q
   cases fl with
   |brk=>exact⟨lk,c,dn,q.1,q.2,hs⟩
   |next=>exact absurd rfl hn
   |_=>exact q.elim
 ·cases fl with
  |next=>exact absurd rfl hn
  |ret v=>exact q
  |_=>exact q.elim
def Acyc(succ:NM->List NM)(names:List NM):Prop:=∃dn,(∀x∈names,x∈dn)∧Topo succ dn
def FcRes(r:Rep)(g:Heap)(v:Value):Prop:=(v=.none∧Acyc r.succ r.names)∨((∃ds,ds≠[]∧ds.length≤100∧Rd (.list ds) g v)∧Ringed r.succ r.names)
theorem fc_start{aS aI aE aD:Addr}{oS oI oE oD:Obj}(hS:OwnL [] oS)(hI:OwnL [] oI)(hE:SetO Z w [] oE)(hD:oD=emptyDict)(n1:∀p∈δ0,p.1≠aS)(n2:∀p∈(aS,oS)::δ0,p.1≠aI)(n3:∀p∈(aI,oI)::(aS,oS)::δ0,p.1≠aE)(n4:∀p∈(aE,oE)::(aI,oI)::(aS,oS)::δ0,p.1≠aD):
  At Z w r δ0 ⟨aS,aI,aE,aD⟩ ⟨fun p=>match p with|.it=>aI|.se=>aE|.di=>aD|.old q=>q.1|_=>aS,[],0,[],[],[]⟩ ((aD,oD)::(aE,oE)::(aI,oI)::(aS,oS)::δ0) [] none where
 ok:=by
  refine⟨fun p hp=>?_,fun p q hno hp hq e=>?_,fun p=>rfl⟩
  ·cases p with
   |st=>exact⟨oS,by simp,hS⟩
   |it=>
    obtain⟨us,hl,hf⟩:=ownL_lo.mp hI;cases hf;exact⟨oI,by simp,hl⟩
   |se=>exact⟨oE,by simp,hE⟩
   |di=>exact⟨oD,by simp,[],hD▸isDict_empty,rfl,fun kv m=>nomatch m⟩
   |I k=>exact absurd (show k<0 from hp) (Nat.not_lt_zero _)
   |W k=>exact absurd (show k<0 from hp) (Nat.not_lt_zero _)
   |old p=>exact⟨p.2,by simp;exact .inr (.inr (.inr (.inr hp))),rfl⟩
  ·have m1:aS≠aI:=n2 (aS,oS) (by simp)
   have m2:aS≠aE:=n3 (aS,oS) (by simp);have m3:aI≠aE:=n3 (aI,oI) (by simp);have m4:aS≠aD:=n4 (aS,oS) (by simp);have m5:aI≠aD:=n4 (aI,oI) (by simp);have m6:aE≠aD:=n4 (aE,oE) (by simp);cases p with
   |I k=>exact absurd (show k<0 from hp) (Nat.not_lt_zero _)
   |W k=>exact absurd (show k<0 from hp) (Nat.not_lt_zero _)
   |old b=>exact absurd rfl (hno b)
   |st=>
    cases q with
    |st=>rfl
    |it=>exact absurd e m1
    |se=>exact absurd e m2
    |di=>exact absurd e m4
    |I k=>exact absurd (show k<0 from hq) (Nat.not_lt_zero _)
    |W k=>exact absurd (show k<0 from hq) (Nat.not_lt_zero _)
    |old b=>exact absurd e.symm (n1 b hq)
   |it=>
    cases q with
    |st=>exact absurd e.symm m1
    |it=>rfl
    |se=>exact absurd e m3
    |di=>exact absurd e m5
    |I k=>exact absurd (show k<0 from hq) (Nat.not_lt_zero _)
    |W k=>exact absurd (show k<0 from hq) (Nat.not_lt_zero _)
    |old b=>exact absurd e.symm (n2 b (mem_cons_of_mem _ hq))
   |se=>
    cases q with
    |st=>exact absurd e.symm m2
    |it=>exact absurd e.symm m3
    |se=>rfl
    |di=>exact absurd e m6
    |I k=>exact absurd (show k<0 from hq) (Nat.not_lt_zero _)
    |W k=>exact absurd (show k<0 from hq) (Nat.not_lt_zero _)
    |old b=>exact absurd e.symm (n3 b (mem_cons_of_mem _ (mem_cons_of_mem _ hq)))
   |di=>
    cases q with
    |st=>exact absurd e.symm m4
    |it=>exact absurd e.symm m5
    |se=>exact absurd e.symm m6
    |di=>rfl
    |I k=>exact absurd (show k<0 from hq) (Nat.not_lt_zero _)
    |W k=>exact absurd (show k<0 from hq) (Nat.not_lt_zero _)
    |old b=>exact absurd e.symm (n4 b (mem_cons_of_mem _ (mem_cons_of_mem _ (mem_cons_of_mem _ hq))))
 ast:=rfl
 ait:=rfl
 ase:=rfl
 adi:=rfl
 st:=rfl
 it:=rfl
 di:=rfl
 dfs:=⟨trivial,trivial,.nil,(fun x=>by simp),(fun x m=>nomatch m),(fun x m=>nomatch m),.nil⟩
theorem fc_body(hsm:∃o,H0.get? mainGlobals=some o)(hK:K.In H0)(ck:ClsK K c2)(fk:FcK H0)(R:RepOk Z w c2 r L)(hz:r.names.length≤8)(hcl:∀x∈r.names,∀y∈r.succ x,y∈r.names):
  HX true Z w H0 n scFC [(S "self",.v (.ref (r.at' .S)))] L (bodyOf (meth 13 8)) (fun g fl _ δ'=>∃v,fl=.ret v∧FcRes r g v∧∀p∈L,p∈δ'):=by
 refine hx_step (ht_of (gt_st (st_assign (ev_n2i hK ck R (ev_var rfl) fun _=>rfl) (as_name (settable_of)) (fun _ _=>rfl) (fun _ _=>rfl) fun _=>rfl))) ?_;refine hx_cons (ht_of (gt_assignE (gs_newH new_nil) (settable_of) (fun _ _=>rfl) (fun _ _=>rfl))) (fun g σ' δ' q=>?_) fun g fl σ' δ' hn q=>absurd q.1 hn;obtain⟨_,g1,v,σ₁,⟨rfl,aS,oS,rfl,hS,rfl,n1,_⟩,rfl⟩:=q;refine hx_cons (ht_of (gt_assignE (gs_newH new_nil) (settable_of) (fun _ _=>rfl) (fun _ _=>rfl))) (fun g σ' δ' q=>?_) fun g fl σ' δ' hn q=>absurd q.1 hn;obtain⟨_,g1,v,σ₁,⟨rfl,aI,oI,rfl,hI,rfl,n2,_⟩,rfl⟩:=q;refine hx_cons (ht_of (gt_assignE (gs_newH (new_set fk.set (by decide +kernel))) (settable_of) (fun _ _=>rfl) (fun _ _=>rfl))) (fun g σ' δ' q=>?_) fun g fl σ' δ' hn q=>absurd q.1 hn;obtain⟨_,g1,v,σ₁,⟨rfl,aE,oE,rfl,hE,rfl,n3,_⟩,rfl⟩:=q;refine hx_cons (ht_of (gt_assignE (gs_newHA (new_dictA hsm)) (settable_of) (fun _ _=>rfl) (fun _ _=>rfl))) (fun g σ' δ' q=>?_) fun g fl σ' δ' hn q=>absurd q.1 hn;obtain⟨_,g1,v,σ₁,⟨rfl,aD,oD,rfl,⟨hD,hlo⟩,rfl,n4,nH⟩,rfl⟩:=q;have h0:=fc_start (r:=r) hS hI hE hD n1 n2 n3 n4;obtain⟨oN,mN,hN⟩:=R.hold .D trivial;have hdl:((r.names.map fun x=>(tx x,Value.ref (r.at' (.I x)))).map fun p=>Ent.d (.str p.1)).length=r.names.length:=by simp
 refine hx_cons (ht_for (x:=true) [(r.at' .D,oN)] (fun i σ' L'=>Lk r ⟨aS,aI,aE,aD⟩ σ'∧∃c dn,At Z w r L ⟨aS,aI,aE,aD⟩ c L' dn none∧c.fr=[]∧∀z∈r.names.take i,z∈c.seen)
  (Ψ:=fun g fl σ' L'=>match fl with|.next=>(∀p∈L,p∈L')∧Acyc r.succ r.names|.ret v=>RingRet r L g v L'|_=>False)
  (itf_keys (ev_var rfl) (by simp;exact .inr (.inr (.inr (.inr mN)))) hN R.lo) ⟨⟨rfl,rfl,rfl,rfl,rfl⟩,_,[],h0,rfl,fun z m=>nomatch m⟩ (fun i σ' L' hJ p hp=>?_) (fun i e σ' L' he hJ=>?_) (fun g σ' L' hJ=>?_) (fun _ _=>rfl) (.inl ⟨_,_,rfl⟩)) (fun g σ' δ' q=>?_) fun g fl σ' δ' hn q=>?_
 ·rw[mem_singleton.mp hp]
  obtain⟨_,c,dn,h,_⟩:=hJ;exact h.ok.keeps _ mN
 ·obtain⟨lk,c,dn,h,hfr,hs⟩:=hJ
  rw[getElem?_map,Option.map_eq_some_iff] at he;obtain⟨p,hp,rfl⟩:=he;rw[getElem?_map,Option.map_eq_some_iff] at hp;obtain⟨y,hy,rfl⟩:=hp;have hyn:y∈r.names:=mem_of_getElem? hy;have htk:r.names.take (i+1)=r.names.take i++[y]:=by rw[take_add_one,hy];rfl
  refine⟨_,as_name (settable_of),?_⟩;have lk':Lk r ⟨aS,aI,aE,aD⟩ ((S "node",.d (.str (tx y)))::σ'):=lk.node _;obtain⟨oE',mE,hE'⟩:=h.ok.hold .se trivial;rw[h.ase] at mE;have ze:=h.seLen hz;refine hx_cons (ht_if (tr_inSet (a:=aE) (x:=y) (ev_var lk'.se) mE hE' (by omega) (ev_var rfl) rfl) (fun hb=>?_) fun hb=>hx_nil (Ψ:=fun g fl σ₁ L1=>match fl with|.next=>σ₁=(S "node",.d (.str (tx y)))::σ'∧L1=L'|.cont=>y∈c.seen∧σ₁=(S "node",.d (.str (tx y)))::σ'∧L1=L'|_=>False) fun g=>⟨rfl,rfl⟩) (fun g σ₁ L1 q=>?_) fun g fl σ₁ L1 hn q=>?_
  ·exact hx_cont fun g=>⟨by simpa using hb,rfl,rfl⟩
  ·obtain⟨rfl,rfl⟩:=q
   refine hx_cons (fc_outer hlo hK ck fk R hz hcl lk' h hfr hyn rfl hs) (fun g σ₁ L1 q=>hx_nil fun g=>?_) fun g fl σ₁ L1 hn q=>?_
   ·obtain⟨lk,c,dn,h,hfr,hs⟩:=q
    refine⟨lk,c,dn,h,hfr,fun z m=>hs z ?_⟩;rw[htk] at m;rcases mem_append.mp m with m|m
    ·exact mem_cons_of_mem _ m
    ·rw[mem_singleton.mp m];exact mem_cons_self
   ·cases fl with
    |next=>exact absurd rfl hn
    |ret v=>
     intro g' ex;obtain⟨⟨ds,a,b,hv⟩,rest⟩:=q;exact⟨⟨ds,a,b,hv.ext ex⟩,rest⟩
    |_=>exact q.elim
  ·cases fl with
   |next=>exact absurd rfl hn
   |cont=>
    obtain⟨hys,rfl,rfl⟩:=q;refine⟨lk',c,dn,h,hfr,fun z m=>?_⟩;rw[htk] at m;rcases mem_append.mp m with m|m
    ·exact hs z m
    ·rw[mem_singleton.mp m];exact hys
   |_=>exact q.elim
 ·obtain⟨lk,c,dn,h,hfr,hs⟩:=hJ
  refine⟨h.ok.keeps,dn,fun x hx=>?_,h.dfs.topo⟩;rw[hdl,take_length] at hs;have:=(h.dfs.mem x).mp (hs x hx);rw[hfr] at this;simpa using this
 ·refine hx_of (gx_last (gs_mono (gt_return (P:=fun _ v=>v=.none) (EvP.mono (ev_none) fun g v r=>rd_none r)) fun g fl σ' δ'' p=>?_) fun g σ' δ' p=>by obtain⟨v,e,_⟩:=p;cases e)
  obtain⟨⟨v,rfl,rfl⟩,rfl⟩:=p;exact⟨_,rfl,.inl ⟨rfl,q.2⟩,q.1⟩
 ·cases fl with
  |next=>exact absurd rfl hn
  |ret v=>exact⟨v,rfl,.inr ⟨q.1,q.2.1⟩,q.2.2⟩
  |_=>exact q.elim
end
def listKO:AccK (List PyData) where
 R:=fun h η D ds=>∃o,h.get? D=some o∧OwnL ds o
 move:=fun hD x ⟨o,e,r⟩=>⟨o,hD o e,r⟩
 alive:=fun⟨o,e,_⟩=>⟨o,e⟩
section
variable{β:Type}{K:AccK β}
theorem newAcc_own:NewAcc Z w H0 listKO (newList []) []:=fun A s _=>wpAny_newObj_type ⟨_,rfl,rfl,rfl,fun η=>⟨_,Heap.get?_push_size _ rfl,[],0,rfl,.nil⟩⟩
theorem append_own{elt:Expr}{xs:List Str}{b:List PyData}{d:PyData}(hfd:flatD d=true)(h:EvE Z w H0 n sc σ δ elt (.d d))(hz:b.length≤sizeLine):
  CoP Z w H0 n sc σ δ xs listKO (fun V acc=>do let _ ←call (.builtin "list.append") [acc,←eval elt V]) b (b++[d]):=by
 intro A V s η D g o F hD hoff hK;refine wpAny_bind (seqP (h A V s η g o F) fun v s₁ q=>?_);obtain⟨h₁,t₁,rfl,ex,r⟩:=q;obtain⟨ob,he,vs,k,rfl,f⟩:=hK;have he1:=ex _ _ he;have fu:=flt_of hfd r;refine wpAny_bind (call_meets PySem.F.slot_list_append ⟨_,he1,rfl⟩ PySem.F.entry_list_append (PySem.F.args_list_append_2 _ _) (list_append D (toArray vs) k v (by rw[size_toArray,f.length];exact hz)) ⟨he1,?_⟩);refine wpAny_pure ?_;have hs:Heap.SameBut D h₁ (h₁.update D (Obj.mapSeq fun x=>x.push v)):=Heap.SameBut.update ..;have hg:=Heap.get?_update_self (Obj.mapSeq fun x=>x.push v) he1 (by rw[lo_push];rfl);rw[lo_push] at hg;have k:=sameBut_keep hs;refine⟨_,t₁,rfl,(ex.keep _).trans (k.more fun a m=>by rw[mem_singleton.mp m];exact mem_cons_self),?_,_,hg,vs++[v],_,rfl,f.append (.cons fu .nil)⟩;refine(F.ext ex).keepBut k (fun a m=>by rw[mem_singleton.mp m];exact hD) (fun a m=>by rw[mem_singleton.mp m];exact⟨hoff.1,hoff.2.1,hoff.2.2⟩) (fun a m=>?_);rw[mem_singleton.mp m];exact⟨_,hg⟩
theorem turnsP_own{α:Type}{items:List α}{enc:α->Ent}{F:α->Option PyData}{target iter elt:Expr}{ifs:List Expr}{xs:List Str}(hz:items.length≤sizeLine)(hfd:∀a d,F a=some d->flatD d=true)
  (turn:∀a∈items,TurnLC Z w H0 n sc σ δ target ifs elt xs enc F a):
  TurnsP Z w H0 n sc σ δ ⟨target,iter,ifs,0⟩ (fun V acc=>do let _ ←call (.builtin "list.append") [acc,←eval elt V]) xs listKO (items.map enc) (fun i=>(items.take i).filterMap F):=by
 intro i x hx;rw[getElem?_map] at hx;cases ha:items[i]? with
 |none=>rw[ha] at hx;simp at hx
 |some a=>
  rw[ha] at hx;simp at hx;subst hx;have hm:a∈items:=mem_of_getElem? ha;obtain⟨bs,p,h1,h2,h3,h4,h5,h6⟩:=turn a hm;have e:(items.take (i+1)).filterMap F=(items.take i).filterMap F++(F a).toList:=by
   rw[take_add_one,ha,List.filterMap_append];simp only[Option.toList];cases hF:F a<;> simp[hF]
  have hlen:((items.take i).filterMap F).length≤sizeLine:=Nat.le_trans (length_filterMap_le ..) (Nat.le_trans (by rw[length_take];exact Nat.min_le_right _ _) hz);refine⟨bs,p,h1,fun y hy=>by rw[←h2];exact hy,fun y hy=>h3 y (by rw[←h2];exact hy),h4,fun hp=>?_,fun hp=>?_⟩
  ·obtain⟨d,hd,hE⟩:=h5 hp
   show CoP _ _ _ _ _ _ _ _ _ _ _ ((items.take (i+1)).filterMap F);rw[e,hd];exact append_own (hfd _ _ hd) hE hlen
  ·show(items.take (i+1)).filterMap F=_
   rw[e,h6 hp];simp
theorem new_comp{e:Expr}{c:Comprehension}{gs:List Comprehension}{tail:Env->Value->Sem Unit}{scope:Scope}{xs:List Str}{ds:List Ent}{newAcc:Sem Value}{pos:Pos}{Q:Obj->Prop}(B:Nat->β)
  (hf:CompForm e 0 c tail)(hgs:clausesOf e=c::gs)(hok:compOk sc scope=true)(hxs:∀x∈xs,scope.names.lookup x=some .local∨scope.names.lookup x=some .cell)(hacc:NewAcc Z w H0 K newAcc (B 0))
  (he:∀V,eval e V=comprehension e scope V pos newAcc false (eval c.iter V))(hs:∀V x,foldedSetIterable c.iter V x=pure x)
  (hi:ItP Z w H0 n sc σ δ c.target c.iter ds)(turn:TurnsP Z w H0 n (scIn sc scope) (stoIn scope σ) δ c tail xs K ds B)
  (hP:∀h η D,K.R h η D (B ds.length)->∃o,h.get? D=some o∧Q o):NewP Z w H0 n sc σ δ e Q:=by
 intro A V s η g o F;rw[he];have hok':=hok;simp only[compOk,Bool.and_eq_true,decide_eq_true_eq,all_eq_true,Bool.or_eq_true,bne_iff_ne,ne_eq,beq_iff_eq] at hok';obtain⟨⟨⟨hk,hnd⟩,hfree⟩,hloc⟩:=hok';refine wpAny_comprehension_free (use:=none) hgs (hs V) (closureFor_ok hok o) hk (fun y hy hl=>(hloc y hy).resolve_left fun q=>q hl) ?_;refine wpAny_mono (hi A V s η g o F) (fun v s₁ q=>wpAny_mono q (fun it s2 q2=>?_) fun _ _ f=>f) fun _ _ f=>f;refine comp_core (RR:=fun acc C=>compPost (model Z w) A NoE none (fun v s'=>∃h' tk a o,s'={s with heap:=h',toks:=tk}∧Ext s.heap h'∧v=.ref a∧h'.get? a=some o∧s.heap.get? a=none∧Q o) acc C) B hf hok hxs hacc turn.j (Nat.zero_le _) g o F q2 ?_;intro D C h' tk hn hx hC hD hDC hR;obtain⟨m,hn⟩:=hn;refine⟨m,hn,fun h'' hs''=>?_⟩;have k:=sameBut_keep hs'';obtain⟨ob,e,r⟩:=hP _ _ _ hR;refine⟨h'',tk,D,ob,rfl,fun b oo eb=>k b oo (fun hm=>?_) (hx b oo eb),rfl,k D ob (by simpa using hDC) e,hD,r⟩;rw[mem_singleton.mp hm,hC] at eb;cases eb
theorem new_lc{α:Type}{items:List α}{enc:α->Ent}(F:α->Option PyData){target iter elt:Expr}{ifs:List Expr}{scope:Scope}{pos:Pos}{xs:List Str}(ht:(∃y p,target=.Name y p)∨∃es k p,target=.Tuple es k p)
  (hok:compOk sc scope=true)(hxs:∀x∈xs,scope.names.lookup x=some .local∨scope.names.lookup x=some .cell)(hs:∀V x,foldedSetIterable iter V x=pure x)(hfd:∀a d,F a=some d->flatD d=true)
  (hi:ItP Z w H0 n sc σ δ target iter (items.map enc))(hz:items.length≤sizeLine)
  (turn:∀a∈items,TurnLC Z w H0 n (scIn sc scope) (stoIn scope σ) δ target ifs elt xs enc F a):NewP Z w H0 n sc σ δ (.ListComp elt [⟨target,iter,ifs,0⟩] scope pos) (OwnL (items.filterMap F)):=by
 refine new_comp (K:=listKO) (fun i=>(items.take i).filterMap F) (form_lc1 ht) rfl hok hxs (by simpa using newAcc_own) (fun V=>rfl) hs hi (turnsP_own hz hfd turn) fun h η D hK=>?_;rw[length_map,take_length] at hK;exact hK
end
section
variable{K:Frag}
theorem fm_show{η:List Addr}{V:Env}{h:Heap}{σ'':Sto}{D:Addr}{oD:Obj}(F:Fm H0 η δ V σ h)(hD:(D,oD)∈δ)
  (hσ:∀g,g.get? D=some oD->∀x e',σ''.lookup x=some e'->∃e,σ.lookup x=some e∧∀v,Means g v e->Means g v e'):
  Fm H0 (η.filter fun b=>b !=D) (δ.filter fun p=>p.1 !=D) V σ'' h:=by
 have F1:Fm H0 η (δ.filter fun p=>p.1 !=D) V σ h:={F with
  ledh:=fun p hp=>F.ledh p (mem_filter.mp hp).1
  ledg:=fun p hp=>F.ledg p (mem_filter.mp hp).1
  ledoff:=fun p hp=>F.ledoff p (mem_filter.mp hp).1}
 have o:=F.ledoff _ hD;have nin:∀b,b∈η->b≠D->b∈η.filter fun b=>b !=D:=fun b m n=>mem_filter.mpr ⟨m,by simpa using n⟩;have F2:Fm H0 (η.filter fun b=>b !=D) (δ.filter fun p=>p.1 !=D) V σ h:=F1.less (fun a m=>(mem_filter.mp m).1) (nin _ F.loc fun e=>o.1 e.symm) (fun p hp=>nin _ (F.celh p hp) fun e=>o.2 p hp e.symm) fun p hp=>nin _ (F1.ledh p hp) (by simpa using (mem_filter.mp hp).2);have gD:(vis h (η.filter fun b=>b !=D)).get? D=some oD:=vis_get (F.ledg _ hD) fun m=>by simpa using (mem_filter.mp m).2
 exact{F2 with
  ns:=by
   obtain⟨m,hm,q⟩:=F2.ns;refine⟨m,hm,fun x e' hx hk=>?_⟩;obtain⟨e,he,hme⟩:=hσ _ gD x e' hx;obtain⟨v,a,b⟩:=q x e he hk;exact⟨v,a,hme v b⟩
  cell:=fun x e' hx hk=>by
   obtain⟨e,he,hme⟩:=hσ _ gD x e' hx;obtain⟨c,v,a,b,d⟩:=F2.cell x e he hk;exact⟨c,v,a,b,hme v d⟩}
theorem new_show{e:Expr}{Q:Obj->Prop}{σ'':Sto}{D:Addr}{oD:Obj}(hD:(D,oD)∈δ)
  (hσ:∀g,g.get? D=some oD->∀x e',σ''.lookup x=some e'->∃e,σ.lookup x=some e∧∀v,Means g v e->Means g v e')
  (h:NewP Z w H0 n sc σ'' (δ.filter fun p=>p.1 !=D) e Q):NewP Z w H0 n sc σ δ e Q:=fun A V s η g o F=>h A V s _ g o (fm_show F hD hσ)
def dView(D:Addr)(oD:Obj):Ent:=.p (fun g v=>∃vw o,v=.ref vw∧g.get? vw=some o∧o.cls=.type "dict_values"∧o.data=.fields #[.ref D]∧g.get? D=some oD) fun g g' v x ⟨vw,o,e,a,b,c,d⟩=>⟨vw,o,e,x _ _ a,b,c,x _ _ d⟩
theorem src_view{D:Addr}{oD:Obj}{kvs:List (Str×Value)}(hl:oD.IsDictOf (skd Z w) kvs):SrcV Z w H0 n (dView D oD) (kvs.map fun p=>.v p.2):=by
 intro A s η v g B ra;obtain⟨vw,o,rfl,hv,hc,hd,hD⟩:=ra;obtain⟨hv1,_⟩:=vis_inv hv;obtain⟨hD1,hDn⟩:=vis_inv hD;obtain⟨o',es,ep,ho',hr⟩:=Heap.dictOf_iff.mpr ⟨oD,hD1,hl⟩;have hat:s.heap.DictAt (skd Z w) D kvs ep:=⟨o',es,ho',hr⟩;have dne:D≠s.heap.objs.size:=Nat.ne_of_lt (Heap.lt_size hD1);have nfresh:s.heap.get? s.heap.objs.size=none:=fresh_of (Nat.le_refl _);refine wpAny_pyIter_values (knd:=skd Z w) ⟨o,hv1,hc,hd⟩ hat ⟨s.heap.objs.size,[s.heap.objs.size,D],[s.heap.objs.size],(fun i h=>h.IsValIter s.heap.objs.size D i kvs.length ep∧h.DictAt (skd Z w) D kvs ep),_,s.toks,rfl,rfl,ext_push _ _,⟨?_,?_,?_⟩,?_,?_,?_⟩
 ·have W:=Walks.dictValues (prog:=Z) (w:=w) (knd:=skd Z w) g.hh s.heap.objs.size D dne kvs ep
  have e:kvs.length=(kvs.map fun p=>Ent.v p.2).length:=by rw[length_map]
  rw[e] at W;have:=Walks.imp (P':=fun i v=>∃e,(kvs.map fun p=>Ent.v p.2)[i]? =some e∧Means (vis s.heap η) v e) W fun i v p=>by
   obtain⟨k,h1⟩:=p;exact⟨.v v,by rw[getElem?_map,h1];rfl,rfl⟩
  rw[←e] at this ⊢;exact this
 ·intro i h st b hb
  obtain⟨⟨o,e,_⟩,_⟩:=st;rw[mem_singleton.mp hb];exact⟨o,e⟩
 ·intro i h st
  obtain⟨⟨o,e,c,_⟩,_⟩:=st;exact⟨o,_,e,c,by decide⟩
 ·exact⟨⟨_,Heap.get?_push_size _ rfl,rfl,rfl⟩,⟨o',es,Heap.get?_push_of_some _ ho',hr⟩⟩
 ·intro b hb
  rw[mem_singleton.mp hb];exact nfresh
 ·intro b hb
  rcases mem_cons.mp hb with rfl|hb
  ·exact⟨⟨_,Heap.get?_push_size _ rfl⟩,B.fresh⟩
  ·rw[mem_singleton.mp hb]
   exact⟨⟨_,Heap.get?_push_of_some _ hD1⟩,hDn⟩
def dWith(u:Value)(D:Addr)(oD:Obj):Ent:=.p (fun g v=>v=u∧g.get? D=some oD) fun g g' v x ⟨e,a⟩=>⟨e,x _ _ a⟩
theorem ev_values{e:Expr}{pa pos:Pos}{D:Addr}{oD:Obj}{kvs:List (Str×Value)}(he:EvE Z w H0 n sc σ δ e (dWith (.ref D) D oD))(hl:oD.IsDictOf (skd Z w) kvs)(lo:(D==sysModules)=false)
  (hbase:∀V,attributeBase e "values" V (eval e V)=eval e V)(hline:(pa.endLine==pos.line)=true):EvE Z w H0 n sc σ δ (.Call (.Attribute e "values" pa) [] [] pos) (dView D oD):=by
 intro A V s η g o F;refine Call_method0 (hbase _) hline (seqP (he A V s η g o F) fun u s₁ q=>?_);obtain⟨rfl,hD⟩:=q.val;have hDh:=dict_at (Z:=Z) (w:=w) (vis_inv hD).1 hl;refine⟨"dict","dict.values",PySem.F.plainAttrs_dict,PySem.F.slot_dict_values,PySem.F.type_dict_values,hDh.typeIs,hDh.mapOf.noDict,?_⟩;refine callWith_builtin rfl (PySem.evalArgs_none ?_);refine call_meetsIn PySem.F.slot_dict_values hDh.typeIs PySem.F.entry_dict_values (PySem.F.args_dict_values_1 _) (meets_dict_values (skd Z w) D lo) ⟨⟨_,hDh⟩,?_⟩;have F1:=F.ext q.ext;exact q.trans ⟨_,_,rfl,ext_push _ _,_,_,rfl,vis_push F1.toBase _,rfl,rfl,vis_ext η (ext_push _ _) _ _ hD⟩
theorem ev_attrW{e:Expr}{name:Str}{pos:Pos}{C x dx D:Addr}{oD:Obj}{sl:Array (Option Value)}{od:Obj}{fs:List (Str×Value)}{v:Value}(hK:K.In H0)(c:DCls K C)(he:EvE Z w H0 n sc σ δ e (dWith (.ref x) D oD))(hx:(x,instD C dx sl)∈δ)(hd:(dx,od)∈δ)(hf:FD fs od)
  (hn:freeName K C name)(hl:fs.lookup name=some v)(hv:handedIn v=true)(ha:attrEv e name pos):EvE Z w H0 n sc σ δ (.Attribute e name pos) (dWith v D oD):=by
 intro A V s η g o F;obtain⟨es,m,rfl,hes⟩:=hf;refine Attribute_any_ (seqP (he A V s η g o F) fun u s₁ q=>?_) (ha V);obtain⟨rfl,hD⟩:=q.val;have F1:=F.ext q.ext;exact getD (fm_K hK F1) c (F1.ledg _ hx) (F1.ledg _ hd) hn (by rw[esfs_get name hes,hl]) hv (q.trans (Pu.tok ⟨rfl,hD⟩))
end
section
variable{K:Frag}
theorem callWith_E{A:Around}{V:Env}{s:Shared}{η:List Addr}{f:Value}{first:List Value}{pos:Pos}{trees:List (Bool×Sem Value)}{xs:List Ent}{Q:Value->Shared->Prop}{E:Value->Shared->Prop}(hH:Ext H0 s.heap)(hc:Callee H0 f)(hp:trees.any (·.1)=false)
  (ha:wpAny (model Z w) A (spliced trees) (Pu s η (fun g vs=>MeansAll g vs xs)) NoE s)
  (h:∀vs s₁,Pu s η (fun g vs=>MeansAll g vs xs) vs s₁->wpAny (model Z w) A (call f (first++vs)) Q E s₁):
  wpAny (model Z w) A (callWith pos f first trees []) Q E s:=by
 refine callWith_of (P:=fun h=>Ext H0 h) (by rw[hp];rfl) (fun h e=>hc _ h e) (evalArgs_any hp ?_);exact wpAny_mono ha (fun vs s₁ q=>⟨hH.trans q.ext,h vs s₁ q⟩) fun _ _ f=>f.elim
theorem meth_raw{e:Expr}{m:Str}{pa pos:Pos}{args:List Expr}{C x dx f:Addr}{sl:Array (Option Value)}{od:Obj}{fs:List (Str×Value)}{xs:List Ent}{A:Around}{V:Env}{s:Shared}{η:List Addr}{Q E:Value->Shared->Prop}(g:Good n A)(o:EnvOk sc V)(F:Fm H0 η δ V σ s.heap)(hK:K.In H0)(c:DCls K C)(he:EvE Z w H0 n sc σ δ e (.v (.ref x)))(hx:(x,instD C dx sl)∈δ)(hd:(dx,od)∈δ)(hf:FD fs od)
  (hsh:fs.lookup m=none)(hm:findIn K (.ref C) m=some (some (.ref f)))(ht:typeIn K (.ref f)=some (.type "function"))(hc:Callee H0 (.ref f))(ha:EvsP Z w H0 n sc σ δ pos args xs)
  (hb:∀V,(backTo pos (starEach args V)).any (·.1)=false)(hev:MethEv e m pa args pos)
  (h:∀s2 vs,Pu s η (fun _ (_:Value)=>True) .none s2->Fm H0 η δ V σ s2.heap->MeansAll (vis s2.heap η) (.ref x::vs) (.v (.ref x)::xs)->wpAny (model Z w) A (call (.ref f) (.ref x::vs)) Q E s2):
  wpAny (model Z w) A (eval (.Call (.Attribute e m pa) args [] pos) V) Q E s:=by
 obtain⟨pl,hpl⟩:=hev V;obtain⟨es,k,rfl,hes⟩:=hf;refine MethodCall_ (pl:=pl) (wpAny_mono (he A V s η g o F) (fun u s₁ q=>?_) fun _ _ f=>f.elim) hpl;have e1:=q.val;subst e1;have F1:=F.ext q.ext;refine method_fn (fm_K hK F1) (inst_at (F1.ledg _ hx) (F1.ledg _ hd)) c.ga c.gn hm ht (by show(lookIn m (dictOf es k)).map _=_;rw[lookIn_dict,esfs_get m hes,hsh];rfl) ?_;refine callWith_E (V:=V) F1.toBase.h0 hc (hb V) (ha A V s₁ η g o F1) fun vs s2 q2=>?_;have F2:=F1.ext q2.ext;exact h s2 vs ((q.mono (P':=fun _ _=>True) fun _ _=>trivial).trans (q2.mono (P':=fun _ _=>True) fun _ _=>trivial)) F2 ⟨rfl,q2.val⟩
theorem Fm.callU{η η':List Addr}{V:Env}{ω:List Env}{h h':Heap}{L L' rest:Led}(F:Fm H0 η δ V σ h)(lo:∀b∈frs ω,b∈η)(O:Off2 ω V δ)(hL:∀p∈L,p∈δ)(hr:∀p∈rest,p∈δ∧p.1∉L.map (·.1))(k:KeepU (L.map (·.1)) (V.locals::frs ω) h h')(B:Base H0 η' h')(LO:LedOk η' L' h')
  (m1:∀b∈η,b∈η')(m2:∀b∈η',b∈η∨h.get? b=none)(m3:∀p∈L',p.1∈L.map (·.1)∨h.get? p.1=none):Fm H0 η' (L'++rest) V σ h':=by
 have hLo:∀b∈L.map (·.1),b∈η:=fun b m=>by obtain⟨p,hp,rfl⟩:=mem_map.mp m;exact F.ledh p (hL p hp)
 have inh:∀b∈V.locals::frs ω,b∈η:=fun b m=>by
  rcases mem_cons.mp m with rfl|m
  ·exact F.loc
  ·exact lo b m
 have vk:Ext (vis h η) (vis h' η'):=fun b o e=>vis_get (k.1 b o (fun m=>(vis_inv e).2 (hLo b m)) (fun m=>(vis_inv e).2 (inh b m)) (vis_inv e).1) fun m=>by
  rcases m2 b m with m|m
  ·exact(vis_inv e).2 m
  ·rw[(vis_inv e).1] at m;cases m
 have nc:∀q∈V.cells,q.2∉L.map (·.1):=fun q hq m=>by obtain⟨p,hp,e⟩:=mem_map.mp m;exact(F.ledoff p (hL p hp)).2 q hq e
 have nf:∀q∈V.cells,q.2∉V.locals::frs ω:=fun p hp m=>by
  rcases mem_cons.mp m with e|m
  ·exact F.off p hp e
  ·exact O _ m (mem_cons_of_mem _ (mem_append_left _ (mem_map_of_mem hp)))
 have offl:∀p∈δ,p.1∉V.locals::frs ω:=fun p hp m=>by
  rcases mem_cons.mp m with e|m
  ·exact(F.ledoff p hp).1 e
  ·exact O _ m (own_of (mem_map_of_mem hp))
 have kc:∀q∈V.cells,∀o,h.get? q.2=some o->h'.get? q.2=some o:=fun q hq o e=>k.1 _ _ (nc q hq) (nf q hq) e;exact{
  toBase:=B
  loc:=m1 _ F.loc
  celh:=fun p hp=>m1 _ (F.celh p hp)
  ledh:=fun p hp=>by
   rcases mem_append.mp hp with hp|hp
   ·exact LO.1 p hp
   ·exact m1 _ (F.ledh p (hr p hp).1)
  ns:=by
   obtain⟨m,⟨o,es,ep,e,hd,r⟩,q⟩:=F.ns;obtain⟨sl,e'⟩:=k.2 V.locals mem_cons_self o e fun vs q=>by rw[hd] at q;cases q
   exact⟨m,⟨_,es,ep,e',hd,r⟩,fun y e a b=>let⟨v,c,d⟩:=q y e a b;⟨v,c,d.ext vk⟩⟩
  cell:=fun y e a b=>let⟨c,v,p,⟨o,e1,e2⟩,r⟩:=F.cell y e a b;⟨c,v,p,⟨o,kc (y,c) (mem_of_lookup p) _ e1,e2⟩,r.ext vk⟩
  cells:=fun p m=>let⟨v,o,e1,e2⟩:=F.cells p m;⟨v,o,kc p m _ e1,e2⟩
  ledg:=fun p hp=>by
   rcases mem_append.mp hp with hp|hp
   ·exact LO.2 p hp
   ·exact k.1 _ _ (hr p hp).2 (offl p (hr p hp).1) (F.ledg p (hr p hp).1)
  apart:=F.apart
  off:=F.off
  ledoff:=fun p hp=>by
   rcases mem_append.mp hp with hp|hp
   ·rcases m3 p hp with m|m
    ·obtain⟨p',hp',e⟩:=mem_map.mp m
     rw[←e];exact F.ledoff p' (hL p' hp')
    ·refine⟨fun q=>?_,fun c hc q=>?_⟩
     ·obtain⟨m',⟨o,es,ep,e,r⟩,_⟩:=F.ns
      rw[q,e] at m;cases m
     ·obtain⟨v,o,e1,e2⟩:=F.cells c hc
      rw[q,e1] at m;cases m
   ·exact F.ledoff p (hr p hp).1}
theorem GPf.of_cpf{s s':Shared}{η:List Addr}{V:Env}{ω:List Env}{L rest:Led}{Ψ:Heap->Value->Led->Prop}{v:Value}(F:Fm H0 η δ V σ s.heap)(lo:∀b∈frs ω,b∈η)(O:Off2 ω V δ)(hL:∀p∈L,p∈δ)(hr:∀p∈rest,p∈δ∧p.1∉L.map (·.1))(x:CPf H0 s η L (V.locals::frs ω) Ψ v s'):
  GPf H0 s η V δ (frs ω) (fun g v σ' δ'=>σ'=σ∧∃L',Ψ g v L'∧δ'=L'++rest) v s':=by
 obtain⟨h',tk,η',L',rfl,k,B,LO,m1,m2,m3,p⟩:=x;refine⟨h',tk,η',σ,L'++rest,rfl,⟨fun b o n1 n2 e=>k.1 b o (fun m=>n1 ?_) (fun m=>?_) e,fun b m o e d=>k.2 b (mem_cons_of_mem _ m) o e d⟩,F.callU lo O hL hr k B LO m1 m2 m3,m1,m2,fun p hp=>?_,rfl,L',p,rfl⟩
 ·obtain⟨q,hq,rfl⟩:=mem_map.mp m
  exact own_of (mem_map_of_mem (hL q hq))
 ·rcases mem_cons.mp m with rfl|m
  ·exact n1 mem_cons_self
  ·exact n2 m
 ·rcases mem_append.mp hp with hp|hp
  ·rcases m3 p hp with m|m
   ·obtain⟨q,hq,e⟩:=mem_map.mp m
    rw[←e];exact .inl (mem_map_of_mem (hL q hq))
   ·exact .inr m
  ·exact .inl (mem_map_of_mem (hr p hp).1)
theorem FkC.of{A:Around}{V:Env}{ω:List Env}{η:List Addr}{h:Heap}(F:Fm H0 η δ V σ h)(K:FrOk A V ω η h):FkC true A (V::ω) η h:=show _∧_∧_ from⟨K.stack,K.fn,fun b m=>by
 rcases mem_cons.mp m with rfl|m
 ·obtain⟨m,⟨o,es,ep,e,hd,_⟩,_⟩:=F.ns
  exact⟨F.loc,o,e,fun vs q=>by rw[hd] at q;cases q⟩
 ·exact K.low b m⟩
theorem off_call{V:Env}{ω:List Env}{L:Led}{η:List Addr}{h:Heap}(F:Fm H0 η δ V σ h)(O:Off2 ω V δ)(hL:∀p∈L,p∈δ):∀b∈frs (V::ω),b∉L.map (·.1):=fun b m hm=>by
 obtain⟨p,hp,rfl⟩:=mem_map.mp hm;rcases mem_cons.mp m with e|m
 ·exact(F.ledoff p (hL p hp)).1 e
 ·exact O _ m (own_of (mem_map_of_mem (hL p hp)))
theorem hs_meth{e:Expr}{m:Str}{pa pos:Pos}{args:List Expr}{C x dx f:Addr}{sl:Array (Option Value)}{od:Obj}{fs:List (Str×Value)}{xs:List Ent}{L rest:Led}{Ψ:Heap->Value->Led->Prop}(hK:K.In H0)(c:DCls K C)(he:EvE Z w H0 n sc σ δ e (.v (.ref x)))(hx:(x,instD C dx sl)∈δ)(hd:(dx,od)∈δ)(hf:FD fs od)
  (hsh:fs.lookup m=none)(hm:findIn K (.ref C) m=some (some (.ref f)))(ht:typeIn K (.ref f)=some (.type "function"))(hc:Callee H0 (.ref f))(ha:EvsP Z w H0 n sc σ δ pos args xs)(hcall:FnF true Z w H0 n (.ref f) (.v (.ref x)::xs) L Ψ)(hL:∀p∈L,p∈δ)(hr:∀p∈rest,p∈δ∧p.1∉L.map (·.1))
  (hb:∀V,(backTo pos (starEach args V)).any (·.1)=false)(hev:MethEv e m pa args pos):GSf true Z w H0 n sc σ δ (eval (.Call (.Attribute e m pa) args [] pos)) (fun g v σ' δ'=>σ'=σ∧∃L',Ψ g v L'∧δ'=L'++rest):=by
 intro A V ω s η g o F Kf O;refine meth_raw g o F hK c he hx hd hf hsh hm ht hc ha hb hev fun s2 vs q2 F2 mv=>?_;have K2:FrOk A V ω η s2.heap:=Fk.move (x:=true) Kf (fun _ m=>m) (.of_but (q2.ext.keep _) O);refine wpAny_call (codeAny_mono (hcall A (V::ω) s2 η (.ref x::vs) g F2.toBase ⟨fun p hp=>F2.ledh p (hL p hp),fun p hp=>F2.ledg p (hL p hp)⟩ (FkC.of F2 K2) (off_call F2 O hL) mv) fun r s' z=>?_);rcases r with e|(v|_|_|_)<;> first|exact z.elim|skip
 have lo:=K2.low;have gp:=GPf.of_cpf F2 (fun b m=>(lo b m).1) O hL hr z;obtain⟨h2,t2,rfl,ex2,_⟩:=q2;have lo0:=Fk.low (x:=true) Kf;exact GPf.glue (h₁:=h2) (t₁:=t2) F (fun b m=>⟨(lo0 b m).1,let⟨_,o,e,_⟩:=lo0 b m;⟨o,e⟩⟩) (.of_but (ex2.keep _) O) F2 (fun _ m=>m) (fun _ m=>.inl m) (fun p m=>.inl (mem_map_of_mem m)) gp
end
section
variable{K:Frag}{C:Addr}
def Rz(H0:Heap)(C:Addr)(s:Shared)(η:List Addr)(V:Env)(δ:Led)(fr:List Addr)(Ξ:Sto->Led->Prop)(e:Value)(s':Shared):Prop:=
 ∃u tu h'' a vs,e=.ref a∧GPf H0 s η V δ fr (fun _ (_:Unit) σ' δ'=>Ξ σ' δ') () {s with heap:=u,toks:=tu}∧s'={s with heap:=h'',toks:=tu}∧Heap.MadeExcOf u h'' a (.ref C) vs
theorem Rz.glue{s:Shared}{η η1:List Addr}{V:Env}{δ₁:Led}{σ₁:Sto}{fr:List Addr}{Ξ:Sto->Led->Prop}{e:Value}{s2:Shared}{h₁:Heap}{t₁:Nat}(F:Fm H0 η δ V σ s.heap)(hr:∀b∈fr,b∈η∧∃o,s.heap.get? b=some o)
  (k1:KeepU (ownOf V δ) fr s.heap h₁)(F1:Fm H0 η1 δ₁ V σ₁ h₁)(hm1:∀b∈η,b∈η1)(hf1:∀b∈η1,b∈η∨s.heap.get? b=none)(hl1:∀p∈δ₁,p.1∈δ.map (·.1)∨s.heap.get? p.1=none)
  (q:Rz H0 C {s with heap:=h₁,toks:=t₁} η1 V δ₁ fr Ξ e s2):Rz H0 C s η V δ fr Ξ e s2:=by
 obtain⟨u,tu,h'',a,vs,rfl,gp,rfl,mx⟩:=q;exact⟨u,tu,h'',a,vs,rfl,GPf.glue F hr k1 F1 hm1 hf1 hl1 gp,rfl,mx⟩
def HXZ(Z:Program)(w:World)(H0:Heap)(C:Addr)(n:Nat)(sc:Scope)(σ:Sto)(δ:Led)(sts:List Stmt)(Ψ:PostS)(Ξ:Sto->Led->Prop):Prop:=
 ∀A V ω s η,Good n A->EnvOk sc V->Fm H0 η δ V σ s.heap->FrOk A V ω η s.heap->Off2 ω V δ->wpAny (model Z w) A (execs sts V) (GPf H0 s η V δ (frs ω) Ψ) (Rz H0 C s η V δ (frs ω) Ξ) s
theorem hz_cons{st:Stmt}{rest:List Stmt}{Ψ Φ:PostS}{Ξ:Sto->Led->Prop}(h:HT true Z w H0 n sc σ δ st Ψ)(hr:∀g σ' δ',Ψ g .next σ' δ'->HXZ Z w H0 C n sc σ' δ' rest Φ Ξ)(hs:∀g fl σ' δ',fl≠ .next->Ψ g fl σ' δ'->Φ g fl σ' δ'):
  HXZ Z w H0 C n sc σ δ (st::rest) Φ Ξ:=by
 intro A V ω s η g o F K O;refine wpAny_execs_cons (wpAny_mono (h A V ω s η g o F K O) (fun fl s₁ q=>?_) fun _ _ f=>f.elim);cases fl with
 |next=>
  obtain⟨h₁,t₁,η1,σ₁,δ₁,rfl,k1,F1,m1,m2,m3,p1⟩:=q;have lo:=K.low;have al:∀b∈frs ω,b∈η∧∃ob,s.heap.get? b=some ob:=fun b m=>let⟨h1,o,e,_⟩:=lo b m;⟨h1,o,e⟩;have K1:FrOk A V ω η1 h₁:=Fk.move (x:=true) K m1 k1;exact wpAny_mono (hr _ σ₁ δ₁ p1 A V ω {s with heap:=h₁,toks:=t₁} η1 g o F1 K1 (off2_move O (fun b m=>(al b m).2) m3)) (fun fl s2 q2=>GPf.glue F al k1 F1 m1 m2 m3 q2) fun e s2 q2=>Rz.glue F al k1 F1 m1 m2 m3 q2
 |_=>exact q.mono fun g σ' δ' p=>hs g _ σ' δ' (by intro e;cases e) p
structure ExcK(H0:Heap)(x:Str)(C:Addr)(B newId initId:String)(bmB:List Value):Prop where
 own:∃mg,H0.Ns mainGlobals mg∧OwnCls x C bmB newId mg H0
 fb:ExcBaseFacts B newId initId bmB
theorem ExcK.glob{x:Str}{B newId initId:String}{bmB:List Value}(k:ExcK H0 x C B newId initId bmB):GIs H0 x (.ref C):=let⟨mg,h,O⟩:=k.own;⟨mg,h,.inl O.bound⟩
theorem evalArgs_go{f:Value}{trees:List (Bool×Sem Value)}{A:Around}{s:Shared}{E:Value->Shared->Prop}{Q:Args->Shared->Prop}(hp:trees.any (·.1)=false)(h:wpAny (model Z w) A (spliced trees) (fun vs s₁=>Q ⟨vs,[]⟩ s₁) E s):wpAny (model Z w) A (evalArgs f true trees []) Q E s:=evalArgs_any hp h
theorem hz_raise{x:Str}{np cpos pos:Pos}{args:List Expr}{rest:List Stmt}{B newId initId:String}{bmB:List Value}{xs:List Ent}{Ψ:PostS}{Ξ:Sto->Led->Prop}(X:ExcK H0 x C B newId initId bmB)(hg:globOk sc x=true)(ha:EvsP Z w H0 n sc σ δ cpos args xs)(hz:xs.length≤sizeLine)
  (hplain:∀V,(backTo cpos (starEach args V)).any (·.1)=false)(h:Ξ σ δ):HXZ Z w H0 C n sc σ δ (.Raise (some (.Call (.Name x np) args [] cpos)) none pos::rest) Ψ Ξ:=by
 intro A V ω s η g o F K O;obtain⟨mg,hns,OC⟩:=X.own;obtain⟨tl,N,nm,q,bs,hdct,sn,sub,ab,col,dd,k0,k1,k2,k3,k5,mN,hC,hN,hni,T⟩:=OC.obj;refine wpAny_execs_cons (wpAny_Raise_call_subT (C:=C) (nm:=nm) (q:=q) (N:=N) (bs:=bs) (bm:=tl) (hdct:=hdct) (sn:=sn) (sub:=sub) (ab:=ab) (col:=col) (dd:=dd) (k0:=k0) (k1:=k1) (k2:=k2) (k3:=k3) (k5:=k5)
  X.fb (mN:=mN) (T.hasType X.fb.hasBase) g.hh (hplain V) hni (wpAny_mono (ev_gl X.glob hg A V s η g o F) (fun v s₁ q1=>?_) fun _ _ f=>f.elim))
 refine⟨q1.val,evalArgs_go (hplain V) ?_⟩;have F1:=F.ext q1.ext;refine wpAny_mono (ha A V s₁ η g o F1) (fun vs s2 q2=>?_) fun _ _ f=>f.elim;have F2:=F1.ext q2.ext;have e0:Ext H0 s2.heap:=F2.toBase.h0;refine⟨rfl,by rw[(meansAll_f2e q2.val).length];exact hz,e0 _ _ hC,hN.keeps e0,T.keeps e0,fun h' e mx=>?_⟩;obtain⟨u,tu,rfl,ex,_⟩:=q1.trans q2;exact⟨u,tu,h',e,vs,rfl,⟨u,tu,η,σ,δ,rfl,.of_but (ex.keep _) O,F2,fun _ m=>m,fun _ m=>.inl m,fun p m=>.inl (mem_map_of_mem m),h⟩,rfl,mx⟩
theorem hz_if{test:Expr}{body orelse rest:List Stmt}{pos:Pos}{b:Bool}{Ψ:PostS}{Ξ:Sto->Led->Prop}(h:TrP Z w H0 n sc σ δ test b)(h1:b=true->HXZ Z w H0 C n sc σ δ body (fun _ _ _ _=>False) Ξ)(h2:b=false->HX true Z w H0 n sc σ δ (orelse++rest) Ψ)(ho:orelse=[]):
  HXZ Z w H0 C n sc σ δ (.If test body orelse pos::rest) Ψ Ξ:=by
 subst ho;intro A V ω s η g o F K O;have lo:=K.low;have al:∀b∈frs ω,b∈η∧∃ob,s.heap.get? b=some ob:=fun b m=>let⟨h1,o,e,_⟩:=lo b m;⟨h1,o,e⟩;refine wpAny_execs_cons (wpAny_If (wpAny_mono (h A V s η g o F) (fun c s₁ q=>?_) fun _ _ f=>f.elim));obtain⟨h₁,t₁,rfl,ex,e⟩:=q;subst e;have F1:=F.ext ex;have ku:KeepU (ownOf V δ) (frs ω) s.heap h₁:=.of_but (ex.keep _) O;have K1:FrOk A V ω η h₁:=Fk.move (x:=true) K (fun _ m=>m) ku;cases c with
 |true=>exact wpAny_mono (h1 rfl A V ω _ η g o F1 K1 O) (fun fl s2 q2=>(let⟨_,_,_,_,_,_,_,_,_,_,_,f⟩:=q2;f.elim)) fun e s2 q2=>Rz.glue F al ku F1 (fun _ m=>m) (fun _ m=>.inl m) (fun p m=>.inl (mem_map_of_mem m)) q2
 |false=>
  refine wpAny_execs_nil ?_;exact wpAny_mono (h2 rfl A V ω {s with heap:=h₁,toks:=t₁} η g o F1 K1 O) (fun fl s2 q2=>GPf.glue F al ku F1 (fun _ m=>m) (fun _ m=>.inl m) (fun p m=>.inl (mem_map_of_mem m)) q2) fun _ _ f=>f.elim
end
section
variable{K:Frag}{C:Addr}
def RzC(H0:Heap)(C:Addr)(s:Shared)(η:List Addr)(L:Led)(ω:List Env)(Ξ:Led->Prop)(e:Value)(s':Shared):Prop:=
 ∃u tu η1 L1 a a0 h₃ V',e=.ref a∧KeepU (L.map (·.1)) (frs ω) s.heap u∧Base H0 η1 u∧LedOk η1 L1 u∧(∀b∈η,b∈η1)∧(∀b∈η1,b∈η∨s.heap.get? b=none)∧(∀p∈L1,p.1∈L.map (·.1)∨s.heap.get? p.1=none)∧Ξ L1∧
  s'={s with heap:=h₃,toks:=tu}∧(V'.locals∈η1∧s.heap.get? V'.locals=none∧V'.locals∉L1.map (·.1)∧∃o,u.get? V'.locals=some o∧∀vs,o.data≠ .fields vs)∧Heap.FlyingW (baseOf V' ω u) ω a (.ref C) a0 h₃∧Seen (V'.locals::frs ω) u h₃
def FnZ(Z:Program)(w:World)(H0:Heap)(C:Addr)(n:Nat)(f:Value)(xs:List Ent)(L:Led)(Ψ:Heap->Value->Led->Prop)(Ξ:Led->Prop):Prop:=
 ∀A ω s η vs,Good n A->Base H0 η s.heap->LedOk η L s.heap->FkC true A ω η s.heap->(∀b∈frs ω,b∉L.map (·.1))->MeansAll (vis s.heap η) vs xs->
  codeAny (model Z w) A (.call f ⟨vs,[]⟩) (fun r s'=>match r with|.ok (.ret v)=>CPf H0 s η L (frs ω) Ψ v s'|.error e=>RzC H0 C s η L ω Ξ e s'|_=>False) s
theorem fn_z{f:Addr}{fd:FuncData}{ps:List Str}{body:List Stmt}{xs xs':List Ent}{L:Led}{Ψ:Heap->Value->Led->Prop}{Ξ:Led->Prop}(D:DefG H0 f fd sc body)(hb:BindP Z w H0 fd ps xs xs')(hsc:scopeOk sc ps=true)(hl:xs'.length=ps.length)
  (h:HXZ Z w H0 C n sc (ps.zip xs') L body (fun g fl _ δ'=>Ψ g (match fl with|.ret v=>v|_=>.none) δ') (fun _ L'=>Ξ L')):FnZ Z w H0 C (n+1) (.ref f) xs L Ψ Ξ:=by
 intro A ω s η vs g B LO K hO hm;refine enter_gen D hb hsc hl g B LO hm fun V h₁ t₁ o eF F ex hnew=>?_;have lo:=K.low;have Kf:=Fk.enter (x:=true) (V:=V) (η':=ownOf V []++η) o eF K ex fun b m=>mem_append_right _ m;have O:=off_enter (V:=V) (fun b m=>(lo b m).2.imp fun _ q=>q.1) hO hnew;refine wpAny_mono (h _ V ω _ _ g.deeper o F Kf O) (fun fl s' q=>?_) fun e s' q=>?_
 ·cases fl with
  |ret v=>exact CPf.of_gpf (fl:=.ret v) (v:=v) ex hnew q
  |next=>exact CPf.of_gpf (fl:=.next) (v:=.none) ex hnew q
  |brk=>exact CPf.of_gpf (fl:=.brk) (v:=.none) ex hnew q
  |cont=>exact CPf.of_gpf (fl:=.cont) (v:=.none) ex hnew q
 ·obtain⟨u,tu,h'',a,ws,rfl,gp,rfl,mx⟩:=q
  obtain⟨u',tu',η2,σ2,L2,eU,k2,F2,m1,m2,m3,p2⟩:=gp;have eh:u'=u:=by have:=congrArg Shared.heap eU;exact this.symm
  have et:tu'=tu:=by have:=congrArg Shared.toks eU;exact this.symm
  subst eh et;have K2:FrOk (A.deeper V) V ω η2 u':=Fk.move (x:=true) Kf m1 k2;have back:∀b,h₁.get? b=none->s.heap.get? b=none:=fun b e=>by
   cases q:s.heap.get? b with
   |none=>rfl
   |some ob=>rw[ex b ob q] at e;cases e
  have own:∀b,b∈ownOf V L->b∈ownOf V []∨b∈L.map (·.1):=fun b hb=>by
   rcases mem_cons.mp hb with rfl|hb
   ·exact .inl mem_cons_self
   ·rcases mem_append.mp hb with hb|hb
    ·exact .inl (mem_cons_of_mem _ (mem_append_left _ hb))
    ·exact .inr hb
  refine wpAny_leaves_madeW (base:=baseOf V ω u') (h:=u') (args:=ws) K2.stack eF (fun b o q=>(vis_inv q).1) (frames_of F2 K2 (Ext.refl _)) mx fun h₃ t fl tp _ up=>?_;refine⟨u',tu',η2,L2,a,.ref t,h₃,V,rfl,⟨fun b ob nb nf e=>k2.1 b ob (fun m=>?_) nf (ex b ob e),fun b m ob e d=>k2.2 b m ob (ex b ob e) d⟩,F2.toBase,⟨F2.ledh,F2.ledg⟩,fun b m=>m1 b (mem_append_right _ m),fun b m=>?_,fun p m=>(m3 p m).imp id (back _),p2,rfl,⟨F2.loc,hnew _ mem_cons_self,fun m=>?_,?_⟩,fl,fun b ob nb e=>fl.1 b ob (vis_get e nb),fun b m ob e d=>up b ob (mx.keeps b ob e) d⟩
  ·rcases own b m with q|q
   ·rw[hnew b q] at e;cases e
   ·exact nb q
  ·rcases m2 b m with m|m
   ·rcases mem_append.mp m with m|m
    ·exact .inr (hnew b m)
    ·exact .inl m
   ·exact .inr (back b m)
  ·obtain⟨p,hp,e⟩:=mem_map.mp m
   exact(F2.ledoff p hp).1 e
  ·obtain⟨m,⟨o,es,ep,e,hd,_⟩,_⟩:=F2.ns
   exact⟨o,e,fun vs q=>by rw[hd] at q;cases q⟩
end
def Rep.begin(r:Rep)(a:Addr):Rep:={r with at':=fun p=>match p with|.R=>a|p=>r.at' p,ready:=some (r.names.filter fun x=>r.np x==0)}
section
variable{Z:Program}{w:World}{H0:Heap}{n:Nat}{sc:Scope}{σ:Sto}{L δ δ0:Led}{K:Frag}{c:Cls2}{r:Rep}{C:Addr}
theorem rep_begin{a:Addr}{o od':Obj}{t1 t2:Tok}(h:RepOk Z w c r δ)(hr:r.ready=none)(hnew:∀p∈δ,p.1≠a)(ho:OwnL (dNs (r.names.filter fun x=>r.np x==0)) o)(hf:FD ((r.begin a).fields t1 t2) od'):
  RepOk Z w c (r.begin a) (setLed (r.at' .dS) od' ((a,o)::δ)):=by
 have old:∀p,r.ok p->r.at' p≠a:=fun p hp=>by
  obtain⟨o,m,_⟩:=h.hold p hp;exact hnew _ m
 have nR:¬r.ok .R:=by show¬(r.ready.isSome=true);rw[hr];simp
 have cls:∀p,(r.begin a).ok p->(p≠ .R∧r.ok p∧(r.begin a).at' p=r.at' p)∨(p=.R∧(r.begin a).at' p=a):=fun p hp=>by
  cases p with
  |R=>exact .inr ⟨rfl,rfl⟩
  |_=>exact .inl ⟨(by intro e;cases e),hp,rfl⟩
 refine⟨fun p hp=>?_,fun p q hp hq e=>?_,h.lo⟩
 ·rcases cls p hp with ⟨hn,h1,e1⟩|⟨rfl,e1⟩
  ·by_cases e:p=.dS
   ·subst e
    exact⟨od',by rw[e1];exact mem_setLed_self,t1,t2,hf⟩
   ·obtain⟨ob,m,sh⟩:=h.hold p h1
    refine⟨ob,by rw[e1];exact mem_setLed_ne (mem_cons_of_mem _ m) fun q=>e (h.apart _ _ h1 trivial q),?_⟩;cases p<;> first|exact sh|exact absurd rfl hn|exact absurd rfl e
  ·exact⟨o,by rw[e1];exact mem_setLed_ne mem_cons_self fun q=>old .dS trivial q.symm,ho⟩
 ·rcases cls p hp with ⟨hn,h1,e1⟩|⟨rfl,e1⟩<;> rcases cls q hq with ⟨hn',h2,e2⟩|⟨rfl,e2⟩<;> have e:=e1.symm.trans (e.trans e2)
  ·exact h.apart _ _ h1 h2 e
  ·exact absurd e (old _ h1)
  ·exact absurd e.symm (old _ h2)
  ·rfl
theorem filt_map(r:Rep):(r.names.filterMap fun x=>if r.np x==0 then some (PyData.str (tx x)) else none)=dNs (r.names.filter fun x=>r.np x==0):=by
 unfold dNs
 induction r.names with
 |nil=>rfl
 |cons y l ih=>
  rw[List.filterMap_cons,filter_cons];cases r.np y==0 with
  |true=>exact congrArg (_:: ·) ih
  |false=>exact ih
theorem tr_noneD:OpTr Z w H0 n (.d .none) false:=by
 intro A s η v g B m;cases rd_none m;exact truthy_none (Pu.here rfl)
theorem ht_assignM{x:Bool}{e:Expr}{y:Str}{py pos:Pos}{Ψ:Ent->Sto->Led->Prop}(h:GSf x Z w H0 n sc σ δ (eval e) (fun g v σ' δ'=>∃z,Means g v z∧Ψ z σ' δ'))(hy:settable sc y)
  (hs:∀V,EnvOk sc V->swapsWith e (some (.Name y py)) pos.line V=pure false)(hw:∀V,EnvOk sc V->swappedStores [.Name y py] e V=pure none):
  HT x Z w H0 n sc σ δ (.Assign [.Name y py] e pos) (fun _ fl σ' δ'=>fl=.next∧∃z σ₁,Ψ z σ₁ δ'∧σ'=(y,z)::σ₁):=by
 intro A V ω s η g o F Kf O;show wpAny _ A (standAt pos >>=fun _=>swapsWithSole [.Name y py] e pos.line V >>=fun b=>if b=true then _ else _) _ _ s;refine wpAny_bind (wpAny_standAt (wpAny_bind ?_));show wpAny _ A (swapsWith e (some (.Name y py)) pos.line V) _ _ s;rw[hs V o];refine wpAny_pure ?_;rw[if_neg Bool.false_ne_true];refine wpAny_bind (wpAny_mono (h A V ω s η g o F Kf O) (fun v s₁ q=>?_) fun _ _ f=>f);refine q.then F Kf O fun η1 σ₁ δ₁ F1 K1 O1 p1 _=>?_;obtain⟨z,mv,p1⟩:=p1;refine wpAny_bind ?_;rw[hw V o];refine wpAny_pure ?_;show wpAny _ A (assignAll v [assign (.Name y py) V] >>=fun _=>pure Flow.next) _ _ _;refine wpAny_bind ?_;show wpAny _ A (assign (.Name y py) V v) _ _ _;refine wpAny_mono (as_name (Z:=Z) (w:=w) (H0:=H0) (n:=n) (e:=z) hy A V s₁ η1 δ₁ σ₁ v g o F1 mv) (fun _ s2 q2=>wpAny_pure ?_) fun _ _ f=>f;obtain⟨h2,t2,rfl,k2,F2⟩:=q2;exact GP.toF O1 ⟨h2,t2,η1,_,δ₁,rfl,k2.more (places_own V δ₁ _),F2,fun _ m=>m,fun _ m=>.inl m,fun p m=>.inl (mem_map_of_mem m),rfl,z,σ₁,p1,rfl⟩
abbrev scPr:Scope:=scopeOf (meth 13 3)
theorem ev_join1{e:Expr}{pos:Pos}{x:Ent}(h:EvE Z w H0 n sc σ δ e x):EvE Z w H0 n sc σ δ (.JoinedStr [e] pos) x:=fun A V s η g o F=>PyProof.Rows.JoinedStr_one (h A V s η g o F)
def FcMeth(K:Frag)(H0:Heap)(c:Cls2):Prop:=∃f fd,MethK K H0 c (S "_find_cycle") (meth 13 8) f fd∧∀vs:List Value,vs.length=[S "self"].length->bindArgs fd ⟨vs,[]⟩=pure ([S "self"].zip vs)
structure PrepK(H0:Heap)(K:Frag)(c:Cls2)(C:Addr):Prop where
 fc:FcMeth K H0 c
 fk:FcK H0
 sm:∃o,H0.get? mainGlobals=some o
 cy:ExcK H0 (S "CycleError") C "ValueError" "ValueError.__new__" "ValueError.__init__" [.type "ValueError",.type "Exception",.type "BaseException",.type "object"]
theorem hs_fc{e:Expr}{pa pos:Pos}(hK:K.In H0)(ck:ClsK K c)(pk:PrepK H0 K c C)(R:RepOk Z w c r δ)(hz:r.names.length≤8)(hcl:∀x∈r.names,∀y∈r.succ x,y∈r.names)(he:EvE Z w H0 (n+1) sc σ δ e (.v (.ref (r.at' .S))))(hev:MethEv e (S "_find_cycle") pa [] pos):
  GSf true Z w H0 (n+1) sc σ δ (eval (.Call (.Attribute e (S "_find_cycle") pa) [] [] pos)) (fun g v σ' δ'=>∃z,Means g v z∧σ'=σ∧RepOk Z w c r δ'∧((z=.d .none∧Acyc r.succ r.names)∨((∃ds,ds≠[]∧ds.length≤100∧z=.d (.list ds))∧Ringed r.succ r.names))):=by
 obtain⟨f,fd,mk,hb⟩:=pk.fc;obtain⟨o,m1,rfl⟩:=R.hold .S trivial;obtain⟨o,m2,t1,t2,fD⟩:=R.hold .dS trivial;refine gsf_mono (hs_meth (rest:=[]) hK ck.c1 he m1 m2 fD rfl mk.find mk.ty mk.dfn.callee evs_nil (Ψ:=fun g v L'=>FcRes r g v∧∀p∈δ,p∈L') (fn_gen (x:=true) (n:=n) (ps:=[S "self"]) (xs':=[.v (.ref (r.at' .S))]) mk.dfn (bind_plain hb rfl) (by decide +kernel) rfl (gsf_mono (fc_body pk.sm hK ck pk.fk R hz hcl) fun g fl σ' δ' q=>?_)) (fun p hp=>hp) (fun p hp=>nomatch hp) (fun _=>rfl) hev) fun g v σ' δ' q=>?_
 ·obtain⟨v,rfl,h1,h2⟩:=q
  exact⟨h1,h2⟩
 ·obtain⟨rfl,L',⟨h1,h2⟩,rfl⟩:=q
  rw[append_nil];rcases h1 with ⟨rfl,ha⟩|⟨⟨ds,hne,hl,hd⟩,hr⟩
  ·exact⟨.d .none,⟨[],.none⟩,rfl,R.mono h2,.inl ⟨rfl,ha⟩⟩
  ·exact⟨.d (.list ds),hd,rfl,R.mono h2,.inr ⟨⟨ds,hne,hl,rfl⟩,hr⟩⟩
theorem prep_body(hK:K.In H0)(ck:ClsK K c)(pk:PrepK H0 K c C)(R:RepOk Z w c r δ)(hr:r.ready=none)(hz:r.names.length≤8)(hcl:∀x∈r.names,∀y∈r.succ x,y∈r.names):
  HXZ Z w H0 C (n+1) scPr [(S "self",.v (.ref (r.at' .S)))] δ (bodyOf (meth 13 3)) (fun _ fl _ δ'=>fl=.next∧∃a,RepOk Z w c (r.begin a) δ'∧Acyc r.succ r.names) (fun _ δ'=>∃a,RepOk Z w c (r.begin a) δ'∧Ringed r.succ r.names):=by
 have vs:∀{σ' δ' pos},σ'.lookup (S "self")=some (.v (.ref (r.at' .S)))->EvE Z w H0 (n+1) scPr σ' δ' (.Name (S "self") pos) (.v (.ref (r.at' .S))):=fun h=>ev_var h;refine hz_cons (Ψ:=nextIs _ δ) (ht_of (gt_if (b:=false) (tr_cmp (ev_asNone (by
   have hrv:r.rv=.none:=by unfold Rep.rv;rw[hr]
   rw[←hrv];exact ev_ready hK ck R (vs rfl) fun _=>rfl)) ev_none op_isNotNone1 rfl) (fun q=>absurd q (by decide)) fun _=>gx_nil fun g=>⟨rfl,rfl,rfl⟩)) (fun g σ' δ' q=>?_) fun g fl σ' δ' hn q=>absurd q.1 hn
 obtain⟨_,rfl,rfl⟩:=q;obtain⟨oD,mD,hD⟩:=R.hold .D trivial;obtain⟨oS,mS,rfl⟩:=R.hold .S trivial;obtain⟨oF,mF,t1,t2,f⟩:=R.hold .dS trivial;have nD:∀{p:Pl} {o:Obj},r.ok p->p≠ .D->(r.at' p,o)∈δ'->(r.at' p,o)∈δ'.filter fun q=>q.1 !=r.at' .D:=fun hp hn m=>mem_filter.mpr ⟨m,by simpa using fun e=>hn (R.apart _ _ hp trivial e)⟩;obtain⟨p0,s0⟩:=ck.s0;obtain⟨p1,s1⟩:=ck.s1;refine hz_cons (ht_of (gt_setD (x:=r.at' .S) (dx:=r.at' .dS) (sl:=#[]) (fs:=r.fields t1 t2) hK ck.c1 (gs_newP (new_show (σ'':=[(S "self",dWith (.ref (r.at' .S)) (r.at' .D) oD)]) mD (fun g hg x e' hx=>?_) (new_lc (items:=r.names) (enc:=fun x=>.v (.ref (r.at' (.I x)))) (xs:=[S "i"]) (fun x=>if r.np x==0 then some (.str (tx x)) else none) (.inl ⟨_,_,rfl⟩) (by decide +kernel) (by decide +kernel) (fun _ _=>rfl) (fun x d h=>?_)
  (it_of (ev_values (kvs:=r.names.map fun x=>(tx x,Value.ref (r.at' (.I x)))) (ev_attrW hK ck.c1 (ev_var rfl) (nD (p:=.S) trivial (by intro e;cases e) mS) (nD (p:=.dS) trivial (by intro e;cases e) mF) f ck.f1 rfl rfl fun _=>rfl) hD R.lo (fun _=>rfl) rfl) (by have:=src_view (Z:=Z) (w:=w) (H0:=H0) (n:=n+1) (D:=r.at' .D) hD;rwa [map_map] at this) (.inl ⟨_,_,rfl⟩)) (size_le (by omega)) fun x hx=>?_)))
  (fun g v σ₁ δ₁ q=>?_) (show(4:Nat)≤100 by decide) ck.f2 fun _=>rfl)) (fun g σ' δ2 q=>?_) fun g fl σ' δ' hn q=>absurd q.1 hn
 ·rw[lookup_cons] at hx
  cases hb:x==S "self" with
  |false=>rw[hb] at hx;cases hx
  |true=>
   rw[hb] at hx;have e:x=S "self":=by simpa using hb
   subst e;injection hx with hx;subst hx;exact⟨_,rfl,fun v m=>⟨m,hg⟩⟩
 ·split at h
  ·injection h with h;subst h;rfl
  ·cases h
 ·obtain⟨oI,mI,u1,u2,rfl⟩:=R.hold (.I x) hx
  obtain⟨oe,me,_⟩:=R.hold (.e x) hx;have mI':=nD (p:=.I x) hx (by intro e;cases e) mI;have me':=nD (p:=.e x) hx (by intro e;cases e) me;refine⟨[(S "i",.v (.ref (r.at' (.I x))))],r.np x==0,as_name (settable_of),rfl,(fun y hy=>by rw[mem_singleton.mp hy];rfl),ifs_one (tr_cmp (ev_asInt (ev_attrS (v:=.int (r.np x) u2) hK ck.c2 (ev_var rfl) mI' me' s1 rfl rfl fun _=>rfl)) ev_int op_eqI rfl),fun hp=>⟨_,if_pos hp,ev_asStr (ev_attrS (v:=.str (tx x) u1) hK ck.c2 (ev_var rfl) mI' me' s0 rfl rfl fun _=>rfl)⟩,fun hp=>if_neg (by rw[hp];exact Bool.false_ne_true)⟩
 ·obtain⟨rfl,a,o,rfl,ho,rfl,hnew⟩:=q
  exact⟨vs rfl,mem_cons_of_mem _ mS,oF,mem_cons_of_mem _ mF,f⟩
 ·obtain⟨_,g1,v,δ₁,od',⟨rfl,a,o,rfl,ho,rfl,hnew⟩,hfd,rfl⟩:=q
  rw[filt_map] at ho;have h2:=rep_begin R hr hnew ho hfd;refine hz_cons (ht_assignM (Ψ:=fun z σ₁ δ₁=>σ₁=[(S "self",.v (.ref (r.at' .S)))]∧RepOk Z w c (r.begin a) δ₁∧((z=.d .none∧Acyc r.succ r.names)∨((∃ds,ds≠[]∧ds.length≤100∧z=.d (.list ds))∧Ringed r.succ r.names))) (hs_fc (r:=r.begin a) hK ck pk h2 hz hcl (show EvE _ _ _ _ _ _ _ _ (.v (.ref (r.at' .S))) from vs rfl) fun _=>⟨_,rfl⟩) (settable_of) (fun _ _=>rfl) (fun _ _=>rfl)) (fun g σ' δ' q=>?_) fun g fl σ' δ' hn q=>absurd q.1 hn;obtain⟨_,z,σ₁,⟨rfl,h3,hc⟩,rfl⟩:=q;rcases hc with ⟨rfl,ha⟩|⟨⟨ds,hne,hlen,rfl⟩,hring⟩
  ·refine hz_if (b:=false) (tr_plain (ev_var (e:=.d .none) rfl (by decide +kernel)) tr_noneD fun _ _=>rfl) (fun q=>absurd q (by decide)) (fun _=>hx_nil fun g=>⟨rfl,a,h3,ha⟩) rfl
  ·refine hz_if (b:=true) (by have:=tr_list (Z:=Z) (w:=w) (H0:=H0) (n:=n+1) (xs:=ds) (Nat.le_trans hlen (by decide));rw[show(!ds.isEmpty)=true by cases ds with|nil=>exact absurd rfl hne|cons _ _=>rfl] at this;exact tr_plain (ev_var (e:=.d (.list ds)) rfl (by decide +kernel)) this fun _ _=>rfl) (fun _=>?_) (fun q=>absurd q (by decide)) rfl
   exact hz_raise (xs:=[.d (.str (S "nodes are in a cycle")),.d (.list ds)]) pk.cy (by decide +kernel) (evs_2 (ev_join1 ev_str) (ev_var rfl) (fun _=>rfl) fun _=>rfl) (show(2:Nat)≤sizeLine by decide) (fun _=>rfl) ⟨a,h3,hring⟩
end
section
variable{K:Frag}
def GEs(Z:Program)(w:World)(H0:Heap)(n:Nat)(sc:Scope)(σ:Sto)(δ:Led)(pos:Pos)(es:List Expr)(Θ:List Ent->Sto->Led->Prop):Prop:=
 GS Z w H0 n sc σ δ (fun V=>spliced (backTo pos (starEach es V))) (fun g vs σ' δ'=>∃xs,MeansAll g vs xs∧Θ xs σ' δ')
theorem ges_nil{pos:Pos}{Θ:List Ent->Sto->Led->Prop}(h:Θ [] σ δ):GEs Z w H0 n sc σ δ pos [] Θ:=fun A V s η g o F=>spliced_nil (GP.here F ⟨[],trivial,h⟩)
theorem ges_cons{pos:Pos}{e:Expr}{es:List Expr}{Ψ:Ent->Sto->Led->Prop}{Θ:List Ent->Sto->Led->Prop}(h:GS Z w H0 n sc σ δ (eval e) (fun g v σ' δ'=>∃x,Means g v x∧Ψ x σ' δ'))(hr:∀x σ₁ δ₁,Ψ x σ₁ δ₁->GEs Z w H0 n sc σ₁ δ₁ pos es (fun xs=>Θ (x::xs)))
  (hb:∀V,backTo pos (starEach (e::es) V)=(false,eval e V)::backTo pos (starEach es V)):GEs Z w H0 n sc σ δ pos (e::es) Θ:=by
 intro A V s η g o F;show wpAny _ A (spliced (backTo pos (starEach (e::es) V))) _ _ _;rw[hb];refine spliced_cons (wpAny_mono (h A V s η g o F) (fun v s₁ q=>?_) fun _ _ f=>f);obtain⟨η1,σ₁,δ₁,F1,⟨x,mx,p1⟩,_,back1⟩:=GP.back (α:=List Value) F q;refine wpAny_mono (hr x σ₁ δ₁ p1 A V s₁ η1 g o F1) (fun vs s2 q2=>?_) fun _ _ f=>f;have q2':=q2;obtain⟨h2,t2,η2,σ2,δ2,rfl,k2,F2,m1,m2,m3,xs,mxs,p2⟩:=q2;have ext:Ext (vis s₁.heap η1) (vis h2 η2):=GP.vis (α:=List Value) (H0:=H0) (own_hid F1) k2 m2;exact back1 _ _ _ ⟨h2,t2,η2,σ2,δ2,rfl,k2,F2,m1,m2,m3,x::xs,⟨mx.ext ext,mxs⟩,p2⟩
theorem ges_ev{e:Expr}{x:Ent}(h:EvE Z w H0 n sc σ δ e x):GS Z w H0 n sc σ δ (eval e) (fun g v σ' δ'=>∃z,Means g v z∧(z=x∧σ'=σ∧δ'=δ)):=gs_mono (gs_ev h) fun _ _ _ _ ⟨a,b,c⟩=>⟨x,a,rfl,b,c⟩
theorem store_raw{A:Around}{V:Env}{s:Shared}{η:List Addr}{y:Str}{v:Value}{x:Ent}{Q:Unit->Shared->Prop}{E:Value->Shared->Prop}(o:EnvOk sc V)(F:Fm H0 η δ V σ s.heap)(hy:settable sc y)(hm:Means (vis s.heap η) v x)
  (hQ:∀h2 t2,Fm H0 η δ V ((y,x)::σ) h2->KeepBut (ownOf V δ) s.heap h2->Ext (vis s.heap η) (vis h2 η)->Q () {s with heap:=h2,toks:=t2}):wpAny (model Z w) A (bindName V y v) Q E s:=by
 refine wpAny_bindName (wpAny_mono (store_P F hm o.kf (settable_env o hy)) (fun _ s3 q3=>?_) fun _ _ f=>f.elim);obtain⟨h₃,t3,rfl,k3,F3⟩:=q3;exact hQ h₃ t3 F3 (k3.more fun a m=>places_own V δ [y] a (by simpa [placesOf] using m)) (vis_keepBut (placeOf_hid F _) k3)
theorem unp_new{A:Around}{s:Shared}{η:List Addr}{vs:List Value}{xs:List Ent}{V:Env}{Q:List Value->Shared->Prop}{E:Value->Shared->Prop}(g:Good n A)(F:Fm H0 η δ V σ s.heap)(hm:MeansAll (vis s.heap η) vs xs)
  (hQ:∀h',Ext s.heap h'->Fm H0 η δ V σ h'->MeansAll (vis h' η) vs xs->Q vs {s with heap:=h'}):wpAny (model Z w) A (unpackItems (.ref s.heap.objs.size) vs.length none) Q E {s with heap:=s.heap.push {cls:=.type "tuple",data:=.seq vs.toArray}}:=by
 have e:vs.length=(toArray vs).size:=by rw[size_toArray]
 rw[e];have hl:IsTup (s.heap.push {cls:=.type "tuple",data:=.seq vs.toArray}) s.heap.objs.size (toArray vs):=⟨_,Heap.get?_push_size _ rfl,rfl,0,rfl⟩;refine wpAny_mono (unpackItems_tuple (Q:=fun ws s'=>ws=vs∧∃h',Ext s.heap h'∧s'={s with heap:=h'}) (E:=NoE) g.hh hl fun h' he=>⟨by simp,h',(ext_push _ _).trans (extBut_ext he),rfl⟩) (fun ws s' q=>?_) fun _ _ f=>f.elim;obtain⟨rfl,h',ex,rfl⟩:=q;exact hQ h' ex (F.ext ex) (hm.ext (vis_ext η ex))
theorem len3{α:Type}:∀{l:List α},l.length=3->∃a b c,l=[a,b,c]
 |[a,b,c],_=>⟨a,b,c,rfl⟩
theorem len2{α:Type}:∀{l:List α},l.length=2->∃a b,l=[a,b]
 |[a,b],_=>⟨a,b,rfl⟩
theorem all3{g:Heap}{vs:List Value}{xs:List Ent}(m:MeansAll g vs xs)(h:xs.length=3):∃v1 v2 v3 x1 x2 x3,vs=[v1,v2,v3]∧xs=[x1,x2,x3]:=by
 obtain⟨a,b,c,e⟩:=len3 ((meansAll_f2e m).length.trans h);obtain⟨x,y,z,e'⟩:=len3 h;exact⟨a,b,c,x,y,z,e,e'⟩
theorem all2{g:Heap}{vs:List Value}{xs:List Ent}(m:MeansAll g vs xs)(h:xs.length=2):∃v1 v2 x1 x2,vs=[v1,v2]∧xs=[x1,x2]:=by
 obtain⟨a,b,e⟩:=len2 ((meansAll_f2e m).length.trans h);obtain⟨x,y,e'⟩:=len2 h;exact⟨a,b,x,y,e,e'⟩
theorem gt_assign3{t1 t2 t3:Str}{p1 p2 p3 p4 p5 pos:Pos}{k k2:Nat}{es:List Expr}{Θ:List Ent->Sto->Led->Prop}(h:GEs Z w H0 n sc σ δ p5 es Θ)(h1:settable sc t1)(h2:settable sc t2)(h3:settable sc t3)(hlen:∀xs σ' δ',Θ xs σ' δ'->xs.length=3)
  (hs:∀V,EnvOk sc V->swapsWith (.Tuple es k2 p5) (some (.Tuple [.Name t1 p1,.Name t2 p2,.Name t3 p3] k p4)) pos.line V=pure false)
  (hw:∀V,EnvOk sc V->swappedStores [.Tuple [.Name t1 p1,.Name t2 p2,.Name t3 p3] k p4] (.Tuple es k2 p5) V=pure (some [t1,t2,t3])):
  GT Z w H0 n sc σ δ (.Assign [.Tuple [.Name t1 p1,.Name t2 p2,.Name t3 p3] k p4] (.Tuple es k2 p5) pos) (fun _ fl σ' δ'=>fl=.next∧∃x1 x2 x3 σ₁,Θ [x1,x2,x3] σ₁ δ'∧σ'=(t1,x1)::(t2,x2)::(t3,x3)::σ₁):=by
 intro A V s η g o F;show wpAny _ A (standAt pos >>=fun _=>swapsWithSole [.Tuple [.Name t1 p1,.Name t2 p2,.Name t3 p3] k p4] (.Tuple es k2 p5) pos.line V >>=fun b=>if b=true then _ else _) _ _ s;refine wpAny_bind (wpAny_standAt (wpAny_bind ?_));show wpAny _ A (swapsWith (.Tuple es k2 p5) (some (.Tuple [.Name t1 p1,.Name t2 p2,.Name t3 p3] k p4)) pos.line V) _ _ s;rw[hs V o];refine wpAny_pure ?_;rw[if_neg Bool.false_ne_true];refine wpAny_bind (wpAny_Tuple_spliced (wpAny_mono (h A V s η g o F) (fun vs s₁ q=>?_) fun _ _ f=>f.elim));obtain⟨η1,σ₁,δ₁,F1,⟨xs,mxs,p₁⟩,_,back1⟩:=GP.back (α:=Flow) F q;obtain⟨v1,v2,v3,x1,x2,x3,rfl,rfl⟩:=all3 mxs (hlen _ _ _ p₁);refine⟨by show(3:Nat)≤sizeLine;decide,?_⟩;refine wpAny_bind ?_;rw[hw V o];refine wpAny_pure ?_;show wpAny _ A (rule "assign.swapped-stores" >>=fun _=>unpackItems (.ref s₁.heap.objs.size) 3 none >>=fun items=>assignInOrder [bindName V t3,bindName V t2,bindName V t1] items.reverse >>=fun _=>pure Flow.next) _ _ _;refine wpAny_bind (wpAny_rule (wpAny_bind (unp_new (vs:=[v1,v2,v3]) g F1 mxs fun h₂ ex2 F2 m₂=>?_)));obtain⟨m1,m2,m3,_⟩:=m₂;refine wpAny_bind ?_;show wpAny _ A (holding [v2,v1] (bindName V t3 v3) >>=fun _=>holding [v1] (bindName V t2 v2) >>=fun _=>holding [] (bindName V t1 v1) >>=fun _=>pure ()) _ _ _;refine wpAny_bind (wpAny_holding (store_raw o F2 h3 m3 fun h₃ tk3 F3 k3 e3=>?_));refine wpAny_bind (wpAny_holding (store_raw o F3 h2 (m2.ext e3) fun h4 tk4 F4 k4 e4=>?_));refine wpAny_bind (wpAny_holding (store_raw o F4 h1 ((m1.ext e3).ext e4) fun h5 tk5 F5 k5 e5=>?_));refine wpAny_pure (wpAny_pure (back1 _ _ _ ⟨h5,tk5,η1,_,δ₁,rfl,(ex2.keep _).trans (k3.trans (k4.trans k5)),F5,fun _ m=>m,fun _ m=>.inl m,fun p m=>.inl (mem_map_of_mem m),rfl,x1,x2,x3,σ₁,p₁,rfl⟩))
theorem gt_assign2{t1 t2:Str}{p1 p2 p4 p5 pos:Pos}{k k2:Nat}{es:List Expr}{Θ:List Ent->Sto->Led->Prop}(h:GEs Z w H0 n sc σ δ p5 es Θ)(h1:settable sc t1)(h2:settable sc t2)(hlen:∀xs σ' δ',Θ xs σ' δ'->xs.length=2)
  (hs:∀V,EnvOk sc V->swapsWith (.Tuple es k2 p5) (some (.Tuple [.Name t1 p1,.Name t2 p2] k p4)) pos.line V=pure false)
  (hw:∀V,EnvOk sc V->swappedStores [.Tuple [.Name t1 p1,.Name t2 p2] k p4] (.Tuple es k2 p5) V=pure (some [t1,t2])):
  GT Z w H0 n sc σ δ (.Assign [.Tuple [.Name t1 p1,.Name t2 p2] k p4] (.Tuple es k2 p5) pos) (fun _ fl σ' δ'=>fl=.next∧∃x1 x2 σ₁,Θ [x1,x2] σ₁ δ'∧σ'=(t1,x1)::(t2,x2)::σ₁):=by
 intro A V s η g o F;show wpAny _ A (standAt pos >>=fun _=>swapsWithSole [.Tuple [.Name t1 p1,.Name t2 p2] k p4] (.Tuple es k2 p5) pos.line V >>=fun b=>if b=true then _ else _) _ _ s;refine wpAny_bind (wpAny_standAt (wpAny_bind ?_));show wpAny _ A (swapsWith (.Tuple es k2 p5) (some (.Tuple [.Name t1 p1,.Name t2 p2] k p4)) pos.line V) _ _ s;rw[hs V o];refine wpAny_pure ?_;rw[if_neg Bool.false_ne_true];refine wpAny_bind (wpAny_Tuple_spliced (wpAny_mono (h A V s η g o F) (fun vs s₁ q=>?_) fun _ _ f=>f.elim));obtain⟨η1,σ₁,δ₁,F1,⟨xs,mxs,p₁⟩,_,back1⟩:=GP.back (α:=Flow) F q;obtain⟨v1,v2,x1,x2,rfl,rfl⟩:=all2 mxs (hlen _ _ _ p₁);refine⟨by show(2:Nat)≤sizeLine;decide,?_⟩;refine wpAny_bind ?_;rw[hw V o];refine wpAny_pure ?_;show wpAny _ A (rule "assign.swapped-stores" >>=fun _=>unpackItems (.ref s₁.heap.objs.size) 2 none >>=fun items=>assignInOrder [bindName V t2,bindName V t1] items.reverse >>=fun _=>pure Flow.next) _ _ _;refine wpAny_bind (wpAny_rule (wpAny_bind (unp_new (vs:=[v1,v2]) g F1 mxs fun h₂ ex2 F2 m₂=>?_)));obtain⟨m1,m2,_⟩:=m₂;refine wpAny_bind ?_;show wpAny _ A (holding [v1] (bindName V t2 v2) >>=fun _=>holding [] (bindName V t1 v1) >>=fun _=>pure ()) _ _ _;refine wpAny_bind (wpAny_holding (store_raw o F2 h2 m2 fun h₃ tk3 F3 k3 e3=>?_));refine wpAny_bind (wpAny_holding (store_raw o F3 h1 (m1.ext e3) fun h4 tk4 F4 k4 e4=>?_));refine wpAny_pure (wpAny_pure (back1 _ _ _ ⟨h4,tk4,η1,_,δ₁,rfl,(ex2.keep _).trans (k3.trans k4),F4,fun _ m=>m,fun _ m=>.inl m,fun p m=>.inl (mem_map_of_mem m),rfl,x1,x2,σ₁,p₁,rfl⟩))
end
section
variable{K:Frag}{C:Addr}
theorem Seen.of_mem{L L':List Addr}{h h':Heap}(x:Seen L h h')(hm:∀b,b∈L↔b∈L'):Seen L' h h':=⟨fun b o n e=>x.stay b o (fun m=>n ((hm b).mp m)) e,fun b m=>x.up b ((hm b).mpr m)⟩
theorem Seen.slots{L:List Addr}{h h' h'':Heap}(x:Seen L h h')(st:∀b o,b∉L->h.get? b=some o->h''.get? b=some o)(u:h'.UpToSlots h''):Seen L h h'':=⟨st,fun b m o e d=>by
 obtain⟨sl,e1⟩:=x.up b m o e d;obtain⟨sl',e2⟩:=u b _ e1 d;exact⟨sl',e2⟩⟩
theorem ht_tryZ{e:Expr}{m x y:Str}{pa pos px ph py pc pa2 p5 pos2:Pos}{kc:Nat}{b:Bool}{Cc xx dx f:Addr}{sl:Array (Option Value)}{od:Obj}{fs:List (Str×Value)}{B newId initId:String}{bmB:List Value}{Ψ:Heap->Value->Led->Prop}{Ξ:Led->Prop}{Φ:PostS}(X:ExcK H0 x C B newId initId bmB)(hgo:globOk sc x=true)(hy:settable sc y)
  (hK:K.In H0)(c:DCls K Cc)(he:EvE Z w H0 n sc σ δ e (.v (.ref xx)))(hx:(xx,instD Cc dx sl)∈δ)(hd:(dx,od)∈δ)(hf:FD fs od)(hsh:fs.lookup m=none)(hm:findIn K (.ref Cc) m=some (some (.ref f)))(ht:typeIn K (.ref f)=some (.type "function"))(hc:Callee H0 (.ref f))
  (hcall:FnZ Z w H0 C n (.ref f) [.v (.ref xx)] δ Ψ Ξ)(hev:MethEv e m pa [] pos)(hsw:∀V,swapsWith (.Call (.Attribute e m pa) [] [] pos) none px.line V=pure false)
  (h1:∀g v δ',Ψ g v δ'->Φ g .next σ δ')(h2:∀g δ',Ξ δ'->Φ g .next ((y,.d (.bool b))::σ) δ'):
  HT true Z w H0 n sc σ δ (.Try [.Expr (.Call (.Attribute e m pa) [] [] pos) px] [.ExceptHandler (some (.Name x ph)) none [.Assign [.Name y py] (.Constant (.bool b) kc pc) pa2] p5] [] [] pos2) Φ:=by
 intro A V ω s η g oo F Kf O;refine wpAny_Try_except (wpAny_execs_cons (wpAny_Expr_any (meth_raw g oo F hK c he hx hd hf hsh hm ht hc evs_nil (fun _=>rfl) hev fun s2 vs q2 F2 mv=>?_) (envOk_inter oo) (hsw V)));have K2:FrOk A V ω η s2.heap:=Fk.move (x:=true) Kf (fun _ m=>m) (.of_but (q2.ext.keep _) O);have lo0:=Fk.low (x:=true) Kf;have lo:=K2.low;have hvs:vs=[]:=by
  have:=(meansAll_f2e mv).length;cases vs with
  |nil=>rfl
  |cons a l=>simp at this
 subst hvs;have glue:∀{fl:Flow} {s':Shared},GPf H0 s2 η V δ (frs ω) Φ fl s'->GPf H0 s η V δ (frs ω) Φ fl s':=fun gp=>by
  obtain⟨h₂,t2,rfl,ex2,_⟩:=q2;exact GPf.glue (h₁:=h₂) (t₁:=t2) F (fun b m=>⟨(lo0 b m).1,let⟨_,o,e,_⟩:=lo0 b m;⟨o,e⟩⟩) (.of_but (ex2.keep _) O) F2 (fun _ m=>m) (fun _ m=>.inl m) (fun p m=>.inl (mem_map_of_mem m)) gp
 refine wpAny_call (codeAny_mono (hcall A (V::ω) s2 η [.ref xx] g F2.toBase ⟨F2.ledh,F2.ledg⟩ (FkC.of F2 K2) (off_call F2 O fun p hp=>hp) mv) fun r s' z=>?_);rcases r with e|(v|_|_|_)
 ·obtain⟨u,tu,η1,L1,a,a0,h₃,V',rfl,k,Bs,LOk,m1,m2,m3,hΞ,rfl,⟨x1,x2,x3,x4⟩,fl,sn⟩:=z
  have F1:=F2.callU (rest:=[]) (fun b m=>(lo b m).1) O (fun p hp=>hp) (fun p hp=>nomatch hp) k Bs LOk m1 m2 m3;rw[append_nil] at F1;have hfe:V.frame=some V.locals:=(K2.fn V mem_cons_self).2;have hal:∀b∈ownOf V δ,∃o,s2.heap.get? b=some o:=fun b hb=>F2.alive b (own_hid F2 b hb);have lou:∀b∈frs ω,b∈η1∧∃o,u.get? b=some o∧∀vs,o.data≠ .fields vs:=fun b m=>by
   obtain⟨h1,o,e,d⟩:=lo b m;obtain⟨sl,e'⟩:=k.2 b (mem_cons_of_mem _ m) o e d;exact⟨m1 b h1,_,e',d⟩
  have lo':∀b∈frs (V'::ω),b∈η1∧∃o,u.get? b=some o∧∀vs,o.data≠ .fields vs:=fun b m=>by
   rcases mem_cons.mp m with rfl|m
   ·exact⟨x1,x4⟩
   ·exact lou b m
  have ownL:∀b,b∈ownOf V L1->b∈ownOf V δ∨s2.heap.get? b=none:=fun b hb=>own_led m3 hb;have O1:Off2 ω V L1:=off2_move O (fun b m=>let⟨_,o,e,_⟩:=lo b m;⟨o,e⟩) m3;have O':Off2 (V'::ω) V L1:=fun b m hb=>by
   rcases mem_cons.mp m with rfl|m
   ·rcases mem_cons.mp hb with q|hb
    ·obtain⟨o,e⟩:=hal V.locals mem_cons_self
     rw[←q,x2] at e;cases e
    ·rcases mem_append.mp hb with hb|hb
     ·obtain⟨o,e⟩:=hal _ (mem_cons_of_mem _ (mem_append_left _ hb))
      rw[x2] at e;cases e
     ·exact x3 hb
   ·exact O1 b m hb
  refine wpAny_looks_onW K2.stack hfe fl fun h4 hh4 up4=>?_;refine wpAny_landsW hh4 fun h5 fl5 up5=>?_;have sn5:Seen (V'.locals::frs (V::ω)) u h5:=sn.slots (fun b o n e=>fl5.1 b o (vis_get e n)) (up4.trans up5);have mm:∀b,b∈V'.locals::frs (V::ω)↔b∈V.locals::frs (V'::ω):=fun b=>by simp[frs];constructor<;> (rintro (q|q|q)<;> simp[q])
  obtain⟨F5,_⟩:=fm_seen F1 lo' O' (sn5.of_mem mm);obtain⟨mg,hns,OC⟩:=X.own;obtain⟨tl,N,nm,q',bs,hdct,sn',sub,ab,col,dd,k0,k1,k2,k3,k5,mN,hC,hN,hni,T⟩:=OC.obj;refine wpAny_handleBy_cons (codeAny_handlers_test (wpAny_mono (glob_raw (s:={s2 with heap:=h5,toks:=tu}) oo F5 X.glob hgo) (fun cv s4 q4=>?_) fun _ _ f=>f.elim)) (by intro q;cases q);obtain⟨h6,t6,rfl,ex6,rfl⟩:=q4;have fl6:=flying_ext fl5 ex6;have sn6:=sn5.ext ex6;obtain⟨ob,hob,hobc⟩:=fl6.there;have F6:=F5.ext ex6;refine wpAny_excMatches_sub_self (F6.toBase.h0 _ _ hC) hob hobc (T.hasType X.fb.hasBase) (codeAny_handlers_suite ?_);obtain⟨f1,f2,f3,f4⟩:=fl6;refine wpAny_setFlight_noneW f1 f3 f4.at fun h7 k1' k2' k3' k4'=>?_;have sn7:Seen (V'.locals::frs (V::ω)) u h7:=sn6.slots (fun b o n e=>k1' b o (vis_get e n)) fun b o e d=>⟨o.slots,k4' b o e d⟩;obtain⟨F7,_⟩:=fm_seen F1 lo' O' (sn7.of_mem mm);refine wpAny_execs_cons ?_;show wpAny _ _ (standAt pa2 >>=fun _=>swapsWithSole [.Name y py] (.Constant (.bool b) kc pc) pa2.line V >>=fun bb=>if bb=true then _ else _) _ _ _;refine wpAny_bind (wpAny_standAt (wpAny_bind ?_));show wpAny _ _ (pure false) _ _ _;refine wpAny_pure ?_;rw[if_neg Bool.false_ne_true];refine wpAny_bind ?_;show wpAny _ _ (pure (Value.bool b)) _ _ _;refine wpAny_pure (wpAny_bind ?_);show wpAny _ _ (pure none) _ _ _;refine wpAny_pure ?_;show wpAny _ _ (assignAll (.bool b) [assign (.Name y py) V] >>=fun _=>pure Flow.next) _ _ _;refine wpAny_bind ?_;show wpAny _ _ (assign (.Name y py) V (.bool b)) _ _ _;refine wpAny_assign_Name (wpAny_mono (store_P (s:={s2 with heap:=h7,toks:=t6}) F7 (e:=.d (.bool b)) (bool_rd _ _) oo.kf (settable_env oo hy)) (fun _ s8 q8=>wpAny_pure ?_) fun _ _ f=>f.elim);obtain⟨h8,t8,rfl,k8,F8⟩:=q8;have k8':KeepBut (ownOf V L1) h7 h8:=k8.more fun a m=>places_own V L1 [y] a (by simpa [placesOf] using m);refine wpAny_execs_nil (glue ⟨h8,t8,η1,_,L1,rfl,⟨fun b o n1 n2 e=>?_,fun b m o e d=>?_⟩,F8,m1,m2,m3,h2 _ _ hΞ⟩)
  ·have nl:b≠V.locals:=fun q=>n1 (by rw[q];exact mem_cons_self)
   have ne:b≠V'.locals:=fun q=>by rw[q,x2] at e;cases e
   have nL:b∉δ.map (·.1):=fun m=>n1 (own_of m);have e1:=k.1 b o nL (fun m=>by
    rcases mem_cons.mp m with q|q
    ·exact nl q
    ·exact n2 q) e
   have e2:=sn7.stay b o (fun m=>by
    rcases mem_cons.mp m with q|q
    ·exact ne q
    ·rcases mem_cons.mp q with q|q
     ·exact nl q
     ·exact n2 q) e1
   refine k8' b o (fun m=>?_) e2;rcases ownL b m with q|q
   ·exact n1 q
   ·rw[e] at q;cases q
  ·obtain⟨sl,e1⟩:=k.2 b (mem_cons_of_mem _ m) o e d
   obtain⟨sl',e2⟩:=sn7.up b (mem_cons_of_mem _ (mem_cons_of_mem _ m)) _ e1 d;exact⟨sl',k8' b _ (O1 b m) e2⟩
 all_goals first|exact z.elim|skip
 have gp:=GPf.of_cpf (rest:=[]) F2 (fun b m=>(lo b m).1) O (fun p hp=>hp) (fun p hp=>nomatch hp) z;refine wpAny_execs_nil (wpAny_execs_nil (glue ?_));obtain⟨h',tk,η',σ',δ',e,k,F',m1,m2,m3,rfl,L',p,rfl⟩:=gp;rw[append_nil] at F' m3;exact⟨h',tk,η',σ',L',e,k,F',m1,m2,m3,h1 _ _ _ p⟩
end
structure Abs.Inv(N:List NM)(a:Abs):Prop where
 nd:a.names.Nodup
 sub:∀x∈a.names,x∈N
 clo:∀x∈a.names,∀y∈a.succ x,y∈a.names
theorem get_mem(a:Abs)(x:NM):x∈(a.get x).names:=by
 unfold Abs.get;split
 ·assumption
 ·simp
theorem get_sub{a:Abs}{x y:NM}(h:y∈a.names):y∈(a.get x).names:=by
 unfold Abs.get;split
 ·exact h
 ·exact mem_append_left _ h
theorem inv_get{N:List NM}{a:Abs}(h:a.Inv N){x:NM}(hx:x∈N):(a.get x).Inv N:=by
 unfold Abs.get;split
 ·exact h
 ·next hn=>
  refine⟨nodup_append.mpr ⟨h.nd,by simp,fun p hp q hq e=>?_⟩,fun y hy=>?_,fun y hy z hz=>?_⟩
  ·rw[mem_singleton.mp hq] at e;exact hn (e▸hp)
  ·rcases mem_append.mp hy with hy|hy
   ·exact h.sub y hy
   ·rw[mem_singleton.mp hy];exact hx
  ·have hz:z∈(if y=x then [] else a.succ y):=hz
   split at hz
   ·cases hz
   ·next hne=>
    rcases mem_append.mp hy with hy|hy
    ·exact mem_append_left _ (h.clo y hy z hz)
    ·exact absurd (mem_singleton.mp hy) hne
theorem inv_link{N:List NM}{a:Abs}(h:a.Inv N){x p:NM}(hx:x∈a.names)(hp:p∈N):(a.link x p).Inv N∧x∈(a.link x p).names:=by
 have g:=inv_get h hp;refine⟨⟨g.nd,g.sub,fun y hy z hz=>?_⟩,get_sub hx⟩;have hz:z∈(if y=p then (a.get p).succ p++[x] else (a.get p).succ y):=hz;split at hz
 ·rcases mem_append.mp hz with hz|hz
  ·exact g.clo p (get_mem a p) z hz
  ·rw[mem_singleton.mp hz];exact get_sub hx
 ·exact g.clo y hy z hz
theorem inv_links{N:List NM}{x:NM}:∀(ps:List NM) {a:Abs},a.Inv N->x∈a.names->(∀p∈ps,p∈N)->(ps.foldl (Abs.link x) a).Inv N∧x∈(ps.foldl (Abs.link x) a).names
 |[],a,h,hx,_=>⟨h,hx⟩
 |p::ps,a,h,hx,hp=>by
  obtain⟨h1,h2⟩:=inv_link h hx (hp p mem_cons_self);exact inv_links ps h1 h2 fun q m=>hp q (mem_cons_of_mem _ m)
theorem inv_add{N:List NM}{a:Abs}(h:a.Inv N){x:NM}{ps:List NM}(hx:x∈N)(hp:∀p∈ps,p∈N):(a.add x ps).Inv N:=by
 have g:=inv_get h hx;exact(inv_links (a:=a.more x ps.length) ps ⟨g.nd,g.sub,g.clo⟩ (get_mem a x) hp).1
theorem inv_len{N:List NM}{a:Abs}(h:a.Inv N):a.names.length≤N.length:=nodup_len h.nd h.sub
def Abs.job(js:NJ)(a:Abs)(j:List Nat×List Nat):Abs:=(needsOf js j).foldl (fun a q=>a.add j.1 [q]) (a.add j.1 [])
def Abs.empty:Abs:=⟨[],fun _=>0,fun _=>[]⟩
def Abs.all(js:NJ):Abs:=js.foldl (Abs.job js) Abs.empty
theorem needs_sub(js:NJ)(j:List Nat×List Nat):∀p∈needsOf js j,p∈js.map (·.1):=fun p hp=>(mem_filter.mp hp).1
theorem needs_len(js:NJ)(j:List Nat×List Nat):(needsOf js j).length≤js.length:=by
 have:=length_filter_le (fun o=>o !=j.1 && (j.2 !=[] && fitsN j.2 o)) (js.map (·.1));rw[length_map] at this;exact this
section
variable{K:Frag}{c:Cls2}{r:Rep}{C:Addr}
structure AddK(H0:Heap)(K:Frag)(c:Cls2):Prop where
 add:∃f fd,MethK K H0 c (S "add") (meth 13 2) f fd∧∀vs ws:List Value,vs.length=[S "self",S "node"].length->bindArgs fd ⟨vs++ws,[]⟩=(newTuple ws >>=fun t=>pure (([S "self",S "node"]++[S "predecessors"]).zip (vs++[t])))
 gn:GnK K H0 c
 len:GIs H0 (S "len") (.builtin "len")
theorem gs_add{e:Expr}{pa pos:Pos}{args:List Expr}{x:NM}{ps:List NM}{k:Nat}(hK:K.In H0)(ck:ClsK K c)(nk:NodeK Z w H0 K c)(ak:AddK H0 K c)(h:RepOk Z w c r δ)(hr:r.ready=none)(hz:(r.abs.add x ps).names.length≤8)(hk:r.abs.bnd k)(hkz:k+ps.length≤1000)
  (he:EvE Z w H0 (n+4) sc σ δ e (.v (.ref (r.at' .S))))(ha:EvsP Z w H0 (n+4) sc σ δ pos args (.d (.str (tx x))::(dNs ps).map .d))(hb:∀V,(backTo pos (starEach args V)).any (·.1)=false)(hev:MethEv e (S "add") pa args pos):
  GS Z w H0 (n+4) sc σ δ (eval (.Call (.Attribute e (S "add") pa) args [] pos)) (fun g v σ' δ'=>σ'=σ∧∃r',RepOk Z w c r' δ'∧r.Same r'∧r'.abs=r.abs.add x ps):=by
 obtain⟨f,fd,mk,hbind⟩:=ak.add;have hl:(dNs ps).length=ps.length:=by simp[dNs]
 refine gs_sm (xs:=.d (.str (tx x))::(dNs ps).map .d) hK ck h mk he (fun t1 t2=>rfl) ha (FnGc.g (FnF.gc (fn_gen (x:=false) (n:=n+3) (ps:=[S "self",S "node"]++[S "predecessors"]) (xs:=[.v (.ref (r.at' .S)),.d (.str (tx x))]++(dNs ps).map .d) (xs':=[.v (.ref (r.at' .S)),.d (.str (tx x))]++[.d (.tuple (dNs ps))]) mk.dfn (bind_star hbind rfl (by rw[hl];exact size_le (by omega))) (by decide +kernel) rfl (hx_of (gs_mono (add_body (n:=n) hK ck nk ak.gn ak.len h hr hz hk hkz) fun g fl σ' δ' q=>?_))))) hb hev;obtain⟨rfl,q⟩:=q;exact q
abbrev scSo:Scope:=scopeOf (stm 27)
structure SJ(Z:Program)(w:World)(c:Cls2)(js:NJ)(s0:Addr)(a:Abs)(k:Nat)(σ:Sto)(δ:Led):Prop where
 so:σ.lookup (S "sorter")=some (.v (.ref s0))
 nm:σ.lookup (S "names")=some (.d (dNames (js.map (·.1))))
 ri:σ.lookup (S "ring")=some (.d (.bool false))
 rep:∃r,RepOk Z w c r δ∧r.at' .S=s0∧r.ready=none∧r.passed=0∧r.fin=0∧r.abs=a
 inv:a.Inv (js.map (·.1))
 bnd:a.bnd k
theorem sj_add{js:NJ}{s0:Addr}{a:Abs}{k:Nat}{pa p0 pos px:Pos}{args:List Expr}{x:NM}{ps:List NM}(hj:js.length≤8)(hK:K.In H0)(ck:ClsK K c)(nk:NodeK Z w H0 K c)(ak:AddK H0 K c)(h:SJ Z w c js s0 a k σ δ)(hx:x∈js.map (·.1))(hp:∀p∈ps,p∈js.map (·.1))(hkz:k+ps.length≤1000)
  (ha:EvsP Z w H0 (n+4) scSo σ δ pos args (.d (.str (tx x))::(dNs ps).map .d))(hb:∀V,(backTo pos (starEach args V)).any (·.1)=false)(hev:MethEv (.Name (S "sorter") p0) (S "add") pa args pos)(hsw:∀V,swapsWith (.Call (.Attribute (.Name (S "sorter") p0) (S "add") pa) args [] pos) none px.line V=pure false):
  GT Z w H0 (n+4) scSo σ δ (.Expr (.Call (.Attribute (.Name (S "sorter") p0) (S "add") pa) args [] pos) px) (fun _ fl σ' δ'=>fl=.next∧σ'=σ∧SJ Z w c js s0 (a.add x ps) (k+ps.length) σ δ'):=by
 obtain⟨r,h1,rfl,h3,h4,h5,rfl⟩:=h.rep;have iv:=inv_add h.inv hx hp;have hz:(r.abs.add x ps).names.length≤8:=Nat.le_trans (inv_len iv) (by rw[length_map];exact hj);refine gs_mono (gt_expr (gs_add hK ck nk ak h1 h3 hz h.bnd hkz (ev_var h.so) ha hb hev) hsw) fun g fl σ' δ' q=>?_;obtain⟨e1,v,e2,r',q1,q2,q3⟩:=q;exact⟨e1,e2,h.so,h.nm,h.ri,⟨r',q1,q2.old .S trivial,q2.ready.trans h3,q2.passed.trans h4,q2.fin.trans h5,q3⟩,iv,bnd_add h.bnd x ps⟩
end
section
variable{K:Frag}{c:Cls2}{r:Rep}{C:Addr}
abbrev soFor:Stmt:=nthS (bodyOf (stm 27)) 1
structure SoK(Z:Program)(w:World)(H0:Heap)(n:Nat):Prop where
 tr:∀p,isPat p->HasD Z w H0 (S "_translate") n [.str (tx p),.none,.str (S "any")] (dParts (partsN p))
 tk:∀a b l,isSign a->isSign b->isName l->HasD Z w H0 (S "_law_takes") n [dParts (partsN [a,b]),.str (tx l)] (.bool (fitsN [a,b] l))
theorem so_job{js:NJ}(ok:JobsOk js){j:List Nat×List Nat}(hj:j∈js){s0:Addr}{a:Abs}{k:Nat}(hK:K.In H0)(ck:ClsK K c)(nk:NodeK Z w H0 K c)(ak:AddK H0 K c)(so:SoK Z w H0 (n+4))(h:SJ Z w c js s0 a k σ δ)(hk:k≤100):
  HX true Z w H0 (n+4) scSo ([(S "pattern",.d (.str (tx j.2))),(S "name",.d (.str (tx j.1)))]++σ) δ (forBody soFor) (fun _ fl σ' δ'=>fl=.next∧SJ Z w c js s0 (Abs.job js a j) (k+(needsOf js j).length) σ' δ'):=by
 have hjn:j.1∈js.map (·.1):=mem_map_of_mem hj;have hz8:=ok.len;have hnl:=needs_len js j;have h0:SJ Z w c js s0 a k ([(S "pattern",.d (.str (tx j.2))),(S "name",.d (.str (tx j.1)))]++σ) δ:=⟨h.so,h.nm,h.ri,h.rep,h.inv,h.bnd⟩;refine hx_cons (ht_of (sj_add (x:=j.1) (ps:=[]) hz8 hK ck nk ak h0 hjn (fun p m=>nomatch m) (by show k+0≤1000;omega) (evs_1 (ev_var rfl) fun _=>rfl) (fun _=>rfl) (fun _=>⟨_,rfl⟩) fun _=>rfl)) (fun g σ' δ' q=>?_) fun g fl σ' δ' hn q=>absurd q.1 hn;obtain⟨_,rfl,h1⟩:=q;refine hx_step (ht_of (gt_st (st_assign (x:=.d (dParts (partsN j.2))) (ev_has' (xs:=[.str (tx j.2),.none,.str (S "any")]) (so.tr j.2 (ok.pats j hj)) (Nat.le_refl _) (by decide +kernel) (evs_cons (ev_var rfl) (evs_2 ev_none ev_str (fun _=>rfl) fun _=>rfl) fun _=>rfl) fun _=>rfl) (as_name (settable_of)) (fun _ _=>rfl) (fun _ _=>rfl) fun _=>rfl))) ?_;have h2:SJ Z w c js s0 (a.add j.1 []) k ([(S "parts",.d (dParts (partsN j.2)))]++([(S "pattern",.d (.str (tx j.2))),(S "name",.d (.str (tx j.1)))]++σ)) δ':=⟨h1.so,h1.nm,h1.ri,h1.rep,h1.inv,h1.bnd⟩;have hd:dNames (needsOf js j)=.list (dNs (needsOf js j)):=by unfold dNames LS dNs;rw[map_map];rfl
 have e4:dNames (needsOf js j)=.list ((js.map (·.1)).filterMap fun o=>if(o !=j.1 && (j.2 !=[] && fitsN j.2 o)) then some (PyData.str (tx o)) else none):=by
  rw[f2_filterMap,dNames,LS,map_map];rfl
 refine hx_cons (ht_for (x:=true) (ds:=(dNs (needsOf js j)).map .d) [] (fun i σ' δ'=>σ'.lookup (S "name")=some (.d (.str (tx j.1)))∧SJ Z w c js s0 (((needsOf js j).take i).foldl (fun a q=>a.add j.1 [q]) (a.add j.1 [])) (k+i) σ' δ')
  (Ψ:=fun _ fl σ' δ'=>fl=.next∧SJ Z w c js s0 (Abs.job js a j) (k+(needsOf js j).length) σ' δ') (itf_of (y:=.d (.list (dNs (needsOf js j)))) ?_ src_list) ⟨rfl,h2⟩ (fun _ _ _ _ p hp=>nomatch hp) (fun i e σ' δ' he hJ=>?_) (fun g σ' δ' hJ=>?_) (fun _ _=>rfl) (.inl ⟨_,_,rfl⟩)) (fun g σ' δ' q=>hx_nil fun g=>q) fun g fl σ' δ' hn q=>absurd q.1 hn
 ·rw[←hd,e4]
  refine ev_lc (items:=js.map (·.1)) (enc:=fun o=>.d (.str (tx o))) (xs:=[S "other"]) (x:=.d (dNames (js.map (·.1)))) (fun o=>if(o !=j.1 && (j.2 !=[] && fitsN j.2 o)) then some (PyData.str (tx o)) else none) ?_ ?_ ?_ ?_ ?_ ?_ (size_le (by rw[length_map];omega)) fun o ho=>?_
  ·exact .inl ⟨_,_,rfl⟩
  ·decide +kernel
  ·decide +kernel
  ·exact fun _ _=>rfl
  ·exact ev_var h2.nm
  ·have:=src_list (Z:=Z) (w:=w) (H0:=H0) (n:=n+4) (ds:=((js.map (·.1)).map tx).map .str)
   rw[map_map (f:=tx),map_map (f:=PyData.str ∘ tx)] at this;unfold dNames LS;rw[map_map (f:=tx)];exact this
  have hn:isName o:=by
   obtain⟨j',hj2,rfl⟩:=mem_map.mp ho;exact ok.names j' hj2
  refine⟨[(S "other",.d (.str (tx o)))],_,as_name (settable_of),rfl,fun y hy=>by rw[mem_singleton.mp hy];rfl,ifs_one (p:=o !=j.1 && (j.2 !=[] && fitsN j.2 o)) ?_,fun h=>⟨_,if_pos h,ev_var rfl (by decide +kernel)⟩,fun h=>by simp[h]⟩;refine tr_boolop (trs_and ?_ fun _=>trs_and ?_ fun hp=>trs_and1 ?_)
  ·rw[←tx_bne]
   exact tr_cmp (ev_var rfl) (ev_var rfl) op_neS rfl
  ·rw[←tx_bne,←tx_empty]
   exact tr_cmp (ev_var rfl) ev_str op_neS rfl
  ·rcases ok.pats j hj with e|⟨x,y,e,hx,hy⟩
   ·rw[e] at hp;cases hp
   ·have q:=so.tk x y o hx hy hn
    rw[←e] at q;exact tr_has q (Nat.le_refl _) (by decide +kernel) (evs_2 (ev_var rfl) (ev_var rfl) (fun _=>rfl) fun _=>rfl) fun _=>rfl
 ·obtain⟨hnm,hJ⟩:=hJ
  rw[getElem?_map,Option.map_eq_some_iff] at he;obtain⟨dd,hd',rfl⟩:=he;rw[dNs,getElem?_map,Option.map_eq_some_iff] at hd';obtain⟨q,hq,rfl⟩:=hd';have hi:i<(needsOf js j).length:=by
   rcases Nat.lt_or_ge i (needsOf js j).length with z|z
   ·exact z
   ·rw[getElem?_eq_none z] at hq;cases hq
  have htk:(needsOf js j).take (i+1)=(needsOf js j).take i++[q]:=by rw[take_add_one,hq];rfl
  refine⟨_,as_name (settable_of),?_⟩;have hJ':SJ Z w c js s0 (((needsOf js j).take i).foldl (fun a q=>a.add j.1 [q]) (a.add j.1 [])) (k+i) ([(S "need",.d (.str (tx q)))]++σ') δ':=⟨hJ.so,hJ.nm,hJ.ri,hJ.rep,hJ.inv,hJ.bnd⟩;refine hx_cons (ht_of (sj_add (x:=j.1) (ps:=[q]) hz8 hK ck nk ak hJ' hjn (fun p m=>by rw[mem_singleton.mp m];exact needs_sub js j q (mem_of_getElem? hq)) (by show k+i+1≤1000;omega) (evs_2 (ev_var hnm) (ev_var rfl) (fun _=>rfl) fun _=>rfl) (fun _=>rfl) (fun _=>⟨_,rfl⟩) fun _=>rfl)) (fun g σ' δ' q=>hx_nil fun g=>?_) fun g fl σ' δ' hn q=>absurd q.1 hn;obtain⟨_,rfl,q1⟩:=q;refine⟨hnm,?_⟩;rw[htk,foldl_append];exact⟨q1.so,q1.nm,q1.ri,q1.rep,q1.inv,q1.bnd⟩
 ·obtain⟨_,hJ⟩:=hJ
  have e:((dNs (needsOf js j)).map Ent.d).length=(needsOf js j).length:=by simp[dNs]
  rw[e,take_length] at hJ;exact⟨rfl,hJ⟩
end
section
variable{K:Frag}{c:Cls2}{r:Rep}{C:Addr}
theorem ev_pair{e1 e2:Expr}{pos:Pos}{u1:Value}{b:Bool}(h1:EvE Z w H0 n sc σ δ e1 (.v u1))(h2:EvE Z w H0 n sc σ δ e2 (.d (.bool b)))(hb:∀V,backTo pos (starEach [e1,e2] V)=(false,eval e1 V)::backTo pos (starEach [e2] V))(hb':∀V,backTo pos (starEach [e2] V)=[(false,eval e2 V)]):
  EvP Z w H0 n sc σ δ (.List [e1,e2] pos) (fun g v=>∃l,v=.ref l∧g.IsList l #[u1,.bool b]):=by
 intro A V s η g o F;refine List_ (seqP (evs_2 h1 h2 hb hb' A V s η g o F) fun vs s₁ q1=>?_);have F1:=F.ext q1.ext;have mv:=q1.val;obtain⟨v1,v2,x1,x2,rfl,e⟩:=all2 mv rfl;obtain⟨m1,m2,_⟩:=mv;have e1':v1=u1:=m1;have e2':v2=.bool b:=rd_bool m2;subst e1' e2';refine wpAny_newObj_type ?_ (by show(2:Nat)≤sizeLine;decide);exact q1.trans ⟨_,_,rfl,ext_push _ _,_,rfl,_,vis_push F1.toBase _,rfl,0,rfl⟩
theorem hz_mono{sts:List Stmt}{Ψ Φ:PostS}{Ξ:Sto->Led->Prop}(h:HXZ Z w H0 C n sc σ δ sts Ψ Ξ)(hi:∀g fl σ' δ',Ψ g fl σ' δ'->Φ g fl σ' δ'):HXZ Z w H0 C n sc σ δ sts Φ Ξ:=fun A V ω s η g o F K O=>wpAny_mono (h A V ω s η g o F K O) (fun _ _ q=>q.mono fun g σ' δ' p=>hi _ _ _ _ p) fun _ _ q=>q
def PreK(K:Frag)(H0:Heap)(c:Cls2):Prop:=∃f fd,MethK K H0 c (S "prepare") (meth 13 3) f fd∧∀vs:List Value,vs.length=[S "self"].length->bindArgs fd ⟨vs,[]⟩=pure ([S "self"].zip vs)
def SoRes(Z:Program)(w:World)(c:Cls2)(js:NJ)(g:Heap)(v:Value)(L:Led):Prop:=
 ∃(r:Rep) (a:Addr) (b:Bool) (l:Addr),r.abs=Abs.all js∧r.passed=0∧r.fin=0∧RepOk Z w c (r.begin a) L∧v=.ref l∧g.IsList l #[.ref (r.at' .S),.bool b]∧(b=false->Acyc r.succ r.names)∧(b=true->Ringed r.succ r.names)
theorem so_body{js:NJ}(ok:JobsOk js)(hK:K.In H0)(ck:ClsK K c)(nk:NodeK Z w H0 K c)(sk:SortK Z w H0 K c)(ak:AddK H0 K c)(pk:PrepK H0 K c C)(prk:PreK K H0 c)(so:SoK Z w H0 (n+4)):
  HX true Z w H0 (n+4) scSo [(S "jobs",.d (dJobs (js.map toJ)))] [] (bodyOf (stm 27)) (fun g fl _ δ'=>∃v,fl=.ret v∧SoRes Z w c js g v δ'):=by
 have hz8:=ok.len;have src:SrcV Z w H0 (n+4) (.d (dJobs (js.map toJ))) (js.map fun j=>.d (dJob (toJ j))):=by
  have:=src_list (Z:=Z) (w:=w) (H0:=H0) (n:=n+4) (ds:=(js.map toJ).map dJob);rw[map_map,map_map] at this;unfold dJobs;rw[map_map];exact this
 refine hx_cons (ht_of (gt_assign3 (Θ:=fun xs σ' δ'=>∃a d D,xs=[.v (.ref a),.d (dNames (js.map (·.1))),.d (.bool false)]∧σ'=[(S "jobs",.d (dJobs (js.map toJ)))]∧RepOk Z w c (Rep.new a d D) δ')
  (ges_cons (Ψ:=fun x σ' δ'=>∃a d D,x=.v (.ref a)∧σ'=[(S "jobs",.d (dJobs (js.map toJ)))]∧RepOk Z w c (Rep.new a d D) δ') (gs_mono (gs_sorter (n:=n+2) hK ck sk (by decide +kernel)) fun g v σ' δ' q=>?_) (fun x σ₁ δ₁ q=>ges_cons (ges_ev (x:=.d (dNames (js.map (·.1)))) ?_) (fun y σ2 δ2 q2=>ges_cons (ges_ev (ev_bool (b:=false))) (fun z σ3 δ3 q3=>ges_nil ?_) fun _=>rfl) fun _=>rfl) fun _=>rfl)
  (settable_of) (settable_of) (settable_of) (fun xs σ' δ' q=>by obtain⟨a,d,D,rfl,_⟩:=q;rfl) (fun _ _=>rfl) fun V o=>by have q:=o.scope;cases V;simp only at q;subst q;rfl)) (fun g σ' δ' q=>?_) fun g fl σ' δ' hn q=>absurd q.1 hn
 ·obtain⟨rfl,a,d,D,L',rfl,h,rfl⟩:=q
  exact⟨.v (.ref a),rfl,a,d,D,rfl,rfl,by rw[append_nil];exact h⟩
 ·obtain⟨a,d,D,rfl,rfl,h⟩:=q
  have:=fun scope pos p1 p2 p3 p4 k pi h1 h2 h3=>lc_names (Z:=Z) (w:=w) (H0:=H0) (n:=n+4) (sc:=scSo) (σ:=[(S "jobs",.d (dJobs (js.map toJ)))]) (δ:=δ₁) (iter:=.Name "jobs" pi) (scope:=scope) (pos:=pos) (p1:=p1) (p2:=p2) (p3:=p3) (p4:=p4) (a:=S "name") (b:=S "pattern") (k:=k) (js:=js.map toJ) (ev_var rfl) (by rw[length_map];exact hz8) h1 h2 h3 (by decide +kernel);rw[map_map] at this;unfold dNames;rw[map_map];exact this _ _ _ _ _ _ _ _ (by decide +kernel) (by decide +kernel) (by decide +kernel) (by decide +kernel) rfl rfl fun _ _=>rfl
 ·obtain⟨a,d,D,rfl,rfl,h⟩:=q
  obtain⟨rfl,rfl,rfl⟩:=q2;obtain⟨rfl,rfl,rfl⟩:=q3;exact⟨a,d,D,rfl,rfl,h⟩
 obtain⟨_,x1,x2,x3,σ₁,⟨s0,d,D,e,rfl,h⟩,rfl⟩:=q;cases e;have sj0:SJ Z w c js s0 Abs.empty 0 ((S "sorter",.v (.ref s0))::(S "names",.d (dNames (js.map (·.1))))::(S "ring",.d (.bool false))::[(S "jobs",.d (dJobs (js.map toJ)))]) δ':=⟨rfl,rfl,rfl,⟨_,h,rfl,rfl,rfl,rfl,rfl⟩,⟨.nil,(fun x m=>nomatch m),(fun x m=>nomatch m)⟩,fun y m=>nomatch m⟩;refine hx_cons (ht_for (x:=true) (ds:=js.map fun j=>.d (dJob (toJ j))) [] (fun i σ' δ'=>∃k,k≤i*8∧SJ Z w c js s0 ((js.take i).foldl (Abs.job js) Abs.empty) k σ' δ')
  (Ψ:=fun _ fl σ' δ'=>fl=.next∧∃k,SJ Z w c js s0 (Abs.all js) k σ' δ') (itf_of (ev_var (e:=.d (dJobs (js.map toJ))) rfl (by decide +kernel)) src) ⟨0,Nat.le_refl _,sj0⟩ (fun _ _ _ _ p hp=>nomatch hp) (fun i e σ' δ' he hJ=>?_) (fun g σ' δ' hJ=>?_) (fun _ _=>rfl) (.inr ⟨_,_,_,rfl⟩)) (fun g σ' δ' q=>?_) fun g fl σ' δ' hn q=>absurd q.1 hn
 ·obtain⟨k,hk,hJ⟩:=hJ
  rw[getElem?_map,Option.map_eq_some_iff] at he;obtain⟨j,hj,rfl⟩:=he;have hjm:j∈js:=mem_of_getElem? hj;have hi:i<js.length:=by
   rcases Nat.lt_or_ge i js.length with z|z
   ·exact z
   ·rw[getElem?_eq_none z] at hj;cases hj
  have htk:js.take (i+1)=js.take i++[j]:=by rw[take_add_one,hj];rfl
  refine⟨_,as_two (b1:=[(S "name",.d (.str (tx j.1)))]) (b2:=[(S "pattern",.d (.str (tx j.2)))]) (unp_list (ds:=[.str (tx j.1),.str (tx j.2)])) (as_name (settable_of)) (as_name (settable_of)) (fun _=>rfl),?_⟩;refine gsf_mono (so_job ok hjm hK ck nk ak so hJ (by omega)) fun g fl σ' δ' q=>?_;obtain⟨rfl,q⟩:=q;have:=needs_len js j;refine⟨_,?_,by rw[htk,foldl_append];exact q⟩;omega
 ·obtain⟨k,_,hJ⟩:=hJ
  rw[length_map,take_length] at hJ;exact⟨rfl,k,hJ⟩
 obtain⟨_,k,sj⟩:=q;obtain⟨r,hr,hs0,h3,h4,h5,h6⟩:=sj.rep;obtain⟨fP,fdP,mk,hbP⟩:=prk;have hn8:r.names.length≤8:=by
  have:=inv_len sj.inv;rw[←h6,length_map] at this;exact Nat.le_trans this hz8
 have hcl:∀x∈r.names,∀y∈r.succ x,y∈r.names:=by
  have:=sj.inv.clo;rw[←h6] at this;exact this
 have hso:EvE Z w H0 (n+4) scSo σ' δ' (.Name (S "sorter") default) (.v (.ref (r.at' .S))):=by rw[hs0];exact ev_var sj.so
 obtain⟨oS,mS,rfl⟩:=hr.hold .S trivial;obtain⟨oF,mF,t1,t2,f⟩:=hr.hold .dS trivial;refine hx_cons (ht_tryZ (b:=true) (fs:=r.fields t1 t2) (Φ:=fun _ fl σ2 δ2=>fl=.next∧∃a b,σ2.lookup (S "sorter")=some (.v (.ref (r.at' .S)))∧σ2.lookup (S "ring")=some (.d (.bool b))∧RepOk Z w c (r.begin a) δ2∧(b=false->Acyc r.succ r.names)∧(b=true->Ringed r.succ r.names)) pk.cy (by decide +kernel) (settable_of) hK ck.c1 (show EvE _ _ _ _ _ _ _ _ (.v (.ref (r.at' .S))) by rw[hs0];exact ev_var sj.so) mS mF f rfl mk.find mk.ty mk.dfn.callee
  (fn_z (n:=n+3) (ps:=[S "self"]) (xs':=[.v (.ref (r.at' .S))]) (Ψ:=fun _ _ L'=>∃a,RepOk Z w c (r.begin a) L'∧Acyc r.succ r.names) (Ξ:=fun L'=>∃a,RepOk Z w c (r.begin a) L'∧Ringed r.succ r.names) mk.dfn (bind_plain hbP rfl) (by decide +kernel) rfl ?_) (fun _=>⟨_,rfl⟩) (fun _=>rfl) (fun g v L' q=>?_) fun g L' q=>?_) (fun g σ2 δ2 q=>?_) fun g fl σ2 δ2 hn q=>absurd q.1 hn
 ·exact hz_mono (prep_body (n:=n+2) hK ck pk hr h3 hn8 hcl) fun g fl σ' δ' q=>q.2
 ·obtain⟨a,q1,q2⟩:=q
  exact⟨rfl,a,false,by rw[hs0];exact sj.so,sj.ri,q1,fun _=>q2,fun e=>by cases e⟩
 ·obtain⟨a,q1,q2⟩:=q
  exact⟨rfl,a,true,by rw[hs0];exact sj.so,rfl,q1,(fun e=>by cases e),fun _=>q2⟩
 ·obtain⟨_,a,b,l1,l2,hb,ha,hr'⟩:=q
  refine hx_of (gx_last (gs_mono (gt_return (ev_pair (ev_var l1) (ev_var l2) (fun _=>rfl) fun _=>rfl)) fun g fl σ' δ'' p=>?_) fun g σ' δ' p=>by obtain⟨v,e,_⟩:=p;cases e);obtain⟨⟨v,rfl,l,rfl,hl⟩,rfl⟩:=p;exact⟨_,rfl,r,a,b,l,h6,h4,h5,hb,rfl,hl,ha,hr'⟩
end
theorem sorted_tup{A:Around}{E:Value->Shared->Prop}{s:Shared}{l:Addr}{vs:List Value}{ss:List Str}{Q:Value->Shared->Prop}(hl:IsTup s.heap l vs.toArray)(hS:StrsAre vs ss)(h64:vs.length<64)
  (h:∀h' a (out:Array Value) ss' e,Ext s.heap h'->h'.get? a=some (seqObj "list" out e)->s.heap.get? a=none->StrsAre out.toList ss'->ss'.Perm ss->sortedS ss'=true->Q (.ref a) {s with heap:=h'}):
  wpAny (model Z w) A (call (.builtin "sorted") [.ref l]) Q E s:=by
 refine Calls.call_function_entry kind_sorted plain_sorted entry_sorted (args_sorted1 _) ?_;unfold Builtin.«sorted»;refine wpAny_bind (m:=checkCount "sorted" 1 1 _) (wpAny_pure ?_);obtain⟨o,ho,hc,nn,hd⟩:=hl;refine wpAny_bind (wpAny_collect_seq l (.inr rfl) ho hc hd (fun h₁ hk=>?_) (by rw[size_toArray];exact Nat.le_of_lt (Nat.lt_of_lt_of_le h64 (by decide))));have ev:vs.toArray.toList=vs:=by simp
 rw[ev];refine wpAny_bind (wpAny_newList ?_);have hoL:(h₁.push (seqObj "list" vs.toArray 0)).get? h₁.objs.size=some (seqObj "list" vs.toArray 0):=Heap.get?_push_size _ rfl;show wpAny _ _ _ _ _ {s with heap:=h₁.push (seqObj "list" vs.toArray 0)};refine wpAny_bind (wpAny_holding (wpAny_call_entry slot_list_sort ⟨_,hoL,rfl⟩ entry_list_sort (list_sort_treeK strKind_oneLt hoL hS.keysOf (fun v1 v2 rest e=>keyKind_strs (by rw[←e];exact hS)) h64 fun st' a1 a2=>⟨_,rfl,?_⟩) (args_list_sort _)));obtain⟨ss',q1,q2,q3⟩:=sorted_out_str hS a1 a2;obtain⟨e,he⟩:=sortedHeap_at (out:=(arrOf st').map (·.2)) hoL;have fr:s.heap.get? h₁.objs.size=none:=by
  cases z:s.heap.get? h₁.objs.size with
  |none=>rfl
  |some o=>exact absurd (Heap.lt_size (hk _ _ z)) (Nat.lt_irrefl _)
 refine wpAny_pure ⟨_,rfl,h _ _ _ ss' e (fun b ob eb=>?_) he fr q1 q2 q3⟩;have hb1:=hk b ob eb;have lt:=Heap.lt_size hb1;rw[sortedHeap_old (Nat.ne_of_lt lt) (by rw[Heap.size_push];exact Nat.lt_succ_of_lt lt)];exact Heap.get?_push_of_some _ hb1
theorem fn_sortedT{ls:List (List Nat)}(hz:ls.length<64):FnP Z w H0 n (.builtin "sorted") [.d (.tuple (ls.map fun x=>.str (tx x)))] (Rd (dNames (sortT ls))):=by
 intro A s η vs g B hm
 match vs,hm with
 |[v],⟨m,_⟩=>
 obtain⟨l,vs,rfl,hl,f⟩:=rd_tuple m;have f':F2 (fun v d=>Rd d (vis s.heap η) v) vs ((ls.map tx).map .str):=by rw[map_map];exact f
 refine sorted_tup (isTup_ext (vis_to _ _) hl) (strsAre_of f') (by have:=f.length;rw[this,length_map];exact hz) fun h' a out ss' e ex ha hn h1 h2 h3=>?_;have e2:=sorted_is h2 h3;subst e2;have nh:a∉η:=fun m=>by
  obtain⟨o,q⟩:=B.alive a m;rw[hn] at q;cases q
 refine⟨_,s.toks,rfl,ex,list_rd (vs:=out.toList) ⟨_,vis_get ha nh,rfl,e,?_⟩ (strsAre_f2 h1)⟩;simp[seqObj]
theorem has_sortedT(hg:GIs H0 (S "sorted") (.builtin "sorted")){ls:List (List Nat)}(hz:ls.length<64):HasD Z w H0 (S "sorted") n [.tuple (ls.map fun x=>.str (tx x))] (dNames (sortT ls)):=⟨_,hg,callee_builtin,fn_sortedT hz⟩
theorem fn_typeT{ds:List PyData}:FnP Z w H0 n (.type "type") [.d (.tuple ds)] (fun _ v=>v=.type "tuple"):=by
 intro A s η vs g B hm
 match vs,hm with
 |[v],⟨m,_⟩=>
 obtain⟨l,vs,rfl,hl,f⟩:=rd_tuple m;obtain⟨o,ho,hc,_⟩:=isTup_ext (vis_to _ _) hl;exact call_type_of ⟨o,ho,hc⟩ (by decide) (Pu.here rfl)
theorem has_typeT(hg:GIs H0 (S "type") (.type "type")){ds:List PyData}:Has Z w H0 (S "type") n [.d (.tuple ds)] (fun _ v=>v=.type "tuple"):=⟨_,hg,callee_type,fn_typeT⟩
theorem op_isSame{v:Value}(hp:plainIs v v=true):OpBin Z w H0 n (compareOp .Is) (.v v) (.v v) (Rd (.bool true)):=by
 intro A s η u x g B ra rb;have e1:u=v:=ra;have e2:x=v:=rb;subst e1 e2;exact wpAny_is_self hp (Pu.here (bool_rd _ _))
theorem tr_isTuple{y:Str}{p1 p2 p3 p4 pos:Pos}{ds:List PyData}(hty:GIs H0 (S "type") (.type "type"))(htu:GIs H0 (S "tuple") (.type "tuple"))(h1:globOk sc (S "type")=true)(h2:globOk sc (S "tuple")=true)(hy:EvE Z w H0 n sc σ δ (.Name y p2) (.d (.tuple ds))):
  TrP Z w H0 n sc σ δ (.Compare (.Call (.Name (S "type") p1) [.Name y p2] [] p3) [.Is] [.Name (S "tuple") p4] pos) true:=
 tr_cmp (x:=.v (.type "tuple")) (ev_has (has_typeT hty) (Nat.le_refl _) h1 (evs_1 hy fun _=>rfl) fun _=>rfl) (ev_gl htu h2) (op_isSame rfl) rfl
section
variable{K:Frag}{c:Cls2}{r:Rep}
structure RdK(H0:Heap)(K:Frag)(c:Cls2):Prop where
 act:∃f fd,MethK K H0 c (S "is_active") (meth 13 5) f fd∧∀vs:List Value,vs.length=[S "self"].length->bindArgs fd ⟨vs,[]⟩=pure ([S "self"].zip vs)
 got:∃f fd,MethK K H0 c (S "get_ready") (meth 13 4) f fd∧∀vs:List Value,vs.length=[S "self"].length->bindArgs fd ⟨vs,[]⟩=pure ([S "self"].zip vs)
 done:∃f fd,MethK K H0 c (S "done") (meth 13 7) f fd∧∀vs ws:List Value,vs.length=[S "self"].length->bindArgs fd ⟨vs++ws,[]⟩=(newTuple ws >>=fun t=>pure (([S "self"]++[S "nodes"]).zip (vs++[t])))
 len:GIs H0 (S "len") (.builtin "len")
 tup:GIs H0 (S "tuple") (.type "tuple")
 bool:GIs H0 (S "bool") (.type "bool")
 out:∃t,GIs H0 (S "_NODE_OUT") (.int (-1) t)
 dn:∃t,GIs H0 (S "_NODE_DONE") (.int (-2) t)
theorem gs_act{e:Expr}{pa pos:Pos}{l:List NM}(hK:K.In H0)(ck:ClsK K c)(rk:RdK H0 K c)(h:RepOk Z w c r δ)(hr:r.ready=some l)(hz:l.length≤1000)(he:EvE Z w H0 (n+1) sc σ δ e (.v (.ref (r.at' .S))))(hev:MethEv e (S "is_active") pa [] pos):
  GS Z w H0 (n+1) sc σ δ (eval (.Call (.Attribute e (S "is_active") pa) [] [] pos)) (fun g v σ' δ'=>σ'=σ∧v=.bool (decide (r.fin<r.passed) ||!l.isEmpty)∧δ'=δ):=by
 obtain⟨f,fd,mk,hb⟩:=rk.act;refine gs_sm (xs:=[]) hK ck h mk he (fun t1 t2=>rfl) evs_nil (FnGc.g (FnF.gc (fn_gen (x:=false) (n:=n) (ps:=[S "self"]) (xs':=[.v (.ref (r.at' .S))]) mk.dfn (bind_plain hb rfl) (by decide +kernel) rfl (hx_of (gs_mono (act_body hK ck rk.bool h hr hz) fun g fl σ' δ' q=>?_))))) (fun _=>rfl) hev;obtain⟨⟨v,rfl,m⟩,rfl⟩:=q;exact⟨rd_bool m,rfl⟩
theorem gs_got{e:Expr}{pa pos:Pos}{l:List NM}(hK:K.In H0)(ck:ClsK K c)(rk:RdK H0 K c)(h:RepOk Z w c r δ)(hr:r.ready=some l)(hz:l.length≤1000)(hl:∀x∈l,x∈r.names)(he:EvE Z w H0 (n+1) sc σ δ e (.v (.ref (r.at' .S))))(hev:MethEv e (S "get_ready") pa [] pos):
  GS Z w H0 (n+1) sc σ δ (eval (.Call (.Attribute e (S "get_ready") pa) [] [] pos)) (fun g v σ' δ'=>σ'=σ∧Rd (.tuple (dNs l)) g v∧RepOk Z w c (r.got l) δ'):=by
 obtain⟨f,fd,mk,hb⟩:=rk.got;refine gs_sm (xs:=[]) hK ck h mk he (fun t1 t2=>rfl) evs_nil (FnGc.g (FnF.gc (fn_gen (x:=false) (n:=n) (ps:=[S "self"]) (xs':=[.v (.ref (r.at' .S))]) mk.dfn (bind_plain hb rfl) (by decide +kernel) rfl (hx_of (gs_mono (got_body hK ck rk.len rk.tup rk.out h hr hz hl) fun g fl σ' δ' q=>?_))))) (fun _=>rfl) hev;obtain⟨v,rfl,m,q⟩:=q;exact⟨m,q⟩
theorem gs_done{e:Expr}{y:Str}{p1 pa pos:Pos}{x:NM}{l:List NM}(hK:K.In H0)(ck:ClsK K c)(rk:RdK H0 K c)(h:RepOk Z w c r δ)(hr:r.ready=some l)(hx:x∈r.names)(hnp:r.np x= -1)(hs:∀y∈r.succ x,y∈r.names)(hz:l.length+(r.succ x).length≤1000)(he:EvE Z w H0 (n+1) sc σ δ e (.v (.ref (r.at' .S))))(hy:EvE Z w H0 (n+1) sc σ δ (.Name y p1) (.d (.str (tx x))))(hev:MethEv e (S "done") pa [.Name y p1] pos):
  GS Z w H0 (n+1) sc σ δ (eval (.Call (.Attribute e (S "done") pa) [.Name y p1] [] pos)) (fun g v σ' δ'=>σ'=σ∧RepOk Z w c (r.done x) δ'):=by
 obtain⟨f,fd,mk,hb⟩:=rk.done;refine gs_sm (xs:=[.d (.str (tx x))]) hK ck h mk he (fun t1 t2=>rfl) (evs_1 hy fun _=>rfl) (FnGc.g (FnF.gc (fn_gen (x:=false) (n:=n) (ps:=[S "self"]++[S "nodes"]) (xs:=[.v (.ref (r.at' .S))]++(dNs [x]).map .d) (xs':=[.v (.ref (r.at' .S))]++[.d (.tuple (dNs [x]))]) mk.dfn (bind_star (ds:=dNs [x]) hb rfl (show(1:Nat)≤sizeLine by decide)) (by decide +kernel) rfl (hx_of (gs_mono (done_body hK ck rk.out rk.dn h hr hx hnp hs hz) fun g fl σ' δ' q=>?_))))) (fun _=>rfl) hev;exact q.2
end
def Rep.turn(r:Rep)(l:List NM):Rep:=l.foldl Rep.done ((r.got l).got [])
theorem dones_at:∀(l:List NM) (r:Rep),(l.foldl Rep.done r).at'=r.at'∧(l.foldl Rep.done r).names=r.names∧(l.foldl Rep.done r).succ=r.succ
 |[],r=>⟨rfl,rfl,rfl⟩
 |x::l,r=>by
  obtain⟨a,b,c⟩:=dones_at l (r.done x);obtain⟨a',b',c',_,_⟩:=decs_at (r.succ x) (r.putNp x (-2));exact⟨a.trans a',b.trans b',c.trans c'⟩
structure TurnsOk(Kv:Nat->Rep->List (List NM)->Prop):Prop where
 step:∀m r rs,Kv m r rs->∃l,r.ready=some l∧l.length≤8∧rs.length≤20∧(∀x∈l,x∈r.names)∧(decide (r.fin<r.passed) ||!l.isEmpty)=!l.isEmpty∧
  (l≠[]->(∀i x,l[i]? =some x->((l.take i).foldl Rep.done ((r.got l).got [])).np x= -1∧(∀y∈r.succ x,y∈r.names)∧∃l',((l.take i).foldl Rep.done ((r.got l).got [])).ready=some l'∧l'.length+(r.succ x).length≤1000)∧∃m',m'<m∧Kv m' (r.turn l) (rs++[sortT l]))
section
variable{K:Frag}{c:Cls2}{r:Rep}
theorem gs_isTrue{e:Expr}{b:Bool}{Ψ:Sto->Led->Prop}(h:GS Z w H0 n sc σ δ (eval e) (fun g v σ' δ'=>v=.bool b∧Ψ σ' δ'))
  (hp:∀V whole,PySem.isTrue e V whole=(do let v ←whole;standAt e.pos;holding [v] (truthy v))):GS Z w H0 n sc σ δ (fun V=>isTrue e V (eval e V)) (fun _ c σ' δ'=>c=b∧Ψ σ' δ'):=by
 intro A V s η g o F;refine isTrue_plain (wpAny_mono (h A V s η g o F) (fun v s₁ q=>?_) fun _ _ f=>f) (hp _ _);obtain⟨h',tk,η',σ',δ',e,k,F',m1,m2,m3,rfl,p⟩:=q;exact wpAny_truthy_bool ⟨h',tk,η',σ',δ',e,k,F',m1,m2,m3,rfl,p⟩
abbrev scRo:Scope:=scopeOf (stm 29)
theorem ro_body{Kv:Nat->Rep->List (List NM)->Prop}(kv:TurnsOk Kv){m0:Nat}(h0:Kv m0 r [])(hK:K.In H0)(ck:ClsK K c)(rk:RdK H0 K c)(hsort:GIs H0 (S "sorted") (.builtin "sorted"))(hty:GIs H0 (S "type") (.type "type"))(h:RepOk Z w c r δ):
  GX Z w H0 (n+1) scRo [(S "sorter",.v (.ref (r.at' .S)))] δ (bodyOf (stm 29)) (fun g fl _ _=>∃v,fl=.ret v∧∃m r' rs,Kv m r' rs∧r'.ready=some []∧Rd (dRounds rs) g v):=by
 refine gx_set (x:=.d (dRounds [])) (ev_list (ds:=[]) evs_nil (by decide)) ?_ (settable_of) (fun _ _=>rfl) (fun _ _=>rfl);refine gx_cons (Ψ:=fun _ fl σ' δ'=>fl=.next∧∃m r' rs,Kv m r' rs∧r'.ready=some []∧σ'.lookup (S "rounds")=some (.d (dRounds rs))) (gt_of_h (ht_while (x:=false) (fun i σ' δ'=>∃r' rs,Kv i r' rs∧r'.at' .S=r.at' .S∧RepOk Z w c r' δ'∧σ'.lookup (S "sorter")=some (.v (.ref (r.at' .S)))∧σ'.lookup (S "rounds")=some (.d (dRounds rs))) m0 (fun i σ' δ' hI=>?_) ?_)) (fun g σ' δ' q=>?_) fun g fl σ' δ' hn q=>absurd q.1 hn
 ·obtain⟨r',rs,hk,hat,hr,l1,l2⟩:=hI
  obtain⟨l,hl,hl8,hrs,hln,hact,hgo⟩:=kv.step _ _ _ hk;refine⟨fun _ b σ₁ δ₁=>b=(!l.isEmpty)∧σ₁=σ'∧δ₁=δ',gsf_of (gs_isTrue (b:=!l.isEmpty) (Ψ:=fun σ₁ δ₁=>σ₁=σ'∧δ₁=δ') (gs_mono (gs_act (n:=n) (r:=r') (l:=l) hK ck rk hr hl (by omega) (by rw[hat];exact ev_var l1) fun _=>⟨_,rfl⟩) fun g v σ₁ δ₁ q=>?_) fun _ _=>rfl),fun g σ₁ δ₁ q=>?_,fun g σ₁ δ₁ q=>?_⟩
  ·obtain⟨rfl,rfl,rfl⟩:=q
   exact⟨by rw[hact],rfl,rfl⟩
  ·obtain⟨hne,rfl,rfl⟩:=q
   have hne:l≠[]:=fun e=>by subst e;cases hne
   obtain⟨hgo,m',hm',hk'⟩:=hgo hne;have sv:∀{σ' δ' pos},σ'.lookup (S "sorter")=some (.v (.ref (r.at' .S)))->EvE Z w H0 (n+1) scRo σ' δ' (.Name (S "sorter") pos) (.v (.ref (r.at' .S))):=fun h=>ev_var h;have g1:(r'.got l).ready=some []:=rfl;refine hx_cons (ht_of (gt_assign2 (Θ:=fun xs σ2 δ2=>xs=[.d (.tuple (dNs l)),.d (.tuple [])]∧σ2=σ₁∧RepOk Z w c ((r'.got l).got []) δ2)
    (ges_cons (Ψ:=fun x σ2 δ2=>x=.d (.tuple (dNs l))∧σ2=σ₁∧RepOk Z w c (r'.got l) δ2) (gs_mono (gs_got (n:=n) (r:=r') (l:=l) hK ck rk hr hl (by omega) hln (by rw[hat];exact sv l1) fun _=>⟨_,rfl⟩) fun g v σ2 δ2 q=>?_) (fun x σ2 δ2 q=>ges_cons (Ψ:=fun y σ3 δ3=>y=.d (.tuple [])∧σ3=σ₁∧RepOk Z w c ((r'.got l).got []) δ3) ?_ (fun y σ3 δ3 q3=>ges_nil ?_) fun _=>rfl) fun _=>rfl)
    (settable_of) (settable_of) (fun xs σ' δ' q=>by obtain⟨rfl,_⟩:=q;rfl) (fun _ _=>rfl) fun V o=>by have q:=o.scope;cases V;simp only at q;subst q;rfl)) (fun g σ2 δ2 q=>?_) fun g fl σ' δ' hn q=>absurd q.1 hn
   ·obtain⟨rfl,m,q⟩:=q
    exact⟨.d (.tuple (dNs l)),m,rfl,rfl,q⟩
   ·obtain⟨rfl,rfl,q⟩:=q
    refine gs_mono (gs_got (n:=n) (r:=r'.got l) (l:=[]) hK ck rk q g1 (by simp) (fun x m=>nomatch m) (show EvE _ _ _ _ _ _ _ _ (.v (.ref (r'.at' .S))) by rw[hat];exact sv l1) fun _=>⟨_,rfl⟩) fun g v σ2 δ2 q=>?_;obtain⟨rfl,m,q⟩:=q;exact⟨.d (.tuple (dNs [])),m,rfl,rfl,q⟩
   ·obtain⟨rfl,rfl,q⟩:=q
    obtain⟨rfl,rfl,q3⟩:=q3;exact⟨rfl,rfl,q3⟩
   obtain⟨_,x1,x2,σ3,⟨e,rfl,h2⟩,rfl⟩:=q;cases e;refine hx_cons (ht_for (x:=false) (ds:=(dNs l).map .d) [] (fun j σ' δ'=>σ'.lookup (S "sorter")=some (.v (.ref (r.at' .S)))∧σ'.lookup (S "rounds")=some (.d (dRounds rs))∧σ'.lookup (S "group")=some (.d (.tuple (dNs l)))∧σ'.lookup (S "behind")=some (.d (.tuple []))∧RepOk Z w c ((l.take j).foldl Rep.done ((r'.got l).got [])) δ')
    (Ψ:=fun _ fl σ' δ'=>fl=.next∧σ'.lookup (S "sorter")=some (.v (.ref (r.at' .S)))∧σ'.lookup (S "rounds")=some (.d (dRounds rs))∧σ'.lookup (S "group")=some (.d (.tuple (dNs l)))∧σ'.lookup (S "behind")=some (.d (.tuple []))∧RepOk Z w c (r'.turn l) δ') (itf_of (ev_var rfl) src_tuple) ⟨l1,l2,rfl,rfl,h2⟩ (fun _ _ _ _ p hp=>nomatch hp) (fun j e σ' δ' he hJ=>?_) (fun g σ' δ' hJ=>?_) (fun _ _=>rfl) (.inl ⟨_,_,rfl⟩)) (fun g σ' δ' q=>?_) fun g fl σ' δ' hn q=>absurd q.1 hn
   ·obtain⟨s1,s2,s3,s4,h'⟩:=hJ
    rw[getElem?_map,Option.map_eq_some_iff] at he;obtain⟨d,hd,rfl⟩:=he;rw[dNs,getElem?_map,Option.map_eq_some_iff] at hd;obtain⟨p,hp,rfl⟩:=hd;obtain⟨n1,n2,l',n3,n4⟩:=hgo j p hp;obtain⟨ea,en,es⟩:=dones_at (l.take j) ((r'.got l).got []);have htk:l.take (j+1)=l.take j++[p]:=by rw[take_add_one,hp];rfl
    have hfd:(l.take (j+1)).foldl Rep.done ((r'.got l).got [])=((l.take j).foldl Rep.done ((r'.got l).got [])).done p:=by rw[htk,foldl_append];rfl
    rw[hfd];generalize (l.take j).foldl Rep.done ((r'.got l).got [])=r1 at h' n1 n3 ea en es;have ea:r1.at'=r'.at':=ea;have en:r1.names=r'.names:=en;have es:r1.succ=r'.succ:=es;have hpn:=hln p (mem_of_getElem? hp);refine⟨_,as_name (settable_of),hx_of ?_⟩;refine gx_cons (gt_expr (gs_done (n:=n) (r:=r1) (x:=p) (l:=l') hK ck rk h' n3 (by rw[en];exact hpn) n1 (by rw[es,en];exact n2) (by rw[es];exact n4) (show EvE _ _ _ _ _ _ _ _ (.v (.ref (r1.at' .S))) by rw[ea,hat];exact sv s1) (ev_var rfl) fun _=>⟨_,rfl⟩) fun _=>rfl) (fun g σ2 δ2 q=>gx_nil fun g=>?_) fun g fl σ' δ' hn q=>absurd q.1 hn;obtain⟨_,v,rfl,q⟩:=q;exact⟨s1,s2,s3,s4,q⟩
   ·obtain⟨s1,s2,s3,s4,h'⟩:=hJ
    rw[length_map,dNs,length_map,take_length] at h';exact⟨rfl,s1,s2,s3,s4,h'⟩
   obtain⟨_,s1,s2,s3,s4,h3⟩:=q;have e1:dRounds (rs++[sortT l])=.list (rs.map dNames++[if(true && true)=true then dNames (sortT l) else .list []]):=by rw[dRounds,map_append];rfl
   refine hx_of (gx_set (x:=.d (dRounds (rs++[sortT l]))) (by
    rw[e1];exact ev_bin (x:=.d (dRounds rs)) (y:=.d (.list [if(true && true)=true then dNames (sortT l) else .list []])) (ev_var s2) (ev_list (ds:=[_]) (evs_1 (ev_ifd (tr_boolop (trs_and (tr_isTuple (ds:=dNs l) hty rk.tup (by decide +kernel) (by decide +kernel) (ev_var s3)) fun _=>trs_and1 (tr_cmp (ev_var s4) (ev_tuple (ds:=[]) evs_nil (by decide)) (op_eqD rfl rfl) rfl))) (fun _=>ev_has' (xs:=[.tuple (dNs l)]) (has_sortedT (n:=n+1) hsort (ls:=l) (by omega)) (Nat.le_refl _) (by decide +kernel) (evs_1 (ev_var s3) fun _=>rfl) fun _=>rfl) fun _=>ev_list (ds:=[]) evs_nil (by decide)) fun _=>rfl) (size_le (by simp))) (op_addL (size_le (by rw[length_map];simp;omega)))) (gx_nil fun g=>?_) (settable_of) (fun _ _=>rfl) (fun _ _=>rfl))
   obtain⟨ea,en,es⟩:=dones_at l ((r'.got l).got []);have ea:(r'.turn l).at'=r'.at':=ea;exact⟨m',hm',r'.turn l,_,hk',by rw[ea];exact hat,h3,s1,rfl⟩
  ·obtain⟨hne,rfl,rfl⟩:=q
   have hne:l=[]:=by cases l<;> first|rfl|cases hne
   subst hne;exact hx_nil fun g=>⟨rfl,i,r',rs,hk,hl,l2⟩
 ·exact⟨r,[],h0,rfl,h,rfl,rfl⟩
 ·obtain⟨_,m,r',rs,hk,hr,l2⟩:=q
  exact gx_ret (P:=Rd (dRounds rs)) (show EvE _ _ _ _ _ _ _ _ (.d (dRounds rs)) from ev_var l2) fun g v σ' p=>⟨v,rfl,m,r',rs,hk,hr,p⟩
end
abbrev Edges:=List (NM×NM)
def cnt(E:Edges)(x:NM):Nat:=(E.filter fun e=>e.1==x).length
def sucE(E:Edges)(p:NM):List NM:=(E.filter fun e=>e.2==p).map (·.1)
structure EOk(a:Abs)(E:Edges):Prop where
 np:∀x,a.np x=(cnt E x:Int)
 succ:∀p,a.succ p=sucE E p
 ends:∀e∈E,e.1∈a.names∧e.2∈a.names
theorem cnt_none{a:Abs}{E:Edges}{x:NM}(h:EOk a E)(hx:x∉a.names):cnt E x=0:=by
 unfold cnt;rw[List.length_eq_zero_iff,filter_eq_nil_iff];intro e he q;have:e.1=x:=by simpa using q
 exact hx (this▸(h.ends e he).1)
theorem suc_none{a:Abs}{E:Edges}{x:NM}(h:EOk a E)(hx:x∉a.names):sucE E x=[]:=by
 unfold sucE;rw[List.map_eq_nil_iff,filter_eq_nil_iff];intro e he q;have:e.2=x:=by simpa using q
 exact hx (this▸(h.ends e he).2)
theorem eok_get{a:Abs}{E:Edges}(h:EOk a E)(x:NM):EOk (a.get x) E:=by
 unfold Abs.get;split
 ·exact h
 ·next hn=>
  refine⟨fun y=>?_,fun y=>?_,fun e he=>⟨mem_append_left _ (h.ends e he).1,mem_append_left _ (h.ends e he).2⟩⟩
  ·show(if y=x then (0:Int) else a.np y)=_
   split
   ·next e=>subst e;rw[cnt_none h hn];rfl
   ·exact h.np y
  ·show(if y=x then [] else a.succ y)=_
   split
   ·next e=>subst e;rw[suc_none h hn]
   ·exact h.succ y
theorem cnt_snoc(E:Edges)(e:NM×NM)(x:NM):cnt (E++[e]) x=cnt E x+if e.1=x then 1 else 0:=by
 unfold cnt;rw[List.filter_append,length_append]
 by_cases h:e.1=x<;> simp[h]
theorem suc_snoc(E:Edges)(e:NM×NM)(x:NM):sucE (E++[e]) x=sucE E x++if e.2=x then [e.1] else []:=by
 unfold sucE;rw[List.filter_append,map_append]
 by_cases h:e.2=x<;> simp[h]
theorem eok_link{a:Abs}{E:Edges}(h:EOk a E){x q:NM}(hx:x∈a.names):EOk (Abs.link x {a with np:=fun y=>if y=x then a.np x+1 else a.np y} q) (E++[(x,q)]):=by
 by_cases hq:q∈a.names
 ·have e:Abs.get {a with np:=fun y=>if y=x then a.np x+1 else a.np y} q={a with np:=fun y=>if y=x then a.np x+1 else a.np y}:=if_pos hq
  unfold Abs.link;rw[e];refine⟨fun y=>?_,fun y=>?_,fun e he=>?_⟩
  ·show(if y=x then a.np x+1 else a.np y)=_
   rw[cnt_snoc]
   by_cases hy:y=x
   ·subst hy;rw[if_pos rfl,if_pos rfl,h.np];simp
   ·rw[if_neg hy,if_neg (fun q=>hy q.symm),h.np];simp
  ·show(if y=q then a.succ q++[x] else a.succ y)=_
   rw[suc_snoc]
   by_cases hy:y=q
   ·subst hy;rw[if_pos rfl,if_pos rfl,h.succ]
   ·rw[if_neg hy,if_neg (fun e=>hy e.symm),h.succ,append_nil]
  ·rcases mem_append.mp he with he|he
   ·exact h.ends e he
   ·rw[mem_singleton.mp he];exact⟨hx,hq⟩
 ·have e:Abs.get {a with np:=fun y=>if y=x then a.np x+1 else a.np y} q=⟨a.names++[q],fun y=>if y=q then 0 else if y=x then a.np x+1 else a.np y,fun y=>if y=q then [] else a.succ y⟩:=if_neg hq
  unfold Abs.link;rw[e];have hxq:x≠q:=fun e=>hq (e▸hx);refine⟨fun y=>?_,fun y=>?_,fun e he=>?_⟩
  ·show(if y=q then (0:Int) else if y=x then a.np x+1 else a.np y)=_
   rw[cnt_snoc]
   by_cases hy:y=q
   ·subst hy;rw[if_pos rfl,if_neg hxq,cnt_none h hq];rfl
   ·rw[if_neg hy]
    by_cases hy:y=x
    ·subst hy;rw[if_pos rfl,if_pos rfl,h.np];simp
    ·rw[if_neg hy,if_neg (fun q=>hy q.symm),h.np];simp
  ·show(if y=q then (if q=q then [] else a.succ q)++[x] else if y=q then [] else a.succ y)=_
   rw[suc_snoc]
   by_cases hy:y=q
   ·subst hy;rw[if_pos rfl,if_pos rfl,if_pos rfl,suc_none h hq]
   ·rw[if_neg hy,if_neg hy,if_neg (fun e=>hy e.symm),h.succ,append_nil]
  ·rcases mem_append.mp he with he|he
   ·exact⟨mem_append_left _ (h.ends e he).1,mem_append_left _ (h.ends e he).2⟩
   ·rw[mem_singleton.mp he];exact⟨mem_append_left _ hx,mem_append_right _ (by simp)⟩
theorem eok_add0{a:Abs}{E:Edges}(h:EOk a E)(x:NM):EOk (a.add x []) E:=by
 have g:=eok_get h x;refine⟨fun y=>?_,g.succ,g.ends⟩;show(if y=x then (a.get x).np x+0 else (a.get x).np y)=_;split
 ·next e=>subst e;rw[g.np];simp
 ·exact g.np y
theorem eok_add1{a:Abs}{E:Edges}(h:EOk a E)(x q:NM):EOk (a.add x [q]) (E++[(x,q)]):=eok_link (eok_get h x) (get_mem a x)
def edgesOf(js:NJ)(j:List Nat×List Nat):Edges:=(needsOf js j).map fun q=>(j.1,q)
def edges(js:NJ):Edges:=js.flatMap (edgesOf js)
theorem eok_adds(x:NM):∀(ps:List NM) {a:Abs} {E:Edges},EOk a E->EOk (ps.foldl (fun a q=>a.add x [q]) a) (E++ps.map fun q=>(x,q))
 |[],a,E,h=>by rw[map_nil,append_nil];exact h
 |p::ps,a,E,h=>by
  have:=eok_adds x ps (eok_add1 h x p);rw[append_assoc] at this;exact this
theorem eok_job{js:NJ}{a:Abs}{E:Edges}(h:EOk a E)(j:List Nat×List Nat):EOk (Abs.job js a j) (E++edgesOf js j):=eok_adds j.1 _ (eok_add0 h j.1)
theorem eok_jobs{js:NJ}:∀(l:NJ) {a:Abs} {E:Edges},EOk a E->EOk (l.foldl (Abs.job js) a) (E++l.flatMap (edgesOf js))
 |[],a,E,h=>by rw[List.flatMap_nil,append_nil];exact h
 |j::l,a,E,h=>by
  have:=eok_jobs (js:=js) l (eok_job (js:=js) h j);rw[append_assoc] at this;rw[flatMap_cons];exact this
theorem eok_all(js:NJ):EOk (Abs.all js) (edges js):=eok_jobs js (a:=Abs.empty) (E:=[]) ⟨fun x=>rfl,fun x=>rfl,fun e m=>nomatch m⟩
theorem inv_jobs{js:NJ}:∀(l:NJ) {a:Abs},a.Inv (js.map (·.1))->(∀j∈l,j∈js)->(l.foldl (Abs.job js) a).Inv (js.map (·.1))∧(∀x∈a.names,x∈(l.foldl (Abs.job js) a).names)∧∀j∈l,j.1∈(l.foldl (Abs.job js) a).names
 |[],a,h,_=>⟨h,fun _ m=>m,fun j m=>nomatch m⟩
 |j::l,a,h,hl=>by
  have hj:j.1∈js.map (·.1):=mem_map_of_mem (hl j mem_cons_self);have hadd:∀(b:Abs) (x:NM) (ps:List NM),(∀y∈b.names,y∈(b.add x ps).names)∧x∈(b.add x ps).names:=fun b x ps=>by
   have:∀(ps:List NM) (b:Abs) (y:NM),y∈b.names->y∈(ps.foldl (Abs.link x) b).names:=fun ps=>by
    induction ps with
    |nil=>exact fun b y h=>h
    |cons p ps ih=>exact fun b y h=>ih _ y (get_sub h)
   exact⟨fun y hy=>this ps _ y (get_sub hy),this ps _ x (get_mem b x)⟩
  have hfold:∀(ps:List NM) (b:Abs),b.Inv (js.map (·.1))->(∀p∈ps,p∈js.map (·.1))->(ps.foldl (fun a q=>a.add j.1 [q]) b).Inv (js.map (·.1))∧∀y∈b.names,y∈(ps.foldl (fun a q=>a.add j.1 [q]) b).names:=fun ps=>by
   induction ps with
   |nil=>exact fun b h _=>⟨h,fun _ m=>m⟩
   |cons p ps ih=>
    intro b h hp;obtain⟨h1,h2⟩:=ih (b.add j.1 [p]) (inv_add h hj fun q m=>by rw[mem_singleton.mp m];exact hp p mem_cons_self) fun q m=>hp q (mem_cons_of_mem _ m);exact⟨h1,fun y m=>h2 y ((hadd b j.1 [p]).1 y m)⟩
  obtain⟨h1,h2⟩:=hfold (needsOf js j) (a.add j.1 []) (inv_add h hj fun p m=>nomatch m) (needs_sub js j);obtain⟨h3,h4,h5⟩:=inv_jobs l (a:=Abs.job js a j) h1 fun q m=>hl q (mem_cons_of_mem _ m);refine⟨h3,fun x m=>h4 x (h2 x ((hadd a j.1 []).1 x m)),fun q m=>?_⟩;rcases mem_cons.mp m with rfl|m
  ·exact h4 _ (h2 _ (hadd a q.1 []).2)
  ·exact h5 q m
theorem inv_all(js:NJ):(Abs.all js).Inv (js.map (·.1))∧∀x,x∈(Abs.all js).names↔x∈js.map (·.1):=by
 obtain⟨h1,_,h3⟩:=inv_jobs (js:=js) js (a:=Abs.empty) ⟨.nil,(fun x m=>nomatch m),(fun x m=>nomatch m)⟩ fun j m=>m;refine⟨h1,fun x=>⟨h1.sub x,fun m=>?_⟩⟩;obtain⟨j,hj,rfl⟩:=mem_map.mp m;exact h3 j hj
theorem mem_edges{js:NJ}(nd:(js.map (·.1)).Nodup){x p:NM}:(x,p)∈edges js↔∃j∈js,j.1=x∧p∈needsOf js j:=by
 unfold edges;rw[mem_flatMap];constructor
 ·rintro ⟨j,hj,h⟩
  obtain⟨q,hq,e⟩:=mem_map.mp h;injection e with e1 e2;exact⟨j,hj,e1,e2▸hq⟩
 ·rintro ⟨j,hj,rfl,hp⟩
  exact⟨j,hj,mem_map.mpr ⟨p,hp,rfl⟩⟩
theorem nodup_map_inj{α β:Type}{f:α->β}(hf:∀a b,f a=f b->a=b):∀{l:List α},l.Nodup->(l.map f).Nodup
 |[],_=>.nil
 |a::l,h=>by
  have h:=nodup_cons.mp h;exact nodup_cons.mpr ⟨fun m=>by obtain⟨b,hb,e⟩:=mem_map.mp m;exact h.1 (hf _ _ e▸hb),nodup_map_inj hf h.2⟩
theorem filter_nodup{α:Type}{p:α->Bool}{l:List α}(h:l.Nodup):(l.filter p).Nodup:=List.Nodup.sublist List.filter_sublist h
theorem edges_nodup:∀{js:NJ},(js.map (·.1)).Nodup->(edges js).Nodup:=fun{js} nd=>by
 have:∀(l:NJ),(l.map (·.1)).Nodup->(l.flatMap (edgesOf js)).Nodup:=fun l=>by
  induction l with
  |nil=>exact fun _=>.nil
  |cons j l ih=>
   intro h;have h:=nodup_cons.mp h;rw[flatMap_cons];refine nodup_append.mpr ⟨nodup_map_inj (fun a b e=>by injection e) (filter_nodup nd),ih h.2,fun x hx y hy e=>?_⟩;obtain⟨q,_,rfl⟩:=mem_map.mp hx;obtain⟨j',hj',hy⟩:=mem_flatMap.mp hy;obtain⟨q',_,rfl⟩:=mem_map.mp hy;injection e with e1 e2;refine h.1 ?_;show j.1∈_;rw[e1];exact mem_map_of_mem hj'
 exact this js nd
def lef(E:Edges)(c:List NM)(y:NM):Nat:=(E.filter fun e=>e.1==y && !decide (e.2∈c)).length
theorem lef_nil(E:Edges)(y:NM):lef E [] y=cnt E y:=by
 unfold lef cnt
 congr 1
 exact List.filter_congr fun e _=>by simp
theorem lef_zero{E:Edges}{c:List NM}{y:NM}:lef E c y=0↔∀p,(y,p)∈E->p∈c:=by
 unfold lef;rw[List.length_eq_zero_iff,filter_eq_nil_iff];constructor
 ·intro h p hp
  have:=h (y,p) hp;simpa using this
 ·rintro h ⟨a,b⟩ he q
  simp at q;obtain⟨rfl,q⟩:=q;exact q (h b he)
theorem lef_add{x:NM}{c:List NM}(hx:x∉c)(y:NM):∀{E:Edges},E.Nodup->lef E (c++[x]) y+(if(y,x)∈E then 1 else 0)=lef E c y
 |[],_=>by simp[lef]
 |(a,b)::E,h=>by
  have h:=nodup_cons.mp h;have ih:=lef_add hx y (E:=E) h.2;have e1:∀c',lef ((a,b)::E) c' y=(if a=y∧b∉c' then 1 else 0)+lef E c' y:=fun c'=>by
   unfold lef;rw[filter_cons]
   by_cases q:a=y∧b∉c'
   ·rw[if_pos q,if_pos (by simpa using q),length_cons,Nat.add_comm]
   ·rw[if_neg q,if_neg (by simpa using q),Nat.zero_add]
  rw[e1,e1]
  by_cases q:(a,b)=(y,x)
  ·injection q with q1 q2
   subst q1 q2;rw[if_neg (show¬(a=a∧b∉c++[b]) from fun q=>q.2 (by simp)),if_pos (show a=a∧b∉c from⟨rfl,hx⟩),if_pos (show(a,b)∈(a,b)::E from mem_cons_self)];rw[if_neg h.1] at ih;omega
  ·have e2:((y,x)∈(a,b)::E)↔(y,x)∈E:=by
    rw[mem_cons];exact⟨fun z=>z.resolve_left fun e=>q e.symm,.inr⟩
   have e3:(a=y∧b∉c++[x])↔(a=y∧b∉c):=by
    refine and_congr_right fun hy=>?_;rw[mem_append,mem_singleton];constructor
    ·exact fun z m=>z (.inl m)
    ·rintro z (m|m)
     ·exact z m
     ·exact q (by rw[hy,m])
   simp only[e2,e3];omega
theorem mem_suc{E:Edges}{x y:NM}:y∈sucE E x↔(y,x)∈E:=by
 unfold sucE;rw[mem_map];constructor
 ·rintro ⟨⟨a,b⟩,h,rfl⟩
  have h:=mem_filter.mp h;have:b=x:=by simpa using h.2
  exact this▸h.1
 ·exact fun h=>⟨(y,x),mem_filter.mpr ⟨h,by simp⟩,rfl⟩
theorem suc_nodup{x:NM}:∀{E:Edges},E.Nodup->(sucE E x).Nodup
 |[],_=>.nil
 |(a,b)::E,h=>by
  have h:=nodup_cons.mp h;have ih:=suc_nodup (x:=x) h.2
  by_cases q:b=x
  ·have e:sucE ((a,b)::E) x=a::sucE E x:=by unfold sucE;rw[filter_cons,if_pos (by simpa using q)];rfl
   rw[e];exact nodup_cons.mpr ⟨fun m=>h.1 (by rw[q];exact mem_suc.mp m),ih⟩
  ·have e:sucE ((a,b)::E) x=sucE E x:=by unfold sucE;rw[filter_cons,if_neg (by simpa using q)]
   rw[e];exact ih
theorem dec_np(r:Rep)(z y:NM):(r.dec z).np y=if y=z then r.np z - 1 else r.np y:=rfl
theorem decs_np:∀(ys:List NM) (r:Rep),ys.Nodup->∀y,(r.decs ys).np y=if y∈ys then r.np y - 1 else r.np y
 |[],r,_,y=>by rw[if_neg (fun m=>nomatch m)];rfl
 |z::ys,r,h,y=>by
  have h:=nodup_cons.mp h;have:=decs_np ys (r.dec z) h.2 y;show((r.dec z).decs ys).np y=_;rw[this,dec_np]
  by_cases e:y=z
  ·subst e
   rw[if_neg h.1,if_pos rfl,if_pos mem_cons_self]
  ·by_cases m:y∈ys
   ·rw[if_pos m,if_neg e,if_pos (mem_cons_of_mem _ m)]
   ·rw[if_neg m,if_neg e,if_neg (fun q=>m ((mem_cons.mp q).resolve_left e))]
theorem decs_rdy:∀(ys:List NM) (r:Rep) (m:List NM),ys.Nodup->r.ready=some m->(r.decs ys).ready=some (m++ys.filter fun y=>r.np y - 1==0)
 |[],r,m,_,h=>by rw[List.filter_nil,append_nil];exact h
 |z::ys,r,m,nd,h=>by
  have nd:=nodup_cons.mp nd;show((r.dec z).decs ys).ready=_;have h1:(r.dec z).ready=some (if r.np z - 1=0 then m++[z] else m):=by
   show(if r.np z - 1=0 then r.ready.map (·++[z]) else r.ready)=_;rw[h];split<;> rfl
  rw[decs_rdy ys (r.dec z) _ nd.2 h1];have e1:(ys.filter fun y=>(r.dec z).np y - 1==0)=ys.filter fun y=>r.np y - 1==0:=List.filter_congr fun y hy=>by
   have hne:y≠z:=fun e=>nd.1 (by rw[←e];exact hy);rw[dec_np,if_neg hne]
  rw[e1,filter_cons]
  by_cases q:r.np z - 1=0
  ·rw[if_pos q,if_pos (by simpa using q),append_assoc];rfl
  ·rw[if_neg q,if_neg (by simpa using q)]
structure Mid(N:List NM)(E:Edges)(come l d:List NM)(r:Rep):Prop where
 names:r.names=N
 succ:∀p,r.succ p=sucE E p
 npl:∀y∈l,y∉d->r.np y= -1
 npo:∀y,y∉come->y∉l->r.np y=(lef E (come++d) y:Int)
 rdy:∃R,r.ready=some R∧R.Nodup∧∀y,y∈R↔y∈N∧y∉come∧y∉l∧lef E (come++d) y=0
 pf:r.fin+l.length=r.passed+d.length
 clo:∀y,y∈come∨y∈l->∀p,(y,p)∈E->p∈come
section
variable{N:List NM}{E:Edges}{come l d:List NM}{r:Rep}
theorem mid_got(h:Mid N E come [] [] r)(hl:r.ready=some l):Mid N E come l [] ((r.got l).got []):=by
 obtain⟨R,hR,nd,hm⟩:=h.rdy;rw[hl] at hR;injection hR with hR;subst hR;have np:∀y,((r.got l).got []).np y=if y∈l then -1 else r.np y:=fun y=>by
  show(if y∈([]:List NM) then (-1:Int) else if y∈l then -1 else r.np y)=_;rw[if_neg (fun m=>nomatch m)]
 refine⟨h.names,h.succ,(fun y hy _=>by rw[np,if_pos hy]),(fun y h1 h2=>by rw[np,if_neg h2];exact h.npo y h1 fun m=>nomatch m),⟨[],rfl,.nil,fun y=>⟨(fun m=>nomatch m),fun q=>?_⟩⟩,?_,?_⟩
 ·exact absurd ((hm y).mpr ⟨q.1,q.2.1,(fun m=>nomatch m),q.2.2.2⟩) q.2.2.1
 ·have:=h.pf
  show r.fin+l.length=r.passed+l.length+0+0;simp at this;omega
 ·rintro y (hy|hy) p hp
  ·exact h.clo y (.inl hy) p hp
  ·have:=lef_zero.mp ((hm y).mp hy).2.2.2 p hp
   rwa [append_nil] at this
theorem mid_done{x:NM}(nd:E.Nodup)(hE:∀e∈E,e.1∈N∧e.2∈N)(h:Mid N E come l d r)(hx:x∈l)(hd:x∉d)(hc:x∉come):Mid N E come l (d++[x]) (r.done x):=by
 have sd:(r.succ x).Nodup:=by rw[h.succ];exact suc_nodup nd
 have hs:∀y,y∈r.succ x↔(y,x)∈E:=fun y=>by rw[h.succ];exact mem_suc
 have hout:∀y,y∈come∨y∈l->y∉r.succ x:=fun y hy m=>hc (h.clo y hy x ((hs y).mp m));obtain⟨R,hR,rn,hm⟩:=h.rdy;obtain⟨ea,en,es,ep,ef⟩:=decs_at (r.succ x) (r.putNp x (-2));have np:∀y,y≠x->(r.done x).np y=if y∈r.succ x then r.np y - 1 else r.np y:=fun y hy=>by
  show((r.putNp x (-2)).decs (r.succ x)).np y=_;rw[decs_np _ _ sd];show(if y∈r.succ x then (if y=x then (-2:Int) else r.np y) - 1 else if y=x then -2 else r.np y)=_;rw[if_neg hy]
 have hxc:x∉come++d:=fun m=>(mem_append.mp m).elim hc hd;have la:=fun y=>lef_add hxc y nd;have as:come++(d++[x])=come++d++[x]:=(append_assoc ..).symm;have rd:(r.done x).ready=some (R++(r.succ x).filter fun y=>(r.putNp x (-2)).np y - 1==0):=decs_rdy (r.succ x) (r.putNp x (-2)) R sd hR;refine⟨en.trans h.names,fun p=>(congrFun es p).trans (h.succ p),fun y hy hn=>?_,fun y h1 h2=>?_,⟨_,rd,?_,fun y=>?_⟩,?_,h.clo⟩
 ·have hyx:y≠x:=fun e=>hn (e▸mem_append_right _ (by simp))
  rw[np y hyx,if_neg (hout y (.inr hy))];exact h.npl y hy fun m=>hn (mem_append_left _ m)
 ·have hyx:y≠x:=fun e=>h2 (e▸hx)
  have:=la y;rw[np y hyx,h.npo y h1 h2,as]
  by_cases q:(y,x)∈E
  ·rw[if_pos q] at this
   rw[if_pos ((hs y).mpr q)];omega
  ·rw[if_neg q] at this
   rw[if_neg (fun m=>q ((hs y).mp m))];omega
 ·refine nodup_append.mpr ⟨rn,filter_nodup sd,fun a ha b hb e=>?_⟩
  subst e;have:=lef_zero.mp ((hm a).mp ha).2.2.2 x ((hs a).mp (mem_filter.mp hb).1);exact hxc this
 ·rw[mem_append,mem_filter,hm,as]
  have:=la y
  by_cases hyl:y∈come∨y∈l
  ·constructor
   ·rintro (q|q)
    ·rcases hyl with z|z
     ·exact absurd z q.2.1
     ·exact absurd z q.2.2.1
    ·exact absurd q.1 (hout y hyl)
   ·rintro q
    rcases hyl with z|z
    ·exact absurd z q.2.1
    ·exact absurd z q.2.2.1
  ·have h1:y∉come:=fun m=>hyl (.inl m)
   have h2:y∉l:=fun m=>hyl (.inr m);have hyx:y≠x:=fun e=>h2 (e▸hx);have np':(r.putNp x (-2)).np y=(lef E (come++d) y:Int):=by
    show(if y=x then (-2:Int) else r.np y)=_;rw[if_neg hyx];exact h.npo y h1 h2
   rw[np',hs]
   by_cases q:(y,x)∈E
   ·rw[if_pos q] at this
    constructor
    ·rintro (z|z)
     ·have z4:=z.2.2.2;omega
     ·have z2:((lef E (come++d) y:Int) - 1==0)=true:=z.2
      have z2:(lef E (come++d) y:Int) - 1=0:=by simpa using z2
      exact⟨(hE _ q).1,h1,h2,by omega⟩
    ·rintro z
     refine .inr ⟨q,?_⟩;have z4:=z.2.2.2;have:(lef E (come++d) y:Int) - 1=0:=by omega
     simpa using this
   ·rw[if_neg q] at this
    constructor
    ·rintro (z|z)
     ·exact⟨z.1,h1,h2,by have:=z.2.2.2;omega⟩
     ·exact absurd z.1 q
    ·rintro z
     exact .inl ⟨z.1,h1,h2,by have:=z.2.2.2;omega⟩
 ·have:=h.pf
  have e1:(r.done x).fin=r.fin+1:=rfl;have e2:(r.done x).passed=r.passed:=ep;rw[e1,e2,length_append];simp;omega
theorem mid_dones(nd:E.Nodup)(hE:∀e∈E,e.1∈N∧e.2∈N)(h:Mid N E come l [] r)(ln:l.Nodup)(hc:∀x∈l,x∉come):∀i,i≤l.length->Mid N E come l (l.take i) ((l.take i).foldl Rep.done r)
 |0,_=>h
 |i+1,hi=>by
  have ih:=mid_dones nd hE h ln hc i (by omega);have hx:l[i]? =some l[i]:=getElem?_eq_getElem hi;have htk:l.take (i+1)=l.take i++[l[i]]:=by rw[take_add_one,hx];rfl
  rw[htk,foldl_append];have hm:l[i]∈l:=getElem_mem hi;refine mid_done nd hE ih hm (fun m=>?_) (hc _ hm);have ln':=ln;rw[←take_append_drop (i+1) l,htk] at ln';have:=(nodup_append.mp (nodup_append.mp ln').1).2.2 _ m _ (mem_singleton.mpr rfl);exact this rfl
theorem mid_turn(h:Mid N E come l l r)(hz:r.fin=r.passed):Mid N E (come++l) [] [] r:=by
 obtain⟨R,h1,h2,h3⟩:=h.rdy;refine⟨h.names,h.succ,(fun y m=>nomatch m),fun y h1 _=>?_,⟨R,h1,h2,fun y=>?_⟩,by simpa using hz,fun y hy p hp=>?_⟩
 ·rw[append_nil]
  exact h.npo y (fun m=>h1 (mem_append_left _ m)) fun m=>h1 (mem_append_right _ m)
 ·rw[h3,append_nil,mem_append]
  constructor
  ·rintro ⟨a,b,c,e⟩;exact⟨a,fun m=>m.elim b c,(fun m=>nomatch m),e⟩
  ·rintro ⟨a,b,c,e⟩;exact⟨a,fun m=>b (.inl m),fun m=>b (.inr m),e⟩
 ·rcases hy with hy|hy
  ·exact mem_append_left _ (h.clo y (mem_append.mp hy) p hp)
  ·cases hy
end
theorem perm_nodup{α:Type}[DecidableEq α]:∀{a b:List α},a.Nodup->b.Nodup->(∀x,x∈a↔x∈b)->a.Perm b
 |[],[],_,_,_=>.nil
 |[],y::b,_,_,h=>absurd ((h y).mpr mem_cons_self) (fun m=>nomatch m)
 |x::a,b,ha,hb,h=>by
  have ha:=nodup_cons.mp ha;have hx:x∈b:=(h x).mp mem_cons_self;refine .trans (.cons x (perm_nodup (b:=b.erase x) ha.2 (hb.erase x) fun y=>?_)) (List.perm_cons_erase hx).symm;rw[hb.mem_erase_iff];constructor
  ·exact fun m=>⟨fun e=>ha.1 (by rw[←e];exact m),(h y).mp (mem_cons_of_mem _ m)⟩
  ·exact fun⟨ne,m⟩=>(mem_cons.mp ((h y).mpr m)).resolve_left ne
theorem sortT_congr{a b:List (List Nat)}(h:a.Perm b):sortT a=sortT b:=sortT_unique ((sortT_perm a).trans h) (sortT_sorted a)
theorem dueStep_congr{ns:NN}{c c':List NM}(h:∀x,x∈c↔x∈c'):dueStep ns c=dueStep ns c':=by
 unfold dueStep;simp only[h]
theorem left_congr{ns:NN}{c c':List NM}(h:∀x,x∈c↔x∈c'):Mine.left ns c=Mine.left ns c':=by
 unfold Mine.left;simp only[h]
theorem dueGo_congr{ns:NN}:∀(k:Nat) {c c':List NM},(∀x,x∈c↔x∈c')->dueGo ns k c=dueGo ns k c'
 |0,_,_,_=>rfl
 |k+1,c,c',h=>by
  rw[dueGo,dueGo,dueStep_congr h,dueGo_congr k (c:=c++dueStep ns c') (c':=c'++dueStep ns c') fun x=>by rw[mem_append,mem_append,h]]
def Kv(N:List NM)(E:Edges)(ns:NN)(m:Nat)(r:Rep)(rs:List (List NM)):Prop:=
 ∃come:List NM,come.Nodup∧(∀y∈come,y∈N)∧Mid N E come [] [] r∧m+come.length=N.length∧rs.length≤come.length∧(rs.map List.length).sum=come.length∧rs++dueGo ns (Mine.left ns come+1) come=dueF ns∧
  ∃lv:NM->Nat,(∀y∈come,lv y<rs.length)∧∀y∈come,∀p,(y,p)∈E->lv p<lv y
structure EdgesOk(js:NJ)(N:List NM)(E:Edges):Prop where
 nd:N.Nodup
 mem:∀x,x∈N↔x∈js.map (·.1)
 en:E.Nodup
 ends:∀e∈E,e.1∈N∧e.2∈N
 edge:∀j∈js,∀p,(j.1,p)∈E↔p∈needsOf js j
section
variable{js:NJ}{N:List NM}{E:Edges}{r:Rep}{rs:List (List NM)}{m:Nat}
theorem EdgesOk.len(h:EdgesOk js N E)(ok:JobsOk js):N.length=js.length:=by
 have h1:=nodup_len h.nd fun x m=>(h.mem x).mp m;have h2:=nodup_len ok.nodup fun x m=>(h.mem x).mpr m;rw[length_map] at h1 h2;omega
theorem due_ready(h:EdgesOk js N E)(ok:JobsOk js){come l:List NM}(M:Mid N E come [] [] r)(hl:r.ready=some l):dueStep (needsN js) come=sortT l:=by
 obtain⟨R,hR,rn,hm⟩:=M.rdy;rw[hl] at hR;injection hR with hR;subst hR;unfold dueStep;refine sortT_congr (perm_nodup ?_ rn fun x=>?_)
 ·unfold needsN
  rw[List.filter_map,map_map];exact List.Nodup.sublist (List.Sublist.map _ List.filter_sublist) ok.nodup
 ·rw[hm,append_nil,lef_zero,h.mem,mem_map]
  constructor
  ·rintro ⟨p,hp,rfl⟩
   have hp:=mem_filter.mp hp;obtain⟨j,hj,rfl⟩:=mem_map.mp hp.1;obtain⟨h1,h2⟩:=(Bool.and_eq_true ..).mp hp.2;refine⟨mem_map_of_mem hj,by simpa using h1,(fun m=>nomatch m),fun q hq=>?_⟩;have h2:=List.isEmpty_iff.mp h2;have h2:=filter_eq_nil_iff.mp h2 q ((h.edge j hj q).mp hq);simpa using h2
  ·rintro ⟨h1,h2,_,h3⟩
   obtain⟨j,hj,rfl⟩:=mem_map.mp h1;refine⟨(j.1,needsOf js j),mem_filter.mpr ⟨mem_map.mpr ⟨j,hj,rfl⟩,?_⟩,rfl⟩;rw[Bool.and_eq_true];refine⟨by simpa using h2,List.isEmpty_iff.mpr (filter_eq_nil_iff.mpr fun q hq=>?_)⟩;have:=h3 q ((h.edge j hj q).mpr hq);simpa using this
theorem kv_ok(h:EdgesOk js N E)(ok:JobsOk js):TurnsOk (Kv N E (needsN js)) where
 step:=by
  rintro m r rs ⟨come,cn,cs,M,hm,hr,hsum,hdue,lv,lv1,lv2⟩
  obtain⟨l,hl,ln,hmem⟩:=M.rdy;have hN:N.length≤8:=by rw[h.len ok];exact ok.len
  have hlN:∀x∈l,x∈N:=fun x m=>((hmem x).mp m).1;have hl8:l.length≤8:=Nat.le_trans (nodup_len ln hlN) hN;have hc8:=nodup_len cn cs;have hlc:∀x∈l,x∉come:=fun x m=>((hmem x).mp m).2.1;have pf:=M.pf;have pf:r.fin=r.passed:=by simpa using pf
  refine⟨l,hl,hl8,by omega,fun x m=>by rw[M.names];exact hlN x m,?_,fun hne=>?_⟩
  ·have e:decide (r.fin<r.passed)=false:=decide_eq_false (by omega)
   rw[e];rfl
  have G:=mid_got M hl;have D:=mid_dones h.en h.ends G ln hlc;refine⟨fun i x hx=>?_,?_⟩
  ·have hi:i<l.length:=by
    rcases Nat.lt_or_ge i l.length with z|z
    ·exact z
    ·rw[getElem?_eq_none z] at hx;cases hx
   have Di:=D i (by omega);have hxl:x∈l:=mem_of_getElem? hx;have hxd:x∉l.take i:=fun m=>by
    have ln':=ln;have htk:l.take (i+1)=l.take i++[x]:=by rw[take_add_one,hx];rfl
    rw[←take_append_drop (i+1) l,htk] at ln';exact(nodup_append.mp (nodup_append.mp ln').1).2.2 _ m _ (mem_singleton.mpr rfl) rfl
   have hs:∀y∈r.succ x,y∈N:=fun y m=>by
    rw[M.succ] at m;exact(h.ends _ (mem_suc.mp m)).1
   have sn:(r.succ x).Nodup:=by rw[M.succ];exact suc_nodup h.en
   have hs8:=nodup_len sn hs;refine⟨Di.npl x hxl hxd,fun y m=>by rw[M.names];exact hs y m,?_⟩;obtain⟨R,hR,rn,hRm⟩:=Di.rdy;have hR8:=nodup_len rn fun y m=>((hRm y).mp m).1;exact⟨R,hR,by omega⟩
  ·have Dl:=D l.length (Nat.le_refl _)
   rw[take_length] at Dl;have pf2:(r.turn l).fin=(r.turn l).passed:=by
    have:=Dl.pf;show(l.foldl Rep.done ((r.got l).got [])).fin=(l.foldl Rep.done ((r.got l).got [])).passed;omega
   have T:Mid N E (come++l) [] [] (r.turn l):=mid_turn Dl pf2;have cn':(come++l).Nodup:=nodup_append.mpr ⟨cn,ln,fun a ha b hb e=>hlc b hb (e▸ha)⟩;have cs':∀y∈come++l,y∈N:=fun y m=>(mem_append.mp m).elim (cs y) (hlN y);have hc8':=nodup_len cn' cs';have lpos:0<l.length:=length_pos_iff.mpr hne;have ds:=due_ready h ok M hl;have dne:dueStep (needsN js) come≠[]:=fun e=>by
    rw[e] at ds;have:=(sortT_perm l).length_eq;rw[←ds] at this;simp at this;omega
   have hcongr:∀x,x∈come++dueStep (needsN js) come↔x∈come++l:=fun x=>by
    rw[mem_append,mem_append,ds,(sortT_perm l).mem_iff]
   have hlt:=left_lt dne;refine⟨m - l.length,?_,come++l,cn',cs',T,?_,?_,?_,?_,fun y=>if y∈come then lv y else rs.length,fun y hy=>?_,fun y hy p hp=>?_⟩
   ·rw[length_append] at hc8';omega
   ·rw[length_append] at hc8' ⊢;omega
   ·rw[length_append,length_append];simp;omega
   ·rw[map_append,sum_append,hsum,length_append]
    have:=(sortT_perm l).length_eq;simp[this]
   ·rw[dueGo,if_neg dne] at hdue
    rw[←hdue,append_assoc,ds]
    congr 1
    show sortT l::dueGo _ _ _=sortT l::dueGo _ _ _
    congr 1
    rw[←ds,←dueGo_congr _ hcongr];rw[←left_congr hcongr];exact dueGo_fuel _ _ _ (by omega) (by omega)
   ·rw[length_append]
    show(if y∈come then lv y else rs.length)<rs.length+1;split
    ·next q=>have:=lv1 y q;omega
    ·omega
   ·have hpc:p∈come:=by
     rcases mem_append.mp hy with hy|hy
     ·exact M.clo y (.inl hy) p hp
     ·have:=lef_zero.mp ((hmem y).mp hy).2.2.2 p hp
      rwa [append_nil] at this
    show(if p∈come then lv p else rs.length)<if y∈come then lv y else rs.length;rw[if_pos hpc];split
    ·next q=>exact lv2 y q p hp
    ·exact lv1 p hpc
theorem kv_start{a:Addr}(h:EdgesOk js N E)(ok:JobsOk js)(hn:r.names=N)(hnp:∀x,r.np x=(cnt E x:Int))(hs:∀p,r.succ p=sucE E p)(h1:r.passed=0)(h2:r.fin=0):Kv N E (needsN js) N.length (r.begin a) []:=by
 refine⟨[],.nil,(fun y m=>nomatch m),⟨hn,hs,(fun y m=>nomatch m),fun y _ _=>?_,⟨_,rfl,?_,fun y=>?_⟩,?_,fun y hy=>?_⟩,rfl,Nat.le_refl _,rfl,?_,fun _=>0,(fun y m=>nomatch m),fun y m=>nomatch m⟩
 ·show r.np y=_
  rw[hnp,append_nil,lef_nil]
 ·show(r.names.filter _).Nodup
  rw[hn];exact filter_nodup h.nd
 ·show y∈r.names.filter (fun x=>r.np x==0)↔_
  rw[mem_filter,hn,append_nil,lef_nil,hnp];constructor
  ·rintro ⟨a,b⟩
   exact⟨a,(fun m=>nomatch m),(fun m=>nomatch m),by simpa using b⟩
  ·rintro ⟨a,_,_,b⟩
   exact⟨a,by simpa using b⟩
 ·show r.fin+0=r.passed+0
  rw[h1,h2]
 ·rcases hy with hy|hy<;> cases hy
 ·have h1:Mine.left (needsN js) []≤(needsN js).length:=length_filter_le ..
  rw[List.nil_append,dueF];exact dueGo_fuel _ _ _ (by omega) (by omega)
theorem topo_rank{succ:NM->List NM}:∀{dn:List NM},Topo succ dn->∃lv:NM->Nat,∀x∈dn,∀y∈succ x,y∈dn∧lv x<lv y
 |[],_=>⟨fun _=>0,fun x m=>nomatch m⟩
 |x::dn,⟨h1,h2⟩=>by
  obtain⟨lv,h⟩:=topo_rank h2;refine⟨fun z=>if z∈dn then lv z+1 else 0,fun z hz y hy=>?_⟩
  by_cases q:z∈dn
  ·obtain⟨a,b⟩:=h z q y hy
   refine⟨mem_cons_of_mem _ a,?_⟩;show(if z∈dn then lv z+1 else 0)<if y∈dn then lv y+1 else 0;rw[if_pos q,if_pos a];omega
  ·have e:=(mem_cons.mp hz).resolve_right q
   subst e;have a:=h1 y hy;refine⟨mem_cons_of_mem _ a,?_⟩;show(if z∈dn then lv z+1 else 0)<if y∈dn then lv y+1 else 0;rw[if_neg q,if_pos a];omega
theorem kv_end(h:EdgesOk js N E)(ok:JobsOk js)(hk:Kv N E (needsN js) m r rs)(hr:r.ready=some []):rs=dueF (needsN js)∧(rs.length≤js.length∧(rs.map List.length).sum≤js.length)∧(Acyc (sucE E) N->(rs.map List.length).sum=js.length)∧(Ringed (sucE E) N->(rs.map List.length).sum<js.length):=by
 obtain⟨come,cn,cs,M,hm,hrl,hsum,hdue,lv,lv1,lv2⟩:=hk;have ds:=due_ready h ok M hr;have e0:sortT ([]:List NM)=[]:=List.Perm.eq_nil (sortT_perm []);rw[e0] at ds;rw[dueGo,if_pos ds,append_nil] at hdue;have hle:=nodup_len cn cs;have hNl:=h.len ok;refine⟨hdue,⟨by omega,by omega⟩,fun ha=>?_,fun hg=>?_⟩
 ·obtain⟨dn,hd,ht⟩:=ha
  obtain⟨rk,hrk⟩:=topo_rank ht;obtain⟨R,hR,_,hmem⟩:=M.rdy;rw[hr] at hR;injection hR with hR;subst hR;have all:∀(k:Nat) (y:NM),rk y=k->y∈N->y∈come:=fun k=>by
   induction k using Nat.strongRecOn with
   |ind k ih=>
    intro y hy hyN;rcases Classical.em (y∈come) with q|q
    ·exact q
    exfalso;have:lef E come y≠0:=fun z=>by
     have:=(hmem y).mpr ⟨hyN,q,(fun m=>nomatch m),by rw[append_nil];exact z⟩;cases this
    refine this (lef_zero.mpr fun p hp=>?_);have hpN:=(h.ends _ hp).2;have:=(hrk p (hd p hpN) y (mem_suc.mpr hp)).2;exact ih (rk p) (by omega) p rfl hpN
  have:=nodup_len h.nd fun y m=>all _ y rfl m;rw[hsum,←h.len ok];omega
 ·rw[hsum,←h.len ok]
  rcases Nat.lt_or_ge come.length N.length with q|q
  ·exact q
  exfalso;have all:∀y∈N,y∈come:=fun y hy=>by
   rcases Classical.em (y∈come) with z|z
   ·exact z
   have:=nodup_len (l:=y::come) (m:=N) (nodup_cons.mpr ⟨z,cn⟩) fun x m=>(mem_cons.mp m).elim (fun e=>e▸hy) (cs x);rw[length_cons] at this;omega
  refine hg lv fun x hx y hy=>?_;have he:=mem_suc.mp hy;exact lv2 y (all y (h.ends _ he).1) x he
end
theorem edges_ok{js:NJ}(ok:JobsOk js):EdgesOk js (Abs.all js).names (edges js):=by
 obtain⟨h1,h2⟩:=inv_all js;refine⟨h1.nd,h2,edges_nodup ok.nodup,(eok_all js).ends,fun j hj p=>?_⟩;rw[mem_edges ok.nodup];constructor
 ·rintro ⟨j',hj',e,hp⟩
  have:j'=j:=by
   have nd:=ok.nodup;clear hp h1 h2;have aux:∀(l:NJ),(l.map (·.1)).Nodup->j∈l->j'∈l->j'=j:=fun l=>by
    induction l with
    |nil=>exact fun _ m=>nomatch m
    |cons a l ih=>
     intro h m m';have h:=nodup_cons.mp h;rcases mem_cons.mp m with rfl|m1<;> rcases mem_cons.mp m' with rfl|m2
     ·rfl
     ·exact absurd (show j.1∈l.map (·.1) by rw[←e];exact mem_map_of_mem m2) h.1
     ·exact absurd (show j'.1∈l.map (·.1) by rw[e];exact mem_map_of_mem m1) h.1
     ·exact ih h.2 m1 m2
   exact aux js nd hj hj'
  exact this▸hp
 ·exact fun hp=>⟨j,hj,rfl,hp⟩
theorem rounds_plain{js:NJ}(ok:JobsOk js){r:Rep}{a:Addr}(habs:r.abs=Abs.all js)(h1:r.passed=0)(h2:r.fin=0):
  ∃Kw m0,TurnsOk Kw∧Kw m0 (r.begin a) []∧∀m r' rs,Kw m r' rs->r'.ready=some []->rs=dueF (needsN js)∧(rs.length≤js.length∧(rs.map List.length).sum≤js.length)∧(Acyc r.succ r.names->(rs.map List.length).sum=js.length)∧(Ringed r.succ r.names->(rs.map List.length).sum<js.length):=by
 have E:=eok_all js;have h:=edges_ok ok;have hs:r.succ=sucE (edges js):=by
  funext p
  have:r.abs.succ p=sucE (edges js) p:=by rw[habs];exact E.succ p
  exact this
 have hn:r.names=(Abs.all js).names:=congrArg Abs.names habs;refine⟨Kv (Abs.all js).names (edges js) (needsN js),_,kv_ok h ok,kv_start h ok hn (fun x=>?_) (fun p=>by rw[hs]) h1 h2,fun m r' rs hk hr=>?_⟩
 ·have:r.abs.np x=(cnt (edges js) x:Int):=by rw[habs];exact E.np x
  exact this
 ·rw[hs,hn];exact kv_end h ok hk hr
section
variable{K:Frag}
theorem op_powI{a k:Int}(h0:0≤k)(hz:(Builtin.Int.intBits a:Int)*k≤2 ^ 27):OpBin Z w H0 n (binaryOp .Pow) (.d (.int a)) (.d (.int k)) (Rd (.int (a ^ k.toNat))):=by
 intro A s η u v g B ra rb;obtain⟨t,rfl⟩:=rd_int ra;obtain⟨t',rfl⟩:=rd_int rb;exact pow_int h0 hz (Pu.tok (int_rd _ _ _))
theorem strs_values:∀{vs:List Value} {ss:List Str},StrsAre vs ss->∃l:List (Str×Tok),vs=strValues l∧l.map (·.1)=ss
 |[],[],_=>⟨[],rfl,rfl⟩
 |[],_::_,h=>by cases h
 |_::_,[],h=>by cases h
 |v::vs,x::ss,h=>by
  obtain⟨t,rfl⟩:∃t,v=.str x t:=by
   have:=strsAre_f2 (g:=default) h;cases this with
   |cons a b=>obtain⟨t,rfl⟩:=rd_str a;exact⟨t,rfl⟩
  obtain⟨l,rfl,e⟩:=strs_values (vs:=vs) (ss:=ss) (strsAre_of (g:=default) (by
   have:=strsAre_f2 (g:=default) h;cases this with
   |cons a b=>exact b))
  exact⟨(x,t)::l,rfl,by rw[map_cons,e]⟩
theorem ev_joinE{arg:Expr}{pa pos pc:Pos}{k:Nat}{ss:List Str}{sep:Str}(ha:EvE Z w H0 n sc σ δ arg (.d (.list (ss.map .str))))(h1:Builtin.Str.tooLong (ss.toArray.foldl (·+ ·.length+sep.length) 0)=false)(h2:(Txt.join sep ss).length≤sizeLine)
  (hbase:∀V,attributeBase (.Constant (.str sep) k pc) "join" V (eval (.Constant (.str sep) k pc) V)=eval (.Constant (.str sep) k pc) V)(hline:(pa.endLine==pos.line)=true)(hs:∀V,starEach [arg] V=[(false,eval arg V)]):
  EvE Z w H0 n sc σ δ (.Call (.Attribute (.Constant (.str sep) k pc) "join" pa) [arg] [] pos) (.d (.str (Txt.join sep ss))):=by
 intro A V s η g o F;refine Call_method1 (hbase _) (hs V) hline (Constant_str ⟨"str","str.join",PySem.F.plainAttrs_str,PySem.F.slot_str_join,PySem.F.type_str_join,typeIs_str _ _ _,(fun a e=>by cases e),?_⟩);refine callWith_builtin rfl (evalArgs_plain (spliced_cons (seqP (ha A V {s with toks:=s.toks+1} η g o F) fun u s2 q2=>spliced_nil ?_)));obtain⟨l,vs,rfl,hl,f⟩:=rd_list q2.val;obtain⟨ps,rfl,e⟩:=strs_values (strsAre_of f);subst e;obtain⟨h',t',rfl,ex,_⟩:=q2;refine call_meets PySem.F.slot_str_join (typeIs_str _ _ _) PySem.F.entry_str_join (PySem.F.args_str_join_2 _ _) (meets_str_join_list _ _ _ ps h1) ⟨isList_ext (vis_to _ _) hl,?_⟩;refine post_join (Q:=fun v s'=>wants (Pu s η (Rd (.str (Txt.join sep (ps.map (·.1)))))) NoE (.ok (.ret v)) s') ps ⟨h2,fun t k=>?_⟩;exact⟨h',k,rfl,ex,str_rd _ _ _⟩
theorem ev_dget{e1 e2 D:Expr}{pa pos dp p1 p2 p3 p4:Pos}{k1 k2 k3 k4:Nat}{c:Nat}(hsm:∃o,H0.get? mainGlobals=some o)(hc:isSign c)(h1:EvE Z w H0 n sc σ δ e1 (.d (.str (sg c))))(h2:EvE Z w H0 n sc σ δ e2 (.d (.str (sg c))))
  (hD:D=.Dict [some (.Constant (.str (S "*")) k1 p1),some (.Constant (.str (S "?")) k2 p2)] [.Constant .none k3 p3,.Constant (.str (S "any")) k4 p4] dp)(hbase:∀V,attributeBase D "get" V (eval D V)=eval D V)(hline:(pa.endLine==pos.line)=true)(hs:∀V,starEach [e1,e2] V=[(false,eval e1 V),(false,eval e2 V)]):
  EvE Z w H0 n sc σ δ (.Call (.Attribute D "get" pa) [e1,e2] [] pos) (.d (dPart (partOf c))):=by
 intro A V s η g o F;refine Call_method2 (hbase V) (hs V) hline ?_;subst hD;refine wpAny_Dict_walk (knd:=skd Z w) (by rfl) (by rfl) (by simp) (by simp) ?_;refine pairTrees_cons_walk (Constant_str (wpAny_pure (pairTrees_cons_walk (Constant_str (Constant_str (pairTrees_nil_walk ?_))))));have hd0:(s.heap.push {cls:=.type "dict",data:=.dict #[]}).DictOf (skd Z w) s.heap.objs.size []:=Heap.DictOf.new _;refine⟨[(S "*",.none),(S "?",.str (S "any") (s.toks+1+1))],⟨skd_is _ _,rfl,skd_is _ _,rfl,trivial⟩,hd0,fun h' hD hsb=>?_⟩;have ex:Ext s.heap h':=fun b ob eb=>sameBut_keep hsb b ob (fun m=>Nat.lt_irrefl s.heap.objs.size (by have:=Heap.lt_size eb;rwa [mem_singleton.mp m] at this)) (Heap.get?_push_of_some _ eb);have lo:(s.heap.objs.size==sysModules)=false:=above_sys (hm:=hsm) F.toBase;have F1:=F.ext ex;refine⟨"dict","dict.get",PySem.F.plainAttrs_dict,PySem.F.slot_dict_get,PySem.F.type_dict_get,hD.typeIs,hD.mapOf.noDict,?_⟩;refine callWith_builtin rfl (evalArgs_plain (spliced_cons (seqP (h1 A V _ η g o F1) fun u s2 q2=>?_)));have F2:=F1.ext q2.ext;refine spliced_cons (seqP (h2 A V s2 η g o F2) fun u2 s3 q3=>spliced_nil ?_);obtain⟨t,rfl⟩:=rd_str q2.val;obtain⟨t',rfl⟩:=rd_str q3.val;have hD3:s3.heap.DictOf (skd Z w) s.heap.objs.size _:=let⟨oo,es,ep,e,r⟩:=hD;⟨oo,es,ep,q3.ext _ _ (q2.ext _ _ e),r⟩;refine call_meetsIn PySem.F.slot_dict_get hD3.typeIs PySem.F.entry_dict_get (PySem.F.args_dict_get_3 _ _ _) (meets_dict_get_default (skd Z w) _ (skd_is (sg c) t) lo _) ⟨_,hD3.mapOf,?_⟩;show Pu s η (Rd (dPart (partOf c))) _ _;refine Pu.trans (P:=fun _ _=>True) (a:=()) ⟨h',_,rfl,ex,trivial⟩ ((q2.trans q3).trans (Pu.tok ?_));rcases hc with rfl|rfl|rfl|rfl
 ·exact str_rd _ _ _
 ·exact str_rd _ _ _
 ·exact str_rd _ _ _
 ·exact⟨[],.none⟩
theorem ev_replaceJ{value:Expr}{pa pos p1 p2:Pos}{k1 k2:Nat}{x y z:Str}(hv:EvE Z w H0 n sc σ δ value (.d (.str x)))(hyz:(y==z)=false)(hb:x.length+(x.length+1)*z.length≤16777216)
  (hbase:∀V,attributeBase value "replace" V (eval value V)=eval value V)(hline:(pa.endLine==pos.line)=true):
  EvPj 1 Z w H0 n sc σ δ (.Call (.Attribute value "replace" pa) [.Constant (.str y) k1 p1,.Constant (.str z) k2 p2] [] pos) (Rd (.str (Txt.replace x y z))):=by
 intro A V s η hj g o F;refine Call_method2 (hbase V) rfl hline (wpAny_mono (wpAny_toks (k:=1) hj (hv A V s η g o F)) (fun v s₁ q=>?_) fun _ _ f=>f.elim);obtain⟨hj1,q⟩:=q;obtain⟨t,rfl⟩:=rd_str q.val;refine⟨"str","str.replace",PySem.F.plainAttrs_str,PySem.F.slot_str_replace,PySem.F.type_str_replace,typeIs_str _ _ _,(fun a e=>by cases e),?_⟩;refine callWith_builtin rfl (evalArgs_plain (spliced_cons (Constant_str (spliced_cons (Constant_str (spliced_nil ?_))))));refine SC.replace (Nat.ne_of_gt hj1) (Nat.succ_ne_zero _) (Nat.ne_of_lt (Nat.lt_succ_self _)) hyz hb fun t' k=>?_;exact q.trans ⟨s₁.heap,k,rfl,Ext.refl _,str_rd _ _ _⟩
end
section
variable{K:Frag}{j:Nat}
theorem it_ofJ{target iter:Expr}{x:Ent}{ds:List Ent}(hi:EvPj j Z w H0 n sc σ δ iter (fun g v=>Means g v x))(h:SrcV Z w H0 n x ds)(htg:isTarget target):ItPj j Z w H0 n sc σ δ target iter ds:=by
 intro A V s η hj g o F;refine seqP (hi A V s η hj g o F) fun v s₁ q=>?_;refine wpAny_mono (h A s₁ η v g (F.ext q.ext).toBase q.val) (fun it s2 q2=>?_) fun _ _ f=>f;obtain⟨h₁,t₁,rfl,ex1,_⟩:=q;obtain⟨I,fp,wr,St,h2,tk,a,rfl,c,S,d,e,f⟩:=q2;have fr:∀b∈wr,s.heap.get? b=none:=fun b hb=>by
  cases q:s.heap.get? b with
  |none=>rfl
  |some o=>have:=e b hb;rw[ex1 _ _ q] at this;cases this
 exact⟨I,fp,wr,St,h2,tk,vis h₁ η,a,rfl,ex1.trans c,fun η' hw=>S.toT htg hw,d,fr,fun b hb=>⟨let⟨_,q⟩:=(f b hb).1;Heap.lt_size q,fun m=>(f b hb).2 m⟩,vis_more c e⟩
theorem append_CoPj{elt:Expr}{xs:List Str}{b:List PyData}{d:PyData}(h:EvPj j Z w H0 n sc σ δ elt (Rd d))(hz:b.length≤sizeLine):
  CoPj j Z w H0 n sc σ δ xs listK (fun V acc=>do let _ ←call (.builtin "list.append") [acc,←eval elt V]) b (b++[d]):=by
 intro A V s η D hj g o F hD hoff hK;refine wpAny_bind (seqP (h A V s η hj g o F) fun v s₁ q=>?_);obtain⟨h₁,t₁,rfl,ex,r⟩:=q;obtain⟨vs,hl,f⟩:=hK;refine wpAny_bind (wpAny_list_append (isList_ext ex hl) (fun h2 hl2 hs=>?_) (by rw[size_toArray,f.length];exact hz));refine wpAny_pure ?_;have k:=sameBut_keep hs;have vk:Ext (vis h₁ η) (vis h2 η):=vis_keepBut (fun a m=>by rw[mem_singleton.mp m];exact hD) k;refine⟨h2,t₁,rfl,(ex.keep _).trans (k.more fun a m=>by rw[mem_singleton.mp m];exact mem_cons_self),?_,?_⟩
 ·refine(F.ext ex).keepBut k (fun a m=>by rw[mem_singleton.mp m];exact hD) (fun a m=>by rw[mem_singleton.mp m];exact⟨hoff.1,hoff.2.1,hoff.2.2⟩) (fun a m=>?_)
  rw[mem_singleton.mp m];obtain⟨oo,e,_⟩:=hl2;exact⟨oo,e⟩
 ·refine⟨vs++[v],by simpa using hl2,?_⟩
  exact(f.imp fun _ _ q=>(q.ext (vis_ext η ex)).ext vk).append (.cons (r.ext vk) .nil)
theorem ev_lcJ{α:Type}{items:List α}{enc:α->Ent}(f:α->PyData){y:Str}{iter elt:Expr}{py:Pos}{scope:Scope}{pos:Pos}
  (hok:compOk sc scope=true)(hxs:scope.names.lookup y=some .local∨scope.names.lookup y=some .cell)(hs:∀V x,foldedSetIterable iter V x=pure x)
  (hi:ItPj j Z w H0 n sc σ δ (.Name y py) iter (items.map enc))(hz:items.length≤sizeLine)(hy:settable (scIn sc scope) y)(hn:(stoIn scope σ).lookup y=none)
  (turn:∀a∈items,EvPj j Z w H0 n (scIn sc scope) ((y,enc a)::stoIn scope σ) δ elt (Rd (f a))):EvPj j Z w H0 n sc σ δ (.ListComp elt [⟨.Name y py,iter,[],0⟩] scope pos) (Rd (.list (items.map f))):=by
 refine ev_compJ (K:=listK) (xs:=[y]) (fun i=>(items.take i).map f) (form_lc1 (.inl ⟨_,_,rfl⟩)) rfl hok (fun x m=>by rw[mem_singleton.mp m];exact hxs) (by simpa using newAcc_list) (fun V=>rfl) hs hi (fun i x hx=>?_) fun h η D hD hK=>?_
 ·rw[getElem?_map] at hx
  cases ha:items[i]? with
  |none=>rw[ha] at hx;simp at hx
  |some a=>
   rw[ha] at hx;simp at hx;subst hx;have hm:a∈items:=mem_of_getElem? ha;have e:(items.take (i+1)).map f=(items.take i).map f++[f a]:=by rw[take_add_one,ha,map_append];rfl
   refine⟨[(y,enc a)],true,as_name hy,fun z hz=>hz,fun z hz=>by rw[mem_singleton.mp hz];exact hn,ifs_nil,fun _=>?_,fun q=>by cases q⟩;show CoPj _ _ _ _ _ _ _ _ _ _ _ _ ((items.take (i+1)).map f);rw[e];exact append_CoPj (turn a hm) (by rw[length_map,length_take];exact Nat.le_trans (Nat.min_le_right _ _) hz)
 ·have:=listK_rd hD hK
  rwa [length_map,take_length] at this
theorem evj_of{e:Expr}{P:Heap->Value->Prop}(h:EvP Z w H0 n sc σ δ e P):EvPj j Z w H0 n sc σ δ e P:=fun A V s η _=>h A V s η
def HXj(j:Nat)(x:Bool)(Z:Program)(w:World)(H0:Heap)(n:Nat)(sc:Scope)(σ:Sto)(δ:Led)(sts:List Stmt)(Ψ:PostS):Prop:=
 ∀A V ω s η,j≤s.toks->Good n A->EnvOk sc V->Fm H0 η δ V σ s.heap->Fk x A V ω η s.heap->Off2 ω V δ->wpAny (model Z w) A (execs sts V) (GPf H0 s η V δ (frs ω) Ψ) NoE s
variable{x:Bool}
theorem hxj_of{sts:List Stmt}{Ψ:PostS}(h:HX x Z w H0 n sc σ δ sts Ψ):HXj j x Z w H0 n sc σ δ sts Ψ:=fun A V ω s η _=>h A V ω s η
theorem hxj_step{st:Stmt}{rest:List Stmt}{σ₁:Sto}{δ₁:Led}{Φ:PostS}(h:HT x Z w H0 n sc σ δ st (nextIs σ₁ δ₁))(hr:HXj j x Z w H0 n sc σ₁ δ₁ rest Φ):HXj j x Z w H0 n sc σ δ (st::rest) Φ:=by
 intro A V ω s η hj g o F K O;refine wpAny_execs_cons (wpAny_mono (wpAny_toks hj (h A V ω s η g o F K O)) (fun fl s₁ q=>?_) fun _ _ f=>f);obtain⟨hj1,q⟩:=q;have e:fl=.next:=by obtain⟨_,_,_,_,_,_,_,_,_,_,_,p⟩:=q;exact p.1
 subst e;exact q.then F K O fun η1 σ₁ δ₁ F1 K1 O1 p1 _=>by obtain⟨_,rfl,rfl⟩:=p1;exact hr A V ω s₁ η1 hj1 g o F1 K1 O1
theorem hxj_ifne{l r:Expr}{body rest:List Stmt}{p pos:Pos}{a b:PyData}{Φ:PostS}(hl:EvE Z w H0 n sc σ δ l (.d a))(hr:EvPj j Z w H0 n sc σ δ r (Rd b))(ha:fine a=true)(hb:fine b=true)(he:PySem.Spec.same a b=true)(hm:behindInMarks .NotEq r=false)
  (h:HXj j x Z w H0 n sc σ δ rest Φ):HXj j x Z w H0 n sc σ δ (.If (.Compare l [.NotEq] [r] p) body [] pos::rest) Φ:=by
 intro A V ω s η hj g o F K O;have key:wpAny (model Z w) A (isTrue (.Compare l [.NotEq] [r] p) V (eval (.Compare l [.NotEq] [r] p) V)) (fun c s'=>j≤s'.toks∧Pu s η (fun _ c=>c=false) c s') NoE s:=by
  refine wpAny_toks hj (wpAny_isTrue_Compare1 (wpAny_mono (wpAny_toks hj (hl A V s η g o F)) (fun u s₁ q1=>?_) fun _ _ f=>f.elim) hm);obtain⟨hj1,q1⟩:=q1;have F1:=F.ext q1.ext;refine seqP (hr A V s₁ η hj1 g o F1) fun c s2 q2=>?_;refine seqP (op_neD (n:=n) ha hb A s2 η u c g (F1.ext q2.ext).toBase (q1.val.ext (vis_ext η q2.ext)) q2.val) fun v s3 q3=>?_;have:=rd_bool q3.val;rw[he] at this;subst this;exact wpAny_truthy_bool (((q1.trans q2).trans q3).trans (Pu.here rfl))
 refine wpAny_execs_cons (wpAny_If (wpAny_mono key (fun c s₁ q=>?_) fun _ _ f=>f));obtain⟨hj1,q⟩:=q;have e:=q.val;subst e;refine wpAny_execs_nil ?_;have q':GPf H0 s η V δ (frs ω) (nextIs σ δ) Flow.next s₁:=by
  obtain⟨h',tk,rfl,ex,_⟩:=q;exact⟨h',tk,η,σ,δ,rfl,.of_but (ex.keep _) O,F.ext ex,fun _ m=>m,fun _ m=>.inl m,fun p m=>.inl (mem_map_of_mem m),rfl,rfl,rfl⟩
 exact q'.then F K O fun η1 σ₁ δ₁ F1 K1 O1 p1 _=>by obtain⟨_,rfl,rfl⟩:=p1;exact h A V ω s₁ η1 hj1 g o F1 K1 O1
theorem hx_setT{e2:Expr}{y c:Str}{k:Nat}{py pos p1 p2:Pos}{rest:List Stmt}{d:PyData}{Φ:PostS}(h2:EvE Z w H0 n sc σ δ e2 (.d d))(hr:HXj 1 x Z w H0 n sc ((y,.d (.list [.str c,d]))::σ) δ rest Φ)(hy:settable sc y)
  (hs:∀V,EnvOk sc V->swapsWith (.List [.Constant (.str c) k p1,e2] p2) (some (.Name y py)) pos.line V=pure false)(hw:∀V,EnvOk sc V->swappedStores [.Name y py] (.List [.Constant (.str c) k p1,e2] p2) V=pure none)
  (hb:∀V,backTo p2 (starEach [.Constant (.str c) k p1,e2] V)=[(false,eval (.Constant (.str c) k p1) V),(false,eval e2 V)]):
  HX x Z w H0 n sc σ δ (.Assign [.Name y py] (.List [.Constant (.str c) k p1,e2] p2) pos::rest) Φ:=by
 intro A V ω s η g o F K O;have key:wpAny (model Z w) A (exec (.Assign [.Name y py] (.List [.Constant (.str c) k p1,e2] p2) pos) V) (fun fl s'=>1≤s'.toks∧GPf H0 s η V δ (frs ω) (nextIs ((y,.d (.list [.str c,d]))::σ) δ) fl s') NoE s:=by
  show wpAny _ A (standAt pos >>=fun _=>swapsWithSole [.Name y py] (.List [.Constant (.str c) k p1,e2] p2) pos.line V >>=fun b=>if b=true then _ else _) _ _ s;refine wpAny_bind (wpAny_standAt (wpAny_bind ?_));show wpAny _ A (swapsWith (.List [.Constant (.str c) k p1,e2] p2) (some (.Name y py)) pos.line V) _ _ s;rw[hs V o];refine wpAny_pure ?_;rw[if_neg Bool.false_ne_true];refine wpAny_bind (List_ ?_);rw[hb];refine spliced_cons (Constant_str (spliced_cons (wpAny_mono (wpAny_toks (k:=1) (Nat.succ_le_succ (Nat.zero_le s.toks)) (h2 A V {s with toks:=s.toks+1} η g o F)) (fun v s₁ q=>?_) fun _ _ f=>f.elim)));obtain⟨hj1,q⟩:=q;have F1:Fm H0 η δ V σ s₁.heap:=F.ext q.ext;refine spliced_nil (wpAny_mono (wpAny_toks hj1 (newList_P (vs:=[.str c s.toks,v]) (ds:=[.str c,d]) F1.toBase (.cons (str_rd _ _ _) (.cons q.val .nil)) (by show(2:Nat)≤sizeLine;decide))) (fun u s2 q2=>?_) fun _ _ f=>f.elim);obtain⟨hj2,q2⟩:=q2;have F2:=F1.ext q2.ext;refine wpAny_bind ?_;rw[hw V o];refine wpAny_pure ?_;show wpAny _ A (assignAll u [assign (.Name y py) V] >>=fun _=>pure Flow.next) _ _ s2;refine wpAny_bind ?_;show wpAny _ A (assign (.Name y py) V u) _ _ s2;refine wpAny_mono (wpAny_toks hj2 (as_name (Z:=Z) (w:=w) (H0:=H0) (n:=n) (e:=.d (.list [.str c,d])) hy A V s2 η δ σ u g o F2 q2.val)) (fun _ s3 q3=>wpAny_pure ?_) fun _ _ f=>f;obtain⟨hj3,h₃,t3,rfl,k3,F3⟩:=q3;have ex:Ext s.heap s2.heap:=fun b ob eb=>q2.ext b ob (q.ext b ob eb);obtain⟨h₁,t₁,rfl,_⟩:=q;obtain⟨h₂,t2,rfl,_⟩:=q2;exact⟨hj3,GP.toF O ⟨h₃,t3,η,_,δ,rfl,(ex.keep _).trans (k3.more (places_own V δ _)),F3,fun _ m=>m,fun _ m=>.inl m,fun p m=>.inl (mem_map_of_mem m),rfl,rfl,rfl⟩⟩
 refine wpAny_execs_cons (wpAny_mono key (fun fl s₁ q=>?_) fun _ _ f=>f);obtain⟨hj1,q⟩:=q;have e:fl=.next:=by obtain⟨_,_,_,_,_,_,_,_,_,_,_,p⟩:=q;exact p.1
 subst e;exact q.then F K O fun η1 σ₁ δ₁ F1 K1 O1 p₁ _=>by obtain⟨_,rfl,rfl⟩:=p₁;exact hr A V ω s₁ η1 hj1 g o F1 K1 O1
theorem hs_callF{y:Str}{p pos:Pos}{args:List Expr}{f:Value}{xs:List Ent}{L rest:Led}{Ψ:Heap->Value->Led->Prop}(hf:EvE Z w H0 n sc σ δ (.Name y p) (.v f))(hc:Callee H0 f)(ha:EvsP Z w H0 n sc σ δ pos args xs)(hcall:FnF true Z w H0 n f xs L Ψ)(hL:∀p∈L,p∈δ)(hr:∀p∈rest,p∈δ∧p.1∉L.map (·.1))
  (hb:∀V,(backTo pos (starEach args V)).any (·.1)=false):GSf true Z w H0 n sc σ δ (eval (.Call (.Name y p) args [] pos)) (fun g v σ' δ'=>σ'=σ∧∃L',Ψ g v L'∧δ'=L'++rest):=by
 intro A V ω s η g o F Kf O;refine Call_Name rfl (wpAny_mono (hf A V s η g o F) (fun v s₁ q=>?_) fun _ _ f=>f.elim);have e1:=q.val;subst e1;have F1:=F.ext q.ext;refine callWith_E (V:=V) F1.toBase.h0 hc (hb V) (ha A V s₁ η g o F1) fun vs s2 q2=>?_;have F2:=F1.ext q2.ext;have qq:=(q.mono (P':=fun _ _=>True) fun _ _=>trivial).trans (q2.mono (P':=fun _ _=>True) fun _ _=>trivial);have K2:FrOk A V ω η s2.heap:=Fk.move (x:=true) Kf (fun _ m=>m) (.of_but (qq.ext.keep _) O);refine wpAny_call (codeAny_mono (hcall A (V::ω) s2 η vs g F2.toBase ⟨fun p hp=>F2.ledh p (hL p hp),fun p hp=>F2.ledg p (hL p hp)⟩ (FkC.of F2 K2) (off_call F2 O hL) q2.val) fun r s' z=>?_);rcases r with e|(v|_|_|_)<;> first|exact z.elim|skip
 have lo:=K2.low;have gp:=GPf.of_cpf F2 (fun b m=>(lo b m).1) O hL hr z;obtain⟨h2,t2,rfl,ex2,_⟩:=qq;have lo0:=Fk.low (x:=true) Kf;exact GPf.glue (h₁:=h2) (t₁:=t2) F (fun b m=>⟨(lo0 b m).1,let⟨_,o,e,_⟩:=lo0 b m;⟨o,e⟩⟩) (.of_but (ex2.keep _) O) F2 (fun _ m=>m) (fun _ m=>.inl m) (fun p m=>.inl (mem_map_of_mem m)) gp
theorem ht_assignL{e:Expr}{t1 t2:Str}{p1 p2 p4 pos:Pos}{k:Nat}{Ψ:Addr->Bool->Led->Prop}(h:GSf x Z w H0 n sc σ δ (eval e) (fun g v σ' δ'=>∃l a b,v=.ref l∧g.IsList l #[.ref a,.bool b]∧σ'=σ∧Ψ a b δ'))(h1:settable sc t1)(h2:settable sc t2)
  (hs:∀V,EnvOk sc V->swapsWith e (some (.Tuple [.Name t1 p1,.Name t2 p2] k p4)) pos.line V=pure false)(hw:∀V,EnvOk sc V->swappedStores [.Tuple [.Name t1 p1,.Name t2 p2] k p4] e V=pure none):
  HT x Z w H0 n sc σ δ (.Assign [.Tuple [.Name t1 p1,.Name t2 p2] k p4] e pos) (fun _ fl σ' δ'=>fl=.next∧∃a b,Ψ a b δ'∧σ'=(t2,.d (.bool b))::(t1,.v (.ref a))::σ):=by
 intro A V ω s η g o F Kf O;show wpAny _ A (standAt pos >>=fun _=>swapsWithSole [.Tuple [.Name t1 p1,.Name t2 p2] k p4] e pos.line V >>=fun b=>if b=true then _ else _) _ _ s;refine wpAny_bind (wpAny_standAt (wpAny_bind ?_));show wpAny _ A (swapsWith e (some (.Tuple [.Name t1 p1,.Name t2 p2] k p4)) pos.line V) _ _ s;rw[hs V o];refine wpAny_pure ?_;rw[if_neg Bool.false_ne_true];refine wpAny_bind (wpAny_mono (h A V ω s η g o F Kf O) (fun v s₁ q=>?_) fun _ _ f=>f);refine q.then F Kf O fun η1 σ₁ δ₁ F1 K1 O1 p₁ _=>?_;obtain⟨l,a,b,rfl,hl,rfl,p₁⟩:=p₁;refine wpAny_bind ?_;rw[hw V o];refine wpAny_pure ?_;show wpAny _ A (assignAll (.ref l) [assign (.Tuple [.Name t1 p1,.Name t2 p2] k p4) V] >>=fun _=>pure Flow.next) _ _ _;refine wpAny_bind ?_;show wpAny _ A (assign (.Tuple [.Name t1 p1,.Name t2 p2] k p4) V (.ref l)) _ _ _;have hu:UnpV Z w H0 n (.p (fun g v=>g.IsList l #[.ref a,.bool b]∧v=.ref l) (fun g g' v ex q=>⟨isList_ext ex q.1,q.2⟩)) [.v (.ref a),.d (.bool b)]:=by
  intro A s η v g B ra;obtain⟨hl,rfl⟩:=ra;have e:([.v (.ref a),.d (.bool b)]:List Ent).length=(#[Value.ref a,Value.bool b]).size:=rfl;rw[e];refine kun_itemsOf g.hh (isList_ext (vis_to _ _) hl) fun h' he=>⟨h',s.toks,rfl,extBut_ext he,rfl,⟨[],.bool _⟩,trivial⟩
 refine wpAny_mono (as_two (b1:=[(t1,.v (.ref a))]) (b2:=[(t2,.d (.bool b))]) hu (as_name h1) (as_name h2) (fun _=>rfl) A V s₁ η1 δ₁ σ₁ (.ref l) g o F1 ⟨hl,rfl⟩) (fun _ s2 q2=>wpAny_pure ?_) fun _ _ f=>f;obtain⟨h₂,t₂,rfl,k2,F2⟩:=q2;exact GP.toF O1 ⟨h₂,t₂,η1,_,δ₁,rfl,k2.more (places_own V δ₁ _),F2,fun _ m=>m,fun _ m=>.inl m,fun p m=>.inl (mem_map_of_mem m),rfl,a,b,p₁,rfl⟩
end
def DefK(H0:Heap)(name:Str)(k:Nat)(ps:List Str):Prop:=∃f fd,GIs H0 name (.ref f)∧DefIs H0 f fd (scopeOf (stm k)) ps (bodyOf (stm k))
theorem DefIs.g{H0:Heap}{f:Addr}{fd:FuncData}{sc:Scope}{ps:List Str}{body:List Stmt}(D:DefIs H0 f fd sc ps body):DefG H0 f fd sc body:=⟨D.obj,D.lim,D.rec',D.body,D.clo,D.scope,D.glob,D.bi⟩
structure LawK(Z:Program)(w:World)(H0:Heap)(K:Frag)(c:Cls2)(C:Addr):Prop where
 hK:K.In H0
 ck:ClsK K c
 nk:NodeK Z w H0 K c
 sk:SortK Z w H0 K c
 ak:AddK H0 K c
 pk:PrepK H0 K c C
 prk:PreK K H0 c
 rk:RdK H0 K c
 mg:∃o,H0.get? mainGlobals=some o
 min:GIs H0 (S "min") (.builtin "min")
 sum:GIs H0 (S "sum") (.builtin "sum")
 zip:GIs H0 (S "zip") (.type "zip")
 range:GIs H0 (S "range") (.type "range")
 list:GIs H0 (S "list") (.type "list")
 sorted:GIs H0 (S "sorted") (.builtin "sorted")
 type:GIs H0 (S "type") (.type "type")
 isi:GIs H0 (S "isinstance") (.builtin "isinstance")
 str:GIs H0 (S "str") (.type "str")
 case:∃t,GIs H0 (S "_CASE_COST") (.int 1 t)
 move:∃t,GIs H0 (S "_MOVE_COST") (.int 2 t)
 max:∃t,GIs H0 (S "_MAX_STRING_SIZE") (.int 40 t)
 tab:∃d f,TabOf w Z d f H0∧GIs H0 (S "_special_chars_map") (.ref d)∧f 97=none∧f 98=none
 d5:DefK H0 (S "escape") 5 [S "pattern"]
 d7:DefK H0 (S "_translate") 7 [S "pat",S "STAR",S "QUESTION_MARK"]
 d18:DefK H0 (S "_substitution_cost") 18 [S "ch_a",S "ch_b"]
 d19:DefK H0 (S "_levenshtein_distance") 19 [S "a",S "b",S "max_cost"]
 d21:DefK H0 (S "_law_name") 21 [S "x"]
 d22:DefK H0 (S "_law_pattern") 22 [S "x"]
 d23:DefK H0 (S "_law_jobs") 23 [S "numbers",S "many"]
 d24:DefK H0 (S "_law_takes") 24 [S "parts",S "name"]
 d25:DefK H0 (S "_law_fits") 25 [S "pattern",S "name"]
 d26:DefK H0 (S "_law_price") 26 [S "one",S "two"]
 d27:DefK H0 (S "_law_sorter") 27 [S "jobs"]
 d28:DefK H0 (S "_law_needs") 28 [S "jobs"]
 d29:DefK H0 (S "_law_rounds") 29 [S "sorter"]
 d30:DefK H0 (S "_law_due_rounds") 30 [S "needs"]
 d31:DefK H0 (S "_law_thread") 31 [S "rounds",S "parts"]
 d32:DefK H0 (S "_law_all") 32 [S "rounds",S "pattern"]
section
variable{Z:Program}{w:World}{H0:Heap}{n:Nat}{K:Frag}{c:Cls2}{C:Addr}
theorem LawK.len(k:LawK Z w H0 K c C):GIs H0 (S "len") (.builtin "len"):=k.rk.len
theorem DefK.has{name:Str}{i:Nat}{ps:List Str}{xs:List PyData}{x:PyData}(D:DefK H0 name i ps)(hsc:scopeOk (scopeOf (stm i)) ps=true)(hl:xs.length=ps.length)(h:ExP Z w H0 n (scopeOf (stm i)) (ps.zip (xs.map .d)) [] (bodyOf (stm i)) (.ret (.d x))):HasD Z w H0 name (n+1) xs x:=by
 obtain⟨f,fd,hg,D⟩:=D;exact⟨_,hg,D.callee,fn_def (xs:=xs.map .d) D hsc (by rw[length_map];exact hl) h⟩
theorem isName_sign{l:List Nat}(h:isName l):signOk l:=fun c m=>by
 rcases h.2.2 c m with rfl|rfl|rfl<;> decide
theorem k_name(k:LawK Z w H0 K c C)(x:Int):HasD Z w H0 (S "_law_name") (n+1) [.int x] (.str (nameF x)):=k.d21.has (by decide +kernel) rfl (name_body x)
theorem k_pat(k:LawK Z w H0 K c C)(x:Int):HasD Z w H0 (S "_law_pattern") (n+1) [.int x] (.str (patF x)):=k.d22.has (by decide +kernel) rfl (pat_body x)
theorem k_jobs(k:LawK Z w H0 K c C)(xs:List Int):HasD Z w H0 (S "_law_jobs") (n+2) [.list (xs.map .int),.int 8] (dJobs (jobsF xs)):=k.d23.has (by decide +kernel) rfl (jobs_body k.len (fun x=>k_name k x) (fun x=>k_pat k x) xs)
theorem partsOk_N{p:List Nat}(h:∀c∈p,isSign c):partsOk (partsN p):=by
 unfold partsN;split
 ·intro s m;simp at m
 ·intro s m
  obtain⟨c,hc,e⟩:=mem_map.mp m;rcases h c hc with rfl|rfl|rfl|rfl
  ·injection e with e;rw[←e];decide +kernel
  ·injection e with e;rw[←e];decide +kernel
  ·injection e with e;rw[←e];decide +kernel
  ·cases e
theorem partsN_len(p:List Nat):(partsN p).length≤p.length:=by
 unfold partsN;split
 ·next h=>rw[h];decide
 ·rw[length_map];exact Nat.le_refl _
theorem k_takes(k:LawK Z w H0 K c C){a b:Nat}{l:List Nat}(ha:isSign a)(hb:isSign b)(hl:isName l):HasD Z w H0 (S "_law_takes") 5 [dParts (partsN [a,b]),.str (tx l)] (.bool (takesF (partsN [a,b]) l)):=by
 obtain⟨f,fd,hg,D⟩:=k.d24;have h1:=partsN_len [a,b];have h2:=hl.2.1;refine has_takes hg D 4 _ l ?_ (partsOk_N fun c m=>?_) (isName_sign hl) ?_ ?_
 ·simp at h1;omega
 ·rcases mem_cons.mp m with rfl|m
  ·exact ha
  ·rw[mem_singleton.mp m];exact hb
 ·simp at h1;omega
 ·omega
theorem k_fits(k:LawK Z w H0 K c C){a b:Nat}{l:List Nat}(ha:isSign a)(hb:isSign b)(hl:isName l):HasD Z w H0 (S "_law_fits") (n+1) [.str (tx [a,b]),.str (tx l)] (.bool (fitsF (a,b) l)):=by
 obtain⟨c0,r,rfl,hr⟩:=name_cons hl;exact k.d25.has (by decide +kernel) rfl (fits_body k.len ha hb (isName_sign hl) hr)
theorem k_price(k:LawK Z w H0 K c C){x y:List Nat}(hx:isName x)(hy:isName y):HasD Z w H0 (S "_law_price") (n+2) [.str (tx x),.str (tx y)] (.int (priceF x y)):=
 k.d26.has (by decide +kernel) rfl (price_body k.len k.min k.sum k.zip hx.2.2 hy.2.2 hx.2.1 hy.2.1 hx.1 hy.1)
theorem k_cost(k:LawK Z w H0 K c C){a b:Nat}(ha:isLetter a)(hb:isLetter b):HasD Z w H0 (S "_substitution_cost") (n+1) [.str (sg a),.str (sg b)] (.int (priceC a b)):=by
 obtain⟨t,h1⟩:=k.case;obtain⟨t',h2⟩:=k.move;exact k.d18.has (by decide +kernel) rfl (cost_body h1 h2 ha hb)
theorem k_lev(k:LawK Z w H0 K c C){x y:List Nat}(hx:isName x)(hy:isName y):HasD Z w H0 (S "_levenshtein_distance") (n+2) [.str (tx x),.str (tx y),.int 9] (.int (levF x y)):=by
 obtain⟨t',h2⟩:=k.move;obtain⟨t,h3⟩:=k.max;obtain⟨f,fd,hg,D⟩:=k.d19;refine⟨_,hg,D.callee,fn_of_g (fun g g' v ex q=>Rd.ext q ex) (fn_gdef (n:=n+1) (xs:=[.d (.str (tx x)),.d (.str (tx y)),.d (.int 9)]) D (by decide +kernel) rfl (gs_mono (lev_body (fun a b ha hb=>k_cost k ha hb) k.len k.min k.range k.list h2 h3 hx.2.2 hy.2.2 hx.2.1 hy.2.1) fun g fl σ' δ' q=>?_))⟩;obtain⟨v,rfl,q⟩:=q;exact q
theorem k_esc(k:LawK Z w H0 K c C)(a:Nat)(h:a=97∨a=98):HasD Z w H0 (S "escape") (n+1) [.str (sg a)] (.str (sg a)):=by
 obtain⟨d,f,hm,ht,f1,f2⟩:=k.tab;exact k.d5.has (by decide +kernel) rfl (esc_body h (by rcases h with rfl|rfl<;> assumption) hm ht k.isi k.str)
theorem isPat_signs{p:List Nat}(h:isPat p):(∀c∈p,isSign c)∧p.length≤8:=by
 rcases h with rfl|⟨a,b,rfl,ha,hb⟩
 ·exact⟨(fun c m=>nomatch m),by simp⟩
 ·refine⟨fun c m=>?_,by simp⟩
  rcases mem_cons.mp m with rfl|m
  ·exact ha
  ·rw[mem_singleton.mp m];exact hb
theorem k_trans(k:LawK Z w H0 K c C)(p:List Nat)(h:isPat p):HasD Z w H0 (S "_translate") (n+2) [.str (tx p),.none,.str (S "any")] (dParts (partsN p)):=by
 obtain⟨f,fd,hg,D⟩:=k.d7;obtain⟨h1,h2⟩:=isPat_signs h;refine⟨_,hg,D.callee,fn_of_own (ds:=(partsN p).map dPart) (fn_gdef (n:=n+1) (xs:=[.d (.str (tx p)),.d .none,.d (.str (S "any"))]) D (by decide +kernel) rfl (gs_mono (trans_body (fun c hc=>k_esc k c hc) k.len h1 h2) fun g fl σ' δ' q=>?_))⟩;obtain⟨v,rfl,q⟩:=q;rw[trN_parts h] at q;exact q
theorem k_so(k:LawK Z w H0 K c C):SoK Z w H0 (1+4) where
 tr:=fun p h=>(k_trans (n:=0) k p h).le (by omega)
 tk:=fun a b l ha hb hl=>by rw[←takes_fits ha hb hl];exact k_takes k ha hb hl
theorem k_sorter(k:LawK Z w H0 K c C){js:NJ}(ok:JobsOk js):∃f,GIs H0 (S "_law_sorter") f∧Callee H0 f∧FnF true Z w H0 6 f [.d (dJobs (js.map toJ))] [] (SoRes Z w c js):=by
 obtain⟨f,fd,hg,D⟩:=k.d27;refine⟨_,hg,D.callee,fn_gen (x:=true) (n:=5) (ps:=[S "jobs"]) (xs':=[.d (dJobs (js.map toJ))]) D.g (bind_plain D.bind rfl) (by decide +kernel) rfl (gsf_mono (so_body (n:=1) ok k.hK k.ck k.nk k.sk k.ak k.pk k.prk (k_so k)) fun g fl σ' δ' q=>?_)⟩;obtain⟨v,rfl,q⟩:=q;exact q
theorem k_rounds(k:LawK Z w H0 K c C){Kw:Nat->Rep->List (List NM)->Prop}(kv:TurnsOk Kw){m0:Nat}{r:Rep}{L:Led}(h0:Kw m0 r [])(h:RepOk Z w c r L):
  ∃f,GIs H0 (S "_law_rounds") f∧Callee H0 f∧FnG Z w H0 6 f [.v (.ref (r.at' .S))] L (fun g v _=>∃m r' rs,Kw m r' rs∧r'.ready=some []∧Rd (dRounds rs) g v):=by
 obtain⟨f,fd,hg,D⟩:=k.d29;refine⟨_,hg,D.callee,fn_gdef (n:=5) (xs:=[.v (.ref (r.at' .S))]) D (by decide +kernel) rfl (gs_mono (ro_body (n:=4) kv h0 k.hK k.ck k.rk k.sorted k.type h) fun g fl σ' δ' q=>?_)⟩;obtain⟨v,rfl,q⟩:=q;exact q
theorem needsOk_N{js:NJ}(ok:JobsOk js):NeedsOk (needsN js) where
 len:=by unfold needsN;rw[length_map];exact ok.len
 names:=fun p hp=>by
  obtain⟨j,hj,rfl⟩:=mem_map.mp hp;exact ok.names j hj
 needs:=fun p hp=>by
  obtain⟨j,hj,rfl⟩:=mem_map.mp hp;refine⟨Nat.le_trans (needs_len js j) ok.len,fun q hq=>?_⟩;obtain⟨j',hj',rfl⟩:=mem_map.mp (needs_sub js j q hq);exact ok.names j' hj'
 nodup:=by
  unfold needsN;rw[map_map];exact ok.nodup
theorem k_needs(k:LawK Z w H0 K c C){js:NJ}(ok:JobsOk js):Has Z w H0 (S "_law_needs") (n+2) [.d (dJobs (js.map toJ))] (fun g v=>Means g v (dMap Z w (dNeeds (needsN js)))):=by
 obtain⟨f,fd,hg,D⟩:=k.d28;exact⟨_,hg,D.callee,fn_def (xs:=[.d (dJobs (js.map toJ))]) D (by decide +kernel) rfl (needs_body (n:=n+1) k.mg ok fun a b l ha hb hl=>k_fits k ha hb hl)⟩
theorem k_due(k:LawK Z w H0 K c C){js:NJ}(ok:JobsOk js):Has Z w H0 (S "_law_due_rounds") (n+1) [dMap Z w (dNeeds (needsN js))] (Rd (dRounds (dueF (needsN js)))):=by
 obtain⟨f,fd,hg,D⟩:=k.d30;refine⟨_,hg,D.callee,fn_of_g (fun g g' v ex q=>Rd.ext q ex) (fn_gdef (n:=n) (xs:=[dMap Z w (dNeeds (needsN js))]) D (by decide +kernel) rfl (gs_mono (due_body k.sorted (needsOk_N ok)) fun g fl σ' δ' q=>?_))⟩;obtain⟨v,rfl,q⟩:=q;exact q
theorem k_thread(k:LawK Z w H0 K c C){rs:RR}(ok:RoundsOk rs){a b:Nat}(ha:isSign a)(hb:isSign b):HasD Z w H0 (S "_law_thread") 6 [dRounds rs,dParts (partsN [a,b])] (dBest (threadF levF rs (partsN [a,b]))):=
 k.d31.has (n:=5) (by decide +kernel) rfl (thread_body (n:=4) k.min ok (fun x hx=>k_takes k ha hb hx) fun x y hx hy=>(k_lev (n:=0) k hx hy).le (by omega))
theorem k_all(k:LawK Z w H0 K c C){rs:RR}(ok:RoundsOk rs){a b:Nat}(ha:isSign a)(hb:isSign b):HasD Z w H0 (S "_law_all") 6 [dRounds rs,.str (tx [a,b])] (dBest (allF rs [a,b])):=
 k.d32.has (n:=5) (by decide +kernel) rfl (all_body (n:=4) k.len k.min k.sum k.range ok rfl ha hb (fun a b l ha hb hl=>k_fits k ha hb hl) fun x y hx hy=>(k_price (n:=0) k hx hy).le (by omega))
end
def jsOf(xs:List Int):NJ:=jobsN (xs.take 5++tail8)
def dueOf(xs:List Int):RR:=dueF (needsN (jsOf xs))
def sgAt(xs:List Int)(k:Nat):Nat:=sigN (((7+(xs.take 5).sum).fdiv ((4:Int) ^ k)).fmod 4)
def patsOf(xs:List Int):List (List Nat):=[[42,42],[sgAt xs 0,sgAt xs 1]]
def sqP(p:List Nat):List Nat:=if p=[42,42] then [42] else p
theorem ok_js(xs:List Int):JobsOk (jsOf xs):=jobsOk_N _
theorem len_js(xs:List Int):(jsOf xs).length=8:=jobs_eight _
theorem sgAt_sign(xs:List Int)(k:Nat):isSign (sgAt xs k):=sigN_sign _
theorem pats_sign{xs:List Int}{p:List Nat}(h:p∈patsOf xs):∃a b,p=[a,b]∧isSign a∧isSign b:=by
 rcases mem_cons.mp h with rfl|h
 ·exact⟨42,42,rfl,by unfold isSign;simp,by unfold isSign;simp⟩
 ·rw[mem_singleton.mp h]
  exact⟨_,_,rfl,sgAt_sign xs 0,sgAt_sign xs 1⟩
theorem parts_sq(p:List Nat):partsN p=(sqP p).map partOf:=by
 unfold partsN sqP;split
 ·rfl
 ·rfl
theorem replace16:(pats16.all fun p=>Txt.replace (tx p) (S "**") (S "*")==tx (sqP p))=true:=by decide +kernel
theorem replace_sq{a b:Nat}(ha:isSign a)(hb:isSign b):Txt.replace (tx [a,b]) (S "**") (S "*")=tx (sqP [a,b]):=by
 have:=all_eq_true.mp replace16 _ (pat_in ha hb);exact eq_of_beq this
theorem join16:(pats16.all fun p=>Txt.join (S "") (p.map sg)==tx p)=true:=by decide +kernel
theorem join_two{a b:Nat}(ha:isSign a)(hb:isSign b):Txt.join (S "") [sg a,sg b]=tx [a,b]:=by
 have:=all_eq_true.mp join16 _ (pat_in ha hb);exact eq_of_beq this
theorem due_names{ns:NN}(ok:NeedsOk ns):∀(k:Nat) (come:List (List Nat)),∀g∈dueGo ns k come,∀x∈g,isName x
 |0,_,_,h=>by cases h
 |k+1,come,g,h=>by
  rw[dueGo] at h;split at h
  ·cases h
  ·rcases mem_cons.mp h with rfl|h
   ·intro x hx
    obtain⟨p,hp,rfl,_⟩:=dueStep_mem hx;exact ok.names p hp
   ·exact due_names ok k _ g h
theorem rounds_ok{xs:List Int}(h:(dueOf xs).length≤(jsOf xs).length∧((dueOf xs).map List.length).sum≤(jsOf xs).length):RoundsOk (dueOf xs) where
 total:=by rw[len_js] at h;exact h.2
 len:=by rw[len_js] at h;exact h.1
 names:=due_names (needsOk_N (ok_js xs)) _ _
theorem fine_rounds{rs:RR}(h:∀g∈rs,∀x∈g,isName x):fine (dRounds rs)=true:=by
 unfold fine dRounds;have:=depth_rounds rs;rw[clean,clean_rounds h,PyData.depth,Bool.true_and,decide_eq_true_eq];omega
theorem best_clean{rs:RR}(ok:RoundsOk rs)(pat:List Nat):clean (dBest (allF rs pat))=true∧(dBest (allF rs pat)).depth≤4:=by
 unfold allF bestOf;split
 ·next h=>
  have hm:=minW_mem (length_pos_iff.mpr h.1);have W:=waysOk_take (pat:=pat) ok.names rs.length (Nat.le_refl _);rw[take_length] at W;generalize minW (costsOf (rs.foldl (allStep pat) [[]]))=m at hm;obtain⟨v,hv,rfl⟩:=mem_map.mp hm;have hn:=(W.ok v hv).1;refine⟨?_,?_⟩
  ·show clean (dCW _)=true
   rw[dCW,clean,cleanAll,cleanAll,cleanAll,clean,fine_clean (fine_names hn)];rfl
  ·show(dCW _).depth≤4
   rw[dCW,PyData.depth,PyData.depthAll,PyData.depthAll,PyData.depthAll,depth_names,PyData.depth];omega
 ·exact⟨rfl,by simp[dBest,PyData.depth]⟩
theorem fine_bests{rs:RR}(ok:RoundsOk rs)(ps:List (List Nat)):fine (.list (ps.map fun p=>dBest (allF rs p)))=true:=by
 have h1:cleanAll (ps.map fun p=>dBest (allF rs p))=true:=by
  induction ps with
  |nil=>rfl
  |cons p r ih=>rw[map_cons,cleanAll,ih,(best_clean ok p).1];rfl
 have h2:PyData.depthAll (ps.map fun p=>dBest (allF rs p))≤4:=by
  clear h1
  induction ps with
  |nil=>simp[PyData.depthAll]
  |cons p r ih=>rw[map_cons,PyData.depthAll];have:=(best_clean ok p).2;omega
 unfold fine;rw[clean,h1,PyData.depth,Bool.true_and,decide_eq_true_eq];omega
theorem fine_partss{ps:List (List Nat)}(h:∀p∈ps,∀c∈p,isSign c):fine (.list (ps.map fun p=>dParts (partsN p)))=true:=by
 have h1:cleanAll (ps.map fun p=>dParts (partsN p))=true:=by
  induction ps with
  |nil=>rfl
  |cons p r ih=>rw[map_cons,cleanAll,ih fun q hq=>h q (mem_cons_of_mem _ hq),Bool.and_true];exact fine_clean (fine_parts (partsOk_N (h p mem_cons_self)))
 have h2:PyData.depthAll (ps.map fun p=>dParts (partsN p))≤2:=by
  clear h1
  induction ps with
  |nil=>simp[PyData.depthAll]
  |cons p r ih=>
   rw[map_cons,PyData.depthAll];have:=ih fun q hq=>h q (mem_cons_of_mem _ hq);have h3:(dParts (partsN p)).depth≤2:=by
    have:∀qs:List (Option Str),PyData.depthAll (qs.map dPart)≤1:=fun qs=>by
     induction qs with
     |nil=>simp[PyData.depthAll]
     |cons q r ih=>rw[map_cons,PyData.depthAll];cases q<;> simp[dPart,PyData.depth]<;> omega
    unfold dParts;rw[PyData.depth];have:=this (partsN p);omega
   omega
 unfold fine;rw[clean,h1,PyData.depth,Bool.true_and,decide_eq_true_eq];omega
section
variable{K:Frag}{c:Cls2}{C:Addr}
theorem pick5(ds:List PyData):pickD ds none (some 5)=ds.take 5:=by
 unfold pickD kms_lo kms_hi;simp only[Int.reduceLT,if_false,List.drop_zero,Nat.sub_zero];show ds.take (min 5 ds.length)=_;rcases Nat.le_total 5 ds.length with h|h
 ·rw[Nat.min_eq_left h]
 ·rw[Nat.min_eq_right h,take_length,List.take_of_length_le h]
theorem ev_five{e:Expr}{xs:List Int}{k:Nat}{p2 p3 p4:Pos}(hz:xs.length≤1000)(hv:EvE Z w H0 n sc σ δ e (.d (.list (xs.map .int))))(ht:∀o r,letTemporaryGo e o r=pure ()):
  EvE Z w H0 n sc σ δ (.Subscript e (.Slice none (some (.Constant (.int 5) k p2)) none p3) p4) (.d (.list ((xs.take 5).map .int))):=by
 have:=ev_slice_list (p:=p3) (pos:=p4) hv part_none (part_some (ev_int (i:=5) (k:=k) (pos:=p2))) (size_le (by rw[length_map];omega)) ht;rw[pick5,←List.map_take] at this;exact this
abbrev scLw:Scope:=scopeOf (stm 33)
theorem ev_lens{rs:RR}{scope:Scope}{it:Expr}{p1 p2 p3 p4 p5 pos pos':Pos}(k:LawK Z w H0 K c C)(ok:RoundsOk rs)(hv:EvE Z w H0 (n+1) sc σ δ it (.d (dRounds rs)))(hs:∀V x,foldedSetIterable it V x=pure x)(hok:compOk sc scope=true)(hxs:∀x∈[S "group"],scope.names.lookup x=some .local∨scope.names.lookup x=some .cell)
  (hset:settable (scIn sc scope) (S "group"))(hno:(stoIn scope σ).lookup (S "group")=none)(hgl:globOk sc (S "sum")=true)(hgl2:globOk (scIn sc scope) (S "len")=true)(hvar:varOk (scIn sc scope) (S "group")=true):
  EvE Z w H0 (n+1) sc σ δ (.Call (.Name (S "sum") p1) [.ListComp (.Call (.Name (S "len") p2) [.Name (S "group") p3] [] p4) [⟨.Name (S "group") p5,it,[],0⟩] scope pos] [] pos') (.d (.int (((rs.map List.length).sum:Nat):Int))):=by
 have e2:∀l:RR,((l.map List.length).sum:Nat)=((l.map fun g=>(g.length:Int)).sum:Int):=fun l=>by
  induction l with
  |nil=>rfl
  |cons g r ih=>rw[map_cons,map_cons,sum_cons,sum_cons,←ih];simp
 rw[e2];refine ev_has (has_sum (n:=n) k.sum (ks:=rs.map fun g=>(g.length:Int))) (Nat.le_refl _) hgl (evs_1 ?_ fun _=>rfl) fun _=>rfl;have e1:PyData.list ((rs.map fun g=>(g.length:Int)).map .int)=.list (rs.filterMap fun g=>some (PyData.int (g.length:Int))):=by rw[filterMap_eq_map',map_map];rfl
 rw[e1];refine ev_lc (items:=rs) (enc:=fun g=>.d (dNames g)) (fun g=>some (PyData.int (g.length:Int))) (xs:=[S "group"]) (x:=.d (dRounds rs)) (.inl ⟨_,_,rfl⟩) hok hxs hs hv src_ways (size_le (by have:=ok.len;omega)) fun g hg=>?_;have hz:((g.map tx).map PyData.str).length≤sizeLine:=size_le (by
  rw[length_map,length_map];obtain⟨i,hi⟩:=List.getElem?_of_mem hg;have h1:=sum_take hi;have h2:=sum_take_le rs (i+1);have:=ok.total;omega)
 have e8:PyData.int (g.length:Int)=.int ((g.map tx).map PyData.str).length:=by rw[length_map,length_map]
 refine⟨[(S "group",.d (dNames g))],true,as_name hset,rfl,fun y hy=>by rw[mem_singleton.mp hy];exact hno,ifs_nil,fun _=>⟨_,rfl,?_⟩,fun h=>by cases h⟩;rw[e8];exact ev_has (has_len_list (n:=n+1) k.len hz) (Nat.le_refl _) hgl2 (evs_1 (show EvE _ _ _ _ _ _ _ _ (.d (dNames g)) from ev_var (by rw[cons_append,lookup_cons,show(S "group"==S "group")=true from beq_self_eq_true _]) hvar) fun _=>rfl) fun _=>rfl
end
section
variable{K:Frag}{c:Cls2}{C:Addr}
theorem hx_set{x:Bool}{e:Expr}{y:Str}{py pos:Pos}{rest:List Stmt}{z:Ent}{Φ:PostS}(h:EvE Z w H0 n sc σ δ e z)(hr:HX x Z w H0 n sc ((y,z)::σ) δ rest Φ)(hy:settable sc y)(hs:∀V,EnvOk sc V->swapsWith e (some (.Name y py)) pos.line V=pure false)(hw:∀V,EnvOk sc V->swappedStores [.Name y py] e V=pure none):
  HX x Z w H0 n sc σ δ (.Assign [.Name y py] e pos::rest) Φ:=hx_step (ht_of (gt_st (st_assign h (as_name hy) hs hw fun _=>rfl))) hr
theorem ev_head{x:Str}{pos:Pos}{e:Ent}(h:varOk sc x=true:=by decide +kernel):EvE Z w H0 n sc ((x,e)::σ) δ (.Name x pos) e:=ev_var (by rw[lookup_cons,beq_self_eq_true]) h
set_option maxHeartbeats 1000000 in
theorem law_tail(k:LawK Z w H0 K c C)(xs:List Int)(hz:xs.length≤63)(ok:RoundsOk (dueOf xs)){δ:Led}:
  HX true Z w H0 6 scLw [(S "told",.d (dRounds (dueOf xs))),(S "due",.d (dRounds (dueOf xs))),(S "script",.d (.list (xs.map .int)))] δ ((bodyOf (stm 33)).drop 4) (fun g fl _ _=>∃v,fl=.ret v∧Rd (.bool true) g v):=by
 have s0:=sgAt_sign xs 0;have s1:=sgAt_sign xs 1;refine hx_setT (d:=.str (tx [sgAt xs 0,sgAt xs 1])) ?_ ?_ (settable_of) (fun _ _=>rfl) (fun _ _=>rfl) fun _=>rfl
 ·have e0:Txt.join (S "") ([sgAt xs 0,sgAt xs 1].map sg)=tx [sgAt xs 0,sgAt xs 1]:=join_two s0 s1
  rw[←e0];refine ev_joinE ?_ ?_ ?_ (fun _=>rfl) (by decide) fun _=>rfl
  ·have e1:PyData.list (([sgAt xs 0,sgAt xs 1].map sg).map .str)=.list ((List.range ((2:Int) - 0).toNat).filterMap fun i=>some (PyData.str (sg (sgAt xs i)))):=rfl
   rw[e1];refine ev_lc (items:=List.range ((2:Int) - 0).toNat) (enc:=fun i:Nat=>.d (.int (0+(i:Int)))) (fun i=>some (PyData.str (sg (sgAt xs i)))) (xs:=[S "k"]) (x:=dRng 0 2 1) ?_ ?_ ?_ ?_ ?_ (src_rng (by decide) (by decide) (by decide) (by decide)) (by decide) fun i hi=>?_
   ·exact .inl ⟨_,_,rfl⟩
   ·decide +kernel
   ·decide +kernel
   ·exact fun _ _=>rfl
   ·exact ev_has (has_range1 (n:=6) k.range) (Nat.le_refl _) (by decide +kernel) (evs_1 ev_int fun _=>rfl) fun _=>rfl
   ·refine⟨[(S "k",.d (.int (0+(i:Int))))],true,as_name (settable_of),rfl,fun y hy=>by rw[mem_singleton.mp hy];rfl,ifs_nil,fun _=>⟨_,rfl,?_⟩,fun h=>by cases h⟩
    have hi2:i=0∨i=1:=by have:=mem_range.mp hi;omega
    have e2:(0+(i:Int)).toNat=i:=by omega
    have hne:(4:Int) ^ i≠0:=by rcases hi2 with rfl|rfl<;> decide
    have hlt:((4:Int) ^ i).natAbs<1073741824:=by rcases hi2 with rfl|rfl<;> decide
    have hp:OpBin Z w H0 6 (binaryOp .Pow) (.d (.int 4)) (.d (.int (0+(i:Int)))) (Rd (.int ((4:Int) ^ i))):=by
     have:=op_powI (Z:=Z) (w:=w) (H0:=H0) (n:=6) (a:=4) (k:=0+(i:Int)) (by omega) (by rcases hi2 with rfl|rfl<;> decide +kernel)
     rwa [e2] at this
    have h4:=fmod_lt (x:=(7+(xs.take 5).sum).fdiv ((4:Int) ^ i)) (k:=4) (by decide);exact ev_item_str ev_str (ev_bin (x:=.d (.int ((7+(xs.take 5).sum).fdiv ((4:Int) ^ i)))) (ev_bin (x:=.d (.int (7+(xs.take 5).sum))) (y:=.d (.int ((4:Int) ^ i))) (ev_bin ev_int (ev_has (has_sum (n:=5) k.sum (ks:=xs.take 5)) (Nat.le_refl _) (by decide +kernel) (evs_1 (ev_five (by omega) (ev_var rfl) fun _ _=>rfl) fun _=>rfl) fun _=>rfl) op_addI) (ev_bin ev_int (ev_var rfl) hp) (op_divI hne hlt)) ev_int (op_modI (by decide))) (fits63 h4.1 (by omega)) (sign_at h4.1 h4.2) (fun _ _=>rfl)
  ·rfl
  ·rw[e0];exact size_le (by show 2≤1000000;decide)
 have sg2:∀p∈patsOf xs,∀c∈p,isSign c:=fun p hp=>by
  obtain⟨a,b,rfl,ha,hb⟩:=pats_sign hp;exact fun c m=>by
   rcases mem_cons.mp m with rfl|m
   ·exact ha
   ·rw[mem_singleton.mp m];exact hb
 have ep:PyData.list [.str (S "**"),.str (tx [sgAt xs 0,sgAt xs 1])]=.list ((patsOf xs).map fun p=>.str (tx p)):=rfl;have hsp:SrcV Z w H0 6 (.d (.list [.str (S "**"),.str (tx [sgAt xs 0,sgAt xs 1])])) ((patsOf xs).map fun p=>.d (.str (tx p))):=by
  have:=src_list (Z:=Z) (w:=w) (H0:=H0) (n:=6) (ds:=(patsOf xs).map fun p=>.str (tx p));rw[map_map] at this;exact this
 have ea:PyData.list ((patsOf xs).map fun p=>dParts (partsN p))=.list ((patsOf xs).filterMap fun p=>some (dParts (partsN p))):=by rw[filterMap_eq_map']
 refine hxj_step (σ₁:=(S "parts",.d (.list ((patsOf xs).map fun p=>dParts (partsN p))))::[(S "patterns",.d (.list [.str (S "**"),.str (tx [sgAt xs 0,sgAt xs 1])])),(S "told",.d (dRounds (dueOf xs))),(S "due",.d (dRounds (dueOf xs))),(S "script",.d (.list (xs.map .int)))]) (ht_of (gt_st ?_)) ?_
 ·rw[ea]
  refine st_assign_lc (items:=patsOf xs) (enc:=fun p=>.d (.str (tx p))) (fun p=>some (dParts (partsN p))) (xs:=[S "pattern"]) (x:=.d (.list [.str (S "**"),.str (tx [sgAt xs 0,sgAt xs 1])])) ?_ ?_ ?_ ?_ ?_ ?_ ?_ hsp (by show 2≤sizeLine;decide) fun p hp=>?_
  ·exact .inl ⟨_,_,rfl⟩
  ·decide +kernel
  ·decide +kernel
  ·exact fun _ _=>rfl
  ·exact fun V o=>by have q:=o.scope;cases V;simp only at q;subst q;rfl
  ·exact settable_of
  ·exact ev_var rfl
  ·obtain⟨a,b,rfl,ha,hb⟩:=pats_sign hp
   refine⟨[(S "pattern",.d (.str (tx [a,b])))],true,as_name (settable_of),rfl,fun y hy=>by rw[mem_singleton.mp hy];rfl,ifs_nil,fun _=>⟨_,rfl,?_⟩,fun h=>by cases h⟩;exact ev_has' (xs:=[.str (tx [a,b]),.none,.str (S "any")]) ((k_trans (n:=4) k [a,b] (.inr ⟨a,b,rfl,ha,hb⟩)).le (by omega)) (Nat.le_refl _) (by decide +kernel) (evs_cons (ev_var rfl) (evs_2 ev_none ev_str (fun _=>rfl) fun _=>rfl) fun _=>rfl) fun _=>rfl
 refine hxj_ifne (a:=.list ((patsOf xs).map fun p=>dParts (partsN p))) (b:=.list ((patsOf xs).map fun p=>dParts (partsN p))) (ev_var rfl) ?_ (fine_partss sg2) (fine_partss sg2) (PySem.Spec.same_self _) rfl (hxj_of ?_)
 ·have ef:(fun p=>dParts (partsN p))=fun p=>PyData.list ((sqP p).map fun c=>dPart (partOf c)):=by
   funext p
   rw[parts_sq,dParts,map_map];rfl
  rw[ef];refine ev_lcJ (items:=patsOf xs) (enc:=fun p=>.d (.str (tx p))) (fun p=>PyData.list ((sqP p).map fun c=>dPart (partOf c))) ?_ ?_ ?_ (it_ofJ (x:=.d (.list [.str (S "**"),.str (tx [sgAt xs 0,sgAt xs 1])])) (evj_of (ev_var rfl)) hsp (.inl ⟨_,_,rfl⟩)) (by show 2≤sizeLine;decide) ?_ rfl fun p hp=>?_
  ·decide +kernel
  ·exact .inl (by decide +kernel)
  ·exact fun _ _=>rfl
  ·exact settable_of
  ·obtain⟨a,b,rfl,ha,hb⟩:=pats_sign hp
   have hsq:∀c∈sqP [a,b],isSign c:=fun c m=>by
    unfold sqP at m;split at m
    ·rw[mem_singleton.mp m];unfold isSign;simp
    ·exact sg2 _ hp c m
   have hsrc:SrcV Z w H0 6 (.d (.str (Txt.replace (tx [a,b]) (S "**") (S "*")))) ((sqP [a,b]).map fun c=>.d (.str (sg c))):=by
    rw[replace_sq ha hb];have:=src_str (Z:=Z) (w:=w) (H0:=H0) (n:=6) (x:=tx (sqP [a,b])) (by
     rw[←Array.all_toList];refine all_eq_true.mpr fun c m=>decide_eq_true ?_;have m:c∈sqP [a,b]:=by simpa [tx] using m
     rcases hsq c m with rfl|rfl|rfl|rfl<;> decide)
    unfold signsD at this;rw[map_map] at this;exact this
   refine ev_lcJ (items:=sqP [a,b]) (enc:=fun c=>.d (.str (sg c))) (fun c=>dPart (partOf c)) ?_ ?_ ?_ (it_ofJ (x:=.d (.str (Txt.replace (tx [a,b]) (S "**") (S "*")))) (ev_replaceJ (ev_var rfl) (by decide +kernel) ?_ (fun _=>rfl) (by decide)) hsrc (.inl ⟨_,_,rfl⟩)) ?_ ?_ ?_ fun c hc=>?_
   ·decide +kernel
   ·exact .inl (by decide +kernel)
   ·exact fun _ _=>rfl
   ·show 2+(2+1)*1≤16777216;decide
   ·refine size_le ?_
    unfold sqP;split
    ·simp
    ·simp
   ·exact settable_of
   ·rfl
   ·refine evj_of (P:=Rd (dPart (partOf c))) ?_
    have dg:=fun e1 e2 D pa pos dp p1 p2 p3 p4 k1 k2 k3 k4 sc σ=>ev_dget (Z:=Z) (w:=w) (H0:=H0) (n:=6) (δ:=δ) (sc:=sc) (σ:=σ) (e1:=e1) (e2:=e2) (D:=D) (pa:=pa) (pos:=pos) (dp:=dp) (p1:=p1) (p2:=p2) (p3:=p3) (p4:=p4) (k1:=k1) (k2:=k2) (k3:=k3) (k4:=k4) (c:=c) k.pk.sm (hsq c hc);refine dg _ _ _ _ _ _ _ _ _ _ _ _ _ _ _ _ ?_ ?_ rfl ?_ ?_ ?_
    ·exact ev_head
    ·exact ev_head
    ·exact fun _=>rfl
    ·decide
    ·exact fun _=>rfl
 have hnm:=ok.names;have eb:∀f:List Nat->PyData,PyData.list ((patsOf xs).map f)=.list ((patsOf xs).filterMap fun p=>some (f p)):=fun f=>by rw[filterMap_eq_map']
 refine hx_of (gx_last (gs_mono (gt_return (P:=Rd (.bool true)) ?_) fun g fl σ' δ' q=>q.1) fun g σ' δ' q=>by obtain⟨v,e,_⟩:=q;cases e);have hop:OpBin Z w H0 6 (compareOp .Eq) (.d (.list ((patsOf xs).map fun p=>dBest (allF (dueOf xs) p)))) (.d (.list ((patsOf xs).map fun p=>dBest (allF (dueOf xs) p)))) (Rd (.bool true)):=by
  have:=op_eqD (Z:=Z) (w:=w) (H0:=H0) (n:=6) (fine_bests ok (patsOf xs)) (fine_bests ok (patsOf xs));rwa [PySem.Spec.same_self] at this
 refine ev_cmp (x:=.d (.list ((patsOf xs).map fun p=>dBest (allF (dueOf xs) p)))) (y:=.d (.list ((patsOf xs).map fun p=>dBest (allF (dueOf xs) p)))) ?_ ?_ hop rfl
 ·rw[eb]
  refine ev_lc (items:=patsOf xs) (enc:=fun p=>.d (dParts (partsN p))) (fun p=>some (dBest (allF (dueOf xs) p))) (xs:=[S "one"]) (x:=.d (.list ((patsOf xs).map fun p=>dParts (partsN p)))) ?_ ?_ ?_ ?_ ?_ ?_ (by show 2≤sizeLine;decide) fun p hp=>?_
  ·exact .inl ⟨_,_,rfl⟩
  ·decide +kernel
  ·decide +kernel
  ·exact fun _ _=>rfl
  ·exact ev_var rfl
  ·have:=src_list (Z:=Z) (w:=w) (H0:=H0) (n:=6) (ds:=(patsOf xs).map fun p=>dParts (partsN p))
   rw[map_map] at this;exact this
  ·obtain⟨a,b,rfl,ha,hb⟩:=pats_sign hp
   refine⟨[(S "one",.d (dParts (partsN [a,b])))],true,as_name (settable_of),rfl,fun y hy=>by rw[mem_singleton.mp hy];rfl,ifs_nil,fun _=>⟨_,rfl,?_⟩,fun h=>by cases h⟩;rw[←thread_all (parts:=partsN [a,b]) (fun x hx=>takes_fits ha hb hx) hnm];exact ev_has' (xs:=[dRounds (dueOf xs),dParts (partsN [a,b])]) (k_thread k ok ha hb) (Nat.le_refl _) (by decide +kernel) (evs_2 (ev_var rfl) (ev_var rfl) (fun _=>rfl) fun _=>rfl) fun _=>rfl
 ·rw[eb]
  refine ev_lc (items:=patsOf xs) (enc:=fun p=>.d (.str (tx p))) (fun p=>some (dBest (allF (dueOf xs) p))) (xs:=[S "pattern"]) (x:=.d (.list [.str (S "**"),.str (tx [sgAt xs 0,sgAt xs 1])])) ?_ ?_ ?_ ?_ ?_ hsp (by show 2≤sizeLine;decide) fun p hp=>?_
  ·exact .inl ⟨_,_,rfl⟩
  ·decide +kernel
  ·decide +kernel
  ·exact fun _ _=>rfl
  ·exact ev_var rfl
  ·obtain⟨a,b,rfl,ha,hb⟩:=pats_sign hp
   refine⟨[(S "pattern",.d (.str (tx [a,b])))],true,as_name (settable_of),rfl,fun y hy=>by rw[mem_singleton.mp hy];rfl,ifs_nil,fun _=>⟨_,rfl,?_⟩,fun h=>by cases h⟩;exact ev_has' (xs:=[dRounds (dueOf xs),.str (tx [a,b])]) (k_all k ok ha hb) (Nat.le_refl _) (by decide +kernel) (evs_2 (ev_var rfl) (ev_var rfl) (fun _=>rfl) fun _=>rfl) fun _=>rfl
end
section
variable{K:Frag}{c:Cls2}{C:Addr}
theorem op_neB{a b:Bool}:OpBin Z w H0 n (compareOp .NotEq) (.d (.bool a)) (.d (.bool b)) (Rd (.bool (a !=b))):=by
 intro A s η u v g B ra rb;have e1:=rd_bool ra;have e2:=rd_bool rb;subst e1 e2;exact PyProof.Rows.ne_bool (Pu.here (bool_rd _ _))
theorem gt_assign2c{t1 t2:Str}{p1 p2 p4 p5 pos:Pos}{k k2:Nat}{es:List Expr}{Θ:List Ent->Sto->Led->Prop}{d1 d2:PyData}(h:GEs Z w H0 n sc σ δ p5 es Θ)(h1:settable sc t1)(h2:settable sc t2)(hlen:∀xs σ' δ',Θ xs σ' δ'->xs=[.d d1,.d d2])
  (hs:∀V,EnvOk sc V->swapsWith (.Tuple es k2 p5) (some (.Tuple [.Name t1 p1,.Name t2 p2] k p4)) pos.line V=pure false)
  (hw:∀V,EnvOk sc V->swappedStores [.Tuple [.Name t1 p1,.Name t2 p2] k p4] (.Tuple es k2 p5) V=pure none):
  GT Z w H0 n sc σ δ (.Assign [.Tuple [.Name t1 p1,.Name t2 p2] k p4] (.Tuple es k2 p5) pos) (fun _ fl σ' δ'=>fl=.next∧∃σ₁,Θ [.d d1,.d d2] σ₁ δ'∧σ'=(t2,.d d2)::(t1,.d d1)::σ₁):=by
 intro A V s η g o F;show wpAny _ A (standAt pos >>=fun _=>swapsWithSole [.Tuple [.Name t1 p1,.Name t2 p2] k p4] (.Tuple es k2 p5) pos.line V >>=fun b=>if b=true then _ else _) _ _ s;refine wpAny_bind (wpAny_standAt (wpAny_bind ?_));show wpAny _ A (swapsWith (.Tuple es k2 p5) (some (.Tuple [.Name t1 p1,.Name t2 p2] k p4)) pos.line V) _ _ s;rw[hs V o];refine wpAny_pure ?_;rw[if_neg Bool.false_ne_true];refine wpAny_bind (wpAny_Tuple_spliced (wpAny_mono (h A V s η g o F) (fun vs s₁ q=>?_) fun _ _ f=>f.elim));obtain⟨η1,σ₁,δ₁,F1,⟨xs,mxs,p₁⟩,_,back1⟩:=GP.back (α:=Flow) F q;have e:=hlen _ _ _ p₁;subst e;obtain⟨v1,v2,x1,x2,rfl,e⟩:=all2 mxs rfl;cases e;obtain⟨m1,m2,_⟩:=mxs;refine⟨by show(2:Nat)≤sizeLine;decide,?_⟩;refine wpAny_bind ?_;rw[hw V o];refine wpAny_pure ?_;have ex:Ext s₁.heap (s₁.heap.push {cls:=.type "tuple",data:=.seq [v1,v2].toArray}):=ext_push _ _;have F2:=F1.ext ex;have mt:Means (vis (s₁.heap.push {cls:=.type "tuple",data:=.seq [v1,v2].toArray}) η1) (.ref s₁.heap.objs.size) (.d (.tuple [d1,d2])):=
  tuple_rd ⟨_,vis_push F1.toBase _,rfl,0,rfl⟩ (.cons (Rd.ext m1 (vis_ext η1 ex)) (.cons (Rd.ext m2 (vis_ext η1 ex)) .nil))
 show wpAny _ A (assignAll (.ref s₁.heap.objs.size) [assign (.Tuple [.Name t1 p1,.Name t2 p2] k p4) V] >>=fun _=>pure Flow.next) _ _ _;refine wpAny_bind ?_;show wpAny _ A (assign (.Tuple [.Name t1 p1,.Name t2 p2] k p4) V (.ref s₁.heap.objs.size)) _ _ _;refine wpAny_mono (as_two (b1:=[(t1,.d d1)]) (b2:=[(t2,.d d2)]) (unp_tuple (ds:=[d1,d2])) (as_name h1) (as_name h2) (fun _=>rfl) A V _ η1 δ₁ σ₁ (.ref s₁.heap.objs.size) g o F2 mt) (fun _ s2 q2=>wpAny_pure ?_) fun _ _ f=>f;obtain⟨h₂,t₂,rfl,k₂,F3⟩:=q2;exact back1 _ _ _ ⟨h₂,t₂,η1,_,δ₁,rfl,(ex.keep _).trans (k₂.more (places_own V δ₁ _)),F3,fun _ m=>m,fun _ m=>.inl m,fun p m=>.inl (mem_map_of_mem m),rfl,σ₁,p₁,rfl⟩
set_option maxHeartbeats 2000000 in
theorem law_body(k:LawK Z w H0 K c C)(xs:List Int)(hz:xs.length≤63):
  HX true Z w H0 6 scLw [(S "script",.d (.list (xs.map .int)))] [] (bodyOf (stm 33)) (fun g fl _ _=>∃v,fl=.ret v∧Rd (.bool true) g v):=by
 have hj:jobsF (xs.take 5++tail8)=(jsOf xs).map toJ:=jobsF_tx _;have e0:PyData.list ((xs.take 5++tail8).map .int)=.list ((xs.take 5).map .int++tail8.map .int):=by rw[map_append]
 have ok:=ok_js xs;refine hx_set (z:=.d (dJobs ((jsOf xs).map toJ))) ?_ ?_ (settable_of) (fun _ _=>rfl) (fun _ _=>rfl)
 ·rw[←hj]
  refine ev_has' (xs:=[.list ((xs.take 5++tail8).map .int),.int 8]) (k_jobs (n:=4) k (xs.take 5++tail8)) (Nat.le_refl _) (by decide +kernel) (evs_2 ?_ ev_int (fun _=>rfl) fun _=>rfl) fun _=>rfl;rw[e0];exact ev_bin (ev_five (by omega) (ev_var rfl) fun _ _=>rfl) (ev_list (ds:=tail8.map .int) (evs_cons ev_int (evs_cons ev_int (evs_cons ev_int (evs_cons ev_int (evs_cons ev_int (evs_cons ev_int (evs_2 ev_int ev_int (fun _=>rfl) fun _=>rfl) fun _=>rfl) fun _=>rfl) fun _=>rfl) fun _=>rfl) fun _=>rfl) fun _=>rfl) (by decide)) (op_addL (size_le (by rw[length_map,length_take];have:(tail8.map PyData.int).length=8:=rfl;omega)))
 obtain⟨fS,gS,cS,callS⟩:=k_sorter k ok;refine hx_cons (ht_assignL (Ψ:=fun a b δ'=>∃(r:Rep) (ad:Addr),r.abs=Abs.all (jsOf xs)∧r.passed=0∧r.fin=0∧RepOk Z w c (r.begin ad) δ'∧a=r.at' .S∧(b=false->Acyc r.succ r.names)∧(b=true->Ringed r.succ r.names)) (gsf_mono (hs_callF (rest:=[]) (ev_gl gS) cS (evs_1 (ev_var rfl) fun _=>rfl) callS (fun p m=>nomatch m) (fun p m=>nomatch m) fun _=>rfl) fun g v σ' δ' q=>?_) (settable_of) (settable_of) (fun _ _=>rfl) fun V o=>by have q:=o.scope;cases V;simp only at q;subst q;rfl) (fun g σ' δ' q=>?_) fun g fl σ' δ' hn q=>absurd q.1 hn
 ·obtain⟨rfl,L',⟨r,a,b,l,h1,h2,h3,h4,rfl,hl,h5,h6⟩,rfl⟩:=q
  rw[append_nil];exact⟨l,r.at' .S,b,rfl,hl,rfl,r,a,h1,h2,h3,h4,rfl,h5,h6⟩
 obtain⟨_,a,b,⟨r,ad,h1,h2,h3,h4,rfl,h5,h6⟩,rfl⟩:=q;obtain⟨Kw,m0,kv,hk0,hend⟩:=rounds_plain ok (a:=ad) h1 h2 h3;obtain⟨fR,gR,cR,callR⟩:=k_rounds k kv hk0 h4;have hfacts:∀g v,(∃m r' rs,Kw m r' rs∧r'.ready=some []∧Rd (dRounds rs) g v)->Rd (dRounds (dueOf xs)) g v∧RoundsOk (dueOf xs)∧b=decide (((dueOf xs).map List.length).sum<8):=fun g v q=>by
  obtain⟨m,r',rs,q1,q2,q3⟩:=q;obtain⟨rfl,z1,z2,z3⟩:=hend m r' rs q1 q2;refine⟨q3,rounds_ok z1,?_⟩;have z2:Acyc r.succ r.names->((dueOf xs).map List.length).sum=(jsOf xs).length:=z2;have z3:Ringed r.succ r.names->((dueOf xs).map List.length).sum<(jsOf xs).length:=z3;rw[len_js] at z2 z3;cases b with
  |false=>exact(decide_eq_false (by have:=z2 (h5 rfl);omega)).symm
  |true=>exact(decide_eq_true (z3 (h6 rfl))).symm
 refine hx_cons (ht_of (gt_assign2c (d1:=dRounds (dueOf xs)) (d2:=dRounds (dueOf xs)) (Θ:=fun ys σ' δ'=>ys=[.d (dRounds (dueOf xs)),.d (dRounds (dueOf xs))]∧σ'=[(S "ring",.d (.bool b)),(S "sorter",.v (.ref (r.at' .S))),(S "jobs",.d (dJobs ((jsOf xs).map toJ))),(S "script",.d (.list (xs.map .int)))]∧RoundsOk (dueOf xs)∧b=decide (((dueOf xs).map List.length).sum<8))
  (ges_cons (Ψ:=fun y σ' δ'=>y=.d (dRounds (dueOf xs))∧σ'=[(S "ring",.d (.bool b)),(S "sorter",.v (.ref (r.at' .S))),(S "jobs",.d (dJobs ((jsOf xs).map toJ))),(S "script",.d (.list (xs.map .int)))]∧RoundsOk (dueOf xs)∧b=decide (((dueOf xs).map List.length).sum<8)) (gs_mono (gs_callG (rest:=[]) (ev_gl gR) cR (evs_1 (ev_var rfl) fun _=>rfl) callR (fun p m=>m) (fun p m=>nomatch m) fun _=>rfl) fun g v σ2 δ2 q=>?_) (fun y σ2 δ2 q=>ges_cons (ges_ev (x:=.d (dRounds (dueOf xs))) ?_) (fun y σ3 δ3 q3=>ges_nil ?_) fun _=>rfl) fun _=>rfl)
  (settable_of) (settable_of) (fun ys σ' δ' q=>q.1) (fun _ _=>rfl) fun V o=>by have q:=o.scope;cases V;simp only at q;subst q;rfl)) (fun g σ2 δ2 q=>?_) fun g fl σ' δ' hn q=>absurd q.1 hn
 ·obtain⟨rfl,L',q,rfl⟩:=q
  obtain⟨z1,z2,z3⟩:=hfacts g v q;exact⟨.d (dRounds (dueOf xs)),z1,rfl,rfl,z2,z3⟩
 ·obtain⟨rfl,rfl,_⟩:=q
  exact ev_has (k_due (n:=5) k ok) (Nat.le_refl _) (by decide +kernel) (evs_1 (ev_has (k_needs (n:=4) k ok) (Nat.le_refl _) (by decide +kernel) (evs_1 (ev_var rfl) fun _=>rfl) fun _=>rfl) fun _=>rfl) fun _=>rfl
 ·obtain⟨rfl,rfl,z2,z3⟩:=q
  obtain⟨rfl,rfl,rfl⟩:=q3;exact⟨rfl,rfl,z2,z3⟩
 obtain⟨_,σ3,⟨_,rfl,okr,hb⟩,rfl⟩:=q;have hfr:=fine_rounds okr.names;have hne:OpBin Z w H0 6 (compareOp .NotEq) (.d (dRounds (dueOf xs))) (.d (dRounds (dueOf xs))) (Rd (.bool false)):=by
  have:=op_neD (Z:=Z) (w:=w) (H0:=H0) (n:=6) hfr hfr;rwa [PySem.Spec.same_self] at this
 have hne2:OpBin Z w H0 6 (compareOp .NotEq) (.d (.bool b)) (.d (.bool (decide (((dueOf xs).map List.length).sum<8)))) (Rd (.bool false)):=by
  rw[←hb];have:=op_neB (Z:=Z) (w:=w) (H0:=H0) (n:=6) (a:=b) (b:=b);rwa [show(b !=b)=false by cases b<;> rfl] at this
 refine hx_step (ht_of (gt_if (b:=false ||false) (tr_boolop (trs_or (tr_cmp (ev_var rfl) (ev_var rfl) hne rfl) fun _=>trs_or1 (tr_cmp (ev_var rfl) (ev_cmp (P:=Rd (.bool (decide (((dueOf xs).map List.length).sum<8)))) (ev_lens (n:=5) k okr (ev_var rfl) (fun _ _=>rfl) (by decide +kernel) (by decide +kernel) (settable_of) rfl (by decide +kernel) (by decide +kernel) (by decide +kernel)) ev_int (by
  have:=op_ltI (Z:=Z) (w:=w) (H0:=H0) (n:=6) (a:=((((dueOf xs).map List.length).sum:Nat):Int)) (b:=8);have e:decide (((((dueOf xs).map List.length).sum:Nat):Int)<8)=decide (((dueOf xs).map List.length).sum<8):=decide_eq_decide.mpr (by omega);rwa [e] at this) rfl) hne2 rfl))) (fun q=>absurd q (by decide)) fun _=>gx_nil fun g=>⟨rfl,rfl,rfl⟩)) ?_
 exact hx_sub (law_tail k xs hz okr) (sub_cons rfl (sub_cons rfl (sub_cons rfl sub_nil)))
end
def objAt(K:Frag)(f:Addr):Obj:=(K.lookup f).getD {cls:=.none,data:=.plain}
def fdAt(K:Frag)(f:Addr)(d:FuncData):FuncData:=match(objAt K f).data with|.func fd=>fd|_=>d
def isDef(K:Frag)(f:Addr):Bool:=match K.lookup f with|some ⟨_,_,.func _,_⟩=>true|_=>false
theorem isDef_at{K:Frag}{f:Addr}{d:FuncData}(h:isDef K f=true):K.lookup f=some (objAt K f)∧(objAt K f).data=.func (fdAt K f d):=by
 unfold isDef at h;unfold fdAt objAt;cases e:K.lookup f with
 |none=>rw[e] at h;cases h
 |some o=>
  rw[e] at h;refine⟨rfl,?_⟩;obtain⟨c,dd,da,sl⟩:=o;cases da<;> first|rfl|cases h
def DefAt(K:Frag)(d:FuncData)(f:Addr)(st:Stmt):Prop:=
 (isDef K f,codeIn K (fdAt K f d).code (fdAt K f d).qualname,(fdAt K f d).body,(fdAt K f d).closure,(fdAt K f d).scope,(fdAt K f d).globals,(fdAt K f d).builtins)=(true,true,.stmts (bodyOf st),[],scopeOf st,mainGlobals,builtinsNs)
section
variable{K:Frag}{d:FuncData}{f:Addr}{st:Stmt}{H:Heap}{p:Program}{loose:List Str}{mg mb:Str->Option Value}{x:Str}{v:Value}{Z:Program}{w:World}
theorem DefAt.g(D:DefAt K d f st)(X:K.In H)(T:TopRead p loose mg mb H):DefG H f (fdAt K f d) (scopeOf st) (bodyOf st):=by
 simp only[DefAt,Prod.mk.injEq] at D;obtain⟨e1,e2,e3,e4,e5,e6,e7⟩:=D;obtain⟨h1,h2⟩:=isDef_at (d:=d) e1;exact⟨⟨_,X _ _ h1,h2⟩,T.nolimit,codeRec_of X e2,e3,e4,e5,e6,e7⟩
theorem DefAt.is'{ps:List Str}(D:DefAt K d f st)(X:K.In H)(T:TopRead p loose mg mb H)(hb:∀vs:List Value,vs.length=ps.length->bindArgs (fdAt K f d) ⟨vs,[]⟩=pure (ps.zip vs)):DefIs H f (fdAt K f d) (scopeOf st) ps (bodyOf st):=
 let g:=D.g X T
 ⟨g.obj,g.lim,g.rec',g.body,g.clo,g.scope,g.glob,g.bi,hb⟩
theorem gis_main(X:K.In H)(T:TopRead p loose mg mb H)(e:nsIn K mainGlobals x=some (some v)):GIs H x v:=⟨mg,T.g,.inl (mg_of X T.g e)⟩
theorem gis_boot(X:K.In H)(T:TopRead p loose mg mb H)(e:nsIn K mainGlobals x=some none)(hb:bootBuiltins x=some v)(hn:x≠"__name__"):GIs H x v:=⟨mg,T.g,.inr ⟨ns_none_of X T.g e,mb,T.b,(T.builtins x hn).trans hb⟩⟩
theorem bind1{fd:FuncData}{a:Str}(h:∀u,bindArgs fd ⟨[u],[]⟩=pure [(a,u)]):∀vs:List Value,vs.length=[a].length->bindArgs fd ⟨vs,[]⟩=pure ([a].zip vs)
 |[u],_=>h u
theorem bind2{fd:FuncData}{a b:Str}(h:∀u v,bindArgs fd ⟨[u,v],[]⟩=pure [(a,u),(b,v)]):∀vs:List Value,vs.length=[a,b].length->bindArgs fd ⟨vs,[]⟩=pure ([a,b].zip vs)
 |[u,v],_=>h u v
theorem bind3{fd:FuncData}{a b c:Str}(h:∀u v z,bindArgs fd ⟨[u,v,z],[]⟩=pure [(a,u),(b,v),(c,z)]):∀vs:List Value,vs.length=[a,b,c].length->bindArgs fd ⟨vs,[]⟩=pure ([a,b,c].zip vs)
 |[u,v,z],_=>h u v z
theorem defk{name:Str}{k:Nat}{ps:List Str}(D:DefAt K d f (stm k))(X:K.In H)(T:TopRead p loose mg mb H)(e:nsIn K mainGlobals name=some (some (.ref f)))(hb:∀vs:List Value,vs.length=ps.length->bindArgs (fdAt K f d) ⟨vs,[]⟩=pure (ps.zip vs)):DefK H name k ps:=⟨f,_,gis_main X T e,D.is' X T hb⟩
theorem methk{c:Cls2}{name:Str}(D:DefAt K d f st)(X:K.In H)(T:TopRead p loose mg mb H)(e:findIn K (.ref c.C1) name=some (some (.ref f)))(ht:typeIn K (.ref f)=some (.type "function")):MethK K H c name st f (fdAt K f d):=⟨e,ht,D.g X T⟩
def intKeys(es:List DictEntry):Bool:=es.all fun e=>match e.key with|.int k _=>e.hash==hashInt k|_=>false
def tabKeys(K:Frag)(a:Addr):Bool:=match K.lookup a with|some ⟨.type "dict",none,.dict es _,sl⟩=>sl.isEmpty && intKeys es.toList && (findBy Value.isInt es 97).isNone && (findBy Value.isInt es 98).isNone|_=>false
theorem tab_of{a:Addr}(X:K.In H)(e:tabKeys K a=true)(lo:(a==sysModules)=false):∃f,TabOf w Z a f H∧f 97=none∧f 98=none:=by
 unfold tabKeys at e;split at e
 ·next es n sl h=>
  simp only[Bool.and_eq_true,Option.isNone_iff_eq_none] at e;obtain⟨⟨⟨e0,e1⟩,e2⟩,e3⟩:=e;have hsl:sl=#[]:=Array.isEmpty_iff.mp e0;subst hsl;refine⟨fun k=>findBy Value.isInt es k,⟨lo,_,es,n,X _ _ h,⟨rfl,rfl,rfl⟩,rfl,fun d hd=>?_,fun _=>rfl⟩,e2,e3⟩;have:=all_eq_true.mp e1 d (Array.mem_toList_iff.mpr hd);cases hk:d.key<;> rw[hk] at this<;> first|cases this|skip
  rename_i k t
  exact⟨k,by show Value.isInt k (.int k t)=true;simp[Value.isInt],eq_of_beq this⟩
 ·cases e
end
theorem seq_none:seqItems? Value.none=(pure none:Sem (Option (Array Value))):=rfl
theorem bind_star1{fd:FuncData}{a c:Str}{pa pc:Arg}(h1:fd.params={posonlyargs:=[],args:=[pa],vararg:=some pc,kwonlyargs:=[],kw_defaults:=[],kwarg:=none,defaults:=[]})(h2:pa.arg=a)(h3:pc.arg=c)(h4:fd.defaults=.none):
  ∀vs ws:List Value,vs.length=[a].length->bindArgs fd ⟨vs++ws,[]⟩=(newTuple ws >>=fun t=>pure (([a]++[c]).zip (vs++[t])))
 |[u],ws,_=>by
  subst h2 h3;unfold bindArgs;rw[h1,h4,seq_none];simp[lookup_cons]
theorem bind_star2{fd:FuncData}{a b c:Str}{pa pb pc:Arg}(h1:fd.params={posonlyargs:=[],args:=[pa,pb],vararg:=some pc,kwonlyargs:=[],kw_defaults:=[],kwarg:=none,defaults:=[]})(h2:pa.arg=a)(h2':pb.arg=b)(h3:pc.arg=c)(h4:fd.defaults=.none)(hab:(b==a)=false):
  ∀vs ws:List Value,vs.length=[a,b].length->bindArgs fd ⟨vs++ws,[]⟩=(newTuple ws >>=fun t=>pure (([a,b]++[c]).zip (vs++[t])))
 |[u,v],ws,_=>by
  subst h2 h2' h3;unfold bindArgs;rw[h1,h4,seq_none];simp[lookup_cons,hab]
set_option maxHeartbeats 8000000 in
open_top hd for PySem.Challenge.rw_rx0086_01
abbrev cls2:Cls2:=⟨178,81⟩
section
variable(P:Params)(d:FuncData)
theorem at5:DefAt (hd.heap_39 P) d 55 (stm 5):=by unfold DefAt;kernel_rfl
theorem b5:∀u,bindArgs (fdAt (hd.heap_39 P) 55 d) ⟨[u],[]⟩=pure [(S "pattern",u)]:=fun u=>by kernel_rfl
theorem n5:nsIn (hd.heap_39 P) mainGlobals (S "escape")=some (some (.ref 55)):=by kernel_rfl
theorem at7:DefAt (hd.heap_39 P) d 62 (stm 7):=by unfold DefAt;kernel_rfl
theorem b7:∀u v z,bindArgs (fdAt (hd.heap_39 P) 62 d) ⟨[u,v,z],[]⟩=pure [(S "pat",u),(S "STAR",v),(S "QUESTION_MARK",z)]:=fun u v z=>by kernel_rfl
theorem n7:nsIn (hd.heap_39 P) mainGlobals (S "_translate")=some (some (.ref 62)):=by kernel_rfl
theorem at18:DefAt (hd.heap_39 P) d 189 (stm 18):=by unfold DefAt;kernel_rfl
theorem b18:∀u v,bindArgs (fdAt (hd.heap_39 P) 189 d) ⟨[u,v],[]⟩=pure [(S "ch_a",u),(S "ch_b",v)]:=fun u v=>by kernel_rfl
theorem n18:nsIn (hd.heap_39 P) mainGlobals (S "_substitution_cost")=some (some (.ref 189)):=by kernel_rfl
theorem at19:DefAt (hd.heap_39 P) d 196 (stm 19):=by unfold DefAt;kernel_rfl
theorem b19:∀u v z,bindArgs (fdAt (hd.heap_39 P) 196 d) ⟨[u,v,z],[]⟩=pure [(S "a",u),(S "b",v),(S "max_cost",z)]:=fun u v z=>by kernel_rfl
theorem n19:nsIn (hd.heap_39 P) mainGlobals (S "_levenshtein_distance")=some (some (.ref 196)):=by kernel_rfl
theorem at21:DefAt (hd.heap_39 P) d 203 (stm 21):=by unfold DefAt;kernel_rfl
theorem b21:∀u,bindArgs (fdAt (hd.heap_39 P) 203 d) ⟨[u],[]⟩=pure [(S "x",u)]:=fun u=>by kernel_rfl
theorem n21:nsIn (hd.heap_39 P) mainGlobals (S "_law_name")=some (some (.ref 203)):=by kernel_rfl
theorem at22:DefAt (hd.heap_39 P) d 210 (stm 22):=by unfold DefAt;kernel_rfl
theorem b22:∀u,bindArgs (fdAt (hd.heap_39 P) 210 d) ⟨[u],[]⟩=pure [(S "x",u)]:=fun u=>by kernel_rfl
theorem n22:nsIn (hd.heap_39 P) mainGlobals (S "_law_pattern")=some (some (.ref 210)):=by kernel_rfl
theorem at23:DefAt (hd.heap_39 P) d 215 (stm 23):=by unfold DefAt;kernel_rfl
theorem b23:∀u v,bindArgs (fdAt (hd.heap_39 P) 215 d) ⟨[u,v],[]⟩=pure [(S "numbers",u),(S "many",v)]:=fun u v=>by kernel_rfl
theorem n23:nsIn (hd.heap_39 P) mainGlobals (S "_law_jobs")=some (some (.ref 215)):=by kernel_rfl
theorem at24:DefAt (hd.heap_39 P) d 222 (stm 24):=by unfold DefAt;kernel_rfl
theorem b24:∀u v,bindArgs (fdAt (hd.heap_39 P) 222 d) ⟨[u,v],[]⟩=pure [(S "parts",u),(S "name",v)]:=fun u v=>by kernel_rfl
theorem n24:nsIn (hd.heap_39 P) mainGlobals (S "_law_takes")=some (some (.ref 222)):=by kernel_rfl
theorem at25:DefAt (hd.heap_39 P) d 229 (stm 25):=by unfold DefAt;kernel_rfl
theorem b25:∀u v,bindArgs (fdAt (hd.heap_39 P) 229 d) ⟨[u,v],[]⟩=pure [(S "pattern",u),(S "name",v)]:=fun u v=>by kernel_rfl
theorem n25:nsIn (hd.heap_39 P) mainGlobals (S "_law_fits")=some (some (.ref 229)):=by kernel_rfl
theorem at26:DefAt (hd.heap_39 P) d 234 (stm 26):=by unfold DefAt;kernel_rfl
theorem b26:∀u v,bindArgs (fdAt (hd.heap_39 P) 234 d) ⟨[u,v],[]⟩=pure [(S "one",u),(S "two",v)]:=fun u v=>by kernel_rfl
theorem n26:nsIn (hd.heap_39 P) mainGlobals (S "_law_price")=some (some (.ref 234)):=by kernel_rfl
theorem at27:DefAt (hd.heap_39 P) d 239 (stm 27):=by unfold DefAt;kernel_rfl
theorem b27:∀u,bindArgs (fdAt (hd.heap_39 P) 239 d) ⟨[u],[]⟩=pure [(S "jobs",u)]:=fun u=>by kernel_rfl
theorem n27:nsIn (hd.heap_39 P) mainGlobals (S "_law_sorter")=some (some (.ref 239)):=by kernel_rfl
theorem at28:DefAt (hd.heap_39 P) d 244 (stm 28):=by unfold DefAt;kernel_rfl
theorem b28:∀u,bindArgs (fdAt (hd.heap_39 P) 244 d) ⟨[u],[]⟩=pure [(S "jobs",u)]:=fun u=>by kernel_rfl
theorem n28:nsIn (hd.heap_39 P) mainGlobals (S "_law_needs")=some (some (.ref 244)):=by kernel_rfl
theorem at29:DefAt (hd.heap_39 P) d 251 (stm 29):=by unfold DefAt;kernel_rfl
theorem b29:∀u,bindArgs (fdAt (hd.heap_39 P) 251 d) ⟨[u],[]⟩=pure [(S "sorter",u)]:=fun u=>by kernel_rfl
theorem n29:nsIn (hd.heap_39 P) mainGlobals (S "_law_rounds")=some (some (.ref 251)):=by kernel_rfl
theorem at30:DefAt (hd.heap_39 P) d 256 (stm 30):=by unfold DefAt;kernel_rfl
theorem b30:∀u,bindArgs (fdAt (hd.heap_39 P) 256 d) ⟨[u],[]⟩=pure [(S "needs",u)]:=fun u=>by kernel_rfl
theorem n30:nsIn (hd.heap_39 P) mainGlobals (S "_law_due_rounds")=some (some (.ref 256)):=by kernel_rfl
theorem at31:DefAt (hd.heap_39 P) d 261 (stm 31):=by unfold DefAt;kernel_rfl
theorem b31:∀u v,bindArgs (fdAt (hd.heap_39 P) 261 d) ⟨[u,v],[]⟩=pure [(S "rounds",u),(S "parts",v)]:=fun u v=>by kernel_rfl
theorem n31:nsIn (hd.heap_39 P) mainGlobals (S "_law_thread")=some (some (.ref 261)):=by kernel_rfl
theorem at32:DefAt (hd.heap_39 P) d 266 (stm 32):=by unfold DefAt;kernel_rfl
theorem b32:∀u v,bindArgs (fdAt (hd.heap_39 P) 266 d) ⟨[u,v],[]⟩=pure [(S "rounds",u),(S "pattern",v)]:=fun u v=>by kernel_rfl
theorem n32:nsIn (hd.heap_39 P) mainGlobals (S "_law_all")=some (some (.ref 266)):=by kernel_rfl
theorem mt0:DefAt (hd.heap_39 P) d 114 (meth 13 0):=by unfold DefAt;kernel_rfl
theorem mf0:findIn (hd.heap_39 P) (.ref 178) (S "__init__")=some (some (.ref 114)):=by kernel_rfl
theorem my0:typeIn (hd.heap_39 P) (.ref 114)=some (.type "function"):=by kernel_rfl
theorem mt1:DefAt (hd.heap_39 P) d 121 (meth 13 1):=by unfold DefAt;kernel_rfl
theorem mb1:∀u v,bindArgs (fdAt (hd.heap_39 P) 121 d) ⟨[u,v],[]⟩=pure [(S "self",u),(S "node",v)]:=fun u v=>by kernel_rfl
theorem mf1:findIn (hd.heap_39 P) (.ref 178) (S "_get_nodeinfo")=some (some (.ref 121)):=by kernel_rfl
theorem my1:typeIn (hd.heap_39 P) (.ref 121)=some (.type "function"):=by kernel_rfl
theorem mt2:DefAt (hd.heap_39 P) d 128 (meth 13 2):=by unfold DefAt;kernel_rfl
theorem mf2:findIn (hd.heap_39 P) (.ref 178) (S "add")=some (some (.ref 128)):=by kernel_rfl
theorem my2:typeIn (hd.heap_39 P) (.ref 128)=some (.type "function"):=by kernel_rfl
theorem mt3:DefAt (hd.heap_39 P) d 133 (meth 13 3):=by unfold DefAt;kernel_rfl
theorem mb3:∀u,bindArgs (fdAt (hd.heap_39 P) 133 d) ⟨[u],[]⟩=pure [(S "self",u)]:=fun u=>by kernel_rfl
theorem mf3:findIn (hd.heap_39 P) (.ref 178) (S "prepare")=some (some (.ref 133)):=by kernel_rfl
theorem my3:typeIn (hd.heap_39 P) (.ref 133)=some (.type "function"):=by kernel_rfl
theorem mt4:DefAt (hd.heap_39 P) d 140 (meth 13 4):=by unfold DefAt;kernel_rfl
theorem mb4:∀u,bindArgs (fdAt (hd.heap_39 P) 140 d) ⟨[u],[]⟩=pure [(S "self",u)]:=fun u=>by kernel_rfl
theorem mf4:findIn (hd.heap_39 P) (.ref 178) (S "get_ready")=some (some (.ref 140)):=by kernel_rfl
theorem my4:typeIn (hd.heap_39 P) (.ref 140)=some (.type "function"):=by kernel_rfl
theorem mt5:DefAt (hd.heap_39 P) d 147 (meth 13 5):=by unfold DefAt;kernel_rfl
theorem mb5:∀u,bindArgs (fdAt (hd.heap_39 P) 147 d) ⟨[u],[]⟩=pure [(S "self",u)]:=fun u=>by kernel_rfl
theorem mf5:findIn (hd.heap_39 P) (.ref 178) (S "is_active")=some (some (.ref 147)):=by kernel_rfl
theorem my5:typeIn (hd.heap_39 P) (.ref 147)=some (.type "function"):=by kernel_rfl
theorem mt7:DefAt (hd.heap_39 P) d 161 (meth 13 7):=by unfold DefAt;kernel_rfl
theorem mf7:findIn (hd.heap_39 P) (.ref 178) (S "done")=some (some (.ref 161)):=by kernel_rfl
theorem my7:typeIn (hd.heap_39 P) (.ref 161)=some (.type "function"):=by kernel_rfl
theorem mt8:DefAt (hd.heap_39 P) d 168 (meth 13 8):=by unfold DefAt;kernel_rfl
theorem mb8:∀u,bindArgs (fdAt (hd.heap_39 P) 168 d) ⟨[u],[]⟩=pure [(S "self",u)]:=fun u=>by kernel_rfl
theorem mf8:findIn (hd.heap_39 P) (.ref 178) (S "_find_cycle")=some (some (.ref 168)):=by kernel_rfl
theorem my8:typeIn (hd.heap_39 P) (.ref 168)=some (.type "function"):=by kernel_rfl
theorem nt1:DefAt (hd.heap_39 P) d 77 (meth 11 1):=by unfold DefAt;kernel_rfl
theorem nb1:∀u v,bindArgs (fdAt (hd.heap_39 P) 77 d) ⟨[u,v],[]⟩=pure [(S "self",u),(S "node",v)]:=fun u v=>by kernel_rfl
theorem nf1:findIn (hd.heap_39 P) (.ref 81) (S "__init__")=some (some (.ref 77)):=by kernel_rfl
theorem ny1:typeIn (hd.heap_39 P) (.ref 77)=some (.type "function"):=by kernel_rfl
theorem ckls:ClsK (hd.heap_39 P) cls2 where
 c1:=⟨by kernel_rfl,by kernel_rfl,by kernel_rfl,by kernel_rfl,by kernel_rfl⟩
 c2:=⟨by kernel_rfl,by kernel_rfl,by kernel_rfl,by kernel_rfl,by kernel_rfl⟩
 f1:=by unfold freeName;kernel_rfl
 f2:=by unfold freeName;kernel_rfl
 f3:=by unfold freeName;kernel_rfl
 f4:=by unfold freeName;kernel_rfl
 s0:=⟨82,by kernel_rfl,by kernel_rfl,by kernel_rfl,by kernel_rfl,by kernel_rfl,by decide⟩
 s1:=⟨83,by kernel_rfl,by kernel_rfl,by kernel_rfl,by kernel_rfl,by kernel_rfl,by decide⟩
 s2:=⟨84,by kernel_rfl,by kernel_rfl,by kernel_rfl,by kernel_rfl,by kernel_rfl,by decide⟩
theorem exc96:excIn (hd.heap_39 P) 96 [.type "ValueError",.type "Exception",.type "BaseException",.type "object"] "ValueError.__new__"=true:=by kernel_rfl
theorem nexc:nsIn (hd.heap_39 P) mainGlobals (S "CycleError")=some (some (.ref 96)):=by kernel_rfl
theorem nC1:nsIn (hd.heap_39 P) mainGlobals (S "TopologicalSorter")=some (some (.ref 178)):=by kernel_rfl
theorem nC2:nsIn (hd.heap_39 P) mainGlobals (S "_NodeInfo")=some (some (.ref 81)):=by kernel_rfl
theorem mk1:makesIn (hd.heap_39 P) 178=true:=by kernel_rfl
theorem mk2:makesIn (hd.heap_39 P) 81=true:=by kernel_rfl
theorem tab45:tabKeys (hd.heap_39 P) 45=true:=by kernel_rfl
theorem ntab:nsIn (hd.heap_39 P) mainGlobals (S "_special_chars_map")=some (some (.ref 45)):=by kernel_rfl
theorem i_CASE_COST:nsIn (hd.heap_39 P) mainGlobals (S "_CASE_COST")=some (some (.int 1 691)):=by kernel_rfl
theorem i_MOVE_COST:nsIn (hd.heap_39 P) mainGlobals (S "_MOVE_COST")=some (some (.int 2 689)):=by kernel_rfl
theorem i_MAX_STRING_SIZE:nsIn (hd.heap_39 P) mainGlobals (S "_MAX_STRING_SIZE")=some (some (.int 40 687)):=by kernel_rfl
theorem i_NODE_OUT:nsIn (hd.heap_39 P) mainGlobals (S "_NODE_OUT")=some (some (.int (-1) 506)):=by kernel_rfl
theorem i_NODE_DONE:nsIn (hd.heap_39 P) mainGlobals (S "_NODE_DONE")=some (some (.int (-2) 509)):=by kernel_rfl
theorem g_len{H:Heap}{p:Program}{loose:List Str}{mg mb:Str->Option Value}(X:Frag.In (hd.heap_39 P) H)(T:TopRead p loose mg mb H):GIs H (S "len") (.builtin "len"):=gis_boot X T (by kernel_rfl) (by kernel_rfl) (by decide +kernel)
theorem g_min{H:Heap}{p:Program}{loose:List Str}{mg mb:Str->Option Value}(X:Frag.In (hd.heap_39 P) H)(T:TopRead p loose mg mb H):GIs H (S "min") (.builtin "min"):=gis_boot X T (by kernel_rfl) (by kernel_rfl) (by decide +kernel)
theorem g_sum{H:Heap}{p:Program}{loose:List Str}{mg mb:Str->Option Value}(X:Frag.In (hd.heap_39 P) H)(T:TopRead p loose mg mb H):GIs H (S "sum") (.builtin "sum"):=gis_boot X T (by kernel_rfl) (by kernel_rfl) (by decide +kernel)
theorem g_sorted{H:Heap}{p:Program}{loose:List Str}{mg mb:Str->Option Value}(X:Frag.In (hd.heap_39 P) H)(T:TopRead p loose mg mb H):GIs H (S "sorted") (.builtin "sorted"):=gis_boot X T (by kernel_rfl) (by kernel_rfl) (by decide +kernel)
theorem g_isinstance{H:Heap}{p:Program}{loose:List Str}{mg mb:Str->Option Value}(X:Frag.In (hd.heap_39 P) H)(T:TopRead p loose mg mb H):GIs H (S "isinstance") (.builtin "isinstance"):=gis_boot X T (by kernel_rfl) (by kernel_rfl) (by decide +kernel)
theorem g_iter{H:Heap}{p:Program}{loose:List Str}{mg mb:Str->Option Value}(X:Frag.In (hd.heap_39 P) H)(T:TopRead p loose mg mb H):GIs H (S "iter") (.builtin "iter"):=gis_boot X T (by kernel_rfl) (by kernel_rfl) (by decide +kernel)
theorem g_zip{H:Heap}{p:Program}{loose:List Str}{mg mb:Str->Option Value}(X:Frag.In (hd.heap_39 P) H)(T:TopRead p loose mg mb H):GIs H (S "zip") (.type "zip"):=gis_boot X T (by kernel_rfl) (by kernel_rfl) (by decide +kernel)
theorem g_range{H:Heap}{p:Program}{loose:List Str}{mg mb:Str->Option Value}(X:Frag.In (hd.heap_39 P) H)(T:TopRead p loose mg mb H):GIs H (S "range") (.type "range"):=gis_boot X T (by kernel_rfl) (by kernel_rfl) (by decide +kernel)
theorem g_list{H:Heap}{p:Program}{loose:List Str}{mg mb:Str->Option Value}(X:Frag.In (hd.heap_39 P) H)(T:TopRead p loose mg mb H):GIs H (S "list") (.type "list"):=gis_boot X T (by kernel_rfl) (by kernel_rfl) (by decide +kernel)
theorem g_type{H:Heap}{p:Program}{loose:List Str}{mg mb:Str->Option Value}(X:Frag.In (hd.heap_39 P) H)(T:TopRead p loose mg mb H):GIs H (S "type") (.type "type"):=gis_boot X T (by kernel_rfl) (by kernel_rfl) (by decide +kernel)
theorem g_str{H:Heap}{p:Program}{loose:List Str}{mg mb:Str->Option Value}(X:Frag.In (hd.heap_39 P) H)(T:TopRead p loose mg mb H):GIs H (S "str") (.type "str"):=gis_boot X T (by kernel_rfl) (by kernel_rfl) (by decide +kernel)
theorem g_tuple{H:Heap}{p:Program}{loose:List Str}{mg mb:Str->Option Value}(X:Frag.In (hd.heap_39 P) H)(T:TopRead p loose mg mb H):GIs H (S "tuple") (.type "tuple"):=gis_boot X T (by kernel_rfl) (by kernel_rfl) (by decide +kernel)
theorem g_bool{H:Heap}{p:Program}{loose:List Str}{mg mb:Str->Option Value}(X:Frag.In (hd.heap_39 P) H)(T:TopRead p loose mg mb H):GIs H (S "bool") (.type "bool"):=gis_boot X T (by kernel_rfl) (by kernel_rfl) (by decide +kernel)
theorem g_set{H:Heap}{p:Program}{loose:List Str}{mg mb:Str->Option Value}(X:Frag.In (hd.heap_39 P) H)(T:TopRead p loose mg mb H):GIs H (S "set") (.type "set"):=gis_boot X T (by kernel_rfl) (by kernel_rfl) (by decide +kernel)
theorem g_StopIteration{H:Heap}{p:Program}{loose:List Str}{mg mb:Str->Option Value}(X:Frag.In (hd.heap_39 P) H)(T:TopRead p loose mg mb H):GIs H (S "StopIteration") (.type "StopIteration"):=gis_boot X T (by kernel_rfl) (by kernel_rfl) (by decide +kernel)
theorem initPeek(a:Addr)(U:Setting):peek (hd.heap_39 P) U (bindArgs (fdAt (hd.heap_39 P) 114 d) ⟨[.ref a],[]⟩)=some [(S "self",.ref a),(S "graph",.none)]:=by kernel_rfl
theorem addP:∃pa pb pc:Arg,(fdAt (hd.heap_39 P) 128 d).params={posonlyargs:=[],args:=[pa,pb],vararg:=some pc,kwonlyargs:=[],kw_defaults:=[],kwarg:=none,defaults:=[]}∧pa.arg=S "self"∧pb.arg=S "node"∧pc.arg=S "predecessors"∧(fdAt (hd.heap_39 P) 128 d).defaults=.none:=⟨_,_,_,by rfl,by kernel_rfl,by kernel_rfl,by kernel_rfl,by kernel_rfl⟩
theorem doneP:∃pa pc:Arg,(fdAt (hd.heap_39 P) 161 d).params={posonlyargs:=[],args:=[pa],vararg:=some pc,kwonlyargs:=[],kw_defaults:=[],kwarg:=none,defaults:=[]}∧pa.arg=S "self"∧pc.arg=S "nodes"∧(fdAt (hd.heap_39 P) 161 d).defaults=.none:=⟨_,_,by rfl,by kernel_rfl,by kernel_rfl,by kernel_rfl⟩
end
theorem lawk{Z:Program}{w:World}{H:Heap}{p:Program}{loose:List Str}{mg mb:Str->Option Value}(d:FuncData)(X:Frag.In (hd.heap_39 w.params) H)(T:TopRead p loose mg mb H):LawK Z w H (hd.heap_39 w.params) cls2 96:=by
 have hmg:∃o,H.get? mainGlobals=some o:=let⟨o,_,_,e,_⟩:=T.g;⟨o,e⟩;have gn:GnK (hd.heap_39 w.params) H cls2:=⟨121,_,methk (mt1 w.params d) X T (mf1 w.params) (my1 w.params),bind2 (mb1 w.params d)⟩;exact{
  hK:=X
  ck:=ckls w.params
  nk:=⟨mk2 w.params,⟨77,_,nf1 w.params,ny1 w.params,(nt1 w.params d).g X T,bind2 (nb1 w.params d)⟩,gis_main X T (nC2 w.params)⟩
  sk:=⟨mk1 w.params,hmg,⟨114,_,mf0 w.params,my0 w.params,(mt0 w.params d).g X T,fun a A s η vs B m=>by
   match vs,m with
   |[v],⟨e,_⟩=>
    have e:v=.ref a:=e;subst e;exact kp_binds (X.keeps B.h0) (fun U=>initPeek w.params d a U) _ _ _ _ (Pu.here ⟨[.ref a,.none],rfl,rfl,⟨[],.none⟩,trivial⟩)⟩,gis_main X T (nC1 w.params)⟩
  ak:=⟨⟨128,_,methk (mt2 w.params d) X T (mf2 w.params) (my2 w.params),by
   obtain⟨pa,pb,pc,h1,h2,h3,h4,h5⟩:=addP w.params d;exact bind_star2 h1 h2 h3 h4 h5 (by decide +kernel)⟩,gn,g_len w.params X T⟩
  pk:=⟨⟨168,_,methk (mt8 w.params d) X T (mf8 w.params) (my8 w.params),bind1 (mb8 w.params d)⟩,⟨g_set w.params X T,g_iter w.params X T,g_len w.params X T,g_StopIteration w.params X T⟩,hmg,⟨⟨mg,T.g,own_of_in X T (nexc w.params) (exc96 w.params)⟩,PySem.F.excBase_ValueError⟩⟩
  prk:=⟨133,_,methk (mt3 w.params d) X T (mf3 w.params) (my3 w.params),bind1 (mb3 w.params d)⟩
  rk:={
   act:=⟨147,_,methk (mt5 w.params d) X T (mf5 w.params) (my5 w.params),bind1 (mb5 w.params d)⟩
   got:=⟨140,_,methk (mt4 w.params d) X T (mf4 w.params) (my4 w.params),bind1 (mb4 w.params d)⟩
   done:=⟨161,_,methk (mt7 w.params d) X T (mf7 w.params) (my7 w.params),by
    obtain⟨pa,pc,h1,h2,h3,h4⟩:=doneP w.params d;exact bind_star1 h1 h2 h3 h4⟩
   len:=g_len w.params X T
   tup:=g_tuple w.params X T
   bool:=g_bool w.params X T
   out:=⟨506,gis_main X T (i_NODE_OUT w.params)⟩
   dn:=⟨509,gis_main X T (i_NODE_DONE w.params)⟩}
  mg:=hmg
  min:=g_min w.params X T
  sum:=g_sum w.params X T
  zip:=g_zip w.params X T
  range:=g_range w.params X T
  list:=g_list w.params X T
  sorted:=g_sorted w.params X T
  type:=g_type w.params X T
  isi:=g_isinstance w.params X T
  str:=g_str w.params X T
  case:=⟨691,gis_main X T (i_CASE_COST w.params)⟩
  move:=⟨689,gis_main X T (i_MOVE_COST w.params)⟩
  max:=⟨687,gis_main X T (i_MAX_STRING_SIZE w.params)⟩
  tab:=by
   obtain⟨f,h1,h2,h3⟩:=tab_of (Z:=Z) (w:=w) X (tab45 w.params) rfl;exact⟨45,f,h1,gis_main X T (ntab w.params),h2,h3⟩
  d5:=defk (at5 w.params d) X T (n5 w.params) (bind1 (b5 w.params d))
  d7:=defk (at7 w.params d) X T (n7 w.params) (bind3 (b7 w.params d))
  d18:=defk (at18 w.params d) X T (n18 w.params) (bind2 (b18 w.params d))
  d19:=defk (at19 w.params d) X T (n19 w.params) (bind3 (b19 w.params d))
  d21:=defk (at21 w.params d) X T (n21 w.params) (bind1 (b21 w.params d))
  d22:=defk (at22 w.params d) X T (n22 w.params) (bind1 (b22 w.params d))
  d23:=defk (at23 w.params d) X T (n23 w.params) (bind2 (b23 w.params d))
  d24:=defk (at24 w.params d) X T (n24 w.params) (bind2 (b24 w.params d))
  d25:=defk (at25 w.params d) X T (n25 w.params) (bind2 (b25 w.params d))
  d26:=defk (at26 w.params d) X T (n26 w.params) (bind2 (b26 w.params d))
  d27:=defk (at27 w.params d) X T (n27 w.params) (bind1 (b27 w.params d))
  d28:=defk (at28 w.params d) X T (n28 w.params) (bind1 (b28 w.params d))
  d29:=defk (at29 w.params d) X T (n29 w.params) (bind1 (b29 w.params d))
  d30:=defk (at30 w.params d) X T (n30 w.params) (bind1 (b30 w.params d))
  d31:=defk (at31 w.params d) X T (n31 w.params) (bind2 (b31 w.params d))
  d32:=defk (at32 w.params d) X T (n32 w.params) (bind2 (b32 w.params d))
 }
theorem items_int{R:WRecords}:∀{xs:List WData},WShape.hasItems R xs .int=true->∃ns:List Int,xs=ns.map .int
 |[],_=>⟨[],rfl⟩
 |x::xs,h=>by
  rw[WShape.hasItems,Bool.and_eq_true] at h;obtain⟨i,rfl⟩:=hasW_int h.1;obtain⟨ns,rfl⟩:=items_int h.2;exact⟨i::ns,rfl⟩
theorem reads_ints{R:WRecords}{cl:Str->Option Addr}{h g:Heap}:∀{ns:List Int} {vs:List Value} {as:List Addr},ReadsAllW R cl h vs (ns.map .int) as->F2 (fun v d=>Rd d g v) vs (ns.map PyData.int)
 |[],_,_,.nil=>.nil
 |i::ns,_,_,.cons (.int _ _) r=>.cons (int_rd _ _ _) (reads_ints r)
theorem law_args{args:List WData}(h:PySem.Challenge.rw_rx0086_01.row.toRowW.claim.pre args=true):∃ns:List Int,args=[.list (ns.map .int)]∧ns.length≤63:=by
 obtain⟨h1,h2⟩:=pre_splitW h;have e:PySem.Challenge.rw_rx0086_01.row.toRowW.args=[.list .int]:=rfl;rw[e] at h1;obtain⟨d,r,rfl,a,b⟩:=hasAllW_cons h1;have:=hasAllW_nil b;subst this;obtain⟨xs,rfl,hx⟩:=hasW_list a;obtain⟨ns,rfl⟩:=items_int hx;refine⟨ns,rfl,?_⟩;have e2:PySem.Challenge.rw_rx0086_01.row.toRowW.pre=.and (.not (.lt (.lit (.int 63)) (.len (.arg 0)))) (.lit (.bool true)):=rfl;rw[e2] at h2;obtain⟨h3,_⟩:=holds_andW h2;have h4:¬(63:Int)<((ns.map WData.int).length:Int):=by
  intro hlt;simp[WTm.holds,WTm.value] at h3;have e3:less? (WData.int 63) (WData.int (ns.length:Int))=some true:=by
   have hlt:(63:Int)<(ns.length:Int):=by simpa using hlt
   simp[less?,Num.less?,hlt]
  rw[e3] at h3;cases h3
 rw[length_map] at h4;omega
theorem law_post(args ds:List WData):PySem.Challenge.rw_rx0086_01.row.toRowW.claim.post args (.bool true) ds=true:=by
 have e1:WShape.has PySem.Challenge.rw_rx0086_01.row.records (.bool true) .bool=true:=by simp[WShape.has,WShape.arms]
 have e2:WTm.holds PySem.Challenge.rw_rx0086_01.row.records (.eq .res (.lit (.bool true))) {args:=args,res:=some (.bool true),after:=ds}=true:=by simp[WTm.holds,WTm.value,same]
 exact(Bool.and_eq_true ..).mpr ⟨e1,e2⟩
def dfl:FuncData:=docDef (S "") {posonlyargs:=[],args:=[],vararg:=none,kwonlyargs:=[],kw_defaults:=[],kwarg:=none,defaults:=[]} [] scLw .none .none .none
section
variable{Z:Program}{w:World}{K:Frag}{c:Cls2}{C:Addr}{s₁:Shared}
theorem base_self(h:Heap):Base h [] h:=⟨fun b o e=>vis_get e (fun m=>nomatch m),fun a m=>nomatch m⟩
theorem law_call(k:LawK Z w s₁.heap K c C){a:Addr}{fd:FuncData}(D:DefG s₁.heap a fd scLw (bodyOf (stm 33)))(hb:∀vs:List Value,vs.length=[S "script"].length->bindArgs fd ⟨vs,[]⟩=pure ([S "script"].zip vs)){ns:List Int}(hz:ns.length≤63){v:Value}(hv:Rd (.list (ns.map .int)) (vis s₁.heap []) v):
  wpAny (model Z w) callerA (call (.ref a) [v]) (fun u s'=>u=.bool true∧(∀b o,s₁.heap.get? b=some o->s'.heap.get? b=some o)∧s'.os=s₁.os∧s'.gens=s₁.gens) NoE s₁:=by
 have F:FnF true Z w s₁.heap 7 (.ref a) [.d (.list (ns.map .int))] [] (fun g u _=>Rd (.bool true) g u):=fn_gen (x:=true) (n:=6) (ps:=[S "script"]) (xs':=[.d (.list (ns.map .int))]) D (bind_plain hb rfl) (by decide +kernel) rfl (gsf_mono (law_body k ns hz) fun g fl σ' δ' q=>by
  obtain⟨u,rfl,q⟩:=q;exact q)
 have good:Good 7 callerA:=⟨rfl,by show 1+claimMargin+7<recursionLimit;decide,by show 4+8*7+200<cLine;decide⟩;refine wpAny_call (codeAny_mono (F callerA [] s₁ [] [v] good (base_self _) ⟨(fun p m=>nomatch m),(fun p m=>nomatch m)⟩ (show _∧_∧_ from⟨rfl,(fun e m=>nomatch m),(fun b m=>nomatch m)⟩) (fun b m=>nomatch m) ⟨hv,trivial⟩) fun r s' z=>?_);rcases r with e|(u|_|_|_)<;> first|exact z.elim|skip
 obtain⟨h',tk,η',L',rfl,ku,_,_,_,_,_,q⟩:=z;exact⟨rd_bool q,fun b o e=>ku.1 b o (fun m=>nomatch m) (fun m=>nomatch m) e,rfl,rfl⟩
end
end Mine
set_option maxHeartbeats 4000000 in
theorem PySem.Challenge.cw_rx0086_01_holds : PySem.Challenge.rw_rx0086_01.Holds := by
 refine Mine.hd ?_;intro w s₀ s₁ mg mb G Y a o pm cd doc dV kV ho hd' hcd hD hmg hg args vals as hpre hlay hrd hwl hlo;have X:=km_in_of Y;have T:=topRead_of G.T;obtain⟨ns,rfl,hz⟩:=Mine.law_args hpre;have hdV:dV=.none:=hD.pos_none rfl;subst hdV
 match vals,as,hrd with
 |_,_,.cons (.list (a:=l) (o:=ol) (vs:=vs) (n:=nl) h1 h2 h3 r) .nil=>
 have hv:Mine.Rd (.list (ns.map .int)) (Mine.vis s₁.heap []) (.ref l):=Mine.list_rd (vs:=vs.toList) ⟨ol,Mine.vis_get h1 (fun m=>nomatch m),h2,nl,by simpa using h3⟩ (Mine.reads_ints r);refine wpAny_mono (Mine.law_call (Mine.lawk (Z:=PySem.Challenge.pw_rx0086_01) (w:=w) Mine.dfl X T) ⟨⟨o,ho,hd'⟩,T.nolimit,hcd,by kernel_rfl,by kernel_rfl,by kernel_rfl,by kernel_rfl,by kernel_rfl⟩ (Mine.bind1 fun u=>by kernel_rfl) hz hv) (fun u s' q=>?_) fun _ _ f=>f.elim;obtain⟨rfl,q1,q2,q3⟩:=q;exact⟨.inl ⟨.bool true,.bool true,[],rfl,fun cls=>rfl,.bool true,Mine.law_post _ _,fun _=>⟨.nil,fun a m=>nomatch m⟩⟩,.of_keep q1,q2,.of_eq (by rw[q3,hg])⟩
