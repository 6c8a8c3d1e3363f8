import PyProof.Rows.All
import Wide.All
import OpenK.AllK
import Wide.FinOn
import Lean
import PySem.Challenge.RW_rk0005_01
set_option Elab.async false
set_option maxRecDepth 100000
set_option maxHeartbeats 4000000
set_option genInjectivity false
set_option genSizeOf false
set_option linter.all false
open PySem PySem.W PyProof.Rows PySem.Builtin PySem.Builtin.ObjectAttr
open PySem PySem.W PyProof.Rows
namespace Mine
theorem aJ{α:Type}{x:α}{C:Prop}(h:(none:Option α)=some x):C:=nomatch h
theorem eN{α β B:Type}{a x:α}{b y:β}{c z:B}{C:Prop}(h:some (a,b,c)=some (x,y,z))(H:a=x->b=y->c=z->C):C :=
 H (congrArg (·.1) (Option.some.inj h)) (congrArg (·.2.1) (Option.some.inj h)) (congrArg (·.2.2) (Option.some.inj h))
theorem ff{P:Prop}(h:false=true):P:=nomatch h
inductive AV where
 | val (v:Value)
 | bool (b:Bool)
 | int (i:Int)
 | str (x:Str)
 | ref (i:Nat)
 | tup (xs:List AV)
 | obj (C:Addr) (fs:List (Str×AV))
 | eg (C:Addr) (fs:List AV)
 | cY (name:Str) (params:Arguments) (body:List Stmt) (scope:Scope) (cl:List (Str×Nat)) (fz:List (Str×AV))
 | lst (xs:List AV)
 /-- no more known -/
 | any
noncomputable abbrev dG:=Option (List ((Int×Int)×Str))
inductive Cell where
 | list (xs:List AV)
 | ns (m:List (Str×AV))
 | box (v:Option AV)
 | dict (m:List (Str×AV))
 | inst (C:Addr) (d:Nat)
 | sinst (C:Addr) (d:Nat) (xs:List (Option AV))
 | liter (l:Nat) (k:Nat)
 | lend
 | tab (c:Addr) (ps:Array Value) (ks:dG)
 | raw (o:Obj)
 | exc (C:Addr) (d t:Option Nat)
 | tb (fl:Option Nat)
 | rng (a b c:Int)
 | rit (x left step:Int)
 | wl (l:Nat) (k:Nat)
 | enum (it:Nat) (k:Nat)
 | any
 | map (h:Str->Int) (m:List (Str×AV))
 | sit (x:Str) (k:Nat)
 | rev (l:Nat) (k:Int)
 | fit (xs:List AV) (k:Nat)
structure St where
 n:Nat
 objs:List (Nat×Cell)
noncomputable abbrev Fz:=Addr->Option Obj
noncomputable abbrev ay:=Nat->Addr
noncomputable def cL(vs:List Value)(k:Nat):Obj:={ cls:=.type "list",dict:=none,data:=.seq vs.toArray k,slots:=#[] }
noncomputable def oTup(vs:List Value)(k:Nat):Obj:={ cls:=.type "tuple",data:=.seq vs.toArray k }
noncomputable def jd(es:List DictEntry)(k:Nat):Obj:={ cls:=.type "dict",data:=.dict es.toArray k }
noncomputable def jN(C d:Addr):Obj:={ cls:=.ref C,dict:=some d,data:=.plain }
noncomputable def kI(C d:Addr)(vs:List (Option Value)):Obj:={ cls:=.ref C,dict:=some d,data:=.plain,slots:=vs.toArray }
noncomputable def dE(l:Value)(k:Int):Obj:={ cls:=.type "list_iterator",data:=.fields #[l,.int k 0] }
noncomputable def eG(C:Addr)(d:Option Addr)(vs:Array Value):Obj:={ cls:=.ref C,dict:=d,data:=.fields vs }
noncomputable def kJ(ps:Array Value):Obj:={ cls:=.none,data:=.fields ps }
noncomputable def tr(name qual:Str)(params:Arguments)(body:List Stmt)(scope:Scope)(cl:List (Str×Addr))(pm code ct:Value):FuncData :=
 {name:=name,qualname:=qual,params:=params,body:=.stmts body,scope:=scope,globals:=mainGlobals,closure:=cl,defaults:=.none,kwdefaults:=.none,
  doc:=.none,pyModule:=pm,code:=code,closureTuple:=ct,builtins:=builtinsNs }
inductive d7(F:Fz)(cd:Value)(q:Str):Prop where
 | mk (c:Addr) (o:Obj) (vs:Array Value) (t:Tok) (e:cd = .ref c) (h:F c=some o) (hd:o.data = .fields vs) (hq:vs[1]? = some (.str q t))
noncomputable def b4(Z:ay)(cl:List (Str×Nat)):List (Str×Addr):=cl.map λp=>(p.1,Z p.2)
inductive jT(F:Fz)(ih:List Value->Prop)(v:Value):Prop where
 | mk (a:Addr) (vs:List Value) (k:Nat) (e:v = .ref a) (h:F a=some (oTup vs k)) (r:ih vs)
inductive gu(F:Fz)(ih:List Value->Prop)(v:Value):Prop where
 | mk (a:Addr) (vs:List Value) (k:Nat) (e:v = .ref a) (h:F a=some (cL vs k)) (r:ih vs)
inductive jU(F:Fz)(C:Addr)(ih:List DictEntry->Prop)(v:Value):Prop where
 | mk (a d:Addr) (od:Obj) (es:List DictEntry) (k:Nat) (e:v = .ref a) (h:F a=some (jN C d)) (hd:F d=some od) (he:od.data = .dict es.toArray k) (r:ih es)
inductive jV(F:Fz)(C:Addr)(ih:List Value->Prop)(v:Value):Prop where
 | mk (a d:Addr) (od:Obj) (vs:List Value) (e:v = .ref a) (h:F a=some (kI C d (vs.map some))) (hd:F d=some od) (r:ih vs)
noncomputable def eO(F:Fz):List (Str×Addr)->List DictEntry->Prop
 | [],[]=>True
 | p::cl,e::es=>((∃o,F p.2=some o/\o.data = .cell (some e.val))/\Value.isStrOf p.1 e.key=true)/\eO F cl es
 | _,_=>False
theorem eO.mono{F F':Fz}(hF:∀a o,F a=some o->F' a=some o):∀{cl:List (Str×Addr)} {es:List DictEntry},eO F cl es->eO F' cl es
 | [],[],_=>trivial
 | [],_::_,h=>h.elim
 | _::_,[],h=>h.elim
 | _::_,_::_,h=>⟨⟨h.1.1.imp λo q=>⟨hF _ _ q.1,q.2⟩,h.1.2⟩,eO.mono hF h.2⟩
inductive fj(n:Nat)(Z:ay)(F:Fz)(name:Str)(params:Arguments)(body:List Stmt)(scope:Scope)(cl:List (Str×Nat))(ih:List DictEntry->Prop)(v:Value):Prop where
 | mk (a:Addr) (qual:Str) (o:Obj) (pm code ct:Value) (fc:List (Str×Addr)) (es:List DictEntry) (e:v = .ref a) (h:F a=some o) (hc:o.cls = .type "function") (hd:o.data = .func (tr name qual params body scope (b4 Z cl++fc) pm code ct)) (hk:d7 F code qual) (hb:∀p∈cl,p.2<n) (hx:eO F fc es) (r:ih es)
noncomputable def dy{α:Type}(p:α->Prop)(q:List α->Prop):List α->Prop
 | []=>False
 | v::vs=>p v/\q vs
noncomputable def vK(x:Str)(p:Value->Prop)(e:DictEntry):Prop:=(∃t,e.key = .str x t)/\p e.val
section
variable(n:Nat)(Z:ay)(F:Fz)
noncomputable def Den(x:AV):Value->Prop:=AV.rec (motive_1:=λ_=>Value->Prop) (motive_2:=λ_=>List Value->Prop) (motive_3:=λ_=>List DictEntry->Prop) (motive_4:=λ_=>DictEntry->Prop)
 (λv w=>w=v) (λb w=>w = .bool b) (λi w=>∃t,w = .int i t) (λx w=>∃t,w = .str x t) (λi w=>w = .ref (Z i)/\i<n) (λ_ ih=>jT F ih) (λC _ ih=>jU F C ih) (λC _ ih=>jV F C ih) (λa b c d e _ ih=>fj n Z F a b c d e ih) (λ_ ih=>gu F ih) (λ_=>True)
 (λvs=>vs=[]) (λ_ _ p q=>dy p q) (λes=>es=[]) (λ_ _ p q=>dy p q) (λx _ p=>vK x p) x
noncomputable def ax(xs:List AV):List Value->Prop:=AV.rec_1 (motive_1:=λ_=>Value->Prop) (motive_2:=λ_=>List Value->Prop) (motive_3:=λ_=>List DictEntry->Prop) (motive_4:=λ_=>DictEntry->Prop)
 (λv w=>w=v) (λb w=>w = .bool b) (λi w=>∃t,w = .int i t) (λx w=>∃t,w = .str x t) (λi w=>w = .ref (Z i)/\i<n) (λ_ ih=>jT F ih) (λC _ ih=>jU F C ih) (λC _ ih=>jV F C ih) (λa b c d e _ ih=>fj n Z F a b c d e ih) (λ_ ih=>gu F ih) (λ_=>True)
 (λvs=>vs=[]) (λ_ _ p q=>dy p q) (λes=>es=[]) (λ_ _ p q=>dy p q) (λx _ p=>vK x p) xs
noncomputable def a6(xs:List (Str×AV)):List DictEntry->Prop:=AV.rec_2 (motive_1:=λ_=>Value->Prop) (motive_2:=λ_=>List Value->Prop) (motive_3:=λ_=>List DictEntry->Prop) (motive_4:=λ_=>DictEntry->Prop)
 (λv w=>w=v) (λb w=>w = .bool b) (λi w=>∃t,w = .int i t) (λx w=>∃t,w = .str x t) (λi w=>w = .ref (Z i)/\i<n) (λ_ ih=>jT F ih) (λC _ ih=>jU F C ih) (λC _ ih=>jV F C ih) (λa b c d e _ ih=>fj n Z F a b c d e ih) (λ_ ih=>gu F ih) (λ_=>True)
 (λvs=>vs=[]) (λ_ _ p q=>dy p q) (λes=>es=[]) (λ_ _ p q=>dy p q) (λx _ p=>vK x p) xs
end
section
variable{n n':Nat}{Z aq:ay}{F F':Fz}
theorem Den.val(v:Value):Den n Z F (.val v) v:=rfl
theorem Den.bool(b:Bool):Den n Z F (.bool b) (.bool b):=rfl
theorem Den.int(i:Int)(t:Tok):Den n Z F (.int i) (.int i t):=⟨t,rfl⟩
theorem Den.str(x:Str)(t:Tok):Den n Z F (.str x) (.str x t):=⟨t,rfl⟩
theorem Den.ref(i:Nat)(h:i<n):Den n Z F (.ref i) (.ref (Z i)):=⟨rfl,h⟩
section
variable(a:Addr)(xs:List AV)(vs:List Value)(k:Nat)
theorem Den.tup(h:F a=some (oTup vs k))(hs:ax n Z F xs vs):Den n Z F (.tup xs) (.ref a):=⟨a,vs,k,rfl,h,hs⟩
theorem Den.lst(h:F a=some (cL vs k))(hs:ax n Z F xs vs):Den n Z F (.lst xs) (.ref a):=⟨a,vs,k,rfl,h,hs⟩
end
theorem ax.nil:ax n Z F [] []:=rfl
theorem ax.cons{x:AV}{v:Value}{xs:List AV}{vs:List Value}(h:Den n Z F x v)(hs:ax n Z F xs vs):ax n Z F (x::xs) (v::vs):=⟨h,hs⟩
theorem a6.nil:a6 n Z F [] []:=rfl
theorem a6.cons{x:Str}{av:AV}{v:Value}{hh:Int}{t:Tok}{fs:List (Str×AV)}{es:List DictEntry}(h:Den n Z F av v)(hs:a6 n Z F fs es):a6 n Z F ((x,av)::fs) (⟨hh,.str x t,v⟩::es):=⟨⟨⟨t,rfl⟩,h⟩,hs⟩
theorem mR{i:Int}{v:Value}(d:Den n Z F (.int i) v):∃t,v = .int i t:=d
theorem lC{i:Str}{v:Value}(d:Den n Z F (.str i) v):∃t,v = .str i t:=d
theorem dK{i:Nat}{v:Value}(d:Den n Z F (.ref i) v):v = .ref (Z i)/\i<n:=d
theorem fL{xs:List AV}{v:Value}(d:Den n Z F (.tup xs) v):jT F (ax n Z F xs) v:=d
theorem iu{xs:List AV}{v:Value}(d:Den n Z F (.lst xs) v):gu F (ax n Z F xs) v:=d
theorem lD{C:Addr}{fs:List (Str×AV)}{v:Value}(d:Den n Z F (.obj C fs) v):jU F C (a6 n Z F fs) v:=d
theorem mT{C:Addr}{fs:List AV}{v:Value}(d:Den n Z F (.eg C fs) v):jV F C (ax n Z F fs) v:=d
theorem qG{vs:List Value}(d:ax n Z F [] vs):vs=[]:=d
theorem qH{x:AV}{xs:List AV}{P:List Value->Prop}(H:∀v ws,Den n Z F x v->ax n Z F xs ws->P (v::ws)):∀{vs:List Value},ax n Z F (x::xs) vs->P vs
 | [],d=>d.elim
 | v::ws,d=>H v ws d.1 d.2
theorem eE{x:AV}{P:List Value->Prop}{vs:List Value}(d:ax n Z F [x] vs)(H:∀v,Den n Z F x v->P [v]):P vs:=qH (λv ws h hs=>qG hs▸H v h) d
theorem jO{x y:AV}{P:List Value->Prop}{vs:List Value}(d:ax n Z F [x,y] vs)(H:∀v w,Den n Z F x v->Den n Z F y w->P [v,w]):P vs:=qH (λv ws h hs=>eE (P:=λws=>P (v::ws)) hs λw=>H v w h) d
theorem JU{x y z:AV}{P:List Value->Prop}{vs:List Value}(d:ax n Z F [x,y,z] vs)(H:∀v w u,Den n Z F x v->Den n Z F y w->Den n Z F z u->P [v,w,u]):P vs:=qH (λv ws h hs=>jO (P:=λws=>P (v::ws)) hs λw u=>H v w u h) d
theorem dy.imp{α:Type}{p p':α->Prop}{q q':List α->Prop}(h:∀v,p v->p' v)(hs:∀v,q v->q' v):∀v,dy p q v->dy p' q' v
 | [],d=>d
 | _::_,d=>⟨h _ d.1,hs _ d.2⟩
theorem d7.mono{cd:Value}{q:Str}(x:d7 F cd q)(hF:∀a o,F a=some o->F' a=some o):d7 F' cd q:=by
 cases x with | mk c o vs t e h hd hq=>exact⟨c,o,vs,t,e,hF _ _ h,hd,hq⟩
theorem mI{cl:List (Str×Nat)}(h:∀p∈cl,aq p.2=Z p.2):b4 aq cl=b4 Z cl:=List.map_congr_left λp hp=>by rw[h p hp]
theorem fj.to{name:Str}{params:Arguments}{body:List Stmt}{scope:Scope}{cl:List (Str×Nat)}{p p':List DictEntry->Prop}{v:Value}(hF:∀a o,F a=some o->F' a=some o)(hp:∀v,p v->p' v)(hc:∀p∈cl,p.2<n->p.2<n'/\aq p.2=Z p.2)(d:fj n Z F name params body scope cl p v):fj n' aq F' name params body scope cl p' v:=by
 cases d with | mk a qual o pm code ct fc es e h h1 h2 h3 h4 h5 h6=>exact⟨a,qual,o,pm,code,ct,fc,es,e,hF _ _ h,h1,mI (λp hp=>(hc p hp (h4 p hp)).2)▸h2,h3.mono hF,λp hp=>(hc p hp (h4 p hp)).1,h5.mono hF,hp _ h6⟩
theorem jT.to{p p':List Value->Prop}(hF:∀a o,F a=some o->F' a=some o)(hp:∀v,p v->p' v)(v:Value)(d:jT F p v):jT F' p' v:=by cases d with | mk a vs k e h r=>exact⟨a,vs,k,e,hF _ _ h,hp _ r⟩
theorem gu.to{p p':List Value->Prop}(hF:∀a o,F a=some o->F' a=some o)(hp:∀v,p v->p' v)(v:Value)(d:gu F p v):gu F' p' v:=by cases d with | mk a vs k e h r=>exact⟨a,vs,k,e,hF _ _ h,hp _ r⟩
theorem jU.to{C:Addr}{p p':List DictEntry->Prop}(hF:∀a o,F a=some o->F' a=some o)(hp:∀v,p v->p' v)(v:Value)(x:jU F C p v):jU F' C p' v:=by cases x with | mk a d od es k e h hd q r=>exact⟨a,d,od,es,k,e,hF _ _ h,hF _ _ hd,q,hp _ r⟩
theorem jV.to{C:Addr}{p p':List Value->Prop}(hF:∀a o,F a=some o->F' a=some o)(hp:∀v,p v->p' v)(v:Value)(x:jV F C p v):jV F' C p' v:=by cases x with | mk a d od vs e h hd r=>exact⟨a,d,od,vs,e,hF _ _ h,hF _ _ hd,hp _ r⟩
theorem AV.ind{P:AV->Prop}{L:List AV->Prop}{M:List (Str×AV)->Prop}(hval:∀v,P (.val v))(hbool:∀v,P (.bool v))(hint:∀v,P (.int v))(hstr:∀v,P (.str v))(href:∀v,P (.ref v))(htup:∀xs,L xs->P (.tup xs))(hobj:∀C fs,M fs->P (.obj C fs))(hslo:∀C xs,L xs->P (.eg C xs))
  (hclo:∀a b c d e fs,M fs->P (.cY a b c d e fs)) (hlst:∀xs,L xs->P (.lst xs)) (hany:P .any) (h1:L []) (h2:∀x xs,P x->L xs->L (x::xs)) (h3:M []) (h4:∀x av fs,P av->M fs->M ((x,av)::fs)) (x:AV):P x :=
 AV.rec (motive_1:=P) (motive_2:=L) (motive_3:=M) (motive_4:=λp=>P p.2) hval hbool hint hstr href htup hobj hslo hclo hlst hany h1 h2 h3 (λp fs hp hs=>h4 p.1 p.2 fs hp hs) (λ_ _ h=>h) x
theorem Den.mono(hn:n<=n')(a3:∀i,i<n->aq i=Z i)(hF:∀a o,F a=some o->F' a=some o){x:AV}:∀{v:Value},Den n Z F x v->Den n' aq F' x v :=
 AV.ind (P:=λx=>∀{v},Den n Z F x v->Den n' aq F' x v) (L:=λx=>∀{v},ax n Z F x v->ax n' aq F' x v) (M:=λx=>∀{v},a6 n Z F x v->a6 n' aq F' x v)
  (λ_ _ h=>h) (λ_ _ h=>h) (λ_ _ h=>h) (λ_ _ h=>h) (λi _ h=>⟨by rw[a3 i h.2]; exact h.1,Nat.lt_of_lt_of_le h.2 hn⟩) (λ_ ih v=>jT.to hF (λ_=>ih) v) (λ_ _ ih v=>jU.to hF (λ_=>ih) v) (λ_ _ ih v=>jV.to hF (λ_=>ih) v)
  (λ_ _ _ _ _ _ ih _=>fj.to hF (λ_=>ih) λp _ hp=>⟨Nat.lt_of_lt_of_le hp hn,a3 _ hp⟩) (λ_ ih v=>gu.to hF (λ_=>ih) v) (λh=>h) (λh=>h) (λ_ _ p q v=>dy.imp (λ_=>p) (λ_=>q) v) (λh=>h) (λ_ _ _ p q v=>dy.imp (λ_ h=>⟨h.1,p h.2⟩) (λ_=>q) v) x
theorem ax.imp(h:∀x v,Den n Z F x v->Den n' aq F' x v):∀{xs:List AV} {vs:List Value},ax n Z F xs vs->ax n' aq F' xs vs
 | [],_,d=>d
 | _::_,vs,d=>dy.imp (h _) (λ_=>ax.imp h) vs d
theorem ax.mono(hn:n<=n')(a3:∀i,i<n->aq i=Z i)(hF:∀a o,F a=some o->F' a=some o){xs:List AV}{vs:List Value}:ax n Z F xs vs->ax n' aq F' xs vs:=ax.imp λ_ _=>Den.mono hn a3 hF
theorem a6.imp(h:∀x v,Den n Z F x v->Den n' aq F' x v):∀{xs:List (Str×AV)} {vs:List DictEntry},a6 n Z F xs vs->a6 n' aq F' xs vs
 | [],_,d=>d
 | _::_,vs,d=>dy.imp (λ_ q=>⟨q.1,h _ _ q.2⟩) (λ_=>a6.imp h) vs d
theorem a6.mono(hn:n<=n')(a3:∀i,i<n->aq i=Z i)(hF:∀a o,F a=some o->F' a=some o){xs:List (Str×AV)}{vs:List DictEntry}:a6 n Z F xs vs->a6 n' aq F' xs vs:=a6.imp λ_ _=>Den.mono hn a3 hF
noncomputable def gv(n:Nat)(Z:ay)(F:Fz):Option AV->Option Value->Prop
 | none,v=>v=none
 | some a,v=>∃w,v=some w/\Den n Z F a w
noncomputable def cf(n:Nat)(Z:ay)(F:Fz)(xs:List (Option AV)):List (Option Value)->Prop:=xs.foldr (λo k=>dy (gv n Z F o) k) λvs=>vs=[]
theorem gv.imp(h:∀x v,Den n Z F x v->Den n' aq F' x v):∀{o:Option AV} {v:Option Value},gv n Z F o v->gv n' aq F' o v
 | none,_,d=>d
 | some _,_,⟨w,e,d⟩=>⟨w,e,h _ _ d⟩
theorem cf.imp(h:∀x v,Den n Z F x v->Den n' aq F' x v):∀{xs:List (Option AV)} {vs:List (Option Value)},cf n Z F xs vs->cf n' aq F' xs vs
 | [],_,d=>d
 | _::_,vs,d=>dy.imp (λ_=>gv.imp h) (λ_=>cf.imp h) vs d
end
noncomputable def aL(N:Nat)(x:AV):Prop:=AV.rec (motive_1:=λ_=>Prop) (motive_2:=λ_=>Prop) (motive_3:=λ_=>Prop) (motive_4:=λ_=>Prop)
 (λ_=>True) (λ_=>True) (λ_=>True) (λ_=>True) (λi=>i<N) (λ_ ih=>ih) (λ_ _ ih=>ih) (λ_ _ ih=>ih) (λ_ _ _ _ cl _ ih=>(∀p∈cl,p.2<N)/\ih) (λ_ ih=>ih) True True (λ_ _ p q=>p/\q) True (λ_ _ p q=>p/\q) (λ_ _ p=>p) x
section
variable{n N:Nat}{Z aq:ay}{F:Fz}
theorem aL.val(v:Value):aL N (.val v):=trivial
theorem aL.bool(b:Bool):aL N (.bool b):=trivial
theorem aL.int(i:Int):aL N (.int i):=trivial
theorem aL.str(x:Str):aL N (.str x):=trivial
theorem aL.ref{i:Nat}(h:i<N):aL N (.ref i):=h
theorem aL.tup:∀{xs:List AV},(∀x∈xs,aL N x)->aL N (.tup xs)
 | [],_=>trivial
 | x::xs,h=>⟨h x (.head _),aL.tup (xs:=xs) λy hy=>h y (.tail _ hy)⟩
theorem aL.lst{xs:List AV}(h:∀x∈xs,aL N x):aL N (.lst xs):=aL.tup h
theorem aL.eg{C:Addr}{xs:List AV}(h:∀x∈xs,aL N x):aL N (.eg C xs):=aL.tup h
theorem aL.obj{C:Addr}:∀{fs:List (Str×AV)},(∀p∈fs,aL N p.2)->aL N (.obj C fs)
 | [],_=>trivial
 | (_,av)::fs,h=>⟨h _ (.head _),aL.obj (C:=C) (fs:=fs) λy hy=>h y (.tail _ hy)⟩
theorem aL.cY{name:Str}{params:Arguments}{body:List Stmt}{scope:Scope}{cl:List (Str×Nat)}{fz:List (Str×AV)}(h:∀p∈cl,p.2<N)(hs:∀p∈fz,aL N p.2):aL N (.cY name params body scope cl fz):=⟨h,aL.obj (C:=0) hs⟩
theorem Den.under(a3:∀i,i<N->aq i=Z i){x:AV}:∀{v:Value},aL N x->Den n Z F x v->Den N aq F x v :=
 AV.ind (P:=λx=>∀{v},aL N x->Den n Z F x v->Den N aq F x v) (L:=λx=>∀{v},aL N (.tup x)->ax n Z F x v->ax N aq F x v) (M:=λx=>∀{v},aL N (.obj 0 x)->a6 n Z F x v->a6 N aq F x v)
  (λ_ _ _ h=>h) (λ_ _ _ h=>h) (λ_ _ _ h=>h) (λ_ _ _ h=>h) (λi _ u h=>⟨by rw[a3 i u]; exact h.1,u⟩) (λ_ ih v u=>jT.to (λ_ _ h=>h) (λ_=>ih u) v) (λ_ _ ih v u=>jU.to (λ_ _ h=>h) (λ_=>ih u) v) (λ_ _ ih v u=>jV.to (λ_ _ h=>h) (λ_=>ih u) v)
  (λ_ _ _ _ _ _ ih _ u=>fj.to (λ_ _ h=>h) (λ_=>ih u.2) λp hp _=>⟨u.1 p hp,a3 _ (u.1 p hp)⟩) (λ_ ih v u=>gu.to (λ_ _ h=>h) (λ_=>ih u) v) (λ_ h=>h) (λ_ h=>h) (λ_ _ p q v u=>dy.imp (λ_=>p u.1) (λ_=>q u.2) v) (λ_ h=>h) (λ_ _ _ p q v u=>dy.imp (λ_ h=>⟨h.1,p u.1 h.2⟩) (λ_=>q u.2) v) x
theorem ax.under(a3:∀i,i<N->aq i=Z i):∀{xs:List AV} {vs:List Value},(∀x∈xs,aL N x)->ax n Z F xs vs->ax N aq F xs vs
 | [],_,_,d=>d
 | _::_,vs,u,d=>dy.imp (λ_=>Den.under a3 (u _ (.head _))) (λ_=>ax.under a3 λy hy=>u y (.tail _ hy)) vs d
theorem a6.under(a3:∀i,i<N->aq i=Z i):∀{xs:List (Str×AV)} {vs:List DictEntry},(∀p∈xs,aL N p.2)->a6 n Z F xs vs->a6 N aq F xs vs
 | [],_,_,d=>d
 | _::_,vs,u,d=>dy.imp (λ_ h=>⟨h.1,Den.under a3 (u _ (.head _)) h.2⟩) (λ_=>a6.under a3 λy hy=>u y (.tail _ hy)) vs d
theorem cf.under(a3:∀i,i<N->aq i=Z i):∀{xs:List (Option AV)} {vs:List (Option Value)},(∀x,some x∈xs->aL N x)->cf n Z F xs vs->cf N aq F xs vs
 | [],_,_,d=>d
 | none::_,vs,u,d=>dy.imp (λ_ h=>h) (λ_=>cf.under a3 λy hy=>u y (.tail _ hy)) vs d
 | some x::_,vs,u,d=>dy.imp (λ_ ⟨w,e,h⟩=>⟨w,e,Den.under a3 (u _ (.head _)) h⟩) (λ_=>cf.under a3 λy hy=>u y (.tail _ hy)) vs d
end
end Mine
open PySem PySem.W PyProof.Rows
namespace Mine
inductive Wd where
 | b (b:Bool)
 | cut (xs:List AV) (y:AV)
 | norm
 | keep
 | sel (l:List Nat)
 | drop (i:Nat) (xs:List Str)
theorem bc{c:Prop}[Decidable c]{B:Type}{P:B->Prop}{t:c->B}{e:¬c->B}(h1:∀h,P (t h))(h2:∀h,P (e h)):P (dite c t e):=by
 split
 ·exact h1 _
 ·exact h2 _
section
variable{B:Type}
noncomputable def lq(e:Expr)(f:Const->Nat->Pos->B)(d:B):B:=if h:e.ctorIdx=19 then Expr.Constant.elim (motive_1:=λ_=>B) e h f else d
theorem mx{P:B->Expr->Prop}{e:Expr}{f:Const->Nat->Pos->B}{d:B}(H:∀a b c,P (f a b c) (.Constant a b c))(h0:P d e):P (lq e f d) e :=
 bc (P:=λx=>P x e) (λh=>Expr.Constant.elim (motive_1:=λe=>∀h,P (Expr.Constant.elim (motive_1:=λ_=>B) e h f) e) e h (λa b c _=>H a b c) h) λ_=>h0
noncomputable def eC(e:Expr)(f:Str->Pos->B)(d:B):B:=if h:e.ctorIdx=23 then Expr.Name.elim (motive_1:=λ_=>B) e h f else d
theorem eJ{P:B->Expr->Prop}{e:Expr}{f:Str->Pos->B}{d:B}(H:∀a b,P (f a b) (.Name a b))(h0:P d e):P (eC e f d) e :=
 bc (P:=λx=>P x e) (λh=>Expr.Name.elim (motive_1:=λe=>∀h,P (Expr.Name.elim (motive_1:=λ_=>B) e h f) e) e h (λa b _=>H a b) h) λ_=>h0
noncomputable def tu(e:Expr)(f:Expr->Operator->Expr->Pos->B)(d:B):B:=if h:e.ctorIdx=2 then Expr.BinOp.elim (motive_1:=λ_=>B) e h f else d
theorem xb{P:B->Expr->Prop}{e:Expr}{f:Expr->Operator->Expr->Pos->B}{d:B}(H:∀a b c q,P (f a b c q) (.BinOp a b c q))(h0:P d e):P (tu e f d) e :=
 bc (P:=λx=>P x e) (λh=>Expr.BinOp.elim (motive_1:=λe=>∀h,P (Expr.BinOp.elim (motive_1:=λ_=>B) e h f) e) e h (λa b c q _=>H a b c q) h) λ_=>h0
noncomputable def pQ(e:Expr)(f:UnaryOp->Expr->Pos->B)(d:B):B:=if h:e.ctorIdx=3 then Expr.UnaryOp.elim (motive_1:=λ_=>B) e h f else d
theorem rY{P:B->Expr->Prop}{e:Expr}{f:UnaryOp->Expr->Pos->B}{d:B}(H:∀a b c,P (f a b c) (.UnaryOp a b c))(h0:P d e):P (pQ e f d) e :=
 bc (P:=λx=>P x e) (λh=>Expr.UnaryOp.elim (motive_1:=λe=>∀h,P (Expr.UnaryOp.elim (motive_1:=λ_=>B) e h f) e) e h (λa b c _=>H a b c) h) λ_=>h0
noncomputable def qo(e:Expr)(f:Expr->Expr->Expr->Pos->B)(d:B):B:=if h:e.ctorIdx=5 then Expr.IfExp.elim (motive_1:=λ_=>B) e h f else d
theorem sh{P:B->Expr->Prop}{e:Expr}{f:Expr->Expr->Expr->Pos->B}{d:B}(H:∀a b c q,P (f a b c q) (.IfExp a b c q))(h0:P d e):P (qo e f d) e :=
 bc (P:=λx=>P x e) (λh=>Expr.IfExp.elim (motive_1:=λe=>∀h,P (Expr.IfExp.elim (motive_1:=λ_=>B) e h f) e) e h (λa b c q _=>H a b c q) h) λ_=>h0
noncomputable def pR(e:Expr)(f:Expr->(List CmpOp)->(List Expr)->Pos->B)(d:B):B:=if h:e.ctorIdx=15 then Expr.Compare.elim (motive_1:=λ_=>B) e h f else d
theorem rZ{P:B->Expr->Prop}{e:Expr}{f:Expr->(List CmpOp)->(List Expr)->Pos->B}{d:B}(H:∀a b c q,P (f a b c q) (.Compare a b c q))(h0:P d e):P (pR e f d) e :=
 bc (P:=λx=>P x e) (λh=>Expr.Compare.elim (motive_1:=λe=>∀h,P (Expr.Compare.elim (motive_1:=λ_=>B) e h f) e) e h (λa b c q _=>H a b c q) h) λ_=>h0
noncomputable def fu(e:Expr)(f:Expr->Str->Pos->B)(d:B):B:=if h:e.ctorIdx=20 then Expr.Attribute.elim (motive_1:=λ_=>B) e h f else d
theorem fH{P:B->Expr->Prop}{e:Expr}{f:Expr->Str->Pos->B}{d:B}(H:∀a b c,P (f a b c) (.Attribute a b c))(h0:P d e):P (fu e f d) e :=
 bc (P:=λx=>P x e) (λh=>Expr.Attribute.elim (motive_1:=λe=>∀h,P (Expr.Attribute.elim (motive_1:=λ_=>B) e h f) e) e h (λa b c _=>H a b c) h) λ_=>h0
noncomputable def kc(e:Expr)(f:Expr->Expr->Pos->B)(d:B):B:=if h:e.ctorIdx=21 then Expr.Subscript.elim (motive_1:=λ_=>B) e h f else d
theorem la{P:B->Expr->Prop}{e:Expr}{f:Expr->Expr->Pos->B}{d:B}(H:∀a b c,P (f a b c) (.Subscript a b c))(h0:P d e):P (kc e f d) e :=
 bc (P:=λx=>P x e) (λh=>Expr.Subscript.elim (motive_1:=λe=>∀h,P (Expr.Subscript.elim (motive_1:=λ_=>B) e h f) e) e h (λa b c _=>H a b c) h) λ_=>h0
noncomputable def tv(e:Expr)(f:(List Expr)->Pos->B)(d:B):B:=if h:e.ctorIdx=24 then Expr.List.elim (motive_1:=λ_=>B) e h f else d
theorem xc{P:B->Expr->Prop}{e:Expr}{f:(List Expr)->Pos->B}{d:B}(H:∀a b,P (f a b) (.List a b))(h0:P d e):P (tv e f d) e :=
 bc (P:=λx=>P x e) (λh=>Expr.List.elim (motive_1:=λe=>∀h,P (Expr.List.elim (motive_1:=λ_=>B) e h f) e) e h (λa b _=>H a b) h) λ_=>h0
noncomputable def lA(e:Expr)(f:(List Expr)->Nat->Pos->B)(d:B):B:=if h:e.ctorIdx=25 then Expr.Tuple.elim (motive_1:=λ_=>B) e h f else d
theorem iU{P:B->Expr->Prop}{e:Expr}{f:(List Expr)->Nat->Pos->B}{d:B}(H:∀a b c,P (f a b c) (.Tuple a b c))(h0:P d e):P (lA e f d) e :=
 bc (P:=λx=>P x e) (λh=>Expr.Tuple.elim (motive_1:=λe=>∀h,P (Expr.Tuple.elim (motive_1:=λ_=>B) e h f) e) e h (λa b c _=>H a b c) h) λ_=>h0
noncomputable def kx(e:Expr)(f:Expr->(List Expr)->(List Keyword)->Pos->B)(d:B):B:=if h:e.ctorIdx=16 then Expr.Call.elim (motive_1:=λ_=>B) e h f else d
theorem lr{P:B->Expr->Prop}{e:Expr}{f:Expr->(List Expr)->(List Keyword)->Pos->B}{d:B}(H:∀a b c q,P (f a b c q) (.Call a b c q))(h0:P d e):P (kx e f d) e :=
 bc (P:=λx=>P x e) (λh=>Expr.Call.elim (motive_1:=λe=>∀h,P (Expr.Call.elim (motive_1:=λ_=>B) e h f) e) e h (λa b c q _=>H a b c q) h) λ_=>h0
noncomputable def pK(e:Expr)(f:Expr->(List Comprehension)->Scope->Pos->B)(d:B):B:=if h:e.ctorIdx=8 then Expr.ListComp.elim (motive_1:=λ_=>B) e h f else d
theorem rX{P:B->Expr->Prop}{e:Expr}{f:Expr->(List Comprehension)->Scope->Pos->B}{d:B}(H:∀a b c q,P (f a b c q) (.ListComp a b c q))(h0:P d e):P (pK e f d) e :=
 bc (P:=λx=>P x e) (λh=>Expr.ListComp.elim (motive_1:=λe=>∀h,P (Expr.ListComp.elim (motive_1:=λ_=>B) e h f) e) e h (λa b c q _=>H a b c q) h) λ_=>h0
noncomputable def sZ(e:Expr)(f:Expr->(List Comprehension)->Scope->Pos->B)(d:B):B:=if h:e.ctorIdx=11 then Expr.GeneratorExp.elim (motive_1:=λ_=>B) e h f else d
theorem w4{P:B->Expr->Prop}{e:Expr}{f:Expr->(List Comprehension)->Scope->Pos->B}{d:B}(H:∀a b c q,P (f a b c q) (.GeneratorExp a b c q))(h0:P d e):P (sZ e f d) e :=
 bc (P:=λx=>P x e) (λh=>Expr.GeneratorExp.elim (motive_1:=λe=>∀h,P (Expr.GeneratorExp.elim (motive_1:=λ_=>B) e h f) e) e h (λa b c q _=>H a b c q) h) λ_=>h0
noncomputable def yt(e:Expr)(f:(Option Expr)->(Option Expr)->(Option Expr)->Pos->B)(d:B):B:=if h:e.ctorIdx=26 then Expr.Slice.elim (motive_1:=λ_=>B) e h f else d
theorem Eo{P:B->Expr->Prop}{e:Expr}{f:(Option Expr)->(Option Expr)->(Option Expr)->Pos->B}{d:B}(H:∀a b c q,P (f a b c q) (.Slice a b c q))(h0:P d e):P (yt e f d) e :=
 bc (P:=λx=>P x e) (λh=>Expr.Slice.elim (motive_1:=λe=>∀h,P (Expr.Slice.elim (motive_1:=λ_=>B) e h f) e) e h (λa b c q _=>H a b c q) h) λ_=>h0
noncomputable def pY(e:Expr)(f:BoolOp->(List Expr)->Pos->B)(d:B):B:=if h:e.ctorIdx=0 then Expr.BoolOp.elim (motive_1:=λ_=>B) e h f else d
theorem r8{P:B->Expr->Prop}{e:Expr}{f:BoolOp->(List Expr)->Pos->B}{d:B}(H:∀a b c,P (f a b c) (.BoolOp a b c))(h0:P d e):P (pY e f d) e :=
 bc (P:=λx=>P x e) (λh=>Expr.BoolOp.elim (motive_1:=λe=>∀h,P (Expr.BoolOp.elim (motive_1:=λ_=>B) e h f) e) e h (λa b c _=>H a b c) h) λ_=>h0
noncomputable def tA(e:Expr)(f:(List (Option Expr))->(List Expr)->Pos->B)(d:B):B:=if h:e.ctorIdx=6 then Expr.Dict.elim (motive_1:=λ_=>B) e h f else d
theorem xd{P:B->Expr->Prop}{e:Expr}{f:(List (Option Expr))->(List Expr)->Pos->B}{d:B}(H:∀a b c,P (f a b c) (.Dict a b c))(h0:P d e):P (tA e f d) e :=
 bc (P:=λx=>P x e) (λh=>Expr.Dict.elim (motive_1:=λe=>∀h,P (Expr.Dict.elim (motive_1:=λ_=>B) e h f) e) e h (λa b c _=>H a b c) h) λ_=>h0
noncomputable def qp(e:Stmt)(f:Expr->Pos->B)(d:B):B:=if h:e.ctorIdx=24 then Stmt.Expr.elim (motive_2:=λ_=>B) e h f else d
theorem si{P:B->Stmt->Prop}{e:Stmt}{f:Expr->Pos->B}{d:B}(H:∀a b,P (f a b) (.Expr a b))(h0:P d e):P (qp e f d) e :=
 bc (P:=λx=>P x e) (λh=>Stmt.Expr.elim (motive_2:=λe=>∀h,P (Stmt.Expr.elim (motive_2:=λ_=>B) e h f) e) e h (λa b _=>H a b) h) λ_=>h0
noncomputable def s6(e:Stmt)(f:(List Expr)->Expr->Pos->B)(d:B):B:=if h:e.ctorIdx=5 then Stmt.Assign.elim (motive_2:=λ_=>B) e h f else d
theorem w5{P:B->Stmt->Prop}{e:Stmt}{f:(List Expr)->Expr->Pos->B}{d:B}(H:∀a b c,P (f a b c) (.Assign a b c))(h0:P d e):P (s6 e f d) e :=
 bc (P:=λx=>P x e) (λh=>Stmt.Assign.elim (motive_2:=λe=>∀h,P (Stmt.Assign.elim (motive_2:=λ_=>B) e h f) e) e h (λa b c _=>H a b c) h) λ_=>h0
noncomputable def xf(e:Stmt)(f:Expr->Operator->Expr->Pos->B)(d:B):B:=if h:e.ctorIdx=7 then Stmt.AugAssign.elim (motive_2:=λ_=>B) e h f else d
theorem Ef{P:B->Stmt->Prop}{e:Stmt}{f:Expr->Operator->Expr->Pos->B}{d:B}(H:∀a b c q,P (f a b c q) (.AugAssign a b c q))(h0:P d e):P (xf e f d) e :=
 bc (P:=λx=>P x e) (λh=>Stmt.AugAssign.elim (motive_2:=λe=>∀h,P (Stmt.AugAssign.elim (motive_2:=λ_=>B) e h f) e) e h (λa b c q _=>H a b c q) h) λ_=>h0
noncomputable def vL(e:Stmt)(f:Expr->(List Stmt)->(List Stmt)->Pos->B)(d:B):B:=if h:e.ctorIdx=12 then Stmt.If.elim (motive_2:=λ_=>B) e h f else d
theorem yu{P:B->Stmt->Prop}{e:Stmt}{f:Expr->(List Stmt)->(List Stmt)->Pos->B}{d:B}(H:∀a b c q,P (f a b c q) (.If a b c q))(h0:P d e):P (vL e f d) e :=
 bc (P:=λx=>P x e) (λh=>Stmt.If.elim (motive_2:=λe=>∀h,P (Stmt.If.elim (motive_2:=λ_=>B) e h f) e) e h (λa b c q _=>H a b c q) h) λ_=>h0
noncomputable def zj(e:Stmt)(f:Expr->(List Stmt)->(List Stmt)->Pos->B)(d:B):B:=if h:e.ctorIdx=11 then Stmt.While.elim (motive_2:=λ_=>B) e h f else d
theorem ED{P:B->Stmt->Prop}{e:Stmt}{f:Expr->(List Stmt)->(List Stmt)->Pos->B}{d:B}(H:∀a b c q,P (f a b c q) (.While a b c q))(h0:P d e):P (zj e f d) e :=
 bc (P:=λx=>P x e) (λh=>Stmt.While.elim (motive_2:=λe=>∀h,P (Stmt.While.elim (motive_2:=λ_=>B) e h f) e) e h (λa b c q _=>H a b c q) h) λ_=>h0
noncomputable def uW(e:Stmt)(f:Expr->Expr->(List Stmt)->(List Stmt)->Pos->B)(d:B):B:=if h:e.ctorIdx=9 then Stmt.For.elim (motive_2:=λ_=>B) e h f else d
theorem xV{P:B->Stmt->Prop}{e:Stmt}{f:Expr->Expr->(List Stmt)->(List Stmt)->Pos->B}{d:B}(H:∀a b c q r,P (f a b c q r) (.For a b c q r))(h0:P d e):P (uW e f d) e :=
 bc (P:=λx=>P x e) (λh=>Stmt.For.elim (motive_2:=λe=>∀h,P (Stmt.For.elim (motive_2:=λ_=>B) e h f) e) e h (λa b c q r _=>H a b c q r) h) λ_=>h0
noncomputable def yv(e:Stmt)(f:(Option Expr)->Pos->B)(d:B):B:=if h:e.ctorIdx=3 then Stmt.Return.elim (motive_2:=λ_=>B) e h f else d
theorem Ep{P:B->Stmt->Prop}{e:Stmt}{f:(Option Expr)->Pos->B}{d:B}(H:∀a b,P (f a b) (.Return a b))(h0:P d e):P (yv e f d) e :=
 bc (P:=λx=>P x e) (λh=>Stmt.Return.elim (motive_2:=λe=>∀h,P (Stmt.Return.elim (motive_2:=λ_=>B) e h f) e) e h (λa b _=>H a b) h) λ_=>h0
noncomputable def onRaise(e:Stmt)(f:(Option Expr)->(Option Expr)->Pos->B)(d:B):B:=if h:e.ctorIdx=16 then Stmt.Raise.elim (motive_2:=λ_=>B) e h f else d
theorem EE{P:B->Stmt->Prop}{e:Stmt}{f:(Option Expr)->(Option Expr)->Pos->B}{d:B}(H:∀a b c,P (f a b c) (.Raise a b c))(h0:P d e):P (onRaise e f d) e :=
 bc (P:=λx=>P x e) (λh=>Stmt.Raise.elim (motive_2:=λe=>∀h,P (Stmt.Raise.elim (motive_2:=λ_=>B) e h f) e) e h (λa b c _=>H a b c) h) λ_=>h0
noncomputable def Bu(e:Stmt)(f:(List Stmt)->(List ExceptHandler)->(List Stmt)->(List Stmt)->Pos->B)(d:B):B:=if h:e.ctorIdx=17 then Stmt.Try.elim (motive_2:=λ_=>B) e h f else d
theorem Fu{P:B->Stmt->Prop}{e:Stmt}{f:(List Stmt)->(List ExceptHandler)->(List Stmt)->(List Stmt)->Pos->B}{d:B}(H:∀a b c q r,P (f a b c q r) (.Try a b c q r))(h0:P d e):P (Bu e f d) e :=
 bc (P:=λx=>P x e) (λh=>Stmt.Try.elim (motive_2:=λe=>∀h,P (Stmt.Try.elim (motive_2:=λ_=>B) e h f) e) e h (λa b c q r _=>H a b c q r) h) λ_=>h0
noncomputable def yw(e:Stmt)(f:Expr->(Option Expr)->Pos->B)(d:B):B:=if h:e.ctorIdx=19 then Stmt.Assert.elim (motive_2:=λ_=>B) e h f else d
theorem Er{P:B->Stmt->Prop}{e:Stmt}{f:Expr->(Option Expr)->Pos->B}{d:B}(H:∀a b c,P (f a b c) (.Assert a b c))(h0:P d e):P (yw e f d) e :=
 bc (P:=λx=>P x e) (λh=>Stmt.Assert.elim (motive_2:=λe=>∀h,P (Stmt.Assert.elim (motive_2:=λ_=>B) e h f) e) e h (λa b c _=>H a b c) h) λ_=>h0
noncomputable def wZ(e:Stmt)(f:Str->Arguments->(List Stmt)->(List Expr)->(Option Expr)->(List TypeParam)->Scope->(Option Scope)->Str->Pos->B)(d:B):B:=if h:e.ctorIdx=0 then Stmt.FunctionDef.elim (motive_2:=λ_=>B) e h f else d
theorem Ee{P:B->Stmt->Prop}{e:Stmt}{f:Str->Arguments->(List Stmt)->(List Expr)->(Option Expr)->(List TypeParam)->Scope->(Option Scope)->Str->Pos->B}{d:B}(H:∀a b c q r u v w y z,P (f a b c q r u v w y z) (.FunctionDef a b c q r u v w y z))(h0:P d e):P (wZ e f d) e :=
 bc (P:=λx=>P x e) (λh=>Stmt.FunctionDef.elim (motive_2:=λe=>∀h,P (Stmt.FunctionDef.elim (motive_2:=λ_=>B) e h f) e) e h (λa b c q r u v w y z _=>H a b c q r u v w y z) h) λ_=>h0
noncomputable def Am(e:Stmt)(f:Pos->B)(d:B):B:=if h:e.ctorIdx=25 then Stmt.Pass.elim (motive_2:=λ_=>B) e h f else d
theorem ER{P:B->Stmt->Prop}{e:Stmt}{f:Pos->B}{d:B}(H:∀a,P (f a) (.Pass a))(h0:P d e):P (Am e f d) e :=
 bc (P:=λx=>P x e) (λh=>Stmt.Pass.elim (motive_2:=λe=>∀h,P (Stmt.Pass.elim (motive_2:=λ_=>B) e h f) e) e h (λa _=>H a) h) λ_=>h0
noncomputable def zk(e:Stmt)(f:Pos->B)(d:B):B:=if h:e.ctorIdx=26 then Stmt.Break.elim (motive_2:=λ_=>B) e h f else d
theorem EG{P:B->Stmt->Prop}{e:Stmt}{f:Pos->B}{d:B}(H:∀a,P (f a) (.Break a))(h0:P d e):P (zk e f d) e :=
 bc (P:=λx=>P x e) (λh=>Stmt.Break.elim (motive_2:=λe=>∀h,P (Stmt.Break.elim (motive_2:=λ_=>B) e h f) e) e h (λa _=>H a) h) λ_=>h0
noncomputable def onContinue(e:Stmt)(f:Pos->B)(d:B):B:=if h:e.ctorIdx=27 then Stmt.Continue.elim (motive_2:=λ_=>B) e h f else d
theorem Eg{P:B->Stmt->Prop}{e:Stmt}{f:Pos->B}{d:B}(H:∀a,P (f a) (.Continue a))(h0:P d e):P (onContinue e f d) e :=
 bc (P:=λx=>P x e) (λh=>Stmt.Continue.elim (motive_2:=λe=>∀h,P (Stmt.Continue.elim (motive_2:=λ_=>B) e h f) e) e h (λa _=>H a) h) λ_=>h0
noncomputable def eM(e:AV)(f:Value->B)(d:B):B:=if h:e.ctorIdx=0 then AV.val.elim (motive_1:=λ_=>B) e h f else d
theorem ip{P:B->AV->Prop}{e:AV}{f:Value->B}{d:B}(H:∀a,P (f a) (.val a))(h0:P d e):P (eM e f d) e :=
 bc (P:=λx=>P x e) (λh=>AV.val.elim (motive_1:=λe=>∀h,P (AV.val.elim (motive_1:=λ_=>B) e h f) e) e h (λa _=>H a) h) λ_=>h0
noncomputable def oh(e:AV)(f:Bool->B)(d:B):B:=if h:e.ctorIdx=1 then AV.bool.elim (motive_1:=λ_=>B) e h f else d
theorem xq{P:B->AV->Prop}{e:AV}{f:Bool->B}{d:B}(H:∀a,P (f a) (.bool a))(h0:P d e):P (oh e f d) e :=
 bc (P:=λx=>P x e) (λh=>AV.bool.elim (motive_1:=λe=>∀h,P (AV.bool.elim (motive_1:=λ_=>B) e h f) e) e h (λa _=>H a) h) λ_=>h0
noncomputable def cM(e:AV)(f:Int->B)(d:B):B:=if h:e.ctorIdx=2 then AV.int.elim (motive_1:=λ_=>B) e h f else d
theorem fJ{P:B->AV->Prop}{e:AV}{f:Int->B}{d:B}(H:∀a,P (f a) (.int a))(h0:P d e):P (cM e f d) e :=
 bc (P:=λx=>P x e) (λh=>AV.int.elim (motive_1:=λe=>∀h,P (AV.int.elim (motive_1:=λ_=>B) e h f) e) e h (λa _=>H a) h) λ_=>h0
noncomputable def onStr(e:AV)(f:Str->B)(d:B):B:=if h:e.ctorIdx=3 then AV.str.elim (motive_1:=λ_=>B) e h f else d
theorem gb{P:B->AV->Prop}{e:AV}{f:Str->B}{d:B}(H:∀a,P (f a) (.str a))(h0:P d e):P (onStr e f d) e :=
 bc (P:=λx=>P x e) (λh=>AV.str.elim (motive_1:=λe=>∀h,P (AV.str.elim (motive_1:=λ_=>B) e h f) e) e h (λa _=>H a) h) λ_=>h0
noncomputable def bT(e:AV)(f:Nat->B)(d:B):B:=if h:e.ctorIdx=4 then AV.ref.elim (motive_1:=λ_=>B) e h f else d
theorem b8{P:B->AV->Prop}{e:AV}{f:Nat->B}{d:B}(H:∀a,P (f a) (.ref a))(h0:P d e):P (bT e f d) e :=
 bc (P:=λx=>P x e) (λh=>AV.ref.elim (motive_1:=λe=>∀h,P (AV.ref.elim (motive_1:=λ_=>B) e h f) e) e h (λa _=>H a) h) λ_=>h0
noncomputable def iC(e:AV)(f:(List AV)->B)(d:B):B:=if h:e.ctorIdx=5 then AV.tup.elim (motive_1:=λ_=>B) e h f else d
theorem jC{P:B->AV->Prop}{e:AV}{f:(List AV)->B}{d:B}(H:∀a,P (f a) (.tup a))(h0:P d e):P (iC e f d) e :=
 bc (P:=λx=>P x e) (λh=>AV.tup.elim (motive_1:=λe=>∀h,P (AV.tup.elim (motive_1:=λ_=>B) e h f) e) e h (λa _=>H a) h) λ_=>h0
noncomputable def oH(e:AV)(f:Addr->(List (Str×AV))->B)(d:B):B:=if h:e.ctorIdx=6 then AV.obj.elim (motive_1:=λ_=>B) e h f else d
theorem Fv{P:B->AV->Prop}{e:AV}{f:Addr->(List (Str×AV))->B}{d:B}(H:∀a b,P (f a b) (.obj a b))(h0:P d e):P (oH e f d) e :=
 bc (P:=λx=>P x e) (λh=>AV.obj.elim (motive_1:=λe=>∀h,P (AV.obj.elim (motive_1:=λ_=>B) e h f) e) e h (λa b _=>H a b) h) λ_=>h0
noncomputable def uX(e:AV)(f:Addr->(List AV)->B)(d:B):B:=if h:e.ctorIdx=7 then AV.eg.elim (motive_1:=λ_=>B) e h f else d
noncomputable def jP(e:AV)(f:(List AV)->B)(d:B):B:=if h:e.ctorIdx=9 then AV.lst.elim (motive_1:=λ_=>B) e h f else d
theorem ly{P:B->AV->Prop}{e:AV}{f:(List AV)->B}{d:B}(H:∀a,P (f a) (.lst a))(h0:P d e):P (jP e f d) e :=
 bc (P:=λx=>P x e) (λh=>AV.lst.elim (motive_1:=λe=>∀h,P (AV.lst.elim (motive_1:=λ_=>B) e h f) e) e h (λa _=>H a) h) λ_=>h0
noncomputable def uY(e:AV)(f:B)(d:B):B:=if h:e.ctorIdx=10 then AV.any.elim (motive_1:=λ_=>B) e h f else d
noncomputable def m5(e:AV)(f:Str->Arguments->(List Stmt)->Scope->(List (Str×Nat))->(List (Str×AV))->B)(d:B):B:=if h:e.ctorIdx=8 then AV.cY.elim (motive_1:=λ_=>B) e h f else d
theorem sJ{P:B->AV->Prop}{e:AV}{f:Str->Arguments->(List Stmt)->Scope->(List (Str×Nat))->(List (Str×AV))->B}{d:B}(H:∀a b c q r u,P (f a b c q r u) (.cY a b c q r u))(h0:P d e):P (m5 e f d) e :=
 bc (P:=λx=>P x e) (λh=>AV.cY.elim (motive_1:=λe=>∀h,P (AV.cY.elim (motive_1:=λ_=>B) e h f) e) e h (λa b c q r u _=>H a b c q r u) h) λ_=>h0
noncomputable def tB(e:Data)(f:FuncData->B)(d:B):B:=if h:e.ctorIdx=7 then Data.func.elim (motive:=λ_=>B) e h f else d
noncomputable def qI(e:Data)(f:(Array Value)->Nat->B)(d:B):B:=if h:e.ctorIdx=2 then Data.seq.elim (motive:=λ_=>B) e h f else d
noncomputable def xW(e:Data)(f:(Array Value)->B)(d:B):B:=if h:e.ctorIdx=9 then Data.fields.elim (motive:=λ_=>B) e h f else d
noncomputable def Hi(e:Data)(f:(Array DictEntry)->Nat->B)(d:B):B:=if h:e.ctorIdx=3 then Data.dict.elim (motive:=λ_=>B) e h f else d
noncomputable def F7(e:FuncBody)(f:(List Stmt)->B)(d:B):B:=if h:e.ctorIdx=0 then FuncBody.stmts.elim (motive:=λ_=>B) e h f else d
noncomputable def qq(e:Value)(f:String->B)(d:B):B:=if h:e.ctorIdx=8 then Value.type.elim (motive:=λ_=>B) e h f else d
theorem sj{P:B->Value->Prop}{e:Value}{f:String->B}{d:B}(H:∀a,P (f a) (.type a))(h0:P d e):P (qq e f d) e :=
 bc (P:=λx=>P x e) (λh=>Value.type.elim (motive:=λe=>∀h,P (Value.type.elim (motive:=λ_=>B) e h f) e) e h (λa _=>H a) h) λ_=>h0
noncomputable def lu(e:Value)(f:String->B)(d:B):B:=if h:e.ctorIdx=9 then Value.builtin.elim (motive:=λ_=>B) e h f else d
theorem my{P:B->Value->Prop}{e:Value}{f:String->B}{d:B}(H:∀a,P (f a) (.builtin a))(h0:P d e):P (lu e f d) e :=
 bc (P:=λx=>P x e) (λh=>Value.builtin.elim (motive:=λe=>∀h,P (Value.builtin.elim (motive:=λ_=>B) e h f) e) e h (λa _=>H a) h) λ_=>h0
noncomputable def gh(e:Value)(f:Addr->B)(d:B):B:=if h:e.ctorIdx=10 then Value.ref.elim (motive:=λ_=>B) e h f else d
theorem gO{P:B->Value->Prop}{e:Value}{f:Addr->B}{d:B}(H:∀a,P (f a) (.ref a))(h0:P d e):P (gh e f d) e :=
 bc (P:=λx=>P x e) (λh=>Value.ref.elim (motive:=λe=>∀h,P (Value.ref.elim (motive:=λ_=>B) e h f) e) e h (λa _=>H a) h) λ_=>h0
noncomputable def mU(e:Value)(f:B)(d:B):B:=if h:e.ctorIdx=0 then Value.none.elim (motive:=λ_=>B) e h f else d
theorem nK{P:B->Value->Prop}{e:Value}{f:B}{d:B}(H:P f .none)(h0:P d e):P (mU e f d) e :=
 bc (P:=λx=>P x e) (λh=>Value.none.elim (motive:=λe=>∀h,P (Value.none.elim (motive:=λ_=>B) e h f) e) e h (λ_=>H) h) λ_=>h0
noncomputable def lL(e:Value)(f:Str->Tok->B)(d:B):B:=if h:e.ctorIdx=6 then Value.str.elim (motive:=λ_=>B) e h f else d
theorem xt{P:B->Value->Prop}{e:Value}{f:Str->Tok->B}{d:B}(H:∀a b,P (f a b) (.str a b))(h0:P d e):P (lL e f d) e :=
 bc (P:=λx=>P x e) (λh=>Value.str.elim (motive:=λe=>∀h,P (Value.str.elim (motive:=λ_=>B) e h f) e) e h (λa b _=>H a b) h) λ_=>h0
noncomputable def An(e:Value)(f:Int->Tok->B)(d:B):B:=if h:e.ctorIdx=4 then Value.int.elim (motive:=λ_=>B) e h f else d
theorem ES{P:B->Value->Prop}{e:Value}{f:Int->Tok->B}{d:B}(H:∀a b,P (f a b) (.int a b))(h0:P d e):P (An e f d) e :=
 bc (P:=λx=>P x e) (λh=>Value.int.elim (motive:=λe=>∀h,P (Value.int.elim (motive:=λ_=>B) e h f) e) e h (λa b _=>H a b) h) λ_=>h0
noncomputable def lX(e:Wd)(f:Bool->B)(d:B):B:=if h:e.ctorIdx=0 then Wd.b.elim (motive:=λ_=>B) e h f else d
theorem F8{P:B->Wd->Prop}{e:Wd}{f:Bool->B}{d:B}(H:∀a,P (f a) (.b a))(h0:P d e):P (lX e f d) e :=
 bc (P:=λx=>P x e) (λh=>Wd.b.elim (motive:=λe=>∀h,P (Wd.b.elim (motive:=λ_=>B) e h f) e) e h (λa _=>H a) h) λ_=>h0
noncomputable def Ao(e:Wd)(f:(List AV)->AV->B)(d:B):B:=if h:e.ctorIdx=1 then Wd.cut.elim (motive:=λ_=>B) e h f else d
noncomputable def nV(e:Wd)(f:B)(d:B):B:=if h:e.ctorIdx=2 then Wd.norm.elim (motive:=λ_=>B) e h f else d
theorem pJ{P:B->Wd->Prop}{e:Wd}{f:B}{d:B}(H:P f .norm)(h0:P d e):P (nV e f d) e :=
 bc (P:=λx=>P x e) (λh=>Wd.norm.elim (motive:=λe=>∀h,P (Wd.norm.elim (motive:=λ_=>B) e h f) e) e h (λ_=>H) h) λ_=>h0
noncomputable def mV(e:Wd)(f:B)(d:B):B:=if h:e.ctorIdx=3 then Wd.keep.elim (motive:=λ_=>B) e h f else d
theorem nL{P:B->Wd->Prop}{e:Wd}{f:B}{d:B}(H:P f .keep)(h0:P d e):P (mV e f d) e :=
 bc (P:=λx=>P x e) (λh=>Wd.keep.elim (motive:=λe=>∀h,P (Wd.keep.elim (motive:=λ_=>B) e h f) e) e h (λ_=>H) h) λ_=>h0
noncomputable def oj(e:Wd)(f:(List Nat)->B)(d:B):B:=if h:e.ctorIdx=4 then Wd.sel.elim (motive:=λ_=>B) e h f else d
theorem xu{P:B->Wd->Prop}{e:Wd}{f:(List Nat)->B}{d:B}(H:∀a,P (f a) (.sel a))(h0:P d e):P (oj e f d) e :=
 bc (P:=λx=>P x e) (λh=>Wd.sel.elim (motive:=λe=>∀h,P (Wd.sel.elim (motive:=λ_=>B) e h f) e) e h (λa _=>H a) h) λ_=>h0
noncomputable def zl(e:Wd)(f:Nat->(List Str)->B)(d:B):B:=if h:e.ctorIdx=5 then Wd.drop.elim (motive:=λ_=>B) e h f else d
theorem EH{P:B->Wd->Prop}{e:Wd}{f:Nat->(List Str)->B}{d:B}(H:∀a b,P (f a b) (.drop a b))(h0:P d e):P (zl e f d) e :=
 bc (P:=λx=>P x e) (λh=>Wd.drop.elim (motive:=λe=>∀h,P (Wd.drop.elim (motive:=λ_=>B) e h f) e) e h (λa b _=>H a b) h) λ_=>h0
noncomputable def lE(e:Cell)(f:(List AV)->B)(d:B):B:=if h:e.ctorIdx=0 then Cell.list.elim (motive:=λ_=>B) e h f else d
theorem mA{P:B->Cell->Prop}{e:Cell}{f:(List AV)->B}{d:B}(H:∀a,P (f a) (.list a))(h0:P d e):P (lE e f d) e :=
 bc (P:=λx=>P x e) (λh=>Cell.list.elim (motive:=λe=>∀h,P (Cell.list.elim (motive:=λ_=>B) e h f) e) e h (λa _=>H a) h) λ_=>h0
noncomputable def uZ(e:Cell)(f:(List (Str×AV))->B)(d:B):B:=if h:e.ctorIdx=1 then Cell.ns.elim (motive:=λ_=>B) e h f else d
theorem sL{P:B->Cell->Prop}{e:Cell}{f:(List (Str×AV))->B}{d:B}(H:∀a,P (f a) (.ns a))(h0:P d e):P (uZ e f d) e :=
 bc (P:=λx=>P x e) (λh=>Cell.ns.elim (motive:=λe=>∀h,P (Cell.ns.elim (motive:=λ_=>B) e h f) e) e h (λa _=>H a) h) λ_=>h0
noncomputable def Ap(e:Cell)(f:(Option AV)->B)(d:B):B:=if h:e.ctorIdx=2 then Cell.box.elim (motive:=λ_=>B) e h f else d
theorem ET{P:B->Cell->Prop}{e:Cell}{f:(Option AV)->B}{d:B}(H:∀a,P (f a) (.box a))(h0:P d e):P (Ap e f d) e :=
 bc (P:=λx=>P x e) (λh=>Cell.box.elim (motive:=λe=>∀h,P (Cell.box.elim (motive:=λ_=>B) e h f) e) e h (λa _=>H a) h) λ_=>h0
noncomputable def zm(e:Cell)(f:(List (Str×AV))->B)(d:B):B:=if h:e.ctorIdx=3 then Cell.dict.elim (motive:=λ_=>B) e h f else d
theorem EI{P:B->Cell->Prop}{e:Cell}{f:(List (Str×AV))->B}{d:B}(H:∀a,P (f a) (.dict a))(h0:P d e):P (zm e f d) e :=
 bc (P:=λx=>P x e) (λh=>Cell.dict.elim (motive:=λe=>∀h,P (Cell.dict.elim (motive:=λ_=>B) e h f) e) e h (λa _=>H a) h) λ_=>h0
noncomputable def km(e:Cell)(f:Addr->Nat->B)(d:B):B:=if h:e.ctorIdx=4 then Cell.inst.elim (motive:=λ_=>B) e h f else d
theorem mB{P:B->Cell->Prop}{e:Cell}{f:Addr->Nat->B}{d:B}(H:∀a b,P (f a b) (.inst a b))(h0:P d e):P (km e f d) e :=
 bc (P:=λx=>P x e) (λh=>Cell.inst.elim (motive:=λe=>∀h,P (Cell.inst.elim (motive:=λ_=>B) e h f) e) e h (λa b _=>H a b) h) λ_=>h0
noncomputable def s7(e:Cell)(f:Addr->Nat->(List (Option AV))->B)(d:B):B:=if h:e.ctorIdx=5 then Cell.sinst.elim (motive:=λ_=>B) e h f else d
theorem w6{P:B->Cell->Prop}{e:Cell}{f:Addr->Nat->(List (Option AV))->B}{d:B}(H:∀a b c,P (f a b c) (.sinst a b c))(h0:P d e):P (s7 e f d) e :=
 bc (P:=λx=>P x e) (λh=>Cell.sinst.elim (motive:=λe=>∀h,P (Cell.sinst.elim (motive:=λ_=>B) e h f) e) e h (λa b c _=>H a b c) h) λ_=>h0
noncomputable def mJ(e:Cell)(f:Nat->Nat->B)(d:B):B:=if h:e.ctorIdx=6 then Cell.liter.elim (motive:=λ_=>B) e h f else d
theorem nJ{P:B->Cell->Prop}{e:Cell}{f:Nat->Nat->B}{d:B}(H:∀a b,P (f a b) (.liter a b))(h0:P d e):P (mJ e f d) e :=
 bc (P:=λx=>P x e) (λh=>Cell.liter.elim (motive:=λe=>∀h,P (Cell.liter.elim (motive:=λ_=>B) e h f) e) e h (λa b _=>H a b) h) λ_=>h0
noncomputable def tC(e:Cell)(f:B)(d:B):B:=if h:e.ctorIdx=7 then Cell.lend.elim (motive:=λ_=>B) e h f else d
theorem xg{P:B->Cell->Prop}{e:Cell}{f:B}{d:B}(H:P f .lend)(h0:P d e):P (tC e f d) e :=
 bc (P:=λx=>P x e) (λh=>Cell.lend.elim (motive:=λe=>∀h,P (Cell.lend.elim (motive:=λ_=>B) e h f) e) e h (λ_=>H) h) λ_=>h0
noncomputable def qJ(e:Cell)(f:Addr->(Array Value)->dG->B)(d:B):B:=if h:e.ctorIdx=8 then Cell.tab.elim (motive:=λ_=>B) e h f else d
theorem EU{P:B->Cell->Prop}{e:Cell}{f:Addr->(Array Value)->dG->B}{d:B}(H:∀a b c,P (f a b c) (.tab a b c))(h0:P d e):P (qJ e f d) e :=
 bc (P:=λx=>P x e) (λh=>Cell.tab.elim (motive:=λe=>∀h,P (Cell.tab.elim (motive:=λ_=>B) e h f) e) e h (λa b c _=>H a b c) h) λ_=>h0
noncomputable def ud(e:Cell)(f:Obj->B)(d:B):B:=if h:e.ctorIdx=9 then Cell.raw.elim (motive:=λ_=>B) e h f else d
theorem xw{P:B->Cell->Prop}{e:Cell}{f:Obj->B}{d:B}(H:∀a,P (f a) (.raw a))(h0:P d e):P (ud e f d) e :=
 bc (P:=λx=>P x e) (λh=>Cell.raw.elim (motive:=λe=>∀h,P (Cell.raw.elim (motive:=λ_=>B) e h f) e) e h (λa _=>H a) h) λ_=>h0
noncomputable def mZ(e:Cell)(f:Addr->(Option Nat)->(Option Nat)->B)(d:B):B:=if h:e.ctorIdx=10 then Cell.exc.elim (motive:=λ_=>B) e h f else d
theorem pL{P:B->Cell->Prop}{e:Cell}{f:Addr->(Option Nat)->(Option Nat)->B}{d:B}(H:∀a b c,P (f a b c) (.exc a b c))(h0:P d e):P (mZ e f d) e :=
 bc (P:=λx=>P x e) (λh=>Cell.exc.elim (motive:=λe=>∀h,P (Cell.exc.elim (motive:=λ_=>B) e h f) e) e h (λa b c _=>H a b c) h) λ_=>h0
noncomputable def Bv(e:Cell)(f:(Option Nat)->B)(d:B):B:=if h:e.ctorIdx=11 then Cell.tb.elim (motive:=λ_=>B) e h f else d
theorem Fw{P:B->Cell->Prop}{e:Cell}{f:(Option Nat)->B}{d:B}(H:∀a,P (f a) (.tb a))(h0:P d e):P (Bv e f d) e :=
 bc (P:=λx=>P x e) (λh=>Cell.tb.elim (motive:=λe=>∀h,P (Cell.tb.elim (motive:=λ_=>B) e h f) e) e h (λa _=>H a) h) λ_=>h0
noncomputable def Aq(e:Cell)(f:Int->Int->Int->B)(d:B):B:=if h:e.ctorIdx=12 then Cell.rng.elim (motive:=λ_=>B) e h f else d
theorem EV{P:B->Cell->Prop}{e:Cell}{f:Int->Int->Int->B}{d:B}(H:∀a b c,P (f a b c) (.rng a b c))(h0:P d e):P (Aq e f d) e :=
 bc (P:=λx=>P x e) (λh=>Cell.rng.elim (motive:=λe=>∀h,P (Cell.rng.elim (motive:=λ_=>B) e h f) e) e h (λa b c _=>H a b c) h) λ_=>h0
noncomputable def Ar(e:Cell)(f:Int->Int->Int->B)(d:B):B:=if h:e.ctorIdx=13 then Cell.rit.elim (motive:=λ_=>B) e h f else d
theorem EW{P:B->Cell->Prop}{e:Cell}{f:Int->Int->Int->B}{d:B}(H:∀a b c,P (f a b c) (.rit a b c))(h0:P d e):P (Ar e f d) e :=
 bc (P:=λx=>P x e) (λh=>Cell.rit.elim (motive:=λe=>∀h,P (Cell.rit.elim (motive:=λ_=>B) e h f) e) e h (λa b c _=>H a b c) h) λ_=>h0
noncomputable def Bw(e:Cell)(f:Nat->Nat->B)(d:B):B:=if h:e.ctorIdx=14 then Cell.wl.elim (motive:=λ_=>B) e h f else d
theorem Fx{P:B->Cell->Prop}{e:Cell}{f:Nat->Nat->B}{d:B}(H:∀a b,P (f a b) (.wl a b))(h0:P d e):P (Bw e f d) e :=
 bc (P:=λx=>P x e) (λh=>Cell.wl.elim (motive:=λe=>∀h,P (Cell.wl.elim (motive:=λ_=>B) e h f) e) e h (λa b _=>H a b) h) λ_=>h0
noncomputable def qr(e:Cell)(f:Nat->Nat->B)(d:B):B:=if h:e.ctorIdx=15 then Cell.enum.elim (motive:=λ_=>B) e h f else d
theorem sk{P:B->Cell->Prop}{e:Cell}{f:Nat->Nat->B}{d:B}(H:∀a b,P (f a b) (.enum a b))(h0:P d e):P (qr e f d) e :=
 bc (P:=λx=>P x e) (λh=>Cell.enum.elim (motive:=λe=>∀h,P (Cell.enum.elim (motive:=λ_=>B) e h f) e) e h (λa b _=>H a b) h) λ_=>h0
noncomputable def ue(e:Cell)(f:(Str->Int)->(List (Str×AV))->B)(d:B):B:=if h:e.ctorIdx=17 then Cell.map.elim (motive:=λ_=>B) e h f else d
theorem xx{P:B->Cell->Prop}{e:Cell}{f:(Str->Int)->(List (Str×AV))->B}{d:B}(H:∀a b,P (f a b) (.map a b))(h0:P d e):P (ue e f d) e :=
 bc (P:=λx=>P x e) (λh=>Cell.map.elim (motive:=λe=>∀h,P (Cell.map.elim (motive:=λ_=>B) e h f) e) e h (λa b _=>H a b) h) λ_=>h0
noncomputable def As(e:Cell)(f:Str->Nat->B)(d:B):B:=if h:e.ctorIdx=18 then Cell.sit.elim (motive:=λ_=>B) e h f else d
theorem EX{P:B->Cell->Prop}{e:Cell}{f:Str->Nat->B}{d:B}(H:∀a b,P (f a b) (.sit a b))(h0:P d e):P (As e f d) e :=
 bc (P:=λx=>P x e) (λh=>Cell.sit.elim (motive:=λe=>∀h,P (Cell.sit.elim (motive:=λ_=>B) e h f) e) e h (λa b _=>H a b) h) λ_=>h0
noncomputable def uf(e:Cell)(f:Nat->Int->B)(d:B):B:=if h:e.ctorIdx=19 then Cell.rev.elim (motive:=λ_=>B) e h f else d
theorem xy{P:B->Cell->Prop}{e:Cell}{f:Nat->Int->B}{d:B}(H:∀a b,P (f a b) (.rev a b))(h0:P d e):P (uf e f d) e :=
 bc (P:=λx=>P x e) (λh=>Cell.rev.elim (motive:=λe=>∀h,P (Cell.rev.elim (motive:=λ_=>B) e h f) e) e h (λa b _=>H a b) h) λ_=>h0
noncomputable def ug(e:Cell)(f:(List AV)->Nat->B)(d:B):B:=if h:e.ctorIdx=20 then Cell.fit.elim (motive:=λ_=>B) e h f else d
theorem xA{P:B->Cell->Prop}{e:Cell}{f:(List AV)->Nat->B}{d:B}(H:∀a b,P (f a b) (.fit a b))(h0:P d e):P (ug e f d) e :=
 bc (P:=λx=>P x e) (λh=>Cell.fit.elim (motive:=λe=>∀h,P (Cell.fit.elim (motive:=λ_=>B) e h f) e) e h (λa b _=>H a b) h) λ_=>h0
end
section
variable{α B:Type}
noncomputable def dF(l:List α)(f d:B):B:=match l with
 | []=>f
 | _::_=>d
theorem ek{P:B->List α->Prop}{l:List α}{f d:B}(H:P f [])(h0:P d l):P (dF l f d) l:=by
 cases l
 ·exact H
 ·exact h0
noncomputable def gj(l:List α)(f:α->List α->B)(d:B):B:=match l with
 | []=>d
 | x::r=>f x r
theorem iW{P:B->List α->Prop}{l:List α}{f:α->List α->B}{d:B}(H:∀x r,P (f x r) (x::r))(h0:P d l):P (gj l f d) l:=by
 cases l
 ·exact h0
 ·exact H _ _
noncomputable def dA(l:List α)(f:α->B)(d:B):B:=gj l (λx r=>dF r (f x) d) d
theorem dC{P:B->List α->Prop}{l:List α}{f:α->B}{d:B}(H:∀x,P (f x) [x])(h0:P d l):P (dA l f d) l:=by
 rcases l with _ | ⟨x,_ | ⟨y,r⟩⟩
 ·exact h0
 ·exact H x
 ·exact h0
noncomputable def kW(l:List α)(f:α->α->B)(d:B):B:=gj l (λx r=>dA r (f x) d) d
theorem lF{P:B->List α->Prop}{l:List α}{f:α->α->B}{d:B}(H:∀x y,P (f x y) [x,y])(h0:∀l,P d l):P (kW l f d) l:=iW (λx r=>dC (P:=λz r=>P z (x::r)) (H x) (h0 _)) (h0 _)
noncomputable def DT(l:List α)(f:α->α->α->B)(d:B):B:=gj l (λx r=>kW r (f x) d) d
theorem Hj{P:B->List α->Prop}{l:List α}{f:α->α->α->B}{d:B}(H:∀x y z,P (f x y z) [x,y,z])(h0:∀l,P d l):P (DT l f d) l:=iW (λx r=>lF (P:=λz r=>P z (x::r)) (H x) λ_=>h0 _) (h0 _)
noncomputable def aQ(o:Option α)(f:α->B)(d:B):B:=match o with
 | some x=>f x
 | none=>d
theorem eA{P:B->Option α->Prop}{o:Option α}{f:α->B}{d:B}(H:∀x,P (f x) (some x))(h0:P d o):P (aQ o f d) o:=by
 cases o
 ·exact h0
 ·exact H _
end
theorem bQ{B:Type}{P:B->Prop}{b:Bool}{f d:B}(H:b=true->P f)(h0:P d):P (cond b f d):=by
 cases b
 ·exact h0
 ·exact H rfl
noncomputable def qK{B:Type}(l:List Comprehension)(f:Expr->Expr->Option Expr->B)(d:B):B:=dA l (λc=>gj c.ifs (λi r=>dF r (cond (c.is_async == 0) (f c.target c.iter (some i)) d) d) (dF c.ifs (cond (c.is_async == 0) (f c.target c.iter none) d) d)) d
theorem sx{B:Type}{P:B->List Comprehension->Prop}{l:List Comprehension}{f:Expr->Expr->Option Expr->B}{d:B}(H:∀t i c,P (f t i c) [⟨t,i,c.toList,0⟩])(h0:∀l,P d l):P (qK l f d) l :=
 dC (λ⟨t,i,ifs,a⟩=>iW (P:=λx ifs=>P x [⟨t,i,ifs,a⟩]) (λe r=>ek (P:=λx r=>P x [⟨t,i,e::r,a⟩]) (bQ (P:=λx=>P x [⟨t,i,[e],a⟩]) (λ(ha:(a == 0)=true)=>by show P (f t i (some e)) [⟨t,i,[e],a⟩]; rw[eq_of_beq ha]; exact H t i (some e)) (h0 _)) (h0 _))
  (ek (P:=λx ifs=>P x [⟨t,i,ifs,a⟩]) (bQ (P:=λx=>P x [⟨t,i,[],a⟩]) (λ(ha:(a == 0)=true)=>by show P (f t i none) [⟨t,i,[],a⟩]; rw[eq_of_beq ha]; exact H t i none) (h0 _)) (h0 _))) (h0 _)
noncomputable def Au{B:Type}(e:ExceptHandler)(f:Option Expr->Option Str->List Stmt->B):B:=match e with
 | .ExceptHandler t n b _=>f t n b
theorem EY{B:Type}{P:B->ExceptHandler->Prop}{e:ExceptHandler}{f:Option Expr->Option Str->List Stmt->B}(H:∀t n b p,P (f t n b) (.ExceptHandler t n b p)):P (Au e f) e:=by
 cases e
 exact H _ _ _ _
end Mine
open PySem PySem.W PyProof.Rows
namespace Mine
structure Ctx where
 prog:Program
 w:World
 K:Frag
 mb:Str->Option Value
 d:Drawn
 os:OsState
 /-- the frames on the stack,with the ids of their names -/
 fr:List (Env×Nat)
noncomputable def Ctx.wf(X:Ctx)(fr:List (Env×Nat)):Ctx:=⟨X.prog,X.w,X.K,X.mb,X.d,X.os,fr⟩
inductive jo(F:Fz)(a:Addr)(f:Str->Option Value):Prop where
 | mk (o:Obj) (es:Array DictEntry) (ep:Nat) (h:F a=some o) (hd:o.data = .dict es ep) (hs:StrKeys es) (hf:∀name,nsFind es name=f name)
theorem jo.to{F F':Fz}{a:Addr}{f:Str->Option Value}(x:jo F a f)(h:∀o,F a=some o->F' a=some o):jo F' a f:=by cases x with | mk o es ep e1 e2 e3 e4=>exact⟨o,es,ep,h o e1,e2,e3,e4⟩
theorem jo.at{F:Fz}{a:Addr}{f:Str->Option Value}{hp:Heap}(x:jo F a f)(h:∀o,F a=some o->hp.get? a=some o):hp.Ns a f:=by cases x with | mk o es ep e1 e2 e3 e4=>exact⟨o,es,ep,h o e1,e2,e3,e4⟩
structure Base(X:Ctx)(F:Fz):Prop where
 K:∀a o,X.K.lookup a=some o->F a=some o
 mb:jo F builtinsNs X.mb
 lim:∃mc,jo F cStatics mc/\mc "sys.recursionlimit" = none
 bf:∃CO:Frag,(∀a o,CO.lookup a=some o->F a=some o)/\peek CO ⟨X.prog,X.w.params⟩ (builtinsFor mainGlobals builtinsNs)=some builtinsNs
theorem Base.mono{X:Ctx}{F F':Fz}(b:Base X F)(hF:∀a o,F a=some o->F' a=some o):Base X F' :=
 ⟨λa o e=>hF _ _ (b.K a o e),b.mb.to (hF _),b.lim.imp λmc h=>⟨h.1.to (hF _),h.2⟩,b.bf.imp λK h=>⟨λa o e=>hF _ _ (h.1 a o e),h.2⟩⟩
noncomputable def kB(n:Nat)(Z:ay)(F:Fz)(m:List (Str×AV))(f:Str->Option Value):Prop:=∀x av,m.lookup x=some av->∃v,f x=some v/\Den n Z F av v
noncomputable def Bx(xs:List Value)(o:dG):Prop:=∀l,o=some l->∀pos:Pos,((pos.line:Int),(pos.col:Int)) ∉ l.map (·.1)->codeAmong pos xs=none
inductive qX(F:Fz)(c:Addr)(xs:List Value)(k:(Int×Int)×Str):Prop where
 | mk (cc:Value) (q:Str) (h:d7 F (.ref c) q) (hc:d7 F cc (q++".<locals>."++k.2)) (he:∀pos:Pos,((pos.line:Int),(pos.col:Int))=k.1->codeAmong pos xs=some cc)
theorem qX.mono{F F':Fz}{c:Addr}{xs:List Value}{k:(Int×Int)×Str}(x:qX F c xs k)(hF:∀a o,F a=some o->F' a=some o):qX F' c xs k:=by cases x with | mk cc q h hc he=>exact⟨cc,q,h.mono hF,hc.mono hF,he⟩
noncomputable def By(F:Fz)(c:Addr)(xs:List Value)(o:dG):Prop:=∀l,o=some l->∀k∈l,qX F c xs k
inductive u0(c P:Addr)(o:Obj):Prop where
 | mk (h:Heap) (ps ps':Array Value) (e:h.get? c=some o) (x:h.IsCode c P ps) (y:h.TableAt c P ps')
noncomputable def gV(Z:ay):Option Nat->Value
 | none=>.none
 | some i=>.ref (Z i)
noncomputable def kC(Z:ay):Option Nat->Value
 | none=>.none
 | some i=>rawInt (Z i)
inductive jW(F:Fz)(a c:Addr)(ps:Array Value)(ks:dG)(o:Obj):Prop where
 | mk (more:Array Value) (oc:Obj) (e:o=kJ (ps++more)) (hc:F c=some oc) (hh:u0 c a oc) (ht:TriplesOk (ps++more).toList) (hk:Bx (ps++more).toList ks) (hi:By F c (ps++more).toList ks)
inductive lY(n:Nat)(Z:ay)(C:Addr)(d t:Option Nat)(o:Obj):Prop where
 | mk (vs:Array Value) (e:o=eG C (d.map Z) vs) (h1:vs[1]? = some (gV Z t)) (hd:∀i,d=some i->i<n) (ht:∀i,t=some i->i<n)
inductive kX(n:Nat)(Z:ay)(F:Fz)(m:List (Str×AV))(o:Obj):Prop where
 | mk (f:Str->Option Value) (es:Array DictEntry) (ep:Nat) (hd:o.data = .dict es ep) (hs:StrKeys es) (hf:∀name,nsFind es name=f name) (d:kB n Z F m f)
noncomputable def qL:List DictEntry->List (Str×Value)->Prop
 | [],[]=>True
 | e::es,q::kvs=>(Value.isStrOf q.1 e.key=true/\e.val=q.2)/\qL es kvs
 | _,_=>False
inductive jX(n:Nat)(Z:ay)(F:Fz)(hs:Str->Int)(m:List (Str×AV))(o:Obj):Prop where
 | mk (kvs:List (Str×Value)) (es:Array DictEntry) (ep:Nat) (hx:o.ExactDict) (hd:o.data = .dict es ep) (hk:∀e∈es,∃k,Value.isStrOf k e.key=true/\e.hash=hs k) (hp:qL es.toList kvs) (hn:(kvs.map (·.1)).Nodup) (hm:kvs.map (·.1)=m.map (·.1)) (d:ax n Z F (m.map (·.2)) (kvs.map (·.2)))
noncomputable abbrev kD(x:Str):String:=strIterType x
noncomputable def d9(n:Nat)(Z:ay)(F:Fz)(a:Addr):Cell->Obj->Prop
 | .list xs,o=>∃vs k,o=cL vs k/\ax n Z F xs vs
 | .ns m,o=>kX n Z F m o
 | .dict m,o=>∃es k,o=jd es k/\a6 n Z F m es
 | .sinst C d xs,o=>∃vs,o=kI C (Z d) vs/\d<n/\cf n Z F xs vs
 | .box v,o=>∃w,o.data = .cell w/\gv n Z F v w
 | .inst C d,o=>o=jN C (Z d)/\d<n
 | .liter l k,o=>o=dE (.ref (Z l)) k/\l<n
 | .lend,o=>∃k,o=dE .none k
 | .tab c ps ks,o=>jW F a c ps ks o
 | .raw r,o=>o=r
 | .exc C d t,o=>lY n Z C d t o
 | .tb fl,o=>∃ts,o.data = .fields ts/\ts[3]? = some (kC Z fl)/\∀i,fl=some i->i<n
 | .rng x y z,o=>∃t u v,o = { cls:=.type "range",dict:=none,data:=.fields #[.int x t,.int y u,.int z v],slots:=#[] }
 | .rit x left step,o=>o = { cls:=.type "range_iterator",dict:=none,data:=.fields #[rawInt x,rawInt left,rawInt step],slots:=#[] }
 | .wl l k,o=>(o.cls = .type "list_iterator"/\o.data = .fields #[.ref (Z l),.int k 0])/\l<n
 | .enum it k,o=>∃old,o = { cls:=.type "enumerate",dict:=none,data:=.fields #[.none,.bool false,.ref (Z it),rawInt k,.none,old],slots:=#[] }/\it<n
 | .any,_=>True
 | .map hs m,o=>jX n Z F hs m o
 | .sit x k,o=>(o.cls = .type (kD x)/\∃t,o.data = .fields #[.str x t,.int k 0])
 | .fit xs k,o=>∃b,(o.cls = .type "list_iterator"/\o.data = .fields #[.ref b,.int k 0])/\gu F (ax n Z F xs) (.ref b)
 | .rev l k,o=>(o.cls = .type "list_reverseiterator"/\o.data = .fields #[.ref (Z l),.int k 0])/\l<n
noncomputable def bH(n:Nat)(Z:ay)(F:Fz)(h:Heap)(a:Addr)(c:Cell):Prop:=∃o,h.get? a=some o/\d9 n Z F a c o
section
variable{n n' N:Nat}{Z aq:ay}{F F':Fz}
theorem xB{t:Option Nat}(h:∀i,t=some i->aq i=Z i):gV aq t=gV Z t:=by
 cases t with
 | none=>rfl
 | some i=>exact congrArg Value.ref (h i rfl)
theorem xC{t:Option Nat}(h:∀i,t=some i->aq i=Z i):kC aq t=kC Z t:=by
 cases t with
 | none=>rfl
 | some i=>exact congrArg (λx:Nat=>rawInt x) (h i rfl)
theorem xX{t:Option Nat}(h:∀i,t=some i->aq i=Z i):t.map aq = t.map Z:=by
 cases t with
 | none=>rfl
 | some i=>exact congrArg some (h i rfl)
theorem jW.mono{a c:Addr}{ps:Array Value}{ks:dG}{o:Obj}(x:jW F a c ps ks o)(hF:∀a o,F a=some o->F' a=some o):jW F' a c ps ks o:=by cases x with | mk more oc e hc hh ht hk hi=>exact⟨more,oc,e,hF _ _ hc,hh,ht,hk,λl e k h=>(hi l e k h).mono hF⟩
theorem lY.to{C:Addr}{d t:Option Nat}{o:Obj}(x:lY n Z C d t o)(hd:∀i,d=some i->i<n->i<n'/\aq i=Z i)(ht:∀i,t=some i->i<n->i<n'/\aq i=Z i):lY n' aq C d t o:=by
 cases x with | mk vs e h1 h2 h3=>exact⟨vs,by rw[xX λi h=>(hd i h (h2 i h)).2]; exact e,by rw[xB λi h=>(ht i h (h3 i h)).2]; exact h1,λi h=>(hd i h (h2 i h)).1,λi h=>(ht i h (h3 i h)).1⟩
theorem kX.to{m:List (Str×AV)}{o:Obj}(x:kX n Z F m o)(h:∀y av v,m.lookup y=some av->Den n Z F av v->Den n' aq F' av v):kX n' aq F' m o:=by
 cases x with | mk f es ep hd hs hf d=>exact⟨f,es,ep,hd,hs,hf,λy av e=>(d y av e).imp λv hv=>⟨hv.1,h y av v e hv.2⟩⟩
theorem jX.to{hs:Str->Int}{m:List (Str×AV)}{o:Obj}(x:jX n Z F hs m o)(h:∀vs,ax n Z F (m.map (·.2)) vs->ax n' aq F' (m.map (·.2)) vs):jX n' aq F' hs m o:=by
 cases x with | mk kvs es ep hx hd hk hp hn hm d=>exact⟨kvs,es,ep,hx,hd,hk,hp,hn,hm,h _ d⟩
theorem iV{κ β:Type}[BEq κ][LawfulBEq κ]:∀{l:List (κ×β)} {x:κ} {b:β},l.lookup x=some b->(x,b)∈l
 | [],_,_,h=>aJ h
 | p::l,x,b,h=>by
  rw[List.lookup_cons] at h
  cases e:x == p.1 with
  | true=>rw[e] at h; rw[<- Option.some.inj h,eq_of_beq e]; exact .head _
  | false=>rw[e] at h; exact .tail _ (iV h)
noncomputable def bA(N:Nat):Cell->Prop
 | .list xs=>∀x∈xs,aL N x
 | .ns m=>∀p∈m,aL N p.2
 | .dict m=>∀p∈m,aL N p.2
 | .box none=>True
 | .box (some v)=>aL N v
 | .inst _ d=>d<N
 | .sinst _ d xs=>d<N/\∀x,some x∈xs->aL N x
 | .liter l _=>l<N
 | .exc _ d t=>(∀i,d=some i->i<N)/\∀i,t=some i->i<N
 | .tb fl=>∀i,fl=some i->i<N
 | .wl l _=>l<N
 | .enum it _=>it<N
 | .map _ m=>∀p∈m,aL N p.2
 | .rev l _=>l<N
 | .fit xs _=>∀x∈xs,aL N x
 | _=>True
theorem d9.mono{a:Addr}{c:Cell}{o:Obj}(hn:n<=n')(a3:∀i,i<n->aq i=Z i)(hF:∀a o,F a=some o->F' a=some o)(x:d9 n Z F a c o):d9 n' aq F' a c o:=by
 have lt:∀{i},i<n->i<n'/\aq i=Z i:=λh=>⟨Nat.lt_of_lt_of_le h hn,a3 _ h⟩
 have dm:∀av v,Den n Z F av v->Den n' aq F' av v:=λ_ _=>Den.mono hn a3 hF
 cases c with
 | list xs=>exact x.imp λvs=>Exists.imp λk=>And.imp id (ax.imp dm)
 | ns m=>exact kX.to x λ_ _ _ _=>dm _ _
 | dict m=>exact x.imp λvs=>Exists.imp λk=>And.imp id (a6.imp dm)
 | sinst C d xs=>exact x.imp λvs h=>⟨by rw[(lt h.2.1).2]; exact h.1,(lt h.2.1).1,cf.imp dm h.2.2⟩
 | box v=>exact x.imp λw=>And.imp id (gv.imp dm)
 | inst C d=>exact⟨by rw[(lt x.2).2]; exact x.1,(lt x.2).1⟩
 | liter l k=>exact⟨by rw[(lt x.2).2]; exact x.1,(lt x.2).1⟩
 | tab c ps ks=>exact jW.mono x hF
 | exc C d t=>exact lY.to x (λ_ _=>lt) λ_ _=>lt
 | tb fl=>exact x.imp λts h=>⟨h.1,by rw[xC λi e=>(lt (h.2.2 i e)).2]; exact h.2.1,λi e=>(lt (h.2.2 i e)).1⟩
 | wl l k=>exact⟨by rw[(lt x.2).2]; exact x.1,(lt x.2).1⟩
 | enum it k=>exact x.imp λold h=>⟨by rw[(lt h.2).2]; exact h.1,(lt h.2).1⟩
 | map hs m=>exact jX.to x λvs=>ax.imp dm
 | rev l k=>exact⟨by rw[(lt x.2).2]; exact x.1,(lt x.2).1⟩
 | fit xs k=>exact x.imp λb=>And.imp id (gu.to hF (λ_=>ax.imp dm) _)
 | _=>exact x
theorem d9.under{a:Addr}{c:Cell}{o:Obj}(a3:∀i,i<N->aq i=Z i)(u:bA N c)(x:d9 n Z F a c o):d9 N aq F a c o:=by
 cases c with
 | list xs=>exact x.imp λvs=>Exists.imp λk=>And.imp id (ax.under a3 u)
 | ns m=>exact kX.to x λy av v e=>Den.under a3 (u _ (iV e))
 | dict m=>exact x.imp λvs=>Exists.imp λk=>And.imp id (a6.under a3 u)
 | sinst C d xs=>exact x.imp λvs h=>⟨by rw[a3 d u.1]; exact h.1,u.1,cf.under a3 u.2 h.2.2⟩
 | box v=>cases v with
  | none=>exact x
  | some av=>exact x.imp λw=>And.imp id (Exists.imp λv=>And.imp id (Den.under a3 u))
 | inst C d=>exact⟨by rw[a3 d u]; exact x.1,u⟩
 | liter l k=>exact⟨by rw[a3 l u]; exact x.1,u⟩
 | exc C d t=>exact lY.to x (λi e _=>⟨u.1 i e,a3 i (u.1 i e)⟩) λi e _=>⟨u.2 i e,a3 i (u.2 i e)⟩
 | tb fl=>exact x.imp λts h=>⟨h.1,by rw[xC λi e=>a3 i (u i e)]; exact h.2.1,u⟩
 | wl l k=>exact⟨by rw[a3 l u]; exact x.1,u⟩
 | enum it k=>exact x.imp λold h=>⟨by rw[a3 it u]; exact h.1,u⟩
 | map hs m=>exact jX.to x λvs=>ax.under a3 λy hy=>(List.mem_map.mp hy).elim λp q=>q.2▸u p q.1
 | rev l k=>exact⟨by rw[a3 l u]; exact x.1,u⟩
 | fit xs k=>exact x.imp λb=>And.imp id (gu.to (λ_ _ h=>h) (λ_=>ax.under a3 u) _)
 | _=>exact x
end
noncomputable def isNs(c:Cell):Bool:=uZ c (λ_=>true) false
noncomputable def St.get(J:St)(i:Nat):Option Cell:=J.objs.lookup i
noncomputable def cP:List (Nat×Cell)->Nat->Cell->List (Nat×Cell)
 | [],_,_=>[]
 | p::r,i,c=>match Nat.beq p.1 i with
  | true=>(i,c)::r
  | false=>p::cP r i c
noncomputable def St.set(J:St)(i:Nat)(c:Cell):St:=⟨J.n,cP J.objs i c⟩
noncomputable def St.push(J:St)(c:Cell):St:=⟨J.n+1,(J.n,c)::J.objs⟩
noncomputable def St.cut(J:St)(N:Nat):St:=⟨N,J.objs.filter λp=>Nat.blt p.1 N⟩
noncomputable def St.sel(J:St)(N:Nat)(l:List Nat):St:=⟨J.n,J.objs.filter λp=>Nat.blt p.1 N || l.any (Nat.beq p.1)⟩
theorem qs(a b:Nat):Nat.beq a b=(a == b):=Bool.eq_iff_iff.mpr ((Iff.of_eq (Nat.beq_eq)).trans beq_iff_eq.symm)
theorem pS(i j:Nat)(c:Cell):∀l:List (Nat×Cell),(cP l i c).lookup j=if j == i then (l.lookup i).map λ_=>c else l.lookup j
 | []=>by cases j == i <;> rfl
 | p::l=>by
  unfold cP
  rw[qs,List.lookup_cons,List.lookup_cons]
  cases e:p.1 == i with
  | true =>
   have e1:=eq_of_beq e
   subst e1
   rw[beq_self_eq_true]
   show List.lookup j ((p.1,c)::l)=_
   rw[List.lookup_cons]
   cases j == p.1 <;> rfl
  | false =>
   have e2:(i == p.1)=false:=by rw[Bool.beq_comm]; exact e
   show List.lookup j (p::cP l i c)=_
   rw[List.lookup_cons,pS i j c l,e2]
   cases h:j == i with
   | true=>rw[eq_of_beq h,e2]
   | false=>cases j == p.1 <;> rfl
theorem lh(f:Nat->Bool)(j:Nat):∀l:List (Nat×Cell),(l.filter λp=>f p.1).lookup j=if f j then l.lookup j else none
 | []=>by cases f j <;> rfl
 | p::l=>by
  rw[List.filter_cons,List.lookup_cons]
  cases e:f p.1 with
  | true =>
   rw[if_pos rfl,List.lookup_cons,lh f j l]
   cases h:j == p.1 with
   | true=>rw[eq_of_beq h,e]; rfl
   | false=>rfl
  | false =>
   rw[if_neg Bool.false_ne_true,lh f j l]
   cases h:j == p.1 with
   | true=>rw[eq_of_beq h,e]; rfl
   | false=>rfl
theorem St.pH{J:St}{i:Nat}{c₀:Cell}(c:Cell)(h:J.get i=some c₀):(J.set i c).get i=some c:=by
 show(cP J.objs i c).lookup i=_
 rw[pS,beq_self_eq_true,if_pos rfl,show J.objs.lookup i=some c₀ from h]; rfl
theorem St.kf(J:St){i j:Nat}(c:Cell)(h:j≠i):(J.set i c).get j=J.get j:=by
 show(cP J.objs i c).lookup j=_
 rw[pS,if_neg (λe=>h (eq_of_beq e))]; rfl
theorem St.get_set{J:St}{i j:Nat}{c d:Cell}(h:(J.set i c).get j=some d):(j=i/\d=c)∨(j≠i/\J.get j=some d):=by
 by_cases e:j=i
 ·refine .inl ⟨e,?_⟩
  have h':(cP J.objs i c).lookup j=some d:=h
  rw[pS,e,beq_self_eq_true,if_pos rfl] at h'
  exact(Option.map_eq_some_iff.mp h').elim λ_ h=>h.2.symm
 ·exact .inr ⟨e,St.kf J c e▸h⟩
theorem St.pG(J:St)(c:Cell):(J.push c).get J.n=some c:=by
 show List.lookup J.n ((J.n,c)::J.objs)=_
 rw[List.lookup_cons,beq_self_eq_true]
theorem St.sr(J:St){i:Nat}(c:Cell)(h:i<J.n):(J.push c).get i=J.get i:=by
 show List.lookup i ((J.n,c)::J.objs)=_
 rw[List.lookup_cons,beq_eq_false_iff_ne.mpr (Nat.ne_of_lt h)]; rfl
theorem St.mK{J:St}{i:Nat}{c d:Cell}(h:(J.push c).get i=some d):(i=J.n/\d=c)∨(i≠J.n/\J.get i=some d):=by
 have h':List.lookup i ((J.n,c)::J.objs)=some d:=h
 rw[List.lookup_cons] at h'
 cases e:i == J.n with
 | true=>rw[e] at h'; exact .inl ⟨eq_of_beq e,(Option.some.inj h').symm⟩
 | false=>rw[e] at h'; exact .inr ⟨ne_of_beq_false e,h'⟩
structure Inv(X:Ctx)(Z:ay)(F:Fz)(J:St)(s:Shared):Prop where
 ids:∀i c,J.get i=some c->i<J.n
 inj:∀i j c d,J.get i=some c->J.get j=some d->Z i=Z j->i=j
 cell:∀i c,J.get i=some c->bH J.n Z F s.heap (Z i) c
 off:∀i c,J.get i=some c->F (Z i)=none
 froz:∀a o,F a=some o->s.heap.get? a=some o
 base:Base X F
 drawn:s.drawn=X.d
 os:s.os=X.os
 gens:AllBare s.gens
 frs:∀e∈X.fr,(e.1.scope.kind = .function/\e.1.frame=some (Z e.2))/\∃c,J.get e.2=some c/\isNs c=true
structure aD(Z:ay)(F:Fz)(J:St)(s:Shared)(aq:ay)(F':Fz)(aj:St)(s':Shared):Prop where
 le:J.n<=aj.n
 same:∀i,i<J.n->aq i=Z i
 sub:∀a o,F a=some o->F' a=some o
 keep:∀x o,s.heap.get? x=some o->(∀i c,J.get i=some c->Z i≠x)->s'.heap.get? x=some o
 live:∀x o,s.heap.get? x=some o->∃o',s'.heap.get? x=some o'
 new:∀i c,aj.get i=some c->(i<J.n/\∃d,J.get i=some d)∨s.heap.get? (aq i)=none
 gens:∀(i:Nat) x,s.gens[i]? = some x->s'.gens[i]? = some x
theorem aD.refl(Z:ay)(F:Fz){J:St}{s:Shared}(hi:∀i c,J.get i=some c->i<J.n):aD Z F J s Z F J s :=
 ⟨Nat.le_refl _,λ_ _=>rfl,λ_ _ e=>e,λ_ _ e _=>e,λ_ o e=>⟨o,e⟩,λi c h=>.inl ⟨hi i c h,c,h⟩,λ_ _ e=>e⟩
theorem Heap.gone{h h':Heap}{a:Addr}(k:∀o,h.get? a=some o->∃o',h'.get? a=some o')(e:h'.get? a=none):h.get? a=none:=by
 cases q:h.get? a with
 | none=>rfl
 | some o=>exact(k o q).elim λ_ q=>aJ (e.symm.trans q)
theorem aD.trans{Z aF bg:ay}{F aH bo:Fz}{J au aZ:St}{s ar a8:Shared}(a:aD Z F J s aF aH au ar)(b:aD aF aH au ar bg bo aZ a8):aD Z F J s bg bo aZ a8 where
 le:=Nat.le_trans a.le b.le
 same i h:=(b.same i (Nat.lt_of_lt_of_le h a.le)).trans (a.same i h)
 sub x o e:=b.sub _ _ (a.sub _ _ e)
 keep x o e hx:=b.keep x o (a.keep x o e hx) λi c hi hpx=>(a.new i c hi).elim (λ⟨hlt,d,hd⟩=>hx i d hd (by rw[<- a.same _ hlt]; exact hpx)) λhn=>aJ (hn.symm.trans (hpx▸e))
 live x o e:=(a.live x o e).elim λo' e'=>b.live x o' e'
 new i c hi:=(b.new i c hi).elim (λ⟨hlt,d,hd⟩=>(a.new i d hd).imp id λhn=>by rw[b.same _ hlt]; exact hn) λhn=>.inr (Heap.gone (a.live _) hn)
 gens i x e:=b.gens i x (a.gens i x e)
section
variable{Z aq:ay}{F F':Fz}{J aj:St}{s s':Shared}
theorem Den.step{av:AV}{v:Value}(x:Den J.n Z F av v)(st:aD Z F J s aq F' aj s'):Den aj.n aq F' av v:=x.mono st.le st.same st.sub
theorem ax.step{av:List AV}{v:List Value}(x:ax J.n Z F av v)(st:aD Z F J s aq F' aj s'):ax aj.n aq F' av v:=x.mono st.le st.same st.sub
end
section
variable{X:Ctx}{Z aq:ay}{F:Fz}{J:St}{s:Shared}{i j:Nat}{c d:Cell}
theorem bH.to{n n':Nat}{F':Fz}{h h':Heap}{a:Addr}(x:bH n Z F h a c)(hh:∀o,h.get? a=some o->h'.get? a=some o)(hc:∀o,d9 n Z F a c o->d9 n' aq F' a c o):bH n' aq F' h' a c:=x.imp λo h=>⟨hh o h.1,hc o h.2⟩
theorem bH.mono{n n':Nat}{F':Fz}{h h':Heap}{a:Addr}(x:bH n Z F h a c)(hh:∀o,h.get? a=some o->h'.get? a=some o)(hn:n<=n')(a3:∀i,i<n->aq i=Z i)(hF:∀a o,F a=some o->F' a=some o):bH n' aq F' h' a c:=x.to hh λ_=>d9.mono hn a3 hF
theorem bH.keep{n:Nat}{h h':Heap}{a:Addr}(x:bH n Z F h a c)(hh:∀o,h.get? a=some o->h'.get? a=some o):bH n Z F h' a c:=x.to hh λ_ h=>h
theorem bH.live{n:Nat}{h:Heap}{a:Addr}(x:bH n Z F h a c):∃o,h.get? a=some o:=x.imp λ_ h=>h.1
theorem bH.ex{n:Nat}{h:Heap}{a:Addr}{P:Prop}(x:bH n Z F h a c)(H:∀o,h.get? a=some o->d9 n Z F a c o->P):P:=x.elim λo q=>H o q.1 q.2
theorem Inv.at(I:Inv X Z F J s)(h:J.get i=some c):bH J.n Z F s.heap (Z i) c:=I.cell i c h
theorem Inv.lt(I:Inv X Z F J s)(h:J.get i=some c):i<J.n:=I.ids i c h
theorem Inv.ne(I:Inv X Z F J s)(hi:J.get i=some c)(hj:J.get j=some d)(h:i≠j):Z i≠Z j:=λe=>h (I.inj i j c d hi hj e)
theorem Inv.Av(I:Inv X Z F J s):Looks (model X.prog X.w) s.heap (builtinsFor mainGlobals builtinsNs) builtinsNs :=
 I.base.bf.elim λ_ h=>Looks.of_peek (M:=model X.prog X.w) (λa o e=>I.froz _ _ (h.1 a o e)) h.2
theorem Inv.bV(I:Inv X Z F J s):X.K.In s.heap:=λa o e=>I.froz _ _ (I.base.K a o e)
theorem Inv.ns(I:Inv X Z F J s){a:Addr}{f:Str->Option Value}(x:jo F a f):s.heap.Ns a f:=x.at (I.froz _)
theorem Inv.limit(I:Inv X Z F J s):s.heap.NoLimit:=I.base.lim.imp λ_ h=>⟨I.ns h.1,h.2⟩
theorem Inv.nt(I:Inv X Z F J s){a:Addr}{o:Obj}(h:F a=some o)(hi:J.get i=some c):Z i≠a:=λe=>aJ ((I.off i c hi).symm.trans (e▸h))
theorem Inv.kK(I:Inv X Z F J s){a:Addr}(h:s.heap.get? a=none)(hi:J.get i=some c):Z i≠a:=λe=>(I.at hi).live.elim λ_ q=>aJ (h.symm.trans (e▸q))
theorem Inv.JV(I:Inv X Z F J s){a:Addr}(h:s.heap.get? a=none):F a=none:=by
 cases e:F a with
 | none=>rfl
 | some o=>exact aJ (h.symm.trans (I.froz a o e))
theorem Inv.lZ(I:Inv X Z F J s):∀e∈X.fr,e.2<J.n:=λe he=>(I.frs e he).2.elim λc h=>I.ids _ _ h.1
theorem Inv.cA(I:Inv X Z F J s){xs:List AV}(h:J.get i=some (.list xs)):∃vs k,s.heap.get? (Z i)=some (cL vs k)/\ax J.n Z F xs vs:=(I.at h).elim λo h=>Exists.imp (λvs=>Exists.imp λk (q:o=cL vs k/\ax J.n Z F xs vs)=>⟨q.1▸h.1,q.2⟩) h.2
theorem Inv.nu(I:Inv X Z F J s){m:List (Str×AV)}(h:J.get i=some (.ns m)):∃f,s.heap.Ns (Z i) f/\kB J.n Z F m f:=(I.at h).elim λo h=>by
 cases h.2 with | mk f es ep e1 e2 e3 d=>exact⟨f,⟨o,es,ep,h.1,e1,e2,e3⟩,d⟩
theorem Inv.kY(I:Inv X Z F J s){m:List (Str×AV)}(h:J.get i=some (.dict m)):∃es k,s.heap.get? (Z i)=some (jd es k)/\a6 J.n Z F m es:=(I.at h).elim λo h=>Exists.imp (λes=>Exists.imp λk (q:o=jd es k/\a6 J.n Z F m es)=>⟨q.1▸h.1,q.2⟩) h.2
theorem Inv.wt(I:Inv X Z F J s){v:Option AV}(h:J.get i=some (.box v)):∃w,s.heap.IsCell (Z i) w/\gv J.n Z F v w:=(I.at h).elim λo h=>Exists.imp (λw (q:o.data = .cell w/\gv J.n Z F v w)=>⟨⟨o,h.1,q.1⟩,q.2⟩) h.2
theorem Inv.nE(I:Inv X Z F J s){C:Addr}{e:Nat}(h:J.get i=some (.inst C e)):s.heap.get? (Z i)=some (jN C (Z e))/\e<J.n:=(I.at h).elim λo h=>(λ(q:o=jN C (Z e)/\e<J.n)=>⟨q.1▸h.1,q.2⟩) h.2
theorem Inv.atS(I:Inv X Z F J s){C:Addr}{e:Nat}{xs:List (Option AV)}(h:J.get i=some (.sinst C e xs)):∃vs,s.heap.get? (Z i)=some (kI C (Z e) vs)/\e<J.n/\cf J.n Z F xs vs:=(I.at h).elim λo h=>Exists.imp (λvs (q:o=kI C (Z e) vs/\e<J.n/\cf J.n Z F xs vs)=>⟨q.1▸h.1,q.2⟩) h.2
theorem Inv.o4(I:Inv X Z F J s){l k:Nat}(h:J.get i=some (.liter l k)):s.heap.get? (Z i)=some (dE (.ref (Z l)) k)/\l<J.n:=(I.at h).elim λo h=>(λ(q:o=dE (.ref (Z l)) k/\l<J.n)=>⟨q.1▸h.1,q.2⟩) h.2
theorem Inv.atEnd(I:Inv X Z F J s)(h:J.get i=some (.lend)):∃k,s.heap.get? (Z i)=some (dE .none k):=(I.at h).elim λo h=>Exists.imp (λk (q:o=dE .none k)=>q▸h.1) h.2
theorem Inv.JW(I:Inv X Z F J s){r:Obj}(h:J.get i=some (.raw r)):s.heap.get? (Z i)=some r:=(I.at h).elim λo h=>(λ(q:o=r)=>q▸h.1) h.2
theorem Inv.iO(I:Inv X Z F J s){C:Addr}{e t:Option Nat}(h:J.get i=some (.exc C e t)):∃vs,s.heap.get? (Z i)=some (eG C (e.map Z) vs)/\vs[1]? = some (gV Z t)/\(∀i,e=some i->i<J.n)/\∀i,t=some i->i<J.n:=(I.at h).elim λo h=>by
 cases h.2 with | mk vs e h1 h2 h3=>exact⟨vs,e▸h.1,h1,h2,h3⟩
theorem Inv.CP(I:Inv X Z F J s){fl:Option Nat}(h:J.get i=some (.tb fl)):∃o ts,s.heap.get? (Z i)=some o/\o.data = .fields ts/\ts[3]? = some (kC Z fl)/\∀i,fl=some i->i<J.n:=(I.at h).imp λo h=>Exists.imp (λts q=>⟨h.1,q⟩) h.2
theorem Inv.JX(I:Inv X Z F J s){x y z:Int}(h:J.get i=some (.rng x y z)):∃t u v,IsRange s.heap (Z i) x y z t u v:=(I.at h).elim λo h=>Exists.imp (λt=>Exists.imp λu=>Exists.imp λv (q:o = { cls:=.type "range",dict:=none,data:=.fields #[.int x t,.int y u,.int z v],slots:=#[] })=>h.1.trans (congrArg some q)) h.2
theorem Inv.Bz(I:Inv X Z F J s){x y z:Int}(h:J.get i=some (.rit x y z)):IsRangeIter s.heap (Z i) x y z:=(I.at h).elim λo h=>(λ(q:o = { cls:=.type "range_iterator",dict:=none,data:=.fields #[rawInt x,rawInt y,rawInt z],slots:=#[] })=>h.1.trans (congrArg some q)) h.2
theorem Inv.vM(I:Inv X Z F J s){l k:Nat}(h:J.get i=some (.wl l k)):s.heap.IsListIter (Z i) (Z l) k/\l<J.n:=(I.at h).elim λo h=>⟨⟨o,h.1,h.2.1⟩,h.2.2⟩
inductive JY(n:Nat)(Z:ay)(F:Fz)(h:Heap)(a:Addr)(xs:List AV)(k:Nat):Prop where
 | mk (b:Addr) (vs:List Value) (kk:Nat) (it:h.IsListIter a b k) (hl:h.get? b=some (cL vs kk)) (ds:ax n Z F xs vs) (hF:F b=some (cL vs kk))
theorem Inv.qY(I:Inv X Z F J s){xs:List AV}{k:Nat}(h:J.get i=some (.fit xs k)):JY J.n Z F s.heap (Z i) xs k:=(I.at h).elim λo h=>h.2.elim λb (q:(o.cls = .type "list_iterator"/\o.data = .fields #[.ref b,.int k 0])/\gu F (ax J.n Z F xs) (.ref b))=>by
 cases q.2 with | mk a vs kk e h2 r=>exact⟨b,vs,kk,⟨o,h.1,q.1⟩,I.froz _ _ (Value.ref.inj e▸h2),r,Value.ref.inj e▸h2⟩
theorem Inv.kM(I:Inv X Z F J s){it k:Nat}(h:J.get i=some (.enum it k)):∃old,IsEnum s.heap (Z i) (Z it) (k:Int) old/\it<J.n:=(I.at h).elim λo h=>Exists.imp (λold (q:o = { cls:=.type "enumerate",dict:=none,data:=.fields #[.none,.bool false,.ref (Z it),rawInt k,.none,old],slots:=#[] }/\it<J.n)=>⟨h.1.trans (congrArg some q.1),q.2⟩) h.2
section
variable{n:Nat}{h:Heap}{a:Addr}
theorem bH.l4{m:List (Str×AV)}{f:Str->Option Value}(x:h.Ns a f)(d:kB n Z F m f):bH n Z F h a (.ns m):=x.elim λo x=>x.elim λes x=>x.elim λep x=>⟨o,x.1,f,es,ep,x.2.1,x.2.2.1,x.2.2.2,d⟩
theorem bH.JZ{v:Option AV}{w:Option Value}(x:h.IsCell a w)(d:gv n Z F v w):bH n Z F h a (.box v):=x.elim λo x=>⟨o,x.1,w,x.2,d⟩
theorem bH.wu{xs:List AV}{vs:List Value}{k:Nat}(x:h.get? a=some (cL vs k))(d:ax n Z F xs vs):bH n Z F h a (.list xs):=⟨_,x,vs,k,rfl,d⟩
theorem bH.ofD{xs:List (Str×AV)}{vs:List DictEntry}{k:Nat}(x:h.get? a=some (jd vs k))(d:a6 n Z F xs vs):bH n Z F h a (.dict xs):=⟨_,x,vs,k,rfl,d⟩
theorem bH.CQ{l k:Nat}(x:h.get? a=some (dE (.ref (Z l)) k))(d:l<n):bH n Z F h a (.liter l k):=⟨_,x,rfl,d⟩
theorem bH.J0{k:Int}(x:h.get? a=some (dE .none k)):bH n Z F h a .lend:=⟨_,x,k,rfl⟩
theorem bH.qZ{xs:List AV}{b:Addr}{vs:List Value}{k kk:Nat}(x:h.IsListIter a b k)(hF:F b=some (cL vs kk))(d:ax n Z F xs vs):bH n Z F h a (.fit xs k):=x.elim λo x=>⟨o,x.1,b,x.2,b,vs,kk,rfl,hF,d⟩
theorem bH.CR{l k:Nat}(x:h.IsListIter a (Z l) k)(d:l<n):bH n Z F h a (.wl l k):=x.elim λo x=>⟨o,x.1,x.2,d⟩
end
theorem Inv.toks(I:Inv X Z F J s)(t:Nat):Inv X Z F J { s with toks:=t }:=⟨I.ids,I.inj,I.cell,I.off,I.froz,I.base,I.drawn,I.os,I.gens,I.frs⟩
theorem aD.toks(hi:∀i c,J.get i=some c->i<J.n)(t:Nat):aD Z F J s Z F J { s with toks:=t } :=
 ⟨Nat.le_refl _,λ_ _=>rfl,λ_ _ e=>e,λ_ _ e _=>e,λ_ o e=>⟨o,e⟩,λi c h=>.inl ⟨hi i c h,c,h⟩,λ_ _ e=>e⟩
theorem Inv.u3(I:Inv X Z F J s){F':Fz}{s':Shared}(hF:∀a o,F a=some o->F' a=some o)(hf:∀a o,F' a=some o->s'.heap.get? a=some o)(ho:∀i c,J.get i=some c->F' (Z i)=none)(hk:∀b o,s.heap.get? b=some o->s'.heap.get? b=some o)(h1:s'.drawn=s.drawn)(h2:s'.os=s.os)(h3:AllBare s'.gens)(h4:∀(i:Nat) x,s.gens[i]? = some x->s'.gens[i]? = some x):
  Inv X Z F' J s'/\aD Z F J s Z F' J s' :=
 ⟨⟨I.ids,I.inj,λi c h=>(I.cell i c h).mono (hk _) (Nat.le_refl _) (λ_ _=>rfl) hF,ho,hf,I.base.mono hF,h1.trans I.drawn,h2.trans I.os,h3,I.frs⟩,⟨Nat.le_refl _,λ_ _=>rfl,hF,λx o e _=>hk _ _ e,λx o e=>⟨o,hk _ _ e⟩,λi c h=>.inl ⟨I.ids i c h,c,h⟩,h4⟩⟩
theorem Inv.grow(I:Inv X Z F J s){h':Heap}(hk:∀b o,s.heap.get? b=some o->h'.get? b=some o)(t:Nat):Inv X Z F J { s with heap:=h',toks:=t }/\aD Z F J s Z F J { s with heap:=h',toks:=t } :=
 I.u3 (λ_ _ h=>h) (λa o e=>hk _ _ (I.froz a o e)) I.off hk rfl rfl I.gens λ_ _ e=>e
noncomputable def Fz.put(F:Fz)(a:Addr)(o:Obj):Fz:=λb=>if b=a then some o else F b
theorem Inv.zo(I:Inv X Z F J s){h':Heap}{a:Addr}{o:Obj}(hk:∀b o,s.heap.get? b=some o->h'.get? b=some o)(ho:h'.get? a=some o)(hl:∀i c,J.get i=some c->Z i≠a)(t:Nat):
  Inv X Z (F.put a o) J { s with heap:=h',toks:=t }/\aD Z F J s Z (F.put a o) J { s with heap:=h',toks:=t }:=by
 refine I.u3 (λb x e=>?_) (λb x e=>?_) (λi c h=>?_) hk rfl rfl I.gens λ_ _ e=>e
 ·unfold Fz.put
  by_cases q:b=a
  ·rw[if_pos q,<- ho,q.symm]; exact hk _ _ (I.froz _ _ e)
  ·rw[if_neg q]; exact e
 ·unfold Fz.put at e
  by_cases q:b=a
  ·rw[if_pos q] at e; rw[q,<- e]; exact ho
  ·rw[if_neg q] at e; exact hk _ _ (I.froz b x e)
 ·unfold Fz.put; rw[if_neg (hl i c h)]; exact I.off i c h
theorem Inv.freeze(I:Inv X Z F J s){h':Heap}{a:Addr}{o:Obj}(ha:s.heap.get? a=none)(hk:∀b o,s.heap.get? b=some o->h'.get? b=some o)(ho:h'.get? a=some o)(t:Nat):
  Inv X Z (F.put a o) J { s with heap:=h',toks:=t }/\aD Z F J s Z (F.put a o) J { s with heap:=h',toks:=t }:=I.zo hk ho (λ_ _ h=>I.kK ha h) t
theorem Inv.kh(I:Inv X Z F J s){a:Addr}{o:Obj}(h:s.heap.get? a=some o)(hl:∀i c,J.get i=some c->Z i≠a):Inv X Z (F.put a o) J s/\aD Z F J s Z (F.put a o) J s:=I.zo (λ_ _ e=>e) h hl s.toks
theorem Inv.turn(I:Inv X Z F J s){c':Cell}(hi:J.get i=some c){s':Shared}(hk:Heap.ExtBut (Z i) s.heap s'.heap)(hc:bH J.n Z F s'.heap (Z i) c')(hns:(!isNs c || isNs c')=true)(h1:s'.drawn=s.drawn)(h2:s'.os=s.os)(h3:AllBare s'.gens)(h4:∀(i:Nat) x,s.gens[i]? = some x->s'.gens[i]? = some x):
  Inv X Z F (J.set i c') s'/\aD Z F J s Z F (J.set i c') s':=by
 have old:∀j d,(J.set i c').get j=some d->∃d',J.get j=some d':=λj d h=>(St.get_set h).elim (λq=>⟨c,q.1▸hi⟩) λq=>⟨d,q.2⟩
 have ne:∀{j d},j≠i->J.get j=some d->∀o,s.heap.get? (Z j)=some o->s'.heap.get? (Z j)=some o:=λhj hd o e=>hk _ _ (I.ne hd hi hj) e
 refine⟨⟨λj d h=>(old j d h).elim λd' h=>I.ids j d' h,λj k d e hj hk'=>(old j d hj).elim λd' hj=>(old k e hk').elim λe' hk'=>I.inj j k d' e' hj hk',λj d h=>?_,λj d h=>(old j d h).elim λd' h=>I.off j d' h,λa o e=>hk _ _ (I.nt e hi).symm (I.froz a o e),I.base,h1.trans I.drawn,h2.trans I.os,h3,λe he=>⟨(I.frs e he).1,?_⟩⟩,
  ⟨Nat.le_refl _,λ_ _=>rfl,λ_ _ e=>e,λx o e hx=>hk _ _ (hx i c hi).symm e,λx o e=>?_,λj d h=>(old j d h).elim λd' h=>.inl ⟨I.ids j d' h,d',h⟩,h4⟩⟩
 ·rcases St.get_set h with⟨rfl,rfl⟩ | ⟨hj,hd⟩
  ·exact hc
  ·exact(I.cell j d hd).keep (ne hj hd)
 ·refine(I.frs e he).2.elim λc₀ h=>?_
  by_cases q:e.2=i
  ·refine⟨c',q.symm▸St.pH c' hi,?_⟩
   have hc:c=c₀:=Option.some.inj (hi.symm.trans (q▸h.1))
   rw[hc,h.2] at hns
   exact hns
  ·exact⟨c₀,(St.kf J c' q).trans h.1,h.2⟩
 ·by_cases hx:x=Z i
  ·exact hx▸hc.live
  ·exact⟨o,hk _ _ hx e⟩
theorem Inv.set(I:Inv X Z F J s){c':Cell}(hi:J.get i=some c){h':Heap}(hk:Heap.ExtBut (Z i) s.heap h')(hc:bH J.n Z F h' (Z i) c')(t:Nat)(hns:(!isNs c || isNs c')=true:=by rfl):
  Inv X Z F (J.set i c') { s with heap:=h',toks:=t }/\aD Z F J s Z F (J.set i c') { s with heap:=h',toks:=t }:=I.turn hi hk hc hns rfl rfl I.gens λ_ _ e=>e
theorem Inv.vO(I:Inv X Z F J s){c' d':Cell}(hi:J.get i=some c)(hj:J.get j=some d)(hij:i≠j){h':Heap}(hk:∀b o,b≠Z i->b≠Z j->s.heap.get? b=some o->h'.get? b=some o)
  (hc:bH J.n Z F h' (Z i) c') (hd:bH J.n Z F h' (Z j) d') (t:Nat) (hns:(!isNs c || isNs c')=true) (hns2:(!isNs d || isNs d')=true) :
  Inv X Z F ((J.set j d').set i c') { s with heap:=h',toks:=t }/\aD Z F J s Z F ((J.set j d').set i c') { s with heap:=h',toks:=t }:=by
 have hne:Z j≠Z i:=I.ne hj hi hij.symm
 refine(I.at hi).elim λoi hoi=>hc.live.elim λoi' hoi'=>?_
 have h1i:(h'.update (Z i) (λ_=>oi)).get? (Z i)=some oi:=Heap.get?_update_self _ hoi' (Heap.get?_some_iff.mp hoi.1).2
 have h1o:∀b,b≠Z i->(h'.update (Z i) (λ_=>oi)).get? b=h'.get? b:=λb hb=>Heap.get?_update_other _ _ (Ne.symm hb)
 have S1:=I.set hj (c':=d') (h':=h'.update (Z i) (λ_=>oi)) (λb o hb e=>by
   by_cases q:b=Z i
   ·rw[q,h1i,<- hoi.1,<- e,q]
   ·rw[h1o b q]; exact hk b o q hb e) (hd.keep λo e=>(h1o _ hne).trans e) t hns2
 have S2:=S1.1.set ((St.kf J d' hij).trans hi) (c':=c') (h':=h') (λb o hb e=>(h1o b hb).symm.trans e) hc t hns
 exact⟨S2.1,S1.2.trans S2.2⟩
noncomputable def ay.put(Z:ay)(i:Nat)(a:Addr):ay:=λj=>if j=i then a else Z j
theorem ay.fK(Z:ay)(i:Nat)(a:Addr):Z.put i a i=a:=if_pos rfl
theorem ay.fx(Z:ay){i j:Nat}(a:Addr)(h:j<i):Z.put i a j=Z j:=if_neg (Nat.ne_of_lt h)
theorem Inv.push(I:Inv X Z F J s){h':Heap}{a:Addr}(ha:s.heap.get? a=none)(hk:∀b o,s.heap.get? b=some o->h'.get? b=some o)
  (hc:bH (J.n+1) (Z.put J.n a) F h' a c) (t:Nat) :
  Inv X (Z.put J.n a) F (J.push c) { s with heap:=h',toks:=t }/\aD Z F J s (Z.put J.n a) F (J.push c) { s with heap:=h',toks:=t }:=by
 have hs:=ay.fK Z J.n a
 have a3:∀i,i<J.n->(Z.put J.n a) i=Z i:=λi h=>ay.fx Z a h
 have hg:∀{i d},J.get i=some d->(Z.put J.n a) i=Z i:=λh=>a3 _ (I.ids _ _ h)
 refine⟨⟨λi d h=>?_,λi j d e h h2 q=>?_,λi d h=>?_,λi d h=>?_,λa o e=>hk _ _ (I.froz a o e),I.base,I.drawn,I.os,I.gens,λe he=>(I.frs e he).2.elim λd h=>⟨⟨(I.frs e he).1.1,(hg h.1).symm▸(I.frs e he).1.2⟩,d,(St.sr J c (I.ids _ _ h.1)).trans h.1,h.2⟩⟩,
  ⟨Nat.le_succ _,a3,λ_ _ e=>e,λx o e _=>hk _ _ e,λx o e=>⟨o,hk _ _ e⟩,λi d h=>?_,λ_ _ e=>e⟩⟩
 ·exact(St.mK h).elim (λq=>q.1▸Nat.lt_succ_self _) λq=>Nat.lt_succ_of_lt (I.ids i d q.2)
 ·rcases St.mK h with⟨rfl,_⟩ | ⟨h3,h⟩ <;> rcases St.mK h2 with⟨rfl,_⟩ | ⟨h4,h2⟩
  ·rfl
  ·exact absurd ((hg h2).symm.trans (q.symm.trans hs)) (I.kK ha h2)
  ·exact absurd ((hg h).symm.trans (q.trans hs)) (I.kK ha h)
  ·exact I.inj i j d e h h2 ((hg h).symm.trans (q.trans (hg h2)))
 ·rcases St.mK h with⟨rfl,rfl⟩ | ⟨_,h⟩
  ·rw[hs]; exact hc
  ·rw[hg h]; exact(I.cell i d h).mono (hk _) (Nat.le_succ _) a3 λ_ _ e=>e
 ·rcases St.mK h with⟨rfl,rfl⟩ | ⟨_,h⟩
  ·rw[hs]; exact I.JV ha
  ·rw[hg h]; exact I.off i d h
 ·exact(St.mK h).elim (λq=>.inr (by rw[q.1,hs]; exact ha)) λq=>.inl ⟨I.ids i d q.2,d,q.2⟩
theorem Den.fresh(Z:ay)(F:Fz)(J:St)(c:Cell)(a:Addr):Den (J.push c).n (Z.put J.n a) F (.ref J.n) (.ref a):=⟨congrArg Value.ref (ay.fK Z J.n a).symm,Nat.lt_succ_self _⟩
theorem Inv.jY(I:Inv X Z F J s){f:Nat->Bool}{N:Nat}(a3:∀i,f i=true->aq i=Z i)(hN:∀i c,f i=true->J.get i=some c->i<N)(u:∀i c,f i=true->J.get i=some c->∀o,d9 J.n Z F (Z i) c o->d9 N aq F (Z i) c o)(hf:∀e∈X.fr,f e.2=true):
  Inv X aq F ⟨N,J.objs.filter λp=>f p.1⟩ s:=by
 have g:∀{i c},St.get ⟨N,J.objs.filter λp=>f p.1⟩ i=some c->f i=true/\J.get i=some c:=λ{i c} h=>by
  have h':=(lh f i J.objs).symm.trans h
  cases q:f i with
  | true=>rw[q] at h'; exact⟨rfl,h'⟩
  | false=>rw[q] at h'; exact aJ h'
 refine⟨λi c h=>hN i c (g h).1 (g h).2,λi j c d h h2 q=>I.inj i j c d (g h).2 (g h2).2 (by rw[<- a3 i (g h).1,<- a3 j (g h2).1]; exact q),λi c h=>?_,λi c h=>by rw[a3 i (g h).1]; exact I.off i c (g h).2,I.froz,I.base,I.drawn,I.os,I.gens,λe he=>⟨⟨(I.frs e he).1.1,(a3 _ (hf e he)).symm▸(I.frs e he).1.2⟩,(I.frs e he).2.imp λc h=>⟨?_,h.2⟩⟩⟩
 ·rw[a3 i (g h).1]
  exact(I.cell i c (g h).2).to (λ_ e=>e) (u i c (g h).1 (g h).2)
 ·show(J.objs.filter λp=>f p.1).lookup e.2=_
  rw[lh,hf e he]
  exact h.1
theorem aD.jY{aF:ay}{F':Fz}{aj:St}{s':Shared}{f:Nat->Bool}{N:Nat}(st:aD Z F J s aF F' aj s')(hN:J.n<=N):aD Z F J s aF F' ⟨N,aj.objs.filter λp=>f p.1⟩ s' :=
 ⟨hN,st.same,st.sub,st.keep,st.live,λi c h=>st.new i c (by
  have h':=(lh f i aj.objs).symm.trans h
  cases q:f i with
  | true=>rw[q] at h'; exact h'
  | false=>rw[q] at h'; exact aJ h'),st.gens⟩
theorem Iu{N:Nat}(h:J.get i=some c)(hi:i<N):(i,c)∈(J.cut N).objs:=List.mem_filter.mpr ⟨iV h,Nat.ble_eq_true_of_le hi⟩
theorem Inv.cut(I:Inv X Z F J s){N:Nat}(a3:∀i,i<N->aq i=Z i)(u:∀p∈(J.cut N).objs,bA N p.2)(hN:∀e∈X.fr,e.2<N):Inv X aq F (J.cut N) s :=
 I.jY (f:=λi=>Nat.blt i N) (λi h=>a3 i (Nat.le_of_ble_eq_true h)) (λi _ h _=>Nat.le_of_ble_eq_true h) (λi c h q o=>d9.under a3 (u _ (Iu q (Nat.le_of_ble_eq_true h)))) λe he=>Nat.ble_eq_true_of_le (hN e he)
theorem aD.cut{aF:ay}{F':Fz}{aj:St}{s':Shared}{N:Nat}(st:aD Z F J s aF F' aj s')(hN:J.n<=N):aD Z F J s aF F' (aj.cut N) s':=st.jY (f:=λi=>Nat.blt i N) hN
theorem Inv.sel{N:Nat}(l:List Nat)(I:Inv X Z F J s)(hN:∀e∈X.fr,e.2<N):Inv X Z F (J.sel N l) s :=
 I.jY (f:=λi=>Nat.blt i N || l.any (Nat.beq i)) (λ_ _=>rfl) (λi c _ h=>I.ids i c h) (λ_ _ _ _ _ h=>h) λe he=>by rw[show Nat.blt e.2 N=true from Nat.ble_eq_true_of_le (hN e he)]; rfl
theorem aD.sel{aF:ay}{F':Fz}{aj:St}{s':Shared}{N:Nat}(l:List Nat)(st:aD Z F J s aF F' aj s'):aD Z F J s aF F' (aj.sel N l) s':=st.jY (f:=λi=>Nat.blt i N || l.any (Nat.beq i)) st.le
theorem Base.wf(b:Base X F)(fr:List (Env×Nat)):Base (X.wf fr) F:=⟨b.K,b.mb,b.lim,b.bf⟩
theorem Base.un{fr:List (Env×Nat)}(b:Base (X.wf fr) F):Base X F:=⟨b.K,b.mb,b.lim,b.bf⟩
theorem Inv.frame(I:Inv X Z F J s){env:Env}(h1:env.scope.kind = .function)(h2:env.frame=some (Z i))(h3:J.get i=some c)(h4:isNs c=true):Inv (X.wf ((env,i)::X.fr)) Z F J s :=
 ⟨I.ids,I.inj,I.cell,I.off,I.froz,I.base.wf _,I.drawn,I.os,I.gens,λe he=>by
  cases he with
  | head=>exact⟨⟨h1,h2⟩,c,h3,h4⟩
  | tail _ he=>exact I.frs e he⟩
theorem Inv.lG{e:Env×Nat}(I:Inv (X.wf (e::X.fr)) Z F J s):Inv X Z F J s:=⟨I.ids,I.inj,I.cell,I.off,I.froz,I.base.un,I.drawn,I.os,I.gens,λe he=>I.frs e (.tail _ he)⟩
theorem Inv.Hk{env env':Env}(I:Inv (X.wf ((env,i)::X.fr)) Z F J s)(h1:env'.scope.kind = .function)(h2:env'.frame=env.frame):Inv (X.wf ((env',i)::X.fr)) Z F J s :=
 ⟨I.ids,I.inj,I.cell,I.off,I.froz,I.base.un.wf _,I.drawn,I.os,I.gens,λe he=>by
  cases he with
  | head=>exact⟨⟨h1,h2.trans (I.frs (env,i) (.head _)).1.2⟩,(I.frs (env,i) (.head _)).2⟩
  | tail _ he=>exact I.frs e (.tail _ he)⟩
end
end Mine
open PySem PySem.W PyProof.Rows
namespace Mine
noncomputable def All:List Prop->Prop
 | []=>True
 | c::cs=>c/\All cs
theorem All.app{a b:List Prop}(h:All (a++b)):All a/\All b:=by
 induction a with
 | nil=>exact⟨trivial,h⟩
 | cons c a ih=>exact⟨⟨h.1,(ih h.2).1⟩,(ih h.2).2⟩
noncomputable abbrev Ev:=St×List Wd
noncomputable abbrev EM(β:Type):=Ev->Option (β×Ev×List Prop)
namespace EM
noncomputable def ret{β:Type}(b:β):EM β:=λev=>some (b,ev,[])
noncomputable def fail{β:Type}:EM β:=λ_=>none
noncomputable def cond(P:Prop):EM Unit:=λev=>some ((),ev,[P])
noncomputable def bind{β B:Type}(x:EM β)(f:β->EM B):EM B:=λev=>aQ (x ev) (λr=>aQ (f r.1 r.2.1) (λq=>some (q.1,q.2.1,r.2.2++q.2.2)) none) none
noncomputable def word{β:Type}(g:Wd->Option β):EM β:=λev=>gj ev.2 (λw ds=>aQ (g w) (λb=>some (b,(ev.1,ds),[])) none) none
noncomputable def opt{β:Type}(o:Option β):EM β:=aQ o ret fail
noncomputable def st{β:Type}(f:St->EM β):EM β:=λev=>f ev.1 ev
noncomputable def get{β:Type}(g:St->Option β):EM β:=st λJ=>opt (g J)
noncomputable def cell(i:Nat):EM Cell:=get λJ=>J.get i
noncomputable def aK{β:Type}(as:Cell->Option β)(i:Nat):EM β:=get λJ=>(J.get i).bind as
noncomputable def upd(f:St->St):EM Unit:=λev=>some ((),(f ev.1,ev.2),[])
noncomputable def push(c:Cell):EM Nat:=λev=>some (ev.1.n,(ev.1.push c,ev.2),[])
noncomputable def or{β:Type}(x y:EM β):EM β:=λev=>match x ev with
 | some r=>some r
 | none=>y ev
noncomputable def aW(b:Bool):EM Unit:=_root_.cond b (ret ()) fail
noncomputable def dec(b:Bool):EM Bool:=bind (word λw=>lX w some none) λd=>bind (cond (b=d)) λ_=>ret d
noncomputable def cut:EM (List AV×AV):=word λw=>Ao w (λys y=>some (ys,y)) none
noncomputable def first(xs:List AV):EM (List AV×AV):=bind cut λp=>bind (cond (xs=p.2::p.1)) λ_=>ret p
noncomputable def last(xs:List AV):EM (List AV×AV):=bind cut λp=>bind (cond (xs=p.1++[p.2])) λ_=>ret p
noncomputable def eu:EM (Option AV):=word λw=>Ao w (λ_ y=>some (some y)) (lX w (λb=>_root_.cond b none (some none)) none)
noncomputable def bz{β:Type}(P:Prop)(v:β):EM β:=bind (cond P) λ_=>ret v
noncomputable def turn{β:Type}(P:Prop)(g:St->St)(v:β):EM β:=bind (cond P) λ_=>bind (upd g) λ_=>ret v
noncomputable def dz{β:Type}(b:Bool)(v:β):EM β:=bind (aW b) λ_=>ret v
end EM
structure Kn where
 p:Nat->ay->Fz->Prop
 mono:∀{n n' Z aq F F'},n<=n'->(∀i,i<n->aq i=Z i)->(∀a o,F a=some o->F' a=some o)->p n Z F->p n' aq F'
noncomputable def Kn.and(a b:Kn):Kn:=⟨λn Z F=>a.p n Z F/\b.p n Z F,λh1 h2 h3 ⟨x,y⟩=>⟨a.mono h1 h2 h3 x,b.mono h1 h2 h3 y⟩⟩
noncomputable def Kn.top:Kn:=⟨λ_ _ _=>True,λ_ _ _ _=>trivial⟩
noncomputable def Kn.is(P:Prop):Kn:=⟨λ_ _ _=>P,λ_ _ _ h=>h⟩
noncomputable def Kn.le(a b:Kn):Prop:=∀n Z F,a.p n Z F->b.p n Z F
theorem Kn.le_refl(Y:Kn):Y.le Y:=λ_ _ _ h=>h
theorem Kn.fst{a b c:Kn}(x:a.le c):(a.and b).le c:=λ_ _ _ h=>x _ _ _ h.1
theorem Kn.snd{a b c:Kn}(x:b.le c):(a.and b).le c:=λ_ _ _ h=>x _ _ _ h.2
noncomputable def ao(av:AV)(v:Value):Kn:=⟨λn Z F=>Den n Z F av v,λh1 h2 h3 x=>x.mono h1 h2 h3⟩
noncomputable def bX(av:List AV)(v:List Value):Kn:=⟨λn Z F=>ax n Z F av v,λh1 h2 h3 x=>x.mono h1 h2 h3⟩
noncomputable def ew{β:Type}(a b:β):Kn:=Kn.is (a=b)
theorem EM.en{β B:Type}{x:EM β}{f:β->EM B}{ev:Ev}{c:B}{ev'':Ev}{cs:List Prop}{C:Prop}(h:EM.bind x f ev=some (c,ev'',cs))(hc:All cs)(H:∀b ev' iD iE,x ev=some (b,ev',iD)->f b ev' = some (c,ev'',iE)->All iD->All iE->C):C :=
 eA (P:=λ(z:Option (B×Ev×List Prop)) o=>x ev=o->z=some (c,ev'',cs)->C) (λr e1=>eA (P:=λ(z:Option (B×Ev×List Prop)) o=>f r.1 r.2.1=o->z=some (c,ev'',cs)->C)
  (λq e2 h=>eN h λi1 i2 (i3:r.2.2++q.2.2=cs)=>have ha:=All.app (i3.symm▸hc); H r.1 r.2.1 r.2.2 q.2.2 e1 (by rw[<- i1,<- i2]; exact e2) ha.1 ha.2) (λ_ e=>aJ e) rfl) (λ_ e=>aJ e) rfl h
theorem EM.zp{β:Type}{b:Bool}{x:EM β}{ev:Ev}{r:β×Ev×List Prop}{C:Prop}(h:_root_.cond b x EM.fail ev=some r)(H:b=true->x ev=some r->C):C :=
 bQ (P:=λ(z:EM β)=>z ev=some r->C) H (λe=>aJ e) h
noncomputable def ai{β:Type}(J:St)(x:EM β)(C:β->St->Prop):Prop:=∀ds b ev' cs,x (J,ds)=some (b,ev',cs)->All cs->C b ev'.1
section
variable{β B:Type}{J au:St}{C:β->St->Prop}{D:B->St->Prop}
theorem ai.ret{b:β}(h:C b J):ai J (EM.ret b) C:=λds b' ev' cs e _=>eN e λi1 i2 _=>i1▸i2▸h
theorem ai.fail:ai J (EM.fail:EM β) C:=λ_ _ _ _ e=>aJ e
theorem ai.bind{x:EM β}{f:β->EM B}(hx:ai J x C)(hf:∀b au,C b au->ai au (f b) D):ai J (EM.bind x f) D:=λds _ _ _ e hc=>EM.en e hc λb cO iD iE dH dP h1 h2=>hf b cO.1 (hx ds b cO iD dH h1) cO.2 _ _ _ dP h2
theorem ai.eP{x:EM β}{P:β->Prop}{f:β->EM B}(hx:ai J x λb au=>au=J/\P b)(hf:∀b,P b->ai J (f b) D):ai J (EM.bind x f) D:=hx.bind λb au h=>h.1▸hf b h.2
theorem ai.vP{o:Option β}:ai J (EM.opt o) λb au=>au=J/\o=some b:=eA (P:=λ(x:EM β) o=>ai J x λb au=>au=J/\o=some b) (λb=>ai.ret ⟨rfl,rfl⟩) ai.fail
theorem ai.opt{o:Option β}{f:β->EM B}(h:∀b,o=some b->ai J (f b) D):ai J (EM.bind (EM.opt o) f) D:=ai.vP.eP h
theorem ai.get{g:St->Option β}{f:β->EM B}(h:∀b,g J=some b->ai J (f b) D):ai J (EM.bind (EM.get g) f) D:=ai.opt (o:=g J) h
theorem ai.cell{i:Nat}{f:Cell->EM B}(h:∀c,J.get i=some c->ai J (f c) D):ai J (EM.bind (EM.cell i) f) D:=ai.get h
theorem ai.aK{as:Cell->Option β}{mk:β->Cell}{i:Nat}{f:β->EM B}(inv:∀{c q},as c=some q->c=mk q)(h:∀q,J.get i=some (mk q)->ai J (f q) D):ai J (EM.bind (EM.aK as i) f) D :=
 ai.get λq e=>h q (let ⟨c,e1,e2⟩:=Option.bind_eq_some_iff.mp e; inv e2▸e1)
theorem ai.st{f:St->EM B}(h:ai J (f J) D):ai J (EM.st f) D:=h
theorem ai.aW{b:Bool}{f:Unit->EM B}(h:b=true->ai J (f ()) D):ai J (EM.bind (EM.aW b) f) D:=ai.eP (P:=λ_=>b=true) (bQ (P:=λ(x:EM Unit)=>ai J x λ_ au=>au=J/\b=true) (λe=>ai.ret ⟨rfl,e⟩) ai.fail) λ_=>h
theorem ai.cond{P:Prop}{f:Unit->EM B}(h:P->ai J (f ()) D):ai J (EM.bind (EM.cond P) f) D:=ai.eP (P:=λ_=>P) (λds u ev' cs e hc=>eN e λ_ i2 i3=>⟨i2▸rfl,(i3▸hc:All [P]).1⟩) λ_=>h
theorem ai.word{g:Wd->Option β}{f:β->EM B}(h:∀b,ai J (f b) D):ai J (EM.bind (EM.word g) f) D:=ai.eP (P:=λ_=>True) (λds b ev' cs =>
 iW (P:=λ(x:Option (β×Ev×List Prop)) _=>x=some (b,ev',cs)->All cs->ev'.1=J/\True) (λw r=>eA (P:=λ(x:Option (β×Ev×List Prop)) _=>x=some (b,ev',cs)->All cs->ev'.1=J/\True) (λc e _=>eN e λ_ i2 _=>⟨i2▸rfl,trivial⟩) λe=>aJ e) λe=>aJ e) λb _=>h b
theorem ai.eu{f:Option AV->EM B}(h:∀o,ai J (f o) D):ai J (EM.bind EM.eu f) D:=ai.word h
theorem ai.o6{b:Bool}:ai J (EM.dec b) λd au=>au=J/\b=d:=ai.word λd=>ai.cond λh=>ai.ret ⟨rfl,h⟩
theorem ai.first{xs:List AV}{f:List AV×AV->EM B}(h:∀p,xs=p.2::p.1->ai J (f p) D):ai J (EM.bind (EM.first xs) f) D:=ai.eP (P:=λp=>xs=p.2::p.1) (ai.word λp=>ai.cond λh=>ai.ret ⟨rfl,h⟩) h
theorem ai.last{xs:List AV}{f:List AV×AV->EM B}(h:∀p,xs=p.1++[p.2]->ai J (f p) D):ai J (EM.bind (EM.last xs) f) D:=ai.eP (P:=λp=>xs=p.1++[p.2]) (ai.word λp=>ai.cond λh=>ai.ret ⟨rfl,h⟩) h
theorem ai.upd{g:St->St}{f:Unit->EM B}(h:ai (g J) (f ()) D):ai J (EM.bind (EM.upd g) f) D:=ai.bind (C:=λ_ au=>au=g J) (λds u ev' cs e _=>eN e λ_ i2 _=>i2▸rfl) λ_ au e=>e▸h
theorem ai.push{c:Cell}{f:Nat->EM B}(h:ai (J.push c) (f J.n) D):ai J (EM.bind (EM.push c) f) D:=ai.bind (C:=λb au=>b=J.n/\au=J.push c) (λds u ev' cs e _=>eN e λi1 i2 i3=>⟨i1.symm,i2▸rfl⟩) λb au e=>by rw[e.1,e.2]; exact h
theorem ai.or{x y:EM β}(hx:ai J x C)(hy:ai J y C):ai J (EM.or x y) C:=λds b ev' cs e hc=>by
 unfold EM.or at e
 split at e
 ·rename_i r h; exact hx _ _ _ _ (h.trans e) hc
 ·exact hy _ _ _ _ e hc
theorem ai.jZ{o:Option β}(h:∀b,o=some b->C b J):ai J (EM.opt o) C:=λds b ev' cs e hc=>let q:=ai.vP ds b ev' cs e hc; q.1▸h b q.2
theorem ai.gX{g:St->St}{C:Unit->St->Prop}(h:C () (g J)):ai J (EM.upd g) C:=λds u ev' cs e _=>eN e λ_ i2 _=>i2▸h
theorem ai.bz{P:Prop}{v:β}(h:P->C v J):ai J (EM.bz P v) C:=ai.cond λp=>ai.ret (h p)
theorem ai.turn{P:Prop}{g:St->St}{v:β}(h:P->C v (g J)):ai J (EM.turn P g v) C:=ai.cond λp=>ai.upd (ai.ret (h p))
theorem ai.dz{b:Bool}{v:β}(h:b=true->C v J):ai J (EM.dz b v) C:=ai.aW λp=>ai.ret (h p)
theorem ai.mono{x:EM β}{C':β->St->Prop}(h:ai J x C)(hC:∀b au,C b au->C' b au):ai J x C':=λds b ev' cs e hc=>hC _ _ (h ds b ev' cs e hc)
end
noncomputable def Goes{α:Type}(X:Ctx)(A:Around)(Z:ay)(F:Fz)(J:St)(s:Shared)(t:Sem α)(R:α->Kn)(aj:St):Prop :=
 ∀(Q:α->Shared->Prop) (E:Value->Shared->Prop),
  (∀v s' aq F',(R v).p aj.n aq F'->Inv X aq F' aj s'->aD Z F J s aq F' aj s'->Q v s')->wpAny (model X.prog X.w) A t Q E s
noncomputable def ah{α β:Type}(X:Ctx)(A:Around)(Y:Kn)(R:β->α->Kn)(x:EM β)(t:Sem α):Prop :=
 ∀ev b ev' cs,x ev=some (b,ev',cs)->All cs->∀Z F s,Inv X Z F ev.1 s->Y.p ev.1.n Z F->Goes X A Z F ev.1 s t (R b) ev'.1
section
variable{α β B δ:Type}{X:Ctx}{A:Around}{Z:ay}{F:Fz}{J au aZ:St}{s:Shared}
theorem Goes.now{a:α}{R:α->Kn}(I:Inv X Z F J s)(h:(R a).p J.n Z F):Goes X A Z F J s (pure a) R J:=λQ E hQ=>wpAny_pure (hQ a s Z F h I (aD.refl Z F I.ids))
theorem Goes.bind{t:Sem α}{k:α->Sem B}{R:α->Kn}{ea:B->Kn}(h:Goes X A Z F J s t R au)
  (hk:∀v ar aF aH,(R v).p au.n aF aH->Inv X aF aH au ar->aD Z F J s aF aH au ar->Goes X A aF aH au ar (k v) ea aZ):Goes X A Z F J s (t >>= k) ea aZ :=
 λQ E hQ=>wpAny_bind (h _ E λv ar aF aH hr a0 st=>hk v ar aF aH hr a0 st Q E λw a8 bg bo J1 bG bC=>hQ w a8 bg bo J1 bG (st.trans bC))
theorem Goes.mono{t:Sem α}{R R':α->Kn}(h:Goes X A Z F J s t R au)(hR:∀v aq F',(R v).p au.n aq F'->(R' v).p au.n aq F'):Goes X A Z F J s t R' au :=
 λQ E hQ=>h Q E λv s' aq F' r=>hQ v s' aq F' (hR v aq F' r)
section
variable{t:Sem α}{R:α->Kn}
theorem Goes.same(I:Inv X Z F J s)(h:∀(Q:α->Shared->Prop) (E:Value->Shared->Prop),(∀w,(R w).p J.n Z F->Q w s)->wpAny (model X.prog X.w) A t Q E s):Goes X A Z F J s t R J:=λQ E hQ=>h Q E λw r=>hQ w s Z F r I (aD.refl Z F I.ids)
theorem Goes.tok(I:Inv X Z F J s)(h:∀(Q:α->Shared->Prop) (E:Value->Shared->Prop),(∀w k,(R w).p J.n Z F->Q w { s with toks:=k })->wpAny (model X.prog X.w) A t Q E s):Goes X A Z F J s t R J:=λQ E hQ=>h Q E λw k r=>hQ w _ Z F r (I.toks k) (aD.toks I.ids k)
theorem Goes.to(h:∀(Q:α->Shared->Prop) (E:Value->Shared->Prop),(∀v s' aq F',(R v).p au.n aq F'->Inv X aq F' au s'/\aD Z F J s aq F' au s'->Q v s')->wpAny (model X.prog X.w) A t Q E s):Goes X A Z F J s t R au:=λQ E hQ=>h Q E λv s' aq F' r q=>hQ v s' aq F' r q.1 q.2
end
variable{Y:Kn}
theorem ah.bw{x:EM β}{t:Sem α}{R:β->α->Kn}(h:∀J Z F s,Inv X Z F J s->Y.p J.n Z F->ai J x λb aj=>Goes X A Z F J s t (R b) aj):ah X A Y R x t:=λev b ev' cs e hc Z F s I g=>h ev.1 Z F s I g ev.2 b ev' cs e hc
theorem ah.ret{b:β}{a:α}{R:β->α->Kn}(h:Y.le (R b a)):ah X A Y R (EM.ret b) (pure a):=ah.bw λJ Z F s I g=>ai.ret (Goes.now I (h _ _ _ g))
theorem ah.bind{x:EM β}{f:β->EM δ}{t:Sem α}{k:α->Sem B}{R:β->α->Kn}{ea:δ->B->Kn}(h:ah X A Y R x t)(hk:∀b v,ah X A (Y.and (R b v)) ea (f b) (k v)):ah X A Y ea (EM.bind x f) (t >>= k) :=
 λev c ev'' cs e hc Z F s I g=>EM.en e hc λb ev' iD iE dH dP h1 h2=>(h _ _ _ _ dH h1 Z F s I g).bind λv ar aF aH hr a0 st=>hk b v _ _ _ _ dP h2 aF aH ar a0 ⟨Y.mono st.le st.same st.sub g,hr⟩
theorem ah.eP{x:EM β}{f:β->EM δ}{t:Sem B}{ea:δ->B->Kn}{P:β->Prop}(h:∀J,ai J x λb au=>au=J/\P b)(hk:∀b,P b->ah X A Y ea (f b) t):ah X A Y ea (EM.bind x f) t :=
 ah.bw λJ Z F s I g=>(h J).eP λb hb ds c ev' cs e hc=>hk b hb (J,ds) c ev' cs e hc Z F s I g
theorem ah.fail{t:Sem α}{R:β->α->Kn}:ah X A Y R EM.fail t:=λ_ _ _ _ e=>aJ e
theorem ah.cond{P:Prop}{f:Unit->EM δ}{t:Sem B}{ea:δ->B->Kn}(hk:P->ah X A Y ea (f ()) t):ah X A Y ea (EM.bind (EM.cond P) f) t:=ah.bw λJ Z F s I g=>ai.cond λh ds c ev' cs e hc=>hk h (J,ds) c ev' cs e hc Z F s I g
theorem ah.dec{fB:Bool}{f:Bool->EM δ}{t:Sem B}{ea:δ->B->Kn}(hk:ah X A Y ea (f fB) t):ah X A Y ea (EM.bind (EM.dec fB) f) t:=ah.eP (λ_=>ai.o6) λ_ h=>h▸hk
theorem ah.word{g:Wd->Option β}{f:β->EM δ}{t:Sem B}{ea:δ->B->Kn}(hk:∀b,ah X A Y ea (f b) t):ah X A Y ea (EM.bind (EM.word g) f) t:=ah.bw λJ Z F s I g=>ai.word λb ds c ev' cs e hc=>hk b (J,ds) c ev' cs e hc Z F s I g
theorem ah.opt{o:Option β}{f:β->EM δ}{t:Sem B}{ea:δ->B->Kn}(hk:∀b,o=some b->ah X A Y ea (f b) t):ah X A Y ea (EM.bind (EM.opt o) f) t:=ah.eP (λ_=>ai.vP) hk
theorem ah.weaken{kZ:Kn}{x:EM β}{t:Sem α}{R:β->α->Kn}(h:ah X A Y R x t)(hg:kZ.le Y):ah X A kZ R x t:=λev b ev' cs e hc Z F s I g=>h ev b ev' cs e hc Z F s I (hg _ _ _ g)
theorem ah.post{x:EM β}{t:Sem α}{R R':β->α->Kn}(h:ah X A Y R x t)(hr:∀b v,(R b v).le (R' b v)):ah X A Y R' x t:=λev b ev' cs e hc Z F s I g=>(h ev b ev' cs e hc Z F s I g).mono λv aq F' z=>hr b v _ _ _ z
theorem ah.cz{P:Prop}{x:EM β}{t:Sem α}{R:β->α->Kn}(h:Y.le (Kn.is P))(hk:P->ah X A Y R x t):ah X A Y R x t:=λev b ev' cs e hc Z F s I g=>hk (h _ _ _ g) ev b ev' cs e hc Z F s I g
theorem ah.aW{b:Bool}{x:EM β}{t:Sem α}{R:β->α->Kn}(h:b=true->ah X A Y R x t):ah X A Y R (_root_.cond b x EM.fail) t:=bQ (P:=λx=>ah X A Y R x t) h ah.fail
theorem ah.eq{x:EM β}{t t':Sem α}{R:β->α->Kn}(e:t=t')(h:ah X A Y R x t'):ah X A Y R x t:=e▸h
theorem ah.holding{vs:List Value}{x:EM β}{t:Sem α}{R:β->α->Kn}(h:ah X A Y R x t):ah X A Y R x (holding vs t):=λev b ev' cs e hc Z F s I g Q E hQ=>wpAny_holding (h ev b ev' cs e hc Z F s I g Q E hQ)
theorem ah.standAt{p:Pos}{x:EM β}{k:Unit->Sem α}{R:β->α->Kn}(h:ah X A Y R x (k ())):ah X A Y R x (standAt p >>= k):=λev b ev' cs e hc Z F s I g Q E hQ=>wpAny_bind (wpAny_standAt (h ev b ev' cs e hc Z F s I g Q E hQ))
theorem ah.stood{p:Pos}{x:EM β}{t:Sem α}{R:β->α->Kn}(h:ah X A Y R x t):ah X A Y R x (t >>= λv=>PySem.standAt p >>= λ_=>Pure.pure v):=λev b ev' cs e hc Z F s I g Q E hQ=>wpAny_bind (h ev b ev' cs e hc Z F s I g _ E λv s' aq F' a b c=>wpAny_bind (wpAny_standAt (wpAny_pure (hQ v s' aq F' a b c))))
theorem ah.operate{vs:List Value}{x:EM β}{t:Sem Value}{R:β->Value->Kn}(h:ah X A Y R x t):ah X A Y R x (operate vs t):=λev b ev' cs e hc Z F s I g Q E hQ=>wpAny_operateT (h ev b ev' cs e hc Z F s I g Q E hQ)
end
noncomputable def iz(e:Cell):Option (List AV):=lE e (λa=>some a) none
theorem jz{e:Cell}{q:List AV}:iz e=some q->e = .list q:=mA (P:=λ(x:Option (List AV)) e=>x=some q->e = .list q) (λa h=>Option.some.inj h▸rfl) λh=>aJ h
noncomputable def oI(e:Cell):Option (Int×Int×Int):=Ar e (λa b c=>some (a,b,c)) none
theorem EZ{e:Cell}{q:Int×Int×Int}:oI e=some q->e = .rit q.1 q.2.1 q.2.2:=EW (P:=λ(x:Option (Int×Int×Int)) e=>x=some q->e = .rit q.1 q.2.1 q.2.2) (λa b c h=>Option.some.inj h▸rfl) λh=>aJ h
noncomputable def BA(e:Cell):Option (Nat×Int):=uf e (λa b=>some (a,b)) none
theorem E0{e:Cell}{q:Nat×Int}:BA e=some q->e = .rev q.1 q.2:=xy (P:=λ(x:Option (Nat×Int)) e=>x=some q->e = .rev q.1 q.2) (λa b h=>by rw[<- Option.some.inj h]) λh=>aJ h
noncomputable def u4(e:Cell):Option (Str×Nat):=As e (λa b=>some (a,b)) none
theorem E2{e:Cell}{q:Str×Nat}:u4 e=some q->e = .sit q.1 q.2:=EX (P:=λ(x:Option (Str×Nat)) e=>x=some q->e = .sit q.1 q.2) (λa b h=>by rw[<- Option.some.inj h]) λh=>aJ h
noncomputable def u5(e:Cell):Option (List AV×Nat):=ug e (λa b=>some (a,b)) none
theorem xD{e:Cell}{q:List AV×Nat}:u5 e=some q->e = .fit q.1 q.2:=xA (P:=λ(x:Option (List AV×Nat)) e=>x=some q->e = .fit q.1 q.2) (λa b h=>by rw[<- Option.some.inj h]) λh=>aJ h
noncomputable def lN(e:Cell):Option (Nat×Nat):=qr e (λa b=>some (a,b)) none
theorem su{e:Cell}{q:Nat×Nat}:lN e=some q->e = .enum q.1 q.2:=sk (P:=λ(x:Option (Nat×Nat)) e=>x=some q->e = .enum q.1 q.2) (λa b h=>Option.some.inj h▸rfl) λh=>aJ h
noncomputable def o7(e:Cell):Option (Nat×Nat):=Bw e (λa b=>some (a,b)) none
theorem Fy{e:Cell}{q:Nat×Nat}:o7 e=some q->e = .wl q.1 q.2:=Fx (P:=λ(x:Option (Nat×Nat)) e=>x=some q->e = .wl q.1 q.2) (λa b h=>Option.some.inj h▸rfl) λh=>aJ h
noncomputable def zq(e:Cell):Option (Nat×Nat):=mJ e (λa b=>some (a,b)) none
theorem Es{e:Cell}{q:Nat×Nat}:zq e=some q->e = .liter q.1 q.2:=nJ (P:=λ(x:Option (Nat×Nat)) e=>x=some q->e = .liter q.1 q.2) (λa b h=>Option.some.inj h▸rfl) λh=>aJ h
noncomputable def gS(e:Cell):Option (List (Str×AV)):=zm e (λa=>some a) none
theorem kd{e:Cell}{q:List (Str×AV)}:gS e=some q->e = .dict q:=EI (P:=λ(x:Option (List (Str×AV))) e=>x=some q->e = .dict q) (λa h=>Option.some.inj h▸rfl) λh=>aJ h
noncomputable def jh(e:Cell):Option (List (Str×AV)):=uZ e (λa=>some a) none
theorem mE{e:Cell}{q:List (Str×AV)}:jh e=some q->e = .ns q:=sL (P:=λ(x:Option (List (Str×AV))) e=>x=some q->e = .ns q) (λa h=>Option.some.inj h▸rfl) λh=>aJ h
noncomputable def oJ(e:Cell):Option (Option AV):=Ap e (λa=>some a) none
theorem sy{e:Cell}{q:Option AV}:oJ e=some q->e = .box q:=ET (P:=λ(x:Option (Option AV)) e=>x=some q->e = .box q) (λa h=>Option.some.inj h▸rfl) λh=>aJ h
noncomputable def lS(e:Cell):Option (Addr×Option Nat×Option Nat):=mZ e (λa b c=>some (a,b,c)) none
theorem mC{e:Cell}{q:Addr×Option Nat×Option Nat}:lS e=some q->e = .exc q.1 q.2.1 q.2.2:=pL (P:=λ(x:Option (Addr×Option Nat×Option Nat)) e=>x=some q->e = .exc q.1 q.2.1 q.2.2) (λa b c h=>Option.some.inj h▸rfl) λh=>aJ h
noncomputable def l5(e:Cell):Option (Option Nat):=Bv e (λa=>some a) none
theorem sM{e:Cell}{q:Option Nat}:l5 e=some q->e = .tb q:=Fw (P:=λ(x:Option (Option Nat)) e=>x=some q->e = .tb q) (λa h=>Option.some.inj h▸rfl) λh=>aJ h
noncomputable def u6(e:Cell):Option (Addr×Array Value×dG):=qJ e (λa b c=>some (a,b,c)) none
theorem xE{e:Cell}{q:Addr×Array Value×dG}:u6 e=some q->e = .tab q.1 q.2.1 q.2.2:=EU (P:=λ(x:Option (Addr×Array Value×dG)) e=>x=some q->e = .tab q.1 q.2.1 q.2.2) (λa b c h=>Option.some.inj h▸rfl) λh=>aJ h
noncomputable def eK(e:Expr):Bool:=lq e (λ_ _ _=>true) <| eC e (λ_ _=>true) <| fu e (λ_ _ _=>true) <| kc e (λ_ _ _=>true) <| kx e (λ_ _ _ _=>true) <| tu e (λ_ _ _ _=>true) <|
 pQ e (λ_ _ _=>true) <| qo e (λ_ _ _ _=>true) <| pR e (λ_ _ _ _=>true) <| tv e (λ_ _=>true) <| lA e (λ_ _ _=>true) <| tA e (λ_ _ _=>true) false
theorem kg{P:Expr->Prop}(h1:∀a b c,P (.Constant a b c))(h2:∀a b,P (.Name a b))(h3:∀a b c,P (.Attribute a b c))(h4:∀a b c,P (.Subscript a b c))(h5:∀a b c d,P (.Call a b c d))(h6:∀a b c d,P (.BinOp a b c d))
  (h7:∀a b c,P (.UnaryOp a b c)) (h8:∀a b c d,P (.IfExp a b c d)) (h9:∀a b c d,P (.Compare a b c d)) (h10:∀a b,P (.List a b)) (h11:∀a b c,P (.Tuple a b c)) (h12:∀a b c,P (.Dict a b c)) {e:Expr}:eK e=true->P e :=
 mx (P:=λb e=>b=true->P e) (λa b c _=>h1 a b c) <| eJ (P:=λb e=>b=true->P e) (λa b _=>h2 a b) <| fH (P:=λb e=>b=true->P e) (λa b c _=>h3 a b c) <|
 la (P:=λb e=>b=true->P e) (λa b c _=>h4 a b c) <| lr (P:=λb e=>b=true->P e) (λa b c d _=>h5 a b c d) <| xb (P:=λb e=>b=true->P e) (λa b c d _=>h6 a b c d) <|
 rY (P:=λb e=>b=true->P e) (λa b c _=>h7 a b c) <| sh (P:=λb e=>b=true->P e) (λa b c d _=>h8 a b c d) <| rZ (P:=λb e=>b=true->P e) (λa b c d _=>h9 a b c d) <|
 xc (P:=λb e=>b=true->P e) (λa b _=>h10 a b) <| iU (P:=λb e=>b=true->P e) (λa b c _=>h11 a b c) <| xd (P:=λb e=>b=true->P e) (λa b c _=>h12 a b c) ff
noncomputable def noStar(e:Expr):Bool:=pK e (λ_ _ _ _=>true) <| sZ e (λ_ _ _ _=>true) <| pY e (λ_ _ _=>true) (eK e)
theorem xY{e:Expr}{es:List Expr}{env:Env}:noStar e=true->starEach (e::es) env=(false,eval e env)::starEach es env :=
 rX (P:=λb e=>b=true->starEach (e::es) env=(false,eval e env)::starEach es env) (λ_ _ _ _ _=>rfl) <|
 w4 (P:=λb e=>b=true->starEach (e::es) env=(false,eval e env)::starEach es env) (λ_ _ _ _ _=>rfl) <|
 r8 (P:=λb e=>b=true->starEach (e::es) env=(false,eval e env)::starEach es env) (λ_ _ _ _=>rfl)
  (kg (P:=λe=>starEach (e::es) env=(false,eval e env)::starEach es env) (λ_ _ _=>rfl) (λ_ _=>rfl) (λ_ _ _=>rfl) (λ_ _ _=>rfl) (λ_ _ _ _=>rfl) (λ_ _ _ _=>rfl) (λ_ _ _=>rfl) (λ_ _ _ _=>rfl) (λ_ _ _ _=>rfl) (λ_ _=>rfl) (λ_ _ _=>rfl) (λ_ _ _=>rfl))
noncomputable def iq(e:Expr):Bool:=lq e (λ_ _ _=>true) <| eC e (λ_ _=>true) <| fu e (λ_ _ _=>true) <| kc e (λ_ _ _=>true) false
theorem sz{o:Expr}(h:iq o=true)(attr:Str)(env:Env)(whole:Sem Value):attributeBase o attr env whole=whole:=by
 revert h
 unfold iq
 exact mx (P:=λb o=>b=true->attributeBase o attr env whole=whole) (λ_ _ _ _=>rfl) (eJ (P:=λb o=>b=true->attributeBase o attr env whole=whole) (λ_ _ _=>rfl)
  (fH (P:=λb o=>b=true->attributeBase o attr env whole=whole) (λ_ _ _ _=>rfl) (la (P:=λb o=>b=true->attributeBase o attr env whole=whole) (λ_ _ _ _=>rfl) ff)))
theorem EJ{i:Expr}(av bv:Value):eK i=true->subscripted i false av bv=PySem.operate [av,bv] (PySem.getItem av bv) :=
 kg (P:=λi=>subscripted i false av bv=PySem.operate [av,bv] (PySem.getItem av bv)) (λ_ _ _=>rfl) (λ_ _=>rfl) (λ_ _ _=>rfl) (λ_ _ _=>rfl) (λ_ _ _ _=>rfl) (λ_ _ _ _=>rfl) (λ_ _ _=>rfl) (λ_ _ _ _=>rfl) (λ_ _ _ _=>rfl) (λ_ _=>rfl) (λ_ _ _=>rfl) (λ_ _ _=>rfl)
theorem r9{iter:Expr}(h:eK iter=true)(env:Env)(x:Value):foldedSetIterable iter env x=pure x :=
 kg (P:=λiter=>foldedSetIterable iter env x=pure x) (λ_ _ _=>rfl) (λ_ _=>rfl) (λ_ _ _=>rfl) (λ_ _ _=>rfl) (λ_ _ _ _=>rfl) (λ_ _ _ _=>rfl) (λ_ _ _=>rfl) (λ_ _ _ _=>rfl) (λ_ _ _ _=>rfl) (λ_ _=>rfl) (λ_ _ _=>rfl) (λ_ _ _=>rfl) h
noncomputable def il(e:Expr):Bool:=eC e (λ_ _=>true) <| fu e (λ_ _ _=>true) <| kc e (λ_ _ _=>true) false
theorem xF{P:Expr->Prop}(h2:∀a b,P (.Name a b))(h3:∀a b c,P (.Attribute a b c))(h4:∀a b c,P (.Subscript a b c)){e:Expr}:il e=true->P e :=
 eJ (P:=λb e=>b=true->P e) (λa b _=>h2 a b) (fH (P:=λb e=>b=true->P e) (λa b c _=>h3 a b c) (la (P:=λb e=>b=true->P e) (λa b c _=>h4 a b c) ff))
noncomputable def isTup(e:Expr):Bool:=lA e (λ_ _ _=>true) false
theorem xh{t value:Expr}{p:Pos}{env:Env}(h1:il t=true)(h2:eK value=true):exec (.Assign [t] value p) env=(PySem.standAt p >>= λ_=>eval value env >>= λv=>assign t env v >>= λ_=>pure .next):=by
 rw[exec_Assign]
 have hs:swapsWithSole [t] value p.line env=pure false:=kg (P:=λvalue=>swapsWithSole [t] value p.line env=pure false) (λ_ _ _=>rfl) (λ_ _=>rfl) (λ_ _ _=>rfl) (λ_ _ _=>rfl) (λ_ _ _ _=>rfl) (λ_ _ _ _=>rfl) (λ_ _ _=>rfl) (λ_ _ _ _=>rfl) (λ_ _ _ _=>rfl) (λ_ _=>rfl) (λ_ _ _=>rfl) (λ_ _ _=>rfl) h2
 have hw:swappedStores [t] value env=pure none/\assignEach [t] env=[(false,assign t env)]:=xF (P:=λt=>swappedStores [t] value env=pure none/\assignEach [t] env=[(false,assign t env)]) (λ_ _=>⟨rfl,rfl⟩) (λ_ _ _=>⟨rfl,rfl⟩) (λ_ _ _=>⟨rfl,rfl⟩) h1
 rw[hs,hw.1,hw.2]
 rfl
end Mine
open PySem PySem.W PyProof.Rows
namespace Mine
structure aB where
 scope:Scope
 loc:Nat
 cells:List (Str×Nat)
 code:Value
 /-- the frame's id -/
 frm:Nat
 /-- boxes that never turn -/
 fz:List (Str×AV)
structure bx(X:Ctx)(ae:aB)(env:Env)(n:Nat)(Z:ay)(F:Fz):Prop where
 sc:env.scope=ae.scope
 fn:ae.scope.kind = .function
 loc:env.locals=Z ae.loc
 ll:ae.loc<n
 cells:∃fc es,env.cells=b4 Z ae.cells++fc/\eO F fc es/\a6 n Z F ae.fz es
 cl:∀p∈ae.cells,p.2<n
 gl:env.globals=mainGlobals
 bi:env.builtins=builtinsNs
 fr:env.frame=some (Z ae.frm)
 fl:ae.frm<n
 top:∃e r,X.fr=e::r/\e.2=ae.frm
 cd:ae.code = .none∨env.code=ae.code/\∃q,env.qual=q++".<locals>."/\d7 F env.code q
noncomputable def aA(X:Ctx)(ae:aB)(env:Env):Kn where
 p n Z F:=bx X ae env n Z F
 mono hn a3 hF g:=⟨g.sc,g.fn,by rw[a3 _ g.ll]; exact g.loc,Nat.lt_of_lt_of_le g.ll hn,g.cells.imp λfc=>Exists.imp λes h=>⟨by rw[mI λp hp=>a3 _ (g.cl p hp)]; exact h.1,h.2.1.mono hF,h.2.2.mono hn a3 hF⟩,λp hp=>Nat.lt_of_lt_of_le (g.cl p hp) hn,g.gl,g.bi,by rw[a3 _ g.fl]; exact g.fr,Nat.lt_of_lt_of_le g.fl hn,g.top,g.cd.imp id λh=>⟨h.1,h.2.imp λq h=>⟨h.1,h.2.mono hF⟩⟩⟩
noncomputable def iZ(v:Value):AV:=match v with
 | .int i _=>.int i
 | .str x _=>.str x
 | .bool b=>.bool b
 | v=>.val v
theorem pI{n:Nat}{Z:ay}{F:Fz}(v:Value):Den n Z F (iZ v) v:=by
 cases v <;> first | exact .val _ | exact .int _ _ | exact .str _ _ | exact .bool _
noncomputable def fb:List (Str×AV)->Str->AV->List (Str×AV)
 | [],x,v=>[(x,v)]
 | p::r,x,v=>match p.1 == x with
  | true=>(x,v)::r
  | false=>p::fb r x v
theorem xG(x:Str)(v:AV)(y:Str):∀m:List (Str×AV),(fb m x v).lookup y=if y == x then some v else m.lookup y
 | []=>by
  show List.lookup y [(x,v)]=_
  rw[List.lookup_cons]
  cases y == x <;> rfl
 | p::m=>by
  unfold fb
  rw[List.lookup_cons]
  cases e:p.1 == x with
  | true =>
   rw[eq_of_beq e]
   show List.lookup y ((x,v)::m)=_
   rw[List.lookup_cons]
   cases y == x <;> rfl
  | false =>
   show List.lookup y (p::fb m x v)=_
   rw[List.lookup_cons,xG x v y m]
   cases h:y == p.1 with
   | true=>rw[eq_of_beq h,e]; rfl
   | false=>rfl
theorem kB.set{n:Nat}{Z:ay}{F:Fz}{m:List (Str×AV)}{f:Str->Option Value}(x:kB n Z F m f){nm:Str}{av:AV}{v:Value}(d:Den n Z F av v):
  kB n Z F (fb m nm av) (λy=>if y=nm then some v else f y):=by
 intro y w h
 rw[xG] at h
 by_cases e:y=nm
 ·rw[e,beq_self_eq_true,if_pos rfl] at h
  exact⟨v,if_pos e,Option.some.inj h▸d⟩
 ·rw[if_neg λq=>e (eq_of_beq q)] at h
  simp only[if_neg e]
  exact x y w h
noncomputable def gT:List (Str×Value):=[("len",.builtin "len"),("range",.type "range"),("next",.builtin "next"),("iter",.builtin "iter"),("enumerate",.type "enumerate"),("str",.type "str"),
 ("isinstance",.builtin "isinstance"),("divmod",.builtin "divmod"),("list",.type "list"),("reversed",.type "reversed"),("all",.builtin "all"),("repr",.builtin "repr"),("type",.type "type")]
structure ey(X:Ctx):Prop where
 names:∀x v,gT.lookup x=some v->X.mb x=some v
 nm:∃v,peek X.K ⟨X.prog,X.w.params⟩ (nsGet mainGlobals "__name__")=some v
noncomputable def yx(K:Frag)(x:Str):Option (Option Value):=(K.lookup mainGlobals).bind (lookIn x)
noncomputable def tE(K:Frag)(x:Str):Option Value:=aQ (yx K x) (λo=>aQ o some (gT.lookup x)) none
noncomputable def Hl(K:Frag)(x:Str):Option AV:=(tE K x).map iZ
noncomputable def cellOf(ae:aB)(x:Str):EM AV:=aQ (ae.cells.lookup x) (λi=>EM.bind (EM.aK oJ i) EM.opt) (EM.opt (ae.fz.lookup x))
noncomputable def Iv(K:Frag)(ae:aB)(x:Str)(k:NameKind):EM AV:=match k with
 | .local=>EM.bind (EM.aK jh ae.loc) λm=>EM.opt (m.lookup x)
 | .cell=>cellOf ae x
 | .free=>_root_.cond (x == ("__classdict__" : Str)) EM.fail (cellOf ae x)
 | .globalExplicit=>EM.fail
 | .globalImplicit=>EM.opt (Hl K x)
noncomputable def eName(K:Frag)(ae:aB)(x:Str):EM AV:=_root_.cond (x == ("__debug__" : Str)) EM.fail (aQ (ae.scope.names.lookup x) (Iv K ae x) EM.fail)
theorem pM{β B:Type}(f:β->B)(x:Str):∀l:List (Str×β),(l.map λp=>(p.1,f p.2)).lookup x=(l.lookup x).map f
 | []=>rfl
 | p::l=>by
  rw[List.map_cons,List.lookup_cons,List.lookup_cons,pM f x l]
  cases x == p.1 <;> rfl
section
variable{X:Ctx}{A:Around}{Z:ay}{F:Fz}{J:St}{s:Shared}{Y:Kn}{ae:aB}{env:Env}{x:Str}
theorem zr{h:Heap}{a:Addr}{o:Obj}{x:Str}{r:Option Value}(ho:h.get? a=some o)(e:lookIn x o=some r){Q:Option Value->Shared->Prop}{M:Model}{A:Around}{E:Value->Shared->Prop}{s:Shared}(hs:s.heap=h)
  (q:Q r s):wpAny M A (nsGet a x) Q E s:=by
 unfold nsGet
 refine wpAny_bind (wpAny_loadPart (hs▸ho) ?_)
 rw[nsLook_of e]
 exact wpAny_pure q
theorem bx.fk{n:Nat}(g:bx X ae env n Z F):env.scope.kind = .function:=g.sc▸g.fn
theorem bx.cell{n:Nat}(g:bx X ae env n Z F){i:Nat}(h:ae.cells.lookup x=some i):env.cells.lookup x=some (Z i):=g.cells.elim λfc q=>q.elim λes q=>by rw[q.1,List.lookup_append,b4,pM,h]; rfl
theorem bx.kind{n:Nat}(g:bx X ae env n Z F){k:NameKind}(h:ae.scope.names.lookup x=some k):env.kindOf x=some k:=by unfold Env.kindOf; rw[g.sc]; exact h
theorem bx.Iw{n:Nat}(g:bx X ae env n Z F)(h:ae.fz=[]):env.cells=b4 Z ae.cells:=g.cells.elim λfc q=>q.elim λes q=>by
 rw[h] at q
 have e:es=[]:=q.2.2
 rw[e] at q
 cases fc with
 | nil=>rw[q.1,List.append_nil]
 | cons=>exact q.2.1.elim
theorem yy{n:Nat}{v:AV}:∀{fc:List (Str×Addr)} {es:List DictEntry} {fz:List (Str×AV)},eO F fc es->a6 n Z F fz es->fz.lookup x=some v->∃a o w,fc.lookup x=some a/\F a=some o/\o.data = .cell (some w)/\Den n Z F v w
 | _,_,[],_,_,h=>aJ h
 | [],[],_::_,_,d,_=>d.elim
 | [],_::_,_::_,b,_,_=>b.elim
 | _::_,[],_::_,b,_,_=>b.elim
 | p::fc,e::es,q::fz,b,d,h=>by
  have hk:q.1=p.1:=by
   refine d.1.1.elim λt ht=>?_
   have:=b.1.2
   rw[ht] at this
   exact(eq_of_beq this)
  rw[List.lookup_cons] at h ⊢
  rw[<- hk]
  cases hx:x == q.1 with
  | true =>
   rw[hx] at h
   exact b.1.1.elim λo ho=>⟨p.2,o,e.val,rfl,ho.1,ho.2,Option.some.inj h▸d.1.2⟩
  | false=>rw[hx] at h; exact yy b.2 d.2 h
theorem ai.CS{C:AV->St->Prop}(I:Inv X Z F J s)(g:bx X ae env J.n Z F)(H:∀i w v,env.cells.lookup x=some i->s.heap.IsCell i (some w)->Den J.n Z F v w->C v J):ai J (cellOf ae x) C:=by
 unfold cellOf
 cases hc:ae.cells.lookup x with
 | some i =>
  refine ai.aK sy λo ho=>ai.jZ λv hv=>(I.wt ho).elim λw h=>?_
  rw[hv] at h
  exact h.2.elim λu hu=>H (Z i) u v (g.cell hc) (hu.1▸h.1) hu.2
 | none=>exact ai.jZ λv hv=>g.cells.elim λfc q=>q.elim λes q=>(yy q.2.1 q.2.2 hv).elim λa p=>p.elim λo p=>p.elim λw p=>H a w v (by rw[q.1,List.lookup_append,b4,pM,hc]; exact p.1) ⟨o,I.froz _ _ p.2.1,p.2.2.1⟩ p.2.2.2
theorem FA(L:ey X)(I:Inv X Z F J s)(g:bx X ae env J.n Z F){v:Value}(hv:tE X.K x=some v){Q:Value->Shared->Prop}{E:Value->Shared->Prop}(q:Q v s):wpAny (model X.prog X.w) A (loadGlobal env x) Q E s:=by
 unfold loadGlobal
 rw[g.gl,g.bi]
 unfold tE at hv
 cases hg:yx X.K x with
 | none=>rw[hg] at hv; exact aJ hv
 | some o =>
  rw[hg] at hv
  refine(Option.bind_eq_some_iff.mp hg).elim λob h=>wpAny_bind (zr (I.bV _ _ h.1) h.2 rfl ?_)
  cases o with
  | some w=>exact wpAny_pure (Option.some.inj hv▸q)
  | none =>
   refine wpAny_bind (wpAny_nsGet (I.ns I.base.mb) ?_)
   rw[L.names _ _ hv]
   exact wpAny_pure q
theorem ah.BB(L:ey X)(x:Str):ah X A (aA X ae env) ao (eName X.K ae x) (loadName env x):=by
 unfold eName
 cases hd:x == ("__debug__" : Str) with
 | true=>exact ah.fail
 | false =>
  cases hl:ae.scope.names.lookup x with
  | none=>exact ah.fail
  | some k =>
   refine ah.bw λJ Z F s I g=>?_
   have hl':=bx.kind g hl
   cases k with
   | «local»=>exact ai.aK mE λm hm=>ai.jZ λv hv=>(I.nu hm).elim λf h=>(h.2 x v hv).elim λw hw=>Goes.same I λQ E q=>wpAny_loadName_local (bx.fk g) hl' (by rw[bx.loc g]; exact h.1) hw.1 (q w hw.2)
   | cell=>exact ai.CS I g λi w v hc hb d=>Goes.same I λQ E q=>wpAny_loadName_cell (bx.fk g) hl' hc hb (q w d)
   | free =>
    show ai J (_root_.cond (x == ("__classdict__" : Str)) EM.fail (Mine.cellOf ae x)) _
    cases hn:x == ("__classdict__" : Str) with
    | true=>exact ai.fail
    | false=>exact ai.CS I g λi w v hc hb d=>Goes.same I λQ E q=>wpAny_loadName_free (bx.fk g) hl' hc hb (q w d) hn
   | globalExplicit=>exact ai.fail
   | globalImplicit =>
    refine ai.jZ λv hv=>(Option.map_eq_some_iff.mp hv).elim λw hw=>Goes.same I λQ E q=>?_
    unfold loadName
    simp only[Env.blockKind,bx.fk g,hl',ScopeKind.isAnnotationScope,Bool.false_and,Bool.false_eq_true,if_false]
    exact FA L I g hw.1 (q w (hw.2▸pI w))
theorem ah.name(L:ey X)(x:Str)(pos:Pos):ah X A (aA X ae env) ao (eName X.K ae x) (eval (.Name x pos) env):=by
 intro ev b ev' cs e hc Z F s I g Q E hQ
 refine wpAny_Name (ah.BB L x ev b ev' cs e hc Z F s I g Q E hQ) ?_
 unfold eName at e
 cases hd:x == ("__debug__" : Str) with
 | true=>rw[hd] at e; exact aJ e
 | false=>rfl
section
variable(ae:aB)(x:Str)(v:AV)
noncomputable def m1:EM Unit:=EM.bind (EM.opt (ae.cells.lookup x)) λi=>EM.bind (EM.aK oJ i) λ_=>EM.upd λJ=>J.set i (.box (some v))
noncomputable def Iy(k:NameKind):EM Unit:=match k with
 | .local=>EM.bind (EM.aK jh ae.loc) λm=>EM.upd λJ=>J.set ae.loc (.ns (fb m x v))
 | .cell=>m1 ae x v
 | .free=>m1 ae x v
 | .globalExplicit=>EM.fail
 | .globalImplicit=>EM.fail
noncomputable def fe:EM Unit:=aQ (ae.scope.names.lookup x) (Iy ae x v) EM.fail
end
theorem ai.m1{av:AV}{v:Value}{C:Unit->St->Prop}(I:Inv X Z F J s)(g:bx X ae env J.n Z F)(dv:Den J.n Z F av v)(H:∀i vQ aj,env.cells.lookup x=some (Z i)->s.heap.IsCell (Z i) vQ->(∀h',h'.IsCell (Z i) (some v)->Heap.SameBut (Z i) s.heap h'->Inv X Z F aj { s with heap:=h' }/\aD Z F J s Z F aj { s with heap:=h' })->C () aj):ai J (m1 ae x av) C :=
 ai.opt λi hi=>ai.aK sy λo ho=>ai.gX ((I.wt ho).elim λw h=>H i w _ (g.cell hi) h.1 λh' hc hs=>I.set (c':=.box (some av)) ho hs.extBut (.JZ hc ⟨v,rfl,dv⟩) s.toks)
theorem ah.store{av:AV}{v:Value}(hg:Y.le (aA X ae env))(hv:Y.le (ao av v)):ah X A Y (λ_ _=>Kn.top) (fe ae x av) (storeName env x v):=by
 unfold fe
 cases hl:ae.scope.names.lookup x with
 | none=>exact ah.fail
 | some k =>
  refine ah.bw λJ Z F s I q=>?_
  have g:=hg _ _ _ q
  have dv:=hv _ _ _ q
  have hl':=bx.kind g hl
  cases k with
  | «local» =>
   show ai J (EM.bind (EM.aK jh ae.loc) λm=>EM.upd λJ=>J.set ae.loc (.ns (fb m x av))) _
   exact ai.aK mE λm hm=>ai.gX ((I.nu hm).elim λf h=>Goes.to λQ E hQ=>wpAny_storeName_local hl' (by rw[bx.loc g]; exact h.1) (λh' hn hs=>hQ () _ Z F trivial (by
    rw[bx.loc g] at hn hs
    exact I.set hm hs.extBut (.l4 hn (kB.set h.2 dv)) (s.toks+1))) (by rw[bx.fk g]; rfl))
  | cell=>exact ai.m1 I g dv λi vQ aj hc hb st=>Goes.to λQ E hQ=>wpAny_storeName_cell (bx.fk g) hl' hc hb λh' h1 h2=>hQ () _ Z F trivial (st h' h1 h2)
  | free=>exact ai.m1 I g dv λi vQ aj hc hb st=>Goes.to λQ E hQ=>storeName_free (bx.fk g) hl' hc hb λh' h1 h2=>hQ () _ Z F trivial (st h' h1 h2)
  | globalExplicit=>exact ai.fail
  | globalImplicit=>exact ai.fail
noncomputable def uh(c:Const):EM AV:=match c with
 | .none=>EM.ret (.val .none)
 | .bool b=>EM.ret (.bool b)
 | .int i=>EM.ret (.int i)
 | .str x=>EM.ret (.str x)
 | _=>EM.fail
theorem ah.fresh{β:Type}{R:β->Value->Kn}{x:EM β}{f:Tok->Value}(h:∀t,ah X A Y R x (pure (f t))):ah X A Y R x (do return f (<- PySem.fresh)) :=
 λev b ev' cs e hc Z F s I g Q E hQ=>wpAny_bind (wpAny_fresh (h s.toks ev b ev' cs e hc Z F { s with toks:=s.toks+1 } (I.toks _) g Q E λv s' aq F' r I' st=>hQ v s' aq F' r I' ((aD.toks I.ids _).trans st)))
theorem ah.const(c:Const)(k:Nat)(pos:Pos):ah X A Y ao (uh c) (eval (.Constant c k pos) env):=by
 rw[eval_Constant]
 cases c with
 | none=>exact ah.ret λ_ _ _ _=>rfl
 | bool b=>exact ah.ret λ_ _ _ _=>rfl
 | int i=>exact ah.fresh λt=>ah.ret λ_ _ _ _=>⟨_,rfl⟩
 | str x=>exact ah.fresh λt=>ah.ret λ_ _ _ _=>⟨_,rfl⟩
 | _=>exact ah.fail
end
noncomputable def ru(c:Cell):Option Value:=lE c (λ_=>some (.type "list")) <| km c (λC _=>some (.ref C)) <| mJ c (λ_ _=>some (.type "list_iterator")) <| mZ c (λC _ _=>some (.ref C)) <| ud c (λo=>some o.cls) <| tC c (some (.type "list_iterator")) <| ue c (λ_ _=>some (.type "dict")) none
noncomputable def typ(K:Frag)(J:St)(av:AV):Option Value:=cM av (λ_=>some (.type "int")) <| onStr av (λ_=>some (.type "str")) <| oh av (λ_=>some (.type "bool")) <| iC av (λ_=>some (.type "tuple")) <|
 oH av (λC _=>some (.ref C)) <| uX av (λC _=>some (.ref C)) <| m5 av (λ_ _ _ _ _ _=>some (.type "function")) <| eM av (λv=>typeIn K v) <| bT av (λi=>(J.get i).bind ru) <| jP av (λ_=>some (.type "list")) none
section
variable{X:Ctx}{A:Around}{Z:ay}{F:Fz}{J:St}{s:Shared}{Y:Kn}
theorem Hm{n:Nat}{a:Addr}{h:Heap}{c:Cell}{T:Value}:ru c=some T->bH n Z F h a c->∃o,h.get? a=some o/\o.cls=T :=
 mA (P:=λx c=>x=some T->bH n Z F h a c->∃o,h.get? a=some o/\o.cls=T) (λxs e x=>x.ex λo h1 (h2:∃vs k,o=cL vs k/\ax n Z F xs vs)=>⟨o,h1,h2.elim λvs q=>q.elim λk q=>q.1▸Option.some.inj e⟩) <|
 mB (P:=λx c=>x=some T->bH n Z F h a c->∃o,h.get? a=some o/\o.cls=T) (λC d e x=>x.ex λo h1 (h2:o=jN C (Z d)/\d<n)=>⟨o,h1,h2.1▸Option.some.inj e⟩) <|
 nJ (P:=λx c=>x=some T->bH n Z F h a c->∃o,h.get? a=some o/\o.cls=T) (λl k e x=>x.ex λo h1 (h2:o=dE (.ref (Z l)) k/\l<n)=>⟨o,h1,h2.1▸Option.some.inj e⟩) <|
 pL (P:=λx c=>x=some T->bH n Z F h a c->∃o,h.get? a=some o/\o.cls=T) (λC d t e x=>x.ex λo h1 (h2:lY n Z C d t o)=>⟨o,h1,by cases h2 with | mk vs e2=>rw[e2]; exact Option.some.inj e⟩) <|
 xw (P:=λx c=>x=some T->bH n Z F h a c->∃o,h.get? a=some o/\o.cls=T) (λr e x=>x.ex λo h1 (h2:o=r)=>⟨o,h1,h2▸Option.some.inj e⟩) <|
 xg (P:=λx c=>x=some T->bH n Z F h a c->∃o,h.get? a=some o/\o.cls=T) (λe x=>x.ex λo h1 (h2:∃k,o=dE .none k)=>⟨o,h1,h2.elim λk q=>q▸Option.some.inj e⟩) <|
 xx (P:=λx c=>x=some T->bH n Z F h a c->∃o,h.get? a=some o/\o.cls=T) (λhs m e x=>x.ex λo h1 (h2:jX n Z F hs m o)=>⟨o,h1,by cases h2 with | mk kvs es ep hx=>exact hx.1.trans (Option.some.inj e)⟩) λe=>aJ e
theorem mF{M:Model}{h:Heap}{a:Addr}{v T:Value}(e:v = .ref a)(x:∃o,h.get? a=some o/\o.cls=T):Looks M h (typeOf v) T:=x.elim λo q=>e▸q.2▸(Looks.ld q.1).andThen .now
theorem pT(I:Inv X Z F J s){M:Model}{av:AV}{v T:Value}(d:Den J.n Z F av v)(h:typ X.K J av=some T):Looks M s.heap (typeOf v) T:=by
 cases av with
 | val w=>exact(show v=w from d)▸looks_typeIn I.bV h
 | bool b=>exact(show v = .bool b from d)▸Option.some.inj h▸Looks.of_pure rfl
 | int i=>exact(mR d).elim λt e=>e▸Option.some.inj h▸Looks.of_pure rfl
 | str x=>exact(lC d).elim λt e=>e▸Option.some.inj h▸Looks.of_pure rfl
 | ref i=>exact(Option.bind_eq_some_iff.mp (show(J.get i).bind ru=some T from h)).elim λc q=>mF (dK d).1 (Hm q.2 (I.at q.1))
 | tup xs=>cases fL d with | mk a vs k e ha=>exact mF e ⟨_,I.froz _ _ ha,Option.some.inj h⟩
 | lst xs=>cases iu d with | mk a vs k e ha=>exact mF e ⟨_,I.froz _ _ ha,Option.some.inj h⟩
 | any=>exact aJ h
 | obj C fs=>cases lD d with | mk a d od es k e ha=>exact mF e ⟨_,I.froz _ _ ha,Option.some.inj h⟩
 | eg C fs=>cases mT d with | mk a d od vs e ha=>exact mF e ⟨_,I.froz _ _ ha,Option.some.inj h⟩
 | cY a b c e f z=>cases(show fj J.n Z F a b c e f (a6 J.n Z F z) v from d) with | mk a qual o pm code ct fc es e ha hc=>exact mF e ⟨_,I.froz _ _ ha,hc.trans (Option.some.inj h)⟩
noncomputable def ji(o:Option (Option Value)):Bool:=aQ o (λv=>aQ v (λ_=>false) true) false
theorem mW{o:Option (Option Value)}(h:ji o=true):o=some none:=by
 rcases o with _ | _ | v
 ·exact ff h
 ·rfl
 ·exact ff h
noncomputable def lH(K:Frag)(T:Value):Bool:=ji (findIn K T "__bool__") && ji (findIn K T "__len__")
theorem xi(I:Inv X Z F J s){M:Model}{av:AV}{v:Value}{a:Addr}{T:Value}(d:Den J.n Z F av v)(ha:v = .ref a)(h:typ X.K J av=some T)(hb:Looks M s.heap (typeLookup T "__bool__") none)(hl:Looks M s.heap (typeLookup T "__len__") none)
  {Q:Bool->Shared->Prop} {E:Value->Shared->Prop} (q:Q true s):wpAny M A (truthy v) Q E s:=by
 have T1:=pT (M:=M) I d h
 rw[ha] at T1 ⊢
 unfold truthy
 refine wpAny_bind (m:=callSpecial? (.ref a) (Str.ofString "__bool__")) (wpAny_bind (wpAny_bind (T1.here (hb.here (wpAny_pure ?_)))))
 refine wpAny_bind (wpAny_bind (T1.here (hl.here ?_)))
 exact wpAny_pure q
theorem sA(I:Inv X Z F J s){av:AV}{v:Value}{a:Addr}{C:Addr}(d:Den J.n Z F av v)(ha:v = .ref a)(h:typ X.K J av=some (.ref C))(hn:lH X.K (.ref C)=true):Goes X A Z F J s (truthy v) (ew true) J:=by
 rw[lH,Bool.and_eq_true] at hn
 exact Goes.same I λQ E q=>xi I d ha h (looks_findIn I.bV (mW hn.1)) (looks_findIn I.bV (mW hn.2)) (q true rfl)
noncomputable def Aw(K:Frag)(c:Cell):EM Bool:=lE c (λxs=>EM.bz (xs.length<2 ^ 62) (!xs.isEmpty)) <| km c (λC _=>EM.dz (lH K (.ref C)) true) EM.fail
noncomputable def i9(K:Frag)(av:AV):EM Bool:=oh av EM.ret <| cM av (λi=>EM.ret (i != 0)) <| bT av (λi=>EM.bind (EM.cell i) (Aw K)) <|
 onStr av (λx=>EM.bz ((x.length:Int)<2 ^ 63) ((x.length:Int) != 0)) <| oH av (λC _=>EM.dz (lH K (.ref C)) true) <| uX av (λC _=>EM.dz (lH K (.ref C)) true) <|
 m5 av (λ_ _ _ _ _ _=>EM.ret true) <| eM av (λv=>mU v (EM.ret false) EM.fail) EM.fail
theorem Hn:typeLookup (.type "function") "__bool__" = pure none:=by kernel_rfl
theorem Iz:typeLookup (.type "function") "__len__" = pure none:=by kernel_rfl
theorem ax.length{n:Nat}:∀{xs:List AV} {vs:List Value},ax n Z F xs vs->xs.length=vs.length
 | [],_,d=>qG d▸rfl
 | _::_,_,d=>qH (P:=λvs=>_+1=vs.length) (λ_ _ _ hs=>congrArg (· + 1) (ax.length hs)) d
theorem Ho{n:Nat}(h:n<2 ^ 62):(n:Int)<2 ^ 63:=by omega
theorem E3(I:Inv X Z F J s){i:Nat}{xs:List AV}(hx:J.get i=some (.list xs))(h:xs.length<2 ^ 62):Goes X A Z F J s (truthy (.ref (Z i))) (ew (!xs.isEmpty)) J :=
 (I.cA hx).elim λvs q=>q.elim λk q=>Goes.tok I λQ E hQ=>by
  refine wpAny_truthy_list ⟨_,q.1,rfl,k,rfl⟩ (by rw[List.size_toArray,<- q.2.length]; exact Ho h) ?_
  have:(!vs.toArray.isEmpty)=(!xs.isEmpty):=by
   have:=q.2.length
   cases xs <;> cases vs <;> first | rfl | cases this
  rw[this]
  exact hQ _ _ rfl
theorem ah.truth{av:AV}{v:Value}(hv:Y.le (ao av v)):ah X A Y ew (i9 X.K av) (truthy v):=by
 refine ah.bw λJ Z F s I g=>?_
 have d:Den J.n Z F av v:=hv _ _ _ g
 cases av with
 | bool b=>exact ai.ret (Goes.same I λQ E q=>(show v = .bool b from d)▸wpAny_truthy_bool (q b rfl))
 | int i=>exact ai.ret (Goes.same I λQ E q=>(mR d).elim λt e=>e▸P.truthy_int (q _ rfl))
 | ref i =>
  have d':=(dK d).1
  rw[d']
  show ai J (EM.bind (EM.cell i) (Aw X.K)) _
  refine ai.cell λc=>mA (P:=λx c=>J.get i=some c->ai J x λb aj=>Goes X A Z F J s (truthy (.ref (Z i))) (ew b) aj) (λxs hx=>ai.bz λh=>E3 I hx h) <|
   mB (P:=λx c=>J.get i=some c->ai J x λb aj=>Goes X A Z F J s (truthy (.ref (Z i))) (ew b) aj) (λC e hx=>ai.dz λh=>sA I (av:=.ref i) (d'▸d) rfl (show(J.get i).bind ru=_ by rw[hx]; rfl) h) λ_=>ai.fail
 | str x =>
  show ai J (EM.bz ((x.length:Int)<2 ^ 63) ((x.length:Int) != 0)) _
  exact ai.bz λh=>Goes.tok I λQ E q=>(lC d).elim λt e=>e▸P.truthy_str (Int.not_le.mpr h) (q _ _ rfl)
 | obj C fs =>
  show ai J (EM.dz (lH X.K (.ref C)) true) _
  exact ai.dz λh=>by cases lD d with | mk a d' od es k e ha=>exact sA I d e rfl h
 | eg C fs =>
  show ai J (EM.dz (lH X.K (.ref C)) true) _
  exact ai.dz λh=>by cases mT d with | mk a d' od vs e ha=>exact sA I d e rfl h
 | cY a b c e f z=>exact ai.ret (by cases(show fj J.n Z F a b c e f (a6 J.n Z F z) v from d) with | mk a qual o pm code ct fc es e ha hc=>exact Goes.same I λQ E q=>xi I d e rfl (Looks.of_pure Hn) (Looks.of_pure Iz) (q true rfl))
 | lst xs=>exact ai.fail
 | any=>exact ai.fail
 | val w=>exact nK (P:=λ(x:EM Bool) w=>v=w->ai J x λb aj=>Goes X A Z F J s (truthy v) (ew b) aj) (λe=>ai.ret (Goes.same I λQ E q=>e▸wpAny_pure (q false rfl))) (λ_=>ai.fail) d
 | tup xs=>exact ai.fail
end
section
variable{n:Nat}{Z:ay}{F:Fz}
theorem a6.find(x:Str):∀{fs:List (Str×AV)} {es:List DictEntry},a6 n Z F fs es->(fs.lookup x=none->es.find? (·.key.isStr x)=none)/\∀av,fs.lookup x=some av->∃e,es.find? (·.key.isStr x)=some e/\Den n Z F av e.val
 | [],es,d=>by rw[show es=[] from d]; exact⟨λ_=>rfl,λ_ h=>aJ h⟩
 | _::_,[],d=>d.elim
 | p::fs,e::es,d=>by
  have ih:=a6.find x d.2
  have hk:e.key.isStr x=(x == p.1):=d.1.1.elim λt q=>by rw[q]; exact Bool.beq_comm
  rw[List.lookup_cons,List.find?_cons,hk]
  cases x == p.1 with
  | true=>exact⟨λh=>(nomatch h),λav h=>⟨e,rfl,Option.some.inj h▸d.1.2⟩⟩
  | false=>exact ih
theorem a6.noRef:∀{fs:List (Str×AV)} {es:List DictEntry},a6 n Z F fs es->es.any (·.refKey)=false
 | [],es,d=>by rw[show es=[] from d]; rfl
 | _::_,[],d=>d.elim
 | p::fs,e::es,d=>by
  rw[List.any_cons,a6.noRef d.2,Bool.or_false]
  exact d.1.1.elim λt q=>by unfold DictEntry.refKey; rw[q]
theorem a6.len:∀{fs:List (Str×AV)} {es:List DictEntry},a6 n Z F fs es->es.length=fs.length
 | [],es,d=>by rw[show es=[] from d]; rfl
 | _::_,[],d=>d.elim
 | p::fs,e::es,d=>congrArg (· + 1) (a6.len d.2)
theorem lookIn_dict{es:List DictEntry}{o:Obj}{k:Nat}(ho:o.data = .dict es.toArray k)(hr:es.any (·.refKey)=false)(x:Str):lookIn x o=some ((es.find? (·.key.isStr x)).map (·.val)):=by
 unfold lookIn
 rw[ho]
 dsimp only
 cases es.find? (·.key.isStr x) with
 | some e=>rfl
 | none =>
  dsimp only
  rw[hr]
  rfl
theorem FC{fs:List (Str×AV)}{es:List DictEntry}(d:a6 n Z F fs es){o:Obj}{k:Nat}(ho:o.data = .dict es.toArray k){x:Str}(h:fs.lookup x=none):lookIn x o=some none:=by
 rw[lookIn_dict ho d.noRef,(d.find x).1 h]; rfl
theorem sN{fs:List (Str×AV)}{es:List DictEntry}(d:a6 n Z F fs es){o:Obj}{k:Nat}(ho:o.data = .dict es.toArray k){x:Str}{av:AV}(h:fs.lookup x=some av):∃v,lookIn x o=some (some v)/\Den n Z F av v :=
 ((d.find x).2 av h).imp' (·.val) λe q=>⟨by rw[lookIn_dict ho d.noRef,q.1]; rfl,q.2⟩
theorem ax.fX:∀{xs:List AV} {vs:List Value},ax n Z F xs vs->∀{i:Nat} {av:AV},xs[i]? = some av->∃v,vs[i]? = some v/\Den n Z F av v
 | [],_,_,_,_,e=>aJ e
 | _::_,[],d,_,_,_=>d.elim
 | x::xs,v::vs,d,0,av,e=>⟨v,rfl,Option.some.inj e▸d.1⟩
 | x::xs,v::vs,d,i+1,av,e=>ax.fX d.2 (i:=i) e
end
noncomputable def isBuiltin(nm:String)(o:Option (Option Value)):Bool:=aQ o (λv=>aQ v (λw=>lu w (λi=>i == nm) false) false) false
theorem mz{nm:String}{o:Option (Option Value)}:isBuiltin nm o=true->o=some (some (Value.builtin nm)) :=
 eA (P:=λb (o:Option (Option Value))=>b=true->o=some (some (Value.builtin nm))) (λv=>eA (P:=λb (v:Option Value)=>b=true->some v=some (some (Value.builtin nm))) (λw=>my (P:=λb (w:Value)=>b=true->some (some w)=some (some (Value.builtin nm))) (λi h=>by rw[eq_of_beq h]) ff) ff) ff
noncomputable def hasDictIn(K:Frag)(C:Addr):Bool:=aQ (clsIn K C) (λcd=>cd.hasDict) false
theorem sC{K:Frag}{C:Addr}(h:hasDictIn K C=true):∃cd,clsIn K C=some cd/\cd.hasDict=true:=by
 unfold hasDictIn at h
 cases e:clsIn K C with
 | none=>rw[e] at h; exact ff h
 | some cd=>rw[e] at h; exact⟨cd,rfl,h⟩
noncomputable def plainGet(K:Frag)(C:Addr):Bool:=isBuiltin "object.__getattribute__" (findIn K (.ref C) "__getattribute__") && hasDictIn K C
noncomputable def pq(av:AV):Bool:=uY av false (eM av handedIn true)
theorem pN{n:Nat}{Z:ay}{F:Fz}{av:AV}{v:Value}(d:Den n Z F av v)(h:pq av=true):handedIn v=true:=by
 cases av with
 | val w=>rw[show v=w from d]; exact h
 | bool b=>rw[show v = .bool b from d]; rfl
 | int i=>exact(mR d).elim λt e=>e▸rfl
 | str x=>exact(lC d).elim λt e=>e▸rfl
 | ref i=>exact d.1▸rfl
 | tup xs=>cases fL d with | mk a vs k e=>rw[e]; rfl
 | lst xs=>cases iu d with | mk a vs k e=>rw[e]; rfl
 | any=>exact ff h
 | obj C fs=>cases lD d with | mk a d' od es k e=>rw[e]; rfl
 | eg C fs=>cases mT d with | mk a d' od vs e=>rw[e]; rfl
 | cY a b c e f z=>cases(show fj n Z F a b c e f (a6 n Z F z) v from d) with | mk a qual o pm code ct fc es e=>rw[e]; rfl
noncomputable def vR(o:Option AV):Option AV:=o.bind λav=>_root_.cond (pq av) (some av) none
theorem zt{o:Option AV}{av:AV}(h:vR o=some av):o=some av/\pq av=true:=(Option.bind_eq_some_iff.mp h).elim λa q=>by
 cases e:pq a with
 | true=>rw[e] at q; rw[<- Option.some.inj q.2]; exact⟨q.1,e⟩
 | false=>rw[e] at q; exact aJ q.2
noncomputable def qM(b:Bool)(K:Frag)(C:Addr)(fs:List (Str×AV))(x:Str):Option AV:=_root_.cond (b && ji (findIn K (.ref C) x)) (vR (fs.lookup x)) none
noncomputable def ja(K:Frag)(C:Addr)(fs:List (Str×AV))(x:Str):Option AV:=qM (plainGet K C) K C fs x
noncomputable def Ax(K:Frag)(C:Addr):Bool:=(isBuiltin "BaseException.__getattribute__" (findIn K (.ref C) "__getattribute__") && ji (findIn K (.ref C) "__getattr__")) && (hasDictIn K C && (mroIn K C (.type "BaseException") == some true))
noncomputable def tF(K:Frag)(C:Addr)(fs:List (Str×AV))(x:Str):Option AV:=qM (Ax K C) K C fs x
theorem sO{b:Bool}{K:Frag}{C:Addr}{fs:List (Str×AV)}{x:Str}{av:AV}(h:qM b K C fs x=some av):(b=true/\findIn K (.ref C) x=some none)/\fs.lookup x=some av/\pq av=true:=by
 unfold qM at h
 cases e:(b && ji (findIn K (.ref C) x)) with
 | true=>rw[e] at h; rw[Bool.and_eq_true] at e; exact⟨⟨e.1,mW e.2⟩,zt h⟩
 | false=>rw[e] at h; exact aJ h
theorem findObj_own{K:Frag}{C:Addr}{od:Obj}{x:Str}{v:Value}(hd:hasDictIn K C=true)(hf:findIn K (.ref C) x=some none)(hl:lookIn x od=some (some v)):
  findObj K C (some od) x=some (.value v):=(sC hd).elim λcd h=>by
 unfold findObj
 rw[h.1,Option.bind_some,hf,Option.bind_some]
 dsimp only
 rw[Option.bind_some,Option.bind_some]
 unfold PySem.W.ownOf
 rw[h.2]
 dsimp only
 rw[if_pos rfl,hl,Option.bind_some]
noncomputable def nR(K:Frag)(C:Addr):Bool:=aQ (clsIn K C) (λcd=>!cd.hasDict) false
theorem Eh{K:Frag}{C:Addr}(h:nR K C=true)(od:Option Obj)(x:Str):findObj K C od x=findObj K C none x:=by
 unfold nR at h
 unfold findObj
 cases hc:clsIn K C with
 | none=>rfl
 | some cd =>
  rw[hc] at h
  have h':(!cd.hasDict)=true:=h
  have hd:cd.hasDict=false:=by
   cases e:cd.hasDict with
   | false=>rfl
   | true=>rw[e] at h'; exact ff h'
  simp only[Option.bind_some,PySem.W.ownOf,hd,Bool.false_eq_true,if_false]
theorem FD:builtinKind "BaseException.__getattribute__" = some .slot:=by decide +kernel
theorem E4:splitId "BaseException.__getattribute__" = some ("BaseException","__getattribute__"):=by decide +kernel
theorem Hp:(Value.builtin "BaseException.__getattribute__" == Value.builtin "object.__getattribute__")=false:=by decide +kernel
theorem Hq{prog:Program}{w:World}{A:Around}{E:Value->Shared->Prop}{s:Shared}{K:Frag}{x C:Addr}{ox:Obj}{od:Option Obj}{name:Str}{expr:Bool}{Q:Value->Shared->Prop}{v:Value}(X:K.In s.heap)(I:InstAt s.heap x ox C od)
  (hga:findIn K (.ref C) "__getattribute__" = some (some (.builtin "BaseException.__getattribute__"))) (hgn:findIn K (.ref C) "__getattr__" = some none) (hsub:mroIn K C (.type "BaseException")=some true)
  (hf:findObj K C od name=some (.value v)) (hh:handedIn v=true) (h:Q v { s with toks:=s.toks+1 }):wpAny (model prog w) A (getAttr (.ref x) name expr) Q E s:=by
 have L0:=I.type (M:=model prog w)
 have L4:Looks (model prog w) s.heap (isInstance (.ref x) (.type "BaseException")) true:=L0.andThen (looks_mroIn X hsub)
 have hx0:(expr && onTheHeap (Value.builtin "BaseException.__getattribute__"))=false:=by cases expr <;> rfl
 unfold getAttr getAttrBy
 refine wpAny_bind (wpAny_mkText (wpAny_holding (wpAny_bind (L0.at (wpAny_bind ((looks_findIn (M:=model prog w) X hga).at ?_))))))
 dsimp only
 rw[Hp,Bool.and_false,if_neg (by decide)]
 unfold getAttrByItsOwn hookBefore
 rw[if_pos (by rfl)]
 refine wpAny_bind ((looks_findIn (M:=model prog w) X hgn).at (wpAny_bind (wpAny_attempt (wpAny_holding ?_))))
 unfold callGetattribute boundAndCalled
 rw[hx0,if_neg (by decide),F.excAttr_ValueError.ga.bind (.ref x)]
 refine wpAny_bind (wpAny_pure (wpAny_call ?_))
 refine codeAny_call_builtin F.excAttr_ValueError.ga.plain F.entry_bexc_ga (@check_slot (model prog w) _ _ _ "BaseException.__getattribute__" "BaseException" "__getattribute__" (.ref x) [.str name s.toks] [] _ FD E4 L4 (F.args_bexc_ga (.ref x) (.str name s.toks)) ?_)
 refine wpAny_bind (wpAny_pure (wpAny_bind (wpAny_pure (wpAny_bind (L0.at (wpAny_bind ((looks_find (M:=model prog w) X I hf).at ?_)))))))
 refine wpAny_pure ?_
 show wpAny _ _ (handedOut v) _ _ _
 rw[handedOut_of hh]; exact wpAny_pure h
noncomputable def slotAt(K:Frag)(C:Addr)(x:Str)(p:Addr):Option Nat:=aQ (findObj K C none x) (λfo=>(match fo with
  | .bind (.builtin gg) (.ref q)=>_root_.cond (gg == "member_descriptor.__get__" && q == p && nR K C) (slotIn K p C) none
  | _=>none)) none
noncomputable def refOf(o:Option (Option Value)):Option Addr:=aQ o (λv=>aQ v (λw=>gh w some none) none) none
theorem yz{o:Option (Option Value)}{a:Addr}:refOf o=some a->o=some (some (Value.ref a)) :=
 eA (P:=λ(b:Option Addr) (o:Option (Option Value))=>b=some a->o=some (some (Value.ref a))) (λv=>eA (P:=λ(b:Option Addr) (v:Option Value)=>b=some a->some v=some (some (Value.ref a))) (λw=>gO (P:=λ(b:Option Addr) (w:Value)=>b=some a->some (some w)=some (some (Value.ref a))) (λi h=>by rw[Option.some.inj h]) λe=>aJ e) λe=>aJ e) λe=>aJ e
noncomputable def q4(K:Frag)(C:Addr)(fs:List AV)(x:Str):Option AV:=_root_.cond (isBuiltin "object.__getattribute__" (findIn K (.ref C) "__getattribute__") && ji (findIn K (.ref C) "__getattr__"))
 ((refOf (findIn K (.ref C) x)).bind λp=>(slotAt K C x p).bind λi=>vR fs[i]?) none
noncomputable def u7(K:Frag)(av:AV)(x:Str):EM AV:=bT av (λi=>EM.bind (EM.cell i) λc=>km c (λC d=>EM.bind (EM.aK gS d) λm=>EM.opt (ja K C m x)) <| mZ c (λC o _=>aQ o (λd=>EM.bind (EM.aK gS d) λm=>EM.opt (tF K C m x)) EM.fail) EM.fail) <|
 oH av (λC fs=>EM.opt (ja K C fs x)) <| uX av (λC fs=>EM.opt (q4 K C fs x)) EM.fail
section
variable{X:Ctx}{A:Around}{Z:ay}{F:Fz}{J:St}{s:Shared}{Y:Kn}
theorem yA(I:Inv X Z F J s){x:Addr}{ox od:Obj}{C:Addr}{fs:List (Str×AV)}{es:List DictEntry}{k:Nat}{nm:Str}{av:AV}{v:Value}(e:v = .ref x)(O0:InstAt s.heap x ox C (some od))(hd:od.data = .dict es.toArray k)(de:a6 J.n Z F fs es)
  (h:ja X.K C fs nm=some av) {expr:Bool}:Goes X A Z F J s (getAttr v nm expr) (ao av) J:=by
 have q:=sO h
 have h1:=q.1.1
 rw[plainGet,Bool.and_eq_true] at h1
 exact(sN de hd q.2.1).elim λv hv=>Goes.tok I λQ E hQ=>e▸get_value I.bV O0 (mz h1.1) (findObj_own h1.2 q.1.2 hv.1) (pN hv.2 q.2.2) (hQ v _ hv.2)
theorem F9(I:Inv X Z F J s){x:Addr}{ox od:Obj}{C:Addr}{fs:List (Str×AV)}{es:List DictEntry}{k:Nat}{nm:Str}{av:AV}(O0:InstAt s.heap x ox C (some od))(hd:od.data = .dict es.toArray k)(de:a6 J.n Z F fs es)
  (h:tF X.K C fs nm=some av) {expr:Bool}:Goes X A Z F J s (getAttr (.ref x) nm expr) (ao av) J:=by
 have q:=sO h
 have h1:=q.1.1
 rw[Ax,Bool.and_eq_true,Bool.and_eq_true,Bool.and_eq_true] at h1
 exact(sN de hd q.2.1).elim λv hv=>Goes.tok I λQ E hQ=>Hq I.bV O0 (mz h1.1.1) (mW h1.1.2) (eq_of_beq h1.2.2) (findObj_own h1.2.1 q.1.2 hv.1) (pN hv.2 q.2.2) (hQ v _ hv.2)
theorem FE{K:Frag}{C p:Addr}{x:Str}{i:Nat}(h:slotAt K C x p=some i):(∀od,findObj K C od x=some (.bind (.builtin "member_descriptor.__get__") (.ref p)))/\slotIn K p C=some i:=by
 unfold slotAt at h
 cases e:findObj K C none x with
 | none=>rw[e] at h; exact aJ h
 | some fo =>
  rw[e] at h
  cases fo with
  | value v=>exact aJ h
  | bind g q =>
   cases g <;> first | exact aJ h | skip
   cases q <;> first | exact aJ h | skip
   rename_i gg q
   change _root_.cond (gg == "member_descriptor.__get__" && q == p && nR K C) (slotIn K p C) none=some i at h
   cases hc:(gg == "member_descriptor.__get__" && q == p && nR K C) with
   | false=>rw[hc] at h; exact aJ h
   | true =>
    rw[hc] at h
    rw[Bool.and_eq_true,Bool.and_eq_true] at hc
    exact⟨λod=>by rw[Eh hc.2 od,e,eq_of_beq hc.1.1,eq_of_beq hc.1.2],h⟩
  | _=>exact aJ h
theorem Ga(I:Inv X Z F J s){C:Addr}{fs:List AV}{nm:Str}{av:AV}{v:Value}(ds:Den J.n Z F (.eg C fs) v)(h:q4 X.K C fs nm=some av){expr:Bool}:Goes X A Z F J s (getAttr v nm expr) (ao av) J:=by
 unfold q4 at h
 cases hc:(isBuiltin "object.__getattribute__" (findIn X.K (.ref C) "__getattribute__") && ji (findIn X.K (.ref C) "__getattr__")) with
 | false=>rw[hc] at h; exact aJ h
 | true =>
 rw[hc] at h
 rw[Bool.and_eq_true] at hc
 cases mT ds with | mk a d od vs e ha hd hs =>
 refine(Option.bind_eq_some_iff.mp h).elim λp h=>(Option.bind_eq_some_iff.mp h.2).elim λi h2=>?_
 have q:=FE h2.1
 have r:=zt h2.2
 refine(hs.fX r.1).elim λw hw=>Goes.tok I λQ E hQ=>?_
 rw[e]
 refine get_bind I.bV (ox:=kI C d (vs.map some)) (od:=some od) ⟨I.froz _ _ ha,rfl,rfl,I.froz _ _ hd⟩ (mz hc.1) (q.1 _) (mW hc.2) (wpAny_call ?_)
 refine slot_get (s:={ s with toks:=s.toks+1 }) (od:=some od) (I.toks _).bV ⟨I.froz _ _ ha,rfl,rfl,I.froz _ _ hd⟩ q.2 (v:=w) ?_ ?_
 ·show((vs.map some).toArray[i]?).join=some w
  rw[List.getElem?_toArray,List.getElem?_map,hw.1]; rfl
 ·show wpAny _ _ (handedOut w) _ _ _
  rw[handedOut_of (pN hw.2 r.2)]
  exact wpAny_pure (hQ w _ hw.2)
theorem ah.attr{av:AV}{v:Value}{x:Str}{expr:Bool}(hv:Y.le (ao av v)):ah X A Y ao (u7 X.K av x) (getAttr v x expr):=by
 refine ah.bw λJ Z F s I g=>?_
 have d:Den J.n Z F av v:=hv _ _ _ g
 cases av with
 | ref i =>
  rw[(dK d).1]
  show ai J (EM.bind (EM.cell i) λc=>km c (λC d=>EM.bind (EM.aK gS d) λm=>EM.opt (ja X.K C m x)) <| mZ c (λC o _=>aQ o (λd=>EM.bind (EM.aK gS d) λm=>EM.opt (tF X.K C m x)) EM.fail) EM.fail) _
  refine ai.cell λc=>mB (P:=λ(y:EM AV) c=>J.get i=some c->ai J y λb aj=>Goes X A Z F J s (getAttr (.ref (Z i)) x expr) (ao b) aj) (λC e hx=>ai.aK kd λm hm=>ai.jZ λw hw=>(I.kY hm).elim λes q=>q.elim λk q=>yA I (ox:=jN C (Z e)) rfl ⟨(I.nE hx).1,rfl,rfl,q.1⟩ rfl q.2 hw) <|
   pL (P:=λ(y:EM AV) c=>J.get i=some c->ai J y λb aj=>Goes X A Z F J s (getAttr (.ref (Z i)) x expr) (ao b) aj) (λC o t=>eA (P:=λ(y:EM AV) o=>J.get i=some (.exc C o t)->ai J y λb aj=>Goes X A Z F J s (getAttr (.ref (Z i)) x expr) (ao b) aj) (λe hx=>ai.aK kd λm hm=>ai.jZ λw hw=>(I.kY hm).elim λes q=>q.elim λk q=>(I.iO hx).elim λvs hx=>F9 I (ox:=eG C (some (Z e)) vs) ⟨hx.1,rfl,rfl,q.1⟩ rfl q.2 hw) λ_=>ai.fail) λ_=>ai.fail
 | obj C fs =>
  show ai J (EM.opt (ja X.K C fs x)) _
  cases lD d with | mk a d' od es k e ha hd he hs=>exact ai.jZ λw hw=>yA I (ox:=jN C d') e ⟨I.froz _ _ ha,rfl,rfl,I.froz _ _ hd⟩ he hs hw
 | eg C fs=>exact ai.jZ (o:=q4 X.K C fs x) λw hw=>Ga I d hw
 | _=>exact ai.fail
end
inductive aU where
 | next | brk | cont
 | ret (v:AV)
noncomputable def cn(fl:aU)(f:Flow):Kn:=match fl with
 | .next=>Kn.is (f = .next)
 | .brk=>Kn.is (f = .brk)
 | .cont=>Kn.is (f = .cont)
 | .ret av=>⟨λn Z F=>∃v,f = .ret v/\Den n Z F av v,λh1 h2 h3 x=>x.imp λv q=>⟨q.1,q.2.mono h1 h2 h3⟩⟩
structure Rec where
 ev:aB->Expr->EM AV
 tst:aB->Expr->EM Bool
 aV:aB->List Stmt->EM aU
 call:AV->List AV->List (Str×AV)->EM AV
 loop:aB->Expr->List Stmt->EM aU
 cp:aB->Expr->AV->List Stmt->EM aU
 comp:aB->Expr->Expr->Option Expr->AV->AV->EM aU
 hs:Str->Int
noncomputable def dQ(X:Ctx)(A:Around)(Y:Kn)(x:EM aU)(c:Code):Prop :=
 ∀ev b ev' cs,x ev=some (b,ev',cs)->All cs->∀Z F s,Inv X Z F ev.1 s->Y.p ev.1.n Z F->∀R:Result->Shared->Prop,
  (∀f s' aq F',(cn b f).p ev'.1.n aq F'->Inv X aq F' ev'.1 s'->aD Z F ev.1 s aq F' ev'.1 s'->R (.ok f) s')->codeAny (model X.prog X.w) A c R s
noncomputable def aN(X:Ctx)(A:Around)(n:Nat):Prop:=A.depth+4 * n<recursionLimit/\A.units+40 * n<cLine/\A.handled=none/\A.guards=some []/\A.frames=some (X.fr.map (·.1))
structure Sound(X:Ctx)(r:Rec)(n:Nat):Prop where
 ev:∀A,aN X A n->∀ae env e,ah X A (aA X ae env) ao (r.ev ae e) (eval e env)
 tst:∀A,aN X A n->∀ae env e,ah X A (aA X ae env) ew (r.tst ae e) (isTrue e env (eval e env))
 aV:∀A,aN X A n->∀ae env ss,ah X A (aA X ae env) cn (r.aV ae ss) (execs ss env)
 call:∀A,aN X A n->∀f fv as vs ks kvs,ah X A ((ao f fv).and ((bX as vs).and (bX (ks.map (·.2)) kvs))) ao (r.call f as ks) (call fv vs ((ks.map (·.1)).zip kvs))
 loop:∀A,aN X A n->∀ae env test body,dQ X A (aA X ae env) (r.loop ae test body) (.whileLoop test body [] env)
 cp:∀A,aN X A n->∀ae env target it itv body,dQ X A ((aA X ae env).and (ao it itv)) (r.cp ae target it body) (.forLoop target itv body [] env)
 comp:∀A,aN X A n->∀ae env elt target iter (c:Option Expr) scope pos it itv acc accv,dQ X A ((aA X ae env).and ((ao it itv).and (ao acc accv))) (r.comp ae elt target c it acc) (.compLoop (.ListComp elt [⟨target,iter,c.toList,0⟩] scope pos) 0 itv accv env)
 hs:r.hs=hashStr X.w
noncomputable def et(X:Ctx)(r:Rec)(n:Nat):Prop:=∀fr,Sound (X.wf fr) r n
theorem et.here{X:Ctx}{r:Rec}{n:Nat}(S:et X r n):Sound X r n:=S X.fr
noncomputable def dN(r:Rec)(ae:aB)(es:List Expr):EM (List AV):=es.foldr (λe k=>_root_.cond (noStar e) (EM.bind (r.ev ae e) λv=>EM.bind k λvs=>EM.ret (v::vs)) EM.fail) (EM.ret [])
noncomputable def vS(r:Rec)(ae:aB)(ks:List Keyword):EM (List (Str×AV)):=ks.foldr (λq k=>aQ q.arg (λn=>EM.bind (r.ev ae q.value) λv=>EM.bind k λvs=>EM.ret ((n,v)::vs)) EM.fail) (EM.ret [])
noncomputable def named(ks:List Keyword):Bool:=ks.all (·.arg.isSome)
noncomputable def ky(r:Rec)(ae:aB)(args:List Expr)(kws:List Keyword):EM (List AV×List (Str×AV)):=_root_.cond (named kws) (EM.bind (dN r ae args) λas=>EM.bind (vS r ae kws) λks=>EM.ret (as,ks)) EM.fail
theorem ax.app{n:Nat}{Z:ay}{F:Fz}:∀{xs ys:List AV} {vs ws:List Value},ax n Z F xs vs->ax n Z F ys ws->ax n Z F (xs++ys) (vs++ws)
 | [],_,vs,_,d,h=>by rw[qG d]; exact h
 | _::_,_,[],_,d,_=>d.elim
 | _::_,_,_::_,_,d,h=>⟨d.1,ax.app d.2 h⟩
section
variable{X:Ctx}{A:Around}{r:Rec}{n:Nat}{ae:aB}{env:Env}{Y:Kn}
theorem sP:∀{es:List Expr} {ev:Ev} {b:List AV} {ev':Ev} {cs:List Prop},dN r ae es ev=some (b,ev',cs)->All cs->es.all noStar=true
 | [],_,_,_,_,_,_=>rfl
 | e::es,ev,b,ev',cs,h,hc=>EM.zp (x:=EM.bind (r.ev ae e) λv=>EM.bind (dN r ae es) λvs=>EM.ret (v::vs)) h λhs h=>by
  rw[List.all_cons,hs]
  exact EM.en h hc λ_ _ _ _ _ q _ c=>EM.en q c λ_ _ _ _ q2 _ c2 _=>sP q2 c2
theorem pZ:∀{es:List Expr},es.all noStar=true->starEach es env=es.map λe=>(false,eval e env)
 | [],_=>rfl
 | e::es,h=>by
  rw[List.all_cons,Bool.and_eq_true] at h
  rw[xY h.1,pZ h.2]; rfl
theorem p3(pos:Pos):∀{es:List Expr},backTo pos (es.map λe=>(false,eval e env))=es.map λe=>(false,eval e env)
 | []=>rfl
 | e::es=>congrArg ((false,eval e env)::·) (p3 pos (es:=es))
theorem Ay:∀{es:List Expr},(es.map λe=>(false,eval e env)).any (·.1)=false
 | []=>rfl
 | _::es=>Ay (es:=es)
theorem ah.q6(hev:∀e,ah X A (aA X ae env) ao (r.ev ae e) (eval e env))(pos:Pos):∀(es:List Expr) {Y:Kn},Y.le (aA X ae env)->ah X A Y bX (dN r ae es) (spliced (backTo pos (starEach es env)))
 | [],Y,hg=>ah.ret λ_ _ _ _=>rfl
 | e::es,Y,hg=>ah.aW λhs=>by
  rw[xY hs]
  exact ah.eq (t':=eval e env >>= λv=>PySem.holding [v] (spliced (backTo pos (starEach es env))) >>= λl=>pure (v::l)) rfl (ah.bind ((hev e).weaken hg) λav v=>ah.bind (ah.holding (ah.q6 hev pos es (Kn.fst hg))) λavs vs=>ah.ret λ_ _ _ h=>⟨h.1.2,h.2⟩)
structure IA(p:List AV×List (Str×AV))(a:Args)(n:Nat)(Z:ay)(F:Fz):Prop where
 pos:ax n Z F p.1 a.pos
 kw:∃kvs,a.kw=(p.2.map (·.1)).zip kvs/\ax n Z F (p.2.map (·.2)) kvs
noncomputable def q7(p:List AV×List (Str×AV))(a:Args):Kn:=⟨λn Z F=>IA p a n Z F,λh1 h2 h3 x=>⟨x.pos.mono h1 h2 h3,x.kw.imp λ_ q=>⟨q.1,q.2.mono h1 h2 h3⟩⟩⟩
theorem yB(pos:Pos):∀ks:List Keyword,(backToKw pos (keywordEach ks env)).filterMap (·.1)=ks.filterMap (·.arg)
 | []=>rfl
 | ⟨nm,e,kp⟩::ks=>by
  show((nm,_)::backToKw pos (keywordEach ks env)).filterMap (·.1)=(⟨nm,e,kp⟩::ks).filterMap (·.arg)
  rw[List.filterMap_cons,List.filterMap_cons,yB pos ks]
theorem Az(pos:Pos):∀ks:List Keyword,(backToKw pos (keywordEach ks env)).all (·.1.isSome)=named ks
 | []=>rfl
 | ⟨nm,e,kp⟩::ks=>congrArg (nm.isSome && ·) (Az pos ks)
theorem uj(pos:Pos):∀ks:List Keyword,(backToKw pos (keywordEach ks env)).any (·.1.isNone) = !named ks
 | []=>rfl
 | ⟨nm,e,kp⟩::ks=>by
  show(nm.isNone || (backToKw pos (keywordEach ks env)).any (·.1.isNone)) = !(nm.isSome && named ks)
  rw[uj pos ks]
  cases nm <;> rfl
theorem ah.CT(hev:∀e,ah X A (aA X ae env) ao (r.ev ae e) (eval e env))(pos:Pos):∀(ks:List Keyword) {Y:Kn},Y.le (aA X ae env) ->
  ah X A Y (λp vs=>(bX (p.map (·.2)) vs).and (Kn.is (ks.filterMap (·.arg)=p.map (·.1)))) (vS r ae ks) (evalAll ((backToKw pos (keywordEach ks env)).map (·.2)))
 | [],Y,hg=>ah.ret λ_ _ _ _=>⟨rfl,rfl⟩
 | ⟨none,e,kp⟩::ks,Y,hg=>ah.fail
 | ⟨some nm,e,kp⟩::ks,Y,hg=>by
  refine ah.eq (t':=(eval e env >>= λv=>PySem.standAt pos >>= λ_=>pure v) >>= λv=>PySem.holding [v] (evalAll ((backToKw pos (keywordEach ks env)).map (·.2))) >>= λl=>pure (v::l)) rfl ?_
  show ah X A Y _ (EM.bind (r.ev ae e) λv=>EM.bind (vS r ae ks) λvs=>EM.ret ((nm,v)::vs)) _
  refine ah.bind (ah.stood ((hev e).weaken hg)) λav v=>?_
  exact ah.bind (ah.holding (ah.CT hev pos ks (Kn.fst hg))) λavs vs=>ah.ret λ_ _ _ h=>⟨⟨h.1.2,h.2.1⟩,congrArg (nm::·) h.2.2⟩
theorem ah.xZ(hev:∀e,ah X A (aA X ae env) ao (r.ev ae e) (eval e env)){f:Value}(pos:Pos)(es:List Expr)(ks:List Keyword){Y:Kn}(hg:Y.le (aA X ae env)):
  ah X A Y q7 (ky r ae es ks) (evalArgs f true (backTo pos (starEach es env)) (backToKw pos (keywordEach ks env))):=ah.aW λhn ev b ev' cs he hc Z F s I g Q E hQ =>
 EM.en he hc λas cO c1 _ e1 e2 h1 h2=>EM.en e2 h2 λkv q8 c3 _ e3 e4 h3 _=>eN e4 λi1 i2 _=>by
  have hall:=(Az (env:=env) pos ks).trans hn
  have K:∀vs ar aF aH,(bX as vs).p cO.1.n aF aH->Inv X aF aH cO.1 ar->aD Z F ev.1 s aF aH cO.1 ar->wpAny (model X.prog X.w) A (evalAll ((backToKw pos (keywordEach ks env)).map (·.2))) (λl a8=>Q ⟨vs,((backToKw pos (keywordEach ks env)).filterMap (·.1)).zip l⟩ a8) E ar :=
   λvs ar aF aH d a0 st=>ah.CT hev pos ks (Kn.le_refl _) cO kv q8 c3 e3 h3 aF aH ar a0 ((aA X ae env).mono st.le st.same st.sub (hg _ _ _ g)) _ E λl a8 bg bo r bG bC=>hQ ⟨vs,_⟩ a8 bg bo (by rw[<- i1,<- i2]; exact⟨ax.step d bC,l,by rw[yB,r.2],r.1⟩) (i2▸bG) (i2▸st.trans bC)
  cases es with
  | nil=>exact evalArgs_kw_nil hall (eN e1 λj1 j2 _=>K [] s Z F (j1▸rfl) (j2▸I) (j2▸aD.refl Z F I.ids))
  | cons e es =>
   have S1:=ah.q6 hev pos (e::es) hg ev as cO c1 e1 h1 Z F s I g _ E K
   rw[pZ (sP e1 h1),p3] at S1 ⊢
   exact evalArgs_kw hall S1
theorem ah.args(S:Sound X r n)(hA:aN X A n)(pos:Pos)(es:List Expr){Y:Kn}(hg:Y.le (aA X ae env)):ah X A Y bX (dN r ae es) (spliced (backTo pos (starEach es env))):=ah.q6 (λe=>S.ev A hA ae env e) pos es hg
theorem ah.evalArgs(S:Sound X r n)(hA:aN X A n){f:Value}(pos:Pos)(es:List Expr)(ks:List Keyword){Y:Kn}(hg:Y.le (aA X ae env)):
  ah X A Y q7 (ky r ae es ks) (PySem.evalArgs f true (backTo pos (starEach es env)) (backToKw pos (keywordEach ks env))):=ah.xZ (λe=>S.ev A hA ae env e) pos es ks hg
noncomputable def jJ(K:Frag)(f:AV):Bool:=eM f (λv=>lu v (λ_=>true) <| qq v (λ_=>true) <| gh v (λa=>keepIn K (.ref a)) false) <| m5 f (λ_ _ _ _ _ _=>true) false
noncomputable def jK(X:Ctx)(fv:Value)(h:Heap):Prop:=∃k,(k=Keeper.frame∨k=Keeper.machine∨k=Keeper.boundFrame)/\Looks (model X.prog X.w) h (keeperOf fv) k
theorem sd{Z:ay}{F:Fz}{J:St}{s:Shared}(I:Inv X Z F J s){f:AV}{fv:Value}:jJ X.K f=true->Den J.n Z F f fv->jK X fv s.heap :=
 ip (P:=λb f=>b=true->Den J.n Z F f fv->jK X fv s.heap) (λv h d=>(show fv=v from d)▸my (P:=λb v=>b=true->jK X v s.heap) (λ_ _=>⟨.machine,.inr (.inl rfl),.now⟩) (sj (P:=λb v=>b=true->jK X v s.heap) (λ_ _=>⟨.machine,.inr (.inl rfl),.now⟩)
  (gO (P:=λb v=>b=true->jK X v s.heap) (λa h=>keeps_K h _ I.bV) ff)) h)
  (sJ (P:=λb f=>b=true->Den J.n Z F f fv->jK X fv s.heap) (λa b c e f z _ d=>by cases(show fj J.n Z F a b c e f (a6 J.n Z F z) fv from d) with | mk a qual o pm code ct fc es e ha hc hd=>rw[e]; exact⟨.frame,.inl rfl,(Looks.ld (part:=none) (I.froz _ _ ha)).andThen (by rw[hd]; exact .now)⟩) ff)
noncomputable def eX(K:Frag)(r:Rec)(ae:aB)(f:AV)(first:List AV)(args:List Expr)(kws:List Keyword):EM AV:=_root_.cond (jJ K f) (EM.bind (ky r ae args kws) λp=>r.call f (first++p.1) p.2) EM.fail
theorem s8{ev:Ev}{es:List Expr}{ks:List Keyword}{b:List AV×List (Str×AV)}{ev':Ev}{cs:List Prop}(pos:Pos)(he:ky r ae es ks ev=some (b,ev',cs))(hc:All cs):((backTo pos (starEach es env)).any (·.1) || (backToKw pos (keywordEach ks env)).any (·.1.isNone))=false :=
 EM.zp he λhn he=>by rw[uj,hn,pZ (EM.en he hc λ_ _ _ _ q _ c _=>sP q c),p3,Ay]; rfl
theorem ah.x5(hev:∀e,ah X A (aA X ae env) ao (r.ev ae e) (eval e env))(hcall:∀f fv as vs ks kvs,ah X A ((ao f fv).and ((bX as vs).and (bX (ks.map (·.2)) kvs))) ao (r.call f as ks) (call fv vs ((ks.map (·.1)).zip kvs))){f:AV}{fv:Value}{first:List AV}{firstv:List Value}(pos:Pos)(es:List Expr)(ks:List Keyword){Y:Kn}(hg:Y.le (aA X ae env))(hf:Y.le (ao f fv))(h1:Y.le (bX first firstv)):
  ah X A Y ao (eX X.K r ae f first es ks) (callWith pos fv firstv (backTo pos (starEach es env)) (backToKw pos (keywordEach ks env))):=ah.aW λhk ev b ev' cs he hc Z F s I g Q E hQ =>
 EM.en he hc λp cO iD iE dH dP c1 c2=>callWith_of (P:=jK X fv) (s8 pos dH c1) (λ_ x=>x)
  (ah.xZ hev pos es ks hg ev p cO iD dH c1 Z F s I g _ E λa ar aF aH d a0 st=>⟨sd a0 hk (Den.step (hf _ _ _ g) st),d.kw.elim λkvs q=>q.1 ▸
   hcall f fv (first++p.1) (firstv++a.pos) p.2 kvs cO b ev' iE dP c2 aF aH ar a0 ⟨Den.step (hf _ _ _ g) st,(ax.step (h1 _ _ _ g) st).app d.pos,q.2⟩ Q E λv a8 bg bo x bG bC=>hQ v a8 bg bo x bG (st.trans bC)⟩)
theorem ah.callWith(S:Sound X r n)(hA:aN X A n){f:AV}{fv:Value}{first:List AV}{firstv:List Value}(pos:Pos)(es:List Expr)(ks:List Keyword){Y:Kn}(hg:Y.le (aA X ae env))(hf:Y.le (ao f fv))(h1:Y.le (bX first firstv)):
  ah X A Y ao (eX X.K r ae f first es ks) (PySem.callWith pos fv firstv (backTo pos (starEach es env)) (backToKw pos (keywordEach ks env))):=ah.x5 (λe=>S.ev A hA ae env e) (λf fv as vs ks kvs=>S.call A hA f fv as vs ks kvs) pos es ks hg hf h1
end
noncomputable def tG(J:St)(x:Str)(av:AV):Bool:=cM av (λ_=>true) <| onStr av (λ_=>true) <| bT av (λi=>aQ (J.get i) (λc=>lE c (λ_=>true) <| mJ c (λ_ _=>true) <|
 km c (λ_ d=>aQ ((J.get d).bind gS) (λm=>(m.lookup x).isNone) false) false) false) false
noncomputable def pU(K:Frag)(f:Value):Bool:=aQ (typeIn K f) (λT=>qq T (λt=>(t == "function" || t == "method_descriptor" || t == "wrapper_descriptor")) false) false
noncomputable def vT(o:Option (Option Value)):Bool:=aQ o (λv=>aQ v (λw=>lu w (λga=>Manifest.canonical ga == "object.__getattribute__") false) false) false
noncomputable def om(K:Frag)(T:Value)(x:Str):Option Value:=_root_.cond (vT (findIn K T "__getattribute__") && ji (findIn K T "__getattr__")) ((findIn K T x).bind id) none
noncomputable def kq(K:Frag)(av:AV)(x:Str):EM (AV×List AV):=EM.st λJ=>aQ ((typ K J av).bind λT=>om K T x) (λf=>EM.dz (pU K f && tG J x av) (.val f,[av])) EM.fail
section
variable{X:Ctx}{A:Around}{Y:Kn}{Z:ay}{F:Fz}{J:St}{s:Shared}
noncomputable def jQ(x:Str)(v:Value)(h:Heap):Prop:=∀a,v = .ref a->∃o,h.get? a=some o/\∀d,o.dict=some d->∃od,h.get? d=some od/\lookIn x od=some none
theorem jQ.of{x:Str}{v:Value}{h:Heap}{a:Addr}{o:Obj}(e:v = .ref a)(ho:h.get? a=some o)(hd:o.dict=none):jQ x v h:=λb q=>by
 rw[e] at q
 cases q
 exact⟨o,ho,λd q=>aJ (hd.symm.trans q)⟩
theorem E5(I:Inv X Z F J s){x:Str}{av:AV}{v:Value}:tG J x av=true->Den J.n Z F av v->jQ x v s.heap :=
 fJ (P:=λb av=>b=true->Den J.n Z F av v->jQ x v s.heap) (λi _ d a q=>(mR d).elim λt e=>nomatch e.symm.trans q) <|
 gb (P:=λb av=>b=true->Den J.n Z F av v->jQ x v s.heap) (λi _ d a q=>(lC d).elim λt e=>nomatch e.symm.trans q) <|
 b8 (P:=λb av=>b=true->Den J.n Z F av v->jQ x v s.heap) (λi h d=>by
  have e:=(dK d).1
  revert h
  cases hc:J.get i with
  | none=>exact ff
  | some c =>
   exact mA (P:=λb c=>J.get i=some c->b=true->jQ x v s.heap) (λxs hx _=>(I.cA hx).elim λvs q=>q.elim λk q=>.of e q.1 rfl) (nJ (P:=λb c=>J.get i=some c->b=true->jQ x v s.heap) (λl k hx _=>.of e (I.o4 hx).1 rfl)
    (mB (P:=λb c=>J.get i=some c->b=true->jQ x v s.heap) (λC d hx h=>by
     cases hm:(J.get d).bind gS with
     | none=>rw[hm] at h; exact ff h
     | some m =>
      rw[hm] at h
      refine(Option.bind_eq_some_iff.mp hm).elim λc' q=>(I.kY (q.1.trans (congrArg some (kd q.2)))).elim λes q=>q.elim λk q=>λa ha=>?_
      rw[e] at ha
      cases ha
      exact⟨_,(I.nE hx).1,λd' hd=>⟨_,(Option.some.inj hd)▸q.1,FC q.2 (k:=k) rfl (Option.isNone_iff_eq_none.mp h)⟩⟩) λ_=>ff)) hc) ff
theorem Hr{o:Option (Option Value)}:vT o=true->∃ga,o=some (some (Value.builtin ga))/\Manifest.canonical ga = "object.__getattribute__" :=
 eA (P:=λb (o:Option (Option Value))=>b=true->∃ga,o=some (some (Value.builtin ga))/\Manifest.canonical ga = "object.__getattribute__") (λv=>eA (P:=λb (v:Option Value)=>b=true->∃ga,some v=some (some (Value.builtin ga))/\Manifest.canonical ga = "object.__getattribute__")
  (λw=>my (P:=λb (w:Value)=>b=true->∃ga,some (some w)=some (some (Value.builtin ga))/\Manifest.canonical ga = "object.__getattribute__") (λi h=>⟨i,rfl,eq_of_beq h⟩) ff) ff) ff
theorem Et{K:Frag}{f:Value}(h:pU K f=true):∃t,typeIn K f=some (.type t)/\((Value.type t != .type "function") && (Value.type t != .type "method_descriptor") && (Value.type t != .type "wrapper_descriptor"))=false:=by
 unfold pU at h
 cases e:typeIn K f with
 | none=>rw[e] at h; exact ff h
 | some T =>
  rw[e] at h
  refine sj (P:=λb T=>b=true->∃t,some T=some (Value.type t)/\((Value.type t != .type "function") && (Value.type t != .type "method_descriptor") && (Value.type t != .type "wrapper_descriptor"))=false) (λt h=>⟨t,rfl,?_⟩) ff h
  rw[Bool.or_eq_true,Bool.or_eq_true] at h
  rcases h with(h | h) | h <;> (rw[eq_of_beq h]; decide)
theorem FF{K:Frag}{T:Value}{x:Str}{f:Value}(h:om K T x=some f):(∃ga,findIn K T "__getattribute__" = some (some (.builtin ga))/\Manifest.canonical ga = "object.__getattribute__")/\findIn K T "__getattr__" = some none/\findIn K T x=some (some f):=by
 unfold om at h
 cases hc:(vT (findIn K T "__getattribute__") && ji (findIn K T "__getattr__")) with
 | false=>rw[hc] at h; exact aJ h
 | true =>
  rw[hc] at h
  rw[Bool.and_eq_true] at hc
  exact⟨Hr hc.1,mW hc.2,(Option.bind_eq_some_iff.mp h).elim λo q=>q.1.trans (congrArg some q.2)⟩
theorem Gb(I:Inv X Z F J s){T:Value}{x:Str}{av:AV}{v f:Value}{pl:Sem Bool}(d:Den J.n Z F av v)(hT:typ X.K J av=some T)(hf:om X.K T x=some f)(h4:pU X.K f=true)(h5:tG J x av=true){Q:Value×List Value->Shared->Prop}{E:Value->Shared->Prop}(q:Q (f,[v]) s):
  wpAny (model X.prog X.w) A (getMethod v x pl) Q E s:=by
 have T1:=pT (M:=model X.prog X.w) I d hT
 have hm:=FF hf
 have hown:=E5 I h5 d
 refine hm.1.elim λga hga=>(Et h4).elim λt ht=>?_
 unfold getMethod
 refine wpAny_bind (m:=specialOf v (Str.ofString "__getattribute__")) (wpAny_bind (T1.here ((looks_findIn I.bV hga.1).here ?_)))
 dsimp only
 rw[if_neg (by rw[hga.2]; decide)]
 refine wpAny_bind (wpAny_bind (T1.here ((looks_findIn I.bV hm.2.1).here ?_)))
 rw[if_neg (by decide)]
 refine wpAny_bind (wpAny_bind (T1.here ((looks_findIn I.bV hm.2.2).here ?_)))
 dsimp only
 refine wpAny_bind ((looks_typeIn I.bV ht.1).here ?_)
 rw[ht.2]
 simp only[Bool.false_eq_true,if_false]
 cases v with
 | ref a =>
  refine(hown a rfl).elim λo ho=>?_
  dsimp only
  refine wpAny_bind (wpAny_loadPart ho.1 ?_)
  cases hdd:o.dict with
  | none=>exact wpAny_bind (wpAny_rule (wpAny_pure q))
  | some dd =>
   refine(ho.2 dd hdd).elim λod hod=>?_
   dsimp only
   refine wpAny_bind (zr hod.1 hod.2 rfl ?_)
   rw[if_neg (by decide)]
   exact wpAny_bind (wpAny_rule (wpAny_pure q))
 | _=>exact wpAny_bind (wpAny_rule (wpAny_pure q))
noncomputable def J2(p:AV×List AV)(q:Value×List Value):Kn:=(ao p.1 q.1).and (bX p.2 q.2)
theorem ah.method{av:AV}{v:Value}{x:Str}{pl:Sem Bool}(hv:Y.le (ao av v)):ah X A Y J2 (kq X.K av x) (getMethod v x pl):=by
 refine ah.bw λJ Z F s I g=>ai.st ?_
 cases h:(typ X.K J av).bind λT=>om X.K T x with
 | none=>exact ai.fail
 | some f =>
  refine ai.dz λhb=>(Option.bind_eq_some_iff.mp h).elim λT hT=>Goes.same I λQ E q=>?_
  rw[Bool.and_eq_true] at hb
  exact Gb I (hv _ _ _ g) hT.1 hT.2 hb.1 hb.2 (q (f,[v]) ⟨rfl,hv _ _ _ g,rfl⟩)
end
noncomputable def dD(i:Nat):EM (List AV):=EM.bind (EM.aK iz i) λxs=>EM.bz (xs.length<=1000000) xs
noncomputable def kE(i:Nat)(xs:List AV):EM Unit:=EM.upd λJ=>J.set i (.list xs)
noncomputable def eD:AV:=.val .none
noncomputable def fM(as:List AV):EM AV:=kW as (λa v=>bT a (λi=>EM.bind (dD i) λxs=>EM.bind (kE i (xs++[v])) λ_=>EM.ret eD) EM.fail) EM.fail
noncomputable def u9(i:Nat):EM AV:=EM.bind (dD i) λxs=>EM.bind (EM.last xs) λp=>EM.bind (kE i p.1) λ_=>EM.ret p.2
noncomputable def BC(i:Nat):EM AV:=EM.bind (dD i) λxs=>EM.bind (EM.first xs) λp=>EM.bind (kE i p.1) λ_=>EM.ret p.2
noncomputable def CU(as:List AV):EM AV:=gj as (λa r=>bT a (λi=>dF r (u9 i) (dA r (λk=>cM k (λk=>_root_.cond (k == 0) (BC i) (_root_.cond (k == -1) (u9 i) EM.fail)) EM.fail) EM.fail)) EM.fail) EM.fail
noncomputable def zu(as:List AV):EM AV:=DT as (λa k v=>bT a (λi=>cM k (λk=>_root_.cond (k == 0) (EM.bind (dD i) λxs=>EM.bind (kE i (v::xs)) λ_=>EM.ret eD) EM.fail) EM.fail) EM.fail) EM.fail
noncomputable def AA(as:List AV):EM AV:=dA as (λa=>bT a (λi=>EM.bind (dD i) λxs=>EM.bind (kE i []) λ_=>EM.ret eD) EM.fail) EM.fail
section
variable{X:Ctx}{A:Around}{Z:ay}{F:Fz}{J:St}{s:Shared}{Y:Kn}
theorem Inv.tH(I:Inv X Z F J s){i:Nat}{xs ys:List AV}{vs ws:List Value}{k:Nat}(hi:J.get i=some (.list xs))(ho:s.heap.get? (Z i)=some (cL vs k))
  {f:Array Value->Array Value} (hf:f vs.toArray=ws.toArray) (hd:ax J.n Z F ys ws) (t:Nat) :
  Inv X Z F (J.set i (.list ys)) { s with heap:=s.heap.update (Z i) (Obj.mapSeq f),toks:=t }/\aD Z F J s Z F (J.set i (.list ys)) { s with heap:=s.heap.update (Z i) (Obj.mapSeq f),toks:=t }:=by
 refine I.set (c':=.list ys) hi (λb o hb e=>?_) ?_ t
 ·rw[Heap.get?_update_other _ _ (λe=>hb e.symm)]; exact e
 ·have:=IsL.update ho f
  rw[hf] at this
  exact .wu (vs:=ws) this hd
theorem ax.snoc{n:Nat}{y:AV}:∀{xs:List AV} {vs:List Value},ax n Z F (xs++[y]) vs->∃ws w,vs=ws++[w]/\ax n Z F xs ws/\Den n Z F y w
 | [],_,d=>eE (P:=λvs=>∃ws w,vs=ws++[w]/\ax n Z F [] ws/\Den n Z F y w) d λv h=>⟨[],v,rfl,rfl,h⟩
 | _::_,[],d=>d.elim
 | _::xs,v::vs,d=>(ax.snoc (xs:=xs) d.2).elim λws q=>q.elim λw q=>⟨v::ws,w,congrArg (v::·) q.1,⟨d.1,q.2.1⟩,q.2.2⟩
theorem CV{n:Nat}{xs:List AV}{vs:List Value}(h:xs.length<=1000000)(d:ax n Z F xs vs):vs.toArray.size<=sizeLine:=by
 rw[List.size_toArray,<- d.length]; exact Nat.le_trans h (by decide)
theorem lT{l:Addr}{o:Obj}(h:s.heap.get? l=some o)(hc:o.cls = .type "list"):s.TypeIs (.ref l) "list":=⟨o,h,hc⟩
theorem ai.dO{B:Type}{D:B->St->Prop}{i:Nat}{f:List AV->EM B}(h:∀xs,J.get i=some (.list xs)->xs.length<=1000000->ai J (f xs) D):ai J (EM.bind (dD i) f) D :=
 ai.eP (P:=λxs=>J.get i=some (.list xs)/\xs.length<=1000000) (ai.aK jz λxs hx=>ai.bz λhl=>⟨rfl,hx,hl⟩) λxs q=>h xs q.1 q.2
theorem ai.nx{B:Type}{D:B->St->Prop}{i:Nat}{ys:List AV}{f:Unit->EM B}(h:ai (J.set i (.list ys)) (f ()) D):ai J (EM.bind (kE i ys) f) D:=ai.upd (g:=λJ=>J.set i (.list ys)) h
inductive IB(F:Fz)(J:St)(s:Shared)(Z:ay)(i:Nat)(xs:List AV):Prop where
 | mk (vs:List Value) (k:Nat) (ho:s.heap.get? (Z i)=some (cL vs k)) (d:ax J.n Z F xs vs) (hs:vs.toArray.size<=sizeLine)
theorem Inv.lst(I:Inv X Z F J s){i:Nat}{xs:List AV}(hx:J.get i=some (.list xs))(hl:xs.length<=1000000):IB F J s Z i xs:=(I.cA hx).elim λvs q=>q.elim λk q=>⟨vs,k,q.1,q.2,CV hl q.2⟩
theorem turned{i:Nat}{xs ys:List AV}{ws us:List Value}{k t:Nat}{b:AV}{rv:Value}{f:Array Value->Array Value}{Q:Value->Shared->Prop}(I:Inv X Z F J s)(hx:J.get i=some (.list xs))(ho:s.heap.get? (Z i)=some (cL ws k))
  (hQ:∀v s' aq F',(ao b v).p (J.set i (.list ys)).n aq F'->Inv X aq F' (J.set i (.list ys)) s'->aD Z F J s aq F' (J.set i (.list ys)) s'->Q v s') (hf:f ws.toArray=us.toArray) (hd:ax J.n Z F ys us) (hr:Den J.n Z F b rv) :
  Q rv { s with heap:=s.heap.update (Z i) (Obj.mapSeq f),toks:=t } :=
 let h:=I.tH hx ho hf hd t
 hQ rv _ Z F hr h.1 h.2
theorem Gd{i:Nat}{xs:List AV}{v:AV}{w:Value}(I:Inv X Z F J s)(hx:J.get i=some (.list xs))(hl:xs.length<=1000000)(dv:Den J.n Z F v w):Goes X A Z F J s (call (.builtin "list.append") [.ref (Z i),w]) (ao eD) (J.set i (.list (xs++[v]))):=λQ E hQ=>by
 cases I.lst hx hl with | mk ws k ho dw hs=>exact call_meets PySem.F.slot_list_append (lT ho rfl) PySem.F.entry_list_append (PySem.F.args_list_append_2 _ _) (list_append (Z i) ws.toArray k _ hs) ⟨ho,turned (us:=ws++[w]) I hx ho hQ (List.push_toArray ..) (dw.app (ax.cons dv rfl)) rfl⟩
theorem Hs{i:Nat}{xs:List AV}(I:Inv X Z F J s)(hx:J.get i=some (.list xs))(hl:xs.length<=1000000):Goes X A Z F J s (call (.builtin "list.clear") [.ref (Z i)]) (ao eD) (J.set i (.list [])):=λQ E hQ=>by
 cases I.lst hx hl with | mk ws k ho dw hs=>exact call_meets PySem.F.slot_list_clear (lT ho rfl) PySem.F.entry_list_clear (PySem.F.args_list_clear_1 _) (AutoSeq1.list_clear_list_0 (Z i) ws.toArray k hs) ⟨ho,turned (us:=[]) I hx ho hQ rfl rfl rfl⟩
theorem Ge{i:Nat}{xs:List AV}{v:AV}{w:Value}(t:Tok)(I:Inv X Z F J s)(hx:J.get i=some (.list xs))(hl:xs.length<=1000000)(dv:Den J.n Z F v w):Goes X A Z F J s (call (.builtin "list.insert") [.ref (Z i),.int 0 t,w]) (ao eD) (J.set i (.list (v::xs))):=λQ E hQ=>by
 cases I.lst hx hl with | mk ws k ho dw hs=>exact call_meets PySem.F.slot_list_insert (lT ho rfl) PySem.F.entry_list_insert (PySem.F.args_list_insert_3 _ _ _) (AutoSeq1.list_insert_list_int_val_1 (Z i) ws.toArray k 0 t w (by decide) hs) ⟨ho,turned (us:=w::ws) I hx ho hQ (by simp) ⟨dv,dw⟩ rfl⟩
theorem E6(us:List Value)(w:Value):(us++[w]).toArray.eraseIdxIfInBounds us.length=us.toArray:=by simp[Array.eraseIdxIfInBounds,List.eraseIdx_append_of_length_le]
theorem Gf(us:List Value)(w:Value):(us++[w]).toArray[us.length]? = some w:=by simp
section
variable{i:Nat}{ys:List AV}{y:AV}
theorem IC(I:Inv X Z F J s)(hx:J.get i=some (.list (ys++[y])))(hl:(ys++[y]).length<=1000000):Goes X A Z F J s (call (.builtin "list.pop") [.ref (Z i)]) (ao y) (J.set i (.list ys)):=λQ E hQ=>by
 cases I.lst hx hl with | mk vs k ho dv hs =>
 refine dv.snoc.elim λus q=>q.elim λw q=>?_
 rw[q.1] at ho hs
 exact call_meets PySem.F.slot_list_pop (lT ho rfl) PySem.F.entry_list_pop (PySem.F.args_list_pop_1 _) (MeetsSeq.list_pop_last (Z i) (us++[w]).toArray k w (by simp) hs) ⟨ho,turned (us:=us) I hx ho hQ (by simp[Array.eraseIdxIfInBounds,List.eraseIdx_append_of_length_le]) q.2.1 q.2.2⟩
theorem ID(t:Tok)(I:Inv X Z F J s)(hx:J.get i=some (.list (y::ys)))(hl:(y::ys).length<=1000000):Goes X A Z F J s (call (.builtin "list.pop") [.ref (Z i),.int 0 t]) (ao y) (J.set i (.list ys)):=λQ E hQ=>by
 cases I.lst hx hl with | mk vs k ho dv hs =>
 cases vs with
 | nil=>exact dv.elim
 | cons w us=>exact call_meets PySem.F.slot_list_pop (lT ho rfl) PySem.F.entry_list_pop (PySem.F.args_list_pop_2 _ _) (MeetsSeq.list_pop_at (Z i) (w::us).toArray k 0 t 0 w (by decide) (by unfold seqIndex?; simp) (by simp) hs) ⟨ho,turned (us:=us) I hx ho hQ (by simp[Array.eraseIdxIfInBounds]) dv.2 dv.1⟩
theorem IE(t:Tok)(I:Inv X Z F J s)(hx:J.get i=some (.list (ys++[y])))(hl:(ys++[y]).length<=1000000):Goes X A Z F J s (call (.builtin "list.pop") [.ref (Z i),.int (-1) t]) (ao y) (J.set i (.list ys)):=λQ E hQ=>by
 cases I.lst hx hl with | mk vs k ho dv hs =>
 refine dv.snoc.elim λus q=>q.elim λw q=>?_
 rw[q.1] at ho hs
 exact call_meets PySem.F.slot_list_pop (lT ho rfl) PySem.F.entry_list_pop (PySem.F.args_list_pop_2 _ _) (MeetsSeq.list_pop_at (Z i) (us++[w]).toArray k (-1) t us.length w (by decide) (by unfold seqIndex?; simp; omega) (Gf us w) hs) ⟨ho,turned (us:=us) I hx ho hQ (E6 us w) q.2.1 q.2.2⟩
end
noncomputable def aI(X:Ctx)(A:Around)(nm:String)(x:EM AV)(as:List AV):Prop:=∀(Y:Kn) (vs:List Value),Y.le (bX as vs)->ah X A Y ao x (call (.builtin nm) vs)
theorem aI.fail{nm:String}{as:List AV}:aI X A nm EM.fail as:=λ_ _ _=>ah.fail
theorem aI.of{nm:String}{as:List AV}{x:EM AV}(h:∀J Z F s vs,Inv X Z F J s->ax J.n Z F as vs->ai J x λb aj=>Goes X A Z F J s (call (.builtin nm) vs) (ao b) aj):aI X A nm x as:=λ_ _ hv=>ah.bw λJ Z F s I g=>h J Z F s _ I (hv _ _ _ g)
theorem ah.append(as:List AV):aI X A "list.append" (fM as) as:=by
 refine lF (P:=aI X A "list.append") (λa v=>?_) λ_=>aI.fail
 refine b8 (P:=λx a=>aI X A "list.append" x [a,v]) (λi=>?_) aI.fail
 exact aI.of λJ Z F s vs I d=>ai.dO λxs hx hl=>ai.nx (ai.ret (jO (P:=λvs=>Goes X A Z F J s (call (.builtin "list.append") vs) (ao eD) (J.set i (.list (xs++[v])))) d λu w (du:u = .ref (Z i)/\i<J.n) dw=>du.1▸Gd I hx hl dw))
theorem ah.clear(as:List AV):aI X A "list.clear" (AA as) as:=by
 refine dC (P:=aI X A "list.clear") (λa=>?_) aI.fail
 refine b8 (P:=λx a=>aI X A "list.clear" x [a]) (λi=>?_) aI.fail
 exact aI.of λJ Z F s vs I d=>ai.dO λxs hx hl=>ai.nx (ai.ret (eE (P:=λvs=>Goes X A Z F J s (call (.builtin "list.clear") vs) (ao eD) (J.set i (.list []))) d λu (du:u = .ref (Z i)/\i<J.n)=>du.1▸Hs I hx hl))
theorem ah.insert(as:List AV):aI X A "list.insert" (zu as) as:=by
 refine Hj (P:=aI X A "list.insert") (λa k v=>?_) λ_=>aI.fail
 refine b8 (P:=λx a=>aI X A "list.insert" x [a,k,v]) (λi=>?_) aI.fail
 refine fJ (P:=λx k=>aI X A "list.insert" x [.ref i,k,v]) (λk=>?_) aI.fail
 refine bQ (P:=λx=>aI X A "list.insert" x [.ref i,.int k,v]) (λhk=>?_) aI.fail
 exact aI.of λJ Z F s vs I d=>ai.dO λxs hx hl=>ai.nx (ai.ret (JU (P:=λvs=>Goes X A Z F J s (call (.builtin "list.insert") vs) (ao eD) (J.set i (.list (v::xs)))) d λu k' w (du:u = .ref (Z i)/\i<J.n) (dk:∃t,k' = .int k t) dw=>du.1▸dk.elim λt e=>e▸(eq_of_beq hk).symm▸Ge t I hx hl dw))
theorem ai.CW{i:Nat}{C:AV->St->Prop}(h:∀ys y,J.get i=some (.list (ys++[y]))->(ys++[y]).length<=1000000->C y (J.set i (.list ys))):ai J (u9 i) C:=ai.dO λxs hx hl=>ai.last λp hp=>ai.nx (ai.ret (h p.1 p.2 (hp▸hx) (hp▸hl)))
theorem ai.LV{i:Nat}{C:AV->St->Prop}(h:∀ys y,J.get i=some (.list (y::ys))->(y::ys).length<=1000000->C y (J.set i (.list ys))):ai J (BC i) C:=ai.dO λxs hx hl=>ai.first λp hp=>ai.nx (ai.ret (h p.1 p.2 (hp▸hx) (hp▸hl)))
theorem ah.pop(as:List AV):aI X A "list.pop" (CU as) as:=by
 refine iW (P:=aI X A "list.pop") (λa r=>?_) aI.fail
 refine b8 (P:=λx a=>aI X A "list.pop" x (a::r)) (λi=>?_) aI.fail
 refine ek (P:=λx r=>aI X A "list.pop" x (.ref i::r)) ?_ ?_
 ·exact aI.of λJ Z F s vs I d=>ai.CW λys y hx hl=>eE (P:=λvs=>Goes X A Z F J s (call (.builtin "list.pop") vs) (ao y) (J.set i (.list ys))) d λu (du:u = .ref (Z i)/\i<J.n)=>du.1▸IC I hx hl
 refine dC (P:=λx r=>aI X A "list.pop" x (.ref i::r)) (λk=>?_) aI.fail
 refine fJ (P:=λx k=>aI X A "list.pop" x [.ref i,k]) (λk=>?_) aI.fail
 refine bQ (P:=λx=>aI X A "list.pop" x [.ref i,.int k]) (λhk=>?_) (bQ (P:=λx=>aI X A "list.pop" x [.ref i,.int k]) (λhk=>?_) aI.fail)
 ·exact aI.of λJ Z F s vs I d=>ai.LV λys y hx hl=>jO (P:=λvs=>Goes X A Z F J s (call (.builtin "list.pop") vs) (ao y) (J.set i (.list ys))) d λu k' (du:u = .ref (Z i)/\i<J.n) (dk:∃t,k' = .int k t)=>du.1▸dk.elim λt e=>e▸(eq_of_beq hk).symm▸ID t I hx hl
 ·exact aI.of λJ Z F s vs I d=>ai.CW λys y hx hl=>jO (P:=λvs=>Goes X A Z F J s (call (.builtin "list.pop") vs) (ao y) (J.set i (.list ys))) d λu k' (du:u = .ref (Z i)/\i<J.n) (dk:∃t,k' = .int k t)=>du.1▸dk.elim λt e=>e▸(eq_of_beq hk).symm▸IE t I hx hl
end
section
variable{prog:Program}{w:World}{A:Around}{E:Value->Shared->Prop}{s:Shared}
theorem p4{it:Addr}{l:Value}{k:Int}(h:s.heap.get? it=some (dE l k)):s.TypeIs (.ref it) "list_iterator":=⟨_,h,rfl⟩
theorem jA{α:Type}{Q:α->Shared->Prop}(hh:A.handled=none)(h:∀e h',(∀b o,s.heap.get? b=some o->h'.get? b=some o)->({ s with heap:=h' }:Shared).TypeIs e "StopIteration"->E e { s with heap:=h' }):wpAny (model prog w) A (SmallTypes.stopIteration:Sem α) Q E s:=by
 show wpAny _ _ (newExc (.type "StopIteration") [] >>= _) _ _ _
 refine wpAny_bind ?_
 simp only[newExc,newTuple]
 refine wpAny_bind (wpAny_newObj_type ?_ (by size_fits))
 refine wpAny_bind (m:=firstArgMember _ _) (wpAny_of_eq (a:=Value.none) (by first | rfl | (simp only[firstArgMember]; rfl)) ?_)
 refine wpAny_newObj_type ?_ (by size_fits)
 simp only[raiseNew]
 refine wpAny_bind (wpAny_handled ?_)
 rw[hh]
 refine wpAny_bind (wpAny_pure (wpAny_throw ?_))
 exact h _ _ (λb o e=>Heap.get?_push_of_some _ (Heap.get?_push_of_some _ e)) ⟨_,Heap.get?_push_size _ rfl,rfl⟩
section
variable{it l:Addr}{i:Nat}{items:List Value}{n:Nat}
theorem Eu{x:Value}{Q:Option Value->Shared->Prop}(ho:s.heap.get? it=some (dE (.ref l) i))(hl:s.heap.get? l=some (cL items n))(hx:items[i]? = some x)(hQ:∀h',h'.get? it=some (dE (.ref l) (i+1:Nat))->Heap.ExtBut it s.heap h'->Q (some x) { s with heap:=h' }):wpAny (model prog w) A (pyNext (.ref it)) Q E s:=by
 unfold pyNext
 have T:=p4 ho
 refine wpAny_bind (wpAny_attempt (wpAny_callSpecial?_slot (name:=Str.ofString "__next__") T slot_listiter_next (wpAny_call_entry slot_listiter_next T entry_listiter_next ?_ (args_listiter_next _))))
 show wpAny _ _ (field (.ref it) 0 >>= _) _ _ s
 refine wpAny_bind (wpAny_field ho rfl (x:=.ref l) rfl ?_)
 rw[if_neg (show ¬ ((Value.ref l == Value.none)=true) from Bool.false_ne_true)]
 refine wpAny_bind (m:=field (.ref it) 1) (wpAny_field ho rfl (x:=.int i 0) rfl ?_)
 dsimp only
 refine wpAny_bind (wpAny_seqItems hl rfl ?_)
 dsimp only
 simp only[Int.toNat_natCast,List.getElem?_toArray,hx]
 refine wpAny_bind (wpAny_setField ho rfl (by simp) (wpAny_pure ⟨x,rfl,wpAny_pure (hQ _ ?_ (Heap.SameBut.update ..).extBut)⟩))
 rw[Heap.get?_update_self _ ho rfl]
 rfl
theorem Ew{Q:Option Value->Shared->Prop}(hh:A.handled=none)(ho:s.heap.get? it=some (dE (.ref l) i))(hl:s.heap.get? l=some (cL items n))(hx:items[i]? = none)(hQ:∀h',h'.get? it=some (dE .none i)->Heap.ExtBut it s.heap h'->Q none { s with heap:=h' }):wpAny (model prog w) A (pyNext (.ref it)) Q E s:=by
 unfold pyNext
 have T:=p4 ho
 refine wpAny_bind (wpAny_attempt (wpAny_callSpecial?_slot (name:=Str.ofString "__next__") T slot_listiter_next (wpAny_call_entry slot_listiter_next T entry_listiter_next ?_ (args_listiter_next _))))
 show wpAny _ _ (field (.ref it) 0 >>= _) _ _ s
 refine wpAny_bind (wpAny_field ho rfl (x:=.ref l) rfl ?_)
 rw[if_neg (show ¬ ((Value.ref l == Value.none)=true) from Bool.false_ne_true)]
 refine wpAny_bind (m:=field (.ref it) 1) (wpAny_field ho rfl (x:=.int i 0) rfl ?_)
 dsimp only
 refine wpAny_bind (wpAny_seqItems hl rfl ?_)
 dsimp only
 simp only[Int.toNat_natCast,List.getElem?_toArray,hx]
 refine wpAny_bind (wpAny_rule (wpAny_bind (wpAny_setField ho rfl (by simp) ?_)))
 have h1:(s.heap.update it (Obj.mapFields (·.setIfInBounds 0 Value.none))).get? it=some (dE .none i):=by
  rw[Heap.get?_update_self _ ho rfl]; rfl
 refine jA (A:=A.in1) hh λe h' hk hT=>?_
 refine wpAny_bind (wpAny_isInstance (T:="StopIteration") (b:=true) hT isSubtype_stop ?_)
 exact wpAny_pure (hQ _ (hk _ _ h1) λb o hb e=>hk _ _ ((Heap.SameBut.update ..).extBut b o hb e))
end
theorem Ei{it:Addr}{i:Int}{Q:Option Value->Shared->Prop}(hh:A.handled=none)(ho:s.heap.get? it=some (dE .none i))
  (hQ:∀h',(∀b o,s.heap.get? b=some o->h'.get? b=some o)->Q none { s with heap:=h' }):wpAny (model prog w) A (pyNext (.ref it)) Q E s:=by
 unfold pyNext
 have T:=p4 ho
 refine wpAny_bind (wpAny_attempt (wpAny_callSpecial?_slot (name:=Str.ofString "__next__") T slot_listiter_next (wpAny_call_entry slot_listiter_next T entry_listiter_next ?_ (args_listiter_next _))))
 show wpAny _ _ (field (.ref it) 0 >>= _) _ _ s
 refine wpAny_bind (wpAny_field ho rfl (x:=.none) rfl ?_)
 rw[if_pos (show((Value.none == Value.none)=true) from rfl)]
 refine wpAny_bind (wpAny_rule (wpAny_bind (m:=SmallTypes.stopIteration) ?_))
 refine jA (A:=A.in1) hh λe h' hk hT=>?_
 refine wpAny_bind (wpAny_isInstance (T:="StopIteration") (b:=true) hT isSubtype_stop ?_)
 exact wpAny_pure (hQ _ hk)
theorem FG:builtinKind "next" = none:=by decide +kernel
theorem E7:plainId "next" = true:=by decide +kernel
theorem entry_next:entryFor table "next" = some Builtin.«next»:=entryFor_of_tree (by kernel_rfl)
theorem args_next(a b:Value):argsOk "next" ⟨[a,b],[]⟩:=by unfold argsOk; kernel_rfl
theorem FH:builtinKind "iter" = none:=by decide +kernel
theorem E8:plainId "iter" = true:=by decide +kernel
theorem E9:entryFor table "iter" = some Builtin.«iter»:=entryFor_of_tree (by kernel_rfl)
theorem FI(a:Value):argsOk "iter" ⟨[a],[]⟩:=by unfold argsOk; kernel_rfl
theorem FJ{it:Addr}{l d:Value}{k:Int}{Q:Value->Shared->Prop}(ho:s.heap.get? it=some (dE l k))
  (h:wpAny (model prog w) A.in1 (pyNext (.ref it)) (λr s'=>Q (r.getD d) s') E s):wpAny (model prog w) A (call (.builtin "next") [.ref it,d]) Q E s:=by
 refine Calls.call_function_entry FG E7 entry_next (args_next _ _) ?_
 unfold Builtin.«next»
 refine wpAny_bind (m:=someArgs "next" 1 2 _) (wpAny_pure ?_)
 refine wpAny_bind (m:=specialOf (.ref it) (Str.ofString "__next__")) (wpAny_specialOf (p4 ho) slot_listiter_next.lookup ?_)
 rw[if_neg (by decide)]
 exact wpAny_bind (wpAny_mono h (λr s' q=>wpAny_pure ⟨_,rfl,q⟩) λ_ _ e=>e)
end
noncomputable def qN(i l k:Nat):EM (Option AV):=EM.bind (EM.aK iz l) λxs=>EM.bind EM.eu λo=>aQ o (λy=>EM.turn (xs[k]? = some y) (λJ=>J.set i (.liter l (k+1))) (some y)) (EM.turn (xs[k]? = none) (λJ=>J.set i .lend) none)
noncomputable def AB(i:Nat)(c:Cell):EM (Option AV):=mJ c (λl k=>qN i l k) <| tC c (EM.ret none) EM.fail
noncomputable def BD(as:List AV):EM AV:=kW as (λit d=>bT it (λi=>EM.bind (EM.cell i) λc=>EM.bind (AB i c) λo=>EM.ret (o.getD d)) EM.fail) EM.fail
noncomputable def BE(as:List AV):EM AV:=dA as (λa=>bT a (λl=>EM.bind (EM.aK iz l) λ_=>EM.bind (EM.push (.liter l 0)) λi=>EM.ret (.ref i)) EM.fail) EM.fail
section
variable{X:Ctx}{A:Around}{Z:ay}{F:Fz}{J:St}{s:Shared}{Y:Kn}
theorem ax.none{n:Nat}{xs:List AV}{vs:List Value}(d:ax n Z F xs vs){i:Nat}(h:xs[i]? = none):vs[i]? = none:=by
 rw[List.getElem?_eq_none_iff] at h ⊢
 rw[<- d.length]; exact h
noncomputable def kN(o:Option AV)(v:Option Value):Kn:=⟨λn Z F=>gv n Z F o v,λh1 h2 h3=>gv.imp λ_ _=>Den.mono h1 h2 h3⟩
theorem yC(hA:A.handled=none)(I:Inv X Z F J s){i l k:Nat}(hi:J.get i=some (.liter l k)):ai J (qN i l k) λo aj=>Goes X A Z F J s (pyNext (.ref (Z i))) (kN o) aj:=by
 have ho:=I.o4 hi
 refine ai.aK jz λxs hx=>ai.eu λo=>(I.cA hx).elim λws q=>q.elim λkk q=>?_
 cases o with
 | some y=>exact ai.turn λhy=>(q.2.fX hy).elim λv hv=>Goes.to λQ E hQ=>Eu ho.1 q.1 hv.1 λh' ho' hk=>hQ _ _ Z F ⟨v,rfl,hv.2⟩ (I.set hi hk (c':=.liter l (k+1)) (.CQ ho' ho.2) s.toks)
 | none=>exact ai.turn λhy=>Goes.to λQ E hQ=>Ew hA ho.1 q.1 (q.2.none hy) λh' ho' hk=>hQ _ _ Z F rfl (I.set hi hk (c':=.lend) (.J0 ho') s.toks)
theorem Gg(hA:A.handled=none)(I:Inv X Z F J s){i:Nat}(hi:J.get i=some .lend):Goes X A Z F J s (pyNext (.ref (Z i))) (kN none) J :=
 (I.atEnd hi).elim λk ho=>Goes.to λQ E hQ=>Ei hA ho λh' hk=>hQ _ _ Z F rfl (I.grow hk s.toks)
theorem Gh{n:Nat}{o:Option AV}{v:Option Value}{d:AV}{dv:Value}(h:gv n Z F o v)(hd:Den n Z F d dv):Den n Z F (o.getD d) (v.getD dv):=by
 cases o with
 | none=>rw[show v=Option.none from h]; exact hd
 | some a=>exact h.elim λw q=>by rw[q.1]; exact q.2
theorem zv{i:Nat}{o d:AV}{x:Option AV}{v:Value}{l:Value}{k:Int}{aj:St}(I:Inv X Z F J s)(ho:s.heap.get? (Z i)=some (dE l k))(dv:Den J.n Z F d v)(h:Goes X A.in1 Z F J s (pyNext (.ref (Z i))) (kN x) aj):
  Goes X A Z F J s (call (.builtin "next") [.ref (Z i),v]) (ao (x.getD d)) aj:=λQ E hQ=>FJ ho (h _ E λr s' aq F' hr I' st=>hQ _ s' aq F' (Gh hr (Den.step dv st)) I' st)
theorem ah.next(hA:A.handled=none)(as:List AV):aI X A "next" (BD as) as:=by
 refine lF (P:=aI X A "next") (λit d=>?_) λ_=>aI.fail
 refine b8 (P:=λx a=>aI X A "next" x [a,d]) (λi=>?_) aI.fail
 refine aI.of λJ Z F s vs I dd=>jO (P:=λvs=>ai J (EM.bind (EM.cell i) λc=>EM.bind (AB i c) λo=>EM.ret (o.getD d)) λb aj=>Goes X A Z F J s (call (.builtin "next") vs) (ao b) aj) dd λu w (du:u = .ref (Z i)/\i<J.n) dw=>?_
 rw[du.1]
 refine ai.cell λc hc=>ai.bind (C:=λo aj=>Goes X A Z F J s (call (.builtin "next") [.ref (Z i),w]) (ao (o.getD d)) aj) ?_ λo aj h=>ai.ret h
 exact nJ (P:=λ(x:EM (Option AV)) c=>J.get i=some c->ai J x λo aj=>Goes X A Z F J s (call (.builtin "next") [.ref (Z i),w]) (ao (o.getD d)) aj) (λl k hc=>(yC (A:=A.in1) hA I hc).mono λo aj h=>zv (o:=d) I (I.o4 hc).1 dw h)
  (xg (P:=λ(x:EM (Option AV)) c=>J.get i=some c->ai J x λo aj=>Goes X A Z F J s (call (.builtin "next") [.ref (Z i),w]) (ao (o.getD d)) aj) (λhc=>ai.ret ((I.atEnd hc).elim λk ho=>zv (o:=d) I ho dw (Gg (A:=A.in1) hA I hc))) λ_=>ai.fail) hc
theorem yD(I:Inv X Z F J s){l:Nat}(hl:l<J.n){Q:Value->Shared->Prop}(hQ:∀v s' aq F',(ao (.ref J.n) v).p (J.push (.liter l 0)).n aq F'->Inv X aq F' (J.push (.liter l 0)) s'/\aD Z F J s aq F' (J.push (.liter l 0)) s'->Q v s'):
  Q (.ref s.heap.objs.size) { s with heap:=s.heap.push (dE (.ref (Z l)) 0) } :=
 hQ _ _ _ F (Den.fresh Z F J _ _) (I.push (a:=s.heap.objs.size) (c:=.liter l 0) (Heap.get?_none_of_le (Nat.le_refl _)) (λb o e=>Heap.get?_push_of_some _ e) (.CQ (by rw[ay.fx Z _ hl]; exact Heap.get?_push_size _ rfl) (Nat.lt_succ_of_lt hl)) s.toks)
theorem IF{l:Nat}{xs:List AV}(I:Inv X Z F J s)(hx:J.get l=some (.list xs)):Goes X A Z F J s (call (.builtin "iter") [.ref (Z l)]) (ao (.ref J.n)) (J.push (.liter l 0)):=(I.cA hx).elim λws q=>q.elim λkk q=>Goes.to λQ E hQ=>by
 refine Calls.call_function_entry FH E8 E9 (FI _) ?_
 unfold Builtin.«iter»
 refine wpAny_bind (m:=someArgs "iter" 1 2 _) (wpAny_pure ?_)
 exact wpAny_bind (wpAny_pyIter_list (items:=ws.toArray) ⟨_,q.1,rfl,kk,rfl⟩ (wpAny_pure ⟨_,rfl,yD I (I.lt hx) hQ⟩))
theorem ah.iter(as:List AV):aI X A "iter" (BE as) as:=by
 refine dC (P:=aI X A "iter") (λa=>?_) aI.fail
 refine b8 (P:=λx a=>aI X A "iter" x [a]) (λl=>?_) aI.fail
 exact aI.of λJ Z F s vs I d=>ai.aK jz λxs hx=>ai.push (ai.ret (eE (P:=λvs=>Goes X A Z F J s (call (.builtin "iter") vs) (ao (.ref J.n)) (J.push (.liter l 0))) d λu (du:u = .ref (Z l)/\l<J.n)=>du.1▸IF I hx))
end
theorem yE{x:Str}(h:(x.length == 0)=true):x=⟨#[]⟩:=by
 have e:x.cps = #[]:=Array.eq_empty_of_size_eq_zero (eq_of_beq h)
 exact congrArg Str.mk e
theorem El{x y:Str}(h:(x.length == 0)=true):x++y=y:=by
 rw[yE h]
 show(⟨#[]++y.cps⟩:Str)=y
 rw[Array.empty_append]
theorem Em{x y:Str}(h:(y.length == 0)=true):x++y=x:=by
 rw[yE h]
 show(⟨x.cps++#[]⟩:Str)=x
 rw[Array.append_empty]
theorem EK(x y:Str):(x++y).length=x.length+y.length:=Array.size_append
noncomputable def cg{α:Type}[DecidableEq α]{B:Type}(a b:α)(x y:B):B:=_root_.cond (a == b) x y
theorem b9{α:Type}[DecidableEq α]{B:Type}{P:B->α->Prop}{a b:α}{x y:B}(h:P x b)(h0:P y a):P (cg a b x y) a:=bQ (P:=λz=>P z a) (λe=>(eq_of_beq e).symm▸h) h0
noncomputable def oK(a b:Int):Prop:=0<=b/\1<a/\Builtin.Int.intTooBig (((Builtin.Int.intBits a:Nat):Int) * b)=false
section
variable(op:Operator)
noncomputable def vb(a b:Int):EM AV:=cg op .Add (EM.ret (.int (a+b))) <| cg op .Sub (EM.ret (.int (a - b))) <| cg op .Mult (EM.bz (IntMulOk a b) (.int (a * b))) <| cg op .Mod (EM.bz (b≠0) (.int (a.fmod b))) <|
 cg op .FloorDiv (EM.bz (b≠0/\divisionGoesByPylong a b=false) (.int (a.fdiv b))) <| cg op .Pow (EM.bz (oK a b) (.int (a ^ b.toNat))) EM.fail
noncomputable def m6(a b:Str):EM AV:=cg op .Add (EM.bz (a.length+b.length<=1000000) (.str (a++b))) EM.fail
noncomputable def vU(a b:AV):EM AV:=cM a (λi=>cM b (λj=>vb op i j) EM.fail) <| onStr a (λi=>onStr b (λj=>m6 op i j) EM.fail) EM.fail
noncomputable def vc(a b:Int):EM AV:=cg op .Add (EM.ret (.int (a+b))) <| cg op .Sub (EM.ret (.int (a - b))) EM.fail
noncomputable def vV(a b:AV):EM AV:=cM a (λi=>cM b (λj=>vc op i j) EM.fail) <| onStr a (λi=>onStr b (λj=>m6 op i j) EM.fail) EM.fail
end
noncomputable def isNone(a:AV):Option Bool:=uY a none (eM a (λv=>mU v (some true) none) (some false))
noncomputable def vd(op:CmpOp)(a b:Int):EM AV:=cg op .Eq (EM.ret (.bool (a == b))) <| cg op .NotEq (EM.ret (.bool (a != b))) <| cg op .Lt (EM.ret (.bool (decide (a<b)))) <| cg op .LtE (EM.ret (.bool (decide (a<=b)))) <|
 cg op .Gt (EM.ret (.bool (decide (a > b)))) <| cg op .GtE (EM.ret (.bool (decide (a ≥ b)))) EM.fail
noncomputable def ve(op:CmpOp)(a:AV):EM AV:=cg op .Is (EM.bind (EM.opt (isNone a)) λr=>EM.ret (.bool r)) <| cg op .IsNot (EM.bind (EM.opt (isNone a)) λr=>EM.ret (.bool (!r))) EM.fail
noncomputable def tI(a:AV):Bool:=eM a (λv=>mU v true false) false
noncomputable def vf(op:CmpOp)(x y:Str):EM AV:=cg op .Eq (EM.ret (.bool (x == y))) <| cg op .In (EM.ret (.bool (Txt.contains y x))) (cg op .NotEq (EM.ret (.bool (x.cps.toList != y.cps.toList))) EM.fail)
noncomputable def ry(op:CmpOp)(a b:AV):EM AV:=_root_.cond (tI b) (ve op a) (cM a (λi=>cM b (λj=>vd op i j) EM.fail) <| onStr a (λx=>onStr b (λy=>vf op x y) EM.fail) EM.fail)
section
variable{X:Ctx}{A:Around}{Z:ay}{F:Fz}{J:St}{s:Shared}{Y:Kn}{α β:Type}{x:EM β}{R:β->α->Kn}
section
variable(T:Value->Sem α)
theorem ah.isInt{i:Int}{v:Value}(hv:Y.le (ao (.int i) v))(H:∀t,ah X A Y R x (T (.int i t))):ah X A Y R x (T v):=ah.cz (P:=∃t,v = .int i t) hv λq=>q.elim λt e=>e▸H t
theorem ah.isStr{i:Str}{v:Value}(hv:Y.le (ao (.str i) v))(H:∀t,ah X A Y R x (T (.str i t))):ah X A Y R x (T v):=ah.cz (P:=∃t,v = .str i t) hv λq=>q.elim λt e=>e▸H t
theorem ah.i4{a:AV}{v:Value}{f:Int->EM β}{d:EM β}(hv:Y.le (ao a v))(H:∀i t,ah X A Y R (f i) (T (.int i t)))(h0:ah X A Y R d (T v)):ah X A Y R (cM a f d) (T v) :=
 fJ (P:=λx a=>Y.le (ao a v)->ah X A Y R x (T v)) (λi h=>ah.isInt T h (H i)) (λ_=>h0) hv
theorem ah.i5{a:AV}{v:Value}{f:Str->EM β}{d:EM β}(hv:Y.le (ao a v))(H:∀i t,ah X A Y R (f i) (T (.str i t)))(h0:ah X A Y R d (T v)):ah X A Y R (onStr a f d) (T v) :=
 gb (P:=λx a=>Y.le (ao a v)->ah X A Y R x (T v)) (λi h=>ah.isStr T h (H i)) (λ_=>h0) hv
end
theorem ah.eQ{b:β}{t:Sem α}(h:∀Z F J s,Inv X Z F J s->Y.p J.n Z F->Goes X A Z F J s t (R b) J):ah X A Y R (EM.ret b) t:=ah.bw λJ Z F s I g=>ai.ret (h Z F J s I g)
theorem ah.jL{P:Prop}{b:β}{t:Sem α}(h:P->∀Z F J s,Inv X Z F J s->Y.p J.n Z F->Goes X A Z F J s t (R b) J):ah X A Y R (EM.bz P b) t:=ah.bw λJ Z F s I g=>ai.bz λp=>h p Z F J s I g
theorem int_at{i:Int}{Q:Value->Shared->Prop}(hQ:∀v k,(ao (.int i) v).p J.n Z F->Q v { s with toks:=k }):Q (.int i s.toks) { s with toks:=s.toks+1 }:=hQ _ _ ⟨_,rfl⟩
theorem p5{i:Int}{Q:Value->Shared->Prop}(hQ:∀v k,(ao (.int i) v).p J.n Z F->Q v { s with toks:=k }):(Made.int i).post Q s:=int_at hQ
theorem AD{x y:Str}{Q:Value->Shared->Prop}(t u:Tok)(h:x.length+y.length<=1000000)(hQ:∀v k,(ao (.str (x++y)) v).p J.n Z F->Q v { s with toks:=k }):
  (if (x.length == 0)=true then Made.val (.str y u) else if (y.length == 0)=true then Made.val (.str x t) else Made.str (x++y)).post Q s:=by
 have h1:(x.length == 0)=true->Q (.str y u) s:=λh=>hQ (.str y u) s.toks (show ∃t,Value.str y u = .str (x++y) t from⟨u,by rw[El h]⟩)
 have h2:(y.length == 0)=true->Q (.str x t) s:=λh=>hQ (.str x t) s.toks (show ∃t',Value.str x t = .str (x++y) t' from⟨t,by rw[Em h]⟩)
 have h3:(x++y).length<=sizeLine:=by rw[EK]; exact Nat.le_trans h (by decide)
 split
 ·exact h1 ‹_›
 ·split
  ·exact h2 ‹_›
  ·exact⟨h3,hQ (.str (x++y) s.toks) _ (show ∃t',Value.str (x++y) s.toks = .str (x++y) t' from⟨_,rfl⟩)⟩
theorem J3{a b:Int}{t u:Tok}(I:Inv X Z F J s)(h:b≠0):Goes X A Z F J s (binaryOp .Mod (.int a t) (.int b u)) (ao (.int (a.fmod b))) J:=by
 refine Goes.tok I λQ E hQ=>?_
 have hb:¬(b == 0)=true:=λe=>h (eq_of_beq e)
 exact AutoIntOps.mod_1 hb (p5 hQ)
theorem IG{a b:Int}{t u:Tok}(I:Inv X Z F J s)(h:b≠0/\divisionGoesByPylong a b=false):Goes X A Z F J s (binaryOp .FloorDiv (.int a t) (.int b u)) (ao (.int (a.fdiv b))) J:=by
 refine Goes.tok I λQ E hQ=>?_
 have hb:¬(b == 0)=true:=λe=>h.1 (eq_of_beq e)
 exact AutoIntOps.floordiv_1 hb (by rw[h.2]; decide) (p5 hQ)
theorem J4{a b:Int}{t u:Tok}(I:Inv X Z F J s)(h:oK a b):Goes X A Z F J s (binaryOp .Pow (.int a t) (.int b u)) (ao (.int (a ^ b.toNat))) J:=by
 unfold oK at h
 refine Goes.tok I λQ E hQ=>?_
 by_cases hb:b=0
 ·have e1:a ^ b.toNat=1:=by rw[hb]; exact Int.pow_zero a
  rw[e1] at hQ
  exact AutoIntOps.pow_0 h.1 (beq_of_eq hb) (p5 hQ)
 ·exact AutoIntOps.pow_4 h.1 (λe=>hb (eq_of_beq e)) (λe=>(Bool.or_eq_true_iff.mp e).elim (λe=>by have:=eq_of_beq e; omega) λe=>by have:=eq_of_beq e; omega) (λe=>by have:=eq_of_beq e; omega) (by rw[h.2.2]; decide) (p5 hQ)
theorem ah.binI(op:Operator)(a b:Int)(t u:Tok):ah X A Y ao (vb op a b) (binaryOp op (.int a t) (.int b u)):=by
 unfold vb
 refine b9 (P:=λx op=>ah X A Y ao x (binaryOp op (.int a t) (.int b u))) ?_ ?_
 ·exact ah.eQ λZ F J s I g=>Goes.tok I λQ E hQ=>P.add_int (int_at hQ)
 refine b9 (P:=λx op=>ah X A Y ao x (binaryOp op (.int a t) (.int b u))) ?_ ?_
 ·exact ah.eQ λZ F J s I g=>Goes.tok I λQ E hQ=>P.sub_int (int_at hQ)
 refine b9 (P:=λx op=>ah X A Y ao x (binaryOp op (.int a t) (.int b u))) ?_ ?_
 ·exact ah.jL λh Z F J s I g=>Goes.tok I λQ E hQ=>P.mul_int (int_at hQ) h
 refine b9 (P:=λx op=>ah X A Y ao x (binaryOp op (.int a t) (.int b u))) ?_ ?_
 ·refine ah.jL ?_
  intro h Z F J s I g
  exact J3 I h
 refine b9 (P:=λx op=>ah X A Y ao x (binaryOp op (.int a t) (.int b u))) ?_ ?_
 ·exact ah.jL λh Z F J s I g=>IG I h
 refine b9 (P:=λx op=>ah X A Y ao x (binaryOp op (.int a t) (.int b u))) ?_ ?_
 ·exact ah.jL λh Z F J s I g=>J4 I h
 exact ah.fail
theorem ah.LW(op:Operator)(a b:Str)(t u:Tok):ah X A Y ao (m6 op a b) (binaryOp op (.str a t) (.str b u)):=by
 unfold m6
 refine b9 (P:=λx op=>ah X A Y ao x (binaryOp op (.str a t) (.str b u))) ?_ ?_
 ·exact ah.jL λh Z F J s I g=>Goes.tok I λQ E hQ=>P.add_str (AD t u h hQ)
 exact ah.fail
theorem ah.bin{op:Operator}{a b:AV}{v w:Value}(ha:Y.le (ao a v))(hb:Y.le (ao b w)):ah X A Y ao (vU op a b) (binaryOp op v w) :=
 ah.i4 (λv=>binaryOp op v w) ha (λi t=>ah.i4 (λw=>binaryOp op (.int i t) w) hb (λj u=>ah.binI op i j t u) ah.fail) (ah.i5 (λv=>binaryOp op v w) ha (λi t=>ah.i5 (λw=>binaryOp op (.str i t) w) hb (λj u=>ah.LW op i j t u) ah.fail) ah.fail)
theorem ah.LX(op:Operator)(a b:Int)(t u:Tok):ah X A Y ao (vc op a b) (inplaceOp op (.int a t) (.int b u)):=by
 unfold vc
 refine b9 (P:=λx op=>ah X A Y ao x (inplaceOp op (.int a t) (.int b u))) ?_ ?_
 ·exact ah.eQ λZ F J s I g=>Goes.tok I λQ E hQ=>P.iadd_int (int_at hQ)
 refine b9 (P:=λx op=>ah X A Y ao x (inplaceOp op (.int a t) (.int b u))) ?_ ?_
 ·exact ah.eQ λZ F J s I g=>Goes.tok I λQ E hQ=>P.isub_int (int_at hQ)
 exact ah.fail
theorem ah.LY(op:Operator)(a b:Str)(t u:Tok):ah X A Y ao (m6 op a b) (inplaceOp op (.str a t) (.str b u)):=by
 unfold m6
 refine b9 (P:=λx op=>ah X A Y ao x (inplaceOp op (.str a t) (.str b u))) ?_ ?_
 ·exact ah.jL λh Z F J s I g=>Goes.tok I λQ E hQ=>P.iadd_str (AD t u h hQ)
 exact ah.fail
theorem ah.DU{op:Operator}{a b:AV}{v w:Value}(ha:Y.le (ao a v))(hb:Y.le (ao b w)):ah X A Y ao (vV op a b) (inplaceOp op v w) :=
 ah.i4 (λv=>inplaceOp op v w) ha (λi t=>ah.i4 (λw=>inplaceOp op (.int i t) w) hb (λj u=>ah.LX op i j t u) ah.fail) (ah.i5 (λv=>inplaceOp op v w) ha (λi t=>ah.i5 (λw=>inplaceOp op (.str i t) w) hb (λj u=>ah.LY op i j t u) ah.fail) ah.fail)
theorem xH{n:Nat}{a:AV}{v:Value}{b:Bool}(d:Den n Z F a v)(h:isNone a=some b):plainIs v .none=true/\(v == .none)=b:=by
 cases a with
 | val w =>
  rw[show v=w from d]
  exact nK (P:=λ(x:Option Bool) w=>x=some b->plainIs w .none=true/\(w == .none)=b) (λh=>⟨rfl,Option.some.inj h⟩) (λh=>aJ h) h
 | bool c=>rw[show v = .bool c from d]; exact⟨rfl,Option.some.inj h⟩
 | int i=>exact(mR d).elim λt e=>e▸⟨rfl,Option.some.inj h⟩
 | str x=>exact(lC d).elim λt e=>e▸⟨rfl,Option.some.inj h⟩
 | ref i=>exact d.1▸⟨rfl,Option.some.inj h⟩
 | tup xs=>cases fL d with | mk a vs k e=>rw[e]; exact⟨rfl,Option.some.inj h⟩
 | lst xs=>cases iu d with | mk a vs k e=>rw[e]; exact⟨rfl,Option.some.inj h⟩
 | any=>exact aJ h
 | obj C fs=>cases lD d with | mk a d' od es k e=>rw[e]; exact⟨rfl,Option.some.inj h⟩
 | eg C fs=>cases mT d with | mk a d' od vs e=>rw[e]; exact⟨rfl,Option.some.inj h⟩
 | cY a b c e f z=>cases(show fj n Z F a b c e f (a6 n Z F z) v from d) with | mk a qual o pm code ct fc es e=>rw[e]; exact⟨rfl,Option.some.inj h⟩
theorem ah.LZ(op:CmpOp)(a b:Int)(t u:Tok):ah X A Y ao (vd op a b) (compareOp op (.int a t) (.int b u)):=by
 unfold vd
 refine b9 (P:=λx op=>ah X A Y ao x (compareOp op (.int a t) (.int b u))) ?_ ?_
 ·exact ah.eQ λZ F J s I g=>Goes.same I λQ E hQ=>P.eq_int (hQ _ rfl)
 refine b9 (P:=λx op=>ah X A Y ao x (compareOp op (.int a t) (.int b u))) ?_ ?_
 ·exact ah.eQ λZ F J s I g=>Goes.same I λQ E hQ=>P.ne_int (hQ _ rfl)
 refine b9 (P:=λx op=>ah X A Y ao x (compareOp op (.int a t) (.int b u))) ?_ ?_
 ·exact ah.eQ λZ F J s I g=>Goes.same I λQ E hQ=>P.lt_int (hQ _ rfl)
 refine b9 (P:=λx op=>ah X A Y ao x (compareOp op (.int a t) (.int b u))) ?_ ?_
 ·exact ah.eQ λZ F J s I g=>Goes.same I λQ E hQ=>P.le_int (hQ _ rfl)
 refine b9 (P:=λx op=>ah X A Y ao x (compareOp op (.int a t) (.int b u))) ?_ ?_
 ·exact ah.eQ λZ F J s I g=>Goes.same I λQ E hQ=>P.gt_int (hQ _ rfl)
 refine b9 (P:=λx op=>ah X A Y ao x (compareOp op (.int a t) (.int b u))) ?_ ?_
 ·exact ah.eQ λZ F J s I g=>Goes.same I λQ E hQ=>P.ge_int (hQ _ rfl)
 exact ah.fail
theorem sD{n:Nat}{b:AV}{w:Value}:tI b=true->Den n Z F b w->w = .none :=
 ip (P:=λx b=>x=true->Den n Z F b w->w = .none) (λv h d=>(show w=v from d).trans (nK (P:=λx v=>x=true->v = .none) (λ_=>rfl) ff h)) ff
theorem ah.L5(op:CmpOp){a:AV}{v:Value}(ha:Y.le (ao a v)):ah X A Y ao (ve op a) (compareOp op v .none):=by
 unfold ve
 refine b9 (P:=λx op=>ah X A Y ao x (compareOp op v .none)) ?_ ?_
 ·exact ah.opt λc h=>ah.eQ λZ F J s I g=>Goes.same I λQ E hQ=>let q:=xH (ha _ _ _ g) h; wpAny_is_plain q.1 (by rw[q.2]; exact hQ _ rfl)
 refine b9 (P:=λx op=>ah X A Y ao x (compareOp op v .none)) ?_ ?_
 ·exact ah.opt λc h=>ah.eQ λZ F J s I g=>Goes.same I λQ E hQ=>let q:=xH (ha _ _ _ g) h; wpAny_isNot_plain q.1 (by rw[q.2]; exact hQ _ rfl)
 exact ah.fail
theorem ah.L6(op:CmpOp)(x y:Str)(t u:Tok):ah X A Y ao (vf op x y) (compareOp op (.str x t) (.str y u)):=by
 unfold vf
 refine b9 (P:=λz op=>ah X A Y ao z (compareOp op (.str x t) (.str y u))) ?_ ?_
 ·exact ah.eQ λZ F J s I g=>Goes.same I λQ E hQ=>PyProof.Rows.eq_str (hQ _ rfl)
 exact b9 (P:=λz op=>ah X A Y ao z (compareOp op (.str x t) (.str y u))) (ah.eQ λZ F J s I g=>Goes.same I λQ E hQ=>P.in_str (hQ _ rfl))
  (b9 (P:=λz op=>ah X A Y ao z (compareOp op (.str x t) (.str y u))) (ah.eQ λZ F J s I g=>Goes.same I λQ E hQ=>P.ne_str (hQ _ rfl)) ah.fail)
theorem ah.cmp{op:CmpOp}{a b:AV}{v w:Value}(ha:Y.le (ao a v))(hb:Y.le (ao b w)):ah X A Y ao (ry op a b) (compareOp op v w) :=
 bQ (P:=λx=>ah X A Y ao x (compareOp op v w)) (λh=>ah.cz (P:=w = .none) (λ_ _ _ g=>sD h (hb _ _ _ g)) λe=>e▸ah.L5 op ha)
  (ah.i4 (λv=>compareOp op v w) ha (λi t=>ah.i4 (λw=>compareOp op (.int i t) w) hb (λj u=>ah.LZ op i j t u) ah.fail) (ah.i5 (λv=>compareOp op v w) ha (λi t=>ah.i5 (λw=>compareOp op (.str i t) w) hb (λj u=>ah.L6 op i j t u) ah.fail) ah.fail))
end
noncomputable def rJ(xs:List AV)(k:Int):EM AV:=EM.bind EM.cut λp=>EM.bz (0<=k/\k<1000000/\xs[k.toNat]? = some p.2) p.2
noncomputable def CX(xs:List AV)(k:Int):EM AV:=EM.bind EM.cut λp=>EM.bz ((0<=k/\k<1000000/\xs[k.toNat]? = some p.2)∨(k = -1/\xs[xs.length - 1]? = some p.2)) p.2
noncomputable def yF(a b:AV):EM AV:=cM b (λk=>bT a (λi=>EM.bind (dD i) λxs=>CX xs k) <| iC a (λxs=>rJ xs k) <| jP a (λxs=>rJ xs k) <| onStr a (λx=>EM.bz (0<=k/\k<x.length/\x.length<=1000000) (.str ⟨#[x.cps[k.toNat]!]⟩)) EM.fail) EM.fail
noncomputable def ta(a b c:AV):EM Unit:=bT a (λi=>cM b (λk=>EM.bind (dD i) λxs=>EM.bind (EM.cond (0<=k/\k<xs.length)) λ_=>kE i (xs.set k.toNat c)) EM.fail) EM.fail
section
variable{X:Ctx}{A:Around}{Z:ay}{F:Fz}{J:St}{s:Shared}{Y:Kn}
theorem ai.itemAt{xs:List AV}{k:Int}{C:AV->St->Prop}(h:∀y,0<=k->k<1000000->xs[k.toNat]? = some y->C y J):ai J (rJ xs k) C:=ai.word λp=>ai.bz λq=>h p.2 q.1 q.2.1 q.2.2
theorem ai.J5{xs:List AV}{k:Int}{C:AV->St->Prop}(h:∀y,0<=k->k<1000000->xs[k.toNat]? = some y->C y J)(h2:∀y,k = -1->xs[xs.length - 1]? = some y->C y J):ai J (CX xs k) C:=ai.word λp=>ai.bz λq=>q.elim (λq=>h p.2 q.1 q.2.1 q.2.2) λq=>h2 p.2 q.1 q.2
theorem item_list(I:Inv X Z F J s){i:Nat}{xs:List AV}{k:Int}{t:Tok}{y:AV}(hx:J.get i=some (.list xs))(h0:0<=k)(h1:k<1000000)(h2:xs[k.toNat]? = some y):Goes X A Z F J s (getItem (.ref (Z i)) (.int k t)) (ao y) J :=
 (I.cA hx).elim λws q=>q.elim λkk q=>(q.2.fX h2).elim λw hw=>Goes.same I λQ E hQ=>wpAny_getItem_list (items:=ws.toArray) ⟨_,q.1,rfl,kk,rfl⟩ h0 (by omega) (x:=w) (by simpa using hw.1) (hQ w hw.2)
theorem item_last(I:Inv X Z F J s){i:Nat}{xs:List AV}{t:Tok}{y:AV}(hx:J.get i=some (.list xs))(h2:xs[xs.length - 1]? = some y):Goes X A Z F J s (getItem (.ref (Z i)) (.int (-1) t)) (ao y) J :=
 (I.cA hx).elim λws q=>q.elim λkk q=>(q.2.fX h2).elim λw hw=>Goes.same I λQ E hQ=>by
  have hl:xs.length - 1<xs.length:=by
   rcases Nat.lt_or_ge (xs.length - 1) xs.length with p | p
   ·exact p
   ·rw[List.getElem?_eq_none p] at h2; exact aJ h2
  have hz:=q.2.length
  refine wpAny_getItem_list_neg (items:=ws.toArray) ⟨_,q.1,rfl,kk,rfl⟩ (by decide) (by rw[List.size_toArray]; omega) (by decide) (x:=w) ?_ (hQ w hw.2)
  rw[List.size_toArray,show(-1+(ws.length:Int)).toNat=xs.length - 1 by omega]
  simpa using hw.1
theorem Fc{α:Type}{xs:List α}{i:Nat}{y:α}(h:xs[i]? = some y):i<xs.length:=by
 rcases Nat.lt_or_ge i xs.length with q | q
 ·exact q
 ·rw[List.getElem?_eq_none q] at h; exact aJ h
theorem item_tup(I:Inv X Z F J s){xs:List AV}{v:Value}{k:Int}{t:Tok}{y:AV}(d:Den J.n Z F (.tup xs) v)(h0:0<=k)(h1:k<1000000)(h2:xs[k.toNat]? = some y):Goes X A Z F J s (getItem v (.int k t)) (ao y) J:=by
 cases fL d with | mk a vs kk e h hs =>
 refine(hs.fX h2).elim λw hw=>Goes.same I λQ E hQ=>?_
 have hlt:=Fc hw.1
 rw[e]
 exact P.getItem_tuple (I.froz _ _ h) (by omega) (by omega) (k:=k.toNat) (y:=w) (seqIndex_of h0 (by simp only[List.size_toArray]; omega)) (by simpa using hw.1) (hQ w hw.2)
theorem Gi(I:Inv X Z F J s){xs:List AV}{v:Value}{k:Int}{t:Tok}{y:AV}(d:Den J.n Z F (.lst xs) v)(h0:0<=k)(h1:k<1000000)(h2:xs[k.toNat]? = some y):Goes X A Z F J s (getItem v (.int k t)) (ao y) J:=by
 cases iu d with | mk a vs kk e h hs =>
 refine(hs.fX h2).elim λw hw=>Goes.same I λQ E hQ=>?_
 rw[e]
 exact wpAny_getItem_list (items:=vs.toArray) ⟨_,I.froz _ _ h,rfl,kk,rfl⟩ h0 (by omega) (x:=w) (by simpa using hw.1) (hQ w hw.2)
theorem item_str(I:Inv X Z F J s){x:Str}{t u:Tok}{k:Int}(h:0<=k/\k<x.length/\x.length<=1000000):Goes X A Z F J s (getItem (.str x t) (.int k u)) (ao (.str ⟨#[x.cps[k.toNat]!]⟩)) J:=Goes.tok I λQ E hQ=>by
 have hlt:k.toNat<x.cps.size:=by have:x.length=x.cps.size:=rfl; omega
 refine P.getItem_str (c:=x.cps[k.toNat]!) (by simp only[Bool.or_eq_false_iff,decide_eq_false_iff_not]; omega) ?_ (hQ _ _ ⟨_,rfl⟩)
 rw[seqIndex_of h.1 h.2.1,Option.bind_some,Array.getElem?_eq_getElem hlt,getElem!_pos x.cps k.toNat hlt]
theorem ah.getItem{a b:AV}{v w:Value}(ha:Y.le (ao a v))(hb:Y.le (ao b w)):ah X A Y ao (yF a b) (getItem v w) :=
 ah.i4 (λw=>PySem.getItem v w) hb (λk t=>b8 (P:=λx a=>Y.le (ao a v)->ah X A Y ao x (PySem.getItem v (.int k t))) (λi h=>ah.bw λJ Z F s I g=>ai.dO λxs hx _=>ai.J5 (λy h0 h1 h2=>(show v = .ref (Z i)/\i<J.n from h _ _ _ g).1▸item_list I hx h0 h1 h2) λy h0 h2=>(show v = .ref (Z i)/\i<J.n from h _ _ _ g).1▸h0▸item_last I hx h2)
  (jC (P:=λx a=>Y.le (ao a v)->ah X A Y ao x (PySem.getItem v (.int k t))) (λxs h=>ah.bw λJ Z F s I g=>ai.itemAt λy h0 h1 h2=>item_tup I (h _ _ _ g) h0 h1 h2)
   λh=>ly (P:=λx a=>Y.le (ao a v)->ah X A Y ao x (PySem.getItem v (.int k t))) (λxs h=>ah.bw λJ Z F s I g=>ai.itemAt λy h0 h1 h2=>Gi I (h _ _ _ g) h0 h1 h2)
    (λh=>ah.i5 (λv=>PySem.getItem v (.int k t)) h (λx u=>ah.jL λq Z F J s I g=>item_str I q) ah.fail) h) ha) ah.fail
theorem ax.setAt{n:Nat}{c:AV}{v:Value}(dc:Den n Z F c v):∀{xs:List AV} {vs:List Value} (i:Nat),ax n Z F xs vs->ax n Z F (xs.set i c) (vs.set i v)
 | [],_,_,d=>by rw[qG d]; rfl
 | _::_,[],_,d=>d.elim
 | _::_,_::_,0,d=>⟨dc,d.2⟩
 | _::_,_::_,i+1,d=>⟨d.1,ax.setAt dc i d.2⟩
theorem set_list(I:Inv X Z F J s){i:Nat}{xs:List AV}{k:Int}{t:Tok}{c:AV}{x:Value}(hx:J.get i=some (.list xs))(hl:xs.length<=1000000)(h0:0<=k)(h1:k<xs.length)(dc:Den J.n Z F c x):Goes X A Z F J s (setItem (.ref (Z i)) (.int k t) x) (λ_=>Kn.top) (J.set i (.list (xs.set k.toNat c))):=Goes.to λQ E hQ=>by
 cases I.lst hx hl with | mk ws kk ho dw hs =>
 have hT:=lT ho rfl
 have hlen:=dw.length
 unfold PySem.setItem
 refine wpAny_holding ?_
 refine wpAny_bind (wpAny_sequenceKey hT (by decide) ?_)
 refine wpAny_bind (wpAny_callSpecial?_slot (name:=Str.ofString "__setitem__") hT PySem.F.slot_list_setitem (wpAny_call_entry PySem.F.slot_list_setitem hT PySem.F.entry_list_setitem ?_ (PySem.F.args_list_setitem_3 _ _ _)))
 refine wpAny_bind (m:=Builtin.List.listSubscript? (.int k _)) (wpAny_listSubscript_int (fitsIndex_of h0 (by omega)) ?_)
 obtain⟨j,rfl⟩:=Int.eq_ofNat_of_zero_le h0
 have hj:j<ws.length:=by omega
 show wpAny _ _ ((seqItemAt (Z i) j >>= λr=>pure (r.map (j,·))) >>= _) _ _ s
 refine wpAny_bind (wpAny_bind (wpAny_seqItemAt ho rfl (wpAny_pure ?_)))
 have hx':ws.toArray[j]? = some ws[j]:=by simp[hj]
 rw[hx']
 refine wpAny_bind (m:=setSeqItemAt (Z i) j x) (wpAny_setSeqItemAt ho rfl ?_)
 exact wpAny_pure ⟨.none,rfl,wpAny_pure (hQ () _ Z F trivial (I.tH (ys:=xs.set j c) (ws:=ws.set j x) hx ho (f:=λz=>z.setIfInBounds j x) (by simp) (dw.setAt (i:=j) dc) s.toks))⟩
theorem ah.setItem{a b c:AV}{v w x:Value}(ha:Y.le (ao a v))(hb:Y.le (ao b w))(hcc:Y.le (ao c x)):ah X A Y (λ_ _=>Kn.top) (ta a b c) (setItem v w x) :=
 b8 (P:=λy a=>Y.le (ao a v)->ah X A Y (λ_ _=>Kn.top) y (PySem.setItem v w x)) (λi h=>ah.i4 (λw=>PySem.setItem v w x) hb (λk t=>ah.bw λJ Z F s I g=>ai.dO λxs hx hl=>ai.cond λq=>ai.gX ((show v = .ref (Z i)/\i<J.n from h _ _ _ g).1▸set_list I hx hl q.1 q.2 (hcc _ _ _ g))) ah.fail) (λ_=>ah.fail) ha
end
theorem fg{α:Type}{b:Bool}{o:Option α}{a:α}(h:_root_.cond b o none=some a):b=true/\o=some a:=by
 cases b with
 | true=>exact⟨rfl,h⟩
 | false=>exact aJ h
noncomputable def q9(e:Cell):Option ((Str->Int)×List (Str×AV)):=ue e (λh m=>some (h,m)) none
theorem sE{e:Cell}{q:(Str->Int)×List (Str×AV)}:q9 e=some q->e = .map q.1 q.2:=xx (P:=λ(x:Option ((Str->Int)×List (Str×AV))) e=>x=some q->e = .map q.1 q.2) (λh m e=>by rw[<- Option.some.inj e]) λh=>aJ h
noncomputable def setM(m:List (Str×AV))(k:Str)(c:AV):List (Str×AV):=m.map λq=>_root_.cond (q.1 == k) (q.1,c) q
section
variable(hs:Str->Int)
noncomputable def J6(a:AV)(k:Str):EM AV:=bT a (λi=>EM.bind (EM.aK q9 i) λq=>EM.bind (EM.cond (q.1=hs)) λ_=>EM.opt (q.2.lookup k)) EM.fail
noncomputable def J7(a:AV)(k:Str)(c:AV):EM Unit:=bT a (λi=>EM.bind (EM.aK q9 i) λq=>EM.bind (EM.aW (q.2.lookup k).isSome) λ_=>EM.turn (q.1=hs/\q.2.length<=1000) (λJ=>J.set i (.map hs (setM q.2 k c))) ()) EM.fail
noncomputable def vg(a b:AV):EM AV:=onStr b (λk=>J6 hs a k) (yF a b)
noncomputable def BF(a b c:AV):EM Unit:=onStr b (λk=>J7 hs a k c) (ta a b c)
end
noncomputable def tc(o:Obj):Option (List Value):=qI o.data (λvs k=>_root_.cond ((Nat.beq k 0 && (o.cls == .type "list")) && (o.dict.isNone && Nat.beq o.slots.size 0)) (some vs.toList) none) none
theorem w3{o:Obj}{vs:List Value}(h:tc o=some vs):o=cL vs 0:=by
 cases o with | mk c d dt sl =>
 cases dt with
 | seq items k =>
  have h0:=fg (b:=(Nat.beq k 0 && (c == .type "list")) && (d.isNone && Nat.beq sl.size 0)) (o:=some items.toList) h
  rw[Bool.and_eq_true,Bool.and_eq_true,Bool.and_eq_true] at h0
  rw[Nat.eq_of_beq_eq_true h0.1.1.1,eq_of_beq h0.1.1.2,Option.isNone_iff_eq_none.mp h0.1.2.1,Array.eq_empty_of_size_eq_zero (Nat.eq_of_beq_eq_true h0.1.2.2),<- Option.some.inj h0.2]
  rfl
 | _=>exact aJ h
noncomputable def uk(K:Frag)(v:Value):Option (List Value):=gh v (λT=>(K.lookup T).bind tc) none
theorem x6{K:Frag}{v:Value}{vs:List Value}:uk K v=some vs->∃T,v = .ref T/\K.lookup T=some (cL vs 0):=gO (P:=λ(x:Option (List Value)) v=>x=some vs->∃T,v = .ref T/\K.lookup T=some (cL vs 0)) (λT h=>(Option.bind_eq_some_iff.mp h).elim λo q=>⟨T,rfl,w3 q.2▸q.1⟩) λh=>aJ h
noncomputable def pV(o:Obj):Option (Array DictEntry):=Hi o.data (λes _=>_root_.cond ((o.cls == .type "dict") && (o.dict.isNone && Nat.beq o.slots.size 0)) (some es) none) none
theorem wY{o:Obj}{es:Array DictEntry}(h:pV o=some es):o.ExactDict/\∃k,o.data = .dict es k:=by
 cases o with | mk c d dt sl =>
 cases dt with
 | dict items k =>
  have h0:=fg (b:=(c == .type "dict") && (d.isNone && Nat.beq sl.size 0)) (o:=some items) h
  rw[Bool.and_eq_true,Bool.and_eq_true] at h0
  exact⟨⟨eq_of_beq h0.1.1,Option.isNone_iff_eq_none.mp h0.1.2.1,Array.eq_empty_of_size_eq_zero (Nat.eq_of_beq_eq_true h0.1.2.2)⟩,k,by rw[<- Option.some.inj h0.2]⟩
 | _=>exact aJ h
noncomputable def um(K:Frag)(v:Value):Option (Array DictEntry):=gh v (λT=>(K.lookup T).bind pV) none
theorem FK{K:Frag}{v:Value}{es:Array DictEntry}:um K v=some es->∃T o,v = .ref T/\K.lookup T=some o/\pV o=some es:=gO (P:=λ(x:Option (Array DictEntry)) v=>x=some es->∃T o,v = .ref T/\K.lookup T=some o/\pV o=some es) (λT h=>(Option.bind_eq_some_iff.mp h).elim λo q=>⟨T,o,rfl,q⟩) λh=>aJ h
noncomputable def CY(e:DictEntry):Str:=lL e.key (λx _=>x) Str.empty
noncomputable def vh(hs:Str->Int)(es:List DictEntry):Prop:=es.foldr (λe r=>(Value.isStrOf (CY e) e.key=true/\e.hash=hs (CY e))/\r) True
theorem x7{hs:Str->Int}:∀{es:List DictEntry},vh hs es->∀e∈es,∃k,Value.isStrOf k e.key=true/\e.hash=hs k
 | [],_,_,h=>nomatch h
 | e::es,h,x,hx=>(List.mem_cons.mp hx).elim (λq=>q▸⟨_,h.1⟩) (x7 h.2 x)
noncomputable def BG(K:Frag)(hs:Str->Int)(v:Value)(k:Str):EM AV:=EM.bind (EM.opt (um K v)) λes=>EM.bind (EM.cond (vh hs es.toList)) λ_=>EM.bind EM.cut λp=>EM.bz ((findBy Value.isStrOf es k).map iZ=some p.2) p.2
noncomputable def BH(K:Frag)(hs:Str->Int)(a b:AV):EM AV:=eM a (λv=>cM b (λk=>EM.bind (EM.opt (uk K v)) λvs=>EM.bind (EM.cond (vs.length<=1000000)) λ_=>rJ (vs.map iZ) k) (onStr b (λk=>BG K hs v k) EM.fail)) (vg hs a b)
noncomputable def strsOf(vs:List Value):Option (List Str):=vs.foldr (λv o=>lL v (λx _=>o.map (x::·)) none) (some [])
noncomputable def m7(x:Str)(v:Value):Bool:=lL v (λy _=>y == x) false
noncomputable def CZ(K:Frag)(a:AV)(v:Value):EM AV:=onStr a (λx=>EM.bind (EM.opt ((uk K v).bind strsOf)) λys=>EM.ret (.bool (ys.any λy=>y == x))) EM.fail
section
variable{P:Program}{w:World}{n:Nat}{Z:ay}{F:Fz}
theorem AE:∀{es:List DictEntry} {kvs:List (Str×Value)},qL es kvs->PySem.Pairs (strKind P w) es kvs
 | [],[],_=>.nil
 | [],_::_,h=>h.elim
 | _::_,[],h=>h.elim
 | _::_,_::_,h=>.cons h.1.1 h.1.2 (AE h.2)
theorem II{es:List DictEntry}{kvs:List (Str×Value)}(h:PySem.Pairs (strKind P w) es kvs):qL es kvs:=by
 induction h with
 | nil=>trivial
 | cons a b _ ih=>exact⟨⟨a,b⟩,ih⟩
theorem td{h:Heap}{a:Addr}{m:List (Str×AV)}(x:bH n Z F h a (.map (hashStr w) m)):∃kvs,h.DictOf (strKind P w) a kvs/\kvs.map (·.1)=m.map (·.1)/\ax n Z F (m.map (·.2)) (kvs.map (·.2)):=x.ex λo ho (q:jX n Z F (hashStr w) m o)=>by
 cases q with | mk kvs es ep hx hd hk hp hn hm d=>exact⟨kvs,⟨o,es,ep,ho,hx,hd,hk,AE hp,hn⟩,hm,d⟩
theorem yG{h:Heap}{a:Addr}{m:List (Str×AV)}{kvs:List (Str×Value)}(x:h.DictOf (strKind P w) a kvs)(hm:kvs.map (·.1)=m.map (·.1))(d:ax n Z F (m.map (·.2)) (kvs.map (·.2))):bH n Z F h a (.map (hashStr w) m) :=
 x.elim λo q=>q.elim λes q=>q.elim λep q=>⟨o,q.1,kvs,es,ep,q.2.1,q.2.2.1,q.2.2.2.1,II q.2.2.2.2.1,q.2.2.2.2.2,hm,d⟩
theorem zw{k:Str}{av:AV}:∀{m:List (Str×AV)} {kvs:List (Str×Value)},kvs.map (·.1)=m.map (·.1)->ax n Z F (m.map (·.2)) (kvs.map (·.2))->m.lookup k=some av->∃v,valueAt kvs k=some v/\Den n Z F av v
 | [],_,_,_,h=>aJ h
 | _::_,[],e,_,_=>nomatch e
 | p::m,q::kvs,e,d,h=>by
  injection e with e1 e2
  replace e1:q.1=p.1:=e1
  rw[List.lookup_cons] at h
  unfold valueAt
  rw[List.find?_cons]
  by_cases hk:k=p.1
  ·rw[show(k == p.1)=true by simpa using hk] at h
   rw[show(decide (q.1=k))=true by simp[e1,hk]]
   exact⟨q.2,rfl,Option.some.inj h▸d.1⟩
  ·rw[show(k == p.1)=false by simpa using hk] at h
   rw[show(decide (q.1=k))=false by simp[e1]; exact λx=>hk x.symm]
   exact zw e2 d.2 h
theorem AF{k:Str}:∀{m:List (Str×AV)} {kvs:List (Str×Value)},kvs.map (·.1)=m.map (·.1)->(m.lookup k).isSome=true->(kvs.any λkv=>kv.1=k)=true
 | [],_,_,h=>nomatch h
 | _::_,[],e,_=>nomatch e
 | p::m,q::kvs,e,h=>by
  injection e with e1 e2
  replace e1:q.1=p.1:=e1
  rw[List.lookup_cons] at h
  rw[List.any_cons,Bool.or_eq_true]
  by_cases hk:k=p.1
  ·exact .inl (by simp[e1,hk])
  ·rw[show(k == p.1)=false by simpa using hk] at h
   exact .inr (AF e2 h)
theorem AG{k:Str}{c:AV}{v:Value}(dc:Den n Z F c v):∀{m:List (Str×AV)} {kvs:List (Str×Value)},kvs.map (·.1)=m.map (·.1)->ax n Z F (m.map (·.2)) (kvs.map (·.2)) ->
  (kvs.map λkv=>if kv.1=k then (kv.1,v) else kv).map (·.1)=(setM m k c).map (·.1)/\ax n Z F ((setM m k c).map (·.2)) ((kvs.map λkv=>if kv.1=k then (kv.1,v) else kv).map (·.2))
 | [],[],_,d=>⟨rfl,d⟩
 | [],_::_,e,_=>nomatch e
 | _::_,[],e,_=>nomatch e
 | p::m,q::kvs,e,d=>by
  injection e with e1 e2
  replace e1:q.1=p.1:=e1
  have ih:=AG (k:=k) dc e2 d.2
  by_cases hk:q.1=k
  ·have h1:(p.1 == k)=true:=by rw[<- e1,hk]; exact beq_self_eq_true _
   simp only[setM,List.map_cons,if_pos hk,h1,cond_true] at ih ⊢
   exact⟨by rw[e1,ih.1],dc,ih.2⟩
  ·have h1:(p.1 == k)=false:=by rw[<- e1]; simpa using hk
   simp only[setM,List.map_cons,if_neg hk,h1,cond_false] at ih ⊢
   exact⟨by rw[e1,ih.1],d.1,ih.2⟩
end
section
variable{X:Ctx}{A:Around}{Z:ay}{F:Fz}{J:St}{s:Shared}{Y:Kn}{hs:Str->Int}
theorem ah.C0(hh:hs=hashStr X.w){a b:AV}{v w:Value}(ha:Y.le (ao a v))(hb:Y.le (ao b w)):ah X A Y ao (vg hs a b) (PySem.getItem v w) :=
 gb (P:=λx b=>Y.le (ao b w)->ah X A Y ao x (PySem.getItem v w)) (λk hb=>b8 (P:=λx a=>Y.le (ao a v)->ah X A Y ao x (PySem.getItem v w)) (λi ha=>ah.isStr (λw=>PySem.getItem v w) hb λt=>ah.bw λJ Z F s I g=>ai.aK sE λq hx=>ai.cond λhq=>ai.jZ λav hl=>by
  rw[hq,hh] at hx
  rw[(show v = .ref (Z i)/\i<J.n from ha _ _ _ g).1]
  refine(td (P:=X.prog) (I.cell _ _ hx)).elim λkvs q=>(zw q.2.1 q.2.2 hl).elim λu hu=>Goes.tok I λQ E hQ=>?_
  exact wpAny_getItem_of (knd:=strKind X.prog X.w) (k:=k) (strKind_is _ _ _ _) q.1.mapOf hu.1 (hQ u _ hu.2)) (λ_=>ah.fail) ha) (λhb=>ah.getItem ha hb) hb
theorem ah.L7(hh:hs=hashStr X.w){a b c:AV}{v w x:Value}(ha:Y.le (ao a v))(hb:Y.le (ao b w))(hcc:Y.le (ao c x)):ah X A Y (λ_ _=>Kn.top) (BF hs a b c) (PySem.setItem v w x) :=
 gb (P:=λy b=>Y.le (ao b w)->ah X A Y (λ_ _=>Kn.top) y (PySem.setItem v w x)) (λk hb=>b8 (P:=λy a=>Y.le (ao a v)->ah X A Y (λ_ _=>Kn.top) y (PySem.setItem v w x)) (λi ha=>ah.isStr (λw=>PySem.setItem v w x) hb λt=>ah.bw λJ Z F s I g=>ai.aK sE λq hx=>ai.aW λhl=>ai.turn λhq=>by
  rw[hq.1,hh] at hx
  rw[(show v = .ref (Z i)/\i<J.n from ha _ _ _ g).1,hh]
  refine(td (P:=X.prog) (I.cell _ _ hx)).elim λkvs p=>Goes.to λQ E hQ=>?_
  have hlen:kvs.length<=sizeLine:=by
   have:=congrArg List.length p.2.1
   rw[List.length_map,List.length_map] at this
   rw[this]
   exact Nat.le_trans hq.2 (by decide)
  refine wpAny_setItem_pairs (knd:=strKind X.prog X.w) (k:=k) (strKind_is _ _ _ _) p.1 (λh' hd' hsb=>?_) hlen
  have st:=AG (k:=k) (hcc _ _ _ g) p.2.1 p.2.2
  unfold stored at hd'
  rw[if_pos (AF p.2.1 hl)] at hd'
  exact hQ _ _ Z F trivial (I.set hx hsb.extBut (c':=.map (hashStr X.w) (setM q.2 k c)) (yG hd' st.1 st.2) (s.toks+1))) (λ_=>ah.fail) ha) (λhb=>ah.setItem ha hb hcc) hb
theorem xI{n:Nat}:∀vs:List Value,ax n Z F (vs.map iZ) vs
 | []=>(rfl:ax n Z F [] [])
 | v::vs=>ax.cons (pI v) (xI vs)
theorem ah.getD(hh:hs=hashStr X.w){u:Value}{k:Str}{w:Value}(hb:Y.le (ao (.str k) w)):ah X A Y ao (BG X.K hs u k) (PySem.getItem u w):=ah.isStr (λw=>PySem.getItem u w) hb λt=>ah.bw λJ Z F s I g=>ai.opt λes he=>ai.cond λhk=>ai.word λp=>ai.bz λhv=>by
 refine(FK he).elim λT q=>q.elim λo q=>(wY q.2.2).2.elim λep hd=>(Option.map_eq_some_iff.mp hv).elim λy hy=>Goes.tok I λQ E hQ=>?_
 rw[hh] at hk
 rw[q.1]
 exact wpAny_getItem_of (knd:=strKind X.prog X.w) (k:=k) (f:=findBy Value.isStrOf es) (strKind_is _ _ _ _) ⟨o,es,ep,I.bV _ _ q.2.1,(wY q.2.2).1,hd,λe h=>x7 hk e (by simpa using h),λ_=>rfl⟩ hy.1 (hQ y _ (hy.2▸pI y))
theorem ah.L8(hh:hs=hashStr X.w){a b:AV}{v w:Value}(ha:Y.le (ao a v))(hb:Y.le (ao b w)):ah X A Y ao (BH X.K hs a b) (PySem.getItem v w) :=
 ip (P:=λx a=>Y.le (ao a v)->ah X A Y ao x (PySem.getItem v w)) (λu ha=>ah.i4 (λw=>PySem.getItem v w) hb (λk t=>ah.bw λJ Z F s I g=>ai.opt λvs hv=>ai.cond λhl=>ai.itemAt λy h0 h1 h2=>by
  rw[show v=u from ha _ _ _ g]
  refine(x6 hv).elim λT q=>q.1▸((xI (n:=J.n) (Z:=Z) (F:=F) vs).fX h2).elim λw hw=>Goes.same I λQ E hQ=>?_
  exact wpAny_getItem_list (items:=vs.toArray) ⟨_,I.bV _ _ q.2,rfl,0,rfl⟩ h0 (by omega) (x:=w) (by simpa using hw.1) (hQ w hw.2))
  (gb (P:=λx b=>Y.le (ao b w)->ah X A Y ao x (PySem.getItem v w)) (λk hb=>ah.cz ha λe=>(show v=u from e)▸ah.getD hh hb) (λ_=>ah.fail) hb)) (λha=>ah.C0 hh ha hb) ha
theorem te{x:Str}{t:Tok}:∀{vs:List Value} {ys:List Str},strsOf vs=some ys->vs.any (m7 x)=(ys.any λy=>y == x)/\∀A:Around,∀y∈vs,SeqAt.EqAt A s y (.str x t) (m7 x y)
 | [],ys,h=>by rw[<- Option.some.inj h]; exact⟨rfl,λ_ _ h=>nomatch h⟩
 | v::vs,ys,h=>xt (P:=λ(o:Option (List Str)) v=>o=some ys->(v::vs).any (m7 x)=(ys.any λy=>y == x)/\∀A:Around,∀y∈v::vs,SeqAt.EqAt A s y (.str x t) (m7 x y)) (λz u h=>(Option.map_eq_some_iff.mp h).elim λzs q=>by
   have ih:=te (x:=x) (t:=t) q.1
   rw[<- q.2,List.any_cons,List.any_cons,ih.1]
   exact⟨rfl,λA y hy=>(List.mem_cons.mp hy).elim (λe=>by rw[e]; exact SeqAt.EqAt.str_str z u x t) (ih.2 A y)⟩) (λh=>aJ h) h
theorem ah.dj{a:AV}{v w:Value}(ha:Y.le (ao a v)):ah X A Y ao (CZ X.K a w) (compareOp .In v w) :=
 ah.i5 (λv=>compareOp .In v w) ha (λx t=>ah.opt λys h=>ah.eQ λZ F J s I g=>(Option.bind_eq_some_iff.mp h).elim λvs q=>(x6 q.1).elim λT p=>by
  have k:=te (s:=s) (x:=x) (t:=t) q.2
  rw[p.1]
  refine Goes.same I λQ E hQ=>SeqAt.in_listAt (items:=vs.toArray) (m7 x) ⟨_,I.bV _ _ p.2,rfl,0,rfl⟩ (λy hy=>k.2 _ y (List.mem_toArray.mp hy)) ?_
  rw[List.any_toArray,k.1]
  exact hQ _ rfl) ah.fail
end
noncomputable def jG{β:Type}(names:List Str)(slots ks:List (Str×β)):Bool:=ks.foldr (λq k sl=>names.contains q.1 && (sl.lookup q.1).isNone && k (sl++[q])) (λ_=>true) slots
noncomputable def je{β:Type}(slots ks:List (Str×β)):List (Str×β):=ks.foldr (λq k sl=>aQ (sl.lookup q.1) (λ_=>k sl) (k (sl++[q]))) (λsl=>sl) slots
noncomputable def gf{β:Type}(names:List Str)(dv:List β)(vs:List β)(ks:List (Str×β)):Option (List (Str×β)) :=
 _root_.cond (jG names (names.zip vs) ks && !(decide (vs.length > names.length)) && ((names.take (names.length - (dv.drop (dv.length - names.length)).length)).filter λn=>((names.zip vs++ks).lookup n).isNone).isEmpty)
  (some (names.filterMap λn=>((je (names.zip vs++ks) ((names.drop (names.length - (dv.drop (dv.length - names.length)).length)).zip (dv.drop (dv.length - names.length)))).lookup n).map (n,·))) none
section
variable{β B:Type}(f:β->B)
noncomputable def bO(l:List (Str×β)):List (Str×B):=l.map λp=>(p.1,f p.2)
theorem nN(x:Str)(l:List (Str×β)):(bO f l).lookup x=(l.lookup x).map f:=pM f x l
theorem x8(x:Str)(l:List (Str×β)):((bO f l).lookup x).isNone=(l.lookup x).isNone:=by rw[nN]; cases l.lookup x <;> rfl
theorem th(a b:List (Str×β)):bO f (a++b)=bO f a++bO f b:=List.map_append
theorem yH:∀(ns:List Str) (vs:List β),bO f (ns.zip vs)=ns.zip (vs.map f)
 | [],_=>rfl
 | _::_,[]=>rfl
 | n::ns,v::vs=>congrArg ((n,f v)::·) (yH ns vs)
theorem xJ(names:List Str):∀ks sl:List (Str×β),jG names (bO f sl) (bO f ks)=jG names sl ks
 | [],_=>rfl
 | q::ks,sl=>by
  show(names.contains q.1 && ((bO f sl).lookup q.1).isNone && jG names (bO f sl++bO f [q]) (bO f ks))=(names.contains q.1 && (sl.lookup q.1).isNone && jG names (sl++[q]) ks)
  rw[x8,<- th,xJ names ks]
theorem sQ:∀ks sl:List (Str×β),je (bO f sl) (bO f ks)=bO f (je sl ks)
 | [],_=>rfl
 | q::ks,sl=>by
  show aQ ((bO f sl).lookup q.1) (λ_=>je (bO f sl) (bO f ks)) (je (bO f sl++bO f [q]) (bO f ks))=bO f (aQ (sl.lookup q.1) (λ_=>je sl ks) (je (sl++[q]) ks))
  rw[nN,<- th,sQ ks,sQ ks]
  cases sl.lookup q.1 <;> rfl
theorem x9(l:List (Str×β)):∀ns:List Str,(ns.filterMap λn=>((bO f l).lookup n).map (n,·))=bO f (ns.filterMap λn=>(l.lookup n).map (n,·))
 | []=>rfl
 | n::ns=>by
  rw[List.filterMap_cons,List.filterMap_cons,nN,x9 l ns]
  cases l.lookup n <;> rfl
theorem xK(ns:List Str)(dv vs:List β)(ks:List (Str×β)):gf ns (dv.map f) (vs.map f) (bO f ks)=(gf ns dv vs ks).map (bO f):=by
 unfold gf
 simp only[List.length_map,<- List.map_drop,<- yH,xJ,<- th,x8,sQ,x9]
 generalize (jG ns (ns.zip vs) ks && !(decide (vs.length > ns.length)) && ((ns.take (ns.length - (dv.drop (dv.length - ns.length)).length)).filter λn=>((ns.zip vs++ks).lookup n).isNone).isEmpty)=b
 cases b <;> rfl
end
section
variable{M:Model}{A:Around}{E:Value->Shared->Prop}{s:Shared}
theorem AH{names:List Str}{B:Type}{ex:B}{f:Str×Value->List (Str×Value)×B->Sem (ForInStep (List (Str×Value)×B))}(hf:∀x st,names.contains x.1=true->(st.1.lookup x.1).isNone=true->f x st=pure (.yield (st.1++[x],st.2))):∀(ks slots:List (Str×Value)),jG names slots ks=true ->
  ∀(Q:List (Str×Value)×B->Shared->Prop),Q (slots++ks,ex) s->wpAny M A (forIn ks (slots,ex) f) Q E s
 | [],slots,_,Q,h=>by rw[List.forIn_nil]; rw[List.append_nil] at h; exact wpAny_pure h
 | q::ks,slots,hk,Q,h=>by
  have hk':(names.contains q.1 && (slots.lookup q.1).isNone && jG names (slots++[q]) ks)=true:=hk
  rw[Bool.and_eq_true,Bool.and_eq_true] at hk'
  rw[List.forIn_cons,hf _ _ hk'.1.1 hk'.1.2]
  exact wpAny_bind (wpAny_pure (AH hf ks _ hk'.2 Q (by rw[List.append_assoc]; exact h)))
theorem uo{f:Str×Value->List (Str×Value)->Sem (ForInStep (List (Str×Value)))}(hf:∀x st,f x st=if (st.lookup x.1).isNone=true then pure (.yield (st++[x])) else pure (.yield st)):∀(ks slots:List (Str×Value)),
  ∀(Q:List (Str×Value)->Shared->Prop),Q (je slots ks) s->wpAny M A (forIn ks slots f) Q E s
 | [],slots,Q,h=>by rw[List.forIn_nil]; exact wpAny_pure h
 | q::ks,slots,Q,h=>by
  have h':Q (aQ (slots.lookup q.1) (λ_=>je slots ks) (je (slots++[q]) ks)) s:=h
  rw[List.forIn_cons,hf]
  cases hl:slots.lookup q.1 with
  | none=>rw[hl] at h'; exact wpAny_bind (wpAny_pure (uo hf ks _ Q h'))
  | some w=>rw[hl] at h'; exact wpAny_bind (wpAny_pure (uo hf ks _ Q h'))
end
theorem yI{b:Bool}(h:b=true):¬((!b)=true):=by rw[h]; decide
section
variable{M:Model}{A:Around}{E:Value->Shared->Prop}{s:Shared}
theorem sR{α:Type}{c:Prop}[Decidable c]{x y:Sem α}{Q:α->Shared->Prop}(h:¬c)(hy:wpAny M A y Q E s):wpAny M A (if c then x else y) Q E s:=(if_neg h).symm▸hy
theorem wX{fd:FuncData}{names:List Str}{dv vs:List Value}{ks:List (Str×Value)}{binds:List (Str×Value)}(h1:fd.params.posonlyargs=[])(h2:fd.params.kwonlyargs=[])(h3:fd.params.vararg=none)(h4:fd.params.kwarg=none)(h5:fd.params.args.map (·.arg)=names)(hd:∀(Q:Option (Array Value)->Shared->Prop),(∀o,(o.getD #[]).toList=dv->Q o s)->wpAny M A (seqItems? fd.defaults) Q E s)(hb:gf names dv vs ks=some binds){Q:List (Str×Value)->Shared->Prop}(h:Q binds s):wpAny M A (bindArgs fd ⟨vs,ks⟩) Q E s:=by
 unfold gf at hb
 generalize hc:(jG names (names.zip vs) ks && !(decide (vs.length > names.length)) && ((names.take (names.length - (dv.drop (dv.length - names.length)).length)).filter λn=>((names.zip vs++ks).lookup n).isNone).isEmpty)=b at hb
 cases b with
 | false=>exact aJ hb
 | true =>
  rw[<- Option.some.inj hb] at h
  rw[Bool.and_eq_true,Bool.and_eq_true] at hc
  have hg':decide (vs.length > names.length)=false:=by simpa using hc.1.2
  cases fd with | mk fname qual params body scope globals closure defaults kwd doc pm ann code ct bi =>
  cases params with | mk po args va ko kdf kw dfs =>
  cases(show po=[] from h1)
  cases(show ko=[] from h2)
  cases(show va=none from h3)
  cases(show kw=none from h4)
  cases(show args.map (·.arg)=names from h5)
  unfold bindArgs
  refine wpAny_bind (AH (names:=args.map (·.arg)) (λx st hc hl=>?_) ks _ hc.1.1 _ ?_)
  ·show(if (_ || _)=true then if _ then _ else _ else _)=_
   rw[hc,Bool.true_or,if_pos rfl,if_neg (by rw[<- Option.not_isSome,Bool.not_eq_true'] at hl; rw[hl]; decide)]
  ·refine wpAny_bind (hd _ λo ho=>?_)
   subst ho
   refine sR (by show ¬ ((decide (vs.length > (args.map (·.arg)).length) && true)=true); rw[hg']; decide) ?_
   refine sR (yI hc.2) ?_
   refine wpAny_bind (uo (λx st=>rfl) _ _ _ ?_)
   refine wpAny_bind (wpAny_pure ?_)
   refine sR (yI rfl) ?_
   refine wpAny_pure ?_
   have e:=List.append_nil (args.map (·.arg))
   exact e.symm▸h
end
noncomputable abbrev DV(n:Nat)(Z:ay)(F:Fz):={ p:AV×Value // Den n Z F p.1 p.2 }
section
variable{n:Nat}{Z:ay}{F:Fz}
noncomputable def jq(p:DV n Z F):AV:=p.1.1
noncomputable def hJ(p:DV n Z F):Value:=p.1.2
inductive Pairs(n:Nat)(Z:ay)(F:Fz)(a:List (Str×AV))(v:List (Str×Value)):Prop where
 | mk (z:List (Str×DV n Z F)) (h1:a=bO jq z) (h2:v=bO hJ z)
theorem ax.sub:∀{xs:List AV} {vs:List Value},ax n Z F xs vs->∃z:List (DV n Z F),xs=z.map jq/\vs=z.map hJ
 | [],_,d=>⟨[],rfl,d⟩
 | _::_,[],d=>d.elim
 | x::xs,v::vs,d=>(ax.sub d.2).elim λz q=>⟨⟨(x,v),d.1⟩::z,congrArg (x::·) q.1,congrArg (v::·) q.2⟩
theorem Pairs.uq:∀{ks:List (Str×AV)} {kvs:List Value},ax n Z F (ks.map (·.2)) kvs->Pairs n Z F ks ((ks.map (·.1)).zip kvs)
 | [],_,_=>⟨[],rfl,rfl⟩
 | _::_,[],d=>d.elim
 | q::ks,v::kvs,d=>by cases Pairs.uq (ks:=ks) d.2 with | mk z h1 h2=>exact⟨(q.1,⟨(q.2,v),d.1⟩)::z,congrArg (q::·) h1,congrArg ((q.1,v)::·) h2⟩
theorem xj{names:List Str}{dv as:List AV}{dw vs:List Value}{ks:List (Str×AV)}{kv:List (Str×Value)}{b:List (Str×AV)}(hd:ax n Z F dv dw)(ha:ax n Z F as vs)(hk:Pairs n Z F ks kv)
  (h:gf names dv as ks=some b):∃bv,gf names dw vs kv=some bv/\Pairs n Z F b bv:=by
 refine hd.sub.elim λzd q=>ha.sub.elim λza r=>?_
 cases hk with | mk z h1 h2 =>
 rw[q.1,r.1,h1,xK] at h
 rw[q.2,r.2,h2,xK]
 exact(Option.map_eq_some_iff.mp h).elim λzb e=>⟨bO hJ zb,by rw[e.1]; rfl,zb,e.2.symm,rfl⟩
theorem Pairs.rev{a:List (Str×AV)}{v:List (Str×Value)}(p:Pairs n Z F a v):Pairs n Z F a.reverse v.reverse:=by
 cases p with | mk z h1 h2=>exact⟨z.reverse,by rw[h1]; exact List.map_reverse.symm,by rw[h2]; exact List.map_reverse.symm⟩
theorem Pairs.ns{a:List (Str×AV)}{v:List (Str×Value)}(p:Pairs n Z F a v):kB n Z F a (λx=>v.lookup x):=λx av h=>by
 cases p with | mk z h1 h2 =>
 rw[h1,nN] at h
 exact(Option.map_eq_some_iff.mp h).elim λd q=>⟨hJ d,(by rw[h2,nN,q.1]; rfl:v.lookup x=some (hJ d)),q.2▸d.2⟩
theorem Pairs.mono{n':Nat}{aq:ay}{F':Fz}(hn:n<=n')(a3:∀i,i<n->aq i=Z i)(hF:∀a o,F a=some o->F' a=some o){a:List (Str×AV)}{v:List (Str×Value)}(p:Pairs n Z F a v):Pairs n' aq F' a v:=by
 cases p with | mk z h1 h2=>exact⟨z.map λq=>(q.1,⟨q.2.1,q.2.2.mono hn a3 hF⟩),by rw[h1,bO,bO,List.map_map]; rfl,by rw[h2,bO,bO,List.map_map]; rfl⟩
theorem Pairs.loc(scope:Scope){a:List (Str×AV)}{v:List (Str×Value)}(p:Pairs n Z F a v)(h:(a.all λq=>scope.names.lookup q.1 == some .local)=true):∀x∈v,scope.names.lookup x.1=some .local:=by
 cases p with | mk z h1 h2 =>
 intro x hx
 rw[h2] at hx
 rw[h1,List.all_eq_true] at h
 exact(List.mem_map.mp hx).elim λq e=>e.2▸eq_of_beq (h (q.1,jq q.2) (List.mem_map.mpr ⟨q,e.1,rfl⟩))
end
structure cG where
 params:Arguments
 body:List Stmt
 scope:Scope
 closure:List (Str×Nat)
 dflts:List AV
 code:Value
 fz:List (Str×AV)
noncomputable def tJ(K:Frag)(v:Value):Option (List AV):=mU v (some []) <| gh v (λT=>(K.lookup T).bind λo=>qI o.data (λitems _=>some (items.toList.map iZ)) none) none
noncomputable def codeIn(K:Frag)(c:Value)(q:Str):Bool:=gh c (λc=>aQ (K.lookup c) (λo=>xW o.data (λvs=>aQ vs[1]? (λv=>lL v (λx _=>x == q) false) false) false) false) false
noncomputable def nS(K:Frag)(fd:FuncData):Option cG:=F7 fd.body (λb=>(tJ K fd.defaults).bind λds=>_root_.cond ((fd.closure.isEmpty && codeIn K fd.code fd.qualname) && ((fd.globals == mainGlobals) && (fd.builtins == builtinsNs))) (some ⟨fd.params,b,fd.scope,[],ds,fd.code,[]⟩) none) none
noncomputable def Ht(K:Frag)(o:Obj):Option cG:=tB o.data (nS K) none
noncomputable def gn(K:Frag)(f:AV):Option cG:=eM f (λv=>gh v (λa=>(K.lookup a).bind (Ht K)) none) <| m5 f (λ_ params body scope cl fz=>some ⟨params,body,scope,cl,[],.none,fz⟩) none
noncomputable def jB(p:Arguments):Bool:=(p.posonlyargs.isEmpty && p.kwonlyargs.isEmpty) && (p.vararg.isNone && p.kwarg.isNone)
noncomputable def mD(s:Scope):Bool:=(s.kind == .function) && (!s.isCoroutine && !s.isGenerator)
noncomputable def fw(names:List (Str×NameKind)):List (Str×Nat)->St->List (Str×Nat)×St:=names.foldr (λq k acc J=>_root_.cond (q.2 == .cell) (k ((q.1,J.n)::acc) (J.push (.box none))) (k acc J)) λacc J=>(acc,J)
noncomputable def qt(ae:aB)(binds:List (Str×AV)):EM Unit:=binds.foldr (λq k=>EM.bind (fe ae q.1 q.2) λ_=>k) (EM.ret ())
noncomputable def Hu(scope:Scope)(closure:List (Str×Nat))(code:Value)(fz:List (Str×AV))(binds:List (Str×AV))(N:Nat)(q:List (Str×Nat)×St):EM aB:=EM.bind (EM.upd λ_=>q.2) λ_=>EM.bind (qt ⟨scope,N,q.1,code,N,fz⟩ binds) λ_=>EM.ret ⟨scope,N,q.1,code,N,fz⟩
noncomputable def qu(scope:Scope):Bool:=scope.names.all λx=>!(x.2 == .cell)
noncomputable def iA(scope:Scope)(closure:List (Str×Nat))(code:Value)(fz:List (Str×AV))(binds:List (Str×AV)):EM aB:=_root_.cond ((binds.all λq=>scope.names.lookup q.1 == some .local) && qu scope)
 (EM.bind (EM.push (.ns binds.reverse)) λi=>EM.ret ⟨scope,i,closure,code,i,fz⟩) (EM.st λJ=>Hu scope closure code fz binds J.n (fw scope.names closure (J.push (.ns []))))
noncomputable def tK(N:Nat)(J:St)(cl:List (Str×Nat)):Option (List (Str×AV)):=cl.foldr (λq k=>_root_.cond (Nat.ble N q.2) (((J.get q.2).bind oJ).bind λo=>o.bind λv=>k.map λvs=>(q.1,v)::vs) none) (some [])
noncomputable def ur(N:Nat)(v:AV):EM AV:=m5 v (λname ps body sc cl fz=>EM.st λJ=>EM.bind (EM.opt (tK N J cl)) λvs=>EM.turn (aL N (.cY name ps body sc [] (vs++fz))/\∀p∈(J.cut N).objs,bA N p.2) (λJ=>J.cut N) (.cY name ps body sc [] (vs++fz))) EM.fail
noncomputable def IJ(N:Nat)(v:AV)(w:Wd):EM AV:=nV w (EM.st λJ=>EM.turn (aL N v/\∀p∈(J.cut N).objs,bA N p.2) (λJ=>J.cut N) v) <| mV w (EM.ret v) <| oj w (λl=>EM.bind (EM.upd λJ=>J.sel N l) λ_=>EM.ret v) <| lX w (λ_=>ur N v) EM.fail
noncomputable def gq(N:Nat)(v:AV):EM AV:=EM.bind (EM.word some) (IJ N v)
section
variable{B:Type}(fl:aU)(n:B)(r:AV->B)(d:B)
noncomputable def cj:B:=match fl with
 | .next=>n
 | .ret v=>r v
 | _=>d
noncomputable def kO:B:=match fl with
 | .ret v=>r v
 | .brk=>d
 | _=>n
end
noncomputable def L9(r:Rec)(fi:cG)(binds:List (Str×AV)):EM AV:=EM.st λJ=>EM.bind (iA fi.scope fi.closure fi.code fi.fz binds) λae=>EM.bind (r.aV ae fi.body) λfl=>cj fl (gq J.n eD) (gq J.n) EM.fail
noncomputable def fY(r:Rec)(fi:cG)(as:List AV)(ks:List (Str×AV)):EM AV:=_root_.cond (jB fi.params && mD fi.scope) (aQ (gf (fi.params.args.map λp=>p.arg) fi.dflts as ks) (L9 r fi) EM.fail) EM.fail
section
variable{X:Ctx}{A:Around}{Z:ay}{F:Fz}{J:St}{s:Shared}{Y:Kn}
theorem aN.deeper{A:Around}{n:Nat}(h:aN X A (n+1))(env:Env)(i:Nat):aN (X.wf ((env,i)::X.fr)) (A.deeper env) n :=
 ⟨Nat.lt_of_le_of_lt (by show A.depth+1+4 * n<=A.depth+4 * (n+1); omega) h.1,Nat.lt_of_le_of_lt (by show A.units+3+40 * n<=A.units+40 * (n+1); omega) h.2.1,h.2.2.1,h.2.2.2.1,by rw[Around.frames_deeper h.2.2.2.2]; rfl⟩
theorem aN.less{A:Around}{n:Nat}(h:aN X A (n+1)):aN X A n:=⟨Nat.lt_of_le_of_lt (Nat.add_le_add_left (Nat.mul_le_mul_left 4 (Nat.le_succ n)) _) h.1,Nat.lt_of_le_of_lt (Nat.add_le_add_left (Nat.mul_le_mul_left 40 (Nat.le_succ n)) _) h.2.1,h.2.2⟩
theorem nW{N i:Nat}{c:Cell}(h:(J.cut N).get i=some c):i<N/\J.get i=some c:=by
 have e:(J.cut N).get i=_:=lh (λi=>Nat.blt i N) i J.objs
 rw[e] at h
 cases q:Nat.blt i N with
 | true=>rw[q] at h; exact⟨Nat.le_of_ble_eq_true q,h⟩
 | false=>rw[q] at h; exact aJ h
theorem eO.app{m8 BI:List (Str×Addr)}{oL:List DictEntry}(h2:eO F BI oL):∀{m8:List (Str×Addr)} {oM:List DictEntry},eO F m8 oM->eO F (m8++BI) (oM++oL)
 | [],[],_=>h2
 | [],_::_,h=>h.elim
 | _::_,[],h=>h.elim
 | _::_,_::_,h=>⟨h.1,eO.app (m8:=m8) h2 h.2⟩
theorem a6.app{n:Nat}{BJ:List (Str×AV)}{oL:List DictEntry}(h2:a6 n Z F BJ oL):∀{BL:List (Str×AV)} {oM:List DictEntry},a6 n Z F BL oM->a6 n Z F (BL++BJ) (oM++oL)
 | [],_,h=>(show _=[] from h)▸h2
 | _::_,[],h=>h.elim
 | _::_,_::_,h=>⟨h.1,a6.app h2 h.2⟩
structure NU(X:Ctx)(Z:ay)(F:Fz)(N:Nat)(J:St)(s:Shared)(cl:List (Str×Nat))(vs:List (Str×AV))(F':Fz)(es:List DictEntry):Prop where
 inv:Inv X Z F' (J.cut N) s
 stp:aD Z F (J.cut N) s Z F' (J.cut N) s
 box:eO F' (b4 Z cl) es
 den:a6 J.n Z F' vs es
theorem yJ{N:Nat}(I:Inv X Z F J s)(Ic:Inv X Z F (J.cut N) s):∀(cl:List (Str×Nat)) (vs:List (Str×AV)),tK N J cl=some vs->∃F' es,NU X Z F N J s cl vs F' es
 | [],vs,h=>⟨F,[],Ic,aD.refl Z F Ic.ids,trivial,Option.some.inj h▸(a6.nil:a6 J.n Z F [] [])⟩
 | q::cl,vs,h=>by
  have h0:=fg (show _root_.cond (Nat.ble N q.2) (((J.get q.2).bind oJ).bind λo=>o.bind λv=>(tK N J cl).map λvs=>(q.1,v)::vs) none=some vs from h)
  refine(Option.bind_eq_some_iff.mp h0.2).elim λo p=>(Option.bind_eq_some_iff.mp p.1).elim λc pc=>(Option.bind_eq_some_iff.mp p.2).elim λv pv=>(Option.map_eq_some_iff.mp pv.2).elim λws pw=>?_
  refine(yJ I Ic cl ws pw.1).elim λF' r=>r.elim λes r=>?_
  have hb:=I.wt (by rw[<- sy pc.2]; exact pc.1)
  rw[pv.1] at hb
  refine hb.elim λw hw=>hw.1.elim λob hob=>hw.2.elim λu hu=>?_
  have cq:=r.inv.kh hob.1 λj d hj he=>Nat.lt_irrefl N (Nat.lt_of_le_of_lt (Nat.le_of_ble_eq_true h0.1) (I.inj j q.2 d c (nW hj).2 pc.1 he▸(nW hj).1))
  have hu2:ob.data = .cell (some u):=hu.1▸hob.2
  exact⟨_,⟨0,.str q.1 0,u⟩::es,cq.1,r.stp.trans cq.2,⟨⟨⟨ob,if_pos rfl,hu2⟩,beq_self_eq_true _⟩,r.box.mono cq.2.sub⟩,pw.2▸a6.cons (hu.2.mono (Nat.le_refl _) (λ_ _=>rfl) λa o e=>cq.2.sub _ _ (r.stp.sub _ _ e)) (r.den.mono (Nat.le_refl _) (λ_ _=>rfl) cq.2.sub)⟩
structure Got(X:Ctx)(b5:ay)(b6:Fz)(ba:St)(aS:Shared)(v:Value)(s:Shared)(Z:ay)(F:Fz)(b:AV)(J:St):Prop where
 inv:Inv X Z F J s
 stp:aD b5 b6 ba aS Z F J s
 den:Den J.n Z F b v
theorem Gj{N:Nat}{v:AV}{w:Value}{b5 aF:ay}{b6 aH:Fz}{ba:St}{aS ar:Shared}(I:Inv X aF aH J ar)(d:Den J.n aF aH v w)(st:aD b5 b6 ba aS aF aH J ar)(hN:ba.n<=N)(hfr:∀e∈X.fr,e.2<N):ai J (ur N v) λb aj=>∃bo,Got X b5 b6 ba aS w ar aF bo b aj :=
 sJ (P:=λx v=>Den J.n aF aH v w->ai J x λb aj=>∃bo,Got X b5 b6 ba aS w ar aF bo b aj) (λname ps body sc cl fz d=>ai.st (ai.opt λvs hvs=>ai.turn λu=>by
  have Ic:=I.cut (λ_ _=>rfl) u.2 hfr
  refine(yJ I Ic cl vs hvs).elim λbo r=>r.elim λes r=>⟨bo,r.inv,(st.cut hN).trans r.stp,?_⟩
  cases(show fj J.n aF aH name ps body sc cl (a6 J.n aF aH fz) w from d) with | mk a qual o pm code ct fc es0 e h hc hd hk hb hx h0 =>
  refine Den.under (n:=J.n) (Z:=aF) (λ_ _=>rfl) u.1 ?_
  exact⟨a,qual,o,pm,code,ct,b4 aF cl++fc,es++es0,e,r.stp.sub _ _ h,hc,hd,hk.mono r.stp.sub,(λp hp=>nomatch hp),eO.app (m8:=[]) (hx.mono r.stp.sub) r.box,a6.app (h0.mono (Nat.le_refl _) (λ_ _=>rfl) r.stp.sub) r.den⟩)) (λ_=>ai.fail) d
theorem ai.norm{N:Nat}{v:AV}{C:AV->St->Prop}(h1:aL N v->(∀p∈(J.cut N).objs,bA N p.2)->C v (J.cut N))(h2:C v J)(h3:∀l,C v (J.sel N l))(h4:ai J (ur N v) C):ai J (gq N v) C:=ai.word λw =>
 pJ (P:=λx _=>ai J x C) (ai.st (ai.turn λq=>h1 q.1 q.2)) (nL (P:=λx _=>ai J x C) (ai.ret h2) (xu (P:=λx _=>ai J x C) (λl=>ai.upd (ai.ret (h3 l))) (F8 (P:=λx _=>ai J x C) (λ_=>h4) ai.fail)))
theorem zx{N:Nat}{v:AV}{w:Value}{b5 aF:ay}{b6 aH:Fz}{ba:St}{aS ar:Shared}(I:Inv X aF aH J ar)(d:Den J.n aF aH v w)(st:aD b5 b6 ba aS aF aH J ar)(hN:ba.n<=N)(hfr:∀e∈X.fr,e.2<N):ai J (gq N v) λb aj=>∃bo,Got X b5 b6 ba aS w ar aF bo b aj :=
 ai.norm (λu uc=>⟨aH,I.cut (λ_ _=>rfl) uc hfr,st.cut hN,d.under (λ_ _=>rfl) u⟩) ⟨aH,I,st,d⟩ (λl=>⟨aH,I.sel l hfr,st.sel l,d⟩) (Gj I d st hN hfr)
theorem ti{M:Model}{E:Value->Shared->Prop}{Q:List (Str×Addr)->Shared->Prop}(f:Str×NameKind->List (Str×Addr)->Sem (ForInStep (List (Str×Addr))))
  (hf:∀name kind cells,f (name,kind) cells=if kind == .cell then (do let a <- alloc { cls:=.type "cell",data:=.cell none }; pure (.yield ((name,a)::cells))) else pure (.yield cells)) :
  ∀(T:List (Str×Addr)) (names:List (Str×NameKind)) (acc:List (Str×Nat)) (Z:ay) (J:St) (s:Shared),Inv X Z F J s->(∀p∈acc,p.2<J.n) ->
   (∀s' aq,Inv X aq F (fw names acc J).2 s'->aD Z F J s aq F (fw names acc J).2 s'->(∀p∈(fw names acc J).1,p.2<(fw names acc J).2.n) ->
    Q (b4 aq (fw names acc J).1++T) s')->wpAny M A (forIn names (b4 Z acc++T) f) Q E s
 | T,[],acc,Z,J,s,I,hacc,hQ=>by
  rw[List.forIn_nil]
  exact wpAny_pure (hQ s Z I (aD.refl Z F I.ids) hacc)
 | T,(n,k)::r,acc,Z,J,s,I,hacc,hQ=>by
  rw[List.forIn_cons,hf]
  have e:fw ((n,k)::r) acc J=_root_.cond (k == .cell) (fw r ((n,J.n)::acc) (J.push (.box none))) (fw r acc J):=rfl
  rw[e] at hQ
  cases hk:k == .cell with
  | false =>
   rw[hk] at hQ
   exact wpAny_bind (wpAny_pure (ti f hf T r acc Z J s I hacc hQ))
  | true =>
   rw[hk] at hQ
   refine wpAny_bind (wpAny_bind (wpAny_alloc (wpAny_pure ?_)))
   have a0:=I.push (a:=s.heap.objs.size) (c:=.box none) (h':=s.heap.push { cls:=.type "cell",data:=.cell none }) (Heap.get?_none_of_le (Nat.le_refl _)) (λb o e=>Heap.get?_push_of_some _ e) ⟨_,Heap.get?_push_size _ rfl,none,rfl,rfl⟩ s.toks
   have hm:(n,s.heap.objs.size)::b4 Z acc=b4 (Z.put J.n s.heap.objs.size) ((n,J.n)::acc):=by
    show _=(n,Z.put J.n s.heap.objs.size J.n)::b4 _ acc
    rw[ay.fK,mI λp hp=>ay.fx _ _ (hacc p hp)]
   show wpAny M A (forIn r (((n,s.heap.objs.size)::b4 Z acc)++T) f) Q E _
   rw[hm]
   refine ti f hf T r ((n,J.n)::acc) _ (J.push (.box none)) _ a0.1 (λp hp=>?_) λs' aq I' st' h=>hQ s' aq I' (a0.2.trans st') h
   cases hp with
   | head=>exact Nat.lt_succ_self _
   | tail _ hp=>exact Nat.lt_succ_of_lt (hacc p hp)
theorem Gk{E:Value->Shared->Prop}{ae:aB}{env:Env}(f:Str×Value->PUnit->Sem (ForInStep PUnit))(hf:∀n v u,f (n,v) u=(do storeName env n v; pure (.yield ⟨⟩))){Q:PUnit->Shared->Prop}:
  ∀{Z:ay} {F:Fz} (ba:St) (z:List (Str×DV ba.n Z F)) (s:Shared),Inv X Z F ba s->bx X ae env ba.n Z F->ai ba (qt ae (bO jq z)) λ_ aj=>(∀s' aq F',Inv X aq F' aj s'->aD Z F ba s aq F' aj s'->Q ⟨⟩ s')->wpAny (model X.prog X.w) A (forIn (bO hJ z) PUnit.unit f) Q E s:=by
 intro Z F ba z
 generalize hz:z.length=k
 induction k generalizing Z F ba with
 | zero =>
  cases z with
  | cons=>cases hz
  | nil=>exact λs I g=>ai.ret λhQ=>by rw[bO,List.map_nil,List.forIn_nil]; exact wpAny_pure (hQ s Z F I (aD.refl Z F I.ids))
 | succ k ih =>
  cases z with
  | nil=>cases hz
  | cons q z =>
   intro s I g ds b ev' cs e hc hQ
   refine EM.en (x:=fe ae q.1 (jq q.2)) (f:=λ_=>qt ae (bO jq z)) e hc λ_ cO c₁ c₂ dH dP a1 a2=>?_
   show wpAny _ A (forIn ((q.1,hJ q.2)::bO hJ z) PUnit.unit f) Q E s
   rw[List.forIn_cons,hf]
   refine wpAny_bind (wpAny_bind ?_)
   refine ah.store (Y:=(aA X ae env).and (ao (jq q.2) (hJ q.2))) (Kn.fst (Kn.le_refl _)) (Kn.snd (Kn.le_refl _)) _ _ _ c₁ dH a1 Z F s I ⟨g,q.2.2⟩ _ _ λ_ ar aF aH _ a0 aM=>?_
   let z':List (Str×DV cO.1.n aF aH):=z.map λq=>(q.1,⟨q.2.1,Den.step q.2.2 aM⟩)
   have h1:bO jq z=bO jq z':=by show _=List.map _ (List.map _ z); rw[List.map_map]; rfl
   have h2:bO hJ z=bO hJ z':=by show _=List.map _ (List.map _ z); rw[List.map_map]; rfl
   rw[h1] at dP
   rw[h2]
   exact wpAny_pure (ih cO.1 z' (by rw[List.length_map]; exact Nat.succ.inj hz) ar a0 ((aA X ae env).mono aM.le aM.same aM.sub g) cO.2 b ev' c₂ dP a2 λs' aq F' I' st'=>hQ s' aq F' I' (aM.trans st'))
structure InCall(X:Ctx)(b5:ay)(b6:Fz)(ba:St)(aS:Shared)(ae:aB)(J:St)(env:Env)(s:Shared)(Z:ay)(F:Fz):Prop where
 ok:bx (X.wf ((env,ba.n)::X.fr)) ae env J.n Z F
 inv:Inv (X.wf ((env,ba.n)::X.fr)) Z F J s
 stp:aD b5 b6 ba aS Z F J s
theorem zy{scope:Scope}(h:qu scope=true):∀x∈scope.names,x.2≠.cell:=λx hx e=>by
 have:=List.all_eq_true.mp h x hx
 rw[e] at this
 exact ff this
theorem Gl{E:Value->Shared->Prop}{Q:Env->Shared->Prop}{scope:Scope}{closure:List (Str×Nat)}{code:Value}{fz:List (Str×AV)}{binds:List (Str×AV)}{bv:List (Str×Value)}(I:Inv X Z F J s)(pb:Pairs J.n Z F binds bv)(hclt:∀p∈closure,p.2<J.n)(hk:scope.kind = .function){cd:Value}
  {qual:Str} {func:Option Addr} (hcode:code = .none∨cd=code/\∃q,qual=q++".<locals>."/\d7 F cd q) {fc:List (Str×Addr)} {es:List DictEntry} (hfc:eO F fc es) (hfz:a6 J.n Z F fz es):ai J (iA scope closure code fz binds) λae aj=>(∀env s' aq F',InCall X Z F J s ae aj env s' aq F'->Q env s') ->
  wpAny (model X.prog X.w) A (newFunctionEnv scope mainGlobals (b4 Z closure++fc) bv qual func cd none builtinsNs) Q E s:=by
 have hp:=ay.fK Z J.n s.heap.objs.size
 have a3:∀i,i<J.n->(Z.put J.n s.heap.objs.size) i=Z i:=λi hi=>ay.fx Z _ hi
 have hcl:b4 Z closure=b4 (Z.put J.n s.heap.objs.size) closure:=(mI λp hp=>a3 _ (hclt p hp)).symm
 refine bQ (P:=λx=>ai J x λae aj=>(∀env s' aq F',InCall X Z F J s ae aj env s' aq F'->Q env s')->wpAny (model X.prog X.w) A (newFunctionEnv scope mainGlobals (b4 Z closure++fc) bv qual func cd none builtinsNs) Q E s) (λhb=>ai.push (ai.ret λhQ=>?_)) (ai.st (ai.upd ?_))
 ·rw[Bool.and_eq_true] at hb
  refine wpAny_newFunctionEnv (zy hb.2) (pb.loc _ hb.1) (λh' hn hsb=>?_) hk
  have st:=I.push (a:=s.heap.objs.size) (c:=.ns binds.reverse) (Heap.get?_none_of_le (Nat.le_refl _)) (λbb oo ee=>hsb.extBut bb oo (Nat.ne_of_lt (Heap.lt_size ee)) (Heap.get?_push_of_some _ ee)) (.l4 hn (pb.rev.mono (Nat.le_succ _) a3 (λ_ _ e=>e)).ns) (s.toks+bv.length)
  refine hQ _ _ _ _ ⟨?_,st.1.frame hk (hp.symm▸rfl) (St.pG J _) rfl,st.2⟩
  exact⟨rfl,hk,hp.symm,Nat.lt_succ_self _,⟨fc,es,by rw[<- hcl]; rfl,hfc,hfz.mono (Nat.le_succ _) a3 λ_ _ e=>e⟩,λp hp=>Nat.lt_succ_of_lt (hclt p hp),rfl,rfl,hp.symm▸rfl,Nat.lt_succ_self _,⟨_,_,rfl,rfl⟩,hcode⟩
 ·cases pb with | mk z h1 h2 =>
  intro ds ae ev' cs e hc hQ
  refine EM.en (x:=qt ⟨scope,J.n,(fw scope.names closure (J.push (.ns []))).1,code,J.n,fz⟩ binds) (f:=λ_=>EM.ret (⟨scope,J.n,(fw scope.names closure (J.push (.ns []))).1,code,J.n,fz⟩:aB)) e hc λ_ cO c₁ c₂ dH dP a1 a2=>eN dP λi1 i2 _=>?_
  rw[<- i1,<- i2] at hQ
  simp only[newFunctionEnv,Option.isSome_none,Bool.false_eq_true,if_false]
  refine wpAny_bind (wpAny_alloc ?_)
  have aM:=I.push (a:=s.heap.objs.size) (c:=.ns []) (h':=s.heap.push { cls:=.type "frame",data:=.dict #[] }) (Heap.get?_none_of_le (Nat.le_refl _)) (λb o e=>Heap.get?_push_of_some _ e) (.l4 (Heap.Ns.new s.heap (.type "frame")) λx av h=>aJ h) s.toks
  rw[hcl]
  let env0:Env:={ scope,locals:=s.heap.objs.size,globals:=mainGlobals,cells:=[],qual,func,code:=cd,frame:=some s.heap.objs.size,builtins:=builtinsNs }
  have a0:=aM.1.frame (env:=env0) (i:=J.n) hk (by rw[hp]) (St.pG J _) rfl
  refine wpAny_bind (ti (X:=X.wf ((env0,J.n)::X.fr)) _ (λname kind cells=>by cases hkc:kind == NameKind.cell <;> simp[hkc]) fc scope.names closure _ (J.push (.ns [])) _ a0 (λp hp=>Nat.lt_succ_of_lt (hclt p hp)) λa8 bg bG bC hlt=>?_)
  have hl:bg J.n=s.heap.objs.size:=(bC.same J.n (Nat.lt_succ_self _)).trans hp
  have hlt0:=Nat.lt_of_lt_of_le (Nat.lt_succ_self J.n) bC.le
  have st12:=aM.2.trans bC
  let env1:Env:={ scope,locals:=s.heap.objs.size,globals:=mainGlobals,cells:=b4 bg (fw scope.names closure (J.push (.ns []))).1++fc,qual,func,code:=cd,frame:=some s.heap.objs.size,builtins:=builtinsNs }
  have g:bx (X.wf ((env1,J.n)::X.fr)) ⟨scope,J.n,(fw scope.names closure (J.push (.ns []))).1,code,J.n,fz⟩ env1 (fw scope.names closure (J.push (.ns []))).2.n bg F :=
   ⟨rfl,hk,hl.symm,hlt0,⟨fc,es,rfl,hfc,hfz.mono st12.le st12.same λ_ _ e=>e⟩,hlt,rfl,rfl,congrArg some hl.symm,hlt0,⟨_,_,rfl,rfl⟩,hcode⟩
  let z':List (Str×DV (fw scope.names closure (J.push (.ns []))).2.n bg F):=z.map λq=>(q.1,⟨q.2.1,Den.step q.2.2 st12⟩)
  have h1':binds=bO jq z':=h1.trans (by show _=List.map _ (List.map _ z); rw[List.map_map]; rfl)
  have h2':bv=bO hJ z':=h2.trans (by show _=List.map _ (List.map _ z); rw[List.map_map]; rfl)
  rw[h1'] at dH
  rw[h2']
  refine wpAny_bind (Gk (X:=X.wf ((env1,J.n)::X.fr)) _ (λ_ _ _=>rfl) _ z' a8 (bG.Hk hk rfl) g _ _ cO c₁ dH a1 λs' aq F' I' st'=>?_)
  exact wpAny_pure (hQ _ _ _ _ ⟨(aA (X.wf ((env1,J.n)::X.fr)) _ _).mono st'.le st'.same st'.sub g,I',st12.trans st'⟩)
structure FnAt(X:Ctx)(J:St)(Z:ay)(F:Fz)(s:Shared)(fi:cG)(fv:Value)(a:Addr)(o:Obj)(fd:FuncData):Prop where
 ref:fv = .ref a
 at_:s.heap.get? a=some o
 data:o.data = .func fd
 body:fd.body = .stmts fi.body
 params:fd.params=fi.params
 scope:fd.scope=fi.scope
 globals:fd.globals=mainGlobals
 builtins:fd.builtins=builtinsNs
 cY:∃fc es,fd.closure=b4 Z fi.closure++fc/\eO F fc es/\a6 J.n Z F fi.fz es
 lt:∀p∈fi.closure,p.2<J.n
 code:s.heap.CodeRec fd.code fd.qualname
 cd:fi.code = .none∨fd.code=fi.code/\d7 F fd.code fd.qualname
 dflts:∃dv,ax J.n Z F fi.dflts dv/\∀(M:Model) (A:Around) (E:Value->Shared->Prop) (Q:Option (Array Value)->Shared->Prop),(∀o,(o.getD #[]).toList=dv->Q o s)->wpAny M A (seqItems? fd.defaults) Q E s
theorem xk{n:Nat}:∀l:List Value,ax n Z F (l.map iZ) l
 | []=>(ax.nil:ax n Z F [] [])
 | v::l=>⟨pI v,xk l⟩
theorem Gm(I:Inv X Z F J s){v:Value}{ds:List AV}:tJ X.K v=some ds->∃dv,ax J.n Z F ds dv/\∀(M:Model) (A:Around) (E:Value->Shared->Prop) (Q:Option (Array Value)->Shared->Prop),(∀o,(o.getD #[]).toList=dv->Q o s)->wpAny M A (seqItems? v) Q E s :=
 nK (P:=λx v=>x=some ds->∃dv,ax J.n Z F ds dv/\∀(M:Model) (A:Around) (E:Value->Shared->Prop) (Q:Option (Array Value)->Shared->Prop),(∀o,(o.getD #[]).toList=dv->Q o s)->wpAny M A (seqItems? v) Q E s)
  (λh=>⟨[],Option.some.inj h▸(ax.nil:ax J.n Z F [] []),λM A E Q h=>wpAny_pure (h none rfl)⟩) <|
 gO (P:=λx v=>x=some ds->∃dv,ax J.n Z F ds dv/\∀(M:Model) (A:Around) (E:Value->Shared->Prop) (Q:Option (Array Value)->Shared->Prop),(∀o,(o.getD #[]).toList=dv->Q o s)->wpAny M A (seqItems? v) Q E s)
  (λT h=>(Option.bind_eq_some_iff.mp h).elim λo q=>by
   cases hd:o.data with
   | seq items k=>exact⟨items.toList,by rw[<- Option.some.inj ((congrArg (qI · (λitems _=>some (items.toList.map iZ)) none) hd).symm.trans q.2)]; exact xk _,λM A E Q h=>wpAny_seqItems (I.bV _ _ q.1) hd (h _ rfl)⟩
   | _=>exact aJ ((congrArg (qI · (λitems _=>some (items.toList.map iZ)) none) hd).symm.trans q.2)) λe=>aJ e
theorem zz(I:Inv X Z F J s){c:Value}{q:Str}:codeIn X.K c q=true->d7 F c q :=
 gO (P:=λb c=>b=true->d7 F c q) (λa h=>by
  cases e:X.K.lookup a with
  | none=>rw[e] at h; exact ff h
  | some o =>
   rw[e] at h
   have h':xW o.data (λvs=>aQ vs[1]? (λv=>lL v (λx _=>x == q) false) false) false=true:=h
   cases hd:o.data with
   | fields vs =>
    rw[hd] at h'
    have h2:aQ vs[1]? (λv=>lL v (λx _=>x == q) false) false=true:=h'
    cases e1:vs[1]? with
    | none=>rw[e1] at h2; exact ff h2
    | some v =>
     rw[e1] at h2
     exact xt (P:=λb v=>vs[1]? = some v->b=true->d7 F (.ref a) q) (λx t e1 h=>⟨a,o,vs,t,rfl,I.base.K _ _ e,hd,by rw[e1,eq_of_beq h]⟩) (λ_=>ff) e1 h2
   | _=>rw[hd] at h'; exact ff h') ff
theorem d7.C2(I:Inv X Z F J s){c:Value}{q:Str}(h:d7 F c q):s.heap.CodeRec c q:=by cases h with | mk c o vs t e h hd hq=>exact⟨c,o,vs,t,e,I.froz _ _ h,hd,hq⟩
theorem FL(I:Inv X Z F J s){a:Addr}{o:Obj}{fd:FuncData}{fi:cG}(ho:X.K.lookup a=some o)(hd:o.data = .func fd)(h:nS X.K fd=some fi):FnAt X J Z F s fi (.ref a) a o fd:=by
 unfold nS at h
 cases hb:fd.body with
 | expr e=>rw[hb] at h; exact aJ h
 | stmts b =>
  rw[hb] at h
  refine(Option.bind_eq_some_iff.mp (show(tJ X.K fd.defaults).bind _=some fi from h)).elim λds q=>?_
  have h2:=q.2
  generalize hc:((fd.closure.isEmpty && codeIn X.K fd.code fd.qualname) && ((fd.globals == mainGlobals) && (fd.builtins == builtinsNs)))=c at h2
  cases c with
  | false=>exact aJ h2
  | true =>
   rw[Bool.and_eq_true,Bool.and_eq_true,Bool.and_eq_true] at hc
   rw[<- Option.some.inj h2]
   exact⟨rfl,I.bV _ _ ho,hd,hb,rfl,rfl,eq_of_beq hc.2.1,eq_of_beq hc.2.2,⟨[],[],(List.isEmpty_iff.mp hc.1.1),trivial,(a6.nil:a6 J.n Z F [] [])⟩,(λp hp=>nomatch hp),(zz I hc.1.2).C2 I,.inr ⟨rfl,zz I hc.1.2⟩,Gm I q.1⟩
theorem fnAt(I:Inv X Z F J s){f:AV}{fv:Value}{fi:cG}:gn X.K f=some fi->Den J.n Z F f fv->∃a o fd,FnAt X J Z F s fi fv a o fd :=
 ip (P:=λx f=>x=some fi->Den J.n Z F f fv->∃a o fd,FnAt X J Z F s fi fv a o fd) (λv h d=>by
  rw[show fv=v from d]
  exact gO (P:=λx v=>x=some fi->∃a o fd,FnAt X J Z F s fi v a o fd) (λa h=>(Option.bind_eq_some_iff.mp h).elim λo q=>by
   cases hd:o.data with
   | func fd=>exact⟨a,o,fd,FL I q.1 hd ((congrArg (tB · (nS X.K) none) hd).symm.trans q.2)⟩
   | _=>exact aJ ((congrArg (tB · (nS X.K) none) hd).symm.trans q.2)) (λe=>aJ e) h) <|
 sJ (P:=λx f=>x=some fi->Den J.n Z F f fv->∃a o fd,FnAt X J Z F s fi fv a o fd) (λa b c e f z h d=>by
  rw[<- Option.some.inj h]
  cases(show fj J.n Z F a b c e f (a6 J.n Z F z) fv from d) with | mk a qual o pm code ct fc es e1 ha hcl hd hk hb hx h0 =>
  exact⟨a,o,_,e1,I.froz _ _ ha,hd,rfl,rfl,rfl,rfl,rfl,⟨fc,es,rfl,hx,h0⟩,hb,hk.C2 I,.inl rfl,[],rfl,λM A E Q h=>wpAny_pure (h none rfl)⟩) λe=>aJ e
noncomputable def cV(f:AV)(fv:Value)(as:List AV)(vs:List Value)(ks:List (Str×AV))(kvs:List Value):Kn:=(ao f fv).and ((bX as vs).and (bX (ks.map (·.2)) kvs))
theorem yK(hA0:A.depth<recursionLimit){f:AV}{fv:Value}{as:List AV}{vs:List Value}{ks:List (Str×AV)}{kvs:List Value}{fi:cG}(hfi:gn X.K f=some fi)(hp:(jB fi.params && mD fi.scope)=true){binds:List (Str×AV)}(hb:gf (fi.params.args.map λp=>p.arg) fi.dflts as ks=some binds)
  (I:Inv X Z F J s) (g:(cV f fv as vs ks kvs).p J.n Z F) {R:Result->Shared->Prop}:ai J (iA fi.scope fi.closure fi.code fi.fz binds) λae aj=>(∀env ar aF aH,InCall X Z F J s ae aj env ar aF aH->codeAny (model X.prog X.w) A (.func fi.body env) R ar) ->
   codeAny (model X.prog X.w) A (.call fv ⟨vs,(ks.map (·.1)).zip kvs⟩) R s:=by
 refine(fnAt I hfi g.1).elim λa q=>q.elim λo q=>q.elim λfd W=>W.dflts.elim λdv hdv=>(xj hdv.1 g.2.1 (Pairs.uq g.2.2) hb).elim λbv hbv=>?_
 rw[Bool.and_eq_true,jB,mD] at hp
 have hpp:=hp.1
 have hps:=hp.2
 rw[Bool.and_eq_true,Bool.and_eq_true,Bool.and_eq_true] at hpp
 rw[Bool.and_eq_true,Bool.and_eq_true,Bool.not_eq_true',Bool.not_eq_true'] at hps
 intro ds ae ev' cs e hc hQ
 rw[W.ref]
 refine(codeAny_call_function (fd:=fd) (body:=fi.body) hA0 W.at_ W.data (by rw[W.scope]; exact hps.2.1) (by rw[W.scope]; exact hps.2.2) W.body W.code ?_)
 refine wX (by rw[W.params]; exact List.isEmpty_iff.mp hpp.1.1) (by rw[W.params]; exact List.isEmpty_iff.mp hpp.1.2) (by rw[W.params]; exact Option.isNone_iff_eq_none.mp hpp.2.1) (by rw[W.params]; exact Option.isNone_iff_eq_none.mp hpp.2.2) (by rw[W.params]) (hdv.2 _ _ _) hbv.1 ?_
 refine W.cY.elim λfc r=>r.elim λes r=>?_
 rw[W.scope,W.globals,W.builtins,r.1]
 exact Gl I hbv.2 W.lt (eq_of_beq hps.1) (W.cd.imp id λh=>⟨h.1,_,rfl,h.2⟩) r.2.1 r.2.2 ds ae ev' cs e hc λenv ar aF aH q=>⟨q.inv.limit,hQ env ar aF aH q⟩
theorem uu{r:Rec}{n:Nat}(S:et X r n)(hA0:A.depth<recursionLimit)(hA:∀env i,aN (X.wf ((env,i)::X.fr)) (A.deeper env) n){f:AV}{fv:Value}{as:List AV}{vs:List Value}{ks:List (Str×AV)}{kvs:List Value}{fi:cG}(hfi:gn X.K f=some fi)
  (I:Inv X Z F J s) (g:(cV f fv as vs ks kvs).p J.n Z F):ai J (fY r fi as ks) λb aj=>∀R:Result->Shared->Prop,(∀v s' aq F',Got X Z F J s v s' aq F' b aj->R (.ok (.ret v)) s')->codeAny (model X.prog X.w) A (.call fv ⟨vs,(ks.map (·.1)).zip kvs⟩) R s:=by
 refine bQ (P:=λx=>ai J x λb aj=>∀R:Result->Shared->Prop,(∀v s' aq F',Got X Z F J s v s' aq F' b aj->R (.ok (.ret v)) s')->codeAny (model X.prog X.w) A (.call fv ⟨vs,(ks.map (·.1)).zip kvs⟩) R s) (λhp=>?_) ai.fail
 cases hb:gf (fi.params.args.map λp=>p.arg) fi.dflts as ks with
 | none=>exact ai.fail
 | some binds =>
  intro ds b ev' cs e hc R hQ
  refine EM.en (x:=iA fi.scope fi.closure fi.code fi.fz binds) (f:=λae=>EM.bind (r.aV ae fi.body) λfl=>cj fl (gq J.n eD) (gq J.n) EM.fail) e hc λae BM J8 _ rz e6 c0 c12=>?_
  refine EM.en e6 c12 λfl cO iD iE dH e5 c1 c2=>?_
  refine yK hA0 hfi hp hb I g ds ae BM J8 rz c0 λenv ar aF aH q=>codeAny_func ?_
  refine(S ((env,J.n)::X.fr)).aV _ (hA _ _) ae env fi.body BM fl cO iD dH c1 aF aH ar q.inv q.ok _ _ λw s' aq F' hr a0 aM=>?_
  cases fl with
  | ret v=>exact hr.elim λu q2=>(zx a0.lG q2.2 (q.stp.trans aM) (Nat.le_refl _) I.lZ cO.2 b ev' iE e5 c2).elim λbo z=>q2.1▸hQ u s' aq bo z
  | next=>exact(zx a0.lG (show Den cO.1.n aq F' eD .none from rfl) (q.stp.trans aM) (Nat.le_refl _) I.lZ cO.2 b ev' iE e5 c2).elim λbo z=>(show w = .next from hr)▸hQ _ s' aq bo z
  | brk=>exact aJ e5
  | cont=>exact aJ e5
theorem ah.fn{r:Rec}{n:Nat}(S:et X r n)(hA:aN X A (n+1)){f:AV}{fv:Value}{as:List AV}{vs:List Value}{ks:List (Str×AV)}{kvs:List Value}{fi:cG}(hfi:gn X.K f=some fi):ah X A (cV f fv as vs ks kvs) ao (fY r fi as ks) (call fv vs ((ks.map (·.1)).zip kvs)) :=
 ah.bw λJ Z F s I g=>(uu S (Nat.lt_of_le_of_lt (Nat.le_add_right _ _) hA.1) (λenv i=>hA.deeper env i) hfi I g).mono λb aj h Q E hQ=>wpAny_call (h _ λv s' aq F' q=>hQ v s' aq F' q.den q.inv q.stp)
end
end Mine
open PySem PySem.W PyProof.Rows PySem.Builtin PySem.Builtin.ObjectAttr PySem.Builtin.Getset_descriptor
namespace Mine
noncomputable def zA(K:Frag)(C:Addr):Bool:=aQ (clsIn K C) (λc=>c.mro == [.ref C,.type "Exception",.type "BaseException",.type "object"]) false
noncomputable def kj(K:Frag)(C:Addr)(x:Str):Bool:=(isBuiltin "object.__setattr__" (findIn K (.ref C) "__setattr__") && (takerIn K C x == some none)) && (hasDictIn K C && (plainOver K C || zA K C))
noncomputable def setSlot(xs:List (Option AV))(j:Nat)(v:AV):List (Option AV):=(xs++List.replicate (j+1 - xs.length) none).set j (some v)
noncomputable def AI(K:Frag)(C:Addr)(x:Str):Option (Addr×Nat):=_root_.cond (isBuiltin "object.__setattr__" (findIn K (.ref C) "__setattr__") && plainOver K C)
 ((refOf (takerIn K C x)).bind λp=>_root_.cond (typeIn K (.ref p) == some (.type "member_descriptor")) ((slotIn K p C).bind λj=>_root_.cond (Nat.blt j 1000) (some (p,j)) none) none) none
inductive IK(K:Frag)(C:Addr)(x:Str)(q:Addr×Nat):Prop where
 | mk (h1:isBuiltin "object.__setattr__" (findIn K (.ref C) "__setattr__")=true) (h2:plainOver K C=true) (h3:takerIn K C x=some (some (.ref q.1))) (h4:typeIn K (.ref q.1)=some (.type "member_descriptor")) (h5:slotIn K q.1 C=some q.2) (h6:q.2<1000)
theorem ra{c:Prop}[Decidable c]{B:Type}{P:B->Prop}{t e:B}(h1:c->P t)(h2:¬c->P e):P (ite c t e):=by
 split
 ·exact h1 ‹_›
 ·exact h2 ‹_›
theorem FN{K:Frag}{C:Addr}{x:Str}{q:Addr×Nat}(h:AI K C x=some q):IK K C x q:=by
 have h0:=fg h
 rw[Bool.and_eq_true] at h0
 refine(Option.bind_eq_some_iff.mp h0.2).elim λp h=>(Option.bind_eq_some_iff.mp (fg h.2).2).elim λj h2=>?_
 have h3:=fg h2.2
 rw[<- Option.some.inj h3.2]
 exact⟨h0.1.1,h0.1.2,yz h.1,eq_of_beq (fg h.2).1,h2.1,Nat.le_of_ble_eq_true h3.1⟩
noncomputable def sS(d:Nat)(x:Str)(v:AV):EM Unit:=EM.bind (EM.aK gS d) λm=>EM.turn (m.length<=100) (λJ=>J.set d (.dict (fb m x v))) ()
noncomputable def sT(K:Frag)(C:Addr)(i d:Nat)(xs:List (Option AV))(x:Str)(v:AV):EM Unit:=EM.bind (EM.aK gS d) λ_=>EM.bind (EM.opt (AI K C x)) λq=>EM.upd λJ=>J.set i (.sinst C d (setSlot xs q.2 v))
noncomputable def yL(K:Frag)(av:AV)(x:Str)(v:AV):EM Unit:=bT av (λi=>EM.bind (EM.cell i) λc =>
 km c (λC d=>_root_.dite (kj K C x=true) (λ_=>sS d x v) λ_=>sT K C i d [] x v) <|
 s7 c (λC d xs=>sT K C i d xs x v) <|
 mZ c (λC o t=>EM.bind (EM.aW (kj K C x)) λ_=>aQ o (λd=>sS d x v) (EM.st λJ=>EM.turn (i<J.n) (λJ=>((J.push (.dict [])).set i (.exc C (some J.n) t)).set J.n (.dict (fb [] x v))) ())) EM.fail) EM.fail
section
variable{n:Nat}{Z:ay}{F:Fz}
theorem cf.app:∀{xs ys:List (Option AV)} {vs ws:List (Option Value)},cf n Z F xs vs->cf n Z F ys ws->cf n Z F (xs++ys) (vs++ws)
 | [],_,vs,_,h,k=>by rw[show vs=[] from h]; exact k
 | _::_,_,[],_,h,_=>h.elim
 | _::_,_,_::_,_,h,k=>⟨h.1,cf.app h.2 k⟩
theorem cf.C3:∀k:Nat,cf n Z F (List.replicate k none) (List.replicate k none)
 | 0=>rfl
 | k+1=>⟨rfl,cf.C3 k⟩
theorem cf.len:∀{xs:List (Option AV)} {vs:List (Option Value)},cf n Z F xs vs->xs.length=vs.length
 | [],vs,h=>by rw[show vs=[] from h]; rfl
 | _::_,[],h=>h.elim
 | _::_,_::_,h=>congrArg Nat.succ (cf.len h.2)
theorem cf.set{x:AV}{v:Value}(d:Den n Z F x v):∀{xs:List (Option AV)} {vs:List (Option Value)} (j:Nat),cf n Z F xs vs->cf n Z F (xs.set j (some x)) (vs.set j (some v))
 | [],vs,_,h=>by rw[show vs=[] from h]; exact(rfl:([]:List (Option Value))=[])
 | _::_,[],_,h=>h.elim
 | _::_,_::_,0,h=>⟨⟨v,rfl,d⟩,h.2⟩
 | _::_,_::_,j+1,h=>⟨h.1,cf.set d j h.2⟩
theorem a6.put{x:Str}{av:AV}{v:Value}{hs:Int}{t:Tok}(dv:Den n Z F av v):∀{fs:List (Str×AV)} {es:List DictEntry},a6 n Z F fs es->a6 n Z F (fb fs x av) (putL x hs (.str x t) v es)
 | [],es,h=>by rw[show es=[] from h]; exact .cons dv .nil
 | _::_,[],h=>h.elim
 | p::fs,e::es,h=>by
  have hk:e.key.isStr x=(p.1 == x):=h.1.1.elim λt q=>by rw[q]; rfl
  unfold fb putL
  rw[hk]
  cases q:p.1 == x with
  | true=>exact⟨⟨by rw[<- eq_of_beq q]; exact h.1.1,dv⟩,h.2⟩
  | false=>exact⟨h.1,a6.put dv h.2⟩
theorem yM{x:Str}{hs:Int}{k v:Value}:∀es:List DictEntry,(putL x hs k v es).length<=es.length+1
 | []=>Nat.le_refl _
 | e::r=>by
  unfold putL
  exact ra (P:=λl=>List.length l<=(e::r).length+1) (λ_=>Nat.le_succ _) λ_=>Nat.succ_le_succ (yM r)
end
section
variable{prog:Program}{w:World}{A:Around}{K:Frag}{C x:Addr}{s:Shared}
theorem FO{R:Result->Shared->Prop}{ox:Obj}{od:Option Obj}{v:Value}{p i:Nat}(X:K.In s.heap)(I:InstAt s.heap x ox C od)(hp:slotIn K p C=some i)(hi:i<1000)
  (h:R (.ok (.ret .none)) { s with heap:=s.heap.update x (λo=>{ o with slots:=(o.slots++Array.replicate (i+1 - o.slots.size) none).setIfInBounds i (some v) }) }) :
  codeAny (model prog w) A (.call (.builtin "member_descriptor.__set__") ⟨[.ref p,.ref x,v],[]⟩) R s:=by
 obtain⟨n,tn,owner,behind,tb,d,sl,cd,ho,hc,hm,hb,rfl⟩:=slot_of X hp
 obtain⟨hh,g,dr,t,os⟩:=s
 have L0:=I.type (M:=model prog w)
 have L1:=looks_mroIn (M:=model prog w) X hm
 have L2:Looks (model prog w) hh (Slots.slotNamesOf (.ref C)) cd.slotNames:=(looks_clsIn X hc).andThen .now
 have hx:=I.at_
 dsimp only at ho hx L0 L1
 have f0:=looks_field (M:=model prog w) ho 0 (v:=.str n tn) rfl
 have f1:=looks_field (M:=model prog w) ho 1 (v:=owner) rfl
 have f3:=looks_field (M:=model prog w) ho 3 (v:=.builtin "proto.slot#set") rfl
 have f4:=looks_field (M:=model prog w) ho 4 (v:=.int behind tb) rfl
 refine codeAny_call_builtin KF.slot_mset.plain KF.entry_mset (KF.slot_mset.check _ _ _ _ _ _ _ _ ⟨_,ho,rfl⟩ (KF.args_mset _ _ _) ?_)
 unfold Builtin.«member_descriptor.__set__» Builtin.Getset_descriptor.descrSet Builtin.Getset_descriptor.descrStoreThrough Builtin.Getset_descriptor.descrCheckInstance Builtin.Getset_descriptor.descrNameAndClass isInstance
 have f5:Looks (model prog w) hh (descrItself (.ref p)) [.ref p]:=((Looks.ld (part:=none) ho).andThen .now).andThen (Looks.of_pure (by kernel_rfl))
 repeat lk
 refine⟨Code.quiet_builtin _ (by decide +kernel),codeAny_builtin KF.entry_slotset ?_⟩
 unfold Builtin.«proto.slot#set» Slots.target
 repeat lk
 rw[if_neg hb]
 refine wpAny_pure (wpAny_bind ?_)
 unfold setSlotAt
 dsimp only
 rw[if_neg (by rw[sizeLine_eq]; omega)]
 exact wpAny_updatePart hx (wpAny_pure h)
theorem Fd(self:Value):refuseLoop self "__setattr__" [.type "Exception",.type "BaseException",.type "object"]=pure ():=by kernel_rfl
theorem FP{R:Result->Shared->Prop}{ox:Obj}{od:Option Obj}{name:Str}{tk:Tok}{v:Value}(X:K.In s.heap)(I:InstAt s.heap x ox C od)
  {cd:ClassData} (hc:clsIn K C=some cd) (ho:cd.mro=[.ref C,.type "Exception",.type "BaseException",.type "object"]) (ht:takerIn K C name=some none)
  (h:∀b,wpAny (model prog w) A.in1 (storeInOwnDict (.ref x) (.ref C) (.str name tk) name v b)
   (λfin s'=>match fin with | .done f=>R (.ok f) s' | .again c'=>c'.quiet=true/\codeAny (model prog w) A c' R s') (λe s'=>R (.error e) s') s) :
  codeAny (model prog w) A (.call (.builtin "object.__setattr__") ⟨[.ref x,.str name tk,v],[]⟩) R s:=by
 have SF:=PySem.F.store_object
 have sub:Looks (model prog w) s.heap (isInstance (.ref x) (.type "object")) true:=I.type.andThen (looks_mroIn X (by unfold mroIn; rw[hc,Option.bind_some,ho,if_neg (by rintro⟨⟩)]; simp))
 refine codeAny_call_builtin SF.slot.plain SF.entry (@check_slot (model prog w) _ _ s "object.__setattr__" "object" "__setattr__" (.ref x) [.str name tk,v] [] _ SF.kind SF.split sub (SF.args (.ref x) (.str name tk) v) ?_)
 refine(Option.bind_eq_some_iff.mp ht).elim λattr q=>?_
 have hm:Looks (model prog w) s.heap (mroOf (.ref C)) cd.mro:=(looks_clsIn X hc).andThen .now
 have L3:Looks (model prog w) s.heap (storeTaker? attr) none:=by
  cases attr with
  | none=>exact .now
  | some a=>exact(Option.map_eq_some_iff.mp q.2).elim λb hb=>(looks_takesIn X hb.1).andThen (by cases b with | false=>exact .now | true=>exact aJ hb.2.symm)
 rw[osa_eq,refuse_eq]
 refine wpAny_bind (wpAny_bind (I.type.here (wpAny_bind (hm.here ?_))))
 rw[ho,refuseLoop_ref,Fd]
 exact wpAny_pure (wpAny_bind (I.type.here (wpAny_bind ((looks_findIn X q.1).here (wpAny_bind (L3.here (h _)))))))
theorem yN{ox:Obj}{od:Option Obj}{name:Str}{v:Value}{Q:Unit->Shared->Prop}{E:Value->Shared->Prop}(X:K.In s.heap)(I:InstAt s.heap x ox C od)(h:kj K C name=true)
  (H:∀b,wpAny (model prog w) A.in1 (storeInOwnDict (.ref x) (.ref C) (.str name s.toks) name v b) (λfin s'=>fin = .done (.ret .none)/\Q () s') E { s with toks:=s.toks+1 }):wpAny (model prog w) A (setAttr (.ref x) name v) Q E s:=by
 rw[kj,Bool.and_eq_true,Bool.and_eq_true,Bool.and_eq_true,Bool.or_eq_true] at h
 refine set_plain X I (mz h.1.1) ?_
 have H':∀b,wpAny (model prog w) A.in1 (storeInOwnDict (.ref x) (.ref C) (.str name s.toks) name v b) (λfin s'=>match fin with | .done f=>(λ(r:Result) s'=>match r with | .ok (.ret _)=>Q () s' | .ok _=>False | .error e=>E e s') (.ok f) s' | .again c'=>c'.quiet=true/\codeAny (model prog w) A c' (λr s'=>match r with | .ok (.ret _)=>Q () s' | .ok _=>False | .error e=>E e s') s') E { s with toks:=s.toks+1 } :=
  λb=>wpAny_mono (H b) (λfin s' z=>by rw[z.1]; exact z.2) λ_ _ z=>z
 refine h.2.2.elim (λh2=>osa_open (s:={ s with toks:=s.toks+1 }) X I h2 (eq_of_beq h.1.2) H') λh2=>?_
 unfold zA at h2
 cases e:clsIn K C with
 | none=>rw[e] at h2; exact ff h2
 | some cd=>rw[e] at h2; exact FP (s:={ s with toks:=s.toks+1 }) X I e (eq_of_beq h2) (eq_of_beq h.1.2) H'
theorem Gn{a:Addr}{da:Data}{sl:Array (Option Value)}{nm:Str}{k v:Value}{b:Bool}{Q:Fin->Shared->Prop}{E:Value->Shared->Prop}(X:K.In s.heap)(ho:s.heap.get? x=some ⟨.ref C,some a,da,sl⟩)(hC:hasDictIn K C=true)
  (h:wpAny (model prog w) A (storeInDict a k nm v) Q E s):wpAny (model prog w) A (storeInOwnDict (.ref x) (.ref C) k nm v b) Q E s:=(sC hC).elim λcd hd=>by
 refine wpAny_bind (wpAny_pure (wpAny_bind (wpAny_bind (wpAny_loadPart ho (wpAny_bind ((looks_clsIn X hd.1).here ?_))))))
 rw[hd.2]
 exact wpAny_pure (a:=some a) h
end
section
variable{X:Ctx}{A:Around}{Z:ay}{F:Fz}{J:St}{s:Shared}{Y:Kn}
theorem xM(I:Inv X Z F J s){d:Nat}{m:List (Str×AV)}{x:Str}{bv:AV}{w:Value}{tk:Tok}(hm:J.get d=some (.dict m))(hlen:m.length<=100)(db:Den J.n Z F bv w){Q:Fin->Shared->Prop}{E:Value->Shared->Prop}
  (hQ:∀s',Inv X Z F (J.set d (.dict (fb m x bv))) s'->aD Z F J s Z F (J.set d (.dict (fb m x bv))) s'->Q (.done (.ret .none)) s'):wpAny (model X.prog X.w) A (storeInDict (Z d) (.str x tk) x w) Q E s:=by
 refine(I.kY hm).elim λes q=>q.elim λk q=>?_
 have hod:=q.1
 refine wpAny_bind (wpAny_pure (wpAny_bind ?_))
 unfold nsSet
 refine wpAny_bind (wpAny_bind (wpAny_askSetting (wpAny_pure (wpAny_bind (wpAny_mkText (wpAny_bind (wpAny_loadPart hod ?_)))))))
 have c:aRefKeyMayBeTheName x es.toArray=false:=by rw[aRefKeyMayBeTheName_at,List.any_toArray,List.any_toArray,q.2.noRef,Bool.and_false]
 show wpAny _ _ (if aRefKeyMayBeTheName x es.toArray=true then _ else _) _ _ _
 rw[c]
 refine wpAny_updatePart hod ?_
 have hput:Obj.putName x (PyData.keyHash X.w.params x) (.str x s.toks) w (jd es k)=jd (putL x (PyData.keyHash X.w.params x) (.str x s.toks) w es) (putN x es k):=putName_dict ..
 have hg:(s.heap.update (Z d) (Obj.putName x (PyData.keyHash X.w.params x) (.str x s.toks) w)).get? (Z d)=some (jd (putL x (PyData.keyHash X.w.params x) (.str x s.toks) w es) (putN x es k)):=by
  rw[Heap.get?_update_self _ hod (by rw[hput]; rfl),hput]
 refine wpAny_bind (wpAny_lookBehind hg (pastItsLine_dict (by
   rw[List.size_toArray]
   exact Nat.le_trans (yM es) (Nat.succ_le_succ (Nat.le_trans (Nat.le_of_eq q.2.len) (Nat.le_trans hlen (by decide)))))) ?_)
 have r:=I.set (c':=.dict (fb m x bv)) (h':=s.heap.update (Z d) (Obj.putName x (PyData.keyHash X.w.params x) (.str x s.toks) w)) hm (λb o hb e=>by rw[Heap.get?_update_other _ _ (λe=>hb e.symm)]; exact e) (.ofD hg (q.2.put db)) (s.toks+1)
 exact wpAny_pure (hQ _ r.1 r.2)
theorem set_dict(I:Inv X Z F J s){a C:Addr}{da:Data}{sl:Array (Option Value)}{x:Str}{bv:AV}{w:Value}(db:Den J.n Z F bv w){d:Nat}(hx:s.heap.get? a=some ⟨.ref C,some (Z d),da,sl⟩)(hn:notCls ⟨.ref C,some (Z d),da,sl⟩=true)(hs:kj X.K C x=true):
  ai J (sS d x bv) λ_ aj=>Goes X A Z F J s (setAttr (.ref a) x w) (λ_=>Kn.top) aj:=ai.aK kd λm hm=>ai.turn λhl=>λQ E hQ=>by
 refine(I.kY hm).elim λes q=>q.elim λk q=>yN (od:=some (jd es k)) I.bV ⟨hx,rfl,hn,q.1⟩ hs λb=>?_
 have I1:=I.toks (s.toks+1)
 have hs':=hs
 rw[kj,Bool.and_eq_true,Bool.and_eq_true,Bool.and_eq_true] at hs'
 exact Gn I1.bV hx hs'.2.1 (xM I1 hm hl db λs' I' st'=>⟨rfl,hQ () s' Z F trivial I' ((aD.toks I.ids _).trans st')⟩)
theorem set_slot(I:Inv X Z F J s){i d:Nat}{C:Addr}{xs:List (Option AV)}{vs:List (Option Value)}{x:Str}{bv:AV}{w:Value}(db:Den J.n Z F bv w){c:Cell}(hi:J.get i=some c)(hc:isNs c=false)(ho:s.heap.get? (Z i)=some (kI C (Z d) vs))(hd:d<J.n)(dx:cf J.n Z F xs vs):
  ai J (sT X.K C i d xs x bv) λ_ aj=>Goes X A Z F J s (setAttr (.ref (Z i)) x w) (λ_=>Kn.top) aj:=ai.aK kd λm hm=>ai.opt λq hq=>ai.gX λQ E hQ=>by
 cases FN hq with | mk h1 h2 h3 h4 h5 h6 =>
 refine(I.kY hm).elim λes r=>r.elim λk r=>?_
 have O0:InstAt s.heap (Z i) (kI C (Z d) vs) C (some (jd es k)):=⟨ho,rfl,rfl,r.1⟩
 refine set_plain I.bV O0 (mz h1) (osa_descr KF.slot_mset (s:={ s with toks:=s.toks+1 }) I.bV O0 h2 h3 h4 (FO (s:={ s with toks:=s.toks+1 }) I.bV O0 h5 h6 ?_))
 have hs:(vs.toArray++Array.replicate (q.2+1 - vs.toArray.size) none).setIfInBounds q.2 (some w)=((vs++List.replicate (q.2+1 - vs.length) none).set q.2 (some w)).toArray:=by
  rw[<- List.toArray_replicate,List.append_toArray,List.setIfInBounds_toArray]; rfl
 have hup:(s.heap.update (Z i) (λo=>{ o with slots:=(o.slots++Array.replicate (q.2+1 - o.slots.size) none).setIfInBounds q.2 (some w) })).get? (Z i)=some (kI C (Z d) ((vs++List.replicate (q.2+1 - vs.length) none).set q.2 (some w))):=by
  rw[Heap.get?_update_self _ ho rfl]
  show some (⟨_,_,_,(vs.toArray++Array.replicate (q.2+1 - vs.toArray.size) none).setIfInBounds q.2 (some w)⟩:Obj)=_
  rw[hs]; rfl
 have r:=I.set (c':=.sinst C d (setSlot xs q.2 bv)) hi (h':=s.heap.update (Z i) (λo=>{ o with slots:=(o.slots++Array.replicate (q.2+1 - o.slots.size) none).setIfInBounds q.2 (some w) })) (λb o hb e=>by rw[Heap.get?_update_other _ _ (λe=>hb e.symm)]; exact e)
  ⟨_,hup,_,rfl,hd,by unfold setSlot; rw[dx.len]; exact cf.set db _ (dx.app (cf.C3 _))⟩ (s.toks+1) (by rw[hc]; rfl)
 exact hQ () _ Z F trivial r.1 r.2
theorem Hv(I:Inv X Z F J s){i:Nat}{C:Addr}{t:Option Nat}{x:Str}{bv:AV}{w:Value}(db:Den J.n Z F bv w)(hi:J.get i=some (.exc C none t))(hlt:i<J.n)(hs:kj X.K C x=true):
  Goes X A Z F J s (setAttr (.ref (Z i)) x w) (λ_=>Kn.top) (((J.push (.dict [])).set i (.exc C (some J.n) t)).set J.n (.dict (fb [] x bv))):=λQ E hQ=>by
 refine(I.iO hi).elim λvs h=>yN I.bV (od:=none) ⟨h.1,rfl,rfl,trivial⟩ hs λb=>?_
 have I1:=I.toks (s.toks+1)
 have hs':=hs
 rw[kj,Bool.and_eq_true,Bool.and_eq_true,Bool.and_eq_true] at hs'
 refine(sC hs'.2.1).elim λcd hd=>?_
 have ho:s.heap.get? (Z i)=some (eG C none vs):=h.1
 refine wpAny_bind (wpAny_pure (wpAny_bind (wpAny_bind (wpAny_loadPart ho (wpAny_bind ((looks_clsIn I1.bV hd.1).here ?_))))))
 rw[hd.2]
 refine wpAny_bind (wpAny_alloc ?_)
 have ho2:(s.heap.push { cls:=.type "dict",data:=.dict #[] }).get? (Z i)=some (eG C none vs):=Heap.get?_push_of_some _ ho
 have r2:=I1.push (a:=s.heap.objs.size) (c:=.dict []) (h':=s.heap.push { cls:=.type "dict",data:=.dict #[] }) (Heap.get?_none_of_le (Nat.le_refl _)) (λb o e=>Heap.get?_push_of_some _ e) (.ofD (vs:=[]) (k:=0) (Heap.get?_push_size _ rfl) .nil) (s.toks+1)
 refine wpAny_bind (wpAny_update ho2 ?_)
 have a3:∀j,j<J.n->(Z.put J.n s.heap.objs.size) j=Z j:=λj hj=>ay.fx Z _ hj
 have C4:=a3 i hlt
 have C5:(Z.put J.n s.heap.objs.size) J.n=s.heap.objs.size:=ay.fK _ _ _
 have hx2:(J.push (.dict [])).get i=some (.exc C none t):=(St.sr _ _ hlt).trans hi
 have r3:=r2.1.set (i:=i) (c:=.exc C none t) (c':=.exc C (some J.n) t) (h':=(s.heap.push { cls:=.type "dict",data:=.dict #[] }).update (Z i) (λo=>{ o with dict:=some s.heap.objs.size })) hx2
  (λb o hb e=>by rw[Heap.get?_update_other _ _ (λe=>hb (by rw[C4]; exact e.symm))]; exact e)
  ⟨eG C (some s.heap.objs.size) vs,by rw[C4,Heap.get?_update_self _ ho2 rfl]; rfl,vs,congrArg (λa=>eG C (some a) vs) C5.symm,by rw[xB λj hj=>a3 j (h.2.2.2 j hj)]; exact h.2.1,λj hj=>by rw[<- Option.some.inj hj]; exact Nat.lt_succ_self _,λj hj=>Nat.lt_succ_of_lt (h.2.2.2 j hj)⟩ (s.toks+1)
 refine wpAny_pure (a:=some s.heap.objs.size) ?_
 have hm3:((J.push (.dict [])).set i (.exc C (some J.n) t)).get J.n=some (.dict []):=(St.kf _ _ (Nat.ne_of_gt hlt)).trans (St.pG _ _)
 have st:=((aD.toks I.ids (s.toks+1)).trans r2.2).trans r3.2
 have:=xM (A:=A.in1) (Q:=λfin s'=>fin = .done (.ret .none)/\Q () s') (E:=E) (x:=x) (w:=w) (tk:=s.toks) (bv:=bv) r3.1 hm3 (by decide) (db.step st) λs4 I4 st4=>⟨rfl,hQ () _ _ F trivial I4 (st.trans st4)⟩
 rw[C5] at this
 exact this
theorem ah.setAttr{av bv:AV}{v w:Value}{x:Str}(ha:Y.le (ao av v))(hb:Y.le (ao bv w)):ah X A Y (λ_ _=>Kn.top) (yL X.K av x bv) (setAttr v x w):=by
 refine ah.bw λJ Z F s I g=>?_
 have db:Den J.n Z F bv w:=hb _ _ _ g
 refine b8 (P:=λ(y:EM Unit) av=>Den J.n Z F av v->ai J y λ_ aj=>Goes X A Z F J s (PySem.setAttr v x w) (λ_=>Kn.top) aj) (λi d=>?_) (λ_=>ai.fail) (ha _ _ _ g)
 rw[(dK d).1]
 refine ai.cell λc=>mB (P:=λ(y:EM Unit) c=>J.get i=some c->ai J y λ_ aj=>Goes X A Z F J s (PySem.setAttr (.ref (Z i)) x w) (λ_=>Kn.top) aj) (λC e hx=>?_) <|
  w6 (P:=λ(y:EM Unit) c=>J.get i=some c->ai J y λ_ aj=>Goes X A Z F J s (PySem.setAttr (.ref (Z i)) x w) (λ_=>Kn.top) aj) (λC e xs hx=>(I.atS hx).elim λvs h=>set_slot I db hx rfl h.1 h.2.1 h.2.2) <|
  pL (P:=λ(y:EM Unit) c=>J.get i=some c->ai J y λ_ aj=>Goes X A Z F J s (PySem.setAttr (.ref (Z i)) x w) (λ_=>Kn.top) aj) (λC o t hx=>ai.aW λhs=>?_) λ_=>ai.fail
 ·exact bc (P:=λy=>ai J y λ_ aj=>Goes X A Z F J s (PySem.setAttr (.ref (Z i)) x w) (λ_=>Kn.top) aj) (λhs=>set_dict I db (I.nE hx).1 rfl hs) λ_=>set_slot I (vs:=[]) db hx rfl (I.nE hx).1 (I.nE hx).2 rfl
 ·cases o with
  | some d=>exact(I.iO hx).elim λvs h=>set_dict I db h.1 rfl hs
  | none=>exact ai.turn (P:=i<J.n) (g:=λJ=>((J.push (.dict [])).set i (.exc C (some J.n) t)).set J.n (.dict (fb [] x bv))) (v:=()) λhl=>Hv I db hx hl hs
end
noncomputable def nT(xs:List AV):EM AV:=EM.bind (EM.cond (xs.length<=1000000)) λ_=>EM.bind (EM.push (.list xs)) λi=>EM.ret (.ref i)
noncomputable def iX(xs:List AV):EM AV:=EM.bind (EM.cond (xs.length<=1000000)) λ_=>EM.bind (EM.word some) λw=>nV w (EM.ret (.lst xs)) <| mV w (EM.bind (EM.push (.list xs)) λi=>EM.ret (.ref i)) EM.fail
noncomputable def jD(xs:List AV):EM AV:=EM.bz (xs.length<=1000000) (.tup xs)
section
variable{X:Ctx}{A:Around}{Z:ay}{F:Fz}{J:St}{s:Shared}{Y:Kn}
theorem ah.newList{xs:List AV}{vs:List Value}(h:Y.le (bX xs vs)):ah X A Y ao (nT xs) (newList vs):=ah.bw λJ Z F s I g=>ai.cond λhl=>ai.push (ai.ret (Goes.to λQ E hQ=>by
 have d:ax J.n Z F xs vs:=h _ _ _ g
 refine wpAny_newList ?_ (by rw[<- d.length]; exact Nat.le_trans hl (by decide))
 exact hQ _ _ _ F (Den.fresh Z F J _ _) (I.push (a:=s.heap.objs.size) (c:=.list xs) (h':=s.heap.push { cls:=.type "list",data:=.seq vs.toArray }) (Heap.get?_none_of_le (Nat.le_refl _)) (λb o e=>Heap.get?_push_of_some _ e)
  (.wu (vs:=vs) (k:=0) (Heap.get?_push_size _ rfl) (d.mono (Nat.le_succ _) (λi hi=>ay.fx Z _ hi) (λ_ _ e=>e))) s.toks)))
theorem ai.vW{T:Sem Value}(I:Inv X Z F J s){xs:List AV}{vs:List Value}(d:ax J.n Z F xs vs)(H:xs.length<=1000000->∀(Q:Value->Shared->Prop) (E:Value->Shared->Prop),Q (.ref s.heap.objs.size) { s with heap:=s.heap.push (cL vs 0) }->wpAny (model X.prog X.w) A T Q E s):
  ai J (iX xs) λb aj=>Goes X A Z F J s T (ao b) aj:=ai.cond λhl=>ai.word λw=>pJ (P:=λy _=>ai J y λb aj=>Goes X A Z F J s T (ao b) aj) (ai.ret (Goes.to λQ E hQ=>H hl Q E (by
  have r:=I.freeze (a:=s.heap.objs.size) (o:=cL vs 0) (h':=s.heap.push (cL vs 0)) (Heap.get?_none_of_le (Nat.le_refl _)) (λb o e=>Heap.get?_push_of_some _ e) (Heap.get?_push_size _ rfl) s.toks
  exact hQ _ _ Z _ (.lst _ _ _ 0 (if_pos rfl) (ax.step d r.2)) r))) <|
 nL (P:=λy _=>ai J y λb aj=>Goes X A Z F J s T (ao b) aj) (ai.push (ai.ret (Goes.to λQ E hQ=>H hl Q E (hQ _ _ _ F (Den.fresh Z F J _ _) (I.push (a:=s.heap.objs.size) (c:=.list xs) (h':=s.heap.push (cL vs 0)) (Heap.get?_none_of_le (Nat.le_refl _)) (λb o e=>Heap.get?_push_of_some _ e)
  (.wu (vs:=vs) (k:=0) (Heap.get?_push_size _ rfl) (d.mono (Nat.le_succ _) (λi hi=>ay.fx Z _ hi) (λ_ _ e=>e))) s.toks))))) ai.fail
theorem ah.Gp{xs:List AV}{vs:List Value}(h:Y.le (bX xs vs)):ah X A Y ao (iX xs) (PySem.newList vs):=ah.bw λJ Z F s I g=>ai.vW I (h _ _ _ g) λhl Q E hQ=>wpAny_newList hQ (by rw[<- (show ax J.n Z F xs vs from h _ _ _ g).length]; exact Nat.le_trans hl (by decide))
theorem ah.newTuple{xs:List AV}{vs:List Value}(h:Y.le (bX xs vs)):ah X A Y ao (jD xs) (newTuple vs):=ah.bw λJ Z F s I g=>ai.bz λhl=>Goes.to λQ E hQ=>by
 have d:ax J.n Z F xs vs:=h _ _ _ g
 refine wpAny_newTuple ?_ (by rw[<- d.length]; exact Nat.le_trans hl (by decide))
 have r:=I.freeze (a:=s.heap.objs.size) (o:=oTup vs 0) (h':=s.heap.push { cls:=.type "tuple",data:=.seq vs.toArray }) (Heap.get?_none_of_le (Nat.le_refl _)) (λb o e=>Heap.get?_push_of_some _ e) (Heap.get?_push_size _ rfl) s.toks
 exact hQ _ _ Z _ (.tup _ xs vs 0 (if_pos rfl) (d.step r.2)) r
end
noncomputable def tj(sl:Array (Option Value)):Bool:=(sl.size == 6) && (sl[4]? == some (some (.builtin "Exception.__new__")))
noncomputable def jF(K:Frag)(C:Addr):Bool:=aQ (K.lookup C) (λo=>aQ (clsIn K C) (λcd=>((o.cls == .type "type") && (cd.mro == [.ref C,.type "Exception",.type "BaseException",.type "object"])) && (!cd.hasDel && tj o.slots)) false) false
theorem m9{α:Type}{n:Nat}{P:List α->Prop}(H:∀a r,r.length=n->P (a::r)):∀l:List α,l.length=n+1->P l
 | [],h=>nomatch h
 | a::r,h=>H a r (Nat.succ.inj h)
theorem J9{α:Type}{P:List α->Prop}(H:P []):∀l:List α,l.length=0->P l
 | [],_=>H
 | _::_,h=>nomatch h
inductive ExcAt(h:Heap)(C:Addr):Prop where
 | mk (nm:Str) (q:Str) (N:Addr) (bs:List Value) (hdct:Bool) (sn:List Str) (sub:List Value) (ab:Bool) (col:Option Bool) (dd:Option Addr) (k0 k1 k2 k3 k5:Option Value) (e:h.get? C=some (excClassObj nm q C N bs [.type "Exception",.type "BaseException",.type "object"] hdct sn sub ab col dd k0 k1 k2 k3 k5 "Exception.__new__"))
theorem xl{K:Frag}{h:Heap}(X:K.In h){C:Addr}(e:jF K C=true):ExcAt h C:=by
 unfold jF clsIn at e
 cases ho:K.lookup C with
 | none=>rw[ho] at e; exact ff e
 | some o =>
 rw[ho] at e
 cases o with | mk cls dd da sl =>
 cases da with
 | cls cd =>
  have e':(((cls == .type "type") && (cd.mro == [.ref C,.type "Exception",.type "BaseException",.type "object"])) && (!cd.hasDel && tj sl))=true:=e
  rw[Bool.and_eq_true,Bool.and_eq_true,Bool.and_eq_true,tj,Bool.and_eq_true,Bool.not_eq_true'] at e'
  cases cd with | mk nm bs mro N q hdct sn sub ab col hdel =>
  cases sl with | mk l =>
  refine m9 (P:=λl=>K.lookup C=some ⟨cls,dd,.cls _,⟨l⟩⟩->(⟨l⟩:Array (Option Value))[4]? = some (some (.builtin "Exception.__new__"))->ExcAt h C) (λk0=>m9 λk1=>m9 λk2=>m9 λk3=>m9 λk4=>m9 λk5=>J9 λho e4=>?_) l (eq_of_beq e'.2.2.1) ho (eq_of_beq e'.2.2.2)
  have e1:cls=_:=eq_of_beq e'.1.1
  have e2:mro=_:=eq_of_beq e'.1.2
  have e3:hdel=false:=e'.2.1
  have e4':k4=some (.builtin "Exception.__new__"):=Option.some.inj e4
  rw[e1,e2,e3,e4'] at ho
  exact⟨nm,q,N,bs,hdct,sn,sub,ab,col,dd,k0,k1,k2,k3,k5,X _ _ ho⟩
 | _=>exact ff e
noncomputable def jj(t:Addr):Array Value:=#[.ref t,.none,.none,.none,.bool false,.none]
section
variable{prog:Program}{w:World}{A:Around}{K:Frag}{C fI:Addr}{R:Result->Shared->Prop}{h:Heap}{g:Array GenState}{d:Drawn}{t:Nat}{os:OsState}
theorem new_exc{rest:List Value}(X:K.In h)(hm:jF K C=true)(hi:findIn K (.ref C) "__init__" = some (some (.ref fI)))(hf:typeIn K (.ref fI)=some (.type "function"))(hrest:rest.length<=sizeLine)
  (hq:codeAny (model prog w) (A.under (.builtin "type.__call__" ⟨.ref C::rest,[]⟩)) (.call (.ref fI) ⟨.ref (h.objs.size+1)::rest,[]⟩) (InitBack (h.objs.size+1) R) ⟨(h.push (oTup rest 0)).push (eG C none (jj h.objs.size)),g,d,t,os⟩) :
  codeAny (model prog w) A (.call (.ref C) ⟨rest,[]⟩) R ⟨h,g,d,t,os⟩:=by
 cases xl X hm with | mk nm q N bs hdct sn sub ab col dd k0 k1 k2 k3 k5 hC =>
 have F:=PySem.F.excBase_Exception
 have f1:=tc_lookup
 have f2:=PySem.tc_bind (.ref C)
 have hT:(⟨h,g,d,t,os⟩:Shared).TypeIs (.ref C) "type":=⟨_,hC,rfl⟩
 refine codeAny_of_tree ?_
 show wpAny _ _ (callAny (.ref C) _) _ _ _
 repeat (any_goals (first | assumption | with_reducible refine wpAny_loadPart_at hC ?_ | wp_step))
 refine⟨rfl,?_⟩
 refine codeAny_call_builtin_at (Code.quiet_builtin _ (by decide +kernel)) entry_typeCall (wpAny_check_type_call_sub hC ?_)
 repeat (first | with_reducible refine wpAny_loadPart_at hC ?_ | with_reducible refine wpAny_madeBy_exc hC ?_ | wp_step)
 refine codeAny_call_builtin_code (Code.quiet_builtin _ F.quiet) (wpAny_check_new_sub F hC ?_)
 refine codeAny_exc_new_sub F hC ?_ hrest
 show wpAny _ _ _ _ _ _
 have k:∀b o,h.get? b=some o->((h.push (oTup rest 0)).push (eG C none (jj h.objs.size))).get? b=some o:=λb o e=>Heap.get?_push_of_some _ (Heap.get?_push_of_some _ e)
 have Ka:=k _ _ hC
 have hget:((h.push (oTup rest 0)).push (eG C none (jj h.objs.size))).get? (h.objs.size+1)=some (eG C none (jj h.objs.size)):=by heap_get
 have X':K.In ((h.push (oTup rest 0)).push (eG C none (jj h.objs.size))):=λa o e=>k a o (X a o e)
 have hcC:(Value.ref C::[.type "Exception",.type "BaseException",.type "object"]).contains (.ref C)=true:=by simp
 show wpAny _ _ _ _ _ ⟨(h.push (oTup rest 0)).push (eG C none (jj h.objs.size)),g,d,t,os⟩
 have L0:Looks (model prog w) ((h.push (oTup rest 0)).push (eG C none (jj h.objs.size))) (typeOf (.ref (h.objs.size+1))) (.ref C):=(Looks.ld hget).andThen .now
 have L1:Looks (model prog w) ((h.push (oTup rest 0)).push (eG C none (jj h.objs.size))) (isSubtype (.ref C) (.ref C)) true:=λA Q E s k q=>by
  cases s
  refine wpAny_isSubtype_exc (k _ _ Ka) ?_
  rw[hcC]; exact q
 have L2:Looks (model prog w) ((h.push (oTup rest 0)).push (eG C none (jj h.objs.size))) (isInstance (.ref (h.objs.size+1)) (.ref C)) true:=L0.andThen L1
 have L3:=looks_findIn (M:=model prog w) X' hi
 refine wpAny_bind (L2.at ?_)
 rw[if_neg (by decide)]
 refine wpAny_bind (wpAny_holding ?_)
 unfold callSpecial? specialOf
 refine wpAny_bind (wpAny_bind (L0.at (L3.at ?_)))
 refine wpAny_holding (wpAny_bind ((bind_fn X' _ hf).at ?_))
 refine wpAny_bind (wpAny_call (codeAny_mono hq λr s' z=>?_))
 rcases r with e | (v | _ | _ | _) <;> first | exact z | exact z.elim | skip
 obtain⟨rfl,z⟩:=z
 exact wpAny_pure (wpAny_pure z)
end
noncomputable def nX(a b:Int):EM AV:=EM.bind (EM.push (.rng a b 1)) λi=>EM.ret (.ref i)
noncomputable def AJ(as:List AV):EM AV:=dA as (λb=>cM b (nX 0) EM.fail) <| kW as (λa b=>cM a (λa=>cM b (nX a) EM.fail) EM.fail) EM.fail
noncomputable def BN(as:List AV):EM AV:=dA as (λa=>bT a (λl=>EM.bind (EM.aK iz l) λ_=>EM.bind (EM.push (.wl l 0)) λi=>EM.bind (EM.push (.enum i 0)) λj=>EM.ret (.ref j)) <| jP a (λxs=>EM.bind (EM.push (.fit xs 0)) λi=>EM.bind (EM.push (.enum i 0)) λj=>EM.ret (.ref j)) <| onStr a (λx=>EM.bind (EM.push (.sit x 0)) λi=>EM.bind (EM.push (.enum i 0)) λj=>EM.ret (.ref j)) EM.fail) EM.fail
noncomputable def ya(T:String)(as:List AV):EM AV:=_root_.cond (T == "range") (AJ as) (_root_.cond (T == "enumerate") (BN as) EM.fail)
section
variable{X:Ctx}{A:Around}{Z:ay}{F:Fz}{J:St}{s:Shared}{Y:Kn}
noncomputable def bI(X:Ctx)(A:Around)(f:Value)(x:EM AV)(as:List AV):Prop:=∀(Y:Kn) (vs:List Value),Y.le (bX as vs)->ah X A Y ao x (call f vs)
theorem bI.fail{f:Value}{as:List AV}:bI X A f EM.fail as:=λ_ _ _=>ah.fail
theorem bI.of{f:Value}{as:List AV}{x:EM AV}(h:∀J Z F s vs,Inv X Z F J s->ax J.n Z F as vs->ai J x λb aj=>Goes X A Z F J s (call f vs) (ao b) aj):bI X A f x as:=λ_ _ hv=>ah.bw λJ Z F s I g=>h J Z F s _ I (hv _ _ _ g)
theorem xN(I:Inv X Z F J s){a b:Int}{t u v:Tok}{k:Nat}{T:Sem Value}(h:∀(Q:Value->Shared->Prop) (E:Value->Shared->Prop),Q (.ref s.heap.objs.size) { s with heap:=s.heap.push { cls:=.type "range",data:=.fields #[.int a t,.int b u,.int 1 v] },toks:=k }->wpAny (model X.prog X.w) A T Q E s):
  ai J (nX a b) λc aj=>Goes X A Z F J s T (ao c) aj:=ai.push (ai.ret (Goes.to λQ E hQ=>h Q E (hQ _ _ _ F (Den.fresh Z F J _ _) (I.push (a:=s.heap.objs.size) (c:=.rng a b 1) (h':=s.heap.push { cls:=.type "range",data:=.fields #[.int a t,.int b u,.int 1 v] }) (Heap.get?_none_of_le (Nat.le_refl _)) (λb o e=>Heap.get?_push_of_some _ e)
    ⟨_,Heap.get?_push_size _ rfl,t,u,v,rfl⟩ k))))
theorem ah.range(as:List AV):bI X A (.type "range") (AJ as) as:=by
 refine dC (P:=bI X A (.type "range")) (λb=>?_) (lF (P:=bI X A (.type "range")) (λa b=>?_) λ_=>bI.fail)
 ·exact fJ (P:=λx b=>bI X A (.type "range") x [b]) (λb=>bI.of λJ Z F s vs I d=>eE (P:=λvs=>ai J (nX 0 b) λc aj=>Goes X A Z F J s (call (.type "range") vs) (ao c) aj) d λv (dv:∃t,v = .int b t)=>dv.elim λt e=>e▸xN I λQ E h=>call_range_1 h) bI.fail
 ·exact fJ (P:=λx a=>bI X A (.type "range") x [a,b]) (λa=>fJ (P:=λx b=>bI X A (.type "range") x [.int a,b]) (λb=>bI.of λJ Z F s vs I d=>jO (P:=λvs=>ai J (nX a b) λc aj=>Goes X A Z F J s (call (.type "range") vs) (ao c) aj) d λu v (du:∃t,u = .int a t) (dv:∃t,v = .int b t)=>du.elim λt e=>dv.elim λt' e'=>e▸e'▸xN I λQ E h=>call_range_2 h) bI.fail) bI.fail
theorem tm(I:Inv X Z F J s){c:Cell}{h':Heap}(hit:bH (J.n+1) (Z.put J.n s.heap.objs.size) F h' s.heap.objs.size c)(he:IsEnum h' (s.heap.objs.size+1) s.heap.objs.size 0 .none)(hk:∀b o,s.heap.get? b=some o->h'.get? b=some o)
  {Q:Value->Shared->Prop} (hQ:∀v s' aq F',Den ((J.push c).push (.enum J.n 0)).n aq F' (.ref (J.n+1)) v->Inv X aq F' ((J.push c).push (.enum J.n 0)) s'/\aD Z F J s aq F' ((J.push c).push (.enum J.n 0)) s'->Q v s'):Q (.ref (s.heap.objs.size+1)) { s with heap:=h' }:=by
 let cX:Heap:=h'.update (s.heap.objs.size+1) (λo=>{ o with data:=.freed })
 have vi:∀b,b≠s.heap.objs.size+1->cX.get? b=h'.get? b:=λb hb=>Heap.get?_update_other _ _ (Ne.symm hb)
 have BO:cX.get? (s.heap.objs.size+1)=none:=by
  cases q:cX.get? (s.heap.objs.size+1) with
  | none=>rfl
  | some o =>
   have q1:=Heap.get?_some_iff.mp q
   have:cX.objs[s.heap.objs.size+1]? = h'.objs[s.heap.objs.size+1]?.map (λo=>{ o with data:=.freed }):=by
    show(Heap.update h' (s.heap.objs.size+1) _).objs[s.heap.objs.size+1]? = _
    cases h'; simp only[Heap.update,Array.getElem?_modify,if_true]
   rw[this,(Heap.get?_some_iff.mp he).1] at q1
   rw[<- Option.some.inj q1.1] at q1
   exact ff q1.2.symm
 have dR:=I.push (a:=s.heap.objs.size) (c:=c) (h':=cX) (Heap.get?_none_of_le (Nat.le_refl _)) (λb o e=>by rw[vi b (Nat.ne_of_lt (Nat.lt_succ_of_lt (Heap.lt_size e)))]; exact hk b o e)
  (hit.keep λo e=>by rw[vi _ (Nat.ne_of_lt (Nat.lt_succ_self _))]; exact e) s.toks
 have a3:((Z.put J.n s.heap.objs.size).put (J.n+1) (s.heap.objs.size+1)) J.n=s.heap.objs.size:=by rw[ay.fx _ _ (Nat.lt_succ_self _),ay.fK]
 have cq:=dR.1.push (a:=s.heap.objs.size+1) (c:=.enum J.n 0) (h':=h') BO (λb o e=>by
   have e':cX.get? b=some o:=e
   by_cases q:b=s.heap.objs.size+1
   ·rw[q,BO] at e'; exact aJ e'
   ·rw[<- vi b q]; exact e') ⟨_,he,.none,by show _=({ cls:=.type "enumerate",dict:=none,data:=.fields #[.none,.bool false,.ref (((Z.put J.n s.heap.objs.size).put (J.n+1) (s.heap.objs.size+1)) J.n),rawInt ((0:Nat):Int),.none,.none],slots:=#[] }:Obj)/\J.n<J.n+1+1; rw[a3]; exact⟨rfl,Nat.lt_succ_of_lt (Nat.lt_succ_self _)⟩⟩ s.toks
 exact hQ _ _ _ F (Den.fresh (Z.put J.n s.heap.objs.size) F (J.push c) _ _) ⟨cq.1,dR.2.trans cq.2⟩
theorem ah.enumerate(as:List AV):bI X A (.type "enumerate") (BN as) as:=by
 refine dC (P:=bI X A (.type "enumerate")) (λa=>?_) bI.fail
 refine b8 (P:=λx a=>bI X A (.type "enumerate") x [a]) (λl=>?_) ?_
 ·refine bI.of λJ Z F s vs I d=>ai.aK jz λxs hx=>ai.push (ai.push (ai.ret ?_))
  refine eE (P:=λvs=>Goes X A Z F J s (call (.type "enumerate") vs) (ao (.ref (J.n+1))) ((J.push (.wl l 0)).push (.enum J.n 0))) d λv (dv:v = .ref (Z l)/\l<J.n)=>?_
  rw[dv.1]
  exact(I.cA hx).elim λws q=>q.elim λk q=>Goes.to λQ E hQ=>call_enumerate_list (items:=ws.toArray) ⟨_,q.1,rfl,k,rfl⟩ λh' he hit hsz hk=>tm I (c:=.wl l 0) (.CR (by rw[ay.fx Z _ dv.2]; exact hit) (Nat.lt_succ_of_lt dv.2)) he hk hQ
 refine ly (P:=λx a=>bI X A (.type "enumerate") x [a]) (λxs=>bI.of λJ Z F s vs I d=>ai.push (ai.push (ai.ret ?_))) ?_
 ·refine eE (P:=λvs=>Goes X A Z F J s (call (.type "enumerate") vs) (ao (.ref (J.n+1))) ((J.push (.fit xs 0)).push (.enum J.n 0))) d λv dv=>?_
  cases iu dv with | mk a ws k e hF hs =>
  rw[e]
  exact Goes.to λQ E hQ=>call_enumerate_list (items:=ws.toArray) ⟨_,I.froz _ _ hF,rfl,k,rfl⟩ λh' he hit hsz hk=>tm I (c:=.fit xs 0) (.qZ hit hF (hs.mono (Nat.le_succ _) (λi hi=>ay.fx Z _ hi) λ_ _ e=>e)) he hk hQ
 refine gb (P:=λx a=>bI X A (.type "enumerate") x [a]) (λx=>bI.of λJ Z F s vs I d=>ai.push (ai.push (ai.ret ?_))) bI.fail
 refine eE (P:=λvs=>Goes X A Z F J s (call (.type "enumerate") vs) (ao (.ref (J.n+1))) ((J.push (.sit x 0)).push (.enum J.n 0))) d λv (dv:∃t,v = .str x t)=>dv.elim λt e=>?_
 rw[e]
 exact Goes.to λQ E hQ=>call_enumerate_str λh' he hit hsz hk=>tm I (c:=.sit x 0) (hit.elim λo q=>⟨o,q.1,q.2.1,t,q.2.2⟩) he hk hQ
theorem ah.typeCall{T:String}(as:List AV):bI X A (.type T) (ya T as) as :=
 bQ (P:=λx=>bI X A (.type T) x as) (λh=>by rw[eq_of_beq h]; exact ah.range as) (bQ (P:=λx=>bI X A (.type T) x as) (λh=>by rw[eq_of_beq h]; exact ah.enumerate as) bI.fail)
end
noncomputable def boolsOf(xs:List AV):Option (List Bool):=xs.foldr (λa o=>oh a (λb=>o.map (b::·)) none) (some [])
noncomputable def uv(bs:List Bool):Str:=PyData.shown (.list (bs.map .bool))
noncomputable def BP(as:List AV):EM AV:=dA as (λa=>bT a (λi=>EM.bind (dD i) λxs=>EM.bind (EM.opt (boolsOf xs)) λbs=>EM.ret (.bool (bs.all id))) EM.fail) EM.fail
noncomputable def AK(as:List AV):EM AV:=dA as (λa=>bT a (λi=>EM.bind (dD i) λxs=>EM.bind (EM.opt (boolsOf xs)) λbs=>EM.bz ((uv bs).length<=1000000) (.str (uv bs))) EM.fail) EM.fail
noncomputable def BQ(as:List AV):EM AV:=dA as (λa=>bT a (λl=>EM.bind (EM.aK iz l) λxs=>EM.bind (EM.push (.rev l ((xs.length:Int) - 1))) λj=>EM.ret (.ref j)) EM.fail) EM.fail
noncomputable def sF(T:String)(as:List AV):EM AV:=_root_.cond (T == "reversed") (BQ as) (ya T as)
section
variable{X:Ctx}{A:Around}{Z:ay}{F:Fz}{J:St}{s:Shared}{Y:Kn}
theorem sU{n:Nat}:∀{xs:List AV} {vs:List Value} {bs:List Bool},boolsOf xs=some bs->ax n Z F xs vs->vs=bs.map Value.bool
 | [],vs,bs,h,d=>by rw[show vs=[] from d,<- Option.some.inj h]; rfl
 | _::_,[],_,_,d=>d.elim
 | a::xs,v::vs,bs,h,d=>xq (P:=λ(o:Option (List Bool)) a=>o=some bs->Den n Z F a v->v::vs=bs.map Value.bool) (λb h (dv:v = .bool b)=>(Option.map_eq_some_iff.mp h).elim λcs q=>by rw[<- q.2,dv,sU q.1 d.2]; rfl) (λh=>aJ h) h d.1
theorem range_all(bs:List Bool):(List.range bs.length).all (λi=>bs.getD i false)=bs.all id:=by
 rw[Bool.eq_iff_iff,List.all_eq_true,List.all_eq_true]
 constructor
 ·intro h b hb
  obtain⟨i,hi,e⟩:=List.mem_iff_getElem.mp hb
  have:=h i (List.mem_range.mpr hi)
  rwa [List.getD_eq_getElem?_getD,List.getElem?_eq_getElem hi,Option.getD_some,e] at this
 ·intro h i hi
  have hi':=List.mem_range.mp hi
  rw[List.getD_eq_getElem?_getD,List.getElem?_eq_getElem hi',Option.getD_some]
  exact h _ (List.getElem_mem hi')
theorem AL{h:Heap}:∀bs:List Bool,ReadsAll h (bs.map Value.bool) (bs.map PyData.bool) []
 | []=>.nil
 | b::bs=>.cons (as:=[]) (bs:=[]) (.bool b) (AL bs)
theorem BR:∀bs:List Bool,PyData.showableAll (bs.map PyData.bool)=true/\PyData.hasDictAll (bs.map PyData.bool)=false/\PyData.depthAll (bs.map PyData.bool)=0
 | []=>⟨rfl,rfl,rfl⟩
 | b::bs=>by
  have ih:=BR bs
  rw[List.map_cons]
  unfold PyData.showableAll PyData.hasDictAll PyData.depthAll
  rw[ih.1,ih.2.1,ih.2.2]
  exact⟨rfl,rfl,rfl⟩
theorem ah.allB(hA:A.handled=none)(as:List AV):aI X A "all" (BP as) as:=by
 refine dC (P:=aI X A "all") (λa=>?_) aI.fail
 refine b8 (P:=λx a=>aI X A "all" x [a]) (λl=>?_) aI.fail
 refine aI.of λJ Z F s vs I d=>ai.dO λxs hx hl=>ai.opt λbs hb=>ai.ret ?_
 refine eE (P:=λvs=>Goes X A Z F J s (call (.builtin "all") vs) (ao (.bool (bs.all id))) J) d λv (dv:v = .ref (Z l)/\l<J.n)=>?_
 rw[dv.1]
 refine(I.cA hx).elim λws q=>q.elim λk q=>Goes.to λQ E hQ=>?_
 have hw:=sU hb q.2
 have hlt:=Heap.lt_size q.1
 refine call_all_walk (wpAny_pyIter_list (items:=ws.toArray) ⟨_,q.1,rfl,k,rfl⟩ ⟨_,_,_,_,_,_,λi=>bs.getD i false,rfl,Walks.list (A:=A.in1) hA s.heap.objs.size (Z l) (Nat.ne_of_lt hlt) ws.toArray,
  ⟨⟨_,Heap.get?_push_size _ rfl,rfl,rfl⟩,⟨_,Heap.get?_push_of_some _ q.1,rfl,k,rfl⟩⟩,λi v s Q E hi hQ=>?_,λh' tk hk=>?_⟩)
 ·have hi':(bs.map Value.bool)[i]? = some v:=by rw[<- hw]; simpa using hi
  rw[List.getElem?_map] at hi'
  obtain⟨b,hb,e⟩:=Option.map_eq_some_iff.mp hi'
  rw[<- e]
  have hQ:Q (bs.getD i false) s:=hQ
  rw[List.getD_eq_getElem?_getD,hb] at hQ
  exact wpAny_truthy_bool hQ
 ·rw[List.size_toArray,show ws.length=bs.length by rw[hw,List.length_map],range_all]
  exact hQ _ _ Z F rfl (I.grow (λb o e=>hk b o (λhm=>absurd (List.mem_singleton.mp hm▸Heap.lt_size e) (Nat.lt_irrefl _)) (Heap.get?_push_of_some _ e)) tk)
theorem ah.Kb(hg:A.guards=some [])(hu:A.units+2<cLine)(as:List AV):aI X A "repr" (AK as) as:=by
 refine dC (P:=aI X A "repr") (λa=>?_) aI.fail
 refine b8 (P:=λx a=>aI X A "repr" x [a]) (λl=>?_) aI.fail
 refine aI.of λJ Z F s vs I d=>ai.dO λxs hx hl=>ai.opt λbs hb=>ai.bz λhz=>?_
 refine eE (P:=λvs=>Goes X A Z F J s (call (.builtin "repr") vs) (ao (.str (uv bs))) J) d λv (dv:v = .ref (Z l)/\l<J.n)=>?_
 rw[dv.1]
 refine(I.cA hx).elim λws q=>q.elim λk q=>Goes.to λQ E hQ=>?_
 have hw:=sU hb q.2
 have sb:=BR bs
 refine repr_of_reads' (d:=.list (bs.map .bool)) (as:=[Z l]) (.list q.1 rfl rfl (by rw[hw]; exact AL bs)) ?_ (λh=>?_) hg ?_ (λ_ _ e=>e) (λh' u tk hk=>hQ _ _ Z F ⟨u,rfl⟩ (I.grow hk tk)) (Nat.le_trans hz (by decide))
 ·unfold PyData.showable; exact sb.1
 ·unfold PyData.hasDict at h; rw[sb.2.1] at h; exact nomatch h
 ·unfold PyData.depth; rw[sb.2.2]; exact hu
theorem ah.Ma(as:List AV):bI X A (.type "reversed") (BQ as) as:=by
 refine dC (P:=bI X A (.type "reversed")) (λa=>?_) bI.fail
 refine b8 (P:=λx a=>bI X A (.type "reversed") x [a]) (λl=>?_) bI.fail
 refine bI.of λJ Z F s vs I d=>ai.aK jz λxs hx=>ai.push (ai.ret ?_)
 refine eE (P:=λvs=>Goes X A Z F J s (call (.type "reversed") vs) (ao (.ref J.n)) (J.push (.rev l ((xs.length:Int) - 1)))) d λv (dv:v = .ref (Z l)/\l<J.n)=>?_
 rw[dv.1]
 refine(I.cA hx).elim λws q=>q.elim λk q=>Goes.to λQ E hQ=>call_reversed_list (items:=ws.toArray) ⟨_,q.1,rfl,k,rfl⟩ ?_
 refine hQ _ _ _ F (Den.fresh Z F J _ _) (I.push (a:=s.heap.objs.size) (c:=.rev l ((xs.length:Int) - 1)) (h':=s.heap.push (revObj (Z l) ((ws.toArray.size:Int) - 1))) (Heap.get?_none_of_le (Nat.le_refl _)) (λb o e=>Heap.get?_push_of_some _ e) ⟨_,Heap.get?_push_size _ rfl,?_,Nat.lt_succ_of_lt dv.2⟩ s.toks)
 rw[ay.fx Z _ dv.2,List.size_toArray,<- q.2.length]
 exact⟨rfl,rfl⟩
theorem ah.FQ(T:String)(as:List AV):bI X A (.type T) (sF T as) as:=bQ (P:=λx=>bI X A (.type T) x as) (λh=>by rw[eq_of_beq h]; exact ah.Ma as) (ah.typeCall as)
end
section
variable{prog:Program}{w:World}{A:Around}{E:Value->Shared->Prop}{s:Shared}
theorem kind_divmod:builtinKind "divmod" = none:=by decide +kernel
theorem plain_divmod:plainId "divmod" = true:=by decide +kernel
theorem entry_divmod:entryFor table "divmod" = some Builtin.«divmod»:=entryFor_of_tree (by kernel_rfl)
theorem args_divmod(a b:Value):argsOk "divmod" ⟨[a,b],[]⟩:=by unfold argsOk; kernel_rfl
theorem Ex:fillsNumberSlot (.type "int") "divmod" = pure true:=by kernel_rfl
theorem EL{a b:Int}{t u:Tok}{Q:Value->Shared->Prop}(hb:b≠0)(hp:divisionGoesByPylong a b=false)
  (h:Q (.ref s.heap.objs.size) { s with heap:=s.heap.push (oTup [.int (a.fdiv b) s.toks,.int (a.fmod b) (s.toks+1)] 0),toks:=s.toks+1+1 }):wpAny (model prog w) A (call (.builtin "divmod") [.int a t,.int b u]) Q E s:=by
 refine Calls.call_function_entry kind_divmod plain_divmod entry_divmod (args_divmod _ _) ?_
 unfold Builtin.«divmod»
 refine wpAny_bind (m:=someArgs "divmod" 2 2 _) (wpAny_pure ?_)
 show wpAny _ _ (Builtins.binaryNamed "divmod()" "divmod" (.int a t) (.int b u) >>= λv=>ret v) _ _ _
 unfold Builtins.binaryNamed
 refine wpAny_bind (wpAny_holding (wpAny_bind (wpAny_binaryOp1_same (nm:="divmod") (T:="int") (typeIs_int s a t) (typeIs_int s b u) Ex F.slot_int_divmod ?_)))
 refine wpAny_call_entry F.slot_int_divmod (typeIs_int s a t) F.entry_int_divmod ?_ (F.args_int_divmod_2 _ _)
 unfold Builtin.«int.__divmod__»
 wp_walk
 exact⟨_,rfl,nofun,wpAny_pure (wpAny_pure ⟨_,rfl,h⟩)⟩
end
noncomputable def zB(as:List AV):EM AV:=kW as (λa b=>cM a (λi=>cM b (λj=>EM.bz (j≠0/\divisionGoesByPylong i j=false) (.tup [.int (i.fdiv j),.int (i.fmod j)])) EM.fail) EM.fail) EM.fail
section
variable{X:Ctx}{A:Around}{Z:ay}{F:Fz}{J:St}{s:Shared}{Y:Kn}
theorem ah.divmod(as:List AV):aI X A "divmod" (zB as) as:=by
 refine lF (P:=aI X A "divmod") (λa b=>?_) λ_=>aI.fail
 refine fJ (P:=λx a=>aI X A "divmod" x [a,b]) (λi=>?_) aI.fail
 refine fJ (P:=λx b=>aI X A "divmod" x [.int i,b]) (λj=>?_) aI.fail
 refine aI.of λJ Z F s vs I d=>ai.bz λh=>Goes.to λQ E hQ=>?_
 refine jO (P:=λvs=>wpAny (model X.prog X.w) A (PySem.call (Value.builtin "divmod") vs) Q E s) d λv w (dv:∃t,v = .int i t) (dw:∃t,w = .int j t)=>dv.elim λt e=>dw.elim λu f=>?_
 rw[e,f]
 refine EL h.1 h.2 ?_
 have r:=I.freeze (a:=s.heap.objs.size) (o:=oTup [.int (i.fdiv j) s.toks,.int (i.fmod j) (s.toks+1)] 0) (h':=s.heap.push (oTup [.int (i.fdiv j) s.toks,.int (i.fmod j) (s.toks+1)] 0)) (Heap.get?_none_of_le (Nat.le_refl _)) (λb o e=>Heap.get?_push_of_some _ e) (Heap.get?_push_size _ rfl) (s.toks+1+1)
 exact hQ _ _ Z _ (Den.tup (n:=J.n) (Z:=Z) _ [.int (i.fdiv j),.int (i.fmod j)] [.int (i.fdiv j) s.toks,.int (i.fmod j) (s.toks+1)] 0 (if_pos rfl) ⟨⟨_,rfl⟩,⟨_,rfl⟩,rfl⟩) r
end
structure cC where
 pre:List Stmt
 test1:Expr
 test2:Expr
 item:Expr
 rest:List Stmt
 ypos:Pos
 epos:Pos
 pos1:Pos
 pos2:Pos
noncomputable def cC.inner(t:cC):List Stmt:=[.Expr (.Yield (some t.item) t.ypos) t.epos]
noncomputable def cC.outer(t:cC):List Stmt:=.While t.test2 t.inner [] t.pos2::t.rest
noncomputable def cC.body(t:cC):List Stmt:=t.pre++[.While t.test1 t.outer [] t.pos1]
structure gY where
 t:cC
 f:Nat
 k:Nat
structure Ext where
 gen:Stmt->Option gY
 hs:Str->Int
section
variable{prog:Program}{w:World}{A:Around}{E:Value->Shared->Prop}{s:Shared}
theorem Ey{Q:Value->Shared->Prop}(hh:A.handled=none)(x:Str)(t:Tok)(hn:x.cps.size<=sizeLine)
  (hQ:∀h' tk acc c,(∀b o,s.heap.get? b=some o->h'.get? b=some o)->h'.get? s.heap.objs.size=some { cls:=.type "list",dict:=none,data:=.seq acc c,slots:=#[] }->ItemsOf (SignAt x) acc x.cps.size->Q (.ref s.heap.objs.size) { s with heap:=h',toks:=tk }) :
  wpAny (model prog w) A (call (.type "list") [.str x t]) Q E s:=by
 refine callType_codes (Q₁:=λobj ar=>obj = .ref s.heap.objs.size/\ar = { s with heap:=s.heap.push { cls:=.type "list",data:=.seq #[] } }) F.called_list (F.typeCall_list_1 _) F.entry_list_init
  (code_list_new _ ⟨rfl,rfl⟩) λobj ar cX=>?_
 obtain⟨rfl,rfl⟩:=cX
 have hS:(s.heap.push { cls:=.type "list",data:=.seq #[] }).get? s.heap.objs.size=some { cls:=.type "list",data:=.seq #[] }:=Heap.get?_push_size _ rfl
 refine⟨⟨_,hS,rfl⟩,F.args_list_init_2 _ _,?_⟩
 show wpAny _ A.in1.in1 (do let old <- Builtin.List.listItems (.ref s.heap.objs.size); Builtin.List.listUpdate (.ref s.heap.objs.size) (λ_=>#[]); letGo old.toList.reverse; Builtin.List.listExtendWith (.ref s.heap.objs.size) (.str x t) .none) _ _ _
 refine wpAny_bind ?_
 unfold Builtin.List.listItems
 refine wpAny_bind (wpAny_seqItems hS rfl (wpAny_pure ?_))
 show wpAny _ A.in1.in1 (updateSeq s.heap.objs.size (λ_=>#[]) >>= λ_=>letGo (#[]:Array Value).toList.reverse >>= λ_=>Builtin.List.listExtendWith (.ref s.heap.objs.size) (.str x t) .none) _ _ _
 refine wpAny_bind (wpAny_updateSeq hS rfl ?_)
 have BS:=Heap.get?_update_self (Obj.mapSeq (λ_=>(#[]:Array Value))) hS rfl
 refine wpAny_bind (wpAny_letGo ?_)
 have oth:∀b o,s.heap.get? b=some o->((s.heap.push { cls:=.type "list",data:=.seq #[] }).update s.heap.objs.size (Obj.mapSeq (λ_=>(#[]:Array Value)))).get? b=some o :=
  λb o e=>(Heap.get?_update_other _ _ (Ne.symm (Nat.ne_of_lt (Heap.lt_size e)))).trans (Heap.get?_push_of_some _ e)
 have hsz:((s.heap.push { cls:=.type "list",data:=.seq #[] }).update s.heap.objs.size (Obj.mapSeq (λ_=>(#[]:Array Value)))).objs.size=s.heap.objs.size+1:=by
  rw[Heap.size_update,Heap.size_push]
 generalize (s.heap.push { cls:=.type "list",data:=.seq #[] }).update s.heap.objs.size (Obj.mapSeq (λ_=>(#[]:Array Value)))=H at BS oth hsz ⊢
 unfold Builtin.List.listExtendWith
 refine wpAny_bind (wpAny_typeOf (T:="str") (v:=.str x t) rfl ?_)
 have h1:Builtin.List.listSameRef (.ref s.heap.objs.size) (.str x t)=false:=rfl
 have h2:(Value.type "str" == Value.type "list")=false:=by decide
 have h3:(Value.type "str" == Value.type "tuple")=false:=by decide
 simp only[h1,h2,h3,Bool.or_false,Bool.false_eq_true,if_false]
 refine wpAny_bind (wpAny_pyIter_str λo St W hst=>?_)
 refine wpAny_bind (wpAny_holding ?_)
 unfold Builtin.List.listLengthHint
 refine wpAny_bind (wpAny_specialOf (T:="str") (v:=.str x t) rfl F.str_len ?_)
 wp_delta
 refine wpAny_bind (wpAny_isInstance (T:="str") (v:=.str x t) (b:=true) rfl (by rw[isSubtype_type]; kernel_rfl) ?_)
 show wpAny _ A.in1.in1 (typeOf (Value.str x t) >>= _) _ _ _
 refine wpAny_bind (wpAny_typeOf (T:="str") (v:=.str x t) rfl ?_)
 refine wpAny_pure ?_
 rw[if_neg (by decide)]
 have hSf:s.heap.objs.size ∉ [H.objs.size]:=λhm=>by rw[List.mem_singleton.mp hm] at hsz; exact absurd hsz (Nat.ne_of_lt (Nat.lt_succ_self _))
 refine wpAny_pure ⟨plainId_quiet F.plain_extend_loop _,codeAny_extend_loopS (W A.in1.in1 hh).toS hn _ hSf _ x.cps.size 0 _ _ _ rfl (Nat.zero_le _) hst (Heap.get?_push_of_some _ BS) (ItemsOf.nil _) λs' acc' c' hm hS' hacc=>?_⟩
 obtain⟨hp,g,d,tk,os⟩:=s'
 have e1:g=s.gens:=hm.gens
 have e2:d=s.drawn:=hm.drawn
 have e3:os=s.os:=hm.os
 subst e1 e2 e3
 refine⟨rfl,hQ hp tk acc' c' (λb ob e=>hm.heap b ob (λhb=>?_) (Heap.get?_push_of_some _ (oth b ob e))) hS' hacc⟩
 have hlt:=Heap.lt_size e
 rcases List.mem_cons.mp hb with h | h
 ·exact absurd hlt (h▸Nat.lt_irrefl _)
 ·rw[List.mem_singleton.mp h,hsz] at hlt; exact absurd hlt (Nat.not_lt.mpr (Nat.le_succ _))
end
noncomputable def rA(x:Str):List AV:=x.cps.toList.map λc=>.str ⟨#[c]⟩
noncomputable def tL(as:List AV):EM AV:=dA as (λa=>onStr a (λx=>EM.bz (x.length<=1000000) (.lst (rA x))) EM.fail) EM.fail
noncomputable def C6(as:List AV):EM AV:=dA as (λa=>bT a (λi=>EM.bind (dD i) λxs=>EM.ret (.int xs.length)) <| iC a (λxs=>EM.bz (xs.length<=1000000) (.int xs.length)) <| jP a (λxs=>EM.bz (xs.length<=1000000) (.int xs.length)) <| onStr a (λx=>EM.bz (x.length<=1000000) (.int x.length)) EM.fail) EM.fail
noncomputable def uw(as:List AV):EM AV:=dA as (λa=>cM a (λi=>EM.bz (0<=i/\i<2 ^ 63) (.str (toString i))) EM.fail) EM.fail
noncomputable def strAt(a:AV):Option Str:=onStr a some none
noncomputable def fN(xs:List AV):List Str:=xs.map λx=>(strAt x).getD Str.empty
noncomputable def AM(as:List AV):EM AV:=kW as (λa l=>onStr a (λsep=>bT l (λi=>EM.bind (dD i) λxs=>EM.bz ((∀y∈xs,(strAt y).isSome)/\JoinOk sep (fN xs)=true) (.str (Txt.join sep (fN xs)))) EM.fail) EM.fail) EM.fail
noncomputable def AN(v:AV):Bool:=uY v false (eM v (λ_=>false) true)
noncomputable def zC(K:Frag)(as:List AV):EM AV:=kW as (λv c=>eM c (λw=>gh w (λC=>EM.bind (EM.aW (AN v)) λ_=>EM.st λJ=>aQ (typ K J v) (λT=>EM.dz (isIn K T C) (.bool true)) EM.fail) EM.fail) EM.fail) EM.fail
noncomputable def yb(K:Frag)(nm:String)(as:List AV):EM AV:=_root_.cond (nm == "isinstance") (zC K as) <| _root_.cond (nm == "list.append") (fM as) <| _root_.cond (nm == "list.pop") (CU as) <| _root_.cond (nm == "list.insert") (zu as) <|
 _root_.cond (nm == "list.clear") (AA as) <| _root_.cond (nm == "next") (BD as) <| _root_.cond (nm == "iter") (BE as) <| _root_.cond (nm == "len") (C6 as) <| _root_.cond (nm == "str.join") (AM as) <| _root_.cond (nm == "all") (BP as) <| _root_.cond (nm == "repr") (AK as) <| _root_.cond (nm == "divmod") (zB as) EM.fail
noncomputable def tN(xs:List (Option AV)):Option (List AV):=xs.foldr (λo k=>o.bind λx=>k.map λr=>x::r) (some [])
noncomputable def vj(N x d:Nat)(v:AV):EM AV:=EM.st λJ=>EM.turn ((N<=x/\N<=d/\N<=J.n)/\aL N v/\∀p∈(J.cut N).objs,bA N p.2) (λJ=>J.cut N) v
noncomputable def zD(N x:Nat):EM AV:=EM.bind (EM.word some) λw=>mV w (EM.st λJ=>EM.bz (x<J.n) (.ref x)) <| nV w (EM.bind (EM.cell x) λc =>
 km c (λC d=>EM.bind (EM.aK gS d) λm=>vj N x d (.obj C m)) <| s7 c (λC d xs=>EM.bind (EM.aK gS d) λ_=>EM.bind (EM.opt (tN xs)) λys=>vj N x d (.eg C ys)) EM.fail) EM.fail
noncomputable def ux(K:Frag)(b:Bool)(C:Addr):Option (Addr×cG):=_root_.cond b ((refOf (findIn K (.ref C) "__init__")).bind λf=>_root_.cond (typeIn K (.ref f) == some (.type "function")) ((gn K (.val (.ref f))).map λfi=>(f,fi)) none) none
noncomputable def uy(v:AV)(x:EM AV):EM AV:=eM v (λw=>mU w x EM.fail) EM.fail
noncomputable def eNew(K:Frag)(r:Rec)(C:Addr)(as:List AV)(ks:List (Str×AV)):EM AV:=EM.bind (EM.opt (ux K (makesIn K C) C)) λq=>EM.bind (EM.push (.dict [])) λd=>EM.bind (EM.push (.inst C d)) λx=>EM.bind (fY r q.2 (.ref x::as) ks) λv=>uy v (zD d x)
noncomputable def BU(K:Frag)(r:Rec)(C:Addr)(as:List AV):EM AV:=EM.bind (EM.opt (ux K (jF K C) C)) λq=>EM.bind (EM.push (.exc C none none)) λi=>EM.bind (fY r q.2 (.ref i::as) []) λv=>uy v (EM.st λJ=>EM.bz (i<J.n/\as.length<=1000) (.ref i))
inductive IL(K:Frag)(b:Bool)(C:Addr)(q:Addr×cG):Prop where
 | mk (h:b=true) (hi:findIn K (.ref C) "__init__" = some (some (.ref q.1))) (hf:typeIn K (.ref q.1)=some (.type "function")) (hfi:gn K (.val (.ref q.1))=some q.2)
theorem yc{K:Frag}{b:Bool}{C:Addr}{q:Addr×cG}(h:ux K b C=some q):IL K b C q:=by
 have h0:=fg h
 refine(Option.bind_eq_some_iff.mp h0.2).elim λf h1=>?_
 have h2:=fg h1.2
 refine(Option.map_eq_some_iff.mp h2.2).elim λfi h3=>?_
 rw[<- h3.2]
 exact⟨h0.1,yz h1.1,eq_of_beq h2.1,h3.1⟩
section
variable{X:Ctx}{A:Around}{Z:ay}{F:Fz}{J:St}{s:Shared}{Y:Kn}
theorem w7{n:Nat}:∀{xs:List (Option AV)} {vs:List (Option Value)} {ys:List AV},cf n Z F xs vs->tN xs=some ys->∃ws,vs=ws.map some/\ax n Z F ys ws
 | [],vs,ys,d,h=>⟨[],d,Option.some.inj h▸(ax.nil:ax n Z F [] [])⟩
 | _::_,[],_,d,_=>d.elim
 | none::_,_::_,_,_,h=>aJ h
 | some x::xs,v::vs,ys,d,h=>(Option.map_eq_some_iff.mp (show(tN xs).map _=some ys from h)).elim λr q=>d.1.elim λw e=>(w7 d.2 q.1).elim λws p=>⟨w::ws,by rw[e.1,p.1]; rfl,q.2▸ax.cons e.2 p.2⟩
theorem AO{N x:Nat}{c:Cell}(I:Inv X Z F J s)(hx:J.get x=some c)(hN:N<=x):∀i c,(J.cut N).get i=some c->Z i≠Z x:=λi c' h=>I.ne (nW h).2 hx (Nat.ne_of_lt (Nat.lt_of_lt_of_le (nW h).1 hN))
noncomputable def Kept(X:Ctx)(N x:Nat)(J:St)(b:AV)(aj:St):Prop:=∀(b5:ay) (b6:Fz) (ba:St) (aS:Shared) (Z:ay) (F:Fz) (s:Shared),Inv X Z F J s->aD b5 b6 ba aS Z F J s->ba.n<=N->(∀e∈X.fr,e.2<N)->∃F',Got X b5 b6 ba aS (.ref (Z x)) s Z F' b aj
theorem zE{N x d:Nat}{v:AV}{c c':Cell}(hx:J.get x=some c)(hd:J.get d=some c')(h:∀(Z:ay) (F:Fz) (s:Shared),Inv X Z F J s->∃o od,s.heap.get? (Z x)=some o/\s.heap.get? (Z d)=some od/\∀F',(∀a o,F a=some o->F' a=some o)->F' (Z x)=some o->F' (Z d)=some od->Den J.n Z F' v (.ref (Z x))):
  ai J (vj N x d v) (Kept X N x J):=ai.turn (P:=(N<=x/\N<=d/\N<=J.n)/\aL N v/\∀p∈(J.cut N).objs,bA N p.2) (g:=λJ=>J.cut N) (v:=v) λhc b5 b6 ba aS Z F s I st hN hfr=>(h Z F s I).elim λo q=>q.elim λod q=>by
 have cq:=(I.cut (aq:=Z) (λ_ _=>rfl) hc.2.2 hfr).kh q.2.1 (AO I hd hc.1.2.1)
 have fC:=cq.1.kh q.1 (AO I hx hc.1.1)
 exact⟨_,fC.1,((st.cut hN).trans cq.2).trans fC.2,(q.2.2 _ (λa o e=>fC.2.sub _ _ (cq.2.sub _ _ e)) (if_pos rfl) (fC.2.sub _ _ (if_pos rfl))).under (λ_ _=>rfl) hc.2.1⟩
theorem FR{N x:Nat}:ai J (zD N x) (Kept X N x J):=ai.word λw=>by
 refine nL (P:=λy _=>ai J y (Kept X N x J)) (ai.st (ai.bz λhx b5 b6 ba aS Z F s I st _ _=>⟨F,I,st,.ref x hx⟩)) ?_
 refine pJ (P:=λy _=>ai J y (Kept X N x J)) (ai.cell λc=>?_) ai.fail
 refine mB (P:=λy c=>J.get x=some c->ai J y (Kept X N x J)) (λC d hx=>ai.aK kd λm hm=>zE hx hm λZ F s I=>(I.kY hm).elim λes q=>q.elim λk q=>?_) ?_
 ·exact⟨_,_,(I.nE hx).1,q.1,λF' hF h1 h2=>⟨Z x,Z d,_,es,k,rfl,h1,h2,rfl,q.2.mono (Nat.le_refl _) (λ_ _=>rfl) hF⟩⟩
 refine w6 (P:=λy c=>J.get x=some c->ai J y (Kept X N x J)) (λC d xs hx=>ai.aK kd λm hm=>ai.opt λys hys=>zE hx hm λZ F s I=>(I.kY hm).elim λes q=>q.elim λk q=>(I.atS hx).elim λvs p=>?_) λ_=>ai.fail
 refine(w7 p.2.2 hys).elim λws r=>?_
 exact⟨_,_,p.1,q.1,λF' hF h1 h2=>⟨Z x,Z d,_,ws,rfl,r.1▸h1,h2,r.2.mono (Nat.le_refl _) (λ_ _=>rfl) hF⟩⟩
theorem xO{v:AV}{y:EM AV}{C:AV->St->Prop}(h:v=eD->ai J y C):ai J (uy v y) C :=
 ip (P:=λz v'=>v=v'->ai J z C) (λw e=>nK (P:=λz w'=>w=w'->ai J z C) (λe'=>h (e.trans (congrArg AV.val e'))) (λ_=>ai.fail) rfl) (λ_=>ai.fail) rfl
theorem aN.new{A:Around}{n:Nat}(h:aN X A (n+1))(C:Addr)(vs:List Value)(kw:List (Str×Value)):(A.under (.builtin "type.__call__" ⟨.ref C::vs,kw⟩)).depth<recursionLimit/\∀env i,aN (X.wf ((env,i)::X.fr)) ((A.under (.builtin "type.__call__" ⟨.ref C::vs,kw⟩)).deeper env) n:=by
 have hw:(Code.builtin "type.__call__" ⟨.ref C::vs,kw⟩).weight=1:=by kernel_rfl
 have hu:(Code.builtin "type.__call__" ⟨.ref C::vs,kw⟩).cUnits=1:=by kernel_rfl
 have hg:(Code.builtin "type.__call__" ⟨.ref C::vs,kw⟩).guards=[]:=by kernel_rfl
 have he:(Code.builtin "type.__call__" ⟨.ref C::vs,kw⟩).envs=[]:=by kernel_rfl
 have k1:A.depth+1+1+4 * n<=A.depth+4 * (n+1):=by omega
 refine⟨Nat.lt_of_le_of_lt ?_ h.1,λenv i=>⟨Nat.lt_of_le_of_lt ?_ h.1,Nat.lt_of_le_of_lt ?_ h.2.1,h.2.2.1,?_,Around.frames_deeper ?_⟩⟩
 ·show A.depth+(Code.builtin "type.__call__" ⟨.ref C::vs,kw⟩).weight<=_
  rw[hw]; exact Nat.add_le_add_left (Nat.le_trans (by decide) (Nat.mul_le_mul_left 4 (Nat.le_add_left 1 n))) _
 ·show A.depth+(Code.builtin "type.__call__" ⟨.ref C::vs,kw⟩).weight+1+4 * n<=_
  rw[hw]; exact k1
 ·show A.units+(Code.builtin "type.__call__" ⟨.ref C::vs,kw⟩).cUnits+3+40 * n<=_
  rw[hu]; omega
 ·show pushGuards (Code.builtin "type.__call__" ⟨.ref C::vs,kw⟩).guards A.guards=some []; rw[h.2.2.2.1,hg]; rfl
 ·show pushEnvs (Code.builtin "type.__call__" ⟨.ref C::vs,kw⟩).envs A.frames=_
  rw[he,h.2.2.2.2]; rfl
theorem ah.new{r:Rec}{n:Nat}(S:et X r n)(hA:aN X A (n+1)){C:Addr}{as:List AV}{vs:List Value}{ks:List (Str×AV)}{kvs:List Value}:
  ah X A ((bX as vs).and (bX (ks.map (·.2)) kvs)) ao (eNew X.K r C as ks) (call (.ref C) vs ((ks.map (·.1)).zip kvs)):=ah.bw λJ Z F s I g=>ai.opt λq hq=>ai.push (ai.push (by
 cases yc hq with | mk h1 h2 h3 hfi =>
 have dR:=I.push (a:=s.heap.objs.size) (c:=.dict []) (h':=s.heap.push emptyDict) (Heap.get?_none_of_le (Nat.le_refl _)) (λb o e=>Heap.get?_push_of_some _ e) (.ofD (vs:=[]) (k:=0) (Heap.get?_push_size _ rfl) .nil) s.toks
 have hz:(s.heap.push emptyDict).objs.size=s.heap.objs.size+1:=Heap.size_push ..
 have Mb:((Z.put J.n s.heap.objs.size).put (J.n+1) (s.heap.push emptyDict).objs.size) J.n=s.heap.objs.size:=by rw[ay.fx _ _ (Nat.lt_succ_self _),ay.fK]
 have cq:=dR.1.push (a:=(s.heap.push emptyDict).objs.size) (c:=.inst C J.n) (h':=(s.heap.push emptyDict).push (instObj C s.heap.objs.size)) (Heap.get?_none_of_le (Nat.le_refl _)) (λb o e=>Heap.get?_push_of_some _ e)
  ⟨_,Heap.get?_push_size _ rfl,congrArg (jN C) Mb.symm,Nat.lt_of_lt_of_le (Nat.lt_succ_self _) (Nat.le_succ _)⟩ s.toks
 have st:=dR.2.trans cq.2
 have hx:((Z.put J.n s.heap.objs.size).put (J.n+1) (s.heap.push emptyDict).objs.size) (J.n+1)=s.heap.objs.size+1:=(ay.fK _ _ _).trans hz
 refine ai.bind (uu S (hA.new C vs ((ks.map (·.1)).zip kvs)).1 (hA.new C vs ((ks.map (·.1)).zip kvs)).2 (f:=.val (.ref q.1)) (fv:=.ref q.1) (as:=.ref (J.n+1)::as) (vs:=.ref (s.heap.objs.size+1)::vs) (ks:=ks) (kvs:=kvs) hfi cq.1 ⟨rfl,⟨⟨congrArg Value.ref hx.symm,Nat.lt_succ_self _⟩,ax.step g.1 st⟩,ax.step g.2 st⟩) λb au hcall=>xO λhb=>(FR (X:=X)).mono λb' aj hf Q E hQ=>wpAny_call ?_
 refine make_core (makes_of I.bV h1) (looks_findIn I.bV h2) (λself=>bind_fn I.bV self h3) (.inl rfl) (hcall _ λw s' aq F' p=>?_)
 refine(hf Z F J _ aq F' s' p.inv (st.trans p.stp) (Nat.le_refl _) I.lZ).elim λbo p2=>⟨?_,?_⟩
 ·have:=p.den
  rw[hb] at this
  exact this
 ·have:Q (.ref (aq (J.n+1))) s':=hQ _ s' aq bo p2.den p2.inv p2.stp
  rw[(p.stp.same (J.n+1) (Nat.lt_succ_self _)).trans hx] at this
  exact this))
theorem ah.newX{r:Rec}{n:Nat}(S:et X r n)(hA:aN X A (n+1)){C:Addr}{as:List AV}{vs:List Value}:
  ah X A (bX as vs) ao (BU X.K r C as) (call (.ref C) vs []):=ah.bw λJ Z F s I g=>ai.opt λq hq=>ai.push (by
 cases yc hq with | mk h1 h2 h3 hfi =>
 have dR:=I.grow (h':=s.heap.push (oTup vs 0)) (λb o e=>Heap.get?_push_of_some _ e) s.toks
 have cq:=dR.1.push (a:=(s.heap.push (oTup vs 0)).objs.size) (c:=.exc C none none) (h':=(s.heap.push (oTup vs 0)).push (eG C none (jj s.heap.objs.size))) (Heap.get?_none_of_le (Nat.le_refl _)) (λb o e=>Heap.get?_push_of_some _ e)
  ⟨_,Heap.get?_push_size _ rfl,_,rfl,rfl,(λ_ h=>(nomatch h)),λ_ h=>(nomatch h)⟩ s.toks
 have st:=dR.2.trans cq.2
 have hz:(s.heap.push (oTup vs 0)).objs.size=s.heap.objs.size+1:=Heap.size_push ..
 have hx:(Z.put J.n (s.heap.push (oTup vs 0)).objs.size) J.n=s.heap.objs.size+1:=(ay.fK _ _ _).trans hz
 refine ai.bind (uu S (hA.new C vs []).1 (hA.new C vs []).2 (f:=.val (.ref q.1)) (fv:=.ref q.1) (as:=.ref J.n::as) (vs:=.ref (s.heap.objs.size+1)::vs) (ks:=[]) (kvs:=[]) hfi cq.1 ⟨rfl,⟨⟨congrArg Value.ref hx.symm,Nat.lt_succ_self _⟩,ax.step g st⟩,rfl⟩) λb au hcall=>xO λhb=>ai.st (ai.bz λhl Q E hQ=>wpAny_call ?_)
 have hd:ax J.n Z F as vs:=g
 have hv:vs.length<=sizeLine:=by rw[<- hd.length]; exact Nat.le_trans hl.2 (by decide)
 refine new_exc I.bV h1 h2 h3 hv (hcall _ λw s' aq F' p=>⟨?_,?_⟩)
 ·have:=p.den
  rw[hb] at this
  exact this
 ·have:=hQ _ s' aq F' ⟨rfl,hl.1⟩ p.inv (st.trans p.stp)
  rw[(p.stp.same J.n (Nat.lt_succ_self _)).trans hx] at this
  exact this)
end
noncomputable def Gq(K:Frag)(r:Rec)(C:Addr)(as:List AV)(ks:List (Str×AV)):EM AV:=_root_.cond (jF K C && ks.isEmpty) (BU K r C as) (eNew K r C as ks)
section
variable(K:Frag)(r:Rec)(f:AV)(as:List AV)(ks:List (Str×AV))
noncomputable def mX:EM AV:=aQ (gn K f) (λfi=>fY r fi as ks) (eM f (λv=>gh v (λC=>Gq K r C as ks) EM.fail) EM.fail)
noncomputable def BV:EM AV:=eM f (λv=>lu v (λnm=>dF ks (yb K nm as) EM.fail) <| qq v (λT=>dF ks (_root_.cond (T == "str") (uw as) (_root_.cond (T == "list") (tL as) (sF T as))) EM.fail) (mX K r (.val v) as ks)) (mX K r f as ks)
end
section
variable{X:Ctx}{A:Around}{Z:ay}{F:Fz}{J:St}{s:Shared}{Y:Kn}
theorem vk{n:Nat}{xs:List AV}{vs:List Value}(h:xs.length<=1000000)(d:ax n Z F xs vs):(vs.toArray.size:Int)<2 ^ 63:=by
 rw[List.size_toArray,<- d.length]
 exact Int.lt_of_le_of_lt (Int.ofNat_le.mpr h) (by decide)
theorem ah.len(as:List AV):aI X A "len" (C6 as) as:=by
 refine dC (P:=aI X A "len") (λa=>?_) aI.fail
 refine b8 (P:=λx a=>aI X A "len" x [a]) (λi=>aI.of λJ Z F s vs I d=>ai.dO λxs hx hl=>ai.ret (eE (P:=λvs=>Goes X A Z F J s (call (.builtin "len") vs) (ao (.int xs.length)) J) d λv (dv:v = .ref (Z i)/\i<J.n)=>dv.1▸?_)) ?_
 ·exact(I.cA hx).elim λws q=>q.elim λk q=>Goes.tok I λQ E hQ=>Calls.call_len_list (items:=ws.toArray) ⟨_,q.1,rfl,k,rfl⟩ (vk hl q.2) (hQ _ _ ⟨_,by rw[List.size_toArray,q.2.length]⟩)
 refine jC (P:=λx a=>aI X A "len" x [a]) (λxs=>aI.of λJ Z F s vs I d=>ai.bz λhl=>eE (P:=λvs=>Goes X A Z F J s (call (.builtin "len") vs) (ao (.int xs.length)) J) d λv dv=>?_) ?_
 ·cases fL dv with | mk a ws k e h hs=>rw[e]; exact Goes.tok I λQ E hQ=>P.len_tuple (items:=ws.toArray) (I.froz _ _ h) (Int.not_le.mpr (vk hl hs)) (hQ _ _ ⟨_,by rw[List.size_toArray,hs.length]⟩)
 refine ly (P:=λx a=>aI X A "len" x [a]) (λxs=>aI.of λJ Z F s vs I d=>ai.bz λhl=>eE (P:=λvs=>Goes X A Z F J s (call (.builtin "len") vs) (ao (.int xs.length)) J) d λv dv=>?_) ?_
 ·cases iu dv with | mk a ws k e h hs=>rw[e]; exact Goes.tok I λQ E hQ=>Calls.call_len_list (items:=ws.toArray) ⟨_,I.froz _ _ h,rfl,k,rfl⟩ (vk hl hs) (hQ _ _ ⟨_,by rw[List.size_toArray,hs.length]⟩)
 exact gb (P:=λx a=>aI X A "len" x [a]) (λx=>aI.of λJ Z F s vs I d=>ai.bz λhl=>eE (P:=λvs=>Goes X A Z F J s (call (.builtin "len") vs) (ao (.int x.length)) J) d λv (dv:∃t,v = .str x t)=>dv.elim λt e=>e▸Goes.tok I λQ E hQ=>P.len_str (Int.not_le.mpr (Int.lt_of_le_of_lt (Int.ofNat_le.mpr hl) (by decide))) (hQ _ _ ⟨_,rfl⟩)) aI.fail
theorem ah.strOf(as:List AV):bI X A (.type "str") (uw as) as:=by
 refine dC (P:=bI X A (.type "str")) (λa=>?_) bI.fail
 refine fJ (P:=λx a=>bI X A (.type "str") x [a]) (λi=>bI.of λJ Z F s vs I d=>ai.bz λhi=>eE (P:=λvs=>Goes X A Z F J s (call (.type "str") vs) (ao (.str (toString i))) J) d λv (dv:∃t,v = .int i t)=>dv.elim λt e=>e▸Goes.tok I λQ E hQ=>P.str_of_int (by
  have h1:i.natAbs<2 ^ 63:=(Int.natAbs_lt_natAbs_of_nonneg_of_lt hi.1 hi.2)
  rcases Nat.eq_zero_or_pos i.natAbs with h | h
  ·rw[h]; decide
  ·exact Nat.lt_of_lt_of_le ((Nat.log2_lt (Nat.ne_of_gt h)).mpr h1) (by decide)) (hQ _ _ ⟨_,rfl⟩)) bI.fail
theorem zF{N:Nat}:∀{xs:List AV} {vs:List Value},xs.length=vs.length->(∀(i:Nat) (x:AV) (v:Value),xs[i]? = some x->vs[i]? = some v->Den N Z F x v)->ax N Z F xs vs
 | [],[],_,_=>rfl
 | x::xs,v::vs,h,hp=>⟨hp 0 x v rfl rfl,zF (Nat.succ.inj h) λi y w h1 h2=>hp (i+1) y w h1 h2⟩
theorem ah.listOf(hA:A.handled=none)(as:List AV):bI X A (.type "list") (tL as) as:=by
 refine dC (P:=bI X A (.type "list")) (λa=>?_) bI.fail
 refine gb (P:=λx a=>bI X A (.type "list") x [a]) (λx=>bI.of λJ Z F s vs I d=>ai.bz λhl=>Goes.to λQ E hQ=>?_) bI.fail
 refine eE (P:=λvs=>wpAny (model X.prog X.w) A (PySem.call (.type "list") vs) Q E s) d λv (dv:∃t,v = .str x t)=>dv.elim λt e=>e▸?_
 refine Ey hA x t (Nat.le_trans hl (by decide)) λh' tk acc c hk hS hac=>?_
 have r:=I.freeze (a:=s.heap.objs.size) (o:=cL acc.toList c) (h':=h') (Heap.get?_none_of_le (Nat.le_refl _)) hk hS tk
 refine hQ _ _ Z _ (Den.lst (n:=J.n) (Z:=Z) _ (rA x) acc.toList c (if_pos rfl) (zF ?_ λi y w h1 h2=>?_)) r
 ·rw[rA,List.length_map,Array.length_toList,Array.length_toList,hac.1]
 ·rw[Array.getElem?_toList] at h2
  obtain⟨c,u,hc,rfl⟩:=hac.2 i w h2
  rw[rA,List.getElem?_map,Array.getElem?_toList,hc] at h1
  exact Option.some.inj h1▸⟨u,rfl⟩
theorem tO{N:Nat}:∀{xs:List AV} {ws:List Value},ax N Z F xs ws->(∀y∈xs,(strAt y).isSome)->∃l:List (Str×Tok),ws=strValues l/\l.map (·.1)=fN xs
 | [],ws,d,_=>⟨[],d,rfl⟩
 | _::_,[],d,_=>d.elim
 | a::xs,w::ws,d,h=>(tO d.2 λy hy=>h y (List.mem_cons_of_mem _ hy)).elim λl q=>by
  have h0:=h a List.mem_cons_self
  refine gb (e:=a) (f:=some) (d:=none) (P:=λ(o:Option Str) a=>o.isSome=true->Den N Z F a w->strAt a=o->∃l:List (Str×Tok),w::ws=strValues l/\l.map (·.1)=fN (a::xs)) (λy _ (dw:∃t,w = .str y t) e=>dw.elim λt e'=>⟨(y,t)::l,by rw[e',q.1]; rfl,by rw[List.map_cons,q.2]; rfl⟩) (λh=>ff (show false=true from h)) h0 d.1 rfl
theorem ah.Kc(as:List AV):aI X A "str.join" (AM as) as:=by
 refine lF (P:=aI X A "str.join") (λa l=>?_) λ_=>aI.fail
 refine gb (P:=λx a=>aI X A "str.join" x [a,l]) (λsep=>?_) aI.fail
 refine b8 (P:=λx l=>aI X A "str.join" x [.str sep,l]) (λi=>aI.of λJ Z F s vs I d=>ai.dO λxs hx hl=>ai.bz λh=>?_) aI.fail
 refine jO (P:=λvs=>Goes X A Z F J s (call (.builtin "str.join") vs) (ao (.str (Txt.join sep (fN xs)))) J) d λu v (du:∃t,u = .str sep t) (dv:v = .ref (Z i)/\i<J.n)=>du.elim λt e=>?_
 rw[e,dv.1]
 exact(I.cA hx).elim λws q=>q.elim λk q=>(tO q.2 h.1).elim λl p=>Goes.tok I λQ E hQ=>SC.join (texts:=fN xs) ⟨_,q.1,rfl,k,by rw[<- p.1]; rfl⟩ p.2 h.2 λt' k=>hQ _ _ ⟨_,rfl⟩
theorem IM{n:Nat}{v:AV}{u:Value}(h:AN v=true)(d:Den n Z F v u){i:String}:u≠.builtin i:=λe=>by
 cases v with
 | val w=>exact ff h
 | bool b=>exact nomatch e.symm.trans (show u = .bool b from d)
 | int b=>exact(mR d).elim λt q=>nomatch e.symm.trans q
 | str b=>exact(lC d).elim λt q=>nomatch e.symm.trans q
 | ref b=>exact nomatch e.symm.trans (dK d).1
 | tup b=>cases fL d with | mk a ws k q=>exact nomatch e.symm.trans q
 | lst b=>cases iu d with | mk a ws k q=>exact nomatch e.symm.trans q
 | any=>exact ff h
 | obj C b=>cases lD d with | mk a d' od es k q=>exact nomatch e.symm.trans q
 | eg C b=>cases mT d with | mk a d' od es q=>exact nomatch e.symm.trans q
 | cY a b c d' f z=>cases(show fj n Z F a b c d' f (a6 n Z F z) u from d) with | mk a qual o pm code ct fc es q=>exact nomatch e.symm.trans q
theorem ah.IP(as:List AV):aI X A "isinstance" (zC X.K as) as:=by
 refine lF (P:=aI X A "isinstance") (λv c=>?_) λ_=>aI.fail
 refine ip (P:=λx c=>aI X A "isinstance" x [v,c]) (λw=>gO (P:=λx w=>aI X A "isinstance" x [v,.val w]) (λC=>?_) aI.fail) aI.fail
 refine aI.of λJ Z F s vs I d=>ai.aW λhv=>ai.st ?_
 refine eA (P:=λ(x:EM AV) o=>typ X.K J v=o->ai J x λb aj=>Goes X A Z F J s (call (.builtin "isinstance") vs) (ao b) aj) (λT hT=>ai.dz λhi=>?_) (λ_=>ai.fail) rfl
 exact jO (P:=λvs=>Goes X A Z F J s (call (.builtin "isinstance") vs) (ao (.bool true)) J) d λu c d0 (dc:c = .ref C)=>dc▸Goes.same I λQ E hQ=>isi_call I.bV (λM=>pT I d0 hT) hi (IM hv d0) (hQ _ rfl)
theorem ah.Gr{nm:String}{as:List AV}(hA:A.handled=none)(hg:A.guards=some [])(hu:A.units+2<cLine):aI X A nm (yb X.K nm as) as :=
 bQ (P:=λx=>aI X A nm x as) (λh=>by rw[eq_of_beq h]; exact ah.IP as) <| bQ (P:=λx=>aI X A nm x as) (λh=>by rw[eq_of_beq h]; exact ah.append as) <|
 bQ (P:=λx=>aI X A nm x as) (λh=>by rw[eq_of_beq h]; exact ah.pop as) <| bQ (P:=λx=>aI X A nm x as) (λh=>by rw[eq_of_beq h]; exact ah.insert as) <|
 bQ (P:=λx=>aI X A nm x as) (λh=>by rw[eq_of_beq h]; exact ah.clear as) <| bQ (P:=λx=>aI X A nm x as) (λh=>by rw[eq_of_beq h]; exact ah.next hA as) <|
 bQ (P:=λx=>aI X A nm x as) (λh=>by rw[eq_of_beq h]; exact ah.iter as) <| bQ (P:=λx=>aI X A nm x as) (λh=>by rw[eq_of_beq h]; exact ah.len as) <|
 bQ (P:=λx=>aI X A nm x as) (λh=>by rw[eq_of_beq h]; exact ah.Kc as) <|
 bQ (P:=λx=>aI X A nm x as) (λh=>by rw[eq_of_beq h]; exact ah.allB hA as) <| bQ (P:=λx=>aI X A nm x as) (λh=>by rw[eq_of_beq h]; exact ah.Kb hg hu as) <| bQ (P:=λx=>aI X A nm x as) (λh=>by rw[eq_of_beq h]; exact ah.divmod as) aI.fail
theorem ah.call{r:Rec}{n:Nat}(S:et X r n)(hA:aN X A (n+1))(f:AV)(fv:Value)(as:List AV)(vs:List Value)(ks:List (Str×AV))(kvs:List Value):
  ah X A (cV f fv as vs ks kvs) ao (BV X.K r f as ks) (PySem.call fv vs ((ks.map (·.1)).zip kvs)):=by
 have fn:ah X A (cV f fv as vs ks kvs) ao (mX X.K r f as ks) (PySem.call fv vs ((ks.map (·.1)).zip kvs)):=by
  refine eA (P:=λx o=>gn X.K f=o->ah X A (cV f fv as vs ks kvs) ao x (PySem.call fv vs ((ks.map (·.1)).zip kvs))) (λfi hfi=>ah.fn S hA hfi) (λ_=>?_) rfl
  refine ip (P:=λx f=>ah X A (cV f fv as vs ks kvs) ao x (PySem.call fv vs ((ks.map (·.1)).zip kvs))) (λv=>gO (P:=λx v=>ah X A (cV (.val v) fv as vs ks kvs) ao x (PySem.call fv vs ((ks.map (·.1)).zip kvs))) (λC=>?_) ah.fail) ah.fail
  refine ah.cz (P:=fv = .ref C) (λ_ _ _ g=>g.1) λe=>?_
  rw[e]
  refine bQ (P:=λx=>ah X A (cV (.val (.ref C)) (.ref C) as vs ks kvs) ao x (PySem.call (.ref C) vs ((ks.map (·.1)).zip kvs))) (λh=>?_) (ah.weaken (Y:=(bX as vs).and (bX (ks.map (·.2)) kvs)) (ah.new S hA) λ_ _ _ g=>g.2)
  rw[Bool.and_eq_true] at h
  rw[List.isEmpty_iff.mp h.2]
  exact ah.weaken (Y:=bX as vs) (ah.newX S hA) λ_ _ _ g=>g.2.1
 refine ip (P:=λx f=>ah X A (cV f fv as vs ks kvs) ao (mX X.K r f as ks) (PySem.call fv vs ((ks.map (·.1)).zip kvs))->ah X A (cV f fv as vs ks kvs) ao x (PySem.call fv vs ((ks.map (·.1)).zip kvs))) (λv fn=>?_) (λfn=>fn) fn
 refine my (P:=λx v=>ah X A (cV (.val v) fv as vs ks kvs) ao (mX X.K r (.val v) as ks) (PySem.call fv vs ((ks.map (·.1)).zip kvs))->ah X A (cV (.val v) fv as vs ks kvs) ao x (PySem.call fv vs ((ks.map (·.1)).zip kvs))) (λnm _=>ah.cz (P:=fv = .builtin nm) (λ_ _ _ g=>g.1) λe=>?_) (λfn=>?_) fn
 ·rw[e]
  exact ek (P:=λx ks=>ah X A (cV (.val (.builtin nm)) (.builtin nm) as vs ks kvs) ao x (PySem.call (.builtin nm) vs ((ks.map (·.1)).zip kvs))) (ah.Gr hA.2.2.1 hA.2.2.2.1 (Nat.lt_of_le_of_lt (Nat.add_le_add_left (show 2<=40 * (n+1) by omega) _) hA.2.1) (cV (.val (.builtin nm)) (.builtin nm) as vs [] kvs) vs λ_ _ _ g=>g.2.1) ah.fail
 refine sj (e:=v) (f:=λT=>dF ks (_root_.cond (T == "str") (uw as) (_root_.cond (T == "list") (tL as) (sF T as))) EM.fail) (P:=λx v=>ah X A (cV (.val v) fv as vs ks kvs) ao (mX X.K r (.val v) as ks) (PySem.call fv vs ((ks.map (·.1)).zip kvs))->ah X A (cV (.val v) fv as vs ks kvs) ao x (PySem.call fv vs ((ks.map (·.1)).zip kvs))) (λT _=>ah.cz (P:=fv = .type T) (λ_ _ _ g=>g.1) λe=>?_) (λfn=>fn) fn
 rw[e]
 refine ek (P:=λx ks=>ah X A (cV (.val (.type T)) (.type T) as vs ks kvs) ao x (PySem.call (.type T) vs ((ks.map (·.1)).zip kvs))) ?_ ah.fail
 refine ah.weaken (Y:=bX as vs) ?_ λ_ _ _ g=>g.2.1
 exact bQ (P:=λx=>ah X A (bX as vs) ao x (PySem.call (.type T) vs [])) (λh=>by rw[eq_of_beq h]; exact ah.strOf as _ vs λ_ _ _ g=>g) (bQ (P:=λx=>ah X A (bX as vs) ao x (PySem.call (.type T) vs [])) (λh=>by rw[eq_of_beq h]; exact ah.listOf hA.2.2.1 as _ vs λ_ _ _ g=>g) (ah.FQ _ as _ vs λ_ _ _ g=>g))
end
noncomputable def jf(args:List Expr)(kws:List Keyword):Bool:=args.all noStar && named kws && decide (args.length+kws.length+1<30)
noncomputable def C7(o:Option (Option Value)):Bool:=aQ o (λv=>aQ v (λw=>lu w (λ_=>true) false) false) false
theorem Hw{o:Option (Option Value)}:C7 o=true->∃i,o=some (some (Value.builtin i)) :=
 eA (P:=λb (o:Option (Option Value))=>b=true->∃i,o=some (some (Value.builtin i))) (λv=>eA (P:=λb (v:Option Value)=>b=true->∃i,some v=some (some (Value.builtin i))) (λw=>my (P:=λb (w:Value)=>b=true->∃i,some (some w)=some (some (Value.builtin i))) (λi _=>⟨i,rfl⟩) ff) ff) ff
noncomputable def qv(T:Option Value)(K:Frag):Bool:=C7 (T.bind λT=>findIn K T "__getitem__")
noncomputable def tP(K:Frag)(av:AV):EM Unit:=EM.st λJ=>EM.dz (qv (typ K J av) K) ()
noncomputable def cF{β:Type}(x:EM Bool)(y z:EM β):EM β:=EM.bind x λb=>EM.bind (EM.dec b) λb=>cond b y z
noncomputable def lj(K:Frag)(r:Rec)(ae:aB)(o:Expr)(name:Str)(args:List Expr)(kws:List Keyword):EM AV :=
 EM.bind (r.ev ae o) λov=>EM.bind (kq K ov name) λp=>eX K r ae p.1 p.2 args kws
noncomputable def C8(r:Rec)(ae:aB)(x:Expr):EM AV:=EM.bind (r.ev ae x) λa=>cM a (λi=>EM.ret (.int (-i))) EM.fail
section
variable(K:Frag)(r:Rec)(ae:aB)
noncomputable def AP(o:Expr)(attr:Str):EM AV:=cond (iq o) (EM.bind (r.ev ae o) λov=>u7 K ov attr) EM.fail
noncomputable def BW(o i:Expr):EM AV:=cond (eK i) (EM.bind (r.ev ae o) λov=>EM.bind (r.ev ae i) λiv=>EM.bind (tP K ov) λ_=>BH K r.hs ov iv) EM.fail
noncomputable def oq(o:Expr)(name:Str)(apos:Pos)(args:List Expr)(kws:List Keyword)(pos:Pos):EM AV:=cond (iq o && jf args kws && (apos.endLine == pos.line)) (lj K r ae o name args kws) EM.fail
end
theorem AQ{env:Env}:∀{es:List Expr},(es.map λe=>(false,PySem.eval e env)).all (!·.1)=true
 | []=>rfl
 | _::es=>AQ (es:=es)
theorem all_some{β:Type}:∀l:List (Option Str×β),l.all (·.1.isSome) = !l.any (·.1.isNone)
 | []=>rfl
 | (none,_)::_=>rfl
 | (some _,_)::l=>all_some l
theorem Gs{args:List Expr}{kws:List Keyword}{pos:Pos}{env:Env}(h:jf args kws=true):
  methodCallForm (args.length+kws.length) (backTo pos (starEach args env)) (backToKw pos (keywordEach kws env))=true:=by
 rw[jf,Bool.and_eq_true,Bool.and_eq_true] at h
 have h1:=h.1.1
 have h2:=h.1.2
 have h3:=of_decide_eq_true h.2
 unfold methodCallForm
 rw[pZ h1,p3,AQ,all_some,uj,h2]
 have:∀b:Bool,(if b=true then 0 else 1)<=1:=by decide
 exact decide_eq_true (Nat.lt_of_le_of_lt (Nat.add_le_add_left (this _) _) h3)
theorem nM{o:Expr}{name:Str}{apos pos:Pos}{args:List Expr}{kws:List Keyword}{env:Env}(h1:iq o=true)(h2:jf args kws=true)(h3:apos.endLine=pos.line):
  eval (.Call (.Attribute o name apos) args kws pos) env=(eval o env >>= λov=>PySem.standAt apos.atName >>= λ_=>PySem.holding [ov] (getMethod ov name (do return (<- importBound o env).getD true)) >>= λq =>
   PySem.callWith pos q.1 q.2 (backTo pos (starEach args env)) (backToKw pos (keywordEach kws env))):=by
 have e:eval (.Call (.Attribute o name apos) args kws pos) env=(attributeBase o name env (eval o env) >>= λov=>PySem.standAt apos.atName >>= λ_=>methodCall o name apos pos env ov (args.length+kws.length) (backTo pos (starEach args env)) (backToKw pos (keywordEach kws env))):=rfl
 rw[e,sz h1]
 unfold methodCall
 have hp:methodCallPos true o env apos pos=pure pos:=if_pos (by rw[h3,beq_self_eq_true]; rfl)
 rw[Gs h2,hp]
 rfl
section
variable{X:Ctx}{A:Around}{Z:ay}{F:Fz}{J:St}{s:Shared}{Y:Kn}{r:Rec}{n:Nat}{ae:aB}{env:Env}
noncomputable def bh(X:Ctx)(A:Around)(ae:aB)(env:Env)(x:EM AV)(e:Expr):Prop:=ah X A (aA X ae env) ao x (eval e env)
noncomputable def bu(X:Ctx)(A:Around)(ae:aB)(env:Env)(x:EM aU)(st:Stmt):Prop:=ah X A (aA X ae env) cn x (exec st env)
theorem ah.br{α β:Type}{x:EM Bool}{y z:EM β}{t:Sem Bool}{k:Bool->Sem α}{R:β->α->Kn}(hx:ah X A Y ew x t)(hy:ah X A Y R y (k true))(hz:ah X A Y R z (k false)):ah X A Y R (cF x y z) (t >>= k) :=
 ah.bind hx λb c=>ah.cz (P:=b=c) (Kn.snd (Kn.le_refl _)) λh=>ah.dec (by
  subst h
  cases b
  ·exact hz.weaken (Kn.fst (Kn.le_refl _))
  ·exact hy.weaken (Kn.fst (Kn.le_refl _)))
theorem Gu{T:Option Value}{K:Frag}(h:qv T K=true):∃T' i,T=some T'/\findIn K T' "__getitem__" = some (some (.builtin i)) :=
 (Hw h).elim λi h=>(Option.bind_eq_some_iff.mp h).elim λT' q=>⟨T',i,q⟩
theorem ah.AR{av:AV}{v:Value}{k:Bool->Sem Value}{f:Unit->EM AV}{R:AV->Value->Kn}(hv:Y.le (ao av v))(hk:ah X A Y R (f ()) (k false)):ah X A Y R (EM.bind (tP X.K av) f) (getitemInPython v >>= k):=by
 refine ah.bw λJ Z F s I g=>ai.eP (x:=EM.dz (qv (typ X.K J av) X.K) ()) (P:=λ_=>qv (typ X.K J av) X.K=true) (ai.dz λh=>⟨rfl,h⟩) λ_ h ds b ev' cs e hc Q E hQ=>?_
 refine(Gu h).elim λT q=>q.elim λi q=>?_
 have T1:=pT (M:=model X.prog X.w) I (hv _ _ _ g) q.1
 unfold getitemInPython
 refine wpAny_bind (wpAny_bind (wpAny_bind (T1.here ((looks_findIn I.bV q.2).here ?_))))
 exact wpAny_pure (hk (J,ds) b ev' cs e hc Z F s I g Q E hQ)
theorem ah.letGo{base:Expr}{o:Value}{x:EM AV}{t:Sem Value}{R:AV->Value->Kn}(h:ah X A Y R x t):ah X A Y R x (t >>= λr=>letTemporaryGo base o r >>= λ_=>pure r) :=
 λev b ev' cs e hc Z F s I g Q E hQ=>wpAny_bind (h ev b ev' cs e hc Z F s I g _ E λv s' aq F' a b c=>wpAny_bind (wpAny_letTemporaryGo (wpAny_pure (hQ v s' aq F' a b c))))
theorem ah.neg(S:Sound X r n)(hA:aN X A n)(x:Expr)(p:Pos):bh X A ae env (C8 r ae x) (.UnaryOp .USub x p):=by
 unfold bh
 rw[eval_UnaryOp]
 refine ah.bind (S.ev A hA ae env x) λa av=>ah.standAt (ah.holding ?_)
 refine fJ (P:=λ(x:EM AV) a=>ah X A ((aA X ae env).and (ao a av)) ao x (unaryOp .USub av)) (λi=>ah.bw λJ Z F s I g=>ai.ret ((show ∃t,av = .int i t from g.2).elim λt h=>h▸Goes.tok I λQ E hQ=>P.neg_int (hQ _ _ ⟨_,rfl⟩))) ah.fail
theorem ah.NV(S:Sound X r n)(hA:aN X A n)(test body orelse:Expr)(p:Pos):bh X A ae env (cF (r.tst ae test) (r.ev ae body) (r.ev ae orelse)) (.IfExp test body orelse p):=by
 unfold bh
 rw[eval_IfExp]
 exact ah.br (S.tst A hA ae env test) (S.ev A hA ae env body) (S.ev A hA ae env orelse)
theorem ah.Kd(S:Sound X r n)(hA:aN X A n)(o:Expr)(attr:Str)(p:Pos):bh X A ae env (AP X.K r ae o attr) (.Attribute o attr p):=by
 refine ah.aW λhs=>ah.eq (t':=attributeBase o attr env (eval o env) >>= λov=>PySem.standAt p.atName >>= λ_=>PySem.holding [ov] (getAttr ov attr true) >>= λr=>letTemporaryGo o ov r >>= λ_=>pure r) rfl ?_
 rw[sz hs]
 exact ah.bind (S.ev A hA ae env o) λa av=>ah.standAt (ah.letGo (ah.holding (ah.attr (Kn.snd (Kn.le_refl _)))))
theorem ah.Mc(S:Sound X r n)(hA:aN X A n)(o i:Expr)(p:Pos):bh X A ae env (BW X.K r ae o i) (.Subscript o i p):=by
 refine ah.aW λhs=>?_
 rw[eval_Subscript]
 refine ah.bind (S.ev A hA ae env o) λa av=>ah.bind (ah.holding ((S.ev A hA ae env i).weaken (Kn.fst (Kn.le_refl _)))) λb bv=>ah.standAt (ah.AR (Kn.fst (Kn.snd (Kn.le_refl _))) ?_)
 rw[EJ av bv hs]
 exact ah.letGo (ah.operate (ah.L8 S.hs (Kn.fst (Kn.snd (Kn.le_refl _))) (Kn.snd (Kn.le_refl _))))
theorem jH{o:Expr}{args:List Expr}{kws:List Keyword}{apos pos:Pos}(hc:(iq o && jf args kws && (apos.endLine == pos.line))=true):iq o=true/\jf args kws=true/\apos.endLine=pos.line:=by
 rw[Bool.and_eq_true,Bool.and_eq_true] at hc
 exact⟨hc.1.1,hc.1.2,eq_of_beq hc.2⟩
theorem ah.Ke(S:Sound X r n)(hA:aN X A n)(o:Expr)(name:Str)(apos:Pos)(args:List Expr)(kws:List Keyword)(pos:Pos):bh X A ae env (oq X.K r ae o name apos args kws pos) (.Call (.Attribute o name apos) args kws pos):=by
 refine ah.aW λhc=>?_
 rw[nM (jH hc).1 (jH hc).2.1 (jH hc).2.2]
 exact ah.bind (S.ev A hA ae env o) λa av=>ah.standAt (ah.bind (ah.holding (ah.method (Kn.snd (Kn.le_refl _)))) λp q=>ah.callWith S hA pos args kws (Kn.fst (Kn.fst (Kn.le_refl _))) (Kn.snd (Kn.fst (Kn.le_refl _))) (Kn.snd (Kn.snd (Kn.le_refl _))))
theorem ah.Kf(S:Sound X r n)(hA:aN X A n)(y:Str)(p:Pos)(args:List Expr)(kws:List Keyword)(pos:Pos):bh X A ae env (EM.bind (r.ev ae (.Name y p)) λf=>eX X.K r ae f [] args kws) (.Call (.Name y p) args kws pos) :=
 ah.eq (t':=eval (.Name y p) env >>= λf=>PySem.callWith pos f [] (backTo pos (starEach args env)) (backToKw pos (keywordEach kws env))) rfl
  (ah.bind (S.ev A hA ae env _) λf fv=>ah.callWith S hA pos args kws (Kn.fst (Kn.le_refl _)) (Kn.snd (Kn.le_refl _)) (λ_ _ _ _=>rfl))
end
noncomputable def C9(r:Rec)(ae:aB)(op:BoolOp)(es:List Expr):EM Bool:=es.foldr (λe k=>_root_.cond (op == .And) (cF (r.tst ae e) k (EM.ret false)) (cF (r.tst ae e) (EM.ret true) k)) (EM.ret (op == .And))
noncomputable def uz(e:Expr):Bool:=eC e (λ_ _=>true) <| fu e (λ_ _ _=>true) <| kx e (λ_ _ _ _=>true) <| lq e (λ_ _ _=>true) <| kc e (λ_ _ _=>true) false
theorem Fe{e:Expr}{env:Env}{w:Sem Value}(h:uz e=true):isTrue e env w=(w >>= λv=>PySem.standAt e.pos >>= λ_=>PySem.holding [v] (PySem.truthy v)):=by
 revert h
 unfold uz
 exact eJ (P:=λb e=>b=true->isTrue e env w=(w >>= λv=>PySem.standAt e.pos >>= λ_=>PySem.holding [v] (PySem.truthy v))) (λ_ _ _=>rfl) <|
  fH (P:=λb e=>b=true->isTrue e env w=(w >>= λv=>PySem.standAt e.pos >>= λ_=>PySem.holding [v] (PySem.truthy v))) (λ_ _ _ _=>rfl) <|
  lr (P:=λb e=>b=true->isTrue e env w=(w >>= λv=>PySem.standAt e.pos >>= λ_=>PySem.holding [v] (PySem.truthy v))) (λ_ _ _ _ _=>rfl) <|
  mx (P:=λb e=>b=true->isTrue e env w=(w >>= λv=>PySem.standAt e.pos >>= λ_=>PySem.holding [v] (PySem.truthy v))) (λ_ _ _ _=>rfl) <|
  la (P:=λb e=>b=true->isTrue e env w=(w >>= λv=>PySem.standAt e.pos >>= λ_=>PySem.holding [v] (PySem.truthy v))) (λ_ _ _ _=>rfl) ff
noncomputable def namesOf(es:List Expr):Option (List Str):=es.foldr (λe k=>eC e (λx _=>k.map (x::·)) none) (some [])
noncomputable def ou(ae:aB)(xs:List Str):List AV->EM Unit:=xs.foldr (λx k vs=>gj vs (λv vs=>EM.bind (fe ae x v) λ_=>k vs) EM.fail) (λvs=>dF vs (EM.ret ()) EM.fail)
noncomputable def cb(K:Frag)(r:Rec)(ae:aB)(v:AV)(t:Expr):EM Unit:=eC t (λx _=>fe ae x v) <| fu t (λo attr _=>EM.bind (r.ev ae o) λov=>yL K ov attr v) <|
 kc t (λo i _=>cond (eK i) (EM.bind (r.ev ae o) λov=>EM.bind (r.ev ae i) λiv=>ta ov iv v) EM.fail) <|
 lA t (λelts _ _=>aQ (namesOf elts) (λxs=>iC v (λvs=>cond (Nat.beq xs.length vs.length) (ou ae xs vs) EM.fail) EM.fail) EM.fail) EM.fail
section
variable{X:Ctx}{A:Around}{Z:ay}{F:Fz}{J:St}{s:Shared}{Y:Kn}{r:Rec}{n:Nat}{ae:aB}{env:Env}
theorem ah.all(S:Sound X r n)(hA:aN X A n)(op:BoolOp):∀es:List Expr,ah X A (aA X ae env) ew (C9 r ae op es) (allTrue op es env)
 | []=>ah.ret λ_ _ _ _=>rfl
 | e::es=>by
  have ih:=ah.all S hA op es
  have h1:=S.tst A hA ae env e
  cases op
  ·exact ah.eq (t':=isTrue e env (eval e env) >>= λb=>match b with | false=>pure false | true=>allTrue .And es env) (bind_congr λb=>by cases b <;> rfl) (ah.br h1 ih (ah.ret λ_ _ _ _=>rfl))
  ·exact ah.eq (t':=isTrue e env (eval e env) >>= λb=>match b with | true=>pure true | false=>allTrue .Or es env) (bind_congr λb=>by cases b <;> rfl) (ah.br h1 (ah.ret λ_ _ _ _=>rfl) ih)
theorem ah.bindName{Y:Kn}{y:Str}{av:AV}{v:Value}(hg:Y.le (aA X ae env))(hv:Y.le (ao av v)):ah X A Y (λ_ _=>Kn.top) (fe ae y av) (bindName env y v):=λev b ev' cs e hc Z F s I g Q E hQ=>wpAny_bindName (ah.store hg hv ev b ev' cs e hc Z F s I g Q E hQ)
theorem ah.inOrder(f:Str×Pos->Value->Sem Unit)(hf:∀q v,f q v=(PySem.standAt q.2 >>= λ_=>PySem.bindName env q.1 v)∨f q v=PySem.bindName env q.1 v):∀(l:List (Str×Pos)) (avs:List AV) (vs:List Value) (Y:Kn),Y.le (aA X ae env)->Y.le (bX avs vs) ->
  ah X A Y (λ_ _=>Kn.top) (ou ae (l.map (·.1)) avs) (assignInOrder (l.map f) vs)
 | [],avs,vs,Y,hg,hv=>ek (P:=λ(x:EM Unit) avs=>ah X A Y (λ_ _=>Kn.top) x (assignInOrder [] vs)) (ah.ret λ_ _ _ _=>trivial) ah.fail
 | q::l,avs,vs,Y,hg,hv=>by
  cases avs with
  | nil=>exact ah.fail
  | cons av avs =>
   cases vs with
   | nil=>exact ah.cz (P:=False) (λ_ _ _ g=>(hv _ _ _ g:False)) False.elim
   | cons v vs =>
    have q1:Y.le (ao av v):=λ_ _ _ g=>(hv _ _ _ g).1
    have q2:Y.le (bX avs vs):=λ_ _ _ g=>(hv _ _ _ g).2
    refine ah.bind (t:=PySem.holding vs (f q v)) (R:=λ_ _=>Kn.top) (ah.holding ?_) λ_ _=>ah.inOrder f hf l avs vs _ (Kn.fst hg) (Kn.fst q2)
    rcases hf q v with h | h
    ·exact h▸ah.standAt (ah.bindName hg q1)
    ·exact h▸ah.bindName hg q1
noncomputable def nm(q:Str×Pos):Expr:=.Name q.1 q.2
noncomputable def rK(env:Env)(q:Str×Pos)(v:Value):Sem Unit:=PySem.standAt q.2 >>= λ_=>PySem.bindName env q.1 v
theorem xP:∀{es:List Expr} {xs:List Str},namesOf es=some xs->∃l:List (Str×Pos),es=l.map nm/\xs=l.map (·.1)
 | [],xs,h=>⟨[],rfl,(Option.some.inj h).symm⟩
 | e::es,xs,h=>eJ (P:=λ(x:Option (List Str)) e=>x=some xs->∃l:List (Str×Pos),e::es=l.map nm/\xs=l.map (·.1)) (λx p h =>
   (Option.map_eq_some_iff.mp h).elim λys q=>(xP q.1).elim λl r=>⟨(x,p)::l,by rw[r.1]; rfl,by rw[<- q.2,r.2]; rfl⟩) (λh=>aJ h) h
theorem zG:∀l:List (Str×Pos),assignEach (l.map nm) env=l.map λq=>(false,rK env q)
 | []=>rfl
 | q::l=>congrArg ((false,rK env q)::·) (zG l)
theorem AS(f:Str×Pos->Value->Sem Unit):∀l:List (Str×Pos),(l.map λq=>(false,f q)).findIdx? (·.1)=none
 | []=>rfl
 | q::l=>by
  show List.findIdx? _ ((false,f q)::l.map λq=>(false,f q))=none
  rw[List.findIdx?_cons]
  simp only[Bool.false_eq_true,if_false,AS f l]
  rfl
theorem Ff(o:Expr){i:Expr}(p:Pos)(env:Env)(v:Value):eK i=true->assign (.Subscript o i p) env v=(PySem.holding [v] (eval o env) >>= λov=>PySem.holding [v,ov] (eval i env) >>= λiv=>PySem.standAt p >>= λ_=>PySem.holding [v,ov,iv] (PySem.setItem ov iv v) >>= λ_=>release [v,ov,iv] []) :=
 kg (P:=λi=>assign (.Subscript o i p) env v=(PySem.holding [v] (eval o env) >>= λov=>PySem.holding [v,ov] (eval i env) >>= λiv=>PySem.standAt p >>= λ_=>PySem.holding [v,ov,iv] (PySem.setItem ov iv v) >>= λ_=>release [v,ov,iv] [])) (λ_ _ _=>rfl) (λ_ _=>rfl) (λ_ _ _=>rfl) (λ_ _ _=>rfl) (λ_ _ _ _=>rfl) (λ_ _ _ _=>rfl) (λ_ _ _=>rfl) (λ_ _ _ _=>rfl) (λ_ _ _ _=>rfl) (λ_ _=>rfl) (λ_ _ _=>rfl) (λ_ _ _=>rfl)
theorem ah.rel{α β:Type}{x:EM β}{t:Sem α}{l m:List Value}(h:ah X A Y (λ_ _=>Kn.top) x t):ah X A Y (λ_ _=>Kn.top) x (t >>= λ_=>release l m):=λev b ev' cs e hc Z F s I g Q E hQ=>wpAny_bind (h ev b ev' cs e hc Z F s I g _ E λu s' aq F' a b c=>wpAny_release (hQ () s' aq F' trivial b c))
theorem ah.Hx(hA:A.handled=none){vs:List AV}{v:Value}{l:List (Str×Pos)}(hl:l.length=vs.length)(hg:Y.le (aA X ae env))(hv:Y.le (ao (.tup vs) v)):ah X A Y (λ_ _=>Kn.top) (ou ae (l.map (·.1)) vs) (unpack v (l.map λq=>(false,rK env q))):=by
 unfold unpack
 rw[AS,List.length_map,hl]
 intro ev b ev' cs e hc Z F s I g Q E hQ
 cases fL (hv _ _ _ g) with | mk a ws k e1 h hs =>
 rw[e1]
 refine wpAny_bind (wpAny_holding ?_)
 rw[hs.length,show ws.length=ws.toArray.size by simp]
 refine unpackItems_tuple hA ⟨_,I.froz _ _ h,rfl,k,rfl⟩ λh' hk=>?_
 have r:=I.grow (h':=h') (λb o e=>hk b o (Nat.ne_of_lt (Heap.lt_size e)) e) s.toks
 have:=ah.inOrder (A:=A) (rK env) (λ_ _=>.inl rfl) l vs ws ((aA X ae env).and (bX vs ws)) (Kn.fst (Kn.le_refl _)) (Kn.snd (Kn.le_refl _)) ev b ev' cs e hc Z F _ r.1 ⟨hg _ _ _ g,hs⟩ Q E λu s' aq F' a b c=>hQ u s' aq F' a b (r.2.trans c)
 rw[List.map_map]
 exact this
theorem ah.assign(S:Sound X r n)(hA:aN X A n){Y:Kn}{av:AV}{v:Value}(t:Expr)(hg:Y.le (aA X ae env))(hv:Y.le (ao av v)):ah X A Y (λ_ _=>Kn.top) (cb X.K r ae av t) (assign t env v):=by
 have ev:=λe=>(S.ev A hA ae env e).weaken hg
 refine eJ (P:=λx t=>ah X A Y (λ_ _=>Kn.top) x (PySem.assign t env v)) (λy p=>ah.eq (t':=PySem.standAt p >>= λ_=>PySem.bindName env y v) rfl (ah.standAt (ah.bindName hg hv))) ?_
 refine fH (P:=λx t=>ah X A Y (λ_ _=>Kn.top) x (PySem.assign t env v)) (λo attr p=>?_) ?_
 ·refine ah.eq (t':=PySem.holding [v] (eval o env) >>= λov=>PySem.standAt p.atName >>= λ_=>PySem.holding [v,ov] (PySem.setAttr ov attr v) >>= λ_=>release [v,ov] []) rfl ?_
  exact ah.bind (ah.holding (ev o)) λa b=>ah.standAt (ah.rel (ah.holding ((ah.setAttr (Kn.snd (Kn.le_refl _)) (Kn.fst hv)).post λ_ _ _ _ _ _=>trivial)))
 refine la (P:=λx t=>ah X A Y (λ_ _=>Kn.top) x (PySem.assign t env v)) (λo i p=>ah.aW λhs=>?_) ?_
 ·rw[Ff o p env v hs]
  exact ah.bind (ah.holding (ev o)) λa b=>ah.bind (ah.holding ((ev i).weaken (Kn.fst (Kn.le_refl _)))) λa2 b2=>ah.standAt (ah.rel (ah.holding ((ah.setItem (Kn.fst (Kn.snd (Kn.le_refl _))) (Kn.snd (Kn.le_refl _)) (Kn.fst (Kn.fst hv))).post λ_ _ _ _ _ _=>trivial)))
 refine iU (P:=λx t=>ah X A Y (λ_ _=>Kn.top) x (PySem.assign t env v)) (λelts c p=>?_) ah.fail
 revert hv
 cases hn:namesOf elts with
 | none=>exact λ_=>ah.fail
 | some xs =>
  refine jC (P:=λx av=>Y.le (ao av v)->ah X A Y (λ_ _=>Kn.top) x (PySem.assign (.Tuple elts c p) env v)) (λvs hv=>ah.aW λhl=>?_) λ_=>ah.fail
  refine(xP hn).elim λl h=>?_
  have hl':=Nat.eq_of_beq_eq_true hl
  rw[h.2,List.length_map] at hl'
  rw[h.1,h.2]
  refine ah.eq (t':=PySem.standAt p >>= λ_=>unpack v (assignEach (l.map nm) env)) rfl (ah.standAt ?_)
  rw[zG]
  exact ah.Hx hA.2.2.1 hl' hg hv
end
noncomputable def dZ(v:AV):EM AV:=bT v (λi=>EM.bind (EM.cell i) λc =>
 Aq c (λa b c=>EM.bind (EM.cond (c=1/\-(2 ^ 62)<=a/\a<2 ^ 62/\-(2 ^ 62)<=b/\b<2 ^ 62)) λ_=>EM.bind (EM.push (.rit a (if a<b then b - a else 0) 1)) λj=>EM.ret (.ref j)) <|
 qr c (λ_ _=>EM.ret (.ref i)) <| uf c (λ_ _=>EM.ret (.ref i)) <| lE c (λ_=>EM.bind (EM.push (.liter i 0)) λj=>EM.ret (.ref j)) EM.fail) <|
 jP v (λxs=>EM.bind (EM.push (.fit xs 0)) λj=>EM.ret (.ref j)) EM.fail
noncomputable def yO(K:Frag)(r:Rec)(ae:aB)(t value:Expr):EM aU:=_root_.cond (il t && eK value) (EM.bind (r.ev ae value) λv=>EM.bind (cb K r ae v t) λ_=>EM.ret .next) EM.fail
section
variable(r:Rec)(ae:aB)
noncomputable def BX(o i:Expr)(op:Operator)(value:Expr):EM aU:=_root_.cond (eK i) (EM.bind (r.ev ae o) λov=>EM.bind (r.ev ae i) λiv=>EM.bind (EM.bind (vg r.hs ov iv) λold=>EM.bind (r.ev ae value) λv=>vV op old v) λnw=>EM.bind (BF r.hs ov iv nw) λ_=>EM.ret .next) EM.fail
noncomputable def BY(target iter:Expr)(body:List Stmt):EM aU:=_root_.cond (eK iter) (EM.bind (r.ev ae iter) λv=>EM.bind (dZ v) λit=>r.cp ae target it body) EM.fail
noncomputable def AU(e:Expr):EM aU:=_root_.cond (eK e) (EM.bind (r.ev ae e) λ_=>EM.ret .next) EM.fail
noncomputable def BZ(test:Expr)(body:List Stmt):EM aU:=cF (r.tst ae test) (EM.bind (r.aV ae body) λfl=>kO fl (r.loop ae test body) (λv=>EM.ret (.ret v)) (EM.ret .next)) (EM.ret .next)
end
section
variable(target:Expr)(i:Nat)
noncomputable def mN:EM (Option AV):=EM.bind (EM.aK oI i) λq=>EM.bind (EM.aW (il target)) λ_=>EM.bind EM.eu λo=>aQ o (λ_=>EM.turn (0<q.2.1) (λJ=>J.set i (.rit (q.1+q.2.2) (q.2.1 - 1) q.2.2)) (some (.int q.1))) (EM.bz (q.2.1<=0) none)
noncomputable def kr:EM (Option AV):=EM.bind (EM.aK lN i) λq=>EM.bind (EM.aW (isTup target)) λ_=>EM.bind (EM.aK o7 q.1) λw=>EM.bind (EM.aK iz w.1) λxs=>EM.bind (EM.aW (Nat.beq w.2 q.2)) λ_ =>
 EM.bind EM.eu λo=>aQ o (λy=>EM.turn (xs[q.2]? = some y) (λJ=>(J.set q.1 (.wl w.1 (w.2+1))).set i (.enum q.1 (q.2+1))) (some (.tup [.int q.2,y]))) (EM.turn (xs[q.2]? = none) (λJ=>J.set q.1 .any) none)
noncomputable def zH:EM (Option AV):=EM.bind (EM.aK zq i) λq=>EM.bind (EM.aW (il target || isTup target)) λ_=>qN i q.1 q.2
noncomputable def yP:EM (Option AV):=EM.bind (EM.aK BA i) λq=>EM.bind (EM.aW (il target)) λ_=>EM.bind (EM.aK iz q.1) λxs=>EM.bind EM.eu λo=>aQ o (λy=>EM.turn (0<=q.2/\xs[q.2.toNat]? = some y) (λJ=>J.set i (.rev q.1 (q.2 - 1))) (some y)) (EM.bz (q.2 = -1) none)
noncomputable def nY:EM (Option AV):=EM.bind (EM.aK lN i) λq=>EM.bind (EM.aW (isTup target)) λ_=>EM.bind (EM.aK u4 q.1) λw=>EM.bind (EM.aW (Nat.beq w.2 q.2)) λ_ =>
 EM.bind EM.eu λo=>aQ o (λy=>EM.turn ((w.1.cps[q.2]?).map (λc=>AV.str ⟨#[c]⟩)=some y) (λJ=>(J.set q.1 (.sit w.1 (w.2+1))).set i (.enum q.1 (q.2+1))) (some (.tup [.int q.2,y]))) (EM.turn (w.1.cps[q.2]? = none) (λJ=>J.set q.1 .any) none)
noncomputable def yQ:EM (Option AV):=EM.bind (EM.aK u5 i) λq=>EM.bind (EM.aW (il target || isTup target)) λ_=>EM.bind EM.eu λo=>aQ o (λy=>EM.turn (q.1[q.2]? = some y) (λJ=>J.set i (.fit q.1 (q.2+1))) (some y)) (EM.turn (q.1[q.2]? = none) (λJ=>J.set i .any) none)
noncomputable def zI:EM (Option AV):=EM.bind (EM.aK lN i) λq=>EM.bind (EM.aW (isTup target)) λ_=>EM.bind (EM.aK u5 q.1) λw=>EM.bind (EM.aW (Nat.beq w.2 q.2)) λ_ =>
 EM.bind EM.eu λo=>aQ o (λy=>EM.turn (w.1[q.2]? = some y) (λJ=>(J.set q.1 (.fit w.1 (w.2+1))).set i (.enum q.1 (q.2+1))) (some (.tup [.int q.2,y]))) (EM.turn (w.1[q.2]? = none) (λJ=>J.set q.1 .any) none)
end
noncomputable def b0(target:Expr)(it:AV):EM (Option AV):=bT it (λi=>EM.or (mN target i) (EM.or (kr target i) (EM.or (nY target i) (EM.or (zI target i) (EM.or (yP target i) (EM.or (yQ target i) (zH target i))))))) EM.fail
noncomputable def kF(K:Frag)(r:Rec)(ae:aB)(elt target:Expr)(c:Option Expr)(it acc:AV):EM aU:=EM.bind (b0 target it) λo=>aQ o (λv=>EM.bind (cb K r ae v target) λ_=>aQ c (λc=>cF (r.tst ae c) (EM.bind (EM.bind (r.ev ae elt) λx=>fM [acc,x]) λ_=>r.comp ae elt target (some c) it acc) (r.comp ae elt target (some c) it acc)) (EM.bind (EM.bind (r.ev ae elt) λx=>fM [acc,x]) λ_=>r.comp ae elt target none it acc)) (EM.ret .next)
noncomputable def AW(N:Nat):EM Unit:=EM.bind (EM.word some) λw=>nV w (EM.st λJ=>EM.turn (∀p∈(J.cut N).objs,bA N p.2) (λJ=>J.cut N) ()) <| mV w (EM.ret ()) <|
 zl w (λi xs=>EM.bind (EM.aK jh i) λm=>EM.bind (EM.upd λJ=>J.set i (.ns (m.filter λq=>!(xs.contains q.1)))) λ_=>EM.st λJ=>EM.turn (∀p∈(J.cut N).objs,bA N p.2) (λJ=>J.cut N) ()) EM.fail
noncomputable def rd(N:Nat)(v:AV):AV:=bT v (λi=>_root_.cond (Nat.ble N i) .any (.ref i)) v
noncomputable def Kg(N d:Nat):EM Unit:=EM.bind (EM.aK gS d) λm=>EM.upd λJ=>J.set d (.dict (m.map λq=>(q.1,rd N q.2)))
noncomputable def zJ(N:Nat):EM Unit:=EM.or (EM.bind (EM.word λw=>oj w some none) λl=>dA l (Kg N) EM.fail) (EM.ret ())
noncomputable def iF(N:Nat):EM Unit:=EM.bind (zJ N) λ_=>AW N
noncomputable def oO(K:Frag)(r:Rec)(ae:aB)(target:Expr)(it:AV)(body:List Stmt):EM aU:=EM.st λJ=>EM.bind (b0 target it) λo=>aQ o (λv=>EM.bind (EM.bind (cb K r ae v target) λ_=>r.aV ae body) λfl =>
 kO fl (EM.bind (iF J.n) λ_=>r.cp ae target it body) (λv=>EM.ret (.ret v)) (EM.ret .next)) (EM.ret .next)
section
variable{X:Ctx}{A:Around}{Z:ay}{F:Fz}{J:St}{s:Shared}{Y:Kn}{r:Rec}{n:Nat}{ae:aB}{env:Env}
theorem Inv.vm(I:Inv X Z F J s){i l:Nat}{k:Int}(h:J.get i=some (.rev l k)):s.heap.IsRevIter (Z i) (Z l) k/\l<J.n:=(I.at h).elim λo h=>(λ(q:(o.cls = .type "list_reverseiterator"/\o.data = .fields #[.ref (Z l),.int k 0])/\l<J.n)=>⟨⟨o,h.1,q.1.1,q.1.2⟩,q.2⟩) h.2
theorem Inv.B0(I:Inv X Z F J s){i:Nat}{x:Str}{k:Nat}(h:J.get i=some (.sit x k)):∃t,s.heap.IsStrIter (Z i) (kD x) x t k:=(I.at h).elim λo h=>(λ(q:o.cls = .type (kD x)/\∃t,o.data = .fields #[.str x t,.int k 0])=>q.2.elim λt e=>⟨t,o,h.1,q.1,e⟩) h.2
theorem ah.pyIter{av:AV}{v:Value}(hv:Y.le (ao av v)):ah X A Y ao (dZ av) (pyIter v):=by
 refine ah.bw λJ Z F s I g=>?_
 refine b8 (P:=λy av=>Den J.n Z F av v->ai J y λb aj=>Goes X A Z F J s (PySem.pyIter v) (ao b) aj) (λi d=>?_) (ly (P:=λy av=>Den J.n Z F av v->ai J y λb aj=>Goes X A Z F J s (PySem.pyIter v) (ao b) aj) (λxs d=>ai.push (ai.ret ?_)) (λ_=>ai.fail)) (hv _ _ _ g)
 rotate_left
 ·cases iu d with | mk a ws k e hF hs =>
  rw[e]
  exact Goes.to λQ E hQ=>wpAny_pyIter_list (items:=ws.toArray) ⟨_,I.froz _ _ hF,rfl,k,rfl⟩ (hQ _ _ _ F (Den.fresh Z F J _ _) (I.push (a:=s.heap.objs.size) (c:=.fit xs 0) (Heap.get?_none_of_le (Nat.le_refl _)) (λb o e=>Heap.get?_push_of_some _ e) (.qZ (b:=a) ⟨_,Heap.get?_push_size _ rfl,rfl,rfl⟩ hF (hs.mono (Nat.le_succ _) (λi hi=>ay.fx Z _ hi) λ_ _ e=>e)) s.toks))
 rw[(dK d).1]
 refine ai.cell λc=>EV (P:=λy c=>J.get i=some c->ai J y λb aj=>Goes X A Z F J s (PySem.pyIter (.ref (Z i))) (ao b) aj) (λa b c hx=>ai.cond λh=>ai.push (ai.ret ?_)) <|
  sk (P:=λy c=>J.get i=some c->ai J y λb aj=>Goes X A Z F J s (PySem.pyIter (.ref (Z i))) (ao b) aj) (λit k hx=>ai.ret ((I.kM hx).elim λold he=>Goes.same I λQ E hQ=>wpAny_pyIter_enum he.1 (hQ _ ⟨rfl,d.2⟩))) <|
  xy (P:=λy c=>J.get i=some c->ai J y λb aj=>Goes X A Z F J s (PySem.pyIter (.ref (Z i))) (ao b) aj) (λl k hx=>ai.ret (Goes.same I λQ E hQ=>wpAny_pyIter_revIter (I.vm hx).1 (hQ _ ⟨rfl,d.2⟩))) <|
  mA (P:=λy c=>J.get i=some c->ai J y λb aj=>Goes X A Z F J s (PySem.pyIter (.ref (Z i))) (ao b) aj) (λxs hx=>ai.push (ai.ret ((I.cA hx).elim λws q=>q.elim λk q=>Goes.to λQ E hQ=>wpAny_pyIter_list (items:=ws.toArray) ⟨_,q.1,rfl,k,rfl⟩ (yD I (I.lt hx) hQ)))) λ_=>ai.fail
 refine(I.JX hx).elim λt q=>q.elim λu q=>q.elim λv hr=>?_
 rw[h.1] at hr
 exact Goes.to λQ E hQ=>wpAny_pyIter_range hr (small_one h.2.1 h.2.2.1 h.2.2.2.1 h.2.2.2.2) (hQ _ _ _ F (Den.fresh Z F J _ _) (I.push (a:=s.heap.objs.size) (c:=.rit a (if a<b then b - a else 0) 1) (h':=s.heap.push { cls:=.type "range_iterator",data:=.fields #[rawInt a,rawInt (Builtin.Range.rangeSize a b 1),rawInt 1] }) (Heap.get?_none_of_le (Nat.le_refl _)) (λb o e=>Heap.get?_push_of_some _ e)
  ⟨_,Heap.get?_push_size _ rfl,by rw[rangeSize_one]; rfl⟩ s.toks))
theorem ah.B1{e:Expr}{p:Pos}{v:Value}:ah X A Y cn (EM.ret .next) (dropValue e p v):=ah.bw λJ Z F s I g=>ai.ret (Goes.same I λQ E hQ=>wpAny_dropValue (hQ _ rfl))
theorem ah.Hy(S:Sound X r n)(hA:aN X A n)(t value:Expr)(p:Pos):bu X A ae env (yO X.K r ae t value) (.Assign [t] value p):=ah.aW λhc=>by
 rw[Bool.and_eq_true] at hc
 rw[xh hc.1 hc.2]
 exact ah.standAt (ah.bind (S.ev A hA ae env value) λa v=>ah.bind (ah.assign S hA t (Kn.fst (Kn.le_refl _)) (Kn.snd (Kn.le_refl _))) λ_ _=>ah.ret λ_ _ _ _=>rfl)
noncomputable def zK(o i:Expr)(sp:Pos)(op:Operator)(value:Expr)(p:Pos)(env:Env):Sem Flow:=PySem.standAt p >>= λ_=>eval o env >>= λov=>PySem.holding [ov] (eval i env) >>= λiv =>
 PySem.holding [ov,iv] (PySem.standAt sp >>= λ_=>PySem.getItem ov iv >>= λold=>PySem.holding [old] (eval value env) >>= λv=>PySem.standAt p >>= λ_=>PySem.operate [old,v] (PySem.inplaceOp op old v)) >>= λnw =>
 PySem.standAt sp >>= λ_=>PySem.holding [nw,ov,iv] (PySem.setItem ov iv nw) >>= λ_=>release [nw,ov,iv] [] >>= λ_=>pure .next
theorem ah.released{l m:List Value}:ah X A Y cn (EM.ret .next) (release l m >>= λ_=>Pure.pure .next):=ah.bw λJ Z F s I g=>ai.ret (Goes.same I λQ E hQ=>wpAny_bind (wpAny_release (wpAny_pure (hQ _ rfl))))
theorem ah.Md(S:Sound X r n)(hA:aN X A n)(o i:Expr)(sp:Pos)(op:Operator)(value:Expr)(p:Pos):bu X A ae env (BX r ae o i op value) (.AugAssign (.Subscript o i sp) op value p):=ah.aW λhs=>by
 refine ah.eq (t':=zK o i sp op value p env) (kg (P:=λi=>exec (.AugAssign (.Subscript o i sp) op value p) env=zK o i sp op value p env) (λ_ _ _=>rfl) (λ_ _=>rfl) (λ_ _ _=>rfl) (λ_ _ _=>rfl) (λ_ _ _ _=>rfl) (λ_ _ _ _=>rfl) (λ_ _ _=>rfl) (λ_ _ _ _=>rfl) (λ_ _ _ _=>rfl) (λ_ _=>rfl) (λ_ _ _=>rfl) (λ_ _ _=>rfl) hs) ?_
 refine ah.standAt (ah.bind (S.ev A hA ae env o) λa av=>ah.bind (ah.holding ((S.ev A hA ae env i).weaken (Kn.fst (Kn.le_refl _)))) λb bv=>ah.bind (R:=ao) (ah.holding (ah.standAt (ah.bind (ah.C0 S.hs (Kn.fst (Kn.snd (Kn.le_refl _))) (Kn.snd (Kn.le_refl _))) λold oldv=>?_))) λnw nv=>ah.standAt ?_)
 ·exact ah.bind (ah.holding ((S.ev A hA ae env value).weaken (Kn.fst (Kn.fst (Kn.fst (Kn.le_refl _)))))) λw wv=>ah.standAt (ah.operate (ah.DU (Kn.fst (Kn.snd (Kn.le_refl _))) (Kn.snd (Kn.le_refl _))))
 ·exact ah.bind (ah.holding ((ah.L7 S.hs (Kn.fst (Kn.fst (Kn.snd (Kn.le_refl _)))) (Kn.fst (Kn.snd (Kn.le_refl _))) (Kn.snd (Kn.le_refl _))))) λ_ _=>ah.released
theorem ah.runs{x:EM aU}{c:Code}(h:dQ X A Y x c):ah X A Y cn x (runOwn c env):=λev b ev' cs e hc Z F s I g Q E hQ=>wpAny_runOwn (h:=none) (by rw[Around.mark_none]; exact h ev b ev' cs e hc Z F s I g _ λf s' aq F' a b c=>hQ f s' aq F' a b c)
theorem ah.Me(S:Sound X r n)(hA:aN X A n)(target iter:Expr)(body:List Stmt)(p:Pos):bu X A ae env (BY r ae target iter body) (.For target iter body [] p):=ah.aW λhs=>by
 rw[exec_For]
 refine ah.standAt (ah.bind (S.ev A hA ae env iter) λa v=>?_)
 rw[r9 hs]
 exact ah.eq (pure_bind _ _) (ah.standAt (ah.bind (ah.holding (ah.pyIter (Kn.snd (Kn.le_refl _)))) λit itv=>(ah.runs (S.cp A hA ae env target it itv body)).weaken λ_ _ _ g=>⟨g.1.1,g.2⟩))
theorem ah.Kh(S:Sound X r n)(hA:aN X A n)(e:Expr)(p:Pos):bu X A ae env (AU r ae e) (.Expr e p):=ah.aW λhn=>by
 refine ah.cz (P:=interactive env=false) (λ_ _ _ g=>by unfold interactive; rw[bx.sc g,bx.fn g]; rfl) λhi=>?_
 rw[exec_Expr env e p hi (kg (P:=λe=>swapsWith e none p.line env=pure false) (λ_ _ _=>rfl) (λ_ _=>rfl) (λ_ _ _=>rfl) (λ_ _ _=>rfl) (λ_ _ _ _=>rfl) (λ_ _ _ _=>rfl) (λ_ _ _=>rfl) (λ_ _ _ _=>rfl) (λ_ _ _ _=>rfl) (λ_ _=>rfl) (λ_ _ _=>rfl) (λ_ _ _=>rfl) hn)]
 exact ah.standAt (ah.bind (S.ev A hA ae env e) λa v=>ah.B1)
noncomputable def vo(X:Ctx)(A:Around)(R:Result->Shared->Prop)(fin:Fin)(s':Shared):Prop:=match fin with
 | .done f=>R (.ok f) s'
 | .again c'=>c'.quiet=true/\codeAny (model X.prog X.w) A c' R s'
noncomputable def bE(X:Ctx)(A:Around)(Y:Kn)(x:EM aU)(t:Sem Fin):Prop:=∀ev b ev' cs,x ev=some (b,ev',cs)->All cs->∀Z F s,Inv X Z F ev.1 s->Y.p ev.1.n Z F->∀(R:Result->Shared->Prop) (E:Value->Shared->Prop),
 (∀f s' aq F',(cn b f).p ev'.1.n aq F'->Inv X aq F' ev'.1 s'->aD Z F ev.1 s aq F' ev'.1 s'->R (.ok f) s')->wpAny (model X.prog X.w) A t (vo X A R) E s
theorem bE.bind{α β:Type}{x:EM β}{f:β->EM aU}{t:Sem α}{k:α->Sem Fin}{R:β->α->Kn}(h:ah X A Y R x t)(hk:∀b v,bE X A (Y.and (R b v)) (f b) (k v)):bE X A Y (EM.bind x f) (t >>= k) :=
 λev c ev'' cs e hc Z F s I g R' E hR=>EM.en e hc λb ev' iD iE dH dP h1 h2=>wpAny_bind (h _ _ _ _ dH h1 Z F s I g _ E λv ar aF aH hr a0 st=>hk b v _ _ _ _ dP h2 aF aH ar a0 ⟨Y.mono st.le st.same st.sub g,hr⟩ R' E λf s' aq F' a b c=>hR f s' aq F' a b (st.trans c))
theorem bE.done{b:aU}{f:Flow}(h:Y.le (cn b f)):bE X A Y (EM.ret b) (Pure.pure (.done f)):=λev c ev'' cs e hc Z F s I g R' E hR=>ai.ret (C:=λb' aj=>(∀f s' aq F',(cn b' f).p aj.n aq F'->Inv X aq F' aj s'->aD Z F ev.1 s aq F' aj s'->R' (.ok f) s')->R' (.ok f) s) (λhR=>hR f s Z F (h _ _ _ g) I (aD.refl Z F I.ids)) ev.2 c ev'' cs e hc hR |> wpAny_pure
theorem bE.again{x:EM aU}{c:Code}(h:dQ X A Y x c)(hq:c.quiet=true):bE X A Y x (PySem.again c):=λev b ev' cs e hc Z F s I g R E hR=>wpAny_pure ⟨hq,h ev b ev' cs e hc Z F s I g R hR⟩
theorem bE.weaken{kZ:Kn}{x:EM aU}{t:Sem Fin}(h:bE X A Y x t)(hg:kZ.le Y):bE X A kZ x t:=λev b ev' cs e hc Z F s I g=>h ev b ev' cs e hc Z F s I (hg _ _ _ g)
theorem bE.cz{P:Prop}{x:EM aU}{t:Sem Fin}(h:Y.le (Kn.is P))(hk:P->bE X A Y x t):bE X A Y x t:=λev b ev' cs e hc Z F s I g=>hk (h _ _ _ g) ev b ev' cs e hc Z F s I g
theorem bE.dec{fB:Bool}{f:Bool->EM aU}{t:Sem Fin}(hk:bE X A Y (f fB) t):bE X A Y (EM.bind (EM.dec fB) f) t:=λev b ev' cs e hc Z F s I g=>ai.eP (ai.o6 (J:=ev.1) (b:=fB)) (f:=f) (D:=λb aj=>∀(R:Result->Shared->Prop) (E:Value->Shared->Prop),
 (∀f s' aq F',(cn b f).p aj.n aq F'->Inv X aq F' aj s'->aD Z F ev.1 s aq F' aj s'->R (.ok f) s')->wpAny (model X.prog X.w) A t (vo X A R) E s) (λb' h ds c ev' cs e hc=>hk (ev.1,ds) c ev' cs (h▸e) hc Z F s I g) ev.2 b ev' cs e hc
theorem bE.br{x:EM Bool}{y z:EM aU}{t:Sem Bool}{k:Bool->Sem Fin}(hx:ah X A Y ew x t)(hy:bE X A Y y (k true))(hz:bE X A Y z (k false)):bE X A Y (cF x y z) (t >>= k) :=
 bE.bind hx λb c=>bE.cz (P:=b=c) (Kn.snd (Kn.le_refl _)) λh=>bE.dec (by
  rw[<- h]
  cases b
  ·exact hz.weaken (Kn.fst (Kn.le_refl _))
  ·exact hy.weaken (Kn.fst (Kn.le_refl _)))
theorem bE.standAt{p:Pos}{x:EM aU}{k:Unit->Sem Fin}(h:bE X A Y x (k ())):bE X A Y x (PySem.standAt p >>= k):=λev b ev' cs e hc Z F s I g R E hR=>wpAny_bind (wpAny_standAt (h ev b ev' cs e hc Z F s I g R E hR))
theorem dQ.turn{x:EM aU}{t:Sem Fin}{c:Code}(hA:A.under c=A)(hc:(model X.prog X.w).den c=t.onRaise (λx=>do noteFrame x env; theTreesLotGoes x))(h:bE X A Y x t):dQ X A Y x c:=λev b ev' cs e hcs Z F s I g R hR=>by
 refine codeAny_of_tree ?_
 rw[hA,hc]
 exact wpAny_noted (h ev b ev' cs e hcs Z F s I g R _ hR)
theorem ah.loop(S:Sound X r n)(hA:aN X A n)(test:Expr)(body:List Stmt):dQ X A (aA X ae env) (BZ r ae test body) (.whileLoop test body [] env):=by
 refine dQ.turn (env:=env) (t:=whileTurn test body [] env) rfl rfl ?_
 refine bE.br (k:=λb=>if b=true then execs body env >>= λfl=>(match fl with
  | .next | .cont=>PySem.again (.whileLoop test body [] env)
  | .brk=>pure (.done .next)
  | .ret v=>pure (.done (.ret v))) else execs [] env >>= λf=>pure (.done f)) (S.tst A hA ae env test) ?_ ?_
 ·refine bE.bind (S.aV A hA ae env body) λfl f=>?_
  cases fl with
  | next=>exact bE.cz (P:=f = .next) (Kn.snd (Kn.le_refl _)) λh=>by rw[h]; exact(bE.again (S.loop A hA ae env test body) rfl).weaken (Kn.fst (Kn.le_refl _))
  | ret v =>
   intro ev b ev' cs e hc Z F s I g
   refine(show ∃w,f = .ret w/\Den _ _ _ v w from g.2).elim λw q=>?_
   rw[q.1]
   exact bE.done (Y:=cn (.ret v) (.ret w)) (Kn.le_refl _) ev b ev' cs e hc Z F s I ⟨w,rfl,q.2⟩
  | brk=>exact bE.cz (P:=f = .brk) (Kn.snd (Kn.le_refl _)) λh=>by rw[h]; exact bE.done (b:=.next) (f:=.next) (λ_ _ _ _=>rfl)
  | cont=>exact bE.cz (P:=f = .cont) (Kn.snd (Kn.le_refl _)) λh=>by rw[h]; exact(bE.again (S.loop A hA ae env test body) rfl).weaken (Kn.fst (Kn.le_refl _))
 ·exact λev b ev' cs e hc Z F s I g R E hR=>wpAny_bind (wpAny_execs_nil (bE.done (Y:=aA X ae env) (b:=.next) (f:=.next) (λ_ _ _ _=>rfl) ev b ev' cs e hc Z F s I g R E hR))
theorem nO{target:Expr}{v w:Value}:il target=true->letOwnedTupleGo target v w=pure ():=xF (P:=λt=>letOwnedTupleGo t v w=pure ()) (λ_ _=>rfl) (λ_ _ _=>rfl) λ_ _ _=>rfl
theorem zL{elts:List Expr}{c:Nat}{p:Pos}{i:Addr}{o:Obj}{v:Value}{M:Model}{E:Value->Shared->Prop}{Q:Unit->Shared->Prop}(ho:s.heap.get? i=some o){vs:Array Value}(hc:o.cls = .type "list_iterator"/\o.data = .fields vs)(h:Q () s):wpAny M A (letOwnedTupleGo (.Tuple elts c p) (.ref i) v) Q E s:=by
 cases o with | mk cl d dt sl =>
 cases(show cl = .type "list_iterator" from hc.1)
 cases(show dt = .fields vs from hc.2)
 cases v with
 | ref a =>
  refine wpAny_bind (wpAny_load ho ?_)
  show wpAny M A (if (["enumerate","zip","dict_itemiterator","dict_reverseitemiterator","odict_iterator","itertools.zip_longest","itertools.pairwise"].contains "list_iterator" && _)=true then _ else _) Q E s
  rw[show(["enumerate","zip","dict_itemiterator","dict_reverseitemiterator","odict_iterator","itertools.zip_longest","itertools.pairwise"].contains "list_iterator")=false by decide,Bool.false_and,if_neg (by decide)]
  exact wpAny_pure h
 | _=>exact wpAny_pure h
noncomputable def jM(t:Sem (Option Value))(target:Expr)(v:Value):Sem (Option Value):=t >>= λo=>aQ o (λw=>letOwnedTupleGo target v w >>= λ_=>pure (some w)) (pure none)
theorem sV{B:Type}{t:Sem (Option Value)}{target:Expr}{v:Value}(K0:Sem B)(K:Value->Sem B):(t >>= λo=>match o with | none=>K0 | some w=>letOwnedTupleGo target v w >>= λ_=>K w)=jM t target v >>= λo=>aQ o K K0:=by
 unfold jM
 rw[bind_assoc]
 refine bind_congr λo=>?_
 cases o with
 | none=>exact(pure_bind _ _).symm
 | some w =>
  show _=(letOwnedTupleGo target v w >>= λ_=>pure (some w)) >>= λo=>aQ o K K0
  rw[bind_assoc]
  exact bind_congr λ_=>(pure_bind _ _).symm
noncomputable def Alike{α:Type}(X:Ctx)(A:Around)(t t':Sem α):Prop:=∀(Q:α->Shared->Prop) (s:Shared),(∀E,wpAny (model X.prog X.w) A t Q E s)->∀E,wpAny (model X.prog X.w) A t' Q E s
theorem iY{t:Sem (Option Value)}{target:Expr}{v:Value}{o:Option AV}{aj:St}(ht:Alike X A (pyNext v) t)(h:Goes X A Z F J s (pyNext v) (kN o) aj)
  (hgo:∀w ar aF aH,o≠none->Inv X aF aH aj ar->aD Z F J s aF aH aj ar->∀Q E,Q () ar->wpAny (model X.prog X.w) A (letOwnedTupleGo target v w) Q E ar):Goes X A Z F J s (jM t target v) (kN o) aj:=λQ E hQ=>wpAny_bind (ht _ _ (λE=>h _ E λov ar aF aH d a0 aM=>by
 cases o with
 | none=>rw[show ov=none from d]; exact wpAny_pure (hQ none ar aF aH rfl a0 aM)
 | some av=>exact(show ∃w,ov=some w/\Den aj.n aF aH av w from d).elim λw q=>q.1▸wpAny_bind (hgo w ar aF aH (λh=>nomatch h) a0 aM _ _ (wpAny_pure (hQ (some w) ar aF aH ⟨w,rfl,q.2⟩ a0 aM)))) E)
section
variable{prog:Program}{w:World}{E:Value->Shared->Prop}
theorem Gv{it:Addr}{x left step:Int}{Q:Option Value->Shared->Prop}(hh:A.handled=none)(hit:IsRangeIter s.heap it x left step)(hleft:left<=0)(hQ:∀h',(∀b o,s.heap.get? b=some o->h'.get? b=some o)->Q none { s with heap:=h' }):wpAny (model prog w) A (pyNext (.ref it)) Q E s:=by
 have hT:s.TypeIs (.ref it) "range_iterator":=⟨_,hit,rfl⟩
 unfold PySem.pyNext
 refine wpAny_bind (wpAny_attempt (wpAny_callSpecial?_slot (name:=Str.ofString "__next__") hT F.slot_range_iterator_next
  (wpAny_call_entry F.slot_range_iterator_next hT F.entry_range_iterator_next ?_ (F.args_range_iterator_next_1 _))))
 show wpAny _ _ (field (.ref it) 0 >>= _) _ _ s
 refine wpAny_bind (wpAny_field hit rfl (x:=rawInt x) rfl ?_)
 show wpAny _ _ (field (.ref it) 1 >>= _) _ _ s
 refine wpAny_bind (wpAny_field hit rfl (x:=rawInt left) rfl ?_)
 show wpAny _ _ (field (.ref it) 2 >>= _) _ _ s
 refine wpAny_bind (wpAny_field hit rfl (x:=rawInt step) rfl ?_)
 show wpAny _ _ (if left<=0 then _ else _) _ _ s
 rw[if_pos hleft]
 refine wpAny_bind (wpAny_rule ?_)
 refine wpAny_bind (m:=SmallTypes.stopIteration) (jA (A:=A.in1) hh λe h' hk hT=>?_)
 refine wpAny_bind (wpAny_isInstance (T:="StopIteration") (b:=true) hT isSubtype_stop ?_)
 exact wpAny_pure (hQ _ hk)
theorem zM{e it l:Addr}{i j:Nat}{items:List Value}{old:Value}{Q:Option Value->Shared->Prop}(hh:A.handled=none)(he:IsEnum s.heap e it j old)(hit:s.heap.IsListIter it l i){k:Nat}(hl:s.heap.get? l=some (cL items k))(hx:items[i]? = none)(hQ:∀h',(∃o,h'.get? it=some o)->Heap.ExtBut it s.heap h'->Q none { s with heap:=h' }):wpAny (model prog w) A (pyNext (.ref e)) Q E s:=by
 have hT:s.TypeIs (.ref e) "enumerate":=⟨_,he,rfl⟩
 refine hit.elim λo h=>?_
 unfold PySem.pyNext
 refine wpAny_bind (wpAny_attempt (wpAny_callSpecial?_slot (name:=Str.ofString "__next__") hT F.slot_enumerate_next
  (wpAny_call_entry F.slot_enumerate_next hT F.entry_enumerate_next ?_ (F.args_enumerate_next_1 _))))
 show wpAny _ _ (field (.ref e) 2 >>= _) _ _ _
 refine wpAny_bind (wpAny_field he rfl (x:=.ref it) rfl (wpAny_bind ?_))
 unfold Builtin.SmallTypes.nextOf
 refine wpAny_bind (wpAny_callSpecial?_slot (name:=Str.ofString "__next__") hit.typeIs slot_listiter_next (wpAny_call_entry slot_listiter_next hit.typeIs entry_listiter_next ?_ (args_listiter_next _)))
 show wpAny _ _ (field (.ref it) 0 >>= _) _ _ s
 refine wpAny_bind (wpAny_field h.1 h.2.2 (x:=.ref l) rfl ?_)
 rw[if_neg (show ¬ ((Value.ref l == Value.none)=true) from Bool.false_ne_true)]
 refine wpAny_bind (m:=field (.ref it) 1) (wpAny_field h.1 h.2.2 (x:=.int i 0) rfl ?_)
 dsimp only
 refine wpAny_bind (wpAny_seqItems hl rfl ?_)
 dsimp only
 simp only[Int.toNat_natCast,List.getElem?_toArray,hx]
 refine wpAny_bind (wpAny_rule (wpAny_bind (wpAny_setField h.1 h.2.2 (by simp) ?_)))
 have h1:=Heap.get?_update_self (Obj.mapFields (·.setIfInBounds 0 Value.none)) h.1 (Obj.isFreed_of_fields (Obj.data_mapFields h.2.2 _))
 refine jA (A:=A.in1.in1) hh λe h' hk hT=>?_
 refine wpAny_bind (wpAny_isInstance (T:="StopIteration") (b:=true) hT isSubtype_stop ?_)
 exact wpAny_pure (hQ _ ⟨_,hk _ _ h1⟩ λb o hb e=>hk _ _ ((Heap.SameBut.update ..).extBut b o hb e))
theorem Hz{it l:Addr}{i:Nat}{items:List Value}{Q:Option Value->Shared->Prop}(hh:A.handled=none)(hit:s.heap.IsListIter it l i){k:Nat}(hl:s.heap.get? l=some (cL items k))(hx:items[i]? = none)(hQ:∀h',(∃o,h'.get? it=some o)->Heap.ExtBut it s.heap h'->Q none { s with heap:=h' }):wpAny (model prog w) A (pyNext (.ref it)) Q E s:=by
 refine hit.elim λo h=>?_
 unfold PySem.pyNext
 refine wpAny_bind (wpAny_attempt (wpAny_callSpecial?_slot (name:=Str.ofString "__next__") hit.typeIs slot_listiter_next (wpAny_call_entry slot_listiter_next hit.typeIs entry_listiter_next ?_ (args_listiter_next _))))
 show wpAny _ _ (field (.ref it) 0 >>= _) _ _ s
 refine wpAny_bind (wpAny_field h.1 h.2.2 (x:=.ref l) rfl ?_)
 rw[if_neg (show ¬ ((Value.ref l == Value.none)=true) from Bool.false_ne_true)]
 refine wpAny_bind (m:=field (.ref it) 1) (wpAny_field h.1 h.2.2 (x:=.int i 0) rfl ?_)
 dsimp only
 refine wpAny_bind (wpAny_seqItems hl rfl ?_)
 dsimp only
 simp only[Int.toNat_natCast,List.getElem?_toArray,hx]
 refine wpAny_bind (wpAny_rule (wpAny_bind (wpAny_setField h.1 h.2.2 (by simp) ?_)))
 have h1:=Heap.get?_update_self (Obj.mapFields (·.setIfInBounds 0 Value.none)) h.1 (Obj.isFreed_of_fields (Obj.data_mapFields h.2.2 _))
 refine jA (A:=A.in1) hh λe h' hk hT=>?_
 refine wpAny_bind (wpAny_isInstance (T:="StopIteration") (b:=true) hT isSubtype_stop ?_)
 exact wpAny_pure (hQ _ ⟨_,hk _ _ h1⟩ λb o hb e=>hk _ _ ((Heap.SameBut.update ..).extBut b o hb e))
theorem IQ{it l:Addr}{Q:Option Value->Shared->Prop}(hh:A.handled=none)(hit:s.heap.IsRevIter it l (-1))(hQ:∀h',(∀b o,s.heap.get? b=some o->h'.get? b=some o)->Q none { s with heap:=h' }):wpAny (model prog w) A (pyNext (.ref it)) Q E s:=by
 refine hit.elim λo h=>?_
 unfold PySem.pyNext
 refine wpAny_bind (wpAny_attempt (wpAny_callSpecial?_slot (name:=Str.ofString "__next__") hit.typeIs F.slot_lri_next (wpAny_call_entry F.slot_lri_next hit.typeIs F.entry_lri_next ?_ (F.args_lri_next_1 _))))
 show wpAny _ _ (field (.ref it) 1 >>= _) _ _ s
 refine wpAny_bind (wpAny_field h.1 h.2.2 (x:=rawInt (-1)) rfl ?_)
 show wpAny _ _ (if (-1:Int)<0 then _ else _) _ _ s
 rw[if_pos (by decide)]
 refine wpAny_bind (wpAny_rule ?_)
 refine wpAny_bind (m:=SmallTypes.stopIteration) (jA (A:=A.in1) hh λe h' hk hT=>?_)
 refine wpAny_bind (wpAny_isInstance (T:="StopIteration") (b:=true) hT isSubtype_stop ?_)
 exact wpAny_pure (hQ _ hk)
theorem Gw{e it:Addr}{i j:Nat}{x:Str}{t:Tok}{old:Value}{Q:Option Value->Shared->Prop}(hh:A.handled=none)(he:IsEnum s.heap e it j old)(hit:s.heap.IsStrIter it (kD x) x t i)(hx:x.cps[i]? = none)(hQ:∀h',(∃o,h'.get? it=some o)->Heap.ExtBut it s.heap h'->Q none { s with heap:=h' }):wpAny (model prog w) A (pyNext (.ref e)) Q E s:=by
 have hT:s.TypeIs (.ref e) "enumerate":=⟨_,he,rfl⟩
 unfold PySem.pyNext
 refine wpAny_bind (wpAny_attempt (wpAny_callSpecial?_slot (name:=Str.ofString "__next__") hT F.slot_enumerate_next (wpAny_call_entry F.slot_enumerate_next hT F.entry_enumerate_next ?_ (F.args_enumerate_next_1 _))))
 show wpAny _ _ (field (.ref e) 2 >>= _) _ _ _
 refine wpAny_bind (wpAny_field he rfl (x:=.ref it) rfl (wpAny_bind ?_))
 unfold Builtin.SmallTypes.nextOf
 unfold kD strIterType at hit
 split at hit
 ·refine hit.elim λo h=>?_
  refine wpAny_bind (wpAny_callSpecial?_slot (name:=Str.ofString "__next__") hit.typeIs F.slot_str_ascii_iterator_next (wpAny_call_entry F.slot_str_ascii_iterator_next hit.typeIs F.entry_str_ascii_iterator_next ?_ (F.args_str_ascii_iterator_next_1 _)))
  show wpAny _ _ (field (.ref it) 0 >>= _) _ _ s
  refine wpAny_bind (wpAny_field h.1 h.2.2 (x:=.str x t) rfl ?_)
  show wpAny _ _ (field (.ref it) 1 >>= _) _ _ s
  refine wpAny_bind (wpAny_field h.1 h.2.2 (x:=.int i 0) rfl ?_)
  simp only[Int.toNat_natCast,hx]
  refine wpAny_bind (wpAny_rule (wpAny_bind (wpAny_setField h.1 h.2.2 (by simp) (wpAny_bind (wpAny_letGo ?_)))))
  have h1:=Heap.get?_update_self (Obj.mapFields (·.setIfInBounds 0 Value.none)) h.1 (Obj.isFreed_of_fields (Obj.data_mapFields h.2.2 _))
  refine jA (A:=A.in1.in1) hh λe h' hk hT=>?_
  refine wpAny_bind (wpAny_isInstance (T:="StopIteration") (b:=true) hT isSubtype_stop ?_)
  exact wpAny_pure (hQ _ ⟨_,hk _ _ h1⟩ λb o hb e=>hk _ _ ((Heap.SameBut.update ..).extBut b o hb e))
 ·refine hit.elim λo h=>?_
  refine wpAny_bind (wpAny_callSpecial?_slot (name:=Str.ofString "__next__") hit.typeIs F.slot_str_iterator_next (wpAny_call_entry F.slot_str_iterator_next hit.typeIs F.entry_str_iterator_next ?_ (F.args_str_iterator_next_1 _)))
  show wpAny _ _ (field (.ref it) 0 >>= _) _ _ s
  refine wpAny_bind (wpAny_field h.1 h.2.2 (x:=.str x t) rfl ?_)
  show wpAny _ _ (field (.ref it) 1 >>= _) _ _ s
  refine wpAny_bind (wpAny_field h.1 h.2.2 (x:=.int i 0) rfl ?_)
  simp only[Int.toNat_natCast,hx]
  refine wpAny_bind (wpAny_rule (wpAny_bind (wpAny_setField h.1 h.2.2 (by simp) (wpAny_bind (wpAny_letGo ?_)))))
  have h1:=Heap.get?_update_self (Obj.mapFields (·.setIfInBounds 0 Value.none)) h.1 (Obj.isFreed_of_fields (Obj.data_mapFields h.2.2 _))
  refine jA (A:=A.in1.in1) hh λe h' hk hT=>?_
  refine wpAny_bind (wpAny_isInstance (T:="StopIteration") (b:=true) hT isSubtype_stop ?_)
  exact wpAny_pure (hQ _ ⟨_,hk _ _ h1⟩ λb o hb e=>hk _ _ ((Heap.SameBut.update ..).extBut b o hb e))
end
theorem IS{prog:Program}{w:World}{A:Around}(hh:A.handled=none)(it:Addr)(x:Str)(t:Tok):Draws prog w A it [it] x.cps.size (λi v=>∃c u,x.cps[i]? = some c/\v = .str ⟨#[c]⟩ u) (λi h=>h.IsStrIter it (kD x) x t i):=by
 unfold kD strIterType
 split
 ·exact Draws.strAscii hh it x t
 ·exact Draws.strWide hh it x t
theorem St.lI{i j:Nat}{c c₀ d:Cell}(hi:J.get i=some c₀)(h:(J.set i c).get j=some d):∃d',J.get j=some d':=(St.get_set h).elim (λq=>⟨c₀,q.1▸hi⟩) λq=>⟨d,q.2⟩
noncomputable def iB(X:Ctx)(A:Around)(target:Expr)(i:Nat)(J:St)(o:Option AV)(aj:St):Prop:=∀t Z F s,Alike X A (pyNext (.ref (Z i))) t->Inv X Z F J s->Goes X A Z F J s (jM t target (.ref (Z i))) (kN o) aj
theorem Gx(hA:A.handled=none)(target:Expr)(i:Nat):ai J (mN target i) (iB X A target i J):=ai.aK EZ λq hx=>ai.aW λht=>ai.eu λo=>by
 cases o with
 | some y=>exact ai.turn λhl t Z F s h I=>iY h (Goes.to λQ E hQ=>wpAny_pyNext_range_item (I.Bz hx) hl λh' hit' hs=>hQ _ _ Z F ⟨_,rfl,_,rfl⟩ (I.set hx hs.extBut (c':=.rit (q.1+q.2.2) (q.2.1 - 1) q.2.2) ⟨_,hit',rfl⟩ (s.toks+1))) λw ar aF aH _ _ _ Q E hQ=>by rw[nO ht]; exact wpAny_pure hQ
 | none=>exact ai.bz λhl t Z F s h I=>iY h (Goes.to λQ E hQ=>Gv hA (I.Bz hx) hl λh' hk=>hQ _ _ Z F rfl (I.grow hk s.toks)) λw ar aF aH hn=>absurd rfl hn
theorem Gy{i l k:Nat}(hx:J.get i=some (.liter l k)):ai J (qN i l k) λo aj=>o≠none->∃k',aj.get i=some (.liter l k'):=ai.aK jz λxs h=>ai.eu λo=>by
 cases o with
 | some y=>exact ai.turn λ_ _=>⟨_,St.pH _ hx⟩
 | none=>exact ai.turn λ_ hn=>absurd rfl hn
theorem HA(hA:A.handled=none)(target:Expr)(i:Nat):ai J (zH target i) (iB X A target i J):=ai.aK Es λq hx=>ai.aW λht=>λds o ev' cs e hc t Z F s h I=>by
 refine iY h (yC hA I hx ds o ev' cs e hc) λw ar aF aH hn a0 aM Q E hQ=>?_
 rw[Bool.or_eq_true] at ht
 refine ht.elim (λht=>by rw[nO ht]; exact wpAny_pure hQ) (iU (P:=λb t=>b=true->wpAny (model X.prog X.w) A (letOwnedTupleGo t (.ref (Z i)) w) Q E ar) (λelts c p _=>?_) ff)
 rw[<- aM.same i (I.lt hx)]
 exact(Gy hx ds o ev' cs e hc hn).elim λk hk=>zL (a0.o4 hk).1 ⟨rfl,rfl⟩ hQ
theorem Gz{i j l m:Nat}{xs:List AV}{y:AV}{target:Expr}(ht:isTup target=true)(hx:J.get i=some (.enum j m))(hj:J.get j=some (.wl l m))(hl:J.get l=some (.list xs))(hy:xs[m]? = some y):
  iB X A target i J (some (.tup [.int m,y])) ((J.set j (.wl l (m+1))).set i (.enum j (m+1))):=λt Z F s h I Q E hQ=>by
 have hij:i≠j:=λq=>by rw[q] at hx; exact nomatch Option.some.inj (hx.symm.trans hj)
 have hne:=I.ne hx hj hij
 refine(I.kM hx).elim λold he=>(I.cA hl).elim λws q=>q.elim λkk q=>(q.2.fX hy).elim λv hv=>wpAny_bind (h _ _ (λDc=>?_) E)
 refine wpAny_pyNext_enum_item he.1 (I.vM hj).1 ⟨_,q.1,rfl,kk,rfl⟩ (x:=v) ((List.getElem?_toArray ..).trans hv.1) hne λh' ho hit' hT hsz hk=>?_
 refine iU (P:=λb t=>b=true->wpAny (model X.prog X.w) A (letOwnedTupleGo t (.ref (Z i)) (.ref s.heap.objs.size) >>= λ_=>pure (some (.ref s.heap.objs.size))) Q E { s with heap:=h',toks:=s.toks+1 }) (λelts c p _=>?_) ff ht
 refine wpAny_bind (wpAny_letOwnedTupleGo_enum ho λh'' he'' hs''=>wpAny_pure ?_)
 have hk2:∀b o,b≠Z i->b≠Z j->s.heap.get? b=some o->h''.get? b=some o:=λb o h1 h2 h3=>(hs''.2 b h1).trans (hk b o h1 h2 h3)
 have hit'':h''.IsListIter (Z j) (Z l) (m+1):=hit'.imp λo r=>⟨(hs''.2 _ (Ne.symm hne)).trans r.1,r.2⟩
 have r:=I.vO hx hj hij hk2 (c':=.enum j (m+1)) (d':=.wl l (m+1)) ⟨_,he'',_,rfl,he.2⟩ (.CR hit'' (I.vM hj).2) (s.toks+1) rfl rfl
 have hT'':h''.get? s.heap.objs.size=some (oTup [.int m s.toks,v] 0):=(hs''.2 _ (Nat.ne_of_gt (Heap.lt_size he.1))).trans hT
 have r2:=r.1.kh hT'' λk c hk=>(St.lI ((St.kf _ _ hij).trans hx) hk).elim λc1 h1=>(St.lI hj h1).elim λc2 h2=>I.kK (Heap.get?_none_of_le (Nat.le_refl _)) h2
 exact hQ _ _ Z _ ⟨_,rfl,.tup _ [.int m,y] [.int m s.toks,v] 0 (if_pos rfl) ⟨⟨_,rfl⟩,hv.2.mono (Nat.le_refl _) (λ_ _=>rfl) r2.2.sub,rfl⟩⟩ r2.1 (r.2.trans r2.2)
theorem HB(hA:A.handled=none)(target:Expr)(i:Nat):ai J (kr target i) (iB X A target i J):=ai.aK su λq hx=>ai.aW λht=>ai.aK Fy λw hj=>ai.aK jz λxs hl=>ai.aW λhk=>ai.eu λo=>by
 rw[Nat.eq_of_beq_eq_true hk] at hj ⊢
 cases o with
 | some y=>exact ai.turn λhy=>Gz ht hx hj hl hy
 | none=>exact ai.turn λhy t Z F s h I=>(I.kM hx).elim λold he=>(I.cA hl).elim λws q=>q.elim λkk q=>iY h (Goes.to λQ E hQ=>zM hA he.1 (I.vM hj).1 q.1 (q.2.none hy) λh' hlive hk=>hQ _ _ Z F rfl (I.set hj hk (c':=.any) (hlive.imp λo h=>⟨h,trivial⟩) s.toks)) λw ar aF aH hn=>absurd rfl hn
theorem GA(hA:A.handled=none){i j m:Nat}{x:Str}{y:AV}{target:Expr}(ht:isTup target=true)(hx:J.get i=some (.enum j m))(hj:J.get j=some (.sit x m))(hy:(x.cps[m]?).map (λc=>AV.str ⟨#[c]⟩)=some y):
  iB X A target i J (some (.tup [.int m,y])) ((J.set j (.sit x (m+1))).set i (.enum j (m+1))):=λt Z F s h I Q E hQ=>by
 have hij:i≠j:=λq=>by rw[q] at hx; exact nomatch Option.some.inj (hx.symm.trans hj)
 have hne:=I.ne hx hj hij
 refine(I.kM hx).elim λold he=>(I.B0 hj).elim λtk0 hit=>(Option.map_eq_some_iff.mp hy).elim λc hc=>wpAny_bind (h _ _ (λDc=>?_) E)
 have hm:m<x.cps.size:=by
  rcases Nat.lt_or_ge m x.cps.size with q | q
  ·exact q
  ·rw[Array.getElem?_eq_none q] at hc; exact aJ hc.1
 refine wpAny_pyNext_enum_itemD (IS (A:=A.in1) hA (Z j) x tk0) he.1 hit hm hne (λq=>hne (List.mem_singleton.mp q)) λv h' tk hv ho hit' hT hsz hk=>?_
 refine hv.elim λc' hv=>hv.elim λu hv=>?_
 have hcc:c' = c:=Option.some.inj (hv.1.symm.trans hc.1)
 refine iU (P:=λb t=>b=true->wpAny (model X.prog X.w) A (letOwnedTupleGo t (.ref (Z i)) (.ref s.heap.objs.size) >>= λ_=>pure (some (.ref s.heap.objs.size))) Q E { s with heap:=h',toks:=tk+1 }) (λelts cc p _=>?_) ff ht
 refine wpAny_bind (wpAny_letOwnedTupleGo_enum ho λh'' he'' hs''=>wpAny_pure ?_)
 have hk2:∀b o,b≠Z i->b≠Z j->s.heap.get? b=some o->h''.get? b=some o:=λb o h1 h2 h3=>(hs''.2 b h1).trans (hk b o h1 h2 h3)
 have hit'':h''.IsStrIter (Z j) (kD x) x tk0 (m+1):=hit'.imp λo r=>⟨(hs''.2 _ (Ne.symm hne)).trans r.1,r.2⟩
 have r:=I.vO hx hj hij hk2 (c':=.enum j (m+1)) (d':=.sit x (m+1)) ⟨_,he'',_,rfl,he.2⟩ (hit''.elim λo q=>⟨o,q.1,q.2.1,tk0,q.2.2⟩) (tk+1) rfl rfl
 have hT'':h''.get? s.heap.objs.size=some (oTup [.int m tk,v] 0):=(hs''.2 _ (Nat.ne_of_gt (Heap.lt_size he.1))).trans hT
 have r2:=r.1.kh hT'' λk c hk=>(St.lI ((St.kf _ _ hij).trans hx) hk).elim λc1 h1=>(St.lI hj h1).elim λc2 h2=>I.kK (Heap.get?_none_of_le (Nat.le_refl _)) h2
 exact hQ _ _ Z _ ⟨_,rfl,.tup _ [.int m,y] [.int m tk,v] 0 (if_pos rfl) ⟨⟨_,rfl⟩,(by rw[<- hc.2,<- hcc,hv.2]; exact⟨u,rfl⟩),rfl⟩⟩ r2.1 (r.2.trans r2.2)
theorem HD(hA:A.handled=none)(target:Expr)(i:Nat):ai J (nY target i) (iB X A target i J):=ai.aK su λq hx=>ai.aW λht=>ai.aK E2 λw hj=>ai.aW λhk=>ai.eu λo=>by
 rw[Nat.eq_of_beq_eq_true hk] at hj ⊢
 cases o with
 | some y=>exact ai.turn λhy=>GA hA ht hx hj hy
 | none=>exact ai.turn λhy t Z F s h I=>(I.kM hx).elim λold he=>(I.B0 hj).elim λtk0 hit=>iY h (Goes.to λQ E hQ=>Gw hA he.1 hit hy λh' hlive hk=>hQ _ _ Z F rfl (I.set hj hk (c':=.any) (hlive.imp λo h=>⟨h,trivial⟩) s.toks)) λw ar aF aH hn=>absurd rfl hn
theorem GB(hA:A.handled=none)(target:Expr)(i:Nat):ai J (yP target i) (iB X A target i J):=ai.aK E0 λq hx=>ai.aW λht=>ai.aK jz λxs hl=>ai.eu λo=>by
 cases o with
 | some y=>exact ai.turn λhy t Z F s h I=>(I.cA hl).elim λws p=>p.elim λkk p=>(p.2.fX hy.2).elim λv hv=>iY h (Goes.to λQ E hQ=>by
   have hr:=I.vm hx
   have e:((q.2.toNat:Nat):Int)=q.2:=Int.toNat_of_nonneg hy.1
   refine wpAny_pyNext_rev_item (items:=ws.toArray) (i:=q.2.toNat) (by rw[e]; exact hr.1) ⟨_,p.1,rfl,kk,rfl⟩ (x:=v) (by simpa using hv.1) λh' hr' hs=>?_
   rw[e] at hr'
   exact hQ _ _ Z F ⟨_,rfl,hv.2⟩ (I.set hx hs.extBut (c':=.rev q.1 (q.2 - 1)) (hr'.elim λo q=>⟨o,q.1,⟨q.2.1,q.2.2⟩,hr.2⟩) s.toks)) λw ar aF aH _ _ _ Q E hQ=>by rw[nO ht]; exact wpAny_pure hQ
 | none=>exact ai.bz λhq t Z F s h I=>iY h (Goes.to λQ E hQ=>IQ hA (hq▸(I.vm hx).1) λh' hk=>hQ _ _ Z F rfl (I.grow hk s.toks)) λw ar aF aH hn=>absurd rfl hn
theorem GC{i j m:Nat}{xs:List AV}{y:AV}{target:Expr}(ht:isTup target=true)(hx:J.get i=some (.enum j m))(hj:J.get j=some (.fit xs m))(hy:xs[m]? = some y):
  iB X A target i J (some (.tup [.int m,y])) ((J.set j (.fit xs (m+1))).set i (.enum j (m+1))):=λt Z F s h I Q E hQ=>by
 have hij:i≠j:=λq=>by rw[q] at hx; exact nomatch Option.some.inj (hx.symm.trans hj)
 have hne:=I.ne hx hj hij
 refine(I.kM hx).elim λold he=>?_
 cases I.qY hj with | mk b ws kk hit hl ds hF =>
 refine(ds.fX hy).elim λv hv=>wpAny_bind (h _ _ (λDc=>?_) E)
 refine wpAny_pyNext_enum_item he.1 hit ⟨_,hl,rfl,kk,rfl⟩ (x:=v) ((List.getElem?_toArray ..).trans hv.1) hne λh' ho hit' hT hsz hk=>?_
 refine iU (P:=λb t=>b=true->wpAny (model X.prog X.w) A (letOwnedTupleGo t (.ref (Z i)) (.ref s.heap.objs.size) >>= λ_=>pure (some (.ref s.heap.objs.size))) Q E { s with heap:=h',toks:=s.toks+1 }) (λelts c p _=>?_) ff ht
 refine wpAny_bind (wpAny_letOwnedTupleGo_enum ho λh'' he'' hs''=>wpAny_pure ?_)
 have hk2:∀b o,b≠Z i->b≠Z j->s.heap.get? b=some o->h''.get? b=some o:=λb o h1 h2 h3=>(hs''.2 b h1).trans (hk b o h1 h2 h3)
 have hit'':h''.IsListIter (Z j) b (m+1):=hit'.imp λo r=>⟨(hs''.2 _ (Ne.symm hne)).trans r.1,r.2⟩
 have r:=I.vO hx hj hij hk2 (c':=.enum j (m+1)) (d':=.fit xs (m+1)) ⟨_,he'',_,rfl,he.2⟩ (.qZ hit'' hF ds) (s.toks+1) rfl rfl
 have hT'':h''.get? s.heap.objs.size=some (oTup [.int m s.toks,v] 0):=(hs''.2 _ (Nat.ne_of_gt (Heap.lt_size he.1))).trans hT
 have r2:=r.1.kh hT'' λk c hk=>(St.lI ((St.kf _ _ hij).trans hx) hk).elim λc1 h1=>(St.lI hj h1).elim λc2 h2=>I.kK (Heap.get?_none_of_le (Nat.le_refl _)) h2
 exact hQ _ _ Z _ ⟨_,rfl,.tup _ [.int m,y] [.int m s.toks,v] 0 (if_pos rfl) ⟨⟨_,rfl⟩,hv.2.mono (Nat.le_refl _) (λ_ _=>rfl) r2.2.sub,rfl⟩⟩ r2.1 (r.2.trans r2.2)
theorem HE(hA:A.handled=none)(target:Expr)(i:Nat):ai J (zI target i) (iB X A target i J):=ai.aK su λq hx=>ai.aW λht=>ai.aK xD λw hj=>ai.aW λhk=>ai.eu λo=>by
 rw[Nat.eq_of_beq_eq_true hk] at hj ⊢
 cases o with
 | some y=>exact ai.turn λhy=>GC ht hx hj hy
 | none =>
  refine ai.turn λhy t Z F s h I=>(I.kM hx).elim λold he=>?_
  cases I.qY hj with | mk b ws kk hit hl ds hF =>
  exact iY h (Goes.to λQ E hQ=>zM hA he.1 hit hl (ds.none hy) λh' hlive hk=>hQ _ _ Z F rfl (I.set hj hk (c':=.any) (hlive.imp λo h=>⟨h,trivial⟩) s.toks)) λw ar aF aH hn=>absurd rfl hn
theorem GD(hA:A.handled=none)(target:Expr)(i:Nat):ai J (yQ target i) (iB X A target i J):=ai.aK xD λq hx=>ai.aW λht=>ai.eu λo=>by
 cases o with
 | some y =>
  refine ai.turn λhy t Z F s h I=>?_
  cases I.qY hx with | mk b ws kk hit hl ds hF =>
  exact(ds.fX hy).elim λv hv=>iY h (Goes.to λQ E hQ=>wpAny_pyNext_list_item hit (items:=ws.toArray) ⟨_,hl,rfl,kk,rfl⟩ (x:=v) ((List.getElem?_toArray ..).trans hv.1) λh' hit' hs=>hQ _ _ Z F ⟨_,rfl,hv.2⟩ (I.set hx hs.extBut (c':=.fit q.1 (q.2+1)) (.qZ hit' hF ds) s.toks)) λw ar aF aH _ a0 aM Q E hQ=>by
   rw[Bool.or_eq_true] at ht
   refine ht.elim (λht=>by rw[nO ht]; exact wpAny_pure hQ) (iU (P:=λb t=>b=true->wpAny (model X.prog X.w) A (letOwnedTupleGo t (.ref (Z i)) w) Q E ar) (λelts c p _=>?_) ff)
   rw[<- aM.same i (I.lt hx)]
   exact(a0.at (St.pH _ hx)).elim λo h=>h.2.elim λb q=>zL h.1 q.1 hQ
 | none =>
  refine ai.turn λhy t Z F s h I=>?_
  cases I.qY hx with | mk b ws kk hit hl ds hF =>
  exact iY h (Goes.to λQ E hQ=>Hz hA hit hl (ds.none hy) λh' hlive hk=>hQ _ _ Z F rfl (I.set hx hk (c':=.any) (hlive.imp λo h=>⟨h,trivial⟩) s.toks)) λw ar aF aH hn=>absurd rfl hn
theorem ah.walk{t:Sem (Option Value)}{target:Expr}{it:AV}{v:Value}(hA:A.handled=none)(ht:Alike X A (pyNext v) t)(hv:Y.le (ao it v)):ah X A Y kN (b0 target it) (jM t target v):=ah.bw λJ Z F s I g =>
 b8 (P:=λy it=>Den J.n Z F it v->ai J y λo aj=>Goes X A Z F J s (jM t target v) (kN o) aj) (λi d=>ai.mono (C:=iB X A target i J) (ai.or (Gx hA target i) (ai.or (HB hA target i) (ai.or (HD hA target i) (ai.or (HE hA target i) (ai.or (GB hA target i) (ai.or (GD hA target i) (HA hA target i))))))) λo aj h=>(dK d).1▸h t Z F s ((dK d).1▸ht) I) (λ_=>ai.fail) (hv _ _ _ g)
theorem r7(f:Str->Bool)(y:Str):∀m:List (Str×AV),∀av,(m.filter λq=>f q.1).lookup y=some av->m.lookup y=some av
 | [],_,h=>h
 | q::m,av,h=>by
  rw[List.filter_cons] at h
  cases e:f q.1 with
  | true =>
   rw[e,if_pos rfl,List.lookup_cons] at h
   rw[List.lookup_cons]
   cases e2:y == q.1 with
   | true=>rw[e2] at h; exact h
   | false=>rw[e2] at h; exact r7 f y m av h
  | false =>
   rw[e,if_neg Bool.false_ne_true] at h
   have h2:=r7 f y m av h
   rw[List.lookup_cons]
   cases e2:y == q.1 with
   | true=>rw[<- eq_of_beq e2] at e; exact absurd h (lookup_gone f e m)
   | false=>exact h2
where lookup_gone (f:Str->Bool) {y:Str} {av:AV} (e:f y=false):∀m:List (Str×AV),(m.filter λq=>f q.1).lookup y≠some av
 | [],h=>nomatch h
 | q::m,h=>by
  rw[List.filter_cons] at h
  cases e2:f q.1 with
  | true =>
   rw[e2,if_pos rfl,List.lookup_cons] at h
   cases e3:y == q.1 with
   | true=>rw[<- eq_of_beq e3,e] at e2; exact ff e2
   | false=>rw[e3] at h; exact lookup_gone f e m h
  | false=>rw[e2,if_neg Bool.false_ne_true] at h; exact lookup_gone f e m h
theorem Inv.AX(I:Inv X Z F J s){i:Nat}{m:List (Str×AV)}(h:J.get i=some (.ns m))(f:Str->Bool):Inv X Z F (J.set i (.ns (m.filter λq=>f q.1))) s/\aD Z F J s Z F (J.set i (.ns (m.filter λq=>f q.1))) s :=
 (I.nu h).elim λg q=>I.set h (h':=s.heap) (c':=.ns (m.filter λq=>f q.1)) (λ_ _ _ e=>e) (.l4 q.1 λx av e=>q.2 x av (r7 f x m av e)) s.toks
theorem GF{N:Nat}:ai J (AW N) λ_ aj=>∀(b5:ay) (b6:Fz) (ba:St) (aS:Shared) (Z:ay) (F:Fz) (s:Shared),Inv X Z F J s->aD b5 b6 ba aS Z F J s->ba.n<=N->(∀e∈X.fr,e.2<N)->Inv X Z F aj s/\aD b5 b6 ba aS Z F aj s:=ai.word λw =>
 pJ (P:=λy _=>ai J y λ_ aj=>∀(b5:ay) (b6:Fz) (ba:St) (aS:Shared) (Z:ay) (F:Fz) (s:Shared),Inv X Z F J s->aD b5 b6 ba aS Z F J s->ba.n<=N->(∀e∈X.fr,e.2<N)->Inv X Z F aj s/\aD b5 b6 ba aS Z F aj s) (ai.st (ai.turn λh b5 b6 ba aS Z F s I st hN hfr=>⟨I.cut (λ_ _=>rfl) h hfr,st.cut hN⟩)) <|
 nL (P:=λy _=>ai J y λ_ aj=>∀(b5:ay) (b6:Fz) (ba:St) (aS:Shared) (Z:ay) (F:Fz) (s:Shared),Inv X Z F J s->aD b5 b6 ba aS Z F J s->ba.n<=N->(∀e∈X.fr,e.2<N)->Inv X Z F aj s/\aD b5 b6 ba aS Z F aj s) (ai.ret λ_ _ _ _ _ _ _ I st _ _=>⟨I,st⟩) <|
 EH (P:=λy _=>ai J y λ_ aj=>∀(b5:ay) (b6:Fz) (ba:St) (aS:Shared) (Z:ay) (F:Fz) (s:Shared),Inv X Z F J s->aD b5 b6 ba aS Z F J s->ba.n<=N->(∀e∈X.fr,e.2<N)->Inv X Z F aj s/\aD b5 b6 ba aS Z F aj s) (λi xs=>ai.aK mE λm hm=>ai.upd (ai.st (ai.turn λh b5 b6 ba aS Z F s I st hN hfr=>⟨(I.AX hm λy=>!(xs.contains y)).1.cut (λ_ _=>rfl) h hfr,(st.trans (I.AX hm λy=>!(xs.contains y)).2).cut hN⟩))) ai.fail
theorem GG{N:Nat}{v:AV}{w:Value}:Den J.n Z F v w->Den J.n Z F (rd N v) w:=b8 (P:=λx v=>Den J.n Z F v w->Den J.n Z F x w) (λi=>bQ (P:=λx=>Den J.n Z F (.ref i) w->Den J.n Z F x w) (λ_ _=>trivial) λh=>h) λh=>h
theorem xQ{N:Nat}:∀{m:List (Str×AV)} {es:List DictEntry},a6 J.n Z F m es->a6 J.n Z F (m.map λq=>(q.1,rd N q.2)) es
 | [],_,d=>d
 | _::_,es,d=>dy.imp (λ_ q=>⟨q.1,GG q.2⟩) (λ_=>xQ) es d
theorem HF{N:Nat}:ai J (zJ N) λ_ aj=>∀(Z:ay) (F:Fz) (s:Shared),Inv X Z F J s->Inv X Z F aj s/\aD Z F J s Z F aj s:=ai.or
 (ai.word λl=>dC (P:=λy _=>ai J y λ_ aj=>∀(Z:ay) (F:Fz) (s:Shared),Inv X Z F J s->Inv X Z F aj s/\aD Z F J s Z F aj s) (λd=>ai.aK kd λm hm=>ai.gX λZ F s I=>by
  exact(I.cell _ _ hm).ex λo ho (q:∃vs k,o=jd vs k/\a6 J.n Z F m vs)=>q.elim λvs q=>q.elim λk q=>I.set hm (h':=s.heap) (c':=.dict (m.map λq=>(q.1,rd N q.2))) (λ_ _ _ e=>e) (.ofD (q.1▸ho) (xQ q.2)) s.toks) ai.fail)
 (ai.ret λZ F s I=>⟨I,aD.refl Z F I.ids⟩)
theorem HG{N:Nat}:ai J (iF N) λ_ aj=>∀(b5:ay) (b6:Fz) (ba:St) (aS:Shared) (Z:ay) (F:Fz) (s:Shared),Inv X Z F J s->aD b5 b6 ba aS Z F J s->ba.n<=N->(∀e∈X.fr,e.2<N)->Inv X Z F aj s/\aD b5 b6 ba aS Z F aj s :=
 ai.bind (HF (X:=X)) λ_ au c1=>GF.mono λ_ aZ c2 b5 b6 ba aS Z F s I st=>c2 b5 b6 ba aS Z F s (c1 Z F s I).1 (st.trans (c1 Z F s I).2)
section
variable(target:Expr)(v:Value)(body:List Stmt)(env:Env)
noncomputable def HH:Sem Fin:=PySem.standAt target.pos >>= λ_=>jM ((pyNext v).onRaise (λ_=>PySem.standAt { target.pos with line:=0 })) target v >>= λo=>aQ o (λw=>(assign target env w >>= λ_=>execs body env) >>= λfl=>(match fl with
 | .next | .cont=>PySem.again (.forLoop target v body [] env)
 | .brk=>pure (.done .next)
 | .ret v=>pure (.done (.ret v)))) (PySem.again (.block [] env))
theorem Fg:forTurn target v body [] env=HH target v body env:=bind_congr λ_=>(sV (PySem.again (.block [] env)) λw=>assign target env w >>= λ_=>execs body env >>= λfl=>(match fl with
 | .next | .cont=>PySem.again (.forLoop target v body [] env)
 | .brk=>pure (.done .next)
 | .ret v=>pure (.done (.ret v)))).trans (bind_congr λo=>congrArg (λK=>aQ o K (PySem.again (.block [] env))) (funext λw=>(bind_assoc _ _ _).symm))
end
theorem ah.cp(S:Sound X r n)(hA:aN X A n)(target:Expr)(it:AV)(itv:Value)(body:List Stmt):dQ X A ((aA X ae env).and (ao it itv)) (oO X.K r ae target it body) (.forLoop target itv body [] env):=by
 refine dQ.turn (env:=env) (t:=forTurn target itv body [] env) rfl rfl ?_
 rw[Fg]
 refine bE.standAt ?_
 intro ev b ev' cs e hc Z F s I g R E hR
 refine EM.en (x:=b0 target it) (f:=λo=>aQ o (λv=>EM.bind (EM.bind (cb X.K r ae v target) λ_=>r.aV ae body) λfl=>kO fl (EM.bind (iF ev.1.n) λ_=>r.cp ae target it body) (λv=>EM.ret (.ret v)) (EM.ret .next)) (EM.ret .next)) e hc λo cO iD iE dH e5 c1 c2=>?_
 refine wpAny_bind (ah.walk (Y:=(aA X ae env).and (ao it itv)) hA.2.2.1 (λQ s h E=>wpAny_onRaise (h _)) (Kn.snd (Kn.le_refl _)) _ _ _ _ dH c1 Z F s I g _ E λov ar aF aH d a0 aM=>?_)
 cases o with
 | none =>
  rw[show ov=none from d]
  exact eN e5 λi1 i2 _=>wpAny_pure ⟨rfl,codeAny_block (wpAny_execs_nil (hR .next ar aF aH (i1▸rfl) (i2▸a0) (i2▸aM)))⟩
 | some av =>
  refine(show ∃w,ov=some w/\Den cO.1.n aF aH av w from d).elim λw q=>?_
  rw[q.1]
  refine EM.en (x:=EM.bind (cb X.K r ae av target) λ_=>r.aV ae body) (f:=λfl=>kO fl (EM.bind (iF ev.1.n) λ_=>r.cp ae target it body) (λv=>EM.ret (.ret v)) (EM.ret .next)) e5 c2 λfl q8 Ox Ki dP e6 c3 c4=>?_
  have one:ah X A ((aA X ae env).and (ao av w)) cn (EM.bind (cb X.K r ae av target) λ_=>r.aV ae body) (PySem.assign target env w >>= λ_=>execs body env) :=
   ah.bind (ah.assign S hA target (Kn.fst (Kn.le_refl _)) (Kn.snd (Kn.le_refl _))) λ_ _=>(S.aV A hA ae env body).weaken (Kn.fst (Kn.fst (Kn.le_refl _)))
  refine wpAny_bind (one _ _ _ _ dP c3 aF aH ar a0 ⟨(aA X ae env).mono aM.le aM.same aM.sub g.1,q.2⟩ _ E λf a8 bg bo d2 bG bC=>?_)
  have st:=aM.trans bC
  have go:∀(_:EM.bind (iF ev.1.n) (λ_=>r.cp ae target it body) q8=some (b,ev',Ki)),wpAny (model X.prog X.w) A (PySem.again (.forLoop target itv body [] env)) (vo X A R) E a8:=λe6=>by
   refine EM.en (x:=iF ev.1.n) (f:=λ_=>r.cp ae target it body) e6 c4 λ_ Oy Oz OA Mf e7 c5 c6=>?_
   have t:=HG (X:=X) q8.2 _ _ _ Mf c5 Z F ev.1 s bg bo a8 bG st (Nat.le_refl _) I.lZ
   exact wpAny_pure ⟨rfl,S.cp A hA ae env target it itv body _ _ _ _ e7 c6 bg bo a8 t.1 (((aA X ae env).and (ao it itv)).mono t.2.le t.2.same t.2.sub g) R λf s' aq F' a b c=>hR f s' aq F' a b (t.2.trans c)⟩
  cases fl with
  | next=>rw[show f = .next from d2]; exact go e6
  | cont=>rw[show f = .cont from d2]; exact go e6
  | brk=>rw[show f = .brk from d2]; exact eN e6 λi1 i2 _=>wpAny_pure (hR .next a8 bg bo (i1▸rfl) (i2▸bG) (i2▸st))
  | ret v=>exact(show ∃w,f = .ret w/\Den _ _ _ v w from d2).elim λw q=>q.1▸eN e6 λi1 i2 _=>wpAny_pure (hR (.ret w) a8 bg bo (i1▸⟨w,rfl,i2▸q.2⟩) (i2▸bG) (i2▸st))
section
variable(elt target iter:Expr)(scope:Scope)(pos:Pos)(v acc:Value)(env:Env)
noncomputable def GH:Sem Fin:=PySem.standAt iter.pos >>= λ_=>jM (pyNext v) target v >>= λo=>aQ o (λw=>assign target env w >>= λ_=>(eval elt env >>= λx=>call (.builtin "list.append") [acc,x]) >>= λ_=>PySem.again (.compLoop (.ListComp elt [⟨target,iter,[],0⟩] scope pos) 0 v acc env)) (pure (.done .next))
theorem EN:compTurn (.ListComp elt [⟨target,iter,[],0⟩] scope pos) 0 v acc env=GH elt target iter scope pos v acc env:=by
 rw[compTurn_list1]
 refine bind_congr λ_=>(sV _ _).trans (bind_congr λo=>congrArg (λK=>aQ o K (pure (Fin.done .next))) (funext λw=>bind_congr λ_=>?_))
 rw[bind_assoc,bind_assoc]
 exact bind_congr λx=>(bind_assoc _ _ _).trans (bind_congr λ_=>pure_bind _ _)
end
section
variable(elt target iter c:Expr)(scope:Scope)(pos:Pos)(v acc:Value)(env:Env)
theorem Kj:compTurn (.ListComp elt [⟨target,iter,[c],0⟩] scope pos) 0 v acc env=(PySem.standAt iter.pos >>= λ_=>pyNext v >>= λr=>match r with
   | none=>pure (.done .next)
   | some w=>letOwnedTupleGo target v w >>= λ_=>assign target env w >>= λ_=>isTrue c env (eval c env) >>= λb=>(match b with
     | true=>(eval elt env >>= λx=>call (.builtin "list.append") [acc,x]) >>= λ_=>PySem.again (.compLoop (.ListComp elt [⟨target,iter,[c],0⟩] scope pos) 0 v acc env)
     | false=>PySem.again (.compLoop (.ListComp elt [⟨target,iter,[c],0⟩] scope pos) 0 v acc env))):=by
 have e:compTurn (.ListComp elt [⟨target,iter,[c],0⟩] scope pos) 0 v acc env=(PySem.standAt iter.pos >>= λ_=>pyNext v >>= λr=>match r with
   | none=>pure (.done .next)
   | some w=>letOwnedTupleGo target v w >>= λ_=>assign target env w >>= λ_=>(forIn [c] true λc r=>if r=true then (isTrue c env (eval c env) >>= λok=>pure (ForInStep.yield ok)) else pure (ForInStep.yield r):Sem Bool) >>= λok=>if ok=true then ((eval elt env >>= λx=>call (.builtin "list.append") [acc,x] >>= λ_=>pure ()) >>= λ_=>PySem.again (.compLoop (.ListComp elt [⟨target,iter,[c],0⟩] scope pos) 0 v acc env)) else PySem.again (.compLoop (.ListComp elt [⟨target,iter,[c],0⟩] scope pos) 0 v acc env)):=by rfl
 rw[e]
 refine bind_congr λ_=>bind_congr λo=>?_
 cases o with
 | none=>rfl
 | some w =>
  refine bind_congr λ_=>bind_congr λ_=>?_
  simp only[List.forIn_cons,List.forIn_nil,if_true,bind_assoc,pure_bind]
  refine bind_congr λb=>?_
  cases b <;> simp
noncomputable def FT:Sem Fin:=PySem.standAt iter.pos >>= λ_=>jM (pyNext v) target v >>= λo=>aQ o (λw=>assign target env w >>= λ_=>isTrue c env (eval c env) >>= λb=>(match b with
 | true=>(eval elt env >>= λx=>call (.builtin "list.append") [acc,x]) >>= λ_=>PySem.again (.compLoop (.ListComp elt [⟨target,iter,[c],0⟩] scope pos) 0 v acc env)
 | false=>PySem.again (.compLoop (.ListComp elt [⟨target,iter,[c],0⟩] scope pos) 0 v acc env))) (pure (.done .next))
theorem Ez:compTurn (.ListComp elt [⟨target,iter,[c],0⟩] scope pos) 0 v acc env=FT elt target iter c scope pos v acc env:=by
 rw[Kj]
 exact bind_congr λ_=>sV _ _
end
theorem ah.comp(S:Sound X r n)(hA:aN X A n)(elt target iter:Expr)(c:Option Expr)(scope:Scope)(pos:Pos)(it:AV)(itv:Value)(acc:AV)(accv:Value):
  dQ X A ((aA X ae env).and ((ao it itv).and (ao acc accv))) (kF X.K r ae elt target c it acc) (.compLoop (.ListComp elt [⟨target,iter,c.toList,0⟩] scope pos) 0 itv accv env):=by
 refine dQ.turn (env:=env) (t:=compTurn (.ListComp elt [⟨target,iter,c.toList,0⟩] scope pos) 0 itv accv env) rfl rfl ?_
 cases c with
 | none =>
  show bE _ _ _ (kF X.K r ae elt target none it acc) (compTurn (.ListComp elt [⟨target,iter,[],0⟩] scope pos) 0 itv accv env)
  rw[EN]
  refine bE.standAt (bE.bind (ah.walk hA.2.2.1 (λQ s h=>h) (Kn.snd (Kn.fst (Kn.le_refl _)))) λo ov=>?_)
  cases o with
  | none=>exact bE.cz (P:=ov=none) (Kn.snd (Kn.le_refl _)) λh=>h▸bE.done λ_ _ _ _=>rfl
  | some av =>
   intro ev b ev' cs e hc Z F s I g
   refine(show ∃w,ov=some w/\Den _ _ _ av w from g.2).elim λw q=>?_
   rw[q.1]
   refine bE.bind (Y:=((aA X ae env).and ((ao it itv).and (ao acc accv))).and (ao av w)) (ah.assign S hA target (Kn.fst (Kn.fst (Kn.le_refl _))) (Kn.snd (Kn.le_refl _))) (λ_ _=>bE.bind (R:=ao) (ah.bind ((S.ev A hA ae env elt).weaken (Kn.fst (Kn.fst (Kn.fst (Kn.le_refl _))))) λx xv=>ah.append [acc,x] _ [accv,xv] λ_ _ _ g=>⟨g.1.1.1.2.2,g.2,rfl⟩) λ_ _=>(bE.again (S.comp A hA ae env elt target iter none scope pos it itv acc accv) rfl).weaken λ_ _ _ g=>g.1.1.1) ev b ev' cs e hc Z F s I ⟨g.1,q.2⟩
 | some c =>
  show bE _ _ _ (kF X.K r ae elt target (some c) it acc) (compTurn (.ListComp elt [⟨target,iter,[c],0⟩] scope pos) 0 itv accv env)
  rw[Ez]
  refine bE.standAt (bE.bind (ah.walk hA.2.2.1 (λQ s h=>h) (Kn.snd (Kn.fst (Kn.le_refl _)))) λo ov=>?_)
  cases o with
  | none=>exact bE.cz (P:=ov=none) (Kn.snd (Kn.le_refl _)) λh=>h▸bE.done λ_ _ _ _=>rfl
  | some av =>
   intro ev b ev' cs e hc Z F s I g
   refine(show ∃w,ov=some w/\Den _ _ _ av w from g.2).elim λw q=>?_
   rw[q.1]
   have ag:=bE.again (S.comp A hA ae env elt target iter (some c) scope pos it itv acc accv) rfl
   refine bE.bind (Y:=((aA X ae env).and ((ao it itv).and (ao acc accv))).and (ao av w)) (ah.assign S hA target (Kn.fst (Kn.fst (Kn.le_refl _))) (Kn.snd (Kn.le_refl _))) (f:=λ_=>cF (r.tst ae c) (EM.bind (EM.bind (r.ev ae elt) λx=>fM [acc,x]) λ_=>r.comp ae elt target (some c) it acc) (r.comp ae elt target (some c) it acc)) (λ_ _=>?_) ev b ev' cs e hc Z F s I ⟨g.1,q.2⟩
   refine bE.br ((S.tst A hA ae env c).weaken (Kn.fst (Kn.fst (Kn.fst (Kn.le_refl _))))) ?_ (ag.weaken λ_ _ _ g=>g.1.1)
   exact bE.bind (R:=ao) (ah.bind ((S.ev A hA ae env elt).weaken (Kn.fst (Kn.fst (Kn.fst (Kn.le_refl _))))) λx xv=>ah.append [acc,x] _ [accv,xv] λ_ _ _ g=>⟨g.1.1.1.2.2,g.2,rfl⟩) λ_ _=>ag.weaken λ_ _ _ g=>g.1.1.1
end
noncomputable def jb(cells:List (Str×Nat))(names:List (Str×NameKind))(acc:List (Str×Nat)):Option (List (Str×Nat)):=names.foldr (λq k acc=>_root_.cond (q.2 == .free) ((cells.lookup q.1).bind λi=>k ((q.1,i)::acc)) (k acc)) some acc
noncomputable def ow(ae:aB)(sc:Scope):Option (List (Str×Nat)):=_root_.cond ae.fz.isEmpty (jb ae.cells sc.names []) none
noncomputable def nP(sc:Scope):Bool:=(sc.kind == .function) && ((sc.names.all λx=>!(x.2 == .cell)) && (sc.names.all λx=>!(x.2 == .local) || (sc.names.lookup x.1 == some .local)))
noncomputable def fR(sc:Scope)(ae:aB):Scope:={ sc with names:=sc.names.map λ(n,k)=>if (k == .free && ae.scope.kind == .function && ae.scope.names.lookup n == some .cell) then (n,.cell) else (n,k) }
structure zN(sc:Scope):Prop where
 kind:sc.kind = .function
 cell:∀x∈sc.names,x.2≠.cell
 loc:∀x∈sc.names,x.2 = .local->sc.names.lookup x.1=some .local
theorem EA{sc:Scope}(h:nP sc=true):zN sc:=by
 rw[nP,Bool.and_eq_true,Bool.and_eq_true,List.all_eq_true,List.all_eq_true] at h
 refine⟨eq_of_beq h.1,λx hx e=>?_,λx hx e=>?_⟩
 ·have:=h.2.1 x hx
  rw[e] at this
  exact ff this
 ·have:=h.2.2 x hx
  rw[e] at this
  exact eq_of_beq this
noncomputable def isLit(it:AV):EM Unit:=bT it (λi=>EM.bind (EM.cell i) λc=>mJ c (λ_ _=>EM.ret ()) <| qr c (λ_ _=>EM.ret ()) <| ug c (λ_ _=>EM.ret ()) EM.fail) EM.fail
noncomputable def St.del(J:St)(L:Nat):St:=⟨J.n,J.objs.filter λp=>!(Nat.beq p.1 L)⟩
noncomputable def rh(i:Nat)(ys:List AV)(x:AV):AV:=bT x (λj=>_root_.cond (Nat.beq i j) (.lst ys) (.ref j)) x
noncomputable def rB(l:List Nat)(vs:List AV):EM (List AV):=l.foldr (λi k vs=>EM.bind (EM.aK iz i) λys=>EM.bind (EM.upd λJ=>J.del i) λ_=>k (vs.map (rh i ys))) EM.ret vs
noncomputable def nQ(vs:List AV):EM AV:=EM.or (EM.bind (EM.word λw=>oj w some none) λl=>EM.bind (rB l vs) nT) (iX vs)
noncomputable def HI(vs:List AV):Bool:=aQ vs.getLast? (λx=>bT x (λ_=>true) false) false
noncomputable def p6(vs:List AV):EM AV:=_root_.cond (HI vs) (EM.bind (EM.word some) λw=>mV w (jD vs) <| oj w (λl=>EM.bind (rB l vs) jD) EM.fail) (jD vs)
noncomputable def iw(L:Nat):EM Unit:=EM.bind (EM.aK jh L) λ_=>EM.upd λJ=>J.del L
noncomputable def jc(r:Rec)(ae:aB)(elt target iter:Expr)(c:Option Expr)(sc:Scope):EM (AV×Nat):=_root_.cond (nP sc && eK iter)
 (EM.bind (EM.opt (ow ae sc)) λcl=>EM.bind (r.ev ae iter) λv=>EM.bind (dZ v) λit=>EM.bind (nT []) λacc=>EM.bind (EM.push (.ns [])) λL=>EM.bind (isLit it) λ_ =>
  EM.bind (r.comp ⟨fR sc ae,L,cl,.none,ae.frm,[]⟩ elt target c it acc) λfl=>cj fl (EM.ret (acc,L)) (λ_=>EM.fail) EM.fail) EM.fail
noncomputable def pO(x:EM (AV×Nat)):EM AV:=EM.bind x λp=>EM.bind (iw p.2) λ_=>EM.ret p.1
noncomputable def yd(r:Rec)(ae:aB)(elt target iter:Expr)(c:Option Expr)(sc:Scope):EM AV:=pO (jc r ae elt target iter c sc)
noncomputable def ri(ae:aB)(y:Str)(yp pos:Pos)(sc:Scope):Bool:=(ae.scope.kind == .function) && (ae.scope.names.lookup y == some .local) && (yp.line == pos.line) && !(sc.names.any λ(n,k)=>n == y && (k == .local || k == .cell))
noncomputable def se(ae:aB)(y:Str)(yp:Pos)(x:EM (AV×Nat))(sc:Scope)(pos:Pos):EM aU:=_root_.cond (ri ae y yp pos sc)
 (EM.bind x λp=>EM.bind (fe ae y p.1) λ_=>EM.bind (iw p.2) λ_=>EM.ret .next)
 (EM.bind (pO x) λv=>EM.bind (fe ae y v) λ_=>EM.ret .next)
noncomputable def xm(r:Rec)(ae:aB)(y:Str)(yp:Pos)(elt target iter:Expr)(c:Option Expr)(sc:Scope)(pos:Pos):EM aU:=se ae y yp (jc r ae elt target iter c sc) sc pos
noncomputable def bp(one:Stmt->EM aU)(ss:List Stmt):EM aU:=ss.foldr (λst k=>EM.bind (one st) λfl=>cj fl k (λv=>EM.ret (.ret v)) (EM.ret fl)) (EM.ret .next)
section
variable{X:Ctx}{A:Around}{Z:ay}{F:Fz}{J:St}{s:Shared}{Y:Kn}{r:Rec}{n:Nat}{ae:aB}{env:Env}
theorem qO{L i:Nat}{c:Cell}(h:(J.del L).get i=some c):i≠L/\J.get i=some c:=by
 have e:(J.del L).get i=_:=lh (λi=>!(Nat.beq i L)) i J.objs
 rw[e,qs] at h
 cases q:i == L with
 | true=>rw[q] at h; exact aJ h
 | false=>rw[q] at h; exact⟨ne_of_beq_false q,h⟩
theorem Inv.forget{aq:ay}{F':Fz}{aj:St}{s':Shared}{L:Nat}{c:Cell}(I:Inv X aq F' aj s')(st:aD Z F J s aq F' aj s')(hc:aj.get L=some c)(hL:J.n<=L)(hfr:∀e∈X.fr,e.2<J.n){h':Heap}(hs:Heap.SameBut (aq L) s'.heap h'):
  Inv X aq F' (aj.del L) { s' with heap:=h' }/\aD Z F J s aq F' (aj.del L) { s' with heap:=h' }:=by
 have hnew:s.heap.get? (aq L)=none:=(st.new _ _ hc).elim (λh=>absurd h.1 (Nat.not_lt.mpr hL)) λh=>h
 have keep:∀b o,b≠aq L->s'.heap.get? b=some o->h'.get? b=some o:=λb o hb e=>(hs.2 b hb).trans e
 have old:∀x o,s.heap.get? x=some o->x≠aq L:=λx o e h=>aJ (hnew.symm.trans (h▸e))
 have O0:=I.jY (aq:=aq) (f:=λi=>!(Nat.beq i L)) (N:=aj.n) (λ_ _=>rfl) (λi c _ h=>I.ids i c h) (λ_ _ _ _ _ h=>h) λe he=>by rw[qs,beq_false_of_ne (Nat.ne_of_lt (Nat.lt_of_lt_of_le (hfr e he) hL))]; rfl
 have st':=st.jY (f:=λi=>!(Nat.beq i L)) (N:=aj.n) st.le
 exact⟨⟨O0.ids,O0.inj,λi c h=>(O0.cell i c h).keep λo e=>keep _ _ (I.ne (qO h).2 hc (qO h).1) e,O0.off,λa o e=>keep _ _ (λh=>I.nt e hc h.symm) (I.froz a o e),O0.base,O0.drawn,O0.os,O0.gens,O0.frs⟩,
  ⟨st'.le,st'.same,st'.sub,λx o e hx=>keep _ _ (old x o e) (st'.keep x o e hx),λx o e=>(st'.live x o e).imp λo' e'=>keep _ _ (old x o e) e',st'.new,st'.gens⟩⟩
theorem Inv.NW{L:Nat}{xs:List AV}(I:Inv X Z F J s)(hL:J.get L=some (.list xs)):∃F',Inv X Z F' (J.del L) s/\aD Z F J s Z F' (J.del L) s/\Den (J.del L).n Z F' (.lst xs) (.ref (Z L)):=by
 have O0:=I.jY (aq:=Z) (f:=λi=>!(Nat.beq i L)) (N:=J.n) (λ_ _=>rfl) (λi c _ h=>I.ids i c h) (λ_ _ _ _ _ h=>h) λe he=>(I.frs e he).2.elim λc q=>by
  rw[qs]
  cases h:e.2 == L with
  | false=>rfl
  | true =>
   rw[eq_of_beq h] at q
   rw[<- Option.some.inj (hL.symm.trans q.1)] at q
   exact ff q.2
 refine(I.cA hL).elim λvs q=>q.elim λk q=>?_
 have r:=Inv.kh (J:=J.del L) O0 q.1 λj d hj=>I.ne (qO hj).2 hL (qO hj).1
 have st:=(aD.refl (s:=s) Z F I.ids).jY (f:=λi=>!(Nat.beq i L)) (N:=J.n) (Nat.le_refl _)
 exact⟨_,r.1,st.trans r.2,.lst _ _ vs k (if_pos rfl) (q.2.mono (Nat.le_refl _) (λ_ _=>rfl) r.2.sub)⟩
theorem yR{i:Nat}{ys:List AV}{N:Nat}(h:Den N Z F (.lst ys) (.ref (Z i))):∀{vs:List AV} {ws:List Value},ax N Z F vs ws->ax N Z F (vs.map (rh i ys)) ws
 | [],_,d=>d
 | x::_,ws,d=>dy.imp (λw=>b8 (P:=λy x=>Den N Z F x w->Den N Z F y w) (λj=>bQ (P:=λy=>Den N Z F (.ref j) w->Den N Z F y w) (λe d=>by rw[(dK d).1,<- Nat.eq_of_beq_eq_true e]; exact h) λd=>d) λd=>d) (λ_=>yR h) ws d
theorem uA:∀{l:List Nat} {vs:List AV} {J:St},ai J (rB l vs) λys aj=>∀Z F s ws,Inv X Z F J s->ax J.n Z F vs ws->∃F',Inv X Z F' aj s/\aD Z F J s Z F' aj s/\ax aj.n Z F' ys ws
 | [],vs,J=>ai.ret λZ F s ws I d=>⟨F,I,aD.refl Z F I.ids,d⟩
 | i::l,vs,J=>show ai J (EM.bind (EM.aK iz i) λys=>EM.bind (EM.upd λJ=>J.del i) λ_=>rB l (vs.map (rh i ys))) _ from ai.aK jz λys hy=>ai.upd ((uA (l:=l) (vs:=vs.map (rh i ys)) (J:=J.del i)).mono λzs aZ c2 Z F s ws I d=>(I.NW hy).elim λaH q=>(c2 Z aH s ws q.1 (yR q.2.2 (ax.step d q.2.1))).elim λbo p=>⟨bo,p.1,q.2.1.trans p.2.1,p.2.2⟩)
section
variable{A:Around}{Y:Kn}{xs:List AV}{vs:List Value}
theorem ah.HJ(h:Y.le (bX xs vs)):ah X A Y ao (p6 xs) (PySem.newTuple vs):=by
 have h0:ah X A Y ao (jD xs) (PySem.newTuple vs):=ah.newTuple h
 refine bQ (P:=λx=>ah X A Y ao x (PySem.newTuple vs)) (λ_=>?_) h0
 refine ah.bw λJ Z F s I g=>ai.word λw=>nL (P:=λx _=>ai J x λb aj=>Goes X A Z F J s (PySem.newTuple vs) (ao b) aj) (λds b ev' cs e hc=>h0 (J,ds) b ev' cs e hc Z F s I g)
  (xu (P:=λx _=>ai J x λb aj=>Goes X A Z F J s (PySem.newTuple vs) (ao b) aj) (λl=>ai.bind (uA (X:=X)) λys au c1=>λds b ev' cs e hc Q E hQ=>?_) ai.fail)
 refine(c1 Z F s vs I (h _ _ _ g)).elim λaH q=>?_
 exact ah.newTuple (X:=X) (A:=A) (Y:=bX ys vs) (Kn.le_refl _) (au,ds) b ev' cs e hc Z aH s q.1 q.2.2 Q E λv s' aq F' d I' st=>hQ v s' aq F' d I' (q.2.1.trans st)
theorem ah.GI(h:Y.le (bX xs vs)):ah X A Y ao (nQ xs) (PySem.newList vs):=ah.bw λJ Z F s I g=>ai.or
 (ai.word λl=>ai.bind (uA (X:=X)) λys au c1=>λds b ev' cs e hc Q E hQ=>(c1 Z F s vs I (h _ _ _ g)).elim λaH q =>
  ah.newList (X:=X) (A:=A) (Y:=bX ys vs) (Kn.le_refl _) (au,ds) b ev' cs e hc Z aH s q.1 q.2.2 Q E λv s' aq F' d I' st=>hQ v s' aq F' d I' (q.2.1.trans st))
 (λds b ev' cs e hc=>ah.Gp h (J,ds) b ev' cs e hc Z F s I g)
end
theorem ai.all{α β:Type}{x:EM β}{C:α->β->St->Prop}(h:∀a,ai J x (C a)):ai J x λb aj=>∀a,C a b aj:=λds b ev' cs e hc a=>h a ds b ev' cs e hc
theorem ah.at{α β:Type}{x:EM β}{t:Sem α}{R:β->α->Kn}(h:ah X A Y R x t):ai J x λb aj=>∀Z F s,Inv X Z F J s->Y.p J.n Z F->Goes X A Z F J s t (R b) aj:=λds b ev' cs e hc=>h (J,ds) b ev' cs e hc
theorem dQ.at{x:EM aU}{c:Code}(h:dQ X A Y x c):ai J x λb aj=>∀Z F s,Inv X Z F J s->Y.p J.n Z F->∀R:Result->Shared->Prop,(∀f s' aq F',(cn b f).p aj.n aq F'->Inv X aq F' aj s'->aD Z F J s aq F' aj s'->R (.ok f) s')->codeAny (model X.prog X.w) A c R s:=λds b ev' cs e hc=>h (J,ds) b ev' cs e hc
theorem yS{x:Str}{i:Nat}:∀{l:List (Str×Nat)},l.lookup x=some i->(b4 Z l).lookup x=some (Z i)
 | [],h=>aJ h
 | p::l,h=>by
  rw[List.lookup_cons] at h
  show List.lookup x ((p.1,Z p.2)::b4 Z l)=_
  rw[List.lookup_cons]
  cases e:x == p.1 with
  | true=>rw[e] at h; exact congrArg (λj=>some (Z j)) (Option.some.inj h)
  | false=>rw[e] at h; exact yS h
theorem sG(hcells:env.cells=b4 Z ae.cells):∀(names:List (Str×NameKind)) (acc cl:List (Str×Nat)),jb ae.cells names acc=some cl ->
  forIn names (b4 Z acc) (λ(x:Str×NameKind) (cs:List (Str×Addr))=>(do
   if x.2 == .free then pure (.yield ((x.1,<- PySem.cellOf env x.1)::cs)) else pure (.yield cs):Sem (ForInStep (List (Str×Addr)))))=pure (b4 Z cl)
 | [],acc,cl,h=>by
  rw[List.forIn_nil,Option.some.inj h]
 | q::r,acc,cl,h=>by
  rw[List.forIn_cons]
  have e:jb ae.cells (q::r) acc=_root_.cond (q.2 == .free) ((ae.cells.lookup q.1).bind λi=>jb ae.cells r ((q.1,i)::acc)) (jb ae.cells r acc):=rfl
  rw[e] at h
  cases hk:q.2 == .free with
  | false =>
   rw[hk] at h
   rw[if_neg Bool.false_ne_true,pure_bind]
   exact sG hcells r acc cl h
  | true =>
   rw[hk] at h
   rw[if_pos rfl]
   refine(Option.bind_eq_some_iff.mp h).elim λi p=>?_
   have e2:PySem.cellOf env q.1=pure (Z i):=by
    unfold PySem.cellOf
    rw[hcells,yS p.1]
   rw[e2,pure_bind,pure_bind]
   exact sG hcells r ((q.1,i)::acc) cl p.2
theorem Fh{sc:Scope}{cl:List (Str×Nat)}(hcells:env.cells=b4 Z ae.cells)(h:jb ae.cells sc.names []=some cl):closureFor sc env=pure (b4 Z cl):=by
 unfold closureFor
 have:=sG hcells sc.names [] cl h
 exact(congrArg (λx=>x >>= λcs=>pure cs) this).trans (pure_bind _ _)
theorem ye{n:Nat}{sc:Scope}{cl:List (Str×Nat)}(g:bx X ae env n Z F)(h:ow ae sc=some cl):closureFor sc env=pure (b4 Z cl):=Fh (g.Iw (List.isEmpty_iff.mp (fg h).1)) (fg h).2
theorem pW{N:Nat}{cells:List (Str×Nat)}(hc:∀p∈cells,p.2<N):∀(names:List (Str×NameKind)) (acc cl:List (Str×Nat)),jb cells names acc=some cl->(∀p∈acc,p.2<N)->∀p∈cl,p.2<N
 | [],acc,cl,h,ha=>Option.some.inj h▸ha
 | q::r,acc,cl,h,ha=>by
  have e:jb cells (q::r) acc=_root_.cond (q.2 == .free) ((cells.lookup q.1).bind λi=>jb cells r ((q.1,i)::acc)) (jb cells r acc):=rfl
  rw[e] at h
  cases hk:q.2 == .free with
  | false=>rw[hk] at h; exact pW hc r acc cl h ha
  | true =>
   rw[hk] at h
   refine(Option.bind_eq_some_iff.mp h).elim λi p=>pW hc r _ cl p.2 λz hz=>?_
   exact(List.mem_cons.mp hz).elim (λe=>e▸hc _ (iV p.1)) (ha z)
theorem GJ{sc:Scope}(h:env.scope=ae.scope):relabel sc env=fR sc ae:=by
 unfold relabel fR Env.kindOf
 rw[h]
noncomputable def Kk(X:Ctx)(A:Around)(env:Env)(elt target iter:Expr)(c:Option Expr)(sc:Scope)(cl:List (Str×Addr))(pos:Pos)(E:Value->Shared->Prop)(R:Value->Env->Result->Shared->Prop)(s:Shared):Prop :=
 wpAny (model X.prog X.w) A (eval iter env) (λx ar=>wpAny (model X.prog X.w) A (PySem.pyIter x) (λit a8=>wpAny (model X.prog X.w) A (PySem.newList []) (λacc cN =>
   wpAny (model X.prog X.w) A (newFunctionEnv sc env.globals cl [] env.qual none .none (some env)) (λcenv iK =>
    codeAny (model X.prog X.w) A (.compStart (.ListComp elt [⟨target,iter,c.toList,0⟩] sc pos) 0 it acc { cenv with scope:=relabel sc env }) (R acc cenv) iK) E cN) E a8) E ar) E s
structure Kl(X:Ctx)(Z:ay)(F:Fz)(J:St)(s:Shared)(p:AV×Nat)(aj:St)(accv:Value)(cenv:Env)(s':Shared)(aq:ay)(F':Fz):Prop where
 den:Den aj.n aq F' p.1 accv
 inv:Inv X aq F' aj s'
 stp:aD Z F J s aq F' aj s'
 lo:J.n<=p.2
 hi:p.2<aj.n
 loc:cenv.locals=aq p.2
structure rj(X:Ctx)(A:Around)(ae:aB)(env:Env)(elt target iter:Expr)(c:Option Expr)(sc:Scope)(pos:Pos)(J:St)(p:AV×Nat)(aj:St):Prop where
 scope:zN sc
 it:eK iter=true
 go:∀Z F s,Inv X Z F J s->bx X ae env J.n Z F->∃cl,closureFor sc env=pure cl/\∀E R,(∀accv cenv f s' aq F',Kl X Z F J s p aj accv cenv s' aq F'->R accv cenv (.ok f) s')->Kk X A env elt target iter c sc cl pos E R s
noncomputable def oP(X:Ctx)(A:Around)(J:St)(it:AV):Prop:=∃i,it = .ref i/\∀Z F s,Inv X Z F J s->∀(Q:Value->Shared->Prop) (E:Value->Shared->Prop),Q (.ref (Z i)) s->wpAny (model X.prog X.w) A (PySem.pyIter (.ref (Z i))) Q E s
theorem GK{it:AV}:ai J (isLit it) λ_ aj=>aj = J/\oP X A J it :=
 b8 (P:=λy it=>ai J y λ_ aj=>aj = J/\oP X A J it) (λi=>ai.cell λc=>nJ (P:=λy c=>J.get i=some c->ai J y λ_ aj=>aj = J/\oP X A J (.ref i)) (λl k h=>ai.ret ⟨rfl,i,rfl,λZ F s I Q E q=>wpAny_pyIter_listiter (l:=Z l) (i:=k) ⟨_,(I.o4 h).1,rfl,rfl⟩ q⟩) <|
  sk (P:=λy c=>J.get i=some c->ai J y λ_ aj=>aj = J/\oP X A J (.ref i)) (λj k h=>ai.ret ⟨rfl,i,rfl,λZ F s I Q E q=>(I.kM h).elim λold he=>wpAny_pyIter_enum he.1 q⟩) <|
  xA (P:=λy c=>J.get i=some c->ai J y λ_ aj=>aj = J/\oP X A J (.ref i)) (λxs k h=>ai.ret ⟨rfl,i,rfl,λZ F s I Q E q=>(I.at h).elim λo h=>h.2.elim λb r=>wpAny_pyIter_listiter (l:=b) (i:=k) ⟨o,h.1,r.1⟩ q⟩) λ_=>ai.fail) ai.fail
theorem yT(S:Sound X r n)(hA:aN X A n)(elt target iter:Expr)(c:Option Expr)(sc:Scope)(pos:Pos):ai J (jc r ae elt target iter c sc) (rj X A ae env elt target iter c sc pos J):=by
 refine bQ (P:=λx=>ai J x (rj X A ae env elt target iter c sc pos J)) (λhcs=>?_) ai.fail
 rw[Bool.and_eq_true] at hcs
 have K:=EA hcs.1
 refine ai.opt λcl hfree=>ai.bind (ah.at (S.ev A hA ae env iter)) λv au c1=>ai.bind (ai.all λvv=>ah.at (X:=X) (A:=A) (ah.pyIter (Y:=ao v vv) (Kn.le_refl _))) λit aZ c2=>ai.bind (ah.at (X:=X) (A:=A) (ah.newList (Y:=Kn.top) (xs:=[]) (vs:=[]) λ_ _ _ _=>rfl)) λacc a7 c3=>ai.push (ai.eP (GK (X:=X) (A:=A)) λ_ hl=>?_)
 refine hl.elim λi hl=>?_
 refine ai.bind (ai.all λitv=>ai.all λaccv=>ai.all λcenv=>dQ.at (S.comp A hA ⟨fR sc ae,a7.n,cl,.none,ae.frm,[]⟩ cenv elt target iter c sc pos it itv acc accv)) λfl Km c6=>?_
 cases fl with
 | next =>
  refine ai.ret ⟨K,hcs.2,λZ F s I g=>⟨_,ye g hfree,λE R hR=>?_⟩⟩
  have hcl:∀p∈cl,p.2<J.n:=pW g.cl sc.names [] cl (fg hfree).2 λp hp=>nomatch hp
  refine c1 Z F s I g _ E λvv ar aF aH d1 a0 aM=>c2 vv aF aH ar a0 d1 _ E λitv a8 bg bo d2 bG bC=>c3 bg bo a8 bG trivial _ E λaccv cN fT gw d3 dg cD=>?_
  refine wpAny_newFunctionEnv K.cell (λy hy=>nomatch hy) (λh' hn hsb=>?_) K.kind
  have j0:=dg.push (a:=cN.heap.objs.size) (c:=.ns []) (Heap.get?_none_of_le (Nat.le_refl _)) (λbb oo ee=>hsb.extBut bb oo (Nat.ne_of_lt (Heap.lt_size ee)) (Heap.get?_push_of_some _ ee)) (.l4 hn λy av h=>aJ h) (cN.toks+([]:List (Str×Value)).length)
  have st:=((aM.trans bC).trans cD).trans j0.2
  have g':bx X ae env (a7.push (.ns [])).n (fT.put a7.n cN.heap.objs.size) gw:=(aA X ae env).mono st.le st.same st.sub g
  have gl:env.globals=mainGlobals:=g'.gl
  have bi:env.builtins=builtinsNs:=g'.bi
  have fr:=g'.fr
  have fl:=g'.fl
  have tp:=g'.top
  have d3':=Den.step d3 j0.2
  have d2':=Den.step d2 (cD.trans j0.2)
  have gE:bx X ⟨fR sc ae,a7.n,cl,.none,ae.frm,[]⟩ { newEnv sc cN.heap.objs.size env.globals (b4 Z cl) env.qual none .none (some env) env.builtins with scope:=relabel sc env } (a7.push (.ns [])).n (fT.put a7.n cN.heap.objs.size) gw :=
   ⟨GJ g.sc,K.kind,(ay.fK _ _ _).symm,Nat.lt_succ_self _,⟨[],[],((mI λp hp=>st.same _ (hcl p hp)).symm.trans (List.append_nil _).symm),trivial,(a6.nil:a6 _ _ _ [] [])⟩,(λp hp=>Nat.lt_of_lt_of_le (hcl p hp) st.le),gl,bi,fr,fl,tp,.inl rfl⟩
  have loop:=c6 itv accv _ _ _ _ j0.1 ⟨gE,d2',d3'⟩ (R accv (newEnv sc cN.heap.objs.size env.globals (b4 Z cl) env.qual none .none (some env) env.builtins)) λf s' aq F' hf vX nc=>hR accv _ f s' aq F' ⟨Den.step d3' nc,vX,st.trans nc,Nat.le_trans aM.le (Nat.le_trans bC.le cD.le),Nat.lt_of_lt_of_le (Nat.lt_succ_self _) nc.le,((nc.same _ (Nat.lt_succ_self _)).trans (ay.fK _ _ _)).symm⟩
  refine codeAny_compStart_list loop ?_
  rw[hl.1] at d2'
  have e2:=(dK d2').1
  rw[e2] at loop ⊢
  exact hl.2 _ _ _ j0.1 _ _ loop
 | _=>exact ai.fail
theorem ai.del{B:Type}{D:B->St->Prop}{L:Nat}{f:Unit->EM B}(h:∀m,J.get L=some (.ns m)->ai (J.del L) (f ()) D):ai J (EM.bind (iw L) f) D :=
 ai.bind (C:=λ_ au=>(∃m,J.get L=some (.ns m))/\au=J.del L) (ai.aK mE λm hm=>ai.gX ⟨⟨m,hm⟩,rfl⟩) λ_ au q=>q.1.elim λm hm=>q.2▸h m hm
theorem ah.yf{x:EM (AV×Nat)}{elt target iter:Expr}{c:Option Expr}{sc:Scope}{pos:Pos}(h1:∀J,ai J x (rj X A ae env elt target iter c sc pos J)):bh X A ae env (pO x) (.ListComp elt [⟨target,iter,c.toList,0⟩] sc pos):=ah.bw λJ Z F s I g=>ai.bind (h1 J) λp au cc=>ai.del λm hm=>ai.ret λQ E hQ=>(cc.go Z F s I g).elim λcl gc =>
 wpAny_comprehension_free (use:=none) rfl (r9 cc.it env) gc.1 cc.scope.kind cc.scope.loc (gc.2 E (λacc cenv r s'=>compPost (model X.prog X.w) A E none Q acc cenv.locals r s') λaccv cenv f s' aq F' q=>(q.inv.nu hm).elim λfn hn=>⟨fn,q.loc▸hn.1,λh' hs=>by
  have r:=q.inv.forget q.stp hm q.lo I.lZ (q.loc▸hs)
  exact hQ accv _ aq F' q.den r.1 r.2⟩)
theorem ah.GL(S:Sound X r n)(hA:aN X A n)(elt target iter:Expr)(c:Option Expr)(sc:Scope)(pos:Pos):bh X A ae env (yd r ae elt target iter c sc) (.ListComp elt [⟨target,iter,c.toList,0⟩] sc pos):=ah.yf λJ=>yT S hA elt target iter c sc pos
theorem ah.EO{x:EM (AV×Nat)}{elt target iter:Expr}{c:Option Expr}{sc:Scope}{pos:Pos}(h1:∀J,ai J x (rj X A ae env elt target iter c sc pos J))(y:Str)(yp p:Pos):bu X A ae env (se ae y yp x sc pos) (.Assign [.Name y yp] (.ListComp elt [⟨target,iter,c.toList,0⟩] sc pos) p):=by
 refine ah.cz (P:=swapsWith (.ListComp elt [⟨target,iter,c.toList,0⟩] sc pos) (some (.Name y yp)) p.line env=pure (ri ae y yp pos sc)) (λ_ _ _ g=>?_) λhsw=>?_
 ·show(pure _:Sem Bool)=_
  unfold ri Env.blockKind Env.kindOf
  rw[bx.sc g,bx.fn g]
  rfl
 unfold se
 cases hb:ri ae y yp pos sc with
 | false =>
  rw[hb] at hsw
  rw[exec_Assign_Name env y yp _ p hsw]
  show ah X A (aA X ae env) cn (EM.bind (pO x) λv=>EM.bind (fe ae y v) λ_=>EM.ret .next) _
  exact ah.standAt (ah.bind (ah.yf h1) λa v=>ah.standAt (ah.bind (ah.bindName (y:=y) (Kn.fst (Kn.le_refl (aA X ae env))) (Kn.snd (Kn.le_refl (ao a v)))) λ_ _=>ah.ret (b:=aU.next) (a:=Flow.next) (R:=cn) λ_ _ _ _=>rfl))
 | true =>
  rw[hb] at hsw
  rw[exec_Assign_Name_used y yp _ p hsw]
  show ah X A (aA X ae env) cn (EM.bind x λp=>EM.bind (fe ae y p.1) λ_=>EM.bind (iw p.2) λ_=>EM.ret .next) _
  refine ah.bw λJ Z F s I g=>ai.bind (h1 J) λq au cc=>ai.bind (ai.all λaccv=>ah.at (X:=X) (A:=A) (ah.bindName (y:=y) (Y:=(aA X ae env).and (ao q.1 accv)) (Kn.fst (Kn.le_refl _)) (Kn.snd (Kn.le_refl _)))) λ_ aZ c2=>ai.del λm hm=>ai.ret λQ E hQ=>?_
  refine wpAny_bind (wpAny_standAt (wpAny_bind ?_))
  show wpAny _ _ (comprehension (.ListComp elt [⟨target,iter,c.toList,0⟩] sc pos) sc env (firstIterPos [⟨target,iter,c.toList,0⟩] pos) (PySem.newList []) (firstAsync [⟨target,iter,c.toList,0⟩]) (firstIter [⟨target,iter,c.toList,0⟩] env) (some (PySem.assign (.Name y yp) env)) >>= λ_=>pure ()) _ _ s
  refine wpAny_bind ((cc.go Z F s I g).elim λcl gc=>wpAny_comprehension_free (use:=some (PySem.assign (.Name y yp) env)) (g:=⟨target,iter,c.toList,0⟩) (gs:=[]) rfl (r9 cc.it env) gc.1 cc.scope.kind cc.scope.loc (gc.2 E (λacc cenv r s'=>compPost (model X.prog X.w) A E (some (PySem.assign (.Name y yp) env)) _ acc cenv.locals r s') λaccv cenv f s' aq F' q=>?_))
  show wpAny _ A (PySem.assign (.Name y yp) env accv) _ E s'
  refine wpAny_bind (wpAny_standAt (c2 accv aq F' s' q.inv ⟨(aA X ae env).mono q.stp.le q.stp.same q.stp.sub g,q.den⟩ _ E λ_ s'' Mg F'' _ I'' st''=>(I''.nu hm).elim λfn hn=>?_))
  have hl:=q.loc.trans (st''.same _ q.hi).symm
  refine⟨fn,hl▸hn.1,λh' hs=>wpAny_pure (wpAny_pure ?_)⟩
  have r:=I''.forget (q.stp.trans st'') hm q.lo I.lZ (hl▸hs)
  exact hQ _ _ Mg F'' rfl r.1 r.2
theorem ah.Fi(S:Sound X r n)(hA:aN X A n)(y:Str)(yp p:Pos)(elt target iter:Expr)(c:Option Expr)(sc:Scope)(pos:Pos):bu X A ae env (xm r ae y yp elt target iter c sc pos) (.Assign [.Name y yp] (.ListComp elt [⟨target,iter,c.toList,0⟩] sc pos) p):=ah.EO (λJ=>yT S hA elt target iter c sc pos) y yp p
theorem ah.execs{one:Stmt->EM aU}(h1:∀st,bu X A ae env (one st) st):∀ss:List Stmt,ah X A (aA X ae env) cn (bp one ss) (execs ss env)
 | []=>ah.ret λ_ _ _ _=>rfl
 | st::rest=>by
  rw[execs_cons]
  show ah X A (aA X ae env) cn (EM.bind (one st) λfl=>cj fl (bp one rest) (λv=>EM.ret (.ret v)) (EM.ret fl)) _
  refine ah.bind (h1 st) λfl f=>?_
  have ih:=ah.execs h1 rest
  cases fl with
  | next=>exact ah.cz (P:=f = .next) (Kn.snd (Kn.le_refl _)) λh=>by rw[h]; exact ih.weaken (Kn.fst (Kn.le_refl _))
  | ret v =>
   refine ah.bw λJ Z F s I g=>ai.ret ((show ∃w,f = .ret w/\Den J.n Z F v w from g.2).elim λw q=>?_)
   rw[q.1]
   exact Goes.now I ⟨w,rfl,q.2⟩
  | brk=>exact ah.cz (P:=f = .brk) (Kn.snd (Kn.le_refl _)) λh=>by rw[h]; exact ah.ret λ_ _ _ _=>rfl
  | cont=>exact ah.cz (P:=f = .cont) (Kn.snd (Kn.le_refl _)) λh=>by rw[h]; exact ah.ret λ_ _ _ _=>rfl
end
noncomputable def lO(L e:Nat)(C:Addr)(d:Option Nat):EM Unit:=EM.upd λJ=>(J.push (.tb (some L))).set e (.exc C d (some J.n))
noncomputable def iG(L e:Nat):EM Unit:=EM.bind (EM.aK lS e) λq=>aQ q.2.2 (λt=>EM.bind (EM.aK l5 t) λfl=>aQ fl (λl=>EM.dz (Nat.beq l L) ()) (EM.bind (EM.upd λJ=>J.set t (.tb none)) λ_=>lO L e q.1 q.2.1)) (lO L e q.1 q.2.1)
noncomputable def ku(e:Nat):EM Unit:=EM.bind (EM.aK lS e) λq=>aQ q.2.2 (λt=>EM.bind (EM.aK l5 t) λ_=>EM.upd λJ=>J.set t (.tb none)) (EM.ret ())
section
variable{X:Ctx}{A:Around}{Z:ay}{F:Fz}{J:St}{s:Shared}{Y:Kn}{ae:aB}{env:Env}
theorem GN{n:Nat}{a:Addr}{c:Cell}{o:Obj}{sl:Array (Option Value)}:isNs c=true->d9 n Z F a c o->d9 n Z F a c { o with slots:=sl } :=
 sL (P:=λb c=>b=true->d9 n Z F a c o->d9 n Z F a c { o with slots:=sl }) (λm _ (x:kX n Z F m o)=>by cases x with | mk f es ep hd hs hf d=>exact⟨f,es,ep,hd,hs,hf,d⟩) ff
theorem Inv.slots(I:Inv X Z F J s){h':Heap}(h:Heap.SlotsOnly ((X.fr.map (·.1)).filterMap (·.frame)) s.heap h'):Inv X Z F J { s with heap:=h' }/\aD Z F J s Z F J { s with heap:=h' }:=by
 have dj:∀a,a∈(X.fr.map (·.1)).filterMap (·.frame)->∃i c,a=Z i/\J.get i=some c/\isNs c=true:=λa ha =>
  (List.mem_filterMap.mp ha).elim λenv q=>(List.mem_map.mp q.1).elim λe p=>(I.frs e p.1).2.elim λc z=>⟨e.2,c,(Option.some.inj ((I.frs e p.1).1.2.symm.trans (p.2▸q.2))).symm,z⟩
 have keepF:∀a o,F a=some o->h'.get? a=some o:=λa o e=>(h.2.1 a λha=>(dj a ha).elim λi q=>q.elim λc q=>I.nt e q.2.1 q.1.symm).trans (I.froz _ _ e)
 have notIn:∀x,(∀i c,J.get i=some c->Z i≠x)->h'.get? x=s.heap.get? x:=λx hx=>h.2.1 x λha=>(dj x ha).elim λi q=>q.elim λc q=>hx i c q.2.1 q.1.symm
 refine⟨⟨I.ids,I.inj,λi c hi=>?_,I.off,keepF,I.base,I.drawn,I.os,I.gens,I.frs⟩,⟨Nat.le_refl _,λ_ _=>rfl,λ_ _ e=>e,λx o e hx=>(notIn x hx).trans e,λx o e=>(h.2.2 _ o e).elim λsl hs=>⟨_,hs⟩,λi c hi=>.inl ⟨I.ids _ _ hi,c,hi⟩,λ_ _ e=>e⟩⟩
 by_cases hin:Z i∈(X.fr.map (·.1)).filterMap (·.frame)
 ·refine(dj _ hin).elim λj q=>q.elim λd q=>(I.at hi).ex λo ho x=>(h.2.2 _ o ho).elim λsl hs=>⟨_,hs,GN ?_ x⟩
  have e:=I.inj i j c d hi q.2.1 q.1
  rw[e] at hi
  rw[Option.some.inj (hi.symm.trans q.2.1)]
  exact q.2.2
 ·exact(I.at hi).keep λo e=>(h.2.1 _ hin).trans e
theorem HK{n:Nat}{a:Addr}{c:Cell}{o:Obj}:isNs c=true->d9 n Z F a c o->∃es ep,o.data = .dict es ep :=
 sL (P:=λb c=>b=true->d9 n Z F a c o->∃es ep,o.data = .dict es ep) (λm _ (x:kX n Z F m o)=>by cases x with | mk f es ep hd=>exact⟨es,ep,hd⟩) ff
theorem w8(I:Inv X Z F J s):∀l:List (Env×Nat),(∀e∈l,e∈X.fr)->s.heap.FunFrames {} (l.map (·.1))
 | [],_=>trivial
 | e::l,h=>have q:=I.frs e (h e (.head _)); q.2.elim λc z=>(I.at z.1).ex λo ho x=>(HK z.2 x).elim λes p=>p.elim λep hd =>
  ⟨by rw[q.1.1]; decide,⟨Z e.2,o,q.1.2,Heap.get?_none_of_le (Nat.zero_le _),ho,λvs q=>nomatch hd.symm.trans q⟩,w8 I l λe he=>h e (.tail _ he)⟩
theorem EB{M:Model}{E:Value->Shared->Prop}{m2:Env}{outer:List Env}{L:Addr}{base:Heap}{Q:Value->Shared->Prop}(hfr:A.frames=some (m2::outer))(hl:s.heap.FunFrames base (m2::outer))
  (hf0:m2.frame=some L) (hf:env.frame=some L) (h:∀h',Heap.SlotsOnly ((m2::outer).filterMap (·.frame)) s.heap h'->Q (.ref L) { s with heap:=h' }):wpAny M A (PySem.frameOf env) Q E s:=by
 unfold PySem.frameOf
 refine wpAny_bind (wpAny_frameEnvs hfr ?_)
 have hdw:((m2::outer).dropWhile λx=>x.frame != env.frame)=m2::outer:=by simp[List.dropWhile,hf0,hf]
 rw[hdw]
 unfold frameObject
 refine wpAny_bind (wpAny_bind (wpAny_readyFrames_fun hl λcX vp=>wpAny_pure ?_))
 rw[hf0]
 exact wpAny_pure (h cX vp)
noncomputable def IT(a L:Addr)(head:Value)(hadNext:Bool)(env:Env):Sem Unit:=do setField (.ref a) 1 (<- EntryCells.newEntry head (<- PySem.frameOf env) .none (rawInt L) .none (<- entryPlaceOf L hadNext))
theorem IU{n L:Nat}{a:Addr}{h:Heap}{pl:List Value}(hlt:L<n){head:Value}(e:h.get? a=some { cls:=.type "traceback",dict:=none,data:=.fields ([head,.ref (Z L),.none,rawInt (Z L),.none]++pl).toArray }):bH n Z F h a (.tb (some L)) :=
 ⟨_,e,_,rfl,by simp; rfl,λi hi=>Option.some.inj hi▸hlt⟩
theorem yU(hfr:A.frames=some (X.fr.map (·.1)))(I:Inv X Z F J s){L e:Nat}{C:Addr}{d t:Option Nat}(htop:∃e r,X.fr=e::r/\e.2=L)(hf:env.frame=some (Z L))(he:J.get e=some (.exc C d t)){head:Value}{hadNext:Bool}:
  Goes X A Z F J s (IT (Z e) (Z L) head hadNext env) (λ_=>Kn.top) ((J.push (.tb (some L))).set e (.exc C d (some J.n))):=λQ E hQ=>htop.elim λrz q=>q.elim λr q=>by
 have hff:=w8 I X.fr λe h=>h
 have h0:=I.frs rz (by rw[q.1]; exact .head _)
 rw[q.2] at h0
 have hlt:L<J.n:=h0.2.elim λc z=>I.ids _ _ z.1
 have hsl:∀h',Heap.SlotsOnly ((rz.1::r.map (·.1)).filterMap (·.frame)) s.heap h'->Heap.SlotsOnly ((X.fr.map (·.1)).filterMap (·.frame)) s.heap h':=λh' x=>by rw[q.1]; exact x
 rw[q.1,List.map_cons] at hfr hff
 refine wpAny_bind (EB hfr hff h0.1.2 hf λcX vp=>?_)
 have dR:=I.slots (hsl cX vp)
 refine wpAny_bind (wpAny_entryPlaceOf λpl hpl=>?_)
 unfold EntryCells.newEntry newFields
 refine wpAny_bind (wpAny_newObj_type ?_ (hpl.sizeOk5 _ _ _ _ _))
 refine(dR.1.iO he).elim λvs hx=>?_
 have hel:=I.lt he
 have a3:∀j,j<J.n->(Z.put J.n cX.objs.size) j=Z j:=λj hj=>ay.fx Z _ hj
 have hpL:=a3 L hlt
 have cq:=dR.1.push (a:=cX.objs.size) (c:=.tb (some L)) (h':=cX.push { cls:=.type "traceback",dict:=none,data:=.fields ([head,.ref (Z L),.none,rawInt (Z L),.none]++(if pl.isEmpty then List.replicate 6 Value.none else pl)).toArray })
  (Heap.get?_none_of_le (Nat.le_refl _)) (λb o e=>Heap.get?_push_of_some _ e) (IU (head:=head) (pl:=if pl.isEmpty then List.replicate 6 Value.none else pl) (Nat.lt_succ_of_lt hlt) (by rw[hpL]; exact Heap.get?_push_size _ rfl)) s.toks
 have B2:=Heap.get?_push_of_some (h:=cX) { cls:=.type "traceback",dict:=none,data:=.fields ([head,.ref (Z L),.none,rawInt (Z L),.none]++(if pl.isEmpty then List.replicate 6 Value.none else pl)).toArray } hx.1
 have hsz:1<vs.size:=(Array.getElem?_eq_some_iff.mp hx.2.1).1
 refine wpAny_setField B2 rfl hsz ?_
 have Dd:=a3 e hel
 have fC:=cq.1.set (i:=e) (c:=.exc C d t) (c':=.exc C d (some J.n)) ((St.sr _ _ hel).trans he)
  (h':=(cX.push { cls:=.type "traceback",dict:=none,data:=.fields ([head,.ref (Z L),.none,rawInt (Z L),.none]++(if pl.isEmpty then List.replicate 6 Value.none else pl)).toArray }).update (Z e) (Obj.mapFields (·.setIfInBounds 1 (Value.ref cX.objs.size))))
  (λb o hb e=>by rw[Heap.get?_update_other _ _ (λe=>hb (by rw[Dd]; exact e.symm))]; exact e)
  ⟨eG C (d.map (Z.put J.n cX.objs.size)) (vs.setIfInBounds 1 (.ref cX.objs.size)),by
   rw[Dd,Heap.get?_update_self _ B2 rfl,xX λj hj=>a3 j (hx.2.2.1 j hj)]
   rfl,vs.setIfInBounds 1 (.ref cX.objs.size),rfl,by
   show _=some (Value.ref ((Z.put J.n cX.objs.size) J.n))
   rw[ay.fK]; exact Array.getElem?_setIfInBounds_self_of_lt hsz,λj hj=>Nat.lt_succ_of_lt (hx.2.2.1 j hj),λj hj=>Option.some.inj hj▸Nat.lt_succ_self _⟩ s.toks
 exact hQ _ _ _ _ trivial fC.1 ((dR.2.trans cq.2).trans fC.2)
theorem tU(I:Inv X Z F J s){t:Nat}{fl:Option Nat}(ht:J.get t=some (.tb fl))(fl':Option Nat)(hfl:∀i,fl' = some i->i<J.n){M:Model}{E:Value->Shared->Prop}{Q:Unit->Shared->Prop}(hQ:∀s',Inv X Z F (J.set t (.tb fl')) s'->aD Z F J s Z F (J.set t (.tb fl')) s'->Q () s'):wpAny M A (setField (.ref (Z t)) 3 (kC Z fl')) Q E s :=
 (I.CP ht).elim λot q=>q.elim λts q=>by
  have hsz:3<ts.size:=(Array.getElem?_eq_some_iff.mp q.2.2.1).1
  have r:=I.set (i:=t) (c:=.tb fl) (c':=.tb fl') ht (h':=s.heap.update (Z t) (Obj.mapFields (·.setIfInBounds 3 (kC Z fl')))) (λb o hb e=>by rw[Heap.get?_update_other _ _ (λe=>hb e.symm)]; exact e)
   ⟨_,Heap.get?_update_self _ q.1 (Obj.isFreed_of_fields (Obj.data_mapFields q.2.1 _)),_,Obj.data_mapFields q.2.1 _,Array.getElem?_setIfInBounds_self_of_lt hsz,hfl⟩ s.toks
  exact wpAny_setField q.1 q.2.1 hsz (hQ _ r.1 r.2)
theorem ah.note(hfr:A.frames=some (X.fr.map (·.1))){e:Nat}{v:Value}(hg:Y.le (aA X ae env))(hv:Y.le (ao (.ref e) v)):ah X A Y (λ_ _=>Kn.top) (iG ae.frm e) (noteFrame v env):=ah.bw λJ Z F s I g=>ai.aK mC λq he=>by
 have gE:=hg _ _ _ g
 have hf:env.frame=some (Z ae.frm):=bx.fr gE
 have htop:=bx.top gE
 rw[(show v = .ref (Z e)/\e<J.n from hv _ _ _ g).1]
 cases q with | mk C q =>
 cases q with | mk d t =>
 refine(I.iO he).elim λvs hx=>?_
 unfold noteFrame
 simp only[hf]
 cases t with
 | none =>
  show ai J (lO ae.frm e C d) _
  unfold lO
  refine ai.gX λQ E hQ=>wpAny_bind (wpAny_field hx.1 rfl hx.2.1 ?_)
  rw[if_neg (show ¬ ((gV Z none != Value.none)=true) from(by decide:¬ ((Value.none != Value.none)=true)))]
  exact yU hfr I htop hf he Q E hQ
 | some t =>
  show ai J (EM.bind (EM.aK l5 t) λfl=>aQ fl (λl=>EM.dz (Nat.beq l ae.frm) ()) (EM.bind (EM.upd λJ=>J.set t (.tb none)) λ_=>lO ae.frm e C d)) _
  refine ai.aK sM λfl ht=>(I.CP ht).elim λot p=>p.elim λts p=>?_
  cases fl with
  | some l =>
   show ai J (EM.dz (Nat.beq l ae.frm) ()) _
   refine ai.dz λhl Q E hQ=>wpAny_bind (wpAny_field hx.1 rfl hx.2.1 ?_)
   rw[if_pos (show(gV Z (some t) != Value.none)=true from rfl)]
   refine wpAny_bind (wpAny_field p.1 p.2.1 p.2.2.1 ?_)
   rw[if_pos (show(kC Z (some l) == rawInt (Z ae.frm))=true from by rw[Nat.eq_of_beq_eq_true hl]; exact beq_self_eq_true _)]
   exact wpAny_pure (hQ () s Z F trivial I (aD.refl Z F I.ids))
  | none =>
   show ai J (EM.bind (EM.upd λJ=>J.set t (.tb none)) λ_=>lO ae.frm e C d) _
   unfold lO
   refine ai.upd (ai.gX λQ E hQ=>wpAny_bind (wpAny_field hx.1 rfl hx.2.1 ?_))
   rw[if_pos (show(gV Z (some t) != Value.none)=true from rfl)]
   refine wpAny_bind (wpAny_field p.1 p.2.1 p.2.2.1 ?_)
   rw[if_neg (show ¬ ((kC Z none == rawInt (Z ae.frm))=true) from Bool.false_ne_true)]
   have het:e≠t:=λh=>by rw[h] at he; exact nomatch Option.some.inj (he.symm.trans ht)
   exact wpAny_bind (tU I ht none (λ_ h=>aJ h) λs' I' st=>yU hfr I' htop hf ((St.kf _ _ het).trans he) Q E λu s'' aq F' a b c=>hQ u s'' aq F' a b (st.trans c))
theorem pX{e:Nat}:ai J (ku e) λ_ aj=>∀(Z:ay) (F:Fz) (s:Shared),Inv X Z F J s->∀(M:Model) (A:Around) (Q:Unit->Shared->Prop) (E:Value->Shared->Prop),(∀s',Inv X Z F aj s'->aD Z F J s Z F aj s'->Q () s')->wpAny M A (setFlight (.ref (Z e)) none) Q E s:=ai.aK mC λq he=>by
 cases q with | mk C q =>
 cases q with | mk d t =>
 cases t with
 | none =>
  show ai J (EM.ret ()) _
  refine ai.ret λZ F s I M A Q E hQ=>(I.iO he).elim λvs hx=>wpAny_bind (wpAny_field hx.1 rfl hx.2.1 ?_)
  rw[if_neg (show ¬ ((gV Z none != Value.none)=true) from(by decide:¬ ((Value.none != Value.none)=true)))]
  exact wpAny_pure (hQ s I (aD.refl Z F I.ids))
 | some t =>
  show ai J (EM.bind (EM.aK l5 t) λ_=>EM.upd λJ=>J.set t (.tb none)) _
  refine ai.aK sM λfl ht=>ai.gX λZ F s I M A Q E hQ=>(I.iO he).elim λvs hx=>wpAny_bind (wpAny_field hx.1 rfl hx.2.1 ?_)
  rw[if_pos (show(gV Z (some t) != Value.none)=true from rfl)]
  exact tU I ht none (λ_ h=>aJ h) hQ
noncomputable def oQ(L e:Nat):EM Unit:=EM.bind (EM.aK lS e) λq=>aQ q.2.2 (λt=>EM.bind (EM.aK l5 t) λ_=>EM.upd λJ=>J.set t (.tb (some L))) EM.fail
theorem zO{e L:Nat}:ai J (oQ L e) λ_ aj=>∀(Z:ay) (F:Fz) (s:Shared),Inv X Z F J s->L<J.n->∀(M:Model) (A:Around) (Q:Unit->Shared->Prop) (E:Value->Shared->Prop),(∀s',Inv X Z F aj s'->aD Z F J s Z F aj s'->Q () s') ->
  wpAny M A (do
   if (<- field (.ref (Z e)) 1) == Value.none then unsupported "frame.own-activation:exception-without-traceback"
   setFlight (.ref (Z e)) (some (Z L))) Q E s:=ai.aK mC λq he=>by
 cases q with | mk C q =>
 cases q with | mk d t =>
 cases t with
 | none=>exact ai.fail
 | some t =>
  show ai J (EM.bind (EM.aK l5 t) λ_=>EM.upd λJ=>J.set t (.tb (some L))) _
  refine ai.aK sM λfl ht=>ai.gX λZ F s I hL M A Q E hQ=>(I.iO he).elim λvs hx=>wpAny_bind (wpAny_field hx.1 rfl hx.2.1 ?_)
  rw[if_neg (show ¬ ((gV Z (some t) == Value.none)=true) from Bool.false_ne_true)]
  refine wpAny_bind (wpAny_field hx.1 rfl hx.2.1 ?_)
  rw[if_pos (show(gV Z (some t) != Value.none)=true from rfl)]
  exact tU I ht (some L) (λi h=>Option.some.inj h▸hL) hQ
end
structure cu where
 xe:aB->Expr->EM Nat
 xs:aB->List Stmt->EM Nat
 xcall:AV->List AV->List (Str×AV)->EM Nat
noncomputable def B3{α:Type}(X:Ctx)(A:Around)(Z:ay)(F:Fz)(J:St)(s:Shared)(t:Sem α)(e:Nat)(aj:St):Prop:=∀(Q:α->Shared->Prop) (E:Value->Shared->Prop),
 (∀v s' aq F',Den aj.n aq F' (.ref e) v->Inv X aq F' aj s'->aD Z F J s aq F' aj s'->E v s')->wpAny (model X.prog X.w) A t Q E s
noncomputable def XSim{α:Type}(X:Ctx)(A:Around)(Y:Kn)(x:EM Nat)(t:Sem α):Prop:=∀J,ai J x λe aj=>∀Z F s,Inv X Z F J s->Y.p J.n Z F->B3 X A Z F J s t e aj
structure lP(X:Ctx)(r:cu)(n:Nat):Prop where
 xe:∀A,aN X A n->∀ae env e,XSim X A (aA X ae env) (r.xe ae e) (eval e env)
 xs:∀A,aN X A n->∀ae env ss,XSim X A (aA X ae env) (r.xs ae ss) (execs ss env)
 xcall:∀A,aN X A n->∀f fv as vs ks kvs,XSim X A (cV f fv as vs ks kvs) (r.xcall f as ks) (call fv vs ((ks.map (·.1)).zip kvs))
noncomputable def ix(X:Ctx)(r:cu)(n:Nat):Prop:=∀fr,lP (X.wf fr) r n
noncomputable def gB:EM Bool:=EM.word λw=>lX w some none
noncomputable def fU(one:Stmt->EM aU)(xone:Stmt->EM Nat)(ss:List Stmt):EM Nat:=ss.foldr (λst k=>EM.bind gB λb=>_root_.cond b (xone st) (EM.bind (one st) λfl=>cj fl k (λ_=>EM.fail) EM.fail)) EM.fail
noncomputable def AY(K:Frag)(v:AV):EM Nat:=bT v (λi=>EM.bind (EM.aK lS i) λq=>EM.dz ((q.2.2.isNone && (mroIn K q.1 (.type "BaseException") == some true)) && (typeIn K (.ref q.1) == some (.type "type"))) i) EM.fail
noncomputable def AZ(XR:cu)(ae:aB)(b:Bool)(e:Expr):EM Nat:=_root_.cond (b && eK e) (XR.xe ae e) EM.fail
noncomputable def wx(R:Rec)(ae:aB)(test:Expr)(x y:EM Nat):EM Nat:=cF (R.tst ae test) x y
section
variable(K:Frag)(R:Rec)(XR:cu)(ae:aB)
noncomputable def B4(st:Stmt):EM Nat:=qp st (λe _=>AZ XR ae true e) <| s6 st (λts value _=>dA ts (λt=>AZ XR ae (il t) value) EM.fail) <|
 vL st (λtest body orelse _=>wx R ae test (XR.xs ae body) (XR.xs ae orelse)) <| onRaise st (λo c _=>aQ o (λe=>aQ c (λ_=>EM.fail) (EM.bind (R.ev ae e) λv=>AY K v)) EM.fail) EM.fail
noncomputable def sW(f:AV)(first:List AV)(args:List Expr)(kws:List Keyword):EM Nat:=_root_.cond (jJ K f) (EM.bind (ky R ae args kws) λp=>XR.xcall f (first++p.1) p.2) EM.fail
noncomputable def Ko(o:Expr)(name:Str)(apos:Pos)(args:List Expr)(kws:List Keyword)(pos:Pos):EM Nat:=_root_.cond (iq o && jf args kws && (apos.endLine == pos.line)) (EM.bind (R.ev ae o) λov=>EM.bind (kq K ov name) λp=>sW K R XR ae p.1 p.2 args kws) EM.fail
noncomputable def B5(e:Expr):EM Nat:=qo e (λtest body orelse _=>wx R ae test (XR.xe ae body) (XR.xe ae orelse)) <| kx e (λf args kws pos=>fu f (λo name apos=>Ko K R XR ae o name apos args kws pos) <|
 eC f (λx p=>EM.bind (R.ev ae (.Name x p)) λf=>sW K R XR ae f [] args kws) EM.fail) EM.fail
end
noncomputable def DW(K:Frag)(XR:cu)(f:AV)(as:List AV)(ks:List (Str×AV)):EM Nat:=EM.bind (EM.opt (gn K f)) λfi=>_root_.cond (jB fi.params && mD fi.scope) (EM.bind (EM.opt (gf (fi.params.args.map λp=>p.arg) fi.dflts as ks)) λbinds =>
 EM.bind (iA fi.scope fi.closure fi.code fi.fz binds) λae=>EM.bind (XR.xs ae fi.body) λe=>EM.bind (iG ae.frm e) λ_=>EM.bind (ku e) λ_=>EM.ret e) EM.fail
section
variable{α β B δ:Type}{X:Ctx}{A:Around}{Z:ay}{F:Fz}{J:St}{s:Shared}{Y:Kn}{R:Rec}{XR:cu}{n:Nat}{ae:aB}{env:Env}
theorem XSim.fail{t:Sem α}:XSim X A Y EM.fail t:=λ_=>ai.fail
theorem XSim.weaken{kZ:Kn}{x:EM Nat}{t:Sem α}(h:XSim X A Y x t)(hg:kZ.le Y):XSim X A kZ x t:=λJ=>(h J).mono λe aj c Z F s I g=>c Z F s I (hg _ _ _ g)
theorem XSim.cz{P:Prop}{x:EM Nat}{t:Sem α}(h:Y.le (Kn.is P))(hk:P->XSim X A Y x t):XSim X A Y x t:=λJ ds b ev' cs e hc Z F s I g=>hk (h _ _ _ g) J ds b ev' cs e hc Z F s I g
theorem XSim.bindL{x:EM Nat}{t:Sem α}{k:α->Sem B}(h:XSim X A Y x t):XSim X A Y x (t >>= k):=λJ=>(h J).mono λe aj c Z F s I g Q E hE=>wpAny_bind (c Z F s I g _ E hE)
theorem XSim.bindR{x:EM β}{f:β->EM Nat}{t:Sem α}{k:α->Sem B}{R:β->α->Kn}(h:ah X A Y R x t)(hk:∀b v,XSim X A (Y.and (R b v)) (f b) (k v)):XSim X A Y (EM.bind x f) (t >>= k):=λJ =>
 ai.bind (ah.at h) λb au c=>(ai.all λv=>hk b v au).mono λe aj d Z F s I g Q E hE=>wpAny_bind (c Z F s I g _ E λv ar aF aH hr a0 st=>d v aF aH ar a0 ⟨Y.mono st.le st.same st.sub g,hr⟩ Q E λw a8 bg bo d bG bC=>hE w a8 bg bo d bG (st.trans bC))
theorem XSim.eq{x:EM Nat}{t t':Sem α}(e:t=t')(h:XSim X A Y x t'):XSim X A Y x t:=e▸h
theorem XSim.standAt{p:Pos}{x:EM Nat}{k:Unit->Sem α}(h:XSim X A Y x (k ())):XSim X A Y x (standAt p >>= k):=λJ=>(h J).mono λe aj c Z F s I g Q E hE=>wpAny_bind (wpAny_standAt (c Z F s I g Q E hE))
theorem XSim.br{x:EM Bool}{y z:EM Nat}{t:Sem Bool}{k:Bool->Sem α}(hx:ah X A Y ew x t)(hy:XSim X A Y y (k true))(hz:XSim X A Y z (k false)):XSim X A Y (cF x y z) (t >>= k) :=
 XSim.bindR hx λb c=>XSim.cz (P:=b=c) (Kn.snd (Kn.le_refl _)) λh J=>ai.eP ai.o6 λd hd=>by
  rw[<- h,hd]
  cases d
  ·exact hz.weaken (Kn.fst (Kn.le_refl _)) J
  ·exact hy.weaken (Kn.fst (Kn.le_refl _)) J
theorem XSim.aW{b:Bool}{x:EM Nat}{t:Sem α}(h:b=true->XSim X A Y x t):XSim X A Y (_root_.cond b x EM.fail) t:=bQ (P:=λx=>XSim X A Y x t) h XSim.fail
theorem XSim.list{one:Stmt->EM aU}{xone:Stmt->EM Nat}(h1:∀st,bu X A ae env (one st) st)(hx:∀st,XSim X A (aA X ae env) (xone st) (exec st env)):∀ss:List Stmt,XSim X A (aA X ae env) (fU one xone ss) (execs ss env)
 | []=>XSim.fail
 | st::rest=>by
  rw[execs_cons]
  show XSim X A (aA X ae env) (EM.bind gB λb=>_root_.cond b (xone st) (EM.bind (one st) λfl=>cj fl (fU one xone rest) (λ_=>EM.fail) EM.fail)) _
  refine λJ=>ai.word λb=>?_
  cases b with
  | true=>exact XSim.bindL (hx st) J
  | false =>
   show ai J (EM.bind (one st) λfl=>cj fl (fU one xone rest) (λ_=>EM.fail) EM.fail) _
   refine XSim.bindR (h1 st) (λfl f=>?_) J
   cases fl with
   | next=>exact XSim.cz (P:=f = .next) (Kn.snd (Kn.le_refl _)) λh=>by rw[h]; exact(XSim.list h1 hx rest).weaken (Kn.fst (Kn.le_refl _))
   | _=>exact XSim.fail
theorem GO(hA:A.handled=none)(I:Inv X Z F J s){i:Nat}{C:Addr}{d:Option Nat}(he:J.get i=some (.exc C d none))(h:(True/\(mroIn X.K C (.type "BaseException") == some true)=true)/\(typeIn X.K (.ref C) == some (.type "type"))=true):B3 X A Z F J s (raiseStmt env (some (pure (.ref (Z i)))) none) i J:=λQ E hE=>by
 refine(I.iO he).elim λvs hx=>?_
 unfold raiseStmt
 dsimp only
 refine wpAny_bind (wpAny_pure ?_)
 have L0:Looks (model X.prog X.w) s.heap (typeOf (.ref (Z i))) (.ref C):=(Looks.ld hx.1).andThen .now
 have L1:=looks_mroIn (M:=model X.prog X.w) I.bV (eq_of_beq h.1.2)
 have L2:=looks_typeIn (M:=model X.prog X.w) I.bV (eq_of_beq h.2)
 have hnt:∀{Q':Bool->Shared->Prop},Q' false s->wpAny (model X.prog X.w) A (isType (.ref (Z i))) Q' E s:=by
  intro Q' hq
  simp only[isType,loadHead]
  refine wpAny_bind (wpAny_loadPart hx.1 ?_)
  exact wpAny_pure hq
 refine wpAny_bind (wpAny_pure ?_)
 refine wpAny_bind (wpAny_holding ?_)
 unfold excFromValue isExcClass
 refine wpAny_bind (wpAny_bind (hnt ?_))
 simp only[Bool.false_eq_true,if_false]
 refine wpAny_pure ?_
 simp only[Bool.false_eq_true,if_false]
 unfold isInstance
 refine wpAny_bind (wpAny_bind (L0.here (L1.here ?_)))
 simp only[if_true]
 refine wpAny_pure ?_
 refine wpAny_bind (hnt ?_)
 simp only[Bool.false_eq_true,if_false]
 unfold raisedInstance
 refine wpAny_bind (wpAny_bind (L0.here (wpAny_bind (L2.here ?_))))
 rw[if_pos (by decide)]
 refine wpAny_pure ?_
 unfold setFlight raiseNew
 refine wpAny_bind (wpAny_bind (wpAny_field hx.1 rfl hx.2.1 ?_))
 rw[if_neg (show ¬ ((gV Z none != Value.none)=true) from(by decide:¬ ((Value.none != Value.none)=true)))]
 refine wpAny_pure (wpAny_bind (wpAny_handled ?_))
 rw[hA]
 exact wpAny_bind (wpAny_pure (wpAny_throw (hE _ s Z F ⟨rfl,I.lt he⟩ I (aD.refl Z F I.ids))))
theorem XSim.throw(hA:A.handled=none){x:Sem Value}{M:EM AV}(hx:ah X A Y ao M x):XSim X A Y (EM.bind M λv=>AY X.K v) (raiseStmt env (some x) none):=by
 refine XSim.eq (t':=x >>= λv=>raiseStmt env (some (pure v)) none) (by unfold raiseStmt; simp only[pure_bind]) (XSim.bindR hx λav v=>?_)
 refine b8 (P:=λy av=>XSim X A (Y.and (ao av v)) y (raiseStmt env (some (pure v)) none)) (λi J=>ai.aK mC λq he=>ai.dz λh Z F s I g=>?_) XSim.fail
 rw[(show v = .ref (Z i)/\i<J.n from g.2).1]
 rw[Bool.and_eq_true,Bool.and_eq_true] at h
 exact GO hA I (d:=q.2.1) (by rw[<- Option.isNone_iff_eq_none.mp h.1.1]; exact he) ⟨⟨trivial,h.1.2⟩,h.2⟩
theorem XSim.DX(S:Sound X R n)(hA:aN X A n){test:Expr}{x y:EM Nat}{t u:Sem α}(hx:XSim X A (aA X ae env) x t)(hy:XSim X A (aA X ae env) y u):XSim X A (aA X ae env) (wx R ae test x y) (isTrue test env (eval test env) >>= λb=>if b=true then t else u):=XSim.br (k:=λb=>if b=true then t else u) (S.tst A hA ae env test) hx hy
theorem XSim.stmt(S:Sound X R n)(XS:lP X XR n)(hA:aN X A n)(st:Stmt):XSim X A (aA X ae env) (B4 X.K R XR ae st) (exec st env):=by
 refine si (P:=λx st=>XSim X A (aA X ae env) x (exec st env)) (λe p=>XSim.aW λhc=>?_) ?_
 ·rw[Bool.and_eq_true] at hc
  refine XSim.cz (Y:=aA X ae env) (P:=interactive env=false) (λ_ _ _ g=>by unfold interactive; rw[bx.sc g,bx.fn g]; rfl) λhi=>?_
  rw[exec_Expr env e p hi (kg (P:=λe=>swapsWith e none p.line env=pure false) (λ_ _ _=>rfl) (λ_ _=>rfl) (λ_ _ _=>rfl) (λ_ _ _=>rfl) (λ_ _ _ _=>rfl) (λ_ _ _ _=>rfl) (λ_ _ _=>rfl) (λ_ _ _ _=>rfl) (λ_ _ _ _=>rfl) (λ_ _=>rfl) (λ_ _ _=>rfl) (λ_ _ _=>rfl) hc.2)]
  exact XSim.standAt (XSim.bindL (XS.xe A hA ae env e))
 refine w5 (P:=λx st=>XSim X A (aA X ae env) x (exec st env)) (λts value p=>dC (P:=λx ts=>XSim X A (aA X ae env) x (exec (.Assign ts value p) env)) (λt=>XSim.aW λhc=>?_) XSim.fail) ?_
 ·rw[Bool.and_eq_true] at hc
  rw[xh hc.1 hc.2]
  exact XSim.standAt (XSim.bindL (XS.xe A hA ae env value))
 refine yu (P:=λx st=>XSim X A (aA X ae env) x (exec st env)) (λtest body orelse p=>?_) ?_
 ·rw[exec_If]
  exact XSim.standAt (XSim.DX S hA (XS.xs A hA ae env body) (XS.xs A hA ae env orelse))
 refine EE (P:=λx st=>XSim X A (aA X ae env) x (exec st env)) (λo c p=>?_) XSim.fail
 cases o with
 | none=>exact XSim.fail
 | some e =>
  cases c with
  | some c=>exact XSim.fail
  | none =>
   refine XSim.eq (t':=PySem.standAt p >>= λ_=>raiseStmt env (some (eval e env >>= λv=>PySem.standAt p >>= λ_=>pure v)) none) rfl (XSim.standAt ?_)
   exact XSim.throw hA.2.2.1 (ah.stood (S.ev A hA ae env e))
theorem XSim.callWith(S:Sound X R n)(XS:lP X XR n)(hA:aN X A n){f:AV}{fv:Value}{first:List AV}{firstv:List Value}(pos:Pos)(es:List Expr)(ks:List Keyword){Y:Kn}(hg:Y.le (aA X ae env))(hf:Y.le (ao f fv))(h1:Y.le (bX first firstv)):
  XSim X A Y (sW X.K R XR ae f first es ks) (callWith pos fv firstv (backTo pos (starEach es env)) (backToKw pos (keywordEach ks env))):=XSim.aW λhk J =>
 ai.bind (C:=λas a7=>((backTo pos (starEach es env)).any (·.1) || (backToKw pos (keywordEach ks env)).any (·.1.isNone))=false/\∀f Z F s,Inv X Z F J s->Y.p J.n Z F->Goes X A Z F J s (PySem.evalArgs f true (backTo pos (starEach es env)) (backToKw pos (keywordEach ks env))) (q7 as) a7)
  (λds b ev' cs e hc=>⟨s8 pos e hc,λf=>ah.at (ah.evalArgs S hA pos es ks hg) ds b ev' cs e hc⟩) λp au c=>(ai.all λq:List Value×List Value=>XS.xcall A hA f fv (first++p.1) q.1 p.2 q.2 au).mono λe aj d Z F s I g Q E hE =>
   callWith_of (P:=jK X fv) c.1 (λ_ x=>x) (c.2 _ Z F s I g _ E λa ar aF aH da a0 st=>⟨sd a0 hk (Den.step (hf _ _ _ g) st),da.kw.elim λkvs q=>q.1 ▸
    d (firstv++a.pos,kvs) aF aH ar a0 ⟨Den.step (hf _ _ _ g) st,(ax.step (h1 _ _ _ g) st).app da.pos,q.2⟩ Q E λv a8 bg bo x bG bC=>hE v a8 bg bo x bG (st.trans bC)⟩)
theorem XSim.expr(S:Sound X R n)(XS:lP X XR n)(hA:aN X A n)(e:Expr):XSim X A (aA X ae env) (B5 X.K R XR ae e) (eval e env):=by
 refine sh (P:=λx e=>XSim X A (aA X ae env) x (eval e env)) (λtest body orelse p=>?_) ?_
 ·rw[eval_IfExp]
  exact XSim.DX S hA (XS.xe A hA ae env body) (XS.xe A hA ae env orelse)
 refine lr (P:=λx e=>XSim X A (aA X ae env) x (eval e env)) (λf args kws pos=>?_) XSim.fail
 refine fH (P:=λx f=>XSim X A (aA X ae env) x (eval (.Call f args kws pos) env)) (λo name apos=>XSim.aW λhc=>?_) ?_
 ·rw[nM (jH hc).1 (jH hc).2.1 (jH hc).2.2]
  exact XSim.bindR (S.ev A hA ae env o) λa av=>XSim.standAt (XSim.bindR (ah.holding (ah.method (Kn.snd (Kn.le_refl _)))) λp q=>XSim.callWith S XS hA pos args kws (Kn.fst (Kn.fst (Kn.le_refl _))) (Kn.snd (Kn.fst (Kn.le_refl _))) (Kn.snd (Kn.snd (Kn.le_refl _))))
 refine eJ (P:=λx f=>XSim X A (aA X ae env) x (eval (.Call f args kws pos) env)) (λy p=>?_) XSim.fail
 exact XSim.eq (t':=eval (.Name y p) env >>= λf=>PySem.callWith pos f [] (backTo pos (starEach args env)) (backToKw pos (keywordEach kws env))) rfl
  (XSim.bindR (S.ev A hA ae env _) λf fv=>XSim.callWith S XS hA pos args kws (Kn.fst (Kn.le_refl _)) (Kn.snd (Kn.le_refl _)) (λ_ _ _ _=>rfl))
theorem ai.De{β:Type}{b:Bool}{x:EM β}{C:β->St->Prop}(h:b=true->ai J x C):ai J (_root_.cond b x EM.fail) C:=bQ (P:=λx=>ai J x C) h ai.fail
theorem XSim.fn(XS:ix X XR n)(hA:aN X A (n+1)){f:AV}{fv:Value}{as:List AV}{vs:List Value}{ks:List (Str×AV)}{kvs:List Value}:XSim X A (cV f fv as vs ks kvs) (DW X.K XR f as ks) (call fv vs ((ks.map (·.1)).zip kvs)):=λJ=>ai.opt λfi hfi=>ai.De λhp=>ai.opt λbinds hb=>by
 refine ai.bind (C:=λae au=>∀Z F s,Inv X Z F J s->(cV f fv as vs ks kvs).p J.n Z F->∀R:Result->Shared->Prop,(∀env ar aF aH,InCall X Z F J s ae au env ar aF aH->codeAny (model X.prog X.w) A (.func fi.body env) R ar)->codeAny (model X.prog X.w) A (.call fv ⟨vs,(ks.map (·.1)).zip kvs⟩) R s)
  (λds b ev' cs e hc Z F s I g R=>yK (Nat.lt_of_le_of_lt (Nat.le_add_right _ _) hA.1) hfi hp hb I g ds b ev' cs e hc) λae au c0=>?_
 refine ai.bind (ai.all λenv=>(XS ((env,J.n)::X.fr)).xs _ (hA.deeper env J.n) ae env fi.body au) λe aZ c1=>?_
 refine ai.bind (ai.all λenv=>ai.all λv=>ah.at (ah.note (X:=X.wf ((env,J.n)::X.fr)) (A:=A.deeper env) (Y:=(aA (X.wf ((env,J.n)::X.fr)) ae env).and (ao (.ref e) v)) (hA.deeper env J.n).2.2.2.2 (Kn.fst (Kn.le_refl _)) (Kn.snd (Kn.le_refl _)))) λ_ a7 c2=>?_
 refine ai.bind (ai.all λenv=>pX (X:=X.wf ((env,J.n)::X.fr)) (J:=a7) (e:=e)) λ_ cW c3=>ai.ret λZ F s I g Q E hE=>wpAny_call (c0 Z F s I g _ λenv ar aF aH q=>codeAny_func ?_)
 refine c1 env aF aH ar q.inv q.ok _ _ λv a8 bg bo gx bG bC=>?_
 unfold leaving
 refine wpAny_bind (c2 env v bg bo a8 bG ⟨(aA (X.wf ((env,J.n)::X.fr)) ae env).mono bC.le bC.same bC.sub q.ok,gx⟩ _ _ λ_ cN fT gw _ dg cD=>?_)
 have o8:=Den.step gx cD
 rw[(dK o8).1]
 refine c3 env fT gw cN dg _ _ _ _ λiK eR gr=>?_
 exact hE _ iK fT gw (Den.step (show Den a7.n fT gw (.ref e) (.ref (fT e)) from⟨rfl,(dK o8).2⟩) gr) eR.lG (((q.stp.trans bC).trans cD).trans gr)
end
noncomputable def fmax(κ:ay)(J:St)(s:Shared):Fz:=λa=>@ite _ (∃i c,J.get i=some c/\κ i=a) (Classical.propDecidable _) none (s.heap.get? a)
section
variable{X:Ctx}{A:Around}{Z κ:ay}{F:Fz}{J:St}{s:Shared}
theorem zP{i:Nat}{c:Cell}(h:J.get i=some c):fmax κ J s (κ i)=none:=if_pos ⟨i,c,h,rfl⟩
theorem p7{a:Addr}(h:∀i c,J.get i=some c->κ i≠a):fmax κ J s a=s.heap.get? a:=if_neg λq=>q.elim λi q=>q.elim λc q=>h i c q.1 q.2
theorem HL{a:Addr}{o:Obj}(h:fmax κ J s a=some o):s.heap.get? a=some o :=
 (Classical.em (∃i c,J.get i=some c/\κ i=a)).elim (λq=>q.elim λi q=>q.elim λc q=>aJ ((zP (κ:=κ) (s:=s) q.1).symm.trans (q.2▸h))) λq=>(p7 λi c h1 h2=>q ⟨i,c,h1,h2⟩).symm.trans h
theorem Inv.max(I:Inv X Z F J s):Inv X Z (fmax Z J s) J s/\aD Z F J s Z (fmax Z J s) J s :=
 I.u3 (λa o e=>(p7 λi c h=>I.nt e h).trans (I.froz a o e)) (λa o e=>HL e) (λi c h=>zP h) (λ_ _ e=>e) rfl rfl I.gens λ_ _ e=>e
noncomputable def gC(X:Ctx)(κ:ay)(Fb:Fz)(J:St)(s:Shared):Prop:=Inv X κ (fmax κ J s) J s/\∀a o,Fb a=some o->fmax κ J s a=some o
theorem Inv.kl(I:Inv X Z F J s){g:Array GenState}(h:AllBare g):Inv X Z F J { s with gens:=g }:=⟨I.ids,I.inj,I.cell,I.off,I.froz,I.base,I.drawn,I.os,h,I.frs⟩
theorem gC.kl{Fb:Fz}(I:gC X κ Fb J s){g:Array GenState}(h:AllBare g):gC X κ Fb J { s with gens:=g }:=⟨Inv.kl I.1 h,I.2⟩
noncomputable def dT(s:Shared):Shared:={ s with gens:=#[] }
theorem aD.dT{aq:ay}{F':Fz}{aj:St}{s':Shared}(st:aD Z F J s aq F' aj s'):aD Z F J (dT s) aq F' aj (Mine.dT s'):=⟨st.le,st.same,st.sub,st.keep,st.live,st.new,λi x e=>aJ e⟩
theorem aD.Kp{aq:ay}{F':Fz}{aj:St}{s':Shared}(st:aD Z F J (Mine.dT s) aq F' aj (Mine.dT s'))(hg:∀(i:Nat) x,s.gens[i]? = some x->s'.gens[i]? = some x):aD Z F J s aq F' aj s':=⟨st.le,st.same,st.sub,st.keep,st.live,st.new,hg⟩
end
noncomputable def IV(N L:Nat):EM Unit:=EM.st λJ=>EM.bind (EM.turn (∀p∈(J.cut N).objs,bA N p.2) (λJ=>J.cut N) ()) λ_=>EM.bind (EM.aK jh L) λ_=>EM.ret ()
inductive ef where
 | out (v:AV)
 | fin
 | err (e:Nat)
noncomputable def oR{B:Type}(o:ef)(f:AV->B)(g:B)(h:Nat->B):B:=match o with
 | .out v=>f v
 | .fin=>g
 | .err e=>h e
noncomputable def jI(K:Frag)(L e:Nat):EM ef:=EM.bind (iG L e) λ_=>EM.bind (oQ L e) λ_=>EM.bind (iG L e) λ_=>EM.bind (ku e) λ_=>EM.bind (EM.aK lS e) λq=>EM.bind (EM.aW (mroIn K q.1 (.type "StopIteration") == some false)) λ_=>EM.ret (.err e)
section
variable(K:Frag)(r:Rec)(xr:cu)(t:cC)(gae:aB)(f:Nat)
noncomputable def B6:EM ef×EM ef:=Nat.rec (motive:=λ_=>EM ef×EM ef) (EM.fail,EM.fail) (λ_ p =>
 (cF (r.tst gae t.test1) p.2 (EM.ret .fin),cF (r.tst gae t.test2) (EM.bind (r.ev gae t.item) λv=>EM.ret (.out v)) (EM.bind gB λb=>_root_.cond b (EM.bind (xr.xs gae t.rest) λe=>jI K gae.frm e) (EM.bind (r.aV gae t.rest) λfl=>cj fl p.1 (λ_=>EM.fail) EM.fail)))) f
noncomputable def gW:EM ef:=(B6 K r xr t gae f).1
noncomputable def iH:EM ef:=(B6 K r xr t gae f).2
noncomputable def oT:EM ef:=EM.bind (r.aV gae t.pre) λfl=>cj fl (gW K r xr t gae f) (λ_=>EM.fail) EM.fail
end
section
variable{X:Ctx}{A:Around}{Z κ:ay}{F:Fz}{J:St}{s:Shared}
variable{R:GenEnd}{O3:Protocol}{n:Nat}{aS:Shared}{ba:St}{r:Rec}{xr:cu}{m:Nat}{t:cC}{gae:aB}{ge:Env}
noncomputable def lU(l:List Env)(A:Around)(m:Nat):Prop:=A.depth+3+4 * m<recursionLimit/\A.units+21+40 * m<cLine/\A.handled=none/\A.guards=some []/\A.frames=some l
structure oU(X:Ctx)(r:Rec)(xr:cu)(m:Nat)(A:Around)(t:cC)(gae:aB)(ge:Env):Prop where
 S:Sound X r m
 XS:lP X xr m
 co:ge.scope.isCoroutine=false
 fn:ge.scope.kind = .function
 room:∃l,lU l A m/\X.fr.map (·.1)=ge::l
noncomputable abbrev Mo(X:Ctx):Model:=model X.prog X.w
noncomputable def lV(t:cC)(ge:Env):Code:=.whileLoop t.test1 t.outer [] ge
noncomputable def vq(t:cC)(ge:Env):Code:=.whileLoop t.test2 t.inner [] ge
theorem aN.over{c:Code}{fs:List Frame}{A:Around}{m:Nat}{l:List Env}(h:lU l A m)(hl:X.fr.map (·.1)=ge::l)(he:pushEnvs c.envs (pushEnvs (envsOf (fs.map Frame.where_)) (some l))=some (ge::l))(hm:marksOver fs (none,none)=(none,none))(hc:frameCount (fs.map Frame.where_)+c.weight<=3)
  (hg:pushGuards c.guards (pushGuards (guardsOf (fs.map Frame.where_)) (some []))=some []) (hu:PySem.unitsOf (fs.map Frame.where_)+c.cUnits<=20):aN X (A.over c fs) m :=
 ⟨Nat.lt_of_le_of_lt (by show A.depth+frameCount (fs.map Frame.where_)+c.weight+4 * m<=A.depth+3+4 * m; rw[Nat.add_assoc A.depth]; exact Nat.add_le_add_right (Nat.add_le_add_left hc _) _) h.1,
  Nat.lt_of_le_of_lt (by show A.units+PySem.unitsOf (fs.map Frame.where_)+c.cUnits+40 * m<=A.units+21+40 * m; rw[Nat.add_assoc A.units]; exact Nat.add_le_add_right (Nat.add_le_add_left (Nat.le_succ_of_le hu) _) _) h.2.1,
  by show(marksOver fs (A.handled,A.handled)).1=none; rw[h.2.2.1,hm],by show pushGuards c.guards (pushGuards (guardsOf (fs.map Frame.where_)) A.guards)=some []; rw[h.2.2.2.1]; exact hg,
  by show pushEnvs c.envs (pushEnvs (envsOf (fs.map Frame.where_)) A.frames)=_; rw[h.2.2.2.2,he,hl]⟩
noncomputable def F0(t:cC)(ge:Env)(k0:Result->Sem Fin)(p0:Pos):Frame:=.ret k0 none false [] (.func t.body ge) p0 []
noncomputable def F1(t:cC)(ge:Env)(k1:Result->Sem Fin)(p1:Pos):Frame:=.ret k1 none false [] (lV t ge) p1 []
noncomputable def B7(env:Env)(x:Value):Sem Unit:=do
 if (<- field x 1) == Value.none then unsupported "frame.own-activation:exception-without-traceback"
 setFlight x env.frame
noncomputable def B8(env:Env)(x:Value):Sem Unit:=do noteFrame x env; theTreesLotGoes x
noncomputable def vY(ge:Env)(k0:Result->Sem Fin):Prop:=k0 (.ok .next) = .pure (.done (.ret .none))/\∃K gd lv,∀x,k0 (.error x)=((.raise x:Sem Flow).onRaise (B7 ge)).wrap K (λe=>(leaving ge e).wrap (λ_=>.raise e) .raise id id) gd lv
noncomputable def Mh(t:cC)(ge:Env)(k1:Result->Sem Fin):Prop:=∃K H,k1 (.ok .next)=(execs t.rest ge).wrap K H id id/\K .next = .pure (.again (lV t ge))/\∀x,H x=(B8 ge x).wrap (λ_=>.raise x) .raise id id
section
variable(X:Ctx)(A:Around)(R:GenEnd)(O3:Protocol)(t:cC)(ge:Env)(n:Nat)(aS s:Shared)
noncomputable def pa:Prop :=
 ∀k1 p1 k0 p0,Mh t ge k1->vY ge k0->Seg (Mo X) A R O3 n aS (vq t ge) ((Mo X).den (vq t ge)) [F1 t ge k1 p1,F0 t ge k0 p0] s
noncomputable def Mi:Prop :=
 ∀k0 p0,vY ge k0->Seg (Mo X) A R O3 n aS (lV t ge) ((Mo X).den (lV t ge)) [F0 t ge k0 p0] s
end
structure Ends(X:Ctx)(κ:ay)(A:Around)(R:GenEnd)(O3:Protocol)(t:cC)(ge:Env)(n:Nat)(ba:St)(aS:Shared)(o:ef)(aj:St):Prop where
 fin:o = .fin->∀s' aq F',Inv X aq F' aj s'->aD κ (fmax κ ba aS) ba aS aq F' aj s'->R n aS (.ok (.ret .none)) s'
 out:∀av,o = .out av->∃j,n=j+1/\∀v s' aq F',Den aj.n aq F' av v->Inv X aq F' aj s'->aD κ (fmax κ ba aS) ba aS aq F' aj s'->∀kap:Resume->Shared->Prop,
  (∀s'',pa X A R O3 t ge j s'' s''->kap (.send .none) s'')->O3 j aS v s' kap
 err:∀e,o = .err e->∀v s' aq F',Den aj.n aq F' (.ref e) v->Inv X aq F' aj s'->aD κ (fmax κ ba aS) ba aS aq F' aj s'->R n aS (.error v) s'
theorem aN.o(hh:∃l,lU l A m/\X.fr.map (·.1)=ge::l)(k0:Result->Sem Fin)(p0:Pos):aN X (A.over (lV t ge) [F0 t ge k0 p0]) m :=
 hh.elim λl h=>aN.over h.1 h.2 rfl rfl (Nat.le_of_ble_eq_true rfl) rfl (Nat.le_of_ble_eq_true rfl)
theorem aN.i(hh:∃l,lU l A m/\X.fr.map (·.1)=ge::l)(k1 k0:Result->Sem Fin)(p1 p0:Pos):aN X (A.over (vq t ge) [F1 t ge k1 p1,F0 t ge k0 p0]) m :=
 hh.elim λl h=>aN.over h.1 h.2 rfl rfl (Nat.le_of_ble_eq_true rfl) rfl (Nat.le_of_ble_eq_true rfl)
theorem aN.f(hh:∃l,lU l A m/\X.fr.map (·.1)=ge::l):aN X (A.over (.func t.body ge) []) m:=hh.elim λl h=>aN.over h.1 h.2 rfl rfl (Nat.le_of_ble_eq_true rfl) rfl (Nat.le_of_ble_eq_true rfl)
noncomputable def mY(K:Frag)(J:St)(o:ef):Prop:=∀e,o = .err e->∃C d t,J.get e=some (.exc C d t)/\mroIn K C (.type "StopIteration")=some false
section
variable(X:Ctx)(A:Around)(t:cC)(gae:aB)(ge:Env)
noncomputable def qP(P:(R:GenEnd)->(O3:Protocol)->Nat->Shared->Shared->Prop)(J:St)(o:ef)(aj:St):Prop:=∀(R:GenEnd) (O3:Protocol) (n:Nat) (κ:ay) (ba:St) (aS:Shared) (Z:ay) (F:Fz) (s:Shared),
 Inv X Z F J s->aD κ (fmax κ ba aS) ba aS Z F J s->(aA X gae ge).p J.n Z F->Ends X κ A R O3 t ge n ba aS o aj->P R O3 n aS s
noncomputable def Kq(J:St)(e:Nat)(o:ef)(aj:St):Prop:=o = .err e/\mY X.K aj o/\∀(R:GenEnd) (O3:Protocol) (n:Nat) (aS:Shared) (Z:ay) (F:Fz) (s:Shared) (v:Value) k0 p0,vY ge k0->Inv X Z F J s->(aA X gae ge).p J.n Z F->Den J.n Z F (.ref e) v ->
 (∀s' aq F',Den aj.n aq F' (.ref e) v->Inv X aq F' aj s'->aD Z F J s aq F' aj s'->R n aS (.error v) s')->Seg (Mo X) A R O3 n aS (lV t ge) ((B8 ge v).wrap (λ_=>.raise v) .raise id id) [F0 t ge k0 p0] s
end
theorem FU(G:oU X r xr m A t gae ge)(e:Nat):ai J (jI X.K gae.frm e) (Kq X A t gae ge J e):=by
 refine ai.bind (ai.all λv=>ai.all λk0=>ai.all λp0=>ah.at (ah.note (X:=X) (A:=A.over (lV t ge) [F0 t ge k0 p0]) (Y:=(aA X gae ge).and (ao (.ref e) v)) (aN.o (t:=t) G.room k0 p0).2.2.2.2 (Kn.fst (Kn.le_refl _)) (Kn.snd (Kn.le_refl _)))) λ_ au c1=>?_
 refine ai.bind (zO (X:=X)) λ_ aZ c2=>?_
 refine ai.bind (ai.all λv=>ah.at (ah.note (X:=X) (A:=A.over (.func t.body ge) []) (Y:=(aA X gae ge).and (ao (.ref e) v)) (aN.f (t:=t) G.room).2.2.2.2 (Kn.fst (Kn.le_refl _)) (Kn.snd (Kn.le_refl _)))) λ_ a7 c3=>?_
 refine ai.bind (pX (X:=X)) λ_ cW c4=>ai.aK mC λq hq=>ai.aW λhm=>ai.ret ⟨rfl,λe' h'=>?_,λR O3 n aS Z F s v k0 p0 hk0 I gE d hR=>?_⟩
 ·cases h'
  exact⟨q.1,q.2.1,q.2.2,hq,eq_of_beq hm⟩
 refine seg_wrap (wpAny_bind (c1 v k0 p0 Z F s I ⟨gE,d⟩ _ _ λ_ ar aF aH _ a0 aM=>wpAny_theTreesLotGoes ?_))
 have jR:=(aA X gae ge).mono aM.le aM.same aM.sub gE
 have l7:=Den.step d aM
 refine seg_leaf (r:=.error v) (hk0.2.elim λK q=>q.elim λgd q=>q.elim λlv q=>?_)
 rw[q v,(dK l7).1]
 refine seg_wrap (wpAny_onRaise (wpAny_throw ?_))
 unfold B7
 rw[bx.fr jR]
 refine c2 aF aH ar a0 (bx.fl jR) _ _ _ _ λa8 bG bC=>?_
 have vr:=(aA X gae ge).mono bC.le bC.same bC.sub jR
 have gx:Den aZ.n aF aH (.ref e) (.ref (aF e)):=Den.step (show Den au.n aF aH (.ref e) (.ref (aF e)) from⟨rfl,(dK l7).2⟩) bC
 refine seg_wrap ?_
 unfold leaving
 refine wpAny_bind (c3 _ aF aH a8 bG ⟨vr,gx⟩ _ _ λ_ cN fT gw _ dg cD=>?_)
 have o8:=Den.step gx cD
 have e3:=(dK o8).1
 rw[e3]
 refine c4 fT gw cN dg _ _ _ _ λiK eR gr=>?_
 refine seg_end (r:=.error (.ref (fT e))) ?_
 rw[<- e3,<- (dK l7).1]
 refine hR iK fT gw ?_ eR (((aM.trans bC).trans cD).trans gr)
 rw[(dK l7).1]
 exact Den.step o8 gr
theorem vZ(G:oU X r xr m A t gae ge):∀f:Nat,(∀J,ai J (gW X.K r xr t gae f) λo aj=>mY X.K aj o/\qP X A t gae ge (λR O3 n=>Mi X A R O3 t ge n) J o aj)/\∀J,ai J (iH X.K r xr t gae f) λo aj=>mY X.K aj o/\qP X A t gae ge (λR O3 n=>pa X A R O3 t ge n) J o aj
 | 0=>⟨λ_=>ai.fail,λ_=>ai.fail⟩
 | f+1=>by
  have ih:=vZ G f
  refine⟨λJ=>?_,λJ=>?_⟩
  ·show ai J (EM.bind (r.tst gae t.test1) λb=>EM.bind (EM.dec b) λb=>_root_.cond b (iH X.K r xr t gae f) (EM.ret .fin)) _
   refine ai.bind (ai.all λk0=>ai.all λp0=>ah.at (G.S.tst _ (aN.o (t:=t) G.room k0 p0) gae ge t.test1)) λb au c1=>ai.eP ai.o6 λd hd=>?_
   rw[hd] at c1
   cases d with
   | true =>
    refine(ih.2 au).mono λo aj h=>⟨h.1,λR O3 n κ ba aS Z F s I st gE O1 k0 p0 hk0=>seg_whileLoop (c1 k0 p0 Z F s I gE _ _ λv ar aF aH (hv:true=v) a0 aM=>?_)⟩
    rw[<- hv,if_pos rfl]
    show Seg _ A R O3 n aS _ ((execs (.While t.test2 t.inner [] t.pos2::t.rest) ge).wrap _ _ id id) _ ar
    exact seg_execs_cons (seg_While λp=>h.2 R O3 n κ ba aS aF aH ar a0 (st.trans aM) ((aA X gae ge).mono aM.le aM.same aM.sub gE) O1 _ p k0 p0 ⟨_,_,rfl,rfl,λ_=>rfl⟩ hk0)
   | false =>
    refine ai.ret ⟨(λ_ h=>nomatch h),λR O3 n κ ba aS Z F s I st gE O1 k0 p0 hk0=>seg_whileLoop (c1 k0 p0 Z F s I gE _ _ λv ar aF aH (hv:false=v) a0 aM=>?_)⟩
    rw[<- hv,if_neg Bool.false_ne_true]
    refine seg_execs_nil (seg_leaf (r:=.ok .next) ?_)
    rw[hk0.1]
    exact seg_end (r:=.ok (.ret .none)) (O1.fin rfl ar aF aH a0 (st.trans aM))
  ·show ai J (EM.bind (r.tst gae t.test2) λb=>EM.bind (EM.dec b) λb=>_root_.cond b (EM.bind (r.ev gae t.item) λv=>EM.ret (.out v)) (EM.bind gB λb=>_root_.cond b (EM.bind (xr.xs gae t.rest) λe=>jI X.K gae.frm e) (EM.bind (r.aV gae t.rest) λfl=>cj fl (gW X.K r xr t gae f) (λ_=>EM.fail) EM.fail))) _
   refine ai.bind (ai.all λk1=>ai.all λk0=>ai.all λp1=>ai.all λp0=>ah.at (G.S.tst _ (aN.i (t:=t) G.room k1 k0 p1 p0) gae ge t.test2)) λb au c1=>ai.eP ai.o6 λd hd=>?_
   rw[hd] at c1
   cases d with
   | true =>
    refine ai.bind (ai.all λk1=>ai.all λk0=>ai.all λp1=>ai.all λp0=>ah.at (G.S.ev _ (aN.i (t:=t) G.room k1 k0 p1 p0) gae ge t.item)) λav aZ c2=>ai.ret ⟨(λ_ h=>nomatch h),?_⟩
    refine λR O3 n κ ba aS Z F s I st gE O1 k1 p1 k0 p0 hk1 hk0=>seg_whileLoop (c1 k1 k0 p1 p0 Z F s I gE _ _ λv ar aF aH (hv:true=v) a0 aM=>(O1.out av rfl).elim λj z=>?_)
    rw[<- hv,if_pos rfl,z.1]
    show Seg _ A R O3 (j+1) aS _ ((execs [.Expr (.Yield (some t.item) t.ypos) t.epos] ge).wrap _ _ id id) _ ar
    refine seg_execs_cons (seg_Expr_Yield (by rfl) rfl (by rfl) ?_ G.co (by unfold interactive; rw[G.fn]; rfl))
    exact c2 k1 k0 p1 p0 aF aH ar a0 ((aA X gae ge).mono aM.le aM.same aM.sub gE) _ _ λv a8 bg bo dv dg cD kap hkap=>z.2 v a8 bg bo dv dg ((st.trans aM).trans cD) kap λs'' hs=>hkap .none s'' (seg_execs_nil (seg_again rfl (hs k1 p1 k0 p0 hk1 hk0)))
   | false =>
    show ai au (EM.bind gB λb=>_root_.cond b (EM.bind (xr.xs gae t.rest) λe=>jI X.K gae.frm e) (EM.bind (r.aV gae t.rest) λfl=>cj fl (gW X.K r xr t gae f) (λ_=>EM.fail) EM.fail)) _
    refine ai.word λw=>?_
    cases w with
    | true =>
     show ai au (EM.bind (xr.xs gae t.rest) λe=>jI X.K gae.frm e) _
     refine ai.bind (ai.all λk0=>ai.all λp0=>G.XS.xs _ (aN.o (t:=t) G.room k0 p0) gae ge t.rest au) λe aZ c2=>(FU G e).mono λo aj h=>⟨h.2.1,λR O3 n κ ba aS Z F s I st gE O1 k1 p1 k0 p0 hk1 hk0=>seg_whileLoop (c1 k1 k0 p1 p0 Z F s I gE _ _ λv ar aF aH (hv:false=v) a0 aM=>?_)⟩
     rw[<- hv,if_neg Bool.false_ne_true]
     refine seg_execs_nil (seg_leaf (r:=.ok .next) (hk1.elim λK q=>q.elim λH q=>?_))
     have jR:=(aA X gae ge).mono aM.le aM.same aM.sub gE
     rw[q.1]
     refine seg_wrap (c2 k0 p0 aF aH ar a0 jR _ _ λv a8 bg bo gx bG bC=>?_)
     rw[q.2.2 v]
     exact h.2.2 R O3 n aS bg bo a8 v k0 p0 hk0 bG ((aA X gae ge).mono bC.le bC.same bC.sub jR) gx λs' aq F' d I' st'=>O1.err e h.1 v s' aq F' d I' (((st.trans aM).trans bC).trans st')
    | false =>
     show ai au (EM.bind (r.aV gae t.rest) λfl=>cj fl (gW X.K r xr t gae f) (λ_=>EM.fail) EM.fail) _
     refine ai.bind (ai.all λk0=>ai.all λp0=>ah.at (G.S.aV _ (aN.o (t:=t) G.room k0 p0) gae ge t.rest)) λfl aZ c2=>?_
     cases fl with
     | next =>
      refine(ih.1 aZ).mono λo aj h=>⟨h.1,λR O3 n κ ba aS Z F s I st gE O1 k1 p1 k0 p0 hk1 hk0=>seg_whileLoop (c1 k1 k0 p1 p0 Z F s I gE _ _ λv ar aF aH (hv:false=v) a0 aM=>?_)⟩
      rw[<- hv,if_neg Bool.false_ne_true]
      refine seg_execs_nil (seg_leaf (r:=.ok .next) (hk1.elim λK q=>q.elim λH q=>?_))
      have jR:=(aA X gae ge).mono aM.le aM.same aM.sub gE
      rw[q.1]
      refine seg_wrap (c2 k0 p0 aF aH ar a0 jR _ _ λfv a8 bg bo (dv:fv = .next) dg cD=>?_)
      rw[dv,q.2.1]
      exact seg_again rfl (h.2 R O3 n κ ba aS bg bo a8 dg ((st.trans aM).trans cD) ((aA X gae ge).mono cD.le cD.same cD.sub jR) O1 k0 p0 hk0)
     | _=>exact ai.fail
end
section
variable{prog:Program}{w:World}{A:Around}{E:Value->Shared->Prop}{s:Shared}
theorem zQ{a:Addr}{g n:Nat}{gs:GenState}{P:Nat->Shared->Shared->Prop}{PE:Nat->Shared->Value->Shared->Prop}{O3:Protocol}{Q:Option Value->Shared->Prop}(hh:A.handled=none)(hl:s.heap.NoLimit)(hroom:A.depth<recursionLimit)
  (hg:s.heap.IsGen a g) (hgs:s.gens[g]? = some gs) (hgo:gs.Goes (model prog w) A.in1 (λn aS r ar=>(r = .ok (.ret .none)/\P n aS ar)∨∃v,r = .error v/\PE n aS v ar) O3 n (.send .none) (s.setGen g .running))
  (hY:∀v ar gs',gs'.bare=true->O3 (n - 1) (s.setGen g .running) v ar (λr' s''=>match n with
    | 0=>False
    | m+1=>gs'.Goes (model prog w) A.in1 (λn aS r ar=>(r = .ok (.ret .none)/\P n aS ar)∨∃v,r = .error v/\PE n aS v ar) O3 m r' s'')->Q (some v) (ar.setGen g gs'))
  (hP:∀ar,P n (s.setGen g .running) ar->∀h',(∀b o,ar.heap.get? b=some o->h'.get? b=some o)->Q none { ar.setGen g .finished with heap:=h' })
  (hE:∀v ar,PE n (s.setGen g .running) v ar->ar.heap.IsGen a g/\(∀(A':Around) (Q':Bool->Shared->Prop) (E':Value->Shared->Prop),Q' false (ar.setGen g .finished)->wpAny (model prog w) A' (isInstance v (.type "StopIteration")) Q' E' (ar.setGen g .finished))/\E v (ar.setGen g .finished)):wpAny (model prog w) A (pyNext (.ref a)) Q E s:=by
 unfold pyNext
 refine wpAny_bind (wpAny_attempt (wpAny_callSpecial?_slot (name:=Str.ofString "__next__") hg.typeIs slot_gen_next (wpAny_call_entry slot_gen_next hg.typeIs entry_gen_next ?_ (args_gen_next _))))
 show wpAny _ _ (Builtin.Generator.genWake (.ref a) (.send .none)) _ _ s
 unfold Builtin.Generator.genWake
 refine wpAny_bind (wpAny_holding (wpAny_genNumber hg (wpAny_bind (wpAny_genState hgs ?_))))
 cases gs with
 | running=>exact hgo.elim
 | finished=>exact hgo.elim
 | _ =>
  refine wpAny_bind (wpAny_roomToWake hl hroom ?_)
  show wpAny _ _ (.resume g (.send .none) [] _) _ _ s
  refine wpAny_resumeQ hgs hgo (λx ar hx=>?_) (λv ar gs' hb hv=>wpAny_pure ⟨v,rfl,wpAny_pure (hY v ar gs' hb hv)⟩)
  rcases hx with hx | ⟨v,hv,hx⟩
  ·rw[hx.1]
   refine wpAny_bind (m:=SmallTypes.stopIteration) ?_
   refine jA (A:=A.in1) hh λe h' hk hT=>?_
   refine wpAny_bind (wpAny_isInstance (T:="StopIteration") (b:=true) hT isSubtype_stop ?_)
   exact wpAny_pure (hP ar hx.2 _ hk)
  ·rw[hv]
   have H:=hE v ar hx
   refine H.1.elim λog q=>q.elim λnm q=>q.elim λqn q=>?_
   show wpAny _ _ (Builtin.Generator.genLeft (.ref a) v) _ _ _
   unfold Builtin.Generator.genLeft Builtin.Generator.madeByALambda
   refine wpAny_bind (wpAny_bind (wpAny_load (show(ar.setGen g .finished).heap.get? a=some og from q.1) (wpAny_pure (wpAny_bind (H.2.1 _ _ _ ?_)))))
   rw[Bool.and_false,if_neg Bool.false_ne_true]
   show wpAny _ _ (Builtin.Generator.genEscaped v) _ _ _
   unfold Builtin.Generator.genEscaped
   refine wpAny_bind (H.2.1 _ _ _ ?_)
   refine wpAny_throw ?_
   show wpAny _ _ (isInstance v (.type "StopIteration") >>= _) _ _ _
   refine wpAny_bind (H.2.1 _ _ _ ?_)
   exact wpAny_throw H.2.2
end
noncomputable def Kr(N:Nat)(v:AV):EM Unit:=EM.st λJ=>EM.turn (aL N v/\∀p∈(J.cut N).objs,bA N p.2) (λJ=>J.cut N) ()
noncomputable def jS(bd:AV->EM aU)(N L:Nat)(v:AV):EM Unit:=EM.bind (Kr N v) λ_=>EM.bind (bd v) λfl=>cj fl (IV N L) (λ_=>EM.fail) EM.fail
noncomputable def kP(K:Frag)(r:Rec)(xr:cu)(t:cC)(gae:aB)(bd:AV->EM aU)(N f:Nat)(k:Nat):Bool->EM (Option Nat):=Nat.rec (motive:=λ_=>Bool->EM (Option Nat)) (λ_=>EM.fail) (λ_ ih b=>EM.bind (_root_.cond b (oT K r xr t gae f) (iH K r xr t gae f)) λo =>
 oR o (λv=>EM.bind (jS bd N gae.loc v) λ_=>ih false) (EM.ret none) (λe=>EM.ret (some e))) k
noncomputable def outF(o:Option Nat):ef:=match o with
 | none=>.fin
 | some e=>.err e
theorem GP{o:Option Nat}(h:outF o = .fin):o=none:=by cases o <;> first | rfl | cases h
theorem GQ{o:Option Nat}{e:Nat}(h:outF o = .err e):o=some e:=by
 cases o with
 | none=>cases h
 | some x=>cases h; rfl
theorem GR{o:Option Nat}{v:AV}{C:Prop}(h:outF o = .out v):C:=by cases o <;> cases h
section
variable{X:Ctx}{A:Around}{Z κ:ay}{F F':Fz}{J aj:St}{s s':Shared}{r:Rec}{xr:cu}{m:Nat}{t:cC}{gae:aB}{ge:Env}{n N f:Nat}{bl:St}{oF:Option Nat}{conf:Nat->St}{cQ:Kn}{tb:Value->Sem Flow}{bd:AV->EM aU}
theorem aD.Ks{aq:ay}{N:Nat}(st:aD κ F J s aq F' aj s')(hN:J.n=N):aD κ F J s κ F' (aj.cut N) s' :=
 ⟨Nat.le_of_eq hN,λ_ _=>rfl,st.sub,st.keep,st.live,λi c h=>by
  have q:=nW h
  rw[<- st.same i (hN▸q.1)]
  exact st.new i c q.2,st.gens⟩
noncomputable abbrev XG(X:Ctx)(ge:Env)(L:Nat):Ctx:=X.wf ((ge,L)::X.fr)
noncomputable def l8(X:Ctx)(A:Around)(t:cC)(gae:aB)(ge:Env)(b:Bool)(J:St)(o:ef)(aj:St):Prop:=match b with
 | false=>qP X A t gae ge (λR O3 n=>pa X A R O3 t ge n) J o aj
 | true=>qP X A t gae ge (λR O3 n aS s=>aS=s->(GenState.fresh (.func t.body ge)).Goes (Mo X) A R O3 n (.send .none) s) J o aj
structure BodyOk(X:Ctx)(A:Around)(cQ:Kn)(tb:Value->Sem Flow)(N L:Nat)(v:AV)(au a7 aZ:St):Prop where
 bZ:aL N v
 undC:∀p∈(au.cut N).objs,bA N p.2
 go:∀Z F s w,Inv X Z F (au.cut N) s->cQ.p (au.cut N).n Z F->Den (au.cut N).n Z F v w->Goes X A Z F (au.cut N) s (tb w) (cn .next) a7
 undC':∀p∈(a7.cut N).objs,bA N p.2
 ns:∃m,(a7.cut N).get L=some (.ns m)
 eq:aZ=a7.cut N
theorem GS(one:∀v w,ah X A (cQ.and (ao v w)) cn (bd v) (tb w)){L:Nat}{v:AV}:ai J (jS bd N L v) λ_ aj=>∃a7,BodyOk X A cQ tb N L v J a7 aj:=by
 refine ai.bind (C:=λ_ au=>(aL N v/\∀p∈(J.cut N).objs,bA N p.2)/\au=J.cut N) (ai.st (ai.turn λh=>⟨h,rfl⟩)) λ_ au h1=>?_
 refine ai.bind (ai.all λw=>ah.at (one v w)) λfl a7 c=>?_
 cases fl with
 | next =>
  refine ai.st (f:=λJ=>EM.bind (EM.turn (∀p∈(J.cut N).objs,bA N p.2) (λJ=>J.cut N) ()) λ_=>EM.bind (EM.aK jh L) λ_=>EM.ret ()) ?_
  refine ai.bind (x:=EM.turn (∀p∈(a7.cut N).objs,bA N p.2) (λJ=>J.cut N) ()) (f:=λ_=>EM.bind (EM.aK jh L) λ_=>EM.ret ()) (C:=λ_ cW=>(∀p∈(a7.cut N).objs,bA N p.2)/\cW=a7.cut N) (ai.turn λh=>⟨h,rfl⟩) λ_ cW h4=>?_
  rw[h4.2]
  exact ai.aK mE λmm hm=>ai.ret ⟨a7,h1.1.1,h1.1.2,λZ F s w I g d=>h1.2▸c w Z F s (h1.2▸I) ⟨h1.2▸g,h1.2▸d⟩,h4.1,⟨mm,hm⟩,rfl⟩
 | _=>exact ai.fail
structure B9(X:Ctx)(A:Around)(t:cC)(gae:aB)(ge:Env)(cQ:Kn)(tb:Value->Sem Flow)(N:Nat)(b:Bool)(n:Nat)(conf:Nat->St)(oF:Option Nat)(bl:St):Prop where
 last:l8 (XG X ge gae.loc) A.in1 t gae ge (b && Nat.beq 0 n) (conf 0) (outF oF) bl
 stop:mY X.K bl (outF oF)
 turn:∀j,j<n->∃v au a7,l8 (XG X ge gae.loc) A.in1 t gae ge (b && Nat.beq (j+1) n) (conf (j+1)) (.out v) au/\BodyOk X A cQ tb N gae.loc v au a7 (conf j)
theorem FV{X:Ctx}{A:Around}(hh:∃l,lU l A m/\X.fr.map (·.1)=ge::l):aN X (A.over (.func t.body ge) []) m:=hh.elim λl h=>aN.over h.1 h.2 rfl rfl (Nat.le_of_ble_eq_true rfl) rfl (Nat.le_of_ble_eq_true rfl)
theorem execs_app_wrap{K:Flow->Sem Fin}{H:Value->Sem Fin}{gd:Bool->Bool}{lv:List Value->List Value}{env:Env}(rest:List Stmt):∀pre:List Stmt,
  (execs (pre++rest) env).wrap K H gd lv=(execs pre env).wrap (λf=>match f with | .next=>(execs rest env).wrap K H gd lv | f=>K f) H gd lv
 | []=>rfl
 | st::pre=>by
  rw[List.cons_append,execs_cons_wrap,execs_cons_wrap]
  exact Sem.wrap_congr _ _ _ (λfl=>by cases fl <;> first | exact execs_app_wrap rest pre | rfl) λ_=>rfl
theorem HM{X:Ctx}{A:Around}(G:oU X r xr m A t gae ge):ai J (oT X.K r xr t gae f) λo aj=>mY X.K aj o/\l8 X A t gae ge true J o aj:=by
 refine ai.bind (ah.at (G.S.aV _ (FV (t:=t) G.room) gae ge t.pre)) λfl au c=>?_
 cases fl with
 | next =>
  refine((vZ G f).1 au).mono λo aj h=>⟨h.1,λR O3 n κ ba aS Z F s I st gE O1 e=>⟨rfl,seg_func ?_⟩⟩
  unfold cC.body
  rw[execs_app_wrap]
  refine seg_wrap (c Z F s I gE _ _ λfv ar aF aH (hr:fv = .next) a0 aM=>?_)
  rw[hr]
  exact seg_execs_cons (seg_While λp=>e▸h.2 R O3 n κ ba aS aF aH ar a0 (st.trans aM) ((aA X gae ge).mono aM.le aM.same aM.sub gE) O1 _ p ⟨rfl,_,_,_,λ_=>rfl⟩)
 | _=>exact ai.fail
theorem IW{X:Ctx}{A:Around}(G:oU X r xr m A t gae ge)(b:Bool):ai J (_root_.cond b (oT X.K r xr t gae f) (iH X.K r xr t gae f)) λo aj=>mY X.K aj o/\l8 X A t gae ge b J o aj:=by
 cases b with
 | true=>exact HM G
 | false=>exact(vZ G f).2 J
theorem yV(G:oU (XG X ge gae.loc) r xr m A.in1 t gae ge)(one:∀v w,ah X A (cQ.and (ao v w)) cn (bd v) (tb w)):∀(k:Nat) (b:Bool) (J:St),ai J (kP X.K r xr t gae bd N f k b) λoF bl=>∃n conf,conf n=J/\B9 X A t gae ge cQ tb N b n conf oF bl
 | 0,_,_=>ai.fail
 | k+1,b,J=>by
  show ai J (EM.bind (_root_.cond b (oT X.K r xr t gae f) (iH X.K r xr t gae f)) λo=>oR o (λv=>EM.bind (jS bd N gae.loc v) λ_=>kP X.K r xr t gae bd N f k false) (EM.ret none) (λe=>EM.ret (some e))) _
  refine ai.bind (IW (X:=XG X ge gae.loc) G b) λo au h1=>?_
  cases o with
  | fin=>exact ai.ret ⟨0,λ_=>J,rfl,by cases b <;> exact h1.2,h1.1,λj h=>absurd h (Nat.not_lt_zero _)⟩
  | err e=>exact ai.ret ⟨0,λ_=>J,rfl,by cases b <;> exact h1.2,h1.1,λj h=>absurd h (Nat.not_lt_zero _)⟩
  | out v =>
   refine ai.bind (GS one) λ_ aZ h2=>(yV G one k false aZ).mono λoF bl q=>q.elim λn q=>q.elim λconf q=>⟨n+1,λj=>_root_.cond (Nat.beq j (n+1)) J (conf j),by show _root_.cond (Nat.beq (n+1) (n+1)) J _=J; rw[Nat.beq_refl]; rfl,?_,q.2.stop,λj hj=>?_⟩
   ·show l8 _ _ _ _ _ (b && false) (conf 0) _ bl
    rw[Bool.and_false]
    exact q.2.last
   ·have hj1:Nat.beq j (n+1)=false:=Bool.eq_false_iff.mpr λe=>absurd (Nat.eq_of_beq_eq_true e) (Nat.ne_of_lt hj)
    show ∃v au a7,l8 _ _ _ _ _ (b && Nat.beq j n) (_root_.cond (Nat.beq j n) J (conf (j+1))) (.out v) au/\BodyOk _ _ _ _ _ _ v au a7 (_root_.cond (Nat.beq j (n+1)) J (conf j))
    rw[hj1]
    cases e:Nat.beq j n with
    | true =>
     rw[Bool.and_true,Nat.eq_of_beq_eq_true e]
     exact h2.elim λa7 h2=>⟨v,au,a7,h1.2,q.1▸h2⟩
    | false =>
     rw[Bool.and_false]
     exact q.2.turn j (Nat.lt_of_le_of_ne (Nat.le_of_lt_succ hj) λh=>by rw[h,Nat.beq_refl] at e; exact ff e.symm)
section
variable(X:Ctx)(κ:ay)
noncomputable def YY(Fb:Fz)(A:Around)(cQ:Kn)(tb:Value->Sem Flow)(N L:Nat)(XL:Ctx)(conf:Nat->St):Protocol:=λj aS v s' kap=>∃av au a7 aq F',BodyOk X A cQ tb N L av au a7 (conf j)/\Den au.n aq F' av v/\Inv XL aq F' au s' /\
 aD κ (fmax κ (conf (j+1)) aS) (conf (j+1)) aS aq F' au s'/\∀s'',gC XL κ Fb (conf j) s''->kap (.send .none) s''
noncomputable def PP(conf:Nat->St)(oF:Option Nat)(bl:St):Nat->Shared->Shared->Prop:=λk aS ar=>k=0/\oF=none/\∃aq F',Inv X aq F' bl ar/\aD κ (fmax κ (conf 0) aS) (conf 0) aS aq F' bl ar
noncomputable def wy(conf:Nat->St)(oF:Option Nat)(bl:St):Nat->Shared->Value->Shared->Prop:=λk aS v ar=>k=0/\∃e,outF oF = .err e/\∃aq F',Den bl.n aq F' (.ref e) v/\Inv X aq F' bl ar/\aD κ (fmax κ (conf 0) aS) (conf 0) aS aq F' bl ar
noncomputable def RR(conf:Nat->St)(oF:Option Nat)(bl:St):GenEnd:=λk aS r ar=>(r = .ok (.ret .none)/\PP X κ conf oF bl k aS ar)∨∃v,r = .error v/\wy X κ conf oF bl k aS v ar
end
structure l9(X:Ctx)(r:Rec)(m:Nat)(A:Around)(κ:ay)(Fb:Fz)(t:cC)(gae:aB)(ge:Env)(cQ:Kn)(tb:Value->Sem Flow)(N n:Nat)(conf:Nat->St)(oF:Option Nat)(bl:St):Prop where
 gF:ge.frame=some (κ gae.loc)
 gK:ge.scope.kind = .function
 room:aN X A (m+1)
 turns:B9 X A t gae ge cQ tb N true n conf oF bl
 size:∀j,j<=n->(conf j).n=N
 gE:(aA (XG X ge gae.loc) gae ge).p N κ Fb
 cE:cQ.p N κ Fb
section
variable{Fb:Fz}(R:l9 X r m A κ Fb t gae ge cQ tb N n conf oF bl)
include R
theorem l9.ends{j:Nat}(hj:j<=n)(ih:∀i,i<j->∀s,gC (XG X ge gae.loc) κ Fb (conf i) s->pa (XG X ge gae.loc) A.in1 (RR (XG X ge gae.loc) κ conf oF bl) (YY X κ Fb A cQ tb N gae.loc (XG X ge gae.loc) conf) t ge i s s):
  ∃o aj,l8 (XG X ge gae.loc) A.in1 t gae ge (Nat.beq j n) (conf j) o aj/\∀s,Ends (XG X ge gae.loc) κ A.in1 (RR (XG X ge gae.loc) κ conf oF bl) (YY X κ Fb A cQ tb N gae.loc (XG X ge gae.loc) conf) t ge j (conf j) s o aj:=by
 cases j with
 | zero=>exact⟨outF oF,bl,R.turns.last,λs=>⟨λh s' aq F' I st=>.inl ⟨rfl,rfl,GP h,aq,F',I,st⟩,λav h=>GR h,λe h v s' aq F' d I st=>.inr ⟨v,rfl,rfl,e,h,aq,F',d,I,st⟩⟩⟩
 | succ i =>
  exact(R.turns.turn i hj).elim λv q=>q.elim λau q=>q.elim λa7 q=>⟨.out v,au,q.1,λs=>⟨(λh=>nomatch h),λav h=>⟨i,rfl,λw s' aq F' d I st kap hk=>⟨v,au,a7,aq,F',q.2,(show v=av by cases h; rfl)▸d,I,st,λs'' h=>hk s'' (ih i (Nat.lt_succ_self i) s'' h)⟩⟩,λ_ h=>nomatch h⟩⟩
theorem l9.all(j:Nat):j<n->∀s,gC (XG X ge gae.loc) κ Fb (conf j) s->pa (XG X ge gae.loc) A.in1 (RR (XG X ge gae.loc) κ conf oF bl) (YY X κ Fb A cQ tb N gae.loc (XG X ge gae.loc) conf) t ge j s s:=by
 induction j using Nat.strongRecOn with
 | ind j ih =>
  intro hj s h
  refine(R.ends (Nat.le_of_lt hj) λi hi s h=>ih i hi (Nat.lt_trans hi hj) s h).elim λo q=>q.elim λaj q=>?_
  have q1:=q.1
  rw[show Nat.beq j n=false from Bool.eq_false_iff.mpr λe=>absurd (Nat.eq_of_beq_eq_true e) (Nat.ne_of_lt hj)] at q1
  exact q1 _ _ j κ _ s κ _ s h.1 (aD.refl _ _ h.1.ids) (by rw[R.size j (Nat.le_of_lt hj)]; exact(aA _ _ _).mono (Nat.le_refl _) (λ_ _=>rfl) h.2 R.gE) (q.2 s)
theorem l9.fresh{s:Shared}(h:gC (XG X ge gae.loc) κ Fb (conf n) s):(GenState.fresh (.func t.body ge)).Goes (Mo X) A.in1 (RR (XG X ge gae.loc) κ conf oF bl) (YY X κ Fb A cQ tb N gae.loc (XG X ge gae.loc) conf) n (.send .none) s:=by
 refine(R.ends (Nat.le_refl n) λi hi s h=>R.all i hi s h).elim λo q=>q.elim λaj q=>?_
 have q1:=q.1
 rw[Nat.beq_refl] at q1
 exact q1 _ _ n κ _ s κ _ s h.1 (aD.refl _ _ h.1.ids) (by rw[R.size n (Nat.le_refl n)]; exact(aA _ _ _).mono (Nat.le_refl _) (λ_ _=>rfl) h.2 R.gE) (q.2 s) rfl
end
theorem nU{gens:Array GenState}(h:AllBare gens)(g:Nat){x:GenState}(hx:x.bare=true):AllBare (gens.setIfInBounds g x):=λy hy=>(Array.mem_iff_getElem?.mp hy).elim λi hi=>by
 rw[Array.getElem?_setIfInBounds] at hi
 revert hi
 refine ra (P:=λo=>o=some y->y.bare=true) (λ_=>ra (P:=λo=>o=some y->y.bare=true) (λ_ hi=>Option.some.inj hi▸hx) λ_ hi=>aJ hi) λ_ hi=>h _ (Array.mem_iff_getElem?.mpr ⟨i,hi⟩)
theorem mG{s:Shared}{g i:Nat}{gs x:GenState}(hi:i≠g)(h:s.gens[i]? = some x):(s.setGen g gs).gens[i]? = some x:=(Array.getElem?_setIfInBounds_ne (Ne.symm hi)).trans h
noncomputable def v3(X:Ctx)(A:Around)(tb:Value->Sem Flow)(ga:Addr)(C:Code)(ce:Env):Prop:=∀(O1:Result->Shared->Prop) (s:Shared),wpAny (Mo X) A (pyNext (.ref ga)) (λo s'=>match o with
 | none=>O1 (.ok .next) s'
 | some v=>∀E',wpAny (Mo X) A (tb v) (λfl s''=>fl = .next/\codeAny (Mo X) A C O1 s'') E' s') (λx s'=>notedBy (Mo X) A ce (λx s''=>O1 (.error x) s'') x s') s->codeAny (Mo X) A C O1 s
noncomputable def Df(X:Ctx)(A:Around)(ce:Env)(O1:Result->Shared->Prop)(oF:Option Nat)(n:Nat)(Z:ay)(F:Fz)(s:Shared):Prop:=match oF with
 | none=>O1 (.ok .next) s
 | some e=>∀v,Den n Z F (.ref e) v->notedBy (Mo X) A ce (λx s''=>O1 (.error x) s'') v s
theorem Fj{C:Addr}{d t:Option Nat}{e:Nat}(I:Inv X Z F J s)(he:J.get e=some (.exc C d t))(hm:mroIn X.K C (.type "StopIteration")=some false){A':Around}{Q':Bool->Shared->Prop}{E':Value->Shared->Prop}(hq:Q' false s):wpAny (Mo X) A' (isInstance (.ref (Z e)) (.type "StopIteration")) Q' E' s:=by
 refine(I.iO he).elim λvs hx=>?_
 have L0:Looks (Mo X) s.heap (typeOf (.ref (Z e))) (.ref C):=(Looks.ld hx.1).andThen .now
 unfold isInstance
 exact wpAny_bind (L0.here ((looks_mroIn (M:=Mo X) I.bV hm).here hq))
theorem l9.walk{Fb:Fz}(R:l9 X r m A κ Fb t gae ge cQ tb N n conf oF bl){ga:Addr}{g:Nat}{C:Code}{ce:Env}(HC:v3 X A tb ga C ce)(j:Nat):j<=n->∀(s:Shared) (gs:GenState),gC (XG X ge gae.loc) κ Fb (conf j) s->(∀i c,(conf j).get i=some c->κ i≠ga) ->
  s.heap.IsGen ga g->s.gens[g]? = some gs->gs.Goes (Mo X) A.in1 (RR (XG X ge gae.loc) κ conf oF bl) (YY X κ Fb A cQ tb N gae.loc (XG X ge gae.loc) conf) j (.send .none) (s.setGen g .running)->∀(O1:Result->Shared->Prop),
  (∀s' aq F',Inv X aq F' bl s'->aD κ (fmax κ (conf j) s) (conf j) (dT s) aq F' bl (dT s')->(∀i x,i≠g->s.gens[i]? = some x->s'.gens[i]? = some x)->Df X A ce O1 oF bl.n aq F' s') ->
  codeAny (Mo X) A C O1 s:=by
 induction j with
 | zero =>
  intro hj s gs I hga hg hgs hgo O1 hZ
  refine HC O1 s (zQ (P:=PP (XG X ge gae.loc) κ conf oF bl) (PE:=wy (XG X ge gae.loc) κ conf oF bl) R.room.2.2.1 I.1.limit (Nat.lt_of_le_of_lt (Nat.le_add_right _ _) R.room.1) hg hgs hgo (λv ar gs' hb hy=>?_) (λar hp h' hk=>?_) λv ar hp=>?_)
  ·exact hy.elim λav q=>q.elim λau q=>q.elim λa7 q=>q.elim λaq q=>q.elim λF' q=>(q.2.2.2.2 s I:False).elim
  ·refine hp.2.2.elim λaq q=>q.elim λF' q=>?_
   have aM:=q.2
   have a0:=Inv.lG q.1
   have cq:=a0.grow (h':=h') hk ar.toks
   have st2:=(aD.dT aM).trans (aD.dT cq.2)
   have z:=hZ { ar.setGen g .finished with heap:=h' } aq F' (cq.1.kl (nU (x:=.finished) a0.gens g rfl)) st2 λi x hi hx=>mG hi (aM.gens i x (mG hi hx))
   rw[hp.2.1] at z
   exact z
  ·refine hp.2.elim λe q=>q.2.elim λaq p=>p.elim λF' p=>?_
   have aM:=p.2.2
   have a0:=Inv.lG p.2.1
   have bG:Inv X aq F' bl (ar.setGen g .finished):=a0.kl (nU (x:=.finished) a0.gens g rfl)
   have z:=hZ (ar.setGen g .finished) aq F' bG (show aD κ (fmax κ (conf 0) s) (conf 0) (dT s) aq F' bl (dT (ar.setGen g .finished)) from aD.dT (s:=s.setGen g .running) (s':=ar) aM) λi x hi hx=>mG hi (aM.gens i x (mG hi hx))
   rw[GQ q.1] at z
   refine⟨hg.elim λog q2=>q2.elim λnm q2=>q2.elim λqn q2=>⟨og,nm,qn,a0.froz _ _ (aM.sub _ _ ((p7 hga).trans q2.1)),q2.2⟩,λA' Q' E' hq=>?_,z v p.1⟩
   rw[(dK p.1).1]
   exact(R.turns.stop e q.1).elim λC x=>x.elim λd x=>x.elim λt x=>Fj bG x.1 x.2 hq
 | succ j ih =>
  intro hj s gs I hga hg hgs hgo O1 hZ
  refine HC O1 s (zQ (P:=PP (XG X ge gae.loc) κ conf oF bl) (PE:=wy (XG X ge gae.loc) κ conf oF bl) R.room.2.2.1 I.1.limit (Nat.lt_of_le_of_lt (Nat.le_add_right _ _) R.room.1) hg hgs hgo (λv ar gs' hb hy=>?_) (λar hp=>nomatch hp.1) λv ar hp=>nomatch hp.1)
  refine hy.elim λav q=>q.elim λau q=>q.elim λa7 q=>q.elim λaF q=>q.elim λaH q=>?_
  have O2:=q.1
  have d:=q.2.1
  have a0:=q.2.2.1
  have aM:aD κ (fmax κ (conf (j+1)) s) (conf (j+1)) (s.setGen g .running) aF aH au ar:=q.2.2.2.1
  have hn:∀s'',gC (XG X ge gae.loc) κ Fb (conf j) s''->gs'.Goes (Mo X) A.in1 (RR (XG X ge gae.loc) κ conf oF bl) (YY X κ Fb A cQ tb N gae.loc (XG X ge gae.loc) conf) j (.send .none) s'':=q.2.2.2.2
  have hsz:(conf (j+1)).n=N:=R.size _ hj
  have hfrN:∀e∈X.fr,e.2<N:=λe he=>hsz▸(Inv.lG I.1).lZ e he
  have IX:(ar.setGen g gs').gens[g]? = some gs':=setGen_self (aM.gens _ _ (setGen_self hgs))
  have Ic:Inv X aF aH (au.cut N) (ar.setGen g gs'):=((Inv.lG a0).cut (λ_ _=>rfl) O2.undC hfrN).kl (nU a0.gens g hb)
  have cE:cQ.p (au.cut N).n aF aH:=cQ.mono (Nat.le_refl N) (λi hi=>aM.same i (by rw[hsz]; exact hi)) (λa o e=>aM.sub _ _ (I.2 a o e)) R.cE
  refine λE'=>O2.go aF aH _ v Ic cE (d.under (λ_ _=>rfl) O2.bZ) _ E' λfv cN fT gw (hf:fv = .next) dg cD=>⟨hf,?_⟩
  have ck:aD κ (fmax κ (conf (j+1)) s) (conf (j+1)) (dT s) fT gw a7 (dT cN):=(aD.dT (s:=s.setGen g .running) (aM.cut (N:=N) (Nat.le_of_eq hsz))).trans (aD.dT (s:=ar.setGen g gs') cD)
  refine O2.ns.elim λmL hL=>?_
  have eR:Inv (XG X ge gae.loc) κ gw (a7.cut N) cN:=(dg.cut (λi hi=>(ck.same i (by rw[hsz]; exact hi)).symm) O2.undC' hfrN).frame R.gK R.gF hL rfl
  have stB:=ck.Ks hsz
  rw[<- O2.eq] at eR stB
  have ma:=eR.max
  have stC:aD κ (fmax κ (conf (j+1)) s) (conf (j+1)) (dT s) κ (fmax κ (conf j) cN) (conf j) (dT cN):=stB.trans (aD.dT ma.2)
  have GU:cN.gens[g]? = some gs':=cD.gens _ _ IX
  refine hg.elim λog q2=>q2.elim λnm q2=>q2.elim λqn q2=>?_
  have isg:cN.heap.IsGen ga g:=⟨og,nm,qn,dg.froz _ _ (ck.sub _ _ ((p7 hga).trans q2.1)),q2.2⟩
  have hga':∀i c,(conf j).get i=some c->κ i≠ga:=λi c h e=>(stC.new i c h).elim (λh2=>h2.2.elim λd h2=>hga i d h2 e) λh2=>aJ (h2.symm.trans (e▸q2.1))
  have At:gC (XG X ge gae.loc) κ Fb (conf j) cN:=⟨ma.1,λa o e=>stC.sub _ _ (I.2 a o e)⟩
  exact ih (Nat.le_of_succ_le hj) cN gs' At hga' isg GU (hn _ (gC.kl (g:=(cN.setGen g .running).gens) At (nU ma.1.gens g rfl))) O1 λs' aq F' If stf hgf=>hZ s' aq F' If (stC.trans stf) λi x hi hx=>hgf i x hi (cD.gens i x (mG hi (aM.gens i x (mG hi hx))))
end
noncomputable def yW(s:Scope):Bool:=((s.kind == .function) && !s.isCoroutine) && (s.isGenerator && qu s)
noncomputable def zR(K:Frag)(f:AV):Option cG:=_root_.cond (jJ K f) ((gn K f).bind λfi=>_root_.cond (jB fi.params && yW fi.scope) (some fi) none) none
noncomputable def yX(fi:cG)(as:List AV)(ks:List (Str×AV)):Option (List (Str×AV)):=(gf (fi.params.args.map λp=>p.arg) fi.dflts as ks).bind λb=>_root_.cond (b.all λq=>fi.scope.names.lookup q.1 == some .local) (some b) none
section
variable(K:Frag)(r:Rec)
noncomputable def p8(ae:aB)(t:cC)(o:Expr)(name:Str)(args:List Expr):EM (cG×List (Str×AV)):=EM.bind (r.ev ae o) λov=>EM.bind (kq K ov name) λp=>EM.bind (ky r ae args []) λas=>EM.bind (EM.opt (zR K p.1)) λfi=>EM.bind (EM.cond (fi.body=t.body)) λ_=>EM.bind (EM.opt (yX fi (p.2++as.1) as.2)) λbinds=>EM.ret (fi,binds)
noncomputable def p9(xr:cu)(ae:aB)(G:gY)(target o:Expr)(name:Str)(args:List Expr)(body:List Stmt):EM (Option Nat):=_root_.cond ((iq o && jf args []) && il target)
 (EM.bind (p8 K r ae G.t o name args) λq=>EM.bind (EM.push (.ns q.2.reverse)) λL=>kP K r xr G.t ⟨q.1.scope,L,q.1.closure,.none,L,q.1.fz⟩ (λv=>EM.bind (cb K r ae v target) λ_=>r.aV ae body) (L+1) G.f G.k true) EM.fail
noncomputable def zS(xr:cu)(ae:aB)(G:gY)(target o:Expr)(name:Str)(args:List Expr)(body:List Stmt):EM aU:=EM.bind (p9 K r xr ae G target o name args body) λo=>aQ o (λ_=>EM.fail) (EM.ret .next)
noncomputable def zT(xr:cu)(ae:aB)(G:gY)(target o:Expr)(name:Str)(args:List Expr)(body:List Stmt):EM Nat:=EM.bind (p9 K r xr ae G target o name args body) λo=>aQ o (λe=>EM.bind (iG ae.frm e) λ_=>EM.bind (oQ ae.frm e) λ_=>EM.ret e) EM.fail
end
section
variable{X:Ctx}{A:Around}{Z:ay}{F:Fz}{J:St}{s:Shared}{Y:Kn}
theorem Inv.HN(I:Inv X Z F J s){o:Obj}{c:Code}(ho:o.isFreed=false)(tk:Nat):
  Inv X Z (F.put s.heap.objs.size o) J { s with gens:=s.gens.push (.fresh c),toks:=tk,heap:=s.heap.push o }/\aD Z F J s Z (F.put s.heap.objs.size o) J { s with gens:=s.gens.push (.fresh c),toks:=tk,heap:=s.heap.push o }:=by
 have r:=I.freeze (a:=s.heap.objs.size) (o:=o) (h':=s.heap.push o) (Heap.get?_none_of_le (Nat.le_refl _)) (λb o e=>Heap.get?_push_of_some _ e) (Heap.get?_push_size _ ho) tk
 refine⟨Inv.kl r.1 (I.gens.push rfl),⟨r.2.le,r.2.same,r.2.sub,r.2.keep,r.2.live,r.2.new,λi x e=>?_⟩⟩
 exact(Array.getElem?_push_lt (Array.getElem?_eq_some_iff.mp e).1).trans ((Array.getElem?_eq_getElem _).symm.trans e)
variable{r:Rec}{xr:cu}{m:Nat}{ae:aB}{env:Env}
structure Ca(K:Frag)(f:AV)(fi:cG):Prop where
 keep:jJ K f=true
 info:gn K f=some fi
 params:jB fi.params=true
 kind:fi.scope.kind = .function
 co:fi.scope.isCoroutine=false
 gen:fi.scope.isGenerator=true
 cells:qu fi.scope=true
theorem Fl{K:Frag}{f:AV}{fi:cG}(h:zR K f=some fi):Ca K f fi:=by
 have h0:=fg h
 refine(Option.bind_eq_some_iff.mp h0.2).elim λfi' q=>?_
 have h1:=fg q.2
 rw[<- Option.some.inj h1.2]
 have h2:=h1.1
 rw[Bool.and_eq_true,yW,Bool.and_eq_true,Bool.and_eq_true,Bool.and_eq_true,Bool.not_eq_true'] at h2
 exact⟨h0.1,q.1,h2.1,eq_of_beq h2.2.1.1,h2.2.1.2,h2.2.2.1,h2.2.2.2⟩
structure GenAt(F:Fz)(s:Shared)(c:Code)(a:Addr)(g:Nat):Prop where
 isg:s.heap.IsGen a g
 st:s.gens[g]? = some (.fresh c)
 fz:∃o,F a=some o
structure v5(X:Ctx)(fi:cG)(L:Nat)(ge:Env)(Z:ay)(F:Fz):Prop where
 frm:ge.frame=some (Z L)
 kind:ge.scope.kind = .function
 co:ge.scope.isCoroutine=false
 env:bx (XG X ge L) ⟨fi.scope,L,fi.closure,.none,L,fi.fz⟩ ge (L+1) Z F
theorem HO(hA:aN X A (m+1)){f:AV}{fv:Value}{as:List AV}{vs:List Value}{ks:List (Str×AV)}{kvs:List Value}{fi:cG}{binds:List (Str×AV)}(K:Ca X.K f fi)(hb:yX fi as ks=some binds)
  (I:Inv X Z F J s) (g:(cV f fv as vs ks kvs).p J.n Z F) {Q:Value->Shared->Prop} {E:Value->Shared->Prop}
  (hQ:∀a ar aF aH ge,GenAt aH ar (.func fi.body ge) a s.gens.size->Inv X aF aH (J.push (.ns binds.reverse)) ar->aD Z F J s aF aH (J.push (.ns binds.reverse)) ar->v5 X fi J.n ge aF aH->Q (.ref a) ar):wpAny (model X.prog X.w) A (call fv vs ((ks.map (·.1)).zip kvs)) Q E s:=by
 refine(fnAt I K.info g.1).elim λaf q=>q.elim λfo q=>q.elim λfd W=>W.dflts.elim λdv hdv=>?_
 refine(Option.bind_eq_some_iff.mp hb).elim λbs hbs=>?_
 have hbs2:=fg hbs.2
 rw[Option.some.inj hbs2.2] at hbs hbs2
 refine(xj hdv.1 g.2.1 (Pairs.uq g.2.2) hbs.1).elim λbv hbv=>?_
 let ge:Env:=newEnv fi.scope s.heap.objs.size fd.globals fd.closure (fd.qualname++".<locals>.") (some af) fd.code none fd.builtins
 have a3:∀i,i<J.n->(Z.put J.n s.heap.objs.size) i=Z i:=λi hi=>ay.fx Z _ hi
 have hput:=ay.fK Z J.n s.heap.objs.size
 have hgF:ge.frame=some ((Z.put J.n s.heap.objs.size) J.n):=by rw[hput]; rfl
 have gG:bx (XG X ge J.n) ⟨fi.scope,J.n,fi.closure,.none,J.n,fi.fz⟩ ge (J.n+1) (Z.put J.n s.heap.objs.size) F :=
  ⟨rfl,K.kind,hput.symm,Nat.lt_succ_self _,W.cY.imp λfc=>Exists.imp λes h=>⟨h.1.trans (by rw[mI λp hp=>a3 _ (W.lt p hp)]),h.2.1,h.2.2.mono (Nat.le_succ _) a3 λ_ _ e=>e⟩,λp hp=>Nat.lt_succ_of_lt (W.lt p hp),W.globals,W.builtins,hgF,Nat.lt_succ_self _,⟨_,_,rfl,rfl⟩,.inl rfl⟩
 rw[W.ref]
 have hpp:=K.params
 rw[jB,Bool.and_eq_true,Bool.and_eq_true,Bool.and_eq_true] at hpp
 refine wpAny_call (codeAny_call_generator (fd:=fd) (body:=fi.body) (Nat.lt_of_le_of_lt (Nat.le_add_right _ _) hA.1) W.at_ W.data (by rw[W.scope]; exact K.co) (by rw[W.scope]; exact K.gen) W.body W.code ?_)
 refine wX (by rw[W.params]; exact List.isEmpty_iff.mp hpp.1.1) (by rw[W.params]; exact List.isEmpty_iff.mp hpp.1.2) (by rw[W.params]; exact Option.isNone_iff_eq_none.mp hpp.2.1) (by rw[W.params]; exact Option.isNone_iff_eq_none.mp hpp.2.2) (by rw[W.params]) (hdv.2 _ _ _) hbv.1 ?_
 rw[W.scope]
 refine wpAny_newFunctionEnv (zy K.cells) (hbv.2.loc _ hbs2.1) (λh' hn hsb=>?_) K.kind
 have j0:=I.push (a:=s.heap.objs.size) (c:=.ns binds.reverse) (Heap.get?_none_of_le (Nat.le_refl _)) (λbb oo ee=>hsb.extBut bb oo (Nat.ne_of_lt (Heap.lt_size ee)) (Heap.get?_push_of_some _ ee)) (.l4 hn (hbv.2.rev.mono (Nat.le_succ _) a3 (λ_ _ e=>e)).ns) (s.toks+bv.length)
 refine⟨j0.1.limit,?_⟩
 have ma:=j0.1.HN (o:={ cls:=.type "generator",data:=.fields #[.int s.gens.size 0,.str fd.name (s.toks+bv.length),.str fd.qualname (s.toks+bv.length+1)] }) (c:=.func fi.body ge) rfl (s.toks+bv.length+1+1)
 have isg:(h'.push ({ cls:=.type "generator",data:=.fields #[.int s.gens.size 0,.str fd.name (s.toks+bv.length),.str fd.qualname (s.toks+bv.length+1)] }:Obj)).IsGen h'.objs.size s.gens.size:=⟨_,_,_,Heap.get?_push_size _ rfl,rfl,rfl,rfl⟩
 exact hQ _ _ _ _ ge ⟨isg,Array.getElem?_push_size ..,_,if_pos rfl⟩ ma.1 (j0.2.trans ma.2) ⟨hgF,K.kind,K.co,(aA (XG X ge J.n) ⟨fi.scope,J.n,fi.closure,.none,J.n,fi.fz⟩ ge).mono (Nat.le_refl _) (λ_ _=>rfl) ma.2.sub gG⟩
theorem HP(S:et X r m)(XS:ix X xr m)(hA:aN X A (m+1)){G:gY}{fi:cG}{ge:Env}{L:Nat}{bd:AV->EM aU}{tb:Value->Sem Flow}{cQ:Kn}(one:∀v w,ah X A (cQ.and (ao v w)) cn (bd v) (tb w)){jr:St}{a8:Shared}{bg:ay}{bo:Fz}{a:Addr}{gi:Nat}{C:Code}{ce:Env}(HC:v3 X A tb a C ce)
  (bG:Inv X bg bo jr a8) (st:aD Z F J s bg bo jr a8) (hga:GenAt bo a8 (.func G.t.body ge) a gi) (hgi:s.gens[gi]? = none) {nm:List (Str×AV)} (hL:jr.get L=some (.ns nm)) (hN:L+1<=jr.n) (gE:v5 X fi L ge bg bo) (cE:cQ.p jr.n bg bo) :
  ai jr (kP X.K r xr G.t ⟨fi.scope,L,fi.closure,.none,L,fi.fz⟩ bd jr.n G.f G.k true) λoF aj=>∀O1:Result->Shared->Prop,(∀s' aq F',Inv X aq F' aj s'->aD Z F J s aq F' aj s'->Df X A ce O1 oF aj.n aq F' s')->codeAny (Mo X) A C O1 a8:=by
 have roomG:∃l,lU l A.in1 m/\(XG X ge L).fr.map (·.1)=ge::l:=⟨_,⟨Nat.lt_of_le_of_lt (by show A.depth+3+4 * m<=A.depth+4 * (m+1); omega) hA.1,Nat.lt_of_le_of_lt (by show A.units+1+21+40 * m<=A.units+40 * (m+1); omega) hA.2.1,hA.2.2⟩,rfl⟩
 refine(yV (gae:=⟨fi.scope,L,fi.closure,.none,L,fi.fz⟩) (ge:=ge) ⟨S _,XS _,gE.co,gE.kind,roomG⟩ one G.k true jr).mono λoF aj T O1 hZ=>?_
 refine T.elim λn T=>T.elim λconf T=>?_
 have vt:=bG.frame (env:=ge) (i:=L) (c:=.ns nm) gE.kind gE.frm hL rfl
 have hsz:jr.n=(conf n).n:=by rw[T.1]
 have RN:l9 X r m A bg bo G.t ⟨fi.scope,L,fi.closure,.none,L,fi.fz⟩ ge cQ tb jr.n n conf oF aj:=by
  refine⟨gE.frm,gE.kind,hA,T.2,λj hj=>?_,(aA (XG X ge L) ⟨fi.scope,L,fi.closure,.none,L,fi.fz⟩ ge).mono hN (λ_ _=>rfl) (λ_ _ e=>e) gE.env,cE⟩
  refine(Nat.eq_or_lt_of_le hj).elim (λe=>by rw[e,T.1]) λhlt=>(T.2.turn j hlt).elim λv q=>q.elim λau q=>q.elim λa7 q=>by rw[q.2.eq]; rfl
 rw[<- T.1] at vt st
 have rC:=vt.max
 have At:gC (XG X ge L) bg bo (conf n) a8:=⟨rC.1,rC.2.sub⟩
 have hfresh:=RN.fresh (gC.kl (g:=(a8.setGen gi .running).gens) At (nU rC.1.gens _ rfl))
 refine RN.walk HC (g:=gi) n (Nat.le_refl n) _ _ At (λi c h=>hga.fz.elim λo e=>vt.nt e h) hga.isg hga.st hfresh O1 λs' aq F' If stf hgf=>?_
 refine hZ s' aq F' If (aD.Kp (((aD.dT st).trans (aD.dT rC.2)).trans stf) λi x hx=>hgf i x (λhi=>?_) (st.gens i x hx))
 rw[hi,hgi] at hx
 exact aJ hx
structure IY(X:Ctx)(A:Around)(ae:aB)(env:Env)(o:Expr)(name:Str)(apos pos:Pos)(args:List Expr)(t:cC)(J:St)(q:cG×List (Str×AV))(a7:St):Prop where
 body:q.1.body=t.body
 go:∀Z F s,Inv X Z F J s->(aA X ae env).p J.n Z F->∀(Q:Value->Shared->Prop) (E:Value->Shared->Prop),
  (∀a ar aF aH ge gi,GenAt aH ar (.func q.1.body ge) a gi->s.gens[gi]? = none->Inv X aF aH (a7.push (.ns q.2.reverse)) ar->aD Z F J s aF aH (a7.push (.ns q.2.reverse)) ar->v5 X q.1 a7.n ge aF aH->Q (.ref a) ar) ->
  wpAny (model X.prog X.w) A (eval (.Call (.Attribute o name apos) args [] pos) env) Q E s
theorem Fm(S:et X r m)(hA:aN X A (m+1))(t:cC)(o:Expr)(name:Str)(apos pos:Pos)(args:List Expr)(hline:apos.endLine=pos.line)(hc0:(iq o && jf args [])=true):ai J (p8 X.K r ae t o name args) (IY X A ae env o name apos pos args t J):=by
 rw[Bool.and_eq_true] at hc0
 refine ai.bind (ah.at (S.here.ev A hA.less ae env o)) λov au c1=>ai.bind (ai.all λovv=>ai.all λpl=>ah.at (X:=X) (A:=A) (ah.method (Y:=ao ov ovv) (x:=name) (pl:=pl) (Kn.le_refl _))) λp aZ c2 =>
  ai.bind (C:=λas a7=>((backTo pos (starEach args env)).any (·.1) || (backToKw pos (keywordEach [] env)).any (·.1.isNone))=false/\∀f Z F s,Inv X Z F aZ s->(aA X ae env).p aZ.n Z F->Goes X A Z F aZ s (PySem.evalArgs f true (backTo pos (starEach args env)) (backToKw pos (keywordEach [] env))) (q7 as) a7)
   (λds b ev' cs e hc=>⟨s8 pos e hc,λf=>ah.at (ah.evalArgs S.here hA.less pos args [] (Kn.le_refl (aA X ae env))) ds b ev' cs e hc⟩) λas a7 c3=>ai.opt λfi hfi=>ai.cond λhb=>ai.opt λbinds hbi=>ai.ret ?_
 have K:=Fl hfi
 refine⟨hb,λZ F s I g Q E hQ=>?_⟩
 rw[nM hc0.1 hc0.2 hline]
 refine wpAny_bind (c1 Z F s I g _ E λovv ar aF aH d1 a0 aM=>wpAny_bind (wpAny_standAt (wpAny_bind (wpAny_holding (c2 ovv _ aF aH ar a0 d1 _ E λq a8 bg bo d2 bG bC=>?_)))))
 have vr:=(aA X ae env).mono (aM.trans bC).le (aM.trans bC).same (aM.trans bC).sub g
 refine callWith_of (P:=jK X q.1) c3.1 (λ_ x=>x) (c3.2 _ bg bo a8 bG vr _ E λa cN fT gw da dg cD=>?_)
 have dq1:=Den.step d2.1 cD
 have st:=(aM.trans bC).trans cD
 refine⟨sd dg K.keep dq1,da.kw.elim λkvs q2=>?_⟩
 rw[q2.1]
 refine HO hA K hbi dg ⟨dq1,(ax.step d2.2 cD).app da.pos,q2.2⟩ λga iK kG ny ge hg eR gr gE=>hQ ga iK kG ny ge _ hg ?_ eR (st.trans gr) gE
 cases h:s.gens[cN.gens.size]? with
 | none=>rfl
 | some x=>have:=st.gens _ _ h; rw[Array.getElem?_eq_none (Nat.le_refl _)] at this; exact aJ this
theorem HQ{target:Expr}{body:List Stmt}{ce:Env}{ga:Addr}(ht:il target=true):v3 X A (λw=>assign target ce w >>= λ_=>execs body ce) ga (.forLoop target (.ref ga) body [] ce) ce:=λO1 s h=>by
 refine codeAny_of_tree ?_
 show wpAny _ A ((forTurn target (.ref ga) body [] ce).onRaise (λx=>do noteFrame x ce; theTreesLotGoes x)) _ _ s
 refine wpAny_noted (wpAny_bind (wpAny_standAt (wpAny_bind (wpAny_onRaise (wpAny_mono h (λo s' ho=>?_) λx s' hx=>wpAny_standAt hx)))))
 cases o with
 | none=>exact wpAny_pure ⟨rfl,codeAny_block (wpAny_execs_nil ho)⟩
 | some v =>
  show wpAny _ _ (letOwnedTupleGo target (.ref ga) v >>= λ_=>assign target ce v >>= λ_=>execs body ce >>= λfl=>(match fl with
   | .next | .cont=>PySem.again (.forLoop target (.ref ga) body [] ce)
   | .brk=>pure (.done .next)
   | .ret v=>pure (.done (.ret v)))) _ _ _
  rw[nO ht,<- bind_assoc (assign target ce v)]
  refine wpAny_bind (wpAny_pure (wpAny_bind (wpAny_mono (ho _) (λfl s'' q=>?_) λ_ _ e=>e)))
  rw[q.1]
  exact wpAny_pure ⟨rfl,q.2⟩
noncomputable def Dg(X:Ctx)(A:Around)(env:Env)(Q:Flow->Shared->Prop)(E:Value->Shared->Prop)(oF:Option Nat)(n:Nat)(Z:ay)(F:Fz)(s:Shared):Prop:=match oF with
 | none=>Q .next s
 | some e=>∀v,Den n Z F (.ref e) v->notedBy (Mo X) A env (λx s''=>cameBackBy (Mo X) A env E x s'') v s
theorem yg(S:et X r m)(XS:ix X xr m)(hA:aN X A (m+1))(G:gY)(target o:Expr)(name:Str)(apos pos fpos:Pos)(args:List Expr)(body:List Stmt)(hline:apos.endLine=pos.line):
  ai J (p9 X.K r xr ae G target o name args body) λoF aj=>∀Z F s,Inv X Z F J s->(aA X ae env).p J.n Z F->∀(Q:Flow->Shared->Prop) (E:Value->Shared->Prop),(∀s' aq F',Inv X aq F' aj s'->aD Z F J s aq F' aj s'->Dg X A env Q E oF aj.n aq F' s') ->
   wpAny (Mo X) A (exec (.For target (.Call (.Attribute o name apos) args [] pos) body [] fpos) env) Q E s:=by
 refine bQ (P:=λx=>ai J x λoF aj=>∀Z F s,Inv X Z F J s->(aA X ae env).p J.n Z F->∀(Q:Flow->Shared->Prop) (E:Value->Shared->Prop),(∀s' aq F',Inv X aq F' aj s'->aD Z F J s aq F' aj s'->Dg X A env Q E oF aj.n aq F' s') ->
   wpAny (Mo X) A (exec (.For target (.Call (.Attribute o name apos) args [] pos) body [] fpos) env) Q E s) (λhc0=>?_) ai.fail
 rw[Bool.and_eq_true] at hc0
 refine ai.bind (Fm (env:=env) (pos:=pos) S hA G.t o name apos args hline hc0.1) λq a7 c=>ai.push ?_
 have one:∀v w,ah X A ((aA X ae env).and (ao v w)) cn (EM.bind (cb X.K r ae v target) λ_=>r.aV ae body) (PySem.assign target env w >>= λ_=>PySem.execs body env):=λv w =>
  ah.bind (ah.assign S.here hA.less target (Kn.fst (Kn.le_refl _)) (Kn.snd (Kn.le_refl _))) λ_ _=>(S.here.aV A hA.less ae env body).weaken (Kn.fst (Kn.fst (Kn.le_refl _)))
 intro ds oF ev' cs e hc Z F s I g Q E hQ
 rw[exec_For]
 refine wpAny_bind (wpAny_standAt (wpAny_bind (c.go Z F s I g _ E λa ar aF aH ge gi hga hgi a0 aM gE=>?_)))
 show wpAny _ A (foldedSetIterable (.Call (.Attribute o name apos) args [] pos) env (.ref a) >>= _) _ _ _
 refine wpAny_bind (m:=foldedSetIterable (.Call (.Attribute o name apos) args [] pos) env (.ref a)) (wpAny_pure (wpAny_bind (wpAny_standAt (wpAny_bind (wpAny_holding (wpAny_pyIter_gen hga.isg (wpAny_runOwn (h:=none) ?_)))))))
 rw[Around.mark_none]
 rw[c.body] at hga
 have cE:(aA X ae env).p (a7.push (.ns q.2.reverse)).n aF aH:=(aA X ae env).mono aM.le aM.same aM.sub g
 refine HP S XS hA one (HQ hc0.2) a0 aM hga hgi (St.pG a7 _) (Nat.le_refl _) gE cE ds oF ev' cs e hc _ λs' aq F' If stf=>?_
 have z:=hQ s' aq F' If stf
 cases oF with
 | none=>exact z
 | some e=>exact z
theorem ah.uB(S:et X r m)(XS:ix X xr m)(hA:aN X A (m+1))(G:gY)(target o:Expr)(name:Str)(apos pos fpos:Pos)(args:List Expr)(body:List Stmt)(hline:apos.endLine=pos.line):
  bu X A ae env (zS X.K r xr ae G target o name args body) (.For target (.Call (.Attribute o name apos) args [] pos) body [] fpos):=by
 refine ah.bw λJ Z F s I g=>ai.bind (yg (env:=env) (fpos:=fpos) S XS hA G target o name apos pos args body hline) λoF aj c=>?_
 cases oF with
 | some e=>exact ai.fail
 | none=>exact ai.ret λQ E hQ=>c Z F s I g Q E λs' aq F' If stf=>hQ .next s' aq F' rfl If stf
theorem XSim.uB(S:et X r m)(XS:ix X xr m)(hA:aN X A (m+1))(G:gY)(target o:Expr)(name:Str)(apos pos fpos:Pos)(args:List Expr)(body:List Stmt)(hline:apos.endLine=pos.line):
  XSim X A (aA X ae env) (zT X.K r xr ae G target o name args body) (exec (.For target (.Call (.Attribute o name apos) args [] pos) body [] fpos) env):=λJ=>by
 refine ai.bind (yg (env:=env) (fpos:=fpos) S XS hA G target o name apos pos args body hline) λoF au c=>?_
 cases oF with
 | none=>exact ai.fail
 | some e =>
  refine ai.bind (ai.all λv=>ah.at (ah.note (X:=X) (A:=A) (Y:=(aA X ae env).and (ao (.ref e) v)) hA.2.2.2.2 (Kn.fst (Kn.le_refl _)) (Kn.snd (Kn.le_refl _)))) λ_ aZ c2=>ai.bind (zO (X:=X)) λ_ a7 c3=>ai.ret λZ F s I g Q E hE=>?_
  refine c Z F s I g Q E λs' aq F' If stf v d=>?_
  have Dh:=(aA X ae env).mono stf.le stf.same stf.sub g
  refine c2 v aq F' s' If ⟨Dh,d⟩ _ _ λ_ a8 bg bo _ bG bC=>?_
  have Di:=(aA X ae env).mono bC.le bC.same bC.sub Dh
  have gx:=Den.step d bC
  unfold cameBackBy
  rw[bx.fr Di,(dK gx).1]
  refine c3 bg bo a8 bG (bx.fl Di) _ _ _ _ λcN dg cD=>?_
  refine hE _ cN bg bo (Den.step (show Den aZ.n bg bo (.ref e) (.ref (bg e)) from⟨rfl,(dK gx).2⟩) cD) dg ((stf.trans bC).trans cD)
end
noncomputable def i6(K:Frag)(attr:Str)(av:AV):Option Str:=oH av (λC fs=>(ja K C fs attr).bind strAt) none
noncomputable def i0(K:Frag)(attr:Str)(xs:List AV):List Str:=xs.map λx=>(i6 K attr x).getD Str.empty
noncomputable def sH(sc:Scope)(x:Str):Bool:=((sc.kind == .function) && !sc.isCoroutine) && ((sc.names.all λy=>!(y.2 == .cell) && !(y.2 == .free)) && ((sc.names.lookup (".0" : Str) == some NameKind.local) && (sc.names.lookup x == some NameKind.local)))
structure A0(sc:Scope)(x:Str):Prop where
 kind:sc.kind = .function
 co:sc.isCoroutine=false
 cell:∀y∈sc.names,y.2≠.cell
 free:∀y∈sc.names,y.2≠.free
 zero:sc.names.lookup (".0" : Str)=some NameKind.local
 x:sc.names.lookup x=some NameKind.local
theorem EP{sc:Scope}{x:Str}(h:sH sc x=true):A0 sc x:=by
 rw[sH,Bool.and_eq_true,Bool.and_eq_true,Bool.and_eq_true,Bool.and_eq_true,Bool.not_eq_true',List.all_eq_true] at h
 refine⟨eq_of_beq h.1.1,h.1.2,λy hy e=>?_,λy hy e=>?_,eq_of_beq h.2.2.1,eq_of_beq h.2.2.2⟩
 ·have:=h.2.1 y hy
  rw[e] at this
  exact ff this
 ·have:=h.2.1 y hy
  rw[e] at this
  exact ff this
noncomputable def HR(c:Addr)(l:List (Nat×Cell)):Option Nat:=l.foldr (λp k=>qJ p.2 (λc' _ _=>_root_.cond (c' == c) (some p.1) k) k) none
noncomputable def yh(e:Expr):Bool:=fu e (λ_ _ _=>true) <| eC e (λ_ _=>true) false
theorem Ej{iter:Expr}{env:Env}:yh iter=true->∀x,genFold iter env x=pure x :=
 fH (P:=λb e=>b=true->∀x,genFold e env x=pure x) (λ_ _ _ _ _=>rfl) (eJ (P:=λb e=>b=true->∀x,genFold e env x=pure x) (λ_ _ _ _=>rfl) ff)
noncomputable def qQ(ae:aB):EM (Nat×Addr×Array Value):=gh ae.code (λc=>EM.bind (EM.get λJ=>HR c J.objs) λi=>EM.bind (EM.aK u6 i) λt=>EM.bind (EM.aW (t.1 == c)) λ_=>EM.bind (EM.upd λJ=>J.set i (.tab c t.2.1 none)) λ_=>EM.ret (i,c,t.2.1)) EM.fail
noncomputable def Cb(K:Frag)(r:Rec)(ae:aB)(sep:Str)(x x1:Str)(attr:Str)(iter:Expr)(gsc:Scope):EM AV:=_root_.cond ((sH gsc x && (x1 == x)) && (yh iter && !(x == ("__debug__" : Str))))
 (EM.bind (r.ev ae iter) λv=>bT v (λi=>EM.bind (dD i) λxs=>EM.bind (EM.cond ((∀y∈xs,(i6 K attr y).isSome)/\JoinOk sep (i0 K attr xs)=true/\xs.length<=1000000)) λ_=>EM.bind (qQ ae) λ_=>EM.ret (.str (Txt.join sep (i0 K attr xs)))) EM.fail) EM.fail
section
variable{X:Ctx}{A:Around}{Z:ay}{F:Fz}{J:St}{s:Shared}{Y:Kn}{r:Rec}{m:Nat}{ae:aB}{env:Env}
noncomputable def TabAt(ae:aB)(J:St)(q:Nat×Addr×Array Value)(au:St):Prop:=ae.code = .ref q.2.1/\(∃ks,J.get q.1=some (.tab q.2.1 q.2.2 ks))/\au=J.set q.1 (.tab q.2.1 q.2.2 none)
theorem FW:ai J (qQ ae) (TabAt ae J):=by
 unfold qQ
 refine gO (e:=ae.code) (P:=λy v=>ae.code=v->ai J y (TabAt ae J)) (λc hc=>?_) (λ_=>ai.fail) rfl
 exact ai.get λi _=>ai.aK xE λt ht=>ai.aW λe=>ai.upd (ai.ret ⟨hc,⟨t.2.2,by rw[<- eq_of_beq e]; exact ht⟩,rfl⟩)
theorem ai.tabOf{B:Type}{D:B->St->Prop}{f:Nat×Addr×Array Value->EM B}(h:∀q ks,ae.code = .ref q.2.1->J.get q.1=some (.tab q.2.1 q.2.2 ks)->ai (J.set q.1 (.tab q.2.1 q.2.2 none)) (f q) D):ai J (EM.bind (qQ ae) f) D :=
 ai.bind FW λq au p=>p.2.1.elim λks hk=>p.2.2▸h q ks p.1 hk
theorem HS{M:Model}{E:Value->Shared->Prop}{env:Env}{c P:Addr}{oc:Obj}{ps:Array Value}{pos:Pos}{qualname:Str}{scope:Scope}{Q:Value->Shared->Prop}(hc:env.code = .ref c)(ho:s.heap.get? c=some oc)(hh:u0 c P oc)(hP:s.heap.get? P=some (kJ ps))(ht:TriplesOk ps.toList)
  (hQ:∀code h' tk more,Heap.ExtBut P s.heap h'->h'.get? P=some (kJ (ps++more))->TriplesOk (ps++more).toList->Q code { s with heap:=h',toks:=tk }):wpAny M A (genexprCode env pos qualname scope) Q E s:=by
 cases hh with | mk h₀ Kt Ku e x y =>
 obtain⟨o,vs,file,tf,flags,tg,inF,text,tt,op,Kv,hd,h11,h2,h7,h9,h10,hr⟩:=x
 rw[<- Option.some.inj (e.symm.trans Kv)] at hd
 unfold genexprCode codeAt
 rw[hc,if_neg (show ¬ ((Value.ref c == Value.none)=true) from Bool.false_ne_true)]
 refine wpAny_bind (wpAny_fieldsOf ho hd ?_)
 rw[h11]
 refine wpAny_bind (wpAny_fieldsOf hP rfl ?_)
 cases hnf:codeAmong pos ps.toList with
 | some cv=>exact wpAny_pure (hQ cv s.heap s.toks #[] (Heap.ExtBut.refl _ _) (by rw[Array.append_empty]; exact hP) (by rw[Array.append_empty]; exact ht))
 | none =>
  rw[h2,h7,h9,h10]
  refine wpAny_bind (wpAny_newCodeX λc' P' h' tk hk hc' hP' hcode' htab' hrec'=>?_)
  have hop':=hk _ _ hP
  refine wpAny_bind (wpAny_updateFieldsOfTheText hop' rfl ?_)
  have hget:(h'.update P (Obj.mapFields (λvs=>if (codeAmong pos vs.toList).isSome=true then vs else vs++#[rawInt pos.line,rawInt pos.col,.ref c']))).get? P=some (kJ (ps++#[rawInt pos.line,rawInt pos.col,.ref c'])):=by
   rw[Heap.get?_update_self _ hop' rfl]
   show some (kJ (if (codeAmong pos ps.toList).isSome=true then ps else ps++#[rawInt pos.line,rawInt pos.col,.ref c']))=_
   rw[hnf]; rfl
  refine wpAny_bind (wpAny_fieldsOf hget rfl ?_)
  have hl:(ps++#[rawInt pos.line,rawInt pos.col,Value.ref c']).toList=ps.toList++[rawInt pos.line,rawInt pos.col,.ref c']:=Array.toList_append ..
  rw[hl,codeAmong_snoc _ ht hnf]
  exact wpAny_pure (hQ _ _ _ #[rawInt pos.line,rawInt pos.col,.ref c'] (λb o' hb e=>((Heap.SameBut.update ..).extBut b o' hb (hk b o' e))) hget (by rw[hl]; exact TriplesOk_snoc _ _ _ _ ht))
theorem yY(I:Inv X Z F J s){k:Nat}{c:Addr}{ps:Array Value}{ks:dG}(htab:J.get k=some (.tab c ps ks)){more:Array Value}{s':Shared}(keep:Heap.ExtBut (Z k) s.heap s'.heap)(hP:s'.heap.get? (Z k)=some (kJ (ps++more)))(ht:TriplesOk (ps++more).toList)
  (h1:s'.drawn=s.drawn) (h2:s'.os=s.os) (h3:AllBare s'.gens) (h4:∀(i:Nat) x,s.gens[i]? = some x->s'.gens[i]? = some x):Inv X Z F (J.set k (.tab c ps none)) s'/\aD Z F J s Z F (J.set k (.tab c ps none)) s' :=
 (I.at htab).ex λo h0 (h:jW F (Z k) c ps ks o)=>by
  cases h with | mk m0 oc e hc hh ht0 hk hi=>exact I.turn htab keep ⟨_,hP,more,oc,rfl,hc,hh,ht,(λl h=>aJ h),λl h=>aJ h⟩ rfl h1 h2 h3 h4
theorem Fn{K:Frag}{attr:Str}{av:AV}{y:Str}:i6 K attr av=some y->∃C fs,av = .obj C fs/\ja K C fs attr=some (.str y) :=
 Fv (P:=λ(o:Option Str) av=>o=some y->∃C fs,av = .obj C fs/\ja K C fs attr=some (.str y)) (λC fs h=>(Option.bind_eq_some_iff.mp h).elim λa q=>⟨C,fs,rfl,gb (P:=λ(o:Option Str) a=>ja K C fs attr=some a->o=some y->ja K C fs attr=some (.str y)) (λz h1 h2=>Option.some.inj h2▸h1) (λ_ h=>aJ h) q.1 q.2⟩) λh=>aJ h
theorem GV{prog:Program}{w:World}{A':Around}{E':Value->Shared->Prop}{K:Frag}{n:Nat}{gZ:Shared}(keepF:∀b o,F b=some o->gZ.heap.get? b=some o)(bV:K.In gZ.heap){av:AV}{v:Value}{st x attr:Str}{q1 q2:Pos}(dv:Den n Z F av v)(hst:i6 K attr av=some st){gsc:Scope}(G:A0 gsc x)(hxd:(x == ("__debug__" : Str))=false){genv:Env}(hg:genv.scope=gsc)
  {m₂:Str->Option Value} (hn:gZ.heap.Ns genv.locals m₂) (hmx:m₂ x=some v):wpAny (model prog w) A' (eval (.Attribute (.Name x q1) attr q2) genv) (λy s'=>(∃u,y = .str st u)/\Keeps gZ s') E' gZ:=by
 refine(Fn hst).elim λC q=>q.elim λfs q=>?_
 have ev_attr:eval (.Attribute (.Name x q1) attr q2) genv=(attributeBase (.Name x q1) attr genv (eval (.Name x q1) genv) >>= λo=>PySem.standAt q2.atName >>= λ_=>PySem.holding [o] (getAttr o attr true) >>= λr=>letTemporaryGo (.Name x q1) o r >>= λ_=>pure r):=rfl
 rw[ev_attr,sz rfl]
 refine wpAny_bind (wpAny_Name (wpAny_loadName_local (env:=genv) (hg▸G.kind) (by show genv.scope.names.lookup x=_; rw[hg]; exact G.x) hn hmx ?_) hxd)
 refine wpAny_bind (wpAny_standAt (wpAny_bind (wpAny_holding ?_)))
 rw[q.1] at dv
 have p:=sO q.2
 have h1:=p.1.1
 rw[plainGet,Bool.and_eq_true] at h1
 cases lD dv with | mk a d od es k e ha hd he hs =>
 refine(sN hs he p.2.1).elim λw hw=>?_
 rw[e]
 refine get_value bV (ox:=jN C d) (od:=some od) ⟨keepF _ _ ha,rfl,rfl,keepF _ _ hd⟩ (mz h1.1) (findObj_own h1.2 p.1.2 hw.1) (pN hw.2 p.2.2) ?_
 exact(lC hw.2).elim λu e=>e▸wpAny_bind (wpAny_letTemporaryGo (wpAny_pure ⟨⟨u,rfl⟩,_,_,rfl,λ_ _ e=>e⟩))
theorem ax.back{n:Nat}:∀{xs:List AV} {vs:List Value},ax n Z F xs vs->∀{i:Nat} {v:Value},vs[i]? = some v->∃av,xs[i]? = some av/\Den n Z F av v
 | [],vs,d,i,v,e=>by rw[show vs=[] from d] at e; exact aJ e
 | _::_,[],d,_,_,_=>d.elim
 | x::xs,v::vs,d,0,w,e=>⟨x,rfl,Option.some.inj e▸d.1⟩
 | x::xs,v::vs,d,i+1,w,e=>ax.back d.2 (i:=i) e
noncomputable def Cc(K:Frag)(attr:Str)(xs:List AV)(j:Nat)(y:Value):Prop:=∃av st u,xs[j]? = some av/\i6 K attr av=some st/\y = .str st u
theorem GW(n:Nat):passing (λ_=>true) n 0=List.range n:=by
 unfold passing
 rw[List.drop_zero]
 exact List.filter_eq_self.mpr λ_ _=>rfl
theorem Fo{K:Frag}{attr:Str}{xs:List AV}{l:List (Str×Tok)}{n:Nat}(hn:n=xs.length)(h1:l.length=xs.length)(h2:∀(j:Nat) v,(strValues l).toArray[j]? = some v->∃i,(List.range n)[j]? = some i/\Cc K attr xs i v):l.map (·.1)=i0 K attr xs:=by
 refine List.ext_getElem? λj=>?_
 unfold i0
 rw[List.getElem?_map,List.getElem?_map]
 rcases Nat.lt_or_ge j l.length with hj | hj
 ·have e1:(strValues l).toArray[j]? = some (.str l[j].1 l[j].2):=by simp[strValues,hj]
  refine(h2 j _ e1).elim λi q=>q.2.elim λav p=>p.elim λst p=>p.elim λu p=>?_
  have hi:j=i:=Option.some.inj ((List.getElem?_range (hn▸h1▸hj)).symm.trans q.1)
  have p1:xs[j]? = some av:=hi▸p.1
  rw[List.getElem?_eq_getElem hj,p1]
  show some l[j].1=some ((i6 K attr av).getD Str.empty)
  rw[p.2.1]
  exact congrArg some (Value.str.inj p.2.2).1
 ·rw[List.getElem?_eq_none hj,List.getElem?_eq_none (h1▸hj)]
  rfl
theorem ah.join(S:Sound X r m)(hA:aN X A (m+1))(sep x x1 attr:Str)(kk:Nat)(p0 apos pos px q1 q2 gpos:Pos)(iter:Expr)(gsc:Scope)(hline:apos.endLine=pos.line):
  bh X A ae env (Cb X.K r ae sep x x1 attr iter gsc) (.Call (.Attribute (.Constant (.str sep) kk p0) "join" apos) [.GeneratorExp (.Attribute (.Name x1 q1) attr q2) [⟨.Name x px,iter,[],0⟩] gsc gpos] [] pos):=ah.aW λhc0=>ah.bw λJ Z F s I g=>ai.bind (ah.at (S.ev A hA.less ae env iter)) λv au c1=>by
 rw[Bool.and_eq_true,Bool.and_eq_true,Bool.and_eq_true,Bool.not_eq_true'] at hc0
 rw[eq_of_beq hc0.1.2]
 have G:=EP hc0.1.1
 refine b8 (P:=λy v=>(∀Z F s,Inv X Z F J s->(aA X ae env).p J.n Z F->Goes X A Z F J s (PySem.eval iter env) (ao v) au)->ai au y λb aj=>Goes X A Z F J s _ (ao b) aj) (λi c1=>?_) (λ_=>ai.fail) c1
 refine ai.dO λxs hx hl=>ai.cond λh4=>ai.tabOf λtq ks hcode htab=>ai.ret λQ E hQ=>?_
 have hec:env.code = .ref tq.2.1:=(bx.cd g).elim (λh=>nomatch hcode.symm.trans h) λh=>h.1.trans hcode
 have gl:env.globals=mainGlobals:=bx.gl g
 have bi:env.builtins=builtinsNs:=bx.bi g
 rw[nM rfl rfl hline]
 refine wpAny_bind (Calls.Constant_str (wpAny_bind (wpAny_standAt (wpAny_bind (wpAny_holding (GM.join ?_))))))
 refine callWith_of (P:=λ_=>True) rfl (λ_ _=>⟨.machine,.inr (.inl rfl),.now⟩) ?_
 show wpAny _ _ (PySem.evalArgs _ true ((false,PySem.eval (Expr.GeneratorExp (Expr.Attribute (Expr.Name x q1) attr q2) [⟨Expr.Name x px,iter,[],0⟩] gsc gpos) env)::[]) []) _ _ _
 refine Calls.evalArgs_plain (Calls.spliced_cons ?_)
 refine wpAny_GeneratorExp_walksQ hA.2.2.1 G.co (closureFor_none G.free) G.cell G.zero G.x G.kind (Nat.lt_of_le_of_lt (Nat.le_add_right _ _) hA.1) ?_ (Ej hc0.2.1)
 refine c1 Z F _ (I.toks (s.toks+1)) g _ E λlv a8 bg bo dl bG bC=>?_
 rw[(show lv = .ref (bg i)/\i<au.n from dl).1]
 refine(bG.cA hx).elim λws q=>q.elim λkk' q=>?_
 refine wpAny_pyIter_list (items:=ws.toArray) ⟨_,q.1,rfl,kk',rfl⟩ ?_
 have dg:=(bG.grow (h':=a8.heap.push (dE (.ref (bg i)) 0)) (λb o e=>Heap.get?_push_of_some _ e) a8.toks).1
 refine⟨dg.limit,(dg.at htab).ex λMj h3 (hT:jW bo (bg tq.1) tq.2.1 tq.2.2 ks Mj)=>?_⟩
 cases hT with | mk m0 oc e hcF hh ht0 hk hi =>
 refine HS hec (dg.froz _ _ hcF) hh (e▸h3) ht0 λcode j3 Kw Ow vw vx vy=>?_
 rw[Array.append_assoc] at vx vy
 have eR:=(yY (s':={ a8 with heap:=j3,toks:=Kw }) dg htab vw vx vy rfl rfl dg.gens λ_ _ e=>e).1
 rw[gl,bi]
 refine eR.Av.here ?_
 have hIa:a8.heap.get? a8.heap.objs.size=none:=Heap.get?_none_of_le (Nat.le_refl _)
 have notI:∀b o,a8.heap.get? b=some o->b≠a8.heap.objs.size:=λb o e h=>aJ (hIa.symm.trans (h▸e))
 have hPI:a8.heap.objs.size≠bg tq.1:=(bG.kK hIa htab).symm
 have hxP:bg i≠bg tq.1:=bG.ne hx htab λe=>by rw[e] at hx; exact nomatch Option.some.inj (hx.symm.trans htab)
 have tV:∀b o,b≠bg tq.1->a8.heap.get? b=some o->j3.get? b=some o:=λb o hb e=>vw b o hb (Heap.get?_push_of_some _ e)
 have yZ:j3.get? a8.heap.objs.size=some (dE (.ref (bg i)) 0):=vw _ _ hPI (Heap.get?_push_size _ rfl)
 have y0:=tV _ _ hxP q.1
 have hst0:j3.IsListIter a8.heap.objs.size (bg i) 0/\j3.IsList (bg i) ws.toArray:=⟨⟨_,yZ,rfl,rfl⟩,⟨_,y0,rfl,kk',rfl⟩⟩
 have hsz:ws.toArray.size=xs.length:=by rw[List.size_toArray,q.2.length]
 refine⟨a8.heap.objs.size,[a8.heap.objs.size,bg i],[a8.heap.objs.size],ws.toArray.size,(λj v=>ws.toArray[j]? = some v),(λj h=>h.IsListIter a8.heap.objs.size (bg i) j/\h.IsList (bg i) ws.toArray),(λ_=>true),
  Cc X.K attr xs,rfl,λA' hA'=>Walks.list hA' _ _ (notI _ _ q.1) ws.toArray,hst0,?_,eR.limit,?_,?_,?_⟩
 ·intro b hb
  rcases List.mem_cons.mp hb with h | h
  ·exact h▸Heap.lt_size yZ
  ·exact List.mem_singleton.mp h▸Heap.lt_size y0
 ·exact λhmem=>bG.limit.elim λmc p=>p.1.elim λo p=>p.elim λes p=>p.elim λep p=>notI _ _ p.1 (List.mem_singleton.mp hmem)
 ·intro href hk
  refine⟨λA' E' j v gZ m₂ _ _ _ _ _=>?_,λA' E' j v gZ m₂ hA' hP _ hn hmx hkeep=>?_⟩
  ·rw[List.forIn_nil]
   exact wpAny_pure ⟨rfl,gZ.heap,gZ.toks,rfl,λ_ _ e=>e⟩
  ·rw[List.getElem?_toArray] at hP
   refine(q.2.back hP).elim λav ha=>(Option.isSome_iff_exists.mp (h4.1 av (List.mem_of_getElem? ha.1))).elim λst hst=>?_
   have keepF:∀b o,bo b=some o->gZ.heap.get? b=some o:=λb o e=>by
    have e2:=bG.froz b o e
    have e4:=tV b o (λhb=>bG.nt e htab hb.symm) e2
    exact hkeep b (List.mem_range.mpr (Heap.lt_size e4)) (λhm=>notI _ _ e2 (List.mem_singleton.mp hm)) o (hk b o e4)
   exact wpAny_mono (GV (x:=x) (attr:=attr) keepF (λb o e=>keepF b o (bG.base.K b o e)) ha.2 hst G hc0.2.2 rfl hn hmx) (λy s' p=>⟨p.1.elim λu e=>⟨av,st,u,ha.1,hst,e⟩,p.2⟩) λ_ _ e=>e
 ·intro a Mk tk gs hbare hlt hsz5 hkeep W4 G4
  refine Calls.spliced_nil ⟨trivial,?_⟩
  show wpAny _ A (PySem.call (.builtin "str.join") [.str sep _,.ref a]) Q E _
  rw[GW] at W4
  refine SC.joinGen W4.in4_2 (λ_ _ h=>h.1.typeIs) G4 (λb hb=>?_) (.head _) (λj v p=>p.elim λi p=>p.2.elim λav p=>p.elim λst p=>p.elim λu p=>⟨st,u,p.2.2⟩) (λs' l hm hl=>?_) ?_
  ·show b<Mk.objs.size
   have hlt':j3.objs.size<a:=hlt
   rw[hsz5]
   rcases List.mem_cons.mp hb with hb | hb
   ·rw[hb]; exact Nat.lt_succ_self a
   ·rcases List.mem_cons.mp hb with hb | hb
    ·rw[show b=j3.objs.size from hb]; exact Nat.lt_succ_of_lt hlt'
    ·exact Nat.lt_succ_of_lt (Nat.lt_trans (List.mem_range.mp hb) hlt')
  ·have h1:(strValues l).toArray.size=_:=hl.1
   rw[List.length_range,hsz,List.size_toArray] at h1
   have hlen:l.length=xs.length:=by rw[<- h1]; exact(List.length_map ..).symm
   rw[Fo hsz hlen hl.2]
   refine⟨h4.2.1,λt' k=>?_⟩
   have keepM:∀b o,j3.get? b=some o->b≠a8.heap.objs.size->s'.heap.get? b=some o:=λb o e hb=>hm.heap b o (λhmem=>by
    rcases List.mem_cons.mp hmem with h | h
    ·exact aJ ((Heap.get?_none_of_le (Nat.le_refl _)).symm.trans ((show b=j3.objs.size from h)▸e))
    ·exact hb (List.mem_singleton.mp h)) (hkeep b o e)
   have hgq:GenOnlyQ a8.gens.size (a8.gens.push gs) s'.gens:=hm.gens
   have hg':∀(i:Nat) x,a8.gens[i]? = some x->s'.gens[i]? = some x:=λi x e=>by
    have hlt:=(Array.getElem?_eq_some_iff.mp e).1
    have e':(a8.gens.push gs)[i]? = some x:=(Array.getElem?_push_lt hlt).trans ((Array.getElem?_eq_getElem hlt).symm.trans e)
    exact hgq.elim (λh=>h▸e') λh=>(h.1.2 i (Nat.ne_of_lt hlt)).trans e'
   have r:=yY (s':={ s' with toks:=k }) bG htab (λb o hb e=>keepM b o (tV b o hb e) (notI b o e)) (keepM _ _ vx hPI.symm) vy hm.drawn hm.os (hgq.bare (bG.gens.push hbare)) hg'
   exact hQ _ _ bg bo ⟨_,rfl⟩ r.1 (((aD.toks I.ids (s.toks+1)).trans bC).trans r.2)
  ·rw[List.length_range,hsz]
   exact Nat.le_trans h4.2.2 (by decide)
end
noncomputable def GX(c:Addr)(l:List (Nat×Cell)):Option Nat:=l.foldr (λp k=>qJ p.2 (λc' _ ks=>_root_.cond (c' == c && ks.isSome) (some p.1) k) k) none
noncomputable def plainDef(args:Arguments):Prop:=∀env,annTrees args none env=[]/\defaultsOf args env=([],[])
noncomputable def keyOf(pos:Pos)(name:Str):(Int×Int)×Str:=(((pos.line:Int),(pos.col:Int)),name)
noncomputable def Cd(i:Nat)(c:Addr)(name:Str)(pos:Pos)(t:Addr×Array Value×dG)(l:List ((Int×Int)×Str)):EM Unit:=_root_.cond (l.contains (keyOf pos name)) (EM.ret ())
 (_root_.cond (!(l.any λk=>k.1 == ((pos.line:Int),(pos.col:Int)))) (EM.upd λJ=>J.set i (.tab c t.2.1 (some (keyOf pos name::l)))) EM.fail)
noncomputable def v7(ae:aB)(name:Str)(args:Arguments)(body:List Stmt)(sc:Scope)(pos:Pos):EM aU:=gh ae.code (λc=>EM.bind (EM.opt (ow ae sc)) λcl=>EM.bind (EM.aW ((docOf body).isNone && !(ae.scope.names.lookup name == some .globalExplicit))) λ_=>EM.bind (EM.get λJ=>GX c J.objs) λi=>EM.bind (EM.aK u6 i) λt=>EM.bind (EM.aW (t.1 == c)) λ_ =>
 EM.bind (EM.opt t.2.2) λl=>EM.bind (Cd i c name pos t l) λ_=>EM.bind (EM.cond (plainDef args)) λ_=>EM.bind (fe ae name (.cY name args body sc cl [])) λ_=>EM.ret .next) EM.fail
theorem En{pos:Pos}{c:Value}(r:List Value)(l:List Value)(h:TriplesOk l)(hn:codeAmong pos l=some c):codeAmong pos (l++r)=some c:=by
 fun_induction TriplesOk l with
 | case1=>exact aJ hn
 | case2 a t b u x rest ih =>
  simp only[List.cons_append,codeAmong] at hn ⊢
  split at hn
  ·rename_i hc; rw[if_pos hc]; exact hn
  ·rename_i hc; rw[if_neg hc]; exact ih h hn
 | case3 l h1 h2=>exact h.elim
theorem yi(i:Nat)(c c':Cell):∀l:List (Nat×Cell),cP (cP l i c) i c' = cP l i c'
 | []=>rfl
 | p::l=>by
  cases e:Nat.beq p.1 i with
  | true =>
   have e1:cP (p::l) i c=(i,c)::l:=by unfold cP; rw[e]
   have e2:cP (p::l) i c' = (i,c')::l:=by unfold cP; rw[e]
   rw[e1,e2]
   unfold cP
   rw[Nat.beq_refl]
  | false =>
   have e1:cP (p::l) i c=p::cP l i c:=by conv=>lhs; unfold cP; rw[e]
   have e2:cP (p::l) i c' = p::cP l i c':=by conv=>lhs; unfold cP; rw[e]
   rw[e1,e2]
   have e3:cP (p::cP l i c) i c' = p::cP (cP l i c) i c':=by conv=>lhs; unfold cP; rw[e]
   rw[e3,yi i c c' l]
theorem St.set_set(J:St)(i:Nat)(c c':Cell):(J.set i c).set i c' = J.set i c':=congrArg (St.mk J.n) (yi i c c' J.objs)
theorem Ek{pos p0:Pos}{c:Value}(l:List Value)(h:TriplesOk l)(hn:codeAmong pos l=none)(hne:¬ ((p0.line:Int)=pos.line/\(p0.col:Int)=pos.col)):codeAmong pos (l++[rawInt p0.line,rawInt p0.col,c])=none:=by
 fun_induction TriplesOk l with
 | case1 =>
  simp only[List.nil_append,codeAmong,rawInt]
  rw[if_neg]
  simpa using hne
 | case2 a t b u x rest ih =>
  simp only[List.cons_append,codeAmong] at hn ⊢
  split at hn
  ·exact aJ hn.symm
  ·rename_i hc; rw[if_neg hc]; exact ih h hn
 | case3 l h1 h2=>exact h.elim
section
variable{X:Ctx}{A:Around}{Z:ay}{F:Fz}{J:St}{s:Shared}{Y:Kn}{ae:aB}{env:Env}
theorem zU{h:Heap}{c P:Addr}{oc:Obj}{ps:Array Value}(hh:u0 c P oc)(ho:h.get? c=some oc)(hP:h.get? P=some (kJ ps))(ht:TriplesOk ps.toList):h.IsCode c P ps/\h.TableAt c P ps:=by
 cases hh with | mk h₀ Kt Ku e x y =>
 obtain⟨o,vs,file,tf,flags,tg,inF,text,tt,op,a,r1,r2,r3,r4,r5,r6,_,_,_,hne⟩:=x
 refine⟨⟨oc,vs,file,tf,flags,tg,inF,text,tt,_,ho,Option.some.inj (a.symm.trans e)▸r1,r2,r3,r4,r5,r6,hP,rfl,ht,hne⟩,y.1.elim λo q=>q.elim λvs q=>⟨o,vs,Option.some.inj (e.symm.trans q.1)▸ho,q.2⟩,hP⟩
structure uC(X:Ctx)(Z:ay)(F:Fz)(J:St)(s:Shared)(q:Str)(aj:St)(cc:Value)(s':Shared)(F':Fz):Prop where
 inv:Inv X Z F' aj s'
 stp:aD Z F J s Z F' aj s'
 fz:d7 F' cc q
theorem d7.eq{c:Value}{q q':Str}(h:d7 F c q)(h':d7 F c q'):q=q':=by
 cases h with | mk c o vs t e h hd hq =>
 cases h' with | mk c' o' vs' t' e' h' hd' hq' =>
 rw[e] at e'
 rw[<- Value.ref.inj e',h] at h'
 rw[<- Option.some.inj h',hd] at hd'
 rw[<- Data.fields.inj hd',hq] at hq'
 exact(Value.str.inj (Option.some.inj hq')).1
theorem HT{i:Nat}{c:Addr}{name:Str}{pos:Pos}{t:Addr×Array Value×dG}{l:List ((Int×Int)×Str)}(htab:J.get i=some (.tab c t.2.1 (some l)))(hec:env.code = .ref c){q0:Str}(hq0:env.qual=q0++".<locals>.")(hf0:d7 F env.code q0)
  {args:Arguments} {sc:Scope} {body:FuncBody}:ai J (Cd i c name pos t l) (λ_ aj=>∀s:Shared,Inv X Z F J s->∀(E:Value->Shared->Prop) (Q:Value->Shared->Prop),(∀cc s' F',uC X Z F J s (env.qual++name) aj cc s' F'->Q cc s')->wpAny (model X.prog X.w) A (functionCode env pos pos.line name (env.qual++name) args sc body) Q E s):=by
 refine bQ (P:=λx=>ai J x (λ_ aj=>∀s:Shared,Inv X Z F J s->∀(E:Value->Shared->Prop) (Q:Value->Shared->Prop),(∀cc s' F',uC X Z F J s (env.qual++name) aj cc s' F'->Q cc s')->wpAny (model X.prog X.w) A (functionCode env pos pos.line name (env.qual++name) args sc body) Q E s)) (λhin=>ai.ret λs I E Q hQ=>?_)
  (bQ (P:=λx=>ai J x (λ_ aj=>∀s:Shared,Inv X Z F J s->∀(E:Value->Shared->Prop) (Q:Value->Shared->Prop),(∀cc s' F',uC X Z F J s (env.qual++name) aj cc s' F'->Q cc s')->wpAny (model X.prog X.w) A (functionCode env pos pos.line name (env.qual++name) args sc body) Q E s)) (λhno=>ai.gX λs I E Q hQ=>?_) ai.fail)
 ·refine(I.at htab).ex λv8 h0 (hT:jW F (Z i) c t.2.1 (some l) v8)=>?_
  cases hT with | mk more oc e hcF hh ht nk ki =>
  rw[e] at h0
  have ic:=zU hh (I.froz _ _ hcF) h0 ht
  cases ki l rfl _ (List.contains_iff_mem.mp hin) with | mk cc q1 h hc he =>
  have e1:q1=q0:=h.eq (hec▸hf0)
  rw[e1,<- hq0] at hc
  unfold functionCode
  exact wpAny_codeAt_hit hec ic.1 (he pos rfl) (hQ cc s F ⟨I,aD.refl Z F I.ids,hc⟩)
 ·refine(I.at htab).ex λv8 h0 (hT:jW F (Z i) c t.2.1 (some l) v8)=>?_
  cases hT with | mk more oc e hcF hh ht nk ki =>
  rw[e] at h0
  have ic:=zU hh (I.froz _ _ hcF) h0 ht
  have hk:∀p2:Pos,((p2.line:Int),(p2.col:Int))=((pos.line:Int),(pos.col:Int))->((p2.line:Int),(p2.col:Int)) ∉ l.map (·.1):=λp2 e2 hm=>(List.mem_map.mp hm).elim λk q=>by
   rw[Bool.not_eq_true'] at hno
   have:(l.any λk=>k.1 == ((pos.line:Int),(pos.col:Int)))=true:=List.any_eq_true.mpr ⟨k,q.1,by rw[q.2,e2]; exact beq_self_eq_true _⟩
   exact ff (hno.symm.trans this)
  refine wpAny_functionCodeX hec ic.1 ic.2 (nk l rfl pos (hk pos rfl)) λcc cX tk hx hge hlt OB hrec IZ htb=>?_
  have hl2:((t.2.1++more)++#[rawInt pos.line,rawInt pos.col,Value.ref cc]).toList=(t.2.1++more).toList++[rawInt pos.line,rawInt pos.col,.ref cc]:=Array.toList_append ..
  have Ce:Bx ((t.2.1++more)++#[rawInt pos.line,rawInt pos.col,.ref cc]).toList (some (keyOf pos name::l)):=λl' e' p2 hp2=>by
   rw[<- Option.some.inj e',List.map_cons,List.mem_cons,not_or] at hp2
   rw[hl2]
   exact Ek _ ht (nk l rfl p2 hp2.2) λq=>hp2.1 (by rw[<- q.1,<- q.2]; rfl)
  have vz:TriplesOk ((t.2.1++more)++#[rawInt pos.line,rawInt pos.col,.ref cc]).toList:=by rw[hl2]; exact TriplesOk_snoc _ _ _ _ ht
  have vA:cX.get? (Z i)=some (kJ ((t.2.1++more)++#[rawInt pos.line,rawInt pos.col,.ref cc])):=IZ.2
  have dR:=I.turn (c':=.tab c t.2.1 none) (s':={ s with heap:=cX,toks:=tk }) htab hx ⟨_,vA,more++#[rawInt pos.line,rawInt pos.col,.ref cc],oc,by rw[Array.append_assoc],hcF,hh,by rw[<- Array.append_assoc]; exact vz,(λl h=>aJ h),λl h=>aJ h⟩ rfl rfl rfl I.gens (λ_ _ e=>e)
  refine hrec.elim λc2' q=>q.elim λoc2 q=>q.elim λvs q=>q.elim λtq q=>?_
  rw[<- Value.ref.inj q.1] at q
  have cq:=dR.1.kh q.2.1 λj d hj=>(St.lI htab hj).elim λd' hd=>I.kK (Heap.get?_none_of_le hge) hd
  have hfc:d7 (F.put cc oc2) (.ref cc) (env.qual++name):=⟨cc,oc2,vs,tq,rfl,if_pos rfl,q.2.2.1,q.2.2.2⟩
  have Cf:By (F.put cc oc2) c ((t.2.1++more)++#[rawInt pos.line,rawInt pos.col,.ref cc]).toList (some (keyOf pos name::l)):=λl' e' k hk'=>by
   rw[<- Option.some.inj e'] at hk'
   rw[hl2]
   cases hk' with
   | head=>exact⟨.ref cc,q0,hec▸hf0.mono cq.2.sub,by rw[<- hq0]; exact hfc,λp2 e2=>by
    have e3:p2.line=pos.line:=Int.ofNat.inj (congrArg Prod.fst e2)
    have e4:p2.col=pos.col:=Int.ofNat.inj (congrArg Prod.snd e2)
    rw[<- e3,<- e4]
    exact codeAmong_snoc _ ht (nk l rfl p2 (hk p2 e2))⟩
   | tail _ hk' =>
    cases ki l rfl k hk' with | mk cc' q' g1 g2 g3=>exact⟨cc',q',g1.mono cq.2.sub,g2.mono cq.2.sub,λp2 e2=>En _ _ ht (g3 p2 e2)⟩
  rw[Array.append_assoc] at vA vz Ce Cf
  have fC:=cq.1.turn (i:=i) (c:=.tab c t.2.1 none) (c':=.tab c t.2.1 (some (keyOf pos name::l))) (St.pH _ htab) (s':={ s with heap:=cX,toks:=tk }) (λ_ _ _ e=>e) ⟨_,vA,more++#[rawInt pos.line,rawInt pos.col,.ref cc],oc,rfl,cq.2.sub _ _ hcF,hh,vz,Ce,Cf⟩ rfl rfl rfl cq.1.gens (λ_ _ e=>e)
  rw[St.set_set] at fC
  exact hQ _ _ _ ⟨fC.1,(dR.2.trans cq.2).trans fC.2,hfc⟩
theorem ah.defn(L:ey X)(name:Str)(args:Arguments)(body:List Stmt)(sc:Scope)(pos:Pos):bu X A ae env (v7 ae name args body sc pos) (.FunctionDef name args body [] none [] sc none name pos):=by
 unfold v7
 refine gO (e:=ae.code) (P:=λy v=>ae.code=v->bu X A ae env y (.FunctionDef name args body [] none [] sc none name pos)) (λc hcode=>?_) (λ_=>ah.fail) rfl
 refine ah.bw λJ Z F s I g=>ai.opt λcl hfree=>ai.aW λhdoc=>ai.get λi hf=>ai.aK xE λt htab=>ai.aW λhc=>ai.opt λl hl=>?_
 have hcd:=(bx.cd g).elim (λh=>nomatch hcode.symm.trans h) id
 have hec:env.code = .ref c:=hcd.1.trans hcode
 rw[eq_of_beq hc,hl] at htab
 rw[Bool.and_eq_true,Bool.not_eq_true'] at hdoc
 refine hcd.2.elim λq0 hq0=>?_
 refine ai.bind (HT (X:=X) (A:=A) (Z:=Z) (name:=name) (pos:=pos) (args:=args) (sc:=sc) (body:=.stmts body) htab hec hq0.1 hq0.2) λ_ au c1=>ai.cond λhp=>ai.bind (ai.all λfv=>ah.at (X:=X) (A:=A) (ah.bindName (env:=env) (y:=name) (Y:=(aA X ae env).and (ao (.cY name args body sc cl []) fv)) (Kn.fst (Kn.le_refl _)) (Kn.snd (Kn.le_refl _)))) λ_ aZ c2=>ai.ret λQ E hQ=>?_
 have gl:env.globals=mainGlobals:=bx.gl g
 have bi:env.builtins=builtinsNs:=bx.bi g
 have hqn:qualnameIn env name name=env.qual++name:=by
  unfold qualnameIn Env.kindOf
  rw[bx.sc g,hdoc.2]
  rfl
 rw[exec_def,(hp env).1,(hp env).2]
 refine wpAny_bind (wpAny_standAt (wpAny_bind (wpAny_holding ?_)))
 refine wpAny_bind (wpAny_pure (wpAny_bind (wpAny_holding (wpAny_pure (wpAny_holding (wpAny_bind (wpAny_pure ?_)))))))
 rw[makeFunction_eq]
 simp only[List.zip_nil_right,List.filterMap_nil,List.isEmpty_nil,if_true,pure_bind]
 rw[hqn]
 show wpAny _ A (makeTail name (env.qual++name) args (.stmts body) sc env .none .none none pos pos.line) _ _ s
 unfold makeTail
 refine wpAny_bind (m:=closureFor sc env) ?_
 rw[ye g hfree]
 refine wpAny_pure ?_
 have key:∀(K:Value->Sem Value) (P:Value->Shared->Prop),(∀ct h₀,(∀b o,s.heap.get? b=some o->h₀.get? b=some o)->wpAny (model X.prog X.w) A (K ct) P E { s with heap:=h₀ }) ->
   wpAny (model X.prog X.w) A (if (b4 Z cl).isEmpty=true then pure .none >>= K else newTextTuple (((b4 Z cl).mergeSort λa b=>a.1.cps.toList<=b.1.cps.toList).map (.ref ·.2)) >>= K) P E s:=λK P hP =>
  ra (P:=λt=>wpAny (model X.prog X.w) A t P E s) (λ_=>wpAny_bind (wpAny_pure (hP _ s.heap λ_ _ e=>e))) λ_=>wpAny_bind (wpAny_newTextTuple (hP _ _ λb o e=>Heap.get?_push_of_some _ e))
 refine key _ _ λct h₀ Kx=>?_
 have Dj:=I.grow Kx s.toks
 refine wpAny_bind (c1 _ Dj.1 _ _ λcc ar aH dR=>?_)
 rw[gl,bi]
 refine wpAny_bind (dR.inv.Av.here ?_)
 refine L.nm.elim λvn hvn=>wpAny_bind ((Looks.of_peek (M:=model X.prog X.w) dR.inv.bV hvn).here ?_)
 dsimp only
 rw[Option.isNone_iff_eq_none.mp hdoc.1]
 refine wpAny_bind (wpAny_pure ?_)
 simp only[newObj]
 refine wpAny_bind (wpAny_alloc (wpAny_pure ?_))
 have fC:=dR.inv.freeze (a:=ar.heap.objs.size) (o:={ cls:=.type "function",data:=.func (tr name (env.qual++name) args body sc (b4 Z cl) (vn.getD .none) cc ct) }) (h':=ar.heap.push { cls:=.type "function",data:=.func (tr name (env.qual++name) args body sc (b4 Z cl) (vn.getD .none) cc ct) }) (Heap.get?_none_of_le (Nat.le_refl _)) (λb o e=>Heap.get?_push_of_some _ e) (Heap.get?_push_size _ rfl) ar.toks
 have st03:=(Dj.2.trans dR.stp).trans fC.2
 have hcl:∀p∈cl,p.2<J.n:=pW (bx.cl g) sc.names [] cl (fg hfree).2 (λp hp=>nomatch hp)
 refine wpAny_bind (wpAny_standAt (wpAny_bind ?_))
 refine c2 (.ref ar.heap.objs.size) Z _ _ fC.1 ⟨(aA X ae env).mono st03.le st03.same st03.sub g,⟨ar.heap.objs.size,env.qual++name,_,vn.getD .none,cc,ct,[],[],rfl,if_pos rfl,rfl,by rw[List.append_nil],dR.fz.mono fC.2.sub,λp hp=>Nat.lt_of_lt_of_le (hcl p hp) st03.le,trivial,(a6.nil:a6 0 Z F [] [])⟩⟩ _ E λ_ iK kG ny _ eR gr=>?_
 exact wpAny_pure (hQ _ iK kG ny rfl eR (st03.trans gr))
end
noncomputable def vB(a:AV):Bool:=cM a (λ_=>true) <| onStr a (λ_=>true) <| oh a (λ_=>true) <| tI a
noncomputable def kH(d:Nat):AV->Bool:=Nat.rec (motive:=λ_=>AV->Bool) vB (λ_ ih a=>iC a (λxs=>xs.all ih) (vB a)) d
noncomputable def Cg(k:Int)(xs:List AV):Option Bool:=xs.foldr (λa o=>cM a (λj=>o.map λr=>j == k || r) none) (some false)
noncomputable def Ml(i j:Nat):EM AV:=EM.bind (dD i) λxs=>EM.bind (dD j) λys=>EM.bind (EM.word λw=>lX w some none) λd=>_root_.cond d (EM.bz (xs=ys/\xs.all (kH 3)=true) (.bool true)) (EM.bz (xs.length≠ys.length) (.bool false))
noncomputable def Mm(i j:Nat):EM AV:=EM.bind (dD i) λxs=>EM.bind (dD j) λys=>EM.bz (xs=ys/\xs.all (kH 3)=true) (.bool false)
noncomputable def Dk(a:AV)(ys:List AV):EM AV:=onStr a (λx=>EM.bz (∀y∈ys,(strAt y).isSome) (.bool ((fN ys).any λy=>y == x))) EM.fail
noncomputable def rl(K:Frag)(op:CmpOp)(a b:AV):EM AV:=eM b (λv=>cg op .In (CZ K a v) (ry op a b)) <| bT a (λi=>bT b (λj=>cg op .Eq (Ml i j) (cg op .NotEq (Mm i j) EM.fail)) (ry op (.ref i) b)) <| jP b (λys=>cg op .In (Dk a ys) EM.fail) <| iC b (λxs=>cg op .In (cM a (λk=>EM.bind (EM.opt (Cg k xs)) λb=>EM.ret (.bool b)) EM.fail) EM.fail) (ry op a b)
noncomputable def Ci(a b:AV):EM AV:=iC a (λxs=>iC b (λys=>EM.bind (EM.cond (xs.isEmpty=false/\ys.isEmpty=false)) λ_=>jD (xs++ys)) EM.fail) <| bT a (λi=>bT b (λj=>EM.bind (dD i) λxs=>EM.bind (dD j) λys=>iX (xs++ys)) EM.fail) <| jP a (λxs=>bT b (λj=>EM.bind (dD j) λys=>iX (xs++ys)) EM.fail) (vU .Add a b)
noncomputable def rm(op:Operator)(a b:AV):EM AV:=cg op .Add (Ci a b) (vU op a b)
section
variable{X:Ctx}{A:Around}{Z:ay}{F:Fz}{J:St}{s:Shared}{Y:Kn}
theorem yj{n:Nat}{A:Around}{a:AV}{v w:Value}:vB a=true->Den n Z F a v->Den n Z F a w->SeqAt.EqAt A s v w true :=
 fJ (P:=λb a=>b=true->Den n Z F a v->Den n Z F a w->SeqAt.EqAt A s v w true) (λi _ (dv:∃t,v = .int i t) (dw:∃t,w = .int i t)=>dv.elim λt e=>dw.elim λu e'=>by have:=SeqAt.EqAt.int_int (A:=A) (s:=s) i t i u; rw[beq_self_eq_true] at this; rw[e,e']; exact this) <|
 gb (P:=λb a=>b=true->Den n Z F a v->Den n Z F a w->SeqAt.EqAt A s v w true) (λi _ (dv:∃t,v = .str i t) (dw:∃t,w = .str i t)=>dv.elim λt e=>dw.elim λu e'=>by have:=SeqAt.EqAt.str_str (A:=A) (s:=s) i t i u; rw[beq_self_eq_true] at this; rw[e,e']; exact this) <|
 xq (P:=λb a=>b=true->Den n Z F a v->Den n Z F a w->SeqAt.EqAt A s v w true) (λi _ (dv:v = .bool i) (dw:w = .bool i)=>by rw[dv,dw]; exact SeqAt.EqAt.same _) λh dv dw=>by rw[sD h dv,sD h dw]; exact SeqAt.EqAt.same _
theorem ax.both{n:Nat}{xs:List AV}{vs ws:List Value}(dv:ax n Z F xs vs)(dw:ax n Z F xs ws){P:Value->Value->Prop}(h:∀a∈xs,∀v w,Den n Z F a v->Den n Z F a w->P v w)(j:Nat)(h1:j<vs.toArray.size)(h2:j<ws.toArray.size):P vs.toArray[j] ws.toArray[j] :=
 (dv.back (i:=j) (v:=vs.toArray[j]) (List.getElem?_eq_getElem (by rw[List.size_toArray] at h1; exact h1))).elim λa p=>(dw.fX p.1).elim λw q=>by
  have hw:some w=some ws.toArray[j]:=q.1.symm.trans (List.getElem?_eq_getElem (by rw[List.size_toArray] at h2; exact h2))
  exact h a (List.mem_of_getElem? p.1) _ _ p.2 (Option.some.inj hw▸q.2)
theorem ax.isEmpty{n:Nat}:∀{xs:List AV} {vs:List Value},ax n Z F xs vs->xs.isEmpty=vs.isEmpty
 | [],vs,d=>by rw[show vs=[] from d]; rfl
 | _::_,[],d=>d.elim
 | _::_,_::_,_=>rfl
theorem in1_units(O2:Around):O2.in1.units<=O2.units+1:=by cases O2; exact Nat.le_refl _
theorem yk{n:Nat}(hf:∀a o,F a=some o->s.heap.get? a=some o)(d:Nat):∀(A:Around) (a:AV) (v w:Value),A.units+d<cLine->kH d a=true->Den n Z F a v->Den n Z F a w->SeqAt.EqAt A s v w true:=by
 induction d with
 | zero=>exact λA a v w _ h=>yj h
 | succ d ih =>
  intro A a v w hu
  refine jC (P:=λb a=>b=true->Den n Z F a v->Den n Z F a w->SeqAt.EqAt A s v w true) (λxs h dv dw=>?_) yj
  cases fL dv with | mk a vs k e ha hvs =>
  cases fL dw with | mk b ws k2 e2 hb hws =>
  rw[e,e2]
  by_cases hab:a=b
  ·rw[hab]; exact SeqAt.EqAt.same _
  ·have key:=SeqAt.RcAt.tuples (A:=A) (s:=s) (l:=a) (b:=b) (items:=vs.toArray) (items2:=ws.toArray) (e:=λ_=>true) ⟨_,hf _ _ ha,rfl,_,rfl⟩ ⟨_,hf _ _ hb,rfl,_,rfl⟩ (Nat.lt_of_le_of_lt (Nat.le_add_right _ _) hu)
    (ax.both hvs hws λx hx v w=>ih A.in1 x v w (Nat.lt_of_le_of_lt (Nat.le_trans (Nat.add_le_add_right (in1_units A) d) (Nat.le_of_eq (Nat.succ_add _ _))) hu) (List.all_eq_true.mp h x hx))
   have e1:((List.range (min vs.toArray.size ws.toArray.size)).all (λ_=>true) && vs.toArray.size == ws.toArray.size)=true:=by
    rw[List.size_toArray,List.size_toArray,<- hvs.length,<- hws.length,beq_self_eq_true,Bool.and_true]
    exact List.all_eq_true.mpr λ_ _=>rfl
   rw[e1] at key
   exact SeqAt.EqAt.of_refs hab key
noncomputable def pz(k:Int)(v:Value):Bool:=match v with | .int j _=>j == k | _=>false
theorem yl{n:Nat}{k:Int}{t:Tok}:∀{xs:List AV} {vs:List Value} {b:Bool},ax n Z F xs vs->Cg k xs=some b->vs.any (pz k)=b/\∀A:Around,∀y∈vs,SeqAt.EqAt A s y (.int k t) (pz k y)
 | [],vs,b,d,h=>by rw[show vs=[] from d]; exact⟨Option.some.inj h,λ_ y hy=>nomatch hy⟩
 | _::_,[],_,d,_=>d.elim
 | a::xs,v::vs,b,d,h=>fJ (P:=λ(o:Option Bool) a=>o=some b->Den n Z F a v->(v::vs).any (pz k)=b/\∀A:Around,∀y∈v::vs,SeqAt.EqAt A s y (.int k t) (pz k y)) (λj h (dv:∃t,v = .int j t)=>(Option.map_eq_some_iff.mp h).elim λc q=>dv.elim λu e=>by
   have ih:=yl (t:=t) d.2 q.1
   rw[List.any_cons,ih.1,e]
   exact⟨q.2,λA y hy=>(List.mem_cons.mp hy).elim (λe=>by rw[e]; exact SeqAt.EqAt.int_int _ _ _ _) (ih.2 A y)⟩) (λh=>aJ h) h d.1
theorem xn:∀l:List (Str×Tok),strsOf (strValues l)=some (l.map (·.1))
 | []=>rfl
 | p::l=>by
  show(strsOf (strValues l)).map (p.1::·)=_
  rw[xn l]
  rfl
theorem ah.NY{a:AV}{v w:Value}{ys:List AV}(ha:Y.le (ao a v))(hb:Y.le (ao (.lst ys) w)):ah X A Y ao (Dk a ys) (compareOp .In v w) :=
 ah.i5 (λv=>compareOp .In v w) ha (λx t=>ah.jL λhy Z F J s I g=>by
  cases iu (hb _ _ _ g) with | mk a ws k e hF ds =>
  obtain⟨l,el,e2⟩:=tO ds hy
  have k:=te (s:=s) (x:=x) (t:=t) (xn l)
  subst el
  rw[e]
  refine Goes.same I λQ E hQ=>SeqAt.in_listAt (items:=(strValues l).toArray) (m7 x) ⟨_,I.froz _ _ hF,rfl,_,rfl⟩ (λy hy=>k.2 _ y (List.mem_toArray.mp hy)) ?_
  rw[List.any_toArray,k.1,e2]
  exact hQ _ rfl) ah.fail
theorem ah.Dl{op:CmpOp}{a b:AV}{v w:Value}(hA:A.units+10<cLine)(ha:Y.le (ao a v))(hb:Y.le (ao b w)):ah X A Y ao (rl X.K op a b) (compareOp op v w):=by
 refine ip (P:=λx b=>Y.le (ao b w)->ah X A Y ao x (compareOp op v w)) (λu hb'=>b9 (P:=λx op=>ah X A Y ao x (compareOp op v w)) (ah.cz (P:=w=u) (λ_ _ _ g=>hb' _ _ _ g) λe=>e▸ah.dj ha) (ah.cmp ha hb)) (λhb=>?_) hb
 refine b8 (P:=λx a=>Y.le (ao a v)->ah X A Y ao x (compareOp op v w)) (λi ha=>?_) (λha=>?_) ha
 ·refine b8 (P:=λx b=>Y.le (ao b w)->ah X A Y ao x (compareOp op v w)) (λj hb=>?_) (λhb=>ah.cmp ha hb) hb
  refine b9 (P:=λx op=>ah X A Y ao x (compareOp op v w)) (ah.bw λJ Z F s I g=>ai.dO λxs hx hl=>ai.dO λys hy hl2=>ai.word λd=>?_) (b9 (P:=λx op=>ah X A Y ao x (compareOp op v w)) (ah.bw λJ Z F s I g=>ai.dO λxs hx hl=>ai.dO λys hy hl2=>ai.bz λh=>?_) ah.fail)
  rotate_left
  ·rw[(show v = .ref (Z i)/\i<J.n from ha _ _ _ g).1,(show w = .ref (Z j)/\j<J.n from hb _ _ _ g).1]
   rw[<- h.1] at hy
   refine(I.cA hx).elim λvs q=>q.elim λk1 q=>(I.cA hy).elim λws p=>p.elim λk2 p=>Goes.same I λQ E hQ=>?_
   refine SeqAt.RcNeAt.lists (items:=vs.toArray) (items2:=ws.toArray) (e:=λ_=>true) ⟨_,q.1,rfl,_,rfl⟩ ⟨_,p.1,rfl,_,rfl⟩ (by rw[List.size_toArray,List.size_toArray,<- q.2.length,p.2.length]) (Nat.lt_of_le_of_lt (Nat.le_add_right _ _) hA)
    (ax.both q.2 p.2 λx hx v w=>yk I.froz 3 A.in1 x v w (Nat.lt_of_le_of_lt (Nat.le_trans (Nat.add_le_add_right (in1_units A) 3) (by rw[Nat.add_assoc]; exact Nat.add_le_add_left (by decide) _)) hA) (List.all_eq_true.mp h.2 x hx)) _ _ _ _ ?_
   rw[show((List.range vs.toArray.size).all λ_=>true)=true from List.all_eq_true.mpr λ_ _=>rfl]
   exact hQ _ rfl
  rw[(show v = .ref (Z i)/\i<J.n from ha _ _ _ g).1,(show w = .ref (Z j)/\j<J.n from hb _ _ _ g).1]
  refine bQ (P:=λx=>ai J x λb aj=>Goes X A Z F J s (compareOp .Eq (.ref (Z i)) (.ref (Z j))) (ao b) aj) (λ_=>ai.bz λh=>?_) (ai.bz λh=>(I.cA hx).elim λvs q=>q.elim λk1 q=>(I.cA hy).elim λws p=>p.elim λk2 p=>Goes.same I λQ E hQ=>SeqAt.eq_list_lengthsAt (items:=vs.toArray) (items2:=ws.toArray) ⟨_,q.1,rfl,_,rfl⟩ ⟨_,p.1,rfl,_,rfl⟩ (by
   rw[List.size_toArray,List.size_toArray,<- q.2.length,<- p.2.length]; simpa using h) (Nat.lt_of_le_of_lt (Nat.le_add_right _ _) hA) (hQ _ rfl))
  rw[<- h.1] at hy
  refine(I.cA hx).elim λvs q=>q.elim λk1 q=>(I.cA hy).elim λws p=>p.elim λk2 p=>Goes.same I λQ E hQ=>?_
  refine SeqAt.eq_listAt (items:=vs.toArray) (items2:=ws.toArray) (e:=λ_=>true) ⟨_,q.1,rfl,_,rfl⟩ ⟨_,p.1,rfl,_,rfl⟩ (by rw[List.size_toArray,List.size_toArray,<- q.2.length,p.2.length]) (Nat.lt_of_le_of_lt (Nat.le_add_right _ _) hA)
   (ax.both q.2 p.2 λx hx v w=>yk I.froz 3 A.in1 x v w (Nat.lt_of_le_of_lt (Nat.le_trans (Nat.add_le_add_right (in1_units A) 3) (by rw[Nat.add_assoc]; exact Nat.add_le_add_left (by decide) _)) hA) (List.all_eq_true.mp h.2 x hx)) ?_
  rw[show((List.range vs.toArray.size).all λ_=>true)=true from List.all_eq_true.mpr λ_ _=>rfl]
  exact hQ _ rfl
 ·refine ly (P:=λx b=>Y.le (ao b w)->ah X A Y ao x (compareOp op v w)) (λys hb=>b9 (P:=λx op=>ah X A Y ao x (compareOp op v w)) (ah.NY ha hb) ah.fail) (λhb=>?_) hb
  refine jC (P:=λx b=>Y.le (ao b w)->ah X A Y ao x (compareOp op v w)) (λxs hb=>?_) (λhb=>ah.cmp ha hb) hb
  refine b9 (P:=λx op=>ah X A Y ao x (compareOp op v w)) (ah.i4 (λv=>compareOp .In v w) ha (λk t=>ah.opt λb hk=>ah.eQ λZ F J s I g=>?_) ah.fail) ah.fail
  cases fL (hb _ _ _ g) with | mk a ws k2 e hw dw =>
  have h:=yl (s:=s) (t:=t) dw hk
  rw[e]
  refine Goes.same I λQ E hQ=>SeqAt.in_tupleAt (items:=ws.toArray) (pz k) ⟨_,I.froz _ _ hw,rfl,_,rfl⟩ (λy hy=>h.2 _ y (List.mem_toArray.mp hy)) ?_
  rw[List.any_toArray,h.1]
  exact hQ _ rfl
theorem ah.Mn{a b:AV}{v w:Value}(ha:Y.le (ao a v))(hb:Y.le (ao b w)):ah X A Y ao (Ci a b) (binaryOp .Add v w):=by
 refine jC (P:=λx a=>Y.le (ao a v)->ah X A Y ao x (binaryOp .Add v w)) (λxs ha=>?_) (λha=>?_) ha
 ·refine jC (P:=λx b=>Y.le (ao b w)->ah X A Y ao x (binaryOp .Add v w)) (λys hb=>?_) (λ_=>ah.fail) hb
  refine ah.bw λJ Z F s I g=>ai.cond λh=>ai.bz λhl=>?_
  cases fL (ha _ _ _ g) with | mk a vs k e hx dv =>
  cases fL (hb _ _ _ g) with | mk b ws k2 e2 hy dw =>
  have h1:=h.1
  have h2:=h.2
  rw[ax.isEmpty dv] at h1
  rw[ax.isEmpty dw] at h2
  have d:=dv.app dw
  rw[e,e2]
  refine Goes.to λQ E hQ=>P.add_tuple (I.froz _ _ hx) (I.froz _ _ hy) (by rw[List.isEmpty_toArray,h1]; exact Bool.false_ne_true) (by rw[List.isEmpty_toArray,h2]; exact Bool.false_ne_true) ?_ (by rw[List.size_toArray,List.size_toArray,<- List.length_append,<- d.length]; exact Nat.le_trans hl (by decide))
  rw[List.append_toArray]
  have r:=I.freeze (a:=s.heap.objs.size) (o:=oTup (vs++ws) 0) (h':=s.heap.push (oTup (vs++ws) 0)) (Heap.get?_none_of_le (Nat.le_refl _)) (λb o e=>Heap.get?_push_of_some _ e) (Heap.get?_push_size _ rfl) s.toks
  exact hQ _ _ Z _ (.tup _ _ (vs++ws) 0 (if_pos rfl) (d.step r.2)) r
 have fin:∀{J:St} {Z:ay} {F:Fz} {s:Shared} {a1 a2:Addr} {xs ys:List AV} {vs ws:List Value} {k1 k2:Nat},Inv X Z F J s->s.heap.get? a1=some (cL vs k1)->s.heap.get? a2=some (cL ws k2)->ax J.n Z F xs vs->ax J.n Z F ys ws->ai J (iX (xs++ys)) λb aj=>Goes X A Z F J s (binaryOp .Add (.ref a1) (.ref a2)) (ao b) aj:=λI h1 h2 d1 d2 =>
  ai.vW I (d1.app d2) λhl Q E hQ=>P.add_list h1 h2 (by rw[List.append_toArray]; exact hQ) (by rw[List.size_toArray,List.size_toArray,<- List.length_append,<- (d1.app d2).length]; exact Nat.le_trans hl (by decide))
 refine b8 (P:=λx a=>Y.le (ao a v)->ah X A Y ao x (binaryOp .Add v w)) (λi ha=>?_) (λha=>ly (P:=λx a=>Y.le (ao a v)->ah X A Y ao x (binaryOp .Add v w)) (λxs ha=>?_) (λha=>ah.bin ha hb) ha) ha
 ·refine b8 (P:=λx b=>Y.le (ao b w)->ah X A Y ao x (binaryOp .Add v w)) (λj hb=>?_) (λ_=>ah.fail) hb
  refine ah.bw λJ Z F s I g=>ai.dO λxs hx hl=>ai.dO λys hy hl2=>?_
  rw[(show v = .ref (Z i)/\i<J.n from ha _ _ _ g).1,(show w = .ref (Z j)/\j<J.n from hb _ _ _ g).1]
  exact(I.cA hx).elim λvs q=>q.elim λk1 q=>(I.cA hy).elim λws p=>p.elim λk2 p=>fin I q.1 p.1 q.2 p.2
 ·refine b8 (P:=λx b=>Y.le (ao b w)->ah X A Y ao x (binaryOp .Add v w)) (λj hb=>?_) (λ_=>ah.fail) hb
  refine ah.bw λJ Z F s I g=>ai.dO λys hy hl2=>?_
  cases iu (ha _ _ _ g) with | mk a1 vs k1 e hF ds =>
  rw[e,(show w = .ref (Z j)/\j<J.n from hb _ _ _ g).1]
  exact(I.cA hy).elim λws p=>p.elim λk2 p=>fin I (I.froz _ _ hF) p.1 ds p.2
theorem ah.Mp{op:Operator}{a b:AV}{v w:Value}(ha:Y.le (ao a v))(hb:Y.le (ao b w)):ah X A Y ao (rm op a b) (binaryOp op v w) :=
 b9 (P:=λx op=>ah X A Y ao x (binaryOp op v w)) (ah.Mn ha hb) (ah.bin ha hb)
noncomputable def Cj(r:Rec)(ae:aB)(l:Expr)(op:Operator)(rr:Expr):EM AV:=EM.bind (r.ev ae l) λa=>EM.bind (r.ev ae rr) λb=>rm op a b
noncomputable def vC(K:Frag)(r:Rec)(ae:aB)(l:Expr)(op:CmpOp)(rr:Expr):EM AV:=_root_.cond (behindInMarks op rr) EM.fail (EM.bind (r.ev ae l) λa=>EM.bind (r.ev ae rr) λb=>rl K op a b)
theorem ah.Mq{r:Rec}{n:Nat}{ae:aB}{env:Env}(S:Sound X r n)(hA:aN X A n)(l:Expr)(op:Operator)(rr:Expr)(p:Pos):bh X A ae env (Cj r ae l op rr) (.BinOp l op rr p):=by
 unfold bh
 rw[eval_BinOp]
 exact ah.bind (S.ev A hA ae env l) λa av=>ah.bind (ah.holding ((S.ev A hA ae env rr).weaken (Kn.fst (Kn.le_refl _)))) λb bv=>ah.standAt (ah.operate (ah.Mp (Kn.fst (Kn.snd (Kn.le_refl _))) (Kn.snd (Kn.le_refl _))))
theorem ah.Mr{r:Rec}{n:Nat}{ae:aB}{env:Env}(S:Sound X r n)(hA:aN X A n)(hu:A.units+10<cLine)(l:Expr)(op:CmpOp)(rr:Expr)(p:Pos):bh X A ae env (vC X.K r ae l op rr) (.Compare l [op] [rr] p):=by
 unfold vC
 cases hm:behindInMarks op rr with
 | true=>exact ah.fail
 | false =>
  unfold bh
  rw[eval_Compare1,markedBehindIn_of_false hm]
  exact ah.bind (S.ev A hA ae env l) λa av=>ah.bind (ah.holding ((S.ev A hA ae env rr).weaken (Kn.fst (Kn.le_refl _)))) λb bv=>ah.standAt (ah.operate (ah.Dl hu (Kn.fst (Kn.snd (Kn.le_refl _))) (Kn.snd (Kn.le_refl _))))
end
noncomputable def dp{α:Type}(xs:List α)(lo hi:Option Int):List α :=
 (sliceRange (sliceBounds lo hi none xs.length).1 (sliceBounds lo hi none xs.length).2.1 (sliceBounds lo hi none xs.length).2.2).filterMap (xs[·]?)
noncomputable def vD(r:Rec)(ae:aB)(o:Option Expr):EM (Option Int):=aQ o (λe=>EM.bind (r.ev ae e) λa=>cM a (λi=>EM.ret (some i)) EM.fail) (EM.ret none)
noncomputable def A1(r:Rec)(ae:aB)(lo hi:Option Expr):EM (Option Int×Option Int):=EM.bind (vD r ae lo) λl=>EM.bind (vD r ae hi) λu=>EM.ret (l,u)
noncomputable def fy(v:Value):AV:=An v (λi _=>.int i) (.val v)
noncomputable def nd(x:Str)(l u:Option Int):Str:=if ((1:Int) == 1 && (Builtin.Str.strSliceIndices l u 1 x.length).length == x.length)=true then x else ⟨((Builtin.Str.strSliceIndices l u 1 x.length).filterMap (x.cps[·]?)).toArray⟩
noncomputable def y1(ov:AV)(l u:Option Int):EM AV:=bT ov (λi=>EM.bind (EM.cell i) λc=>ud c (λo=>EM.bind (EM.opt (tc o)) λvs=>EM.bind (EM.cond (vs.length<=1000000)) λ_=>iX (dp (vs.map fy) l u)) <|
  lE c (λxs=>EM.bind (EM.cond (xs.length<=1000000)) λ_=>iX (dp xs l u)) EM.fail) <|
 jP ov (λxs=>EM.bind (EM.cond (xs.length<=1000000)) λ_=>iX (dp xs l u)) <|
 iC ov (λxs=>_root_.cond (l == some 1 && u.isNone) (gj xs (λ_ r=>gj r (λy r=>jD (y::r)) EM.fail) EM.fail) EM.fail) <|
 onStr ov (λx=>EM.bz ((nd x l u).length<=1000000) (.str (nd x l u))) EM.fail
noncomputable def A2(K:Frag)(r:Rec)(ae:aB)(o:Expr)(lo hi:Option Expr):EM AV:=EM.bind (r.ev ae o) λov=>EM.bind (A1 r ae lo hi) λq=>EM.bind (tP K ov) λ_=>y1 ov q.1 q.2
section
variable{X:Ctx}{A:Around}{Z:ay}{F:Fz}{J:St}{s:Shared}{Y:Kn}{r:Rec}{n:Nat}{ae:aB}{env:Env}
theorem ax.filterMap{N:Nat}{xs:List AV}{vs:List Value}(d:ax N Z F xs vs):∀js:List Nat,ax N Z F (js.filterMap (xs[·]?)) (js.filterMap (vs[·]?))
 | []=>(rfl:ax N Z F [] [])
 | j::js=>by
  rw[List.filterMap_cons,List.filterMap_cons]
  cases h:xs[j]? with
  | none =>
   rw[d.none h]
   exact ax.filterMap d js
  | some a =>
   refine(d.fX h).elim λv q=>?_
   rw[q.1]
   exact ax.cons q.2 (ax.filterMap d js)
theorem ax.pick{N:Nat}{xs:List AV}{vs:List Value}(d:ax N Z F xs vs)(lo hi:Option Int):ax N Z F (dp xs lo hi) (dp vs lo hi):=by
 unfold dp
 rw[d.length]
 exact d.filterMap _
theorem GY(vs:List Value)(lo hi:Option Int):slicePick vs.toArray lo hi Option.none=(dp vs lo hi).toArray:=by unfold slicePick dp; simp
theorem EC(l sl:Addr)(v:Value)(w:List Value)(k:Nat)(t:Tok)(hsz:w.length+1<=sizeLine):
  Meets (Builtin.«tuple.__getitem__» ⟨[.ref l,.ref sl],[]⟩)
   (λ_ R s=>s.heap.get? l=some { cls:=.type "tuple",dict:=none,data:=.seq (v::w).toArray k,slots:=#[] }/\s.heap.get? sl=some { cls:=.type "slice",data:=.fields #[.int 1 t,.none,.none] } /\
    R (.ok (.ret (.ref s.heap.objs.size))) { s with heap:=s.heap.push { cls:=.type "tuple",data:=.seq w.toArray } }):=by
 refine .of_wp λprog wd A R s h=>?_
 obtain⟨hp,g,d,tk,os⟩:=s; obtain⟨hl,hs,h⟩:=h
 have f1:=AutoSeq1.idx_int
 wp_walk using wpAny_loadPart' hl
 have hadj:Slice.sliceAdjust (some 1) none ((none:Option Int).getD 1) ((v::w).toArray.size:Nat)=(1,((w.length+1:Nat):Int)):=by
  simp[Slice.sliceAdjust]
  omega
 have hpl:Slice.slicePlaces 1 ((w.length+1:Nat):Int) ((none:Option Int).getD 1)=w.length:=by
  simp only[Slice.slicePlaces,Option.getD_none,show(1:Int) > 0 by decide,if_true,Int.ediv_one]
  split <;> omega
 have hfm:(List.range w.length).filterMap (λ(j:Nat)=>(v::w).toArray[((1:Int)+(j:Int) * (none:Option Int).getD 1).toNat]?)=w:=by
  have h1:(λ(j:Nat)=>(v::w).toArray[((1:Int)+(j:Int) * (none:Option Int).getD 1).toNat]?)=λ(j:Nat)=>w.toArray[j]?:=funext λj=>by
   have:((1:Int)+(j:Int) * (none:Option Int).getD 1).toNat=j+1:=by simp only[Option.getD_none]; omega
   rw[this]
   simp
  rw[h1]
  have:=pick_run w.toArray 0 w.length
  simpa using this
 rw[hadj]
 simp only[hpl]
 rw[if_neg (by simp)]
 simp only[hfm]
 refine wpAny_bind (wpAny_newObj_type (wpAny_pure ?_) (show w.toArray.size<=_ by rw[List.size_toArray]; omega))
 exact⟨_,rfl,h⟩
theorem FX{n:Nat}(v:Value):Den n Z F (fy v) v:=ES (P:=λa v=>Den n Z F a v) (λi t=>⟨t,rfl⟩) rfl
theorem xR{n:Nat}:∀vs:List Value,ax n Z F (vs.map fy) vs
 | []=>(rfl:ax n Z F [] [])
 | v::vs=>ax.cons (FX v) (xR vs)
noncomputable def uD(vl vu:Value):Obj:={ cls:=.type "slice",data:=.fields #[vl,vu,.none] }
inductive rL(F:Fz)(q:Option Int×Option Int)(v:Value):Prop where
 | mk (a:Addr) (vl vu:Value) (e:v = .ref a) (h:F a=some (uD vl vu)) (pl:IsPart vl q.1) (pu:IsPart vu q.2)
noncomputable def A3(q:Option Int×Option Int)(v:Value):Kn where
 p n Z F:=rL F q v
 mono _ _ hF x:=by cases x with | mk a vl vu e h pl pu=>exact⟨a,vl,vu,e,hF _ _ h,pl,pu⟩
theorem ah.part(S:Sound X r n)(hA:aN X A n)(e:Option Expr):ah X A (aA X ae env) (λl v=>Kn.is (IsPart v l)) (vD r ae e) (evalPart e env):=by
 cases e with
 | none=>exact ah.ret λ_ _ _ _=>.none
 | some e =>
  rw[evalPart_some]
  show ah X A (aA X ae env) _ (EM.bind (r.ev ae e) λa=>cM a (λi=>EM.ret (some i)) EM.fail) _
  exact ah.bw λJ Z F s I g=>ai.bind (ah.at (S.ev A hA ae env e)) λa au c=>fJ (P:=λx a=>(∀Z F s,Inv X Z F J s->(aA X ae env).p J.n Z F->Goes X A Z F J s (eval e env) (ao a) au)->ai au x λb aj=>Goes X A Z F J s (eval e env) (λv=>Kn.is (IsPart v b)) aj)
   (λi c=>ai.ret ((c Z F s I g).mono λv aq F' (d:∃t,v = .int i t)=>d.elim λt e=>e▸IsPart.int i t)) (λ_=>ai.fail) c
theorem ah.parts(S:Sound X r n)(hA:aN X A n)(lo hi:Option Expr)(p:Pos):ah X A (aA X ae env) A3 (A1 r ae lo hi) (eval (.Slice lo hi none p) env):=ah.bw λJ Z F s I g=>ai.bind (ah.at (ah.part S hA lo)) λl au c1=>ai.bind (ah.at (ah.part (env:=env) S hA hi)) λu aZ c2=>ai.ret λQ E hQ =>
 wpAny_Slice (c1 Z F s I g _ E λvl ar aF aH pl a0 aM=>c2 aF aH ar a0 ((aA X ae env).mono aM.le aM.same aM.sub g) _ E λvu a8 bg bo pu bG bC=>by
  rw[evalPart_none]
  refine wpAny_pure ?_
  have r:=bG.freeze (a:=a8.heap.objs.size) (o:=uD vl vu) (h':=a8.heap.push (uD vl vu)) (Heap.get?_none_of_le (Nat.le_refl _)) (λb o e=>Heap.get?_push_of_some _ e) (Heap.get?_push_size _ rfl) a8.toks
  exact hQ _ _ bg _ ⟨_,vl,vu,rfl,if_pos rfl,pl,pu⟩ r.1 ((aM.trans bC).trans r.2))
theorem slice_list(I:Inv X Z F J s){a:Addr}{xs:List AV}{ws:List Value}{k:Nat}{sl:Value}{q:Option Int×Option Int}(ho:s.heap.get? a=some (cL ws k))(d:ax J.n Z F xs ws)(hl:xs.length<=1000000)(hs:rL F q sl):ai J (iX (dp xs q.1 q.2)) λb aj=>Goes X A Z F J s (getItem (.ref a) sl) (ao b) aj:=ai.vW I (d.pick q.1 q.2) λh Q E hQ=>by
 cases hs with | mk b vl vu e hF pl pu =>
 rw[e]
 refine wpAny_getItem_list_slice (items:=ws.toArray) ⟨_,ho,rfl,k,rfl⟩ ⟨_,I.froz _ _ hF,rfl,rfl⟩ pl pu .none (by simp) ?_ (CV hl d)
 rw[GY]
 exact hQ
theorem FY(I:Inv X Z F J s){x y:AV}{xs:List AV}{v sl:Value}(dv:Den J.n Z F (.tup (x::y::xs)) v)(hs:rL F (some 1,none) sl):ai J (jD (y::xs)) λb aj=>Goes X A Z F J s (getItem v sl) (ao b) aj:=ai.bz λhl=>by
 cases fL dv with | mk a vs k e hx ds =>
 cases hs with | mk b vl vu e2 hF pl pu =>
 rw[e,e2]
 cases pl with
 | int _ t =>
 cases pu with
 | none =>
 cases vs with
 | nil=>exact ds.elim
 | cons v vs =>
 have hlen:vs.length=(y::xs).length:=(ax.length (show ax J.n Z F (y::xs) vs from ds.2)).symm
 refine Goes.to λQ E hQ=>getItem_meets (T:="tuple") ⟨_,I.froz _ _ hx,rfl⟩ (by decide) PySem.F.slot_tuple_getitem PySem.F.entry_tuple_getitem (PySem.F.args_tuple_getitem_2 _ _) (EC _ _ _ _ k t (by rw[hlen]; exact Nat.le_trans (Nat.succ_le_succ hl) (by decide))) ⟨I.froz _ _ hx,I.froz _ _ hF,?_⟩
 have r:=I.freeze (a:=s.heap.objs.size) (o:=oTup vs 0) (h':=s.heap.push (oTup vs 0)) (Heap.get?_none_of_le (Nat.le_refl _)) (λb o e=>Heap.get?_push_of_some _ e) (Heap.get?_push_size _ rfl) s.toks
 exact hQ _ _ Z _ (.tup _ _ _ 0 (if_pos rfl) (ax.step (show ax J.n Z F (y::xs) vs from ds.2) r.2)) r
theorem FZ(I:Inv X Z F J s){x:Str}{t:Tok}{sl:Value}{q:Option Int×Option Int}(hs:rL F q sl)(hl:(nd x q.1 q.2).length<=1000000):Goes X A Z F J s (getItem (.str x t) sl) (ao (.str (nd x q.1 q.2))) J:=by
 obtain⟨q1,q2⟩:=q
 cases hs with | mk b vl vu e2 hF pl pu =>
 rw[e2]
 have key:∀(l u:Option (Int×Tok)),q1=l.map (·.1)->q2=u.map (·.1)->vl=partValue l->vu=partValue u->Goes X A Z F J s (getItem (.str x t) (.ref b)) (ao (.str (nd x q1 q2))) J:=λl u h1 h2 h3 h4=>Goes.tok I λQ E hQ=>by
  refine wpAny_getItem_str_slice (l:=l) (u:=u) (st:=none) ⟨_,I.froz _ _ hF,rfl,by rw[h3,h4]; rfl⟩ (by decide) ?_
  rw[h1,h2] at hl hQ
  unfold sliceMade slicePicked
  unfold nd at hl hQ
  show Made.post (if ((1:Int) == 1 && _)=true then _ else _) Q s
  split
  ·rw[if_pos (by assumption)] at hQ
   exact hQ (.str x t) s.toks ⟨t,rfl⟩
  ·rw[if_neg (by assumption)] at hQ hl
   exact⟨Nat.le_trans hl (by decide),hQ _ _ ⟨_,rfl⟩⟩
 cases pl with
 | none=>cases pu with
  | none=>exact key none none rfl rfl rfl rfl
  | int i t=>exact key none (some (i,t)) rfl rfl rfl rfl
 | int j t'=>cases pu with
  | none=>exact key (some (j,t')) none rfl rfl rfl rfl
  | int i t=>exact key (some (j,t')) (some (i,t)) rfl rfl rfl rfl
theorem ah.HU{ov:AV}{v sl:Value}{q:Option Int×Option Int}(ha:Y.le (ao ov v))(hs:Y.le (A3 q sl)):ah X A Y ao (y1 ov q.1 q.2) (PySem.getItem v sl):=by
 refine b8 (P:=λx ov=>Y.le (ao ov v)->ah X A Y ao x (PySem.getItem v sl)) (λi ha=>?_) (λha=>?_) ha
 ·refine ah.bw λJ Z F s I g=>?_
  rw[(show v = .ref (Z i)/\i<J.n from ha _ _ _ g).1]
  refine ai.cell λc=>xw (P:=λx c=>J.get i=some c->ai J x λb aj=>Goes X A Z F J s (PySem.getItem (.ref (Z i)) sl) (ao b) aj) (λo hx=>ai.opt λvs hvs=>ai.cond λhl=>slice_list I (k:=0) (by rw[<- w3 hvs]; exact I.JW hx) (xR vs) (by rw[List.length_map]; exact hl) (hs _ _ _ g)) <|
   mA (P:=λx c=>J.get i=some c->ai J x λb aj=>Goes X A Z F J s (PySem.getItem (.ref (Z i)) sl) (ao b) aj) (λxs hx=>ai.cond λhl=>(I.cA hx).elim λws p=>p.elim λk p=>slice_list I p.1 p.2 hl (hs _ _ _ g)) λ_=>ai.fail
 ·refine ly (P:=λx ov=>Y.le (ao ov v)->ah X A Y ao x (PySem.getItem v sl)) (λxs ha=>ah.bw λJ Z F s I g=>ai.cond λhl=>?_) (λha=>?_) ha
  ·cases iu (ha _ _ _ g) with | mk a ws k e hF ds =>
   rw[e]
   exact slice_list I (I.froz _ _ hF) ds hl (hs _ _ _ g)
  refine jC (P:=λx ov=>Y.le (ao ov v)->ah X A Y ao x (PySem.getItem v sl)) (λxs ha=>ah.aW λhq=>?_) (λha=>ah.i5 (λv=>PySem.getItem v sl) ha (λx t=>ah.jL λhl Z F J s I g=>FZ I (hs _ _ _ g) hl) ah.fail) ha
  rw[Bool.and_eq_true] at hq
  have e:q=(some 1,none):=Prod.ext (eq_of_beq hq.1) (Option.isNone_iff_eq_none.mp hq.2)
  refine iW (P:=λy xs=>Y.le (ao (.tup xs) v)->ah X A Y ao y (PySem.getItem v sl)) (λx r ha=>?_) (λ_=>ah.fail) ha
  exact iW (P:=λz r=>Y.le (ao (.tup (x::r)) v)->ah X A Y ao z (PySem.getItem v sl)) (λy r ha=>ah.bw λJ Z F s I g=>FY I (ha _ _ _ g) (e▸hs _ _ _ g)) (λ_=>ah.fail) ha
theorem ah.slice(S:Sound X r n)(hA:aN X A n)(o:Expr)(lo hi:Option Expr)(p pos:Pos):bh X A ae env (A2 X.K r ae o lo hi) (.Subscript o (.Slice lo hi none p) pos):=by
 unfold bh
 rw[eval_Subscript]
 refine ah.bind (S.ev A hA ae env o) λov v=>ah.bind (ah.holding ((ah.parts S hA lo hi p).weaken (Kn.fst (Kn.le_refl _)))) λq sl=>ah.standAt (ah.AR (Kn.fst (Kn.snd (Kn.le_refl _))) (ah.letGo ?_))
 show ah X A _ ao _ (PySem.operate _ (PySem.getItem v sl))
 exact ah.operate (ah.HU (Kn.fst (Kn.snd (Kn.le_refl _))) (Kn.snd (Kn.le_refl _)))
end
section
variable{prog:Program}{w:World}{A:Around}{E:Value->Shared->Prop}{s:Shared}
theorem w9:typeLookup (.type "list") (dunderI "add")=pure (some (.builtin "list.__iadd__")):=PySem.F.slot_list_iadd.lookup
theorem F2{l b:Addr}{items items2:Array Value}{n n2:Nat}{Q:Value->Shared->Prop}(hl:IsL s.heap l items n)(hb:IsL s.heap b items2 n2)(hsz:items.size+items2.size<=2000000)
  (h:Q (.ref l) { s with heap:=s.heap.update l (Obj.mapSeq λx=>x++items2) }):wpAny (model prog w) A (inplaceOp .Add (.ref l) (.ref b)) Q E s:=by
 have hline:sizeLine=2 ^ 24:=rfl
 unfold inplaceOp
 refine wpAny_holding ?_
 have hs:isSeqSlot (some (.builtin "list.__iadd__"))=true:=by decide +kernel
 have hfi:fillsInplaceSlot (.type "list") "add" (Operator.Add == .Add)=pure false:=by
  unfold fillsInplaceSlot
  show(typeLookup (.type "list") (dunderI "add") >>= λfi=>pure (fi.isSome && !isSeqSlot fi))=pure false
  rw[w9,pure_bind,hs]; rfl
 have ha:s.TypeIs (.ref l) "list":=⟨_,hl,rfl⟩
 have hb':s.TypeIs (.ref b) "list":=⟨_,hb,rfl⟩
 refine wpAny_bind (wpAny_typeOf ha (wpAny_bind (wpAny_of_eq hfi ?_)))
 show wpAny _ A (if false=true then _ else _) Q E s
 rw[if_neg Bool.false_ne_true]
 refine wpAny_bind (wpAny_binaryOp1_none (nm:="add") ha hb' noFill_list_add ?_)
 refine wpAny_bind (wpAny_of_eq (PySem.seqSlot_of w9 hs) ?_)
 refine wpAny_bind (wpAny_rule ?_)
 have h0:¬(!items.isEmpty && Builtin.List.listTooLong (items.size+items2.size))=true:=by
  have:Builtin.List.listTooLong (items.size+items2.size)=false:=by
   unfold Builtin.List.listTooLong
   simp only[decide_eq_false_iff_not]
   omega
  rw[this]; simp
 exact call_meets PySem.F.slot_list_iadd ha PySem.F.entry_list_iadd (PySem.F.args_list_iadd_2 _ _) (AutoSeq1.list___iadd___list_list_0 l items n b items2 n2 h0 (by omega) (by omega)) ⟨hl,hb,h⟩
end
noncomputable def Ck(op:Operator)(a b:AV):EM AV:=bT a (λi=>bT b (λj=>cg op .Add (EM.bind (dD i) λxs=>EM.bind (dD j) λys=>EM.bind (kE i (xs++ys)) λ_=>EM.ret (.ref i)) EM.fail) EM.fail) (vV op a b)
noncomputable def Dm(K:Frag)(r:Rec)(ae:aB)(y:Str)(op:Operator)(value:Expr):EM aU:=EM.bind (eName K ae y) λold=>EM.bind (r.ev ae value) λv=>EM.bind (Ck op old v) λnw=>EM.bind (fe ae y nw) λ_=>EM.ret .next
noncomputable def Ky(r:Rec)(ae:aB)(xs:List Str)(value:Expr):EM aU:=EM.bind (r.ev ae value) λv=>iC v (λvs=>_root_.cond (Nat.beq xs.length vs.length) (EM.bind (ou ae xs.reverse vs.reverse) λ_=>EM.ret .next) EM.fail) EM.fail
noncomputable def uE(ae:aB)(elts:List Expr)(k:Nat)(tpos:Pos)(value:Expr)(pos:Pos)(o:Option (List Str)):Prop:=∀env:Env,env.scope=ae.scope->swapsWithSole [.Tuple elts k tpos] value pos.line env=pure false/\swappedStores [.Tuple elts k tpos] value env=pure o
noncomputable def Cm(K:Frag)(r:Rec)(ae:aB)(elts:List Expr)(k:Nat)(tpos:Pos)(value:Expr)(pos:Pos):EM aU:=EM.bind (EM.opt (namesOf elts)) λxs=>EM.bind (EM.word λw=>lX w some none) λb =>
 _root_.cond b (EM.bind (EM.cond (uE ae elts k tpos value pos (some xs))) λ_=>Ky r ae xs value)
  (EM.bind (EM.cond (uE ae elts k tpos value pos none)) λ_=>EM.bind (r.ev ae value) λv=>EM.bind (cb K r ae v (.Tuple elts k tpos)) λ_=>EM.ret .next)
section
variable{X:Ctx}{A:Around}{Z:ay}{F:Fz}{J:St}{s:Shared}{Y:Kn}{r:Rec}{n:Nat}{ae:aB}{env:Env}
theorem ah.Ms{op:Operator}{a b:AV}{v w:Value}(ha:Y.le (ao a v))(hb:Y.le (ao b w)):ah X A Y ao (Ck op a b) (inplaceOp op v w):=by
 refine b8 (P:=λx a=>Y.le (ao a v)->ah X A Y ao x (inplaceOp op v w)) (λi ha=>?_) (λha=>ah.DU ha hb) ha
 refine b8 (P:=λx b=>Y.le (ao b w)->ah X A Y ao x (inplaceOp op v w)) (λj hb=>?_) (λ_=>ah.fail) hb
 refine b9 (P:=λx op=>ah X A Y ao x (inplaceOp op v w)) (ah.bw λJ Z F s I g=>ai.dO λxs hx hl=>ai.dO λys hy hl2=>ai.nx (ai.ret ?_)) ah.fail
 rw[(show v = .ref (Z i)/\i<J.n from ha _ _ _ g).1,(show w = .ref (Z j)/\j<J.n from hb _ _ _ g).1]
 refine(I.cA hx).elim λvs q=>q.elim λk1 q=>(I.cA hy).elim λws p=>p.elim λk2 p=>Goes.to λQ E hQ=>?_
 refine F2 q.1 p.1 (by rw[List.size_toArray,List.size_toArray,<- q.2.length,<- p.2.length]; exact Nat.add_le_add hl hl2) (hQ _ _ Z F ⟨rfl,I.lt hx⟩ (I.tH (f:=λx=>x++ws.toArray) (ws:=vs++ws) hx q.1 (List.append_toArray ..) (q.2.app p.2) s.toks))
theorem ah.aug(L:ey X)(S:Sound X r n)(hA:aN X A n)(y:Str)(np:Pos)(op:Operator)(value:Expr)(p:Pos):bu X A ae env (Dm X.K r ae y op value) (.AugAssign (.Name y np) op value p):=by
 unfold bu
 rw[exec_AugAssign_Name]
 exact ah.standAt (ah.bind (ah.BB L y) λa av=>ah.bind (ah.holding ((S.ev A hA ae env value).weaken (Kn.fst (Kn.le_refl _)))) λb bv=>ah.standAt (ah.bind (ah.operate (ah.Ms (Kn.fst (Kn.snd (Kn.le_refl _))) (Kn.snd (Kn.le_refl _)))) λc cv=>ah.standAt (ah.bind (ah.bindName (Kn.fst (Kn.fst (Kn.fst (Kn.le_refl _)))) (Kn.snd (Kn.le_refl _))) λ_ _=>ah.ret λ_ _ _ _=>rfl)))
theorem ax.rev{N:Nat}:∀{ys:List AV} {us:List Value},ax N Z F ys us->ax N Z F ys.reverse us.reverse
 | [],us,d=>by rw[show us=[] from d]; exact(rfl:ax N Z F [] [])
 | _::_,[],d=>d.elim
 | y::ys,u::us,d=>by rw[List.reverse_cons,List.reverse_cons]; exact(ax.rev d.2).app (ax.cons d.1 (rfl:ax N Z F [] []))
theorem ah.names(p:Pos)(xs:List Str)(avs:List AV)(vs:List Value)(Y:Kn)(hg:Y.le (aA X ae env))(hv:Y.le (bX avs vs)):ah X A Y (λ_ _=>Kn.top) (ou ae xs avs) (assignInOrder (xs.map λn=>PySem.bindName env n) vs):=by
 have:=ah.inOrder (X:=X) (A:=A) (ae:=ae) (env:=env) (λq v=>PySem.bindName env q.1 v) (λ_ _=>.inr rfl) (xs.map λx=>(x,p)) avs vs Y hg hv
 rw[List.map_map,List.map_map] at this
 have e:xs.map ((λq:Str×Pos=>q.1) ∘ λx=>(x,p))=xs:=List.map_id' xs
 rw[e] at this
 exact this
theorem ah.Mt(S:Sound X r n)(hA:aN X A n)(elts:List Expr)(k:Nat)(tpos:Pos)(value:Expr)(pos:Pos):bu X A ae env (Cm X.K r ae elts k tpos value pos) (.Assign [.Tuple elts k tpos] value pos):=ah.opt λxs hn=>ah.word λb=>by
 refine bQ (P:=λx=>ah X A (aA X ae env) cn x (PySem.exec (.Assign [.Tuple elts k tpos] value pos) env)) (λ_=>?_) ?_
 ·
  refine ah.cond λhp=>ah.cz (Y:=aA X ae env) (P:=env.scope=ae.scope) (λ_ _ _ g=>bx.sc g) λhsc=>?_
  refine ah.bw λJ Z F s I g=>ai.bind (ah.at (S.ev A hA ae env value)) λav au c=>?_
  refine jC (P:=λx av=>(∀Z F s,Inv X Z F J s->(aA X ae env).p J.n Z F->Goes X A Z F J s (PySem.eval value env) (ao av) au)->ai au x λb aj=>Goes X A Z F J s (PySem.exec (.Assign [.Tuple elts k tpos] value pos) env) (cn b) aj) (λvs c=>ai.De λhl=>?_) (λ_=>ai.fail) c
  refine ai.bind (ai.all λws=>ah.at (X:=X) (A:=A) (ah.names tpos xs.reverse vs.reverse ws ((aA X ae env).and (bX vs.reverse ws)) (Kn.fst (Kn.le_refl _)) (Kn.snd (Kn.le_refl _)))) λ_ aZ c2=>ai.ret λQ E hQ=>?_
  refine PyProof.Rows.Assign_Tuple_swapped (names:=xs) (c Z F s I g _ E λv ar aF aH d a0 aM=>?_) (hp env hsc).1 (hp env hsc).2
  cases fL d with | mk a ws k2 e h hs2 =>
  rw[e,Nat.eq_of_beq_eq_true hl,hs2.length,show ws.length=ws.toArray.size from(List.size_toArray ..).symm]
  refine unpackItems_tuple hA.2.2.1 ⟨_,a0.froz _ _ h,rfl,k2,rfl⟩ λh' hk=>?_
  have r:=a0.grow (h':=h') (λb o e=>hk b o (Nat.ne_of_lt (Heap.lt_size e)) e) ar.toks
  exact c2 ws.reverse aF aH _ r.1 ⟨(aA X ae env).mono aM.le aM.same aM.sub g,ax.rev hs2⟩ _ E λu s' aq F' _ bG bC=>hQ .next s' aq F' rfl bG ((aM.trans r.2).trans bC)
 ·
  refine ah.cond λhp=>ah.cz (Y:=aA X ae env) (P:=env.scope=ae.scope) (λ_ _ _ g=>bx.sc g) λhsc=>?_
  refine ah.bw λJ Z F s I g=>ai.bind (ah.at (S.ev A hA ae env value)) λav au c=>ai.bind (ai.all λv=>ah.at (ah.assign (Y:=(aA X ae env).and (ao av v)) S hA (.Tuple elts k tpos) (Kn.fst (Kn.le_refl _)) (Kn.snd (Kn.le_refl _)))) λ_ aZ c2=>ai.ret λQ E hQ=>?_
  exact PyProof.Rows.Assign_Tuple (c Z F s I g _ E λv ar aF aH d a0 aM=>c2 v aF aH ar a0 ⟨(aA X ae env).mono aM.le aM.same aM.sub g,d⟩ _ E λu s' aq F' _ bG bC=>hQ .next s' aq F' rfl bG (aM.trans bC)) (hp env hsc).1 (hp env hsc).2
end
noncomputable def A4(r:Rec)(ae:aB)(l:List (Expr×Expr)):EM (List (Str×AV)):=l.foldr (λq k=>EM.bind (r.ev ae q.1) λka=>onStr ka (λx=>EM.bind (r.ev ae q.2) λa=>EM.bind k λm=>EM.ret ((x,a)::m)) EM.fail) (EM.ret [])
noncomputable def Cn(r:Rec)(ae:aB)(l:List (Expr×Expr)):EM AV:=EM.bind (EM.push (.map r.hs [])) λj=>EM.bind (A4 r ae l) λm=>EM.bind (EM.aK q9 j) λq=>EM.bind (EM.aW q.2.isEmpty) λ_=>EM.turn (q.1=r.hs/\(m.map (·.1)).Nodup) (λJ=>J.set j (.map r.hs m)) (.ref j)
noncomputable def zV(ks:List (Option Expr)):Option (List Expr):=ks.foldr (λk o=>aQ k (λe=>o.map (e::·)) none) (some [])
noncomputable def A5(r:Rec)(ae:aB)(ks:List (Option Expr))(vs:List Expr):EM AV:=EM.bind (EM.opt (zV ks)) λes=>_root_.cond (Nat.beq es.length vs.length && (!es.isEmpty && Nat.ble es.length 15)) (Cn r ae (es.zip vs)) EM.fail
noncomputable def kz(n:Nat)(Z:ay)(F:Fz):List (Str×AV)->List (Value×Value)->Prop
 | [],[]=>True
 | q::m,v::vs=>((∃t,v.1 = .str q.1 t)/\Den n Z F q.2 v.2)/\kz n Z F m vs
 | _,_=>False
theorem kz.mono{n n':Nat}{Z aq:ay}{F F':Fz}(h1:n<=n')(h2:∀i,i<n->aq i=Z i)(h3:∀a o,F a=some o->F' a=some o):∀{m:List (Str×AV)} {vs:List (Value×Value)},kz n Z F m vs->kz n' aq F' m vs
 | [],[],_=>trivial
 | [],_::_,h=>h.elim
 | _::_,[],h=>h.elim
 | _::_,_::_,h=>⟨⟨h.1.1,h.1.2.mono h1 h2 h3⟩,kz.mono h1 h2 h3 h.2⟩
noncomputable def uF(m:List (Str×AV))(vs:List (Value×Value)):Kn:=⟨λn Z F=>kz n Z F m vs,λh1 h2 h3 h=>kz.mono h1 h2 h3 h⟩
noncomputable def uG(m:List (Str×AV))(vs:List (Value×Value)):List (Str×Value):=(m.map (·.1)).zip (vs.map (·.2))
theorem xa:∀{ks:List (Option Expr)} {es:List Expr},zV ks=some es->ks=es.map some
 | [],es,h=>by rw[<- Option.some.inj h]; rfl
 | k::ks,es,h=>eA (P:=λ(x:Option (List Expr)) k=>x=some es->k::ks=es.map some) (λe h=>(Option.map_eq_some_iff.mp h).elim λes' q=>by rw[<- q.2,xa q.1]; rfl) (λh=>aJ h) h
section
variable{X:Ctx}{A:Around}{Z:ay}{F:Fz}{J:St}{s:Shared}{Y:Kn}{r:Rec}{n:Nat}{ae:aB}{env:Env}
theorem xo{P:Program}{w:World}{n:Nat}{Z:ay}{F:Fz}:∀{m:List (Str×AV)} {vs:List (Value×Value)},kz n Z F m vs->Carries (strKind P w) vs (uG m vs)/\(uG m vs).map (·.1)=m.map (·.1)/\ax n Z F (m.map (·.2)) ((uG m vs).map (·.2))
 | [],[],_=>⟨trivial,rfl,rfl⟩
 | [],_::_,h=>h.elim
 | _::_,[],h=>h.elim
 | q::m,v::vs,h=>by
  have ih:=xo (P:=P) (w:=w) h.2
  refine h.1.1.elim λt e=>⟨⟨?_,rfl,ih.1⟩,congrArg (q.1::·) ih.2.1,h.1.2,ih.2.2⟩
  rw[e]
  exact strKind_is P w q.1 t
noncomputable def y4(env:Env)(pos:Pos)(e:Expr)(l:List (Sem Value×Sem Value))(kv:Value):Sem (List (Value×Value)):=PySem.holding [kv] (eval e env >>= λx=>PySem.standAt pos >>= λ_=>pure x) >>= λvv=>PySem.holding [kv,vv] (evalPairs l) >>= λrest=>pure ((kv,vv)::rest)
theorem ah.pairs(S:Sound X r n)(hA:aN X A n)(pos:Pos):∀l:List (Expr×Expr),ah X A (aA X ae env) uF (A4 r ae l) (evalPairs (l.map λq=>(eval q.1 env,eval q.2 env >>= λx=>PySem.standAt pos >>= λ_=>pure x)))
 | []=>ah.ret λ_ _ _ _=>trivial
 | q::l=>ah.eq (t':=eval q.1 env >>= y4 env pos q.2 (l.map λq=>(eval q.1 env,eval q.2 env >>= λx=>PySem.standAt pos >>= λ_=>pure x))) rfl
  (ah.bind (S.ev A hA ae env q.1) λka kv=>gb (P:=λx ka=>ah X A ((aA X ae env).and (ao ka kv)) uF x (y4 env pos q.2 (l.map λq=>(eval q.1 env,eval q.2 env >>= λx=>PySem.standAt pos >>= λ_=>pure x)) kv))
   (λx=>ah.bind (ah.holding (ah.stood ((S.ev A hA ae env q.2).weaken (Kn.fst (Kn.le_refl _))))) λa av=>ah.bind (ah.holding ((ah.pairs S hA pos l).weaken (Kn.fst (Kn.fst (Kn.le_refl _))))) λm vs=>ah.ret (b:=(x,a)::m) (a:=(kv,av)::vs) (R:=uF) λ_ _ _ g=>⟨⟨g.1.1.2,g.1.2⟩,g.2⟩) ah.fail)
theorem ym{pos:Pos}:∀{es vs:List Expr},es.length=vs.length->(evalEachOpt (es.map some) env).zip ((evalEach vs env).map λv=>do let x <- v; PySem.standAt pos; pure x)=((es.zip vs).map λq=>(eval q.1 env,eval q.2 env >>= λx=>PySem.standAt pos >>= λ_=>pure x)).map λp=>(some p.1,p.2)
 | [],[],_=>rfl
 | [],_::_,h=>nomatch h
 | _::_,[],h=>nomatch h
 | _::es,_::vs,h=>congrArg (_::·) (ym (Nat.succ.inj h))
theorem HV(hs:Str->Int)(n:Nat)(Z:ay)(F:Fz):jX n Z F hs [] { cls:=.type "dict",data:=.dict #[] }:=⟨[],#[],0,⟨rfl,rfl,rfl⟩,rfl,λe he=>by simp at he,trivial,List.nodup_nil,rfl,rfl⟩
theorem ah.dict(S:Sound X r n)(hA:aN X A n)(es vs:List Expr)(pos:Pos)(hl:es.length=vs.length)(h0:es≠[])(h1:es.length<=15):bh X A ae env (Cn r ae (es.zip vs)) (.Dict (es.map some) vs pos):=ah.bw λJ Z F s I g=>ai.push <| ai.bind (ah.at (ah.pairs (ae:=ae) (env:=env) S hA pos (es.zip vs))) λm aZ c=>ai.aK sE λq hx=>ai.aW λhe=>ai.turn λhq=>Goes.to λQ E hQ=>by
 have r1:=I.push (a:=s.heap.objs.size) (c:=.map r.hs []) (h':=s.heap.push { cls:=.type "dict",data:=.dict #[] }) (Heap.get?_none_of_le (Nat.le_refl _)) (λb o e=>Heap.get?_push_of_some _ e) ⟨_,Heap.get?_push_size _ rfl,HV _ _ _ _⟩ s.toks
 have hz:(es.zip vs).length=es.length:=by rw[List.length_zip,<- hl,Nat.min_self]
 refine wpAny_Dict_pairs (knd:=strKind X.prog X.w) (ym hl) (λe=>h0 (List.eq_nil_of_length_eq_zero (by rw[<- hz,<- List.length_map,e]; rfl))) (by rw[List.length_map,hz]; exact h1)
  (c (Z.put J.n s.heap.objs.size) F _ r1.1 ((aA X ae env).mono r1.2.le r1.2.same r1.2.sub g) _ E λvs' ar aF aH d a0 aM=>?_)
 have pc:=xo (P:=X.prog) (w:=X.w) d
 have ha:aF J.n=s.heap.objs.size:=(aM.same J.n (Nat.lt_succ_self _)).trans (ay.fK Z J.n _)
 rw[List.isEmpty_iff.mp he,hq.1,S.hs] at hx
 refine⟨_,pc.1,(td (P:=X.prog) (a0.cell _ _ hx)).elim λkvs p=>?_,λh' hd' hsb=>?_⟩
 ·rw[<- ha]
  have:kvs=[]:=List.map_eq_nil_iff.mp p.2.1
  exact this▸p.1
 ·rw[merged_nil_of_nodup _ (by rw[pc.2.1]; exact hq.2)] at hd'
  rw[<- ha] at hd' hsb
  have r2:=a0.set hx hsb.extBut (c':=.map r.hs m) (by rw[S.hs]; exact yG hd' pc.2.1 pc.2.2) (ar.toks+vs'.length)
  exact hQ _ _ aF aH ⟨congrArg Value.ref ha.symm,Nat.lt_of_lt_of_le (Nat.lt_succ_self _) aM.le⟩ ⟨r2.1,(r1.2.trans aM).trans r2.2⟩
theorem ah.Kz(S:Sound X r n)(hA:aN X A n)(ks:List (Option Expr))(vs:List Expr)(pos:Pos):bh X A ae env (A5 r ae ks vs) (.Dict ks vs pos):=ah.opt λes he=>ah.aW λh=>by
 rw[Bool.and_eq_true,Bool.and_eq_true] at h
 rw[xa he]
 exact ah.dict S hA es vs pos (Nat.eq_of_beq_eq_true h.1) (λe=>by rw[e] at h; exact nomatch h.2.1) (Nat.le_of_ble_eq_true h.2.2)
end
noncomputable def v9(h:Str->Int):Rec where
 ev _ _:=EM.fail
 tst _ _:=EM.fail
 aV _ _:=EM.fail
 call _ _ _:=EM.fail
 loop _ _ _:=EM.fail
 cp _ _ _ _:=EM.fail
 comp _ _ _ _ _ _:=EM.fail
 hs:=h
noncomputable def KA:cu where
 xe _ _:=EM.fail
 xs _ _:=EM.fail
 xcall _ _ _:=EM.fail
noncomputable def nz(K:Frag)(ae:aB)(e:Expr):EM AV:=lq e (λc _ _=>uh c) <| eC e (λx _=>eName K ae x) <| fu e (λo attr _=>eC o (λy _=>EM.bind (eName K ae y) λov=>u7 K ov attr) EM.fail) EM.fail
noncomputable def Co(K:Frag):Rec:={ v9 (λ_=>0) with ev:=nz K }
noncomputable def nA(K:Frag)(ae:aB)(e:Expr):EM AV:=lA e (λelts _ _=>EM.bind (dN (Co K) ae elts) λvs=>jD vs) (nz K ae e)
noncomputable def rn(f:AV)(as:List AV)(ks:List (Str×AV)):EM AV:=eM f (λv=>lu v (λnm=>dF ks (_root_.cond (nm == "list.append") (fM as) EM.fail) EM.fail) EM.fail) EM.fail
noncomputable def Cp(K:Frag):Rec:={ v9 (λ_=>0) with ev:=nA K,call:=rn }
noncomputable def KC(K:Frag)(ae:aB)(o:Expr)(name:Str)(apos:Pos)(args:List Expr)(pos:Pos):EM aU:=_root_.cond (iq o && jf args [] && (apos.endLine == pos.line)) (EM.bind (EM.bind (nA K ae o) λov=>EM.bind (kq K ov name) λp=>eX K (Cp K) ae p.1 p.2 args []) λ_=>EM.ret .next) EM.fail
noncomputable def Cq(K:Frag)(ae:aB)(st:Stmt):EM aU:=qp st (λe _=>kx e (λf args kws pos=>fu f (λo name apos=>dF kws (KC K ae o name apos args pos) EM.fail) EM.fail) EM.fail) EM.fail
section
variable{X:Ctx}{A:Around}{Z:ay}{F:Fz}{J:St}{s:Shared}{Y:Kn}{ae:aB}{env:Env}
theorem ah.nz(L:ey X)(e:Expr):bh X A ae env (nz X.K ae e) e:=by
 refine mx (P:=λx e=>bh X A ae env x e) (λc k p=>ah.const _ _ _) ?_
 refine eJ (P:=λx e=>bh X A ae env x e) (λy p=>ah.name L y p) ?_
 refine fH (P:=λx e=>bh X A ae env x e) (λo attr p=>eJ (P:=λx o=>bh X A ae env x (.Attribute o attr p)) (λy yp=>?_) ah.fail) ah.fail
 refine ah.eq (t':=eval (.Name y yp) env >>= λov=>PySem.standAt p.atName >>= λ_=>PySem.holding [ov] (getAttr ov attr true) >>= λr=>letTemporaryGo (.Name y yp) ov r >>= λ_=>pure r) rfl ?_
 exact ah.bind (ah.name L y yp) λa av=>ah.standAt (ah.letGo (ah.holding (ah.attr (Kn.snd (Kn.le_refl _)))))
theorem ah.nA(L:ey X)(e:Expr):bh X A ae env (nA X.K ae e) e :=
 iU (P:=λx e=>bh X A ae env x e) (λelts c p=>ah.eq (t':=PySem.standAt p >>= λ_=>spliced (backTo p (starEach elts env)) >>= λvs=>PySem.newTuple vs) rfl
  (ah.standAt (ah.bind (ah.q6 (r:=Co X.K) (λe=>ah.nz L e) p elts (Kn.le_refl _)) λa av=>ah.newTuple (Kn.snd (Kn.le_refl _))))) (ah.nz L e)
theorem ah.rn(f:AV)(fv:Value)(as:List AV)(vs:List Value)(ks:List (Str×AV))(kvs:List Value):ah X A (cV f fv as vs ks kvs) ao (rn f as ks) (PySem.call fv vs ((ks.map (·.1)).zip kvs)):=by
 refine ip (P:=λx f=>ah X A (cV f fv as vs ks kvs) ao x (PySem.call fv vs ((ks.map (·.1)).zip kvs))) (λv=>?_) ah.fail
 refine my (P:=λx v=>ah X A (cV (.val v) fv as vs ks kvs) ao x (PySem.call fv vs ((ks.map (·.1)).zip kvs))) (λnm=>ah.cz (P:=fv = .builtin nm) (λ_ _ _ g=>g.1) λe=>?_) ah.fail
 rw[e]
 refine ek (P:=λx ks=>ah X A (cV (.val (.builtin nm)) (.builtin nm) as vs ks kvs) ao x (PySem.call (.builtin nm) vs ((ks.map (·.1)).zip kvs))) (ah.aW λh=>?_) ah.fail
 rw[eq_of_beq h]
 exact ah.append as _ vs λ_ _ _ g=>g.2.1
theorem ah.hand(L:ey X)(st:Stmt):bu X A ae env (Cq X.K ae st) st:=by
 refine si (P:=λx st=>bu X A ae env x st) (λe p=>?_) ah.fail
 refine lr (P:=λx e=>bu X A ae env x (.Expr e p)) (λf args kws pos=>?_) ah.fail
 refine fH (P:=λx f=>bu X A ae env x (.Expr (.Call f args kws pos) p)) (λo name apos=>?_) ah.fail
 refine ek (P:=λx kws=>bu X A ae env x (.Expr (.Call (.Attribute o name apos) args kws pos) p)) (ah.aW λhc=>?_) ah.fail
 refine ah.cz (Y:=aA X ae env) (P:=interactive env=false) (λ_ _ _ g=>by unfold interactive; rw[bx.sc g,bx.fn g]; rfl) λhi=>?_
 rw[exec_Expr env _ p hi rfl,nM (jH hc).1 (jH hc).2.1 (jH hc).2.2]
 exact ah.standAt (ah.bind (ah.bind (ah.nA L o) λa av=>ah.standAt (ah.bind (ah.holding (ah.method (Kn.snd (Kn.le_refl _)))) λp q =>
  ah.x5 (r:=Cp X.K) (λe=>ah.nA L e) (λf fv as vs ks kvs=>ah.rn f fv as vs ks kvs) pos args [] (Kn.fst (Kn.fst (Kn.le_refl _))) (Kn.snd (Kn.fst (Kn.le_refl _))) (Kn.snd (Kn.snd (Kn.le_refl _))))) λ_ _=>ah.B1)
noncomputable def nf(m:List (Str×AV))(x:Str):List (Str×AV):=m.filter λp=>!(p.1 == x)
theorem pP{x y:Str}{av:AV}:∀{m:List (Str×AV)},(nf m x).lookup y=some av->y≠x/\m.lookup y=some av
 | [],h=>aJ h
 | p::m,h=>by
  unfold nf at h
  rw[List.filter_cons] at h
  rw[List.lookup_cons]
  cases e:p.1 == x with
  | true =>
   rw[e] at h
   have ih:=pP (m:=m) (show(nf m x).lookup y=some av from h)
   rw[show(y == p.1)=false from beq_false_of_ne λq=>ih.1 (q.trans (eq_of_beq e))]
   exact ih
  | false =>
   rw[e] at h
   change List.lookup y (p::nf m x)=some av at h
   rw[List.lookup_cons] at h
   cases q:y == p.1 with
   | true=>rw[q] at h; exact⟨λr=>ne_of_beq_false e ((eq_of_beq q).symm.trans r),h⟩
   | false=>rw[q] at h; exact pP h
noncomputable def zW(ae:aB)(x:Str):EM Unit:=EM.bind (EM.aW (ae.scope.names.lookup x == some .local)) λ_=>EM.bind (EM.aK jh ae.loc) λm=>EM.bind (EM.opt (m.lookup x)) λ_=>EM.upd λJ=>J.set ae.loc (.ns (nf m x))
theorem ah.unbind{x:Str}{pos:Pos}:ah X A (aA X ae env) (λ_ _=>Kn.top) (zW ae x) (unbindBehindTheSuite env x pos):=ah.bw λJ Z F s I g=>ai.aW λhl=>ai.aK mE λm hm=>ai.opt λav hv=>ai.gX λQ E hQ=>by
 have h1:env.scope=ae.scope:=bx.sc g
 have h3:env.locals=Z ae.loc:=bx.loc g
 have hk:env.scope.kind = .function:=h1▸bx.fn g
 refine(I.nu hm).elim λf q=>(q.2 _ _ hv).elim λw hw=>?_
 unfold unbindBehindTheSuite
 refine wpAny_onRaise (wpAny_unbindName_local (v:=w) (by unfold Env.kindOf; rw[h1]; exact eq_of_beq hl) (by rw[h3]; exact q.1) hw.1 (by rw[hk]; rfl) λh' u hn' hs=>?_)
 rw[h3] at hn' hs
 have r:=I.set hm hs.extBut (c':=.ns (nf m x)) (.l4 hn' λy av h=>(q.2 y av (pP h).2).imp λv p=>⟨(if_neg (pP h).1).trans p.1,p.2⟩) s.toks
 exact hQ () _ Z F trivial r.1 r.2
noncomputable def zX(K:Frag)(c:AV)(C':Addr):Bool:=eM c (λv=>gh v (λC=>Nat.beq C C' && jF K C) false) false
theorem Fp{K:Frag}{c:AV}{C':Addr}:zX K c C' = true->c = .val (.ref C')/\jF K C' = true :=
 ip (P:=λb c=>b=true->c = .val (.ref C')/\jF K C' = true) (λv=>gO (P:=λb v=>b=true->AV.val v = .val (.ref C')/\jF K C' = true) (λC h=>by
  rw[Bool.and_eq_true] at h
  rw[<- Nat.eq_of_beq_eq_true h.1]
  exact⟨rfl,h.2⟩) ff) ff
noncomputable def tW(K:Frag)(ae:aB)(cls nm:Str)(suite:List Stmt)(e:Nat):EM aU:=EM.bind (eName K ae cls) λc=>EM.bind (EM.aK lS e) λq=>EM.bind (EM.aW (zX K c q.1)) λ_=>EM.bind (ku e) λ_ =>
  EM.bind (fe ae nm (.ref e)) λ_=>EM.bind (bp (Cq K ae) suite) λfl=>EM.bind (fe ae nm eD) λ_=>EM.bind (zW ae nm) λ_=>EM.ret fl
noncomputable def Dn(K:Frag)(r:Rec)(xr:cu)(ae:aB)(body:List Stmt)(cls nm:Str)(suite:List Stmt):EM aU:=EM.bind gB λb=>_root_.cond b (EM.bind (xr.xs ae body) λe=>EM.bind (iG ae.frm e) λ_=>EM.bind (ku e) λ_=>tW K ae cls nm suite e) (r.aV ae body)
theorem ah.KD{r:Rec}{xr:cu}{n:Nat}(L:ey X)(S:Sound X r n)(XS:lP X xr n)(hA:aN X A n)(body:List Stmt)(cls nm:Str)(np hpos pos:Pos)(fB:Stmt)(suite:List Stmt):
  bu X A ae env (Dn X.K r xr ae body cls nm (fB::suite)) (.Try body [.ExceptHandler (some (.Name cls np)) (some nm) (fB::suite) hpos] [] [] pos):=ah.word λb=>by
 refine bQ (P:=λx=>ah X A (aA X ae env) cn x (exec (.Try body [.ExceptHandler (some (.Name cls np)) (some nm) (fB::suite) hpos] [] [] pos) env)) (λ_=>?_) ?_
 ·refine ah.bw λJ Z F s I g=>ai.bind (XS.xs A hA ae env body J) λe au c1=>ai.bind (ai.all λv=>ah.at (ah.note (A:=A) (Y:=(aA X ae env).and (ao (.ref e) v)) hA.2.2.2.2 (Kn.fst (Kn.le_refl _)) (Kn.snd (Kn.le_refl _)))) λ_ aZ c2=>ai.bind (pX (X:=X)) λ_ a7 c3 =>
   ai.bind (ai.all λA'=>ah.at (X:=X) (A:=A') (ah.name (env:=env) L cls np)) λc cW c4=>ai.aK mC λq he=>ai.aW λhq=>ai.bind (pX (X:=X)) λ_ ng c5=>ai.bind (ai.all λA'=>ai.all λv=>ah.at (X:=X) (A:=A') (ah.store (env:=env) (Y:=(aA X ae env).and (ao (.ref e) v)) (x:=nm) (Kn.fst (Kn.le_refl _)) (Kn.snd (Kn.le_refl _)))) λ_ Km c6 =>
   ai.bind (ai.all λA'=>ah.at (X:=X) (A:=A') (ah.execs (env:=env) (λst=>ah.hand L st) (fB::suite))) λfl OC c7=>ai.bind (ai.all λA'=>ah.at (X:=X) (A:=A') (ah.bindName (env:=env) (Y:=aA X ae env) (y:=nm) (av:=eD) (v:=.none) (Kn.le_refl _) (λ_ _ _ _=>rfl))) λ_ OD c8=>ai.bind (ai.all λA'=>ai.all λp=>ah.at (X:=X) (A:=A') (ah.unbind (X:=X) (env:=env) (pos:=p))) λ_ OE c9=>ai.ret λQ E hQ=>?_
  have hc:=Fp hq
  refine wpAny_Try_except (c1 Z F s I g _ _ λv ar aF aH l7 a0 aM=>?_)
  refine c2 v aF aH ar a0 ⟨(aA X ae env).mono aM.le aM.same aM.sub g,l7⟩ _ _ λ_ a8 bg bo _ bG bC=>?_
  have gx:v = .ref (bg e)/\e<aZ.n:=Den.step l7 bC
  rw[gx.1]
  refine c3 bg bo a8 bG _ _ _ _ λcN dg cD=>?_
  have st13:=(aM.trans bC).trans cD
  have hlt:e<a7.n:=Nat.lt_of_lt_of_le gx.2 cD.le
  refine wpAny_handleBy_cons (codeAny_handlers_test ?_) (by intro q; cases q)
  refine c4 _ bg bo cN dg ((aA X ae env).mono st13.le st13.same st13.sub g) _ _ λcv iK kG ny dc eR gr=>?_
  rw[hc.1] at dc
  rw[show cv = .ref q.1 from dc]
  refine(eR.iO he).elim λvs hx=>?_
  have heq:kG e=bg e:=gr.same e hlt
  cases xl eR.bV hc.2 with | mk nm' q' N' bs hdct sn sub ab col ddd k0 k1 k2 k3 k5 hC =>
  refine wpAny_excMatches_sub_self hC (heq▸hx.1) rfl (by decide) ?_
  refine codeAny_handlers_suite_as ?_
  rw[<- heq]
  refine c5 kG ny iK eR _ _ _ _ λgZ Mu Cr=>?_
  have st15:=(st13.trans gr).trans Cr
  refine c6 _ (.ref (kG e)) kG ny gZ Mu ⟨(aA X ae env).mono st15.le st15.same st15.sub g,⟨rfl,Nat.lt_of_lt_of_le (Nat.lt_of_lt_of_le hlt gr.le) Cr.le⟩⟩ _ _ λ_ Mv KG Mw _ vX nc=>?_
  have st16:=st15.trans nc
  refine c7 _ KG Mw Mv vX ((aA X ae env).mono st16.le st16.same st16.sub g) _ _ λfv Mx KH My Mz MA KI=>?_
  have st17:=st16.trans KI
  refine wpAny_bind (c8 _ KH My Mx MA ((aA X ae env).mono st17.le st17.same st17.sub g) _ _ λ_ MB KJ MC _ MD Cs=>?_)
  have st18:=st17.trans Cs
  refine c9 _ _ KJ MC MB MD ((aA X ae env).mono st18.le st18.same st18.sub g) _ _ λ_ ME KL MF _ MG Ct=>?_
  have st79:=Cs.trans Ct
  exact hQ fv ME KL MF ((cn _ fv).mono st79.le st79.same st79.sub Mz) MG (st18.trans Ct)
 ·refine ah.bw λJ Z F s I g=>(ah.at (S.aV A hA ae env body)).mono λfl aj c Q E hQ=>wpAny_Try_except (c Z F s I g _ _ λf s' aq F' a b c=>?_)
  cases f with
  | next=>exact wpAny_execs_nil (hQ _ s' aq F' a b c)
  | _=>exact hQ _ s' aq F' a b c
end
section
variable(K:Frag)(r:Rec)(xr:cu)(ae:aB)(o:Option gY)(target iter:Expr)(body:List Stmt)
noncomputable def Cu:EM aU:=aQ o (λG=>kx iter (λf args kws pos=>fu f (λob name apos=>dF kws (_root_.cond (apos.endLine == pos.line) (zS K r xr ae G target ob name args body) EM.fail) EM.fail) EM.fail) EM.fail) (BY r ae target iter body)
noncomputable def Cv:EM Nat:=aQ o (λG=>kx iter (λf args kws pos=>fu f (λob name apos=>dF kws (_root_.cond (apos.endLine == pos.line) (zT K r xr ae G target ob name args body) EM.fail) EM.fail) EM.fail) EM.fail) EM.fail
end
noncomputable def uH(K:Frag)(x:Ext)(r:Rec)(xr:cu)(ae:aB)(st:Stmt):EM Nat:=uW st (λtarget iter body els p=>dF els (Cv K r xr ae (x.gen st) target iter body) EM.fail) (B4 K r xr ae st)
noncomputable def Dp(K:Frag)(r:Rec)(ae:aB)(t value:Expr)(pos:Pos):EM aU:=lA t (λelts k tpos=>Cm K r ae elts k tpos value pos) <| pK value (λelt gens sc cpos=>qK gens (λtarget iter c=>eC t (λy yp=>xm r ae y yp elt target iter c sc cpos) EM.fail) EM.fail) (yO K r ae t value)
noncomputable def Cw(K:Frag)(r:Rec)(xr:cu)(ae:aB)(body:List Stmt)(h:ExceptHandler):EM aU:=Au h (λt n suite=>aQ t (λt=>aQ n (λnm=>eC t (λcls _=>gj suite (λfB s=>Dn K r xr ae body cls nm (fB::s)) EM.fail) EM.fail) EM.fail) EM.fail)
noncomputable def Cx(ae:aB)(name:Str)(args:Arguments)(body:List Stmt)(ds:List Expr)(rt:Option Expr)(tp:List TypeParam)(sc:Scope)(so:Option Scope)(nm:Str)(pos:Pos):EM aU:=dF ds (dF tp (_root_.cond ((rt.isNone && so.isNone) && nm == name) (v7 ae name args body sc pos) EM.fail) EM.fail) EM.fail
noncomputable def rD(K:Frag)(x:Ext)(r:Rec)(xr:cu)(ae:aB)(st:Stmt):EM aU:=qp st (λe _=>AU r ae e) <| s6 st (λts value pos=>dA ts (λt=>Dp K r ae t value pos) EM.fail) <| vL st (λtest body orelse _=>cF (r.tst ae test) (r.aV ae body) (r.aV ae orelse)) <|
 yv st (λo _=>aQ o (λe=>EM.bind (r.ev ae e) λv=>EM.ret (.ret v)) (EM.ret (.ret eD))) <| xf st (λt op value _=>eC t (λy _=>Dm K r ae y op value) <| kc t (λo i _=>BX r ae o i op value) EM.fail) <|
 zj st (λtest body els _=>dF els (r.loop ae test body) EM.fail) <| uW st (λtarget iter body els p=>dF els (Cu K r xr ae (x.gen st) target iter body) EM.fail) <|
 Bu st (λbody hs els fin _=>dF els (dF fin (dA hs (Cw K r xr ae body) EM.fail) EM.fail) EM.fail) <| yw st (λtest _ _=>cF (r.tst ae test) (EM.ret .next) EM.fail) <|
 wZ st (λname args body ds rt tp sc so nm pos=>Cx ae name args body ds rt tp sc so nm pos) <| Am st (λ_=>EM.ret .next) <| zk st (λ_=>EM.ret .brk) <| onContinue st (λ_=>EM.ret .cont) EM.fail
noncomputable def Dq(c:Const):Option Str:=match c with
 | .str x=>some x
 | _=>none
theorem HW{c:Const}{x:Str}(h:Dq c=some x):c = .str x:=by
 cases c with
 | str y=>exact congrArg Const.str (Option.some.inj h)
 | _=>exact aJ h
section
variable(K:Frag)(r:Rec)(ae:aB)
noncomputable def I0(o:Expr)(name:Str)(apos:Pos)(elt:Expr)(gens:List Comprehension)(gsc:Scope)(pos:Pos):EM AV:=lq o (λc _ _=>EM.bind (EM.opt (Dq c)) λsep=>fu elt (λb attr _=>eC b (λx1 _=>qK gens (λt iter c=>aQ c (λ_=>EM.fail) (eC t (λy _=>_root_.cond ((name == "join") && (apos.endLine == pos.line)) (Cb K r ae sep y x1 attr iter gsc) EM.fail) EM.fail)) EM.fail) EM.fail) EM.fail) EM.fail
noncomputable def A6(f:Expr)(args:List Expr)(kws:List Keyword)(pos:Pos):EM AV:=fu f (λo name apos=>dA args (λg=>sZ g (λelt gens gsc _=>dF kws (I0 K r ae o name apos elt gens gsc pos) EM.fail) (oq K r ae o name apos [g] kws pos)) (oq K r ae o name apos args kws pos)) <|
 eC f (λy p=>EM.bind (r.ev ae (.Name y p)) λf=>eX K r ae f [] args kws) EM.fail
noncomputable def KN(o i:Expr):EM AV:=yt i (λlo hi st _=>aQ st (λ_=>EM.fail) (A2 K r ae o lo hi)) (BW K r ae o i)
noncomputable def KO(op:BoolOp)(es:List Expr):EM AV:=gj es (λa es=>gj es (λb es=>dF es (cg op .And (EM.bind (r.ev ae a) λv=>cF (i9 K v) (r.ev ae b) (EM.ret v)) (cg op .Or (EM.bind (r.ev ae a) λv=>cF (i9 K v) (EM.ret v) (r.ev ae b)) EM.fail)) EM.fail) EM.fail) EM.fail
noncomputable def Dr(y:Expr):EM AV:=EM.bind (r.ev ae y) λv=>EM.bind (i9 K v) λb=>EM.ret (.bool (!b))
noncomputable def Cy(e:Expr):EM AV:=lq e (λc _ _=>uh c) <| eC e (λx _=>eName K ae x) <| fu e (λo attr _=>AP K r ae o attr) <| kx e (λf args kws pos=>A6 K r ae f args kws pos) <|
 kc e (λo i _=>KN K r ae o i) <| tu e (λl op rr _=>Cj r ae l op rr) <| pR e (λl ops rs _=>dA ops (λop=>dA rs (λrr=>vC K r ae l op rr) EM.fail) EM.fail) <| qo e (λt b o _=>cF (r.tst ae t) (r.ev ae b) (r.ev ae o)) <|
 tv e (λelts _=>EM.bind (dN r ae elts) λvs=>nQ vs) <| lA e (λelts _ _=>EM.bind (dN r ae elts) λvs=>p6 vs) <| pQ e (λop y _=>cg op .USub (C8 r ae y) (cg op .Not (Dr K r ae y) EM.fail)) <|
 tA e (λks vs _=>A5 r ae ks vs) <| pK e (λelt gens sc _=>qK gens (λtarget iter c=>yd r ae elt target iter c sc) EM.fail) <| pY e (λop es _=>KO K r ae op es) EM.fail
noncomputable def A7(l:Expr)(op:CmpOp)(rr:Expr):EM Bool:=_root_.cond (behindInMarks op rr) EM.fail (EM.bind (r.ev ae l) λa=>EM.bind (r.ev ae rr) λb=>EM.bind (rl K op a b) λc=>i9 K c)
noncomputable def A8(e:Expr):EM Bool:=pQ e (λop y _=>cg op .Not (EM.bind (r.tst ae y) λb=>EM.ret (!b)) EM.fail) <| pY e (λop vs _=>C9 r ae op vs) <|
 pR e (λl ops rs _=>dA ops (λop=>dA rs (λrr=>A7 K r ae l op rr) EM.fail) EM.fail) <| _root_.cond (uz e) (EM.bind (r.ev ae e) λv=>i9 K v) EM.fail
end
section
variable(K:Frag)(x:Ext)
noncomputable def KP(r:Rec)(xr:cu):Rec where
 ev:=Cy K r
 tst:=A8 K r
 aV ae:=bp (rD K x r xr ae)
 call:=BV K r
 loop:=BZ r
 cp:=oO K r
 comp:=kF K r
 hs:=x.hs
noncomputable def KQ(r:Rec)(xr:cu):cu where
 xe:=B5 K r xr
 xs ae:=fU (rD K x r xr ae) (uH K x r xr ae)
 xcall:=DW K xr
noncomputable def rx(n:Nat):Rec×cu:=Nat.rec (motive:=λ_=>Rec×cu) (v9 x.hs,KA) (λ_ p=>(KP K x p.1 p.2,KQ K x p.1 p.2)) n
noncomputable def wa(n:Nat):Rec:=(rx K x n).1
noncomputable def KR(n:Nat):cu:=(rx K x n).2
end
section
variable{X:Ctx}{A:Around}{x:Ext}{r:Rec}{xr:cu}{n:Nat}{ae:aB}{env:Env}
theorem xS(hA:aN X A (n+1)):A.units+10<cLine:=Nat.lt_of_le_of_lt (Nat.add_le_add_left (Nat.le_trans (by decide) (Nat.mul_le_mul_left 40 (Nat.le_add_left 1 n))) _) hA.2.1
end
section
variable{X:Ctx}{A:Around}{x:Ext}{r:Rec}{xr:cu}{n:Nat}{ae:aB}{env:Env}
theorem dQ.fail{Y:Kn}{c:Code}:dQ X A Y EM.fail c:=λ_ _ _ _ e=>aJ e
theorem ah.KS(S:Sound X r n)(hA:aN X A (n+1))(f:Expr)(args:List Expr)(kws:List Keyword)(pos:Pos):bh X A ae env (A6 X.K r ae f args kws pos) (.Call f args kws pos):=by
 refine fH (P:=λx f=>bh X A ae env x (.Call f args kws pos)) (λo name apos=>?_) ?_
 ·have m:=ah.Ke (ae:=ae) (env:=env) S hA.less o name apos args kws pos
  refine dC (P:=λx args=>bh X A ae env (oq X.K r ae o name apos args kws pos) (.Call (.Attribute o name apos) args kws pos)->bh X A ae env x (.Call (.Attribute o name apos) args kws pos)) (λg m=>?_) (λm=>m) m
  refine w4 (P:=λx g=>bh X A ae env (oq X.K r ae o name apos [g] kws pos) (.Call (.Attribute o name apos) [g] kws pos)->bh X A ae env x (.Call (.Attribute o name apos) [g] kws pos)) (λelt gens gsc gpos _=>?_) (λm=>m) m
  refine ek (P:=λx kws=>bh X A ae env x (.Call (.Attribute o name apos) [.GeneratorExp elt gens gsc gpos] kws pos)) ?_ ah.fail
  refine mx (P:=λx o=>bh X A ae env x (.Call (.Attribute o name apos) [.GeneratorExp elt gens gsc gpos] [] pos)) (λc kk p0=>ah.opt λsep hs=>?_) ah.fail
  rw[HW hs]
  refine fH (P:=λx elt=>bh X A ae env x (.Call (.Attribute (.Constant (.str sep) kk p0) name apos) [.GeneratorExp elt gens gsc gpos] [] pos)) (λb attr q2=>?_) ah.fail
  refine eJ (P:=λx b=>bh X A ae env x (.Call (.Attribute (.Constant (.str sep) kk p0) name apos) [.GeneratorExp (.Attribute b attr q2) gens gsc gpos] [] pos)) (λx1 q1=>?_) ah.fail
  refine sx (P:=λx gens=>bh X A ae env x (.Call (.Attribute (.Constant (.str sep) kk p0) name apos) [.GeneratorExp (.Attribute (.Name x1 q1) attr q2) gens gsc gpos] [] pos)) (λt iter c=>?_) λ_=>ah.fail
  cases c with
  | some _=>exact ah.fail
  | none =>
   refine eJ (P:=λx t=>bh X A ae env x (.Call (.Attribute (.Constant (.str sep) kk p0) name apos) [.GeneratorExp (.Attribute (.Name x1 q1) attr q2) [⟨t,iter,[],0⟩] gsc gpos] [] pos)) (λy px=>ah.aW λh=>?_) ah.fail
   rw[Bool.and_eq_true] at h
   rw[eq_of_beq h.1]
   exact ah.join S hA sep y x1 attr kk p0 apos pos px q1 q2 gpos iter gsc (eq_of_beq h.2)
 ·exact eJ (P:=λx f=>bh X A ae env x (.Call f args kws pos)) (λy p=>ah.Kf S hA.less y p args kws pos) ah.fail
theorem ah.MH(S:Sound X r n)(hA:aN X A n){op:BoolOp}(h:op = .And)(a b:Expr)(p:Pos):bh X A ae env (EM.bind (r.ev ae a) λv=>cF (i9 X.K v) (r.ev ae b) (EM.ret v)) (.BoolOp op [a,b] p):=by
 subst h
 refine ah.eq (t':=eval a env >>= λv=>PySem.standAt p >>= λ_=>PySem.holding [v] (truthy v) >>= λt=>match t with | false=>pure v | true=>eval b env) (bind_congr λv=>bind_congr λ_=>bind_congr λt=>by cases t <;> rfl) ?_
 exact ah.bind (S.ev A hA ae env a) λa av=>ah.standAt (ah.br (ah.holding (ah.truth (Kn.snd (Kn.le_refl _)))) ((S.ev A hA ae env b).weaken (Kn.fst (Kn.le_refl _))) (ah.ret λ_ _ _ g=>g.2))
theorem ah.NZ(S:Sound X r n)(hA:aN X A n)(a b:Expr)(p:Pos):bh X A ae env (EM.bind (r.ev ae a) λv=>cF (i9 X.K v) (EM.ret v) (r.ev ae b)) (.BoolOp .Or [a,b] p):=by
 refine ah.eq (t':=eval a env >>= λv=>PySem.standAt p >>= λ_=>PySem.holding [v] (truthy v) >>= λt=>match t with | true=>pure v | false=>eval b env) (bind_congr λv=>bind_congr λ_=>bind_congr λt=>by cases t <;> rfl) ?_
 exact ah.bind (S.ev A hA ae env a) λa av=>ah.standAt (ah.br (ah.holding (ah.truth (Kn.snd (Kn.le_refl _)))) (ah.ret λ_ _ _ g=>g.2) ((S.ev A hA ae env b).weaken (Kn.fst (Kn.le_refl _))))
theorem ah.MI(S:Sound X r n)(hA:aN X A n)(y:Expr)(p:Pos):bh X A ae env (Dr X.K r ae y) (.UnaryOp .Not y p):=by
 refine ah.eq (t':=eval y env >>= λv=>PySem.standAt p >>= λ_=>PySem.holding [v] (PySem.holding [v] (truthy v >>= λb=>pure (.bool (!b))))) rfl ?_
 exact ah.bind (S.ev A hA ae env y) λa av=>ah.standAt (ah.holding <| ah.holding (ah.bind (ah.truth (Kn.snd (Kn.le_refl _))) λb c=>ah.cz (P:=b=c) (Kn.snd (Kn.le_refl _)) λh=>h▸ah.ret λ_ _ _ _=>rfl))
theorem ah.expr(L:ey X)(S:Sound X r n)(hA:aN X A (n+1))(e:Expr):bh X A ae env (Cy X.K r ae e) e:=by
 refine mx (P:=λx e=>bh X A ae env x e) (λc k p=>ah.const c k p) ?_
 refine eJ (P:=λx e=>bh X A ae env x e) (λy p=>ah.name L y p) ?_
 refine fH (P:=λx e=>bh X A ae env x e) (λo attr p=>ah.Kd S hA.less o attr p) ?_
 refine lr (P:=λx e=>bh X A ae env x e) (λf args kws pos=>ah.KS S hA f args kws pos) ?_
 refine la (P:=λx e=>bh X A ae env x e) (λo i p=>Eo (P:=λx i=>bh X A ae env x (.Subscript o i p)) (λlo hi st q=>?_) (ah.Mc S hA.less o i p)) ?_
 ·cases st with
  | some _=>exact ah.fail
  | none=>exact ah.slice S hA.less o lo hi q p
 refine xb (P:=λx e=>bh X A ae env x e) (λl op rr p=>ah.Mq S hA.less l op rr p) ?_
 refine rZ (P:=λx e=>bh X A ae env x e) (λl ops rs p=>dC (P:=λx ops=>bh X A ae env x (.Compare l ops rs p)) (λop=>dC (P:=λx rs=>bh X A ae env x (.Compare l [op] rs p)) (λrr=>ah.Mr S hA.less (xS hA) l op rr p) ah.fail) ah.fail) ?_
 refine sh (P:=λx e=>bh X A ae env x e) (λt b o p=>ah.NV S hA.less t b o p) ?_
 refine xc (P:=λx e=>bh X A ae env x e) (λelts p=>ah.eq (t':=PySem.standAt p >>= λ_=>spliced (backTo p (starEach elts env)) >>= λvs=>PySem.newList vs) rfl (ah.standAt (ah.bind (ah.args S hA.less p elts (Kn.le_refl _)) λa av=>ah.GI (Kn.snd (Kn.le_refl _))))) ?_
 refine iU (P:=λx e=>bh X A ae env x e) (λelts c p=>ah.eq (t':=PySem.standAt p >>= λ_=>spliced (backTo p (starEach elts env)) >>= λvs=>PySem.newTuple vs) rfl (ah.standAt (ah.bind (ah.args S hA.less p elts (Kn.le_refl _)) λa av=>ah.HJ (Kn.snd (Kn.le_refl _))))) ?_
 refine rY (P:=λx e=>bh X A ae env x e) (λop y p=>b9 (P:=λx op=>bh X A ae env x (.UnaryOp op y p)) (ah.neg S hA.less y p) (b9 (P:=λx op=>bh X A ae env x (.UnaryOp op y p)) (ah.MI S hA.less y p) ah.fail)) ?_
 refine xd (P:=λx e=>bh X A ae env x e) (λks vs p=>ah.Kz S hA.less ks vs p) ?_
 refine rX (P:=λx e=>bh X A ae env x e) (λelt gens sc p=>sx (P:=λx gens=>bh X A ae env x (.ListComp elt gens sc p)) (λt iter c=>ah.GL S hA.less elt t iter c sc p) λ_=>ah.fail) ?_
 exact r8 (P:=λx e=>bh X A ae env x e) (λop es p=>iW (P:=λx es=>bh X A ae env x (.BoolOp op es p)) (λa es=>iW (P:=λx es=>bh X A ae env x (.BoolOp op (a::es) p)) (λb es=>ek (P:=λx es=>bh X A ae env x (.BoolOp op (a::b::es) p))
  (b9 (P:=λx op=>bh X A ae env x (.BoolOp op [a,b] p)) (ah.MH S hA.less rfl a b p) (b9 (P:=λx op=>bh X A ae env x (.BoolOp op [a,b] p)) (ah.NZ S hA.less a b p) ah.fail)) ah.fail) ah.fail) ah.fail) ah.fail
theorem ah.KU(S:Sound X r n)(hA:aN X A n)(hu:A.units+10<cLine)(e:Expr):ah X A (aA X ae env) ew (A8 X.K r ae e) (isTrue e env (eval e env)):=by
 refine rY (P:=λx e=>ah X A (aA X ae env) ew x (isTrue e env (eval e env))) (λop y p=>b9 (P:=λx op=>ah X A (aA X ae env) ew x (isTrue (.UnaryOp op y p) env (eval (.UnaryOp op y p) env))) ?_ ah.fail) ?_
 ·exact ah.eq (t':=isTrue y env (eval y env) >>= λb=>pure (!b)) rfl (ah.bind (S.tst A hA ae env y) λb c=>ah.ret λ_ _ _ h=>congrArg Bool.not h.2)
 refine r8 (P:=λx e=>ah X A (aA X ae env) ew x (isTrue e env (eval e env))) (λop vs p=>ah.eq (t':=allTrue op vs env) rfl (ah.all S hA op vs)) ?_
 refine rZ (P:=λx e=>ah X A (aA X ae env) ew x (isTrue e env (eval e env))) (λl ops rs p=>dC (P:=λx ops=>ah X A (aA X ae env) ew x (isTrue (.Compare l ops rs p) env (eval (.Compare l ops rs p) env))) (λop=>dC (P:=λx rs=>ah X A (aA X ae env) ew x (isTrue (.Compare l [op] rs p) env (eval (.Compare l [op] rs p) env))) (λrr=>?_) ah.fail) ah.fail) ?_
 ·unfold A7
  cases hm:behindInMarks op rr with
  | true=>exact ah.fail
  | false =>
   rw[isTrue_Compare1,markedBehindIn_of_false hm]
   show ah X A (aA X ae env) ew (EM.bind (r.ev ae l) λa=>EM.bind (r.ev ae rr) λb=>EM.bind (rl X.K op a b) λc=>i9 X.K c) _
   exact ah.bind (S.ev A hA ae env l) λa av=>ah.bind (ah.holding ((S.ev A hA ae env rr).weaken (Kn.fst (Kn.le_refl _)))) λb bv=>ah.standAt (ah.bind (ah.operate (ah.Dl hu (Kn.fst (Kn.snd (Kn.le_refl _))) (Kn.snd (Kn.le_refl _)))) λc cv=>ah.holding (ah.truth (Kn.snd (Kn.le_refl _))))
 refine ah.aW λh=>?_
 rw[Fe h]
 exact ah.bind (S.ev A hA ae env e) λa av=>ah.standAt (ah.holding (ah.truth (Kn.snd (Kn.le_refl _))))
theorem ah.wb(S:et X r n)(XS:ix X xr n)(hA:aN X A (n+1))(o:Option gY)(target iter:Expr)(body:List Stmt)(p:Pos):bu X A ae env (Cu X.K r xr ae o target iter body) (.For target iter body [] p):=by
 refine eA (P:=λx _=>bu X A ae env x (.For target iter body [] p)) (λG=>?_) (ah.Me S.here hA.less target iter body p)
 refine lr (P:=λx iter=>bu X A ae env x (.For target iter body [] p)) (λf args kws pos=>?_) ah.fail
 refine fH (P:=λx f=>bu X A ae env x (.For target (.Call f args kws pos) body [] p)) (λob name apos=>?_) ah.fail
 exact ek (P:=λx kws=>bu X A ae env x (.For target (.Call (.Attribute ob name apos) args kws pos) body [] p)) (ah.aW λh=>ah.uB S XS hA G target ob name apos pos p args body (eq_of_beq h)) ah.fail
theorem XSim.wb(S:et X r n)(XS:ix X xr n)(hA:aN X A (n+1))(o:Option gY)(target iter:Expr)(body:List Stmt)(p:Pos):XSim X A (aA X ae env) (Cv X.K r xr ae o target iter body) (exec (.For target iter body [] p) env):=by
 refine eA (P:=λx _=>XSim X A (aA X ae env) x (exec (.For target iter body [] p) env)) (λG=>?_) XSim.fail
 refine lr (P:=λx iter=>XSim X A (aA X ae env) x (exec (.For target iter body [] p) env)) (λf args kws pos=>?_) XSim.fail
 refine fH (P:=λx f=>XSim X A (aA X ae env) x (exec (.For target (.Call f args kws pos) body [] p) env)) (λob name apos=>?_) XSim.fail
 exact ek (P:=λx kws=>XSim X A (aA X ae env) x (exec (.For target (.Call (.Attribute ob name apos) args kws pos) body [] p) env)) (XSim.aW λh=>XSim.uB S XS hA G target ob name apos pos p args body (eq_of_beq h)) XSim.fail
theorem XSim.KV(S:et X r n)(XS:ix X xr n)(hA:aN X A (n+1))(x:Ext)(st:Stmt):XSim X A (aA X ae env) (uH X.K x r xr ae st) (exec st env) :=
 xV (P:=λy st'=>XSim X A (aA X ae env) y (exec st' env)) (λtarget iter body els p=>ek (P:=λy els=>XSim X A (aA X ae env) y (exec (.For target iter body els p) env)) (XSim.wb S XS hA _ target iter body p) XSim.fail) (XSim.stmt S.here (XS X.fr) hA.less st)
theorem ah.asg(S:Sound X r n)(hA:aN X A n)(t value:Expr)(p:Pos):bu X A ae env (Dp X.K r ae t value p) (.Assign [t] value p):=by
 refine iU (P:=λx t=>bu X A ae env x (.Assign [t] value p)) (λelts k tpos=>ah.Mt S hA elts k tpos value p) ?_
 refine rX (P:=λx value=>bu X A ae env x (.Assign [t] value p)) (λelt gens sc cpos=>?_) (ah.Hy S hA t value p)
 refine sx (P:=λx gens=>bu X A ae env x (.Assign [t] (.ListComp elt gens sc cpos) p)) (λtarget iter c=>?_) λ_=>ah.fail
 exact eJ (P:=λx t=>bu X A ae env x (.Assign [t] (.ListComp elt [⟨target,iter,c.toList,0⟩] sc cpos) p)) (λy yp=>ah.Fi S hA y yp p elt target iter c sc cpos) ah.fail
theorem ah.MJ(L:ey X)(S:Sound X r n)(XS:lP X xr n)(hA:aN X A n)(body:List Stmt)(h:ExceptHandler)(p:Pos):bu X A ae env (Cw X.K r xr ae body h) (.Try body [h] [] [] p):=by
 refine EY (P:=λx h=>bu X A ae env x (.Try body [h] [] [] p)) λt n suite hp=>?_
 cases t with
 | none=>exact ah.fail
 | some t =>
  cases n with
  | none=>exact ah.fail
  | some nm =>
   refine eJ (P:=λx t=>bu X A ae env x (.Try body [.ExceptHandler (some t) (some nm) suite hp] [] [] p)) (λcls np=>?_) ah.fail
   exact iW (P:=λx suite=>bu X A ae env x (.Try body [.ExceptHandler (some (.Name cls np)) (some nm) suite hp] [] [] p)) (λfB s=>ah.KD L S XS hA body cls nm np hp p fB s) ah.fail
theorem ah.MK(L:ey X)(name:Str)(args:Arguments)(body:List Stmt)(ds:List Expr)(rt:Option Expr)(tp:List TypeParam)(sc:Scope)(so:Option Scope)(nm:Str)(pos:Pos):bu X A ae env (Cx ae name args body ds rt tp sc so nm pos) (.FunctionDef name args body ds rt tp sc so nm pos):=by
 refine ek (P:=λx ds=>bu X A ae env x (.FunctionDef name args body ds rt tp sc so nm pos)) (ek (P:=λx tp=>bu X A ae env x (.FunctionDef name args body [] rt tp sc so nm pos)) (ah.aW λh=>?_) ah.fail) ah.fail
 rw[Bool.and_eq_true,Bool.and_eq_true] at h
 rw[Option.isNone_iff_eq_none.mp h.1.1,Option.isNone_iff_eq_none.mp h.1.2,eq_of_beq h.2]
 exact ah.defn L name args body sc pos
theorem ah.one(L:ey X)(S:et X r n)(XS:ix X xr n)(hA:aN X A (n+1))(st:Stmt):bu X A ae env (rD X.K x r xr ae st) st:=by
 have T:=S.here
 have hA':=hA.less
 refine si (P:=λy st'=>bu X A ae env y st') (λe p=>ah.Kh T hA' e p) ?_
 refine w5 (P:=λy st'=>bu X A ae env y st') (λts value p=>dC (P:=λy ts=>bu X A ae env y (.Assign ts value p)) (λt=>ah.asg S.here hA.less t value p) ah.fail) ?_
 refine yu (P:=λy st'=>bu X A ae env y st') (λtest body orelse p=>?_) ?_
 ·unfold bu
  rw[exec_If]
  exact ah.standAt (ah.br (k:=λb=>if b=true then PySem.execs body env else PySem.execs orelse env) (T.tst A hA' ae env test) (T.aV A hA' ae env body) (T.aV A hA' ae env orelse))
 refine Ep (P:=λy st'=>bu X A ae env y st') (λo p=>?_) ?_
 ·cases o with
  | none=>exact ah.eq (t':=PySem.standAt _ >>= λ_=>pure (.ret .none)) rfl (ah.standAt (ah.ret λ_ _ _ _=>⟨_,rfl,rfl⟩))
  | some e =>
   show ah X A (aA X ae env) cn (EM.bind (r.ev ae e) λv=>EM.ret (.ret v)) _
   exact ah.eq (t':=PySem.standAt _ >>= λ_=>eval e env >>= λv=>pure (.ret v)) rfl (ah.standAt (ah.bind (T.ev A hA' ae env e) λa v=>ah.ret (Y:=(aA X ae env).and (ao a v)) (b:=aU.ret a) (a:=Flow.ret v) (R:=cn) λ_ _ _ h=>⟨_,rfl,h.2⟩))
 refine Ef (P:=λy st'=>bu X A ae env y st') (λt op value p=>eJ (P:=λy t=>bu X A ae env y (.AugAssign t op value p)) (λy np=>ah.aug L T hA' y np op value p) (la (P:=λy t=>bu X A ae env y (.AugAssign t op value p)) (λo i sp=>ah.Md T hA' o i sp op value p) ah.fail)) ?_
 refine ED (P:=λy st'=>bu X A ae env y st') (λtest body els p=>ek (P:=λy els=>bu X A ae env y (.While test body els p)) ?_ ah.fail) ?_
 ·unfold bu
  rw[exec_While]
  exact ah.standAt (ah.runs (T.loop A hA' ae env test body))
 refine xV (P:=λy st'=>bu X A ae env y st') (λtarget iter body els p=>ek (P:=λy els=>bu X A ae env y (.For target iter body els p)) (ah.wb S XS hA _ target iter body p) ah.fail) ?_
 refine Fu (P:=λy st'=>bu X A ae env y st') (λbody hs els fin p=>ek (P:=λy els=>bu X A ae env y (.Try body hs els fin p)) (ek (P:=λy fin=>bu X A ae env y (.Try body hs [] fin p)) (dC (P:=λy hs=>bu X A ae env y (.Try body hs [] [] p)) (λh=>ah.MJ L T (XS X.fr) hA' body h p) ah.fail) ah.fail) ah.fail) ?_
 refine Er (P:=λy st'=>bu X A ae env y st') (λtest msg p=>?_) ?_
 ·exact ah.eq (t':=PySem.standAt p >>= λ_=>isTrue test env (eval test env) >>= λb=>if b=true then pure .next else assertFails test.pos (evalOpt msg env)) rfl (ah.standAt (ah.br (k:=λb=>if b=true then pure .next else assertFails test.pos (evalOpt msg env)) (T.tst A hA' ae env test) (ah.ret λ_ _ _ _=>rfl) ah.fail))
 refine Ee (P:=λy st'=>bu X A ae env y st') (λname args body ds rt tp sc so nm pos=>ah.MK L name args body ds rt tp sc so nm pos) ?_
 refine ER (P:=λy st'=>bu X A ae env y st') (λp=>ah.eq (t':=PySem.standAt _ >>= λ_=>pure .next) rfl (ah.standAt (ah.ret (b:=aU.next) (a:=Flow.next) (R:=cn) λ_ _ _ _=>rfl))) ?_
 refine EG (P:=λy st'=>bu X A ae env y st') (λp=>ah.eq (t':=PySem.standAt _ >>= λ_=>pure .brk) rfl (ah.standAt (ah.ret (b:=aU.brk) (a:=Flow.brk) (R:=cn) λ_ _ _ _=>rfl))) ?_
 exact Eg (P:=λy st'=>bu X A ae env y st') (λp=>ah.eq (t':=PySem.standAt _ >>= λ_=>pure .cont) rfl (ah.standAt (ah.ret (b:=aU.cont) (a:=Flow.cont) (R:=cn) λ_ _ _ _=>rfl))) ah.fail
end
theorem ey.wf{X:Ctx}(L:ey X)(fr:List (Env×Nat)):ey (X.wf fr):=⟨L.names,L.nm⟩
theorem A9(X:Ctx)(x:Ext)(L:ey X)(hx:x.hs=hashStr X.w):∀n,et X (rx X.K x n).1 n/\ix X (rx X.K x n).2 n
 | 0=>⟨λfr=>⟨λ_ _ _ _ _=>ah.fail,λ_ _ _ _ _=>ah.fail,λ_ _ _ _ _=>ah.fail,λ_ _ _ _ _ _ _ _=>ah.fail,λ_ _ _ _ _ _=>dQ.fail,λ_ _ _ _ _ _ _ _=>dQ.fail,λ_ _ _ _ _ _ _ _ _ _ _ _ _ _=>dQ.fail,hx⟩,
   λfr=>⟨λ_ _ _ _ _=>XSim.fail,λ_ _ _ _ _=>XSim.fail,λ_ _ _ _ _ _ _ _=>XSim.fail⟩⟩
 | n+1=>by
  have IH:=A9 X x L hx n
  have SF:∀fr,et (X.wf fr) (rx X.K x n).1 n:=λfr fr'=>IH.1 fr'
  have XF:∀fr,ix (X.wf fr) (rx X.K x n).2 n:=λfr fr'=>IH.2 fr'
  refine⟨λfr=>?_,λfr=>?_⟩
  ·have S:=SF fr
   have L':=L.wf fr
   exact⟨λA hA ae env e=>ah.expr L' S.here hA e,λA hA ae env e=>ah.KU S.here hA.less (xS hA) e,λA hA ae env ss=>ah.execs (λst=>ah.one L' S (XF fr) hA st) ss,λA hA f fv as vs ks kvs=>ah.call S hA f fv as vs ks kvs,
    λA hA ae env t b=>ah.loop S.here hA.less t b,λA hA ae env t it itv b=>ah.cp S.here hA.less t it itv b,λA hA ae env elt t i c sc p it itv acc accv=>ah.comp S.here hA.less elt t i c sc p it itv acc accv,hx⟩
  ·have S:=SF fr
   have L':=L.wf fr
   exact⟨λA hA ae env e=>XSim.expr S.here (IH.2 fr) hA.less e,λA hA ae env ss=>XSim.list (λst=>ah.one L' S (XF fr) hA st) (λst=>XSim.KV S (XF fr) hA x st) ss,λA hA f fv as vs ks kvs=>XSim.fn (XF fr) hA⟩
theorem sound(X:Ctx)(x:Ext)(L:ey X)(hx:x.hs=hashStr X.w)(n:Nat):et X (wa X.K x n) n:=(A9 X x L hx n).1
noncomputable def jk(vs:List Value):Obj:={ cls:=.type "list",data:=.seq vs.toArray 0 }
noncomputable def Ru{β:Type}(x:EM β)(ev:Ev)(b:β)(ev':Ev):Prop:=∃cs,x ev=some (b,ev',cs)/\All cs
theorem All.ML{a b:List Prop}(x:All a)(y:All b):All (a++b):=by
 induction a with
 | nil=>exact y
 | cons c a ih=>exact⟨x.1,ih x.2⟩
theorem Ru.bind{β B:Type}{x:EM β}{f:β->EM B}{ev ev' ev'':Ev}{b:β}{c:B}(h1:Ru x ev b ev')(h2:Ru (f b) ev' c ev''):Ru (EM.bind x f) ev c ev'':=by
 obtain⟨cs,e,a⟩:=h1
 obtain⟨cs',e',a'⟩:=h2
 exact⟨cs++cs',by show aQ (x ev) _ _=_; rw[e]; show aQ (f b ev') _ _=_; rw[e']; rfl,a.ML a'⟩
theorem Ru.ret{β:Type}{b:β}{ev:Ev}:Ru (EM.ret b) ev b ev:=⟨[],rfl,trivial⟩
theorem Ru.dec{b:Bool}{J:St}{ds:List Wd}:Ru (EM.dec b) (J,.b b::ds) b (J,ds):=⟨[b=b],rfl,rfl,trivial⟩
theorem Ru.of{β:Type}{x:EM β}{ev ev':Ev}{b:β}{cs:List Prop}(e:x ev=some (b,ev',cs))(h:All cs):Ru x ev b ev':=⟨cs,e,h⟩
theorem yn{one:Stmt->EM aU}:∀(a b:List Stmt) {ev ev' ev'':Ev} {fl:aU},Ru (bp one a) ev .next ev'->Ru (bp one b) ev' fl ev''->Ru (bp one (a++b)) ev fl ev''
 | [],b,ev,ev',ev'',fl,h1,h2=>h1.elim λcs q=>eN q.1 λ_ i2 _=>i2▸h2
 | st::a,b,ev,ev',ev'',fl,h1,h2=>h1.elim λcs q=>EM.en (x:=one st) (f:=λfl=>cj fl (bp one a) (λv=>EM.ret (.ret v)) (EM.ret fl)) q.1 q.2 λf cO c₁ c₂ dH dP a1 a2=>by
  cases f with
  | next=>exact Ru.bind (f:=λfl=>cj fl (bp one (a++b)) (λv=>EM.ret (.ret v)) (EM.ret fl)) ⟨c₁,dH,a1⟩ (yn a b ⟨c₂,dP,a2⟩ h2)
  | ret v=>exact eN dP λi1 _ _=>nomatch i1
  | _=>exact eN dP λi1 _ _=>nomatch i1
theorem xT{one:Stmt->EM aU}:∀(a b:List Stmt) {ev ev':Ev} {fl:aU},fl≠.next->Ru (bp one a) ev fl ev'->Ru (bp one (a++b)) ev fl ev'
 | [],b,ev,ev',fl,h0,h1=>h1.elim λcs q=>eN q.1 λi1 _ _=>absurd i1.symm h0
 | st::a,b,ev,ev',fl,h0,h1=>h1.elim λcs q=>EM.en (x:=one st) (f:=λfl=>cj fl (bp one a) (λv=>EM.ret (.ret v)) (EM.ret fl)) q.1 q.2 λf cO c₁ c₂ dH dP a1 a2=>by
  cases f with
  | next=>exact Ru.bind (f:=λfl=>cj fl (bp one (a++b)) (λv=>EM.ret (.ret v)) (EM.ret fl)) ⟨c₁,dH,a1⟩ (xT a b h0 ⟨c₂,dP,a2⟩)
  | _=>exact Ru.bind (f:=λfl=>cj fl (bp one (a++b)) (λv=>EM.ret (.ret v)) (EM.ret fl)) ⟨c₁,dH,a1⟩ ⟨c₂,dP,a2⟩
theorem aL.mono{N N':Nat}{x:AV}(h:aL N x)(hN:N<=N'):aL N' x :=
 AV.ind (P:=λx=>aL N x->aL N' x) (L:=λx=>aL N (.tup x)->aL N' (.tup x)) (M:=λx=>aL N (.obj 0 x)->aL N' (.obj 0 x)) (λ_ h=>h) (λ_ h=>h) (λ_ h=>h) (λ_ h=>h) (λ_ h=>Nat.lt_of_lt_of_le h hN) (λ_ ih=>ih) (λ_ _ ih=>ih) (λ_ _ ih=>ih)
  (λ_ _ _ _ _ _ ih h=>⟨λp hp=>Nat.lt_of_lt_of_le (h.1 p hp) hN,ih h.2⟩) (λ_ ih=>ih) (λh=>h) (λh=>h) (λ_ _ p q h=>⟨p h.1,q h.2⟩) (λh=>h) (λ_ _ _ p q h=>⟨p h.1,q h.2⟩) x h
structure CL(xs:List AV):Prop where
 all:∀x∈xs,∀N,aL N x
theorem CL.nil:CL []:=⟨λ_ h=>nomatch h⟩
theorem CL.cons{x:AV}{xs:List AV}(h:∀N,aL N x)(hs:CL xs):CL (x::xs):=⟨λy hy=>by
 rcases List.mem_cons.mp hy with rfl | hy
 ·exact h
 ·exact hs.all y hy⟩
theorem CL.app{xs ys:List AV}(h:CL xs)(hs:CL ys):CL (xs++ys):=⟨λy hy=>(List.mem_append.mp hy).elim (h.all y) (hs.all y)⟩
theorem CL.tup{xs:List AV}(h:CL xs)(N:Nat):aL N (.tup xs):=.tup λx hx=>h.all x hx N
theorem CL.lst{xs:List AV}(h:CL xs)(N:Nat):aL N (.lst xs):=.lst λx hx=>h.all x hx N
theorem CL.eg{C:Addr}{xs:List AV}(h:CL xs)(N:Nat):aL N (.eg C xs):=.eg λx hx=>h.all x hx N
structure aO(N:Nat)(m:List (Str×AV)):Prop where
 all:∀q∈m,aL N q.2
theorem aO.nil{N:Nat}:aO N []:=⟨λ_ h=>nomatch h⟩
theorem aO.cons{N:Nat}{x:Str}{v:AV}{m:List (Str×AV)}(h:aL N v)(hs:aO N m):aO N ((x,v)::m):=⟨λq hq=>by
 rcases List.mem_cons.mp hq with rfl | hq
 ·exact h
 ·exact hs.all q hq⟩
theorem aO.mono{N N':Nat}{m:List (Str×AV)}(h:aO N m)(hN:N<=N'):aO N' m:=⟨λq hq=>(h.all q hq).mono hN⟩
theorem eZ{N:Nat}{m:List (Str×AV)}(h:aO N m):bA N (.ns m):=h.all
theorem qc{N:Nat}{m:List (Str×AV)}(h:aO N m):bA N (.dict m):=h.all
theorem nZ{N:Nat}{v:AV}(h:aL N v):bA N (.box (some v)):=h
theorem dJ{N:Nat}{xs:List AV}(h:CL xs):bA N (.list xs):=λx hx=>h.all x hx N
theorem aY{N i:Nat}{c:Cell}{l:List (Nat×Cell)}(h:bA N c)(hs:∀q∈l,bA N q.2):∀q∈(i,c)::l,bA N q.2:=λq hq=>by
 rcases List.mem_cons.mp hq with rfl | hq
 ·exact h
 ·exact hs q hq
theorem zY{N:Nat}:∀q∈([]:List (Nat×Cell)),bA N q.2:=λ_ h=>nomatch h
theorem bA.mono{N N':Nat}{c:Cell}(h:bA N c)(hN:N<=N'):bA N' c:=by
 cases c with
 | list xs=>exact λx hx=>(h x hx).mono hN
 | ns m=>exact λx hx=>(h x hx).mono hN
 | dict m=>exact λx hx=>(h x hx).mono hN
 | box v=>cases v with
  | none=>trivial
  | some v=>exact aL.mono h hN
 | inst C d=>exact Nat.lt_of_lt_of_le h hN
 | sinst C d xs=>exact⟨Nat.lt_of_lt_of_le h.1 hN,λx hx=>(h.2 x hx).mono hN⟩
 | liter l k=>exact Nat.lt_of_lt_of_le h hN
 | exc C d t=>exact⟨λi hi=>Nat.lt_of_lt_of_le (h.1 i hi) hN,λi hi=>Nat.lt_of_lt_of_le (h.2 i hi) hN⟩
 | tb fl=>exact λi hi=>Nat.lt_of_lt_of_le (h i hi) hN
 | wl l k=>exact Nat.lt_of_lt_of_le h hN
 | enum l k=>exact Nat.lt_of_lt_of_le h hN
 | rev l k=>exact Nat.lt_of_lt_of_le h hN
 | map hs m=>exact λx hx=>(h x hx).mono hN
 | fit xs k=>exact λx hx=>(h x hx).mono hN
 | _=>exact h
theorem xU{N C d:Nat}{xs:List (Option AV)}(h:d<N)(hs:CL (xs.filterMap id)):bA N (.sinst C d xs):=⟨h,λx hx=>hs.all x (List.mem_filterMap.mpr ⟨some x,hx,rfl⟩) N⟩
noncomputable def Go{β:Type}(x:EM β)(J:St)(b:β)(aj:St):Prop:=∃ws:List Wd,∀ds,Ru x (J,ws++ds) b (aj,ds)
theorem Go.bind{β B:Type}{x:EM β}{f:β->EM B}{J aj eV:St}{b:β}{c:B}(h1:Go x J b aj)(h2:Go (f b) aj c eV):Go (EM.bind x f) J c eV:=by
 obtain⟨w1,h1⟩:=h1
 obtain⟨w2,h2⟩:=h2
 exact⟨w1++w2,λds=>by rw[List.append_assoc]; exact(h1 _).bind (h2 ds)⟩
theorem Go.ret{β:Type}{b:β}{J:St}:Go (EM.ret b) J b J:=⟨[],λds=>Ru.ret⟩
theorem Go.dec{b:Bool}{J:St}:Go (EM.dec b) J b J:=⟨[.b b],λds=>Ru.dec⟩
section
variable{one:Stmt->EM aU}
theorem Go.app{a b:List Stmt}{J aj eV:St}{fl:aU}(h1:Go (bp one a) J .next aj)(h2:Go (bp one b) aj fl eV):Go (bp one (a++b)) J fl eV:=by
 obtain⟨w1,h1⟩:=h1
 obtain⟨w2,h2⟩:=h2
 exact⟨w1++w2,λds=>by rw[List.append_assoc]; exact yn a b (h1 _) (h2 ds)⟩
theorem Go.stop{a b:List Stmt}{J aj:St}{fl:aU}(h0:fl≠.next)(h1:Go (bp one a) J fl aj):Go (bp one (a++b)) J fl aj:=by
 obtain⟨w1,h1⟩:=h1
 exact⟨w1,λds=>xT a b h0 (h1 ds)⟩
theorem Go.stmt{st:Stmt}{J aj:St}{fl:aU}(h:Go (one st) J fl aj):Go (bp one [st]) J fl aj :=
 show Go (EM.bind (one st) λfl=>cj fl (EM.ret aU.next) (λv=>EM.ret (aU.ret v)) (EM.ret fl)) J fl aj from Go.bind h (by cases fl <;> exact Go.ret)
theorem Go.cons{st:Stmt}{ss:List Stmt}{J aj eV:St}{fl:aU}(h1:Go (one st) J .next aj)(h2:Go (bp one ss) aj fl eV):Go (bp one (st::ss)) J fl eV :=
 show Go (EM.bind (one st) λfl=>cj fl (bp one ss) (λv=>EM.ret (aU.ret v)) (EM.ret fl)) J fl eV from Go.bind h1 h2
theorem Go.iI{st:Stmt}{ss:List Stmt}{J aj:St}{fl:aU}(h1:Go (one st) J fl aj)(h0:fl≠.next:=by exact nofun):Go (bp one (st::ss)) J fl aj :=
 show Go (EM.bind (one st) λfl=>cj fl (bp one ss) (λv=>EM.ret (aU.ret v)) (EM.ret fl)) J fl aj from Go.bind h1 (by
  cases fl with
  | next=>exact absurd rfl h0
  | _=>exact Go.ret)
end
theorem Go.of{β:Type}{x:EM β}{J aj:St}{b:β}{cs:List Prop}(ws:List Wd)(e:∀ds,x (J,ws++ds)=some (b,(aj,ds),cs))(h:All cs):Go x J b aj:=⟨ws,λds=>Ru.of (e ds) h⟩
theorem Go.st{β:Type}{f:St->EM β}{J aj:St}{b:β}(h:Go (f J) J b aj):Go (EM.st f) J b aj:=h.elim λws h=>⟨ws,λds=>h ds⟩
theorem Go.eq{β:Type}{x y:EM β}{J aj:St}{b:β}(e:x=y)(h:Go y J b aj):Go x J b aj:=e▸h
theorem Go.sm{α β:Type}{f:α->EM β}{d:EM β}{a:α}{J aj:St}{c:β}(h:Go (f a) J c aj):Go (aQ (some a) f d) J c aj:=h
theorem Go.rt{β:Type}{n d:EM β}{r:AV->EM β}{v:AV}{J aj:St}{c:β}(h:Go (r v) J c aj):Go (cj (.ret v) n r d) J c aj:=h
theorem Go.aW{β:Type}{b:Bool}{x:EM β}{J aj:St}{c:β}(h:b=true)(hx:Go x J c aj):Go (_root_.cond b x EM.fail) J c aj:=by rw[h]; exact hx
theorem Go.ro{r:Rec}{ae:aB}{args:List PySem.Expr}{J fm:St}{as:List AV}(h:Go (dN r ae args) J as fm):Go (ky r ae args []) J (as,[]) fm:=Go.aW rfl (Go.bind h (Go.bind (f:=λks=>EM.ret (as,ks)) (b:=[]) (aj:=fm) Go.ret Go.ret))
theorem Go.wc{K:Frag}{r:Rec}{ae:aB}{o:PySem.Expr}{name:Str}{args:List PySem.Expr}{J cH eH fm k6:St}{ov f v:AV}{first as:List AV}
  (h1:Go (r.ev ae o) J ov cH) (h2:Go (kq K ov name) cH (f,first) eH) (h3:jJ K f=true) (h4:Go (dN r ae args) eH as fm) (h5:Go (r.call f (first++as) []) fm v k6):Go (lj K r ae o name args []) J v k6 :=
 Go.bind h1 (Go.bind (f:=λp=>eX K r ae p.1 p.2 args []) h2 (Go.aW h3 (Go.bind (f:=λp=>r.call f (first++p.1) p.2) (Go.ro h4) h5)))
theorem Go.nh{K:Frag}{r:Rec}{ae:aB}{f v:AV}{args:List PySem.Expr}{J fm k6:St}{as:List AV}
  (h3:jJ K f=true) (h4:Go (dN r ae args) J as fm) (h5:Go (r.call f as []) fm v k6):Go (eX K r ae f [] args []) J v k6:=Go.aW h3 (Go.bind (f:=λp=>r.call f ([]++p.1) p.2) (Go.ro h4) h5)
theorem Go.vE{r:Rec}{ae:aB}{J:St}:Go (dN r ae []) J [] J:=Go.ret
theorem Go.oV{r:Rec}{ae:aB}{e:PySem.Expr}{es:List PySem.Expr}{v:AV}{vs:List AV}{J cH eH:St}(h0:noStar e=true)(h:Go (r.ev ae e) J v cH)(hs:Go (dN r ae es) cH vs eH):Go (dN r ae (e::es)) J (v::vs) eH:=Go.aW h0 (Go.bind h (Go.bind hs Go.ret))
theorem Go.ni{r:Rec}{ae:aB}{e:PySem.Expr}{v:AV}{J cH:St}(h0:noStar e=true)(h:Go (r.ev ae e) J v cH):Go (dN r ae [e]) J [v] cH:=Go.oV h0 h Go.vE
theorem Go.lp{β:Type}{n d:EM β}{r:AV->EM β}{fl:aU}{J aj:St}{c:β}(hf:fl = .next∨fl = .cont)(h:Go n J c aj):Go (kO fl n r d) J c aj:=by
 rcases hf with rfl | rfl <;> exact h
theorem Go.DY{β:Type}{n d:EM β}{r:AV->EM β}{v:AV}{J aj:St}{c:β}(h:Go (r v) J c aj):Go (kO (.ret v) n r d) J c aj:=h
section
variable{K:Frag}{r:Rec}{ae:aB}{tgt:PySem.Expr}
theorem F3{it v:AV}{body:List Stmt}{J cH eH fm k6 DZ:St}{fl f3:aU}(h1:Go (b0 tgt it) J (some v) cH)(h2:Go (cb K r ae v tgt) cH PUnit.unit eH)(h3:Go (r.aV ae body) eH f3 fm)(h4:Go (iF J.n) fm () k6)(h5:Go (r.cp ae tgt it body) k6 fl DZ)(hf:f3 = .next∨f3 = .cont:=by exact .inl rfl):Go (oO K r ae tgt it body) J fl DZ:=Go.st (Go.bind h1 (Go.sm (Go.bind (Go.bind h2 h3) (Go.lp hf (Go.bind h4 h5)))))
theorem GZ{it v u:AV}{body:List Stmt}{J cH eH fm:St}(h1:Go (b0 tgt it) J (some v) cH)(h2:Go (cb K r ae v tgt) cH PUnit.unit eH)(h3:Go (r.aV ae body) eH (.ret u) fm):Go (oO K r ae tgt it body) J (.ret u) fm:=Go.st (Go.bind h1 (Go.sm (Go.bind (Go.bind h2 h3) (Go.DY Go.ret))))
theorem G0{it:AV}{body:List Stmt}{J cH:St}(h1:Go (b0 tgt it) J none cH):Go (oO K r ae tgt it body) J .next cH:=Go.st (Go.bind h1 Go.ret)
end
theorem Go.opt{α β:Type}{o:Option α}{a:α}{f:α->EM β}{J aj:St}{c:β}(h:o=some a)(hf:Go (f a) J c aj):Go (EM.bind (EM.opt o) f) J c aj:=by rw[h]; exact Go.bind (b:=a) (aj:=J) Go.ret hf
theorem Go.word{α β:Type}{g:Wd->Option α}{w:Wd}{a:α}{f:α->EM β}{J aj:St}{c:β}(h:g w=some a)(hf:Go (f a) J c aj):Go (EM.bind (EM.word g) f) J c aj:=Go.bind (b:=a) (aj:=J) (Go.of (cs:=[]) [w] (λds=>by show aQ (g w) _ _=_; rw[h]; rfl) trivial) hf
theorem Go.fn{r:Rec}{fi:cG}{as:List AV}{ks binds:List (Str×AV)}{J cH eH:St}{ae:aB}{v:AV}(h1:(jB fi.params && mD fi.scope)=true)(h2:gf (fi.params.args.map λp=>p.arg) fi.dflts as ks=some binds)
  (h3:Go (iA fi.scope fi.closure fi.code fi.fz binds) J ae cH) (h4:Go (EM.bind (r.aV ae fi.body) λfl=>cj fl (gq J.n eD) (gq J.n) EM.fail) cH v eH):Go (fY r fi as ks) J v eH :=
 Go.aW h1 (by rw[h2]; exact Go.st (f:=λJ=>EM.bind (iA fi.scope fi.closure fi.code fi.fz binds) λae=>EM.bind (r.aV ae fi.body) λfl=>cj fl (gq J.n eD) (gq J.n) EM.fail) (Go.bind h3 h4))
theorem Go.iter{r:Rec}{ae:aB}{e:PySem.Expr}{it:AV}{B:Type}{f:AV->EM B}{c:B}{J cH eH:St}(h1:Go (EM.bind (r.ev ae e) λv=>dZ v) J it cH)(h2:Go (f it) cH c eH):Go (EM.bind (r.ev ae e) λv=>EM.bind (dZ v) f) J c eH :=
 h1.elim λw1 h1=>h2.elim λw2 h2=>⟨w1++w2,λds=>by
  rw[List.append_assoc]
  exact(h1 (w2++ds)).elim λcs q=>EM.en q.1 q.2 λv ev1 c1 c2 r1 r2 a1 a2=>Ru.bind ⟨c1,r1,a1⟩ (Ru.bind ⟨c2,r2,a2⟩ (h2 ds))⟩
theorem yo{α:Type}(xs:List α)(a k:Nat):((List.range k).map (a + ·)).filterMap (xs[·]?)=(xs.drop a).take k:=by
 have:=pick_run xs.toArray a k
 simpa using this
theorem G2{α:Type}(xs:List α)(a b:Nat):(xs.drop (min a xs.length)).take (min b xs.length - min a xs.length)=(xs.drop a).take (b - a):=by
 by_cases h:a<=xs.length
 ·rw[Nat.min_eq_left h]
  by_cases hb:b<=xs.length
  ·rw[Nat.min_eq_left hb]
  ·rw[Nat.min_eq_right (by omega),List.take_of_length_le (by rw[List.length_drop]; omega),List.take_of_length_le (by rw[List.length_drop]; omega)]
 ·rw[show min a xs.length=xs.length by omega,List.drop_eq_nil_of_le (Nat.le_refl _),List.drop_eq_nil_of_le (i:=a) (by omega)]
  simp
theorem G3{α:Type}(xs:List α)(a b:Nat):dp xs (some (a:Int)) (some (b:Int))=(xs.drop a).take (b - a):=by
 have e:sliceBounds (some (a:Int)) (some (b:Int)) none xs.length=(((min a xs.length:Nat):Int),((min b xs.length:Nat):Int),1):=by
  simp only[sliceBounds,Option.getD_none]
  have h1:¬ ((a:Int)<0):=by omega
  have h2:¬ ((b:Int)<0):=by omega
  simp only[h1,h2,if_false,show(1:Int) > 0 by decide,if_true]
  congr 1
  ·omega
  ·congr 1; omega
 unfold dp
 rw[e]
 simp only[sliceRange_one,yo]
 exact G2 xs a b
theorem HX{α:Type}(xs:List α)(b:Nat):dp xs none (some (b:Int))=xs.take b:=by
 have e:sliceBounds none (some (b:Int)) none xs.length=(((0:Nat):Int),((min b xs.length:Nat):Int),1):=by
  simp only[sliceBounds,Option.getD_none]
  have h2:¬ ((b:Int)<0):=by omega
  simp only[h2,if_false,show(1:Int) > 0 by decide,if_true]
  congr 1
  congr 1; omega
 unfold dp
 rw[e]
 simp only[sliceRange_one,yo]
 rw[List.drop_zero,Nat.sub_zero]
 by_cases h:b<=xs.length
 ·rw[Nat.min_eq_left h]
 ·rw[Nat.min_eq_right (by omega),List.take_of_length_le (Nat.le_refl _),List.take_of_length_le (by omega)]
theorem ir{β B:Type}{x:EM β}{f:β->EM B}{q:β}{ev:Ev}(h:x ev=some (q,ev,[])):EM.bind x f ev=f q ev:=by
 unfold EM.bind
 rw[h]
 show aQ (f q ev) _ none=_
 cases f q ev <;> rfl
theorem mH{β:Type}{as:Cell->Option β}{i:Nat}{q:β}{c:Cell}{J:St}{ds:List Wd}(h:J.get i=some c)(h2:as c=some q):EM.aK as i (J,ds)=some (q,(J,ds),[]):=by
 show EM.opt ((J.get i).bind as) (J,ds)=_
 rw[h]
 show EM.opt (as c) (J,ds)=_
 rw[h2]
 rfl
theorem oy{b:Bool}{ev:Ev}(h:b=true):EM.aW b ev=some ((),ev,[]):=by rw[h]; rfl
section
variable{tgt:PySem.Expr}{J:St}{i j l k:Nat}{xs:List AV}{y:AV}{ds:List Wd}
theorem Ba(h1:J.get i=some (.enum j k)):mN tgt i (J,ds)=none:=by
 have:EM.aK oI i (J,ds)=none:=by
  show EM.opt ((J.get i).bind oI) (J,ds)=_
  rw[h1]
  rfl
 unfold mN
 show aQ (EM.aK oI i (J,ds)) _ none=none
 rw[this]
 rfl
theorem y5(h0:isTup tgt=true)(h1:J.get i=some (.enum j k))(h2:J.get j=some (.wl l k))(h3:J.get l=some (.list xs)){r:Option AV×Ev×List Prop}
  (h:EM.bind EM.eu (λo=>aQ o (λy=>EM.turn (xs[k]? = some y) (λJ=>(J.set j (.wl l (k+1))).set i (.enum j (k+1))) (some (.tup [.int k,y]))) (EM.turn (xs[k]? = none) (λJ=>J.set j .any) none)) (J,ds)=some r):b0 tgt (.ref i) (J,ds)=some r:=by
 have e:kr tgt i (J,ds)=some r:=by
  unfold kr
  rw[ir (mH (as:=lN) (q:=(j,k)) h1 rfl),ir (oy h0),ir (mH (as:=o7) (q:=(l,k)) h2 rfl),ir (mH (as:=iz) (q:=xs) h3 rfl),ir (oy (Nat.beq_refl k))]
  exact h
 show EM.or (mN tgt i) (EM.or (kr tgt i) _) _=_
 unfold EM.or
 rw[Ba h1,e]
theorem F4(h0:isTup tgt=true)(h1:J.get i=some (.enum j k))(h2:J.get j=some (.wl l k))(h3:J.get l=some (.list xs)):
  b0 tgt (.ref i) (J,.cut [] y::ds)=some (some (.tup [.int k,y]),((J.set j (.wl l (k+1))).set i (.enum j (k+1)),ds),[xs[k]? = some y]):=y5 h0 h1 h2 h3 rfl
theorem G5(h0:isTup tgt=true)(h1:J.get i=some (.enum j k))(h2:J.get j=some (.wl l k))(h3:J.get l=some (.list xs)):
  b0 tgt (.ref i) (J,.b false::ds)=some (none,(J.set j .any,ds),[xs[k]? = none]):=y5 h0 h1 h2 h3 rfl
theorem KW(h1:J.get i=some (.enum j k))(h:(J.get j).bind o7=none):kr tgt i (J,ds)=none:=by
 unfold kr
 rw[ir (mH (as:=lN) (q:=(j,k)) h1 rfl)]
 cases e:isTup tgt with
 | false=>rfl
 | true =>
  rw[ir (oy rfl)]
  show aQ (EM.opt ((J.get j).bind o7) (J,ds)) _ none=none
  rw[h]
  rfl
theorem zZ{x:Str}(h0:isTup tgt=true)(h1:J.get i=some (.enum j k))(h2:J.get j=some (.sit x k)){r:Option AV×Ev×List Prop}
  (h:EM.bind EM.eu (λo=>aQ o (λy=>EM.turn ((x.cps[k]?).map (λc=>AV.str ⟨#[c]⟩)=some y) (λJ=>(J.set j (.sit x (k+1))).set i (.enum j (k+1))) (some (.tup [.int k,y]))) (EM.turn (x.cps[k]? = none) (λJ=>J.set j .any) none)) (J,ds)=some r):b0 tgt (.ref i) (J,ds)=some r:=by
 have e:nY tgt i (J,ds)=some r:=by
  unfold nY
  rw[ir (mH (as:=lN) (q:=(j,k)) h1 rfl),ir (oy h0),ir (mH (as:=u4) (q:=(x,k)) h2 rfl),ir (oy (Nat.beq_refl k))]
  exact h
 show EM.or (mN tgt i) (EM.or (kr tgt i) (EM.or (nY tgt i) _)) _=_
 unfold EM.or
 rw[Ba h1,KW h1 (by rw[h2]; rfl),e]
theorem G6{x:Str}(h0:isTup tgt=true)(h1:J.get i=some (.enum j k))(h2:J.get j=some (.sit x k)):
  b0 tgt (.ref i) (J,.cut [] y::ds)=some (some (.tup [.int k,y]),((J.set j (.sit x (k+1))).set i (.enum j (k+1)),ds),[(x.cps[k]?).map (λc=>AV.str ⟨#[c]⟩)=some y]):=zZ h0 h1 h2 rfl
theorem HY{x:Str}(h0:isTup tgt=true)(h1:J.get i=some (.enum j k))(h2:J.get j=some (.sit x k)):
  b0 tgt (.ref i) (J,.b false::ds)=some (none,(J.set j .any,ds),[x.cps[k]? = none]):=zZ h0 h1 h2 rfl
end
theorem sX{K:Frag}{b:Addr}(e:(K.map Prod.fst).all (λa=>!(Nat.beq a b))=true):∀a o,List.lookup a K=some o->a≠b:=by
 intro a o hl hab
 induction K with
 | nil=>cases hl
 | cons q K ih =>
  rw[List.map_cons,List.all_cons,Bool.and_eq_true] at e
  rw[List.lookup_cons] at hl
  split at hl
  ·rename_i hq
   have:a=q.1:=by simpa using hq
   rw[<- this,hab] at e
   have:=e.1
   rw[Nat.beq_refl] at this
   cases this
  ·exact ih e.2 hl
theorem F5{K:Frag}{b:Nat}(e:(K.map Prod.fst).all (λa=>Nat.blt a b)=true):∀a o,List.lookup a K=some o->a<b:=by
 intro a o hl
 induction K with
 | nil=>cases hl
 | cons q K ih =>
  rw[List.map_cons,List.all_cons,Bool.and_eq_true] at e
  rw[List.lookup_cons] at hl
  split at hl
  ·rename_i hq
   have:a=q.1:=by simpa using hq
   rw[this]
   exact Nat.le_of_ble_eq_true e.1
  ·exact ih e.2 hl
noncomputable def hO(K:Frag)(a:Addr):Obj:=(List.lookup a K).getD { cls:=.none,data:=.plain }
noncomputable def fieldsOf(o:Obj):Array Value:=match o.data with
 | .fields vs=>vs
 | _=>#[]
noncomputable def Bb:Value->Bool
 | .str _ _=>true
 | _=>false
noncomputable def uI:Value->Bool
 | .int _ _=>true
 | _=>false
noncomputable def z2:Value->Bool
 | .bool _=>true
 | _=>false
noncomputable def gP:Obj:={ cls:=.none,data:=.fields #[] }
structure nj(K:Frag)(c P:Addr):Prop where
 qa:List.lookup c K=some (hO K c)
 qb:(hO K c).cls = .type "code"
 qd:(hO K c).data = .fields (fieldsOf (hO K c))
 qe:(fieldsOf (hO K c))[11]? = some (.ref P)
 qf:(fieldsOf (hO K c)).getD 11 .none = .ref P
 qg:Bb ((fieldsOf (hO K c)).getD 18 .none)=true
 qh:uI ((fieldsOf (hO K c)).getD 7 .none)=true
 qi:z2 ((fieldsOf (hO K c)).getD 9 .none)=true
 qj:uI ((fieldsOf (hO K c)).getD 10 .none)=true
 ql:c≠P
theorem I2{v:Value}(h:Bb v=true):∃x t,v = .str x t:=by cases v <;> first | exact⟨_,_,rfl⟩ | cases h
theorem Bc{v:Value}(h:uI v=true):∃x t,v = .int x t:=by cases v <;> first | exact⟨_,_,rfl⟩ | cases h
theorem HZ{v:Value}(h:z2 v=true):∃x,v = .bool x:=by cases v <;> first | exact⟨_,rfl⟩ | cases h
theorem nj.cell{K:Frag}{c P:Addr}{h:Heap}(x:nj K c P)(KX:K.In h)(h2:h.get? P=some gP)(n:Nat)(Z:ay){F:Fz}(hF:F c=some (hO K c)){ks:dG}(hks:∀l,ks=some l->l=[]):bH n Z F h P (.tab c #[] ks):=by
 obtain⟨fs,ft,e1⟩:=I2 x.qg
 obtain⟨fl,flt,e2⟩:=Bc x.qh
 obtain⟨bb,e3⟩:=HZ x.qi
 obtain⟨tx,txt,e4⟩:=Bc x.qj
 have h1:=KX _ _ x.qa
 exact⟨gP,h2,⟨#[],hO K c,rfl,hF,⟨h,#[],#[],h1,⟨_,_,_,_,_,_,_,_,_,_,h1,x.qd,x.qf,e1,e2,e3,e4,h2,rfl,trivial,x.ql⟩,⟨⟨_,_,h1,x.qb,x.qd,x.qe⟩,h2⟩⟩,trivial,(λl _ pos _=>rfl),λl e k hk=>by rw[hks l e] at hk; cases hk⟩⟩
theorem xp{α β:Type}{f:α->β}:∀{l:List α},(l.map f).Nodup->∀{x y:α},x∈l->y∈l->f x=f y->x=y
 | [],_,_,_,h,_,_=>nomatch h
 | a::l,hn,x,y,hx,hy,e=>by
  rw[List.map_cons,List.nodup_cons] at hn
  rcases List.mem_cons.mp hx with rfl | hx'
  ·rcases List.mem_cons.mp hy with rfl | hy'
   ·rfl
   ·exact absurd (List.mem_map.mpr ⟨y,hy',e.symm⟩) hn.1
  ·rcases List.mem_cons.mp hy with rfl | hy'
   ·exact absurd (List.mem_map.mpr ⟨x,hx',e⟩) hn.1
   ·exact xp hn.2 hx' hy' e
theorem y6:∀{vs:List Value} {ns:List Int},IntsAre vs ns->vs.map fy=ns.map AV.int
 | _,_,.nil=>rfl
 | _,_,.cons n t h=>by rw[List.map_cons,List.map_cons,y6 h]; rfl
noncomputable abbrev me:=Nat×Addr×Addr×dG
noncomputable def wz(t:me):Nat×Cell:=(t.1,.tab t.2.1 #[] t.2.2.2)
noncomputable def fV(T:List me)(sa:Addr):ay:=λi=>match T.find? (λt=>Nat.beq t.1 i) with
 | some t=>t.2.2.1
 | none=>sa
noncomputable def gD(h:Heap)(T:List me)(n0:Nat):Fz:=λa=>if (T.any λt=>Nat.beq t.2.2.1 a)=true then none else if a<n0 then h.get? a else none
noncomputable def pA(T:List me)(N:Nat)(vs:List Value):St:=⟨N,T.map wz++[(0,.raw (jk vs))]⟩
section
variable{h:Heap}{T:List me}{n0:Nat}{a:Addr}{o:Obj}
theorem H0(e:gD h T n0 a=some o):h.get? a=some o:=by
 unfold gD at e
 split at e
 ·cases e
 ·split at e
  ·exact e
  ·cases e
theorem uJ(e:h.get? a=some o)(hT:(T.any λt=>Nat.beq t.2.2.1 a)=false)(hn:a<n0):gD h T n0 a=some o:=by
 unfold gD
 rw[if_neg (by rw[hT]; decide),if_pos hn]
 exact e
end
theorem join_gen{prog:Program}{w:World}{K:Frag}{x:Ext}{n N n0:Nat}{ar:Shared}{sa fa:Addr}{vs:List Value}{T:List me}{aj:St}{mb:Str->Option Value}
  (KX:K.In ar.heap) (hK:∀a o,List.lookup a K=some o->a<n0/\(T.any λt=>Nat.beq t.2.2.1 a)=false)
  (hT:∀t∈T,nj K t.2.1 t.2.2.1/\ar.heap.get? t.2.2.1=some gP/\t.1<N/\fV T sa t.1=t.2.2.1/\∀l,t.2.2.2=some l->l=[])
  (h0:0<N) (hr0:fV T sa 0=sa) (hnd:((T.map λt=>t.2.2.1)++[sa]).Nodup) (hsa:¬ sa<n0)
  (hb:ar.heap.Ns builtinsNs mb) (hbn:builtinsNs<n0) (hbT:(T.any λt=>Nat.beq t.2.2.1 builtinsNs)=false) (hc:ar.heap.NoLimit) (hcn:cStatics<n0) (hcT:(T.any λt=>Nat.beq t.2.2.1 cStatics)=false)
  (hs:ar.heap.get? sa=some (jk vs)) (hg:ar.gens = #[]) (hnm:∀y v,gT.lookup y=some v->mb y=some v)
  (hbf:peek K ⟨prog,w.params⟩ (builtinsFor mainGlobals builtinsNs)=some builtinsNs) (hmn:∃v,peek K ⟨prog,w.params⟩ (nsGet mainGlobals "__name__")=some v)
  (hx:x.hs=hashStr w) (hd:301+4 * n<1000) (hu:4+40 * n<9900)
  (hrun:Go ((wa K x n).call (.val (.ref fa)) [.ref 0] []) (pA T N vs) (.bool true) aj)
  (e0:aj.get 0=some (.raw (jk vs))) (eT:∀t∈T,∃ks,aj.get t.1=some (.tab t.2.1 #[] ks)) {Q:Value->Shared->Prop} {E:Value->Shared->Prop}
  (hQ:∀s',OldK ar.heap s'.heap->s'.os=ar.os->AllBare s'.gens->Q (.bool true) s'):wpAny (model prog w) callerA (call (.ref fa) [.ref sa]) Q E ar:=by
 let X:Ctx:=⟨prog,w,K,mb,ar.drawn,ar.os,[]⟩
 have hKF:∀a o,List.lookup a K=some o->gD ar.heap T n0 a=some o:=λa o h=>uJ (KX a o h) (hK a o h).2 (hK a o h).1
 have L:ey X:=⟨hnm,hmn⟩
 have S:=(sound X x L hx n).here
 have hroom:aN X callerA n:=⟨hd,hu,rfl,rfl,rfl⟩
 have hoff:∀a,(T.any λt=>Nat.beq t.2.2.1 a)=true->gD ar.heap T n0 a=none:=λa h=>by unfold gD; rw[if_pos h]
 have hmem:∀p∈(pA T N vs).objs,(∃t∈T,p=wz t)∨p=(0,.raw (jk vs)):=λp hp=>by
  rcases List.mem_append.mp hp with h | h
  ·obtain⟨t,ht,rfl⟩:=List.mem_map.mp h
   exact .inl ⟨t,ht,rfl⟩
  ·rw[List.mem_singleton] at h
   exact .inr h
 have hany:∀t∈T,(T.any λu=>Nat.beq u.2.2.1 t.2.2.1)=true:=λt ht=>List.any_eq_true.mpr ⟨t,ht,Nat.beq_refl _⟩
 have fns:jo (gD ar.heap T n0) builtinsNs mb:=by
  obtain⟨o,es,ep,h1,h2,h3,h4⟩:=hb
  exact⟨o,es,ep,uJ h1 hbT hbn,h2,h3,h4⟩
 have fcs:∃mc,jo (gD ar.heap T n0) cStatics mc/\mc "sys.recursionlimit" = none:=by
  obtain⟨mc,⟨o,es,ep,h1,h2,h3,h4⟩,h5⟩:=hc
  exact⟨mc,⟨o,es,ep,uJ h1 hcT hcn,h2,h3,h4⟩,h5⟩
 have hnd':((pA T N vs).objs.map λp=>fV T sa p.1).Nodup:=by
  have:(pA T N vs).objs.map (λp=>fV T sa p.1)=(T.map λt=>t.2.2.1)++[sa]:=by
   show(T.map wz++[(0,Cell.raw (jk vs))]).map (λp:Nat×Cell=>fV T sa p.1)=_
   rw[List.map_append,List.map_map]
   show _++[fV T sa 0]=_
   rw[hr0]
   congr 1
   exact List.map_congr_left λt ht=>(hT t ht).2.2.2.1
  rw[this]
  exact hnd
 have I:Inv X (fV T sa) (gD ar.heap T n0) (pA T N vs) ar:=by
  refine⟨λi c e=>?_,λi j c d e f q=>congrArg Prod.fst (xp hnd' (iV e) (iV f) q),λi c e=>?_,λi c e=>?_,λa o e=>H0 e,⟨hKF,fns,fcs,K,hKF,hbf⟩,rfl,rfl,.of_eq hg,λe he=>nomatch he⟩
  ·rcases hmem (i,c) (iV e) with⟨t,ht,q⟩ | q
   ·rw[show i=t.1 from congrArg Prod.fst q]; exact(hT t ht).2.2.1
   ·rw[show i=0 from congrArg Prod.fst q]; exact h0
  ·rcases hmem (i,c) (iV e) with⟨t,ht,q⟩ | q
   ·rw[show i=t.1 from congrArg Prod.fst q,show c = .tab t.2.1 #[] t.2.2.2 from congrArg Prod.snd q]
    show bH _ _ _ _ (fV T sa t.1) _
    rw[(hT t ht).2.2.2.1]
    exact(hT t ht).1.cell KX (hT t ht).2.1 _ _ (hKF _ _ (hT t ht).1.qa) (hT t ht).2.2.2.2
   ·rw[show i=0 from congrArg Prod.fst q,show c = .raw (jk vs) from congrArg Prod.snd q]
    exact⟨_,(congrArg _ hr0).trans hs,rfl⟩
  ·rcases hmem (i,c) (iV e) with⟨t,ht,q⟩ | q
   ·rw[show i=t.1 from congrArg Prod.fst q]
    show gD ar.heap T n0 (fV T sa t.1)=none
    rw[(hT t ht).2.2.2.1]
    exact hoff _ (hany t ht)
   ·rw[show i=0 from congrArg Prod.fst q,hr0]
    unfold gD
    rw[if_neg hsa]
    split <;> rfl
 obtain⟨ws,hrun⟩:=hrun
 obtain⟨cs,q1,q2⟩:=hrun []
 have G:=S.call callerA hroom (.val (.ref fa)) (.ref fa) [.ref 0] [.ref sa] [] [] _ _ _ _ q1 q2 (fV T sa) (gD ar.heap T n0) ar I ⟨rfl,⟨⟨congrArg Value.ref hr0.symm,h0⟩,rfl⟩,rfl⟩
 refine G Q E λv s' aq F' hv I' st=>?_
 have hv':v = .bool true:=hv
 subst hv'
 refine hQ s' ⟨λb o e=>?_,st.live⟩ I'.os I'.gens
 by_cases hb0:b=sa
 ·subst hb0
  obtain⟨o',h',rfl⟩:=I'.cell _ _ e0
  rw[st.same 0 h0,hr0] at h'
  exact .inl (h'.trans (hs.symm.trans e))
 ·by_cases hbT':∃t∈T,t.2.2.1=b
  ·obtain⟨t,ht,rfl⟩:=hbT'
   obtain⟨ks,hm⟩:=eT t ht
   obtain⟨o',h3,⟨more,oc,e3,_,_,_,_⟩⟩:=I'.cell _ _ hm
   rw[st.same _ (hT t ht).2.2.1,(hT t ht).2.2.2.1] at h3
   have h4:=(hT t ht).2.1
   rw[e] at h4
   cases h4
   have c:=(hT t ht).1
   have ct:isCodeTable ar.heap t.2.2.1:=⟨_,_,_,KX _ _ c.qa,c.qb,c.qd,c.qe⟩
   exact .inr (.inl ⟨ct,rfl,#[],more,rfl,h3.trans (congrArg some e3)⟩)
  ·refine .inl (st.keep b o e λi c hp hpb=>?_)
   rcases hmem (i,c) (iV hp) with⟨t,ht,q⟩ | q
   ·have:fV T sa t.1=b:=(congrArg (fV T sa) (congrArg Prod.fst q)).symm.trans hpb
    rw[(hT t ht).2.2.2.1] at this
    exact hbT' ⟨t,ht,this⟩
   ·have:fV T sa 0=b:=(congrArg (fV T sa) (congrArg Prod.fst q)).symm.trans hpb
    rw[hr0] at this
    exact hb0 this.symm
theorem KY{f:Str->Option Value}(e:gT.map (λq=>f q.1)=gT.map (λq=>some q.2)):∀y v,gT.lookup y=some v->f y=some v:=by
 intro y v hl
 generalize gT=K at e hl
 induction K with
 | nil=>cases hl
 | cons q K ih =>
  rw[List.map_cons,List.map_cons] at e
  injection e with e1 e2
  rw[List.lookup_cons] at hl
  split at hl
  ·rename_i hq
   cases hl
   have:y=q.1:=by simpa using hq
   rw[this]; exact e1
  ·exact ih e2 hl
noncomputable abbrev so(x:String):Str:=Str.ofString x
noncomputable def bD(l:List Stmt)(i:Nat):Stmt:=l.getD i (.Pass default)
noncomputable def lQ:Stmt->Arguments
 | .FunctionDef _ a _ _ _ _ _ _ _ _=>a
 | _=>⟨[],[],none,[],[],none,[]⟩
noncomputable def oz:Stmt->List Stmt
 | .FunctionDef _ _ b _ _ _ _ _ _ _=>b
 | _=>[]
noncomputable def lJ:Stmt->Scope
 | .FunctionDef _ _ _ _ _ _ s _ _ _=>s
 | _=>default
noncomputable def MM:Stmt->List Stmt
 | .ClassDef _ _ _ b _ _ _ _ _ _ _=>b
 | _=>[]
noncomputable abbrev P1:Program:=PySem.Challenge.pw_rk0005_01
noncomputable def mS(i:Nat):Stmt:=bD P1.main.body i
noncomputable def mM(i j:Nat):Stmt:=bD (MM (mS i)) j
noncomputable abbrev sv(x:String)(t:Nat):Value:=.str (so x) t
noncomputable abbrev sq(c:String)(l:List Value):Obj:={ cls:=.type c,data:=.seq l.toArray }
noncomputable abbrev fl(c:String)(l:List Value):Obj:={ cls:=.type c,data:=.fields l.toArray }
noncomputable abbrev tp(l:List Value):Obj:=sq "tuple" l
noncomputable def D0:Nat->List String->List Value
 | _,[]=>[]
 | t,x::l=>sv x t::D0 (t+1) l
noncomputable abbrev tq(t:Nat)(l:List String):Obj:=tp (D0 t l)
noncomputable abbrev cd(n q:String)(t a b e f:Nat)(r s:Addr)(x y:Value)(z:Addr)(h:Nat):Obj:=fl "code" [sv n t,sv q (t+1),sv "/claim/cut.py" (t+2),.int a 0,.int b 0,.int 0 0,.int 0 0,.int e 0,.ref r,.bool true,.int f 0,.ref s,.none,x,y,.ref z,.int h 0,.int a 0,sv "/claim/cut.py" (h+1)]
noncomputable abbrev fn(n q:String)(d:Stmt)(f:Value)(m:String)(t:Nat)(c:Addr):Obj:={ cls:=.type "function",data:=.func { name:=so n,qualname:=so q,params:=lQ d,body:=.stmts (oz d),scope:=lJ d,globals:=3,closure:=[],defaults:=f,kwdefaults:=.none,pyModule:=sv m t,code:=.ref c } }
noncomputable abbrev dc(c:Value)(k:Nat)(p:Params)(l:List (String×Nat×Value)):Obj:={ cls:=c,data:=.dict (l.map λq=>{ hash:=PyData.keyHash p (so q.1),key:=sv q.1 q.2.1,val:=q.2.2 }).toArray k }
noncomputable def rM(p:Params):Frag:=[(2,dc .none 2 p [("type.__subclasses__.Exception.0",336,(.int 111 0)),("type.__subclasses__.Exception.n",337,(.int 1 0))]),
 (3,dc (.type "dict") 26 p [("__name__",165,(sv "law_rk0005_01" 499)),("__doc__",166,.none),("__package__",167,.none),("__loader__",168,(.builtin "__main__.__loader__#opaque")),("__spec__",169,.none),("__annotations__",170,(.ref 6)),("__builtins__",171,(.ref 4)),("__file__",173,(sv "/claim/cut.py" 172)),("__cached__",174,.none),("_wall",193,(.ref 21)),("Token",241,(.ref 47)),("SourceLocation",297,(.ref 79)),("CompilerError",339,(.ref 111)),("Char",379,(.ref 138)),("HandLexerBase",498,(.ref 230)),("_law_SIGNS",502,(sv "abcd" 501)),("_law_NUMBERS",515,(.ref 235)),("_law_FUEL",517,(.int 18 516)),("_law_draw",528,(.ref 242)),("_law_plan",534,(.ref 247)),("_law_text",545,(.ref 254)),("_law_state",571,(.ref 261)),("_law_states",589,(.ref 268)),("_law_token",595,(.ref 273)),("_law_due",615,(.ref 280)),("law",621,(.ref 285))]),
 (4,{ cls:=Value.type "module",dict:=some 0 }),
 (15,tp []),
 (17,tq 190 ["k"]),
 (18,tp []),
 (20,cd "_wall" "_wall" 187 1 1 3 181 15 16 (.ref 17) (.ref 18) 19 191),
 (21,fn "_wall" "_wall" (mS 0) .none "__main__" 164 20),
 (29,sq "list" [(sv "typ" 208),(sv "val" 209),(sv "loc" 210)]),
 (30,tp []),
 (32,tq 215 ["self","typ","val","loc"]),
 (33,tp []),
 (35,cd "__init__" "Token.__init__" 212 8 4 3 181 30 31 (.ref 32) (.ref 33) 34 219),
 (36,fn "__init__" "Token.__init__" (mM 2 1) .none "ppci.lang.common" 194 35),
 (37,tp []),
 (39,tq 225 ["self"]),
 (40,tp []),
 (42,cd "__repr__" "Token.__repr__" 222 14 1 3 181 37 38 (.ref 39) (.ref 40) 41 226),
 (43,fn "__repr__" "Token.__repr__" (mM 2 2) .none "ppci.lang.common" 194 42),
 (44,tq 229 ["loc","typ","val"]),
 (46,dc (.type "dict") 5 p [("__module__",203,(sv "ppci.lang.common" 194)),("__firstlineno__",207,(.int 5 206)),("__slots__",211,(.ref 29)),("__init__",221,(.ref 36)),("__repr__",228,(.ref 43)),("__static_attributes__",232,(.ref 44)),("loc",234,(.ref 48)),("typ",236,(.ref 49)),("val",238,(.ref 50)),("__doc__",239,.none)]),
 (47,{ cls:=Value.type "type",data:=Data.cls { name:=so "Token",bases:=[Value.type "object"],mro:=[Value.ref 47,Value.type "object"],ns:=46,qualname:=so "Token",hasDict:=false,slotNames:=[so "loc",so "typ",so "val"] },slots:=#[none,none,some (Value.str (so "Token") 196),some (Value.str (so "Token") 204),some (Value.builtin "object.__new__"),some (Value.bool false)] }),
 (48,fl "member_descriptor" [(sv "loc" 233),(.ref 47),(.builtin "proto.slot"),(.builtin "proto.slot#set"),(.int 2 0)]),
 (49,fl "member_descriptor" [(sv "typ" 235),(.ref 47),(.builtin "proto.slot"),(.builtin "proto.slot#set"),(.int 1 0)]),
 (50,fl "member_descriptor" [(sv "val" 237),(.ref 47),(.builtin "proto.slot"),(.builtin "proto.slot#set"),(.int 0 0)]),
 (60,sq "list" [(sv "filename" 254),(sv "row" 255),(sv "col" 256),(sv "length" 257),(sv "source" 258)]),
 (61,tp [.none]),
 (62,tp []),
 (64,tq 263 ["self","filename","row","col","ln","source"]),
 (65,tp []),
 (67,cd "__init__" "SourceLocation.__init__" 260 19 6 3 181 62 63 (.ref 64) (.ref 65) 66 269),
 (68,fn "__init__" "SourceLocation.__init__" (mM 3 1) (.ref 61) "ppci.lang.common" 194 67),
 (69,tp []),
 (71,tq 275 ["self"]),
 (72,tp []),
 (74,cd "__repr__" "SourceLocation.__repr__" 272 26 1 3 181 69 70 (.ref 71) (.ref 72) 73 276),
 (75,fn "__repr__" "SourceLocation.__repr__" (mM 3 2) .none "ppci.lang.common" 194 74),
 (76,tq 279 ["col","filename","length","row","source"]),
 (78,dc (.type "dict") 7 p [("__module__",249,(sv "ppci.lang.common" 194)),("__firstlineno__",253,(.int 16 252)),("__slots__",259,(.ref 60)),("__init__",271,(.ref 68)),("__repr__",278,(.ref 75)),("__static_attributes__",284,(.ref 76)),("col",286,(.ref 80)),("filename",288,(.ref 81)),("length",290,(.ref 82)),("row",292,(.ref 83)),("source",294,(.ref 84)),("__doc__",295,.none)]),
 (79,{ cls:=Value.type "type",data:=Data.cls { name:=so "SourceLocation",bases:=[Value.type "object"],mro:=[Value.ref 79,Value.type "object"],ns:=78,qualname:=so "SourceLocation",hasDict:=false,slotNames:=[so "col",so "filename",so "length",so "row",so "source"] },slots:=#[none,none,some (Value.str (so "SourceLocation") 242),some (Value.str (so "SourceLocation") 250),some (Value.builtin "object.__new__"),some (Value.bool false)] }),
 (80,fl "member_descriptor" [(sv "col" 285),(.ref 79),(.builtin "proto.slot"),(.builtin "proto.slot#set"),(.int 4 0)]),
 (81,fl "member_descriptor" [(sv "filename" 287),(.ref 79),(.builtin "proto.slot"),(.builtin "proto.slot#set"),(.int 3 0)]),
 (82,fl "member_descriptor" [(sv "length" 289),(.ref 79),(.builtin "proto.slot"),(.builtin "proto.slot#set"),(.int 2 0)]),
 (83,fl "member_descriptor" [(sv "row" 291),(.ref 79),(.builtin "proto.slot"),(.builtin "proto.slot#set"),(.int 1 0)]),
 (84,fl "member_descriptor" [(sv "source" 293),(.ref 79),(.builtin "proto.slot"),(.builtin "proto.slot#set"),(.int 0 0)]),
 (87,tp [(.type "Exception")]),
 (94,tp [.none,.none]),
 (95,tp []),
 (97,tq 315 ["self","msg","loc","hints"]),
 (98,tp []),
 (100,cd "__init__" "CompilerError.__init__" 312 31 4 3 181 95 96 (.ref 97) (.ref 98) 99 319),
 (101,fn "__init__" "CompilerError.__init__" (mM 5 0) (.ref 94) "ppci.common" 298 100),
 (102,tp []),
 (104,tq 325 ["self"]),
 (105,tp []),
 (107,cd "__repr__" "CompilerError.__repr__" 322 40 1 3 181 102 103 (.ref 104) (.ref 105) 106 326),
 (108,fn "__repr__" "CompilerError.__repr__" (mM 5 1) .none "ppci.common" 298 107),
 (109,tq 329 ["hints","loc","msg"]),
 (110,dc (.type "dict") 3 p [("__module__",307,(sv "ppci.common" 298)),("__firstlineno__",311,(.int 29 310)),("__init__",321,(.ref 101)),("__repr__",328,(.ref 108)),("__static_attributes__",332,(.ref 109)),("__weakref__",334,(.ref 112)),("__doc__",335,.none)]),
 (111,{ cls:=Value.type "type",data:=Data.cls { name:=so "CompilerError",bases:=[Value.type "Exception"],mro:=[Value.ref 111,Value.type "Exception",Value.type "BaseException",Value.type "object"],ns:=110,qualname:=so "CompilerError" },slots:=#[some (Value.ref 87),none,some (Value.str (so "CompilerError") 300),some (Value.str (so "CompilerError") 308),some (Value.builtin "Exception.__new__"),some (Value.bool true)] }),
 (112,fl "getset_descriptor" [(sv "__weakref__" 333),(.ref 111),(.builtin "ExceptionGroup.__weakref__"),.none]),
 (122,tp []),
 (124,tq 357 ["self","char","loc"]),
 (125,tp []),
 (127,cd "__init__" "Char.__init__" 354 45 3 3 181 122 123 (.ref 124) (.ref 125) 126 360),
 (128,fn "__init__" "Char.__init__" (mM 7 0) .none "ppci.lang.tools.handlexer" 340 127),
 (129,tp []),
 (131,tq 366 ["self"]),
 (132,tp []),
 (134,cd "__repr__" "Char.__repr__" 363 49 1 3 181 129 130 (.ref 131) (.ref 132) 133 367),
 (135,fn "__repr__" "Char.__repr__" (mM 7 1) .none "ppci.lang.tools.handlexer" 340 134),
 (136,tq 370 ["char","loc"]),
 (137,dc (.type "dict") 4 p [("__module__",349,(sv "ppci.lang.tools.handlexer" 340)),("__firstlineno__",353,(.int 43 352)),("__init__",362,(.ref 128)),("__repr__",369,(.ref 135)),("__static_attributes__",372,(.ref 136)),("__dict__",374,(.ref 139)),("__weakref__",376,(.ref 140)),("__doc__",377,.none)]),
 (138,{ cls:=Value.type "type",data:=Data.cls { name:=so "Char",bases:=[Value.type "object"],mro:=[Value.ref 138,Value.type "object"],ns:=137,qualname:=so "Char" },slots:=#[none,none,some (Value.str (so "Char") 342),some (Value.str (so "Char") 350),some (Value.builtin "object.__new__"),some (Value.bool true)] }),
 (139,fl "getset_descriptor" [(sv "__dict__" 373),(.ref 138),(.builtin "function.__dict__"),(.builtin "function.__dict__#set")]),
 (140,fl "getset_descriptor" [(sv "__weakref__" 375),(.ref 138),(.builtin "ExceptionGroup.__weakref__"),.none]),
 (150,tp []),
 (152,tq 395 ["self"]),
 (153,tp []),
 (155,cd "__init__" "HandLexerBase.__init__" 392 53 1 3 181 150 151 (.ref 152) (.ref 153) 154 396),
 (156,fn "__init__" "HandLexerBase.__init__" (mM 8 0) .none "ppci.lang.tools.handlexer" 340 155),
 (157,tp []),
 (159,tq 402 ["self","characters","start_state","state"]),
 (160,tp []),
 (162,cd "tokenize" "HandLexerBase.tokenize" 399 58 3 35 181 157 158 (.ref 159) (.ref 160) 161 406),
 (163,fn "tokenize" "HandLexerBase.tokenize" (mM 8 1) .none "ppci.lang.tools.handlexer" 340 162),
 (164,tp [(.bool true)]),
 (165,tp []),
 (167,tq 412 ["self","eof","char"]),
 (168,tp []),
 (170,cd "next_char" "HandLexerBase.next_char" 409 66 2 3 181 165 166 (.ref 167) (.ref 168) 169 415),
 (171,fn "next_char" "HandLexerBase.next_char" (mM 8 2) (.ref 164) "ppci.lang.tools.handlexer" 340 170),
 (172,tp []),
 (174,tq 421 ["self","char"]),
 (175,tp []),
 (177,cd "backup_char" "HandLexerBase.backup_char" 418 77 2 3 181 172 173 (.ref 174) (.ref 175) 176 423),
 (178,fn "backup_char" "HandLexerBase.backup_char" (mM 8 3) .none "ppci.lang.tools.handlexer" 340 177),
 (179,tp []),
 (181,tq 429 ["self","typ","val","loc","token"]),
 (182,tp []),
 (184,cd "emit" "HandLexerBase.emit" 426 82 2 3 181 179 180 (.ref 181) (.ref 182) 183 434),
 (185,fn "emit" "HandLexerBase.emit" (mM 8 4) .none "ppci.lang.tools.handlexer" 340 184),
 (186,tp []),
 (188,tq 440 ["self"]),
 (189,tp []),
 (191,cd "ignore" "HandLexerBase.ignore" 437 89 1 3 181 186 187 (.ref 188) (.ref 189) 190 441),
 (192,fn "ignore" "HandLexerBase.ignore" (mM 8 5) .none "ppci.lang.tools.handlexer" 340 191),
 (193,tp []),
 (195,tq 447 ["self","valid","char"]),
 (196,tp []),
 (198,cd "accept" "HandLexerBase.accept" 444 92 2 3 181 193 194 (.ref 195) (.ref 196) 197 450),
 (199,fn "accept" "HandLexerBase.accept" (mM 8 6) .none "ppci.lang.tools.handlexer" 340 198),
 (200,tp []),
 (202,tq 456 ["self","valid"]),
 (203,tp []),
 (205,cd "accept_run" "HandLexerBase.accept_run" 453 100 2 3 181 200 201 (.ref 202) (.ref 203) 204 458),
 (206,fn "accept_run" "HandLexerBase.accept_run" (mM 8 7) .none "ppci.lang.tools.handlexer" 340 205),
 (207,tp []),
 (209,tq 464 ["self","sequence"]),
 (210,tp []),
 (212,cd "accept_sequence" "HandLexerBase.accept_sequence" 461 103 2 3 181 207 208 (.ref 209) (.ref 210) 211 466),
 (213,fn "accept_sequence" "HandLexerBase.accept_sequence" (mM 8 8) .none "ppci.lang.tools.handlexer" 340 212),
 (214,tp []),
 (216,tq 472 ["self","message","char","loc"]),
 (217,tp []),
 (219,cd "error" "HandLexerBase.error" 469 106 2 3 181 214 215 (.ref 216) (.ref 217) 218 476),
 (220,fn "error" "HandLexerBase.error" (mM 8 9) .none "ppci.lang.tools.handlexer" 340 219),
 (221,tp []),
 (223,tq 482 ["self","valid"]),
 (224,tp []),
 (226,cd "expect" "HandLexerBase.expect" 479 111 2 3 181 221 222 (.ref 223) (.ref 224) 225 484),
 (227,fn "expect" "HandLexerBase.expect" (mM 8 10) .none "ppci.lang.tools.handlexer" 340 226),
 (228,tq 487 ["characters","current_text","pushed_back","token_buffer"]),
 (229,dc (.type "dict") 4 p [("__module__",387,(sv "ppci.lang.tools.handlexer" 340)),("__firstlineno__",391,(.int 51 390)),("__init__",398,(.ref 156)),("tokenize",408,(.ref 163)),("next_char",417,(.ref 171)),("backup_char",425,(.ref 178)),("emit",436,(.ref 185)),("ignore",443,(.ref 192)),("accept",452,(.ref 199)),("accept_run",460,(.ref 206)),("accept_sequence",468,(.ref 213)),("error",478,(.ref 220)),("expect",486,(.ref 227)),("__static_attributes__",491,(.ref 228)),("__dict__",493,(.ref 231)),("__weakref__",495,(.ref 232)),("__doc__",496,.none)]),
 (230,{ cls:=Value.type "type",data:=Data.cls { name:=so "HandLexerBase",bases:=[Value.type "object"],mro:=[Value.ref 230,Value.type "object"],ns:=229,qualname:=so "HandLexerBase" },slots:=#[none,none,some (Value.str (so "HandLexerBase") 380),some (Value.str (so "HandLexerBase") 388),some (Value.builtin "object.__new__"),some (Value.bool true)] }),
 (231,fl "getset_descriptor" [(sv "__dict__" 492),(.ref 230),(.builtin "function.__dict__"),(.builtin "function.__dict__#set")]),
 (232,fl "getset_descriptor" [(sv "__weakref__" 494),(.ref 230),(.builtin "ExceptionGroup.__weakref__"),.none]),
 (235,dc (.type "dict") 4 p [("a",503,(.int 0 504)),("b",505,(.int 1 506)),("c",507,(.int 2 508)),("d",509,(.int 3 510))]),
 (236,tp []),
 (238,tq 521 ["pen","many","at","lap","place"]),
 (239,tp []),
 (241,cd "_law_draw" "_law_draw" 518 117 2 3 181 236 237 (.ref 238) (.ref 239) 240 526),
 (242,fn "_law_draw" "_law_draw" (mS 13) .none "law_rk0005_01" 499 241),
 (243,tp []),
 (246,cd "_law_plan" "_law_plan" 529 122 2 3 181 243 244 .none .none 245 532),
 (247,fn "_law_plan" "_law_plan" (mS 14) .none "law_rk0005_01" 499 246),
 (248,tp []),
 (250,tq 538 ["pen","found","at","sign","place"]),
 (251,tp []),
 (253,cd "_law_text" "_law_text" 535 136 1 3 181 248 249 (.ref 250) (.ref 251) 252 543),
 (254,fn "_law_text" "_law_text" (mS 15) .none "law_rk0005_01" 499 253),
 (255,tp []),
 (257,tq 549 ["lexer","number","row","states","events","fuel","window","state"]),
 (258,tq 557 ["lexer","number","states","events","fuel","window","asks","deed","goes","keeps","signs","twice"]),
 (260,cd "_law_state" "_law_state" 546 142 7 3 181 255 256 (.ref 257) (.ref 258) 259 569),
 (261,fn "_law_state" "_law_state" (mS 16) .none "law_rk0005_01" 499 260),
 (262,tp []),
 (264,tq 575 ["lexer","plan","events","fuel","states","last","number","row"]),
 (265,tq 583 ["lexer","plan","events","window"]),
 (267,cd "_law_states" "_law_states" 572 172 4 3 181 262 263 (.ref 264) (.ref 265) 266 587),
 (268,fn "_law_states" "_law_states" (mS 17) .none "law_rk0005_01" 499 267),
 (269,tp []),
 (272,cd "_law_token" "_law_token" 590 186 4 3 181 269 270 .none .none 271 593),
 (273,fn "_law_token" "_law_token" (mS 18) .none "law_rk0005_01" 499 272),
 (274,tp []),
 (276,tq 599 ["plan","text","due","state","start","place","fuel","signs","deed","asks","keeps","twice","goes","goal"]),
 (277,tp []),
 (279,cd "_law_due" "_law_due" 596 188 3 3 181 274 275 (.ref 276) (.ref 277) 278 613),
 (280,fn "_law_due" "_law_due" (mS 19) .none "law_rk0005_01" 499 279),
 (281,tp []),
 (284,cd "law" "law" 616 218 1 3 181 281 282 .none .none 283 619),
 (285,fn "law" "law" (mS 20) .none "law_rk0005_01" 499 284)]
noncomputable def KK(p:Params):Frag:=rM p
noncomputable def z3(body:List Stmt):Option cC:=match body with
 | [a,b,.While t1 [.While t2 [.Expr (.Yield (some item) ypos) epos] [] pos2,r] [] pos1]=>some ⟨[a,b],t1,t2,item,[r],ypos,epos,pos1,pos2⟩
 | _=>none
section
variable(p:Params)
noncomputable def KZ(st:Stmt):Option gY:=match st with
 | .For _ (.Call (.Attribute _ nm _) _ _ _) _ _ _=>(match nm == "tokenize",gn (KK p) (.val (.ref 163)) with
  | true,some fi=>(z3 fi.body).map λt=>⟨t,60,60⟩
  | _,_=>none)
 | _=>none
noncomputable def pd:Ext:=⟨KZ p,PyData.keyHash p⟩
noncomputable abbrev RN(n:Nat):Rec:=wa (KK p) (pd p) n
noncomputable abbrev XN(n:Nat):cu:=KR (KK p) (pd p) n
noncomputable def bF(a:Addr):cG:=(gn (KK p) (.val (.ref a))).getD ⟨⟨[],[],none,[],[],none,[]⟩,[],default,[],[],.none,[]⟩
noncomputable abbrev MN:List Stmt:=(bF p 285).body
noncomputable abbrev LS(i:Nat):Stmt:=bD (MN p) i
end
theorem Go.by{β:Type}{x:EM β}{J aj:St}{b:β}{P:Prop}(ws:List Wd)(h:P)(e:∀ds,(x (J,ws++ds)).map (λr=>(r.1,r.2.1,All r.2.2))=some (b,(aj,ds),P)):Go x J b aj :=
 ⟨ws,λds=>(Option.map_eq_some_iff.mp (e ds)).elim λr q=>by
  obtain⟨rb,re,rc⟩:=r
  have e1:rb=b:=congrArg (·.1) q.2
  have e2:re=(aj,ds):=congrArg (·.2.1) q.2
  have e3:All rc=P:=congrArg (·.2.2) q.2
  exact⟨rc,by rw[q.1,e1,e2],e3▸h⟩⟩
theorem aa{a b:Prop}(h:a)(k:b):a/\b:=⟨h,k⟩
theorem rt:true=true:=rfl
theorem rf:false=false:=rfl
noncomputable def cU:Stmt->PySem.Expr
 | .Assign _ v _=>v
 | .AugAssign _ _ v _=>v
 | .Expr v _=>v
 | .Return (some v) _=>v
 | _=>.Constant .none 0 default
noncomputable def gU:Stmt->PySem.Expr
 | .Assign (t::_) _ _=>t
 | _=>.Constant .none 0 default
noncomputable def eB:PySem.Expr->PySem.Expr
 | .Call f _ _ _=>f
 | e=>e
noncomputable def eL:PySem.Expr->List PySem.Expr
 | .Call _ as _ _=>as
 | e=>[]
noncomputable def df:Stmt->List Stmt
 | .For _ _ b _ _=>b
 | _=>[]
noncomputable def eo:Stmt->PySem.Expr
 | .For _ i _ _ _=>i
 | _=>.Constant .none 0 default
noncomputable def cJ:Stmt->PySem.Expr
 | .For t _ _ _ _=>t
 | _=>.Constant .none 0 default
noncomputable def fO:Stmt->PySem.Expr
 | .If t _ _ _=>t
 | _=>.Constant .none 0 default
noncomputable def e8:Stmt->List Stmt
 | .If _ b _ _=>b
 | _=>[]
noncomputable def lR:Stmt->List Stmt
 | .If _ _ b _=>b
 | _=>[]
noncomputable def fP:Stmt->List Stmt
 | .While _ b _ _=>b
 | _=>[]
noncomputable def e9:Stmt->PySem.Expr
 | .While t _ _ _=>t
 | _=>.Constant .none 0 default
theorem Go.br{β:Type}{x:EM Bool}{y z:EM β}{J au aZ:St}{b:Bool}{v:β}(h1:Go x J b au)(h2:Go (_root_.cond b y z) au v aZ):Go (cF x y z) J v aZ:=show Go (EM.bind x λb=>EM.bind (EM.dec b) λb=>_root_.cond b y z) J v aZ from Go.bind h1 (Go.bind Go.dec h2)
noncomputable abbrev aw(p:Params)(n:Nat)(ae:aB):Stmt->EM aU:=rD (KK p) (pd p) (RN p n) (XN p n) ae
section
variable{p:Params}{n:Nat}{ae:aB}{st:Stmt}{ss:List Stmt}{t it:PySem.Expr}{J au aZ a7 cW ng:St}{fl f3:aU}{v w:AV}
theorem Go.aV(h:Go (bp (aw p n ae) ss) J fl au):Go ((RN p (n+1)).aV ae ss) J fl au:=h
theorem Go.pe(e:aw p n ae st=EM.bind ((RN p n).ev ae (eo st)) λv=>EM.bind (dZ v) λit=>(RN p n).cp ae (cJ st) it (df st))(h1:Go (EM.bind ((RN p n).ev ae (eo st)) λv=>dZ v) J w au)(h2:Go ((RN p n).cp ae (cJ st) w (df st)) au fl aZ):Go (aw p n ae st) J fl aZ:=Go.eq e (Go.iter h1 h2)
theorem lB{x:AV}(h1:Go (b0 t w) J (some x) au)(h2:Go (cb (KK p) (RN p n) ae x t) au PUnit.unit aZ)(h3:Go ((RN p n).aV ae ss) aZ f3 a7)(h4:Go (iF J.n) a7 () cW)(h5:Go ((RN p n).cp ae t w ss) cW fl ng)(hf:f3 = .next∨f3 = .cont:=by exact .inl rfl):Go ((RN p (n+1)).cp ae t w ss) J fl ng:=F3 h1 h2 h3 h4 h5 hf
theorem n4(h1:Go (b0 t w) J none au):Go ((RN p (n+1)).cp ae t w ss) J .next au:=G0 h1
theorem z4{x:AV}(h1:Go (b0 t w) J (some x) au)(h2:Go (cb (KK p) (RN p n) ae x t) au PUnit.unit aZ)(h3:Go ((RN p n).aV ae ss) aZ (.ret v) a7):Go ((RN p (n+1)).cp ae t w ss) J (.ret v) a7:=GZ h1 h2 h3
theorem n5(h1:Go ((RN p n).tst ae t) J true au)(h2:Go ((RN p n).aV ae ss) au f3 aZ)(h3:Go ((RN p n).loop ae t ss) aZ fl a7)(hf:f3 = .next∨f3 = .cont:=by exact .inl rfl):Go ((RN p (n+1)).loop ae t ss) J fl a7:=Go.br h1 (Go.bind (f:=λfl=>kO fl ((RN p n).loop ae t ss) (λv=>EM.ret (.ret v)) (EM.ret .next)) h2 (Go.lp hf h3))
theorem kA(h1:Go ((RN p n).tst ae t) J false au):Go ((RN p (n+1)).loop ae t ss) J .next au:=Go.br h1 Go.ret
theorem I3(h1:Go ((RN p n).tst ae t) J true au)(h2:Go ((RN p n).aV ae ss) au (.ret v) aZ):Go ((RN p (n+1)).loop ae t ss) J (.ret v) aZ:=Go.br h1 (Go.bind (f:=λfl=>kO fl ((RN p n).loop ae t ss) (λv=>EM.ret (.ret v)) (EM.ret .next)) h2 (Go.DY Go.ret))
end
section
variable{tgt:PySem.Expr}{J aj:St}{i j l k:Nat}{xs:List AV}{y:AV}{x:Str}
theorem K1(h0:isTup tgt=true)(h1:J.get i=some (.enum j k))(h2:J.get j=some (.sit x k))(h:(x.cps[k]?).map (λc=>AV.str ⟨#[c]⟩)=some y)(e:(J.set j (.sit x (k+1))).set i (.enum j (k+1))=aj):Go (b0 tgt (.ref i)) J (some (.tup [.int k,y])) aj:=e▸Go.of [.cut [] y] (λds=>G6 h0 h1 h2) ⟨h,trivial⟩
theorem I5(h0:isTup tgt=true)(h1:J.get i=some (.enum j k))(h2:J.get j=some (.sit x k))(h:x.cps[k]? = none)(e:J.set j .any=aj):Go (b0 tgt (.ref i)) J none aj:=e▸Go.of [.b false] (λds=>HY h0 h1 h2) ⟨h,trivial⟩
theorem MO(h0:isTup tgt=true)(h1:J.get i=some (.enum j k))(h2:J.get j=some (.wl l k))(h3:J.get l=some (.list xs))(h:xs[k]? = some y)(e:(J.set j (.wl l (k+1))).set i (.enum j (k+1))=aj):Go (b0 tgt (.ref i)) J (some (.tup [.int k,y])) aj:=e▸Go.of [.cut [] y] (λds=>F4 h0 h1 h2 h3) ⟨h,trivial⟩
theorem K2(h0:isTup tgt=true)(h1:J.get i=some (.enum j k))(h2:J.get j=some (.wl l k))(h3:J.get l=some (.list xs))(h:xs[k]? = none)(e:J.set j .any=aj):Go (b0 tgt (.ref i)) J none aj:=e▸Go.of [.b false] (λds=>G5 h0 h1 h2 h3) ⟨h,trivial⟩
end
section
variable{p:Params}{n:Nat}{ae:aB}{elt t c:PySem.Expr}{it acc v w:AV}{J au aZ a7 cW:St}{fl:aU}
theorem qR{o:Option PySem.Expr}(h:Go (b0 t it) J none au):Go ((RN p (n+1)).comp ae elt t o it acc) J .next au:=show Go (kF (KK p) (RN p n) ae elt t o it acc) _ _ _ from Go.bind h Go.ret
theorem tX(h1:Go (b0 t it) J (some v) au)(h2:Go (cb (KK p) (RN p n) ae v t) au PUnit.unit aZ)(h3:Go (EM.bind ((RN p n).ev ae elt) λx=>fM [acc,x]) aZ w a7)(h4:Go ((RN p n).comp ae elt t none it acc) a7 fl cW):Go ((RN p (n+1)).comp ae elt t none it acc) J fl cW :=
 show Go (kF (KK p) (RN p n) ae elt t none it acc) _ _ _ from Go.bind h1 (Go.sm (Go.bind h2 (show Go (EM.bind (EM.bind ((RN p n).ev ae elt) λx=>fM [acc,x]) λ_=>(RN p n).comp ae elt t none it acc) _ _ _ from Go.bind h3 h4)))
theorem I6(h1:Go (b0 t it) J (some v) au)(h2:Go (cb (KK p) (RN p n) ae v t) au PUnit.unit aZ)(h:Go ((RN p n).tst ae c) aZ true aZ)(h3:Go (EM.bind ((RN p n).ev ae elt) λx=>fM [acc,x]) aZ w a7)(h4:Go ((RN p n).comp ae elt t (some c) it acc) a7 fl cW):Go ((RN p (n+1)).comp ae elt t (some c) it acc) J fl cW :=
 show Go (kF (KK p) (RN p n) ae elt t (some c) it acc) _ _ _ from Go.bind h1 (Go.sm (Go.bind h2 (show Go (cF ((RN p n).tst ae c) (EM.bind (EM.bind ((RN p n).ev ae elt) λx=>fM [acc,x]) λ_=>(RN p n).comp ae elt t (some c) it acc) ((RN p n).comp ae elt t (some c) it acc)) _ _ _ from Go.br h (show Go (EM.bind (EM.bind ((RN p n).ev ae elt) λx=>fM [acc,x]) λ_=>(RN p n).comp ae elt t (some c) it acc) _ _ _ from Go.bind h3 h4))))
theorem K3(h1:Go (b0 t it) J (some v) au)(h2:Go (cb (KK p) (RN p n) ae v t) au PUnit.unit aZ)(h:Go ((RN p n).tst ae c) aZ false aZ)(h4:Go ((RN p n).comp ae elt t (some c) it acc) aZ fl cW):Go ((RN p (n+1)).comp ae elt t (some c) it acc) J fl cW :=
 show Go (kF (KK p) (RN p n) ae elt t (some c) it acc) _ _ _ from Go.bind h1 (Go.sm (Go.bind h2 (show Go (cF ((RN p n).tst ae c) (EM.bind (EM.bind ((RN p n).ev ae elt) λx=>fM [acc,x]) λ_=>(RN p n).comp ae elt t (some c) it acc) ((RN p n).comp ae elt t (some c) it acc)) _ _ _ from Go.br h h4)))
end
section
variable{p:Params}{n A L:Nat}{ae:aB}{elt t iter E:PySem.Expr}{c:Option PySem.Expr}{sc:Scope}{cl:List (Str×Nat)}{it:AV}{J au aZ a7 cW ng:St}
theorem qk(h0:(nP sc && eK iter)=true)(h1:ow ae sc=some cl)(h2:Go (EM.bind ((RN p n).ev ae iter) λv=>dZ v) J it au)(h3:Go (nT []) au (.ref A) aZ)(h4:Go (EM.push (.ns [])) aZ L a7)(h5:Go (isLit it) a7 () a7)
  (h6:Go ((RN p n).comp ⟨fR sc ae,L,cl,.none,ae.frm,[]⟩ elt t c it (.ref A)) a7 .next cW):Go (jc (RN p n) ae elt t iter c sc) J (.ref A,L) cW :=
 Go.aW h0 (Go.opt h1 (Go.iter h2 (Go.bind h3 (Go.bind h4 (Go.bind h5 (Go.bind (f:=λfl=>cj fl (EM.ret ((AV.ref A,L):AV×Nat)) (λ_=>EM.fail) EM.fail) h6 Go.ret))))))
theorem vF(e:(RN p (n+1)).ev ae E=EM.bind (jc (RN p n) ae elt t iter c sc) λq=>EM.bind (iw q.2) λ_=>EM.ret q.1)(h:Go (jc (RN p n) ae elt t iter c sc) J (.ref A,L) cW)(h7:Go (iw L) cW () ng):Go ((RN p (n+1)).ev ae E) J (.ref A) ng:=Go.eq e (Go.bind h (Go.bind (f:=λ_=>EM.ret (AV.ref A)) h7 Go.ret))
end
noncomputable def i7:PySem.Expr->PySem.Expr
 | .ListComp e _ _ _=>e
 | e=>e
noncomputable def gQ:PySem.Expr->PySem.Expr
 | .ListComp _ (c::_) _ _=>c.target
 | e=>e
noncomputable def mO:PySem.Expr->PySem.Expr
 | .ListComp _ (c::_) _ _=>c.iter
 | e=>e
noncomputable def uK:PySem.Expr->PySem.Expr
 | .ListComp _ (⟨_,_,c::_,_⟩::_) _ _=>c
 | e=>e
noncomputable def fQ:PySem.Expr->Scope
 | .ListComp _ _ s _=>s
 | _=>default
noncomputable def iL:List PySem.Expr->Nat->PySem.Expr
 | [],_=>.Constant .none 0 default
 | e::_,0=>e
 | _::es,n+1=>iL es n
noncomputable def k7:PySem.Expr->PySem.Expr
 | .Attribute o _ _=>o
 | e=>e
theorem Go.drop{N:Nat}(i:Nat)(xs:List Str){J aj:St}(u:∀q∈aj.objs,bA N q.2)(e:∀ds,(iF N (J,[.drop i xs]++ds)).map (λr=>(r.1,r.2.1,All r.2.2))=some ((),(aj,ds),(∀q∈aj.objs,bA N q.2)/\True)):Go (iF N) J () aj:=Go.by [.drop i xs] ⟨u,trivial⟩ e
noncomputable abbrev bot(vs:List Value):List (Nat×Cell):=[(3,.tab 267 #[] (some [])),(2,.tab 260 #[] (some [])),(1,.tab 184 #[] none),(0,.raw (jk vs))]
noncomputable def aT(p:Params):aB:=⟨(bF p 285).scope,4,[],.ref 284,4,[]⟩
noncomputable def l0(vs:List Value):St:=⟨5,(4,.ns [("script",.ref 0)])::bot vs⟩
noncomputable abbrev iM(vs:List Value)(row:List AV)(k:Int)(nm:List (Str×AV)):List (Nat×Cell):=(9,.list [.lst row,.int k])::(6,.lend)::(4,.ns nm)::bot vs
noncomputable def nF:List (Str×AV):=[("script",.ref 0),("pen",.ref 9)]
noncomputable def l1(vs:List Value)(row:List AV)(k:Int):St:=⟨10,iM vs row k nF⟩
noncomputable abbrev UC(N:Nat)(l:List (Nat×Cell)):Prop:=∀q∈l,bA N q.2
noncomputable abbrev UV(N:Nat)(v:AV)(l:List (Nat×Cell)):Prop:=aL N v/\UC N l
noncomputable abbrev M6:Nat:=1000000
theorem lM{α:Type}{xs:List α}(h:xs.length<=900):xs.length<=M6:=Nat.le_trans h (by decide)
noncomputable def nB:PySem.Expr->List PySem.Expr
 | .Tuple es _ _=>es
 | _=>[]
noncomputable def tupK:PySem.Expr->Nat
 | .Tuple _ k _=>k
 | _=>0
noncomputable def tupP:PySem.Expr->Pos
 | .Tuple _ _ q=>q
 | _=>default
noncomputable def N0:Stmt->Pos
 | .Assign _ _ q=>q
 | _=>default
noncomputable abbrev jt(p:Params)(ae:aB)(st:Stmt)(o:Option (List Str)):Prop:=uE ae (nB (gU st)) (tupK (gU st)) (tupP (gU st)) (cU st) (N0 st) o
noncomputable abbrev D1(p:Params)(N:Nat):aB:=⟨(bF p 242).scope,N,[],.ref 241,N,[]⟩
theorem H2{p:Params}{N:Nat}:jt p (D1 p N) (bD (bF p 242).body 2) none:=λenv he=>⟨rfl,rfl⟩
noncomputable abbrev j5(row:List AV)(k:Int):Int:=k.fdiv (Int.ofNat row.length)
noncomputable abbrev dv(row:List AV)(k y s:Int):Int:=(y.fdiv (Int.ofNat (97 ^ (j5 row k).toNat))+(j5 row k * (j5 row k+1)).fdiv 2).fmod s
noncomputable abbrev wn(x:AV)(k:Int)(P:Prop):Prop:=(0<=k/\k<1000000/\some x=some x)∨P
noncomputable abbrev DC(p:Params)(N:Nat)(row:List AV)(k y s:Int)(U R:Prop):Prop:=2<=M6/\wn (.int k) 1 ((1:Int) = -1/\some (AV.int k)=some (AV.int k))/\2<=M6/\((0:Int)<=1/\(1:Int)<2)/\jt p (D1 p N) (bD (bF p 242).body 2) none /\
 2<=M6/\wn (.lst row) 0 ((0:Int) = -1/\some (AV.int (k+1))=some (AV.lst row))/\row.length<=M6/\(Int.ofNat row.length≠0/\divisionGoesByPylong k (Int.ofNat row.length)=false) /\
 2<=M6/\wn (.lst row) 0 ((0:Int) = -1/\some (AV.int (k+1))=some (AV.lst row))/\(0<=k.fmod (Int.ofNat row.length)/\k.fmod (Int.ofNat row.length)<1000000/\row[(k.fmod (Int.ofNat row.length)).toNat]? = some (.int y)) /\
 oK 97 (j5 row k)/\(Int.ofNat (97 ^ (j5 row k).toNat)≠0/\divisionGoesByPylong y (Int.ofNat (97 ^ (j5 row k).toNat))=false)/\IntMulOk (j5 row k) (j5 row k+1)/\((2:Int)≠0/\false=false)/\s≠0/\U/\R
noncomputable abbrev dW(row:List AV)(k y:Int):List Wd:=[.cut [] (.int k),.b false,.cut [] (.lst row),.cut [] (.lst row),.cut [] (.int y),.norm]
structure cI(ns:List Int)(k b:Int):Prop where
 k0:0<=k
 kb:k<=b
 b1:b<=120
 l:ns.length<=24
 l0:1<=ns.length
theorem cI.step{ns:List Int}{k b b':Int}(h:cI ns k b)(e:b+1<=b')(h':b'<=120):cI ns (k+1) b':=⟨by have:=h.k0; omega,by have:=h.kb; omega,h',h.l,h.l0⟩
theorem cI.to{ns:List Int}{k b b':Int}(h:cI ns k b)(e:b<=b')(h':b'<=120):cI ns k b':=⟨h.k0,by have:=h.kb; omega,h',h.l,h.l0⟩
theorem Fq{k:Int}(h0:0<=k)(h1:k<=5001):Builtin.Int.intBits k<=64:=by
 unfold Builtin.Int.intBits
 have:k.natAbs<2 ^ 13:=by omega
 split
 ·exact Nat.zero_le _
 ·rename_i h
  have h2:k.natAbs≠0:=by simpa using h
  have:=(Nat.log2_lt h2).mpr this
  omega
theorem iy{p:Params}{ns:List Int}{k b s:Int}(h:cI ns k b)(h0:0<s):∃y,(∀(N:Nat) (U R:Prop),U->R->DC p N (ns.map AV.int) k y s U R)/\0<=dv (ns.map AV.int) k y s/\dv (ns.map AV.int) k y s<s:=by
 have r:=h.k0
 have r2:=h.kb
 have r3:=h.b1
 have r4:=h.l
 have r5:=h.l0
 obtain⟨i,rfl⟩:=Int.eq_ofNat_of_zero_le r
 have el:(ns.map AV.int).length=ns.length:=List.length_map ..
 have hp:0<ns.length:=r5
 have e1:j5 (ns.map AV.int) (i:Int)=((i / ns.length:Nat):Int):=by show Int.fdiv _ _=_; rw[el]; exact Int.fdiv_eq_ediv_of_nonneg _ (Int.natCast_nonneg _)
 have hd:i / ns.length<=120:=Nat.le_trans (Nat.div_le_self _ _) (by omega)
 have e2:(i:Int).fmod (Int.ofNat (ns.map AV.int).length)=((i % ns.length:Nat):Int):=by rw[el]; exact Int.fmod_eq_emod_of_nonneg _ (Int.natCast_nonneg _)
 have hm:i % ns.length<ns.length:=Nat.mod_lt _ hp
 generalize i / ns.length=q at e1 hd
 refine⟨ns[i % ns.length],λN U R u r=>?_,Int.fmod_nonneg_of_pos _ h0,Int.fmod_lt_of_pos _ h0⟩
 have hy:(ns.map AV.int)[i % ns.length]? = some (.int ns[i % ns.length]):=by rw[List.getElem?_map,List.getElem?_eq_getElem hm]; rfl
 generalize ns[i % ns.length]=y at hy
 generalize i % ns.length=z at e2 hm hy
 have hpw:97 ^ q<2 ^ (7 * 121):=Nat.lt_of_le_of_lt (Nat.pow_le_pow_left (show 97<=2 ^ 7 by decide) _) (by rw[<- Nat.pow_mul]; exact Nat.pow_lt_pow_right (by decide) (by omega))
 have hp0:97 ^ q≠0:=Nat.ne_of_gt (Nat.pow_pos (by decide))
 refine⟨by decide,.inl ⟨by decide,by decide,rfl⟩,by decide,by decide,H2,by decide,.inl ⟨by decide,by decide,rfl⟩,by rw[el]; exact Nat.le_trans r4 (by decide),⟨by rw[el,Int.ofNat_eq_natCast]; clear hpw hp0; omega,PyProof.noPylong_small (by rw[el,Int.ofNat_eq_natCast]; clear hpw hp0; omega)⟩,by decide,.inl ⟨by decide,by decide,rfl⟩,?_,?_,?_,?_,⟨by decide,rfl⟩,Int.ne_of_gt h0,u,r⟩
 ·rw[e2,Int.toNat_natCast]
  clear hpw hp0
  exact⟨by omega,by omega,hy⟩
 ·rw[e1]
  refine⟨by omega,by decide,?_⟩
  show decide (_ > _)=false
  rw[show Builtin.Int.intBits 97=7 by decide]
  clear hpw hp0
  exact decide_eq_false (by show ¬ ((7:Nat):Int) * _ > ((2 ^ 27:Nat):Int); omega)
 ·rw[e1,Int.toNat_natCast]
  exact⟨λe=>hp0 (Int.ofNat.inj e),PyProof.noPylong_of_log2 (Nat.lt_trans ((Nat.log2_lt hp0).mpr hpw) (by decide))⟩
 ·rw[e1]
  clear hpw hp0
  exact .of_left (Fq (by omega) (by omega))
theorem H3{vs:List Value}{N:Nat}:UC N (bot vs):=aY trivial (aY trivial (aY trivial (aY trivial zY)))
theorem CL.ints(ns:List Int):CL (ns.map AV.int):=⟨λx hx N=>by
 obtain⟨r,hr,rfl⟩:=List.mem_map.mp hx
 exact .int _⟩
theorem tY{vs:List Value}{ns:List Int}{k:Int}{nm:List (Str×AV)}{N:Nat}(hn:aO N nm):UC N (iM vs (ns.map AV.int) k nm) :=
 aY (dJ (CL.cons (CL.lst (CL.ints ns)) (CL.cons (λ_=>.int _) CL.nil))) (aY trivial (aY (eZ hn) H3))
noncomputable def tS(cs:List Nat):Str:=⟨cs.toArray⟩
noncomputable def bW(cs:List Nat):List AV:=cs.map λd=>.str ⟨#[d]⟩
theorem Bd(cs:List Nat):CL (bW cs):=⟨λx hx N=>by
 obtain⟨d,_,rfl⟩:=List.mem_map.mp hx
 exact .str _⟩
theorem sI(cs:List Nat):fN (bW cs)=cs.map λd=>(⟨#[d]⟩:Str):=by
 unfold fN bW
 rw[List.map_map]
 rfl
theorem yq:∀cs:List Nat,Str.join (Str.ofString "") (cs.map λd=>(⟨#[d]⟩:Str))=tS cs
 | []=>rfl
 | [d]=>rfl
 | d::d2::cs=>by
  show(⟨#[d]⟩:Str)++Str.ofString ""++Str.join (Str.ofString "") ((d2::cs).map λd=>(⟨#[d]⟩:Str))=_
  rw[yq (d2::cs)]
  show(⟨(#[d]++#[])++(d2::cs).toArray⟩:Str)=⟨_⟩
  simp
theorem join_one(cs:List Nat):Txt.join (Str.ofString "") (cs.map λd=>(⟨#[d]⟩:Str))=tS cs:=by
 show Builtin.Str.glued _ _=_
 rw[StrLaws.glued_eq_join,yq]
theorem G7(l:List Nat):∀a:Nat,(l.map λd=>(⟨#[d]⟩:Str)).foldl (λn x=>n+x.length+(Str.ofString "").length) a=a+l.length:=by
 induction l with
 | nil=>intro a; rfl
 | cons x l ih =>
  intro a
  rw[List.map_cons,List.foldl_cons,ih,List.length_cons]
  show a+1+0+l.length=a+(l.length+1)
  omega
theorem z5(cs:List Nat)(hn:cs.length<=900):JoinOk (Str.ofString "") (cs.map λd=>(⟨#[d]⟩:Str))=true:=by
 unfold JoinOk
 have h1:=G7 cs 0
 rw[Bool.not_eq_true']
 unfold Builtin.Str.tooLong
 simp only[List.foldl_toArray,decide_eq_false_iff_not,gt_iff_lt,Nat.not_lt]
 have:sizeLine=2 ^ 24:=rfl
 omega
theorem y7(cs:List Nat)(hn:cs.length<=900):(∀y∈bW cs,(strAt y).isSome=true)/\JoinOk (Str.ofString "") (fN (bW cs))=true:=by
 refine⟨λy hy=>?_,by rw[sI]; exact z5 cs hn⟩
 obtain⟨d,_,rfl⟩:=List.mem_map.mp hy
 rfl
theorem qw(cs:List Nat):(bW cs).length=cs.length:=List.length_map ..
structure ez where
 lst:Bool
 ds:List Nat
noncomputable def ez.av(q:ez):AV:=_root_.cond q.lst (.lst (bW q.ds)) (.str (tS q.ds))
theorem ez.bZ(q:ez)(N:Nat):aL N q.av:=by
 obtain⟨b,ds⟩:=q
 cases b with
 | true=>exact CL.lst (Bd ds) N
 | false=>exact .str _
inductive jl where | emit | ignore | leave
noncomputable def jl.s:jl->Str
 | .emit=>"emit"
 | .ignore=>"ignore"
 | .leave=>"leave"
structure Row where
 sg:ez
 dd:jl
 asks:Bool
 keeps:Bool
 twice:Bool
 goes:List Nat
noncomputable def Row.av(r:Row):AV:=.tup [r.sg.av,.str r.dd.s,.bool r.asks,.bool r.keeps,.bool r.twice,.lst (r.goes.map λ(i:Nat)=>.int i)]
structure jg(c:Nat)(r:Row):Prop where
 len:r.goes.length=5
 le:∀i∈r.goes,i<=c
 dd:r.asks=true->r.dd≠.emit
 ds:r.sg.ds.length<=4
noncomputable def oC(c:Nat)(rs:List Row):Prop:=∀r∈rs,jg c r
theorem qx(l:List Nat):CL (l.map λ(i:Nat)=>AV.int i):=⟨λx hx N=>by
 obtain⟨r,hr,rfl⟩:=List.mem_map.mp hx
 exact .int _⟩
theorem Row.bZ(r:Row)(N:Nat):aL N r.av:=CL.tup (CL.cons r.sg.bZ (CL.cons (λ_=>.str _) (CL.cons (λ_=>.bool _) (CL.cons (λ_=>.bool _) (CL.cons (λ_=>.bool _) (CL.cons (CL.lst (qx _)) CL.nil)))))) N
noncomputable abbrev a4(rs:List Row):List AV:=rs.map Row.av
theorem tZ(rs:List Row):CL (a4 rs):=⟨λx hx N=>by
 obtain⟨r,hr,rfl⟩:=List.mem_map.mp hx
 exact r.bZ N⟩
noncomputable def wA(p:Params):List Stmt:=(bF p 247).body
noncomputable def b7(p:Params):aB:=⟨(bF p 247).scope,10,[("mask",11)],.ref 246,10,[]⟩
noncomputable def gH(p:Params):Stmt:=bD (wA p) 1
noncomputable abbrev PS(p:Params)(i:Nat):Stmt:=bD (df (gH p)) i
section
variable(vs:List Value)(row:List AV)(k:Int)(nm:List (Str×AV))(mk:Option AV)(plan:List AV)
noncomputable abbrev wB:St:=⟨13,(12,.list plan)::(11,.box mk)::(10,.ns nm)::iM vs row k nF⟩
noncomputable abbrev dX(a b l:Int):St:=⟨15,(14,.rit a l 1)::(13,.rng 0 b 1)::(wB vs row k nm mk plan).objs⟩
end
noncomputable def iP(c:Nat):List (Str×AV):=[("pen",.ref 9),("count",.int c),("plan",.ref 12)]
noncomputable def cx(c:Nat)(a:Int)(ex:List (Str×AV)):List (Str×AV):=("pen",.ref 9)::("count",.int c)::("plan",.ref 12)::("number",.int a)::ex
theorem I7{c N:Nat}(h:13<=N):aO N (iP c):=.cons (.ref (by omega)) (.cons (.int _) (.cons (.ref (by omega)) .nil))
theorem m3{c N:Nat}{a:Int}{ex:List (Str×AV)}(h:13<=N)(hx:aO N ex):aO N (cx c a ex):=.cons (.ref (by omega)) (.cons (.int _) (.cons (.ref (by omega)) (.cons (.int _) hx)))
theorem Be{N:Nat}(h:10<=N):aO N nF:=.cons (.ref (by omega)) (.cons (.ref (by omega)) .nil)
noncomputable def pf(mk:Option AV):Prop:=∀v,mk=some v->∀N,aL N v
section
variable{p:Params}{vs:List Value}{ns:List Int}{k b a e' c' l y mk:Int}{m N c:Nat}{nm ex:List (Str×AV)}{plan:List Row}{o:Option AV}{r:Row}
theorem t4(hN:15<=N)(hn:aO N nm)(hm:pf o):UC N (dX vs (ns.map AV.int) k nm o (a4 plan) e' c' l).objs :=
 aY trivial (aY trivial (aY (dJ (tZ _)) (aY (show bA N (.box o) by cases o with
  | none=>trivial
  | some v=>exact nZ (hm v rfl N)) (aY (eZ hn) (tY (Be (by omega)))))))
theorem wC:pf (some (.int mk)):=λv e N=>by cases e; exact .int _
theorem I8(h:cI ns k b)(hm:pf o):∃v,0<=v/\v<16/\Go (aw p (m+30) (b7 p) (PS p 0)) (dX vs (ns.map AV.int) k (cx c a []) o (a4 plan) e' c' l) .next (dX vs (ns.map AV.int) (k+1) (cx c a []) (some (.int v)) (a4 plan) e' c' l):=by
 obtain⟨y,hD,v0,v1⟩:=iy (p:=p) h (s:=16) (by decide)
 exact⟨_,v0,v1,Go.by (dW (ns.map AV.int) k y) (hD 15 _ _ (show UV 15 (.int (dv (ns.map AV.int) k y 16)) (dX vs (ns.map AV.int) (k+1) (cx c a []) o (a4 plan) e' c' l).objs from⟨.int _,t4 (by decide) (m3 (by decide) .nil) hm⟩) trivial) (λ_=>by kernel_rfl)⟩
noncomputable abbrev fD(p:Params):PySem.Expr:=iL (eL (cU (PS p 1))) 0
noncomputable def rE(p:Params):aB:=⟨fR (fQ (fD p)) (b7 p),18,[("mask",11)],.none,10,[]⟩
noncomputable def iQ(vs:List Value)(row:List AV)(k mk:Int)(nm:List (Str×AV))(plan:List AV)(a b l:Int)(it:Cell)(j:Nat)(ys:List AV)(cm:List (Str×AV)):St :=
 ⟨19,(18,.ns cm)::(17,.list ys)::(16,.enum 15 j)::(15,it)::(dX vs row k nm (some (.int mk)) plan a b l).objs⟩
noncomputable def Cz(x y:Str)(cm:List (Str×AV)):Prop:=cm=[]∨∃u v:AV,cm=[(x,u),(y,v)]
theorem I9{row plan ys:List AV}{it:Cell}{j d:Nat}{cm:List (Str×AV)}(h:Cz "at" "sign" cm):Go (cb (KK p) (RN p (m+20)) (rE p) (.tup [.int j,.str ⟨#[d]⟩]) (gQ (fD p))) (iQ vs row k mk nm plan a c' l it (j+1) ys cm) PUnit.unit (iQ vs row k mk nm plan a c' l it (j+1) ys [("at",.int j),("sign",.str ⟨#[d]⟩)]):=by
 rcases h with rfl | ⟨u,v,rfl⟩ <;> exact Go.by [] trivial (λ_=>by kernel_rfl)
theorem Ja{row plan ys:List AV}{it:Cell}{j d:Nat}(hj:j<=3):Go ((RN p (m+20)).tst (rE p) (uK (fD p))) (iQ vs row k mk nm plan a c' l it (j+1) ys [("at",.int j),("sign",.str ⟨#[d]⟩)]) ((mk.fdiv (Int.ofNat (2 ^ j))).fmod 2 == 1)
  (iQ vs row k mk nm plan a c' l it (j+1) ys [("at",.int j),("sign",.str ⟨#[d]⟩)]):=by
 have h1:oK 2 (Int.ofNat j)/\Int.ofNat (2 ^ j)≠0/\divisionGoesByPylong mk (Int.ofNat (2 ^ j))=false:=by
  rcases(by omega:j=0∨j=1∨j=2∨j=3) with rfl | rfl | rfl | rfl <;> exact⟨⟨by decide,by decide,by decide⟩,by decide,PyProof.noPylong_small (by decide)⟩
 exact Go.by [] (aa h1.1 <| aa h1.2 <| aa (show(2:Int)≠0 by decide) trivial) (λ_=>by kernel_rfl)
theorem t5{row plan:List AV}:∀(rest done:List Nat) (hcs:[97,98,99,100]=done++rest) (ds:List Nat) (hd:ds.length+rest.length<=4) (cm:List (Str×AV)) (hc:Cz "at" "sign" cm) (M:Nat) (hM:21+rest.length<=M),
  ∃ds' j cm',ds'.length<=4/\Go ((RN p M).comp (rE p) (i7 (fD p)) (gQ (fD p)) (some (uK (fD p))) (.ref 16) (.ref 17)) (iQ vs row k mk nm plan a c' l (.sit "abcd" done.length) done.length (bW ds) cm) .next (iQ vs row k mk nm plan a c' l .any j (bW ds') cm')
 | [],done,hcs,ds,hd,cm,hc,M,hM=>by
  obtain⟨m,rfl⟩:∃m,M=m+20+1:=⟨M - 21,by omega⟩
  rw[List.append_nil] at hcs
  subst hcs
  exact⟨ds,4,cm,hd,qR (I5 (j:=15) (x:="abcd") (k:=4) (by kernel_rfl) (by kernel_rfl) (by kernel_rfl) (by decide) (by kernel_rfl))⟩
 | d::rest,done,hcs,ds,hd,cm,hc,M,hM=>by
  obtain⟨m,rfl⟩:∃m,M=m+20+1:=⟨M - 21,by omega⟩
  have hl:done.length+(rest.length+1)=4:=by have:=congrArg List.length hcs; rw[List.length_append] at this; exact this.symm
  have hx:(("abcd" : Str).cps[done.length]?).map (λc=>AV.str ⟨#[c]⟩)=some (.str ⟨#[d]⟩):=by
   show(([97,98,99,100]:List Nat).toArray[done.length]?).map _=_
   rw[hcs]
   simp
  have e1:(done++[d]).length=done.length+1:=by rw[List.length_append]; rfl
  have hcs':[97,98,99,100]=(done++[d])++rest:=by rw[hcs]; simp
  have g1:Go (b0 (gQ (fD p)) (.ref 16)) (iQ vs row k mk nm plan a c' l (.sit "abcd" done.length) done.length (bW ds) cm) (some (.tup [.int done.length,.str ⟨#[d]⟩])) (iQ vs row k mk nm plan a c' l (.sit "abcd" (done.length+1)) (done.length+1) (bW ds) cm) :=
   K1 (j:=15) (x:="abcd") (by kernel_rfl) (by kernel_rfl) (by kernel_rfl) hx (by kernel_rfl)
  have g2:=I9 (p:=p) (vs:=vs) (k:=k) (a:=a) (c':=c') (l:=l) (mk:=mk) (nm:=nm) (row:=row) (plan:=plan) (ys:=bW ds) (it:=.sit "abcd" (done.length+1)) (j:=done.length) (d:=d) (m:=m) hc
  have g3:=Ja (p:=p) (vs:=vs) (k:=k) (a:=a) (c':=c') (l:=l) (mk:=mk) (nm:=nm) (row:=row) (plan:=plan) (ys:=bW ds) (it:=.sit "abcd" (done.length+1)) (j:=done.length) (d:=d) (m:=m) (by omega)
  rw[List.length_cons] at hd hM
  cases hb:((mk.fdiv (Int.ofNat (2 ^ done.length))).fmod 2 == 1) with
  | true =>
   rw[hb] at g3
   obtain⟨ds',j,cm',hd',g⟩:=t5 rest (done++[d]) hcs' (ds++[d]) (by rw[List.length_append,List.length_singleton]; omega) _ (.inr ⟨_,_,rfl⟩) (m+20) (by omega)
   rw[e1] at g
   refine⟨ds',j,cm',hd',I6 g1 g2 g3 (w:=.val .none) (a7:=iQ vs row k mk nm plan a c' l (.sit "abcd" (done.length+1)) (done.length+1) (bW (ds++[d])) [("at",.int done.length),("sign",.str ⟨#[d]⟩)]) ?_ g⟩
   rw[show bW (ds++[d])=bW ds++[.str ⟨#[d]⟩] from List.map_append ..]
   exact Go.by [] (aa (show(bW ds).length<=M6 from lM (by rw[qw]; omega)) trivial) (λ_=>by kernel_rfl)
  | false =>
   rw[hb] at g3
   obtain⟨ds',j,cm',hd',g⟩:=t5 rest (done++[d]) hcs' ds (by omega) _ (.inr ⟨_,_,rfl⟩) (m+20) (by omega)
   rw[e1] at g
   exact⟨ds',j,cm',hd',K3 g1 g2 g3 g⟩
end
section
variable(vs:List Value)(row:List AV)(k mk:Int)(nm:List (Str×AV))(plan:List AV)(a b l:Int)(j:Nat)(ds:List Nat)
noncomputable abbrev eh:St:=⟨19,(17,.list (bW ds))::(16,.enum 15 j)::(15,.any)::(dX vs row k nm (some (.int mk)) plan a b l).objs⟩
noncomputable abbrev wD(goes:List AV):St:=⟨20,(19,.list goes)::(eh vs row k mk nm plan a b l j ds).objs⟩
noncomputable abbrev rN(goes:List AV)(ga gl:Int):St:=⟨22,(21,.rit ga gl 1)::(20,.rng 0 5 1)::(wD vs row k mk nm plan a b l j ds goes).objs⟩
end
noncomputable def x1(s:AV):List (Str×AV):=[("signs",s)]
noncomputable def x2(s:AV)(d:Str):List (Str×AV):=[("signs",s),("deed",.str d)]
noncomputable def x3(s:AV)(d:Str)(a k t:Bool)(r:List (Str×AV)):List (Str×AV):=("signs",s)::("deed",.str d)::("twice",.bool t)::("keeps",.bool k)::("asks",.bool a)::r
noncomputable abbrev gF(p:Params):Stmt:=PS p 6
noncomputable abbrev nC:Int:=4611686018427387904
noncomputable abbrev Rg(b:Int):Prop:=(1:Int)=1/\-nC<=0/\0<nC/\-nC<=b/\b<nC
theorem rg{b:Int}(h0:0<=b)(h1:b<=100):Rg b:=⟨rfl,by decide,by decide,by unfold nC; omega,by unfold nC; omega⟩
noncomputable abbrev lf(b:Int):Int:=if 0<b then b - 0 else 0
theorem CA{b:Int}(h:0<=b):lf b=b:=by
 unfold lf
 split <;> omega
section
variable{p:Params}{vs:List Value}{ns:List Int}{k b a e' c' l y mk ga gl:Int}{m N c j:Nat}{nm ex:List (Str×AV)}{plan:List Row}{o:Option AV}{r:Row}{ds goes:List Nat}{s:AV}{d:Str}{ak ke tw:Bool}
theorem qz(hN:16<=N)(hn:aO N nm):UC N (eh vs (ns.map AV.int) k mk nm (a4 plan) e' c' l j ds).objs:=aY (dJ (Bd _)) (aY (show 15<N by omega) (aY trivial (t4 (by omega) hn wC)))
theorem z6(hN:16<=N)(hn:aO N nm):UC N (rN vs (ns.map AV.int) k mk nm (a4 plan) e' c' l j ds (goes.map λ(i:Nat)=>.int i) ga gl).objs:=aY trivial (aY trivial (aY (dJ (qx _)) (qz hN hn)))
theorem Jb:aw p (m+60) (b7 p) (PS p 1)=EM.bind (lj (KK p) (RN p (m+59)) (b7 p) (k7 (eB (cU (PS p 1)))) "join" [fD p] []) λv=>EM.bind (cb (KK p) (RN p (m+60)) (b7 p) v (gU (PS p 1))) λ_=>EM.ret .next:=by kernel_rfl
theorem K4:(RN p (m+59)).ev (b7 p) (fD p)=EM.bind (jc (RN p (m+58)) (b7 p) (i7 (fD p)) (gQ (fD p)) (mO (fD p)) (some (uK (fD p))) (fQ (fD p))) λq=>EM.bind (iw q.2) λ_=>EM.ret q.1:=by kernel_rfl
theorem K5:(⟨fR (fQ (fD p)) (b7 p),18,[("mask",11)],.none,(b7 p).frm,[]⟩:aB)=rE p:=by kernel_rfl
theorem K6:∃ds j,ds.length<=4/\Go (aw p (m+90) (b7 p) (PS p 1)) (dX vs (ns.map AV.int) k (cx c a []) (some (.int mk)) (a4 plan) e' c' l) .next (eh vs (ns.map AV.int) k mk (cx c a (x1 (.str (tS ds)))) (a4 plan) e' c' l j ds):=by
 obtain⟨ds,j,cm,hd,g⟩:=t5 (p:=p) (vs:=vs) (row:=ns.map AV.int) (plan:=a4 plan) (k:=k) (mk:=mk) (nm:=cx c a []) (a:=e') (c':=c') (l:=l) [97,98,99,100] [] rfl [] (by decide) [] (.inl rfl) (m+88) (by show 21+4<=_; omega)
 refine⟨ds,j,hd,?_⟩
 refine Go.eq (Jb (m:=m+30)) (Go.bind (b:=.str (tS ds)) (aj:=eh vs (ns.map AV.int) k mk (cx c a []) (a4 plan) e' c' l j ds) ?_ (Go.by [] trivial (λ_=>by kernel_rfl)))
 refine Go.wc (cH:=dX vs (ns.map AV.int) k (cx c a []) (some (.int mk)) (a4 plan) e' c' l) (eH:=dX vs (ns.map AV.int) k (cx c a []) (some (.int mk)) (a4 plan) e' c' l) (fm:=eh vs (ns.map AV.int) k mk (cx c a []) (a4 plan) e' c' l j ds) (ov:=.str "") (f:=.val (.builtin "str.join")) (first:=[.str ""]) (as:=[.ref 17])
  (Go.by [] trivial (λ_=>by kernel_rfl)) (Go.by [] trivial (λ_=>by kernel_rfl)) (by kernel_rfl) (Go.ni (by kernel_rfl) (vF (K4 (m:=m+30)) (qk (A:=17) (L:=18) (cl:=[("mask",11)]) (it:=.ref 16) (au:=⟨17,(16,.enum 15 0)::(15,.sit "abcd" 0)::(dX vs (ns.map AV.int) k (cx c a []) (some (.int mk)) (a4 plan) e' c' l).objs⟩)
   (aZ:=⟨18,(17,.list [])::(16,.enum 15 0)::(15,.sit "abcd" 0)::(dX vs (ns.map AV.int) k (cx c a []) (some (.int mk)) (a4 plan) e' c' l).objs⟩) (a7:=iQ vs (ns.map AV.int) k mk (cx c a []) (a4 plan) e' c' l (.sit "abcd" 0) 0 [] [])
   (cW:=iQ vs (ns.map AV.int) k mk (cx c a []) (a4 plan) e' c' l .any j (bW ds) cm) (by kernel_rfl) (by kernel_rfl) (Go.by [] trivial (λ_=>by kernel_rfl)) (Go.by [] (aa (show 0<=M6 by decide) trivial) (λ_=>by kernel_rfl)) (Go.by [] trivial (λ_=>by kernel_rfl)) (Go.by [] trivial (λ_=>by kernel_rfl)) ?_) (Go.by [] trivial (λ_=>by kernel_rfl)))) ?_
 ·rw[K5]
  exact g
 ·have h:=y7 ds (by omega)
  have e:Txt.join (Str.ofString "") (fN (bW ds))=tS ds:=by rw[sI,join_one]
  rw[<- e]
  exact Go.by [] (aa (show(bW ds).length<=M6 from lM (by rw[qw]; omega)) <| aa h trivial) (λ_=>by kernel_rfl)
noncomputable abbrev dU(N:Nat)(ns:List Int)(k y s:Int)(l:List (Nat×Cell)):Prop:=UV N (.int (dv (ns.map AV.int) k y s)) l
theorem K7(h:cI ns k b)(hd:ds.length<=4):∃q:ez,q.ds=ds/\Go (aw p (m+60) (b7 p) (PS p 2)) (eh vs (ns.map AV.int) k mk (cx c a (x1 (.str (tS ds)))) (a4 plan) e' c' l j ds) .next (eh vs (ns.map AV.int) (k+1) mk (cx c a (x1 q.av)) (a4 plan) e' c' l j ds):=by
 obtain⟨y,hD,v0,v1⟩:=iy (p:=p) h (s:=2) (by decide)
 have u:dU 19 ns k y 2 (eh vs (ns.map AV.int) (k+1) mk (cx c a (x1 (.str (tS ds)))) (a4 plan) e' c' l j ds).objs:=⟨.int _,qz (by decide) (m3 (by decide) (.cons (.str _) .nil))⟩
 cases hb:(dv (ns.map AV.int) k y 2 == 1) with
 | true =>
  refine⟨⟨true,ds⟩,rfl,?_⟩
  exact Go.by (dW (ns.map AV.int) k y++[.b true]) (hD 19 _ _ u (aa hb <| aa (show(tS ds).length<=M6 from lM (xs:=ds) (by omega)) trivial)) (λ_=>by kernel_rfl)
 | false=>exact⟨⟨false,ds⟩,rfl,Go.by (dW (ns.map AV.int) k y++[.b false]) (hD 19 _ _ u (aa hb trivial)) (λ_=>by kernel_rfl)⟩
noncomputable abbrev K8:List AV:=[.str "emit",.str "ignore",.str "leave"]
theorem H4{v:Int}(h0:0<=v)(h1:v<3):∃d:jl,0<=v/\v<1000000/\K8[v.toNat]? = some (.str d.s):=by
 rcases(by omega:v=0∨v=1∨v=2) with rfl | rfl | rfl
 ·exact⟨.emit,by decide,by decide,rfl⟩
 ·exact⟨.ignore,by decide,by decide,rfl⟩
 ·exact⟨.leave,by decide,by decide,rfl⟩
theorem Jc(h:cI ns k b)(hs:∀N,aL N s):∃d:jl,Go (aw p (m+60) (b7 p) (PS p 3)) (eh vs (ns.map AV.int) k mk (cx c a (x1 s)) (a4 plan) e' c' l j ds) .next (eh vs (ns.map AV.int) (k+1) mk (cx c a (x2 s d.s)) (a4 plan) e' c' l j ds):=by
 obtain⟨y,hD,v0,v1⟩:=iy (p:=p) h (s:=3) (by decide)
 obtain⟨d,hd⟩:=H4 v0 v1
 have u:dU 19 ns k y 3 (eh vs (ns.map AV.int) (k+1) mk (cx c a (x1 s)) (a4 plan) e' c' l j ds).objs:=⟨.int _,qz (by decide) (m3 (by decide) (.cons (hs _) .nil))⟩
 exact⟨d,Go.by ([.norm]++dW (ns.map AV.int) k y++[.cut [] (.str d.s)]) (aa (show 3<=M6 by decide) (hD 19 _ _ u (aa hd trivial))) (λ_=>by kernel_rfl)⟩
theorem Jd:jt p (b7 p) (PS p 4) (some ["asks","keeps","twice"]):=λenv he=>⟨rfl,by
 obtain⟨sc,loc⟩:=env
 cases he
 kernel_rfl⟩
theorem K9(h:cI ns k b)(hb:b+3<=120)(hs:∀N,aL N s):∃ak ke tw:Bool,Go (aw p (m+60) (b7 p) (PS p 4)) (eh vs (ns.map AV.int) k mk (cx c a (x2 s d)) (a4 plan) e' c' l j ds) .next (eh vs (ns.map AV.int) (k+1+1+1) mk (cx c a (x3 s d ak ke tw [])) (a4 plan) e' c' l j ds):=by
 have t1:=h.step (b':=b+1) (by omega) (by omega)
 have t2:=t1.step (b':=b+2) (by omega) (by omega)
 obtain⟨y,hD,v0,v1⟩:=iy (p:=p) h (s:=4) (by decide)
 obtain⟨y',hD',w0,w1⟩:=iy (p:=p) t1 (s:=2) (by decide)
 obtain⟨y'',hD'',z0,z1⟩:=iy (p:=p) t2 (s:=3) (by decide)
 have u:∀k,UC 19 (eh vs (ns.map AV.int) k mk (cx c a (x2 s d)) (a4 plan) e' c' l j ds).objs:=λk=>qz (by decide) (m3 (by decide) (.cons (hs _) (.cons (.str _) .nil)))
 refine⟨dv (ns.map AV.int) k y 4 == 3,dv (ns.map AV.int) (k+1) y' 2 == 1,dv (ns.map AV.int) (k+1+1) y'' 3 == 1,?_⟩
 exact Go.by ([.b true]++dW (ns.map AV.int) k y++dW (ns.map AV.int) (k+1) y'++dW (ns.map AV.int) (k+1+1) y'') (aa (Jd (p:=p)) (hD 19 _ _ (show dU 19 ns k y 4 (eh vs (ns.map AV.int) (k+1) mk (cx c a (x2 s d)) (a4 plan) e' c' l j ds).objs from⟨.int _,u _⟩) (hD' 19 _ _ (show dU 19 ns (k+1) y' 2 (eh vs (ns.map AV.int) (k+1+1) mk (cx c a (x2 s d)) (a4 plan) e' c' l j ds).objs from⟨.int _,u _⟩)
  (hD'' 19 _ _ (show dU 19 ns (k+1+1) y'' 3 (eh vs (ns.map AV.int) (k+1+1+1) mk (cx c a (x2 s d)) (a4 plan) e' c' l j ds).objs from⟨.int _,u _⟩) (aa (show 3<=M6 by decide) trivial))))) (λ_=>by kernel_rfl)
end
noncomputable def x4(s:AV)(d:Str)(a k t:Bool):List (Str×AV):=x3 s d a k t [("goes",.ref 19)]
noncomputable abbrev fh(l:List Nat):List AV:=l.map λ(i:Nat)=>.int i
theorem aO.x4{N:Nat}{s:AV}{d:Str}{a k t:Bool}(h:20<=N)(hs:∀N,aL N s){r:List (Str×AV)}(hr:aO N r):aO N (x3 s d a k t (("goes",.ref 19)::r)):=.cons (hs _) (.cons (.str _) (.cons (.bool _) (.cons (.bool _) (.cons (.bool _) (.cons (.ref (by omega)) hr)))))
noncomputable abbrev q5(vs:List Value)(ns:List Int)(k mk:Int)(nm:List (Str×AV))(plan:List Row)(a b l:Int)(j:Nat)(ds goes:List Nat)(ga gl:Int):St:=rN vs (ns.map AV.int) k mk nm (a4 plan) a b l j ds (fh goes) ga gl
section
variable{p:Params}{vs:List Value}{ns:List Int}{k b e' c' l y mk ga gl:Int}{m N a c j:Nat}{nm ex:List (Str×AV)}{plan:List Row}{o:Option AV}{r:Row}{ds goes:List Nat}{s:AV}{d:Str}{ak ke tw:Bool}
theorem y8{l l':List Nat}:fh (l++l')=fh l++fh l':=List.map_append ..
theorem Je:Go (aw p (m+60) (b7 p) (PS p 5)) (eh vs (ns.map AV.int) k mk (cx c a (x3 s d ak ke tw [])) (a4 plan) e' c' l j ds) .next (wD vs (ns.map AV.int) k mk (cx c a (x4 s d ak ke tw)) (a4 plan) e' c' l j ds []):=Go.by [.keep] (aa (show 0<=M6 by decide) trivial) (λ_=>by kernel_rfl)
theorem La:aw p (m+60) (b7 p) (gF p)=EM.bind ((RN p (m+60)).ev (b7 p) (eo (gF p))) λv=>EM.bind (dZ v) λit=>(RN p (m+60)).cp (b7 p) (cJ (gF p)) it (df (gF p)):=by kernel_rfl
theorem MP:Go (EM.bind ((RN p (m+60)).ev (b7 p) (eo (gF p))) λv=>dZ v) (wD vs (ns.map AV.int) k mk nm (a4 plan) e' c' l j ds []) (.ref 21) (q5 vs ns k mk nm plan e' c' l j ds [] 0 (5:Nat)):=Go.by [] (aa (rg (b:=5) (by decide) (by decide)) trivial) (λ_=>by kernel_rfl)
noncomputable abbrev ia(c a:Nat)(s:AV)(d:Str)(ak ke tw:Bool)(r:List (Str×AV)):List (Str×AV):=cx c a (x3 s d ak ke tw (("goes",.ref 19)::r))
theorem MQ(h:cI ns k b)(hs:∀N,aL N s)(hl:goes.length<=900)(hc:1<=c)(ha:a<c):∃v:Nat,v<=c/\∃w:Int,Go ((RN p (m+60)).aV (b7 p) (df (gF p))) (q5 vs ns k mk (ia c a s d ak ke tw [("sign",.int y)]) plan e' c' l j ds goes ga gl) .next
  (q5 vs ns (k+1) mk (ia c a s d ak ke tw [("sign",.int y),("goal",.int w)]) plan e' c' l j ds (goes++[v]) ga gl):=by
 obtain⟨z,hD,v0,v1⟩:=iy (p:=p) h (s:=(c:Int)+2) (by omega)
 have u:dU 22 ns k z ((c:Int)+2) (q5 vs ns (k+1) mk (ia c a s d ak ke tw [("sign",.int y)]) plan e' c' l j ds goes ga gl).objs:=⟨.int _,z6 (by decide) (m3 (by decide) (.x4 (by decide) hs (.cons (.int _) .nil)))⟩
 have lg:(fh goes).length<=M6:=lM (by rw[List.length_map]; exact hl)
 generalize hw:dv (ns.map AV.int) k z ((c:Int)+2)=w at v0 v1
 obtain⟨v,rfl⟩:=Int.eq_ofNat_of_zero_le v0
 cases hb:decide ((v:Int)<=(c:Int)) with
 | true =>
  have hle:=of_decide_eq_true hb
  refine⟨v,by omega,v,?_⟩
  show Go _ _ _ (rN vs (ns.map AV.int) (k+1) mk _ (a4 plan) e' c' l j ds (fh (goes++[v])) ga gl)
  rw[y8,show fh [v]=[.int v] from rfl,<- hw]
  rw[<- hw] at hb
  exact Go.by (dW (ns.map AV.int) k z++[.b true]) (hD 22 _ _ u (aa hb <| aa lg trivial)) (λ_=>by kernel_rfl)
 | false =>
  have e:((a:Int)+1).fmod (c:Int)=(((a+1) % c:Nat):Int):=Int.fmod_eq_emod_of_nonneg _ (by omega)
  refine⟨(a+1) % c,Nat.le_of_lt (Nat.mod_lt _ hc),v,?_⟩
  show Go _ _ _ (rN vs (ns.map AV.int) (k+1) mk _ (a4 plan) e' c' l j ds (fh (goes++[(a+1) % c])) ga gl)
  rw[y8,show fh [(a+1) % c]=[.int (((a+1) % c:Nat):Int)] from rfl,<- e,<- hw]
  rw[<- hw] at hb
  exact Go.by (dW (ns.map AV.int) k z++[.b false]) (hD 22 _ _ u (aa hb <| aa (show(c:Int)≠0 by omega) <| aa lg trivial)) (λ_=>by kernel_rfl)
theorem Bf(hs:∀N,aL N s)(hc:1<=c)(ha:a<c):∀(t:Nat) (goes:List Nat) (hg:∀i∈goes,i<=c) (hl:goes.length+t=5) (k b:Int) (h:cI ns k b) (hb:b+t<=120) (ga:Nat) (M:Nat) (hM:61+t<=M),
  ∃goes' k',goes'.length=5/\(∀i∈goes',i<=c)/\cI ns k' (b+t)/\∃ga':Int,Go ((RN p M).cp (b7 p) (cJ (gF p)) (.ref 21) (df (gF p))) (q5 vs ns k mk (ia c a s d ak ke tw []) plan e' c' l j ds goes ga t) .next (q5 vs ns k' mk (ia c a s d ak ke tw []) plan e' c' l j ds goes' ga' 0)
 | 0,goes,hg,hl,k,b,h,hb,ga,M,hM=>by
  obtain⟨m,rfl⟩:∃m,M=m+60+1:=⟨M - 61,by omega⟩
  exact⟨goes,k,hl,hg,by simpa using h,ga,n4 (Go.by [.b false] (aa (Int.le_refl 0) trivial) (λ_=>by kernel_rfl))⟩
 | t+1,goes,hg,hl,k,b,h,hb,ga,M,hM=>by
  obtain⟨m,rfl⟩:∃m,M=m+60+1:=⟨M - 61,by omega⟩
  obtain⟨v,hv,w,g3⟩:=MQ (p:=p) (vs:=vs) (mk:=mk) (plan:=plan) (e':=e') (c':=c') (l:=l) (j:=j) (ds:=ds) (goes:=goes) (ga:=((ga+1:Nat):Int)) (gl:=(t:Int)) (y:=ga) (s:=s) (d:=d) (ak:=ak) (ke:=ke) (tw:=tw) (m:=m) h hs (by omega) hc ha
  obtain⟨goes',k',q1,q2,q3,ga',g⟩:=Bf hs hc ha t (goes++[v]) (λi hi=>(List.mem_append.mp hi).elim (hg i) λh=>by rw[List.mem_singleton.mp h]; exact hv) (by rw[List.length_append,List.length_singleton]; omega) (k+1) (b+1) (h.step (by omega) (by omega)) (by omega) (ga+1) (m+60) (by omega)
  refine⟨goes',k',q1,q2,by rw[show b+((t+1:Nat):Int)=b+1+t by omega]; exact q3,ga',?_⟩
  have g1:Go (b0 (cJ (gF p)) (.ref 21)) (q5 vs ns k mk (ia c a s d ak ke tw []) plan e' c' l j ds goes ga (t+1:Nat)) (some (.int ga)) (q5 vs ns k mk (ia c a s d ak ke tw []) plan e' c' l j ds goes ((ga+1:Nat):Int) t):=by
   rw[<- show((t+1:Nat):Int) - 1=(t:Int) by omega]
   exact Go.by [.cut [] (.int ga)] (aa (show(0:Int)<((t+1:Nat):Int) by omega) trivial) (λ_=>by kernel_rfl)
  exact lB g1 (aZ:=q5 vs ns k mk (ia c a s d ak ke tw [("sign",.int ga)]) plan e' c' l j ds goes ((ga+1:Nat):Int) t) (Go.by [] trivial (λ_=>by kernel_rfl)) g3 (cW:=q5 vs ns (k+1) mk (ia c a s d ak ke tw []) plan e' c' l j ds (goes++[v]) ((ga+1:Nat):Int) t)
   (Go.drop (N:=22) 10 ["sign","goal"] (z6 (by decide) (m3 (by decide) (.x4 (by decide) hs .nil))) (λ_=>by kernel_rfl)) g
theorem Lb(q:ez)(dd:jl)(hl:plan.length<=900)(hg:goes.length=5):∃r:Row,r.asks=ak/\r.sg=q/\r.goes=goes/\(ak=true->r.dd≠.emit) /\
  Go (aw p (m+60) (b7 p) (PS p 7)) (q5 vs ns k mk (ia c a q.av dd.s ak ke tw []) plan e' c' l j ds goes ga gl) .next ⟨22,(21,.rit ga gl 1)::(20,.rng 0 5 1)::(eh vs (ns.map AV.int) k mk (ia c a q.av dd.s ak ke tw []) (a4 (plan++[r])) e' c' l j ds).objs⟩:=by
 have lp:(a4 plan).length<=M6:=lM (by rw[List.length_map]; exact hl)
 have e:∀r:Row,a4 (plan++[r])=a4 plan++[r.av]:=λr=>List.map_append ..
 obtain⟨b,qd⟩:=q
 cases ak with
 | false =>
  refine⟨⟨⟨b,qd⟩,dd,false,ke,tw,goes⟩,rfl,rfl,rfl,(λh=>nomatch h),?_⟩
  rw[e]
  cases b <;> exact Go.by [.b false,.b false,.sel [19]] (aa rf <| aa rf <| aa (show 6<=M6 by decide) <| aa lp trivial) (λ_=>by kernel_rfl)
 | true =>
  cases dd with
  | emit =>
   refine⟨⟨⟨b,qd⟩,.leave,true,ke,tw,goes⟩,rfl,rfl,rfl,(λ_=>nofun),?_⟩
   rw[e]
   cases b <;> exact Go.by [.b true,.b true,.b true,.sel [19]] (aa rt <| aa rt <| aa rt <| aa (show 6<=M6 by decide) <| aa lp trivial) (λ_=>by kernel_rfl)
  | ignore =>
   refine⟨⟨⟨b,qd⟩,.ignore,true,ke,tw,goes⟩,rfl,rfl,rfl,(λ_=>nofun),?_⟩
   rw[e]
   cases b <;> exact Go.by [.b true,.b false,.b false,.sel [19]] (aa rt <| aa rf <| aa rf <| aa (show 6<=M6 by decide) <| aa lp trivial) (λ_=>by kernel_rfl)
  | leave =>
   refine⟨⟨⟨b,qd⟩,.leave,true,ke,tw,goes⟩,rfl,rfl,rfl,(λ_=>nofun),?_⟩
   rw[e]
   cases b <;> exact Go.by [.b true,.b false,.b false,.sel [19]] (aa rt <| aa rf <| aa rf <| aa (show 6<=M6 by decide) <| aa lp trivial) (λ_=>by kernel_rfl)
end
noncomputable abbrev l2(vs:List Value)(row:List AV)(k:Int)(nm:List (Str×AV))(rows:List AV):St:=⟨15,(12,.list rows)::iM vs row k nm⟩
section
variable{p:Params}{vs:List Value}{ns:List Int}{k b e' c' l y mk ga gl:Int}{m N a c j:Nat}{nm ex:List (Str×AV)}{plan:List Row}{o:Option AV}{r:Row}{ds goes:List Nat}{s:AV}{d:Str}{ak ke tw:Bool}
theorem Jf:bp (aw p (m+100) (b7 p)) (df (gH p))=bp (aw p (m+100) (b7 p)) [PS p 0,PS p 1,PS p 2,PS p 3,PS p 4,PS p 5,PS p 6,PS p 7]:=by kernel_rfl
theorem Jg(h:cI ns k b)(hb:b+11<=120)(ho:pf o)(hc:1<=c)(ha:a<c)(hl:plan.length<=900):∃(mk:Int) (k':Int) (r:Row) (s:AV) (d:Str) (ak ke tw:Bool) (ga:Int) (j:Nat) (ds:List Nat),jg c r/\(∀N,aL N s)/\cI ns k' (b+11) /\
  Go ((RN p (m+101)).aV (b7 p) (df (gH p))) (dX vs (ns.map AV.int) k (cx c a []) o (a4 plan) e' c' l) .next ⟨22,(21,.rit ga 0 1)::(20,.rng 0 5 1)::(eh vs (ns.map AV.int) k' mk (ia c a s d ak ke tw []) (a4 (plan++[r])) e' c' l j ds).objs⟩:=by
 obtain⟨mk,_,_,g0⟩:=I8 (p:=p) (vs:=vs) (plan:=plan) (c:=c) (a:=a) (e':=e') (c':=c') (l:=l) (m:=m+70) h ho
 have t1:=h.step (b':=b+1) (by omega) (by omega)
 obtain⟨ds,j,hd,g1⟩:=K6 (p:=p) (vs:=vs) (ns:=ns) (k:=k+1) (mk:=mk) (plan:=plan) (c:=c) (a:=a) (e':=e') (c':=c') (l:=l) (m:=m+10)
 obtain⟨q,hq,g2⟩:=K7 (p:=p) (vs:=vs) (mk:=mk) (plan:=plan) (c:=c) (a:=a) (e':=e') (c':=c') (l:=l) (j:=j) (m:=m+40) t1 hd
 have t2:=t1.step (b':=b+2) (by omega) (by omega)
 obtain⟨dd,g3⟩:=Jc (p:=p) (vs:=vs) (mk:=mk) (plan:=plan) (c:=c) (a:=a) (e':=e') (c':=c') (l:=l) (j:=j) (ds:=ds) (m:=m+40) t2 q.bZ
 have t3:=t2.step (b':=b+3) (by omega) (by omega)
 obtain⟨ak,ke,tw,g4⟩:=K9 (p:=p) (vs:=vs) (mk:=mk) (plan:=plan) (c:=c) (a:=a) (e':=e') (c':=c') (l:=l) (j:=j) (ds:=ds) (d:=dd.s) (m:=m+40) t3 (by omega) q.bZ
 have t6:=((t3.step (b':=b+4) (by omega) (by omega)).step (b':=b+5) (by omega) (by omega)).step (b':=b+6) (by omega) (by omega)
 obtain⟨goes,k',e5,hg,t7,ga,g6⟩:=Bf (p:=p) (vs:=vs) (mk:=mk) (plan:=plan) (c':=c') (l:=l) (j:=j) (ds:=ds) (s:=q.av) (d:=dd.s) (ak:=ak) (ke:=ke) (tw:=tw) q.bZ hc ha 5 [] (λ_ h=>nomatch h) rfl _ _ t6 (by omega) 0 (m+100) (by omega)
 obtain⟨r,r1,r2,r3,r4,g7⟩:=Lb (p:=p) (vs:=vs) (ns:=ns) (k:=k') (mk:=mk) (plan:=plan) (c:=c) (a:=a) (e':=e') (c':=c') (l:=l) (j:=j) (ds:=ds) (ak:=ak) (ke:=ke) (tw:=tw) (ga:=ga) (gl:=0) (m:=m+40) q dd hl e5
 refine⟨mk,k',r,q.av,dd.s,ak,ke,tw,ga,j,ds,⟨r3▸e5,r3▸hg,λh=>r4 (r1▸h),by rw[r2,hq]; exact hd⟩,q.bZ,(show b+6+((5:Nat):Int)=b+11 by omega)▸t7,?_⟩
 exact Go.aV (Go.eq Jf (Go.cons g0 (Go.cons g1 (Go.cons g2 (Go.cons g3 (Go.cons g4 (Go.cons (Je (m:=m+40)) (Go.cons (Go.pe (La (m:=m+40)) (MP (m:=m+40)) g6) (Go.stmt g7)))))))))
theorem Bg(hc:1<=c):∀(t:Nat) (plan:List Row) (hp:oC c plan) (hl:plan.length+t=c) (hc9:c<=3) (o:Option AV) (ho:pf o) (k b:Int) (h:cI ns k b) (hb:b+11 * t<=120) (M:Nat) (hM:102+t<=M),
  ∃plan' k' o',oC c plan'/\plan'.length=c/\cI ns k' (b+11 * t)/\∃a':Int,Go ((RN p M).cp (b7 p) (cJ (gH p)) (.ref 14) (df (gH p))) (dX vs (ns.map AV.int) k (iP c) o (a4 plan) plan.length c' t) .next (dX vs (ns.map AV.int) k' (iP c) o' (a4 plan') a' c' 0)
 | 0,plan,hp,hl,hc9,o,ho,k,b,h,hb,M,hM=>by
  obtain⟨m,rfl⟩:∃m,M=m+60+1:=⟨M - 61,by omega⟩
  exact⟨plan,k,o,hp,hl,by simpa using h,plan.length,n4 (Go.by [.b false] (aa (Int.le_refl 0) trivial) (λ_=>by kernel_rfl))⟩
 | t+1,plan,hp,hl,hc9,o,ho,k,b,h,hb,M,hM=>by
  obtain⟨m,rfl⟩:∃m,M=m+101+1:=⟨M - 102,by omega⟩
  obtain⟨mk,k1,r,s,d,ak,ke,tw,ga,j,ds,hr,hs,t1,g3⟩:=Jg (p:=p) (vs:=vs) (c':=c') (l:=(t:Int)) (a:=plan.length) (e':=((plan.length+1:Nat):Int)) (m:=m) h (by omega) ho hc (by omega) (plan:=plan) (by omega)
  obtain⟨plan',k',o',q1,q2,q3,a',g⟩:=Bg hc t (plan++[r]) (λx hx=>(List.mem_append.mp hx).elim (hp x) λh=>by rw[List.mem_singleton.mp h]; exact hr) (by rw[List.length_append,List.length_singleton]; omega) hc9 (some (.int mk)) wC k1 (b+11) t1 (by omega) (m+101) (by omega)
  refine⟨plan',k',o',q1,q2,by rw[show b+11 * ((t+1:Nat):Int)=b+11+11 * t by omega]; exact q3,a',?_⟩
  rw[List.length_append,List.length_singleton] at g
  generalize hpl:a4 (plan++[r])=pr at g3 g
  have g1:Go (b0 (cJ (gH p)) (.ref 14)) (dX vs (ns.map AV.int) k (iP c) o (a4 plan) plan.length c' (t+1:Nat)) (some (.int plan.length)) (dX vs (ns.map AV.int) k (iP c) o (a4 plan) ((plan.length+1:Nat):Int) c' t):=by
   rw[<- show((t+1:Nat):Int) - 1=(t:Int) by omega]
   exact Go.by [.cut [] (.int plan.length)] (aa (show(0:Int)<((t+1:Nat):Int) by omega) trivial) (λ_=>by kernel_rfl)
  refine lB g1 (aZ:=dX vs (ns.map AV.int) k (cx c plan.length []) o (a4 plan) ((plan.length+1:Nat):Int) c' t) (Go.by [] trivial (λ_=>by kernel_rfl)) g3 (cW:=dX vs (ns.map AV.int) k1 (iP c) (some (.int mk)) pr ((plan.length+1:Nat):Int) c' t)
   (Go.drop (N:=15) 10 ["number","signs","deed","asks","keeps","twice","goes"] (by rw[<- hpl]; exact t4 (by decide) (I7 (by decide)) wC) (λ_=>by kernel_rfl)) g
end
noncomputable def k8:List (Str×AV):=[("script",.ref 0),("pen",.ref 9),("plan",.ref 12)]
section
variable{p:Params}{vs:List Value}{ns:List Int}{k b l y:Int}{m N a c j:Nat}{nm ex:List (Str×AV)}{plan:List Row}
theorem Jh:bp (aw p (m+110) (b7 p)) (bF p 247).body=bp (aw p (m+110) (b7 p)) [bD (wA p) 0,gH p,bD (wA p) 2]:=by kernel_rfl
theorem Ji:aw p (m+110) (b7 p) (gH p)=EM.bind ((RN p (m+110)).ev (b7 p) (eo (gH p))) λv=>EM.bind (dZ v) λit=>(RN p (m+110)).cp (b7 p) (cJ (gH p)) it (df (gH p)):=by kernel_rfl
theorem Jj(h:cI ns k b)(hb:b+11 * c<=120)(hc:1<=c)(hc3:c<=3):∃plan k',oC c plan/\plan.length=c/\cI ns k' (b+11 * c) /\
  Go ((RN p (m+112)).call (.val (.ref 247)) [.ref 9,.int c] []) (l1 vs (ns.map AV.int) k) (.ref 12) (l2 vs (ns.map AV.int) k' nF (a4 plan)):=by
 obtain⟨plan,k',o,h1,h2,h3,a',g⟩:=Bg (p:=p) (vs:=vs) (c':=(c:Int)) hc c [] (λ_ h=>nomatch h) (by rw[List.length_nil]; omega) hc3 none (λ_ h=>nomatch h) k b h hb (m+110) (by omega)
 refine⟨plan,k',h1,h2,h3,?_⟩
 have gi:Go (EM.bind ((RN p (m+110)).ev (b7 p) (eo (gH p))) λv=>dZ v) (wB vs (ns.map AV.int) k (iP c) none []) (.ref 14) (dX vs (ns.map AV.int) k (iP c) none (a4 []) (([]:List Row).length:Int) c c):=by
  have:=Go.by (x:=EM.bind ((RN p (m+110)).ev (b7 p) (eo (gH p))) λv=>dZ v) (J:=wB vs (ns.map AV.int) k (iP c) none []) (b:=.ref 14) (aj:=dX vs (ns.map AV.int) k (iP c) none (a4 []) (([]:List Row).length:Int) c (lf c)) [] (aa (rg (b:=(c:Int)) (by omega) (by omega)) trivial) (λ_=>by kernel_rfl)
  rw[CA (by omega)] at this
  exact this
 refine Go.eq (show(RN p (m+112)).call (.val (.ref 247)) [.ref 9,.int c] []=fY (RN p (m+111)) (bF p 247) [.ref 9,.int c] [] by kernel_rfl)
  (Go.fn (ae:=b7 p) (cH:=⟨12,(11,.box none)::(10,.ns [("pen",.ref 9),("count",.int c)])::iM vs (ns.map AV.int) k nF⟩) (by kernel_rfl) (binds:=[("pen",.ref 9),("count",.int c)]) (by kernel_rfl) (Go.by [] trivial (λ_=>by kernel_rfl)) ?_)
 refine Go.bind (b:=.ret (.ref 12)) (aj:=dX vs (ns.map AV.int) k' (iP c) o (a4 plan) a' c 0) (Go.aV (Go.eq Jh ?_)) (Go.rt (Go.by [.sel [12]] trivial (λ_=>by kernel_rfl)))
 exact Go.cons (Go.by [.keep] (aa (show 0<=M6 by decide) trivial) (λ_=>by kernel_rfl)) (Go.cons (Go.pe Ji gi g) (Go.stmt (Go.by [] trivial (λ_=>by kernel_rfl))))
theorem MR:aw p (m+115) (aT p) (LS p 1)=EM.bind (EM.bind ((RN p (m+114)).ev (aT p) (eB (cU (LS p 1)))) λf=>eX (KK p) (RN p (m+114)) (aT p) f [] (eL (cU (LS p 1))) []) λv=>EM.bind (cb (KK p) (RN p (m+115)) (aT p) v (gU (LS p 1))) λ_=>EM.ret .next:=by kernel_rfl
theorem N1(h:cI ns 0 0):∃plan k',oC plan.length plan/\1<=plan.length/\plan.length<=3/\cI ns k' 34/\Go (aw p (m+115) (aT p) (LS p 1)) (l1 vs (ns.map AV.int) 0) .next (l2 vs (ns.map AV.int) k' k8 (a4 plan)):=by
 obtain⟨y,hD,v0,v1⟩:=iy (p:=p) h (s:=3) (by decide)
 have u:UV 10 (.int (dv (ns.map AV.int) 0 y 3)) (l1 vs (ns.map AV.int) 1).objs:=⟨.int _,tY (Be (by decide))⟩
 have g0:Go (dN (RN p (m+114)) (aT p) (eL (cU (LS p 1)))) (l1 vs (ns.map AV.int) 0) [.ref 9,.int (1+dv (ns.map AV.int) 0 y 3)] (l1 vs (ns.map AV.int) 1):=Go.by (dW (ns.map AV.int) 0 y) (hD 10 _ _ u trivial) (λ_=>by kernel_rfl)
 generalize dv (ns.map AV.int) 0 y 3=v at v0 v1 g0
 obtain⟨c,hc⟩:=Int.eq_ofNat_of_zero_le (show 0<=1+v by omega)
 rw[hc] at g0
 obtain⟨plan,k',h1,h2,h3,g⟩:=Jj (p:=p) (vs:=vs) (c:=c) (m:=m+2) (h.step (b':=1) (by decide) (by decide)) (by omega) (by omega) (by omega)
 refine⟨plan,k',h2▸h1,by omega,by omega,h3.to (by omega) (by decide),Go.eq MR (Go.bind (b:=.ref 12) (aj:=l2 vs (ns.map AV.int) k' nF (a4 plan)) ?_ (Go.bind (b:=PUnit.unit) (aj:=l2 vs (ns.map AV.int) k' k8 (a4 plan)) (Go.by [] trivial (λ_=>by kernel_rfl)) Go.ret))⟩
 exact Go.bind (b:=.val (.ref 247)) (aj:=l1 vs (ns.map AV.int) 0) (Go.by [] trivial (λ_=>by kernel_rfl)) (Go.nh (as:=[.ref 9,.int c]) (by kernel_rfl) g0 g)
end
noncomputable def oS(p:Params):PySem.Expr:=match cU (LS p 0) with
 | .List (e::_) _=>e
 | e=>e
noncomputable def oN(p:Params):PySem.Expr:=match cU (LS p 0) with
 | .List (_::e::_) _=>e
 | e=>e
noncomputable def oA(p:Params):PySem.Expr:=match oS p with
 | .BoolOp _ (e::_) _=>e
 | e=>e
noncomputable def oB(p:Params):PySem.Expr:=match oS p with
 | .BoolOp _ (_::e::_) _=>e
 | e=>e
noncomputable def Ds(p:Params):aB:=⟨fR (fQ (oA p)) (aT p),8,[],.none,4,[]⟩
noncomputable abbrev k9(vs:List Value):List (Nat×Cell):=(4,.ns [("script",.ref 0)])::bot vs
noncomputable abbrev mf(vs:List Value)(row ys:List AV)(it:Cell)(cm:List (Str×AV)):St:=⟨9,(8,.ns cm)::(7,.list ys)::(6,it)::(5,.list row)::k9 vs⟩
section
variable{p:Params}{vs:List Value}{ns:List Int}{m N:Nat}
theorem Bh{row:List AV}(hl:row.length<=900):∀(rest done:List AV) (hr:row=done++rest) (cm:List (Str×AV)) (hc:cm=[]∨∃z:AV,cm=[((Str.ofString "n" : Str),z)]) (M:Nat) (hM:21+rest.length<=M),
  ∃cm',Go ((RN p M).comp (Ds p) (i7 (oA p)) (gQ (oA p)) none (.ref 6) (.ref 7)) (mf vs row done (.liter 5 done.length) cm) .next (mf vs row row .lend cm')
 | [],done,hr,cm,hc,M,hM=>by
  obtain⟨m,rfl⟩:∃m,M=m+20+1:=⟨M - 21,by omega⟩
  rw[List.append_nil] at hr
  subst hr
  exact⟨cm,qR (Go.by [.b false] (aa (show row[row.length]? = none by simp) trivial) (λ_=>by kernel_rfl))⟩
 | x::rest,done,hr,cm,hc,M,hM=>by
  obtain⟨m,rfl⟩:∃m,M=m+20+1:=⟨M - 21,by omega⟩
  have e1:(done++[x]).length=done.length+1:=by rw[List.length_append]; rfl
  have hx:row[done.length]? = some x:=by rw[hr]; simp
  have hd:done.length<=900:=by have:=congrArg List.length hr; rw[List.length_append] at this; omega
  obtain⟨cm',g⟩:=Bh hl rest (done++[x]) (by rw[hr]; simp) [("n",x)] (.inr ⟨_,rfl⟩) (m+20) (by rw[List.length_cons] at hM; omega)
  rw[e1] at g
  refine⟨cm',tX (v:=x) (au:=mf vs row done (.liter 5 (done.length+1)) cm) (aZ:=mf vs row done (.liter 5 (done.length+1)) [("n",x)]) (w:=.val .none) (a7:=mf vs row (done++[x]) (.liter 5 (done.length+1)) [("n",x)]) (Go.by [.cut [] x] (aa hx trivial) (λ_=>by kernel_rfl)) ?_ (Go.by [] (aa (lM hd) trivial) (λ_=>by kernel_rfl)) g⟩
  rcases hc with rfl | ⟨z,rfl⟩ <;> exact Go.by [] trivial (λ_=>by kernel_rfl)
theorem Lc:(⟨fR (fQ (oA p)) (aT p),8,[],.none,(aT p).frm,[]⟩:aB)=Ds p:=by kernel_rfl
theorem N2:(RN p (m+61)).ev (aT p) (oA p)=EM.bind (jc (RN p (m+60)) (aT p) (i7 (oA p)) (gQ (oA p)) (mO (oA p)) none (fQ (oA p))) λq=>EM.bind (iw q.2) λ_=>EM.ret q.1:=by kernel_rfl
theorem Jk(hl:vs.length<=900){row:List AV}(hp:dp (vs.map fy) none (some 24)=row)(hr:row.length<=24):Go ((RN p (m+61)).ev (aT p) (oA p)) (l0 vs) (.ref 7) ⟨9,(7,.list row)::(6,.lend)::(5,.list row)::k9 vs⟩:=by
 obtain⟨cm,g⟩:=Bh (p:=p) (vs:=vs) (row:=row) (by omega) row [] rfl [] (.inl rfl) (m+60) (by omega)
 subst hp
 refine vF N2 (qk (L:=8) (cl:=[]) (it:=.ref 6) (au:=⟨7,(6,.liter 5 0)::(5,.list (dp (vs.map fy) none (some 24)))::k9 vs⟩) (aZ:=⟨8,(7,.list [])::(6,.liter 5 0)::(5,.list (dp (vs.map fy) none (some 24)))::k9 vs⟩) (a7:=mf vs (dp (vs.map fy) none (some 24)) [] (.liter 5 0) []) (cW:=mf vs (dp (vs.map fy) none (some 24)) (dp (vs.map fy) none (some 24)) .lend cm)
  (by kernel_rfl) (by kernel_rfl) (Go.by [.keep] (aa (lM hl) <| aa (show(dp (vs.map fy) none (some 24)).length<=M6 from lM (by omega)) trivial) (λ_=>by kernel_rfl)) (Go.by [] (aa (show 0<=M6 by decide) trivial) (λ_=>by kernel_rfl)) (Go.by [] trivial (λ_=>by kernel_rfl)) (Go.by [] trivial (λ_=>by kernel_rfl)) ?_) (Go.by [] trivial (λ_=>by kernel_rfl))
 rw[Lc]
 exact g
theorem Dt:(RN p (m+62)).ev (aT p) (oS p)=EM.bind ((RN p (m+61)).ev (aT p) (oA p)) λv=>cF (i9 (KK p) v) (EM.ret v) ((RN p (m+61)).ev (aT p) (oB p)):=by kernel_rfl
theorem N3:(RN p (m+63)).ev (aT p) (cU (LS p 0))=EM.bind (dN (RN p (m+62)) (aT p) [oS p,oN p]) λvs=>nQ vs:=by kernel_rfl
theorem MS:aw p (m+63) (aT p) (LS p 0)=EM.bind ((RN p (m+63)).ev (aT p) (cU (LS p 0))) λv=>EM.bind (cb (KK p) (RN p (m+63)) (aT p) v (gU (LS p 0))) λ_=>EM.ret .next:=by kernel_rfl
theorem N4{xs:List Int}(hvs:vs.map fy=xs.map AV.int)(hx:xs.length<=63):∃ns:List Int,1<=ns.length/\ns.length<=24/\Go (aw p (m+63) (aT p) (LS p 0)) (l0 vs) .next (l1 vs (ns.map AV.int) 0):=by
 have hvl:vs.length=xs.length:=by rw[<- List.length_map (f:=fy),hvs,List.length_map]
 have hp:dp (vs.map fy) none (some 24)=(xs.take 24).map AV.int:=by rw[hvs,show(24:Int)=((24:Nat):Int) from rfl,HX,List.map_take]
 have gc:=Jk (p:=p) (m:=m) (by omega) hp (by rw[List.length_map,List.length_take]; omega)
 have hl:(xs.take 24).length<=24:=by rw[List.length_take]; omega
 have fin:∀(ns:List Int) (s:AV) (J:St),Go ((RN p (m+62)).ev (aT p) (oS p)) (l0 vs) s J->Go (nQ [s,.int 0]) J (.ref 9) ⟨10,iM vs (ns.map AV.int) 0 [("script",.ref 0)]⟩->Go ((RN p (m+62)).ev (aT p) (oN p)) J (.int 0) J->Go (aw p (m+63) (aT p) (LS p 0)) (l0 vs) .next (l1 vs (ns.map AV.int) 0):=λns s J h1 h2 h3 =>
  Go.eq MS (Go.bind (b:=.ref 9) (aj:=⟨10,iM vs (ns.map AV.int) 0 [("script",.ref 0)]⟩) (Go.eq N3 (Go.bind (Go.oV (by kernel_rfl) h1 (Go.ni (by kernel_rfl) h3)) h2)) (Go.by [] trivial (λ_=>by kernel_rfl)))
 generalize xs.take 24=ns at gc hl
 cases ns with
 | nil =>
  refine⟨[0],by decide,by decide,fin [0] (.lst [.int 0]) ⟨9,(7,.list [])::(6,.lend)::(5,.list [])::k9 vs⟩ ?_ (Go.by [.sel [7,5]] (aa (show 2<=M6 by decide) trivial) (λ_=>by kernel_rfl)) (Go.by [] trivial (λ_=>by kernel_rfl))⟩
  exact Go.eq Dt (Go.bind gc (Go.br (b:=false) (au:=⟨9,(7,.list [])::(6,.lend)::(5,.list [])::k9 vs⟩) (Go.by [] (aa (show 0<4611686018427387904 by decide) trivial) (λ_=>by kernel_rfl)) (Go.by [.norm] (aa (show 1<=M6 by decide) trivial) (λ_=>by kernel_rfl))))
 | cons x ns =>
  refine⟨x::ns,Nat.succ_le_succ (Nat.zero_le _),hl,fin (x::ns) (.ref 7) ⟨9,(7,.list ((x::ns).map AV.int))::(6,.lend)::(5,.list ((x::ns).map AV.int))::k9 vs⟩ ?_ (Go.by [.sel [7,5]] (aa (show 2<=M6 by decide) trivial) (λ_=>by kernel_rfl)) (Go.by [] trivial (λ_=>by kernel_rfl))⟩
  exact Go.eq Dt (Go.bind gc (Go.br (b:=true) (au:=⟨9,(7,.list ((x::ns).map AV.int))::(6,.lend)::(5,.list ((x::ns).map AV.int))::k9 vs⟩) (Go.by [] (aa (show((x::ns).map AV.int).length<4611686018427387904 by rw[List.length_map]; omega) trivial) (λ_=>by kernel_rfl)) Go.ret))
end
structure Sg where
 d:Nat
 r:Int
 c:Int
 f:Str
noncomputable abbrev Sg.s(s:Sg):Str:=⟨#[s.d]⟩
noncomputable def Sg.av(s:Sg):AV:=.tup [.str s.s,.int s.r,.int s.c,.str s.f]
noncomputable abbrev fW(s:Sg):Prop:=s.d=97∨s.d=98∨s.d=99∨s.d=100
noncomputable def j4(t:List Sg):Prop:=∀s∈t,fW s
noncomputable abbrev aP(t:List Sg):List AV:=t.map Sg.av
theorem iJ(t:List Sg):CL (aP t):=⟨λx hx N=>by
 obtain⟨r,hr,rfl⟩:=List.mem_map.mp hx
 exact CL.tup (CL.cons (λ_=>.str _) (CL.cons (λ_=>.int _) (CL.cons (λ_=>.int _) (CL.cons (λ_=>.str _) CL.nil)))) N⟩
theorem m4{a b:List Sg}:aP (a++b)=aP a++aP b:=List.map_append ..
noncomputable abbrev bs(q:Bool):Nat:=cond q 19 15
noncomputable abbrev tb(q:Bool)(t1:List Sg)(vs:List Value)(ns:List Int)(k:Int)(rows:List Row):List (Nat×Cell):=cond q ((16,.list (aP t1))::(12,.list (a4 rows))::iM vs (ns.map AV.int) k k8) ((12,.list (a4 rows))::iM vs (ns.map AV.int) k k8)
noncomputable def gy(p:Params)(q:Bool):aB:=⟨(bF p 254).scope,bs q,[],.ref 253,bs q,[]⟩
noncomputable def wG(p:Params):List Stmt:=(bF p 254).body
noncomputable def iR(p:Params):Stmt:=bD (wG p) 1
noncomputable abbrev TS(p:Params)(i:Nat):Stmt:=bD (df (iR p)) i
noncomputable def eI(q:Bool)(r:List (Str×AV)):List (Str×AV):=("pen",.ref 9)::("found",.ref (bs q+1))::r
section
variable(q:Bool)(t1:List Sg)(vs:List Value)(ns:List Int)(k:Int)(rows:List Row)(nm:List (Str×AV))(fd:List Sg)
noncomputable abbrev wH:St:=⟨bs q+2,(bs q+1,.list (aP fd))::(bs q,.ns nm)::tb q t1 vs ns k rows⟩
noncomputable abbrev fp(a b l:Int):St:=⟨bs q+4,(bs q+3,.rit a l 1)::(bs q+2,.rng 0 b 1)::(wH q t1 vs ns k rows nm fd).objs⟩
end
noncomputable def Ld:List AV:=[.str "x.c",.str "y.h",.str "z"]
theorem H5{v:Int}(h0:0<=v)(h1:v<3000):∃f:Str,0<=v.fdiv 1000/\v.fdiv 1000<1000000/\Ld[(v.fdiv 1000).toNat]? = some (.str f):=by
 have e:v.fdiv 1000=v / 1000:=Int.fdiv_eq_ediv_of_nonneg _ (by decide)
 rw[e]
 rcases(by omega:v / 1000=0∨v / 1000=1∨v / 1000=2) with q | q | q <;> rw[q]
 ·exact⟨"x.c",by decide,by decide,rfl⟩
 ·exact⟨"y.h",by decide,by decide,rfl⟩
 ·exact⟨"z",by decide,by decide,rfl⟩
theorem H6{v:Int}(h0:0<=v)(h1:v<4):∃d:Nat,((97=d∨98=d∨99=d∨100=d)/\(0<=v/\v<(("abcd" : Str).length:Int)/\("abcd" : Str).length<=M6))/\("abcd" : Str).cps[v.toNat]! = d:=by
 rcases(by omega:v=0∨v=1∨v=2∨v=3) with rfl | rfl | rfl | rfl
 ·exact⟨97,⟨by decide,by decide⟩,rfl⟩
 ·exact⟨98,⟨by decide,by decide⟩,rfl⟩
 ·exact⟨99,⟨by decide,by decide⟩,rfl⟩
 ·exact⟨100,⟨by decide,by decide⟩,rfl⟩
section
variable{p:Params}{q:Bool}{t1 fd:List Sg}{vs:List Value}{ns:List Int}{k b a e' l c':Int}{rows:List Row}{nm:List (Str×AV)}{m N:Nat}
theorem Jl{N:Nat}(h:13<=N):aO N k8:=.cons (.ref (by omega)) (.cons (.ref (by omega)) (.cons (.ref (by omega)) .nil))
theorem Bi(hN:17<=N):UC N (tb q t1 vs ns k rows):=by
 have h:UC N ((12,.list (a4 rows))::iM vs (ns.map AV.int) k k8):=aY (dJ (tZ _)) (tY (Jl (by omega)))
 cases q with
 | false=>exact h
 | true=>exact aY (dJ (iJ _)) h
theorem z7(hN:bs q+4<=N)(hn:aO N nm):UC N (fp q t1 vs ns k rows nm fd e' c' l).objs:=by
 have:15<=bs q:=by cases q <;> decide
 exact aY trivial (aY trivial (aY (dJ (iJ _)) (aY (eZ hn) (Bi (by omega)))))
theorem Bj{r:List (Str×AV)}(hN:bs q+4<=N)(h:aO N r):aO N (eI q r):=by
 have:15<=bs q:=by cases q <;> decide
 exact .cons (.ref (by omega)) (.cons (.ref (by omega)) h)
theorem H7:jt p (gy p q) (TS p 0) (some ["sign","place"]):=λenv he=>⟨rfl,by
 obtain⟨sc,loc⟩:=env
 cases he
 kernel_rfl⟩
theorem Le(h:cI ns k b)(hb:b+2<=120):∃(d:Nat) (v:Int),(d=97∨d=98∨d=99∨d=100)/\0<=v/\v<3000/\Go (aw p (m+60) (gy p q) (TS p 0)) (fp q t1 vs ns k rows (eI q [("at",.int a)]) fd e' c' l) .next (fp q t1 vs ns (k+1+1) rows (eI q [("at",.int a),("place",.int v),("sign",.str ⟨#[d]⟩)]) fd e' c' l):=by
 have t1':=h.step (b':=b+1) (by omega) (by omega)
 obtain⟨y,hD,v0,v1⟩:=iy (p:=p) h (s:=4) (by decide)
 obtain⟨y',hD',w0,w1⟩:=iy (p:=p) t1' (s:=3000) (by decide)
 obtain⟨d,hd,ed⟩:=H6 v0 v1
 refine⟨d,dv (ns.map AV.int) (k+1) y' 3000,hd.1.imp Eq.symm (Or.imp Eq.symm (Or.imp Eq.symm Eq.symm)),w0,w1,?_⟩
 rw[<- ed]
 have u:∀k,UC (bs q+4) (fp q t1 vs ns k rows (eI q [("at",.int a)]) fd e' c' l).objs:=λk=>z7 (Nat.le_refl _) (Bj (Nat.le_refl _) (.cons (.int _) .nil))
 exact Go.by ([.b true]++dW (ns.map AV.int) k y++dW (ns.map AV.int) (k+1) y') (aa (H7 (p:=p) (q:=q)) (hD (bs q+4) _ _ (show dU (bs q+4) ns k y 4 (fp q t1 vs ns (k+1) rows (eI q [("at",.int a)]) fd e' c' l).objs from⟨.int _,u _⟩) (aa hd.2
  (hD' (bs q+4) _ _ (show dU (bs q+4) ns (k+1) y' 3000 (fp q t1 vs ns (k+1+1) rows (eI q [("at",.int a)]) fd e' c' l).objs from⟨.int _,u _⟩) (aa (show 2<=M6 by decide) trivial))))) (λ_=>by cases q <;> kernel_rfl)
theorem Lf{v:Int}{d:Nat}(h0:0<=v)(h1:v<3000)(hl:fd.length<=900)(hd:d=97∨d=98∨d=99∨d=100):∃s:Sg,fW s/\Go (aw p (m+60) (gy p q) (TS p 1)) (fp q t1 vs ns k rows (eI q [("at",.int a),("place",.int v),("sign",.str ⟨#[d]⟩)]) fd e' c' l) .next
  (fp q t1 vs ns k rows (eI q [("at",.int a),("place",.int v),("sign",.str ⟨#[d]⟩)]) (fd++[s]) e' c' l):=by
 obtain⟨f,hf⟩:=H5 h0 h1
 refine⟨⟨d,v.fmod 50,(v.fdiv 50).fmod 20,f⟩,hd,?_⟩
 show Go _ _ _ ⟨bs q+4,(bs q+3,.rit e' l 1)::(bs q+2,.rng 0 c' 1)::(bs q+1,.list (aP (fd++[⟨d,v.fmod 50,(v.fdiv 50).fmod 20,f⟩])))::(bs q,.ns _)::tb q t1 vs ns k rows⟩
 rw[m4]
 exact Go.by [.norm,.cut [] (.str f)] (aa (show(50:Int)≠0 by decide) <| aa (show(50:Int)≠0/\false=false from⟨by decide,rfl⟩) <| aa (show(20:Int)≠0 by decide) <| aa (show 3<=M6 by decide) <| aa (show(1000:Int)≠0/\false=false from⟨by decide,rfl⟩) <| aa hf <| aa (show 4<=M6 by decide) <| aa (show(aP fd).length<=M6 from lM (by rw[List.length_map]; exact hl)) trivial) (λ_=>by cases q <;> kernel_rfl)
theorem Lg:bp (aw p (m+60) (gy p q)) (df (iR p))=bp (aw p (m+60) (gy p q)) [TS p 0,TS p 1]:=by cases q <;> kernel_rfl
theorem z8:∀(t:Nat) (fd:List Sg) (hf:j4 fd) (hl:fd.length+t<=14) (k b:Int) (h:cI ns k b) (hb:b+2 * t<=120) (ga:Nat) (M:Nat) (hM:62+t<=M),
  ∃fd' k',j4 fd'/\fd'.length=fd.length+t/\cI ns k' (b+2 * t)/\∃ga':Int,Go ((RN p M).cp (gy p q) (cJ (iR p)) (.ref (bs q+3)) (df (iR p))) (fp q t1 vs ns k rows (eI q []) fd ga c' t) .next (fp q t1 vs ns k' rows (eI q []) fd' ga' c' 0)
 | 0,fd,hf,hl,k,b,h,hb,ga,M,hM=>by
  obtain⟨m,rfl⟩:∃m,M=m+60+1:=⟨M - 61,by omega⟩
  exact⟨fd,k,hf,rfl,by simpa using h,ga,n4 (Go.by [.b false] (aa (Int.le_refl 0) trivial) (λ_=>by cases q <;> kernel_rfl))⟩
 | t+1,fd,hf,hl,k,b,h,hb,ga,M,hM=>by
  obtain⟨m,rfl⟩:∃m,M=m+61+1:=⟨M - 62,by omega⟩
  obtain⟨d,v,hd,v0,v1,g3⟩:=Le (p:=p) (q:=q) (t1:=t1) (fd:=fd) (vs:=vs) (rows:=rows) (a:=(ga:Int)) (e':=((ga+1:Nat):Int)) (c':=c') (l:=(t:Int)) (m:=m) h (by omega)
  obtain⟨s,hs,g4⟩:=Lf (p:=p) (q:=q) (t1:=t1) (fd:=fd) (vs:=vs) (ns:=ns) (k:=k+1+1) (rows:=rows) (a:=(ga:Int)) (e':=((ga+1:Nat):Int)) (c':=c') (l:=(t:Int)) (m:=m) v0 v1 (by omega) hd
  have t2:=(h.step (b':=b+1) (by omega) (by omega)).step (b':=b+2) (by omega) (by omega)
  obtain⟨fd',k',q1,q2,q3,ga',g⟩:=z8 t (fd++[s]) (λx hx=>(List.mem_append.mp hx).elim (hf x) λh=>by rw[List.mem_singleton.mp h]; exact hs) (by rw[List.length_append,List.length_singleton]; omega) (k+1+1) (b+2) t2 (by omega) (ga+1) (m+61) (by omega)
  refine⟨fd',k',q1,by rw[q2,List.length_append,List.length_singleton]; omega,by rw[show b+2 * ((t+1:Nat):Int)=b+2+2 * t by omega]; exact q3,ga',?_⟩
  have g1:Go (b0 (cJ (iR p)) (.ref (bs q+3))) (fp q t1 vs ns k rows (eI q []) fd ga c' (t+1:Nat)) (some (.int ga)) (fp q t1 vs ns k rows (eI q []) fd ((ga+1:Nat):Int) c' t):=by
   rw[<- show((t+1:Nat):Int) - 1=(t:Int) by omega]
   exact Go.by [.cut [] (.int ga)] (aa (show(0:Int)<((t+1:Nat):Int) by omega) trivial) (λ_=>by cases q <;> kernel_rfl)
  generalize hfd:fd++[s]=fs at g4 g
  refine lB g1 (aZ:=fp q t1 vs ns k rows (eI q [("at",.int ga)]) fd ((ga+1:Nat):Int) c' t) (Go.by [] trivial (λ_=>by cases q <;> kernel_rfl)) (Go.aV (Go.eq Lg (Go.cons g3 (Go.stmt g4)))) (cW:=fp q t1 vs ns (k+1+1) rows (eI q []) fs ((ga+1:Nat):Int) c' t)
   (Go.drop (N:=bs q+4) (bs q) ["at","place","sign"] (z7 (Nat.le_refl _) (Bj (Nat.le_refl _) .nil)) (λ_=>by cases q <;> kernel_rfl)) g
end
noncomputable def pg(p:Params)(i:Nat):PySem.Expr:=match cU (LS p 2) with
 | .List es _=>iL es i
 | e=>e
noncomputable def D2:List (Str×AV):=[("script",.ref 0),("pen",.ref 9),("plan",.ref 12),("texts",.ref 23)]
noncomputable abbrev wI(vs:List Value)(ns:List Int)(k:Int)(nm:List (Str×AV))(rows:List Row)(t1 t2:List Sg):List (Nat×Cell):=(23,.list [.lst (aP t1),.lst (aP t2)])::(12,.list (a4 rows))::iM vs (ns.map AV.int) k nm
section
variable{p:Params}{q:Bool}{t1 t2 fd:List Sg}{vs:List Value}{ns:List Int}{k b a e' l c':Int}{rows:List Row}{nm:List (Str×AV)}{m N:Nat}
theorem Jm:bp (aw p (m+80) (gy p q)) (bF p 254).body=bp (aw p (m+80) (gy p q)) [bD (wG p) 0,iR p,bD (wG p) 2]:=by cases q <;> kernel_rfl
theorem Jn:aw p (m+80) (gy p q) (iR p)=EM.bind ((RN p (m+80)).ev (gy p q) (eo (iR p))) λv=>EM.bind (dZ v) λit=>(RN p (m+80)).cp (gy p q) (cJ (iR p)) it (df (iR p)):=by cases q <;> kernel_rfl
theorem z9(h:cI ns k b)(hb:b+29<=120):∃fd k',j4 fd/\fd.length<=14/\cI ns k' (b+29)/\Go ((RN p (m+82)).call (.val (.ref 254)) [.ref 9] []) ⟨bs q,tb q t1 vs ns k rows⟩ (.ref (bs q+1)) ⟨bs q+4,(bs q+1,.list (aP fd))::tb q t1 vs ns k' rows⟩:=by
 obtain⟨y,hD,v0,v1⟩:=iy (p:=p) h (s:=15) (by decide)
 have gi:Go (EM.bind ((RN p (m+80)).ev (gy p q) (eo (iR p))) λv=>dZ v) (wH q t1 vs ns k rows (eI q []) []) (.ref (bs q+3)) (fp q t1 vs ns (k+1) rows (eI q []) [] ((0:Nat):Int) (dv (ns.map AV.int) k y 15) (lf (dv (ns.map AV.int) k y 15))):=by
  have h15:15<=bs q:=by cases q <;> decide
  have u:dU (bs q+2) ns k y 15 (wH q t1 vs ns (k+1) rows (eI q []) []).objs:=⟨.int _,aY (dJ CL.nil) (aY (eZ (.cons (.ref (by omega)) (.cons (.ref (by omega)) .nil))) (Bi (by omega)))⟩
  exact Go.by (dW (ns.map AV.int) k y) (hD (bs q+2) _ _ u (aa (rg v0 (by omega)) trivial)) (λ_=>by cases q <;> kernel_rfl)
 rw[CA v0] at gi
 generalize dv (ns.map AV.int) k y 15=v at v0 v1 gi
 obtain⟨t,rfl⟩:=Int.eq_ofNat_of_zero_le v0
 obtain⟨fd,k',h1,h2,h3,ga,g⟩:=z8 (p:=p) (q:=q) (t1:=t1) (vs:=vs) (rows:=rows) (c':=(t:Int)) t [] (λ_ h=>nomatch h) (by rw[List.length_nil]; omega) (k+1) (b+1) (h.step (by omega) (by omega)) (by omega) 0 (m+80) (by omega)
 refine⟨fd,k',h1,by rw[h2,List.length_nil]; omega,h3.to (by omega) (by omega),?_⟩
 refine Go.eq (show(RN p (m+82)).call (.val (.ref 254)) [.ref 9] []=fY (RN p (m+81)) (bF p 254) [.ref 9] [] by kernel_rfl)
  (Go.fn (ae:=gy p q) (cH:=⟨bs q+1,(bs q,.ns [("pen",.ref 9)])::tb q t1 vs ns k rows⟩) (by kernel_rfl) (binds:=[("pen",.ref 9)]) (by kernel_rfl) (Go.by [] trivial (λ_=>by cases q <;> kernel_rfl)) ?_)
 refine Go.bind (b:=.ret (.ref (bs q+1))) (aj:=fp q t1 vs ns k' rows (eI q []) fd ga t 0) (Go.aV (Go.eq Jm ?_)) (Go.rt (Go.by [.sel [bs q+1]] trivial (λ_=>by cases q <;> kernel_rfl)))
 exact Go.cons (Go.by [.keep] (aa (show 0<=M6 by decide) trivial) (λ_=>by cases q <;> kernel_rfl)) (Go.cons (Go.pe Jn gi g) (Go.stmt (Go.by [] trivial (λ_=>by cases q <;> kernel_rfl))))
theorem MT:aw p (m+90) (aT p) (LS p 2)=EM.bind (EM.bind (dN (RN p (m+89)) (aT p) [pg p 0,pg p 1]) λvs=>nQ vs) λv=>EM.bind (cb (KK p) (RN p (m+90)) (aT p) v (gU (LS p 2))) λ_=>EM.ret .next:=by kernel_rfl
theorem CB(i:Bool):(RN p (m+89)).ev (aT p) (pg p (cond i 1 0))=EM.bind ((RN p (m+88)).ev (aT p) (eB (pg p 0))) λf=>eX (KK p) (RN p (m+88)) (aT p) f [] (eL (pg p 0)) []:=by cases i <;> kernel_rfl
theorem N5(h:cI ns k b)(hb:b+58<=120):∃t1 t2 k',j4 t1/\j4 t2/\t1.length<=14/\t2.length<=14/\Go (aw p (m+90) (aT p) (LS p 2)) (l2 vs (ns.map AV.int) k k8 (a4 rows)) .next ⟨24,wI vs ns k' D2 rows t1 t2⟩:=by
 obtain⟨t1,k1,h1,l1,o1,g1⟩:=z9 (p:=p) (q:=false) (t1:=[]) (vs:=vs) (rows:=rows) (m:=m+6) h (by omega)
 obtain⟨t2,k2,h2,l2,o2,g2⟩:=z9 (p:=p) (q:=true) (t1:=t1) (vs:=vs) (rows:=rows) (m:=m+6) o1 (by omega)
 refine⟨t1,t2,k2,h1,h2,l1,l2,Go.eq MT (Go.bind (b:=.ref 23) (aj:=⟨24,wI vs ns k2 k8 rows t1 t2⟩) (Go.bind (b:=[.ref 16,.ref 20]) (aj:=⟨23,(20,.list (aP t2))::tb true t1 vs ns k2 rows⟩) ?_ (Go.by [.sel [16,20]] (aa (show 2<=M6 by decide) trivial) (λ_=>by kernel_rfl))) (Go.by [] trivial (λ_=>by kernel_rfl)))⟩
 refine Go.oV (by kernel_rfl) (Go.eq (CB (m:=m) false) (Go.bind (b:=.val (.ref 254)) (aj:=⟨15,tb false [] vs ns k rows⟩) (Go.by [] trivial (λ_=>by kernel_rfl)) (Go.nh (as:=[.ref 9]) (by kernel_rfl) (Go.by [] trivial (λ_=>by kernel_rfl)) g1))) ?_
 exact Go.ni (by kernel_rfl) (Go.eq (CB (m:=m) true) (Go.bind (b:=.val (.ref 254)) (aj:=⟨19,tb true t1 vs ns k1 rows⟩) (Go.by [] trivial (λ_=>by kernel_rfl)) (Go.nh (as:=[.ref 9]) (by kernel_rfl) (Go.by [] trivial (λ_=>by kernel_rfl)) g2)))
end
structure G1 where
 vs:List Value
 ns:List Int
 k:Int
 rows:List Row
 t1:List Sg
 t2:List Sg
structure ei(g:G1):Prop where
 hr:oC g.rows.length g.rows
 r1:1<=g.rows.length
 r3:g.rows.length<=3
 x1:j4 g.t1
 x2:j4 g.t2
 l1:g.t1.length<=14
 l2:g.t2.length<=14
structure T1 where
 due:List AV
 ev:List AV
 fuel:Nat
 tb:List AV
 pb:List AV
 ct:List AV
 bY:Nat
noncomputable def dS(vs:List Value)(k2 k3:dG):List (Nat×Cell):=[(3,.tab 267 #[] k3),(2,.tab 260 #[] k2),(1,.tab 184 #[] none),(0,.raw (jk vs))]
noncomputable def we(g:G1)(nm:List (Str×AV))(bt:List (Nat×Cell)):List (Nat×Cell):=(23,.list [.lst (aP g.t1),.lst (aP g.t2)])::(12,.list (a4 g.rows))::(9,.list [.lst (g.ns.map AV.int),.int g.k])::(6,.lend)::(4,.ns nm)::bt
noncomputable def ib(r:List (Str×AV)):List (Str×AV):=("script",.ref 0)::("pen",.ref 9)::("plan",.ref 12)::("texts",.ref 23)::("due",.ref 24)::("events",.ref 25)::("fuel",.ref 26)::("lexer",.ref 28)::r
noncomputable def dY:List (Str×AV):=[("token_buffer",.ref 30),("pushed_back",.ref 31),("current_text",.ref 32)]
noncomputable def fE(x:AV):List (Str×AV):=[("token_buffer",.ref 30),("pushed_back",.ref 31),("current_text",.ref 32),("characters",x)]
noncomputable def kQ(g:G1)(nm hd:List (Str×AV))(bt:List (Nat×Cell))(t:T1):List (Nat×Cell) :=
 (32,.list t.ct)::(31,.list t.pb)::(30,.list t.tb)::(28,.inst 230 27)::(27,.dict hd)::(26,.list [.int t.fuel])::(25,.list t.ev)::(24,.list t.due)::we g nm bt
noncomputable def t0:T1:=⟨[],[],0,[],[],[],0⟩
section
variable(p:Params)
noncomputable def j6:List Stmt:=(bF p 268).body
noncomputable def gz:aB:=⟨(bF p 268).scope,33,[("window",37),("events",36),("plan",35),("lexer",34)],.ref 267,33,[]⟩
noncomputable def kR:Stmt:=bD (bF p 261).body 1
noncomputable def kT:Stmt:=bD (j6 p) 1
noncomputable def dM(i:Nat)(r:Row):AV:=.cY "state" (lQ (kR p)) (oz (kR p)) (lJ (kR p)) [] [("window",.ref 38),("twice",.bool r.twice),("states",.ref 39),("signs",r.sg.av),("number",.int i),("lexer",.ref 28),("keeps",.bool r.keeps),("goes",.lst (fh r.goes)),("fuel",.ref 26),("events",.ref 25),("deed",.str r.dd.s),("asks",.bool r.asks)]
noncomputable def eF:AV:=.cY "last" (lQ (kT p)) (oz (kT p)) (lJ (kT p)) [("window",37),("plan",35),("lexer",34),("events",36)] []
end
noncomputable def dI(p:Params):Nat->List Row->List AV
 | _,[]=>[]
 | i,r::rs=>dM p i r::dI p (i+1) rs
noncomputable abbrev kS:dG:=some [((145,4),"state")]
noncomputable abbrev kL:dG:=some [((175,4),"last")]
noncomputable def rF(l:List (Nat×Cell)):List (Nat×Cell):=(37,.box (some (.ref 38)))::(36,.box (some (.ref 25)))::(35,.box (some (.ref 12)))::(34,.box (some (.ref 28)))::l
noncomputable def runC(g:G1)(sts:List AV)(nm hd:List (Str×AV))(bt:List (Nat×Cell))(t:T1):List (Nat×Cell):=(39,.list sts)::(38,.list [.int t.bY])::rF (kQ g nm hd bt t)
noncomputable def nG(g:G1)(sts:List AV)(sn:List (Str×AV))(bt:List (Nat×Cell)):List (Nat×Cell):=(39,.list sts)::(38,.list [.int (0:Nat)])::rF ((33,.ns sn)::kQ g (ib []) dY bt t0)
noncomputable def iS(p:Params):Stmt:=bD (j6 p) 2
noncomputable abbrev fZ(g:G1)(sts:List AV)(sn:List (Str×AV))(bt:List (Nat×Cell))(i:Nat)(wl:Cell):St:=⟨42,(41,.enum 40 i)::(40,wl)::nG g sts sn bt⟩
noncomputable def fF(p:Params)(r:List (Str×AV)):List (Str×AV):=("fuel",.ref 26)::("states",.ref 39)::("last",eF p)::r
section
variable{p:Params}{vs:List Value}{ns:List Int}{k:Int}{rows:List Row}{t1 t2:List Sg}{g:G1}{nm hd sn:List (Str×AV)}{bt:List (Nat×Cell)}{sts:List AV}{t:T1}{m N i:Nat}
theorem lz{r:Row}(hN:40<=N):aL N (dM p i r):=.cY (λ_ h=>nomatch h) λq hq=>by
 simp only[List.mem_cons,List.mem_nil_iff,or_false] at hq
 rcases hq with rfl | rfl | rfl | rfl | rfl | rfl | rfl | rfl | rfl | rfl | rfl | rfl
 all_goals first | exact .bool _ | exact .int _ | exact .str _ | exact r.sg.bZ N | exact CL.lst (qx _) N | exact aL.ref (by omega)
theorem mP(hN:40<=N):aL N (eF p):=.cY (λq hq=>by
 simp only[List.mem_cons,List.mem_nil_iff,or_false] at hq
 rcases hq with rfl | rfl | rfl | rfl <;> (show _<N) <;> omega) λ_ h=>nomatch h
theorem qA:∀(i:Nat) (rs:List Row),∀N,40<=N->∀x∈dI p i rs,aL N x
 | _,[],_,_,_,h=>nomatch h
 | i,r::rs,N,hN,x,h=>(List.mem_cons.mp h).elim (λe=>e▸lz hN) (qA (i+1) rs N hN x)
theorem Aa:∀(i:Nat) (a b:List Row),dI p i (a++b)=dI p i a++dI p (i+a.length) b
 | i,[],b=>rfl
 | i,r::a,b=>by
  show _::dI p (i+1) (a++b)=_::(dI p (i+1) a++_)
  rw[Aa (i+1) a b,List.length_cons,show i+1+a.length=i+(a.length+1) by omega]
theorem mQ{k2 k3:dG}:UC N (dS vs k2 k3):=aY trivial (aY trivial (aY trivial (aY trivial zY)))
theorem G8(hn:aO N nm)(hb:UC N bt):UC N (we g nm bt) :=
 aY (dJ (CL.cons (CL.lst (iJ _)) (CL.cons (CL.lst (iJ _)) CL.nil))) (aY (dJ (tZ _)) (aY (dJ (CL.cons (CL.lst (CL.ints _)) (CL.cons (λ_=>.int _) CL.nil))) (aY trivial (aY (eZ hn) hb))))
theorem Bk{r:List (Str×AV)}(hN:29<=N)(h:aO N r):aO N (ib r):=.cons (.ref (by omega)) (.cons (.ref (by omega)) (.cons (.ref (by omega)) (.cons (.ref (by omega)) (.cons (.ref (by omega)) (.cons (.ref (by omega)) (.cons (.ref (by omega)) (.cons (.ref (by omega)) h)))))))
structure bU(t:T1):Prop where
 due:CL t.due
 ev:CL t.ev
 tb:CL t.tb
 pb:CL t.pb
 ct:CL t.ct
theorem Lh:bU t0:=⟨CL.nil,CL.nil,CL.nil,CL.nil,CL.nil⟩
theorem y9(h:bU t)(hN:33<=N)(hn:aO N nm)(hd':aO N hd)(hb:UC N bt):UC N (kQ g nm hd bt t) :=
 aY (dJ h.ct) (aY (dJ h.pb) (aY (dJ h.tb) (aY (show 27<N by omega) (aY (qc hd') (aY (dJ (CL.cons (λ_=>.int _) CL.nil)) (aY (dJ h.ev) (aY (dJ h.due) (G8 hn hb))))))))
theorem zc{l:List (Nat×Cell)}(hN:39<=N)(h:UC N l):UC N (rF l):=aY (nZ (.ref (by omega))) (aY (nZ (.ref (by omega))) (aY (nZ (.ref (by omega))) (aY (nZ (.ref (by omega))) h)))
theorem ze{xs:List AV}(h:∀x∈xs,aL N x):bA N (.list xs):=h
theorem qm(h:bU t)(hs:∀x∈sts,aL N x)(hN:40<=N)(hn:aO N nm)(hd':aO N hd)(hb:UC N bt):UC N (runC g sts nm hd bt t) :=
 aY (ze hs) (aY (dJ (CL.cons (λ_=>.int _) CL.nil)) (zc (by omega) (y9 h (by omega) hn hd' hb)))
theorem Bl(hN:33<=N):aO N dY:=.cons (.ref (by omega)) (.cons (.ref (by omega)) (.cons (.ref (by omega)) .nil))
theorem Bm{x:AV}(hN:33<=N)(h:aL N x):aO N (fE x):=.cons (.ref (by omega)) (.cons (.ref (by omega)) (.cons (.ref (by omega)) (.cons h .nil)))
theorem Bn{r:List (Str×AV)}(hN:40<=N)(h:aO N r):aO N (fF p r):=.cons (.ref (by omega)) (.cons (.ref (by omega)) (.cons (mP hN) h))
theorem Ab(hs:∀x∈sts,aL N x)(hN:40<=N)(hn:aO N sn)(hb:UC N bt):UC N (nG g sts sn bt) :=
 aY (ze hs) (aY (dJ (CL.cons (λ_=>.int _) CL.nil)) (zc (by omega) (aY (eZ hn) (y9 Lh (by omega) (Bk (by omega) .nil) (Bl (by omega)) hb))))
theorem H8:jt p (aT p) (LS p 3) none:=λenv he=>⟨rfl,by
 obtain⟨sc,loc⟩:=env
 cases he
 kernel_rfl⟩
theorem N6:Go (aw p (m+60) (aT p) (LS p 3)) ⟨24,wI vs ns k D2 rows t1 t2⟩ .next ⟨33,kQ ⟨vs,ns,k,rows,t1,t2⟩ (ib []) dY (dS vs (some []) (some [])) t0⟩ :=
 Go.by [.b false,.keep,.keep,.keep,.keep,.keep,.keep,.sel [30,31,32],.keep,.keep] (aa (H8 (p:=p)) <| aa (show 0<=M6 by decide) <| aa (show 0<=M6 by decide) <| aa (show 1<=M6 by decide) <| aa (show 0<=M6 by decide) <| aa (show 0<=100 by decide) <| aa (show 0<=M6 by decide) <| aa (show 1<=100 by decide) <| aa (show 0<=M6 by decide) <| aa (show 2<=100 by decide) <| aa (show 28<33 by decide) <| aa (show 4<=M6 by decide) trivial) (λ_=>by kernel_rfl)
theorem Jo:jt p (gz p) (bD (j6 p) 0) none:=λenv he=>⟨rfl,by
 obtain⟨sc,loc⟩:=env
 cases he
 kernel_rfl⟩
noncomputable def D3(g:G1):List (Nat×Cell):=(37,.box none)::(36,.box (some (.ref 25)))::(35,.box (some (.ref 12)))::(34,.box (some (.ref 28)))::(33,.ns [("fuel",.ref 26)])::kQ g (ib []) dY (dS g.vs (some []) (some [])) t0
theorem MU:Go (aw p (m+60) (gz p) (bD (j6 p) 0)) ⟨38,D3 g⟩ .next ⟨40,nG g [] [("fuel",.ref 26),("states",.ref 39)] (dS g.vs (some []) (some []))⟩ :=
 Go.by [.b false,.keep,.keep,.keep] (aa (Jo (p:=p)) <| aa (show 1<=M6 by decide) <| aa (show 0<=M6 by decide) <| aa (show 2<=M6 by decide) trivial) (λ_=>by kernel_rfl)
theorem MV:Go (aw p (m+60) (gz p) (bD (j6 p) 1)) ⟨40,nG g [] [("fuel",.ref 26),("states",.ref 39)] (dS g.vs (some []) (some []))⟩ .next ⟨40,nG g [] (fF p []) (dS g.vs (some []) kL)⟩:=Go.by [] (aa (show plainDef (lQ (kT p)) from λenv=>⟨rfl,rfl⟩) trivial) (λ_=>by kernel_rfl)
theorem Jp:aw p (m+60) (gz p) (iS p)=EM.bind ((RN p (m+60)).ev (gz p) (eo (iS p))) λv=>EM.bind (dZ v) λit=>(RN p (m+60)).cp (gz p) (cJ (iS p)) it (df (iS p)):=by kernel_rfl
theorem Li:Go (EM.bind ((RN p (m+60)).ev (gz p) (eo (iS p))) λv=>dZ v) ⟨40,nG g sts sn bt⟩ (.ref 41) (fZ g sts sn bt 0 (.wl 12 0)):=Go.by [] trivial (λ_=>by kernel_rfl)
noncomputable abbrev Du(p:Params):aB:=⟨(bF p 261).scope,42,[("twice",54),("signs",53),("keeps",52),("goes",51),("deed",50),("asks",49),("window",48),("fuel",47),("events",46),("states",45),("number",44),("lexer",43)],.ref 260,42,[]⟩
theorem Jq:jt p (Du p) (bD (bF p 261).body 0) none:=λenv he=>⟨rfl,rfl⟩
theorem Lj{r:Row}{k2:dG}(hk:k2=some []∨k2=kS)(hs:∀N,40<=N->∀x∈sts,aL N x)(hl:sts.length<=900):Go ((RN p (m+60)).aV (gz p) (df (iS p))) (fZ g sts (fF p [("number",.int i),("row",r.av)]) (dS g.vs k2 kL) (i+1) (.wl 12 (i+1))) .next (fZ g (sts++[dM p i r]) (fF p [("number",.int i),("row",r.av)]) (dS g.vs kS kL) (i+1) (.wl 12 (i+1))):=by
 have u:UV 42 (dM p i r) (fZ g sts (fF p [("number",.int i),("row",r.av)]) (dS g.vs kS kL) (i+1) (.wl 12 (i+1))).objs:=⟨lz (by decide),aY (show 40<42 by decide) (aY (show 12<42 by decide) (Ab (hs _ (by decide)) (by decide) (Bn (by decide) (.cons (.int _) (.cons (r.bZ _) .nil))) mQ))⟩
 have c:jt p (Du p) (bD (bF p 261).body 0) none/\plainDef (lQ (kR p))/\UV 42 (dM p i r) (fZ g sts (fF p [("number",.int i),("row",r.av)]) (dS g.vs kS kL) (i+1) (.wl 12 (i+1))).objs/\sts.length<=M6/\True:=⟨Jq,λenv=>⟨rfl,rfl⟩,u,lM hl,trivial⟩
 rcases hk with rfl | rfl <;> exact Go.by [.b false,.b true] c (λ_=>by kernel_rfl)
end
noncomputable abbrev hG(vs:List Value):List (Nat×Cell):=dS vs kS kL
noncomputable abbrev ck(p:Params)(g:G1):List AV:=dI p 0 g.rows++[eF p]
noncomputable abbrev ph(p:Params)(g:G1)(nm hd:List (Str×AV))(t:T1):St:=⟨42,runC g (ck p g) nm hd (hG g.vs) t⟩
section
variable{p:Params}{g:G1}{nm hd sn:List (Str×AV)}{sts:List AV}{t:T1}{m N i:Nat}
theorem Jr{r:Row}{k2:dG}:Go (cb (KK p) (RN p (m+60)) (gz p) (.tup [.int i,r.av]) (cJ (iS p))) (fZ g sts (fF p []) (dS g.vs k2 kL) (i+1) (.wl 12 (i+1))) PUnit.unit (fZ g sts (fF p [("number",.int i),("row",r.av)]) (dS g.vs k2 kL) (i+1) (.wl 12 (i+1))):=Go.by [] trivial (λ_=>by kernel_rfl)
theorem Ac(hrl:g.rows.length<=3):∀(rest done:List Row) (hr:g.rows=done++rest) (k2:dG) (hk:k2=some []∨k2=kS) (M:Nat) (hM:62+rest.length<=M),
  ∃j k2',(k2' = kS∨k2' = k2/\rest=[])/\Go ((RN p M).cp (gz p) (cJ (iS p)) (.ref 41) (df (iS p))) (fZ g (dI p 0 done) (fF p []) (dS g.vs k2 kL) done.length (.wl 12 done.length)) .next (fZ g (dI p 0 g.rows) (fF p []) (dS g.vs k2' kL) j .any)
 | [],done,hr,k2,hk,M,hM=>by
  obtain⟨m,rfl⟩:∃m,M=m+60+1:=⟨M - 61,by omega⟩
  rw[List.append_nil] at hr
  rw[<- hr]
  exact⟨g.rows.length,k2,.inr ⟨rfl,rfl⟩,n4 (K2 (j:=40) (l:=12) (k:=g.rows.length) (xs:=a4 g.rows) (by kernel_rfl) (by kernel_rfl) (by kernel_rfl) (by kernel_rfl) (by simp) (by kernel_rfl))⟩
 | r::rest,done,hr,k2,hk,M,hM=>by
  obtain⟨m,rfl⟩:∃m,M=m+61+1:=⟨M - 62,by omega⟩
  have e1:(done++[r]).length=done.length+1:=by rw[List.length_append]; rfl
  have e2:dI p 0 (done++[r])=dI p 0 done++[dM p done.length r]:=by rw[Aa,Nat.zero_add]; rfl
  have hd3:done.length<=3:=by have:=congrArg List.length hr; rw[List.length_append] at this; omega
  have hsl:∀(i:Nat) (l:List Row),(dI p i l).length=l.length:=λi l=>by
   induction l generalizing i with
   | nil=>rfl
   | cons x l ih=>exact congrArg (· + 1) (ih (i+1))
  obtain⟨j,k2',h,gg⟩:=Ac hrl rest (done++[r]) (by rw[hr]; simp) kS (.inr rfl) (m+61) (by rw[List.length_cons] at hM; omega)
  rw[e1,e2] at gg
  refine⟨j,k2',.inl (h.elim id λq=>q.1),?_⟩
  have g1:Go (b0 (cJ (iS p)) (.ref 41)) (fZ g (dI p 0 done) (fF p []) (dS g.vs k2 kL) done.length (.wl 12 done.length)) (some (.tup [.int done.length,r.av])) (fZ g (dI p 0 done) (fF p []) (dS g.vs k2 kL) (done.length+1) (.wl 12 (done.length+1))) :=
   MO (j:=40) (l:=12) (xs:=a4 g.rows) (by kernel_rfl) (by kernel_rfl) (by kernel_rfl) (by kernel_rfl) (by rw[hr]; simp) (by kernel_rfl)
  generalize hss:dI p 0 done=ss at g1 gg
  refine lB g1 Jr (Lj hk (λN hN=>hss▸qA 0 done N hN) (by rw[<- hss,hsl]; omega)) (cW:=fZ g (ss++[dM p done.length r]) (fF p []) (dS g.vs kS kL) (done.length+1) (.wl 12 (done.length+1))) ?_ gg
  refine Go.drop (N:=42) 33 ["number","row"] (aY (show 40<42 by decide) (aY (show 12<42 by decide) (Ab (λx hx=>?_) (by decide) (Bn (by decide) .nil) mQ))) (λ_=>by kernel_rfl)
  exact(List.mem_append.mp hx).elim (λh=>qA (p:=p) 0 done 42 (by decide) x (hss▸h)) λh=>by rw[List.mem_singleton.mp h]; exact lz (by decide)
theorem Js:bp (aw p (m+70) (gz p)) (bF p 268).body=bp (aw p (m+70) (gz p)) [bD (j6 p) 0,bD (j6 p) 1,iS p,bD (j6 p) 3,bD (j6 p) 4]:=by kernel_rfl
theorem n6:∀(i:Nat) (l:List Row),(dI p i l).length=l.length
 | _,[]=>rfl
 | i,_::l=>congrArg (· + 1) (n6 (i+1) l)
theorem H9(h:ei g):Go ((RN p (m+72)).call (.val (.ref 268)) [.ref 28,.ref 12,.ref 25,.ref 26] []) ⟨33,kQ g (ib []) dY (dS g.vs (some []) (some [])) t0⟩ (.ref 39) (ph p g (ib []) dY t0):=by
 have hr3:=h.r3
 obtain⟨j,k2,hk,gg⟩:=Ac (p:=p) h.r3 g.rows [] rfl (some []) (.inl rfl) (m+70) (by omega)
 rcases hk with rfl | ⟨_,hk⟩
 ·refine Go.eq (show(RN p (m+72)).call (.val (.ref 268)) [.ref 28,.ref 12,.ref 25,.ref 26] []=fY (RN p (m+71)) (bF p 268) [.ref 28,.ref 12,.ref 25,.ref 26] [] by kernel_rfl)
   (Go.fn (ae:=gz p) (cH:=⟨38,D3 g⟩) (by kernel_rfl) (binds:=[("lexer",.ref 28),("plan",.ref 12),("events",.ref 25),("fuel",.ref 26)]) (by kernel_rfl) (Go.by [] trivial (λ_=>by kernel_rfl)) ?_)
  have hl:(dI p 0 g.rows).length<=M6:=lM (by rw[n6]; omega)
  generalize hss:dI p 0 g.rows=ss at gg hl
  have e:ph p g (ib []) dY t0=⟨42,runC g (ss++[eF p]) (ib []) dY (hG g.vs) t0⟩:=by rw[<- hss]
  rw[e]
  refine Go.bind (b:=.ret (.ref 39)) (aj:=fZ g (ss++[eF p]) (fF p []) (hG g.vs) j .any) (Go.aV (Go.eq Js ?_)) (Go.rt (Go.by [.sel [34,35,36,37,38,39]] trivial (λ_=>by kernel_rfl)))
  exact Go.cons (MU (m:=m+10)) (Go.cons (MV (m:=m+10)) (Go.cons (Go.pe (Jp (m:=m+10)) (Li (m:=m+10)) gg) (Go.cons (aj:=fZ g (ss++[eF p]) (fF p []) (hG g.vs) j .any) (Go.by [] (aa hl trivial) (λ_=>by kernel_rfl)) (Go.stmt (Go.by [] trivial (λ_=>by kernel_rfl))))))
 ·have:=h.r1
  rw[hk] at this
  exact absurd this (by decide)
theorem MW:aw p (m+80) (aT p) (LS p 4)=EM.bind (EM.bind ((RN p (m+79)).ev (aT p) (eB (cU (LS p 4)))) λf=>eX (KK p) (RN p (m+79)) (aT p) f [] (eL (cU (LS p 4))) []) λv=>EM.bind (cb (KK p) (RN p (m+80)) (aT p) v (gU (LS p 4))) λ_=>EM.ret .next:=by kernel_rfl
noncomputable def iT(r:List (Str×AV)):List (Str×AV):=ib (("states",.ref 39)::r)
theorem N7(h:ei g):Go (aw p (m+80) (aT p) (LS p 4)) ⟨33,kQ g (ib []) dY (dS g.vs (some []) (some [])) t0⟩ .next (ph p g (iT []) dY t0):=by
 refine Go.eq MW (Go.bind (b:=.ref 39) (aj:=ph p g (ib []) dY t0) (Go.bind (b:=.val (.ref 268)) (aj:=⟨33,kQ g (ib []) dY (dS g.vs (some []) (some [])) t0⟩) (Go.by [] trivial (λ_=>by kernel_rfl)) (Go.nh (as:=[.ref 28,.ref 12,.ref 25,.ref 26]) (by kernel_rfl) (Go.by [] trivial (λ_=>by kernel_rfl)) (H9 (m:=m+7) h))) (Go.by [] trivial (λ_=>by kernel_rfl)))
end
structure C1 where
 g:G1
 r:List (Str×AV)
 sg:List Sg
 j:Nat
noncomputable def mh(s:Sg):AV:=.eg 79 [.int s.c,.str s.f,.int 1,.int s.r,.val .none]
noncomputable def az(s:Sg):AV:=.obj 138 [("char",.str s.s),("loc",mh s)]
noncomputable def aC(l:List Sg):List AV:=l.map az
theorem eY(l:List Sg):(aC l).length=l.length:=List.length_map ..
theorem gR(a b:List Sg):aC (a++b)=aC a++aC b:=List.map_append ..
theorem nH{s:Sg}:∀N,aL N (mh s):=CL.eg (CL.cons (λ_=>.int _) (CL.cons (λ_=>.str _) (CL.cons (λ_=>.int _) (CL.cons (λ_=>.int _) (CL.cons (λ_=>.val _) CL.nil)))))
theorem dq(s:Sg)(N:Nat):aL N (az s):=.obj λq hq=>by
 rcases List.mem_cons.mp hq with rfl | hq
 ·exact .str _
 ·rcases List.mem_cons.mp hq with rfl | hq
  ·exact nH _
  ·nomatch hq
theorem cy(l:List Sg):CL (aC l):=⟨λx hx N=>by
 obtain⟨s,_,rfl⟩:=List.mem_map.mp hx
 exact dq _ _⟩
structure cR(c:C1):Prop where
 g:ei c.g
 r:aO 45 c.r
 l:c.sg.length<=14
section
variable(p:Params)(c:C1)(gm:List (Str×AV))(it:Cell)(t:T1)
noncomputable def jm:List (Nat×Cell):=(47,.ns gm)::(46,it)::(44,.list (aC c.sg))::(43,.any)::(42,.liter 23 c.j)::runC c.g (ck p c.g) (iT c.r) (fE (.ref 46)) (hG c.g.vs) t
noncomputable def genS:St:=⟨48,jm p c gm it t⟩
end
noncomputable def sB(p:Params):List Stmt:=oz (kR p)
noncomputable abbrev SB(p:Params)(i:Nat):Stmt:=bD (sB p) i
noncomputable def aX(p:Params)(i:Nat)(r:Row):aB:=⟨lJ (kR p),48,[],.none,48,[("window",.ref 38),("twice",.bool r.twice),("states",.ref 39),("signs",r.sg.av),("number",.int i),("lexer",.ref 28),("keeps",.bool r.keeps),("goes",.lst (fh r.goes)),("fuel",.ref 26),("events",.ref 25),("deed",.str r.dd.s),("asks",.bool r.asks)]⟩
noncomputable def fS(p:Params)(c:C1)(gm:List (Str×AV))(am:List (Str×AV))(it:Cell)(t:T1):St:=⟨49,(48,.ns am)::jm p c gm it t⟩
noncomputable def bR(c:C1)(it:Cell)(R:List Sg):Prop:=(it = .lend/\R=[])∨∃j,it = .liter 44 j/\(aC c.sg).drop j=aC R
noncomputable abbrev tR(t:T1)(ct pb:List AV):T1:={ t with ct:=ct,pb:=pb }
structure cZ(t:T1):Prop where
 due:CL t.due
 ev:CL t.ev
 tb:CL t.tb
 le:t.ev.length<=880
 lb:t.tb.length<=880
noncomputable def bq:AV:=.val .none
section
variable{p:Params}{c:C1}{gm am:List (Str×AV)}{t:T1}{it:Cell}{ct pb:List AV}{m N i:Nat}{r:Row}{W P R:List Sg}{s:Sg}
theorem bR.bZ(h:bR c it R):bA 46 it:=by
 rcases h with⟨rfl,_⟩ | ⟨j,rfl,_⟩
 ·trivial
 ·exact(by decide:(44:Nat)<46)
theorem t8{x:Sg}(h:bR c it (x::R)):∃j,it = .liter 44 j/\(aC c.sg)[j]? = some (az x)/\bR c (.liter 44 (j+1)) R:=by
 rcases h with⟨_,h⟩ | ⟨j,rfl,h⟩
 ·cases h
 ·refine⟨j,rfl,?_,.inr ⟨j+1,rfl,?_⟩⟩
  ·have:((aC c.sg).drop j)[0]? = some (az x):=by rw[h]; rfl
   simpa using this
  ·rw[<- List.tail_drop,h]; rfl
theorem uL(h:bR c it []):it = .lend∨∃j,it = .liter 44 j/\(aC c.sg)[j]? = none:=by
 rcases h with⟨rfl,_⟩ | ⟨j,rfl,h⟩
 ·exact .inl rfl
 ·refine .inr ⟨j,rfl,?_⟩
  have:((aC c.sg).drop j)[0]? = none:=by rw[h]; rfl
  simpa using this
theorem cZ.ok(h:cZ t)(hc:CL ct)(hp:CL pb):bU (tR t ct pb):=⟨h.due,h.ev,h.tb,hp,hc⟩
theorem qT{r:List (Str×AV)}(hN:40<=N)(h:aO N r):aO N (iT r):=Bk (by omega) (.cons (.ref (by omega)) h)
theorem qB{g:G1}(hN:40<=N):∀x∈ck p g,aL N x:=λx hx=>(List.mem_append.mp hx).elim (qA 0 g.rows N hN x) λh=>by rw[List.mem_singleton.mp h]; exact mP hN
theorem n7(hc:cR c)(h:bU t)(hi:bA 46 it)(hN:48<=N)(hg:aO N gm):UC N (jm p c gm it t) :=
 aY (eZ hg) (aY (hi.mono (by omega)) (aY (dJ (cy _)) (aY trivial (aY (show 23<N by omega) (qm h (qB (by omega)) (by omega) (qT (by omega) (hc.r.mono (by omega))) (Bm (by omega) (.ref (by omega))) mQ)))))
theorem mi{j:Nat}:bA 46 (.liter 44 j):=show 44<46 by decide
theorem ju:bA 46 .lend:=trivial
theorem mj{x:AV}{xs:List AV}(h:xs.length<=900):(x::xs).length<=M6:=by rw[List.length_cons]; unfold M6; omega
theorem ml{x:AV}{xs:List AV}(h:xs.length<=900):(x::xs).length<4611686018427387904:=by rw[List.length_cons]; omega
theorem eW:0<4611686018427387904:=by decide
theorem CL.one{xs:List AV}(h:CL xs)(s:Sg):CL (xs++[az s]):=h.app (CL.cons (dq s) CL.nil)
end
noncomputable def pB:List Sg->AV
 | []=>bq
 | x::_=>az x
noncomputable def rO(W:List Sg):List Sg->List Sg
 | []=>W
 | x::_=>W++[x]
theorem ua{β:Type}{x:EM β}{c:C1}{t:T1}{S:Cell->T1->St}{S':AV->Cell->T1->St}{f:AV->β}
  (h1:∀(it:Cell) (ct pb:List AV) (s:Sg),bA 46 it->CL ct->CL pb->ct.length<=900->pb.length<=900->Go x (S it (tR t ct (az s::pb))) (f (az s)) (S' (az s) it (tR t (ct++[az s]) pb)))
  (h2:∀(ct:List AV) (s:Sg) (j:Nat),CL ct->ct.length<=900->(aC c.sg)[j]? = some (az s)->Go x (S (.liter 44 j) (tR t ct [])) (f (az s)) (S' (az s) (.liter 44 (j+1)) (tR t (ct++[az s]) [])))
  (h3:∀(ct:List AV) (j:Nat),CL ct->(aC c.sg)[j]? = none->Go x (S (.liter 44 j) (tR t ct [])) (f bq) (S' bq .lend (tR t ct [])))
  (h4:∀(ct:List AV),CL ct->Go x (S .lend (tR t ct [])) (f bq) (S' bq .lend (tR t ct [])))
  {it:Cell} {W P R:List Sg} (hi:bR c it R) (hl:W.length+P.length+R.length<=900) :
  ∃it' P' R',(P++R).tail=P'++R'/\bR c it' R'/\Go x (S it (tR t (aC W) (aC P))) (f (pB (P++R))) (S' (pB (P++R)) it' (tR t (aC (rO W (P++R))) (aC P'))):=by
 have cw:=cy W
 have e1:=eY W
 cases P with
 | cons s P =>
  refine⟨it,P,R,rfl,hi,?_⟩
  show Go x (S it (tR t (aC W) (az s::aC P))) (f (az s)) (S' (az s) it (tR t (aC (W++[s])) (aC P)))
  rw[gR]
  exact h1 it _ _ s hi.bZ cw (cy _) (by omega) (by rw[eY]; simp only[List.length_cons] at hl; omega)
 | nil =>
  cases R with
  | cons s R =>
   obtain⟨j,rfl,hj,hi'⟩:=t8 hi
   refine⟨.liter 44 (j+1),[],R,rfl,hi',?_⟩
   show Go x (S (.liter 44 j) (tR t (aC W) [])) (f (az s)) (S' (az s) (.liter 44 (j+1)) (tR t (aC (W++[s])) []))
   rw[gR]
   exact h2 _ s j cw (by omega) hj
  | nil =>
   refine⟨.lend,[],[],rfl,.inl ⟨rfl,rfl⟩,?_⟩
   show Go x (S it (tR t (aC W) [])) (f bq) (S' bq .lend (tR t (aC W) []))
   rcases uL hi with rfl | ⟨j,rfl,hj⟩
   ·exact h4 _ cw
   ·exact h3 _ j cw hj
noncomputable def dj(q:ez)(d:Nat):Bool:=_root_.cond q.lst ((fN (bW q.ds)).any λy=>y == (⟨#[d]⟩:Str)) (Txt.contains (tS q.ds) ⟨#[d]⟩)
noncomputable abbrev SC(q:ez)(P:Prop):Prop:=_root_.cond q.lst ((∀y∈bW q.ds,(strAt y).isSome=true)/\P) P
theorem sc{q:ez}{P:Prop}(h:P):SC q P:=by
 obtain⟨b,ds⟩:=q
 cases b with
 | true=>exact⟨λy hy=>by obtain⟨d,_,rfl⟩:=List.mem_map.mp hy; rfl,h⟩
 | false=>exact h
noncomputable def mn(q:ez):List Sg->Bool
 | []=>false
 | s::_=>dj q s.d
noncomputable def mq(q:ez)(W:List Sg):List Sg->List Sg
 | []=>W
 | s::_=>_root_.cond (dj q s.d) (W++[s]) W
noncomputable def mr(q:ez):List Sg->List Sg
 | []=>[]
 | s::V=>_root_.cond (dj q s.d) V (s::V)
noncomputable def vN(q:ez)(r:List (Str×AV)):List (Str×AV):=("valid",q.av)::("self",.ref 28)::r
section
variable{p:Params}{c:C1}{gm am:List (Str×AV)}{t:T1}{it:Cell}{ct pb:List AV}{m N i:Nat}{r:Row}{W P R:List Sg}{s:Sg}
section
variable(p:Params)(c:C1)(gm am:List (Str×AV))(r:Row)(it:Cell)(s:Sg)
noncomputable abbrev QY(t:T1):Prop:=true=true/\SC r.sg (dj r.sg s.d=true/\true=true/\UV 49 (.bool true) (fS p c gm am it t).objs/\True)
noncomputable abbrev QN(ct pb:List AV)(t:T1):Prop:=true=true/\SC r.sg (dj r.sg s.d=false/\false=false/\true=true/\(ct++[az s]).length<=M6/\ct++[az s]=ct++[az s]/\pb.length<=M6 /\
 UV 50 bq ((49,.ns (vN r.sg [("char",az s)]))::(fS p c gm am it (tR t ct (az s::pb))).objs)/\UV 49 (.bool false) (fS p c gm am it (tR t ct (az s::pb))).objs/\True)
end
theorem cK(hc:cR c)(h:bU t)(hi:bA 46 it)(hN:49<=N)(hg:aO 49 gm)(ha:aO 49 am):UC N (fS p c gm am it t).objs:=aY (eZ (ha.mono hN)) (n7 hc h hi (by omega) (hg.mono hN))
theorem vG{q:ez}{x:List (Str×AV)}(hN:49<=N)(h:aO N x):aO N (vN q x):=.cons (q.bZ _) (.cons (.ref (by omega)) h)
theorem qy(hc:cR c)(h:bU t)(hi:bA 46 it)(hg:aO 49 gm)(ha:aO 49 am)(hs:dj r.sg s.d=true):QY p c gm am r it s t:=⟨rfl,sc ⟨hs,rfl,⟨.bool _,cK hc h hi (Nat.le_refl _) hg ha⟩,trivial⟩⟩
theorem qn(hc:cR c)(h:cZ t)(hi:bA 46 it)(hg:aO 49 gm)(ha:aO 49 am)(c1:CL ct)(c2:CL pb)(l1:ct.length<=900)(l2:pb.length<=900)(hs:dj r.sg s.d=false):QN p c gm am r it s ct pb t :=
 ⟨rfl,sc ⟨hs,rfl,rfl,by rw[List.length_append,List.length_singleton]; unfold M6; omega,rfl,lM l2,⟨.val _,aY (eZ (vG (by decide) (.cons (dq s _) .nil))) (cK hc (h.ok c1 (CL.cons (dq s) c2)) hi (by decide) hg ha)⟩,⟨.bool _,cK hc (h.ok c1 (CL.cons (dq s) c2)) hi (Nat.le_refl _) hg ha⟩,trivial⟩⟩
theorem CC(hc:cR c)(h:cZ t)(hg:aO 49 gm)(ha:aO 49 am)(hi:bR c it R)(hl:W.length+P.length+R.length<=900):
  ∃it' P' R',P'++R' = mr r.sg (P++R)/\bR c it' R'/\Go ((RN p (m+60)).tst (aX p i r) (e9 (SB p 3))) (fS p c gm am it (tR t (aC W) (aC P))) (mn r.sg (P++R)) (fS p c gm am it' (tR t (aC (mq r.sg W (P++R))) (aC P'))):=by
 obtain⟨sg,dd,as,ke,tw,go⟩:=r
 have cw:=cy W
 have e1:=eY W
 have u50:∀{it ct pb},bA 46 it->CL ct->CL pb->UC 50 ((49,.ns (vN sg []))::(fS p c gm am it (tR t ct pb)).objs):=λhi c1 c2=>aY (eZ (vG (by decide) .nil)) (cK hc (h.ok c1 c2) hi (by decide) hg ha)
 cases P with
 | cons s P =>
  have l2:(aC P).length<=900:=by rw[eY]; simp only[List.length_cons] at hl; omega
  have c0:UV 50 (az s) ((49,.ns (vN sg []))::(fS p c gm am it (tR t (aC W++[az s]) (aC P))).objs):=⟨dq s _,u50 hi.bZ (cw.one s) (cy _)⟩
  cases hb:dj sg s.d with
  | true =>
   refine⟨it,P,R,by rw[List.cons_append,mr,hb]; rfl,hi,?_⟩
   rw[List.cons_append,mn,mq,hb,cond_true,gR]
   have q:=qy (p:=p) (r:=⟨sg,dd,as,ke,tw,go⟩) (s:=s) hc (h.ok (cw.one s) (cy P)) hi.bZ hg ha hb
   obtain⟨lst,ds⟩:=sg
   cases lst <;> exact Go.by [.b true,.cut (aC P) (az s),.b true,.b false,.b false,.norm,.b true,.b true,.b true,.norm] (aa (ml (x:=az s) l2) <| aa rt <| aa (mj (x:=az s) l2) <| aa (Eq.refl (az s::aC P)) <| aa rt <| aa (show(aC W).length<=M6 from lM (by omega)) <| aa rf <| aa rf <| aa c0 q) (λ_=>by kernel_rfl)
  | false =>
   refine⟨it,s::P,R,by rw[List.cons_append,mr,hb]; rfl,hi,?_⟩
   rw[List.cons_append,mn,mq,hb,cond_false]
   have q:=qn (p:=p) (r:=⟨sg,dd,as,ke,tw,go⟩) (s:=s) hc h hi.bZ hg ha cw (cy P) (by omega) l2 hb
   obtain⟨lst,ds⟩:=sg
   cases lst <;> exact Go.by [.b true,.cut (aC P) (az s),.b true,.b false,.b false,.norm,.b true,.b false,.b false,.b true,.cut (aC W) (az s),.norm,.norm] (aa (ml (x:=az s) l2) <| aa rt <| aa (mj (x:=az s) l2) <| aa (Eq.refl (az s::aC P)) <| aa rt <| aa (show(aC W).length<=M6 from lM (by omega)) <| aa rf <| aa rf <| aa c0 q) (λ_=>by kernel_rfl)
 | nil =>
  cases R with
  | cons s R =>
   obtain⟨j,rfl,hj,hi'⟩:=t8 hi
   have c0:UV 50 (az s) ((49,.ns (vN sg []))::(fS p c gm am (.liter 44 (j+1)) (tR t (aC W++[az s]) [])).objs):=⟨dq s _,u50 mi (cw.one s) CL.nil⟩
   cases hb:dj sg s.d with
   | true =>
    refine⟨.liter 44 (j+1),[],R,by rw[List.nil_append,List.nil_append,mr,hb]; rfl,hi',?_⟩
    rw[List.nil_append,mn,mq,hb,cond_true,gR]
    have q:=qy (p:=p) (r:=⟨sg,dd,as,ke,tw,go⟩) (s:=s) (it:=.liter 44 (j+1)) hc (h.ok (cw.one s) (pb:=[]) CL.nil) mi hg ha hb
    obtain⟨lst,ds⟩:=sg
    cases lst <;> exact Go.by [.b false,.cut [] (az s),.b true,.b false,.b false,.norm,.b true,.b true,.b true,.norm] (aa eW <| aa rf <| aa hj <| aa rt <| aa (show(aC W).length<=M6 from lM (by omega)) <| aa rf <| aa rf <| aa c0 q) (λ_=>by kernel_rfl)
   | false =>
    refine⟨.liter 44 (j+1),[s],R,by rw[List.nil_append,mr,hb]; rfl,hi',?_⟩
    rw[List.nil_append,mn,mq,hb,cond_false]
    have q:=qn (p:=p) (r:=⟨sg,dd,as,ke,tw,go⟩) (s:=s) (it:=.liter 44 (j+1)) (pb:=[]) hc h mi hg ha cw CL.nil (by omega) (by decide) hb
    obtain⟨lst,ds⟩:=sg
    cases lst <;> exact Go.by [.b false,.cut [] (az s),.b true,.b false,.b false,.norm,.b true,.b false,.b false,.b true,.cut (aC W) (az s),.norm,.norm] (aa eW <| aa rf <| aa hj <| aa rt <| aa (show(aC W).length<=M6 from lM (by omega)) <| aa rf <| aa rf <| aa c0 q) (λ_=>by kernel_rfl)
  | nil =>
   refine⟨.lend,[],[],rfl,.inl ⟨rfl,rfl⟩,?_⟩
   have cE:UV 50 bq ((49,.ns (vN sg []))::(fS p c gm am .lend (tR t (aC W) [])).objs)/\false=false/\false=false/\false=false/\UV 50 bq ((49,.ns (vN sg [("char",bq)]))::(fS p c gm am .lend (tR t (aC W) [])).objs)/\UV 49 (.bool false) (fS p c gm am .lend (tR t (aC W) [])).objs/\True :=
    ⟨⟨.val _,u50 ju cw CL.nil⟩,rfl,rfl,rfl,⟨.val _,aY (eZ (vG (by decide) (.cons (.val _) .nil))) (cK hc (h.ok cw CL.nil) ju (by decide) hg ha)⟩,⟨.bool _,cK hc (h.ok cw CL.nil) ju (Nat.le_refl _) hg ha⟩,trivial⟩
   rcases uL hi with rfl | ⟨j,rfl,hj⟩
   ·exact Go.by [.b false,.b false,.b false,.b false,.norm,.b false,.b false,.b false,.norm,.norm] (aa eW <| aa rf <| aa rf <| aa rf <| aa rf cE) (λ_=>by kernel_rfl)
   ·exact Go.by [.b false,.b false,.b false,.b false,.b false,.norm,.b false,.b false,.b false,.norm,.norm] (aa eW <| aa rf <| aa hj <| aa rf <| aa rf <| aa rf cE) (λ_=>by kernel_rfl)
end
noncomputable def bj(i:Nat):AV:=.tup [.str "state",.int i]
noncomputable def bB(q:ez):List Sg->List Sg×List Sg
 | []=>([],[])
 | s::U=>_root_.cond (dj q s.d) (s::(bB q U).1,(bB q U).2) ([],s::U)
theorem rp{q:ez}{s:Sg}{U:List Sg}(h:dj q s.d=true):bB q (s::U)=(s::(bB q U).1,(bB q U).2):=by rw[bB,h]; rfl
theorem rq{q:ez}{s:Sg}{U:List Sg}(h:dj q s.d=false):bB q (s::U)=([],s::U):=by rw[bB,h]; rfl
noncomputable abbrev mu(p:Params)(xs:List AV):Str:=Txt.join (Str.ofString "") (i0 (KK p) (Str.ofString "char") xs)
noncomputable abbrev f6(s:Sg)(ty x:Str):AV:=.eg 47 [mh s,.str ty,.str x]
theorem zf(p:Params)(s:Sg):i6 (KK p) (Str.ofString "char") (az s)=some s.s:=by kernel_rfl
section
variable(p:Params)(W:List Sg)
theorem yr:i0 (KK p) (Str.ofString "char") (aC W)=(W.map (·.d)).map λd=>(⟨#[d]⟩:Str):=by
 unfold i0 aC
 rw[List.map_map,List.map_map]
 refine List.map_congr_left λs _=>?_
 show(i6 (KK p) (Str.ofString "char") (az s)).getD Str.empty=⟨#[s.d]⟩
 rw[zf]; rfl
theorem Bo:mu p (aC W)=tS (W.map (·.d)):=by
 show Txt.join (Str.ofString "") (i0 (KK p) (Str.ofString "char") (aC W))=_
 rw[yr,join_one]
theorem Fs:∀y∈aC W,(i6 (KK p) (Str.ofString "char") y).isSome=true:=λy hy=>by
 obtain⟨s,_,rfl⟩:=List.mem_map.mp hy
 rw[zf]; rfl
theorem Jt(hn:W.length<=900):JoinOk (Str.ofString "") (i0 (KK p) (Str.ofString "char") (aC W))=true:=by
 rw[yr]
 exact z5 _ (by rw[List.length_map]; exact hn)
end
noncomputable abbrev w0(x y:AV):Prop:=(0:Int)<=0/\(0:Int)<1000000/\some x=some x∨(0:Int) = -1/\some x=some y
theorem nI{x y:AV}:w0 x y:=.inl ⟨by decide,by decide,rfl⟩
noncomputable def wg(s:Sg)(ty x:Str):Nat×Cell:=(49,.ns [("typ",.str ty),("self",.ref 28),("val",.str x),("loc",mh s)])
section
variable{p:Params}{c:C1}{gm am:List (Str×AV)}{t:T1}{it:Cell}{ct pb:List AV}{m N i n:Nat}{r:Row}{W P R U:List Sg}{s:Sg}{ty:Str}{y:AV}
theorem wJ(h:t.ev.length<=900):Go (aw p (m+60) (aX p i r) (SB p 0)) (fS p c gm am it t) .next (fS p c gm am it { t with ev:=t.ev++[bj i] }):=Go.by [] (aa (show 2<=M6 by decide) <| aa (show t.ev.length<=M6 from lM h) trivial) (λ_=>by kernel_rfl)
theorem Dv:Go (aw p (m+60) (aX p i r) (SB p 1)) (fS p c gm am it { t with fuel:=n+1 }) .next (fS p c gm am it { t with fuel:=n+1 }):=Go.by [.cut [] (.int (n+1:Nat)),.b false] (aa (show 1<=M6 by decide) <| aa (nI (x:=.int (n+1:Nat)) (y:=.int (n+1:Nat))) <| aa (show(((n+1:Nat):Int) == 0)=false by simp; omega) trivial) (λ_=>by kernel_rfl)
theorem MX(h:(ck p c.g).length<=900):Go (aw p (m+60) (aX p i r) (SB p 1)) (fS p c gm am it { t with fuel:=0 }) (.ret (eF p)) (fS p c gm am it { t with fuel:=0 }):=by
 have hl:((0:Int)<=-1/\(-1:Int)<1000000/\(ck p c.g)[0]? = some (eF p))∨(-1:Int) = -1/\(ck p c.g)[(ck p c.g).length - 1]? = some (eF p):=.inr ⟨rfl,by rw[List.length_append,List.length_singleton,Nat.add_sub_cancel,List.getElem?_append_right (Nat.le_refl _),Nat.sub_self]; rfl⟩
 exact Go.by [.cut [] (.int (0:Nat)),.b true,.cut [] (eF p)] (aa (show 1<=M6 by decide) <| aa (nI (x:=.int (0:Nat)) (y:=.int (0:Nat))) <| aa (show((0:Int) == 0)=true by decide) <| aa (show(ck p c.g).length<=M6 from lM h) <| aa hl trivial) (λ_=>by kernel_rfl)
theorem D4:Go (aw p (m+60) (aX p i r) (SB p 2)) (fS p c gm am it { t with fuel:=n+1 }) .next (fS p c gm am it { t with fuel:=n }):=by
 have e:fS p c gm am it { t with fuel:=n } = fS p c gm am it { t with fuel:=n }:=rfl
 have g:=Go.by (x:=aw p (m+60) (aX p i r) (SB p 2)) (J:=fS p c gm am it { t with fuel:=n+1 }) (b:=.next) (aj:=⟨49,(48,.ns am)::(47,.ns gm)::(46,it)::(44,.list (aC c.sg))::(43,.any)::(42,.liter 23 c.j)::(39,.list (ck p c.g))::(38,.list [.int t.bY])::rF ((32,.list t.ct)::(31,.list t.pb)::(30,.list t.tb)::(28,.inst 230 27)::(27,.dict (fE (.ref 46)))::(26,.list [.int (((n+1:Nat):Int) - 1)])::(25,.list t.ev)::(24,.list t.due)::we c.g (iT c.r) (hG c.g.vs))⟩)
  [.cut [] (.int (n+1:Nat))] (aa (show 1<=M6 by decide) <| aa (nI (x:=.int (n+1:Nat)) (y:=.int (n+1:Nat))) <| aa (show 1<=M6 by decide) <| aa (show(0:Int)<=0/\(0:Int)<1 by decide) trivial) (λ_=>by kernel_rfl)
 rw[show((n+1:Nat):Int) - 1=(n:Int) by omega] at g
 exact g
theorem N8:Go ((RN p (m+60)).aV (aX p i r) (fP (SB p 3))) (fS p c gm am it { t with bY:=n }) .next (fS p c gm am it { t with bY:=n+1 }):=Go.by [.cut [] (.int n)] (aa (show 1<=M6 by decide) <| aa (nI (x:=.int n) (y:=.int n)) <| aa (show 1<=M6 by decide) <| aa (show(0:Int)<=0/\(0:Int)<1 by decide) trivial) (λ_=>by kernel_rfl)
theorem Dw:aw p (m+60) (aX p i r) (SB p 3)=(RN p (m+60)).loop (aX p i r) (e9 (SB p 3)) (fP (SB p 3)):=by kernel_rfl
theorem cZ.bY(h:cZ t):cZ { t with bY:=n }:=⟨h.due,h.ev,h.tb,h.le,h.lb⟩
theorem uM(hc:cR c)(hg:aO 49 gm)(ha:aO 49 am):∀(U:List Sg) (W P R:List Sg) (e:P++R=U) (it:Cell) (hi:bR c it R) (t:T1) (h:cZ t) (n:Nat) (hl:W.length+U.length<=900) (M:Nat) (hM:61+U.length<=M),
  ∃it' P' R',P'++R' = (bB r.sg U).2/\bR c it' R'/\Go ((RN p M).loop (aX p i r) (e9 (SB p 3)) (fP (SB p 3))) (fS p c gm am it (tR { t with bY:=n } (aC W) (aC P))) .next (fS p c gm am it' (tR { t with bY:=n+(bB r.sg U).1.length } (aC (W++(bB r.sg U).1)) (aC P')))
 | [],W,P,R,e,it,hi,t,h,n,hl,M,hM=>by
  obtain⟨m,rfl⟩:∃m,M=m+60+1:=⟨M - 61,by omega⟩
  obtain⟨rfl,rfl⟩:=List.append_eq_nil_iff.mp e
  obtain⟨it',P',R',h1,h2,g⟩:=CC (p:=p) (m:=m) (i:=i) (r:=r) (W:=W) (P:=[]) (t:={ t with bY:=n }) hc h.bY hg ha hi (by simpa using hl)
  refine⟨it',P',R',h1,h2,?_⟩
  rw[show(bB r.sg []).1=[] from rfl,List.append_nil]
  exact kA g
 | s::U,W,P,R,e,it,hi,t,h,n,hl,M,hM=>by
  obtain⟨m,rfl⟩:∃m,M=m+60+1:=⟨M - 61,by omega⟩
  have hPR:P.length+R.length=U.length+1:=by have:=congrArg List.length e; rw[List.length_append] at this; exact this
  rw[List.length_cons] at hl hM
  obtain⟨it',P',R',h1,h2,g⟩:=CC (p:=p) (m:=m) (i:=i) (r:=r) (W:=W) (P:=P) (t:={ t with bY:=n }) hc h.bY hg ha hi (by omega)
  rw[e] at h1 g
  cases hb:dj r.sg s.d with
  | true =>
   rw[mr,hb,cond_true] at h1
   rw[mn,mq,hb,cond_true] at g
   obtain⟨it2,P2,R2,q1,q2,g2⟩:=uM hc hg ha U (W++[s]) P' R' h1 it' h2 t h (n+1) (by rw[List.length_append,List.length_singleton]; omega) (m+60) (by omega)
   refine⟨it2,P2,R2,by rw[rp hb]; exact q1,q2,?_⟩
   rw[rp hb]
   rw[List.append_assoc,Nat.add_assoc,Nat.add_comm 1] at g2
   exact n5 g (N8 (t:=tR t (aC (W++[s])) (aC P'))) g2
  | false =>
   rw[mr,hb,cond_false] at h1
   rw[mn,mq,hb,cond_false] at g
   refine⟨it',P',R',by rw[rq hb]; exact h1,h2,?_⟩
   rw[rq hb,List.append_nil]
   exact kA g
noncomputable abbrev N9(p:Params)(c:C1)(gm am:List (Str×AV))(it:Cell)(s:Sg)(ct pb:List AV)(ty:Str)(t:T1):Prop :=
 (az s::ct).length<=M6/\((∀y∈az s::ct,(i6 (KK p) (Str.ofString "char") y).isSome=true)/\JoinOk (Str.ofString "") (i0 (KK p) (Str.ofString "char") (az s::ct))=true/\(az s::ct).length<=M6) /\
 (az s::ct).length<=M6/\((0:Int)<=0/\(0:Int)<1000000/\some (az s)=some (az s)∨(0:Int) = -1/\(az s::ct)[(az s::ct).length - 1]? = some (az s))/\true=true /\
 UV 52 bq ((51,.sinst 47 50 [some (mh s),some (.str ty),some (.str (mu p (az s::ct)))])::(50,.dict [])::wg s ty (mu p (az s::ct))::(fS p c gm am it (tR t (az s::ct) pb)).objs) /\
 ((50<=51/\50<=50/\50<=52)/\UV 50 (f6 s ty (mu p (az s::ct))) (wg s ty (mu p (az s::ct))::(fS p c gm am it (tR t (az s::ct) pb)).objs)) /\
 t.tb.length<=M6/\(az s::ct).length<=M6/\UV 49 bq (fS p c gm am it (tR { t with tb:=t.tb++[f6 s ty (mu p (az s::ct))] } [] pb)).objs/\1<=M6/\((0:Int)<=0/\(0:Int)<1)/\True
theorem oW{x:Str}:CL [f6 s ty x]:=CL.cons (CL.eg (CL.cons nH (CL.cons (λ_=>.str _) (CL.cons (λ_=>.str _) CL.nil)))) CL.nil
theorem D5(hc:cR c)(h:cZ t)(hg:aO 49 gm)(ha:aO 49 am)(hi:bA 46 it)(hp:CL pb)(hW:(s::W).length<=900):N9 p c gm am it s (aC W) pb ty t:=by
 have l1:(az s::aC W).length<=M6:=lM (by rw[List.length_cons,eY]; exact hW)
 have u49:∀{N},49<=N->UC N (wg s ty (mu p (az s::aC W))::(fS p c gm am it (tR t (az s::aC W) pb)).objs):=λhN =>
  aY (eZ (.cons (.str _) (.cons (.ref (by omega)) (.cons (.str _) (.cons (nH _) .nil))))) (cK hc (h.ok (cy (s::W)) hp) hi hN hg ha)
 exact⟨l1,⟨Fs p (s::W),Jt p (s::W) hW,l1⟩,l1,.inl ⟨Int.le_refl _,by decide,rfl⟩,rfl,
  ⟨.val _,aY (xU (by decide) (CL.cons nH (CL.cons (λ_=>.str _) (CL.cons (λ_=>.str _) CL.nil)))) (aY (qc .nil) (u49 (by decide)))⟩,
  ⟨by decide,oW.all _ (.head _) _,u49 (by decide)⟩,lM (Nat.le_trans h.lb (by decide)),l1,⟨.val _,cK hc (bU.mk h.due h.ev (h.tb.app oW) hp CL.nil) hi (Nat.le_refl _) hg ha⟩,by decide,by decide,trivial⟩
noncomputable abbrev hH(e:Nat):Str:=Str.ofString (toString (Int.ofNat e))
theorem qC{i:Nat}(x:Str)(h:i<=3)(hx:x.length<=900):x.length+(hH i).length<=M6:=by
 have:(hH i).length<=9:=by rcases(by omega:i=0∨i=1∨i=2∨i=3) with rfl | rfl | rfl | rfl <;> decide +kernel
 unfold M6
 omega
theorem rG:aw p (m+60) (aX p i r) (SB p 4)=cF ((RN p (m+60)).tst (aX p i r) (fO (SB p 4))) ((RN p (m+60)).aV (aX p i r) (e8 (SB p 4))) ((RN p (m+60)).aV (aX p i r) (lR (SB p 4))):=by kernel_rfl
theorem Dx:aw p (m+60) (aX p i r) (SB p 5)=cF ((RN p (m+60)).tst (aX p i r) (fO (SB p 5))) ((RN p (m+60)).aV (aX p i r) (e8 (SB p 5))) ((RN p (m+60)).aV (aX p i r) (lR (SB p 5))):=by kernel_rfl
noncomputable def jv:jl->Bool
 | .emit=>true
 | _=>false
noncomputable def Dy:jl->Bool
 | .ignore=>true
 | _=>false
theorem MY:Go ((RN p (m+60)).tst (aX p i r) (fO (SB p 4))) (fS p c gm am it { t with bY:=n }) (jv r.dd && decide (0<n)) (fS p c gm am it { t with bY:=n }):=by
 obtain⟨sg,dd,as,ke,tw,go⟩:=r
 cases dd with
 | emit =>
  have e:decide ((n:Int) > 0)=decide (0<n):=by simp
  show Go _ _ (decide (0<n)) _
  rw[<- e]
  have c0:∀b,decide ((n:Int) > 0)=b->true=true/\1<=M6/\w0 (.int n) (.int n)/\decide ((n:Int) > 0)=b/\True:=λb h=>⟨rfl,by decide,nI,h,trivial⟩
  cases hb:decide ((n:Int) > 0) with
  | true=>exact Go.by [.b true,.cut [] (.int n),.b true] (c0 true hb) (λ_=>by kernel_rfl)
  | false=>exact Go.by [.b true,.cut [] (.int n),.b false] (c0 false hb) (λ_=>by kernel_rfl)
 | ignore=>exact Go.by [.b false] (aa rf trivial) (λ_=>by kernel_rfl)
 | leave=>exact Go.by [.b false] (aa rf trivial) (λ_=>by kernel_rfl)
theorem MZ(hc:cR c)(h:cZ t)(hg:aO 49 gm)(ha:aO 49 am)(hi:bR c it R)(hp:CL pb)(hW:(s::W).length<=900)(h3:i<=3):Go ((RN p (m+60)).aV (aX p i r) (e8 (SB p 4))) (fS p c gm am it (tR t (aC (s::W)) pb)) .next
  (fS p c gm am it (tR { t with tb:=t.tb++[f6 s ("run"++hH i) (tS ((s::W).map (·.d)))],bY:=0 } [] pb)):=by
 rw[<- Bo p (s::W)]
 have c0:(0:Int)<=i/\(i:Int)<9223372036854775808:=by omega
 have c1:=D5 (p:=p) (ty:="run"++hH i) hc h hg ha hi.bZ hp hW
 rcases hi with⟨rfl,_⟩ | ⟨j,rfl,_⟩ <;> exact Go.by [.cut [] (az s),.b true,.norm,.norm,.norm] (aa c0 <| aa (qC "run" h3 (by decide)) c1) (λ_=>by kernel_rfl)
theorem wh{J:St}:Go ((RN p (m+60)).aV (aX p i r) (lR (SB p 4))) J .next J:=Go.by [] trivial (λ_=>by kernel_rfl)
theorem Lk{J:St}:Go ((RN p (m+60)).aV (aX p i r) (lR (SB p 5))) J .next J:=Go.by [] trivial (λ_=>by kernel_rfl)
theorem Dz{J:St}:Go ((RN p (m+60)).tst (aX p i r) (fO (SB p 5))) J (Dy r.dd) J:=by
 obtain⟨sg,dd,as,ke,tw,go⟩:=r
 cases dd with
 | emit=>exact Go.by [] trivial (λ_=>by kernel_rfl)
 | ignore=>exact Go.by [] trivial (λ_=>by kernel_rfl)
 | leave=>exact Go.by [] trivial (λ_=>by kernel_rfl)
theorem M0(hc:cR c)(h:cZ t)(hg:aO 49 gm)(ha:aO 49 am)(hi:bA 46 it)(hp:CL pb)(hct:CL ct)(hl:ct.length<=900):Go ((RN p (m+60)).aV (aX p i r) (e8 (SB p 5))) (fS p c gm am it (tR t ct pb)) .next (fS p c gm am it (tR { t with bY:=0 } [] pb)) :=
 Go.by [.norm] (aa (show ct.length<=M6 from lM hl) <| aa (show UV 49 bq (fS p c gm am it (tR t [] pb)).objs from⟨.val _,cK hc (h.ok CL.nil hp) hi (Nat.le_refl _) hg ha⟩) <| aa (show 1<=M6 by decide) <| aa (show(0:Int)<=0/\(0:Int)<1 by decide) trivial) (λ_=>by kernel_rfl)
end
noncomputable def ie:jl->Bool
 | .leave=>true
 | _=>false
noncomputable def cS(r:Row)(i:Nat)(W:List Sg):List (Str×List Sg):=_root_.cond (jv r.dd && decide (0<W.length)) [("run"++hH i,W)] []
noncomputable def w2(r:Row)(W:List Sg):List Sg:=_root_.cond (ie r.dd) W []
noncomputable def gI:Str×List Sg->AV
 | (_,[])=>bq
 | (ty,s::W)=>f6 s ty (tS ((s::W).map (·.d)))
theorem uN(l:List (Str×List Sg)):CL (l.map gI):=⟨λx hx N=>by
 obtain⟨⟨ty,W⟩,_,rfl⟩:=List.mem_map.mp hx
 cases W with
 | nil=>exact .val _
 | cons s W=>exact oW.all _ (.head _) N⟩
noncomputable abbrev tT(t:T1)(l:List (Str×List Sg))(n:Nat):T1:={ t with tb:=t.tb++l.map gI,bY:=n }
section
variable{p:Params}{c:C1}{gm am:List (Str×AV)}{t:T1}{it:Cell}{ct pb:List AV}{m N i n:Nat}{r:Row}{W P R U V:List Sg}{s:Sg}{ty:Str}{y:AV}
theorem DA(hc:cR c)(h:cZ t)(hg:aO 49 gm)(ha:aO 49 am)(hi:bR c it R)(hp:CL pb)(hW:W.length<=900)(h3:i<=3)(hb:t.tb.length<=870):
  ∃au,Go (aw p (m+60) (aX p i r) (SB p 4)) (fS p c gm am it (tR { t with bY:=W.length } (aC W) pb)) .next au/\Go (aw p (m+60) (aX p i r) (SB p 5)) au .next (fS p c gm am it (tR (tT t (cS r i W) (w2 r W).length) (aC (w2 r W)) pb)):=by
 have g4:=MY (p:=p) (c:=c) (gm:=gm) (am:=am) (it:=it) (t:=tR t (aC W) pb) (i:=i) (r:=r) (n:=W.length) (m:=m)
 have no5:Dy r.dd=false->∀J,Go (aw p (m+60) (aX p i r) (SB p 5)) J .next J:=λe J=>Go.eq Dx (Go.br Dz (by rw[e]; exact Lk))
 have e0:∀n,tT t [] n = { t with bY:=n }:=λn=>by show({ t with tb:=t.tb++[],bY:=n }:T1)=_; rw[List.append_nil]
 obtain⟨sg,dd,as,ke,tw,go⟩:=r
 cases dd with
 | leave =>
  show ∃au,_/\Go _ au _ (fS p c gm am it (tR (tT t [] W.length) (aC W) pb))
  rw[e0]
  exact⟨_,Go.eq rG (Go.br g4 wh),no5 rfl _⟩
 | ignore =>
  show ∃au,_/\Go _ au _ (fS p c gm am it (tR (tT t [] 0) (aC []) pb))
  rw[e0]
  exact⟨_,Go.eq rG (Go.br g4 wh),Go.eq Dx (Go.br Dz (M0 (t:={ t with bY:=W.length }) hc h.bY hg ha hi.bZ hp (cy W) (by rw[eY]; exact hW)))⟩
 | emit =>
  cases W with
  | nil =>
   show ∃au,_/\Go _ au _ (fS p c gm am it (tR (tT t [] 0) (aC []) pb))
   rw[e0]
   exact⟨_,Go.eq rG (Go.br g4 wh),no5 rfl _⟩
  | cons s W =>
   have g:=MZ (p:=p) (m:=m) (i:=i) (r:=⟨sg,.emit,as,ke,tw,go⟩) (t:={ t with bY:=(s::W).length }) hc h.bY hg ha hi hp hW h3
   exact⟨_,Go.eq rG (Go.br g4 (by rw[show(jv jl.emit && decide (0<(s::W).length))=true by simp[jv]]; exact g)),no5 rfl _⟩
noncomputable abbrev sgn(v:AV):List (Str×AV):=[("sign",v)]
theorem DB(hc:cR c)(h:cZ t)(hg:aO 49 gm)(hr:r.asks=false)(hi:bR c it R)(hl:W.length+P.length+R.length<=900):
  ∃it' P' R',(P++R).tail=P'++R'/\bR c it' R'/\Go (aw p (m+60) (aX p i r) (SB p 6)) (fS p c gm [] it (tR t (aC W) (aC P))) .next (fS p c gm (sgn (pB (P++R))) it' (tR t (aC (rO W (P++R))) (aC P'))):=by
 obtain⟨sg,dd,as,ke,tw,go⟩:=r
 cases hr
 exact ua (c:=c) (t:=t) (x:=aw p (m+60) (aX p i ⟨sg,dd,false,ke,tw,go⟩) (SB p 6)) (S:=λit t=>fS p c gm [] it t) (S':=λv it t=>fS p c gm (sgn v) it t) (f:=λ_=>.next)
  (λit ct pb s ui c1 c2 l1 l2=>Go.by [.b true,.cut pb (az s),.b true,.b false,.b false,.norm] (aa (ml (x:=az s) l2) <| aa rt <| aa (mj (x:=az s) l2) <| aa (Eq.refl (az s::pb)) <| aa rt <| aa (show ct.length<=M6 from lM l1) <| aa rf <| aa rf <|
   aa (show UV 49 (az s) (fS p c gm [] it (tR t (ct++[az s]) pb)).objs from⟨dq _ _,cK hc (h.ok (c1.one s) c2) ui (Nat.le_refl _) hg .nil⟩) trivial) (λ_=>by kernel_rfl))
  (λct s j c1 l1 hj=>Go.by [.b false,.cut [] (az s),.b true,.b false,.b false,.norm] (aa eW <| aa rf <| aa hj <| aa rt <| aa (show ct.length<=M6 from lM l1) <| aa rf <| aa rf <|
   aa (show UV 49 (az s) (fS p c gm [] (.liter 44 (j+1)) (tR t (ct++[az s]) [])).objs from⟨dq _ _,cK hc (h.ok (c1.one s) CL.nil) mi (Nat.le_refl _) hg .nil⟩) trivial) (λ_=>by kernel_rfl))
  (λct j c1 hj=>Go.by [.b false,.b false,.b false,.b false,.b false,.norm] (aa eW <| aa rf <| aa hj <| aa rf <| aa rf <| aa rf <|
   aa (show UV 49 bq (fS p c gm [] .lend (tR t ct [])).objs from⟨.val _,cK hc (h.ok c1 CL.nil) ju (Nat.le_refl _) hg .nil⟩) trivial) (λ_=>by kernel_rfl))
  (λct c1=>Go.by [.b false,.b false,.b false,.b false,.norm] (aa eW <| aa rf <| aa rf <| aa rf <| aa rf <|
   aa (show UV 49 bq (fS p c gm [] .lend (tR t ct [])).objs from⟨.val _,cK hc (h.ok c1 CL.nil) ju (Nat.le_refl _) hg .nil⟩) trivial) (λ_=>by kernel_rfl))
  hi hl
theorem M1(hc:cR c)(h:cZ t)(hg:aO 49 gm)(hr:r.asks=true)(hi:bR c it R)(hl:W.length+P.length+R.length<=900)(e:P++R=s::V):
  ∃it' P' R',V=P'++R'/\bR c it' R'/\Go (aw p (m+60) (aX p i r) (SB p 6)) (fS p c gm [] it (tR t (aC W) (aC P))) .next (fS p c gm (sgn (az s)) it' (tR t (aC (W++[s])) (aC P'))):=by
 obtain⟨sg,dd,as,ke,tw,go⟩:=r
 cases hr
 have cw:=cy W
 have e1:=eY W
 cases P with
 | cons s' P =>
  injection e with e2 e3
  subst e2 e3
  refine⟨it,P,R,rfl,hi,?_⟩
  have l2:(aC P).length<=900:=by rw[eY]; simp only[List.length_cons] at hl; omega
  rw[gR]
  exact Go.by [.b true,.cut (aC P) (az s'),.b true,.b true,.b false,.b false,.norm] (aa (ml (x:=az s') l2) <| aa rt <| aa (mj (x:=az s') l2) <| aa (Eq.refl (az s'::aC P)) <| aa rt <| aa (show(aC W).length<=M6 from lM (by omega)) <| aa rt <| aa rf <| aa rf <|
   aa (show UV 49 (az s') (fS p c gm [] it (tR t (aC W++[az s']) (aC P))).objs from⟨dq _ _,cK hc (h.ok (cw.one s') (cy _)) hi.bZ (Nat.le_refl _) hg .nil⟩) trivial) (λ_=>by kernel_rfl)
 | nil =>
  rw[List.nil_append] at e
  subst e
  obtain⟨j,rfl,hj,hi'⟩:=t8 hi
  refine⟨.liter 44 (j+1),[],V,rfl,hi',?_⟩
  rw[gR]
  exact Go.by [.b false,.cut [] (az s),.b true,.b true,.b false,.b false,.norm] (aa eW <| aa rf <| aa hj <| aa rt <| aa (show(aC W).length<=M6 from lM (by omega)) <| aa rt <| aa rf <| aa rf <|
   aa (show UV 49 (az s) (fS p c gm [] (.liter 44 (j+1)) (tR t (aC W++[az s]) [])).objs from⟨dq _ _,cK hc (h.ok (cw.one s) CL.nil) mi (Nat.le_refl _) hg .nil⟩) trivial) (λ_=>by kernel_rfl)
theorem M3{J:St}:Go (aw p (m+60) (aX p i r) (SB p 7)) (fS p c gm (sgn (az s)) it t) .next (fS p c gm (sgn (az s)) it t):=Go.by [.b false] (aa rf trivial) (λ_=>by kernel_rfl)
noncomputable def bS(p:Params)(g:G1)(i:Nat):AV:=match g.rows[i]? with
 | some r=>dM p i r
 | none=>eF p
theorem uO{g:G1}{i:Nat}(h:i<=g.rows.length):(ck p g)[i]? = some (bS p g i):=by
 unfold bS
 have key:∀(rs:List Row) (k i:Nat),i<rs.length->(dI p k rs)[i]? = (rs[i]?).map (dM p (k+i)):=λrs=>by
  induction rs with
  | nil=>exact λk i h=>absurd h (Nat.not_lt_zero _)
  | cons r rs ih =>
   intro k i h
   cases i with
   | zero=>rfl
   | succ i =>
    show(dI p (k+1) rs)[i]? = (rs[i]?).map _
    rw[ih (k+1) i (Nat.lt_of_succ_lt_succ h),show k+1+i=k+(i+1) by omega]
 rcases Nat.lt_or_ge i g.rows.length with q | q
 ·rw[List.getElem?_append_left (by rw[n6]; exact q),key g.rows 0 i q,List.getElem?_eq_getElem q,Nat.zero_add]
  rfl
 ·rw[List.getElem?_eq_none q]
  have e:i=(dI p 0 g.rows).length:=by rw[n6]; omega
  rw[e,List.getElem?_append_right (Nat.le_refl _),Nat.sub_self]
  rfl
theorem qD{g:G1}(h:g.rows.length<=3):(ck p g).length<=900:=by rw[List.length_append,n6,List.length_singleton]; omega
theorem M4{g:Nat}(hr:r.goes[4]? = some g)(hg:g<=c.g.rows.length)(h3:c.g.rows.length<=3):Go (aw p (m+60) (aX p i r) (SB p 7)) (fS p c gm (sgn bq) it t) (.ret (bS p c.g g)) (fS p c gm (sgn bq) it t):=by
 have h1:(0:Int)<=4/\(4:Int)<1000000/\(fh r.goes)[4]? = some (.int (g:Int)):=⟨by decide,by decide,by rw[List.getElem?_map,hr]; rfl⟩
 have h2:((0:Int)<=(g:Int)/\(g:Int)<1000000/\(ck p c.g)[g]? = some (bS p c.g g))∨(g:Int) = -1/\(ck p c.g)[(ck p c.g).length - 1]? = some (bS p c.g g):=.inl ⟨by omega,by omega,uO hg⟩
 exact Go.by [.b true,.cut [] (.int (g:Int)),.cut [] (bS p c.g g)] (aa rt <| aa h1 <| aa (show(ck p c.g).length<=M6 from lM (qD h3)) <| aa h2 trivial) (λ_=>by kernel_rfl)
noncomputable def DD(p:Params):Array DictEntry:=(um (KK p) (.ref 235)).getD #[]
theorem vH:vh (PyData.keyHash p) (DD p).toList:=⟨⟨by kernel_rfl,by kernel_rfl⟩,⟨by kernel_rfl,by kernel_rfl⟩,⟨by kernel_rfl,by kernel_rfl⟩,⟨by kernel_rfl,by kernel_rfl⟩,trivial⟩
noncomputable def num(s:Sg):Nat:=s.d - 97
theorem uP{s:Sg}(h:fW s):(findBy Value.isStrOf (DD p) s.s).map iZ=some (.int (num s)):=by
 obtain⟨d,r,c,f⟩:=s
 rcases h with h | h | h | h <;> cases h <;> kernel_rfl
theorem oD{s:Sg}(h:fW s):num s<4:=by
 unfold num
 rcases h with h | h | h | h <;> rw[h] <;> decide
theorem wK{g:Nat}{e:List (Str×AV)}(hs:fW s)(hr:r.goes[num s]? = some g)(hg:g<=c.g.rows.length)(h3:c.g.rows.length<=3):Go (aw p (m+60) (aX p i r) (SB p 9)) (fS p c gm (("sign",az s)::e) it t) (.ret (bS p c.g g)) (fS p c gm (("sign",az s)::e) it t):=by
 have h1:(0:Int)<=(num s:Int)/\(num s:Int)<1000000/\(fh r.goes)[num s]? = some (.int (g:Int)):=⟨by omega,by have:=oD hs; omega,by rw[List.getElem?_map,hr]; rfl⟩
 have h2:((0:Int)<=(g:Int)/\(g:Int)<1000000/\(ck p c.g)[g]? = some (bS p c.g g))∨(g:Int) = -1/\(ck p c.g)[(ck p c.g).length - 1]? = some (bS p c.g g):=.inl ⟨by omega,by omega,uO hg⟩
 exact Go.by [.cut [] (.int (num s)),.cut [] (.int (g:Int)),.cut [] (bS p c.g g)] (aa (vH (p:=p)) <| aa (uP (p:=p) hs) <| aa h1 <| aa (show(ck p c.g).length<=M6 from lM (qD h3)) <| aa h2 trivial) (λ_=>by kernel_rfl)
end
noncomputable abbrev fq(v w:AV):List (Str×AV):=[("sign",v),("ahead",w)]
noncomputable abbrev KB(p:Params)(i:Nat):Stmt:=bD (e8 (SB p 8)) i
noncomputable abbrev KE(p:Params)(i:Nat):Stmt:=bD (lR (SB p 8)) i
section
variable{p:Params}{c:C1}{gm am:List (Str×AV)}{t:T1}{it:Cell}{ct pb:List AV}{m N i n:Nat}{r:Row}{W P R U V:List Sg}{s a:Sg}{ty:Str}{y v:AV}
noncomputable abbrev BK(p:Params)(c:C1)(gm am:List (Str×AV))(it:Cell)(t:T1)(ct pb:List AV)(s:Sg)(R:Prop):Prop:=true=true/\(ct++[az s]).length<=M6/\ct++[az s]=ct++[az s]/\pb.length<=M6/\UV 49 bq (fS p c gm am it (tR t ct (az s::pb))).objs/\R
theorem bk{Q:Prop}(hc:cR c)(h:cZ t)(hg:aO 49 gm)(ha:aO 49 am)(hi:bA 46 it)(c1:CL ct)(c2:CL pb)(l1:ct.length<=900)(l2:pb.length<=900)(q:Q):BK p c gm am it t ct pb s Q :=
 ⟨rfl,by rw[List.length_append,List.length_singleton]; unfold M6; omega,rfl,lM l2,⟨.val _,cK hc (h.ok c1 (CL.cons (dq s) c2)) hi (Nat.le_refl _) hg ha⟩,q⟩
theorem oE(h:∀N,aL N v):aO 49 (fq (az s) v):=.cons (dq s _) (.cons (h _) .nil)
theorem M5(hc:cR c)(h:cZ t)(hg:aO 49 gm)(hk:r.keeps=false)(ht:r.twice=false)(hi:bA 46 it)(c2:CL pb)(l1:W.length<=900)(l2:pb.length<=900):Go (aw p (m+60) (aX p i r) (SB p 8)) (fS p c gm (sgn (az s)) it (tR t (aC (W++[s])) pb)) .next (fS p c gm (fq (az s) bq) it (tR t (aC W) (az s::pb))):=by
 obtain⟨sg,dd,as,ke,tw,go⟩:=r
 cases hk
 cases ht
 have l1':(aC W).length<=900:=by rw[eY]; exact l1
 rw[gR]
 exact Go.by [.b true,.b false,.b false,.norm,.b true,.cut (aC W) (az s),.norm] (aa rt <| aa rf <| aa rf <| aa (show UV 49 bq (fS p c gm (fq (az s) bq) it (tR t (aC W++[az s]) pb)).objs from⟨.val _,cK hc (h.ok ((cy W).one s) c2) hi (Nat.le_refl _) hg (oE λ_=>.val _)⟩) <|
  bk (p:=p) (am:=fq (az s) bq) (s:=s) hc h hg (oE λ_=>.val _) hi (cy W) c2 l1' l2 trivial) (λ_=>by kernel_rfl)
theorem DE:aw p (m+61) (aX p i r) (SB p 8)=cF ((RN p (m+61)).tst (aX p i r) (fO (SB p 8))) ((RN p (m+61)).aV (aX p i r) (e8 (SB p 8))) ((RN p (m+61)).aV (aX p i r) (lR (SB p 8))):=by kernel_rfl
theorem DF{J:St}:Go ((RN p (m+61)).tst (aX p i r) (fO (SB p 8))) J (!r.keeps) J:=by
 obtain⟨sg,dd,as,ke,tw,go⟩:=r
 cases ke <;> exact Go.by [] trivial (λ_=>by kernel_rfl)
theorem M7:(RN p (m+61)).aV (aX p i r) (e8 (SB p 8))=bp (aw p (m+60) (aX p i r)) [KB p 0,KB p 1,KB p 2]:=by kernel_rfl
theorem M8:(RN p (m+61)).aV (aX p i r) (lR (SB p 8))=bp (aw p (m+60) (aX p i r)) [KE p 0,KE p 1]:=by kernel_rfl
theorem M9(hc:cR c)(h:cZ t)(hg:aO 49 gm)(ht:r.twice=true)(hi:bR c it R)(hl:W.length+P.length+R.length<=900):
  ∃it' P' R',(P++R).tail=P'++R'/\bR c it' R'/\Go (aw p (m+60) (aX p i r) (KB p 0)) (fS p c gm (sgn (az s)) it (tR t (aC W) (aC P))) .next (fS p c gm (fq (az s) (pB (P++R))) it' (tR t (aC (rO W (P++R))) (aC P'))):=by
 obtain⟨sg,dd,as,ke,tw,go⟩:=r
 cases ht
 have ha:aO 49 (sgn (az s)):=.cons (dq s _) .nil
 exact ua (c:=c) (t:=t) (x:=aw p (m+60) (aX p i ⟨sg,dd,as,ke,true,go⟩) (KB p 0)) (S:=λit t=>fS p c gm (sgn (az s)) it t) (S':=λv it t=>fS p c gm (fq (az s) v) it t) (f:=λ_=>.next)
  (λit ct pb a ui c1 c2 l1 l2=>Go.by [.b true,.b true,.cut pb (az a),.b true,.b false,.b false,.norm] (aa rt <| aa (ml (x:=az a) l2) <| aa rt <| aa (mj (x:=az a) l2) <| aa (Eq.refl (az a::pb)) <| aa rt <| aa (show ct.length<=M6 from lM l1) <| aa rf <| aa rf <|
   aa (show UV 49 (az a) (fS p c gm (sgn (az s)) it (tR t (ct++[az a]) pb)).objs from⟨dq _ _,cK hc (h.ok (c1.one a) c2) ui (Nat.le_refl _) hg ha⟩) trivial) (λ_=>by kernel_rfl))
  (λct a j c1 l1 hj=>Go.by [.b true,.b false,.cut [] (az a),.b true,.b false,.b false,.norm] (aa rt <| aa eW <| aa rf <| aa hj <| aa rt <| aa (show ct.length<=M6 from lM l1) <| aa rf <| aa rf <|
   aa (show UV 49 (az a) (fS p c gm (sgn (az s)) (.liter 44 (j+1)) (tR t (ct++[az a]) [])).objs from⟨dq _ _,cK hc (h.ok (c1.one a) CL.nil) mi (Nat.le_refl _) hg ha⟩) trivial) (λ_=>by kernel_rfl))
  (λct j c1 hj=>Go.by [.b true,.b false,.b false,.b false,.b false,.b false,.norm] (aa rt <| aa eW <| aa rf <| aa hj <| aa rf <| aa rf <| aa rf <|
   aa (show UV 49 bq (fS p c gm (sgn (az s)) .lend (tR t ct [])).objs from⟨.val _,cK hc (h.ok c1 CL.nil) ju (Nat.le_refl _) hg ha⟩) trivial) (λ_=>by kernel_rfl))
  (λct c1=>Go.by [.b true,.b false,.b false,.b false,.b false,.norm] (aa rt <| aa eW <| aa rf <| aa rf <| aa rf <| aa rf <|
   aa (show UV 49 bq (fS p c gm (sgn (az s)) .lend (tR t ct [])).objs from⟨.val _,cK hc (h.ok c1 CL.nil) ju (Nat.le_refl _) hg ha⟩) trivial) (λ_=>by kernel_rfl))
  hi hl
theorem Na(hc:cR c)(h:cZ t)(hg:aO 49 gm)(hk:r.keeps=false)(ht:r.twice=true)(hi:bR c it R)(hl:W.length+P.length+R.length<=890):
  ∃v it' P' R',P'++R' = s::(P++R)/\bR c it' R'/\(∀N,aL N v)/\Go (aw p (m+61) (aX p i r) (SB p 8)) (fS p c gm (sgn (az s)) it (tR t (aC (W++[s])) (aC P))) .next (fS p c gm (fq (az s) v) it' (tR t (aC W) (aC P'))):=by
 obtain⟨it',P',R',h1,h2,g0⟩:=M9 (p:=p) (s:=s) (i:=i) (m:=m) (W:=W++[s]) (P:=P) hc h hg ht hi (by rw[List.length_append,List.length_singleton]; omega)
 have g8:∀{J aj:St},Go (bp (aw p (m+60) (aX p i r)) [KB p 0,KB p 1,KB p 2]) J .next aj->Go (aw p (m+61) (aX p i r) (SB p 8)) J .next aj:=λg=>Go.eq DE (Go.br DF (by rw[hk]; exact Go.eq M7 g))
 have c1:(aC W).length<=900:=by rw[eY]; omega
 have b2:∀{it v P},bA 46 it->(∀N,aL N v)->P.length<=900->Go (aw p (m+60) (aX p i r) (KB p 2)) (fS p c gm (fq (az s) v) it (tR t (aC W++[az s]) (aC P))) .next (fS p c gm (fq (az s) v) it (tR t (aC W) (aC (s::P)))):=λ{it v P} hi hv hp =>
  Go.by [.b true,.cut (aC W) (az s),.norm] (bk (p:=p) (am:=fq (az s) v) (s:=s) hc h hg (oE hv) hi (cy W) (cy P) c1 (by rw[eY]; exact hp) trivial) (λ_=>by kernel_rfl)
 rw[gR] at g0 ⊢
 have hPR:P.length+R.length=(P++R).length:=(List.length_append ..).symm
 generalize P++R=U at h1 g0 hPR
 have e2:=congrArg List.length h1
 rw[List.length_tail,List.length_append] at e2
 cases U with
 | nil =>
  obtain⟨rfl,rfl⟩:=List.append_eq_nil_iff.mp h1.symm
  refine⟨bq,it',[s],[],rfl,h2,λ_=>.val _,g8 (Go.cons g0 (Go.cons (aj:=fS p c gm (fq (az s) bq) it' (tR t (aC W++[az s]) (aC []))) ?_ (Go.stmt (b2 h2.bZ (λ_=>.val _) (by decide)))))⟩
  show Go _ (fS p c gm (fq (az s) bq) it' (tR t (aC (W++[s])) (aC []))) _ _
  rw[gR]
  exact Go.by [.b false,.norm] (aa rf <| aa (show UV 49 bq (fS p c gm (fq (az s) bq) it' (tR t (aC W++[az s]) (aC []))).objs from⟨.val _,cK hc (h.ok ((cy W).one s) (cy [])) h2.bZ (Nat.le_refl _) hg (oE λ_=>.val _)⟩) trivial) (λ_=>by kernel_rfl)
 | cons a U =>
  rw[List.tail_cons] at h1
  rw[List.length_cons] at e2 hPR
  refine⟨az a,it',s::a::P',R',by rw[List.cons_append,List.cons_append,<- h1],h2,dq a,g8 (Go.cons g0 (Go.cons (aj:=fS p c gm (fq (az s) (az a)) it' (tR t (aC W++[az s]) (aC (a::P')))) ?_ (Go.stmt (b2 h2.bZ (dq a) (by rw[List.length_cons]; omega)))))⟩
  show Go _ (fS p c gm (fq (az s) (az a)) it' (tR t (aC ((W++[s])++[a])) (aC P'))) _ _
  rw[gR,gR]
  exact Go.by [.b true,.cut (aC W++[az s]) (az a),.norm] (bk (p:=p) (am:=fq (az s) (az a)) (s:=a) hc h hg (oE (dq a)) h2.bZ ((cy W).one s) (cy P') (by rw[List.length_append,eY,List.length_singleton]; omega) (by rw[eY]; omega) trivial) (λ_=>by kernel_rfl)
theorem Nb:Go (aw p (m+60) (aX p i r) (KE p 0)) (fS p c gm am it { t with bY:=n }) .next (fS p c gm am it { t with bY:=n+1 }):=Go.by [.cut [] (.int n)] (aa (show 1<=M6 by decide) <| aa (nI (x:=.int n) (y:=.int n)) <| aa (show 1<=M6 by decide) <| aa (show(0:Int)<=0/\(0:Int)<1 by decide) trivial) (λ_=>by kernel_rfl)
theorem Ll{J:St}(ht:r.twice=false):Go (aw p (m+60) (aX p i r) (KE p 1)) J .next J:=by
 obtain⟨sg,dd,as,ke,tw,go⟩:=r
 cases ht
 exact Go.by [.b false] (aa rf trivial) (λ_=>by kernel_rfl)
theorem Lm(hc:cR c)(h:cZ t)(hg:aO 49 gm)(ha:aO 49 am)(ht:r.twice=true)(hi:bR c it R)(hp:CL pb)(hW:(s::W).length<=900)(h3:i<=3):Go (aw p (m+60) (aX p i r) (KE p 1)) (fS p c gm am it (tR t (aC (s::W)) pb)) .next
  (fS p c gm am it (tR { t with tb:=t.tb++[f6 s ("one"++hH i) (tS ((s::W).map (·.d)))],bY:=0 } [] pb)):=by
 obtain⟨sg,dd,as,ke,tw,go⟩:=r
 cases ht
 rw[<- Bo p (s::W)]
 have c0:(0:Int)<=i/\(i:Int)<9223372036854775808:=by omega
 have c1:=D5 (p:=p) (ty:="one"++hH i) hc h hg ha hi.bZ hp hW
 rcases hi with⟨rfl,_⟩ | ⟨j,rfl,_⟩ <;> exact Go.by [.b true,.cut [] (az s),.b true,.norm,.norm,.norm] (aa rt <| aa c0 <| aa (qC "one" h3 (by decide)) c1) (λ_=>by kernel_rfl)
noncomputable def k1(r:Row)(i:Nat)(W:List Sg):List (Str×List Sg):=_root_.cond r.twice [("one"++hH i,W)] []
noncomputable def k2(r:Row)(W:List Sg):List Sg:=_root_.cond r.twice [] W
theorem Ln(hc:cR c)(h:cZ t)(hg:aO 49 gm)(hk:r.keeps=true)(hi:bR c it R)(hp:CL pb)(hW:W.length<=890)(h3:i<=3):Go (aw p (m+61) (aX p i r) (SB p 8)) (fS p c gm (sgn (az s)) it (tR { t with bY:=W.length } (aC (W++[s])) pb)) .next
  (fS p c gm (sgn (az s)) it (tR (tT t (k1 r i (W++[s])) (k2 r (W++[s])).length) (aC (k2 r (W++[s]))) pb)):=by
 have ha:aO 49 (sgn (az s)):=.cons (dq s _) .nil
 suffices q:Go (aw p (m+60) (aX p i r) (KE p 1)) (fS p c gm (sgn (az s)) it (tR { t with bY:=W.length+1 } (aC (W++[s])) pb)) .next (fS p c gm (sgn (az s)) it (tR (tT t (k1 r i (W++[s])) (k2 r (W++[s])).length) (aC (k2 r (W++[s]))) pb)) from
  Go.eq DE (Go.br DF (by rw[hk]; exact Go.eq M8 (Go.cons (Nb (t:=tR t (aC (W++[s])) pb)) (Go.stmt q))))
 have e1:W.length+1=(W++[s]).length:=by rw[List.length_append]; rfl
 rw[e1]
 cases ht:r.twice with
 | false =>
  rw[show k1 r i (W++[s])=[] by rw[k1,ht]; rfl,show k2 r (W++[s])=W++[s] by rw[k2,ht]; rfl]
  show Go _ _ _ (fS p c gm (sgn (az s)) it (tR { t with tb:=t.tb++[],bY:=(W++[s]).length } (aC (W++[s])) pb))
  rw[List.append_nil]
  exact Ll ht
 | true =>
  rw[show k1 r i (W++[s])=[("one"++hH i,W++[s])] by rw[k1,ht]; rfl,show k2 r (W++[s])=[] by rw[k2,ht]; rfl]
  have hl:(W++[s]).length<=891:=by omega
  generalize W++[s]=X at *
  cases X with
  | nil=>cases e1
  | cons a X=>exact Lm (t:={ t with bY:=(a::X).length }) hc h.bY hg ha ht hi hp (by omega) h3
end
structure NX where
 tk:List (Str×List Sg)
 st:Nat
 W:List Sg
 V:List Sg
noncomputable def d8(r:Row)(i:Nat)(W U:List Sg):Option NX:=match (bB r.sg U).2 with
 | []=>_root_.cond r.asks none (some ⟨cS r i (W++(bB r.sg U).1),r.goes.getD 4 0,w2 r (W++(bB r.sg U).1),[]⟩)
 | s::V=>_root_.cond r.keeps (some ⟨cS r i (W++(bB r.sg U).1)++k1 r i (w2 r (W++(bB r.sg U).1)++[s]),r.goes.getD (num s) 0,k2 r (w2 r (W++(bB r.sg U).1)++[s]),V⟩)
  (some ⟨cS r i (W++(bB r.sg U).1),r.goes.getD (num s) 0,w2 r (W++(bB r.sg U).1),s::V⟩)
noncomputable abbrev tM(t:T1)(ev:List AV)(fuel:Nat)(tb:List AV)(bY:Nat)(W P:List Sg):T1:=⟨t.due,ev,fuel,tb,aC P,aC W,bY⟩
noncomputable def wL(p:Params)(i:Nat)(r:Row):cG:=⟨lQ (kR p),sB p,lJ (kR p),[],[],.none,(aX p i r).fz⟩
theorem lK(q:ez):∀U,(bB q U).1++(bB q U).2=U
 | []=>rfl
 | s::U=>by
  cases h:dj q s.d with
  | true=>rw[rp h]; exact congrArg (s::·) (lK q U)
  | false=>rw[rq h]; rfl
theorem n8{k:Nat}{r:Row}(h:jg k r){j:Nat}(hj:j<5):r.goes[j]? = some (r.goes.getD j 0)/\r.goes.getD j 0<=k:=by
 have hl:j<r.goes.length:=by rw[h.len]; exact hj
 have e:r.goes.getD j 0=r.goes[j]:=by rw[List.getD_eq_getElem?_getD,List.getElem?_eq_getElem hl]; rfl
 rw[e,List.getElem?_eq_getElem hl]
 exact⟨rfl,h.le _ (List.getElem_mem hl)⟩
theorem CD(r:Row)(W:List Sg):(w2 r W).length<=W.length:=by
 unfold w2
 cases ie r.dd
 ·exact Nat.zero_le _
 ·exact Nat.le_refl _
theorem qU(r:Row)(i:Nat)(W:List Sg):(cS r i W).length<=1:=by
 unfold cS
 cases(jv r.dd && decide (0<W.length))
 ·exact Nat.zero_le _
 ·exact Nat.le_refl _
theorem vI(r:Row)(i:Nat)(W:List Sg):(k1 r i W).length<=1:=by
 unfold k1
 cases r.twice
 ·exact Nat.zero_le _
 ·exact Nat.le_refl _
section
variable{p:Params}{c:C1}{gm am:List (Str×AV)}{t:T1}{it:Cell}{ct pb ev tb:List AV}{m N i n:Nat}{r:Row}{W P R U V:List Sg}{s a:Sg}{ty:Str}{y v:AV}{x:NX}
theorem Lo:bp (aw p (m+67) (aX p i r)) (sB p)=bp (aw p (m+67) (aX p i r)) ([SB p 0,SB p 1,SB p 2,SB p 3]++([SB p 4,SB p 5]++[SB p 6,SB p 7,SB p 8,SB p 9])):=by kernel_rfl
theorem Ju:bp (aw p (m+67) (aX p i r)) (sB p)=bp (aw p (m+67) (aX p i r)) ([SB p 0,SB p 1]++(sB p).drop 2):=by kernel_rfl
theorem DG{T T':T1}{it':Cell}(hv:aL 48 v)(hc:cR c)(h:bU T')(hi:bA 46 it')(hg:aO 48 gm)(h1:Go (bp (aw p (m+67) (aX p i r)) (sB p)) (fS p c gm [] it T) (.ret v) (fS p c gm am it' T')):Go ((RN p (m+69)).call (dM p i r) [] []) (genS p c gm it T) v (genS p c gm it' T'):=by
 refine Go.eq (show(RN p (m+69)).call (dM p i r) [] []=fY (RN p (m+68)) (wL p i r) [] [] by kernel_rfl) (Go.fn (ae:=aX p i r) (cH:=fS p c gm [] it T) (by kernel_rfl) (binds:=[]) (by kernel_rfl) (Go.by [] trivial (λ_=>by kernel_rfl)) ?_)
 refine Go.bind (b:=.ret v) (aj:=fS p c gm am it' T') (Go.aV (n:=m+67) ?_) (Go.rt (Go.by [.norm] (aa (show UV 48 v (genS p c gm it' T').objs from⟨hv,n7 hc h hi (Nat.le_refl _) hg⟩) trivial) (λ_=>by kernel_rfl)))
 exact h1
theorem s_call(hc:cR c)(hd:CL t.due)(he:CL ev)(hb:CL tb)(hel:ev.length<=870)(hbl:tb.length<=800)(hg:aO 48 gm)(hr:jg c.g.rows.length r)(hi:bR c it R)(hU:∀s∈P++R,fW s)(hl:W.length+P.length+R.length<=20)(h3:i<=3)(hx:d8 r i W (P++R)=some x):
  ∃it' P' R',P'++R' = x.V/\bR c it' R'/\Go ((RN p (m+87)).call (dM p i r) [] []) (genS p c gm it (tM t ev (n+1) tb W.length W P)) (bS p c.g x.st) (genS p c gm it' (tM t (ev++[bj i]) n (tb++x.tk.map gI) x.W.length x.W P')):=by
 have hg9:aO 49 gm:=hg.mono (by decide)
 have hr3:=hc.g.r3
 have he':CL (ev++[bj i]):=he.app (CL.cons (CL.tup (CL.cons (λ_=>.str _) (CL.cons (λ_=>.int _) CL.nil))) CL.nil)
 have hel':(ev++[bj i]).length<=880:=by rw[List.length_append,List.length_singleton]; omega
 have g0:Go (aw p (m+85) (aX p i r) (SB p 0)) (fS p c gm [] it (tM t ev (n+1) tb W.length W P)) .next (fS p c gm [] it (tM t (ev++[bj i]) (n+1) tb W.length W P)):=wJ (m:=m+25) (t:=tM t ev (n+1) tb W.length W P) (show ev.length<=900 by omega)
 generalize ev++[bj i]=ev' at g0 he' hel' ⊢
 have g1:Go (aw p (m+85) (aX p i r) (SB p 1)) (fS p c gm [] it (tM t ev' (n+1) tb W.length W P)) .next (fS p c gm [] it (tM t ev' (n+1) tb W.length W P)):=Dv (m:=m+25) (t:=tM t ev' 0 tb W.length W P)
 have g2:Go (aw p (m+85) (aX p i r) (SB p 2)) (fS p c gm [] it (tM t ev' (n+1) tb W.length W P)) .next (fS p c gm [] it (tM t ev' n tb W.length W P)):=D4 (m:=m+25) (t:=tM t ev' 0 tb W.length W P)
 have hR:∀(f:Nat) (b:List AV) (w:Nat) (A O2:List Sg),CL b->b.length<=880->cZ (tM t ev' f b w A O2):=λf b w A O2 q1 q2=>⟨hd,he',q1,hel',q2⟩
 have hPR:P.length+R.length=(P++R).length:=(List.length_append ..).symm
 have hx':=hx
 generalize eU:P++R=U at hx hU hPR hx'
 obtain⟨it1,P1,R1,e1,hi1,g3⟩:=uM (p:=p) (i:=i) (r:=r) hc hg9 aO.nil U W P R eU it hi (tM t ev' n tb 0 [] []) (hR n tb 0 [] [] hb (by omega)) W.length (by omega) (m+85) (by omega)
 have eS:=congrArg List.length (lK r.sg U)
 have e1l:=congrArg List.length e1
 rw[List.length_append] at eS e1l
 have hT:W.length+(bB r.sg U).1.length=(W++(bB r.sg U).1).length:=(List.length_append ..).symm
 have hVU:∀s∈(bB r.sg U).2,s∈U:=λs hs=>by rw[<- lK r.sg U]; exact List.mem_append_right _ hs
 unfold d8 at hx
 rw[hT] at g3
 generalize W++(bB r.sg U).1=W1 at g3 hT hx
 generalize (bB r.sg U).2=V at e1 e1l eS hVU hx
 have g3':Go (aw p (m+85) (aX p i r) (SB p 3)) (fS p c gm [] it (tM t ev' n tb W.length W P)) .next (fS p c gm [] it1 (tM t ev' n tb W1.length W1 P1)):=Go.eq (Dw (m:=m+25)) g3
 obtain⟨au,g4,g5⟩:∃au,Go (aw p (m+85) (aX p i r) (SB p 4)) (fS p c gm [] it1 (tM t ev' n tb W1.length W1 P1)) .next au/\Go (aw p (m+85) (aX p i r) (SB p 5)) au .next (fS p c gm [] it1 (tM t ev' n (tb++(cS r i W1).map gI) (w2 r W1).length (w2 r W1) P1)) :=
  DA (m:=m+25) (t:=tM t ev' n tb 0 [] []) hc (hR n tb 0 [] [] hb (by omega)) hg9 aO.nil hi1 (cy P1) (by omega) h3 (show tb.length<=870 by omega)
 have hw:=CD r W1
 have hk:=qU r i W1
 generalize cS r i W1=l1 at g5 hx hk
 generalize w2 r W1=W2 at g5 hx hw
 have hb2:CL (tb++l1.map gI):=hb.app (uN l1)
 have hb2l:(tb++l1.map gI).length<=801:=by rw[List.length_append,List.length_map]; omega
 generalize hB:tb++l1.map gI=O2 at g5 hb2 hb2l
 have fin:∀{am it' y b w A Q},aL 48 y->bA 46 it'->CL b->Go (bp (aw p (m+85) (aX p i r)) [SB p 6,SB p 7,SB p 8,SB p 9]) (fS p c gm [] it1 (tM t ev' n O2 W2.length W2 P1)) (.ret y) (fS p c gm am it' (tM t ev' n b w A Q)) ->
   Go ((RN p (m+87)).call (dM p i r) [] []) (genS p c gm it (tM t ev (n+1) tb W.length W P)) y (genS p c gm it' (tM t ev' n b w A Q)):=λ{am it' y b w A Q} q1 q2 q3 g =>
  DG (m:=m+18) (am:=am) q1 hc (bU.mk hd he' q3 (cy _) (cy _)) q2 hg (Go.eq (Lo (m:=m+18)) (Go.app (Go.cons g0 (Go.cons g1 (Go.cons g2 (Go.stmt g3')))) (Go.app (Go.cons g4 (Go.stmt g5)) g)))
 have hst:∀k N,40<=N->aL N (bS p c.g k):=λk N hN=>by
  unfold bS
  cases c.g.rows[k]? with
  | some r=>exact lz hN
  | none=>exact mP hN
 have rk:=hR n O2 W2.length W2 P1 hb2 (by omega)
 cases V with
 | nil =>
  cases ha:r.asks with
  | true=>rw[ha] at hx; exact aJ hx
  | false =>
   rw[ha] at hx
   rw[<- Option.some.inj hx]
   obtain⟨rfl,rfl⟩:=List.append_eq_nil_iff.mp e1
   obtain⟨it2,P2,R2,h1,h2,g6⟩:=DB (p:=p) (m:=m+25) (i:=i) (r:=r) (W:=W2) (P:=[]) hc rk hg9 ha hi1 (by rw[List.length_nil]; omega)
   obtain⟨rfl,rfl⟩:=List.append_eq_nil_iff.mp h1.symm
   have q:=n8 hr (show 4<5 by decide)
   refine⟨it2,[],[],rfl,h2,?_⟩
   rw[hB]
   exact fin (hst _ _ (by decide)) h2.bZ hb2 (Go.cons g6 (Go.iI (M4 (m:=m+25) (t:=tM t ev' n O2 W2.length W2 []) q.1 q.2 hr3)))
 | cons s V =>
  have hs:=hU s (hVU s (.head _))
  rw[List.length_cons] at e1l eS
  have q:=n8 hr (Nat.lt_trans (oD hs) (by decide))
  obtain⟨it2,P2,R2,h1,h2,g6⟩:∃it' P' R',V=P'++R'/\bR c it' R'/\Go (aw p (m+85) (aX p i r) (SB p 6)) (fS p c gm [] it1 (tM t ev' n O2 W2.length W2 P1)) .next (fS p c gm (sgn (az s)) it' (tM t ev' n O2 W2.length (W2++[s]) P')):=by
   cases ha:r.asks with
   | true=>exact M1 (p:=p) (m:=m+25) (i:=i) (r:=r) (W:=W2) (P:=P1) (t:=tM t ev' n O2 W2.length W2 P1) hc rk hg9 ha hi1 (by omega) e1
   | false =>
    have:=DB (p:=p) (m:=m+25) (i:=i) (r:=r) (W:=W2) (P:=P1) (t:=tM t ev' n O2 W2.length W2 P1) hc rk hg9 ha hi1 (by omega)
    rw[e1] at this
    exact this
  have g7:Go (aw p (m+85) (aX p i r) (SB p 7)) (fS p c gm (sgn (az s)) it2 (tM t ev' n O2 W2.length (W2++[s]) P2)) .next (fS p c gm (sgn (az s)) it2 (tM t ev' n O2 W2.length (W2++[s]) P2)):=M3 (m:=m+25) (J:=⟨0,[]⟩)
  have e2l:=congrArg List.length h1
  rw[List.length_append] at e2l
  cases hkp:r.keeps with
  | true =>
   rw[hkp] at hx
   rw[<- Option.some.inj hx]
   refine⟨it2,P2,R2,h1.symm,h2,?_⟩
   have g8:=Ln (p:=p) (m:=m+24) (i:=i) (r:=r) (W:=W2) (s:=s) (t:=tM t ev' n O2 W2.length W2 P2) hc (hR n O2 W2.length W2 P2 hb2 (by omega)) hg9 hkp h2 (cy P2) (by omega) h3
   have hk1:=vI r i (W2++[s])
   rw[List.map_append,<- List.append_assoc,hB]
   exact fin (hst _ _ (by decide)) h2.bZ (hb2.app (uN _)) (Go.cons g6 (Go.cons g7 (Go.cons g8 (Go.stmt (wK (m:=m+25) (e:=[]) hs q.1 q.2 hr3)))))
  | false =>
   rw[hkp] at hx
   rw[<- Option.some.inj hx]
   rw[hB]
   cases htw:r.twice with
   | true =>
    obtain⟨v,it3,P3,R3,h3',h4,hv,g8⟩:=Na (p:=p) (m:=m+24) (i:=i) (r:=r) (W:=W2) (s:=s) (P:=P2) (t:=tM t ev' n O2 W2.length W2 P2) hc (hR n O2 W2.length W2 P2 hb2 (by omega)) hg9 hkp htw h2 (by omega)
    refine⟨it3,P3,R3,by rw[h3',h1],h4,?_⟩
    exact fin (hst _ _ (by decide)) h4.bZ hb2 (Go.cons g6 (Go.cons g7 (Go.cons g8 (Go.stmt (wK (m:=m+25) (e:=[("ahead",v)]) (t:=tM t ev' n O2 W2.length W2 P3) hs q.1 q.2 hr3)))))
   | false =>
    have g8:=M5 (p:=p) (m:=m+25) (i:=i) (r:=r) (W:=W2) (s:=s) (t:=tM t ev' n O2 W2.length W2 P2) hc (hR n O2 W2.length W2 P2 hb2 (by omega)) hg9 hkp htw h2.bZ (cy P2) (by omega) (by rw[eY]; omega)
    refine⟨it2,s::P2,R2,by rw[h1]; rfl,h2,?_⟩
    exact fin (hst _ _ (by decide)) h2.bZ hb2 (Go.cons g6 (Go.cons g7 (Go.cons g8 (Go.stmt (wK (m:=m+25) (e:=[("ahead",bq)]) (t:=tM t ev' n O2 W2.length W2 (s::P2)) hs q.1 q.2 hr3)))))
end
noncomputable def wM(p:Params):List Stmt:=oz (kT p)
noncomputable abbrev LB(p:Params)(i:Nat):Stmt:=bD (wM p) i
noncomputable def iN(p:Params):aB:=⟨lJ (kT p),48,[("window",37),("plan",35),("lexer",34),("events",36)],.none,48,[]⟩
noncomputable def Nc(p:Params):cG:=⟨lQ (kT p),wM p,lJ (kT p),[("window",37),("plan",35),("lexer",34),("events",36)],[],.none,[]⟩
noncomputable def DH:AV->Bool
 | .val _=>true
 | _=>false
section
variable{p:Params}{c:C1}{gm am:List (Str×AV)}{t:T1}{it:Cell}{ct pb ev tb:List AV}{m N i n:Nat}{r:Row}{W P R U V:List Sg}{s a:Sg}{ty:Str}{y v:AV}
theorem fA{i:Nat}(h:CL ev):CL (ev++[bj i]):=h.app (CL.cons (CL.tup (CL.cons (λ_=>.str _) (CL.cons (λ_=>.int _) CL.nil))) CL.nil)
theorem Ia(hc:cR c)(hd:CL t.due)(he:CL ev)(hb:CL tb)(hel:ev.length<=870)(hg:aO 48 gm)(hi:bR c it R):Go ((RN p (m+87)).call (dM p i r) [] []) (genS p c gm it (tM t ev 0 tb n W P)) (eF p) (genS p c gm it (tM t (ev++[bj i]) 0 tb n W P)):=by
 have g0:Go (aw p (m+85) (aX p i r) (SB p 0)) (fS p c gm [] it (tM t ev 0 tb n W P)) .next (fS p c gm [] it (tM t (ev++[bj i]) 0 tb n W P)):=wJ (m:=m+25) (t:=tM t ev 0 tb n W P) (show ev.length<=900 by omega)
 have g1:Go (aw p (m+85) (aX p i r) (SB p 1)) (fS p c gm [] it (tM t (ev++[bj i]) 0 tb n W P)) (.ret (eF p)) (fS p c gm [] it (tM t (ev++[bj i]) 0 tb n W P)):=MX (m:=m+25) (t:=tM t (ev++[bj i]) 0 tb n W P) (qD hc.g.r3)
 exact DG (m:=m+18) (mP (by decide)) hc (bU.mk hd (fA he) hb (cy _) (cy _)) hi.bZ hg (Go.eq (Ju (m:=m+18)) (Go.stop (by exact nofun) (Go.cons g0 (Go.iI g1))))
theorem CE(hc:cR c)(h:cZ t)(hg:aO 49 gm)(hi:bR c it R)(hl:W.length+P.length+R.length<=900):
  ∃it' P' R',(P++R).tail=P'++R'/\bR c it' R'/\Go ((RN p (m+60)).tst (iN p) (e9 (LB p 1))) (fS p c gm [] it (tR t (aC W) (aC P))) (!DH (pB (P++R))) (fS p c gm [] it' (tR t (aC (rO W (P++R))) (aC P'))):=by
 exact ua (c:=c) (t:=t) (x:=(RN p (m+60)).tst (iN p) (e9 (LB p 1))) (S:=λit t=>fS p c gm [] it t) (S':=λ_ it t=>fS p c gm [] it t) (f:=λv=>!DH v)
  (λit ct pb s ui c1 c2 l1 l2=>Go.by [.b true,.cut pb (az s),.b true,.b false,.b false,.norm] (aa (ml (x:=az s) l2) <| aa rt <| aa (mj (x:=az s) l2) <| aa (Eq.refl (az s::pb)) <| aa rt <| aa (show ct.length<=M6 from lM l1) <| aa rf <| aa rf <|
   aa (show UV 49 (az s) (fS p c gm [] it (tR t (ct++[az s]) pb)).objs from⟨dq _ _,cK hc (h.ok (c1.one s) c2) ui (Nat.le_refl _) hg .nil⟩) trivial) (λ_=>by kernel_rfl))
  (λct s j c1 l1 hj=>Go.by [.b false,.cut [] (az s),.b true,.b false,.b false,.norm] (aa eW <| aa rf <| aa hj <| aa rt <| aa (show ct.length<=M6 from lM l1) <| aa rf <| aa rf <|
   aa (show UV 49 (az s) (fS p c gm [] (.liter 44 (j+1)) (tR t (ct++[az s]) [])).objs from⟨dq _ _,cK hc (h.ok (c1.one s) CL.nil) mi (Nat.le_refl _) hg .nil⟩) trivial) (λ_=>by kernel_rfl))
  (λct j c1 hj=>Go.by [.b false,.b false,.b false,.b false,.b false,.norm] (aa eW <| aa rf <| aa hj <| aa rf <| aa rf <| aa rf <|
   aa (show UV 49 bq (fS p c gm [] .lend (tR t ct [])).objs from⟨.val _,cK hc (h.ok c1 CL.nil) ju (Nat.le_refl _) hg .nil⟩) trivial) (λ_=>by kernel_rfl))
  (λct c1=>Go.by [.b false,.b false,.b false,.b false,.norm] (aa eW <| aa rf <| aa rf <| aa rf <| aa rf <|
   aa (show UV 49 bq (fS p c gm [] .lend (tR t ct [])).objs from⟨.val _,cK hc (h.ok c1 CL.nil) ju (Nat.le_refl _) hg .nil⟩) trivial) (λ_=>by kernel_rfl))
  hi hl
theorem Nd:aw p (m+60) (iN p) (LB p 1)=(RN p (m+60)).loop (iN p) (e9 (LB p 1)) (fP (LB p 1)):=by kernel_rfl
theorem Bp(hc:cR c)(h:cZ t)(hg:aO 49 gm):∀(U:List Sg) (W P R:List Sg) (e:P++R=U) (it:Cell) (hi:bR c it R) (hl:W.length+U.length<=900) (M:Nat) (hM:61+U.length<=M),
  ∃it',bR c it' []/\Go ((RN p M).loop (iN p) (e9 (LB p 1)) (fP (LB p 1))) (fS p c gm [] it (tR t (aC W) (aC P))) .next (fS p c gm [] it' (tR t (aC (W++U)) []))
 | [],W,P,R,e,it,hi,hl,M,hM=>by
  obtain⟨m,rfl⟩:∃m,M=m+60+1:=⟨M - 61,by omega⟩
  obtain⟨rfl,rfl⟩:=List.append_eq_nil_iff.mp e
  obtain⟨it',P',R',h1,h2,g⟩:=CE (p:=p) (m:=m) (W:=W) (P:=[]) hc h hg hi (by simpa using hl)
  obtain⟨rfl,rfl⟩:=List.append_eq_nil_iff.mp h1.symm
  refine⟨it',h2,?_⟩
  rw[List.append_nil]
  exact kA g
 | s::U,W,P,R,e,it,hi,hl,M,hM=>by
  obtain⟨m,rfl⟩:∃m,M=m+60+1:=⟨M - 61,by omega⟩
  have hPR:P.length+R.length=U.length+1:=by have:=congrArg List.length e; rw[List.length_append] at this; exact this
  rw[List.length_cons] at hl hM
  obtain⟨it',P',R',h1,h2,g⟩:=CE (p:=p) (m:=m) (W:=W) (P:=P) hc h hg hi (by omega)
  rw[e] at h1 g
  obtain⟨it2,h3,g2⟩:=Bp hc h hg U (W++[s]) P' R' h1.symm it' h2 (by rw[List.length_append,List.length_singleton]; omega) (m+60) (by omega)
  refine⟨it2,h3,?_⟩
  rw[List.append_assoc] at g2
  exact n5 g (f3:=.next) (Go.by [] trivial (λ_=>by kernel_rfl)) g2
theorem Lp:bp (aw p (m+85) (iN p)) (wM p)=bp (aw p (m+85) (iN p)) [LB p 0,LB p 1,LB p 2,LB p 3,LB p 4]:=by kernel_rfl
theorem Jv(hc:cR c)(hd:CL t.due)(he:CL ev)(hb:CL tb)(hel:ev.length<=870)(hbl:tb.length<=800)(hg:aO 48 gm)(hi:bR c it R)(hl:W.length+P.length+R.length<=20):
  ∃it',bR c it' []/\Go ((RN p (m+87)).call (eF p) [] []) (genS p c gm it (tM t ev n tb W.length W P)) bq (genS p c gm it' (tM t (ev++[bj c.g.rows.length]) n tb 0 [] [])):=by
 have hr3:=hc.g.r3
 have hg9:aO 49 gm:=hg.mono (by decide)
 have l0:(a4 c.g.rows).length<=M6:=lM (by rw[List.length_map]; omega)
 have er:((a4 c.g.rows).length:Int)=(c.g.rows.length:Int):=by rw[List.length_map]
 have g0:Go (aw p (m+85) (iN p) (LB p 0)) (fS p c gm [] it (tM t ev n tb W.length W P)) .next (fS p c gm [] it (tM t (ev++[bj c.g.rows.length]) n tb W.length W P)):=by
  have:bj c.g.rows.length = .tup [.str "state",.int ((a4 c.g.rows).length:Int)]:=by rw[er]; rfl
  rw[this]
  exact Go.by [] (aa l0 <| aa (show 2<=M6 by decide) <| aa (show ev.length<=M6 from lM (by omega)) trivial) (λ_=>by kernel_rfl)
 have he':=fA (i:=c.g.rows.length) he
 have hel':(ev++[bj c.g.rows.length]).length<=880:=by rw[List.length_append,List.length_singleton]; omega
 generalize ev++[bj c.g.rows.length]=ev' at g0 he' hel' ⊢
 have rk:∀W P,cZ (tM t ev' n tb W.length W P):=λW P=>⟨hd,he',hb,hel',Nat.le_trans hbl (by decide)⟩
 obtain⟨it',h1,g1⟩:=Bp (p:=p) (t:=tM t ev' n tb W.length W P) hc (rk W P) hg9 (P++R) W P R rfl it hi (by rw[List.length_append]; omega) (m+85) (by rw[List.length_append]; omega)
 refine⟨it',h1,?_⟩
 have hXl:(W++(P++R)).length<=20:=by rw[List.length_append,List.length_append]; omega
 generalize W++(P++R)=X at g1 hXl
 have g2:Go (aw p (m+85) (iN p) (LB p 2)) (fS p c gm [] it' (tM t ev' n tb W.length X [])) .next (fS p c gm [] it' (tM t ev' n tb W.length [] [])):=Go.by [.norm] (aa (show(aC X).length<=M6 from lM (by rw[eY]; omega)) <| aa (show UV 49 bq (fS p c gm [] it' (tM t ev' n tb W.length [] [])).objs from⟨.val _,cK hc (bU.mk hd he' hb CL.nil CL.nil) h1.bZ (Nat.le_refl _) hg9 .nil⟩) trivial) (λ_=>by kernel_rfl)
 have g3:Go (aw p (m+85) (iN p) (LB p 3)) (fS p c gm [] it' (tM t ev' n tb W.length [] [])) .next (fS p c gm [] it' (tM t ev' n tb 0 [] [])):=Go.by [] (aa (show 1<=M6 by decide) <| aa (show(0:Int)<=0/\(0:Int)<1 by decide) trivial) (λ_=>by kernel_rfl)
 refine Go.eq (show(RN p (m+87)).call (eF p) [] []=fY (RN p (m+86)) (Nc p) [] [] by kernel_rfl) (Go.fn (ae:=iN p) (cH:=fS p c gm [] it (tM t ev n tb W.length W P)) (by kernel_rfl) (binds:=[]) (by kernel_rfl) (Go.by [] trivial (λ_=>by kernel_rfl)) ?_)
 refine Go.bind (b:=.ret bq) (aj:=fS p c gm [] it' (tM t ev' n tb 0 [] [])) (Go.aV (n:=m+85) (Go.eq Lp (Go.cons g0 (Go.cons (Go.eq (Nd (m:=m+25)) g1) (Go.cons g2 (Go.cons g3 (Go.stmt (Go.by [] trivial (λ_=>by kernel_rfl))))))))) ?_
 exact Go.rt (Go.by [.norm] (aa (show UV 48 bq (genS p c gm it' (tM t ev' n tb 0 [] [])).objs from⟨.val _,n7 hc (bU.mk hd he' hb CL.nil CL.nil) h1.bZ (Nat.le_refl _) hg⟩) trivial) (λ_=>by kernel_rfl))
end
noncomputable abbrev rH(p:Params)(n:Nat)(ae:aB):Stmt->EM Nat:=uH (KK p) (pd p) (RN p n) (XN p n) ae
section
variable{one:Stmt->EM aU}{xone:Stmt->EM Nat}{st:Stmt}{ss:List Stmt}
theorem X.cons{J aj eV:St}{e:Nat}(h1:Go (one st) J .next aj)(h2:Go (fU one xone ss) aj e eV):Go (fU one xone (st::ss)) J e eV :=
 show Go (EM.bind gB λb=>_root_.cond b (xone st) (EM.bind (one st) λfl=>cj fl (fU one xone ss) (λ_=>EM.fail) EM.fail)) J e eV from Go.word (w:=.b false) (a:=false) rfl (Go.bind (f:=λfl=>cj fl (fU one xone ss) (λ_=>EM.fail) EM.fail) h1 h2)
theorem X.here{J aj:St}{e:Nat}(h:Go (xone st) J e aj):Go (fU one xone (st::ss)) J e aj :=
 show Go (EM.bind gB λb=>_root_.cond b (xone st) (EM.bind (one st) λfl=>cj fl (fU one xone ss) (λ_=>EM.fail) EM.fail)) J e aj from Go.word (w:=.b true) (a:=true) rfl h
end
noncomputable def pj:AV:=.str "Expected a character, but at end of file"
noncomputable def pC(k:Nat)(l:List (Nat×Cell)):List (Nat×Cell):=(56,.tb none)::(55,.tb none)::(54,.list [])::(53,.dict [("msg",pj),("loc",bq),("hints",.ref 54)])::(52,.ns [("hints",.ref 54),("loc",bq),("msg",pj),("self",.ref 51)])::(51,.exc 111 (some 53) (some k)) ::
 (50,.ns [("message",pj),("self",.ref 28),("char",bq),("loc",bq)])::(49,.ns [("eof",.bool false),("self",.ref 28),("char",bq)])::l
section
variable(p:Params)(c:C1)(gm:List (Str×AV))(t:T1)
noncomputable def D6:St:=⟨57,pC 56 ((48,.ns [])::jm p c gm .lend t)⟩
noncomputable def wN:St:=⟨58,(57,.tb none)::pC 57 ((48,.ns [])::jm p c gm .lend t)⟩
end
section
variable{p:Params}{c:C1}{gm am:List (Str×AV)}{t:T1}{it:Cell}{ct pb ev tb:List AV}{m N i n:Nat}{r:Row}{W P R U V:List Sg}{s a:Sg}{ty:Str}{y v:AV}
theorem Nf(hc:cR c)(h:cZ t)(hg:aO 49 gm)(hr:r.asks=true)(hi:bR c it [])(c1:CL ct):Go (rH p (m+60) (aX p i r) (SB p 6)) (fS p c gm [] it (tR t ct [])) 51 (D6 p c gm (tR t ct [])):=by
 obtain⟨sg,dd,as,ke,tw,go⟩:=r
 cases hr
 have u:UV 51 bq ((50,.ns [("message",pj),("self",.ref 28)])::(49,.ns [("eof",.bool false),("self",.ref 28),("char",bq)])::(fS p c gm [] .lend (tR t ct [])).objs) :=
  ⟨.val _,aY (eZ (.cons (.str _) (.cons (.ref (by decide)) .nil))) (aY (eZ (.cons (.bool _) (.cons (.ref (by decide)) (.cons (.val _) .nil)))) (cK hc (h.ok c1 CL.nil) ju (by decide) hg .nil))⟩
 have c0:false=false/\true=true/\true=true/\true=true/\0<4611686018427387904/\false=false/\false=false/\false=false/\false=false/\UV 51 bq ((50,.ns [("message",pj),("self",.ref 28)])::(49,.ns [("eof",.bool false),("self",.ref 28),("char",bq)])::(fS p c gm [] .lend (tR t ct [])).objs) /\
   true=true/\51<53/\1<=100/\false=false/\true=true/\0<=M6/\2<=100/\(51<55/\2<=1000)/\True:=⟨rfl,rfl,rfl,rfl,by decide,rfl,rfl,rfl,rfl,u,rfl,by decide,by decide,rfl,rfl,by decide,by decide,by decide,trivial⟩
 rcases uL hi with rfl | ⟨j,rfl,hj⟩
 ·exact Go.by [.b false,.b false,.b false,.b false,.b true,.b true,.b true,.b true,.b true,.b false,.b false,.b false,.b false,.b false,.norm,.b false,.b true,.b true,.b false,.b true,.keep,.keep] (aa eW <| aa rf c0) (λ_=>by kernel_rfl)
 ·exact Go.by [.b false,.b false,.b false,.b false,.b false,.b true,.b true,.b true,.b true,.b true,.b false,.b false,.b false,.b false,.b false,.norm,.b false,.b true,.b true,.b false,.b true,.keep,.keep] (aa eW <| aa rf <| aa hj c0) (λ_=>by kernel_rfl)
theorem x_call:(XN p (m+87)).xcall (dM p i r) [] []=EM.bind (EM.opt (some (wL p i r))) λfi=>_root_.cond (jB fi.params && mD fi.scope) (EM.bind (EM.opt (some [])) λbinds=>EM.bind (iA fi.scope fi.closure fi.code fi.fz binds) λae=>EM.bind ((XN p (m+86)).xs ae fi.body) λe=>EM.bind (iG ae.frm e) λ_=>EM.bind (ku e) λ_=>EM.ret e) EM.fail:=by kernel_rfl
theorem Ng:(XN p (m+86)).xs (aX p i r) (sB p)=fU (aw p (m+85) (aX p i r)) (rH p (m+85) (aX p i r)) (SB p 0::SB p 1::SB p 2::SB p 3::SB p 4::SB p 5::SB p 6::(sB p).drop 7):=by kernel_rfl
theorem Ib(hc:cR c)(hd:CL t.due)(he:CL ev)(hb:CL tb)(hel:ev.length<=870)(hbl:tb.length<=800)(hg:aO 48 gm)(hr:jg c.g.rows.length r)(hi:bR c it R)(hl:W.length+P.length+R.length<=20)(h3:i<=3)(hx:d8 r i W (P++R)=none):
  ∃w W',Go ((XN p (m+87)).xcall (dM p i r) [] []) (genS p c gm it (tM t ev (n+1) tb W.length W P)) 51 (wN p c gm (tM t (ev++[bj i]) n tb w W' [])):=by
 have hg9:aO 49 gm:=hg.mono (by decide)
 have he':=fA (i:=i) he
 have hel':(ev++[bj i]).length<=880:=by rw[List.length_append,List.length_singleton]; omega
 have g0:Go (aw p (m+85) (aX p i r) (SB p 0)) (fS p c gm [] it (tM t ev (n+1) tb W.length W P)) .next (fS p c gm [] it (tM t (ev++[bj i]) (n+1) tb W.length W P)):=wJ (m:=m+25) (t:=tM t ev (n+1) tb W.length W P) (show ev.length<=900 by omega)
 generalize ev++[bj i]=ev' at g0 he' hel' ⊢
 have g1:Go (aw p (m+85) (aX p i r) (SB p 1)) (fS p c gm [] it (tM t ev' (n+1) tb W.length W P)) .next (fS p c gm [] it (tM t ev' (n+1) tb W.length W P)):=Dv (m:=m+25) (t:=tM t ev' 0 tb W.length W P)
 have g2:Go (aw p (m+85) (aX p i r) (SB p 2)) (fS p c gm [] it (tM t ev' (n+1) tb W.length W P)) .next (fS p c gm [] it (tM t ev' n tb W.length W P)):=D4 (m:=m+25) (t:=tM t ev' 0 tb W.length W P)
 have hR:∀(f:Nat) (b:List AV) (w:Nat) (A O2:List Sg),CL b->b.length<=880->cZ (tM t ev' f b w A O2):=λf b w A O2 q1 q2=>⟨hd,he',q1,hel',q2⟩
 have hPR:P.length+R.length=(P++R).length:=(List.length_append ..).symm
 generalize eU:P++R=U at hx hPR
 obtain⟨it1,P1,R1,e1,hi1,g3⟩:=uM (p:=p) (i:=i) (r:=r) hc hg9 aO.nil U W P R eU it hi (tM t ev' n tb 0 [] []) (hR n tb 0 [] [] hb (by omega)) W.length (by omega) (m+85) (by omega)
 have eS:=congrArg List.length (lK r.sg U)
 rw[List.length_append] at eS
 have hT:W.length+(bB r.sg U).1.length=(W++(bB r.sg U).1).length:=(List.length_append ..).symm
 have hV:(bB r.sg U).2=[]/\r.asks=true:=by
  unfold d8 at hx
  cases hV:(bB r.sg U).2 with
  | nil =>
   rw[hV] at hx
   cases ha:r.asks with
   | true=>exact⟨rfl,rfl⟩
   | false=>rw[ha] at hx; cases hx
  | cons s V =>
   rw[hV] at hx
   cases hk:r.keeps <;> rw[hk] at hx <;> cases hx
 rw[hV.1] at e1
 obtain⟨rfl,rfl⟩:=List.append_eq_nil_iff.mp e1
 rw[hT] at g3
 generalize W++(bB r.sg U).1=W1 at g3 hT
 have g3':Go (aw p (m+85) (aX p i r) (SB p 3)) (fS p c gm [] it (tM t ev' n tb W.length W P)) .next (fS p c gm [] it1 (tM t ev' n tb W1.length W1 [])):=Go.eq (Dw (m:=m+25)) g3
 obtain⟨au,g4,g5⟩:∃au,Go (aw p (m+85) (aX p i r) (SB p 4)) (fS p c gm [] it1 (tM t ev' n tb W1.length W1 [])) .next au/\Go (aw p (m+85) (aX p i r) (SB p 5)) au .next (fS p c gm [] it1 (tM t ev' n (tb++(cS r i W1).map gI) (w2 r W1).length (w2 r W1) [])) :=
  DA (m:=m+25) (t:=tM t ev' n tb 0 [] []) hc (hR n tb 0 [] [] hb (by omega)) hg9 aO.nil hi1 (cy []) (by omega) h3 (show tb.length<=870 by omega)
 have hdd:jv r.dd=false:=by
  have:=hr.dd hV.2
  cases h:r.dd with
  | emit=>exact absurd h this
  | _=>rfl
 rw[show cS r i W1=[] by unfold cS; rw[hdd]; rfl,List.map_nil,List.append_nil] at g5
 have g6:=Nf (p:=p) (m:=m+25) (i:=i) (r:=r) (t:=tM t ev' n tb (w2 r W1).length (w2 r W1) []) hc (hR n tb (w2 r W1).length (w2 r W1) [] hb (by omega)) hg9 hV.2 hi1 (cy (w2 r W1))
 refine⟨(w2 r W1).length,w2 r W1,Go.eq x_call (Go.bind (b:=wL p i r) (aj:=genS p c gm it (tM t ev (n+1) tb W.length W P)) Go.ret (Go.aW (by kernel_rfl) (Go.bind (b:=[]) (aj:=genS p c gm it (tM t ev (n+1) tb W.length W P)) Go.ret (Go.bind (b:=aX p i r) (aj:=fS p c gm [] it (tM t ev (n+1) tb W.length W P)) (Go.by [] trivial (λ_=>by kernel_rfl)) ?_))))⟩
 refine Go.bind (b:=51) (aj:=D6 p c gm (tM t ev' n tb (w2 r W1).length (w2 r W1) [])) (Go.eq Ng (X.cons g0 (X.cons g1 (X.cons g2 (X.cons g3' (X.cons g4 (X.cons g5 (X.here g6)))))))) ?_
 exact Go.by [] trivial (λ_=>by kernel_rfl)
end
noncomputable def dB(p:Params):cC:=(z3 (bF p 163).body).getD ⟨[],default,default,default,[],default,default,default,default⟩
noncomputable def cB(p:Params):aB:=⟨(bF p 163).scope,47,[],.none,47,[]⟩
noncomputable abbrev j7(p:Params):Stmt:=bD (dB p).rest 0
noncomputable def wi(p:Params):PySem.Expr:=eB (cU (j7 p))
noncomputable def bJ(s0 x:AV):List (Str×AV):=[("start_state",s0),("characters",.ref 46),("self",.ref 28),("state",x)]
section
variable{K:Frag}{r:Rec}{xr:cu}{t:cC}{gae:aB}{J aj eV:St}{f e:Nat}{o:ef}{v:AV}
theorem ub(h1:Go (r.tst gae t.test1) J true J)(h2:Go (iH K r xr t gae f) J o aj):Go (gW K r xr t gae (f+1)) J o aj:=Go.br h1 h2
theorem G9(h1:Go (r.tst gae t.test1) J false J):Go (gW K r xr t gae (f+1)) J .fin J:=Go.br h1 Go.ret
theorem F6(h1:Go (r.tst gae t.test2) J true J)(h2:Go (r.ev gae t.item) J v aj):Go (iH K r xr t gae (f+1)) J (.out v) aj:=Go.br h1 (show Go (EM.bind (r.ev gae t.item) λv=>EM.ret (ef.out v)) J (ef.out v) aj from Go.bind h2 Go.ret)
theorem sY(h1:Go (r.tst gae t.test2) J false J)(h2:Go (r.aV gae t.rest) J .next aj)(h3:Go (gW K r xr t gae f) aj o eV):Go (iH K r xr t gae (f+1)) J o eV :=
 Go.br h1 (show Go (EM.bind gB λb=>_root_.cond b (EM.bind (xr.xs gae t.rest) λe=>jI K gae.frm e) (EM.bind (r.aV gae t.rest) λfl=>cj fl (gW K r xr t gae f) (λ_=>EM.fail) EM.fail)) J o eV from
  Go.word (w:=.b false) (a:=false) rfl (Go.bind (f:=λfl=>cj fl (gW K r xr t gae f) (λ_=>EM.fail) EM.fail) h2 h3))
theorem Ha(h1:Go (r.tst gae t.test2) J false J)(h2:Go (EM.bind (xr.xs gae t.rest) λe=>jI K gae.frm e) J o aj):Go (iH K r xr t gae (f+1)) J o aj :=
 Go.br h1 (show Go (EM.bind gB λb=>_root_.cond b (EM.bind (xr.xs gae t.rest) λe=>jI K gae.frm e) (EM.bind (r.aV gae t.rest) λfl=>cj fl (gW K r xr t gae f) (λ_=>EM.fail) EM.fail)) J o aj from
  Go.word (w:=.b true) (a:=true) rfl h2)
end
noncomputable abbrev rP(p:Params)(c:C1)(gm:List (Str×AV))(t:T1):St:=⟨59,(58,.tb none)::(57,.tb none)::pC 58 ((48,.ns [])::jm p c gm .lend t)⟩
noncomputable def pk:AV->Bool
 | .cY _ _ _ _ _ _=>true
 | _=>false
section
variable{p:Params}{c:C1}{t t':T1}{it it':Cell}{ct pb ev tb:List AV}{m N i n:Nat}{r:Row}{W P R U V:List Sg}{s0 x y v tok:AV}
theorem Hb:(RN p (m+1)).aV (cB p) (dB p).rest=bp (aw p m (cB p)) [j7 p]:=by kernel_rfl
theorem Hc:aw p m (cB p) (j7 p)=EM.bind ((RN p m).ev (cB p) (cU (j7 p))) λv=>EM.bind (cb (KK p) (RN p m) (cB p) v (gU (j7 p))) λ_=>EM.ret .next:=by kernel_rfl
theorem Ie:(RN p (m+1)).ev (cB p) (cU (j7 p))=EM.bind ((RN p m).ev (cB p) (wi p)) λf=>eX (KK p) (RN p m) (cB p) f [] [] []:=by kernel_rfl
theorem Ad(h:pk x=true):jJ (KK p) x=true:=by
 cases x with
 | cY a b c d e f=>kernel_rfl
 | _=>exact ff h
theorem wO(h:pk x=true):Go ((RN p (m+10)).tst (cB p) (dB p).test1) (genS p c (bJ s0 x) it t) true (genS p c (bJ s0 x) it t):=by
 cases x with
 | cY a b c d e f=>exact Go.by [] trivial (λ_=>by kernel_rfl)
 | _=>exact ff h
theorem Oa:Go ((RN p (m+10)).tst (cB p) (dB p).test1) (genS p c (bJ s0 bq) it t) false (genS p c (bJ s0 bq) it t):=Go.by [] trivial (λ_=>by kernel_rfl)
theorem D7:Go ((RN p (m+10)).ev (cB p) (wi p)) (genS p c (bJ s0 x) it t) x (genS p c (bJ s0 x) it t):=Go.by [] trivial (λ_=>by kernel_rfl)
theorem Ob:Go (cb (KK p) (RN p (m+10)) (cB p) v (gU (j7 p))) (genS p c (bJ s0 x) it t) PUnit.unit (genS p c (bJ s0 v) it t):=Go.by [] trivial (λ_=>by kernel_rfl)
theorem rQ(h:t.tb=[]):Go ((RN p (m+10)).tst (cB p) (dB p).test2) (genS p c (bJ s0 x) it t) false (genS p c (bJ s0 x) it t):=by
 obtain⟨due,ev,fuel,tb,pb,ct,bY⟩:=t
 cases h
 exact Go.by [] (aa eW trivial) (λ_=>by kernel_rfl)
theorem Oc(h:t.tb=tok::tb)(hl:tb.length<=900):Go ((RN p (m+10)).tst (cB p) (dB p).test2) (genS p c (bJ s0 x) it t) true (genS p c (bJ s0 x) it t):=by
 obtain⟨due,ev,fuel,tb',pb,ct,bY⟩:=t
 cases h
 exact Go.by [] (aa (ml (x:=tok) hl) trivial) (λ_=>by kernel_rfl)
theorem Od(h:t.tb=tok::tb)(hl:tb.length<=900):Go ((RN p (m+10)).ev (cB p) (dB p).item) (genS p c (bJ s0 x) it t) tok (genS p c (bJ s0 x) it { t with tb:=tb }):=by
 obtain⟨due,ev,fuel,tb',pb,ct,bY⟩:=t
 cases h
 exact Go.by [.cut tb tok] (aa (mj (x:=tok) hl) <| aa (Eq.refl (tok::tb)) trivial) (λ_=>by kernel_rfl)
theorem uQ(hx:pk x=true)(h:Go ((RN p (m+10)).call x [] []) (genS p c (bJ s0 x) it t) v (genS p c (bJ s0 x) it' t')):Go ((RN p (m+12)).aV (cB p) (dB p).rest) (genS p c (bJ s0 x) it t) .next (genS p c (bJ s0 v) it' t'):=by
 refine Go.eq Hb (Go.stmt (Go.eq Hc (Go.bind (b:=v) (aj:=genS p c (bJ s0 x) it' t') ?_ (Go.bind (Ob (m:=m+1)) Go.ret))))
 refine Go.eq Ie (D7.bind (Go.aW (Ad hx) (Go.bind (b:=([],[])) (aj:=genS p c (bJ s0 x) it t) (Go.ro Go.vE) h)))
theorem Lq:(XN p (m+12)).xs (cB p) (dB p).rest=fU (aw p (m+11) (cB p)) (rH p (m+11) (cB p)) [j7 p]:=by kernel_rfl
theorem Jw:rH p (m+11) (cB p) (j7 p)=EM.bind ((RN p (m+10)).ev (cB p) (wi p)) λf=>_root_.cond (jJ (KK p) f) (EM.bind (ky (RN p (m+10)) (cB p) [] []) λq=>(XN p (m+10)).xcall f ([]++q.1) q.2) EM.fail:=by kernel_rfl
theorem Ig(hx:pk x=true)(h:Go ((XN p (m+10)).xcall x [] []) (genS p c (bJ s0 x) it t) 51 (wN p c (bJ s0 x) t')):Go (EM.bind ((XN p (m+12)).xs (cB p) (dB p).rest) λe=>jI (KK p) 47 e) (genS p c (bJ s0 x) it t) (.err 51) (rP p c (bJ s0 x) t'):=by
 refine Go.bind (b:=51) (aj:=wN p c (bJ s0 x) t') (Go.eq Lq (X.here (Go.eq Jw (D7.bind (Go.aW (Ad hx) (Go.bind (b:=([],[])) (aj:=genS p c (bJ s0 x) it t) (Go.ro Go.vE) h)))))) ?_
 exact Go.by [] trivial (λ_=>by kernel_rfl)
end
noncomputable def n9:Stmt->List Stmt
 | .Try b _ _ _ _=>b
 | _=>[]
noncomputable abbrev FS(p:Params)(i:Nat):Stmt:=bD (df (LS p 5)) i
noncomputable def toF(p:Params):Stmt:=bD (n9 (FS p 3)) 0
noncomputable def jw(p:Params)(L:Nat)(v:AV):EM aU:=EM.bind (cb (KK p) (RN p L) (aT p) v (cJ (toF p))) λ_=>(RN p L).aV (aT p) (df (toF p))
noncomputable abbrev gJ(p:Params)(L k:Nat)(b:Bool):EM (Option Nat):=kP (KK p) (RN p L) (XN p L) (dB p) (cB p) (jw p L) 48 60 k b
noncomputable abbrev j8(p:Params)(L:Nat)(b:Bool):EM ef:=_root_.cond b (oT (KK p) (RN p L) (XN p L) (dB p) (cB p) 60) (iH (KK p) (RN p L) (XN p L) (dB p) (cB p) 60)
noncomputable def Nh:Option AV->List (Str×AV)
 | none=>[]
 | some z=>[("token",z)]
noncomputable def R3(x:List Sg)(g:Bool)(k:Option AV):List (Str×AV):=("text",.lst (aP x))::("is_good",.bool g)::("signs",.ref 44)::Nh k
noncomputable def bK(g:G1)(x:List Sg)(gd:Bool)(j:Nat)(k:Option AV):C1:=⟨g,R3 x gd k,x,j⟩
noncomputable def ig(k:Option AV):Prop:=∀v,k=some v->∀N,aL N v
noncomputable def bM:Str×List Sg->AV
 | (_,[])=>bq
 | (ty,s::W)=>.tup [.str "token",.str ty,.str (tS ((s::W).map (·.d))),.int s.r,.int s.c,.str s.f]
theorem qF(q:Str×List Sg)(N:Nat):aL N (bM q):=by
 obtain⟨ty,W⟩:=q
 cases W with
 | nil=>exact .val _
 | cons s W=>exact CL.tup (CL.cons (λ_=>.str _) (CL.cons (λ_=>.str _) (CL.cons (λ_=>.str _) (CL.cons (λ_=>.int _) (CL.cons (λ_=>.int _) (CL.cons (λ_=>.str _) CL.nil)))))) N
theorem qV(l:List (Str×List Sg)):CL (l.map bM):=⟨λx hx N=>by
 obtain⟨q,_,rfl⟩:=List.mem_map.mp hx
 exact qF q N⟩
theorem nq{g:G1}{x:List Sg}{gd:Bool}{j:Nat}{k:Option AV}(h:ei g)(hx:x.length<=14)(hk:ig k):cR (bK g x gd j k):=⟨h,.cons (CL.lst (iJ _) _) (.cons (.bool _) (.cons (.ref (by decide)) (by cases k with
 | none=>exact .nil
 | some v=>exact .cons (hk v rfl _) .nil))),hx⟩
section
variable{p:Params}{g:G1}{x0:List Sg}{gd:Bool}{j:Nat}{k:Option AV}{t t':T1}{it it':Cell}{ct pb ev tb:List AV}{m N i n f:Nat}{r:Row}{W P R U V:List Sg}{gm:List (Str×AV)}{s0 x y v tok:AV}{s:Sg}{ty:Str}{b:Bool}{J au aZ aj:St}{o:Option Nat}
theorem Jx{L K:Nat}(h1:Go (j8 p L b) J (.out v) au)(h2:Go (jS (jw p L) 48 47 v) au () aZ)(h3:Go (gJ p L K false) aZ o aj):Go (gJ p L (K+1) b) J o aj :=
 show Go (EM.bind (j8 p L b) λo=>oR o (λv=>EM.bind (jS (jw p L) 48 47 v) λ_=>gJ p L K false) (EM.ret none) (λe=>EM.ret (some e))) J o aj from Go.bind h1 (show Go (EM.bind (jS (jw p L) 48 47 v) λ_=>gJ p L K false) au o aj from Go.bind h2 h3)
theorem uR{L K:Nat}(h1:Go (j8 p L b) J .fin aj):Go (gJ p L (K+1) b) J none aj :=
 show Go (EM.bind (j8 p L b) λo=>oR o (λv=>EM.bind (jS (jw p L) 48 47 v) λ_=>gJ p L K false) (EM.ret none) (λe=>EM.ret (some e))) J none aj from Go.bind h1 (show Go (EM.ret (none:Option Nat)) aj none aj from Go.ret)
theorem Jy{L K e:Nat}(h1:Go (j8 p L b) J (.err e) aj):Go (gJ p L (K+1) b) J (some e) aj :=
 show Go (EM.bind (j8 p L b) λo=>oR o (λv=>EM.bind (jS (jw p L) 48 47 v) λ_=>gJ p L K false) (EM.ret none) (λe=>EM.ret (some e))) J (some e) aj from Go.bind h1 (show Go (EM.ret (some e)) aj (some e) aj from Go.ret)
theorem Jz(hg:ei g)(hx:x0.length<=14)(hk:ig k)(h:bU t)(hi:bA 46 it)(hm:aO 48 gm)(hl:t.ev.length<=900):Go (jS (jw p (m+60)) 48 47 (f6 s ty (tS ((s::W).map (·.d))))) (genS p (bK g x0 gd j k) gm it t) ()
  (genS p (bK g x0 gd j (some (f6 s ty (tS ((s::W).map (·.d)))))) gm it { t with ev:=t.ev++[bM (ty,s::W)] }):=by
 have hz:∀N,aL N (f6 s ty (tS ((s::W).map (·.d)))):=oW.all _ (.head _)
 have u1:aL 48 (f6 s ty (tS ((s::W).map (·.d))))/\UC 48 (jm p (bK g x0 gd j k) gm it t):=⟨hz _,n7 (nq hg hx hk) h hi (Nat.le_refl _) hm⟩
 have h2:bU { t with ev:=t.ev++[bM (ty,s::W)] }:=⟨h.due,h.ev.app (CL.cons (qF _) CL.nil),h.tb,h.pb,h.ct⟩
 have u2:UC 48 (jm p (bK g x0 gd j (some (f6 s ty (tS ((s::W).map (·.d)))))) gm it { t with ev:=t.ev++[bM (ty,s::W)] }):=n7 (nq hg hx λv e N=>by cases e; exact hz N) h2 hi (Nat.le_refl _) hm
 refine Go.bind (b:=()) (aj:=genS p (bK g x0 gd j k) gm it t) (Go.by [] (aa u1 trivial) (λ_=>by kernel_rfl)) ?_
 refine Go.bind (b:=.next) (aj:=genS p (bK g x0 gd j (some (f6 s ty (tS ((s::W).map (·.d)))))) gm it { t with ev:=t.ev++[bM (ty,s::W)] }) ?_ (Go.by [] (aa u2 trivial) (λ_=>by kernel_rfl))
 refine Go.bind (b:=PUnit.unit) (aj:=genS p (bK g x0 gd j (some (f6 s ty (tS ((s::W).map (·.d)))))) gm it t) ?_ (Go.by [] (aa (show 6<=M6 by decide) <| aa (show t.ev.length<=M6 from lM hl) trivial) (λ_=>by kernel_rfl))
 cases k with
 | none=>exact Go.by [] trivial (λ_=>by kernel_rfl)
 | some z=>exact Go.by [] trivial (λ_=>by kernel_rfl)
end
noncomputable def gA:AV:=.tup [.str "refused",.val .none]
noncomputable def bL(rows:List Row):Nat->Nat->List Sg->List Sg->List AV×Bool
 | 0,i,W,U=>match rows[i]? with
  | none=>([bj rows.length],true)
  | some _=>([bj i,bj rows.length],true)
 | f+1,i,W,U=>match rows[i]? with
  | none=>([bj rows.length],true)
  | some r=>match d8 r i W U with
   | none=>([bj i,gA],false)
   | some x=>(bj i::(x.tk.map bM++(bL rows f x.st x.W x.V).1),(bL rows f x.st x.W x.V).2)
section
variable{rows:List Row}
theorem i8{f i:Nat}{W U:List Sg}(h:rows[i]? = none):bL rows f i W U=([bj rows.length],true):=by
 cases f <;> simp only[bL,h]
theorem oX{i:Nat}{r:Row}{W U:List Sg}(h:rows[i]? = some r):bL rows 0 i W U=([bj i,bj rows.length],true):=by simp only[bL,h]
theorem oY{f i:Nat}{r:Row}{W U:List Sg}(h:rows[i]? = some r)(hx:d8 r i W U=none):bL rows (f+1) i W U=([bj i,gA],false):=by simp only[bL,h,hx]
theorem oZ{f i:Nat}{r:Row}{x:NX}{W U:List Sg}(h:rows[i]? = some r)(hx:d8 r i W U=some x):bL rows (f+1) i W U=(bj i::(x.tk.map bM++(bL rows f x.st x.W x.V).1),(bL rows f x.st x.W x.V).2):=by simp only[bL,h,hx]
end
structure JA(k:Nat)(W U:List Sg)(x:NX):Prop where
 tk:∀q∈x.tk,q.2≠[]
 tl:x.tk.length<=2
 st:x.st<=k
 len:x.W.length+x.V.length<=W.length+U.length
 sub:∀s∈x.V,s∈U
theorem Ae{k i:Nat}{r:Row}{W U:List Sg}{x:NX}(hr:jg k r)(hU:∀s∈U,fW s)(h:d8 r i W U=some x):JA k W U x:=by
 have eS:=lK r.sg U
 have hl:=congrArg List.length eS
 rw[List.length_append] at hl
 have hVU:∀s∈(bB r.sg U).2,s∈U:=λs hs=>by rw[<- eS]; exact List.mem_append_right _ hs
 have hW:(W++(bB r.sg U).1).length=W.length+(bB r.sg U).1.length:=List.length_append ..
 unfold d8 at h
 generalize W++(bB r.sg U).1=W1 at h hW
 generalize (bB r.sg U).2=V at h hl hVU
 have hw:=CD r W1
 have t1:∀q∈cS r i W1,q.2≠[]:=λq hq=>by
  unfold cS at hq
  cases hb:(jv r.dd && decide (0<W1.length)) with
  | false=>rw[hb] at hq; nomatch hq
  | true =>
   rw[hb] at hq
   rw[List.mem_singleton.mp hq]
   rw[Bool.and_eq_true] at hb
   have:=of_decide_eq_true hb.2
   intro e
   rw[show W1=[] from e] at this
   exact absurd this (Nat.lt_irrefl _)
 have t1l:=qU r i W1
 have g4:∀j,j<5->r.goes.getD j 0<=k:=λj hj=>(n8 hr hj).2
 cases V with
 | nil =>
  cases ha:r.asks with
  | true=>rw[ha] at h; cases h
  | false =>
   rw[ha] at h
   cases h
   exact⟨t1,by show(cS r i W1).length<=2; omega,g4 4 (by decide),by show(w2 r W1).length+0<=_; omega,λs hs=>nomatch hs⟩
 | cons s V =>
  have hn:=Nat.lt_trans (oD (hU s (hVU s (.head _)))) (show 4<5 by decide)
  rw[List.length_cons] at hl
  cases hk:r.keeps with
  | true =>
   rw[hk] at h
   cases h
   have k1l:=vI r i (w2 r W1++[s])
   refine⟨λq hq=>(List.mem_append.mp hq).elim (t1 q) λhq=>?_,by show(cS r i W1++k1 r i (w2 r W1++[s])).length<=2; rw[List.length_append]; omega,g4 _ hn,?_,λa ha=>hVU a (.tail _ ha)⟩
   ·unfold k1 at hq
    cases ht:r.twice with
    | false=>rw[ht] at hq; nomatch hq
    | true =>
     rw[ht] at hq
     rw[List.mem_singleton.mp hq]
     intro e
     have:=congrArg List.length (show w2 r W1++[s]=[] from e)
     rw[List.length_append] at this
     cases this
   ·show(k2 r (w2 r W1++[s])).length+V.length<=_
    have:(k2 r (w2 r W1++[s])).length<=(w2 r W1).length+1:=by
     unfold k2
     cases r.twice
     ·show(w2 r W1++[s]).length<=_
      rw[List.length_append]
      exact Nat.le_refl _
     ·exact Nat.zero_le _
    omega
  | false =>
   rw[hk] at h
   cases h
   exact⟨t1,by show(cS r i W1).length<=2; omega,g4 _ hn,by show(w2 r W1).length+(V.length+1)<=_; omega,hVU⟩
section
variable{p:Params}{g:G1}
theorem Bq(i:Nat):pk (bS p g i)=true:=by
 unfold bS
 cases g.rows[i]? <;> rfl
theorem zg{i:Nat}{r:Row}(h:g.rows[i]? = some r):bS p g i=dM p i r:=by unfold bS; rw[h]
theorem zh{i:Nat}(h:g.rows[i]? = none):bS p g i=eF p:=by unfold bS; rw[h]
theorem Af(k:Nat){N:Nat}(hN:40<=N):aL N (bS p g k):=by
 unfold bS
 cases g.rows[k]? with
 | some r=>exact lz hN
 | none=>exact mP hN
end
theorem qW{s0 x:AV}{N:Nat}(hN:47<=N)(h0:aL N s0)(h:aL N x):aO N (bJ s0 x):=.cons h0 (.cons (.ref (by omega)) (.cons (.ref (by omega)) (.cons h .nil)))
noncomputable def DI(p:Params)(g:G1)(x0:List Sg)(gd:Bool)(j:Nat)(s0:AV)(t:T1)(ev:List AV):Bool->Option Nat->St->Prop
 | true,o,J=>o=none/\∃k it f,ig k/\bA 46 it/\J=genS p (bK g x0 gd j k) (bJ s0 bq) it (tM t ev f [] 0 [] [])
 | false,o,J=>o=some 51/\∃ev',ev=ev'++[gA]/\∃k f tb w W y,ig k/\J=rP p (bK g x0 gd j k) (bJ s0 y) (tM t ev' f tb w W [])
section
variable{p:Params}{g:G1}{x0:List Sg}{gd:Bool}{j:Nat}{t t':T1}{it it':Cell}{ct pb ev tb:List AV}{m N i n:Nat}{W P R U V:List Sg}{s0 x y v tok:AV}{s:Sg}{b:Bool}{J au aZ aj:St}{o:Option Nat}
noncomputable abbrev rR(p:Params)(L fs:Nat):EM ef:=iH (KK p) (RN p L) (XN p L) (dB p) (cB p) fs
theorem lW{k:Option AV}(h:bR (bK g x0 gd j none) it R):bR (bK g x0 gd j k) it R:=h
theorem drain(hg:ei g)(hx:x0.length<=14)(h0:aL 48 s0)(hy:aL 48 y)(hi:bA 46 it)(hd:CL t.due){X:Option Nat->St->Prop}{evT:List AV}{K0 fs0 w:Nat}(hel:evT.length<=800)(h60:fs0<=60)(h1:1<=fs0)
  (C:∀k,ig k->∀K b J fs,K0<=K->fs0<=fs->(∀o aj,Go (rR p (m+89) fs) (genS p (bK g x0 gd j k) (bJ s0 y) it (tM t evT n [] w W P)) o aj->Go (j8 p (m+89) b) J o aj)->∃o bl,Go (gJ p (m+89) K b) J o bl/\X o bl) :
  ∀(tks:List (Str×List Sg)) (htk:∀q∈tks,q.2≠[]) (htl:tks.length<=800) (ev:List AV) (he:CL ev) (e:ev++tks.map bM=evT) (k:Option AV) (hk:ig k) (K:Nat) (hK:K0+tks.length<=K) (b:Bool) (J:St) (fs:Nat) (hfs:fs0<=fs)
   (hf:∀o aj,Go (rR p (m+89) fs) (genS p (bK g x0 gd j k) (bJ s0 y) it (tM t ev n (tks.map gI) w W P)) o aj->Go (j8 p (m+89) b) J o aj),∃o bl,Go (gJ p (m+89) K b) J o bl/\X o bl
 | [],htk,htl,ev,he,e,k,hk,K,hK,b,J,fs,hfs,hf=>by
  rw[List.map_nil,List.append_nil] at e
  subst e
  exact C k hk K b J fs hK (by omega) hf
 | (ty,[])::tks,htk,htl,ev,he,e,k,hk,K,hK,b,J,fs,hfs,hf=>absurd rfl (htk _ (.head _))
 | (ty,s::T)::tks,htk,htl,ev,he,e,k,hk,K,hK,b,J,fs,hfs,hf=>by
  rw[List.length_cons] at hK htl
  obtain⟨K,rfl⟩:∃K',K=K' + 1:=⟨K - 1,by omega⟩
  obtain⟨fs,rfl⟩:∃f',fs=f' + 1:=⟨fs - 1,by omega⟩
  have hel':ev.length+tks.length+1<=800:=by have:=congrArg List.length e; rw[List.length_append,List.length_map,List.length_cons] at this; omega
  have lt:(tks.map gI).length<=900:=by rw[List.length_map]; omega
  have g1:=hf _ _ (F6 (Oc (m:=m+79) (t:=tM t ev n (((ty,s::T)::tks).map gI) w W P) rfl lt) (Od (m:=m+79) (t:=tM t ev n (((ty,s::T)::tks).map gI) w W P) rfl lt))
  have g2:=Jz (p:=p) (g:=g) (x0:=x0) (gd:=gd) (j:=j) (k:=k) (it:=it) (m:=m+29) (s:=s) (ty:=ty) (W:=T) (gm:=bJ s0 y) (t:=tM t ev n (tks.map gI) w W P) hg hx hk ⟨hd,he,uN _,cy _,cy _⟩ hi (qW (by decide) h0 hy) (show ev.length<=900 by omega)
  obtain⟨o,bl,g3,hX⟩:=drain hg hx h0 hy hi hd hel h60 h1 C tks (λq hq=>htk q (.tail _ hq)) (by omega) (ev++[bM (ty,s::T)]) (he.app (CL.cons (qF _) CL.nil)) (by rw[List.append_assoc]; exact e) (some (f6 s ty (tS ((s::T).map (·.d))))) (λv e N=>by cases e; exact oW.all _ (.head _) N) K (by omega) false _ 60 (by omega) (λo aj h=>h)
  exact⟨o,bl,Jx g1 g2 g3,hX⟩
end
section
variable{p:Params}{g:G1}{x0:List Sg}{gd:Bool}{j:Nat}{t:T1}{m:Nat}{s0:AV}
theorem uS{n w:Nat}{it:Cell}{W P R:List Sg}{k:Option AV}{ev:List AV}{fs:Nat}(hg:ei g)(hx:x0.length<=14)(h0:∀N,40<=N->aL N s0)(hd:CL t.due)(hit:bR (bK g x0 gd j k) it R)(hl:W.length+P.length+R.length<=20)(hk:ig k)(he:CL ev)(hel:ev.length<=800)(hw:w=W.length):
  ∃it',bA 46 it'/\Go (rR p (m+89) (fs+2)) (genS p (bK g x0 gd j k) (bJ s0 (eF p)) it (tM t ev n [] w W P)) .fin (genS p (bK g x0 gd j k) (bJ s0 bq) it' (tM t (ev++[bj g.rows.length]) n [] 0 [] [])):=by
 subst hw
 obtain⟨it',h1,g1⟩:=Jv (p:=p) (c:=bK g x0 gd j k) (gm:=bJ s0 (eF p)) (t:=t) (ev:=ev) (tb:=[]) (n:=n) (m:=m) (nq hg hx hk) hd he CL.nil (by omega) (by decide) (qW (by decide) (h0 _ (by decide)) (mP (by decide))) hit hl
 exact⟨it',h1.bZ,sY (rQ (m:=m+79) rfl) (uQ (m:=m+77) rfl g1) (G9 (Oa (m:=m+79)))⟩
theorem walk(hg:ei g)(hx:x0.length<=14)(h0:∀N,40<=N->aL N s0)(hd:CL t.due):∀(n i:Nat) (hi:i<=g.rows.length) (W P R:List Sg) (it:Cell) (hit:bR (bK g x0 gd j none) it R) (hU:∀s∈P++R,fW s) (hl:W.length+P.length+R.length<=20) (k:Option AV) (hk:ig k) (ev:List AV) (he:CL ev) (hel:ev.length+3 * n<=790)
  (K:Nat) (hK:2 * n+1<=K) (b:Bool) (J:St) (fs:Nat) (hfs:2 * n+6<=fs) (hn:n<=20) (hf:∀o aj,Go (rR p (m+89) fs) (genS p (bK g x0 gd j k) (bJ s0 (bS p g i)) it (tM t ev n [] W.length W P)) o aj->Go (j8 p (m+89) b) J o aj),
  ∃o bl,Go (gJ p (m+89) K b) J o bl/\DI p g x0 gd j s0 t (ev++(bL g.rows n i W (P++R)).1) (bL g.rows n i W (P++R)).2 o bl:=by
 intro n
 induction n with
 | zero =>
  intro i hi W P R it hit hU hl k hk ev he hel K hK b J fs hfs hn hf
  obtain⟨K,rfl⟩:∃K',K=K' + 1:=⟨K - 1,by omega⟩
  obtain⟨fs,rfl⟩:∃f',fs=f' + 6:=⟨fs - 6,by omega⟩
  cases hr:g.rows[i]? with
  | none =>
   rw[zh hr] at hf
   rw[i8 hr]
   obtain⟨it',h1,g1⟩:=uS (p:=p) (m:=m) (fs:=fs+4) (t:=t) (n:=0) hg hx h0 hd (lW hit) hl hk he (by omega) rfl
   exact⟨none,_,uR (hf _ _ g1),rfl,k,it',0,hk,h1,rfl⟩
  | some r =>
   rw[zg hr] at hf
   rw[oX hr]
   have g0:=Ia (p:=p) (c:=bK g x0 gd j k) (gm:=bJ s0 (dM p i r)) (t:=t) (ev:=ev) (tb:=[]) (n:=W.length) (W:=W) (P:=P) (R:=R) (it:=it) (i:=i) (r:=r) (m:=m) (nq hg hx hk) hd he CL.nil (by omega) (qW (by decide) (h0 _ (by decide)) (lz (by decide))) (lW hit)
   obtain⟨it',h1,g1⟩:=uS (p:=p) (m:=m) (fs:=fs+2) (t:=t) (n:=0) hg hx h0 hd (lW hit) hl hk (fA (i:=i) he) (by rw[List.length_append,List.length_singleton]; omega) rfl
   rw[List.append_assoc] at g1
   exact⟨none,_,uR (hf _ _ (sY (rQ (m:=m+79) rfl) (uQ (m:=m+77) rfl g0) (ub (wO (m:=m+79) rfl) g1))),rfl,k,it',0,hk,h1,rfl⟩
 | succ n ih =>
  intro i hi W P R it hit hU hl k hk ev he hel K hK b J fs hfs hn hf
  obtain⟨fs,rfl⟩:∃f',fs=f' + 6:=⟨fs - 6,by omega⟩
  cases hr:g.rows[i]? with
  | none =>
   obtain⟨K,rfl⟩:∃K',K=K' + 1:=⟨K - 1,by omega⟩
   rw[zh hr] at hf
   rw[i8 hr]
   obtain⟨it',h1,g1⟩:=uS (p:=p) (m:=m) (fs:=fs+4) (t:=t) (n:=n+1) hg hx h0 hd (lW hit) hl hk he (by omega) rfl
   exact⟨none,_,uR (hf _ _ g1),rfl,k,it',n+1,hk,h1,rfl⟩
  | some r =>
   have hi3:i<=3:=Nat.le_trans hi hg.r3
   have hro:jg g.rows.length r:=hg.hr r (List.mem_of_getElem? hr)
   rw[zg hr] at hf
   have hgm:aO 48 (bJ s0 (dM p i r)):=qW (by decide) (h0 _ (by decide)) (lz (by decide))
   cases hs:d8 r i W (P++R) with
   | none =>
    obtain⟨K,rfl⟩:∃K',K=K' + 1:=⟨K - 1,by omega⟩
    rw[oY hr hs]
    obtain⟨w,W',g1⟩:=Ib (p:=p) (c:=bK g x0 gd j k) (gm:=bJ s0 (dM p i r)) (t:=t) (ev:=ev) (tb:=[]) (n:=n) (m:=m) (nq hg hx hk) hd he CL.nil (by omega) (by decide) hgm hro (lW hit) hl hi3 hs
    exact⟨some 51,_,Jy (hf _ _ (Ha (rQ (m:=m+79) rfl) (Ig (m:=m+77) rfl g1))),rfl,ev++[bj i],(List.append_assoc ev [bj i] [gA]).symm,k,n,[],w,W',_,hk,rfl⟩
   | some x =>
    rw[oZ hr hs]
    have so:=Ae hro hU hs
    obtain⟨it',P',R',e1,h1,g1⟩:=s_call (p:=p) (c:=bK g x0 gd j k) (gm:=bJ s0 (dM p i r)) (t:=t) (ev:=ev) (tb:=[]) (n:=n) (m:=m) (nq hg hx hk) hd he CL.nil (by omega) (by decide) hgm hro (lW hit) hU hl hi3 hs
    have e1l:=congrArg List.length e1
    rw[List.length_append] at e1l
    have hPR:(P++R).length=P.length+R.length:=List.length_append ..
    have hlen:=so.len
    have htl:=so.tl
    refine drain (p:=p) (gd:=gd) (j:=j) (m:=m) (t:=t) (y:=bS p g x.st) (n:=n) (evT:=(ev++[bj i])++x.tk.map bM) (K0:=2 * n+1) (fs0:=2 * n+6) (w:=x.W.length) (W:=x.W) (P:=P') hg hx (h0 _ (by decide)) (Af _ (by decide)) h1.bZ hd (by rw[List.length_append,List.length_map,List.length_append,List.length_singleton]; omega) (by omega) (by omega)
     (X:=λo bl=>DI p g x0 gd j s0 t (ev++(bj i::(x.tk.map bM++(bL g.rows n x.st x.W x.V).1))) (bL g.rows n x.st x.W x.V).2 o bl) ?_ x.tk so.tk (by omega) (ev++[bj i]) (fA he) rfl k hk K (by omega) b J (fs+4) (by omega) ?_
    ·intro k' hk' K' b' aj fs' hK' hfs' hf'
     obtain⟨o,bl,g2,h2⟩:=ih x.st so.st x.W P' R' it' (lW h1) (λs hs'=>hU s (so.sub s (e1▸hs'))) (by omega) k' hk' ((ev++[bj i])++x.tk.map bM) ((fA he).app (qV _)) (by rw[List.length_append,List.length_map,List.length_append,List.length_singleton]; omega) K' hK' b' aj fs' hfs' (by omega) hf'
     refine⟨o,bl,g2,?_⟩
     rw[e1,List.append_assoc,List.append_assoc] at h2
     exact h2
    ·intro o aj h
     exact hf _ _ (sY (rQ (m:=m+79) rfl) (uQ (m:=m+77) rfl g1) (ub (wO (m:=m+79) (Bq _)) h))
end
noncomputable def j9(p:Params):PySem.Expr:=cU (FS p 2)
noncomputable def wj(p:Params):aB:=⟨fR (fQ (j9 p)) (aT p),45,[],.none,4,[]⟩
noncomputable def cT(x:List Sg):List (Str×AV):=[("text",.lst (aP x))]
noncomputable def ij(x:List Sg)(g:Bool):List (Str×AV):=[("text",.lst (aP x)),("is_good",.bool g)]
noncomputable abbrev bP(p:Params)(g:G1)(r hd:List (Str×AV))(j:Nat)(t:T1):St:=⟨43,(42,.liter 23 j)::runC g (ck p g) (iT r) hd (hG g.vs) t⟩
noncomputable abbrev md(p:Params)(c:C1)(hd:List (Str×AV))(t:T1):St:=⟨46,(44,.list (aC c.sg))::(43,.any)::(42,.liter 23 c.j)::runC c.g (ck p c.g) (iT c.r) hd (hG c.g.vs) t⟩
noncomputable abbrev fG(p:Params)(g:G1)(x:List Sg)(gd:Bool)(hd:List (Str×AV))(j:Nat)(t:T1)(it:Cell)(ys:List AV)(cm:List (Str×AV)):St:=⟨46,(45,.ns cm)::(44,.list ys)::(43,it)::(42,.liter 23 j)::runC g (ck p g) (iT (ij x gd)) hd (hG g.vs) t⟩
noncomputable def ik(s:Sg):List (Str×AV):=[("sign",.str s.s),("row",.int s.r),("column",.int s.c),("file",.str s.f)]
noncomputable def dh(hd:List (Str×AV)):Prop:=hd=dY∨hd=fE .any
theorem dh.ns{hd:List (Str×AV)}(h:dh hd){N:Nat}(hN:33<=N):aO N hd:=by
 rcases h with rfl | rfl
 ·exact Bl hN
 ·exact Bm hN trivial
section
variable{p:Params}{g:G1}{x:List Sg}{gd:Bool}{j m n N f i:Nat}{hd cm:List (Str×AV)}{t:T1}{ys:List AV}{it:Cell}{s:Sg}{k:Option AV}
theorem Ih(h:bU t)(hh:dh hd)(hN:45<=N)(hi:bA 43 it)(hy:CL ys)(hc:aO N cm):UC N (fG p g x gd hd j t it ys cm).objs :=
 aY (eZ hc) (aY (dJ hy) (aY (hi.mono (by omega)) (aY (show 23<N by omega) (qm h (qB (by omega)) (by omega) (qT (by omega) (.cons (CL.lst (iJ _) _) (.cons (.bool _) .nil))) (hh.ns (by omega)) mQ))))
theorem JB(s:Sg):aO N (ik s):=.cons (.str _) (.cons (.int _) (.cons (.int _) (.cons (.str _) .nil)))
theorem Lr(h:bU t)(hh:dh hd)(hi:bA 43 it)(hy:CL ys)(hl:ys.length<=900):Go (EM.bind ((RN p (m+20)).ev (wj p) (i7 (j9 p))) λx=>fM [.ref 44,x]) (fG p g x gd hd j t it ys (ik s)) bq (fG p g x gd hd j t it (ys++[az s]) (ik s)):=by
 have u:∀{N},45<=N->UC N (fG p g x gd hd j t it ys (ik s)).objs:=λhN=>Ih h hh hN hi hy (JB s)
 have c2:UV 48 bq ((47,.sinst 79 46 [some (.int s.c),some (.str s.f),some (.int 1),some (.int s.r),some (.val .none)])::(46,.dict [])::(fG p g x gd hd j t it ys (ik s)).objs) :=
  ⟨.val _,aY (xU (by decide) (.cons (λ_=>.int _) (.cons (λ_=>.str _) (.cons (λ_=>.int _) (.cons (λ_=>.int _) (.cons (λ_=>.val _) .nil)))))) (aY (qc .nil) (u (by decide)))⟩
 have c3:(46<=47/\46<=46/\46<=48)/\UV 46 (mh s) (fG p g x gd hd j t it ys (ik s)).objs:=⟨by decide,nH _,u (by decide)⟩
 have c4:UV 48 bq ((47,.inst 138 46)::(46,.dict [("char",.str s.s),("loc",mh s)])::(fG p g x gd hd j t it ys (ik s)).objs):=⟨.val _,aY (show 46<48 by decide) (aY (qc (.cons (.str _) (.cons (nH _) .nil))) (u (by decide)))⟩
 have c5:(46<=47/\46<=46/\46<=48)/\UV 46 (az s) (fG p g x gd hd j t it ys (ik s)).objs:=⟨by decide,dq s _,u (by decide)⟩
 exact Go.by [.norm,.norm,.norm,.norm] (aa c2 <| aa c3 <| aa (show 0<=100 by decide) <| aa (show 1<=100 by decide) <| aa c4 <| aa c5 <| aa (show ys.length<=M6 from lM hl) trivial) (λ_=>by kernel_rfl)
theorem Ag(h:bU t)(hh:dh hd)(hx:x.length<=900):∀(rest done:List Sg) (hr:x=done++rest) (cm:List (Str×AV)) (hc:cm=[]∨∃s,cm=ik s) (M:Nat) (hM:21+rest.length<=M),
  ∃cm',Go ((RN p M).comp (wj p) (i7 (j9 p)) (gQ (j9 p)) none (.ref 43) (.ref 44)) (fG p g x gd hd j t (.fit (aP x) done.length) (aC done) cm) .next (fG p g x gd hd j t .any (aC x) cm')
 | [],done,hr,cm,hc,M,hM=>by
  obtain⟨m,rfl⟩:∃m,M=m+20+1:=⟨M - 21,by omega⟩
  rw[List.append_nil] at hr
  subst hr
  exact⟨cm,qR (Go.by [.b false] (aa (show(aP x)[x.length]? = none by simp) trivial) (λ_=>by kernel_rfl))⟩
 | s::rest,done,hr,cm,hc,M,hM=>by
  obtain⟨m,rfl⟩:∃m,M=m+20+1:=⟨M - 21,by omega⟩
  have e1:(done++[s]).length=done.length+1:=by rw[List.length_append]; rfl
  have hxs:(aP x)[done.length]? = some s.av:=by rw[hr]; simp
  have hdl:done.length<=900:=by have:=congrArg List.length hr; rw[List.length_append] at this; omega
  obtain⟨cm',gg⟩:=Ag h hh hx rest (done++[s]) (by rw[hr]; simp) (ik s) (.inr ⟨s,rfl⟩) (m+20) (by rw[List.length_cons] at hM; omega)
  rw[e1,gR] at gg
  refine⟨cm',tX (v:=s.av) (au:=fG p g x gd hd j t (.fit (aP x) (done.length+1)) (aC done) cm) (aZ:=fG p g x gd hd j t (.fit (aP x) (done.length+1)) (aC done) (ik s)) (w:=bq) (a7:=fG p g x gd hd j t (.fit (aP x) (done.length+1)) (aC done++[az s]) (ik s)) (Go.by [.cut [] s.av] (aa hxs trivial) (λ_=>by kernel_rfl)) ?_
   (Lr h hh (λx hx=>(iJ _).all x hx _) (cy _) (by rw[eY]; exact hdl)) gg⟩
  rcases hc with rfl | ⟨s',rfl⟩ <;> exact Go.by [] trivial (λ_=>by kernel_rfl)
theorem Ls:(⟨fR (fQ (j9 p)) (aT p),45,[],.none,(aT p).frm,[]⟩:aB)=wj p:=by kernel_rfl
theorem JC:aw p m (aT p) (FS p 2)=EM.bind (jc (RN p m) (aT p) (i7 (j9 p)) (gQ (j9 p)) (mO (j9 p)) none (fQ (j9 p))) λq=>EM.bind (fe (aT p) (Str.ofString "signs") q.1) λ_=>EM.bind (iw q.2) λ_=>EM.ret .next:=by kernel_rfl
theorem Ni(h:bU t)(hh:dh hd)(hx:x.length<=14):Go (aw p (m+60) (aT p) (FS p 2)) (bP p g (ij x gd) hd j t) .next (md p (bK g x gd j none) hd t):=by
 obtain⟨cm,gg⟩:=Ag (p:=p) (g:=g) (x:=x) (gd:=gd) (j:=j) h hh (by omega) x [] rfl [] (.inl rfl) (m+60) (by omega)
 refine Go.eq JC (Go.bind (b:=(.ref 44,45)) (aj:=fG p g x gd hd j t .any (aC x) cm) (qk (cl:=[]) (it:=.ref 43) (au:=⟨44,(43,.fit (aP x) 0)::(bP p g (ij x gd) hd j t).objs⟩) (aZ:=⟨45,(44,.list [])::(43,.fit (aP x) 0)::(bP p g (ij x gd) hd j t).objs⟩) (a7:=fG p g x gd hd j t (.fit (aP x) 0) [] [])
  (by kernel_rfl) (by kernel_rfl) (Go.by [] trivial (λ_=>by kernel_rfl)) (Go.by [] (aa (show 0<=M6 by decide) trivial) (λ_=>by kernel_rfl)) (Go.by [] trivial (λ_=>by kernel_rfl)) (Go.by [] trivial (λ_=>by kernel_rfl)) ?_) (Go.by [] trivial (λ_=>by kernel_rfl)))
 rw[Ls]
 exact gg
theorem Nj:Go (aw p (m+60) (aT p) (FS p 1)) (bP p g (ij x gd) hd j t) .next (bP p g (ij x gd) hd j { t with fuel:=18 }):=Go.by [] (aa (show 1<=M6 by decide) <| aa (show(0:Int)<=0/\(0:Int)<1 by decide) trivial) (λ_=>by kernel_rfl)
noncomputable abbrev mv(p:Params)(L:Nat):EM (Option Nat):=p9 (KK p) (RN p L) (XN p L) (aT p) ⟨dB p,60,60⟩ (cJ (toF p)) (k7 (eB (eo (toF p)))) (Str.ofString "tokenize") (eL (eo (toF p))) (df (toF p))
noncomputable def Br:Stmt->List Stmt
 | .Try _ [.ExceptHandler _ _ b _] _ _ _=>b
 | _=>[]
theorem JD:(RN p (m+90)).aV (aT p) (n9 (FS p 3))=bp (λ_=>EM.bind (mv p (m+89)) λo=>aQ o (λ_=>EM.fail) (EM.ret .next)) [toF p]:=by kernel_rfl
theorem Nk:(XN p (m+90)).xs (aT p) (n9 (FS p 3))=fU (aw p (m+89) (aT p)) (λ_=>EM.bind (mv p (m+89)) λo=>aQ o (λe=>EM.bind (iG 4 e) λ_=>EM.bind (oQ 4 e) λ_=>EM.ret e) EM.fail) [toF p]:=by kernel_rfl
theorem Ah:aw p (m+90) (aT p) (FS p 3)=EM.bind gB λb=>_root_.cond b (EM.bind ((XN p (m+90)).xs (aT p) (n9 (FS p 3))) λe=>EM.bind (iG 4 e) λ_=>EM.bind (ku e) λ_=>tW (KK p) (aT p) (Str.ofString "CompilerError") (Str.ofString "refusal") (Br (FS p 3)) e) ((RN p (m+90)).aV (aT p) (n9 (FS p 3))):=by kernel_rfl
end
noncomputable abbrev wk(p:Params)(c:C1)(hd:List (Str×AV))(s0:AV)(t:T1):St:=⟨48,(47,.ns [("start_state",s0),("characters",.ref 46),("self",.ref 28)])::(46,.liter 44 0)::(md p c hd t).objs⟩
noncomputable abbrev mw(p:Params)(c:C1)(gm:List (Str×AV))(t:T1):St:=⟨60,(59,.tb none)::(58,.tb none)::(57,.tb none)::pC 59 ((48,.ns [])::jm p c gm .lend t)⟩
section
variable{p:Params}{g:G1}{x:List Sg}{gd:Bool}{j m n N f i:Nat}{hd cm gm:List (Str×AV)}{t:T1}{ys ev:List AV}{it:Cell}{s:Sg}{k:Option AV}{o:Option Nat}{bl:St}{c:C1}{s0 y:AV}
theorem Lu:mv p (m+89)=EM.bind (p8 (KK p) (RN p (m+89)) (aT p) (dB p) (k7 (eB (eo (toF p)))) (Str.ofString "tokenize") (eL (eo (toF p)))) λq=>EM.bind (EM.push (.ns q.2.reverse)) λL=>kP (KK p) (RN p (m+89)) (XN p (m+89)) (dB p) ⟨q.1.scope,L,q.1.closure,.none,L,q.1.fz⟩ (jw p (m+89)) (L+1) 60 60 true:=by kernel_rfl
theorem Ii:(bF p 163).body=(dB p).body:=by kernel_rfl
theorem Lv:(⟨(bF p 163).scope,47,(bF p 163).closure,.none,47,(bF p 163).fz⟩:aB)=cB p:=by kernel_rfl
noncomputable abbrev wQ(p:Params)(m:Nat):EM (cG×List (Str×AV)):=p8 (KK p) (RN p (m+89)) (aT p) (dB p) (k7 (eB (eo (toF p)))) (Str.ofString "tokenize") (eL (eo (toF p)))
theorem Lw{fi:cG}{bs:List (Str×AV)}{J au aZ:St}(h1:Go (wQ p m) J (fi,bs) au)(h2:Go (EM.push (.ns bs.reverse)) au 47 aZ)(ha:(⟨fi.scope,47,fi.closure,.none,47,fi.fz⟩:aB)=cB p)(h:Go (gJ p (m+89) 60 true) aZ o bl):Go (mv p (m+89)) J o bl:=by
 refine Go.eq Lu (Go.bind (x:=wQ p m) h1 (Go.bind (f:=λL=>kP (KK p) (RN p (m+89)) (XN p (m+89)) (dB p) ⟨fi.scope,L,fi.closure,.none,L,fi.fz⟩ (jw p (m+89)) (L+1) 60 60 true) h2 ?_))
 show Go (kP (KK p) (RN p (m+89)) (XN p (m+89)) (dB p) ⟨fi.scope,47,fi.closure,.none,47,fi.fz⟩ (jw p (m+89)) 48 60 60 true) aZ o bl
 rw[ha]
 exact h
theorem Lx(hg:ei g)(hh:dh hd):Go (wQ p m) (md p (bK g x gd j k) hd t) (bF p 163,[("self",.ref 28),("characters",.ref 46),("start_state",bS p g 0)]) ⟨47,(46,.liter 44 0)::(md p (bK g x gd j k) hd t).objs⟩:=by
 have ha:((0:Int)<=0/\(0:Int)<1000000/\(ck p g)[0]? = some (bS p g 0))∨(0:Int) = -1/\(ck p g)[(ck p g).length - 1]? = some (bS p g 0):=.inl ⟨by decide,by decide,uO (Nat.zero_le _)⟩
 rcases hh with rfl | rfl <;> exact Go.by [.cut [] (bS p g 0)] (aa (show(ck p g).length<=M6 from lM (qD hg.r3)) <| aa ha <| aa (Ii (p:=p)) trivial) (λ_=>by kernel_rfl)
theorem Ly(hg:ei g)(hh:dh hd)(h:Go (gJ p (m+89) 60 true) (wk p (bK g x gd j k) hd (bS p g 0) t) o bl):Go (mv p (m+89)) (md p (bK g x gd j k) hd t) o bl :=
 Lw (Lx hg hh) (Go.by [] trivial (λ_=>by kernel_rfl)) Lv h
theorem Lz(hh:dh hd):Go ((RN p (m+89)).aV (cB p) (dB p).pre) (wk p (bK g x gd j k) hd s0 t) .next (genS p (bK g x gd j k) (bJ s0 s0) (.liter 44 0) t):=by
 rcases hh with rfl | rfl
 ·exact Go.by [] (aa (show 3<=100 by decide) trivial) (λ_=>by kernel_rfl)
 ·exact Go.by [] (aa (show 4<=100 by decide) trivial) (λ_=>by kernel_rfl)
end
noncomputable def Nl(p:Params)(g:G1)(x0:List Sg)(gd:Bool)(j:Nat)(t:T1)(ev:List AV):Bool->St->Prop
 | true,J=>∃k it f,ig k/\bA 46 it/\J=genS p (bK g x0 gd j k) (bJ (bS p g 0) bq) it (tM t ev f [] 0 [] [])
 | false,J=>∃k f tb w W y,ig k/\J=mw p (bK g x0 gd j k) (bJ (bS p g 0) y) (tM t ev f tb w W [])
theorem LA{r:Row}{i:Nat}{W U:List Sg}{x:NX}(h:d8 r i W U=some x):x.tk.length<=2:=by
 unfold d8 at h
 have a:=qU r i (W++(bB r.sg U).1)
 cases hV:(bB r.sg U).2 with
 | nil =>
  rw[hV] at h
  cases ha:r.asks with
  | true=>rw[ha] at h; cases h
  | false=>rw[ha] at h; cases h; exact Nat.le_trans a (by decide)
 | cons s V =>
  rw[hV] at h
  cases hk:r.keeps with
  | true =>
   rw[hk] at h
   cases h
   have b:=vI r i (w2 r (W++(bB r.sg U).1)++[s])
   show(_++_:List (Str×List Sg)).length<=2
   rw[List.length_append]
   omega
  | false=>rw[hk] at h; cases h; exact Nat.le_trans a (by decide)
theorem oa{rows:List Row}:∀(f i:Nat) (W U:List Sg),(bL rows f i W U).1.length<=3 * f+2
 | 0,i,W,U=>by
  cases h:rows[i]? with
  | none=>rw[i8 h]; show 1<=_; omega
  | some r=>rw[oX h]; show 2<=_; omega
 | f+1,i,W,U=>by
  cases h:rows[i]? with
  | none=>rw[i8 h]; show 1<=_; omega
  | some r =>
   cases hx:d8 r i W U with
   | none=>rw[oY h hx]; show 2<=_; omega
   | some x =>
    rw[oZ h hx]
    have a:=oa (rows:=rows) f x.st x.W x.V
    have b:=LA hx
    rw[List.length_cons,List.length_append,List.length_map]
    omega
section
variable{p:Params}{g:G1}{x:List Sg}{gd:Bool}{j m n N f i:Nat}{hd cm gm:List (Str×AV)}{t:T1}{ys ev:List AV}{it:Cell}{s:Sg}{k:Option AV}{o:Option Nat}{J bl:St}{c:C1}{s0 y:AV}
theorem Go.Oe{β:Type}{y z:EM β}{b:β}{J aj:St}(h:Go z J b aj):Go (EM.bind gB λb=>_root_.cond b y z) J b aj:=Go.word (w:=.b false) (a:=false) rfl h
theorem Go.Of{β:Type}{y z:EM β}{b:β}{J aj:St}(h:Go y J b aj):Go (EM.bind gB λb=>_root_.cond b y z) J b aj:=Go.word (w:=.b true) (a:=true) rfl h
theorem LC{x:EM aU}{st:Stmt}{J aj:St}{fl:aU}(h:Go x J fl aj):Go (bp (λ_=>x) [st]) J fl aj:=Go.stmt (one:=λ_=>x) h
theorem Ij{α β:Type}{x:EM (Option α)}{z:EM β}{b:β}{f:α->EM β}{J au aj:St}(h:Go x J none au)(h2:Go z au b aj):Go (EM.bind x λo=>aQ o f z) J b aj:=Go.bind (f:=λo=>aQ o f z) h h2
theorem Ik{α β:Type}{x:EM (Option α)}{z:EM β}{a:α}{b:β}{f:α->EM β}{J au aj:St}(h:Go x J (some a) au)(h2:Go (f a) au b aj):Go (EM.bind x λo=>aQ o f z) J b aj:=Go.bind (f:=λo=>aQ o f z) h h2
theorem JE(h:Go (mv p (m+89)) J none bl):Go (aw p (m+90) (aT p) (FS p 3)) J .next bl :=
 Go.eq Ah (Go.Oe (Go.eq JD (LC (Ij h Go.ret))))
noncomputable abbrev DJ(p:Params)(c:C1)(gm:List (Str×AV))(t:T1):St:=⟨60,(59,.tb (some 4))::(58,.tb none)::(57,.tb none)::pC 59 ((48,.ns [])::jm p c gm .lend t)⟩
theorem JF{tt:T1}:Go (EM.bind (iG 4 51) λ_=>EM.bind (oQ 4 51) λ_=>EM.ret 51) (rP p (bK g x gd j k) gm tt) 51 (DJ p (bK g x gd j k) gm tt):=Go.by [] trivial (λ_=>by kernel_rfl)
theorem JG{tt:T1}(he:tt.ev.length<=900):Go (EM.bind (iG 4 51) λ_=>EM.bind (ku 51) λ_=>tW (KK p) (aT p) (Str.ofString "CompilerError") (Str.ofString "refusal") (Br (FS p 3)) 51) (DJ p (bK g x gd j k) gm tt) .next
  (mw p (bK g x gd j k) gm { tt with ev:=tt.ev++[gA] }):=by
 cases k with
 | none=>exact Go.by [] (aa (show 2<=M6 by decide) <| aa (show tt.ev.length<=M6 from lM he) trivial) (λ_=>by kernel_rfl)
 | some z=>exact Go.by [] (aa (show 2<=M6 by decide) <| aa (show tt.ev.length<=M6 from lM he) trivial) (λ_=>by kernel_rfl)
theorem LD{one:Stmt->EM aU}{x:EM Nat}{st:Stmt}{J aj:St}{e:Nat}(h:Go x J e aj):Go (fU one (λ_=>x) [st]) J e aj:=X.here (xone:=λ_=>x) h
theorem JH{x:EM Nat}{f:Nat->EM aU}{J au aj:St}{fl:aU}(h1:Go x J 51 au)(h2:Go (f 51) au fl aj):Go (EM.bind x f) J fl aj:=Go.bind h1 h2
theorem LF{tt:T1}(he:tt.ev.length<=900)(h:Go (mv p (m+89)) J (some 51) (rP p (bK g x gd j k) gm tt)):Go (aw p (m+90) (aT p) (FS p 3)) J .next (mw p (bK g x gd j k) gm { tt with ev:=tt.ev++[gA] }):=by
 exact Go.eq Ah (Go.Of (JH (Go.eq Nk (LD (Ik h JF))) (JG he)))
theorem Nm(hg:ei g)(hx:j4 x)(hl:x.length<=14)(hh:dh hd)(ht:CL t.due)(he:CL ev)(hel:ev.length<=700):∃bl,Nl p g x gd j t (ev++(bL g.rows 18 0 [] x).1) (bL g.rows 18 0 [] x).2 bl/\Go (aw p (m+90) (aT p) (FS p 3)) (md p (bK g x gd j none) hd (tM t ev 18 [] 0 [] [])) .next bl:=by
 obtain⟨o,bl,g1,h1⟩:=walk (p:=p) (g:=g) (x0:=x) (gd:=gd) (j:=j) (t:=t) (m:=m) (s0:=bS p g 0) hg hl (λN hN=>Af 0 hN) ht 18 0 (Nat.zero_le _) [] [] x (.liter 44 0) (.inr ⟨0,rfl,rfl⟩) hx (by rw[List.length_nil]; omega) none (λ_ h=>nomatch h) ev he (by omega) 60 (by decide) true (wk p (bK g x gd j none) hd (bS p g 0) (tM t ev 18 [] 0 [] [])) 59 (by decide) (by decide)
  (λo aj h=>Go.bind (f:=λfl=>cj fl (gW (KK p) (RN p (m+89)) (XN p (m+89)) (dB p) (cB p) 60) (λ_=>EM.fail) EM.fail) (Lz (k:=none) hh) (ub (wO (m:=m+79) (Bq 0)) h))
 have g2:=Ly (k:=none) (hd:=hd) hg hh g1
 rw[List.nil_append] at h1
 cases hb:(bL g.rows 18 0 [] x).2 with
 | true =>
  rw[hb] at h1
  obtain⟨rfl,k,it,f,hk,hi,rfl⟩:=h1
  exact⟨_,⟨k,it,f,hk,hi,rfl⟩,JE g2⟩
 | false =>
  rw[hb] at h1
  obtain⟨rfl,ev',e,k,f,tb,w,W,y,hk,rfl⟩:=h1
  have hl':ev'.length<=900:=by
   have:=congrArg List.length e
   have r:=oa (rows:=g.rows) 18 0 [] x
   rw[List.length_append,List.length_append,List.length_singleton] at this
   omega
  rw[e]
  exact⟨_,⟨k,f,tb,w,W,y,hk,rfl⟩,LF (tt:=tM t ev' f tb w W []) hl' g2⟩
end
section
variable(p:Params)
noncomputable def aR:aB:=⟨(bF p 280).scope,43,[],.ref 279,43,[]⟩
noncomputable def gM:List Stmt:=(bF p 280).body
noncomputable def bN(g:G1)(x:List Sg)(hd:List (Str×AV))(j:Nat)(t:T1)(dn:List (Str×AV)):List (Nat×Cell):=(43,.ns dn)::(42,.liter 23 j)::runC g (ck p g) (iT (cT x)) hd (hG g.vs) t
noncomputable abbrev gN(g:G1)(x:List Sg)(hd:List (Str×AV))(j:Nat)(t:T1)(dn:List (Str×AV)):St:=⟨44,bN p g x hd j t dn⟩
noncomputable def di:aB:=⟨(bF p 273).scope,44,[],.ref 272,44,[]⟩
noncomputable def rS:List Stmt:=(bF p 273).body
noncomputable def jx:PySem.Expr:=cU (bD (rS p) 0)
end
noncomputable def kU:PySem.Expr->PySem.Expr
 | .BinOp l _ _ _=>l
 | e=>e
noncomputable def DK:PySem.Expr->PySem.Expr
 | .BinOp _ _ r _=>r
 | e=>e
noncomputable def jE(p:Params):PySem.Expr:=iL (nB (kU (jx p))) 2
noncomputable def qE(p:Params):PySem.Expr:=iL (eL (jE p)) 0
noncomputable def rT(p:Params):aB:=⟨fR (fQ (qE p)) (di p),47,[],.none,44,[]⟩
section
variable(ty:Str)(x:List Sg)(b c:Nat)
noncomputable def kn:List (Str×AV):=[("place",.int c),("start",.int b),("text",.lst (aP x)),("kind",.str ty)]
noncomputable abbrev f7(L:List (Nat×Cell)):St:=⟨45,(44,.ns (kn ty x b c))::L⟩
noncomputable abbrev qS(L:List (Nat×Cell))(it:Cell)(ys:List AV)(cm:List (Str×AV)):St:=⟨48,(47,.ns cm)::(46,.list ys)::(45,it)::(44,.ns (kn ty x b c))::L⟩
end
section
variable{p:Params}{g:G1}{x W:List Sg}{j m n N f i b c:Nat}{hd cm dn:List (Str×AV)}{t:T1}{ys ev:List AV}{it:Cell}{s:Sg}{ty:Str}
theorem Il(h:bU t)(hh:dh hd)(hN:44<=N)(hn:aO N dn):UC N (bN p g x hd j t dn):=aY (eZ hn) (aY (show 23<N by omega) (qm h (qB (by omega)) (by omega) (qT (by omega) (.cons (CL.lst (iJ _) _) .nil)) (hh.ns (by omega)) mQ))
theorem Nn{W':List AV}(hp:dp (aP x) (some (b:Int)) (some (c:Int))=W')(lx:(aP x).length<=M6)(lp:W'.length<=M6):Go (EM.bind ((RN p (m+56)).ev (di p) (mO (qE p))) λv=>dZ v) (f7 ty x b c (bN p g x hd j t dn)) (.ref 45) ⟨46,(45,.fit W' 0)::(44,.ns (kn ty x b c))::(bN p g x hd j t dn)⟩:=by
 subst hp
 exact Go.by [.norm] (aa lx <| aa lp trivial) (λ_=>by kernel_rfl)
theorem Bs(hl:W.length<=900):∀(rest done:List Sg) (hr:W=done++rest) (cm:List (Str×AV)) (hc:cm=[]∨∃z:AV,cm=[((Str.ofString "sign" : Str),z)]) (M:Nat) (hM:21+rest.length<=M),
  ∃cm',Go ((RN p M).comp (rT p) (i7 (qE p)) (gQ (qE p)) none (.ref 45) (.ref 46)) (qS ty x b c (bN p g x hd j t dn) (.fit (aP W) done.length) (bW (done.map (·.d))) cm) .next (qS ty x b c (bN p g x hd j t dn) .any (bW (W.map (·.d))) cm')
 | [],done,hr,cm,hc,M,hM=>by
  obtain⟨m,rfl⟩:∃m,M=m+20+1:=⟨M - 21,by omega⟩
  rw[List.append_nil] at hr
  subst hr
  exact⟨cm,qR (Go.by [.b false] (aa (show(aP W)[W.length]? = none by simp) trivial) (λ_=>by kernel_rfl))⟩
 | s::rest,done,hr,cm,hc,M,hM=>by
  obtain⟨m,rfl⟩:∃m,M=m+20+1:=⟨M - 21,by omega⟩
  have e1:(done++[s]).length=done.length+1:=by rw[List.length_append]; rfl
  have e2:bW ((done++[s]).map (·.d))=bW (done.map (·.d))++[.str s.s]:=by rw[List.map_append]; exact List.map_append ..
  have hxs:(aP W)[done.length]? = some s.av:=by rw[hr]; simp
  have hdl:done.length<=900:=by have:=congrArg List.length hr; rw[List.length_append] at this; omega
  obtain⟨cm',gg⟩:=Bs hl rest (done++[s]) (by rw[hr]; simp) [("sign",s.av)] (.inr ⟨_,rfl⟩) (m+20) (by rw[List.length_cons] at hM; omega)
  rw[e1,e2] at gg
  generalize hys:bW (done.map (·.d))=ys at gg
  have hyl:ys.length<=M6:=by rw[<- hys,qw,List.length_map]; exact lM hdl
  have g1:Go (b0 (gQ (qE p)) (.ref 45)) (qS ty x b c (bN p g x hd j t dn) (.fit (aP W) done.length) ys cm) (some s.av) (qS ty x b c (bN p g x hd j t dn) (.fit (aP W) (done.length+1)) ys cm):=Go.by [.cut [] s.av] (aa hxs trivial) (λ_=>by kernel_rfl)
  have g2:Go (cb (KK p) (RN p (m+20)) (rT p) s.av (gQ (qE p))) (qS ty x b c (bN p g x hd j t dn) (.fit (aP W) (done.length+1)) ys cm) PUnit.unit (qS ty x b c (bN p g x hd j t dn) (.fit (aP W) (done.length+1)) ys [("sign",s.av)]):=by
   rcases hc with rfl | ⟨z,rfl⟩ <;> exact Go.by [] trivial (λ_=>by kernel_rfl)
  have g3:Go (EM.bind ((RN p (m+20)).ev (rT p) (i7 (qE p))) λx=>fM [.ref 46,x]) (qS ty x b c (bN p g x hd j t dn) (.fit (aP W) (done.length+1)) ys [("sign",s.av)]) bq (qS ty x b c (bN p g x hd j t dn) (.fit (aP W) (done.length+1)) (ys++[.str s.s]) [("sign",s.av)]) :=
   Go.by [.cut [] (.str s.s)] (aa (show(0:Int)<=0/\(0:Int)<1000000/\some (AV.str s.s)=some (.str s.s) from⟨by decide,by decide,rfl⟩) <| aa hyl trivial) (λ_=>by kernel_rfl)
  exact⟨cm',tX g1 g2 g3 gg⟩
theorem Np:(⟨fR (fQ (qE p)) (di p),47,[],.none,(di p).frm,[]⟩:aB)=rT p:=by kernel_rfl
theorem Og:(RN p (m+57)).ev (di p) (qE p)=EM.bind (jc (RN p (m+56)) (di p) (i7 (qE p)) (gQ (qE p)) (mO (qE p)) none (fQ (qE p))) λq=>EM.bind (iw q.2) λ_=>EM.ret q.1:=by kernel_rfl
theorem Oh:(RN p (m+58)).ev (di p) (jE p)=lj (KK p) (RN p (m+57)) (di p) (k7 (eB (jE p))) (Str.ofString "join") [qE p] []:=by kernel_rfl
theorem Oi:(RN p (m+59)).ev (di p) (kU (jx p))=EM.bind (dN (RN p (m+58)) (di p) [iL (nB (kU (jx p))) 0,iL (nB (kU (jx p))) 1,jE p]) λvs=>p6 vs:=by kernel_rfl
theorem Oj:aw p (m+60) (di p) (bD (rS p) 0)=EM.bind (EM.bind ((RN p (m+59)).ev (di p) (kU (jx p))) λa=>EM.bind ((RN p (m+59)).ev (di p) (DK (jx p))) λb=>rm .Add a b) λv=>EM.ret (.ret v):=by kernel_rfl
theorem Nq:(nP (fQ (qE p)) && eK (mO (qE p)))=true:=by kernel_rfl
theorem Nr:ow (di p) (fQ (qE p))=some []:=by kernel_rfl
theorem JI(hW:∃D U,x=D++W++U/\b=D.length/\c=D.length+W.length)(hx:x.length<=14):Go ((RN p (m+58)).ev (di p) (jE p)) (f7 ty x b c (bN p g x hd j t dn)) (.str (tS (W.map (·.d)))) ⟨48,(46,.list (bW (W.map (·.d))))::(45,.any)::(44,.ns (kn ty x b c))::(bN p g x hd j t dn)⟩:=by
 obtain⟨D,U,e,eb,ec⟩:=hW
 have hl:=congrArg List.length e
 rw[List.length_append,List.length_append] at hl
 obtain⟨cm,gg⟩:=Bs (p:=p) (W:=W) (x:=x) (b:=b) (c:=c) (g:=g) (hd:=hd) (j:=j) (t:=t) (dn:=dn) (ty:=ty) (by omega) W [] rfl [] (.inl rfl) (m+56) (by omega)
 have hp:dp (aP x) (some (b:Int)) (some (c:Int))=aP W:=by
  rw[G3,e,eb,ec,Nat.add_sub_cancel_left,m4,m4,List.append_assoc]
  rw[List.drop_append_of_le_length (by rw[List.length_map]; exact Nat.le_refl _),List.drop_eq_nil_of_le (by rw[List.length_map]; exact Nat.le_refl _),List.nil_append,List.take_append_of_le_length (by rw[List.length_map]; exact Nat.le_refl _),List.take_of_length_le (by rw[List.length_map]; exact Nat.le_refl _)]
 have lx:(aP x).length<=M6:=lM (by rw[List.length_map]; omega)
 have lp:(dp (aP x) (some (b:Int)) (some (c:Int))).length<=M6:=by rw[hp]; exact lM (by rw[List.length_map]; omega)
 have hj:=y7 (W.map (·.d)) (by rw[List.length_map]; omega)
 have ej:Txt.join (Str.ofString "") (fN (bW (W.map (·.d))))=tS (W.map (·.d)):=by rw[sI,join_one]
 have gi:=Nn (p:=p) (m:=m) (g:=g) (hd:=hd) (j:=j) (t:=t) (dn:=dn) (ty:=ty) hp lx (hp▸lp)
 have gl:Go (nT []) (⟨46,(45,.fit (aP W) 0)::(44,.ns (kn ty x b c))::(bN p g x hd j t dn)⟩:St) (.ref 46) ⟨47,(46,.list [])::(45,.fit (aP W) 0)::(44,.ns (kn ty x b c))::(bN p g x hd j t dn)⟩:=Go.by [] (aa (show 0<=M6 by decide) trivial) (λ_=>by kernel_rfl)
 have gp:Go (EM.push (.ns [])) (⟨47,(46,.list [])::(45,.fit (aP W) 0)::(44,.ns (kn ty x b c))::(bN p g x hd j t dn)⟩:St) 47 (qS ty x b c (bN p g x hd j t dn) (.fit (aP W) 0) [] []):=Go.by [] trivial (λ_=>by kernel_rfl)
 have gt:Go (isLit (.ref 45)) (qS ty x b c (bN p g x hd j t dn) (.fit (aP W) 0) [] []) () (qS ty x b c (bN p g x hd j t dn) (.fit (aP W) 0) [] []):=Go.by [] trivial (λ_=>by kernel_rfl)
 have gd:Go (iw 47) (qS ty x b c (bN p g x hd j t dn) .any (bW (W.map (·.d))) cm) () ⟨48,(46,.list (bW (W.map (·.d))))::(45,.any)::(44,.ns (kn ty x b c))::(bN p g x hd j t dn)⟩:=Go.by [] trivial (λ_=>by kernel_rfl)
 rw[<- Np] at gg
 have g1:=vF (Og (m:=m)) (qk (p:=p) (n:=m+56) (cl:=[]) Nq Nr gi gl gp gt gg) gd
 have hyl:(bW (W.map (·.d))).length<=M6:=lM (by rw[qw,List.length_map]; omega)
 generalize bW (W.map (·.d))=ys at g1 hj ej hyl
 have g2:Go ((RN p (m+57)).call (.val (.builtin "str.join")) [.str "",.ref 46] []) (⟨48,(46,.list ys)::(45,.any)::(44,.ns (kn ty x b c))::(bN p g x hd j t dn)⟩:St) (.str (Txt.join (Str.ofString "") (fN ys))) ⟨48,(46,.list ys)::(45,.any)::(44,.ns (kn ty x b c))::(bN p g x hd j t dn)⟩:=Go.by [] (aa hyl <| aa hj trivial) (λ_=>by kernel_rfl)
 rw[ej] at g2
 have g3:Go ((RN p (m+57)).ev (di p) (k7 (eB (jE p)))) (f7 ty x b c (bN p g x hd j t dn)) (.str "") (f7 ty x b c (bN p g x hd j t dn)):=Go.by [] trivial (λ_=>by kernel_rfl)
 have g4:Go (kq (KK p) (.str "") (Str.ofString "join")) (f7 ty x b c (bN p g x hd j t dn)) (.val (.builtin "str.join"),[.str ""]) (f7 ty x b c (bN p g x hd j t dn)):=Go.by [] trivial (λ_=>by kernel_rfl)
 exact Go.eq Oh (Go.wc g3 g4 (by kernel_rfl) (Go.ni (by kernel_rfl) g1) g2)
end
section
variable{p:Params}{g:G1}{x W T D U:List Sg}{j m n N f i b c:Nat}{hd cm dn:List (Str×AV)}{t:T1}{ys ev:List AV}{it:Cell}{s:Sg}{ty:Str}
noncomputable abbrev jn(ty:Str)(x:List Sg)(b c:Nat)(ys:List AV)(L:List (Nat×Cell)):St:=⟨48,(46,.list ys)::(45,.any)::(44,.ns (kn ty x b c))::L⟩
theorem JJ{z:Str}(h:Go ((RN p (m+58)).ev (di p) (jE p)) (f7 ty x b c (bN p g x hd j t dn)) (.str z) (jn ty x b c ys (bN p g x hd j t dn))):Go ((RN p (m+59)).ev (di p) (kU (jx p))) (f7 ty x b c (bN p g x hd j t dn)) (.tup [.str "token",.str ty,.str z]) (jn ty x b c ys (bN p g x hd j t dn)):=by
 have g0:Go ((RN p (m+58)).ev (di p) (iL (nB (kU (jx p))) 0)) (f7 ty x b c (bN p g x hd j t dn)) (.str "token") (f7 ty x b c (bN p g x hd j t dn)):=Go.by [] trivial (λ_=>by kernel_rfl)
 have g1:Go ((RN p (m+58)).ev (di p) (iL (nB (kU (jx p))) 1)) (f7 ty x b c (bN p g x hd j t dn)) (.str ty) (f7 ty x b c (bN p g x hd j t dn)):=Go.by [] trivial (λ_=>by kernel_rfl)
 have g2:Go (p6 [.str "token",.str ty,.str z]) (jn ty x b c ys (bN p g x hd j t dn)) (.tup [.str "token",.str ty,.str z]) (jn ty x b c ys (bN p g x hd j t dn)):=Go.by [] (aa (show 3<=M6 by decide) trivial) (λ_=>by kernel_rfl)
 exact Go.eq Oi (Go.bind (Go.oV (by kernel_rfl) g0 (Go.oV (by kernel_rfl) g1 (Go.ni (by kernel_rfl) h))) g2)
theorem Im(hl:(aP x).length<=900)(hb:(aP x)[b]? = some s.av):Go ((RN p (m+59)).ev (di p) (DK (jx p))) (jn ty x b c ys (bN p g x hd j t dn)) (.tup [.int s.r,.int s.c,.str s.f]) (jn ty x b c ys (bN p g x hd j t dn)):=by
 have h0:(0:Int)<=b/\(b:Int)<1000000/\(aP x)[b]? = some s.av:=⟨by omega,by
  have:b<(aP x).length:=by
   rcases Nat.lt_or_ge b (aP x).length with q | q
   ·exact q
   ·rw[List.getElem?_eq_none q] at hb; cases hb
  omega,hb⟩
 exact Go.by [.cut [] s.av] (aa h0 <| aa (show 3<=M6 by decide) trivial) (λ_=>by kernel_rfl)
theorem LG{z:Str}:Go (rm .Add (.tup [.str "token",.str ty,.str z]) (.tup [.int s.r,.int s.c,.str s.f])) (jn ty x b c ys (bN p g x hd j t dn)) (.tup [.str "token",.str ty,.str z,.int s.r,.int s.c,.str s.f]) (jn ty x b c ys (bN p g x hd j t dn)):=Go.by [] (aa (show false=false/\false=false from⟨rfl,rfl⟩) <| aa (show 6<=M6 by decide) trivial) (λ_=>by kernel_rfl)
theorem JK:bp (aw p (m+60) (di p)) (bF p 273).body=bp (aw p (m+60) (di p)) [bD (rS p) 0]:=by kernel_rfl
theorem Hd(hW:∃D U,x=D++(s::T)++U/\b=D.length/\c=D.length+(s::T).length)(hx:x.length<=14)(h:bU t)(hh:dh hd)(hn:aO 44 dn):Go ((RN p (m+62)).call (.val (.ref 273)) [.str ty,.lst (aP x),.int b,.int c] []) (gN p g x hd j t dn) (bM (ty,s::T)) (gN p g x hd j t dn):=by
 have g1:=JJ (JI (p:=p) (g:=g) (hd:=hd) (j:=j) (t:=t) (dn:=dn) (ty:=ty) (m:=m) hW hx)
 have hb:(aP x)[b]? = some s.av:=by
  obtain⟨D,U,e,eb,_⟩:=hW
  rw[e,eb,m4,m4,List.append_assoc,List.getElem?_append_right (by rw[List.length_map]; exact Nat.le_refl _),List.length_map,Nat.sub_self]
  rfl
 have g2:=Im (p:=p) (g:=g) (hd:=hd) (j:=j) (t:=t) (dn:=dn) (ty:=ty) (m:=m) (c:=c) (ys:=bW ((s::T).map (·.d))) (by rw[List.length_map]; omega) hb
 have g3:=LG (p:=p) (g:=g) (hd:=hd) (j:=j) (t:=t) (dn:=dn) (ty:=ty) (x:=x) (b:=b) (c:=c) (s:=s) (ys:=bW ((s::T).map (·.d))) (z:=tS ((s::T).map (·.d)))
 have g4:Go (iA (bF p 273).scope (bF p 273).closure (bF p 273).code (bF p 273).fz [("kind",.str ty),("text",.lst (aP x)),("start",.int b),("place",.int c)]) (gN p g x hd j t dn) (di p) (f7 ty x b c (bN p g x hd j t dn)):=Go.by [] trivial (λ_=>by kernel_rfl)
 have g5:Go (gq 44 (bM (ty,s::T))) (jn ty x b c (bW ((s::T).map (·.d))) (bN p g x hd j t dn)) (bM (ty,s::T)) (gN p g x hd j t dn):=Go.by [.norm] (aa (show UV 44 (bM (ty,s::T)) (gN p g x hd j t dn).objs from⟨qF _ _,Il h hh (Nat.le_refl _) hn⟩) trivial) (λ_=>by kernel_rfl)
 refine Go.eq (show(RN p (m+62)).call (.val (.ref 273)) [.str ty,.lst (aP x),.int b,.int c] []=fY (RN p (m+61)) (bF p 273) [.str ty,.lst (aP x),.int b,.int c] [] by kernel_rfl) (Go.fn (by kernel_rfl) (binds:=[("kind",.str ty),("text",.lst (aP x)),("start",.int b),("place",.int c)]) (by kernel_rfl) g4 ?_)
 have g6:Go (aw p (m+60) (di p) (bD (rS p) 0)) (f7 ty x b c (bN p g x hd j t dn)) (.ret (bM (ty,s::T))) (jn ty x b c (bW ((s::T).map (·.d))) (bN p g x hd j t dn)):=Go.eq Oj (Go.bind (Go.bind g1 (Go.bind g2 g3)) Go.ret)
 exact Go.bind (Go.aV (n:=m+60) (Go.eq JK (Go.iI g6))) (Go.rt g5)
end
noncomputable def jy(p:Params):Stmt:=bD (gM p) 1
noncomputable abbrev DS(p:Params)(i:Nat):Stmt:=bD (fP (jy p)) i
noncomputable def gL:Option Nat->List (Str×AV)
 | none=>[]
 | some z=>[("goal",.int z)]
noncomputable def E1(r:Row)(gl:Option Nat):List (Str×AV):=("signs",r.sg.av)::("deed",.str r.dd.s)::("asks",.bool r.asks)::("keeps",.bool r.keeps)::("twice",.bool r.twice)::("goes",.lst (fh r.goes))::gL gl
noncomputable def EF(e:List (Str×AV)):Prop:=e=[]∨∃r gl,e=E1 r gl
noncomputable def pD(x:List Sg)(a b c f:Nat)(e:List (Str×AV)):List (Str×AV):=("due",.ref 24)::("text",.lst (aP x))::("plan",.ref 12)::("state",.int a)::("start",.int b)::("place",.int c)::("fuel",.int f)::e
noncomputable abbrev aG(p:Params)(g:G1)(x:List Sg)(hd:List (Str×AV))(j:Nat)(t:T1)(a b c f:Nat)(e:List (Str×AV)):St:=gN p g x hd j t (pD x a b c f e)
theorem LH{N:Nat}(r:Row)(gl:Option Nat):aO N (E1 r gl):=.cons (r.sg.bZ _) (.cons (.str _) (.cons (.bool _) (.cons (.bool _) (.cons (.bool _) (.cons (CL.lst (qx _) _) (by cases gl with
 | none=>exact .nil
 | some z=>exact .cons (.int _) .nil))))))
theorem EF.ok{N:Nat}{e:List (Str×AV)}(h:EF e):aO N e:=by
 rcases h with rfl | ⟨r,gl,rfl⟩
 ·exact .nil
 ·exact LH r gl
theorem uT{N a b c f:Nat}{x:List Sg}{e:List (Str×AV)}(hN:25<=N)(h:aO N e):aO N (pD x a b c f e):=.cons (.ref (by omega)) (.cons (CL.lst (iJ _) _) (.cons (.ref (by omega)) (.cons (.int _) (.cons (.int _) (.cons (.int _) (.cons (.int _) h))))))
structure Wn(x:List Sg)(b c:Nat)(W U:List Sg):Prop where
 ex:∃D,x=D++W++U/\b=D.length/\c=D.length+W.length
theorem Wn.len{x W U:List Sg}{b c:Nat}(h:Wn x b c W U):x.length=c+U.length/\c=b+W.length:=by
 obtain⟨D,e,eb,ec⟩:=h.ex
 have:=congrArg List.length e
 rw[List.length_append,List.length_append] at this
 omega
theorem Wn.more{x W T V:List Sg}{b c:Nat}(h:Wn x b c W (T++V)):Wn x b (c+T.length) (W++T) V:=by
 obtain⟨D,e,eb,ec⟩:=h.ex
 exact⟨D,by rw[e]; simp only[List.append_assoc],eb,by rw[ec,List.length_append]; omega⟩
theorem Wn.cut{x W U:List Sg}{b c:Nat}(h:Wn x b c W U):Wn x c c [] U:=by
 obtain⟨D,e,eb,ec⟩:=h.ex
 exact⟨D++W,by rw[e,List.append_nil],by rw[ec,List.length_append],by rw[ec,List.length_append]; rfl⟩
theorem Wn.at{x W V:List Sg}{s:Sg}{b c:Nat}(h:Wn x b c W (s::V)):(aP x)[c]? = some s.av:=by
 obtain⟨D,e,eb,ec⟩:=h.ex
 rw[e,ec,m4,List.getElem?_append_right (by rw[List.length_map,List.length_append]; exact Nat.le_refl _),List.length_map,List.length_append,Nat.sub_self]
 rfl
section
variable{p:Params}{g:G1}{x W T D U V:List Sg}{j m n N f i a b c:Nat}{hd cm dn e:List (Str×AV)}{t:T1}{ys ev:List AV}{it:Cell}{s:Sg}{ty:Str}{r:Row}{gl:Option Nat}
theorem D8(hl:g.rows.length<=3):Go ((RN p (m+60)).tst (aR p) (e9 (jy p))) (aG p g x hd j t a b c f e) (decide (a<g.rows.length)) (aG p g x hd j t a b c f e):=by
 have e1:decide (a<g.rows.length)=decide ((a:Int)<((a4 g.rows).length:Int)):=by rw[List.length_map]; simp
 rw[e1]
 exact Go.by [] (aa (show(a4 g.rows).length<=M6 from lM (by rw[List.length_map]; omega)) trivial) (λ_=>by kernel_rfl)
theorem wR(h:t.due.length<=900):Go (aw p (m+60) (aR p) (DS p 0)) (aG p g x hd j t a b c f e) .next (aG p g x hd j { t with due:=t.due++[bj a] } a b c f e):=Go.by [] (aa (show 2<=M6 by decide) <| aa (show t.due.length<=M6 from lM h) trivial) (λ_=>by kernel_rfl)
theorem vJ:jt p (aR p) (DS p 1) none:=λenv he=>⟨rfl,rfl⟩
theorem wU(he:EF e)(hr:g.rows[a]? = some r)(hl:g.rows.length<=3):∃gl,Go (aw p (m+60) (aR p) (DS p 1)) (aG p g x hd j t a b c f e) .next (aG p g x hd j t a b c f (E1 r gl)):=by
 have l0:(a4 g.rows).length<=M6:=lM (by rw[List.length_map]; omega)
 have ha:a<g.rows.length:=by
  rcases Nat.lt_or_ge a g.rows.length with q | q
  ·exact q
  ·rw[List.getElem?_eq_none q] at hr; cases hr
 have h1:((0:Int)<=a/\(a:Int)<1000000/\(a4 g.rows)[a]? = some r.av)∨(a:Int) = -1/\(a4 g.rows)[(a4 g.rows).length - 1]? = some r.av:=.inl ⟨by omega,by omega,by rw[List.getElem?_map,hr]; rfl⟩
 rcases he with rfl | ⟨r',gl,rfl⟩
 ·exact⟨none,Go.by [.b false,.cut [] r.av] (aa (vJ (p:=p)) <| aa l0 <| aa h1 trivial) (λ_=>by kernel_rfl)⟩
 ·cases gl with
  | none=>exact⟨none,Go.by [.b false,.cut [] r.av] (aa (vJ (p:=p)) <| aa l0 <| aa h1 trivial) (λ_=>by kernel_rfl)⟩
  | some z=>exact⟨some z,Go.by [.b false,.cut [] r.av] (aa (vJ (p:=p)) <| aa l0 <| aa h1 trivial) (λ_=>by kernel_rfl)⟩
theorem DL:Go (aw p (m+60) (aR p) (DS p 2)) (aG p g x hd j t a b c (n+1) e) .next (aG p g x hd j t a b c (n+1) e):=Go.by [.b false] (aa (show(((n+1:Nat):Int) == 0)=false by simp; omega) trivial) (λ_=>by kernel_rfl)
theorem Nt(hl:g.rows.length<=3):Go (aw p (m+60) (aR p) (DS p 2)) (aG p g x hd j t a b c 0 e) .cont (aG p g x hd j t g.rows.length b c 0 e):=by
 have e1:((a4 g.rows).length:Int)=(g.rows.length:Int):=by rw[List.length_map]
 have g1:Go (aw p (m+60) (aR p) (DS p 2)) (aG p g x hd j t a b c 0 e) .cont (aG p g x hd j t (a4 g.rows).length b c 0 e):=Go.by [.b true] (aa (show((0:Int) == 0)=true by decide) <| aa (show(a4 g.rows).length<=M6 from lM (by rw[List.length_map]; omega)) trivial) (λ_=>by kernel_rfl)
 rw[List.length_map] at g1
 exact g1
theorem D9:Go (aw p (m+60) (aR p) (DS p 3)) (aG p g x hd j t a b c (n+1) e) .next (aG p g x hd j t a b c n e):=by
 have g1:Go (aw p (m+60) (aR p) (DS p 3)) (aG p g x hd j t a b c (n+1) e) .next (gN p g x hd j t (("due",.ref 24)::("text",.lst (aP x))::("plan",.ref 12)::("state",.int a)::("start",.int b)::("place",.int c)::("fuel",.int (((n+1:Nat):Int) - 1))::e)):=Go.by [] trivial (λ_=>by kernel_rfl)
 rw[show((n+1:Nat):Int) - 1=(n:Int) by omega] at g1
 exact g1
theorem Nu(hx:x.length<=14)(hs:(aP x)[c]? = some s.av)(hc:c<x.length)(h:dj r.sg s.d=true):Go ((RN p (m+60)).tst (aR p) (e9 (DS p 4))) (aG p g x hd j t a b c f (E1 r gl)) true (aG p g x hd j t a b c f (E1 r gl)):=by
 have l0:(aP x).length<=M6:=lM (by rw[List.length_map]; omega)
 have l1:decide ((c:Int)<((aP x).length:Int))=true:=decide_eq_true (by rw[List.length_map]; omega)
 have l2:(0:Int)<=c/\(c:Int)<1000000/\(aP x)[c]? = some s.av:=⟨by omega,by omega,hs⟩
 have l3:(0:Int)<=0/\(0:Int)<1000000/\some (AV.str s.s)=some (AV.str s.s):=⟨by decide,by decide,rfl⟩
 have q:SC r.sg (dj r.sg s.d=true/\True):=sc ⟨h,trivial⟩
 obtain⟨⟨lst,ds⟩,dd,as,ke,tw,go⟩:=r
 cases lst
 ·exact Go.by [.b true,.cut [] s.av,.cut [] (.str s.s),.b true] (aa l0 <| aa l1 <| aa l2 <| aa l3 q) (λ_=>by kernel_rfl)
 ·exact Go.by [.b true,.cut [] s.av,.cut [] (.str s.s),.b true] (aa l0 <| aa l1 <| aa l2 <| aa l3 q) (λ_=>by kernel_rfl)
theorem Nv(hx:x.length<=14)(hs:(aP x)[c]? = some s.av)(hc:c<x.length)(h:dj r.sg s.d=false):Go ((RN p (m+60)).tst (aR p) (e9 (DS p 4))) (aG p g x hd j t a b c f (E1 r gl)) false (aG p g x hd j t a b c f (E1 r gl)):=by
 have l0:(aP x).length<=M6:=lM (by rw[List.length_map]; omega)
 have l1:decide ((c:Int)<((aP x).length:Int))=true:=decide_eq_true (by rw[List.length_map]; omega)
 have l2:(0:Int)<=c/\(c:Int)<1000000/\(aP x)[c]? = some s.av:=⟨by omega,by omega,hs⟩
 have l3:(0:Int)<=0/\(0:Int)<1000000/\some (AV.str s.s)=some (AV.str s.s):=⟨by decide,by decide,rfl⟩
 have q:SC r.sg (dj r.sg s.d=false/\True):=sc ⟨h,trivial⟩
 obtain⟨⟨lst,ds⟩,dd,as,ke,tw,go⟩:=r
 cases lst
 ·exact Go.by [.b true,.cut [] s.av,.cut [] (.str s.s),.b false] (aa l0 <| aa l1 <| aa l2 <| aa l3 q) (λ_=>by kernel_rfl)
 ·exact Go.by [.b true,.cut [] s.av,.cut [] (.str s.s),.b false] (aa l0 <| aa l1 <| aa l2 <| aa l3 q) (λ_=>by kernel_rfl)
theorem Nw(hx:x.length<=14)(hc:c=x.length):Go ((RN p (m+60)).tst (aR p) (e9 (DS p 4))) (aG p g x hd j t a b c f (E1 r gl)) false (aG p g x hd j t a b c f (E1 r gl)):=by
 have l0:(aP x).length<=M6:=lM (by rw[List.length_map]; omega)
 have l1:decide ((c:Int)<((aP x).length:Int))=false:=decide_eq_false (by rw[List.length_map]; omega)
 exact Go.by [.b false] (aa l0 <| aa l1 trivial) (λ_=>by kernel_rfl)
theorem Nx:Go ((RN p (m+60)).aV (aR p) (fP (DS p 4))) (aG p g x hd j t a b c f e) .next (aG p g x hd j t a b (c+1) f e):=Go.by [] trivial (λ_=>by kernel_rfl)
theorem DM:aw p (m+60) (aR p) (DS p 4)=(RN p (m+60)).loop (aR p) (e9 (DS p 4)) (fP (DS p 4)):=by kernel_rfl
theorem uU(hx:x.length<=14):∀(U W:List Sg) (c:Nat) (h:Wn x b c W U) (M:Nat) (hM:61+U.length<=M),Go ((RN p M).loop (aR p) (e9 (DS p 4)) (fP (DS p 4))) (aG p g x hd j t a b c f (E1 r gl)) .next (aG p g x hd j t a b (c+(bB r.sg U).1.length) f (E1 r gl))
 | [],W,c,h,M,hM=>by
  obtain⟨m,rfl⟩:∃m,M=m+60+1:=⟨M - 61,by omega⟩
  have:=h.len
  exact kA (Nw hx (by simpa using this.1.symm))
 | s::U,W,c,h,M,hM=>by
  obtain⟨m,rfl⟩:∃m,M=m+60+1:=⟨M - 61,by omega⟩
  rw[List.length_cons] at hM
  have hl:=h.len
  rw[List.length_cons] at hl
  cases hb:dj r.sg s.d with
  | true =>
   have g2:=uU hx U (W++[s]) (c+1) (Wn.more (T:=[s]) h) (m+60) (by omega)
   rw[rp hb]
   show Go _ _ _ (aG p g x hd j t a b (c+((bB r.sg U).1.length+1)) f (E1 r gl))
   rw[show c+((bB r.sg U).1.length+1)=c+1+(bB r.sg U).1.length by omega]
   exact n5 (Nu hx h.at (by omega) hb) Nx g2
  | false =>
   rw[rq hb]
   exact kA (Nv hx h.at (by omega) hb)
end
section
variable(p:Params)
noncomputable abbrev a5:PySem.Expr:=iL (eL (cU (bD (e8 (DS p 5)) 0))) 0
noncomputable abbrev o5:PySem.Expr:=k7 (eB (cU (bD (e8 (DS p 5)) 0)))
noncomputable abbrev s9(i:Nat):Stmt:=bD (e8 (DS p 9)) i
noncomputable abbrev t9(i:Nat):Stmt:=bD (e8 (s9 p 1)) i
noncomputable abbrev a9:PySem.Expr:=iL (eL (cU (t9 p 0))) 0
noncomputable abbrev o9:PySem.Expr:=k7 (eB (cU (t9 p 0)))
end
section
variable{p:Params}{g:G1}{x W T D U V:List Sg}{j m n N f i a b c:Nat}{hd cm dn e:List (Str×AV)}{t:T1}{ys ev:List AV}{it:Cell}{s:Sg}{ty:Str}{r:Row}{gl:Option Nat}
theorem Ai{st:Stmt}{o aE:PySem.Expr}(e1:aw p (m+64) (aR p) st=EM.bind (lj (KK p) (RN p (m+63)) (aR p) o (Str.ofString "append") [aE] []) λ_=>EM.ret .next)(e2:(RN p (m+63)).ev (aR p) aE=EM.bind ((RN p (m+62)).ev (aR p) (eB aE)) λf=>eX (KK p) (RN p (m+62)) (aR p) f [] (eL aE) [])(h0:noStar aE=true)
  (ho:Go ((RN p (m+63)).ev (aR p) o) (aG p g x hd j t a b c f e) (.ref 24) (aG p g x hd j t a b c f e)) (hf:Go ((RN p (m+62)).ev (aR p) (eB aE)) (aG p g x hd j t a b c f e) (.val (.ref 273)) (aG p g x hd j t a b c f e))
  (ha:Go (dN (RN p (m+62)) (aR p) (eL aE)) (aG p g x hd j t a b c f e) [.str ty,.lst (aP x),.int b,.int c] (aG p g x hd j t a b c f e)) (hw:Wn x b c (s::T) U) (hx:x.length<=14) (h:bU t) (hh:dh hd) (he:EF e) (hl:t.due.length<=900) :
  Go (aw p (m+64) (aR p) st) (aG p g x hd j t a b c f e) .next (aG p g x hd j { t with due:=t.due++[bM (ty,s::T)] } a b c f e):=by
 have g1:=Hd (p:=p) (g:=g) (x:=x) (hd:=hd) (j:=j) (t:=t) (dn:=pD x a b c f e) (ty:=ty) (m:=m) (b:=b) (c:=c) (s:=s) (T:=T) (hw.ex.elim λD q=>⟨D,U,q⟩) hx h hh (uT (by decide) he.ok)
 have g2:Go (kq (KK p) (.ref 24) (Str.ofString "append")) (aG p g x hd j t a b c f e) (.val (.builtin "list.append"),[.ref 24]) (aG p g x hd j t a b c f e):=Go.by [] trivial (λ_=>by kernel_rfl)
 have g3:Go ((RN p (m+63)).call (.val (.builtin "list.append")) [.ref 24,bM (ty,s::T)] []) (aG p g x hd j t a b c f e) (.val .none) (aG p g x hd j { t with due:=t.due++[bM (ty,s::T)] } a b c f e):=Go.by [] (aa (show t.due.length<=M6 from lM hl) trivial) (λ_=>by kernel_rfl)
 exact Go.eq e1 (Go.bind (Go.wc ho g2 (by kernel_rfl) (Go.ni h0 (Go.eq e2 (Go.bind hf (Go.nh (by kernel_rfl) ha g1)))) g3) Go.ret)
theorem Ny:aw p (m+64) (aR p) (bD (e8 (DS p 5)) 0)=EM.bind (lj (KK p) (RN p (m+63)) (aR p) (o5 p) (Str.ofString "append") [a5 p] []) λ_=>EM.ret .next:=by kernel_rfl
theorem Nz:(RN p (m+63)).ev (aR p) (a5 p)=EM.bind ((RN p (m+62)).ev (aR p) (eB (a5 p))) λf=>eX (KK p) (RN p (m+62)) (aR p) f [] (eL (a5 p)) []:=by kernel_rfl
theorem NA:aw p (m+64) (aR p) (t9 p 0)=EM.bind (lj (KK p) (RN p (m+63)) (aR p) (o9 p) (Str.ofString "append") [a9 p] []) λ_=>EM.ret .next:=by kernel_rfl
theorem NB:(RN p (m+63)).ev (aR p) (a9 p)=EM.bind ((RN p (m+62)).ev (aR p) (eB (a9 p))) λf=>eX (KK p) (RN p (m+62)) (aR p) f [] (eL (a9 p)) []:=by kernel_rfl
theorem NC(hw:Wn x b c (s::T) U)(hx:x.length<=14)(h:bU t)(hh:dh hd)(he:EF e)(hl:t.due.length<=900)(ha:a<=3):Go (aw p (m+64) (aR p) (bD (e8 (DS p 5)) 0)) (aG p g x hd j t a b c f e) .next (aG p g x hd j { t with due:=t.due++[bM ("run"++hH a,s::T)] } a b c f e):=by
 have c0:(0:Int)<=a/\(a:Int)<9223372036854775808:=by omega
 exact Ai Ny Nz (by kernel_rfl) (Go.by [] trivial (λ_=>by kernel_rfl)) (Go.by [] trivial (λ_=>by kernel_rfl)) (Go.by [] (aa c0 <| aa (qC "run" ha (by decide)) trivial) (λ_=>by kernel_rfl)) hw hx h hh he hl
theorem ND(hw:Wn x b c (s::T) U)(hx:x.length<=14)(h:bU t)(hh:dh hd)(he:EF e)(hl:t.due.length<=900)(ha:a<=3):Go (aw p (m+64) (aR p) (t9 p 0)) (aG p g x hd j t a b c f e) .next (aG p g x hd j { t with due:=t.due++[bM ("one"++hH a,s::T)] } a b c f e):=by
 have c0:(0:Int)<=a/\(a:Int)<9223372036854775808:=by omega
 exact Ai NA NB (by kernel_rfl) (Go.by [] trivial (λ_=>by kernel_rfl)) (Go.by [] trivial (λ_=>by kernel_rfl)) (Go.by [] (aa c0 <| aa (qC "one" ha (by decide)) trivial) (λ_=>by kernel_rfl)) hw hx h hh he hl
theorem DN:aw p (m+65) (aR p) (DS p 5)=cF ((RN p (m+65)).tst (aR p) (fO (DS p 5))) (bp (aw p (m+64) (aR p)) [bD (e8 (DS p 5)) 0]) (EM.ret .next):=by kernel_rfl
theorem NF:Go ((RN p (m+65)).tst (aR p) (fO (DS p 5))) (aG p g x hd j t a b c f (E1 r gl)) (jv r.dd && decide (b<c)) (aG p g x hd j t a b c f (E1 r gl)):=by
 obtain⟨sg,dd,as,ke,tw,go⟩:=r
 cases dd with
 | emit =>
  have e:decide ((c:Int) > (b:Int))=decide (b<c):=by simp
  show Go _ _ (decide (b<c)) _
  rw[<- e]
  cases hb:decide ((c:Int) > (b:Int)) with
  | true=>exact Go.by [.b true,.b true] (aa rt <| aa hb trivial) (λ_=>by kernel_rfl)
  | false=>exact Go.by [.b true,.b false] (aa rt <| aa hb trivial) (λ_=>by kernel_rfl)
 | ignore=>exact Go.by [.b false] (aa rf trivial) (λ_=>by kernel_rfl)
 | leave=>exact Go.by [.b false] (aa rf trivial) (λ_=>by kernel_rfl)
theorem Ea(hw:Wn x b c W U)(hx:x.length<=14)(h:bU t)(hh:dh hd)(hl:t.due.length<=900)(ha:a<=3):Go (aw p (m+65) (aR p) (DS p 5)) (aG p g x hd j t a b c f (E1 r gl)) .next (aG p g x hd j { t with due:=t.due++(cS r a W).map bM } a b c f (E1 r gl)):=by
 have g1:=NF (p:=p) (g:=g) (x:=x) (hd:=hd) (j:=j) (t:=t) (a:=a) (b:=b) (c:=c) (f:=f) (r:=r) (gl:=gl) (m:=m)
 have hwl:=hw.len.2
 unfold cS
 rw[show decide (b<c)=decide (0<W.length) by rw[hwl]; simp] at g1
 cases hb:(jv r.dd && decide (0<W.length)) with
 | false =>
  rw[hb] at g1
  show Go _ _ _ (aG p g x hd j { t with due:=t.due++[] } a b c f (E1 r gl))
  rw[List.append_nil]
  exact Go.eq DN (Go.br g1 Go.ret)
 | true =>
  rw[hb] at g1
  cases W with
  | nil=>simp at hb
  | cons s T=>exact Go.eq DN (Go.br g1 (Go.stmt (NC hw hx h hh (.inr ⟨r,gl,rfl⟩) hl ha)))
theorem DO:aw p (m+65) (aR p) (DS p 6)=cF ((RN p (m+65)).tst (aR p) (fO (DS p 6))) ((RN p (m+65)).aV (aR p) (e8 (DS p 6))) (EM.ret .next):=by kernel_rfl
theorem NG:Go ((RN p (m+65)).tst (aR p) (fO (DS p 6))) (aG p g x hd j t a b c f (E1 r gl)) (!ie r.dd) (aG p g x hd j t a b c f (E1 r gl)):=by
 obtain⟨sg,dd,as,ke,tw,go⟩:=r
 cases dd <;> exact Go.by [] trivial (λ_=>by kernel_rfl)
theorem NH:Go ((RN p (m+65)).aV (aR p) (e8 (DS p 6))) (aG p g x hd j t a b c f e) .next (aG p g x hd j t a c c f e):=Go.by [] trivial (λ_=>by kernel_rfl)
theorem Eb:Go (aw p (m+65) (aR p) (DS p 6)) (aG p g x hd j t a b c f (E1 r gl)) .next (aG p g x hd j t a (_root_.cond (ie r.dd) b c) c f (E1 r gl)):=by
 have g1:=NG (p:=p) (g:=g) (x:=x) (hd:=hd) (j:=j) (t:=t) (a:=a) (b:=b) (c:=c) (f:=f) (r:=r) (gl:=gl) (m:=m)
 cases h:ie r.dd with
 | true=>rw[h] at g1; exact Go.eq DO (Go.br g1 Go.ret)
 | false=>rw[h] at g1; exact Go.eq DO (Go.br g1 NH)
theorem LI(hw:Wn x b c W U):Wn x (_root_.cond (ie r.dd) b c) c (w2 r W) U:=by
 unfold w2
 cases ie r.dd with
 | true=>exact hw
 | false=>exact hw.cut
theorem NI(hx:x.length<=14)(hc:c<x.length):Go (aw p (m+65) (aR p) (DS p 7)) (aG p g x hd j t a b c f e) .next (aG p g x hd j t a b c f e):=Go.by [.b false] (aa (show(aP x).length<=M6 from lM (by rw[List.length_map]; omega)) <| aa (show((c:Int) == ((aP x).length:Int))=false by rw[List.length_map]; simp; omega) trivial) (λ_=>by kernel_rfl)
theorem NJ(hx:x.length<=14)(hc:c=x.length)(ha:r.asks=true)(hl:t.due.length<=900):Go (aw p (m+65) (aR p) (DS p 7)) (aG p g x hd j t a b c f (E1 r gl)) (.ret (.bool false)) (aG p g x hd j { t with due:=t.due++[gA] } a b c f (E1 r gl)):=by
 obtain⟨sg,dd,as,ke,tw,go⟩:=r
 cases ha
 exact Go.by [.b true,.b true] (aa (show(aP x).length<=M6 from lM (by rw[List.length_map]; omega)) <| aa (show((c:Int) == ((aP x).length:Int))=true by rw[List.length_map]; simp; omega) <| aa rt <| aa (show 2<=M6 by decide) <| aa (show t.due.length<=M6 from lM hl) trivial) (λ_=>by kernel_rfl)
theorem NK{v:Nat}(hx:x.length<=14)(hc:c=x.length)(ha:r.asks=false)(hv:r.goes[4]? = some v):Go (aw p (m+65) (aR p) (DS p 7)) (aG p g x hd j t a b c f (E1 r gl)) .cont (aG p g x hd j t v b c f (E1 r gl)):=by
 have h1:(0:Int)<=4/\(4:Int)<1000000/\(fh r.goes)[4]? = some (.int (v:Int)):=⟨by decide,by decide,by rw[List.getElem?_map,hv]; rfl⟩
 obtain⟨sg,dd,as,ke,tw,go⟩:=r
 cases ha
 exact Go.by [.b true,.b false,.cut [] (.int (v:Int))] (aa (show(aP x).length<=M6 from lM (by rw[List.length_map]; omega)) <| aa (show((c:Int) == ((aP x).length:Int))=true by rw[List.length_map]; simp; omega) <| aa rf <| aa h1 trivial) (λ_=>by kernel_rfl)
theorem Ol{v:Nat}(hx:x.length<=14)(hc:c<x.length)(hs:(aP x)[c]? = some s.av)(hso:fW s)(hv:r.goes[num s]? = some v):Go (aw p (m+65) (aR p) (DS p 8)) (aG p g x hd j t a b c f (E1 r gl)) .next (aG p g x hd j t a b c f (E1 r (some v))):=by
 have l2:(0:Int)<=c/\(c:Int)<1000000/\(aP x)[c]? = some s.av:=⟨by omega,by omega,hs⟩
 have l3:(0:Int)<=0/\(0:Int)<1000000/\some (AV.str s.s)=some (AV.str s.s):=⟨by decide,by decide,rfl⟩
 have h1:(0:Int)<=(num s:Int)/\(num s:Int)<1000000/\(fh r.goes)[num s]? = some (.int (v:Int)):=⟨by omega,by have:=oD hso; omega,by rw[List.getElem?_map,hv]; rfl⟩
 cases gl with
 | none=>exact Go.by [.cut [] s.av,.cut [] (.str s.s),.cut [] (.int (num s)),.cut [] (.int (v:Int))] (aa l2 <| aa l3 <| aa (vH (p:=p)) <| aa (uP (p:=p) hso) <| aa h1 trivial) (λ_=>by kernel_rfl)
 | some z=>exact Go.by [.cut [] s.av,.cut [] (.str s.s),.cut [] (.int (num s)),.cut [] (.int (v:Int))] (aa l2 <| aa l3 <| aa (vH (p:=p)) <| aa (uP (p:=p) hso) <| aa h1 trivial) (λ_=>by kernel_rfl)
theorem DP{v:Nat}:Go (aw p (m+65) (aR p) (DS p 10)) (aG p g x hd j t a b c f (E1 r (some v))) .next (aG p g x hd j t v b c f (E1 r (some v))):=Go.by [] trivial (λ_=>by kernel_rfl)
theorem wm:aw p (m+67) (aR p) (DS p 9)=cF ((RN p (m+67)).tst (aR p) (fO (DS p 9))) (bp (aw p (m+66) (aR p)) [s9 p 0,s9 p 1]) (EM.ret .next):=by kernel_rfl
theorem wo:Go ((RN p (m+67)).tst (aR p) (fO (DS p 9))) (aG p g x hd j t a b c f (E1 r gl)) r.keeps (aG p g x hd j t a b c f (E1 r gl)):=Go.by [] trivial (λ_=>by kernel_rfl)
theorem DQ:Go (aw p (m+66) (aR p) (s9 p 0)) (aG p g x hd j t a b c f e) .next (aG p g x hd j t a b (c+1) f e):=Go.by [] trivial (λ_=>by kernel_rfl)
theorem CF:aw p (m+66) (aR p) (s9 p 1)=cF ((RN p (m+66)).tst (aR p) (fO (s9 p 1))) (bp (aw p (m+65) (aR p)) [t9 p 0,t9 p 1]) (EM.ret .next):=by kernel_rfl
theorem CG:Go ((RN p (m+66)).tst (aR p) (fO (s9 p 1))) (aG p g x hd j t a b c f (E1 r gl)) r.twice (aG p g x hd j t a b c f (E1 r gl)):=Go.by [] trivial (λ_=>by kernel_rfl)
theorem NL:Go (aw p (m+65) (aR p) (t9 p 1)) (aG p g x hd j t a b c f e) .next (aG p g x hd j t a c c f e):=Go.by [] trivial (λ_=>by kernel_rfl)
theorem NM(hk:r.keeps=false):Go (aw p (m+67) (aR p) (DS p 9)) (aG p g x hd j t a b c f (E1 r gl)) .next (aG p g x hd j t a b c f (E1 r gl)):=Go.eq wm (Go.br wo (by rw[hk]; exact Go.ret))
theorem NN(hk:r.keeps=true)(hw:Wn x b c W (s::V))(hx:x.length<=14)(h:bU t)(hh:dh hd)(hl:t.due.length<=900)(ha:a<=3):∃b' c',Wn x b' c' (k2 r (W++[s])) V/\Go (aw p (m+67) (aR p) (DS p 9)) (aG p g x hd j t a b c f (E1 r gl)) .next (aG p g x hd j { t with due:=t.due++(k1 r a (W++[s])).map bM } a b' c' f (E1 r gl)):=by
 have hw':Wn x b (c+1) (W++[s]) V:=Wn.more (T:=[s]) hw
 cases ht:r.twice with
 | false =>
  refine⟨b,c+1,by rw[k2,ht]; exact hw',?_⟩
  rw[show k1 r a (W++[s])=[] by rw[k1,ht]; rfl]
  show Go _ _ _ (aG p g x hd j { t with due:=t.due++[] } a b (c+1) f (E1 r gl))
  rw[List.append_nil]
  exact Go.eq wm (Go.br wo (by rw[hk]; exact Go.cons DQ (Go.stmt (Go.eq CF (Go.br CG (by rw[ht]; exact Go.ret))))))
 | true =>
  refine⟨c+1,c+1,by rw[k2,ht]; exact hw'.cut,?_⟩
  rw[show k1 r a (W++[s])=[("one"++hH a,W++[s])] by rw[k1,ht]; rfl]
  generalize hX:W++[s]=X at hw'
  cases X with
  | nil=>simp at hX
  | cons z O1=>exact Go.eq wm (Go.br wo (by rw[hk]; exact Go.cons DQ (Go.stmt (Go.eq CF (Go.br CG (by rw[ht]; exact Go.cons (ND (m:=m+1) hw' hx h hh (.inr ⟨r,gl,rfl⟩) hl ha) (Go.stmt NL)))))))
end
noncomputable abbrev tD(t:T1)(due:List AV):T1:={ t with due:=due }
section
variable{p:Params}{g:G1}{x W T D U V:List Sg}{j m n N f i a b c:Nat}{hd cm dn e:List (Str×AV)}{t:T1}{ys ev due:List AV}{it:Cell}{s:Sg}{ty:Str}{r:Row}{gl:Option Nat}
theorem oe:(RN p (m+81)).aV (aR p) (fP (jy p))=bp (aw p (m+80) (aR p)) [DS p 0,DS p 1,DS p 2,DS p 3,DS p 4,DS p 5,DS p 6,DS p 7,DS p 8,DS p 9,DS p 10]:=by kernel_rfl
theorem JL(he:EF e)(hr:g.rows[a]? = some r)(hl:g.rows.length<=3)(hdl:due.length<=900):∃gl,Go ((RN p (m+81)).aV (aR p) (fP (jy p))) (aG p g x hd j (tD t due) a b c 0 e) .cont (aG p g x hd j (tD t (due++[bj a])) g.rows.length b c 0 (E1 r gl)):=by
 obtain⟨gl,g1⟩:=wU (p:=p) (m:=m+20) (x:=x) (hd:=hd) (j:=j) (t:=tD t (due++[bj a])) (b:=b) (c:=c) (f:=0) he hr hl
 exact⟨gl,Go.eq oe (Go.cons (wR (m:=m+20) (t:=tD t due) hdl) (Go.cons g1 (Go.iI (Nt (m:=m+20) hl))))⟩
theorem JM{z:NX}(hg:ei g)(hx:x.length<=14)(he:EF e)(hr:g.rows[a]? = some r)(hw:Wn x b c W U)(hU:∀s∈U,fW s)(h:bU t)(hh:dh hd)(hcd:CL due)(hdl:due.length<=880)(hz:d8 r a W U=some z):
  ∃b' c' gl fl,(fl = .next∨fl = .cont)/\Wn x b' c' z.W z.V/\Go ((RN p (m+81)).aV (aR p) (fP (jy p))) (aG p g x hd j (tD t due) a b c (n+1) e) fl (aG p g x hd j (tD t (due++(bj a::z.tk.map bM))) z.st b' c' n (E1 r gl)):=by
 have ha3:a<=3:=by
  rcases Nat.lt_or_ge a g.rows.length with q | q
  ·have:=hg.r3; omega
  ·rw[List.getElem?_eq_none q] at hr; cases hr
 have hro:jg g.rows.length r:=hg.hr r (List.mem_of_getElem? hr)
 have g0:Go (aw p (m+80) (aR p) (DS p 0)) (aG p g x hd j (tD t due) a b c (n+1) e) .next (aG p g x hd j (tD t (due++[bj a])) a b c (n+1) e):=wR (m:=m+20) (t:=tD t due) (show due.length<=900 by omega)
 have hc1:CL (due++[bj a]):=fA hcd
 have hl1:(due++[bj a]).length<=881:=by rw[List.length_append,List.length_singleton]; omega
 have e0:∀l,due++(bj a::l)=(due++[bj a])++l:=λl=>by rw[List.append_assoc]; rfl
 rw[e0 (z.tk.map bM)]
 generalize due++[bj a]=due at g0 hc1 hl1 ⊢
 obtain⟨gl,g1⟩:=wU (p:=p) (m:=m+20) (x:=x) (hd:=hd) (j:=j) (t:=tD t due) (b:=b) (c:=c) (f:=n+1) he hr hg.r3
 have g2:Go (aw p (m+80) (aR p) (DS p 2)) (aG p g x hd j (tD t due) a b c (n+1) (E1 r gl)) .next (aG p g x hd j (tD t due) a b c (n+1) (E1 r gl)):=DL (m:=m+20)
 have g3:Go (aw p (m+80) (aR p) (DS p 3)) (aG p g x hd j (tD t due) a b c (n+1) (E1 r gl)) .next (aG p g x hd j (tD t due) a b c n (E1 r gl)):=D9 (m:=m+20)
 have hlen:=hw.len
 have g4:=Go.eq (DM (p:=p) (m:=m+20)) (uU (p:=p) (g:=g) (hd:=hd) (j:=j) (t:=tD t due) (a:=a) (f:=n) (r:=r) (gl:=gl) hx U W c hw (m+80) (by omega))
 have eS:=lK r.sg U
 have hVU:∀s∈(bB r.sg U).2,s∈U:=λs hs=>by rw[<- eS]; exact List.mem_append_right _ hs
 have hw1:Wn x b (c+(bB r.sg U).1.length) (W++(bB r.sg U).1) (bB r.sg U).2:=Wn.more (by rw[eS]; exact hw)
 unfold d8 at hz
 generalize W++(bB r.sg U).1=W1 at hz hw1
 generalize c+(bB r.sg U).1.length=c1 at g4 hw1
 generalize (bB r.sg U).2=V1 at hz hw1 hVU
 have h1:bU (tD t due):=⟨hc1,h.ev,h.tb,h.pb,h.ct⟩
 have g5:Go (aw p (m+80) (aR p) (DS p 5)) (aG p g x hd j (tD t due) a b c1 n (E1 r gl)) .next (aG p g x hd j (tD t (due++(cS r a W1).map bM)) a b c1 n (E1 r gl)):=Ea (m:=m+15) (t:=tD t due) hw1 hx h1 hh (show due.length<=900 by omega) ha3
 have hk:=qU r a W1
 have hc2:CL (due++(cS r a W1).map bM):=hc1.app (qV _)
 have hl2:(due++(cS r a W1).map bM).length<=882:=by rw[List.length_append,List.length_map]; omega
 generalize cS r a W1=l1 at g5 hz hc2 hl2
 have g6:Go (aw p (m+80) (aR p) (DS p 6)) (aG p g x hd j (tD t (due++l1.map bM)) a b c1 n (E1 r gl)) .next (aG p g x hd j (tD t (due++l1.map bM)) a (_root_.cond (ie r.dd) b c1) c1 n (E1 r gl)):=Eb (m:=m+15)
 have hw2:=LI (r:=r) hw1
 generalize _root_.cond (ie r.dd) b c1=b2 at g6 hw2
 generalize w2 r W1=W2 at hz hw2
 have hlen2:=hw2.len
 cases V1 with
 | nil =>
  cases ha:r.asks with
  | true=>rw[ha] at hz; cases hz
  | false =>
   rw[ha] at hz
   cases hz
   have q:=n8 hro (show 4<5 by decide)
   have g7:Go (aw p (m+80) (aR p) (DS p 7)) (aG p g x hd j (tD t (due++l1.map bM)) a b2 c1 n (E1 r gl)) .cont (aG p g x hd j (tD t (due++l1.map bM)) (r.goes.getD 4 0) b2 c1 n (E1 r gl)):=NK (m:=m+15) hx (by simpa using hlen2.1.symm) ha q.1
   exact⟨b2,c1,gl,.cont,.inr rfl,hw2,Go.eq oe (Go.cons g0 (Go.cons g1 (Go.cons g2 (Go.cons g3 (Go.cons g4 (Go.cons g5 (Go.cons g6 (Go.iI g7))))))))⟩
 | cons s V =>
  rw[List.length_cons] at hlen2
  have hs:=hU s (hVU s (.head _))
  have q:=n8 hro (Nat.lt_trans (oD hs) (by decide))
  have g7:Go (aw p (m+80) (aR p) (DS p 7)) (aG p g x hd j (tD t (due++l1.map bM)) a b2 c1 n (E1 r gl)) .next (aG p g x hd j (tD t (due++l1.map bM)) a b2 c1 n (E1 r gl)):=NI (m:=m+15) hx (by omega)
  have g8:Go (aw p (m+80) (aR p) (DS p 8)) (aG p g x hd j (tD t (due++l1.map bM)) a b2 c1 n (E1 r gl)) .next (aG p g x hd j (tD t (due++l1.map bM)) a b2 c1 n (E1 r (some (r.goes.getD (num s) 0)))):=Ol (m:=m+15) hx (by omega) hw2.at hs q.1
  have h2:bU (tD t (due++l1.map bM)):=⟨hc2,h.ev,h.tb,h.pb,h.ct⟩
  cases hkp:r.keeps with
  | true =>
   rw[hkp] at hz
   cases hz
   obtain⟨b',c',hw3,g9⟩:=NN (p:=p) (m:=m+13) (hd:=hd) (j:=j) (t:=tD t (due++l1.map bM)) (a:=a) (f:=n) (gl:=some (r.goes.getD (num s) 0)) hkp hw2 hx h2 hh (show(due++l1.map bM).length<=900 by omega) ha3
   refine⟨b',c',some (r.goes.getD (num s) 0),.next,.inl rfl,hw3,?_⟩
   rw[List.map_append,<- List.append_assoc]
   exact Go.eq oe (Go.cons g0 (Go.cons g1 (Go.cons g2 (Go.cons g3 (Go.cons g4 (Go.cons g5 (Go.cons g6 (Go.cons g7 (Go.cons g8 (Go.cons g9 (Go.stmt (DP (m:=m+15)))))))))))))
  | false =>
   rw[hkp] at hz
   cases hz
   exact⟨b2,c1,some (r.goes.getD (num s) 0),.next,.inl rfl,hw2,Go.eq oe (Go.cons g0 (Go.cons g1 (Go.cons g2 (Go.cons g3 (Go.cons g4 (Go.cons g5 (Go.cons g6 (Go.cons g7 (Go.cons g8 (Go.cons (NM (m:=m+13) hkp) (Go.stmt (DP (m:=m+15)))))))))))))⟩
theorem JN(hg:ei g)(hx:x.length<=14)(he:EF e)(hr:g.rows[a]? = some r)(hw:Wn x b c W U)(h:bU t)(hh:dh hd)(hcd:CL due)(hdl:due.length<=880)(hz:d8 r a W U=none):
  ∃b' c' gl,Go ((RN p (m+81)).aV (aR p) (fP (jy p))) (aG p g x hd j (tD t due) a b c (n+1) e) (.ret (.bool false)) (aG p g x hd j (tD t (due++[bj a,gA])) a b' c' n (E1 r gl)):=by
 have ha3:a<=3:=by
  rcases Nat.lt_or_ge a g.rows.length with q | q
  ·have:=hg.r3; omega
  ·rw[List.getElem?_eq_none q] at hr; cases hr
 have hro:jg g.rows.length r:=hg.hr r (List.mem_of_getElem? hr)
 have g0:Go (aw p (m+80) (aR p) (DS p 0)) (aG p g x hd j (tD t due) a b c (n+1) e) .next (aG p g x hd j (tD t (due++[bj a])) a b c (n+1) e):=wR (m:=m+20) (t:=tD t due) (show due.length<=900 by omega)
 have hc1:CL (due++[bj a]):=fA hcd
 have hl1:(due++[bj a]).length<=881:=by rw[List.length_append,List.length_singleton]; omega
 have e0:due++[bj a,gA]=(due++[bj a])++[gA]:=by rw[List.append_assoc]; rfl
 rw[e0]
 generalize due++[bj a]=due at g0 hc1 hl1 ⊢
 obtain⟨gl,g1⟩:=wU (p:=p) (m:=m+20) (x:=x) (hd:=hd) (j:=j) (t:=tD t due) (b:=b) (c:=c) (f:=n+1) he hr hg.r3
 have g2:Go (aw p (m+80) (aR p) (DS p 2)) (aG p g x hd j (tD t due) a b c (n+1) (E1 r gl)) .next (aG p g x hd j (tD t due) a b c (n+1) (E1 r gl)):=DL (m:=m+20)
 have g3:Go (aw p (m+80) (aR p) (DS p 3)) (aG p g x hd j (tD t due) a b c (n+1) (E1 r gl)) .next (aG p g x hd j (tD t due) a b c n (E1 r gl)):=D9 (m:=m+20)
 have hlen:=hw.len
 have g4:=Go.eq (DM (p:=p) (m:=m+20)) (uU (p:=p) (g:=g) (hd:=hd) (j:=j) (t:=tD t due) (a:=a) (f:=n) (r:=r) (gl:=gl) hx U W c hw (m+80) (by omega))
 have eS:=lK r.sg U
 have hw1:Wn x b (c+(bB r.sg U).1.length) (W++(bB r.sg U).1) (bB r.sg U).2:=Wn.more (by rw[eS]; exact hw)
 have hV:(bB r.sg U).2=[]/\r.asks=true:=by
  unfold d8 at hz
  cases hV:(bB r.sg U).2 with
  | nil =>
   rw[hV] at hz
   cases ha:r.asks with
   | true=>exact⟨rfl,rfl⟩
   | false=>rw[ha] at hz; cases hz
  | cons s V =>
   rw[hV] at hz
   cases hk:r.keeps <;> rw[hk] at hz <;> cases hz
 rw[hV.1] at hw1
 generalize W++(bB r.sg U).1=W1 at hw1
 generalize c+(bB r.sg U).1.length=c1 at g4 hw1
 have hdd:jv r.dd=false:=by
  have:=hro.dd hV.2
  cases h:r.dd with
  | emit=>exact absurd h this
  | _=>rfl
 have h1:bU (tD t due):=⟨hc1,h.ev,h.tb,h.pb,h.ct⟩
 have g5:Go (aw p (m+80) (aR p) (DS p 5)) (aG p g x hd j (tD t due) a b c1 n (E1 r gl)) .next (aG p g x hd j (tD t (due++(cS r a W1).map bM)) a b c1 n (E1 r gl)):=Ea (m:=m+15) (t:=tD t due) hw1 hx h1 hh (show due.length<=900 by omega) ha3
 rw[show cS r a W1=[] by unfold cS; rw[hdd]; rfl,List.map_nil,List.append_nil] at g5
 have g6:Go (aw p (m+80) (aR p) (DS p 6)) (aG p g x hd j (tD t due) a b c1 n (E1 r gl)) .next (aG p g x hd j (tD t due) a (_root_.cond (ie r.dd) b c1) c1 n (E1 r gl)):=Eb (m:=m+15)
 have hc':c1=x.length:=by have:=hw1.len.1; simpa using this.symm
 have g7:Go (aw p (m+80) (aR p) (DS p 7)) (aG p g x hd j (tD t due) a (_root_.cond (ie r.dd) b c1) c1 n (E1 r gl)) (.ret (.bool false)) (aG p g x hd j (tD t (due++[gA])) a (_root_.cond (ie r.dd) b c1) c1 n (E1 r gl)):=NJ (m:=m+15) (t:=tD t due) hx hc' hV.2 (show due.length<=900 by omega)
 exact⟨_,_,gl,Go.eq oe (Go.cons g0 (Go.cons g1 (Go.cons g2 (Go.cons g3 (Go.cons g4 (Go.cons g5 (Go.cons g6 (Go.iI g7))))))))⟩
end
noncomputable abbrev wV(p:Params)(M:Nat):EM aU:=(RN p M).loop (aR p) (e9 (jy p)) (fP (jy p))
noncomputable def rI(p:Params)(g:G1)(x:List Sg)(hd:List (Str×AV))(j:Nat)(t:T1)(due ev:List AV):Bool->aU->St->Prop
 | true,fl,J=>∃ev' a b c n e,EF e/\fl = .next/\ev=ev'++[bj g.rows.length]/\J=aG p g x hd j (tD t (due++ev')) a b c n e
 | false,fl,J=>∃a b c n e,EF e/\fl = .ret (.bool false)/\J=aG p g x hd j (tD t (due++ev)) a b c n e
section
variable{p:Params}{g:G1}{x W T D U V:List Sg}{j m n N f i a b c:Nat}{hd cm dn e:List (Str×AV)}{t:T1}{ys ev due:List AV}{it:Cell}{s:Sg}{ty:Str}{r:Row}{gl:Option Nat}{bb:Bool}{fl:aU}{J:St}
theorem rI.more{l:List AV}(h:rI p g x hd j t (due++l) ev bb fl J):rI p g x hd j t due (l++ev) bb fl J:=by
 cases bb with
 | true =>
  obtain⟨ev',a,b,c,n,e,he,hf,rfl,rfl⟩:=h
  exact⟨l++ev',a,b,c,n,e,he,hf,(List.append_assoc ..).symm,by rw[List.append_assoc]⟩
 | false =>
  obtain⟨a,b,c,n,e,he,hf,rfl⟩:=h
  exact⟨a,b,c,n,e,he,hf,by rw[List.append_assoc]⟩
theorem Aj(hr:g.rows[a]? = some r):a<g.rows.length:=by
 rcases Nat.lt_or_ge a g.rows.length with q | q
 ·exact q
 ·rw[List.getElem?_eq_none q] at hr; cases hr
theorem DR(hl:g.rows.length<=3)(ha:a<g.rows.length):Go ((RN p (m+60)).tst (aR p) (e9 (jy p))) (aG p g x hd j t a b c f e) true (aG p g x hd j t a b c f e):=by
 have:=D8 (p:=p) (g:=g) (x:=x) (hd:=hd) (j:=j) (t:=t) (a:=a) (b:=b) (c:=c) (f:=f) (e:=e) (m:=m) hl
 rw[decide_eq_true ha] at this
 exact this
theorem wq(hl:g.rows.length<=3)(ha:g.rows.length<=a):Go ((RN p (m+60)).tst (aR p) (e9 (jy p))) (aG p g x hd j t a b c f e) false (aG p g x hd j t a b c f e):=by
 have:=D8 (p:=p) (g:=g) (x:=x) (hd:=hd) (j:=j) (t:=t) (a:=a) (b:=b) (c:=c) (f:=f) (e:=e) (m:=m) hl
 rw[decide_eq_false (by omega)] at this
 exact this
theorem He(hg:ei g)(hx:x.length<=14)(h:bU t)(hh:dh hd):∀(n a b c:Nat) (W U:List Sg) (hw:Wn x b c W U) (hU:∀s∈U,fW s) (e:List (Str×AV)) (he:EF e) (due:List AV) (hcd:CL due) (hdl:due.length+4 * n<=880) (M:Nat) (hM:84+n<=M),
  ∃fl J,rI p g x hd j t due (bL g.rows n a W U).1 (bL g.rows n a W U).2 fl J/\Go (wV p M) (aG p g x hd j (tD t due) a b c n e) fl J:=by
 intro n
 induction n with
 | zero =>
  intro a b c W U hw hU e he due hcd hdl M hM
  cases hr:g.rows[a]? with
  | none =>
   obtain⟨m,rfl⟩:∃m,M=m+60+1:=⟨M - 61,by omega⟩
   rw[i8 hr]
   exact⟨.next,_,⟨[],a,b,c,0,e,he,rfl,rfl,by rw[List.append_nil]⟩,kA (wq hg.r3 (List.getElem?_eq_none_iff.mp hr))⟩
  | some r =>
   obtain⟨m,rfl⟩:∃m,M=m+82:=⟨M - 82,by omega⟩
   rw[oX hr]
   obtain⟨gl,g1⟩:=JL (p:=p) (g:=g) (x:=x) (hd:=hd) (j:=j) (t:=t) (b:=b) (c:=c) (m:=m) he hr hg.r3 (show due.length<=900 by omega)
   have g2:Go (wV p (m+81)) (aG p g x hd j (tD t (due++[bj a])) g.rows.length b c 0 (E1 r gl)) .next (aG p g x hd j (tD t (due++[bj a])) g.rows.length b c 0 (E1 r gl)):=kA (wq (m:=m+20) hg.r3 (Nat.le_refl _))
   exact⟨.next,_,⟨[bj a],g.rows.length,b,c,0,E1 r gl,.inr ⟨r,gl,rfl⟩,rfl,rfl,rfl⟩,n5 (DR (m:=m+21) hg.r3 (Aj hr)) g1 g2 (.inr rfl)⟩
 | succ n ih =>
  intro a b c W U hw hU e he due hcd hdl M hM
  cases hr:g.rows[a]? with
  | none =>
   obtain⟨m,rfl⟩:∃m,M=m+60+1:=⟨M - 61,by omega⟩
   rw[i8 hr]
   exact⟨.next,_,⟨[],a,b,c,n+1,e,he,rfl,rfl,by rw[List.append_nil]⟩,kA (wq hg.r3 (List.getElem?_eq_none_iff.mp hr))⟩
  | some r =>
   obtain⟨m,rfl⟩:∃m,M=m+82:=⟨M - 82,by omega⟩
   have hro:jg g.rows.length r:=hg.hr r (List.mem_of_getElem? hr)
   have gt:=DR (p:=p) (x:=x) (hd:=hd) (j:=j) (t:=tD t due) (b:=b) (c:=c) (f:=n+1) (e:=e) (m:=m+21) hg.r3 (Aj hr)
   cases hz:d8 r a W U with
   | none =>
    rw[oY hr hz]
    obtain⟨b',c',gl,g1⟩:=JN (p:=p) (n:=n) (m:=m) (j:=j) hg hx he hr hw h hh hcd (show due.length<=880 by omega) hz
    exact⟨.ret (.bool false),_,⟨a,b',c',n,E1 r gl,.inr ⟨r,gl,rfl⟩,rfl,rfl⟩,I3 gt g1⟩
   | some z =>
    rw[oZ hr hz]
    have so:=Ae hro hU hz
    have htl:=so.tl
    obtain⟨b',c',gl,f3,hf,hw',g1⟩:=JM (p:=p) (n:=n) (m:=m) (j:=j) hg hx he hr hw hU h hh hcd (show due.length<=880 by omega) hz
    have e1:due++(bj a::z.tk.map bM)=(due++[bj a])++z.tk.map bM:=by rw[List.append_assoc]; rfl
    obtain⟨fl,J,h2,g2⟩:=ih z.st b' c' z.W z.V hw' (λs hs=>hU s (so.sub s hs)) (E1 r gl) (.inr ⟨r,gl,rfl⟩) (due++(bj a::z.tk.map bM)) (e1▸(fA hcd).app (qV _)) (by rw[List.length_append,List.length_cons,List.length_map]; omega) (m+81) (by omega)
    exact⟨fl,J,h2.more,n5 gt g1 g2 hf⟩
end
noncomputable def rU(x:List Sg):List (Str×AV):=[("due",.ref 24),("text",.lst (aP x)),("plan",.ref 12)]
theorem Io:CL [gA]:=CL.cons (CL.tup (CL.cons (λ_=>.str _) (CL.cons (λ_=>.val _) CL.nil))) CL.nil
theorem oG{rows:List Row}:∀(f i:Nat) (W U:List Sg),CL (bL rows f i W U).1
 | 0,i,W,U=>by
  cases h:rows[i]? with
  | none=>rw[i8 h]; exact fA CL.nil
  | some r=>rw[oX h]; exact fA (fA CL.nil)
 | f+1,i,W,U=>by
  cases h:rows[i]? with
  | none=>rw[i8 h]; exact fA CL.nil
  | some r =>
   cases hx:d8 r i W U with
   | none=>rw[oY h hx]; exact CL.app (fA (i:=i) CL.nil) Io
   | some x =>
    rw[oZ h hx]
    exact CL.app (fA (i:=i) CL.nil) ((qV _).app (oG f x.st x.W x.V))
theorem zi{p:Params}{g:G1}{r hd:List (Str×AV)}{j N:Nat}{t:T1}(h:bU t)(hh:dh hd)(hN:43<=N)(hr:aO N r):UC N (bP p g r hd j t).objs:=aY (show 23<N by omega) (qm h (qB (by omega)) (by omega) (qT (by omega) hr) (hh.ns (by omega)) mQ)
section
variable{p:Params}{g:G1}{x W T D U V:List Sg}{j m n N f i a b c:Nat}{hd cm dn e:List (Str×AV)}{t:T1}{ys ev due:List AV}{it:Cell}{s:Sg}{ty:Str}{r:Row}{gl:Option Nat}{bb:Bool}{fl:aU}{J:St}{gd:Bool}
theorem LJ:jt p (aR p) (bD (gM p) 0) none:=λenv he=>⟨rfl,rfl⟩
theorem Om:Go (aw p (m+60) (aR p) (bD (gM p) 0)) (gN p g x hd j t (rU x)) .next (aG p g x hd j t 0 0 0 18 []):=Go.by [.b false] (aa (LJ (p:=p)) <| aa (show 4<=M6 by decide) trivial) (λ_=>by kernel_rfl)
theorem Ec:aw p m (aR p) (bD (gM p) 1)=wV p m:=by kernel_rfl
theorem Oo(hl:g.rows.length<=3)(hd':due.length<=900):Go (aw p (m+60) (aR p) (bD (gM p) 2)) (aG p g x hd j (tD t due) a b c n e) .next (aG p g x hd j (tD t (due++[bj g.rows.length])) a b c n e):=by
 have g1:Go (aw p (m+60) (aR p) (bD (gM p) 2)) (aG p g x hd j (tD t due) a b c n e) .next (aG p g x hd j (tD t (due++[bj (a4 g.rows).length])) a b c n e):=Go.by [] (aa (show(a4 g.rows).length<=M6 from lM (by rw[List.length_map]; omega)) <| aa (show 2<=M6 by decide) <| aa (show due.length<=M6 from lM hd') trivial) (λ_=>by kernel_rfl)
 rw[List.length_map] at g1
 exact g1
theorem Oq:Go (aw p (m+60) (aR p) (bD (gM p) 3)) (aG p g x hd j t a b c n e) (.ret (.bool true)) (aG p g x hd j t a b c n e):=Go.by [] trivial (λ_=>by kernel_rfl)
theorem CH:bp (aw p m (aR p)) (bF p 280).body=bp (aw p m (aR p)) [bD (gM p) 0,bD (gM p) 1,bD (gM p) 2,bD (gM p) 3]:=by kernel_rfl
theorem Ip(hg:ei g)(hx:x.length<=14)(hU:∀s∈x,fW s)(h:bU t)(hh:dh hd)(hcd:CL due)(hdl:due.length<=800):
  ∃dn,aO 43 dn/\Go (bp (aw p (m+102) (aR p)) (bF p 280).body) (gN p g x hd j (tD t due) (rU x)) (.ret (.bool (bL g.rows 18 0 [] x).2)) (gN p g x hd j (tD t (due++(bL g.rows 18 0 [] x).1)) dn):=by
 obtain⟨fl,J,h1,g1⟩:=He (p:=p) (g:=g) (x:=x) (hd:=hd) (j:=j) (t:=t) hg hx h hh 18 0 0 0 [] x ⟨[],rfl,rfl,rfl⟩ hU [] (.inl rfl) due hcd (by omega) (m+102) (by omega)
 have g0:Go (aw p (m+102) (aR p) (bD (gM p) 0)) (gN p g x hd j (tD t due) (rU x)) .next (aG p g x hd j (tD t due) 0 0 0 18 []):=Om (m:=m+42)
 have hl:=oa (rows:=g.rows) 18 0 [] x
 cases hb:(bL g.rows 18 0 [] x).2 with
 | true =>
  rw[hb] at h1
  obtain⟨ev',a,b,c,n,e,he,rfl,e1,rfl⟩:=h1
  rw[e1] at hl ⊢
  rw[List.length_append] at hl
  refine⟨pD x a b c n e,uT (by decide) he.ok,?_⟩
  have g2:Go (aw p (m+102) (aR p) (bD (gM p) 2)) (aG p g x hd j (tD t (due++ev')) a b c n e) .next (aG p g x hd j (tD t ((due++ev')++[bj g.rows.length])) a b c n e):=Oo (m:=m+42) hg.r3 (by rw[List.length_append]; omega)
  rw[List.append_assoc] at g2
  exact Go.eq CH (Go.cons g0 (Go.cons (Go.eq Ec g1) (Go.cons g2 (Go.iI (Oq (m:=m+42))))))
 | false =>
  rw[hb] at h1
  obtain⟨a,b,c,n,e,he,rfl,rfl⟩:=h1
  exact⟨pD x a b c n e,uT (by decide) he.ok,Go.eq CH (Go.cons g0 (Go.iI (Go.eq Ec g1)))⟩
theorem Hf(hg:ei g)(hx:x.length<=14)(hU:∀s∈x,fW s)(h:bU t)(hh:dh hd)(hcd:CL due)(hdl:due.length<=800):
  Go ((RN p (m+104)).call (.val (.ref 280)) [.ref 12,.lst (aP x),.ref 24] []) (bP p g (cT x) hd j (tD t due)) (.bool (bL g.rows 18 0 [] x).2) (bP p g (cT x) hd j (tD t (due++(bL g.rows 18 0 [] x).1))):=by
 obtain⟨dn,hn,g1⟩:=Ip (p:=p) (j:=j) (m:=m) hg hx hU h hh hcd hdl
 have hl:=oG (rows:=g.rows) 18 0 [] x
 generalize (bL g.rows 18 0 [] x).1=ev at g1 hl ⊢
 generalize (bL g.rows 18 0 [] x).2=b at g1 ⊢
 have h2:bU (tD t (due++ev)):=⟨hcd.app hl,h.ev,h.tb,h.pb,h.ct⟩
 have g2:Go (iA (bF p 280).scope (bF p 280).closure (bF p 280).code (bF p 280).fz [("plan",.ref 12),("text",.lst (aP x)),("due",.ref 24)]) (bP p g (cT x) hd j (tD t due)) (aR p) (gN p g x hd j (tD t due) (rU x)):=Go.by [] trivial (λ_=>by kernel_rfl)
 have g3:Go (gq 43 (.bool b)) (gN p g x hd j (tD t (due++ev)) dn) (.bool b) (bP p g (cT x) hd j (tD t (due++ev))):=Go.by [.norm] (aa (show UV 43 (.bool b) (bP p g (cT x) hd j (tD t (due++ev))).objs from⟨.bool _,zi h2 hh (by decide) (.cons (CL.lst (iJ _) _) .nil)⟩) trivial) (λ_=>by kernel_rfl)
 exact Go.eq (show(RN p (m+104)).call (.val (.ref 280)) [.ref 12,.lst (aP x),.ref 24] []=fY (RN p (m+103)) (bF p 280) [.ref 12,.lst (aP x),.ref 24] [] by kernel_rfl) (Go.fn (by kernel_rfl) (binds:=[("plan",.ref 12),("text",.lst (aP x)),("due",.ref 24)]) (by kernel_rfl) g2 (Go.bind (Go.aV (n:=m+102) g1) (Go.rt g3)))
theorem NO:aw p (m+105) (aT p) (FS p 0)=EM.bind (EM.bind ((RN p (m+104)).ev (aT p) (eB (cU (FS p 0)))) λf=>eX (KK p) (RN p (m+104)) (aT p) f [] (eL (cU (FS p 0))) []) λv=>EM.bind (cb (KK p) (RN p (m+105)) (aT p) v (gU (FS p 0))) λ_=>EM.ret .next:=by kernel_rfl
theorem NP(hg:ei g)(hx:x.length<=14)(hU:∀s∈x,fW s)(h:bU t)(hh:dh hd)(hcd:CL due)(hdl:due.length<=800):
  Go (aw p (m+105) (aT p) (FS p 0)) (bP p g (cT x) hd j (tD t due)) .next (bP p g (ij x (bL g.rows 18 0 [] x).2) hd j (tD t (due++(bL g.rows 18 0 [] x).1))):=by
 have g1:=Hf (p:=p) (j:=j) (m:=m) hg hx hU h hh hcd hdl
 generalize (bL g.rows 18 0 [] x).1=ev at g1 ⊢
 generalize (bL g.rows 18 0 [] x).2=b at g1 ⊢
 have g0:Go ((RN p (m+104)).ev (aT p) (eB (cU (FS p 0)))) (bP p g (cT x) hd j (tD t due)) (.val (.ref 280)) (bP p g (cT x) hd j (tD t due)):=Go.by [] trivial (λ_=>by kernel_rfl)
 have g2:Go (dN (RN p (m+104)) (aT p) (eL (cU (FS p 0)))) (bP p g (cT x) hd j (tD t due)) [.ref 12,.lst (aP x),.ref 24] (bP p g (cT x) hd j (tD t due)):=Go.by [] trivial (λ_=>by kernel_rfl)
 have g3:Go (cb (KK p) (RN p (m+105)) (aT p) (.bool b) (gU (FS p 0))) (bP p g (cT x) hd j (tD t (due++ev))) PUnit.unit (bP p g (ij x b) hd j (tD t (due++ev))):=Go.by [] trivial (λ_=>by kernel_rfl)
 exact Go.eq NO (Go.bind (Go.bind g0 (Go.nh (by kernel_rfl) g2 g1)) (Go.bind (f:=λ_=>EM.ret aU.next) g3 Go.ret))
end
noncomputable abbrev f9(ev:List AV):Prop:=ev.all (kH 3)=true
theorem f9.app{a b:List AV}(h:f9 a)(k:f9 b):f9 (a++b):=by
 show(a++b).all (kH 3)=true
 rw[List.all_append,show a.all (kH 3)=true from h,show b.all (kH 3)=true from k]
 rfl
theorem nr(i:Nat):f9 [bj i]:=by kernel_rfl
theorem LK:f9 [gA]:=by kernel_rfl
theorem JO(l:List (Str×List Sg)):f9 (l.map bM):=by
 refine List.all_eq_true.mpr λx hx=>?_
 obtain⟨⟨ty,W⟩,_,rfl⟩:=List.mem_map.mp hx
 cases W with
 | nil=>kernel_rfl
 | cons s W =>
  show kH 3 (.tup [.str "token",.str ty,.str (tS ((s::W).map (·.d))),.int s.r,.int s.c,.str s.f])=true
  generalize tS ((s::W).map (·.d))=z
  kernel_rfl
theorem uV{rows:List Row}:∀(f i:Nat) (W U:List Sg),f9 (bL rows f i W U).1
 | 0,i,W,U=>by
  cases h:rows[i]? with
  | none=>rw[i8 h]; exact nr _
  | some r=>rw[oX h]; exact(nr i).app (nr _)
 | f+1,i,W,U=>by
  cases h:rows[i]? with
  | none=>rw[i8 h]; exact nr _
  | some r =>
   cases hx:d8 r i W U with
   | none=>rw[oY h hx]; exact(nr i).app LK
   | some x =>
    rw[oZ h hx]
    exact(nr i).app ((JO _).app (uV f x.st x.W x.V))
noncomputable def tQ(ev:List AV)(f:Nat):T1:=⟨ev,ev,f,[],[],[],0⟩
theorem CI{ev:List AV}{f:Nat}(h:CL ev):bU (tQ ev f):=⟨h,h,CL.nil,CL.nil,CL.nil⟩
section
variable{p:Params}{g:G1}{x W:List Sg}{j m n N f f' i w:Nat}{hd r0:List (Str×AV)}{t:T1}{ev tb:List AV}{it:Cell}{k:Option AV}{y:AV}{J:St}
theorem NQ(hf:f9 ev)(hl:ev.length<=900):Go (aw p (m+60) (aT p) (FS p 4)) (genS p (bK g x true j k) (bJ (bS p g 0) bq) it (tM (tD t ev) ev f [] 0 [] [])) .next (genS p (bK g x true j k) (bJ (bS p g 0) bq) it (tM (tD t ev) ev f [] 0 [] [])) :=
 Go.by [.b false,.b false,.b false] (aa (show ev.length<=M6 from lM hl) <| aa (show ev.length<=M6 from lM hl) <| aa (show ev=ev/\f9 ev from⟨rfl,hf⟩) <| aa rf <| aa rf <| aa rf trivial) (λ_=>by kernel_rfl)
theorem NR(hf:f9 ev)(hl:ev.length<=900):Go (aw p (m+60) (aT p) (FS p 4)) (mw p (bK g x false j k) (bJ (bS p g 0) y) (tM (tD t ev) ev f tb w W [])) (.ret (.bool true)) (mw p (bK g x false j k) (bJ (bS p g 0) y) (tM (tD t ev) ev f tb w W [])) :=
 Go.by [.b false,.b true,.b true,.b true] (aa (show ev.length<=M6 from lM hl) <| aa (show ev.length<=M6 from lM hl) <| aa (show ev=ev/\f9 ev from⟨rfl,hf⟩) <| aa rf <| aa rt <| aa rt <| aa (show ev.length<=M6 from lM hl) <| aa (show ev.length<=M6 from lM hl) <| aa (show ev=ev/\f9 ev from⟨rfl,hf⟩) trivial) (λ_=>by kernel_rfl)
theorem Bt(hc:CL ev):Go (iF 43) (genS p (bK g x true j k) (bJ (bS p g 0) bq) it (tM (tD t ev) ev f [] 0 [] [])) () (bP p g (cT x) (fE .any) j (tQ ev f)):=by
 have u:∀q∈(bP p g (cT x) (fE .any) j (tQ ev f)).objs,bA 43 q.2:=zi (CI hc) (.inr rfl) (Nat.le_refl _) (.cons (CL.lst (iJ _) _) .nil)
 cases k <;> exact Go.by [.sel [27],.drop 4 ["is_good","signs","token"]] (aa u trivial) (λ_=>by kernel_rfl)
theorem LL:Go (EM.bind ((RN p (m+20)).ev (aT p) (eo (LS p 5))) (λv=>dZ v)) (ph p g (iT []) dY t0) (.ref 42) (bP p g [] dY 0 (tQ [] 0)):=Go.by [] trivial (λ_=>by kernel_rfl)
theorem CJ(hx:([AV.lst (aP g.t1),.lst (aP g.t2)]:List AV)[j]? = some (.lst (aP x))):Go (b0 (cJ (LS p 5)) (.ref 42)) (bP p g r0 hd j t) (some (.lst (aP x))) (bP p g r0 hd (j+1) t):=Go.by [.cut [] (.lst (aP x))] (aa hx trivial) (λ_=>by kernel_rfl)
theorem LM:Go (b0 (cJ (LS p 5)) (.ref 42)) (bP p g r0 hd 2 t) none (⟨43,(42,.lend)::runC g (ck p g) (iT r0) hd (hG g.vs) t⟩):=Go.by [.b false] (aa (show([AV.lst (aP g.t1),.lst (aP g.t2)]:List AV)[2]? = none from rfl) trivial) (λ_=>by kernel_rfl)
theorem CK(hr:r0=[]∨∃z:List Sg,r0=cT z):Go (cb (KK p) (RN p (m+20)) (aT p) (.lst (aP x)) (cJ (LS p 5))) (bP p g r0 hd j t) PUnit.unit (bP p g (cT x) hd j t):=by
 rcases hr with rfl | ⟨z,rfl⟩ <;> exact Go.by [] trivial (λ_=>by kernel_rfl)
theorem Ak:(RN p (m+1)).aV (aT p) (df (LS p 5))=bp (aw p m (aT p)) [FS p 0,FS p 1,FS p 2,FS p 3,FS p 4]:=by kernel_rfl
theorem NS:aw p m (aT p) (LS p 5)=EM.bind ((RN p m).ev (aT p) (eo (LS p 5))) λv=>EM.bind (dZ v) λit=>(RN p m).cp (aT p) (cJ (LS p 5)) it (df (LS p 5)):=by kernel_rfl
noncomputable def NT(p:Params)(g:G1)(x:List Sg)(j:Nat)(ev:List AV):Bool->aU->St->Prop
 | true,fl,J=>∃k it f t,bA 46 it/\ig k/\fl = .next/\J=genS p (bK g x true j k) (bJ (bS p g 0) bq) it (tM (tD t ev) ev f [] 0 [] [])
 | false,fl,J=>fl = .ret (.bool true)/\∃k f tb w W y t,ig k/\J=mw p (bK g x false j k) (bJ (bS p g 0) y) (tM (tD t ev) ev f tb w W [])
theorem Al(hg:ei g)(hx:j4 x)(hl:x.length<=14)(hh:dh hd)(he:CL ev)(hel:ev.length<=600)(hf:f9 ev):∃fl J,NT p g x j (ev++(bL g.rows 18 0 [] x).1) (bL g.rows 18 0 [] x).2 fl J/\Go ((RN p (m+113)).aV (aT p) (df (LS p 5))) (bP p g (cT x) hd j (tQ ev f)) fl J:=by
 have g0:Go (aw p (m+112) (aT p) (FS p 0)) (bP p g (cT x) hd j (tQ ev f)) .next (bP p g (ij x (bL g.rows 18 0 [] x).2) hd j (tD (tQ ev f) (ev++(bL g.rows 18 0 [] x).1))):=NP (m:=m+7) (t:=tQ ev f) hg hl hx (CI he) hh he (by omega)
 have hc:=oG (rows:=g.rows) 18 0 [] x
 have hr:=oa (rows:=g.rows) 18 0 [] x
 have hrf:=uV (rows:=g.rows) 18 0 [] x
 obtain⟨bl,h3,g3⟩:=Nm (p:=p) (g:=g) (x:=x) (gd:=(bL g.rows 18 0 [] x).2) (j:=j) (hd:=hd) (t:=tD (tQ ev f) (ev++(bL g.rows 18 0 [] x).1)) (ev:=ev) (m:=m+22) hg hx hl hh (he.app hc) he (by omega)
 generalize (bL g.rows 18 0 [] x).1=l at g0 h3 g3 hc hr hrf ⊢
 generalize (bL g.rows 18 0 [] x).2=b at g0 h3 g3 ⊢
 have g1:Go (aw p (m+112) (aT p) (FS p 1)) (bP p g (ij x b) hd j (tD (tQ ev f) (ev++l))) .next (bP p g (ij x b) hd j (tM (tD (tQ ev f) (ev++l)) ev 18 [] 0 [] [])):=Nj (m:=m+52) (t:=tD (tQ ev f) (ev++l))
 have g2:Go (aw p (m+112) (aT p) (FS p 2)) (bP p g (ij x b) hd j (tM (tD (tQ ev f) (ev++l)) ev 18 [] 0 [] [])) .next (md p (bK g x b j none) hd (tM (tD (tQ ev f) (ev++l)) ev 18 [] 0 [] [])):=Ni (m:=m+52) ⟨he.app hc,he,CL.nil,CL.nil,CL.nil⟩ hh hl
 have hel':(ev++l).length<=900:=by rw[List.length_append]; omega
 cases b with
 | true =>
  obtain⟨k,it,f2,hk,hi,rfl⟩:=h3
  exact⟨.next,_,⟨k,it,f2,_,hi,hk,rfl,rfl⟩,Go.eq Ak (Go.cons g0 (Go.cons g1 (Go.cons g2 (Go.cons g3 (Go.stmt (NQ (m:=m+52) (hf.app hrf) hel'))))))⟩
 | false =>
  obtain⟨k,f2,tb,w,W,y,hk,rfl⟩:=h3
  exact⟨.ret (.bool true),_,⟨rfl,k,f2,tb,w,W,y,_,hk,rfl⟩,Go.eq Ak (Go.cons g0 (Go.cons g1 (Go.cons g2 (Go.cons g3 (Go.iI (NR (m:=m+52) (hf.app hrf) hel'))))))⟩
end
structure pn(vs:List Value)(J:St):Prop where
 c0:J.get 0=some (.raw (jk vs))
 c1:J.get 1=some (.tab 184 #[] none)
 c2:J.get 2=some (.tab 260 #[] kS)
 c3:J.get 3=some (.tab 267 #[] kL)
section
variable{p:Params}{g:G1}{x W:List Sg}{j m n N f f' i w:Nat}{hd r0:List (Str×AV)}{t:T1}{ev tb:List AV}{it:Cell}{k:Option AV}{y:AV}{J:St}{vs:List Value}
noncomputable abbrev nD(p:Params)(g:G1)(r hd:List (Str×AV))(t:T1):St:=⟨43,(42,.lend)::runC g (ck p g) (iT r) hd (hG g.vs) t⟩
theorem LN:pn g.vs (nD p g r0 hd t):=⟨by kernel_rfl,by kernel_rfl,by kernel_rfl,by kernel_rfl⟩
theorem CM{gm:List (Str×AV)}{r:List (Str×AV)}{gd:Bool}:pn g.vs (mw p (bK g x gd j k) gm t):=⟨by kernel_rfl,by kernel_rfl,by kernel_rfl,by kernel_rfl⟩
theorem l6:Go (aw p (m+60) (aT p) (LS p 6)) (nD p g r0 hd t) (.ret (.bool true)) (nD p g r0 hd t):=Go.by [] trivial (λ_=>by kernel_rfl)
theorem rounds(hg:ei g):∃fl J,(fl = .next/\(∃r hd t,J=nD p g r hd t)∨fl = .ret (.bool true)/\pn g.vs J)/\Go ((RN p (m+115)).cp (aT p) (cJ (LS p 5)) (.ref 42) (df (LS p 5))) (bP p g [] dY 0 (tQ [] 0)) fl J:=by
 have n1:Go (b0 (cJ (LS p 5)) (.ref 42)) (bP p g [] dY 0 (tQ [] 0)) (some (.lst (aP g.t1))) (bP p g [] dY 1 (tQ [] 0)):=CJ rfl
 have a1:Go (cb (KK p) (RN p (m+114)) (aT p) (.lst (aP g.t1)) (cJ (LS p 5))) (bP p g [] dY 1 (tQ [] 0)) PUnit.unit (bP p g (cT g.t1) dY 1 (tQ [] 0)):=CK (m:=m+94) (.inl rfl)
 obtain⟨fl,J,h1,g1⟩:=Al (p:=p) (x:=g.t1) (j:=1) (f:=0) (hd:=dY) (ev:=[]) (m:=m+1) hg hg.x1 hg.l1 (.inl rfl) CL.nil (by decide) rfl
 have c1:=oG (rows:=g.rows) 18 0 [] g.t1
 have k1:=oa (rows:=g.rows) 18 0 [] g.t1
 have f1:=uV (rows:=g.rows) 18 0 [] g.t1
 rw[List.nil_append] at h1
 generalize (bL g.rows 18 0 [] g.t1).1=l1 at h1 c1 k1 f1
 generalize (bL g.rows 18 0 [] g.t1).2=b1 at h1
 cases b1 with
 | false =>
  obtain⟨rfl,k,f,tb,w,W,y,t,hk,rfl⟩:=h1
  exact⟨_,_,.inr ⟨rfl,CM (r:=[])⟩,z4 n1 a1 g1⟩
 | true =>
  obtain⟨k,it,f,t,hi,hk,rfl,rfl⟩:=h1
  have t1:=Bt (p:=p) (g:=g) (x:=g.t1) (j:=1) (k:=k) (it:=it) (f:=f) (t:=t) c1
  have n2:Go (b0 (cJ (LS p 5)) (.ref 42)) (bP p g (cT g.t1) (fE .any) 1 (tQ l1 f)) (some (.lst (aP g.t2))) (bP p g (cT g.t1) (fE .any) 2 (tQ l1 f)):=CJ rfl
  have a2:Go (cb (KK p) (RN p (m+113)) (aT p) (.lst (aP g.t2)) (cJ (LS p 5))) (bP p g (cT g.t1) (fE .any) 2 (tQ l1 f)) PUnit.unit (bP p g (cT g.t2) (fE .any) 2 (tQ l1 f)):=CK (m:=m+93) (.inr ⟨_,rfl⟩)
  obtain⟨fl,J,h2,g2⟩:=Al (p:=p) (x:=g.t2) (j:=2) (f:=f) (hd:=fE .any) (ev:=l1) (m:=m) hg hg.x2 hg.l2 (.inr rfl) c1 (by omega) f1
  have c2:=c1.app (oG (rows:=g.rows) 18 0 [] g.t2)
  generalize l1++(bL g.rows 18 0 [] g.t2).1=l2 at h2 c2
  generalize (bL g.rows 18 0 [] g.t2).2=b2 at h2
  cases b2 with
  | false =>
   obtain⟨rfl,k,f,tb,w,W,y,t,hk,rfl⟩:=h2
   exact⟨_,_,.inr ⟨rfl,CM (r:=[])⟩,lB n1 a1 g1 t1 (z4 n2 a2 g2)⟩
  | true =>
   obtain⟨k,it,f,t,hi,hk,rfl,rfl⟩:=h2
   have t2:=Bt (p:=p) (g:=g) (x:=g.t2) (j:=2) (k:=k) (it:=it) (f:=f) (t:=t) c2
   have n3:Go (b0 (cJ (LS p 5)) (.ref 42)) (bP p g (cT g.t2) (fE .any) 2 (tQ l2 f)) none (nD p g (cT g.t2) (fE .any) (tQ l2 f)):=LM
   have g3:Go ((RN p (m+113)).cp (aT p) (cJ (LS p 5)) (.ref 42) (df (LS p 5))) (bP p g (cT g.t2) (fE .any) 2 (tQ l2 f)) .next (nD p g (cT g.t2) (fE .any) (tQ l2 f)):=n4 n3
   exact⟨_,_,.inl ⟨rfl,_,_,_,rfl⟩,lB n1 a1 g1 t1 (lB n2 a2 g2 t2 g3)⟩
theorem CN:bp (aw p (m+115) (aT p)) (bF p 285).body=bp (aw p (m+115) (aT p)) [LS p 0,LS p 1,LS p 2,LS p 3,LS p 4,LS p 5,LS p 6]:=by kernel_rfl
theorem Hg(xs:List Int)(hvs:vs.map fy=xs.map AV.int)(hx:xs.length<=63):∃aj,pn vs aj/\Go ((RN p (m+117)).call (.val (.ref 285)) [.ref 0] []) ⟨4,bot vs⟩ (.bool true) aj:=by
 obtain⟨ns,n1,n24,g0⟩:=N4 (p:=p) (m:=m+52) hvs hx
 have t0':cI ns 0 0:=⟨Int.le_refl _,Int.le_refl _,by decide,n24,n1⟩
 obtain⟨rows,k1,hr,hr1,hr3,cS,g1⟩:=N1 (p:=p) (vs:=vs) (m:=m) t0'
 obtain⟨t1,t2,k2,x1,x2,l1,l2,g2⟩:=N5 (p:=p) (vs:=vs) (rows:=rows) (m:=m+25) cS (by decide)
 have g3:=N6 (p:=p) (vs:=vs) (ns:=ns) (k:=k2) (rows:=rows) (t1:=t1) (t2:=t2) (m:=m+55)
 have hg:ei ⟨vs,ns,k2,rows,t1,t2⟩:=⟨hr,hr1,hr3,x1,x2,l1,l2⟩
 have g4:=N7 (p:=p) (m:=m+35) hg
 obtain⟨fl,J,h5,g5⟩:=rounds (p:=p) (m:=m) hg
 have g5':=Go.pe (st:=LS p 5) (n:=m+115) (NS (m:=m+115)) (LL (m:=m+95)) g5
 have ge:Go (iA (bF p 285).scope (bF p 285).closure (bF p 285).code (bF p 285).fz [("script",.ref 0)]) ⟨4,bot vs⟩ (aT p) (l0 vs):=Go.by [] trivial (λ_=>by kernel_rfl)
 have hb:Go (bp (aw p (m+115) (aT p)) (bF p 285).body) (l0 vs) (.ret (.bool true)) J/\pn vs J:=by
  rcases h5 with⟨rfl,r,hd,t,rfl⟩ | ⟨rfl,h5⟩
  ·exact⟨Go.eq CN (Go.cons g0 (Go.cons g1 (Go.cons g2 (Go.cons g3 (Go.cons g4 (Go.cons g5' (Go.iI (l6 (m:=m+55))))))))),LN (g:=⟨vs,ns,k2,rows,t1,t2⟩)⟩
  ·exact⟨Go.eq CN (Go.cons g0 (Go.cons g1 (Go.cons g2 (Go.cons g3 (Go.cons g4 (Go.iI g5')))))),h5⟩
 refine⟨J,hb.2,?_⟩
 have gk:Go (gq 4 (.bool true)) J (.bool true) J:=Go.by [.keep] trivial (λ_=>by kernel_rfl)
 exact Go.eq (show(RN p (m+117)).call (.val (.ref 285)) [.ref 0] []=fY (RN p (m+116)) (bF p 285) [.ref 0] [] by kernel_rfl) (Go.fn (by kernel_rfl) (binds:=[("script",.ref 0)]) (by kernel_rfl) ge (Go.bind (Go.aV (n:=m+115) hb.1) (Go.rt gk)))
end
end Mine
open PySem PySem.W PySem.W.X PyProof.Rows PySem.Builtin PySem.Builtin.ObjectAttr
namespace Mine
noncomputable def LO:Stmt->Bool
 | .Assign [.Name n _] _ _=>n == Str.ofString "__name__"
 | _=>false
noncomputable def q1:Program:={ P1 with main:={ P1.main with body:=P1.main.body.filter λs=>!LO s } }
noncomputable def lo1:List Str:=[Str.ofString "Token",Str.ofString "SourceLocation",Str.ofString "CompilerError",Str.ofString "_law_NUMBERS"]
noncomputable def pE:List Addr:=[2,3,4,15,17,18,20,21,29,30,32,33,35,36,37,39,40,42,43,44,46,47,48,49,50,60,61,62,64,65,67,68,69,71,72,74,75,76,78,79,80,81,82,83,84,87,94,95,97,98,100,101,102,104,105,107,108,109,110,111,112,122,124,125,127,128,129,131,132,134,135,136,137,138,139,140,150,152,153,155,156,157,159,160,162,163,164,165,167,168,170,171,172,174,175,177,178,179,181,182,184,185,186,188,189,191,192,193,195,196,198,199,200,202,203,205,206,207,209,210,212,213,214,216,217,219,220,221,223,224,226,227,228,229,230,231,232,235,236,238,239,241,242,243,246,247,248,250,251,253,254,255,257,258,260,261,262,264,265,267,268,269,272,273,274,276,277,279,280,281,284,285]
noncomputable def rV(as:List Addr)(s:Shared):List (Option Obj)×List (Option Obj)×Nat:=(as.map s.heap.get?,[180,256,263].map s.heap.get?,s.heap.objs.size)
noncomputable def rW(w:World):List (Option Obj)×List (Option Obj)×Nat:=((rM w.params).map λq=>some q.2,[some gP,some gP,some gP],286)
theorem Ot:(defOf q1 (Str.ofString "law")).isSome=true:=by kernel_rfl
noncomputable def pF:DefRec×List (Str×PySem.Expr):=(defOf q1 (Str.ofString "law")).get Ot
theorem JP(p:Params):pE=(rM p).map (·.1):=by kernel_rfl
noncomputable def wF(w:World)(b:Bool):World:=⟨w.1,{ w.params with followText:=λs=>_root_.cond (s == "special-get-raises") b (w.params.followText s) }⟩
theorem Ft(w:World):wF w (w.params.followText "special-get-raises")=w:=by
 have h:(λs=>_root_.cond (s == "special-get-raises") (w.params.followText "special-get-raises") (w.params.followText s))=w.params.followText:=funext λs=>by
  cases e:s == "special-get-raises" with
  | true=>rw[eq_of_beq e]; rfl
  | false=>rfl
 cases w with | mk d p =>
 cases p
 exact congrArg (λf=>World.mk d (Params.mk _ _ _ _ _ f _ _ _ _ _ _ _ _ _ _ _ _ _ _ _ _ _ _ _)) h
noncomputable def wW(s:Shared):Bool:=xlAt q1 [] s && recOk (RowW.records (OpenRow.toRowW PySem.Challenge.rw_rk0005_01.row)) s
noncomputable def o3(w:World):Prop:=(openEnds treeTable P1 w 6000).map (λs=>(openSeen q1 lo1 (importedModules P1.main.body) wW true s,rV pE s))=some (openGood q1 lo1,rW w)
theorem JQ(w:World):o3 (wF w false):=by
 show(_:Option _)=_
 kernel_rfl
theorem JR(w:World):o3 (wF w true):=by
 show(_:Option _)=_
 kernel_rfl
theorem JS(w:World)(b:Bool):o3 (wF w b):=match b with
 | true=>JR w
 | false=>JQ w
theorem LP:LeftO P1 q1 lo1 wW (rV pE) rW 6000:=λw=>show o3 w from @Eq.subst _ o3 _ _ (Ft w) (JS w _)
set_option maxHeartbeats 8000000 in
theorem LQ(hc:WalkX q1 lo1 (XL q1 []) (rV pE) rW (OpenRow.toRowW PySem.Challenge.rw_rk0005_01.row) pF.1 pF.2 λf vs=>PySem.call f vs):PySem.Challenge.rw_rk0005_01.Holds:=by
 refine holds_law (by decide +kernel) λsaid=>?_
 refine holds_openX (q:=q1) (loose:=lo1) (Xt:=wW) (XP:=XL q1 []) (Yf:=rV pE) (Ya:=rW) (N:=6000) (d:=pF.1) (kwd:=pF.2) LP (λs e=>xl_of s (Bool.and_eq_true_iff.mp e).1) XL.keeps ?d1 ?d2 ?d3 (λs e=>recFacts_of (Bool.and_eq_true_iff.mp e).2) ?d4 said ?d5 ⟨rfl,rfl,rfl,rfl,rfl,?d6⟩ ?hw hc
 case d1=>kernel_rfl
 case d2=>kernel_rfl
 case d3=>kernel_rfl
 case d4=>kernel_rfl
 case d5=>decide +kernel
 case d6=>decide +kernel
 case hw=>exact⟨[WData.list []],by decide +kernel,by decide +kernel⟩
end Mine
open PySem PySem.W PySem.W.X PyProof.Rows PySem.Builtin PySem.Builtin.ObjectAttr
namespace Mine
noncomputable def Ed:List me:=[(3,267,263,some []),(2,260,256,some []),(1,184,180,none)]
theorem Nat.sf{a b:Nat}(h:a≠b):Nat.beq b a=false:=Bool.eq_false_iff.mpr λe=>h (Nat.eq_of_beq_eq_true e).symm
theorem LR(p:Params):∀a o,List.lookup a (KK p)=some o->a<286/\(Ed.any λt=>Nat.beq t.2.2.1 a)=false:=λa o h=>by
 have h1:a≠180:=sX (K:=KK p) (by kernel_rfl) a o h
 have h2:a≠256:=sX (K:=KK p) (by kernel_rfl) a o h
 have h3:a≠263:=sX (K:=KK p) (by kernel_rfl) a o h
 refine⟨F5 (K:=KK p) (by kernel_rfl) a o h,?_⟩
 show(Nat.beq 263 a || (Nat.beq 256 a || (Nat.beq 180 a || false)))=false
 have b1:Nat.beq 180 a=false:=(Nat.sf h1)
 have b2:Nat.beq 256 a=false:=(Nat.sf h2)
 have b3:Nat.beq 263 a=false:=(Nat.sf h3)
 rw[b1,b2,b3]
 rfl
theorem Iq(p:Params):nj (KK p) 184 180:=⟨by kernel_rfl,by kernel_rfl,by kernel_rfl,by kernel_rfl,by kernel_rfl,by kernel_rfl,by kernel_rfl,by kernel_rfl,by kernel_rfl,by decide⟩
theorem Ir(p:Params):nj (KK p) 260 256:=⟨by kernel_rfl,by kernel_rfl,by kernel_rfl,by kernel_rfl,by kernel_rfl,by kernel_rfl,by kernel_rfl,by kernel_rfl,by kernel_rfl,by decide⟩
theorem It(p:Params):nj (KK p) 267 263:=⟨by kernel_rfl,by kernel_rfl,by kernel_rfl,by kernel_rfl,by kernel_rfl,by kernel_rfl,by kernel_rfl,by kernel_rfl,by kernel_rfl,by decide⟩
theorem names1{mb:Str->Option Value}(h:∀x:Str,x≠"__name__"->mb x=bootBuiltins x):∀y v,gT.lookup y=some v->mb y=some v:=by
 have e:gT.map (λq=>bootBuiltins q.1)=gT.map (λq=>some q.2):=by kernel_rfl
 have n:(gT.map (·.1)).all (λy=>!(y == ("__name__" : Str)))=true:=by kernel_rfl
 intro y v hl
 have hy:=KY e y v hl
 rw[h y λq=>?_]
 ·exact hy
 ·subst q
  have:gT.lookup ("__name__" : Str)=none:=by kernel_rfl
  rw[this] at hl
  cases hl
theorem Ou(prog:Program)(p:Params):peek (KK p) ⟨prog,p⟩ (builtinsFor mainGlobals builtinsNs)=some builtinsNs:=by kernel_rfl
theorem Ov(prog:Program)(p:Params):(peek (KK p) ⟨prog,p⟩ (nsGet mainGlobals "__name__")).isSome=true:=by kernel_rfl
theorem LU{prog:Program}{w:World}{ar:Shared}{vs:List Value}{ns:List Int}{mb:Str->Option Value}(KX:(KK w.params).In ar.heap)(h1:ar.heap.get? 180=some gP)(h2:ar.heap.get? 256=some gP)(h3:ar.heap.get? 263=some gP)
  (hb:ar.heap.Ns builtinsNs mb) (hbb:∀x:Str,x≠"__name__"->mb x=bootBuiltins x) (hc:ar.heap.NoLimit) (hs:ar.heap.get? 286=some (jk vs)) (hg:ar.gens = #[])
  (hI:IntsAre vs ns) (hl:ns.length<=63) {Q:Value->Shared->Prop} {E:Value->Shared->Prop}
  (hQ:∀s',OldK ar.heap s'.heap->s'.os=ar.os->AllBare s'.gens->Q (.bool true) s'):wpAny (model prog w) callerA (call (.ref 285) [.ref 286]) Q E ar:=by
 obtain⟨aj,e,h⟩:=Hg (p:=w.params) (vs:=vs) (m:=0) ns (y6 hI) hl
 refine join_gen (K:=KK w.params) (x:=pd w.params) (n:=117) (N:=4) (n0:=286) (T:=Ed) (aj:=aj) (vs:=vs) (mb:=mb) KX (LR w.params) (λt ht=>?_) (by decide) rfl (by decide) (by decide) hb (by decide) rfl hc (by decide) rfl hs hg (names1 hbb) (Ou prog w.params) (Option.isSome_iff_exists.mp (Ov prog w.params)) rfl (by decide) (by decide) h e.c0 (λt ht=>?_) hQ
 ·rcases List.mem_cons.mp ht with rfl | ht
  ·exact⟨It _,h3,by decide,rfl,λl q=>(Option.some.inj q).symm⟩
  ·rcases List.mem_cons.mp ht with rfl | ht
   ·exact⟨Ir _,h2,by decide,rfl,λl q=>(Option.some.inj q).symm⟩
   ·rw[List.mem_singleton] at ht
    subst ht
    exact⟨Iq _,h1,by decide,rfl,λl q=>nomatch q⟩
 ·rcases List.mem_cons.mp ht with rfl | ht
  ·exact⟨_,e.c3⟩
  ·rcases List.mem_cons.mp ht with rfl | ht
   ·exact⟨_,e.c2⟩
   ·rw[List.mem_singleton] at ht
    subst ht
    exact⟨_,e.c1⟩
end Mine
open PySem PySem.W PySem.W.X PyProof.Rows
namespace Mine
theorem Hh:pF.1.name=Str.ofString "law":=by kernel_rfl
theorem JT(p:Params):nsIn (KK p) mainGlobals (Str.ofString "law")=some (some (.ref 285)):=by kernel_rfl
end Mine
set_option maxHeartbeats 8000000 in
theorem PySem.Challenge.cw_rk0005_01_holds : PySem.Challenge.rw_rk0005_01.Holds := by
 w_on
 refine Mine.LQ ?_
 intro w aS ar mg mb G y fa o pm cd doc dV kV ho hd hcd hD hmg hg args vals as L hpre hlay hrd hwl hlo
 refine Ground.open G ?_
 intro T O2 D TE TW
 have keeps:=L.keeps
 have KX:(Mine.KK w.params).In ar.heap:=InK.keeps w _ _ (InK.of (K:=Mine.rM) (λp=>Mine.JP p) w aS (congrArg Prod.fst y)) keeps
 have y2:[180,256,263].map aS.heap.get? = [some Mine.gP,some Mine.gP,some Mine.gP]:=congrArg (λx=>x.2.1) y
 have y3:aS.heap.objs.size=286:=congrArg (λx=>x.2.2) y
 injection y2 with e1 y2
 injection y2 with e2 y2
 injection y2 with e3 _
 have h1:=keeps _ _ e1
 have h2:=keeps _ _ e2
 have h3:=keeps _ _ e3
 have hfa:=mg_of KX T.g (Mine.JT w.params)
 rw[Mine.Hh,hfa] at hmg
 cases hmg
 clear hd hcd hD O2 D TE TW ho
 wrow_args hpre hlay hrd hwl hlo
 obtain⟨hat,hsz⟩:=script_at L
 rw[y3] at hat
 subst hat
 rename_i hI _ hcond _ hLst _ _
 have hol:=script_obj L hLst
 refine Mine.LU KX h1 h2 h3 T.b T.builtins T.nolimit hol hg hI (by omega) ?_
 intro s' k1 k2 k3
 refine⟨.inl ⟨_,.bool true,[],rfl,λ_=>rfl,.bool true,?_,λ_=>⟨.nil,λa ha=>nomatch ha⟩⟩,k1,k2,k3⟩
 clear G y KX T
 first | rfl | wrow_post
