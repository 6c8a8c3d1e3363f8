import PyProof.Rows.All
import Wide.All
import OpenK.AllK
import Wide.FinOn
import Lean
import PySem.Challenge.RW_rk0005_02
set_option Elab.async false
set_option maxRecDepth 100000
set_option maxHeartbeats 4000000
set_option genInjectivity false
set_option genSizeOf false
set_option linter.all false
open PySem PySem.W PyProof.Rows PySem.Builtin PySem.Builtin.ObjectAttr
open PySem PySem.W PyProof.Rows
namespace Mine
theorem noneOf {α:Type} {x:α} {C:Prop} (h:(none:Option α)=some x):C:=nomatch h
theorem inj3 {α β γ:Type} {a x:α} {b y:β} {c z:γ} {C:Prop} (h:some (a,b,c)=some (x,y,z)) (H:a=x→b=y→c=z→C):C :=
 H (congrArg (·.1) (Option.some.inj h)) (congrArg (·.2.1) (Option.some.inj h)) (congrArg (·.2.2) (Option.some.inj h))
theorem ff {P:Prop} (h:false=true):P:=nomatch h
inductive AV where
 | val (v:Value)
 | bool (b:Bool)
 | int (i:Int)
 | str (x:Str)
 | ref (i:Nat)
 | tup (xs:List AV)
 | obj (C:Addr) (fs:List (Str × AV))
 | slo (C:Addr) (fs:List AV)
 | clo (name:Str) (params:Arguments) (body:List Stmt) (scope:Scope) (cl:List (Str × Nat))
 | lst (xs:List AV)
inductive Cell where
 | list (xs:List AV)
 | ns (m:List (Str × AV))
 | box (v:Option AV)
 | dict (m:List (Str × AV))
 | inst (C:Addr) (d:Nat)
 | sinst (C:Addr) (d:Nat) (xs:List (Option AV))
 | liter (l:Nat) (k:Nat)
 | lend
 | tab (c:Addr) (ps:Array Value) (ks:Option (List (Int × Int)))
 | raw (o:Obj)
 | exc (C:Addr) (d t:Option Nat)
 | tb (fl:Option Nat)
 | rng (a b c:Int)
 | rit (x left step:Int)
 | wl (l:Nat) (k:Nat)
 | enum (it:Nat) (k:Nat)
 | any
 | map (h:Str→Int) (m:List (Str × AV))
 | sit (x:Str) (k:Nat)
 | rev (l:Nat) (k:Int)
 | fit (xs:List AV) (k:Nat)
structure St where
 n:Nat
 objs:List (Nat × Cell)
noncomputable abbrev Fz:=Addr→Option Obj
noncomputable abbrev Rho:=Nat→Addr
noncomputable def oList (vs:List Value) (k:Nat):Obj:={ cls:=.type "list",dict:=none,data:=.seq vs.toArray k,slots:=#[] }
noncomputable def oTup (vs:List Value) (k:Nat):Obj:={ cls:=.type "tuple",data:=.seq vs.toArray k }
noncomputable def oDict (es:List DictEntry) (k:Nat):Obj:={ cls:=.type "dict",data:=.dict es.toArray k }
noncomputable def oInst (C d:Addr):Obj:={ cls:=.ref C,dict:=some d,data:=.plain }
noncomputable def oSlo (C d:Addr) (vs:List (Option Value)):Obj:={ cls:=.ref C,dict:=some d,data:=.plain,slots:=vs.toArray }
noncomputable def oIter (l:Value) (k:Int):Obj:={ cls:=.type "list_iterator",data:=.fields #[l,.int k 0] }
noncomputable def oExc (C:Addr) (d:Option Addr) (vs:Array Value):Obj:={ cls:=.ref C,dict:=d,data:=.fields vs }
noncomputable def oTab (ps:Array Value):Obj:={ cls:=.none,data:=.fields ps }
noncomputable def cloData (name qual:Str) (params:Arguments) (body:List Stmt) (scope:Scope) (cl:List (Str × Addr)) (pm code ct:Value):FuncData :=
 {name:=name,qualname:=qual,params:=params,body:=.stmts body,scope:=scope,globals:=mainGlobals,closure:=cl,defaults:=.none,kwdefaults:=.none,
  doc:=.none,pyModule:=pm,code:=code,closureTuple:=ct,builtins:=builtinsNs }
inductive FzCode (F:Fz) (cd:Value) (q:Str):Prop where
 | mk (c:Addr) (o:Obj) (vs:Array Value) (t:Tok) (e:cd = .ref c) (h:F c=some o) (hd:o.data = .fields vs) (hq:vs[1]? = some (.str q t))
noncomputable def mapCl (ρ:Rho) (cl:List (Str × Nat)):List (Str × Addr):=cl.map fun p=>(p.1,ρ p.2)
inductive dTup (F:Fz) (ih:List Value→Prop) (v:Value):Prop where
 | mk (a:Addr) (vs:List Value) (k:Nat) (e:v = .ref a) (h:F a=some (oTup vs k)) (r:ih vs)
inductive dLst (F:Fz) (ih:List Value→Prop) (v:Value):Prop where
 | mk (a:Addr) (vs:List Value) (k:Nat) (e:v = .ref a) (h:F a=some (oList vs k)) (r:ih vs)
inductive dObj (F:Fz) (C:Addr) (ih:List DictEntry→Prop) (v:Value):Prop where
 | mk (a d:Addr) (od:Obj) (es:List DictEntry) (k:Nat) (e:v = .ref a) (h:F a=some (oInst C d)) (hd:F d=some od) (he:od.data = .dict es.toArray k) (r:ih es)
inductive dSlo (F:Fz) (C:Addr) (ih:List Value→Prop) (v:Value):Prop where
 | mk (a d:Addr) (od:Obj) (vs:List Value) (e:v = .ref a) (h:F a=some (oSlo C d (vs.map some))) (hd:F d=some od) (r:ih vs)
inductive dClo (n:Nat) (ρ:Rho) (F:Fz) (name:Str) (params:Arguments) (body:List Stmt) (scope:Scope) (cl:List (Str × Nat)) (v:Value):Prop where
 | mk (a:Addr) (qual:Str) (o:Obj) (pm code ct:Value) (e:v = .ref a) (h:F a=some o) (hc:o.cls = .type "function") (hd:o.data = .func (cloData name qual params body scope (mapCl ρ cl) pm code ct)) (hk:FzCode F code qual) (hb:∀ p ∈ cl,p.2 < n)
noncomputable def dCons {α:Type} (p:α→Prop) (q:List α→Prop):List α→Prop
 | []=>False
 | v :: vs=>p v∧q vs
noncomputable def dEnt (x:Str) (p:Value→Prop) (e:DictEntry):Prop:=(∃ t,e.key = .str x t)∧p e.val
section
variable (n:Nat) (ρ:Rho) (F:Fz)
noncomputable def Den (x:AV):Value→Prop:=AV.rec (motive_1:=fun _=>Value→Prop) (motive_2:=fun _=>List Value→Prop) (motive_3:=fun _=>List DictEntry→Prop) (motive_4:=fun _=>DictEntry→Prop)
 (fun v w=>w=v) (fun b w=>w = .bool b) (fun i w=>∃ t,w = .int i t) (fun x w=>∃ t,w = .str x t) (fun i w=>w = .ref (ρ i)∧i < n) (fun _ ih=>dTup F ih) (fun C _ ih=>dObj F C ih) (fun C _ ih=>dSlo F C ih) (fun a b c d e=>dClo n ρ F a b c d e) (fun _ ih=>dLst F ih)
 (fun vs=>vs=[]) (fun _ _ p q=>dCons p q) (fun es=>es=[]) (fun _ _ p q=>dCons p q) (fun x _ p=>dEnt x p) x
noncomputable def Dens (xs:List AV):List Value→Prop:=AV.rec_1 (motive_1:=fun _=>Value→Prop) (motive_2:=fun _=>List Value→Prop) (motive_3:=fun _=>List DictEntry→Prop) (motive_4:=fun _=>DictEntry→Prop)
 (fun v w=>w=v) (fun b w=>w = .bool b) (fun i w=>∃ t,w = .int i t) (fun x w=>∃ t,w = .str x t) (fun i w=>w = .ref (ρ i)∧i < n) (fun _ ih=>dTup F ih) (fun C _ ih=>dObj F C ih) (fun C _ ih=>dSlo F C ih) (fun a b c d e=>dClo n ρ F a b c d e) (fun _ ih=>dLst F ih)
 (fun vs=>vs=[]) (fun _ _ p q=>dCons p q) (fun es=>es=[]) (fun _ _ p q=>dCons p q) (fun x _ p=>dEnt x p) xs
noncomputable def DenEs (xs:List (Str × AV)):List DictEntry→Prop:=AV.rec_2 (motive_1:=fun _=>Value→Prop) (motive_2:=fun _=>List Value→Prop) (motive_3:=fun _=>List DictEntry→Prop) (motive_4:=fun _=>DictEntry→Prop)
 (fun v w=>w=v) (fun b w=>w = .bool b) (fun i w=>∃ t,w = .int i t) (fun x w=>∃ t,w = .str x t) (fun i w=>w = .ref (ρ i)∧i < n) (fun _ ih=>dTup F ih) (fun C _ ih=>dObj F C ih) (fun C _ ih=>dSlo F C ih) (fun a b c d e=>dClo n ρ F a b c d e) (fun _ ih=>dLst F ih)
 (fun vs=>vs=[]) (fun _ _ p q=>dCons p q) (fun es=>es=[]) (fun _ _ p q=>dCons p q) (fun x _ p=>dEnt x p) xs
end
section
variable {n n':Nat} {ρ ρ':Rho} {F F':Fz}
theorem Den.val (v:Value):Den n ρ F (.val v) v:=rfl
theorem Den.bool (b:Bool):Den n ρ F (.bool b) (.bool b):=rfl
theorem Den.int (i:Int) (t:Tok):Den n ρ F (.int i) (.int i t):=⟨t,rfl⟩
theorem Den.str (x:Str) (t:Tok):Den n ρ F (.str x) (.str x t):=⟨t,rfl⟩
theorem Den.ref (i:Nat) (h:i < n):Den n ρ F (.ref i) (.ref (ρ i)):=⟨rfl,h⟩
section
variable (a:Addr) (xs:List AV) (vs:List Value) (k:Nat)
theorem Den.tup (h:F a=some (oTup vs k)) (hs:Dens n ρ F xs vs):Den n ρ F (.tup xs) (.ref a):=⟨a,vs,k,rfl,h,hs⟩
theorem Den.lst (h:F a=some (oList vs k)) (hs:Dens n ρ F xs vs):Den n ρ F (.lst xs) (.ref a):=⟨a,vs,k,rfl,h,hs⟩
end
theorem Dens.nil:Dens n ρ F [] []:=rfl
theorem Dens.cons {x:AV} {v:Value} {xs:List AV} {vs:List Value} (h:Den n ρ F x v) (hs:Dens n ρ F xs vs):Dens n ρ F (x :: xs) (v :: vs):=⟨h,hs⟩
theorem DenEs.nil:DenEs n ρ F [] []:=rfl
theorem DenEs.cons {x:Str} {av:AV} {v:Value} {hh:Int} {t:Tok} {fs:List (Str × AV)} {es:List DictEntry} (h:Den n ρ F av v) (hs:DenEs n ρ F fs es):DenEs n ρ F ((x,av) :: fs) (⟨hh,.str x t,v⟩ :: es):=⟨⟨⟨t,rfl⟩,h⟩,hs⟩
theorem den_int {i:Int} {v:Value} (d:Den n ρ F (.int i) v):∃ t,v = .int i t:=d
theorem den_str {i:Str} {v:Value} (d:Den n ρ F (.str i) v):∃ t,v = .str i t:=d
theorem den_ref {i:Nat} {v:Value} (d:Den n ρ F (.ref i) v):v = .ref (ρ i)∧i < n:=d
theorem den_tup {xs:List AV} {v:Value} (d:Den n ρ F (.tup xs) v):dTup F (Dens n ρ F xs) v:=d
theorem den_lst {xs:List AV} {v:Value} (d:Den n ρ F (.lst xs) v):dLst F (Dens n ρ F xs) v:=d
theorem den_obj {C:Addr} {fs:List (Str × AV)} {v:Value} (d:Den n ρ F (.obj C fs) v):dObj F C (DenEs n ρ F fs) v:=d
theorem den_slo {C:Addr} {fs:List AV} {v:Value} (d:Den n ρ F (.slo C fs) v):dSlo F C (Dens n ρ F fs) v:=d
theorem dens_n {vs:List Value} (d:Dens n ρ F [] vs):vs=[]:=d
theorem dens_c {x:AV} {xs:List AV} {P:List Value→Prop} (H:∀ v ws,Den n ρ F x v→Dens n ρ F xs ws→P (v :: ws)):∀ {vs:List Value},Dens n ρ F (x :: xs) vs→P vs
 | [],d=>d.elim
 | v :: ws,d=>H v ws d.1 d.2
theorem dens1 {x:AV} {P:List Value→Prop} {vs:List Value} (d:Dens n ρ F [x] vs) (H:∀ v,Den n ρ F x v→P [v]):P vs:=dens_c (fun v ws h hs=>dens_n hs ▸ H v h) d
theorem dens2 {x y:AV} {P:List Value→Prop} {vs:List Value} (d:Dens n ρ F [x,y] vs) (H:∀ v w,Den n ρ F x v→Den n ρ F y w→P [v,w]):P vs:=dens_c (fun v ws h hs=>dens1 (P:=fun ws=>P (v :: ws)) hs fun w=>H v w h) d
theorem dens3 {x y z:AV} {P:List Value→Prop} {vs:List Value} (d:Dens n ρ F [x,y,z] vs) (H:∀ v w u,Den n ρ F x v→Den n ρ F y w→Den n ρ F z u→P [v,w,u]):P vs:=dens_c (fun v ws h hs=>dens2 (P:=fun ws=>P (v :: ws)) hs fun w u=>H v w u h) d
theorem dCons.imp {α:Type} {p p':α→Prop} {q q':List α→Prop} (h:∀ v,p v→p' v) (hs:∀ v,q v→q' v):∀ v,dCons p q v→dCons p' q' v
 | [],d=>d
 | _ :: _,d=>⟨h _ d.1,hs _ d.2⟩
theorem FzCode.mono {cd:Value} {q:Str} (x:FzCode F cd q) (hF:∀ a o,F a=some o→F' a=some o):FzCode F' cd q:=by
 cases x with | mk c o vs t e h hd hq=>exact ⟨c,o,vs,t,e,hF _ _ h,hd,hq⟩
theorem mapCl_eq {cl:List (Str × Nat)} (h:∀ p ∈ cl,ρ' p.2=ρ p.2):mapCl ρ' cl=mapCl ρ cl:=List.map_congr_left fun p hp=>by rw [h p hp]
theorem dClo.to {name:Str} {params:Arguments} {body:List Stmt} {scope:Scope} {cl:List (Str × Nat)} {v:Value} (hF:∀ a o,F a=some o→F' a=some o) (hc:∀ p ∈ cl,p.2 < n→p.2 < n'∧ρ' p.2=ρ p.2) (d:dClo n ρ F name params body scope cl v):dClo n' ρ' F' name params body scope cl v:=by
 cases d with | mk a qual o pm code ct e h h1 h2 h3 h4=>exact ⟨a,qual,o,pm,code,ct,e,hF _ _ h,h1,mapCl_eq (fun p hp=>(hc p hp (h4 p hp)).2) ▸ h2,h3.mono hF,fun p hp=>(hc p hp (h4 p hp)).1⟩
theorem dTup.to {p p':List Value→Prop} (hF:∀ a o,F a=some o→F' a=some o) (hp:∀ v,p v→p' v) (v:Value) (d:dTup F p v):dTup F' p' v:=by cases d with | mk a vs k e h r=>exact ⟨a,vs,k,e,hF _ _ h,hp _ r⟩
theorem dLst.to {p p':List Value→Prop} (hF:∀ a o,F a=some o→F' a=some o) (hp:∀ v,p v→p' v) (v:Value) (d:dLst F p v):dLst F' p' v:=by cases d with | mk a vs k e h r=>exact ⟨a,vs,k,e,hF _ _ h,hp _ r⟩
theorem dObj.to {C:Addr} {p p':List DictEntry→Prop} (hF:∀ a o,F a=some o→F' a=some o) (hp:∀ v,p v→p' v) (v:Value) (x:dObj F C p v):dObj F' C p' v:=by cases x with | mk a d od es k e h hd q r=>exact ⟨a,d,od,es,k,e,hF _ _ h,hF _ _ hd,q,hp _ r⟩
theorem dSlo.to {C:Addr} {p p':List Value→Prop} (hF:∀ a o,F a=some o→F' a=some o) (hp:∀ v,p v→p' v) (v:Value) (x:dSlo F C p v):dSlo F' C p' v:=by cases x with | mk a d od vs e h hd r=>exact ⟨a,d,od,vs,e,hF _ _ h,hF _ _ hd,hp _ r⟩
theorem AV.ind {P:AV→Prop} {L:List AV→Prop} {M:List (Str × AV)→Prop} (hval:∀ v,P (.val v)) (hbool:∀ v,P (.bool v)) (hint:∀ v,P (.int v)) (hstr:∀ v,P (.str v)) (href:∀ v,P (.ref v)) (htup:∀ xs,L xs→P (.tup xs)) (hobj:∀ C fs,M fs→P (.obj C fs)) (hslo:∀ C xs,L xs→P (.slo C xs))
  (hclo:∀ a b c d e,P (.clo a b c d e)) (hlst:∀ xs,L xs→P (.lst xs)) (h1:L []) (h2:∀ x xs,P x→L xs→L (x :: xs)) (h3:M []) (h4:∀ x av fs,P av→M fs→M ((x,av) :: fs)) (x:AV):P x :=
 AV.rec (motive_1:=P) (motive_2:=L) (motive_3:=M) (motive_4:=fun p=>P p.2) hval hbool hint hstr href htup hobj hslo hclo hlst h1 h2 h3 (fun p fs hp hs=>h4 p.1 p.2 fs hp hs) (fun _ _ h=>h) x
theorem Den.mono (hn:n≤n') (hρ:∀ i,i < n→ρ' i=ρ i) (hF:∀ a o,F a=some o→F' a=some o) {x:AV}:∀ {v:Value},Den n ρ F x v→Den n' ρ' F' x v :=
 AV.ind (P:=fun x=>∀ {v},Den n ρ F x v→Den n' ρ' F' x v) (L:=fun x=>∀ {v},Dens n ρ F x v→Dens n' ρ' F' x v) (M:=fun x=>∀ {v},DenEs n ρ F x v→DenEs n' ρ' F' x v)
  (fun _ _ h=>h) (fun _ _ h=>h) (fun _ _ h=>h) (fun _ _ h=>h) (fun i _ h=>⟨by rw [hρ i h.2]; exact h.1,Nat.lt_of_lt_of_le h.2 hn⟩) (fun _ ih v=>dTup.to hF (fun _=>ih) v) (fun _ _ ih v=>dObj.to hF (fun _=>ih) v) (fun _ _ ih v=>dSlo.to hF (fun _=>ih) v)
  (fun _ _ _ _ _ _=>dClo.to hF fun p _ hp=>⟨Nat.lt_of_lt_of_le hp hn,hρ _ hp⟩) (fun _ ih v=>dLst.to hF (fun _=>ih) v) (fun h=>h) (fun _ _ p q v=>dCons.imp (fun _=>p) (fun _=>q) v) (fun h=>h) (fun _ _ _ p q v=>dCons.imp (fun _ h=>⟨h.1,p h.2⟩) (fun _=>q) v) x
theorem Dens.imp (h:∀ x v,Den n ρ F x v→Den n' ρ' F' x v):∀ {xs:List AV} {vs:List Value},Dens n ρ F xs vs→Dens n' ρ' F' xs vs
 | [],_,d=>d
 | _ :: _,vs,d=>dCons.imp (h _) (fun _=>Dens.imp h) vs d
theorem Dens.mono (hn:n≤n') (hρ:∀ i,i < n→ρ' i=ρ i) (hF:∀ a o,F a=some o→F' a=some o) {xs:List AV} {vs:List Value}:Dens n ρ F xs vs→Dens n' ρ' F' xs vs:=Dens.imp fun _ _=>Den.mono hn hρ hF
theorem DenEs.imp (h:∀ x v,Den n ρ F x v→Den n' ρ' F' x v):∀ {xs:List (Str × AV)} {vs:List DictEntry},DenEs n ρ F xs vs→DenEs n' ρ' F' xs vs
 | [],_,d=>d
 | _ :: _,vs,d=>dCons.imp (fun _ q=>⟨q.1,h _ _ q.2⟩) (fun _=>DenEs.imp h) vs d
theorem DenEs.mono (hn:n≤n') (hρ:∀ i,i < n→ρ' i=ρ i) (hF:∀ a o,F a=some o→F' a=some o) {xs:List (Str × AV)} {vs:List DictEntry}:DenEs n ρ F xs vs→DenEs n' ρ' F' xs vs:=DenEs.imp fun _ _=>Den.mono hn hρ hF
noncomputable def ODen (n:Nat) (ρ:Rho) (F:Fz):Option AV→Option Value→Prop
 | none,v=>v=none
 | some a,v=>∃ w,v=some w∧Den n ρ F a w
noncomputable def ODens (n:Nat) (ρ:Rho) (F:Fz) (xs:List (Option AV)):List (Option Value)→Prop:=xs.foldr (fun o k=>dCons (ODen n ρ F o) k) fun vs=>vs=[]
theorem ODen.imp (h:∀ x v,Den n ρ F x v→Den n' ρ' F' x v):∀ {o:Option AV} {v:Option Value},ODen n ρ F o v→ODen n' ρ' F' o v
 | none,_,d=>d
 | some _,_,⟨w,e,d⟩=>⟨w,e,h _ _ d⟩
theorem ODens.imp (h:∀ x v,Den n ρ F x v→Den n' ρ' F' x v):∀ {xs:List (Option AV)} {vs:List (Option Value)},ODens n ρ F xs vs→ODens n' ρ' F' xs vs
 | [],_,d=>d
 | _ :: _,vs,d=>dCons.imp (fun _=>ODen.imp h) (fun _=>ODens.imp h) vs d
end
noncomputable def Und (N:Nat) (x:AV):Prop:=AV.rec (motive_1:=fun _=>Prop) (motive_2:=fun _=>Prop) (motive_3:=fun _=>Prop) (motive_4:=fun _=>Prop)
 (fun _=>True) (fun _=>True) (fun _=>True) (fun _=>True) (fun i=>i < N) (fun _ ih=>ih) (fun _ _ ih=>ih) (fun _ _ ih=>ih) (fun _ _ _ _ cl=>∀ p ∈ cl,p.2 < N) (fun _ ih=>ih) True (fun _ _ p q=>p∧q) True (fun _ _ p q=>p∧q) (fun _ _ p=>p) x
section
variable {n N:Nat} {ρ ρ':Rho} {F:Fz}
theorem Und.val (v:Value):Und N (.val v):=trivial
theorem Und.bool (b:Bool):Und N (.bool b):=trivial
theorem Und.int (i:Int):Und N (.int i):=trivial
theorem Und.str (x:Str):Und N (.str x):=trivial
theorem Und.ref {i:Nat} (h:i < N):Und N (.ref i):=h
theorem Und.tup:∀ {xs:List AV},(∀ x ∈ xs,Und N x)→Und N (.tup xs)
 | [],_=>trivial
 | x :: xs,h=>⟨h x (.head _),Und.tup (xs:=xs) fun y hy=>h y (.tail _ hy)⟩
theorem Und.lst {xs:List AV} (h:∀ x ∈ xs,Und N x):Und N (.lst xs):=Und.tup h
theorem Und.slo {C:Addr} {xs:List AV} (h:∀ x ∈ xs,Und N x):Und N (.slo C xs):=Und.tup h
theorem Und.obj {C:Addr}:∀ {fs:List (Str × AV)},(∀ p ∈ fs,Und N p.2)→Und N (.obj C fs)
 | [],_=>trivial
 | (_,av) :: fs,h=>⟨h _ (.head _),Und.obj (C:=C) (fs:=fs) fun y hy=>h y (.tail _ hy)⟩
theorem Und.clo {name:Str} {params:Arguments} {body:List Stmt} {scope:Scope} {cl:List (Str × Nat)} (h:∀ p ∈ cl,p.2 < N):Und N (.clo name params body scope cl):=h
theorem Den.under (hρ:∀ i,i < N→ρ' i=ρ i) {x:AV}:∀ {v:Value},Und N x→Den n ρ F x v→Den N ρ' F x v :=
 AV.ind (P:=fun x=>∀ {v},Und N x→Den n ρ F x v→Den N ρ' F x v) (L:=fun x=>∀ {v},Und N (.tup x)→Dens n ρ F x v→Dens N ρ' F x v) (M:=fun x=>∀ {v},Und N (.obj 0 x)→DenEs n ρ F x v→DenEs N ρ' F x v)
  (fun _ _ _ h=>h) (fun _ _ _ h=>h) (fun _ _ _ h=>h) (fun _ _ _ h=>h) (fun i _ u h=>⟨by rw [hρ i u]; exact h.1,u⟩) (fun _ ih v u=>dTup.to (fun _ _ h=>h) (fun _=>ih u) v) (fun _ _ ih v u=>dObj.to (fun _ _ h=>h) (fun _=>ih u) v) (fun _ _ ih v u=>dSlo.to (fun _ _ h=>h) (fun _=>ih u) v)
  (fun _ _ _ _ _ _ u=>dClo.to (fun _ _ h=>h) fun p hp _=>⟨u p hp,hρ _ (u p hp)⟩) (fun _ ih v u=>dLst.to (fun _ _ h=>h) (fun _=>ih u) v) (fun _ h=>h) (fun _ _ p q v u=>dCons.imp (fun _=>p u.1) (fun _=>q u.2) v) (fun _ h=>h) (fun _ _ _ p q v u=>dCons.imp (fun _ h=>⟨h.1,p u.1 h.2⟩) (fun _=>q u.2) v) x
theorem Dens.under (hρ:∀ i,i < N→ρ' i=ρ i):∀ {xs:List AV} {vs:List Value},(∀ x ∈ xs,Und N x)→Dens n ρ F xs vs→Dens N ρ' F xs vs
 | [],_,_,d=>d
 | _ :: _,vs,u,d=>dCons.imp (fun _=>Den.under hρ (u _ (.head _))) (fun _=>Dens.under hρ fun y hy=>u y (.tail _ hy)) vs d
theorem DenEs.under (hρ:∀ i,i < N→ρ' i=ρ i):∀ {xs:List (Str × AV)} {vs:List DictEntry},(∀ p ∈ xs,Und N p.2)→DenEs n ρ F xs vs→DenEs N ρ' F xs vs
 | [],_,_,d=>d
 | _ :: _,vs,u,d=>dCons.imp (fun _ h=>⟨h.1,Den.under hρ (u _ (.head _)) h.2⟩) (fun _=>DenEs.under hρ fun y hy=>u y (.tail _ hy)) vs d
theorem ODens.under (hρ:∀ i,i < N→ρ' i=ρ i):∀ {xs:List (Option AV)} {vs:List (Option Value)},(∀ x,some x ∈ xs→Und N x)→ODens n ρ F xs vs→ODens N ρ' F xs vs
 | [],_,_,d=>d
 | none :: _,vs,u,d=>dCons.imp (fun _ h=>h) (fun _=>ODens.under hρ fun y hy=>u y (.tail _ hy)) vs d
 | some x :: _,vs,u,d=>dCons.imp (fun _ ⟨w,e,h⟩=>⟨w,e,Den.under hρ (u _ (.head _)) h⟩) (fun _=>ODens.under hρ fun y hy=>u y (.tail _ hy)) vs d
end
end Mine
open PySem PySem.W PyProof.Rows
namespace Mine
inductive Wd where
 | b (b:Bool)
 | cut (xs:List AV) (y:AV)
 | norm
 | keep
 | sel (l:List Nat)
 | drop (i:Nat) (xs:List Str)
theorem dite_P {c:Prop} [Decidable c] {γ:Type} {P:γ→Prop} {t:c→γ} {e:¬c→γ} (h1:∀ h,P (t h)) (h2:∀ h,P (e h)):P (dite c t e):=by
 split
 ·exact h1 _
 ·exact h2 _
section
variable {γ:Type}
noncomputable def onConstant (e:Expr) (f:Const→Nat→Pos→γ) (d:γ):γ:=if h:e.ctorIdx=19 then Expr.Constant.elim (motive_1:=fun _=>γ) e h f else d
theorem onConstant_ind {P:γ→Expr→Prop} {e:Expr} {f:Const→Nat→Pos→γ} {d:γ} (H:∀ a b c,P (f a b c) (.Constant a b c)) (h0:P d e):P (onConstant e f d) e :=
 dite_P (P:=fun x=>P x e) (fun h=>Expr.Constant.elim (motive_1:=fun e=>∀ h,P (Expr.Constant.elim (motive_1:=fun _=>γ) e h f) e) e h (fun a b c _=>H a b c) h) fun _=>h0
noncomputable def onName (e:Expr) (f:Str→Pos→γ) (d:γ):γ:=if h:e.ctorIdx=23 then Expr.Name.elim (motive_1:=fun _=>γ) e h f else d
theorem onName_ind {P:γ→Expr→Prop} {e:Expr} {f:Str→Pos→γ} {d:γ} (H:∀ a b,P (f a b) (.Name a b)) (h0:P d e):P (onName e f d) e :=
 dite_P (P:=fun x=>P x e) (fun h=>Expr.Name.elim (motive_1:=fun e=>∀ h,P (Expr.Name.elim (motive_1:=fun _=>γ) e h f) e) e h (fun a b _=>H a b) h) fun _=>h0
noncomputable def onBinOp (e:Expr) (f:Expr→Operator→Expr→Pos→γ) (d:γ):γ:=if h:e.ctorIdx=2 then Expr.BinOp.elim (motive_1:=fun _=>γ) e h f else d
theorem onBinOp_ind {P:γ→Expr→Prop} {e:Expr} {f:Expr→Operator→Expr→Pos→γ} {d:γ} (H:∀ a b c q,P (f a b c q) (.BinOp a b c q)) (h0:P d e):P (onBinOp e f d) e :=
 dite_P (P:=fun x=>P x e) (fun h=>Expr.BinOp.elim (motive_1:=fun e=>∀ h,P (Expr.BinOp.elim (motive_1:=fun _=>γ) e h f) e) e h (fun a b c q _=>H a b c q) h) fun _=>h0
noncomputable def onUnaryOp (e:Expr) (f:UnaryOp→Expr→Pos→γ) (d:γ):γ:=if h:e.ctorIdx=3 then Expr.UnaryOp.elim (motive_1:=fun _=>γ) e h f else d
theorem onUnaryOp_ind {P:γ→Expr→Prop} {e:Expr} {f:UnaryOp→Expr→Pos→γ} {d:γ} (H:∀ a b c,P (f a b c) (.UnaryOp a b c)) (h0:P d e):P (onUnaryOp e f d) e :=
 dite_P (P:=fun x=>P x e) (fun h=>Expr.UnaryOp.elim (motive_1:=fun e=>∀ h,P (Expr.UnaryOp.elim (motive_1:=fun _=>γ) e h f) e) e h (fun a b c _=>H a b c) h) fun _=>h0
noncomputable def onIfExp (e:Expr) (f:Expr→Expr→Expr→Pos→γ) (d:γ):γ:=if h:e.ctorIdx=5 then Expr.IfExp.elim (motive_1:=fun _=>γ) e h f else d
theorem onIfExp_ind {P:γ→Expr→Prop} {e:Expr} {f:Expr→Expr→Expr→Pos→γ} {d:γ} (H:∀ a b c q,P (f a b c q) (.IfExp a b c q)) (h0:P d e):P (onIfExp e f d) e :=
 dite_P (P:=fun x=>P x e) (fun h=>Expr.IfExp.elim (motive_1:=fun e=>∀ h,P (Expr.IfExp.elim (motive_1:=fun _=>γ) e h f) e) e h (fun a b c q _=>H a b c q) h) fun _=>h0
noncomputable def onCompare (e:Expr) (f:Expr→(List CmpOp)→(List Expr)→Pos→γ) (d:γ):γ:=if h:e.ctorIdx=15 then Expr.Compare.elim (motive_1:=fun _=>γ) e h f else d
theorem onCompare_ind {P:γ→Expr→Prop} {e:Expr} {f:Expr→(List CmpOp)→(List Expr)→Pos→γ} {d:γ} (H:∀ a b c q,P (f a b c q) (.Compare a b c q)) (h0:P d e):P (onCompare e f d) e :=
 dite_P (P:=fun x=>P x e) (fun h=>Expr.Compare.elim (motive_1:=fun e=>∀ h,P (Expr.Compare.elim (motive_1:=fun _=>γ) e h f) e) e h (fun a b c q _=>H a b c q) h) fun _=>h0
noncomputable def onAttribute (e:Expr) (f:Expr→Str→Pos→γ) (d:γ):γ:=if h:e.ctorIdx=20 then Expr.Attribute.elim (motive_1:=fun _=>γ) e h f else d
theorem onAttribute_ind {P:γ→Expr→Prop} {e:Expr} {f:Expr→Str→Pos→γ} {d:γ} (H:∀ a b c,P (f a b c) (.Attribute a b c)) (h0:P d e):P (onAttribute e f d) e :=
 dite_P (P:=fun x=>P x e) (fun h=>Expr.Attribute.elim (motive_1:=fun e=>∀ h,P (Expr.Attribute.elim (motive_1:=fun _=>γ) e h f) e) e h (fun a b c _=>H a b c) h) fun _=>h0
noncomputable def onSubscript (e:Expr) (f:Expr→Expr→Pos→γ) (d:γ):γ:=if h:e.ctorIdx=21 then Expr.Subscript.elim (motive_1:=fun _=>γ) e h f else d
theorem onSubscript_ind {P:γ→Expr→Prop} {e:Expr} {f:Expr→Expr→Pos→γ} {d:γ} (H:∀ a b c,P (f a b c) (.Subscript a b c)) (h0:P d e):P (onSubscript e f d) e :=
 dite_P (P:=fun x=>P x e) (fun h=>Expr.Subscript.elim (motive_1:=fun e=>∀ h,P (Expr.Subscript.elim (motive_1:=fun _=>γ) e h f) e) e h (fun a b c _=>H a b c) h) fun _=>h0
noncomputable def onListE (e:Expr) (f:(List Expr)→Pos→γ) (d:γ):γ:=if h:e.ctorIdx=24 then Expr.List.elim (motive_1:=fun _=>γ) e h f else d
theorem onListE_ind {P:γ→Expr→Prop} {e:Expr} {f:(List Expr)→Pos→γ} {d:γ} (H:∀ a b,P (f a b) (.List a b)) (h0:P d e):P (onListE e f d) e :=
 dite_P (P:=fun x=>P x e) (fun h=>Expr.List.elim (motive_1:=fun e=>∀ h,P (Expr.List.elim (motive_1:=fun _=>γ) e h f) e) e h (fun a b _=>H a b) h) fun _=>h0
noncomputable def onTupleE (e:Expr) (f:(List Expr)→Nat→Pos→γ) (d:γ):γ:=if h:e.ctorIdx=25 then Expr.Tuple.elim (motive_1:=fun _=>γ) e h f else d
theorem onTupleE_ind {P:γ→Expr→Prop} {e:Expr} {f:(List Expr)→Nat→Pos→γ} {d:γ} (H:∀ a b c,P (f a b c) (.Tuple a b c)) (h0:P d e):P (onTupleE e f d) e :=
 dite_P (P:=fun x=>P x e) (fun h=>Expr.Tuple.elim (motive_1:=fun e=>∀ h,P (Expr.Tuple.elim (motive_1:=fun _=>γ) e h f) e) e h (fun a b c _=>H a b c) h) fun _=>h0
noncomputable def onCall (e:Expr) (f:Expr→(List Expr)→(List Keyword)→Pos→γ) (d:γ):γ:=if h:e.ctorIdx=16 then Expr.Call.elim (motive_1:=fun _=>γ) e h f else d
theorem onCall_ind {P:γ→Expr→Prop} {e:Expr} {f:Expr→(List Expr)→(List Keyword)→Pos→γ} {d:γ} (H:∀ a b c q,P (f a b c q) (.Call a b c q)) (h0:P d e):P (onCall e f d) e :=
 dite_P (P:=fun x=>P x e) (fun h=>Expr.Call.elim (motive_1:=fun e=>∀ h,P (Expr.Call.elim (motive_1:=fun _=>γ) e h f) e) e h (fun a b c q _=>H a b c q) h) fun _=>h0
noncomputable def onListComp (e:Expr) (f:Expr→(List Comprehension)→Scope→Pos→γ) (d:γ):γ:=if h:e.ctorIdx=8 then Expr.ListComp.elim (motive_1:=fun _=>γ) e h f else d
theorem onListComp_ind {P:γ→Expr→Prop} {e:Expr} {f:Expr→(List Comprehension)→Scope→Pos→γ} {d:γ} (H:∀ a b c q,P (f a b c q) (.ListComp a b c q)) (h0:P d e):P (onListComp e f d) e :=
 dite_P (P:=fun x=>P x e) (fun h=>Expr.ListComp.elim (motive_1:=fun e=>∀ h,P (Expr.ListComp.elim (motive_1:=fun _=>γ) e h f) e) e h (fun a b c q _=>H a b c q) h) fun _=>h0
noncomputable def onGenExp (e:Expr) (f:Expr→(List Comprehension)→Scope→Pos→γ) (d:γ):γ:=if h:e.ctorIdx=11 then Expr.GeneratorExp.elim (motive_1:=fun _=>γ) e h f else d
theorem onGenExp_ind {P:γ→Expr→Prop} {e:Expr} {f:Expr→(List Comprehension)→Scope→Pos→γ} {d:γ} (H:∀ a b c q,P (f a b c q) (.GeneratorExp a b c q)) (h0:P d e):P (onGenExp e f d) e :=
 dite_P (P:=fun x=>P x e) (fun h=>Expr.GeneratorExp.elim (motive_1:=fun e=>∀ h,P (Expr.GeneratorExp.elim (motive_1:=fun _=>γ) e h f) e) e h (fun a b c q _=>H a b c q) h) fun _=>h0
noncomputable def onSliceE (e:Expr) (f:(Option Expr)→(Option Expr)→(Option Expr)→Pos→γ) (d:γ):γ:=if h:e.ctorIdx=26 then Expr.Slice.elim (motive_1:=fun _=>γ) e h f else d
theorem onSliceE_ind {P:γ→Expr→Prop} {e:Expr} {f:(Option Expr)→(Option Expr)→(Option Expr)→Pos→γ} {d:γ} (H:∀ a b c q,P (f a b c q) (.Slice a b c q)) (h0:P d e):P (onSliceE e f d) e :=
 dite_P (P:=fun x=>P x e) (fun h=>Expr.Slice.elim (motive_1:=fun e=>∀ h,P (Expr.Slice.elim (motive_1:=fun _=>γ) e h f) e) e h (fun a b c q _=>H a b c q) h) fun _=>h0
noncomputable def onBoolOp (e:Expr) (f:BoolOp→(List Expr)→Pos→γ) (d:γ):γ:=if h:e.ctorIdx=0 then Expr.BoolOp.elim (motive_1:=fun _=>γ) e h f else d
theorem onBoolOp_ind {P:γ→Expr→Prop} {e:Expr} {f:BoolOp→(List Expr)→Pos→γ} {d:γ} (H:∀ a b c,P (f a b c) (.BoolOp a b c)) (h0:P d e):P (onBoolOp e f d) e :=
 dite_P (P:=fun x=>P x e) (fun h=>Expr.BoolOp.elim (motive_1:=fun e=>∀ h,P (Expr.BoolOp.elim (motive_1:=fun _=>γ) e h f) e) e h (fun a b c _=>H a b c) h) fun _=>h0
noncomputable def onDictE (e:Expr) (f:(List (Option Expr))→(List Expr)→Pos→γ) (d:γ):γ:=if h:e.ctorIdx=6 then Expr.Dict.elim (motive_1:=fun _=>γ) e h f else d
theorem onDictE_ind {P:γ→Expr→Prop} {e:Expr} {f:(List (Option Expr))→(List Expr)→Pos→γ} {d:γ} (H:∀ a b c,P (f a b c) (.Dict a b c)) (h0:P d e):P (onDictE e f d) e :=
 dite_P (P:=fun x=>P x e) (fun h=>Expr.Dict.elim (motive_1:=fun e=>∀ h,P (Expr.Dict.elim (motive_1:=fun _=>γ) e h f) e) e h (fun a b c _=>H a b c) h) fun _=>h0
noncomputable def onExprS (e:Stmt) (f:Expr→Pos→γ) (d:γ):γ:=if h:e.ctorIdx=24 then Stmt.Expr.elim (motive_2:=fun _=>γ) e h f else d
theorem onExprS_ind {P:γ→Stmt→Prop} {e:Stmt} {f:Expr→Pos→γ} {d:γ} (H:∀ a b,P (f a b) (.Expr a b)) (h0:P d e):P (onExprS e f d) e :=
 dite_P (P:=fun x=>P x e) (fun h=>Stmt.Expr.elim (motive_2:=fun e=>∀ h,P (Stmt.Expr.elim (motive_2:=fun _=>γ) e h f) e) e h (fun a b _=>H a b) h) fun _=>h0
noncomputable def onAssign (e:Stmt) (f:(List Expr)→Expr→Pos→γ) (d:γ):γ:=if h:e.ctorIdx=5 then Stmt.Assign.elim (motive_2:=fun _=>γ) e h f else d
theorem onAssign_ind {P:γ→Stmt→Prop} {e:Stmt} {f:(List Expr)→Expr→Pos→γ} {d:γ} (H:∀ a b c,P (f a b c) (.Assign a b c)) (h0:P d e):P (onAssign e f d) e :=
 dite_P (P:=fun x=>P x e) (fun h=>Stmt.Assign.elim (motive_2:=fun e=>∀ h,P (Stmt.Assign.elim (motive_2:=fun _=>γ) e h f) e) e h (fun a b c _=>H a b c) h) fun _=>h0
noncomputable def onAugAssign (e:Stmt) (f:Expr→Operator→Expr→Pos→γ) (d:γ):γ:=if h:e.ctorIdx=7 then Stmt.AugAssign.elim (motive_2:=fun _=>γ) e h f else d
theorem onAugAssign_ind {P:γ→Stmt→Prop} {e:Stmt} {f:Expr→Operator→Expr→Pos→γ} {d:γ} (H:∀ a b c q,P (f a b c q) (.AugAssign a b c q)) (h0:P d e):P (onAugAssign e f d) e :=
 dite_P (P:=fun x=>P x e) (fun h=>Stmt.AugAssign.elim (motive_2:=fun e=>∀ h,P (Stmt.AugAssign.elim (motive_2:=fun _=>γ) e h f) e) e h (fun a b c q _=>H a b c q) h) fun _=>h0
noncomputable def onIf (e:Stmt) (f:Expr→(List Stmt)→(List Stmt)→Pos→γ) (d:γ):γ:=if h:e.ctorIdx=12 then Stmt.If.elim (motive_2:=fun _=>γ) e h f else d
theorem onIf_ind {P:γ→Stmt→Prop} {e:Stmt} {f:Expr→(List Stmt)→(List Stmt)→Pos→γ} {d:γ} (H:∀ a b c q,P (f a b c q) (.If a b c q)) (h0:P d e):P (onIf e f d) e :=
 dite_P (P:=fun x=>P x e) (fun h=>Stmt.If.elim (motive_2:=fun e=>∀ h,P (Stmt.If.elim (motive_2:=fun _=>γ) e h f) e) e h (fun a b c q _=>H a b c q) h) fun _=>h0
noncomputable def onWhile (e:Stmt) (f:Expr→(List Stmt)→(List Stmt)→Pos→γ) (d:γ):γ:=if h:e.ctorIdx=11 then Stmt.While.elim (motive_2:=fun _=>γ) e h f else d
theorem onWhile_ind {P:γ→Stmt→Prop} {e:Stmt} {f:Expr→(List Stmt)→(List Stmt)→Pos→γ} {d:γ} (H:∀ a b c q,P (f a b c q) (.While a b c q)) (h0:P d e):P (onWhile e f d) e :=
 dite_P (P:=fun x=>P x e) (fun h=>Stmt.While.elim (motive_2:=fun e=>∀ h,P (Stmt.While.elim (motive_2:=fun _=>γ) e h f) e) e h (fun a b c q _=>H a b c q) h) fun _=>h0
noncomputable def onFor (e:Stmt) (f:Expr→Expr→(List Stmt)→(List Stmt)→Pos→γ) (d:γ):γ:=if h:e.ctorIdx=9 then Stmt.For.elim (motive_2:=fun _=>γ) e h f else d
theorem onFor_ind {P:γ→Stmt→Prop} {e:Stmt} {f:Expr→Expr→(List Stmt)→(List Stmt)→Pos→γ} {d:γ} (H:∀ a b c q r,P (f a b c q r) (.For a b c q r)) (h0:P d e):P (onFor e f d) e :=
 dite_P (P:=fun x=>P x e) (fun h=>Stmt.For.elim (motive_2:=fun e=>∀ h,P (Stmt.For.elim (motive_2:=fun _=>γ) e h f) e) e h (fun a b c q r _=>H a b c q r) h) fun _=>h0
noncomputable def onReturn (e:Stmt) (f:(Option Expr)→Pos→γ) (d:γ):γ:=if h:e.ctorIdx=3 then Stmt.Return.elim (motive_2:=fun _=>γ) e h f else d
theorem onReturn_ind {P:γ→Stmt→Prop} {e:Stmt} {f:(Option Expr)→Pos→γ} {d:γ} (H:∀ a b,P (f a b) (.Return a b)) (h0:P d e):P (onReturn e f d) e :=
 dite_P (P:=fun x=>P x e) (fun h=>Stmt.Return.elim (motive_2:=fun e=>∀ h,P (Stmt.Return.elim (motive_2:=fun _=>γ) e h f) e) e h (fun a b _=>H a b) h) fun _=>h0
noncomputable def onRaise (e:Stmt) (f:(Option Expr)→(Option Expr)→Pos→γ) (d:γ):γ:=if h:e.ctorIdx=16 then Stmt.Raise.elim (motive_2:=fun _=>γ) e h f else d
theorem onRaise_ind {P:γ→Stmt→Prop} {e:Stmt} {f:(Option Expr)→(Option Expr)→Pos→γ} {d:γ} (H:∀ a b c,P (f a b c) (.Raise a b c)) (h0:P d e):P (onRaise e f d) e :=
 dite_P (P:=fun x=>P x e) (fun h=>Stmt.Raise.elim (motive_2:=fun e=>∀ h,P (Stmt.Raise.elim (motive_2:=fun _=>γ) e h f) e) e h (fun a b c _=>H a b c) h) fun _=>h0
noncomputable def onTry (e:Stmt) (f:(List Stmt)→(List ExceptHandler)→(List Stmt)→(List Stmt)→Pos→γ) (d:γ):γ:=if h:e.ctorIdx=17 then Stmt.Try.elim (motive_2:=fun _=>γ) e h f else d
theorem onTry_ind {P:γ→Stmt→Prop} {e:Stmt} {f:(List Stmt)→(List ExceptHandler)→(List Stmt)→(List Stmt)→Pos→γ} {d:γ} (H:∀ a b c q r,P (f a b c q r) (.Try a b c q r)) (h0:P d e):P (onTry e f d) e :=
 dite_P (P:=fun x=>P x e) (fun h=>Stmt.Try.elim (motive_2:=fun e=>∀ h,P (Stmt.Try.elim (motive_2:=fun _=>γ) e h f) e) e h (fun a b c q r _=>H a b c q r) h) fun _=>h0
noncomputable def onAssert (e:Stmt) (f:Expr→(Option Expr)→Pos→γ) (d:γ):γ:=if h:e.ctorIdx=19 then Stmt.Assert.elim (motive_2:=fun _=>γ) e h f else d
theorem onAssert_ind {P:γ→Stmt→Prop} {e:Stmt} {f:Expr→(Option Expr)→Pos→γ} {d:γ} (H:∀ a b c,P (f a b c) (.Assert a b c)) (h0:P d e):P (onAssert e f d) e :=
 dite_P (P:=fun x=>P x e) (fun h=>Stmt.Assert.elim (motive_2:=fun e=>∀ h,P (Stmt.Assert.elim (motive_2:=fun _=>γ) e h f) e) e h (fun a b c _=>H a b c) h) fun _=>h0
noncomputable def onFunctionDef (e:Stmt) (f:Str→Arguments→(List Stmt)→(List Expr)→(Option Expr)→(List TypeParam)→Scope→(Option Scope)→Str→Pos→γ) (d:γ):γ:=if h:e.ctorIdx=0 then Stmt.FunctionDef.elim (motive_2:=fun _=>γ) e h f else d
theorem onFunctionDef_ind {P:γ→Stmt→Prop} {e:Stmt} {f:Str→Arguments→(List Stmt)→(List Expr)→(Option Expr)→(List TypeParam)→Scope→(Option Scope)→Str→Pos→γ} {d:γ} (H:∀ a b c q r u v w y z,P (f a b c q r u v w y z) (.FunctionDef a b c q r u v w y z)) (h0:P d e):P (onFunctionDef e f d) e :=
 dite_P (P:=fun x=>P x e) (fun h=>Stmt.FunctionDef.elim (motive_2:=fun e=>∀ h,P (Stmt.FunctionDef.elim (motive_2:=fun _=>γ) e h f) e) e h (fun a b c q r u v w y z _=>H a b c q r u v w y z) h) fun _=>h0
noncomputable def onPass (e:Stmt) (f:Pos→γ) (d:γ):γ:=if h:e.ctorIdx=25 then Stmt.Pass.elim (motive_2:=fun _=>γ) e h f else d
theorem onPass_ind {P:γ→Stmt→Prop} {e:Stmt} {f:Pos→γ} {d:γ} (H:∀ a,P (f a) (.Pass a)) (h0:P d e):P (onPass e f d) e :=
 dite_P (P:=fun x=>P x e) (fun h=>Stmt.Pass.elim (motive_2:=fun e=>∀ h,P (Stmt.Pass.elim (motive_2:=fun _=>γ) e h f) e) e h (fun a _=>H a) h) fun _=>h0
noncomputable def onBreak (e:Stmt) (f:Pos→γ) (d:γ):γ:=if h:e.ctorIdx=26 then Stmt.Break.elim (motive_2:=fun _=>γ) e h f else d
theorem onBreak_ind {P:γ→Stmt→Prop} {e:Stmt} {f:Pos→γ} {d:γ} (H:∀ a,P (f a) (.Break a)) (h0:P d e):P (onBreak e f d) e :=
 dite_P (P:=fun x=>P x e) (fun h=>Stmt.Break.elim (motive_2:=fun e=>∀ h,P (Stmt.Break.elim (motive_2:=fun _=>γ) e h f) e) e h (fun a _=>H a) h) fun _=>h0
noncomputable def onContinue (e:Stmt) (f:Pos→γ) (d:γ):γ:=if h:e.ctorIdx=27 then Stmt.Continue.elim (motive_2:=fun _=>γ) e h f else d
theorem onContinue_ind {P:γ→Stmt→Prop} {e:Stmt} {f:Pos→γ} {d:γ} (H:∀ a,P (f a) (.Continue a)) (h0:P d e):P (onContinue e f d) e :=
 dite_P (P:=fun x=>P x e) (fun h=>Stmt.Continue.elim (motive_2:=fun e=>∀ h,P (Stmt.Continue.elim (motive_2:=fun _=>γ) e h f) e) e h (fun a _=>H a) h) fun _=>h0
noncomputable def onVal (e:AV) (f:Value→γ) (d:γ):γ:=if h:e.ctorIdx=0 then AV.val.elim (motive_1:=fun _=>γ) e h f else d
theorem onVal_ind {P:γ→AV→Prop} {e:AV} {f:Value→γ} {d:γ} (H:∀ a,P (f a) (.val a)) (h0:P d e):P (onVal e f d) e :=
 dite_P (P:=fun x=>P x e) (fun h=>AV.val.elim (motive_1:=fun e=>∀ h,P (AV.val.elim (motive_1:=fun _=>γ) e h f) e) e h (fun a _=>H a) h) fun _=>h0
noncomputable def onBool (e:AV) (f:Bool→γ) (d:γ):γ:=if h:e.ctorIdx=1 then AV.bool.elim (motive_1:=fun _=>γ) e h f else d
theorem onBool_ind {P:γ→AV→Prop} {e:AV} {f:Bool→γ} {d:γ} (H:∀ a,P (f a) (.bool a)) (h0:P d e):P (onBool e f d) e :=
 dite_P (P:=fun x=>P x e) (fun h=>AV.bool.elim (motive_1:=fun e=>∀ h,P (AV.bool.elim (motive_1:=fun _=>γ) e h f) e) e h (fun a _=>H a) h) fun _=>h0
noncomputable def onInt (e:AV) (f:Int→γ) (d:γ):γ:=if h:e.ctorIdx=2 then AV.int.elim (motive_1:=fun _=>γ) e h f else d
theorem onInt_ind {P:γ→AV→Prop} {e:AV} {f:Int→γ} {d:γ} (H:∀ a,P (f a) (.int a)) (h0:P d e):P (onInt e f d) e :=
 dite_P (P:=fun x=>P x e) (fun h=>AV.int.elim (motive_1:=fun e=>∀ h,P (AV.int.elim (motive_1:=fun _=>γ) e h f) e) e h (fun a _=>H a) h) fun _=>h0
noncomputable def onStr (e:AV) (f:Str→γ) (d:γ):γ:=if h:e.ctorIdx=3 then AV.str.elim (motive_1:=fun _=>γ) e h f else d
theorem onStr_ind {P:γ→AV→Prop} {e:AV} {f:Str→γ} {d:γ} (H:∀ a,P (f a) (.str a)) (h0:P d e):P (onStr e f d) e :=
 dite_P (P:=fun x=>P x e) (fun h=>AV.str.elim (motive_1:=fun e=>∀ h,P (AV.str.elim (motive_1:=fun _=>γ) e h f) e) e h (fun a _=>H a) h) fun _=>h0
noncomputable def onRef (e:AV) (f:Nat→γ) (d:γ):γ:=if h:e.ctorIdx=4 then AV.ref.elim (motive_1:=fun _=>γ) e h f else d
theorem onRef_ind {P:γ→AV→Prop} {e:AV} {f:Nat→γ} {d:γ} (H:∀ a,P (f a) (.ref a)) (h0:P d e):P (onRef e f d) e :=
 dite_P (P:=fun x=>P x e) (fun h=>AV.ref.elim (motive_1:=fun e=>∀ h,P (AV.ref.elim (motive_1:=fun _=>γ) e h f) e) e h (fun a _=>H a) h) fun _=>h0
noncomputable def onTup (e:AV) (f:(List AV)→γ) (d:γ):γ:=if h:e.ctorIdx=5 then AV.tup.elim (motive_1:=fun _=>γ) e h f else d
theorem onTup_ind {P:γ→AV→Prop} {e:AV} {f:(List AV)→γ} {d:γ} (H:∀ a,P (f a) (.tup a)) (h0:P d e):P (onTup e f d) e :=
 dite_P (P:=fun x=>P x e) (fun h=>AV.tup.elim (motive_1:=fun e=>∀ h,P (AV.tup.elim (motive_1:=fun _=>γ) e h f) e) e h (fun a _=>H a) h) fun _=>h0
noncomputable def onObj (e:AV) (f:Addr→(List (Str × AV))→γ) (d:γ):γ:=if h:e.ctorIdx=6 then AV.obj.elim (motive_1:=fun _=>γ) e h f else d
theorem onObj_ind {P:γ→AV→Prop} {e:AV} {f:Addr→(List (Str × AV))→γ} {d:γ} (H:∀ a b,P (f a b) (.obj a b)) (h0:P d e):P (onObj e f d) e :=
 dite_P (P:=fun x=>P x e) (fun h=>AV.obj.elim (motive_1:=fun e=>∀ h,P (AV.obj.elim (motive_1:=fun _=>γ) e h f) e) e h (fun a b _=>H a b) h) fun _=>h0
noncomputable def onSlo (e:AV) (f:Addr→(List AV)→γ) (d:γ):γ:=if h:e.ctorIdx=7 then AV.slo.elim (motive_1:=fun _=>γ) e h f else d
noncomputable def onLst (e:AV) (f:(List AV)→γ) (d:γ):γ:=if h:e.ctorIdx=9 then AV.lst.elim (motive_1:=fun _=>γ) e h f else d
theorem onLst_ind {P:γ→AV→Prop} {e:AV} {f:(List AV)→γ} {d:γ} (H:∀ a,P (f a) (.lst a)) (h0:P d e):P (onLst e f d) e :=
 dite_P (P:=fun x=>P x e) (fun h=>AV.lst.elim (motive_1:=fun e=>∀ h,P (AV.lst.elim (motive_1:=fun _=>γ) e h f) e) e h (fun a _=>H a) h) fun _=>h0
noncomputable def onClo (e:AV) (f:Str→Arguments→(List Stmt)→Scope→(List (Str × Nat))→γ) (d:γ):γ:=if h:e.ctorIdx=8 then AV.clo.elim (motive_1:=fun _=>γ) e h f else d
theorem onClo_ind {P:γ→AV→Prop} {e:AV} {f:Str→Arguments→(List Stmt)→Scope→(List (Str × Nat))→γ} {d:γ} (H:∀ a b c q r,P (f a b c q r) (.clo a b c q r)) (h0:P d e):P (onClo e f d) e :=
 dite_P (P:=fun x=>P x e) (fun h=>AV.clo.elim (motive_1:=fun e=>∀ h,P (AV.clo.elim (motive_1:=fun _=>γ) e h f) e) e h (fun a b c q r _=>H a b c q r) h) fun _=>h0
noncomputable def onDFunc (e:Data) (f:FuncData→γ) (d:γ):γ:=if h:e.ctorIdx=7 then Data.func.elim (motive:=fun _=>γ) e h f else d
noncomputable def onDSeq (e:Data) (f:(Array Value)→Nat→γ) (d:γ):γ:=if h:e.ctorIdx=2 then Data.seq.elim (motive:=fun _=>γ) e h f else d
noncomputable def onDFields (e:Data) (f:(Array Value)→γ) (d:γ):γ:=if h:e.ctorIdx=9 then Data.fields.elim (motive:=fun _=>γ) e h f else d
noncomputable def onBStmts (e:FuncBody) (f:(List Stmt)→γ) (d:γ):γ:=if h:e.ctorIdx=0 then FuncBody.stmts.elim (motive:=fun _=>γ) e h f else d
noncomputable def onVType (e:Value) (f:String→γ) (d:γ):γ:=if h:e.ctorIdx=8 then Value.type.elim (motive:=fun _=>γ) e h f else d
theorem onVType_ind {P:γ→Value→Prop} {e:Value} {f:String→γ} {d:γ} (H:∀ a,P (f a) (.type a)) (h0:P d e):P (onVType e f d) e :=
 dite_P (P:=fun x=>P x e) (fun h=>Value.type.elim (motive:=fun e=>∀ h,P (Value.type.elim (motive:=fun _=>γ) e h f) e) e h (fun a _=>H a) h) fun _=>h0
noncomputable def onVBuiltin (e:Value) (f:String→γ) (d:γ):γ:=if h:e.ctorIdx=9 then Value.builtin.elim (motive:=fun _=>γ) e h f else d
theorem onVBuiltin_ind {P:γ→Value→Prop} {e:Value} {f:String→γ} {d:γ} (H:∀ a,P (f a) (.builtin a)) (h0:P d e):P (onVBuiltin e f d) e :=
 dite_P (P:=fun x=>P x e) (fun h=>Value.builtin.elim (motive:=fun e=>∀ h,P (Value.builtin.elim (motive:=fun _=>γ) e h f) e) e h (fun a _=>H a) h) fun _=>h0
noncomputable def onVRef (e:Value) (f:Addr→γ) (d:γ):γ:=if h:e.ctorIdx=10 then Value.ref.elim (motive:=fun _=>γ) e h f else d
theorem onVRef_ind {P:γ→Value→Prop} {e:Value} {f:Addr→γ} {d:γ} (H:∀ a,P (f a) (.ref a)) (h0:P d e):P (onVRef e f d) e :=
 dite_P (P:=fun x=>P x e) (fun h=>Value.ref.elim (motive:=fun e=>∀ h,P (Value.ref.elim (motive:=fun _=>γ) e h f) e) e h (fun a _=>H a) h) fun _=>h0
noncomputable def onVNone (e:Value) (f:γ) (d:γ):γ:=if h:e.ctorIdx=0 then Value.none.elim (motive:=fun _=>γ) e h f else d
theorem onVNone_ind {P:γ→Value→Prop} {e:Value} {f:γ} {d:γ} (H:P f .none) (h0:P d e):P (onVNone e f d) e :=
 dite_P (P:=fun x=>P x e) (fun h=>Value.none.elim (motive:=fun e=>∀ h,P (Value.none.elim (motive:=fun _=>γ) e h f) e) e h (fun _=>H) h) fun _=>h0
noncomputable def onVStr (e:Value) (f:Str→Tok→γ) (d:γ):γ:=if h:e.ctorIdx=6 then Value.str.elim (motive:=fun _=>γ) e h f else d
theorem onVStr_ind {P:γ→Value→Prop} {e:Value} {f:Str→Tok→γ} {d:γ} (H:∀ a b,P (f a b) (.str a b)) (h0:P d e):P (onVStr e f d) e :=
 dite_P (P:=fun x=>P x e) (fun h=>Value.str.elim (motive:=fun e=>∀ h,P (Value.str.elim (motive:=fun _=>γ) e h f) e) e h (fun a b _=>H a b) h) fun _=>h0
noncomputable def onVInt (e:Value) (f:Int→Tok→γ) (d:γ):γ:=if h:e.ctorIdx=4 then Value.int.elim (motive:=fun _=>γ) e h f else d
theorem onVInt_ind {P:γ→Value→Prop} {e:Value} {f:Int→Tok→γ} {d:γ} (H:∀ a b,P (f a b) (.int a b)) (h0:P d e):P (onVInt e f d) e :=
 dite_P (P:=fun x=>P x e) (fun h=>Value.int.elim (motive:=fun e=>∀ h,P (Value.int.elim (motive:=fun _=>γ) e h f) e) e h (fun a b _=>H a b) h) fun _=>h0
noncomputable def onWB (e:Wd) (f:Bool→γ) (d:γ):γ:=if h:e.ctorIdx=0 then Wd.b.elim (motive:=fun _=>γ) e h f else d
noncomputable def onWCut (e:Wd) (f:(List AV)→AV→γ) (d:γ):γ:=if h:e.ctorIdx=1 then Wd.cut.elim (motive:=fun _=>γ) e h f else d
noncomputable def onWNorm (e:Wd) (f:γ) (d:γ):γ:=if h:e.ctorIdx=2 then Wd.norm.elim (motive:=fun _=>γ) e h f else d
theorem onWNorm_ind {P:γ→Wd→Prop} {e:Wd} {f:γ} {d:γ} (H:P f .norm) (h0:P d e):P (onWNorm e f d) e :=
 dite_P (P:=fun x=>P x e) (fun h=>Wd.norm.elim (motive:=fun e=>∀ h,P (Wd.norm.elim (motive:=fun _=>γ) e h f) e) e h (fun _=>H) h) fun _=>h0
noncomputable def onWKeep (e:Wd) (f:γ) (d:γ):γ:=if h:e.ctorIdx=3 then Wd.keep.elim (motive:=fun _=>γ) e h f else d
theorem onWKeep_ind {P:γ→Wd→Prop} {e:Wd} {f:γ} {d:γ} (H:P f .keep) (h0:P d e):P (onWKeep e f d) e :=
 dite_P (P:=fun x=>P x e) (fun h=>Wd.keep.elim (motive:=fun e=>∀ h,P (Wd.keep.elim (motive:=fun _=>γ) e h f) e) e h (fun _=>H) h) fun _=>h0
noncomputable def onWSel (e:Wd) (f:(List Nat)→γ) (d:γ):γ:=if h:e.ctorIdx=4 then Wd.sel.elim (motive:=fun _=>γ) e h f else d
theorem onWSel_ind {P:γ→Wd→Prop} {e:Wd} {f:(List Nat)→γ} {d:γ} (H:∀ a,P (f a) (.sel a)) (h0:P d e):P (onWSel e f d) e :=
 dite_P (P:=fun x=>P x e) (fun h=>Wd.sel.elim (motive:=fun e=>∀ h,P (Wd.sel.elim (motive:=fun _=>γ) e h f) e) e h (fun a _=>H a) h) fun _=>h0
noncomputable def onWDrop (e:Wd) (f:Nat→(List Str)→γ) (d:γ):γ:=if h:e.ctorIdx=5 then Wd.drop.elim (motive:=fun _=>γ) e h f else d
theorem onWDrop_ind {P:γ→Wd→Prop} {e:Wd} {f:Nat→(List Str)→γ} {d:γ} (H:∀ a b,P (f a b) (.drop a b)) (h0:P d e):P (onWDrop e f d) e :=
 dite_P (P:=fun x=>P x e) (fun h=>Wd.drop.elim (motive:=fun e=>∀ h,P (Wd.drop.elim (motive:=fun _=>γ) e h f) e) e h (fun a b _=>H a b) h) fun _=>h0
noncomputable def onCList (e:Cell) (f:(List AV)→γ) (d:γ):γ:=if h:e.ctorIdx=0 then Cell.list.elim (motive:=fun _=>γ) e h f else d
theorem onCList_ind {P:γ→Cell→Prop} {e:Cell} {f:(List AV)→γ} {d:γ} (H:∀ a,P (f a) (.list a)) (h0:P d e):P (onCList e f d) e :=
 dite_P (P:=fun x=>P x e) (fun h=>Cell.list.elim (motive:=fun e=>∀ h,P (Cell.list.elim (motive:=fun _=>γ) e h f) e) e h (fun a _=>H a) h) fun _=>h0
noncomputable def onCNs (e:Cell) (f:(List (Str × AV))→γ) (d:γ):γ:=if h:e.ctorIdx=1 then Cell.ns.elim (motive:=fun _=>γ) e h f else d
theorem onCNs_ind {P:γ→Cell→Prop} {e:Cell} {f:(List (Str × AV))→γ} {d:γ} (H:∀ a,P (f a) (.ns a)) (h0:P d e):P (onCNs e f d) e :=
 dite_P (P:=fun x=>P x e) (fun h=>Cell.ns.elim (motive:=fun e=>∀ h,P (Cell.ns.elim (motive:=fun _=>γ) e h f) e) e h (fun a _=>H a) h) fun _=>h0
noncomputable def onCBox (e:Cell) (f:(Option AV)→γ) (d:γ):γ:=if h:e.ctorIdx=2 then Cell.box.elim (motive:=fun _=>γ) e h f else d
theorem onCBox_ind {P:γ→Cell→Prop} {e:Cell} {f:(Option AV)→γ} {d:γ} (H:∀ a,P (f a) (.box a)) (h0:P d e):P (onCBox e f d) e :=
 dite_P (P:=fun x=>P x e) (fun h=>Cell.box.elim (motive:=fun e=>∀ h,P (Cell.box.elim (motive:=fun _=>γ) e h f) e) e h (fun a _=>H a) h) fun _=>h0
noncomputable def onCDict (e:Cell) (f:(List (Str × AV))→γ) (d:γ):γ:=if h:e.ctorIdx=3 then Cell.dict.elim (motive:=fun _=>γ) e h f else d
theorem onCDict_ind {P:γ→Cell→Prop} {e:Cell} {f:(List (Str × AV))→γ} {d:γ} (H:∀ a,P (f a) (.dict a)) (h0:P d e):P (onCDict e f d) e :=
 dite_P (P:=fun x=>P x e) (fun h=>Cell.dict.elim (motive:=fun e=>∀ h,P (Cell.dict.elim (motive:=fun _=>γ) e h f) e) e h (fun a _=>H a) h) fun _=>h0
noncomputable def onCInst (e:Cell) (f:Addr→Nat→γ) (d:γ):γ:=if h:e.ctorIdx=4 then Cell.inst.elim (motive:=fun _=>γ) e h f else d
theorem onCInst_ind {P:γ→Cell→Prop} {e:Cell} {f:Addr→Nat→γ} {d:γ} (H:∀ a b,P (f a b) (.inst a b)) (h0:P d e):P (onCInst e f d) e :=
 dite_P (P:=fun x=>P x e) (fun h=>Cell.inst.elim (motive:=fun e=>∀ h,P (Cell.inst.elim (motive:=fun _=>γ) e h f) e) e h (fun a b _=>H a b) h) fun _=>h0
noncomputable def onCSinst (e:Cell) (f:Addr→Nat→(List (Option AV))→γ) (d:γ):γ:=if h:e.ctorIdx=5 then Cell.sinst.elim (motive:=fun _=>γ) e h f else d
theorem onCSinst_ind {P:γ→Cell→Prop} {e:Cell} {f:Addr→Nat→(List (Option AV))→γ} {d:γ} (H:∀ a b c,P (f a b c) (.sinst a b c)) (h0:P d e):P (onCSinst e f d) e :=
 dite_P (P:=fun x=>P x e) (fun h=>Cell.sinst.elim (motive:=fun e=>∀ h,P (Cell.sinst.elim (motive:=fun _=>γ) e h f) e) e h (fun a b c _=>H a b c) h) fun _=>h0
noncomputable def onCLiter (e:Cell) (f:Nat→Nat→γ) (d:γ):γ:=if h:e.ctorIdx=6 then Cell.liter.elim (motive:=fun _=>γ) e h f else d
theorem onCLiter_ind {P:γ→Cell→Prop} {e:Cell} {f:Nat→Nat→γ} {d:γ} (H:∀ a b,P (f a b) (.liter a b)) (h0:P d e):P (onCLiter e f d) e :=
 dite_P (P:=fun x=>P x e) (fun h=>Cell.liter.elim (motive:=fun e=>∀ h,P (Cell.liter.elim (motive:=fun _=>γ) e h f) e) e h (fun a b _=>H a b) h) fun _=>h0
noncomputable def onCLend (e:Cell) (f:γ) (d:γ):γ:=if h:e.ctorIdx=7 then Cell.lend.elim (motive:=fun _=>γ) e h f else d
theorem onCLend_ind {P:γ→Cell→Prop} {e:Cell} {f:γ} {d:γ} (H:P f .lend) (h0:P d e):P (onCLend e f d) e :=
 dite_P (P:=fun x=>P x e) (fun h=>Cell.lend.elim (motive:=fun e=>∀ h,P (Cell.lend.elim (motive:=fun _=>γ) e h f) e) e h (fun _=>H) h) fun _=>h0
noncomputable def onCTab (e:Cell) (f:Addr→(Array Value)→(Option (List (Int × Int)))→γ) (d:γ):γ:=if h:e.ctorIdx=8 then Cell.tab.elim (motive:=fun _=>γ) e h f else d
theorem onCTab_ind {P:γ→Cell→Prop} {e:Cell} {f:Addr→(Array Value)→(Option (List (Int × Int)))→γ} {d:γ} (H:∀ a b c,P (f a b c) (.tab a b c)) (h0:P d e):P (onCTab e f d) e :=
 dite_P (P:=fun x=>P x e) (fun h=>Cell.tab.elim (motive:=fun e=>∀ h,P (Cell.tab.elim (motive:=fun _=>γ) e h f) e) e h (fun a b c _=>H a b c) h) fun _=>h0
noncomputable def onCRaw (e:Cell) (f:Obj→γ) (d:γ):γ:=if h:e.ctorIdx=9 then Cell.raw.elim (motive:=fun _=>γ) e h f else d
theorem onCRaw_ind {P:γ→Cell→Prop} {e:Cell} {f:Obj→γ} {d:γ} (H:∀ a,P (f a) (.raw a)) (h0:P d e):P (onCRaw e f d) e :=
 dite_P (P:=fun x=>P x e) (fun h=>Cell.raw.elim (motive:=fun e=>∀ h,P (Cell.raw.elim (motive:=fun _=>γ) e h f) e) e h (fun a _=>H a) h) fun _=>h0
noncomputable def onCExc (e:Cell) (f:Addr→(Option Nat)→(Option Nat)→γ) (d:γ):γ:=if h:e.ctorIdx=10 then Cell.exc.elim (motive:=fun _=>γ) e h f else d
theorem onCExc_ind {P:γ→Cell→Prop} {e:Cell} {f:Addr→(Option Nat)→(Option Nat)→γ} {d:γ} (H:∀ a b c,P (f a b c) (.exc a b c)) (h0:P d e):P (onCExc e f d) e :=
 dite_P (P:=fun x=>P x e) (fun h=>Cell.exc.elim (motive:=fun e=>∀ h,P (Cell.exc.elim (motive:=fun _=>γ) e h f) e) e h (fun a b c _=>H a b c) h) fun _=>h0
noncomputable def onCTb (e:Cell) (f:(Option Nat)→γ) (d:γ):γ:=if h:e.ctorIdx=11 then Cell.tb.elim (motive:=fun _=>γ) e h f else d
theorem onCTb_ind {P:γ→Cell→Prop} {e:Cell} {f:(Option Nat)→γ} {d:γ} (H:∀ a,P (f a) (.tb a)) (h0:P d e):P (onCTb e f d) e :=
 dite_P (P:=fun x=>P x e) (fun h=>Cell.tb.elim (motive:=fun e=>∀ h,P (Cell.tb.elim (motive:=fun _=>γ) e h f) e) e h (fun a _=>H a) h) fun _=>h0
noncomputable def onCRng (e:Cell) (f:Int→Int→Int→γ) (d:γ):γ:=if h:e.ctorIdx=12 then Cell.rng.elim (motive:=fun _=>γ) e h f else d
theorem onCRng_ind {P:γ→Cell→Prop} {e:Cell} {f:Int→Int→Int→γ} {d:γ} (H:∀ a b c,P (f a b c) (.rng a b c)) (h0:P d e):P (onCRng e f d) e :=
 dite_P (P:=fun x=>P x e) (fun h=>Cell.rng.elim (motive:=fun e=>∀ h,P (Cell.rng.elim (motive:=fun _=>γ) e h f) e) e h (fun a b c _=>H a b c) h) fun _=>h0
noncomputable def onCRit (e:Cell) (f:Int→Int→Int→γ) (d:γ):γ:=if h:e.ctorIdx=13 then Cell.rit.elim (motive:=fun _=>γ) e h f else d
theorem onCRit_ind {P:γ→Cell→Prop} {e:Cell} {f:Int→Int→Int→γ} {d:γ} (H:∀ a b c,P (f a b c) (.rit a b c)) (h0:P d e):P (onCRit e f d) e :=
 dite_P (P:=fun x=>P x e) (fun h=>Cell.rit.elim (motive:=fun e=>∀ h,P (Cell.rit.elim (motive:=fun _=>γ) e h f) e) e h (fun a b c _=>H a b c) h) fun _=>h0
noncomputable def onCWl (e:Cell) (f:Nat→Nat→γ) (d:γ):γ:=if h:e.ctorIdx=14 then Cell.wl.elim (motive:=fun _=>γ) e h f else d
theorem onCWl_ind {P:γ→Cell→Prop} {e:Cell} {f:Nat→Nat→γ} {d:γ} (H:∀ a b,P (f a b) (.wl a b)) (h0:P d e):P (onCWl e f d) e :=
 dite_P (P:=fun x=>P x e) (fun h=>Cell.wl.elim (motive:=fun e=>∀ h,P (Cell.wl.elim (motive:=fun _=>γ) e h f) e) e h (fun a b _=>H a b) h) fun _=>h0
noncomputable def onCEnum (e:Cell) (f:Nat→Nat→γ) (d:γ):γ:=if h:e.ctorIdx=15 then Cell.enum.elim (motive:=fun _=>γ) e h f else d
theorem onCEnum_ind {P:γ→Cell→Prop} {e:Cell} {f:Nat→Nat→γ} {d:γ} (H:∀ a b,P (f a b) (.enum a b)) (h0:P d e):P (onCEnum e f d) e :=
 dite_P (P:=fun x=>P x e) (fun h=>Cell.enum.elim (motive:=fun e=>∀ h,P (Cell.enum.elim (motive:=fun _=>γ) e h f) e) e h (fun a b _=>H a b) h) fun _=>h0
noncomputable def onCMap (e:Cell) (f:(Str→Int)→(List (Str × AV))→γ) (d:γ):γ:=if h:e.ctorIdx=17 then Cell.map.elim (motive:=fun _=>γ) e h f else d
theorem onCMap_ind {P:γ→Cell→Prop} {e:Cell} {f:(Str→Int)→(List (Str × AV))→γ} {d:γ} (H:∀ a b,P (f a b) (.map a b)) (h0:P d e):P (onCMap e f d) e :=
 dite_P (P:=fun x=>P x e) (fun h=>Cell.map.elim (motive:=fun e=>∀ h,P (Cell.map.elim (motive:=fun _=>γ) e h f) e) e h (fun a b _=>H a b) h) fun _=>h0
noncomputable def onCSit (e:Cell) (f:Str→Nat→γ) (d:γ):γ:=if h:e.ctorIdx=18 then Cell.sit.elim (motive:=fun _=>γ) e h f else d
theorem onCSit_ind {P:γ→Cell→Prop} {e:Cell} {f:Str→Nat→γ} {d:γ} (H:∀ a b,P (f a b) (.sit a b)) (h0:P d e):P (onCSit e f d) e :=
 dite_P (P:=fun x=>P x e) (fun h=>Cell.sit.elim (motive:=fun e=>∀ h,P (Cell.sit.elim (motive:=fun _=>γ) e h f) e) e h (fun a b _=>H a b) h) fun _=>h0
noncomputable def onCRev (e:Cell) (f:Nat→Int→γ) (d:γ):γ:=if h:e.ctorIdx=19 then Cell.rev.elim (motive:=fun _=>γ) e h f else d
theorem onCRev_ind {P:γ→Cell→Prop} {e:Cell} {f:Nat→Int→γ} {d:γ} (H:∀ a b,P (f a b) (.rev a b)) (h0:P d e):P (onCRev e f d) e :=
 dite_P (P:=fun x=>P x e) (fun h=>Cell.rev.elim (motive:=fun e=>∀ h,P (Cell.rev.elim (motive:=fun _=>γ) e h f) e) e h (fun a b _=>H a b) h) fun _=>h0
noncomputable def onCFit (e:Cell) (f:(List AV)→Nat→γ) (d:γ):γ:=if h:e.ctorIdx=20 then Cell.fit.elim (motive:=fun _=>γ) e h f else d
theorem onCFit_ind {P:γ→Cell→Prop} {e:Cell} {f:(List AV)→Nat→γ} {d:γ} (H:∀ a b,P (f a b) (.fit a b)) (h0:P d e):P (onCFit e f d) e :=
 dite_P (P:=fun x=>P x e) (fun h=>Cell.fit.elim (motive:=fun e=>∀ h,P (Cell.fit.elim (motive:=fun _=>γ) e h f) e) e h (fun a b _=>H a b) h) fun _=>h0
end
section
variable {α γ:Type}
noncomputable def onNil (l:List α) (f d:γ):γ:=match l with
 | []=>f
 | _ :: _=>d
theorem onNil_ind {P:γ→List α→Prop} {l:List α} {f d:γ} (H:P f []) (h0:P d l):P (onNil l f d) l:=by
 cases l
 ·exact H
 ·exact h0
noncomputable def onCons (l:List α) (f:α→List α→γ) (d:γ):γ:=match l with
 | []=>d
 | x :: r=>f x r
theorem onCons_ind {P:γ→List α→Prop} {l:List α} {f:α→List α→γ} {d:γ} (H:∀ x r,P (f x r) (x :: r)) (h0:P d l):P (onCons l f d) l:=by
 cases l
 ·exact h0
 ·exact H _ _
noncomputable def on1 (l:List α) (f:α→γ) (d:γ):γ:=onCons l (fun x r=>onNil r (f x) d) d
theorem on1_ind {P:γ→List α→Prop} {l:List α} {f:α→γ} {d:γ} (H:∀ x,P (f x) [x]) (h0:P d l):P (on1 l f d) l:=by
 rcases l with _ | ⟨x,_ | ⟨y,r⟩⟩
 ·exact h0
 ·exact H x
 ·exact h0
noncomputable def on2 (l:List α) (f:α→α→γ) (d:γ):γ:=onCons l (fun x r=>on1 r (f x) d) d
theorem on2_ind {P:γ→List α→Prop} {l:List α} {f:α→α→γ} {d:γ} (H:∀ x y,P (f x y) [x,y]) (h0:∀ l,P d l):P (on2 l f d) l:=onCons_ind (fun x r=>on1_ind (P:=fun z r=>P z (x :: r)) (H x) (h0 _)) (h0 _)
noncomputable def on3 (l:List α) (f:α→α→α→γ) (d:γ):γ:=onCons l (fun x r=>on2 r (f x) d) d
theorem on3_ind {P:γ→List α→Prop} {l:List α} {f:α→α→α→γ} {d:γ} (H:∀ x y z,P (f x y z) [x,y,z]) (h0:∀ l,P d l):P (on3 l f d) l:=onCons_ind (fun x r=>on2_ind (P:=fun z r=>P z (x :: r)) (H x) fun _=>h0 _) (h0 _)
noncomputable def onSome (o:Option α) (f:α→γ) (d:γ):γ:=match o with
 | some x=>f x
 | none=>d
theorem onSome_ind {P:γ→Option α→Prop} {o:Option α} {f:α→γ} {d:γ} (H:∀ x,P (f x) (some x)) (h0:P d o):P (onSome o f d) o:=by
 cases o
 ·exact h0
 ·exact H _
end
theorem cond_ind {γ:Type} {P:γ→Prop} {b:Bool} {f d:γ} (H:b=true→P f) (h0:P d):P (cond b f d):=by
 cases b
 ·exact h0
 ·exact H rfl
noncomputable def onComp {γ:Type} (l:List Comprehension) (f:Expr→Expr→γ) (d:γ):γ:=on1 l (fun c=>onNil c.ifs (cond (c.is_async == 0) (f c.target c.iter) d) d) d
theorem onComp_ind {γ:Type} {P:γ→List Comprehension→Prop} {l:List Comprehension} {f:Expr→Expr→γ} {d:γ} (H:∀ t i,P (f t i) [⟨t,i,[],0⟩]) (h0:∀ l,P d l):P (onComp l f d) l :=
 on1_ind (fun ⟨t,i,ifs,a⟩=>onNil_ind (P:=fun x ifs=>P x [⟨t,i,ifs,a⟩]) (cond_ind (P:=fun x=>P x [⟨t,i,[],a⟩]) (fun (ha:(a == 0)=true)=>by show P (f t i) [⟨t,i,[],a⟩]; rw [eq_of_beq ha]; exact H t i) (h0 _)) (h0 _)) (h0 _)
noncomputable def onHand {γ:Type} (e:ExceptHandler) (f:Option Expr→Option Str→List Stmt→γ):γ:=match e with
 | .ExceptHandler t n b _=>f t n b
theorem onHand_ind {γ:Type} {P:γ→ExceptHandler→Prop} {e:ExceptHandler} {f:Option Expr→Option Str→List Stmt→γ} (H:∀ t n b p,P (f t n b) (.ExceptHandler t n b p)):P (onHand e f) e:=by
 cases e
 exact H _ _ _ _
end Mine
open PySem PySem.W PyProof.Rows
namespace Mine
structure Ctx where
 prog:Program
 w:World
 K:Frag
 mb:Str→Option Value
 d:Drawn
 os:OsState
 /-- the frames on the stack,with the ids of their names -/
 fr:List (Env × Nat)
noncomputable def Ctx.wf (X:Ctx) (fr:List (Env × Nat)):Ctx:=⟨X.prog,X.w,X.K,X.mb,X.d,X.os,fr⟩
inductive FNs (F:Fz) (a:Addr) (f:Str→Option Value):Prop where
 | mk (o:Obj) (es:Array DictEntry) (ep:Nat) (h:F a=some o) (hd:o.data = .dict es ep) (hs:StrKeys es) (hf:∀ name,nsFind es name=f name)
theorem FNs.to {F F':Fz} {a:Addr} {f:Str→Option Value} (x:FNs F a f) (h:∀ o,F a=some o→F' a=some o):FNs F' a f:=by cases x with | mk o es ep e1 e2 e3 e4=>exact ⟨o,es,ep,h o e1,e2,e3,e4⟩
theorem FNs.at {F:Fz} {a:Addr} {f:Str→Option Value} {hp:Heap} (x:FNs F a f) (h:∀ o,F a=some o→hp.get? a=some o):hp.Ns a f:=by cases x with | mk o es ep e1 e2 e3 e4=>exact ⟨o,es,ep,h o e1,e2,e3,e4⟩
structure Base (X:Ctx) (F:Fz):Prop where
 K:∀ a o,X.K.lookup a=some o→F a=some o
 mb:FNs F builtinsNs X.mb
 lim:∃ mc,FNs F cStatics mc∧mc "sys.recursionlimit" = none
 bf:∃ K₂:Frag,(∀ a o,K₂.lookup a=some o→F a=some o)∧peek K₂ ⟨X.prog,X.w.params⟩ (builtinsFor mainGlobals builtinsNs)=some builtinsNs
theorem Base.mono {X:Ctx} {F F':Fz} (b:Base X F) (hF:∀ a o,F a=some o→F' a=some o):Base X F' :=
 ⟨fun a o e=>hF _ _ (b.K a o e),b.mb.to (hF _),b.lim.imp fun mc h=>⟨h.1.to (hF _),h.2⟩,b.bf.imp fun K h=>⟨fun a o e=>hF _ _ (h.1 a o e),h.2⟩⟩
noncomputable def NsDen (n:Nat) (ρ:Rho) (F:Fz) (m:List (Str × AV)) (f:Str→Option Value):Prop:=∀ x av,m.lookup x=some av→∃ v,f x=some v∧Den n ρ F av v
noncomputable def NoKey (xs:List Value) (o:Option (List (Int × Int))):Prop:=∀ l,o=some l→∀ pos:Pos,((pos.line:Int),(pos.col:Int)) ∉ l→codeAmong pos xs=none
inductive CodeH (c P:Addr) (o:Obj):Prop where
 | mk (h:Heap) (ps ps':Array Value) (e:h.get? c=some o) (x:h.IsCode c P ps) (y:h.TableAt c P ps')
noncomputable def tbVal (ρ:Rho):Option Nat→Value
 | none=>.none
 | some i=>.ref (ρ i)
noncomputable def flVal (ρ:Rho):Option Nat→Value
 | none=>.none
 | some i=>rawInt (ρ i)
inductive TabO (F:Fz) (a c:Addr) (ps:Array Value) (ks:Option (List (Int × Int))) (o:Obj):Prop where
 | mk (more:Array Value) (oc:Obj) (e:o=oTab (ps ++ more)) (hc:F c=some oc) (hh:CodeH c a oc) (ht:TriplesOk (ps ++ more).toList) (hk:NoKey (ps ++ more).toList ks)
inductive ExcO (n:Nat) (ρ:Rho) (C:Addr) (d t:Option Nat) (o:Obj):Prop where
 | mk (vs:Array Value) (e:o=oExc C (d.map ρ) vs) (h1:vs[1]? = some (tbVal ρ t)) (hd:∀ i,d=some i→i < n) (ht:∀ i,t=some i→i < n)
inductive NsO (n:Nat) (ρ:Rho) (F:Fz) (m:List (Str × AV)) (o:Obj):Prop where
 | mk (f:Str→Option Value) (es:Array DictEntry) (ep:Nat) (hd:o.data = .dict es ep) (hs:StrKeys es) (hf:∀ name,nsFind es name=f name) (d:NsDen n ρ F m f)
noncomputable def PairsS:List DictEntry→List (Str × Value)→Prop
 | [],[]=>True
 | e :: es,q :: kvs=>(Value.isStrOf q.1 e.key=true∧e.val=q.2)∧PairsS es kvs
 | _,_=>False
inductive MapO (n:Nat) (ρ:Rho) (F:Fz) (hs:Str→Int) (m:List (Str × AV)) (o:Obj):Prop where
 | mk (kvs:List (Str × Value)) (es:Array DictEntry) (ep:Nat) (hx:o.ExactDict) (hd:o.data = .dict es ep) (hk:∀ e ∈ es,∃ k,Value.isStrOf k e.key=true∧e.hash=hs k) (hp:PairsS es.toList kvs) (hn:(kvs.map (·.1)).Nodup) (hm:kvs.map (·.1)=m.map (·.1)) (d:Dens n ρ F (m.map (·.2)) (kvs.map (·.2)))
noncomputable abbrev sitTy (x:Str):String:=strIterType x
noncomputable def CellO (n:Nat) (ρ:Rho) (F:Fz) (a:Addr):Cell→Obj→Prop
 | .list xs,o=>∃ vs k,o=oList vs k∧Dens n ρ F xs vs
 | .ns m,o=>NsO n ρ F m o
 | .dict m,o=>∃ es k,o=oDict es k∧DenEs n ρ F m es
 | .sinst C d xs,o=>∃ vs,o=oSlo C (ρ d) vs∧d < n∧ODens n ρ F xs vs
 | .box v,o=>∃ w,o.data = .cell w∧ODen n ρ F v w
 | .inst C d,o=>o=oInst C (ρ d)∧d < n
 | .liter l k,o=>o=oIter (.ref (ρ l)) k∧l < n
 | .lend,o=>∃ k,o=oIter .none k
 | .tab c ps ks,o=>TabO F a c ps ks o
 | .raw r,o=>o=r
 | .exc C d t,o=>ExcO n ρ C d t o
 | .tb fl,o=>∃ ts,o.data = .fields ts∧ts[3]? = some (flVal ρ fl)∧∀ i,fl=some i→i < n
 | .rng x y z,o=>∃ t u v,o = { cls:=.type "range",dict:=none,data:=.fields #[.int x t,.int y u,.int z v],slots:=#[] }
 | .rit x left step,o=>o = { cls:=.type "range_iterator",dict:=none,data:=.fields #[rawInt x,rawInt left,rawInt step],slots:=#[] }
 | .wl l k,o=>(o.cls = .type "list_iterator"∧o.data = .fields #[.ref (ρ l),.int k 0])∧l < n
 | .enum it k,o=>∃ old,o = { cls:=.type "enumerate",dict:=none,data:=.fields #[.none,.bool false,.ref (ρ it),rawInt k,.none,old],slots:=#[] }∧it < n
 | .any,_=>True
 | .map hs m,o=>MapO n ρ F hs m o
 | .sit x k,o=>(o.cls = .type (sitTy x)∧∃ t,o.data = .fields #[.str x t,.int k 0])
 | .fit xs k,o=>∃ b,(o.cls = .type "list_iterator"∧o.data = .fields #[.ref b,.int k 0])∧dLst F (Dens n ρ F xs) (.ref b)
 | .rev l k,o=>(o.cls = .type "list_reverseiterator"∧o.data = .fields #[.ref (ρ l),.int k 0])∧l < n
noncomputable def CellAt (n:Nat) (ρ:Rho) (F:Fz) (h:Heap) (a:Addr) (c:Cell):Prop:=∃ o,h.get? a=some o∧CellO n ρ F a c o
section
variable {n n' N:Nat} {ρ ρ':Rho} {F F':Fz}
theorem tbVal_same {t:Option Nat} (h:∀ i,t=some i→ρ' i=ρ i):tbVal ρ' t=tbVal ρ t:=by
 cases t with
 | none=>rfl
 | some i=>exact congrArg Value.ref (h i rfl)
theorem flVal_same {t:Option Nat} (h:∀ i,t=some i→ρ' i=ρ i):flVal ρ' t=flVal ρ t:=by
 cases t with
 | none=>rfl
 | some i=>exact congrArg (fun x:Nat=>rawInt x) (h i rfl)
theorem dMap_same {t:Option Nat} (h:∀ i,t=some i→ρ' i=ρ i):t.map ρ' = t.map ρ:=by
 cases t with
 | none=>rfl
 | some i=>exact congrArg some (h i rfl)
theorem TabO.mono {a c:Addr} {ps:Array Value} {ks:Option (List (Int × Int))} {o:Obj} (x:TabO F a c ps ks o) (hF:∀ a o,F a=some o→F' a=some o):TabO F' a c ps ks o:=by cases x with | mk more oc e hc hh ht hk=>exact ⟨more,oc,e,hF _ _ hc,hh,ht,hk⟩
theorem ExcO.to {C:Addr} {d t:Option Nat} {o:Obj} (x:ExcO n ρ C d t o) (hd:∀ i,d=some i→i < n→i < n'∧ρ' i=ρ i) (ht:∀ i,t=some i→i < n→i < n'∧ρ' i=ρ i):ExcO n' ρ' C d t o:=by
 cases x with | mk vs e h1 h2 h3=>exact ⟨vs,by rw [dMap_same fun i h=>(hd i h (h2 i h)).2]; exact e,by rw [tbVal_same fun i h=>(ht i h (h3 i h)).2]; exact h1,fun i h=>(hd i h (h2 i h)).1,fun i h=>(ht i h (h3 i h)).1⟩
theorem NsO.to {m:List (Str × AV)} {o:Obj} (x:NsO n ρ F m o) (h:∀ y av v,m.lookup y=some av→Den n ρ F av v→Den n' ρ' F' av v):NsO n' ρ' F' m o:=by
 cases x with | mk f es ep hd hs hf d=>exact ⟨f,es,ep,hd,hs,hf,fun y av e=>(d y av e).imp fun v hv=>⟨hv.1,h y av v e hv.2⟩⟩
theorem MapO.to {hs:Str→Int} {m:List (Str × AV)} {o:Obj} (x:MapO n ρ F hs m o) (h:∀ vs,Dens n ρ F (m.map (·.2)) vs→Dens n' ρ' F' (m.map (·.2)) vs):MapO n' ρ' F' hs m o:=by
 cases x with | mk kvs es ep hx hd hk hp hn hm d=>exact ⟨kvs,es,ep,hx,hd,hk,hp,hn,hm,h _ d⟩
theorem mem_of_assoc {κ β:Type} [BEq κ] [LawfulBEq κ]:∀ {l:List (κ × β)} {x:κ} {b:β},l.lookup x=some b→(x,b) ∈ l
 | [],_,_,h=>noneOf h
 | p :: l,x,b,h=>by
  rw [List.lookup_cons] at h
  cases e:x == p.1 with
  | true=>rw [e] at h; rw [← Option.some.inj h,eq_of_beq e]; exact .head _
  | false=>rw [e] at h; exact .tail _ (mem_of_assoc h)
noncomputable def UndC (N:Nat):Cell→Prop
 | .list xs=>∀ x ∈ xs,Und N x
 | .ns m=>∀ p ∈ m,Und N p.2
 | .dict m=>∀ p ∈ m,Und N p.2
 | .box none=>True
 | .box (some v)=>Und N v
 | .inst _ d=>d < N
 | .sinst _ d xs=>d < N∧∀ x,some x ∈ xs→Und N x
 | .liter l _=>l < N
 | .exc _ d t=>(∀ i,d=some i→i < N)∧∀ i,t=some i→i < N
 | .tb fl=>∀ i,fl=some i→i < N
 | .wl l _=>l < N
 | .enum it _=>it < N
 | .map _ m=>∀ p ∈ m,Und N p.2
 | .rev l _=>l < N
 | .fit xs _=>∀ x ∈ xs,Und N x
 | _=>True
theorem CellO.mono {a:Addr} {c:Cell} {o:Obj} (hn:n≤n') (hρ:∀ i,i < n→ρ' i=ρ i) (hF:∀ a o,F a=some o→F' a=some o) (x:CellO n ρ F a c o):CellO n' ρ' F' a c o:=by
 have lt:∀ {i},i < n→i < n'∧ρ' i=ρ i:=fun h=>⟨Nat.lt_of_lt_of_le h hn,hρ _ h⟩
 have dm:∀ av v,Den n ρ F av v→Den n' ρ' F' av v:=fun _ _=>Den.mono hn hρ hF
 cases c with
 | list xs=>exact x.imp fun vs=>Exists.imp fun k=>And.imp id (Dens.imp dm)
 | ns m=>exact NsO.to x fun _ _ _ _=>dm _ _
 | dict m=>exact x.imp fun vs=>Exists.imp fun k=>And.imp id (DenEs.imp dm)
 | sinst C d xs=>exact x.imp fun vs h=>⟨by rw [(lt h.2.1).2]; exact h.1,(lt h.2.1).1,ODens.imp dm h.2.2⟩
 | box v=>exact x.imp fun w=>And.imp id (ODen.imp dm)
 | inst C d=>exact ⟨by rw [(lt x.2).2]; exact x.1,(lt x.2).1⟩
 | liter l k=>exact ⟨by rw [(lt x.2).2]; exact x.1,(lt x.2).1⟩
 | tab c ps ks=>exact TabO.mono x hF
 | exc C d t=>exact ExcO.to x (fun _ _=>lt) fun _ _=>lt
 | tb fl=>exact x.imp fun ts h=>⟨h.1,by rw [flVal_same fun i e=>(lt (h.2.2 i e)).2]; exact h.2.1,fun i e=>(lt (h.2.2 i e)).1⟩
 | wl l k=>exact ⟨by rw [(lt x.2).2]; exact x.1,(lt x.2).1⟩
 | enum it k=>exact x.imp fun old h=>⟨by rw [(lt h.2).2]; exact h.1,(lt h.2).1⟩
 | map hs m=>exact MapO.to x fun vs=>Dens.imp dm
 | rev l k=>exact ⟨by rw [(lt x.2).2]; exact x.1,(lt x.2).1⟩
 | fit xs k=>exact x.imp fun b=>And.imp id (dLst.to hF (fun _=>Dens.imp dm) _)
 | _=>exact x
theorem CellO.under {a:Addr} {c:Cell} {o:Obj} (hρ:∀ i,i < N→ρ' i=ρ i) (u:UndC N c) (x:CellO n ρ F a c o):CellO N ρ' F a c o:=by
 cases c with
 | list xs=>exact x.imp fun vs=>Exists.imp fun k=>And.imp id (Dens.under hρ u)
 | ns m=>exact NsO.to x fun y av v e=>Den.under hρ (u _ (mem_of_assoc e))
 | dict m=>exact x.imp fun vs=>Exists.imp fun k=>And.imp id (DenEs.under hρ u)
 | sinst C d xs=>exact x.imp fun vs h=>⟨by rw [hρ d u.1]; exact h.1,u.1,ODens.under hρ u.2 h.2.2⟩
 | box v=>cases v with
  | none=>exact x
  | some av=>exact x.imp fun w=>And.imp id (Exists.imp fun v=>And.imp id (Den.under hρ u))
 | inst C d=>exact ⟨by rw [hρ d u]; exact x.1,u⟩
 | liter l k=>exact ⟨by rw [hρ l u]; exact x.1,u⟩
 | exc C d t=>exact ExcO.to x (fun i e _=>⟨u.1 i e,hρ i (u.1 i e)⟩) fun i e _=>⟨u.2 i e,hρ i (u.2 i e)⟩
 | tb fl=>exact x.imp fun ts h=>⟨h.1,by rw [flVal_same fun i e=>hρ i (u i e)]; exact h.2.1,u⟩
 | wl l k=>exact ⟨by rw [hρ l u]; exact x.1,u⟩
 | enum it k=>exact x.imp fun old h=>⟨by rw [hρ it u]; exact h.1,u⟩
 | map hs m=>exact MapO.to x fun vs=>Dens.under hρ fun y hy=>(List.mem_map.mp hy).elim fun p q=>q.2 ▸ u p q.1
 | rev l k=>exact ⟨by rw [hρ l u]; exact x.1,u⟩
 | fit xs k=>exact x.imp fun b=>And.imp id (dLst.to (fun _ _ h=>h) (fun _=>Dens.under hρ u) _)
 | _=>exact x
end
noncomputable def isNs (c:Cell):Bool:=onCNs c (fun _=>true) false
noncomputable def St.get (σ:St) (i:Nat):Option Cell:=σ.objs.lookup i
noncomputable def putC:List (Nat × Cell)→Nat→Cell→List (Nat × Cell)
 | [],_,_=>[]
 | p :: r,i,c=>match Nat.beq p.1 i with
  | true=>(i,c) :: r
  | false=>p :: putC r i c
noncomputable def St.set (σ:St) (i:Nat) (c:Cell):St:=⟨σ.n,putC σ.objs i c⟩
noncomputable def St.push (σ:St) (c:Cell):St:=⟨σ.n + 1,(σ.n,c) :: σ.objs⟩
noncomputable def St.cut (σ:St) (N:Nat):St:=⟨N,σ.objs.filter fun p=>Nat.blt p.1 N⟩
noncomputable def St.sel (σ:St) (N:Nat) (l:List Nat):St:=⟨σ.n,σ.objs.filter fun p=>Nat.blt p.1 N || l.any (Nat.beq p.1)⟩
theorem beq_dec (a b:Nat):Nat.beq a b=(a == b):=Bool.eq_iff_iff.mpr ((Iff.of_eq (Nat.beq_eq)).trans beq_iff_eq.symm)
theorem putC_look (i j:Nat) (c:Cell):∀ l:List (Nat × Cell),(putC l i c).lookup j=if j == i then (l.lookup i).map fun _=>c else l.lookup j
 | []=>by cases j == i <;> rfl
 | p :: l=>by
  unfold putC
  rw [beq_dec,List.lookup_cons,List.lookup_cons]
  cases e:p.1 == i with
  | true =>
   have e1:=eq_of_beq e
   subst e1
   rw [beq_self_eq_true]
   show List.lookup j ((p.1,c) :: l)=_
   rw [List.lookup_cons]
   cases j == p.1 <;> rfl
  | false =>
   have e2:(i == p.1)=false:=by rw [Bool.beq_comm]; exact e
   show List.lookup j (p :: putC l i c)=_
   rw [List.lookup_cons,putC_look i j c l,e2]
   cases h:j == i with
   | true=>rw [eq_of_beq h,e2]
   | false=>cases j == p.1 <;> rfl
theorem filter_look (f:Nat→Bool) (j:Nat):∀ l:List (Nat × Cell),(l.filter fun p=>f p.1).lookup j=if f j then l.lookup j else none
 | []=>by cases f j <;> rfl
 | p :: l=>by
  rw [List.filter_cons,List.lookup_cons]
  cases e:f p.1 with
  | true =>
   rw [if_pos rfl,List.lookup_cons,filter_look f j l]
   cases h:j == p.1 with
   | true=>rw [eq_of_beq h,e]; rfl
   | false=>rfl
  | false =>
   rw [if_neg Bool.false_ne_true,filter_look f j l]
   cases h:j == p.1 with
   | true=>rw [eq_of_beq h,e]; rfl
   | false=>rfl
theorem St.get_set_self {σ:St} {i:Nat} {c₀:Cell} (c:Cell) (h:σ.get i=some c₀):(σ.set i c).get i=some c:=by
 show (putC σ.objs i c).lookup i=_
 rw [putC_look,beq_self_eq_true,if_pos rfl,show σ.objs.lookup i=some c₀ from h]; rfl
theorem St.get_set_ne (σ:St) {i j:Nat} (c:Cell) (h:j ≠ i):(σ.set i c).get j=σ.get j:=by
 show (putC σ.objs i c).lookup j=_
 rw [putC_look,if_neg (fun e=>h (eq_of_beq e))]; rfl
theorem St.get_set {σ:St} {i j:Nat} {c d:Cell} (h:(σ.set i c).get j=some d):(j=i∧d=c) ∨ (j ≠ i∧σ.get j=some d):=by
 by_cases e:j=i
 ·refine .inl ⟨e,?_⟩
  have h':(putC σ.objs i c).lookup j=some d:=h
  rw [putC_look,e,beq_self_eq_true,if_pos rfl] at h'
  exact (Option.map_eq_some_iff.mp h').elim fun _ h=>h.2.symm
 ·exact .inr ⟨e,St.get_set_ne σ c e ▸ h⟩
theorem St.get_push_self (σ:St) (c:Cell):(σ.push c).get σ.n=some c:=by
 show List.lookup σ.n ((σ.n,c) :: σ.objs)=_
 rw [List.lookup_cons,beq_self_eq_true]
theorem St.get_push_lt (σ:St) {i:Nat} (c:Cell) (h:i < σ.n):(σ.push c).get i=σ.get i:=by
 show List.lookup i ((σ.n,c) :: σ.objs)=_
 rw [List.lookup_cons,beq_eq_false_iff_ne.mpr (Nat.ne_of_lt h)]; rfl
theorem St.get_push {σ:St} {i:Nat} {c d:Cell} (h:(σ.push c).get i=some d):(i=σ.n∧d=c) ∨ (i ≠ σ.n∧σ.get i=some d):=by
 have h':List.lookup i ((σ.n,c) :: σ.objs)=some d:=h
 rw [List.lookup_cons] at h'
 cases e:i == σ.n with
 | true=>rw [e] at h'; exact .inl ⟨eq_of_beq e,(Option.some.inj h').symm⟩
 | false=>rw [e] at h'; exact .inr ⟨ne_of_beq_false e,h'⟩
structure Inv (X:Ctx) (ρ:Rho) (F:Fz) (σ:St) (s:Shared):Prop where
 ids:∀ i c,σ.get i=some c→i < σ.n
 inj:∀ i j c d,σ.get i=some c→σ.get j=some d→ρ i=ρ j→i=j
 cell:∀ i c,σ.get i=some c→CellAt σ.n ρ F s.heap (ρ i) c
 off:∀ i c,σ.get i=some c→F (ρ i)=none
 froz:∀ a o,F a=some o→s.heap.get? a=some o
 base:Base X F
 drawn:s.drawn=X.d
 os:s.os=X.os
 gens:AllBare s.gens
 frs:∀ e ∈ X.fr,(e.1.scope.kind = .function∧e.1.frame=some (ρ e.2))∧∃ c,σ.get e.2=some c∧isNs c=true
structure Stp (ρ:Rho) (F:Fz) (σ:St) (s:Shared) (ρ':Rho) (F':Fz) (σ':St) (s':Shared):Prop where
 le:σ.n≤σ'.n
 same:∀ i,i < σ.n→ρ' i=ρ i
 sub:∀ a o,F a=some o→F' a=some o
 keep:∀ x o,s.heap.get? x=some o→(∀ i c,σ.get i=some c→ρ i ≠ x)→s'.heap.get? x=some o
 live:∀ x o,s.heap.get? x=some o→∃ o',s'.heap.get? x=some o'
 new:∀ i c,σ'.get i=some c→(i < σ.n∧∃ d,σ.get i=some d) ∨ s.heap.get? (ρ' i)=none
 gens:∀ (i:Nat) x,s.gens[i]? = some x→s'.gens[i]? = some x
theorem Stp.refl (ρ:Rho) (F:Fz) {σ:St} {s:Shared} (hi:∀ i c,σ.get i=some c→i < σ.n):Stp ρ F σ s ρ F σ s :=
 ⟨Nat.le_refl _,fun _ _=>rfl,fun _ _ e=>e,fun _ _ e _=>e,fun _ o e=>⟨o,e⟩,fun i c h=>.inl ⟨hi i c h,c,h⟩,fun _ _ e=>e⟩
theorem Heap.gone {h h':Heap} {a:Addr} (k:∀ o,h.get? a=some o→∃ o',h'.get? a=some o') (e:h'.get? a=none):h.get? a=none:=by
 cases q:h.get? a with
 | none=>rfl
 | some o=>exact (k o q).elim fun _ q=>noneOf (e.symm.trans q)
theorem Stp.trans {ρ ρ₁ ρ₂:Rho} {F F₁ F₂:Fz} {σ σ₁ σ₂:St} {s s₁ s₂:Shared} (a:Stp ρ F σ s ρ₁ F₁ σ₁ s₁) (b:Stp ρ₁ F₁ σ₁ s₁ ρ₂ F₂ σ₂ s₂):Stp ρ F σ s ρ₂ F₂ σ₂ s₂ where
 le:=Nat.le_trans a.le b.le
 same i h:=(b.same i (Nat.lt_of_lt_of_le h a.le)).trans (a.same i h)
 sub x o e:=b.sub _ _ (a.sub _ _ e)
 keep x o e hx:=b.keep x o (a.keep x o e hx) fun i c hi hpx=>(a.new i c hi).elim (fun ⟨hlt,d,hd⟩=>hx i d hd (by rw [← a.same _ hlt]; exact hpx)) fun hn=>noneOf (hn.symm.trans (hpx ▸ e))
 live x o e:=(a.live x o e).elim fun o' e'=>b.live x o' e'
 new i c hi:=(b.new i c hi).elim (fun ⟨hlt,d,hd⟩=>(a.new i d hd).imp id fun hn=>by rw [b.same _ hlt]; exact hn) fun hn=>.inr (Heap.gone (a.live _) hn)
 gens i x e:=b.gens i x (a.gens i x e)
section
variable {ρ ρ':Rho} {F F':Fz} {σ σ':St} {s s':Shared}
theorem Den.step {av:AV} {v:Value} (x:Den σ.n ρ F av v) (st:Stp ρ F σ s ρ' F' σ' s'):Den σ'.n ρ' F' av v:=x.mono st.le st.same st.sub
theorem Dens.step {av:List AV} {v:List Value} (x:Dens σ.n ρ F av v) (st:Stp ρ F σ s ρ' F' σ' s'):Dens σ'.n ρ' F' av v:=x.mono st.le st.same st.sub
end
section
variable {X:Ctx} {ρ ρ':Rho} {F:Fz} {σ:St} {s:Shared} {i j:Nat} {c d:Cell}
theorem CellAt.to {n n':Nat} {F':Fz} {h h':Heap} {a:Addr} (x:CellAt n ρ F h a c) (hh:∀ o,h.get? a=some o→h'.get? a=some o) (hc:∀ o,CellO n ρ F a c o→CellO n' ρ' F' a c o):CellAt n' ρ' F' h' a c:=x.imp fun o h=>⟨hh o h.1,hc o h.2⟩
theorem CellAt.mono {n n':Nat} {F':Fz} {h h':Heap} {a:Addr} (x:CellAt n ρ F h a c) (hh:∀ o,h.get? a=some o→h'.get? a=some o) (hn:n≤n') (hρ:∀ i,i < n→ρ' i=ρ i) (hF:∀ a o,F a=some o→F' a=some o):CellAt n' ρ' F' h' a c:=x.to hh fun _=>CellO.mono hn hρ hF
theorem CellAt.keep {n:Nat} {h h':Heap} {a:Addr} (x:CellAt n ρ F h a c) (hh:∀ o,h.get? a=some o→h'.get? a=some o):CellAt n ρ F h' a c:=x.to hh fun _ h=>h
theorem CellAt.live {n:Nat} {h:Heap} {a:Addr} (x:CellAt n ρ F h a c):∃ o,h.get? a=some o:=x.imp fun _ h=>h.1
theorem CellAt.ex {n:Nat} {h:Heap} {a:Addr} {P:Prop} (x:CellAt n ρ F h a c) (H:∀ o,h.get? a=some o→CellO n ρ F a c o→P):P:=x.elim fun o q=>H o q.1 q.2
theorem Inv.at (I:Inv X ρ F σ s) (h:σ.get i=some c):CellAt σ.n ρ F s.heap (ρ i) c:=I.cell i c h
theorem Inv.lt (I:Inv X ρ F σ s) (h:σ.get i=some c):i < σ.n:=I.ids i c h
theorem Inv.ne (I:Inv X ρ F σ s) (hi:σ.get i=some c) (hj:σ.get j=some d) (h:i ≠ j):ρ i ≠ ρ j:=fun e=>h (I.inj i j c d hi hj e)
theorem Inv.looksB (I:Inv X ρ F σ s):Looks (model X.prog X.w) s.heap (builtinsFor mainGlobals builtinsNs) builtinsNs :=
 I.base.bf.elim fun _ h=>Looks.of_peek (M:=model X.prog X.w) (fun a o e=>I.froz _ _ (h.1 a o e)) h.2
theorem Inv.Kin (I:Inv X ρ F σ s):X.K.In s.heap:=fun a o e=>I.froz _ _ (I.base.K a o e)
theorem Inv.ns (I:Inv X ρ F σ s) {a:Addr} {f:Str→Option Value} (x:FNs F a f):s.heap.Ns a f:=x.at (I.froz _)
theorem Inv.limit (I:Inv X ρ F σ s):s.heap.NoLimit:=I.base.lim.imp fun _ h=>⟨I.ns h.1,h.2⟩
theorem Inv.notF (I:Inv X ρ F σ s) {a:Addr} {o:Obj} (h:F a=some o) (hi:σ.get i=some c):ρ i ≠ a:=fun e=>noneOf ((I.off i c hi).symm.trans (e ▸ h))
theorem Inv.not0 (I:Inv X ρ F σ s) {a:Addr} (h:s.heap.get? a=none) (hi:σ.get i=some c):ρ i ≠ a:=fun e=>(I.at hi).live.elim fun _ q=>noneOf (h.symm.trans (e ▸ q))
theorem Inv.notF0 (I:Inv X ρ F σ s) {a:Addr} (h:s.heap.get? a=none):F a=none:=by
 cases e:F a with
 | none=>rfl
 | some o=>exact noneOf (h.symm.trans (I.froz a o e))
theorem Inv.frlt (I:Inv X ρ F σ s):∀ e ∈ X.fr,e.2 < σ.n:=fun e he=>(I.frs e he).2.elim fun c h=>I.ids _ _ h.1
theorem Inv.atL (I:Inv X ρ F σ s) {xs:List AV} (h:σ.get i=some (.list xs)):∃ vs k,s.heap.get? (ρ i)=some (oList vs k)∧Dens σ.n ρ F xs vs:=(I.at h).elim fun o h=>Exists.imp (fun vs=>Exists.imp fun k (q:o=oList vs k∧Dens σ.n ρ F xs vs)=>⟨q.1 ▸ h.1,q.2⟩) h.2
theorem Inv.atNs (I:Inv X ρ F σ s) {m:List (Str × AV)} (h:σ.get i=some (.ns m)):∃ f,s.heap.Ns (ρ i) f∧NsDen σ.n ρ F m f:=(I.at h).elim fun o h=>by
 cases h.2 with | mk f es ep e1 e2 e3 d=>exact ⟨f,⟨o,es,ep,h.1,e1,e2,e3⟩,d⟩
theorem Inv.atD (I:Inv X ρ F σ s) {m:List (Str × AV)} (h:σ.get i=some (.dict m)):∃ es k,s.heap.get? (ρ i)=some (oDict es k)∧DenEs σ.n ρ F m es:=(I.at h).elim fun o h=>Exists.imp (fun es=>Exists.imp fun k (q:o=oDict es k∧DenEs σ.n ρ F m es)=>⟨q.1 ▸ h.1,q.2⟩) h.2
theorem Inv.atB (I:Inv X ρ F σ s) {v:Option AV} (h:σ.get i=some (.box v)):∃ w,s.heap.IsCell (ρ i) w∧ODen σ.n ρ F v w:=(I.at h).elim fun o h=>Exists.imp (fun w (q:o.data = .cell w∧ODen σ.n ρ F v w)=>⟨⟨o,h.1,q.1⟩,q.2⟩) h.2
theorem Inv.atI (I:Inv X ρ F σ s) {C:Addr} {e:Nat} (h:σ.get i=some (.inst C e)):s.heap.get? (ρ i)=some (oInst C (ρ e))∧e < σ.n:=(I.at h).elim fun o h=>(fun (q:o=oInst C (ρ e)∧e < σ.n)=>⟨q.1 ▸ h.1,q.2⟩) h.2
theorem Inv.atS (I:Inv X ρ F σ s) {C:Addr} {e:Nat} {xs:List (Option AV)} (h:σ.get i=some (.sinst C e xs)):∃ vs,s.heap.get? (ρ i)=some (oSlo C (ρ e) vs)∧e < σ.n∧ODens σ.n ρ F xs vs:=(I.at h).elim fun o h=>Exists.imp (fun vs (q:o=oSlo C (ρ e) vs∧e < σ.n∧ODens σ.n ρ F xs vs)=>⟨q.1 ▸ h.1,q.2⟩) h.2
theorem Inv.atIt (I:Inv X ρ F σ s) {l k:Nat} (h:σ.get i=some (.liter l k)):s.heap.get? (ρ i)=some (oIter (.ref (ρ l)) k)∧l < σ.n:=(I.at h).elim fun o h=>(fun (q:o=oIter (.ref (ρ l)) k∧l < σ.n)=>⟨q.1 ▸ h.1,q.2⟩) h.2
theorem Inv.atEnd (I:Inv X ρ F σ s) (h:σ.get i=some (.lend)):∃ k,s.heap.get? (ρ i)=some (oIter .none k):=(I.at h).elim fun o h=>Exists.imp (fun k (q:o=oIter .none k)=>q ▸ h.1) h.2
theorem Inv.atRaw (I:Inv X ρ F σ s) {r:Obj} (h:σ.get i=some (.raw r)):s.heap.get? (ρ i)=some r:=(I.at h).elim fun o h=>(fun (q:o=r)=>q ▸ h.1) h.2
theorem Inv.atX (I:Inv X ρ F σ s) {C:Addr} {e t:Option Nat} (h:σ.get i=some (.exc C e t)):∃ vs,s.heap.get? (ρ i)=some (oExc C (e.map ρ) vs)∧vs[1]? = some (tbVal ρ t)∧(∀ i,e=some i→i < σ.n)∧∀ i,t=some i→i < σ.n:=(I.at h).elim fun o h=>by
 cases h.2 with | mk vs e h1 h2 h3=>exact ⟨vs,e ▸ h.1,h1,h2,h3⟩
theorem Inv.atTb (I:Inv X ρ F σ s) {fl:Option Nat} (h:σ.get i=some (.tb fl)):∃ o ts,s.heap.get? (ρ i)=some o∧o.data = .fields ts∧ts[3]? = some (flVal ρ fl)∧∀ i,fl=some i→i < σ.n:=(I.at h).imp fun o h=>Exists.imp (fun ts q=>⟨h.1,q⟩) h.2
theorem Inv.atRng (I:Inv X ρ F σ s) {x y z:Int} (h:σ.get i=some (.rng x y z)):∃ t u v,IsRange s.heap (ρ i) x y z t u v:=(I.at h).elim fun o h=>Exists.imp (fun t=>Exists.imp fun u=>Exists.imp fun v (q:o = { cls:=.type "range",dict:=none,data:=.fields #[.int x t,.int y u,.int z v],slots:=#[] })=>h.1.trans (congrArg some q)) h.2
theorem Inv.atRit (I:Inv X ρ F σ s) {x y z:Int} (h:σ.get i=some (.rit x y z)):IsRangeIter s.heap (ρ i) x y z:=(I.at h).elim fun o h=>(fun (q:o = { cls:=.type "range_iterator",dict:=none,data:=.fields #[rawInt x,rawInt y,rawInt z],slots:=#[] })=>h.1.trans (congrArg some q)) h.2
theorem Inv.atWl (I:Inv X ρ F σ s) {l k:Nat} (h:σ.get i=some (.wl l k)):s.heap.IsListIter (ρ i) (ρ l) k∧l < σ.n:=(I.at h).elim fun o h=>⟨⟨o,h.1,h.2.1⟩,h.2.2⟩
inductive FitAt (n:Nat) (ρ:Rho) (F:Fz) (h:Heap) (a:Addr) (xs:List AV) (k:Nat):Prop where
 | mk (b:Addr) (vs:List Value) (kk:Nat) (it:h.IsListIter a b k) (hl:h.get? b=some (oList vs kk)) (ds:Dens n ρ F xs vs) (hF:F b=some (oList vs kk))
theorem Inv.atFit (I:Inv X ρ F σ s) {xs:List AV} {k:Nat} (h:σ.get i=some (.fit xs k)):FitAt σ.n ρ F s.heap (ρ i) xs k:=(I.at h).elim fun o h=>h.2.elim fun b (q:(o.cls = .type "list_iterator"∧o.data = .fields #[.ref b,.int k 0])∧dLst F (Dens σ.n ρ F xs) (.ref b))=>by
 cases q.2 with | mk a vs kk e h2 r=>exact ⟨b,vs,kk,⟨o,h.1,q.1⟩,I.froz _ _ (Value.ref.inj e ▸ h2),r,Value.ref.inj e ▸ h2⟩
theorem Inv.atEn (I:Inv X ρ F σ s) {it k:Nat} (h:σ.get i=some (.enum it k)):∃ old,IsEnum s.heap (ρ i) (ρ it) (k:Int) old∧it < σ.n:=(I.at h).elim fun o h=>Exists.imp (fun old (q:o = { cls:=.type "enumerate",dict:=none,data:=.fields #[.none,.bool false,.ref (ρ it),rawInt k,.none,old],slots:=#[] }∧it < σ.n)=>⟨h.1.trans (congrArg some q.1),q.2⟩) h.2
section
variable {n:Nat} {h:Heap} {a:Addr}
theorem CellAt.ofNs {m:List (Str × AV)} {f:Str→Option Value} (x:h.Ns a f) (d:NsDen n ρ F m f):CellAt n ρ F h a (.ns m):=x.elim fun o x=>x.elim fun es x=>x.elim fun ep x=>⟨o,x.1,f,es,ep,x.2.1,x.2.2.1,x.2.2.2,d⟩
theorem CellAt.ofBox {v:Option AV} {w:Option Value} (x:h.IsCell a w) (d:ODen n ρ F v w):CellAt n ρ F h a (.box v):=x.elim fun o x=>⟨o,x.1,w,x.2,d⟩
theorem CellAt.ofL {xs:List AV} {vs:List Value} {k:Nat} (x:h.get? a=some (oList vs k)) (d:Dens n ρ F xs vs):CellAt n ρ F h a (.list xs):=⟨_,x,vs,k,rfl,d⟩
theorem CellAt.ofD {xs:List (Str × AV)} {vs:List DictEntry} {k:Nat} (x:h.get? a=some (oDict vs k)) (d:DenEs n ρ F xs vs):CellAt n ρ F h a (.dict xs):=⟨_,x,vs,k,rfl,d⟩
theorem CellAt.ofIt {l k:Nat} (x:h.get? a=some (oIter (.ref (ρ l)) k)) (d:l < n):CellAt n ρ F h a (.liter l k):=⟨_,x,rfl,d⟩
theorem CellAt.ofEnd {k:Int} (x:h.get? a=some (oIter .none k)):CellAt n ρ F h a .lend:=⟨_,x,k,rfl⟩
theorem CellAt.ofFit {xs:List AV} {b:Addr} {vs:List Value} {k kk:Nat} (x:h.IsListIter a b k) (hF:F b=some (oList vs kk)) (d:Dens n ρ F xs vs):CellAt n ρ F h a (.fit xs k):=x.elim fun o x=>⟨o,x.1,b,x.2,b,vs,kk,rfl,hF,d⟩
theorem CellAt.ofWl {l k:Nat} (x:h.IsListIter a (ρ l) k) (d:l < n):CellAt n ρ F h a (.wl l k):=x.elim fun o x=>⟨o,x.1,x.2,d⟩
end
theorem Inv.toks (I:Inv X ρ F σ s) (t:Nat):Inv X ρ F σ { s with toks:=t }:=⟨I.ids,I.inj,I.cell,I.off,I.froz,I.base,I.drawn,I.os,I.gens,I.frs⟩
theorem Stp.toks (hi:∀ i c,σ.get i=some c→i < σ.n) (t:Nat):Stp ρ F σ s ρ F σ { s with toks:=t } :=
 ⟨Nat.le_refl _,fun _ _=>rfl,fun _ _ e=>e,fun _ _ e _=>e,fun _ o e=>⟨o,e⟩,fun i c h=>.inl ⟨hi i c h,c,h⟩,fun _ _ e=>e⟩
theorem Inv.still (I:Inv X ρ F σ s) {F':Fz} {s':Shared} (hF:∀ a o,F a=some o→F' a=some o) (hf:∀ a o,F' a=some o→s'.heap.get? a=some o) (ho:∀ i c,σ.get i=some c→F' (ρ i)=none) (hk:∀ b o,s.heap.get? b=some o→s'.heap.get? b=some o) (h1:s'.drawn=s.drawn) (h2:s'.os=s.os) (h3:AllBare s'.gens) (h4:∀ (i:Nat) x,s.gens[i]? = some x→s'.gens[i]? = some x) :
  Inv X ρ F' σ s'∧Stp ρ F σ s ρ F' σ s' :=
 ⟨⟨I.ids,I.inj,fun i c h=>(I.cell i c h).mono (hk _) (Nat.le_refl _) (fun _ _=>rfl) hF,ho,hf,I.base.mono hF,h1.trans I.drawn,h2.trans I.os,h3,I.frs⟩,⟨Nat.le_refl _,fun _ _=>rfl,hF,fun x o e _=>hk _ _ e,fun x o e=>⟨o,hk _ _ e⟩,fun i c h=>.inl ⟨I.ids i c h,c,h⟩,h4⟩⟩
theorem Inv.grow (I:Inv X ρ F σ s) {h':Heap} (hk:∀ b o,s.heap.get? b=some o→h'.get? b=some o) (t:Nat):Inv X ρ F σ { s with heap:=h',toks:=t }∧Stp ρ F σ s ρ F σ { s with heap:=h',toks:=t } :=
 I.still (fun _ _ h=>h) (fun a o e=>hk _ _ (I.froz a o e)) I.off hk rfl rfl I.gens fun _ _ e=>e
noncomputable def Fz.put (F:Fz) (a:Addr) (o:Obj):Fz:=fun b=>if b=a then some o else F b
theorem Inv.freezeH (I:Inv X ρ F σ s) {h':Heap} {a:Addr} {o:Obj} (hk:∀ b o,s.heap.get? b=some o→h'.get? b=some o) (ho:h'.get? a=some o) (hl:∀ i c,σ.get i=some c→ρ i ≠ a) (t:Nat) :
  Inv X ρ (F.put a o) σ { s with heap:=h',toks:=t }∧Stp ρ F σ s ρ (F.put a o) σ { s with heap:=h',toks:=t }:=by
 refine I.still (fun b x e=>?_) (fun b x e=>?_) (fun i c h=>?_) hk rfl rfl I.gens fun _ _ e=>e
 ·unfold Fz.put
  by_cases q:b=a
  ·rw [if_pos q,← ho,q.symm]; exact hk _ _ (I.froz _ _ e)
  ·rw [if_neg q]; exact e
 ·unfold Fz.put at e
  by_cases q:b=a
  ·rw [if_pos q] at e; rw [q,← e]; exact ho
  ·rw [if_neg q] at e; exact hk _ _ (I.froz b x e)
 ·unfold Fz.put; rw [if_neg (hl i c h)]; exact I.off i c h
theorem Inv.freeze (I:Inv X ρ F σ s) {h':Heap} {a:Addr} {o:Obj} (ha:s.heap.get? a=none) (hk:∀ b o,s.heap.get? b=some o→h'.get? b=some o) (ho:h'.get? a=some o) (t:Nat) :
  Inv X ρ (F.put a o) σ { s with heap:=h',toks:=t }∧Stp ρ F σ s ρ (F.put a o) σ { s with heap:=h',toks:=t }:=I.freezeH hk ho (fun _ _ h=>I.not0 ha h) t
theorem Inv.freezeOld (I:Inv X ρ F σ s) {a:Addr} {o:Obj} (h:s.heap.get? a=some o) (hl:∀ i c,σ.get i=some c→ρ i ≠ a):Inv X ρ (F.put a o) σ s∧Stp ρ F σ s ρ (F.put a o) σ s:=I.freezeH (fun _ _ e=>e) h hl s.toks
theorem Inv.turn (I:Inv X ρ F σ s) {c':Cell} (hi:σ.get i=some c) {s':Shared} (hk:Heap.ExtBut (ρ i) s.heap s'.heap) (hc:CellAt σ.n ρ F s'.heap (ρ i) c') (hns:(!isNs c || isNs c')=true) (h1:s'.drawn=s.drawn) (h2:s'.os=s.os) (h3:AllBare s'.gens) (h4:∀ (i:Nat) x,s.gens[i]? = some x→s'.gens[i]? = some x) :
  Inv X ρ F (σ.set i c') s'∧Stp ρ F σ s ρ F (σ.set i c') s':=by
 have old:∀ j d,(σ.set i c').get j=some d→∃ d',σ.get j=some d':=fun j d h=>(St.get_set h).elim (fun q=>⟨c,q.1 ▸ hi⟩) fun q=>⟨d,q.2⟩
 have ne:∀ {j d},j ≠ i→σ.get j=some d→∀ o,s.heap.get? (ρ j)=some o→s'.heap.get? (ρ j)=some o:=fun hj hd o e=>hk _ _ (I.ne hd hi hj) e
 refine ⟨⟨fun j d h=>(old j d h).elim fun d' h=>I.ids j d' h,fun j k d e hj hk'=>(old j d hj).elim fun d' hj=>(old k e hk').elim fun e' hk'=>I.inj j k d' e' hj hk',fun j d h=>?_,fun j d h=>(old j d h).elim fun d' h=>I.off j d' h,fun a o e=>hk _ _ (I.notF e hi).symm (I.froz a o e),I.base,h1.trans I.drawn,h2.trans I.os,h3,fun e he=>⟨(I.frs e he).1,?_⟩⟩,
  ⟨Nat.le_refl _,fun _ _=>rfl,fun _ _ e=>e,fun x o e hx=>hk _ _ (hx i c hi).symm e,fun x o e=>?_,fun j d h=>(old j d h).elim fun d' h=>.inl ⟨I.ids j d' h,d',h⟩,h4⟩⟩
 ·rcases St.get_set h with ⟨rfl,rfl⟩ | ⟨hj,hd⟩
  ·exact hc
  ·exact (I.cell j d hd).keep (ne hj hd)
 ·refine (I.frs e he).2.elim fun c₀ h=>?_
  by_cases q:e.2=i
  ·refine ⟨c',q.symm ▸ St.get_set_self c' hi,?_⟩
   have hc:c=c₀:=Option.some.inj (hi.symm.trans (q ▸ h.1))
   rw [hc,h.2] at hns
   exact hns
  ·exact ⟨c₀,(St.get_set_ne σ c' q).trans h.1,h.2⟩
 ·by_cases hx:x=ρ i
  ·exact hx ▸ hc.live
  ·exact ⟨o,hk _ _ hx e⟩
theorem Inv.set (I:Inv X ρ F σ s) {c':Cell} (hi:σ.get i=some c) {h':Heap} (hk:Heap.ExtBut (ρ i) s.heap h') (hc:CellAt σ.n ρ F h' (ρ i) c') (t:Nat) (hns:(!isNs c || isNs c')=true:=by rfl) :
  Inv X ρ F (σ.set i c') { s with heap:=h',toks:=t }∧Stp ρ F σ s ρ F (σ.set i c') { s with heap:=h',toks:=t }:=I.turn hi hk hc hns rfl rfl I.gens fun _ _ e=>e
theorem Inv.set2 (I:Inv X ρ F σ s) {c' d':Cell} (hi:σ.get i=some c) (hj:σ.get j=some d) (hij:i ≠ j) {h':Heap} (hk:∀ b o,b ≠ ρ i→b ≠ ρ j→s.heap.get? b=some o→h'.get? b=some o)
  (hc:CellAt σ.n ρ F h' (ρ i) c') (hd:CellAt σ.n ρ F h' (ρ j) d') (t:Nat) (hns:(!isNs c || isNs c')=true) (hns2:(!isNs d || isNs d')=true) :
  Inv X ρ F ((σ.set j d').set i c') { s with heap:=h',toks:=t }∧Stp ρ F σ s ρ F ((σ.set j d').set i c') { s with heap:=h',toks:=t }:=by
 have hne:ρ j ≠ ρ i:=I.ne hj hi hij.symm
 refine (I.at hi).elim fun oi hoi=>hc.live.elim fun oi' hoi'=>?_
 have h1i:(h'.update (ρ i) (fun _=>oi)).get? (ρ i)=some oi:=Heap.get?_update_self _ hoi' (Heap.get?_some_iff.mp hoi.1).2
 have h1o:∀ b,b ≠ ρ i→(h'.update (ρ i) (fun _=>oi)).get? b=h'.get? b:=fun b hb=>Heap.get?_update_other _ _ (Ne.symm hb)
 have S1:=I.set hj (c':=d') (h':=h'.update (ρ i) (fun _=>oi)) (fun b o hb e=>by
   by_cases q:b=ρ i
   ·rw [q,h1i,← hoi.1,← e,q]
   ·rw [h1o b q]; exact hk b o q hb e) (hd.keep fun o e=>(h1o _ hne).trans e) t hns2
 have S2:=S1.1.set ((St.get_set_ne σ d' hij).trans hi) (c':=c') (h':=h') (fun b o hb e=>(h1o b hb).symm.trans e) hc t hns
 exact ⟨S2.1,S1.2.trans S2.2⟩
noncomputable def Rho.put (ρ:Rho) (i:Nat) (a:Addr):Rho:=fun j=>if j=i then a else ρ j
theorem Rho.put_self (ρ:Rho) (i:Nat) (a:Addr):ρ.put i a i=a:=if_pos rfl
theorem Rho.put_lt (ρ:Rho) {i j:Nat} (a:Addr) (h:j < i):ρ.put i a j=ρ j:=if_neg (Nat.ne_of_lt h)
theorem Inv.push (I:Inv X ρ F σ s) {h':Heap} {a:Addr} (ha:s.heap.get? a=none) (hk:∀ b o,s.heap.get? b=some o→h'.get? b=some o)
  (hc:CellAt (σ.n + 1) (ρ.put σ.n a) F h' a c) (t:Nat) :
  Inv X (ρ.put σ.n a) F (σ.push c) { s with heap:=h',toks:=t }∧Stp ρ F σ s (ρ.put σ.n a) F (σ.push c) { s with heap:=h',toks:=t }:=by
 have hs:=Rho.put_self ρ σ.n a
 have hρ:∀ i,i < σ.n→(ρ.put σ.n a) i=ρ i:=fun i h=>Rho.put_lt ρ a h
 have hg:∀ {i d},σ.get i=some d→(ρ.put σ.n a) i=ρ i:=fun h=>hρ _ (I.ids _ _ h)
 refine ⟨⟨fun i d h=>?_,fun i j d e h h2 q=>?_,fun i d h=>?_,fun i d h=>?_,fun a o e=>hk _ _ (I.froz a o e),I.base,I.drawn,I.os,I.gens,fun e he=>(I.frs e he).2.elim fun d h=>⟨⟨(I.frs e he).1.1,(hg h.1).symm ▸ (I.frs e he).1.2⟩,d,(St.get_push_lt σ c (I.ids _ _ h.1)).trans h.1,h.2⟩⟩,
  ⟨Nat.le_succ _,hρ,fun _ _ e=>e,fun x o e _=>hk _ _ e,fun x o e=>⟨o,hk _ _ e⟩,fun i d h=>?_,fun _ _ e=>e⟩⟩
 ·exact (St.get_push h).elim (fun q=>q.1 ▸ Nat.lt_succ_self _) fun q=>Nat.lt_succ_of_lt (I.ids i d q.2)
 ·rcases St.get_push h with ⟨rfl,_⟩ | ⟨h3,h⟩ <;> rcases St.get_push h2 with ⟨rfl,_⟩ | ⟨h4,h2⟩
  ·rfl
  ·exact absurd ((hg h2).symm.trans (q.symm.trans hs)) (I.not0 ha h2)
  ·exact absurd ((hg h).symm.trans (q.trans hs)) (I.not0 ha h)
  ·exact I.inj i j d e h h2 ((hg h).symm.trans (q.trans (hg h2)))
 ·rcases St.get_push h with ⟨rfl,rfl⟩ | ⟨_,h⟩
  ·rw [hs]; exact hc
  ·rw [hg h]; exact (I.cell i d h).mono (hk _) (Nat.le_succ _) hρ fun _ _ e=>e
 ·rcases St.get_push h with ⟨rfl,rfl⟩ | ⟨_,h⟩
  ·rw [hs]; exact I.notF0 ha
  ·rw [hg h]; exact I.off i d h
 ·exact (St.get_push h).elim (fun q=>.inr (by rw [q.1,hs]; exact ha)) fun q=>.inl ⟨I.ids i d q.2,d,q.2⟩
theorem Den.fresh (ρ:Rho) (F:Fz) (σ:St) (c:Cell) (a:Addr):Den (σ.push c).n (ρ.put σ.n a) F (.ref σ.n) (.ref a):=⟨congrArg Value.ref (Rho.put_self ρ σ.n a).symm,Nat.lt_succ_self _⟩
theorem Inv.filt (I:Inv X ρ F σ s) {f:Nat→Bool} {N:Nat} (hρ:∀ i,f i=true→ρ' i=ρ i) (hN:∀ i c,f i=true→σ.get i=some c→i < N) (u:∀ i c,f i=true→σ.get i=some c→∀ o,CellO σ.n ρ F (ρ i) c o→CellO N ρ' F (ρ i) c o) (hf:∀ e ∈ X.fr,f e.2=true) :
  Inv X ρ' F ⟨N,σ.objs.filter fun p=>f p.1⟩ s:=by
 have g:∀ {i c},St.get ⟨N,σ.objs.filter fun p=>f p.1⟩ i=some c→f i=true∧σ.get i=some c:=fun {i c} h=>by
  have h':=(filter_look f i σ.objs).symm.trans h
  cases q:f i with
  | true=>rw [q] at h'; exact ⟨rfl,h'⟩
  | false=>rw [q] at h'; exact noneOf h'
 refine ⟨fun i c h=>hN i c (g h).1 (g h).2,fun i j c d h h2 q=>I.inj i j c d (g h).2 (g h2).2 (by rw [← hρ i (g h).1,← hρ j (g h2).1]; exact q),fun i c h=>?_,fun i c h=>by rw [hρ i (g h).1]; exact I.off i c (g h).2,I.froz,I.base,I.drawn,I.os,I.gens,fun e he=>⟨⟨(I.frs e he).1.1,(hρ _ (hf e he)).symm ▸ (I.frs e he).1.2⟩,(I.frs e he).2.imp fun c h=>⟨?_,h.2⟩⟩⟩
 ·rw [hρ i (g h).1]
  exact (I.cell i c (g h).2).to (fun _ e=>e) (u i c (g h).1 (g h).2)
 ·show (σ.objs.filter fun p=>f p.1).lookup e.2=_
  rw [filter_look,hf e he]
  exact h.1
theorem Stp.filt {ρ₁:Rho} {F':Fz} {σ':St} {s':Shared} {f:Nat→Bool} {N:Nat} (st:Stp ρ F σ s ρ₁ F' σ' s') (hN:σ.n≤N):Stp ρ F σ s ρ₁ F' ⟨N,σ'.objs.filter fun p=>f p.1⟩ s' :=
 ⟨hN,st.same,st.sub,st.keep,st.live,fun i c h=>st.new i c (by
  have h':=(filter_look f i σ'.objs).symm.trans h
  cases q:f i with
  | true=>rw [q] at h'; exact h'
  | false=>rw [q] at h'; exact noneOf h'),st.gens⟩
theorem cut_in {N:Nat} (h:σ.get i=some c) (hi:i < N):(i,c) ∈ (σ.cut N).objs:=List.mem_filter.mpr ⟨mem_of_assoc h,Nat.ble_eq_true_of_le hi⟩
theorem Inv.cut (I:Inv X ρ F σ s) {N:Nat} (hρ:∀ i,i < N→ρ' i=ρ i) (u:∀ p ∈ (σ.cut N).objs,UndC N p.2) (hN:∀ e ∈ X.fr,e.2 < N):Inv X ρ' F (σ.cut N) s :=
 I.filt (f:=fun i=>Nat.blt i N) (fun i h=>hρ i (Nat.le_of_ble_eq_true h)) (fun i _ h _=>Nat.le_of_ble_eq_true h) (fun i c h q o=>CellO.under hρ (u _ (cut_in q (Nat.le_of_ble_eq_true h)))) fun e he=>Nat.ble_eq_true_of_le (hN e he)
theorem Stp.cut {ρ₁:Rho} {F':Fz} {σ':St} {s':Shared} {N:Nat} (st:Stp ρ F σ s ρ₁ F' σ' s') (hN:σ.n≤N):Stp ρ F σ s ρ₁ F' (σ'.cut N) s':=st.filt (f:=fun i=>Nat.blt i N) hN
theorem Inv.sel {N:Nat} (l:List Nat) (I:Inv X ρ F σ s) (hN:∀ e ∈ X.fr,e.2 < N):Inv X ρ F (σ.sel N l) s :=
 I.filt (f:=fun i=>Nat.blt i N || l.any (Nat.beq i)) (fun _ _=>rfl) (fun i c _ h=>I.ids i c h) (fun _ _ _ _ _ h=>h) fun e he=>by rw [show Nat.blt e.2 N=true from Nat.ble_eq_true_of_le (hN e he)]; rfl
theorem Stp.sel {ρ₁:Rho} {F':Fz} {σ':St} {s':Shared} {N:Nat} (l:List Nat) (st:Stp ρ F σ s ρ₁ F' σ' s'):Stp ρ F σ s ρ₁ F' (σ'.sel N l) s':=st.filt (f:=fun i=>Nat.blt i N || l.any (Nat.beq i)) st.le
theorem Base.wf (b:Base X F) (fr:List (Env × Nat)):Base (X.wf fr) F:=⟨b.K,b.mb,b.lim,b.bf⟩
theorem Base.un {fr:List (Env × Nat)} (b:Base (X.wf fr) F):Base X F:=⟨b.K,b.mb,b.lim,b.bf⟩
theorem Inv.frame (I:Inv X ρ F σ s) {env:Env} (h1:env.scope.kind = .function) (h2:env.frame=some (ρ i)) (h3:σ.get i=some c) (h4:isNs c=true):Inv (X.wf ((env,i) :: X.fr)) ρ F σ s :=
 ⟨I.ids,I.inj,I.cell,I.off,I.froz,I.base.wf _,I.drawn,I.os,I.gens,fun e he=>by
  cases he with
  | head=>exact ⟨⟨h1,h2⟩,c,h3,h4⟩
  | tail _ he=>exact I.frs e he⟩
theorem Inv.unframe {e:Env × Nat} (I:Inv (X.wf (e :: X.fr)) ρ F σ s):Inv X ρ F σ s:=⟨I.ids,I.inj,I.cell,I.off,I.froz,I.base.un,I.drawn,I.os,I.gens,fun e he=>I.frs e (.tail _ he)⟩
theorem Inv.reframe {env env':Env} (I:Inv (X.wf ((env,i) :: X.fr)) ρ F σ s) (h1:env'.scope.kind = .function) (h2:env'.frame=env.frame):Inv (X.wf ((env',i) :: X.fr)) ρ F σ s :=
 ⟨I.ids,I.inj,I.cell,I.off,I.froz,I.base.un.wf _,I.drawn,I.os,I.gens,fun e he=>by
  cases he with
  | head=>exact ⟨⟨h1,h2.trans (I.frs (env,i) (.head _)).1.2⟩,(I.frs (env,i) (.head _)).2⟩
  | tail _ he=>exact I.frs e (.tail _ he)⟩
end
end Mine
open PySem PySem.W PyProof.Rows
namespace Mine
noncomputable def All:List Prop→Prop
 | []=>True
 | c :: cs=>c∧All cs
theorem All.app {a b:List Prop} (h:All (a ++ b)):All a∧All b:=by
 induction a with
 | nil=>exact ⟨trivial,h⟩
 | cons c a ih=>exact ⟨⟨h.1,(ih h.2).1⟩,(ih h.2).2⟩
noncomputable abbrev Ev:=St × List Wd
noncomputable abbrev EM (β:Type):=Ev→Option (β × Ev × List Prop)
namespace EM
noncomputable def ret {β:Type} (b:β):EM β:=fun ev=>some (b,ev,[])
noncomputable def fail {β:Type}:EM β:=fun _=>none
noncomputable def cond (P:Prop):EM Unit:=fun ev=>some ((),ev,[P])
noncomputable def bind {β γ:Type} (x:EM β) (f:β→EM γ):EM γ:=fun ev=>onSome (x ev) (fun r=>onSome (f r.1 r.2.1) (fun q=>some (q.1,q.2.1,r.2.2 ++ q.2.2)) none) none
noncomputable def word {β:Type} (g:Wd→Option β):EM β:=fun ev=>onCons ev.2 (fun w ds=>onSome (g w) (fun b=>some (b,(ev.1,ds),[])) none) none
noncomputable def opt {β:Type} (o:Option β):EM β:=onSome o ret fail
noncomputable def st {β:Type} (f:St→EM β):EM β:=fun ev=>f ev.1 ev
noncomputable def get {β:Type} (g:St→Option β):EM β:=st fun σ=>opt (g σ)
noncomputable def cell (i:Nat):EM Cell:=get fun σ=>σ.get i
noncomputable def cellAs {β:Type} (as:Cell→Option β) (i:Nat):EM β:=get fun σ=>(σ.get i).bind as
noncomputable def upd (f:St→St):EM Unit:=fun ev=>some ((),(f ev.1,ev.2),[])
noncomputable def push (c:Cell):EM Nat:=fun ev=>some (ev.1.n,(ev.1.push c,ev.2),[])
noncomputable def or {β:Type} (x y:EM β):EM β:=fun ev=>match x ev with
 | some r=>some r
 | none=>y ev
noncomputable def chk (b:Bool):EM Unit:=_root_.cond b (ret ()) fail
noncomputable def dec (b:Bool):EM Bool:=bind (word fun w=>onWB w some none) fun d=>bind (cond (b=d)) fun _=>ret d
noncomputable def cut:EM (List AV × AV):=word fun w=>onWCut w (fun ys y=>some (ys,y)) none
noncomputable def first (xs:List AV):EM (List AV × AV):=bind cut fun p=>bind (cond (xs=p.2 :: p.1)) fun _=>ret p
noncomputable def last (xs:List AV):EM (List AV × AV):=bind cut fun p=>bind (cond (xs=p.1 ++ [p.2])) fun _=>ret p
noncomputable def cutW:EM (Option AV):=word fun w=>onWCut w (fun _ y=>some (some y)) (onWB w (fun b=>_root_.cond b none (some none)) none)
noncomputable def retIf {β:Type} (P:Prop) (v:β):EM β:=bind (cond P) fun _=>ret v
noncomputable def turn {β:Type} (P:Prop) (g:St→St) (v:β):EM β:=bind (cond P) fun _=>bind (upd g) fun _=>ret v
noncomputable def retB {β:Type} (b:Bool) (v:β):EM β:=bind (chk b) fun _=>ret v
end EM
structure Kn where
 p:Nat→Rho→Fz→Prop
 mono:∀ {n n' ρ ρ' F F'},n≤n'→(∀ i,i < n→ρ' i=ρ i)→(∀ a o,F a=some o→F' a=some o)→p n ρ F→p n' ρ' F'
noncomputable def Kn.and (a b:Kn):Kn:=⟨fun n ρ F=>a.p n ρ F∧b.p n ρ F,fun h1 h2 h3 ⟨x,y⟩=>⟨a.mono h1 h2 h3 x,b.mono h1 h2 h3 y⟩⟩
noncomputable def Kn.top:Kn:=⟨fun _ _ _=>True,fun _ _ _ _=>trivial⟩
noncomputable def Kn.is (P:Prop):Kn:=⟨fun _ _ _=>P,fun _ _ _ h=>h⟩
noncomputable def Kn.le (a b:Kn):Prop:=∀ n ρ F,a.p n ρ F→b.p n ρ F
theorem Kn.le_refl (Γ:Kn):Γ.le Γ:=fun _ _ _ h=>h
theorem Kn.fst {a b c:Kn} (x:a.le c):(a.and b).le c:=fun _ _ _ h=>x _ _ _ h.1
theorem Kn.snd {a b c:Kn} (x:b.le c):(a.and b).le c:=fun _ _ _ h=>x _ _ _ h.2
noncomputable def RDen (av:AV) (v:Value):Kn:=⟨fun n ρ F=>Den n ρ F av v,fun h1 h2 h3 x=>x.mono h1 h2 h3⟩
noncomputable def RDens (av:List AV) (v:List Value):Kn:=⟨fun n ρ F=>Dens n ρ F av v,fun h1 h2 h3 x=>x.mono h1 h2 h3⟩
noncomputable def REq {β:Type} (a b:β):Kn:=Kn.is (a=b)
theorem EM.bind_use {β γ:Type} {x:EM β} {f:β→EM γ} {ev:Ev} {c:γ} {ev'':Ev} {cs:List Prop} {C:Prop} (h:EM.bind x f ev=some (c,ev'',cs)) (hc:All cs) (H:∀ b ev' cs₁ cs₂,x ev=some (b,ev',cs₁)→f b ev' = some (c,ev'',cs₂)→All cs₁→All cs₂→C):C :=
 onSome_ind (P:=fun (z:Option (γ × Ev × List Prop)) o=>x ev=o→z=some (c,ev'',cs)→C) (fun r e1=>onSome_ind (P:=fun (z:Option (γ × Ev × List Prop)) o=>f r.1 r.2.1=o→z=some (c,ev'',cs)→C)
  (fun q e2 h=>inj3 h fun i1 i2 (i3:r.2.2 ++ q.2.2=cs)=>have ha:=All.app (i3.symm ▸ hc); H r.1 r.2.1 r.2.2 q.2.2 e1 (by rw [← i1,← i2]; exact e2) ha.1 ha.2) (fun _ e=>noneOf e) rfl) (fun _ e=>noneOf e) rfl h
theorem EM.chk_use {β:Type} {b:Bool} {x:EM β} {ev:Ev} {r:β × Ev × List Prop} {C:Prop} (h:_root_.cond b x EM.fail ev=some r) (H:b=true→x ev=some r→C):C :=
 cond_ind (P:=fun (z:EM β)=>z ev=some r→C) H (fun e=>noneOf e) h
noncomputable def RunAt {β:Type} (σ:St) (x:EM β) (C:β→St→Prop):Prop:=∀ ds b ev' cs,x (σ,ds)=some (b,ev',cs)→All cs→C b ev'.1
section
variable {β γ:Type} {σ σ₁:St} {C:β→St→Prop} {D:γ→St→Prop}
theorem RunAt.ret {b:β} (h:C b σ):RunAt σ (EM.ret b) C:=fun ds b' ev' cs e _=>inj3 e fun i1 i2 _=>i1 ▸ i2 ▸ h
theorem RunAt.fail:RunAt σ (EM.fail:EM β) C:=fun _ _ _ _ e=>noneOf e
theorem RunAt.bind {x:EM β} {f:β→EM γ} (hx:RunAt σ x C) (hf:∀ b σ₁,C b σ₁→RunAt σ₁ (f b) D):RunAt σ (EM.bind x f) D:=fun ds _ _ _ e hc=>EM.bind_use e hc fun b ev₁ cs₁ cs₂ e₁ e₂ h1 h2=>hf b ev₁.1 (hx ds b ev₁ cs₁ e₁ h1) ev₁.2 _ _ _ e₂ h2
theorem RunAt.stay {x:EM β} {P:β→Prop} {f:β→EM γ} (hx:RunAt σ x fun b σ₁=>σ₁=σ∧P b) (hf:∀ b,P b→RunAt σ (f b) D):RunAt σ (EM.bind x f) D:=hx.bind fun b σ₁ h=>h.1 ▸ hf b h.2
theorem RunAt.opt0 {o:Option β}:RunAt σ (EM.opt o) fun b σ₁=>σ₁=σ∧o=some b:=onSome_ind (P:=fun (x:EM β) o=>RunAt σ x fun b σ₁=>σ₁=σ∧o=some b) (fun b=>RunAt.ret ⟨rfl,rfl⟩) RunAt.fail
theorem RunAt.opt {o:Option β} {f:β→EM γ} (h:∀ b,o=some b→RunAt σ (f b) D):RunAt σ (EM.bind (EM.opt o) f) D:=RunAt.opt0.stay h
theorem RunAt.get {g:St→Option β} {f:β→EM γ} (h:∀ b,g σ=some b→RunAt σ (f b) D):RunAt σ (EM.bind (EM.get g) f) D:=RunAt.opt (o:=g σ) h
theorem RunAt.cell {i:Nat} {f:Cell→EM γ} (h:∀ c,σ.get i=some c→RunAt σ (f c) D):RunAt σ (EM.bind (EM.cell i) f) D:=RunAt.get h
theorem RunAt.cellAs {as:Cell→Option β} {mk:β→Cell} {i:Nat} {f:β→EM γ} (inv:∀ {c q},as c=some q→c=mk q) (h:∀ q,σ.get i=some (mk q)→RunAt σ (f q) D):RunAt σ (EM.bind (EM.cellAs as i) f) D :=
 RunAt.get fun q e=>h q (let ⟨c,e1,e2⟩:=Option.bind_eq_some_iff.mp e; inv e2 ▸ e1)
theorem RunAt.st {f:St→EM γ} (h:RunAt σ (f σ) D):RunAt σ (EM.st f) D:=h
theorem RunAt.chk {b:Bool} {f:Unit→EM γ} (h:b=true→RunAt σ (f ()) D):RunAt σ (EM.bind (EM.chk b) f) D:=RunAt.stay (P:=fun _=>b=true) (cond_ind (P:=fun (x:EM Unit)=>RunAt σ x fun _ σ₁=>σ₁=σ∧b=true) (fun e=>RunAt.ret ⟨rfl,e⟩) RunAt.fail) fun _=>h
theorem RunAt.cond {P:Prop} {f:Unit→EM γ} (h:P→RunAt σ (f ()) D):RunAt σ (EM.bind (EM.cond P) f) D:=RunAt.stay (P:=fun _=>P) (fun ds u ev' cs e hc=>inj3 e fun _ i2 i3=>⟨i2 ▸ rfl,(i3 ▸ hc:All [P]).1⟩) fun _=>h
theorem RunAt.word {g:Wd→Option β} {f:β→EM γ} (h:∀ b,RunAt σ (f b) D):RunAt σ (EM.bind (EM.word g) f) D:=RunAt.stay (P:=fun _=>True) (fun ds b ev' cs =>
 onCons_ind (P:=fun (x:Option (β × Ev × List Prop)) _=>x=some (b,ev',cs)→All cs→ev'.1=σ∧True) (fun w r=>onSome_ind (P:=fun (x:Option (β × Ev × List Prop)) _=>x=some (b,ev',cs)→All cs→ev'.1=σ∧True) (fun c e _=>inj3 e fun _ i2 _=>⟨i2 ▸ rfl,trivial⟩) fun e=>noneOf e) fun e=>noneOf e) fun b _=>h b
theorem RunAt.cutW {f:Option AV→EM γ} (h:∀ o,RunAt σ (f o) D):RunAt σ (EM.bind EM.cutW f) D:=RunAt.word h
theorem RunAt.dec0 {b:Bool}:RunAt σ (EM.dec b) fun d σ₁=>σ₁=σ∧b=d:=RunAt.word fun d=>RunAt.cond fun h=>RunAt.ret ⟨rfl,h⟩
theorem RunAt.first {xs:List AV} {f:List AV × AV→EM γ} (h:∀ p,xs=p.2 :: p.1→RunAt σ (f p) D):RunAt σ (EM.bind (EM.first xs) f) D:=RunAt.stay (P:=fun p=>xs=p.2 :: p.1) (RunAt.word fun p=>RunAt.cond fun h=>RunAt.ret ⟨rfl,h⟩) h
theorem RunAt.last {xs:List AV} {f:List AV × AV→EM γ} (h:∀ p,xs=p.1 ++ [p.2]→RunAt σ (f p) D):RunAt σ (EM.bind (EM.last xs) f) D:=RunAt.stay (P:=fun p=>xs=p.1 ++ [p.2]) (RunAt.word fun p=>RunAt.cond fun h=>RunAt.ret ⟨rfl,h⟩) h
theorem RunAt.upd {g:St→St} {f:Unit→EM γ} (h:RunAt (g σ) (f ()) D):RunAt σ (EM.bind (EM.upd g) f) D:=RunAt.bind (C:=fun _ σ₁=>σ₁=g σ) (fun ds u ev' cs e _=>inj3 e fun _ i2 _=>i2 ▸ rfl) fun _ σ₁ e=>e ▸ h
theorem RunAt.push {c:Cell} {f:Nat→EM γ} (h:RunAt (σ.push c) (f σ.n) D):RunAt σ (EM.bind (EM.push c) f) D:=RunAt.bind (C:=fun b σ₁=>b=σ.n∧σ₁=σ.push c) (fun ds u ev' cs e _=>inj3 e fun i1 i2 i3=>⟨i1.symm,i2 ▸ rfl⟩) fun b σ₁ e=>by rw [e.1,e.2]; exact h
theorem RunAt.or {x y:EM β} (hx:RunAt σ x C) (hy:RunAt σ y C):RunAt σ (EM.or x y) C:=fun ds b ev' cs e hc=>by
 unfold EM.or at e
 split at e
 ·rename_i r h; exact hx _ _ _ _ (h.trans e) hc
 ·exact hy _ _ _ _ e hc
theorem RunAt.optE {o:Option β} (h:∀ b,o=some b→C b σ):RunAt σ (EM.opt o) C:=fun ds b ev' cs e hc=>let q:=RunAt.opt0 ds b ev' cs e hc; q.1 ▸ h b q.2
theorem RunAt.updE {g:St→St} {C:Unit→St→Prop} (h:C () (g σ)):RunAt σ (EM.upd g) C:=fun ds u ev' cs e _=>inj3 e fun _ i2 _=>i2 ▸ h
theorem RunAt.retIf {P:Prop} {v:β} (h:P→C v σ):RunAt σ (EM.retIf P v) C:=RunAt.cond fun p=>RunAt.ret (h p)
theorem RunAt.turn {P:Prop} {g:St→St} {v:β} (h:P→C v (g σ)):RunAt σ (EM.turn P g v) C:=RunAt.cond fun p=>RunAt.upd (RunAt.ret (h p))
theorem RunAt.retB {b:Bool} {v:β} (h:b=true→C v σ):RunAt σ (EM.retB b v) C:=RunAt.chk fun p=>RunAt.ret (h p)
theorem RunAt.mono {x:EM β} {C':β→St→Prop} (h:RunAt σ x C) (hC:∀ b σ₁,C b σ₁→C' b σ₁):RunAt σ x C':=fun ds b ev' cs e hc=>hC _ _ (h ds b ev' cs e hc)
end
noncomputable def Goes {α:Type} (X:Ctx) (A:Around) (ρ:Rho) (F:Fz) (σ:St) (s:Shared) (t:Sem α) (R:α→Kn) (σ':St):Prop :=
 ∀ (Q:α→Shared→Prop) (E:Value→Shared→Prop),
  (∀ v s' ρ' F',(R v).p σ'.n ρ' F'→Inv X ρ' F' σ' s'→Stp ρ F σ s ρ' F' σ' s'→Q v s')→wpAny (model X.prog X.w) A t Q E s
noncomputable def Sim {α β:Type} (X:Ctx) (A:Around) (Γ:Kn) (R:β→α→Kn) (x:EM β) (t:Sem α):Prop :=
 ∀ ev b ev' cs,x ev=some (b,ev',cs)→All cs→∀ ρ F s,Inv X ρ F ev.1 s→Γ.p ev.1.n ρ F→Goes X A ρ F ev.1 s t (R b) ev'.1
section
variable {α β γ δ:Type} {X:Ctx} {A:Around} {ρ:Rho} {F:Fz} {σ σ₁ σ₂:St} {s:Shared}
theorem Goes.now {a:α} {R:α→Kn} (I:Inv X ρ F σ s) (h:(R a).p σ.n ρ F):Goes X A ρ F σ s (pure a) R σ:=fun Q E hQ=>wpAny_pure (hQ a s ρ F h I (Stp.refl ρ F I.ids))
theorem Goes.bind {t:Sem α} {k:α→Sem γ} {R:α→Kn} {R₂:γ→Kn} (h:Goes X A ρ F σ s t R σ₁)
  (hk:∀ v s₁ ρ₁ F₁,(R v).p σ₁.n ρ₁ F₁→Inv X ρ₁ F₁ σ₁ s₁→Stp ρ F σ s ρ₁ F₁ σ₁ s₁→Goes X A ρ₁ F₁ σ₁ s₁ (k v) R₂ σ₂):Goes X A ρ F σ s (t >>= k) R₂ σ₂ :=
 fun Q E hQ=>wpAny_bind (h _ E fun v s₁ ρ₁ F₁ hr I₁ st=>hk v s₁ ρ₁ F₁ hr I₁ st Q E fun w s₂ ρ₂ F₂ hr₂ I₂ st₂=>hQ w s₂ ρ₂ F₂ hr₂ I₂ (st.trans st₂))
theorem Goes.mono {t:Sem α} {R R':α→Kn} (h:Goes X A ρ F σ s t R σ₁) (hR:∀ v ρ' F',(R v).p σ₁.n ρ' F'→(R' v).p σ₁.n ρ' F'):Goes X A ρ F σ s t R' σ₁ :=
 fun Q E hQ=>h Q E fun v s' ρ' F' r=>hQ v s' ρ' F' (hR v ρ' F' r)
section
variable {t:Sem α} {R:α→Kn}
theorem Goes.same (I:Inv X ρ F σ s) (h:∀ (Q:α→Shared→Prop) (E:Value→Shared→Prop),(∀ w,(R w).p σ.n ρ F→Q w s)→wpAny (model X.prog X.w) A t Q E s):Goes X A ρ F σ s t R σ:=fun Q E hQ=>h Q E fun w r=>hQ w s ρ F r I (Stp.refl ρ F I.ids)
theorem Goes.tok (I:Inv X ρ F σ s) (h:∀ (Q:α→Shared→Prop) (E:Value→Shared→Prop),(∀ w k,(R w).p σ.n ρ F→Q w { s with toks:=k })→wpAny (model X.prog X.w) A t Q E s):Goes X A ρ F σ s t R σ:=fun Q E hQ=>h Q E fun w k r=>hQ w _ ρ F r (I.toks k) (Stp.toks I.ids k)
theorem Goes.to (h:∀ (Q:α→Shared→Prop) (E:Value→Shared→Prop),(∀ v s' ρ' F',(R v).p σ₁.n ρ' F'→Inv X ρ' F' σ₁ s'∧Stp ρ F σ s ρ' F' σ₁ s'→Q v s')→wpAny (model X.prog X.w) A t Q E s):Goes X A ρ F σ s t R σ₁:=fun Q E hQ=>h Q E fun v s' ρ' F' r q=>hQ v s' ρ' F' r q.1 q.2
end
variable {Γ:Kn}
theorem Sim.ofRun {x:EM β} {t:Sem α} {R:β→α→Kn} (h:∀ σ ρ F s,Inv X ρ F σ s→Γ.p σ.n ρ F→RunAt σ x fun b σ'=>Goes X A ρ F σ s t (R b) σ'):Sim X A Γ R x t:=fun ev b ev' cs e hc ρ F s I g=>h ev.1 ρ F s I g ev.2 b ev' cs e hc
theorem Sim.ret {b:β} {a:α} {R:β→α→Kn} (h:Γ.le (R b a)):Sim X A Γ R (EM.ret b) (pure a):=Sim.ofRun fun σ ρ F s I g=>RunAt.ret (Goes.now I (h _ _ _ g))
theorem Sim.bind {x:EM β} {f:β→EM δ} {t:Sem α} {k:α→Sem γ} {R:β→α→Kn} {R₂:δ→γ→Kn} (h:Sim X A Γ R x t) (hk:∀ b v,Sim X A (Γ.and (R b v)) R₂ (f b) (k v)):Sim X A Γ R₂ (EM.bind x f) (t >>= k) :=
 fun ev c ev'' cs e hc ρ F s I g=>EM.bind_use e hc fun b ev' cs₁ cs₂ e₁ e₂ h1 h2=>(h _ _ _ _ e₁ h1 ρ F s I g).bind fun v s₁ ρ₁ F₁ hr I₁ st=>hk b v _ _ _ _ e₂ h2 ρ₁ F₁ s₁ I₁ ⟨Γ.mono st.le st.same st.sub g,hr⟩
theorem Sim.stay {x:EM β} {f:β→EM δ} {t:Sem γ} {R₂:δ→γ→Kn} {P:β→Prop} (h:∀ σ,RunAt σ x fun b σ₁=>σ₁=σ∧P b) (hk:∀ b,P b→Sim X A Γ R₂ (f b) t):Sim X A Γ R₂ (EM.bind x f) t :=
 Sim.ofRun fun σ ρ F s I g=>(h σ).stay fun b hb ds c ev' cs e hc=>hk b hb (σ,ds) c ev' cs e hc ρ F s I g
theorem Sim.fail {t:Sem α} {R:β→α→Kn}:Sim X A Γ R EM.fail t:=fun _ _ _ _ e=>noneOf e
theorem Sim.cond {P:Prop} {f:Unit→EM δ} {t:Sem γ} {R₂:δ→γ→Kn} (hk:P→Sim X A Γ R₂ (f ()) t):Sim X A Γ R₂ (EM.bind (EM.cond P) f) t:=Sim.ofRun fun σ ρ F s I g=>RunAt.cond fun h ds c ev' cs e hc=>hk h (σ,ds) c ev' cs e hc ρ F s I g
theorem Sim.dec {b₀:Bool} {f:Bool→EM δ} {t:Sem γ} {R₂:δ→γ→Kn} (hk:Sim X A Γ R₂ (f b₀) t):Sim X A Γ R₂ (EM.bind (EM.dec b₀) f) t:=Sim.stay (fun _=>RunAt.dec0) fun _ h=>h ▸ hk
theorem Sim.word {g:Wd→Option β} {f:β→EM δ} {t:Sem γ} {R₂:δ→γ→Kn} (hk:∀ b,Sim X A Γ R₂ (f b) t):Sim X A Γ R₂ (EM.bind (EM.word g) f) t:=Sim.ofRun fun σ ρ F s I g=>RunAt.word fun b ds c ev' cs e hc=>hk b (σ,ds) c ev' cs e hc ρ F s I g
theorem Sim.opt {o:Option β} {f:β→EM δ} {t:Sem γ} {R₂:δ→γ→Kn} (hk:∀ b,o=some b→Sim X A Γ R₂ (f b) t):Sim X A Γ R₂ (EM.bind (EM.opt o) f) t:=Sim.stay (fun _=>RunAt.opt0) hk
theorem Sim.weaken {Γ':Kn} {x:EM β} {t:Sem α} {R:β→α→Kn} (h:Sim X A Γ R x t) (hg:Γ'.le Γ):Sim X A Γ' R x t:=fun ev b ev' cs e hc ρ F s I g=>h ev b ev' cs e hc ρ F s I (hg _ _ _ g)
theorem Sim.post {x:EM β} {t:Sem α} {R R':β→α→Kn} (h:Sim X A Γ R x t) (hr:∀ b v,(R b v).le (R' b v)):Sim X A Γ R' x t:=fun ev b ev' cs e hc ρ F s I g=>(h ev b ev' cs e hc ρ F s I g).mono fun v ρ' F' z=>hr b v _ _ _ z
theorem Sim.know {P:Prop} {x:EM β} {t:Sem α} {R:β→α→Kn} (h:Γ.le (Kn.is P)) (hk:P→Sim X A Γ R x t):Sim X A Γ R x t:=fun ev b ev' cs e hc ρ F s I g=>hk (h _ _ _ g) ev b ev' cs e hc ρ F s I g
theorem Sim.chk {b:Bool} {x:EM β} {t:Sem α} {R:β→α→Kn} (h:b=true→Sim X A Γ R x t):Sim X A Γ R (_root_.cond b x EM.fail) t:=cond_ind (P:=fun x=>Sim X A Γ R x t) h Sim.fail
theorem Sim.eq {x:EM β} {t t':Sem α} {R:β→α→Kn} (e:t=t') (h:Sim X A Γ R x t'):Sim X A Γ R x t:=e ▸ h
theorem Sim.holding {vs:List Value} {x:EM β} {t:Sem α} {R:β→α→Kn} (h:Sim X A Γ R x t):Sim X A Γ R x (holding vs t):=fun ev b ev' cs e hc ρ F s I g Q E hQ=>wpAny_holding (h ev b ev' cs e hc ρ F s I g Q E hQ)
theorem Sim.standAt {p:Pos} {x:EM β} {k:Unit→Sem α} {R:β→α→Kn} (h:Sim X A Γ R x (k ())):Sim X A Γ R x (standAt p >>= k):=fun ev b ev' cs e hc ρ F s I g Q E hQ=>wpAny_bind (wpAny_standAt (h ev b ev' cs e hc ρ F s I g Q E hQ))
theorem Sim.stood {p:Pos} {x:EM β} {t:Sem α} {R:β→α→Kn} (h:Sim X A Γ R x t):Sim X A Γ R x (t >>= fun v=>PySem.standAt p >>= fun _=>Pure.pure v):=fun ev b ev' cs e hc ρ F s I g Q E hQ=>wpAny_bind (h ev b ev' cs e hc ρ F s I g _ E fun v s' ρ' F' a b c=>wpAny_bind (wpAny_standAt (wpAny_pure (hQ v s' ρ' F' a b c))))
theorem Sim.operate {vs:List Value} {x:EM β} {t:Sem Value} {R:β→Value→Kn} (h:Sim X A Γ R x t):Sim X A Γ R x (operate vs t):=fun ev b ev' cs e hc ρ F s I g Q E hQ=>wpAny_operateT (h ev b ev' cs e hc ρ F s I g Q E hQ)
end
noncomputable def asList (e:Cell):Option (List AV):=onCList e (fun a=>some a) none
theorem asList_some {e:Cell} {q:List AV}:asList e=some q→e = .list q:=onCList_ind (P:=fun (x:Option (List AV)) e=>x=some q→e = .list q) (fun a h=>Option.some.inj h ▸ rfl) fun h=>noneOf h
noncomputable def asRit (e:Cell):Option (Int × Int × Int):=onCRit e (fun a b c=>some (a,b,c)) none
theorem asRit_some {e:Cell} {q:Int × Int × Int}:asRit e=some q→e = .rit q.1 q.2.1 q.2.2:=onCRit_ind (P:=fun (x:Option (Int × Int × Int)) e=>x=some q→e = .rit q.1 q.2.1 q.2.2) (fun a b c h=>Option.some.inj h ▸ rfl) fun h=>noneOf h
noncomputable def asRev (e:Cell):Option (Nat × Int):=onCRev e (fun a b=>some (a,b)) none
theorem asRev_some {e:Cell} {q:Nat × Int}:asRev e=some q→e = .rev q.1 q.2:=onCRev_ind (P:=fun (x:Option (Nat × Int)) e=>x=some q→e = .rev q.1 q.2) (fun a b h=>by rw [← Option.some.inj h]) fun h=>noneOf h
noncomputable def asSit (e:Cell):Option (Str × Nat):=onCSit e (fun a b=>some (a,b)) none
theorem asSit_some {e:Cell} {q:Str × Nat}:asSit e=some q→e = .sit q.1 q.2:=onCSit_ind (P:=fun (x:Option (Str × Nat)) e=>x=some q→e = .sit q.1 q.2) (fun a b h=>by rw [← Option.some.inj h]) fun h=>noneOf h
noncomputable def asFit (e:Cell):Option (List AV × Nat):=onCFit e (fun a b=>some (a,b)) none
theorem asFit_some {e:Cell} {q:List AV × Nat}:asFit e=some q→e = .fit q.1 q.2:=onCFit_ind (P:=fun (x:Option (List AV × Nat)) e=>x=some q→e = .fit q.1 q.2) (fun a b h=>by rw [← Option.some.inj h]) fun h=>noneOf h
noncomputable def asEnum (e:Cell):Option (Nat × Nat):=onCEnum e (fun a b=>some (a,b)) none
theorem asEnum_some {e:Cell} {q:Nat × Nat}:asEnum e=some q→e = .enum q.1 q.2:=onCEnum_ind (P:=fun (x:Option (Nat × Nat)) e=>x=some q→e = .enum q.1 q.2) (fun a b h=>Option.some.inj h ▸ rfl) fun h=>noneOf h
noncomputable def asWl (e:Cell):Option (Nat × Nat):=onCWl e (fun a b=>some (a,b)) none
theorem asWl_some {e:Cell} {q:Nat × Nat}:asWl e=some q→e = .wl q.1 q.2:=onCWl_ind (P:=fun (x:Option (Nat × Nat)) e=>x=some q→e = .wl q.1 q.2) (fun a b h=>Option.some.inj h ▸ rfl) fun h=>noneOf h
noncomputable def asLiter (e:Cell):Option (Nat × Nat):=onCLiter e (fun a b=>some (a,b)) none
theorem asLiter_some {e:Cell} {q:Nat × Nat}:asLiter e=some q→e = .liter q.1 q.2:=onCLiter_ind (P:=fun (x:Option (Nat × Nat)) e=>x=some q→e = .liter q.1 q.2) (fun a b h=>Option.some.inj h ▸ rfl) fun h=>noneOf h
noncomputable def asDict (e:Cell):Option (List (Str × AV)):=onCDict e (fun a=>some a) none
theorem asDict_some {e:Cell} {q:List (Str × AV)}:asDict e=some q→e = .dict q:=onCDict_ind (P:=fun (x:Option (List (Str × AV))) e=>x=some q→e = .dict q) (fun a h=>Option.some.inj h ▸ rfl) fun h=>noneOf h
noncomputable def asNs (e:Cell):Option (List (Str × AV)):=onCNs e (fun a=>some a) none
theorem asNs_some {e:Cell} {q:List (Str × AV)}:asNs e=some q→e = .ns q:=onCNs_ind (P:=fun (x:Option (List (Str × AV))) e=>x=some q→e = .ns q) (fun a h=>Option.some.inj h ▸ rfl) fun h=>noneOf h
noncomputable def asBox (e:Cell):Option (Option AV):=onCBox e (fun a=>some a) none
theorem asBox_some {e:Cell} {q:Option AV}:asBox e=some q→e = .box q:=onCBox_ind (P:=fun (x:Option (Option AV)) e=>x=some q→e = .box q) (fun a h=>Option.some.inj h ▸ rfl) fun h=>noneOf h
noncomputable def asExc (e:Cell):Option (Addr × Option Nat × Option Nat):=onCExc e (fun a b c=>some (a,b,c)) none
theorem asExc_some {e:Cell} {q:Addr × Option Nat × Option Nat}:asExc e=some q→e = .exc q.1 q.2.1 q.2.2:=onCExc_ind (P:=fun (x:Option (Addr × Option Nat × Option Nat)) e=>x=some q→e = .exc q.1 q.2.1 q.2.2) (fun a b c h=>Option.some.inj h ▸ rfl) fun h=>noneOf h
noncomputable def asTb (e:Cell):Option (Option Nat):=onCTb e (fun a=>some a) none
theorem asTb_some {e:Cell} {q:Option Nat}:asTb e=some q→e = .tb q:=onCTb_ind (P:=fun (x:Option (Option Nat)) e=>x=some q→e = .tb q) (fun a h=>Option.some.inj h ▸ rfl) fun h=>noneOf h
noncomputable def asTab (e:Cell):Option (Addr × Array Value × Option (List (Int × Int))):=onCTab e (fun a b c=>some (a,b,c)) none
theorem asTab_some {e:Cell} {q:Addr × Array Value × Option (List (Int × Int))}:asTab e=some q→e = .tab q.1 q.2.1 q.2.2:=onCTab_ind (P:=fun (x:Option (Addr × Array Value × Option (List (Int × Int)))) e=>x=some q→e = .tab q.1 q.2.1 q.2.2) (fun a b c h=>Option.some.inj h ▸ rfl) fun h=>noneOf h
noncomputable def plainE (e:Expr):Bool:=onConstant e (fun _ _ _=>true) <| onName e (fun _ _=>true) <| onAttribute e (fun _ _ _=>true) <| onSubscript e (fun _ _ _=>true) <| onCall e (fun _ _ _ _=>true) <| onBinOp e (fun _ _ _ _=>true) <|
 onUnaryOp e (fun _ _ _=>true) <| onIfExp e (fun _ _ _ _=>true) <| onCompare e (fun _ _ _ _=>true) <| onListE e (fun _ _=>true) <| onTupleE e (fun _ _ _=>true) <| onDictE e (fun _ _ _=>true) false
theorem plainE_ind {P:Expr→Prop} (h1:∀ a b c,P (.Constant a b c)) (h2:∀ a b,P (.Name a b)) (h3:∀ a b c,P (.Attribute a b c)) (h4:∀ a b c,P (.Subscript a b c)) (h5:∀ a b c d,P (.Call a b c d)) (h6:∀ a b c d,P (.BinOp a b c d))
  (h7:∀ a b c,P (.UnaryOp a b c)) (h8:∀ a b c d,P (.IfExp a b c d)) (h9:∀ a b c d,P (.Compare a b c d)) (h10:∀ a b,P (.List a b)) (h11:∀ a b c,P (.Tuple a b c)) (h12:∀ a b c,P (.Dict a b c)) {e:Expr}:plainE e=true→P e :=
 onConstant_ind (P:=fun b e=>b=true→P e) (fun a b c _=>h1 a b c) <| onName_ind (P:=fun b e=>b=true→P e) (fun a b _=>h2 a b) <| onAttribute_ind (P:=fun b e=>b=true→P e) (fun a b c _=>h3 a b c) <|
 onSubscript_ind (P:=fun b e=>b=true→P e) (fun a b c _=>h4 a b c) <| onCall_ind (P:=fun b e=>b=true→P e) (fun a b c d _=>h5 a b c d) <| onBinOp_ind (P:=fun b e=>b=true→P e) (fun a b c d _=>h6 a b c d) <|
 onUnaryOp_ind (P:=fun b e=>b=true→P e) (fun a b c _=>h7 a b c) <| onIfExp_ind (P:=fun b e=>b=true→P e) (fun a b c d _=>h8 a b c d) <| onCompare_ind (P:=fun b e=>b=true→P e) (fun a b c d _=>h9 a b c d) <|
 onListE_ind (P:=fun b e=>b=true→P e) (fun a b _=>h10 a b) <| onTupleE_ind (P:=fun b e=>b=true→P e) (fun a b c _=>h11 a b c) <| onDictE_ind (P:=fun b e=>b=true→P e) (fun a b c _=>h12 a b c) ff
noncomputable def noStar (e:Expr):Bool:=onListComp e (fun _ _ _ _=>true) <| onGenExp e (fun _ _ _ _=>true) (plainE e)
theorem star_step {e:Expr} {es:List Expr} {env:Env}:noStar e=true→starEach (e :: es) env=(false,eval e env) :: starEach es env :=
 onListComp_ind (P:=fun b e=>b=true→starEach (e :: es) env=(false,eval e env) :: starEach es env) (fun _ _ _ _ _=>rfl) <|
 onGenExp_ind (P:=fun b e=>b=true→starEach (e :: es) env=(false,eval e env) :: starEach es env) (fun _ _ _ _ _=>rfl)
  (plainE_ind (P:=fun e=>starEach (e :: es) env=(false,eval e env) :: starEach es env) (fun _ _ _=>rfl) (fun _ _=>rfl) (fun _ _ _=>rfl) (fun _ _ _=>rfl) (fun _ _ _ _=>rfl) (fun _ _ _ _=>rfl) (fun _ _ _=>rfl) (fun _ _ _ _=>rfl) (fun _ _ _ _=>rfl) (fun _ _=>rfl) (fun _ _ _=>rfl) (fun _ _ _=>rfl))
noncomputable def notSuper (e:Expr):Bool:=onConstant e (fun _ _ _=>true) <| onName e (fun _ _=>true) <| onAttribute e (fun _ _ _=>true) <| onSubscript e (fun _ _ _=>true) false
theorem base_plain {o:Expr} (h:notSuper o=true) (attr:Str) (env:Env) (whole:Sem Value):attributeBase o attr env whole=whole:=by
 revert h
 unfold notSuper
 exact onConstant_ind (P:=fun b o=>b=true→attributeBase o attr env whole=whole) (fun _ _ _ _=>rfl) (onName_ind (P:=fun b o=>b=true→attributeBase o attr env whole=whole) (fun _ _ _=>rfl)
  (onAttribute_ind (P:=fun b o=>b=true→attributeBase o attr env whole=whole) (fun _ _ _ _=>rfl) (onSubscript_ind (P:=fun b o=>b=true→attributeBase o attr env whole=whole) (fun _ _ _ _=>rfl) ff)))
theorem slice_plain {i:Expr} (av bv:Value):plainE i=true→subscripted i false av bv=PySem.operate [av,bv] (PySem.getItem av bv) :=
 plainE_ind (P:=fun i=>subscripted i false av bv=PySem.operate [av,bv] (PySem.getItem av bv)) (fun _ _ _=>rfl) (fun _ _=>rfl) (fun _ _ _=>rfl) (fun _ _ _=>rfl) (fun _ _ _ _=>rfl) (fun _ _ _ _=>rfl) (fun _ _ _=>rfl) (fun _ _ _ _=>rfl) (fun _ _ _ _=>rfl) (fun _ _=>rfl) (fun _ _ _=>rfl) (fun _ _ _=>rfl)
theorem notSet_folds {iter:Expr} (h:plainE iter=true) (env:Env) (x:Value):foldedSetIterable iter env x=pure x :=
 plainE_ind (P:=fun iter=>foldedSetIterable iter env x=pure x) (fun _ _ _=>rfl) (fun _ _=>rfl) (fun _ _ _=>rfl) (fun _ _ _=>rfl) (fun _ _ _ _=>rfl) (fun _ _ _ _=>rfl) (fun _ _ _=>rfl) (fun _ _ _ _=>rfl) (fun _ _ _ _=>rfl) (fun _ _=>rfl) (fun _ _ _=>rfl) (fun _ _ _=>rfl) h
noncomputable def simpleTarget (e:Expr):Bool:=onName e (fun _ _=>true) <| onAttribute e (fun _ _ _=>true) <| onSubscript e (fun _ _ _=>true) false
theorem simple_ind {P:Expr→Prop} (h2:∀ a b,P (.Name a b)) (h3:∀ a b c,P (.Attribute a b c)) (h4:∀ a b c,P (.Subscript a b c)) {e:Expr}:simpleTarget e=true→P e :=
 onName_ind (P:=fun b e=>b=true→P e) (fun a b _=>h2 a b) (onAttribute_ind (P:=fun b e=>b=true→P e) (fun a b c _=>h3 a b c) (onSubscript_ind (P:=fun b e=>b=true→P e) (fun a b c _=>h4 a b c) ff))
noncomputable def isTup (e:Expr):Bool:=onTupleE e (fun _ _ _=>true) false
theorem exec_simple {t value:Expr} {p:Pos} {env:Env} (h1:simpleTarget t=true) (h2:plainE value=true):exec (.Assign [t] value p) env=(PySem.standAt p >>= fun _=>eval value env >>= fun v=>assign t env v >>= fun _=>pure .next):=by
 rw [exec_Assign]
 have hs:swapsWithSole [t] value p.line env=pure false:=plainE_ind (P:=fun value=>swapsWithSole [t] value p.line env=pure false) (fun _ _ _=>rfl) (fun _ _=>rfl) (fun _ _ _=>rfl) (fun _ _ _=>rfl) (fun _ _ _ _=>rfl) (fun _ _ _ _=>rfl) (fun _ _ _=>rfl) (fun _ _ _ _=>rfl) (fun _ _ _ _=>rfl) (fun _ _=>rfl) (fun _ _ _=>rfl) (fun _ _ _=>rfl) h2
 have hw:swappedStores [t] value env=pure none∧assignEach [t] env=[(false,assign t env)]:=simple_ind (P:=fun t=>swappedStores [t] value env=pure none∧assignEach [t] env=[(false,assign t env)]) (fun _ _=>⟨rfl,rfl⟩) (fun _ _ _=>⟨rfl,rfl⟩) (fun _ _ _=>⟨rfl,rfl⟩) h1
 rw [hs,hw.1,hw.2]
 rfl
end Mine
open PySem PySem.W PyProof.Rows
namespace Mine
structure AEnv where
 scope:Scope
 loc:Nat
 cells:List (Str × Nat)
 code:Value
 /-- the frame's id -/
 frm:Nat
structure EnvOk (X:Ctx) (ae:AEnv) (env:Env) (n:Nat) (ρ:Rho):Prop where
 sc:env.scope=ae.scope
 fn:ae.scope.kind = .function
 loc:env.locals=ρ ae.loc
 ll:ae.loc < n
 cells:env.cells=mapCl ρ ae.cells
 cl:∀ p ∈ ae.cells,p.2 < n
 gl:env.globals=mainGlobals
 bi:env.builtins=builtinsNs
 fr:env.frame=some (ρ ae.frm)
 fl:ae.frm < n
 top:∃ e r,X.fr=e :: r∧e.2=ae.frm
 cd:ae.code = .none ∨ env.code=ae.code
noncomputable def EnvK (X:Ctx) (ae:AEnv) (env:Env):Kn where
 p n ρ F:=EnvOk X ae env n ρ
 mono hn hρ hF g:=⟨g.sc,g.fn,by rw [hρ _ g.ll]; exact g.loc,Nat.lt_of_lt_of_le g.ll hn,by rw [mapCl_eq fun p hp=>hρ _ (g.cl p hp)]; exact g.cells,fun p hp=>Nat.lt_of_lt_of_le (g.cl p hp) hn,g.gl,g.bi,by rw [hρ _ g.fl]; exact g.fr,Nat.lt_of_lt_of_le g.fl hn,g.top,g.cd⟩
noncomputable def ofStatic (v:Value):AV:=match v with
 | .int i _=>.int i
 | .str x _=>.str x
 | .bool b=>.bool b
 | v=>.val v
theorem den_ofStatic {n:Nat} {ρ:Rho} {F:Fz} (v:Value):Den n ρ F (ofStatic v) v:=by
 cases v <;> first | exact .val _ | exact .int _ _ | exact .str _ _ | exact .bool _
noncomputable def setNs:List (Str × AV)→Str→AV→List (Str × AV)
 | [],x,v=>[(x,v)]
 | p :: r,x,v=>match p.1 == x with
  | true=>(x,v) :: r
  | false=>p :: setNs r x v
theorem setNs_look (x:Str) (v:AV) (y:Str):∀ m:List (Str × AV),(setNs m x v).lookup y=if y == x then some v else m.lookup y
 | []=>by
  show List.lookup y [(x,v)]=_
  rw [List.lookup_cons]
  cases y == x <;> rfl
 | p :: m=>by
  unfold setNs
  rw [List.lookup_cons]
  cases e:p.1 == x with
  | true =>
   rw [eq_of_beq e]
   show List.lookup y ((x,v) :: m)=_
   rw [List.lookup_cons]
   cases y == x <;> rfl
  | false =>
   show List.lookup y (p :: setNs m x v)=_
   rw [List.lookup_cons,setNs_look x v y m]
   cases h:y == p.1 with
   | true=>rw [eq_of_beq h,e]; rfl
   | false=>rfl
theorem NsDen.set {n:Nat} {ρ:Rho} {F:Fz} {m:List (Str × AV)} {f:Str→Option Value} (x:NsDen n ρ F m f) {nm:Str} {av:AV} {v:Value} (d:Den n ρ F av v) :
  NsDen n ρ F (setNs m nm av) (fun y=>if y=nm then some v else f y):=by
 intro y w h
 rw [setNs_look] at h
 by_cases e:y=nm
 ·rw [e,beq_self_eq_true,if_pos rfl] at h
  exact ⟨v,if_pos e,Option.some.inj h ▸ d⟩
 ·rw [if_neg fun q=>e (eq_of_beq q)] at h
  simp only [if_neg e]
  exact x y w h
noncomputable def bNames:List (Str × Value):=[("len",.builtin "len"),("range",.type "range"),("next",.builtin "next"),("iter",.builtin "iter"),("enumerate",.type "enumerate"),("str",.type "str"),
 ("isinstance",.builtin "isinstance"),("divmod",.builtin "divmod"),("list",.type "list"),("reversed",.type "reversed"),("all",.builtin "all"),("repr",.builtin "repr"),("type",.type "type")]
structure Lib (X:Ctx):Prop where
 names:∀ x v,bNames.lookup x=some v→X.mb x=some v
 nm:∃ v,peek X.K ⟨X.prog,X.w.params⟩ (nsGet mainGlobals "__name__")=some v
noncomputable def globalIn (K:Frag) (x:Str):Option (Option Value):=(K.lookup mainGlobals).bind (lookIn x)
noncomputable def globalV (K:Frag) (x:Str):Option Value:=onSome (globalIn K x) (fun o=>onSome o some (bNames.lookup x)) none
noncomputable def eGlobal (K:Frag) (x:Str):Option AV:=(globalV K x).map ofStatic
noncomputable def cellOf (ae:AEnv) (x:Str):EM AV:=EM.bind (EM.opt (ae.cells.lookup x)) fun i=>EM.bind (EM.cellAs asBox i) EM.opt
noncomputable def nameBy (K:Frag) (ae:AEnv) (x:Str) (k:NameKind):EM AV:=match k with
 | .local=>EM.bind (EM.cellAs asNs ae.loc) fun m=>EM.opt (m.lookup x)
 | .cell=>cellOf ae x
 | .free=>_root_.cond (x == ("__classdict__" : Str)) EM.fail (cellOf ae x)
 | .globalExplicit=>EM.fail
 | .globalImplicit=>EM.opt (eGlobal K x)
noncomputable def eName (K:Frag) (ae:AEnv) (x:Str):EM AV:=_root_.cond (x == ("__debug__" : Str)) EM.fail (onSome (ae.scope.names.lookup x) (nameBy K ae x) EM.fail)
theorem lookup_map {β γ:Type} (f:β→γ) (x:Str):∀ l:List (Str × β),(l.map fun p=>(p.1,f p.2)).lookup x=(l.lookup x).map f
 | []=>rfl
 | p :: l=>by
  rw [List.map_cons,List.lookup_cons,List.lookup_cons,lookup_map f x l]
  cases x == p.1 <;> rfl
section
variable {X:Ctx} {A:Around} {ρ:Rho} {F:Fz} {σ:St} {s:Shared} {Γ:Kn} {ae:AEnv} {env:Env} {x:Str}
theorem ns_look {h:Heap} {a:Addr} {o:Obj} {x:Str} {r:Option Value} (ho:h.get? a=some o) (e:lookIn x o=some r) {Q:Option Value→Shared→Prop} {M:Model} {A:Around} {E:Value→Shared→Prop} {s:Shared} (hs:s.heap=h)
  (q:Q r s):wpAny M A (nsGet a x) Q E s:=by
 unfold nsGet
 refine wpAny_bind (wpAny_loadPart (hs ▸ ho) ?_)
 rw [nsLook_of e]
 exact wpAny_pure q
theorem EnvOk.fk {n:Nat} (g:EnvOk X ae env n ρ):env.scope.kind = .function:=g.sc ▸ g.fn
theorem EnvOk.cell {n:Nat} (g:EnvOk X ae env n ρ) {i:Nat} (h:ae.cells.lookup x=some i):env.cells.lookup x=some (ρ i):=by rw [g.cells,mapCl,lookup_map,h]; rfl
theorem EnvOk.kind {n:Nat} (g:EnvOk X ae env n ρ) {k:NameKind} (h:ae.scope.names.lookup x=some k):env.kindOf x=some k:=by unfold Env.kindOf; rw [g.sc]; exact h
theorem RunAt.boxV {C:AV→St→Prop} (I:Inv X ρ F σ s) (g:EnvOk X ae env σ.n ρ) (H:∀ i w v,env.cells.lookup x=some (ρ i)→s.heap.IsCell (ρ i) (some w)→Den σ.n ρ F v w→C v σ):RunAt σ (cellOf ae x) C :=
 RunAt.opt fun i hi=>RunAt.cellAs asBox_some fun o ho=>RunAt.optE fun v hv=>(I.atB ho).elim fun w h=>by
  rw [hv] at h
  exact h.2.elim fun u hu=>H i u v (g.cell hi) (hu.1 ▸ h.1) hu.2
theorem global_is (L:Lib X) (I:Inv X ρ F σ s) (g:EnvOk X ae env σ.n ρ) {v:Value} (hv:globalV X.K x=some v) {Q:Value→Shared→Prop} {E:Value→Shared→Prop} (q:Q v s):wpAny (model X.prog X.w) A (loadGlobal env x) Q E s:=by
 unfold loadGlobal
 rw [g.gl,g.bi]
 unfold globalV at hv
 cases hg:globalIn X.K x with
 | none=>rw [hg] at hv; exact noneOf hv
 | some o =>
  rw [hg] at hv
  refine (Option.bind_eq_some_iff.mp hg).elim fun ob h=>wpAny_bind (ns_look (I.Kin _ _ h.1) h.2 rfl ?_)
  cases o with
  | some w=>exact wpAny_pure (Option.some.inj hv ▸ q)
  | none =>
   refine wpAny_bind (wpAny_nsGet (I.ns I.base.mb) ?_)
   rw [L.names _ _ hv]
   exact wpAny_pure q
theorem Sim.loadN (L:Lib X) (x:Str):Sim X A (EnvK X ae env) RDen (eName X.K ae x) (loadName env x):=by
 unfold eName
 cases hd:x == ("__debug__" : Str) with
 | true=>exact Sim.fail
 | false =>
  cases hl:ae.scope.names.lookup x with
  | none=>exact Sim.fail
  | some k =>
   refine Sim.ofRun fun σ ρ F s I g=>?_
   have hl':=EnvOk.kind g hl
   cases k with
   | «local»=>exact RunAt.cellAs asNs_some fun m hm=>RunAt.optE fun v hv=>(I.atNs hm).elim fun f h=>(h.2 x v hv).elim fun w hw=>Goes.same I fun Q E q=>wpAny_loadName_local (EnvOk.fk g) hl' (by rw [EnvOk.loc g]; exact h.1) hw.1 (q w hw.2)
   | cell=>exact RunAt.boxV I g fun i w v hc hb d=>Goes.same I fun Q E q=>wpAny_loadName_cell (EnvOk.fk g) hl' hc hb (q w d)
   | free =>
    show RunAt σ (_root_.cond (x == ("__classdict__" : Str)) EM.fail (Mine.cellOf ae x)) _
    cases hn:x == ("__classdict__" : Str) with
    | true=>exact RunAt.fail
    | false=>exact RunAt.boxV I g fun i w v hc hb d=>Goes.same I fun Q E q=>wpAny_loadName_free (EnvOk.fk g) hl' hc hb (q w d) hn
   | globalExplicit=>exact RunAt.fail
   | globalImplicit =>
    refine RunAt.optE fun v hv=>(Option.map_eq_some_iff.mp hv).elim fun w hw=>Goes.same I fun Q E q=>?_
    unfold loadName
    simp only [Env.blockKind,EnvOk.fk g,hl',ScopeKind.isAnnotationScope,Bool.false_and,Bool.false_eq_true,if_false]
    exact global_is L I g hw.1 (q w (hw.2 ▸ den_ofStatic w))
theorem Sim.name (L:Lib X) (x:Str) (pos:Pos):Sim X A (EnvK X ae env) RDen (eName X.K ae x) (eval (.Name x pos) env):=by
 intro ev b ev' cs e hc ρ F s I g Q E hQ
 refine wpAny_Name (Sim.loadN L x ev b ev' cs e hc ρ F s I g Q E hQ) ?_
 unfold eName at e
 cases hd:x == ("__debug__" : Str) with
 | true=>rw [hd] at e; exact noneOf e
 | false=>rfl
section
variable (ae:AEnv) (x:Str) (v:AV)
noncomputable def setBox:EM Unit:=EM.bind (EM.opt (ae.cells.lookup x)) fun i=>EM.bind (EM.cellAs asBox i) fun _=>EM.upd fun σ=>σ.set i (.box (some v))
noncomputable def bindBy (k:NameKind):EM Unit:=match k with
 | .local=>EM.bind (EM.cellAs asNs ae.loc) fun m=>EM.upd fun σ=>σ.set ae.loc (.ns (setNs m x v))
 | .cell=>setBox ae x v
 | .free=>setBox ae x v
 | .globalExplicit=>EM.fail
 | .globalImplicit=>EM.fail
noncomputable def eBind:EM Unit:=onSome (ae.scope.names.lookup x) (bindBy ae x v) EM.fail
end
theorem RunAt.setBox {av:AV} {v:Value} {C:Unit→St→Prop} (I:Inv X ρ F σ s) (g:EnvOk X ae env σ.n ρ) (dv:Den σ.n ρ F av v) (H:∀ i v₀ σ',env.cells.lookup x=some (ρ i)→s.heap.IsCell (ρ i) v₀→(∀ h',h'.IsCell (ρ i) (some v)→Heap.SameBut (ρ i) s.heap h'→Inv X ρ F σ' { s with heap:=h' }∧Stp ρ F σ s ρ F σ' { s with heap:=h' })→C () σ'):RunAt σ (setBox ae x av) C :=
 RunAt.opt fun i hi=>RunAt.cellAs asBox_some fun o ho=>RunAt.updE ((I.atB ho).elim fun w h=>H i w _ (g.cell hi) h.1 fun h' hc hs=>I.set (c':=.box (some av)) ho hs.extBut (.ofBox hc ⟨v,rfl,dv⟩) s.toks)
theorem Sim.store {av:AV} {v:Value} (hg:Γ.le (EnvK X ae env)) (hv:Γ.le (RDen av v)):Sim X A Γ (fun _ _=>Kn.top) (eBind ae x av) (storeName env x v):=by
 unfold eBind
 cases hl:ae.scope.names.lookup x with
 | none=>exact Sim.fail
 | some k =>
  refine Sim.ofRun fun σ ρ F s I q=>?_
  have g:=hg _ _ _ q
  have dv:=hv _ _ _ q
  have hl':=EnvOk.kind g hl
  cases k with
  | «local» =>
   show RunAt σ (EM.bind (EM.cellAs asNs ae.loc) fun m=>EM.upd fun σ=>σ.set ae.loc (.ns (setNs m x av))) _
   exact RunAt.cellAs asNs_some fun m hm=>RunAt.updE ((I.atNs hm).elim fun f h=>Goes.to fun Q E hQ=>wpAny_storeName_local hl' (by rw [EnvOk.loc g]; exact h.1) (fun h' hn hs=>hQ () _ ρ F trivial (by
    rw [EnvOk.loc g] at hn hs
    exact I.set hm hs.extBut (.ofNs hn (NsDen.set h.2 dv)) (s.toks + 1))) (by rw [EnvOk.fk g]; rfl))
  | cell=>exact RunAt.setBox I g dv fun i v₀ σ' hc hb st=>Goes.to fun Q E hQ=>wpAny_storeName_cell (EnvOk.fk g) hl' hc hb fun h' h1 h2=>hQ () _ ρ F trivial (st h' h1 h2)
  | free=>exact RunAt.setBox I g dv fun i v₀ σ' hc hb st=>Goes.to fun Q E hQ=>storeName_free (EnvOk.fk g) hl' hc hb fun h' h1 h2=>hQ () _ ρ F trivial (st h' h1 h2)
  | globalExplicit=>exact RunAt.fail
  | globalImplicit=>exact RunAt.fail
noncomputable def eConst (c:Const):EM AV:=match c with
 | .none=>EM.ret (.val .none)
 | .bool b=>EM.ret (.bool b)
 | .int i=>EM.ret (.int i)
 | .str x=>EM.ret (.str x)
 | _=>EM.fail
theorem Sim.fresh {β:Type} {R:β→Value→Kn} {x:EM β} {f:Tok→Value} (h:∀ t,Sim X A Γ R x (pure (f t))):Sim X A Γ R x (do return f (← PySem.fresh)) :=
 fun ev b ev' cs e hc ρ F s I g Q E hQ=>wpAny_bind (wpAny_fresh (h s.toks ev b ev' cs e hc ρ F { s with toks:=s.toks + 1 } (I.toks _) g Q E fun v s' ρ' F' r I' st=>hQ v s' ρ' F' r I' ((Stp.toks I.ids _).trans st)))
theorem Sim.const (c:Const) (k:Nat) (pos:Pos):Sim X A Γ RDen (eConst c) (eval (.Constant c k pos) env):=by
 rw [eval_Constant]
 cases c with
 | none=>exact Sim.ret fun _ _ _ _=>rfl
 | bool b=>exact Sim.ret fun _ _ _ _=>rfl
 | int i=>exact Sim.fresh fun t=>Sim.ret fun _ _ _ _=>⟨_,rfl⟩
 | str x=>exact Sim.fresh fun t=>Sim.ret fun _ _ _ _=>⟨_,rfl⟩
 | _=>exact Sim.fail
end
noncomputable def typC (c:Cell):Option Value:=onCList c (fun _=>some (.type "list")) <| onCInst c (fun C _=>some (.ref C)) <| onCLiter c (fun _ _=>some (.type "list_iterator")) <| onCExc c (fun C _ _=>some (.ref C)) <| onCRaw c (fun o=>some o.cls) <| onCLend c (some (.type "list_iterator")) <| onCMap c (fun _ _=>some (.type "dict")) none
noncomputable def typ (K:Frag) (σ:St) (av:AV):Option Value:=onInt av (fun _=>some (.type "int")) <| onStr av (fun _=>some (.type "str")) <| onBool av (fun _=>some (.type "bool")) <| onTup av (fun _=>some (.type "tuple")) <|
 onObj av (fun C _=>some (.ref C)) <| onSlo av (fun C _=>some (.ref C)) <| onClo av (fun _ _ _ _ _=>some (.type "function")) <| onVal av (fun v=>typeIn K v) <| onRef av (fun i=>(σ.get i).bind typC) <| onLst av (fun _=>some (.type "list")) none
section
variable {X:Ctx} {A:Around} {ρ:Rho} {F:Fz} {σ:St} {s:Shared} {Γ:Kn}
theorem typC_is {n:Nat} {a:Addr} {h:Heap} {c:Cell} {T:Value}:typC c=some T→CellAt n ρ F h a c→∃ o,h.get? a=some o∧o.cls=T :=
 onCList_ind (P:=fun x c=>x=some T→CellAt n ρ F h a c→∃ o,h.get? a=some o∧o.cls=T) (fun xs e x=>x.ex fun o h1 (h2:∃ vs k,o=oList vs k∧Dens n ρ F xs vs)=>⟨o,h1,h2.elim fun vs q=>q.elim fun k q=>q.1 ▸ Option.some.inj e⟩) <|
 onCInst_ind (P:=fun x c=>x=some T→CellAt n ρ F h a c→∃ o,h.get? a=some o∧o.cls=T) (fun C d e x=>x.ex fun o h1 (h2:o=oInst C (ρ d)∧d < n)=>⟨o,h1,h2.1 ▸ Option.some.inj e⟩) <|
 onCLiter_ind (P:=fun x c=>x=some T→CellAt n ρ F h a c→∃ o,h.get? a=some o∧o.cls=T) (fun l k e x=>x.ex fun o h1 (h2:o=oIter (.ref (ρ l)) k∧l < n)=>⟨o,h1,h2.1 ▸ Option.some.inj e⟩) <|
 onCExc_ind (P:=fun x c=>x=some T→CellAt n ρ F h a c→∃ o,h.get? a=some o∧o.cls=T) (fun C d t e x=>x.ex fun o h1 (h2:ExcO n ρ C d t o)=>⟨o,h1,by cases h2 with | mk vs e2=>rw [e2]; exact Option.some.inj e⟩) <|
 onCRaw_ind (P:=fun x c=>x=some T→CellAt n ρ F h a c→∃ o,h.get? a=some o∧o.cls=T) (fun r e x=>x.ex fun o h1 (h2:o=r)=>⟨o,h1,h2 ▸ Option.some.inj e⟩) <|
 onCLend_ind (P:=fun x c=>x=some T→CellAt n ρ F h a c→∃ o,h.get? a=some o∧o.cls=T) (fun e x=>x.ex fun o h1 (h2:∃ k,o=oIter .none k)=>⟨o,h1,h2.elim fun k q=>q ▸ Option.some.inj e⟩) <|
 onCMap_ind (P:=fun x c=>x=some T→CellAt n ρ F h a c→∃ o,h.get? a=some o∧o.cls=T) (fun hs m e x=>x.ex fun o h1 (h2:MapO n ρ F hs m o)=>⟨o,h1,by cases h2 with | mk kvs es ep hx=>exact hx.1.trans (Option.some.inj e)⟩) fun e=>noneOf e
theorem looks_cls {M:Model} {h:Heap} {a:Addr} {v T:Value} (e:v = .ref a) (x:∃ o,h.get? a=some o∧o.cls=T):Looks M h (typeOf v) T:=x.elim fun o q=>e ▸ q.2 ▸ (Looks.ld q.1).andThen .now
theorem typ_looks (I:Inv X ρ F σ s) {M:Model} {av:AV} {v T:Value} (d:Den σ.n ρ F av v) (h:typ X.K σ av=some T):Looks M s.heap (typeOf v) T:=by
 cases av with
 | val w=>exact (show v=w from d) ▸ looks_typeIn I.Kin h
 | bool b=>exact (show v = .bool b from d) ▸ Option.some.inj h ▸ Looks.of_pure rfl
 | int i=>exact (den_int d).elim fun t e=>e ▸ Option.some.inj h ▸ Looks.of_pure rfl
 | str x=>exact (den_str d).elim fun t e=>e ▸ Option.some.inj h ▸ Looks.of_pure rfl
 | ref i=>exact (Option.bind_eq_some_iff.mp (show (σ.get i).bind typC=some T from h)).elim fun c q=>looks_cls (den_ref d).1 (typC_is q.2 (I.at q.1))
 | tup xs=>cases den_tup d with | mk a vs k e ha=>exact looks_cls e ⟨_,I.froz _ _ ha,Option.some.inj h⟩
 | lst xs=>cases den_lst d with | mk a vs k e ha=>exact looks_cls e ⟨_,I.froz _ _ ha,Option.some.inj h⟩
 | obj C fs=>cases den_obj d with | mk a d od es k e ha=>exact looks_cls e ⟨_,I.froz _ _ ha,Option.some.inj h⟩
 | slo C fs=>cases den_slo d with | mk a d od vs e ha=>exact looks_cls e ⟨_,I.froz _ _ ha,Option.some.inj h⟩
 | clo a b c e f=>cases (show dClo σ.n ρ F a b c e f v from d) with | mk a qual o pm code ct e ha hc=>exact looks_cls e ⟨_,I.froz _ _ ha,hc.trans (Option.some.inj h)⟩
noncomputable def isNN (o:Option (Option Value)):Bool:=onSome o (fun v=>onSome v (fun _=>false) true) false
theorem isNN_ok {o:Option (Option Value)} (h:isNN o=true):o=some none:=by
 rcases o with _ | _ | v
 ·exact ff h
 ·rfl
 ·exact ff h
noncomputable def noTruth (K:Frag) (T:Value):Bool:=isNN (findIn K T "__bool__") && isNN (findIn K T "__len__")
theorem truthy_open (I:Inv X ρ F σ s) {M:Model} {av:AV} {v:Value} {a:Addr} {T:Value} (d:Den σ.n ρ F av v) (ha:v = .ref a) (h:typ X.K σ av=some T) (hb:Looks M s.heap (typeLookup T "__bool__") none) (hl:Looks M s.heap (typeLookup T "__len__") none)
  {Q:Bool→Shared→Prop} {E:Value→Shared→Prop} (q:Q true s):wpAny M A (truthy v) Q E s:=by
 have T1:=typ_looks (M:=M) I d h
 rw [ha] at T1 ⊢
 unfold truthy
 refine wpAny_bind (m:=callSpecial? (.ref a) (Str.ofString "__bool__")) (wpAny_bind (wpAny_bind (T1.here (hb.here (wpAny_pure ?_)))))
 refine wpAny_bind (wpAny_bind (T1.here (hl.here ?_)))
 exact wpAny_pure q
theorem truthy_cls (I:Inv X ρ F σ s) {av:AV} {v:Value} {a:Addr} {C:Addr} (d:Den σ.n ρ F av v) (ha:v = .ref a) (h:typ X.K σ av=some (.ref C)) (hn:noTruth X.K (.ref C)=true):Goes X A ρ F σ s (truthy v) (REq true) σ:=by
 rw [noTruth,Bool.and_eq_true] at hn
 exact Goes.same I fun Q E q=>truthy_open I d ha h (looks_findIn I.Kin (isNN_ok hn.1)) (looks_findIn I.Kin (isNN_ok hn.2)) (q true rfl)
noncomputable def truthC (K:Frag) (c:Cell):EM Bool:=onCList c (fun xs=>EM.retIf (xs.length < 2 ^ 62) (!xs.isEmpty)) <| onCInst c (fun C _=>EM.retB (noTruth K (.ref C)) true) EM.fail
noncomputable def eTruth (K:Frag) (av:AV):EM Bool:=onBool av EM.ret <| onInt av (fun i=>EM.ret (i != 0)) <| onRef av (fun i=>EM.bind (EM.cell i) (truthC K)) <|
 onStr av (fun x=>EM.retIf ((x.length:Int) < 2 ^ 63) ((x.length:Int) != 0)) <| onObj av (fun C _=>EM.retB (noTruth K (.ref C)) true) <| onSlo av (fun C _=>EM.retB (noTruth K (.ref C)) true) <|
 onClo av (fun _ _ _ _ _=>EM.ret true) <| onVal av (fun v=>onVNone v (EM.ret false) EM.fail) EM.fail
theorem fn_bool:typeLookup (.type "function") "__bool__" = pure none:=by kernel_rfl
theorem fn_len:typeLookup (.type "function") "__len__" = pure none:=by kernel_rfl
theorem Dens.length {n:Nat}:∀ {xs:List AV} {vs:List Value},Dens n ρ F xs vs→xs.length=vs.length
 | [],_,d=>dens_n d ▸ rfl
 | _ :: _,_,d=>dens_c (P:=fun vs=>_ + 1=vs.length) (fun _ _ _ hs=>congrArg (· + 1) (Dens.length hs)) d
theorem small62 {n:Nat} (h:n < 2 ^ 62):(n:Int) < 2 ^ 63:=by omega
theorem truthy_lst (I:Inv X ρ F σ s) {i:Nat} {xs:List AV} (hx:σ.get i=some (.list xs)) (h:xs.length < 2 ^ 62):Goes X A ρ F σ s (truthy (.ref (ρ i))) (REq (!xs.isEmpty)) σ :=
 (I.atL hx).elim fun vs q=>q.elim fun k q=>Goes.tok I fun Q E hQ=>by
  refine wpAny_truthy_list ⟨_,q.1,rfl,k,rfl⟩ (by rw [List.size_toArray,← q.2.length]; exact small62 h) ?_
  have:(!vs.toArray.isEmpty)=(!xs.isEmpty):=by
   have:=q.2.length
   cases xs <;> cases vs <;> first | rfl | cases this
  rw [this]
  exact hQ _ _ rfl
theorem Sim.truth {av:AV} {v:Value} (hv:Γ.le (RDen av v)):Sim X A Γ REq (eTruth X.K av) (truthy v):=by
 refine Sim.ofRun fun σ ρ F s I g=>?_
 have d:Den σ.n ρ F av v:=hv _ _ _ g
 cases av with
 | bool b=>exact RunAt.ret (Goes.same I fun Q E q=>(show v = .bool b from d) ▸ wpAny_truthy_bool (q b rfl))
 | int i=>exact RunAt.ret (Goes.same I fun Q E q=>(den_int d).elim fun t e=>e ▸ P.truthy_int (q _ rfl))
 | ref i =>
  have d':=(den_ref d).1
  rw [d']
  show RunAt σ (EM.bind (EM.cell i) (truthC X.K)) _
  refine RunAt.cell fun c=>onCList_ind (P:=fun x c=>σ.get i=some c→RunAt σ x fun b σ'=>Goes X A ρ F σ s (truthy (.ref (ρ i))) (REq b) σ') (fun xs hx=>RunAt.retIf fun h=>truthy_lst I hx h) <|
   onCInst_ind (P:=fun x c=>σ.get i=some c→RunAt σ x fun b σ'=>Goes X A ρ F σ s (truthy (.ref (ρ i))) (REq b) σ') (fun C e hx=>RunAt.retB fun h=>truthy_cls I (av:=.ref i) (d' ▸ d) rfl (show (σ.get i).bind typC=_ by rw [hx]; rfl) h) fun _=>RunAt.fail
 | str x =>
  show RunAt σ (EM.retIf ((x.length:Int) < 2 ^ 63) ((x.length:Int) != 0)) _
  exact RunAt.retIf fun h=>Goes.tok I fun Q E q=>(den_str d).elim fun t e=>e ▸ P.truthy_str (Int.not_le.mpr h) (q _ _ rfl)
 | obj C fs =>
  show RunAt σ (EM.retB (noTruth X.K (.ref C)) true) _
  exact RunAt.retB fun h=>by cases den_obj d with | mk a d' od es k e ha=>exact truthy_cls I d e rfl h
 | slo C fs =>
  show RunAt σ (EM.retB (noTruth X.K (.ref C)) true) _
  exact RunAt.retB fun h=>by cases den_slo d with | mk a d' od vs e ha=>exact truthy_cls I d e rfl h
 | clo a b c e f=>exact RunAt.ret (by cases (show dClo σ.n ρ F a b c e f v from d) with | mk a qual o pm code ct e ha hc=>exact Goes.same I fun Q E q=>truthy_open I d e rfl (Looks.of_pure fn_bool) (Looks.of_pure fn_len) (q true rfl))
 | lst xs=>exact RunAt.fail
 | val w=>exact onVNone_ind (P:=fun (x:EM Bool) w=>v=w→RunAt σ x fun b σ'=>Goes X A ρ F σ s (truthy v) (REq b) σ') (fun e=>RunAt.ret (Goes.same I fun Q E q=>e ▸ wpAny_pure (q false rfl))) (fun _=>RunAt.fail) d
 | tup xs=>exact RunAt.fail
end
section
variable {n:Nat} {ρ:Rho} {F:Fz}
theorem DenEs.find (x:Str):∀ {fs:List (Str × AV)} {es:List DictEntry},DenEs n ρ F fs es→(fs.lookup x=none→es.find? (·.key.isStr x)=none)∧∀ av,fs.lookup x=some av→∃ e,es.find? (·.key.isStr x)=some e∧Den n ρ F av e.val
 | [],es,d=>by rw [show es=[] from d]; exact ⟨fun _=>rfl,fun _ h=>noneOf h⟩
 | _ :: _,[],d=>d.elim
 | p :: fs,e :: es,d=>by
  have ih:=DenEs.find x d.2
  have hk:e.key.isStr x=(x == p.1):=d.1.1.elim fun t q=>by rw [q]; exact Bool.beq_comm
  rw [List.lookup_cons,List.find?_cons,hk]
  cases x == p.1 with
  | true=>exact ⟨fun h=>(nomatch h),fun av h=>⟨e,rfl,Option.some.inj h ▸ d.1.2⟩⟩
  | false=>exact ih
theorem DenEs.noRef:∀ {fs:List (Str × AV)} {es:List DictEntry},DenEs n ρ F fs es→es.any (·.refKey)=false
 | [],es,d=>by rw [show es=[] from d]; rfl
 | _ :: _,[],d=>d.elim
 | p :: fs,e :: es,d=>by
  rw [List.any_cons,DenEs.noRef d.2,Bool.or_false]
  exact d.1.1.elim fun t q=>by unfold DictEntry.refKey; rw [q]
theorem DenEs.len:∀ {fs:List (Str × AV)} {es:List DictEntry},DenEs n ρ F fs es→es.length=fs.length
 | [],es,d=>by rw [show es=[] from d]; rfl
 | _ :: _,[],d=>d.elim
 | p :: fs,e :: es,d=>congrArg (· + 1) (DenEs.len d.2)
theorem lookIn_dict {es:List DictEntry} {o:Obj} {k:Nat} (ho:o.data = .dict es.toArray k) (hr:es.any (·.refKey)=false) (x:Str):lookIn x o=some ((es.find? (·.key.isStr x)).map (·.val)):=by
 unfold lookIn
 rw [ho]
 dsimp only
 cases es.find? (·.key.isStr x) with
 | some e=>rfl
 | none =>
  dsimp only
  rw [hr]
  rfl
theorem lookIn_no {fs:List (Str × AV)} {es:List DictEntry} (d:DenEs n ρ F fs es) {o:Obj} {k:Nat} (ho:o.data = .dict es.toArray k) {x:Str} (h:fs.lookup x=none):lookIn x o=some none:=by
 rw [lookIn_dict ho d.noRef,(d.find x).1 h]; rfl
theorem lookIn_es {fs:List (Str × AV)} {es:List DictEntry} (d:DenEs n ρ F fs es) {o:Obj} {k:Nat} (ho:o.data = .dict es.toArray k) {x:Str} {av:AV} (h:fs.lookup x=some av):∃ v,lookIn x o=some (some v)∧Den n ρ F av v :=
 ((d.find x).2 av h).imp' (·.val) fun e q=>⟨by rw [lookIn_dict ho d.noRef,q.1]; rfl,q.2⟩
theorem Dens.nth:∀ {xs:List AV} {vs:List Value},Dens n ρ F xs vs→∀ {i:Nat} {av:AV},xs[i]? = some av→∃ v,vs[i]? = some v∧Den n ρ F av v
 | [],_,_,_,_,e=>noneOf e
 | _ :: _,[],d,_,_,_=>d.elim
 | x :: xs,v :: vs,d,0,av,e=>⟨v,rfl,Option.some.inj e ▸ d.1⟩
 | x :: xs,v :: vs,d,i + 1,av,e=>Dens.nth d.2 (i:=i) e
end
noncomputable def isBuiltin (nm:String) (o:Option (Option Value)):Bool:=onSome o (fun v=>onSome v (fun w=>onVBuiltin w (fun i=>i == nm) false) false) false
theorem isBuiltin_ok {nm:String} {o:Option (Option Value)}:isBuiltin nm o=true→o=some (some (Value.builtin nm)) :=
 onSome_ind (P:=fun b (o:Option (Option Value))=>b=true→o=some (some (Value.builtin nm))) (fun v=>onSome_ind (P:=fun b (v:Option Value)=>b=true→some v=some (some (Value.builtin nm))) (fun w=>onVBuiltin_ind (P:=fun b (w:Value)=>b=true→some (some w)=some (some (Value.builtin nm))) (fun i h=>by rw [eq_of_beq h]) ff) ff) ff
noncomputable def hasDictIn (K:Frag) (C:Addr):Bool:=onSome (clsIn K C) (fun cd=>cd.hasDict) false
theorem hasDict_ok {K:Frag} {C:Addr} (h:hasDictIn K C=true):∃ cd,clsIn K C=some cd∧cd.hasDict=true:=by
 unfold hasDictIn at h
 cases e:clsIn K C with
 | none=>rw [e] at h; exact ff h
 | some cd=>rw [e] at h; exact ⟨cd,rfl,h⟩
noncomputable def plainGet (K:Frag) (C:Addr):Bool:=isBuiltin "object.__getattribute__" (findIn K (.ref C) "__getattribute__") && hasDictIn K C
noncomputable def okV (av:AV):Bool:=onVal av handedIn true
theorem okV_handed {n:Nat} {ρ:Rho} {F:Fz} {av:AV} {v:Value} (d:Den n ρ F av v) (h:okV av=true):handedIn v=true:=by
 cases av with
 | val w=>rw [show v=w from d]; exact h
 | bool b=>rw [show v = .bool b from d]; rfl
 | int i=>exact (den_int d).elim fun t e=>e ▸ rfl
 | str x=>exact (den_str d).elim fun t e=>e ▸ rfl
 | ref i=>exact d.1 ▸ rfl
 | tup xs=>cases den_tup d with | mk a vs k e=>rw [e]; rfl
 | lst xs=>cases den_lst d with | mk a vs k e=>rw [e]; rfl
 | obj C fs=>cases den_obj d with | mk a d' od es k e=>rw [e]; rfl
 | slo C fs=>cases den_slo d with | mk a d' od vs e=>rw [e]; rfl
 | clo a b c e f=>cases (show dClo n ρ F a b c e f v from d) with | mk a qual o pm code ct e=>rw [e]; rfl
noncomputable def okAV (o:Option AV):Option AV:=o.bind fun av=>_root_.cond (okV av) (some av) none
theorem okAV_ok {o:Option AV} {av:AV} (h:okAV o=some av):o=some av∧okV av=true:=(Option.bind_eq_some_iff.mp h).elim fun a q=>by
 cases e:okV a with
 | true=>rw [e] at q; rw [← Option.some.inj q.2]; exact ⟨q.1,e⟩
 | false=>rw [e] at q; exact noneOf q.2
noncomputable def attrIf (b:Bool) (K:Frag) (C:Addr) (fs:List (Str × AV)) (x:Str):Option AV:=_root_.cond (b && isNN (findIn K (.ref C) x)) (okAV (fs.lookup x)) none
noncomputable def attrOf (K:Frag) (C:Addr) (fs:List (Str × AV)) (x:Str):Option AV:=attrIf (plainGet K C) K C fs x
noncomputable def excGet (K:Frag) (C:Addr):Bool:=(isBuiltin "BaseException.__getattribute__" (findIn K (.ref C) "__getattribute__") && isNN (findIn K (.ref C) "__getattr__")) && (hasDictIn K C && (mroIn K C (.type "BaseException") == some true))
noncomputable def attrExc (K:Frag) (C:Addr) (fs:List (Str × AV)) (x:Str):Option AV:=attrIf (excGet K C) K C fs x
theorem attrIf_ok {b:Bool} {K:Frag} {C:Addr} {fs:List (Str × AV)} {x:Str} {av:AV} (h:attrIf b K C fs x=some av):(b=true∧findIn K (.ref C) x=some none)∧fs.lookup x=some av∧okV av=true:=by
 unfold attrIf at h
 cases e:(b && isNN (findIn K (.ref C) x)) with
 | true=>rw [e] at h; rw [Bool.and_eq_true] at e; exact ⟨⟨e.1,isNN_ok e.2⟩,okAV_ok h⟩
 | false=>rw [e] at h; exact noneOf h
theorem findObj_own {K:Frag} {C:Addr} {od:Obj} {x:Str} {v:Value} (hd:hasDictIn K C=true) (hf:findIn K (.ref C) x=some none) (hl:lookIn x od=some (some v)) :
  findObj K C (some od) x=some (.value v):=(hasDict_ok hd).elim fun cd h=>by
 unfold findObj
 rw [h.1,Option.bind_some,hf,Option.bind_some]
 dsimp only
 rw [Option.bind_some,Option.bind_some]
 unfold PySem.W.ownOf
 rw [h.2]
 dsimp only
 rw [if_pos rfl,hl,Option.bind_some]
noncomputable def noDictIn (K:Frag) (C:Addr):Bool:=onSome (clsIn K C) (fun cd=>!cd.hasDict) false
theorem findObj_noDict {K:Frag} {C:Addr} (h:noDictIn K C=true) (od:Option Obj) (x:Str):findObj K C od x=findObj K C none x:=by
 unfold noDictIn at h
 unfold findObj
 cases hc:clsIn K C with
 | none=>rfl
 | some cd =>
  rw [hc] at h
  have h':(!cd.hasDict)=true:=h
  have hd:cd.hasDict=false:=by
   cases e:cd.hasDict with
   | false=>rfl
   | true=>rw [e] at h'; exact ff h'
  simp only [Option.bind_some,PySem.W.ownOf,hd,Bool.false_eq_true,if_false]
theorem bexc_kind:builtinKind "BaseException.__getattribute__" = some .slot:=by decide +kernel
theorem bexc_split:splitId "BaseException.__getattribute__" = some ("BaseException","__getattribute__"):=by decide +kernel
theorem bexc_ne:(Value.builtin "BaseException.__getattribute__" == Value.builtin "object.__getattribute__")=false:=by decide +kernel
theorem get_exc {prog:Program} {w:World} {A:Around} {E:Value→Shared→Prop} {s:Shared} {K:Frag} {x C:Addr} {ox:Obj} {od:Option Obj} {name:Str} {expr:Bool} {Q:Value→Shared→Prop} {v:Value} (X:K.In s.heap) (I:InstAt s.heap x ox C od)
  (hga:findIn K (.ref C) "__getattribute__" = some (some (.builtin "BaseException.__getattribute__"))) (hgn:findIn K (.ref C) "__getattr__" = some none) (hsub:mroIn K C (.type "BaseException")=some true)
  (hf:findObj K C od name=some (.value v)) (hh:handedIn v=true) (h:Q v { s with toks:=s.toks + 1 }):wpAny (model prog w) A (getAttr (.ref x) name expr) Q E s:=by
 have L0:=I.type (M:=model prog w)
 have L4:Looks (model prog w) s.heap (isInstance (.ref x) (.type "BaseException")) true:=L0.andThen (looks_mroIn X hsub)
 have hx0:(expr && onTheHeap (Value.builtin "BaseException.__getattribute__"))=false:=by cases expr <;> rfl
 unfold getAttr getAttrBy
 refine wpAny_bind (wpAny_mkText (wpAny_holding (wpAny_bind (L0.at (wpAny_bind ((looks_findIn (M:=model prog w) X hga).at ?_))))))
 dsimp only
 rw [bexc_ne,Bool.and_false,if_neg (by decide)]
 unfold getAttrByItsOwn hookBefore
 rw [if_pos (by rfl)]
 refine wpAny_bind ((looks_findIn (M:=model prog w) X hgn).at (wpAny_bind (wpAny_attempt (wpAny_holding ?_))))
 unfold callGetattribute boundAndCalled
 rw [hx0,if_neg (by decide),F.excAttr_ValueError.ga.bind (.ref x)]
 refine wpAny_bind (wpAny_pure (wpAny_call ?_))
 refine codeAny_call_builtin F.excAttr_ValueError.ga.plain F.entry_bexc_ga (@check_slot (model prog w) _ _ _ "BaseException.__getattribute__" "BaseException" "__getattribute__" (.ref x) [.str name s.toks] [] _ bexc_kind bexc_split L4 (F.args_bexc_ga (.ref x) (.str name s.toks)) ?_)
 refine wpAny_bind (wpAny_pure (wpAny_bind (wpAny_pure (wpAny_bind (L0.at (wpAny_bind ((looks_find (M:=model prog w) X I hf).at ?_)))))))
 refine wpAny_pure ?_
 show wpAny _ _ (handedOut v) _ _ _
 rw [handedOut_of hh]; exact wpAny_pure h
noncomputable def slotAt (K:Frag) (C:Addr) (x:Str) (p:Addr):Option Nat:=onSome (findObj K C none x) (fun fo=>(match fo with
  | .bind (.builtin gg) (.ref q)=>_root_.cond (gg == "member_descriptor.__get__" && q == p && noDictIn K C) (slotIn K p C) none
  | _=>none)) none
noncomputable def refOf (o:Option (Option Value)):Option Addr:=onSome o (fun v=>onSome v (fun w=>onVRef w some none) none) none
theorem refOf_ok {o:Option (Option Value)} {a:Addr}:refOf o=some a→o=some (some (Value.ref a)) :=
 onSome_ind (P:=fun (b:Option Addr) (o:Option (Option Value))=>b=some a→o=some (some (Value.ref a))) (fun v=>onSome_ind (P:=fun (b:Option Addr) (v:Option Value)=>b=some a→some v=some (some (Value.ref a))) (fun w=>onVRef_ind (P:=fun (b:Option Addr) (w:Value)=>b=some a→some (some w)=some (some (Value.ref a))) (fun i h=>by rw [Option.some.inj h]) fun e=>noneOf e) fun e=>noneOf e) fun e=>noneOf e
noncomputable def sloOf (K:Frag) (C:Addr) (fs:List AV) (x:Str):Option AV:=_root_.cond (isBuiltin "object.__getattribute__" (findIn K (.ref C) "__getattribute__") && isNN (findIn K (.ref C) "__getattr__"))
 ((refOf (findIn K (.ref C) x)).bind fun p=>(slotAt K C x p).bind fun i=>okAV fs[i]?) none
noncomputable def eAttr (K:Frag) (av:AV) (x:Str):EM AV:=onRef av (fun i=>EM.bind (EM.cell i) fun c=>onCInst c (fun C d=>EM.bind (EM.cellAs asDict d) fun m=>EM.opt (attrOf K C m x)) <| onCExc c (fun C o _=>onSome o (fun d=>EM.bind (EM.cellAs asDict d) fun m=>EM.opt (attrExc K C m x)) EM.fail) EM.fail) <|
 onObj av (fun C fs=>EM.opt (attrOf K C fs x)) <| onSlo av (fun C fs=>EM.opt (sloOf K C fs x)) EM.fail
section
variable {X:Ctx} {A:Around} {ρ:Rho} {F:Fz} {σ:St} {s:Shared} {Γ:Kn}
theorem attr_raw (I:Inv X ρ F σ s) {x:Addr} {ox od:Obj} {C:Addr} {fs:List (Str × AV)} {es:List DictEntry} {k:Nat} {nm:Str} {av:AV} {v:Value} (e:v = .ref x) (J:InstAt s.heap x ox C (some od)) (hd:od.data = .dict es.toArray k) (de:DenEs σ.n ρ F fs es)
  (h:attrOf X.K C fs nm=some av) {expr:Bool}:Goes X A ρ F σ s (getAttr v nm expr) (RDen av) σ:=by
 have q:=attrIf_ok h
 have h1:=q.1.1
 rw [plainGet,Bool.and_eq_true] at h1
 exact (lookIn_es de hd q.2.1).elim fun v hv=>Goes.tok I fun Q E hQ=>e ▸ get_value I.Kin J (isBuiltin_ok h1.1) (findObj_own h1.2 q.1.2 hv.1) (okV_handed hv.2 q.2.2) (hQ v _ hv.2)
theorem attr_exc (I:Inv X ρ F σ s) {x:Addr} {ox od:Obj} {C:Addr} {fs:List (Str × AV)} {es:List DictEntry} {k:Nat} {nm:Str} {av:AV} (J:InstAt s.heap x ox C (some od)) (hd:od.data = .dict es.toArray k) (de:DenEs σ.n ρ F fs es)
  (h:attrExc X.K C fs nm=some av) {expr:Bool}:Goes X A ρ F σ s (getAttr (.ref x) nm expr) (RDen av) σ:=by
 have q:=attrIf_ok h
 have h1:=q.1.1
 rw [excGet,Bool.and_eq_true,Bool.and_eq_true,Bool.and_eq_true] at h1
 exact (lookIn_es de hd q.2.1).elim fun v hv=>Goes.tok I fun Q E hQ=>get_exc I.Kin J (isBuiltin_ok h1.1.1) (isNN_ok h1.1.2) (eq_of_beq h1.2.2) (findObj_own h1.2.1 q.1.2 hv.1) (okV_handed hv.2 q.2.2) (hQ v _ hv.2)
theorem slotAt_ok {K:Frag} {C p:Addr} {x:Str} {i:Nat} (h:slotAt K C x p=some i):(∀ od,findObj K C od x=some (.bind (.builtin "member_descriptor.__get__") (.ref p)))∧slotIn K p C=some i:=by
 unfold slotAt at h
 cases e:findObj K C none x with
 | none=>rw [e] at h; exact noneOf h
 | some fo =>
  rw [e] at h
  cases fo with
  | value v=>exact noneOf h
  | bind g q =>
   cases g <;> first | exact noneOf h | skip
   cases q <;> first | exact noneOf h | skip
   rename_i gg q
   change _root_.cond (gg == "member_descriptor.__get__" && q == p && noDictIn K C) (slotIn K p C) none=some i at h
   cases hc:(gg == "member_descriptor.__get__" && q == p && noDictIn K C) with
   | false=>rw [hc] at h; exact noneOf h
   | true =>
    rw [hc] at h
    rw [Bool.and_eq_true,Bool.and_eq_true] at hc
    exact ⟨fun od=>by rw [findObj_noDict hc.2 od,e,eq_of_beq hc.1.1,eq_of_beq hc.1.2],h⟩
  | _=>exact noneOf h
theorem attr_slo (I:Inv X ρ F σ s) {C:Addr} {fs:List AV} {nm:Str} {av:AV} {v:Value} (ds:Den σ.n ρ F (.slo C fs) v) (h:sloOf X.K C fs nm=some av) {expr:Bool}:Goes X A ρ F σ s (getAttr v nm expr) (RDen av) σ:=by
 unfold sloOf at h
 cases hc:(isBuiltin "object.__getattribute__" (findIn X.K (.ref C) "__getattribute__") && isNN (findIn X.K (.ref C) "__getattr__")) with
 | false=>rw [hc] at h; exact noneOf h
 | true =>
 rw [hc] at h
 rw [Bool.and_eq_true] at hc
 cases den_slo ds with | mk a d od vs e ha hd hs =>
 refine (Option.bind_eq_some_iff.mp h).elim fun p h=>(Option.bind_eq_some_iff.mp h.2).elim fun i h2=>?_
 have q:=slotAt_ok h2.1
 have r:=okAV_ok h2.2
 refine (hs.nth r.1).elim fun w hw=>Goes.tok I fun Q E hQ=>?_
 rw [e]
 refine get_bind I.Kin (ox:=oSlo C d (vs.map some)) (od:=some od) ⟨I.froz _ _ ha,rfl,rfl,I.froz _ _ hd⟩ (isBuiltin_ok hc.1) (q.1 _) (isNN_ok hc.2) (wpAny_call ?_)
 refine slot_get (s:={ s with toks:=s.toks + 1 }) (od:=some od) (I.toks _).Kin ⟨I.froz _ _ ha,rfl,rfl,I.froz _ _ hd⟩ q.2 (v:=w) ?_ ?_
 ·show ((vs.map some).toArray[i]?).join=some w
  rw [List.getElem?_toArray,List.getElem?_map,hw.1]; rfl
 ·show wpAny _ _ (handedOut w) _ _ _
  rw [handedOut_of (okV_handed hw.2 r.2)]
  exact wpAny_pure (hQ w _ hw.2)
theorem Sim.attr {av:AV} {v:Value} {x:Str} {expr:Bool} (hv:Γ.le (RDen av v)):Sim X A Γ RDen (eAttr X.K av x) (getAttr v x expr):=by
 refine Sim.ofRun fun σ ρ F s I g=>?_
 have d:Den σ.n ρ F av v:=hv _ _ _ g
 cases av with
 | ref i =>
  rw [(den_ref d).1]
  show RunAt σ (EM.bind (EM.cell i) fun c=>onCInst c (fun C d=>EM.bind (EM.cellAs asDict d) fun m=>EM.opt (attrOf X.K C m x)) <| onCExc c (fun C o _=>onSome o (fun d=>EM.bind (EM.cellAs asDict d) fun m=>EM.opt (attrExc X.K C m x)) EM.fail) EM.fail) _
  refine RunAt.cell fun c=>onCInst_ind (P:=fun (y:EM AV) c=>σ.get i=some c→RunAt σ y fun b σ'=>Goes X A ρ F σ s (getAttr (.ref (ρ i)) x expr) (RDen b) σ') (fun C e hx=>RunAt.cellAs asDict_some fun m hm=>RunAt.optE fun w hw=>(I.atD hm).elim fun es q=>q.elim fun k q=>attr_raw I (ox:=oInst C (ρ e)) rfl ⟨(I.atI hx).1,rfl,rfl,q.1⟩ rfl q.2 hw) <|
   onCExc_ind (P:=fun (y:EM AV) c=>σ.get i=some c→RunAt σ y fun b σ'=>Goes X A ρ F σ s (getAttr (.ref (ρ i)) x expr) (RDen b) σ') (fun C o t=>onSome_ind (P:=fun (y:EM AV) o=>σ.get i=some (.exc C o t)→RunAt σ y fun b σ'=>Goes X A ρ F σ s (getAttr (.ref (ρ i)) x expr) (RDen b) σ') (fun e hx=>RunAt.cellAs asDict_some fun m hm=>RunAt.optE fun w hw=>(I.atD hm).elim fun es q=>q.elim fun k q=>(I.atX hx).elim fun vs hx=>attr_exc I (ox:=oExc C (some (ρ e)) vs) ⟨hx.1,rfl,rfl,q.1⟩ rfl q.2 hw) fun _=>RunAt.fail) fun _=>RunAt.fail
 | obj C fs =>
  show RunAt σ (EM.opt (attrOf X.K C fs x)) _
  cases den_obj d with | mk a d' od es k e ha hd he hs=>exact RunAt.optE fun w hw=>attr_raw I (ox:=oInst C d') e ⟨I.froz _ _ ha,rfl,rfl,I.froz _ _ hd⟩ he hs hw
 | slo C fs=>exact RunAt.optE (o:=sloOf X.K C fs x) fun w hw=>attr_slo I d hw
 | _=>exact RunAt.fail
end
inductive AFlow where
 | next | brk | cont
 | ret (v:AV)
noncomputable def RFlow (fl:AFlow) (f:Flow):Kn:=match fl with
 | .next=>Kn.is (f = .next)
 | .brk=>Kn.is (f = .brk)
 | .cont=>Kn.is (f = .cont)
 | .ret av=>⟨fun n ρ F=>∃ v,f = .ret v∧Den n ρ F av v,fun h1 h2 h3 x=>x.imp fun v q=>⟨q.1,q.2.mono h1 h2 h3⟩⟩
structure Rec where
 ev:AEnv→Expr→EM AV
 tst:AEnv→Expr→EM Bool
 exs:AEnv→List Stmt→EM AFlow
 call:AV→List AV→List (Str × AV)→EM AV
 loop:AEnv→Expr→List Stmt→EM AFlow
 forl:AEnv→Expr→AV→List Stmt→EM AFlow
 comp:AEnv→Expr→Expr→AV→AV→EM AFlow
 hs:Str→Int
noncomputable def CSim (X:Ctx) (A:Around) (Γ:Kn) (x:EM AFlow) (c:Code):Prop :=
 ∀ ev b ev' cs,x ev=some (b,ev',cs)→All cs→∀ ρ F s,Inv X ρ F ev.1 s→Γ.p ev.1.n ρ F→∀ R:Result→Shared→Prop,
  (∀ f s' ρ' F',(RFlow b f).p ev'.1.n ρ' F'→Inv X ρ' F' ev'.1 s'→Stp ρ F ev.1 s ρ' F' ev'.1 s'→R (.ok f) s')→codeAny (model X.prog X.w) A c R s
noncomputable def Room (X:Ctx) (A:Around) (n:Nat):Prop:=A.depth + 4 * n < recursionLimit∧A.units + 40 * n < cLine∧A.handled=none∧A.guards=some []∧A.frames=some (X.fr.map (·.1))
structure Sound (X:Ctx) (r:Rec) (n:Nat):Prop where
 ev:∀ A,Room X A n→∀ ae env e,Sim X A (EnvK X ae env) RDen (r.ev ae e) (eval e env)
 tst:∀ A,Room X A n→∀ ae env e,Sim X A (EnvK X ae env) REq (r.tst ae e) (isTrue e env (eval e env))
 exs:∀ A,Room X A n→∀ ae env ss,Sim X A (EnvK X ae env) RFlow (r.exs ae ss) (execs ss env)
 call:∀ A,Room X A n→∀ f fv as vs ks kvs,Sim X A ((RDen f fv).and ((RDens as vs).and (RDens (ks.map (·.2)) kvs))) RDen (r.call f as ks) (call fv vs ((ks.map (·.1)).zip kvs))
 loop:∀ A,Room X A n→∀ ae env test body,CSim X A (EnvK X ae env) (r.loop ae test body) (.whileLoop test body [] env)
 forl:∀ A,Room X A n→∀ ae env target it itv body,CSim X A ((EnvK X ae env).and (RDen it itv)) (r.forl ae target it body) (.forLoop target itv body [] env)
 comp:∀ A,Room X A n→∀ ae env elt target iter scope pos it itv acc accv,CSim X A ((EnvK X ae env).and ((RDen it itv).and (RDen acc accv))) (r.comp ae elt target it acc) (.compLoop (.ListComp elt [⟨target,iter,[],0⟩] scope pos) 0 itv accv env)
 hs:r.hs=hashStr X.w
noncomputable def SoundF (X:Ctx) (r:Rec) (n:Nat):Prop:=∀ fr,Sound (X.wf fr) r n
theorem SoundF.here {X:Ctx} {r:Rec} {n:Nat} (S:SoundF X r n):Sound X r n:=S X.fr
noncomputable def eArgs (r:Rec) (ae:AEnv) (es:List Expr):EM (List AV):=es.foldr (fun e k=>_root_.cond (noStar e) (EM.bind (r.ev ae e) fun v=>EM.bind k fun vs=>EM.ret (v :: vs)) EM.fail) (EM.ret [])
noncomputable def eKws (r:Rec) (ae:AEnv) (ks:List Keyword):EM (List (Str × AV)):=ks.foldr (fun q k=>onSome q.arg (fun n=>EM.bind (r.ev ae q.value) fun v=>EM.bind k fun vs=>EM.ret ((n,v) :: vs)) EM.fail) (EM.ret [])
noncomputable def named (ks:List Keyword):Bool:=ks.all (·.arg.isSome)
noncomputable def eArgs2 (r:Rec) (ae:AEnv) (args:List Expr) (kws:List Keyword):EM (List AV × List (Str × AV)):=_root_.cond (named kws) (EM.bind (eArgs r ae args) fun as=>EM.bind (eKws r ae kws) fun ks=>EM.ret (as,ks)) EM.fail
theorem Dens.app {n:Nat} {ρ:Rho} {F:Fz}:∀ {xs ys:List AV} {vs ws:List Value},Dens n ρ F xs vs→Dens n ρ F ys ws→Dens n ρ F (xs ++ ys) (vs ++ ws)
 | [],_,vs,_,d,h=>by rw [dens_n d]; exact h
 | _ :: _,_,[],_,d,_=>d.elim
 | _ :: _,_,_ :: _,_,d,h=>⟨d.1,Dens.app d.2 h⟩
section
variable {X:Ctx} {A:Around} {r:Rec} {n:Nat} {ae:AEnv} {env:Env} {Γ:Kn}
theorem args_star:∀ {es:List Expr} {ev:Ev} {b:List AV} {ev':Ev} {cs:List Prop},eArgs r ae es ev=some (b,ev',cs)→All cs→es.all noStar=true
 | [],_,_,_,_,_,_=>rfl
 | e :: es,ev,b,ev',cs,h,hc=>EM.chk_use (x:=EM.bind (r.ev ae e) fun v=>EM.bind (eArgs r ae es) fun vs=>EM.ret (v :: vs)) h fun hs h=>by
  rw [List.all_cons,hs]
  exact EM.bind_use h hc fun _ _ _ _ _ q _ c=>EM.bind_use q c fun _ _ _ _ q2 _ c2 _=>args_star q2 c2
theorem star_map:∀ {es:List Expr},es.all noStar=true→starEach es env=es.map fun e=>(false,eval e env)
 | [],_=>rfl
 | e :: es,h=>by
  rw [List.all_cons,Bool.and_eq_true] at h
  rw [star_step h.1,star_map h.2]; rfl
theorem back_map (pos:Pos):∀ {es:List Expr},backTo pos (es.map fun e=>(false,eval e env))=es.map fun e=>(false,eval e env)
 | []=>rfl
 | e :: es=>congrArg ((false,eval e env) :: ·) (back_map pos (es:=es))
theorem any_no:∀ {es:List Expr},(es.map fun e=>(false,eval e env)).any (·.1)=false
 | []=>rfl
 | _ :: es=>any_no (es:=es)
theorem Sim.argsV (hev:∀ e,Sim X A (EnvK X ae env) RDen (r.ev ae e) (eval e env)) (pos:Pos):∀ (es:List Expr) {Γ:Kn},Γ.le (EnvK X ae env)→Sim X A Γ RDens (eArgs r ae es) (spliced (backTo pos (starEach es env)))
 | [],Γ,hg=>Sim.ret fun _ _ _ _=>rfl
 | e :: es,Γ,hg=>Sim.chk fun hs=>by
  rw [star_step hs]
  exact Sim.eq (t':=eval e env >>= fun v=>PySem.holding [v] (spliced (backTo pos (starEach es env))) >>= fun l=>pure (v :: l)) rfl (Sim.bind ((hev e).weaken hg) fun av v=>Sim.bind (Sim.holding (Sim.argsV hev pos es (Kn.fst hg))) fun avs vs=>Sim.ret fun _ _ _ h=>⟨h.1.2,h.2⟩)
structure ArgsOk (p:List AV × List (Str × AV)) (a:Args) (n:Nat) (ρ:Rho) (F:Fz):Prop where
 pos:Dens n ρ F p.1 a.pos
 kw:∃ kvs,a.kw=(p.2.map (·.1)).zip kvs∧Dens n ρ F (p.2.map (·.2)) kvs
noncomputable def RArgs (p:List AV × List (Str × AV)) (a:Args):Kn:=⟨fun n ρ F=>ArgsOk p a n ρ F,fun h1 h2 h3 x=>⟨x.pos.mono h1 h2 h3,x.kw.imp fun _ q=>⟨q.1,q.2.mono h1 h2 h3⟩⟩⟩
theorem kw_names (pos:Pos):∀ ks:List Keyword,(backToKw pos (keywordEach ks env)).filterMap (·.1)=ks.filterMap (·.arg)
 | []=>rfl
 | ⟨nm,e,kp⟩ :: ks=>by
  show ((nm,_) :: backToKw pos (keywordEach ks env)).filterMap (·.1)=(⟨nm,e,kp⟩ :: ks).filterMap (·.arg)
  rw [List.filterMap_cons,List.filterMap_cons,kw_names pos ks]
theorem kw_all (pos:Pos):∀ ks:List Keyword,(backToKw pos (keywordEach ks env)).all (·.1.isSome)=named ks
 | []=>rfl
 | ⟨nm,e,kp⟩ :: ks=>congrArg (nm.isSome && ·) (kw_all pos ks)
theorem kw_any (pos:Pos):∀ ks:List Keyword,(backToKw pos (keywordEach ks env)).any (·.1.isNone) = !named ks
 | []=>rfl
 | ⟨nm,e,kp⟩ :: ks=>by
  show (nm.isNone || (backToKw pos (keywordEach ks env)).any (·.1.isNone)) = !(nm.isSome && named ks)
  rw [kw_any pos ks]
  cases nm <;> rfl
theorem Sim.kwsV (hev:∀ e,Sim X A (EnvK X ae env) RDen (r.ev ae e) (eval e env)) (pos:Pos):∀ (ks:List Keyword) {Γ:Kn},Γ.le (EnvK X ae env) →
  Sim X A Γ (fun p vs=>(RDens (p.map (·.2)) vs).and (Kn.is (ks.filterMap (·.arg)=p.map (·.1)))) (eKws r ae ks) (evalAll ((backToKw pos (keywordEach ks env)).map (·.2)))
 | [],Γ,hg=>Sim.ret fun _ _ _ _=>⟨rfl,rfl⟩
 | ⟨none,e,kp⟩ :: ks,Γ,hg=>Sim.fail
 | ⟨some nm,e,kp⟩ :: ks,Γ,hg=>by
  refine Sim.eq (t':=(eval e env >>= fun v=>PySem.standAt pos >>= fun _=>pure v) >>= fun v=>PySem.holding [v] (evalAll ((backToKw pos (keywordEach ks env)).map (·.2))) >>= fun l=>pure (v :: l)) rfl ?_
  show Sim X A Γ _ (EM.bind (r.ev ae e) fun v=>EM.bind (eKws r ae ks) fun vs=>EM.ret ((nm,v) :: vs)) _
  refine Sim.bind (Sim.stood ((hev e).weaken hg)) fun av v=>?_
  exact Sim.bind (Sim.holding (Sim.kwsV hev pos ks (Kn.fst hg))) fun avs vs=>Sim.ret fun _ _ _ h=>⟨⟨h.1.2,h.2.1⟩,congrArg (nm :: ·) h.2.2⟩
theorem Sim.evalArgsV (hev:∀ e,Sim X A (EnvK X ae env) RDen (r.ev ae e) (eval e env)) {f:Value} (pos:Pos) (es:List Expr) (ks:List Keyword) {Γ:Kn} (hg:Γ.le (EnvK X ae env)) :
  Sim X A Γ RArgs (eArgs2 r ae es ks) (evalArgs f true (backTo pos (starEach es env)) (backToKw pos (keywordEach ks env))):=Sim.chk fun hn ev b ev' cs he hc ρ F s I g Q E hQ =>
 EM.bind_use he hc fun as ev₁ c1 _ e1 e2 h1 h2=>EM.bind_use e2 h2 fun kv ev₂ c3 _ e3 e4 h3 _=>inj3 e4 fun i1 i2 _=>by
  have hall:=(kw_all (env:=env) pos ks).trans hn
  have K:∀ vs s₁ ρ₁ F₁,(RDens as vs).p ev₁.1.n ρ₁ F₁→Inv X ρ₁ F₁ ev₁.1 s₁→Stp ρ F ev.1 s ρ₁ F₁ ev₁.1 s₁→wpAny (model X.prog X.w) A (evalAll ((backToKw pos (keywordEach ks env)).map (·.2))) (fun l s₂=>Q ⟨vs,((backToKw pos (keywordEach ks env)).filterMap (·.1)).zip l⟩ s₂) E s₁ :=
   fun vs s₁ ρ₁ F₁ d I₁ st=>Sim.kwsV hev pos ks (Kn.le_refl _) ev₁ kv ev₂ c3 e3 h3 ρ₁ F₁ s₁ I₁ ((EnvK X ae env).mono st.le st.same st.sub (hg _ _ _ g)) _ E fun l s₂ ρ₂ F₂ r I₂ st₂=>hQ ⟨vs,_⟩ s₂ ρ₂ F₂ (by rw [← i1,← i2]; exact ⟨Dens.step d st₂,l,by rw [kw_names,r.2],r.1⟩) (i2 ▸ I₂) (i2 ▸ st.trans st₂)
  cases es with
  | nil=>exact evalArgs_kw_nil hall (inj3 e1 fun j1 j2 _=>K [] s ρ F (j1 ▸ rfl) (j2 ▸ I) (j2 ▸ Stp.refl ρ F I.ids))
  | cons e es =>
   have S1:=Sim.argsV hev pos (e :: es) hg ev as ev₁ c1 e1 h1 ρ F s I g _ E K
   rw [star_map (args_star e1 h1),back_map] at S1 ⊢
   exact evalArgs_kw hall S1
theorem Sim.args (S:Sound X r n) (hA:Room X A n) (pos:Pos) (es:List Expr) {Γ:Kn} (hg:Γ.le (EnvK X ae env)):Sim X A Γ RDens (eArgs r ae es) (spliced (backTo pos (starEach es env))):=Sim.argsV (fun e=>S.ev A hA ae env e) pos es hg
theorem Sim.evalArgs (S:Sound X r n) (hA:Room X A n) {f:Value} (pos:Pos) (es:List Expr) (ks:List Keyword) {Γ:Kn} (hg:Γ.le (EnvK X ae env)) :
  Sim X A Γ RArgs (eArgs2 r ae es ks) (PySem.evalArgs f true (backTo pos (starEach es env)) (backToKw pos (keywordEach ks env))):=Sim.evalArgsV (fun e=>S.ev A hA ae env e) pos es ks hg
noncomputable def keepOk (K:Frag) (f:AV):Bool:=onVal f (fun v=>onVBuiltin v (fun _=>true) <| onVType v (fun _=>true) <| onVRef v (fun a=>keepIn K (.ref a)) false) <| onClo f (fun _ _ _ _ _=>true) false
noncomputable def KeepAt (X:Ctx) (fv:Value) (h:Heap):Prop:=∃ k,(k=Keeper.frame ∨ k=Keeper.machine ∨ k=Keeper.boundFrame)∧Looks (model X.prog X.w) h (keeperOf fv) k
theorem keepOk_looks {ρ:Rho} {F:Fz} {σ:St} {s:Shared} (I:Inv X ρ F σ s) {f:AV} {fv:Value}:keepOk X.K f=true→Den σ.n ρ F f fv→KeepAt X fv s.heap :=
 onVal_ind (P:=fun b f=>b=true→Den σ.n ρ F f fv→KeepAt X fv s.heap) (fun v h d=>(show fv=v from d) ▸ onVBuiltin_ind (P:=fun b v=>b=true→KeepAt X v s.heap) (fun _ _=>⟨.machine,.inr (.inl rfl),.now⟩) (onVType_ind (P:=fun b v=>b=true→KeepAt X v s.heap) (fun _ _=>⟨.machine,.inr (.inl rfl),.now⟩)
  (onVRef_ind (P:=fun b v=>b=true→KeepAt X v s.heap) (fun a h=>keeps_K h _ I.Kin) ff)) h)
  (onClo_ind (P:=fun b f=>b=true→Den σ.n ρ F f fv→KeepAt X fv s.heap) (fun a b c e f _ d=>by cases (show dClo σ.n ρ F a b c e f fv from d) with | mk a qual o pm code ct e ha hc hd=>rw [e]; exact ⟨.frame,.inl rfl,(Looks.ld (part:=none) (I.froz _ _ ha)).andThen (by rw [hd]; exact .now)⟩) ff)
noncomputable def eCallWith (K:Frag) (r:Rec) (ae:AEnv) (f:AV) (first:List AV) (args:List Expr) (kws:List Keyword):EM AV:=_root_.cond (keepOk K f) (EM.bind (eArgs2 r ae args kws) fun p=>r.call f (first ++ p.1) p.2) EM.fail
theorem no_stars {ev:Ev} {es:List Expr} {ks:List Keyword} {b:List AV × List (Str × AV)} {ev':Ev} {cs:List Prop} (pos:Pos) (he:eArgs2 r ae es ks ev=some (b,ev',cs)) (hc:All cs):((backTo pos (starEach es env)).any (·.1) || (backToKw pos (keywordEach ks env)).any (·.1.isNone))=false :=
 EM.chk_use he fun hn he=>by rw [kw_any,hn,star_map (EM.bind_use he hc fun _ _ _ _ q _ c _=>args_star q c),back_map,any_no]; rfl
theorem Sim.callWithV (hev:∀ e,Sim X A (EnvK X ae env) RDen (r.ev ae e) (eval e env)) (hcall:∀ f fv as vs ks kvs,Sim X A ((RDen f fv).and ((RDens as vs).and (RDens (ks.map (·.2)) kvs))) RDen (r.call f as ks) (call fv vs ((ks.map (·.1)).zip kvs))) {f:AV} {fv:Value} {first:List AV} {firstv:List Value} (pos:Pos) (es:List Expr) (ks:List Keyword) {Γ:Kn} (hg:Γ.le (EnvK X ae env)) (hf:Γ.le (RDen f fv)) (h1:Γ.le (RDens first firstv)) :
  Sim X A Γ RDen (eCallWith X.K r ae f first es ks) (callWith pos fv firstv (backTo pos (starEach es env)) (backToKw pos (keywordEach ks env))):=Sim.chk fun hk ev b ev' cs he hc ρ F s I g Q E hQ =>
 EM.bind_use he hc fun p ev₁ cs₁ cs₂ e₁ e₂ c1 c2=>callWith_of (P:=KeepAt X fv) (no_stars pos e₁ c1) (fun _ x=>x)
  (Sim.evalArgsV hev pos es ks hg ev p ev₁ cs₁ e₁ c1 ρ F s I g _ E fun a s₁ ρ₁ F₁ d I₁ st=>⟨keepOk_looks I₁ hk (Den.step (hf _ _ _ g) st),d.kw.elim fun kvs q=>q.1 ▸
   hcall f fv (first ++ p.1) (firstv ++ a.pos) p.2 kvs ev₁ b ev' cs₂ e₂ c2 ρ₁ F₁ s₁ I₁ ⟨Den.step (hf _ _ _ g) st,(Dens.step (h1 _ _ _ g) st).app d.pos,q.2⟩ Q E fun v s₂ ρ₂ F₂ x I₂ st₂=>hQ v s₂ ρ₂ F₂ x I₂ (st.trans st₂)⟩)
theorem Sim.callWith (S:Sound X r n) (hA:Room X A n) {f:AV} {fv:Value} {first:List AV} {firstv:List Value} (pos:Pos) (es:List Expr) (ks:List Keyword) {Γ:Kn} (hg:Γ.le (EnvK X ae env)) (hf:Γ.le (RDen f fv)) (h1:Γ.le (RDens first firstv)) :
  Sim X A Γ RDen (eCallWith X.K r ae f first es ks) (PySem.callWith pos fv firstv (backTo pos (starEach es env)) (backToKw pos (keywordEach ks env))):=Sim.callWithV (fun e=>S.ev A hA ae env e) (fun f fv as vs ks kvs=>S.call A hA f fv as vs ks kvs) pos es ks hg hf h1
end
noncomputable def ownNone (σ:St) (x:Str) (av:AV):Bool:=onInt av (fun _=>true) <| onStr av (fun _=>true) <| onRef av (fun i=>onSome (σ.get i) (fun c=>onCList c (fun _=>true) <| onCLiter c (fun _ _=>true) <|
 onCInst c (fun _ d=>onSome ((σ.get d).bind asDict) (fun m=>(m.lookup x).isNone) false) false) false) false
noncomputable def methTypes (K:Frag) (f:Value):Bool:=onSome (typeIn K f) (fun T=>onVType T (fun t=>(t == "function" || t == "method_descriptor" || t == "wrapper_descriptor")) false) false
noncomputable def isGA (o:Option (Option Value)):Bool:=onSome o (fun v=>onSome v (fun w=>onVBuiltin w (fun ga=>Manifest.canonical ga == "object.__getattribute__") false) false) false
noncomputable def methOf (K:Frag) (T:Value) (x:Str):Option Value:=_root_.cond (isGA (findIn K T "__getattribute__") && isNN (findIn K T "__getattr__")) ((findIn K T x).bind id) none
noncomputable def eMethod (K:Frag) (av:AV) (x:Str):EM (AV × List AV):=EM.st fun σ=>onSome ((typ K σ av).bind fun T=>methOf K T x) (fun f=>EM.retB (methTypes K f && ownNone σ x av) (.val f,[av])) EM.fail
section
variable {X:Ctx} {A:Around} {Γ:Kn} {ρ:Rho} {F:Fz} {σ:St} {s:Shared}
noncomputable def OwnNo (x:Str) (v:Value) (h:Heap):Prop:=∀ a,v = .ref a→∃ o,h.get? a=some o∧∀ d,o.dict=some d→∃ od,h.get? d=some od∧lookIn x od=some none
theorem OwnNo.of {x:Str} {v:Value} {h:Heap} {a:Addr} {o:Obj} (e:v = .ref a) (ho:h.get? a=some o) (hd:o.dict=none):OwnNo x v h:=fun b q=>by
 rw [e] at q
 cases q
 exact ⟨o,ho,fun d q=>noneOf (hd.symm.trans q)⟩
theorem ownNone_is (I:Inv X ρ F σ s) {x:Str} {av:AV} {v:Value}:ownNone σ x av=true→Den σ.n ρ F av v→OwnNo x v s.heap :=
 onInt_ind (P:=fun b av=>b=true→Den σ.n ρ F av v→OwnNo x v s.heap) (fun i _ d a q=>(den_int d).elim fun t e=>nomatch e.symm.trans q) <|
 onStr_ind (P:=fun b av=>b=true→Den σ.n ρ F av v→OwnNo x v s.heap) (fun i _ d a q=>(den_str d).elim fun t e=>nomatch e.symm.trans q) <|
 onRef_ind (P:=fun b av=>b=true→Den σ.n ρ F av v→OwnNo x v s.heap) (fun i h d=>by
  have e:=(den_ref d).1
  revert h
  cases hc:σ.get i with
  | none=>exact ff
  | some c =>
   exact onCList_ind (P:=fun b c=>σ.get i=some c→b=true→OwnNo x v s.heap) (fun xs hx _=>(I.atL hx).elim fun vs q=>q.elim fun k q=>.of e q.1 rfl) (onCLiter_ind (P:=fun b c=>σ.get i=some c→b=true→OwnNo x v s.heap) (fun l k hx _=>.of e (I.atIt hx).1 rfl)
    (onCInst_ind (P:=fun b c=>σ.get i=some c→b=true→OwnNo x v s.heap) (fun C d hx h=>by
     cases hm:(σ.get d).bind asDict with
     | none=>rw [hm] at h; exact ff h
     | some m =>
      rw [hm] at h
      refine (Option.bind_eq_some_iff.mp hm).elim fun c' q=>(I.atD (q.1.trans (congrArg some (asDict_some q.2)))).elim fun es q=>q.elim fun k q=>fun a ha=>?_
      rw [e] at ha
      cases ha
      exact ⟨_,(I.atI hx).1,fun d' hd=>⟨_,(Option.some.inj hd) ▸ q.1,lookIn_no q.2 (k:=k) rfl (Option.isNone_iff_eq_none.mp h)⟩⟩) fun _=>ff)) hc) ff
theorem isGA_ok {o:Option (Option Value)}:isGA o=true→∃ ga,o=some (some (Value.builtin ga))∧Manifest.canonical ga = "object.__getattribute__" :=
 onSome_ind (P:=fun b (o:Option (Option Value))=>b=true→∃ ga,o=some (some (Value.builtin ga))∧Manifest.canonical ga = "object.__getattribute__") (fun v=>onSome_ind (P:=fun b (v:Option Value)=>b=true→∃ ga,some v=some (some (Value.builtin ga))∧Manifest.canonical ga = "object.__getattribute__")
  (fun w=>onVBuiltin_ind (P:=fun b (w:Value)=>b=true→∃ ga,some (some w)=some (some (Value.builtin ga))∧Manifest.canonical ga = "object.__getattribute__") (fun i h=>⟨i,rfl,eq_of_beq h⟩) ff) ff) ff
theorem methTypes_ok {K:Frag} {f:Value} (h:methTypes K f=true):∃ t,typeIn K f=some (.type t)∧((Value.type t != .type "function") && (Value.type t != .type "method_descriptor") && (Value.type t != .type "wrapper_descriptor"))=false:=by
 unfold methTypes at h
 cases e:typeIn K f with
 | none=>rw [e] at h; exact ff h
 | some T =>
  rw [e] at h
  refine onVType_ind (P:=fun b T=>b=true→∃ t,some T=some (Value.type t)∧((Value.type t != .type "function") && (Value.type t != .type "method_descriptor") && (Value.type t != .type "wrapper_descriptor"))=false) (fun t h=>⟨t,rfl,?_⟩) ff h
  rw [Bool.or_eq_true,Bool.or_eq_true] at h
  rcases h with (h | h) | h <;> (rw [eq_of_beq h]; decide)
theorem methOf_ok {K:Frag} {T:Value} {x:Str} {f:Value} (h:methOf K T x=some f):(∃ ga,findIn K T "__getattribute__" = some (some (.builtin ga))∧Manifest.canonical ga = "object.__getattribute__")∧findIn K T "__getattr__" = some none∧findIn K T x=some (some f):=by
 unfold methOf at h
 cases hc:(isGA (findIn K T "__getattribute__") && isNN (findIn K T "__getattr__")) with
 | false=>rw [hc] at h; exact noneOf h
 | true =>
  rw [hc] at h
  rw [Bool.and_eq_true] at hc
  exact ⟨isGA_ok hc.1,isNN_ok hc.2,(Option.bind_eq_some_iff.mp h).elim fun o q=>q.1.trans (congrArg some q.2)⟩
theorem meth_run (I:Inv X ρ F σ s) {T:Value} {x:Str} {av:AV} {v f:Value} {pl:Sem Bool} (d:Den σ.n ρ F av v) (hT:typ X.K σ av=some T) (hf:methOf X.K T x=some f) (h4:methTypes X.K f=true) (h5:ownNone σ x av=true) {Q:Value × List Value→Shared→Prop} {E:Value→Shared→Prop} (q:Q (f,[v]) s) :
  wpAny (model X.prog X.w) A (getMethod v x pl) Q E s:=by
 have T1:=typ_looks (M:=model X.prog X.w) I d hT
 have hm:=methOf_ok hf
 have hown:=ownNone_is I h5 d
 refine hm.1.elim fun ga hga=>(methTypes_ok h4).elim fun t ht=>?_
 unfold getMethod
 refine wpAny_bind (m:=specialOf v (Str.ofString "__getattribute__")) (wpAny_bind (T1.here ((looks_findIn I.Kin hga.1).here ?_)))
 dsimp only
 rw [if_neg (by rw [hga.2]; decide)]
 refine wpAny_bind (wpAny_bind (T1.here ((looks_findIn I.Kin hm.2.1).here ?_)))
 rw [if_neg (by decide)]
 refine wpAny_bind (wpAny_bind (T1.here ((looks_findIn I.Kin hm.2.2).here ?_)))
 dsimp only
 refine wpAny_bind ((looks_typeIn I.Kin ht.1).here ?_)
 rw [ht.2]
 simp only [Bool.false_eq_true,if_false]
 cases v with
 | ref a =>
  refine (hown a rfl).elim fun o ho=>?_
  dsimp only
  refine wpAny_bind (wpAny_loadPart ho.1 ?_)
  cases hdd:o.dict with
  | none=>exact wpAny_bind (wpAny_rule (wpAny_pure q))
  | some dd =>
   refine (ho.2 dd hdd).elim fun od hod=>?_
   dsimp only
   refine wpAny_bind (ns_look hod.1 hod.2 rfl ?_)
   rw [if_neg (by decide)]
   exact wpAny_bind (wpAny_rule (wpAny_pure q))
 | _=>exact wpAny_bind (wpAny_rule (wpAny_pure q))
noncomputable def RMeth (p:AV × List AV) (q:Value × List Value):Kn:=(RDen p.1 q.1).and (RDens p.2 q.2)
theorem Sim.method {av:AV} {v:Value} {x:Str} {pl:Sem Bool} (hv:Γ.le (RDen av v)):Sim X A Γ RMeth (eMethod X.K av x) (getMethod v x pl):=by
 refine Sim.ofRun fun σ ρ F s I g=>RunAt.st ?_
 cases h:(typ X.K σ av).bind fun T=>methOf X.K T x with
 | none=>exact RunAt.fail
 | some f =>
  refine RunAt.retB fun hb=>(Option.bind_eq_some_iff.mp h).elim fun T hT=>Goes.same I fun Q E q=>?_
  rw [Bool.and_eq_true] at hb
  exact meth_run I (hv _ _ _ g) hT.1 hT.2 hb.1 hb.2 (q (f,[v]) ⟨rfl,hv _ _ _ g,rfl⟩)
end
noncomputable def eCellL (i:Nat):EM (List AV):=EM.bind (EM.cellAs asList i) fun xs=>EM.retIf (xs.length≤1000000) xs
noncomputable def eSetL (i:Nat) (xs:List AV):EM Unit:=EM.upd fun σ=>σ.set i (.list xs)
noncomputable def noneAV:AV:=.val .none
noncomputable def eAppend (as:List AV):EM AV:=on2 as (fun a v=>onRef a (fun i=>EM.bind (eCellL i) fun xs=>EM.bind (eSetL i (xs ++ [v])) fun _=>EM.ret noneAV) EM.fail) EM.fail
noncomputable def ePopL (i:Nat):EM AV:=EM.bind (eCellL i) fun xs=>EM.bind (EM.last xs) fun p=>EM.bind (eSetL i p.1) fun _=>EM.ret p.2
noncomputable def ePopF (i:Nat):EM AV:=EM.bind (eCellL i) fun xs=>EM.bind (EM.first xs) fun p=>EM.bind (eSetL i p.1) fun _=>EM.ret p.2
noncomputable def ePop (as:List AV):EM AV:=onCons as (fun a r=>onRef a (fun i=>onNil r (ePopL i) (on1 r (fun k=>onInt k (fun k=>_root_.cond (k == 0) (ePopF i) (_root_.cond (k == -1) (ePopL i) EM.fail)) EM.fail) EM.fail)) EM.fail) EM.fail
noncomputable def eInsert (as:List AV):EM AV:=on3 as (fun a k v=>onRef a (fun i=>onInt k (fun k=>_root_.cond (k == 0) (EM.bind (eCellL i) fun xs=>EM.bind (eSetL i (v :: xs)) fun _=>EM.ret noneAV) EM.fail) EM.fail) EM.fail) EM.fail
noncomputable def eClear (as:List AV):EM AV:=on1 as (fun a=>onRef a (fun i=>EM.bind (eCellL i) fun xs=>EM.bind (eSetL i []) fun _=>EM.ret noneAV) EM.fail) EM.fail
section
variable {X:Ctx} {A:Around} {ρ:Rho} {F:Fz} {σ:St} {s:Shared} {Γ:Kn}
theorem Inv.listSet (I:Inv X ρ F σ s) {i:Nat} {xs ys:List AV} {vs ws:List Value} {k:Nat} (hi:σ.get i=some (.list xs)) (ho:s.heap.get? (ρ i)=some (oList vs k))
  {f:Array Value→Array Value} (hf:f vs.toArray=ws.toArray) (hd:Dens σ.n ρ F ys ws) (t:Nat) :
  Inv X ρ F (σ.set i (.list ys)) { s with heap:=s.heap.update (ρ i) (Obj.mapSeq f),toks:=t }∧Stp ρ F σ s ρ F (σ.set i (.list ys)) { s with heap:=s.heap.update (ρ i) (Obj.mapSeq f),toks:=t }:=by
 refine I.set (c':=.list ys) hi (fun b o hb e=>?_) ?_ t
 ·rw [Heap.get?_update_other _ _ (fun e=>hb e.symm)]; exact e
 ·have:=IsL.update ho f
  rw [hf] at this
  exact .ofL (vs:=ws) this hd
theorem Dens.snoc {n:Nat} {y:AV}:∀ {xs:List AV} {vs:List Value},Dens n ρ F (xs ++ [y]) vs→∃ ws w,vs=ws ++ [w]∧Dens n ρ F xs ws∧Den n ρ F y w
 | [],_,d=>dens1 (P:=fun vs=>∃ ws w,vs=ws ++ [w]∧Dens n ρ F [] ws∧Den n ρ F y w) d fun v h=>⟨[],v,rfl,rfl,h⟩
 | _ :: _,[],d=>d.elim
 | _ :: xs,v :: vs,d=>(Dens.snoc (xs:=xs) d.2).elim fun ws q=>q.elim fun w q=>⟨v :: ws,w,congrArg (v :: ·) q.1,⟨d.1,q.2.1⟩,q.2.2⟩
theorem szOk {n:Nat} {xs:List AV} {vs:List Value} (h:xs.length≤1000000) (d:Dens n ρ F xs vs):vs.toArray.size≤sizeLine:=by
 rw [List.size_toArray,← d.length]; exact Nat.le_trans h (by decide)
theorem plist {l:Addr} {o:Obj} (h:s.heap.get? l=some o) (hc:o.cls = .type "list"):s.TypeIs (.ref l) "list":=⟨o,h,hc⟩
theorem RunAt.cellL {γ:Type} {D:γ→St→Prop} {i:Nat} {f:List AV→EM γ} (h:∀ xs,σ.get i=some (.list xs)→xs.length≤1000000→RunAt σ (f xs) D):RunAt σ (EM.bind (eCellL i) f) D :=
 RunAt.stay (P:=fun xs=>σ.get i=some (.list xs)∧xs.length≤1000000) (RunAt.cellAs asList_some fun xs hx=>RunAt.retIf fun hl=>⟨rfl,hx,hl⟩) fun xs q=>h xs q.1 q.2
theorem RunAt.setL {γ:Type} {D:γ→St→Prop} {i:Nat} {ys:List AV} {f:Unit→EM γ} (h:RunAt (σ.set i (.list ys)) (f ()) D):RunAt σ (EM.bind (eSetL i ys) f) D:=RunAt.upd (g:=fun σ=>σ.set i (.list ys)) h
inductive ListAt (F:Fz) (σ:St) (s:Shared) (ρ:Rho) (i:Nat) (xs:List AV):Prop where
 | mk (vs:List Value) (k:Nat) (ho:s.heap.get? (ρ i)=some (oList vs k)) (d:Dens σ.n ρ F xs vs) (hs:vs.toArray.size≤sizeLine)
theorem Inv.lst (I:Inv X ρ F σ s) {i:Nat} {xs:List AV} (hx:σ.get i=some (.list xs)) (hl:xs.length≤1000000):ListAt F σ s ρ i xs:=(I.atL hx).elim fun vs q=>q.elim fun k q=>⟨vs,k,q.1,q.2,szOk hl q.2⟩
theorem turned {i:Nat} {xs ys:List AV} {ws us:List Value} {k t:Nat} {b:AV} {rv:Value} {f:Array Value→Array Value} {Q:Value→Shared→Prop} (I:Inv X ρ F σ s) (hx:σ.get i=some (.list xs)) (ho:s.heap.get? (ρ i)=some (oList ws k))
  (hQ:∀ v s' ρ' F',(RDen b v).p (σ.set i (.list ys)).n ρ' F'→Inv X ρ' F' (σ.set i (.list ys)) s'→Stp ρ F σ s ρ' F' (σ.set i (.list ys)) s'→Q v s') (hf:f ws.toArray=us.toArray) (hd:Dens σ.n ρ F ys us) (hr:Den σ.n ρ F b rv) :
  Q rv { s with heap:=s.heap.update (ρ i) (Obj.mapSeq f),toks:=t } :=
 let h:=I.listSet hx ho hf hd t
 hQ rv _ ρ F hr h.1 h.2
theorem R_append {i:Nat} {xs:List AV} {v:AV} {w:Value} (I:Inv X ρ F σ s) (hx:σ.get i=some (.list xs)) (hl:xs.length≤1000000) (dv:Den σ.n ρ F v w):Goes X A ρ F σ s (call (.builtin "list.append") [.ref (ρ i),w]) (RDen noneAV) (σ.set i (.list (xs ++ [v]))):=fun Q E hQ=>by
 cases I.lst hx hl with | mk ws k ho dw hs=>exact call_meets PySem.F.slot_list_append (plist ho rfl) PySem.F.entry_list_append (PySem.F.args_list_append_2 _ _) (list_append (ρ i) ws.toArray k _ hs) ⟨ho,turned (us:=ws ++ [w]) I hx ho hQ (List.push_toArray ..) (dw.app (Dens.cons dv rfl)) rfl⟩
theorem R_clear {i:Nat} {xs:List AV} (I:Inv X ρ F σ s) (hx:σ.get i=some (.list xs)) (hl:xs.length≤1000000):Goes X A ρ F σ s (call (.builtin "list.clear") [.ref (ρ i)]) (RDen noneAV) (σ.set i (.list [])):=fun Q E hQ=>by
 cases I.lst hx hl with | mk ws k ho dw hs=>exact call_meets PySem.F.slot_list_clear (plist ho rfl) PySem.F.entry_list_clear (PySem.F.args_list_clear_1 _) (AutoSeq1.list_clear_list_0 (ρ i) ws.toArray k hs) ⟨ho,turned (us:=[]) I hx ho hQ rfl rfl rfl⟩
theorem R_insert {i:Nat} {xs:List AV} {v:AV} {w:Value} (t:Tok) (I:Inv X ρ F σ s) (hx:σ.get i=some (.list xs)) (hl:xs.length≤1000000) (dv:Den σ.n ρ F v w):Goes X A ρ F σ s (call (.builtin "list.insert") [.ref (ρ i),.int 0 t,w]) (RDen noneAV) (σ.set i (.list (v :: xs))):=fun Q E hQ=>by
 cases I.lst hx hl with | mk ws k ho dw hs=>exact call_meets PySem.F.slot_list_insert (plist ho rfl) PySem.F.entry_list_insert (PySem.F.args_list_insert_3 _ _ _) (AutoSeq1.list_insert_list_int_val_1 (ρ i) ws.toArray k 0 t w (by decide) hs) ⟨ho,turned (us:=w :: ws) I hx ho hQ (by simp) ⟨dv,dw⟩ rfl⟩
theorem erase_last (us:List Value) (w:Value):(us ++ [w]).toArray.eraseIdxIfInBounds us.length=us.toArray:=by simp [Array.eraseIdxIfInBounds,List.eraseIdx_append_of_length_le]
theorem idx_last (us:List Value) (w:Value):(us ++ [w]).toArray[us.length]? = some w:=by simp
section
variable {i:Nat} {ys:List AV} {y:AV}
theorem R_pop1 (I:Inv X ρ F σ s) (hx:σ.get i=some (.list (ys ++ [y]))) (hl:(ys ++ [y]).length≤1000000):Goes X A ρ F σ s (call (.builtin "list.pop") [.ref (ρ i)]) (RDen y) (σ.set i (.list ys)):=fun Q E hQ=>by
 cases I.lst hx hl with | mk vs k ho dv hs =>
 refine dv.snoc.elim fun us q=>q.elim fun w q=>?_
 rw [q.1] at ho hs
 exact call_meets PySem.F.slot_list_pop (plist ho rfl) PySem.F.entry_list_pop (PySem.F.args_list_pop_1 _) (MeetsSeq.list_pop_last (ρ i) (us ++ [w]).toArray k w (by simp) hs) ⟨ho,turned (us:=us) I hx ho hQ (by simp [Array.eraseIdxIfInBounds,List.eraseIdx_append_of_length_le]) q.2.1 q.2.2⟩
theorem R_pop0 (t:Tok) (I:Inv X ρ F σ s) (hx:σ.get i=some (.list (y :: ys))) (hl:(y :: ys).length≤1000000):Goes X A ρ F σ s (call (.builtin "list.pop") [.ref (ρ i),.int 0 t]) (RDen y) (σ.set i (.list ys)):=fun Q E hQ=>by
 cases I.lst hx hl with | mk vs k ho dv hs =>
 cases vs with
 | nil=>exact dv.elim
 | cons w us=>exact call_meets PySem.F.slot_list_pop (plist ho rfl) PySem.F.entry_list_pop (PySem.F.args_list_pop_2 _ _) (MeetsSeq.list_pop_at (ρ i) (w :: us).toArray k 0 t 0 w (by decide) (by unfold seqIndex?; simp) (by simp) hs) ⟨ho,turned (us:=us) I hx ho hQ (by simp [Array.eraseIdxIfInBounds]) dv.2 dv.1⟩
theorem R_popm (t:Tok) (I:Inv X ρ F σ s) (hx:σ.get i=some (.list (ys ++ [y]))) (hl:(ys ++ [y]).length≤1000000):Goes X A ρ F σ s (call (.builtin "list.pop") [.ref (ρ i),.int (-1) t]) (RDen y) (σ.set i (.list ys)):=fun Q E hQ=>by
 cases I.lst hx hl with | mk vs k ho dv hs =>
 refine dv.snoc.elim fun us q=>q.elim fun w q=>?_
 rw [q.1] at ho hs
 exact call_meets PySem.F.slot_list_pop (plist ho rfl) PySem.F.entry_list_pop (PySem.F.args_list_pop_2 _ _) (MeetsSeq.list_pop_at (ρ i) (us ++ [w]).toArray k (-1) t us.length w (by decide) (by unfold seqIndex?; simp; omega) (idx_last us w) hs) ⟨ho,turned (us:=us) I hx ho hQ (erase_last us w) q.2.1 q.2.2⟩
end
noncomputable def SimB (X:Ctx) (A:Around) (nm:String) (x:EM AV) (as:List AV):Prop:=∀ (Γ:Kn) (vs:List Value),Γ.le (RDens as vs)→Sim X A Γ RDen x (call (.builtin nm) vs)
theorem SimB.fail {nm:String} {as:List AV}:SimB X A nm EM.fail as:=fun _ _ _=>Sim.fail
theorem SimB.of {nm:String} {as:List AV} {x:EM AV} (h:∀ σ ρ F s vs,Inv X ρ F σ s→Dens σ.n ρ F as vs→RunAt σ x fun b σ'=>Goes X A ρ F σ s (call (.builtin nm) vs) (RDen b) σ'):SimB X A nm x as:=fun _ _ hv=>Sim.ofRun fun σ ρ F s I g=>h σ ρ F s _ I (hv _ _ _ g)
theorem Sim.append (as:List AV):SimB X A "list.append" (eAppend as) as:=by
 refine on2_ind (P:=SimB X A "list.append") (fun a v=>?_) fun _=>SimB.fail
 refine onRef_ind (P:=fun x a=>SimB X A "list.append" x [a,v]) (fun i=>?_) SimB.fail
 exact SimB.of fun σ ρ F s vs I d=>RunAt.cellL fun xs hx hl=>RunAt.setL (RunAt.ret (dens2 (P:=fun vs=>Goes X A ρ F σ s (call (.builtin "list.append") vs) (RDen noneAV) (σ.set i (.list (xs ++ [v])))) d fun u w (du:u = .ref (ρ i)∧i < σ.n) dw=>du.1 ▸ R_append I hx hl dw))
theorem Sim.clear (as:List AV):SimB X A "list.clear" (eClear as) as:=by
 refine on1_ind (P:=SimB X A "list.clear") (fun a=>?_) SimB.fail
 refine onRef_ind (P:=fun x a=>SimB X A "list.clear" x [a]) (fun i=>?_) SimB.fail
 exact SimB.of fun σ ρ F s vs I d=>RunAt.cellL fun xs hx hl=>RunAt.setL (RunAt.ret (dens1 (P:=fun vs=>Goes X A ρ F σ s (call (.builtin "list.clear") vs) (RDen noneAV) (σ.set i (.list []))) d fun u (du:u = .ref (ρ i)∧i < σ.n)=>du.1 ▸ R_clear I hx hl))
theorem Sim.insert (as:List AV):SimB X A "list.insert" (eInsert as) as:=by
 refine on3_ind (P:=SimB X A "list.insert") (fun a k v=>?_) fun _=>SimB.fail
 refine onRef_ind (P:=fun x a=>SimB X A "list.insert" x [a,k,v]) (fun i=>?_) SimB.fail
 refine onInt_ind (P:=fun x k=>SimB X A "list.insert" x [.ref i,k,v]) (fun k=>?_) SimB.fail
 refine cond_ind (P:=fun x=>SimB X A "list.insert" x [.ref i,.int k,v]) (fun hk=>?_) SimB.fail
 exact SimB.of fun σ ρ F s vs I d=>RunAt.cellL fun xs hx hl=>RunAt.setL (RunAt.ret (dens3 (P:=fun vs=>Goes X A ρ F σ s (call (.builtin "list.insert") vs) (RDen noneAV) (σ.set i (.list (v :: xs)))) d fun u k' w (du:u = .ref (ρ i)∧i < σ.n) (dk:∃ t,k' = .int k t) dw=>du.1 ▸ dk.elim fun t e=>e ▸ (eq_of_beq hk).symm ▸ R_insert t I hx hl dw))
theorem RunAt.popL {i:Nat} {C:AV→St→Prop} (h:∀ ys y,σ.get i=some (.list (ys ++ [y]))→(ys ++ [y]).length≤1000000→C y (σ.set i (.list ys))):RunAt σ (ePopL i) C:=RunAt.cellL fun xs hx hl=>RunAt.last fun p hp=>RunAt.setL (RunAt.ret (h p.1 p.2 (hp ▸ hx) (hp ▸ hl)))
theorem RunAt.popF {i:Nat} {C:AV→St→Prop} (h:∀ ys y,σ.get i=some (.list (y :: ys))→(y :: ys).length≤1000000→C y (σ.set i (.list ys))):RunAt σ (ePopF i) C:=RunAt.cellL fun xs hx hl=>RunAt.first fun p hp=>RunAt.setL (RunAt.ret (h p.1 p.2 (hp ▸ hx) (hp ▸ hl)))
theorem Sim.pop (as:List AV):SimB X A "list.pop" (ePop as) as:=by
 refine onCons_ind (P:=SimB X A "list.pop") (fun a r=>?_) SimB.fail
 refine onRef_ind (P:=fun x a=>SimB X A "list.pop" x (a :: r)) (fun i=>?_) SimB.fail
 refine onNil_ind (P:=fun x r=>SimB X A "list.pop" x (.ref i :: r)) ?_ ?_
 ·exact SimB.of fun σ ρ F s vs I d=>RunAt.popL fun ys y hx hl=>dens1 (P:=fun vs=>Goes X A ρ F σ s (call (.builtin "list.pop") vs) (RDen y) (σ.set i (.list ys))) d fun u (du:u = .ref (ρ i)∧i < σ.n)=>du.1 ▸ R_pop1 I hx hl
 refine on1_ind (P:=fun x r=>SimB X A "list.pop" x (.ref i :: r)) (fun k=>?_) SimB.fail
 refine onInt_ind (P:=fun x k=>SimB X A "list.pop" x [.ref i,k]) (fun k=>?_) SimB.fail
 refine cond_ind (P:=fun x=>SimB X A "list.pop" x [.ref i,.int k]) (fun hk=>?_) (cond_ind (P:=fun x=>SimB X A "list.pop" x [.ref i,.int k]) (fun hk=>?_) SimB.fail)
 ·exact SimB.of fun σ ρ F s vs I d=>RunAt.popF fun ys y hx hl=>dens2 (P:=fun vs=>Goes X A ρ F σ s (call (.builtin "list.pop") vs) (RDen y) (σ.set i (.list ys))) d fun u k' (du:u = .ref (ρ i)∧i < σ.n) (dk:∃ t,k' = .int k t)=>du.1 ▸ dk.elim fun t e=>e ▸ (eq_of_beq hk).symm ▸ R_pop0 t I hx hl
 ·exact SimB.of fun σ ρ F s vs I d=>RunAt.popL fun ys y hx hl=>dens2 (P:=fun vs=>Goes X A ρ F σ s (call (.builtin "list.pop") vs) (RDen y) (σ.set i (.list ys))) d fun u k' (du:u = .ref (ρ i)∧i < σ.n) (dk:∃ t,k' = .int k t)=>du.1 ▸ dk.elim fun t e=>e ▸ (eq_of_beq hk).symm ▸ R_popm t I hx hl
end
section
variable {prog:Program} {w:World} {A:Around} {E:Value→Shared→Prop} {s:Shared}
theorem iter_typ {it:Addr} {l:Value} {k:Int} (h:s.heap.get? it=some (oIter l k)):s.TypeIs (.ref it) "list_iterator":=⟨_,h,rfl⟩
theorem stop_raised {α:Type} {Q:α→Shared→Prop} (hh:A.handled=none) (h:∀ e h',(∀ b o,s.heap.get? b=some o→h'.get? b=some o)→({ s with heap:=h' }:Shared).TypeIs e "StopIteration"→E e { s with heap:=h' }):wpAny (model prog w) A (SmallTypes.stopIteration:Sem α) Q E s:=by
 show wpAny _ _ (newExc (.type "StopIteration") [] >>= _) _ _ _
 refine wpAny_bind ?_
 simp only [newExc,newTuple]
 refine wpAny_bind (wpAny_newObj_type ?_ (by size_fits))
 refine wpAny_bind (m:=firstArgMember _ _) (wpAny_of_eq (a:=Value.none) (by first | rfl | (simp only [firstArgMember]; rfl)) ?_)
 refine wpAny_newObj_type ?_ (by size_fits)
 simp only [raiseNew]
 refine wpAny_bind (wpAny_handled ?_)
 rw [hh]
 refine wpAny_bind (wpAny_pure (wpAny_throw ?_))
 exact h _ _ (fun b o e=>Heap.get?_push_of_some _ (Heap.get?_push_of_some _ e)) ⟨_,Heap.get?_push_size _ rfl,rfl⟩
section
variable {it l:Addr} {i:Nat} {items:List Value} {n:Nat}
theorem iterNext_one {x:Value} {Q:Option Value→Shared→Prop} (ho:s.heap.get? it=some (oIter (.ref l) i)) (hl:s.heap.get? l=some (oList items n)) (hx:items[i]? = some x) (hQ:∀ h',h'.get? it=some (oIter (.ref l) (i + 1:Nat))→Heap.ExtBut it s.heap h'→Q (some x) { s with heap:=h' }):wpAny (model prog w) A (pyNext (.ref it)) Q E s:=by
 unfold pyNext
 have T:=iter_typ ho
 refine wpAny_bind (wpAny_attempt (wpAny_callSpecial?_slot (name:=Str.ofString "__next__") T slot_listiter_next (wpAny_call_entry slot_listiter_next T entry_listiter_next ?_ (args_listiter_next _))))
 show wpAny _ _ (field (.ref it) 0 >>= _) _ _ s
 refine wpAny_bind (wpAny_field ho rfl (x:=.ref l) rfl ?_)
 rw [if_neg (show ¬ ((Value.ref l == Value.none)=true) from Bool.false_ne_true)]
 refine wpAny_bind (m:=field (.ref it) 1) (wpAny_field ho rfl (x:=.int i 0) rfl ?_)
 dsimp only
 refine wpAny_bind (wpAny_seqItems hl rfl ?_)
 dsimp only
 simp only [Int.toNat_natCast,List.getElem?_toArray,hx]
 refine wpAny_bind (wpAny_setField ho rfl (by simp) (wpAny_pure ⟨x,rfl,wpAny_pure (hQ _ ?_ (Heap.SameBut.update ..).extBut)⟩))
 rw [Heap.get?_update_self _ ho rfl]
 rfl
theorem iterNext_end {Q:Option Value→Shared→Prop} (hh:A.handled=none) (ho:s.heap.get? it=some (oIter (.ref l) i)) (hl:s.heap.get? l=some (oList items n)) (hx:items[i]? = none) (hQ:∀ h',h'.get? it=some (oIter .none i)→Heap.ExtBut it s.heap h'→Q none { s with heap:=h' }):wpAny (model prog w) A (pyNext (.ref it)) Q E s:=by
 unfold pyNext
 have T:=iter_typ ho
 refine wpAny_bind (wpAny_attempt (wpAny_callSpecial?_slot (name:=Str.ofString "__next__") T slot_listiter_next (wpAny_call_entry slot_listiter_next T entry_listiter_next ?_ (args_listiter_next _))))
 show wpAny _ _ (field (.ref it) 0 >>= _) _ _ s
 refine wpAny_bind (wpAny_field ho rfl (x:=.ref l) rfl ?_)
 rw [if_neg (show ¬ ((Value.ref l == Value.none)=true) from Bool.false_ne_true)]
 refine wpAny_bind (m:=field (.ref it) 1) (wpAny_field ho rfl (x:=.int i 0) rfl ?_)
 dsimp only
 refine wpAny_bind (wpAny_seqItems hl rfl ?_)
 dsimp only
 simp only [Int.toNat_natCast,List.getElem?_toArray,hx]
 refine wpAny_bind (wpAny_rule (wpAny_bind (wpAny_setField ho rfl (by simp) ?_)))
 have h1:(s.heap.update it (Obj.mapFields (·.setIfInBounds 0 Value.none))).get? it=some (oIter .none i):=by
  rw [Heap.get?_update_self _ ho rfl]; rfl
 refine stop_raised (A:=A.in1) hh fun e h' hk hT=>?_
 refine wpAny_bind (wpAny_isInstance (T:="StopIteration") (b:=true) hT isSubtype_stop ?_)
 exact wpAny_pure (hQ _ (hk _ _ h1) fun b o hb e=>hk _ _ ((Heap.SameBut.update ..).extBut b o hb e))
end
theorem iterNext_ended {it:Addr} {i:Int} {Q:Option Value→Shared→Prop} (hh:A.handled=none) (ho:s.heap.get? it=some (oIter .none i))
  (hQ:∀ h',(∀ b o,s.heap.get? b=some o→h'.get? b=some o)→Q none { s with heap:=h' }):wpAny (model prog w) A (pyNext (.ref it)) Q E s:=by
 unfold pyNext
 have T:=iter_typ ho
 refine wpAny_bind (wpAny_attempt (wpAny_callSpecial?_slot (name:=Str.ofString "__next__") T slot_listiter_next (wpAny_call_entry slot_listiter_next T entry_listiter_next ?_ (args_listiter_next _))))
 show wpAny _ _ (field (.ref it) 0 >>= _) _ _ s
 refine wpAny_bind (wpAny_field ho rfl (x:=.none) rfl ?_)
 rw [if_pos (show ((Value.none == Value.none)=true) from rfl)]
 refine wpAny_bind (wpAny_rule (wpAny_bind (m:=SmallTypes.stopIteration) ?_))
 refine stop_raised (A:=A.in1) hh fun e h' hk hT=>?_
 refine wpAny_bind (wpAny_isInstance (T:="StopIteration") (b:=true) hT isSubtype_stop ?_)
 exact wpAny_pure (hQ _ hk)
theorem kind_next:builtinKind "next" = none:=by decide +kernel
theorem plain_next:plainId "next" = true:=by decide +kernel
theorem entry_next:entryFor table "next" = some Builtin.«next»:=entryFor_of_tree (by kernel_rfl)
theorem args_next (a b:Value):argsOk "next" ⟨[a,b],[]⟩:=by unfold argsOk; kernel_rfl
theorem kind_iter:builtinKind "iter" = none:=by decide +kernel
theorem plain_iter:plainId "iter" = true:=by decide +kernel
theorem entry_iter:entryFor table "iter" = some Builtin.«iter»:=entryFor_of_tree (by kernel_rfl)
theorem args_iter (a:Value):argsOk "iter" ⟨[a],[]⟩:=by unfold argsOk; kernel_rfl
theorem call_next {it:Addr} {l d:Value} {k:Int} {Q:Value→Shared→Prop} (ho:s.heap.get? it=some (oIter l k))
  (h:wpAny (model prog w) A.in1 (pyNext (.ref it)) (fun r s'=>Q (r.getD d) s') E s):wpAny (model prog w) A (call (.builtin "next") [.ref it,d]) Q E s:=by
 refine Calls.call_function_entry kind_next plain_next entry_next (args_next _ _) ?_
 unfold Builtin.«next»
 refine wpAny_bind (m:=someArgs "next" 1 2 _) (wpAny_pure ?_)
 refine wpAny_bind (m:=specialOf (.ref it) (Str.ofString "__next__")) (wpAny_specialOf (iter_typ ho) slot_listiter_next.lookup ?_)
 rw [if_neg (by decide)]
 exact wpAny_bind (wpAny_mono h (fun r s' q=>wpAny_pure ⟨_,rfl,q⟩) fun _ _ e=>e)
end
noncomputable def eStepL (i l k:Nat):EM (Option AV):=EM.bind (EM.cellAs asList l) fun xs=>EM.bind EM.cutW fun o=>onSome o (fun y=>EM.turn (xs[k]? = some y) (fun σ=>σ.set i (.liter l (k + 1))) (some y)) (EM.turn (xs[k]? = none) (fun σ=>σ.set i .lend) none)
noncomputable def eNextC (i:Nat) (c:Cell):EM (Option AV):=onCLiter c (fun l k=>eStepL i l k) <| onCLend c (EM.ret none) EM.fail
noncomputable def eNext (as:List AV):EM AV:=on2 as (fun it d=>onRef it (fun i=>EM.bind (EM.cell i) fun c=>EM.bind (eNextC i c) fun o=>EM.ret (o.getD d)) EM.fail) EM.fail
noncomputable def eIter (as:List AV):EM AV:=on1 as (fun a=>onRef a (fun l=>EM.bind (EM.cellAs asList l) fun _=>EM.bind (EM.push (.liter l 0)) fun i=>EM.ret (.ref i)) EM.fail) EM.fail
section
variable {X:Ctx} {A:Around} {ρ:Rho} {F:Fz} {σ:St} {s:Shared} {Γ:Kn}
theorem Dens.none {n:Nat} {xs:List AV} {vs:List Value} (d:Dens n ρ F xs vs) {i:Nat} (h:xs[i]? = none):vs[i]? = none:=by
 rw [List.getElem?_eq_none_iff] at h ⊢
 rw [← d.length]; exact h
noncomputable def ROpt (o:Option AV) (v:Option Value):Kn:=⟨fun n ρ F=>ODen n ρ F o v,fun h1 h2 h3=>ODen.imp fun _ _=>Den.mono h1 h2 h3⟩
theorem stepL_ok (hA:A.handled=none) (I:Inv X ρ F σ s) {i l k:Nat} (hi:σ.get i=some (.liter l k)):RunAt σ (eStepL i l k) fun o σ'=>Goes X A ρ F σ s (pyNext (.ref (ρ i))) (ROpt o) σ':=by
 have ho:=I.atIt hi
 refine RunAt.cellAs asList_some fun xs hx=>RunAt.cutW fun o=>(I.atL hx).elim fun ws q=>q.elim fun kk q=>?_
 cases o with
 | some y=>exact RunAt.turn fun hy=>(q.2.nth hy).elim fun v hv=>Goes.to fun Q E hQ=>iterNext_one ho.1 q.1 hv.1 fun h' ho' hk=>hQ _ _ ρ F ⟨v,rfl,hv.2⟩ (I.set hi hk (c':=.liter l (k + 1)) (.ofIt ho' ho.2) s.toks)
 | none=>exact RunAt.turn fun hy=>Goes.to fun Q E hQ=>iterNext_end hA ho.1 q.1 (q.2.none hy) fun h' ho' hk=>hQ _ _ ρ F rfl (I.set hi hk (c':=.lend) (.ofEnd ho') s.toks)
theorem ended_ok (hA:A.handled=none) (I:Inv X ρ F σ s) {i:Nat} (hi:σ.get i=some .lend):Goes X A ρ F σ s (pyNext (.ref (ρ i))) (ROpt none) σ :=
 (I.atEnd hi).elim fun k ho=>Goes.to fun Q E hQ=>iterNext_ended hA ho fun h' hk=>hQ _ _ ρ F rfl (I.grow hk s.toks)
theorem getD_den {n:Nat} {o:Option AV} {v:Option Value} {d:AV} {dv:Value} (h:ODen n ρ F o v) (hd:Den n ρ F d dv):Den n ρ F (o.getD d) (v.getD dv):=by
 cases o with
 | none=>rw [show v=Option.none from h]; exact hd
 | some a=>exact h.elim fun w q=>by rw [q.1]; exact q.2
theorem next_of {i:Nat} {o d:AV} {x:Option AV} {v:Value} {l:Value} {k:Int} {σ':St} (I:Inv X ρ F σ s) (ho:s.heap.get? (ρ i)=some (oIter l k)) (dv:Den σ.n ρ F d v) (h:Goes X A.in1 ρ F σ s (pyNext (.ref (ρ i))) (ROpt x) σ') :
  Goes X A ρ F σ s (call (.builtin "next") [.ref (ρ i),v]) (RDen (x.getD d)) σ':=fun Q E hQ=>call_next ho (h _ E fun r s' ρ' F' hr I' st=>hQ _ s' ρ' F' (getD_den hr (Den.step dv st)) I' st)
theorem Sim.next (hA:A.handled=none) (as:List AV):SimB X A "next" (eNext as) as:=by
 refine on2_ind (P:=SimB X A "next") (fun it d=>?_) fun _=>SimB.fail
 refine onRef_ind (P:=fun x a=>SimB X A "next" x [a,d]) (fun i=>?_) SimB.fail
 refine SimB.of fun σ ρ F s vs I dd=>dens2 (P:=fun vs=>RunAt σ (EM.bind (EM.cell i) fun c=>EM.bind (eNextC i c) fun o=>EM.ret (o.getD d)) fun b σ'=>Goes X A ρ F σ s (call (.builtin "next") vs) (RDen b) σ') dd fun u w (du:u = .ref (ρ i)∧i < σ.n) dw=>?_
 rw [du.1]
 refine RunAt.cell fun c hc=>RunAt.bind (C:=fun o σ'=>Goes X A ρ F σ s (call (.builtin "next") [.ref (ρ i),w]) (RDen (o.getD d)) σ') ?_ fun o σ' h=>RunAt.ret h
 exact onCLiter_ind (P:=fun (x:EM (Option AV)) c=>σ.get i=some c→RunAt σ x fun o σ'=>Goes X A ρ F σ s (call (.builtin "next") [.ref (ρ i),w]) (RDen (o.getD d)) σ') (fun l k hc=>(stepL_ok (A:=A.in1) hA I hc).mono fun o σ' h=>next_of (o:=d) I (I.atIt hc).1 dw h)
  (onCLend_ind (P:=fun (x:EM (Option AV)) c=>σ.get i=some c→RunAt σ x fun o σ'=>Goes X A ρ F σ s (call (.builtin "next") [.ref (ρ i),w]) (RDen (o.getD d)) σ') (fun hc=>RunAt.ret ((I.atEnd hc).elim fun k ho=>next_of (o:=d) I ho dw (ended_ok (A:=A.in1) hA I hc))) fun _=>RunAt.fail) hc
theorem pushIter (I:Inv X ρ F σ s) {l:Nat} (hl:l < σ.n) {Q:Value→Shared→Prop} (hQ:∀ v s' ρ' F',(RDen (.ref σ.n) v).p (σ.push (.liter l 0)).n ρ' F'→Inv X ρ' F' (σ.push (.liter l 0)) s'∧Stp ρ F σ s ρ' F' (σ.push (.liter l 0)) s'→Q v s') :
  Q (.ref s.heap.objs.size) { s with heap:=s.heap.push (oIter (.ref (ρ l)) 0) } :=
 hQ _ _ _ F (Den.fresh ρ F σ _ _) (I.push (a:=s.heap.objs.size) (c:=.liter l 0) (Heap.get?_none_of_le (Nat.le_refl _)) (fun b o e=>Heap.get?_push_of_some _ e) (.ofIt (by rw [Rho.put_lt ρ _ hl]; exact Heap.get?_push_size _ rfl) (Nat.lt_succ_of_lt hl)) s.toks)
theorem R_iter {l:Nat} {xs:List AV} (I:Inv X ρ F σ s) (hx:σ.get l=some (.list xs)):Goes X A ρ F σ s (call (.builtin "iter") [.ref (ρ l)]) (RDen (.ref σ.n)) (σ.push (.liter l 0)):=(I.atL hx).elim fun ws q=>q.elim fun kk q=>Goes.to fun Q E hQ=>by
 refine Calls.call_function_entry kind_iter plain_iter entry_iter (args_iter _) ?_
 unfold Builtin.«iter»
 refine wpAny_bind (m:=someArgs "iter" 1 2 _) (wpAny_pure ?_)
 exact wpAny_bind (wpAny_pyIter_list (items:=ws.toArray) ⟨_,q.1,rfl,kk,rfl⟩ (wpAny_pure ⟨_,rfl,pushIter I (I.lt hx) hQ⟩))
theorem Sim.iter (as:List AV):SimB X A "iter" (eIter as) as:=by
 refine on1_ind (P:=SimB X A "iter") (fun a=>?_) SimB.fail
 refine onRef_ind (P:=fun x a=>SimB X A "iter" x [a]) (fun l=>?_) SimB.fail
 exact SimB.of fun σ ρ F s vs I d=>RunAt.cellAs asList_some fun xs hx=>RunAt.push (RunAt.ret (dens1 (P:=fun vs=>Goes X A ρ F σ s (call (.builtin "iter") vs) (RDen (.ref σ.n)) (σ.push (.liter l 0))) d fun u (du:u = .ref (ρ l)∧l < σ.n)=>du.1 ▸ R_iter I hx))
end
theorem str_len0 {x:Str} (h:(x.length == 0)=true):x=⟨#[]⟩:=by
 have e:x.cps = #[]:=Array.eq_empty_of_size_eq_zero (eq_of_beq h)
 exact congrArg Str.mk e
theorem str_empty_app {x y:Str} (h:(x.length == 0)=true):x ++ y=y:=by
 rw [str_len0 h]
 show (⟨#[] ++ y.cps⟩:Str)=y
 rw [Array.empty_append]
theorem str_app_empty {x y:Str} (h:(y.length == 0)=true):x ++ y=x:=by
 rw [str_len0 h]
 show (⟨x.cps ++ #[]⟩:Str)=x
 rw [Array.append_empty]
theorem str_app_len (x y:Str):(x ++ y).length=x.length + y.length:=Array.size_append
noncomputable def ifOp {α:Type} [DecidableEq α] {γ:Type} (a b:α) (x y:γ):γ:=_root_.cond (a == b) x y
theorem ifOp_ind {α:Type} [DecidableEq α] {γ:Type} {P:γ→α→Prop} {a b:α} {x y:γ} (h:P x b) (h0:P y a):P (ifOp a b x y) a:=cond_ind (P:=fun z=>P z a) (fun e=>(eq_of_beq e).symm ▸ h) h0
section
variable (op:Operator)
noncomputable def eBinI (a b:Int):EM AV:=ifOp op .Add (EM.ret (.int (a + b))) <| ifOp op .Sub (EM.ret (.int (a - b))) <| ifOp op .Mult (EM.retIf (IntMulOk a b) (.int (a * b))) <| ifOp op .Mod (EM.retIf (b ≠ 0) (.int (a.fmod b))) <|
 ifOp op .FloorDiv (EM.retIf (b ≠ 0∧divisionGoesByPylong a b=false) (.int (a.fdiv b))) EM.fail
noncomputable def eBinS (a b:Str):EM AV:=ifOp op .Add (EM.retIf (a.length + b.length≤1000000) (.str (a ++ b))) EM.fail
noncomputable def eBin (a b:AV):EM AV:=onInt a (fun i=>onInt b (fun j=>eBinI op i j) EM.fail) <| onStr a (fun i=>onStr b (fun j=>eBinS op i j) EM.fail) EM.fail
noncomputable def eInpI (a b:Int):EM AV:=ifOp op .Add (EM.ret (.int (a + b))) <| ifOp op .Sub (EM.ret (.int (a - b))) EM.fail
noncomputable def eInp (a b:AV):EM AV:=onInt a (fun i=>onInt b (fun j=>eInpI op i j) EM.fail) <| onStr a (fun i=>onStr b (fun j=>eBinS op i j) EM.fail) EM.fail
end
noncomputable def isNone (a:AV):Option Bool:=onVal a (fun v=>onVNone v (some true) none) (some false)
noncomputable def eCmpI (op:CmpOp) (a b:Int):EM AV:=ifOp op .Eq (EM.ret (.bool (a == b))) <| ifOp op .NotEq (EM.ret (.bool (a != b))) <| ifOp op .Lt (EM.ret (.bool (decide (a < b)))) <| ifOp op .LtE (EM.ret (.bool (decide (a≤b)))) <|
 ifOp op .Gt (EM.ret (.bool (decide (a > b)))) <| ifOp op .GtE (EM.ret (.bool (decide (a ≥ b)))) EM.fail
noncomputable def eCmpN (op:CmpOp) (a:AV):EM AV:=ifOp op .Is (EM.bind (EM.opt (isNone a)) fun r=>EM.ret (.bool r)) <| ifOp op .IsNot (EM.bind (EM.opt (isNone a)) fun r=>EM.ret (.bool (!r))) EM.fail
noncomputable def isNoneV (a:AV):Bool:=onVal a (fun v=>onVNone v true false) false
noncomputable def eCmpS (op:CmpOp) (x y:Str):EM AV:=ifOp op .Eq (EM.ret (.bool (x == y))) <| ifOp op .In (EM.ret (.bool (Txt.contains y x))) EM.fail
noncomputable def eCmp (op:CmpOp) (a b:AV):EM AV:=_root_.cond (isNoneV b) (eCmpN op a) (onInt a (fun i=>onInt b (fun j=>eCmpI op i j) EM.fail) <| onStr a (fun x=>onStr b (fun y=>eCmpS op x y) EM.fail) EM.fail)
section
variable {X:Ctx} {A:Around} {ρ:Rho} {F:Fz} {σ:St} {s:Shared} {Γ:Kn} {α β:Type} {x:EM β} {R:β→α→Kn}
section
variable (T:Value→Sem α)
theorem Sim.isInt {i:Int} {v:Value} (hv:Γ.le (RDen (.int i) v)) (H:∀ t,Sim X A Γ R x (T (.int i t))):Sim X A Γ R x (T v):=Sim.know (P:=∃ t,v = .int i t) hv fun q=>q.elim fun t e=>e ▸ H t
theorem Sim.isStr {i:Str} {v:Value} (hv:Γ.le (RDen (.str i) v)) (H:∀ t,Sim X A Γ R x (T (.str i t))):Sim X A Γ R x (T v):=Sim.know (P:=∃ t,v = .str i t) hv fun q=>q.elim fun t e=>e ▸ H t
theorem Sim.caseInt {a:AV} {v:Value} {f:Int→EM β} {d:EM β} (hv:Γ.le (RDen a v)) (H:∀ i t,Sim X A Γ R (f i) (T (.int i t))) (h0:Sim X A Γ R d (T v)):Sim X A Γ R (onInt a f d) (T v) :=
 onInt_ind (P:=fun x a=>Γ.le (RDen a v)→Sim X A Γ R x (T v)) (fun i h=>Sim.isInt T h (H i)) (fun _=>h0) hv
theorem Sim.caseStr {a:AV} {v:Value} {f:Str→EM β} {d:EM β} (hv:Γ.le (RDen a v)) (H:∀ i t,Sim X A Γ R (f i) (T (.str i t))) (h0:Sim X A Γ R d (T v)):Sim X A Γ R (onStr a f d) (T v) :=
 onStr_ind (P:=fun x a=>Γ.le (RDen a v)→Sim X A Γ R x (T v)) (fun i h=>Sim.isStr T h (H i)) (fun _=>h0) hv
end
theorem Sim.ret1 {b:β} {t:Sem α} (h:∀ ρ F σ s,Inv X ρ F σ s→Γ.p σ.n ρ F→Goes X A ρ F σ s t (R b) σ):Sim X A Γ R (EM.ret b) t:=Sim.ofRun fun σ ρ F s I g=>RunAt.ret (h ρ F σ s I g)
theorem Sim.retIf1 {P:Prop} {b:β} {t:Sem α} (h:P→∀ ρ F σ s,Inv X ρ F σ s→Γ.p σ.n ρ F→Goes X A ρ F σ s t (R b) σ):Sim X A Γ R (EM.retIf P b) t:=Sim.ofRun fun σ ρ F s I g=>RunAt.retIf fun p=>h p ρ F σ s I g
theorem int_at {i:Int} {Q:Value→Shared→Prop} (hQ:∀ v k,(RDen (.int i) v).p σ.n ρ F→Q v { s with toks:=k }):Q (.int i s.toks) { s with toks:=s.toks + 1 }:=hQ _ _ ⟨_,rfl⟩
theorem int_post {i:Int} {Q:Value→Shared→Prop} (hQ:∀ v k,(RDen (.int i) v).p σ.n ρ F→Q v { s with toks:=k }):(Made.int i).post Q s:=int_at hQ
theorem str_at {x y:Str} {Q:Value→Shared→Prop} (t u:Tok) (h:x.length + y.length≤1000000) (hQ:∀ v k,(RDen (.str (x ++ y)) v).p σ.n ρ F→Q v { s with toks:=k }) :
  (if (x.length == 0)=true then Made.val (.str y u) else if (y.length == 0)=true then Made.val (.str x t) else Made.str (x ++ y)).post Q s:=by
 have h1:(x.length == 0)=true→Q (.str y u) s:=fun h=>hQ (.str y u) s.toks (show ∃ t,Value.str y u = .str (x ++ y) t from ⟨u,by rw [str_empty_app h]⟩)
 have h2:(y.length == 0)=true→Q (.str x t) s:=fun h=>hQ (.str x t) s.toks (show ∃ t',Value.str x t = .str (x ++ y) t' from ⟨t,by rw [str_app_empty h]⟩)
 have h3:(x ++ y).length≤sizeLine:=by rw [str_app_len]; exact Nat.le_trans h (by decide)
 split
 ·exact h1 ‹_›
 ·split
  ·exact h2 ‹_›
  ·exact ⟨h3,hQ (.str (x ++ y) s.toks) _ (show ∃ t',Value.str (x ++ y) s.toks = .str (x ++ y) t' from ⟨_,rfl⟩)⟩
theorem R_mod {a b:Int} {t u:Tok} (I:Inv X ρ F σ s) (h:b ≠ 0):Goes X A ρ F σ s (binaryOp .Mod (.int a t) (.int b u)) (RDen (.int (a.fmod b))) σ:=by
 refine Goes.tok I fun Q E hQ=>?_
 have hb:¬(b == 0)=true:=fun e=>h (eq_of_beq e)
 exact AutoIntOps.mod_1 hb (int_post hQ)
theorem R_fdiv {a b:Int} {t u:Tok} (I:Inv X ρ F σ s) (h:b ≠ 0∧divisionGoesByPylong a b=false):Goes X A ρ F σ s (binaryOp .FloorDiv (.int a t) (.int b u)) (RDen (.int (a.fdiv b))) σ:=by
 refine Goes.tok I fun Q E hQ=>?_
 have hb:¬(b == 0)=true:=fun e=>h.1 (eq_of_beq e)
 exact AutoIntOps.floordiv_1 hb (by rw [h.2]; decide) (int_post hQ)
theorem Sim.binI (op:Operator) (a b:Int) (t u:Tok):Sim X A Γ RDen (eBinI op a b) (binaryOp op (.int a t) (.int b u)):=by
 unfold eBinI
 refine ifOp_ind (P:=fun x op=>Sim X A Γ RDen x (binaryOp op (.int a t) (.int b u))) ?_ ?_
 ·exact Sim.ret1 fun ρ F σ s I g=>Goes.tok I fun Q E hQ=>P.add_int (int_at hQ)
 refine ifOp_ind (P:=fun x op=>Sim X A Γ RDen x (binaryOp op (.int a t) (.int b u))) ?_ ?_
 ·exact Sim.ret1 fun ρ F σ s I g=>Goes.tok I fun Q E hQ=>P.sub_int (int_at hQ)
 refine ifOp_ind (P:=fun x op=>Sim X A Γ RDen x (binaryOp op (.int a t) (.int b u))) ?_ ?_
 ·exact Sim.retIf1 fun h ρ F σ s I g=>Goes.tok I fun Q E hQ=>P.mul_int (int_at hQ) h
 refine ifOp_ind (P:=fun x op=>Sim X A Γ RDen x (binaryOp op (.int a t) (.int b u))) ?_ ?_
 ·refine Sim.retIf1 ?_
  intro h ρ F σ s I g
  exact R_mod I h
 refine ifOp_ind (P:=fun x op=>Sim X A Γ RDen x (binaryOp op (.int a t) (.int b u))) ?_ ?_
 ·exact Sim.retIf1 fun h ρ F σ s I g=>R_fdiv I h
 exact Sim.fail
theorem Sim.binS (op:Operator) (a b:Str) (t u:Tok):Sim X A Γ RDen (eBinS op a b) (binaryOp op (.str a t) (.str b u)):=by
 unfold eBinS
 refine ifOp_ind (P:=fun x op=>Sim X A Γ RDen x (binaryOp op (.str a t) (.str b u))) ?_ ?_
 ·exact Sim.retIf1 fun h ρ F σ s I g=>Goes.tok I fun Q E hQ=>P.add_str (str_at t u h hQ)
 exact Sim.fail
theorem Sim.bin {op:Operator} {a b:AV} {v w:Value} (ha:Γ.le (RDen a v)) (hb:Γ.le (RDen b w)):Sim X A Γ RDen (eBin op a b) (binaryOp op v w) :=
 Sim.caseInt (fun v=>binaryOp op v w) ha (fun i t=>Sim.caseInt (fun w=>binaryOp op (.int i t) w) hb (fun j u=>Sim.binI op i j t u) Sim.fail) (Sim.caseStr (fun v=>binaryOp op v w) ha (fun i t=>Sim.caseStr (fun w=>binaryOp op (.str i t) w) hb (fun j u=>Sim.binS op i j t u) Sim.fail) Sim.fail)
theorem Sim.inpI (op:Operator) (a b:Int) (t u:Tok):Sim X A Γ RDen (eInpI op a b) (inplaceOp op (.int a t) (.int b u)):=by
 unfold eInpI
 refine ifOp_ind (P:=fun x op=>Sim X A Γ RDen x (inplaceOp op (.int a t) (.int b u))) ?_ ?_
 ·exact Sim.ret1 fun ρ F σ s I g=>Goes.tok I fun Q E hQ=>P.iadd_int (int_at hQ)
 refine ifOp_ind (P:=fun x op=>Sim X A Γ RDen x (inplaceOp op (.int a t) (.int b u))) ?_ ?_
 ·exact Sim.ret1 fun ρ F σ s I g=>Goes.tok I fun Q E hQ=>P.isub_int (int_at hQ)
 exact Sim.fail
theorem Sim.inpS (op:Operator) (a b:Str) (t u:Tok):Sim X A Γ RDen (eBinS op a b) (inplaceOp op (.str a t) (.str b u)):=by
 unfold eBinS
 refine ifOp_ind (P:=fun x op=>Sim X A Γ RDen x (inplaceOp op (.str a t) (.str b u))) ?_ ?_
 ·exact Sim.retIf1 fun h ρ F σ s I g=>Goes.tok I fun Q E hQ=>P.iadd_str (str_at t u h hQ)
 exact Sim.fail
theorem Sim.inp {op:Operator} {a b:AV} {v w:Value} (ha:Γ.le (RDen a v)) (hb:Γ.le (RDen b w)):Sim X A Γ RDen (eInp op a b) (inplaceOp op v w) :=
 Sim.caseInt (fun v=>inplaceOp op v w) ha (fun i t=>Sim.caseInt (fun w=>inplaceOp op (.int i t) w) hb (fun j u=>Sim.inpI op i j t u) Sim.fail) (Sim.caseStr (fun v=>inplaceOp op v w) ha (fun i t=>Sim.caseStr (fun w=>inplaceOp op (.str i t) w) hb (fun j u=>Sim.inpS op i j t u) Sim.fail) Sim.fail)
theorem isNone_val {n:Nat} {a:AV} {v:Value} {b:Bool} (d:Den n ρ F a v) (h:isNone a=some b):plainIs v .none=true∧(v == .none)=b:=by
 cases a with
 | val w =>
  rw [show v=w from d]
  exact onVNone_ind (P:=fun (x:Option Bool) w=>x=some b→plainIs w .none=true∧(w == .none)=b) (fun h=>⟨rfl,Option.some.inj h⟩) (fun h=>noneOf h) h
 | bool c=>rw [show v = .bool c from d]; exact ⟨rfl,Option.some.inj h⟩
 | int i=>exact (den_int d).elim fun t e=>e ▸ ⟨rfl,Option.some.inj h⟩
 | str x=>exact (den_str d).elim fun t e=>e ▸ ⟨rfl,Option.some.inj h⟩
 | ref i=>exact d.1 ▸ ⟨rfl,Option.some.inj h⟩
 | tup xs=>cases den_tup d with | mk a vs k e=>rw [e]; exact ⟨rfl,Option.some.inj h⟩
 | lst xs=>cases den_lst d with | mk a vs k e=>rw [e]; exact ⟨rfl,Option.some.inj h⟩
 | obj C fs=>cases den_obj d with | mk a d' od es k e=>rw [e]; exact ⟨rfl,Option.some.inj h⟩
 | slo C fs=>cases den_slo d with | mk a d' od vs e=>rw [e]; exact ⟨rfl,Option.some.inj h⟩
 | clo a b c e f=>cases (show dClo n ρ F a b c e f v from d) with | mk a qual o pm code ct e=>rw [e]; exact ⟨rfl,Option.some.inj h⟩
theorem Sim.cmpI (op:CmpOp) (a b:Int) (t u:Tok):Sim X A Γ RDen (eCmpI op a b) (compareOp op (.int a t) (.int b u)):=by
 unfold eCmpI
 refine ifOp_ind (P:=fun x op=>Sim X A Γ RDen x (compareOp op (.int a t) (.int b u))) ?_ ?_
 ·exact Sim.ret1 fun ρ F σ s I g=>Goes.same I fun Q E hQ=>P.eq_int (hQ _ rfl)
 refine ifOp_ind (P:=fun x op=>Sim X A Γ RDen x (compareOp op (.int a t) (.int b u))) ?_ ?_
 ·exact Sim.ret1 fun ρ F σ s I g=>Goes.same I fun Q E hQ=>P.ne_int (hQ _ rfl)
 refine ifOp_ind (P:=fun x op=>Sim X A Γ RDen x (compareOp op (.int a t) (.int b u))) ?_ ?_
 ·exact Sim.ret1 fun ρ F σ s I g=>Goes.same I fun Q E hQ=>P.lt_int (hQ _ rfl)
 refine ifOp_ind (P:=fun x op=>Sim X A Γ RDen x (compareOp op (.int a t) (.int b u))) ?_ ?_
 ·exact Sim.ret1 fun ρ F σ s I g=>Goes.same I fun Q E hQ=>P.le_int (hQ _ rfl)
 refine ifOp_ind (P:=fun x op=>Sim X A Γ RDen x (compareOp op (.int a t) (.int b u))) ?_ ?_
 ·exact Sim.ret1 fun ρ F σ s I g=>Goes.same I fun Q E hQ=>P.gt_int (hQ _ rfl)
 refine ifOp_ind (P:=fun x op=>Sim X A Γ RDen x (compareOp op (.int a t) (.int b u))) ?_ ?_
 ·exact Sim.ret1 fun ρ F σ s I g=>Goes.same I fun Q E hQ=>P.ge_int (hQ _ rfl)
 exact Sim.fail
theorem isNoneV_is {n:Nat} {b:AV} {w:Value}:isNoneV b=true→Den n ρ F b w→w = .none :=
 onVal_ind (P:=fun x b=>x=true→Den n ρ F b w→w = .none) (fun v h d=>(show w=v from d).trans (onVNone_ind (P:=fun x v=>x=true→v = .none) (fun _=>rfl) ff h)) ff
theorem Sim.cmpN (op:CmpOp) {a:AV} {v:Value} (ha:Γ.le (RDen a v)):Sim X A Γ RDen (eCmpN op a) (compareOp op v .none):=by
 unfold eCmpN
 refine ifOp_ind (P:=fun x op=>Sim X A Γ RDen x (compareOp op v .none)) ?_ ?_
 ·exact Sim.opt fun c h=>Sim.ret1 fun ρ F σ s I g=>Goes.same I fun Q E hQ=>let q:=isNone_val (ha _ _ _ g) h; wpAny_is_plain q.1 (by rw [q.2]; exact hQ _ rfl)
 refine ifOp_ind (P:=fun x op=>Sim X A Γ RDen x (compareOp op v .none)) ?_ ?_
 ·exact Sim.opt fun c h=>Sim.ret1 fun ρ F σ s I g=>Goes.same I fun Q E hQ=>let q:=isNone_val (ha _ _ _ g) h; wpAny_isNot_plain q.1 (by rw [q.2]; exact hQ _ rfl)
 exact Sim.fail
theorem Sim.cmpS (op:CmpOp) (x y:Str) (t u:Tok):Sim X A Γ RDen (eCmpS op x y) (compareOp op (.str x t) (.str y u)):=by
 unfold eCmpS
 refine ifOp_ind (P:=fun z op=>Sim X A Γ RDen z (compareOp op (.str x t) (.str y u))) ?_ ?_
 ·exact Sim.ret1 fun ρ F σ s I g=>Goes.same I fun Q E hQ=>PyProof.Rows.eq_str (hQ _ rfl)
 exact ifOp_ind (P:=fun z op=>Sim X A Γ RDen z (compareOp op (.str x t) (.str y u))) (Sim.ret1 fun ρ F σ s I g=>Goes.same I fun Q E hQ=>P.in_str (hQ _ rfl)) Sim.fail
theorem Sim.cmp {op:CmpOp} {a b:AV} {v w:Value} (ha:Γ.le (RDen a v)) (hb:Γ.le (RDen b w)):Sim X A Γ RDen (eCmp op a b) (compareOp op v w) :=
 cond_ind (P:=fun x=>Sim X A Γ RDen x (compareOp op v w)) (fun h=>Sim.know (P:=w = .none) (fun _ _ _ g=>isNoneV_is h (hb _ _ _ g)) fun e=>e ▸ Sim.cmpN op ha)
  (Sim.caseInt (fun v=>compareOp op v w) ha (fun i t=>Sim.caseInt (fun w=>compareOp op (.int i t) w) hb (fun j u=>Sim.cmpI op i j t u) Sim.fail) (Sim.caseStr (fun v=>compareOp op v w) ha (fun i t=>Sim.caseStr (fun w=>compareOp op (.str i t) w) hb (fun j u=>Sim.cmpS op i j t u) Sim.fail) Sim.fail))
end
noncomputable def eAt (xs:List AV) (k:Int):EM AV:=EM.bind EM.cut fun p=>EM.retIf (0≤k∧k < 1000000∧xs[k.toNat]? = some p.2) p.2
noncomputable def eAtL (xs:List AV) (k:Int):EM AV:=EM.bind EM.cut fun p=>EM.retIf ((0≤k∧k < 1000000∧xs[k.toNat]? = some p.2) ∨ (k = -1∧xs[xs.length - 1]? = some p.2)) p.2
noncomputable def eGetItem (a b:AV):EM AV:=onInt b (fun k=>onRef a (fun i=>EM.bind (eCellL i) fun xs=>eAtL xs k) <| onTup a (fun xs=>eAt xs k) <| onStr a (fun x=>EM.retIf (0≤k∧k < x.length∧x.length≤1000000) (.str ⟨#[x.cps[k.toNat]!]⟩)) EM.fail) EM.fail
noncomputable def eSetItem (a b c:AV):EM Unit:=onRef a (fun i=>onInt b (fun k=>EM.bind (eCellL i) fun xs=>EM.bind (EM.cond (0≤k∧k < xs.length)) fun _=>eSetL i (xs.set k.toNat c)) EM.fail) EM.fail
section
variable {X:Ctx} {A:Around} {ρ:Rho} {F:Fz} {σ:St} {s:Shared} {Γ:Kn}
theorem RunAt.itemAt {xs:List AV} {k:Int} {C:AV→St→Prop} (h:∀ y,0≤k→k < 1000000→xs[k.toNat]? = some y→C y σ):RunAt σ (eAt xs k) C:=RunAt.word fun p=>RunAt.retIf fun q=>h p.2 q.1 q.2.1 q.2.2
theorem RunAt.itemL {xs:List AV} {k:Int} {C:AV→St→Prop} (h:∀ y,0≤k→k < 1000000→xs[k.toNat]? = some y→C y σ) (h2:∀ y,k = -1→xs[xs.length - 1]? = some y→C y σ):RunAt σ (eAtL xs k) C:=RunAt.word fun p=>RunAt.retIf fun q=>q.elim (fun q=>h p.2 q.1 q.2.1 q.2.2) fun q=>h2 p.2 q.1 q.2
theorem item_list (I:Inv X ρ F σ s) {i:Nat} {xs:List AV} {k:Int} {t:Tok} {y:AV} (hx:σ.get i=some (.list xs)) (h0:0≤k) (h1:k < 1000000) (h2:xs[k.toNat]? = some y):Goes X A ρ F σ s (getItem (.ref (ρ i)) (.int k t)) (RDen y) σ :=
 (I.atL hx).elim fun ws q=>q.elim fun kk q=>(q.2.nth h2).elim fun w hw=>Goes.same I fun Q E hQ=>wpAny_getItem_list (items:=ws.toArray) ⟨_,q.1,rfl,kk,rfl⟩ h0 (by omega) (x:=w) (by simpa using hw.1) (hQ w hw.2)
theorem item_last (I:Inv X ρ F σ s) {i:Nat} {xs:List AV} {t:Tok} {y:AV} (hx:σ.get i=some (.list xs)) (h2:xs[xs.length - 1]? = some y):Goes X A ρ F σ s (getItem (.ref (ρ i)) (.int (-1) t)) (RDen y) σ :=
 (I.atL hx).elim fun ws q=>q.elim fun kk q=>(q.2.nth h2).elim fun w hw=>Goes.same I fun Q E hQ=>by
  have hl:xs.length - 1 < xs.length:=by
   rcases Nat.lt_or_ge (xs.length - 1) xs.length with p | p
   ·exact p
   ·rw [List.getElem?_eq_none p] at h2; exact noneOf h2
  have hz:=q.2.length
  refine wpAny_getItem_list_neg (items:=ws.toArray) ⟨_,q.1,rfl,kk,rfl⟩ (by decide) (by rw [List.size_toArray]; omega) (by decide) (x:=w) ?_ (hQ w hw.2)
  rw [List.size_toArray,show (-1 + (ws.length:Int)).toNat=xs.length - 1 by omega]
  simpa using hw.1
theorem lt_of_some {α:Type} {xs:List α} {i:Nat} {y:α} (h:xs[i]? = some y):i < xs.length:=by
 rcases Nat.lt_or_ge i xs.length with q | q
 ·exact q
 ·rw [List.getElem?_eq_none q] at h; exact noneOf h
theorem item_tup (I:Inv X ρ F σ s) {xs:List AV} {v:Value} {k:Int} {t:Tok} {y:AV} (d:Den σ.n ρ F (.tup xs) v) (h0:0≤k) (h1:k < 1000000) (h2:xs[k.toNat]? = some y):Goes X A ρ F σ s (getItem v (.int k t)) (RDen y) σ:=by
 cases den_tup d with | mk a vs kk e h hs =>
 refine (hs.nth h2).elim fun w hw=>Goes.same I fun Q E hQ=>?_
 have hlt:=lt_of_some hw.1
 rw [e]
 exact P.getItem_tuple (I.froz _ _ h) (by omega) (by omega) (k:=k.toNat) (y:=w) (seqIndex_of h0 (by simp only [List.size_toArray]; omega)) (by simpa using hw.1) (hQ w hw.2)
theorem item_str (I:Inv X ρ F σ s) {x:Str} {t u:Tok} {k:Int} (h:0≤k∧k < x.length∧x.length≤1000000):Goes X A ρ F σ s (getItem (.str x t) (.int k u)) (RDen (.str ⟨#[x.cps[k.toNat]!]⟩)) σ:=Goes.tok I fun Q E hQ=>by
 have hlt:k.toNat < x.cps.size:=by have:x.length=x.cps.size:=rfl; omega
 refine P.getItem_str (c:=x.cps[k.toNat]!) (by simp only [Bool.or_eq_false_iff,decide_eq_false_iff_not]; omega) ?_ (hQ _ _ ⟨_,rfl⟩)
 rw [seqIndex_of h.1 h.2.1,Option.bind_some,Array.getElem?_eq_getElem hlt,getElem!_pos x.cps k.toNat hlt]
theorem Sim.getItem {a b:AV} {v w:Value} (ha:Γ.le (RDen a v)) (hb:Γ.le (RDen b w)):Sim X A Γ RDen (eGetItem a b) (getItem v w) :=
 Sim.caseInt (fun w=>PySem.getItem v w) hb (fun k t=>onRef_ind (P:=fun x a=>Γ.le (RDen a v)→Sim X A Γ RDen x (PySem.getItem v (.int k t))) (fun i h=>Sim.ofRun fun σ ρ F s I g=>RunAt.cellL fun xs hx _=>RunAt.itemL (fun y h0 h1 h2=>(show v = .ref (ρ i)∧i < σ.n from h _ _ _ g).1 ▸ item_list I hx h0 h1 h2) fun y h0 h2=>(show v = .ref (ρ i)∧i < σ.n from h _ _ _ g).1 ▸ h0 ▸ item_last I hx h2)
  (onTup_ind (P:=fun x a=>Γ.le (RDen a v)→Sim X A Γ RDen x (PySem.getItem v (.int k t))) (fun xs h=>Sim.ofRun fun σ ρ F s I g=>RunAt.itemAt fun y h0 h1 h2=>item_tup I (h _ _ _ g) h0 h1 h2)
   fun h=>Sim.caseStr (fun v=>PySem.getItem v (.int k t)) h (fun x u=>Sim.retIf1 fun q ρ F σ s I g=>item_str I q) Sim.fail) ha) Sim.fail
theorem Dens.setAt {n:Nat} {c:AV} {v:Value} (dc:Den n ρ F c v):∀ {xs:List AV} {vs:List Value} (i:Nat),Dens n ρ F xs vs→Dens n ρ F (xs.set i c) (vs.set i v)
 | [],_,_,d=>by rw [dens_n d]; rfl
 | _ :: _,[],_,d=>d.elim
 | _ :: _,_ :: _,0,d=>⟨dc,d.2⟩
 | _ :: _,_ :: _,i + 1,d=>⟨d.1,Dens.setAt dc i d.2⟩
theorem set_list (I:Inv X ρ F σ s) {i:Nat} {xs:List AV} {k:Int} {t:Tok} {c:AV} {x:Value} (hx:σ.get i=some (.list xs)) (hl:xs.length≤1000000) (h0:0≤k) (h1:k < xs.length) (dc:Den σ.n ρ F c x):Goes X A ρ F σ s (setItem (.ref (ρ i)) (.int k t) x) (fun _=>Kn.top) (σ.set i (.list (xs.set k.toNat c))):=Goes.to fun Q E hQ=>by
 cases I.lst hx hl with | mk ws kk ho dw hs =>
 have hT:=plist ho rfl
 have hlen:=dw.length
 unfold PySem.setItem
 refine wpAny_holding ?_
 refine wpAny_bind (wpAny_sequenceKey hT (by decide) ?_)
 refine wpAny_bind (wpAny_callSpecial?_slot (name:=Str.ofString "__setitem__") hT PySem.F.slot_list_setitem (wpAny_call_entry PySem.F.slot_list_setitem hT PySem.F.entry_list_setitem ?_ (PySem.F.args_list_setitem_3 _ _ _)))
 refine wpAny_bind (m:=Builtin.List.listSubscript? (.int k _)) (wpAny_listSubscript_int (fitsIndex_of h0 (by omega)) ?_)
 obtain ⟨j,rfl⟩:=Int.eq_ofNat_of_zero_le h0
 have hj:j < ws.length:=by omega
 show wpAny _ _ ((seqItemAt (ρ i) j >>= fun r=>pure (r.map (j,·))) >>= _) _ _ s
 refine wpAny_bind (wpAny_bind (wpAny_seqItemAt ho rfl (wpAny_pure ?_)))
 have hx':ws.toArray[j]? = some ws[j]:=by simp [hj]
 rw [hx']
 refine wpAny_bind (m:=setSeqItemAt (ρ i) j x) (wpAny_setSeqItemAt ho rfl ?_)
 exact wpAny_pure ⟨.none,rfl,wpAny_pure (hQ () _ ρ F trivial (I.listSet (ys:=xs.set j c) (ws:=ws.set j x) hx ho (f:=fun z=>z.setIfInBounds j x) (by simp) (dw.setAt (i:=j) dc) s.toks))⟩
theorem Sim.setItem {a b c:AV} {v w x:Value} (ha:Γ.le (RDen a v)) (hb:Γ.le (RDen b w)) (hcc:Γ.le (RDen c x)):Sim X A Γ (fun _ _=>Kn.top) (eSetItem a b c) (setItem v w x) :=
 onRef_ind (P:=fun y a=>Γ.le (RDen a v)→Sim X A Γ (fun _ _=>Kn.top) y (PySem.setItem v w x)) (fun i h=>Sim.caseInt (fun w=>PySem.setItem v w x) hb (fun k t=>Sim.ofRun fun σ ρ F s I g=>RunAt.cellL fun xs hx hl=>RunAt.cond fun q=>RunAt.updE ((show v = .ref (ρ i)∧i < σ.n from h _ _ _ g).1 ▸ set_list I hx hl q.1 q.2 (hcc _ _ _ g))) Sim.fail) (fun _=>Sim.fail) ha
end
theorem condO {α:Type} {b:Bool} {o:Option α} {a:α} (h:_root_.cond b o none=some a):b=true∧o=some a:=by
 cases b with
 | true=>exact ⟨rfl,h⟩
 | false=>exact noneOf h
noncomputable def asMap (e:Cell):Option ((Str→Int) × List (Str × AV)):=onCMap e (fun h m=>some (h,m)) none
theorem asMap_some {e:Cell} {q:(Str→Int) × List (Str × AV)}:asMap e=some q→e = .map q.1 q.2:=onCMap_ind (P:=fun (x:Option ((Str→Int) × List (Str × AV))) e=>x=some q→e = .map q.1 q.2) (fun h m e=>by rw [← Option.some.inj e]) fun h=>noneOf h
noncomputable def setM (m:List (Str × AV)) (k:Str) (c:AV):List (Str × AV):=m.map fun q=>_root_.cond (q.1 == k) (q.1,c) q
section
variable (hs:Str→Int)
noncomputable def eGetM (a:AV) (k:Str):EM AV:=onRef a (fun i=>EM.bind (EM.cellAs asMap i) fun q=>EM.bind (EM.cond (q.1=hs)) fun _=>EM.opt (q.2.lookup k)) EM.fail
noncomputable def eSetM (a:AV) (k:Str) (c:AV):EM Unit:=onRef a (fun i=>EM.bind (EM.cellAs asMap i) fun q=>EM.bind (EM.chk (q.2.lookup k).isSome) fun _=>EM.turn (q.1=hs∧q.2.length≤1000) (fun σ=>σ.set i (.map hs (setM q.2 k c))) ()) EM.fail
noncomputable def eGetX (a b:AV):EM AV:=onStr b (fun k=>eGetM hs a k) (eGetItem a b)
noncomputable def eSetX (a b c:AV):EM Unit:=onStr b (fun k=>eSetM hs a k c) (eSetItem a b c)
end
noncomputable def rawItems (o:Obj):Option (List Value):=onDSeq o.data (fun vs k=>_root_.cond ((Nat.beq k 0 && (o.cls == .type "list")) && (o.dict.isNone && Nat.beq o.slots.size 0)) (some vs.toList) none) none
theorem rawItems_some {o:Obj} {vs:List Value} (h:rawItems o=some vs):o=oList vs 0:=by
 cases o with | mk c d dt sl =>
 cases dt with
 | seq items k =>
  have h0:=condO (b:=(Nat.beq k 0 && (c == .type "list")) && (d.isNone && Nat.beq sl.size 0)) (o:=some items.toList) h
  rw [Bool.and_eq_true,Bool.and_eq_true,Bool.and_eq_true] at h0
  rw [Nat.eq_of_beq_eq_true h0.1.1.1,eq_of_beq h0.1.1.2,Option.isNone_iff_eq_none.mp h0.1.2.1,Array.eq_empty_of_size_eq_zero (Nat.eq_of_beq_eq_true h0.1.2.2),← Option.some.inj h0.2]
  rfl
 | _=>exact noneOf h
noncomputable def standL (K:Frag) (v:Value):Option (List Value):=onVRef v (fun T=>(K.lookup T).bind rawItems) none
theorem standL_ok {K:Frag} {v:Value} {vs:List Value}:standL K v=some vs→∃ T,v = .ref T∧K.lookup T=some (oList vs 0):=onVRef_ind (P:=fun (x:Option (List Value)) v=>x=some vs→∃ T,v = .ref T∧K.lookup T=some (oList vs 0)) (fun T h=>(Option.bind_eq_some_iff.mp h).elim fun o q=>⟨T,rfl,rawItems_some q.2 ▸ q.1⟩) fun h=>noneOf h
noncomputable def eGetS (K:Frag) (hs:Str→Int) (a b:AV):EM AV:=onVal a (fun v=>onInt b (fun k=>EM.bind (EM.opt (standL K v)) fun vs=>EM.bind (EM.cond (vs.length≤1000000)) fun _=>eAt (vs.map ofStatic) k) EM.fail) (eGetX hs a b)
noncomputable def strsOf (vs:List Value):Option (List Str):=vs.foldr (fun v o=>onVStr v (fun x _=>o.map (x :: ·)) none) (some [])
noncomputable def strIs (x:Str) (v:Value):Bool:=onVStr v (fun y _=>y == x) false
noncomputable def eInS (K:Frag) (a:AV) (v:Value):EM AV:=onStr a (fun x=>EM.bind (EM.opt ((standL K v).bind strsOf)) fun ys=>EM.ret (.bool (ys.any fun y=>y == x))) EM.fail
section
variable {P:Program} {w:World} {n:Nat} {ρ:Rho} {F:Fz}
theorem pairsK:∀ {es:List DictEntry} {kvs:List (Str × Value)},PairsS es kvs→PySem.Pairs (strKind P w) es kvs
 | [],[],_=>.nil
 | [],_ :: _,h=>h.elim
 | _ :: _,[],h=>h.elim
 | _ :: _,_ :: _,h=>.cons h.1.1 h.1.2 (pairsK h.2)
theorem pairsS {es:List DictEntry} {kvs:List (Str × Value)} (h:PySem.Pairs (strKind P w) es kvs):PairsS es kvs:=by
 induction h with
 | nil=>trivial
 | cons a b _ ih=>exact ⟨⟨a,b⟩,ih⟩
theorem map_dict {h:Heap} {a:Addr} {m:List (Str × AV)} (x:CellAt n ρ F h a (.map (hashStr w) m)):∃ kvs,h.DictOf (strKind P w) a kvs∧kvs.map (·.1)=m.map (·.1)∧Dens n ρ F (m.map (·.2)) (kvs.map (·.2)):=x.ex fun o ho (q:MapO n ρ F (hashStr w) m o)=>by
 cases q with | mk kvs es ep hx hd hk hp hn hm d=>exact ⟨kvs,⟨o,es,ep,ho,hx,hd,hk,pairsK hp,hn⟩,hm,d⟩
theorem dict_map {h:Heap} {a:Addr} {m:List (Str × AV)} {kvs:List (Str × Value)} (x:h.DictOf (strKind P w) a kvs) (hm:kvs.map (·.1)=m.map (·.1)) (d:Dens n ρ F (m.map (·.2)) (kvs.map (·.2))):CellAt n ρ F h a (.map (hashStr w) m) :=
 x.elim fun o q=>q.elim fun es q=>q.elim fun ep q=>⟨o,q.1,kvs,es,ep,q.2.1,q.2.2.1,q.2.2.2.1,pairsS q.2.2.2.2.1,q.2.2.2.2.2,hm,d⟩
theorem look_at {k:Str} {av:AV}:∀ {m:List (Str × AV)} {kvs:List (Str × Value)},kvs.map (·.1)=m.map (·.1)→Dens n ρ F (m.map (·.2)) (kvs.map (·.2))→m.lookup k=some av→∃ v,valueAt kvs k=some v∧Den n ρ F av v
 | [],_,_,_,h=>noneOf h
 | _ :: _,[],e,_,_=>nomatch e
 | p :: m,q :: kvs,e,d,h=>by
  injection e with e1 e2
  replace e1:q.1=p.1:=e1
  rw [List.lookup_cons] at h
  unfold valueAt
  rw [List.find?_cons]
  by_cases hk:k=p.1
  ·rw [show (k == p.1)=true by simpa using hk] at h
   rw [show (decide (q.1=k))=true by simp [e1,hk]]
   exact ⟨q.2,rfl,Option.some.inj h ▸ d.1⟩
  ·rw [show (k == p.1)=false by simpa using hk] at h
   rw [show (decide (q.1=k))=false by simp [e1]; exact fun x=>hk x.symm]
   exact look_at e2 d.2 h
theorem any_at {k:Str}:∀ {m:List (Str × AV)} {kvs:List (Str × Value)},kvs.map (·.1)=m.map (·.1)→(m.lookup k).isSome=true→(kvs.any fun kv=>kv.1=k)=true
 | [],_,_,h=>nomatch h
 | _ :: _,[],e,_=>nomatch e
 | p :: m,q :: kvs,e,h=>by
  injection e with e1 e2
  replace e1:q.1=p.1:=e1
  rw [List.lookup_cons] at h
  rw [List.any_cons,Bool.or_eq_true]
  by_cases hk:k=p.1
  ·exact .inl (by simp [e1,hk])
  ·rw [show (k == p.1)=false by simpa using hk] at h
   exact .inr (any_at e2 h)
theorem set_at {k:Str} {c:AV} {v:Value} (dc:Den n ρ F c v):∀ {m:List (Str × AV)} {kvs:List (Str × Value)},kvs.map (·.1)=m.map (·.1)→Dens n ρ F (m.map (·.2)) (kvs.map (·.2)) →
  (kvs.map fun kv=>if kv.1=k then (kv.1,v) else kv).map (·.1)=(setM m k c).map (·.1)∧Dens n ρ F ((setM m k c).map (·.2)) ((kvs.map fun kv=>if kv.1=k then (kv.1,v) else kv).map (·.2))
 | [],[],_,d=>⟨rfl,d⟩
 | [],_ :: _,e,_=>nomatch e
 | _ :: _,[],e,_=>nomatch e
 | p :: m,q :: kvs,e,d=>by
  injection e with e1 e2
  replace e1:q.1=p.1:=e1
  have ih:=set_at (k:=k) dc e2 d.2
  by_cases hk:q.1=k
  ·have h1:(p.1 == k)=true:=by rw [← e1,hk]; exact beq_self_eq_true _
   simp only [setM,List.map_cons,if_pos hk,h1,cond_true] at ih ⊢
   exact ⟨by rw [e1,ih.1],dc,ih.2⟩
  ·have h1:(p.1 == k)=false:=by rw [← e1]; simpa using hk
   simp only [setM,List.map_cons,if_neg hk,h1,cond_false] at ih ⊢
   exact ⟨by rw [e1,ih.1],d.1,ih.2⟩
end
section
variable {X:Ctx} {A:Around} {ρ:Rho} {F:Fz} {σ:St} {s:Shared} {Γ:Kn} {hs:Str→Int}
theorem Sim.getX (hh:hs=hashStr X.w) {a b:AV} {v w:Value} (ha:Γ.le (RDen a v)) (hb:Γ.le (RDen b w)):Sim X A Γ RDen (eGetX hs a b) (PySem.getItem v w) :=
 onStr_ind (P:=fun x b=>Γ.le (RDen b w)→Sim X A Γ RDen x (PySem.getItem v w)) (fun k hb=>onRef_ind (P:=fun x a=>Γ.le (RDen a v)→Sim X A Γ RDen x (PySem.getItem v w)) (fun i ha=>Sim.isStr (fun w=>PySem.getItem v w) hb fun t=>Sim.ofRun fun σ ρ F s I g=>RunAt.cellAs asMap_some fun q hx=>RunAt.cond fun hq=>RunAt.optE fun av hl=>by
  rw [hq,hh] at hx
  rw [(show v = .ref (ρ i)∧i < σ.n from ha _ _ _ g).1]
  refine (map_dict (P:=X.prog) (I.cell _ _ hx)).elim fun kvs q=>(look_at q.2.1 q.2.2 hl).elim fun u hu=>Goes.tok I fun Q E hQ=>?_
  exact wpAny_getItem_of (knd:=strKind X.prog X.w) (k:=k) (strKind_is _ _ _ _) q.1.mapOf hu.1 (hQ u _ hu.2)) (fun _=>Sim.fail) ha) (fun hb=>Sim.getItem ha hb) hb
theorem Sim.setX (hh:hs=hashStr X.w) {a b c:AV} {v w x:Value} (ha:Γ.le (RDen a v)) (hb:Γ.le (RDen b w)) (hcc:Γ.le (RDen c x)):Sim X A Γ (fun _ _=>Kn.top) (eSetX hs a b c) (PySem.setItem v w x) :=
 onStr_ind (P:=fun y b=>Γ.le (RDen b w)→Sim X A Γ (fun _ _=>Kn.top) y (PySem.setItem v w x)) (fun k hb=>onRef_ind (P:=fun y a=>Γ.le (RDen a v)→Sim X A Γ (fun _ _=>Kn.top) y (PySem.setItem v w x)) (fun i ha=>Sim.isStr (fun w=>PySem.setItem v w x) hb fun t=>Sim.ofRun fun σ ρ F s I g=>RunAt.cellAs asMap_some fun q hx=>RunAt.chk fun hl=>RunAt.turn fun hq=>by
  rw [hq.1,hh] at hx
  rw [(show v = .ref (ρ i)∧i < σ.n from ha _ _ _ g).1,hh]
  refine (map_dict (P:=X.prog) (I.cell _ _ hx)).elim fun kvs p=>Goes.to fun Q E hQ=>?_
  have hlen:kvs.length≤sizeLine:=by
   have:=congrArg List.length p.2.1
   rw [List.length_map,List.length_map] at this
   rw [this]
   exact Nat.le_trans hq.2 (by decide)
  refine wpAny_setItem_pairs (knd:=strKind X.prog X.w) (k:=k) (strKind_is _ _ _ _) p.1 (fun h' hd' hsb=>?_) hlen
  have st:=set_at (k:=k) (hcc _ _ _ g) p.2.1 p.2.2
  unfold stored at hd'
  rw [if_pos (any_at p.2.1 hl)] at hd'
  exact hQ _ _ ρ F trivial (I.set hx hsb.extBut (c':=.map (hashStr X.w) (setM q.2 k c)) (dict_map hd' st.1 st.2) (s.toks + 1))) (fun _=>Sim.fail) ha) (fun hb=>Sim.setItem ha hb hcc) hb
theorem static_all {n:Nat}:∀ vs:List Value,Dens n ρ F (vs.map ofStatic) vs
 | []=>(rfl:Dens n ρ F [] [])
 | v :: vs=>Dens.cons (den_ofStatic v) (static_all vs)
theorem Sim.getS (hh:hs=hashStr X.w) {a b:AV} {v w:Value} (ha:Γ.le (RDen a v)) (hb:Γ.le (RDen b w)):Sim X A Γ RDen (eGetS X.K hs a b) (PySem.getItem v w) :=
 onVal_ind (P:=fun x a=>Γ.le (RDen a v)→Sim X A Γ RDen x (PySem.getItem v w)) (fun u ha=>Sim.caseInt (fun w=>PySem.getItem v w) hb (fun k t=>Sim.ofRun fun σ ρ F s I g=>RunAt.opt fun vs hv=>RunAt.cond fun hl=>RunAt.itemAt fun y h0 h1 h2=>by
  rw [show v=u from ha _ _ _ g]
  refine (standL_ok hv).elim fun T q=>q.1 ▸ ((static_all (n:=σ.n) (ρ:=ρ) (F:=F) vs).nth h2).elim fun w hw=>Goes.same I fun Q E hQ=>?_
  exact wpAny_getItem_list (items:=vs.toArray) ⟨_,I.Kin _ _ q.2,rfl,0,rfl⟩ h0 (by omega) (x:=w) (by simpa using hw.1) (hQ w hw.2)) Sim.fail) (fun ha=>Sim.getX hh ha hb) ha
theorem strs_any {x:Str} {t:Tok}:∀ {vs:List Value} {ys:List Str},strsOf vs=some ys→vs.any (strIs x)=(ys.any fun y=>y == x)∧∀ A:Around,∀ y ∈ vs,SeqAt.EqAt A s y (.str x t) (strIs x y)
 | [],ys,h=>by rw [← Option.some.inj h]; exact ⟨rfl,fun _ _ h=>nomatch h⟩
 | v :: vs,ys,h=>onVStr_ind (P:=fun (o:Option (List Str)) v=>o=some ys→(v :: vs).any (strIs x)=(ys.any fun y=>y == x)∧∀ A:Around,∀ y ∈ v :: vs,SeqAt.EqAt A s y (.str x t) (strIs x y)) (fun z u h=>(Option.map_eq_some_iff.mp h).elim fun zs q=>by
   have ih:=strs_any (x:=x) (t:=t) q.1
   rw [← q.2,List.any_cons,List.any_cons,ih.1]
   exact ⟨rfl,fun A y hy=>(List.mem_cons.mp hy).elim (fun e=>by rw [e]; exact SeqAt.EqAt.str_str z u x t) (ih.2 A y)⟩) (fun h=>noneOf h) h
theorem Sim.inS {a:AV} {v w:Value} (ha:Γ.le (RDen a v)):Sim X A Γ RDen (eInS X.K a w) (compareOp .In v w) :=
 Sim.caseStr (fun v=>compareOp .In v w) ha (fun x t=>Sim.opt fun ys h=>Sim.ret1 fun ρ F σ s I g=>(Option.bind_eq_some_iff.mp h).elim fun vs q=>(standL_ok q.1).elim fun T p=>by
  have k:=strs_any (s:=s) (x:=x) (t:=t) q.2
  rw [p.1]
  refine Goes.same I fun Q E hQ=>SeqAt.in_listAt (items:=vs.toArray) (strIs x) ⟨_,I.Kin _ _ p.2,rfl,0,rfl⟩ (fun y hy=>k.2 _ y (List.mem_toArray.mp hy)) ?_
  rw [List.any_toArray,k.1]
  exact hQ _ rfl) Sim.fail
end
noncomputable def freshKw {β:Type} (names:List Str) (slots ks:List (Str × β)):Bool:=ks.foldr (fun q k sl=>names.contains q.1 && (sl.lookup q.1).isNone && k (sl ++ [q])) (fun _=>true) slots
noncomputable def fillD {β:Type} (slots ks:List (Str × β)):List (Str × β):=ks.foldr (fun q k sl=>onSome (sl.lookup q.1) (fun _=>k sl) (k (sl ++ [q]))) (fun sl=>sl) slots
noncomputable def bindsOf {β:Type} (names:List Str) (dv:List β) (vs:List β) (ks:List (Str × β)):Option (List (Str × β)) :=
 _root_.cond (freshKw names (names.zip vs) ks && !(decide (vs.length > names.length)) && ((names.take (names.length - (dv.drop (dv.length - names.length)).length)).filter fun n=>((names.zip vs ++ ks).lookup n).isNone).isEmpty)
  (some (names.filterMap fun n=>((fillD (names.zip vs ++ ks) ((names.drop (names.length - (dv.drop (dv.length - names.length)).length)).zip (dv.drop (dv.length - names.length)))).lookup n).map (n,·))) none
section
variable {β γ:Type} (f:β→γ)
noncomputable def mapV (l:List (Str × β)):List (Str × γ):=l.map fun p=>(p.1,f p.2)
theorem look_mapV (x:Str) (l:List (Str × β)):(mapV f l).lookup x=(l.lookup x).map f:=lookup_map f x l
theorem none_mapV (x:Str) (l:List (Str × β)):((mapV f l).lookup x).isNone=(l.lookup x).isNone:=by rw [look_mapV]; cases l.lookup x <;> rfl
theorem app_mapV (a b:List (Str × β)):mapV f (a ++ b)=mapV f a ++ mapV f b:=List.map_append
theorem zip_mapV:∀ (ns:List Str) (vs:List β),mapV f (ns.zip vs)=ns.zip (vs.map f)
 | [],_=>rfl
 | _ :: _,[]=>rfl
 | n :: ns,v :: vs=>congrArg ((n,f v) :: ·) (zip_mapV ns vs)
theorem fresh_mapV (names:List Str):∀ ks sl:List (Str × β),freshKw names (mapV f sl) (mapV f ks)=freshKw names sl ks
 | [],_=>rfl
 | q :: ks,sl=>by
  show (names.contains q.1 && ((mapV f sl).lookup q.1).isNone && freshKw names (mapV f sl ++ mapV f [q]) (mapV f ks))=(names.contains q.1 && (sl.lookup q.1).isNone && freshKw names (sl ++ [q]) ks)
  rw [none_mapV,← app_mapV,fresh_mapV names ks]
theorem fill_mapV:∀ ks sl:List (Str × β),fillD (mapV f sl) (mapV f ks)=mapV f (fillD sl ks)
 | [],_=>rfl
 | q :: ks,sl=>by
  show onSome ((mapV f sl).lookup q.1) (fun _=>fillD (mapV f sl) (mapV f ks)) (fillD (mapV f sl ++ mapV f [q]) (mapV f ks))=mapV f (onSome (sl.lookup q.1) (fun _=>fillD sl ks) (fillD (sl ++ [q]) ks))
  rw [look_mapV,← app_mapV,fill_mapV ks,fill_mapV ks]
  cases sl.lookup q.1 <;> rfl
theorem filt_mapV (l:List (Str × β)):∀ ns:List Str,(ns.filterMap fun n=>((mapV f l).lookup n).map (n,·))=mapV f (ns.filterMap fun n=>(l.lookup n).map (n,·))
 | []=>rfl
 | n :: ns=>by
  rw [List.filterMap_cons,List.filterMap_cons,look_mapV,filt_mapV l ns]
  cases l.lookup n <;> rfl
theorem binds_mapV (ns:List Str) (dv vs:List β) (ks:List (Str × β)):bindsOf ns (dv.map f) (vs.map f) (mapV f ks)=(bindsOf ns dv vs ks).map (mapV f):=by
 unfold bindsOf
 simp only [List.length_map,← List.map_drop,← zip_mapV,fresh_mapV,← app_mapV,none_mapV,fill_mapV,filt_mapV]
 generalize (freshKw ns (ns.zip vs) ks && !(decide (vs.length > ns.length)) && ((ns.take (ns.length - (dv.drop (dv.length - ns.length)).length)).filter fun n=>((ns.zip vs ++ ks).lookup n).isNone).isEmpty)=b
 cases b <;> rfl
end
section
variable {M:Model} {A:Around} {E:Value→Shared→Prop} {s:Shared}
theorem kwLoop {names:List Str} {γ:Type} {ex:γ} {f:Str × Value→List (Str × Value) × γ→Sem (ForInStep (List (Str × Value) × γ))} (hf:∀ x st,names.contains x.1=true→(st.1.lookup x.1).isNone=true→f x st=pure (.yield (st.1 ++ [x],st.2))):∀ (ks slots:List (Str × Value)),freshKw names slots ks=true →
  ∀ (Q:List (Str × Value) × γ→Shared→Prop),Q (slots ++ ks,ex) s→wpAny M A (forIn ks (slots,ex) f) Q E s
 | [],slots,_,Q,h=>by rw [List.forIn_nil]; rw [List.append_nil] at h; exact wpAny_pure h
 | q :: ks,slots,hk,Q,h=>by
  have hk':(names.contains q.1 && (slots.lookup q.1).isNone && freshKw names (slots ++ [q]) ks)=true:=hk
  rw [Bool.and_eq_true,Bool.and_eq_true] at hk'
  rw [List.forIn_cons,hf _ _ hk'.1.1 hk'.1.2]
  exact wpAny_bind (wpAny_pure (kwLoop hf ks _ hk'.2 Q (by rw [List.append_assoc]; exact h)))
theorem dfLoop {f:Str × Value→List (Str × Value)→Sem (ForInStep (List (Str × Value)))} (hf:∀ x st,f x st=if (st.lookup x.1).isNone=true then pure (.yield (st ++ [x])) else pure (.yield st)):∀ (ks slots:List (Str × Value)),
  ∀ (Q:List (Str × Value)→Shared→Prop),Q (fillD slots ks) s→wpAny M A (forIn ks slots f) Q E s
 | [],slots,Q,h=>by rw [List.forIn_nil]; exact wpAny_pure h
 | q :: ks,slots,Q,h=>by
  have h':Q (onSome (slots.lookup q.1) (fun _=>fillD slots ks) (fillD (slots ++ [q]) ks)) s:=h
  rw [List.forIn_cons,hf]
  cases hl:slots.lookup q.1 with
  | none=>rw [hl] at h'; exact wpAny_bind (wpAny_pure (dfLoop hf ks _ Q h'))
  | some w=>rw [hl] at h'; exact wpAny_bind (wpAny_pure (dfLoop hf ks _ Q h'))
end
theorem not_bnot {b:Bool} (h:b=true):¬((!b)=true):=by rw [h]; decide
section
variable {M:Model} {A:Around} {E:Value→Shared→Prop} {s:Shared}
theorem wpAny_ifn {α:Type} {c:Prop} [Decidable c] {x y:Sem α} {Q:α→Shared→Prop} (h:¬c) (hy:wpAny M A y Q E s):wpAny M A (if c then x else y) Q E s:=(if_neg h).symm ▸ hy
theorem bindArgs_simple {fd:FuncData} {names:List Str} {dv vs:List Value} {ks:List (Str × Value)} {binds:List (Str × Value)} (h1:fd.params.posonlyargs=[]) (h2:fd.params.kwonlyargs=[]) (h3:fd.params.vararg=none) (h4:fd.params.kwarg=none) (h5:fd.params.args.map (·.arg)=names) (hd:∀ (Q:Option (Array Value)→Shared→Prop),(∀ o,(o.getD #[]).toList=dv→Q o s)→wpAny M A (seqItems? fd.defaults) Q E s) (hb:bindsOf names dv vs ks=some binds) {Q:List (Str × Value)→Shared→Prop} (h:Q binds s):wpAny M A (bindArgs fd ⟨vs,ks⟩) Q E s:=by
 unfold bindsOf at hb
 generalize hc:(freshKw names (names.zip vs) ks && !(decide (vs.length > names.length)) && ((names.take (names.length - (dv.drop (dv.length - names.length)).length)).filter fun n=>((names.zip vs ++ ks).lookup n).isNone).isEmpty)=b at hb
 cases b with
 | false=>exact noneOf hb
 | true =>
  rw [← Option.some.inj hb] at h
  rw [Bool.and_eq_true,Bool.and_eq_true] at hc
  have hg':decide (vs.length > names.length)=false:=by simpa using hc.1.2
  cases fd with | mk fname qual params body scope globals closure defaults kwd doc pm ann code ct bi =>
  cases params with | mk po args va ko kdf kw dfs =>
  cases (show po=[] from h1)
  cases (show ko=[] from h2)
  cases (show va=none from h3)
  cases (show kw=none from h4)
  cases (show args.map (·.arg)=names from h5)
  unfold bindArgs
  refine wpAny_bind (kwLoop (names:=args.map (·.arg)) (fun x st hc hl=>?_) ks _ hc.1.1 _ ?_)
  ·show (if (_ || _)=true then if _ then _ else _ else _)=_
   rw [hc,Bool.true_or,if_pos rfl,if_neg (by rw [← Option.not_isSome,Bool.not_eq_true'] at hl; rw [hl]; decide)]
  ·refine wpAny_bind (hd _ fun o ho=>?_)
   subst ho
   refine wpAny_ifn (by show ¬ ((decide (vs.length > (args.map (·.arg)).length) && true)=true); rw [hg']; decide) ?_
   refine wpAny_ifn (not_bnot hc.2) ?_
   refine wpAny_bind (dfLoop (fun x st=>rfl) _ _ _ ?_)
   refine wpAny_bind (wpAny_pure ?_)
   refine wpAny_ifn (not_bnot rfl) ?_
   refine wpAny_pure ?_
   have e:=List.append_nil (args.map (·.arg))
   exact e.symm ▸ h
end
noncomputable abbrev DV (n:Nat) (ρ:Rho) (F:Fz):={ p:AV × Value // Den n ρ F p.1 p.2 }
section
variable {n:Nat} {ρ:Rho} {F:Fz}
noncomputable def dvA (p:DV n ρ F):AV:=p.1.1
noncomputable def dvV (p:DV n ρ F):Value:=p.1.2
inductive Pairs (n:Nat) (ρ:Rho) (F:Fz) (a:List (Str × AV)) (v:List (Str × Value)):Prop where
 | mk (z:List (Str × DV n ρ F)) (h1:a=mapV dvA z) (h2:v=mapV dvV z)
theorem Dens.sub:∀ {xs:List AV} {vs:List Value},Dens n ρ F xs vs→∃ z:List (DV n ρ F),xs=z.map dvA∧vs=z.map dvV
 | [],_,d=>⟨[],rfl,d⟩
 | _ :: _,[],d=>d.elim
 | x :: xs,v :: vs,d=>(Dens.sub d.2).elim fun z q=>⟨⟨(x,v),d.1⟩ :: z,congrArg (x :: ·) q.1,congrArg (v :: ·) q.2⟩
theorem Pairs.ofDens:∀ {ks:List (Str × AV)} {kvs:List Value},Dens n ρ F (ks.map (·.2)) kvs→Pairs n ρ F ks ((ks.map (·.1)).zip kvs)
 | [],_,_=>⟨[],rfl,rfl⟩
 | _ :: _,[],d=>d.elim
 | q :: ks,v :: kvs,d=>by cases Pairs.ofDens (ks:=ks) d.2 with | mk z h1 h2=>exact ⟨(q.1,⟨(q.2,v),d.1⟩) :: z,congrArg (q :: ·) h1,congrArg ((q.1,v) :: ·) h2⟩
theorem bindsOf_rel {names:List Str} {dv as:List AV} {dw vs:List Value} {ks:List (Str × AV)} {kv:List (Str × Value)} {b:List (Str × AV)} (hd:Dens n ρ F dv dw) (ha:Dens n ρ F as vs) (hk:Pairs n ρ F ks kv)
  (h:bindsOf names dv as ks=some b):∃ bv,bindsOf names dw vs kv=some bv∧Pairs n ρ F b bv:=by
 refine hd.sub.elim fun zd q=>ha.sub.elim fun za r=>?_
 cases hk with | mk z h1 h2 =>
 rw [q.1,r.1,h1,binds_mapV] at h
 rw [q.2,r.2,h2,binds_mapV]
 exact (Option.map_eq_some_iff.mp h).elim fun zb e=>⟨mapV dvV zb,by rw [e.1]; rfl,zb,e.2.symm,rfl⟩
theorem Pairs.rev {a:List (Str × AV)} {v:List (Str × Value)} (p:Pairs n ρ F a v):Pairs n ρ F a.reverse v.reverse:=by
 cases p with | mk z h1 h2=>exact ⟨z.reverse,by rw [h1]; exact List.map_reverse.symm,by rw [h2]; exact List.map_reverse.symm⟩
theorem Pairs.ns {a:List (Str × AV)} {v:List (Str × Value)} (p:Pairs n ρ F a v):NsDen n ρ F a (fun x=>v.lookup x):=fun x av h=>by
 cases p with | mk z h1 h2 =>
 rw [h1,look_mapV] at h
 exact (Option.map_eq_some_iff.mp h).elim fun d q=>⟨dvV d,(by rw [h2,look_mapV,q.1]; rfl:v.lookup x=some (dvV d)),q.2 ▸ d.2⟩
theorem Pairs.mono {n':Nat} {ρ':Rho} {F':Fz} (hn:n≤n') (hρ:∀ i,i < n→ρ' i=ρ i) (hF:∀ a o,F a=some o→F' a=some o) {a:List (Str × AV)} {v:List (Str × Value)} (p:Pairs n ρ F a v):Pairs n' ρ' F' a v:=by
 cases p with | mk z h1 h2=>exact ⟨z.map fun q=>(q.1,⟨q.2.1,q.2.2.mono hn hρ hF⟩),by rw [h1,mapV,mapV,List.map_map]; rfl,by rw [h2,mapV,mapV,List.map_map]; rfl⟩
theorem Pairs.loc (scope:Scope) {a:List (Str × AV)} {v:List (Str × Value)} (p:Pairs n ρ F a v) (h:(a.all fun q=>scope.names.lookup q.1 == some .local)=true):∀ x ∈ v,scope.names.lookup x.1=some .local:=by
 cases p with | mk z h1 h2 =>
 intro x hx
 rw [h2] at hx
 rw [h1,List.all_eq_true] at h
 exact (List.mem_map.mp hx).elim fun q e=>e.2 ▸ eq_of_beq (h (q.1,dvA q.2) (List.mem_map.mpr ⟨q,e.1,rfl⟩))
end
structure FnI where
 params:Arguments
 body:List Stmt
 scope:Scope
 closure:List (Str × Nat)
 dflts:List AV
 code:Value
noncomputable def dfltsIn (K:Frag) (v:Value):Option (List AV):=onVNone v (some []) <| onVRef v (fun T=>(K.lookup T).bind fun o=>onDSeq o.data (fun items _=>some (items.toList.map ofStatic)) none) none
noncomputable def codeIn (K:Frag) (c:Value) (q:Str):Bool:=onVRef c (fun c=>onSome (K.lookup c) (fun o=>onDFields o.data (fun vs=>onSome vs[1]? (fun v=>onVStr v (fun x _=>x == q) false) false) false) false) false
noncomputable def fnOfData (K:Frag) (fd:FuncData):Option FnI:=onBStmts fd.body (fun b=>(dfltsIn K fd.defaults).bind fun ds=>_root_.cond ((fd.closure.isEmpty && codeIn K fd.code fd.qualname) && ((fd.globals == mainGlobals) && (fd.builtins == builtinsNs))) (some ⟨fd.params,b,fd.scope,[],ds,fd.code⟩) none) none
noncomputable def fnOfObj (K:Frag) (o:Obj):Option FnI:=onDFunc o.data (fnOfData K) none
noncomputable def fnInfo (K:Frag) (f:AV):Option FnI:=onVal f (fun v=>onVRef v (fun a=>(K.lookup a).bind (fnOfObj K)) none) <| onClo f (fun _ params body scope cl=>some ⟨params,body,scope,cl,[],.none⟩) none
noncomputable def plainParams (p:Arguments):Bool:=(p.posonlyargs.isEmpty && p.kwonlyargs.isEmpty) && (p.vararg.isNone && p.kwarg.isNone)
noncomputable def plainScope (s:Scope):Bool:=(s.kind == .function) && (!s.isCoroutine && !s.isGenerator)
noncomputable def pushBoxes (names:List (Str × NameKind)):List (Str × Nat)→St→List (Str × Nat) × St:=names.foldr (fun q k acc σ=>_root_.cond (q.2 == .cell) (k ((q.1,σ.n) :: acc) (σ.push (.box none))) (k acc σ)) fun acc σ=>(acc,σ)
noncomputable def eParams (ae:AEnv) (binds:List (Str × AV)):EM Unit:=binds.foldr (fun q k=>EM.bind (eBind ae q.1 q.2) fun _=>k) (EM.ret ())
noncomputable def eEnterC (scope:Scope) (closure:List (Str × Nat)) (code:Value) (binds:List (Str × AV)) (N:Nat) (q:List (Str × Nat) × St):EM AEnv:=EM.bind (EM.upd fun _=>q.2) fun _=>EM.bind (eParams ⟨scope,N,q.1,code,N⟩ binds) fun _=>EM.ret ⟨scope,N,q.1,code,N⟩
noncomputable def noCells (scope:Scope):Bool:=scope.names.all fun x=>!(x.2 == .cell)
noncomputable def eEnter (scope:Scope) (closure:List (Str × Nat)) (code:Value) (binds:List (Str × AV)):EM AEnv:=_root_.cond ((binds.all fun q=>scope.names.lookup q.1 == some .local) && noCells scope)
 (EM.bind (EM.push (.ns binds.reverse)) fun i=>EM.ret ⟨scope,i,closure,code,i⟩) (EM.st fun σ=>eEnterC scope closure code binds σ.n (pushBoxes scope.names closure (σ.push (.ns []))))
noncomputable def eEndBy (N:Nat) (v:AV) (w:Wd):EM AV:=onWNorm w (EM.st fun σ=>EM.turn (Und N v∧∀ p ∈ (σ.cut N).objs,UndC N p.2) (fun σ=>σ.cut N) v) <| onWKeep w (EM.ret v) <| onWSel w (fun l=>EM.bind (EM.upd fun σ=>σ.sel N l) fun _=>EM.ret v) EM.fail
noncomputable def eNorm (N:Nat) (v:AV):EM AV:=EM.bind (EM.word some) (eEndBy N v)
section
variable {γ:Type} (fl:AFlow) (n:γ) (r:AV→γ) (d:γ)
noncomputable def onFl:γ:=match fl with
 | .next=>n
 | .ret v=>r v
 | _=>d
noncomputable def onLp:γ:=match fl with
 | .ret v=>r v
 | .brk=>d
 | _=>n
end
noncomputable def eFnB (r:Rec) (fi:FnI) (binds:List (Str × AV)):EM AV:=EM.st fun σ=>EM.bind (eEnter fi.scope fi.closure fi.code binds) fun ae=>EM.bind (r.exs ae fi.body) fun fl=>onFl fl (eNorm σ.n noneAV) (eNorm σ.n) EM.fail
noncomputable def eFn (r:Rec) (fi:FnI) (as:List AV) (ks:List (Str × AV)):EM AV:=_root_.cond (plainParams fi.params && plainScope fi.scope) (onSome (bindsOf (fi.params.args.map fun p=>p.arg) fi.dflts as ks) (eFnB r fi) EM.fail) EM.fail
section
variable {X:Ctx} {A:Around} {ρ:Rho} {F:Fz} {σ:St} {s:Shared} {Γ:Kn}
theorem Room.deeper {A:Around} {n:Nat} (h:Room X A (n + 1)) (env:Env) (i:Nat):Room (X.wf ((env,i) :: X.fr)) (A.deeper env) n :=
 ⟨Nat.lt_of_le_of_lt (by show A.depth + 1 + 4 * n≤A.depth + 4 * (n + 1); omega) h.1,Nat.lt_of_le_of_lt (by show A.units + 3 + 40 * n≤A.units + 40 * (n + 1); omega) h.2.1,h.2.2.1,h.2.2.2.1,by rw [Around.frames_deeper h.2.2.2.2]; rfl⟩
theorem Room.less {A:Around} {n:Nat} (h:Room X A (n + 1)):Room X A n:=⟨Nat.lt_of_le_of_lt (Nat.add_le_add_left (Nat.mul_le_mul_left 4 (Nat.le_succ n)) _) h.1,Nat.lt_of_le_of_lt (Nat.add_le_add_left (Nat.mul_le_mul_left 40 (Nat.le_succ n)) _) h.2.1,h.2.2⟩
theorem RunAt.norm {N:Nat} {v:AV} {C:AV→St→Prop} (h1:Und N v→(∀ p ∈ (σ.cut N).objs,UndC N p.2)→C v (σ.cut N)) (h2:C v σ) (h3:∀ l,C v (σ.sel N l)):RunAt σ (eNorm N v) C:=RunAt.word fun w =>
 onWNorm_ind (P:=fun x _=>RunAt σ x C) (RunAt.st (RunAt.turn fun q=>h1 q.1 q.2)) (onWKeep_ind (P:=fun x _=>RunAt σ x C) (RunAt.ret h2) (onWSel_ind (P:=fun x _=>RunAt σ x C) (fun l=>RunAt.upd (RunAt.ret (h3 l))) RunAt.fail))
structure Got (X:Ctx) (ρ₀:Rho) (F₀:Fz) (σ₀:St) (s₀:Shared) (v:Value) (s:Shared) (ρ:Rho) (F:Fz) (b:AV) (σ:St):Prop where
 inv:Inv X ρ F σ s
 stp:Stp ρ₀ F₀ σ₀ s₀ ρ F σ s
 den:Den σ.n ρ F b v
theorem norm_ok {N:Nat} {v:AV} {w:Value} {ρ₀ ρ₁:Rho} {F₀ F₁:Fz} {σ₀:St} {s₀ s₁:Shared} (I:Inv X ρ₁ F₁ σ s₁) (d:Den σ.n ρ₁ F₁ v w) (st:Stp ρ₀ F₀ σ₀ s₀ ρ₁ F₁ σ s₁) (hN:σ₀.n≤N) (hfr:∀ e ∈ X.fr,e.2 < N):RunAt σ (eNorm N v) (Got X ρ₀ F₀ σ₀ s₀ w s₁ ρ₁ F₁) :=
 RunAt.norm (fun u uc=>⟨I.cut (fun _ _=>rfl) uc hfr,st.cut hN,d.under (fun _ _=>rfl) u⟩) ⟨I,st,d⟩ fun l=>⟨I.sel l hfr,st.sel l,d⟩
theorem boxes_ok {M:Model} {E:Value→Shared→Prop} {Q:List (Str × Addr)→Shared→Prop} (f:Str × NameKind→List (Str × Addr)→Sem (ForInStep (List (Str × Addr))))
  (hf:∀ name kind cells,f (name,kind) cells=if kind == .cell then (do let a ← alloc { cls:=.type "cell",data:=.cell none }; pure (.yield ((name,a) :: cells))) else pure (.yield cells)) :
  ∀ (names:List (Str × NameKind)) (acc:List (Str × Nat)) (ρ:Rho) (σ:St) (s:Shared),Inv X ρ F σ s→(∀ p ∈ acc,p.2 < σ.n) →
   (∀ s' ρ',Inv X ρ' F (pushBoxes names acc σ).2 s'→Stp ρ F σ s ρ' F (pushBoxes names acc σ).2 s'→(∀ p ∈ (pushBoxes names acc σ).1,p.2 < (pushBoxes names acc σ).2.n) →
    Q (mapCl ρ' (pushBoxes names acc σ).1) s')→wpAny M A (forIn names (mapCl ρ acc) f) Q E s
 | [],acc,ρ,σ,s,I,hacc,hQ=>by
  rw [List.forIn_nil]
  exact wpAny_pure (hQ s ρ I (Stp.refl ρ F I.ids) hacc)
 | (n,k) :: r,acc,ρ,σ,s,I,hacc,hQ=>by
  rw [List.forIn_cons,hf]
  have e:pushBoxes ((n,k) :: r) acc σ=_root_.cond (k == .cell) (pushBoxes r ((n,σ.n) :: acc) (σ.push (.box none))) (pushBoxes r acc σ):=rfl
  rw [e] at hQ
  cases hk:k == .cell with
  | false =>
   rw [hk] at hQ
   exact wpAny_bind (wpAny_pure (boxes_ok f hf r acc ρ σ s I hacc hQ))
  | true =>
   rw [hk] at hQ
   refine wpAny_bind (wpAny_bind (wpAny_alloc (wpAny_pure ?_)))
   have I₁:=I.push (a:=s.heap.objs.size) (c:=.box none) (h':=s.heap.push { cls:=.type "cell",data:=.cell none }) (Heap.get?_none_of_le (Nat.le_refl _)) (fun b o e=>Heap.get?_push_of_some _ e) ⟨_,Heap.get?_push_size _ rfl,none,rfl,rfl⟩ s.toks
   have hm:(n,s.heap.objs.size) :: mapCl ρ acc=mapCl (ρ.put σ.n s.heap.objs.size) ((n,σ.n) :: acc):=by
    show _=(n,ρ.put σ.n s.heap.objs.size σ.n) :: mapCl _ acc
    rw [Rho.put_self,mapCl_eq fun p hp=>Rho.put_lt _ _ (hacc p hp)]
   show wpAny M A (forIn r ((n,s.heap.objs.size) :: mapCl ρ acc) f) Q E _
   rw [hm]
   refine boxes_ok f hf r ((n,σ.n) :: acc) _ (σ.push (.box none)) _ I₁.1 (fun p hp=>?_) fun s' ρ' I' st' h=>hQ s' ρ' I' (I₁.2.trans st') h
   cases hp with
   | head=>exact Nat.lt_succ_self _
   | tail _ hp=>exact Nat.lt_succ_of_lt (hacc p hp)
theorem binds_ok {E:Value→Shared→Prop} {ae:AEnv} {env:Env} (f:Str × Value→PUnit→Sem (ForInStep PUnit)) (hf:∀ n v u,f (n,v) u=(do storeName env n v; pure (.yield ⟨⟩))) {Q:PUnit→Shared→Prop} :
  ∀ {ρ:Rho} {F:Fz} (σ₀:St) (z:List (Str × DV σ₀.n ρ F)) (s:Shared),Inv X ρ F σ₀ s→EnvOk X ae env σ₀.n ρ→RunAt σ₀ (eParams ae (mapV dvA z)) fun _ σ'=>(∀ s' ρ' F',Inv X ρ' F' σ' s'→Stp ρ F σ₀ s ρ' F' σ' s'→Q ⟨⟩ s')→wpAny (model X.prog X.w) A (forIn (mapV dvV z) PUnit.unit f) Q E s:=by
 intro ρ F σ₀ z
 generalize hz:z.length=k
 induction k generalizing ρ F σ₀ with
 | zero =>
  cases z with
  | cons=>cases hz
  | nil=>exact fun s I g=>RunAt.ret fun hQ=>by rw [mapV,List.map_nil,List.forIn_nil]; exact wpAny_pure (hQ s ρ F I (Stp.refl ρ F I.ids))
 | succ k ih =>
  cases z with
  | nil=>cases hz
  | cons q z =>
   intro s I g ds b ev' cs e hc hQ
   refine EM.bind_use (x:=eBind ae q.1 (dvA q.2)) (f:=fun _=>eParams ae (mapV dvA z)) e hc fun _ ev₁ c₁ c₂ e₁ e₂ a1 a2=>?_
   show wpAny _ A (forIn ((q.1,dvV q.2) :: mapV dvV z) PUnit.unit f) Q E s
   rw [List.forIn_cons,hf]
   refine wpAny_bind (wpAny_bind ?_)
   refine Sim.store (Γ:=(EnvK X ae env).and (RDen (dvA q.2) (dvV q.2))) (Kn.fst (Kn.le_refl _)) (Kn.snd (Kn.le_refl _)) _ _ _ c₁ e₁ a1 ρ F s I ⟨g,q.2.2⟩ _ _ fun _ s₁ ρ₁ F₁ _ I₁ st₁=>?_
   let z':List (Str × DV ev₁.1.n ρ₁ F₁):=z.map fun q=>(q.1,⟨q.2.1,Den.step q.2.2 st₁⟩)
   have h1:mapV dvA z=mapV dvA z':=by show _=List.map _ (List.map _ z); rw [List.map_map]; rfl
   have h2:mapV dvV z=mapV dvV z':=by show _=List.map _ (List.map _ z); rw [List.map_map]; rfl
   rw [h1] at e₂
   rw [h2]
   exact wpAny_pure (ih ev₁.1 z' (by rw [List.length_map]; exact Nat.succ.inj hz) s₁ I₁ ((EnvK X ae env).mono st₁.le st₁.same st₁.sub g) ev₁.2 b ev' c₂ e₂ a2 fun s' ρ' F' I' st'=>hQ s' ρ' F' I' (st₁.trans st'))
structure InCall (X:Ctx) (ρ₀:Rho) (F₀:Fz) (σ₀:St) (s₀:Shared) (ae:AEnv) (σ:St) (env:Env) (s:Shared) (ρ:Rho) (F:Fz):Prop where
 ok:EnvOk (X.wf ((env,σ₀.n) :: X.fr)) ae env σ.n ρ
 inv:Inv (X.wf ((env,σ₀.n) :: X.fr)) ρ F σ s
 stp:Stp ρ₀ F₀ σ₀ s₀ ρ F σ s
theorem no_cell {scope:Scope} (h:noCells scope=true):∀ x ∈ scope.names,x.2 ≠ .cell:=fun x hx e=>by
 have:=List.all_eq_true.mp h x hx
 rw [e] at this
 exact ff this
theorem enter_ok {E:Value→Shared→Prop} {Q:Env→Shared→Prop} {scope:Scope} {closure:List (Str × Nat)} {code:Value} {binds:List (Str × AV)} {bv:List (Str × Value)} (I:Inv X ρ F σ s) (pb:Pairs σ.n ρ F binds bv) (hclt:∀ p ∈ closure,p.2 < σ.n) (hk:scope.kind = .function) {cd:Value} (hcode:code = .none ∨ cd=code)
  {qual:Str} {func:Option Addr}:RunAt σ (eEnter scope closure code binds) fun ae σ'=>(∀ env s' ρ' F',InCall X ρ F σ s ae σ' env s' ρ' F'→Q env s') →
  wpAny (model X.prog X.w) A (newFunctionEnv scope mainGlobals (mapCl ρ closure) bv qual func cd none builtinsNs) Q E s:=by
 have hp:=Rho.put_self ρ σ.n s.heap.objs.size
 have hρ:∀ i,i < σ.n→(ρ.put σ.n s.heap.objs.size) i=ρ i:=fun i hi=>Rho.put_lt ρ _ hi
 have hcl:mapCl ρ closure=mapCl (ρ.put σ.n s.heap.objs.size) closure:=(mapCl_eq fun p hp=>hρ _ (hclt p hp)).symm
 refine cond_ind (P:=fun x=>RunAt σ x fun ae σ'=>(∀ env s' ρ' F',InCall X ρ F σ s ae σ' env s' ρ' F'→Q env s')→wpAny (model X.prog X.w) A (newFunctionEnv scope mainGlobals (mapCl ρ closure) bv qual func cd none builtinsNs) Q E s) (fun hb=>RunAt.push (RunAt.ret fun hQ=>?_)) (RunAt.st (RunAt.upd ?_))
 ·rw [Bool.and_eq_true] at hb
  refine wpAny_newFunctionEnv (no_cell hb.2) (pb.loc _ hb.1) (fun h' hn hsb=>?_) hk
  have st:=I.push (a:=s.heap.objs.size) (c:=.ns binds.reverse) (Heap.get?_none_of_le (Nat.le_refl _)) (fun bb oo ee=>hsb.extBut bb oo (Nat.ne_of_lt (Heap.lt_size ee)) (Heap.get?_push_of_some _ ee)) (.ofNs hn (pb.rev.mono (Nat.le_succ _) hρ (fun _ _ e=>e)).ns) (s.toks + bv.length)
  refine hQ _ _ _ _ ⟨?_,st.1.frame hk (hp.symm ▸ rfl) (St.get_push_self σ _) rfl,st.2⟩
  exact ⟨rfl,hk,hp.symm,Nat.lt_succ_self _,hcl,fun p hp=>Nat.lt_succ_of_lt (hclt p hp),rfl,rfl,hp.symm ▸ rfl,Nat.lt_succ_self _,⟨_,_,rfl,rfl⟩,hcode⟩
 ·cases pb with | mk z h1 h2 =>
  intro ds ae ev' cs e hc hQ
  refine EM.bind_use (x:=eParams ⟨scope,σ.n,(pushBoxes scope.names closure (σ.push (.ns []))).1,code,σ.n⟩ binds) (f:=fun _=>EM.ret (⟨scope,σ.n,(pushBoxes scope.names closure (σ.push (.ns []))).1,code,σ.n⟩:AEnv)) e hc fun _ ev₁ c₁ c₂ e₁ e₂ a1 a2=>inj3 e₂ fun i1 i2 _=>?_
  rw [← i1,← i2] at hQ
  simp only [newFunctionEnv,Option.isSome_none,Bool.false_eq_true,if_false]
  refine wpAny_bind (wpAny_alloc ?_)
  have st₁:=I.push (a:=s.heap.objs.size) (c:=.ns []) (h':=s.heap.push { cls:=.type "frame",data:=.dict #[] }) (Heap.get?_none_of_le (Nat.le_refl _)) (fun b o e=>Heap.get?_push_of_some _ e) (.ofNs (Heap.Ns.new s.heap (.type "frame")) fun x av h=>noneOf h) s.toks
  rw [hcl]
  let env0:Env:={ scope,locals:=s.heap.objs.size,globals:=mainGlobals,cells:=[],qual,func,code:=cd,frame:=some s.heap.objs.size,builtins:=builtinsNs }
  have I₁:=st₁.1.frame (env:=env0) (i:=σ.n) hk (by rw [hp]) (St.get_push_self σ _) rfl
  refine wpAny_bind (boxes_ok (X:=X.wf ((env0,σ.n) :: X.fr)) _ (fun name kind cells=>by cases hkc:kind == NameKind.cell <;> simp [hkc]) scope.names closure _ (σ.push (.ns [])) _ I₁ (fun p hp=>Nat.lt_succ_of_lt (hclt p hp)) fun s₂ ρ₂ I₂ st₂ hlt=>?_)
  have hl:ρ₂ σ.n=s.heap.objs.size:=(st₂.same σ.n (Nat.lt_succ_self _)).trans hp
  have hlt0:=Nat.lt_of_lt_of_le (Nat.lt_succ_self σ.n) st₂.le
  have st12:=st₁.2.trans st₂
  let env1:Env:={ scope,locals:=s.heap.objs.size,globals:=mainGlobals,cells:=mapCl ρ₂ (pushBoxes scope.names closure (σ.push (.ns []))).1,qual,func,code:=cd,frame:=some s.heap.objs.size,builtins:=builtinsNs }
  have g:EnvOk (X.wf ((env1,σ.n) :: X.fr)) ⟨scope,σ.n,(pushBoxes scope.names closure (σ.push (.ns []))).1,code,σ.n⟩ env1 (pushBoxes scope.names closure (σ.push (.ns []))).2.n ρ₂ :=
   ⟨rfl,hk,hl.symm,hlt0,rfl,hlt,rfl,rfl,congrArg some hl.symm,hlt0,⟨_,_,rfl,rfl⟩,hcode⟩
  let z':List (Str × DV (pushBoxes scope.names closure (σ.push (.ns []))).2.n ρ₂ F):=z.map fun q=>(q.1,⟨q.2.1,Den.step q.2.2 st12⟩)
  have h1':binds=mapV dvA z':=h1.trans (by show _=List.map _ (List.map _ z); rw [List.map_map]; rfl)
  have h2':bv=mapV dvV z':=h2.trans (by show _=List.map _ (List.map _ z); rw [List.map_map]; rfl)
  rw [h1'] at e₁
  rw [h2']
  refine wpAny_bind (binds_ok (X:=X.wf ((env1,σ.n) :: X.fr)) _ (fun _ _ _=>rfl) _ z' s₂ (I₂.reframe hk rfl) g _ _ ev₁ c₁ e₁ a1 fun s' ρ' F' I' st'=>?_)
  exact wpAny_pure (hQ _ _ _ _ ⟨(EnvK (X.wf ((env1,σ.n) :: X.fr)) _ _).mono st'.le st'.same st'.sub g,I',st12.trans st'⟩)
structure FnAt (X:Ctx) (σ:St) (ρ:Rho) (F:Fz) (s:Shared) (fi:FnI) (fv:Value) (a:Addr) (o:Obj) (fd:FuncData):Prop where
 ref:fv = .ref a
 at_:s.heap.get? a=some o
 data:o.data = .func fd
 body:fd.body = .stmts fi.body
 params:fd.params=fi.params
 scope:fd.scope=fi.scope
 globals:fd.globals=mainGlobals
 builtins:fd.builtins=builtinsNs
 clo:fd.closure=mapCl ρ fi.closure
 lt:∀ p ∈ fi.closure,p.2 < σ.n
 code:s.heap.CodeRec fd.code fd.qualname
 cd:fi.code = .none ∨ fd.code=fi.code
 dflts:∃ dv,Dens σ.n ρ F fi.dflts dv∧∀ (M:Model) (A:Around) (E:Value→Shared→Prop) (Q:Option (Array Value)→Shared→Prop),(∀ o,(o.getD #[]).toList=dv→Q o s)→wpAny M A (seqItems? fd.defaults) Q E s
theorem static_dens {n:Nat}:∀ l:List Value,Dens n ρ F (l.map ofStatic) l
 | []=>(Dens.nil:Dens n ρ F [] [])
 | v :: l=>⟨den_ofStatic v,static_dens l⟩
theorem dflts_at (I:Inv X ρ F σ s) {v:Value} {ds:List AV}:dfltsIn X.K v=some ds→∃ dv,Dens σ.n ρ F ds dv∧∀ (M:Model) (A:Around) (E:Value→Shared→Prop) (Q:Option (Array Value)→Shared→Prop),(∀ o,(o.getD #[]).toList=dv→Q o s)→wpAny M A (seqItems? v) Q E s :=
 onVNone_ind (P:=fun x v=>x=some ds→∃ dv,Dens σ.n ρ F ds dv∧∀ (M:Model) (A:Around) (E:Value→Shared→Prop) (Q:Option (Array Value)→Shared→Prop),(∀ o,(o.getD #[]).toList=dv→Q o s)→wpAny M A (seqItems? v) Q E s)
  (fun h=>⟨[],Option.some.inj h ▸ (Dens.nil:Dens σ.n ρ F [] []),fun M A E Q h=>wpAny_pure (h none rfl)⟩) <|
 onVRef_ind (P:=fun x v=>x=some ds→∃ dv,Dens σ.n ρ F ds dv∧∀ (M:Model) (A:Around) (E:Value→Shared→Prop) (Q:Option (Array Value)→Shared→Prop),(∀ o,(o.getD #[]).toList=dv→Q o s)→wpAny M A (seqItems? v) Q E s)
  (fun T h=>(Option.bind_eq_some_iff.mp h).elim fun o q=>by
   cases hd:o.data with
   | seq items k=>exact ⟨items.toList,by rw [← Option.some.inj ((congrArg (onDSeq · (fun items _=>some (items.toList.map ofStatic)) none) hd).symm.trans q.2)]; exact static_dens _,fun M A E Q h=>wpAny_seqItems (I.Kin _ _ q.1) hd (h _ rfl)⟩
   | _=>exact noneOf ((congrArg (onDSeq · (fun items _=>some (items.toList.map ofStatic)) none) hd).symm.trans q.2)) fun e=>noneOf e
theorem code_at (I:Inv X ρ F σ s) {c:Value} {q:Str}:codeIn X.K c q=true→s.heap.CodeRec c q :=
 onVRef_ind (P:=fun b c=>b=true→s.heap.CodeRec c q) (fun a h=>by
  cases e:X.K.lookup a with
  | none=>rw [e] at h; exact ff h
  | some o =>
   rw [e] at h
   have h':onDFields o.data (fun vs=>onSome vs[1]? (fun v=>onVStr v (fun x _=>x == q) false) false) false=true:=h
   cases hd:o.data with
   | fields vs =>
    rw [hd] at h'
    have h2:onSome vs[1]? (fun v=>onVStr v (fun x _=>x == q) false) false=true:=h'
    cases e1:vs[1]? with
    | none=>rw [e1] at h2; exact ff h2
    | some v =>
     rw [e1] at h2
     exact onVStr_ind (P:=fun b v=>vs[1]? = some v→b=true→s.heap.CodeRec (.ref a) q) (fun x t e1 h=>⟨a,o,vs,t,rfl,I.Kin _ _ e,hd,by rw [e1,eq_of_beq h]⟩) (fun _=>ff) e1 h2
   | _=>rw [hd] at h'; exact ff h') ff
theorem fnData_at (I:Inv X ρ F σ s) {a:Addr} {o:Obj} {fd:FuncData} {fi:FnI} (ho:X.K.lookup a=some o) (hd:o.data = .func fd) (h:fnOfData X.K fd=some fi):FnAt X σ ρ F s fi (.ref a) a o fd:=by
 unfold fnOfData at h
 cases hb:fd.body with
 | expr e=>rw [hb] at h; exact noneOf h
 | stmts b =>
  rw [hb] at h
  refine (Option.bind_eq_some_iff.mp (show (dfltsIn X.K fd.defaults).bind _=some fi from h)).elim fun ds q=>?_
  have h2:=q.2
  generalize hc:((fd.closure.isEmpty && codeIn X.K fd.code fd.qualname) && ((fd.globals == mainGlobals) && (fd.builtins == builtinsNs)))=c at h2
  cases c with
  | false=>exact noneOf h2
  | true =>
   rw [Bool.and_eq_true,Bool.and_eq_true,Bool.and_eq_true] at hc
   rw [← Option.some.inj h2]
   exact ⟨rfl,I.Kin _ _ ho,hd,hb,rfl,rfl,eq_of_beq hc.2.1,eq_of_beq hc.2.2,List.isEmpty_iff.mp hc.1.1,(fun p hp=>nomatch hp),code_at I hc.1.2,.inr rfl,dflts_at I q.1⟩
theorem fnAt (I:Inv X ρ F σ s) {f:AV} {fv:Value} {fi:FnI}:fnInfo X.K f=some fi→Den σ.n ρ F f fv→∃ a o fd,FnAt X σ ρ F s fi fv a o fd :=
 onVal_ind (P:=fun x f=>x=some fi→Den σ.n ρ F f fv→∃ a o fd,FnAt X σ ρ F s fi fv a o fd) (fun v h d=>by
  rw [show fv=v from d]
  exact onVRef_ind (P:=fun x v=>x=some fi→∃ a o fd,FnAt X σ ρ F s fi v a o fd) (fun a h=>(Option.bind_eq_some_iff.mp h).elim fun o q=>by
   cases hd:o.data with
   | func fd=>exact ⟨a,o,fd,fnData_at I q.1 hd ((congrArg (onDFunc · (fnOfData X.K) none) hd).symm.trans q.2)⟩
   | _=>exact noneOf ((congrArg (onDFunc · (fnOfData X.K) none) hd).symm.trans q.2)) (fun e=>noneOf e) h) <|
 onClo_ind (P:=fun x f=>x=some fi→Den σ.n ρ F f fv→∃ a o fd,FnAt X σ ρ F s fi fv a o fd) (fun a b c e f h d=>by
  rw [← Option.some.inj h]
  cases (show dClo σ.n ρ F a b c e f fv from d) with | mk a qual o pm code ct e1 ha hcl hd hk hb =>
  cases hk with | mk c oc ws t e2 hoc hdc hq =>
  exact ⟨a,o,_,e1,I.froz _ _ ha,hd,rfl,rfl,rfl,rfl,rfl,rfl,hb,⟨c,oc,ws,t,e2,I.froz _ _ hoc,hdc,hq⟩,.inl rfl,[],rfl,fun M A E Q h=>wpAny_pure (h none rfl)⟩) fun e=>noneOf e
noncomputable def RCall (f:AV) (fv:Value) (as:List AV) (vs:List Value) (ks:List (Str × AV)) (kvs:List Value):Kn:=(RDen f fv).and ((RDens as vs).and (RDens (ks.map (·.2)) kvs))
theorem callOpen (hA0:A.depth < recursionLimit) {f:AV} {fv:Value} {as:List AV} {vs:List Value} {ks:List (Str × AV)} {kvs:List Value} {fi:FnI} (hfi:fnInfo X.K f=some fi) (hp:(plainParams fi.params && plainScope fi.scope)=true) {binds:List (Str × AV)} (hb:bindsOf (fi.params.args.map fun p=>p.arg) fi.dflts as ks=some binds)
  (I:Inv X ρ F σ s) (g:(RCall f fv as vs ks kvs).p σ.n ρ F) {R:Result→Shared→Prop}:RunAt σ (eEnter fi.scope fi.closure fi.code binds) fun ae σ'=>(∀ env s₁ ρ₁ F₁,InCall X ρ F σ s ae σ' env s₁ ρ₁ F₁→codeAny (model X.prog X.w) A (.func fi.body env) R s₁) →
   codeAny (model X.prog X.w) A (.call fv ⟨vs,(ks.map (·.1)).zip kvs⟩) R s:=by
 refine (fnAt I hfi g.1).elim fun a q=>q.elim fun o q=>q.elim fun fd W=>W.dflts.elim fun dv hdv=>(bindsOf_rel hdv.1 g.2.1 (Pairs.ofDens g.2.2) hb).elim fun bv hbv=>?_
 rw [Bool.and_eq_true,plainParams,plainScope] at hp
 have hpp:=hp.1
 have hps:=hp.2
 rw [Bool.and_eq_true,Bool.and_eq_true,Bool.and_eq_true] at hpp
 rw [Bool.and_eq_true,Bool.and_eq_true,Bool.not_eq_true',Bool.not_eq_true'] at hps
 intro ds ae ev' cs e hc hQ
 rw [W.ref]
 refine (codeAny_call_function (fd:=fd) (body:=fi.body) hA0 W.at_ W.data (by rw [W.scope]; exact hps.2.1) (by rw [W.scope]; exact hps.2.2) W.body W.code ?_)
 refine bindArgs_simple (by rw [W.params]; exact List.isEmpty_iff.mp hpp.1.1) (by rw [W.params]; exact List.isEmpty_iff.mp hpp.1.2) (by rw [W.params]; exact Option.isNone_iff_eq_none.mp hpp.2.1) (by rw [W.params]; exact Option.isNone_iff_eq_none.mp hpp.2.2) (by rw [W.params]) (hdv.2 _ _ _) hbv.1 ?_
 rw [W.scope,W.globals,W.builtins,W.clo]
 exact enter_ok I hbv.2 W.lt (eq_of_beq hps.1) W.cd ds ae ev' cs e hc fun env s₁ ρ₁ F₁ q=>⟨q.inv.limit,hQ env s₁ ρ₁ F₁ q⟩
theorem callFn {r:Rec} {n:Nat} (S:SoundF X r n) (hA0:A.depth < recursionLimit) (hA:∀ env i,Room (X.wf ((env,i) :: X.fr)) (A.deeper env) n) {f:AV} {fv:Value} {as:List AV} {vs:List Value} {ks:List (Str × AV)} {kvs:List Value} {fi:FnI} (hfi:fnInfo X.K f=some fi)
  (I:Inv X ρ F σ s) (g:(RCall f fv as vs ks kvs).p σ.n ρ F):RunAt σ (eFn r fi as ks) fun b σ'=>∀ R:Result→Shared→Prop,(∀ v s' ρ' F',Got X ρ F σ s v s' ρ' F' b σ'→R (.ok (.ret v)) s')→codeAny (model X.prog X.w) A (.call fv ⟨vs,(ks.map (·.1)).zip kvs⟩) R s:=by
 refine cond_ind (P:=fun x=>RunAt σ x fun b σ'=>∀ R:Result→Shared→Prop,(∀ v s' ρ' F',Got X ρ F σ s v s' ρ' F' b σ'→R (.ok (.ret v)) s')→codeAny (model X.prog X.w) A (.call fv ⟨vs,(ks.map (·.1)).zip kvs⟩) R s) (fun hp=>?_) RunAt.fail
 cases hb:bindsOf (fi.params.args.map fun p=>p.arg) fi.dflts as ks with
 | none=>exact RunAt.fail
 | some binds =>
  intro ds b ev' cs e hc R hQ
  refine EM.bind_use (x:=eEnter fi.scope fi.closure fi.code binds) (f:=fun ae=>EM.bind (r.exs ae fi.body) fun fl=>onFl fl (eNorm σ.n noneAV) (eNorm σ.n) EM.fail) e hc fun ae ev₀ cs₀ _ e₀ e6 c0 c12=>?_
  refine EM.bind_use e6 c12 fun fl ev₁ cs₁ cs₂ e₁ e5 c1 c2=>?_
  refine callOpen hA0 hfi hp hb I g ds ae ev₀ cs₀ e₀ c0 fun env s₁ ρ₁ F₁ q=>codeAny_func ?_
  refine (S ((env,σ.n) :: X.fr)).exs _ (hA _ _) ae env fi.body ev₀ fl ev₁ cs₁ e₁ c1 ρ₁ F₁ s₁ q.inv q.ok _ _ fun w s' ρ' F' hr I₁ st₁=>?_
  cases fl with
  | ret v=>exact hr.elim fun u q2=>q2.1 ▸ hQ u s' ρ' F' (norm_ok I₁.unframe q2.2 (q.stp.trans st₁) (Nat.le_refl _) I.frlt ev₁.2 b ev' cs₂ e5 c2)
  | next=>exact (show w = .next from hr) ▸ hQ _ s' ρ' F' (norm_ok I₁.unframe (show Den ev₁.1.n ρ' F' noneAV .none from rfl) (q.stp.trans st₁) (Nat.le_refl _) I.frlt ev₁.2 b ev' cs₂ e5 c2)
  | brk=>exact noneOf e5
  | cont=>exact noneOf e5
theorem Sim.fn {r:Rec} {n:Nat} (S:SoundF X r n) (hA:Room X A (n + 1)) {f:AV} {fv:Value} {as:List AV} {vs:List Value} {ks:List (Str × AV)} {kvs:List Value} {fi:FnI} (hfi:fnInfo X.K f=some fi):Sim X A (RCall f fv as vs ks kvs) RDen (eFn r fi as ks) (call fv vs ((ks.map (·.1)).zip kvs)) :=
 Sim.ofRun fun σ ρ F s I g=>(callFn S (Nat.lt_of_le_of_lt (Nat.le_add_right _ _) hA.1) (fun env i=>hA.deeper env i) hfi I g).mono fun b σ' h Q E hQ=>wpAny_call (h _ fun v s' ρ' F' q=>hQ v s' ρ' F' q.den q.inv q.stp)
end
end Mine
open PySem PySem.W PyProof.Rows PySem.Builtin PySem.Builtin.ObjectAttr PySem.Builtin.Getset_descriptor
namespace Mine
noncomputable def excOver (K:Frag) (C:Addr):Bool:=onSome (clsIn K C) (fun c=>c.mro == [.ref C,.type "Exception",.type "BaseException",.type "object"]) false
noncomputable def storesIn (K:Frag) (C:Addr) (x:Str):Bool:=(isBuiltin "object.__setattr__" (findIn K (.ref C) "__setattr__") && (takerIn K C x == some none)) && (hasDictIn K C && (plainOver K C || excOver K C))
noncomputable def setSlot (xs:List (Option AV)) (j:Nat) (v:AV):List (Option AV):=(xs ++ List.replicate (j + 1 - xs.length) none).set j (some v)
noncomputable def slotNo (K:Frag) (C:Addr) (x:Str):Option (Addr × Nat):=_root_.cond (isBuiltin "object.__setattr__" (findIn K (.ref C) "__setattr__") && plainOver K C)
 ((refOf (takerIn K C x)).bind fun p=>_root_.cond (typeIn K (.ref p) == some (.type "member_descriptor")) ((slotIn K p C).bind fun j=>_root_.cond (Nat.blt j 1000) (some (p,j)) none) none) none
inductive SlotOk (K:Frag) (C:Addr) (x:Str) (q:Addr × Nat):Prop where
 | mk (h1:isBuiltin "object.__setattr__" (findIn K (.ref C) "__setattr__")=true) (h2:plainOver K C=true) (h3:takerIn K C x=some (some (.ref q.1))) (h4:typeIn K (.ref q.1)=some (.type "member_descriptor")) (h5:slotIn K q.1 C=some q.2) (h6:q.2 < 1000)
theorem ite_P {c:Prop} [Decidable c] {γ:Type} {P:γ→Prop} {t e:γ} (h1:c→P t) (h2:¬c→P e):P (ite c t e):=by
 split
 ·exact h1 ‹_›
 ·exact h2 ‹_›
theorem slotNo_ok {K:Frag} {C:Addr} {x:Str} {q:Addr × Nat} (h:slotNo K C x=some q):SlotOk K C x q:=by
 have h0:=condO h
 rw [Bool.and_eq_true] at h0
 refine (Option.bind_eq_some_iff.mp h0.2).elim fun p h=>(Option.bind_eq_some_iff.mp (condO h.2).2).elim fun j h2=>?_
 have h3:=condO h2.2
 rw [← Option.some.inj h3.2]
 exact ⟨h0.1.1,h0.1.2,refOf_ok h.1,eq_of_beq (condO h.2).1,h2.1,Nat.le_of_ble_eq_true h3.1⟩
noncomputable def setDictAt (d:Nat) (x:Str) (v:AV):EM Unit:=EM.bind (EM.cellAs asDict d) fun m=>EM.turn (m.length≤100) (fun σ=>σ.set d (.dict (setNs m x v))) ()
noncomputable def setSlotOf (K:Frag) (C:Addr) (i d:Nat) (xs:List (Option AV)) (x:Str) (v:AV):EM Unit:=EM.bind (EM.cellAs asDict d) fun _=>EM.bind (EM.opt (slotNo K C x)) fun q=>EM.upd fun σ=>σ.set i (.sinst C d (setSlot xs q.2 v))
noncomputable def eSetAttr (K:Frag) (av:AV) (x:Str) (v:AV):EM Unit:=onRef av (fun i=>EM.bind (EM.cell i) fun c =>
 onCInst c (fun C d=>_root_.dite (storesIn K C x=true) (fun _=>setDictAt d x v) fun _=>setSlotOf K C i d [] x v) <|
 onCSinst c (fun C d xs=>setSlotOf K C i d xs x v) <|
 onCExc c (fun C o t=>EM.bind (EM.chk (storesIn K C x)) fun _=>onSome o (fun d=>setDictAt d x v) (EM.st fun σ=>EM.turn (i < σ.n) (fun σ=>((σ.push (.dict [])).set i (.exc C (some σ.n) t)).set σ.n (.dict (setNs [] x v))) ())) EM.fail) EM.fail
section
variable {n:Nat} {ρ:Rho} {F:Fz}
theorem ODens.app:∀ {xs ys:List (Option AV)} {vs ws:List (Option Value)},ODens n ρ F xs vs→ODens n ρ F ys ws→ODens n ρ F (xs ++ ys) (vs ++ ws)
 | [],_,vs,_,h,k=>by rw [show vs=[] from h]; exact k
 | _ :: _,_,[],_,h,_=>h.elim
 | _ :: _,_,_ :: _,_,h,k=>⟨h.1,ODens.app h.2 k⟩
theorem ODens.gaps:∀ k:Nat,ODens n ρ F (List.replicate k none) (List.replicate k none)
 | 0=>rfl
 | k + 1=>⟨rfl,ODens.gaps k⟩
theorem ODens.len:∀ {xs:List (Option AV)} {vs:List (Option Value)},ODens n ρ F xs vs→xs.length=vs.length
 | [],vs,h=>by rw [show vs=[] from h]; rfl
 | _ :: _,[],h=>h.elim
 | _ :: _,_ :: _,h=>congrArg Nat.succ (ODens.len h.2)
theorem ODens.set {x:AV} {v:Value} (d:Den n ρ F x v):∀ {xs:List (Option AV)} {vs:List (Option Value)} (j:Nat),ODens n ρ F xs vs→ODens n ρ F (xs.set j (some x)) (vs.set j (some v))
 | [],vs,_,h=>by rw [show vs=[] from h]; exact (rfl:([]:List (Option Value))=[])
 | _ :: _,[],_,h=>h.elim
 | _ :: _,_ :: _,0,h=>⟨⟨v,rfl,d⟩,h.2⟩
 | _ :: _,_ :: _,j + 1,h=>⟨h.1,ODens.set d j h.2⟩
theorem DenEs.put {x:Str} {av:AV} {v:Value} {hs:Int} {t:Tok} (dv:Den n ρ F av v):∀ {fs:List (Str × AV)} {es:List DictEntry},DenEs n ρ F fs es→DenEs n ρ F (setNs fs x av) (putL x hs (.str x t) v es)
 | [],es,h=>by rw [show es=[] from h]; exact .cons dv .nil
 | _ :: _,[],h=>h.elim
 | p :: fs,e :: es,h=>by
  have hk:e.key.isStr x=(p.1 == x):=h.1.1.elim fun t q=>by rw [q]; rfl
  unfold setNs putL
  rw [hk]
  cases q:p.1 == x with
  | true=>exact ⟨⟨by rw [← eq_of_beq q]; exact h.1.1,dv⟩,h.2⟩
  | false=>exact ⟨h.1,DenEs.put dv h.2⟩
theorem putL_len {x:Str} {hs:Int} {k v:Value}:∀ es:List DictEntry,(putL x hs k v es).length≤es.length + 1
 | []=>Nat.le_refl _
 | e :: r=>by
  unfold putL
  exact ite_P (P:=fun l=>List.length l≤(e :: r).length + 1) (fun _=>Nat.le_succ _) fun _=>Nat.succ_le_succ (putL_len r)
end
section
variable {prog:Program} {w:World} {A:Around} {K:Frag} {C x:Addr} {s:Shared}
theorem slotStore {R:Result→Shared→Prop} {ox:Obj} {od:Option Obj} {v:Value} {p i:Nat} (X:K.In s.heap) (I:InstAt s.heap x ox C od) (hp:slotIn K p C=some i) (hi:i < 1000)
  (h:R (.ok (.ret .none)) { s with heap:=s.heap.update x (fun o=>{ o with slots:=(o.slots ++ Array.replicate (i + 1 - o.slots.size) none).setIfInBounds i (some v) }) }) :
  codeAny (model prog w) A (.call (.builtin "member_descriptor.__set__") ⟨[.ref p,.ref x,v],[]⟩) R s:=by
 obtain ⟨n,tn,owner,behind,tb,d,sl,cd,ho,hc,hm,hb,rfl⟩:=slot_of X hp
 obtain ⟨hh,g,dr,t,os⟩:=s
 have L0:=I.type (M:=model prog w)
 have L1:=looks_mroIn (M:=model prog w) X hm
 have L2:Looks (model prog w) hh (Slots.slotNamesOf (.ref C)) cd.slotNames:=(looks_clsIn X hc).andThen .now
 have hx:=I.at_
 dsimp only at ho hx L0 L1
 have f0:=looks_field (M:=model prog w) ho 0 (v:=.str n tn) rfl
 have f1:=looks_field (M:=model prog w) ho 1 (v:=owner) rfl
 have f3:=looks_field (M:=model prog w) ho 3 (v:=.builtin "proto.slot#set") rfl
 have f4:=looks_field (M:=model prog w) ho 4 (v:=.int behind tb) rfl
 refine codeAny_call_builtin KF.slot_mset.plain KF.entry_mset (KF.slot_mset.check _ _ _ _ _ _ _ _ ⟨_,ho,rfl⟩ (KF.args_mset _ _ _) ?_)
 unfold Builtin.«member_descriptor.__set__» Builtin.Getset_descriptor.descrSet Builtin.Getset_descriptor.descrStoreThrough Builtin.Getset_descriptor.descrCheckInstance Builtin.Getset_descriptor.descrNameAndClass isInstance
 have f5:Looks (model prog w) hh (descrItself (.ref p)) [.ref p]:=((Looks.ld (part:=none) ho).andThen .now).andThen (Looks.of_pure (by kernel_rfl))
 repeat lk
 refine ⟨Code.quiet_builtin _ (by decide +kernel),codeAny_builtin KF.entry_slotset ?_⟩
 unfold Builtin.«proto.slot#set» Slots.target
 repeat lk
 rw [if_neg hb]
 refine wpAny_pure (wpAny_bind ?_)
 unfold setSlotAt
 dsimp only
 rw [if_neg (by rw [sizeLine_eq]; omega)]
 exact wpAny_updatePart hx (wpAny_pure h)
theorem refuse_exc (self:Value):refuseLoop self "__setattr__" [.type "Exception",.type "BaseException",.type "object"]=pure ():=by kernel_rfl
theorem osa_openX {R:Result→Shared→Prop} {ox:Obj} {od:Option Obj} {name:Str} {tk:Tok} {v:Value} (X:K.In s.heap) (I:InstAt s.heap x ox C od)
  {cd:ClassData} (hc:clsIn K C=some cd) (ho:cd.mro=[.ref C,.type "Exception",.type "BaseException",.type "object"]) (ht:takerIn K C name=some none)
  (h:∀ b,wpAny (model prog w) A.in1 (storeInOwnDict (.ref x) (.ref C) (.str name tk) name v b)
   (fun fin s'=>match fin with | .done f=>R (.ok f) s' | .again c'=>c'.quiet=true∧codeAny (model prog w) A c' R s') (fun e s'=>R (.error e) s') s) :
  codeAny (model prog w) A (.call (.builtin "object.__setattr__") ⟨[.ref x,.str name tk,v],[]⟩) R s:=by
 have SF:=PySem.F.store_object
 have sub:Looks (model prog w) s.heap (isInstance (.ref x) (.type "object")) true:=I.type.andThen (looks_mroIn X (by unfold mroIn; rw [hc,Option.bind_some,ho,if_neg (by rintro ⟨⟩)]; simp))
 refine codeAny_call_builtin SF.slot.plain SF.entry (@check_slot (model prog w) _ _ s "object.__setattr__" "object" "__setattr__" (.ref x) [.str name tk,v] [] _ SF.kind SF.split sub (SF.args (.ref x) (.str name tk) v) ?_)
 refine (Option.bind_eq_some_iff.mp ht).elim fun attr q=>?_
 have hm:Looks (model prog w) s.heap (mroOf (.ref C)) cd.mro:=(looks_clsIn X hc).andThen .now
 have L3:Looks (model prog w) s.heap (storeTaker? attr) none:=by
  cases attr with
  | none=>exact .now
  | some a=>exact (Option.map_eq_some_iff.mp q.2).elim fun b hb=>(looks_takesIn X hb.1).andThen (by cases b with | false=>exact .now | true=>exact noneOf hb.2.symm)
 rw [osa_eq,refuse_eq]
 refine wpAny_bind (wpAny_bind (I.type.here (wpAny_bind (hm.here ?_))))
 rw [ho,refuseLoop_ref,refuse_exc]
 exact wpAny_pure (wpAny_bind (I.type.here (wpAny_bind ((looks_findIn X q.1).here (wpAny_bind (L3.here (h _)))))))
theorem set_open {ox:Obj} {od:Option Obj} {name:Str} {v:Value} {Q:Unit→Shared→Prop} {E:Value→Shared→Prop} (X:K.In s.heap) (I:InstAt s.heap x ox C od) (h:storesIn K C name=true)
  (H:∀ b,wpAny (model prog w) A.in1 (storeInOwnDict (.ref x) (.ref C) (.str name s.toks) name v b) (fun fin s'=>fin = .done (.ret .none)∧Q () s') E { s with toks:=s.toks + 1 }):wpAny (model prog w) A (setAttr (.ref x) name v) Q E s:=by
 rw [storesIn,Bool.and_eq_true,Bool.and_eq_true,Bool.and_eq_true,Bool.or_eq_true] at h
 refine set_plain X I (isBuiltin_ok h.1.1) ?_
 have H':∀ b,wpAny (model prog w) A.in1 (storeInOwnDict (.ref x) (.ref C) (.str name s.toks) name v b) (fun fin s'=>match fin with | .done f=>(fun (r:Result) s'=>match r with | .ok (.ret _)=>Q () s' | .ok _=>False | .error e=>E e s') (.ok f) s' | .again c'=>c'.quiet=true∧codeAny (model prog w) A c' (fun r s'=>match r with | .ok (.ret _)=>Q () s' | .ok _=>False | .error e=>E e s') s') E { s with toks:=s.toks + 1 } :=
  fun b=>wpAny_mono (H b) (fun fin s' z=>by rw [z.1]; exact z.2) fun _ _ z=>z
 refine h.2.2.elim (fun h2=>osa_open (s:={ s with toks:=s.toks + 1 }) X I h2 (eq_of_beq h.1.2) H') fun h2=>?_
 unfold excOver at h2
 cases e:clsIn K C with
 | none=>rw [e] at h2; exact ff h2
 | some cd=>rw [e] at h2; exact osa_openX (s:={ s with toks:=s.toks + 1 }) X I e (eq_of_beq h2) (eq_of_beq h.1.2) H'
theorem own_dict {a:Addr} {da:Data} {sl:Array (Option Value)} {nm:Str} {k v:Value} {b:Bool} {Q:Fin→Shared→Prop} {E:Value→Shared→Prop} (X:K.In s.heap) (ho:s.heap.get? x=some ⟨.ref C,some a,da,sl⟩) (hC:hasDictIn K C=true)
  (h:wpAny (model prog w) A (storeInDict a k nm v) Q E s):wpAny (model prog w) A (storeInOwnDict (.ref x) (.ref C) k nm v b) Q E s:=(hasDict_ok hC).elim fun cd hd=>by
 refine wpAny_bind (wpAny_pure (wpAny_bind (wpAny_bind (wpAny_loadPart ho (wpAny_bind ((looks_clsIn X hd.1).here ?_))))))
 rw [hd.2]
 exact wpAny_pure (a:=some a) h
end
section
variable {X:Ctx} {A:Around} {ρ:Rho} {F:Fz} {σ:St} {s:Shared} {Γ:Kn}
theorem store_dict (I:Inv X ρ F σ s) {d:Nat} {m:List (Str × AV)} {x:Str} {bv:AV} {w:Value} {tk:Tok} (hm:σ.get d=some (.dict m)) (hlen:m.length≤100) (db:Den σ.n ρ F bv w) {Q:Fin→Shared→Prop} {E:Value→Shared→Prop}
  (hQ:∀ s',Inv X ρ F (σ.set d (.dict (setNs m x bv))) s'→Stp ρ F σ s ρ F (σ.set d (.dict (setNs m x bv))) s'→Q (.done (.ret .none)) s'):wpAny (model X.prog X.w) A (storeInDict (ρ d) (.str x tk) x w) Q E s:=by
 refine (I.atD hm).elim fun es q=>q.elim fun k q=>?_
 have hod:=q.1
 refine wpAny_bind (wpAny_pure (wpAny_bind ?_))
 unfold nsSet
 refine wpAny_bind (wpAny_bind (wpAny_askSetting (wpAny_pure (wpAny_bind (wpAny_mkText (wpAny_bind (wpAny_loadPart hod ?_)))))))
 have c:aRefKeyMayBeTheName x es.toArray=false:=by rw [aRefKeyMayBeTheName_at,List.any_toArray,List.any_toArray,q.2.noRef,Bool.and_false]
 show wpAny _ _ (if aRefKeyMayBeTheName x es.toArray=true then _ else _) _ _ _
 rw [c]
 refine wpAny_updatePart hod ?_
 have hput:Obj.putName x (PyData.keyHash X.w.params x) (.str x s.toks) w (oDict es k)=oDict (putL x (PyData.keyHash X.w.params x) (.str x s.toks) w es) (putN x es k):=putName_dict ..
 have hg:(s.heap.update (ρ d) (Obj.putName x (PyData.keyHash X.w.params x) (.str x s.toks) w)).get? (ρ d)=some (oDict (putL x (PyData.keyHash X.w.params x) (.str x s.toks) w es) (putN x es k)):=by
  rw [Heap.get?_update_self _ hod (by rw [hput]; rfl),hput]
 refine wpAny_bind (wpAny_lookBehind hg (pastItsLine_dict (by
   rw [List.size_toArray]
   exact Nat.le_trans (putL_len es) (Nat.succ_le_succ (Nat.le_trans (Nat.le_of_eq q.2.len) (Nat.le_trans hlen (by decide)))))) ?_)
 have r:=I.set (c':=.dict (setNs m x bv)) (h':=s.heap.update (ρ d) (Obj.putName x (PyData.keyHash X.w.params x) (.str x s.toks) w)) hm (fun b o hb e=>by rw [Heap.get?_update_other _ _ (fun e=>hb e.symm)]; exact e) (.ofD hg (q.2.put db)) (s.toks + 1)
 exact wpAny_pure (hQ _ r.1 r.2)
theorem set_dict (I:Inv X ρ F σ s) {a C:Addr} {da:Data} {sl:Array (Option Value)} {x:Str} {bv:AV} {w:Value} (db:Den σ.n ρ F bv w) {d:Nat} (hx:s.heap.get? a=some ⟨.ref C,some (ρ d),da,sl⟩) (hn:notCls ⟨.ref C,some (ρ d),da,sl⟩=true) (hs:storesIn X.K C x=true) :
  RunAt σ (setDictAt d x bv) fun _ σ'=>Goes X A ρ F σ s (setAttr (.ref a) x w) (fun _=>Kn.top) σ':=RunAt.cellAs asDict_some fun m hm=>RunAt.turn fun hl=>fun Q E hQ=>by
 refine (I.atD hm).elim fun es q=>q.elim fun k q=>set_open (od:=some (oDict es k)) I.Kin ⟨hx,rfl,hn,q.1⟩ hs fun b=>?_
 have I1:=I.toks (s.toks + 1)
 have hs':=hs
 rw [storesIn,Bool.and_eq_true,Bool.and_eq_true,Bool.and_eq_true] at hs'
 exact own_dict I1.Kin hx hs'.2.1 (store_dict I1 hm hl db fun s' I' st'=>⟨rfl,hQ () s' ρ F trivial I' ((Stp.toks I.ids _).trans st')⟩)
theorem set_slot (I:Inv X ρ F σ s) {i d:Nat} {C:Addr} {xs:List (Option AV)} {vs:List (Option Value)} {x:Str} {bv:AV} {w:Value} (db:Den σ.n ρ F bv w) {c:Cell} (hi:σ.get i=some c) (hc:isNs c=false) (ho:s.heap.get? (ρ i)=some (oSlo C (ρ d) vs)) (hd:d < σ.n) (dx:ODens σ.n ρ F xs vs) :
  RunAt σ (setSlotOf X.K C i d xs x bv) fun _ σ'=>Goes X A ρ F σ s (setAttr (.ref (ρ i)) x w) (fun _=>Kn.top) σ':=RunAt.cellAs asDict_some fun m hm=>RunAt.opt fun q hq=>RunAt.updE fun Q E hQ=>by
 cases slotNo_ok hq with | mk h1 h2 h3 h4 h5 h6 =>
 refine (I.atD hm).elim fun es r=>r.elim fun k r=>?_
 have J:InstAt s.heap (ρ i) (oSlo C (ρ d) vs) C (some (oDict es k)):=⟨ho,rfl,rfl,r.1⟩
 refine set_plain I.Kin J (isBuiltin_ok h1) (osa_descr KF.slot_mset (s:={ s with toks:=s.toks + 1 }) I.Kin J h2 h3 h4 (slotStore (s:={ s with toks:=s.toks + 1 }) I.Kin J h5 h6 ?_))
 have hs:(vs.toArray ++ Array.replicate (q.2 + 1 - vs.toArray.size) none).setIfInBounds q.2 (some w)=((vs ++ List.replicate (q.2 + 1 - vs.length) none).set q.2 (some w)).toArray:=by
  rw [← List.toArray_replicate,List.append_toArray,List.setIfInBounds_toArray]; rfl
 have hup:(s.heap.update (ρ i) (fun o=>{ o with slots:=(o.slots ++ Array.replicate (q.2 + 1 - o.slots.size) none).setIfInBounds q.2 (some w) })).get? (ρ i)=some (oSlo C (ρ d) ((vs ++ List.replicate (q.2 + 1 - vs.length) none).set q.2 (some w))):=by
  rw [Heap.get?_update_self _ ho rfl]
  show some (⟨_,_,_,(vs.toArray ++ Array.replicate (q.2 + 1 - vs.toArray.size) none).setIfInBounds q.2 (some w)⟩:Obj)=_
  rw [hs]; rfl
 have r:=I.set (c':=.sinst C d (setSlot xs q.2 bv)) hi (h':=s.heap.update (ρ i) (fun o=>{ o with slots:=(o.slots ++ Array.replicate (q.2 + 1 - o.slots.size) none).setIfInBounds q.2 (some w) })) (fun b o hb e=>by rw [Heap.get?_update_other _ _ (fun e=>hb e.symm)]; exact e)
  ⟨_,hup,_,rfl,hd,by unfold setSlot; rw [dx.len]; exact ODens.set db _ (dx.app (ODens.gaps _))⟩ (s.toks + 1) (by rw [hc]; rfl)
 exact hQ () _ ρ F trivial r.1 r.2
theorem set_exc (I:Inv X ρ F σ s) {i:Nat} {C:Addr} {t:Option Nat} {x:Str} {bv:AV} {w:Value} (db:Den σ.n ρ F bv w) (hi:σ.get i=some (.exc C none t)) (hlt:i < σ.n) (hs:storesIn X.K C x=true) :
  Goes X A ρ F σ s (setAttr (.ref (ρ i)) x w) (fun _=>Kn.top) (((σ.push (.dict [])).set i (.exc C (some σ.n) t)).set σ.n (.dict (setNs [] x bv))):=fun Q E hQ=>by
 refine (I.atX hi).elim fun vs h=>set_open I.Kin (od:=none) ⟨h.1,rfl,rfl,trivial⟩ hs fun b=>?_
 have I1:=I.toks (s.toks + 1)
 have hs':=hs
 rw [storesIn,Bool.and_eq_true,Bool.and_eq_true,Bool.and_eq_true] at hs'
 refine (hasDict_ok hs'.2.1).elim fun cd hd=>?_
 have ho:s.heap.get? (ρ i)=some (oExc C none vs):=h.1
 refine wpAny_bind (wpAny_pure (wpAny_bind (wpAny_bind (wpAny_loadPart ho (wpAny_bind ((looks_clsIn I1.Kin hd.1).here ?_))))))
 rw [hd.2]
 refine wpAny_bind (wpAny_alloc ?_)
 have ho2:(s.heap.push { cls:=.type "dict",data:=.dict #[] }).get? (ρ i)=some (oExc C none vs):=Heap.get?_push_of_some _ ho
 have r2:=I1.push (a:=s.heap.objs.size) (c:=.dict []) (h':=s.heap.push { cls:=.type "dict",data:=.dict #[] }) (Heap.get?_none_of_le (Nat.le_refl _)) (fun b o e=>Heap.get?_push_of_some _ e) (.ofD (vs:=[]) (k:=0) (Heap.get?_push_size _ rfl) .nil) (s.toks + 1)
 refine wpAny_bind (wpAny_update ho2 ?_)
 have hρ:∀ j,j < σ.n→(ρ.put σ.n s.heap.objs.size) j=ρ j:=fun j hj=>Rho.put_lt ρ _ hj
 have hρi:=hρ i hlt
 have hρn:(ρ.put σ.n s.heap.objs.size) σ.n=s.heap.objs.size:=Rho.put_self _ _ _
 have hx2:(σ.push (.dict [])).get i=some (.exc C none t):=(St.get_push_lt _ _ hlt).trans hi
 have r3:=r2.1.set (i:=i) (c:=.exc C none t) (c':=.exc C (some σ.n) t) (h':=(s.heap.push { cls:=.type "dict",data:=.dict #[] }).update (ρ i) (fun o=>{ o with dict:=some s.heap.objs.size })) hx2
  (fun b o hb e=>by rw [Heap.get?_update_other _ _ (fun e=>hb (by rw [hρi]; exact e.symm))]; exact e)
  ⟨oExc C (some s.heap.objs.size) vs,by rw [hρi,Heap.get?_update_self _ ho2 rfl]; rfl,vs,congrArg (fun a=>oExc C (some a) vs) hρn.symm,by rw [tbVal_same fun j hj=>hρ j (h.2.2.2 j hj)]; exact h.2.1,fun j hj=>by rw [← Option.some.inj hj]; exact Nat.lt_succ_self _,fun j hj=>Nat.lt_succ_of_lt (h.2.2.2 j hj)⟩ (s.toks + 1)
 refine wpAny_pure (a:=some s.heap.objs.size) ?_
 have hm3:((σ.push (.dict [])).set i (.exc C (some σ.n) t)).get σ.n=some (.dict []):=(St.get_set_ne _ _ (Nat.ne_of_gt hlt)).trans (St.get_push_self _ _)
 have st:=((Stp.toks I.ids (s.toks + 1)).trans r2.2).trans r3.2
 have:=store_dict (A:=A.in1) (Q:=fun fin s'=>fin = .done (.ret .none)∧Q () s') (E:=E) (x:=x) (w:=w) (tk:=s.toks) (bv:=bv) r3.1 hm3 (by decide) (db.step st) fun s4 I4 st4=>⟨rfl,hQ () _ _ F trivial I4 (st.trans st4)⟩
 rw [hρn] at this
 exact this
theorem Sim.setAttr {av bv:AV} {v w:Value} {x:Str} (ha:Γ.le (RDen av v)) (hb:Γ.le (RDen bv w)):Sim X A Γ (fun _ _=>Kn.top) (eSetAttr X.K av x bv) (setAttr v x w):=by
 refine Sim.ofRun fun σ ρ F s I g=>?_
 have db:Den σ.n ρ F bv w:=hb _ _ _ g
 refine onRef_ind (P:=fun (y:EM Unit) av=>Den σ.n ρ F av v→RunAt σ y fun _ σ'=>Goes X A ρ F σ s (PySem.setAttr v x w) (fun _=>Kn.top) σ') (fun i d=>?_) (fun _=>RunAt.fail) (ha _ _ _ g)
 rw [(den_ref d).1]
 refine RunAt.cell fun c=>onCInst_ind (P:=fun (y:EM Unit) c=>σ.get i=some c→RunAt σ y fun _ σ'=>Goes X A ρ F σ s (PySem.setAttr (.ref (ρ i)) x w) (fun _=>Kn.top) σ') (fun C e hx=>?_) <|
  onCSinst_ind (P:=fun (y:EM Unit) c=>σ.get i=some c→RunAt σ y fun _ σ'=>Goes X A ρ F σ s (PySem.setAttr (.ref (ρ i)) x w) (fun _=>Kn.top) σ') (fun C e xs hx=>(I.atS hx).elim fun vs h=>set_slot I db hx rfl h.1 h.2.1 h.2.2) <|
  onCExc_ind (P:=fun (y:EM Unit) c=>σ.get i=some c→RunAt σ y fun _ σ'=>Goes X A ρ F σ s (PySem.setAttr (.ref (ρ i)) x w) (fun _=>Kn.top) σ') (fun C o t hx=>RunAt.chk fun hs=>?_) fun _=>RunAt.fail
 ·exact dite_P (P:=fun y=>RunAt σ y fun _ σ'=>Goes X A ρ F σ s (PySem.setAttr (.ref (ρ i)) x w) (fun _=>Kn.top) σ') (fun hs=>set_dict I db (I.atI hx).1 rfl hs) fun _=>set_slot I (vs:=[]) db hx rfl (I.atI hx).1 (I.atI hx).2 rfl
 ·cases o with
  | some d=>exact (I.atX hx).elim fun vs h=>set_dict I db h.1 rfl hs
  | none=>exact RunAt.turn (P:=i < σ.n) (g:=fun σ=>((σ.push (.dict [])).set i (.exc C (some σ.n) t)).set σ.n (.dict (setNs [] x bv))) (v:=()) fun hl=>set_exc I db hx hl hs
end
noncomputable def eNewList (xs:List AV):EM AV:=EM.bind (EM.cond (xs.length≤1000000)) fun _=>EM.bind (EM.push (.list xs)) fun i=>EM.ret (.ref i)
noncomputable def eNewListF (xs:List AV):EM AV:=EM.bind (EM.cond (xs.length≤1000000)) fun _=>EM.bind (EM.word some) fun w=>onWNorm w (EM.ret (.lst xs)) <| onWKeep w (EM.bind (EM.push (.list xs)) fun i=>EM.ret (.ref i)) EM.fail
noncomputable def eNewTuple (xs:List AV):EM AV:=EM.retIf (xs.length≤1000000) (.tup xs)
section
variable {X:Ctx} {A:Around} {ρ:Rho} {F:Fz} {σ:St} {s:Shared} {Γ:Kn}
theorem Sim.newList {xs:List AV} {vs:List Value} (h:Γ.le (RDens xs vs)):Sim X A Γ RDen (eNewList xs) (newList vs):=Sim.ofRun fun σ ρ F s I g=>RunAt.cond fun hl=>RunAt.push (RunAt.ret (Goes.to fun Q E hQ=>by
 have d:Dens σ.n ρ F xs vs:=h _ _ _ g
 refine wpAny_newList ?_ (by rw [← d.length]; exact Nat.le_trans hl (by decide))
 exact hQ _ _ _ F (Den.fresh ρ F σ _ _) (I.push (a:=s.heap.objs.size) (c:=.list xs) (h':=s.heap.push { cls:=.type "list",data:=.seq vs.toArray }) (Heap.get?_none_of_le (Nat.le_refl _)) (fun b o e=>Heap.get?_push_of_some _ e)
  (.ofL (vs:=vs) (k:=0) (Heap.get?_push_size _ rfl) (d.mono (Nat.le_succ _) (fun i hi=>Rho.put_lt ρ _ hi) (fun _ _ e=>e))) s.toks)))
theorem RunAt.newF {T:Sem Value} (I:Inv X ρ F σ s) {xs:List AV} {vs:List Value} (d:Dens σ.n ρ F xs vs) (H:xs.length≤1000000→∀ (Q:Value→Shared→Prop) (E:Value→Shared→Prop),Q (.ref s.heap.objs.size) { s with heap:=s.heap.push (oList vs 0) }→wpAny (model X.prog X.w) A T Q E s) :
  RunAt σ (eNewListF xs) fun b σ'=>Goes X A ρ F σ s T (RDen b) σ':=RunAt.cond fun hl=>RunAt.word fun w=>onWNorm_ind (P:=fun y _=>RunAt σ y fun b σ'=>Goes X A ρ F σ s T (RDen b) σ') (RunAt.ret (Goes.to fun Q E hQ=>H hl Q E (by
  have r:=I.freeze (a:=s.heap.objs.size) (o:=oList vs 0) (h':=s.heap.push (oList vs 0)) (Heap.get?_none_of_le (Nat.le_refl _)) (fun b o e=>Heap.get?_push_of_some _ e) (Heap.get?_push_size _ rfl) s.toks
  exact hQ _ _ ρ _ (.lst _ _ _ 0 (if_pos rfl) (Dens.step d r.2)) r))) <|
 onWKeep_ind (P:=fun y _=>RunAt σ y fun b σ'=>Goes X A ρ F σ s T (RDen b) σ') (RunAt.push (RunAt.ret (Goes.to fun Q E hQ=>H hl Q E (hQ _ _ _ F (Den.fresh ρ F σ _ _) (I.push (a:=s.heap.objs.size) (c:=.list xs) (h':=s.heap.push (oList vs 0)) (Heap.get?_none_of_le (Nat.le_refl _)) (fun b o e=>Heap.get?_push_of_some _ e)
  (.ofL (vs:=vs) (k:=0) (Heap.get?_push_size _ rfl) (d.mono (Nat.le_succ _) (fun i hi=>Rho.put_lt ρ _ hi) (fun _ _ e=>e))) s.toks))))) RunAt.fail
theorem Sim.newListF {xs:List AV} {vs:List Value} (h:Γ.le (RDens xs vs)):Sim X A Γ RDen (eNewListF xs) (PySem.newList vs):=Sim.ofRun fun σ ρ F s I g=>RunAt.newF I (h _ _ _ g) fun hl Q E hQ=>wpAny_newList hQ (by rw [← (show Dens σ.n ρ F xs vs from h _ _ _ g).length]; exact Nat.le_trans hl (by decide))
theorem Sim.newTuple {xs:List AV} {vs:List Value} (h:Γ.le (RDens xs vs)):Sim X A Γ RDen (eNewTuple xs) (newTuple vs):=Sim.ofRun fun σ ρ F s I g=>RunAt.retIf fun hl=>Goes.to fun Q E hQ=>by
 have d:Dens σ.n ρ F xs vs:=h _ _ _ g
 refine wpAny_newTuple ?_ (by rw [← d.length]; exact Nat.le_trans hl (by decide))
 have r:=I.freeze (a:=s.heap.objs.size) (o:=oTup vs 0) (h':=s.heap.push { cls:=.type "tuple",data:=.seq vs.toArray }) (Heap.get?_none_of_le (Nat.le_refl _)) (fun b o e=>Heap.get?_push_of_some _ e) (Heap.get?_push_size _ rfl) s.toks
 exact hQ _ _ ρ _ (.tup _ xs vs 0 (if_pos rfl) (d.step r.2)) r
end
noncomputable def excSlots (sl:Array (Option Value)):Bool:=(sl.size == 6) && (sl[4]? == some (some (.builtin "Exception.__new__")))
noncomputable def excMakes (K:Frag) (C:Addr):Bool:=onSome (K.lookup C) (fun o=>onSome (clsIn K C) (fun cd=>((o.cls == .type "type") && (cd.mro == [.ref C,.type "Exception",.type "BaseException",.type "object"])) && (!cd.hasDel && excSlots o.slots)) false) false
theorem len_s {α:Type} {n:Nat} {P:List α→Prop} (H:∀ a r,r.length=n→P (a :: r)):∀ l:List α,l.length=n + 1→P l
 | [],h=>nomatch h
 | a :: r,h=>H a r (Nat.succ.inj h)
theorem len_z {α:Type} {P:List α→Prop} (H:P []):∀ l:List α,l.length=0→P l
 | [],_=>H
 | _ :: _,h=>nomatch h
inductive ExcAt (h:Heap) (C:Addr):Prop where
 | mk (nm:Str) (q:Str) (N:Addr) (bs:List Value) (hdct:Bool) (sn:List Str) (sub:List Value) (ab:Bool) (col:Option Bool) (dd:Option Addr) (k0 k1 k2 k3 k5:Option Value) (e:h.get? C=some (excClassObj nm q C N bs [.type "Exception",.type "BaseException",.type "object"] hdct sn sub ab col dd k0 k1 k2 k3 k5 "Exception.__new__"))
theorem excMakes_is {K:Frag} {h:Heap} (X:K.In h) {C:Addr} (e:excMakes K C=true):ExcAt h C:=by
 unfold excMakes clsIn at e
 cases ho:K.lookup C with
 | none=>rw [ho] at e; exact ff e
 | some o =>
 rw [ho] at e
 cases o with | mk cls dd da sl =>
 cases da with
 | cls cd =>
  have e':(((cls == .type "type") && (cd.mro == [.ref C,.type "Exception",.type "BaseException",.type "object"])) && (!cd.hasDel && excSlots sl))=true:=e
  rw [Bool.and_eq_true,Bool.and_eq_true,Bool.and_eq_true,excSlots,Bool.and_eq_true,Bool.not_eq_true'] at e'
  cases cd with | mk nm bs mro N q hdct sn sub ab col hdel =>
  cases sl with | mk l =>
  refine len_s (P:=fun l=>K.lookup C=some ⟨cls,dd,.cls _,⟨l⟩⟩→(⟨l⟩:Array (Option Value))[4]? = some (some (.builtin "Exception.__new__"))→ExcAt h C) (fun k0=>len_s fun k1=>len_s fun k2=>len_s fun k3=>len_s fun k4=>len_s fun k5=>len_z fun ho e4=>?_) l (eq_of_beq e'.2.2.1) ho (eq_of_beq e'.2.2.2)
  have e1:cls=_:=eq_of_beq e'.1.1
  have e2:mro=_:=eq_of_beq e'.1.2
  have e3:hdel=false:=e'.2.1
  have e4':k4=some (.builtin "Exception.__new__"):=Option.some.inj e4
  rw [e1,e2,e3,e4'] at ho
  exact ⟨nm,q,N,bs,hdct,sn,sub,ab,col,dd,k0,k1,k2,k3,k5,X _ _ ho⟩
 | _=>exact ff e
noncomputable def excF (t:Addr):Array Value:=#[.ref t,.none,.none,.none,.bool false,.none]
section
variable {prog:Program} {w:World} {A:Around} {K:Frag} {C fI:Addr} {R:Result→Shared→Prop} {h:Heap} {g:Array GenState} {d:Drawn} {t:Nat} {os:OsState}
theorem new_exc {rest:List Value} (X:K.In h) (hm:excMakes K C=true) (hi:findIn K (.ref C) "__init__" = some (some (.ref fI))) (hf:typeIn K (.ref fI)=some (.type "function")) (hrest:rest.length≤sizeLine)
  (hq:codeAny (model prog w) (A.under (.builtin "type.__call__" ⟨.ref C :: rest,[]⟩)) (.call (.ref fI) ⟨.ref (h.objs.size + 1) :: rest,[]⟩) (InitBack (h.objs.size + 1) R) ⟨(h.push (oTup rest 0)).push (oExc C none (excF h.objs.size)),g,d,t,os⟩) :
  codeAny (model prog w) A (.call (.ref C) ⟨rest,[]⟩) R ⟨h,g,d,t,os⟩:=by
 cases excMakes_is X hm with | mk nm q N bs hdct sn sub ab col dd k0 k1 k2 k3 k5 hC =>
 have F:=PySem.F.excBase_Exception
 have f1:=tc_lookup
 have f2:=PySem.tc_bind (.ref C)
 have hT:(⟨h,g,d,t,os⟩:Shared).TypeIs (.ref C) "type":=⟨_,hC,rfl⟩
 refine codeAny_of_tree ?_
 show wpAny _ _ (callAny (.ref C) _) _ _ _
 repeat (any_goals (first | assumption | with_reducible refine wpAny_loadPart_at hC ?_ | wp_step))
 refine ⟨rfl,?_⟩
 refine codeAny_call_builtin_at (Code.quiet_builtin _ (by decide +kernel)) entry_typeCall (wpAny_check_type_call_sub hC ?_)
 repeat (first | with_reducible refine wpAny_loadPart_at hC ?_ | with_reducible refine wpAny_madeBy_exc hC ?_ | wp_step)
 refine codeAny_call_builtin_code (Code.quiet_builtin _ F.quiet) (wpAny_check_new_sub F hC ?_)
 refine codeAny_exc_new_sub F hC ?_ hrest
 show wpAny _ _ _ _ _ _
 have k:∀ b o,h.get? b=some o→((h.push (oTup rest 0)).push (oExc C none (excF h.objs.size))).get? b=some o:=fun b o e=>Heap.get?_push_of_some _ (Heap.get?_push_of_some _ e)
 have hC₁:=k _ _ hC
 have hget:((h.push (oTup rest 0)).push (oExc C none (excF h.objs.size))).get? (h.objs.size + 1)=some (oExc C none (excF h.objs.size)):=by heap_get
 have X':K.In ((h.push (oTup rest 0)).push (oExc C none (excF h.objs.size))):=fun a o e=>k a o (X a o e)
 have hcC:(Value.ref C :: [.type "Exception",.type "BaseException",.type "object"]).contains (.ref C)=true:=by simp
 show wpAny _ _ _ _ _ ⟨(h.push (oTup rest 0)).push (oExc C none (excF h.objs.size)),g,d,t,os⟩
 have L0:Looks (model prog w) ((h.push (oTup rest 0)).push (oExc C none (excF h.objs.size))) (typeOf (.ref (h.objs.size + 1))) (.ref C):=(Looks.ld hget).andThen .now
 have L1:Looks (model prog w) ((h.push (oTup rest 0)).push (oExc C none (excF h.objs.size))) (isSubtype (.ref C) (.ref C)) true:=fun A Q E s k q=>by
  cases s
  refine wpAny_isSubtype_exc (k _ _ hC₁) ?_
  rw [hcC]; exact q
 have L2:Looks (model prog w) ((h.push (oTup rest 0)).push (oExc C none (excF h.objs.size))) (isInstance (.ref (h.objs.size + 1)) (.ref C)) true:=L0.andThen L1
 have L3:=looks_findIn (M:=model prog w) X' hi
 refine wpAny_bind (L2.at ?_)
 rw [if_neg (by decide)]
 refine wpAny_bind (wpAny_holding ?_)
 unfold callSpecial? specialOf
 refine wpAny_bind (wpAny_bind (L0.at (L3.at ?_)))
 refine wpAny_holding (wpAny_bind ((bind_fn X' _ hf).at ?_))
 refine wpAny_bind (wpAny_call (codeAny_mono hq fun r s' z=>?_))
 rcases r with e | (v | _ | _ | _) <;> first | exact z | exact z.elim | skip
 obtain ⟨rfl,z⟩:=z
 exact wpAny_pure (wpAny_pure z)
end
noncomputable def pushRng (a b:Int):EM AV:=EM.bind (EM.push (.rng a b 1)) fun i=>EM.ret (.ref i)
noncomputable def eRange (as:List AV):EM AV:=on1 as (fun b=>onInt b (pushRng 0) EM.fail) <| on2 as (fun a b=>onInt a (fun a=>onInt b (pushRng a) EM.fail) EM.fail) EM.fail
noncomputable def eEnum (as:List AV):EM AV:=on1 as (fun a=>onRef a (fun l=>EM.bind (EM.cellAs asList l) fun _=>EM.bind (EM.push (.wl l 0)) fun i=>EM.bind (EM.push (.enum i 0)) fun j=>EM.ret (.ref j)) <| onLst a (fun xs=>EM.bind (EM.push (.fit xs 0)) fun i=>EM.bind (EM.push (.enum i 0)) fun j=>EM.ret (.ref j)) <| onStr a (fun x=>EM.bind (EM.push (.sit x 0)) fun i=>EM.bind (EM.push (.enum i 0)) fun j=>EM.ret (.ref j)) EM.fail) EM.fail
noncomputable def eTypeCall (T:String) (as:List AV):EM AV:=_root_.cond (T == "range") (eRange as) (_root_.cond (T == "enumerate") (eEnum as) EM.fail)
section
variable {X:Ctx} {A:Around} {ρ:Rho} {F:Fz} {σ:St} {s:Shared} {Γ:Kn}
noncomputable def SimV (X:Ctx) (A:Around) (f:Value) (x:EM AV) (as:List AV):Prop:=∀ (Γ:Kn) (vs:List Value),Γ.le (RDens as vs)→Sim X A Γ RDen x (call f vs)
theorem SimV.fail {f:Value} {as:List AV}:SimV X A f EM.fail as:=fun _ _ _=>Sim.fail
theorem SimV.of {f:Value} {as:List AV} {x:EM AV} (h:∀ σ ρ F s vs,Inv X ρ F σ s→Dens σ.n ρ F as vs→RunAt σ x fun b σ'=>Goes X A ρ F σ s (call f vs) (RDen b) σ'):SimV X A f x as:=fun _ _ hv=>Sim.ofRun fun σ ρ F s I g=>h σ ρ F s _ I (hv _ _ _ g)
theorem pushRng_ok (I:Inv X ρ F σ s) {a b:Int} {t u v:Tok} {k:Nat} {T:Sem Value} (h:∀ (Q:Value→Shared→Prop) (E:Value→Shared→Prop),Q (.ref s.heap.objs.size) { s with heap:=s.heap.push { cls:=.type "range",data:=.fields #[.int a t,.int b u,.int 1 v] },toks:=k }→wpAny (model X.prog X.w) A T Q E s) :
  RunAt σ (pushRng a b) fun c σ'=>Goes X A ρ F σ s T (RDen c) σ':=RunAt.push (RunAt.ret (Goes.to fun Q E hQ=>h Q E (hQ _ _ _ F (Den.fresh ρ F σ _ _) (I.push (a:=s.heap.objs.size) (c:=.rng a b 1) (h':=s.heap.push { cls:=.type "range",data:=.fields #[.int a t,.int b u,.int 1 v] }) (Heap.get?_none_of_le (Nat.le_refl _)) (fun b o e=>Heap.get?_push_of_some _ e)
    ⟨_,Heap.get?_push_size _ rfl,t,u,v,rfl⟩ k))))
theorem Sim.range (as:List AV):SimV X A (.type "range") (eRange as) as:=by
 refine on1_ind (P:=SimV X A (.type "range")) (fun b=>?_) (on2_ind (P:=SimV X A (.type "range")) (fun a b=>?_) fun _=>SimV.fail)
 ·exact onInt_ind (P:=fun x b=>SimV X A (.type "range") x [b]) (fun b=>SimV.of fun σ ρ F s vs I d=>dens1 (P:=fun vs=>RunAt σ (pushRng 0 b) fun c σ'=>Goes X A ρ F σ s (call (.type "range") vs) (RDen c) σ') d fun v (dv:∃ t,v = .int b t)=>dv.elim fun t e=>e ▸ pushRng_ok I fun Q E h=>call_range_1 h) SimV.fail
 ·exact onInt_ind (P:=fun x a=>SimV X A (.type "range") x [a,b]) (fun a=>onInt_ind (P:=fun x b=>SimV X A (.type "range") x [.int a,b]) (fun b=>SimV.of fun σ ρ F s vs I d=>dens2 (P:=fun vs=>RunAt σ (pushRng a b) fun c σ'=>Goes X A ρ F σ s (call (.type "range") vs) (RDen c) σ') d fun u v (du:∃ t,u = .int a t) (dv:∃ t,v = .int b t)=>du.elim fun t e=>dv.elim fun t' e'=>e ▸ e' ▸ pushRng_ok I fun Q E h=>call_range_2 h) SimV.fail) SimV.fail
theorem pushEnum (I:Inv X ρ F σ s) {c:Cell} {h':Heap} (hit:CellAt (σ.n + 1) (ρ.put σ.n s.heap.objs.size) F h' s.heap.objs.size c) (he:IsEnum h' (s.heap.objs.size + 1) s.heap.objs.size 0 .none) (hk:∀ b o,s.heap.get? b=some o→h'.get? b=some o)
  {Q:Value→Shared→Prop} (hQ:∀ v s' ρ' F',Den ((σ.push c).push (.enum σ.n 0)).n ρ' F' (.ref (σ.n + 1)) v→Inv X ρ' F' ((σ.push c).push (.enum σ.n 0)) s'∧Stp ρ F σ s ρ' F' ((σ.push c).push (.enum σ.n 0)) s'→Q v s'):Q (.ref (s.heap.objs.size + 1)) { s with heap:=h' }:=by
 let h₁:Heap:=h'.update (s.heap.objs.size + 1) (fun o=>{ o with data:=.freed })
 have h₁o:∀ b,b ≠ s.heap.objs.size + 1→h₁.get? b=h'.get? b:=fun b hb=>Heap.get?_update_other _ _ (Ne.symm hb)
 have h₁n:h₁.get? (s.heap.objs.size + 1)=none:=by
  cases q:h₁.get? (s.heap.objs.size + 1) with
  | none=>rfl
  | some o =>
   have q1:=Heap.get?_some_iff.mp q
   have:h₁.objs[s.heap.objs.size + 1]? = h'.objs[s.heap.objs.size + 1]?.map (fun o=>{ o with data:=.freed }):=by
    show (Heap.update h' (s.heap.objs.size + 1) _).objs[s.heap.objs.size + 1]? = _
    cases h'; simp only [Heap.update,Array.getElem?_modify,if_true]
   rw [this,(Heap.get?_some_iff.mp he).1] at q1
   rw [← Option.some.inj q1.1] at q1
   exact ff q1.2.symm
 have r₁:=I.push (a:=s.heap.objs.size) (c:=c) (h':=h₁) (Heap.get?_none_of_le (Nat.le_refl _)) (fun b o e=>by rw [h₁o b (Nat.ne_of_lt (Nat.lt_succ_of_lt (Heap.lt_size e)))]; exact hk b o e)
  (hit.keep fun o e=>by rw [h₁o _ (Nat.ne_of_lt (Nat.lt_succ_self _))]; exact e) s.toks
 have hρ:((ρ.put σ.n s.heap.objs.size).put (σ.n + 1) (s.heap.objs.size + 1)) σ.n=s.heap.objs.size:=by rw [Rho.put_lt _ _ (Nat.lt_succ_self _),Rho.put_self]
 have r₂:=r₁.1.push (a:=s.heap.objs.size + 1) (c:=.enum σ.n 0) (h':=h') h₁n (fun b o e=>by
   have e':h₁.get? b=some o:=e
   by_cases q:b=s.heap.objs.size + 1
   ·rw [q,h₁n] at e'; exact noneOf e'
   ·rw [← h₁o b q]; exact e') ⟨_,he,.none,by show _=({ cls:=.type "enumerate",dict:=none,data:=.fields #[.none,.bool false,.ref (((ρ.put σ.n s.heap.objs.size).put (σ.n + 1) (s.heap.objs.size + 1)) σ.n),rawInt ((0:Nat):Int),.none,.none],slots:=#[] }:Obj)∧σ.n < σ.n + 1 + 1; rw [hρ]; exact ⟨rfl,Nat.lt_succ_of_lt (Nat.lt_succ_self _)⟩⟩ s.toks
 exact hQ _ _ _ F (Den.fresh (ρ.put σ.n s.heap.objs.size) F (σ.push c) _ _) ⟨r₂.1,r₁.2.trans r₂.2⟩
theorem Sim.enumerate (as:List AV):SimV X A (.type "enumerate") (eEnum as) as:=by
 refine on1_ind (P:=SimV X A (.type "enumerate")) (fun a=>?_) SimV.fail
 refine onRef_ind (P:=fun x a=>SimV X A (.type "enumerate") x [a]) (fun l=>?_) ?_
 ·refine SimV.of fun σ ρ F s vs I d=>RunAt.cellAs asList_some fun xs hx=>RunAt.push (RunAt.push (RunAt.ret ?_))
  refine dens1 (P:=fun vs=>Goes X A ρ F σ s (call (.type "enumerate") vs) (RDen (.ref (σ.n + 1))) ((σ.push (.wl l 0)).push (.enum σ.n 0))) d fun v (dv:v = .ref (ρ l)∧l < σ.n)=>?_
  rw [dv.1]
  exact (I.atL hx).elim fun ws q=>q.elim fun k q=>Goes.to fun Q E hQ=>call_enumerate_list (items:=ws.toArray) ⟨_,q.1,rfl,k,rfl⟩ fun h' he hit hsz hk=>pushEnum I (c:=.wl l 0) (.ofWl (by rw [Rho.put_lt ρ _ dv.2]; exact hit) (Nat.lt_succ_of_lt dv.2)) he hk hQ
 refine onLst_ind (P:=fun x a=>SimV X A (.type "enumerate") x [a]) (fun xs=>SimV.of fun σ ρ F s vs I d=>RunAt.push (RunAt.push (RunAt.ret ?_))) ?_
 ·refine dens1 (P:=fun vs=>Goes X A ρ F σ s (call (.type "enumerate") vs) (RDen (.ref (σ.n + 1))) ((σ.push (.fit xs 0)).push (.enum σ.n 0))) d fun v dv=>?_
  cases den_lst dv with | mk a ws k e hF hs =>
  rw [e]
  exact Goes.to fun Q E hQ=>call_enumerate_list (items:=ws.toArray) ⟨_,I.froz _ _ hF,rfl,k,rfl⟩ fun h' he hit hsz hk=>pushEnum I (c:=.fit xs 0) (.ofFit hit hF (hs.mono (Nat.le_succ _) (fun i hi=>Rho.put_lt ρ _ hi) fun _ _ e=>e)) he hk hQ
 refine onStr_ind (P:=fun x a=>SimV X A (.type "enumerate") x [a]) (fun x=>SimV.of fun σ ρ F s vs I d=>RunAt.push (RunAt.push (RunAt.ret ?_))) SimV.fail
 refine dens1 (P:=fun vs=>Goes X A ρ F σ s (call (.type "enumerate") vs) (RDen (.ref (σ.n + 1))) ((σ.push (.sit x 0)).push (.enum σ.n 0))) d fun v (dv:∃ t,v = .str x t)=>dv.elim fun t e=>?_
 rw [e]
 exact Goes.to fun Q E hQ=>call_enumerate_str fun h' he hit hsz hk=>pushEnum I (c:=.sit x 0) (hit.elim fun o q=>⟨o,q.1,q.2.1,t,q.2.2⟩) he hk hQ
theorem Sim.typeCall {T:String} (as:List AV):SimV X A (.type T) (eTypeCall T as) as :=
 cond_ind (P:=fun x=>SimV X A (.type T) x as) (fun h=>by rw [eq_of_beq h]; exact Sim.range as) (cond_ind (P:=fun x=>SimV X A (.type T) x as) (fun h=>by rw [eq_of_beq h]; exact Sim.enumerate as) SimV.fail)
end
noncomputable def boolsOf (xs:List AV):Option (List Bool):=xs.foldr (fun a o=>onBool a (fun b=>o.map (b :: ·)) none) (some [])
noncomputable def shownB (bs:List Bool):Str:=PyData.shown (.list (bs.map .bool))
noncomputable def eAllB (as:List AV):EM AV:=on1 as (fun a=>onRef a (fun i=>EM.bind (eCellL i) fun xs=>EM.bind (EM.opt (boolsOf xs)) fun bs=>EM.ret (.bool (bs.all id))) EM.fail) EM.fail
noncomputable def eReprB (as:List AV):EM AV:=on1 as (fun a=>onRef a (fun i=>EM.bind (eCellL i) fun xs=>EM.bind (EM.opt (boolsOf xs)) fun bs=>EM.retIf ((shownB bs).length≤1000000) (.str (shownB bs))) EM.fail) EM.fail
noncomputable def eRevL (as:List AV):EM AV:=on1 as (fun a=>onRef a (fun l=>EM.bind (EM.cellAs asList l) fun xs=>EM.bind (EM.push (.rev l ((xs.length:Int) - 1))) fun j=>EM.ret (.ref j)) EM.fail) EM.fail
noncomputable def eTypeCallR (T:String) (as:List AV):EM AV:=_root_.cond (T == "reversed") (eRevL as) (eTypeCall T as)
section
variable {X:Ctx} {A:Around} {ρ:Rho} {F:Fz} {σ:St} {s:Shared} {Γ:Kn}
theorem bools_den {n:Nat}:∀ {xs:List AV} {vs:List Value} {bs:List Bool},boolsOf xs=some bs→Dens n ρ F xs vs→vs=bs.map Value.bool
 | [],vs,bs,h,d=>by rw [show vs=[] from d,← Option.some.inj h]; rfl
 | _ :: _,[],_,_,d=>d.elim
 | a :: xs,v :: vs,bs,h,d=>onBool_ind (P:=fun (o:Option (List Bool)) a=>o=some bs→Den n ρ F a v→v :: vs=bs.map Value.bool) (fun b h (dv:v = .bool b)=>(Option.map_eq_some_iff.mp h).elim fun cs q=>by rw [← q.2,dv,bools_den q.1 d.2]; rfl) (fun h=>noneOf h) h d.1
theorem range_all (bs:List Bool):(List.range bs.length).all (fun i=>bs.getD i false)=bs.all id:=by
 rw [Bool.eq_iff_iff,List.all_eq_true,List.all_eq_true]
 constructor
 ·intro h b hb
  obtain ⟨i,hi,e⟩:=List.mem_iff_getElem.mp hb
  have:=h i (List.mem_range.mpr hi)
  rwa [List.getD_eq_getElem?_getD,List.getElem?_eq_getElem hi,Option.getD_some,e] at this
 ·intro h i hi
  have hi':=List.mem_range.mp hi
  rw [List.getD_eq_getElem?_getD,List.getElem?_eq_getElem hi',Option.getD_some]
  exact h _ (List.getElem_mem hi')
theorem readsB {h:Heap}:∀ bs:List Bool,ReadsAll h (bs.map Value.bool) (bs.map PyData.bool) []
 | []=>.nil
 | b :: bs=>.cons (as:=[]) (bs:=[]) (.bool b) (readsB bs)
theorem showB:∀ bs:List Bool,PyData.showableAll (bs.map PyData.bool)=true∧PyData.hasDictAll (bs.map PyData.bool)=false∧PyData.depthAll (bs.map PyData.bool)=0
 | []=>⟨rfl,rfl,rfl⟩
 | b :: bs=>by
  have ih:=showB bs
  rw [List.map_cons]
  unfold PyData.showableAll PyData.hasDictAll PyData.depthAll
  rw [ih.1,ih.2.1,ih.2.2]
  exact ⟨rfl,rfl,rfl⟩
theorem Sim.allB (hA:A.handled=none) (as:List AV):SimB X A "all" (eAllB as) as:=by
 refine on1_ind (P:=SimB X A "all") (fun a=>?_) SimB.fail
 refine onRef_ind (P:=fun x a=>SimB X A "all" x [a]) (fun l=>?_) SimB.fail
 refine SimB.of fun σ ρ F s vs I d=>RunAt.cellL fun xs hx hl=>RunAt.opt fun bs hb=>RunAt.ret ?_
 refine dens1 (P:=fun vs=>Goes X A ρ F σ s (call (.builtin "all") vs) (RDen (.bool (bs.all id))) σ) d fun v (dv:v = .ref (ρ l)∧l < σ.n)=>?_
 rw [dv.1]
 refine (I.atL hx).elim fun ws q=>q.elim fun k q=>Goes.to fun Q E hQ=>?_
 have hw:=bools_den hb q.2
 have hlt:=Heap.lt_size q.1
 refine call_all_walk (wpAny_pyIter_list (items:=ws.toArray) ⟨_,q.1,rfl,k,rfl⟩ ⟨_,_,_,_,_,_,fun i=>bs.getD i false,rfl,Walks.list (A:=A.in1) hA s.heap.objs.size (ρ l) (Nat.ne_of_lt hlt) ws.toArray,
  ⟨⟨_,Heap.get?_push_size _ rfl,rfl,rfl⟩,⟨_,Heap.get?_push_of_some _ q.1,rfl,k,rfl⟩⟩,fun i v s Q E hi hQ=>?_,fun h' tk hk=>?_⟩)
 ·have hi':(bs.map Value.bool)[i]? = some v:=by rw [← hw]; simpa using hi
  rw [List.getElem?_map] at hi'
  obtain ⟨b,hb,e⟩:=Option.map_eq_some_iff.mp hi'
  rw [← e]
  have hQ:Q (bs.getD i false) s:=hQ
  rw [List.getD_eq_getElem?_getD,hb] at hQ
  exact wpAny_truthy_bool hQ
 ·rw [List.size_toArray,show ws.length=bs.length by rw [hw,List.length_map],range_all]
  exact hQ _ _ ρ F rfl (I.grow (fun b o e=>hk b o (fun hm=>absurd (List.mem_singleton.mp hm ▸ Heap.lt_size e) (Nat.lt_irrefl _)) (Heap.get?_push_of_some _ e)) tk)
theorem Sim.reprB (hg:A.guards=some []) (hu:A.units + 2 < cLine) (as:List AV):SimB X A "repr" (eReprB as) as:=by
 refine on1_ind (P:=SimB X A "repr") (fun a=>?_) SimB.fail
 refine onRef_ind (P:=fun x a=>SimB X A "repr" x [a]) (fun l=>?_) SimB.fail
 refine SimB.of fun σ ρ F s vs I d=>RunAt.cellL fun xs hx hl=>RunAt.opt fun bs hb=>RunAt.retIf fun hz=>?_
 refine dens1 (P:=fun vs=>Goes X A ρ F σ s (call (.builtin "repr") vs) (RDen (.str (shownB bs))) σ) d fun v (dv:v = .ref (ρ l)∧l < σ.n)=>?_
 rw [dv.1]
 refine (I.atL hx).elim fun ws q=>q.elim fun k q=>Goes.to fun Q E hQ=>?_
 have hw:=bools_den hb q.2
 have sb:=showB bs
 refine repr_of_reads' (d:=.list (bs.map .bool)) (as:=[ρ l]) (.list q.1 rfl rfl (by rw [hw]; exact readsB bs)) ?_ (fun h=>?_) hg ?_ (fun _ _ e=>e) (fun h' u tk hk=>hQ _ _ ρ F ⟨u,rfl⟩ (I.grow hk tk)) (Nat.le_trans hz (by decide))
 ·unfold PyData.showable; exact sb.1
 ·unfold PyData.hasDict at h; rw [sb.2.1] at h; exact nomatch h
 ·unfold PyData.depth; rw [sb.2.2]; exact hu
theorem Sim.revL (as:List AV):SimV X A (.type "reversed") (eRevL as) as:=by
 refine on1_ind (P:=SimV X A (.type "reversed")) (fun a=>?_) SimV.fail
 refine onRef_ind (P:=fun x a=>SimV X A (.type "reversed") x [a]) (fun l=>?_) SimV.fail
 refine SimV.of fun σ ρ F s vs I d=>RunAt.cellAs asList_some fun xs hx=>RunAt.push (RunAt.ret ?_)
 refine dens1 (P:=fun vs=>Goes X A ρ F σ s (call (.type "reversed") vs) (RDen (.ref σ.n)) (σ.push (.rev l ((xs.length:Int) - 1)))) d fun v (dv:v = .ref (ρ l)∧l < σ.n)=>?_
 rw [dv.1]
 refine (I.atL hx).elim fun ws q=>q.elim fun k q=>Goes.to fun Q E hQ=>call_reversed_list (items:=ws.toArray) ⟨_,q.1,rfl,k,rfl⟩ ?_
 refine hQ _ _ _ F (Den.fresh ρ F σ _ _) (I.push (a:=s.heap.objs.size) (c:=.rev l ((xs.length:Int) - 1)) (h':=s.heap.push (revObj (ρ l) ((ws.toArray.size:Int) - 1))) (Heap.get?_none_of_le (Nat.le_refl _)) (fun b o e=>Heap.get?_push_of_some _ e) ⟨_,Heap.get?_push_size _ rfl,?_,Nat.lt_succ_of_lt dv.2⟩ s.toks)
 rw [Rho.put_lt ρ _ dv.2,List.size_toArray,← q.2.length]
 exact ⟨rfl,rfl⟩
theorem Sim.typeCallR (T:String) (as:List AV):SimV X A (.type T) (eTypeCallR T as) as:=cond_ind (P:=fun x=>SimV X A (.type T) x as) (fun h=>by rw [eq_of_beq h]; exact Sim.revL as) (Sim.typeCall as)
end
structure GText where
 pre:List Stmt
 test1:Expr
 test2:Expr
 item:Expr
 rest:List Stmt
 ypos:Pos
 epos:Pos
 pos1:Pos
 pos2:Pos
noncomputable def GText.inner (t:GText):List Stmt:=[.Expr (.Yield (some t.item) t.ypos) t.epos]
noncomputable def GText.outer (t:GText):List Stmt:=.While t.test2 t.inner [] t.pos2 :: t.rest
noncomputable def GText.body (t:GText):List Stmt:=t.pre ++ [.While t.test1 t.outer [] t.pos1]
structure GFor where
 t:GText
 f:Nat
 k:Nat
structure Ext where
 gen:Stmt→Option GFor
 hs:Str→Int
noncomputable def eLen (as:List AV):EM AV:=on1 as (fun a=>onRef a (fun i=>EM.bind (eCellL i) fun xs=>EM.ret (.int xs.length)) <| onTup a (fun xs=>EM.retIf (xs.length≤1000000) (.int xs.length)) <| onLst a (fun xs=>EM.retIf (xs.length≤1000000) (.int xs.length)) <| onStr a (fun x=>EM.retIf (x.length≤1000000) (.int x.length)) EM.fail) EM.fail
noncomputable def eStrOf (as:List AV):EM AV:=on1 as (fun a=>onInt a (fun i=>EM.retIf (0≤i∧i < 2 ^ 63) (.str (toString i))) EM.fail) EM.fail
noncomputable def strAt (a:AV):Option Str:=onStr a some none
noncomputable def strsAt (xs:List AV):List Str:=xs.map fun x=>(strAt x).getD Str.empty
noncomputable def eJoinL (as:List AV):EM AV:=on2 as (fun a l=>onStr a (fun sep=>onRef l (fun i=>EM.bind (eCellL i) fun xs=>EM.retIf ((∀ y ∈ xs,(strAt y).isSome)∧JoinOk sep (strsAt xs)=true) (.str (Txt.join sep (strsAt xs)))) EM.fail) EM.fail) EM.fail
noncomputable def notVal (v:AV):Bool:=onVal v (fun _=>false) true
noncomputable def eIsInst (K:Frag) (as:List AV):EM AV:=on2 as (fun v c=>onVal c (fun w=>onVRef w (fun C=>EM.bind (EM.chk (notVal v)) fun _=>EM.st fun σ=>onSome (typ K σ v) (fun T=>EM.retB (isIn K T C) (.bool true)) EM.fail) EM.fail) EM.fail) EM.fail
noncomputable def eBuiltinK (K:Frag) (nm:String) (as:List AV):EM AV:=_root_.cond (nm == "isinstance") (eIsInst K as) <| _root_.cond (nm == "list.append") (eAppend as) <| _root_.cond (nm == "list.pop") (ePop as) <| _root_.cond (nm == "list.insert") (eInsert as) <|
 _root_.cond (nm == "list.clear") (eClear as) <| _root_.cond (nm == "next") (eNext as) <| _root_.cond (nm == "iter") (eIter as) <| _root_.cond (nm == "len") (eLen as) <| _root_.cond (nm == "str.join") (eJoinL as) <| _root_.cond (nm == "all") (eAllB as) <| _root_.cond (nm == "repr") (eReprB as) EM.fail
noncomputable def allSome (xs:List (Option AV)):Option (List AV):=xs.foldr (fun o k=>o.bind fun x=>k.map fun r=>x :: r) (some [])
noncomputable def eFroz (N x d:Nat) (v:AV):EM AV:=EM.st fun σ=>EM.turn ((N≤x∧N≤d∧N≤σ.n)∧Und N v∧∀ p ∈ (σ.cut N).objs,UndC N p.2) (fun σ=>σ.cut N) v
noncomputable def eFreeze (N x:Nat):EM AV:=EM.bind (EM.word some) fun w=>onWKeep w (EM.st fun σ=>EM.retIf (x < σ.n) (.ref x)) <| onWNorm w (EM.bind (EM.cell x) fun c =>
 onCInst c (fun C d=>EM.bind (EM.cellAs asDict d) fun m=>eFroz N x d (.obj C m)) <| onCSinst c (fun C d xs=>EM.bind (EM.cellAs asDict d) fun _=>EM.bind (EM.opt (allSome xs)) fun ys=>eFroz N x d (.slo C ys)) EM.fail) EM.fail
noncomputable def initIf (K:Frag) (b:Bool) (C:Addr):Option (Addr × FnI):=_root_.cond b ((refOf (findIn K (.ref C) "__init__")).bind fun f=>_root_.cond (typeIn K (.ref f) == some (.type "function")) ((fnInfo K (.val (.ref f))).map fun fi=>(f,fi)) none) none
noncomputable def ifNone (v:AV) (x:EM AV):EM AV:=onVal v (fun w=>onVNone w x EM.fail) EM.fail
noncomputable def eNew (K:Frag) (r:Rec) (C:Addr) (as:List AV) (ks:List (Str × AV)):EM AV:=EM.bind (EM.opt (initIf K (makesIn K C) C)) fun q=>EM.bind (EM.push (.dict [])) fun d=>EM.bind (EM.push (.inst C d)) fun x=>EM.bind (eFn r q.2 (.ref x :: as) ks) fun v=>ifNone v (eFreeze d x)
noncomputable def eNewX (K:Frag) (r:Rec) (C:Addr) (as:List AV):EM AV:=EM.bind (EM.opt (initIf K (excMakes K C) C)) fun q=>EM.bind (EM.push (.exc C none none)) fun i=>EM.bind (eFn r q.2 (.ref i :: as) []) fun v=>ifNone v (EM.st fun σ=>EM.retIf (i < σ.n∧as.length≤1000) (.ref i))
inductive InitOk (K:Frag) (b:Bool) (C:Addr) (q:Addr × FnI):Prop where
 | mk (h:b=true) (hi:findIn K (.ref C) "__init__" = some (some (.ref q.1))) (hf:typeIn K (.ref q.1)=some (.type "function")) (hfi:fnInfo K (.val (.ref q.1))=some q.2)
theorem initIf_ok {K:Frag} {b:Bool} {C:Addr} {q:Addr × FnI} (h:initIf K b C=some q):InitOk K b C q:=by
 have h0:=condO h
 refine (Option.bind_eq_some_iff.mp h0.2).elim fun f h1=>?_
 have h2:=condO h1.2
 refine (Option.map_eq_some_iff.mp h2.2).elim fun fi h3=>?_
 rw [← h3.2]
 exact ⟨h0.1,refOf_ok h1.1,eq_of_beq h2.1,h3.1⟩
section
variable {X:Ctx} {A:Around} {ρ:Rho} {F:Fz} {σ:St} {s:Shared} {Γ:Kn}
theorem allSome_dens {n:Nat}:∀ {xs:List (Option AV)} {vs:List (Option Value)} {ys:List AV},ODens n ρ F xs vs→allSome xs=some ys→∃ ws,vs=ws.map some∧Dens n ρ F ys ws
 | [],vs,ys,d,h=>⟨[],d,Option.some.inj h ▸ (Dens.nil:Dens n ρ F [] [])⟩
 | _ :: _,[],_,d,_=>d.elim
 | none :: _,_ :: _,_,_,h=>noneOf h
 | some x :: xs,v :: vs,ys,d,h=>(Option.map_eq_some_iff.mp (show (allSome xs).map _=some ys from h)).elim fun r q=>d.1.elim fun w e=>(allSome_dens d.2 q.1).elim fun ws p=>⟨w :: ws,by rw [e.1,p.1]; rfl,q.2 ▸ Dens.cons e.2 p.2⟩
theorem cut_get {N i:Nat} {c:Cell} (h:(σ.cut N).get i=some c):i < N∧σ.get i=some c:=by
 have e:(σ.cut N).get i=_:=filter_look (fun i=>Nat.blt i N) i σ.objs
 rw [e] at h
 cases q:Nat.blt i N with
 | true=>rw [q] at h; exact ⟨Nat.le_of_ble_eq_true q,h⟩
 | false=>rw [q] at h; exact noneOf h
theorem cut_ne {N x:Nat} {c:Cell} (I:Inv X ρ F σ s) (hx:σ.get x=some c) (hN:N≤x):∀ i c,(σ.cut N).get i=some c→ρ i ≠ ρ x:=fun i c' h=>I.ne (cut_get h).2 hx (Nat.ne_of_lt (Nat.lt_of_lt_of_le (cut_get h).1 hN))
noncomputable def Kept (X:Ctx) (N x:Nat) (σ:St) (b:AV) (σ':St):Prop:=∀ (ρ₀:Rho) (F₀:Fz) (σ₀:St) (s₀:Shared) (ρ:Rho) (F:Fz) (s:Shared),Inv X ρ F σ s→Stp ρ₀ F₀ σ₀ s₀ ρ F σ s→σ₀.n≤N→(∀ e ∈ X.fr,e.2 < N)→∃ F',Got X ρ₀ F₀ σ₀ s₀ (.ref (ρ x)) s ρ F' b σ'
theorem froz_ok {N x d:Nat} {v:AV} {c c':Cell} (hx:σ.get x=some c) (hd:σ.get d=some c') (h:∀ (ρ:Rho) (F:Fz) (s:Shared),Inv X ρ F σ s→∃ o od,s.heap.get? (ρ x)=some o∧s.heap.get? (ρ d)=some od∧∀ F',(∀ a o,F a=some o→F' a=some o)→F' (ρ x)=some o→F' (ρ d)=some od→Den σ.n ρ F' v (.ref (ρ x))) :
  RunAt σ (eFroz N x d v) (Kept X N x σ):=RunAt.turn (P:=(N≤x∧N≤d∧N≤σ.n)∧Und N v∧∀ p ∈ (σ.cut N).objs,UndC N p.2) (g:=fun σ=>σ.cut N) (v:=v) fun hc ρ₀ F₀ σ₀ s₀ ρ F s I st hN hfr=>(h ρ F s I).elim fun o q=>q.elim fun od q=>by
 have r₂:=(I.cut (ρ':=ρ) (fun _ _=>rfl) hc.2.2 hfr).freezeOld q.2.1 (cut_ne I hd hc.1.2.1)
 have r₃:=r₂.1.freezeOld q.1 (cut_ne I hx hc.1.1)
 exact ⟨_,r₃.1,((st.cut hN).trans r₂.2).trans r₃.2,(q.2.2 _ (fun a o e=>r₃.2.sub _ _ (r₂.2.sub _ _ e)) (if_pos rfl) (r₃.2.sub _ _ (if_pos rfl))).under (fun _ _=>rfl) hc.2.1⟩
theorem freeze_ok {N x:Nat}:RunAt σ (eFreeze N x) (Kept X N x σ):=RunAt.word fun w=>by
 refine onWKeep_ind (P:=fun y _=>RunAt σ y (Kept X N x σ)) (RunAt.st (RunAt.retIf fun hx ρ₀ F₀ σ₀ s₀ ρ F s I st _ _=>⟨F,I,st,.ref x hx⟩)) ?_
 refine onWNorm_ind (P:=fun y _=>RunAt σ y (Kept X N x σ)) (RunAt.cell fun c=>?_) RunAt.fail
 refine onCInst_ind (P:=fun y c=>σ.get x=some c→RunAt σ y (Kept X N x σ)) (fun C d hx=>RunAt.cellAs asDict_some fun m hm=>froz_ok hx hm fun ρ F s I=>(I.atD hm).elim fun es q=>q.elim fun k q=>?_) ?_
 ·exact ⟨_,_,(I.atI hx).1,q.1,fun F' hF h1 h2=>⟨ρ x,ρ d,_,es,k,rfl,h1,h2,rfl,q.2.mono (Nat.le_refl _) (fun _ _=>rfl) hF⟩⟩
 refine onCSinst_ind (P:=fun y c=>σ.get x=some c→RunAt σ y (Kept X N x σ)) (fun C d xs hx=>RunAt.cellAs asDict_some fun m hm=>RunAt.opt fun ys hys=>froz_ok hx hm fun ρ F s I=>(I.atD hm).elim fun es q=>q.elim fun k q=>(I.atS hx).elim fun vs p=>?_) fun _=>RunAt.fail
 refine (allSome_dens p.2.2 hys).elim fun ws r=>?_
 exact ⟨_,_,p.1,q.1,fun F' hF h1 h2=>⟨ρ x,ρ d,_,ws,rfl,r.1 ▸ h1,h2,r.2.mono (Nat.le_refl _) (fun _ _=>rfl) hF⟩⟩
theorem ifNone_run {v:AV} {y:EM AV} {C:AV→St→Prop} (h:v=noneAV→RunAt σ y C):RunAt σ (ifNone v y) C :=
 onVal_ind (P:=fun z v'=>v=v'→RunAt σ z C) (fun w e=>onVNone_ind (P:=fun z w'=>w=w'→RunAt σ z C) (fun e'=>h (e.trans (congrArg AV.val e'))) (fun _=>RunAt.fail) rfl) (fun _=>RunAt.fail) rfl
theorem Room.new {A:Around} {n:Nat} (h:Room X A (n + 1)) (C:Addr) (vs:List Value) (kw:List (Str × Value)):(A.under (.builtin "type.__call__" ⟨.ref C :: vs,kw⟩)).depth < recursionLimit∧∀ env i,Room (X.wf ((env,i) :: X.fr)) ((A.under (.builtin "type.__call__" ⟨.ref C :: vs,kw⟩)).deeper env) n:=by
 have hw:(Code.builtin "type.__call__" ⟨.ref C :: vs,kw⟩).weight=1:=by kernel_rfl
 have hu:(Code.builtin "type.__call__" ⟨.ref C :: vs,kw⟩).cUnits=1:=by kernel_rfl
 have hg:(Code.builtin "type.__call__" ⟨.ref C :: vs,kw⟩).guards=[]:=by kernel_rfl
 have he:(Code.builtin "type.__call__" ⟨.ref C :: vs,kw⟩).envs=[]:=by kernel_rfl
 have k1:A.depth + 1 + 1 + 4 * n≤A.depth + 4 * (n + 1):=by omega
 refine ⟨Nat.lt_of_le_of_lt ?_ h.1,fun env i=>⟨Nat.lt_of_le_of_lt ?_ h.1,Nat.lt_of_le_of_lt ?_ h.2.1,h.2.2.1,?_,Around.frames_deeper ?_⟩⟩
 ·show A.depth + (Code.builtin "type.__call__" ⟨.ref C :: vs,kw⟩).weight≤_
  rw [hw]; exact Nat.add_le_add_left (Nat.le_trans (by decide) (Nat.mul_le_mul_left 4 (Nat.le_add_left 1 n))) _
 ·show A.depth + (Code.builtin "type.__call__" ⟨.ref C :: vs,kw⟩).weight + 1 + 4 * n≤_
  rw [hw]; exact k1
 ·show A.units + (Code.builtin "type.__call__" ⟨.ref C :: vs,kw⟩).cUnits + 3 + 40 * n≤_
  rw [hu]; omega
 ·show pushGuards (Code.builtin "type.__call__" ⟨.ref C :: vs,kw⟩).guards A.guards=some []; rw [h.2.2.2.1,hg]; rfl
 ·show pushEnvs (Code.builtin "type.__call__" ⟨.ref C :: vs,kw⟩).envs A.frames=_
  rw [he,h.2.2.2.2]; rfl
theorem Sim.new {r:Rec} {n:Nat} (S:SoundF X r n) (hA:Room X A (n + 1)) {C:Addr} {as:List AV} {vs:List Value} {ks:List (Str × AV)} {kvs:List Value} :
  Sim X A ((RDens as vs).and (RDens (ks.map (·.2)) kvs)) RDen (eNew X.K r C as ks) (call (.ref C) vs ((ks.map (·.1)).zip kvs)):=Sim.ofRun fun σ ρ F s I g=>RunAt.opt fun q hq=>RunAt.push (RunAt.push (by
 cases initIf_ok hq with | mk h1 h2 h3 hfi =>
 have r₁:=I.push (a:=s.heap.objs.size) (c:=.dict []) (h':=s.heap.push emptyDict) (Heap.get?_none_of_le (Nat.le_refl _)) (fun b o e=>Heap.get?_push_of_some _ e) (.ofD (vs:=[]) (k:=0) (Heap.get?_push_size _ rfl) .nil) s.toks
 have hz:(s.heap.push emptyDict).objs.size=s.heap.objs.size + 1:=Heap.size_push ..
 have hρd:((ρ.put σ.n s.heap.objs.size).put (σ.n + 1) (s.heap.push emptyDict).objs.size) σ.n=s.heap.objs.size:=by rw [Rho.put_lt _ _ (Nat.lt_succ_self _),Rho.put_self]
 have r₂:=r₁.1.push (a:=(s.heap.push emptyDict).objs.size) (c:=.inst C σ.n) (h':=(s.heap.push emptyDict).push (instObj C s.heap.objs.size)) (Heap.get?_none_of_le (Nat.le_refl _)) (fun b o e=>Heap.get?_push_of_some _ e)
  ⟨_,Heap.get?_push_size _ rfl,congrArg (oInst C) hρd.symm,Nat.lt_of_lt_of_le (Nat.lt_succ_self _) (Nat.le_succ _)⟩ s.toks
 have st:=r₁.2.trans r₂.2
 have hx:((ρ.put σ.n s.heap.objs.size).put (σ.n + 1) (s.heap.push emptyDict).objs.size) (σ.n + 1)=s.heap.objs.size + 1:=(Rho.put_self _ _ _).trans hz
 refine RunAt.bind (callFn S (hA.new C vs ((ks.map (·.1)).zip kvs)).1 (hA.new C vs ((ks.map (·.1)).zip kvs)).2 (f:=.val (.ref q.1)) (fv:=.ref q.1) (as:=.ref (σ.n + 1) :: as) (vs:=.ref (s.heap.objs.size + 1) :: vs) (ks:=ks) (kvs:=kvs) hfi r₂.1 ⟨rfl,⟨⟨congrArg Value.ref hx.symm,Nat.lt_succ_self _⟩,Dens.step g.1 st⟩,Dens.step g.2 st⟩) fun b σ₁ hcall=>ifNone_run fun hb=>(freeze_ok (X:=X)).mono fun b' σ' hf Q E hQ=>wpAny_call ?_
 refine make_core (makes_of I.Kin h1) (looks_findIn I.Kin h2) (fun self=>bind_fn I.Kin self h3) (.inl rfl) (hcall _ fun w s' ρ' F' p=>?_)
 refine (hf ρ F σ _ ρ' F' s' p.inv (st.trans p.stp) (Nat.le_refl _) I.frlt).elim fun F₂ p2=>⟨?_,?_⟩
 ·have:=p.den
  rw [hb] at this
  exact this
 ·have:Q (.ref (ρ' (σ.n + 1))) s':=hQ _ s' ρ' F₂ p2.den p2.inv p2.stp
  rw [(p.stp.same (σ.n + 1) (Nat.lt_succ_self _)).trans hx] at this
  exact this))
theorem Sim.newX {r:Rec} {n:Nat} (S:SoundF X r n) (hA:Room X A (n + 1)) {C:Addr} {as:List AV} {vs:List Value} :
  Sim X A (RDens as vs) RDen (eNewX X.K r C as) (call (.ref C) vs []):=Sim.ofRun fun σ ρ F s I g=>RunAt.opt fun q hq=>RunAt.push (by
 cases initIf_ok hq with | mk h1 h2 h3 hfi =>
 have r₁:=I.grow (h':=s.heap.push (oTup vs 0)) (fun b o e=>Heap.get?_push_of_some _ e) s.toks
 have r₂:=r₁.1.push (a:=(s.heap.push (oTup vs 0)).objs.size) (c:=.exc C none none) (h':=(s.heap.push (oTup vs 0)).push (oExc C none (excF s.heap.objs.size))) (Heap.get?_none_of_le (Nat.le_refl _)) (fun b o e=>Heap.get?_push_of_some _ e)
  ⟨_,Heap.get?_push_size _ rfl,_,rfl,rfl,(fun _ h=>(nomatch h)),fun _ h=>(nomatch h)⟩ s.toks
 have st:=r₁.2.trans r₂.2
 have hz:(s.heap.push (oTup vs 0)).objs.size=s.heap.objs.size + 1:=Heap.size_push ..
 have hx:(ρ.put σ.n (s.heap.push (oTup vs 0)).objs.size) σ.n=s.heap.objs.size + 1:=(Rho.put_self _ _ _).trans hz
 refine RunAt.bind (callFn S (hA.new C vs []).1 (hA.new C vs []).2 (f:=.val (.ref q.1)) (fv:=.ref q.1) (as:=.ref σ.n :: as) (vs:=.ref (s.heap.objs.size + 1) :: vs) (ks:=[]) (kvs:=[]) hfi r₂.1 ⟨rfl,⟨⟨congrArg Value.ref hx.symm,Nat.lt_succ_self _⟩,Dens.step g st⟩,rfl⟩) fun b σ₁ hcall=>ifNone_run fun hb=>RunAt.st (RunAt.retIf fun hl Q E hQ=>wpAny_call ?_)
 have hd:Dens σ.n ρ F as vs:=g
 have hv:vs.length≤sizeLine:=by rw [← hd.length]; exact Nat.le_trans hl.2 (by decide)
 refine new_exc I.Kin h1 h2 h3 hv (hcall _ fun w s' ρ' F' p=>⟨?_,?_⟩)
 ·have:=p.den
  rw [hb] at this
  exact this
 ·have:=hQ _ s' ρ' F' ⟨rfl,hl.1⟩ p.inv (st.trans p.stp)
  rw [(p.stp.same σ.n (Nat.lt_succ_self _)).trans hx] at this
  exact this)
end
noncomputable def eCallRef (K:Frag) (r:Rec) (C:Addr) (as:List AV) (ks:List (Str × AV)):EM AV:=_root_.cond (excMakes K C && ks.isEmpty) (eNewX K r C as) (eNew K r C as ks)
section
variable (K:Frag) (r:Rec) (f:AV) (as:List AV) (ks:List (Str × AV))
noncomputable def eCallFn:EM AV:=onSome (fnInfo K f) (fun fi=>eFn r fi as ks) (onVal f (fun v=>onVRef v (fun C=>eCallRef K r C as ks) EM.fail) EM.fail)
noncomputable def eCall:EM AV:=onVal f (fun v=>onVBuiltin v (fun nm=>onNil ks (eBuiltinK K nm as) EM.fail) <| onVType v (fun T=>onNil ks (_root_.cond (T == "str") (eStrOf as) (eTypeCallR T as)) EM.fail) (eCallFn K r (.val v) as ks)) (eCallFn K r f as ks)
end
section
variable {X:Ctx} {A:Around} {ρ:Rho} {F:Fz} {σ:St} {s:Shared} {Γ:Kn}
theorem szLen {n:Nat} {xs:List AV} {vs:List Value} (h:xs.length≤1000000) (d:Dens n ρ F xs vs):(vs.toArray.size:Int) < 2 ^ 63:=by
 rw [List.size_toArray,← d.length]
 exact Int.lt_of_le_of_lt (Int.ofNat_le.mpr h) (by decide)
theorem Sim.len (as:List AV):SimB X A "len" (eLen as) as:=by
 refine on1_ind (P:=SimB X A "len") (fun a=>?_) SimB.fail
 refine onRef_ind (P:=fun x a=>SimB X A "len" x [a]) (fun i=>SimB.of fun σ ρ F s vs I d=>RunAt.cellL fun xs hx hl=>RunAt.ret (dens1 (P:=fun vs=>Goes X A ρ F σ s (call (.builtin "len") vs) (RDen (.int xs.length)) σ) d fun v (dv:v = .ref (ρ i)∧i < σ.n)=>dv.1 ▸ ?_)) ?_
 ·exact (I.atL hx).elim fun ws q=>q.elim fun k q=>Goes.tok I fun Q E hQ=>Calls.call_len_list (items:=ws.toArray) ⟨_,q.1,rfl,k,rfl⟩ (szLen hl q.2) (hQ _ _ ⟨_,by rw [List.size_toArray,q.2.length]⟩)
 refine onTup_ind (P:=fun x a=>SimB X A "len" x [a]) (fun xs=>SimB.of fun σ ρ F s vs I d=>RunAt.retIf fun hl=>dens1 (P:=fun vs=>Goes X A ρ F σ s (call (.builtin "len") vs) (RDen (.int xs.length)) σ) d fun v dv=>?_) ?_
 ·cases den_tup dv with | mk a ws k e h hs=>rw [e]; exact Goes.tok I fun Q E hQ=>P.len_tuple (items:=ws.toArray) (I.froz _ _ h) (Int.not_le.mpr (szLen hl hs)) (hQ _ _ ⟨_,by rw [List.size_toArray,hs.length]⟩)
 refine onLst_ind (P:=fun x a=>SimB X A "len" x [a]) (fun xs=>SimB.of fun σ ρ F s vs I d=>RunAt.retIf fun hl=>dens1 (P:=fun vs=>Goes X A ρ F σ s (call (.builtin "len") vs) (RDen (.int xs.length)) σ) d fun v dv=>?_) ?_
 ·cases den_lst dv with | mk a ws k e h hs=>rw [e]; exact Goes.tok I fun Q E hQ=>Calls.call_len_list (items:=ws.toArray) ⟨_,I.froz _ _ h,rfl,k,rfl⟩ (szLen hl hs) (hQ _ _ ⟨_,by rw [List.size_toArray,hs.length]⟩)
 exact onStr_ind (P:=fun x a=>SimB X A "len" x [a]) (fun x=>SimB.of fun σ ρ F s vs I d=>RunAt.retIf fun hl=>dens1 (P:=fun vs=>Goes X A ρ F σ s (call (.builtin "len") vs) (RDen (.int x.length)) σ) d fun v (dv:∃ t,v = .str x t)=>dv.elim fun t e=>e ▸ Goes.tok I fun Q E hQ=>P.len_str (Int.not_le.mpr (Int.lt_of_le_of_lt (Int.ofNat_le.mpr hl) (by decide))) (hQ _ _ ⟨_,rfl⟩)) SimB.fail
theorem Sim.strOf (as:List AV):SimV X A (.type "str") (eStrOf as) as:=by
 refine on1_ind (P:=SimV X A (.type "str")) (fun a=>?_) SimV.fail
 refine onInt_ind (P:=fun x a=>SimV X A (.type "str") x [a]) (fun i=>SimV.of fun σ ρ F s vs I d=>RunAt.retIf fun hi=>dens1 (P:=fun vs=>Goes X A ρ F σ s (call (.type "str") vs) (RDen (.str (toString i))) σ) d fun v (dv:∃ t,v = .int i t)=>dv.elim fun t e=>e ▸ Goes.tok I fun Q E hQ=>P.str_of_int (by
  have h1:i.natAbs < 2 ^ 63:=(Int.natAbs_lt_natAbs_of_nonneg_of_lt hi.1 hi.2)
  rcases Nat.eq_zero_or_pos i.natAbs with h | h
  ·rw [h]; decide
  ·exact Nat.lt_of_lt_of_le ((Nat.log2_lt (Nat.ne_of_gt h)).mpr h1) (by decide)) (hQ _ _ ⟨_,rfl⟩)) SimV.fail
theorem strs_ex {N:Nat}:∀ {xs:List AV} {ws:List Value},Dens N ρ F xs ws→(∀ y ∈ xs,(strAt y).isSome)→∃ l:List (Str × Tok),ws=strValues l∧l.map (·.1)=strsAt xs
 | [],ws,d,_=>⟨[],d,rfl⟩
 | _ :: _,[],d,_=>d.elim
 | a :: xs,w :: ws,d,h=>(strs_ex d.2 fun y hy=>h y (List.mem_cons_of_mem _ hy)).elim fun l q=>by
  have h0:=h a List.mem_cons_self
  refine onStr_ind (e:=a) (f:=some) (d:=none) (P:=fun (o:Option Str) a=>o.isSome=true→Den N ρ F a w→strAt a=o→∃ l:List (Str × Tok),w :: ws=strValues l∧l.map (·.1)=strsAt (a :: xs)) (fun y _ (dw:∃ t,w = .str y t) e=>dw.elim fun t e'=>⟨(y,t) :: l,by rw [e',q.1]; rfl,by rw [List.map_cons,q.2]; rfl⟩) (fun h=>ff (show false=true from h)) h0 d.1 rfl
theorem Sim.joinL (as:List AV):SimB X A "str.join" (eJoinL as) as:=by
 refine on2_ind (P:=SimB X A "str.join") (fun a l=>?_) fun _=>SimB.fail
 refine onStr_ind (P:=fun x a=>SimB X A "str.join" x [a,l]) (fun sep=>?_) SimB.fail
 refine onRef_ind (P:=fun x l=>SimB X A "str.join" x [.str sep,l]) (fun i=>SimB.of fun σ ρ F s vs I d=>RunAt.cellL fun xs hx hl=>RunAt.retIf fun h=>?_) SimB.fail
 refine dens2 (P:=fun vs=>Goes X A ρ F σ s (call (.builtin "str.join") vs) (RDen (.str (Txt.join sep (strsAt xs)))) σ) d fun u v (du:∃ t,u = .str sep t) (dv:v = .ref (ρ i)∧i < σ.n)=>du.elim fun t e=>?_
 rw [e,dv.1]
 exact (I.atL hx).elim fun ws q=>q.elim fun k q=>(strs_ex q.2 h.1).elim fun l p=>Goes.tok I fun Q E hQ=>SC.join (texts:=strsAt xs) ⟨_,q.1,rfl,k,by rw [← p.1]; rfl⟩ p.2 h.2 fun t' k=>hQ _ _ ⟨_,rfl⟩
theorem den_nb {n:Nat} {v:AV} {u:Value} (h:notVal v=true) (d:Den n ρ F v u) {i:String}:u ≠ .builtin i:=fun e=>by
 cases v with
 | val w=>exact ff h
 | bool b=>exact nomatch e.symm.trans (show u = .bool b from d)
 | int b=>exact (den_int d).elim fun t q=>nomatch e.symm.trans q
 | str b=>exact (den_str d).elim fun t q=>nomatch e.symm.trans q
 | ref b=>exact nomatch e.symm.trans (den_ref d).1
 | tup b=>cases den_tup d with | mk a ws k q=>exact nomatch e.symm.trans q
 | lst b=>cases den_lst d with | mk a ws k q=>exact nomatch e.symm.trans q
 | obj C b=>cases den_obj d with | mk a d' od es k q=>exact nomatch e.symm.trans q
 | slo C b=>cases den_slo d with | mk a d' od es q=>exact nomatch e.symm.trans q
 | clo a b c d' f=>cases (show dClo n ρ F a b c d' f u from d) with | mk a qual o pm code ct q=>exact nomatch e.symm.trans q
theorem Sim.isInst (as:List AV):SimB X A "isinstance" (eIsInst X.K as) as:=by
 refine on2_ind (P:=SimB X A "isinstance") (fun v c=>?_) fun _=>SimB.fail
 refine onVal_ind (P:=fun x c=>SimB X A "isinstance" x [v,c]) (fun w=>onVRef_ind (P:=fun x w=>SimB X A "isinstance" x [v,.val w]) (fun C=>?_) SimB.fail) SimB.fail
 refine SimB.of fun σ ρ F s vs I d=>RunAt.chk fun hv=>RunAt.st ?_
 refine onSome_ind (P:=fun (x:EM AV) o=>typ X.K σ v=o→RunAt σ x fun b σ'=>Goes X A ρ F σ s (call (.builtin "isinstance") vs) (RDen b) σ') (fun T hT=>RunAt.retB fun hi=>?_) (fun _=>RunAt.fail) rfl
 exact dens2 (P:=fun vs=>Goes X A ρ F σ s (call (.builtin "isinstance") vs) (RDen (.bool true)) σ) d fun u c d0 (dc:c = .ref C)=>dc ▸ Goes.same I fun Q E hQ=>isi_call I.Kin (fun M=>typ_looks I d0 hT) hi (den_nb hv d0) (hQ _ rfl)
theorem Sim.builtinK {nm:String} {as:List AV} (hA:A.handled=none) (hg:A.guards=some []) (hu:A.units + 2 < cLine):SimB X A nm (eBuiltinK X.K nm as) as :=
 cond_ind (P:=fun x=>SimB X A nm x as) (fun h=>by rw [eq_of_beq h]; exact Sim.isInst as) <| cond_ind (P:=fun x=>SimB X A nm x as) (fun h=>by rw [eq_of_beq h]; exact Sim.append as) <|
 cond_ind (P:=fun x=>SimB X A nm x as) (fun h=>by rw [eq_of_beq h]; exact Sim.pop as) <| cond_ind (P:=fun x=>SimB X A nm x as) (fun h=>by rw [eq_of_beq h]; exact Sim.insert as) <|
 cond_ind (P:=fun x=>SimB X A nm x as) (fun h=>by rw [eq_of_beq h]; exact Sim.clear as) <| cond_ind (P:=fun x=>SimB X A nm x as) (fun h=>by rw [eq_of_beq h]; exact Sim.next hA as) <|
 cond_ind (P:=fun x=>SimB X A nm x as) (fun h=>by rw [eq_of_beq h]; exact Sim.iter as) <| cond_ind (P:=fun x=>SimB X A nm x as) (fun h=>by rw [eq_of_beq h]; exact Sim.len as) <|
 cond_ind (P:=fun x=>SimB X A nm x as) (fun h=>by rw [eq_of_beq h]; exact Sim.joinL as) <|
 cond_ind (P:=fun x=>SimB X A nm x as) (fun h=>by rw [eq_of_beq h]; exact Sim.allB hA as) <| cond_ind (P:=fun x=>SimB X A nm x as) (fun h=>by rw [eq_of_beq h]; exact Sim.reprB hg hu as) SimB.fail
theorem Sim.call {r:Rec} {n:Nat} (S:SoundF X r n) (hA:Room X A (n + 1)) (f:AV) (fv:Value) (as:List AV) (vs:List Value) (ks:List (Str × AV)) (kvs:List Value) :
  Sim X A (RCall f fv as vs ks kvs) RDen (eCall X.K r f as ks) (PySem.call fv vs ((ks.map (·.1)).zip kvs)):=by
 have fn:Sim X A (RCall f fv as vs ks kvs) RDen (eCallFn X.K r f as ks) (PySem.call fv vs ((ks.map (·.1)).zip kvs)):=by
  refine onSome_ind (P:=fun x o=>fnInfo X.K f=o→Sim X A (RCall f fv as vs ks kvs) RDen x (PySem.call fv vs ((ks.map (·.1)).zip kvs))) (fun fi hfi=>Sim.fn S hA hfi) (fun _=>?_) rfl
  refine onVal_ind (P:=fun x f=>Sim X A (RCall f fv as vs ks kvs) RDen x (PySem.call fv vs ((ks.map (·.1)).zip kvs))) (fun v=>onVRef_ind (P:=fun x v=>Sim X A (RCall (.val v) fv as vs ks kvs) RDen x (PySem.call fv vs ((ks.map (·.1)).zip kvs))) (fun C=>?_) Sim.fail) Sim.fail
  refine Sim.know (P:=fv = .ref C) (fun _ _ _ g=>g.1) fun e=>?_
  rw [e]
  refine cond_ind (P:=fun x=>Sim X A (RCall (.val (.ref C)) (.ref C) as vs ks kvs) RDen x (PySem.call (.ref C) vs ((ks.map (·.1)).zip kvs))) (fun h=>?_) (Sim.weaken (Γ:=(RDens as vs).and (RDens (ks.map (·.2)) kvs)) (Sim.new S hA) fun _ _ _ g=>g.2)
  rw [Bool.and_eq_true] at h
  rw [List.isEmpty_iff.mp h.2]
  exact Sim.weaken (Γ:=RDens as vs) (Sim.newX S hA) fun _ _ _ g=>g.2.1
 refine onVal_ind (P:=fun x f=>Sim X A (RCall f fv as vs ks kvs) RDen (eCallFn X.K r f as ks) (PySem.call fv vs ((ks.map (·.1)).zip kvs))→Sim X A (RCall f fv as vs ks kvs) RDen x (PySem.call fv vs ((ks.map (·.1)).zip kvs))) (fun v fn=>?_) (fun fn=>fn) fn
 refine onVBuiltin_ind (P:=fun x v=>Sim X A (RCall (.val v) fv as vs ks kvs) RDen (eCallFn X.K r (.val v) as ks) (PySem.call fv vs ((ks.map (·.1)).zip kvs))→Sim X A (RCall (.val v) fv as vs ks kvs) RDen x (PySem.call fv vs ((ks.map (·.1)).zip kvs))) (fun nm _=>Sim.know (P:=fv = .builtin nm) (fun _ _ _ g=>g.1) fun e=>?_) (fun fn=>?_) fn
 ·rw [e]
  exact onNil_ind (P:=fun x ks=>Sim X A (RCall (.val (.builtin nm)) (.builtin nm) as vs ks kvs) RDen x (PySem.call (.builtin nm) vs ((ks.map (·.1)).zip kvs))) (Sim.builtinK hA.2.2.1 hA.2.2.2.1 (Nat.lt_of_le_of_lt (Nat.add_le_add_left (show 2≤40 * (n + 1) by omega) _) hA.2.1) (RCall (.val (.builtin nm)) (.builtin nm) as vs [] kvs) vs fun _ _ _ g=>g.2.1) Sim.fail
 refine onVType_ind (e:=v) (f:=fun T=>onNil ks (_root_.cond (T == "str") (eStrOf as) (eTypeCallR T as)) EM.fail) (P:=fun x v=>Sim X A (RCall (.val v) fv as vs ks kvs) RDen (eCallFn X.K r (.val v) as ks) (PySem.call fv vs ((ks.map (·.1)).zip kvs))→Sim X A (RCall (.val v) fv as vs ks kvs) RDen x (PySem.call fv vs ((ks.map (·.1)).zip kvs))) (fun T _=>Sim.know (P:=fv = .type T) (fun _ _ _ g=>g.1) fun e=>?_) (fun fn=>fn) fn
 rw [e]
 refine onNil_ind (P:=fun x ks=>Sim X A (RCall (.val (.type T)) (.type T) as vs ks kvs) RDen x (PySem.call (.type T) vs ((ks.map (·.1)).zip kvs))) ?_ Sim.fail
 refine Sim.weaken (Γ:=RDens as vs) ?_ fun _ _ _ g=>g.2.1
 exact cond_ind (P:=fun x=>Sim X A (RDens as vs) RDen x (PySem.call (.type T) vs [])) (fun h=>by rw [eq_of_beq h]; exact Sim.strOf as _ vs fun _ _ _ g=>g) (Sim.typeCallR _ as _ vs fun _ _ _ g=>g)
end
noncomputable def fewOk (args:List Expr) (kws:List Keyword):Bool:=args.all noStar && named kws && decide (args.length + kws.length + 1 < 30)
noncomputable def isBi (o:Option (Option Value)):Bool:=onSome o (fun v=>onSome v (fun w=>onVBuiltin w (fun _=>true) false) false) false
theorem isBi_ok {o:Option (Option Value)}:isBi o=true→∃ i,o=some (some (Value.builtin i)) :=
 onSome_ind (P:=fun b (o:Option (Option Value))=>b=true→∃ i,o=some (some (Value.builtin i))) (fun v=>onSome_ind (P:=fun b (v:Option Value)=>b=true→∃ i,some v=some (some (Value.builtin i))) (fun w=>onVBuiltin_ind (P:=fun b (w:Value)=>b=true→∃ i,some (some w)=some (some (Value.builtin i))) (fun i _=>⟨i,rfl⟩) ff) ff) ff
noncomputable def libItem (T:Option Value) (K:Frag):Bool:=isBi (T.bind fun T=>findIn K T "__getitem__")
noncomputable def eItemOk (K:Frag) (av:AV):EM Unit:=EM.st fun σ=>EM.retB (libItem (typ K σ av) K) ()
noncomputable def eBr {β:Type} (x:EM Bool) (y z:EM β):EM β:=EM.bind x fun b=>EM.bind (EM.dec b) fun b=>cond b y z
noncomputable def eMethodCall (K:Frag) (r:Rec) (ae:AEnv) (o:Expr) (name:Str) (args:List Expr) (kws:List Keyword):EM AV :=
 EM.bind (r.ev ae o) fun ov=>EM.bind (eMethod K ov name) fun p=>eCallWith K r ae p.1 p.2 args kws
noncomputable def eNeg (r:Rec) (ae:AEnv) (x:Expr):EM AV:=EM.bind (r.ev ae x) fun a=>onInt a (fun i=>EM.ret (.int (-i))) EM.fail
section
variable (K:Frag) (r:Rec) (ae:AEnv)
noncomputable def eAttrE (o:Expr) (attr:Str):EM AV:=cond (notSuper o) (EM.bind (r.ev ae o) fun ov=>eAttr K ov attr) EM.fail
noncomputable def eSubE (o i:Expr):EM AV:=cond (plainE i) (EM.bind (r.ev ae o) fun ov=>EM.bind (r.ev ae i) fun iv=>EM.bind (eItemOk K ov) fun _=>eGetS K r.hs ov iv) EM.fail
noncomputable def eMethE (o:Expr) (name:Str) (apos:Pos) (args:List Expr) (kws:List Keyword) (pos:Pos):EM AV:=cond (notSuper o && fewOk args kws && (apos.endLine == pos.line)) (eMethodCall K r ae o name args kws) EM.fail
end
theorem all_no {env:Env}:∀ {es:List Expr},(es.map fun e=>(false,PySem.eval e env)).all (!·.1)=true
 | []=>rfl
 | _ :: es=>all_no (es:=es)
theorem all_some {β:Type}:∀ l:List (Option Str × β),l.all (·.1.isSome) = !l.any (·.1.isNone)
 | []=>rfl
 | (none,_) :: _=>rfl
 | (some _,_) :: l=>all_some l
theorem few_form {args:List Expr} {kws:List Keyword} {pos:Pos} {env:Env} (h:fewOk args kws=true) :
  methodCallForm (args.length + kws.length) (backTo pos (starEach args env)) (backToKw pos (keywordEach kws env))=true:=by
 rw [fewOk,Bool.and_eq_true,Bool.and_eq_true] at h
 have h1:=h.1.1
 have h2:=h.1.2
 have h3:=of_decide_eq_true h.2
 unfold methodCallForm
 rw [star_map h1,back_map,all_no,all_some,kw_any,h2]
 have:∀ b:Bool,(if b=true then 0 else 1)≤1:=by decide
 exact decide_eq_true (Nat.lt_of_le_of_lt (Nat.add_le_add_left (this _) _) h3)
theorem eval_method {o:Expr} {name:Str} {apos pos:Pos} {args:List Expr} {kws:List Keyword} {env:Env} (h1:notSuper o=true) (h2:fewOk args kws=true) (h3:apos.endLine=pos.line) :
  eval (.Call (.Attribute o name apos) args kws pos) env=(eval o env >>= fun ov=>PySem.standAt apos.atName >>= fun _=>PySem.holding [ov] (getMethod ov name (do return (← importBound o env).getD true)) >>= fun q =>
   PySem.callWith pos q.1 q.2 (backTo pos (starEach args env)) (backToKw pos (keywordEach kws env))):=by
 have e:eval (.Call (.Attribute o name apos) args kws pos) env=(attributeBase o name env (eval o env) >>= fun ov=>PySem.standAt apos.atName >>= fun _=>methodCall o name apos pos env ov (args.length + kws.length) (backTo pos (starEach args env)) (backToKw pos (keywordEach kws env))):=rfl
 rw [e,base_plain h1]
 unfold methodCall
 have hp:methodCallPos true o env apos pos=pure pos:=if_pos (by rw [h3,beq_self_eq_true]; rfl)
 rw [few_form h2,hp]
 rfl
section
variable {X:Ctx} {A:Around} {ρ:Rho} {F:Fz} {σ:St} {s:Shared} {Γ:Kn} {r:Rec} {n:Nat} {ae:AEnv} {env:Env}
noncomputable def SimE (X:Ctx) (A:Around) (ae:AEnv) (env:Env) (x:EM AV) (e:Expr):Prop:=Sim X A (EnvK X ae env) RDen x (eval e env)
noncomputable def SimS (X:Ctx) (A:Around) (ae:AEnv) (env:Env) (x:EM AFlow) (st:Stmt):Prop:=Sim X A (EnvK X ae env) RFlow x (exec st env)
theorem Sim.br {α β:Type} {x:EM Bool} {y z:EM β} {t:Sem Bool} {k:Bool→Sem α} {R:β→α→Kn} (hx:Sim X A Γ REq x t) (hy:Sim X A Γ R y (k true)) (hz:Sim X A Γ R z (k false)):Sim X A Γ R (eBr x y z) (t >>= k) :=
 Sim.bind hx fun b c=>Sim.know (P:=b=c) (Kn.snd (Kn.le_refl _)) fun h=>Sim.dec (by
  subst h
  cases b
  ·exact hz.weaken (Kn.fst (Kn.le_refl _))
  ·exact hy.weaken (Kn.fst (Kn.le_refl _)))
theorem lib_item {T:Option Value} {K:Frag} (h:libItem T K=true):∃ T' i,T=some T'∧findIn K T' "__getitem__" = some (some (.builtin i)) :=
 (isBi_ok h).elim fun i h=>(Option.bind_eq_some_iff.mp h).elim fun T' q=>⟨T',i,q⟩
theorem Sim.itemOk {av:AV} {v:Value} {k:Bool→Sem Value} {f:Unit→EM AV} {R:AV→Value→Kn} (hv:Γ.le (RDen av v)) (hk:Sim X A Γ R (f ()) (k false)):Sim X A Γ R (EM.bind (eItemOk X.K av) f) (getitemInPython v >>= k):=by
 refine Sim.ofRun fun σ ρ F s I g=>RunAt.stay (x:=EM.retB (libItem (typ X.K σ av) X.K) ()) (P:=fun _=>libItem (typ X.K σ av) X.K=true) (RunAt.retB fun h=>⟨rfl,h⟩) fun _ h ds b ev' cs e hc Q E hQ=>?_
 refine (lib_item h).elim fun T q=>q.elim fun i q=>?_
 have T1:=typ_looks (M:=model X.prog X.w) I (hv _ _ _ g) q.1
 unfold getitemInPython
 refine wpAny_bind (wpAny_bind (wpAny_bind (T1.here ((looks_findIn I.Kin q.2).here ?_))))
 exact wpAny_pure (hk (σ,ds) b ev' cs e hc ρ F s I g Q E hQ)
theorem Sim.letGo {base:Expr} {o:Value} {x:EM AV} {t:Sem Value} {R:AV→Value→Kn} (h:Sim X A Γ R x t):Sim X A Γ R x (t >>= fun r=>letTemporaryGo base o r >>= fun _=>pure r) :=
 fun ev b ev' cs e hc ρ F s I g Q E hQ=>wpAny_bind (h ev b ev' cs e hc ρ F s I g _ E fun v s' ρ' F' a b c=>wpAny_bind (wpAny_letTemporaryGo (wpAny_pure (hQ v s' ρ' F' a b c))))
theorem Sim.neg (S:Sound X r n) (hA:Room X A n) (x:Expr) (p:Pos):SimE X A ae env (eNeg r ae x) (.UnaryOp .USub x p):=by
 unfold SimE
 rw [eval_UnaryOp]
 refine Sim.bind (S.ev A hA ae env x) fun a av=>Sim.standAt (Sim.holding ?_)
 refine onInt_ind (P:=fun (x:EM AV) a=>Sim X A ((EnvK X ae env).and (RDen a av)) RDen x (unaryOp .USub av)) (fun i=>Sim.ofRun fun σ ρ F s I g=>RunAt.ret ((show ∃ t,av = .int i t from g.2).elim fun t h=>h ▸ Goes.tok I fun Q E hQ=>P.neg_int (hQ _ _ ⟨_,rfl⟩))) Sim.fail
theorem Sim.ifE (S:Sound X r n) (hA:Room X A n) (test body orelse:Expr) (p:Pos):SimE X A ae env (eBr (r.tst ae test) (r.ev ae body) (r.ev ae orelse)) (.IfExp test body orelse p):=by
 unfold SimE
 rw [eval_IfExp]
 exact Sim.br (S.tst A hA ae env test) (S.ev A hA ae env body) (S.ev A hA ae env orelse)
theorem Sim.attrE (S:Sound X r n) (hA:Room X A n) (o:Expr) (attr:Str) (p:Pos):SimE X A ae env (eAttrE X.K r ae o attr) (.Attribute o attr p):=by
 refine Sim.chk fun hs=>Sim.eq (t':=attributeBase o attr env (eval o env) >>= fun ov=>PySem.standAt p.atName >>= fun _=>PySem.holding [ov] (getAttr ov attr true) >>= fun r=>letTemporaryGo o ov r >>= fun _=>pure r) rfl ?_
 rw [base_plain hs]
 exact Sim.bind (S.ev A hA ae env o) fun a av=>Sim.standAt (Sim.letGo (Sim.holding (Sim.attr (Kn.snd (Kn.le_refl _)))))
theorem Sim.subE (S:Sound X r n) (hA:Room X A n) (o i:Expr) (p:Pos):SimE X A ae env (eSubE X.K r ae o i) (.Subscript o i p):=by
 refine Sim.chk fun hs=>?_
 rw [eval_Subscript]
 refine Sim.bind (S.ev A hA ae env o) fun a av=>Sim.bind (Sim.holding ((S.ev A hA ae env i).weaken (Kn.fst (Kn.le_refl _)))) fun b bv=>Sim.standAt (Sim.itemOk (Kn.fst (Kn.snd (Kn.le_refl _))) ?_)
 rw [slice_plain av bv hs]
 exact Sim.letGo (Sim.operate (Sim.getS S.hs (Kn.fst (Kn.snd (Kn.le_refl _))) (Kn.snd (Kn.le_refl _))))
theorem Sim.listE (S:Sound X r n) (hA:Room X A n) (elts:List Expr) (p:Pos):SimE X A ae env (EM.bind (eArgs r ae elts) fun vs=>eNewListF vs) (.List elts p) :=
 Sim.eq (t':=PySem.standAt p >>= fun _=>spliced (backTo p (starEach elts env)) >>= fun vs=>PySem.newList vs) rfl (Sim.standAt (Sim.bind (Sim.args S hA p elts (Kn.le_refl _)) fun a av=>Sim.newListF (Kn.snd (Kn.le_refl _))))
theorem Sim.tupE (S:Sound X r n) (hA:Room X A n) (elts:List Expr) (c:Nat) (p:Pos):SimE X A ae env (EM.bind (eArgs r ae elts) fun vs=>eNewTuple vs) (.Tuple elts c p) :=
 Sim.eq (t':=PySem.standAt p >>= fun _=>spliced (backTo p (starEach elts env)) >>= fun vs=>PySem.newTuple vs) rfl (Sim.standAt (Sim.bind (Sim.args S hA p elts (Kn.le_refl _)) fun a av=>Sim.newTuple (Kn.snd (Kn.le_refl _))))
theorem meth_ok {o:Expr} {args:List Expr} {kws:List Keyword} {apos pos:Pos} (hc:(notSuper o && fewOk args kws && (apos.endLine == pos.line))=true):notSuper o=true∧fewOk args kws=true∧apos.endLine=pos.line:=by
 rw [Bool.and_eq_true,Bool.and_eq_true] at hc
 exact ⟨hc.1.1,hc.1.2,eq_of_beq hc.2⟩
theorem Sim.methE (S:Sound X r n) (hA:Room X A n) (o:Expr) (name:Str) (apos:Pos) (args:List Expr) (kws:List Keyword) (pos:Pos):SimE X A ae env (eMethE X.K r ae o name apos args kws pos) (.Call (.Attribute o name apos) args kws pos):=by
 refine Sim.chk fun hc=>?_
 rw [eval_method (meth_ok hc).1 (meth_ok hc).2.1 (meth_ok hc).2.2]
 exact Sim.bind (S.ev A hA ae env o) fun a av=>Sim.standAt (Sim.bind (Sim.holding (Sim.method (Kn.snd (Kn.le_refl _)))) fun p q=>Sim.callWith S hA pos args kws (Kn.fst (Kn.fst (Kn.le_refl _))) (Kn.snd (Kn.fst (Kn.le_refl _))) (Kn.snd (Kn.snd (Kn.le_refl _))))
theorem Sim.callN (S:Sound X r n) (hA:Room X A n) (y:Str) (p:Pos) (args:List Expr) (kws:List Keyword) (pos:Pos):SimE X A ae env (EM.bind (r.ev ae (.Name y p)) fun f=>eCallWith X.K r ae f [] args kws) (.Call (.Name y p) args kws pos) :=
 Sim.eq (t':=eval (.Name y p) env >>= fun f=>PySem.callWith pos f [] (backTo pos (starEach args env)) (backToKw pos (keywordEach kws env))) rfl
  (Sim.bind (S.ev A hA ae env _) fun f fv=>Sim.callWith S hA pos args kws (Kn.fst (Kn.le_refl _)) (Kn.snd (Kn.le_refl _)) (fun _ _ _ _=>rfl))
end
noncomputable def eAll (r:Rec) (ae:AEnv) (op:BoolOp) (es:List Expr):EM Bool:=es.foldr (fun e k=>_root_.cond (op == .And) (eBr (r.tst ae e) k (EM.ret false)) (eBr (r.tst ae e) (EM.ret true) k)) (EM.ret (op == .And))
noncomputable def testPl (e:Expr):Bool:=onName e (fun _ _=>true) <| onAttribute e (fun _ _ _=>true) <| onCall e (fun _ _ _ _=>true) <| onConstant e (fun _ _ _=>true) <| onSubscript e (fun _ _ _=>true) false
theorem test_plain {e:Expr} {env:Env} {w:Sem Value} (h:testPl e=true):isTrue e env w=(w >>= fun v=>PySem.standAt e.pos >>= fun _=>PySem.holding [v] (PySem.truthy v)):=by
 revert h
 unfold testPl
 exact onName_ind (P:=fun b e=>b=true→isTrue e env w=(w >>= fun v=>PySem.standAt e.pos >>= fun _=>PySem.holding [v] (PySem.truthy v))) (fun _ _ _=>rfl) <|
  onAttribute_ind (P:=fun b e=>b=true→isTrue e env w=(w >>= fun v=>PySem.standAt e.pos >>= fun _=>PySem.holding [v] (PySem.truthy v))) (fun _ _ _ _=>rfl) <|
  onCall_ind (P:=fun b e=>b=true→isTrue e env w=(w >>= fun v=>PySem.standAt e.pos >>= fun _=>PySem.holding [v] (PySem.truthy v))) (fun _ _ _ _ _=>rfl) <|
  onConstant_ind (P:=fun b e=>b=true→isTrue e env w=(w >>= fun v=>PySem.standAt e.pos >>= fun _=>PySem.holding [v] (PySem.truthy v))) (fun _ _ _ _=>rfl) <|
  onSubscript_ind (P:=fun b e=>b=true→isTrue e env w=(w >>= fun v=>PySem.standAt e.pos >>= fun _=>PySem.holding [v] (PySem.truthy v))) (fun _ _ _ _=>rfl) ff
noncomputable def namesOf (es:List Expr):Option (List Str):=es.foldr (fun e k=>onName e (fun x _=>k.map (x :: ·)) none) (some [])
noncomputable def eBinds (ae:AEnv) (xs:List Str):List AV→EM Unit:=xs.foldr (fun x k vs=>onCons vs (fun v vs=>EM.bind (eBind ae x v) fun _=>k vs) EM.fail) (fun vs=>onNil vs (EM.ret ()) EM.fail)
noncomputable def eAssign (K:Frag) (r:Rec) (ae:AEnv) (v:AV) (t:Expr):EM Unit:=onName t (fun x _=>eBind ae x v) <| onAttribute t (fun o attr _=>EM.bind (r.ev ae o) fun ov=>eSetAttr K ov attr v) <|
 onSubscript t (fun o i _=>cond (plainE i) (EM.bind (r.ev ae o) fun ov=>EM.bind (r.ev ae i) fun iv=>eSetItem ov iv v) EM.fail) <|
 onTupleE t (fun elts _ _=>onSome (namesOf elts) (fun xs=>onTup v (fun vs=>cond (Nat.beq xs.length vs.length) (eBinds ae xs vs) EM.fail) EM.fail) EM.fail) EM.fail
section
variable {X:Ctx} {A:Around} {ρ:Rho} {F:Fz} {σ:St} {s:Shared} {Γ:Kn} {r:Rec} {n:Nat} {ae:AEnv} {env:Env}
theorem Sim.all (S:Sound X r n) (hA:Room X A n) (op:BoolOp):∀ es:List Expr,Sim X A (EnvK X ae env) REq (eAll r ae op es) (allTrue op es env)
 | []=>Sim.ret fun _ _ _ _=>rfl
 | e :: es=>by
  have ih:=Sim.all S hA op es
  have h1:=S.tst A hA ae env e
  cases op
  ·exact Sim.eq (t':=isTrue e env (eval e env) >>= fun b=>match b with | false=>pure false | true=>allTrue .And es env) (bind_congr fun b=>by cases b <;> rfl) (Sim.br h1 ih (Sim.ret fun _ _ _ _=>rfl))
  ·exact Sim.eq (t':=isTrue e env (eval e env) >>= fun b=>match b with | true=>pure true | false=>allTrue .Or es env) (bind_congr fun b=>by cases b <;> rfl) (Sim.br h1 (Sim.ret fun _ _ _ _=>rfl) ih)
theorem Sim.bindName {Γ:Kn} {y:Str} {av:AV} {v:Value} (hg:Γ.le (EnvK X ae env)) (hv:Γ.le (RDen av v)):Sim X A Γ (fun _ _=>Kn.top) (eBind ae y av) (bindName env y v):=fun ev b ev' cs e hc ρ F s I g Q E hQ=>wpAny_bindName (Sim.store hg hv ev b ev' cs e hc ρ F s I g Q E hQ)
theorem Sim.inOrder (f:Str × Pos→Value→Sem Unit) (hf:∀ q v,f q v=(PySem.standAt q.2 >>= fun _=>PySem.bindName env q.1 v) ∨ f q v=PySem.bindName env q.1 v):∀ (l:List (Str × Pos)) (avs:List AV) (vs:List Value) (Γ:Kn),Γ.le (EnvK X ae env)→Γ.le (RDens avs vs) →
  Sim X A Γ (fun _ _=>Kn.top) (eBinds ae (l.map (·.1)) avs) (assignInOrder (l.map f) vs)
 | [],avs,vs,Γ,hg,hv=>onNil_ind (P:=fun (x:EM Unit) avs=>Sim X A Γ (fun _ _=>Kn.top) x (assignInOrder [] vs)) (Sim.ret fun _ _ _ _=>trivial) Sim.fail
 | q :: l,avs,vs,Γ,hg,hv=>by
  cases avs with
  | nil=>exact Sim.fail
  | cons av avs =>
   cases vs with
   | nil=>exact Sim.know (P:=False) (fun _ _ _ g=>(hv _ _ _ g:False)) False.elim
   | cons v vs =>
    have q1:Γ.le (RDen av v):=fun _ _ _ g=>(hv _ _ _ g).1
    have q2:Γ.le (RDens avs vs):=fun _ _ _ g=>(hv _ _ _ g).2
    refine Sim.bind (t:=PySem.holding vs (f q v)) (R:=fun _ _=>Kn.top) (Sim.holding ?_) fun _ _=>Sim.inOrder f hf l avs vs _ (Kn.fst hg) (Kn.fst q2)
    rcases hf q v with h | h
    ·exact h ▸ Sim.standAt (Sim.bindName hg q1)
    ·exact h ▸ Sim.bindName hg q1
noncomputable def nm (q:Str × Pos):Expr:=.Name q.1 q.2
noncomputable def nmS (env:Env) (q:Str × Pos) (v:Value):Sem Unit:=PySem.standAt q.2 >>= fun _=>PySem.bindName env q.1 v
theorem namesOf_is:∀ {es:List Expr} {xs:List Str},namesOf es=some xs→∃ l:List (Str × Pos),es=l.map nm∧xs=l.map (·.1)
 | [],xs,h=>⟨[],rfl,(Option.some.inj h).symm⟩
 | e :: es,xs,h=>onName_ind (P:=fun (x:Option (List Str)) e=>x=some xs→∃ l:List (Str × Pos),e :: es=l.map nm∧xs=l.map (·.1)) (fun x p h =>
   (Option.map_eq_some_iff.mp h).elim fun ys q=>(namesOf_is q.1).elim fun l r=>⟨(x,p) :: l,by rw [r.1]; rfl,by rw [← q.2,r.2]; rfl⟩) (fun h=>noneOf h) h
theorem each_nm:∀ l:List (Str × Pos),assignEach (l.map nm) env=l.map fun q=>(false,nmS env q)
 | []=>rfl
 | q :: l=>congrArg ((false,nmS env q) :: ·) (each_nm l)
theorem idx_nm (f:Str × Pos→Value→Sem Unit):∀ l:List (Str × Pos),(l.map fun q=>(false,f q)).findIdx? (·.1)=none
 | []=>rfl
 | q :: l=>by
  show List.findIdx? _ ((false,f q) :: l.map fun q=>(false,f q))=none
  rw [List.findIdx?_cons]
  simp only [Bool.false_eq_true,if_false,idx_nm f l]
  rfl
theorem assign_sub (o:Expr) {i:Expr} (p:Pos) (env:Env) (v:Value):plainE i=true→assign (.Subscript o i p) env v=(PySem.holding [v] (eval o env) >>= fun ov=>PySem.holding [v,ov] (eval i env) >>= fun iv=>PySem.standAt p >>= fun _=>PySem.holding [v,ov,iv] (PySem.setItem ov iv v) >>= fun _=>release [v,ov,iv] []) :=
 plainE_ind (P:=fun i=>assign (.Subscript o i p) env v=(PySem.holding [v] (eval o env) >>= fun ov=>PySem.holding [v,ov] (eval i env) >>= fun iv=>PySem.standAt p >>= fun _=>PySem.holding [v,ov,iv] (PySem.setItem ov iv v) >>= fun _=>release [v,ov,iv] [])) (fun _ _ _=>rfl) (fun _ _=>rfl) (fun _ _ _=>rfl) (fun _ _ _=>rfl) (fun _ _ _ _=>rfl) (fun _ _ _ _=>rfl) (fun _ _ _=>rfl) (fun _ _ _ _=>rfl) (fun _ _ _ _=>rfl) (fun _ _=>rfl) (fun _ _ _=>rfl) (fun _ _ _=>rfl)
theorem Sim.rel {α β:Type} {x:EM β} {t:Sem α} {l m:List Value} (h:Sim X A Γ (fun _ _=>Kn.top) x t):Sim X A Γ (fun _ _=>Kn.top) x (t >>= fun _=>release l m):=fun ev b ev' cs e hc ρ F s I g Q E hQ=>wpAny_bind (h ev b ev' cs e hc ρ F s I g _ E fun u s' ρ' F' a b c=>wpAny_release (hQ () s' ρ' F' trivial b c))
theorem Sim.unpackT (hA:A.handled=none) {vs:List AV} {v:Value} {l:List (Str × Pos)} (hl:l.length=vs.length) (hg:Γ.le (EnvK X ae env)) (hv:Γ.le (RDen (.tup vs) v)):Sim X A Γ (fun _ _=>Kn.top) (eBinds ae (l.map (·.1)) vs) (unpack v (l.map fun q=>(false,nmS env q))):=by
 unfold unpack
 rw [idx_nm,List.length_map,hl]
 intro ev b ev' cs e hc ρ F s I g Q E hQ
 cases den_tup (hv _ _ _ g) with | mk a ws k e1 h hs =>
 rw [e1]
 refine wpAny_bind (wpAny_holding ?_)
 rw [hs.length,show ws.length=ws.toArray.size by simp]
 refine unpackItems_tuple hA ⟨_,I.froz _ _ h,rfl,k,rfl⟩ fun h' hk=>?_
 have r:=I.grow (h':=h') (fun b o e=>hk b o (Nat.ne_of_lt (Heap.lt_size e)) e) s.toks
 have:=Sim.inOrder (A:=A) (nmS env) (fun _ _=>.inl rfl) l vs ws ((EnvK X ae env).and (RDens vs ws)) (Kn.fst (Kn.le_refl _)) (Kn.snd (Kn.le_refl _)) ev b ev' cs e hc ρ F _ r.1 ⟨hg _ _ _ g,hs⟩ Q E fun u s' ρ' F' a b c=>hQ u s' ρ' F' a b (r.2.trans c)
 rw [List.map_map]
 exact this
theorem Sim.assign (S:Sound X r n) (hA:Room X A n) {Γ:Kn} {av:AV} {v:Value} (t:Expr) (hg:Γ.le (EnvK X ae env)) (hv:Γ.le (RDen av v)):Sim X A Γ (fun _ _=>Kn.top) (eAssign X.K r ae av t) (assign t env v):=by
 have ev:=fun e=>(S.ev A hA ae env e).weaken hg
 refine onName_ind (P:=fun x t=>Sim X A Γ (fun _ _=>Kn.top) x (PySem.assign t env v)) (fun y p=>Sim.eq (t':=PySem.standAt p >>= fun _=>PySem.bindName env y v) rfl (Sim.standAt (Sim.bindName hg hv))) ?_
 refine onAttribute_ind (P:=fun x t=>Sim X A Γ (fun _ _=>Kn.top) x (PySem.assign t env v)) (fun o attr p=>?_) ?_
 ·refine Sim.eq (t':=PySem.holding [v] (eval o env) >>= fun ov=>PySem.standAt p.atName >>= fun _=>PySem.holding [v,ov] (PySem.setAttr ov attr v) >>= fun _=>release [v,ov] []) rfl ?_
  exact Sim.bind (Sim.holding (ev o)) fun a b=>Sim.standAt (Sim.rel (Sim.holding ((Sim.setAttr (Kn.snd (Kn.le_refl _)) (Kn.fst hv)).post fun _ _ _ _ _ _=>trivial)))
 refine onSubscript_ind (P:=fun x t=>Sim X A Γ (fun _ _=>Kn.top) x (PySem.assign t env v)) (fun o i p=>Sim.chk fun hs=>?_) ?_
 ·rw [assign_sub o p env v hs]
  exact Sim.bind (Sim.holding (ev o)) fun a b=>Sim.bind (Sim.holding ((ev i).weaken (Kn.fst (Kn.le_refl _)))) fun a2 b2=>Sim.standAt (Sim.rel (Sim.holding ((Sim.setItem (Kn.fst (Kn.snd (Kn.le_refl _))) (Kn.snd (Kn.le_refl _)) (Kn.fst (Kn.fst hv))).post fun _ _ _ _ _ _=>trivial)))
 refine onTupleE_ind (P:=fun x t=>Sim X A Γ (fun _ _=>Kn.top) x (PySem.assign t env v)) (fun elts c p=>?_) Sim.fail
 revert hv
 cases hn:namesOf elts with
 | none=>exact fun _=>Sim.fail
 | some xs =>
  refine onTup_ind (P:=fun x av=>Γ.le (RDen av v)→Sim X A Γ (fun _ _=>Kn.top) x (PySem.assign (.Tuple elts c p) env v)) (fun vs hv=>Sim.chk fun hl=>?_) fun _=>Sim.fail
  refine (namesOf_is hn).elim fun l h=>?_
  have hl':=Nat.eq_of_beq_eq_true hl
  rw [h.2,List.length_map] at hl'
  rw [h.1,h.2]
  refine Sim.eq (t':=PySem.standAt p >>= fun _=>unpack v (assignEach (l.map nm) env)) rfl (Sim.standAt ?_)
  rw [each_nm]
  exact Sim.unpackT hA.2.2.1 hl' hg hv
end
noncomputable def eIterOf (v:AV):EM AV:=onRef v (fun i=>EM.bind (EM.cell i) fun c =>
 onCRng c (fun a b c=>EM.bind (EM.cond (c=1∧-(2 ^ 62)≤a∧a < 2 ^ 62∧-(2 ^ 62)≤b∧b < 2 ^ 62)) fun _=>EM.bind (EM.push (.rit a (if a < b then b - a else 0) 1)) fun j=>EM.ret (.ref j)) <|
 onCEnum c (fun _ _=>EM.ret (.ref i)) <| onCRev c (fun _ _=>EM.ret (.ref i)) <| onCList c (fun _=>EM.bind (EM.push (.liter i 0)) fun j=>EM.ret (.ref j)) EM.fail) <|
 onLst v (fun xs=>EM.bind (EM.push (.fit xs 0)) fun j=>EM.ret (.ref j)) EM.fail
noncomputable def eAssign1 (K:Frag) (r:Rec) (ae:AEnv) (t value:Expr):EM AFlow:=_root_.cond (simpleTarget t && plainE value) (EM.bind (r.ev ae value) fun v=>EM.bind (eAssign K r ae v t) fun _=>EM.ret .next) EM.fail
section
variable (r:Rec) (ae:AEnv)
noncomputable def eAugS (o i:Expr) (op:Operator) (value:Expr):EM AFlow:=_root_.cond (plainE i) (EM.bind (r.ev ae o) fun ov=>EM.bind (r.ev ae i) fun iv=>EM.bind (EM.bind (eGetX r.hs ov iv) fun old=>EM.bind (r.ev ae value) fun v=>eInp op old v) fun nw=>EM.bind (eSetX r.hs ov iv nw) fun _=>EM.ret .next) EM.fail
noncomputable def eForS (target iter:Expr) (body:List Stmt):EM AFlow:=_root_.cond (plainE iter) (EM.bind (r.ev ae iter) fun v=>EM.bind (eIterOf v) fun it=>r.forl ae target it body) EM.fail
noncomputable def eExprS (e:Expr):EM AFlow:=_root_.cond (plainE e) (EM.bind (r.ev ae e) fun _=>EM.ret .next) EM.fail
noncomputable def eLoop (test:Expr) (body:List Stmt):EM AFlow:=eBr (r.tst ae test) (EM.bind (r.exs ae body) fun fl=>onLp fl (r.loop ae test body) (fun v=>EM.ret (.ret v)) (EM.ret .next)) (EM.ret .next)
end
section
variable (target:Expr) (i:Nat)
noncomputable def eNextRit:EM (Option AV):=EM.bind (EM.cellAs asRit i) fun q=>EM.bind (EM.chk (simpleTarget target)) fun _=>EM.bind EM.cutW fun o=>onSome o (fun _=>EM.turn (0 < q.2.1) (fun σ=>σ.set i (.rit (q.1 + q.2.2) (q.2.1 - 1) q.2.2)) (some (.int q.1))) (EM.retIf (q.2.1≤0) none)
noncomputable def eNextEn:EM (Option AV):=EM.bind (EM.cellAs asEnum i) fun q=>EM.bind (EM.chk (isTup target)) fun _=>EM.bind (EM.cellAs asWl q.1) fun w=>EM.bind (EM.cellAs asList w.1) fun xs=>EM.bind (EM.chk (Nat.beq w.2 q.2)) fun _ =>
 EM.bind EM.cutW fun o=>onSome o (fun y=>EM.turn (xs[q.2]? = some y) (fun σ=>(σ.set q.1 (.wl w.1 (w.2 + 1))).set i (.enum q.1 (q.2 + 1))) (some (.tup [.int q.2,y]))) (EM.turn (xs[q.2]? = none) (fun σ=>σ.set q.1 .any) none)
noncomputable def eNextIt:EM (Option AV):=EM.bind (EM.cellAs asLiter i) fun q=>EM.bind (EM.chk (simpleTarget target || isTup target)) fun _=>eStepL i q.1 q.2
noncomputable def eNextRev:EM (Option AV):=EM.bind (EM.cellAs asRev i) fun q=>EM.bind (EM.chk (simpleTarget target)) fun _=>EM.bind (EM.cellAs asList q.1) fun xs=>EM.bind EM.cutW fun o=>onSome o (fun y=>EM.turn (0≤q.2∧xs[q.2.toNat]? = some y) (fun σ=>σ.set i (.rev q.1 (q.2 - 1))) (some y)) (EM.retIf (q.2 = -1) none)
noncomputable def eNextEs:EM (Option AV):=EM.bind (EM.cellAs asEnum i) fun q=>EM.bind (EM.chk (isTup target)) fun _=>EM.bind (EM.cellAs asSit q.1) fun w=>EM.bind (EM.chk (Nat.beq w.2 q.2)) fun _ =>
 EM.bind EM.cutW fun o=>onSome o (fun y=>EM.turn ((w.1.cps[q.2]?).map (fun c=>AV.str ⟨#[c]⟩)=some y) (fun σ=>(σ.set q.1 (.sit w.1 (w.2 + 1))).set i (.enum q.1 (q.2 + 1))) (some (.tup [.int q.2,y]))) (EM.turn (w.1.cps[q.2]? = none) (fun σ=>σ.set q.1 .any) none)
noncomputable def eNextFit:EM (Option AV):=EM.bind (EM.cellAs asFit i) fun q=>EM.bind (EM.chk (simpleTarget target)) fun _=>EM.bind EM.cutW fun o=>onSome o (fun y=>EM.turn (q.1[q.2]? = some y) (fun σ=>σ.set i (.fit q.1 (q.2 + 1))) (some y)) (EM.turn (q.1[q.2]? = none) (fun σ=>σ.set i .any) none)
noncomputable def eNextEf:EM (Option AV):=EM.bind (EM.cellAs asEnum i) fun q=>EM.bind (EM.chk (isTup target)) fun _=>EM.bind (EM.cellAs asFit q.1) fun w=>EM.bind (EM.chk (Nat.beq w.2 q.2)) fun _ =>
 EM.bind EM.cutW fun o=>onSome o (fun y=>EM.turn (w.1[q.2]? = some y) (fun σ=>(σ.set q.1 (.fit w.1 (w.2 + 1))).set i (.enum q.1 (q.2 + 1))) (some (.tup [.int q.2,y]))) (EM.turn (w.1[q.2]? = none) (fun σ=>σ.set q.1 .any) none)
end
noncomputable def eNextOwn (target:Expr) (it:AV):EM (Option AV):=onRef it (fun i=>EM.or (eNextRit target i) (EM.or (eNextEn target i) (EM.or (eNextEs target i) (EM.or (eNextEf target i) (EM.or (eNextRev target i) (EM.or (eNextFit target i) (eNextIt target i))))))) EM.fail
noncomputable def eComp (K:Frag) (r:Rec) (ae:AEnv) (elt target:Expr) (it acc:AV):EM AFlow:=EM.bind (eNextOwn target it) fun o=>onSome o (fun v=>EM.bind (eAssign K r ae v target) fun _=>EM.bind (EM.bind (r.ev ae elt) fun x=>eAppend [acc,x]) fun _=>r.comp ae elt target it acc) (EM.ret .next)
noncomputable def eTidy (N:Nat):EM Unit:=EM.bind (EM.word some) fun w=>onWNorm w (EM.st fun σ=>EM.turn (∀ p ∈ (σ.cut N).objs,UndC N p.2) (fun σ=>σ.cut N) ()) <| onWKeep w (EM.ret ()) <|
 onWDrop w (fun i xs=>EM.bind (EM.cellAs asNs i) fun m=>EM.bind (EM.upd fun σ=>σ.set i (.ns (m.filter fun q=>!(xs.contains q.1)))) fun _=>EM.st fun σ=>EM.turn (∀ p ∈ (σ.cut N).objs,UndC N p.2) (fun σ=>σ.cut N) ()) EM.fail
noncomputable def eForL (K:Frag) (r:Rec) (ae:AEnv) (target:Expr) (it:AV) (body:List Stmt):EM AFlow:=EM.st fun σ=>EM.bind (eNextOwn target it) fun o=>onSome o (fun v=>EM.bind (EM.bind (eAssign K r ae v target) fun _=>r.exs ae body) fun fl =>
 onLp fl (EM.bind (eTidy σ.n) fun _=>r.forl ae target it body) (fun v=>EM.ret (.ret v)) (EM.ret .next)) (EM.ret .next)
section
variable {X:Ctx} {A:Around} {ρ:Rho} {F:Fz} {σ:St} {s:Shared} {Γ:Kn} {r:Rec} {n:Nat} {ae:AEnv} {env:Env}
theorem Inv.atRev (I:Inv X ρ F σ s) {i l:Nat} {k:Int} (h:σ.get i=some (.rev l k)):s.heap.IsRevIter (ρ i) (ρ l) k∧l < σ.n:=(I.at h).elim fun o h=>(fun (q:(o.cls = .type "list_reverseiterator"∧o.data = .fields #[.ref (ρ l),.int k 0])∧l < σ.n)=>⟨⟨o,h.1,q.1.1,q.1.2⟩,q.2⟩) h.2
theorem Inv.atSit (I:Inv X ρ F σ s) {i:Nat} {x:Str} {k:Nat} (h:σ.get i=some (.sit x k)):∃ t,s.heap.IsStrIter (ρ i) (sitTy x) x t k:=(I.at h).elim fun o h=>(fun (q:o.cls = .type (sitTy x)∧∃ t,o.data = .fields #[.str x t,.int k 0])=>q.2.elim fun t e=>⟨t,o,h.1,q.1,e⟩) h.2
theorem Sim.pyIter {av:AV} {v:Value} (hv:Γ.le (RDen av v)):Sim X A Γ RDen (eIterOf av) (pyIter v):=by
 refine Sim.ofRun fun σ ρ F s I g=>?_
 refine onRef_ind (P:=fun y av=>Den σ.n ρ F av v→RunAt σ y fun b σ'=>Goes X A ρ F σ s (PySem.pyIter v) (RDen b) σ') (fun i d=>?_) (onLst_ind (P:=fun y av=>Den σ.n ρ F av v→RunAt σ y fun b σ'=>Goes X A ρ F σ s (PySem.pyIter v) (RDen b) σ') (fun xs d=>RunAt.push (RunAt.ret ?_)) (fun _=>RunAt.fail)) (hv _ _ _ g)
 rotate_left
 ·cases den_lst d with | mk a ws k e hF hs =>
  rw [e]
  exact Goes.to fun Q E hQ=>wpAny_pyIter_list (items:=ws.toArray) ⟨_,I.froz _ _ hF,rfl,k,rfl⟩ (hQ _ _ _ F (Den.fresh ρ F σ _ _) (I.push (a:=s.heap.objs.size) (c:=.fit xs 0) (Heap.get?_none_of_le (Nat.le_refl _)) (fun b o e=>Heap.get?_push_of_some _ e) (.ofFit (b:=a) ⟨_,Heap.get?_push_size _ rfl,rfl,rfl⟩ hF (hs.mono (Nat.le_succ _) (fun i hi=>Rho.put_lt ρ _ hi) fun _ _ e=>e)) s.toks))
 rw [(den_ref d).1]
 refine RunAt.cell fun c=>onCRng_ind (P:=fun y c=>σ.get i=some c→RunAt σ y fun b σ'=>Goes X A ρ F σ s (PySem.pyIter (.ref (ρ i))) (RDen b) σ') (fun a b c hx=>RunAt.cond fun h=>RunAt.push (RunAt.ret ?_)) <|
  onCEnum_ind (P:=fun y c=>σ.get i=some c→RunAt σ y fun b σ'=>Goes X A ρ F σ s (PySem.pyIter (.ref (ρ i))) (RDen b) σ') (fun it k hx=>RunAt.ret ((I.atEn hx).elim fun old he=>Goes.same I fun Q E hQ=>wpAny_pyIter_enum he.1 (hQ _ ⟨rfl,d.2⟩))) <|
  onCRev_ind (P:=fun y c=>σ.get i=some c→RunAt σ y fun b σ'=>Goes X A ρ F σ s (PySem.pyIter (.ref (ρ i))) (RDen b) σ') (fun l k hx=>RunAt.ret (Goes.same I fun Q E hQ=>wpAny_pyIter_revIter (I.atRev hx).1 (hQ _ ⟨rfl,d.2⟩))) <|
  onCList_ind (P:=fun y c=>σ.get i=some c→RunAt σ y fun b σ'=>Goes X A ρ F σ s (PySem.pyIter (.ref (ρ i))) (RDen b) σ') (fun xs hx=>RunAt.push (RunAt.ret ((I.atL hx).elim fun ws q=>q.elim fun k q=>Goes.to fun Q E hQ=>wpAny_pyIter_list (items:=ws.toArray) ⟨_,q.1,rfl,k,rfl⟩ (pushIter I (I.lt hx) hQ)))) fun _=>RunAt.fail
 refine (I.atRng hx).elim fun t q=>q.elim fun u q=>q.elim fun v hr=>?_
 rw [h.1] at hr
 exact Goes.to fun Q E hQ=>wpAny_pyIter_range hr (small_one h.2.1 h.2.2.1 h.2.2.2.1 h.2.2.2.2) (hQ _ _ _ F (Den.fresh ρ F σ _ _) (I.push (a:=s.heap.objs.size) (c:=.rit a (if a < b then b - a else 0) 1) (h':=s.heap.push { cls:=.type "range_iterator",data:=.fields #[rawInt a,rawInt (Builtin.Range.rangeSize a b 1),rawInt 1] }) (Heap.get?_none_of_le (Nat.le_refl _)) (fun b o e=>Heap.get?_push_of_some _ e)
  ⟨_,Heap.get?_push_size _ rfl,by rw [rangeSize_one]; rfl⟩ s.toks))
theorem Sim.dropV {e:Expr} {p:Pos} {v:Value}:Sim X A Γ RFlow (EM.ret .next) (dropValue e p v):=Sim.ofRun fun σ ρ F s I g=>RunAt.ret (Goes.same I fun Q E hQ=>wpAny_dropValue (hQ _ rfl))
theorem Sim.assign1 (S:Sound X r n) (hA:Room X A n) (t value:Expr) (p:Pos):SimS X A ae env (eAssign1 X.K r ae t value) (.Assign [t] value p):=Sim.chk fun hc=>by
 rw [Bool.and_eq_true] at hc
 rw [exec_simple hc.1 hc.2]
 exact Sim.standAt (Sim.bind (S.ev A hA ae env value) fun a v=>Sim.bind (Sim.assign S hA t (Kn.fst (Kn.le_refl _)) (Kn.snd (Kn.le_refl _))) fun _ _=>Sim.ret fun _ _ _ _=>rfl)
noncomputable def augTree (o i:Expr) (sp:Pos) (op:Operator) (value:Expr) (p:Pos) (env:Env):Sem Flow:=PySem.standAt p >>= fun _=>eval o env >>= fun ov=>PySem.holding [ov] (eval i env) >>= fun iv =>
 PySem.holding [ov,iv] (PySem.standAt sp >>= fun _=>PySem.getItem ov iv >>= fun old=>PySem.holding [old] (eval value env) >>= fun v=>PySem.standAt p >>= fun _=>PySem.operate [old,v] (PySem.inplaceOp op old v)) >>= fun nw =>
 PySem.standAt sp >>= fun _=>PySem.holding [nw,ov,iv] (PySem.setItem ov iv nw) >>= fun _=>release [nw,ov,iv] [] >>= fun _=>pure .next
theorem Sim.released {l m:List Value}:Sim X A Γ RFlow (EM.ret .next) (release l m >>= fun _=>Pure.pure .next):=Sim.ofRun fun σ ρ F s I g=>RunAt.ret (Goes.same I fun Q E hQ=>wpAny_bind (wpAny_release (wpAny_pure (hQ _ rfl))))
theorem Sim.augS (S:Sound X r n) (hA:Room X A n) (o i:Expr) (sp:Pos) (op:Operator) (value:Expr) (p:Pos):SimS X A ae env (eAugS r ae o i op value) (.AugAssign (.Subscript o i sp) op value p):=Sim.chk fun hs=>by
 refine Sim.eq (t':=augTree o i sp op value p env) (plainE_ind (P:=fun i=>exec (.AugAssign (.Subscript o i sp) op value p) env=augTree o i sp op value p env) (fun _ _ _=>rfl) (fun _ _=>rfl) (fun _ _ _=>rfl) (fun _ _ _=>rfl) (fun _ _ _ _=>rfl) (fun _ _ _ _=>rfl) (fun _ _ _=>rfl) (fun _ _ _ _=>rfl) (fun _ _ _ _=>rfl) (fun _ _=>rfl) (fun _ _ _=>rfl) (fun _ _ _=>rfl) hs) ?_
 refine Sim.standAt (Sim.bind (S.ev A hA ae env o) fun a av=>Sim.bind (Sim.holding ((S.ev A hA ae env i).weaken (Kn.fst (Kn.le_refl _)))) fun b bv=>Sim.bind (R:=RDen) (Sim.holding (Sim.standAt (Sim.bind (Sim.getX S.hs (Kn.fst (Kn.snd (Kn.le_refl _))) (Kn.snd (Kn.le_refl _))) fun old oldv=>?_))) fun nw nv=>Sim.standAt ?_)
 ·exact Sim.bind (Sim.holding ((S.ev A hA ae env value).weaken (Kn.fst (Kn.fst (Kn.fst (Kn.le_refl _)))))) fun w wv=>Sim.standAt (Sim.operate (Sim.inp (Kn.fst (Kn.snd (Kn.le_refl _))) (Kn.snd (Kn.le_refl _))))
 ·exact Sim.bind (Sim.holding ((Sim.setX S.hs (Kn.fst (Kn.fst (Kn.snd (Kn.le_refl _)))) (Kn.fst (Kn.snd (Kn.le_refl _))) (Kn.snd (Kn.le_refl _))))) fun _ _=>Sim.released
theorem Sim.runs {x:EM AFlow} {c:Code} (h:CSim X A Γ x c):Sim X A Γ RFlow x (runOwn c env):=fun ev b ev' cs e hc ρ F s I g Q E hQ=>wpAny_runOwn (h:=none) (by rw [Around.mark_none]; exact h ev b ev' cs e hc ρ F s I g _ fun f s' ρ' F' a b c=>hQ f s' ρ' F' a b c)
theorem Sim.forS (S:Sound X r n) (hA:Room X A n) (target iter:Expr) (body:List Stmt) (p:Pos):SimS X A ae env (eForS r ae target iter body) (.For target iter body [] p):=Sim.chk fun hs=>by
 rw [exec_For]
 refine Sim.standAt (Sim.bind (S.ev A hA ae env iter) fun a v=>?_)
 rw [notSet_folds hs]
 exact Sim.eq (pure_bind _ _) (Sim.standAt (Sim.bind (Sim.holding (Sim.pyIter (Kn.snd (Kn.le_refl _)))) fun it itv=>(Sim.runs (S.forl A hA ae env target it itv body)).weaken fun _ _ _ g=>⟨g.1.1,g.2⟩))
theorem Sim.exprS (S:Sound X r n) (hA:Room X A n) (e:Expr) (p:Pos):SimS X A ae env (eExprS r ae e) (.Expr e p):=Sim.chk fun hn=>by
 refine Sim.know (P:=interactive env=false) (fun _ _ _ g=>by unfold interactive; rw [EnvOk.sc g,EnvOk.fn g]; rfl) fun hi=>?_
 rw [exec_Expr env e p hi (plainE_ind (P:=fun e=>swapsWith e none p.line env=pure false) (fun _ _ _=>rfl) (fun _ _=>rfl) (fun _ _ _=>rfl) (fun _ _ _=>rfl) (fun _ _ _ _=>rfl) (fun _ _ _ _=>rfl) (fun _ _ _=>rfl) (fun _ _ _ _=>rfl) (fun _ _ _ _=>rfl) (fun _ _=>rfl) (fun _ _ _=>rfl) (fun _ _ _=>rfl) hn)]
 exact Sim.standAt (Sim.bind (S.ev A hA ae env e) fun a v=>Sim.dropV)
noncomputable def TPost (X:Ctx) (A:Around) (R:Result→Shared→Prop) (fin:Fin) (s':Shared):Prop:=match fin with
 | .done f=>R (.ok f) s'
 | .again c'=>c'.quiet=true∧codeAny (model X.prog X.w) A c' R s'
noncomputable def TSim (X:Ctx) (A:Around) (Γ:Kn) (x:EM AFlow) (t:Sem Fin):Prop:=∀ ev b ev' cs,x ev=some (b,ev',cs)→All cs→∀ ρ F s,Inv X ρ F ev.1 s→Γ.p ev.1.n ρ F→∀ (R:Result→Shared→Prop) (E:Value→Shared→Prop),
 (∀ f s' ρ' F',(RFlow b f).p ev'.1.n ρ' F'→Inv X ρ' F' ev'.1 s'→Stp ρ F ev.1 s ρ' F' ev'.1 s'→R (.ok f) s')→wpAny (model X.prog X.w) A t (TPost X A R) E s
theorem TSim.bind {α β:Type} {x:EM β} {f:β→EM AFlow} {t:Sem α} {k:α→Sem Fin} {R:β→α→Kn} (h:Sim X A Γ R x t) (hk:∀ b v,TSim X A (Γ.and (R b v)) (f b) (k v)):TSim X A Γ (EM.bind x f) (t >>= k) :=
 fun ev c ev'' cs e hc ρ F s I g R' E hR=>EM.bind_use e hc fun b ev' cs₁ cs₂ e₁ e₂ h1 h2=>wpAny_bind (h _ _ _ _ e₁ h1 ρ F s I g _ E fun v s₁ ρ₁ F₁ hr I₁ st=>hk b v _ _ _ _ e₂ h2 ρ₁ F₁ s₁ I₁ ⟨Γ.mono st.le st.same st.sub g,hr⟩ R' E fun f s' ρ' F' a b c=>hR f s' ρ' F' a b (st.trans c))
theorem TSim.done {b:AFlow} {f:Flow} (h:Γ.le (RFlow b f)):TSim X A Γ (EM.ret b) (Pure.pure (.done f)):=fun ev c ev'' cs e hc ρ F s I g R' E hR=>RunAt.ret (C:=fun b' σ'=>(∀ f s' ρ' F',(RFlow b' f).p σ'.n ρ' F'→Inv X ρ' F' σ' s'→Stp ρ F ev.1 s ρ' F' σ' s'→R' (.ok f) s')→R' (.ok f) s) (fun hR=>hR f s ρ F (h _ _ _ g) I (Stp.refl ρ F I.ids)) ev.2 c ev'' cs e hc hR |> wpAny_pure
theorem TSim.again {x:EM AFlow} {c:Code} (h:CSim X A Γ x c) (hq:c.quiet=true):TSim X A Γ x (PySem.again c):=fun ev b ev' cs e hc ρ F s I g R E hR=>wpAny_pure ⟨hq,h ev b ev' cs e hc ρ F s I g R hR⟩
theorem TSim.weaken {Γ':Kn} {x:EM AFlow} {t:Sem Fin} (h:TSim X A Γ x t) (hg:Γ'.le Γ):TSim X A Γ' x t:=fun ev b ev' cs e hc ρ F s I g=>h ev b ev' cs e hc ρ F s I (hg _ _ _ g)
theorem TSim.know {P:Prop} {x:EM AFlow} {t:Sem Fin} (h:Γ.le (Kn.is P)) (hk:P→TSim X A Γ x t):TSim X A Γ x t:=fun ev b ev' cs e hc ρ F s I g=>hk (h _ _ _ g) ev b ev' cs e hc ρ F s I g
theorem TSim.dec {b₀:Bool} {f:Bool→EM AFlow} {t:Sem Fin} (hk:TSim X A Γ (f b₀) t):TSim X A Γ (EM.bind (EM.dec b₀) f) t:=fun ev b ev' cs e hc ρ F s I g=>RunAt.stay (RunAt.dec0 (σ:=ev.1) (b:=b₀)) (f:=f) (D:=fun b σ'=>∀ (R:Result→Shared→Prop) (E:Value→Shared→Prop),
 (∀ f s' ρ' F',(RFlow b f).p σ'.n ρ' F'→Inv X ρ' F' σ' s'→Stp ρ F ev.1 s ρ' F' σ' s'→R (.ok f) s')→wpAny (model X.prog X.w) A t (TPost X A R) E s) (fun b' h ds c ev' cs e hc=>hk (ev.1,ds) c ev' cs (h ▸ e) hc ρ F s I g) ev.2 b ev' cs e hc
theorem TSim.br {x:EM Bool} {y z:EM AFlow} {t:Sem Bool} {k:Bool→Sem Fin} (hx:Sim X A Γ REq x t) (hy:TSim X A Γ y (k true)) (hz:TSim X A Γ z (k false)):TSim X A Γ (eBr x y z) (t >>= k) :=
 TSim.bind hx fun b c=>TSim.know (P:=b=c) (Kn.snd (Kn.le_refl _)) fun h=>TSim.dec (by
  rw [← h]
  cases b
  ·exact hz.weaken (Kn.fst (Kn.le_refl _))
  ·exact hy.weaken (Kn.fst (Kn.le_refl _)))
theorem TSim.standAt {p:Pos} {x:EM AFlow} {k:Unit→Sem Fin} (h:TSim X A Γ x (k ())):TSim X A Γ x (PySem.standAt p >>= k):=fun ev b ev' cs e hc ρ F s I g R E hR=>wpAny_bind (wpAny_standAt (h ev b ev' cs e hc ρ F s I g R E hR))
theorem CSim.turn {x:EM AFlow} {t:Sem Fin} {c:Code} (hA:A.under c=A) (hc:(model X.prog X.w).den c=t.onRaise (fun x=>do noteFrame x env; theTreesLotGoes x)) (h:TSim X A Γ x t):CSim X A Γ x c:=fun ev b ev' cs e hcs ρ F s I g R hR=>by
 refine codeAny_of_tree ?_
 rw [hA,hc]
 exact wpAny_noted (h ev b ev' cs e hcs ρ F s I g R _ hR)
theorem Sim.loop (S:Sound X r n) (hA:Room X A n) (test:Expr) (body:List Stmt):CSim X A (EnvK X ae env) (eLoop r ae test body) (.whileLoop test body [] env):=by
 refine CSim.turn (env:=env) (t:=whileTurn test body [] env) rfl rfl ?_
 refine TSim.br (k:=fun b=>if b=true then execs body env >>= fun fl=>(match fl with
  | .next | .cont=>PySem.again (.whileLoop test body [] env)
  | .brk=>pure (.done .next)
  | .ret v=>pure (.done (.ret v))) else execs [] env >>= fun f=>pure (.done f)) (S.tst A hA ae env test) ?_ ?_
 ·refine TSim.bind (S.exs A hA ae env body) fun fl f=>?_
  cases fl with
  | next=>exact TSim.know (P:=f = .next) (Kn.snd (Kn.le_refl _)) fun h=>by rw [h]; exact (TSim.again (S.loop A hA ae env test body) rfl).weaken (Kn.fst (Kn.le_refl _))
  | ret v =>
   intro ev b ev' cs e hc ρ F s I g
   refine (show ∃ w,f = .ret w∧Den _ _ _ v w from g.2).elim fun w q=>?_
   rw [q.1]
   exact TSim.done (Γ:=RFlow (.ret v) (.ret w)) (Kn.le_refl _) ev b ev' cs e hc ρ F s I ⟨w,rfl,q.2⟩
  | brk=>exact TSim.know (P:=f = .brk) (Kn.snd (Kn.le_refl _)) fun h=>by rw [h]; exact TSim.done (b:=.next) (f:=.next) (fun _ _ _ _=>rfl)
  | cont=>exact TSim.know (P:=f = .cont) (Kn.snd (Kn.le_refl _)) fun h=>by rw [h]; exact (TSim.again (S.loop A hA ae env test body) rfl).weaken (Kn.fst (Kn.le_refl _))
 ·exact fun ev b ev' cs e hc ρ F s I g R E hR=>wpAny_bind (wpAny_execs_nil (TSim.done (Γ:=EnvK X ae env) (b:=.next) (f:=.next) (fun _ _ _ _=>rfl) ev b ev' cs e hc ρ F s I g R E hR))
theorem go_simple {target:Expr} {v w:Value}:simpleTarget target=true→letOwnedTupleGo target v w=pure ():=simple_ind (P:=fun t=>letOwnedTupleGo t v w=pure ()) (fun _ _=>rfl) (fun _ _ _=>rfl) fun _ _ _=>rfl
theorem ownedGo {elts:List Expr} {c:Nat} {p:Pos} {i:Addr} {l:Value} {k:Int} {v:Value} {M:Model} {E:Value→Shared→Prop} {Q:Unit→Shared→Prop} (ho:s.heap.get? i=some (oIter l k)) (h:Q () s):wpAny M A (letOwnedTupleGo (.Tuple elts c p) (.ref i) v) Q E s:=by
 cases v with
 | ref a =>
  refine wpAny_bind (wpAny_load ho ?_)
  show wpAny M A (if (["enumerate","zip","dict_itemiterator","dict_reverseitemiterator","odict_iterator","itertools.zip_longest","itertools.pairwise"].contains "list_iterator" && _)=true then _ else _) Q E s
  rw [show (["enumerate","zip","dict_itemiterator","dict_reverseitemiterator","odict_iterator","itertools.zip_longest","itertools.pairwise"].contains "list_iterator")=false by decide,Bool.false_and,if_neg (by decide)]
  exact wpAny_pure h
 | _=>exact wpAny_pure h
noncomputable def nextBy (t:Sem (Option Value)) (target:Expr) (v:Value):Sem (Option Value):=t >>= fun o=>onSome o (fun w=>letOwnedTupleGo target v w >>= fun _=>pure (some w)) (pure none)
theorem nextBy_eq {γ:Type} {t:Sem (Option Value)} {target:Expr} {v:Value} (K0:Sem γ) (K:Value→Sem γ):(t >>= fun o=>match o with | none=>K0 | some w=>letOwnedTupleGo target v w >>= fun _=>K w)=nextBy t target v >>= fun o=>onSome o K K0:=by
 unfold nextBy
 rw [bind_assoc]
 refine bind_congr fun o=>?_
 cases o with
 | none=>exact (pure_bind _ _).symm
 | some w =>
  show _=(letOwnedTupleGo target v w >>= fun _=>pure (some w)) >>= fun o=>onSome o K K0
  rw [bind_assoc]
  exact bind_congr fun _=>(pure_bind _ _).symm
noncomputable def Alike {α:Type} (X:Ctx) (A:Around) (t t':Sem α):Prop:=∀ (Q:α→Shared→Prop) (s:Shared),(∀ E,wpAny (model X.prog X.w) A t Q E s)→∀ E,wpAny (model X.prog X.w) A t' Q E s
theorem nextBy_of {t:Sem (Option Value)} {target:Expr} {v:Value} {o:Option AV} {σ':St} (ht:Alike X A (pyNext v) t) (h:Goes X A ρ F σ s (pyNext v) (ROpt o) σ')
  (hgo:∀ w s₁ ρ₁ F₁,o ≠ none→Inv X ρ₁ F₁ σ' s₁→Stp ρ F σ s ρ₁ F₁ σ' s₁→∀ Q E,Q () s₁→wpAny (model X.prog X.w) A (letOwnedTupleGo target v w) Q E s₁):Goes X A ρ F σ s (nextBy t target v) (ROpt o) σ':=fun Q E hQ=>wpAny_bind (ht _ _ (fun E=>h _ E fun ov s₁ ρ₁ F₁ d I₁ st₁=>by
 cases o with
 | none=>rw [show ov=none from d]; exact wpAny_pure (hQ none s₁ ρ₁ F₁ rfl I₁ st₁)
 | some av=>exact (show ∃ w,ov=some w∧Den σ'.n ρ₁ F₁ av w from d).elim fun w q=>q.1 ▸ wpAny_bind (hgo w s₁ ρ₁ F₁ (fun h=>nomatch h) I₁ st₁ _ _ (wpAny_pure (hQ (some w) s₁ ρ₁ F₁ ⟨w,rfl,q.2⟩ I₁ st₁)))) E)
section
variable {prog:Program} {w:World} {E:Value→Shared→Prop}
theorem rangeEnd {it:Addr} {x left step:Int} {Q:Option Value→Shared→Prop} (hh:A.handled=none) (hit:IsRangeIter s.heap it x left step) (hleft:left≤0) (hQ:∀ h',(∀ b o,s.heap.get? b=some o→h'.get? b=some o)→Q none { s with heap:=h' }):wpAny (model prog w) A (pyNext (.ref it)) Q E s:=by
 have hT:s.TypeIs (.ref it) "range_iterator":=⟨_,hit,rfl⟩
 unfold PySem.pyNext
 refine wpAny_bind (wpAny_attempt (wpAny_callSpecial?_slot (name:=Str.ofString "__next__") hT F.slot_range_iterator_next
  (wpAny_call_entry F.slot_range_iterator_next hT F.entry_range_iterator_next ?_ (F.args_range_iterator_next_1 _))))
 show wpAny _ _ (field (.ref it) 0 >>= _) _ _ s
 refine wpAny_bind (wpAny_field hit rfl (x:=rawInt x) rfl ?_)
 show wpAny _ _ (field (.ref it) 1 >>= _) _ _ s
 refine wpAny_bind (wpAny_field hit rfl (x:=rawInt left) rfl ?_)
 show wpAny _ _ (field (.ref it) 2 >>= _) _ _ s
 refine wpAny_bind (wpAny_field hit rfl (x:=rawInt step) rfl ?_)
 show wpAny _ _ (if left≤0 then _ else _) _ _ s
 rw [if_pos hleft]
 refine wpAny_bind (wpAny_rule ?_)
 refine wpAny_bind (m:=SmallTypes.stopIteration) (stop_raised (A:=A.in1) hh fun e h' hk hT=>?_)
 refine wpAny_bind (wpAny_isInstance (T:="StopIteration") (b:=true) hT isSubtype_stop ?_)
 exact wpAny_pure (hQ _ hk)
theorem enumEnd {e it l:Addr} {i j:Nat} {items:List Value} {old:Value} {Q:Option Value→Shared→Prop} (hh:A.handled=none) (he:IsEnum s.heap e it j old) (hit:s.heap.IsListIter it l i) {k:Nat} (hl:s.heap.get? l=some (oList items k)) (hx:items[i]? = none) (hQ:∀ h',(∃ o,h'.get? it=some o)→Heap.ExtBut it s.heap h'→Q none { s with heap:=h' }):wpAny (model prog w) A (pyNext (.ref e)) Q E s:=by
 have hT:s.TypeIs (.ref e) "enumerate":=⟨_,he,rfl⟩
 refine hit.elim fun o h=>?_
 unfold PySem.pyNext
 refine wpAny_bind (wpAny_attempt (wpAny_callSpecial?_slot (name:=Str.ofString "__next__") hT F.slot_enumerate_next
  (wpAny_call_entry F.slot_enumerate_next hT F.entry_enumerate_next ?_ (F.args_enumerate_next_1 _))))
 show wpAny _ _ (field (.ref e) 2 >>= _) _ _ _
 refine wpAny_bind (wpAny_field he rfl (x:=.ref it) rfl (wpAny_bind ?_))
 unfold Builtin.SmallTypes.nextOf
 refine wpAny_bind (wpAny_callSpecial?_slot (name:=Str.ofString "__next__") hit.typeIs slot_listiter_next (wpAny_call_entry slot_listiter_next hit.typeIs entry_listiter_next ?_ (args_listiter_next _)))
 show wpAny _ _ (field (.ref it) 0 >>= _) _ _ s
 refine wpAny_bind (wpAny_field h.1 h.2.2 (x:=.ref l) rfl ?_)
 rw [if_neg (show ¬ ((Value.ref l == Value.none)=true) from Bool.false_ne_true)]
 refine wpAny_bind (m:=field (.ref it) 1) (wpAny_field h.1 h.2.2 (x:=.int i 0) rfl ?_)
 dsimp only
 refine wpAny_bind (wpAny_seqItems hl rfl ?_)
 dsimp only
 simp only [Int.toNat_natCast,List.getElem?_toArray,hx]
 refine wpAny_bind (wpAny_rule (wpAny_bind (wpAny_setField h.1 h.2.2 (by simp) ?_)))
 have h1:=Heap.get?_update_self (Obj.mapFields (·.setIfInBounds 0 Value.none)) h.1 (Obj.isFreed_of_fields (Obj.data_mapFields h.2.2 _))
 refine stop_raised (A:=A.in1.in1) hh fun e h' hk hT=>?_
 refine wpAny_bind (wpAny_isInstance (T:="StopIteration") (b:=true) hT isSubtype_stop ?_)
 exact wpAny_pure (hQ _ ⟨_,hk _ _ h1⟩ fun b o hb e=>hk _ _ ((Heap.SameBut.update ..).extBut b o hb e))
theorem listEnd {it l:Addr} {i:Nat} {items:List Value} {Q:Option Value→Shared→Prop} (hh:A.handled=none) (hit:s.heap.IsListIter it l i) {k:Nat} (hl:s.heap.get? l=some (oList items k)) (hx:items[i]? = none) (hQ:∀ h',(∃ o,h'.get? it=some o)→Heap.ExtBut it s.heap h'→Q none { s with heap:=h' }):wpAny (model prog w) A (pyNext (.ref it)) Q E s:=by
 refine hit.elim fun o h=>?_
 unfold PySem.pyNext
 refine wpAny_bind (wpAny_attempt (wpAny_callSpecial?_slot (name:=Str.ofString "__next__") hit.typeIs slot_listiter_next (wpAny_call_entry slot_listiter_next hit.typeIs entry_listiter_next ?_ (args_listiter_next _))))
 show wpAny _ _ (field (.ref it) 0 >>= _) _ _ s
 refine wpAny_bind (wpAny_field h.1 h.2.2 (x:=.ref l) rfl ?_)
 rw [if_neg (show ¬ ((Value.ref l == Value.none)=true) from Bool.false_ne_true)]
 refine wpAny_bind (m:=field (.ref it) 1) (wpAny_field h.1 h.2.2 (x:=.int i 0) rfl ?_)
 dsimp only
 refine wpAny_bind (wpAny_seqItems hl rfl ?_)
 dsimp only
 simp only [Int.toNat_natCast,List.getElem?_toArray,hx]
 refine wpAny_bind (wpAny_rule (wpAny_bind (wpAny_setField h.1 h.2.2 (by simp) ?_)))
 have h1:=Heap.get?_update_self (Obj.mapFields (·.setIfInBounds 0 Value.none)) h.1 (Obj.isFreed_of_fields (Obj.data_mapFields h.2.2 _))
 refine stop_raised (A:=A.in1) hh fun e h' hk hT=>?_
 refine wpAny_bind (wpAny_isInstance (T:="StopIteration") (b:=true) hT isSubtype_stop ?_)
 exact wpAny_pure (hQ _ ⟨_,hk _ _ h1⟩ fun b o hb e=>hk _ _ ((Heap.SameBut.update ..).extBut b o hb e))
theorem revEnd {it l:Addr} {Q:Option Value→Shared→Prop} (hh:A.handled=none) (hit:s.heap.IsRevIter it l (-1)) (hQ:∀ h',(∀ b o,s.heap.get? b=some o→h'.get? b=some o)→Q none { s with heap:=h' }):wpAny (model prog w) A (pyNext (.ref it)) Q E s:=by
 refine hit.elim fun o h=>?_
 unfold PySem.pyNext
 refine wpAny_bind (wpAny_attempt (wpAny_callSpecial?_slot (name:=Str.ofString "__next__") hit.typeIs F.slot_lri_next (wpAny_call_entry F.slot_lri_next hit.typeIs F.entry_lri_next ?_ (F.args_lri_next_1 _))))
 show wpAny _ _ (field (.ref it) 1 >>= _) _ _ s
 refine wpAny_bind (wpAny_field h.1 h.2.2 (x:=rawInt (-1)) rfl ?_)
 show wpAny _ _ (if (-1:Int) < 0 then _ else _) _ _ s
 rw [if_pos (by decide)]
 refine wpAny_bind (wpAny_rule ?_)
 refine wpAny_bind (m:=SmallTypes.stopIteration) (stop_raised (A:=A.in1) hh fun e h' hk hT=>?_)
 refine wpAny_bind (wpAny_isInstance (T:="StopIteration") (b:=true) hT isSubtype_stop ?_)
 exact wpAny_pure (hQ _ hk)
theorem enumEndS {e it:Addr} {i j:Nat} {x:Str} {t:Tok} {old:Value} {Q:Option Value→Shared→Prop} (hh:A.handled=none) (he:IsEnum s.heap e it j old) (hit:s.heap.IsStrIter it (sitTy x) x t i) (hx:x.cps[i]? = none) (hQ:∀ h',(∃ o,h'.get? it=some o)→Heap.ExtBut it s.heap h'→Q none { s with heap:=h' }):wpAny (model prog w) A (pyNext (.ref e)) Q E s:=by
 have hT:s.TypeIs (.ref e) "enumerate":=⟨_,he,rfl⟩
 unfold PySem.pyNext
 refine wpAny_bind (wpAny_attempt (wpAny_callSpecial?_slot (name:=Str.ofString "__next__") hT F.slot_enumerate_next (wpAny_call_entry F.slot_enumerate_next hT F.entry_enumerate_next ?_ (F.args_enumerate_next_1 _))))
 show wpAny _ _ (field (.ref e) 2 >>= _) _ _ _
 refine wpAny_bind (wpAny_field he rfl (x:=.ref it) rfl (wpAny_bind ?_))
 unfold Builtin.SmallTypes.nextOf
 unfold sitTy strIterType at hit
 split at hit
 ·refine hit.elim fun o h=>?_
  refine wpAny_bind (wpAny_callSpecial?_slot (name:=Str.ofString "__next__") hit.typeIs F.slot_str_ascii_iterator_next (wpAny_call_entry F.slot_str_ascii_iterator_next hit.typeIs F.entry_str_ascii_iterator_next ?_ (F.args_str_ascii_iterator_next_1 _)))
  show wpAny _ _ (field (.ref it) 0 >>= _) _ _ s
  refine wpAny_bind (wpAny_field h.1 h.2.2 (x:=.str x t) rfl ?_)
  show wpAny _ _ (field (.ref it) 1 >>= _) _ _ s
  refine wpAny_bind (wpAny_field h.1 h.2.2 (x:=.int i 0) rfl ?_)
  simp only [Int.toNat_natCast,hx]
  refine wpAny_bind (wpAny_rule (wpAny_bind (wpAny_setField h.1 h.2.2 (by simp) (wpAny_bind (wpAny_letGo ?_)))))
  have h1:=Heap.get?_update_self (Obj.mapFields (·.setIfInBounds 0 Value.none)) h.1 (Obj.isFreed_of_fields (Obj.data_mapFields h.2.2 _))
  refine stop_raised (A:=A.in1.in1) hh fun e h' hk hT=>?_
  refine wpAny_bind (wpAny_isInstance (T:="StopIteration") (b:=true) hT isSubtype_stop ?_)
  exact wpAny_pure (hQ _ ⟨_,hk _ _ h1⟩ fun b o hb e=>hk _ _ ((Heap.SameBut.update ..).extBut b o hb e))
 ·refine hit.elim fun o h=>?_
  refine wpAny_bind (wpAny_callSpecial?_slot (name:=Str.ofString "__next__") hit.typeIs F.slot_str_iterator_next (wpAny_call_entry F.slot_str_iterator_next hit.typeIs F.entry_str_iterator_next ?_ (F.args_str_iterator_next_1 _)))
  show wpAny _ _ (field (.ref it) 0 >>= _) _ _ s
  refine wpAny_bind (wpAny_field h.1 h.2.2 (x:=.str x t) rfl ?_)
  show wpAny _ _ (field (.ref it) 1 >>= _) _ _ s
  refine wpAny_bind (wpAny_field h.1 h.2.2 (x:=.int i 0) rfl ?_)
  simp only [Int.toNat_natCast,hx]
  refine wpAny_bind (wpAny_rule (wpAny_bind (wpAny_setField h.1 h.2.2 (by simp) (wpAny_bind (wpAny_letGo ?_)))))
  have h1:=Heap.get?_update_self (Obj.mapFields (·.setIfInBounds 0 Value.none)) h.1 (Obj.isFreed_of_fields (Obj.data_mapFields h.2.2 _))
  refine stop_raised (A:=A.in1.in1) hh fun e h' hk hT=>?_
  refine wpAny_bind (wpAny_isInstance (T:="StopIteration") (b:=true) hT isSubtype_stop ?_)
  exact wpAny_pure (hQ _ ⟨_,hk _ _ h1⟩ fun b o hb e=>hk _ _ ((Heap.SameBut.update ..).extBut b o hb e))
end
theorem drawsS {prog:Program} {w:World} {A:Around} (hh:A.handled=none) (it:Addr) (x:Str) (t:Tok):Draws prog w A it [it] x.cps.size (fun i v=>∃ c u,x.cps[i]? = some c∧v = .str ⟨#[c]⟩ u) (fun i h=>h.IsStrIter it (sitTy x) x t i):=by
 unfold sitTy strIterType
 split
 ·exact Draws.strAscii hh it x t
 ·exact Draws.strWide hh it x t
theorem St.set_old {i j:Nat} {c c₀ d:Cell} (hi:σ.get i=some c₀) (h:(σ.set i c).get j=some d):∃ d',σ.get j=some d':=(St.get_set h).elim (fun q=>⟨c₀,q.1 ▸ hi⟩) fun q=>⟨d,q.2⟩
noncomputable def NextAt (X:Ctx) (A:Around) (target:Expr) (i:Nat) (σ:St) (o:Option AV) (σ':St):Prop:=∀ t ρ F s,Alike X A (pyNext (.ref (ρ i))) t→Inv X ρ F σ s→Goes X A ρ F σ s (nextBy t target (.ref (ρ i))) (ROpt o) σ'
theorem next_rit (hA:A.handled=none) (target:Expr) (i:Nat):RunAt σ (eNextRit target i) (NextAt X A target i σ):=RunAt.cellAs asRit_some fun q hx=>RunAt.chk fun ht=>RunAt.cutW fun o=>by
 cases o with
 | some y=>exact RunAt.turn fun hl t ρ F s h I=>nextBy_of h (Goes.to fun Q E hQ=>wpAny_pyNext_range_item (I.atRit hx) hl fun h' hit' hs=>hQ _ _ ρ F ⟨_,rfl,_,rfl⟩ (I.set hx hs.extBut (c':=.rit (q.1 + q.2.2) (q.2.1 - 1) q.2.2) ⟨_,hit',rfl⟩ (s.toks + 1))) fun w s₁ ρ₁ F₁ _ _ _ Q E hQ=>by rw [go_simple ht]; exact wpAny_pure hQ
 | none=>exact RunAt.retIf fun hl t ρ F s h I=>nextBy_of h (Goes.to fun Q E hQ=>rangeEnd hA (I.atRit hx) hl fun h' hk=>hQ _ _ ρ F rfl (I.grow hk s.toks)) fun w s₁ ρ₁ F₁ hn=>absurd rfl hn
theorem stepL_at {i l k:Nat} (hx:σ.get i=some (.liter l k)):RunAt σ (eStepL i l k) fun o σ'=>o ≠ none→∃ k',σ'.get i=some (.liter l k'):=RunAt.cellAs asList_some fun xs h=>RunAt.cutW fun o=>by
 cases o with
 | some y=>exact RunAt.turn fun _ _=>⟨_,St.get_set_self _ hx⟩
 | none=>exact RunAt.turn fun _ hn=>absurd rfl hn
theorem next_it (hA:A.handled=none) (target:Expr) (i:Nat):RunAt σ (eNextIt target i) (NextAt X A target i σ):=RunAt.cellAs asLiter_some fun q hx=>RunAt.chk fun ht=>fun ds o ev' cs e hc t ρ F s h I=>by
 refine nextBy_of h (stepL_ok hA I hx ds o ev' cs e hc) fun w s₁ ρ₁ F₁ hn I₁ st₁ Q E hQ=>?_
 rw [Bool.or_eq_true] at ht
 refine ht.elim (fun ht=>by rw [go_simple ht]; exact wpAny_pure hQ) (onTupleE_ind (P:=fun b t=>b=true→wpAny (model X.prog X.w) A (letOwnedTupleGo t (.ref (ρ i)) w) Q E s₁) (fun elts c p _=>?_) ff)
 rw [← st₁.same i (I.lt hx)]
 exact (stepL_at hx ds o ev' cs e hc hn).elim fun k hk=>ownedGo (I₁.atIt hk).1 hQ
theorem next_en1 {i j l m:Nat} {xs:List AV} {y:AV} {target:Expr} (ht:isTup target=true) (hx:σ.get i=some (.enum j m)) (hj:σ.get j=some (.wl l m)) (hl:σ.get l=some (.list xs)) (hy:xs[m]? = some y) :
  NextAt X A target i σ (some (.tup [.int m,y])) ((σ.set j (.wl l (m + 1))).set i (.enum j (m + 1))):=fun t ρ F s h I Q E hQ=>by
 have hij:i ≠ j:=fun q=>by rw [q] at hx; exact nomatch Option.some.inj (hx.symm.trans hj)
 have hne:=I.ne hx hj hij
 refine (I.atEn hx).elim fun old he=>(I.atL hl).elim fun ws q=>q.elim fun kk q=>(q.2.nth hy).elim fun v hv=>wpAny_bind (h _ _ (fun E₂=>?_) E)
 refine wpAny_pyNext_enum_item he.1 (I.atWl hj).1 ⟨_,q.1,rfl,kk,rfl⟩ (x:=v) ((List.getElem?_toArray ..).trans hv.1) hne fun h' ho hit' hT hsz hk=>?_
 refine onTupleE_ind (P:=fun b t=>b=true→wpAny (model X.prog X.w) A (letOwnedTupleGo t (.ref (ρ i)) (.ref s.heap.objs.size) >>= fun _=>pure (some (.ref s.heap.objs.size))) Q E { s with heap:=h',toks:=s.toks + 1 }) (fun elts c p _=>?_) ff ht
 refine wpAny_bind (wpAny_letOwnedTupleGo_enum ho fun h'' he'' hs''=>wpAny_pure ?_)
 have hk2:∀ b o,b ≠ ρ i→b ≠ ρ j→s.heap.get? b=some o→h''.get? b=some o:=fun b o h1 h2 h3=>(hs''.2 b h1).trans (hk b o h1 h2 h3)
 have hit'':h''.IsListIter (ρ j) (ρ l) (m + 1):=hit'.imp fun o r=>⟨(hs''.2 _ (Ne.symm hne)).trans r.1,r.2⟩
 have r:=I.set2 hx hj hij hk2 (c':=.enum j (m + 1)) (d':=.wl l (m + 1)) ⟨_,he'',_,rfl,he.2⟩ (.ofWl hit'' (I.atWl hj).2) (s.toks + 1) rfl rfl
 have hT'':h''.get? s.heap.objs.size=some (oTup [.int m s.toks,v] 0):=(hs''.2 _ (Nat.ne_of_gt (Heap.lt_size he.1))).trans hT
 have r2:=r.1.freezeOld hT'' fun k c hk=>(St.set_old ((St.get_set_ne _ _ hij).trans hx) hk).elim fun c1 h1=>(St.set_old hj h1).elim fun c2 h2=>I.not0 (Heap.get?_none_of_le (Nat.le_refl _)) h2
 exact hQ _ _ ρ _ ⟨_,rfl,.tup _ [.int m,y] [.int m s.toks,v] 0 (if_pos rfl) ⟨⟨_,rfl⟩,hv.2.mono (Nat.le_refl _) (fun _ _=>rfl) r2.2.sub,rfl⟩⟩ r2.1 (r.2.trans r2.2)
theorem next_en (hA:A.handled=none) (target:Expr) (i:Nat):RunAt σ (eNextEn target i) (NextAt X A target i σ):=RunAt.cellAs asEnum_some fun q hx=>RunAt.chk fun ht=>RunAt.cellAs asWl_some fun w hj=>RunAt.cellAs asList_some fun xs hl=>RunAt.chk fun hk=>RunAt.cutW fun o=>by
 rw [Nat.eq_of_beq_eq_true hk] at hj ⊢
 cases o with
 | some y=>exact RunAt.turn fun hy=>next_en1 ht hx hj hl hy
 | none=>exact RunAt.turn fun hy t ρ F s h I=>(I.atEn hx).elim fun old he=>(I.atL hl).elim fun ws q=>q.elim fun kk q=>nextBy_of h (Goes.to fun Q E hQ=>enumEnd hA he.1 (I.atWl hj).1 q.1 (q.2.none hy) fun h' hlive hk=>hQ _ _ ρ F rfl (I.set hj hk (c':=.any) (hlive.imp fun o h=>⟨h,trivial⟩) s.toks)) fun w s₁ ρ₁ F₁ hn=>absurd rfl hn
theorem next_es1 (hA:A.handled=none) {i j m:Nat} {x:Str} {y:AV} {target:Expr} (ht:isTup target=true) (hx:σ.get i=some (.enum j m)) (hj:σ.get j=some (.sit x m)) (hy:(x.cps[m]?).map (fun c=>AV.str ⟨#[c]⟩)=some y) :
  NextAt X A target i σ (some (.tup [.int m,y])) ((σ.set j (.sit x (m + 1))).set i (.enum j (m + 1))):=fun t ρ F s h I Q E hQ=>by
 have hij:i ≠ j:=fun q=>by rw [q] at hx; exact nomatch Option.some.inj (hx.symm.trans hj)
 have hne:=I.ne hx hj hij
 refine (I.atEn hx).elim fun old he=>(I.atSit hj).elim fun tk0 hit=>(Option.map_eq_some_iff.mp hy).elim fun c hc=>wpAny_bind (h _ _ (fun E₂=>?_) E)
 have hm:m < x.cps.size:=by
  rcases Nat.lt_or_ge m x.cps.size with q | q
  ·exact q
  ·rw [Array.getElem?_eq_none q] at hc; exact noneOf hc.1
 refine wpAny_pyNext_enum_itemD (drawsS (A:=A.in1) hA (ρ j) x tk0) he.1 hit hm hne (fun q=>hne (List.mem_singleton.mp q)) fun v h' tk hv ho hit' hT hsz hk=>?_
 refine hv.elim fun c' hv=>hv.elim fun u hv=>?_
 have hcc:c' = c:=Option.some.inj (hv.1.symm.trans hc.1)
 refine onTupleE_ind (P:=fun b t=>b=true→wpAny (model X.prog X.w) A (letOwnedTupleGo t (.ref (ρ i)) (.ref s.heap.objs.size) >>= fun _=>pure (some (.ref s.heap.objs.size))) Q E { s with heap:=h',toks:=tk + 1 }) (fun elts cc p _=>?_) ff ht
 refine wpAny_bind (wpAny_letOwnedTupleGo_enum ho fun h'' he'' hs''=>wpAny_pure ?_)
 have hk2:∀ b o,b ≠ ρ i→b ≠ ρ j→s.heap.get? b=some o→h''.get? b=some o:=fun b o h1 h2 h3=>(hs''.2 b h1).trans (hk b o h1 h2 h3)
 have hit'':h''.IsStrIter (ρ j) (sitTy x) x tk0 (m + 1):=hit'.imp fun o r=>⟨(hs''.2 _ (Ne.symm hne)).trans r.1,r.2⟩
 have r:=I.set2 hx hj hij hk2 (c':=.enum j (m + 1)) (d':=.sit x (m + 1)) ⟨_,he'',_,rfl,he.2⟩ (hit''.elim fun o q=>⟨o,q.1,q.2.1,tk0,q.2.2⟩) (tk + 1) rfl rfl
 have hT'':h''.get? s.heap.objs.size=some (oTup [.int m tk,v] 0):=(hs''.2 _ (Nat.ne_of_gt (Heap.lt_size he.1))).trans hT
 have r2:=r.1.freezeOld hT'' fun k c hk=>(St.set_old ((St.get_set_ne _ _ hij).trans hx) hk).elim fun c1 h1=>(St.set_old hj h1).elim fun c2 h2=>I.not0 (Heap.get?_none_of_le (Nat.le_refl _)) h2
 exact hQ _ _ ρ _ ⟨_,rfl,.tup _ [.int m,y] [.int m tk,v] 0 (if_pos rfl) ⟨⟨_,rfl⟩,(by rw [← hc.2,← hcc,hv.2]; exact ⟨u,rfl⟩),rfl⟩⟩ r2.1 (r.2.trans r2.2)
theorem next_es (hA:A.handled=none) (target:Expr) (i:Nat):RunAt σ (eNextEs target i) (NextAt X A target i σ):=RunAt.cellAs asEnum_some fun q hx=>RunAt.chk fun ht=>RunAt.cellAs asSit_some fun w hj=>RunAt.chk fun hk=>RunAt.cutW fun o=>by
 rw [Nat.eq_of_beq_eq_true hk] at hj ⊢
 cases o with
 | some y=>exact RunAt.turn fun hy=>next_es1 hA ht hx hj hy
 | none=>exact RunAt.turn fun hy t ρ F s h I=>(I.atEn hx).elim fun old he=>(I.atSit hj).elim fun tk0 hit=>nextBy_of h (Goes.to fun Q E hQ=>enumEndS hA he.1 hit hy fun h' hlive hk=>hQ _ _ ρ F rfl (I.set hj hk (c':=.any) (hlive.imp fun o h=>⟨h,trivial⟩) s.toks)) fun w s₁ ρ₁ F₁ hn=>absurd rfl hn
theorem next_rev (hA:A.handled=none) (target:Expr) (i:Nat):RunAt σ (eNextRev target i) (NextAt X A target i σ):=RunAt.cellAs asRev_some fun q hx=>RunAt.chk fun ht=>RunAt.cellAs asList_some fun xs hl=>RunAt.cutW fun o=>by
 cases o with
 | some y=>exact RunAt.turn fun hy t ρ F s h I=>(I.atL hl).elim fun ws p=>p.elim fun kk p=>(p.2.nth hy.2).elim fun v hv=>nextBy_of h (Goes.to fun Q E hQ=>by
   have hr:=I.atRev hx
   have e:((q.2.toNat:Nat):Int)=q.2:=Int.toNat_of_nonneg hy.1
   refine wpAny_pyNext_rev_item (items:=ws.toArray) (i:=q.2.toNat) (by rw [e]; exact hr.1) ⟨_,p.1,rfl,kk,rfl⟩ (x:=v) (by simpa using hv.1) fun h' hr' hs=>?_
   rw [e] at hr'
   exact hQ _ _ ρ F ⟨_,rfl,hv.2⟩ (I.set hx hs.extBut (c':=.rev q.1 (q.2 - 1)) (hr'.elim fun o q=>⟨o,q.1,⟨q.2.1,q.2.2⟩,hr.2⟩) s.toks)) fun w s₁ ρ₁ F₁ _ _ _ Q E hQ=>by rw [go_simple ht]; exact wpAny_pure hQ
 | none=>exact RunAt.retIf fun hq t ρ F s h I=>nextBy_of h (Goes.to fun Q E hQ=>revEnd hA (hq ▸ (I.atRev hx).1) fun h' hk=>hQ _ _ ρ F rfl (I.grow hk s.toks)) fun w s₁ ρ₁ F₁ hn=>absurd rfl hn
theorem next_ef1 {i j m:Nat} {xs:List AV} {y:AV} {target:Expr} (ht:isTup target=true) (hx:σ.get i=some (.enum j m)) (hj:σ.get j=some (.fit xs m)) (hy:xs[m]? = some y) :
  NextAt X A target i σ (some (.tup [.int m,y])) ((σ.set j (.fit xs (m + 1))).set i (.enum j (m + 1))):=fun t ρ F s h I Q E hQ=>by
 have hij:i ≠ j:=fun q=>by rw [q] at hx; exact nomatch Option.some.inj (hx.symm.trans hj)
 have hne:=I.ne hx hj hij
 refine (I.atEn hx).elim fun old he=>?_
 cases I.atFit hj with | mk b ws kk hit hl ds hF =>
 refine (ds.nth hy).elim fun v hv=>wpAny_bind (h _ _ (fun E₂=>?_) E)
 refine wpAny_pyNext_enum_item he.1 hit ⟨_,hl,rfl,kk,rfl⟩ (x:=v) ((List.getElem?_toArray ..).trans hv.1) hne fun h' ho hit' hT hsz hk=>?_
 refine onTupleE_ind (P:=fun b t=>b=true→wpAny (model X.prog X.w) A (letOwnedTupleGo t (.ref (ρ i)) (.ref s.heap.objs.size) >>= fun _=>pure (some (.ref s.heap.objs.size))) Q E { s with heap:=h',toks:=s.toks + 1 }) (fun elts c p _=>?_) ff ht
 refine wpAny_bind (wpAny_letOwnedTupleGo_enum ho fun h'' he'' hs''=>wpAny_pure ?_)
 have hk2:∀ b o,b ≠ ρ i→b ≠ ρ j→s.heap.get? b=some o→h''.get? b=some o:=fun b o h1 h2 h3=>(hs''.2 b h1).trans (hk b o h1 h2 h3)
 have hit'':h''.IsListIter (ρ j) b (m + 1):=hit'.imp fun o r=>⟨(hs''.2 _ (Ne.symm hne)).trans r.1,r.2⟩
 have r:=I.set2 hx hj hij hk2 (c':=.enum j (m + 1)) (d':=.fit xs (m + 1)) ⟨_,he'',_,rfl,he.2⟩ (.ofFit hit'' hF ds) (s.toks + 1) rfl rfl
 have hT'':h''.get? s.heap.objs.size=some (oTup [.int m s.toks,v] 0):=(hs''.2 _ (Nat.ne_of_gt (Heap.lt_size he.1))).trans hT
 have r2:=r.1.freezeOld hT'' fun k c hk=>(St.set_old ((St.get_set_ne _ _ hij).trans hx) hk).elim fun c1 h1=>(St.set_old hj h1).elim fun c2 h2=>I.not0 (Heap.get?_none_of_le (Nat.le_refl _)) h2
 exact hQ _ _ ρ _ ⟨_,rfl,.tup _ [.int m,y] [.int m s.toks,v] 0 (if_pos rfl) ⟨⟨_,rfl⟩,hv.2.mono (Nat.le_refl _) (fun _ _=>rfl) r2.2.sub,rfl⟩⟩ r2.1 (r.2.trans r2.2)
theorem next_ef (hA:A.handled=none) (target:Expr) (i:Nat):RunAt σ (eNextEf target i) (NextAt X A target i σ):=RunAt.cellAs asEnum_some fun q hx=>RunAt.chk fun ht=>RunAt.cellAs asFit_some fun w hj=>RunAt.chk fun hk=>RunAt.cutW fun o=>by
 rw [Nat.eq_of_beq_eq_true hk] at hj ⊢
 cases o with
 | some y=>exact RunAt.turn fun hy=>next_ef1 ht hx hj hy
 | none =>
  refine RunAt.turn fun hy t ρ F s h I=>(I.atEn hx).elim fun old he=>?_
  cases I.atFit hj with | mk b ws kk hit hl ds hF =>
  exact nextBy_of h (Goes.to fun Q E hQ=>enumEnd hA he.1 hit hl (ds.none hy) fun h' hlive hk=>hQ _ _ ρ F rfl (I.set hj hk (c':=.any) (hlive.imp fun o h=>⟨h,trivial⟩) s.toks)) fun w s₁ ρ₁ F₁ hn=>absurd rfl hn
theorem next_fit (hA:A.handled=none) (target:Expr) (i:Nat):RunAt σ (eNextFit target i) (NextAt X A target i σ):=RunAt.cellAs asFit_some fun q hx=>RunAt.chk fun ht=>RunAt.cutW fun o=>by
 cases o with
 | some y =>
  refine RunAt.turn fun hy t ρ F s h I=>?_
  cases I.atFit hx with | mk b ws kk hit hl ds hF =>
  exact (ds.nth hy).elim fun v hv=>nextBy_of h (Goes.to fun Q E hQ=>wpAny_pyNext_list_item hit (items:=ws.toArray) ⟨_,hl,rfl,kk,rfl⟩ (x:=v) ((List.getElem?_toArray ..).trans hv.1) fun h' hit' hs=>hQ _ _ ρ F ⟨_,rfl,hv.2⟩ (I.set hx hs.extBut (c':=.fit q.1 (q.2 + 1)) (.ofFit hit' hF ds) s.toks)) fun w s₁ ρ₁ F₁ _ _ _ Q E hQ=>by rw [go_simple ht]; exact wpAny_pure hQ
 | none =>
  refine RunAt.turn fun hy t ρ F s h I=>?_
  cases I.atFit hx with | mk b ws kk hit hl ds hF =>
  exact nextBy_of h (Goes.to fun Q E hQ=>listEnd hA hit hl (ds.none hy) fun h' hlive hk=>hQ _ _ ρ F rfl (I.set hx hk (c':=.any) (hlive.imp fun o h=>⟨h,trivial⟩) s.toks)) fun w s₁ ρ₁ F₁ hn=>absurd rfl hn
theorem Sim.walk {t:Sem (Option Value)} {target:Expr} {it:AV} {v:Value} (hA:A.handled=none) (ht:Alike X A (pyNext v) t) (hv:Γ.le (RDen it v)):Sim X A Γ ROpt (eNextOwn target it) (nextBy t target v):=Sim.ofRun fun σ ρ F s I g =>
 onRef_ind (P:=fun y it=>Den σ.n ρ F it v→RunAt σ y fun o σ'=>Goes X A ρ F σ s (nextBy t target v) (ROpt o) σ') (fun i d=>RunAt.mono (C:=NextAt X A target i σ) (RunAt.or (next_rit hA target i) (RunAt.or (next_en hA target i) (RunAt.or (next_es hA target i) (RunAt.or (next_ef hA target i) (RunAt.or (next_rev hA target i) (RunAt.or (next_fit hA target i) (next_it hA target i))))))) fun o σ' h=>(den_ref d).1 ▸ h t ρ F s ((den_ref d).1 ▸ ht) I) (fun _=>RunAt.fail) (hv _ _ _ g)
theorem lookup_filter (f:Str→Bool) (y:Str):∀ m:List (Str × AV),∀ av,(m.filter fun q=>f q.1).lookup y=some av→m.lookup y=some av
 | [],_,h=>h
 | q :: m,av,h=>by
  rw [List.filter_cons] at h
  cases e:f q.1 with
  | true =>
   rw [e,if_pos rfl,List.lookup_cons] at h
   rw [List.lookup_cons]
   cases e2:y == q.1 with
   | true=>rw [e2] at h; exact h
   | false=>rw [e2] at h; exact lookup_filter f y m av h
  | false =>
   rw [e,if_neg Bool.false_ne_true] at h
   have h2:=lookup_filter f y m av h
   rw [List.lookup_cons]
   cases e2:y == q.1 with
   | true=>rw [← eq_of_beq e2] at e; exact absurd h (lookup_gone f e m)
   | false=>exact h2
where lookup_gone (f:Str→Bool) {y:Str} {av:AV} (e:f y=false):∀ m:List (Str × AV),(m.filter fun q=>f q.1).lookup y ≠ some av
 | [],h=>nomatch h
 | q :: m,h=>by
  rw [List.filter_cons] at h
  cases e2:f q.1 with
  | true =>
   rw [e2,if_pos rfl,List.lookup_cons] at h
   cases e3:y == q.1 with
   | true=>rw [← eq_of_beq e3,e] at e2; exact ff e2
   | false=>rw [e3] at h; exact lookup_gone f e m h
  | false=>rw [e2,if_neg Bool.false_ne_true] at h; exact lookup_gone f e m h
theorem Inv.unname (I:Inv X ρ F σ s) {i:Nat} {m:List (Str × AV)} (h:σ.get i=some (.ns m)) (f:Str→Bool):Inv X ρ F (σ.set i (.ns (m.filter fun q=>f q.1))) s∧Stp ρ F σ s ρ F (σ.set i (.ns (m.filter fun q=>f q.1))) s :=
 (I.atNs h).elim fun g q=>I.set h (h':=s.heap) (c':=.ns (m.filter fun q=>f q.1)) (fun _ _ _ e=>e) (.ofNs q.1 fun x av e=>q.2 x av (lookup_filter f x m av e)) s.toks
theorem tidy_ok {N:Nat}:RunAt σ (eTidy N) fun _ σ'=>∀ (ρ₀:Rho) (F₀:Fz) (σ₀:St) (s₀:Shared) (ρ:Rho) (F:Fz) (s:Shared),Inv X ρ F σ s→Stp ρ₀ F₀ σ₀ s₀ ρ F σ s→σ₀.n≤N→(∀ e ∈ X.fr,e.2 < N)→Inv X ρ F σ' s∧Stp ρ₀ F₀ σ₀ s₀ ρ F σ' s:=RunAt.word fun w =>
 onWNorm_ind (P:=fun y _=>RunAt σ y fun _ σ'=>∀ (ρ₀:Rho) (F₀:Fz) (σ₀:St) (s₀:Shared) (ρ:Rho) (F:Fz) (s:Shared),Inv X ρ F σ s→Stp ρ₀ F₀ σ₀ s₀ ρ F σ s→σ₀.n≤N→(∀ e ∈ X.fr,e.2 < N)→Inv X ρ F σ' s∧Stp ρ₀ F₀ σ₀ s₀ ρ F σ' s) (RunAt.st (RunAt.turn fun h ρ₀ F₀ σ₀ s₀ ρ F s I st hN hfr=>⟨I.cut (fun _ _=>rfl) h hfr,st.cut hN⟩)) <|
 onWKeep_ind (P:=fun y _=>RunAt σ y fun _ σ'=>∀ (ρ₀:Rho) (F₀:Fz) (σ₀:St) (s₀:Shared) (ρ:Rho) (F:Fz) (s:Shared),Inv X ρ F σ s→Stp ρ₀ F₀ σ₀ s₀ ρ F σ s→σ₀.n≤N→(∀ e ∈ X.fr,e.2 < N)→Inv X ρ F σ' s∧Stp ρ₀ F₀ σ₀ s₀ ρ F σ' s) (RunAt.ret fun _ _ _ _ _ _ _ I st _ _=>⟨I,st⟩) <|
 onWDrop_ind (P:=fun y _=>RunAt σ y fun _ σ'=>∀ (ρ₀:Rho) (F₀:Fz) (σ₀:St) (s₀:Shared) (ρ:Rho) (F:Fz) (s:Shared),Inv X ρ F σ s→Stp ρ₀ F₀ σ₀ s₀ ρ F σ s→σ₀.n≤N→(∀ e ∈ X.fr,e.2 < N)→Inv X ρ F σ' s∧Stp ρ₀ F₀ σ₀ s₀ ρ F σ' s) (fun i xs=>RunAt.cellAs asNs_some fun m hm=>RunAt.upd (RunAt.st (RunAt.turn fun h ρ₀ F₀ σ₀ s₀ ρ F s I st hN hfr=>⟨(I.unname hm fun y=>!(xs.contains y)).1.cut (fun _ _=>rfl) h hfr,(st.trans (I.unname hm fun y=>!(xs.contains y)).2).cut hN⟩))) RunAt.fail
section
variable (target:Expr) (v:Value) (body:List Stmt) (env:Env)
noncomputable def forTree:Sem Fin:=PySem.standAt target.pos >>= fun _=>nextBy ((pyNext v).onRaise (fun _=>PySem.standAt { target.pos with line:=0 })) target v >>= fun o=>onSome o (fun w=>(assign target env w >>= fun _=>execs body env) >>= fun fl=>(match fl with
 | .next | .cont=>PySem.again (.forLoop target v body [] env)
 | .brk=>pure (.done .next)
 | .ret v=>pure (.done (.ret v)))) (PySem.again (.block [] env))
theorem forTree_eq:forTurn target v body [] env=forTree target v body env:=bind_congr fun _=>(nextBy_eq (PySem.again (.block [] env)) fun w=>assign target env w >>= fun _=>execs body env >>= fun fl=>(match fl with
 | .next | .cont=>PySem.again (.forLoop target v body [] env)
 | .brk=>pure (.done .next)
 | .ret v=>pure (.done (.ret v)))).trans (bind_congr fun o=>congrArg (fun K=>onSome o K (PySem.again (.block [] env))) (funext fun w=>(bind_assoc _ _ _).symm))
end
theorem Sim.forl (S:Sound X r n) (hA:Room X A n) (target:Expr) (it:AV) (itv:Value) (body:List Stmt):CSim X A ((EnvK X ae env).and (RDen it itv)) (eForL X.K r ae target it body) (.forLoop target itv body [] env):=by
 refine CSim.turn (env:=env) (t:=forTurn target itv body [] env) rfl rfl ?_
 rw [forTree_eq]
 refine TSim.standAt ?_
 intro ev b ev' cs e hc ρ F s I g R E hR
 refine EM.bind_use (x:=eNextOwn target it) (f:=fun o=>onSome o (fun v=>EM.bind (EM.bind (eAssign X.K r ae v target) fun _=>r.exs ae body) fun fl=>onLp fl (EM.bind (eTidy ev.1.n) fun _=>r.forl ae target it body) (fun v=>EM.ret (.ret v)) (EM.ret .next)) (EM.ret .next)) e hc fun o ev₁ cs₁ cs₂ e₁ e5 c1 c2=>?_
 refine wpAny_bind (Sim.walk (Γ:=(EnvK X ae env).and (RDen it itv)) hA.2.2.1 (fun Q s h E=>wpAny_onRaise (h _)) (Kn.snd (Kn.le_refl _)) _ _ _ _ e₁ c1 ρ F s I g _ E fun ov s₁ ρ₁ F₁ d I₁ st₁=>?_)
 cases o with
 | none =>
  rw [show ov=none from d]
  exact inj3 e5 fun i1 i2 _=>wpAny_pure ⟨rfl,codeAny_block (wpAny_execs_nil (hR .next s₁ ρ₁ F₁ (i1 ▸ rfl) (i2 ▸ I₁) (i2 ▸ st₁)))⟩
 | some av =>
  refine (show ∃ w,ov=some w∧Den ev₁.1.n ρ₁ F₁ av w from d).elim fun w q=>?_
  rw [q.1]
  refine EM.bind_use (x:=EM.bind (eAssign X.K r ae av target) fun _=>r.exs ae body) (f:=fun fl=>onLp fl (EM.bind (eTidy ev.1.n) fun _=>r.forl ae target it body) (fun v=>EM.ret (.ret v)) (EM.ret .next)) e5 c2 fun fl ev₂ cs₃ cs₄ e₂ e6 c3 c4=>?_
  have one:Sim X A ((EnvK X ae env).and (RDen av w)) RFlow (EM.bind (eAssign X.K r ae av target) fun _=>r.exs ae body) (PySem.assign target env w >>= fun _=>execs body env) :=
   Sim.bind (Sim.assign S hA target (Kn.fst (Kn.le_refl _)) (Kn.snd (Kn.le_refl _))) fun _ _=>(S.exs A hA ae env body).weaken (Kn.fst (Kn.fst (Kn.le_refl _)))
  refine wpAny_bind (one _ _ _ _ e₂ c3 ρ₁ F₁ s₁ I₁ ⟨(EnvK X ae env).mono st₁.le st₁.same st₁.sub g.1,q.2⟩ _ E fun f s₂ ρ₂ F₂ d2 I₂ st₂=>?_)
  have st:=st₁.trans st₂
  have go:∀ (_:EM.bind (eTidy ev.1.n) (fun _=>r.forl ae target it body) ev₂=some (b,ev',cs₄)),wpAny (model X.prog X.w) A (PySem.again (.forLoop target itv body [] env)) (TPost X A R) E s₂:=fun e6=>by
   refine EM.bind_use (x:=eTidy ev.1.n) (f:=fun _=>r.forl ae target it body) e6 c4 fun _ ev₃ cs₅ cs₆ e₃ e7 c5 c6=>?_
   have t:=tidy_ok (X:=X) ev₂.2 _ _ _ e₃ c5 ρ F ev.1 s ρ₂ F₂ s₂ I₂ st (Nat.le_refl _) I.frlt
   exact wpAny_pure ⟨rfl,S.forl A hA ae env target it itv body _ _ _ _ e7 c6 ρ₂ F₂ s₂ t.1 (((EnvK X ae env).and (RDen it itv)).mono t.2.le t.2.same t.2.sub g) R fun f s' ρ' F' a b c=>hR f s' ρ' F' a b (t.2.trans c)⟩
  cases fl with
  | next=>rw [show f = .next from d2]; exact go e6
  | cont=>rw [show f = .cont from d2]; exact go e6
  | brk=>rw [show f = .brk from d2]; exact inj3 e6 fun i1 i2 _=>wpAny_pure (hR .next s₂ ρ₂ F₂ (i1 ▸ rfl) (i2 ▸ I₂) (i2 ▸ st))
  | ret v=>exact (show ∃ w,f = .ret w∧Den _ _ _ v w from d2).elim fun w q=>q.1 ▸ inj3 e6 fun i1 i2 _=>wpAny_pure (hR (.ret w) s₂ ρ₂ F₂ (i1 ▸ ⟨w,rfl,i2 ▸ q.2⟩) (i2 ▸ I₂) (i2 ▸ st))
section
variable (elt target iter:Expr) (scope:Scope) (pos:Pos) (v acc:Value) (env:Env)
noncomputable def compTree:Sem Fin:=PySem.standAt iter.pos >>= fun _=>nextBy (pyNext v) target v >>= fun o=>onSome o (fun w=>assign target env w >>= fun _=>(eval elt env >>= fun x=>call (.builtin "list.append") [acc,x]) >>= fun _=>PySem.again (.compLoop (.ListComp elt [⟨target,iter,[],0⟩] scope pos) 0 v acc env)) (pure (.done .next))
theorem compTree_eq:compTurn (.ListComp elt [⟨target,iter,[],0⟩] scope pos) 0 v acc env=compTree elt target iter scope pos v acc env:=by
 rw [compTurn_list1]
 refine bind_congr fun _=>(nextBy_eq _ _).trans (bind_congr fun o=>congrArg (fun K=>onSome o K (pure (Fin.done .next))) (funext fun w=>bind_congr fun _=>?_))
 rw [bind_assoc,bind_assoc]
 exact bind_congr fun x=>(bind_assoc _ _ _).trans (bind_congr fun _=>pure_bind _ _)
end
theorem Sim.comp (S:Sound X r n) (hA:Room X A n) (elt target iter:Expr) (scope:Scope) (pos:Pos) (it:AV) (itv:Value) (acc:AV) (accv:Value) :
  CSim X A ((EnvK X ae env).and ((RDen it itv).and (RDen acc accv))) (eComp X.K r ae elt target it acc) (.compLoop (.ListComp elt [⟨target,iter,[],0⟩] scope pos) 0 itv accv env):=by
 refine CSim.turn (env:=env) (t:=compTurn (.ListComp elt [⟨target,iter,[],0⟩] scope pos) 0 itv accv env) rfl rfl ?_
 rw [compTree_eq]
 refine TSim.standAt (TSim.bind (Sim.walk hA.2.2.1 (fun Q s h=>h) (Kn.snd (Kn.fst (Kn.le_refl _)))) fun o ov=>?_)
 cases o with
 | none=>exact TSim.know (P:=ov=none) (Kn.snd (Kn.le_refl _)) fun h=>h ▸ TSim.done fun _ _ _ _=>rfl
 | some av =>
  intro ev b ev' cs e hc ρ F s I g
  refine (show ∃ w,ov=some w∧Den _ _ _ av w from g.2).elim fun w q=>?_
  rw [q.1]
  refine TSim.bind (Γ:=((EnvK X ae env).and ((RDen it itv).and (RDen acc accv))).and (RDen av w)) (Sim.assign S hA target (Kn.fst (Kn.fst (Kn.le_refl _))) (Kn.snd (Kn.le_refl _))) (fun _ _=>TSim.bind (R:=RDen) (Sim.bind ((S.ev A hA ae env elt).weaken (Kn.fst (Kn.fst (Kn.fst (Kn.le_refl _))))) fun x xv=>Sim.append [acc,x] _ [accv,xv] fun _ _ _ g=>⟨g.1.1.1.2.2,g.2,rfl⟩) fun _ _=>(TSim.again (S.comp A hA ae env elt target iter scope pos it itv acc accv) rfl).weaken fun _ _ _ g=>g.1.1.1) ev b ev' cs e hc ρ F s I ⟨g.1,q.2⟩
end
noncomputable def freeGo (cells:List (Str × Nat)) (names:List (Str × NameKind)) (acc:List (Str × Nat)):Option (List (Str × Nat)):=names.foldr (fun q k acc=>_root_.cond (q.2 == .free) ((cells.lookup q.1).bind fun i=>k ((q.1,i) :: acc)) (k acc)) some acc
noncomputable def compScope (sc:Scope):Bool:=(sc.kind == .function) && ((sc.names.all fun x=>!(x.2 == .cell)) && (sc.names.all fun x=>!(x.2 == .local) || (sc.names.lookup x.1 == some .local)))
noncomputable def relab (sc:Scope) (ae:AEnv):Scope:={ sc with names:=sc.names.map fun (n,k)=>if (k == .free && ae.scope.kind == .function && ae.scope.names.lookup n == some .cell) then (n,.cell) else (n,k) }
structure ScopeOk (sc:Scope):Prop where
 kind:sc.kind = .function
 cell:∀ x ∈ sc.names,x.2 ≠ .cell
 loc:∀ x ∈ sc.names,x.2 = .local→sc.names.lookup x.1=some .local
theorem compScope_ok {sc:Scope} (h:compScope sc=true):ScopeOk sc:=by
 rw [compScope,Bool.and_eq_true,Bool.and_eq_true,List.all_eq_true,List.all_eq_true] at h
 refine ⟨eq_of_beq h.1,fun x hx e=>?_,fun x hx e=>?_⟩
 ·have:=h.2.1 x hx
  rw [e] at this
  exact ff this
 ·have:=h.2.2 x hx
  rw [e] at this
  exact eq_of_beq this
noncomputable def isLit (it:AV):EM Unit:=onRef it (fun i=>EM.bind (EM.cell i) fun c=>onCLiter c (fun _ _=>EM.ret ()) <| onCEnum c (fun _ _=>EM.ret ()) EM.fail) EM.fail
noncomputable def St.del (σ:St) (L:Nat):St:=⟨σ.n,σ.objs.filter fun p=>!(Nat.beq p.1 L)⟩
noncomputable def delCell (L:Nat):EM Unit:=EM.bind (EM.cellAs asNs L) fun _=>EM.upd fun σ=>σ.del L
noncomputable def eComp1 (r:Rec) (ae:AEnv) (elt target iter:Expr) (sc:Scope):EM (AV × Nat):=_root_.cond (compScope sc && plainE iter)
 (EM.bind (EM.opt (freeGo ae.cells sc.names [])) fun cl=>EM.bind (r.ev ae iter) fun v=>EM.bind (eIterOf v) fun it=>EM.bind (eNewList []) fun acc=>EM.bind (EM.push (.ns [])) fun L=>EM.bind (isLit it) fun _ =>
  EM.bind (r.comp ⟨relab sc ae,L,cl,.none,ae.frm⟩ elt target it acc) fun fl=>onFl fl (EM.ret (acc,L)) (fun _=>EM.fail) EM.fail) EM.fail
noncomputable def eListCompX (x:EM (AV × Nat)):EM AV:=EM.bind x fun p=>EM.bind (delCell p.2) fun _=>EM.ret p.1
noncomputable def eListComp (r:Rec) (ae:AEnv) (elt target iter:Expr) (sc:Scope):EM AV:=eListCompX (eComp1 r ae elt target iter sc)
noncomputable def swapB (ae:AEnv) (y:Str) (yp pos:Pos) (sc:Scope):Bool:=(ae.scope.kind == .function) && (ae.scope.names.lookup y == some .local) && (yp.line == pos.line) && !(sc.names.any fun (n,k)=>n == y && (k == .local || k == .cell))
noncomputable def eAssignCompX (ae:AEnv) (y:Str) (yp:Pos) (x:EM (AV × Nat)) (sc:Scope) (pos:Pos):EM AFlow:=_root_.cond (swapB ae y yp pos sc)
 (EM.bind x fun p=>EM.bind (eBind ae y p.1) fun _=>EM.bind (delCell p.2) fun _=>EM.ret .next)
 (EM.bind (eListCompX x) fun v=>EM.bind (eBind ae y v) fun _=>EM.ret .next)
noncomputable def eAssignComp (r:Rec) (ae:AEnv) (y:Str) (yp:Pos) (elt target iter:Expr) (sc:Scope) (pos:Pos):EM AFlow:=eAssignCompX ae y yp (eComp1 r ae elt target iter sc) sc pos
noncomputable def eExecs (one:Stmt→EM AFlow) (ss:List Stmt):EM AFlow:=ss.foldr (fun st k=>EM.bind (one st) fun fl=>onFl fl k (fun v=>EM.ret (.ret v)) (EM.ret fl)) (EM.ret .next)
section
variable {X:Ctx} {A:Around} {ρ:Rho} {F:Fz} {σ:St} {s:Shared} {Γ:Kn} {r:Rec} {n:Nat} {ae:AEnv} {env:Env}
theorem del_ne {L i:Nat} {c:Cell} (h:(σ.del L).get i=some c):i ≠ L∧σ.get i=some c:=by
 have e:(σ.del L).get i=_:=filter_look (fun i=>!(Nat.beq i L)) i σ.objs
 rw [e,beq_dec] at h
 cases q:i == L with
 | true=>rw [q] at h; exact noneOf h
 | false=>rw [q] at h; exact ⟨ne_of_beq_false q,h⟩
theorem Inv.forget {ρ':Rho} {F':Fz} {σ':St} {s':Shared} {L:Nat} {c:Cell} (I:Inv X ρ' F' σ' s') (st:Stp ρ F σ s ρ' F' σ' s') (hc:σ'.get L=some c) (hL:σ.n≤L) (hfr:∀ e ∈ X.fr,e.2 < σ.n) {h':Heap} (hs:Heap.SameBut (ρ' L) s'.heap h') :
  Inv X ρ' F' (σ'.del L) { s' with heap:=h' }∧Stp ρ F σ s ρ' F' (σ'.del L) { s' with heap:=h' }:=by
 have hnew:s.heap.get? (ρ' L)=none:=(st.new _ _ hc).elim (fun h=>absurd h.1 (Nat.not_lt.mpr hL)) fun h=>h
 have keep:∀ b o,b ≠ ρ' L→s'.heap.get? b=some o→h'.get? b=some o:=fun b o hb e=>(hs.2 b hb).trans e
 have old:∀ x o,s.heap.get? x=some o→x ≠ ρ' L:=fun x o e h=>noneOf (hnew.symm.trans (h ▸ e))
 have J:=I.filt (ρ':=ρ') (f:=fun i=>!(Nat.beq i L)) (N:=σ'.n) (fun _ _=>rfl) (fun i c _ h=>I.ids i c h) (fun _ _ _ _ _ h=>h) fun e he=>by rw [beq_dec,beq_false_of_ne (Nat.ne_of_lt (Nat.lt_of_lt_of_le (hfr e he) hL))]; rfl
 have st':=st.filt (f:=fun i=>!(Nat.beq i L)) (N:=σ'.n) st.le
 exact ⟨⟨J.ids,J.inj,fun i c h=>(J.cell i c h).keep fun o e=>keep _ _ (I.ne (del_ne h).2 hc (del_ne h).1) e,J.off,fun a o e=>keep _ _ (fun h=>I.notF e hc h.symm) (I.froz a o e),J.base,J.drawn,J.os,J.gens,J.frs⟩,
  ⟨st'.le,st'.same,st'.sub,fun x o e hx=>keep _ _ (old x o e) (st'.keep x o e hx),fun x o e=>(st'.live x o e).imp fun o' e'=>keep _ _ (old x o e) e',st'.new,st'.gens⟩⟩
theorem RunAt.all {α β:Type} {x:EM β} {C:α→β→St→Prop} (h:∀ a,RunAt σ x (C a)):RunAt σ x fun b σ'=>∀ a,C a b σ':=fun ds b ev' cs e hc a=>h a ds b ev' cs e hc
theorem Sim.at {α β:Type} {x:EM β} {t:Sem α} {R:β→α→Kn} (h:Sim X A Γ R x t):RunAt σ x fun b σ'=>∀ ρ F s,Inv X ρ F σ s→Γ.p σ.n ρ F→Goes X A ρ F σ s t (R b) σ':=fun ds b ev' cs e hc=>h (σ,ds) b ev' cs e hc
theorem CSim.at {x:EM AFlow} {c:Code} (h:CSim X A Γ x c):RunAt σ x fun b σ'=>∀ ρ F s,Inv X ρ F σ s→Γ.p σ.n ρ F→∀ R:Result→Shared→Prop,(∀ f s' ρ' F',(RFlow b f).p σ'.n ρ' F'→Inv X ρ' F' σ' s'→Stp ρ F σ s ρ' F' σ' s'→R (.ok f) s')→codeAny (model X.prog X.w) A c R s:=fun ds b ev' cs e hc=>h (σ,ds) b ev' cs e hc
theorem map_look {x:Str} {i:Nat}:∀ {l:List (Str × Nat)},l.lookup x=some i→(mapCl ρ l).lookup x=some (ρ i)
 | [],h=>noneOf h
 | p :: l,h=>by
  rw [List.lookup_cons] at h
  show List.lookup x ((p.1,ρ p.2) :: mapCl ρ l)=_
  rw [List.lookup_cons]
  cases e:x == p.1 with
  | true=>rw [e] at h; exact congrArg (fun j=>some (ρ j)) (Option.some.inj h)
  | false=>rw [e] at h; exact map_look h
theorem closure_go (hcells:env.cells=mapCl ρ ae.cells):∀ (names:List (Str × NameKind)) (acc cl:List (Str × Nat)),freeGo ae.cells names acc=some cl →
  forIn names (mapCl ρ acc) (fun (x:Str × NameKind) (cs:List (Str × Addr))=>(do
   if x.2 == .free then pure (.yield ((x.1,← PySem.cellOf env x.1) :: cs)) else pure (.yield cs):Sem (ForInStep (List (Str × Addr)))))=pure (mapCl ρ cl)
 | [],acc,cl,h=>by
  rw [List.forIn_nil,Option.some.inj h]
 | q :: r,acc,cl,h=>by
  rw [List.forIn_cons]
  have e:freeGo ae.cells (q :: r) acc=_root_.cond (q.2 == .free) ((ae.cells.lookup q.1).bind fun i=>freeGo ae.cells r ((q.1,i) :: acc)) (freeGo ae.cells r acc):=rfl
  rw [e] at h
  cases hk:q.2 == .free with
  | false =>
   rw [hk] at h
   rw [if_neg Bool.false_ne_true,pure_bind]
   exact closure_go hcells r acc cl h
  | true =>
   rw [hk] at h
   rw [if_pos rfl]
   refine (Option.bind_eq_some_iff.mp h).elim fun i p=>?_
   have e2:PySem.cellOf env q.1=pure (ρ i):=by
    unfold PySem.cellOf
    rw [hcells,map_look p.1]
   rw [e2,pure_bind,pure_bind]
   exact closure_go hcells r ((q.1,i) :: acc) cl p.2
theorem closure_eq {sc:Scope} {cl:List (Str × Nat)} (hcells:env.cells=mapCl ρ ae.cells) (h:freeGo ae.cells sc.names []=some cl):closureFor sc env=pure (mapCl ρ cl):=by
 unfold closureFor
 have:=closure_go hcells sc.names [] cl h
 exact (congrArg (fun x=>x >>= fun cs=>pure cs) this).trans (pure_bind _ _)
theorem freeGo_lt {N:Nat} {cells:List (Str × Nat)} (hc:∀ p ∈ cells,p.2 < N):∀ (names:List (Str × NameKind)) (acc cl:List (Str × Nat)),freeGo cells names acc=some cl→(∀ p ∈ acc,p.2 < N)→∀ p ∈ cl,p.2 < N
 | [],acc,cl,h,ha=>Option.some.inj h ▸ ha
 | q :: r,acc,cl,h,ha=>by
  have e:freeGo cells (q :: r) acc=_root_.cond (q.2 == .free) ((cells.lookup q.1).bind fun i=>freeGo cells r ((q.1,i) :: acc)) (freeGo cells r acc):=rfl
  rw [e] at h
  cases hk:q.2 == .free with
  | false=>rw [hk] at h; exact freeGo_lt hc r acc cl h ha
  | true =>
   rw [hk] at h
   refine (Option.bind_eq_some_iff.mp h).elim fun i p=>freeGo_lt hc r _ cl p.2 fun z hz=>?_
   exact (List.mem_cons.mp hz).elim (fun e=>e ▸ hc _ (mem_of_assoc p.1)) (ha z)
theorem relab_eq {sc:Scope} (h:env.scope=ae.scope):relabel sc env=relab sc ae:=by
 unfold relabel relab Env.kindOf
 rw [h]
noncomputable def CompW (X:Ctx) (A:Around) (env:Env) (elt target iter:Expr) (sc:Scope) (cl:List (Str × Addr)) (pos:Pos) (E:Value→Shared→Prop) (R:Value→Env→Result→Shared→Prop) (s:Shared):Prop :=
 wpAny (model X.prog X.w) A (eval iter env) (fun x s₁=>wpAny (model X.prog X.w) A (PySem.pyIter x) (fun it s₂=>wpAny (model X.prog X.w) A (PySem.newList []) (fun acc s₃ =>
   wpAny (model X.prog X.w) A (newFunctionEnv sc env.globals cl [] env.qual none .none (some env)) (fun cenv s₄ =>
    codeAny (model X.prog X.w) A (.compStart (.ListComp elt [⟨target,iter,[],0⟩] sc pos) 0 it acc { cenv with scope:=relabel sc env }) (R acc cenv) s₄) E s₃) E s₂) E s₁) E s
structure Done1 (X:Ctx) (ρ:Rho) (F:Fz) (σ:St) (s:Shared) (p:AV × Nat) (σ':St) (accv:Value) (cenv:Env) (s':Shared) (ρ':Rho) (F':Fz):Prop where
 den:Den σ'.n ρ' F' p.1 accv
 inv:Inv X ρ' F' σ' s'
 stp:Stp ρ F σ s ρ' F' σ' s'
 lo:σ.n≤p.2
 hi:p.2 < σ'.n
 loc:cenv.locals=ρ' p.2
structure Comp1 (X:Ctx) (A:Around) (ae:AEnv) (env:Env) (elt target iter:Expr) (sc:Scope) (pos:Pos) (σ:St) (p:AV × Nat) (σ':St):Prop where
 scope:ScopeOk sc
 it:plainE iter=true
 go:∀ ρ F s,Inv X ρ F σ s→EnvOk X ae env σ.n ρ→∃ cl,closureFor sc env=pure cl∧∀ E R,(∀ accv cenv f s' ρ' F',Done1 X ρ F σ s p σ' accv cenv s' ρ' F'→R accv cenv (.ok f) s')→CompW X A env elt target iter sc cl pos E R s
noncomputable def Selfs (X:Ctx) (A:Around) (σ:St) (it:AV):Prop:=∃ i,it = .ref i∧∀ ρ F s,Inv X ρ F σ s→∀ (Q:Value→Shared→Prop) (E:Value→Shared→Prop),Q (.ref (ρ i)) s→wpAny (model X.prog X.w) A (PySem.pyIter (.ref (ρ i))) Q E s
theorem isLit_ok {it:AV}:RunAt σ (isLit it) fun _ σ'=>σ' = σ∧Selfs X A σ it :=
 onRef_ind (P:=fun y it=>RunAt σ y fun _ σ'=>σ' = σ∧Selfs X A σ it) (fun i=>RunAt.cell fun c=>onCLiter_ind (P:=fun y c=>σ.get i=some c→RunAt σ y fun _ σ'=>σ' = σ∧Selfs X A σ (.ref i)) (fun l k h=>RunAt.ret ⟨rfl,i,rfl,fun ρ F s I Q E q=>wpAny_pyIter_listiter (l:=ρ l) (i:=k) ⟨_,(I.atIt h).1,rfl,rfl⟩ q⟩) <|
  onCEnum_ind (P:=fun y c=>σ.get i=some c→RunAt σ y fun _ σ'=>σ' = σ∧Selfs X A σ (.ref i)) (fun j k h=>RunAt.ret ⟨rfl,i,rfl,fun ρ F s I Q E q=>(I.atEn h).elim fun old he=>wpAny_pyIter_enum he.1 q⟩) fun _=>RunAt.fail) RunAt.fail
theorem comp1_ok (S:Sound X r n) (hA:Room X A n) (elt target iter:Expr) (sc:Scope) (pos:Pos):RunAt σ (eComp1 r ae elt target iter sc) (Comp1 X A ae env elt target iter sc pos σ):=by
 refine cond_ind (P:=fun x=>RunAt σ x (Comp1 X A ae env elt target iter sc pos σ)) (fun hcs=>?_) RunAt.fail
 rw [Bool.and_eq_true] at hcs
 have K:=compScope_ok hcs.1
 refine RunAt.opt fun cl hfree=>RunAt.bind (Sim.at (S.ev A hA ae env iter)) fun v σ₁ c1=>RunAt.bind (RunAt.all fun vv=>Sim.at (X:=X) (A:=A) (Sim.pyIter (Γ:=RDen v vv) (Kn.le_refl _))) fun it σ₂ c2=>RunAt.bind (Sim.at (X:=X) (A:=A) (Sim.newList (Γ:=Kn.top) (xs:=[]) (vs:=[]) fun _ _ _ _=>rfl)) fun acc σ₃ c3=>RunAt.push (RunAt.stay (isLit_ok (X:=X) (A:=A)) fun _ hl=>?_)
 refine hl.elim fun i hl=>?_
 refine RunAt.bind (RunAt.all fun itv=>RunAt.all fun accv=>RunAt.all fun cenv=>CSim.at (S.comp A hA ⟨relab sc ae,σ₃.n,cl,.none,ae.frm⟩ cenv elt target iter sc pos it itv acc accv)) fun fl σ₆ c6=>?_
 cases fl with
 | next =>
  refine RunAt.ret ⟨K,hcs.2,fun ρ F s I g=>⟨_,closure_eq g.cells hfree,fun E R hR=>?_⟩⟩
  have hcl:∀ p ∈ cl,p.2 < σ.n:=freeGo_lt g.cl sc.names [] cl hfree fun p hp=>nomatch hp
  refine c1 ρ F s I g _ E fun vv s₁ ρ₁ F₁ d1 I₁ st₁=>c2 vv ρ₁ F₁ s₁ I₁ d1 _ E fun itv s₂ ρ₂ F₂ d2 I₂ st₂=>c3 ρ₂ F₂ s₂ I₂ trivial _ E fun accv s₃ ρ₃ F₃ d3 I₃ st₃=>?_
  refine wpAny_newFunctionEnv K.cell (fun y hy=>nomatch hy) (fun h' hn hsb=>?_) K.kind
  have r₄:=I₃.push (a:=s₃.heap.objs.size) (c:=.ns []) (Heap.get?_none_of_le (Nat.le_refl _)) (fun bb oo ee=>hsb.extBut bb oo (Nat.ne_of_lt (Heap.lt_size ee)) (Heap.get?_push_of_some _ ee)) (.ofNs hn fun y av h=>noneOf h) (s₃.toks + ([]:List (Str × Value)).length)
  have st:=((st₁.trans st₂).trans st₃).trans r₄.2
  have g':EnvOk X ae env (σ₃.push (.ns [])).n (ρ₃.put σ₃.n s₃.heap.objs.size):=(EnvK X ae env).mono st.le st.same st.sub g
  have gl:env.globals=mainGlobals:=g'.gl
  have bi:env.builtins=builtinsNs:=g'.bi
  have fr:=g'.fr
  have fl:=g'.fl
  have tp:=g'.top
  have d3':=Den.step d3 r₄.2
  have d2':=Den.step d2 (st₃.trans r₄.2)
  have gE:EnvOk X ⟨relab sc ae,σ₃.n,cl,.none,ae.frm⟩ { newEnv sc s₃.heap.objs.size env.globals (mapCl ρ cl) env.qual none .none (some env) env.builtins with scope:=relabel sc env } (σ₃.push (.ns [])).n (ρ₃.put σ₃.n s₃.heap.objs.size) :=
   ⟨relab_eq g.sc,K.kind,(Rho.put_self _ _ _).symm,Nat.lt_succ_self _,(mapCl_eq fun p hp=>st.same _ (hcl p hp)).symm,(fun p hp=>Nat.lt_of_lt_of_le (hcl p hp) st.le),gl,bi,fr,fl,tp,.inl rfl⟩
  have loop:=c6 itv accv _ _ _ _ r₄.1 ⟨gE,d2',d3'⟩ (R accv (newEnv sc s₃.heap.objs.size env.globals (mapCl ρ cl) env.qual none .none (some env) env.builtins)) fun f s' ρ' F' hf I₆ st₆=>hR accv _ f s' ρ' F' ⟨Den.step d3' st₆,I₆,st.trans st₆,Nat.le_trans st₁.le (Nat.le_trans st₂.le st₃.le),Nat.lt_of_lt_of_le (Nat.lt_succ_self _) st₆.le,((st₆.same _ (Nat.lt_succ_self _)).trans (Rho.put_self _ _ _)).symm⟩
  refine codeAny_compStart_list loop ?_
  rw [hl.1] at d2'
  have e2:=(den_ref d2').1
  rw [e2] at loop ⊢
  exact hl.2 _ _ _ r₄.1 _ _ loop
 | _=>exact RunAt.fail
theorem RunAt.del {γ:Type} {D:γ→St→Prop} {L:Nat} {f:Unit→EM γ} (h:∀ m,σ.get L=some (.ns m)→RunAt (σ.del L) (f ()) D):RunAt σ (EM.bind (delCell L) f) D :=
 RunAt.bind (C:=fun _ σ₁=>(∃ m,σ.get L=some (.ns m))∧σ₁=σ.del L) (RunAt.cellAs asNs_some fun m hm=>RunAt.updE ⟨⟨m,hm⟩,rfl⟩) fun _ σ₁ q=>q.1.elim fun m hm=>q.2 ▸ h m hm
theorem Sim.listCompX {x:EM (AV × Nat)} {elt target iter:Expr} {sc:Scope} {pos:Pos} (h1:∀ σ,RunAt σ x (Comp1 X A ae env elt target iter sc pos σ)):SimE X A ae env (eListCompX x) (.ListComp elt [⟨target,iter,[],0⟩] sc pos):=Sim.ofRun fun σ ρ F s I g=>RunAt.bind (h1 σ) fun p σ₁ c=>RunAt.del fun m hm=>RunAt.ret fun Q E hQ=>(c.go ρ F s I g).elim fun cl gc =>
 wpAny_comprehension_free (use:=none) rfl (notSet_folds c.it env) gc.1 c.scope.kind c.scope.loc (gc.2 E (fun acc cenv r s'=>compPost (model X.prog X.w) A E none Q acc cenv.locals r s') fun accv cenv f s' ρ' F' q=>(q.inv.atNs hm).elim fun fn hn=>⟨fn,q.loc ▸ hn.1,fun h' hs=>by
  have r:=q.inv.forget q.stp hm q.lo I.frlt (q.loc ▸ hs)
  exact hQ accv _ ρ' F' q.den r.1 r.2⟩)
theorem Sim.listComp (S:Sound X r n) (hA:Room X A n) (elt target iter:Expr) (sc:Scope) (pos:Pos):SimE X A ae env (eListComp r ae elt target iter sc) (.ListComp elt [⟨target,iter,[],0⟩] sc pos):=Sim.listCompX fun σ=>comp1_ok S hA elt target iter sc pos
theorem Sim.assignCompX {x:EM (AV × Nat)} {elt target iter:Expr} {sc:Scope} {pos:Pos} (h1:∀ σ,RunAt σ x (Comp1 X A ae env elt target iter sc pos σ)) (y:Str) (yp p:Pos):SimS X A ae env (eAssignCompX ae y yp x sc pos) (.Assign [.Name y yp] (.ListComp elt [⟨target,iter,[],0⟩] sc pos) p):=by
 refine Sim.know (P:=swapsWith (.ListComp elt [⟨target,iter,[],0⟩] sc pos) (some (.Name y yp)) p.line env=pure (swapB ae y yp pos sc)) (fun _ _ _ g=>?_) fun hsw=>?_
 ·show (pure _:Sem Bool)=_
  unfold swapB Env.blockKind Env.kindOf
  rw [EnvOk.sc g,EnvOk.fn g]
  rfl
 unfold eAssignCompX
 cases hb:swapB ae y yp pos sc with
 | false =>
  rw [hb] at hsw
  rw [exec_Assign_Name env y yp _ p hsw]
  show Sim X A (EnvK X ae env) RFlow (EM.bind (eListCompX x) fun v=>EM.bind (eBind ae y v) fun _=>EM.ret .next) _
  exact Sim.standAt (Sim.bind (Sim.listCompX h1) fun a v=>Sim.standAt (Sim.bind (Sim.bindName (y:=y) (Kn.fst (Kn.le_refl (EnvK X ae env))) (Kn.snd (Kn.le_refl (RDen a v)))) fun _ _=>Sim.ret (b:=AFlow.next) (a:=Flow.next) (R:=RFlow) fun _ _ _ _=>rfl))
 | true =>
  rw [hb] at hsw
  rw [exec_Assign_Name_used y yp _ p hsw]
  show Sim X A (EnvK X ae env) RFlow (EM.bind x fun p=>EM.bind (eBind ae y p.1) fun _=>EM.bind (delCell p.2) fun _=>EM.ret .next) _
  refine Sim.ofRun fun σ ρ F s I g=>RunAt.bind (h1 σ) fun q σ₁ c=>RunAt.bind (RunAt.all fun accv=>Sim.at (X:=X) (A:=A) (Sim.bindName (y:=y) (Γ:=(EnvK X ae env).and (RDen q.1 accv)) (Kn.fst (Kn.le_refl _)) (Kn.snd (Kn.le_refl _)))) fun _ σ₂ c2=>RunAt.del fun m hm=>RunAt.ret fun Q E hQ=>?_
  refine wpAny_bind (wpAny_standAt (wpAny_bind ?_))
  show wpAny _ _ (comprehension (.ListComp elt [⟨target,iter,[],0⟩] sc pos) sc env (firstIterPos [⟨target,iter,[],0⟩] pos) (PySem.newList []) (firstAsync [⟨target,iter,[],0⟩]) (firstIter [⟨target,iter,[],0⟩] env) (some (PySem.assign (.Name y yp) env)) >>= fun _=>pure ()) _ _ s
  refine wpAny_bind ((c.go ρ F s I g).elim fun cl gc=>wpAny_comprehension_free (use:=some (PySem.assign (.Name y yp) env)) (g:=⟨target,iter,[],0⟩) (gs:=[]) rfl (notSet_folds c.it env) gc.1 c.scope.kind c.scope.loc (gc.2 E (fun acc cenv r s'=>compPost (model X.prog X.w) A E (some (PySem.assign (.Name y yp) env)) _ acc cenv.locals r s') fun accv cenv f s' ρ' F' q=>?_))
  show wpAny _ A (PySem.assign (.Name y yp) env accv) _ E s'
  refine wpAny_bind (wpAny_standAt (c2 accv ρ' F' s' q.inv ⟨(EnvK X ae env).mono q.stp.le q.stp.same q.stp.sub g,q.den⟩ _ E fun _ s'' ρ'' F'' _ I'' st''=>(I''.atNs hm).elim fun fn hn=>?_))
  have hl:=q.loc.trans (st''.same _ q.hi).symm
  refine ⟨fn,hl ▸ hn.1,fun h' hs=>wpAny_pure (wpAny_pure ?_)⟩
  have r:=I''.forget (q.stp.trans st'') hm q.lo I.frlt (hl ▸ hs)
  exact hQ _ _ ρ'' F'' rfl r.1 r.2
theorem Sim.assignComp (S:Sound X r n) (hA:Room X A n) (y:Str) (yp p:Pos) (elt target iter:Expr) (sc:Scope) (pos:Pos):SimS X A ae env (eAssignComp r ae y yp elt target iter sc pos) (.Assign [.Name y yp] (.ListComp elt [⟨target,iter,[],0⟩] sc pos) p):=Sim.assignCompX (fun σ=>comp1_ok S hA elt target iter sc pos) y yp p
theorem Sim.execs {one:Stmt→EM AFlow} (h1:∀ st,SimS X A ae env (one st) st):∀ ss:List Stmt,Sim X A (EnvK X ae env) RFlow (eExecs one ss) (execs ss env)
 | []=>Sim.ret fun _ _ _ _=>rfl
 | st :: rest=>by
  rw [execs_cons]
  show Sim X A (EnvK X ae env) RFlow (EM.bind (one st) fun fl=>onFl fl (eExecs one rest) (fun v=>EM.ret (.ret v)) (EM.ret fl)) _
  refine Sim.bind (h1 st) fun fl f=>?_
  have ih:=Sim.execs h1 rest
  cases fl with
  | next=>exact Sim.know (P:=f = .next) (Kn.snd (Kn.le_refl _)) fun h=>by rw [h]; exact ih.weaken (Kn.fst (Kn.le_refl _))
  | ret v =>
   refine Sim.ofRun fun σ ρ F s I g=>RunAt.ret ((show ∃ w,f = .ret w∧Den σ.n ρ F v w from g.2).elim fun w q=>?_)
   rw [q.1]
   exact Goes.now I ⟨w,rfl,q.2⟩
  | brk=>exact Sim.know (P:=f = .brk) (Kn.snd (Kn.le_refl _)) fun h=>by rw [h]; exact Sim.ret fun _ _ _ _=>rfl
  | cont=>exact Sim.know (P:=f = .cont) (Kn.snd (Kn.le_refl _)) fun h=>by rw [h]; exact Sim.ret fun _ _ _ _=>rfl
end
noncomputable def fmax (κ:Rho) (σ:St) (s:Shared):Fz:=fun a=>@ite _ (∃ i c,σ.get i=some c∧κ i=a) (Classical.propDecidable _) none (s.heap.get? a)
section
variable {X:Ctx} {A:Around} {ρ κ:Rho} {F:Fz} {σ:St} {s:Shared}
theorem fmax_in {i:Nat} {c:Cell} (h:σ.get i=some c):fmax κ σ s (κ i)=none:=if_pos ⟨i,c,h,rfl⟩
theorem fmax_out {a:Addr} (h:∀ i c,σ.get i=some c→κ i ≠ a):fmax κ σ s a=s.heap.get? a:=if_neg fun q=>q.elim fun i q=>q.elim fun c q=>h i c q.1 q.2
theorem fmax_at {a:Addr} {o:Obj} (h:fmax κ σ s a=some o):s.heap.get? a=some o :=
 (Classical.em (∃ i c,σ.get i=some c∧κ i=a)).elim (fun q=>q.elim fun i q=>q.elim fun c q=>noneOf ((fmax_in (κ:=κ) (s:=s) q.1).symm.trans (q.2 ▸ h))) fun q=>(fmax_out fun i c h1 h2=>q ⟨i,c,h1,h2⟩).symm.trans h
theorem Inv.max (I:Inv X ρ F σ s):Inv X ρ (fmax ρ σ s) σ s∧Stp ρ F σ s ρ (fmax ρ σ s) σ s :=
 I.still (fun a o e=>(fmax_out fun i c h=>I.notF e h).trans (I.froz a o e)) (fun a o e=>fmax_at e) (fun i c h=>fmax_in h) (fun _ _ e=>e) rfl rfl I.gens fun _ _ e=>e
noncomputable def AtH (X:Ctx) (κ:Rho) (σ:St) (s:Shared):Prop:=Inv X κ (fmax κ σ s) σ s
theorem Inv.withGens (I:Inv X ρ F σ s) {g:Array GenState} (h:AllBare g):Inv X ρ F σ { s with gens:=g }:=⟨I.ids,I.inj,I.cell,I.off,I.froz,I.base,I.drawn,I.os,h,I.frs⟩
theorem AtH.withGens (I:AtH X κ σ s) {g:Array GenState} (h:AllBare g):AtH X κ σ { s with gens:=g }:=Inv.withGens I h
noncomputable def noG (s:Shared):Shared:={ s with gens:=#[] }
theorem Stp.noG {ρ':Rho} {F':Fz} {σ':St} {s':Shared} (st:Stp ρ F σ s ρ' F' σ' s'):Stp ρ F σ (noG s) ρ' F' σ' (Mine.noG s'):=⟨st.le,st.same,st.sub,st.keep,st.live,st.new,fun i x e=>noneOf e⟩
theorem Stp.ofNoG {ρ':Rho} {F':Fz} {σ':St} {s':Shared} (st:Stp ρ F σ (Mine.noG s) ρ' F' σ' (Mine.noG s')) (hg:∀ (i:Nat) x,s.gens[i]? = some x→s'.gens[i]? = some x):Stp ρ F σ s ρ' F' σ' s':=⟨st.le,st.same,st.sub,st.keep,st.live,st.new,hg⟩
end
noncomputable def eCutTo (N L:Nat):EM Unit:=EM.st fun σ=>EM.bind (EM.turn (∀ p ∈ (σ.cut N).objs,UndC N p.2) (fun σ=>σ.cut N) ()) fun _=>EM.bind (EM.cellAs asNs L) fun _=>EM.ret ()
section
variable (r:Rec) (t:GText) (gae:AEnv) (f:Nat)
noncomputable def gSegs:EM (Option AV) × EM (Option AV):=Nat.rec (motive:=fun _=>EM (Option AV) × EM (Option AV)) (EM.fail,EM.fail) (fun _ p =>
 (eBr (r.tst gae t.test1) p.2 (EM.ret none),eBr (r.tst gae t.test2) (EM.bind (r.ev gae t.item) fun v=>EM.ret (some v)) (EM.bind (r.exs gae t.rest) fun fl=>onFl fl p.1 (fun _=>EM.fail) EM.fail))) f
noncomputable def gSeg1:EM (Option AV):=(gSegs r t gae f).1
noncomputable def gSeg2:EM (Option AV):=(gSegs r t gae f).2
noncomputable def gSeg0:EM (Option AV):=EM.bind (r.exs gae t.pre) fun fl=>onFl fl (gSeg1 r t gae f) (fun _=>EM.fail) EM.fail
end
section
variable {X:Ctx} {A:Around} {ρ κ:Rho} {F:Fz} {σ:St} {s:Shared}
variable {R:GenEnd} {Y:Protocol} {n:Nat} {s₀:Shared} {σ₀:St} {r:Rec} {m:Nat} {t:GText} {gae:AEnv} {ge:Env}
noncomputable def RoomO (l:List Env) (A:Around) (m:Nat):Prop:=A.depth + 3 + 4 * m < recursionLimit∧A.units + 21 + 40 * m < cLine∧A.handled=none∧A.guards=some []∧A.frames=some l
structure GSide (X:Ctx) (r:Rec) (m:Nat) (A:Around) (t:GText) (gae:AEnv) (ge:Env):Prop where
 S:Sound X r m
 co:ge.scope.isCoroutine=false
 fn:ge.scope.kind = .function
 room:∃ l,RoomO l A m∧X.fr.map (·.1)=ge :: l
noncomputable abbrev Mo (X:Ctx):Model:=model X.prog X.w
noncomputable def codeO (t:GText) (ge:Env):Code:=.whileLoop t.test1 t.outer [] ge
noncomputable def codeI (t:GText) (ge:Env):Code:=.whileLoop t.test2 t.inner [] ge
theorem Room.over {c:Code} {fs:List Frame} {A:Around} {m:Nat} {l:List Env} (h:RoomO l A m) (hl:X.fr.map (·.1)=ge :: l) (he:pushEnvs c.envs (pushEnvs (envsOf (fs.map Frame.where_)) (some l))=some (ge :: l)) (hm:marksOver fs (none,none)=(none,none)) (hc:frameCount (fs.map Frame.where_) + c.weight≤3)
  (hg:pushGuards c.guards (pushGuards (guardsOf (fs.map Frame.where_)) (some []))=some []) (hu:PySem.unitsOf (fs.map Frame.where_) + c.cUnits≤20):Room X (A.over c fs) m :=
 ⟨Nat.lt_of_le_of_lt (by show A.depth + frameCount (fs.map Frame.where_) + c.weight + 4 * m≤A.depth + 3 + 4 * m; rw [Nat.add_assoc A.depth]; exact Nat.add_le_add_right (Nat.add_le_add_left hc _) _) h.1,
  Nat.lt_of_le_of_lt (by show A.units + PySem.unitsOf (fs.map Frame.where_) + c.cUnits + 40 * m≤A.units + 21 + 40 * m; rw [Nat.add_assoc A.units]; exact Nat.add_le_add_right (Nat.add_le_add_left (Nat.le_succ_of_le hu) _) _) h.2.1,
  by show (marksOver fs (A.handled,A.handled)).1=none; rw [h.2.2.1,hm],by show pushGuards c.guards (pushGuards (guardsOf (fs.map Frame.where_)) A.guards)=some []; rw [h.2.2.2.1]; exact hg,
  by show pushEnvs c.envs (pushEnvs (envsOf (fs.map Frame.where_)) A.frames)=_; rw [h.2.2.2.2,he,hl]⟩
noncomputable def F0 (t:GText) (ge:Env) (k0:Result→Sem Fin) (p0:Pos):Frame:=.ret k0 none false [] (.func t.body ge) p0 []
noncomputable def F1 (t:GText) (ge:Env) (k1:Result→Sem Fin) (p1:Pos):Frame:=.ret k1 none false [] (codeO t ge) p1 []
noncomputable def K0ok (k0:Result→Sem Fin):Prop:=k0 (.ok .next) = .pure (.done (.ret .none))
noncomputable def K1ok (t:GText) (ge:Env) (k1:Result→Sem Fin):Prop:=∃ K H,k1 (.ok .next)=(execs t.rest ge).wrap K H id id∧K .next = .pure (.again (codeO t ge))
section
variable (X:Ctx) (A:Around) (R:GenEnd) (Y:Protocol) (t:GText) (ge:Env) (n:Nat) (s₀ s:Shared)
noncomputable def SegI:Prop :=
 ∀ k1 p1 k0 p0,K1ok t ge k1→K0ok k0→Seg (Mo X) A R Y n s₀ (codeI t ge) ((Mo X).den (codeI t ge)) [F1 t ge k1 p1,F0 t ge k0 p0] s
noncomputable def SegO:Prop :=
 ∀ k0 p0,K0ok k0→Seg (Mo X) A R Y n s₀ (codeO t ge) ((Mo X).den (codeO t ge)) [F0 t ge k0 p0] s
end
structure Ends (X:Ctx) (κ:Rho) (A:Around) (R:GenEnd) (Y:Protocol) (t:GText) (ge:Env) (n:Nat) (σ₀:St) (s₀:Shared) (o:Option AV) (σ':St):Prop where
 fin:o=none→∀ s' ρ' F',Inv X ρ' F' σ' s'→Stp κ (fmax κ σ₀ s₀) σ₀ s₀ ρ' F' σ' s'→R n s₀ (.ok (.ret .none)) s'
 out:∀ av,o=some av→∃ j,n=j + 1∧∀ v s' ρ' F',Den σ'.n ρ' F' av v→Inv X ρ' F' σ' s'→Stp κ (fmax κ σ₀ s₀) σ₀ s₀ ρ' F' σ' s'→∀ kap:Resume→Shared→Prop,
  (∀ s'',SegI X A R Y t ge j s'' s''→kap (.send .none) s'')→Y j s₀ v s' kap
theorem Room.o (hh:∃ l,RoomO l A m∧X.fr.map (·.1)=ge :: l) (k0:Result→Sem Fin) (p0:Pos):Room X (A.over (codeO t ge) [F0 t ge k0 p0]) m :=
 hh.elim fun l h=>Room.over h.1 h.2 rfl rfl (Nat.le_of_ble_eq_true rfl) rfl (Nat.le_of_ble_eq_true rfl)
theorem Room.i (hh:∃ l,RoomO l A m∧X.fr.map (·.1)=ge :: l) (k1 k0:Result→Sem Fin) (p1 p0:Pos):Room X (A.over (codeI t ge) [F1 t ge k1 p1,F0 t ge k0 p0]) m :=
 hh.elim fun l h=>Room.over h.1 h.2 rfl rfl (Nat.le_of_ble_eq_true rfl) rfl (Nat.le_of_ble_eq_true rfl)
noncomputable def SegRun (X:Ctx) (A:Around) (t:GText) (gae:AEnv) (ge:Env) (P:(R:GenEnd)→(Y:Protocol)→Nat→Shared→Shared→Prop) (σ:St) (o:Option AV) (σ':St):Prop:=∀ (R:GenEnd) (Y:Protocol) (n:Nat) (κ:Rho) (σ₀:St) (s₀:Shared) (ρ:Rho) (F:Fz) (s:Shared),
 Inv X ρ F σ s→Stp κ (fmax κ σ₀ s₀) σ₀ s₀ ρ F σ s→(EnvK X gae ge).p σ.n ρ F→Ends X κ A R Y t ge n σ₀ s₀ o σ'→P R Y n s₀ s
theorem segs (G:GSide X r m A t gae ge):∀ f:Nat,(∀ σ,RunAt σ (gSeg1 r t gae f) (SegRun X A t gae ge (fun R Y n=>SegO X A R Y t ge n) σ))∧∀ σ,RunAt σ (gSeg2 r t gae f) (SegRun X A t gae ge (fun R Y n=>SegI X A R Y t ge n) σ)
 | 0=>⟨fun _=>RunAt.fail,fun _=>RunAt.fail⟩
 | f + 1=>by
  have ih:=segs G f
  refine ⟨fun σ=>?_,fun σ=>?_⟩
  ·show RunAt σ (EM.bind (r.tst gae t.test1) fun b=>EM.bind (EM.dec b) fun b=>_root_.cond b (gSeg2 r t gae f) (EM.ret none)) _
   refine RunAt.bind (RunAt.all fun k0=>RunAt.all fun p0=>Sim.at (G.S.tst _ (Room.o (t:=t) G.room k0 p0) gae ge t.test1)) fun b σ₁ c1=>RunAt.stay RunAt.dec0 fun d hd=>?_
   rw [hd] at c1
   cases d with
   | true =>
    refine (ih.2 σ₁).mono fun o σ' h R Y n κ σ₀ s₀ ρ F s I st gE Z k0 p0 hk0=>seg_whileLoop (c1 k0 p0 ρ F s I gE _ _ fun v s₁ ρ₁ F₁ (hv:true=v) I₁ st₁=>?_)
    rw [← hv,if_pos rfl]
    show Seg _ A R Y n s₀ _ ((execs (.While t.test2 t.inner [] t.pos2 :: t.rest) ge).wrap _ _ id id) _ s₁
    exact seg_execs_cons (seg_While fun p=>h R Y n κ σ₀ s₀ ρ₁ F₁ s₁ I₁ (st.trans st₁) ((EnvK X gae ge).mono st₁.le st₁.same st₁.sub gE) Z _ p k0 p0 ⟨_,_,rfl,rfl⟩ hk0)
   | false =>
    refine RunAt.ret fun R Y n κ σ₀ s₀ ρ F s I st gE Z k0 p0 hk0=>seg_whileLoop (c1 k0 p0 ρ F s I gE _ _ fun v s₁ ρ₁ F₁ (hv:false=v) I₁ st₁=>?_)
    rw [← hv,if_neg Bool.false_ne_true]
    refine seg_execs_nil (seg_leaf (r:=.ok .next) ?_)
    rw [show k0 (.ok .next)=_ from hk0]
    exact seg_end (r:=.ok (.ret .none)) (Z.fin rfl s₁ ρ₁ F₁ I₁ (st.trans st₁))
  ·show RunAt σ (EM.bind (r.tst gae t.test2) fun b=>EM.bind (EM.dec b) fun b=>_root_.cond b (EM.bind (r.ev gae t.item) fun v=>EM.ret (some v)) (EM.bind (r.exs gae t.rest) fun fl=>onFl fl (gSeg1 r t gae f) (fun _=>EM.fail) EM.fail)) _
   refine RunAt.bind (RunAt.all fun k1=>RunAt.all fun k0=>RunAt.all fun p1=>RunAt.all fun p0=>Sim.at (G.S.tst _ (Room.i (t:=t) G.room k1 k0 p1 p0) gae ge t.test2)) fun b σ₁ c1=>RunAt.stay RunAt.dec0 fun d hd=>?_
   rw [hd] at c1
   cases d with
   | true =>
    refine RunAt.bind (RunAt.all fun k1=>RunAt.all fun k0=>RunAt.all fun p1=>RunAt.all fun p0=>Sim.at (G.S.ev _ (Room.i (t:=t) G.room k1 k0 p1 p0) gae ge t.item)) fun av σ₂ c2=>RunAt.ret ?_
    refine fun R Y n κ σ₀ s₀ ρ F s I st gE Z k1 p1 k0 p0 hk1 hk0=>seg_whileLoop (c1 k1 k0 p1 p0 ρ F s I gE _ _ fun v s₁ ρ₁ F₁ (hv:true=v) I₁ st₁=>(Z.out av rfl).elim fun j z=>?_)
    rw [← hv,if_pos rfl,z.1]
    show Seg _ A R Y (j + 1) s₀ _ ((execs [.Expr (.Yield (some t.item) t.ypos) t.epos] ge).wrap _ _ id id) _ s₁
    refine seg_execs_cons (seg_Expr_Yield (by rfl) rfl (by rfl) ?_ G.co (by unfold interactive; rw [G.fn]; rfl))
    exact c2 k1 k0 p1 p0 ρ₁ F₁ s₁ I₁ ((EnvK X gae ge).mono st₁.le st₁.same st₁.sub gE) _ _ fun v s₂ ρ₂ F₂ dv I₃ st₃ kap hkap=>z.2 v s₂ ρ₂ F₂ dv I₃ ((st.trans st₁).trans st₃) kap fun s'' hs=>hkap .none s'' (seg_execs_nil (seg_again rfl (hs k1 p1 k0 p0 hk1 hk0)))
   | false =>
    show RunAt σ₁ (EM.bind (r.exs gae t.rest) fun fl=>onFl fl (gSeg1 r t gae f) (fun _=>EM.fail) EM.fail) _
    refine RunAt.bind (RunAt.all fun k0=>RunAt.all fun p0=>Sim.at (G.S.exs _ (Room.o (t:=t) G.room k0 p0) gae ge t.rest)) fun fl σ₂ c2=>?_
    cases fl with
    | next =>
     refine (ih.1 σ₂).mono fun o σ' h R Y n κ σ₀ s₀ ρ F s I st gE Z k1 p1 k0 p0 hk1 hk0=>seg_whileLoop (c1 k1 k0 p1 p0 ρ F s I gE _ _ fun v s₁ ρ₁ F₁ (hv:false=v) I₁ st₁=>?_)
     rw [← hv,if_neg Bool.false_ne_true]
     refine seg_execs_nil (seg_leaf (r:=.ok .next) (hk1.elim fun K q=>q.elim fun H q=>?_))
     have gE₁:=(EnvK X gae ge).mono st₁.le st₁.same st₁.sub gE
     rw [q.1]
     refine seg_wrap (c2 k0 p0 ρ₁ F₁ s₁ I₁ gE₁ _ _ fun fv s₂ ρ₂ F₂ (dv:fv = .next) I₃ st₃=>?_)
     rw [dv,q.2]
     exact seg_again rfl (h R Y n κ σ₀ s₀ ρ₂ F₂ s₂ I₃ ((st.trans st₁).trans st₃) ((EnvK X gae ge).mono st₃.le st₃.same st₃.sub gE₁) Z k0 p0 hk0)
    | _=>exact RunAt.fail
end
section
variable {prog:Program} {w:World} {A:Around} {E:Value→Shared→Prop} {s:Shared}
theorem genNext {a:Addr} {g n:Nat} {gs:GenState} {P:Nat→Shared→Shared→Prop} {Y:Protocol} {Q:Option Value→Shared→Prop} (hh:A.handled=none) (hl:s.heap.NoLimit) (hroom:A.depth < recursionLimit)
  (hg:s.heap.IsGen a g) (hgs:s.gens[g]? = some gs) (hgo:gs.Goes (model prog w) A.in1 (fun n s₀ r s₁=>r = .ok (.ret .none)∧P n s₀ s₁) Y n (.send .none) (s.setGen g .running))
  (hY:∀ v s₁ gs',gs'.bare=true→Y (n - 1) (s.setGen g .running) v s₁ (fun r' s''=>match n with
    | 0=>False
    | m + 1=>gs'.Goes (model prog w) A.in1 (fun n s₀ r s₁=>r = .ok (.ret .none)∧P n s₀ s₁) Y m r' s'')→Q (some v) (s₁.setGen g gs'))
  (hP:∀ s₁,P n (s.setGen g .running) s₁→∀ h',(∀ b o,s₁.heap.get? b=some o→h'.get? b=some o)→Q none { s₁.setGen g .finished with heap:=h' }):wpAny (model prog w) A (pyNext (.ref a)) Q E s:=by
 unfold pyNext
 refine wpAny_bind (wpAny_attempt (wpAny_callSpecial?_slot (name:=Str.ofString "__next__") hg.typeIs slot_gen_next (wpAny_call_entry slot_gen_next hg.typeIs entry_gen_next ?_ (args_gen_next _))))
 show wpAny _ _ (Builtin.Generator.genWake (.ref a) (.send .none)) _ _ s
 unfold Builtin.Generator.genWake
 refine wpAny_bind (wpAny_holding (wpAny_genNumber hg (wpAny_bind (wpAny_genState hgs ?_))))
 cases gs with
 | running=>exact hgo.elim
 | finished=>exact hgo.elim
 | _ =>
  refine wpAny_bind (wpAny_roomToWake hl hroom ?_)
  show wpAny _ _ (.resume g (.send .none) [] _) _ _ s
  refine wpAny_resumeQ hgs hgo (fun x s₁ hx=>?_) (fun v s₁ gs' hb hv=>wpAny_pure ⟨v,rfl,wpAny_pure (hY v s₁ gs' hb hv)⟩)
  rw [hx.1]
  refine wpAny_bind (m:=SmallTypes.stopIteration) ?_
  refine stop_raised (A:=A.in1) hh fun e h' hk hT=>?_
  refine wpAny_bind (wpAny_isInstance (T:="StopIteration") (b:=true) hT isSubtype_stop ?_)
  exact wpAny_pure (hP s₁ hx.2 _ hk)
end
noncomputable def eCutV (N:Nat) (v:AV):EM Unit:=EM.st fun σ=>EM.turn (Und N v∧∀ p ∈ (σ.cut N).objs,UndC N p.2) (fun σ=>σ.cut N) ()
noncomputable def gBody (bd:AV→EM AFlow) (N L:Nat) (v:AV):EM Unit:=EM.bind (eCutV N v) fun _=>EM.bind (bd v) fun fl=>onFl fl (eCutTo N L) (fun _=>EM.fail) EM.fail
noncomputable def gFor (r:Rec) (t:GText) (gae:AEnv) (bd:AV→EM AFlow) (N f:Nat) (k:Nat):Bool→EM AFlow:=Nat.rec (motive:=fun _=>Bool→EM AFlow) (fun _=>EM.fail) (fun _ ih b=>EM.bind (_root_.cond b (gSeg0 r t gae f) (gSeg2 r t gae f)) fun o =>
 onSome o (fun v=>EM.bind (gBody bd N gae.loc v) fun _=>ih false) (EM.ret .next)) k
section
variable {X:Ctx} {A:Around} {ρ κ:Rho} {F F':Fz} {σ σ':St} {s s':Shared} {r:Rec} {m:Nat} {t:GText} {gae:AEnv} {ge:Env} {n N f:Nat} {σF:St} {conf:Nat→St} {Γc:Kn} {tb:Value→Sem Flow} {bd:AV→EM AFlow}
theorem Stp.recut {ρ':Rho} {N:Nat} (st:Stp κ F σ s ρ' F' σ' s') (hN:σ.n=N):Stp κ F σ s κ F' (σ'.cut N) s' :=
 ⟨Nat.le_of_eq hN,fun _ _=>rfl,st.sub,st.keep,st.live,fun i c h=>by
  have q:=cut_get h
  rw [← st.same i (hN ▸ q.1)]
  exact st.new i c q.2,st.gens⟩
noncomputable abbrev XG (X:Ctx) (ge:Env) (L:Nat):Ctx:=X.wf ((ge,L) :: X.fr)
noncomputable def SegF (X:Ctx) (A:Around) (t:GText) (gae:AEnv) (ge:Env) (b:Bool) (σ:St) (o:Option AV) (σ':St):Prop:=match b with
 | false=>SegRun X A t gae ge (fun R Y n=>SegI X A R Y t ge n) σ o σ'
 | true=>SegRun X A t gae ge (fun R Y n s₀ s=>s₀=s→(GenState.fresh (.func t.body ge)).Goes (Mo X) A R Y n (.send .none) s) σ o σ'
structure BodyOk (X:Ctx) (A:Around) (Γc:Kn) (tb:Value→Sem Flow) (N L:Nat) (v:AV) (σ₁ σ₃ σ₂:St):Prop where
 und:Und N v
 undC:∀ p ∈ (σ₁.cut N).objs,UndC N p.2
 go:∀ ρ F s w,Inv X ρ F (σ₁.cut N) s→Γc.p (σ₁.cut N).n ρ F→Den (σ₁.cut N).n ρ F v w→Goes X A ρ F (σ₁.cut N) s (tb w) (RFlow .next) σ₃
 undC':∀ p ∈ (σ₃.cut N).objs,UndC N p.2
 ns:∃ m,(σ₃.cut N).get L=some (.ns m)
 eq:σ₂=σ₃.cut N
theorem gBody_ok (one:∀ v w,Sim X A (Γc.and (RDen v w)) RFlow (bd v) (tb w)) {L:Nat} {v:AV}:RunAt σ (gBody bd N L v) fun _ σ'=>∃ σ₃,BodyOk X A Γc tb N L v σ σ₃ σ':=by
 refine RunAt.bind (C:=fun _ σ₁=>(Und N v∧∀ p ∈ (σ.cut N).objs,UndC N p.2)∧σ₁=σ.cut N) (RunAt.st (RunAt.turn fun h=>⟨h,rfl⟩)) fun _ σ₁ h1=>?_
 refine RunAt.bind (RunAt.all fun w=>Sim.at (one v w)) fun fl σ₃ c=>?_
 cases fl with
 | next =>
  refine RunAt.st (f:=fun σ=>EM.bind (EM.turn (∀ p ∈ (σ.cut N).objs,UndC N p.2) (fun σ=>σ.cut N) ()) fun _=>EM.bind (EM.cellAs asNs L) fun _=>EM.ret ()) ?_
  refine RunAt.bind (x:=EM.turn (∀ p ∈ (σ₃.cut N).objs,UndC N p.2) (fun σ=>σ.cut N) ()) (f:=fun _=>EM.bind (EM.cellAs asNs L) fun _=>EM.ret ()) (C:=fun _ σ₄=>(∀ p ∈ (σ₃.cut N).objs,UndC N p.2)∧σ₄=σ₃.cut N) (RunAt.turn fun h=>⟨h,rfl⟩) fun _ σ₄ h4=>?_
  rw [h4.2]
  exact RunAt.cellAs asNs_some fun mm hm=>RunAt.ret ⟨σ₃,h1.1.1,h1.1.2,fun ρ F s w I g d=>h1.2 ▸ c w ρ F s (h1.2 ▸ I) ⟨h1.2 ▸ g,h1.2 ▸ d⟩,h4.1,⟨mm,hm⟩,rfl⟩
 | _=>exact RunAt.fail
structure Turns (X:Ctx) (A:Around) (t:GText) (gae:AEnv) (ge:Env) (Γc:Kn) (tb:Value→Sem Flow) (N:Nat) (b:Bool) (n:Nat) (conf:Nat→St) (σF:St):Prop where
 last:SegF (XG X ge gae.loc) A.in1 t gae ge (b && Nat.beq 0 n) (conf 0) none σF
 turn:∀ j,j < n→∃ v σ₁ σ₃,SegF (XG X ge gae.loc) A.in1 t gae ge (b && Nat.beq (j + 1) n) (conf (j + 1)) (some v) σ₁∧BodyOk X A Γc tb N gae.loc v σ₁ σ₃ (conf j)
theorem room_func {X:Ctx} {A:Around} (hh:∃ l,RoomO l A m∧X.fr.map (·.1)=ge :: l):Room X (A.over (.func t.body ge) []) m:=hh.elim fun l h=>Room.over h.1 h.2 rfl rfl (Nat.le_of_ble_eq_true rfl) rfl (Nat.le_of_ble_eq_true rfl)
theorem execs_app_wrap {K:Flow→Sem Fin} {H:Value→Sem Fin} {gd:Bool→Bool} {lv:List Value→List Value} {env:Env} (rest:List Stmt):∀ pre:List Stmt,
  (execs (pre ++ rest) env).wrap K H gd lv=(execs pre env).wrap (fun f=>match f with | .next=>(execs rest env).wrap K H gd lv | f=>K f) H gd lv
 | []=>rfl
 | st :: pre=>by
  rw [List.cons_append,execs_cons_wrap,execs_cons_wrap]
  exact Sem.wrap_congr _ _ _ (fun fl=>by cases fl <;> first | exact execs_app_wrap rest pre | rfl) fun _=>rfl
theorem seg0_ok {X:Ctx} {A:Around} (G:GSide X r m A t gae ge):RunAt σ (gSeg0 r t gae f) (SegF X A t gae ge true σ):=by
 refine RunAt.bind (Sim.at (G.S.exs _ (room_func (t:=t) G.room) gae ge t.pre)) fun fl σ₁ c=>?_
 cases fl with
 | next =>
  refine ((segs G f).1 σ₁).mono fun o σ' h R Y n κ σ₀ s₀ ρ F s I st gE Z e=>⟨rfl,seg_func ?_⟩
  unfold GText.body
  rw [execs_app_wrap]
  refine seg_wrap (c ρ F s I gE _ _ fun fv s₁ ρ₁ F₁ (hr:fv = .next) I₁ st₁=>?_)
  rw [hr]
  exact seg_execs_cons (seg_While fun p=>e ▸ h R Y n κ σ₀ s₀ ρ₁ F₁ s₁ I₁ (st.trans st₁) ((EnvK X gae ge).mono st₁.le st₁.same st₁.sub gE) Z _ p rfl)
 | _=>exact RunAt.fail
theorem seg_ok {X:Ctx} {A:Around} (G:GSide X r m A t gae ge) (b:Bool):RunAt σ (_root_.cond b (gSeg0 r t gae f) (gSeg2 r t gae f)) (SegF X A t gae ge b σ):=by
 cases b with
 | true=>exact seg0_ok G
 | false=>exact (segs G f).2 σ
theorem gFor_run (G:GSide (XG X ge gae.loc) r m A.in1 t gae ge) (one:∀ v w,Sim X A (Γc.and (RDen v w)) RFlow (bd v) (tb w)):∀ (k:Nat) (b:Bool) (σ:St),RunAt σ (gFor r t gae bd N f k b) fun fl σF=>fl = .next∧∃ n conf,conf n=σ∧Turns X A t gae ge Γc tb N b n conf σF
 | 0,_,_=>RunAt.fail
 | k + 1,b,σ=>by
  show RunAt σ (EM.bind (_root_.cond b (gSeg0 r t gae f) (gSeg2 r t gae f)) fun o=>onSome o (fun v=>EM.bind (gBody bd N gae.loc v) fun _=>gFor r t gae bd N f k false) (EM.ret .next)) _
  refine RunAt.bind (seg_ok G b) fun o σ₁ h1=>?_
  cases o with
  | none=>exact RunAt.ret ⟨rfl,0,fun _=>σ,rfl,by cases b <;> exact h1,fun j h=>absurd h (Nat.not_lt_zero _)⟩
  | some v =>
   refine RunAt.bind (gBody_ok one) fun _ σ₂ h2=>(gFor_run G one k false σ₂).mono fun fl σF q=>⟨q.1,q.2.elim fun n q=>q.elim fun conf q=>⟨n + 1,fun j=>_root_.cond (Nat.beq j (n + 1)) σ (conf j),by show _root_.cond (Nat.beq (n + 1) (n + 1)) σ _=σ; rw [Nat.beq_refl]; rfl,?_,fun j hj=>?_⟩⟩
   ·show SegF _ _ _ _ _ (b && false) (conf 0) none σF
    rw [Bool.and_false]
    exact q.2.last
   ·have hj1:Nat.beq j (n + 1)=false:=Bool.eq_false_iff.mpr fun e=>absurd (Nat.eq_of_beq_eq_true e) (Nat.ne_of_lt hj)
    show ∃ v σ₁ σ₃,SegF _ _ _ _ _ (b && Nat.beq j n) (_root_.cond (Nat.beq j n) σ (conf (j + 1))) (some v) σ₁∧BodyOk _ _ _ _ _ _ v σ₁ σ₃ (_root_.cond (Nat.beq j (n + 1)) σ (conf j))
    rw [hj1]
    cases e:Nat.beq j n with
    | true =>
     rw [Bool.and_true,Nat.eq_of_beq_eq_true e]
     exact h2.elim fun σ₃ h2=>⟨v,σ₁,σ₃,h1,q.1 ▸ h2⟩
    | false =>
     rw [Bool.and_false]
     exact q.2.turn j (Nat.lt_of_le_of_ne (Nat.le_of_lt_succ hj) fun h=>by rw [h,Nat.beq_refl] at e; exact ff e.symm)
noncomputable def YY (X:Ctx) (κ:Rho) (A:Around) (Γc:Kn) (tb:Value→Sem Flow) (N L:Nat) (XL:Ctx) (conf:Nat→St):Protocol:=fun j s₀ v s' kap=>∃ av σ₁ σ₃ ρ' F',BodyOk X A Γc tb N L av σ₁ σ₃ (conf j)∧Den σ₁.n ρ' F' av v∧Inv XL ρ' F' σ₁ s' ∧
 Stp κ (fmax κ (conf (j + 1)) s₀) (conf (j + 1)) s₀ ρ' F' σ₁ s'∧∀ s'',AtH XL κ (conf j) s''→kap (.send .none) s''
noncomputable def PP (X:Ctx) (κ:Rho) (conf:Nat→St) (σF:St):Nat→Shared→Shared→Prop:=fun k s₀ s₁=>k=0∧∃ ρ' F',Inv X ρ' F' σF s₁∧Stp κ (fmax κ (conf 0) s₀) (conf 0) s₀ ρ' F' σF s₁
noncomputable def RR (X:Ctx) (κ:Rho) (conf:Nat→St) (σF:St):GenEnd:=fun k s₀ r s₁=>r = .ok (.ret .none)∧PP X κ conf σF k s₀ s₁
structure GRun (X:Ctx) (r:Rec) (m:Nat) (A:Around) (κ:Rho) (t:GText) (gae:AEnv) (ge:Env) (Γc:Kn) (tb:Value→Sem Flow) (N n:Nat) (conf:Nat→St) (σF:St):Prop where
 gF:ge.frame=some (κ gae.loc)
 gK:ge.scope.kind = .function
 room:Room X A (m + 1)
 turns:Turns X A t gae ge Γc tb N true n conf σF
 size:∀ j,j≤n→(conf j).n=N
 gE:∀ F,(EnvK (XG X ge gae.loc) gae ge).p N κ F
 cE:∀ F,Γc.p N κ F
section
variable (R:GRun X r m A κ t gae ge Γc tb N n conf σF)
include R
theorem GRun.ends {j:Nat} (hj:j≤n) (ih:∀ i,i < j→∀ s,AtH (XG X ge gae.loc) κ (conf i) s→SegI (XG X ge gae.loc) A.in1 (RR (XG X ge gae.loc) κ conf σF) (YY X κ A Γc tb N gae.loc (XG X ge gae.loc) conf) t ge i s s) :
  ∃ o σ',SegF (XG X ge gae.loc) A.in1 t gae ge (Nat.beq j n) (conf j) o σ'∧∀ s,Ends (XG X ge gae.loc) κ A.in1 (RR (XG X ge gae.loc) κ conf σF) (YY X κ A Γc tb N gae.loc (XG X ge gae.loc) conf) t ge j (conf j) s o σ':=by
 cases j with
 | zero=>exact ⟨none,σF,R.turns.last,fun s=>⟨fun _ s' ρ' F' I st=>⟨rfl,rfl,ρ',F',I,st⟩,fun av h=>noneOf h⟩⟩
 | succ i =>
  exact (R.turns.turn i hj).elim fun v q=>q.elim fun σ₁ q=>q.elim fun σ₃ q=>⟨some v,σ₁,q.1,fun s=>⟨fun h=>noneOf h.symm,fun av h=>⟨i,rfl,fun w s' ρ' F' d I st kap hk=>⟨v,σ₁,σ₃,ρ',F',q.2,Option.some.inj h ▸ d,I,st,fun s'' h=>hk s'' (ih i (Nat.lt_succ_self i) s'' h)⟩⟩⟩⟩
theorem GRun.all (j:Nat):j < n→∀ s,AtH (XG X ge gae.loc) κ (conf j) s→SegI (XG X ge gae.loc) A.in1 (RR (XG X ge gae.loc) κ conf σF) (YY X κ A Γc tb N gae.loc (XG X ge gae.loc) conf) t ge j s s:=by
 induction j using Nat.strongRecOn with
 | ind j ih =>
  intro hj s h
  refine (R.ends (Nat.le_of_lt hj) fun i hi s h=>ih i hi (Nat.lt_trans hi hj) s h).elim fun o q=>q.elim fun σ' q=>?_
  have q1:=q.1
  rw [show Nat.beq j n=false from Bool.eq_false_iff.mpr fun e=>absurd (Nat.eq_of_beq_eq_true e) (Nat.ne_of_lt hj)] at q1
  exact q1 _ _ j κ _ s κ _ s h (Stp.refl _ _ h.ids) (by rw [R.size j (Nat.le_of_lt hj)]; exact R.gE _) (q.2 s)
theorem GRun.fresh {s:Shared} (h:AtH (XG X ge gae.loc) κ (conf n) s):(GenState.fresh (.func t.body ge)).Goes (Mo X) A.in1 (RR (XG X ge gae.loc) κ conf σF) (YY X κ A Γc tb N gae.loc (XG X ge gae.loc) conf) n (.send .none) s:=by
 refine (R.ends (Nat.le_refl n) fun i hi s h=>R.all i hi s h).elim fun o q=>q.elim fun σ' q=>?_
 have q1:=q.1
 rw [Nat.beq_refl] at q1
 exact q1 _ _ n κ _ s κ _ s h (Stp.refl _ _ h.ids) (by rw [R.size n (Nat.le_refl n)]; exact R.gE _) (q.2 s) rfl
end
theorem bare_set {gens:Array GenState} (h:AllBare gens) (g:Nat) {x:GenState} (hx:x.bare=true):AllBare (gens.setIfInBounds g x):=fun y hy=>(Array.mem_iff_getElem?.mp hy).elim fun i hi=>by
 rw [Array.getElem?_setIfInBounds] at hi
 revert hi
 refine ite_P (P:=fun o=>o=some y→y.bare=true) (fun _=>ite_P (P:=fun o=>o=some y→y.bare=true) (fun _ hi=>Option.some.inj hi ▸ hx) fun _ hi=>noneOf hi) fun _ hi=>h _ (Array.mem_iff_getElem?.mpr ⟨i,hi⟩)
theorem setGen_ne {s:Shared} {g i:Nat} {gs x:GenState} (hi:i ≠ g) (h:s.gens[i]? = some x):(s.setGen g gs).gens[i]? = some x:=(Array.getElem?_setIfInBounds_ne (Ne.symm hi)).trans h
noncomputable def Laps (X:Ctx) (A:Around) (tb:Value→Sem Flow) (ga:Addr) (C:Code):Prop:=∀ (Z:Result→Shared→Prop) (s:Shared),(∀ E,wpAny (Mo X) A (pyNext (.ref ga)) (fun o s'=>match o with
 | none=>Z (.ok .next) s'
 | some v=>∀ E',wpAny (Mo X) A (tb v) (fun fl s''=>fl = .next∧codeAny (Mo X) A C Z s'') E' s') E s)→codeAny (Mo X) A C Z s
theorem GRun.walk (R:GRun X r m A κ t gae ge Γc tb N n conf σF) {ga:Addr} {g:Nat} {C:Code} (HC:Laps X A tb ga C) (j:Nat):j≤n→∀ (s:Shared) (gs:GenState),AtH (XG X ge gae.loc) κ (conf j) s→(∀ i c,(conf j).get i=some c→κ i ≠ ga) →
  s.heap.IsGen ga g→s.gens[g]? = some gs→gs.Goes (Mo X) A.in1 (RR (XG X ge gae.loc) κ conf σF) (YY X κ A Γc tb N gae.loc (XG X ge gae.loc) conf) j (.send .none) (s.setGen g .running)→∀ (Z:Result→Shared→Prop),
  (∀ s' ρ' F',Inv X ρ' F' σF s'→Stp κ (fmax κ (conf j) s) (conf j) (noG s) ρ' F' σF (noG s')→(∀ i x,i ≠ g→s.gens[i]? = some x→s'.gens[i]? = some x)→Z (.ok .next) s') →
  codeAny (Mo X) A C Z s:=by
 induction j with
 | zero =>
  intro hj s gs I hga hg hgs hgo Z hZ
  refine HC Z s fun E=>(genNext (P:=PP (XG X ge gae.loc) κ conf σF) R.room.2.2.1 I.limit (Nat.lt_of_le_of_lt (Nat.le_add_right _ _) R.room.1) hg hgs hgo (fun v s₁ gs' hb hy=>?_) fun s₁ hp h' hk=>?_)
  ·exact hy.elim fun av q=>q.elim fun σ₁ q=>q.elim fun σ₃ q=>q.elim fun ρ' q=>q.elim fun F' q=>(q.2.2.2.2 s I:False).elim
  ·refine hp.2.elim fun ρ' q=>q.elim fun F' q=>?_
   have st₁:=q.2
   have I₁:=Inv.unframe q.1
   have r₂:=I₁.grow (h':=h') hk s₁.toks
   have st2:=(Stp.noG st₁).trans (Stp.noG r₂.2)
   exact hZ _ ρ' F' (r₂.1.withGens (bare_set I₁.gens g rfl)) st2 fun i x hi hx=>setGen_ne hi (st₁.gens i x (setGen_ne hi hx))
 | succ j ih =>
  intro hj s gs I hga hg hgs hgo Z hZ
  refine HC Z s fun E=>(genNext (P:=PP (XG X ge gae.loc) κ conf σF) R.room.2.2.1 I.limit (Nat.lt_of_le_of_lt (Nat.le_add_right _ _) R.room.1) hg hgs hgo (fun v s₁ gs' hb hy=>?_) fun s₁ hp=>nomatch hp.1)
  refine hy.elim fun av q=>q.elim fun σ₁ q=>q.elim fun σ₃ q=>q.elim fun ρ₁ q=>q.elim fun F₁ q=>?_
  have B:=q.1
  have d:=q.2.1
  have I₁:=q.2.2.1
  have st₁:Stp κ (fmax κ (conf (j + 1)) s) (conf (j + 1)) (s.setGen g .running) ρ₁ F₁ σ₁ s₁:=q.2.2.2.1
  have hn:∀ s'',AtH (XG X ge gae.loc) κ (conf j) s''→gs'.Goes (Mo X) A.in1 (RR (XG X ge gae.loc) κ conf σF) (YY X κ A Γc tb N gae.loc (XG X ge gae.loc) conf) j (.send .none) s'':=q.2.2.2.2
  have hsz:(conf (j + 1)).n=N:=R.size _ hj
  have hfrN:∀ e ∈ X.fr,e.2 < N:=fun e he=>hsz ▸ (Inv.unframe I).frlt e he
  have hgs₁:(s₁.setGen g gs').gens[g]? = some gs':=setGen_self (st₁.gens _ _ (setGen_self hgs))
  have Ic:Inv X ρ₁ F₁ (σ₁.cut N) (s₁.setGen g gs'):=((Inv.unframe I₁).cut (fun _ _=>rfl) B.undC hfrN).withGens (bare_set I₁.gens g hb)
  have cE:Γc.p (σ₁.cut N).n ρ₁ F₁:=Γc.mono (Nat.le_refl N) (fun i hi=>st₁.same i (by rw [hsz]; exact hi)) (fun _ _ e=>e) (R.cE F₁)
  refine fun E'=>B.go ρ₁ F₁ _ v Ic cE (d.under (fun _ _=>rfl) B.und) _ E' fun fv s₃ ρ₃ F₃ (hf:fv = .next) I₃ st₃=>⟨hf,?_⟩
  have stA:Stp κ (fmax κ (conf (j + 1)) s) (conf (j + 1)) (noG s) ρ₃ F₃ σ₃ (noG s₃):=(Stp.noG (s:=s.setGen g .running) (st₁.cut (N:=N) (Nat.le_of_eq hsz))).trans (Stp.noG (s:=s₁.setGen g gs') st₃)
  refine B.ns.elim fun mL hL=>?_
  have I₄:Inv (XG X ge gae.loc) κ F₃ (σ₃.cut N) s₃:=(I₃.cut (fun i hi=>(stA.same i (by rw [hsz]; exact hi)).symm) B.undC' hfrN).frame R.gK R.gF hL rfl
  have stB:=stA.recut hsz
  rw [← B.eq] at I₄ stB
  have r₅:=I₄.max
  have stC:Stp κ (fmax κ (conf (j + 1)) s) (conf (j + 1)) (noG s) κ (fmax κ (conf j) s₃) (conf j) (noG s₃):=stB.trans (Stp.noG r₅.2)
  have hgens₃:s₃.gens[g]? = some gs':=st₃.gens _ _ hgs₁
  refine hg.elim fun og q2=>q2.elim fun nm q2=>q2.elim fun qn q2=>?_
  have isg:s₃.heap.IsGen ga g:=⟨og,nm,qn,I₃.froz _ _ (stA.sub _ _ ((fmax_out hga).trans q2.1)),q2.2⟩
  have hga':∀ i c,(conf j).get i=some c→κ i ≠ ga:=fun i c h e=>(stC.new i c h).elim (fun h2=>h2.2.elim fun d h2=>hga i d h2 e) fun h2=>noneOf (h2.symm.trans (e ▸ q2.1))
  exact ih (Nat.le_of_succ_le hj) s₃ gs' r₅.1 hga' isg hgens₃ (hn _ (AtH.withGens (g:=(s₃.setGen g .running).gens) r₅.1 (bare_set r₅.1.gens g rfl))) Z fun s' ρ' F' If stf hgf=>hZ s' ρ' F' If (stC.trans stf) fun i x hi hx=>hgf i x hi (st₃.gens i x (setGen_ne hi (st₁.gens i x (setGen_ne hi hx))))
end
noncomputable def genScope (s:Scope):Bool:=((s.kind == .function) && !s.isCoroutine) && (s.isGenerator && noCells s)
noncomputable def genInfo (K:Frag) (f:AV):Option FnI:=_root_.cond (keepOk K f) ((fnInfo K f).bind fun fi=>_root_.cond (plainParams fi.params && genScope fi.scope) (some fi) none) none
noncomputable def genBinds (fi:FnI) (as:List AV) (ks:List (Str × AV)):Option (List (Str × AV)):=(bindsOf (fi.params.args.map fun p=>p.arg) fi.dflts as ks).bind fun b=>_root_.cond (b.all fun q=>fi.scope.names.lookup q.1 == some .local) (some b) none
noncomputable def eGenCall (K:Frag) (r:Rec) (ae:AEnv) (t:GText) (o:Expr) (name:Str) (args:List Expr):EM (FnI × List (Str × AV)):=EM.bind (r.ev ae o) fun ov=>EM.bind (eMethod K ov name) fun p=>EM.bind (eArgs2 r ae args []) fun as=>EM.bind (EM.opt (genInfo K p.1)) fun fi=>EM.bind (EM.cond (fi.body=t.body)) fun _=>EM.bind (EM.opt (genBinds fi (p.2 ++ as.1) as.2)) fun binds=>EM.ret (fi,binds)
noncomputable def eForGen (K:Frag) (r:Rec) (ae:AEnv) (G:GFor) (target o:Expr) (name:Str) (args:List Expr) (body:List Stmt):EM AFlow:=_root_.cond ((notSuper o && fewOk args []) && simpleTarget target)
 (EM.bind (eGenCall K r ae G.t o name args) fun q=>EM.bind (EM.push (.ns q.2.reverse)) fun L=>gFor r G.t ⟨q.1.scope,L,q.1.closure,.none,L⟩ (fun v=>EM.bind (eAssign K r ae v target) fun _=>r.exs ae body) (L + 1) G.f G.k true) EM.fail
section
variable {X:Ctx} {A:Around} {ρ:Rho} {F:Fz} {σ:St} {s:Shared} {Γ:Kn}
theorem Inv.pushGen (I:Inv X ρ F σ s) {o:Obj} {c:Code} (ho:o.isFreed=false) (tk:Nat) :
  Inv X ρ (F.put s.heap.objs.size o) σ { s with gens:=s.gens.push (.fresh c),toks:=tk,heap:=s.heap.push o }∧Stp ρ F σ s ρ (F.put s.heap.objs.size o) σ { s with gens:=s.gens.push (.fresh c),toks:=tk,heap:=s.heap.push o }:=by
 have r:=I.freeze (a:=s.heap.objs.size) (o:=o) (h':=s.heap.push o) (Heap.get?_none_of_le (Nat.le_refl _)) (fun b o e=>Heap.get?_push_of_some _ e) (Heap.get?_push_size _ ho) tk
 refine ⟨Inv.withGens r.1 (I.gens.push rfl),⟨r.2.le,r.2.same,r.2.sub,r.2.keep,r.2.live,r.2.new,fun i x e=>?_⟩⟩
 exact (Array.getElem?_push_lt (Array.getElem?_eq_some_iff.mp e).1).trans ((Array.getElem?_eq_getElem _).symm.trans e)
variable {r:Rec} {m:Nat} {ae:AEnv} {env:Env}
structure GenOk (K:Frag) (f:AV) (fi:FnI):Prop where
 keep:keepOk K f=true
 info:fnInfo K f=some fi
 params:plainParams fi.params=true
 kind:fi.scope.kind = .function
 co:fi.scope.isCoroutine=false
 gen:fi.scope.isGenerator=true
 cells:noCells fi.scope=true
theorem genInfo_ok {K:Frag} {f:AV} {fi:FnI} (h:genInfo K f=some fi):GenOk K f fi:=by
 have h0:=condO h
 refine (Option.bind_eq_some_iff.mp h0.2).elim fun fi' q=>?_
 have h1:=condO q.2
 rw [← Option.some.inj h1.2]
 have h2:=h1.1
 rw [Bool.and_eq_true,genScope,Bool.and_eq_true,Bool.and_eq_true,Bool.and_eq_true,Bool.not_eq_true'] at h2
 exact ⟨h0.1,q.1,h2.1,eq_of_beq h2.2.1.1,h2.2.1.2,h2.2.2.1,h2.2.2.2⟩
structure GenAt (F:Fz) (s:Shared) (c:Code) (a:Addr) (g:Nat):Prop where
 isg:s.heap.IsGen a g
 st:s.gens[g]? = some (.fresh c)
 fz:∃ o,F a=some o
theorem GenAt.step {ρ':Rho} {F':Fz} {σ':St} {s':Shared} {c:Code} {a:Addr} {g:Nat} (h:GenAt F s c a g) (I:Inv X ρ F σ s) (I':Inv X ρ' F' σ' s') (st:Stp ρ F σ s ρ' F' σ' s'):GenAt F' s' c a g:=by
 refine ⟨?_,st.gens _ _ h.st,h.fz.imp fun o e=>st.sub _ _ e⟩
 refine h.isg.elim fun og q=>q.elim fun nm q=>q.elim fun qn q=>h.fz.elim fun o e=>⟨og,nm,qn,?_,q.2⟩
 have e2:=I.froz _ _ e
 rw [q.1] at e2
 rw [Option.some.inj e2]
 exact I'.froz _ _ (st.sub _ _ e)
structure GenE (X:Ctx) (fi:FnI) (L:Nat) (ge:Env) (ρ:Rho):Prop where
 frm:ge.frame=some (ρ L)
 kind:ge.scope.kind = .function
 co:ge.scope.isCoroutine=false
 env:EnvOk (XG X ge L) ⟨fi.scope,L,fi.closure,.none,L⟩ ge (L + 1) ρ
theorem genMake (hA:Room X A (m + 1)) {f:AV} {fv:Value} {as:List AV} {vs:List Value} {ks:List (Str × AV)} {kvs:List Value} {fi:FnI} {binds:List (Str × AV)} (K:GenOk X.K f fi) (hb:genBinds fi as ks=some binds)
  (I:Inv X ρ F σ s) (g:(RCall f fv as vs ks kvs).p σ.n ρ F) {Q:Value→Shared→Prop} {E:Value→Shared→Prop}
  (hQ:∀ a s₁ ρ₁ F₁ ge,GenAt F₁ s₁ (.func fi.body ge) a s.gens.size→Inv X ρ₁ F₁ (σ.push (.ns binds.reverse)) s₁→Stp ρ F σ s ρ₁ F₁ (σ.push (.ns binds.reverse)) s₁→GenE X fi σ.n ge ρ₁→Q (.ref a) s₁):wpAny (model X.prog X.w) A (call fv vs ((ks.map (·.1)).zip kvs)) Q E s:=by
 refine (fnAt I K.info g.1).elim fun af q=>q.elim fun fo q=>q.elim fun fd W=>W.dflts.elim fun dv hdv=>?_
 refine (Option.bind_eq_some_iff.mp hb).elim fun bs hbs=>?_
 have hbs2:=condO hbs.2
 rw [Option.some.inj hbs2.2] at hbs hbs2
 refine (bindsOf_rel hdv.1 g.2.1 (Pairs.ofDens g.2.2) hbs.1).elim fun bv hbv=>?_
 let ge:Env:=newEnv fi.scope s.heap.objs.size fd.globals fd.closure (fd.qualname ++ ".<locals>.") (some af) fd.code none fd.builtins
 have hρ:∀ i,i < σ.n→(ρ.put σ.n s.heap.objs.size) i=ρ i:=fun i hi=>Rho.put_lt ρ _ hi
 have hput:=Rho.put_self ρ σ.n s.heap.objs.size
 have hgF:ge.frame=some ((ρ.put σ.n s.heap.objs.size) σ.n):=by rw [hput]; rfl
 have gG:EnvOk (XG X ge σ.n) ⟨fi.scope,σ.n,fi.closure,.none,σ.n⟩ ge (σ.n + 1) (ρ.put σ.n s.heap.objs.size) :=
  ⟨rfl,K.kind,hput.symm,Nat.lt_succ_self _,W.clo.trans (mapCl_eq fun p hp=>hρ _ (W.lt p hp)).symm,fun p hp=>Nat.lt_succ_of_lt (W.lt p hp),W.globals,W.builtins,hgF,Nat.lt_succ_self _,⟨_,_,rfl,rfl⟩,.inl rfl⟩
 rw [W.ref]
 have hpp:=K.params
 rw [plainParams,Bool.and_eq_true,Bool.and_eq_true,Bool.and_eq_true] at hpp
 refine wpAny_call (codeAny_call_generator (fd:=fd) (body:=fi.body) (Nat.lt_of_le_of_lt (Nat.le_add_right _ _) hA.1) W.at_ W.data (by rw [W.scope]; exact K.co) (by rw [W.scope]; exact K.gen) W.body W.code ?_)
 refine bindArgs_simple (by rw [W.params]; exact List.isEmpty_iff.mp hpp.1.1) (by rw [W.params]; exact List.isEmpty_iff.mp hpp.1.2) (by rw [W.params]; exact Option.isNone_iff_eq_none.mp hpp.2.1) (by rw [W.params]; exact Option.isNone_iff_eq_none.mp hpp.2.2) (by rw [W.params]) (hdv.2 _ _ _) hbv.1 ?_
 rw [W.scope]
 refine wpAny_newFunctionEnv (no_cell K.cells) (hbv.2.loc _ hbs2.1) (fun h' hn hsb=>?_) K.kind
 have r₄:=I.push (a:=s.heap.objs.size) (c:=.ns binds.reverse) (Heap.get?_none_of_le (Nat.le_refl _)) (fun bb oo ee=>hsb.extBut bb oo (Nat.ne_of_lt (Heap.lt_size ee)) (Heap.get?_push_of_some _ ee)) (.ofNs hn (hbv.2.rev.mono (Nat.le_succ _) hρ (fun _ _ e=>e)).ns) (s.toks + bv.length)
 refine ⟨r₄.1.limit,?_⟩
 have r₅:=r₄.1.pushGen (o:={ cls:=.type "generator",data:=.fields #[.int s.gens.size 0,.str fd.name (s.toks + bv.length),.str fd.qualname (s.toks + bv.length + 1)] }) (c:=.func fi.body ge) rfl (s.toks + bv.length + 1 + 1)
 have isg:(h'.push ({ cls:=.type "generator",data:=.fields #[.int s.gens.size 0,.str fd.name (s.toks + bv.length),.str fd.qualname (s.toks + bv.length + 1)] }:Obj)).IsGen h'.objs.size s.gens.size:=⟨_,_,_,Heap.get?_push_size _ rfl,rfl,rfl,rfl⟩
 exact hQ _ _ _ _ ge ⟨isg,Array.getElem?_push_size ..,_,if_pos rfl⟩ r₅.1 (r₄.2.trans r₅.2) ⟨hgF,K.kind,K.co,gG⟩
theorem genWalk (S:SoundF X r m) (hA:Room X A (m + 1)) {G:GFor} {fi:FnI} {ge:Env} {L:Nat} {bd:AV→EM AFlow} {tb:Value→Sem Flow} {Γc:Kn} (one:∀ v w,Sim X A (Γc.and (RDen v w)) RFlow (bd v) (tb w)) {σw:St} {s₂:Shared} {ρ₂:Rho} {F₂:Fz} {a:Addr} {gi:Nat} {C:Code} (HC:Laps X A tb a C)
  (I₂:Inv X ρ₂ F₂ σw s₂) (st:Stp ρ F σ s ρ₂ F₂ σw s₂) (hga:GenAt F₂ s₂ (.func G.t.body ge) a gi) (hgi:s.gens[gi]? = none) {nm:List (Str × AV)} (hL:σw.get L=some (.ns nm)) (hN:L + 1≤σw.n) (gE:GenE X fi L ge ρ₂) (cE:∀ F,Γc.p σw.n ρ₂ F) :
  RunAt σw (gFor r G.t ⟨fi.scope,L,fi.closure,.none,L⟩ bd σw.n G.f G.k true) fun fl σ'=>fl = .next∧∀ Z:Result→Shared→Prop,(∀ s' ρ' F',Inv X ρ' F' σ' s'→Stp ρ F σ s ρ' F' σ' s'→σw.n≤σ'.n→(∀ i,i < σw.n→ρ' i=ρ₂ i)→Z (.ok .next) s')→codeAny (Mo X) A C Z s₂:=by
 have roomG:∃ l,RoomO l A.in1 m∧(XG X ge L).fr.map (·.1)=ge :: l:=⟨_,⟨Nat.lt_of_le_of_lt (by show A.depth + 3 + 4 * m≤A.depth + 4 * (m + 1); omega) hA.1,Nat.lt_of_le_of_lt (by show A.units + 1 + 21 + 40 * m≤A.units + 40 * (m + 1); omega) hA.2.1,hA.2.2⟩,rfl⟩
 refine (gFor_run (gae:=⟨fi.scope,L,fi.closure,.none,L⟩) (ge:=ge) ⟨S _,gE.co,gE.kind,roomG⟩ one G.k true σw).mono fun fl σ' T=>⟨T.1,fun Z hZ=>?_⟩
 refine T.2.elim fun n T=>T.elim fun conf T=>?_
 have I₅':=I₂.frame (env:=ge) (i:=L) (c:=.ns nm) gE.kind gE.frm hL rfl
 have hsz:σw.n=(conf n).n:=by rw [T.1]
 have RN:GRun X r m A ρ₂ G.t ⟨fi.scope,L,fi.closure,.none,L⟩ ge Γc tb σw.n n conf σ':=by
  refine ⟨gE.frm,gE.kind,hA,T.2,fun j hj=>?_,fun F=>(EnvK (XG X ge L) ⟨fi.scope,L,fi.closure,.none,L⟩ ge).mono (F:=F) hN (fun _ _=>rfl) (fun _ _ e=>e) gE.env,cE⟩
  refine (Nat.eq_or_lt_of_le hj).elim (fun e=>by rw [e,T.1]) fun hlt=>(T.2.turn j hlt).elim fun v q=>q.elim fun σ₁ q=>q.elim fun σ₃ q=>by rw [q.2.eq]; rfl
 rw [← T.1] at I₅' st
 have r₆:=I₅'.max
 have hfresh:=RN.fresh (AtH.withGens (g:=(s₂.setGen gi .running).gens) r₆.1 (bare_set r₆.1.gens _ rfl))
 refine RN.walk HC (g:=gi) n (Nat.le_refl n) _ _ r₆.1 (fun i c h=>hga.fz.elim fun o e=>I₅'.notF e h) hga.isg hga.st hfresh Z fun s' ρ' F' If stf hgf=>?_
 refine hZ s' ρ' F' If (Stp.ofNoG (((Stp.noG st).trans (Stp.noG r₆.2)).trans stf) fun i x hx=>hgf i x (fun hi=>?_) (st.gens i x hx)) (by rw [hsz]; exact stf.le) fun i hi=>stf.same i (by rw [← hsz]; exact hi)
 rw [hi,hgi] at hx
 exact noneOf hx
theorem gFor_next {t:GText} {gae:AEnv} {bd:AV→EM AFlow} {N f:Nat}:∀ (k:Nat) (b:Bool) (σ:St),RunAt σ (gFor r t gae bd N f k b) fun fl _=>fl = .next
 | 0,_,_=>RunAt.fail
 | k + 1,b,σ=>RunAt.bind (x:=_root_.cond b (gSeg0 r t gae f) (gSeg2 r t gae f)) (f:=fun o=>onSome o (fun v=>EM.bind (gBody bd N gae.loc v) fun _=>gFor r t gae bd N f k false) (EM.ret .next)) (C:=fun _ _=>True) (fun _ _ _ _ _ _=>trivial) fun o σ₁ _=>by
  cases o with
  | none=>exact RunAt.ret rfl
  | some v=>exact RunAt.bind (C:=fun _ _=>True) (fun _ _ _ _ _ _=>trivial) fun _ σ₂ _=>gFor_next k false σ₂
structure CallOk (X:Ctx) (A:Around) (ae:AEnv) (env:Env) (o:Expr) (name:Str) (apos pos:Pos) (args:List Expr) (t:GText) (σ:St) (q:FnI × List (Str × AV)) (σ₃:St):Prop where
 body:q.1.body=t.body
 go:∀ ρ F s,Inv X ρ F σ s→(EnvK X ae env).p σ.n ρ F→∀ (Q:Value→Shared→Prop) (E:Value→Shared→Prop),
  (∀ a s₁ ρ₁ F₁ ge gi,GenAt F₁ s₁ (.func q.1.body ge) a gi→s.gens[gi]? = none→Inv X ρ₁ F₁ (σ₃.push (.ns q.2.reverse)) s₁→Stp ρ F σ s ρ₁ F₁ (σ₃.push (.ns q.2.reverse)) s₁→GenE X q.1 σ₃.n ge ρ₁→Q (.ref a) s₁) →
  wpAny (model X.prog X.w) A (eval (.Call (.Attribute o name apos) args [] pos) env) Q E s
theorem genCall_ok (S:SoundF X r m) (hA:Room X A (m + 1)) (t:GText) (o:Expr) (name:Str) (apos pos:Pos) (args:List Expr) (hline:apos.endLine=pos.line) (hc0:(notSuper o && fewOk args [])=true):RunAt σ (eGenCall X.K r ae t o name args) (CallOk X A ae env o name apos pos args t σ):=by
 rw [Bool.and_eq_true] at hc0
 refine RunAt.bind (Sim.at (S.here.ev A hA.less ae env o)) fun ov σ₁ c1=>RunAt.bind (RunAt.all fun ovv=>RunAt.all fun pl=>Sim.at (X:=X) (A:=A) (Sim.method (Γ:=RDen ov ovv) (x:=name) (pl:=pl) (Kn.le_refl _))) fun p σ₂ c2 =>
  RunAt.bind (C:=fun as σ₃=>((backTo pos (starEach args env)).any (·.1) || (backToKw pos (keywordEach [] env)).any (·.1.isNone))=false∧∀ f ρ F s,Inv X ρ F σ₂ s→(EnvK X ae env).p σ₂.n ρ F→Goes X A ρ F σ₂ s (PySem.evalArgs f true (backTo pos (starEach args env)) (backToKw pos (keywordEach [] env))) (RArgs as) σ₃)
   (fun ds b ev' cs e hc=>⟨no_stars pos e hc,fun f=>Sim.at (Sim.evalArgs S.here hA.less pos args [] (Kn.le_refl (EnvK X ae env))) ds b ev' cs e hc⟩) fun as σ₃ c3=>RunAt.opt fun fi hfi=>RunAt.cond fun hb=>RunAt.opt fun binds hbi=>RunAt.ret ?_
 have K:=genInfo_ok hfi
 refine ⟨hb,fun ρ F s I g Q E hQ=>?_⟩
 rw [eval_method hc0.1 hc0.2 hline]
 refine wpAny_bind (c1 ρ F s I g _ E fun ovv s₁ ρ₁ F₁ d1 I₁ st₁=>wpAny_bind (wpAny_standAt (wpAny_bind (wpAny_holding (c2 ovv _ ρ₁ F₁ s₁ I₁ d1 _ E fun q s₂ ρ₂ F₂ d2 I₂ st₂=>?_)))))
 have gE₂:=(EnvK X ae env).mono (st₁.trans st₂).le (st₁.trans st₂).same (st₁.trans st₂).sub g
 refine callWith_of (P:=KeepAt X q.1) c3.1 (fun _ x=>x) (c3.2 _ ρ₂ F₂ s₂ I₂ gE₂ _ E fun a s₃ ρ₃ F₃ da I₃ st₃=>?_)
 have dq1:=Den.step d2.1 st₃
 have st:=(st₁.trans st₂).trans st₃
 refine ⟨keepOk_looks I₃ K.keep dq1,da.kw.elim fun kvs q2=>?_⟩
 rw [q2.1]
 refine genMake hA K hbi I₃ ⟨dq1,(Dens.step d2.2 st₃).app da.pos,q2.2⟩ fun ga s₄ ρ₄ F₄ ge hg I₄ st₄ gE=>hQ ga s₄ ρ₄ F₄ ge _ hg ?_ I₄ (st.trans st₄) gE
 cases h:s.gens[s₃.gens.size]? with
 | none=>rfl
 | some x=>have:=st.gens _ _ h; rw [Array.getElem?_eq_none (Nat.le_refl _)] at this; exact noneOf this
theorem lapsFor {target:Expr} {body:List Stmt} {ce:Env} {ga:Addr} (ht:simpleTarget target=true):Laps X A (fun w=>assign target ce w >>= fun _=>execs body ce) ga (.forLoop target (.ref ga) body [] ce):=fun Z s h=>by
 refine codeAny_of_tree ?_
 show wpAny _ A ((forTurn target (.ref ga) body [] ce).onRaise (fun x=>do noteFrame x ce; theTreesLotGoes x)) _ _ s
 refine wpAny_noted (wpAny_bind (wpAny_standAt (wpAny_bind (wpAny_onRaise (wpAny_mono (h _) (fun o s' ho=>?_) fun _ _ e=>e)))))
 cases o with
 | none=>exact wpAny_pure ⟨rfl,codeAny_block (wpAny_execs_nil ho)⟩
 | some v =>
  show wpAny _ _ (letOwnedTupleGo target (.ref ga) v >>= fun _=>assign target ce v >>= fun _=>execs body ce >>= fun fl=>(match fl with
   | .next | .cont=>PySem.again (.forLoop target (.ref ga) body [] ce)
   | .brk=>pure (.done .next)
   | .ret v=>pure (.done (.ret v)))) _ _ _
  rw [go_simple ht,← bind_assoc (assign target ce v)]
  refine wpAny_bind (wpAny_pure (wpAny_bind (wpAny_mono (ho _) (fun fl s'' q=>?_) fun _ _ e=>e)))
  rw [q.1]
  exact wpAny_pure ⟨rfl,q.2⟩
theorem Sim.forGen (S:SoundF X r m) (hA:Room X A (m + 1)) (G:GFor) (target o:Expr) (name:Str) (apos pos fpos:Pos) (args:List Expr) (body:List Stmt) (hline:apos.endLine=pos.line) :
  SimS X A ae env (eForGen X.K r ae G target o name args body) (.For target (.Call (.Attribute o name apos) args [] pos) body [] fpos):=by
 refine cond_ind (P:=fun x=>SimS X A ae env x (.For target (.Call (.Attribute o name apos) args [] pos) body [] fpos)) (fun hc0=>?_) Sim.fail
 rw [Bool.and_eq_true] at hc0
 refine Sim.ofRun fun σ ρ F s I g=>RunAt.bind (genCall_ok (env:=env) (pos:=pos) S hA G.t o name apos args hline hc0.1) fun q σ₃ c=>RunAt.push ?_
 have one:∀ v w,Sim X A ((EnvK X ae env).and (RDen v w)) RFlow (EM.bind (eAssign X.K r ae v target) fun _=>r.exs ae body) (PySem.assign target env w >>= fun _=>PySem.execs body env):=fun v w =>
  Sim.bind (Sim.assign S.here hA.less target (Kn.fst (Kn.le_refl _)) (Kn.snd (Kn.le_refl _))) fun _ _=>(S.here.exs A hA.less ae env body).weaken (Kn.fst (Kn.fst (Kn.le_refl _)))
 intro ds fl ev' cs e hc Q E hQ
 have hfl:=gFor_next _ _ _ ds fl ev' cs e hc
 rw [exec_For]
 refine wpAny_bind (wpAny_standAt (wpAny_bind (c.go ρ F s I g _ E fun a s₁ ρ₁ F₁ ge gi hga hgi I₁ st₁ gE=>?_)))
 show wpAny _ A (foldedSetIterable (.Call (.Attribute o name apos) args [] pos) env (.ref a) >>= _) _ _ _
 refine wpAny_bind (m:=foldedSetIterable (.Call (.Attribute o name apos) args [] pos) env (.ref a)) (wpAny_pure (wpAny_bind (wpAny_standAt (wpAny_bind (wpAny_holding (wpAny_pyIter_gen hga.isg (wpAny_runOwn (h:=none) ?_)))))))
 rw [Around.mark_none]
 rw [c.body] at hga
 have cE:(EnvK X ae env).p (σ₃.push (.ns q.2.reverse)).n ρ₁ F₁:=(EnvK X ae env).mono st₁.le st₁.same st₁.sub g
 exact (genWalk S hA one (lapsFor hc0.2) I₁ st₁ hga hgi (St.get_push_self σ₃ _) (Nat.le_refl _) gE (fun F=>(EnvK X ae env).mono (Nat.le_refl _) (fun _ _=>rfl) (fun _ _ e=>e) cE) ds fl ev' cs e hc).2 _ fun s' ρ' F' If stf _ _=>hQ .next s' ρ' F' (hfl ▸ rfl) If stf
end
noncomputable def noFree (sc:Scope):Bool:=sc.names.all fun x=>!(x.2 == .free)
noncomputable def eLap (K:Frag) (r:Rec) (cae:AEnv) (elt target:Expr) (acc v:AV):EM AFlow:=EM.bind (eAssign K r cae v target) fun _=>EM.bind (EM.bind (r.ev cae elt) fun x=>eAppend [acc,x]) fun _=>EM.ret .next
noncomputable def lapT (elt target:Expr) (accv:Value) (ce:Env) (w:Value):Sem Flow:=assign target ce w >>= fun _=>(eval elt ce >>= fun x=>call (.builtin "list.append") [accv,x]) >>= fun _=>pure .next
noncomputable def eComp1G (K:Frag) (r:Rec) (ae:AEnv) (G:GFor) (elt target o:Expr) (name:Str) (args:List Expr) (sc:Scope):EM (AV × Nat):=_root_.cond ((notSuper o && fewOk args []) && (simpleTarget target && (compScope sc && noFree sc)))
 (EM.bind (eGenCall K r ae G.t o name args) fun q=>EM.bind (EM.push (.ns q.2.reverse)) fun L=>EM.bind (EM.push (.list [])) fun acc=>EM.bind (EM.push (.ns [])) fun Lc =>
  EM.bind (gFor r G.t ⟨q.1.scope,L,q.1.closure,.none,L⟩ (eLap K r ⟨sc,Lc,[],.none,ae.frm⟩ elt target (.ref acc)) (Lc + 1) G.f G.k true) fun _=>EM.ret (.ref acc,Lc)) EM.fail
section
variable {X:Ctx} {A:Around} {ρ:Rho} {F:Fz} {σ:St} {s:Shared} {Γ:Kn} {r:Rec} {m:Nat} {ae:AEnv} {env:Env}
theorem lapsComp {elt target iter:Expr} {sc:Scope} {pos:Pos} {accv:Value} {ce:Env} {ga:Addr} (ht:simpleTarget target=true):Laps X A (lapT elt target accv ce) ga (.compLoop (.ListComp elt [⟨target,iter,[],0⟩] sc pos) 0 (.ref ga) accv ce):=fun Z s h=>by
 refine codeAny_of_tree ?_
 show wpAny _ A ((compTurn (.ListComp elt [⟨target,iter,[],0⟩] sc pos) 0 (.ref ga) accv ce).onRaise (fun x=>do noteFrame x ce; theTreesLotGoes x)) _ _ s
 rw [compTree_eq]
 refine wpAny_noted (wpAny_bind (wpAny_standAt (wpAny_bind (wpAny_bind (wpAny_mono (h _) (fun o s' ho=>?_) fun _ _ e=>e)))))
 cases o with
 | none=>exact wpAny_pure (wpAny_pure ho)
 | some v =>
  show wpAny _ _ (letOwnedTupleGo target (.ref ga) v >>= fun _=>pure (some v)) _ _ _
  rw [go_simple ht]
  refine wpAny_bind (wpAny_pure (wpAny_pure ?_))
  show wpAny _ _ (assign target ce v >>= fun _=>(eval elt ce >>= fun x=>call (.builtin "list.append") [accv,x]) >>= fun _=>PySem.again (.compLoop (.ListComp elt [⟨target,iter,[],0⟩] sc pos) 0 (.ref ga) accv ce)) _ _ _
  have e:(assign target ce v >>= fun _=>(eval elt ce >>= fun x=>call (.builtin "list.append") [accv,x]) >>= fun _=>PySem.again (.compLoop (.ListComp elt [⟨target,iter,[],0⟩] sc pos) 0 (.ref ga) accv ce):Sem Fin)=(lapT elt target accv ce v >>= fun _=>PySem.again (.compLoop (.ListComp elt [⟨target,iter,[],0⟩] sc pos) 0 (.ref ga) accv ce):Sem Fin):=by
   unfold lapT
   simp only [bind_assoc,pure_bind]
  rw [e]
  exact wpAny_bind (wpAny_mono (ho _) (fun fl s'' q=>wpAny_pure ⟨rfl,q.2⟩) fun _ _ e=>e)
theorem comp1G_ok (S:SoundF X r m) (hA:Room X A (m + 1)) (G:GFor) (elt target o:Expr) (name:Str) (apos pos cpos:Pos) (args:List Expr) (sc:Scope) (hline:apos.endLine=pos.line):RunAt σ (eComp1G X.K r ae G elt target o name args sc) (Comp1 X A ae env elt target (.Call (.Attribute o name apos) args [] pos) sc cpos σ):=by
 refine cond_ind (P:=fun x=>RunAt σ x (Comp1 X A ae env elt target (.Call (.Attribute o name apos) args [] pos) sc cpos σ)) (fun hc0=>?_) RunAt.fail
 replace hc0:=Bool.and_eq_true_iff.mp hc0
 have hc2:=Bool.and_eq_true_iff.mp hc0.2
 have hc3:=Bool.and_eq_true_iff.mp hc2.2
 have K:=compScope_ok hc3.1
 have Kf:∀ x ∈ sc.names,x.2 ≠ .free:=fun x hx e=>by
  have:=List.all_eq_true.mp hc3.2 x hx
  rw [e] at this
  exact ff this
 have hrl:relabel sc env=sc:=by
  unfold relabel
  rw [map_eq_self (l:=sc.names) fun x hx=>by
   obtain ⟨n,k⟩:=x
   have:(k == NameKind.free)=false:=beq_false_of_ne (Kf _ hx)
   dsimp only
   rw [this]
   rfl]
 refine RunAt.bind (genCall_ok (env:=env) (pos:=pos) S hA G.t o name apos args hline hc0.1) fun q σ₃ c=>RunAt.push (RunAt.push (RunAt.push ?_))
 intro ds p ev' cs e hc
 refine EM.bind_use e hc fun fl ev₁ cs₁ cs₂ e₁ e₂ c1 c2=>inj3 e₂ fun i1 i2 _=>?_
 rw [← i1,← i2]
 have hfl:=gFor_next _ _ _ ds fl ev₁ cs₁ e₁ c1
 refine ⟨K,rfl,fun ρ F s I g=>⟨[],closureFor_none Kf,fun E R hR=>?_⟩⟩
 unfold CompW
 rw [hrl]
 refine c.go ρ F s I g _ E fun a s₁ ρ₁ F₁ ge gi hga hgi I₁ st₁ gE=>wpAny_pyIter_gen hga.isg ?_
 have c3:=Sim.newList (X:=X) (A:=A) (Γ:=Kn.top) (xs:=[]) (vs:=[]) (fun _ _ _ _=>rfl) (σ₃.push (.ns q.2.reverse),[]) (.ref (σ₃.n + 1)) ((σ₃.push (.ns q.2.reverse)).push (.list []),[]) _ rfl ⟨Nat.zero_le _,trivial⟩
 refine c3 ρ₁ F₁ s₁ I₁ trivial _ E fun accv s₃ ρ₃ F₃ d3 I₃ st₃=>?_
 replace d3:Den ((σ₃.push (.ns q.2.reverse)).push (.list [])).n ρ₃ F₃ (.ref (σ₃.n + 1)) accv:=d3
 replace I₃:Inv X ρ₃ F₃ ((σ₃.push (.ns q.2.reverse)).push (.list [])) s₃:=I₃
 replace st₃:Stp ρ₁ F₁ (σ₃.push (.ns q.2.reverse)) s₁ ρ₃ F₃ ((σ₃.push (.ns q.2.reverse)).push (.list [])) s₃:=st₃
 refine wpAny_newFunctionEnv K.cell (fun y hy=>nomatch hy) (fun h' hn hsb=>?_) K.kind
 have r₄:=I₃.push (a:=s₃.heap.objs.size) (c:=.ns []) (Heap.get?_none_of_le (Nat.le_refl _)) (fun bb oo ee=>hsb.extBut bb oo (Nat.ne_of_lt (Heap.lt_size ee)) (Heap.get?_push_of_some _ ee)) (.ofNs hn fun y av h=>noneOf h) (s₃.toks + ([]:List (Str × Value)).length)
 have st:=(st₁.trans st₃).trans r₄.2
 have g':EnvOk X ae env (((σ₃.push (.ns q.2.reverse)).push (.list [])).push (.ns [])).n (ρ₃.put (σ₃.n + 1 + 1) s₃.heap.objs.size):=(EnvK X ae env).mono st.le st.same st.sub g
 have d3':=Den.step d3 r₄.2
 have gC:EnvOk X ⟨sc,σ₃.n + 1 + 1,[],.none,ae.frm⟩ { newEnv sc s₃.heap.objs.size env.globals [] env.qual none .none (some env) env.builtins with scope:=sc } (((σ₃.push (.ns q.2.reverse)).push (.list [])).push (.ns [])).n (ρ₃.put (σ₃.n + 1 + 1) s₃.heap.objs.size) :=
  ⟨rfl,K.kind,(Rho.put_self _ _ _).symm,Nat.lt_succ_self _,rfl,(fun p hp=>nomatch hp),g'.gl,g'.bi,g'.fr,g'.fl,g'.top,.inl rfl⟩
 have hga₄:=(hga.step I₁ I₃ st₃).step I₃ r₄.1 r₄.2
 rw [c.body] at hga₄
 have gE₄:GenE X q.1 σ₃.n ge (ρ₃.put (σ₃.n + 1 + 1) s₃.heap.objs.size):=by
  have st13:=st₃.trans r₄.2
  refine ⟨gE.frm.trans (congrArg some (st13.same σ₃.n (Nat.lt_succ_self _)).symm),gE.kind,gE.co,(EnvK (XG X ge σ₃.n) ⟨q.1.scope,σ₃.n,q.1.closure,.none,σ₃.n⟩ ge).mono (F:=F) (Nat.le_refl _) (fun i hi=>st13.same i hi) (fun _ _ e=>e) gE.env⟩
 have one:∀ v w,Sim X A (((EnvK X ⟨sc,σ₃.n + 1 + 1,[],.none,ae.frm⟩ { newEnv sc s₃.heap.objs.size env.globals [] env.qual none .none (some env) env.builtins with scope:=sc }).and (RDen (.ref (σ₃.n + 1)) accv)).and (RDen v w)) RFlow (eLap X.K r ⟨sc,σ₃.n + 1 + 1,[],.none,ae.frm⟩ elt target (.ref (σ₃.n + 1)) v)
   (lapT elt target accv { newEnv sc s₃.heap.objs.size env.globals [] env.qual none .none (some env) env.builtins with scope:=sc } w):=fun v w =>
  Sim.bind (Sim.assign S.here hA.less target (Kn.fst (Kn.fst (Kn.le_refl _))) (Kn.snd (Kn.le_refl _))) fun _ _=>Sim.bind (R:=RDen) (Sim.bind ((S.here.ev A hA.less _ _ elt).weaken (Kn.fst (Kn.fst (Kn.fst (Kn.le_refl _))))) fun x xv=>Sim.append [.ref (σ₃.n + 1),x] _ [accv,xv] fun _ _ _ g=>⟨g.1.1.1.2,g.2,rfl⟩) fun _ _=>Sim.ret (b:=AFlow.next) (a:=Flow.next) (R:=RFlow) fun _ _ _ _=>rfl
 have hL:(((σ₃.push (.ns q.2.reverse)).push (.list [])).push (.ns [])).get σ₃.n=some (.ns q.2.reverse):=by
  rw [St.get_push_lt _ _ (Nat.lt_succ_of_lt (Nat.lt_succ_self _)),St.get_push_lt _ _ (Nat.lt_succ_self _)]
  exact St.get_push_self σ₃ _
 have loop:=(genWalk S hA one (lapsComp (iter:=.Call (.Attribute o name apos) args [] pos) (sc:=sc) (pos:=cpos) hc2.1) r₄.1 st hga₄ hgi hL (Nat.le_succ_of_le (Nat.le_succ _)) gE₄ (fun F=>⟨gC,d3'⟩) ds fl ev₁ cs₁ e₁ c1).2 (R accv (newEnv sc s₃.heap.objs.size env.globals [] env.qual none .none (some env) env.builtins)) fun s' ρ' F' If stf le same=>?_
 ·refine codeAny_compStart_list loop (wpAny_pyIter_gen hga₄.isg loop)
 ·refine hR accv _ .next s' ρ' F' ⟨?_,If,stf,Nat.le_trans st₁.le (Nat.le_succ _),le,?_⟩
  ·exact ⟨d3'.1.trans (congrArg Value.ref (same _ (Nat.lt_succ_of_lt (Nat.lt_succ_self _))).symm),Nat.lt_of_lt_of_le (Nat.lt_succ_of_lt (Nat.lt_succ_self _)) le⟩
  ·exact ((same _ (Nat.lt_succ_self _)).trans (Rho.put_self _ _ _)).symm
end
noncomputable def attrStr (K:Frag) (attr:Str) (av:AV):Option Str:=onObj av (fun C fs=>(attrOf K C fs attr).bind strAt) none
noncomputable def attrStrs (K:Frag) (attr:Str) (xs:List AV):List Str:=xs.map fun x=>(attrStr K attr x).getD Str.empty
noncomputable def genScopeOk (sc:Scope) (x:Str):Bool:=((sc.kind == .function) && !sc.isCoroutine) && ((sc.names.all fun y=>!(y.2 == .cell) && !(y.2 == .free)) && ((sc.names.lookup (".0" : Str) == some NameKind.local) && (sc.names.lookup x == some NameKind.local)))
structure GScope (sc:Scope) (x:Str):Prop where
 kind:sc.kind = .function
 co:sc.isCoroutine=false
 cell:∀ y ∈ sc.names,y.2 ≠ .cell
 free:∀ y ∈ sc.names,y.2 ≠ .free
 zero:sc.names.lookup (".0" : Str)=some NameKind.local
 x:sc.names.lookup x=some NameKind.local
theorem genScope_ok {sc:Scope} {x:Str} (h:genScopeOk sc x=true):GScope sc x:=by
 rw [genScopeOk,Bool.and_eq_true,Bool.and_eq_true,Bool.and_eq_true,Bool.and_eq_true,Bool.not_eq_true',List.all_eq_true] at h
 refine ⟨eq_of_beq h.1.1,h.1.2,fun y hy e=>?_,fun y hy e=>?_,eq_of_beq h.2.2.1,eq_of_beq h.2.2.2⟩
 ·have:=h.2.1 y hy
  rw [e] at this
  exact ff this
 ·have:=h.2.1 y hy
  rw [e] at this
  exact ff this
noncomputable def findTab (c:Addr) (l:List (Nat × Cell)):Option Nat:=l.foldr (fun p k=>onCTab p.2 (fun c' _ _=>_root_.cond (c' == c) (some p.1) k) k) none
noncomputable def plainIter (e:Expr):Bool:=onAttribute e (fun _ _ _=>true) <| onName e (fun _ _=>true) false
theorem plainIter_fold {iter:Expr} {env:Env}:plainIter iter=true→∀ x,genFold iter env x=pure x :=
 onAttribute_ind (P:=fun b e=>b=true→∀ x,genFold e env x=pure x) (fun _ _ _ _ _=>rfl) (onName_ind (P:=fun b e=>b=true→∀ x,genFold e env x=pure x) (fun _ _ _ _=>rfl) ff)
noncomputable def eTabOf (ae:AEnv):EM (Nat × Addr × Array Value):=onVRef ae.code (fun c=>EM.bind (EM.get fun σ=>findTab c σ.objs) fun i=>EM.bind (EM.cellAs asTab i) fun t=>EM.bind (EM.chk (t.1 == c)) fun _=>EM.bind (EM.upd fun σ=>σ.set i (.tab c t.2.1 none)) fun _=>EM.ret (i,c,t.2.1)) EM.fail
noncomputable def eJoin (K:Frag) (r:Rec) (ae:AEnv) (sep:Str) (x x1:Str) (attr:Str) (iter:Expr) (gsc:Scope):EM AV:=_root_.cond ((genScopeOk gsc x && (x1 == x)) && (plainIter iter && !(x == ("__debug__" : Str))))
 (EM.bind (r.ev ae iter) fun v=>onRef v (fun i=>EM.bind (eCellL i) fun xs=>EM.bind (EM.cond ((∀ y ∈ xs,(attrStr K attr y).isSome)∧JoinOk sep (attrStrs K attr xs)=true∧xs.length≤1000000)) fun _=>EM.bind (eTabOf ae) fun _=>EM.ret (.str (Txt.join sep (attrStrs K attr xs)))) EM.fail) EM.fail
section
variable {X:Ctx} {A:Around} {ρ:Rho} {F:Fz} {σ:St} {s:Shared} {Γ:Kn} {r:Rec} {m:Nat} {ae:AEnv} {env:Env}
noncomputable def TabAt (ae:AEnv) (σ:St) (q:Nat × Addr × Array Value) (σ₁:St):Prop:=ae.code = .ref q.2.1∧(∃ ks,σ.get q.1=some (.tab q.2.1 q.2.2 ks))∧σ₁=σ.set q.1 (.tab q.2.1 q.2.2 none)
theorem tabOf_run:RunAt σ (eTabOf ae) (TabAt ae σ):=by
 unfold eTabOf
 refine onVRef_ind (e:=ae.code) (P:=fun y v=>ae.code=v→RunAt σ y (TabAt ae σ)) (fun c hc=>?_) (fun _=>RunAt.fail) rfl
 exact RunAt.get fun i _=>RunAt.cellAs asTab_some fun t ht=>RunAt.chk fun e=>RunAt.upd (RunAt.ret ⟨hc,⟨t.2.2,by rw [← eq_of_beq e]; exact ht⟩,rfl⟩)
theorem RunAt.tabOf {γ:Type} {D:γ→St→Prop} {f:Nat × Addr × Array Value→EM γ} (h:∀ q ks,ae.code = .ref q.2.1→σ.get q.1=some (.tab q.2.1 q.2.2 ks)→RunAt (σ.set q.1 (.tab q.2.1 q.2.2 none)) (f q) D):RunAt σ (EM.bind (eTabOf ae) f) D :=
 RunAt.bind tabOf_run fun q σ₁ p=>p.2.1.elim fun ks hk=>p.2.2 ▸ h q ks p.1 hk
theorem genCode {M:Model} {E:Value→Shared→Prop} {env:Env} {c P:Addr} {oc:Obj} {ps:Array Value} {pos:Pos} {qualname:Str} {scope:Scope} {Q:Value→Shared→Prop} (hc:env.code = .ref c) (ho:s.heap.get? c=some oc) (hh:CodeH c P oc) (hP:s.heap.get? P=some (oTab ps)) (ht:TriplesOk ps.toList)
  (hQ:∀ code h' tk more,Heap.ExtBut P s.heap h'→h'.get? P=some (oTab (ps ++ more))→TriplesOk (ps ++ more).toList→Q code { s with heap:=h',toks:=tk }):wpAny M A (genexprCode env pos qualname scope) Q E s:=by
 cases hh with | mk h₀ ps₀ ps₁ e x y =>
 obtain ⟨o,vs,file,tf,flags,tg,inF,text,tt,op,ho₀,hd,h11,h2,h7,h9,h10,hr⟩:=x
 rw [← Option.some.inj (e.symm.trans ho₀)] at hd
 unfold genexprCode codeAt
 rw [hc,if_neg (show ¬ ((Value.ref c == Value.none)=true) from Bool.false_ne_true)]
 refine wpAny_bind (wpAny_fieldsOf ho hd ?_)
 rw [h11]
 refine wpAny_bind (wpAny_fieldsOf hP rfl ?_)
 cases hnf:codeAmong pos ps.toList with
 | some cv=>exact wpAny_pure (hQ cv s.heap s.toks #[] (Heap.ExtBut.refl _ _) (by rw [Array.append_empty]; exact hP) (by rw [Array.append_empty]; exact ht))
 | none =>
  rw [h2,h7,h9,h10]
  refine wpAny_bind (wpAny_newCodeX fun c' P' h' tk hk hc' hP' hcode' htab' hrec'=>?_)
  have hop':=hk _ _ hP
  refine wpAny_bind (wpAny_updateFieldsOfTheText hop' rfl ?_)
  have hget:(h'.update P (Obj.mapFields (fun vs=>if (codeAmong pos vs.toList).isSome=true then vs else vs ++ #[rawInt pos.line,rawInt pos.col,.ref c']))).get? P=some (oTab (ps ++ #[rawInt pos.line,rawInt pos.col,.ref c'])):=by
   rw [Heap.get?_update_self _ hop' rfl]
   show some (oTab (if (codeAmong pos ps.toList).isSome=true then ps else ps ++ #[rawInt pos.line,rawInt pos.col,.ref c']))=_
   rw [hnf]; rfl
  refine wpAny_bind (wpAny_fieldsOf hget rfl ?_)
  have hl:(ps ++ #[rawInt pos.line,rawInt pos.col,Value.ref c']).toList=ps.toList ++ [rawInt pos.line,rawInt pos.col,.ref c']:=Array.toList_append ..
  rw [hl,codeAmong_snoc _ ht hnf]
  exact wpAny_pure (hQ _ _ _ #[rawInt pos.line,rawInt pos.col,.ref c'] (fun b o' hb e=>((Heap.SameBut.update ..).extBut b o' hb (hk b o' e))) hget (by rw [hl]; exact TriplesOk_snoc _ _ _ _ ht))
theorem tab_back (I:Inv X ρ F σ s) {k:Nat} {c:Addr} {ps:Array Value} {ks:Option (List (Int × Int))} (htab:σ.get k=some (.tab c ps ks)) {more:Array Value} {s':Shared} (keep:Heap.ExtBut (ρ k) s.heap s'.heap) (hP:s'.heap.get? (ρ k)=some (oTab (ps ++ more))) (ht:TriplesOk (ps ++ more).toList)
  (h1:s'.drawn=s.drawn) (h2:s'.os=s.os) (h3:AllBare s'.gens) (h4:∀ (i:Nat) x,s.gens[i]? = some x→s'.gens[i]? = some x):Inv X ρ F (σ.set k (.tab c ps none)) s'∧Stp ρ F σ s ρ F (σ.set k (.tab c ps none)) s' :=
 (I.at htab).ex fun o h0 (h:TabO F (ρ k) c ps ks o)=>by
  cases h with | mk m0 oc e hc hh ht0 hk=>exact I.turn htab keep ⟨_,hP,more,oc,rfl,hc,hh,ht,fun l h=>noneOf h⟩ rfl h1 h2 h3 h4
theorem attrStr_is {K:Frag} {attr:Str} {av:AV} {y:Str}:attrStr K attr av=some y→∃ C fs,av = .obj C fs∧attrOf K C fs attr=some (.str y) :=
 onObj_ind (P:=fun (o:Option Str) av=>o=some y→∃ C fs,av = .obj C fs∧attrOf K C fs attr=some (.str y)) (fun C fs h=>(Option.bind_eq_some_iff.mp h).elim fun a q=>⟨C,fs,rfl,onStr_ind (P:=fun (o:Option Str) a=>attrOf K C fs attr=some a→o=some y→attrOf K C fs attr=some (.str y)) (fun z h1 h2=>Option.some.inj h2 ▸ h1) (fun _ h=>noneOf h) q.1 q.2⟩) fun h=>noneOf h
theorem join_elt {prog:Program} {w:World} {A':Around} {E':Value→Shared→Prop} {K:Frag} {n:Nat} {s₅:Shared} (keepF:∀ b o,F b=some o→s₅.heap.get? b=some o) (Kin:K.In s₅.heap) {av:AV} {v:Value} {st x attr:Str} {q1 q2:Pos} (dv:Den n ρ F av v) (hst:attrStr K attr av=some st) {gsc:Scope} (G:GScope gsc x) (hxd:(x == ("__debug__" : Str))=false) {genv:Env} (hg:genv.scope=gsc)
  {m₂:Str→Option Value} (hn:s₅.heap.Ns genv.locals m₂) (hmx:m₂ x=some v):wpAny (model prog w) A' (eval (.Attribute (.Name x q1) attr q2) genv) (fun y s'=>(∃ u,y = .str st u)∧Keeps s₅ s') E' s₅:=by
 refine (attrStr_is hst).elim fun C q=>q.elim fun fs q=>?_
 have ev_attr:eval (.Attribute (.Name x q1) attr q2) genv=(attributeBase (.Name x q1) attr genv (eval (.Name x q1) genv) >>= fun o=>PySem.standAt q2.atName >>= fun _=>PySem.holding [o] (getAttr o attr true) >>= fun r=>letTemporaryGo (.Name x q1) o r >>= fun _=>pure r):=rfl
 rw [ev_attr,base_plain rfl]
 refine wpAny_bind (wpAny_Name (wpAny_loadName_local (env:=genv) (hg ▸ G.kind) (by show genv.scope.names.lookup x=_; rw [hg]; exact G.x) hn hmx ?_) hxd)
 refine wpAny_bind (wpAny_standAt (wpAny_bind (wpAny_holding ?_)))
 rw [q.1] at dv
 have p:=attrIf_ok q.2
 have h1:=p.1.1
 rw [plainGet,Bool.and_eq_true] at h1
 cases den_obj dv with | mk a d od es k e ha hd he hs =>
 refine (lookIn_es hs he p.2.1).elim fun w hw=>?_
 rw [e]
 refine get_value Kin (ox:=oInst C d) (od:=some od) ⟨keepF _ _ ha,rfl,rfl,keepF _ _ hd⟩ (isBuiltin_ok h1.1) (findObj_own h1.2 p.1.2 hw.1) (okV_handed hw.2 p.2.2) ?_
 exact (den_str hw.2).elim fun u e=>e ▸ wpAny_bind (wpAny_letTemporaryGo (wpAny_pure ⟨⟨u,rfl⟩,_,_,rfl,fun _ _ e=>e⟩))
theorem Dens.back {n:Nat}:∀ {xs:List AV} {vs:List Value},Dens n ρ F xs vs→∀ {i:Nat} {v:Value},vs[i]? = some v→∃ av,xs[i]? = some av∧Den n ρ F av v
 | [],vs,d,i,v,e=>by rw [show vs=[] from d] at e; exact noneOf e
 | _ :: _,[],d,_,_,_=>d.elim
 | x :: xs,v :: vs,d,0,w,e=>⟨x,rfl,Option.some.inj e ▸ d.1⟩
 | x :: xs,v :: vs,d,i + 1,w,e=>Dens.back d.2 (i:=i) e
noncomputable def JoinP (K:Frag) (attr:Str) (xs:List AV) (j:Nat) (y:Value):Prop:=∃ av st u,xs[j]? = some av∧attrStr K attr av=some st∧y = .str st u
theorem pass_all (n:Nat):passing (fun _=>true) n 0=List.range n:=by
 unfold passing
 rw [List.drop_zero]
 exact List.filter_eq_self.mpr fun _ _=>rfl
theorem join_items {K:Frag} {attr:Str} {xs:List AV} {l:List (Str × Tok)} {n:Nat} (hn:n=xs.length) (h1:l.length=xs.length) (h2:∀ (j:Nat) v,(strValues l).toArray[j]? = some v→∃ i,(List.range n)[j]? = some i∧JoinP K attr xs i v):l.map (·.1)=attrStrs K attr xs:=by
 refine List.ext_getElem? fun j=>?_
 unfold attrStrs
 rw [List.getElem?_map,List.getElem?_map]
 rcases Nat.lt_or_ge j l.length with hj | hj
 ·have e1:(strValues l).toArray[j]? = some (.str l[j].1 l[j].2):=by simp [strValues,hj]
  refine (h2 j _ e1).elim fun i q=>q.2.elim fun av p=>p.elim fun st p=>p.elim fun u p=>?_
  have hi:j=i:=Option.some.inj ((List.getElem?_range (hn ▸ h1 ▸ hj)).symm.trans q.1)
  have p1:xs[j]? = some av:=hi ▸ p.1
  rw [List.getElem?_eq_getElem hj,p1]
  show some l[j].1=some ((attrStr K attr av).getD Str.empty)
  rw [p.2.1]
  exact congrArg some (Value.str.inj p.2.2).1
 ·rw [List.getElem?_eq_none hj,List.getElem?_eq_none (h1 ▸ hj)]
  rfl
theorem Sim.join (S:Sound X r m) (hA:Room X A (m + 1)) (sep x x1 attr:Str) (kk:Nat) (p0 apos pos px q1 q2 gpos:Pos) (iter:Expr) (gsc:Scope) (hline:apos.endLine=pos.line) :
  SimE X A ae env (eJoin X.K r ae sep x x1 attr iter gsc) (.Call (.Attribute (.Constant (.str sep) kk p0) "join" apos) [.GeneratorExp (.Attribute (.Name x1 q1) attr q2) [⟨.Name x px,iter,[],0⟩] gsc gpos] [] pos):=Sim.chk fun hc0=>Sim.ofRun fun σ ρ F s I g=>RunAt.bind (Sim.at (S.ev A hA.less ae env iter)) fun v σ₁ c1=>by
 rw [Bool.and_eq_true,Bool.and_eq_true,Bool.and_eq_true,Bool.not_eq_true'] at hc0
 rw [eq_of_beq hc0.1.2]
 have G:=genScope_ok hc0.1.1
 refine onRef_ind (P:=fun y v=>(∀ ρ F s,Inv X ρ F σ s→(EnvK X ae env).p σ.n ρ F→Goes X A ρ F σ s (PySem.eval iter env) (RDen v) σ₁)→RunAt σ₁ y fun b σ'=>Goes X A ρ F σ s _ (RDen b) σ') (fun i c1=>?_) (fun _=>RunAt.fail) c1
 refine RunAt.cellL fun xs hx hl=>RunAt.cond fun h4=>RunAt.tabOf fun tq ks hcode htab=>RunAt.ret fun Q E hQ=>?_
 have hec:env.code = .ref tq.2.1:=(EnvOk.cd g).elim (fun h=>nomatch hcode.symm.trans h) fun h=>h.trans hcode
 have gl:env.globals=mainGlobals:=EnvOk.gl g
 have bi:env.builtins=builtinsNs:=EnvOk.bi g
 rw [eval_method rfl rfl hline]
 refine wpAny_bind (Calls.Constant_str (wpAny_bind (wpAny_standAt (wpAny_bind (wpAny_holding (GM.join ?_))))))
 refine callWith_of (P:=fun _=>True) rfl (fun _ _=>⟨.machine,.inr (.inl rfl),.now⟩) ?_
 show wpAny _ _ (PySem.evalArgs _ true ((false,PySem.eval (Expr.GeneratorExp (Expr.Attribute (Expr.Name x q1) attr q2) [⟨Expr.Name x px,iter,[],0⟩] gsc gpos) env) :: []) []) _ _ _
 refine Calls.evalArgs_plain (Calls.spliced_cons ?_)
 refine wpAny_GeneratorExp_walksQ hA.2.2.1 G.co (closureFor_none G.free) G.cell G.zero G.x G.kind (Nat.lt_of_le_of_lt (Nat.le_add_right _ _) hA.1) ?_ (plainIter_fold hc0.2.1)
 refine c1 ρ F _ (I.toks (s.toks + 1)) g _ E fun lv s₂ ρ₂ F₂ dl I₂ st₂=>?_
 rw [(show lv = .ref (ρ₂ i)∧i < σ₁.n from dl).1]
 refine (I₂.atL hx).elim fun ws q=>q.elim fun kk' q=>?_
 refine wpAny_pyIter_list (items:=ws.toArray) ⟨_,q.1,rfl,kk',rfl⟩ ?_
 have I₃:=(I₂.grow (h':=s₂.heap.push (oIter (.ref (ρ₂ i)) 0)) (fun b o e=>Heap.get?_push_of_some _ e) s₂.toks).1
 refine ⟨I₃.limit,(I₃.at htab).ex fun o₃ h3 (hT:TabO F₂ (ρ₂ tq.1) tq.2.1 tq.2.2 ks o₃)=>?_⟩
 cases hT with | mk m0 oc e hcF hh ht0 hk =>
 refine genCode hec (I₃.froz _ _ hcF) hh (e ▸ h3) ht0 fun code h₄ tk₄ more₂ hx₄ hP₄ ht₄=>?_
 rw [Array.append_assoc] at hP₄ ht₄
 have I₄:=(tab_back (s':={ s₂ with heap:=h₄,toks:=tk₄ }) I₃ htab hx₄ hP₄ ht₄ rfl rfl I₃.gens fun _ _ e=>e).1
 rw [gl,bi]
 refine I₄.looksB.here ?_
 have hIa:s₂.heap.get? s₂.heap.objs.size=none:=Heap.get?_none_of_le (Nat.le_refl _)
 have notI:∀ b o,s₂.heap.get? b=some o→b ≠ s₂.heap.objs.size:=fun b o e h=>noneOf (hIa.symm.trans (h ▸ e))
 have hPI:s₂.heap.objs.size ≠ ρ₂ tq.1:=(I₂.not0 hIa htab).symm
 have hxP:ρ₂ i ≠ ρ₂ tq.1:=I₂.ne hx htab fun e=>by rw [e] at hx; exact nomatch Option.some.inj (hx.symm.trans htab)
 have keep₄:∀ b o,b ≠ ρ₂ tq.1→s₂.heap.get? b=some o→h₄.get? b=some o:=fun b o hb e=>hx₄ b o hb (Heap.get?_push_of_some _ e)
 have hiter₄:h₄.get? s₂.heap.objs.size=some (oIter (.ref (ρ₂ i)) 0):=hx₄ _ _ hPI (Heap.get?_push_size _ rfl)
 have hlist₄:=keep₄ _ _ hxP q.1
 have hst0:h₄.IsListIter s₂.heap.objs.size (ρ₂ i) 0∧h₄.IsList (ρ₂ i) ws.toArray:=⟨⟨_,hiter₄,rfl,rfl⟩,⟨_,hlist₄,rfl,kk',rfl⟩⟩
 have hsz:ws.toArray.size=xs.length:=by rw [List.size_toArray,q.2.length]
 refine ⟨s₂.heap.objs.size,[s₂.heap.objs.size,ρ₂ i],[s₂.heap.objs.size],ws.toArray.size,(fun j v=>ws.toArray[j]? = some v),(fun j h=>h.IsListIter s₂.heap.objs.size (ρ₂ i) j∧h.IsList (ρ₂ i) ws.toArray),(fun _=>true),
  JoinP X.K attr xs,rfl,fun A' hA'=>Walks.list hA' _ _ (notI _ _ q.1) ws.toArray,hst0,?_,I₄.limit,?_,?_,?_⟩
 ·intro b hb
  rcases List.mem_cons.mp hb with h | h
  ·exact h ▸ Heap.lt_size hiter₄
  ·exact List.mem_singleton.mp h ▸ Heap.lt_size hlist₄
 ·exact fun hmem=>I₂.limit.elim fun mc p=>p.1.elim fun o p=>p.elim fun es p=>p.elim fun ep p=>notI _ _ p.1 (List.mem_singleton.mp hmem)
 ·intro href hk
  refine ⟨fun A' E' j v s₅ m₂ _ _ _ _ _=>?_,fun A' E' j v s₅ m₂ hA' hP _ hn hmx hkeep=>?_⟩
  ·rw [List.forIn_nil]
   exact wpAny_pure ⟨rfl,s₅.heap,s₅.toks,rfl,fun _ _ e=>e⟩
  ·rw [List.getElem?_toArray] at hP
   refine (q.2.back hP).elim fun av ha=>(Option.isSome_iff_exists.mp (h4.1 av (List.mem_of_getElem? ha.1))).elim fun st hst=>?_
   have keepF:∀ b o,F₂ b=some o→s₅.heap.get? b=some o:=fun b o e=>by
    have e2:=I₂.froz b o e
    have e4:=keep₄ b o (fun hb=>I₂.notF e htab hb.symm) e2
    exact hkeep b (List.mem_range.mpr (Heap.lt_size e4)) (fun hm=>notI _ _ e2 (List.mem_singleton.mp hm)) o (hk b o e4)
   exact wpAny_mono (join_elt (x:=x) (attr:=attr) keepF (fun b o e=>keepF b o (I₂.base.K b o e)) ha.2 hst G hc0.2.2 rfl hn hmx) (fun y s' p=>⟨p.1.elim fun u e=>⟨av,st,u,ha.1,hst,e⟩,p.2⟩) fun _ _ e=>e
 ·intro a h₅ tk gs hbare hlt hsz5 hkeep W4 G4
  refine Calls.spliced_nil ⟨trivial,?_⟩
  show wpAny _ A (PySem.call (.builtin "str.join") [.str sep _,.ref a]) Q E _
  rw [pass_all] at W4
  refine SC.joinGen W4.in4_2 (fun _ _ h=>h.1.typeIs) G4 (fun b hb=>?_) (.head _) (fun j v p=>p.elim fun i p=>p.2.elim fun av p=>p.elim fun st p=>p.elim fun u p=>⟨st,u,p.2.2⟩) (fun s' l hm hl=>?_) ?_
  ·show b < h₅.objs.size
   have hlt':h₄.objs.size < a:=hlt
   rw [hsz5]
   rcases List.mem_cons.mp hb with hb | hb
   ·rw [hb]; exact Nat.lt_succ_self a
   ·rcases List.mem_cons.mp hb with hb | hb
    ·rw [show b=h₄.objs.size from hb]; exact Nat.lt_succ_of_lt hlt'
    ·exact Nat.lt_succ_of_lt (Nat.lt_trans (List.mem_range.mp hb) hlt')
  ·have h1:(strValues l).toArray.size=_:=hl.1
   rw [List.length_range,hsz,List.size_toArray] at h1
   have hlen:l.length=xs.length:=by rw [← h1]; exact (List.length_map ..).symm
   rw [join_items hsz hlen hl.2]
   refine ⟨h4.2.1,fun t' k=>?_⟩
   have keepM:∀ b o,h₄.get? b=some o→b ≠ s₂.heap.objs.size→s'.heap.get? b=some o:=fun b o e hb=>hm.heap b o (fun hmem=>by
    rcases List.mem_cons.mp hmem with h | h
    ·exact noneOf ((Heap.get?_none_of_le (Nat.le_refl _)).symm.trans ((show b=h₄.objs.size from h) ▸ e))
    ·exact hb (List.mem_singleton.mp h)) (hkeep b o e)
   have hgq:GenOnlyQ s₂.gens.size (s₂.gens.push gs) s'.gens:=hm.gens
   have hg':∀ (i:Nat) x,s₂.gens[i]? = some x→s'.gens[i]? = some x:=fun i x e=>by
    have hlt:=(Array.getElem?_eq_some_iff.mp e).1
    have e':(s₂.gens.push gs)[i]? = some x:=(Array.getElem?_push_lt hlt).trans ((Array.getElem?_eq_getElem hlt).symm.trans e)
    exact hgq.elim (fun h=>h ▸ e') fun h=>(h.1.2 i (Nat.ne_of_lt hlt)).trans e'
   have r:=tab_back (s':={ s' with toks:=k }) I₂ htab (fun b o hb e=>keepM b o (keep₄ b o hb e) (notI b o e)) (keepM _ _ hP₄ hPI.symm) ht₄ hm.drawn hm.os (hgq.bare (I₂.gens.push hbare)) hg'
   exact hQ _ _ ρ₂ F₂ ⟨_,rfl⟩ r.1 (((Stp.toks I.ids (s.toks + 1)).trans st₂).trans r.2)
  ·rw [List.length_range,hsz]
   exact Nat.le_trans h4.2.2 (by decide)
end
noncomputable def findKeys (c:Addr) (l:List (Nat × Cell)):Option Nat:=l.foldr (fun p k=>onCTab p.2 (fun c' _ ks=>_root_.cond (c' == c && ks.isSome) (some p.1) k) k) none
noncomputable def plainDef (args:Arguments):Prop:=∀ env,annTrees args none env=[]∧defaultsOf args env=([],[])
noncomputable def eDef (ae:AEnv) (name:Str) (args:Arguments) (body:List Stmt) (sc:Scope) (pos:Pos):EM AFlow:=onVRef ae.code (fun c=>EM.bind (EM.opt (freeGo ae.cells sc.names [])) fun cl=>EM.bind (EM.chk (docOf body).isNone) fun _=>EM.bind (EM.get fun σ=>findKeys c σ.objs) fun i=>EM.bind (EM.cellAs asTab i) fun t=>EM.bind (EM.chk (t.1 == c)) fun _ =>
 EM.bind (EM.opt t.2.2) fun l=>EM.bind (EM.chk (!(l.contains ((pos.line:Int),(pos.col:Int))))) fun _=>EM.bind (EM.upd fun σ=>σ.set i (.tab c t.2.1 (some (((pos.line:Int),(pos.col:Int)) :: l)))) fun _=>EM.bind (EM.cond (plainDef args)) fun _=>EM.bind (eBind ae name (.clo name args body sc cl)) fun _=>EM.ret .next) EM.fail
theorem codeAmong_more {pos p0:Pos} {c:Value} (l:List Value) (h:TriplesOk l) (hn:codeAmong pos l=none) (hne:¬ ((p0.line:Int)=pos.line∧(p0.col:Int)=pos.col)):codeAmong pos (l ++ [rawInt p0.line,rawInt p0.col,c])=none:=by
 fun_induction TriplesOk l with
 | case1 =>
  simp only [List.nil_append,codeAmong,rawInt]
  rw [if_neg]
  simpa using hne
 | case2 a t b u x rest ih =>
  simp only [List.cons_append,codeAmong] at hn ⊢
  split at hn
  ·exact noneOf hn.symm
  ·rename_i hc; rw [if_neg hc]; exact ih h hn
 | case3 l h1 h2=>exact h.elim
section
variable {X:Ctx} {A:Around} {ρ:Rho} {F:Fz} {σ:St} {s:Shared} {Γ:Kn} {ae:AEnv} {env:Env}
theorem code_is {h:Heap} {c P:Addr} {oc:Obj} {ps:Array Value} (hh:CodeH c P oc) (ho:h.get? c=some oc) (hP:h.get? P=some (oTab ps)) (ht:TriplesOk ps.toList):h.IsCode c P ps∧h.TableAt c P ps:=by
 cases hh with | mk h₀ ps₀ ps₁ e x y =>
 obtain ⟨o,vs,file,tf,flags,tg,inF,text,tt,op,a,r1,r2,r3,r4,r5,r6,_,_,_,hne⟩:=x
 refine ⟨⟨oc,vs,file,tf,flags,tg,inF,text,tt,_,ho,Option.some.inj (a.symm.trans e) ▸ r1,r2,r3,r4,r5,r6,hP,rfl,ht,hne⟩,y.1.elim fun o q=>q.elim fun vs q=>⟨o,vs,Option.some.inj (e.symm.trans q.1) ▸ ho,q.2⟩,hP⟩
theorem Sim.defn (L:Lib X) (name:Str) (args:Arguments) (body:List Stmt) (sc:Scope) (pos:Pos):SimS X A ae env (eDef ae name args body sc pos) (.FunctionDef name args body [] none [] sc none name pos):=by
 unfold eDef
 refine onVRef_ind (e:=ae.code) (P:=fun y v=>ae.code=v→SimS X A ae env y (.FunctionDef name args body [] none [] sc none name pos)) (fun c hcode=>?_) (fun _=>Sim.fail) rfl
 refine Sim.ofRun fun σ ρ F s I g=>RunAt.opt fun cl hfree=>RunAt.chk fun hdoc=>RunAt.get fun i hf=>RunAt.cellAs asTab_some fun t htab=>RunAt.chk fun hc=>RunAt.opt fun l hl=>RunAt.chk fun hk=>RunAt.upd (RunAt.cond fun hp=>RunAt.bind (RunAt.all fun fv=>Sim.at (X:=X) (A:=A) (Sim.bindName (env:=env) (y:=name) (Γ:=(EnvK X ae env).and (RDen (.clo name args body sc cl) fv)) (Kn.fst (Kn.le_refl _)) (Kn.snd (Kn.le_refl _)))) fun _ σ₂ c2=>RunAt.ret fun Q E hQ=>?_)
 rw [eq_of_beq hc,hl] at htab
 rw [Bool.not_eq_true'] at hk
 have hcells:env.cells=mapCl ρ ae.cells:=EnvOk.cells g
 have gl:env.globals=mainGlobals:=EnvOk.gl g
 have bi:env.builtins=builtinsNs:=EnvOk.bi g
 have hec:env.code = .ref c:=(EnvOk.cd g).elim (fun h=>nomatch hcode.symm.trans h) fun h=>h.trans hcode
 rw [exec_def,(hp env).1,(hp env).2]
 refine wpAny_bind (wpAny_standAt (wpAny_bind (wpAny_holding ?_)))
 refine wpAny_bind (wpAny_pure (wpAny_bind (wpAny_holding (wpAny_pure (wpAny_holding (wpAny_bind (wpAny_pure ?_)))))))
 rw [makeFunction_eq]
 simp only [List.zip_nil_right,List.filterMap_nil,List.isEmpty_nil,if_true,pure_bind]
 show wpAny _ A (makeTail name (qualnameIn env name name) args (.stmts body) sc env .none .none none pos pos.line) _ _ s
 unfold makeTail
 refine wpAny_bind (m:=closureFor sc env) ?_
 rw [closure_eq hcells hfree]
 refine wpAny_pure ?_
 have key:∀ (K:Value→Sem Value) (P:Value→Shared→Prop),(∀ ct h₀,(∀ b o,s.heap.get? b=some o→h₀.get? b=some o)→wpAny (model X.prog X.w) A (K ct) P E { s with heap:=h₀ }) →
   wpAny (model X.prog X.w) A (if (mapCl ρ cl).isEmpty=true then pure .none >>= K else newTextTuple (((mapCl ρ cl).mergeSort fun a b=>a.1.cps.toList≤b.1.cps.toList).map (.ref ·.2)) >>= K) P E s:=fun K P hP =>
  ite_P (P:=fun t=>wpAny (model X.prog X.w) A t P E s) (fun _=>wpAny_bind (wpAny_pure (hP _ s.heap fun _ _ e=>e))) fun _=>wpAny_bind (wpAny_newTextTuple (hP _ _ fun b o e=>Heap.get?_push_of_some _ e))
 refine key _ _ fun ct h₀ hk₀=>?_
 have r₀:=I.grow hk₀ s.toks
 refine (r₀.1.at htab).ex fun o₀ h0 (hT:TabO F (ρ i) c t.2.1 (some l) o₀)=>?_
 cases hT with | mk more oc e hcF hh ht nk =>
 rw [e] at h0
 have ic:=code_is hh (r₀.1.froz _ _ hcF) h0 ht
 refine wpAny_bind (wpAny_functionCodeX hec ic.1 ic.2 (nk l rfl pos fun h=>by rw [List.contains_iff_mem.mpr h] at hk; exact ff hk.symm) fun cc h₁ tk hx hge hlt ic₁ hrec tat₁ htb=>?_)
 have hl2:((t.2.1 ++ more) ++ #[rawInt pos.line,rawInt pos.col,Value.ref cc]).toList=(t.2.1 ++ more).toList ++ [rawInt pos.line,rawInt pos.col,.ref cc]:=Array.toList_append ..
 have nk₁:NoKey ((t.2.1 ++ more) ++ #[rawInt pos.line,rawInt pos.col,.ref cc]).toList (some (((pos.line:Int),(pos.col:Int)) :: l)):=fun l' e' p2 hp2=>by
  rw [← Option.some.inj e',List.mem_cons,not_or] at hp2
  rw [hl2]
  exact codeAmong_more _ ht (nk l rfl p2 hp2.2) fun q=>hp2.1 (by rw [← q.1,← q.2])
 have ht₁:TriplesOk ((t.2.1 ++ more) ++ #[rawInt pos.line,rawInt pos.col,.ref cc]).toList:=by rw [hl2]; exact TriplesOk_snoc _ _ _ _ ht
 have hP₁:h₁.get? (ρ i)=some (oTab ((t.2.1 ++ more) ++ #[rawInt pos.line,rawInt pos.col,.ref cc])):=tat₁.2
 rw [Array.append_assoc] at hP₁ ht₁ nk₁
 have r₁:=r₀.1.turn (c':=.tab c t.2.1 (some (((pos.line:Int),(pos.col:Int)) :: l))) (s':={ s with heap:=h₁,toks:=tk }) htab hx ⟨_,hP₁,more ++ #[rawInt pos.line,rawInt pos.col,.ref cc],oc,rfl,hcF,hh,ht₁,nk₁⟩ rfl rfl rfl r₀.1.gens (fun _ _ e=>e)
 rw [gl,bi]
 refine wpAny_bind (r₁.1.looksB.here ?_)
 refine L.nm.elim fun vn hvn=>wpAny_bind ((Looks.of_peek (M:=model X.prog X.w) r₁.1.Kin hvn).here ?_)
 dsimp only
 rw [Option.isNone_iff_eq_none.mp hdoc]
 refine wpAny_bind (wpAny_pure ?_)
 simp only [newObj]
 refine wpAny_bind (wpAny_alloc (wpAny_pure ?_))
 refine hrec.elim fun c2' q=>q.elim fun oc2 q=>q.elim fun vs q=>q.elim fun tq q=>?_
 rw [← Value.ref.inj q.1] at q
 have r₂:=r₁.1.freezeOld q.2.1 fun j d hj=>(St.set_old htab hj).elim fun d' hd=>r₀.1.not0 (Heap.get?_none_of_le hge) hd
 have r₃:=r₂.1.freeze (a:=h₁.objs.size) (o:={ cls:=.type "function",data:=.func (cloData name (qualnameIn env name name) args body sc (mapCl ρ cl) (vn.getD .none) (.ref cc) ct) }) (h':=h₁.push { cls:=.type "function",data:=.func (cloData name (qualnameIn env name name) args body sc (mapCl ρ cl) (vn.getD .none) (.ref cc) ct) }) (Heap.get?_none_of_le (Nat.le_refl _)) (fun b o e=>Heap.get?_push_of_some _ e) (Heap.get?_push_size _ rfl) tk
 have st03:=((r₀.2.trans r₁.2).trans r₂.2).trans r₃.2
 have hcl:∀ p ∈ cl,p.2 < σ.n:=freeGo_lt (EnvOk.cl g) sc.names [] cl hfree (fun p hp=>nomatch hp)
 refine wpAny_bind (wpAny_standAt (wpAny_bind ?_))
 refine c2 (.ref h₁.objs.size) ρ _ _ r₃.1 ⟨(EnvK X ae env).mono st03.le st03.same st03.sub g,⟨h₁.objs.size,qualnameIn env name name,_,vn.getD .none,.ref cc,ct,rfl,if_pos rfl,rfl,rfl,⟨cc,oc2,vs,tq,rfl,r₃.2.sub _ _ (if_pos rfl),q.2.2.1,q.2.2.2⟩,hcl⟩⟩ _ E fun _ s₄ ρ₄ F₄ _ I₄ st₄=>?_
 exact wpAny_pure (hQ _ s₄ ρ₄ F₄ rfl I₄ (st03.trans st₄))
end
noncomputable def leafA (a:AV):Bool:=onInt a (fun _=>true) <| onStr a (fun _=>true) <| onBool a (fun _=>true) <| isNoneV a
noncomputable def flatN (d:Nat):AV→Bool:=Nat.rec (motive:=fun _=>AV→Bool) leafA (fun _ ih a=>onTup a (fun xs=>xs.all ih) (leafA a)) d
noncomputable def intIn (k:Int) (xs:List AV):Option Bool:=xs.foldr (fun a o=>onInt a (fun j=>o.map fun r=>j == k || r) none) (some false)
noncomputable def eEqL (i j:Nat):EM AV:=EM.bind (eCellL i) fun xs=>EM.bind (eCellL j) fun ys=>EM.bind (EM.word fun w=>onWB w some none) fun d=>_root_.cond d (EM.retIf (xs=ys∧xs.all (flatN 3)=true) (.bool true)) (EM.retIf (xs.length ≠ ys.length) (.bool false))
noncomputable def eCmpX (K:Frag) (op:CmpOp) (a b:AV):EM AV:=onVal b (fun v=>ifOp op .In (eInS K a v) (eCmp op a b)) <| onRef a (fun i=>onRef b (fun j=>ifOp op .Eq (eEqL i j) EM.fail) (eCmp op (.ref i) b)) <| onTup b (fun xs=>ifOp op .In (onInt a (fun k=>EM.bind (EM.opt (intIn k xs)) fun b=>EM.ret (.bool b)) EM.fail) EM.fail) (eCmp op a b)
noncomputable def eAddX (a b:AV):EM AV:=onTup a (fun xs=>onTup b (fun ys=>EM.bind (EM.cond (xs.isEmpty=false∧ys.isEmpty=false)) fun _=>eNewTuple (xs ++ ys)) EM.fail) <| onRef a (fun i=>onRef b (fun j=>EM.bind (eCellL i) fun xs=>EM.bind (eCellL j) fun ys=>eNewListF (xs ++ ys)) EM.fail) <| onLst a (fun xs=>onRef b (fun j=>EM.bind (eCellL j) fun ys=>eNewListF (xs ++ ys)) EM.fail) (eBin .Add a b)
noncomputable def eBinX (op:Operator) (a b:AV):EM AV:=ifOp op .Add (eAddX a b) (eBin op a b)
section
variable {X:Ctx} {A:Around} {ρ:Rho} {F:Fz} {σ:St} {s:Shared} {Γ:Kn}
theorem eqAt_leaf {n:Nat} {A:Around} {a:AV} {v w:Value}:leafA a=true→Den n ρ F a v→Den n ρ F a w→SeqAt.EqAt A s v w true :=
 onInt_ind (P:=fun b a=>b=true→Den n ρ F a v→Den n ρ F a w→SeqAt.EqAt A s v w true) (fun i _ (dv:∃ t,v = .int i t) (dw:∃ t,w = .int i t)=>dv.elim fun t e=>dw.elim fun u e'=>by have:=SeqAt.EqAt.int_int (A:=A) (s:=s) i t i u; rw [beq_self_eq_true] at this; rw [e,e']; exact this) <|
 onStr_ind (P:=fun b a=>b=true→Den n ρ F a v→Den n ρ F a w→SeqAt.EqAt A s v w true) (fun i _ (dv:∃ t,v = .str i t) (dw:∃ t,w = .str i t)=>dv.elim fun t e=>dw.elim fun u e'=>by have:=SeqAt.EqAt.str_str (A:=A) (s:=s) i t i u; rw [beq_self_eq_true] at this; rw [e,e']; exact this) <|
 onBool_ind (P:=fun b a=>b=true→Den n ρ F a v→Den n ρ F a w→SeqAt.EqAt A s v w true) (fun i _ (dv:v = .bool i) (dw:w = .bool i)=>by rw [dv,dw]; exact SeqAt.EqAt.same _) fun h dv dw=>by rw [isNoneV_is h dv,isNoneV_is h dw]; exact SeqAt.EqAt.same _
theorem Dens.both {n:Nat} {xs:List AV} {vs ws:List Value} (dv:Dens n ρ F xs vs) (dw:Dens n ρ F xs ws) {P:Value→Value→Prop} (h:∀ a ∈ xs,∀ v w,Den n ρ F a v→Den n ρ F a w→P v w) (j:Nat) (h1:j < vs.toArray.size) (h2:j < ws.toArray.size):P vs.toArray[j] ws.toArray[j] :=
 (dv.back (i:=j) (v:=vs.toArray[j]) (List.getElem?_eq_getElem (by rw [List.size_toArray] at h1; exact h1))).elim fun a p=>(dw.nth p.1).elim fun w q=>by
  have hw:some w=some ws.toArray[j]:=q.1.symm.trans (List.getElem?_eq_getElem (by rw [List.size_toArray] at h2; exact h2))
  exact h a (List.mem_of_getElem? p.1) _ _ p.2 (Option.some.inj hw ▸ q.2)
theorem Dens.isEmpty {n:Nat}:∀ {xs:List AV} {vs:List Value},Dens n ρ F xs vs→xs.isEmpty=vs.isEmpty
 | [],vs,d=>by rw [show vs=[] from d]; rfl
 | _ :: _,[],d=>d.elim
 | _ :: _,_ :: _,_=>rfl
theorem in1_units (B:Around):B.in1.units≤B.units + 1:=by cases B; exact Nat.le_refl _
theorem eqAt_flat {n:Nat} (hf:∀ a o,F a=some o→s.heap.get? a=some o) (d:Nat):∀ (A:Around) (a:AV) (v w:Value),A.units + d < cLine→flatN d a=true→Den n ρ F a v→Den n ρ F a w→SeqAt.EqAt A s v w true:=by
 induction d with
 | zero=>exact fun A a v w _ h=>eqAt_leaf h
 | succ d ih =>
  intro A a v w hu
  refine onTup_ind (P:=fun b a=>b=true→Den n ρ F a v→Den n ρ F a w→SeqAt.EqAt A s v w true) (fun xs h dv dw=>?_) eqAt_leaf
  cases den_tup dv with | mk a vs k e ha hvs =>
  cases den_tup dw with | mk b ws k2 e2 hb hws =>
  rw [e,e2]
  by_cases hab:a=b
  ·rw [hab]; exact SeqAt.EqAt.same _
  ·have key:=SeqAt.RcAt.tuples (A:=A) (s:=s) (l:=a) (b:=b) (items:=vs.toArray) (items2:=ws.toArray) (e:=fun _=>true) ⟨_,hf _ _ ha,rfl,_,rfl⟩ ⟨_,hf _ _ hb,rfl,_,rfl⟩ (Nat.lt_of_le_of_lt (Nat.le_add_right _ _) hu)
    (Dens.both hvs hws fun x hx v w=>ih A.in1 x v w (Nat.lt_of_le_of_lt (Nat.le_trans (Nat.add_le_add_right (in1_units A) d) (Nat.le_of_eq (Nat.succ_add _ _))) hu) (List.all_eq_true.mp h x hx))
   have e1:((List.range (min vs.toArray.size ws.toArray.size)).all (fun _=>true) && vs.toArray.size == ws.toArray.size)=true:=by
    rw [List.size_toArray,List.size_toArray,← hvs.length,← hws.length,beq_self_eq_true,Bool.and_true]
    exact List.all_eq_true.mpr fun _ _=>rfl
   rw [e1] at key
   exact SeqAt.EqAt.of_refs hab key
noncomputable def isI (k:Int) (v:Value):Bool:=match v with | .int j _=>j == k | _=>false
theorem intIn_any {n:Nat} {k:Int} {t:Tok}:∀ {xs:List AV} {vs:List Value} {b:Bool},Dens n ρ F xs vs→intIn k xs=some b→vs.any (isI k)=b∧∀ A:Around,∀ y ∈ vs,SeqAt.EqAt A s y (.int k t) (isI k y)
 | [],vs,b,d,h=>by rw [show vs=[] from d]; exact ⟨Option.some.inj h,fun _ y hy=>nomatch hy⟩
 | _ :: _,[],_,d,_=>d.elim
 | a :: xs,v :: vs,b,d,h=>onInt_ind (P:=fun (o:Option Bool) a=>o=some b→Den n ρ F a v→(v :: vs).any (isI k)=b∧∀ A:Around,∀ y ∈ v :: vs,SeqAt.EqAt A s y (.int k t) (isI k y)) (fun j h (dv:∃ t,v = .int j t)=>(Option.map_eq_some_iff.mp h).elim fun c q=>dv.elim fun u e=>by
   have ih:=intIn_any (t:=t) d.2 q.1
   rw [List.any_cons,ih.1,e]
   exact ⟨q.2,fun A y hy=>(List.mem_cons.mp hy).elim (fun e=>by rw [e]; exact SeqAt.EqAt.int_int _ _ _ _) (ih.2 A y)⟩) (fun h=>noneOf h) h d.1
theorem Sim.cmpX {op:CmpOp} {a b:AV} {v w:Value} (hA:A.units + 10 < cLine) (ha:Γ.le (RDen a v)) (hb:Γ.le (RDen b w)):Sim X A Γ RDen (eCmpX X.K op a b) (compareOp op v w):=by
 refine onVal_ind (P:=fun x b=>Γ.le (RDen b w)→Sim X A Γ RDen x (compareOp op v w)) (fun u hb'=>ifOp_ind (P:=fun x op=>Sim X A Γ RDen x (compareOp op v w)) (Sim.know (P:=w=u) (fun _ _ _ g=>hb' _ _ _ g) fun e=>e ▸ Sim.inS ha) (Sim.cmp ha hb)) (fun hb=>?_) hb
 refine onRef_ind (P:=fun x a=>Γ.le (RDen a v)→Sim X A Γ RDen x (compareOp op v w)) (fun i ha=>?_) (fun ha=>?_) ha
 ·refine onRef_ind (P:=fun x b=>Γ.le (RDen b w)→Sim X A Γ RDen x (compareOp op v w)) (fun j hb=>?_) (fun hb=>Sim.cmp ha hb) hb
  refine ifOp_ind (P:=fun x op=>Sim X A Γ RDen x (compareOp op v w)) (Sim.ofRun fun σ ρ F s I g=>RunAt.cellL fun xs hx hl=>RunAt.cellL fun ys hy hl2=>RunAt.word fun d=>?_) Sim.fail
  rw [(show v = .ref (ρ i)∧i < σ.n from ha _ _ _ g).1,(show w = .ref (ρ j)∧j < σ.n from hb _ _ _ g).1]
  refine cond_ind (P:=fun x=>RunAt σ x fun b σ'=>Goes X A ρ F σ s (compareOp .Eq (.ref (ρ i)) (.ref (ρ j))) (RDen b) σ') (fun _=>RunAt.retIf fun h=>?_) (RunAt.retIf fun h=>(I.atL hx).elim fun vs q=>q.elim fun k1 q=>(I.atL hy).elim fun ws p=>p.elim fun k2 p=>Goes.same I fun Q E hQ=>SeqAt.eq_list_lengthsAt (items:=vs.toArray) (items2:=ws.toArray) ⟨_,q.1,rfl,_,rfl⟩ ⟨_,p.1,rfl,_,rfl⟩ (by
   rw [List.size_toArray,List.size_toArray,← q.2.length,← p.2.length]; simpa using h) (Nat.lt_of_le_of_lt (Nat.le_add_right _ _) hA) (hQ _ rfl))
  rw [← h.1] at hy
  refine (I.atL hx).elim fun vs q=>q.elim fun k1 q=>(I.atL hy).elim fun ws p=>p.elim fun k2 p=>Goes.same I fun Q E hQ=>?_
  refine SeqAt.eq_listAt (items:=vs.toArray) (items2:=ws.toArray) (e:=fun _=>true) ⟨_,q.1,rfl,_,rfl⟩ ⟨_,p.1,rfl,_,rfl⟩ (by rw [List.size_toArray,List.size_toArray,← q.2.length,p.2.length]) (Nat.lt_of_le_of_lt (Nat.le_add_right _ _) hA)
   (Dens.both q.2 p.2 fun x hx v w=>eqAt_flat I.froz 3 A.in1 x v w (Nat.lt_of_le_of_lt (Nat.le_trans (Nat.add_le_add_right (in1_units A) 3) (by rw [Nat.add_assoc]; exact Nat.add_le_add_left (by decide) _)) hA) (List.all_eq_true.mp h.2 x hx)) ?_
  rw [show ((List.range vs.toArray.size).all fun _=>true)=true from List.all_eq_true.mpr fun _ _=>rfl]
  exact hQ _ rfl
 ·refine onTup_ind (P:=fun x b=>Γ.le (RDen b w)→Sim X A Γ RDen x (compareOp op v w)) (fun xs hb=>?_) (fun hb=>Sim.cmp ha hb) hb
  refine ifOp_ind (P:=fun x op=>Sim X A Γ RDen x (compareOp op v w)) (Sim.caseInt (fun v=>compareOp .In v w) ha (fun k t=>Sim.opt fun b hk=>Sim.ret1 fun ρ F σ s I g=>?_) Sim.fail) Sim.fail
  cases den_tup (hb _ _ _ g) with | mk a ws k2 e hw dw =>
  have h:=intIn_any (s:=s) (t:=t) dw hk
  rw [e]
  refine Goes.same I fun Q E hQ=>SeqAt.in_tupleAt (items:=ws.toArray) (isI k) ⟨_,I.froz _ _ hw,rfl,_,rfl⟩ (fun y hy=>h.2 _ y (List.mem_toArray.mp hy)) ?_
  rw [List.any_toArray,h.1]
  exact hQ _ rfl
theorem Sim.addX {a b:AV} {v w:Value} (ha:Γ.le (RDen a v)) (hb:Γ.le (RDen b w)):Sim X A Γ RDen (eAddX a b) (binaryOp .Add v w):=by
 refine onTup_ind (P:=fun x a=>Γ.le (RDen a v)→Sim X A Γ RDen x (binaryOp .Add v w)) (fun xs ha=>?_) (fun ha=>?_) ha
 ·refine onTup_ind (P:=fun x b=>Γ.le (RDen b w)→Sim X A Γ RDen x (binaryOp .Add v w)) (fun ys hb=>?_) (fun _=>Sim.fail) hb
  refine Sim.ofRun fun σ ρ F s I g=>RunAt.cond fun h=>RunAt.retIf fun hl=>?_
  cases den_tup (ha _ _ _ g) with | mk a vs k e hx dv =>
  cases den_tup (hb _ _ _ g) with | mk b ws k2 e2 hy dw =>
  have h1:=h.1
  have h2:=h.2
  rw [Dens.isEmpty dv] at h1
  rw [Dens.isEmpty dw] at h2
  have d:=dv.app dw
  rw [e,e2]
  refine Goes.to fun Q E hQ=>P.add_tuple (I.froz _ _ hx) (I.froz _ _ hy) (by rw [List.isEmpty_toArray,h1]; exact Bool.false_ne_true) (by rw [List.isEmpty_toArray,h2]; exact Bool.false_ne_true) ?_ (by rw [List.size_toArray,List.size_toArray,← List.length_append,← d.length]; exact Nat.le_trans hl (by decide))
  rw [List.append_toArray]
  have r:=I.freeze (a:=s.heap.objs.size) (o:=oTup (vs ++ ws) 0) (h':=s.heap.push (oTup (vs ++ ws) 0)) (Heap.get?_none_of_le (Nat.le_refl _)) (fun b o e=>Heap.get?_push_of_some _ e) (Heap.get?_push_size _ rfl) s.toks
  exact hQ _ _ ρ _ (.tup _ _ (vs ++ ws) 0 (if_pos rfl) (d.step r.2)) r
 have fin:∀ {σ:St} {ρ:Rho} {F:Fz} {s:Shared} {a1 a2:Addr} {xs ys:List AV} {vs ws:List Value} {k1 k2:Nat},Inv X ρ F σ s→s.heap.get? a1=some (oList vs k1)→s.heap.get? a2=some (oList ws k2)→Dens σ.n ρ F xs vs→Dens σ.n ρ F ys ws→RunAt σ (eNewListF (xs ++ ys)) fun b σ'=>Goes X A ρ F σ s (binaryOp .Add (.ref a1) (.ref a2)) (RDen b) σ':=fun I h1 h2 d1 d2 =>
  RunAt.newF I (d1.app d2) fun hl Q E hQ=>P.add_list h1 h2 (by rw [List.append_toArray]; exact hQ) (by rw [List.size_toArray,List.size_toArray,← List.length_append,← (d1.app d2).length]; exact Nat.le_trans hl (by decide))
 refine onRef_ind (P:=fun x a=>Γ.le (RDen a v)→Sim X A Γ RDen x (binaryOp .Add v w)) (fun i ha=>?_) (fun ha=>onLst_ind (P:=fun x a=>Γ.le (RDen a v)→Sim X A Γ RDen x (binaryOp .Add v w)) (fun xs ha=>?_) (fun ha=>Sim.bin ha hb) ha) ha
 ·refine onRef_ind (P:=fun x b=>Γ.le (RDen b w)→Sim X A Γ RDen x (binaryOp .Add v w)) (fun j hb=>?_) (fun _=>Sim.fail) hb
  refine Sim.ofRun fun σ ρ F s I g=>RunAt.cellL fun xs hx hl=>RunAt.cellL fun ys hy hl2=>?_
  rw [(show v = .ref (ρ i)∧i < σ.n from ha _ _ _ g).1,(show w = .ref (ρ j)∧j < σ.n from hb _ _ _ g).1]
  exact (I.atL hx).elim fun vs q=>q.elim fun k1 q=>(I.atL hy).elim fun ws p=>p.elim fun k2 p=>fin I q.1 p.1 q.2 p.2
 ·refine onRef_ind (P:=fun x b=>Γ.le (RDen b w)→Sim X A Γ RDen x (binaryOp .Add v w)) (fun j hb=>?_) (fun _=>Sim.fail) hb
  refine Sim.ofRun fun σ ρ F s I g=>RunAt.cellL fun ys hy hl2=>?_
  cases den_lst (ha _ _ _ g) with | mk a1 vs k1 e hF ds =>
  rw [e,(show w = .ref (ρ j)∧j < σ.n from hb _ _ _ g).1]
  exact (I.atL hy).elim fun ws p=>p.elim fun k2 p=>fin I (I.froz _ _ hF) p.1 ds p.2
theorem Sim.binX {op:Operator} {a b:AV} {v w:Value} (ha:Γ.le (RDen a v)) (hb:Γ.le (RDen b w)):Sim X A Γ RDen (eBinX op a b) (binaryOp op v w) :=
 ifOp_ind (P:=fun x op=>Sim X A Γ RDen x (binaryOp op v w)) (Sim.addX ha hb) (Sim.bin ha hb)
noncomputable def eBinE (r:Rec) (ae:AEnv) (l:Expr) (op:Operator) (rr:Expr):EM AV:=EM.bind (r.ev ae l) fun a=>EM.bind (r.ev ae rr) fun b=>eBinX op a b
noncomputable def eCmpE (K:Frag) (r:Rec) (ae:AEnv) (l:Expr) (op:CmpOp) (rr:Expr):EM AV:=_root_.cond (behindInMarks op rr) EM.fail (EM.bind (r.ev ae l) fun a=>EM.bind (r.ev ae rr) fun b=>eCmpX K op a b)
theorem Sim.binE {r:Rec} {n:Nat} {ae:AEnv} {env:Env} (S:Sound X r n) (hA:Room X A n) (l:Expr) (op:Operator) (rr:Expr) (p:Pos):SimE X A ae env (eBinE r ae l op rr) (.BinOp l op rr p):=by
 unfold SimE
 rw [eval_BinOp]
 exact Sim.bind (S.ev A hA ae env l) fun a av=>Sim.bind (Sim.holding ((S.ev A hA ae env rr).weaken (Kn.fst (Kn.le_refl _)))) fun b bv=>Sim.standAt (Sim.operate (Sim.binX (Kn.fst (Kn.snd (Kn.le_refl _))) (Kn.snd (Kn.le_refl _))))
theorem Sim.cmpE {r:Rec} {n:Nat} {ae:AEnv} {env:Env} (S:Sound X r n) (hA:Room X A n) (hu:A.units + 10 < cLine) (l:Expr) (op:CmpOp) (rr:Expr) (p:Pos):SimE X A ae env (eCmpE X.K r ae l op rr) (.Compare l [op] [rr] p):=by
 unfold eCmpE
 cases hm:behindInMarks op rr with
 | true=>exact Sim.fail
 | false =>
  unfold SimE
  rw [eval_Compare1,markedBehindIn_of_false hm]
  exact Sim.bind (S.ev A hA ae env l) fun a av=>Sim.bind (Sim.holding ((S.ev A hA ae env rr).weaken (Kn.fst (Kn.le_refl _)))) fun b bv=>Sim.standAt (Sim.operate (Sim.cmpX hu (Kn.fst (Kn.snd (Kn.le_refl _))) (Kn.snd (Kn.le_refl _))))
end
noncomputable def pickG {α:Type} (xs:List α) (lo hi:Option Int):List α :=
 (sliceRange (sliceBounds lo hi none xs.length).1 (sliceBounds lo hi none xs.length).2.1 (sliceBounds lo hi none xs.length).2.2).filterMap (xs[·]?)
noncomputable def ePart (r:Rec) (ae:AEnv) (o:Option Expr):EM (Option Int):=onSome o (fun e=>EM.bind (r.ev ae e) fun a=>onInt a (fun i=>EM.ret (some i)) EM.fail) (EM.ret none)
noncomputable def eParts (r:Rec) (ae:AEnv) (lo hi:Option Expr):EM (Option Int × Option Int):=EM.bind (ePart r ae lo) fun l=>EM.bind (ePart r ae hi) fun u=>EM.ret (l,u)
noncomputable def rawAV (v:Value):AV:=onVInt v (fun i _=>.int i) (.val v)
noncomputable def pickS (x:Str) (l u:Option Int):Str:=if ((1:Int) == 1 && (Builtin.Str.strSliceIndices l u 1 x.length).length == x.length)=true then x else ⟨((Builtin.Str.strSliceIndices l u 1 x.length).filterMap (x.cps[·]?)).toArray⟩
noncomputable def eSliceAt (ov:AV) (l u:Option Int):EM AV:=onRef ov (fun i=>EM.bind (EM.cell i) fun c=>onCRaw c (fun o=>EM.bind (EM.opt (rawItems o)) fun vs=>EM.bind (EM.cond (vs.length≤1000000)) fun _=>eNewListF (pickG (vs.map rawAV) l u)) <|
  onCList c (fun xs=>EM.bind (EM.cond (xs.length≤1000000)) fun _=>eNewListF (pickG xs l u)) EM.fail) <|
 onLst ov (fun xs=>EM.bind (EM.cond (xs.length≤1000000)) fun _=>eNewListF (pickG xs l u)) <|
 onTup ov (fun xs=>_root_.cond (l == some 1 && u.isNone) (onCons xs (fun _ r=>onCons r (fun y r=>eNewTuple (y :: r)) EM.fail) EM.fail) EM.fail) <|
 onStr ov (fun x=>EM.retIf ((pickS x l u).length≤1000000) (.str (pickS x l u))) EM.fail
noncomputable def eSlice (K:Frag) (r:Rec) (ae:AEnv) (o:Expr) (lo hi:Option Expr):EM AV:=EM.bind (r.ev ae o) fun ov=>EM.bind (eParts r ae lo hi) fun q=>EM.bind (eItemOk K ov) fun _=>eSliceAt ov q.1 q.2
section
variable {X:Ctx} {A:Around} {ρ:Rho} {F:Fz} {σ:St} {s:Shared} {Γ:Kn} {r:Rec} {n:Nat} {ae:AEnv} {env:Env}
theorem Dens.filterMap {N:Nat} {xs:List AV} {vs:List Value} (d:Dens N ρ F xs vs):∀ js:List Nat,Dens N ρ F (js.filterMap (xs[·]?)) (js.filterMap (vs[·]?))
 | []=>(rfl:Dens N ρ F [] [])
 | j :: js=>by
  rw [List.filterMap_cons,List.filterMap_cons]
  cases h:xs[j]? with
  | none =>
   rw [d.none h]
   exact Dens.filterMap d js
  | some a =>
   refine (d.nth h).elim fun v q=>?_
   rw [q.1]
   exact Dens.cons q.2 (Dens.filterMap d js)
theorem Dens.pick {N:Nat} {xs:List AV} {vs:List Value} (d:Dens N ρ F xs vs) (lo hi:Option Int):Dens N ρ F (pickG xs lo hi) (pickG vs lo hi):=by
 unfold pickG
 rw [d.length]
 exact d.filterMap _
theorem pick_arr (vs:List Value) (lo hi:Option Int):slicePick vs.toArray lo hi Option.none=(pickG vs lo hi).toArray:=by unfold slicePick pickG; simp
theorem tuple_slice1 (l sl:Addr) (v:Value) (w:List Value) (k:Nat) (t:Tok) (hsz:w.length + 1≤sizeLine) :
  Meets (Builtin.«tuple.__getitem__» ⟨[.ref l,.ref sl],[]⟩)
   (fun _ R s=>s.heap.get? l=some { cls:=.type "tuple",dict:=none,data:=.seq (v :: w).toArray k,slots:=#[] }∧s.heap.get? sl=some { cls:=.type "slice",data:=.fields #[.int 1 t,.none,.none] } ∧
    R (.ok (.ret (.ref s.heap.objs.size))) { s with heap:=s.heap.push { cls:=.type "tuple",data:=.seq w.toArray } }):=by
 refine .of_wp fun prog wd A R s h=>?_
 obtain ⟨hp,g,d,tk,os⟩:=s; obtain ⟨hl,hs,h⟩:=h
 have f1:=AutoSeq1.idx_int
 wp_walk using wpAny_loadPart' hl
 have hadj:Slice.sliceAdjust (some 1) none ((none:Option Int).getD 1) ((v :: w).toArray.size:Nat)=(1,((w.length + 1:Nat):Int)):=by
  simp [Slice.sliceAdjust]
  omega
 have hpl:Slice.slicePlaces 1 ((w.length + 1:Nat):Int) ((none:Option Int).getD 1)=w.length:=by
  simp only [Slice.slicePlaces,Option.getD_none,show (1:Int) > 0 by decide,if_true,Int.ediv_one]
  split <;> omega
 have hfm:(List.range w.length).filterMap (fun (j:Nat)=>(v :: w).toArray[((1:Int) + (j:Int) * (none:Option Int).getD 1).toNat]?)=w:=by
  have h1:(fun (j:Nat)=>(v :: w).toArray[((1:Int) + (j:Int) * (none:Option Int).getD 1).toNat]?)=fun (j:Nat)=>w.toArray[j]?:=funext fun j=>by
   have:((1:Int) + (j:Int) * (none:Option Int).getD 1).toNat=j + 1:=by simp only [Option.getD_none]; omega
   rw [this]
   simp
  rw [h1]
  have:=pick_run w.toArray 0 w.length
  simpa using this
 rw [hadj]
 simp only [hpl]
 rw [if_neg (by simp)]
 simp only [hfm]
 refine wpAny_bind (wpAny_newObj_type (wpAny_pure ?_) (show w.toArray.size≤_ by rw [List.size_toArray]; omega))
 exact ⟨_,rfl,h⟩
theorem rawAV_den {n:Nat} (v:Value):Den n ρ F (rawAV v) v:=onVInt_ind (P:=fun a v=>Den n ρ F a v) (fun i t=>⟨t,rfl⟩) rfl
theorem rawAV_dens {n:Nat}:∀ vs:List Value,Dens n ρ F (vs.map rawAV) vs
 | []=>(rfl:Dens n ρ F [] [])
 | v :: vs=>Dens.cons (rawAV_den v) (rawAV_dens vs)
noncomputable def sliceO (vl vu:Value):Obj:={ cls:=.type "slice",data:=.fields #[vl,vu,.none] }
inductive dSl (F:Fz) (q:Option Int × Option Int) (v:Value):Prop where
 | mk (a:Addr) (vl vu:Value) (e:v = .ref a) (h:F a=some (sliceO vl vu)) (pl:IsPart vl q.1) (pu:IsPart vu q.2)
noncomputable def RSlice (q:Option Int × Option Int) (v:Value):Kn where
 p n ρ F:=dSl F q v
 mono _ _ hF x:=by cases x with | mk a vl vu e h pl pu=>exact ⟨a,vl,vu,e,hF _ _ h,pl,pu⟩
theorem Sim.part (S:Sound X r n) (hA:Room X A n) (e:Option Expr):Sim X A (EnvK X ae env) (fun l v=>Kn.is (IsPart v l)) (ePart r ae e) (evalPart e env):=by
 cases e with
 | none=>exact Sim.ret fun _ _ _ _=>.none
 | some e =>
  rw [evalPart_some]
  show Sim X A (EnvK X ae env) _ (EM.bind (r.ev ae e) fun a=>onInt a (fun i=>EM.ret (some i)) EM.fail) _
  exact Sim.ofRun fun σ ρ F s I g=>RunAt.bind (Sim.at (S.ev A hA ae env e)) fun a σ₁ c=>onInt_ind (P:=fun x a=>(∀ ρ F s,Inv X ρ F σ s→(EnvK X ae env).p σ.n ρ F→Goes X A ρ F σ s (eval e env) (RDen a) σ₁)→RunAt σ₁ x fun b σ'=>Goes X A ρ F σ s (eval e env) (fun v=>Kn.is (IsPart v b)) σ')
   (fun i c=>RunAt.ret ((c ρ F s I g).mono fun v ρ' F' (d:∃ t,v = .int i t)=>d.elim fun t e=>e ▸ IsPart.int i t)) (fun _=>RunAt.fail) c
theorem Sim.parts (S:Sound X r n) (hA:Room X A n) (lo hi:Option Expr) (p:Pos):Sim X A (EnvK X ae env) RSlice (eParts r ae lo hi) (eval (.Slice lo hi none p) env):=Sim.ofRun fun σ ρ F s I g=>RunAt.bind (Sim.at (Sim.part S hA lo)) fun l σ₁ c1=>RunAt.bind (Sim.at (Sim.part (env:=env) S hA hi)) fun u σ₂ c2=>RunAt.ret fun Q E hQ =>
 wpAny_Slice (c1 ρ F s I g _ E fun vl s₁ ρ₁ F₁ pl I₁ st₁=>c2 ρ₁ F₁ s₁ I₁ ((EnvK X ae env).mono st₁.le st₁.same st₁.sub g) _ E fun vu s₂ ρ₂ F₂ pu I₂ st₂=>by
  rw [evalPart_none]
  refine wpAny_pure ?_
  have r:=I₂.freeze (a:=s₂.heap.objs.size) (o:=sliceO vl vu) (h':=s₂.heap.push (sliceO vl vu)) (Heap.get?_none_of_le (Nat.le_refl _)) (fun b o e=>Heap.get?_push_of_some _ e) (Heap.get?_push_size _ rfl) s₂.toks
  exact hQ _ _ ρ₂ _ ⟨_,vl,vu,rfl,if_pos rfl,pl,pu⟩ r.1 ((st₁.trans st₂).trans r.2))
theorem slice_list (I:Inv X ρ F σ s) {a:Addr} {xs:List AV} {ws:List Value} {k:Nat} {sl:Value} {q:Option Int × Option Int} (ho:s.heap.get? a=some (oList ws k)) (d:Dens σ.n ρ F xs ws) (hl:xs.length≤1000000) (hs:dSl F q sl):RunAt σ (eNewListF (pickG xs q.1 q.2)) fun b σ'=>Goes X A ρ F σ s (getItem (.ref a) sl) (RDen b) σ':=RunAt.newF I (d.pick q.1 q.2) fun h Q E hQ=>by
 cases hs with | mk b vl vu e hF pl pu =>
 rw [e]
 refine wpAny_getItem_list_slice (items:=ws.toArray) ⟨_,ho,rfl,k,rfl⟩ ⟨_,I.froz _ _ hF,rfl,rfl⟩ pl pu .none (by simp) ?_ (szOk hl d)
 rw [pick_arr]
 exact hQ
theorem slice_tup (I:Inv X ρ F σ s) {x y:AV} {xs:List AV} {v sl:Value} (dv:Den σ.n ρ F (.tup (x :: y :: xs)) v) (hs:dSl F (some 1,none) sl):RunAt σ (eNewTuple (y :: xs)) fun b σ'=>Goes X A ρ F σ s (getItem v sl) (RDen b) σ':=RunAt.retIf fun hl=>by
 cases den_tup dv with | mk a vs k e hx ds =>
 cases hs with | mk b vl vu e2 hF pl pu =>
 rw [e,e2]
 cases pl with
 | int _ t =>
 cases pu with
 | none =>
 cases vs with
 | nil=>exact ds.elim
 | cons v vs =>
 have hlen:vs.length=(y :: xs).length:=(Dens.length (show Dens σ.n ρ F (y :: xs) vs from ds.2)).symm
 refine Goes.to fun Q E hQ=>getItem_meets (T:="tuple") ⟨_,I.froz _ _ hx,rfl⟩ (by decide) PySem.F.slot_tuple_getitem PySem.F.entry_tuple_getitem (PySem.F.args_tuple_getitem_2 _ _) (tuple_slice1 _ _ _ _ k t (by rw [hlen]; exact Nat.le_trans (Nat.succ_le_succ hl) (by decide))) ⟨I.froz _ _ hx,I.froz _ _ hF,?_⟩
 have r:=I.freeze (a:=s.heap.objs.size) (o:=oTup vs 0) (h':=s.heap.push (oTup vs 0)) (Heap.get?_none_of_le (Nat.le_refl _)) (fun b o e=>Heap.get?_push_of_some _ e) (Heap.get?_push_size _ rfl) s.toks
 exact hQ _ _ ρ _ (.tup _ _ _ 0 (if_pos rfl) (Dens.step (show Dens σ.n ρ F (y :: xs) vs from ds.2) r.2)) r
theorem slice_str (I:Inv X ρ F σ s) {x:Str} {t:Tok} {sl:Value} {q:Option Int × Option Int} (hs:dSl F q sl) (hl:(pickS x q.1 q.2).length≤1000000):Goes X A ρ F σ s (getItem (.str x t) sl) (RDen (.str (pickS x q.1 q.2))) σ:=by
 obtain ⟨q1,q2⟩:=q
 cases hs with | mk b vl vu e2 hF pl pu =>
 rw [e2]
 have key:∀ (l u:Option (Int × Tok)),q1=l.map (·.1)→q2=u.map (·.1)→vl=partValue l→vu=partValue u→Goes X A ρ F σ s (getItem (.str x t) (.ref b)) (RDen (.str (pickS x q1 q2))) σ:=fun l u h1 h2 h3 h4=>Goes.tok I fun Q E hQ=>by
  refine wpAny_getItem_str_slice (l:=l) (u:=u) (st:=none) ⟨_,I.froz _ _ hF,rfl,by rw [h3,h4]; rfl⟩ (by decide) ?_
  rw [h1,h2] at hl hQ
  unfold sliceMade slicePicked
  unfold pickS at hl hQ
  show Made.post (if ((1:Int) == 1 && _)=true then _ else _) Q s
  split
  ·rw [if_pos (by assumption)] at hQ
   exact hQ (.str x t) s.toks ⟨t,rfl⟩
  ·rw [if_neg (by assumption)] at hQ hl
   exact ⟨Nat.le_trans hl (by decide),hQ _ _ ⟨_,rfl⟩⟩
 cases pl with
 | none=>cases pu with
  | none=>exact key none none rfl rfl rfl rfl
  | int i t=>exact key none (some (i,t)) rfl rfl rfl rfl
 | int j t'=>cases pu with
  | none=>exact key (some (j,t')) none rfl rfl rfl rfl
  | int i t=>exact key (some (j,t')) (some (i,t)) rfl rfl rfl rfl
theorem Sim.sliceAt {ov:AV} {v sl:Value} {q:Option Int × Option Int} (ha:Γ.le (RDen ov v)) (hs:Γ.le (RSlice q sl)):Sim X A Γ RDen (eSliceAt ov q.1 q.2) (PySem.getItem v sl):=by
 refine onRef_ind (P:=fun x ov=>Γ.le (RDen ov v)→Sim X A Γ RDen x (PySem.getItem v sl)) (fun i ha=>?_) (fun ha=>?_) ha
 ·refine Sim.ofRun fun σ ρ F s I g=>?_
  rw [(show v = .ref (ρ i)∧i < σ.n from ha _ _ _ g).1]
  refine RunAt.cell fun c=>onCRaw_ind (P:=fun x c=>σ.get i=some c→RunAt σ x fun b σ'=>Goes X A ρ F σ s (PySem.getItem (.ref (ρ i)) sl) (RDen b) σ') (fun o hx=>RunAt.opt fun vs hvs=>RunAt.cond fun hl=>slice_list I (k:=0) (by rw [← rawItems_some hvs]; exact I.atRaw hx) (rawAV_dens vs) (by rw [List.length_map]; exact hl) (hs _ _ _ g)) <|
   onCList_ind (P:=fun x c=>σ.get i=some c→RunAt σ x fun b σ'=>Goes X A ρ F σ s (PySem.getItem (.ref (ρ i)) sl) (RDen b) σ') (fun xs hx=>RunAt.cond fun hl=>(I.atL hx).elim fun ws p=>p.elim fun k p=>slice_list I p.1 p.2 hl (hs _ _ _ g)) fun _=>RunAt.fail
 ·refine onLst_ind (P:=fun x ov=>Γ.le (RDen ov v)→Sim X A Γ RDen x (PySem.getItem v sl)) (fun xs ha=>Sim.ofRun fun σ ρ F s I g=>RunAt.cond fun hl=>?_) (fun ha=>?_) ha
  ·cases den_lst (ha _ _ _ g) with | mk a ws k e hF ds =>
   rw [e]
   exact slice_list I (I.froz _ _ hF) ds hl (hs _ _ _ g)
  refine onTup_ind (P:=fun x ov=>Γ.le (RDen ov v)→Sim X A Γ RDen x (PySem.getItem v sl)) (fun xs ha=>Sim.chk fun hq=>?_) (fun ha=>Sim.caseStr (fun v=>PySem.getItem v sl) ha (fun x t=>Sim.retIf1 fun hl ρ F σ s I g=>slice_str I (hs _ _ _ g) hl) Sim.fail) ha
  rw [Bool.and_eq_true] at hq
  have e:q=(some 1,none):=Prod.ext (eq_of_beq hq.1) (Option.isNone_iff_eq_none.mp hq.2)
  refine onCons_ind (P:=fun y xs=>Γ.le (RDen (.tup xs) v)→Sim X A Γ RDen y (PySem.getItem v sl)) (fun x r ha=>?_) (fun _=>Sim.fail) ha
  exact onCons_ind (P:=fun z r=>Γ.le (RDen (.tup (x :: r)) v)→Sim X A Γ RDen z (PySem.getItem v sl)) (fun y r ha=>Sim.ofRun fun σ ρ F s I g=>slice_tup I (ha _ _ _ g) (e ▸ hs _ _ _ g)) (fun _=>Sim.fail) ha
theorem Sim.slice (S:Sound X r n) (hA:Room X A n) (o:Expr) (lo hi:Option Expr) (p pos:Pos):SimE X A ae env (eSlice X.K r ae o lo hi) (.Subscript o (.Slice lo hi none p) pos):=by
 unfold SimE
 rw [eval_Subscript]
 refine Sim.bind (S.ev A hA ae env o) fun ov v=>Sim.bind (Sim.holding ((Sim.parts S hA lo hi p).weaken (Kn.fst (Kn.le_refl _)))) fun q sl=>Sim.standAt (Sim.itemOk (Kn.fst (Kn.snd (Kn.le_refl _))) (Sim.letGo ?_))
 show Sim X A _ RDen _ (PySem.operate _ (PySem.getItem v sl))
 exact Sim.operate (Sim.sliceAt (Kn.fst (Kn.snd (Kn.le_refl _))) (Kn.snd (Kn.le_refl _)))
end
section
variable {prog:Program} {w:World} {A:Around} {E:Value→Shared→Prop} {s:Shared}
theorem listI_lookup:typeLookup (.type "list") (dunderI "add")=pure (some (.builtin "list.__iadd__")):=PySem.F.slot_list_iadd.lookup
theorem iadd_list {l b:Addr} {items items2:Array Value} {n n2:Nat} {Q:Value→Shared→Prop} (hl:IsL s.heap l items n) (hb:IsL s.heap b items2 n2) (hsz:items.size + items2.size≤2000000)
  (h:Q (.ref l) { s with heap:=s.heap.update l (Obj.mapSeq fun x=>x ++ items2) }):wpAny (model prog w) A (inplaceOp .Add (.ref l) (.ref b)) Q E s:=by
 have hline:sizeLine=2 ^ 24:=rfl
 unfold inplaceOp
 refine wpAny_holding ?_
 have hs:isSeqSlot (some (.builtin "list.__iadd__"))=true:=by decide +kernel
 have hfi:fillsInplaceSlot (.type "list") "add" (Operator.Add == .Add)=pure false:=by
  unfold fillsInplaceSlot
  show (typeLookup (.type "list") (dunderI "add") >>= fun fi=>pure (fi.isSome && !isSeqSlot fi))=pure false
  rw [listI_lookup,pure_bind,hs]; rfl
 have ha:s.TypeIs (.ref l) "list":=⟨_,hl,rfl⟩
 have hb':s.TypeIs (.ref b) "list":=⟨_,hb,rfl⟩
 refine wpAny_bind (wpAny_typeOf ha (wpAny_bind (wpAny_of_eq hfi ?_)))
 show wpAny _ A (if false=true then _ else _) Q E s
 rw [if_neg Bool.false_ne_true]
 refine wpAny_bind (wpAny_binaryOp1_none (nm:="add") ha hb' noFill_list_add ?_)
 refine wpAny_bind (wpAny_of_eq (PySem.seqSlot_of listI_lookup hs) ?_)
 refine wpAny_bind (wpAny_rule ?_)
 have h0:¬(!items.isEmpty && Builtin.List.listTooLong (items.size + items2.size))=true:=by
  have:Builtin.List.listTooLong (items.size + items2.size)=false:=by
   unfold Builtin.List.listTooLong
   simp only [decide_eq_false_iff_not]
   omega
  rw [this]; simp
 exact call_meets PySem.F.slot_list_iadd ha PySem.F.entry_list_iadd (PySem.F.args_list_iadd_2 _ _) (AutoSeq1.list___iadd___list_list_0 l items n b items2 n2 h0 (by omega) (by omega)) ⟨hl,hb,h⟩
end
noncomputable def eInpX (op:Operator) (a b:AV):EM AV:=onRef a (fun i=>onRef b (fun j=>ifOp op .Add (EM.bind (eCellL i) fun xs=>EM.bind (eCellL j) fun ys=>EM.bind (eSetL i (xs ++ ys)) fun _=>EM.ret (.ref i)) EM.fail) EM.fail) (eInp op a b)
noncomputable def eAug (K:Frag) (r:Rec) (ae:AEnv) (y:Str) (op:Operator) (value:Expr):EM AFlow:=EM.bind (eName K ae y) fun old=>EM.bind (r.ev ae value) fun v=>EM.bind (eInpX op old v) fun nw=>EM.bind (eBind ae y nw) fun _=>EM.ret .next
noncomputable def eTupR (r:Rec) (ae:AEnv) (xs:List Str) (value:Expr):EM AFlow:=EM.bind (r.ev ae value) fun v=>onTup v (fun vs=>_root_.cond (Nat.beq xs.length vs.length) (EM.bind (eBinds ae xs.reverse vs.reverse) fun _=>EM.ret .next) EM.fail) EM.fail
noncomputable def swapsN (ae:AEnv) (elts:List Expr) (k:Nat) (tpos:Pos) (value:Expr) (pos:Pos) (o:Option (List Str)):Prop:=∀ env:Env,env.scope=ae.scope→swapsWithSole [.Tuple elts k tpos] value pos.line env=pure false∧swappedStores [.Tuple elts k tpos] value env=pure o
noncomputable def eTupA (K:Frag) (r:Rec) (ae:AEnv) (elts:List Expr) (k:Nat) (tpos:Pos) (value:Expr) (pos:Pos):EM AFlow:=EM.bind (EM.opt (namesOf elts)) fun xs=>EM.bind (EM.word fun w=>onWB w some none) fun b =>
 _root_.cond b (EM.bind (EM.cond (swapsN ae elts k tpos value pos (some xs))) fun _=>eTupR r ae xs value)
  (EM.bind (EM.cond (swapsN ae elts k tpos value pos none)) fun _=>EM.bind (r.ev ae value) fun v=>EM.bind (eAssign K r ae v (.Tuple elts k tpos)) fun _=>EM.ret .next)
section
variable {X:Ctx} {A:Around} {ρ:Rho} {F:Fz} {σ:St} {s:Shared} {Γ:Kn} {r:Rec} {n:Nat} {ae:AEnv} {env:Env}
theorem RunAt.chk' {β:Type} {b:Bool} {x:EM β} {C:β→St→Prop} (h:b=true→RunAt σ x C):RunAt σ (_root_.cond b x EM.fail) C:=cond_ind (P:=fun x=>RunAt σ x C) h RunAt.fail
theorem Sim.inpX {op:Operator} {a b:AV} {v w:Value} (ha:Γ.le (RDen a v)) (hb:Γ.le (RDen b w)):Sim X A Γ RDen (eInpX op a b) (inplaceOp op v w):=by
 refine onRef_ind (P:=fun x a=>Γ.le (RDen a v)→Sim X A Γ RDen x (inplaceOp op v w)) (fun i ha=>?_) (fun ha=>Sim.inp ha hb) ha
 refine onRef_ind (P:=fun x b=>Γ.le (RDen b w)→Sim X A Γ RDen x (inplaceOp op v w)) (fun j hb=>?_) (fun _=>Sim.fail) hb
 refine ifOp_ind (P:=fun x op=>Sim X A Γ RDen x (inplaceOp op v w)) (Sim.ofRun fun σ ρ F s I g=>RunAt.cellL fun xs hx hl=>RunAt.cellL fun ys hy hl2=>RunAt.setL (RunAt.ret ?_)) Sim.fail
 rw [(show v = .ref (ρ i)∧i < σ.n from ha _ _ _ g).1,(show w = .ref (ρ j)∧j < σ.n from hb _ _ _ g).1]
 refine (I.atL hx).elim fun vs q=>q.elim fun k1 q=>(I.atL hy).elim fun ws p=>p.elim fun k2 p=>Goes.to fun Q E hQ=>?_
 refine iadd_list q.1 p.1 (by rw [List.size_toArray,List.size_toArray,← q.2.length,← p.2.length]; exact Nat.add_le_add hl hl2) (hQ _ _ ρ F ⟨rfl,I.lt hx⟩ (I.listSet (f:=fun x=>x ++ ws.toArray) (ws:=vs ++ ws) hx q.1 (List.append_toArray ..) (q.2.app p.2) s.toks))
theorem Sim.aug (L:Lib X) (S:Sound X r n) (hA:Room X A n) (y:Str) (np:Pos) (op:Operator) (value:Expr) (p:Pos):SimS X A ae env (eAug X.K r ae y op value) (.AugAssign (.Name y np) op value p):=by
 unfold SimS
 rw [exec_AugAssign_Name]
 exact Sim.standAt (Sim.bind (Sim.loadN L y) fun a av=>Sim.bind (Sim.holding ((S.ev A hA ae env value).weaken (Kn.fst (Kn.le_refl _)))) fun b bv=>Sim.standAt (Sim.bind (Sim.operate (Sim.inpX (Kn.fst (Kn.snd (Kn.le_refl _))) (Kn.snd (Kn.le_refl _)))) fun c cv=>Sim.standAt (Sim.bind (Sim.bindName (Kn.fst (Kn.fst (Kn.fst (Kn.le_refl _)))) (Kn.snd (Kn.le_refl _))) fun _ _=>Sim.ret fun _ _ _ _=>rfl)))
theorem Dens.rev {N:Nat}:∀ {ys:List AV} {us:List Value},Dens N ρ F ys us→Dens N ρ F ys.reverse us.reverse
 | [],us,d=>by rw [show us=[] from d]; exact (rfl:Dens N ρ F [] [])
 | _ :: _,[],d=>d.elim
 | y :: ys,u :: us,d=>by rw [List.reverse_cons,List.reverse_cons]; exact (Dens.rev d.2).app (Dens.cons d.1 (rfl:Dens N ρ F [] []))
theorem Sim.names (p:Pos) (xs:List Str) (avs:List AV) (vs:List Value) (Γ:Kn) (hg:Γ.le (EnvK X ae env)) (hv:Γ.le (RDens avs vs)):Sim X A Γ (fun _ _=>Kn.top) (eBinds ae xs avs) (assignInOrder (xs.map fun n=>PySem.bindName env n) vs):=by
 have:=Sim.inOrder (X:=X) (A:=A) (ae:=ae) (env:=env) (fun q v=>PySem.bindName env q.1 v) (fun _ _=>.inr rfl) (xs.map fun x=>(x,p)) avs vs Γ hg hv
 rw [List.map_map,List.map_map] at this
 have e:xs.map ((fun q:Str × Pos=>q.1) ∘ fun x=>(x,p))=xs:=List.map_id' xs
 rw [e] at this
 exact this
theorem Sim.tupA (S:Sound X r n) (hA:Room X A n) (elts:List Expr) (k:Nat) (tpos:Pos) (value:Expr) (pos:Pos):SimS X A ae env (eTupA X.K r ae elts k tpos value pos) (.Assign [.Tuple elts k tpos] value pos):=Sim.opt fun xs hn=>Sim.word fun b=>by
 refine cond_ind (P:=fun x=>Sim X A (EnvK X ae env) RFlow x (PySem.exec (.Assign [.Tuple elts k tpos] value pos) env)) (fun _=>?_) ?_
 ·
  refine Sim.cond fun hp=>Sim.know (Γ:=EnvK X ae env) (P:=env.scope=ae.scope) (fun _ _ _ g=>EnvOk.sc g) fun hsc=>?_
  refine Sim.ofRun fun σ ρ F s I g=>RunAt.bind (Sim.at (S.ev A hA ae env value)) fun av σ₁ c=>?_
  refine onTup_ind (P:=fun x av=>(∀ ρ F s,Inv X ρ F σ s→(EnvK X ae env).p σ.n ρ F→Goes X A ρ F σ s (PySem.eval value env) (RDen av) σ₁)→RunAt σ₁ x fun b σ'=>Goes X A ρ F σ s (PySem.exec (.Assign [.Tuple elts k tpos] value pos) env) (RFlow b) σ') (fun vs c=>RunAt.chk' fun hl=>?_) (fun _=>RunAt.fail) c
  refine RunAt.bind (RunAt.all fun ws=>Sim.at (X:=X) (A:=A) (Sim.names tpos xs.reverse vs.reverse ws ((EnvK X ae env).and (RDens vs.reverse ws)) (Kn.fst (Kn.le_refl _)) (Kn.snd (Kn.le_refl _)))) fun _ σ₂ c2=>RunAt.ret fun Q E hQ=>?_
  refine PyProof.Rows.Assign_Tuple_swapped (names:=xs) (c ρ F s I g _ E fun v s₁ ρ₁ F₁ d I₁ st₁=>?_) (hp env hsc).1 (hp env hsc).2
  cases den_tup d with | mk a ws k2 e h hs2 =>
  rw [e,Nat.eq_of_beq_eq_true hl,hs2.length,show ws.length=ws.toArray.size from (List.size_toArray ..).symm]
  refine unpackItems_tuple hA.2.2.1 ⟨_,I₁.froz _ _ h,rfl,k2,rfl⟩ fun h' hk=>?_
  have r:=I₁.grow (h':=h') (fun b o e=>hk b o (Nat.ne_of_lt (Heap.lt_size e)) e) s₁.toks
  exact c2 ws.reverse ρ₁ F₁ _ r.1 ⟨(EnvK X ae env).mono st₁.le st₁.same st₁.sub g,Dens.rev hs2⟩ _ E fun u s' ρ' F' _ I₂ st₂=>hQ .next s' ρ' F' rfl I₂ ((st₁.trans r.2).trans st₂)
 ·
  refine Sim.cond fun hp=>Sim.know (Γ:=EnvK X ae env) (P:=env.scope=ae.scope) (fun _ _ _ g=>EnvOk.sc g) fun hsc=>?_
  refine Sim.ofRun fun σ ρ F s I g=>RunAt.bind (Sim.at (S.ev A hA ae env value)) fun av σ₁ c=>RunAt.bind (RunAt.all fun v=>Sim.at (Sim.assign (Γ:=(EnvK X ae env).and (RDen av v)) S hA (.Tuple elts k tpos) (Kn.fst (Kn.le_refl _)) (Kn.snd (Kn.le_refl _)))) fun _ σ₂ c2=>RunAt.ret fun Q E hQ=>?_
  exact PyProof.Rows.Assign_Tuple (c ρ F s I g _ E fun v s₁ ρ₁ F₁ d I₁ st₁=>c2 v ρ₁ F₁ s₁ I₁ ⟨(EnvK X ae env).mono st₁.le st₁.same st₁.sub g,d⟩ _ E fun u s' ρ' F' _ I₂ st₂=>hQ .next s' ρ' F' rfl I₂ (st₁.trans st₂)) (hp env hsc).1 (hp env hsc).2
end
noncomputable def ePairs (r:Rec) (ae:AEnv) (l:List (Expr × Expr)):EM (List (Str × AV)):=l.foldr (fun q k=>EM.bind (r.ev ae q.1) fun ka=>onStr ka (fun x=>EM.bind (r.ev ae q.2) fun a=>EM.bind k fun m=>EM.ret ((x,a) :: m)) EM.fail) (EM.ret [])
noncomputable def eDict (r:Rec) (ae:AEnv) (l:List (Expr × Expr)):EM AV:=EM.bind (EM.push (.map r.hs [])) fun j=>EM.bind (ePairs r ae l) fun m=>EM.bind (EM.cellAs asMap j) fun q=>EM.bind (EM.chk q.2.isEmpty) fun _=>EM.turn (q.1=r.hs∧(m.map (·.1)).Nodup) (fun σ=>σ.set j (.map r.hs m)) (.ref j)
noncomputable def allKeys (ks:List (Option Expr)):Option (List Expr):=ks.foldr (fun k o=>onSome k (fun e=>o.map (e :: ·)) none) (some [])
noncomputable def eDictE (r:Rec) (ae:AEnv) (ks:List (Option Expr)) (vs:List Expr):EM AV:=EM.bind (EM.opt (allKeys ks)) fun es=>_root_.cond (Nat.beq es.length vs.length && (!es.isEmpty && Nat.ble es.length 15)) (eDict r ae (es.zip vs)) EM.fail
noncomputable def PairsD (n:Nat) (ρ:Rho) (F:Fz):List (Str × AV)→List (Value × Value)→Prop
 | [],[]=>True
 | q :: m,v :: vs=>((∃ t,v.1 = .str q.1 t)∧Den n ρ F q.2 v.2)∧PairsD n ρ F m vs
 | _,_=>False
theorem PairsD.mono {n n':Nat} {ρ ρ':Rho} {F F':Fz} (h1:n≤n') (h2:∀ i,i < n→ρ' i=ρ i) (h3:∀ a o,F a=some o→F' a=some o):∀ {m:List (Str × AV)} {vs:List (Value × Value)},PairsD n ρ F m vs→PairsD n' ρ' F' m vs
 | [],[],_=>trivial
 | [],_ :: _,h=>h.elim
 | _ :: _,[],h=>h.elim
 | _ :: _,_ :: _,h=>⟨⟨h.1.1,h.1.2.mono h1 h2 h3⟩,PairsD.mono h1 h2 h3 h.2⟩
noncomputable def RPairs (m:List (Str × AV)) (vs:List (Value × Value)):Kn:=⟨fun n ρ F=>PairsD n ρ F m vs,fun h1 h2 h3 h=>PairsD.mono h1 h2 h3 h⟩
noncomputable def kvsOf' (m:List (Str × AV)) (vs:List (Value × Value)):List (Str × Value):=(m.map (·.1)).zip (vs.map (·.2))
theorem allKeys_some:∀ {ks:List (Option Expr)} {es:List Expr},allKeys ks=some es→ks=es.map some
 | [],es,h=>by rw [← Option.some.inj h]; rfl
 | k :: ks,es,h=>onSome_ind (P:=fun (x:Option (List Expr)) k=>x=some es→k :: ks=es.map some) (fun e h=>(Option.map_eq_some_iff.mp h).elim fun es' q=>by rw [← q.2,allKeys_some q.1]; rfl) (fun h=>noneOf h) h
section
variable {X:Ctx} {A:Around} {ρ:Rho} {F:Fz} {σ:St} {s:Shared} {Γ:Kn} {r:Rec} {n:Nat} {ae:AEnv} {env:Env}
theorem pairs_carry {P:Program} {w:World} {n:Nat} {ρ:Rho} {F:Fz}:∀ {m:List (Str × AV)} {vs:List (Value × Value)},PairsD n ρ F m vs→Carries (strKind P w) vs (kvsOf' m vs)∧(kvsOf' m vs).map (·.1)=m.map (·.1)∧Dens n ρ F (m.map (·.2)) ((kvsOf' m vs).map (·.2))
 | [],[],_=>⟨trivial,rfl,rfl⟩
 | [],_ :: _,h=>h.elim
 | _ :: _,[],h=>h.elim
 | q :: m,v :: vs,h=>by
  have ih:=pairs_carry (P:=P) (w:=w) h.2
  refine h.1.1.elim fun t e=>⟨⟨?_,rfl,ih.1⟩,congrArg (q.1 :: ·) ih.2.1,h.1.2,ih.2.2⟩
  rw [e]
  exact strKind_is P w q.1 t
noncomputable def pairTail (env:Env) (pos:Pos) (e:Expr) (l:List (Sem Value × Sem Value)) (kv:Value):Sem (List (Value × Value)):=PySem.holding [kv] (eval e env >>= fun x=>PySem.standAt pos >>= fun _=>pure x) >>= fun vv=>PySem.holding [kv,vv] (evalPairs l) >>= fun rest=>pure ((kv,vv) :: rest)
theorem Sim.pairs (S:Sound X r n) (hA:Room X A n) (pos:Pos):∀ l:List (Expr × Expr),Sim X A (EnvK X ae env) RPairs (ePairs r ae l) (evalPairs (l.map fun q=>(eval q.1 env,eval q.2 env >>= fun x=>PySem.standAt pos >>= fun _=>pure x)))
 | []=>Sim.ret fun _ _ _ _=>trivial
 | q :: l=>Sim.eq (t':=eval q.1 env >>= pairTail env pos q.2 (l.map fun q=>(eval q.1 env,eval q.2 env >>= fun x=>PySem.standAt pos >>= fun _=>pure x))) rfl
  (Sim.bind (S.ev A hA ae env q.1) fun ka kv=>onStr_ind (P:=fun x ka=>Sim X A ((EnvK X ae env).and (RDen ka kv)) RPairs x (pairTail env pos q.2 (l.map fun q=>(eval q.1 env,eval q.2 env >>= fun x=>PySem.standAt pos >>= fun _=>pure x)) kv))
   (fun x=>Sim.bind (Sim.holding (Sim.stood ((S.ev A hA ae env q.2).weaken (Kn.fst (Kn.le_refl _))))) fun a av=>Sim.bind (Sim.holding ((Sim.pairs S hA pos l).weaken (Kn.fst (Kn.fst (Kn.le_refl _))))) fun m vs=>Sim.ret (b:=(x,a) :: m) (a:=(kv,av) :: vs) (R:=RPairs) fun _ _ _ g=>⟨⟨g.1.1.2,g.1.2⟩,g.2⟩) Sim.fail)
theorem zip_shape {pos:Pos}:∀ {es vs:List Expr},es.length=vs.length→(evalEachOpt (es.map some) env).zip ((evalEach vs env).map fun v=>do let x ← v; PySem.standAt pos; pure x)=((es.zip vs).map fun q=>(eval q.1 env,eval q.2 env >>= fun x=>PySem.standAt pos >>= fun _=>pure x)).map fun p=>(some p.1,p.2)
 | [],[],_=>rfl
 | [],_ :: _,h=>nomatch h
 | _ :: _,[],h=>nomatch h
 | _ :: es,_ :: vs,h=>congrArg (_ :: ·) (zip_shape (Nat.succ.inj h))
theorem map_new (hs:Str→Int) (n:Nat) (ρ:Rho) (F:Fz):MapO n ρ F hs [] { cls:=.type "dict",data:=.dict #[] }:=⟨[],#[],0,⟨rfl,rfl,rfl⟩,rfl,fun e he=>by simp at he,trivial,List.nodup_nil,rfl,rfl⟩
theorem Sim.dict (S:Sound X r n) (hA:Room X A n) (es vs:List Expr) (pos:Pos) (hl:es.length=vs.length) (h0:es ≠ []) (h1:es.length≤15):SimE X A ae env (eDict r ae (es.zip vs)) (.Dict (es.map some) vs pos):=Sim.ofRun fun σ ρ F s I g=>RunAt.push <| RunAt.bind (Sim.at (Sim.pairs (ae:=ae) (env:=env) S hA pos (es.zip vs))) fun m σ₂ c=>RunAt.cellAs asMap_some fun q hx=>RunAt.chk fun he=>RunAt.turn fun hq=>Goes.to fun Q E hQ=>by
 have r1:=I.push (a:=s.heap.objs.size) (c:=.map r.hs []) (h':=s.heap.push { cls:=.type "dict",data:=.dict #[] }) (Heap.get?_none_of_le (Nat.le_refl _)) (fun b o e=>Heap.get?_push_of_some _ e) ⟨_,Heap.get?_push_size _ rfl,map_new _ _ _ _⟩ s.toks
 have hz:(es.zip vs).length=es.length:=by rw [List.length_zip,← hl,Nat.min_self]
 refine wpAny_Dict_pairs (knd:=strKind X.prog X.w) (zip_shape hl) (fun e=>h0 (List.eq_nil_of_length_eq_zero (by rw [← hz,← List.length_map,e]; rfl))) (by rw [List.length_map,hz]; exact h1)
  (c (ρ.put σ.n s.heap.objs.size) F _ r1.1 ((EnvK X ae env).mono r1.2.le r1.2.same r1.2.sub g) _ E fun vs' s₁ ρ₁ F₁ d I₁ st₁=>?_)
 have pc:=pairs_carry (P:=X.prog) (w:=X.w) d
 have ha:ρ₁ σ.n=s.heap.objs.size:=(st₁.same σ.n (Nat.lt_succ_self _)).trans (Rho.put_self ρ σ.n _)
 rw [List.isEmpty_iff.mp he,hq.1,S.hs] at hx
 refine ⟨_,pc.1,(map_dict (P:=X.prog) (I₁.cell _ _ hx)).elim fun kvs p=>?_,fun h' hd' hsb=>?_⟩
 ·rw [← ha]
  have:kvs=[]:=List.map_eq_nil_iff.mp p.2.1
  exact this ▸ p.1
 ·rw [merged_nil_of_nodup _ (by rw [pc.2.1]; exact hq.2)] at hd'
  rw [← ha] at hd' hsb
  have r2:=I₁.set hx hsb.extBut (c':=.map r.hs m) (by rw [S.hs]; exact dict_map hd' pc.2.1 pc.2.2) (s₁.toks + vs'.length)
  exact hQ _ _ ρ₁ F₁ ⟨congrArg Value.ref ha.symm,Nat.lt_of_lt_of_le (Nat.lt_succ_self _) st₁.le⟩ ⟨r2.1,(r1.2.trans st₁).trans r2.2⟩
theorem Sim.dictE (S:Sound X r n) (hA:Room X A n) (ks:List (Option Expr)) (vs:List Expr) (pos:Pos):SimE X A ae env (eDictE r ae ks vs) (.Dict ks vs pos):=Sim.opt fun es he=>Sim.chk fun h=>by
 rw [Bool.and_eq_true,Bool.and_eq_true] at h
 rw [allKeys_some he]
 exact Sim.dict S hA es vs pos (Nat.eq_of_beq_eq_true h.1) (fun e=>by rw [e] at h; exact nomatch h.2.1) (Nat.le_of_ble_eq_true h.2.2)
end
noncomputable def eEntry (L e:Nat) (C:Addr) (d:Option Nat):EM Unit:=EM.upd fun σ=>(σ.push (.tb (some L))).set e (.exc C d (some σ.n))
noncomputable def eNote (L e:Nat):EM Unit:=EM.bind (EM.cellAs asExc e) fun q=>onSome q.2.2 (fun t=>EM.bind (EM.cellAs asTb t) fun fl=>onSome fl (fun l=>EM.retB (Nat.beq l L) ()) (EM.bind (EM.upd fun σ=>σ.set t (.tb none)) fun _=>eEntry L e q.1 q.2.1)) (eEntry L e q.1 q.2.1)
noncomputable def eFlight (e:Nat):EM Unit:=EM.bind (EM.cellAs asExc e) fun q=>onSome q.2.2 (fun t=>EM.bind (EM.cellAs asTb t) fun _=>EM.upd fun σ=>σ.set t (.tb none)) (EM.ret ())
section
variable {X:Ctx} {A:Around} {ρ:Rho} {F:Fz} {σ:St} {s:Shared} {Γ:Kn} {ae:AEnv} {env:Env}
theorem ns_slots {n:Nat} {a:Addr} {c:Cell} {o:Obj} {sl:Array (Option Value)}:isNs c=true→CellO n ρ F a c o→CellO n ρ F a c { o with slots:=sl } :=
 onCNs_ind (P:=fun b c=>b=true→CellO n ρ F a c o→CellO n ρ F a c { o with slots:=sl }) (fun m _ (x:NsO n ρ F m o)=>by cases x with | mk f es ep hd hs hf d=>exact ⟨f,es,ep,hd,hs,hf,d⟩) ff
theorem Inv.slots (I:Inv X ρ F σ s) {h':Heap} (h:Heap.SlotsOnly ((X.fr.map (·.1)).filterMap (·.frame)) s.heap h'):Inv X ρ F σ { s with heap:=h' }∧Stp ρ F σ s ρ F σ { s with heap:=h' }:=by
 have inS:∀ a,a ∈ (X.fr.map (·.1)).filterMap (·.frame)→∃ i c,a=ρ i∧σ.get i=some c∧isNs c=true:=fun a ha =>
  (List.mem_filterMap.mp ha).elim fun env q=>(List.mem_map.mp q.1).elim fun e p=>(I.frs e p.1).2.elim fun c z=>⟨e.2,c,(Option.some.inj ((I.frs e p.1).1.2.symm.trans (p.2 ▸ q.2))).symm,z⟩
 have keepF:∀ a o,F a=some o→h'.get? a=some o:=fun a o e=>(h.2.1 a fun ha=>(inS a ha).elim fun i q=>q.elim fun c q=>I.notF e q.2.1 q.1.symm).trans (I.froz _ _ e)
 have notIn:∀ x,(∀ i c,σ.get i=some c→ρ i ≠ x)→h'.get? x=s.heap.get? x:=fun x hx=>h.2.1 x fun ha=>(inS x ha).elim fun i q=>q.elim fun c q=>hx i c q.2.1 q.1.symm
 refine ⟨⟨I.ids,I.inj,fun i c hi=>?_,I.off,keepF,I.base,I.drawn,I.os,I.gens,I.frs⟩,⟨Nat.le_refl _,fun _ _=>rfl,fun _ _ e=>e,fun x o e hx=>(notIn x hx).trans e,fun x o e=>(h.2.2 _ o e).elim fun sl hs=>⟨_,hs⟩,fun i c hi=>.inl ⟨I.ids _ _ hi,c,hi⟩,fun _ _ e=>e⟩⟩
 by_cases hin:ρ i ∈ (X.fr.map (·.1)).filterMap (·.frame)
 ·refine (inS _ hin).elim fun j q=>q.elim fun d q=>(I.at hi).ex fun o ho x=>(h.2.2 _ o ho).elim fun sl hs=>⟨_,hs,ns_slots ?_ x⟩
  have e:=I.inj i j c d hi q.2.1 q.1
  rw [e] at hi
  rw [Option.some.inj (hi.symm.trans q.2.1)]
  exact q.2.2
 ·exact (I.at hi).keep fun o e=>(h.2.1 _ hin).trans e
theorem ns_dict {n:Nat} {a:Addr} {c:Cell} {o:Obj}:isNs c=true→CellO n ρ F a c o→∃ es ep,o.data = .dict es ep :=
 onCNs_ind (P:=fun b c=>b=true→CellO n ρ F a c o→∃ es ep,o.data = .dict es ep) (fun m _ (x:NsO n ρ F m o)=>by cases x with | mk f es ep hd=>exact ⟨es,ep,hd⟩) ff
theorem funFrames_of (I:Inv X ρ F σ s):∀ l:List (Env × Nat),(∀ e ∈ l,e ∈ X.fr)→s.heap.FunFrames {} (l.map (·.1))
 | [],_=>trivial
 | e :: l,h=>have q:=I.frs e (h e (.head _)); q.2.elim fun c z=>(I.at z.1).ex fun o ho x=>(ns_dict z.2 x).elim fun es p=>p.elim fun ep hd =>
  ⟨by rw [q.1.1]; decide,⟨ρ e.2,o,q.1.2,Heap.get?_none_of_le (Nat.zero_le _),ho,fun vs q=>nomatch hd.symm.trans q⟩,funFrames_of I l fun e he=>h e (.tail _ he)⟩
theorem frameOf_here {M:Model} {E:Value→Shared→Prop} {env₀:Env} {outer:List Env} {L:Addr} {base:Heap} {Q:Value→Shared→Prop} (hfr:A.frames=some (env₀ :: outer)) (hl:s.heap.FunFrames base (env₀ :: outer))
  (hf0:env₀.frame=some L) (hf:env.frame=some L) (h:∀ h',Heap.SlotsOnly ((env₀ :: outer).filterMap (·.frame)) s.heap h'→Q (.ref L) { s with heap:=h' }):wpAny M A (PySem.frameOf env) Q E s:=by
 unfold PySem.frameOf
 refine wpAny_bind (wpAny_frameEnvs hfr ?_)
 have hdw:((env₀ :: outer).dropWhile fun x=>x.frame != env.frame)=env₀ :: outer:=by simp [List.dropWhile,hf0,hf]
 rw [hdw]
 unfold frameObject
 refine wpAny_bind (wpAny_bind (wpAny_readyFrames_fun hl fun h₁ hs₁=>wpAny_pure ?_))
 rw [hf0]
 exact wpAny_pure (h h₁ hs₁)
noncomputable def entryT (a L:Addr) (head:Value) (hadNext:Bool) (env:Env):Sem Unit:=do setField (.ref a) 1 (← EntryCells.newEntry head (← PySem.frameOf env) .none (rawInt L) .none (← entryPlaceOf L hadNext))
theorem tb_new {n L:Nat} {a:Addr} {h:Heap} {pl:List Value} (hlt:L < n) {head:Value} (e:h.get? a=some { cls:=.type "traceback",dict:=none,data:=.fields ([head,.ref (ρ L),.none,rawInt (ρ L),.none] ++ pl).toArray }):CellAt n ρ F h a (.tb (some L)) :=
 ⟨_,e,_,rfl,by simp; rfl,fun i hi=>Option.some.inj hi ▸ hlt⟩
theorem entry_ok (hfr:A.frames=some (X.fr.map (·.1))) (I:Inv X ρ F σ s) {L e:Nat} {C:Addr} {d t:Option Nat} (htop:∃ e r,X.fr=e :: r∧e.2=L) (hf:env.frame=some (ρ L)) (he:σ.get e=some (.exc C d t)) {head:Value} {hadNext:Bool} :
  Goes X A ρ F σ s (entryT (ρ e) (ρ L) head hadNext env) (fun _=>Kn.top) ((σ.push (.tb (some L))).set e (.exc C d (some σ.n))):=fun Q E hQ=>htop.elim fun e₀ q=>q.elim fun r q=>by
 have hff:=funFrames_of I X.fr fun e h=>h
 have h0:=I.frs e₀ (by rw [q.1]; exact .head _)
 rw [q.2] at h0
 have hlt:L < σ.n:=h0.2.elim fun c z=>I.ids _ _ z.1
 have hsl:∀ h',Heap.SlotsOnly ((e₀.1 :: r.map (·.1)).filterMap (·.frame)) s.heap h'→Heap.SlotsOnly ((X.fr.map (·.1)).filterMap (·.frame)) s.heap h':=fun h' x=>by rw [q.1]; exact x
 rw [q.1,List.map_cons] at hfr hff
 refine wpAny_bind (frameOf_here hfr hff h0.1.2 hf fun h₁ hs₁=>?_)
 have r₁:=I.slots (hsl h₁ hs₁)
 refine wpAny_bind (wpAny_entryPlaceOf fun pl hpl=>?_)
 unfold EntryCells.newEntry newFields
 refine wpAny_bind (wpAny_newObj_type ?_ (hpl.sizeOk5 _ _ _ _ _))
 refine (r₁.1.atX he).elim fun vs hx=>?_
 have hel:=I.lt he
 have hρ:∀ j,j < σ.n→(ρ.put σ.n h₁.objs.size) j=ρ j:=fun j hj=>Rho.put_lt ρ _ hj
 have hpL:=hρ L hlt
 have r₂:=r₁.1.push (a:=h₁.objs.size) (c:=.tb (some L)) (h':=h₁.push { cls:=.type "traceback",dict:=none,data:=.fields ([head,.ref (ρ L),.none,rawInt (ρ L),.none] ++ (if pl.isEmpty then List.replicate 6 Value.none else pl)).toArray })
  (Heap.get?_none_of_le (Nat.le_refl _)) (fun b o e=>Heap.get?_push_of_some _ e) (tb_new (head:=head) (pl:=if pl.isEmpty then List.replicate 6 Value.none else pl) (Nat.lt_succ_of_lt hlt) (by rw [hpL]; exact Heap.get?_push_size _ rfl)) s.toks
 have ho₂:=Heap.get?_push_of_some (h:=h₁) { cls:=.type "traceback",dict:=none,data:=.fields ([head,.ref (ρ L),.none,rawInt (ρ L),.none] ++ (if pl.isEmpty then List.replicate 6 Value.none else pl)).toArray } hx.1
 have hsz:1 < vs.size:=(Array.getElem?_eq_some_iff.mp hx.2.1).1
 refine wpAny_setField ho₂ rfl hsz ?_
 have hρe:=hρ e hel
 have r₃:=r₂.1.set (i:=e) (c:=.exc C d t) (c':=.exc C d (some σ.n)) ((St.get_push_lt _ _ hel).trans he)
  (h':=(h₁.push { cls:=.type "traceback",dict:=none,data:=.fields ([head,.ref (ρ L),.none,rawInt (ρ L),.none] ++ (if pl.isEmpty then List.replicate 6 Value.none else pl)).toArray }).update (ρ e) (Obj.mapFields (·.setIfInBounds 1 (Value.ref h₁.objs.size))))
  (fun b o hb e=>by rw [Heap.get?_update_other _ _ (fun e=>hb (by rw [hρe]; exact e.symm))]; exact e)
  ⟨oExc C (d.map (ρ.put σ.n h₁.objs.size)) (vs.setIfInBounds 1 (.ref h₁.objs.size)),by
   rw [hρe,Heap.get?_update_self _ ho₂ rfl,dMap_same fun j hj=>hρ j (hx.2.2.1 j hj)]
   rfl,vs.setIfInBounds 1 (.ref h₁.objs.size),rfl,by
   show _=some (Value.ref ((ρ.put σ.n h₁.objs.size) σ.n))
   rw [Rho.put_self]; exact Array.getElem?_setIfInBounds_self_of_lt hsz,fun j hj=>Nat.lt_succ_of_lt (hx.2.2.1 j hj),fun j hj=>Option.some.inj hj ▸ Nat.lt_succ_self _⟩ s.toks
 exact hQ _ _ _ _ trivial r₃.1 ((r₁.2.trans r₂.2).trans r₃.2)
theorem mark_ok (I:Inv X ρ F σ s) {t:Nat} {fl:Option Nat} (ht:σ.get t=some (.tb fl)) {M:Model} {E:Value→Shared→Prop} {Q:Unit→Shared→Prop} (hQ:∀ s',Inv X ρ F (σ.set t (.tb none)) s'→Stp ρ F σ s ρ F (σ.set t (.tb none)) s'→Q () s'):wpAny M A (setField (.ref (ρ t)) 3 .none) Q E s :=
 (I.atTb ht).elim fun ot q=>q.elim fun ts q=>by
  have hsz:3 < ts.size:=(Array.getElem?_eq_some_iff.mp q.2.2.1).1
  have r:=I.set (i:=t) (c:=.tb fl) (c':=.tb none) ht (h':=s.heap.update (ρ t) (Obj.mapFields (·.setIfInBounds 3 Value.none))) (fun b o hb e=>by rw [Heap.get?_update_other _ _ (fun e=>hb e.symm)]; exact e)
   ⟨_,Heap.get?_update_self _ q.1 (Obj.isFreed_of_fields (Obj.data_mapFields q.2.1 _)),_,Obj.data_mapFields q.2.1 _,Array.getElem?_setIfInBounds_self_of_lt hsz,fun _ h=>noneOf h⟩ s.toks
  exact wpAny_setField q.1 q.2.1 hsz (hQ _ r.1 r.2)
theorem Sim.note (hfr:A.frames=some (X.fr.map (·.1))) {e:Nat} {v:Value} (hg:Γ.le (EnvK X ae env)) (hv:Γ.le (RDen (.ref e) v)):Sim X A Γ (fun _ _=>Kn.top) (eNote ae.frm e) (noteFrame v env):=Sim.ofRun fun σ ρ F s I g=>RunAt.cellAs asExc_some fun q he=>by
 have gE:=hg _ _ _ g
 have hf:env.frame=some (ρ ae.frm):=EnvOk.fr gE
 have htop:=EnvOk.top gE
 rw [(show v = .ref (ρ e)∧e < σ.n from hv _ _ _ g).1]
 cases q with | mk C q =>
 cases q with | mk d t =>
 refine (I.atX he).elim fun vs hx=>?_
 unfold noteFrame
 simp only [hf]
 cases t with
 | none =>
  show RunAt σ (eEntry ae.frm e C d) _
  unfold eEntry
  refine RunAt.updE fun Q E hQ=>wpAny_bind (wpAny_field hx.1 rfl hx.2.1 ?_)
  rw [if_neg (show ¬ ((tbVal ρ none != Value.none)=true) from (by decide:¬ ((Value.none != Value.none)=true)))]
  exact entry_ok hfr I htop hf he Q E hQ
 | some t =>
  show RunAt σ (EM.bind (EM.cellAs asTb t) fun fl=>onSome fl (fun l=>EM.retB (Nat.beq l ae.frm) ()) (EM.bind (EM.upd fun σ=>σ.set t (.tb none)) fun _=>eEntry ae.frm e C d)) _
  refine RunAt.cellAs asTb_some fun fl ht=>(I.atTb ht).elim fun ot p=>p.elim fun ts p=>?_
  cases fl with
  | some l =>
   show RunAt σ (EM.retB (Nat.beq l ae.frm) ()) _
   refine RunAt.retB fun hl Q E hQ=>wpAny_bind (wpAny_field hx.1 rfl hx.2.1 ?_)
   rw [if_pos (show (tbVal ρ (some t) != Value.none)=true from rfl)]
   refine wpAny_bind (wpAny_field p.1 p.2.1 p.2.2.1 ?_)
   rw [if_pos (show (flVal ρ (some l) == rawInt (ρ ae.frm))=true from by rw [Nat.eq_of_beq_eq_true hl]; exact beq_self_eq_true _)]
   exact wpAny_pure (hQ () s ρ F trivial I (Stp.refl ρ F I.ids))
  | none =>
   show RunAt σ (EM.bind (EM.upd fun σ=>σ.set t (.tb none)) fun _=>eEntry ae.frm e C d) _
   unfold eEntry
   refine RunAt.upd (RunAt.updE fun Q E hQ=>wpAny_bind (wpAny_field hx.1 rfl hx.2.1 ?_))
   rw [if_pos (show (tbVal ρ (some t) != Value.none)=true from rfl)]
   refine wpAny_bind (wpAny_field p.1 p.2.1 p.2.2.1 ?_)
   rw [if_neg (show ¬ ((flVal ρ none == rawInt (ρ ae.frm))=true) from Bool.false_ne_true)]
   have het:e ≠ t:=fun h=>by rw [h] at he; exact nomatch Option.some.inj (he.symm.trans ht)
   exact wpAny_bind (mark_ok I ht fun s' I' st=>entry_ok hfr I' htop hf ((St.get_set_ne _ _ het).trans he) Q E fun u s'' ρ' F' a b c=>hQ u s'' ρ' F' a b (st.trans c))
theorem flight_ok {e:Nat}:RunAt σ (eFlight e) fun _ σ'=>∀ (ρ:Rho) (F:Fz) (s:Shared),Inv X ρ F σ s→∀ (M:Model) (A:Around) (Q:Unit→Shared→Prop) (E:Value→Shared→Prop),(∀ s',Inv X ρ F σ' s'→Stp ρ F σ s ρ F σ' s'→Q () s')→wpAny M A (setFlight (.ref (ρ e)) none) Q E s:=RunAt.cellAs asExc_some fun q he=>by
 cases q with | mk C q =>
 cases q with | mk d t =>
 cases t with
 | none =>
  show RunAt σ (EM.ret ()) _
  refine RunAt.ret fun ρ F s I M A Q E hQ=>(I.atX he).elim fun vs hx=>wpAny_bind (wpAny_field hx.1 rfl hx.2.1 ?_)
  rw [if_neg (show ¬ ((tbVal ρ none != Value.none)=true) from (by decide:¬ ((Value.none != Value.none)=true)))]
  exact wpAny_pure (hQ s I (Stp.refl ρ F I.ids))
 | some t =>
  show RunAt σ (EM.bind (EM.cellAs asTb t) fun _=>EM.upd fun σ=>σ.set t (.tb none)) _
  refine RunAt.cellAs asTb_some fun fl ht=>RunAt.updE fun ρ F s I M A Q E hQ=>(I.atX he).elim fun vs hx=>wpAny_bind (wpAny_field hx.1 rfl hx.2.1 ?_)
  rw [if_pos (show (tbVal ρ (some t) != Value.none)=true from rfl)]
  exact mark_ok I ht hQ
end
structure XRec where
 xe:AEnv→Expr→EM Nat
 xs:AEnv→List Stmt→EM Nat
 xcall:AV→List AV→List (Str × AV)→EM Nat
noncomputable def XGoes {α:Type} (X:Ctx) (A:Around) (ρ:Rho) (F:Fz) (σ:St) (s:Shared) (t:Sem α) (e:Nat) (σ':St):Prop:=∀ (Q:α→Shared→Prop) (E:Value→Shared→Prop),
 (∀ v s' ρ' F',Den σ'.n ρ' F' (.ref e) v→Inv X ρ' F' σ' s'→Stp ρ F σ s ρ' F' σ' s'→E v s')→wpAny (model X.prog X.w) A t Q E s
noncomputable def XSim {α:Type} (X:Ctx) (A:Around) (Γ:Kn) (x:EM Nat) (t:Sem α):Prop:=∀ σ,RunAt σ x fun e σ'=>∀ ρ F s,Inv X ρ F σ s→Γ.p σ.n ρ F→XGoes X A ρ F σ s t e σ'
structure XSound (X:Ctx) (r:XRec) (n:Nat):Prop where
 xe:∀ A,Room X A n→∀ ae env e,XSim X A (EnvK X ae env) (r.xe ae e) (eval e env)
 xs:∀ A,Room X A n→∀ ae env ss,XSim X A (EnvK X ae env) (r.xs ae ss) (execs ss env)
 xcall:∀ A,Room X A n→∀ f fv as vs ks kvs,XSim X A (RCall f fv as vs ks kvs) (r.xcall f as ks) (call fv vs ((ks.map (·.1)).zip kvs))
noncomputable def XSoundF (X:Ctx) (r:XRec) (n:Nat):Prop:=∀ fr,XSound (X.wf fr) r n
noncomputable def eWd:EM Bool:=EM.word fun w=>onWB w some none
noncomputable def xList (one:Stmt→EM AFlow) (xone:Stmt→EM Nat) (ss:List Stmt):EM Nat:=ss.foldr (fun st k=>EM.bind eWd fun b=>_root_.cond b (xone st) (EM.bind (one st) fun fl=>onFl fl k (fun _=>EM.fail) EM.fail)) EM.fail
noncomputable def eThrow (K:Frag) (v:AV):EM Nat:=onRef v (fun i=>EM.bind (EM.cellAs asExc i) fun q=>EM.retB ((q.2.2.isNone && (mroIn K q.1 (.type "BaseException") == some true)) && (typeIn K (.ref q.1) == some (.type "type"))) i) EM.fail
noncomputable def xPlain (XR:XRec) (ae:AEnv) (b:Bool) (e:Expr):EM Nat:=_root_.cond (b && plainE e) (XR.xe ae e) EM.fail
noncomputable def xIf (R:Rec) (ae:AEnv) (test:Expr) (x y:EM Nat):EM Nat:=eBr (R.tst ae test) x y
section
variable (K:Frag) (R:Rec) (XR:XRec) (ae:AEnv)
noncomputable def xStmt (st:Stmt):EM Nat:=onExprS st (fun e _=>xPlain XR ae true e) <| onAssign st (fun ts value _=>on1 ts (fun t=>xPlain XR ae (simpleTarget t) value) EM.fail) <|
 onIf st (fun test body orelse _=>xIf R ae test (XR.xs ae body) (XR.xs ae orelse)) <| onRaise st (fun o c _=>onSome o (fun e=>onSome c (fun _=>EM.fail) (EM.bind (R.ev ae e) fun v=>eThrow K v)) EM.fail) EM.fail
noncomputable def xCallWith (f:AV) (first:List AV) (args:List Expr) (kws:List Keyword):EM Nat:=_root_.cond (keepOk K f) (EM.bind (eArgs2 R ae args kws) fun p=>XR.xcall f (first ++ p.1) p.2) EM.fail
noncomputable def xMeth (o:Expr) (name:Str) (apos:Pos) (args:List Expr) (kws:List Keyword) (pos:Pos):EM Nat:=_root_.cond (notSuper o && fewOk args kws && (apos.endLine == pos.line)) (EM.bind (R.ev ae o) fun ov=>EM.bind (eMethod K ov name) fun p=>xCallWith K R XR ae p.1 p.2 args kws) EM.fail
noncomputable def xExpr (e:Expr):EM Nat:=onIfExp e (fun test body orelse _=>xIf R ae test (XR.xe ae body) (XR.xe ae orelse)) <| onCall e (fun f args kws pos=>onAttribute f (fun o name apos=>xMeth K R XR ae o name apos args kws pos) <|
 onName f (fun x p=>EM.bind (R.ev ae (.Name x p)) fun f=>xCallWith K R XR ae f [] args kws) EM.fail) EM.fail
end
noncomputable def xFn (K:Frag) (XR:XRec) (f:AV) (as:List AV) (ks:List (Str × AV)):EM Nat:=EM.bind (EM.opt (fnInfo K f)) fun fi=>_root_.cond (plainParams fi.params && plainScope fi.scope) (EM.bind (EM.opt (bindsOf (fi.params.args.map fun p=>p.arg) fi.dflts as ks)) fun binds =>
 EM.bind (eEnter fi.scope fi.closure fi.code binds) fun ae=>EM.bind (XR.xs ae fi.body) fun e=>EM.bind (eNote ae.frm e) fun _=>EM.bind (eFlight e) fun _=>EM.ret e) EM.fail
section
variable {α β γ δ:Type} {X:Ctx} {A:Around} {ρ:Rho} {F:Fz} {σ:St} {s:Shared} {Γ:Kn} {R:Rec} {XR:XRec} {n:Nat} {ae:AEnv} {env:Env}
theorem XSim.fail {t:Sem α}:XSim X A Γ EM.fail t:=fun _=>RunAt.fail
theorem XSim.weaken {Γ':Kn} {x:EM Nat} {t:Sem α} (h:XSim X A Γ x t) (hg:Γ'.le Γ):XSim X A Γ' x t:=fun σ=>(h σ).mono fun e σ' c ρ F s I g=>c ρ F s I (hg _ _ _ g)
theorem XSim.know {P:Prop} {x:EM Nat} {t:Sem α} (h:Γ.le (Kn.is P)) (hk:P→XSim X A Γ x t):XSim X A Γ x t:=fun σ ds b ev' cs e hc ρ F s I g=>hk (h _ _ _ g) σ ds b ev' cs e hc ρ F s I g
theorem XSim.bindL {x:EM Nat} {t:Sem α} {k:α→Sem γ} (h:XSim X A Γ x t):XSim X A Γ x (t >>= k):=fun σ=>(h σ).mono fun e σ' c ρ F s I g Q E hE=>wpAny_bind (c ρ F s I g _ E hE)
theorem XSim.bindR {x:EM β} {f:β→EM Nat} {t:Sem α} {k:α→Sem γ} {R:β→α→Kn} (h:Sim X A Γ R x t) (hk:∀ b v,XSim X A (Γ.and (R b v)) (f b) (k v)):XSim X A Γ (EM.bind x f) (t >>= k):=fun σ =>
 RunAt.bind (Sim.at h) fun b σ₁ c=>(RunAt.all fun v=>hk b v σ₁).mono fun e σ' d ρ F s I g Q E hE=>wpAny_bind (c ρ F s I g _ E fun v s₁ ρ₁ F₁ hr I₁ st=>d v ρ₁ F₁ s₁ I₁ ⟨Γ.mono st.le st.same st.sub g,hr⟩ Q E fun w s₂ ρ₂ F₂ d I₂ st₂=>hE w s₂ ρ₂ F₂ d I₂ (st.trans st₂))
theorem XSim.eq {x:EM Nat} {t t':Sem α} (e:t=t') (h:XSim X A Γ x t'):XSim X A Γ x t:=e ▸ h
theorem XSim.standAt {p:Pos} {x:EM Nat} {k:Unit→Sem α} (h:XSim X A Γ x (k ())):XSim X A Γ x (standAt p >>= k):=fun σ=>(h σ).mono fun e σ' c ρ F s I g Q E hE=>wpAny_bind (wpAny_standAt (c ρ F s I g Q E hE))
theorem XSim.br {x:EM Bool} {y z:EM Nat} {t:Sem Bool} {k:Bool→Sem α} (hx:Sim X A Γ REq x t) (hy:XSim X A Γ y (k true)) (hz:XSim X A Γ z (k false)):XSim X A Γ (eBr x y z) (t >>= k) :=
 XSim.bindR hx fun b c=>XSim.know (P:=b=c) (Kn.snd (Kn.le_refl _)) fun h σ=>RunAt.stay RunAt.dec0 fun d hd=>by
  rw [← h,hd]
  cases d
  ·exact hz.weaken (Kn.fst (Kn.le_refl _)) σ
  ·exact hy.weaken (Kn.fst (Kn.le_refl _)) σ
theorem XSim.chk {b:Bool} {x:EM Nat} {t:Sem α} (h:b=true→XSim X A Γ x t):XSim X A Γ (_root_.cond b x EM.fail) t:=cond_ind (P:=fun x=>XSim X A Γ x t) h XSim.fail
theorem XSim.list {one:Stmt→EM AFlow} {xone:Stmt→EM Nat} (h1:∀ st,SimS X A ae env (one st) st) (hx:∀ st,XSim X A (EnvK X ae env) (xone st) (exec st env)):∀ ss:List Stmt,XSim X A (EnvK X ae env) (xList one xone ss) (execs ss env)
 | []=>XSim.fail
 | st :: rest=>by
  rw [execs_cons]
  show XSim X A (EnvK X ae env) (EM.bind eWd fun b=>_root_.cond b (xone st) (EM.bind (one st) fun fl=>onFl fl (xList one xone rest) (fun _=>EM.fail) EM.fail)) _
  refine fun σ=>RunAt.word fun b=>?_
  cases b with
  | true=>exact XSim.bindL (hx st) σ
  | false =>
   show RunAt σ (EM.bind (one st) fun fl=>onFl fl (xList one xone rest) (fun _=>EM.fail) EM.fail) _
   refine XSim.bindR (h1 st) (fun fl f=>?_) σ
   cases fl with
   | next=>exact XSim.know (P:=f = .next) (Kn.snd (Kn.le_refl _)) fun h=>by rw [h]; exact (XSim.list h1 hx rest).weaken (Kn.fst (Kn.le_refl _))
   | _=>exact XSim.fail
theorem throw_ok (hA:A.handled=none) (I:Inv X ρ F σ s) {i:Nat} {C:Addr} {d:Option Nat} (he:σ.get i=some (.exc C d none)) (h:(True∧(mroIn X.K C (.type "BaseException") == some true)=true)∧(typeIn X.K (.ref C) == some (.type "type"))=true):XGoes X A ρ F σ s (raiseStmt env (some (pure (.ref (ρ i)))) none) i σ:=fun Q E hE=>by
 refine (I.atX he).elim fun vs hx=>?_
 unfold raiseStmt
 dsimp only
 refine wpAny_bind (wpAny_pure ?_)
 have L0:Looks (model X.prog X.w) s.heap (typeOf (.ref (ρ i))) (.ref C):=(Looks.ld hx.1).andThen .now
 have L1:=looks_mroIn (M:=model X.prog X.w) I.Kin (eq_of_beq h.1.2)
 have L2:=looks_typeIn (M:=model X.prog X.w) I.Kin (eq_of_beq h.2)
 have hnt:∀ {Q':Bool→Shared→Prop},Q' false s→wpAny (model X.prog X.w) A (isType (.ref (ρ i))) Q' E s:=by
  intro Q' hq
  simp only [isType,loadHead]
  refine wpAny_bind (wpAny_loadPart hx.1 ?_)
  exact wpAny_pure hq
 refine wpAny_bind (wpAny_pure ?_)
 refine wpAny_bind (wpAny_holding ?_)
 unfold excFromValue isExcClass
 refine wpAny_bind (wpAny_bind (hnt ?_))
 simp only [Bool.false_eq_true,if_false]
 refine wpAny_pure ?_
 simp only [Bool.false_eq_true,if_false]
 unfold isInstance
 refine wpAny_bind (wpAny_bind (L0.here (L1.here ?_)))
 simp only [if_true]
 refine wpAny_pure ?_
 refine wpAny_bind (hnt ?_)
 simp only [Bool.false_eq_true,if_false]
 unfold raisedInstance
 refine wpAny_bind (wpAny_bind (L0.here (wpAny_bind (L2.here ?_))))
 rw [if_pos (by decide)]
 refine wpAny_pure ?_
 unfold setFlight raiseNew
 refine wpAny_bind (wpAny_bind (wpAny_field hx.1 rfl hx.2.1 ?_))
 rw [if_neg (show ¬ ((tbVal ρ none != Value.none)=true) from (by decide:¬ ((Value.none != Value.none)=true)))]
 refine wpAny_pure (wpAny_bind (wpAny_handled ?_))
 rw [hA]
 exact wpAny_bind (wpAny_pure (wpAny_throw (hE _ s ρ F ⟨rfl,I.lt he⟩ I (Stp.refl ρ F I.ids))))
theorem XSim.throw (hA:A.handled=none) {x:Sem Value} {M:EM AV} (hx:Sim X A Γ RDen M x):XSim X A Γ (EM.bind M fun v=>eThrow X.K v) (raiseStmt env (some x) none):=by
 refine XSim.eq (t':=x >>= fun v=>raiseStmt env (some (pure v)) none) (by unfold raiseStmt; simp only [pure_bind]) (XSim.bindR hx fun av v=>?_)
 refine onRef_ind (P:=fun y av=>XSim X A (Γ.and (RDen av v)) y (raiseStmt env (some (pure v)) none)) (fun i σ=>RunAt.cellAs asExc_some fun q he=>RunAt.retB fun h ρ F s I g=>?_) XSim.fail
 rw [(show v = .ref (ρ i)∧i < σ.n from g.2).1]
 rw [Bool.and_eq_true,Bool.and_eq_true] at h
 exact throw_ok hA I (d:=q.2.1) (by rw [← Option.isNone_iff_eq_none.mp h.1.1]; exact he) ⟨⟨trivial,h.1.2⟩,h.2⟩
theorem XSim.ifX (S:Sound X R n) (hA:Room X A n) {test:Expr} {x y:EM Nat} {t u:Sem α} (hx:XSim X A (EnvK X ae env) x t) (hy:XSim X A (EnvK X ae env) y u):XSim X A (EnvK X ae env) (xIf R ae test x y) (isTrue test env (eval test env) >>= fun b=>if b=true then t else u):=XSim.br (k:=fun b=>if b=true then t else u) (S.tst A hA ae env test) hx hy
theorem XSim.stmt (S:Sound X R n) (XS:XSound X XR n) (hA:Room X A n) (st:Stmt):XSim X A (EnvK X ae env) (xStmt X.K R XR ae st) (exec st env):=by
 refine onExprS_ind (P:=fun x st=>XSim X A (EnvK X ae env) x (exec st env)) (fun e p=>XSim.chk fun hc=>?_) ?_
 ·rw [Bool.and_eq_true] at hc
  refine XSim.know (Γ:=EnvK X ae env) (P:=interactive env=false) (fun _ _ _ g=>by unfold interactive; rw [EnvOk.sc g,EnvOk.fn g]; rfl) fun hi=>?_
  rw [exec_Expr env e p hi (plainE_ind (P:=fun e=>swapsWith e none p.line env=pure false) (fun _ _ _=>rfl) (fun _ _=>rfl) (fun _ _ _=>rfl) (fun _ _ _=>rfl) (fun _ _ _ _=>rfl) (fun _ _ _ _=>rfl) (fun _ _ _=>rfl) (fun _ _ _ _=>rfl) (fun _ _ _ _=>rfl) (fun _ _=>rfl) (fun _ _ _=>rfl) (fun _ _ _=>rfl) hc.2)]
  exact XSim.standAt (XSim.bindL (XS.xe A hA ae env e))
 refine onAssign_ind (P:=fun x st=>XSim X A (EnvK X ae env) x (exec st env)) (fun ts value p=>on1_ind (P:=fun x ts=>XSim X A (EnvK X ae env) x (exec (.Assign ts value p) env)) (fun t=>XSim.chk fun hc=>?_) XSim.fail) ?_
 ·rw [Bool.and_eq_true] at hc
  rw [exec_simple hc.1 hc.2]
  exact XSim.standAt (XSim.bindL (XS.xe A hA ae env value))
 refine onIf_ind (P:=fun x st=>XSim X A (EnvK X ae env) x (exec st env)) (fun test body orelse p=>?_) ?_
 ·rw [exec_If]
  exact XSim.standAt (XSim.ifX S hA (XS.xs A hA ae env body) (XS.xs A hA ae env orelse))
 refine onRaise_ind (P:=fun x st=>XSim X A (EnvK X ae env) x (exec st env)) (fun o c p=>?_) XSim.fail
 cases o with
 | none=>exact XSim.fail
 | some e =>
  cases c with
  | some c=>exact XSim.fail
  | none =>
   refine XSim.eq (t':=PySem.standAt p >>= fun _=>raiseStmt env (some (eval e env >>= fun v=>PySem.standAt p >>= fun _=>pure v)) none) rfl (XSim.standAt ?_)
   exact XSim.throw hA.2.2.1 (Sim.stood (S.ev A hA ae env e))
theorem XSim.callWith (S:Sound X R n) (XS:XSound X XR n) (hA:Room X A n) {f:AV} {fv:Value} {first:List AV} {firstv:List Value} (pos:Pos) (es:List Expr) (ks:List Keyword) {Γ:Kn} (hg:Γ.le (EnvK X ae env)) (hf:Γ.le (RDen f fv)) (h1:Γ.le (RDens first firstv)) :
  XSim X A Γ (xCallWith X.K R XR ae f first es ks) (callWith pos fv firstv (backTo pos (starEach es env)) (backToKw pos (keywordEach ks env))):=XSim.chk fun hk σ =>
 RunAt.bind (C:=fun as σ₃=>((backTo pos (starEach es env)).any (·.1) || (backToKw pos (keywordEach ks env)).any (·.1.isNone))=false∧∀ f ρ F s,Inv X ρ F σ s→Γ.p σ.n ρ F→Goes X A ρ F σ s (PySem.evalArgs f true (backTo pos (starEach es env)) (backToKw pos (keywordEach ks env))) (RArgs as) σ₃)
  (fun ds b ev' cs e hc=>⟨no_stars pos e hc,fun f=>Sim.at (Sim.evalArgs S hA pos es ks hg) ds b ev' cs e hc⟩) fun p σ₁ c=>(RunAt.all fun q:List Value × List Value=>XS.xcall A hA f fv (first ++ p.1) q.1 p.2 q.2 σ₁).mono fun e σ' d ρ F s I g Q E hE =>
   callWith_of (P:=KeepAt X fv) c.1 (fun _ x=>x) (c.2 _ ρ F s I g _ E fun a s₁ ρ₁ F₁ da I₁ st=>⟨keepOk_looks I₁ hk (Den.step (hf _ _ _ g) st),da.kw.elim fun kvs q=>q.1 ▸
    d (firstv ++ a.pos,kvs) ρ₁ F₁ s₁ I₁ ⟨Den.step (hf _ _ _ g) st,(Dens.step (h1 _ _ _ g) st).app da.pos,q.2⟩ Q E fun v s₂ ρ₂ F₂ x I₂ st₂=>hE v s₂ ρ₂ F₂ x I₂ (st.trans st₂)⟩)
theorem XSim.expr (S:Sound X R n) (XS:XSound X XR n) (hA:Room X A n) (e:Expr):XSim X A (EnvK X ae env) (xExpr X.K R XR ae e) (eval e env):=by
 refine onIfExp_ind (P:=fun x e=>XSim X A (EnvK X ae env) x (eval e env)) (fun test body orelse p=>?_) ?_
 ·rw [eval_IfExp]
  exact XSim.ifX S hA (XS.xe A hA ae env body) (XS.xe A hA ae env orelse)
 refine onCall_ind (P:=fun x e=>XSim X A (EnvK X ae env) x (eval e env)) (fun f args kws pos=>?_) XSim.fail
 refine onAttribute_ind (P:=fun x f=>XSim X A (EnvK X ae env) x (eval (.Call f args kws pos) env)) (fun o name apos=>XSim.chk fun hc=>?_) ?_
 ·rw [eval_method (meth_ok hc).1 (meth_ok hc).2.1 (meth_ok hc).2.2]
  exact XSim.bindR (S.ev A hA ae env o) fun a av=>XSim.standAt (XSim.bindR (Sim.holding (Sim.method (Kn.snd (Kn.le_refl _)))) fun p q=>XSim.callWith S XS hA pos args kws (Kn.fst (Kn.fst (Kn.le_refl _))) (Kn.snd (Kn.fst (Kn.le_refl _))) (Kn.snd (Kn.snd (Kn.le_refl _))))
 refine onName_ind (P:=fun x f=>XSim X A (EnvK X ae env) x (eval (.Call f args kws pos) env)) (fun y p=>?_) XSim.fail
 exact XSim.eq (t':=eval (.Name y p) env >>= fun f=>PySem.callWith pos f [] (backTo pos (starEach args env)) (backToKw pos (keywordEach kws env))) rfl
  (XSim.bindR (S.ev A hA ae env _) fun f fv=>XSim.callWith S XS hA pos args kws (Kn.fst (Kn.le_refl _)) (Kn.snd (Kn.le_refl _)) (fun _ _ _ _=>rfl))
theorem XSim.fn (XS:XSoundF X XR n) (hA:Room X A (n + 1)) {f:AV} {fv:Value} {as:List AV} {vs:List Value} {ks:List (Str × AV)} {kvs:List Value}:XSim X A (RCall f fv as vs ks kvs) (xFn X.K XR f as ks) (call fv vs ((ks.map (·.1)).zip kvs)):=fun σ=>RunAt.opt fun fi hfi=>RunAt.chk' fun hp=>RunAt.opt fun binds hb=>by
 refine RunAt.bind (C:=fun ae σ₁=>∀ ρ F s,Inv X ρ F σ s→(RCall f fv as vs ks kvs).p σ.n ρ F→∀ R:Result→Shared→Prop,(∀ env s₁ ρ₁ F₁,InCall X ρ F σ s ae σ₁ env s₁ ρ₁ F₁→codeAny (model X.prog X.w) A (.func fi.body env) R s₁)→codeAny (model X.prog X.w) A (.call fv ⟨vs,(ks.map (·.1)).zip kvs⟩) R s)
  (fun ds b ev' cs e hc ρ F s I g R=>callOpen (Nat.lt_of_le_of_lt (Nat.le_add_right _ _) hA.1) hfi hp hb I g ds b ev' cs e hc) fun ae σ₁ c0=>?_
 refine RunAt.bind (RunAt.all fun env=>(XS ((env,σ.n) :: X.fr)).xs _ (hA.deeper env σ.n) ae env fi.body σ₁) fun e σ₂ c1=>?_
 refine RunAt.bind (RunAt.all fun env=>RunAt.all fun v=>Sim.at (Sim.note (X:=X.wf ((env,σ.n) :: X.fr)) (A:=A.deeper env) (Γ:=(EnvK (X.wf ((env,σ.n) :: X.fr)) ae env).and (RDen (.ref e) v)) (hA.deeper env σ.n).2.2.2.2 (Kn.fst (Kn.le_refl _)) (Kn.snd (Kn.le_refl _)))) fun _ σ₃ c2=>?_
 refine RunAt.bind (RunAt.all fun env=>flight_ok (X:=X.wf ((env,σ.n) :: X.fr)) (σ:=σ₃) (e:=e)) fun _ σ₄ c3=>RunAt.ret fun ρ F s I g Q E hE=>wpAny_call (c0 ρ F s I g _ fun env s₁ ρ₁ F₁ q=>codeAny_func ?_)
 refine c1 env ρ₁ F₁ s₁ q.inv q.ok _ _ fun v s₂ ρ₂ F₂ d₂ I₂ st₂=>?_
 unfold leaving
 refine wpAny_bind (c2 env v ρ₂ F₂ s₂ I₂ ⟨(EnvK (X.wf ((env,σ.n) :: X.fr)) ae env).mono st₂.le st₂.same st₂.sub q.ok,d₂⟩ _ _ fun _ s₃ ρ₃ F₃ _ I₃ st₃=>?_)
 have d₃:=Den.step d₂ st₃
 rw [(den_ref d₃).1]
 refine c3 env ρ₃ F₃ s₃ I₃ _ _ _ _ fun s₄ I₄ st₄=>?_
 exact hE _ s₄ ρ₃ F₃ (Den.step (show Den σ₃.n ρ₃ F₃ (.ref e) (.ref (ρ₃ e)) from ⟨rfl,(den_ref d₃).2⟩) st₄) I₄.unframe (((q.stp.trans st₂).trans st₃).trans st₄)
end
noncomputable def rec0 (h:Str→Int):Rec where
 ev _ _:=EM.fail
 tst _ _:=EM.fail
 exs _ _:=EM.fail
 call _ _ _:=EM.fail
 loop _ _ _:=EM.fail
 forl _ _ _ _:=EM.fail
 comp _ _ _ _ _:=EM.fail
 hs:=h
noncomputable def xrec0:XRec where
 xe _ _:=EM.fail
 xs _ _:=EM.fail
 xcall _ _ _:=EM.fail
noncomputable def hEv0 (K:Frag) (ae:AEnv) (e:Expr):EM AV:=onConstant e (fun c _ _=>eConst c) <| onName e (fun x _=>eName K ae x) <| onAttribute e (fun o attr _=>onName o (fun y _=>EM.bind (eName K ae y) fun ov=>eAttr K ov attr) EM.fail) EM.fail
noncomputable def hRec0 (K:Frag):Rec:={ rec0 (fun _=>0) with ev:=hEv0 K }
noncomputable def hEv1 (K:Frag) (ae:AEnv) (e:Expr):EM AV:=onTupleE e (fun elts _ _=>EM.bind (eArgs (hRec0 K) ae elts) fun vs=>eNewTuple vs) (hEv0 K ae e)
noncomputable def hCall (f:AV) (as:List AV) (ks:List (Str × AV)):EM AV:=onVal f (fun v=>onVBuiltin v (fun nm=>onNil ks (_root_.cond (nm == "list.append") (eAppend as) EM.fail) EM.fail) EM.fail) EM.fail
noncomputable def hRec1 (K:Frag):Rec:={ rec0 (fun _=>0) with ev:=hEv1 K,call:=hCall }
noncomputable def hMeth (K:Frag) (ae:AEnv) (o:Expr) (name:Str) (apos:Pos) (args:List Expr) (pos:Pos):EM AFlow:=_root_.cond (notSuper o && fewOk args [] && (apos.endLine == pos.line)) (EM.bind (EM.bind (hEv1 K ae o) fun ov=>EM.bind (eMethod K ov name) fun p=>eCallWith K (hRec1 K) ae p.1 p.2 args []) fun _=>EM.ret .next) EM.fail
noncomputable def eHand (K:Frag) (ae:AEnv) (st:Stmt):EM AFlow:=onExprS st (fun e _=>onCall e (fun f args kws pos=>onAttribute f (fun o name apos=>onNil kws (hMeth K ae o name apos args pos) EM.fail) EM.fail) EM.fail) EM.fail
section
variable {X:Ctx} {A:Around} {ρ:Rho} {F:Fz} {σ:St} {s:Shared} {Γ:Kn} {ae:AEnv} {env:Env}
theorem Sim.hEv0 (L:Lib X) (e:Expr):SimE X A ae env (hEv0 X.K ae e) e:=by
 refine onConstant_ind (P:=fun x e=>SimE X A ae env x e) (fun c k p=>Sim.const _ _ _) ?_
 refine onName_ind (P:=fun x e=>SimE X A ae env x e) (fun y p=>Sim.name L y p) ?_
 refine onAttribute_ind (P:=fun x e=>SimE X A ae env x e) (fun o attr p=>onName_ind (P:=fun x o=>SimE X A ae env x (.Attribute o attr p)) (fun y yp=>?_) Sim.fail) Sim.fail
 refine Sim.eq (t':=eval (.Name y yp) env >>= fun ov=>PySem.standAt p.atName >>= fun _=>PySem.holding [ov] (getAttr ov attr true) >>= fun r=>letTemporaryGo (.Name y yp) ov r >>= fun _=>pure r) rfl ?_
 exact Sim.bind (Sim.name L y yp) fun a av=>Sim.standAt (Sim.letGo (Sim.holding (Sim.attr (Kn.snd (Kn.le_refl _)))))
theorem Sim.hEv1 (L:Lib X) (e:Expr):SimE X A ae env (hEv1 X.K ae e) e :=
 onTupleE_ind (P:=fun x e=>SimE X A ae env x e) (fun elts c p=>Sim.eq (t':=PySem.standAt p >>= fun _=>spliced (backTo p (starEach elts env)) >>= fun vs=>PySem.newTuple vs) rfl
  (Sim.standAt (Sim.bind (Sim.argsV (r:=hRec0 X.K) (fun e=>Sim.hEv0 L e) p elts (Kn.le_refl _)) fun a av=>Sim.newTuple (Kn.snd (Kn.le_refl _))))) (Sim.hEv0 L e)
theorem Sim.hCall (f:AV) (fv:Value) (as:List AV) (vs:List Value) (ks:List (Str × AV)) (kvs:List Value):Sim X A (RCall f fv as vs ks kvs) RDen (hCall f as ks) (PySem.call fv vs ((ks.map (·.1)).zip kvs)):=by
 refine onVal_ind (P:=fun x f=>Sim X A (RCall f fv as vs ks kvs) RDen x (PySem.call fv vs ((ks.map (·.1)).zip kvs))) (fun v=>?_) Sim.fail
 refine onVBuiltin_ind (P:=fun x v=>Sim X A (RCall (.val v) fv as vs ks kvs) RDen x (PySem.call fv vs ((ks.map (·.1)).zip kvs))) (fun nm=>Sim.know (P:=fv = .builtin nm) (fun _ _ _ g=>g.1) fun e=>?_) Sim.fail
 rw [e]
 refine onNil_ind (P:=fun x ks=>Sim X A (RCall (.val (.builtin nm)) (.builtin nm) as vs ks kvs) RDen x (PySem.call (.builtin nm) vs ((ks.map (·.1)).zip kvs))) (Sim.chk fun h=>?_) Sim.fail
 rw [eq_of_beq h]
 exact Sim.append as _ vs fun _ _ _ g=>g.2.1
theorem Sim.hand (L:Lib X) (st:Stmt):SimS X A ae env (eHand X.K ae st) st:=by
 refine onExprS_ind (P:=fun x st=>SimS X A ae env x st) (fun e p=>?_) Sim.fail
 refine onCall_ind (P:=fun x e=>SimS X A ae env x (.Expr e p)) (fun f args kws pos=>?_) Sim.fail
 refine onAttribute_ind (P:=fun x f=>SimS X A ae env x (.Expr (.Call f args kws pos) p)) (fun o name apos=>?_) Sim.fail
 refine onNil_ind (P:=fun x kws=>SimS X A ae env x (.Expr (.Call (.Attribute o name apos) args kws pos) p)) (Sim.chk fun hc=>?_) Sim.fail
 refine Sim.know (Γ:=EnvK X ae env) (P:=interactive env=false) (fun _ _ _ g=>by unfold interactive; rw [EnvOk.sc g,EnvOk.fn g]; rfl) fun hi=>?_
 rw [exec_Expr env _ p hi rfl,eval_method (meth_ok hc).1 (meth_ok hc).2.1 (meth_ok hc).2.2]
 exact Sim.standAt (Sim.bind (Sim.bind (Sim.hEv1 L o) fun a av=>Sim.standAt (Sim.bind (Sim.holding (Sim.method (Kn.snd (Kn.le_refl _)))) fun p q =>
  Sim.callWithV (r:=hRec1 X.K) (fun e=>Sim.hEv1 L e) (fun f fv as vs ks kvs=>Sim.hCall f fv as vs ks kvs) pos args [] (Kn.fst (Kn.fst (Kn.le_refl _))) (Kn.snd (Kn.fst (Kn.le_refl _))) (Kn.snd (Kn.snd (Kn.le_refl _))))) fun _ _=>Sim.dropV)
noncomputable def delNs (m:List (Str × AV)) (x:Str):List (Str × AV):=m.filter fun p=>!(p.1 == x)
theorem delNs_look {x y:Str} {av:AV}:∀ {m:List (Str × AV)},(delNs m x).lookup y=some av→y ≠ x∧m.lookup y=some av
 | [],h=>noneOf h
 | p :: m,h=>by
  unfold delNs at h
  rw [List.filter_cons] at h
  rw [List.lookup_cons]
  cases e:p.1 == x with
  | true =>
   rw [e] at h
   have ih:=delNs_look (m:=m) (show (delNs m x).lookup y=some av from h)
   rw [show (y == p.1)=false from beq_false_of_ne fun q=>ih.1 (q.trans (eq_of_beq e))]
   exact ih
  | false =>
   rw [e] at h
   change List.lookup y (p :: delNs m x)=some av at h
   rw [List.lookup_cons] at h
   cases q:y == p.1 with
   | true=>rw [q] at h; exact ⟨fun r=>ne_of_beq_false e ((eq_of_beq q).symm.trans r),h⟩
   | false=>rw [q] at h; exact delNs_look h
noncomputable def eUnbind (ae:AEnv) (x:Str):EM Unit:=EM.bind (EM.chk (ae.scope.names.lookup x == some .local)) fun _=>EM.bind (EM.cellAs asNs ae.loc) fun m=>EM.bind (EM.opt (m.lookup x)) fun _=>EM.upd fun σ=>σ.set ae.loc (.ns (delNs m x))
theorem Sim.unbind {x:Str} {pos:Pos}:Sim X A (EnvK X ae env) (fun _ _=>Kn.top) (eUnbind ae x) (unbindBehindTheSuite env x pos):=Sim.ofRun fun σ ρ F s I g=>RunAt.chk fun hl=>RunAt.cellAs asNs_some fun m hm=>RunAt.opt fun av hv=>RunAt.updE fun Q E hQ=>by
 have h1:env.scope=ae.scope:=EnvOk.sc g
 have h3:env.locals=ρ ae.loc:=EnvOk.loc g
 have hk:env.scope.kind = .function:=h1 ▸ EnvOk.fn g
 refine (I.atNs hm).elim fun f q=>(q.2 _ _ hv).elim fun w hw=>?_
 unfold unbindBehindTheSuite
 refine wpAny_onRaise (wpAny_unbindName_local (v:=w) (by unfold Env.kindOf; rw [h1]; exact eq_of_beq hl) (by rw [h3]; exact q.1) hw.1 (by rw [hk]; rfl) fun h' u hn' hs=>?_)
 rw [h3] at hn' hs
 have r:=I.set hm hs.extBut (c':=.ns (delNs m x)) (.ofNs hn' fun y av h=>(q.2 y av (delNs_look h).2).imp fun v p=>⟨(if_neg (delNs_look h).1).trans p.1,p.2⟩) s.toks
 exact hQ () _ ρ F trivial r.1 r.2
noncomputable def catches (K:Frag) (c:AV) (C':Addr):Bool:=onVal c (fun v=>onVRef v (fun C=>Nat.beq C C' && excMakes K C) false) false
theorem catches_ok {K:Frag} {c:AV} {C':Addr}:catches K c C' = true→c = .val (.ref C')∧excMakes K C' = true :=
 onVal_ind (P:=fun b c=>b=true→c = .val (.ref C')∧excMakes K C' = true) (fun v=>onVRef_ind (P:=fun b v=>b=true→AV.val v = .val (.ref C')∧excMakes K C' = true) (fun C h=>by
  rw [Bool.and_eq_true] at h
  rw [← Nat.eq_of_beq_eq_true h.1]
  exact ⟨rfl,h.2⟩) ff) ff
noncomputable def eCaught (K:Frag) (ae:AEnv) (cls nm:Str) (suite:List Stmt) (e:Nat):EM AFlow:=EM.bind (eName K ae cls) fun c=>EM.bind (EM.cellAs asExc e) fun q=>EM.bind (EM.chk (catches K c q.1)) fun _=>EM.bind (eFlight e) fun _ =>
  EM.bind (eBind ae nm (.ref e)) fun _=>EM.bind (eExecs (eHand K ae) suite) fun fl=>EM.bind (eBind ae nm noneAV) fun _=>EM.bind (eUnbind ae nm) fun _=>EM.ret fl
noncomputable def eTry (K:Frag) (r:Rec) (xr:XRec) (ae:AEnv) (body:List Stmt) (cls nm:Str) (suite:List Stmt):EM AFlow:=EM.bind eWd fun b=>_root_.cond b (EM.bind (xr.xs ae body) fun e=>EM.bind (eNote ae.frm e) fun _=>EM.bind (eFlight e) fun _=>eCaught K ae cls nm suite e) (r.exs ae body)
theorem Sim.tryAs {r:Rec} {xr:XRec} {n:Nat} (L:Lib X) (S:Sound X r n) (XS:XSound X xr n) (hA:Room X A n) (body:List Stmt) (cls nm:Str) (np hpos pos:Pos) (b₀:Stmt) (suite:List Stmt) :
  SimS X A ae env (eTry X.K r xr ae body cls nm (b₀ :: suite)) (.Try body [.ExceptHandler (some (.Name cls np)) (some nm) (b₀ :: suite) hpos] [] [] pos):=Sim.word fun b=>by
 refine cond_ind (P:=fun x=>Sim X A (EnvK X ae env) RFlow x (exec (.Try body [.ExceptHandler (some (.Name cls np)) (some nm) (b₀ :: suite) hpos] [] [] pos) env)) (fun _=>?_) ?_
 ·refine Sim.ofRun fun σ ρ F s I g=>RunAt.bind (XS.xs A hA ae env body σ) fun e σ₁ c1=>RunAt.bind (RunAt.all fun v=>Sim.at (Sim.note (A:=A) (Γ:=(EnvK X ae env).and (RDen (.ref e) v)) hA.2.2.2.2 (Kn.fst (Kn.le_refl _)) (Kn.snd (Kn.le_refl _)))) fun _ σ₂ c2=>RunAt.bind (flight_ok (X:=X)) fun _ σ₃ c3 =>
   RunAt.bind (RunAt.all fun A'=>Sim.at (X:=X) (A:=A') (Sim.name (env:=env) L cls np)) fun c σ₄ c4=>RunAt.cellAs asExc_some fun q he=>RunAt.chk fun hq=>RunAt.bind (flight_ok (X:=X)) fun _ σ₅ c5=>RunAt.bind (RunAt.all fun A'=>RunAt.all fun v=>Sim.at (X:=X) (A:=A') (Sim.store (env:=env) (Γ:=(EnvK X ae env).and (RDen (.ref e) v)) (x:=nm) (Kn.fst (Kn.le_refl _)) (Kn.snd (Kn.le_refl _)))) fun _ σ₆ c6 =>
   RunAt.bind (RunAt.all fun A'=>Sim.at (X:=X) (A:=A') (Sim.execs (env:=env) (fun st=>Sim.hand L st) (b₀ :: suite))) fun fl σ₇ c7=>RunAt.bind (RunAt.all fun A'=>Sim.at (X:=X) (A:=A') (Sim.bindName (env:=env) (Γ:=EnvK X ae env) (y:=nm) (av:=noneAV) (v:=.none) (Kn.le_refl _) (fun _ _ _ _=>rfl))) fun _ σ₈ c8=>RunAt.bind (RunAt.all fun A'=>RunAt.all fun p=>Sim.at (X:=X) (A:=A') (Sim.unbind (X:=X) (env:=env) (pos:=p))) fun _ σ₉ c9=>RunAt.ret fun Q E hQ=>?_
  have hc:=catches_ok hq
  refine wpAny_Try_except (c1 ρ F s I g _ _ fun v s₁ ρ₁ F₁ d₁ I₁ st₁=>?_)
  refine c2 v ρ₁ F₁ s₁ I₁ ⟨(EnvK X ae env).mono st₁.le st₁.same st₁.sub g,d₁⟩ _ _ fun _ s₂ ρ₂ F₂ _ I₂ st₂=>?_
  have d₂:v = .ref (ρ₂ e)∧e < σ₂.n:=Den.step d₁ st₂
  rw [d₂.1]
  refine c3 ρ₂ F₂ s₂ I₂ _ _ _ _ fun s₃ I₃ st₃=>?_
  have st13:=(st₁.trans st₂).trans st₃
  have hlt:e < σ₃.n:=Nat.lt_of_lt_of_le d₂.2 st₃.le
  refine wpAny_handleBy_cons (codeAny_handlers_test ?_) (by intro q; cases q)
  refine c4 _ ρ₂ F₂ s₃ I₃ ((EnvK X ae env).mono st13.le st13.same st13.sub g) _ _ fun cv s₄ ρ₄ F₄ dc I₄ st₄=>?_
  rw [hc.1] at dc
  rw [show cv = .ref q.1 from dc]
  refine (I₄.atX he).elim fun vs hx=>?_
  have heq:ρ₄ e=ρ₂ e:=st₄.same e hlt
  cases excMakes_is I₄.Kin hc.2 with | mk nm' q' N' bs hdct sn sub ab col ddd k0 k1 k2 k3 k5 hC =>
  refine wpAny_excMatches_sub_self hC (heq ▸ hx.1) rfl (by decide) ?_
  refine codeAny_handlers_suite_as ?_
  rw [← heq]
  refine c5 ρ₄ F₄ s₄ I₄ _ _ _ _ fun s₅ I₅ st₅=>?_
  have st15:=(st13.trans st₄).trans st₅
  refine c6 _ (.ref (ρ₄ e)) ρ₄ F₄ s₅ I₅ ⟨(EnvK X ae env).mono st15.le st15.same st15.sub g,⟨rfl,Nat.lt_of_lt_of_le (Nat.lt_of_lt_of_le hlt st₄.le) st₅.le⟩⟩ _ _ fun _ s₆ ρ₆ F₆ _ I₆ st₆=>?_
  have st16:=st15.trans st₆
  refine c7 _ ρ₆ F₆ s₆ I₆ ((EnvK X ae env).mono st16.le st16.same st16.sub g) _ _ fun fv s₇ ρ₇ F₇ d₇ I₇ st₇=>?_
  have st17:=st16.trans st₇
  refine wpAny_bind (c8 _ ρ₇ F₇ s₇ I₇ ((EnvK X ae env).mono st17.le st17.same st17.sub g) _ _ fun _ s₈ ρ₈ F₈ _ I₈ st₈=>?_)
  have st18:=st17.trans st₈
  refine c9 _ _ ρ₈ F₈ s₈ I₈ ((EnvK X ae env).mono st18.le st18.same st18.sub g) _ _ fun _ s₉ ρ₉ F₉ _ I₉ st₉=>?_
  have st79:=st₈.trans st₉
  exact hQ fv s₉ ρ₉ F₉ ((RFlow _ fv).mono st79.le st79.same st79.sub d₇) I₉ (st18.trans st₉)
 ·refine Sim.ofRun fun σ ρ F s I g=>(Sim.at (S.exs A hA ae env body)).mono fun fl σ' c Q E hQ=>wpAny_Try_except (c ρ F s I g _ _ fun f s' ρ' F' a b c=>?_)
  cases f with
  | next=>exact wpAny_execs_nil (hQ _ s' ρ' F' a b c)
  | _=>exact hQ _ s' ρ' F' a b c
end
section
variable (K:Frag) (r:Rec) (ae:AEnv)
noncomputable def eForX (o:Option GFor) (target iter:Expr) (body:List Stmt):EM AFlow:=onSome o (fun G=>onCall iter (fun f args kws pos=>onAttribute f (fun ob name apos=>onNil kws (_root_.cond (apos.endLine == pos.line) (eForGen K r ae G target ob name args body) EM.fail) EM.fail) EM.fail) EM.fail) (eForS r ae target iter body)
noncomputable def eAsg (t value:Expr) (pos:Pos):EM AFlow:=onTupleE t (fun elts k tpos=>eTupA K r ae elts k tpos value pos) <| onListComp value (fun elt gens sc cpos=>onComp gens (fun target iter=>onName t (fun y yp=>eAssignComp r ae y yp elt target iter sc cpos) EM.fail) EM.fail) (eAssign1 K r ae t value)
noncomputable def eAsgG (G:GFor) (t value:Expr):EM AFlow:=onListComp value (fun elt gens sc cpos=>onComp gens (fun target iter=>onName t (fun y yp=>onCall iter (fun f args kws pos=>onAttribute f (fun o name apos=>onNil kws (_root_.cond (apos.endLine == pos.line) (eAssignCompX ae y yp (eComp1G K r ae G elt target o name args sc) sc cpos) EM.fail) EM.fail) EM.fail) EM.fail) EM.fail) EM.fail) EM.fail
noncomputable def eAsgX (o:Option GFor) (t value:Expr) (pos:Pos):EM AFlow:=onSome o (fun G=>eAsgG K r ae G t value) (eAsg K r ae t value pos)
end
noncomputable def eTryX (K:Frag) (r:Rec) (xr:XRec) (ae:AEnv) (body:List Stmt) (h:ExceptHandler):EM AFlow:=onHand h (fun t n suite=>onSome t (fun t=>onSome n (fun nm=>onName t (fun cls _=>onCons suite (fun b₀ s=>eTry K r xr ae body cls nm (b₀ :: s)) EM.fail) EM.fail) EM.fail) EM.fail)
noncomputable def eDefX (ae:AEnv) (name:Str) (args:Arguments) (body:List Stmt) (ds:List Expr) (rt:Option Expr) (tp:List TypeParam) (sc:Scope) (so:Option Scope) (nm:Str) (pos:Pos):EM AFlow:=onNil ds (onNil tp (_root_.cond ((rt.isNone && so.isNone) && nm == name) (eDef ae name args body sc pos) EM.fail) EM.fail) EM.fail
noncomputable def eOne (K:Frag) (x:Ext) (r:Rec) (xr:XRec) (ae:AEnv) (st:Stmt):EM AFlow:=onExprS st (fun e _=>eExprS r ae e) <| onAssign st (fun ts value pos=>on1 ts (fun t=>eAsgX K r ae (x.gen st) t value pos) EM.fail) <| onIf st (fun test body orelse _=>eBr (r.tst ae test) (r.exs ae body) (r.exs ae orelse)) <|
 onReturn st (fun o _=>onSome o (fun e=>EM.bind (r.ev ae e) fun v=>EM.ret (.ret v)) (EM.ret (.ret noneAV))) <| onAugAssign st (fun t op value _=>onName t (fun y _=>eAug K r ae y op value) <| onSubscript t (fun o i _=>eAugS r ae o i op value) EM.fail) <|
 onWhile st (fun test body els _=>onNil els (r.loop ae test body) EM.fail) <| onFor st (fun target iter body els p=>onNil els (eForX K r ae (x.gen st) target iter body) EM.fail) <|
 onTry st (fun body hs els fin _=>onNil els (onNil fin (on1 hs (eTryX K r xr ae body) EM.fail) EM.fail) EM.fail) <| onAssert st (fun test _ _=>eBr (r.tst ae test) (EM.ret .next) EM.fail) <|
 onFunctionDef st (fun name args body ds rt tp sc so nm pos=>eDefX ae name args body ds rt tp sc so nm pos) <| onPass st (fun _=>EM.ret .next) <| onBreak st (fun _=>EM.ret .brk) <| onContinue st (fun _=>EM.ret .cont) EM.fail
noncomputable def strC (c:Const):Option Str:=match c with
 | .str x=>some x
 | _=>none
theorem strC_ok {c:Const} {x:Str} (h:strC c=some x):c = .str x:=by
 cases c with
 | str y=>exact congrArg Const.str (Option.some.inj h)
 | _=>exact noneOf h
section
variable (K:Frag) (r:Rec) (ae:AEnv)
noncomputable def eJoinE (o:Expr) (name:Str) (apos:Pos) (elt:Expr) (gens:List Comprehension) (gsc:Scope) (pos:Pos):EM AV:=onConstant o (fun c _ _=>EM.bind (EM.opt (strC c)) fun sep=>onAttribute elt (fun b attr _=>onName b (fun x1 _=>onComp gens (fun t iter=>onName t (fun y _=>_root_.cond ((name == "join") && (apos.endLine == pos.line)) (eJoin K r ae sep y x1 attr iter gsc) EM.fail) EM.fail) EM.fail) EM.fail) EM.fail) EM.fail
noncomputable def eCallE (f:Expr) (args:List Expr) (kws:List Keyword) (pos:Pos):EM AV:=onAttribute f (fun o name apos=>on1 args (fun g=>onGenExp g (fun elt gens gsc _=>onNil kws (eJoinE K r ae o name apos elt gens gsc pos) EM.fail) (eMethE K r ae o name apos [g] kws pos)) (eMethE K r ae o name apos args kws pos)) <|
 onName f (fun y p=>EM.bind (r.ev ae (.Name y p)) fun f=>eCallWith K r ae f [] args kws) EM.fail
noncomputable def eSubX (o i:Expr):EM AV:=onSliceE i (fun lo hi st _=>onSome st (fun _=>EM.fail) (eSlice K r ae o lo hi)) (eSubE K r ae o i)
noncomputable def eAndE (op:BoolOp) (es:List Expr):EM AV:=onCons es (fun a es=>onCons es (fun b es=>onNil es (_root_.cond (op == .And) (EM.bind (r.ev ae a) fun v=>eBr (eTruth K v) (r.ev ae b) (EM.ret v)) EM.fail) EM.fail) EM.fail) EM.fail
noncomputable def eExpr (e:Expr):EM AV:=onConstant e (fun c _ _=>eConst c) <| onName e (fun x _=>eName K ae x) <| onAttribute e (fun o attr _=>eAttrE K r ae o attr) <| onCall e (fun f args kws pos=>eCallE K r ae f args kws pos) <|
 onSubscript e (fun o i _=>eSubX K r ae o i) <| onBinOp e (fun l op rr _=>eBinE r ae l op rr) <| onCompare e (fun l ops rs _=>on1 ops (fun op=>on1 rs (fun rr=>eCmpE K r ae l op rr) EM.fail) EM.fail) <| onIfExp e (fun t b o _=>eBr (r.tst ae t) (r.ev ae b) (r.ev ae o)) <|
 onListE e (fun elts _=>EM.bind (eArgs r ae elts) fun vs=>eNewListF vs) <| onTupleE e (fun elts _ _=>EM.bind (eArgs r ae elts) fun vs=>eNewTuple vs) <| onUnaryOp e (fun op y _=>ifOp op .USub (eNeg r ae y) EM.fail) <|
 onDictE e (fun ks vs _=>eDictE r ae ks vs) <| onListComp e (fun elt gens sc _=>onComp gens (fun target iter=>eListComp r ae elt target iter sc) EM.fail) <| onBoolOp e (fun op es _=>eAndE K r ae op es) EM.fail
noncomputable def eTestC (l:Expr) (op:CmpOp) (rr:Expr):EM Bool:=_root_.cond (behindInMarks op rr) EM.fail (EM.bind (r.ev ae l) fun a=>EM.bind (r.ev ae rr) fun b=>EM.bind (eCmpX K op a b) fun c=>eTruth K c)
noncomputable def eTestX (e:Expr):EM Bool:=onUnaryOp e (fun op y _=>ifOp op .Not (EM.bind (r.tst ae y) fun b=>EM.ret (!b)) EM.fail) <| onBoolOp e (fun op vs _=>eAll r ae op vs) <|
 onCompare e (fun l ops rs _=>on1 ops (fun op=>on1 rs (fun rr=>eTestC K r ae l op rr) EM.fail) EM.fail) <| _root_.cond (testPl e) (EM.bind (r.ev ae e) fun v=>eTruth K v) EM.fail
end
section
variable (K:Frag) (x:Ext)
noncomputable def stepR (r:Rec) (xr:XRec):Rec where
 ev:=eExpr K r
 tst:=eTestX K r
 exs ae:=eExecs (eOne K x r xr ae)
 call:=eCall K r
 loop:=eLoop r
 forl:=eForL K r
 comp:=eComp K r
 hs:=x.hs
noncomputable def stepX (r:Rec) (xr:XRec):XRec where
 xe:=xExpr K r xr
 xs ae:=xList (eOne K x r xr ae) (xStmt K r xr ae)
 xcall:=xFn K xr
noncomputable def rx (n:Nat):Rec × XRec:=Nat.rec (motive:=fun _=>Rec × XRec) (rec0 x.hs,xrec0) (fun _ p=>(stepR K x p.1 p.2,stepX K x p.1 p.2)) n
noncomputable def recN (n:Nat):Rec:=(rx K x n).1
noncomputable def xrecN (n:Nat):XRec:=(rx K x n).2
end
section
variable {X:Ctx} {A:Around} {x:Ext} {r:Rec} {xr:XRec} {n:Nat} {ae:AEnv} {env:Env}
theorem room_units (hA:Room X A (n + 1)):A.units + 10 < cLine:=Nat.lt_of_le_of_lt (Nat.add_le_add_left (Nat.le_trans (by decide) (Nat.mul_le_mul_left 40 (Nat.le_add_left 1 n))) _) hA.2.1
end
section
variable {X:Ctx} {A:Around} {x:Ext} {r:Rec} {xr:XRec} {n:Nat} {ae:AEnv} {env:Env}
theorem CSim.fail {Γ:Kn} {c:Code}:CSim X A Γ EM.fail c:=fun _ _ _ _ e=>noneOf e
theorem Sim.callE (S:Sound X r n) (hA:Room X A (n + 1)) (f:Expr) (args:List Expr) (kws:List Keyword) (pos:Pos):SimE X A ae env (eCallE X.K r ae f args kws pos) (.Call f args kws pos):=by
 refine onAttribute_ind (P:=fun x f=>SimE X A ae env x (.Call f args kws pos)) (fun o name apos=>?_) ?_
 ·have m:=Sim.methE (ae:=ae) (env:=env) S hA.less o name apos args kws pos
  refine on1_ind (P:=fun x args=>SimE X A ae env (eMethE X.K r ae o name apos args kws pos) (.Call (.Attribute o name apos) args kws pos)→SimE X A ae env x (.Call (.Attribute o name apos) args kws pos)) (fun g m=>?_) (fun m=>m) m
  refine onGenExp_ind (P:=fun x g=>SimE X A ae env (eMethE X.K r ae o name apos [g] kws pos) (.Call (.Attribute o name apos) [g] kws pos)→SimE X A ae env x (.Call (.Attribute o name apos) [g] kws pos)) (fun elt gens gsc gpos _=>?_) (fun m=>m) m
  refine onNil_ind (P:=fun x kws=>SimE X A ae env x (.Call (.Attribute o name apos) [.GeneratorExp elt gens gsc gpos] kws pos)) ?_ Sim.fail
  refine onConstant_ind (P:=fun x o=>SimE X A ae env x (.Call (.Attribute o name apos) [.GeneratorExp elt gens gsc gpos] [] pos)) (fun c kk p0=>Sim.opt fun sep hs=>?_) Sim.fail
  rw [strC_ok hs]
  refine onAttribute_ind (P:=fun x elt=>SimE X A ae env x (.Call (.Attribute (.Constant (.str sep) kk p0) name apos) [.GeneratorExp elt gens gsc gpos] [] pos)) (fun b attr q2=>?_) Sim.fail
  refine onName_ind (P:=fun x b=>SimE X A ae env x (.Call (.Attribute (.Constant (.str sep) kk p0) name apos) [.GeneratorExp (.Attribute b attr q2) gens gsc gpos] [] pos)) (fun x1 q1=>?_) Sim.fail
  refine onComp_ind (P:=fun x gens=>SimE X A ae env x (.Call (.Attribute (.Constant (.str sep) kk p0) name apos) [.GeneratorExp (.Attribute (.Name x1 q1) attr q2) gens gsc gpos] [] pos)) (fun t iter=>?_) fun _=>Sim.fail
  refine onName_ind (P:=fun x t=>SimE X A ae env x (.Call (.Attribute (.Constant (.str sep) kk p0) name apos) [.GeneratorExp (.Attribute (.Name x1 q1) attr q2) [⟨t,iter,[],0⟩] gsc gpos] [] pos)) (fun y px=>Sim.chk fun h=>?_) Sim.fail
  rw [Bool.and_eq_true] at h
  rw [eq_of_beq h.1]
  exact Sim.join S hA sep y x1 attr kk p0 apos pos px q1 q2 gpos iter gsc (eq_of_beq h.2)
 ·exact onName_ind (P:=fun x f=>SimE X A ae env x (.Call f args kws pos)) (fun y p=>Sim.callN S hA.less y p args kws pos) Sim.fail
theorem Sim.andE (S:Sound X r n) (hA:Room X A n) {op:BoolOp} (h:op = .And) (a b:Expr) (p:Pos):SimE X A ae env (EM.bind (r.ev ae a) fun v=>eBr (eTruth X.K v) (r.ev ae b) (EM.ret v)) (.BoolOp op [a,b] p):=by
 subst h
 refine Sim.eq (t':=eval a env >>= fun v=>PySem.standAt p >>= fun _=>PySem.holding [v] (truthy v) >>= fun t=>match t with | false=>pure v | true=>eval b env) (bind_congr fun v=>bind_congr fun _=>bind_congr fun t=>by cases t <;> rfl) ?_
 exact Sim.bind (S.ev A hA ae env a) fun a av=>Sim.standAt (Sim.br (Sim.holding (Sim.truth (Kn.snd (Kn.le_refl _)))) ((S.ev A hA ae env b).weaken (Kn.fst (Kn.le_refl _))) (Sim.ret fun _ _ _ g=>g.2))
theorem Sim.expr (L:Lib X) (S:Sound X r n) (hA:Room X A (n + 1)) (e:Expr):SimE X A ae env (eExpr X.K r ae e) e:=by
 refine onConstant_ind (P:=fun x e=>SimE X A ae env x e) (fun c k p=>Sim.const c k p) ?_
 refine onName_ind (P:=fun x e=>SimE X A ae env x e) (fun y p=>Sim.name L y p) ?_
 refine onAttribute_ind (P:=fun x e=>SimE X A ae env x e) (fun o attr p=>Sim.attrE S hA.less o attr p) ?_
 refine onCall_ind (P:=fun x e=>SimE X A ae env x e) (fun f args kws pos=>Sim.callE S hA f args kws pos) ?_
 refine onSubscript_ind (P:=fun x e=>SimE X A ae env x e) (fun o i p=>onSliceE_ind (P:=fun x i=>SimE X A ae env x (.Subscript o i p)) (fun lo hi st q=>?_) (Sim.subE S hA.less o i p)) ?_
 ·cases st with
  | some _=>exact Sim.fail
  | none=>exact Sim.slice S hA.less o lo hi q p
 refine onBinOp_ind (P:=fun x e=>SimE X A ae env x e) (fun l op rr p=>Sim.binE S hA.less l op rr p) ?_
 refine onCompare_ind (P:=fun x e=>SimE X A ae env x e) (fun l ops rs p=>on1_ind (P:=fun x ops=>SimE X A ae env x (.Compare l ops rs p)) (fun op=>on1_ind (P:=fun x rs=>SimE X A ae env x (.Compare l [op] rs p)) (fun rr=>Sim.cmpE S hA.less (room_units hA) l op rr p) Sim.fail) Sim.fail) ?_
 refine onIfExp_ind (P:=fun x e=>SimE X A ae env x e) (fun t b o p=>Sim.ifE S hA.less t b o p) ?_
 refine onListE_ind (P:=fun x e=>SimE X A ae env x e) (fun elts p=>Sim.listE S hA.less elts p) ?_
 refine onTupleE_ind (P:=fun x e=>SimE X A ae env x e) (fun elts c p=>Sim.tupE S hA.less elts c p) ?_
 refine onUnaryOp_ind (P:=fun x e=>SimE X A ae env x e) (fun op y p=>ifOp_ind (P:=fun x op=>SimE X A ae env x (.UnaryOp op y p)) (Sim.neg S hA.less y p) Sim.fail) ?_
 refine onDictE_ind (P:=fun x e=>SimE X A ae env x e) (fun ks vs p=>Sim.dictE S hA.less ks vs p) ?_
 refine onListComp_ind (P:=fun x e=>SimE X A ae env x e) (fun elt gens sc p=>onComp_ind (P:=fun x gens=>SimE X A ae env x (.ListComp elt gens sc p)) (fun t iter=>Sim.listComp S hA.less elt t iter sc p) fun _=>Sim.fail) ?_
 exact onBoolOp_ind (P:=fun x e=>SimE X A ae env x e) (fun op es p=>onCons_ind (P:=fun x es=>SimE X A ae env x (.BoolOp op es p)) (fun a es=>onCons_ind (P:=fun x es=>SimE X A ae env x (.BoolOp op (a :: es) p)) (fun b es=>onNil_ind (P:=fun x es=>SimE X A ae env x (.BoolOp op (a :: b :: es) p))
  (Sim.chk fun h=>Sim.andE S hA.less (eq_of_beq h) a b p) Sim.fail) Sim.fail) Sim.fail) Sim.fail
theorem Sim.testX (S:Sound X r n) (hA:Room X A n) (hu:A.units + 10 < cLine) (e:Expr):Sim X A (EnvK X ae env) REq (eTestX X.K r ae e) (isTrue e env (eval e env)):=by
 refine onUnaryOp_ind (P:=fun x e=>Sim X A (EnvK X ae env) REq x (isTrue e env (eval e env))) (fun op y p=>ifOp_ind (P:=fun x op=>Sim X A (EnvK X ae env) REq x (isTrue (.UnaryOp op y p) env (eval (.UnaryOp op y p) env))) ?_ Sim.fail) ?_
 ·exact Sim.eq (t':=isTrue y env (eval y env) >>= fun b=>pure (!b)) rfl (Sim.bind (S.tst A hA ae env y) fun b c=>Sim.ret fun _ _ _ h=>congrArg Bool.not h.2)
 refine onBoolOp_ind (P:=fun x e=>Sim X A (EnvK X ae env) REq x (isTrue e env (eval e env))) (fun op vs p=>Sim.eq (t':=allTrue op vs env) rfl (Sim.all S hA op vs)) ?_
 refine onCompare_ind (P:=fun x e=>Sim X A (EnvK X ae env) REq x (isTrue e env (eval e env))) (fun l ops rs p=>on1_ind (P:=fun x ops=>Sim X A (EnvK X ae env) REq x (isTrue (.Compare l ops rs p) env (eval (.Compare l ops rs p) env))) (fun op=>on1_ind (P:=fun x rs=>Sim X A (EnvK X ae env) REq x (isTrue (.Compare l [op] rs p) env (eval (.Compare l [op] rs p) env))) (fun rr=>?_) Sim.fail) Sim.fail) ?_
 ·unfold eTestC
  cases hm:behindInMarks op rr with
  | true=>exact Sim.fail
  | false =>
   rw [isTrue_Compare1,markedBehindIn_of_false hm]
   show Sim X A (EnvK X ae env) REq (EM.bind (r.ev ae l) fun a=>EM.bind (r.ev ae rr) fun b=>EM.bind (eCmpX X.K op a b) fun c=>eTruth X.K c) _
   exact Sim.bind (S.ev A hA ae env l) fun a av=>Sim.bind (Sim.holding ((S.ev A hA ae env rr).weaken (Kn.fst (Kn.le_refl _)))) fun b bv=>Sim.standAt (Sim.bind (Sim.operate (Sim.cmpX hu (Kn.fst (Kn.snd (Kn.le_refl _))) (Kn.snd (Kn.le_refl _)))) fun c cv=>Sim.holding (Sim.truth (Kn.snd (Kn.le_refl _))))
 refine Sim.chk fun h=>?_
 rw [test_plain h]
 exact Sim.bind (S.ev A hA ae env e) fun a av=>Sim.standAt (Sim.holding (Sim.truth (Kn.snd (Kn.le_refl _))))
theorem Sim.forX (S:SoundF X r n) (hA:Room X A (n + 1)) (o:Option GFor) (target iter:Expr) (body:List Stmt) (p:Pos):SimS X A ae env (eForX X.K r ae o target iter body) (.For target iter body [] p):=by
 refine onSome_ind (P:=fun x _=>SimS X A ae env x (.For target iter body [] p)) (fun G=>?_) (Sim.forS S.here hA.less target iter body p)
 refine onCall_ind (P:=fun x iter=>SimS X A ae env x (.For target iter body [] p)) (fun f args kws pos=>?_) Sim.fail
 refine onAttribute_ind (P:=fun x f=>SimS X A ae env x (.For target (.Call f args kws pos) body [] p)) (fun ob name apos=>?_) Sim.fail
 exact onNil_ind (P:=fun x kws=>SimS X A ae env x (.For target (.Call (.Attribute ob name apos) args kws pos) body [] p)) (Sim.chk fun h=>Sim.forGen S hA G target ob name apos pos p args body (eq_of_beq h)) Sim.fail
theorem Sim.asg (S:Sound X r n) (hA:Room X A n) (t value:Expr) (p:Pos):SimS X A ae env (eAsg X.K r ae t value p) (.Assign [t] value p):=by
 refine onTupleE_ind (P:=fun x t=>SimS X A ae env x (.Assign [t] value p)) (fun elts k tpos=>Sim.tupA S hA elts k tpos value p) ?_
 refine onListComp_ind (P:=fun x value=>SimS X A ae env x (.Assign [t] value p)) (fun elt gens sc cpos=>?_) (Sim.assign1 S hA t value p)
 refine onComp_ind (P:=fun x gens=>SimS X A ae env x (.Assign [t] (.ListComp elt gens sc cpos) p)) (fun target iter=>?_) fun _=>Sim.fail
 exact onName_ind (P:=fun x t=>SimS X A ae env x (.Assign [t] (.ListComp elt [⟨target,iter,[],0⟩] sc cpos) p)) (fun y yp=>Sim.assignComp S hA y yp p elt target iter sc cpos) Sim.fail
theorem Sim.asgG (S:SoundF X r n) (hA:Room X A (n + 1)) (G:GFor) (t value:Expr) (p:Pos):SimS X A ae env (eAsgG X.K r ae G t value) (.Assign [t] value p):=by
 refine onListComp_ind (P:=fun x value=>SimS X A ae env x (.Assign [t] value p)) (fun elt gens sc cpos=>?_) Sim.fail
 refine onComp_ind (P:=fun x gens=>SimS X A ae env x (.Assign [t] (.ListComp elt gens sc cpos) p)) (fun target iter=>?_) fun _=>Sim.fail
 refine onName_ind (P:=fun x t=>SimS X A ae env x (.Assign [t] (.ListComp elt [⟨target,iter,[],0⟩] sc cpos) p)) (fun y yp=>?_) Sim.fail
 refine onCall_ind (P:=fun x iter=>SimS X A ae env x (.Assign [.Name y yp] (.ListComp elt [⟨target,iter,[],0⟩] sc cpos) p)) (fun f args kws pos=>?_) Sim.fail
 refine onAttribute_ind (P:=fun x f=>SimS X A ae env x (.Assign [.Name y yp] (.ListComp elt [⟨target,.Call f args kws pos,[],0⟩] sc cpos) p)) (fun o name apos=>?_) Sim.fail
 exact onNil_ind (P:=fun x kws=>SimS X A ae env x (.Assign [.Name y yp] (.ListComp elt [⟨target,.Call (.Attribute o name apos) args kws pos,[],0⟩] sc cpos) p)) (Sim.chk fun h=>Sim.assignCompX (fun σ=>comp1G_ok S hA G elt target o name apos pos cpos args sc (eq_of_beq h)) y yp p) Sim.fail
theorem Sim.asgX (S:SoundF X r n) (hA:Room X A (n + 1)) (o:Option GFor) (t value:Expr) (p:Pos):SimS X A ae env (eAsgX X.K r ae o t value p) (.Assign [t] value p) :=
 onSome_ind (P:=fun x _=>SimS X A ae env x (.Assign [t] value p)) (fun G=>Sim.asgG S hA G t value p) (Sim.asg S.here hA.less t value p)
theorem Sim.tryX (L:Lib X) (S:Sound X r n) (XS:XSound X xr n) (hA:Room X A n) (body:List Stmt) (h:ExceptHandler) (p:Pos):SimS X A ae env (eTryX X.K r xr ae body h) (.Try body [h] [] [] p):=by
 refine onHand_ind (P:=fun x h=>SimS X A ae env x (.Try body [h] [] [] p)) fun t n suite hp=>?_
 cases t with
 | none=>exact Sim.fail
 | some t =>
  cases n with
  | none=>exact Sim.fail
  | some nm =>
   refine onName_ind (P:=fun x t=>SimS X A ae env x (.Try body [.ExceptHandler (some t) (some nm) suite hp] [] [] p)) (fun cls np=>?_) Sim.fail
   exact onCons_ind (P:=fun x suite=>SimS X A ae env x (.Try body [.ExceptHandler (some (.Name cls np)) (some nm) suite hp] [] [] p)) (fun b₀ s=>Sim.tryAs L S XS hA body cls nm np hp p b₀ s) Sim.fail
theorem Sim.defX (L:Lib X) (name:Str) (args:Arguments) (body:List Stmt) (ds:List Expr) (rt:Option Expr) (tp:List TypeParam) (sc:Scope) (so:Option Scope) (nm:Str) (pos:Pos):SimS X A ae env (eDefX ae name args body ds rt tp sc so nm pos) (.FunctionDef name args body ds rt tp sc so nm pos):=by
 refine onNil_ind (P:=fun x ds=>SimS X A ae env x (.FunctionDef name args body ds rt tp sc so nm pos)) (onNil_ind (P:=fun x tp=>SimS X A ae env x (.FunctionDef name args body [] rt tp sc so nm pos)) (Sim.chk fun h=>?_) Sim.fail) Sim.fail
 rw [Bool.and_eq_true,Bool.and_eq_true] at h
 rw [Option.isNone_iff_eq_none.mp h.1.1,Option.isNone_iff_eq_none.mp h.1.2,eq_of_beq h.2]
 exact Sim.defn L name args body sc pos
theorem Sim.one (L:Lib X) (S:SoundF X r n) (XS:XSound X xr n) (hA:Room X A (n + 1)) (st:Stmt):SimS X A ae env (eOne X.K x r xr ae st) st:=by
 have T:=S.here
 have hA':=hA.less
 refine onExprS_ind (P:=fun y st'=>SimS X A ae env y st') (fun e p=>Sim.exprS T hA' e p) ?_
 refine onAssign_ind (P:=fun y st'=>SimS X A ae env y st') (fun ts value p=>on1_ind (P:=fun y ts=>SimS X A ae env y (.Assign ts value p)) (fun t=>Sim.asgX S hA _ t value p) Sim.fail) ?_
 refine onIf_ind (P:=fun y st'=>SimS X A ae env y st') (fun test body orelse p=>?_) ?_
 ·unfold SimS
  rw [exec_If]
  exact Sim.standAt (Sim.br (k:=fun b=>if b=true then PySem.execs body env else PySem.execs orelse env) (T.tst A hA' ae env test) (T.exs A hA' ae env body) (T.exs A hA' ae env orelse))
 refine onReturn_ind (P:=fun y st'=>SimS X A ae env y st') (fun o p=>?_) ?_
 ·cases o with
  | none=>exact Sim.eq (t':=PySem.standAt _ >>= fun _=>pure (.ret .none)) rfl (Sim.standAt (Sim.ret fun _ _ _ _=>⟨_,rfl,rfl⟩))
  | some e =>
   show Sim X A (EnvK X ae env) RFlow (EM.bind (r.ev ae e) fun v=>EM.ret (.ret v)) _
   exact Sim.eq (t':=PySem.standAt _ >>= fun _=>eval e env >>= fun v=>pure (.ret v)) rfl (Sim.standAt (Sim.bind (T.ev A hA' ae env e) fun a v=>Sim.ret (Γ:=(EnvK X ae env).and (RDen a v)) (b:=AFlow.ret a) (a:=Flow.ret v) (R:=RFlow) fun _ _ _ h=>⟨_,rfl,h.2⟩))
 refine onAugAssign_ind (P:=fun y st'=>SimS X A ae env y st') (fun t op value p=>onName_ind (P:=fun y t=>SimS X A ae env y (.AugAssign t op value p)) (fun y np=>Sim.aug L T hA' y np op value p) (onSubscript_ind (P:=fun y t=>SimS X A ae env y (.AugAssign t op value p)) (fun o i sp=>Sim.augS T hA' o i sp op value p) Sim.fail)) ?_
 refine onWhile_ind (P:=fun y st'=>SimS X A ae env y st') (fun test body els p=>onNil_ind (P:=fun y els=>SimS X A ae env y (.While test body els p)) ?_ Sim.fail) ?_
 ·unfold SimS
  rw [exec_While]
  exact Sim.standAt (Sim.runs (T.loop A hA' ae env test body))
 refine onFor_ind (P:=fun y st'=>SimS X A ae env y st') (fun target iter body els p=>onNil_ind (P:=fun y els=>SimS X A ae env y (.For target iter body els p)) (Sim.forX S hA _ target iter body p) Sim.fail) ?_
 refine onTry_ind (P:=fun y st'=>SimS X A ae env y st') (fun body hs els fin p=>onNil_ind (P:=fun y els=>SimS X A ae env y (.Try body hs els fin p)) (onNil_ind (P:=fun y fin=>SimS X A ae env y (.Try body hs [] fin p)) (on1_ind (P:=fun y hs=>SimS X A ae env y (.Try body hs [] [] p)) (fun h=>Sim.tryX L T XS hA' body h p) Sim.fail) Sim.fail) Sim.fail) ?_
 refine onAssert_ind (P:=fun y st'=>SimS X A ae env y st') (fun test msg p=>?_) ?_
 ·exact Sim.eq (t':=PySem.standAt p >>= fun _=>isTrue test env (eval test env) >>= fun b=>if b=true then pure .next else assertFails test.pos (evalOpt msg env)) rfl (Sim.standAt (Sim.br (k:=fun b=>if b=true then pure .next else assertFails test.pos (evalOpt msg env)) (T.tst A hA' ae env test) (Sim.ret fun _ _ _ _=>rfl) Sim.fail))
 refine onFunctionDef_ind (P:=fun y st'=>SimS X A ae env y st') (fun name args body ds rt tp sc so nm pos=>Sim.defX L name args body ds rt tp sc so nm pos) ?_
 refine onPass_ind (P:=fun y st'=>SimS X A ae env y st') (fun p=>Sim.eq (t':=PySem.standAt _ >>= fun _=>pure .next) rfl (Sim.standAt (Sim.ret (b:=AFlow.next) (a:=Flow.next) (R:=RFlow) fun _ _ _ _=>rfl))) ?_
 refine onBreak_ind (P:=fun y st'=>SimS X A ae env y st') (fun p=>Sim.eq (t':=PySem.standAt _ >>= fun _=>pure .brk) rfl (Sim.standAt (Sim.ret (b:=AFlow.brk) (a:=Flow.brk) (R:=RFlow) fun _ _ _ _=>rfl))) ?_
 exact onContinue_ind (P:=fun y st'=>SimS X A ae env y st') (fun p=>Sim.eq (t':=PySem.standAt _ >>= fun _=>pure .cont) rfl (Sim.standAt (Sim.ret (b:=AFlow.cont) (a:=Flow.cont) (R:=RFlow) fun _ _ _ _=>rfl))) Sim.fail
end
theorem Lib.wf {X:Ctx} (L:Lib X) (fr:List (Env × Nat)):Lib (X.wf fr):=⟨L.names,L.nm⟩
theorem soundX (X:Ctx) (x:Ext) (L:Lib X) (hx:x.hs=hashStr X.w):∀ n,SoundF X (rx X.K x n).1 n∧XSoundF X (rx X.K x n).2 n
 | 0=>⟨fun fr=>⟨fun _ _ _ _ _=>Sim.fail,fun _ _ _ _ _=>Sim.fail,fun _ _ _ _ _=>Sim.fail,fun _ _ _ _ _ _ _ _=>Sim.fail,fun _ _ _ _ _ _=>CSim.fail,fun _ _ _ _ _ _ _ _=>CSim.fail,fun _ _ _ _ _ _ _ _ _ _ _ _ _=>CSim.fail,hx⟩,
   fun fr=>⟨fun _ _ _ _ _=>XSim.fail,fun _ _ _ _ _=>XSim.fail,fun _ _ _ _ _ _ _ _=>XSim.fail⟩⟩
 | n + 1=>by
  have IH:=soundX X x L hx n
  have SF:∀ fr,SoundF (X.wf fr) (rx X.K x n).1 n:=fun fr fr'=>IH.1 fr'
  have XF:∀ fr,XSoundF (X.wf fr) (rx X.K x n).2 n:=fun fr fr'=>IH.2 fr'
  refine ⟨fun fr=>?_,fun fr=>?_⟩
  ·have S:=SF fr
   have L':=L.wf fr
   exact ⟨fun A hA ae env e=>Sim.expr L' S.here hA e,fun A hA ae env e=>Sim.testX S.here hA.less (room_units hA) e,fun A hA ae env ss=>Sim.execs (fun st=>Sim.one L' S (IH.2 fr) hA st) ss,fun A hA f fv as vs ks kvs=>Sim.call S hA f fv as vs ks kvs,
    fun A hA ae env t b=>Sim.loop S.here hA.less t b,fun A hA ae env t it itv b=>Sim.forl S.here hA.less t it itv b,fun A hA ae env elt t i sc p it itv acc accv=>Sim.comp S.here hA.less elt t i sc p it itv acc accv,hx⟩
  ·have S:=SF fr
   have L':=L.wf fr
   exact ⟨fun A hA ae env e=>XSim.expr S.here (IH.2 fr) hA.less e,fun A hA ae env ss=>XSim.list (fun st=>Sim.one L' S (IH.2 fr) hA st) (fun st=>XSim.stmt S.here (IH.2 fr) hA.less st) ss,fun A hA f fv as vs ks kvs=>XSim.fn (XF fr) hA⟩
theorem sound (X:Ctx) (x:Ext) (L:Lib X) (hx:x.hs=hashStr X.w) (n:Nat):SoundF X (recN X.K x n) n:=(soundX X x L hx n).1
noncomputable def lstO (vs:List Value):Obj:={ cls:=.type "list",data:=.seq vs.toArray 0 }
noncomputable def Ru {β:Type} (x:EM β) (ev:Ev) (b:β) (ev':Ev):Prop:=∃ cs,x ev=some (b,ev',cs)∧All cs
theorem All.appI {a b:List Prop} (x:All a) (y:All b):All (a ++ b):=by
 induction a with
 | nil=>exact y
 | cons c a ih=>exact ⟨x.1,ih x.2⟩
theorem Ru.bind {β γ:Type} {x:EM β} {f:β→EM γ} {ev ev' ev'':Ev} {b:β} {c:γ} (h1:Ru x ev b ev') (h2:Ru (f b) ev' c ev''):Ru (EM.bind x f) ev c ev'':=by
 obtain ⟨cs,e,a⟩:=h1
 obtain ⟨cs',e',a'⟩:=h2
 exact ⟨cs ++ cs',by show onSome (x ev) _ _=_; rw [e]; show onSome (f b ev') _ _=_; rw [e']; rfl,a.appI a'⟩
theorem Ru.ret {β:Type} {b:β} {ev:Ev}:Ru (EM.ret b) ev b ev:=⟨[],rfl,trivial⟩
theorem Ru.dec {b:Bool} {σ:St} {ds:List Wd}:Ru (EM.dec b) (σ,.b b :: ds) b (σ,ds):=⟨[b=b],rfl,rfl,trivial⟩
theorem Ru.of {β:Type} {x:EM β} {ev ev':Ev} {b:β} {cs:List Prop} (e:x ev=some (b,ev',cs)) (h:All cs):Ru x ev b ev':=⟨cs,e,h⟩
theorem execs_app {one:Stmt→EM AFlow}:∀ (a b:List Stmt) {ev ev' ev'':Ev} {fl:AFlow},Ru (eExecs one a) ev .next ev'→Ru (eExecs one b) ev' fl ev''→Ru (eExecs one (a ++ b)) ev fl ev''
 | [],b,ev,ev',ev'',fl,h1,h2=>h1.elim fun cs q=>inj3 q.1 fun _ i2 _=>i2 ▸ h2
 | st :: a,b,ev,ev',ev'',fl,h1,h2=>h1.elim fun cs q=>EM.bind_use (x:=one st) (f:=fun fl=>onFl fl (eExecs one a) (fun v=>EM.ret (.ret v)) (EM.ret fl)) q.1 q.2 fun f ev₁ c₁ c₂ e₁ e₂ a1 a2=>by
  cases f with
  | next=>exact Ru.bind (f:=fun fl=>onFl fl (eExecs one (a ++ b)) (fun v=>EM.ret (.ret v)) (EM.ret fl)) ⟨c₁,e₁,a1⟩ (execs_app a b ⟨c₂,e₂,a2⟩ h2)
  | ret v=>exact inj3 e₂ fun i1 _ _=>nomatch i1
  | _=>exact inj3 e₂ fun i1 _ _=>nomatch i1
theorem Und.mono {N N':Nat} {x:AV} (h:Und N x) (hN:N≤N'):Und N' x :=
 AV.ind (P:=fun x=>Und N x→Und N' x) (L:=fun x=>Und N (.tup x)→Und N' (.tup x)) (M:=fun x=>Und N (.obj 0 x)→Und N' (.obj 0 x)) (fun _ h=>h) (fun _ h=>h) (fun _ h=>h) (fun _ h=>h) (fun _ h=>Nat.lt_of_lt_of_le h hN) (fun _ ih=>ih) (fun _ _ ih=>ih) (fun _ _ ih=>ih)
  (fun _ _ _ _ _ h p hp=>Nat.lt_of_lt_of_le (h p hp) hN) (fun _ ih=>ih) (fun h=>h) (fun _ _ p q h=>⟨p h.1,q h.2⟩) (fun h=>h) (fun _ _ _ p q h=>⟨p h.1,q h.2⟩) x h
structure CL (xs:List AV):Prop where
 all:∀ x ∈ xs,∀ N,Und N x
theorem CL.nil:CL []:=⟨fun _ h=>nomatch h⟩
theorem CL.cons {x:AV} {xs:List AV} (h:∀ N,Und N x) (hs:CL xs):CL (x :: xs):=⟨fun y hy=>by
 rcases List.mem_cons.mp hy with rfl | hy
 ·exact h
 ·exact hs.all y hy⟩
theorem CL.app {xs ys:List AV} (h:CL xs) (hs:CL ys):CL (xs ++ ys):=⟨fun y hy=>(List.mem_append.mp hy).elim (h.all y) (hs.all y)⟩
theorem CL.tup {xs:List AV} (h:CL xs) (N:Nat):Und N (.tup xs):=.tup fun x hx=>h.all x hx N
theorem CL.lst {xs:List AV} (h:CL xs) (N:Nat):Und N (.lst xs):=.lst fun x hx=>h.all x hx N
theorem CL.slo {C:Addr} {xs:List AV} (h:CL xs) (N:Nat):Und N (.slo C xs):=.slo fun x hx=>h.all x hx N
structure NsOk (N:Nat) (m:List (Str × AV)):Prop where
 all:∀ q ∈ m,Und N q.2
theorem NsOk.nil {N:Nat}:NsOk N []:=⟨fun _ h=>nomatch h⟩
theorem NsOk.cons {N:Nat} {x:Str} {v:AV} {m:List (Str × AV)} (h:Und N v) (hs:NsOk N m):NsOk N ((x,v) :: m):=⟨fun q hq=>by
 rcases List.mem_cons.mp hq with rfl | hq
 ·exact h
 ·exact hs.all q hq⟩
theorem NsOk.mono {N N':Nat} {m:List (Str × AV)} (h:NsOk N m) (hN:N≤N'):NsOk N' m:=⟨fun q hq=>(h.all q hq).mono hN⟩
theorem und_ns {N:Nat} {m:List (Str × AV)} (h:NsOk N m):UndC N (.ns m):=h.all
theorem und_map {N:Nat} {hs:Str→Int} {m:List (Str × AV)} (h:NsOk N m):UndC N (.map hs m):=h.all
theorem und_fit {N k:Nat} {xs:List AV} (h:CL xs):UndC N (.fit xs k):=fun x hx=>h.all x hx N
theorem und_dict {N:Nat} {m:List (Str × AV)} (h:NsOk N m):UndC N (.dict m):=h.all
theorem und_box {N:Nat} {v:AV} (h:Und N v):UndC N (.box (some v)):=h
theorem und_list {N:Nat} {xs:List AV} (h:CL xs):UndC N (.list xs):=fun x hx=>h.all x hx N
theorem und_cons {N i:Nat} {c:Cell} {l:List (Nat × Cell)} (h:UndC N c) (hs:∀ q ∈ l,UndC N q.2):∀ q ∈ (i,c) :: l,UndC N q.2:=fun q hq=>by
 rcases List.mem_cons.mp hq with rfl | hq
 ·exact h
 ·exact hs q hq
theorem und_nil {N:Nat}:∀ q ∈ ([]:List (Nat × Cell)),UndC N q.2:=fun _ h=>nomatch h
theorem UndC.mono {N N':Nat} {c:Cell} (h:UndC N c) (hN:N≤N'):UndC N' c:=by
 cases c with
 | list xs=>exact fun x hx=>(h x hx).mono hN
 | ns m=>exact fun x hx=>(h x hx).mono hN
 | dict m=>exact fun x hx=>(h x hx).mono hN
 | box v=>cases v with
  | none=>trivial
  | some v=>exact Und.mono h hN
 | inst C d=>exact Nat.lt_of_lt_of_le h hN
 | sinst C d xs=>exact ⟨Nat.lt_of_lt_of_le h.1 hN,fun x hx=>(h.2 x hx).mono hN⟩
 | liter l k=>exact Nat.lt_of_lt_of_le h hN
 | exc C d t=>exact ⟨fun i hi=>Nat.lt_of_lt_of_le (h.1 i hi) hN,fun i hi=>Nat.lt_of_lt_of_le (h.2 i hi) hN⟩
 | tb fl=>exact fun i hi=>Nat.lt_of_lt_of_le (h i hi) hN
 | wl l k=>exact Nat.lt_of_lt_of_le h hN
 | enum l k=>exact Nat.lt_of_lt_of_le h hN
 | rev l k=>exact Nat.lt_of_lt_of_le h hN
 | map hs m=>exact fun x hx=>(h x hx).mono hN
 | fit xs k=>exact fun x hx=>(h x hx).mono hN
 | _=>exact h
theorem und_sinstC {N C d:Nat} {xs:List (Option AV)} (h:d < N) (hs:CL (xs.filterMap id)):UndC N (.sinst C d xs):=⟨h,fun x hx=>hs.all x (List.mem_filterMap.mpr ⟨some x,hx,rfl⟩) N⟩
noncomputable def Go {β:Type} (x:EM β) (σ:St) (b:β) (σ':St):Prop:=∃ ws:List Wd,∀ ds,Ru x (σ,ws ++ ds) b (σ',ds)
theorem Go.bind {β γ:Type} {x:EM β} {f:β→EM γ} {σ σ' σ'':St} {b:β} {c:γ} (h1:Go x σ b σ') (h2:Go (f b) σ' c σ''):Go (EM.bind x f) σ c σ'':=by
 obtain ⟨w1,h1⟩:=h1
 obtain ⟨w2,h2⟩:=h2
 exact ⟨w1 ++ w2,fun ds=>by rw [List.append_assoc]; exact (h1 _).bind (h2 ds)⟩
theorem Go.ret {β:Type} {b:β} {σ:St}:Go (EM.ret b) σ b σ:=⟨[],fun ds=>Ru.ret⟩
theorem Go.dec {b:Bool} {σ:St}:Go (EM.dec b) σ b σ:=⟨[.b b],fun ds=>Ru.dec⟩
section
variable {one:Stmt→EM AFlow}
theorem Go.app {a b:List Stmt} {σ σ' σ'':St} {fl:AFlow} (h1:Go (eExecs one a) σ .next σ') (h2:Go (eExecs one b) σ' fl σ''):Go (eExecs one (a ++ b)) σ fl σ'':=by
 obtain ⟨w1,h1⟩:=h1
 obtain ⟨w2,h2⟩:=h2
 exact ⟨w1 ++ w2,fun ds=>by rw [List.append_assoc]; exact execs_app a b (h1 _) (h2 ds)⟩
theorem Go.stmt {st:Stmt} {σ σ':St} {fl:AFlow} (h:Go (one st) σ fl σ'):Go (eExecs one [st]) σ fl σ' :=
 show Go (EM.bind (one st) fun fl=>onFl fl (EM.ret AFlow.next) (fun v=>EM.ret (AFlow.ret v)) (EM.ret fl)) σ fl σ' from Go.bind h (by cases fl <;> exact Go.ret)
theorem Go.cons {st:Stmt} {ss:List Stmt} {σ σ' σ'':St} {fl:AFlow} (h1:Go (one st) σ .next σ') (h2:Go (eExecs one ss) σ' fl σ''):Go (eExecs one (st :: ss)) σ fl σ'' :=
 show Go (EM.bind (one st) fun fl=>onFl fl (eExecs one ss) (fun v=>EM.ret (AFlow.ret v)) (EM.ret fl)) σ fl σ'' from Go.bind h1 h2
theorem Go.consR {st:Stmt} {ss:List Stmt} {σ σ':St} {fl:AFlow} (h1:Go (one st) σ fl σ') (h0:fl ≠ .next:=by exact nofun):Go (eExecs one (st :: ss)) σ fl σ' :=
 show Go (EM.bind (one st) fun fl=>onFl fl (eExecs one ss) (fun v=>EM.ret (AFlow.ret v)) (EM.ret fl)) σ fl σ' from Go.bind h1 (by
  cases fl with
  | next=>exact absurd rfl h0
  | _=>exact Go.ret)
end
theorem Go.of {β:Type} {x:EM β} {σ σ':St} {b:β} {cs:List Prop} (ws:List Wd) (e:∀ ds,x (σ,ws ++ ds)=some (b,(σ',ds),cs)) (h:All cs):Go x σ b σ':=⟨ws,fun ds=>Ru.of (e ds) h⟩
theorem Go.st {β:Type} {f:St→EM β} {σ σ':St} {b:β} (h:Go (f σ) σ b σ'):Go (EM.st f) σ b σ':=h.elim fun ws h=>⟨ws,fun ds=>h ds⟩
theorem Go.eq {β:Type} {x y:EM β} {σ σ':St} {b:β} (e:x=y) (h:Go y σ b σ'):Go x σ b σ':=e ▸ h
theorem Go.sm {α β:Type} {f:α→EM β} {d:EM β} {a:α} {σ σ':St} {c:β} (h:Go (f a) σ c σ'):Go (onSome (some a) f d) σ c σ':=h
theorem Go.nx {β:Type} {n d:EM β} {r:AV→EM β} {σ σ':St} {c:β} (h:Go n σ c σ'):Go (onFl .next n r d) σ c σ':=h
theorem Go.rt {β:Type} {n d:EM β} {r:AV→EM β} {v:AV} {σ σ':St} {c:β} (h:Go (r v) σ c σ'):Go (onFl (.ret v) n r d) σ c σ':=h
theorem Go.chk {β:Type} {b:Bool} {x:EM β} {σ σ':St} {c:β} (h:b=true) (hx:Go x σ c σ'):Go (_root_.cond b x EM.fail) σ c σ':=by rw [h]; exact hx
theorem Go.args2 {r:Rec} {ae:AEnv} {args:List PySem.Expr} {σ σ3:St} {as:List AV} (h:Go (eArgs r ae args) σ as σ3):Go (eArgs2 r ae args []) σ (as,[]) σ3:=Go.chk rfl (Go.bind h (Go.bind (f:=fun ks=>EM.ret (as,ks)) (b:=[]) (σ':=σ3) Go.ret Go.ret))
theorem Go.meth {K:Frag} {r:Rec} {ae:AEnv} {o:PySem.Expr} {name:Str} {args:List PySem.Expr} {σ σ1 σ2 σ3 σ4:St} {ov f v:AV} {first as:List AV}
  (h1:Go (r.ev ae o) σ ov σ1) (h2:Go (eMethod K ov name) σ1 (f,first) σ2) (h3:keepOk K f=true) (h4:Go (eArgs r ae args) σ2 as σ3) (h5:Go (r.call f (first ++ as) []) σ3 v σ4):Go (eMethodCall K r ae o name args []) σ v σ4 :=
 Go.bind h1 (Go.bind (f:=fun p=>eCallWith K r ae p.1 p.2 args []) h2 (Go.chk h3 (Go.bind (f:=fun p=>r.call f (first ++ p.1) p.2) (Go.args2 h4) h5)))
theorem Go.fcall {K:Frag} {r:Rec} {ae:AEnv} {f v:AV} {args:List PySem.Expr} {σ σ3 σ4:St} {as:List AV}
  (h3:keepOk K f=true) (h4:Go (eArgs r ae args) σ as σ3) (h5:Go (r.call f as []) σ3 v σ4):Go (eCallWith K r ae f [] args []) σ v σ4:=Go.chk h3 (Go.bind (f:=fun p=>r.call f ([] ++ p.1) p.2) (Go.args2 h4) h5)
theorem Go.args0 {r:Rec} {ae:AEnv} {σ:St}:Go (eArgs r ae []) σ [] σ:=Go.ret
theorem Go.argsC {r:Rec} {ae:AEnv} {e:PySem.Expr} {es:List PySem.Expr} {v:AV} {vs:List AV} {σ σ1 σ2:St} (h0:noStar e=true) (h:Go (r.ev ae e) σ v σ1) (hs:Go (eArgs r ae es) σ1 vs σ2):Go (eArgs r ae (e :: es)) σ (v :: vs) σ2:=Go.chk h0 (Go.bind h (Go.bind hs Go.ret))
theorem Go.args1 {r:Rec} {ae:AEnv} {e:PySem.Expr} {v:AV} {σ σ1:St} (h0:noStar e=true) (h:Go (r.ev ae e) σ v σ1):Go (eArgs r ae [e]) σ [v] σ1:=Go.argsC h0 h Go.args0
section
variable {β:Type} {n d:EM β} {r:AV→EM β}
theorem Go.lp {fl:AFlow} {σ σ':St} {c:β} (hf:fl = .next ∨ fl = .cont) (h:Go n σ c σ'):Go (onLp fl n r d) σ c σ':=by
 rcases hf with rfl | rfl <;> exact h
theorem Go.lpR {v:AV} {σ σ':St} {c:β} (h:Go (r v) σ c σ'):Go (onLp (.ret v) n r d) σ c σ':=h
theorem Go.lpB {σ σ':St} {c:β} (h:Go d σ c σ'):Go (onLp .brk n r d) σ c σ':=h
end
section
variable {K:Frag} {r:Rec} {ae:AEnv} {tgt:PySem.Expr}
theorem forl_turn {it v:AV} {body:List Stmt} {σ σ1 σ2 σ3 σ4 σ5:St} {fl f3:AFlow} (h1:Go (eNextOwn tgt it) σ (some v) σ1) (h2:Go (eAssign K r ae v tgt) σ1 PUnit.unit σ2) (h3:Go (r.exs ae body) σ2 f3 σ3) (h4:Go (eTidy σ.n) σ3 () σ4) (h5:Go (r.forl ae tgt it body) σ4 fl σ5) (hf:f3 = .next ∨ f3 = .cont:=by exact .inl rfl):Go (eForL K r ae tgt it body) σ fl σ5:=Go.st (Go.bind h1 (Go.sm (Go.bind (Go.bind h2 h3) (Go.lp hf (Go.bind h4 h5)))))
theorem forl_ret {it v u:AV} {body:List Stmt} {σ σ1 σ2 σ3:St} (h1:Go (eNextOwn tgt it) σ (some v) σ1) (h2:Go (eAssign K r ae v tgt) σ1 PUnit.unit σ2) (h3:Go (r.exs ae body) σ2 (.ret u) σ3):Go (eForL K r ae tgt it body) σ (.ret u) σ3:=Go.st (Go.bind h1 (Go.sm (Go.bind (Go.bind h2 h3) (Go.lpR Go.ret))))
theorem forl_brk {it v:AV} {body:List Stmt} {σ σ1 σ2 σ3:St} (h1:Go (eNextOwn tgt it) σ (some v) σ1) (h2:Go (eAssign K r ae v tgt) σ1 PUnit.unit σ2) (h3:Go (r.exs ae body) σ2 .brk σ3):Go (eForL K r ae tgt it body) σ .next σ3:=Go.st (Go.bind h1 (Go.sm (Go.bind (Go.bind h2 h3) (Go.lpB Go.ret))))
theorem forl_end {it:AV} {body:List Stmt} {σ σ1:St} (h1:Go (eNextOwn tgt it) σ none σ1):Go (eForL K r ae tgt it body) σ .next σ1:=Go.st (Go.bind h1 Go.ret)
end
theorem tidy_keep {N:Nat} {σ:St}:Go (eTidy N) σ () σ:=Go.of [.keep] (fun ds=>rfl) trivial
theorem Go.opt {α β:Type} {o:Option α} {a:α} {f:α→EM β} {σ σ':St} {c:β} (h:o=some a) (hf:Go (f a) σ c σ'):Go (EM.bind (EM.opt o) f) σ c σ':=by rw [h]; exact Go.bind (b:=a) (σ':=σ) Go.ret hf
theorem Go.cond {β:Type} {P:Prop} {f:Unit→EM β} {σ σ':St} {c:β} (h:P) (hf:Go (f ()) σ c σ'):Go (EM.bind (EM.cond P) f) σ c σ':=Go.bind (b:=()) (σ':=σ) (Go.of (cs:=[P]) [] (fun ds=>rfl) ⟨h,trivial⟩) hf
theorem Go.word {α β:Type} {g:Wd→Option α} {w:Wd} {a:α} {f:α→EM β} {σ σ':St} {c:β} (h:g w=some a) (hf:Go (f a) σ c σ'):Go (EM.bind (EM.word g) f) σ c σ':=Go.bind (b:=a) (σ':=σ) (Go.of (cs:=[]) [w] (fun ds=>by show onSome (g w) _ _=_; rw [h]; rfl) trivial) hf
theorem Go.cellL {β:Type} {i:Nat} {xs:List AV} {f:List AV→EM β} {σ σ':St} {c:β} (h:σ.get i=some (.list xs)) (hl:xs.length≤1000000) (hf:Go (f xs) σ c σ'):Go (EM.bind (eCellL i) f) σ c σ':=Go.bind (b:=xs) (σ':=σ) (Go.bind (b:=xs) (σ':=σ) (Go.of (cs:=[]) [] (fun ds=>by show EM.opt ((σ.get i).bind asList) _=_; rw [h]; rfl) trivial) (Go.cond hl Go.ret)) hf
theorem Go.fn {r:Rec} {fi:FnI} {as:List AV} {ks binds:List (Str × AV)} {σ σ1 σ2:St} {ae:AEnv} {v:AV} (h1:(plainParams fi.params && plainScope fi.scope)=true) (h2:bindsOf (fi.params.args.map fun p=>p.arg) fi.dflts as ks=some binds)
  (h3:Go (eEnter fi.scope fi.closure fi.code binds) σ ae σ1) (h4:Go (EM.bind (r.exs ae fi.body) fun fl=>onFl fl (eNorm σ.n noneAV) (eNorm σ.n) EM.fail) σ1 v σ2):Go (eFn r fi as ks) σ v σ2 :=
 Go.chk h1 (by rw [h2]; exact Go.st (f:=fun σ=>EM.bind (eEnter fi.scope fi.closure fi.code binds) fun ae=>EM.bind (r.exs ae fi.body) fun fl=>onFl fl (eNorm σ.n noneAV) (eNorm σ.n) EM.fail) (Go.bind h3 h4))
theorem Go.iter {r:Rec} {ae:AEnv} {e:PySem.Expr} {it:AV} {γ:Type} {f:AV→EM γ} {c:γ} {σ σ1 σ2:St} (h1:Go (EM.bind (r.ev ae e) fun v=>eIterOf v) σ it σ1) (h2:Go (f it) σ1 c σ2):Go (EM.bind (r.ev ae e) fun v=>EM.bind (eIterOf v) f) σ c σ2 :=
 h1.elim fun w1 h1=>h2.elim fun w2 h2=>⟨w1 ++ w2,fun ds=>by
  rw [List.append_assoc]
  exact (h1 (w2 ++ ds)).elim fun cs q=>EM.bind_use q.1 q.2 fun v ev1 c1 c2 r1 r2 a1 a2=>Ru.bind ⟨c1,r1,a1⟩ (Ru.bind ⟨c2,r2,a2⟩ (h2 ds))⟩
theorem Go.front {one:Stmt→EM AFlow} {a b:List Stmt} {γ:Type} {f:AFlow→EM γ} {σ σ1 σ2:St} {c:γ} (h1:Go (eExecs one a) σ .next σ1) (h2:Go (EM.bind (eExecs one b) f) σ1 c σ2):Go (EM.bind (eExecs one (a ++ b)) f) σ c σ2 :=
 h1.elim fun w1 h1=>h2.elim fun w2 h2=>⟨w1 ++ w2,fun ds=>by
  rw [List.append_assoc]
  exact (h2 ds).elim fun cs q=>EM.bind_use q.1 q.2 fun v ev1 c1 c2 r1 r2 a1 a2=>Ru.bind (execs_app a b (h1 _) ⟨c1,r1,a1⟩) ⟨c2,r2,a2⟩⟩
theorem Go.eqL {K:Frag} {i j:Nat} {xs:List AV} {σ:St} (h1:σ.get i=some (.list xs)) (h2:σ.get j=some (.list xs)) (hf:xs.all (flatN 3)=true) (hl:xs.length≤1000000):Go (eCmpX K .Eq (.ref i) (.ref j)) σ (.bool true) σ :=
 show Go (eEqL i j) σ _ σ from Go.cellL h1 hl (Go.cellL h2 hl (Go.word (w:=.b true) (a:=true) rfl (Go.of (cs:=[xs=xs∧xs.all (flatN 3)=true]) [] (fun ds=>rfl) ⟨⟨rfl,hf⟩,trivial⟩)))
theorem pick_runL {α:Type} (xs:List α) (a k:Nat):((List.range k).map (a + ·)).filterMap (xs[·]?)=(xs.drop a).take k:=by
 have:=pick_run xs.toArray a k
 simpa using this
theorem pickG_b {α:Type} (xs:List α) (b:Nat):pickG xs none (some (b:Int))=xs.take b:=by
 have e:sliceBounds none (some (b:Int)) none xs.length=(((0:Nat):Int),((min b xs.length:Nat):Int),1):=by
  simp only [sliceBounds,Option.getD_none]
  have h2:¬ ((b:Int) < 0):=by omega
  simp only [h2,if_false,show (1:Int) > 0 by decide,if_true]
  congr 1
  congr 1; omega
 unfold pickG
 rw [e]
 simp only [sliceRange_one,pick_runL]
 rw [List.drop_zero,Nat.sub_zero]
 by_cases h:b≤xs.length
 ·rw [Nat.min_eq_left h]
 ·rw [Nat.min_eq_right (by omega),List.take_of_length_le (Nat.le_refl _),List.take_of_length_le (by omega)]
theorem bind_ret {β γ:Type} {x:EM β} {f:β→EM γ} {q:β} {ev:Ev} (h:x ev=some (q,ev,[])):EM.bind x f ev=f q ev:=by
 unfold EM.bind
 rw [h]
 show onSome (f q ev) _ none=_
 cases f q ev <;> rfl
theorem cellAs_eq {β:Type} {as:Cell→Option β} {i:Nat} {q:β} {c:Cell} {σ:St} {ds:List Wd} (h:σ.get i=some c) (h2:as c=some q):EM.cellAs as i (σ,ds)=some (q,(σ,ds),[]):=by
 show EM.opt ((σ.get i).bind as) (σ,ds)=_
 rw [h]
 show EM.opt (as c) (σ,ds)=_
 rw [h2]
 rfl
theorem chk_eq {b:Bool} {ev:Ev} (h:b=true):EM.chk b ev=some ((),ev,[]):=by rw [h]; rfl
section
variable {tgt:PySem.Expr} {σ:St} {i j l k:Nat} {xs:List AV} {y:AV} {ds:List Wd}
theorem rit_no (h1:σ.get i=some (.enum j k)):eNextRit tgt i (σ,ds)=none:=by
 have:EM.cellAs asRit i (σ,ds)=none:=by
  show EM.opt ((σ.get i).bind asRit) (σ,ds)=_
  rw [h1]
  rfl
 unfold eNextRit
 show onSome (EM.cellAs asRit i (σ,ds)) _ none=none
 rw [this]
 rfl
theorem own_enum (h0:isTup tgt=true) (h1:σ.get i=some (.enum j k)) (h2:σ.get j=some (.wl l k)) (h3:σ.get l=some (.list xs)) {r:Option AV × Ev × List Prop}
  (h:EM.bind EM.cutW (fun o=>onSome o (fun y=>EM.turn (xs[k]? = some y) (fun σ=>(σ.set j (.wl l (k + 1))).set i (.enum j (k + 1))) (some (.tup [.int k,y]))) (EM.turn (xs[k]? = none) (fun σ=>σ.set j .any) none)) (σ,ds)=some r):eNextOwn tgt (.ref i) (σ,ds)=some r:=by
 have e:eNextEn tgt i (σ,ds)=some r:=by
  unfold eNextEn
  rw [bind_ret (cellAs_eq (as:=asEnum) (q:=(j,k)) h1 rfl),bind_ret (chk_eq h0),bind_ret (cellAs_eq (as:=asWl) (q:=(l,k)) h2 rfl),bind_ret (cellAs_eq (as:=asList) (q:=xs) h3 rfl),bind_ret (chk_eq (Nat.beq_refl k))]
  exact h
 show EM.or (eNextRit tgt i) (EM.or (eNextEn tgt i) _) _=_
 unfold EM.or
 rw [rit_no h1,e]
theorem next_enum (h0:isTup tgt=true) (h1:σ.get i=some (.enum j k)) (h2:σ.get j=some (.wl l k)) (h3:σ.get l=some (.list xs)) :
  eNextOwn tgt (.ref i) (σ,.cut [] y :: ds)=some (some (.tup [.int k,y]),((σ.set j (.wl l (k + 1))).set i (.enum j (k + 1)),ds),[xs[k]? = some y]):=own_enum h0 h1 h2 h3 rfl
theorem end_enum (h0:isTup tgt=true) (h1:σ.get i=some (.enum j k)) (h2:σ.get j=some (.wl l k)) (h3:σ.get l=some (.list xs)) :
  eNextOwn tgt (.ref i) (σ,.b false :: ds)=some (none,(σ.set j .any,ds),[xs[k]? = none]):=own_enum h0 h1 h2 h3 rfl
theorem en_no (h1:σ.get i=some (.enum j k)) (h:(σ.get j).bind asWl=none):eNextEn tgt i (σ,ds)=none:=by
 unfold eNextEn
 rw [bind_ret (cellAs_eq (as:=asEnum) (q:=(j,k)) h1 rfl)]
 cases e:isTup tgt with
 | false=>rfl
 | true =>
  rw [bind_ret (chk_eq rfl)]
  show onSome (EM.opt ((σ.get j).bind asWl) (σ,ds)) _ none=none
  rw [h]
  rfl
theorem es_no (h1:σ.get i=some (.enum j k)) (h:(σ.get j).bind asSit=none):eNextEs tgt i (σ,ds)=none:=by
 unfold eNextEs
 rw [bind_ret (cellAs_eq (as:=asEnum) (q:=(j,k)) h1 rfl)]
 cases e:isTup tgt with
 | false=>rfl
 | true =>
  rw [bind_ret (chk_eq rfl)]
  show onSome (EM.opt ((σ.get j).bind asSit) (σ,ds)) _ none=none
  rw [h]
  rfl
theorem own_fit (h0:isTup tgt=true) (h1:σ.get i=some (.enum j k)) (h2:σ.get j=some (.fit xs k)) {r:Option AV × Ev × List Prop}
  (h:EM.bind EM.cutW (fun o=>onSome o (fun y=>EM.turn (xs[k]? = some y) (fun σ=>(σ.set j (.fit xs (k + 1))).set i (.enum j (k + 1))) (some (.tup [.int k,y]))) (EM.turn (xs[k]? = none) (fun σ=>σ.set j .any) none)) (σ,ds)=some r):eNextOwn tgt (.ref i) (σ,ds)=some r:=by
 have e:eNextEf tgt i (σ,ds)=some r:=by
  unfold eNextEf
  rw [bind_ret (cellAs_eq (as:=asEnum) (q:=(j,k)) h1 rfl),bind_ret (chk_eq h0),bind_ret (cellAs_eq (as:=asFit) (q:=(xs,k)) h2 rfl),bind_ret (chk_eq (Nat.beq_refl k))]
  exact h
 show EM.or (eNextRit tgt i) (EM.or (eNextEn tgt i) (EM.or (eNextEs tgt i) (EM.or (eNextEf tgt i) _))) _=_
 unfold EM.or
 rw [rit_no h1,en_no h1 (by rw [h2]; rfl),es_no h1 (by rw [h2]; rfl),e]
theorem next_fitE (h0:isTup tgt=true) (h1:σ.get i=some (.enum j k)) (h2:σ.get j=some (.fit xs k)) :
  eNextOwn tgt (.ref i) (σ,.cut [] y :: ds)=some (some (.tup [.int k,y]),((σ.set j (.fit xs (k + 1))).set i (.enum j (k + 1)),ds),[xs[k]? = some y]):=own_fit h0 h1 h2 rfl
theorem end_fitE (h0:isTup tgt=true) (h1:σ.get i=some (.enum j k)) (h2:σ.get j=some (.fit xs k)) :
  eNextOwn tgt (.ref i) (σ,.b false :: ds)=some (none,(σ.set j .any,ds),[xs[k]? = none]):=own_fit h0 h1 h2 rfl
theorem own_sit {x:Str} (h0:isTup tgt=true) (h1:σ.get i=some (.enum j k)) (h2:σ.get j=some (.sit x k)) {r:Option AV × Ev × List Prop}
  (h:EM.bind EM.cutW (fun o=>onSome o (fun y=>EM.turn ((x.cps[k]?).map (fun c=>AV.str ⟨#[c]⟩)=some y) (fun σ=>(σ.set j (.sit x (k + 1))).set i (.enum j (k + 1))) (some (.tup [.int k,y]))) (EM.turn (x.cps[k]? = none) (fun σ=>σ.set j .any) none)) (σ,ds)=some r):eNextOwn tgt (.ref i) (σ,ds)=some r:=by
 have e:eNextEs tgt i (σ,ds)=some r:=by
  unfold eNextEs
  rw [bind_ret (cellAs_eq (as:=asEnum) (q:=(j,k)) h1 rfl),bind_ret (chk_eq h0),bind_ret (cellAs_eq (as:=asSit) (q:=(x,k)) h2 rfl),bind_ret (chk_eq (Nat.beq_refl k))]
  exact h
 show EM.or (eNextRit tgt i) (EM.or (eNextEn tgt i) (EM.or (eNextEs tgt i) _)) _=_
 unfold EM.or
 rw [rit_no h1,en_no h1 (by rw [h2]; rfl),e]
theorem next_sit {x:Str} (h0:isTup tgt=true) (h1:σ.get i=some (.enum j k)) (h2:σ.get j=some (.sit x k)) :
  eNextOwn tgt (.ref i) (σ,.cut [] y :: ds)=some (some (.tup [.int k,y]),((σ.set j (.sit x (k + 1))).set i (.enum j (k + 1)),ds),[(x.cps[k]?).map (fun c=>AV.str ⟨#[c]⟩)=some y]):=own_sit h0 h1 h2 rfl
theorem end_sit {x:Str} (h0:isTup tgt=true) (h1:σ.get i=some (.enum j k)) (h2:σ.get j=some (.sit x k)) :
  eNextOwn tgt (.ref i) (σ,.b false :: ds)=some (none,(σ.set j .any,ds),[x.cps[k]? = none]):=own_sit h0 h1 h2 rfl
end
theorem lookup_ne {K:Frag} {b:Addr} (e:(K.map Prod.fst).all (fun a=>!(Nat.beq a b))=true):∀ a o,List.lookup a K=some o→a ≠ b:=by
 intro a o hl hab
 induction K with
 | nil=>cases hl
 | cons q K ih =>
  rw [List.map_cons,List.all_cons,Bool.and_eq_true] at e
  rw [List.lookup_cons] at hl
  split at hl
  ·rename_i hq
   have:a=q.1:=by simpa using hq
   rw [← this,hab] at e
   have:=e.1
   rw [Nat.beq_refl] at this
   cases this
  ·exact ih e.2 hl
theorem lookup_lt {K:Frag} {b:Nat} (e:(K.map Prod.fst).all (fun a=>Nat.blt a b)=true):∀ a o,List.lookup a K=some o→a < b:=by
 intro a o hl
 induction K with
 | nil=>cases hl
 | cons q K ih =>
  rw [List.map_cons,List.all_cons,Bool.and_eq_true] at e
  rw [List.lookup_cons] at hl
  split at hl
  ·rename_i hq
   have:a=q.1:=by simpa using hq
   rw [this]
   exact Nat.le_of_ble_eq_true e.1
  ·exact ih e.2 hl
noncomputable def oAt (K:Frag) (a:Addr):Obj:=(List.lookup a K).getD { cls:=.none,data:=.plain }
noncomputable def fieldsOf (o:Obj):Array Value:=match o.data with
 | .fields vs=>vs
 | _=>#[]
noncomputable def isStrV:Value→Bool
 | .str _ _=>true
 | _=>false
noncomputable def isIntV:Value→Bool
 | .int _ _=>true
 | _=>false
noncomputable def isBoolV:Value→Bool
 | .bool _=>true
 | _=>false
noncomputable def noneTab:Obj:={ cls:=.none,data:=.fields #[] }
structure CodeF (K:Frag) (c P:Addr):Prop where
 qa:List.lookup c K=some (oAt K c)
 qb:(oAt K c).cls = .type "code"
 qd:(oAt K c).data = .fields (fieldsOf (oAt K c))
 qe:(fieldsOf (oAt K c))[11]? = some (.ref P)
 qf:(fieldsOf (oAt K c)).getD 11 .none = .ref P
 qg:isStrV ((fieldsOf (oAt K c)).getD 18 .none)=true
 qh:isIntV ((fieldsOf (oAt K c)).getD 7 .none)=true
 qi:isBoolV ((fieldsOf (oAt K c)).getD 9 .none)=true
 qj:isIntV ((fieldsOf (oAt K c)).getD 10 .none)=true
 ql:c ≠ P
theorem str_of {v:Value} (h:isStrV v=true):∃ x t,v = .str x t:=by cases v <;> first | exact ⟨_,_,rfl⟩ | cases h
theorem int_of {v:Value} (h:isIntV v=true):∃ x t,v = .int x t:=by cases v <;> first | exact ⟨_,_,rfl⟩ | cases h
theorem bool_of {v:Value} (h:isBoolV v=true):∃ x,v = .bool x:=by cases v <;> first | exact ⟨_,rfl⟩ | cases h
theorem CodeF.cell {K:Frag} {c P:Addr} {h:Heap} (x:CodeF K c P) (KX:K.In h) (h2:h.get? P=some noneTab) (n:Nat) (ρ:Rho) {F:Fz} (hF:F c=some (oAt K c)) (ks:Option (List (Int × Int))):CellAt n ρ F h P (.tab c #[] ks):=by
 obtain ⟨fs,ft,e1⟩:=str_of x.qg
 obtain ⟨fl,flt,e2⟩:=int_of x.qh
 obtain ⟨bb,e3⟩:=bool_of x.qi
 obtain ⟨tx,txt,e4⟩:=int_of x.qj
 have h1:=KX _ _ x.qa
 exact ⟨noneTab,h2,⟨#[],oAt K c,rfl,hF,⟨h,#[],#[],h1,⟨_,_,_,_,_,_,_,_,_,_,h1,x.qd,x.qf,e1,e2,e3,e4,h2,rfl,trivial,x.ql⟩,⟨⟨_,_,h1,x.qb,x.qd,x.qe⟩,h2⟩⟩,trivial,fun l _ pos _=>rfl⟩⟩
theorem eq_of_nodup {α β:Type} {f:α→β}:∀ {l:List α},(l.map f).Nodup→∀ {x y:α},x ∈ l→y ∈ l→f x=f y→x=y
 | [],_,_,_,h,_,_=>nomatch h
 | a :: l,hn,x,y,hx,hy,e=>by
  rw [List.map_cons,List.nodup_cons] at hn
  rcases List.mem_cons.mp hx with rfl | hx'
  ·rcases List.mem_cons.mp hy with rfl | hy'
   ·rfl
   ·exact absurd (List.mem_map.mpr ⟨y,hy',e.symm⟩) hn.1
  ·rcases List.mem_cons.mp hy with rfl | hy'
   ·exact absurd (List.mem_map.mpr ⟨x,hx',e⟩) hn.1
   ·exact eq_of_nodup hn.2 hx' hy' e
theorem ints_raw:∀ {vs:List Value} {ns:List Int},IntsAre vs ns→vs.map rawAV=ns.map AV.int
 | _,_,.nil=>rfl
 | _,_,.cons n t h=>by rw [List.map_cons,List.map_cons,ints_raw h]; rfl
noncomputable abbrev Tb4:=Nat × Addr × Addr × Option (List (Int × Int))
noncomputable def tbC (t:Tb4):Nat × Cell:=(t.1,.tab t.2.1 #[] t.2.2.2)
noncomputable def rho0 (T:List Tb4) (sa:Addr):Rho:=fun i=>match T.find? (fun t=>Nat.beq t.1 i) with
 | some t=>t.2.2.1
 | none=>sa
noncomputable def fzH (h:Heap) (T:List Tb4) (n0:Nat):Fz:=fun a=>if (T.any fun t=>Nat.beq t.2.2.1 a)=true then none else if a < n0 then h.get? a else none
noncomputable def st0 (T:List Tb4) (N:Nat) (vs:List Value):St:=⟨N,T.map tbC ++ [(0,.raw (lstO vs))]⟩
section
variable {h:Heap} {T:List Tb4} {n0:Nat} {a:Addr} {o:Obj}
theorem fzH_sub (e:fzH h T n0 a=some o):h.get? a=some o:=by
 unfold fzH at e
 split at e
 ·cases e
 ·split at e
  ·exact e
  ·cases e
theorem fzH_of (e:h.get? a=some o) (hT:(T.any fun t=>Nat.beq t.2.2.1 a)=false) (hn:a < n0):fzH h T n0 a=some o:=by
 unfold fzH
 rw [if_neg (by rw [hT]; decide),if_pos hn]
 exact e
end
theorem join_gen {prog:Program} {w:World} {K:Frag} {x:Ext} {n N n0:Nat} {s₁:Shared} {sa fa:Addr} {vs:List Value} {T:List Tb4} {σ':St} {mb:Str→Option Value}
  (KX:K.In s₁.heap) (hK:∀ a o,List.lookup a K=some o→a < n0∧(T.any fun t=>Nat.beq t.2.2.1 a)=false)
  (hT:∀ t ∈ T,CodeF K t.2.1 t.2.2.1∧s₁.heap.get? t.2.2.1=some noneTab∧t.1 < N∧rho0 T sa t.1=t.2.2.1)
  (h0:0 < N) (hr0:rho0 T sa 0=sa) (hnd:((T.map fun t=>t.2.2.1) ++ [sa]).Nodup) (hsa:¬ sa < n0)
  (hb:s₁.heap.Ns builtinsNs mb) (hbn:builtinsNs < n0) (hbT:(T.any fun t=>Nat.beq t.2.2.1 builtinsNs)=false) (hc:s₁.heap.NoLimit) (hcn:cStatics < n0) (hcT:(T.any fun t=>Nat.beq t.2.2.1 cStatics)=false)
  (hs:s₁.heap.get? sa=some (lstO vs)) (hg:s₁.gens = #[]) (hnm:∀ y v,bNames.lookup y=some v→mb y=some v)
  (hbf:peek K ⟨prog,w.params⟩ (builtinsFor mainGlobals builtinsNs)=some builtinsNs) (hmn:∃ v,peek K ⟨prog,w.params⟩ (nsGet mainGlobals "__name__")=some v)
  (hx:x.hs=hashStr w) (hd:301 + 4 * n < 1000) (hu:4 + 40 * n < 9900)
  (hrun:Go ((recN K x n).call (.val (.ref fa)) [.ref 0] []) (st0 T N vs) (.bool true) σ')
  (e0:σ'.get 0=some (.raw (lstO vs))) (eT:∀ t ∈ T,∃ ks,σ'.get t.1=some (.tab t.2.1 #[] ks)) {Q:Value→Shared→Prop} {E:Value→Shared→Prop}
  (hQ:∀ s',OldK s₁.heap s'.heap→s'.os=s₁.os→AllBare s'.gens→Q (.bool true) s'):wpAny (model prog w) callerA (call (.ref fa) [.ref sa]) Q E s₁:=by
 let X:Ctx:=⟨prog,w,K,mb,s₁.drawn,s₁.os,[]⟩
 have hKF:∀ a o,List.lookup a K=some o→fzH s₁.heap T n0 a=some o:=fun a o h=>fzH_of (KX a o h) (hK a o h).2 (hK a o h).1
 have L:Lib X:=⟨hnm,hmn⟩
 have S:=(sound X x L hx n).here
 have hroom:Room X callerA n:=⟨hd,hu,rfl,rfl,rfl⟩
 have hoff:∀ a,(T.any fun t=>Nat.beq t.2.2.1 a)=true→fzH s₁.heap T n0 a=none:=fun a h=>by unfold fzH; rw [if_pos h]
 have hmem:∀ p ∈ (st0 T N vs).objs,(∃ t ∈ T,p=tbC t) ∨ p=(0,.raw (lstO vs)):=fun p hp=>by
  rcases List.mem_append.mp hp with h | h
  ·obtain ⟨t,ht,rfl⟩:=List.mem_map.mp h
   exact .inl ⟨t,ht,rfl⟩
  ·rw [List.mem_singleton] at h
   exact .inr h
 have hany:∀ t ∈ T,(T.any fun u=>Nat.beq u.2.2.1 t.2.2.1)=true:=fun t ht=>List.any_eq_true.mpr ⟨t,ht,Nat.beq_refl _⟩
 have fns:FNs (fzH s₁.heap T n0) builtinsNs mb:=by
  obtain ⟨o,es,ep,h1,h2,h3,h4⟩:=hb
  exact ⟨o,es,ep,fzH_of h1 hbT hbn,h2,h3,h4⟩
 have fcs:∃ mc,FNs (fzH s₁.heap T n0) cStatics mc∧mc "sys.recursionlimit" = none:=by
  obtain ⟨mc,⟨o,es,ep,h1,h2,h3,h4⟩,h5⟩:=hc
  exact ⟨mc,⟨o,es,ep,fzH_of h1 hcT hcn,h2,h3,h4⟩,h5⟩
 have hnd':((st0 T N vs).objs.map fun p=>rho0 T sa p.1).Nodup:=by
  have:(st0 T N vs).objs.map (fun p=>rho0 T sa p.1)=(T.map fun t=>t.2.2.1) ++ [sa]:=by
   show (T.map tbC ++ [(0,Cell.raw (lstO vs))]).map (fun p:Nat × Cell=>rho0 T sa p.1)=_
   rw [List.map_append,List.map_map]
   show _ ++ [rho0 T sa 0]=_
   rw [hr0]
   congr 1
   exact List.map_congr_left fun t ht=>(hT t ht).2.2.2
  rw [this]
  exact hnd
 have I:Inv X (rho0 T sa) (fzH s₁.heap T n0) (st0 T N vs) s₁:=by
  refine ⟨fun i c e=>?_,fun i j c d e f q=>congrArg Prod.fst (eq_of_nodup hnd' (mem_of_assoc e) (mem_of_assoc f) q),fun i c e=>?_,fun i c e=>?_,fun a o e=>fzH_sub e,⟨hKF,fns,fcs,K,hKF,hbf⟩,rfl,rfl,.of_eq hg,fun e he=>nomatch he⟩
  ·rcases hmem (i,c) (mem_of_assoc e) with ⟨t,ht,q⟩ | q
   ·rw [show i=t.1 from congrArg Prod.fst q]; exact (hT t ht).2.2.1
   ·rw [show i=0 from congrArg Prod.fst q]; exact h0
  ·rcases hmem (i,c) (mem_of_assoc e) with ⟨t,ht,q⟩ | q
   ·rw [show i=t.1 from congrArg Prod.fst q,show c = .tab t.2.1 #[] t.2.2.2 from congrArg Prod.snd q]
    show CellAt _ _ _ _ (rho0 T sa t.1) _
    rw [(hT t ht).2.2.2]
    exact (hT t ht).1.cell KX (hT t ht).2.1 _ _ (hKF _ _ (hT t ht).1.qa) _
   ·rw [show i=0 from congrArg Prod.fst q,show c = .raw (lstO vs) from congrArg Prod.snd q]
    exact ⟨_,(congrArg _ hr0).trans hs,rfl⟩
  ·rcases hmem (i,c) (mem_of_assoc e) with ⟨t,ht,q⟩ | q
   ·rw [show i=t.1 from congrArg Prod.fst q]
    show fzH s₁.heap T n0 (rho0 T sa t.1)=none
    rw [(hT t ht).2.2.2]
    exact hoff _ (hany t ht)
   ·rw [show i=0 from congrArg Prod.fst q,hr0]
    unfold fzH
    rw [if_neg hsa]
    split <;> rfl
 obtain ⟨ws,hrun⟩:=hrun
 obtain ⟨cs,q1,q2⟩:=hrun []
 have G:=S.call callerA hroom (.val (.ref fa)) (.ref fa) [.ref 0] [.ref sa] [] [] _ _ _ _ q1 q2 (rho0 T sa) (fzH s₁.heap T n0) s₁ I ⟨rfl,⟨⟨congrArg Value.ref hr0.symm,h0⟩,rfl⟩,rfl⟩
 refine G Q E fun v s' ρ' F' hv I' st=>?_
 have hv':v = .bool true:=hv
 subst hv'
 refine hQ s' ⟨fun b o e=>?_,st.live⟩ I'.os I'.gens
 by_cases hb0:b=sa
 ·subst hb0
  obtain ⟨o',h',rfl⟩:=I'.cell _ _ e0
  rw [st.same 0 h0,hr0] at h'
  exact .inl (h'.trans (hs.symm.trans e))
 ·by_cases hbT':∃ t ∈ T,t.2.2.1=b
  ·obtain ⟨t,ht,rfl⟩:=hbT'
   obtain ⟨ks,hm⟩:=eT t ht
   obtain ⟨o',h3,⟨more,oc,e3,_,_,_,_⟩⟩:=I'.cell _ _ hm
   rw [st.same _ (hT t ht).2.2.1,(hT t ht).2.2.2] at h3
   have h4:=(hT t ht).2.1
   rw [e] at h4
   cases h4
   have c:=(hT t ht).1
   have ct:isCodeTable s₁.heap t.2.2.1:=⟨_,_,_,KX _ _ c.qa,c.qb,c.qd,c.qe⟩
   exact .inr (.inl ⟨ct,rfl,#[],more,rfl,h3.trans (congrArg some e3)⟩)
  ·refine .inl (st.keep b o e fun i c hp hpb=>?_)
   rcases hmem (i,c) (mem_of_assoc hp) with ⟨t,ht,q⟩ | q
   ·have:rho0 T sa t.1=b:=(congrArg (rho0 T sa) (congrArg Prod.fst q)).symm.trans hpb
    rw [(hT t ht).2.2.2] at this
    exact hbT' ⟨t,ht,this⟩
   ·have:rho0 T sa 0=b:=(congrArg (rho0 T sa) (congrArg Prod.fst q)).symm.trans hpb
    rw [hr0] at this
    exact hb0 this.symm
theorem nm_of {f:Str→Option Value} (e:bNames.map (fun q=>f q.1)=bNames.map (fun q=>some q.2)):∀ y v,bNames.lookup y=some v→f y=some v:=by
 intro y v hl
 generalize bNames=K at e hl
 induction K with
 | nil=>cases hl
 | cons q K ih =>
  rw [List.map_cons,List.map_cons] at e
  injection e with e1 e2
  rw [List.lookup_cons] at hl
  split at hl
  ·rename_i hq
   cases hl
   have:y=q.1:=by simpa using hq
   rw [this]; exact e1
  ·exact ih e2 hl
noncomputable abbrev so (x:String):Str:=Str.ofString x
noncomputable def nthS (l:List Stmt) (i:Nat):Stmt:=l.getD i (.Pass default)
noncomputable def fdArgs:Stmt→Arguments
 | .FunctionDef _ a _ _ _ _ _ _ _ _=>a
 | _=>⟨[],[],none,[],[],none,[]⟩
noncomputable def fdBody:Stmt→List Stmt
 | .FunctionDef _ _ b _ _ _ _ _ _ _=>b
 | _=>[]
noncomputable def fdScope:Stmt→Scope
 | .FunctionDef _ _ _ _ _ _ s _ _ _=>s
 | _=>default
noncomputable def clsB:Stmt→List Stmt
 | .ClassDef _ _ _ b _ _ _ _ _ _ _=>b
 | _=>[]
noncomputable abbrev P2:Program:=PySem.Challenge.pw_rk0005_02
noncomputable def mS (i:Nat):Stmt:=nthS P2.main.body i
noncomputable def mM (i j:Nat):Stmt:=nthS (clsB (mS i)) j
noncomputable abbrev sv (x:String) (t:Nat):Value:=.str (so x) t
noncomputable abbrev sq (c:String) (l:List Value):Obj:={ cls:=.type c,data:=.seq l.toArray }
noncomputable abbrev fl (c:String) (l:List Value):Obj:={ cls:=.type c,data:=.fields l.toArray }
noncomputable abbrev tp (l:List Value):Obj:=sq "tuple" l
noncomputable def tqL:Nat→List String→List Value
 | _,[]=>[]
 | t,x :: l=>sv x t :: tqL (t + 1) l
noncomputable abbrev tq (t:Nat) (l:List String):Obj:=tp (tqL t l)
noncomputable abbrev cd (n q:String) (t a b e f:Nat) (r s:Addr) (x y:Value) (z:Addr) (h:Nat):Obj:=fl "code" [sv n t,sv q (t + 1),sv "/claim/cut.py" (t + 2),.int a 0,.int b 0,.int 0 0,.int 0 0,.int e 0,.ref r,.bool true,.int f 0,.ref s,.none,x,y,.ref z,.int h 0,.int a 0,sv "/claim/cut.py" (h + 1)]
noncomputable abbrev fn (n q:String) (d:Stmt) (f:Value) (m:String) (t:Nat) (c:Addr):Obj:={ cls:=.type "function",data:=.func { name:=so n,qualname:=so q,params:=fdArgs d,body:=.stmts (fdBody d),scope:=fdScope d,globals:=3,closure:=[],defaults:=f,kwdefaults:=.none,pyModule:=sv m t,code:=.ref c } }
noncomputable abbrev dc (c:Value) (k:Nat) (p:Params) (l:List (String × Nat × Value)):Obj:={ cls:=c,data:=.dict (l.map fun q=>{ hash:=PyData.keyHash p (so q.1),key:=sv q.1 q.2.1,val:=q.2.2 }).toArray k }
noncomputable def kk2 (p:Params):Frag:=[(2,dc .none 2 p [("type.__subclasses__.Exception.0",336,(.int 111 0)),("type.__subclasses__.Exception.n",337,(.int 1 0))]),
 (3,dc (.type "dict") 22 p [("__name__",165,(sv "law_rk0005_02" 501)),("__doc__",166,.none),("__package__",167,.none),("__loader__",168,(.builtin "__main__.__loader__#opaque")),("__spec__",169,.none),("__annotations__",170,(.ref 6)),("__builtins__",171,(.ref 4)),("__file__",173,(sv "/claim/cut.py" 172)),("__cached__",174,.none),("_wall",193,(.ref 21)),("Token",241,(.ref 47)),("SourceLocation",297,(.ref 79)),("CompilerError",339,(.ref 111)),("Char",379,(.ref 138)),("HandLexerBase",500,(.ref 230)),("_law_SETS",512,(.ref 237)),("_law_number",521,(.ref 244)),("_law_table",533,(.ref 251)),("_law_place",541,(.ref 258)),("_law_is_there",547,(.ref 263)),("_law_due",566,(.ref 270)),("law",572,(.ref 275))]),
 (4,{ cls:=Value.type "module",dict:=some 0 }),
 (15,tp []),
 (17,tq 190 ["k"]),
 (18,tp []),
 (20,cd "_wall" "_wall" 187 1 1 3 181 15 16 (.ref 17) (.ref 18) 19 191),
 (21,fn "_wall" "_wall" (mS 0) .none "__main__" 164 20),
 (29,sq "list" [(sv "typ" 208),(sv "val" 209),(sv "loc" 210)]),
 (30,tp []),
 (32,tq 215 ["self","typ","val","loc"]),
 (33,tp []),
 (35,cd "__init__" "Token.__init__" 212 8 4 3 181 30 31 (.ref 32) (.ref 33) 34 219),
 (36,fn "__init__" "Token.__init__" (mM 2 1) .none "ppci.lang.common" 194 35),
 (37,tp []),
 (39,tq 225 ["self"]),
 (40,tp []),
 (42,cd "__repr__" "Token.__repr__" 222 14 1 3 181 37 38 (.ref 39) (.ref 40) 41 226),
 (43,fn "__repr__" "Token.__repr__" (mM 2 2) .none "ppci.lang.common" 194 42),
 (44,tq 229 ["loc","typ","val"]),
 (46,dc (.type "dict") 5 p [("__module__",203,(sv "ppci.lang.common" 194)),("__firstlineno__",207,(.int 5 206)),("__slots__",211,(.ref 29)),("__init__",221,(.ref 36)),("__repr__",228,(.ref 43)),("__static_attributes__",232,(.ref 44)),("loc",234,(.ref 48)),("typ",236,(.ref 49)),("val",238,(.ref 50)),("__doc__",239,.none)]),
 (47,{ cls:=Value.type "type",data:=Data.cls { name:=so "Token",bases:=[Value.type "object"],mro:=[Value.ref 47,Value.type "object"],ns:=46,qualname:=so "Token",hasDict:=false,slotNames:=[so "loc",so "typ",so "val"] },slots:=#[none,none,some (Value.str (so "Token") 196),some (Value.str (so "Token") 204),some (Value.builtin "object.__new__"),some (Value.bool false)] }),
 (48,fl "member_descriptor" [(sv "loc" 233),(.ref 47),(.builtin "proto.slot"),(.builtin "proto.slot#set"),(.int 2 0)]),
 (49,fl "member_descriptor" [(sv "typ" 235),(.ref 47),(.builtin "proto.slot"),(.builtin "proto.slot#set"),(.int 1 0)]),
 (50,fl "member_descriptor" [(sv "val" 237),(.ref 47),(.builtin "proto.slot"),(.builtin "proto.slot#set"),(.int 0 0)]),
 (60,sq "list" [(sv "filename" 254),(sv "row" 255),(sv "col" 256),(sv "length" 257),(sv "source" 258)]),
 (61,tp [.none]),
 (62,tp []),
 (64,tq 263 ["self","filename","row","col","ln","source"]),
 (65,tp []),
 (67,cd "__init__" "SourceLocation.__init__" 260 19 6 3 181 62 63 (.ref 64) (.ref 65) 66 269),
 (68,fn "__init__" "SourceLocation.__init__" (mM 3 1) (.ref 61) "ppci.lang.common" 194 67),
 (69,tp []),
 (71,tq 275 ["self"]),
 (72,tp []),
 (74,cd "__repr__" "SourceLocation.__repr__" 272 26 1 3 181 69 70 (.ref 71) (.ref 72) 73 276),
 (75,fn "__repr__" "SourceLocation.__repr__" (mM 3 2) .none "ppci.lang.common" 194 74),
 (76,tq 279 ["col","filename","length","row","source"]),
 (78,dc (.type "dict") 7 p [("__module__",249,(sv "ppci.lang.common" 194)),("__firstlineno__",253,(.int 16 252)),("__slots__",259,(.ref 60)),("__init__",271,(.ref 68)),("__repr__",278,(.ref 75)),("__static_attributes__",284,(.ref 76)),("col",286,(.ref 80)),("filename",288,(.ref 81)),("length",290,(.ref 82)),("row",292,(.ref 83)),("source",294,(.ref 84)),("__doc__",295,.none)]),
 (79,{ cls:=Value.type "type",data:=Data.cls { name:=so "SourceLocation",bases:=[Value.type "object"],mro:=[Value.ref 79,Value.type "object"],ns:=78,qualname:=so "SourceLocation",hasDict:=false,slotNames:=[so "col",so "filename",so "length",so "row",so "source"] },slots:=#[none,none,some (Value.str (so "SourceLocation") 242),some (Value.str (so "SourceLocation") 250),some (Value.builtin "object.__new__"),some (Value.bool false)] }),
 (80,fl "member_descriptor" [(sv "col" 285),(.ref 79),(.builtin "proto.slot"),(.builtin "proto.slot#set"),(.int 4 0)]),
 (81,fl "member_descriptor" [(sv "filename" 287),(.ref 79),(.builtin "proto.slot"),(.builtin "proto.slot#set"),(.int 3 0)]),
 (82,fl "member_descriptor" [(sv "length" 289),(.ref 79),(.builtin "proto.slot"),(.builtin "proto.slot#set"),(.int 2 0)]),
 (83,fl "member_descriptor" [(sv "row" 291),(.ref 79),(.builtin "proto.slot"),(.builtin "proto.slot#set"),(.int 1 0)]),
 (84,fl "member_descriptor" [(sv "source" 293),(.ref 79),(.builtin "proto.slot"),(.builtin "proto.slot#set"),(.int 0 0)]),
 (87,tp [(.type "Exception")]),
 (94,tp [.none,.none]),
 (95,tp []),
 (97,tq 315 ["self","msg","loc","hints"]),
 (98,tp []),
 (100,cd "__init__" "CompilerError.__init__" 312 31 4 3 181 95 96 (.ref 97) (.ref 98) 99 319),
 (101,fn "__init__" "CompilerError.__init__" (mM 5 0) (.ref 94) "ppci.common" 298 100),
 (102,tp []),
 (104,tq 325 ["self"]),
 (105,tp []),
 (107,cd "__repr__" "CompilerError.__repr__" 322 40 1 3 181 102 103 (.ref 104) (.ref 105) 106 326),
 (108,fn "__repr__" "CompilerError.__repr__" (mM 5 1) .none "ppci.common" 298 107),
 (109,tq 329 ["hints","loc","msg"]),
 (110,dc (.type "dict") 3 p [("__module__",307,(sv "ppci.common" 298)),("__firstlineno__",311,(.int 29 310)),("__init__",321,(.ref 101)),("__repr__",328,(.ref 108)),("__static_attributes__",332,(.ref 109)),("__weakref__",334,(.ref 112)),("__doc__",335,.none)]),
 (111,{ cls:=Value.type "type",data:=Data.cls { name:=so "CompilerError",bases:=[Value.type "Exception"],mro:=[Value.ref 111,Value.type "Exception",Value.type "BaseException",Value.type "object"],ns:=110,qualname:=so "CompilerError" },slots:=#[some (Value.ref 87),none,some (Value.str (so "CompilerError") 300),some (Value.str (so "CompilerError") 308),some (Value.builtin "Exception.__new__"),some (Value.bool true)] }),
 (112,fl "getset_descriptor" [(sv "__weakref__" 333),(.ref 111),(.builtin "ExceptionGroup.__weakref__"),.none]),
 (122,tp []),
 (124,tq 357 ["self","char","loc"]),
 (125,tp []),
 (127,cd "__init__" "Char.__init__" 354 45 3 3 181 122 123 (.ref 124) (.ref 125) 126 360),
 (128,fn "__init__" "Char.__init__" (mM 7 0) .none "ppci.lang.tools.handlexer" 340 127),
 (129,tp []),
 (131,tq 366 ["self"]),
 (132,tp []),
 (134,cd "__repr__" "Char.__repr__" 363 49 1 3 181 129 130 (.ref 131) (.ref 132) 133 367),
 (135,fn "__repr__" "Char.__repr__" (mM 7 1) .none "ppci.lang.tools.handlexer" 340 134),
 (136,tq 370 ["char","loc"]),
 (137,dc (.type "dict") 4 p [("__module__",349,(sv "ppci.lang.tools.handlexer" 340)),("__firstlineno__",353,(.int 43 352)),("__init__",362,(.ref 128)),("__repr__",369,(.ref 135)),("__static_attributes__",372,(.ref 136)),("__dict__",374,(.ref 139)),("__weakref__",376,(.ref 140)),("__doc__",377,.none)]),
 (138,{ cls:=Value.type "type",data:=Data.cls { name:=so "Char",bases:=[Value.type "object"],mro:=[Value.ref 138,Value.type "object"],ns:=137,qualname:=so "Char" },slots:=#[none,none,some (Value.str (so "Char") 342),some (Value.str (so "Char") 350),some (Value.builtin "object.__new__"),some (Value.bool true)] }),
 (139,fl "getset_descriptor" [(sv "__dict__" 373),(.ref 138),(.builtin "function.__dict__"),(.builtin "function.__dict__#set")]),
 (140,fl "getset_descriptor" [(sv "__weakref__" 375),(.ref 138),(.builtin "ExceptionGroup.__weakref__"),.none]),
 (150,tp []),
 (152,tq 395 ["self"]),
 (153,tp []),
 (155,cd "__init__" "HandLexerBase.__init__" 392 53 1 3 181 150 151 (.ref 152) (.ref 153) 154 396),
 (156,fn "__init__" "HandLexerBase.__init__" (mM 8 0) .none "ppci.lang.tools.handlexer" 340 155),
 (157,tp []),
 (159,tq 402 ["self","characters","start_state","state"]),
 (160,tp []),
 (162,cd "tokenize" "HandLexerBase.tokenize" 399 58 3 35 181 157 158 (.ref 159) (.ref 160) 161 406),
 (163,fn "tokenize" "HandLexerBase.tokenize" (mM 8 1) .none "ppci.lang.tools.handlexer" 340 162),
 (164,tp [(.bool true)]),
 (165,tp []),
 (167,tq 412 ["self","eof","char"]),
 (168,tp []),
 (170,cd "next_char" "HandLexerBase.next_char" 409 66 2 3 181 165 166 (.ref 167) (.ref 168) 169 415),
 (171,fn "next_char" "HandLexerBase.next_char" (mM 8 2) (.ref 164) "ppci.lang.tools.handlexer" 340 170),
 (172,tp []),
 (174,tq 421 ["self","char"]),
 (175,tp []),
 (177,cd "backup_char" "HandLexerBase.backup_char" 418 77 2 3 181 172 173 (.ref 174) (.ref 175) 176 423),
 (178,fn "backup_char" "HandLexerBase.backup_char" (mM 8 3) .none "ppci.lang.tools.handlexer" 340 177),
 (179,tp []),
 (181,tq 429 ["self","typ","val","loc","token"]),
 (182,tp []),
 (184,cd "emit" "HandLexerBase.emit" 426 82 2 3 181 179 180 (.ref 181) (.ref 182) 183 434),
 (185,fn "emit" "HandLexerBase.emit" (mM 8 4) .none "ppci.lang.tools.handlexer" 340 184),
 (186,tp []),
 (188,tq 440 ["self"]),
 (189,tp []),
 (191,cd "ignore" "HandLexerBase.ignore" 437 89 1 3 181 186 187 (.ref 188) (.ref 189) 190 441),
 (192,fn "ignore" "HandLexerBase.ignore" (mM 8 5) .none "ppci.lang.tools.handlexer" 340 191),
 (193,tp []),
 (195,tq 447 ["self","valid"]),
 (196,tp []),
 (198,cd "accept" "HandLexerBase.accept" 444 92 2 3 181 193 194 (.ref 195) (.ref 196) 197 449),
 (199,fn "accept" "HandLexerBase.accept" (mM 8 6) .none "ppci.lang.tools.handlexer" 340 198),
 (200,tp []),
 (202,tq 455 ["self","valid"]),
 (203,tp []),
 (205,cd "accept_run" "HandLexerBase.accept_run" 452 95 2 3 181 200 201 (.ref 202) (.ref 203) 204 457),
 (206,fn "accept_run" "HandLexerBase.accept_run" (mM 8 7) .none "ppci.lang.tools.handlexer" 340 205),
 (207,tp []),
 (209,tq 463 ["self","sequence","chars","valid","char"]),
 (210,tp []),
 (212,cd "accept_sequence" "HandLexerBase.accept_sequence" 460 98 2 3 181 207 208 (.ref 209) (.ref 210) 211 468),
 (213,fn "accept_sequence" "HandLexerBase.accept_sequence" (mM 8 8) .none "ppci.lang.tools.handlexer" 340 212),
 (214,tp []),
 (216,tq 474 ["self","message","char","loc"]),
 (217,tp []),
 (219,cd "error" "HandLexerBase.error" 471 111 2 3 181 214 215 (.ref 216) (.ref 217) 218 478),
 (220,fn "error" "HandLexerBase.error" (mM 8 9) .none "ppci.lang.tools.handlexer" 340 219),
 (221,tp []),
 (223,tq 484 ["self","valid"]),
 (224,tp []),
 (226,cd "expect" "HandLexerBase.expect" 481 116 2 3 181 221 222 (.ref 223) (.ref 224) 225 486),
 (227,fn "expect" "HandLexerBase.expect" (mM 8 10) .none "ppci.lang.tools.handlexer" 340 226),
 (228,tq 489 ["characters","current_text","pushed_back","token_buffer"]),
 (229,dc (.type "dict") 4 p [("__module__",387,(sv "ppci.lang.tools.handlexer" 340)),("__firstlineno__",391,(.int 51 390)),("__init__",398,(.ref 156)),("tokenize",408,(.ref 163)),("next_char",417,(.ref 171)),("backup_char",425,(.ref 178)),("emit",436,(.ref 185)),("ignore",443,(.ref 192)),("accept",451,(.ref 199)),("accept_run",459,(.ref 206)),("accept_sequence",470,(.ref 213)),("error",480,(.ref 220)),("expect",488,(.ref 227)),("__static_attributes__",493,(.ref 228)),("__dict__",495,(.ref 231)),("__weakref__",497,(.ref 232)),("__doc__",498,.none)]),
 (230,{ cls:=Value.type "type",data:=Data.cls { name:=so "HandLexerBase",bases:=[Value.type "object"],mro:=[Value.ref 230,Value.type "object"],ns:=229,qualname:=so "HandLexerBase" },slots:=#[none,none,some (Value.str (so "HandLexerBase") 380),some (Value.str (so "HandLexerBase") 388),some (Value.builtin "object.__new__"),some (Value.bool true)] }),
 (231,fl "getset_descriptor" [(sv "__dict__" 494),(.ref 230),(.builtin "function.__dict__"),(.builtin "function.__dict__#set")]),
 (232,fl "getset_descriptor" [(sv "__weakref__" 496),(.ref 230),(.builtin "ExceptionGroup.__weakref__"),.none]),
 (235,sq "list" [(sv "a" 507),(sv "c" 508)]),
 (236,sq "list" [(sv "b" 510)]),
 (237,sq "list" [(sv "a" 503),(sv "b" 504),(sv "c" 505),(sv "ab" 506),(.ref 235),(sv "bc" 509),(.ref 236),(sv "ca" 511)]),
 (238,tp []),
 (240,tq 516 ["tape","sides","at"]),
 (241,tp []),
 (243,cd "_law_number" "_law_number" 513 120 2 3 181 238 239 (.ref 240) (.ref 241) 242 519),
 (244,fn "_law_number" "_law_number" (mS 11) .none "law_rk0005_02" 501 243),
 (245,tp []),
 (247,tq 525 ["tape","table","turn","head","more","place"]),
 (248,tp []),
 (250,cd "_law_table" "_law_table" 522 126 1 3 181 245 246 (.ref 247) (.ref 248) 249 531),
 (251,fn "_law_table" "_law_table" (mS 12) .none "law_rk0005_02" 501 250),
 (252,tp []),
 (254,tq 537 ["at","wild"]),
 (255,tp []),
 (257,cd "_law_place" "_law_place" 534 137 2 3 181 252 253 (.ref 254) (.ref 255) 256 539),
 (258,fn "_law_place" "_law_place" (mS 13) .none "law_rk0005_02" 501 257),
 (259,tp []),
 (262,cd "_law_is_there" "_law_is_there" 542 139 3 3 181 259 260 .none .none 261 545),
 (263,fn "_law_is_there" "_law_is_there" (mS 14) .none "law_rk0005_02" 501 262),
 (264,tp []),
 (266,tq 551 ["table","text","aheads","wild","answers","tokens","at","ahead","start","kind","end","number","sequence"]),
 (267,tp []),
 (269,cd "_law_due" "_law_due" 548 143 4 3 181 264 265 (.ref 266) (.ref 267) 268 564),
 (270,fn "_law_due" "_law_due" (mS 15) .none "law_rk0005_02" 501 269),
 (271,tp []),
 (274,cd "law" "law" 567 160 1 3 181 271 272 .none .none 273 570),
 (275,fn "law" "law" (mS 16) .none "law_rk0005_02" 501 274)]
noncomputable def KK (p:Params):Frag:=kk2 p
noncomputable def gtextOf (body:List Stmt):Option GText:=match body with
 | [a,b,.While t1 [.While t2 [.Expr (.Yield (some item) ypos) epos] [] pos2,r] [] pos1]=>some ⟨[a,b],t1,t2,item,[r],ypos,epos,pos1,pos2⟩
 | _=>none
section
variable (p:Params)
noncomputable def gens2 (st:Stmt):Option GFor:=match st with
 | .Assign _ (.ListComp _ (⟨_,.Call (.Attribute _ nm _) _ _ _,_,_⟩ :: _) _ _) _=>(match nm == "tokenize",fnInfo (KK p) (.val (.ref 163)) with
  | true,some fi=>(gtextOf fi.body).map fun t=>⟨t,10,60⟩
  | _,_=>none)
 | _=>none
noncomputable def ext2 (hs:Str→Int):Ext:=⟨gens2 p,hs⟩
noncomputable abbrev RN (hs:Str→Int) (n:Nat):Rec:=recN (KK p) (ext2 p hs) n
noncomputable def fnAt2 (a:Addr):FnI:=(fnInfo (KK p) (.val (.ref a))).getD ⟨⟨[],[],none,[],[],none,[]⟩,[],default,[],[],.none⟩
noncomputable abbrev lawB:List Stmt:=(fnAt2 p 275).body
noncomputable def lAe:AEnv:=⟨(fnAt2 p 275).scope,3,[("table",8),("left",7),("heard",6),("h",5),("ask",4)],.ref 274,3⟩
end
theorem Go.by {β:Type} {x:EM β} {σ σ':St} {b:β} {P:Prop} (ws:List Wd) (h:P) (e:∀ ds,(x (σ,ws ++ ds)).map (fun r=>(r.1,r.2.1,All r.2.2))=some (b,(σ',ds),P)):Go x σ b σ' :=
 ⟨ws,fun ds=>(Option.map_eq_some_iff.mp (e ds)).elim fun r q=>by
  obtain ⟨rb,re,rc⟩:=r
  have e1:rb=b:=congrArg (·.1) q.2
  have e2:re=(σ',ds):=congrArg (·.2.1) q.2
  have e3:All rc=P:=congrArg (·.2.2) q.2
  exact ⟨rc,by rw [q.1,e1,e2],e3 ▸ h⟩⟩
theorem aa {a b:Prop} (h:a) (k:b):a∧b:=⟨h,k⟩
theorem rt:true=true:=rfl
theorem rf:false=false:=rfl
noncomputable def asgVal:Stmt→PySem.Expr
 | .Assign _ v _=>v
 | .AugAssign _ _ v _=>v
 | .Expr v _=>v
 | .Return (some v) _=>v
 | _=>.Constant .none 0 default
noncomputable def asgTgt:Stmt→PySem.Expr
 | .Assign (t :: _) _ _=>t
 | _=>.Constant .none 0 default
noncomputable def callFn':PySem.Expr→PySem.Expr
 | .Call f _ _ _=>f
 | e=>e
noncomputable def callAs:PySem.Expr→List PySem.Expr
 | .Call _ as _ _=>as
 | e=>[]
noncomputable def forBody:Stmt→List Stmt
 | .For _ _ b _ _=>b
 | _=>[]
noncomputable def forIter:Stmt→PySem.Expr
 | .For _ i _ _ _=>i
 | _=>.Constant .none 0 default
noncomputable def forTgt:Stmt→PySem.Expr
 | .For t _ _ _ _=>t
 | _=>.Constant .none 0 default
noncomputable def ifTest:Stmt→PySem.Expr
 | .If t _ _ _=>t
 | _=>.Constant .none 0 default
noncomputable def ifBody:Stmt→List Stmt
 | .If _ b _ _=>b
 | _=>[]
noncomputable def ifElse:Stmt→List Stmt
 | .If _ _ b _=>b
 | _=>[]
noncomputable abbrev bot (vs:List Value):List (Nat × Cell):=[(2,.tab 184 #[] none),(1,.tab 274 #[] (some [])),(0,.raw (lstO vs))]
noncomputable def lawC (nm:List (Str × AV)) (tb lf hd h ak:Option AV):List (Nat × Cell):=[(8,.box tb),(7,.box lf),(6,.box hd),(5,.box h),(4,.box ak),(3,.ns nm)]
noncomputable def tapeC (hs:Str→Int) (row:List AV) (k:Int):List (Nat × Cell):=[(10,.list row),(9,.map hs [("row",.ref 10),("at",.int k)])]
noncomputable def nm1:List (Str × AV):=[("script",.ref 0),("tape",.ref 9)]
noncomputable def l0 (vs:List Value):St:=⟨9,lawC [("script",.ref 0)] none none none none none ++ bot vs⟩
noncomputable def l1 (hs:Str→Int) (vs:List Value) (row:List AV) (k:Int):St:=⟨11,tapeC hs row k ++ lawC nm1 none none none none none ++ bot vs⟩
noncomputable def tAe (p:Params):AEnv:=⟨(fnAt2 p 251).scope,11,[],.ref 250,11⟩
noncomputable def tblB (p:Params):List Stmt:=(fnAt2 p 251).body
theorem Go.br {β:Type} {x:EM Bool} {y z:EM β} {σ σ₁ σ₂:St} {b:Bool} {v:β} (h1:Go x σ b σ₁) (h2:Go (_root_.cond b y z) σ₁ v σ₂):Go (eBr x y z) σ v σ₂:=show Go (EM.bind x fun b=>EM.bind (EM.dec b) fun b=>_root_.cond b y z) σ v σ₂ from Go.bind h1 (Go.bind Go.dec h2)
noncomputable abbrev ONE (p:Params) (hs:Str→Int) (n:Nat) (ae:AEnv):Stmt→EM AFlow:=eOne (KK p) (ext2 p hs) (RN p hs n) (xrecN (KK p) (ext2 p hs) n) ae
section
variable {p:Params} {hs:Str→Int} {n:Nat} {ae:AEnv} {st:Stmt} {ss:List Stmt} {t it:PySem.Expr} {σ σ₁ σ₂ σ₃ σ₄ σ₅:St} {fl f3:AFlow} {v w:AV}
theorem Go.exs (h:Go (eExecs (ONE p hs n ae) ss) σ fl σ₁):Go ((RN p hs (n + 1)).exs ae ss) σ fl σ₁:=h
theorem Go.unexs (h:Go ((RN p hs (n + 1)).exs ae ss) σ fl σ₁):Go (eExecs (ONE p hs n ae) ss) σ fl σ₁:=h
theorem Go.if_ {b:Bool} (e:ONE p hs n ae st=eBr ((RN p hs n).tst ae (ifTest st)) ((RN p hs n).exs ae (ifBody st)) ((RN p hs n).exs ae (ifElse st))) (h1:Go ((RN p hs n).tst ae (ifTest st)) σ b σ₁) (h2:Go (_root_.cond b ((RN p hs n).exs ae (ifBody st)) ((RN p hs n).exs ae (ifElse st))) σ₁ fl σ₂):Go (ONE p hs n ae st) σ fl σ₂:=Go.eq e (Go.br h1 h2)
theorem Go.for_ (e:ONE p hs n ae st=EM.bind ((RN p hs n).ev ae (forIter st)) fun v=>EM.bind (eIterOf v) fun it=>(RN p hs n).forl ae (forTgt st) it (forBody st)) (h1:Go (EM.bind ((RN p hs n).ev ae (forIter st)) fun v=>eIterOf v) σ w σ₁) (h2:Go ((RN p hs n).forl ae (forTgt st) w (forBody st)) σ₁ fl σ₂):Go (ONE p hs n ae st) σ fl σ₂:=Go.eq e (Go.iter h1 h2)
theorem for_turn {x:AV} (h1:Go (eNextOwn t w) σ (some x) σ₁) (h2:Go (eAssign (KK p) (RN p hs n) ae x t) σ₁ PUnit.unit σ₂) (h3:Go ((RN p hs n).exs ae ss) σ₂ f3 σ₃) (h4:Go (eTidy σ.n) σ₃ () σ₄) (h5:Go ((RN p hs n).forl ae t w ss) σ₄ fl σ₅) (hf:f3 = .next ∨ f3 = .cont:=by exact .inl rfl):Go ((RN p hs (n + 1)).forl ae t w ss) σ fl σ₅:=forl_turn h1 h2 h3 h4 h5 hf
theorem for_end (h1:Go (eNextOwn t w) σ none σ₁):Go ((RN p hs (n + 1)).forl ae t w ss) σ .next σ₁:=forl_end h1
theorem for_ret {x:AV} (h1:Go (eNextOwn t w) σ (some x) σ₁) (h2:Go (eAssign (KK p) (RN p hs n) ae x t) σ₁ PUnit.unit σ₂) (h3:Go ((RN p hs n).exs ae ss) σ₂ (.ret v) σ₃):Go ((RN p hs (n + 1)).forl ae t w ss) σ (.ret v) σ₃:=forl_ret h1 h2 h3
theorem for_brk {x:AV} (h1:Go (eNextOwn t w) σ (some x) σ₁) (h2:Go (eAssign (KK p) (RN p hs n) ae x t) σ₁ PUnit.unit σ₂) (h3:Go ((RN p hs n).exs ae ss) σ₂ .brk σ₃):Go ((RN p hs (n + 1)).forl ae t w ss) σ .next σ₃:=forl_brk h1 h2 h3
end
noncomputable abbrev UC (N:Nat) (l:List (Nat × Cell)):Prop:=∀ q ∈ l,UndC N q.2
noncomputable abbrev UV (N:Nat) (v:AV) (l:List (Nat × Cell)):Prop:=Und N v∧UC N l
noncomputable abbrev M6:Nat:=1000000
noncomputable abbrev NA (hs:Str→Int) (row:List AV) (k y s:Int) (U R:Prop):Prop:=hs=hs∧(hs=hs∧2≤1000)∧hs=hs∧hs=hs∧row.length≤M6∧decide (k + 1≤(row.length:Int))=true∧hs=hs∧row.length≤M6 ∧
 (0≤k + 1 - 1∧k + 1 - 1 < 1000000∧row[(k + 1 - 1).toNat]? = some (.int y) ∨ k + 1 - 1 = -1∧row[row.length - 1]? = some (.int y))∧s ≠ 0∧U∧R
noncomputable abbrev NB (hs:Str→Int) (row:List AV) (k s:Int) (U R:Prop):Prop:=hs=hs∧(hs=hs∧2≤1000)∧hs=hs∧hs=hs∧row.length≤M6∧decide (k + 1≤(row.length:Int))=false∧IntMulOk (k + 1) (k + 1)∧((2:Int) ≠ 0∧false=false)∧s ≠ 0∧U∧R
noncomputable abbrev nF (k:Int):Int:=(k + 1) * (k + 1) + (k + 1).fdiv 2 + 1
structure TOk (ns:List Int) (k b:Int):Prop where
 k0:0≤k
 kb:k≤b
 b1:b≤5000
 l:ns.length≤60
theorem TOk.step {ns:List Int} {k b b':Int} (h:TOk ns k b) (e:b + 1≤b') (h':b'≤5000):TOk ns (k + 1) b':=⟨by have:=h.k0; omega,by have:=h.kb; omega,h',h.l⟩
theorem bits_small {k:Int} (h0:0≤k) (h1:k≤5001):Builtin.Int.intBits k≤64:=by
 unfold Builtin.Int.intBits
 have:k.natAbs < 2 ^ 13:=by omega
 split
 ·exact Nat.zero_le _
 ·rename_i h
  have h2:k.natAbs ≠ 0:=by simpa using h
  have:=(Nat.log2_lt h2).mpr this
  omega
theorem num_ex {hs:Str→Int} {ns:List Int} {k b s:Int} (h:TOk ns k b) (h0:0 < s) {P:Int→Prop} (hA:∀ y,(∀ U R:Prop,U→R→NA hs (ns.map AV.int) k y s U R)→0≤y.fmod s→y.fmod s < s→P (y.fmod s))
  (hB:(∀ U R:Prop,U→R→NB hs (ns.map AV.int) k s U R)→0≤(nF k).fmod s→(nF k).fmod s < s→P ((nF k).fmod s)):∃ v,0≤v∧v < s∧P v:=by
 have r:=h.k0
 have r2:=h.kb
 have r3:=h.b1
 have m:∀ y:Int,0≤y.fmod s∧y.fmod s < s:=fun y=>⟨Int.fmod_nonneg_of_pos y h0,Int.fmod_lt_of_pos y h0⟩
 have hl:(ns.map AV.int).length≤M6:=by rw [List.length_map]; exact Nat.le_trans h.l (by decide)
 have e:((ns.map AV.int).length:Int)=ns.length:=by rw [List.length_map]
 by_cases q:k + 1≤((ns.map AV.int).length:Int)
 ·obtain ⟨i,rfl⟩:=Int.eq_ofNat_of_zero_le r
  have hi:i < ns.length:=by omega
  refine ⟨_,(m ns[i]).1,(m ns[i]).2,hA ns[i] (fun U R u r=>⟨rfl,⟨rfl,by decide⟩,rfl,rfl,hl,decide_eq_true q,rfl,hl,.inl ⟨by omega,by omega,?_⟩,by omega,u,r⟩) (m _).1 (m _).2⟩
  rw [show ((i:Int) + 1 - 1).toNat=i by omega,List.getElem?_map,List.getElem?_eq_getElem hi]
  rfl
 ·exact ⟨_,(m _).1,(m _).2,hB (fun U R u r=>⟨rfl,⟨rfl,by decide⟩,rfl,rfl,hl,decide_eq_false q,.of_left (bits_small (by omega) (by omega)),⟨by decide,rfl⟩,by omega,u,r⟩) (m _).1 (m _).2⟩
theorem Go.drop {N:Nat} (i:Nat) (xs:List Str) {σ σ':St} (u:UC N σ'.objs) (e:∀ ds,(eTidy N (σ,[.drop i xs] ++ ds)).map (fun r=>(r.1,r.2.1,All r.2.2))=some ((),(σ',ds),UC N σ'.objs∧True)):Go (eTidy N) σ () σ':=Go.by [.drop i xs] ⟨u,trivial⟩ e
noncomputable def setsV:List AV:=[.str "a",.str "b",.str "c",.str "ab",.val (.ref 235),.str "bc",.val (.ref 236),.str "ca"]
theorem CL.sets {xs:List AV} (h:∀ x ∈ xs,x ∈ setsV):CL xs:=⟨fun x hx N=>by
 have:=h x hx
 simp only [setsV,List.mem_cons,List.mem_nil_iff,or_false] at this
 rcases this with rfl | rfl | rfl | rfl | rfl | rfl | rfl | rfl
 all_goals first | exact .str _ | exact .val _⟩
structure RowOk (r:List AV):Prop where
 sets:∀ x ∈ r,x ∈ setsV
 pos:1≤r.length
 le:r.length≤4
noncomputable def RowsOk (rs:List (List AV)):Prop:=∀ r ∈ rs,RowOk r
noncomputable abbrev rowsV (rs:List (List AV)):List AV:=rs.map AV.lst
theorem CL.rows {rs:List (List AV)} (h:RowsOk rs):CL (rowsV rs):=⟨fun x hx=>by
 obtain ⟨r,hr,rfl⟩:=List.mem_map.mp hx
 exact CL.lst (CL.sets (h r hr).sets)⟩
theorem CL.ints (ns:List Int):CL (ns.map AV.int):=⟨fun x hx N=>by
 obtain ⟨r,hr,rfl⟩:=List.mem_map.mp hx
 exact .int _⟩
theorem und_tape {hs:Str→Int} {ns:List Int} {k:Int} {N:Nat} {l:List (Nat × Cell)} (hN:11≤N) (h:UC N l):UC N (tapeC hs (ns.map AV.int) k ++ l) :=
 und_cons (und_list (CL.ints ns)) (und_cons (und_map (.cons (.ref (by omega)) (.cons (.int _) .nil))) h)
theorem und_bot {vs:List Value} {N:Nat}:UC N (bot vs):=und_cons trivial (und_cons trivial (und_cons trivial und_nil))
noncomputable def oAV (o:Option AV) (N:Nat):Prop:=∀ v,o=some v→Und N v
theorem und_law {N:Nat} {nm:List (Str × AV)} {a b c d e:Option AV} {l:List (Nat × Cell)} (hn:NsOk N nm) (ha:oAV a N) (hb:oAV b N) (hc:oAV c N) (hd:oAV d N) (he:oAV e N) (h:UC N l):UC N (lawC nm a b c d e ++ l):=by
 have o:∀ {x:Option AV},oAV x N→UndC N (.box x):=fun {x} hx=>by
  cases x with
  | none=>trivial
  | some v=>exact und_box (hx v rfl)
 exact und_cons (o ha) (und_cons (o hb) (und_cons (o hc) (und_cons (o hd) (und_cons (o he) (und_cons (und_ns hn) h)))))
theorem oAV.none {N:Nat}:oAV none N:=fun _ h=>nomatch h
theorem oAV.some {N:Nat} {v:AV} (h:Und N v):oAV (some v) N:=fun _ e=>Option.some.inj e ▸ h
theorem und_l1 {hs:Str→Int} {vs:List Value} {ns:List Int} {k:Int} {N:Nat} (hN:11≤N):UC N (l1 hs vs (ns.map AV.int) k).objs :=
 und_tape hN (und_law (.cons (.ref (by omega)) (.cons (.ref (by omega)) .nil)) .none .none .none .none .none und_bot)
theorem noMem {P:AV→Prop}:∀ x ∈ ([]:List AV),P x:=fun _ h=>nomatch h
noncomputable def tfor (p:Params):Stmt:=nthS (tblB p) 1
noncomputable def ifor (p:Params):Stmt:=nthS (forBody (tfor p)) 3
noncomputable def tn0:List (Str × AV):=[("tape",.ref 9),("table",.ref 12)]
noncomputable def tn1 (y:Int) (hd:AV):List (Str × AV):=[("tape",.ref 9),("table",.ref 12),("turn",.int y),("head",hd)]
noncomputable def tn2 (y:Int) (hd:AV):List (Str × AV):=[("tape",.ref 9),("table",.ref 12),("turn",.int y),("head",hd),("more",.ref 15)]
noncomputable def tn3 (y:Int) (hd:AV) (j:Int):List (Str × AV):=[("tape",.ref 9),("table",.ref 12),("turn",.int y),("head",hd),("more",.ref 15),("place",.int j)]
section
variable (hs:Str→Int) (vs:List Value)
noncomputable abbrev t1 (row rows:List AV) (k:Int) (nm:List (Str × AV)):St:=⟨13,(12,.list rows) :: (11,.ns nm) :: (l1 hs vs row k).objs⟩
noncomputable abbrev t2 (row rows:List AV) (k a b left:Int) (nm:List (Str × AV)):St:=⟨15,(14,.rit a left 1) :: (13,.rng 0 b 1) :: (t1 hs vs row rows k nm).objs⟩
noncomputable abbrev t3 (row rows more:List AV) (k a b left:Int) (nm:List (Str × AV)):St:=⟨16,(15,.list more) :: (t2 hs vs row rows k a b left nm).objs⟩
noncomputable abbrev t4 (row rows more:List AV) (k a b left a2 b2 left2:Int) (nm:List (Str × AV)):St:=⟨18,(17,.rit a2 left2 1) :: (16,.rng 0 b2 1) :: (t3 hs vs row rows more k a b left nm).objs⟩
end
noncomputable abbrev lf (b:Int):Int:=if 0 < b then b - 0 else 0
theorem lf_eq {b:Int} (h:0 < b):lf b=b:=by unfold lf; rw [if_pos h]; omega
noncomputable abbrev M62i:Int:=4611686018427387904
noncomputable abbrev Rg (b:Int):Prop:=(1:Int)=1∧-M62i≤0∧0 < M62i∧-M62i≤b∧b < M62i
theorem rg {b:Int} (h0:0≤b) (h1:b≤100):Rg b:=⟨rfl,by decide,by decide,by unfold M62i; omega,by unfold M62i; omega⟩
section
variable {p:Params} {hs:Str→Int} {vs:List Value} {ns:List Int} {rows:List (List AV)} {rw:List AV} {more:List AV} {k b a c left a2 b2 l2 y:Int} {m N:Nat} {nm:List (Str × AV)} (h:TOk ns k b) (hr:RowsOk rows)
theorem und_t1 (hN:13≤N) (hn:NsOk N nm) (hr:RowsOk rows):UC N (t1 hs vs (ns.map AV.int) (rowsV rows) k nm).objs:=und_cons (und_list (CL.rows hr)) (und_cons (und_ns hn) (und_l1 (by omega)))
theorem und_t2 (hN:13≤N) (hn:NsOk N nm) (hr:RowsOk rows):UC N (t2 hs vs (ns.map AV.int) (rowsV rows) k a c left nm).objs:=und_cons trivial (und_cons trivial (und_t1 hN hn hr))
theorem und_t3 (hN:13≤N) (hn:NsOk N nm) (hr:RowsOk rows) (hm:∀ x ∈ more,x ∈ setsV):UC N (t3 hs vs (ns.map AV.int) (rowsV rows) more k a c left nm).objs:=und_cons (und_list (CL.sets hm)) (und_t2 hN hn hr)
theorem und_t4 (hN:13≤N) (hn:NsOk N nm) (hr:RowsOk rows) (hm:∀ x ∈ more,x ∈ setsV):UC N (t4 hs vs (ns.map AV.int) (rowsV rows) more k a c left a2 b2 l2 nm).objs:=und_cons trivial (und_cons trivial (und_t3 hN hn hr hm))
theorem tn0_ok (hN:13≤N):NsOk N tn0:=.cons (.ref (by omega)) (.cons (.ref (by omega)) .nil)
theorem tn1_ok (hN:13≤N) (h:∀ x ∈ rw,x ∈ setsV):NsOk N (tn1 y (.lst rw)):=.cons (.ref (by omega)) (.cons (.ref (by omega)) (.cons (.int _) (.cons (CL.lst (CL.sets h) _) .nil)))
theorem tn2_ok (hN:16≤N) (h:∀ x ∈ rw,x ∈ setsV):NsOk N (tn2 y (.lst rw)):=.cons (.ref (by omega)) (.cons (.ref (by omega)) (.cons (.int _) (.cons (CL.lst (CL.sets h) _) (.cons (.ref (by omega)) .nil))))
theorem tn3_ok (hN:16≤N) (h:∀ x ∈ rw,x ∈ setsV):NsOk N (tn3 y (.lst rw) a):=.cons (.ref (by omega)) (.cons (.ref (by omega)) (.cons (.int _) (.cons (CL.lst (CL.sets h) _) (.cons (.ref (by omega)) (.cons (.int _) .nil)))))
include h
theorem tb_iter:∃ v,0≤v∧v < 4∧Go (EM.bind ((RN p hs (m + 20)).ev (tAe p) (forIter (tfor p))) fun v=>eIterOf v) (t1 hs vs (ns.map AV.int) (rowsV []) k tn0) (.ref 14) (t2 hs vs (ns.map AV.int) (rowsV []) (k + 1) 0 (1 + v) (lf (1 + v)) tn0) :=
 num_ex (hs:=hs) h (by decide)
  (fun y c h0 h1=>Go.by [.b true,.cut [] (.int y),.norm] (c (UV 13 (.int (y.fmod 4)) (t1 hs vs (ns.map AV.int) (rowsV []) (k + 1) tn0).objs) _ ⟨.int _,und_t1 (Nat.le_refl _) (tn0_ok (Nat.le_refl _)) (fun _ h=>nomatch h)⟩ (aa (rg (b:=1 + y.fmod 4) (by omega) (by omega)) trivial)) (fun _=>by kernel_rfl))
  (fun c h0 h1=>Go.by [.b false,.norm] (c (UV 13 (.int ((nF k).fmod 4)) (t1 hs vs (ns.map AV.int) (rowsV []) (k + 1) tn0).objs) _ ⟨.int _,und_t1 (Nat.le_refl _) (tn0_ok (Nat.le_refl _)) (fun _ h=>nomatch h)⟩ (aa (rg (b:=1 + (nF k).fmod 4) (by omega) (by omega)) trivial)) (fun _=>by kernel_rfl))
noncomputable abbrev tT (p:Params):PySem.Expr:=ifTest (nthS (forBody (tfor p)) 1)
theorem tb_test (hr:RowsOk rows) (hn:rows ≠ []) (hl:rows.length≤4):∃ v:Int,0≤v∧v < 3∧Go ((RN p hs (m + 20)).tst (tAe p) (tT p)) (t2 hs vs (ns.map AV.int) (rowsV rows) k a c left (tn1 y (.lst []))) (decide (0 < v)) (t2 hs vs (ns.map AV.int) (rowsV rows) (k + 1) a c left (tn1 y (.lst []))):=by
 have n1:(rowsV rows).length < 4611686018427387904:=by rw [List.length_map]; omega
 have n2:(!(rowsV rows).isEmpty)=true:=by
  cases rows with
  | nil=>exact absurd rfl hn
  | cons=>rfl
 have u:∀ v,UV 15 (.int v) (t2 hs vs (ns.map AV.int) (rowsV rows) (k + 1) a c left (tn1 y (.lst []))).objs:=fun v=>⟨.int _,und_t2 (by decide) (tn1_ok (by decide) (fun _ h=>nomatch h)) hr⟩
 refine num_ex (hs:=hs) (s:=3) h (by decide) (fun y cc h0 h1=>?_) (fun cc h0 h1=>?_)
 ·by_cases q:0 < y.fmod 3
  ·rw [decide_eq_true q]
   exact Go.by [.b true,.b true,.cut [] (.int y),.norm,.b true] (aa n1 <| aa n2 <| cc _ _ (u (y.fmod 3)) (aa (decide_eq_true (p:=y.fmod 3 > 0) q) trivial)) (fun _=>by kernel_rfl)
  ·rw [decide_eq_false q]
   exact Go.by [.b true,.b true,.cut [] (.int y),.norm,.b false] (aa n1 <| aa n2 <| cc _ _ (u (y.fmod 3)) (aa (decide_eq_false (p:=y.fmod 3 > 0) q) trivial)) (fun _=>by kernel_rfl)
 ·by_cases q:0 < (nF k).fmod 3
  ·rw [decide_eq_true q]
   exact Go.by [.b true,.b false,.norm,.b true] (aa n1 <| aa n2 <| cc _ _ (u ((nF k).fmod 3)) (aa (decide_eq_true (p:=(nF k).fmod 3 > 0) q) trivial)) (fun _=>by kernel_rfl)
  ·rw [decide_eq_false q]
   exact Go.by [.b true,.b false,.norm,.b false] (aa n1 <| aa n2 <| cc _ _ (u ((nF k).fmod 3)) (aa (decide_eq_false (p:=(nF k).fmod 3 > 0) q) trivial)) (fun _=>by kernel_rfl)
omit h in
theorem tb_test0:Go ((RN p hs (m + 20)).tst (tAe p) (tT p)) (t2 hs vs (ns.map AV.int) (rowsV []) k a c left (tn1 y (.lst []))) false (t2 hs vs (ns.map AV.int) (rowsV []) k a c left (tn1 y (.lst []))) :=
 Go.by [.b false] (aa (show 0 < 4611686018427387904 by decide) <| aa rf trivial) (fun _=>by kernel_rfl)
theorem tb_take (hr:RowsOk rows) (hl:rows.length≤4) (hi:rows[rows.length - 1]? = some rw):∃ v,0≤v∧v < 4∧Go ((RN p hs (m + 20)).exs (tAe p) (ifBody (nthS (forBody (tfor p)) 1))) (t2 hs vs (ns.map AV.int) (rowsV rows) k a c left (tn1 y (.lst []))) .next
  (t2 hs vs (ns.map AV.int) (rowsV rows) (k + 1) a c left (tn1 y (.lst (pickG rw none (some v))))):=by
 have n1:(rowsV rows).length≤M6:=by rw [List.length_map]; exact Nat.le_trans hl (by decide)
 have n2:(rowsV rows)[(rowsV rows).length - 1]? = some (.lst rw):=by rw [List.length_map,List.getElem?_map,hi]; rfl
 have hw:=hr rw (List.mem_of_getElem? hi)
 have n3:rw.length≤M6:=Nat.le_trans hw.le (by decide)
 have n4:∀ v,0≤v→(pickG rw none (some v)).length≤M6:=fun v hv=>by
  obtain ⟨i,rfl⟩:=Int.eq_ofNat_of_zero_le hv
  rw [pickG_b,List.length_take]
  exact Nat.le_trans (Nat.min_le_right _ _) n3
 have u:∀ v,UV 15 (.int v) (t2 hs vs (ns.map AV.int) (rowsV rows) (k + 1) a c left (tn1 y (.lst []))).objs:=fun v=>⟨.int _,und_t2 (by decide) (tn1_ok (by decide) (fun _ h=>nomatch h)) hr⟩
 have n5:((0:Int)≤-1∧(-1:Int) < 1000000∧(rowsV rows)[0]? = some (.lst rw)) ∨ (-1:Int) = -1∧(rowsV rows)[(rowsV rows).length - 1]? = some (.lst rw):=.inr ⟨rfl,n2⟩
 exact num_ex (hs:=hs) h (by decide)
  (fun y cc h0 h1=>Go.by [.cut [] (.lst rw),.b true,.cut [] (.int y),.norm,.norm] (aa n1 <| aa n5 <| cc _ _ (u (y.fmod 4)) (aa n3 <| aa (n4 _ h0) trivial)) (fun _=>by kernel_rfl))
  (fun cc h0 h1=>Go.by [.cut [] (.lst rw),.b false,.norm,.norm] (aa n1 <| aa n5 <| cc _ _ (u ((nF k).fmod 4)) (aa n3 <| aa (n4 _ h0) trivial)) (fun _=>by kernel_rfl))
noncomputable def tnT (y:Int):List (Str × AV):=[("tape",.ref 9),("table",.ref 12),("turn",.int y)]
theorem tb_head (hr:RowsOk rows) (hl:rows.length≤4) (hb:b≤4000):∃ k' rw,TOk ns k' (b + 2)∧(∀ x ∈ rw,x ∈ setsV)∧rw.length≤4∧Go (eExecs (ONE p hs (m + 20) (tAe p)) ((forBody (tfor p)).take 2)) (t2 hs vs (ns.map AV.int) (rowsV rows) k a c left (tnT y)) .next
  (t2 hs vs (ns.map AV.int) (rowsV rows) k' a c left (tn1 y (.lst rw))):=by
 have e1:ONE p hs (m + 20) (tAe p) (nthS (forBody (tfor p)) 1)=eBr ((RN p hs (m + 20)).tst (tAe p) (tT p)) ((RN p hs (m + 20)).exs (tAe p) (ifBody (nthS (forBody (tfor p)) 1))) ((RN p hs (m + 20)).exs (tAe p) (ifElse (nthS (forBody (tfor p)) 1))):=by kernel_rfl
 have g0:Go (ONE p hs (m + 20) (tAe p) (nthS (forBody (tfor p)) 0)) (t2 hs vs (ns.map AV.int) (rowsV rows) k a c left (tnT y)) .next (t2 hs vs (ns.map AV.int) (rowsV rows) k a c left (tn1 y (.lst []))):=Go.by [.norm] (aa (show 0≤M6 by decide) trivial) (fun _=>by kernel_rfl)
 have el:∀ σ,Go ((RN p hs (m + 20)).exs (tAe p) (ifElse (nthS (forBody (tfor p)) 1))) σ .next σ:=fun σ=>Go.by [] trivial (fun _=>by kernel_rfl)
 have all:∀ {k' rw},Go (ONE p hs (m + 20) (tAe p) (nthS (forBody (tfor p)) 1)) (t2 hs vs (ns.map AV.int) (rowsV rows) k a c left (tn1 y (.lst []))) .next (t2 hs vs (ns.map AV.int) (rowsV rows) k' a c left (tn1 y (.lst rw)))→Go (eExecs (ONE p hs (m + 20) (tAe p)) ((forBody (tfor p)).take 2)) (t2 hs vs (ns.map AV.int) (rowsV rows) k a c left (tnT y)) .next
  (t2 hs vs (ns.map AV.int) (rowsV rows) k' a c left (tn1 y (.lst rw))):=fun h=>Go.eq (show eExecs (ONE p hs (m + 20) (tAe p)) ((forBody (tfor p)).take 2)=eExecs (ONE p hs (m + 20) (tAe p)) [nthS (forBody (tfor p)) 0,nthS (forBody (tfor p)) 1] by kernel_rfl) (Go.cons g0 (Go.stmt h))
 by_cases hn:rows=[]
 ·subst hn
  exact ⟨k,[],⟨h.k0,by have:=h.kb; omega,by omega,h.l⟩,noMem,Nat.zero_le _,all (Go.if_ e1 tb_test0 (el _))⟩
 ·obtain ⟨v,v0,v1,g1⟩:=tb_test (p:=p) (hs:=hs) (vs:=vs) (a:=a) (c:=c) (left:=left) (y:=y) (m:=m) h hr hn hl
  have h1:TOk ns (k + 1) (b + 1):=h.step (by omega) (by omega)
  by_cases q:0 < v
  ·rw [decide_eq_true q] at g1
   have hp:0 < rows.length:=List.length_pos_iff.mpr hn
   obtain ⟨w,w0,w1,g2⟩:=tb_take (p:=p) (hs:=hs) (vs:=vs) (a:=a) (c:=c) (left:=left) (y:=y) (m:=m) (rw:=rows[rows.length - 1]) h1 hr hl (List.getElem?_eq_getElem (by omega))
   have hw:=hr rows[rows.length - 1] (List.getElem_mem _)
   obtain ⟨i,rfl⟩:=Int.eq_ofNat_of_zero_le w0
   rw [pickG_b] at g2
   exact ⟨k + 1 + 1,(rows[rows.length - 1]).take i,h1.step (by omega) (by omega),fun x hx=>hw.sets x (List.mem_of_mem_take hx),by rw [List.length_take]; have:=hw.le; omega,all (Go.if_ e1 g1 g2)⟩
  ·rw [decide_eq_false q] at g1
   exact ⟨k + 1,[],⟨h1.k0,by have:=h1.kb; omega,by omega,h.l⟩,noMem,Nat.zero_le _,all (Go.if_ e1 g1 (el _))⟩
end
noncomputable def l2s (hs:Str→Int) (vs:List Value) (row rows:List AV) (k:Int):St:=⟨15,(12,.list rows) :: (l1 hs vs row k).objs⟩
section
variable {p:Params} {hs:Str→Int} {vs:List Value} {ns:List Int} {rows:List (List AV)} {rw:List AV} {more:List AV} {k b a c left a2 b2 l2 y:Int} {m N:Nat} {nm:List (Str × AV)}
theorem tb_it2 (h:TOk ns k b) (hr:RowsOk rows) (hw:∀ x ∈ rw,x ∈ setsV):∃ v,0≤v∧v < 3∧Go (EM.bind ((RN p hs (m + 20)).ev (tAe p) (forIter (ifor p))) fun v=>eIterOf v) (t3 hs vs (ns.map AV.int) (rowsV rows) [] k a c left (tn2 y (.lst rw))) (.ref 17)
  (t4 hs vs (ns.map AV.int) (rowsV rows) [] (k + 1) a c left 0 (1 + v) (lf (1 + v)) (tn2 y (.lst rw))):=by
 have u:∀ v,UV 16 (.int v) (t3 hs vs (ns.map AV.int) (rowsV rows) [] (k + 1) a c left (tn2 y (.lst rw))).objs:=fun v=>⟨.int _,und_t3 (by decide) (tn2_ok (by decide) hw) hr noMem⟩
 exact num_ex (hs:=hs) h (by decide)
  (fun y cc h0 h1=>Go.by [.b true,.cut [] (.int y),.norm] (cc _ _ (u (y.fmod 3)) (aa (rg (b:=1 + y.fmod 3) (by omega) (by omega)) trivial)) (fun _=>by kernel_rfl))
  (fun cc h0 h1=>Go.by [.b false,.norm] (cc _ _ (u ((nF k).fmod 3)) (aa (rg (b:=1 + (nF k).fmod 3) (by omega) (by omega)) trivial)) (fun _=>by kernel_rfl))
theorem sets_at {v:Int} (h0:0≤v) (h1:v < 8):∃ z,z ∈ setsV∧0≤v∧v < 1000000∧setsV[v.toNat]? = some z:=by
 have:v.toNat < setsV.length:=by show v.toNat < 8; omega
 exact ⟨_,List.getElem_mem this,h0,by omega,List.getElem?_eq_getElem this⟩
theorem tb_bd (h:TOk ns k b) (hr:RowsOk rows) (hw:∀ x ∈ rw,x ∈ setsV) (hm:∀ x ∈ more,x ∈ setsV) (hl:more.length≤900):∃ z,z ∈ setsV∧Go ((RN p hs (m + 20)).exs (tAe p) (forBody (ifor p))) (t4 hs vs (ns.map AV.int) (rowsV rows) more k a c left a2 b2 l2 (tn3 y (.lst rw) N)) .next
  (t4 hs vs (ns.map AV.int) (rowsV rows) (more ++ [z]) (k + 1) a c left a2 b2 l2 (tn3 y (.lst rw) N)):=by
 have u:∀ v,UV 18 (.int v) (t4 hs vs (ns.map AV.int) (rowsV rows) more (k + 1) a c left a2 b2 l2 (tn3 y (.lst rw) N)).objs:=fun v=>⟨.int _,und_t4 (by decide) (tn3_ok (by decide) hw) hr hm⟩
 have n1:more.length≤M6:=Nat.le_trans hl (by decide)
 have:=num_ex (hs:=hs) (s:=8) h (by decide) (P:=fun v=>∃ z,z ∈ setsV∧Go ((RN p hs (m + 20)).exs (tAe p) (forBody (ifor p))) (t4 hs vs (ns.map AV.int) (rowsV rows) more k a c left a2 b2 l2 (tn3 y (.lst rw) N)) .next
  (t4 hs vs (ns.map AV.int) (rowsV rows) (more ++ [z]) (k + 1) a c left a2 b2 l2 (tn3 y (.lst rw) N)))
  (fun y cc h0 h1=>(sets_at h0 h1).elim fun z q=>⟨z,q.1,Go.by [.b true,.cut [] (.int y),.norm,.cut [] z] (cc _ _ (u (y.fmod 8)) (aa (show 8≤M6 by decide) <| aa q.2 <| aa n1 trivial)) (fun _=>by kernel_rfl)⟩)
  (fun cc h0 h1=>(sets_at h0 h1).elim fun z q=>⟨z,q.1,Go.by [.b false,.norm,.cut [] z] (cc _ _ (u ((nF k).fmod 8)) (aa (show 8≤M6 by decide) <| aa q.2 <| aa n1 trivial)) (fun _=>by kernel_rfl)⟩)
 exact this.elim fun _ q=>q.2.2
theorem tb_more (hr:RowsOk rows) (hw:∀ x ∈ rw,x ∈ setsV) (hb0:b2=b2):∀ (l:Nat) (more:List AV) (hm:∀ x ∈ more,x ∈ setsV) (hl:more.length + l≤900) (k b:Int) (h:TOk ns k b) (hb:b + l≤4000) (a2:Nat) (M:Nat) (hM:21 + l≤M),
  ∃ k' more' a3,TOk ns k' (b + l)∧(∀ x ∈ more',x ∈ setsV)∧more'.length=more.length + l∧Go ((RN p hs M).forl (tAe p) (forTgt (ifor p)) (.ref 17) (forBody (ifor p))) (t4 hs vs (ns.map AV.int) (rowsV rows) more k a c left a2 b2 l (tn2 y (.lst rw))) .next
   (t4 hs vs (ns.map AV.int) (rowsV rows) more' k' a c left a3 b2 0 (tn2 y (.lst rw)))
 | 0,more,hm,hl,k,b,h,hb,a2,M,hM=>by
  obtain ⟨m,rfl⟩:∃ m,M=m + 20 + 1:=⟨M - 21,by omega⟩
  exact ⟨k,more,a2,⟨h.k0,by have:=h.kb; omega,by omega,h.l⟩,hm,rfl,for_end (Go.by [.b false] (aa (show (0:Int)≤0 by decide) trivial) (fun _=>by kernel_rfl))⟩
 | l + 1,more,hm,hl,k,b,h,hb,a2,M,hM=>by
  obtain ⟨m,rfl⟩:∃ m,M=m + 20 + 1:=⟨M - 21,by omega⟩
  obtain ⟨z,hz,g⟩:=tb_bd (p:=p) (hs:=hs) (vs:=vs) (rows:=rows) (rw:=rw) (more:=more) (a:=a) (c:=c) (left:=left) (a2:=((a2 + 1:Nat):Int)) (b2:=b2) (l2:=(l:Int)) (y:=y) (m:=m) (N:=a2) h hr hw hm (by omega)
  have hm':∀ x ∈ more ++ [z],x ∈ setsV:=fun x hx=>(List.mem_append.mp hx).elim (hm x) fun q=>List.mem_singleton.mp q ▸ hz
  obtain ⟨k',more',a3,q1,q2,q3,g2⟩:=tb_more hr hw hb0 l (more ++ [z]) hm' (by rw [List.length_append,List.length_singleton]; omega) (k + 1) (b + 1) (h.step (by omega) (by omega)) (by omega) (a2 + 1) (m + 20) (by omega)
  refine ⟨k',more',a3,⟨q1.k0,by have:=q1.kb; omega,by omega,q1.l⟩,q2,by rw [q3,List.length_append,List.length_singleton]; omega,?_⟩
  have e:((l + 1:Nat):Int) - 1=(l:Int):=by omega
  have g1:Go (eNextOwn (forTgt (ifor p)) (.ref 17)) (t4 hs vs (ns.map AV.int) (rowsV rows) more k a c left a2 b2 (l + 1:Nat) (tn2 y (.lst rw))) (some (.int a2)) (t4 hs vs (ns.map AV.int) (rowsV rows) more k a c left ((a2 + 1:Nat):Int) b2 l (tn2 y (.lst rw))):=by
   rw [← e]
   exact Go.by [.cut [] (.int a2)] (aa (show (0:Int) < ((l + 1:Nat):Int) by omega) trivial) (fun _=>by kernel_rfl)
  refine for_turn g1 (σ₂:=t4 hs vs (ns.map AV.int) (rowsV rows) more k a c left ((a2 + 1:Nat):Int) b2 l (tn3 y (.lst rw) a2)) (Go.by [] trivial (fun _=>by kernel_rfl)) g (σ₄:=t4 hs vs (ns.map AV.int) (rowsV rows) (more ++ [z]) (k + 1) a c left ((a2 + 1:Nat):Int) b2 l (tn2 y (.lst rw))) ?_ g2
  exact Go.drop (N:=18) 11 ["place"] (und_t4 (by decide) (tn2_ok (by decide) hw) hr hm') (fun _=>by kernel_rfl)
theorem tb_app (hr:RowsOk rows) (h1:rw.length≤900) (h2:more.length≤900) (h3:rows.length≤900):Go (ONE p hs (m + 20) (tAe p) (nthS (forBody (tfor p)) 4)) (t4 hs vs (ns.map AV.int) (rowsV rows) more k a c left a2 b2 l2 (tn2 y (.lst rw))) .next
  (t4 hs vs (ns.map AV.int) (rowsV (rows ++ [(rw ++ more).take 4])) more k a c left a2 b2 l2 (tn2 y (.lst rw))):=by
 have e:rowsV (rows ++ [(rw ++ more).take 4])=rowsV rows ++ [.lst (pickG (rw ++ more) none (some (4:Int)))]:=by show List.map _ _=_; rw [List.map_append,show (4:Int)=((4:Nat):Int) from rfl,pickG_b]; rfl
 have n1:more.length≤M6:=Nat.le_trans h2 (by decide)
 have n2:(rw ++ more).length≤M6:=by rw [List.length_append]; unfold M6; omega
 have n3:(pickG (rw ++ more) none (some (4:Int))).length≤M6:=by rw [show (4:Int)=((4:Nat):Int) from rfl,pickG_b,List.length_take]; unfold M6; omega
 have n4:(rowsV rows).length≤M6:=by rw [List.length_map]; exact Nat.le_trans h3 (by decide)
 rw [e]
 exact Go.by [.norm,.norm] (aa n1 <| aa n2 <| aa n2 <| aa n3 <| aa n4 trivial) (fun _=>by kernel_rfl)
theorem tb_turn (h:TOk ns k b) (hr:RowsOk rows) (hl:rows.length≤3) (hb:b≤3900) (M:Nat) (hM:30≤M):∃ k' rows' σ,TOk ns k' (b + 6)∧RowsOk rows'∧rows'.length=rows.length + 1∧Go ((RN p hs M).exs (tAe p) (forBody (tfor p))) (t2 hs vs (ns.map AV.int) (rowsV rows) k a c left (tnT y)) .next σ ∧
  Go (eTidy 15) σ () (t2 hs vs (ns.map AV.int) (rowsV rows') k' a c left tn0):=by
 obtain ⟨m,rfl⟩:∃ m,M=m + 20 + 1:=⟨M - 21,by omega⟩
 obtain ⟨k1,rw,t1k,hw,hwl,g1⟩:=tb_head (p:=p) (hs:=hs) (vs:=vs) (a:=a) (c:=c) (left:=left) (y:=y) (m:=m) h hr (by omega) (by omega)
 have g2:Go (ONE p hs (m + 20) (tAe p) (nthS (forBody (tfor p)) 2)) (t2 hs vs (ns.map AV.int) (rowsV rows) k1 a c left (tn1 y (.lst rw))) .next (t3 hs vs (ns.map AV.int) (rowsV rows) [] k1 a c left (tn2 y (.lst rw))):=Go.by [.keep] (aa (show 0≤M6 by decide) trivial) (fun _=>by kernel_rfl)
 obtain ⟨v,v0,v1,g3⟩:=tb_it2 (p:=p) (hs:=hs) (vs:=vs) (a:=a) (c:=c) (left:=left) (y:=y) (m:=m) t1k hr hw
 obtain ⟨l,hl2⟩:=Int.eq_ofNat_of_zero_le (show 0≤1 + v by omega)
 have t1k':TOk ns (k1 + 1) (b + 3):=t1k.step (by omega) (by omega)
 obtain ⟨k2,more,a3,t2k,hm,hml,g4⟩:=tb_more (p:=p) (hs:=hs) (vs:=vs) (a:=a) (c:=c) (left:=left) (y:=y) (b2:=1 + v) hr hw rfl l [] noMem (by rw [List.length_nil]; omega) (k1 + 1) (b + 3) t1k' (by omega) 0 (m + 20) (by omega)
 rw [List.length_nil,Nat.zero_add] at hml
 rw [lf_eq (by omega)] at g3
 rw [← hl2] at g4
 have hml3:more.length≤3:=by omega
 have e3:ONE p hs (m + 20) (tAe p) (ifor p)=EM.bind ((RN p hs (m + 20)).ev (tAe p) (forIter (ifor p))) fun v=>EM.bind (eIterOf v) fun it=>(RN p hs (m + 20)).forl (tAe p) (forTgt (ifor p)) it (forBody (ifor p)):=by kernel_rfl
 have g34:=Go.for_ e3 g3 g4
 have g5:=tb_app (p:=p) (hs:=hs) (vs:=vs) (ns:=ns) (rows:=rows) (rw:=rw) (more:=more) (k:=k2) (a:=a) (c:=c) (left:=left) (a2:=a3) (b2:=1 + v) (l2:=0) (y:=y) (m:=m) hr (by omega) (by omega) (by omega)
 have hrow:RowOk ((rw ++ more).take 4):=⟨fun x hx=>(List.mem_append.mp (List.mem_of_mem_take hx)).elim (hw x) (hm x),by rw [List.length_take,List.length_append]; omega,by rw [List.length_take]; omega⟩
 have hr':RowsOk (rows ++ [(rw ++ more).take 4]):=fun r hx=>(List.mem_append.mp hx).elim (hr r) fun q=>List.mem_singleton.mp q ▸ hrow
 refine ⟨k2,rows ++ [(rw ++ more).take 4],t4 hs vs (ns.map AV.int) (rowsV (rows ++ [(rw ++ more).take 4])) more k2 a c left a3 (1 + v) 0 (tn2 y (.lst rw)),⟨t2k.k0,by have:=t2k.kb; omega,by omega,h.l⟩,hr',by rw [List.length_append,List.length_singleton],?_,?_⟩
 ·refine Go.exs ?_
  refine Go.eq (show eExecs (ONE p hs (m + 20) (tAe p)) (forBody (tfor p))=eExecs (ONE p hs (m + 20) (tAe p)) ((forBody (tfor p)).take 2 ++ [nthS (forBody (tfor p)) 2,ifor p,nthS (forBody (tfor p)) 4]) by kernel_rfl) ?_
  exact Go.app g1 (Go.cons g2 (Go.cons g34 (Go.stmt g5)))
 ·exact Go.drop 11 ["turn","head","more"] (und_t2 (by decide) (tn0_ok (by decide)) hr') (fun _=>by kernel_rfl)
theorem tb_loop:∀ (l:Nat) (rows:List (List AV)) (hr:RowsOk rows) (hl:rows.length + l≤4) (k b:Int) (h:TOk ns k b) (hb:b + 6 * l≤3900) (a:Nat) (M:Nat) (hM:31 + l≤M),
  ∃ k' rows' a',TOk ns k' (b + 6 * l)∧RowsOk rows'∧rows'.length=rows.length + l∧Go ((RN p hs M).forl (tAe p) (forTgt (tfor p)) (.ref 14) (forBody (tfor p))) (t2 hs vs (ns.map AV.int) (rowsV rows) k a c l tn0) .next (t2 hs vs (ns.map AV.int) (rowsV rows') k' a' c 0 tn0)
 | 0,rows,hr,hl,k,b,h,hb,a,M,hM=>by
  obtain ⟨m,rfl⟩:∃ m,M=m + 20 + 1:=⟨M - 21,by omega⟩
  exact ⟨k,rows,a,⟨h.k0,by have:=h.kb; omega,by omega,h.l⟩,hr,rfl,for_end (Go.by [.b false] (aa (show (0:Int)≤0 by decide) trivial) (fun _=>by kernel_rfl))⟩
 | l + 1,rows,hr,hl,k,b,h,hb,a,M,hM=>by
  obtain ⟨m,rfl⟩:∃ m,M=m + 20 + 1:=⟨M - 21,by omega⟩
  obtain ⟨k1,rows1,σ,h1,hr1,hl1,g1,g2⟩:=tb_turn (p:=p) (hs:=hs) (vs:=vs) (rows:=rows) (a:=((a + 1:Nat):Int)) (c:=c) (left:=(l:Int)) (y:=(a:Int)) h hr (by omega) (by omega) (m + 20) (by omega)
  obtain ⟨k',rows',a',h2,hr2,hl2,g3⟩:=tb_loop l rows1 hr1 (by omega) k1 (b + 6) h1 (by omega) (a + 1) (m + 20) (by omega)
  refine ⟨k',rows',a',⟨h2.k0,by have:=h2.kb; omega,by omega,h.l⟩,hr2,by omega,?_⟩
  have e:((l + 1:Nat):Int) - 1=(l:Int):=by omega
  have g0:Go (eNextOwn (forTgt (tfor p)) (.ref 14)) (t2 hs vs (ns.map AV.int) (rowsV rows) k a c (l + 1:Nat) tn0) (some (.int a)) (t2 hs vs (ns.map AV.int) (rowsV rows) k ((a + 1:Nat):Int) c l tn0):=by
   rw [← e]
   exact Go.by [.cut [] (.int a)] (aa (show (0:Int) < ((l + 1:Nat):Int) by omega) trivial) (fun _=>by kernel_rfl)
  exact for_turn g0 (σ₂:=t2 hs vs (ns.map AV.int) (rowsV rows) k ((a + 1:Nat):Int) c l (tnT a)) (Go.by [] trivial (fun _=>by kernel_rfl)) g1 g2 g3
theorem tb_call (h:TOk ns k 0) (m:Nat) (hm:60≤m):∃ k' rows,TOk ns k' 30∧RowsOk rows∧1≤rows.length∧rows.length≤4∧Go ((RN p hs m).call (.val (.ref 251)) [.ref 9] []) (l1 hs vs (ns.map AV.int) k) (.ref 12) (l2s hs vs (ns.map AV.int) (rowsV rows) k'):=by
 obtain ⟨m,rfl⟩:∃ m',m=m' + 22:=⟨m - 22,by omega⟩
 obtain ⟨v,v0,v1,g1⟩:=tb_iter (p:=p) (hs:=hs) (vs:=vs) (m:=m) h
 obtain ⟨l,hl⟩:=Int.eq_ofNat_of_zero_le (show 0≤1 + v by omega)
 obtain ⟨k',rows,a',h1,hr,hrl,g2⟩:=tb_loop (p:=p) (hs:=hs) (vs:=vs) (c:=1 + v) l [] (fun _ h=>nomatch h) (by rw [List.length_nil]; omega) (k + 1) 1 (h.step (by omega) (by omega)) (by omega) 0 (m + 20) (by omega)
 rw [lf_eq (by omega)] at g1
 rw [← hl] at g2
 have e1:ONE p hs (m + 20) (tAe p) (tfor p)=EM.bind ((RN p hs (m + 20)).ev (tAe p) (forIter (tfor p))) fun v=>EM.bind (eIterOf v) fun it=>(RN p hs (m + 20)).forl (tAe p) (forTgt (tfor p)) it (forBody (tfor p)):=by kernel_rfl
 rw [List.length_nil,Nat.zero_add] at hrl
 refine ⟨k',rows,⟨h1.k0,by have:=h1.kb; omega,by omega,h.l⟩,hr,by omega,by omega,?_⟩
 refine Go.eq (show (RN p hs (m + 22)).call (.val (.ref 251)) [.ref 9] []=eFn (RN p hs (m + 21)) (fnAt2 p 251) [.ref 9] [] by kernel_rfl) (Go.fn (ae:=tAe p) (σ1:=⟨12,(11,.ns [("tape",.ref 9)]) :: (l1 hs vs (ns.map AV.int) k).objs⟩) (by kernel_rfl) (binds:=[("tape",.ref 9)]) (by kernel_rfl) (Go.by [] trivial (fun _=>by kernel_rfl)) ?_)
 refine Go.bind (b:=.ret (.ref 12)) (σ':=t2 hs vs (ns.map AV.int) (rowsV rows) k' a' (1 + v) 0 tn0) (Go.exs ?_) (Go.rt (Go.by [.sel [12]] trivial (fun _=>by kernel_rfl)))
 refine Go.eq (show eExecs (ONE p hs (m + 20) (tAe p)) (fnAt2 p 251).body=eExecs (ONE p hs (m + 20) (tAe p)) [nthS (tblB p) 0,tfor p,nthS (tblB p) 2] by kernel_rfl) ?_
 refine Go.cons (σ':=t1 hs vs (ns.map AV.int) (rowsV []) k tn0) (Go.by [.keep] (aa (show 0≤M6 by decide) trivial) (fun _=>by kernel_rfl)) (Go.cons (Go.for_ e1 g1 g2) (Go.stmt (Go.by [] trivial (fun _=>by kernel_rfl))))
end
noncomputable abbrev LS (p:Params) (i:Nat):Stmt:=nthS (lawB p) i
noncomputable def tS (cs:List Nat):Str:=⟨cs.toArray⟩
theorem tS_app (cs:List Nat) (c:Nat):tS (cs ++ [c])=tS cs ++ (⟨#[c]⟩:Str):=by
 show (⟨_⟩:Str)=⟨cs.toArray ++ #[c]⟩
 simp [List.push_toArray]
theorem tS_len (cs:List Nat):(tS cs).length=cs.length:=List.size_toArray ..
noncomputable def nmA (x:Str):List (Str × AV):=[("script",.ref 0),("tape",.ref 9),("text",.str x)]
noncomputable def nmT (x:Str) (y:Int):List (Str × AV):=[("script",.ref 0),("tape",.ref 9),("text",.str x),("turn",.int y)]
noncomputable def nmB (x:Str) (w:Int) (e:List (Str × AV)):List (Str × AV):=("script",.ref 0) :: ("tape",.ref 9) :: ("text",.str x) :: ("wild",.int w) :: e
section
variable (hs:Str→Int) (vs:List Value)
noncomputable abbrev m0 (row rows:List AV) (k:Int) (nm:List (Str × AV)):St:=⟨15,(12,.list rows) :: (tapeC hs row k ++ (lawC nm (some (.ref 12)) none none none none ++ bot vs))⟩
noncomputable abbrev m1 (row rows:List AV) (k:Int) (nm:List (Str × AV)) (a b l:Int):St:=⟨17,(16,.rit a l 1) :: (15,.rng 0 b 1) :: (m0 hs vs row rows k nm).objs⟩
noncomputable abbrev m2 (row rows ah:List AV) (k:Int) (nm:List (Str × AV)) (a b:Int):St:=⟨18,(17,.list ah) :: (m1 hs vs row rows k nm a b 0).objs⟩
noncomputable abbrev m3 (row rows ah:List AV) (k:Int) (nm:List (Str × AV)) (a b a2 l2:Int):St:=⟨20,(19,.rit a2 l2 1) :: (18,.rng 0 13 1) :: (m2 hs vs row rows ah k nm a b).objs⟩
end
section
variable {p:Params} {hs:Str→Int} {vs:List Value} {ns:List Int} {rows:List (List AV)} {ah:List AV} {x:Str} {cs:List Nat} {k b a c w l a2 l2 y:Int} {m N:Nat} {nm e:List (Str × AV)} (h:TOk ns k b) (hr:RowsOk rows)
theorem und_m0 (hN:13≤N) (hn:NsOk N nm) (hr:RowsOk rows):UC N (m0 hs vs (ns.map AV.int) (rowsV rows) k nm).objs:=und_cons (und_list (CL.rows hr)) (und_tape (by omega) (und_law hn (.some (.ref (by omega))) .none .none .none .none und_bot))
theorem und_m1 (hN:13≤N) (hn:NsOk N nm) (hr:RowsOk rows):UC N (m1 hs vs (ns.map AV.int) (rowsV rows) k nm a c l).objs:=und_cons trivial (und_cons trivial (und_m0 hN hn hr))
theorem und_m2 (hN:13≤N) (hn:NsOk N nm) (hr:RowsOk rows) (ha:CL ah):UC N (m2 hs vs (ns.map AV.int) (rowsV rows) ah k nm a c).objs:=und_cons (und_list ha) (und_m1 hN hn hr)
theorem und_m3 (hN:13≤N) (hn:NsOk N nm) (hr:RowsOk rows) (ha:CL ah):UC N (m3 hs vs (ns.map AV.int) (rowsV rows) ah k nm a c a2 l2).objs:=und_cons trivial (und_cons trivial (und_m2 hN hn hr ha))
theorem nmA_ok (hN:13≤N):NsOk N (nmA x):=.cons (.ref (by omega)) (.cons (.ref (by omega)) (.cons (.str _) .nil))
theorem nmB_ok (hN:13≤N) (h:NsOk N e):NsOk N (nmB x w e):=.cons (.ref (by omega)) (.cons (.ref (by omega)) (.cons (.str _) (.cons (.int _) h)))
include h
theorem tx_iter (hr:RowsOk rows):∃ v,0≤v∧v < 11∧Go (EM.bind ((RN p hs (m + 20)).ev (lAe p) (forIter (LS p 3))) fun v=>eIterOf v) (m0 hs vs (ns.map AV.int) (rowsV rows) k (nmA x)) (.ref 16) (m1 hs vs (ns.map AV.int) (rowsV rows) (k + 1) (nmA x) 0 (2 + v) (lf (2 + v))):=by
 have u:∀ v,UV 15 (.int v) (m0 hs vs (ns.map AV.int) (rowsV rows) (k + 1) (nmA x)).objs:=fun v=>⟨.int _,und_m0 (by decide) (nmA_ok (by decide)) hr⟩
 exact num_ex (hs:=hs) h (by decide)
  (fun y cc h0 h1=>Go.by [.b true,.cut [] (.int y),.norm] (cc _ _ (u (y.fmod 11)) (aa (rg (b:=2 + y.fmod 11) (by omega) (by omega)) trivial)) (fun _=>by kernel_rfl))
  (fun cc h0 h1=>Go.by [.b false,.norm] (cc _ _ (u ((nF k).fmod 11)) (aa (rg (b:=2 + (nF k).fmod 11) (by omega) (by omega)) trivial)) (fun _=>by kernel_rfl))
theorem tx_bd (hr:RowsOk rows) (hl:cs.length≤900):∃ ch,ch ∈ [97,98,99]∧Go ((RN p hs (m + 20)).exs (lAe p) (forBody (LS p 3))) (m1 hs vs (ns.map AV.int) (rowsV rows) k (nmT (tS cs) N) a c l) .next (m1 hs vs (ns.map AV.int) (rowsV rows) (k + 1) (nmT (tS (cs ++ [ch])) N) a c l):=by
 have n0:NsOk 17 (nmT (tS cs) N):=.cons (.ref (by decide)) (.cons (.ref (by decide)) (.cons (.str _) (.cons (.int _) .nil)))
 have u:∀ v,UV 17 (.int v) (m1 hs vs (ns.map AV.int) (rowsV rows) (k + 1) (nmT (tS cs) N) a c l).objs:=fun v=>⟨.int _,und_m1 (by decide) n0 hr⟩
 have n1:∀ d,(tS cs).length + (⟨#[d]⟩:Str).length≤M6:=fun d=>by rw [tS_len]; show cs.length + 1≤M6; unfold M6; omega
 have n2:∀ v:Int,0≤v→v < 3→(#[97,98,99]:Array Nat)[v.toNat]! ∈ [97,98,99]:=fun v h0 h1=>by
  rcases (by omega:v=0 ∨ v=1 ∨ v=2) with rfl | rfl | rfl <;> decide
 have:=num_ex (hs:=hs) (s:=3) h (by decide) (P:=fun v=>∃ ch,ch ∈ [97,98,99]∧Go ((RN p hs (m + 20)).exs (lAe p) (forBody (LS p 3))) (m1 hs vs (ns.map AV.int) (rowsV rows) k (nmT (tS cs) N) a c l) .next (m1 hs vs (ns.map AV.int) (rowsV rows) (k + 1) (nmT (tS (cs ++ [ch])) N) a c l))
  (fun y cc h0 h1=>⟨_,n2 _ h0 h1,by rw [tS_app]; exact Go.by [.b true,.cut [] (.int y),.norm] (cc _ _ (u (y.fmod 3)) (aa (show 0≤y.fmod 3∧y.fmod 3 < 3∧3≤M6 from ⟨h0,h1,by decide⟩) <| aa (n1 ((#[97,98,99]:Array Nat)[(y.fmod 3).toNat]!)) trivial)) (fun _=>by kernel_rfl)⟩)
  (fun cc h0 h1=>⟨_,n2 _ h0 h1,by rw [tS_app]; exact Go.by [.b false,.norm] (cc _ _ (u ((nF k).fmod 3)) (aa (show 0≤(nF k).fmod 3∧(nF k).fmod 3 < 3∧3≤M6 from ⟨h0,h1,by decide⟩) <| aa (n1 ((#[97,98,99]:Array Nat)[((nF k).fmod 3).toNat]!)) trivial)) (fun _=>by kernel_rfl)⟩)
 exact this.elim fun _ q=>q.2.2
theorem wild_go (hr:RowsOk rows):∃ v,0≤v∧v < 50∧Go (ONE p hs (m + 20) (lAe p) (LS p 4)) (m1 hs vs (ns.map AV.int) (rowsV rows) k (nmA x) a c 0) .next (m1 hs vs (ns.map AV.int) (rowsV rows) (k + 1) (nmB x v []) a c 0):=by
 have u:∀ v,UV 17 (.int v) (m1 hs vs (ns.map AV.int) (rowsV rows) (k + 1) (nmA x) a c 0).objs:=fun v=>⟨.int _,und_m1 (by decide) (nmA_ok (by decide)) hr⟩
 exact num_ex (hs:=hs) h (by decide)
  (fun y cc h0 h1=>Go.by [.b true,.cut [] (.int y),.norm] (cc _ _ (u (y.fmod 50)) trivial) (fun _=>by kernel_rfl))
  (fun cc h0 h1=>Go.by [.b false,.norm] (cc _ _ (u ((nF k).fmod 50)) trivial) (fun _=>by kernel_rfl))
theorem ah_bd (hr:RowsOk rows) (ha:CL ah) (hl:ah.length≤900):∃ q,Go ((RN p hs (m + 20)).exs (lAe p) (forBody (LS p 6))) (m3 hs vs (ns.map AV.int) (rowsV rows) ah k (nmB x w [("aheads",.ref 17),("turn",.int N)]) a c a2 l2) .next
  (m3 hs vs (ns.map AV.int) (rowsV rows) (ah ++ [.bool q]) (k + 1) (nmB x w [("aheads",.ref 17),("turn",.int N)]) a c a2 l2):=by
 have u:∀ v,UV 20 (.int v) (m3 hs vs (ns.map AV.int) (rowsV rows) ah (k + 1) (nmB x w [("aheads",.ref 17),("turn",.int N)]) a c a2 l2).objs:=fun v=>⟨.int _,und_m3 (by decide) (nmB_ok (by decide) (.cons (.ref (by decide)) (.cons (.int _) .nil))) hr ha⟩
 have n1:ah.length≤M6:=Nat.le_trans hl (by decide)
 have:=num_ex (hs:=hs) (s:=4) h (by decide) (P:=fun v=>Go ((RN p hs (m + 20)).exs (lAe p) (forBody (LS p 6))) (m3 hs vs (ns.map AV.int) (rowsV rows) ah k (nmB x w [("aheads",.ref 17),("turn",.int N)]) a c a2 l2) .next
   (m3 hs vs (ns.map AV.int) (rowsV rows) (ah ++ [.bool (v == 0)]) (k + 1) (nmB x w [("aheads",.ref 17),("turn",.int N)]) a c a2 l2))
  (fun y cc h0 h1=>Go.by [.b true,.cut [] (.int y),.norm] (cc _ _ (u (y.fmod 4)) (aa n1 trivial)) (fun _=>by kernel_rfl))
  (fun cc h0 h1=>Go.by [.b false,.norm] (cc _ _ (u ((nF k).fmod 4)) (aa n1 trivial)) (fun _=>by kernel_rfl))
 exact this.elim fun v q=>⟨_,q.2.2⟩
end
section
variable {p:Params} {hs:Str→Int} {vs:List Value} {ns:List Int} {rows:List (List AV)} {a c w:Int} {x:Str}
theorem tx_loop (hr:RowsOk rows):∀ (l:Nat) (cs:List Nat) (hc:∀ d ∈ cs,d ∈ [97,98,99]) (hl:cs.length + l≤900) (k b:Int) (h:TOk ns k b) (hb:b + l≤4000) (a:Nat) (M:Nat) (hM:21 + l≤M),
  ∃ k' cs' a',TOk ns k' (b + l)∧(∀ d ∈ cs',d ∈ [97,98,99])∧cs'.length=cs.length + l∧Go ((RN p hs M).forl (lAe p) (forTgt (LS p 3)) (.ref 16) (forBody (LS p 3))) (m1 hs vs (ns.map AV.int) (rowsV rows) k (nmA (tS cs)) a c l) .next (m1 hs vs (ns.map AV.int) (rowsV rows) k' (nmA (tS cs')) a' c 0)
 | 0,cs,hc,hl,k,b,h,hb,a,M,hM=>by
  obtain ⟨m,rfl⟩:∃ m,M=m + 20 + 1:=⟨M - 21,by omega⟩
  exact ⟨k,cs,a,⟨h.k0,by have:=h.kb; omega,by omega,h.l⟩,hc,rfl,for_end (Go.by [.b false] (aa (show (0:Int)≤0 by decide) trivial) (fun _=>by kernel_rfl))⟩
 | l + 1,cs,hc,hl,k,b,h,hb,a,M,hM=>by
  obtain ⟨m,rfl⟩:∃ m,M=m + 20 + 1:=⟨M - 21,by omega⟩
  obtain ⟨ch,hch,g⟩:=tx_bd (p:=p) (hs:=hs) (vs:=vs) (cs:=cs) (a:=((a + 1:Nat):Int)) (c:=c) (l:=(l:Int)) (m:=m) (N:=a) h hr (by omega)
  obtain ⟨k',cs',a',q1,q2,q3,g2⟩:=tx_loop hr l (cs ++ [ch]) (fun d hd=>(List.mem_append.mp hd).elim (hc d) fun q=>List.mem_singleton.mp q ▸ hch) (by rw [List.length_append,List.length_singleton]; omega) (k + 1) (b + 1) (h.step (by omega) (by omega)) (by omega) (a + 1) (m + 20) (by omega)
  refine ⟨k',cs',a',⟨q1.k0,by have:=q1.kb; omega,by omega,q1.l⟩,q2,by rw [q3,List.length_append,List.length_singleton]; omega,?_⟩
  have e:((l + 1:Nat):Int) - 1=(l:Int):=by omega
  have g1:Go (eNextOwn (forTgt (LS p 3)) (.ref 16)) (m1 hs vs (ns.map AV.int) (rowsV rows) k (nmA (tS cs)) a c (l + 1:Nat)) (some (.int a)) (m1 hs vs (ns.map AV.int) (rowsV rows) k (nmA (tS cs)) ((a + 1:Nat):Int) c l):=by
   rw [← e]
   exact Go.by [.cut [] (.int a)] (aa (show (0:Int) < ((l + 1:Nat):Int) by omega) trivial) (fun _=>by kernel_rfl)
  refine for_turn g1 (σ₂:=m1 hs vs (ns.map AV.int) (rowsV rows) k (nmT (tS cs) a) ((a + 1:Nat):Int) c l) (Go.by [] trivial (fun _=>by kernel_rfl)) g (σ₄:=m1 hs vs (ns.map AV.int) (rowsV rows) (k + 1) (nmA (tS (cs ++ [ch]))) ((a + 1:Nat):Int) c l) ?_ g2
  exact Go.drop (N:=17) 3 ["turn"] (und_m1 (by decide) (nmA_ok (by decide)) hr) (fun _=>by kernel_rfl)
noncomputable abbrev boolsV (bs:List Bool):List AV:=bs.map AV.bool
theorem CL.bools (bs:List Bool):CL (boolsV bs):=⟨fun x hx N=>by
 obtain ⟨r,hr,rfl⟩:=List.mem_map.mp hx
 exact .bool _⟩
theorem ah_loop (hr:RowsOk rows):∀ (l:Nat) (bs:List Bool) (hl:bs.length + l≤900) (k b:Int) (h:TOk ns k b) (hb:b + l≤4000) (a2:Nat) (M:Nat) (hM:21 + l≤M),
  ∃ k' bs' a3,TOk ns k' (b + l)∧bs'.length=bs.length + l∧Go ((RN p hs M).forl (lAe p) (forTgt (LS p 6)) (.ref 19) (forBody (LS p 6))) (m3 hs vs (ns.map AV.int) (rowsV rows) (boolsV bs) k (nmB x w [("aheads",.ref 17)]) a c a2 l) .next (m3 hs vs (ns.map AV.int) (rowsV rows) (boolsV bs') k' (nmB x w [("aheads",.ref 17)]) a c a3 0)
 | 0,bs,hl,k,b,h,hb,a2,M,hM=>by
  obtain ⟨m,rfl⟩:∃ m,M=m + 20 + 1:=⟨M - 21,by omega⟩
  exact ⟨k,bs,a2,⟨h.k0,by have:=h.kb; omega,by omega,h.l⟩,rfl,for_end (Go.by [.b false] (aa (show (0:Int)≤0 by decide) trivial) (fun _=>by kernel_rfl))⟩
 | l + 1,bs,hl,k,b,h,hb,a2,M,hM=>by
  obtain ⟨m,rfl⟩:∃ m,M=m + 20 + 1:=⟨M - 21,by omega⟩
  obtain ⟨q,g⟩:=ah_bd (p:=p) (hs:=hs) (vs:=vs) (ah:=boolsV bs) (x:=x) (w:=w) (a:=a) (c:=c) (a2:=((a2 + 1:Nat):Int)) (l2:=(l:Int)) (m:=m) (N:=a2) h hr (CL.bools bs) (by rw [List.length_map]; omega)
  rw [show boolsV bs ++ [AV.bool q]=boolsV (bs ++ [q]) by show _=List.map _ _; rw [List.map_append]; rfl] at g
  obtain ⟨k',bs',a3,q1,q3,g2⟩:=ah_loop hr l (bs ++ [q]) (by rw [List.length_append,List.length_singleton]; omega) (k + 1) (b + 1) (h.step (by omega) (by omega)) (by omega) (a2 + 1) (m + 20) (by omega)
  refine ⟨k',bs',a3,⟨q1.k0,by have:=q1.kb; omega,by omega,q1.l⟩,by rw [q3,List.length_append,List.length_singleton]; omega,?_⟩
  have e:((l + 1:Nat):Int) - 1=(l:Int):=by omega
  have g1:Go (eNextOwn (forTgt (LS p 6)) (.ref 19)) (m3 hs vs (ns.map AV.int) (rowsV rows) (boolsV bs) k (nmB x w [("aheads",.ref 17)]) a c a2 (l + 1:Nat)) (some (.int a2)) (m3 hs vs (ns.map AV.int) (rowsV rows) (boolsV bs) k (nmB x w [("aheads",.ref 17)]) a c ((a2 + 1:Nat):Int) l):=by
   rw [← e]
   exact Go.by [.cut [] (.int a2)] (aa (show (0:Int) < ((l + 1:Nat):Int) by omega) trivial) (fun _=>by kernel_rfl)
  refine for_turn g1 (σ₂:=m3 hs vs (ns.map AV.int) (rowsV rows) (boolsV bs) k (nmB x w [("aheads",.ref 17),("turn",.int a2)]) a c ((a2 + 1:Nat):Int) l) (Go.by [] trivial (fun _=>by kernel_rfl)) g (σ₄:=m3 hs vs (ns.map AV.int) (rowsV rows) (boolsV (bs ++ [q])) (k + 1) (nmB x w [("aheads",.ref 17)]) a c ((a2 + 1:Nat):Int) l) ?_ g2
  exact Go.drop (N:=20) 3 ["turn"] (und_m3 (by decide) (nmB_ok (by decide) (.cons (.ref (by decide)) .nil)) hr (CL.bools _)) (fun _=>by kernel_rfl)
end
structure Sg where
 i:Nat
 d:Nat
section
variable (w:Int) (i:Nat)
noncomputable abbrev fS:Str:="f" ++ Str.ofString (toString (((i:Int) * i + w).fmod 3))
noncomputable abbrev rI:Int:=((i:Int) * 5 + w).fmod 13
noncomputable abbrev cI:Int:=((i:Int) * 11 + w).fmod 17
noncomputable abbrev lcA:AV:=.slo 79 [.int (cI w i),.str (fS w i),.int 1,.int (rI w i),.val .none]
end
noncomputable def Sg.chr (w:Int) (s:Sg):AV:=.obj 138 [("char",.str ⟨#[s.d]⟩),("loc",lcA w s.i)]
noncomputable def chs (w:Int) (l:List Sg):List AV:=l.map (Sg.chr w)
theorem chs_len {w:Int} (l:List Sg):(chs w l).length=l.length:=List.length_map ..
theorem chs_app {w:Int} (l l':List Sg):chs w (l ++ l')=chs w l ++ chs w l':=List.map_append ..
theorem clL {w:Int} {i:Nat}:∀ N,Und N (lcA w i):=CL.slo (.cons (fun _=>.int _) (.cons (fun _=>.str _) (.cons (fun _=>.int _) (.cons (fun _=>.int _) (.cons (fun _=>.val _) .nil)))))
theorem clo_chr {w:Int} (s:Sg) (N:Nat):Und N (s.chr w):=.obj fun q hq=>by
 rcases List.mem_cons.mp hq with rfl | hq
 ·exact .str _
 ·rcases List.mem_cons.mp hq with rfl | hq
  ·exact clL _
  ·nomatch hq
theorem cl_chs {w:Int} (l:List Sg):CL (chs w l):=⟨fun x hx N=>by
 obtain ⟨s,_,rfl⟩:=List.mem_map.mp hx
 exact clo_chr _ _⟩
noncomputable def numS:Nat→List Nat→List Sg
 | _,[]=>[]
 | i,d :: cs=>⟨i,d⟩ :: numS (i + 1) cs
theorem numS_app:∀ (i:Nat) (a b:List Nat),numS i (a ++ b)=numS i a ++ numS (i + a.length) b
 | i,[],b=>rfl
 | i,d :: a,b=>by
  show _ :: numS (i + 1) (a ++ b)=_ :: (numS (i + 1) a ++ _)
  rw [numS_app (i + 1) a b,List.length_cons,show i + 1 + a.length=i + (a.length + 1) by omega]
theorem numS_len:∀ (i:Nat) (a:List Nat),(numS i a).length=a.length
 | _,[]=>rfl
 | i,_ :: a=>congrArg (· + 1) (numS_len (i + 1) a)
theorem numS_d:∀ (i:Nat) (a:List Nat),(numS i a).map (·.d)=a
 | _,[]=>rfl
 | i,d :: a=>congrArg (d :: ·) (numS_d (i + 1) a)
theorem mul_small {a b:Int} (h0:0≤a) (h1:a≤5001):IntMulOk a b:=.of_left (bits_small h0 h1)
theorem f_len {w:Int} {i:Nat}:(Str.ofString "f").length + (Str.ofString (toString (((i:Int) * i + w).fmod 3))).length≤M6:=by
 have h0:=Int.fmod_nonneg_of_pos ((i:Int) * i + w) (show (0:Int) < 3 by decide)
 have h1:=Int.fmod_lt_of_pos ((i:Int) * i + w) (show (0:Int) < 3 by decide)
 generalize ((i:Int) * i + w).fmod 3=v at h0 h1
 rcases (by omega:v=0 ∨ v=1 ∨ v=2) with rfl | rfl | rfl <;> decide +kernel
theorem f_num {w:Int} {i:Nat}:0≤((i:Int) * i + w).fmod 3∧((i:Int) * i + w).fmod 3 < 9223372036854775808:=by
 have h0:=Int.fmod_nonneg_of_pos ((i:Int) * i + w) (show (0:Int) < 3 by decide)
 have h1:=Int.fmod_lt_of_pos ((i:Int) * i + w) (show (0:Int) < 3 by decide)
 omega
noncomputable abbrev wn (x:AV) (k:Int):Prop:=0≤k∧k < 1000000∧some x=some x
noncomputable def sgN (c:Str) (i:Nat):List (Str × AV):=[("aheads",.ref 17),("signs",.ref 20),("at",.int i),("sign",.str c)]
noncomputable def whA (w:Int) (i:Nat):AV:=.tup [.str (fS w i),.int (rI w i),.int (cI w i)]
noncomputable def sgM (c:Str) (w:Int) (i:Nat):List (Str × AV):=[("aheads",.ref 17),("signs",.ref 20),("at",.int i),("sign",.str c),("where",whA w i)]
noncomputable def sg0:List (Str × AV):=[("aheads",.ref 17),("signs",.ref 20)]
section
variable (hs:Str→Int) (vs:List Value) (row rows ah sg:List AV) (k:Int) (nm:List (Str × AV)) (a b a2:Int)
noncomputable abbrev m4:St:=⟨21,(20,.list sg) :: (m3 hs vs row rows ah k nm a b a2 0).objs⟩
noncomputable abbrev m5 (it:Cell) (j:Nat):St:=⟨23,(22,.enum 21 j) :: (21,it) :: (m4 hs vs row rows ah sg k nm a b a2).objs⟩
end
section
variable {p:Params} {hs:Str→Int} {vs:List Value} {ns:List Int} {rows:List (List AV)} {ah sg:List AV} {x:Str} {cs:List Nat} {k b a c w l a2 y:Int} {m N i j d:Nat} {nm e:List (Str × AV)} {it:Cell}
theorem und_m4 (hN:13≤N) (hn:NsOk N nm) (hr:RowsOk rows) (ha:CL ah) (hg:CL sg):UC N (m4 hs vs (ns.map AV.int) (rowsV rows) ah sg k nm a c a2).objs:=und_cons (und_list hg) (und_m3 hN hn hr ha)
theorem und_m5 (hN:22≤N) (hn:NsOk N nm) (hr:RowsOk rows) (ha:CL ah) (hg:CL sg) (hi:UndC N it):UC N (m5 hs vs (ns.map AV.int) (rowsV rows) ah sg k nm a c a2 it j).objs:=und_cons (show 21 < N by omega) (und_cons hi (und_m4 (by omega) hn hr ha hg))
theorem sg0_ok (hN:21≤N):NsOk N sg0:=.cons (.ref (by omega)) (.cons (.ref (by omega)) .nil)
theorem sgN_ok (hN:21≤N):NsOk N (sgN x i):=.cons (.ref (by omega)) (.cons (.ref (by omega)) (.cons (.int _) (.cons (.str _) .nil)))
theorem wh_und:Und N (whA w i):=CL.tup (.cons (fun _=>.str _) (.cons (fun _=>.int _) (.cons (fun _=>.int _) .nil))) N
theorem sgM_ok (hN:21≤N):NsOk N (sgM x w i):=.cons (.ref (by omega)) (.cons (.ref (by omega)) (.cons (.int _) (.cons (.str _) (.cons wh_und .nil))))
noncomputable abbrev l3 (P:Prop):Prop:=(23≤24∧23≤23∧23≤25)∧P
theorem l3i {P:Prop} (h:P):l3 P:=⟨by decide,h⟩
theorem sg_bd (hr:RowsOk rows) (ha:CL ah) (hg:CL sg) (hl:sg.length≤900) (hi:i≤900):Go ((RN p hs (m + 20)).exs (lAe p) (forBody (LS p 8))) (m5 hs vs (ns.map AV.int) (rowsV rows) ah sg k (nmB x w (sgN ⟨#[d]⟩ i)) a c a2 (.sit x j) j) .next
  (m5 hs vs (ns.map AV.int) (rowsV rows) ah (sg ++ [(Sg.mk i d).chr w]) k (nmB x w (sgM ⟨#[d]⟩ w i)) a c a2 (.sit x j) j):=by
 have u1:∀ {N},22≤N→UC N (m5 hs vs (ns.map AV.int) (rowsV rows) ah sg k (nmB x w (sgN ⟨#[d]⟩ i)) a c a2 (.sit x j) j).objs:=fun h=>und_m5 h (nmB_ok (by omega) (sgN_ok (by omega))) hr ha hg trivial
 have u2:∀ {N},22≤N→UC N (m5 hs vs (ns.map AV.int) (rowsV rows) ah sg k (nmB x w (sgM ⟨#[d]⟩ w i)) a c a2 (.sit x j) j).objs:=fun h=>und_m5 h (nmB_ok (by omega) (sgM_ok (by omega))) hr ha hg trivial
 have c1:UV 23 (whA w i) (m5 hs vs (ns.map AV.int) (rowsV rows) ah sg k (nmB x w (sgN ⟨#[d]⟩ i)) a c a2 (.sit x j) j).objs:=⟨wh_und,u1 (by decide)⟩
 have c2:UV 25 (.val .none) ((24,.sinst 79 23 [some (.int (cI w i)),some (.str (fS w i)),some (.int 1),some (.int (rI w i)),some (.val .none)]) :: (23,.dict []) :: (m5 hs vs (ns.map AV.int) (rowsV rows) ah sg k (nmB x w (sgM ⟨#[d]⟩ w i)) a c a2 (.sit x j) j).objs) :=
  ⟨.val _,und_cons (und_sinstC (by decide) (.cons (fun _=>.int _) (.cons (fun _=>.str _) (.cons (fun _=>.int _) (.cons (fun _=>.int _) (.cons (fun _=>.val _) .nil)))))) (und_cons (und_dict .nil) (u2 (by decide)))⟩
 have c3:l3 (UV 23 (lcA w i) (m5 hs vs (ns.map AV.int) (rowsV rows) ah sg k (nmB x w (sgM ⟨#[d]⟩ w i)) a c a2 (.sit x j) j).objs):=l3i ⟨clL _,u2 (by decide)⟩
 have c4:UV 25 (.val .none) ((24,.inst 138 23) :: (23,.dict [("char",.str ⟨#[d]⟩),("loc",lcA w i)]) :: (m5 hs vs (ns.map AV.int) (rowsV rows) ah sg k (nmB x w (sgM ⟨#[d]⟩ w i)) a c a2 (.sit x j) j).objs) :=
  ⟨.val _,und_cons (show 23 < 25 by decide) (und_cons (und_dict (.cons (.str _) (.cons (clL _) .nil))) (u2 (by decide)))⟩
 have c5:l3 (UV 23 ((Sg.mk i d).chr w) (m5 hs vs (ns.map AV.int) (rowsV rows) ah sg k (nmB x w (sgM ⟨#[d]⟩ w i)) a c a2 (.sit x j) j).objs):=l3i ⟨clo_chr _ _,u2 (by decide)⟩
 exact Go.by [.norm,.cut [] (.str (fS w i)),.cut [] (.int (rI w i)),.cut [] (.int (cI w i)),.norm,.norm,.norm,.norm]
  (aa (mul_small (a:=(i:Int)) (b:=(i:Int)) (by omega) (by omega)) <| aa (show (3:Int) ≠ 0 by decide) <| aa (f_num (w:=w) (i:=i)) <| aa (f_len (w:=w) (i:=i)) <| aa (mul_small (a:=(i:Int)) (b:=5) (by omega) (by omega)) <| aa (show (13:Int) ≠ 0 by decide) <| aa (mul_small (a:=(i:Int)) (b:=11) (by omega) (by omega)) <|
   aa (show (17:Int) ≠ 0 by decide) <| aa (show 3≤M6 by decide) <| aa c1 <| aa (show wn (.str (fS w i)) 0 from ⟨by decide,by decide,rfl⟩) <| aa (show wn (.int (rI w i)) 1 from ⟨by decide,by decide,rfl⟩) <| aa (show wn (.int (cI w i)) 2 from ⟨by decide,by decide,rfl⟩) <|
   aa c2 <| aa c3 <| aa (show 0≤100 by decide) <| aa (show 1≤100 by decide) <| aa c4 <| aa c5 <| aa (show sg.length≤M6 from Nat.le_trans hl (by decide)) trivial) (fun _=>by kernel_rfl)
end
section
variable {tgt:PySem.Expr} {σ σ':St} {i j l k:Nat} {xs:List AV} {y:AV} {x:Str}
theorem goSit (h0:isTup tgt=true) (h1:σ.get i=some (.enum j k)) (h2:σ.get j=some (.sit x k)) (h:(x.cps[k]?).map (fun c=>AV.str ⟨#[c]⟩)=some y) (e:(σ.set j (.sit x (k + 1))).set i (.enum j (k + 1))=σ'):Go (eNextOwn tgt (.ref i)) σ (some (.tup [.int k,y])) σ':=e ▸ Go.of [.cut [] y] (fun ds=>next_sit h0 h1 h2) ⟨h,trivial⟩
theorem goSitE (h0:isTup tgt=true) (h1:σ.get i=some (.enum j k)) (h2:σ.get j=some (.sit x k)) (h:x.cps[k]? = none) (e:σ.set j .any=σ'):Go (eNextOwn tgt (.ref i)) σ none σ':=e ▸ Go.of [.b false] (fun ds=>end_sit h0 h1 h2) ⟨h,trivial⟩
theorem goEn (h0:isTup tgt=true) (h1:σ.get i=some (.enum j k)) (h2:σ.get j=some (.wl l k)) (h3:σ.get l=some (.list xs)) (h:xs[k]? = some y) (e:(σ.set j (.wl l (k + 1))).set i (.enum j (k + 1))=σ'):Go (eNextOwn tgt (.ref i)) σ (some (.tup [.int k,y])) σ':=e ▸ Go.of [.cut [] y] (fun ds=>next_enum h0 h1 h2 h3) ⟨h,trivial⟩
theorem goEnE (h0:isTup tgt=true) (h1:σ.get i=some (.enum j k)) (h2:σ.get j=some (.wl l k)) (h3:σ.get l=some (.list xs)) (h:xs[k]? = none) (e:σ.set j .any=σ'):Go (eNextOwn tgt (.ref i)) σ none σ':=e ▸ Go.of [.b false] (fun ds=>end_enum h0 h1 h2 h3) ⟨h,trivial⟩
theorem goFit (h0:isTup tgt=true) (h1:σ.get i=some (.enum j k)) (h2:σ.get j=some (.fit xs k)) (h:xs[k]? = some y) (e:(σ.set j (.fit xs (k + 1))).set i (.enum j (k + 1))=σ'):Go (eNextOwn tgt (.ref i)) σ (some (.tup [.int k,y])) σ':=e ▸ Go.of [.cut [] y] (fun ds=>next_fitE h0 h1 h2) ⟨h,trivial⟩
theorem goFitE (h0:isTup tgt=true) (h1:σ.get i=some (.enum j k)) (h2:σ.get j=some (.fit xs k)) (h:xs[k]? = none) (e:σ.set j .any=σ'):Go (eNextOwn tgt (.ref i)) σ none σ':=e ▸ Go.of [.b false] (fun ds=>end_fitE h0 h1 h2) ⟨h,trivial⟩
end
section
variable {p:Params} {hs:Str→Int} {vs:List Value} {ns:List Int} {rows:List (List AV)} {ah:List AV} {cs:List Nat} {k a c w a2:Int}
theorem sg_loop (hr:RowsOk rows) (ha:CL ah) (hc:cs.length≤900):∀ (rest done:List Nat) (hcs:cs=done ++ rest) (M:Nat) (hM:21 + rest.length≤M),
  ∃ j,Go ((RN p hs M).forl (lAe p) (forTgt (LS p 8)) (.ref 22) (forBody (LS p 8))) (m5 hs vs (ns.map AV.int) (rowsV rows) ah (chs w (numS 0 done)) k (nmB (tS cs) w sg0) a c a2 (.sit (tS cs) done.length) done.length) .next
   (m5 hs vs (ns.map AV.int) (rowsV rows) ah (chs w (numS 0 cs)) k (nmB (tS cs) w sg0) a c a2 .any j)
 | [],done,hcs,M,hM=>by
  obtain ⟨m,rfl⟩:∃ m,M=m + 20 + 1:=⟨M - 21,by omega⟩
  rw [List.append_nil] at hcs
  subst hcs
  exact ⟨cs.length,for_end (goSitE (j:=21) (x:=tS cs) (k:=cs.length) (by kernel_rfl) (by kernel_rfl) (by kernel_rfl) (by show cs.toArray[cs.length]? = none; simp) (by kernel_rfl))⟩
 | d :: rest,done,hcs,M,hM=>by
  obtain ⟨m,rfl⟩:∃ m,M=m + 20 + 1:=⟨M - 21,by omega⟩
  have hl:done.length + (rest.length + 1)≤900:=by rw [hcs,List.length_append] at hc; exact hc
  obtain ⟨j,g2⟩:=sg_loop hr ha hc rest (done ++ [d]) (by rw [hcs]; simp) (m + 20) (by rw [List.length_cons] at hM; omega)
  refine ⟨j,?_⟩
  have e:chs w (numS 0 (done ++ [d]))=chs w (numS 0 done) ++ [(Sg.mk done.length d).chr w]:=by rw [numS_app,chs_app,Nat.zero_add]; rfl
  rw [e,List.length_append,List.length_singleton] at g2
  have hsl:(chs w (numS 0 done)).length≤900:=by rw [chs_len,numS_len]; omega
  have g1:Go (eNextOwn (forTgt (LS p 8)) (.ref 22)) (m5 hs vs (ns.map AV.int) (rowsV rows) ah (chs w (numS 0 done)) k (nmB (tS cs) w sg0) a c a2 (.sit (tS cs) done.length) done.length) (some (.tup [.int done.length,.str ⟨#[d]⟩]))
    (m5 hs vs (ns.map AV.int) (rowsV rows) ah (chs w (numS 0 done)) k (nmB (tS cs) w sg0) a c a2 (.sit (tS cs) (done.length + 1)) (done.length + 1)) :=
   goSit (j:=21) (x:=tS cs) (by kernel_rfl) (by kernel_rfl) (by kernel_rfl) (by show (cs.toArray[done.length]?).map _=_; rw [hcs]; simp) (by kernel_rfl)
  refine for_turn g1 (σ₂:=m5 hs vs (ns.map AV.int) (rowsV rows) ah (chs w (numS 0 done)) k (nmB (tS cs) w (sgN ⟨#[d]⟩ done.length)) a c a2 (.sit (tS cs) (done.length + 1)) (done.length + 1)) (Go.by [] trivial (fun _=>by kernel_rfl))
   (sg_bd (m:=m) hr ha (cl_chs _) hsl (by omega)) ?_ g2
  exact Go.drop (N:=23) 3 ["at","sign","where"] (und_m5 (by decide) (nmB_ok (by decide) (sg0_ok (by decide))) hr ha ((cl_chs _).app (CL.cons (clo_chr _) CL.nil)) trivial) (fun _=>by kernel_rfl)
end
noncomputable def askV (p:Params):AV:=.clo "ask" (fdArgs (LS p 11)) (fdBody (LS p 11)) (fdScope (LS p 11)) [("table",8),("left",7),("heard",6),("h",5),("ask",4)]
structure G2 where
 hs:Str→Int
 vs:List Value
 ns:List Int
 rows:List (List AV)
 bs:List Bool
 cs:List Nat
 w:Int
 k:Int
 a:Int
 b:Int
 a2:Int
 j:Nat
structure GOk (g:G2):Prop where
 hr:RowsOk g.rows
 r1:1≤g.rows.length
 rl:g.rows.length≤4
 cl:g.cs.length≤20
 bl:g.bs.length=13
 ab:∀ d ∈ g.cs,d ∈ [97,98,99]
structure T2 where
 it:Cell
 got:List AV
 heard:List AV
 left:List AV
 ct:List AV
 pb:List AV
 tb:List AV
noncomputable def sgG (g:G2):List AV:=chs g.w (numS 0 g.cs)
noncomputable def botA (vs:List Value):List (Nat × Cell):=[(2,.tab 184 #[] none),(1,.tab 274 #[] (some [(177,4)])),(0,.raw (lstO vs))]
noncomputable def oldC (p:Params) (g:G2) (lf hd h ak:Option AV) (bt:List (Nat × Cell)) (nm:List (Str × AV)):List (Nat × Cell) :=
 (22,.enum 21 g.j) :: (21,.any) :: (20,.list (sgG g)) :: (19,.rit g.a2 0 1) :: (18,.rng 0 13 1) :: (17,.list (boolsV g.bs)) :: (16,.rit g.a 0 1) :: (15,.rng 0 g.b 1) :: (12,.list (rowsV g.rows)) ::
 (tapeC g.hs (g.ns.map AV.int) g.k ++ (lawC nm (some (.ref 12)) lf hd h ak ++ bt))
noncomputable def hd0:List (Str × AV):=[("token_buffer",.ref 26),("pushed_back",.ref 27),("current_text",.ref 28)]
noncomputable def hd1:List (Str × AV):=[("token_buffer",.ref 26),("pushed_back",.ref 27),("current_text",.ref 28),("characters",.ref 31)]
noncomputable abbrev nmL (g:G2):List (Str × AV):=nmB (tS g.cs) g.w sg0
section
variable (p:Params) (g:G2)
noncomputable def lexC (nm:List (Str × AV)) (hd:List (Str × AV)) (t:T2):List (Nat × Cell) :=
 (30,.list t.heard) :: (29,.list t.left) :: (28,.list t.ct) :: (27,.list t.pb) :: (26,.list t.tb) :: (24,.inst 230 23) :: (23,.dict hd) :: oldC p g (some (.ref 29)) (some (.ref 30)) (some (.ref 24)) (some (askV p)) (botA g.vs) nm
noncomputable def genC (cm gm:List (Str × AV)) (t:T2):List (Nat × Cell):=(34,.ns cm) :: (33,.list t.got) :: (32,.ns gm) :: (31,t.it) :: lexC p g (nmL g) hd1 t
noncomputable def genS (cm gm:List (Str × AV)) (t:T2):St:=⟨35,genC p g cm gm t⟩
noncomputable def askS (cm gm am:List (Str × AV)) (t:T2):St:=⟨36,(35,.ns am) :: genC p g cm gm t⟩
end
noncomputable def askAe (p:Params):AEnv:=⟨fdScope (LS p 11),35,[("table",8),("left",7),("heard",6),("h",5),("ask",4)],.none,35⟩
noncomputable def askB (p:Params):List Stmt:=fdBody (LS p 11)
noncomputable def noneV:AV:=.val .none
theorem und_old {p:Params} {g:G2} (h:GOk g) {N:Nat} {lf hd hh ak:Option AV} {nm:List (Str × AV)} {bt:List (Nat × Cell)} (hN:23≤N) (a1:oAV lf N) (a2:oAV hd N) (a3:oAV hh N) (a4:oAV ak N) (hn:NsOk N nm) (hb:UC N bt):UC N (oldC p g lf hd hh ak bt nm) :=
 und_cons (show 21 < N by omega) (und_cons trivial (und_cons (und_list (cl_chs _)) (und_cons trivial (und_cons trivial (und_cons (und_list (CL.bools _)) (und_cons trivial (und_cons trivial (und_cons (und_list (CL.rows h.hr)) (und_tape (by omega) (und_law hn (.some (.ref (by omega))) a1 a2 a3 a4 hb))))))))))
theorem und_botA {vs:List Value} {N:Nat}:UC N (botA vs):=und_cons trivial (und_cons trivial (und_cons trivial und_nil))
theorem ask_und {p:Params} {N:Nat} (hN:9≤N):Und N (askV p):=.clo fun q hq=>by
 simp only [List.mem_cons,List.mem_nil_iff,or_false] at hq
 rcases hq with rfl | rfl | rfl | rfl | rfl <;> (show _ < N) <;> omega
structure TOk2 (t:T2):Prop where
 ig:CL t.got
 ih:CL t.heard
 il:CL t.left
 ic:CL t.ct
 ip:CL t.pb
 ib:CL t.tb
 it:UndC 32 t.it
theorem und_lex {p:Params} {g:G2} (h:GOk g) {t:T2} (k:TOk2 t) {N:Nat} (hN:31≤N) {nm hx:List (Str × AV)} (hn:NsOk N nm) (hd:NsOk N hx):UC N (lexC p g nm hx t) :=
 und_cons (und_list k.ih) (und_cons (und_list k.il) (und_cons (und_list k.ic) (und_cons (und_list k.ip) (und_cons (und_list k.ib) (und_cons (show 23 < N by omega) (und_cons (und_dict hd)
  (und_old h (by omega) (.some (.ref (by omega))) (.some (.ref (by omega))) (.some (.ref (by omega))) (.some (ask_und (by omega))) hn und_botA)))))))
theorem hd1_ok {N:Nat} (hN:32≤N):NsOk N hd1:=.cons (.ref (by omega)) (.cons (.ref (by omega)) (.cons (.ref (by omega)) (.cons (.ref (by omega)) .nil)))
theorem nmL_ok {g:G2} {N:Nat} (hN:21≤N):NsOk N (nmL g):=nmB_ok (by omega) (sg0_ok hN)
theorem und_gen {p:Params} {g:G2} (h:GOk g) {t:T2} (k:TOk2 t) {N:Nat} (hN:35≤N) {cm gm:List (Str × AV)} (hc:NsOk N cm) (hg:NsOk N gm):UC N (genC p g cm gm t) :=
 und_cons (und_ns hc) (und_cons (und_list k.ig) (und_cons (und_ns hg) (und_cons (k.it.mono (by omega)) (und_lex (N:=N) h k (by omega) (nmL_ok (N:=N) (by omega)) (hd1_ok (N:=N) (by omega))))))
noncomputable def askS1 (p:Params) (g:G2) (cm gm am:List (Str × AV)) (t:T2):St:=⟨37,(36,.list []) :: (35,.ns am) :: genC p g cm gm t⟩
noncomputable def askS2 (p:Params) (g:G2) (cm gm am:List (Str × AV)) (wl:Cell) (e:Nat) (t:T2):St:=⟨39,(38,.enum 37 e) :: (37,wl) :: (36,.list []) :: (35,.ns am) :: genC p g cm gm t⟩
noncomputable def seqAe (p:Params):AEnv:=⟨(fnAt2 p 213).scope,39,[],.ref 212,39⟩
noncomputable def seqB (p:Params):List Stmt:=(fnAt2 p 213).body
noncomputable def qS (p:Params) (g:G2) (cm gm am:List (Str × AV)) (e:Nat) (sn:List (Str × AV)) (chars:List AV) (it:Cell) (t:T2):St:=⟨42,(41,it) :: (40,.list chars) :: (39,.ns sn) :: (38,.enum 37 e) :: (37,.wl 12 e) :: (36,.list []) :: (35,.ns am) :: genC p g cm gm t⟩
noncomputable def sn0 (r:List AV):List (Str × AV):=[("sequence",.lst r),("self",.ref 24),("chars",.ref 40)]
noncomputable def sn1 (r:List AV) (v:AV):List (Str × AV):=[("sequence",.lst r),("self",.ref 24),("chars",.ref 40),("valid",v)]
noncomputable def sn2 (r:List AV) (v c:AV):List (Str × AV):=[("sequence",.lst r),("self",.ref 24),("chars",.ref 40),("valid",v),("char",c)]
noncomputable abbrev sqF (p:Params):Stmt:=nthS (seqB p) 1
noncomputable def ItOk (g:G2) (it:Cell) (R:List Sg):Prop:=(it = .lend∧R=[]) ∨ ∃ j,it = .liter 20 j∧(sgG g).drop j=chs g.w R
theorem ItOk.und {g:G2} {it:Cell} {R:List Sg} (h:ItOk g it R):UndC 32 it:=by
 rcases h with ⟨rfl,_⟩ | ⟨j,rfl,_⟩
 ·trivial
 ·exact (by decide:(20:Nat) < 32)
theorem it_cons {g:G2} {it:Cell} {x:Sg} {R:List Sg} (h:ItOk g it (x :: R)):∃ j,it = .liter 20 j∧(sgG g)[j]? = some (x.chr g.w)∧ItOk g (.liter 20 (j + 1)) R:=by
 rcases h with ⟨_,h⟩ | ⟨j,rfl,h⟩
 ·cases h
 ·refine ⟨j,rfl,?_,.inr ⟨j + 1,rfl,?_⟩⟩
  ·have:((sgG g).drop j)[0]? = some (x.chr g.w):=by rw [h]; rfl
   simpa using this
  ·rw [← List.tail_drop,h]; rfl
theorem it_nil {g:G2} {it:Cell} (h:ItOk g it []):it = .lend ∨ ∃ j,it = .liter 20 j∧(sgG g)[j]? = none:=by
 rcases h with ⟨rfl,_⟩ | ⟨j,rfl,h⟩
 ·exact .inl rfl
 ·refine .inr ⟨j,rfl,?_⟩
  have:((sgG g).drop j)[0]? = none:=by rw [h]; rfl
  simpa using this
structure R2 where
 got:List AV
 heard:List AV
 left:List AV
 tb:List AV
structure ROk (r:R2):Prop where
 cg:CL r.got
 ch:CL r.heard
 cl:CL r.left
 cb:CL r.tb
 lg:r.got.length≤900
 lh:r.heard.length≤900
 ll:r.left.length≤900
 lb:r.tb.length≤900
noncomputable abbrev tR (it:Cell) (r:R2) (ct pb:List AV):T2:=⟨it,r.got,r.heard,r.left,ct,pb,r.tb⟩
theorem ROk.ok {r:R2} (h:ROk r) {it:Cell} {ct pb:List AV} (hi:UndC 32 it) (hc:CL ct) (hp:CL pb):TOk2 (tR it r ct pb):=⟨h.cg,h.ch,h.cl,hc,hp,h.cb,hi⟩
noncomputable def nxV (w:Int):List Sg→AV
 | []=>noneV
 | x :: _=>x.chr w
noncomputable def nxW (W:List Sg):List Sg→List Sg
 | []=>W
 | x :: _=>W ++ [x]
noncomputable def isNo:AV→Bool
 | .val _=>true
 | _=>false
theorem nx_site {β:Type} {x:EM β} {g:G2} {r:R2} {S:T2→St} {S':AV→T2→St} {f:AV→β}
  (h1:∀ (it:Cell) (ct pb:List AV) (s:Sg),UndC 32 it→CL ct→CL pb→ct.length≤900→pb.length≤900→Go x (S (tR it r ct (s.chr g.w :: pb))) (f (s.chr g.w)) (S' (s.chr g.w) (tR it r (ct ++ [s.chr g.w]) pb)))
  (h2:∀ (ct:List AV) (s:Sg) (j:Nat),CL ct→ct.length≤900→(sgG g)[j]? = some (s.chr g.w)→Go x (S (tR (.liter 20 j) r ct [])) (f (s.chr g.w)) (S' (s.chr g.w) (tR (.liter 20 (j + 1)) r (ct ++ [s.chr g.w]) [])))
  (h3:∀ (ct:List AV) (j:Nat),CL ct→(sgG g)[j]? = none→Go x (S (tR (.liter 20 j) r ct [])) (f noneV) (S' noneV (tR .lend r ct [])))
  (h4:∀ (ct:List AV),CL ct→Go x (S (tR .lend r ct [])) (f noneV) (S' noneV (tR .lend r ct [])))
  {it:Cell} {W P R:List Sg} (hi:ItOk g it R) (hl:W.length + P.length + R.length≤900) :
  ∃ it' P' R',(P ++ R).tail=P' ++ R'∧ItOk g it' R'∧Go x (S (tR it r (chs g.w W) (chs g.w P))) (f (nxV g.w (P ++ R))) (S' (nxV g.w (P ++ R)) (tR it' r (chs g.w (nxW W (P ++ R))) (chs g.w P'))):=by
 have cw:=cl_chs (w:=g.w) W
 have e1:=chs_len (w:=g.w) W
 cases P with
 | cons s P =>
  refine ⟨it,P,R,rfl,hi,?_⟩
  show Go x (S (tR it r (chs g.w W) (s.chr g.w :: chs g.w P))) (f (s.chr g.w)) (S' (s.chr g.w) (tR it r (chs g.w (W ++ [s])) (chs g.w P)))
  rw [chs_app]
  exact h1 it _ _ s hi.und cw (cl_chs _) (by omega) (by rw [chs_len]; simp only [List.length_cons] at hl; omega)
 | nil =>
  cases R with
  | cons s R =>
   obtain ⟨j,rfl,hj,hi'⟩:=it_cons hi
   refine ⟨.liter 20 (j + 1),[],R,rfl,hi',?_⟩
   show Go x (S (tR (.liter 20 j) r (chs g.w W) [])) (f (s.chr g.w)) (S' (s.chr g.w) (tR (.liter 20 (j + 1)) r (chs g.w (W ++ [s])) []))
   rw [chs_app]
   exact h2 _ s j cw (by omega) hj
  | nil =>
   refine ⟨.lend,[],[],rfl,.inl ⟨rfl,rfl⟩,?_⟩
   show Go x (S (tR it r (chs g.w W) [])) (f noneV) (S' noneV (tR .lend r (chs g.w W) []))
   rcases it_nil hi with rfl | ⟨j,rfl,hj⟩
   ·exact h4 _ cw
   ·exact h3 _ j cw hj
structure NO (cm gm am:List (Str × AV)):Prop where
 cm:NsOk 35 cm
 gm:NsOk 35 gm
 am:NsOk 35 am
theorem lM {xs:List AV} (h:xs.length≤900):xs.length≤M6:=Nat.le_trans h (by decide)
theorem lM1 {x:AV} {xs:List AV} (h:xs.length≤900):(x :: xs).length≤M6:=by rw [List.length_cons]; unfold M6; omega
theorem lM2 {x:AV} {xs:List AV} (h:xs.length≤900):(x :: xs).length < 4611686018427387904:=by rw [List.length_cons]; omega
theorem l0M:0 < 4611686018427387904:=by decide
theorem CL.one {xs:List AV} (h:CL xs) {w:Int} (s:Sg):CL (xs ++ [s.chr w]):=h.app (CL.cons (clo_chr s) CL.nil)
section
variable {p:Params} {g:G2} {cm gm am:List (Str × AV)} {r:R2} {m e:Nat}
theorem und_s1 (ho:GOk g) (hn:NO cm gm am) (hr:ROk r) {it:Cell} {ct pb:List AV} (hi:UndC 32 it) (hc:CL ct) (hp:CL pb) {N:Nat} (hN:35≤N):UC N ((36,.list []) :: (35,.ns am) :: genC p g cm gm (tR it r ct pb)) :=
 und_cons (und_list CL.nil) (und_cons (und_ns (hn.am.mono hN)) (und_gen ho (hr.ok hi hc hp) hN (hn.cm.mono hN) (hn.gm.mono hN)))
theorem und_s2 (ho:GOk g) (hn:NO cm gm am) (hr:ROk r) {it wl:Cell} {ct pb:List AV} (hw:UndC 37 wl) (hi:UndC 32 it) (hc:CL ct) (hp:CL pb) {N:Nat} (hN:38≤N):UC N ((38,.enum 37 e) :: (37,wl) :: (36,.list []) :: (35,.ns am) :: genC p g cm gm (tR it r ct pb)) :=
 und_cons (show 37 < N by omega) (und_cons (hw.mono (by omega)) (und_s1 ho hn hr hi hc hp (by omega)))
theorem liU {j:Nat}:UndC 32 (.liter 20 j):=show 20 < 32 by decide
theorem leU:UndC 32 .lend:=trivial
theorem ahead_go (ho:GOk g) (hn:NO cm gm [("ahead",.bool true)]) (hr:ROk r) {it:Cell} {W P R:List Sg} (hi:ItOk g it R) (hl:W.length + P.length + R.length≤900) :
  ∃ it' P' R',(P ++ R).tail=P' ++ R'∧ItOk g it' R'∧Go ((RN p g.hs (m + 25)).tst (askAe p) (ifTest (nthS (askB p) 2))) (askS1 p g cm gm [("ahead",.bool true)] (tR it r (chs g.w W) (chs g.w P))) (isNo (nxV g.w (P ++ R))) (askS1 p g cm gm [("ahead",.bool true)] (tR it' r (chs g.w (nxW W (P ++ R))) (chs g.w P'))) :=
 nx_site (x:=(RN p g.hs (m + 25)).tst (askAe p) (ifTest (nthS (askB p) 2))) (S:=askS1 p g cm gm [("ahead",.bool true)]) (S':=fun _=>askS1 p g cm gm [("ahead",.bool true)]) (f:=isNo)
  (fun it ct pb s ui c1 c2 l1 l2=>Go.by [.b true,.b true,.cut pb (s.chr g.w),.b true,.b false,.b false,.norm,.b false] (aa rt <| aa (lM2 (x:=s.chr g.w) l2) <| aa rt <| aa (lM1 (x:=s.chr g.w) l2) <| aa (Eq.refl (s.chr g.w :: pb)) <| aa rt <| aa (lM l1) <| aa rf <| aa rf <|
   aa (show UV 37 (s.chr g.w) (askS1 p g cm gm [("ahead",.bool true)] (tR it r (ct ++ [s.chr g.w]) pb)).objs from ⟨clo_chr _ _,und_s1 ho hn hr ui (c1.one s) c2 (by decide)⟩) <| aa rf trivial) (fun _=>by kernel_rfl))
  (fun ct s j c1 l1 hj=>Go.by [.b true,.b false,.cut [] (s.chr g.w),.b true,.b false,.b false,.norm,.b false] (aa rt <| aa l0M <| aa rf <| aa hj <| aa rt <| aa (lM l1) <| aa rf <| aa rf <|
   aa (show UV 37 (s.chr g.w) (askS1 p g cm gm [("ahead",.bool true)] (tR (.liter 20 (j + 1)) r (ct ++ [s.chr g.w]) [])).objs from ⟨clo_chr _ _,und_s1 ho hn hr liU (c1.one s) CL.nil (by decide)⟩) <| aa rf trivial) (fun _=>by kernel_rfl))
  (fun ct j c1 hj=>Go.by [.b true,.b false,.b false,.b false,.b false,.b false,.norm,.b true] (aa rt <| aa l0M <| aa rf <| aa hj <| aa rf <| aa rf <| aa rf <|
   aa (show UV 37 noneV (askS1 p g cm gm [("ahead",.bool true)] (tR .lend r ct [])).objs from ⟨.val _,und_s1 ho hn hr leU c1 CL.nil (by decide)⟩) <| aa rt trivial) (fun _=>by kernel_rfl))
  (fun ct c1=>Go.by [.b true,.b false,.b false,.b false,.b false,.norm,.b true] (aa rt <| aa l0M <| aa rf <| aa rf <| aa rf <| aa rf <|
   aa (show UV 37 noneV (askS1 p g cm gm [("ahead",.bool true)] (tR .lend r ct [])).objs from ⟨.val _,und_s1 ho hn hr leU c1 CL.nil (by decide)⟩) <| aa rt trivial) (fun _=>by kernel_rfl))
  hi hl
theorem ahead_no {t:T2}:Go ((RN p g.hs (m + 25)).tst (askAe p) (ifTest (nthS (askB p) 2))) (askS1 p g cm gm [("ahead",.bool false)] t) false (askS1 p g cm gm [("ahead",.bool false)] t):=Go.by [.b false] (aa rf trivial) (fun _=>by kernel_rfl)
end
noncomputable abbrev eb (p:Params):List Stmt:=ifElse (nthS (forBody (sqF p)) 2)
noncomputable abbrev rvF (p:Params):Stmt:=nthS (eb p) 0
noncomputable def qS2 (p:Params) (g:G2) (cm gm am:List (Str × AV)) (e:Nat) (sn:List (Str × AV)) (chars:List AV) (it:Cell) (k:Int) (t:T2):St:=⟨43,(42,.rev 40 k) :: (qS p g cm gm am e sn chars it t).objs⟩
noncomputable def inV:AV→Nat→Bool
 | .str x,d=>Txt.contains x ⟨#[d]⟩
 | .val (.ref 235),d=>[Str.ofString "a",Str.ofString "c"].any fun y=>y == ⟨#[d]⟩
 | .val (.ref 236),d=>[Str.ofString "b"].any fun y=>y == ⟨#[d]⟩
 | _,_=>false
section
variable {p:Params} {g:G2} {cm gm am:List (Str × AV)} {r:R2} {q chars:List AV} {v c:AV} {m e j:Nat} {k:Int} {fi:Cell}
theorem sn2_ok (hq:∀ x ∈ q,x ∈ setsV) (hv:∀ N,Und N v) (hc:∀ N,Und N c) {N:Nat} (hN:41≤N):NsOk N (sn2 q v c):=.cons (CL.lst (CL.sets hq) N) (.cons (.ref (by omega)) (.cons (.ref (by omega)) (.cons (hv N) (.cons (hc N) .nil))))
theorem sn1_ok (hq:∀ x ∈ q,x ∈ setsV) (hv:∀ N,Und N v) {N:Nat} (hN:41≤N):NsOk N (sn1 q v):=.cons (CL.lst (CL.sets hq) N) (.cons (.ref (by omega)) (.cons (.ref (by omega)) (.cons (hv N) .nil)))
theorem sn0_ok (hq:∀ x ∈ q,x ∈ setsV) {N:Nat} (hN:41≤N):NsOk N (sn0 q):=.cons (CL.lst (CL.sets hq) N) (.cons (.ref (by omega)) (.cons (.ref (by omega)) .nil))
theorem und_q (ho:GOk g) (hn:NO cm gm am) (hr:ROk r) (hq:∀ x ∈ q,x ∈ setsV) {it:Cell} {sn:List (Str × AV)} {ct pb:List AV} (hi:UndC 32 it) (hc:CL ct) (hp:CL pb) (hch:CL chars) {N:Nat} (hN:41≤N) (hs:NsOk N sn):UC N (qS p g cm gm am e sn chars (.fit q j) (tR it r ct pb)).objs :=
 und_cons (und_fit (CL.sets hq)) (und_cons (und_list hch) (und_cons (und_ns hs) (und_s2 (wl:=.wl 12 e) ho hn hr (show 12 < 37 by decide) hi hc hp (by omega))))
theorem sq_next (ho:GOk g) (hn:NO cm gm am) (hr:ROk r) (hq:∀ x ∈ q,x ∈ setsV) (hv:∀ N,Und N v) (hch:CL chars) {it:Cell} {W P R:List Sg} (hi:ItOk g it R) (hl:W.length + P.length + R.length≤900) :
  ∃ it' P' R',(P ++ R).tail=P' ++ R'∧ItOk g it' R'∧Go (ONE p g.hs (m + 25) (seqAe p) (nthS (forBody (sqF p)) 0)) (qS p g cm gm am e (sn1 q v) chars (.fit q j) (tR it r (chs g.w W) (chs g.w P))) .next
   (qS p g cm gm am e (sn2 q v (nxV g.w (P ++ R))) chars (.fit q j) (tR it' r (chs g.w (nxW W (P ++ R))) (chs g.w P'))) :=
 nx_site (x:=ONE p g.hs (m + 25) (seqAe p) (nthS (forBody (sqF p)) 0)) (S:=qS p g cm gm am e (sn1 q v) chars (.fit q j)) (S':=fun c=>qS p g cm gm am e (sn2 q v c) chars (.fit q j)) (f:=fun _=>.next)
  (fun it ct pb s ui c1 c2 l1 l2=>Go.by [.b true,.cut pb (s.chr g.w),.b true,.b false,.b false,.norm] (aa (lM2 (x:=s.chr g.w) l2) <| aa rt <| aa (lM1 (x:=s.chr g.w) l2) <| aa (Eq.refl (s.chr g.w :: pb)) <| aa rt <| aa (lM l1) <| aa rf <| aa rf <|
   aa (show UV 42 (s.chr g.w) (qS p g cm gm am e (sn1 q v) chars (.fit q j) (tR it r (ct ++ [s.chr g.w]) pb)).objs from ⟨clo_chr _ _,und_q ho hn hr hq ui (c1.one s) c2 hch (by decide) (sn1_ok hq hv (by decide))⟩) trivial) (fun _=>by kernel_rfl))
  (fun ct s j' c1 l1 hj=>Go.by [.b false,.cut [] (s.chr g.w),.b true,.b false,.b false,.norm] (aa l0M <| aa rf <| aa hj <| aa rt <| aa (lM l1) <| aa rf <| aa rf <|
   aa (show UV 42 (s.chr g.w) (qS p g cm gm am e (sn1 q v) chars (.fit q j) (tR (.liter 20 (j' + 1)) r (ct ++ [s.chr g.w]) [])).objs from ⟨clo_chr _ _,und_q ho hn hr hq liU (c1.one s) CL.nil hch (by decide) (sn1_ok hq hv (by decide))⟩) trivial) (fun _=>by kernel_rfl))
  (fun ct j' c1 hj=>Go.by [.b false,.b false,.b false,.b false,.b false,.norm] (aa l0M <| aa rf <| aa hj <| aa rf <| aa rf <| aa rf <|
   aa (show UV 42 noneV (qS p g cm gm am e (sn1 q v) chars (.fit q j) (tR .lend r ct [])).objs from ⟨.val _,und_q ho hn hr hq leU c1 CL.nil hch (by decide) (sn1_ok hq hv (by decide))⟩) trivial) (fun _=>by kernel_rfl))
  (fun ct c1=>Go.by [.b false,.b false,.b false,.b false,.norm] (aa l0M <| aa rf <| aa rf <| aa rf <| aa rf <|
   aa (show UV 42 noneV (qS p g cm gm am e (sn1 q v) chars (.fit q j) (tR .lend r ct [])).objs from ⟨.val _,und_q ho hn hr hq leU c1 CL.nil hch (by decide) (sn1_ok hq hv (by decide))⟩) trivial) (fun _=>by kernel_rfl))
  hi hl
theorem sq_app {t:T2} (hl:chars.length≤900):Go (ONE p g.hs (m + 25) (seqAe p) (nthS (forBody (sqF p)) 1)) (qS p g cm gm am e (sn2 q v c) chars (.fit q j) t) .next (qS p g cm gm am e (sn2 q v c) (chars ++ [c]) (.fit q j) t):=Go.by [] (aa (lM hl) trivial) (fun _=>by kernel_rfl)
theorem sq_in {t:T2} {s:Sg} {v:AV} (hv:v ∈ setsV):Go ((RN p g.hs (m + 25)).tst (seqAe p) (ifTest (nthS (forBody (sqF p)) 2))) (qS p g cm gm am e (sn2 q v (s.chr g.w)) chars (.fit q j) t) (inV v s.d) (qS p g cm gm am e (sn2 q v (s.chr g.w)) chars (.fit q j) t):=by
 have hS:∀ x:Str,Go ((RN p g.hs (m + 25)).tst (seqAe p) (ifTest (nthS (forBody (sqF p)) 2))) (qS p g cm gm am e (sn2 q (.str x) (s.chr g.w)) chars (.fit q j) t) (inV (.str x) s.d) (qS p g cm gm am e (sn2 q (.str x) (s.chr g.w)) chars (.fit q j) t):=fun x=>by
  cases h:inV (.str x) s.d with
  | true=>exact Go.by [.b true,.b true] (aa rt <| aa h trivial) (fun _=>by kernel_rfl)
  | false=>exact Go.by [.b true,.b false] (aa rt <| aa h trivial) (fun _=>by kernel_rfl)
 simp only [setsV,List.mem_cons,List.mem_nil_iff,or_false] at hv
 rcases hv with rfl | rfl | rfl | rfl | rfl | rfl | rfl | rfl
 ·exact hS _
 ·exact hS _
 ·exact hS _
 ·exact hS _
 ·cases h:inV (.val (.ref 235)) s.d with
  | true=>exact Go.by [.b true,.b true] (aa rt <| aa h trivial) (fun _=>by kernel_rfl)
  | false=>exact Go.by [.b true,.b false] (aa rt <| aa h trivial) (fun _=>by kernel_rfl)
 ·exact hS _
 ·cases h:inV (.val (.ref 236)) s.d with
  | true=>exact Go.by [.b true,.b true] (aa rt <| aa h trivial) (fun _=>by kernel_rfl)
  | false=>exact Go.by [.b true,.b false] (aa rt <| aa h trivial) (fun _=>by kernel_rfl)
 ·exact hS _
theorem sq_no {t:T2}:Go ((RN p g.hs (m + 25)).tst (seqAe p) (ifTest (nthS (forBody (sqF p)) 2))) (qS p g cm gm am e (sn2 q v noneV) chars (.fit q j) t) false (qS p g cm gm am e (sn2 q v noneV) chars (.fit q j) t):=Go.by [.b false] (aa rf trivial) (fun _=>by kernel_rfl)
theorem sq_if:ONE p g.hs (m + 25) (seqAe p) (nthS (forBody (sqF p)) 2)=eBr ((RN p g.hs (m + 25)).tst (seqAe p) (ifTest (nthS (forBody (sqF p)) 2))) ((RN p g.hs (m + 25)).exs (seqAe p) (ifBody (nthS (forBody (sqF p)) 2))) ((RN p g.hs (m + 25)).exs (seqAe p) (ifElse (nthS (forBody (sqF p)) 2))):=by kernel_rfl
theorem sq_cont {σ:St}:Go ((RN p g.hs (m + 25)).exs (seqAe p) (ifBody (nthS (forBody (sqF p)) 2))) σ .cont σ:=Go.by [] trivial (fun _=>by kernel_rfl)
theorem rv_bd (ho:GOk g) (hn:NO cm gm am) (hr:ROk r) (hq:∀ x ∈ q,x ∈ setsV) (hv:∀ N,Und N v) (hch:CL chars) {it:Cell} {s:Sg} {ct pb:List AV} (hi:UndC 32 it) (c1:CL ct) (c2:CL pb) (l1:ct.length≤900) (l2:pb.length≤900) :
  Go ((RN p g.hs (m + 20)).exs (seqAe p) (forBody (rvF p))) (qS2 p g cm gm am e (sn2 q v (s.chr g.w)) chars (.fit q j) k (tR it r (ct ++ [s.chr g.w]) pb)) .next (qS2 p g cm gm am e (sn2 q v (s.chr g.w)) chars (.fit q j) k (tR it r ct (s.chr g.w :: pb))) :=
 Go.by [.b true,.cut ct (s.chr g.w),.norm] (aa rt <| aa (show (ct ++ [s.chr g.w]).length≤M6 by rw [List.length_append,List.length_singleton]; unfold M6; omega) <| aa (Eq.refl (ct ++ [s.chr g.w])) <| aa (lM l2) <|
  aa (show UV 43 noneV (qS2 p g cm gm am e (sn2 q v (s.chr g.w)) chars (.fit q j) k (tR it r ct (s.chr g.w :: pb))).objs from ⟨.val _,und_cons (show 40 < 43 by decide) (und_q ho hn hr hq hi c1 (CL.cons (clo_chr s) c2) hch (by decide) (sn2_ok hq hv (clo_chr s) (by decide)))⟩) trivial) (fun _=>by kernel_rfl)
theorem rv_no (ho:GOk g) (hn:NO cm gm am) (hr:ROk r) (hq:∀ x ∈ q,x ∈ setsV) (hv:∀ N,Und N v) (hch:CL chars) {it:Cell} {ct pb:List AV} (hi:UndC 32 it) (c1:CL ct) (c2:CL pb) :
  Go ((RN p g.hs (m + 20)).exs (seqAe p) (forBody (rvF p))) (qS2 p g cm gm am e (sn2 q v noneV) chars (.fit q j) k (tR it r ct pb)) .next (qS2 p g cm gm am e (sn2 q v noneV) chars (.fit q j) k (tR it r ct pb)) :=
 Go.by [.b false,.norm] (aa rf <| aa (show UV 43 noneV (qS2 p g cm gm am e (sn2 q v noneV) chars (.fit q j) k (tR it r ct pb)).objs from ⟨.val _,und_cons (show 40 < 43 by decide) (und_q ho hn hr hq hi c1 c2 hch (by decide) (sn2_ok hq hv (fun _=>.val _) (by decide)))⟩) trivial) (fun _=>by kernel_rfl)
theorem rv_get {t:T2} {y:AV} (h0:0≤k) (h:chars[k.toNat]? = some y):Go (eNextOwn (forTgt (rvF p)) (.ref 42)) (qS2 p g cm gm am e (sn2 q v c) chars (.fit q j) k t) (some y) (qS2 p g cm gm am e (sn2 q v c) chars (.fit q j) (k - 1) t) :=
 Go.by [.cut [] y] (aa (show 0≤k∧chars[k.toNat]? = some y from ⟨h0,h⟩) trivial) (fun _=>by kernel_rfl)
theorem rv_asg {t:T2} {y:AV}:Go (eAssign (KK p) (RN p g.hs (m + 20)) (seqAe p) y (forTgt (rvF p))) (qS2 p g cm gm am e (sn2 q v c) chars (.fit q j) k t) PUnit.unit (qS2 p g cm gm am e (sn2 q v y) chars (.fit q j) k t):=Go.by [] trivial (fun _=>by kernel_rfl)
theorem rv_loop (ho:GOk g) (hn:NO cm gm am) (hr:ROk r) (hq:∀ x ∈ q,x ∈ setsV) (hv:∀ N,Und N v) (hch:CL chars) {it:Cell} (hi:UndC 32 it) (W:List Sg):∀ (D P:List Sg) (rest:List AV) (hc:chars=chs g.w D.reverse ++ rest) (hl:W.length + D.length + P.length≤900) (c:AV) (M:Nat) (hM:21 + D.length≤M),
  ∃ c',Go ((RN p g.hs M).forl (seqAe p) (forTgt (rvF p)) (.ref 42) (forBody (rvF p))) (qS2 p g cm gm am e (sn2 q v c) chars (.fit q j) ((D.length:Int) - 1) (tR it r (chs g.w (W ++ D.reverse)) (chs g.w P))) .next
   (qS2 p g cm gm am e (sn2 q v c') chars (.fit q j) (-1) (tR it r (chs g.w W) (chs g.w (D.reverse ++ P))))
 | [],P,rest,hc,hl,c,M,hM=>by
  obtain ⟨m,rfl⟩:∃ m,M=m + 20 + 1:=⟨M - 21,by omega⟩
  refine ⟨c,for_end ?_⟩
  rw [List.reverse_nil,List.append_nil]
  exact Go.by [.b false] (aa (Eq.refl (-1:Int)) trivial) (fun _=>by kernel_rfl)
 | s :: D,P,rest,hc,hl,c,M,hM=>by
  obtain ⟨m,rfl⟩:∃ m,M=m + 20 + 1:=⟨M - 21,by omega⟩
  rw [List.length_cons] at hl hM
  rw [List.reverse_cons,chs_app] at hc
  obtain ⟨c',g2⟩:=rv_loop ho hn hr hq hv hch hi W D (s :: P) (s.chr g.w :: rest) (by rw [hc,List.append_assoc]; rfl) (by rw [List.length_cons]; omega) (s.chr g.w) (m + 20) (by omega)
  refine ⟨c',?_⟩
  have e1:(((s :: D).length:Nat):Int) - 1=D.length:=by rw [List.length_cons]; omega
  have e2:chs g.w (W ++ (s :: D).reverse)=chs g.w (W ++ D.reverse) ++ [s.chr g.w]:=by rw [List.reverse_cons,← List.append_assoc,chs_app]; rfl
  have e3:(s :: D).reverse ++ P=D.reverse ++ (s :: P):=by rw [List.reverse_cons,List.append_assoc]; rfl
  rw [e1,e2,e3]
  refine for_turn (rv_get (by omega) ?_) rv_asg (rv_bd ho hn hr hq hv hch hi (cl_chs _) (cl_chs _) (by rw [chs_len,List.length_append,List.length_reverse]; omega) (by rw [chs_len]; omega)) tidy_keep g2
  rw [hc,Int.toNat_natCast,List.append_assoc,List.getElem?_append_right (by rw [chs_len,List.length_reverse]; exact Nat.le_refl _),chs_len,List.length_reverse,Nat.sub_self]
  rfl
end
noncomputable def seqH:List AV→List Sg→Bool
 | [],_=>true
 | _ :: _,[]=>false
 | v :: q,s :: U=>inV v s.d && seqH q U
theorem seqH_le:∀ (q:List AV) (U:List Sg),seqH q U=true→q.length≤U.length
 | [],_,_=>Nat.zero_le _
 | _ :: _,[],h=>nomatch h
 | v :: q,s :: U,h=>Nat.succ_le_succ (seqH_le q U ((Bool.and_eq_true _ _).mp h).2)
theorem setV_und {v:AV} (hv:v ∈ setsV):∀ N,Und N v:=(CL.sets (xs:=[v]) (fun x hx=>List.mem_singleton.mp hx ▸ hv)).all v (.head _)
section
variable {p:Params} {g:G2} {cm gm am:List (Str × AV)} {r:R2} {q chars:List AV} {v c:AV} {m e j:Nat} {k:Int}
theorem rv_it {t:T2}:Go (EM.bind ((RN p g.hs (m + 24)).ev (seqAe p) (forIter (rvF p))) fun v=>eIterOf v) (qS p g cm gm am e (sn2 q v c) chars (.fit q j) t) (.ref 42) (qS2 p g cm gm am e (sn2 q v c) chars (.fit q j) ((chars.length:Int) - 1) t):=Go.by [] trivial (fun _=>by kernel_rfl)
theorem rv_for:ONE p g.hs (m + 24) (seqAe p) (rvF p)=EM.bind ((RN p g.hs (m + 24)).ev (seqAe p) (forIter (rvF p))) fun v=>EM.bind (eIterOf v) fun it=>(RN p g.hs (m + 24)).forl (seqAe p) (forTgt (rvF p)) it (forBody (rvF p)):=by kernel_rfl
theorem eb_two:eExecs (ONE p g.hs (m + 24) (seqAe p)) (eb p)=eExecs (ONE p g.hs (m + 24) (seqAe p)) [rvF p,nthS (eb p) 1]:=by kernel_rfl
theorem rv_fin {σ:St}:Go (ONE p g.hs (m + 24) (seqAe p) (nthS (eb p) 1)) σ (.ret (.bool false)) σ:=Go.by [] trivial (fun _=>by kernel_rfl)
theorem sq_back (ho:GOk g) (hn:NO cm gm am) (hr:ROk r) (hq:∀ x ∈ q,x ∈ setsV) (hv:∀ N,Und N v) {it:Cell} (hi:UndC 32 it) (W D P:List Sg) (hl:W.length + D.length + P.length≤900) (hm:D.length≤m) :
  ∃ c',Go ((RN p g.hs (m + 25)).exs (seqAe p) (eb p)) (qS p g cm gm am e (sn2 q v c) (chs g.w D.reverse) (.fit q j) (tR it r (chs g.w (W ++ D.reverse)) (chs g.w P))) (.ret (.bool false))
   (qS2 p g cm gm am e (sn2 q v c') (chs g.w D.reverse) (.fit q j) (-1) (tR it r (chs g.w W) (chs g.w (D.reverse ++ P)))):=by
 obtain ⟨c',g2⟩:=rv_loop (p:=p) (e:=e) (j:=j) ho hn hr hq hv (cl_chs (w:=g.w) D.reverse) hi W D P [] (List.append_nil _).symm hl c (m + 24) (by omega)
 have g1:=rv_it (p:=p) (g:=g) (cm:=cm) (gm:=gm) (am:=am) (q:=q) (v:=v) (c:=c) (m:=m) (e:=e) (j:=j) (chars:=chs g.w D.reverse) (t:=tR it r (chs g.w (W ++ D.reverse)) (chs g.w P))
 rw [chs_len,List.length_reverse] at g1
 exact ⟨c',Go.exs (Go.eq eb_two (Go.cons (Go.for_ rv_for g1 g2) (Go.stmt rv_fin)))⟩
theorem sq_backN (ho:GOk g) (hn:NO cm gm am) (hr:ROk r) (hq:∀ x ∈ q,x ∈ setsV) (hv:∀ N,Und N v) {it:Cell} (hi:UndC 32 it) (W D P:List Sg) (hl:W.length + D.length + P.length≤900) (hm:D.length + 1≤m) :
  ∃ c',Go ((RN p g.hs (m + 25)).exs (seqAe p) (eb p)) (qS p g cm gm am e (sn2 q v c) (chs g.w D.reverse ++ [noneV]) (.fit q j) (tR it r (chs g.w (W ++ D.reverse)) (chs g.w P))) (.ret (.bool false))
   (qS2 p g cm gm am e (sn2 q v c') (chs g.w D.reverse ++ [noneV]) (.fit q j) (-1) (tR it r (chs g.w W) (chs g.w (D.reverse ++ P)))):=by
 obtain ⟨l,rfl⟩:∃ l,m=l + 1:=⟨m - 1,by omega⟩
 have hch:CL (chs g.w D.reverse ++ [noneV]):=(cl_chs _).app (CL.cons (fun _=>.val _) CL.nil)
 obtain ⟨c',g2⟩:=rv_loop (p:=p) (e:=e) (j:=j) ho hn hr hq hv hch hi W D P [noneV] rfl hl noneV (l + 24) (by omega)
 have g1:=rv_it (p:=p) (g:=g) (cm:=cm) (gm:=gm) (am:=am) (q:=q) (v:=v) (c:=c) (m:=l + 1) (e:=e) (j:=j) (chars:=chs g.w D.reverse ++ [noneV]) (t:=tR it r (chs g.w (W ++ D.reverse)) (chs g.w P))
 rw [List.length_append,chs_len,List.length_reverse,show (((D.length + [noneV].length:Nat):Int) - 1)=D.length by rw [List.length_singleton]; omega] at g1
 refine ⟨c',Go.exs (Go.eq eb_two (Go.cons (Go.for_ rv_for g1 ?_) (Go.stmt rv_fin)))⟩
 refine for_turn (n:=l + 24) (rv_get (by omega) ?_) rv_asg (rv_no (m:=l + 4) ho hn hr hq hv hch hi (cl_chs _) (cl_chs _)) tidy_keep g2
 rw [Int.toNat_natCast,List.getElem?_append_right (by rw [chs_len,List.length_reverse]; exact Nat.le_refl _),chs_len,List.length_reverse,Nat.sub_self]
 rfl
theorem sq_get {t:T2} {y:AV} (h:q[j]? = some y):Go (eNextOwn (forTgt (sqF p)) (.ref 41)) (qS p g cm gm am e (sn0 q) chars (.fit q j) t) (some y) (qS p g cm gm am e (sn0 q) chars (.fit q (j + 1)) t):=Go.by [.cut [] y] (aa h trivial) (fun _=>by kernel_rfl)
theorem sq_end {t:T2} (h:q[j]? = none):Go (eNextOwn (forTgt (sqF p)) (.ref 41)) (qS p g cm gm am e (sn0 q) chars (.fit q j) t) none (qS p g cm gm am e (sn0 q) chars .any t):=Go.by [.b false] (aa h trivial) (fun _=>by kernel_rfl)
theorem sq_asg {t:T2} {y:AV}:Go (eAssign (KK p) (RN p g.hs (m + 20)) (seqAe p) y (forTgt (sqF p))) (qS p g cm gm am e (sn0 q) chars (.fit q j) t) PUnit.unit (qS p g cm gm am e (sn1 q y) chars (.fit q j) t):=Go.by [] trivial (fun _=>by kernel_rfl)
theorem sq_body:eExecs (ONE p g.hs (m + 25) (seqAe p)) (forBody (sqF p))=eExecs (ONE p g.hs (m + 25) (seqAe p)) [nthS (forBody (sqF p)) 0,nthS (forBody (sqF p)) 1,nthS (forBody (sqF p)) 2]:=by kernel_rfl
noncomputable def SqEnd (p:Params) (g:G2) (cm gm am:List (Str × AV)) (e:Nat) (t:T2) (σ:St):Prop:=∀ b,Go (eNorm 39 (.bool b)) σ (.bool b) (askS2 p g cm gm am (.wl 12 e) e t)
theorem ends1 (ho:GOk g) (hn:NO cm gm am) (hr:ROk r) {it fi:Cell} {ct pb:List AV} {sn:List (Str × AV)} (hi:UndC 32 it) (c1:CL ct) (c2:CL pb):SqEnd p g cm gm am e (tR it r ct pb) (qS p g cm gm am e sn chars fi (tR it r ct pb)):=fun b =>
 Go.by [.norm] (aa (show UV 39 (.bool b) (askS2 p g cm gm am (.wl 12 e) e (tR it r ct pb)).objs from ⟨.bool _,und_s2 (wl:=.wl 12 e) ho hn hr (show 12 < 37 by decide) hi c1 c2 (by decide)⟩) trivial) (fun _=>by kernel_rfl)
theorem ends2 (ho:GOk g) (hn:NO cm gm am) (hr:ROk r) {it fi:Cell} {ct pb:List AV} {sn:List (Str × AV)} (hi:UndC 32 it) (c1:CL ct) (c2:CL pb):SqEnd p g cm gm am e (tR it r ct pb) (qS2 p g cm gm am e sn chars fi k (tR it r ct pb)):=fun b =>
 Go.by [.norm] (aa (show UV 39 (.bool b) (askS2 p g cm gm am (.wl 12 e) e (tR it r ct pb)).objs from ⟨.bool _,und_s2 (wl:=.wl 12 e) ho hn hr (show 12 < 37 by decide) hi c1 c2 (by decide)⟩) trivial) (fun _=>by kernel_rfl)
theorem sq_loop (ho:GOk g) (hn:NO cm gm am) (hr:ROk r) (hq:∀ x ∈ q,x ∈ setsV) (W:List Sg):∀ (q' done:List AV) (e0:q=done ++ q') (C:List Sg) {it:Cell} {P R:List Sg} (hi:ItOk g it R) (hl:W.length + C.length + P.length + R.length≤800) (M:Nat) (hM:30 + C.length + 2 * q'.length≤M),
  ∃ it' P' R' σ,ItOk g it' R'∧P' ++ R' = _root_.cond (seqH q' (P ++ R)) ((P ++ R).drop q'.length) (C ++ (P ++ R)) ∧
   Go ((RN p g.hs M).forl (seqAe p) (forTgt (sqF p)) (.ref 41) (forBody (sqF p))) (qS p g cm gm am e (sn0 q) (chs g.w C) (.fit q done.length) (tR it r (chs g.w (W ++ C)) (chs g.w P))) (_root_.cond (seqH q' (P ++ R)) .next (.ret (.bool false))) σ ∧
   SqEnd p g cm gm am e (tR it' r (chs g.w (W ++ _root_.cond (seqH q' (P ++ R)) (C ++ (P ++ R).take q'.length) [])) (chs g.w P')) σ
 | [],done,e0,C,it,P,R,hi,hl,M,hM=>by
  obtain ⟨m,rfl⟩:∃ m,M=m + 20 + 1:=⟨M - 21,by omega⟩
  refine ⟨it,P,R,_,hi,rfl,for_end (sq_end (by rw [e0,List.append_nil]; simp)),?_⟩
  show SqEnd p g cm gm am e (tR it r (chs g.w (W ++ (C ++ (P ++ R).take 0))) (chs g.w P)) _
  rw [List.take_zero,List.append_nil]
  exact ends1 ho hn hr hi.und (cl_chs _) (cl_chs _)
 | v :: q',done,e0,C,it,P,R,hi,hl,M,hM=>by
  rw [List.length_cons] at hM
  obtain ⟨m,rfl⟩:∃ m,M=m + 25 + 1 + 1:=⟨M - 27,by omega⟩
  have hvm:v ∈ setsV:=hq v (by rw [e0]; simp)
  have hv:=setV_und hvm
  have gget:=sq_get (p:=p) (g:=g) (cm:=cm) (gm:=gm) (am:=am) (e:=e) (q:=q) (chars:=chs g.w C) (j:=done.length) (t:=tR it r (chs g.w (W ++ C)) (chs g.w P)) (y:=v) (by rw [e0]; simp)
  obtain ⟨it1,P1,R1,eU,hi1,g1⟩:=sq_next (p:=p) (m:=m) (e:=e) (j:=done.length + 1) ho hn hr hq hv (cl_chs (w:=g.w) C) (W:=W ++ C) (P:=P) hi (by rw [List.length_append]; omega)
  cases hU:P ++ R with
  | nil =>
   rw [hU] at g1 eU
   obtain ⟨hP,hR⟩:=List.append_eq_nil_iff.mp hU
   obtain ⟨hP1,hR1⟩:=List.append_eq_nil_iff.mp eU.symm
   subst hP hR hP1 hR1
   have g2:=sq_app (p:=p) (g:=g) (cm:=cm) (gm:=gm) (am:=am) (m:=m) (e:=e) (j:=done.length + 1) (q:=q) (v:=v) (c:=noneV) (chars:=chs g.w C) (t:=tR it1 r (chs g.w (W ++ C)) (chs g.w [])) (by rw [chs_len]; omega)
   obtain ⟨c',g3⟩:=sq_backN (p:=p) (m:=m) (e:=e) (j:=done.length + 1) (c:=noneV) ho hn hr hq hv hi1.und W C.reverse [] (by rw [List.length_reverse,List.length_nil]; omega) (by rw [List.length_reverse]; omega)
   rw [List.reverse_reverse,List.append_nil] at g3
   refine ⟨it1,C,[],_,hi1,rfl,for_ret gget (sq_asg (m:=m + 6)) (Go.exs (Go.eq sq_body (Go.cons g1 (Go.cons g2 (Go.consR (Go.if_ sq_if sq_no g3)))))),?_⟩
   show SqEnd p g cm gm am e (tR it1 r (chs g.w (W ++ [])) (chs g.w C)) _
   rw [List.append_nil]
   exact ends2 ho hn hr hi1.und (cl_chs _) (cl_chs _)
  | cons s U =>
   rw [hU] at g1 eU
   have hUl:P.length + R.length=U.length + 1:=by rw [← List.length_append,hU,List.length_cons]
   have hPl:P1.length + R1.length=U.length:=by rw [← List.length_append,← eU,List.tail_cons]
   have g2:=sq_app (p:=p) (g:=g) (cm:=cm) (gm:=gm) (am:=am) (m:=m) (e:=e) (j:=done.length + 1) (q:=q) (v:=v) (c:=s.chr g.w) (chars:=chs g.w C) (t:=tR it1 r (chs g.w (W ++ C ++ [s])) (chs g.w P1)) (by rw [chs_len]; omega)
   rw [show chs g.w C ++ [s.chr g.w]=chs g.w (C ++ [s]) by rw [chs_app]; rfl,List.append_assoc] at g2
   have g1':Go (ONE p g.hs (m + 25) (seqAe p) (nthS (forBody (sqF p)) 0)) (qS p g cm gm am e (sn1 q v) (chs g.w C) (.fit q (done.length + 1)) (tR it r (chs g.w (W ++ C)) (chs g.w P))) .next
     (qS p g cm gm am e (sn2 q v (s.chr g.w)) (chs g.w C) (.fit q (done.length + 1)) (tR it1 r (chs g.w (W ++ (C ++ [s]))) (chs g.w P1))):=by rw [← List.append_assoc]; exact g1
   have gin:=sq_in (p:=p) (g:=g) (cm:=cm) (gm:=gm) (am:=am) (m:=m) (e:=e) (j:=done.length + 1) (q:=q) (chars:=chs g.w (C ++ [s])) (t:=tR it1 r (chs g.w (W ++ (C ++ [s]))) (chs g.w P1)) (s:=s) hvm
   cases hb:inV v s.d with
   | false =>
    rw [hb] at gin
    obtain ⟨c',g3⟩:=sq_back (p:=p) (m:=m) (e:=e) (j:=done.length + 1) (c:=s.chr g.w) ho hn hr hq hv hi1.und W (C ++ [s]).reverse P1 (by rw [List.length_reverse,List.length_append,List.length_singleton]; omega) (by rw [List.length_reverse,List.length_append,List.length_singleton]; omega)
    rw [List.reverse_reverse] at g3
    have hs:seqH (v :: q') (s :: U)=false:=by show (inV v s.d && _)=false; rw [hb]; rfl
    rw [hs]
    refine ⟨it1,(C ++ [s]) ++ P1,R1,_,hi1,?_,for_ret gget (sq_asg (m:=m + 6)) (Go.exs (Go.eq sq_body (Go.cons g1' (Go.cons g2 (Go.consR (Go.if_ sq_if gin g3)))))),?_⟩
    ·show _=C ++ (s :: U)
     rw [List.append_assoc,← eU,List.append_assoc]
     rfl
    ·show SqEnd p g cm gm am e (tR it1 r (chs g.w (W ++ [])) _) _
     rw [List.append_nil]
     exact ends2 ho hn hr hi1.und (cl_chs _) (cl_chs _)
   | true =>
    rw [hb] at gin
    have hs:seqH (v :: q') (s :: U)=seqH q' (P1 ++ R1):=by show (inV v s.d && _)=_; rw [hb,← eU]; rfl
    obtain ⟨it',P',R',σ,hi',eU',g4,ge⟩:=sq_loop ho hn hr hq W q' (done ++ [v]) (by rw [e0,List.append_assoc]; rfl) (C ++ [s]) (P:=P1) hi1 (by rw [List.length_append,List.length_singleton]; omega) (m + 26) (by rw [List.length_append,List.length_singleton]; omega)
    have e1:(done ++ [v]).length=done.length + 1:=by rw [List.length_append,List.length_singleton]
    rw [e1] at g4
    rw [hs]
    rw [← eU,List.tail_cons] at eU' ge g4 ⊢
    refine ⟨it',P',R',σ,hi',?_,for_turn gget (sq_asg (m:=m + 6)) (Go.exs (Go.eq sq_body (Go.cons g1' (Go.cons g2 (Go.stmt (Go.if_ sq_if gin sq_cont)))))) (σ₄:=qS p g cm gm am e (sn0 q) (chs g.w (C ++ [s])) (.fit q (done.length + 1)) (tR it1 r (chs g.w (W ++ (C ++ [s]))) (chs g.w P1))) ?_ g4 (.inr rfl),?_⟩
    ·rw [eU',List.append_assoc]
     rfl
    ·exact Go.drop (N:=42) 39 ["valid","char"] (und_q ho hn hr hq hi1.und (cl_chs _) (cl_chs _) (cl_chs _) (by decide) (sn0_ok hq (by decide))) (fun _=>by kernel_rfl)
    ·rw [List.append_assoc] at ge
     exact ge
end
section
variable {p:Params} {g:G2} {cm gm am:List (Str × AV)} {r:R2} {q chars:List AV} {v c:AV} {m e j:Nat} {k:Int}
theorem sq_two:eExecs (ONE p g.hs (m + 25) (seqAe p)) (seqB p)=eExecs (ONE p g.hs (m + 25) (seqAe p)) [nthS (seqB p) 0,sqF p,nthS (seqB p) 2]:=by kernel_rfl
theorem sq_for:ONE p g.hs (m + 25) (seqAe p) (sqF p)=EM.bind ((RN p g.hs (m + 25)).ev (seqAe p) (forIter (sqF p))) fun v=>EM.bind (eIterOf v) fun it=>(RN p g.hs (m + 25)).forl (seqAe p) (forTgt (sqF p)) it (forBody (sqF p)):=by kernel_rfl
theorem sq_fin {σ:St}:Go (ONE p g.hs (m + 25) (seqAe p) (nthS (seqB p) 2)) σ (.ret (.bool true)) σ:=Go.by [] trivial (fun _=>by kernel_rfl)
theorem sq_call (ho:GOk g) (hn:NO cm gm am) (hr:ROk r) (hq:RowOk q) {it:Cell} {W P R:List Sg} (hi:ItOk g it R) (hl:W.length + P.length + R.length≤800) {N:Nat} (hN:60≤N) :
  ∃ it' P' R',ItOk g it' R'∧P' ++ R' = _root_.cond (seqH q (P ++ R)) ((P ++ R).drop q.length) (P ++ R) ∧
   Go ((RN p g.hs N).call (.val (.ref 213)) [.ref 24,.lst q] []) (askS2 p g cm gm am (.wl 12 e) e (tR it r (chs g.w W) (chs g.w P))) (.bool (seqH q (P ++ R)))
    (askS2 p g cm gm am (.wl 12 e) e (tR it' r (chs g.w (W ++ _root_.cond (seqH q (P ++ R)) ((P ++ R).take q.length) [])) (chs g.w P'))):=by
 obtain ⟨m,rfl⟩:∃ m,N=m + 25 + 1 + 1:=⟨N - 27,by omega⟩
 obtain ⟨it',P',R',σ,hi',eU,g2,ge⟩:=sq_loop (p:=p) (e:=e) ho hn hr hq.sets W q [] rfl [] (it:=it) (P:=P) hi (by rw [List.length_nil]; omega) (m + 25) (by have:=hq.le; rw [List.length_nil]; omega)
 refine ⟨it',P',R',hi',eU,?_⟩
 refine Go.eq (show (RN p g.hs (m + 27)).call (.val (.ref 213)) [.ref 24,.lst q] []=eFn (RN p g.hs (m + 26)) (fnAt2 p 213) [.ref 24,.lst q] [] by kernel_rfl)
  (Go.fn (ae:=seqAe p) (σ1:=⟨40,(39,.ns [("sequence",.lst q),("self",.ref 24)]) :: (askS2 p g cm gm am (.wl 12 e) e (tR it r (chs g.w W) (chs g.w P))).objs⟩) (by kernel_rfl) (binds:=[("self",.ref 24),("sequence",.lst q)]) (by kernel_rfl) (Go.by [] trivial (fun _=>by kernel_rfl)) ?_)
 have s0:Go (ONE p g.hs (m + 25) (seqAe p) (nthS (seqB p) 0)) ⟨40,(39,.ns [("sequence",.lst q),("self",.ref 24)]) :: (askS2 p g cm gm am (.wl 12 e) e (tR it r (chs g.w W) (chs g.w P))).objs⟩ .next
   ⟨41,(40,.list []) :: (39,.ns (sn0 q)) :: (askS2 p g cm gm am (.wl 12 e) e (tR it r (chs g.w W) (chs g.w P))).objs⟩:=Go.by [.keep] (aa (show 0≤M6 by decide) trivial) (fun _=>by kernel_rfl)
 have s1:Go (EM.bind ((RN p g.hs (m + 25)).ev (seqAe p) (forIter (sqF p))) fun v=>eIterOf v) ⟨41,(40,.list []) :: (39,.ns (sn0 q)) :: (askS2 p g cm gm am (.wl 12 e) e (tR it r (chs g.w W) (chs g.w P))).objs⟩ (.ref 41)
   (qS p g cm gm am e (sn0 q) (chs g.w []) (.fit q 0) (tR it r (chs g.w W) (chs g.w P))):=Go.by [] trivial (fun _=>by kernel_rfl)
 rw [List.append_nil,List.length_nil] at g2
 have gx:Go ((RN p g.hs (m + 26)).exs (seqAe p) (fnAt2 p 213).body) ⟨40,(39,.ns [("sequence",.lst q),("self",.ref 24)]) :: (askS2 p g cm gm am (.wl 12 e) e (tR it r (chs g.w W) (chs g.w P))).objs⟩ (.ret (.bool (seqH q (P ++ R)))) σ:=by
  refine Go.exs (Go.eq sq_two (Go.cons s0 ?_))
  cases hb:seqH q (P ++ R) with
  | true =>
   rw [hb] at g2
   exact Go.cons (Go.for_ sq_for s1 g2) (Go.stmt sq_fin)
  | false =>
   rw [hb] at g2
   exact Go.consR (Go.for_ sq_for s1 g2)
 exact Go.bind gx (Go.rt (ge _))
end
noncomputable abbrev jnA (p:Params) (xs:List AV):Str:=Txt.join (Str.ofString "") (attrStrs (KK p) (Str.ofString "char") xs)
noncomputable abbrev tkE (w:Int) (i:Nat) (ty x:Str):AV:=.slo 47 [lcA w i,.str ty,.str x]
noncomputable def em39 (w:Int) (i:Nat) (ty x:Str):Nat × Cell:=(39,.ns [("typ",.str ty),("self",.ref 24),("val",.str x),("loc",lcA w i)])
theorem attr_chr (p:Params) (w:Int) (s:Sg):attrStr (KK p) (Str.ofString "char") (s.chr w)=some ⟨#[s.d]⟩:=by kernel_rfl
theorem join_one1:∀ cs:List Nat,Str.join (Str.ofString "") (cs.map fun d=>(⟨#[d]⟩:Str))=tS cs
 | []=>rfl
 | [d]=>rfl
 | d :: d2 :: cs=>by
  show (⟨#[d]⟩:Str) ++ Str.ofString "" ++ Str.join (Str.ofString "") ((d2 :: cs).map fun d=>(⟨#[d]⟩:Str))=_
  rw [join_one1 (d2 :: cs)]
  show (⟨(#[d] ++ #[]) ++ (d2 :: cs).toArray⟩:Str)=⟨_⟩
  simp
theorem join_one (cs:List Nat):Txt.join (Str.ofString "") (cs.map fun d=>(⟨#[d]⟩:Str))=tS cs:=by
 show Builtin.Str.glued _ _=_
 rw [StrLaws.glued_eq_join,join_one1]
section
variable (p:Params) (w:Int) (W:List Sg)
theorem attrs_chs:attrStrs (KK p) (Str.ofString "char") (chs w W)=(W.map (·.d)).map fun d=>(⟨#[d]⟩:Str):=by
 unfold attrStrs chs
 rw [List.map_map,List.map_map]
 refine List.map_congr_left fun s _=>?_
 show (attrStr (KK p) (Str.ofString "char") (s.chr w)).getD Str.empty=⟨#[s.d]⟩
 rw [attr_chr]; rfl
theorem jnA_eq:jnA p (chs w W)=tS (W.map (·.d)):=by
 show Txt.join (Str.ofString "") (attrStrs (KK p) (Str.ofString "char") (chs w W))=_
 rw [attrs_chs,join_one]
theorem attrs_some:∀ y ∈ chs w W,(attrStr (KK p) (Str.ofString "char") y).isSome=true:=fun y hy=>by
 obtain ⟨s,_,rfl⟩:=List.mem_map.mp hy
 rw [attr_chr]; rfl
end
theorem fold_len (l:List Nat):∀ a:Nat,(l.map fun d=>(⟨#[d]⟩:Str)).foldl (fun n x=>n + x.length + (Str.ofString "").length) a=a + l.length:=by
 induction l with
 | nil=>intro a; rfl
 | cons x l ih =>
  intro a
  rw [List.map_cons,List.foldl_cons,ih,List.length_cons]
  show a + 1 + 0 + l.length=a + (l.length + 1)
  omega
theorem joinOk (p:Params) (w:Int) (W:List Sg) (hn:W.length≤900):JoinOk (Str.ofString "") (attrStrs (KK p) (Str.ofString "char") (chs w W))=true:=by
 rw [attrs_chs]
 unfold JoinOk
 have h1:=fold_len (W.map (·.d)) 0
 rw [List.length_map] at h1
 rw [Bool.not_eq_true']
 unfold Builtin.Str.tooLong
 simp only [List.foldl_toArray,decide_eq_false_iff_not,gt_iff_lt,Nat.not_lt]
 have:sizeLine=2 ^ 24:=rfl
 omega
noncomputable abbrev akF (p:Params):Stmt:=nthS (askB p) 3
noncomputable abbrev akI (p:Params):Stmt:=nthS (forBody (akF p)) 1
noncomputable def am1 (a:Bool):List (Str × AV):=[("ahead",.bool a)]
noncomputable def am2 (e:Nat) (q:List AV) (a:Bool):List (Str × AV):=[("ahead",.bool a),("number",.int e),("sequence",.lst q)]
noncomputable abbrev numT (e:Nat):Str:=Str.ofString (toString (Int.ofNat e))
section
variable {p:Params} {g:G2} {cm gm am:List (Str × AV)} {r:R2} {q chars:List AV} {m e j:Nat} {it wl:Cell} {W:List Sg} {s:Sg} {pb:List AV} {ty:Str}
noncomputable abbrev EmP (p:Params) (g:G2) (cm gm am:List (Str × AV)) (r:R2) (wl it:Cell) (e:Nat) (s:Sg) (ct pb:List AV) (ty:Str):Prop :=
 (s.chr g.w :: ct).length≤M6∧((∀ y ∈ s.chr g.w :: ct,(attrStr (KK p) (Str.ofString "char") y).isSome=true)∧JoinOk (Str.ofString "") (attrStrs (KK p) (Str.ofString "char") (s.chr g.w :: ct))=true∧(s.chr g.w :: ct).length≤M6) ∧
 (s.chr g.w :: ct).length≤M6∧((0:Int)≤0∧(0:Int) < 1000000∧some (s.chr g.w)=some (s.chr g.w) ∨ (0:Int) = -1∧(s.chr g.w :: ct)[(s.chr g.w :: ct).length - 1]? = some (s.chr g.w))∧true=true ∧
 UV 42 noneV ((41,.sinst 47 40 [some (lcA g.w s.i),some (.str ty),some (.str (jnA p (s.chr g.w :: ct)))]) :: (40,.dict []) :: em39 g.w s.i ty (jnA p (s.chr g.w :: ct)) :: (askS2 p g cm gm am wl e (tR it r (s.chr g.w :: ct) pb)).objs) ∧
 ((40≤41∧40≤40∧40≤42)∧UV 40 (tkE g.w s.i ty (jnA p (s.chr g.w :: ct))) (em39 g.w s.i ty (jnA p (s.chr g.w :: ct)) :: (askS2 p g cm gm am wl e (tR it r (s.chr g.w :: ct) pb)).objs)) ∧
 r.tb.length≤M6∧(s.chr g.w :: ct).length≤M6∧UV 39 noneV (askS2 p g cm gm am wl e (tR it { r with tb:=r.tb ++ [tkE g.w s.i ty (jnA p (s.chr g.w :: ct))] } [] pb)).objs∧True
theorem tk_cl {w:Int} {i:Nat} {ty x:Str}:CL [tkE w i ty x]:=CL.cons (CL.slo (CL.cons clL (CL.cons (fun _=>.str _) (CL.cons (fun _=>.str _) CL.nil)))) CL.nil
theorem ROk.emit (h:ROk r) {w:Int} {i:Nat} {x:Str} (hl:r.tb.length≤899):ROk { r with tb:=r.tb ++ [tkE w i ty x] }:=⟨h.cg,h.ch,h.cl,h.cb.app tk_cl,h.lg,h.lh,h.ll,by rw [List.length_append,List.length_singleton]; omega⟩
theorem emC (ho:GOk g) (hn:NO cm gm am) (hr:ROk r) (hl:r.tb.length≤899) (hw:UndC 37 wl) (hi:UndC 32 it) (hp:CL pb) (hW:(s :: W).length≤900):EmP p g cm gm am r wl it e s (chs g.w W) pb ty:=by
 have l1:(s.chr g.w :: chs g.w W).length≤M6:=lM (by rw [List.length_cons,chs_len]; exact hW)
 have u39:∀ {N},38≤N→UC N (em39 g.w s.i ty (jnA p (s.chr g.w :: chs g.w W)) :: (askS2 p g cm gm am wl e (tR it r (s.chr g.w :: chs g.w W) pb)).objs):=fun hN =>
  und_cons (und_ns (.cons (.str _) (.cons (.ref (by omega)) (.cons (.str _) (.cons (clL _) .nil))))) (und_s2 (e:=e) ho hn hr hw hi (cl_chs (s :: W)) hp hN)
 exact ⟨l1,⟨attrs_some p g.w (s :: W),joinOk p g.w (s :: W) hW,l1⟩,l1,.inl ⟨Int.le_refl _,by decide,rfl⟩,rfl,
  ⟨.val _,und_cons (und_sinstC (by decide) (CL.cons clL (CL.cons (fun _=>.str _) (CL.cons (fun _=>.str _) CL.nil)))) (und_cons (und_dict .nil) (u39 (by decide)))⟩,
  ⟨by decide,tk_cl.all _ (.head _) _,u39 (by decide)⟩,lM hr.lb,l1,⟨.val _,und_s2 (e:=e) ho hn (hr.emit hl) hw hi CL.nil hp (by decide)⟩,trivial⟩
theorem em_num (ho:GOk g) (hr:ROk r) (hl:r.tb.length≤899) {R:List Sg} (hi:ItOk g it R) (hp:CL pb) (hW:(s :: W).length≤900) (he:e≤900) {a:Bool} (hn:NO cm gm (am2 e q a)) :
  Go ((RN p g.hs (m + 25)).exs (askAe p) (ifBody (akI p))) (askS2 p g cm gm (am2 e q a) (.wl 12 (e + 1)) (e + 1) (tR it r (chs g.w (s :: W)) pb)) (.ret (askV p))
   (askS2 p g cm gm (am2 e q a) (.wl 12 (e + 1)) (e + 1) (tR it { r with tb:=r.tb ++ [tkE g.w s.i (numT e) (tS ((s :: W).map (·.d)))] } [] pb)):=by
 rw [← jnA_eq p g.w (s :: W)]
 have h0:(0:Int)≤e∧(e:Int) < 9223372036854775808:=by omega
 have c0:=emC (p:=p) (g:=g) (e:=e + 1) (ty:=numT e) (wl:=.wl 12 (e + 1)) ho hn hr hl (show 12 < 37 by decide) hi.und hp hW
 rcases hi with ⟨rfl,_⟩ | ⟨j,rfl,_⟩
 ·exact Go.by [.cut [] (s.chr g.w),.b true,.norm,.norm,.norm] (aa h0 c0) (fun _=>by kernel_rfl)
 ·exact Go.by [.cut [] (s.chr g.w),.b true,.norm,.norm,.norm] (aa h0 c0) (fun _=>by kernel_rfl)
theorem em_one (ho:GOk g) (hr:ROk r) (hl:r.tb.length≤899) {R:List Sg} (hi:ItOk g it R) (hp:CL pb) (hW:(s :: W).length≤900) {a:Bool} (hn:NO cm gm (am1 a)) :
  Go ((RN p g.hs (m + 25)).exs (askAe p) ((askB p).drop 5)) (askS2 p g cm gm (am1 a) .any e (tR it r (chs g.w (s :: W)) pb)) (.ret (askV p))
   (askS2 p g cm gm (am1 a) .any e (tR it { r with tb:=r.tb ++ [tkE g.w s.i "ONE" (tS ((s :: W).map (·.d)))] } [] pb)):=by
 rw [← jnA_eq p g.w (s :: W)]
 have c0:=emC (p:=p) (g:=g) (e:=e) (ty:="ONE") (wl:=.any) ho hn hr hl trivial hi.und hp hW
 rcases hi with ⟨rfl,_⟩ | ⟨j,rfl,_⟩
 ·exact Go.by [.cut [] (s.chr g.w),.b true,.norm,.norm,.norm] c0 (fun _=>by kernel_rfl)
 ·exact Go.by [.cut [] (s.chr g.w),.b true,.norm,.norm,.norm] c0 (fun _=>by kernel_rfl)
end
noncomputable def atO:PySem.Expr→PySem.Expr
 | .Attribute o _ _=>o
 | e=>e
noncomputable def nthE:List PySem.Expr→Nat→PySem.Expr
 | [],_=>.Constant .none 0 default
 | e :: _,0=>e
 | _ :: es,n + 1=>nthE es n
noncomputable def tryR:Nat→List (List AV)→List Sg→List Bool × Option (Nat × Nat)
 | _,[],_=>([],none)
 | i,q :: qs,U=>_root_.cond (seqH q U) ([true],some (i,q.length)) (false :: (tryR (i + 1) qs U).1,(tryR (i + 1) qs U).2)
section
variable {i:Nat} {q:List AV} {qs:List (List AV)} {U:List Sg}
theorem tryR_t (h:seqH q U=true):tryR i (q :: qs) U=([true],some (i,q.length)):=by rw [tryR,h]; rfl
theorem tryR_f (h:seqH q U=false):tryR i (q :: qs) U=(false :: (tryR (i + 1) qs U).1,(tryR (i + 1) qs U).2):=by rw [tryR,h]; rfl
end
theorem tryR_le:∀ (i:Nat) (qs:List (List AV)) (U:List Sg),(tryR i qs U).1.length≤qs.length
 | _,[],_=>Nat.le_refl _
 | i,q :: qs,U=>by
  cases h:seqH q U with
  | true=>rw [tryR_t h]; exact Nat.succ_le_succ (Nat.zero_le _)
  | false=>rw [tryR_f h]; exact Nat.succ_le_succ (tryR_le (i + 1) qs U)
noncomputable abbrev rH (r:R2) (bs:List Bool):R2:={ r with heard:=r.heard ++ boolsV bs }
theorem ROk.hear {r:R2} (h:ROk r) {bs:List Bool} (hl:r.heard.length + bs.length≤900):ROk (rH r bs):=⟨h.cg,h.ch.app (CL.bools bs),h.cl,h.cb,h.lg,by show (r.heard ++ boolsV bs).length≤900; rw [List.length_append,List.length_map]; exact hl,h.ll,h.lb⟩
theorem rH_app {r:R2} {a b:List Bool}:rH (rH r a) b=rH r (a ++ b):=by show ({ r with heard:=(r.heard ++ boolsV a) ++ boolsV b }:R2) = { r with heard:=r.heard ++ boolsV (a ++ b) }; rw [show boolsV (a ++ b)=boolsV a ++ boolsV b from List.map_append ..,List.append_assoc]
noncomputable abbrev rT (r:R2) (x:AV):R2:={ r with tb:=r.tb ++ [x] }
section
variable {p:Params} {g:G2} {cm gm am:List (Str × AV)} {r:R2} {q chars:List AV} {v c:AV} {m e j:Nat} {k:Int} {a b:Bool}
theorem am1_ok {N:Nat}:NsOk N (am1 a):=.cons (.bool _) .nil
theorem am2_ok (hq:RowOk q) {N:Nat}:NsOk N (am2 e q a):=.cons (.bool _) (.cons (.int _) (.cons (CL.lst (CL.sets hq.sets) _) .nil))
theorem hr_st:ONE p g.hs (m + 60) (askAe p) (nthS (forBody (akF p)) 0)=EM.bind ((RN p g.hs (m + 60)).ev (askAe p) (asgVal (nthS (forBody (akF p)) 0))) fun _=>EM.ret .next:=by kernel_rfl
noncomputable abbrev hrE (p:Params):PySem.Expr:=nthE (callAs (asgVal (nthS (forBody (akF p)) 0))) 0
noncomputable abbrev hrO (p:Params):PySem.Expr:=atO (callFn' (asgVal (nthS (forBody (akF p)) 0)))
theorem hr_ev:(RN p g.hs (m + 60)).ev (askAe p) (asgVal (nthS (forBody (akF p)) 0))=eMethodCall (KK p) (RN p g.hs (m + 59)) (askAe p) (hrO p) (Str.ofString "append") [hrE p] []:=by kernel_rfl
theorem hr_ev2:(RN p g.hs (m + 59)).ev (askAe p) (hrE p)=eMethodCall (KK p) (RN p g.hs (m + 58)) (askAe p) (atO (callFn' (hrE p))) (Str.ofString "accept_sequence") (callAs (hrE p)) []:=by kernel_rfl
theorem hear_c {t t':T2} {b:Bool} (hh:t'.heard.length≤900) (gc:Go ((RN p g.hs (m + 58)).call (.val (.ref 213)) [.ref 24,.lst q] []) (askS2 p g cm gm (am2 j q a) (.wl 12 e) e t) (.bool b) (askS2 p g cm gm (am2 j q a) (.wl 12 e) e t')) :
  Go (ONE p g.hs (m + 60) (askAe p) (nthS (forBody (akF p)) 0)) (askS2 p g cm gm (am2 j q a) (.wl 12 e) e t) .next (askS2 p g cm gm (am2 j q a) (.wl 12 e) e { t' with heard:=t'.heard ++ [.bool b] }):=by
 refine Go.eq hr_st (Go.bind (b:=.val .none) (σ':=askS2 p g cm gm (am2 j q a) (.wl 12 e) e { t' with heard:=t'.heard ++ [.bool b] }) (Go.eq hr_ev ?_) Go.ret)
 refine Go.meth (σ1:=askS2 p g cm gm (am2 j q a) (.wl 12 e) e t) (σ2:=askS2 p g cm gm (am2 j q a) (.wl 12 e) e t) (σ3:=askS2 p g cm gm (am2 j q a) (.wl 12 e) e t')
  (f:=.val (.builtin "list.append")) (first:=[.ref 30]) (as:=[.bool b]) (ov:=.ref 30) (v:=.val .none) (Go.by [] trivial (fun _=>by kernel_rfl)) (Go.by [] trivial (fun _=>by kernel_rfl)) (by kernel_rfl) (Go.args1 (by kernel_rfl) (Go.eq hr_ev2 ?_)) (Go.by [] (aa (lM hh) trivial) (fun _=>by kernel_rfl))
 exact Go.meth (σ1:=askS2 p g cm gm (am2 j q a) (.wl 12 e) e t) (σ2:=askS2 p g cm gm (am2 j q a) (.wl 12 e) e t) (σ3:=askS2 p g cm gm (am2 j q a) (.wl 12 e) e t)
  (f:=.val (.ref 213)) (first:=[.ref 24]) (as:=[.lst q]) (ov:=.ref 24) (Go.by [] trivial (fun _=>by kernel_rfl)) (Go.by [] trivial (fun _=>by kernel_rfl)) (by kernel_rfl) (Go.by [] trivial (fun _=>by kernel_rfl)) gc
theorem hear_go (ho:GOk g) (hn:NO cm gm (am2 j q a)) (hr:ROk r) (hq:RowOk q) {it:Cell} {W P R:List Sg} (hi:ItOk g it R) (hl:W.length + P.length + R.length≤800) {N:Nat} (hN:64≤N) :
  ∃ it' P' R',ItOk g it' R'∧P' ++ R' = _root_.cond (seqH q (P ++ R)) ((P ++ R).drop q.length) (P ++ R) ∧
   Go (ONE p g.hs N (askAe p) (nthS (forBody (akF p)) 0)) (askS2 p g cm gm (am2 j q a) (.wl 12 e) e (tR it r (chs g.w W) (chs g.w P))) .next
    (askS2 p g cm gm (am2 j q a) (.wl 12 e) e (tR it' (rH r [seqH q (P ++ R)]) (chs g.w (W ++ _root_.cond (seqH q (P ++ R)) ((P ++ R).take q.length) [])) (chs g.w P'))):=by
 obtain ⟨m,rfl⟩:∃ m,N=m + 60:=⟨N - 60,by omega⟩
 obtain ⟨it',P',R',hi',eU,gc⟩:=sq_call (p:=p) (e:=e) ho hn hr hq hi hl (N:=m + 58) (by omega)
 exact ⟨it',P',R',hi',eU,hear_c hr.lh gc⟩
theorem hr_if:ONE p g.hs (m + 60) (askAe p) (akI p)=eBr ((RN p g.hs (m + 60)).tst (askAe p) (ifTest (akI p))) ((RN p g.hs (m + 60)).exs (askAe p) (ifBody (akI p))) ((RN p g.hs (m + 60)).exs (askAe p) (ifElse (akI p))):=by kernel_rfl
theorem hr_tst {t:T2} {b:Bool} {h:List AV} (e0:t.heard=h ++ [.bool b]) (hl:t.heard.length≤900):Go ((RN p g.hs (m + 60)).tst (askAe p) (ifTest (akI p))) (askS2 p g cm gm (am2 j q a) (.wl 12 e) e t) b (askS2 p g cm gm (am2 j q a) (.wl 12 e) e t) :=
 Go.by [.cut [] (.bool b)] (aa (lM hl) <| aa (show ((0:Int)≤-1∧(-1:Int) < 1000000∧t.heard[0]? = some (.bool b)) ∨ (-1:Int) = -1∧t.heard[t.heard.length - 1]? = some (.bool b) from .inr ⟨rfl,by rw [e0,List.length_append,List.length_singleton,Nat.add_sub_cancel,List.getElem?_append_right (Nat.le_refl _),Nat.sub_self]; rfl⟩) trivial) (fun _=>by kernel_rfl)
theorem ak_asg {t:T2}:Go (eAssign (KK p) (RN p g.hs (m + 20)) (askAe p) (.tup [.int j,.lst q]) (forTgt (akF p))) (askS2 p g cm gm (am1 a) (.wl 12 e) e t) PUnit.unit (askS2 p g cm gm (am2 j q a) (.wl 12 e) e t):=Go.by [] trivial (fun _=>by kernel_rfl)
theorem ak_body:eExecs (ONE p g.hs (m + 60) (askAe p)) (forBody (akF p))=eExecs (ONE p g.hs (m + 60) (askAe p)) [nthS (forBody (akF p)) 0,akI p]:=by kernel_rfl
theorem ak_else {σ:St}:Go ((RN p g.hs (m + 60)).exs (askAe p) (ifElse (akI p))) σ .next σ:=Go.by [] trivial (fun _=>by kernel_rfl)
noncomputable def AkEnd (p:Params) (g:G2) (cm gm:List (Str × AV)) (t:T2) (σ:St):Prop:=∀ v,Und 35 v→Go (eNorm 35 v) σ v (genS p g cm gm t)
theorem akEnd2 (ho:GOk g) (hc:NsOk 35 cm) (hg:NsOk 35 gm) (hr:ROk r) {it wl:Cell} {ct pb:List AV} (hi:UndC 32 it) (c1:CL ct) (c2:CL pb):AkEnd p g cm gm (tR it r ct pb) (askS2 p g cm gm am wl e (tR it r ct pb)):=fun v hv =>
 Go.by [.norm] (aa (show UV 35 v (genS p g cm gm (tR it r ct pb)).objs from ⟨hv,und_gen ho (hr.ok hi c1 c2) (Nat.le_refl _) hc hg⟩) trivial) (fun _=>by kernel_rfl)
theorem akEnd1 (ho:GOk g) (hc:NsOk 35 cm) (hg:NsOk 35 gm) (hr:ROk r) {it:Cell} {ct pb:List AV} (hi:UndC 32 it) (c1:CL ct) (c2:CL pb):AkEnd p g cm gm (tR it r ct pb) (askS1 p g cm gm am (tR it r ct pb)):=fun v hv =>
 Go.by [.norm] (aa (show UV 35 v (genS p g cm gm (tR it r ct pb)).objs from ⟨hv,und_gen ho (hr.ok hi c1 c2) (Nat.le_refl _) hc hg⟩) trivial) (fun _=>by kernel_rfl)
theorem ak_loop (ho:GOk g) (hc:NsOk 35 cm) (hg:NsOk 35 gm) (W:List Sg) (hW:W.length≤1):∀ (qs done:List (List AV)) (e0:g.rows=done ++ qs) {r:R2} (hr:ROk r) (hh:r.heard.length + qs.length≤900) (hb:r.tb.length≤899) {it:Cell} {P R:List Sg} (hi:ItOk g it R) (hl:P.length + R.length≤700) (M:Nat) (hM:70 + 2 * qs.length≤M),
  ∃ it' P' R' σ,ItOk g it' R' ∧
   match tryR done.length qs (P ++ R) with
   | (bs,none)=>P' ++ R' = P ++ R∧Go ((RN p g.hs M).forl (askAe p) (forTgt (akF p)) (.ref 38) (forBody (akF p))) (askS2 p g cm gm (am1 a) (.wl 12 done.length) done.length (tR it r (chs g.w W) (chs g.w P))) .next σ ∧
     σ=askS2 p g cm gm (am1 a) .any g.rows.length (tR it' (rH r bs) (chs g.w W) (chs g.w P'))
   | (bs,some (i,l))=>P' ++ R' = (P ++ R).drop l∧Go ((RN p g.hs M).forl (askAe p) (forTgt (akF p)) (.ref 38) (forBody (akF p))) (askS2 p g cm gm (am1 a) (.wl 12 done.length) done.length (tR it r (chs g.w W) (chs g.w P))) (.ret (askV p)) σ ∧
     ∃ s T,W ++ (P ++ R).take l=s :: T∧AkEnd p g cm gm (tR it' (rT (rH r bs) (tkE g.w s.i (numT i) (tS ((s :: T).map (·.d))))) [] (chs g.w P')) σ
 | [],done,e0,r,hr,hh,hb,it,P,R,hi,hl,M,hM=>by
  obtain ⟨m,rfl⟩:∃ m,M=m + 20 + 1:=⟨M - 21,by omega⟩
  rw [List.append_nil] at e0
  have e1:(rH r [])=r:=by show ({ r with heard:=r.heard ++ [] }:R2)=r; rw [List.append_nil]
  refine ⟨it,P,R,_,hi,rfl,for_end (goEnE (j:=37) (l:=12) (k:=done.length) (xs:=rowsV g.rows) (by kernel_rfl) (by kernel_rfl) (by kernel_rfl) (by kernel_rfl) (by rw [List.getElem?_eq_none_iff,List.length_map,e0]; exact Nat.le_refl _) (Eq.refl _)),?_⟩
  rw [e1,e0]
  kernel_rfl
 | q :: qs,done,e0,r,hr,hh,hb,it,P,R,hi,hl,M,hM=>by
  rw [List.length_cons] at hh hM
  obtain ⟨m,rfl⟩:∃ m,M=m + 60 + 1 + 1:=⟨M - 62,by omega⟩
  have hq:RowOk q:=ho.hr q (by rw [e0]; simp)
  have hd:done.length≤4:=by have h1:=ho.rl; have h2:=congrArg List.length e0; rw [List.length_append] at h2; omega
  have n1:NO cm gm (am1 a):=⟨hc,hg,am1_ok⟩
  have n2:NO cm gm (am2 done.length q a):=⟨hc,hg,am2_ok hq⟩
  have gget:Go (eNextOwn (forTgt (akF p)) (.ref 38)) (askS2 p g cm gm (am1 a) (.wl 12 done.length) done.length (tR it r (chs g.w W) (chs g.w P))) (some (.tup [.int done.length,.lst q])) (askS2 p g cm gm (am1 a) (.wl 12 (done.length + 1)) (done.length + 1) (tR it r (chs g.w W) (chs g.w P))) :=
   goEn (j:=37) (l:=12) (k:=done.length) (xs:=rowsV g.rows) (by kernel_rfl) (by kernel_rfl) (by kernel_rfl) (by kernel_rfl) (by rw [e0]; simp) (by kernel_rfl)
  obtain ⟨it1,P1,R1,hi1,eU,gh⟩:=hear_go (p:=p) (e:=done.length + 1) (j:=done.length) ho n2 hr hq (W:=W) (P:=P) hi (by omega) (N:=m + 60) (by omega)
  have hr1:=hr.hear (bs:=[seqH q (P ++ R)]) (by rw [List.length_singleton]; omega)
  have gt:=hr_tst (p:=p) (g:=g) (cm:=cm) (gm:=gm) (m:=m) (q:=q) (a:=a) (e:=done.length + 1) (j:=done.length) (t:=tR it1 (rH r [seqH q (P ++ R)]) (chs g.w (W ++ _root_.cond (seqH q (P ++ R)) ((P ++ R).take q.length) [])) (chs g.w P1)) (b:=seqH q (P ++ R)) (h:=r.heard) rfl hr1.lh
  cases hs:seqH q (P ++ R) with
  | true =>
   rw [hs] at gh gt eU hr1
   rw [tryR_t hs]
   have hle:=seqH_le _ _ hs
   have hpos:=hq.pos
   obtain ⟨s,T,eT⟩:∃ s T,W ++ (P ++ R).take q.length=s :: T:=by
    cases h:W ++ (P ++ R).take q.length with
    | nil=>have h2:=congrArg List.length h; rw [List.length_append,List.length_take,List.length_nil] at h2; omega
    | cons s T=>exact ⟨s,T,rfl⟩
   have hT:(s :: T).length≤900:=by rw [← eT,List.length_append,List.length_take,List.length_append]; omega
   have gm0:=em_num (p:=p) (m:=m + 35) (e:=done.length) (g:=g) (s:=s) (W:=T) (pb:=chs g.w P1) ho (hr1) hb hi1 (cl_chs _) hT (by omega) n2
   rw [show _root_.cond true ((P ++ R).take q.length) []=(P ++ R).take q.length from rfl,eT] at gh gt
   refine ⟨it1,P1,R1,_,hi1,eU,for_ret gget (ak_asg (m:=m + 41)) (Go.exs (Go.eq ak_body (Go.cons gh (Go.consR (Go.if_ hr_if gt gm0))))),s,T,eT,?_⟩
   exact akEnd2 ho hc hg (hr1.emit hb) hi1.und CL.nil (cl_chs _)
  | false =>
   rw [hs] at gh gt eU hr1
   rw [show _root_.cond false ((P ++ R).take q.length) []=[] from rfl,List.append_nil] at gh gt
   rw [tryR_f hs]
   obtain ⟨it2,P2,R2,σ,hi2,rest⟩:=ak_loop ho hc hg W hW qs (done ++ [q]) (by rw [e0,List.append_assoc]; rfl) hr1 (by show (r.heard ++ boolsV [false]).length + _≤_; rw [List.length_append,List.length_map,List.length_singleton]; omega) hb (P:=P1) hi1 (by rw [← List.length_append,eU]; show (P ++ R).length≤_; rw [List.length_append]; omega) (m + 61) (by omega)
   rw [show P1 ++ R1=P ++ R from eU,List.length_append,List.length_singleton] at rest
   refine ⟨it2,P2,R2,σ,hi2,?_⟩
   have turn:∀ {fl:AFlow},Go ((RN p g.hs (m + 61)).forl (askAe p) (forTgt (akF p)) (.ref 38) (forBody (akF p))) (askS2 p g cm gm (am1 a) (.wl 12 (done.length + 1)) (done.length + 1) (tR it1 (rH r [false]) (chs g.w W) (chs g.w P1))) fl σ →
     Go ((RN p g.hs (m + 62)).forl (askAe p) (forTgt (akF p)) (.ref 38) (forBody (akF p))) (askS2 p g cm gm (am1 a) (.wl 12 done.length) done.length (tR it r (chs g.w W) (chs g.w P))) fl σ:=fun g2 =>
    for_turn gget (ak_asg (m:=m + 41)) (Go.exs (Go.eq ak_body (Go.cons gh (Go.stmt (Go.if_ hr_if gt ak_else))))) (Go.drop (N:=39) 35 ["number","sequence"] (und_s2 (wl:=.wl 12 (done.length + 1)) ho n1 hr1 (show 12 < 37 by decide) hi1.und (cl_chs _) (cl_chs _) (by decide)) (fun _=>by kernel_rfl)) g2
   generalize ht:tryR (done.length + 1) qs (P ++ R)=tr at rest ⊢
   obtain ⟨bs,o⟩:=tr
   cases o with
   | none =>
    obtain ⟨eu,g2,eσ⟩:=rest
    exact ⟨eu,turn g2,by rw [eσ,rH_app]; rfl⟩
   | some il =>
    obtain ⟨i,l⟩:=il
    obtain ⟨eu,g2,s,T,eT,ge⟩:=rest
    rw [rH_app] at ge
    exact ⟨eu,turn g2,s,T,eT,ge⟩
end
noncomputable def finSp (rows:List (List AV)) (W V:List Sg):List Bool × Option (Str × List Sg × List Sg) :=
 match tryR 0 rows V with
 | (bs,some (i,l))=>(bs,some (numT i,W ++ V.take l,V.drop l))
 | (bs,none)=>match W ++ V with
  | []=>(bs,none)
  | x :: U=>(bs,some ("ONE",[x],U))
noncomputable def turnSp (rows:List (List AV)):Bool→List Sg→List Bool × Option (Str × List Sg × List Sg)
 | true,[]=>([],none)
 | true,x :: V=>finSp rows [x] V
 | false,U=>finSp rows [] U
noncomputable def askFi (p:Params):FnI:=⟨fdArgs (LS p 11),askB p,fdScope (LS p 11),[("table",8),("left",7),("heard",6),("h",5),("ask",4)],[],.none⟩
noncomputable abbrev rL (r:R2) (l:List Bool):R2:={ r with left:=boolsV l }
theorem ROk.lft {r:R2} (h:ROk r) {l:List Bool} (hl:l.length≤900):ROk (rL r l):=⟨h.cg,h.ch,CL.bools l,h.cb,h.lg,h.lh,by rw [List.length_map]; exact hl,h.lb⟩
section
variable {p:Params} {g:G2} {cm gm am:List (Str × AV)} {r:R2} {q chars:List AV} {v c:AV} {m e j:Nat} {k:Int} {a b:Bool} {t:T2}
theorem ask_call:(RN p g.hs (m + 1)).call (askV p) [] []=eFn (RN p g.hs m) (askFi p) [] []:=by kernel_rfl
theorem ask_body:eExecs (ONE p g.hs (m + 100) (askAe p)) (askFi p).body=eExecs (ONE p g.hs (m + 100) (askAe p)) (nthS (askB p) 0 :: nthS (askB p) 1 :: nthS (askB p) 2 :: akF p :: nthS (askB p) 4 :: (askB p).drop 5):=by kernel_rfl
theorem ask_0 (h:t.left.length≤900) (hn:t.left.length ≠ 0):Go (ONE p g.hs (m + 30) (askAe p) (nthS (askB p) 0)) (askS p g cm gm [] t) .next (askS1 p g cm gm [] t) :=
 Go.by [.keep,.b false,.b false] (aa (show 0≤M6 by decide) <| aa (lM h) <| aa (show 0≤M6 by decide) <| aa hn <| aa rf trivial) (fun _=>by kernel_rfl)
theorem ask_0e (h:t.left=[]):Go (ONE p g.hs (m + 30) (askAe p) (nthS (askB p) 0)) (askS p g cm gm [] t) (.ret noneV) (askS1 p g cm gm [] t):=by
 obtain ⟨it,got,heard,left,ct,pb,tb⟩:=t
 cases h
 exact Go.by [.keep,.b true,.b true] (aa (show 0≤M6 by decide) <| aa (show 0≤M6 by decide) <| aa (show 0≤M6 by decide) <| aa (show ([]:List AV)=[]∧true=true from ⟨rfl,rfl⟩) <| aa rt trivial) (fun _=>by kernel_rfl)
theorem ask_1 {bl:List Bool} {ct pb:List AV} {it:Cell} (h:r.left=boolsV (a :: bl)) (hl:r.left.length≤900):Go (ONE p g.hs (m + 30) (askAe p) (nthS (askB p) 1)) (askS1 p g cm gm [] (tR it r ct pb)) .next (askS1 p g cm gm (am1 a) (tR it (rL r bl) ct pb)) :=
 Go.by [.cut (boolsV bl) (.bool a)] (aa (lM hl) <| aa h trivial) (fun _=>by kernel_rfl)
theorem ask_2i:ONE p g.hs (m + 30) (askAe p) (nthS (askB p) 2)=eBr ((RN p g.hs (m + 30)).tst (askAe p) (ifTest (nthS (askB p) 2))) ((RN p g.hs (m + 30)).exs (askAe p) (ifBody (nthS (askB p) 2))) ((RN p g.hs (m + 30)).exs (askAe p) (ifElse (nthS (askB p) 2))):=by kernel_rfl
theorem ask_2b {σ:St}:Go ((RN p g.hs (m + 30)).exs (askAe p) (ifBody (nthS (askB p) 2))) σ (.ret noneV) σ:=Go.by [] trivial (fun _=>by kernel_rfl)
theorem ask_2e {σ:St}:Go ((RN p g.hs (m + 30)).exs (askAe p) (ifElse (nthS (askB p) 2))) σ .next σ:=Go.by [] trivial (fun _=>by kernel_rfl)
theorem ask_3f:ONE p g.hs (m + 100) (askAe p) (akF p)=EM.bind ((RN p g.hs (m + 100)).ev (askAe p) (forIter (akF p))) fun v=>EM.bind (eIterOf v) fun it=>(RN p g.hs (m + 100)).forl (askAe p) (forTgt (akF p)) it (forBody (akF p)):=by kernel_rfl
theorem ask_3i:Go (EM.bind ((RN p g.hs (m + 100)).ev (askAe p) (forIter (akF p))) fun v=>eIterOf v) (askS1 p g cm gm (am1 a) t) (.ref 38) (askS2 p g cm gm (am1 a) (.wl 12 0) 0 t):=Go.by [] trivial (fun _=>by kernel_rfl)
theorem ask_4i:ONE p g.hs (m + 30) (askAe p) (nthS (askB p) 4)=eBr ((RN p g.hs (m + 30)).tst (askAe p) (ifTest (nthS (askB p) 4))) ((RN p g.hs (m + 30)).exs (askAe p) (ifBody (nthS (askB p) 4))) ((RN p g.hs (m + 30)).exs (askAe p) (ifElse (nthS (askB p) 4))):=by kernel_rfl
theorem ask_4b {σ:St}:Go ((RN p g.hs (m + 30)).exs (askAe p) (ifBody (nthS (askB p) 4))) σ (.ret noneV) σ:=Go.by [] trivial (fun _=>by kernel_rfl)
theorem ask_4e {σ:St}:Go ((RN p g.hs (m + 30)).exs (askAe p) (ifElse (nthS (askB p) 4))) σ .next σ:=Go.by [] trivial (fun _=>by kernel_rfl)
theorem one_no:Go ((RN p g.hs (m + 30)).tst (askAe p) (ifTest (nthS (askB p) 4))) (askS2 p g cm gm (am1 true) .any e t) false (askS2 p g cm gm (am1 true) .any e t):=Go.by [.b false] (aa rf trivial) (fun _=>by kernel_rfl)
theorem one_go (ho:GOk g) (hn:NO cm gm (am1 false)) (hr:ROk r) {it:Cell} {W P R:List Sg} (hi:ItOk g it R) (hl:W.length + P.length + R.length≤900) :
  ∃ it' P' R',(P ++ R).tail=P' ++ R'∧ItOk g it' R'∧Go ((RN p g.hs (m + 30)).tst (askAe p) (ifTest (nthS (askB p) 4))) (askS2 p g cm gm (am1 false) .any e (tR it r (chs g.w W) (chs g.w P))) (isNo (nxV g.w (P ++ R))) (askS2 p g cm gm (am1 false) .any e (tR it' r (chs g.w (nxW W (P ++ R))) (chs g.w P'))) :=
 nx_site (x:=(RN p g.hs (m + 30)).tst (askAe p) (ifTest (nthS (askB p) 4))) (S:=askS2 p g cm gm (am1 false) .any e) (S':=fun _=>askS2 p g cm gm (am1 false) .any e) (f:=isNo)
  (fun it ct pb s ui c1 c2 l1 l2=>Go.by [.b true,.b true,.cut pb (s.chr g.w),.b true,.b false,.b false,.norm,.b false] (aa rt <| aa (lM2 (x:=s.chr g.w) l2) <| aa rt <| aa (lM1 (x:=s.chr g.w) l2) <| aa (Eq.refl (s.chr g.w :: pb)) <| aa rt <| aa (lM l1) <| aa rf <| aa rf <|
   aa (show UV 39 (s.chr g.w) (askS2 p g cm gm (am1 false) .any e (tR it r (ct ++ [s.chr g.w]) pb)).objs from ⟨clo_chr _ _,und_s2 (wl:=.any) ho hn hr trivial ui (c1.one s) c2 (by decide)⟩) <| aa rf trivial) (fun _=>by kernel_rfl))
  (fun ct s j c1 l1 hj=>Go.by [.b true,.b false,.cut [] (s.chr g.w),.b true,.b false,.b false,.norm,.b false] (aa rt <| aa l0M <| aa rf <| aa hj <| aa rt <| aa (lM l1) <| aa rf <| aa rf <|
   aa (show UV 39 (s.chr g.w) (askS2 p g cm gm (am1 false) .any e (tR (.liter 20 (j + 1)) r (ct ++ [s.chr g.w]) [])).objs from ⟨clo_chr _ _,und_s2 (wl:=.any) ho hn hr trivial liU (c1.one s) CL.nil (by decide)⟩) <| aa rf trivial) (fun _=>by kernel_rfl))
  (fun ct j c1 hj=>Go.by [.b true,.b false,.b false,.b false,.b false,.b false,.norm,.b true] (aa rt <| aa l0M <| aa rf <| aa hj <| aa rf <| aa rf <| aa rf <|
   aa (show UV 39 noneV (askS2 p g cm gm (am1 false) .any e (tR .lend r ct [])).objs from ⟨.val _,und_s2 (wl:=.any) ho hn hr trivial leU c1 CL.nil (by decide)⟩) <| aa rt trivial) (fun _=>by kernel_rfl))
  (fun ct c1=>Go.by [.b true,.b false,.b false,.b false,.b false,.norm,.b true] (aa rt <| aa l0M <| aa rf <| aa rf <| aa rf <| aa rf <|
   aa (show UV 39 noneV (askS2 p g cm gm (am1 false) .any e (tR .lend r ct [])).objs from ⟨.val _,und_s2 (wl:=.any) ho hn hr trivial leU c1 CL.nil (by decide)⟩) <| aa rt trivial) (fun _=>by kernel_rfl))
  hi hl
noncomputable def AskR (p:Params) (g:G2) (cm gm:List (Str × AV)) (r:R2) (R':List Sg) (it':Cell) (P':List Sg) (x:EM AFlow) (σ0:St):List Bool × Option (Str × List Sg × List Sg)→Prop
 | (bs,none)=>∃ σ,Go x σ0 (.ret noneV) σ∧AkEnd p g cm gm (tR it' (rH r bs) [] (chs g.w P')) σ
 | (bs,some (ty,T,V))=>V=P' ++ R'∧∃ σ s T',T=s :: T'∧Go x σ0 (.ret (askV p)) σ∧AkEnd p g cm gm (tR it' (rT (rH r bs) (tkE g.w s.i ty (tS ((s :: T').map (·.d))))) [] (chs g.w P')) σ
theorem AskR.map {R' P':List Sg} {it':Cell} {x y:EM AFlow} {σ0 σ1:St} {o:List Bool × Option (Str × List Sg × List Sg)} (h:AskR p g cm gm r R' it' P' x σ0 o) (f:∀ {v:AV} {σ:St},Go x σ0 (.ret v) σ→Go y σ1 (.ret v) σ):AskR p g cm gm r R' it' P' y σ1 o:=by
 obtain ⟨bs,o⟩:=o
 cases o with
 | none=>exact h.elim fun σ q=>⟨σ,f q.1,q.2⟩
 | some o =>
  obtain ⟨ty,T,V⟩:=o
  obtain ⟨e,σ,s,T',e2,g1,g2⟩:=h
  exact ⟨e,σ,s,T',e2,f g1,g2⟩
noncomputable abbrev tl3 (p:Params):List Stmt:=akF p :: nthS (askB p) 4 :: (askB p).drop 5
theorem ask_fin (ho:GOk g) (hc:NsOk 35 cm) (hg:NsOk 35 gm) (hr:ROk r) (hh:r.heard.length + 4≤900) (hb:r.tb.length≤899) (W:List Sg) (hW:W.length=(_root_.cond a 1 0)) {it:Cell} {P R:List Sg} (hi:ItOk g it R) (hl:P.length + R.length≤700) :
  ∃ it' P' R',ItOk g it' R'∧P'.length + R'.length≤P.length + R.length∧AskR p g cm gm r R' it' P' (eExecs (ONE p g.hs (m + 100) (askAe p)) (tl3 p)) (askS1 p g cm gm (am1 a) (tR it r (chs g.w W) (chs g.w P))) (finSp g.rows W (P ++ R)):=by
 have n1:NO cm gm (am1 a):=⟨hc,hg,am1_ok⟩
 have hW1:W.length≤1:=by cases a <;> rw [hW] <;> decide
 have hle:=ho.rl
 obtain ⟨it1,P1,R1,σ,hi1,rest⟩:=ak_loop (p:=p) (a:=a) ho hc hg W hW1 g.rows [] rfl hr (by omega) hb (P:=P) hi hl (m + 100) (by omega)
 have htl:=tryR_le 0 g.rows (P ++ R)
 rw [List.length_nil] at rest
 unfold finSp
 generalize tryR 0 g.rows (P ++ R)=tr at rest htl ⊢
 obtain ⟨bs,o⟩:=tr
 cases o with
 | some il =>
  obtain ⟨i,l⟩:=il
  obtain ⟨eu,g2,s,T,eT,ge⟩:=rest
  have hlen:=congrArg List.length eu
  rw [List.length_append,List.length_drop,List.length_append] at hlen
  exact ⟨it1,P1,R1,hi1,by omega,eu.symm,σ,s,T,eT,Go.consR (Go.for_ ask_3f ask_3i g2),ge⟩
 | none =>
  obtain ⟨eu,g2,eσ⟩:=rest
  subst eσ
  have hr1:ROk (rH r bs):=hr.hear (by have:bs.length≤g.rows.length:=htl; omega)
  have hlen:P1.length + R1.length=P.length + R.length:=by rw [← List.length_append,eu,List.length_append]
  rw [← eu]
  cases a with
  | true =>
   obtain ⟨x,rfl⟩:∃ x,W=[x]:=by
    cases W with
    | nil=>cases hW
    | cons x W=>cases W with
     | nil=>exact ⟨x,rfl⟩
     | cons=>cases hW
   have gm0:=em_one (p:=p) (m:=m + 76) (e:=g.rows.length) (s:=x) (W:=[]) (pb:=chs g.w P1) ho hr1 hb hi1 (cl_chs _) (show 1≤900 by decide) (a:=true) n1
   exact ⟨it1,P1,R1,hi1,Nat.le_of_eq hlen,rfl,_,x,[],rfl,Go.cons (Go.for_ ask_3f ask_3i g2) (Go.cons (Go.if_ (ask_4i (m:=m + 70)) (one_no (m:=m + 70)) (ask_4e (m:=m + 70))) (Go.unexs gm0)),
    akEnd2 ho hc hg (hr1.emit hb) hi1.und CL.nil (cl_chs _)⟩
  | false =>
   obtain rfl:W=[]:=List.eq_nil_of_length_eq_zero hW
   obtain ⟨it2,P2,R2,eU,hi2,g4⟩:=one_go (p:=p) (m:=m + 70) (e:=g.rows.length) ho n1 hr1 (W:=[]) (P:=P1) hi1 (by rw [List.length_nil]; omega)
   cases hU:P1 ++ R1 with
   | nil =>
    rw [hU] at g4 eU
    obtain ⟨hP2,hR2⟩:=List.append_eq_nil_iff.mp eU.symm
    subst hP2 hR2
    exact ⟨it2,[],[],hi2,Nat.zero_le _,_,Go.cons (Go.for_ ask_3f ask_3i g2) (Go.consR (Go.if_ (ask_4i (m:=m + 70)) g4 (ask_4b (m:=m + 70)))),akEnd2 ho hc hg hr1 hi2.und CL.nil CL.nil⟩
   | cons x U =>
    rw [hU] at g4 eU
    have h2:=congrArg List.length hU
    have h3:=congrArg List.length eU
    rw [List.length_append,List.length_cons] at h2
    rw [List.length_append,List.tail_cons] at h3
    have gm0:=em_one (p:=p) (m:=m + 76) (e:=g.rows.length) (s:=x) (W:=[]) (pb:=chs g.w P2) ho hr1 hb hi2 (cl_chs _) (show 1≤900 by decide) (a:=false) n1
    exact ⟨it2,P2,R2,hi2,by omega,eU,_,x,[],rfl,Go.cons (Go.for_ ask_3f ask_3i g2) (Go.cons (Go.if_ (ask_4i (m:=m + 70)) g4 (ask_4e (m:=m + 70))) (Go.unexs gm0)),
     akEnd2 ho hc hg (hr1.emit hb) hi2.und CL.nil (cl_chs _)⟩
theorem ask_exs (ho:GOk g) (hc:NsOk 35 cm) (hg:NsOk 35 gm) (hr:ROk r) (hh:r.heard.length + 4≤900) (hb:r.tb.length≤899) {bl:List Bool} (hbl:r.left=boolsV (a :: bl)) {it:Cell} {P R:List Sg} (hi:ItOk g it R) (hl:P.length + R.length≤700) :
  ∃ it' P' R',ItOk g it' R'∧P'.length + R'.length≤P.length + R.length∧AskR p g cm gm (rL r bl) R' it' P' (eExecs (ONE p g.hs (m + 100) (askAe p)) (askFi p).body) (askS p g cm gm [] (tR it r [] (chs g.w P))) (turnSp g.rows a (P ++ R)):=by
 have hll:=hr.ll
 have e1:r.left.length=bl.length + 1:=by rw [hbl,List.length_map,List.length_cons]
 have hrl:ROk (rL r bl):=hr.lft (by omega)
 have s0:=ask_0 (p:=p) (g:=g) (cm:=cm) (gm:=gm) (m:=m + 70) (t:=tR it r [] (chs g.w P)) hll (by show r.left.length ≠ 0; omega)
 have s1:=ask_1 (p:=p) (g:=g) (cm:=cm) (gm:=gm) (m:=m + 70) (it:=it) (ct:=[]) (pb:=chs g.w P) hbl hll
 cases a with
 | false =>
  obtain ⟨it',P',R',hi',hl',ha⟩:=ask_fin (p:=p) (m:=m) (a:=false) ho hc hg hrl hh hb [] rfl (P:=P) hi hl
  exact ⟨it',P',R',hi',hl',ha.map fun h=>Go.eq ask_body (Go.cons s0 (Go.cons s1 (Go.cons (Go.if_ (ask_2i (m:=m + 70)) (ahead_no (m:=m + 75)) (ask_2e (m:=m + 70))) h)))⟩
 | true =>
  have n1:NO cm gm (am1 true):=⟨hc,hg,am1_ok⟩
  obtain ⟨it1,P1,R1,eU,hi1,g2⟩:=ahead_go (p:=p) (m:=m + 75) ho n1 hrl (W:=[]) (P:=P) hi (by rw [List.length_nil]; omega)
  cases hU:P ++ R with
  | nil =>
   rw [hU] at g2 eU
   obtain ⟨hP2,hR2⟩:=List.append_eq_nil_iff.mp eU.symm
   subst hP2 hR2
   refine ⟨it1,[],[],hi1,Nat.zero_le _,_,Go.eq ask_body (Go.cons s0 (Go.cons s1 (Go.consR (Go.if_ (ask_2i (m:=m + 70)) g2 (ask_2b (m:=m + 70)))))),?_⟩
   have e2:(rH (rL r bl) [])=rL r bl:=by show ({ rL r bl with heard:=r.heard ++ [] }:R2)=_; rw [List.append_nil]
   rw [e2]
   exact akEnd1 ho hc hg hrl hi1.und CL.nil CL.nil
  | cons x V =>
   rw [hU] at g2 eU
   have h2:=congrArg List.length hU
   have h3:=congrArg List.length eU
   rw [List.length_append,List.length_cons] at h2
   rw [List.length_append,List.tail_cons] at h3
   obtain ⟨it',P',R',hi',hl',ha⟩:=ask_fin (p:=p) (m:=m) (a:=true) ho hc hg hrl hh hb [x] rfl (P:=P1) hi1 (by omega)
   rw [← eU,List.tail_cons] at ha
   exact ⟨it',P',R',hi',by omega,ha.map fun h=>Go.eq ask_body (Go.cons s0 (Go.cons s1 (Go.cons (Go.if_ (ask_2i (m:=m + 70)) g2 (ask_2e (m:=m + 70))) h)))⟩
theorem ask_fn {v:AV} {σ:St} {t t':T2} (hv:Und 35 v) (h:Go (eExecs (ONE p g.hs (m + 100) (askAe p)) (askFi p).body) (askS p g cm gm [] t) (.ret v) σ) (he:AkEnd p g cm gm t' σ):Go ((RN p g.hs (m + 102)).call (askV p) [] []) (genS p g cm gm t) v (genS p g cm gm t') :=
 Go.eq ask_call (Go.fn (ae:=askAe p) (σ1:=askS p g cm gm [] t) (by kernel_rfl) (binds:=[]) (by kernel_rfl) (Go.by [] trivial (fun _=>by kernel_rfl)) (Go.bind (Go.exs h) (Go.rt (he v hv))))
theorem ask_none (ho:GOk g) (hc:NsOk 35 cm) (hg:NsOk 35 gm) (hr:ROk r) (hbl:r.left=[]) {it:Cell} {P R:List Sg} (hi:ItOk g it R):Go ((RN p g.hs (m + 102)).call (askV p) [] []) (genS p g cm gm (tR it r [] (chs g.w P))) noneV (genS p g cm gm (tR it r [] (chs g.w P))) :=
 ask_fn (.val _) (Go.eq ask_body (Go.consR (ask_0e (m:=m + 70) hbl))) (akEnd1 ho hc hg hr hi.und CL.nil (cl_chs _))
end
noncomputable def gtx (p:Params):GText:=(gtextOf (fnAt2 p 163).body).getD ⟨[],.Constant .none 0 default,.Constant .none 0 default,.Constant .none 0 default,[],default,default,default,default⟩
noncomputable def gAe (p:Params):AEnv:=⟨(fnAt2 p 163).scope,32,[],.none,32⟩
noncomputable def gmOf (p:Params) (x:AV):List (Str × AV):=[("start_state",askV p),("characters",.ref 31),("self",.ref 24),("state",x)]
noncomputable abbrev stE (p:Params):PySem.Expr:=callFn' (asgVal (nthS (gtx p).rest 0))
noncomputable def compElt:PySem.Expr→PySem.Expr
 | .ListComp e _ _ _=>e
 | e=>e
noncomputable def compTgt:PySem.Expr→PySem.Expr
 | .ListComp _ (⟨t,_,_,_⟩ :: _) _ _=>t
 | e=>e
noncomputable def compIter:PySem.Expr→PySem.Expr
 | .ListComp _ (⟨_,i,_,_⟩ :: _) _ _=>i
 | e=>e
noncomputable def compSc:PySem.Expr→Scope
 | .ListComp _ _ s _=>s
 | _=>default
noncomputable def cE (p:Params):PySem.Expr:=asgVal (LS p 12)
noncomputable def cAe (p:Params):AEnv:=⟨compSc (cE p),34,[],.none,3⟩
noncomputable abbrev rsS (p:Params):Stmt:=nthS (gtx p).rest 0
section
variable {p:Params} {g:G2} {cm gm:List (Str × AV)} {t:T2} {m:Nat} {v:AV}
theorem rest_exs:(RN p g.hs (m + 1)).exs (gAe p) (gtx p).rest=eExecs (ONE p g.hs m (gAe p)) [rsS p]:=by kernel_rfl
theorem rest_one:ONE p g.hs m (gAe p) (rsS p)=EM.bind ((RN p g.hs m).ev (gAe p) (asgVal (rsS p))) fun v=>EM.bind (eAssign (KK p) (RN p g.hs m) (gAe p) v (asgTgt (rsS p))) fun _=>EM.ret .next:=by kernel_rfl
theorem rest_ev:(RN p g.hs (m + 1)).ev (gAe p) (asgVal (rsS p))=EM.bind ((RN p g.hs m).ev (gAe p) (stE p)) fun f=>eCallWith (KK p) (RN p g.hs m) (gAe p) f [] [] []:=by kernel_rfl
theorem call_A:eCallWith (KK p) (RN p g.hs m) (gAe p) (askV p) [] [] []=EM.bind (eArgs2 (RN p g.hs m) (gAe p) [] []) fun q=>(RN p g.hs m).call (askV p) ([] ++ q.1) q.2:=by kernel_rfl
theorem gg1A:Go ((RN p g.hs (m + 10)).tst (gAe p) (gtx p).test1) (genS p g cm (gmOf p (askV p)) t) true (genS p g cm (gmOf p (askV p)) t):=Go.by [] trivial (fun _=>by kernel_rfl)
theorem gg1N:Go ((RN p g.hs (m + 10)).tst (gAe p) (gtx p).test1) (genS p g cm (gmOf p noneV) t) false (genS p g cm (gmOf p noneV) t):=Go.by [] trivial (fun _=>by kernel_rfl)
theorem ggnA:Go ((RN p g.hs (m + 10)).ev (gAe p) (stE p)) (genS p g cm (gmOf p (askV p)) t) (askV p) (genS p g cm (gmOf p (askV p)) t):=Go.by [] trivial (fun _=>by kernel_rfl)
theorem ggaA:Go (eAssign (KK p) (RN p g.hs (m + 10)) (gAe p) v (asgTgt (rsS p))) (genS p g cm (gmOf p (askV p)) t) PUnit.unit (genS p g cm (gmOf p v) t):=Go.by [] trivial (fun _=>by kernel_rfl)
theorem gg2a {x:AV} (h:t.tb=[]):Go ((RN p g.hs (m + 10)).tst (gAe p) (gtx p).test2) (genS p g cm (gmOf p x) t) false (genS p g cm (gmOf p x) t):=by
 obtain ⟨it,got,heard,left,ct,pb,tb⟩:=t
 cases h
 exact Go.by [] (aa (show 0 < 4611686018427387904 by decide) trivial) (fun _=>by kernel_rfl)
theorem gg2b {x tok:AV} (h:t.tb=[tok]):Go ((RN p g.hs (m + 10)).tst (gAe p) (gtx p).test2) (genS p g cm (gmOf p x) t) true (genS p g cm (gmOf p x) t):=by
 obtain ⟨it,got,heard,left,ct,pb,tb⟩:=t
 cases h
 exact Go.by [] (aa (show 1 < 4611686018427387904 by decide) trivial) (fun _=>by kernel_rfl)
theorem ggi {x tok:AV} (h:t.tb=[tok]):Go ((RN p g.hs (m + 10)).ev (gAe p) (gtx p).item) (genS p g cm (gmOf p x) t) tok (genS p g cm (gmOf p x) { t with tb:=[] }):=by
 obtain ⟨it,got,heard,left,ct,pb,tb⟩:=t
 cases h
 exact Go.by [.cut [] tok] (aa (show 1≤M6 by decide) <| aa (Eq.refl [tok]) trivial) (fun _=>by kernel_rfl)
theorem restA {t':T2} (h:Go ((RN p g.hs (m + 10)).call (askV p) [] []) (genS p g cm (gmOf p (askV p)) t) v (genS p g cm (gmOf p (askV p)) t')):Go ((RN p g.hs (m + 12)).exs (gAe p) (gtx p).rest) (genS p g cm (gmOf p (askV p)) t) .next (genS p g cm (gmOf p v) t'):=by
 refine Go.eq rest_exs (Go.stmt (Go.eq rest_one (Go.bind (b:=v) (σ':=genS p g cm (gmOf p (askV p)) t') ?_ (Go.bind (ggaA (m:=m + 1)) Go.ret))))
 refine Go.eq rest_ev (ggnA.bind (Go.eq call_A ((Go.by (b:=([],[])) (σ':=genS p g cm (gmOf p (askV p)) t) [] trivial (fun _=>by kernel_rfl)).bind h)))
end
section
variable {r:Rec} {t:GText} {gae:AEnv} {σ σ' σ'':St} {f:Nat} {o:Option AV} {v:AV}
theorem seg1_go (h1:Go (r.tst gae t.test1) σ true σ) (h2:Go (gSeg2 r t gae f) σ o σ'):Go (gSeg1 r t gae (f + 1)) σ o σ':=Go.br h1 h2
theorem seg1_end (h1:Go (r.tst gae t.test1) σ false σ):Go (gSeg1 r t gae (f + 1)) σ none σ:=Go.br h1 Go.ret
theorem seg2_item (h1:Go (r.tst gae t.test2) σ true σ) (h2:Go (r.ev gae t.item) σ v σ'):Go (gSeg2 r t gae (f + 1)) σ (some v) σ':=Go.br h1 (show Go (EM.bind (r.ev gae t.item) fun v=>EM.ret (some v)) σ (some v) σ' from Go.bind h2 Go.ret)
theorem seg2_rest (h1:Go (r.tst gae t.test2) σ false σ) (h2:Go (r.exs gae t.rest) σ .next σ') (h3:Go (gSeg1 r t gae f) σ' o σ''):Go (gSeg2 r t gae (f + 1)) σ o σ'':=Go.br h1 (show Go (EM.bind (r.exs gae t.rest) fun fl=>onFl fl (gSeg1 r t gae f) (fun _=>EM.fail) EM.fail) σ o σ'' from Go.bind h2 h3)
end
noncomputable def runSp (rows:List (List AV)):List Bool→List Sg→List Bool × List (Str × List Sg)
 | [],_=>([],[])
 | a :: bl,U=>match turnSp rows a U with
  | (bs,none)=>(bs,[])
  | (bs,some (ty,T,V))=>(bs ++ (runSp rows bl V).1,(ty,T) :: (runSp rows bl V).2)
noncomputable def evT (w:Int):Str × List Sg→AV
 | (ty,[])=>noneV
 | (ty,s :: T)=>.tup [.str ty,.str (tS ((s :: T).map (·.d))),.str (fS w s.i),.int (rI w s.i),.int (cI w s.i)]
theorem evT_cl {w:Int} (q:Str × List Sg):∀ N,Und N (evT w q):=fun N=>by
 obtain ⟨ty,T⟩:=q
 cases T with
 | nil=>exact .val _
 | cons s T=>exact CL.tup (CL.cons (fun _=>.str _) (CL.cons (fun _=>.str _) (CL.cons (fun _=>.str _) (CL.cons (fun _=>.int _) (CL.cons (fun _=>.int _) CL.nil))))) N
noncomputable def CmOk (cm:List (Str × AV)):Prop:=cm=[] ∨ ∃ z:AV,cm=[((Str.ofString "t" : Str),z)]∧∀ N,Und N z
theorem CmOk.ns {cm:List (Str × AV)} (h:CmOk cm) {N:Nat}:NsOk N cm:=by
 rcases h with rfl | ⟨z,rfl,h⟩
 ·exact .nil
 ·exact .cons (h N) .nil
theorem gmOk {p:Params} {x:AV} {N:Nat} (hN:32≤N) (h:Und N x):NsOk N (gmOf p x):=.cons (ask_und (by omega)) (.cons (.ref (by omega)) (.cons (.ref (by omega)) (.cons h .nil)))
noncomputable abbrev gF (p:Params) (g:G2) (L k:Nat) (b:Bool):EM AFlow:=gFor (RN p g.hs L) (gtx p) (gAe p) (eLap (KK p) (RN p g.hs L) (cAe p) (compElt (cE p)) (compTgt (cE p)) (.ref 33)) 35 10 k b
noncomputable abbrev gHd (p:Params) (g:G2) (L:Nat) (b:Bool):EM (Option AV):=_root_.cond b (gSeg0 (RN p g.hs L) (gtx p) (gAe p) 10) (gSeg2 (RN p g.hs L) (gtx p) (gAe p) 10)
noncomputable abbrev rG (r:R2) (x:AV):R2:={ r with got:=r.got ++ [x] }
section
variable {p:Params} {g:G2} {cm gm:List (Str × AV)} {r:R2} {m k:Nat} {b:Bool}
theorem gF_go {L:Nat} {o:Option AV} {σ σ₁ σ':St} {fl:AFlow} (h1:Go (gHd p g L b) σ o σ₁) (h2:Go (onSome o (fun v=>EM.bind (gBody (eLap (KK p) (RN p g.hs L) (cAe p) (compElt (cE p)) (compTgt (cE p)) (.ref 33)) 35 (gAe p).loc v) fun _=>gF p g L k false) (EM.ret .next)) σ₁ fl σ'):Go (gF p g L (k + 1) b) σ fl σ' :=
 show Go (EM.bind (gHd p g L b) fun o=>onSome o (fun v=>EM.bind (gBody (eLap (KK p) (RN p g.hs L) (cAe p) (compElt (cE p)) (compTgt (cE p)) (.ref 33)) 35 (gAe p).loc v) fun _=>gF p g L k false) (EM.ret .next)) σ fl σ' from Go.bind h1 h2
theorem gfor_none {L:Nat} {σ σ':St} (h1:Go (gHd p g L b) σ none σ'):Go (gF p g L (k + 1) b) σ .next σ':=gF_go h1 Go.ret
theorem gt_go {t:T2} {s:Sg} {ty x:Str} (h:CmOk cm):Go (eAssign (KK p) (RN p g.hs (m + 20)) (cAe p) (tkE g.w s.i ty x) (compTgt (cE p))) (genS p g cm gm t) PUnit.unit (genS p g [("t",tkE g.w s.i ty x)] gm t):=by
 rcases h with rfl | ⟨z,rfl,h⟩
 ·exact Go.by [] trivial (fun _=>by kernel_rfl)
 ·exact Go.by [] trivial (fun _=>by kernel_rfl)
theorem gelt {t:T2} {s:Sg} {ty x:Str} (hl:t.got.length≤900):Go (EM.bind (EM.bind ((RN p g.hs (m + 20)).ev (cAe p) (compElt (cE p))) fun x=>eAppend [.ref 33,x]) fun _=>EM.ret .next) (genS p g [("t",tkE g.w s.i ty x)] gm t) AFlow.next
  (genS p g [("t",tkE g.w s.i ty x)] gm { t with got:=t.got ++ [.tup [.str ty,.str x,.str (fS g.w s.i),.int (rI g.w s.i),.int (cI g.w s.i)]] }):=Go.by [] (aa (show 5≤M6 by decide) <| aa (lM hl) trivial) (fun _=>by kernel_rfl)
theorem gfor_turn {it:Cell} {pb:List AV} {s:Sg} {T:List Sg} {ty:Str} {σ σ':St} {fl:AFlow} (ho:GOk g) (hcm:CmOk cm) (hg:∀ {N},35≤N→NsOk N gm) (hr:ROk r) (hl:r.got.length≤899) (hi:UndC 32 it) (hp:CL pb)
  (h1:Go (gHd p g (m + 20) b) σ (some (tkE g.w s.i ty (tS ((s :: T).map (·.d))))) (genS p g cm gm (tR it r [] pb)))
  (h2:Go (gF p g (m + 20) k false) (genS p g [("t",tkE g.w s.i ty (tS ((s :: T).map (·.d))))] gm (tR it (rG r (evT g.w (ty,s :: T))) [] pb)) fl σ'):Go (gF p g (m + 20) (k + 1) b) σ fl σ':=by
 have hz:∀ N,Und N (tkE g.w s.i ty (tS ((s :: T).map (·.d)))):=tk_cl.all _ (.head _)
 have hr':ROk (rG r (evT g.w (ty,s :: T))):=⟨hr.cg.app (CL.cons (evT_cl _) CL.nil),hr.ch,hr.cl,hr.cb,by show (r.got ++ [_]).length≤900; rw [List.length_append,List.length_singleton]; omega,hr.lh,hr.ll,hr.lb⟩
 have u:=und_gen (p:=p) ho (hr.ok hi CL.nil hp) (Nat.le_refl 35) hcm.ns (hg (Nat.le_refl _))
 have u':=und_gen (p:=p) (N:=35) (gm:=gm) (cm:=[("t",tkE g.w s.i ty (tS ((s :: T).map (·.d))))]) ho (hr'.ok hi CL.nil hp) (Nat.le_refl 35) (.cons (hz 35) .nil) (hg (Nat.le_refl 35))
 refine gF_go h1 (Go.sm (Go.bind (b:=()) (σ':=genS p g [("t",tkE g.w s.i ty (tS ((s :: T).map (·.d))))] gm (tR it (rG r (evT g.w (ty,s :: T))) [] pb)) ?_ h2))
 refine Go.bind (b:=()) (σ':=genS p g cm gm (tR it r [] pb)) (Go.by [] (aa (show Und 35 _∧UC 35 (genC p g cm gm (tR it r [] pb)) from ⟨hz _,u⟩) trivial) (fun _=>by kernel_rfl)) ?_
 refine Go.bind (b:=.next) (σ':=genS p g [("t",tkE g.w s.i ty (tS ((s :: T).map (·.d))))] gm (tR it (rG r (evT g.w (ty,s :: T))) [] pb)) (Go.bind (gt_go hcm) ?_) ?_
 ·exact gelt (t:=tR it r [] pb) hr.lg
 ·exact Go.by [] (aa (show UC 35 (genC p g [("t",tkE g.w s.i ty (tS ((s :: T).map (·.d))))] gm (tR it (rG r (evT g.w (ty,s :: T))) [] pb)) from u') trivial) (fun _=>by kernel_rfl)
theorem finSp_le (rows:List (List AV)) (W V:List Sg):(finSp rows W V).1.length≤rows.length:=by
 have h:=tryR_le 0 rows V
 unfold finSp
 generalize tryR 0 rows V=tr at h ⊢
 obtain ⟨bs,o⟩:=tr
 cases o with
 | some il=>exact h
 | none=>dsimp only; cases W ++ V <;> exact h
theorem turnSp_le (rows:List (List AV)):∀ (a:Bool) (U:List Sg),(turnSp rows a U).1.length≤rows.length
 | true,[]=>Nat.zero_le _
 | true,x :: V=>finSp_le ..
 | false,U=>finSp_le ..
theorem runSp_n {rows:List (List AV)} {a:Bool} {bl:List Bool} {U:List Sg} {bs:List Bool} (h:turnSp rows a U=(bs,none)):runSp rows (a :: bl) U=(bs,[]):=by rw [runSp,h]
theorem runSp_s {rows:List (List AV)} {a:Bool} {bl:List Bool} {U V T:List Sg} {bs:List Bool} {ty:Str} (h:turnSp rows a U=(bs,some (ty,T,V))):runSp rows (a :: bl) U=(bs ++ (runSp rows bl V).1,(ty,T) :: (runSp rows bl V).2):=by rw [runSp,h]
theorem gfor_go (ho:GOk g) (hm:90≤m):∀ (bl:List Bool) (cm:List (Str × AV)) (hcm:CmOk cm) (r:R2) (hr:ROk r) (hleft:r.left=boolsV bl) (htb:r.tb=[]) (hh:r.heard.length + 4 * bl.length≤896) (hgl:r.got.length + bl.length≤890) (it:Cell) (P R:List Sg) (hi:ItOk g it R) (hl:P.length + R.length≤700) (k:Nat) (hk:bl.length + 1≤k) (b:Bool) (f:Nat) (σ:St)
  (hf:∀ o σ',Go (gSeg2 (RN p g.hs (m + 20)) (gtx p) (gAe p) (f + 6)) (genS p g cm (gmOf p (askV p)) (tR it r [] (chs g.w P))) o σ'→Go (gHd p g (m + 20) b) σ o σ'),
  ∃ cm' it' r' pb',CmOk cm'∧ROk r'∧UndC 32 it'∧CL pb'∧r'.heard=r.heard ++ boolsV (runSp g.rows bl (P ++ R)).1∧r'.got=r.got ++ (runSp g.rows bl (P ++ R)).2.map (evT g.w) ∧
   Go (gF p g (m + 20) k b) σ .next (genS p g cm' (gmOf p noneV) (tR it' r' [] pb')):=by
 intro bl
 induction bl with
 | nil =>
  intro cm hcm r hr hleft htb hh hgl it P R hi hl k hk b f σ hf
  obtain ⟨k,rfl⟩:∃ k',k=k' + 1:=⟨k - 1,by omega⟩
  obtain ⟨m',rfl⟩:∃ m',m=m' + 90:=⟨m - 90,by omega⟩
  have hc:=ask_none (p:=p) (m:=m' + 6) ho hcm.ns (gmOk (p:=p) (x:=askV p) (by decide) (ask_und (by decide))) hr hleft (P:=P) hi
  refine ⟨cm,it,r,chs g.w P,hcm,hr,hi.und,cl_chs _,(List.append_nil _).symm,(List.append_nil _).symm,gfor_none (hf _ _ ?_)⟩
  exact seg2_rest (gg2a (m:=m' + 100) htb) (restA (m:=m' + 98) hc) (seg1_end (gg1N (m:=m' + 100)))
 | cons a bl ih =>
  intro cm hcm r hr hleft htb hh hgl it P R hi hl k hk b f σ hf
  rw [List.length_cons] at hk hh hgl
  obtain ⟨k,rfl⟩:∃ k',k=k' + 1:=⟨k - 1,by omega⟩
  obtain ⟨n,rfl⟩:∃ n,m=n + 90:=⟨m - 90,by omega⟩
  have hgm:∀ {N},35≤N→NsOk N (gmOf p (askV p)):=fun h=>gmOk (by omega) (ask_und (by omega))
  have hbl:bl.length≤900:=by omega
  obtain ⟨got,heard,left,tb⟩:=r
  dsimp only at hleft htb hh hgl
  subst hleft htb
  obtain ⟨it',P',R',hi',hl',ha⟩:=ask_exs (p:=p) (m:=n + 6) ho hcm.ns (hgm (Nat.le_refl _)) hr (by dsimp only; omega) (Nat.zero_le _) rfl (P:=P) hi hl
  have hsp:=turnSp_le g.rows a (P ++ R)
  have hrl:=ho.rl
  generalize ht:turnSp g.rows a (P ++ R)=tr at ha hsp
  obtain ⟨bs,o⟩:=tr
  have hr1:ROk (rH (rL ⟨got,heard,boolsV (a :: bl),[]⟩ bl) bs):=(hr.lft hbl).hear (by dsimp only; have:bs.length≤g.rows.length:=hsp; omega)
  cases o with
  | none =>
   obtain ⟨σ1,g1,g2⟩:=ha
   rw [runSp_n ht]
   refine ⟨cm,it',rH (rL ⟨got,heard,boolsV (a :: bl),[]⟩ bl) bs,chs g.w P',hcm,hr1,hi'.und,cl_chs _,rfl,(List.append_nil _).symm,gfor_none (hf _ _ ?_)⟩
   exact seg2_rest (gg2a (m:=n + 100) rfl) (restA (m:=n + 98) (ask_fn (.val _) g1 g2)) (seg1_end (gg1N (m:=n + 100)))
  | some o =>
   obtain ⟨ty,T,V⟩:=o
   obtain ⟨eV,σ1,s,T',eT,g1,g2⟩:=ha
   subst eT
   rw [runSp_s ht,eV]
   have g3:=seg2_rest (f:=f + 5) (gg2a (p:=p) (cm:=cm) (m:=n + 100) (t:=tR it ⟨got,heard,boolsV (a :: bl),[]⟩ [] (chs g.w P)) rfl) (restA (m:=n + 98) (ask_fn (ask_und (by decide)) g1 g2)) (seg1_go (gg1A (m:=n + 100)) (seg2_item (gg2b (m:=n + 100) rfl) (ggi (m:=n + 100) rfl)))
   have hr2:ROk (rG (rH (rL ⟨got,heard,boolsV (a :: bl),[]⟩ bl) bs) (evT g.w (ty,s :: T'))):=⟨hr1.cg.app (CL.cons (evT_cl _) CL.nil),hr1.ch,hr1.cl,hr1.cb,by show (got ++ [_]).length≤900; rw [List.length_append,List.length_singleton]; omega,hr1.lh,hr1.ll,hr1.lb⟩
   have hz:∀ N,Und N (tkE g.w s.i ty (tS ((s :: T').map (·.d)))):=tk_cl.all _ (.head _)
   obtain ⟨cm',it2,r2,pb2,q1,q2,q3,q4,q5,q6,q7⟩:=ih [("t",tkE g.w s.i ty (tS ((s :: T').map (·.d))))] (.inr ⟨_,rfl,hz⟩) (rG (rH (rL ⟨got,heard,boolsV (a :: bl),[]⟩ bl) bs) (evT g.w (ty,s :: T'))) hr2 rfl rfl
    (by show (heard ++ boolsV bs).length + _≤_; rw [List.length_append,List.length_map]; have:bs.length≤g.rows.length:=hsp; omega) (by show (got ++ [_]).length + _≤_; rw [List.length_append,List.length_singleton]; omega) it' P' R' hi' (by omega) k (by omega) false 4 _ (fun o σ' h=>h)
   refine ⟨cm',it2,r2,pb2,q1,q2,q3,q4,?_,?_,gfor_turn ho hcm hgm hr1 (by show got.length≤899; omega) hi'.und (cl_chs _) (hf _ _ g3) q7⟩
   ·rw [q5]
    show (heard ++ boolsV bs) ++ _=heard ++ List.map AV.bool (bs ++ _)
    rw [List.map_append,List.append_assoc]
   ·rw [q6]
    show (got ++ [_]) ++ _=got ++ List.map _ (_ :: _)
    rw [List.map_cons,List.append_assoc]
    rfl
end
noncomputable def lw9 (p:Params) (g:G2):St:=⟨23,oldC p g none none none none (bot g.vs) (nmL g)⟩
noncomputable def lw10 (p:Params) (g:G2):St:=⟨29,(28,.list []) :: (27,.list []) :: (26,.list []) :: (24,.inst 230 23) :: (23,.dict hd0) :: oldC p g none none (some (.ref 24)) none (bot g.vs) (nmL g)⟩
noncomputable def lw11 (p:Params) (g:G2):St:=⟨31,(30,.list []) :: (29,.list (boolsV g.bs)) :: (28,.list []) :: (27,.list []) :: (26,.list []) :: (24,.inst 230 23) :: (23,.dict hd0) :: oldC p g (some (.ref 29)) (some (.ref 30)) (some (.ref 24)) none (bot g.vs) (nmL g)⟩
noncomputable def tI (g:G2) (it:Cell):T2:=⟨it,[],[],boolsV g.bs,[],[],[]⟩
noncomputable def lw12 (p:Params) (g:G2):St:=⟨31,lexC p g (nmL g) hd0 (tI g .lend)⟩
noncomputable def lw12b (p:Params) (g:G2):St:=⟨32,(31,.liter 20 0) :: lexC p g (nmL g) hd0 (tI g .lend)⟩
noncomputable def lw12c (p:Params) (g:G2):St:=⟨35,(34,.ns []) :: (33,.list []) :: (32,.ns [("start_state",askV p),("characters",.ref 31),("self",.ref 24)]) :: (31,.liter 20 0) :: lexC p g (nmL g) hd0 (tI g .lend)⟩
noncomputable def nmG (g:G2):List (Str × AV):=nmB (tS g.cs) g.w [("aheads",.ref 17),("signs",.ref 20),("got",.ref 33)]
noncomputable def lwE (p:Params) (g:G2) (nm gm:List (Str × AV)) (t:T2):St:=⟨35,(33,.list t.got) :: (32,.ns gm) :: (31,t.it) :: lexC p g nm hd1 t⟩
theorem pickG_n {α:Type} (xs:List α):pickG xs none none=xs:=by
 have e:sliceBounds none none none xs.length=(((0:Nat):Int),((xs.length:Nat):Int),1):=by
  simp only [sliceBounds,Option.getD_none]
  rfl
 unfold pickG
 rw [e]
 simp only [sliceRange_one,pick_runL]
 rw [List.drop_zero,Nat.sub_zero,List.take_of_length_le (Nat.le_refl _)]
theorem comp1G_go {K:Frag} {r:Rec} {ae:AEnv} {G:GFor} {elt target o:PySem.Expr} {name:Str} {args:List PySem.Expr} {sc:Scope} {σ σ1 σ2 σ3 σ':St} {ov f:AV} {first as:List AV} {ks:List (Str × AV)} {fi:FnI} {binds:List (Str × AV)} {fl:AFlow}
  (h1:((notSuper o && fewOk args []) && (simpleTarget target && (compScope sc && noFree sc)))=true) (h2:Go (r.ev ae o) σ ov σ1) (h3:Go (eMethod K ov name) σ1 (f,first) σ2) (h4:Go (eArgs2 r ae args []) σ2 (as,ks) σ3) (h5:genInfo K f=some fi) (h8:fi.body=G.t.body) (h9:genBinds fi (first ++ as) ks=some binds)
  (h11:Go (gFor r G.t ⟨fi.scope,σ3.n,fi.closure,.none,σ3.n⟩ (eLap K r ⟨sc,σ3.n + 1 + 1,[],.none,ae.frm⟩ elt target (.ref (σ3.n + 1))) (σ3.n + 1 + 1 + 1) G.f G.k true) (((σ3.push (.ns binds.reverse)).push (.list [])).push (.ns [])) fl σ'):Go (eComp1G K r ae G elt target o name args sc) σ (.ref (σ3.n + 1),σ3.n + 1 + 1) σ':=by
 refine Go.chk h1 (Go.bind (b:=(fi,binds)) (σ':=σ3) (Go.bind h2 (Go.bind h3 (Go.bind h4 (Go.opt h5 (Go.cond h8 (Go.opt h9 Go.ret)))))) ?_)
 exact Go.bind (b:=σ3.n) (σ':=σ3.push (.ns binds.reverse)) (Go.of (cs:=[]) [] (fun ds=>rfl) trivial) (Go.bind (b:=σ3.n + 1) (σ':=(σ3.push (.ns binds.reverse)).push (.list [])) (Go.of (cs:=[]) [] (fun ds=>rfl) trivial)
  (Go.bind (b:=σ3.n + 1 + 1) (σ':=((σ3.push (.ns binds.reverse)).push (.list [])).push (.ns [])) (Go.of (cs:=[]) [] (fun ds=>rfl) trivial) (Go.bind (b:=fl) (σ':=σ') h11 Go.ret)))
section
variable {p:Params} {g:G2} {m:Nat}
theorem s9_go:Go (ONE p g.hs (m + 50) (lAe p) (LS p 9)) (lw9 p g) .next (lw10 p g) :=
 Go.by [.keep,.keep,.keep,.sel [26,27,28],.keep] (aa (show 0≤M6 by decide) <| aa (show 0≤100 by decide) <| aa (show 0≤M6 by decide) <| aa (show 1≤100 by decide) <| aa (show 0≤M6 by decide) <| aa (show 2≤100 by decide) <| aa (show 24 < 29 by decide) trivial) (fun _=>by kernel_rfl)
noncomputable def tupE:PySem.Expr→List PySem.Expr
 | .Tuple es _ _=>es
 | _=>[]
noncomputable def tupK:PySem.Expr→Nat
 | .Tuple _ k _=>k
 | _=>0
noncomputable def tupP:PySem.Expr→Pos
 | .Tuple _ _ q=>q
 | _=>default
noncomputable def stP:Stmt→Pos
 | .Assign _ _ q=>q
 | _=>default
theorem s10_sw:swapsN (lAe p) (tupE (asgTgt (LS p 10))) (tupK (asgTgt (LS p 10))) (tupP (asgTgt (LS p 10))) (asgVal (LS p 10)) (stP (LS p 10)) none:=fun env he=>⟨rfl,by
 obtain ⟨sc,loc⟩:=env
 cases he
 kernel_rfl⟩
theorem s10_go (ho:GOk g):Go (ONE p g.hs (m + 50) (lAe p) (LS p 10)) (lw10 p g) .next (lw11 p g):=by
 have hl:(boolsV g.bs).length≤M6:=lM (by rw [List.length_map,ho.bl]; decide)
 have e:lw11 p g=⟨31,(30,.list []) :: (29,.list (pickG (boolsV g.bs) none none)) :: (28,.list []) :: (27,.list []) :: (26,.list []) :: (24,.inst 230 23) :: (23,.dict hd0) :: oldC p g (some (.ref 29)) (some (.ref 30)) (some (.ref 24)) none (bot g.vs) (nmL g)⟩:=by rw [pickG_n]; rfl
 rw [e]
 exact Go.by [.b false,.keep,.keep] (aa (s10_sw (p:=p)) <| aa hl <| aa (show (pickG (boolsV g.bs) none none).length≤M6 by rw [pickG_n]; exact hl) <| aa (show 0≤M6 by decide) <| aa (show 2≤M6 by decide) trivial) (fun _=>by kernel_rfl)
theorem s11_go:Go (ONE p g.hs (m + 50) (lAe p) (LS p 11)) (lw11 p g) .next (lw12 p g):=Go.by [] (aa (show plainDef (fdArgs (LS p 11)) from fun env=>⟨rfl,rfl⟩) trivial) (fun _=>by kernel_rfl)
theorem s12_one:ONE p g.hs m (lAe p) (LS p 12)=EM.bind (eComp1G (KK p) (RN p g.hs m) (lAe p) ⟨gtx p,10,60⟩ (compElt (cE p)) (compTgt (cE p)) (atO (callFn' (compIter (cE p)))) (Str.ofString "tokenize") (callAs (compIter (cE p))) (compSc (cE p))) fun q=>EM.bind (eBind (lAe p) (Str.ofString "got") q.1) fun _=>EM.bind (delCell q.2) fun _=>EM.ret .next:=by kernel_rfl
theorem s12_q (t:T2) (cm gm:List (Str × AV)):Go (EM.bind (eBind (lAe p) (Str.ofString "got") (.ref 33)) fun _=>EM.bind (delCell 34) fun _=>EM.ret AFlow.next) (genS p g cm gm t) .next (lwE p g (nmG g) gm t):=Go.by [] trivial (fun _=>by kernel_rfl)
theorem s12_go (ho:GOk g) (hm:90≤m):∃ it r pb,ROk r∧UndC 32 it∧CL pb∧r.heard=boolsV (runSp g.rows g.bs (numS 0 g.cs)).1∧r.got=(runSp g.rows g.bs (numS 0 g.cs)).2.map (evT g.w) ∧
  Go (ONE p g.hs (m + 20) (lAe p) (LS p 12)) (lw12 p g) .next (lwE p g (nmG g) (gmOf p noneV) (tR it r [] pb)):=by
 have hr0:ROk ⟨[],[],boolsV g.bs,[]⟩:=⟨CL.nil,CL.nil,CL.bools _,CL.nil,Nat.zero_le _,Nat.zero_le _,by rw [List.length_map,ho.bl]; decide,Nat.zero_le _⟩
 have hcl:=ho.cl
 have hbl:=ho.bl
 have hi0:ItOk g (.liter 20 0) (numS 0 g.cs):=.inr ⟨0,rfl,rfl⟩
 have hpre:Go ((RN p g.hs (m + 20)).exs (gAe p) (gtx p).pre) (lw12c p g) .next (genS p g [] (gmOf p (askV p)) (tR (.liter 20 0) ⟨[],[],boolsV g.bs,[]⟩ [] (chs g.w []))):=Go.by [] (aa (show 3≤100 by decide) trivial) (fun _=>by kernel_rfl)
 have seg0:∀ o σ',Go (gSeg2 (RN p g.hs (m + 20)) (gtx p) (gAe p) (3 + 6)) (genS p g [] (gmOf p (askV p)) (tR (.liter 20 0) ⟨[],[],boolsV g.bs,[]⟩ [] (chs g.w []))) o σ'→Go (gSeg0 (RN p g.hs (m + 20)) (gtx p) (gAe p) 10) (lw12c p g) o σ':=fun o σ' h=>Go.bind hpre (Go.nx (seg1_go (gg1A (m:=m + 10)) h))
 obtain ⟨cm',it',r',pb',q1,q2,q3,q4,q5,q6,q7⟩:=gfor_go (p:=p) ho hm g.bs [] (.inl rfl) ⟨[],[],boolsV g.bs,[]⟩ hr0 rfl rfl (by rw [List.length_nil]; omega) (by rw [List.length_nil]; omega) (.liter 20 0) [] (numS 0 g.cs) hi0 (by rw [List.length_nil,numS_len]; omega) 60 (by omega) true 3 (lw12c p g) seg0
 refine ⟨it',r',pb',q2,q3,q4,q5,q6,Go.eq s12_one (Go.bind (b:=(.ref 33,34)) (σ':=genS p g cm' (gmOf p noneV) (tR it' r' [] pb')) ?_ (s12_q _ _ _))⟩
 exact comp1G_go (σ1:=lw12 p g) (σ2:=lw12 p g) (σ3:=lw12b p g) (ov:=.ref 24) (f:=.val (.ref 163)) (first:=[.ref 24]) (as:=[.ref 31,askV p]) (ks:=[]) (fi:=fnAt2 p 163) (binds:=[("self",.ref 24),("characters",.ref 31),("start_state",askV p)]) (by kernel_rfl) (Go.by [] trivial (fun _=>by kernel_rfl)) (Go.by [] trivial (fun _=>by kernel_rfl)) (Go.by [] trivial (fun _=>by kernel_rfl))
  (by kernel_rfl) (by kernel_rfl) (by kernel_rfl) q7
end
section
variable (p:Params)
noncomputable def dueAe:AEnv:=⟨(fnAt2 p 270).scope,35,[],.ref 269,35⟩
noncomputable def dueB:List Stmt:=(fnAt2 p 270).body
noncomputable abbrev dF:Stmt:=nthS (dueB p) 1
noncomputable abbrev dI:Stmt:=nthS (forBody (dF p)) 3
noncomputable def hAe:AEnv:=⟨(fnAt2 p 263).scope,41,[("start",43),("text",42)],.ref 262,41⟩
noncomputable def hB:List Stmt:=(fnAt2 p 263).body
noncomputable def dC (g:G2) (gm:List (Str × AV)) (t:T2) (dn:List (Str × AV)) (ans toks:List AV):List (Nat × Cell):=(37,.list toks) :: (36,.list ans) :: (35,.ns dn) :: (lwE p g (nmG g) gm t).objs
noncomputable def duS1 (g:G2) (gm:List (Str × AV)) (t:T2) (dn:List (Str × AV)) (ans toks:List AV) (it:Cell):St:=⟨39,(38,it) :: dC p g gm t dn ans toks⟩
noncomputable def duS2 (g:G2) (gm:List (Str × AV)) (t:T2) (dn:List (Str × AV)) (ans toks:List AV) (i e:Nat) (wl:Cell):St:=⟨41,(40,.enum 39 e) :: (39,wl) :: (38,.liter 17 i) :: dC p g gm t dn ans toks⟩
noncomputable def hC (g:G2) (gm:List (Str × AV)) (t:T2) (dn:List (Str × AV)) (ans toks:List AV) (i e:Nat) (q:List AV) (s:Int):List (Nat × Cell):=(43,.box (some (.int s))) :: (42,.box (some (.str (tS g.cs)))) :: (41,.ns [("sequence",.lst q)]) :: (duS2 p g gm t dn ans toks i e (.wl 12 e)).objs
end
noncomputable def dn0 (g:G2) (at_:Int) (x:List (Str × AV)):List (Str × AV):=("wild",.int g.w) :: ("aheads",.ref 17) :: ("text",.str (tS g.cs)) :: ("table",.ref 12) :: ("at",.int at_) :: ("tokens",.ref 37) :: ("answers",.ref 36) :: x
noncomputable def dn4 (g:G2) (at_:Int) (a:Bool) (s e:Int) (ty:Str) (x:List (Str × AV)):List (Str × AV):=dn0 g at_ (("ahead",.bool a) :: ("start",.int s) :: ("end",.int e) :: ("kind",.str ty) :: x)
noncomputable def dnq (n:Nat) (q:List AV):List (Str × AV):=[("number",.int n),("sequence",.lst q)]
structure DOk (g:G2) (gm:List (Str × AV)) (t:T2):Prop where
 ho:GOk g
 ht:TOk2 t
 hg:NsOk 35 gm
section
variable {p:Params} {g:G2} {gm:List (Str × AV)} {t:T2} {dn x:List (Str × AV)} {ans toks q acc:List AV} {i e s j k m n N:Nat} {at_:Int} {a:Bool} {ty:Str} {wl it:Cell}
theorem nmG_ok (hN:34≤N):NsOk N (nmG g):=nmB_ok (by omega) (.cons (.ref (by omega)) (.cons (.ref (by omega)) (.cons (.ref (by omega)) .nil)))
theorem und_lwE (D:DOk g gm t) (hN:35≤N):UC N (lwE p g (nmG g) gm t).objs:=und_cons (und_list D.ht.ig) (und_cons (und_ns (D.hg.mono hN)) (und_cons (D.ht.it.mono (by omega)) (und_lex (N:=N) D.ho D.ht (by omega) (nmG_ok (N:=N) (by omega)) (hd1_ok (N:=N) (by omega)))))
theorem und_dC (D:DOk g gm t) (hN:38≤N) (hd:NsOk N dn) (ha:CL ans) (ht:CL toks):UC N (dC p g gm t dn ans toks):=und_cons (und_list ht) (und_cons (und_list ha) (und_cons (und_ns hd) (und_lwE D (by omega))))
theorem und_dS1 (D:DOk g gm t) (hN:38≤N) (hd:NsOk N dn) (ha:CL ans) (ht:CL toks):UC N (duS1 p g gm t dn ans toks (.liter 17 i)).objs:=und_cons (show 17 < N by omega) (und_dC D hN hd ha ht)
theorem und_dS2 (D:DOk g gm t) (hN:40≤N) (hd:NsOk N dn) (ha:CL ans) (ht:CL toks) (hw:UndC 39 wl):UC N (duS2 p g gm t dn ans toks i e wl).objs:=und_cons (show 39 < N by omega) (und_cons (hw.mono (by omega)) (und_cons (show 17 < N by omega) (und_dC D (by omega) hd ha ht)))
noncomputable abbrev hE (p:Params):PySem.Expr:=nthE (callAs (asgVal (nthS (hB p) 1))) 0
noncomputable def kAe (p:Params):AEnv:=⟨relab (compSc (hE p)) (hAe p),47,[("text",42),("start",43)],.none,41⟩
noncomputable def kS (p:Params) (g:G2) (gm:List (Str × AV)) (t:T2) (dn:List (Str × AV)) (ans toks:List AV) (i e:Nat) (q:List AV) (s:Nat) (it:Cell) (k:Nat) (acc:List AV) (cm:List (Str × AV)):St:=⟨48,(47,.ns cm) :: (46,.list acc) :: (45,.enum 44 k) :: (44,it) :: hC p g gm t dn ans toks i e q s⟩
noncomputable def cmK (k:Nat) (v:AV):List (Str × AV):=[("k",.int k),("valid",v)]
noncomputable def KOk (cm:List (Str × AV)):Prop:=cm=[] ∨ ∃ k v,cm=cmK k v
noncomputable def hereL (cs:List Nat):Nat→List AV→List Bool
 | _,[]=>[]
 | i,v :: q=>inV v (cs.toArray[i]!) :: hereL cs (i + 1) q
theorem k_asg {v:AV} {cm:List (Str × AV)} (h:KOk cm):Go (eAssign (KK p) (RN p g.hs (m + 20)) (kAe p) (.tup [.int k,v]) (compTgt (hE p))) (kS p g gm t dn ans toks i e q s it j acc cm) PUnit.unit (kS p g gm t dn ans toks i e q s it j acc (cmK k v)):=by
 rcases h with rfl | ⟨k',v',rfl⟩
 ·exact Go.by [] trivial (fun _=>by kernel_rfl)
 ·exact Go.by [] trivial (fun _=>by kernel_rfl)
theorem k_elt {v:AV} (hv:v ∈ setsV) (hs:s + k < g.cs.length) (hl:g.cs.length≤900) (ha:acc.length≤900):Go (EM.bind ((RN p g.hs (m + 20)).ev (kAe p) (compElt (hE p))) fun x=>eAppend [.ref 46,x]) (kS p g gm t dn ans toks i e q s it j acc (cmK k v)) (.val .none)
  (kS p g gm t dn ans toks i e q s it j (acc ++ [.bool (inV v (g.cs.toArray[s + k]!))]) (cmK k v)):=by
 have c1:(0:Int)≤(s:Int) + k∧(s:Int) + k < ((tS g.cs).length:Int)∧(tS g.cs).length≤M6:=⟨by omega,by rw [tS_len]; omega,by rw [tS_len]; exact Nat.le_trans hl (by decide)⟩
 have hS:∀ y:Str,Go (EM.bind ((RN p g.hs (m + 20)).ev (kAe p) (compElt (hE p))) fun x=>eAppend [.ref 46,x]) (kS p g gm t dn ans toks i e q s it j acc (cmK k (.str y))) (.val .none)
   (kS p g gm t dn ans toks i e q s it j (acc ++ [.bool (inV (.str y) (g.cs.toArray[s + k]!))]) (cmK k (.str y))):=fun y=>Go.by [] (aa c1 <| aa (lM ha) trivial) (fun _=>by kernel_rfl)
 simp only [setsV,List.mem_cons,List.mem_nil_iff,or_false] at hv
 rcases hv with rfl | rfl | rfl | rfl | rfl | rfl | rfl | rfl
 ·exact hS _
 ·exact hS _
 ·exact hS _
 ·exact hS _
 ·exact Go.by [] (aa c1 <| aa (lM ha) trivial) (fun _=>by kernel_rfl)
 ·exact hS _
 ·exact Go.by [] (aa c1 <| aa (lM ha) trivial) (fun _=>by kernel_rfl)
 ·exact hS _
theorem k_one (n:Nat) {it acc:AV}:(RN p g.hs (n + 1)).comp (kAe p) (compElt (hE p)) (compTgt (hE p)) it acc=eComp (KK p) (RN p g.hs n) (kAe p) (compElt (hE p)) (compTgt (hE p)) it acc:=by kernel_rfl
theorem k_loop (hq:RowOk q) (hs:s + q.length≤g.cs.length) (hl:g.cs.length≤800):∀ (q' done:List AV) (e0:q=done ++ q') (acc:List AV) (ha:acc.length≤done.length) (cm:List (Str × AV)) (hc:KOk cm) (M:Nat) (hM:21 + q'.length≤M),
  ∃ cm' k',Go ((RN p g.hs M).comp (kAe p) (compElt (hE p)) (compTgt (hE p)) (.ref 45) (.ref 46)) (kS p g gm t dn ans toks i e q s (.fit q done.length) done.length acc cm) .next (kS p g gm t dn ans toks i e q s .any k' (acc ++ boolsV (hereL g.cs (s + done.length) q')) cm')
 | [],done,e0,acc,ha,cm,hc,M,hM=>by
  obtain ⟨m,rfl⟩:∃ m,M=m + 20 + 1:=⟨M - 21,by omega⟩
  refine ⟨cm,done.length,Go.eq (k_one _) (Go.bind (goFitE (j:=44) (xs:=q) (k:=done.length) (by kernel_rfl) (by kernel_rfl) (by kernel_rfl) (by rw [e0,List.append_nil]; simp) (Eq.refl _)) ?_)⟩
  rw [show acc ++ boolsV (hereL g.cs (s + done.length) [])=acc from List.append_nil _]
  exact Go.by [] trivial (fun _=>by kernel_rfl)
 | v :: q',done,e0,acc,ha,cm,hc,M,hM=>by
  obtain ⟨m,rfl⟩:∃ m,M=m + 20 + 1:=⟨M - 21,by omega⟩
  rw [List.length_cons] at hM
  have hle:=hq.le
  have hd:q.length=done.length + (q'.length + 1):=by rw [e0,List.length_append,List.length_cons]
  obtain ⟨cm',k',g2⟩:=k_loop hq hs hl q' (done ++ [v]) (by rw [e0,List.append_assoc]; rfl) (acc ++ [.bool (inV v (g.cs.toArray[s + done.length]!))]) (by simp only [List.length_append,List.length_singleton]; omega) (cmK done.length v) (.inr ⟨_,_,rfl⟩) (m + 20) (by omega)
  rw [List.length_append,List.length_singleton,← Nat.add_assoc,List.append_assoc] at g2
  refine ⟨cm',k',Go.eq (k_one _) (Go.bind (goFit (j:=44) (xs:=q) (k:=done.length) (y:=v) (by kernel_rfl) (by kernel_rfl) (by kernel_rfl) (by rw [e0]; simp) (σ':=kS p g gm t dn ans toks i e q s (.fit q (done.length + 1)) (done.length + 1) acc cm) (by kernel_rfl)) ?_)⟩
  exact Go.sm (Go.bind (k_asg hc) (Go.bind (k_elt (hq.sets v (by rw [e0]; simp)) (by omega) (by omega) (by omega)) g2))
theorem bools_of:∀ bs:List Bool,boolsOf (boolsV bs)=some bs
 | []=>rfl
 | b :: bs=>by
  show (boolsOf (boolsV bs)).map (b :: ·)=_
  rw [bools_of bs]
  rfl
theorem numS_drop:∀ (i:Nat) (cs:List Nat) (s:Nat),(numS i cs).drop s=numS (i + s) (cs.drop s)
 | i,cs,0=>rfl
 | i,[],s + 1=>rfl
 | i,c :: cs,s + 1=>by
  show (numS (i + 1) cs).drop s=numS (i + (s + 1)) (cs.drop s)
  rw [numS_drop (i + 1) cs s,show i + 1 + s=i + (s + 1) by omega]
theorem here_seq (cs:List Nat):∀ (q:List AV) (s:Nat),s + q.length≤cs.length→(hereL cs s q).all id=seqH q ((numS 0 cs).drop s)
 | [],s,h=>rfl
 | v :: q,s,h=>by
  rw [List.length_cons] at h
  have hs:s < cs.length:=by omega
  have e1:(numS 0 cs).drop s=⟨s,cs[s]⟩ :: (numS 0 cs).drop (s + 1):=by
   rw [numS_drop,numS_drop,List.drop_eq_getElem_cons hs,Nat.zero_add,Nat.zero_add]
   rfl
  rw [e1]
  show (inV v (cs.toArray[s]!) && (hereL cs (s + 1) q).all id)=(inV v cs[s] && seqH q ((numS 0 cs).drop (s + 1)))
  rw [here_seq cs q (s + 1) (by omega)]
  congr 2
  simp [hs]
theorem seq_short {q:List AV} {U:List Sg} (h:U.length < q.length):seqH q U=false:=by
 cases e:seqH q U with
 | false=>rfl
 | true=>have:=seqH_le q U e; omega
theorem is_two:eExecs (ONE p g.hs (m + 50) (hAe p)) (hB p)=eExecs (ONE p g.hs (m + 50) (hAe p)) [nthS (hB p) 0,nthS (hB p) 1]:=by kernel_rfl
theorem is_if:ONE p g.hs (m + 50) (hAe p) (nthS (hB p) 0)=eBr ((RN p g.hs (m + 50)).tst (hAe p) (ifTest (nthS (hB p) 0))) ((RN p g.hs (m + 50)).exs (hAe p) (ifBody (nthS (hB p) 0))) ((RN p g.hs (m + 50)).exs (hAe p) (ifElse (nthS (hB p) 0))):=by kernel_rfl
theorem is_ret:ONE p g.hs (m + 50) (hAe p) (nthS (hB p) 1)=EM.bind ((RN p g.hs (m + 50)).ev (hAe p) (asgVal (nthS (hB p) 1))) fun v=>EM.ret (.ret v):=by kernel_rfl
theorem is_ev:(RN p g.hs (m + 50)).ev (hAe p) (asgVal (nthS (hB p) 1))=EM.bind ((RN p g.hs (m + 49)).ev (hAe p) (callFn' (asgVal (nthS (hB p) 1)))) fun f=>eCallWith (KK p) (RN p g.hs (m + 49)) (hAe p) f [] [hE p] []:=by kernel_rfl
theorem is_comp:(RN p g.hs (m + 49)).ev (hAe p) (hE p)=EM.bind (eComp1 (RN p g.hs (m + 48)) (hAe p) (compElt (hE p)) (compTgt (hE p)) (compIter (hE p)) (compSc (hE p))) fun q=>EM.bind (delCell q.2) fun _=>EM.ret q.1:=by kernel_rfl
theorem is_all:(RN p g.hs (m + 49)).call (.val (.builtin "all")) [.ref 46] []=EM.bind (eCellL 46) fun xs=>EM.bind (EM.opt (boolsOf xs)) fun bs=>EM.ret (.bool (bs.all id)):=by kernel_rfl
theorem k_ae:(⟨relab (compSc (hE p)) (hAe p),47,[("text",42),("start",43)],.none,(hAe p).frm⟩:AEnv)=kAe p:=by kernel_rfl
theorem is_c0:(compScope (compSc (hE p)) && plainE (compIter (hE p)))=true:=by kernel_rfl
theorem is_c1:freeGo (hAe p).cells (compSc (hE p)).names []=some ([("text",42),("start",43)]:List (Str × Nat)):=by kernel_rfl
theorem is_call (D:DOk g gm t) (hd:NsOk 41 dn) (ha:CL ans) (ht:CL toks) (hq:RowOk q) (hN:60≤N):Go ((RN p g.hs N).call (.val (.ref 263)) [.str (tS g.cs),.int s,.lst q] []) (duS2 p g gm t dn ans toks i e (.wl 12 e)) (.bool (seqH q ((numS 0 g.cs).drop s))) (duS2 p g gm t dn ans toks i e (.wl 12 e)):=by
 obtain ⟨m,rfl⟩:∃ m,N=m + 52:=⟨N - 52,by omega⟩
 have hcl:=D.ho.cl
 have hql:=hq.le
 have hqp:=hq.pos
 refine Go.eq (show (RN p g.hs (m + 52)).call (.val (.ref 263)) [.str (tS g.cs),.int s,.lst q] []=eFn (RN p g.hs (m + 51)) (fnAt2 p 263) [.str (tS g.cs),.int s,.lst q] [] by kernel_rfl)
  (Go.fn (ae:=hAe p) (σ1:=⟨44,hC p g gm t dn ans toks i e q s⟩) (by kernel_rfl) (binds:=[("text",.str (tS g.cs)),("start",.int s),("sequence",.lst q)]) (by kernel_rfl) (Go.by [] trivial (fun _=>by kernel_rfl)) ?_)
 have lq:q.length≤M6:=lM (by omega)
 have lc:(tS g.cs).length≤M6:=by rw [tS_len]; exact lM (xs:=g.cs.map fun _=>noneV) (by rw [List.length_map]; omega) |> fun h=>by rwa [List.length_map] at h
 have u:∀ b,UV 41 (.bool b) (duS2 p g gm t dn ans toks i e (.wl 12 e)).objs:=fun b=>⟨.bool _,und_dS2 (wl:=.wl 12 e) D (by decide) hd ha ht (show 12 < 39 by decide)⟩
 by_cases hlen:(s:Int) + q.length > ((tS g.cs).length:Int)
 ·have tst:Go ((RN p g.hs (m + 50)).tst (hAe p) (ifTest (nthS (hB p) 0))) ⟨44,hC p g gm t dn ans toks i e q s⟩ (decide ((s:Int) + q.length > ((tS g.cs).length:Int))) ⟨44,hC p g gm t dn ans toks i e q s⟩:=Go.by [] (aa lq <| aa lc trivial) (fun _=>by kernel_rfl)
  rw [decide_eq_true hlen] at tst
  rw [tS_len] at hlen
  rw [seq_short (U:=(numS 0 g.cs).drop s) (by rw [List.length_drop,numS_len]; omega)]
  refine Go.bind (b:=.ret (.bool false)) (σ':=⟨44,hC p g gm t dn ans toks i e q s⟩) (Go.exs (Go.eq is_two (Go.consR (Go.if_ is_if tst (Go.by [] trivial (fun _=>by kernel_rfl)))))) (Go.rt ?_)
  exact Go.by [.norm] (aa (u false) trivial) (fun _=>by kernel_rfl)
 ·have tst:Go ((RN p g.hs (m + 50)).tst (hAe p) (ifTest (nthS (hB p) 0))) ⟨44,hC p g gm t dn ans toks i e q s⟩ (decide ((s:Int) + q.length > ((tS g.cs).length:Int))) ⟨44,hC p g gm t dn ans toks i e q s⟩:=Go.by [] (aa lq <| aa lc trivial) (fun _=>by kernel_rfl)
  rw [decide_eq_false hlen] at tst
  rw [tS_len] at hlen
  obtain ⟨cm',k',gl⟩:=k_loop (p:=p) (g:=g) (gm:=gm) (t:=t) (dn:=dn) (ans:=ans) (toks:=toks) (i:=i) (e:=e) (s:=s) hq (by omega) (by omega) q [] rfl [] (Nat.le_refl _) [] (.inl rfl) (m + 48) (by omega)
  rw [List.nil_append,List.length_nil,show s + 0=s from rfl] at gl
  have hbl:(boolsV (hereL g.cs s q)).length≤M6:=by
   have:∀ (q:List AV) (s:Nat),(hereL g.cs s q).length=q.length:=fun q=>by
    induction q with
    | nil=>exact fun _=>rfl
    | cons v q ih=>exact fun s=>congrArg (· + 1) (ih (s + 1))
   rw [List.length_map,this]
   exact lq
  have gcomp:Go ((RN p g.hs (m + 49)).ev (hAe p) (hE p)) ⟨44,hC p g gm t dn ans toks i e q s⟩ (.ref 46) ⟨48,(46,.list (boolsV (hereL g.cs s q))) :: (45,.enum 44 k') :: (44,.any) :: hC p g gm t dn ans toks i e q s⟩:=by
   refine Go.eq is_comp (Go.bind (b:=(.ref 46,47)) (σ':=kS p g gm t dn ans toks i e q s .any k' (boolsV (hereL g.cs s q)) cm') ?_ (Go.by [] trivial (fun _=>by kernel_rfl)))
   refine Go.chk is_c0 (Go.opt is_c1 (Go.iter (it:=.ref 45) (σ1:=⟨46,(45,.enum 44 0) :: (44,.fit q 0) :: hC p g gm t dn ans toks i e q s⟩) (Go.by [] trivial (fun _=>by kernel_rfl)) ?_))
   refine Go.bind (b:=.ref 46) (σ':=⟨47,(46,.list []) :: (45,.enum 44 0) :: (44,.fit q 0) :: hC p g gm t dn ans toks i e q s⟩) (Go.by [] (aa (show 0≤M6 by decide) trivial) (fun _=>by kernel_rfl)) ?_
   refine Go.bind (b:=47) (σ':=kS p g gm t dn ans toks i e q s (.fit q 0) 0 [] []) (Go.by [] trivial (fun _=>by kernel_rfl)) ?_
   refine Go.bind (b:=()) (σ':=kS p g gm t dn ans toks i e q s (.fit q 0) 0 [] []) (Go.by [] trivial (fun _=>by kernel_rfl)) ?_
   rw [k_ae]
   exact Go.bind (b:=AFlow.next) (σ':=kS p g gm t dn ans toks i e q s .any k' (boolsV (hereL g.cs s q)) cm') gl Go.ret
  have gall:Go ((RN p g.hs (m + 49)).call (.val (.builtin "all")) [.ref 46] []) ⟨48,(46,.list (boolsV (hereL g.cs s q))) :: (45,.enum 44 k') :: (44,.any) :: hC p g gm t dn ans toks i e q s⟩ (.bool ((hereL g.cs s q).all id)) ⟨48,(46,.list (boolsV (hereL g.cs s q))) :: (45,.enum 44 k') :: (44,.any) :: hC p g gm t dn ans toks i e q s⟩ :=
   Go.eq is_all (Go.cellL (i:=46) (xs:=boolsV (hereL g.cs s q)) (by kernel_rfl) hbl (Go.opt (bools_of _) Go.ret))
  rw [here_seq g.cs q s (by omega)] at gall
  refine Go.bind (b:=.ret (.bool (seqH q ((numS 0 g.cs).drop s)))) (σ':=⟨48,(46,.list (boolsV (hereL g.cs s q))) :: (45,.enum 44 k') :: (44,.any) :: hC p g gm t dn ans toks i e q s⟩)
   (Go.exs (Go.eq is_two (Go.cons (σ':=⟨44,hC p g gm t dn ans toks i e q s⟩) (Go.if_ is_if tst (Go.by [] trivial (fun _=>by kernel_rfl))) (Go.stmt (Go.eq is_ret (Go.bind (b:=.bool (seqH q ((numS 0 g.cs).drop s))) (σ':=⟨48,(46,.list (boolsV (hereL g.cs s q))) :: (45,.enum 44 k') :: (44,.any) :: hC p g gm t dn ans toks i e q s⟩) ?_ Go.ret)))))) (Go.rt ?_)
  ·refine Go.eq is_ev (Go.bind (b:=.val (.builtin "all")) (σ':=⟨44,hC p g gm t dn ans toks i e q s⟩) (Go.by [] trivial (fun _=>by kernel_rfl)) ?_)
   exact Go.fcall (by kernel_rfl) (Go.args1 (by kernel_rfl) gcomp) gall
  ·exact Go.by [.norm] (aa (u (seqH q ((numS 0 g.cs).drop s))) trivial) (fun _=>by kernel_rfl)
end
theorem pickS_ab (cs:List Nat) (a b:Nat) (h1:a≤b) (h2:b≤cs.length):pickS (tS cs) (some (a:Int)) (some (b:Int))=tS ((cs.drop a).take (b - a)):=by
 have e:Builtin.Str.strSliceIndices (some (a:Int)) (some (b:Int)) 1 (tS cs).length=sliceRange (a:Int) (b:Int) 1:=by
  unfold Builtin.Str.strSliceIndices
  rw [tS_len]
  have h3:¬ ((a:Int) < 0):=by omega
  have h4:¬ ((b:Int) < 0):=by omega
  simp only [h3,h4,if_false,show (1:Int) > 0 by decide,if_true]
  congr 1 <;> omega
 unfold pickS
 rw [e]
 simp only [sliceRange_one]
 have e2:(((List.range (b - a)).map (a + ·)).filterMap ((tS cs).cps[·]?))=(cs.drop a).take (b - a):=by
  have:=pick_runL cs a (b - a)
  simpa [tS] using this
 split
 ·rename_i h
  have hl:b - a=cs.length:=by simpa [tS_len] using h
  have ha:a=0:=by omega
  subst ha
  rw [List.drop_zero,List.take_of_length_le (by omega)]
 ·first | rw [e2]; rfl | (simp only [Int.toNat_natCast] at *; rw [e2]; rfl)
theorem tryR_some:∀ (i:Nat) (qs:List (List AV)) (U:List Sg) (bs:List Bool) (k l:Nat),tryR i qs U=(bs,some (k,l))→l≤U.length
 | _,[],_,_,_,_,h=>nomatch congrArg (·.2) h
 | i,q :: qs,U,bs,k,l,h=>by
  cases hs:seqH q U with
  | true =>
   rw [tryR_t hs] at h
   have h2:some (i,q.length)=some (k,l):=congrArg (·.2) h
   have h3:q.length=l:=congrArg (·.2) (Option.some.inj h2)
   have:=seqH_le _ _ hs
   omega
  | false =>
   rw [tryR_f hs] at h
   exact tryR_some (i + 1) qs U (tryR (i + 1) qs U).1 k l (by
    have h2:(tryR (i + 1) qs U).2=some (k,l):=congrArg (·.2) h
    rw [← h2])
section
variable {p:Params} {g:G2} {gm:List (Str × AV)} {t:T2} {dn x:List (Str × AV)} {ans toks q acc:List AV} {i e s j k m n N A:Nat} {a:Bool} {ty:Str} {wl it:Cell} {E S:Int}
theorem dn0_ok (hN:38≤N) (hx:NsOk N x):NsOk N (dn0 g A x):=.cons (.int _) (.cons (.ref (by omega)) (.cons (.str _) (.cons (.ref (by omega)) (.cons (.int _) (.cons (.ref (by omega)) (.cons (.ref (by omega)) hx))))))
theorem dn4_ok (hN:38≤N) (hx:NsOk N x):NsOk N (dn4 g A a S E ty x):=dn0_ok hN (.cons (.bool _) (.cons (.int _) (.cons (.int _) (.cons (.str _) hx))))
theorem dnq_ok (hq:RowOk q):NsOk N (dnq n q):=.cons (.int _) (.cons (CL.lst (CL.sets hq.sets) N) .nil)
theorem d_st:ONE p g.hs (m + 60) (dueAe p) (nthS (forBody (dI p)) 0)=EM.bind ((RN p g.hs (m + 60)).ev (dueAe p) (asgVal (nthS (forBody (dI p)) 0))) fun _=>EM.ret .next:=by kernel_rfl
noncomputable abbrev dE (p:Params):PySem.Expr:=nthE (callAs (asgVal (nthS (forBody (dI p)) 0))) 0
theorem d_ev:(RN p g.hs (m + 60)).ev (dueAe p) (asgVal (nthS (forBody (dI p)) 0))=eMethodCall (KK p) (RN p g.hs (m + 59)) (dueAe p) (atO (callFn' (asgVal (nthS (forBody (dI p)) 0)))) (Str.ofString "append") [dE p] []:=by kernel_rfl
theorem d_ev2:(RN p g.hs (m + 59)).ev (dueAe p) (dE p)=EM.bind ((RN p g.hs (m + 58)).ev (dueAe p) (callFn' (dE p))) fun f=>eCallWith (KK p) (RN p g.hs (m + 58)) (dueAe p) f [] (callAs (dE p)) []:=by kernel_rfl
theorem d_hear (D:DOk g gm t) (ha:CL ans) (ht:CL toks) (hq:RowOk q) (hl:ans.length≤900) (hm:2≤m):Go (ONE p g.hs (m + 60) (dueAe p) (nthS (forBody (dI p)) 0)) (duS2 p g gm t (dn4 g A a s E ty (dnq n q)) ans toks i e (.wl 12 e)) .next
  (duS2 p g gm t (dn4 g A a s E ty (dnq n q)) (ans ++ [.bool (seqH q ((numS 0 g.cs).drop s))]) toks i e (.wl 12 e)):=by
 refine Go.eq d_st (Go.bind (b:=.val .none) (σ':=duS2 p g gm t (dn4 g A a s E ty (dnq n q)) (ans ++ [.bool (seqH q ((numS 0 g.cs).drop s))]) toks i e (.wl 12 e)) (Go.eq d_ev ?_) Go.ret)
 refine Go.meth (σ1:=duS2 p g gm t (dn4 g A a s E ty (dnq n q)) ans toks i e (.wl 12 e)) (σ2:=duS2 p g gm t (dn4 g A a s E ty (dnq n q)) ans toks i e (.wl 12 e)) (σ3:=duS2 p g gm t (dn4 g A a s E ty (dnq n q)) ans toks i e (.wl 12 e))
  (f:=.val (.builtin "list.append")) (first:=[.ref 36]) (as:=[.bool (seqH q ((numS 0 g.cs).drop s))]) (ov:=.ref 36) (v:=.val .none) (Go.by [] trivial (fun _=>by kernel_rfl)) (Go.by [] trivial (fun _=>by kernel_rfl)) (by kernel_rfl) (Go.args1 (by kernel_rfl) (Go.eq d_ev2 ?_)) (Go.by [] (aa (lM hl) trivial) (fun _=>by kernel_rfl))
 refine Go.bind (b:=.val (.ref 263)) (σ':=duS2 p g gm t (dn4 g A a s E ty (dnq n q)) ans toks i e (.wl 12 e)) (Go.by [] trivial (fun _=>by kernel_rfl)) ?_
 exact Go.fcall (as:=[.str (tS g.cs),.int s,.lst q]) (σ3:=duS2 p g gm t (dn4 g A a s E ty (dnq n q)) ans toks i e (.wl 12 e)) (by kernel_rfl) (Go.by [] trivial (fun _=>by kernel_rfl)) (is_call D (dn4_ok (by decide) (dnq_ok hq)) ha ht hq (by omega))
theorem d_if:ONE p g.hs (m + 60) (dueAe p) (nthS (forBody (dI p)) 1)=eBr ((RN p g.hs (m + 60)).tst (dueAe p) (ifTest (nthS (forBody (dI p)) 1))) ((RN p g.hs (m + 60)).exs (dueAe p) (ifBody (nthS (forBody (dI p)) 1))) ((RN p g.hs (m + 60)).exs (dueAe p) (ifElse (nthS (forBody (dI p)) 1))):=by kernel_rfl
theorem d_tst {b:Bool} (hl:ans.length≤899):Go ((RN p g.hs (m + 60)).tst (dueAe p) (ifTest (nthS (forBody (dI p)) 1))) (duS2 p g gm t (dn4 g A a S E ty (dnq n q)) (ans ++ [.bool b]) toks i e wl) b (duS2 p g gm t (dn4 g A a S E ty (dnq n q)) (ans ++ [.bool b]) toks i e wl) :=
 have h2:(ans ++ [AV.bool b]).length≤900:=by rw [List.length_append,List.length_singleton]; omega
 Go.by [.cut [] (.bool b)] (aa (lM h2) <| aa (show ((0:Int)≤-1∧(-1:Int) < 1000000∧(ans ++ [AV.bool b])[0]? = some (.bool b)) ∨ (-1:Int) = -1∧(ans ++ [AV.bool b])[(ans ++ [AV.bool b]).length - 1]? = some (.bool b) from .inr ⟨rfl,by rw [List.length_append,List.length_singleton,Nat.add_sub_cancel,List.getElem?_append_right (Nat.le_refl _),Nat.sub_self]; rfl⟩) trivial) (fun _=>by kernel_rfl)
end
noncomputable abbrev swO (p:Params) (ae:AEnv) (st:Stmt) (o:Option (List Str)):Prop:=swapsN ae (tupE (asgTgt st)) (tupK (asgTgt st)) (tupP (asgTgt st)) (asgVal st) (stP st) o
section
variable {p:Params} {g:G2} {gm:List (Str × AV)} {t:T2} {dn x:List (Str × AV)} {ans toks q acc:List AV} {i e s j k m n N A:Nat} {a:Bool} {ty:Str} {wl it:Cell} {E S:Int}
theorem sw_found:swO p (dueAe p) (nthS (ifBody (nthS (forBody (dI p)) 1)) 0) (some ["kind","end"]):=fun env he=>⟨rfl,by
 obtain ⟨sc,loc⟩:=env
 cases he
 kernel_rfl⟩
theorem sw_one:swO p (dueAe p) (nthS (forBody (dF p)) 2) (some ["kind","end"]):=fun env he=>⟨rfl,by
 obtain ⟨sc,loc⟩:=env
 cases he
 kernel_rfl⟩
theorem sw_start:swO p (dueAe p) (nthS (dueB p) 0) (some ["answers","tokens","at"]):=fun env he=>⟨rfl,by
 obtain ⟨sc,loc⟩:=env
 cases he
 kernel_rfl⟩
theorem d_found (hn:n≤900) (hq:q.length≤900):Go ((RN p g.hs (m + 60)).exs (dueAe p) (ifBody (nthS (forBody (dI p)) 1))) (duS2 p g gm t (dn4 g A a s E ty (dnq n q)) ans toks i e wl) .brk (duS2 p g gm t (dn4 g A a s (s + q.length:Nat) (numT n) (dnq n q)) ans toks i e wl) :=
 Go.by [.b true] (aa (sw_found (p:=p)) <| aa (show (0:Int)≤n∧(n:Int) < 9223372036854775808 by omega) <| aa (lM hq) <| aa (show 2≤M6 by decide) trivial) (fun _=>by kernel_rfl)
theorem d_else {σ:St}:Go ((RN p g.hs (m + 60)).exs (dueAe p) (ifElse (nthS (forBody (dI p)) 1))) σ .next σ:=Go.by [] trivial (fun _=>by kernel_rfl)
theorem d_ib:eExecs (ONE p g.hs (m + 60) (dueAe p)) (forBody (dI p))=eExecs (ONE p g.hs (m + 60) (dueAe p)) [nthS (forBody (dI p)) 0,nthS (forBody (dI p)) 1]:=by kernel_rfl
theorem d_iasg:Go (eAssign (KK p) (RN p g.hs (m + 20)) (dueAe p) (.tup [.int n,.lst q]) (forTgt (dI p))) (duS2 p g gm t (dn4 g A a S E ty []) ans toks i e wl) PUnit.unit (duS2 p g gm t (dn4 g A a S E ty (dnq n q)) ans toks i e wl):=Go.by [] trivial (fun _=>by kernel_rfl)
noncomputable def XOk (x:List (Str × AV)):Prop:=x=[] ∨ ∃ k q,x=dnq k q∧RowOk q
theorem dI_loop (D:DOk g gm t) (ht:CL toks):∀ (qs done:List (List AV)) (e0:g.rows=done ++ qs) (ans:List AV) (ha:CL ans) (hh:ans.length + qs.length≤890) (M:Nat) (hM:70 + 2 * qs.length≤M),
  ∃ x wl e',XOk x∧UndC 39 wl∧Go ((RN p g.hs M).forl (dueAe p) (forTgt (dI p)) (.ref 40) (forBody (dI p))) (duS2 p g gm t (dn4 g A a s E ty []) ans toks i done.length (.wl 12 done.length)) .next
   (match tryR done.length qs ((numS 0 g.cs).drop s) with
    | (bs,none)=>duS2 p g gm t (dn4 g A a s E ty x) (ans ++ boolsV bs) toks i e' wl
    | (bs,some (k,l))=>duS2 p g gm t (dn4 g A a s (s + l:Nat) (numT k) x) (ans ++ boolsV bs) toks i e' wl)
 | [],done,e0,ans,ha,hh,M,hM=>by
  obtain ⟨m,rfl⟩:∃ m,M=m + 20 + 1:=⟨M - 21,by omega⟩
  rw [List.append_nil] at e0
  refine ⟨[],.any,done.length,.inl rfl,trivial,for_end ?_⟩
  show Go _ _ none (duS2 p g gm t (dn4 g A a s E ty []) (ans ++ []) toks i done.length .any)
  rw [List.append_nil]
  exact goEnE (j:=39) (l:=12) (k:=done.length) (xs:=rowsV g.rows) (by kernel_rfl) (by kernel_rfl) (by kernel_rfl) (by kernel_rfl) (by rw [List.getElem?_eq_none_iff,List.length_map,e0]; exact Nat.le_refl _) (by kernel_rfl)
 | q :: qs,done,e0,ans,ha,hh,M,hM=>by
  rw [List.length_cons] at hh hM
  obtain ⟨m,rfl⟩:∃ m,M=m + 60 + 1 + 1:=⟨M - 62,by omega⟩
  have hq:RowOk q:=D.ho.hr q (by rw [e0]; simp)
  have hql:=hq.le
  have hd:done.length≤4:=by have h1:=D.ho.rl; have h2:=congrArg List.length e0; rw [List.length_append] at h2; omega
  have gget:Go (eNextOwn (forTgt (dI p)) (.ref 40)) (duS2 p g gm t (dn4 g A a s E ty []) ans toks i done.length (.wl 12 done.length)) (some (.tup [.int done.length,.lst q])) (duS2 p g gm t (dn4 g A a s E ty []) ans toks i (done.length + 1) (.wl 12 (done.length + 1))) :=
   goEn (j:=39) (l:=12) (k:=done.length) (xs:=rowsV g.rows) (by kernel_rfl) (by kernel_rfl) (by kernel_rfl) (by kernel_rfl) (by rw [e0]; simp) (by kernel_rfl)
  have gh:=d_hear (p:=p) (A:=A) (a:=a) (s:=s) (E:=E) (ty:=ty) (n:=done.length) (i:=i) (e:=done.length + 1) (m:=m) D ha ht hq (by omega) (by omega)
  have gt:=d_tst (p:=p) (g:=g) (gm:=gm) (t:=t) (toks:=toks) (A:=A) (a:=a) (S:=s) (E:=E) (ty:=ty) (n:=done.length) (q:=q) (i:=i) (e:=done.length + 1) (m:=m) (wl:=.wl 12 (done.length + 1)) (ans:=ans) (b:=seqH q ((numS 0 g.cs).drop s)) (by omega)
  cases hs:seqH q ((numS 0 g.cs).drop s) with
  | true =>
   rw [hs] at gh gt
   rw [tryR_t hs]
   refine ⟨dnq done.length q,.wl 12 (done.length + 1),done.length + 1,.inr ⟨_,_,rfl,hq⟩,show 12 < 39 by decide,?_⟩
   exact for_brk gget (d_iasg (m:=m + 41)) (Go.exs (Go.eq d_ib (Go.cons gh (Go.consR (Go.if_ d_if gt (d_found (by omega) (by omega)))))))
  | false =>
   rw [hs] at gh gt
   rw [tryR_f hs]
   obtain ⟨x,wl,e',h1,h2,g2⟩:=dI_loop D ht qs (done ++ [q]) (by rw [e0,List.append_assoc]; rfl) (ans ++ [AV.bool false]) (ha.app (show CL [AV.bool false] from CL.bools [false])) (by rw [List.length_append,List.length_singleton]; omega) (m + 61) (by omega)
   rw [List.length_append,List.length_singleton] at g2
   refine ⟨x,wl,e',h1,h2,?_⟩
   have turn:∀ {σ:St},Go ((RN p g.hs (m + 61)).forl (dueAe p) (forTgt (dI p)) (.ref 40) (forBody (dI p))) (duS2 p g gm t (dn4 g A a s E ty []) (ans ++ [.bool false]) toks i (done.length + 1) (.wl 12 (done.length + 1))) .next σ →
     Go ((RN p g.hs (m + 62)).forl (dueAe p) (forTgt (dI p)) (.ref 40) (forBody (dI p))) (duS2 p g gm t (dn4 g A a s E ty []) ans toks i done.length (.wl 12 done.length)) .next σ:=fun g2 =>
    for_turn gget (d_iasg (m:=m + 41)) (Go.exs (Go.eq d_ib (Go.cons gh (Go.stmt (Go.if_ d_if gt d_else))))) (Go.drop (N:=41) 35 ["number","sequence"] (und_dS2 (wl:=.wl 12 (done.length + 1)) D (by decide) (dn4_ok (by decide) .nil) (ha.app (show CL [AV.bool false] from CL.bools [false])) ht (show 12 < 39 by decide)) (fun _=>by kernel_rfl)) g2
   generalize tryR (done.length + 1) qs ((numS 0 g.cs).drop s)=tr at g2 ⊢
   obtain ⟨bs,o⟩:=tr
   cases o with
   | none =>
    have e2:(ans ++ [AV.bool false]) ++ boolsV bs=ans ++ boolsV (false :: bs):=by rw [List.append_assoc]; rfl
    dsimp only at g2 ⊢
    rw [e2] at g2
    exact turn g2
   | some il =>
    obtain ⟨k,l⟩:=il
    have e2:(ans ++ [AV.bool false]) ++ boolsV bs=ans ++ boolsV (false :: bs):=by rw [List.append_assoc]; rfl
    dsimp only at g2 ⊢
    rw [e2] at g2
    exact turn g2
theorem d_it:Go (EM.bind ((RN p g.hs (m + 20)).ev (dueAe p) (forIter (dF p))) fun v=>eIterOf v) ⟨38,dC p g gm t (dn0 g A []) ans toks⟩ (.ref 38) (duS1 p g gm t (dn0 g A []) ans toks (.liter 17 0)):=Go.by [] trivial (fun _=>by kernel_rfl)
theorem d_get (h:(boolsV g.bs)[i]? = some (.bool a)):Go (eNextOwn (forTgt (dF p)) (.ref 38)) (duS1 p g gm t (dn0 g A []) ans toks (.liter 17 i)) (some (.bool a)) (duS1 p g gm t (dn0 g A []) ans toks (.liter 17 (i + 1))):=Go.by [.cut [] (.bool a)] (aa h trivial) (fun _=>by kernel_rfl)
theorem d_end (h:(boolsV g.bs)[i]? = none):Go (eNextOwn (forTgt (dF p)) (.ref 38)) (duS1 p g gm t (dn0 g A []) ans toks (.liter 17 i)) none (duS1 p g gm t (dn0 g A []) ans toks .lend):=Go.by [.b false] (aa h trivial) (fun _=>by kernel_rfl)
theorem d_asg:Go (eAssign (KK p) (RN p g.hs (m + 20)) (dueAe p) (.bool a) (forTgt (dF p))) (duS1 p g gm t (dn0 g A []) ans toks (.liter 17 i)) PUnit.unit (duS1 p g gm t (dn0 g A [("ahead",.bool a)]) ans toks (.liter 17 i)):=Go.by [] trivial (fun _=>by kernel_rfl)
noncomputable abbrev aN (a:Bool):Nat:=_root_.cond a 1 0
theorem d_s0:Go (ONE p g.hs (m + 20) (dueAe p) (nthS (forBody (dF p)) 0)) (duS1 p g gm t (dn0 g A [("ahead",.bool a)]) ans toks (.liter 17 i)) .next (duS1 p g gm t (dn0 g A [("ahead",.bool a),("start",.int (A + aN a:Nat))]) ans toks (.liter 17 i)):=by
 cases a with
 | true=>exact Go.by [.b true] (aa rt trivial) (fun _=>by kernel_rfl)
 | false=>exact Go.by [.b false] (aa rf trivial) (fun _=>by kernel_rfl)
theorem d_if1:ONE p g.hs (m + 20) (dueAe p) (nthS (forBody (dF p)) 1)=eBr ((RN p g.hs (m + 20)).tst (dueAe p) (ifTest (nthS (forBody (dF p)) 1))) ((RN p g.hs (m + 20)).exs (dueAe p) (ifBody (nthS (forBody (dF p)) 1))) ((RN p g.hs (m + 20)).exs (dueAe p) (ifElse (nthS (forBody (dF p)) 1))):=by kernel_rfl
theorem d_t1 (hl:(tS g.cs).length≤M6):Go ((RN p g.hs (m + 20)).tst (dueAe p) (ifTest (nthS (forBody (dF p)) 1))) (duS1 p g gm t (dn0 g A [("ahead",.bool a),("start",.int S)]) ans toks (.liter 17 i)) (decide (S > ((tS g.cs).length:Int))) (duS1 p g gm t (dn0 g A [("ahead",.bool a),("start",.int S)]) ans toks (.liter 17 i)):=Go.by [] (aa hl trivial) (fun _=>by kernel_rfl)
theorem d_b1 {σ:St}:Go ((RN p g.hs (m + 20)).exs (dueAe p) (ifBody (nthS (forBody (dF p)) 1))) σ .brk σ:=Go.by [] trivial (fun _=>by kernel_rfl)
theorem d_e1 {σ:St}:Go ((RN p g.hs (m + 20)).exs (dueAe p) (ifElse (nthS (forBody (dF p)) 1))) σ .next σ:=Go.by [] trivial (fun _=>by kernel_rfl)
theorem d_s2:Go (ONE p g.hs (m + 20) (dueAe p) (nthS (forBody (dF p)) 2)) (duS1 p g gm t (dn0 g A [("ahead",.bool a),("start",.int S)]) ans toks (.liter 17 i)) .next (duS1 p g gm t (dn4 g A a S (A + 1:Nat) "ONE" []) ans toks (.liter 17 i)):=Go.by [.b true] (aa (sw_one (p:=p)) <| aa (show 2≤M6 by decide) trivial) (fun _=>by kernel_rfl)
theorem d_for:ONE p g.hs (m + 20) (dueAe p) (dI p)=EM.bind ((RN p g.hs (m + 20)).ev (dueAe p) (forIter (dI p))) fun v=>EM.bind (eIterOf v) fun it=>(RN p g.hs (m + 20)).forl (dueAe p) (forTgt (dI p)) it (forBody (dI p)):=by kernel_rfl
theorem d_it3:Go (EM.bind ((RN p g.hs (m + 20)).ev (dueAe p) (forIter (dI p))) fun v=>eIterOf v) (duS1 p g gm t (dn4 g A a S E ty []) ans toks (.liter 17 i)) (.ref 40) (duS2 p g gm t (dn4 g A a S E ty []) ans toks i 0 (.wl 12 0)):=Go.by [] trivial (fun _=>by kernel_rfl)
theorem d_if4:ONE p g.hs (m + 20) (dueAe p) (nthS (forBody (dF p)) 4)=eBr ((RN p g.hs (m + 20)).tst (dueAe p) (ifTest (nthS (forBody (dF p)) 4))) ((RN p g.hs (m + 20)).exs (dueAe p) (ifBody (nthS (forBody (dF p)) 4))) ((RN p g.hs (m + 20)).exs (dueAe p) (ifElse (nthS (forBody (dF p)) 4))):=by kernel_rfl
theorem d_t4 (hl:(tS g.cs).length≤M6):Go ((RN p g.hs (m + 20)).tst (dueAe p) (ifTest (nthS (forBody (dF p)) 4))) (duS2 p g gm t (dn4 g A a S E ty x) ans toks i e wl) (decide (E > ((tS g.cs).length:Int))) (duS2 p g gm t (dn4 g A a S E ty x) ans toks i e wl):=Go.by [] (aa hl trivial) (fun _=>by kernel_rfl)
theorem d_b4 {σ:St}:Go ((RN p g.hs (m + 20)).exs (dueAe p) (ifBody (nthS (forBody (dF p)) 4))) σ .brk σ:=Go.by [] trivial (fun _=>by kernel_rfl)
theorem d_e4 {σ:St}:Go ((RN p g.hs (m + 20)).exs (dueAe p) (ifElse (nthS (forBody (dF p)) 4))) σ .next σ:=Go.by [] trivial (fun _=>by kernel_rfl)
noncomputable def tkD (w:Int) (A:Nat) (ty v:Str):AV:=.tup [.str ty,.str v,.str (fS w A),.int (rI w A),.int (cI w A)]
theorem d_s5 (D:DOk g gm t) (hx:NsOk 41 x) (ha:CL ans) (ht:CL toks) (hw:UndC 39 wl) (hA:A≤900) (hp:(pickS (tS g.cs) (some (A:Int)) (some E)).length≤M6) (hl:toks.length≤900):Go (ONE p g.hs (m + 20) (dueAe p) (nthS (forBody (dF p)) 5)) (duS2 p g gm t (dn4 g A a S E ty x) ans toks i e wl) .next
  (duS2 p g gm t (dn4 g A a S E ty x) ans (toks ++ [tkD g.w A ty (pickS (tS g.cs) (some (A:Int)) (some E))]) i e wl) :=
 Go.by [.norm] (aa hp <| aa (show 2≤M6 by decide) <| aa (mul_small (a:=(A:Int)) (b:=(A:Int)) (by omega) (by omega)) <| aa (show (3:Int) ≠ 0 by decide) <| aa (f_num (w:=g.w) (i:=A)) <| aa (f_len (w:=g.w) (i:=A)) <| aa (mul_small (a:=(A:Int)) (b:=5) (by omega) (by omega)) <| aa (show (13:Int) ≠ 0 by decide) <|
  aa (mul_small (a:=(A:Int)) (b:=11) (by omega) (by omega)) <| aa (show (17:Int) ≠ 0 by decide) <| aa (show 3≤M6 by decide) <| aa (show UV 41 (whA g.w A) (duS2 p g gm t (dn4 g A a S E ty x) ans toks i e wl).objs from ⟨wh_und,und_dS2 D (by decide) (dn4_ok (by decide) hx) ha ht hw⟩) <| aa (show false=false∧false=false from ⟨rfl,rfl⟩) <| aa (show 5≤M6 by decide) <| aa (lM hl) trivial) (fun _=>by kernel_rfl)
end
theorem tryR_pos:∀ (i:Nat) (qs:List (List AV)) (U:List Sg) (bs:List Bool) (k l:Nat),RowsOk qs→tryR i qs U=(bs,some (k,l))→1≤l
 | _,[],_,_,_,_,_,h=>nomatch congrArg (·.2) h
 | i,q :: qs,U,bs,k,l,hr,h=>by
  cases hs:seqH q U with
  | true =>
   rw [tryR_t hs] at h
   have h2:some (i,q.length)=some (k,l):=congrArg (·.2) h
   have h3:q.length=l:=congrArg (·.2) (Option.some.inj h2)
   exact h3 ▸ (hr q (.head _)).pos
  | false =>
   rw [tryR_f hs] at h
   exact tryR_pos (i + 1) qs U (tryR (i + 1) qs U).1 k l (fun r hx=>hr r (.tail _ hx)) (by
    have h2:(tryR (i + 1) qs U).2=some (k,l):=congrArg (·.2) h
    rw [← h2])
section
variable (rows:List (List AV)) (L:List Sg) (a:Bool) (A:Nat)
noncomputable def turnAt:List Bool × Option (Str × List Sg × List Sg) :=
 if L.length < A + aN a then ([],none) else
 match tryR 0 rows (L.drop (A + aN a)) with
 | (bs,some (k,l))=>(bs,some (numT k,(L.drop A).take (A + aN a + l - A),L.drop (A + aN a + l)))
 | (bs,none)=>if L.length < A + 1 then (bs,none) else (bs,some ("ONE",(L.drop A).take 1,L.drop (A + 1)))
theorem turn_at (hA:A≤L.length):turnSp rows a (L.drop A)=turnAt rows L a A:=by
 unfold turnAt
 cases a with
 | true =>
  show _=if L.length < A + 1 then _ else _
  by_cases h:L.length < A + 1
  ·rw [if_pos h,List.drop_eq_nil_of_le (by omega)]
   rfl
  ·rw [if_neg h]
   have e:L.drop A=L[A] :: L.drop (A + 1):=List.drop_eq_getElem_cons (by omega)
   rw [e]
   show finSp rows [L[A]] (L.drop (A + 1))=match tryR 0 rows (L.drop (A + 1)) with | (bs,some (k,l))=>_ | (bs,none)=>_
   unfold finSp
   generalize tryR 0 rows (L.drop (A + 1))=tr
   obtain ⟨bs,o⟩:=tr
   cases o with
   | some il =>
    obtain ⟨k,l⟩:=il
    show (bs,some (numT k,[L[A]] ++ (L.drop (A + 1)).take l,(L.drop (A + 1)).drop l))=(bs,some (numT k,(L[A] :: L.drop (A + 1)).take (A + 1 + l - A),L.drop (A + 1 + l)))
    rw [show A + 1 + l - A=l + 1 by omega,List.drop_drop]
    rfl
   | none =>
    show (bs,some ((Str.ofString "ONE" : Str),[L[A]],L.drop (A + 1)))=if L.length < A + 1 then _ else _
    rw [if_neg h]
    rfl
 | false =>
  show _=if L.length < A then _ else _
  rw [if_neg (by omega)]
  show finSp rows [] (L.drop A)=match tryR 0 rows (L.drop A) with | (bs,some (k,l))=>_ | (bs,none)=>_
  unfold finSp
  generalize tryR 0 rows (L.drop A)=tr
  obtain ⟨bs,o⟩:=tr
  cases o with
  | some il =>
   obtain ⟨k,l⟩:=il
   show (bs,some (numT k,[] ++ (L.drop A).take l,(L.drop A).drop l))=(bs,some (numT k,(L.drop A).take (A + l - A),L.drop (A + l)))
   rw [show A + l - A=l by omega,List.drop_drop]
   rfl
  | none =>
   show (match [] ++ L.drop A with | []=>(bs,none) | x :: U=>(bs,some ((Str.ofString "ONE" : Str),[x],U)))=if L.length < A + 1 then _ else _
   by_cases h:L.length < A + 1
   ·rw [if_pos h,List.drop_eq_nil_of_le (show L.length≤A by omega)]
    rfl
   ·rw [if_neg h]
    have e:L.drop A=L[A] :: L.drop (A + 1):=List.drop_eq_getElem_cons (by omega)
    rw [e]
    rfl
end
theorem evT_tk {w:Int} {cs:List Nat} {A n:Nat} {ty:Str} (hA:A < cs.length) (hn:1≤n):evT w (ty,((numS 0 cs).drop A).take n)=tkD w A ty (tS ((cs.drop A).take n)):=by
 obtain ⟨n,rfl⟩:∃ n',n=n' + 1:=⟨n - 1,by omega⟩
 rw [numS_drop,List.drop_eq_getElem_cons hA,Nat.zero_add]
 show AV.tup [.str ty,.str (tS (cs[A] :: ((numS (A + 1) (cs.drop (A + 1))).take n).map (·.d))),.str (fS w A),.int (rI w A),.int (cI w A)]=_
 rw [List.map_take,numS_d]
 rfl
noncomputable def dueE (p:Params) (g:G2) (gm:List (Str × AV)) (t:T2) (ans toks:List AV) (n:Nat):St:=⟨n,(37,.list toks) :: (36,.list ans) :: (lwE p g (nmG g) gm t).objs⟩
noncomputable def dueV:AV:=.tup [.ref 36,.ref 37]
section
variable {p:Params} {g:G2} {gm:List (Str × AV)} {t:T2} {dn x:List (Str × AV)} {ans toks q acc:List AV} {i e s j k m n N A:Nat} {a:Bool} {ty:Str} {wl it:Cell} {E S B:Int}
noncomputable def DEnd (p:Params) (g:G2) (gm:List (Str × AV)) (t:T2) (m:Nat) (ans toks:List AV) (σ:St):Prop:=∃ n,Go (EM.bind (eExecs (ONE p g.hs (m + 30) (dueAe p)) [nthS (dueB p) 2]) fun fl=>onFl fl (eNorm 35 noneAV) (eNorm 35) EM.fail) σ dueV (dueE p g gm t ans toks n)
theorem dend1:DEnd p g gm t m ans toks (duS1 p g gm t (dn0 g S x) ans toks it):=⟨39,Go.by [.sel [36,37]] (aa (show 2≤M6 by decide) trivial) (fun _=>by kernel_rfl)⟩
theorem dend2:DEnd p g gm t m ans toks (duS2 p g gm t (dn0 g S x) ans toks i e wl):=⟨41,Go.by [.sel [36,37]] (aa (show 2≤M6 by decide) trivial) (fun _=>by kernel_rfl)⟩
theorem d_s6:Go (ONE p g.hs (m + 20) (dueAe p) (nthS (forBody (dF p)) 6)) (duS2 p g gm t (dn4 g S a B E ty x) ans toks i e wl) .next (duS2 p g gm t (dn4 g E a B E ty x) ans toks i e wl):=Go.by [] trivial (fun _=>by kernel_rfl)
theorem d_body:eExecs (ONE p g.hs (m + 100) (dueAe p)) (forBody (dF p))=eExecs (ONE p g.hs (m + 100) (dueAe p)) [nthS (forBody (dF p)) 0,nthS (forBody (dF p)) 1,nthS (forBody (dF p)) 2,dI p,nthS (forBody (dF p)) 4,nthS (forBody (dF p)) 5,nthS (forBody (dF p)) 6]:=by kernel_rfl
theorem d_tidy {B:Nat} (D:DOk g gm t) (ha:CL ans) (ht:CL toks) (hx:XOk x):Go (eTidy 39) (duS2 p g gm t (dn4 g B a S E ty x) ans toks i e wl) () (duS1 p g gm t (dn0 g B []) ans toks (.liter 17 i)):=by
 have u:UC 39 (duS1 p g gm t (dn0 g B []) ans toks (.liter 17 i)).objs:=und_dS1 D (by decide) (dn0_ok (by decide) .nil) ha ht
 rcases hx with rfl | ⟨k,q,rfl,hq⟩
 ·exact Go.drop (N:=39) 35 ["ahead","start","end","kind","number","sequence"] u (fun _=>by kernel_rfl)
 ·exact Go.drop (N:=39) 35 ["ahead","start","end","kind","number","sequence"] u (fun _=>by kernel_rfl)
theorem d_loop (D:DOk g gm t):∀ (bl done:List Bool) (e0:g.bs=done ++ bl) (A:Nat) (hA:A≤g.cs.length) (ans toks:List AV) (ha:CL ans) (ht:CL toks) (hh:ans.length + 4 * bl.length≤880) (hk:toks.length + bl.length≤880) (M:Nat) (hM:102 + bl.length≤M),
  ∃ σ,Go ((RN p g.hs M).forl (dueAe p) (forTgt (dF p)) (.ref 38) (forBody (dF p))) (duS1 p g gm t (dn0 g A []) ans toks (.liter 17 done.length)) .next σ ∧
   DEnd p g gm t m (ans ++ boolsV (runSp g.rows bl ((numS 0 g.cs).drop A)).1) (toks ++ (runSp g.rows bl ((numS 0 g.cs).drop A)).2.map (evT g.w)) σ
 | [],done,e0,A,hA,ans,toks,ha,ht,hh,hk,M,hM=>by
  obtain ⟨m',rfl⟩:∃ m,M=m + 20 + 1:=⟨M - 21,by omega⟩
  refine ⟨_,for_end (d_end (by rw [e0,List.append_nil]; simp)),?_⟩
  show DEnd p g gm t m (ans ++ []) (toks ++ []) _
  rw [List.append_nil,List.append_nil]
  exact dend1
 | a :: bl,done,e0,A,hA,ans,toks,ha,ht,hh,hk,M,hM=>by
  rw [List.length_cons] at hh hk hM
  obtain ⟨m',rfl⟩:∃ m,M=m + 100 + 1 + 1:=⟨M - 102,by omega⟩
  have hcl:=D.ho.cl
  have hrl:=D.ho.rl
  have lc:(tS g.cs).length≤M6:=by rw [tS_len]; unfold M6; omega
  have hLl:(numS 0 g.cs).length=g.cs.length:=numS_len 0 g.cs
  have gget:Go (eNextOwn (forTgt (dF p)) (.ref 38)) (duS1 p g gm t (dn0 g A []) ans toks (.liter 17 done.length)) (some (.bool a)) (duS1 p g gm t (dn0 g A []) ans toks (.liter 17 (done.length + 1))):=d_get (by rw [e0]; simp)
  have s0:=d_s0 (p:=p) (g:=g) (gm:=gm) (t:=t) (ans:=ans) (toks:=toks) (m:=m' + 80) (A:=A) (a:=a) (i:=done.length + 1)
  have t1:=d_t1 (p:=p) (g:=g) (gm:=gm) (t:=t) (ans:=ans) (toks:=toks) (m:=m' + 80) (A:=A) (a:=a) (i:=done.length + 1) (S:=((A + aN a:Nat):Int)) lc
  have hspec:=turn_at g.rows (numS 0 g.cs) a A (by omega)
  unfold turnAt at hspec
  by_cases h1:(numS 0 g.cs).length < A + aN a
  ·rw [if_pos h1] at hspec
   rw [decide_eq_true (by rw [tS_len]; omega)] at t1
   rw [runSp_n hspec]
   refine ⟨_,for_brk gget (d_asg (m:=m' + 81)) (Go.exs (Go.eq d_body (Go.cons s0 (Go.consR (Go.if_ d_if1 t1 d_b1))))),?_⟩
   show DEnd p g gm t m (ans ++ []) (toks ++ []) _
   rw [List.append_nil,List.append_nil]
   exact dend1
  ·rw [if_neg h1] at hspec
   rw [decide_eq_false (by rw [tS_len]; omega)] at t1
   have s2:=d_s2 (p:=p) (g:=g) (gm:=gm) (t:=t) (ans:=ans) (toks:=toks) (m:=m' + 80) (A:=A) (a:=a) (i:=done.length + 1) (S:=((A + aN a:Nat):Int))
   obtain ⟨x,wl,e',hx,hw,g3⟩:=dI_loop (p:=p) (A:=A) (a:=a) (s:=A + aN a) (E:=((A + 1:Nat):Int)) (ty:="ONE") (i:=done.length + 1) D ht g.rows [] rfl ans ha (by omega) (m' + 100) (by omega)
   have s3:=Go.for_ (d_for (m:=m' + 80)) (d_it3 (p:=p) (g:=g) (gm:=gm) (t:=t) (ans:=ans) (toks:=toks) (m:=m' + 80) (A:=A) (a:=a) (i:=done.length + 1) (S:=((A + aN a:Nat):Int)) (E:=((A + 1:Nat):Int)) (ty:="ONE")) g3
   have hxo:NsOk 41 x:=by
    rcases hx with rfl | ⟨k,q,rfl,hq⟩
    ·exact .nil
    ·exact dnq_ok hq
   have hts:=tryR_some 0 g.rows ((numS 0 g.cs).drop (A + aN a))
   have htp:=fun bs k l=>tryR_pos 0 g.rows ((numS 0 g.cs).drop (A + aN a)) bs k l D.ho.hr
   have htl:=tryR_le 0 g.rows ((numS 0 g.cs).drop (A + aN a))
   rw [List.length_nil] at s3
   have tok:∀ {bs:List Bool} {ty:Str} {B:Nat},bs.length≤4→A < B→B≤g.cs.length→turnSp g.rows a ((numS 0 g.cs).drop A)=(bs,some (ty,((numS 0 g.cs).drop A).take (B - A),(numS 0 g.cs).drop B)) →
     Go (ONE p g.hs (m' + 100) (dueAe p) (dI p)) (duS1 p g gm t (dn4 g A a ((A + aN a:Nat):Int) ((A + 1:Nat):Int) "ONE" []) ans toks (.liter 17 (done.length + 1))) .next (duS2 p g gm t (dn4 g A a ((A + aN a:Nat):Int) (B:Nat) ty x) (ans ++ boolsV bs) toks (done.length + 1) e' wl) →
     ∃ σ,Go ((RN p g.hs (m' + 102)).forl (dueAe p) (forTgt (dF p)) (.ref 38) (forBody (dF p))) (duS1 p g gm t (dn0 g A []) ans toks (.liter 17 done.length)) .next σ ∧
      DEnd p g gm t m (ans ++ boolsV (runSp g.rows (a :: bl) ((numS 0 g.cs).drop A)).1) (toks ++ (runSp g.rows (a :: bl) ((numS 0 g.cs).drop A)).2.map (evT g.w)) σ:=by
    intro bs ty B hbs hAB hB hsp g3
    have t4:=d_t4 (p:=p) (g:=g) (gm:=gm) (t:=t) (x:=x) (ans:=ans ++ boolsV bs) (toks:=toks) (m:=m' + 80) (A:=A) (a:=a) (i:=done.length + 1) (S:=((A + aN a:Nat):Int)) (E:=(B:Int)) (ty:=ty) (e:=e') (wl:=wl) lc
    rw [decide_eq_false (by rw [tS_len]; omega)] at t4
    have ha2:CL (ans ++ boolsV bs):=ha.app (CL.bools bs)
    have s5:=d_s5 (p:=p) (m:=m' + 80) (A:=A) (a:=a) (i:=done.length + 1) (S:=((A + aN a:Nat):Int)) (E:=(B:Int)) (ty:=ty) (e:=e') D hxo ha2 ht hw (by omega) (by rw [pickS_ab g.cs A B (by omega) hB,tS_len,List.length_take,List.length_drop]; unfold M6; omega) (by omega)
    rw [pickS_ab g.cs A B (by omega) hB,← evT_tk (w:=g.w) (ty:=ty) (show A < g.cs.length by omega) (show 1≤B - A by omega)] at s5
    have s6:=d_s6 (p:=p) (g:=g) (gm:=gm) (t:=t) (x:=x) (ans:=ans ++ boolsV bs) (toks:=toks ++ [evT g.w (ty,((numS 0 g.cs).drop A).take (B - A))]) (m:=m' + 80) (S:=(A:Int)) (a:=a) (i:=done.length + 1) (B:=((A + aN a:Nat):Int)) (E:=(B:Int)) (ty:=ty) (e:=e') (wl:=wl)
    have ht2:CL (toks ++ [evT g.w (ty,((numS 0 g.cs).drop A).take (B - A))]):=ht.app (CL.cons (evT_cl _) CL.nil)
    obtain ⟨σ,g7,ge⟩:=d_loop D bl (done ++ [a]) (by rw [e0,List.append_assoc]; rfl) B hB (ans ++ boolsV bs) (toks ++ [evT g.w (ty,((numS 0 g.cs).drop A).take (B - A))]) ha2 ht2 (by rw [List.length_append,List.length_map]; omega) (by rw [List.length_append,List.length_singleton]; omega) (m' + 101) (by omega)
    rw [List.length_append,List.length_singleton] at g7
    refine ⟨σ,for_turn gget (d_asg (m:=m' + 81)) (Go.exs (Go.eq d_body (Go.cons s0 (Go.cons (Go.if_ d_if1 t1 d_e1) (Go.cons s2 (Go.cons g3 (Go.cons (Go.if_ d_if4 t4 d_e4) (Go.cons s5 (Go.stmt s6))))))))) (d_tidy D ha2 ht2 hx) g7,?_⟩
    rw [runSp_s hsp]
    have e1:ans ++ boolsV bs ++ boolsV (runSp g.rows bl ((numS 0 g.cs).drop B)).1=ans ++ boolsV (bs ++ (runSp g.rows bl ((numS 0 g.cs).drop B)).1):=by rw [List.append_assoc]; show _=ans ++ List.map _ _; rw [List.map_append]
    have e2:toks ++ [evT g.w (ty,((numS 0 g.cs).drop A).take (B - A))] ++ (runSp g.rows bl ((numS 0 g.cs).drop B)).2.map (evT g.w)=toks ++ ((ty,((numS 0 g.cs).drop A).take (B - A)) :: (runSp g.rows bl ((numS 0 g.cs).drop B)).2).map (evT g.w):=by rw [List.append_assoc]; rfl
    rw [e1,e2] at ge
    exact ge
   generalize tryR 0 g.rows ((numS 0 g.cs).drop (A + aN a))=tr at s3 hspec hts htp htl
   obtain ⟨bs,o⟩:=tr
   have hbs:bs.length≤4:=Nat.le_trans htl hrl
   cases o with
   | some il =>
    obtain ⟨k,l⟩:=il
    have h2:=hts bs k l rfl
    have h3:=htp bs k l rfl
    rw [List.length_drop] at h2
    exact tok (B:=A + aN a + l) hbs (by omega) (by omega) hspec s3
   | none =>
    dsimp only at hspec s3
    by_cases h4:(numS 0 g.cs).length < A + 1
    ·rw [if_pos h4] at hspec
     have t4:=d_t4 (p:=p) (g:=g) (gm:=gm) (t:=t) (x:=x) (ans:=ans ++ boolsV bs) (toks:=toks) (m:=m' + 80) (A:=A) (a:=a) (i:=done.length + 1) (S:=((A + aN a:Nat):Int)) (E:=((A + 1:Nat):Int)) (ty:="ONE") (e:=e') (wl:=wl) lc
     rw [decide_eq_true (by rw [tS_len]; omega)] at t4
     rw [runSp_n hspec]
     refine ⟨_,for_brk gget (d_asg (m:=m' + 81)) (Go.exs (Go.eq d_body (Go.cons s0 (Go.cons (Go.if_ d_if1 t1 d_e1) (Go.cons s2 (Go.cons s3 (Go.consR (Go.if_ d_if4 t4 d_b4)))))))),?_⟩
     show DEnd p g gm t m (ans ++ boolsV bs) (toks ++ []) _
     rw [List.append_nil]
     exact dend2
    ·rw [if_neg h4] at hspec
     exact tok (B:=A + 1) hbs (by omega) (by omega) (by rw [hspec,show A + 1 - A=1 by omega]) s3
end
theorem text_len:∀ (ts:List Str) (k:Nat) (acc:Str),(textFrom k acc ts).length≤acc.length + (ts.map (·.length)).sum + 2 * ts.length
 | [],k,acc=>by
  show acc.length≤_
  omega
 | t :: r,k,acc=>by
  have h:=text_len r (k + 1) (acc ++ (if k > 0 then ", " else "" : String) ++ t)
  have e:((if k > 0 then ", " else "" : String):Str).length≤2:=by split <;> decide
  rw [Str.length_append,Str.length_append] at h
  show (textFrom (k + 1) (acc ++ (if k > 0 then ", " else "" : String) ++ t) r).length≤_
  rw [List.map_cons,List.sum_cons,List.length_cons]
  omega
theorem shown_len (bs:List Bool):(shownB bs).length≤7 * bs.length + 2:=by
 have hs:∀ bs:List Bool,((PyData.shownAll (bs.map .bool)).map (·.length)).sum≤5 * bs.length∧(PyData.shownAll (bs.map .bool)).length=bs.length:=fun bs=>by
  induction bs with
  | nil=>exact ⟨Nat.zero_le _,rfl⟩
  | cons b bs ih =>
   have h:(PyData.shown (.bool b)).length≤5:=by cases b <;> decide
   show ((PyData.shown (.bool b)).length :: (PyData.shownAll (bs.map .bool)).map (·.length)).sum≤_∧(PyData.shownAll (bs.map .bool)).length + 1=_
   rw [List.sum_cons,List.length_cons]
   exact ⟨by omega,by omega⟩
 have h1:=hs bs
 have h2:=text_len (PyData.shownAll (bs.map .bool)) 0 (Str.ofString "[")
 have e1:(Str.ofString "[").length=1:=by decide
 have e2:(Str.ofString "]").length=1:=by decide
 have e3:(shownB bs).length=(textFrom 0 (Str.ofString "[") (PyData.shownAll (bs.map .bool)) ++ Str.ofString "]").length:=by
  unfold shownB PyData.shown listText
  rfl
 rw [e3,Str.length_append]
 omega
noncomputable abbrev r14 (p:Params):List PySem.Expr:=match asgVal (LS p 14) with
 | .BoolOp _ es _=>es
 | _=>[]
noncomputable def cmpL:PySem.Expr→PySem.Expr
 | .Compare l _ _ _=>l
 | e=>e
noncomputable def cmpR:PySem.Expr→PySem.Expr
 | .Compare _ _ (r :: _) _=>r
 | e=>e
theorem Go.tupF {K:Frag} {r:Rec} {ae:AEnv} {elts:List PySem.Expr} {k:Nat} {tpos pos:Pos} {value:PySem.Expr} {xs:List Str} {v:AV} {σ σ1 σ2:St} (h1:namesOf elts=some xs)
  (h2:swapsN ae elts k tpos value pos none) (h3:Go (r.ev ae value) σ v σ1) (h4:Go (eAssign K r ae v (.Tuple elts k tpos)) σ1 PUnit.unit σ2):Go (eTupA K r ae elts k tpos value pos) σ .next σ2 :=
 Go.opt h1 (Go.word (w:=.b false) (a:=false) rfl (Go.cond (f:=fun _=>EM.bind (r.ev ae value) fun v=>EM.bind (eAssign K r ae v (.Tuple elts k tpos)) fun _=>EM.ret AFlow.next) h2 (Go.bind h3 (Go.bind h4 Go.ret))))
noncomputable def nmF (g:G2):List (Str × AV):=nmB (tS g.cs) g.w [("aheads",.ref 17),("signs",.ref 20),("got",.ref 33),("answers",.ref 36),("tokens",.ref 37)]
noncomputable def lwF (p:Params) (g:G2) (gm:List (Str × AV)) (t:T2) (ans toks:List AV) (n:Nat):St:=⟨n,(37,.list toks) :: (36,.list ans) :: (lwE p g (nmF g) gm t).objs⟩
section
variable {p:Params} {g:G2} {gm:List (Str × AV)} {t:T2} {ans toks:List AV} {m n i N:Nat}
theorem due_three:eExecs (ONE p g.hs (m + 120) (dueAe p)) (fnAt2 p 270).body=eExecs (ONE p g.hs (m + 120) (dueAe p)) ([nthS (dueB p) 0,dF p] ++ [nthS (dueB p) 2]):=by kernel_rfl
theorem due_for:ONE p g.hs (m + 120) (dueAe p) (dF p)=EM.bind ((RN p g.hs (m + 120)).ev (dueAe p) (forIter (dF p))) fun v=>EM.bind (eIterOf v) fun it=>(RN p g.hs (m + 120)).forl (dueAe p) (forTgt (dF p)) it (forBody (dF p)):=by kernel_rfl
theorem due_call (D:DOk g gm t):∃ n,Go ((RN p g.hs (m + 122)).call (.val (.ref 270)) [.ref 12,.str (tS g.cs),.ref 17,.int g.w] []) (lwE p g (nmG g) gm t) dueV (dueE p g gm t (boolsV (runSp g.rows g.bs (numS 0 g.cs)).1) ((runSp g.rows g.bs (numS 0 g.cs)).2.map (evT g.w)) n):=by
 have hbl:=D.ho.bl
 obtain ⟨σ,g2,ge⟩:=d_loop (p:=p) (m:=m + 90) D g.bs [] rfl 0 (Nat.zero_le _) [] [] CL.nil CL.nil (by rw [List.length_nil]; omega) (by rw [List.length_nil]; omega) (m + 120) (by omega)
 rw [List.drop_zero,List.nil_append,List.nil_append] at ge
 obtain ⟨n,ge⟩:=ge
 refine ⟨n,?_⟩
 refine Go.eq (show (RN p g.hs (m + 122)).call (.val (.ref 270)) [.ref 12,.str (tS g.cs),.ref 17,.int g.w] []=eFn (RN p g.hs (m + 121)) (fnAt2 p 270) [.ref 12,.str (tS g.cs),.ref 17,.int g.w] [] by kernel_rfl)
  (Go.fn (ae:=dueAe p) (σ1:=⟨36,(35,.ns [("wild",.int g.w),("aheads",.ref 17),("text",.str (tS g.cs)),("table",.ref 12)]) :: (lwE p g (nmG g) gm t).objs⟩) (by kernel_rfl) (binds:=[("table",.ref 12),("text",.str (tS g.cs)),("aheads",.ref 17),("wild",.int g.w)]) (by kernel_rfl) (Go.by [] trivial (fun _=>by kernel_rfl)) ?_)
 have s0:Go (ONE p g.hs (m + 120) (dueAe p) (nthS (dueB p) 0)) ⟨36,(35,.ns [("wild",.int g.w),("aheads",.ref 17),("text",.str (tS g.cs)),("table",.ref 12)]) :: (lwE p g (nmG g) gm t).objs⟩ .next ⟨38,dC p g gm t (dn0 g (0:Nat) []) [] []⟩ :=
  Go.by [.b true,.keep,.keep] (aa (sw_start (p:=p)) <| aa (show 0≤M6 by decide) <| aa (show 0≤M6 by decide) <| aa (show 3≤M6 by decide) trivial) (fun _=>by kernel_rfl)
 have e1:EM.bind ((RN p g.hs (m + 121)).exs (dueAe p) (fnAt2 p 270).body) (fun fl=>onFl fl (eNorm 35 noneAV) (eNorm 35) EM.fail)=EM.bind (eExecs (ONE p g.hs (m + 120) (dueAe p)) ([nthS (dueB p) 0,dF p] ++ [nthS (dueB p) 2])) fun fl=>onFl fl (eNorm 35 noneAV) (eNorm 35) EM.fail:=congrArg (fun x=>EM.bind x fun fl=>onFl fl (eNorm 35 noneAV) (eNorm 35) EM.fail) due_three
 exact Go.eq e1 (Go.front (Go.cons s0 (Go.stmt (Go.for_ due_for (d_it (m:=m + 100)) g2))) ge)
theorem s13_one:ONE p g.hs m (lAe p) (LS p 13)=eTupA (KK p) (RN p g.hs m) (lAe p) (tupE (asgTgt (LS p 13))) (tupK (asgTgt (LS p 13))) (tupP (asgTgt (LS p 13))) (asgVal (LS p 13)) (stP (LS p 13)):=by kernel_rfl
theorem s13_nm:namesOf (tupE (asgTgt (LS p 13)))=some (["answers","tokens"]:List Str):=by kernel_rfl
theorem s13_sw:swO p (lAe p) (LS p 13) none:=fun env he=>⟨rfl,by
 obtain ⟨sc,loc⟩:=env
 cases he
 kernel_rfl⟩
theorem s13_ev:(RN p g.hs (m + 1)).ev (lAe p) (asgVal (LS p 13))=EM.bind ((RN p g.hs m).ev (lAe p) (callFn' (asgVal (LS p 13)))) fun f=>eCallWith (KK p) (RN p g.hs m) (lAe p) f [] (callAs (asgVal (LS p 13))) []:=by kernel_rfl
theorem s13_as:Go (eAssign (KK p) (RN p g.hs (m + 20)) (lAe p) dueV (.Tuple (tupE (asgTgt (LS p 13))) (tupK (asgTgt (LS p 13))) (tupP (asgTgt (LS p 13))))) (dueE p g gm t ans toks n) PUnit.unit (lwF p g gm t ans toks n):=Go.by [] trivial (fun _=>by kernel_rfl)
theorem s13_go (D:DOk g gm t):∃ n,Go (ONE p g.hs (m + 123) (lAe p) (LS p 13)) (lwE p g (nmG g) gm t) .next (lwF p g gm t (boolsV (runSp g.rows g.bs (numS 0 g.cs)).1) ((runSp g.rows g.bs (numS 0 g.cs)).2.map (evT g.w)) n):=by
 obtain ⟨n,hc⟩:=due_call (p:=p) (m:=m) D
 refine ⟨n,Go.eq s13_one (Go.tupF s13_nm s13_sw (Go.eq s13_ev ?_) (s13_as (m:=m + 103)))⟩
 refine Go.bind (b:=.val (.ref 270)) (σ':=lwE p g (nmG g) gm t) (Go.by [] trivial (fun _=>by kernel_rfl)) ?_
 exact Go.fcall (as:=[.ref 12,.str (tS g.cs),.ref 17,.int g.w]) (σ3:=lwE p g (nmG g) gm t) (by kernel_rfl) (Go.by [] trivial (fun _=>by kernel_rfl)) hc
theorem r14_one:ONE p g.hs m (lAe p) (LS p 14)=EM.bind ((RN p g.hs m).ev (lAe p) (asgVal (LS p 14))) fun v=>EM.ret (.ret v):=by kernel_rfl
theorem r14_and:(RN p g.hs (m + 1)).ev (lAe p) (asgVal (LS p 14))=EM.bind ((RN p g.hs m).ev (lAe p) (nthE (r14 p) 0)) fun v=>eBr (eTruth (KK p) v) ((RN p g.hs m).ev (lAe p) (nthE (r14 p) 1)) (EM.ret v):=by kernel_rfl
theorem r14_c1:(RN p g.hs (m + 1)).ev (lAe p) (nthE (r14 p) 0)=EM.bind ((RN p g.hs m).ev (lAe p) (cmpL (nthE (r14 p) 0))) fun a=>EM.bind ((RN p g.hs m).ev (lAe p) (cmpR (nthE (r14 p) 0))) fun b=>eCmpX (KK p) .Eq a b:=by kernel_rfl
theorem r14_c2:(RN p g.hs (m + 1)).ev (lAe p) (nthE (r14 p) 1)=EM.bind ((RN p g.hs m).ev (lAe p) (cmpL (nthE (r14 p) 1))) fun a=>EM.bind ((RN p g.hs m).ev (lAe p) (cmpR (nthE (r14 p) 1))) fun b=>eCmpX (KK p) .Eq a b:=by kernel_rfl
theorem r14_eL:(RN p g.hs (m + 1)).ev (lAe p) (cmpL (nthE (r14 p) 1))=EM.bind ((RN p g.hs m).ev (lAe p) (callFn' (cmpL (nthE (r14 p) 1)))) fun f=>eCallWith (KK p) (RN p g.hs m) (lAe p) f [] (callAs (cmpL (nthE (r14 p) 1))) []:=by kernel_rfl
theorem r14_eR:(RN p g.hs (m + 1)).ev (lAe p) (cmpR (nthE (r14 p) 1))=EM.bind ((RN p g.hs m).ev (lAe p) (callFn' (cmpR (nthE (r14 p) 1)))) fun f=>eCallWith (KK p) (RN p g.hs m) (lAe p) f [] (callAs (cmpR (nthE (r14 p) 1))) []:=by kernel_rfl
theorem repr_eq:(RN p g.hs (m + 1)).call (.val (.builtin "repr")) [.ref i] []=EM.bind (eCellL i) fun xs=>EM.bind (EM.opt (boolsOf xs)) fun bs=>EM.retIf ((shownB bs).length≤1000000) (.str (shownB bs)):=by kernel_rfl
theorem repr_go {bs:List Bool} {σ:St} (h:σ.get i=some (.list (boolsV bs))) (hl:bs.length≤900):Go ((RN p g.hs (m + 1)).call (.val (.builtin "repr")) [.ref i] []) σ (.str (shownB bs)) σ :=
 Go.eq repr_eq (Go.cellL h (lM (by rw [List.length_map]; exact hl)) (Go.opt (bools_of bs) (Go.cond (f:=fun _=>EM.ret (AV.str (shownB bs))) (by have:=shown_len bs; omega) Go.ret)))
theorem evT_flat {w:Int}:∀ q:Str × List Sg,flatN 3 (evT w q)=true
 | (ty,[])=>rfl
 | (ty,s :: T)=>rfl
theorem runSp_le (rows:List (List AV)):∀ (bl:List Bool) (U:List Sg),(runSp rows bl U).1.length≤rows.length * bl.length∧(runSp rows bl U).2.length≤bl.length
 | [],U=>⟨Nat.zero_le _,Nat.zero_le _⟩
 | a :: bl,U=>by
  have h:=turnSp_le rows a U
  generalize e:turnSp rows a U=tr at h
  obtain ⟨bs,o⟩:=tr
  rw [List.length_cons,Nat.mul_succ]
  cases o with
  | none =>
   rw [runSp_n e]
   exact ⟨Nat.le_trans h (Nat.le_add_left _ _),Nat.zero_le _⟩
  | some o =>
   obtain ⟨ty,T,V⟩:=o
   have ih:=runSp_le rows bl V
   rw [runSp_s e]
   refine ⟨?_,Nat.succ_le_succ ih.2⟩
   rw [List.length_append]
   have h2:bs.length≤rows.length:=h
   omega
theorem s14_go {bs:List Bool} {tk:List (Str × List Sg)} (hl:bs.length≤900) (hk:tk.length≤900) (h1:t.heard=boolsV bs) (h2:t.got=tk.map (evT g.w)):Go (ONE p g.hs (m + 60) (lAe p) (LS p 14)) (lwF p g gm t (boolsV bs) (tk.map (evT g.w)) n) (.ret (.bool true)) (lwF p g gm t (boolsV bs) (tk.map (evT g.w)) n):=by
 obtain ⟨it,got,heard,left,ct,pb,tb⟩:=t
 cases h1
 cases h2
 refine Go.eq r14_one (Go.bind (b:=.bool true) (σ':=lwF p g gm ⟨it,tk.map (evT g.w),boolsV bs,left,ct,pb,tb⟩ (boolsV bs) (tk.map (evT g.w)) n) (Go.eq r14_and ?_) Go.ret)
 refine Go.bind (b:=.bool true) (σ':=lwF p g gm ⟨it,tk.map (evT g.w),boolsV bs,left,ct,pb,tb⟩ (boolsV bs) (tk.map (evT g.w)) n) (Go.eq r14_c1 ?_) (Go.br (b:=true) (σ₁:=lwF p g gm ⟨it,tk.map (evT g.w),boolsV bs,left,ct,pb,tb⟩ (boolsV bs) (tk.map (evT g.w)) n) (Go.by [] trivial (fun _=>by kernel_rfl)) (show Go ((RN p g.hs (m + 59)).ev (lAe p) (nthE (r14 p) 1)) _ _ _ from Go.eq r14_c2 ?_))
 ·refine Go.bind (b:=.ref 33) (σ':=lwF p g gm ⟨it,tk.map (evT g.w),boolsV bs,left,ct,pb,tb⟩ (boolsV bs) (tk.map (evT g.w)) n) (Go.by [] trivial (fun _=>by kernel_rfl)) (Go.bind (b:=.ref 37) (σ':=lwF p g gm ⟨it,tk.map (evT g.w),boolsV bs,left,ct,pb,tb⟩ (boolsV bs) (tk.map (evT g.w)) n) (Go.by [] trivial (fun _=>by kernel_rfl)) ?_)
  exact Go.eqL (i:=33) (j:=37) (xs:=tk.map (evT g.w)) (by kernel_rfl) (by kernel_rfl) (List.all_eq_true.mpr fun x hx=>by obtain ⟨q,_,rfl⟩:=List.mem_map.mp hx; exact evT_flat q) (lM (by rw [List.length_map]; exact hk))
 ·refine Go.bind (b:=.str (shownB bs)) (σ':=lwF p g gm ⟨it,tk.map (evT g.w),boolsV bs,left,ct,pb,tb⟩ (boolsV bs) (tk.map (evT g.w)) n) (Go.eq r14_eL ?_) (Go.bind (b:=.str (shownB bs)) (σ':=lwF p g gm ⟨it,tk.map (evT g.w),boolsV bs,left,ct,pb,tb⟩ (boolsV bs) (tk.map (evT g.w)) n) (Go.eq r14_eR ?_) ?_)
  ·refine Go.bind (b:=.val (.builtin "repr")) (σ':=lwF p g gm ⟨it,tk.map (evT g.w),boolsV bs,left,ct,pb,tb⟩ (boolsV bs) (tk.map (evT g.w)) n) (Go.by [] trivial (fun _=>by kernel_rfl)) ?_
   exact Go.fcall (as:=[.ref 30]) (σ3:=lwF p g gm ⟨it,tk.map (evT g.w),boolsV bs,left,ct,pb,tb⟩ (boolsV bs) (tk.map (evT g.w)) n) (by kernel_rfl) (Go.by [] trivial (fun _=>by kernel_rfl)) (repr_go (i:=30) (by kernel_rfl) hl)
  ·refine Go.bind (b:=.val (.builtin "repr")) (σ':=lwF p g gm ⟨it,tk.map (evT g.w),boolsV bs,left,ct,pb,tb⟩ (boolsV bs) (tk.map (evT g.w)) n) (Go.by [] trivial (fun _=>by kernel_rfl)) ?_
   exact Go.fcall (as:=[.ref 36]) (σ3:=lwF p g gm ⟨it,tk.map (evT g.w),boolsV bs,left,ct,pb,tb⟩ (boolsV bs) (tk.map (evT g.w)) n) (by kernel_rfl) (Go.by [] trivial (fun _=>by kernel_rfl)) (repr_go (i:=36) (by kernel_rfl) hl)
  ·rw [show AV.bool true=AV.bool (shownB bs == shownB bs) by rw [beq_self_eq_true]]
   exact Go.by [] trivial (fun _=>by kernel_rfl)
end
section
variable {p:Params} {hs:Str→Int} {vs:List Value} {ns:List Int} {rows:List (List AV)} {cs:List Nat} {bs:List Bool} {k a c w a2:Int} {m:Nat} {xs:List Int}
theorem z_0 (hvs:vs.map rawAV=xs.map AV.int) (hx:xs.length≤63):Go (ONE p hs (m + 50) (lAe p) (LS p 0)) (l0 vs) .next (l1 hs vs ((xs.take 60).map AV.int) 0):=by
 have hvl:vs.length=xs.length:=by rw [← List.length_map (f:=rawAV),hvs,List.length_map]
 have hp:pickG (vs.map rawAV) none (some 60)=(xs.take 60).map AV.int:=by rw [hvs,show (60:Int)=((60:Nat):Int) from rfl,pickG_b,List.map_take]
 rw [← hp]
 exact Go.by [.keep] (aa (show vs.length≤M6 by unfold M6; omega) <| aa (show (pickG (vs.map rawAV) none (some 60)).length≤M6 by rw [hp,List.length_map,List.length_take]; unfold M6; omega) <| aa (show hs=hs∧[(Str.ofString "row"),(Str.ofString "at")].Nodup from ⟨rfl,by decide⟩) trivial) (fun _=>by kernel_rfl)
theorem z_1e:ONE p hs (m + 1) (lAe p) (LS p 1)=EM.bind (EM.bind ((RN p hs m).ev (lAe p) (callFn' (asgVal (LS p 1)))) fun f=>eCallWith (KK p) (RN p hs m) (lAe p) f [] (callAs (asgVal (LS p 1))) []) fun v=>EM.bind (eAssign (KK p) (RN p hs (m + 1)) (lAe p) v (asgTgt (LS p 1))) fun _=>EM.ret .next:=by kernel_rfl
theorem z_1 (h:TOk ns 0 0):∃ k' rows,TOk ns k' 30∧RowsOk rows∧1≤rows.length∧rows.length≤4∧Go (ONE p hs (m + 61) (lAe p) (LS p 1)) (l1 hs vs (ns.map AV.int) 0) .next (m0 hs vs (ns.map AV.int) (rowsV rows) k' nm1):=by
 obtain ⟨k',rows,h1,h2,h3,h4,g⟩:=tb_call (p:=p) (hs:=hs) (vs:=vs) h (m + 60) (by omega)
 refine ⟨k',rows,h1,h2,h3,h4,Go.eq z_1e (Go.bind (b:=.ref 12) (σ':=l2s hs vs (ns.map AV.int) (rowsV rows) k') ?_ (Go.bind (b:=PUnit.unit) (σ':=m0 hs vs (ns.map AV.int) (rowsV rows) k' nm1) (Go.by [] trivial (fun _=>by kernel_rfl)) Go.ret))⟩
 refine Go.bind (b:=.val (.ref 251)) (σ':=l1 hs vs (ns.map AV.int) 0) (Go.by [] trivial (fun _=>by kernel_rfl)) ?_
 exact Go.fcall (as:=[.ref 9]) (σ3:=l1 hs vs (ns.map AV.int) 0) (by kernel_rfl) (Go.by [] trivial (fun _=>by kernel_rfl)) g
theorem z_2:Go (ONE p hs (m + 20) (lAe p) (LS p 2)) (m0 hs vs (ns.map AV.int) (rowsV rows) k nm1) .next (m0 hs vs (ns.map AV.int) (rowsV rows) k (nmA (tS []))):=Go.by [] trivial (fun _=>by kernel_rfl)
theorem z_3e:ONE p hs (m + 20) (lAe p) (LS p 3)=EM.bind ((RN p hs (m + 20)).ev (lAe p) (forIter (LS p 3))) fun v=>EM.bind (eIterOf v) fun it=>(RN p hs (m + 20)).forl (lAe p) (forTgt (LS p 3)) it (forBody (LS p 3)):=by kernel_rfl
theorem z_6e:ONE p hs (m + 20) (lAe p) (LS p 6)=EM.bind ((RN p hs (m + 20)).ev (lAe p) (forIter (LS p 6))) fun v=>EM.bind (eIterOf v) fun it=>(RN p hs (m + 20)).forl (lAe p) (forTgt (LS p 6)) it (forBody (LS p 6)):=by kernel_rfl
theorem z_8e:ONE p hs (m + 20) (lAe p) (LS p 8)=EM.bind ((RN p hs (m + 20)).ev (lAe p) (forIter (LS p 8))) fun v=>EM.bind (eIterOf v) fun it=>(RN p hs (m + 20)).forl (lAe p) (forTgt (LS p 8)) it (forBody (LS p 8)):=by kernel_rfl
theorem z_5:Go (ONE p hs (m + 20) (lAe p) (LS p 5)) (m1 hs vs (ns.map AV.int) (rowsV rows) k (nmB (tS cs) w []) a c 0) .next (m2 hs vs (ns.map AV.int) (rowsV rows) [] k (nmB (tS cs) w [("aheads",.ref 17)]) a c):=Go.by [.keep] (aa (show 0≤M6 by decide) trivial) (fun _=>by kernel_rfl)
theorem z_6i:Go (EM.bind ((RN p hs (m + 20)).ev (lAe p) (forIter (LS p 6))) fun v=>eIterOf v) (m2 hs vs (ns.map AV.int) (rowsV rows) [] k (nmB (tS cs) w [("aheads",.ref 17)]) a c) (.ref 19) (m3 hs vs (ns.map AV.int) (rowsV rows) (boolsV []) k (nmB (tS cs) w [("aheads",.ref 17)]) a c (0:Nat) (13:Nat)):=Go.by [] (aa (rg (b:=13) (by decide) (by decide)) trivial) (fun _=>by kernel_rfl)
theorem z_7:Go (ONE p hs (m + 20) (lAe p) (LS p 7)) (m3 hs vs (ns.map AV.int) (rowsV rows) (boolsV bs) k (nmB (tS cs) w [("aheads",.ref 17)]) a c a2 0) .next (m4 hs vs (ns.map AV.int) (rowsV rows) (boolsV bs) (chs w (numS 0 [])) k (nmB (tS cs) w sg0) a c a2):=Go.by [.keep] (aa (show 0≤M6 by decide) trivial) (fun _=>by kernel_rfl)
theorem z_8i:Go (EM.bind ((RN p hs (m + 20)).ev (lAe p) (forIter (LS p 8))) fun v=>eIterOf v) (m4 hs vs (ns.map AV.int) (rowsV rows) (boolsV bs) (chs w (numS 0 [])) k (nmB (tS cs) w sg0) a c a2) (.ref 22) (m5 hs vs (ns.map AV.int) (rowsV rows) (boolsV bs) (chs w (numS 0 [])) k (nmB (tS cs) w sg0) a c a2 (.sit (tS cs) 0) 0):=Go.by [] trivial (fun _=>by kernel_rfl)
theorem z_all:eExecs (ONE p hs (m + 143) (lAe p)) (fnAt2 p 275).body=eExecs (ONE p hs (m + 143) (lAe p)) [LS p 0,LS p 1,LS p 2,LS p 3,LS p 4,LS p 5,LS p 6,LS p 7,LS p 8,LS p 9,LS p 10,LS p 11,LS p 12,LS p 13,LS p 14]:=by kernel_rfl
theorem law_call (xs:List Int) (hvs:vs.map rawAV=xs.map AV.int) (hx:xs.length≤63):∃ σ',σ'.get 0=some (.raw (lstO vs))∧σ'.get 1=some (.tab 274 #[] (some [(177,4)]))∧σ'.get 2=some (.tab 184 #[] none) ∧
  Go ((RN p hs (m + 145)).call (.val (.ref 275)) [.ref 0] []) ⟨3,bot vs⟩ (.bool true) σ':=by
 have g0:=z_0 (p:=p) (hs:=hs) (m:=m + 93) hvs hx
 generalize hns:xs.take 60=ns at g0
 have hnl:ns.length≤60:=by rw [← hns,List.length_take]; exact Nat.min_le_left _ _
 have t0:TOk ns 0 0:=⟨Int.le_refl _,Int.le_refl _,by decide,hnl⟩
 obtain ⟨k1,rows,tk1,hr,hr1,hr4,g1⟩:=z_1 (p:=p) (hs:=hs) (vs:=vs) (m:=m + 82) t0
 have g2:=z_2 (p:=p) (hs:=hs) (vs:=vs) (ns:=ns) (rows:=rows) (k:=k1) (m:=m + 123)
 obtain ⟨v,v0,v1,g3i⟩:=tx_iter (p:=p) (hs:=hs) (vs:=vs) (x:=tS []) (m:=m + 123) tk1 hr
 obtain ⟨l,hl⟩:=Int.eq_ofNat_of_zero_le (show 0≤2 + v by omega)
 rw [lf_eq (by omega),hl] at g3i
 have tk2:TOk ns (k1 + 1) 31:=tk1.step (by decide) (by decide)
 obtain ⟨k2,cs,a',tk3,hcs,hcl,g3⟩:=tx_loop (p:=p) (hs:=hs) (vs:=vs) (c:=(l:Int)) hr l [] (fun _ h=>nomatch h) (by rw [List.length_nil]; omega) (k1 + 1) 31 tk2 (by omega) 0 (m + 143) (by omega)
 rw [List.length_nil,Nat.zero_add] at hcl
 obtain ⟨w,w0,w1,g4⟩:=wild_go (p:=p) (hs:=hs) (vs:=vs) (x:=tS cs) (a:=a') (c:=(l:Int)) (m:=m + 123) tk3 hr
 have tk4:TOk ns (k2 + 1) 60:=tk3.step (by omega) (by decide)
 have g5:=z_5 (p:=p) (hs:=hs) (vs:=vs) (ns:=ns) (rows:=rows) (cs:=cs) (w:=w) (a:=a') (c:=(l:Int)) (k:=k2 + 1) (m:=m + 123)
 have g6i:=z_6i (p:=p) (hs:=hs) (vs:=vs) (ns:=ns) (rows:=rows) (cs:=cs) (w:=w) (a:=a') (c:=(l:Int)) (k:=k2 + 1) (m:=m + 123)
 obtain ⟨k3,bs,a3,tk5,hbl,g6⟩:=ah_loop (p:=p) (hs:=hs) (vs:=vs) (x:=tS cs) (w:=w) (a:=a') (c:=(l:Int)) hr 13 [] (by decide) (k2 + 1) 60 tk4 (by decide) 0 (m + 143) (by omega)
 rw [List.length_nil,Nat.zero_add] at hbl
 have g7:=z_7 (p:=p) (hs:=hs) (vs:=vs) (ns:=ns) (rows:=rows) (cs:=cs) (bs:=bs) (w:=w) (a:=a') (c:=(l:Int)) (a2:=a3) (k:=k3) (m:=m + 123)
 have g8i:=z_8i (p:=p) (hs:=hs) (vs:=vs) (ns:=ns) (rows:=rows) (cs:=cs) (bs:=bs) (w:=w) (a:=a') (c:=(l:Int)) (a2:=a3) (k:=k3) (m:=m + 123)
 obtain ⟨j,g8⟩:=sg_loop (p:=p) (hs:=hs) (vs:=vs) (cs:=cs) (k:=k3) (a:=a') (c:=(l:Int)) (w:=w) (a2:=a3) hr (CL.bools bs) (by omega) cs [] rfl (m + 143) (by omega)
 generalize hg:(⟨hs,vs,ns,rows,bs,cs,w,k3,a',(l:Int),a3,j⟩:G2)=g
 have e1:g.hs=hs:=by rw [← hg]
 have e2:g.vs=vs:=by rw [← hg]
 have ho:GOk g:=by
  subst hg
  exact ⟨hr,hr1,hr4,by dsimp only; omega,hbl,hcs⟩
 have g8':Go ((RN p hs (m + 143)).forl (lAe p) (forTgt (LS p 8)) (.ref 22) (forBody (LS p 8))) (m5 hs vs (ns.map AV.int) (rowsV rows) (boolsV bs) (chs w (numS 0 [])) k3 (nmB (tS cs) w sg0) a' l a3 (.sit (tS cs) 0) 0) .next (lw9 p g):=by
  subst hg
  exact g8
 subst e1
 have g9:=s9_go (p:=p) (g:=g) (m:=m + 93)
 have g10:=s10_go (p:=p) (m:=m + 93) ho
 have g11:=s11_go (p:=p) (g:=g) (m:=m + 93)
 obtain ⟨it,r,pb,r1,r2,r3,r4,r5,g12⟩:=s12_go (p:=p) (m:=m + 123) ho (by omega)
 have D:DOk g (gmOf p noneV) (tR it r [] pb):=⟨ho,r1.ok r2 CL.nil r3,gmOk (by decide) (.val _)⟩
 obtain ⟨n,g13⟩:=s13_go (p:=p) (m:=m + 20) D
 have hle:=runSp_le g.rows g.bs (numS 0 g.cs)
 have hrl:=ho.rl
 have hbl':=ho.bl
 have hmul:g.rows.length * g.bs.length≤52:=by rw [hbl']; omega
 have g14:=s14_go (p:=p) (m:=m + 83) (n:=n) (gm:=gmOf p noneV) (t:=tR it r [] pb) (bs:=(runSp g.rows g.bs (numS 0 g.cs)).1) (tk:=(runSp g.rows g.bs (numS 0 g.cs)).2) (by omega) (by omega) r4 r5
 refine ⟨lwF p g (gmOf p noneV) (tR it r [] pb) (boolsV (runSp g.rows g.bs (numS 0 g.cs)).1) ((runSp g.rows g.bs (numS 0 g.cs)).2.map (evT g.w)) n,by rw [← e2]; kernel_rfl,by kernel_rfl,by kernel_rfl,?_⟩
 refine Go.eq (show (RN p g.hs (m + 145)).call (.val (.ref 275)) [.ref 0] []=eFn (RN p g.hs (m + 144)) (fnAt2 p 275) [.ref 0] [] by kernel_rfl)
  (Go.fn (ae:=lAe p) (σ1:=l0 vs) (by kernel_rfl) (binds:=[("script",.ref 0)]) (by kernel_rfl) (Go.by [] trivial (fun _=>by kernel_rfl)) ?_)
 refine Go.bind (b:=.ret (.bool true)) (σ':=lwF p g (gmOf p noneV) (tR it r [] pb) (boolsV (runSp g.rows g.bs (numS 0 g.cs)).1) ((runSp g.rows g.bs (numS 0 g.cs)).2.map (evT g.w)) n) (Go.exs (Go.eq z_all ?_)) (Go.rt (Go.by [.keep] trivial (fun _=>by kernel_rfl)))
 exact Go.cons g0 (Go.cons g1 (Go.cons g2 (Go.cons (Go.for_ (z_3e (m:=m + 123)) g3i g3) (Go.cons g4 (Go.cons g5 (Go.cons (Go.for_ (z_6e (m:=m + 123)) g6i g6) (Go.cons g7 (Go.cons (Go.for_ (z_8e (m:=m + 123)) g8i g8') (Go.cons g9 (Go.cons g10 (Go.cons g11 (Go.cons g12 (Go.cons g13 (Go.stmt g14))))))))))))))
end
end Mine
open PySem PySem.W PySem.W.X PyProof.Rows PySem.Builtin PySem.Builtin.ObjectAttr
namespace Mine
noncomputable def isAsg:Stmt→Bool
 | .Assign [.Name n _] _ _=>n == Str.ofString "__name__"
 | _=>false
noncomputable def q2:Program:={ P2 with main:={ P2.main with body:=P2.main.body.filter fun s=>!isAsg s } }
noncomputable def lo2:List Str:=[Str.ofString "Token",Str.ofString "SourceLocation",Str.ofString "CompilerError",Str.ofString "_law_SETS"]
noncomputable def as2:List Addr:=[2,3,4,15,17,18,20,21,29,30,32,33,35,36,37,39,40,42,43,44,46,47,48,49,50,60,61,62,64,65,67,68,69,71,72,74,75,76,78,79,80,81,82,83,84,87,94,95,97,98,100,101,102,104,105,107,108,109,110,111,112,122,124,125,127,128,129,131,132,134,135,136,137,138,139,140,150,152,153,155,156,157,159,160,162,163,164,165,167,168,170,171,172,174,175,177,178,179,181,182,184,185,186,188,189,191,192,193,195,196,198,199,200,202,203,205,206,207,209,210,212,213,214,216,217,219,220,221,223,224,226,227,228,229,230,231,232,235,236,237,238,240,241,243,244,245,247,248,250,251,252,254,255,257,258,259,262,263,264,266,267,269,270,271,274,275]
noncomputable def yf2 (as:List Addr) (s:Shared):List (Option Obj) × List (Option Obj) × Nat:=(as.map s.heap.get?,[180,272].map s.heap.get?,s.heap.objs.size)
noncomputable def ya2 (w:World):List (Option Obj) × List (Option Obj) × Nat:=((kk2 w.params).map fun q=>some q.2,[some noneTab,some noneTab],276)
theorem dS2:(defOf q2 (Str.ofString "law")).isSome=true:=by kernel_rfl
noncomputable def dk2:DefRec × List (Str × PySem.Expr):=(defOf q2 (Str.ofString "law")).get dS2
theorem as2_eq (p:Params):as2=(kk2 p).map (·.1):=by kernel_rfl
theorem left2:LeftO P2 q2 lo2 (fun s=>xlAt q2 [] s && recOk (RowW.records (OpenRow.toRowW PySem.Challenge.rw_rk0005_02.row)) s) (yf2 as2) ya2 4400:=by intro w; kernel_rfl
set_option maxHeartbeats 8000000 in
theorem head2 (hc:WalkX q2 lo2 (XL q2 []) (yf2 as2) ya2 (OpenRow.toRowW PySem.Challenge.rw_rk0005_02.row) dk2.1 dk2.2 fun f vs=>PySem.call f vs):PySem.Challenge.rw_rk0005_02.Holds:=by
 refine holds_law (by decide +kernel) fun said=>?_
 refine holds_openX (q:=q2) (loose:=lo2) (Xt:=fun s=>xlAt q2 [] s && recOk (RowW.records (OpenRow.toRowW PySem.Challenge.rw_rk0005_02.row)) s) (XP:=XL q2 []) (Yf:=yf2 as2) (Ya:=ya2) (N:=4400) (d:=dk2.1) (kwd:=dk2.2) left2 (fun s e=>xl_of s (Bool.and_eq_true_iff.mp e).1) XL.keeps ?d1 ?d2 ?d3 (fun s e=>recFacts_of (Bool.and_eq_true_iff.mp e).2) ?d4 said ?d5 ⟨rfl,rfl,rfl,rfl,rfl,?d6⟩ ?hw hc
 case d1=>kernel_rfl
 case d2=>kernel_rfl
 case d3=>kernel_rfl
 case d4=>kernel_rfl
 case d5=>decide +kernel
 case d6=>decide +kernel
 case hw=>exact ⟨[WData.list []],by decide +kernel,by decide +kernel⟩
end Mine
open PySem PySem.W PySem.W.X PyProof.Rows PySem.Builtin PySem.Builtin.ObjectAttr
namespace Mine
noncomputable def TB2:List Tb4:=[(2,184,180,none),(1,274,272,some [])]
theorem Nat.beq_eq_false {a b:Nat} (h:a ≠ b):Nat.beq b a=false:=Bool.eq_false_iff.mpr fun e=>h (Nat.eq_of_beq_eq_true e).symm
theorem K2_ne (p:Params):∀ a o,List.lookup a (KK p)=some o→a < 276∧(TB2.any fun t=>Nat.beq t.2.2.1 a)=false:=fun a o h=>by
 have h1:a ≠ 180:=lookup_ne (K:=KK p) (by kernel_rfl) a o h
 have h2:a ≠ 272:=lookup_ne (K:=KK p) (by kernel_rfl) a o h
 refine ⟨lookup_lt (K:=KK p) (by kernel_rfl) a o h,?_⟩
 show (Nat.beq 180 a || (Nat.beq 272 a || false))=false
 have b1:Nat.beq 180 a=false:=(Nat.beq_eq_false h1)
 have b2:Nat.beq 272 a=false:=(Nat.beq_eq_false h2)
 rw [b1,b2]
 rfl
theorem code184 (p:Params):CodeF (KK p) 184 180:=⟨by kernel_rfl,by kernel_rfl,by kernel_rfl,by kernel_rfl,by kernel_rfl,by kernel_rfl,by kernel_rfl,by kernel_rfl,by kernel_rfl,by decide⟩
theorem code274 (p:Params):CodeF (KK p) 274 272:=⟨by kernel_rfl,by kernel_rfl,by kernel_rfl,by kernel_rfl,by kernel_rfl,by kernel_rfl,by kernel_rfl,by kernel_rfl,by kernel_rfl,by decide⟩
theorem names2 {mb:Str→Option Value} (h:∀ x:Str,x ≠ "__name__"→mb x=bootBuiltins x):∀ y v,bNames.lookup y=some v→mb y=some v:=by
 have e:bNames.map (fun q=>bootBuiltins q.1)=bNames.map (fun q=>some q.2):=by kernel_rfl
 have n:(bNames.map (·.1)).all (fun y=>!(y == ("__name__" : Str)))=true:=by kernel_rfl
 intro y v hl
 have hy:=nm_of e y v hl
 rw [h y fun q=>?_]
 ·exact hy
 ·subst q
  have:bNames.lookup ("__name__" : Str)=none:=by kernel_rfl
  rw [this] at hl
  cases hl
theorem bf2 (prog:Program) (p:Params):peek (KK p) ⟨prog,p⟩ (builtinsFor mainGlobals builtinsNs)=some builtinsNs:=by kernel_rfl
theorem mn2 (prog:Program) (p:Params):(peek (KK p) ⟨prog,p⟩ (nsGet mainGlobals "__name__")).isSome=true:=by kernel_rfl
theorem join2 {prog:Program} {w:World} {s₁:Shared} {vs:List Value} {ns:List Int} {mb:Str→Option Value} (KX:(KK w.params).In s₁.heap) (h1:s₁.heap.get? 180=some noneTab) (h2:s₁.heap.get? 272=some noneTab)
  (hb:s₁.heap.Ns builtinsNs mb) (hbb:∀ x:Str,x ≠ "__name__"→mb x=bootBuiltins x) (hc:s₁.heap.NoLimit) (hs:s₁.heap.get? 276=some (lstO vs)) (hg:s₁.gens = #[])
  (hI:IntsAre vs ns) (hl:ns.length≤63) {Q:Value→Shared→Prop} {E:Value→Shared→Prop}
  (hQ:∀ s',OldK s₁.heap s'.heap→s'.os=s₁.os→AllBare s'.gens→Q (.bool true) s'):wpAny (model prog w) callerA (call (.ref 275) [.ref 276]) Q E s₁:=by
 obtain ⟨σ',e0,e1,e2,h⟩:=law_call (p:=w.params) (hs:=hashStr w) (vs:=vs) (m:=0) ns (ints_raw hI) hl
 refine join_gen (K:=KK w.params) (x:=ext2 w.params (hashStr w)) (n:=145) (N:=3) (n0:=276) (T:=TB2) (σ':=σ') (vs:=vs) (mb:=mb) KX (K2_ne w.params) (fun t ht=>?_) (by decide) rfl (by decide) (by decide) hb (by decide) rfl hc (by decide) rfl hs hg (names2 hbb) (bf2 prog w.params) (Option.isSome_iff_exists.mp (mn2 prog w.params)) rfl (by decide) (by decide) h e0 (fun t ht=>?_) hQ
 ·rcases List.mem_cons.mp ht with rfl | ht
  ·exact ⟨code184 _,h1,by decide,rfl⟩
  ·rw [List.mem_singleton] at ht
   subst ht
   exact ⟨code274 _,h2,by decide,rfl⟩
 ·rcases List.mem_cons.mp ht with rfl | ht
  ·exact ⟨_,e2⟩
  ·rw [List.mem_singleton] at ht
   subst ht
   exact ⟨_,e1⟩
end Mine
open PySem PySem.W PySem.W.X PyProof.Rows
namespace Mine
theorem law_name:dk2.1.name=Str.ofString "law":=by kernel_rfl
theorem law_at (p:Params):nsIn (KK p) mainGlobals (Str.ofString "law")=some (some (.ref 275)):=by kernel_rfl
end Mine
set_option maxHeartbeats 8000000 in
theorem PySem.Challenge.cw_rk0005_02_holds : PySem.Challenge.rw_rk0005_02.Holds := by
 w_on
 refine Mine.head2 ?_
 intro w s₀ s₁ mg mb G y fa o pm cd doc dV kV ho hd hcd hD hmg hg args vals as L hpre hlay hrd hwl hlo
 refine Ground.open G ?_
 intro T B D TE TW
 have keeps:=L.keeps
 have KX:(Mine.KK w.params).In s₁.heap:=InK.keeps w _ _ (InK.of (K:=Mine.kk2) (fun p=>Mine.as2_eq p) w s₀ (congrArg Prod.fst y)) keeps
 have y2:[180,272].map s₀.heap.get? = [some Mine.noneTab,some Mine.noneTab]:=congrArg (fun x=>x.2.1) y
 have y3:s₀.heap.objs.size=276:=congrArg (fun x=>x.2.2) y
 injection y2 with e1 y2
 injection y2 with e2 _
 have h1:=keeps _ _ e1
 have h2:=keeps _ _ e2
 have hfa:=mg_of KX T.g (Mine.law_at w.params)
 rw [Mine.law_name,hfa] at hmg
 cases hmg
 clear hd hcd hD B D TE TW ho
 wrow_args hpre hlay hrd hwl hlo
 obtain ⟨hat,hsz⟩:=script_at L
 rw [y3] at hat
 subst hat
 rename_i hI _ hcond _ hLst _ _
 have hol:=script_obj L hLst
 refine Mine.join2 KX h1 h2 T.b T.builtins T.nolimit hol hg hI (by omega) ?_
 intro s' k1 k2 k3
 refine ⟨.inl ⟨_,.bool true,[],rfl,fun _=>rfl,.bool true,?_,fun _=>⟨.nil,fun a ha=>nomatch ha⟩⟩,k1,k2,k3⟩
 clear G y KX T
 first | rfl | wrow_post
