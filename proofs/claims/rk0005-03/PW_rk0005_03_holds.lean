import PyProof.Rows.All
import Wide.All
import OpenK.AllK
import Wide.FinOn
import Lean
import PySem.Challenge.RW_rk0005_03
set_option Elab.async false
set_option maxRecDepth 100000
set_option maxHeartbeats 4000000
set_option genInjectivity false
set_option genSizeOf false
set_option linter.all false
open PySem PySem.W PyProof.Rows PySem.Builtin PySem.Builtin.ObjectAttr
open PySem PySem.W PyProof.Rows
namespace Mine
theorem noneOf {α : Type} {x : α} {C : Prop} (h : (none : Option α) = some x) : C := nomatch h
theorem inj3 {α β γ : Type} {a x : α} {b y : β} {c z : γ} {C : Prop} (h : some (a, b, c) = some (x, y, z)) (H : a = x → b = y → c = z → C) : C :=
  H (congrArg (·.1) (Option.some.inj h)) (congrArg (·.2.1) (Option.some.inj h)) (congrArg (·.2.2) (Option.some.inj h))
theorem ff {P : Prop} (h : false = true) : P := nomatch h
inductive AV where
  | val (v : Value)
  | bool (b : Bool)
  | int (i : Int)
  | str (x : Str)
  | ref (i : Nat)
  | tup (xs : List AV)
  | obj (C : Addr) (fs : List (Str × AV))
  | slo (C : Addr) (fs : List AV)
  | clo (name : Str) (params : Arguments) (body : List Stmt) (scope : Scope) (cl : List (Str × Nat))
inductive Cell where
  | list (xs : List AV)
  | ns (m : List (Str × AV))
  | box (v : Option AV)
  | dict (m : List (Str × AV))
  | inst (C : Addr) (d : Nat)
  | sinst (C : Addr) (d : Nat) (xs : List (Option AV))
  | liter (l : Nat) (k : Nat)
  | lend
  | tab (c : Addr) (ps : Array Value) (ks : Option (List (Int × Int)))
  | raw (o : Obj)
  | exc (C : Addr) (d t : Option Nat)
  | tb (fl : Option Nat)
  | rng (a b c : Int)
  | rit (x left step : Int)
  | wl (l : Nat) (k : Nat)
  | enum (it : Nat) (k : Nat)
  | any
structure St where
  n : Nat
  objs : List (Nat × Cell)
noncomputable abbrev Fz := Addr → Option Obj
noncomputable abbrev Rho := Nat → Addr
noncomputable def oList (vs : List Value) (k : Nat) : Obj := { cls := .type "list", dict := none, data := .seq vs.toArray k, slots := #[] }
noncomputable def oTup (vs : List Value) (k : Nat) : Obj := { cls := .type "tuple", data := .seq vs.toArray k }
noncomputable def oDict (es : List DictEntry) (k : Nat) : Obj := { cls := .type "dict", data := .dict es.toArray k }
noncomputable def oInst (C d : Addr) : Obj := { cls := .ref C, dict := some d, data := .plain }
noncomputable def oSlo (C d : Addr) (vs : List (Option Value)) : Obj := { cls := .ref C, dict := some d, data := .plain, slots := vs.toArray }
noncomputable def oIter (l : Value) (k : Int) : Obj := { cls := .type "list_iterator", data := .fields #[l, .int k 0] }
noncomputable def oExc (C : Addr) (d : Option Addr) (vs : Array Value) : Obj := { cls := .ref C, dict := d, data := .fields vs }
noncomputable def oTab (ps : Array Value) : Obj := { cls := .none, data := .fields ps }
noncomputable def cloData (name qual : Str) (params : Arguments) (body : List Stmt) (scope : Scope) (cl : List (Str × Addr)) (pm code ct : Value) : FuncData :=
  { name := name, qualname := qual, params := params, body := .stmts body, scope := scope, globals := mainGlobals, closure := cl, defaults := .none, kwdefaults := .none,
    doc := .none, pyModule := pm, code := code, closureTuple := ct, builtins := builtinsNs }
inductive FzCode (F : Fz) (cd : Value) (q : Str) : Prop where
  | mk (c : Addr) (o : Obj) (vs : Array Value) (t : Tok) (e : cd = .ref c) (h : F c = some o) (hd : o.data = .fields vs) (hq : vs[1]? = some (.str q t))
noncomputable def mapCl (ρ : Rho) (cl : List (Str × Nat)) : List (Str × Addr) := cl.map fun p => (p.1, ρ p.2)
inductive dTup (F : Fz) (ih : List Value → Prop) (v : Value) : Prop where
  | mk (a : Addr) (vs : List Value) (k : Nat) (e : v = .ref a) (h : F a = some (oTup vs k)) (r : ih vs)
inductive dObj (F : Fz) (C : Addr) (ih : List DictEntry → Prop) (v : Value) : Prop where
  | mk (a d : Addr) (od : Obj) (es : List DictEntry) (k : Nat) (e : v = .ref a) (h : F a = some (oInst C d)) (hd : F d = some od) (he : od.data = .dict es.toArray k) (r : ih es)
inductive dSlo (F : Fz) (C : Addr) (ih : List Value → Prop) (v : Value) : Prop where
  | mk (a d : Addr) (od : Obj) (vs : List Value) (e : v = .ref a) (h : F a = some (oSlo C d (vs.map some))) (hd : F d = some od) (r : ih vs)
inductive dClo (n : Nat) (ρ : Rho) (F : Fz) (name : Str) (params : Arguments) (body : List Stmt) (scope : Scope) (cl : List (Str × Nat)) (v : Value) : Prop where
  | mk (a : Addr) (qual : Str) (o : Obj) (pm code ct : Value) (e : v = .ref a) (h : F a = some o) (hc : o.cls = .type "function") (hd : o.data = .func (cloData name qual params body scope (mapCl ρ cl) pm code ct)) (hk : FzCode F code qual) (hb : ∀ p ∈ cl, p.2 < n)
noncomputable def dCons {α : Type} (p : α → Prop) (q : List α → Prop) : List α → Prop
  | [] => False
  | v :: vs => p v ∧ q vs
noncomputable def dEnt (x : Str) (p : Value → Prop) (e : DictEntry) : Prop := (∃ t, e.key = .str x t) ∧ p e.val
section
variable (n : Nat) (ρ : Rho) (F : Fz)
noncomputable def Den (x : AV) : Value → Prop := AV.rec (motive_1 := fun _ => Value → Prop) (motive_2 := fun _ => List Value → Prop) (motive_3 := fun _ => List DictEntry → Prop) (motive_4 := fun _ => DictEntry → Prop)
  (fun v w => w = v) (fun b w => w = .bool b) (fun i w => ∃ t, w = .int i t) (fun x w => ∃ t, w = .str x t) (fun i w => w = .ref (ρ i) ∧ i < n) (fun _ ih => dTup F ih) (fun C _ ih => dObj F C ih) (fun C _ ih => dSlo F C ih) (fun a b c d e => dClo n ρ F a b c d e)
  (fun vs => vs = []) (fun _ _ p q => dCons p q) (fun es => es = []) (fun _ _ p q => dCons p q) (fun x _ p => dEnt x p) x
noncomputable def Dens (xs : List AV) : List Value → Prop := AV.rec_1 (motive_1 := fun _ => Value → Prop) (motive_2 := fun _ => List Value → Prop) (motive_3 := fun _ => List DictEntry → Prop) (motive_4 := fun _ => DictEntry → Prop)
  (fun v w => w = v) (fun b w => w = .bool b) (fun i w => ∃ t, w = .int i t) (fun x w => ∃ t, w = .str x t) (fun i w => w = .ref (ρ i) ∧ i < n) (fun _ ih => dTup F ih) (fun C _ ih => dObj F C ih) (fun C _ ih => dSlo F C ih) (fun a b c d e => dClo n ρ F a b c d e)
  (fun vs => vs = []) (fun _ _ p q => dCons p q) (fun es => es = []) (fun _ _ p q => dCons p q) (fun x _ p => dEnt x p) xs
noncomputable def DenEs (xs : List (Str × AV)) : List DictEntry → Prop := AV.rec_2 (motive_1 := fun _ => Value → Prop) (motive_2 := fun _ => List Value → Prop) (motive_3 := fun _ => List DictEntry → Prop) (motive_4 := fun _ => DictEntry → Prop)
  (fun v w => w = v) (fun b w => w = .bool b) (fun i w => ∃ t, w = .int i t) (fun x w => ∃ t, w = .str x t) (fun i w => w = .ref (ρ i) ∧ i < n) (fun _ ih => dTup F ih) (fun C _ ih => dObj F C ih) (fun C _ ih => dSlo F C ih) (fun a b c d e => dClo n ρ F a b c d e)
  (fun vs => vs = []) (fun _ _ p q => dCons p q) (fun es => es = []) (fun _ _ p q => dCons p q) (fun x _ p => dEnt x p) xs
end
section
variable {n n' : Nat} {ρ ρ' : Rho} {F F' : Fz}
theorem Den.val (v : Value) : Den n ρ F (.val v) v := rfl
theorem Den.bool (b : Bool) : Den n ρ F (.bool b) (.bool b) := rfl
theorem Den.int (i : Int) (t : Tok) : Den n ρ F (.int i) (.int i t) := ⟨t, rfl⟩
theorem Den.str (x : Str) (t : Tok) : Den n ρ F (.str x) (.str x t) := ⟨t, rfl⟩
theorem Den.ref (i : Nat) (h : i < n) : Den n ρ F (.ref i) (.ref (ρ i)) := ⟨rfl, h⟩
theorem Den.tup (a : Addr) (xs : List AV) (vs : List Value) (k : Nat) (h : F a = some (oTup vs k)) (hs : Dens n ρ F xs vs) : Den n ρ F (.tup xs) (.ref a) := ⟨a, vs, k, rfl, h, hs⟩
theorem Dens.nil : Dens n ρ F [] [] := rfl
theorem Dens.cons {x : AV} {v : Value} {xs : List AV} {vs : List Value} (h : Den n ρ F x v) (hs : Dens n ρ F xs vs) : Dens n ρ F (x :: xs) (v :: vs) := ⟨h, hs⟩
theorem DenEs.nil : DenEs n ρ F [] [] := rfl
theorem DenEs.cons {x : Str} {av : AV} {v : Value} {hh : Int} {t : Tok} {fs : List (Str × AV)} {es : List DictEntry} (h : Den n ρ F av v) (hs : DenEs n ρ F fs es) : DenEs n ρ F ((x, av) :: fs) (⟨hh, .str x t, v⟩ :: es) := ⟨⟨⟨t, rfl⟩, h⟩, hs⟩
theorem den_int {i : Int} {v : Value} (d : Den n ρ F (.int i) v) : ∃ t, v = .int i t := d
theorem den_str {i : Str} {v : Value} (d : Den n ρ F (.str i) v) : ∃ t, v = .str i t := d
theorem den_ref {i : Nat} {v : Value} (d : Den n ρ F (.ref i) v) : v = .ref (ρ i) ∧ i < n := d
theorem den_tup {xs : List AV} {v : Value} (d : Den n ρ F (.tup xs) v) : dTup F (Dens n ρ F xs) v := d
theorem den_obj {C : Addr} {fs : List (Str × AV)} {v : Value} (d : Den n ρ F (.obj C fs) v) : dObj F C (DenEs n ρ F fs) v := d
theorem den_slo {C : Addr} {fs : List AV} {v : Value} (d : Den n ρ F (.slo C fs) v) : dSlo F C (Dens n ρ F fs) v := d
theorem dens_n {vs : List Value} (d : Dens n ρ F [] vs) : vs = [] := d
theorem dens_c {x : AV} {xs : List AV} {P : List Value → Prop} (H : ∀ v ws, Den n ρ F x v → Dens n ρ F xs ws → P (v :: ws)) : ∀ {vs : List Value}, Dens n ρ F (x :: xs) vs → P vs
  | [], d => d.elim
  | v :: ws, d => H v ws d.1 d.2
theorem dens1 {x : AV} {P : List Value → Prop} {vs : List Value} (d : Dens n ρ F [x] vs) (H : ∀ v, Den n ρ F x v → P [v]) : P vs := dens_c (fun v ws h hs => dens_n hs ▸ H v h) d
theorem dens2 {x y : AV} {P : List Value → Prop} {vs : List Value} (d : Dens n ρ F [x, y] vs) (H : ∀ v w, Den n ρ F x v → Den n ρ F y w → P [v, w]) : P vs := dens_c (fun v ws h hs => dens1 (P := fun ws => P (v :: ws)) hs fun w => H v w h) d
theorem dens3 {x y z : AV} {P : List Value → Prop} {vs : List Value} (d : Dens n ρ F [x, y, z] vs) (H : ∀ v w u, Den n ρ F x v → Den n ρ F y w → Den n ρ F z u → P [v, w, u]) : P vs := dens_c (fun v ws h hs => dens2 (P := fun ws => P (v :: ws)) hs fun w u => H v w u h) d
theorem dCons.imp {α : Type} {p p' : α → Prop} {q q' : List α → Prop} (h : ∀ v, p v → p' v) (hs : ∀ v, q v → q' v) : ∀ v, dCons p q v → dCons p' q' v
  | [], d => d
  | _ :: _, d => ⟨h _ d.1, hs _ d.2⟩
theorem FzCode.mono {cd : Value} {q : Str} (x : FzCode F cd q) (hF : ∀ a o, F a = some o → F' a = some o) : FzCode F' cd q := by
  cases x with | mk c o vs t e h hd hq => exact ⟨c, o, vs, t, e, hF _ _ h, hd, hq⟩
theorem mapCl_eq {cl : List (Str × Nat)} (h : ∀ p ∈ cl, ρ' p.2 = ρ p.2) : mapCl ρ' cl = mapCl ρ cl := List.map_congr_left fun p hp => by rw [h p hp]
theorem dClo.to {name : Str} {params : Arguments} {body : List Stmt} {scope : Scope} {cl : List (Str × Nat)} {v : Value} (hF : ∀ a o, F a = some o → F' a = some o) (hc : ∀ p ∈ cl, p.2 < n → p.2 < n' ∧ ρ' p.2 = ρ p.2) (d : dClo n ρ F name params body scope cl v) : dClo n' ρ' F' name params body scope cl v := by
  cases d with | mk a qual o pm code ct e h h1 h2 h3 h4 => exact ⟨a, qual, o, pm, code, ct, e, hF _ _ h, h1, mapCl_eq (fun p hp => (hc p hp (h4 p hp)).2) ▸ h2, h3.mono hF, fun p hp => (hc p hp (h4 p hp)).1⟩
theorem dTup.to {p p' : List Value → Prop} (hF : ∀ a o, F a = some o → F' a = some o) (hp : ∀ v, p v → p' v) (v : Value) (d : dTup F p v) : dTup F' p' v := by cases d with | mk a vs k e h r => exact ⟨a, vs, k, e, hF _ _ h, hp _ r⟩
theorem dObj.to {C : Addr} {p p' : List DictEntry → Prop} (hF : ∀ a o, F a = some o → F' a = some o) (hp : ∀ v, p v → p' v) (v : Value) (x : dObj F C p v) : dObj F' C p' v := by cases x with | mk a d od es k e h hd q r => exact ⟨a, d, od, es, k, e, hF _ _ h, hF _ _ hd, q, hp _ r⟩
theorem dSlo.to {C : Addr} {p p' : List Value → Prop} (hF : ∀ a o, F a = some o → F' a = some o) (hp : ∀ v, p v → p' v) (v : Value) (x : dSlo F C p v) : dSlo F' C p' v := by cases x with | mk a d od vs e h hd r => exact ⟨a, d, od, vs, e, hF _ _ h, hF _ _ hd, hp _ r⟩
theorem AV.ind {P : AV → Prop} {L : List AV → Prop} {M : List (Str × AV) → Prop} (hval : ∀ v, P (.val v)) (hbool : ∀ v, P (.bool v)) (hint : ∀ v, P (.int v)) (hstr : ∀ v, P (.str v)) (href : ∀ v, P (.ref v)) (htup : ∀ xs, L xs → P (.tup xs)) (hobj : ∀ C fs, M fs → P (.obj C fs)) (hslo : ∀ C xs, L xs → P (.slo C xs))
    (hclo : ∀ a b c d e, P (.clo a b c d e)) (h1 : L []) (h2 : ∀ x xs, P x → L xs → L (x :: xs)) (h3 : M []) (h4 : ∀ x av fs, P av → M fs → M ((x, av) :: fs)) (x : AV) : P x :=
  AV.rec (motive_1 := P) (motive_2 := L) (motive_3 := M) (motive_4 := fun p => P p.2) hval hbool hint hstr href htup hobj hslo hclo h1 h2 h3 (fun p fs hp hs => h4 p.1 p.2 fs hp hs) (fun _ _ h => h) x
theorem Den.mono (hn : n ≤ n') (hρ : ∀ i, i < n → ρ' i = ρ i) (hF : ∀ a o, F a = some o → F' a = some o) {x : AV} : ∀ {v : Value}, Den n ρ F x v → Den n' ρ' F' x v :=
  AV.ind (P := fun x => ∀ {v}, Den n ρ F x v → Den n' ρ' F' x v) (L := fun x => ∀ {v}, Dens n ρ F x v → Dens n' ρ' F' x v) (M := fun x => ∀ {v}, DenEs n ρ F x v → DenEs n' ρ' F' x v)
    (fun _ _ h => h) (fun _ _ h => h) (fun _ _ h => h) (fun _ _ h => h) (fun i _ h => ⟨by rw [hρ i h.2]; exact h.1, Nat.lt_of_lt_of_le h.2 hn⟩) (fun _ ih v => dTup.to hF (fun _ => ih) v) (fun _ _ ih v => dObj.to hF (fun _ => ih) v) (fun _ _ ih v => dSlo.to hF (fun _ => ih) v)
    (fun _ _ _ _ _ _ => dClo.to hF fun p _ hp => ⟨Nat.lt_of_lt_of_le hp hn, hρ _ hp⟩) (fun h => h) (fun _ _ p q v => dCons.imp (fun _ => p) (fun _ => q) v) (fun h => h) (fun _ _ _ p q v => dCons.imp (fun _ h => ⟨h.1, p h.2⟩) (fun _ => q) v) x
theorem Dens.imp (h : ∀ x v, Den n ρ F x v → Den n' ρ' F' x v) : ∀ {xs : List AV} {vs : List Value}, Dens n ρ F xs vs → Dens n' ρ' F' xs vs
  | [], _, d => d
  | _ :: _, vs, d => dCons.imp (h _) (fun _ => Dens.imp h) vs d
theorem Dens.mono (hn : n ≤ n') (hρ : ∀ i, i < n → ρ' i = ρ i) (hF : ∀ a o, F a = some o → F' a = some o) {xs : List AV} {vs : List Value} : Dens n ρ F xs vs → Dens n' ρ' F' xs vs := Dens.imp fun _ _ => Den.mono hn hρ hF
theorem DenEs.imp (h : ∀ x v, Den n ρ F x v → Den n' ρ' F' x v) : ∀ {xs : List (Str × AV)} {vs : List DictEntry}, DenEs n ρ F xs vs → DenEs n' ρ' F' xs vs
  | [], _, d => d
  | _ :: _, vs, d => dCons.imp (fun _ q => ⟨q.1, h _ _ q.2⟩) (fun _ => DenEs.imp h) vs d
theorem DenEs.mono (hn : n ≤ n') (hρ : ∀ i, i < n → ρ' i = ρ i) (hF : ∀ a o, F a = some o → F' a = some o) {xs : List (Str × AV)} {vs : List DictEntry} : DenEs n ρ F xs vs → DenEs n' ρ' F' xs vs := DenEs.imp fun _ _ => Den.mono hn hρ hF
noncomputable def ODen (n : Nat) (ρ : Rho) (F : Fz) : Option AV → Option Value → Prop
  | none, v => v = none
  | some a, v => ∃ w, v = some w ∧ Den n ρ F a w
noncomputable def ODens (n : Nat) (ρ : Rho) (F : Fz) (xs : List (Option AV)) : List (Option Value) → Prop := xs.foldr (fun o k => dCons (ODen n ρ F o) k) fun vs => vs = []
theorem ODen.imp (h : ∀ x v, Den n ρ F x v → Den n' ρ' F' x v) : ∀ {o : Option AV} {v : Option Value}, ODen n ρ F o v → ODen n' ρ' F' o v
  | none, _, d => d
  | some _, _, ⟨w, e, d⟩ => ⟨w, e, h _ _ d⟩
theorem ODens.imp (h : ∀ x v, Den n ρ F x v → Den n' ρ' F' x v) : ∀ {xs : List (Option AV)} {vs : List (Option Value)}, ODens n ρ F xs vs → ODens n' ρ' F' xs vs
  | [], _, d => d
  | _ :: _, vs, d => dCons.imp (fun _ => ODen.imp h) (fun _ => ODens.imp h) vs d
end
noncomputable def Und (N : Nat) (x : AV) : Prop := AV.rec (motive_1 := fun _ => Prop) (motive_2 := fun _ => Prop) (motive_3 := fun _ => Prop) (motive_4 := fun _ => Prop)
  (fun _ => True) (fun _ => True) (fun _ => True) (fun _ => True) (fun i => i < N) (fun _ ih => ih) (fun _ _ ih => ih) (fun _ _ ih => ih) (fun _ _ _ _ cl => ∀ p ∈ cl, p.2 < N) True (fun _ _ p q => p ∧ q) True (fun _ _ p q => p ∧ q) (fun _ _ p => p) x
section
variable {n N : Nat} {ρ ρ' : Rho} {F : Fz}
theorem Und.val (v : Value) : Und N (.val v) := trivial
theorem Und.bool (b : Bool) : Und N (.bool b) := trivial
theorem Und.int (i : Int) : Und N (.int i) := trivial
theorem Und.str (x : Str) : Und N (.str x) := trivial
theorem Und.ref {i : Nat} (h : i < N) : Und N (.ref i) := h
theorem Und.tup : ∀ {xs : List AV}, (∀ x ∈ xs, Und N x) → Und N (.tup xs)
  | [], _ => trivial
  | x :: xs, h => ⟨h x (.head _), Und.tup (xs := xs) fun y hy => h y (.tail _ hy)⟩
theorem Und.slo {C : Addr} {xs : List AV} (h : ∀ x ∈ xs, Und N x) : Und N (.slo C xs) := Und.tup h
theorem Und.obj {C : Addr} : ∀ {fs : List (Str × AV)}, (∀ p ∈ fs, Und N p.2) → Und N (.obj C fs)
  | [], _ => trivial
  | (_, av) :: fs, h => ⟨h _ (.head _), Und.obj (C := C) (fs := fs) fun y hy => h y (.tail _ hy)⟩
theorem Und.clo {name : Str} {params : Arguments} {body : List Stmt} {scope : Scope} {cl : List (Str × Nat)} (h : ∀ p ∈ cl, p.2 < N) : Und N (.clo name params body scope cl) := h
theorem Den.under (hρ : ∀ i, i < N → ρ' i = ρ i) {x : AV} : ∀ {v : Value}, Und N x → Den n ρ F x v → Den N ρ' F x v :=
  AV.ind (P := fun x => ∀ {v}, Und N x → Den n ρ F x v → Den N ρ' F x v) (L := fun x => ∀ {v}, Und N (.tup x) → Dens n ρ F x v → Dens N ρ' F x v) (M := fun x => ∀ {v}, Und N (.obj 0 x) → DenEs n ρ F x v → DenEs N ρ' F x v)
    (fun _ _ _ h => h) (fun _ _ _ h => h) (fun _ _ _ h => h) (fun _ _ _ h => h) (fun i _ u h => ⟨by rw [hρ i u]; exact h.1, u⟩) (fun _ ih v u => dTup.to (fun _ _ h => h) (fun _ => ih u) v) (fun _ _ ih v u => dObj.to (fun _ _ h => h) (fun _ => ih u) v) (fun _ _ ih v u => dSlo.to (fun _ _ h => h) (fun _ => ih u) v)
    (fun _ _ _ _ _ _ u => dClo.to (fun _ _ h => h) fun p hp _ => ⟨u p hp, hρ _ (u p hp)⟩) (fun _ h => h) (fun _ _ p q v u => dCons.imp (fun _ => p u.1) (fun _ => q u.2) v) (fun _ h => h) (fun _ _ _ p q v u => dCons.imp (fun _ h => ⟨h.1, p u.1 h.2⟩) (fun _ => q u.2) v) x
theorem Dens.under (hρ : ∀ i, i < N → ρ' i = ρ i) : ∀ {xs : List AV} {vs : List Value}, (∀ x ∈ xs, Und N x) → Dens n ρ F xs vs → Dens N ρ' F xs vs
  | [], _, _, d => d
  | _ :: _, vs, u, d => dCons.imp (fun _ => Den.under hρ (u _ (.head _))) (fun _ => Dens.under hρ fun y hy => u y (.tail _ hy)) vs d
theorem DenEs.under (hρ : ∀ i, i < N → ρ' i = ρ i) : ∀ {xs : List (Str × AV)} {vs : List DictEntry}, (∀ p ∈ xs, Und N p.2) → DenEs n ρ F xs vs → DenEs N ρ' F xs vs
  | [], _, _, d => d
  | _ :: _, vs, u, d => dCons.imp (fun _ h => ⟨h.1, Den.under hρ (u _ (.head _)) h.2⟩) (fun _ => DenEs.under hρ fun y hy => u y (.tail _ hy)) vs d
theorem ODens.under (hρ : ∀ i, i < N → ρ' i = ρ i) : ∀ {xs : List (Option AV)} {vs : List (Option Value)}, (∀ x, some x ∈ xs → Und N x) → ODens n ρ F xs vs → ODens N ρ' F xs vs
  | [], _, _, d => d
  | none :: _, vs, u, d => dCons.imp (fun _ h => h) (fun _ => ODens.under hρ fun y hy => u y (.tail _ hy)) vs d
  | some x :: _, vs, u, d => dCons.imp (fun _ ⟨w, e, h⟩ => ⟨w, e, Den.under hρ (u _ (.head _)) h⟩) (fun _ => ODens.under hρ fun y hy => u y (.tail _ hy)) vs d
end
end Mine
open PySem PySem.W PyProof.Rows
namespace Mine
inductive Wd where
  | b (b : Bool)
  | cut (xs : List AV) (y : AV)
  | norm
  | keep
  | sel (l : List Nat)
theorem dite_P {c : Prop} [Decidable c] {γ : Type} {P : γ → Prop} {t : c → γ} {e : ¬c → γ} (h1 : ∀ h, P (t h)) (h2 : ∀ h, P (e h)) : P (dite c t e) := by
  split
  · exact h1 _
  · exact h2 _
section
variable {γ : Type}
noncomputable def onConstant (e : Expr) (f : Const → Nat → Pos → γ) (d : γ) : γ := if h : e.ctorIdx = 19 then Expr.Constant.elim (motive_1 := fun _ => γ) e h f else d
theorem onConstant_ind {P : γ → Expr → Prop} {e : Expr} {f : Const → Nat → Pos → γ} {d : γ} (H : ∀ a b c, P (f a b c) (.Constant a b c)) (h0 : P d e) : P (onConstant e f d) e :=
  dite_P (P := fun x => P x e) (fun h => Expr.Constant.elim (motive_1 := fun e => ∀ h, P (Expr.Constant.elim (motive_1 := fun _ => γ) e h f) e) e h (fun a b c _ => H a b c) h) fun _ => h0
noncomputable def onName (e : Expr) (f : Str → Pos → γ) (d : γ) : γ := if h : e.ctorIdx = 23 then Expr.Name.elim (motive_1 := fun _ => γ) e h f else d
theorem onName_ind {P : γ → Expr → Prop} {e : Expr} {f : Str → Pos → γ} {d : γ} (H : ∀ a b, P (f a b) (.Name a b)) (h0 : P d e) : P (onName e f d) e :=
  dite_P (P := fun x => P x e) (fun h => Expr.Name.elim (motive_1 := fun e => ∀ h, P (Expr.Name.elim (motive_1 := fun _ => γ) e h f) e) e h (fun a b _ => H a b) h) fun _ => h0
noncomputable def onBinOp (e : Expr) (f : Expr → Operator → Expr → Pos → γ) (d : γ) : γ := if h : e.ctorIdx = 2 then Expr.BinOp.elim (motive_1 := fun _ => γ) e h f else d
theorem onBinOp_ind {P : γ → Expr → Prop} {e : Expr} {f : Expr → Operator → Expr → Pos → γ} {d : γ} (H : ∀ a b c q, P (f a b c q) (.BinOp a b c q)) (h0 : P d e) : P (onBinOp e f d) e :=
  dite_P (P := fun x => P x e) (fun h => Expr.BinOp.elim (motive_1 := fun e => ∀ h, P (Expr.BinOp.elim (motive_1 := fun _ => γ) e h f) e) e h (fun a b c q _ => H a b c q) h) fun _ => h0
noncomputable def onUnaryOp (e : Expr) (f : UnaryOp → Expr → Pos → γ) (d : γ) : γ := if h : e.ctorIdx = 3 then Expr.UnaryOp.elim (motive_1 := fun _ => γ) e h f else d
theorem onUnaryOp_ind {P : γ → Expr → Prop} {e : Expr} {f : UnaryOp → Expr → Pos → γ} {d : γ} (H : ∀ a b c, P (f a b c) (.UnaryOp a b c)) (h0 : P d e) : P (onUnaryOp e f d) e :=
  dite_P (P := fun x => P x e) (fun h => Expr.UnaryOp.elim (motive_1 := fun e => ∀ h, P (Expr.UnaryOp.elim (motive_1 := fun _ => γ) e h f) e) e h (fun a b c _ => H a b c) h) fun _ => h0
noncomputable def onIfExp (e : Expr) (f : Expr → Expr → Expr → Pos → γ) (d : γ) : γ := if h : e.ctorIdx = 5 then Expr.IfExp.elim (motive_1 := fun _ => γ) e h f else d
theorem onIfExp_ind {P : γ → Expr → Prop} {e : Expr} {f : Expr → Expr → Expr → Pos → γ} {d : γ} (H : ∀ a b c q, P (f a b c q) (.IfExp a b c q)) (h0 : P d e) : P (onIfExp e f d) e :=
  dite_P (P := fun x => P x e) (fun h => Expr.IfExp.elim (motive_1 := fun e => ∀ h, P (Expr.IfExp.elim (motive_1 := fun _ => γ) e h f) e) e h (fun a b c q _ => H a b c q) h) fun _ => h0
noncomputable def onCompare (e : Expr) (f : Expr → (List CmpOp) → (List Expr) → Pos → γ) (d : γ) : γ := if h : e.ctorIdx = 15 then Expr.Compare.elim (motive_1 := fun _ => γ) e h f else d
theorem onCompare_ind {P : γ → Expr → Prop} {e : Expr} {f : Expr → (List CmpOp) → (List Expr) → Pos → γ} {d : γ} (H : ∀ a b c q, P (f a b c q) (.Compare a b c q)) (h0 : P d e) : P (onCompare e f d) e :=
  dite_P (P := fun x => P x e) (fun h => Expr.Compare.elim (motive_1 := fun e => ∀ h, P (Expr.Compare.elim (motive_1 := fun _ => γ) e h f) e) e h (fun a b c q _ => H a b c q) h) fun _ => h0
noncomputable def onAttribute (e : Expr) (f : Expr → Str → Pos → γ) (d : γ) : γ := if h : e.ctorIdx = 20 then Expr.Attribute.elim (motive_1 := fun _ => γ) e h f else d
theorem onAttribute_ind {P : γ → Expr → Prop} {e : Expr} {f : Expr → Str → Pos → γ} {d : γ} (H : ∀ a b c, P (f a b c) (.Attribute a b c)) (h0 : P d e) : P (onAttribute e f d) e :=
  dite_P (P := fun x => P x e) (fun h => Expr.Attribute.elim (motive_1 := fun e => ∀ h, P (Expr.Attribute.elim (motive_1 := fun _ => γ) e h f) e) e h (fun a b c _ => H a b c) h) fun _ => h0
noncomputable def onSubscript (e : Expr) (f : Expr → Expr → Pos → γ) (d : γ) : γ := if h : e.ctorIdx = 21 then Expr.Subscript.elim (motive_1 := fun _ => γ) e h f else d
theorem onSubscript_ind {P : γ → Expr → Prop} {e : Expr} {f : Expr → Expr → Pos → γ} {d : γ} (H : ∀ a b c, P (f a b c) (.Subscript a b c)) (h0 : P d e) : P (onSubscript e f d) e :=
  dite_P (P := fun x => P x e) (fun h => Expr.Subscript.elim (motive_1 := fun e => ∀ h, P (Expr.Subscript.elim (motive_1 := fun _ => γ) e h f) e) e h (fun a b c _ => H a b c) h) fun _ => h0
noncomputable def onListE (e : Expr) (f : (List Expr) → Pos → γ) (d : γ) : γ := if h : e.ctorIdx = 24 then Expr.List.elim (motive_1 := fun _ => γ) e h f else d
theorem onListE_ind {P : γ → Expr → Prop} {e : Expr} {f : (List Expr) → Pos → γ} {d : γ} (H : ∀ a b, P (f a b) (.List a b)) (h0 : P d e) : P (onListE e f d) e :=
  dite_P (P := fun x => P x e) (fun h => Expr.List.elim (motive_1 := fun e => ∀ h, P (Expr.List.elim (motive_1 := fun _ => γ) e h f) e) e h (fun a b _ => H a b) h) fun _ => h0
noncomputable def onTupleE (e : Expr) (f : (List Expr) → Nat → Pos → γ) (d : γ) : γ := if h : e.ctorIdx = 25 then Expr.Tuple.elim (motive_1 := fun _ => γ) e h f else d
theorem onTupleE_ind {P : γ → Expr → Prop} {e : Expr} {f : (List Expr) → Nat → Pos → γ} {d : γ} (H : ∀ a b c, P (f a b c) (.Tuple a b c)) (h0 : P d e) : P (onTupleE e f d) e :=
  dite_P (P := fun x => P x e) (fun h => Expr.Tuple.elim (motive_1 := fun e => ∀ h, P (Expr.Tuple.elim (motive_1 := fun _ => γ) e h f) e) e h (fun a b c _ => H a b c) h) fun _ => h0
noncomputable def onCall (e : Expr) (f : Expr → (List Expr) → (List Keyword) → Pos → γ) (d : γ) : γ := if h : e.ctorIdx = 16 then Expr.Call.elim (motive_1 := fun _ => γ) e h f else d
theorem onCall_ind {P : γ → Expr → Prop} {e : Expr} {f : Expr → (List Expr) → (List Keyword) → Pos → γ} {d : γ} (H : ∀ a b c q, P (f a b c q) (.Call a b c q)) (h0 : P d e) : P (onCall e f d) e :=
  dite_P (P := fun x => P x e) (fun h => Expr.Call.elim (motive_1 := fun e => ∀ h, P (Expr.Call.elim (motive_1 := fun _ => γ) e h f) e) e h (fun a b c q _ => H a b c q) h) fun _ => h0
noncomputable def onListComp (e : Expr) (f : Expr → (List Comprehension) → Scope → Pos → γ) (d : γ) : γ := if h : e.ctorIdx = 8 then Expr.ListComp.elim (motive_1 := fun _ => γ) e h f else d
theorem onListComp_ind {P : γ → Expr → Prop} {e : Expr} {f : Expr → (List Comprehension) → Scope → Pos → γ} {d : γ} (H : ∀ a b c q, P (f a b c q) (.ListComp a b c q)) (h0 : P d e) : P (onListComp e f d) e :=
  dite_P (P := fun x => P x e) (fun h => Expr.ListComp.elim (motive_1 := fun e => ∀ h, P (Expr.ListComp.elim (motive_1 := fun _ => γ) e h f) e) e h (fun a b c q _ => H a b c q) h) fun _ => h0
noncomputable def onGenExp (e : Expr) (f : Expr → (List Comprehension) → Scope → Pos → γ) (d : γ) : γ := if h : e.ctorIdx = 11 then Expr.GeneratorExp.elim (motive_1 := fun _ => γ) e h f else d
theorem onGenExp_ind {P : γ → Expr → Prop} {e : Expr} {f : Expr → (List Comprehension) → Scope → Pos → γ} {d : γ} (H : ∀ a b c q, P (f a b c q) (.GeneratorExp a b c q)) (h0 : P d e) : P (onGenExp e f d) e :=
  dite_P (P := fun x => P x e) (fun h => Expr.GeneratorExp.elim (motive_1 := fun e => ∀ h, P (Expr.GeneratorExp.elim (motive_1 := fun _ => γ) e h f) e) e h (fun a b c q _ => H a b c q) h) fun _ => h0
noncomputable def onSliceE (e : Expr) (f : (Option Expr) → (Option Expr) → (Option Expr) → Pos → γ) (d : γ) : γ := if h : e.ctorIdx = 26 then Expr.Slice.elim (motive_1 := fun _ => γ) e h f else d
theorem onSliceE_ind {P : γ → Expr → Prop} {e : Expr} {f : (Option Expr) → (Option Expr) → (Option Expr) → Pos → γ} {d : γ} (H : ∀ a b c q, P (f a b c q) (.Slice a b c q)) (h0 : P d e) : P (onSliceE e f d) e :=
  dite_P (P := fun x => P x e) (fun h => Expr.Slice.elim (motive_1 := fun e => ∀ h, P (Expr.Slice.elim (motive_1 := fun _ => γ) e h f) e) e h (fun a b c q _ => H a b c q) h) fun _ => h0
noncomputable def onBoolOp (e : Expr) (f : BoolOp → (List Expr) → Pos → γ) (d : γ) : γ := if h : e.ctorIdx = 0 then Expr.BoolOp.elim (motive_1 := fun _ => γ) e h f else d
theorem onBoolOp_ind {P : γ → Expr → Prop} {e : Expr} {f : BoolOp → (List Expr) → Pos → γ} {d : γ} (H : ∀ a b c, P (f a b c) (.BoolOp a b c)) (h0 : P d e) : P (onBoolOp e f d) e :=
  dite_P (P := fun x => P x e) (fun h => Expr.BoolOp.elim (motive_1 := fun e => ∀ h, P (Expr.BoolOp.elim (motive_1 := fun _ => γ) e h f) e) e h (fun a b c _ => H a b c) h) fun _ => h0
noncomputable def onExprS (e : Stmt) (f : Expr → Pos → γ) (d : γ) : γ := if h : e.ctorIdx = 24 then Stmt.Expr.elim (motive_2 := fun _ => γ) e h f else d
theorem onExprS_ind {P : γ → Stmt → Prop} {e : Stmt} {f : Expr → Pos → γ} {d : γ} (H : ∀ a b, P (f a b) (.Expr a b)) (h0 : P d e) : P (onExprS e f d) e :=
  dite_P (P := fun x => P x e) (fun h => Stmt.Expr.elim (motive_2 := fun e => ∀ h, P (Stmt.Expr.elim (motive_2 := fun _ => γ) e h f) e) e h (fun a b _ => H a b) h) fun _ => h0
noncomputable def onAssign (e : Stmt) (f : (List Expr) → Expr → Pos → γ) (d : γ) : γ := if h : e.ctorIdx = 5 then Stmt.Assign.elim (motive_2 := fun _ => γ) e h f else d
theorem onAssign_ind {P : γ → Stmt → Prop} {e : Stmt} {f : (List Expr) → Expr → Pos → γ} {d : γ} (H : ∀ a b c, P (f a b c) (.Assign a b c)) (h0 : P d e) : P (onAssign e f d) e :=
  dite_P (P := fun x => P x e) (fun h => Stmt.Assign.elim (motive_2 := fun e => ∀ h, P (Stmt.Assign.elim (motive_2 := fun _ => γ) e h f) e) e h (fun a b c _ => H a b c) h) fun _ => h0
noncomputable def onAugAssign (e : Stmt) (f : Expr → Operator → Expr → Pos → γ) (d : γ) : γ := if h : e.ctorIdx = 7 then Stmt.AugAssign.elim (motive_2 := fun _ => γ) e h f else d
theorem onAugAssign_ind {P : γ → Stmt → Prop} {e : Stmt} {f : Expr → Operator → Expr → Pos → γ} {d : γ} (H : ∀ a b c q, P (f a b c q) (.AugAssign a b c q)) (h0 : P d e) : P (onAugAssign e f d) e :=
  dite_P (P := fun x => P x e) (fun h => Stmt.AugAssign.elim (motive_2 := fun e => ∀ h, P (Stmt.AugAssign.elim (motive_2 := fun _ => γ) e h f) e) e h (fun a b c q _ => H a b c q) h) fun _ => h0
noncomputable def onIf (e : Stmt) (f : Expr → (List Stmt) → (List Stmt) → Pos → γ) (d : γ) : γ := if h : e.ctorIdx = 12 then Stmt.If.elim (motive_2 := fun _ => γ) e h f else d
theorem onIf_ind {P : γ → Stmt → Prop} {e : Stmt} {f : Expr → (List Stmt) → (List Stmt) → Pos → γ} {d : γ} (H : ∀ a b c q, P (f a b c q) (.If a b c q)) (h0 : P d e) : P (onIf e f d) e :=
  dite_P (P := fun x => P x e) (fun h => Stmt.If.elim (motive_2 := fun e => ∀ h, P (Stmt.If.elim (motive_2 := fun _ => γ) e h f) e) e h (fun a b c q _ => H a b c q) h) fun _ => h0
noncomputable def onWhile (e : Stmt) (f : Expr → (List Stmt) → (List Stmt) → Pos → γ) (d : γ) : γ := if h : e.ctorIdx = 11 then Stmt.While.elim (motive_2 := fun _ => γ) e h f else d
theorem onWhile_ind {P : γ → Stmt → Prop} {e : Stmt} {f : Expr → (List Stmt) → (List Stmt) → Pos → γ} {d : γ} (H : ∀ a b c q, P (f a b c q) (.While a b c q)) (h0 : P d e) : P (onWhile e f d) e :=
  dite_P (P := fun x => P x e) (fun h => Stmt.While.elim (motive_2 := fun e => ∀ h, P (Stmt.While.elim (motive_2 := fun _ => γ) e h f) e) e h (fun a b c q _ => H a b c q) h) fun _ => h0
noncomputable def onFor (e : Stmt) (f : Expr → Expr → (List Stmt) → (List Stmt) → Pos → γ) (d : γ) : γ := if h : e.ctorIdx = 9 then Stmt.For.elim (motive_2 := fun _ => γ) e h f else d
theorem onFor_ind {P : γ → Stmt → Prop} {e : Stmt} {f : Expr → Expr → (List Stmt) → (List Stmt) → Pos → γ} {d : γ} (H : ∀ a b c q r, P (f a b c q r) (.For a b c q r)) (h0 : P d e) : P (onFor e f d) e :=
  dite_P (P := fun x => P x e) (fun h => Stmt.For.elim (motive_2 := fun e => ∀ h, P (Stmt.For.elim (motive_2 := fun _ => γ) e h f) e) e h (fun a b c q r _ => H a b c q r) h) fun _ => h0
noncomputable def onReturn (e : Stmt) (f : (Option Expr) → Pos → γ) (d : γ) : γ := if h : e.ctorIdx = 3 then Stmt.Return.elim (motive_2 := fun _ => γ) e h f else d
theorem onReturn_ind {P : γ → Stmt → Prop} {e : Stmt} {f : (Option Expr) → Pos → γ} {d : γ} (H : ∀ a b, P (f a b) (.Return a b)) (h0 : P d e) : P (onReturn e f d) e :=
  dite_P (P := fun x => P x e) (fun h => Stmt.Return.elim (motive_2 := fun e => ∀ h, P (Stmt.Return.elim (motive_2 := fun _ => γ) e h f) e) e h (fun a b _ => H a b) h) fun _ => h0
noncomputable def onRaise (e : Stmt) (f : (Option Expr) → (Option Expr) → Pos → γ) (d : γ) : γ := if h : e.ctorIdx = 16 then Stmt.Raise.elim (motive_2 := fun _ => γ) e h f else d
theorem onRaise_ind {P : γ → Stmt → Prop} {e : Stmt} {f : (Option Expr) → (Option Expr) → Pos → γ} {d : γ} (H : ∀ a b c, P (f a b c) (.Raise a b c)) (h0 : P d e) : P (onRaise e f d) e :=
  dite_P (P := fun x => P x e) (fun h => Stmt.Raise.elim (motive_2 := fun e => ∀ h, P (Stmt.Raise.elim (motive_2 := fun _ => γ) e h f) e) e h (fun a b c _ => H a b c) h) fun _ => h0
noncomputable def onTry (e : Stmt) (f : (List Stmt) → (List ExceptHandler) → (List Stmt) → (List Stmt) → Pos → γ) (d : γ) : γ := if h : e.ctorIdx = 17 then Stmt.Try.elim (motive_2 := fun _ => γ) e h f else d
theorem onTry_ind {P : γ → Stmt → Prop} {e : Stmt} {f : (List Stmt) → (List ExceptHandler) → (List Stmt) → (List Stmt) → Pos → γ} {d : γ} (H : ∀ a b c q r, P (f a b c q r) (.Try a b c q r)) (h0 : P d e) : P (onTry e f d) e :=
  dite_P (P := fun x => P x e) (fun h => Stmt.Try.elim (motive_2 := fun e => ∀ h, P (Stmt.Try.elim (motive_2 := fun _ => γ) e h f) e) e h (fun a b c q r _ => H a b c q r) h) fun _ => h0
noncomputable def onAssert (e : Stmt) (f : Expr → (Option Expr) → Pos → γ) (d : γ) : γ := if h : e.ctorIdx = 19 then Stmt.Assert.elim (motive_2 := fun _ => γ) e h f else d
theorem onAssert_ind {P : γ → Stmt → Prop} {e : Stmt} {f : Expr → (Option Expr) → Pos → γ} {d : γ} (H : ∀ a b c, P (f a b c) (.Assert a b c)) (h0 : P d e) : P (onAssert e f d) e :=
  dite_P (P := fun x => P x e) (fun h => Stmt.Assert.elim (motive_2 := fun e => ∀ h, P (Stmt.Assert.elim (motive_2 := fun _ => γ) e h f) e) e h (fun a b c _ => H a b c) h) fun _ => h0
noncomputable def onFunctionDef (e : Stmt) (f : Str → Arguments → (List Stmt) → (List Expr) → (Option Expr) → (List TypeParam) → Scope → (Option Scope) → Str → Pos → γ) (d : γ) : γ := if h : e.ctorIdx = 0 then Stmt.FunctionDef.elim (motive_2 := fun _ => γ) e h f else d
theorem onFunctionDef_ind {P : γ → Stmt → Prop} {e : Stmt} {f : Str → Arguments → (List Stmt) → (List Expr) → (Option Expr) → (List TypeParam) → Scope → (Option Scope) → Str → Pos → γ} {d : γ} (H : ∀ a b c q r u v w y z, P (f a b c q r u v w y z) (.FunctionDef a b c q r u v w y z)) (h0 : P d e) : P (onFunctionDef e f d) e :=
  dite_P (P := fun x => P x e) (fun h => Stmt.FunctionDef.elim (motive_2 := fun e => ∀ h, P (Stmt.FunctionDef.elim (motive_2 := fun _ => γ) e h f) e) e h (fun a b c q r u v w y z _ => H a b c q r u v w y z) h) fun _ => h0
noncomputable def onPass (e : Stmt) (f : Pos → γ) (d : γ) : γ := if h : e.ctorIdx = 25 then Stmt.Pass.elim (motive_2 := fun _ => γ) e h f else d
theorem onPass_ind {P : γ → Stmt → Prop} {e : Stmt} {f : Pos → γ} {d : γ} (H : ∀ a, P (f a) (.Pass a)) (h0 : P d e) : P (onPass e f d) e :=
  dite_P (P := fun x => P x e) (fun h => Stmt.Pass.elim (motive_2 := fun e => ∀ h, P (Stmt.Pass.elim (motive_2 := fun _ => γ) e h f) e) e h (fun a _ => H a) h) fun _ => h0
noncomputable def onVal (e : AV) (f : Value → γ) (d : γ) : γ := if h : e.ctorIdx = 0 then AV.val.elim (motive_1 := fun _ => γ) e h f else d
theorem onVal_ind {P : γ → AV → Prop} {e : AV} {f : Value → γ} {d : γ} (H : ∀ a, P (f a) (.val a)) (h0 : P d e) : P (onVal e f d) e :=
  dite_P (P := fun x => P x e) (fun h => AV.val.elim (motive_1 := fun e => ∀ h, P (AV.val.elim (motive_1 := fun _ => γ) e h f) e) e h (fun a _ => H a) h) fun _ => h0
noncomputable def onBool (e : AV) (f : Bool → γ) (d : γ) : γ := if h : e.ctorIdx = 1 then AV.bool.elim (motive_1 := fun _ => γ) e h f else d
theorem onBool_ind {P : γ → AV → Prop} {e : AV} {f : Bool → γ} {d : γ} (H : ∀ a, P (f a) (.bool a)) (h0 : P d e) : P (onBool e f d) e :=
  dite_P (P := fun x => P x e) (fun h => AV.bool.elim (motive_1 := fun e => ∀ h, P (AV.bool.elim (motive_1 := fun _ => γ) e h f) e) e h (fun a _ => H a) h) fun _ => h0
noncomputable def onInt (e : AV) (f : Int → γ) (d : γ) : γ := if h : e.ctorIdx = 2 then AV.int.elim (motive_1 := fun _ => γ) e h f else d
theorem onInt_ind {P : γ → AV → Prop} {e : AV} {f : Int → γ} {d : γ} (H : ∀ a, P (f a) (.int a)) (h0 : P d e) : P (onInt e f d) e :=
  dite_P (P := fun x => P x e) (fun h => AV.int.elim (motive_1 := fun e => ∀ h, P (AV.int.elim (motive_1 := fun _ => γ) e h f) e) e h (fun a _ => H a) h) fun _ => h0
noncomputable def onStr (e : AV) (f : Str → γ) (d : γ) : γ := if h : e.ctorIdx = 3 then AV.str.elim (motive_1 := fun _ => γ) e h f else d
theorem onStr_ind {P : γ → AV → Prop} {e : AV} {f : Str → γ} {d : γ} (H : ∀ a, P (f a) (.str a)) (h0 : P d e) : P (onStr e f d) e :=
  dite_P (P := fun x => P x e) (fun h => AV.str.elim (motive_1 := fun e => ∀ h, P (AV.str.elim (motive_1 := fun _ => γ) e h f) e) e h (fun a _ => H a) h) fun _ => h0
noncomputable def onRef (e : AV) (f : Nat → γ) (d : γ) : γ := if h : e.ctorIdx = 4 then AV.ref.elim (motive_1 := fun _ => γ) e h f else d
theorem onRef_ind {P : γ → AV → Prop} {e : AV} {f : Nat → γ} {d : γ} (H : ∀ a, P (f a) (.ref a)) (h0 : P d e) : P (onRef e f d) e :=
  dite_P (P := fun x => P x e) (fun h => AV.ref.elim (motive_1 := fun e => ∀ h, P (AV.ref.elim (motive_1 := fun _ => γ) e h f) e) e h (fun a _ => H a) h) fun _ => h0
noncomputable def onTup (e : AV) (f : (List AV) → γ) (d : γ) : γ := if h : e.ctorIdx = 5 then AV.tup.elim (motive_1 := fun _ => γ) e h f else d
theorem onTup_ind {P : γ → AV → Prop} {e : AV} {f : (List AV) → γ} {d : γ} (H : ∀ a, P (f a) (.tup a)) (h0 : P d e) : P (onTup e f d) e :=
  dite_P (P := fun x => P x e) (fun h => AV.tup.elim (motive_1 := fun e => ∀ h, P (AV.tup.elim (motive_1 := fun _ => γ) e h f) e) e h (fun a _ => H a) h) fun _ => h0
noncomputable def onObj (e : AV) (f : Addr → (List (Str × AV)) → γ) (d : γ) : γ := if h : e.ctorIdx = 6 then AV.obj.elim (motive_1 := fun _ => γ) e h f else d
theorem onObj_ind {P : γ → AV → Prop} {e : AV} {f : Addr → (List (Str × AV)) → γ} {d : γ} (H : ∀ a b, P (f a b) (.obj a b)) (h0 : P d e) : P (onObj e f d) e :=
  dite_P (P := fun x => P x e) (fun h => AV.obj.elim (motive_1 := fun e => ∀ h, P (AV.obj.elim (motive_1 := fun _ => γ) e h f) e) e h (fun a b _ => H a b) h) fun _ => h0
noncomputable def onSlo (e : AV) (f : Addr → (List AV) → γ) (d : γ) : γ := if h : e.ctorIdx = 7 then AV.slo.elim (motive_1 := fun _ => γ) e h f else d
noncomputable def onClo (e : AV) (f : Str → Arguments → (List Stmt) → Scope → (List (Str × Nat)) → γ) (d : γ) : γ := if h : e.ctorIdx = 8 then AV.clo.elim (motive_1 := fun _ => γ) e h f else d
theorem onClo_ind {P : γ → AV → Prop} {e : AV} {f : Str → Arguments → (List Stmt) → Scope → (List (Str × Nat)) → γ} {d : γ} (H : ∀ a b c q r, P (f a b c q r) (.clo a b c q r)) (h0 : P d e) : P (onClo e f d) e :=
  dite_P (P := fun x => P x e) (fun h => AV.clo.elim (motive_1 := fun e => ∀ h, P (AV.clo.elim (motive_1 := fun _ => γ) e h f) e) e h (fun a b c q r _ => H a b c q r) h) fun _ => h0
noncomputable def onDFunc (e : Data) (f : FuncData → γ) (d : γ) : γ := if h : e.ctorIdx = 7 then Data.func.elim (motive := fun _ => γ) e h f else d
noncomputable def onDSeq (e : Data) (f : (Array Value) → Nat → γ) (d : γ) : γ := if h : e.ctorIdx = 2 then Data.seq.elim (motive := fun _ => γ) e h f else d
noncomputable def onDFields (e : Data) (f : (Array Value) → γ) (d : γ) : γ := if h : e.ctorIdx = 9 then Data.fields.elim (motive := fun _ => γ) e h f else d
noncomputable def onBStmts (e : FuncBody) (f : (List Stmt) → γ) (d : γ) : γ := if h : e.ctorIdx = 0 then FuncBody.stmts.elim (motive := fun _ => γ) e h f else d
noncomputable def onVType (e : Value) (f : String → γ) (d : γ) : γ := if h : e.ctorIdx = 8 then Value.type.elim (motive := fun _ => γ) e h f else d
theorem onVType_ind {P : γ → Value → Prop} {e : Value} {f : String → γ} {d : γ} (H : ∀ a, P (f a) (.type a)) (h0 : P d e) : P (onVType e f d) e :=
  dite_P (P := fun x => P x e) (fun h => Value.type.elim (motive := fun e => ∀ h, P (Value.type.elim (motive := fun _ => γ) e h f) e) e h (fun a _ => H a) h) fun _ => h0
noncomputable def onVBuiltin (e : Value) (f : String → γ) (d : γ) : γ := if h : e.ctorIdx = 9 then Value.builtin.elim (motive := fun _ => γ) e h f else d
theorem onVBuiltin_ind {P : γ → Value → Prop} {e : Value} {f : String → γ} {d : γ} (H : ∀ a, P (f a) (.builtin a)) (h0 : P d e) : P (onVBuiltin e f d) e :=
  dite_P (P := fun x => P x e) (fun h => Value.builtin.elim (motive := fun e => ∀ h, P (Value.builtin.elim (motive := fun _ => γ) e h f) e) e h (fun a _ => H a) h) fun _ => h0
noncomputable def onVRef (e : Value) (f : Addr → γ) (d : γ) : γ := if h : e.ctorIdx = 10 then Value.ref.elim (motive := fun _ => γ) e h f else d
theorem onVRef_ind {P : γ → Value → Prop} {e : Value} {f : Addr → γ} {d : γ} (H : ∀ a, P (f a) (.ref a)) (h0 : P d e) : P (onVRef e f d) e :=
  dite_P (P := fun x => P x e) (fun h => Value.ref.elim (motive := fun e => ∀ h, P (Value.ref.elim (motive := fun _ => γ) e h f) e) e h (fun a _ => H a) h) fun _ => h0
noncomputable def onVNone (e : Value) (f : γ) (d : γ) : γ := if h : e.ctorIdx = 0 then Value.none.elim (motive := fun _ => γ) e h f else d
theorem onVNone_ind {P : γ → Value → Prop} {e : Value} {f : γ} {d : γ} (H : P f .none) (h0 : P d e) : P (onVNone e f d) e :=
  dite_P (P := fun x => P x e) (fun h => Value.none.elim (motive := fun e => ∀ h, P (Value.none.elim (motive := fun _ => γ) e h f) e) e h (fun _ => H) h) fun _ => h0
noncomputable def onVStr (e : Value) (f : Str → Tok → γ) (d : γ) : γ := if h : e.ctorIdx = 6 then Value.str.elim (motive := fun _ => γ) e h f else d
theorem onVStr_ind {P : γ → Value → Prop} {e : Value} {f : Str → Tok → γ} {d : γ} (H : ∀ a b, P (f a b) (.str a b)) (h0 : P d e) : P (onVStr e f d) e :=
  dite_P (P := fun x => P x e) (fun h => Value.str.elim (motive := fun e => ∀ h, P (Value.str.elim (motive := fun _ => γ) e h f) e) e h (fun a b _ => H a b) h) fun _ => h0
noncomputable def onVInt (e : Value) (f : Int → Tok → γ) (d : γ) : γ := if h : e.ctorIdx = 4 then Value.int.elim (motive := fun _ => γ) e h f else d
theorem onVInt_ind {P : γ → Value → Prop} {e : Value} {f : Int → Tok → γ} {d : γ} (H : ∀ a b, P (f a b) (.int a b)) (h0 : P d e) : P (onVInt e f d) e :=
  dite_P (P := fun x => P x e) (fun h => Value.int.elim (motive := fun e => ∀ h, P (Value.int.elim (motive := fun _ => γ) e h f) e) e h (fun a b _ => H a b) h) fun _ => h0
noncomputable def onWB (e : Wd) (f : Bool → γ) (d : γ) : γ := if h : e.ctorIdx = 0 then Wd.b.elim (motive := fun _ => γ) e h f else d
noncomputable def onWCut (e : Wd) (f : (List AV) → AV → γ) (d : γ) : γ := if h : e.ctorIdx = 1 then Wd.cut.elim (motive := fun _ => γ) e h f else d
noncomputable def onWNorm (e : Wd) (f : γ) (d : γ) : γ := if h : e.ctorIdx = 2 then Wd.norm.elim (motive := fun _ => γ) e h f else d
theorem onWNorm_ind {P : γ → Wd → Prop} {e : Wd} {f : γ} {d : γ} (H : P f .norm) (h0 : P d e) : P (onWNorm e f d) e :=
  dite_P (P := fun x => P x e) (fun h => Wd.norm.elim (motive := fun e => ∀ h, P (Wd.norm.elim (motive := fun _ => γ) e h f) e) e h (fun _ => H) h) fun _ => h0
noncomputable def onWKeep (e : Wd) (f : γ) (d : γ) : γ := if h : e.ctorIdx = 3 then Wd.keep.elim (motive := fun _ => γ) e h f else d
theorem onWKeep_ind {P : γ → Wd → Prop} {e : Wd} {f : γ} {d : γ} (H : P f .keep) (h0 : P d e) : P (onWKeep e f d) e :=
  dite_P (P := fun x => P x e) (fun h => Wd.keep.elim (motive := fun e => ∀ h, P (Wd.keep.elim (motive := fun _ => γ) e h f) e) e h (fun _ => H) h) fun _ => h0
noncomputable def onWSel (e : Wd) (f : (List Nat) → γ) (d : γ) : γ := if h : e.ctorIdx = 4 then Wd.sel.elim (motive := fun _ => γ) e h f else d
theorem onWSel_ind {P : γ → Wd → Prop} {e : Wd} {f : (List Nat) → γ} {d : γ} (H : ∀ a, P (f a) (.sel a)) (h0 : P d e) : P (onWSel e f d) e :=
  dite_P (P := fun x => P x e) (fun h => Wd.sel.elim (motive := fun e => ∀ h, P (Wd.sel.elim (motive := fun _ => γ) e h f) e) e h (fun a _ => H a) h) fun _ => h0
noncomputable def onCList (e : Cell) (f : (List AV) → γ) (d : γ) : γ := if h : e.ctorIdx = 0 then Cell.list.elim (motive := fun _ => γ) e h f else d
theorem onCList_ind {P : γ → Cell → Prop} {e : Cell} {f : (List AV) → γ} {d : γ} (H : ∀ a, P (f a) (.list a)) (h0 : P d e) : P (onCList e f d) e :=
  dite_P (P := fun x => P x e) (fun h => Cell.list.elim (motive := fun e => ∀ h, P (Cell.list.elim (motive := fun _ => γ) e h f) e) e h (fun a _ => H a) h) fun _ => h0
noncomputable def onCNs (e : Cell) (f : (List (Str × AV)) → γ) (d : γ) : γ := if h : e.ctorIdx = 1 then Cell.ns.elim (motive := fun _ => γ) e h f else d
theorem onCNs_ind {P : γ → Cell → Prop} {e : Cell} {f : (List (Str × AV)) → γ} {d : γ} (H : ∀ a, P (f a) (.ns a)) (h0 : P d e) : P (onCNs e f d) e :=
  dite_P (P := fun x => P x e) (fun h => Cell.ns.elim (motive := fun e => ∀ h, P (Cell.ns.elim (motive := fun _ => γ) e h f) e) e h (fun a _ => H a) h) fun _ => h0
noncomputable def onCBox (e : Cell) (f : (Option AV) → γ) (d : γ) : γ := if h : e.ctorIdx = 2 then Cell.box.elim (motive := fun _ => γ) e h f else d
theorem onCBox_ind {P : γ → Cell → Prop} {e : Cell} {f : (Option AV) → γ} {d : γ} (H : ∀ a, P (f a) (.box a)) (h0 : P d e) : P (onCBox e f d) e :=
  dite_P (P := fun x => P x e) (fun h => Cell.box.elim (motive := fun e => ∀ h, P (Cell.box.elim (motive := fun _ => γ) e h f) e) e h (fun a _ => H a) h) fun _ => h0
noncomputable def onCDict (e : Cell) (f : (List (Str × AV)) → γ) (d : γ) : γ := if h : e.ctorIdx = 3 then Cell.dict.elim (motive := fun _ => γ) e h f else d
theorem onCDict_ind {P : γ → Cell → Prop} {e : Cell} {f : (List (Str × AV)) → γ} {d : γ} (H : ∀ a, P (f a) (.dict a)) (h0 : P d e) : P (onCDict e f d) e :=
  dite_P (P := fun x => P x e) (fun h => Cell.dict.elim (motive := fun e => ∀ h, P (Cell.dict.elim (motive := fun _ => γ) e h f) e) e h (fun a _ => H a) h) fun _ => h0
noncomputable def onCInst (e : Cell) (f : Addr → Nat → γ) (d : γ) : γ := if h : e.ctorIdx = 4 then Cell.inst.elim (motive := fun _ => γ) e h f else d
theorem onCInst_ind {P : γ → Cell → Prop} {e : Cell} {f : Addr → Nat → γ} {d : γ} (H : ∀ a b, P (f a b) (.inst a b)) (h0 : P d e) : P (onCInst e f d) e :=
  dite_P (P := fun x => P x e) (fun h => Cell.inst.elim (motive := fun e => ∀ h, P (Cell.inst.elim (motive := fun _ => γ) e h f) e) e h (fun a b _ => H a b) h) fun _ => h0
noncomputable def onCSinst (e : Cell) (f : Addr → Nat → (List (Option AV)) → γ) (d : γ) : γ := if h : e.ctorIdx = 5 then Cell.sinst.elim (motive := fun _ => γ) e h f else d
theorem onCSinst_ind {P : γ → Cell → Prop} {e : Cell} {f : Addr → Nat → (List (Option AV)) → γ} {d : γ} (H : ∀ a b c, P (f a b c) (.sinst a b c)) (h0 : P d e) : P (onCSinst e f d) e :=
  dite_P (P := fun x => P x e) (fun h => Cell.sinst.elim (motive := fun e => ∀ h, P (Cell.sinst.elim (motive := fun _ => γ) e h f) e) e h (fun a b c _ => H a b c) h) fun _ => h0
noncomputable def onCLiter (e : Cell) (f : Nat → Nat → γ) (d : γ) : γ := if h : e.ctorIdx = 6 then Cell.liter.elim (motive := fun _ => γ) e h f else d
theorem onCLiter_ind {P : γ → Cell → Prop} {e : Cell} {f : Nat → Nat → γ} {d : γ} (H : ∀ a b, P (f a b) (.liter a b)) (h0 : P d e) : P (onCLiter e f d) e :=
  dite_P (P := fun x => P x e) (fun h => Cell.liter.elim (motive := fun e => ∀ h, P (Cell.liter.elim (motive := fun _ => γ) e h f) e) e h (fun a b _ => H a b) h) fun _ => h0
noncomputable def onCLend (e : Cell) (f : γ) (d : γ) : γ := if h : e.ctorIdx = 7 then Cell.lend.elim (motive := fun _ => γ) e h f else d
theorem onCLend_ind {P : γ → Cell → Prop} {e : Cell} {f : γ} {d : γ} (H : P f .lend) (h0 : P d e) : P (onCLend e f d) e :=
  dite_P (P := fun x => P x e) (fun h => Cell.lend.elim (motive := fun e => ∀ h, P (Cell.lend.elim (motive := fun _ => γ) e h f) e) e h (fun _ => H) h) fun _ => h0
noncomputable def onCTab (e : Cell) (f : Addr → (Array Value) → (Option (List (Int × Int))) → γ) (d : γ) : γ := if h : e.ctorIdx = 8 then Cell.tab.elim (motive := fun _ => γ) e h f else d
theorem onCTab_ind {P : γ → Cell → Prop} {e : Cell} {f : Addr → (Array Value) → (Option (List (Int × Int))) → γ} {d : γ} (H : ∀ a b c, P (f a b c) (.tab a b c)) (h0 : P d e) : P (onCTab e f d) e :=
  dite_P (P := fun x => P x e) (fun h => Cell.tab.elim (motive := fun e => ∀ h, P (Cell.tab.elim (motive := fun _ => γ) e h f) e) e h (fun a b c _ => H a b c) h) fun _ => h0
noncomputable def onCRaw (e : Cell) (f : Obj → γ) (d : γ) : γ := if h : e.ctorIdx = 9 then Cell.raw.elim (motive := fun _ => γ) e h f else d
theorem onCRaw_ind {P : γ → Cell → Prop} {e : Cell} {f : Obj → γ} {d : γ} (H : ∀ a, P (f a) (.raw a)) (h0 : P d e) : P (onCRaw e f d) e :=
  dite_P (P := fun x => P x e) (fun h => Cell.raw.elim (motive := fun e => ∀ h, P (Cell.raw.elim (motive := fun _ => γ) e h f) e) e h (fun a _ => H a) h) fun _ => h0
noncomputable def onCExc (e : Cell) (f : Addr → (Option Nat) → (Option Nat) → γ) (d : γ) : γ := if h : e.ctorIdx = 10 then Cell.exc.elim (motive := fun _ => γ) e h f else d
theorem onCExc_ind {P : γ → Cell → Prop} {e : Cell} {f : Addr → (Option Nat) → (Option Nat) → γ} {d : γ} (H : ∀ a b c, P (f a b c) (.exc a b c)) (h0 : P d e) : P (onCExc e f d) e :=
  dite_P (P := fun x => P x e) (fun h => Cell.exc.elim (motive := fun e => ∀ h, P (Cell.exc.elim (motive := fun _ => γ) e h f) e) e h (fun a b c _ => H a b c) h) fun _ => h0
noncomputable def onCTb (e : Cell) (f : (Option Nat) → γ) (d : γ) : γ := if h : e.ctorIdx = 11 then Cell.tb.elim (motive := fun _ => γ) e h f else d
theorem onCTb_ind {P : γ → Cell → Prop} {e : Cell} {f : (Option Nat) → γ} {d : γ} (H : ∀ a, P (f a) (.tb a)) (h0 : P d e) : P (onCTb e f d) e :=
  dite_P (P := fun x => P x e) (fun h => Cell.tb.elim (motive := fun e => ∀ h, P (Cell.tb.elim (motive := fun _ => γ) e h f) e) e h (fun a _ => H a) h) fun _ => h0
noncomputable def onCRng (e : Cell) (f : Int → Int → Int → γ) (d : γ) : γ := if h : e.ctorIdx = 12 then Cell.rng.elim (motive := fun _ => γ) e h f else d
theorem onCRng_ind {P : γ → Cell → Prop} {e : Cell} {f : Int → Int → Int → γ} {d : γ} (H : ∀ a b c, P (f a b c) (.rng a b c)) (h0 : P d e) : P (onCRng e f d) e :=
  dite_P (P := fun x => P x e) (fun h => Cell.rng.elim (motive := fun e => ∀ h, P (Cell.rng.elim (motive := fun _ => γ) e h f) e) e h (fun a b c _ => H a b c) h) fun _ => h0
noncomputable def onCRit (e : Cell) (f : Int → Int → Int → γ) (d : γ) : γ := if h : e.ctorIdx = 13 then Cell.rit.elim (motive := fun _ => γ) e h f else d
theorem onCRit_ind {P : γ → Cell → Prop} {e : Cell} {f : Int → Int → Int → γ} {d : γ} (H : ∀ a b c, P (f a b c) (.rit a b c)) (h0 : P d e) : P (onCRit e f d) e :=
  dite_P (P := fun x => P x e) (fun h => Cell.rit.elim (motive := fun e => ∀ h, P (Cell.rit.elim (motive := fun _ => γ) e h f) e) e h (fun a b c _ => H a b c) h) fun _ => h0
noncomputable def onCWl (e : Cell) (f : Nat → Nat → γ) (d : γ) : γ := if h : e.ctorIdx = 14 then Cell.wl.elim (motive := fun _ => γ) e h f else d
theorem onCWl_ind {P : γ → Cell → Prop} {e : Cell} {f : Nat → Nat → γ} {d : γ} (H : ∀ a b, P (f a b) (.wl a b)) (h0 : P d e) : P (onCWl e f d) e :=
  dite_P (P := fun x => P x e) (fun h => Cell.wl.elim (motive := fun e => ∀ h, P (Cell.wl.elim (motive := fun _ => γ) e h f) e) e h (fun a b _ => H a b) h) fun _ => h0
noncomputable def onCEnum (e : Cell) (f : Nat → Nat → γ) (d : γ) : γ := if h : e.ctorIdx = 15 then Cell.enum.elim (motive := fun _ => γ) e h f else d
theorem onCEnum_ind {P : γ → Cell → Prop} {e : Cell} {f : Nat → Nat → γ} {d : γ} (H : ∀ a b, P (f a b) (.enum a b)) (h0 : P d e) : P (onCEnum e f d) e :=
  dite_P (P := fun x => P x e) (fun h => Cell.enum.elim (motive := fun e => ∀ h, P (Cell.enum.elim (motive := fun _ => γ) e h f) e) e h (fun a b _ => H a b) h) fun _ => h0
end
section
variable {α γ : Type}
noncomputable def onNil (l : List α) (f d : γ) : γ := match l with
  | [] => f
  | _ :: _ => d
theorem onNil_ind {P : γ → List α → Prop} {l : List α} {f d : γ} (H : P f []) (h0 : P d l) : P (onNil l f d) l := by
  cases l
  · exact H
  · exact h0
noncomputable def onCons (l : List α) (f : α → List α → γ) (d : γ) : γ := match l with
  | [] => d
  | x :: r => f x r
theorem onCons_ind {P : γ → List α → Prop} {l : List α} {f : α → List α → γ} {d : γ} (H : ∀ x r, P (f x r) (x :: r)) (h0 : P d l) : P (onCons l f d) l := by
  cases l
  · exact h0
  · exact H _ _
noncomputable def on1 (l : List α) (f : α → γ) (d : γ) : γ := onCons l (fun x r => onNil r (f x) d) d
theorem on1_ind {P : γ → List α → Prop} {l : List α} {f : α → γ} {d : γ} (H : ∀ x, P (f x) [x]) (h0 : P d l) : P (on1 l f d) l := by
  rcases l with _ | ⟨x, _ | ⟨y, r⟩⟩
  · exact h0
  · exact H x
  · exact h0
noncomputable def on2 (l : List α) (f : α → α → γ) (d : γ) : γ := onCons l (fun x r => on1 r (f x) d) d
theorem on2_ind {P : γ → List α → Prop} {l : List α} {f : α → α → γ} {d : γ} (H : ∀ x y, P (f x y) [x, y]) (h0 : ∀ l, P d l) : P (on2 l f d) l := onCons_ind (fun x r => on1_ind (P := fun z r => P z (x :: r)) (H x) (h0 _)) (h0 _)
noncomputable def on3 (l : List α) (f : α → α → α → γ) (d : γ) : γ := onCons l (fun x r => on2 r (f x) d) d
theorem on3_ind {P : γ → List α → Prop} {l : List α} {f : α → α → α → γ} {d : γ} (H : ∀ x y z, P (f x y z) [x, y, z]) (h0 : ∀ l, P d l) : P (on3 l f d) l := onCons_ind (fun x r => on2_ind (P := fun z r => P z (x :: r)) (H x) fun _ => h0 _) (h0 _)
noncomputable def onSome (o : Option α) (f : α → γ) (d : γ) : γ := match o with
  | some x => f x
  | none => d
theorem onSome_ind {P : γ → Option α → Prop} {o : Option α} {f : α → γ} {d : γ} (H : ∀ x, P (f x) (some x)) (h0 : P d o) : P (onSome o f d) o := by
  cases o
  · exact h0
  · exact H _
end
theorem cond_ind {γ : Type} {P : γ → Prop} {b : Bool} {f d : γ} (H : b = true → P f) (h0 : P d) : P (cond b f d) := by
  cases b
  · exact h0
  · exact H rfl
noncomputable def onComp {γ : Type} (l : List Comprehension) (f : Expr → Expr → γ) (d : γ) : γ := on1 l (fun c => onNil c.ifs (cond (c.is_async == 0) (f c.target c.iter) d) d) d
theorem onComp_ind {γ : Type} {P : γ → List Comprehension → Prop} {l : List Comprehension} {f : Expr → Expr → γ} {d : γ} (H : ∀ t i, P (f t i) [⟨t, i, [], 0⟩]) (h0 : ∀ l, P d l) : P (onComp l f d) l :=
  on1_ind (fun ⟨t, i, ifs, a⟩ => onNil_ind (P := fun x ifs => P x [⟨t, i, ifs, a⟩]) (cond_ind (P := fun x => P x [⟨t, i, [], a⟩]) (fun (ha : (a == 0) = true) => by show P (f t i) [⟨t, i, [], a⟩]; rw [eq_of_beq ha]; exact H t i) (h0 _)) (h0 _)) (h0 _)
noncomputable def onHand {γ : Type} (e : ExceptHandler) (f : Option Expr → Option Str → List Stmt → γ) : γ := match e with
  | .ExceptHandler t n b _ => f t n b
theorem onHand_ind {γ : Type} {P : γ → ExceptHandler → Prop} {e : ExceptHandler} {f : Option Expr → Option Str → List Stmt → γ} (H : ∀ t n b p, P (f t n b) (.ExceptHandler t n b p)) : P (onHand e f) e := by
  cases e
  exact H _ _ _ _
end Mine
open PySem PySem.W PyProof.Rows
namespace Mine
structure Ctx where
  prog : Program
  w : World
  K : Frag
  mb : Str → Option Value
  d : Drawn
  os : OsState
  /-- the frames on the stack, with the ids of their names -/
  fr : List (Env × Nat)
noncomputable def Ctx.wf (X : Ctx) (fr : List (Env × Nat)) : Ctx := ⟨X.prog, X.w, X.K, X.mb, X.d, X.os, fr⟩
inductive FNs (F : Fz) (a : Addr) (f : Str → Option Value) : Prop where
  | mk (o : Obj) (es : Array DictEntry) (ep : Nat) (h : F a = some o) (hd : o.data = .dict es ep) (hs : StrKeys es) (hf : ∀ name, nsFind es name = f name)
theorem FNs.to {F F' : Fz} {a : Addr} {f : Str → Option Value} (x : FNs F a f) (h : ∀ o, F a = some o → F' a = some o) : FNs F' a f := by cases x with | mk o es ep e1 e2 e3 e4 => exact ⟨o, es, ep, h o e1, e2, e3, e4⟩
theorem FNs.at {F : Fz} {a : Addr} {f : Str → Option Value} {hp : Heap} (x : FNs F a f) (h : ∀ o, F a = some o → hp.get? a = some o) : hp.Ns a f := by cases x with | mk o es ep e1 e2 e3 e4 => exact ⟨o, es, ep, h o e1, e2, e3, e4⟩
structure Base (X : Ctx) (F : Fz) : Prop where
  K : ∀ a o, X.K.lookup a = some o → F a = some o
  mb : FNs F builtinsNs X.mb
  lim : ∃ mc, FNs F cStatics mc ∧ mc "sys.recursionlimit" = none
  bf : ∃ K₂ : Frag, (∀ a o, K₂.lookup a = some o → F a = some o) ∧ peek K₂ ⟨X.prog, X.w.params⟩ (builtinsFor mainGlobals builtinsNs) = some builtinsNs
theorem Base.mono {X : Ctx} {F F' : Fz} (b : Base X F) (hF : ∀ a o, F a = some o → F' a = some o) : Base X F' :=
  ⟨fun a o e => hF _ _ (b.K a o e), b.mb.to (hF _), b.lim.imp fun mc h => ⟨h.1.to (hF _), h.2⟩, b.bf.imp fun K h => ⟨fun a o e => hF _ _ (h.1 a o e), h.2⟩⟩
noncomputable def NsDen (n : Nat) (ρ : Rho) (F : Fz) (m : List (Str × AV)) (f : Str → Option Value) : Prop := ∀ x av, m.lookup x = some av → ∃ v, f x = some v ∧ Den n ρ F av v
noncomputable def NoKey (xs : List Value) (o : Option (List (Int × Int))) : Prop := ∀ l, o = some l → ∀ pos : Pos, ((pos.line : Int), (pos.col : Int)) ∉ l → codeAmong pos xs = none
inductive CodeH (c P : Addr) (o : Obj) : Prop where
  | mk (h : Heap) (ps ps' : Array Value) (e : h.get? c = some o) (x : h.IsCode c P ps) (y : h.TableAt c P ps')
noncomputable def tbVal (ρ : Rho) : Option Nat → Value
  | none => .none
  | some i => .ref (ρ i)
noncomputable def flVal (ρ : Rho) : Option Nat → Value
  | none => .none
  | some i => rawInt (ρ i)
inductive TabO (F : Fz) (a c : Addr) (ps : Array Value) (ks : Option (List (Int × Int))) (o : Obj) : Prop where
  | mk (more : Array Value) (oc : Obj) (e : o = oTab (ps ++ more)) (hc : F c = some oc) (hh : CodeH c a oc) (ht : TriplesOk (ps ++ more).toList) (hk : NoKey (ps ++ more).toList ks)
inductive ExcO (n : Nat) (ρ : Rho) (C : Addr) (d t : Option Nat) (o : Obj) : Prop where
  | mk (vs : Array Value) (e : o = oExc C (d.map ρ) vs) (h1 : vs[1]? = some (tbVal ρ t)) (hd : ∀ i, d = some i → i < n) (ht : ∀ i, t = some i → i < n)
inductive NsO (n : Nat) (ρ : Rho) (F : Fz) (m : List (Str × AV)) (o : Obj) : Prop where
  | mk (f : Str → Option Value) (es : Array DictEntry) (ep : Nat) (hd : o.data = .dict es ep) (hs : StrKeys es) (hf : ∀ name, nsFind es name = f name) (d : NsDen n ρ F m f)
noncomputable def CellO (n : Nat) (ρ : Rho) (F : Fz) (a : Addr) : Cell → Obj → Prop
  | .list xs, o => ∃ vs k, o = oList vs k ∧ Dens n ρ F xs vs
  | .ns m, o => NsO n ρ F m o
  | .dict m, o => ∃ es k, o = oDict es k ∧ DenEs n ρ F m es
  | .sinst C d xs, o => ∃ vs, o = oSlo C (ρ d) vs ∧ d < n ∧ ODens n ρ F xs vs
  | .box v, o => ∃ w, o.data = .cell w ∧ ODen n ρ F v w
  | .inst C d, o => o = oInst C (ρ d) ∧ d < n
  | .liter l k, o => o = oIter (.ref (ρ l)) k ∧ l < n
  | .lend, o => ∃ k, o = oIter .none k
  | .tab c ps ks, o => TabO F a c ps ks o
  | .raw r, o => o = r
  | .exc C d t, o => ExcO n ρ C d t o
  | .tb fl, o => ∃ ts, o.data = .fields ts ∧ ts[3]? = some (flVal ρ fl) ∧ ∀ i, fl = some i → i < n
  | .rng x y z, o => ∃ t u v, o = { cls := .type "range", dict := none, data := .fields #[.int x t, .int y u, .int z v], slots := #[] }
  | .rit x left step, o => o = { cls := .type "range_iterator", dict := none, data := .fields #[rawInt x, rawInt left, rawInt step], slots := #[] }
  | .wl l k, o => (o.cls = .type "list_iterator" ∧ o.data = .fields #[.ref (ρ l), .int k 0]) ∧ l < n
  | .enum it k, o => ∃ old, o = { cls := .type "enumerate", dict := none, data := .fields #[.none, .bool false, .ref (ρ it), rawInt k, .none, old], slots := #[] } ∧ it < n
  | .any, _ => True
noncomputable def CellAt (n : Nat) (ρ : Rho) (F : Fz) (h : Heap) (a : Addr) (c : Cell) : Prop := ∃ o, h.get? a = some o ∧ CellO n ρ F a c o
section
variable {n n' N : Nat} {ρ ρ' : Rho} {F F' : Fz}
theorem tbVal_same {t : Option Nat} (h : ∀ i, t = some i → ρ' i = ρ i) : tbVal ρ' t = tbVal ρ t := by
  cases t with
  | none => rfl
  | some i => exact congrArg Value.ref (h i rfl)
theorem flVal_same {t : Option Nat} (h : ∀ i, t = some i → ρ' i = ρ i) : flVal ρ' t = flVal ρ t := by
  cases t with
  | none => rfl
  | some i => exact congrArg (fun x : Nat => rawInt x) (h i rfl)
theorem dMap_same {t : Option Nat} (h : ∀ i, t = some i → ρ' i = ρ i) : t.map ρ' = t.map ρ := by
  cases t with
  | none => rfl
  | some i => exact congrArg some (h i rfl)
theorem TabO.mono {a c : Addr} {ps : Array Value} {ks : Option (List (Int × Int))} {o : Obj} (x : TabO F a c ps ks o) (hF : ∀ a o, F a = some o → F' a = some o) : TabO F' a c ps ks o := by cases x with | mk more oc e hc hh ht hk => exact ⟨more, oc, e, hF _ _ hc, hh, ht, hk⟩
theorem ExcO.to {C : Addr} {d t : Option Nat} {o : Obj} (x : ExcO n ρ C d t o) (hd : ∀ i, d = some i → i < n → i < n' ∧ ρ' i = ρ i) (ht : ∀ i, t = some i → i < n → i < n' ∧ ρ' i = ρ i) : ExcO n' ρ' C d t o := by
  cases x with | mk vs e h1 h2 h3 => exact ⟨vs, by rw [dMap_same fun i h => (hd i h (h2 i h)).2]; exact e, by rw [tbVal_same fun i h => (ht i h (h3 i h)).2]; exact h1, fun i h => (hd i h (h2 i h)).1, fun i h => (ht i h (h3 i h)).1⟩
theorem NsO.to {m : List (Str × AV)} {o : Obj} (x : NsO n ρ F m o) (h : ∀ y av v, m.lookup y = some av → Den n ρ F av v → Den n' ρ' F' av v) : NsO n' ρ' F' m o := by
  cases x with | mk f es ep hd hs hf d => exact ⟨f, es, ep, hd, hs, hf, fun y av e => (d y av e).imp fun v hv => ⟨hv.1, h y av v e hv.2⟩⟩
theorem mem_of_assoc {κ β : Type} [BEq κ] [LawfulBEq κ] : ∀ {l : List (κ × β)} {x : κ} {b : β}, l.lookup x = some b → (x, b) ∈ l
  | [], _, _, h => noneOf h
  | p :: l, x, b, h => by
    rw [List.lookup_cons] at h
    cases e : x == p.1 with
    | true => rw [e] at h; rw [← Option.some.inj h, eq_of_beq e]; exact .head _
    | false => rw [e] at h; exact .tail _ (mem_of_assoc h)
noncomputable def UndC (N : Nat) : Cell → Prop
  | .list xs => ∀ x ∈ xs, Und N x
  | .ns m => ∀ p ∈ m, Und N p.2
  | .dict m => ∀ p ∈ m, Und N p.2
  | .box none => True
  | .box (some v) => Und N v
  | .inst _ d => d < N
  | .sinst _ d xs => d < N ∧ ∀ x, some x ∈ xs → Und N x
  | .liter l _ => l < N
  | .exc _ d t => (∀ i, d = some i → i < N) ∧ ∀ i, t = some i → i < N
  | .tb fl => ∀ i, fl = some i → i < N
  | .wl l _ => l < N
  | .enum it _ => it < N
  | _ => True
theorem CellO.mono {a : Addr} {c : Cell} {o : Obj} (hn : n ≤ n') (hρ : ∀ i, i < n → ρ' i = ρ i) (hF : ∀ a o, F a = some o → F' a = some o) (x : CellO n ρ F a c o) : CellO n' ρ' F' a c o := by
  have lt : ∀ {i}, i < n → i < n' ∧ ρ' i = ρ i := fun h => ⟨Nat.lt_of_lt_of_le h hn, hρ _ h⟩
  have dm : ∀ av v, Den n ρ F av v → Den n' ρ' F' av v := fun _ _ => Den.mono hn hρ hF
  cases c with
  | list xs => exact x.imp fun vs => Exists.imp fun k => And.imp id (Dens.imp dm)
  | ns m => exact NsO.to x fun _ _ _ _ => dm _ _
  | dict m => exact x.imp fun vs => Exists.imp fun k => And.imp id (DenEs.imp dm)
  | sinst C d xs => exact x.imp fun vs h => ⟨by rw [(lt h.2.1).2]; exact h.1, (lt h.2.1).1, ODens.imp dm h.2.2⟩
  | box v => exact x.imp fun w => And.imp id (ODen.imp dm)
  | inst C d => exact ⟨by rw [(lt x.2).2]; exact x.1, (lt x.2).1⟩
  | liter l k => exact ⟨by rw [(lt x.2).2]; exact x.1, (lt x.2).1⟩
  | tab c ps ks => exact TabO.mono x hF
  | exc C d t => exact ExcO.to x (fun _ _ => lt) fun _ _ => lt
  | tb fl => exact x.imp fun ts h => ⟨h.1, by rw [flVal_same fun i e => (lt (h.2.2 i e)).2]; exact h.2.1, fun i e => (lt (h.2.2 i e)).1⟩
  | wl l k => exact ⟨by rw [(lt x.2).2]; exact x.1, (lt x.2).1⟩
  | enum it k => exact x.imp fun old h => ⟨by rw [(lt h.2).2]; exact h.1, (lt h.2).1⟩
  | _ => exact x
theorem CellO.under {a : Addr} {c : Cell} {o : Obj} (hρ : ∀ i, i < N → ρ' i = ρ i) (u : UndC N c) (x : CellO n ρ F a c o) : CellO N ρ' F a c o := by
  cases c with
  | list xs => exact x.imp fun vs => Exists.imp fun k => And.imp id (Dens.under hρ u)
  | ns m => exact NsO.to x fun y av v e => Den.under hρ (u _ (mem_of_assoc e))
  | dict m => exact x.imp fun vs => Exists.imp fun k => And.imp id (DenEs.under hρ u)
  | sinst C d xs => exact x.imp fun vs h => ⟨by rw [hρ d u.1]; exact h.1, u.1, ODens.under hρ u.2 h.2.2⟩
  | box v => cases v with
    | none => exact x
    | some av => exact x.imp fun w => And.imp id (Exists.imp fun v => And.imp id (Den.under hρ u))
  | inst C d => exact ⟨by rw [hρ d u]; exact x.1, u⟩
  | liter l k => exact ⟨by rw [hρ l u]; exact x.1, u⟩
  | exc C d t => exact ExcO.to x (fun i e _ => ⟨u.1 i e, hρ i (u.1 i e)⟩) fun i e _ => ⟨u.2 i e, hρ i (u.2 i e)⟩
  | tb fl => exact x.imp fun ts h => ⟨h.1, by rw [flVal_same fun i e => hρ i (u i e)]; exact h.2.1, u⟩
  | wl l k => exact ⟨by rw [hρ l u]; exact x.1, u⟩
  | enum it k => exact x.imp fun old h => ⟨by rw [hρ it u]; exact h.1, u⟩
  | _ => exact x
end
noncomputable def isNs (c : Cell) : Bool := onCNs c (fun _ => true) false
noncomputable def St.get (σ : St) (i : Nat) : Option Cell := σ.objs.lookup i
noncomputable def putC : List (Nat × Cell) → Nat → Cell → List (Nat × Cell)
  | [], _, _ => []
  | p :: r, i, c => match Nat.beq p.1 i with
    | true => (i, c) :: r
    | false => p :: putC r i c
noncomputable def St.set (σ : St) (i : Nat) (c : Cell) : St := ⟨σ.n, putC σ.objs i c⟩
noncomputable def St.push (σ : St) (c : Cell) : St := ⟨σ.n + 1, (σ.n, c) :: σ.objs⟩
noncomputable def St.cut (σ : St) (N : Nat) : St := ⟨N, σ.objs.filter fun p => Nat.blt p.1 N⟩
noncomputable def St.sel (σ : St) (N : Nat) (l : List Nat) : St := ⟨σ.n, σ.objs.filter fun p => Nat.blt p.1 N || l.any (Nat.beq p.1)⟩
theorem beq_dec (a b : Nat) : Nat.beq a b = (a == b) := Bool.eq_iff_iff.mpr ((Iff.of_eq (Nat.beq_eq)).trans beq_iff_eq.symm)
theorem putC_look (i j : Nat) (c : Cell) : ∀ l : List (Nat × Cell), (putC l i c).lookup j = if j == i then (l.lookup i).map fun _ => c else l.lookup j
  | [] => by cases j == i <;> rfl
  | p :: l => by
    unfold putC
    rw [beq_dec, List.lookup_cons, List.lookup_cons]
    cases e : p.1 == i with
    | true =>
      have e1 := eq_of_beq e
      subst e1
      rw [beq_self_eq_true]
      show List.lookup j ((p.1, c) :: l) = _
      rw [List.lookup_cons]
      cases j == p.1 <;> rfl
    | false =>
      have e2 : (i == p.1) = false := by rw [Bool.beq_comm]; exact e
      show List.lookup j (p :: putC l i c) = _
      rw [List.lookup_cons, putC_look i j c l, e2]
      cases h : j == i with
      | true => rw [eq_of_beq h, e2]
      | false => cases j == p.1 <;> rfl
theorem filter_look (f : Nat → Bool) (j : Nat) : ∀ l : List (Nat × Cell), (l.filter fun p => f p.1).lookup j = if f j then l.lookup j else none
  | [] => by cases f j <;> rfl
  | p :: l => by
    rw [List.filter_cons, List.lookup_cons]
    cases e : f p.1 with
    | true =>
      rw [if_pos rfl, List.lookup_cons, filter_look f j l]
      cases h : j == p.1 with
      | true => rw [eq_of_beq h, e]; rfl
      | false => rfl
    | false =>
      rw [if_neg Bool.false_ne_true, filter_look f j l]
      cases h : j == p.1 with
      | true => rw [eq_of_beq h, e]; rfl
      | false => rfl
theorem St.get_set_self {σ : St} {i : Nat} {c₀ : Cell} (c : Cell) (h : σ.get i = some c₀) : (σ.set i c).get i = some c := by
  show (putC σ.objs i c).lookup i = _
  rw [putC_look, beq_self_eq_true, if_pos rfl, show σ.objs.lookup i = some c₀ from h]; rfl
theorem St.get_set_ne (σ : St) {i j : Nat} (c : Cell) (h : j ≠ i) : (σ.set i c).get j = σ.get j := by
  show (putC σ.objs i c).lookup j = _
  rw [putC_look, if_neg (fun e => h (eq_of_beq e))]; rfl
theorem St.get_set {σ : St} {i j : Nat} {c d : Cell} (h : (σ.set i c).get j = some d) : (j = i ∧ d = c) ∨ (j ≠ i ∧ σ.get j = some d) := by
  by_cases e : j = i
  · refine .inl ⟨e, ?_⟩
    have h' : (putC σ.objs i c).lookup j = some d := h
    rw [putC_look, e, beq_self_eq_true, if_pos rfl] at h'
    exact (Option.map_eq_some_iff.mp h').elim fun _ h => h.2.symm
  · exact .inr ⟨e, St.get_set_ne σ c e ▸ h⟩
theorem St.get_push_self (σ : St) (c : Cell) : (σ.push c).get σ.n = some c := by
  show List.lookup σ.n ((σ.n, c) :: σ.objs) = _
  rw [List.lookup_cons, beq_self_eq_true]
theorem St.get_push_lt (σ : St) {i : Nat} (c : Cell) (h : i < σ.n) : (σ.push c).get i = σ.get i := by
  show List.lookup i ((σ.n, c) :: σ.objs) = _
  rw [List.lookup_cons, beq_eq_false_iff_ne.mpr (Nat.ne_of_lt h)]; rfl
theorem St.get_push {σ : St} {i : Nat} {c d : Cell} (h : (σ.push c).get i = some d) : (i = σ.n ∧ d = c) ∨ (i ≠ σ.n ∧ σ.get i = some d) := by
  have h' : List.lookup i ((σ.n, c) :: σ.objs) = some d := h
  rw [List.lookup_cons] at h'
  cases e : i == σ.n with
  | true => rw [e] at h'; exact .inl ⟨eq_of_beq e, (Option.some.inj h').symm⟩
  | false => rw [e] at h'; exact .inr ⟨ne_of_beq_false e, h'⟩
structure Inv (X : Ctx) (ρ : Rho) (F : Fz) (σ : St) (s : Shared) : Prop where
  ids : ∀ i c, σ.get i = some c → i < σ.n
  inj : ∀ i j c d, σ.get i = some c → σ.get j = some d → ρ i = ρ j → i = j
  cell : ∀ i c, σ.get i = some c → CellAt σ.n ρ F s.heap (ρ i) c
  off : ∀ i c, σ.get i = some c → F (ρ i) = none
  froz : ∀ a o, F a = some o → s.heap.get? a = some o
  base : Base X F
  drawn : s.drawn = X.d
  os : s.os = X.os
  gens : AllBare s.gens
  frs : ∀ e ∈ X.fr, (e.1.scope.kind = .function ∧ e.1.frame = some (ρ e.2)) ∧ ∃ c, σ.get e.2 = some c ∧ isNs c = true
structure Stp (ρ : Rho) (F : Fz) (σ : St) (s : Shared) (ρ' : Rho) (F' : Fz) (σ' : St) (s' : Shared) : Prop where
  le : σ.n ≤ σ'.n
  same : ∀ i, i < σ.n → ρ' i = ρ i
  sub : ∀ a o, F a = some o → F' a = some o
  keep : ∀ x o, s.heap.get? x = some o → (∀ i c, σ.get i = some c → ρ i ≠ x) → s'.heap.get? x = some o
  live : ∀ x o, s.heap.get? x = some o → ∃ o', s'.heap.get? x = some o'
  new : ∀ i c, σ'.get i = some c → (i < σ.n ∧ ∃ d, σ.get i = some d) ∨ s.heap.get? (ρ' i) = none
  gens : ∀ (i : Nat) x, s.gens[i]? = some x → s'.gens[i]? = some x
theorem Stp.refl (ρ : Rho) (F : Fz) {σ : St} {s : Shared} (hi : ∀ i c, σ.get i = some c → i < σ.n) : Stp ρ F σ s ρ F σ s :=
  ⟨Nat.le_refl _, fun _ _ => rfl, fun _ _ e => e, fun _ _ e _ => e, fun _ o e => ⟨o, e⟩, fun i c h => .inl ⟨hi i c h, c, h⟩, fun _ _ e => e⟩
theorem Heap.gone {h h' : Heap} {a : Addr} (k : ∀ o, h.get? a = some o → ∃ o', h'.get? a = some o') (e : h'.get? a = none) : h.get? a = none := by
  cases q : h.get? a with
  | none => rfl
  | some o => exact (k o q).elim fun _ q => noneOf (e.symm.trans q)
theorem Stp.trans {ρ ρ₁ ρ₂ : Rho} {F F₁ F₂ : Fz} {σ σ₁ σ₂ : St} {s s₁ s₂ : Shared} (a : Stp ρ F σ s ρ₁ F₁ σ₁ s₁) (b : Stp ρ₁ F₁ σ₁ s₁ ρ₂ F₂ σ₂ s₂) : Stp ρ F σ s ρ₂ F₂ σ₂ s₂ where
  le := Nat.le_trans a.le b.le
  same i h := (b.same i (Nat.lt_of_lt_of_le h a.le)).trans (a.same i h)
  sub x o e := b.sub _ _ (a.sub _ _ e)
  keep x o e hx := b.keep x o (a.keep x o e hx) fun i c hi hpx => (a.new i c hi).elim (fun ⟨hlt, d, hd⟩ => hx i d hd (by rw [← a.same _ hlt]; exact hpx)) fun hn => noneOf (hn.symm.trans (hpx ▸ e))
  live x o e := (a.live x o e).elim fun o' e' => b.live x o' e'
  new i c hi := (b.new i c hi).elim (fun ⟨hlt, d, hd⟩ => (a.new i d hd).imp id fun hn => by rw [b.same _ hlt]; exact hn) fun hn => .inr (Heap.gone (a.live _) hn)
  gens i x e := b.gens i x (a.gens i x e)
section
variable {ρ ρ' : Rho} {F F' : Fz} {σ σ' : St} {s s' : Shared}
theorem Den.step {av : AV} {v : Value} (x : Den σ.n ρ F av v) (st : Stp ρ F σ s ρ' F' σ' s') : Den σ'.n ρ' F' av v := x.mono st.le st.same st.sub
theorem Dens.step {av : List AV} {v : List Value} (x : Dens σ.n ρ F av v) (st : Stp ρ F σ s ρ' F' σ' s') : Dens σ'.n ρ' F' av v := x.mono st.le st.same st.sub
end
section
variable {X : Ctx} {ρ ρ' : Rho} {F : Fz} {σ : St} {s : Shared} {i j : Nat} {c d : Cell}
theorem CellAt.to {n n' : Nat} {F' : Fz} {h h' : Heap} {a : Addr} (x : CellAt n ρ F h a c) (hh : ∀ o, h.get? a = some o → h'.get? a = some o) (hc : ∀ o, CellO n ρ F a c o → CellO n' ρ' F' a c o) : CellAt n' ρ' F' h' a c := x.imp fun o h => ⟨hh o h.1, hc o h.2⟩
theorem CellAt.mono {n n' : Nat} {F' : Fz} {h h' : Heap} {a : Addr} (x : CellAt n ρ F h a c) (hh : ∀ o, h.get? a = some o → h'.get? a = some o) (hn : n ≤ n') (hρ : ∀ i, i < n → ρ' i = ρ i) (hF : ∀ a o, F a = some o → F' a = some o) : CellAt n' ρ' F' h' a c := x.to hh fun _ => CellO.mono hn hρ hF
theorem CellAt.keep {n : Nat} {h h' : Heap} {a : Addr} (x : CellAt n ρ F h a c) (hh : ∀ o, h.get? a = some o → h'.get? a = some o) : CellAt n ρ F h' a c := x.to hh fun _ h => h
theorem CellAt.live {n : Nat} {h : Heap} {a : Addr} (x : CellAt n ρ F h a c) : ∃ o, h.get? a = some o := x.imp fun _ h => h.1
theorem CellAt.ex {n : Nat} {h : Heap} {a : Addr} {P : Prop} (x : CellAt n ρ F h a c) (H : ∀ o, h.get? a = some o → CellO n ρ F a c o → P) : P := x.elim fun o q => H o q.1 q.2
theorem Inv.at (I : Inv X ρ F σ s) (h : σ.get i = some c) : CellAt σ.n ρ F s.heap (ρ i) c := I.cell i c h
theorem Inv.lt (I : Inv X ρ F σ s) (h : σ.get i = some c) : i < σ.n := I.ids i c h
theorem Inv.ne (I : Inv X ρ F σ s) (hi : σ.get i = some c) (hj : σ.get j = some d) (h : i ≠ j) : ρ i ≠ ρ j := fun e => h (I.inj i j c d hi hj e)
theorem Inv.looksB (I : Inv X ρ F σ s) : Looks (model X.prog X.w) s.heap (builtinsFor mainGlobals builtinsNs) builtinsNs :=
  I.base.bf.elim fun _ h => Looks.of_peek (M := model X.prog X.w) (fun a o e => I.froz _ _ (h.1 a o e)) h.2
theorem Inv.Kin (I : Inv X ρ F σ s) : X.K.In s.heap := fun a o e => I.froz _ _ (I.base.K a o e)
theorem Inv.ns (I : Inv X ρ F σ s) {a : Addr} {f : Str → Option Value} (x : FNs F a f) : s.heap.Ns a f := x.at (I.froz _)
theorem Inv.limit (I : Inv X ρ F σ s) : s.heap.NoLimit := I.base.lim.imp fun _ h => ⟨I.ns h.1, h.2⟩
theorem Inv.notF (I : Inv X ρ F σ s) {a : Addr} {o : Obj} (h : F a = some o) (hi : σ.get i = some c) : ρ i ≠ a := fun e => noneOf ((I.off i c hi).symm.trans (e ▸ h))
theorem Inv.not0 (I : Inv X ρ F σ s) {a : Addr} (h : s.heap.get? a = none) (hi : σ.get i = some c) : ρ i ≠ a := fun e => (I.at hi).live.elim fun _ q => noneOf (h.symm.trans (e ▸ q))
theorem Inv.notF0 (I : Inv X ρ F σ s) {a : Addr} (h : s.heap.get? a = none) : F a = none := by
  cases e : F a with
  | none => rfl
  | some o => exact noneOf (h.symm.trans (I.froz a o e))
theorem Inv.frlt (I : Inv X ρ F σ s) : ∀ e ∈ X.fr, e.2 < σ.n := fun e he => (I.frs e he).2.elim fun c h => I.ids _ _ h.1
theorem Inv.atL (I : Inv X ρ F σ s) {xs : List AV} (h : σ.get i = some (.list xs)) : ∃ vs k, s.heap.get? (ρ i) = some (oList vs k) ∧ Dens σ.n ρ F xs vs := (I.at h).elim fun o h => Exists.imp (fun vs => Exists.imp fun k (q : o = oList vs k ∧ Dens σ.n ρ F xs vs) => ⟨q.1 ▸ h.1, q.2⟩) h.2
theorem Inv.atNs (I : Inv X ρ F σ s) {m : List (Str × AV)} (h : σ.get i = some (.ns m)) : ∃ f, s.heap.Ns (ρ i) f ∧ NsDen σ.n ρ F m f := (I.at h).elim fun o h => by
  cases h.2 with | mk f es ep e1 e2 e3 d => exact ⟨f, ⟨o, es, ep, h.1, e1, e2, e3⟩, d⟩
theorem Inv.atD (I : Inv X ρ F σ s) {m : List (Str × AV)} (h : σ.get i = some (.dict m)) : ∃ es k, s.heap.get? (ρ i) = some (oDict es k) ∧ DenEs σ.n ρ F m es := (I.at h).elim fun o h => Exists.imp (fun es => Exists.imp fun k (q : o = oDict es k ∧ DenEs σ.n ρ F m es) => ⟨q.1 ▸ h.1, q.2⟩) h.2
theorem Inv.atB (I : Inv X ρ F σ s) {v : Option AV} (h : σ.get i = some (.box v)) : ∃ w, s.heap.IsCell (ρ i) w ∧ ODen σ.n ρ F v w := (I.at h).elim fun o h => Exists.imp (fun w (q : o.data = .cell w ∧ ODen σ.n ρ F v w) => ⟨⟨o, h.1, q.1⟩, q.2⟩) h.2
theorem Inv.atI (I : Inv X ρ F σ s) {C : Addr} {e : Nat} (h : σ.get i = some (.inst C e)) : s.heap.get? (ρ i) = some (oInst C (ρ e)) ∧ e < σ.n := (I.at h).elim fun o h => (fun (q : o = oInst C (ρ e) ∧ e < σ.n) => ⟨q.1 ▸ h.1, q.2⟩) h.2
theorem Inv.atS (I : Inv X ρ F σ s) {C : Addr} {e : Nat} {xs : List (Option AV)} (h : σ.get i = some (.sinst C e xs)) : ∃ vs, s.heap.get? (ρ i) = some (oSlo C (ρ e) vs) ∧ e < σ.n ∧ ODens σ.n ρ F xs vs := (I.at h).elim fun o h => Exists.imp (fun vs (q : o = oSlo C (ρ e) vs ∧ e < σ.n ∧ ODens σ.n ρ F xs vs) => ⟨q.1 ▸ h.1, q.2⟩) h.2
theorem Inv.atIt (I : Inv X ρ F σ s) {l k : Nat} (h : σ.get i = some (.liter l k)) : s.heap.get? (ρ i) = some (oIter (.ref (ρ l)) k) ∧ l < σ.n := (I.at h).elim fun o h => (fun (q : o = oIter (.ref (ρ l)) k ∧ l < σ.n) => ⟨q.1 ▸ h.1, q.2⟩) h.2
theorem Inv.atEnd (I : Inv X ρ F σ s) (h : σ.get i = some (.lend)) : ∃ k, s.heap.get? (ρ i) = some (oIter .none k) := (I.at h).elim fun o h => Exists.imp (fun k (q : o = oIter .none k) => q ▸ h.1) h.2
theorem Inv.atRaw (I : Inv X ρ F σ s) {r : Obj} (h : σ.get i = some (.raw r)) : s.heap.get? (ρ i) = some r := (I.at h).elim fun o h => (fun (q : o = r) => q ▸ h.1) h.2
theorem Inv.atX (I : Inv X ρ F σ s) {C : Addr} {e t : Option Nat} (h : σ.get i = some (.exc C e t)) : ∃ vs, s.heap.get? (ρ i) = some (oExc C (e.map ρ) vs) ∧ vs[1]? = some (tbVal ρ t) ∧ (∀ i, e = some i → i < σ.n) ∧ ∀ i, t = some i → i < σ.n := (I.at h).elim fun o h => by
  cases h.2 with | mk vs e h1 h2 h3 => exact ⟨vs, e ▸ h.1, h1, h2, h3⟩
theorem Inv.atTb (I : Inv X ρ F σ s) {fl : Option Nat} (h : σ.get i = some (.tb fl)) : ∃ o ts, s.heap.get? (ρ i) = some o ∧ o.data = .fields ts ∧ ts[3]? = some (flVal ρ fl) ∧ ∀ i, fl = some i → i < σ.n := (I.at h).imp fun o h => Exists.imp (fun ts q => ⟨h.1, q⟩) h.2
theorem Inv.atRng (I : Inv X ρ F σ s) {x y z : Int} (h : σ.get i = some (.rng x y z)) : ∃ t u v, IsRange s.heap (ρ i) x y z t u v := (I.at h).elim fun o h => Exists.imp (fun t => Exists.imp fun u => Exists.imp fun v (q : o = { cls := .type "range", dict := none, data := .fields #[.int x t, .int y u, .int z v], slots := #[] }) => h.1.trans (congrArg some q)) h.2
theorem Inv.atRit (I : Inv X ρ F σ s) {x y z : Int} (h : σ.get i = some (.rit x y z)) : IsRangeIter s.heap (ρ i) x y z := (I.at h).elim fun o h => (fun (q : o = { cls := .type "range_iterator", dict := none, data := .fields #[rawInt x, rawInt y, rawInt z], slots := #[] }) => h.1.trans (congrArg some q)) h.2
theorem Inv.atWl (I : Inv X ρ F σ s) {l k : Nat} (h : σ.get i = some (.wl l k)) : s.heap.IsListIter (ρ i) (ρ l) k ∧ l < σ.n := (I.at h).elim fun o h => ⟨⟨o, h.1, h.2.1⟩, h.2.2⟩
theorem Inv.atEn (I : Inv X ρ F σ s) {it k : Nat} (h : σ.get i = some (.enum it k)) : ∃ old, IsEnum s.heap (ρ i) (ρ it) (k : Int) old ∧ it < σ.n := (I.at h).elim fun o h => Exists.imp (fun old (q : o = { cls := .type "enumerate", dict := none, data := .fields #[.none, .bool false, .ref (ρ it), rawInt k, .none, old], slots := #[] } ∧ it < σ.n) => ⟨h.1.trans (congrArg some q.1), q.2⟩) h.2
section
variable {n : Nat} {h : Heap} {a : Addr}
theorem CellAt.ofNs {m : List (Str × AV)} {f : Str → Option Value} (x : h.Ns a f) (d : NsDen n ρ F m f) : CellAt n ρ F h a (.ns m) := x.elim fun o x => x.elim fun es x => x.elim fun ep x => ⟨o, x.1, f, es, ep, x.2.1, x.2.2.1, x.2.2.2, d⟩
theorem CellAt.ofBox {v : Option AV} {w : Option Value} (x : h.IsCell a w) (d : ODen n ρ F v w) : CellAt n ρ F h a (.box v) := x.elim fun o x => ⟨o, x.1, w, x.2, d⟩
theorem CellAt.ofL {xs : List AV} {vs : List Value} {k : Nat} (x : h.get? a = some (oList vs k)) (d : Dens n ρ F xs vs) : CellAt n ρ F h a (.list xs) := ⟨_, x, vs, k, rfl, d⟩
theorem CellAt.ofD {xs : List (Str × AV)} {vs : List DictEntry} {k : Nat} (x : h.get? a = some (oDict vs k)) (d : DenEs n ρ F xs vs) : CellAt n ρ F h a (.dict xs) := ⟨_, x, vs, k, rfl, d⟩
theorem CellAt.ofIt {l k : Nat} (x : h.get? a = some (oIter (.ref (ρ l)) k)) (d : l < n) : CellAt n ρ F h a (.liter l k) := ⟨_, x, rfl, d⟩
theorem CellAt.ofEnd {k : Int} (x : h.get? a = some (oIter .none k)) : CellAt n ρ F h a .lend := ⟨_, x, k, rfl⟩
theorem CellAt.ofWl {l k : Nat} (x : h.IsListIter a (ρ l) k) (d : l < n) : CellAt n ρ F h a (.wl l k) := x.elim fun o x => ⟨o, x.1, x.2, d⟩
end
theorem Inv.toks (I : Inv X ρ F σ s) (t : Nat) : Inv X ρ F σ { s with toks := t } := ⟨I.ids, I.inj, I.cell, I.off, I.froz, I.base, I.drawn, I.os, I.gens, I.frs⟩
theorem Stp.toks (hi : ∀ i c, σ.get i = some c → i < σ.n) (t : Nat) : Stp ρ F σ s ρ F σ { s with toks := t } :=
  ⟨Nat.le_refl _, fun _ _ => rfl, fun _ _ e => e, fun _ _ e _ => e, fun _ o e => ⟨o, e⟩, fun i c h => .inl ⟨hi i c h, c, h⟩, fun _ _ e => e⟩
theorem Inv.still (I : Inv X ρ F σ s) {F' : Fz} {s' : Shared} (hF : ∀ a o, F a = some o → F' a = some o) (hf : ∀ a o, F' a = some o → s'.heap.get? a = some o) (ho : ∀ i c, σ.get i = some c → F' (ρ i) = none) (hk : ∀ b o, s.heap.get? b = some o → s'.heap.get? b = some o) (h1 : s'.drawn = s.drawn) (h2 : s'.os = s.os) (h3 : AllBare s'.gens) (h4 : ∀ (i : Nat) x, s.gens[i]? = some x → s'.gens[i]? = some x) :
    Inv X ρ F' σ s' ∧ Stp ρ F σ s ρ F' σ s' :=
  ⟨⟨I.ids, I.inj, fun i c h => (I.cell i c h).mono (hk _) (Nat.le_refl _) (fun _ _ => rfl) hF, ho, hf, I.base.mono hF, h1.trans I.drawn, h2.trans I.os, h3, I.frs⟩, ⟨Nat.le_refl _, fun _ _ => rfl, hF, fun x o e _ => hk _ _ e, fun x o e => ⟨o, hk _ _ e⟩, fun i c h => .inl ⟨I.ids i c h, c, h⟩, h4⟩⟩
theorem Inv.grow (I : Inv X ρ F σ s) {h' : Heap} (hk : ∀ b o, s.heap.get? b = some o → h'.get? b = some o) (t : Nat) : Inv X ρ F σ { s with heap := h', toks := t } ∧ Stp ρ F σ s ρ F σ { s with heap := h', toks := t } :=
  I.still (fun _ _ h => h) (fun a o e => hk _ _ (I.froz a o e)) I.off hk rfl rfl I.gens fun _ _ e => e
noncomputable def Fz.put (F : Fz) (a : Addr) (o : Obj) : Fz := fun b => if b = a then some o else F b
theorem Inv.freezeH (I : Inv X ρ F σ s) {h' : Heap} {a : Addr} {o : Obj} (hk : ∀ b o, s.heap.get? b = some o → h'.get? b = some o) (ho : h'.get? a = some o) (hl : ∀ i c, σ.get i = some c → ρ i ≠ a) (t : Nat) :
    Inv X ρ (F.put a o) σ { s with heap := h', toks := t } ∧ Stp ρ F σ s ρ (F.put a o) σ { s with heap := h', toks := t } := by
  refine I.still (fun b x e => ?_) (fun b x e => ?_) (fun i c h => ?_) hk rfl rfl I.gens fun _ _ e => e
  · unfold Fz.put
    by_cases q : b = a
    · rw [if_pos q, ← ho, q.symm]; exact hk _ _ (I.froz _ _ e)
    · rw [if_neg q]; exact e
  · unfold Fz.put at e
    by_cases q : b = a
    · rw [if_pos q] at e; rw [q, ← e]; exact ho
    · rw [if_neg q] at e; exact hk _ _ (I.froz b x e)
  · unfold Fz.put; rw [if_neg (hl i c h)]; exact I.off i c h
theorem Inv.freeze (I : Inv X ρ F σ s) {h' : Heap} {a : Addr} {o : Obj} (ha : s.heap.get? a = none) (hk : ∀ b o, s.heap.get? b = some o → h'.get? b = some o) (ho : h'.get? a = some o) (t : Nat) :
    Inv X ρ (F.put a o) σ { s with heap := h', toks := t } ∧ Stp ρ F σ s ρ (F.put a o) σ { s with heap := h', toks := t } := I.freezeH hk ho (fun _ _ h => I.not0 ha h) t
theorem Inv.freezeOld (I : Inv X ρ F σ s) {a : Addr} {o : Obj} (h : s.heap.get? a = some o) (hl : ∀ i c, σ.get i = some c → ρ i ≠ a) : Inv X ρ (F.put a o) σ s ∧ Stp ρ F σ s ρ (F.put a o) σ s := I.freezeH (fun _ _ e => e) h hl s.toks
theorem Inv.turn (I : Inv X ρ F σ s) {c' : Cell} (hi : σ.get i = some c) {s' : Shared} (hk : Heap.ExtBut (ρ i) s.heap s'.heap) (hc : CellAt σ.n ρ F s'.heap (ρ i) c') (hns : (!isNs c || isNs c') = true) (h1 : s'.drawn = s.drawn) (h2 : s'.os = s.os) (h3 : AllBare s'.gens) (h4 : ∀ (i : Nat) x, s.gens[i]? = some x → s'.gens[i]? = some x) :
    Inv X ρ F (σ.set i c') s' ∧ Stp ρ F σ s ρ F (σ.set i c') s' := by
  have old : ∀ j d, (σ.set i c').get j = some d → ∃ d', σ.get j = some d' := fun j d h => (St.get_set h).elim (fun q => ⟨c, q.1 ▸ hi⟩) fun q => ⟨d, q.2⟩
  have ne : ∀ {j d}, j ≠ i → σ.get j = some d → ∀ o, s.heap.get? (ρ j) = some o → s'.heap.get? (ρ j) = some o := fun hj hd o e => hk _ _ (I.ne hd hi hj) e
  refine ⟨⟨fun j d h => (old j d h).elim fun d' h => I.ids j d' h, fun j k d e hj hk' => (old j d hj).elim fun d' hj => (old k e hk').elim fun e' hk' => I.inj j k d' e' hj hk', fun j d h => ?_, fun j d h => (old j d h).elim fun d' h => I.off j d' h, fun a o e => hk _ _ (I.notF e hi).symm (I.froz a o e), I.base, h1.trans I.drawn, h2.trans I.os, h3, fun e he => ⟨(I.frs e he).1, ?_⟩⟩,
    ⟨Nat.le_refl _, fun _ _ => rfl, fun _ _ e => e, fun x o e hx => hk _ _ (hx i c hi).symm e, fun x o e => ?_, fun j d h => (old j d h).elim fun d' h => .inl ⟨I.ids j d' h, d', h⟩, h4⟩⟩
  · rcases St.get_set h with ⟨rfl, rfl⟩ | ⟨hj, hd⟩
    · exact hc
    · exact (I.cell j d hd).keep (ne hj hd)
  · refine (I.frs e he).2.elim fun c₀ h => ?_
    by_cases q : e.2 = i
    · refine ⟨c', q.symm ▸ St.get_set_self c' hi, ?_⟩
      have hc : c = c₀ := Option.some.inj (hi.symm.trans (q ▸ h.1))
      rw [hc, h.2] at hns
      exact hns
    · exact ⟨c₀, (St.get_set_ne σ c' q).trans h.1, h.2⟩
  · by_cases hx : x = ρ i
    · exact hx ▸ hc.live
    · exact ⟨o, hk _ _ hx e⟩
theorem Inv.set (I : Inv X ρ F σ s) {c' : Cell} (hi : σ.get i = some c) {h' : Heap} (hk : Heap.ExtBut (ρ i) s.heap h') (hc : CellAt σ.n ρ F h' (ρ i) c') (t : Nat) (hns : (!isNs c || isNs c') = true := by rfl) :
    Inv X ρ F (σ.set i c') { s with heap := h', toks := t } ∧ Stp ρ F σ s ρ F (σ.set i c') { s with heap := h', toks := t } := I.turn hi hk hc hns rfl rfl I.gens fun _ _ e => e
theorem Inv.set2 (I : Inv X ρ F σ s) {c' d' : Cell} (hi : σ.get i = some c) (hj : σ.get j = some d) (hij : i ≠ j) {h' : Heap} (hk : ∀ b o, b ≠ ρ i → b ≠ ρ j → s.heap.get? b = some o → h'.get? b = some o)
    (hc : CellAt σ.n ρ F h' (ρ i) c') (hd : CellAt σ.n ρ F h' (ρ j) d') (t : Nat) (hns : (!isNs c || isNs c') = true) (hns2 : (!isNs d || isNs d') = true) :
    Inv X ρ F ((σ.set j d').set i c') { s with heap := h', toks := t } ∧ Stp ρ F σ s ρ F ((σ.set j d').set i c') { s with heap := h', toks := t } := by
  have hne : ρ j ≠ ρ i := I.ne hj hi hij.symm
  refine (I.at hi).elim fun oi hoi => hc.live.elim fun oi' hoi' => ?_
  have h1i : (h'.update (ρ i) (fun _ => oi)).get? (ρ i) = some oi := Heap.get?_update_self _ hoi' (Heap.get?_some_iff.mp hoi.1).2
  have h1o : ∀ b, b ≠ ρ i → (h'.update (ρ i) (fun _ => oi)).get? b = h'.get? b := fun b hb => Heap.get?_update_other _ _ (Ne.symm hb)
  have S1 := I.set hj (c' := d') (h' := h'.update (ρ i) (fun _ => oi)) (fun b o hb e => by
      by_cases q : b = ρ i
      · rw [q, h1i, ← hoi.1, ← e, q]
      · rw [h1o b q]; exact hk b o q hb e) (hd.keep fun o e => (h1o _ hne).trans e) t hns2
  have S2 := S1.1.set ((St.get_set_ne σ d' hij).trans hi) (c' := c') (h' := h') (fun b o hb e => (h1o b hb).symm.trans e) hc t hns
  exact ⟨S2.1, S1.2.trans S2.2⟩
noncomputable def Rho.put (ρ : Rho) (i : Nat) (a : Addr) : Rho := fun j => if j = i then a else ρ j
theorem Rho.put_self (ρ : Rho) (i : Nat) (a : Addr) : ρ.put i a i = a := if_pos rfl
theorem Rho.put_lt (ρ : Rho) {i j : Nat} (a : Addr) (h : j < i) : ρ.put i a j = ρ j := if_neg (Nat.ne_of_lt h)
theorem Inv.push (I : Inv X ρ F σ s) {h' : Heap} {a : Addr} (ha : s.heap.get? a = none) (hk : ∀ b o, s.heap.get? b = some o → h'.get? b = some o)
    (hc : CellAt (σ.n + 1) (ρ.put σ.n a) F h' a c) (t : Nat) :
    Inv X (ρ.put σ.n a) F (σ.push c) { s with heap := h', toks := t } ∧ Stp ρ F σ s (ρ.put σ.n a) F (σ.push c) { s with heap := h', toks := t } := by
  have hs := Rho.put_self ρ σ.n a
  have hρ : ∀ i, i < σ.n → (ρ.put σ.n a) i = ρ i := fun i h => Rho.put_lt ρ a h
  have hg : ∀ {i d}, σ.get i = some d → (ρ.put σ.n a) i = ρ i := fun h => hρ _ (I.ids _ _ h)
  refine ⟨⟨fun i d h => ?_, fun i j d e h h2 q => ?_, fun i d h => ?_, fun i d h => ?_, fun a o e => hk _ _ (I.froz a o e), I.base, I.drawn, I.os, I.gens, fun e he => (I.frs e he).2.elim fun d h => ⟨⟨(I.frs e he).1.1, (hg h.1).symm ▸ (I.frs e he).1.2⟩, d, (St.get_push_lt σ c (I.ids _ _ h.1)).trans h.1, h.2⟩⟩,
    ⟨Nat.le_succ _, hρ, fun _ _ e => e, fun x o e _ => hk _ _ e, fun x o e => ⟨o, hk _ _ e⟩, fun i d h => ?_, fun _ _ e => e⟩⟩
  · exact (St.get_push h).elim (fun q => q.1 ▸ Nat.lt_succ_self _) fun q => Nat.lt_succ_of_lt (I.ids i d q.2)
  · rcases St.get_push h with ⟨rfl, _⟩ | ⟨h3, h⟩ <;> rcases St.get_push h2 with ⟨rfl, _⟩ | ⟨h4, h2⟩
    · rfl
    · exact absurd ((hg h2).symm.trans (q.symm.trans hs)) (I.not0 ha h2)
    · exact absurd ((hg h).symm.trans (q.trans hs)) (I.not0 ha h)
    · exact I.inj i j d e h h2 ((hg h).symm.trans (q.trans (hg h2)))
  · rcases St.get_push h with ⟨rfl, rfl⟩ | ⟨_, h⟩
    · rw [hs]; exact hc
    · rw [hg h]; exact (I.cell i d h).mono (hk _) (Nat.le_succ _) hρ fun _ _ e => e
  · rcases St.get_push h with ⟨rfl, rfl⟩ | ⟨_, h⟩
    · rw [hs]; exact I.notF0 ha
    · rw [hg h]; exact I.off i d h
  · exact (St.get_push h).elim (fun q => .inr (by rw [q.1, hs]; exact ha)) fun q => .inl ⟨I.ids i d q.2, d, q.2⟩
theorem Den.fresh (ρ : Rho) (F : Fz) (σ : St) (c : Cell) (a : Addr) : Den (σ.push c).n (ρ.put σ.n a) F (.ref σ.n) (.ref a) := ⟨congrArg Value.ref (Rho.put_self ρ σ.n a).symm, Nat.lt_succ_self _⟩
theorem Inv.filt (I : Inv X ρ F σ s) {f : Nat → Bool} {N : Nat} (hρ : ∀ i, f i = true → ρ' i = ρ i) (hN : ∀ i c, f i = true → σ.get i = some c → i < N) (u : ∀ i c, f i = true → σ.get i = some c → ∀ o, CellO σ.n ρ F (ρ i) c o → CellO N ρ' F (ρ i) c o) (hf : ∀ e ∈ X.fr, f e.2 = true) :
    Inv X ρ' F ⟨N, σ.objs.filter fun p => f p.1⟩ s := by
  have g : ∀ {i c}, St.get ⟨N, σ.objs.filter fun p => f p.1⟩ i = some c → f i = true ∧ σ.get i = some c := fun {i c} h => by
    have h' := (filter_look f i σ.objs).symm.trans h
    cases q : f i with
    | true => rw [q] at h'; exact ⟨rfl, h'⟩
    | false => rw [q] at h'; exact noneOf h'
  refine ⟨fun i c h => hN i c (g h).1 (g h).2, fun i j c d h h2 q => I.inj i j c d (g h).2 (g h2).2 (by rw [← hρ i (g h).1, ← hρ j (g h2).1]; exact q), fun i c h => ?_, fun i c h => by rw [hρ i (g h).1]; exact I.off i c (g h).2, I.froz, I.base, I.drawn, I.os, I.gens, fun e he => ⟨⟨(I.frs e he).1.1, (hρ _ (hf e he)).symm ▸ (I.frs e he).1.2⟩, (I.frs e he).2.imp fun c h => ⟨?_, h.2⟩⟩⟩
  · rw [hρ i (g h).1]
    exact (I.cell i c (g h).2).to (fun _ e => e) (u i c (g h).1 (g h).2)
  · show (σ.objs.filter fun p => f p.1).lookup e.2 = _
    rw [filter_look, hf e he]
    exact h.1
theorem Stp.filt {ρ₁ : Rho} {F' : Fz} {σ' : St} {s' : Shared} {f : Nat → Bool} {N : Nat} (st : Stp ρ F σ s ρ₁ F' σ' s') (hN : σ.n ≤ N) : Stp ρ F σ s ρ₁ F' ⟨N, σ'.objs.filter fun p => f p.1⟩ s' :=
  ⟨hN, st.same, st.sub, st.keep, st.live, fun i c h => st.new i c (by
    have h' := (filter_look f i σ'.objs).symm.trans h
    cases q : f i with
    | true => rw [q] at h'; exact h'
    | false => rw [q] at h'; exact noneOf h'), st.gens⟩
theorem cut_in {N : Nat} (h : σ.get i = some c) (hi : i < N) : (i, c) ∈ (σ.cut N).objs := List.mem_filter.mpr ⟨mem_of_assoc h, Nat.ble_eq_true_of_le hi⟩
theorem Inv.cut (I : Inv X ρ F σ s) {N : Nat} (hρ : ∀ i, i < N → ρ' i = ρ i) (u : ∀ p ∈ (σ.cut N).objs, UndC N p.2) (hN : ∀ e ∈ X.fr, e.2 < N) : Inv X ρ' F (σ.cut N) s :=
  I.filt (f := fun i => Nat.blt i N) (fun i h => hρ i (Nat.le_of_ble_eq_true h)) (fun i _ h _ => Nat.le_of_ble_eq_true h) (fun i c h q o => CellO.under hρ (u _ (cut_in q (Nat.le_of_ble_eq_true h)))) fun e he => Nat.ble_eq_true_of_le (hN e he)
theorem Stp.cut {ρ₁ : Rho} {F' : Fz} {σ' : St} {s' : Shared} {N : Nat} (st : Stp ρ F σ s ρ₁ F' σ' s') (hN : σ.n ≤ N) : Stp ρ F σ s ρ₁ F' (σ'.cut N) s' := st.filt (f := fun i => Nat.blt i N) hN
theorem Inv.sel {N : Nat} (l : List Nat) (I : Inv X ρ F σ s) (hN : ∀ e ∈ X.fr, e.2 < N) : Inv X ρ F (σ.sel N l) s :=
  I.filt (f := fun i => Nat.blt i N || l.any (Nat.beq i)) (fun _ _ => rfl) (fun i c _ h => I.ids i c h) (fun _ _ _ _ _ h => h) fun e he => by rw [show Nat.blt e.2 N = true from Nat.ble_eq_true_of_le (hN e he)]; rfl
theorem Stp.sel {ρ₁ : Rho} {F' : Fz} {σ' : St} {s' : Shared} {N : Nat} (l : List Nat) (st : Stp ρ F σ s ρ₁ F' σ' s') : Stp ρ F σ s ρ₁ F' (σ'.sel N l) s' := st.filt (f := fun i => Nat.blt i N || l.any (Nat.beq i)) st.le
theorem Base.wf (b : Base X F) (fr : List (Env × Nat)) : Base (X.wf fr) F := ⟨b.K, b.mb, b.lim, b.bf⟩
theorem Base.un {fr : List (Env × Nat)} (b : Base (X.wf fr) F) : Base X F := ⟨b.K, b.mb, b.lim, b.bf⟩
theorem Inv.frame (I : Inv X ρ F σ s) {env : Env} (h1 : env.scope.kind = .function) (h2 : env.frame = some (ρ i)) (h3 : σ.get i = some c) (h4 : isNs c = true) : Inv (X.wf ((env, i) :: X.fr)) ρ F σ s :=
  ⟨I.ids, I.inj, I.cell, I.off, I.froz, I.base.wf _, I.drawn, I.os, I.gens, fun e he => by
    cases he with
    | head => exact ⟨⟨h1, h2⟩, c, h3, h4⟩
    | tail _ he => exact I.frs e he⟩
theorem Inv.unframe {e : Env × Nat} (I : Inv (X.wf (e :: X.fr)) ρ F σ s) : Inv X ρ F σ s := ⟨I.ids, I.inj, I.cell, I.off, I.froz, I.base.un, I.drawn, I.os, I.gens, fun e he => I.frs e (.tail _ he)⟩
theorem Inv.reframe {env env' : Env} (I : Inv (X.wf ((env, i) :: X.fr)) ρ F σ s) (h1 : env'.scope.kind = .function) (h2 : env'.frame = env.frame) : Inv (X.wf ((env', i) :: X.fr)) ρ F σ s :=
  ⟨I.ids, I.inj, I.cell, I.off, I.froz, I.base.un.wf _, I.drawn, I.os, I.gens, fun e he => by
    cases he with
    | head => exact ⟨⟨h1, h2.trans (I.frs (env, i) (.head _)).1.2⟩, (I.frs (env, i) (.head _)).2⟩
    | tail _ he => exact I.frs e (.tail _ he)⟩
end
end Mine
open PySem PySem.W PyProof.Rows
namespace Mine
noncomputable def All : List Prop → Prop
  | [] => True
  | c :: cs => c ∧ All cs
theorem All.app {a b : List Prop} (h : All (a ++ b)) : All a ∧ All b := by
  induction a with
  | nil => exact ⟨trivial, h⟩
  | cons c a ih => exact ⟨⟨h.1, (ih h.2).1⟩, (ih h.2).2⟩
noncomputable abbrev Ev := St × List Wd
noncomputable abbrev EM (β : Type) := Ev → Option (β × Ev × List Prop)
namespace EM
noncomputable def ret {β : Type} (b : β) : EM β := fun ev => some (b, ev, [])
noncomputable def fail {β : Type} : EM β := fun _ => none
noncomputable def cond (P : Prop) : EM Unit := fun ev => some ((), ev, [P])
noncomputable def bind {β γ : Type} (x : EM β) (f : β → EM γ) : EM γ := fun ev => onSome (x ev) (fun r => onSome (f r.1 r.2.1) (fun q => some (q.1, q.2.1, r.2.2 ++ q.2.2)) none) none
noncomputable def word {β : Type} (g : Wd → Option β) : EM β := fun ev => onCons ev.2 (fun w ds => onSome (g w) (fun b => some (b, (ev.1, ds), [])) none) none
noncomputable def opt {β : Type} (o : Option β) : EM β := onSome o ret fail
noncomputable def st {β : Type} (f : St → EM β) : EM β := fun ev => f ev.1 ev
noncomputable def get {β : Type} (g : St → Option β) : EM β := st fun σ => opt (g σ)
noncomputable def cell (i : Nat) : EM Cell := get fun σ => σ.get i
noncomputable def cellAs {β : Type} (as : Cell → Option β) (i : Nat) : EM β := get fun σ => (σ.get i).bind as
noncomputable def upd (f : St → St) : EM Unit := fun ev => some ((), (f ev.1, ev.2), [])
noncomputable def push (c : Cell) : EM Nat := fun ev => some (ev.1.n, (ev.1.push c, ev.2), [])
noncomputable def or {β : Type} (x y : EM β) : EM β := fun ev => match x ev with
  | some r => some r
  | none => y ev
noncomputable def chk (b : Bool) : EM Unit := _root_.cond b (ret ()) fail
noncomputable def dec (b : Bool) : EM Bool := bind (word fun w => onWB w some none) fun d => bind (cond (b = d)) fun _ => ret d
noncomputable def cut : EM (List AV × AV) := word fun w => onWCut w (fun ys y => some (ys, y)) none
noncomputable def first (xs : List AV) : EM (List AV × AV) := bind cut fun p => bind (cond (xs = p.2 :: p.1)) fun _ => ret p
noncomputable def last (xs : List AV) : EM (List AV × AV) := bind cut fun p => bind (cond (xs = p.1 ++ [p.2])) fun _ => ret p
noncomputable def cutW : EM (Option AV) := word fun w => onWCut w (fun _ y => some (some y)) (onWB w (fun b => _root_.cond b none (some none)) none)
noncomputable def retIf {β : Type} (P : Prop) (v : β) : EM β := bind (cond P) fun _ => ret v
noncomputable def turn {β : Type} (P : Prop) (g : St → St) (v : β) : EM β := bind (cond P) fun _ => bind (upd g) fun _ => ret v
noncomputable def retB {β : Type} (b : Bool) (v : β) : EM β := bind (chk b) fun _ => ret v
end EM
structure Kn where
  p : Nat → Rho → Fz → Prop
  mono : ∀ {n n' ρ ρ' F F'}, n ≤ n' → (∀ i, i < n → ρ' i = ρ i) → (∀ a o, F a = some o → F' a = some o) → p n ρ F → p n' ρ' F'
noncomputable def Kn.and (a b : Kn) : Kn := ⟨fun n ρ F => a.p n ρ F ∧ b.p n ρ F, fun h1 h2 h3 ⟨x, y⟩ => ⟨a.mono h1 h2 h3 x, b.mono h1 h2 h3 y⟩⟩
noncomputable def Kn.top : Kn := ⟨fun _ _ _ => True, fun _ _ _ _ => trivial⟩
noncomputable def Kn.is (P : Prop) : Kn := ⟨fun _ _ _ => P, fun _ _ _ h => h⟩
noncomputable def Kn.le (a b : Kn) : Prop := ∀ n ρ F, a.p n ρ F → b.p n ρ F
theorem Kn.le_refl (Γ : Kn) : Γ.le Γ := fun _ _ _ h => h
theorem Kn.fst {a b c : Kn} (x : a.le c) : (a.and b).le c := fun _ _ _ h => x _ _ _ h.1
theorem Kn.snd {a b c : Kn} (x : b.le c) : (a.and b).le c := fun _ _ _ h => x _ _ _ h.2
noncomputable def RDen (av : AV) (v : Value) : Kn := ⟨fun n ρ F => Den n ρ F av v, fun h1 h2 h3 x => x.mono h1 h2 h3⟩
noncomputable def RDens (av : List AV) (v : List Value) : Kn := ⟨fun n ρ F => Dens n ρ F av v, fun h1 h2 h3 x => x.mono h1 h2 h3⟩
noncomputable def REq {β : Type} (a b : β) : Kn := Kn.is (a = b)
theorem EM.bind_use {β γ : Type} {x : EM β} {f : β → EM γ} {ev : Ev} {c : γ} {ev'' : Ev} {cs : List Prop} {C : Prop} (h : EM.bind x f ev = some (c, ev'', cs)) (hc : All cs) (H : ∀ b ev' cs₁ cs₂, x ev = some (b, ev', cs₁) → f b ev' = some (c, ev'', cs₂) → All cs₁ → All cs₂ → C) : C :=
  onSome_ind (P := fun (z : Option (γ × Ev × List Prop)) o => x ev = o → z = some (c, ev'', cs) → C) (fun r e1 => onSome_ind (P := fun (z : Option (γ × Ev × List Prop)) o => f r.1 r.2.1 = o → z = some (c, ev'', cs) → C)
    (fun q e2 h => inj3 h fun i1 i2 (i3 : r.2.2 ++ q.2.2 = cs) => have ha := All.app (i3.symm ▸ hc); H r.1 r.2.1 r.2.2 q.2.2 e1 (by rw [← i1, ← i2]; exact e2) ha.1 ha.2) (fun _ e => noneOf e) rfl) (fun _ e => noneOf e) rfl h
theorem EM.chk_use {β : Type} {b : Bool} {x : EM β} {ev : Ev} {r : β × Ev × List Prop} {C : Prop} (h : _root_.cond b x EM.fail ev = some r) (H : b = true → x ev = some r → C) : C :=
  cond_ind (P := fun (z : EM β) => z ev = some r → C) H (fun e => noneOf e) h
noncomputable def RunAt {β : Type} (σ : St) (x : EM β) (C : β → St → Prop) : Prop := ∀ ds b ev' cs, x (σ, ds) = some (b, ev', cs) → All cs → C b ev'.1
section
variable {β γ : Type} {σ σ₁ : St} {C : β → St → Prop} {D : γ → St → Prop}
theorem RunAt.ret {b : β} (h : C b σ) : RunAt σ (EM.ret b) C := fun ds b' ev' cs e _ => inj3 e fun i1 i2 _ => i1 ▸ i2 ▸ h
theorem RunAt.fail : RunAt σ (EM.fail : EM β) C := fun _ _ _ _ e => noneOf e
theorem RunAt.bind {x : EM β} {f : β → EM γ} (hx : RunAt σ x C) (hf : ∀ b σ₁, C b σ₁ → RunAt σ₁ (f b) D) : RunAt σ (EM.bind x f) D := fun ds _ _ _ e hc => EM.bind_use e hc fun b ev₁ cs₁ cs₂ e₁ e₂ h1 h2 => hf b ev₁.1 (hx ds b ev₁ cs₁ e₁ h1) ev₁.2 _ _ _ e₂ h2
theorem RunAt.stay {x : EM β} {P : β → Prop} {f : β → EM γ} (hx : RunAt σ x fun b σ₁ => σ₁ = σ ∧ P b) (hf : ∀ b, P b → RunAt σ (f b) D) : RunAt σ (EM.bind x f) D := hx.bind fun b σ₁ h => h.1 ▸ hf b h.2
theorem RunAt.opt0 {o : Option β} : RunAt σ (EM.opt o) fun b σ₁ => σ₁ = σ ∧ o = some b := onSome_ind (P := fun (x : EM β) o => RunAt σ x fun b σ₁ => σ₁ = σ ∧ o = some b) (fun b => RunAt.ret ⟨rfl, rfl⟩) RunAt.fail
theorem RunAt.opt {o : Option β} {f : β → EM γ} (h : ∀ b, o = some b → RunAt σ (f b) D) : RunAt σ (EM.bind (EM.opt o) f) D := RunAt.opt0.stay h
theorem RunAt.get {g : St → Option β} {f : β → EM γ} (h : ∀ b, g σ = some b → RunAt σ (f b) D) : RunAt σ (EM.bind (EM.get g) f) D := RunAt.opt (o := g σ) h
theorem RunAt.cell {i : Nat} {f : Cell → EM γ} (h : ∀ c, σ.get i = some c → RunAt σ (f c) D) : RunAt σ (EM.bind (EM.cell i) f) D := RunAt.get h
theorem RunAt.cellAs {as : Cell → Option β} {mk : β → Cell} {i : Nat} {f : β → EM γ} (inv : ∀ {c q}, as c = some q → c = mk q) (h : ∀ q, σ.get i = some (mk q) → RunAt σ (f q) D) : RunAt σ (EM.bind (EM.cellAs as i) f) D :=
  RunAt.get fun q e => h q (let ⟨c, e1, e2⟩ := Option.bind_eq_some_iff.mp e; inv e2 ▸ e1)
theorem RunAt.st {f : St → EM γ} (h : RunAt σ (f σ) D) : RunAt σ (EM.st f) D := h
theorem RunAt.chk {b : Bool} {f : Unit → EM γ} (h : b = true → RunAt σ (f ()) D) : RunAt σ (EM.bind (EM.chk b) f) D := RunAt.stay (P := fun _ => b = true) (cond_ind (P := fun (x : EM Unit) => RunAt σ x fun _ σ₁ => σ₁ = σ ∧ b = true) (fun e => RunAt.ret ⟨rfl, e⟩) RunAt.fail) fun _ => h
theorem RunAt.cond {P : Prop} {f : Unit → EM γ} (h : P → RunAt σ (f ()) D) : RunAt σ (EM.bind (EM.cond P) f) D := RunAt.stay (P := fun _ => P) (fun ds u ev' cs e hc => inj3 e fun _ i2 i3 => ⟨i2 ▸ rfl, (i3 ▸ hc : All [P]).1⟩) fun _ => h
theorem RunAt.word {g : Wd → Option β} {f : β → EM γ} (h : ∀ b, RunAt σ (f b) D) : RunAt σ (EM.bind (EM.word g) f) D := RunAt.stay (P := fun _ => True) (fun ds b ev' cs =>
  onCons_ind (P := fun (x : Option (β × Ev × List Prop)) _ => x = some (b, ev', cs) → All cs → ev'.1 = σ ∧ True) (fun w r => onSome_ind (P := fun (x : Option (β × Ev × List Prop)) _ => x = some (b, ev', cs) → All cs → ev'.1 = σ ∧ True) (fun c e _ => inj3 e fun _ i2 _ => ⟨i2 ▸ rfl, trivial⟩) fun e => noneOf e) fun e => noneOf e) fun b _ => h b
theorem RunAt.cutW {f : Option AV → EM γ} (h : ∀ o, RunAt σ (f o) D) : RunAt σ (EM.bind EM.cutW f) D := RunAt.word h
theorem RunAt.dec0 {b : Bool} : RunAt σ (EM.dec b) fun d σ₁ => σ₁ = σ ∧ b = d := RunAt.word fun d => RunAt.cond fun h => RunAt.ret ⟨rfl, h⟩
theorem RunAt.first {xs : List AV} {f : List AV × AV → EM γ} (h : ∀ p, xs = p.2 :: p.1 → RunAt σ (f p) D) : RunAt σ (EM.bind (EM.first xs) f) D := RunAt.stay (P := fun p => xs = p.2 :: p.1) (RunAt.word fun p => RunAt.cond fun h => RunAt.ret ⟨rfl, h⟩) h
theorem RunAt.last {xs : List AV} {f : List AV × AV → EM γ} (h : ∀ p, xs = p.1 ++ [p.2] → RunAt σ (f p) D) : RunAt σ (EM.bind (EM.last xs) f) D := RunAt.stay (P := fun p => xs = p.1 ++ [p.2]) (RunAt.word fun p => RunAt.cond fun h => RunAt.ret ⟨rfl, h⟩) h
theorem RunAt.upd {g : St → St} {f : Unit → EM γ} (h : RunAt (g σ) (f ()) D) : RunAt σ (EM.bind (EM.upd g) f) D := RunAt.bind (C := fun _ σ₁ => σ₁ = g σ) (fun ds u ev' cs e _ => inj3 e fun _ i2 _ => i2 ▸ rfl) fun _ σ₁ e => e ▸ h
theorem RunAt.push {c : Cell} {f : Nat → EM γ} (h : RunAt (σ.push c) (f σ.n) D) : RunAt σ (EM.bind (EM.push c) f) D := RunAt.bind (C := fun b σ₁ => b = σ.n ∧ σ₁ = σ.push c) (fun ds u ev' cs e _ => inj3 e fun i1 i2 i3 => ⟨i1.symm, i2 ▸ rfl⟩) fun b σ₁ e => by rw [e.1, e.2]; exact h
theorem RunAt.or {x y : EM β} (hx : RunAt σ x C) (hy : RunAt σ y C) : RunAt σ (EM.or x y) C := fun ds b ev' cs e hc => by
  unfold EM.or at e
  split at e
  · rename_i r h; exact hx _ _ _ _ (h.trans e) hc
  · exact hy _ _ _ _ e hc
theorem RunAt.optE {o : Option β} (h : ∀ b, o = some b → C b σ) : RunAt σ (EM.opt o) C := fun ds b ev' cs e hc => let q := RunAt.opt0 ds b ev' cs e hc; q.1 ▸ h b q.2
theorem RunAt.updE {g : St → St} {C : Unit → St → Prop} (h : C () (g σ)) : RunAt σ (EM.upd g) C := fun ds u ev' cs e _ => inj3 e fun _ i2 _ => i2 ▸ h
theorem RunAt.retIf {P : Prop} {v : β} (h : P → C v σ) : RunAt σ (EM.retIf P v) C := RunAt.cond fun p => RunAt.ret (h p)
theorem RunAt.turn {P : Prop} {g : St → St} {v : β} (h : P → C v (g σ)) : RunAt σ (EM.turn P g v) C := RunAt.cond fun p => RunAt.upd (RunAt.ret (h p))
theorem RunAt.retB {b : Bool} {v : β} (h : b = true → C v σ) : RunAt σ (EM.retB b v) C := RunAt.chk fun p => RunAt.ret (h p)
theorem RunAt.mono {x : EM β} {C' : β → St → Prop} (h : RunAt σ x C) (hC : ∀ b σ₁, C b σ₁ → C' b σ₁) : RunAt σ x C' := fun ds b ev' cs e hc => hC _ _ (h ds b ev' cs e hc)
end
noncomputable def Goes {α : Type} (X : Ctx) (A : Around) (ρ : Rho) (F : Fz) (σ : St) (s : Shared) (t : Sem α) (R : α → Kn) (σ' : St) : Prop :=
  ∀ (Q : α → Shared → Prop) (E : Value → Shared → Prop),
    (∀ v s' ρ' F', (R v).p σ'.n ρ' F' → Inv X ρ' F' σ' s' → Stp ρ F σ s ρ' F' σ' s' → Q v s') → wpAny (model X.prog X.w) A t Q E s
noncomputable def Sim {α β : Type} (X : Ctx) (A : Around) (Γ : Kn) (R : β → α → Kn) (x : EM β) (t : Sem α) : Prop :=
  ∀ ev b ev' cs, x ev = some (b, ev', cs) → All cs → ∀ ρ F s, Inv X ρ F ev.1 s → Γ.p ev.1.n ρ F → Goes X A ρ F ev.1 s t (R b) ev'.1
section
variable {α β γ δ : Type} {X : Ctx} {A : Around} {ρ : Rho} {F : Fz} {σ σ₁ σ₂ : St} {s : Shared}
theorem Goes.now {a : α} {R : α → Kn} (I : Inv X ρ F σ s) (h : (R a).p σ.n ρ F) : Goes X A ρ F σ s (pure a) R σ := fun Q E hQ => wpAny_pure (hQ a s ρ F h I (Stp.refl ρ F I.ids))
theorem Goes.bind {t : Sem α} {k : α → Sem γ} {R : α → Kn} {R₂ : γ → Kn} (h : Goes X A ρ F σ s t R σ₁)
    (hk : ∀ v s₁ ρ₁ F₁, (R v).p σ₁.n ρ₁ F₁ → Inv X ρ₁ F₁ σ₁ s₁ → Stp ρ F σ s ρ₁ F₁ σ₁ s₁ → Goes X A ρ₁ F₁ σ₁ s₁ (k v) R₂ σ₂) : Goes X A ρ F σ s (t >>= k) R₂ σ₂ :=
  fun Q E hQ => wpAny_bind (h _ E fun v s₁ ρ₁ F₁ hr I₁ st => hk v s₁ ρ₁ F₁ hr I₁ st Q E fun w s₂ ρ₂ F₂ hr₂ I₂ st₂ => hQ w s₂ ρ₂ F₂ hr₂ I₂ (st.trans st₂))
theorem Goes.mono {t : Sem α} {R R' : α → Kn} (h : Goes X A ρ F σ s t R σ₁) (hR : ∀ v ρ' F', (R v).p σ₁.n ρ' F' → (R' v).p σ₁.n ρ' F') : Goes X A ρ F σ s t R' σ₁ :=
  fun Q E hQ => h Q E fun v s' ρ' F' r => hQ v s' ρ' F' (hR v ρ' F' r)
section
variable {t : Sem α} {R : α → Kn}
theorem Goes.same (I : Inv X ρ F σ s) (h : ∀ (Q : α → Shared → Prop) (E : Value → Shared → Prop), (∀ w, (R w).p σ.n ρ F → Q w s) → wpAny (model X.prog X.w) A t Q E s) : Goes X A ρ F σ s t R σ := fun Q E hQ => h Q E fun w r => hQ w s ρ F r I (Stp.refl ρ F I.ids)
theorem Goes.tok (I : Inv X ρ F σ s) (h : ∀ (Q : α → Shared → Prop) (E : Value → Shared → Prop), (∀ w k, (R w).p σ.n ρ F → Q w { s with toks := k }) → wpAny (model X.prog X.w) A t Q E s) : Goes X A ρ F σ s t R σ := fun Q E hQ => h Q E fun w k r => hQ w _ ρ F r (I.toks k) (Stp.toks I.ids k)
theorem Goes.to (h : ∀ (Q : α → Shared → Prop) (E : Value → Shared → Prop), (∀ v s' ρ' F', (R v).p σ₁.n ρ' F' → Inv X ρ' F' σ₁ s' ∧ Stp ρ F σ s ρ' F' σ₁ s' → Q v s') → wpAny (model X.prog X.w) A t Q E s) : Goes X A ρ F σ s t R σ₁ := fun Q E hQ => h Q E fun v s' ρ' F' r q => hQ v s' ρ' F' r q.1 q.2
end
variable {Γ : Kn}
theorem Sim.ofRun {x : EM β} {t : Sem α} {R : β → α → Kn} (h : ∀ σ ρ F s, Inv X ρ F σ s → Γ.p σ.n ρ F → RunAt σ x fun b σ' => Goes X A ρ F σ s t (R b) σ') : Sim X A Γ R x t := fun ev b ev' cs e hc ρ F s I g => h ev.1 ρ F s I g ev.2 b ev' cs e hc
theorem Sim.ret {b : β} {a : α} {R : β → α → Kn} (h : Γ.le (R b a)) : Sim X A Γ R (EM.ret b) (pure a) := Sim.ofRun fun σ ρ F s I g => RunAt.ret (Goes.now I (h _ _ _ g))
theorem Sim.bind {x : EM β} {f : β → EM δ} {t : Sem α} {k : α → Sem γ} {R : β → α → Kn} {R₂ : δ → γ → Kn} (h : Sim X A Γ R x t) (hk : ∀ b v, Sim X A (Γ.and (R b v)) R₂ (f b) (k v)) : Sim X A Γ R₂ (EM.bind x f) (t >>= k) :=
  fun ev c ev'' cs e hc ρ F s I g => EM.bind_use e hc fun b ev' cs₁ cs₂ e₁ e₂ h1 h2 => (h _ _ _ _ e₁ h1 ρ F s I g).bind fun v s₁ ρ₁ F₁ hr I₁ st => hk b v _ _ _ _ e₂ h2 ρ₁ F₁ s₁ I₁ ⟨Γ.mono st.le st.same st.sub g, hr⟩
theorem Sim.stay {x : EM β} {f : β → EM δ} {t : Sem γ} {R₂ : δ → γ → Kn} {P : β → Prop} (h : ∀ σ, RunAt σ x fun b σ₁ => σ₁ = σ ∧ P b) (hk : ∀ b, P b → Sim X A Γ R₂ (f b) t) : Sim X A Γ R₂ (EM.bind x f) t :=
  Sim.ofRun fun σ ρ F s I g => (h σ).stay fun b hb ds c ev' cs e hc => hk b hb (σ, ds) c ev' cs e hc ρ F s I g
theorem Sim.fail {t : Sem α} {R : β → α → Kn} : Sim X A Γ R EM.fail t := fun _ _ _ _ e => noneOf e
theorem Sim.cond {P : Prop} {f : Unit → EM δ} {t : Sem γ} {R₂ : δ → γ → Kn} (hk : P → Sim X A Γ R₂ (f ()) t) : Sim X A Γ R₂ (EM.bind (EM.cond P) f) t := Sim.ofRun fun σ ρ F s I g => RunAt.cond fun h ds c ev' cs e hc => hk h (σ, ds) c ev' cs e hc ρ F s I g
theorem Sim.dec {b₀ : Bool} {f : Bool → EM δ} {t : Sem γ} {R₂ : δ → γ → Kn} (hk : Sim X A Γ R₂ (f b₀) t) : Sim X A Γ R₂ (EM.bind (EM.dec b₀) f) t := Sim.stay (fun _ => RunAt.dec0) fun _ h => h ▸ hk
theorem Sim.word {g : Wd → Option β} {f : β → EM δ} {t : Sem γ} {R₂ : δ → γ → Kn} (hk : ∀ b, Sim X A Γ R₂ (f b) t) : Sim X A Γ R₂ (EM.bind (EM.word g) f) t := Sim.ofRun fun σ ρ F s I g => RunAt.word fun b ds c ev' cs e hc => hk b (σ, ds) c ev' cs e hc ρ F s I g
theorem Sim.opt {o : Option β} {f : β → EM δ} {t : Sem γ} {R₂ : δ → γ → Kn} (hk : ∀ b, o = some b → Sim X A Γ R₂ (f b) t) : Sim X A Γ R₂ (EM.bind (EM.opt o) f) t := Sim.stay (fun _ => RunAt.opt0) hk
theorem Sim.weaken {Γ' : Kn} {x : EM β} {t : Sem α} {R : β → α → Kn} (h : Sim X A Γ R x t) (hg : Γ'.le Γ) : Sim X A Γ' R x t := fun ev b ev' cs e hc ρ F s I g => h ev b ev' cs e hc ρ F s I (hg _ _ _ g)
theorem Sim.post {x : EM β} {t : Sem α} {R R' : β → α → Kn} (h : Sim X A Γ R x t) (hr : ∀ b v, (R b v).le (R' b v)) : Sim X A Γ R' x t := fun ev b ev' cs e hc ρ F s I g => (h ev b ev' cs e hc ρ F s I g).mono fun v ρ' F' z => hr b v _ _ _ z
theorem Sim.know {P : Prop} {x : EM β} {t : Sem α} {R : β → α → Kn} (h : Γ.le (Kn.is P)) (hk : P → Sim X A Γ R x t) : Sim X A Γ R x t := fun ev b ev' cs e hc ρ F s I g => hk (h _ _ _ g) ev b ev' cs e hc ρ F s I g
theorem Sim.chk {b : Bool} {x : EM β} {t : Sem α} {R : β → α → Kn} (h : b = true → Sim X A Γ R x t) : Sim X A Γ R (_root_.cond b x EM.fail) t := cond_ind (P := fun x => Sim X A Γ R x t) h Sim.fail
theorem Sim.eq {x : EM β} {t t' : Sem α} {R : β → α → Kn} (e : t = t') (h : Sim X A Γ R x t') : Sim X A Γ R x t := e ▸ h
theorem Sim.holding {vs : List Value} {x : EM β} {t : Sem α} {R : β → α → Kn} (h : Sim X A Γ R x t) : Sim X A Γ R x (holding vs t) := fun ev b ev' cs e hc ρ F s I g Q E hQ => wpAny_holding (h ev b ev' cs e hc ρ F s I g Q E hQ)
theorem Sim.standAt {p : Pos} {x : EM β} {k : Unit → Sem α} {R : β → α → Kn} (h : Sim X A Γ R x (k ())) : Sim X A Γ R x (standAt p >>= k) := fun ev b ev' cs e hc ρ F s I g Q E hQ => wpAny_bind (wpAny_standAt (h ev b ev' cs e hc ρ F s I g Q E hQ))
theorem Sim.stood {p : Pos} {x : EM β} {t : Sem α} {R : β → α → Kn} (h : Sim X A Γ R x t) : Sim X A Γ R x (t >>= fun v => PySem.standAt p >>= fun _ => Pure.pure v) := fun ev b ev' cs e hc ρ F s I g Q E hQ => wpAny_bind (h ev b ev' cs e hc ρ F s I g _ E fun v s' ρ' F' a b c => wpAny_bind (wpAny_standAt (wpAny_pure (hQ v s' ρ' F' a b c))))
theorem Sim.operate {vs : List Value} {x : EM β} {t : Sem Value} {R : β → Value → Kn} (h : Sim X A Γ R x t) : Sim X A Γ R x (operate vs t) := fun ev b ev' cs e hc ρ F s I g Q E hQ => wpAny_operateT (h ev b ev' cs e hc ρ F s I g Q E hQ)
end
noncomputable def asList (e : Cell) : Option (List AV) := onCList e (fun a => some a) none
theorem asList_some {e : Cell} {q : List AV} : asList e = some q → e = .list q := onCList_ind (P := fun (x : Option (List AV)) e => x = some q → e = .list q) (fun a h => Option.some.inj h ▸ rfl) fun h => noneOf h
noncomputable def asRit (e : Cell) : Option (Int × Int × Int) := onCRit e (fun a b c => some (a, b, c)) none
theorem asRit_some {e : Cell} {q : Int × Int × Int} : asRit e = some q → e = .rit q.1 q.2.1 q.2.2 := onCRit_ind (P := fun (x : Option (Int × Int × Int)) e => x = some q → e = .rit q.1 q.2.1 q.2.2) (fun a b c h => Option.some.inj h ▸ rfl) fun h => noneOf h
noncomputable def asEnum (e : Cell) : Option (Nat × Nat) := onCEnum e (fun a b => some (a, b)) none
theorem asEnum_some {e : Cell} {q : Nat × Nat} : asEnum e = some q → e = .enum q.1 q.2 := onCEnum_ind (P := fun (x : Option (Nat × Nat)) e => x = some q → e = .enum q.1 q.2) (fun a b h => Option.some.inj h ▸ rfl) fun h => noneOf h
noncomputable def asWl (e : Cell) : Option (Nat × Nat) := onCWl e (fun a b => some (a, b)) none
theorem asWl_some {e : Cell} {q : Nat × Nat} : asWl e = some q → e = .wl q.1 q.2 := onCWl_ind (P := fun (x : Option (Nat × Nat)) e => x = some q → e = .wl q.1 q.2) (fun a b h => Option.some.inj h ▸ rfl) fun h => noneOf h
noncomputable def asLiter (e : Cell) : Option (Nat × Nat) := onCLiter e (fun a b => some (a, b)) none
theorem asLiter_some {e : Cell} {q : Nat × Nat} : asLiter e = some q → e = .liter q.1 q.2 := onCLiter_ind (P := fun (x : Option (Nat × Nat)) e => x = some q → e = .liter q.1 q.2) (fun a b h => Option.some.inj h ▸ rfl) fun h => noneOf h
noncomputable def asDict (e : Cell) : Option (List (Str × AV)) := onCDict e (fun a => some a) none
theorem asDict_some {e : Cell} {q : List (Str × AV)} : asDict e = some q → e = .dict q := onCDict_ind (P := fun (x : Option (List (Str × AV))) e => x = some q → e = .dict q) (fun a h => Option.some.inj h ▸ rfl) fun h => noneOf h
noncomputable def asNs (e : Cell) : Option (List (Str × AV)) := onCNs e (fun a => some a) none
theorem asNs_some {e : Cell} {q : List (Str × AV)} : asNs e = some q → e = .ns q := onCNs_ind (P := fun (x : Option (List (Str × AV))) e => x = some q → e = .ns q) (fun a h => Option.some.inj h ▸ rfl) fun h => noneOf h
noncomputable def asBox (e : Cell) : Option (Option AV) := onCBox e (fun a => some a) none
theorem asBox_some {e : Cell} {q : Option AV} : asBox e = some q → e = .box q := onCBox_ind (P := fun (x : Option (Option AV)) e => x = some q → e = .box q) (fun a h => Option.some.inj h ▸ rfl) fun h => noneOf h
noncomputable def asExc (e : Cell) : Option (Addr × Option Nat × Option Nat) := onCExc e (fun a b c => some (a, b, c)) none
theorem asExc_some {e : Cell} {q : Addr × Option Nat × Option Nat} : asExc e = some q → e = .exc q.1 q.2.1 q.2.2 := onCExc_ind (P := fun (x : Option (Addr × Option Nat × Option Nat)) e => x = some q → e = .exc q.1 q.2.1 q.2.2) (fun a b c h => Option.some.inj h ▸ rfl) fun h => noneOf h
noncomputable def asTb (e : Cell) : Option (Option Nat) := onCTb e (fun a => some a) none
theorem asTb_some {e : Cell} {q : Option Nat} : asTb e = some q → e = .tb q := onCTb_ind (P := fun (x : Option (Option Nat)) e => x = some q → e = .tb q) (fun a h => Option.some.inj h ▸ rfl) fun h => noneOf h
noncomputable def asTab (e : Cell) : Option (Addr × Array Value × Option (List (Int × Int))) := onCTab e (fun a b c => some (a, b, c)) none
theorem asTab_some {e : Cell} {q : Addr × Array Value × Option (List (Int × Int))} : asTab e = some q → e = .tab q.1 q.2.1 q.2.2 := onCTab_ind (P := fun (x : Option (Addr × Array Value × Option (List (Int × Int)))) e => x = some q → e = .tab q.1 q.2.1 q.2.2) (fun a b c h => Option.some.inj h ▸ rfl) fun h => noneOf h
noncomputable def plainE (e : Expr) : Bool := onConstant e (fun _ _ _ => true) <| onName e (fun _ _ => true) <| onAttribute e (fun _ _ _ => true) <| onSubscript e (fun _ _ _ => true) <| onCall e (fun _ _ _ _ => true) <| onBinOp e (fun _ _ _ _ => true) <|
  onUnaryOp e (fun _ _ _ => true) <| onIfExp e (fun _ _ _ _ => true) <| onCompare e (fun _ _ _ _ => true) <| onListE e (fun _ _ => true) <| onTupleE e (fun _ _ _ => true) false
theorem plainE_ind {P : Expr → Prop} (h1 : ∀ a b c, P (.Constant a b c)) (h2 : ∀ a b, P (.Name a b)) (h3 : ∀ a b c, P (.Attribute a b c)) (h4 : ∀ a b c, P (.Subscript a b c)) (h5 : ∀ a b c d, P (.Call a b c d)) (h6 : ∀ a b c d, P (.BinOp a b c d))
    (h7 : ∀ a b c, P (.UnaryOp a b c)) (h8 : ∀ a b c d, P (.IfExp a b c d)) (h9 : ∀ a b c d, P (.Compare a b c d)) (h10 : ∀ a b, P (.List a b)) (h11 : ∀ a b c, P (.Tuple a b c)) {e : Expr} : plainE e = true → P e :=
  onConstant_ind (P := fun b e => b = true → P e) (fun a b c _ => h1 a b c) <| onName_ind (P := fun b e => b = true → P e) (fun a b _ => h2 a b) <| onAttribute_ind (P := fun b e => b = true → P e) (fun a b c _ => h3 a b c) <|
  onSubscript_ind (P := fun b e => b = true → P e) (fun a b c _ => h4 a b c) <| onCall_ind (P := fun b e => b = true → P e) (fun a b c d _ => h5 a b c d) <| onBinOp_ind (P := fun b e => b = true → P e) (fun a b c d _ => h6 a b c d) <|
  onUnaryOp_ind (P := fun b e => b = true → P e) (fun a b c _ => h7 a b c) <| onIfExp_ind (P := fun b e => b = true → P e) (fun a b c d _ => h8 a b c d) <| onCompare_ind (P := fun b e => b = true → P e) (fun a b c d _ => h9 a b c d) <|
  onListE_ind (P := fun b e => b = true → P e) (fun a b _ => h10 a b) <| onTupleE_ind (P := fun b e => b = true → P e) (fun a b c _ => h11 a b c) ff
noncomputable def noStar (e : Expr) : Bool := onListComp e (fun _ _ _ _ => true) <| onGenExp e (fun _ _ _ _ => true) (plainE e)
theorem star_step {e : Expr} {es : List Expr} {env : Env} : noStar e = true → starEach (e :: es) env = (false, eval e env) :: starEach es env :=
  onListComp_ind (P := fun b e => b = true → starEach (e :: es) env = (false, eval e env) :: starEach es env) (fun _ _ _ _ _ => rfl) <|
  onGenExp_ind (P := fun b e => b = true → starEach (e :: es) env = (false, eval e env) :: starEach es env) (fun _ _ _ _ _ => rfl)
    (plainE_ind (P := fun e => starEach (e :: es) env = (false, eval e env) :: starEach es env) (fun _ _ _ => rfl) (fun _ _ => rfl) (fun _ _ _ => rfl) (fun _ _ _ => rfl) (fun _ _ _ _ => rfl) (fun _ _ _ _ => rfl) (fun _ _ _ => rfl) (fun _ _ _ _ => rfl) (fun _ _ _ _ => rfl) (fun _ _ => rfl) (fun _ _ _ => rfl))
noncomputable def notSuper (e : Expr) : Bool := onConstant e (fun _ _ _ => true) <| onName e (fun _ _ => true) <| onAttribute e (fun _ _ _ => true) <| onSubscript e (fun _ _ _ => true) false
theorem base_plain {o : Expr} (h : notSuper o = true) (attr : Str) (env : Env) (whole : Sem Value) : attributeBase o attr env whole = whole := by
  revert h
  unfold notSuper
  exact onConstant_ind (P := fun b o => b = true → attributeBase o attr env whole = whole) (fun _ _ _ _ => rfl) (onName_ind (P := fun b o => b = true → attributeBase o attr env whole = whole) (fun _ _ _ => rfl)
    (onAttribute_ind (P := fun b o => b = true → attributeBase o attr env whole = whole) (fun _ _ _ _ => rfl) (onSubscript_ind (P := fun b o => b = true → attributeBase o attr env whole = whole) (fun _ _ _ _ => rfl) ff)))
theorem slice_plain {i : Expr} (av bv : Value) : plainE i = true → subscripted i false av bv = PySem.operate [av, bv] (PySem.getItem av bv) :=
  plainE_ind (P := fun i => subscripted i false av bv = PySem.operate [av, bv] (PySem.getItem av bv)) (fun _ _ _ => rfl) (fun _ _ => rfl) (fun _ _ _ => rfl) (fun _ _ _ => rfl) (fun _ _ _ _ => rfl) (fun _ _ _ _ => rfl) (fun _ _ _ => rfl) (fun _ _ _ _ => rfl) (fun _ _ _ _ => rfl) (fun _ _ => rfl) (fun _ _ _ => rfl)
theorem notSet_folds {iter : Expr} (h : plainE iter = true) (env : Env) (x : Value) : foldedSetIterable iter env x = pure x :=
  plainE_ind (P := fun iter => foldedSetIterable iter env x = pure x) (fun _ _ _ => rfl) (fun _ _ => rfl) (fun _ _ _ => rfl) (fun _ _ _ => rfl) (fun _ _ _ _ => rfl) (fun _ _ _ _ => rfl) (fun _ _ _ => rfl) (fun _ _ _ _ => rfl) (fun _ _ _ _ => rfl) (fun _ _ => rfl) (fun _ _ _ => rfl) h
noncomputable def simpleTarget (e : Expr) : Bool := onName e (fun _ _ => true) <| onAttribute e (fun _ _ _ => true) <| onSubscript e (fun _ _ _ => true) false
theorem simple_ind {P : Expr → Prop} (h2 : ∀ a b, P (.Name a b)) (h3 : ∀ a b c, P (.Attribute a b c)) (h4 : ∀ a b c, P (.Subscript a b c)) {e : Expr} : simpleTarget e = true → P e :=
  onName_ind (P := fun b e => b = true → P e) (fun a b _ => h2 a b) (onAttribute_ind (P := fun b e => b = true → P e) (fun a b c _ => h3 a b c) (onSubscript_ind (P := fun b e => b = true → P e) (fun a b c _ => h4 a b c) ff))
noncomputable def isTup (e : Expr) : Bool := onTupleE e (fun _ _ _ => true) false
theorem exec_simple {t value : Expr} {p : Pos} {env : Env} (h1 : simpleTarget t = true) (h2 : plainE value = true) : exec (.Assign [t] value p) env = (PySem.standAt p >>= fun _ => eval value env >>= fun v => assign t env v >>= fun _ => pure .next) := by
  rw [exec_Assign]
  have hs : swapsWithSole [t] value p.line env = pure false := plainE_ind (P := fun value => swapsWithSole [t] value p.line env = pure false) (fun _ _ _ => rfl) (fun _ _ => rfl) (fun _ _ _ => rfl) (fun _ _ _ => rfl) (fun _ _ _ _ => rfl) (fun _ _ _ _ => rfl) (fun _ _ _ => rfl) (fun _ _ _ _ => rfl) (fun _ _ _ _ => rfl) (fun _ _ => rfl) (fun _ _ _ => rfl) h2
  have hw : swappedStores [t] value env = pure none ∧ assignEach [t] env = [(false, assign t env)] := simple_ind (P := fun t => swappedStores [t] value env = pure none ∧ assignEach [t] env = [(false, assign t env)]) (fun _ _ => ⟨rfl, rfl⟩) (fun _ _ _ => ⟨rfl, rfl⟩) (fun _ _ _ => ⟨rfl, rfl⟩) h1
  rw [hs, hw.1, hw.2]
  rfl
end Mine
open PySem PySem.W PyProof.Rows
namespace Mine
structure AEnv where
  scope : Scope
  loc : Nat
  cells : List (Str × Nat)
  code : Value
  /-- the frame's id -/
  frm : Nat
structure EnvOk (X : Ctx) (ae : AEnv) (env : Env) (n : Nat) (ρ : Rho) : Prop where
  sc : env.scope = ae.scope
  fn : ae.scope.kind = .function
  loc : env.locals = ρ ae.loc
  ll : ae.loc < n
  cells : env.cells = mapCl ρ ae.cells
  cl : ∀ p ∈ ae.cells, p.2 < n
  gl : env.globals = mainGlobals
  bi : env.builtins = builtinsNs
  fr : env.frame = some (ρ ae.frm)
  fl : ae.frm < n
  top : ∃ e r, X.fr = e :: r ∧ e.2 = ae.frm
  cd : ae.code = .none ∨ env.code = ae.code
noncomputable def EnvK (X : Ctx) (ae : AEnv) (env : Env) : Kn where
  p n ρ F := EnvOk X ae env n ρ
  mono hn hρ hF g := ⟨g.sc, g.fn, by rw [hρ _ g.ll]; exact g.loc, Nat.lt_of_lt_of_le g.ll hn, by rw [mapCl_eq fun p hp => hρ _ (g.cl p hp)]; exact g.cells, fun p hp => Nat.lt_of_lt_of_le (g.cl p hp) hn, g.gl, g.bi, by rw [hρ _ g.fl]; exact g.fr, Nat.lt_of_lt_of_le g.fl hn, g.top, g.cd⟩
noncomputable def ofStatic (v : Value) : AV := match v with
  | .int i _ => .int i
  | .str x _ => .str x
  | .bool b => .bool b
  | v => .val v
theorem den_ofStatic {n : Nat} {ρ : Rho} {F : Fz} (v : Value) : Den n ρ F (ofStatic v) v := by
  cases v <;> first | exact .val _ | exact .int _ _ | exact .str _ _ | exact .bool _
noncomputable def setNs : List (Str × AV) → Str → AV → List (Str × AV)
  | [], x, v => [(x, v)]
  | p :: r, x, v => match p.1 == x with
    | true => (x, v) :: r
    | false => p :: setNs r x v
theorem setNs_look (x : Str) (v : AV) (y : Str) : ∀ m : List (Str × AV), (setNs m x v).lookup y = if y == x then some v else m.lookup y
  | [] => by
    show List.lookup y [(x, v)] = _
    rw [List.lookup_cons]
    cases y == x <;> rfl
  | p :: m => by
    unfold setNs
    rw [List.lookup_cons]
    cases e : p.1 == x with
    | true =>
      rw [eq_of_beq e]
      show List.lookup y ((x, v) :: m) = _
      rw [List.lookup_cons]
      cases y == x <;> rfl
    | false =>
      show List.lookup y (p :: setNs m x v) = _
      rw [List.lookup_cons, setNs_look x v y m]
      cases h : y == p.1 with
      | true => rw [eq_of_beq h, e]; rfl
      | false => rfl
theorem NsDen.set {n : Nat} {ρ : Rho} {F : Fz} {m : List (Str × AV)} {f : Str → Option Value} (x : NsDen n ρ F m f) {nm : Str} {av : AV} {v : Value} (d : Den n ρ F av v) :
    NsDen n ρ F (setNs m nm av) (fun y => if y = nm then some v else f y) := by
  intro y w h
  rw [setNs_look] at h
  by_cases e : y = nm
  · rw [e, beq_self_eq_true, if_pos rfl] at h
    exact ⟨v, if_pos e, Option.some.inj h ▸ d⟩
  · rw [if_neg fun q => e (eq_of_beq q)] at h
    simp only [if_neg e]
    exact x y w h
noncomputable def bNames : List (Str × Value) := [("len", .builtin "len"), ("range", .type "range"), ("next", .builtin "next"), ("iter", .builtin "iter"), ("enumerate", .type "enumerate"), ("str", .type "str"),
  ("isinstance", .builtin "isinstance"), ("divmod", .builtin "divmod"), ("list", .type "list"), ("reversed", .type "reversed"), ("all", .builtin "all"), ("repr", .builtin "repr"), ("type", .type "type")]
structure Lib (X : Ctx) : Prop where
  names : ∀ x v, bNames.lookup x = some v → X.mb x = some v
  nm : ∃ v, peek X.K ⟨X.prog, X.w.params⟩ (nsGet mainGlobals "__name__") = some v
noncomputable def globalIn (K : Frag) (x : Str) : Option (Option Value) := (K.lookup mainGlobals).bind (lookIn x)
noncomputable def globalV (K : Frag) (x : Str) : Option Value := onSome (globalIn K x) (fun o => onSome o some (bNames.lookup x)) none
noncomputable def eGlobal (K : Frag) (x : Str) : Option AV := (globalV K x).map ofStatic
noncomputable def cellOf (ae : AEnv) (x : Str) : EM AV := EM.bind (EM.opt (ae.cells.lookup x)) fun i => EM.bind (EM.cellAs asBox i) EM.opt
noncomputable def nameBy (K : Frag) (ae : AEnv) (x : Str) (k : NameKind) : EM AV := match k with
  | .local => EM.bind (EM.cellAs asNs ae.loc) fun m => EM.opt (m.lookup x)
  | .cell => cellOf ae x
  | .free => _root_.cond (x == ("__classdict__" : Str)) EM.fail (cellOf ae x)
  | .globalExplicit => EM.fail
  | .globalImplicit => EM.opt (eGlobal K x)
noncomputable def eName (K : Frag) (ae : AEnv) (x : Str) : EM AV := _root_.cond (x == ("__debug__" : Str)) EM.fail (onSome (ae.scope.names.lookup x) (nameBy K ae x) EM.fail)
theorem lookup_map {β γ : Type} (f : β → γ) (x : Str) : ∀ l : List (Str × β), (l.map fun p => (p.1, f p.2)).lookup x = (l.lookup x).map f
  | [] => rfl
  | p :: l => by
    rw [List.map_cons, List.lookup_cons, List.lookup_cons, lookup_map f x l]
    cases x == p.1 <;> rfl
section
variable {X : Ctx} {A : Around} {ρ : Rho} {F : Fz} {σ : St} {s : Shared} {Γ : Kn} {ae : AEnv} {env : Env} {x : Str}
theorem ns_look {h : Heap} {a : Addr} {o : Obj} {x : Str} {r : Option Value} (ho : h.get? a = some o) (e : lookIn x o = some r) {Q : Option Value → Shared → Prop} {M : Model} {A : Around} {E : Value → Shared → Prop} {s : Shared} (hs : s.heap = h)
    (q : Q r s) : wpAny M A (nsGet a x) Q E s := by
  unfold nsGet
  refine wpAny_bind (wpAny_loadPart (hs ▸ ho) ?_)
  rw [nsLook_of e]
  exact wpAny_pure q
theorem EnvOk.fk {n : Nat} (g : EnvOk X ae env n ρ) : env.scope.kind = .function := g.sc ▸ g.fn
theorem EnvOk.cell {n : Nat} (g : EnvOk X ae env n ρ) {i : Nat} (h : ae.cells.lookup x = some i) : env.cells.lookup x = some (ρ i) := by rw [g.cells, mapCl, lookup_map, h]; rfl
theorem EnvOk.kind {n : Nat} (g : EnvOk X ae env n ρ) {k : NameKind} (h : ae.scope.names.lookup x = some k) : env.kindOf x = some k := by unfold Env.kindOf; rw [g.sc]; exact h
theorem RunAt.boxV {C : AV → St → Prop} (I : Inv X ρ F σ s) (g : EnvOk X ae env σ.n ρ) (H : ∀ i w v, env.cells.lookup x = some (ρ i) → s.heap.IsCell (ρ i) (some w) → Den σ.n ρ F v w → C v σ) : RunAt σ (cellOf ae x) C :=
  RunAt.opt fun i hi => RunAt.cellAs asBox_some fun o ho => RunAt.optE fun v hv => (I.atB ho).elim fun w h => by
    rw [hv] at h
    exact h.2.elim fun u hu => H i u v (g.cell hi) (hu.1 ▸ h.1) hu.2
theorem global_is (L : Lib X) (I : Inv X ρ F σ s) (g : EnvOk X ae env σ.n ρ) {v : Value} (hv : globalV X.K x = some v) {Q : Value → Shared → Prop} {E : Value → Shared → Prop} (q : Q v s) : wpAny (model X.prog X.w) A (loadGlobal env x) Q E s := by
  unfold loadGlobal
  rw [g.gl, g.bi]
  unfold globalV at hv
  cases hg : globalIn X.K x with
  | none => rw [hg] at hv; exact noneOf hv
  | some o =>
    rw [hg] at hv
    refine (Option.bind_eq_some_iff.mp hg).elim fun ob h => wpAny_bind (ns_look (I.Kin _ _ h.1) h.2 rfl ?_)
    cases o with
    | some w => exact wpAny_pure (Option.some.inj hv ▸ q)
    | none =>
      refine wpAny_bind (wpAny_nsGet (I.ns I.base.mb) ?_)
      rw [L.names _ _ hv]
      exact wpAny_pure q
theorem Sim.loadN (L : Lib X) (x : Str) : Sim X A (EnvK X ae env) RDen (eName X.K ae x) (loadName env x) := by
  unfold eName
  cases hd : x == ("__debug__" : Str) with
  | true => exact Sim.fail
  | false =>
    cases hl : ae.scope.names.lookup x with
    | none => exact Sim.fail
    | some k =>
      refine Sim.ofRun fun σ ρ F s I g => ?_
      have hl' := EnvOk.kind g hl
      cases k with
      | «local» => exact RunAt.cellAs asNs_some fun m hm => RunAt.optE fun v hv => (I.atNs hm).elim fun f h => (h.2 x v hv).elim fun w hw => Goes.same I fun Q E q => wpAny_loadName_local (EnvOk.fk g) hl' (by rw [EnvOk.loc g]; exact h.1) hw.1 (q w hw.2)
      | cell => exact RunAt.boxV I g fun i w v hc hb d => Goes.same I fun Q E q => wpAny_loadName_cell (EnvOk.fk g) hl' hc hb (q w d)
      | free =>
        show RunAt σ (_root_.cond (x == ("__classdict__" : Str)) EM.fail (Mine.cellOf ae x)) _
        cases hn : x == ("__classdict__" : Str) with
        | true => exact RunAt.fail
        | false => exact RunAt.boxV I g fun i w v hc hb d => Goes.same I fun Q E q => wpAny_loadName_free (EnvOk.fk g) hl' hc hb (q w d) hn
      | globalExplicit => exact RunAt.fail
      | globalImplicit =>
        refine RunAt.optE fun v hv => (Option.map_eq_some_iff.mp hv).elim fun w hw => Goes.same I fun Q E q => ?_
        unfold loadName
        simp only [Env.blockKind, EnvOk.fk g, hl', ScopeKind.isAnnotationScope, Bool.false_and, Bool.false_eq_true, if_false]
        exact global_is L I g hw.1 (q w (hw.2 ▸ den_ofStatic w))
theorem Sim.name (L : Lib X) (x : Str) (pos : Pos) : Sim X A (EnvK X ae env) RDen (eName X.K ae x) (eval (.Name x pos) env) := by
  intro ev b ev' cs e hc ρ F s I g Q E hQ
  refine wpAny_Name (Sim.loadN L x ev b ev' cs e hc ρ F s I g Q E hQ) ?_
  unfold eName at e
  cases hd : x == ("__debug__" : Str) with
  | true => rw [hd] at e; exact noneOf e
  | false => rfl
section
variable (ae : AEnv) (x : Str) (v : AV)
noncomputable def setBox : EM Unit := EM.bind (EM.opt (ae.cells.lookup x)) fun i => EM.bind (EM.cellAs asBox i) fun _ => EM.upd fun σ => σ.set i (.box (some v))
noncomputable def bindBy (k : NameKind) : EM Unit := match k with
  | .local => EM.bind (EM.cellAs asNs ae.loc) fun m => EM.upd fun σ => σ.set ae.loc (.ns (setNs m x v))
  | .cell => setBox ae x v
  | .free => setBox ae x v
  | .globalExplicit => EM.fail
  | .globalImplicit => EM.fail
noncomputable def eBind : EM Unit := onSome (ae.scope.names.lookup x) (bindBy ae x v) EM.fail
end
theorem RunAt.setBox {av : AV} {v : Value} {C : Unit → St → Prop} (I : Inv X ρ F σ s) (g : EnvOk X ae env σ.n ρ) (dv : Den σ.n ρ F av v) (H : ∀ i v₀ σ', env.cells.lookup x = some (ρ i) → s.heap.IsCell (ρ i) v₀ → (∀ h', h'.IsCell (ρ i) (some v) → Heap.SameBut (ρ i) s.heap h' → Inv X ρ F σ' { s with heap := h' } ∧ Stp ρ F σ s ρ F σ' { s with heap := h' }) → C () σ') : RunAt σ (setBox ae x av) C :=
  RunAt.opt fun i hi => RunAt.cellAs asBox_some fun o ho => RunAt.updE ((I.atB ho).elim fun w h => H i w _ (g.cell hi) h.1 fun h' hc hs => I.set (c' := .box (some av)) ho hs.extBut (.ofBox hc ⟨v, rfl, dv⟩) s.toks)
theorem Sim.store {av : AV} {v : Value} (hg : Γ.le (EnvK X ae env)) (hv : Γ.le (RDen av v)) : Sim X A Γ (fun _ _ => Kn.top) (eBind ae x av) (storeName env x v) := by
  unfold eBind
  cases hl : ae.scope.names.lookup x with
  | none => exact Sim.fail
  | some k =>
    refine Sim.ofRun fun σ ρ F s I q => ?_
    have g := hg _ _ _ q
    have dv := hv _ _ _ q
    have hl' := EnvOk.kind g hl
    cases k with
    | «local» =>
      show RunAt σ (EM.bind (EM.cellAs asNs ae.loc) fun m => EM.upd fun σ => σ.set ae.loc (.ns (setNs m x av))) _
      exact RunAt.cellAs asNs_some fun m hm => RunAt.updE ((I.atNs hm).elim fun f h => Goes.to fun Q E hQ => wpAny_storeName_local hl' (by rw [EnvOk.loc g]; exact h.1) (fun h' hn hs => hQ () _ ρ F trivial (by
        rw [EnvOk.loc g] at hn hs
        exact I.set hm hs.extBut (.ofNs hn (NsDen.set h.2 dv)) (s.toks + 1))) (by rw [EnvOk.fk g]; rfl))
    | cell => exact RunAt.setBox I g dv fun i v₀ σ' hc hb st => Goes.to fun Q E hQ => wpAny_storeName_cell (EnvOk.fk g) hl' hc hb fun h' h1 h2 => hQ () _ ρ F trivial (st h' h1 h2)
    | free => exact RunAt.setBox I g dv fun i v₀ σ' hc hb st => Goes.to fun Q E hQ => storeName_free (EnvOk.fk g) hl' hc hb fun h' h1 h2 => hQ () _ ρ F trivial (st h' h1 h2)
    | globalExplicit => exact RunAt.fail
    | globalImplicit => exact RunAt.fail
noncomputable def eConst (c : Const) : EM AV := match c with
  | .none => EM.ret (.val .none)
  | .bool b => EM.ret (.bool b)
  | .int i => EM.ret (.int i)
  | .str x => EM.ret (.str x)
  | _ => EM.fail
theorem Sim.fresh {β : Type} {R : β → Value → Kn} {x : EM β} {f : Tok → Value} (h : ∀ t, Sim X A Γ R x (pure (f t))) : Sim X A Γ R x (do return f (← PySem.fresh)) :=
  fun ev b ev' cs e hc ρ F s I g Q E hQ => wpAny_bind (wpAny_fresh (h s.toks ev b ev' cs e hc ρ F { s with toks := s.toks + 1 } (I.toks _) g Q E fun v s' ρ' F' r I' st => hQ v s' ρ' F' r I' ((Stp.toks I.ids _).trans st)))
theorem Sim.const (c : Const) (k : Nat) (pos : Pos) : Sim X A Γ RDen (eConst c) (eval (.Constant c k pos) env) := by
  rw [eval_Constant]
  cases c with
  | none => exact Sim.ret fun _ _ _ _ => rfl
  | bool b => exact Sim.ret fun _ _ _ _ => rfl
  | int i => exact Sim.fresh fun t => Sim.ret fun _ _ _ _ => ⟨_, rfl⟩
  | str x => exact Sim.fresh fun t => Sim.ret fun _ _ _ _ => ⟨_, rfl⟩
  | _ => exact Sim.fail
end
noncomputable def typC (c : Cell) : Option Value := onCList c (fun _ => some (.type "list")) <| onCInst c (fun C _ => some (.ref C)) <| onCLiter c (fun _ _ => some (.type "list_iterator")) <| onCExc c (fun C _ _ => some (.ref C)) <| onCRaw c (fun o => some o.cls) <| onCLend c (some (.type "list_iterator")) none
noncomputable def typ (K : Frag) (σ : St) (av : AV) : Option Value := onInt av (fun _ => some (.type "int")) <| onStr av (fun _ => some (.type "str")) <| onBool av (fun _ => some (.type "bool")) <| onTup av (fun _ => some (.type "tuple")) <|
  onObj av (fun C _ => some (.ref C)) <| onSlo av (fun C _ => some (.ref C)) <| onClo av (fun _ _ _ _ _ => some (.type "function")) <| onVal av (fun v => typeIn K v) <| onRef av (fun i => (σ.get i).bind typC) none
section
variable {X : Ctx} {A : Around} {ρ : Rho} {F : Fz} {σ : St} {s : Shared} {Γ : Kn}
theorem typC_is {n : Nat} {a : Addr} {h : Heap} {c : Cell} {T : Value} : typC c = some T → CellAt n ρ F h a c → ∃ o, h.get? a = some o ∧ o.cls = T :=
  onCList_ind (P := fun x c => x = some T → CellAt n ρ F h a c → ∃ o, h.get? a = some o ∧ o.cls = T) (fun xs e x => x.ex fun o h1 (h2 : ∃ vs k, o = oList vs k ∧ Dens n ρ F xs vs) => ⟨o, h1, h2.elim fun vs q => q.elim fun k q => q.1 ▸ Option.some.inj e⟩) <|
  onCInst_ind (P := fun x c => x = some T → CellAt n ρ F h a c → ∃ o, h.get? a = some o ∧ o.cls = T) (fun C d e x => x.ex fun o h1 (h2 : o = oInst C (ρ d) ∧ d < n) => ⟨o, h1, h2.1 ▸ Option.some.inj e⟩) <|
  onCLiter_ind (P := fun x c => x = some T → CellAt n ρ F h a c → ∃ o, h.get? a = some o ∧ o.cls = T) (fun l k e x => x.ex fun o h1 (h2 : o = oIter (.ref (ρ l)) k ∧ l < n) => ⟨o, h1, h2.1 ▸ Option.some.inj e⟩) <|
  onCExc_ind (P := fun x c => x = some T → CellAt n ρ F h a c → ∃ o, h.get? a = some o ∧ o.cls = T) (fun C d t e x => x.ex fun o h1 (h2 : ExcO n ρ C d t o) => ⟨o, h1, by cases h2 with | mk vs e2 => rw [e2]; exact Option.some.inj e⟩) <|
  onCRaw_ind (P := fun x c => x = some T → CellAt n ρ F h a c → ∃ o, h.get? a = some o ∧ o.cls = T) (fun r e x => x.ex fun o h1 (h2 : o = r) => ⟨o, h1, h2 ▸ Option.some.inj e⟩) <|
  onCLend_ind (P := fun x c => x = some T → CellAt n ρ F h a c → ∃ o, h.get? a = some o ∧ o.cls = T) (fun e x => x.ex fun o h1 (h2 : ∃ k, o = oIter .none k) => ⟨o, h1, h2.elim fun k q => q ▸ Option.some.inj e⟩) fun e => noneOf e
theorem looks_cls {M : Model} {h : Heap} {a : Addr} {v T : Value} (e : v = .ref a) (x : ∃ o, h.get? a = some o ∧ o.cls = T) : Looks M h (typeOf v) T := x.elim fun o q => e ▸ q.2 ▸ (Looks.ld q.1).andThen .now
theorem typ_looks (I : Inv X ρ F σ s) {M : Model} {av : AV} {v T : Value} (d : Den σ.n ρ F av v) (h : typ X.K σ av = some T) : Looks M s.heap (typeOf v) T := by
  cases av with
  | val w => exact (show v = w from d) ▸ looks_typeIn I.Kin h
  | bool b => exact (show v = .bool b from d) ▸ Option.some.inj h ▸ Looks.of_pure rfl
  | int i => exact (den_int d).elim fun t e => e ▸ Option.some.inj h ▸ Looks.of_pure rfl
  | str x => exact (den_str d).elim fun t e => e ▸ Option.some.inj h ▸ Looks.of_pure rfl
  | ref i => exact (Option.bind_eq_some_iff.mp (show (σ.get i).bind typC = some T from h)).elim fun c q => looks_cls (den_ref d).1 (typC_is q.2 (I.at q.1))
  | tup xs => cases den_tup d with | mk a vs k e ha => exact looks_cls e ⟨_, I.froz _ _ ha, Option.some.inj h⟩
  | obj C fs => cases den_obj d with | mk a d od es k e ha => exact looks_cls e ⟨_, I.froz _ _ ha, Option.some.inj h⟩
  | slo C fs => cases den_slo d with | mk a d od vs e ha => exact looks_cls e ⟨_, I.froz _ _ ha, Option.some.inj h⟩
  | clo a b c e f => cases (show dClo σ.n ρ F a b c e f v from d) with | mk a qual o pm code ct e ha hc => exact looks_cls e ⟨_, I.froz _ _ ha, hc.trans (Option.some.inj h)⟩
noncomputable def isNN (o : Option (Option Value)) : Bool := onSome o (fun v => onSome v (fun _ => false) true) false
theorem isNN_ok {o : Option (Option Value)} (h : isNN o = true) : o = some none := by
  rcases o with _ | _ | v
  · exact ff h
  · rfl
  · exact ff h
noncomputable def noTruth (K : Frag) (T : Value) : Bool := isNN (findIn K T "__bool__") && isNN (findIn K T "__len__")
theorem truthy_open (I : Inv X ρ F σ s) {M : Model} {av : AV} {v : Value} {a : Addr} {T : Value} (d : Den σ.n ρ F av v) (ha : v = .ref a) (h : typ X.K σ av = some T) (hb : Looks M s.heap (typeLookup T "__bool__") none) (hl : Looks M s.heap (typeLookup T "__len__") none)
    {Q : Bool → Shared → Prop} {E : Value → Shared → Prop} (q : Q true s) : wpAny M A (truthy v) Q E s := by
  have T1 := typ_looks (M := M) I d h
  rw [ha] at T1 ⊢
  unfold truthy
  refine wpAny_bind (m := callSpecial? (.ref a) (Str.ofString "__bool__")) (wpAny_bind (wpAny_bind (T1.here (hb.here (wpAny_pure ?_)))))
  refine wpAny_bind (wpAny_bind (T1.here (hl.here ?_)))
  exact wpAny_pure q
theorem truthy_cls (I : Inv X ρ F σ s) {av : AV} {v : Value} {a : Addr} {C : Addr} (d : Den σ.n ρ F av v) (ha : v = .ref a) (h : typ X.K σ av = some (.ref C)) (hn : noTruth X.K (.ref C) = true) : Goes X A ρ F σ s (truthy v) (REq true) σ := by
  rw [noTruth, Bool.and_eq_true] at hn
  exact Goes.same I fun Q E q => truthy_open I d ha h (looks_findIn I.Kin (isNN_ok hn.1)) (looks_findIn I.Kin (isNN_ok hn.2)) (q true rfl)
noncomputable def truthC (K : Frag) (c : Cell) : EM Bool := onCList c (fun xs => EM.retIf (xs.length < 2 ^ 62) (!xs.isEmpty)) <| onCInst c (fun C _ => EM.retB (noTruth K (.ref C)) true) EM.fail
noncomputable def eTruth (K : Frag) (av : AV) : EM Bool := onBool av EM.ret <| onInt av (fun i => EM.ret (i != 0)) <| onRef av (fun i => EM.bind (EM.cell i) (truthC K)) <|
  onStr av (fun x => EM.retIf ((x.length : Int) < 2 ^ 63) ((x.length : Int) != 0)) <| onObj av (fun C _ => EM.retB (noTruth K (.ref C)) true) <| onSlo av (fun C _ => EM.retB (noTruth K (.ref C)) true) <|
  onClo av (fun _ _ _ _ _ => EM.ret true) <| onVal av (fun v => onVNone v (EM.ret false) EM.fail) EM.fail
theorem fn_bool : typeLookup (.type "function") "__bool__" = pure none := by kernel_rfl
theorem fn_len : typeLookup (.type "function") "__len__" = pure none := by kernel_rfl
theorem Dens.length {n : Nat} : ∀ {xs : List AV} {vs : List Value}, Dens n ρ F xs vs → xs.length = vs.length
  | [], _, d => dens_n d ▸ rfl
  | _ :: _, _, d => dens_c (P := fun vs => _ + 1 = vs.length) (fun _ _ _ hs => congrArg (· + 1) (Dens.length hs)) d
theorem small62 {n : Nat} (h : n < 2 ^ 62) : (n : Int) < 2 ^ 63 := by omega
theorem truthy_lst (I : Inv X ρ F σ s) {i : Nat} {xs : List AV} (hx : σ.get i = some (.list xs)) (h : xs.length < 2 ^ 62) : Goes X A ρ F σ s (truthy (.ref (ρ i))) (REq (!xs.isEmpty)) σ :=
  (I.atL hx).elim fun vs q => q.elim fun k q => Goes.tok I fun Q E hQ => by
    refine wpAny_truthy_list ⟨_, q.1, rfl, k, rfl⟩ (by rw [List.size_toArray, ← q.2.length]; exact small62 h) ?_
    have : (!vs.toArray.isEmpty) = (!xs.isEmpty) := by
      have := q.2.length
      cases xs <;> cases vs <;> first | rfl | cases this
    rw [this]
    exact hQ _ _ rfl
theorem Sim.truth {av : AV} {v : Value} (hv : Γ.le (RDen av v)) : Sim X A Γ REq (eTruth X.K av) (truthy v) := by
  refine Sim.ofRun fun σ ρ F s I g => ?_
  have d : Den σ.n ρ F av v := hv _ _ _ g
  cases av with
  | bool b => exact RunAt.ret (Goes.same I fun Q E q => (show v = .bool b from d) ▸ wpAny_truthy_bool (q b rfl))
  | int i => exact RunAt.ret (Goes.same I fun Q E q => (den_int d).elim fun t e => e ▸ P.truthy_int (q _ rfl))
  | ref i =>
    have d' := (den_ref d).1
    rw [d']
    show RunAt σ (EM.bind (EM.cell i) (truthC X.K)) _
    refine RunAt.cell fun c => onCList_ind (P := fun x c => σ.get i = some c → RunAt σ x fun b σ' => Goes X A ρ F σ s (truthy (.ref (ρ i))) (REq b) σ') (fun xs hx => RunAt.retIf fun h => truthy_lst I hx h) <|
      onCInst_ind (P := fun x c => σ.get i = some c → RunAt σ x fun b σ' => Goes X A ρ F σ s (truthy (.ref (ρ i))) (REq b) σ') (fun C e hx => RunAt.retB fun h => truthy_cls I (av := .ref i) (d' ▸ d) rfl (show (σ.get i).bind typC = _ by rw [hx]; rfl) h) fun _ => RunAt.fail
  | str x =>
    show RunAt σ (EM.retIf ((x.length : Int) < 2 ^ 63) ((x.length : Int) != 0)) _
    exact RunAt.retIf fun h => Goes.tok I fun Q E q => (den_str d).elim fun t e => e ▸ P.truthy_str (Int.not_le.mpr h) (q _ _ rfl)
  | obj C fs =>
    show RunAt σ (EM.retB (noTruth X.K (.ref C)) true) _
    exact RunAt.retB fun h => by cases den_obj d with | mk a d' od es k e ha => exact truthy_cls I d e rfl h
  | slo C fs =>
    show RunAt σ (EM.retB (noTruth X.K (.ref C)) true) _
    exact RunAt.retB fun h => by cases den_slo d with | mk a d' od vs e ha => exact truthy_cls I d e rfl h
  | clo a b c e f => exact RunAt.ret (by cases (show dClo σ.n ρ F a b c e f v from d) with | mk a qual o pm code ct e ha hc => exact Goes.same I fun Q E q => truthy_open I d e rfl (Looks.of_pure fn_bool) (Looks.of_pure fn_len) (q true rfl))
  | val w => exact onVNone_ind (P := fun (x : EM Bool) w => v = w → RunAt σ x fun b σ' => Goes X A ρ F σ s (truthy v) (REq b) σ') (fun e => RunAt.ret (Goes.same I fun Q E q => e ▸ wpAny_pure (q false rfl))) (fun _ => RunAt.fail) d
  | tup xs => exact RunAt.fail
end
section
variable {n : Nat} {ρ : Rho} {F : Fz}
theorem DenEs.find (x : Str) : ∀ {fs : List (Str × AV)} {es : List DictEntry}, DenEs n ρ F fs es → (fs.lookup x = none → es.find? (·.key.isStr x) = none) ∧ ∀ av, fs.lookup x = some av → ∃ e, es.find? (·.key.isStr x) = some e ∧ Den n ρ F av e.val
  | [], es, d => by rw [show es = [] from d]; exact ⟨fun _ => rfl, fun _ h => noneOf h⟩
  | _ :: _, [], d => d.elim
  | p :: fs, e :: es, d => by
    have ih := DenEs.find x d.2
    have hk : e.key.isStr x = (x == p.1) := d.1.1.elim fun t q => by rw [q]; exact Bool.beq_comm
    rw [List.lookup_cons, List.find?_cons, hk]
    cases x == p.1 with
    | true => exact ⟨fun h => (nomatch h), fun av h => ⟨e, rfl, Option.some.inj h ▸ d.1.2⟩⟩
    | false => exact ih
theorem DenEs.noRef : ∀ {fs : List (Str × AV)} {es : List DictEntry}, DenEs n ρ F fs es → es.any (·.refKey) = false
  | [], es, d => by rw [show es = [] from d]; rfl
  | _ :: _, [], d => d.elim
  | p :: fs, e :: es, d => by
    rw [List.any_cons, DenEs.noRef d.2, Bool.or_false]
    exact d.1.1.elim fun t q => by unfold DictEntry.refKey; rw [q]
theorem DenEs.len : ∀ {fs : List (Str × AV)} {es : List DictEntry}, DenEs n ρ F fs es → es.length = fs.length
  | [], es, d => by rw [show es = [] from d]; rfl
  | _ :: _, [], d => d.elim
  | p :: fs, e :: es, d => congrArg (· + 1) (DenEs.len d.2)
theorem lookIn_dict {es : List DictEntry} {o : Obj} {k : Nat} (ho : o.data = .dict es.toArray k) (hr : es.any (·.refKey) = false) (x : Str) : lookIn x o = some ((es.find? (·.key.isStr x)).map (·.val)) := by
  unfold lookIn
  rw [ho]
  dsimp only
  cases es.find? (·.key.isStr x) with
  | some e => rfl
  | none =>
    dsimp only
    rw [hr]
    rfl
theorem lookIn_no {fs : List (Str × AV)} {es : List DictEntry} (d : DenEs n ρ F fs es) {o : Obj} {k : Nat} (ho : o.data = .dict es.toArray k) {x : Str} (h : fs.lookup x = none) : lookIn x o = some none := by
  rw [lookIn_dict ho d.noRef, (d.find x).1 h]; rfl
theorem lookIn_es {fs : List (Str × AV)} {es : List DictEntry} (d : DenEs n ρ F fs es) {o : Obj} {k : Nat} (ho : o.data = .dict es.toArray k) {x : Str} {av : AV} (h : fs.lookup x = some av) : ∃ v, lookIn x o = some (some v) ∧ Den n ρ F av v :=
  ((d.find x).2 av h).imp' (·.val) fun e q => ⟨by rw [lookIn_dict ho d.noRef, q.1]; rfl, q.2⟩
theorem Dens.nth : ∀ {xs : List AV} {vs : List Value}, Dens n ρ F xs vs → ∀ {i : Nat} {av : AV}, xs[i]? = some av → ∃ v, vs[i]? = some v ∧ Den n ρ F av v
  | [], _, _, _, _, e => noneOf e
  | _ :: _, [], d, _, _, _ => d.elim
  | x :: xs, v :: vs, d, 0, av, e => ⟨v, rfl, Option.some.inj e ▸ d.1⟩
  | x :: xs, v :: vs, d, i + 1, av, e => Dens.nth d.2 (i := i) e
end
noncomputable def isBuiltin (nm : String) (o : Option (Option Value)) : Bool := onSome o (fun v => onSome v (fun w => onVBuiltin w (fun i => i == nm) false) false) false
theorem isBuiltin_ok {nm : String} {o : Option (Option Value)} : isBuiltin nm o = true → o = some (some (Value.builtin nm)) :=
  onSome_ind (P := fun b (o : Option (Option Value)) => b = true → o = some (some (Value.builtin nm))) (fun v => onSome_ind (P := fun b (v : Option Value) => b = true → some v = some (some (Value.builtin nm))) (fun w => onVBuiltin_ind (P := fun b (w : Value) => b = true → some (some w) = some (some (Value.builtin nm))) (fun i h => by rw [eq_of_beq h]) ff) ff) ff
noncomputable def hasDictIn (K : Frag) (C : Addr) : Bool := onSome (clsIn K C) (fun cd => cd.hasDict) false
theorem hasDict_ok {K : Frag} {C : Addr} (h : hasDictIn K C = true) : ∃ cd, clsIn K C = some cd ∧ cd.hasDict = true := by
  unfold hasDictIn at h
  cases e : clsIn K C with
  | none => rw [e] at h; exact ff h
  | some cd => rw [e] at h; exact ⟨cd, rfl, h⟩
noncomputable def plainGet (K : Frag) (C : Addr) : Bool := isBuiltin "object.__getattribute__" (findIn K (.ref C) "__getattribute__") && hasDictIn K C
noncomputable def okV (av : AV) : Bool := onVal av handedIn true
theorem okV_handed {n : Nat} {ρ : Rho} {F : Fz} {av : AV} {v : Value} (d : Den n ρ F av v) (h : okV av = true) : handedIn v = true := by
  cases av with
  | val w => rw [show v = w from d]; exact h
  | bool b => rw [show v = .bool b from d]; rfl
  | int i => exact (den_int d).elim fun t e => e ▸ rfl
  | str x => exact (den_str d).elim fun t e => e ▸ rfl
  | ref i => exact d.1 ▸ rfl
  | tup xs => cases den_tup d with | mk a vs k e => rw [e]; rfl
  | obj C fs => cases den_obj d with | mk a d' od es k e => rw [e]; rfl
  | slo C fs => cases den_slo d with | mk a d' od vs e => rw [e]; rfl
  | clo a b c e f => cases (show dClo n ρ F a b c e f v from d) with | mk a qual o pm code ct e => rw [e]; rfl
noncomputable def okAV (o : Option AV) : Option AV := o.bind fun av => _root_.cond (okV av) (some av) none
theorem okAV_ok {o : Option AV} {av : AV} (h : okAV o = some av) : o = some av ∧ okV av = true := (Option.bind_eq_some_iff.mp h).elim fun a q => by
  cases e : okV a with
  | true => rw [e] at q; rw [← Option.some.inj q.2]; exact ⟨q.1, e⟩
  | false => rw [e] at q; exact noneOf q.2
noncomputable def attrIf (b : Bool) (K : Frag) (C : Addr) (fs : List (Str × AV)) (x : Str) : Option AV := _root_.cond (b && isNN (findIn K (.ref C) x)) (okAV (fs.lookup x)) none
noncomputable def attrOf (K : Frag) (C : Addr) (fs : List (Str × AV)) (x : Str) : Option AV := attrIf (plainGet K C) K C fs x
noncomputable def excGet (K : Frag) (C : Addr) : Bool := (isBuiltin "BaseException.__getattribute__" (findIn K (.ref C) "__getattribute__") && isNN (findIn K (.ref C) "__getattr__")) && (hasDictIn K C && (mroIn K C (.type "BaseException") == some true))
noncomputable def attrExc (K : Frag) (C : Addr) (fs : List (Str × AV)) (x : Str) : Option AV := attrIf (excGet K C) K C fs x
theorem attrIf_ok {b : Bool} {K : Frag} {C : Addr} {fs : List (Str × AV)} {x : Str} {av : AV} (h : attrIf b K C fs x = some av) : (b = true ∧ findIn K (.ref C) x = some none) ∧ fs.lookup x = some av ∧ okV av = true := by
  unfold attrIf at h
  cases e : (b && isNN (findIn K (.ref C) x)) with
  | true => rw [e] at h; rw [Bool.and_eq_true] at e; exact ⟨⟨e.1, isNN_ok e.2⟩, okAV_ok h⟩
  | false => rw [e] at h; exact noneOf h
theorem findObj_own {K : Frag} {C : Addr} {od : Obj} {x : Str} {v : Value} (hd : hasDictIn K C = true) (hf : findIn K (.ref C) x = some none) (hl : lookIn x od = some (some v)) :
    findObj K C (some od) x = some (.value v) := (hasDict_ok hd).elim fun cd h => by
  unfold findObj
  rw [h.1, Option.bind_some, hf, Option.bind_some]
  dsimp only
  rw [Option.bind_some, Option.bind_some]
  unfold PySem.W.ownOf
  rw [h.2]
  dsimp only
  rw [if_pos rfl, hl, Option.bind_some]
noncomputable def noDictIn (K : Frag) (C : Addr) : Bool := onSome (clsIn K C) (fun cd => !cd.hasDict) false
theorem findObj_noDict {K : Frag} {C : Addr} (h : noDictIn K C = true) (od : Option Obj) (x : Str) : findObj K C od x = findObj K C none x := by
  unfold noDictIn at h
  unfold findObj
  cases hc : clsIn K C with
  | none => rfl
  | some cd =>
    rw [hc] at h
    have h' : (!cd.hasDict) = true := h
    have hd : cd.hasDict = false := by
      cases e : cd.hasDict with
      | false => rfl
      | true => rw [e] at h'; exact ff h'
    simp only [Option.bind_some, PySem.W.ownOf, hd, Bool.false_eq_true, if_false]
theorem bexc_kind : builtinKind "BaseException.__getattribute__" = some .slot := by decide +kernel
theorem bexc_split : splitId "BaseException.__getattribute__" = some ("BaseException", "__getattribute__") := by decide +kernel
theorem bexc_ne : (Value.builtin "BaseException.__getattribute__" == Value.builtin "object.__getattribute__") = false := by decide +kernel
theorem get_exc {prog : Program} {w : World} {A : Around} {E : Value → Shared → Prop} {s : Shared} {K : Frag} {x C : Addr} {ox : Obj} {od : Option Obj} {name : Str} {expr : Bool} {Q : Value → Shared → Prop} {v : Value} (X : K.In s.heap) (I : InstAt s.heap x ox C od)
    (hga : findIn K (.ref C) "__getattribute__" = some (some (.builtin "BaseException.__getattribute__"))) (hgn : findIn K (.ref C) "__getattr__" = some none) (hsub : mroIn K C (.type "BaseException") = some true)
    (hf : findObj K C od name = some (.value v)) (hh : handedIn v = true) (h : Q v { s with toks := s.toks + 1 }) : wpAny (model prog w) A (getAttr (.ref x) name expr) Q E s := by
  have L0 := I.type (M := model prog w)
  have L4 : Looks (model prog w) s.heap (isInstance (.ref x) (.type "BaseException")) true := L0.andThen (looks_mroIn X hsub)
  have hx0 : (expr && onTheHeap (Value.builtin "BaseException.__getattribute__")) = false := by cases expr <;> rfl
  unfold getAttr getAttrBy
  refine wpAny_bind (wpAny_mkText (wpAny_holding (wpAny_bind (L0.at (wpAny_bind ((looks_findIn (M := model prog w) X hga).at ?_))))))
  dsimp only
  rw [bexc_ne, Bool.and_false, if_neg (by decide)]
  unfold getAttrByItsOwn hookBefore
  rw [if_pos (by rfl)]
  refine wpAny_bind ((looks_findIn (M := model prog w) X hgn).at (wpAny_bind (wpAny_attempt (wpAny_holding ?_))))
  unfold callGetattribute boundAndCalled
  rw [hx0, if_neg (by decide), F.excAttr_ValueError.ga.bind (.ref x)]
  refine wpAny_bind (wpAny_pure (wpAny_call ?_))
  refine codeAny_call_builtin F.excAttr_ValueError.ga.plain F.entry_bexc_ga (@check_slot (model prog w) _ _ _ "BaseException.__getattribute__" "BaseException" "__getattribute__" (.ref x) [.str name s.toks] [] _ bexc_kind bexc_split L4 (F.args_bexc_ga (.ref x) (.str name s.toks)) ?_)
  refine wpAny_bind (wpAny_pure (wpAny_bind (wpAny_pure (wpAny_bind (L0.at (wpAny_bind ((looks_find (M := model prog w) X I hf).at ?_)))))))
  refine wpAny_pure ?_
  show wpAny _ _ (handedOut v) _ _ _
  rw [handedOut_of hh]; exact wpAny_pure h
noncomputable def slotAt (K : Frag) (C : Addr) (x : Str) (p : Addr) : Option Nat := onSome (findObj K C none x) (fun fo => (match fo with
    | .bind (.builtin gg) (.ref q) => _root_.cond (gg == "member_descriptor.__get__" && q == p && noDictIn K C) (slotIn K p C) none
    | _ => none)) none
noncomputable def refOf (o : Option (Option Value)) : Option Addr := onSome o (fun v => onSome v (fun w => onVRef w some none) none) none
theorem refOf_ok {o : Option (Option Value)} {a : Addr} : refOf o = some a → o = some (some (Value.ref a)) :=
  onSome_ind (P := fun (b : Option Addr) (o : Option (Option Value)) => b = some a → o = some (some (Value.ref a))) (fun v => onSome_ind (P := fun (b : Option Addr) (v : Option Value) => b = some a → some v = some (some (Value.ref a))) (fun w => onVRef_ind (P := fun (b : Option Addr) (w : Value) => b = some a → some (some w) = some (some (Value.ref a))) (fun i h => by rw [Option.some.inj h]) fun e => noneOf e) fun e => noneOf e) fun e => noneOf e
noncomputable def sloOf (K : Frag) (C : Addr) (fs : List AV) (x : Str) : Option AV := _root_.cond (isBuiltin "object.__getattribute__" (findIn K (.ref C) "__getattribute__") && isNN (findIn K (.ref C) "__getattr__"))
  ((refOf (findIn K (.ref C) x)).bind fun p => (slotAt K C x p).bind fun i => okAV fs[i]?) none
noncomputable def eAttr (K : Frag) (av : AV) (x : Str) : EM AV := onRef av (fun i => EM.bind (EM.cell i) fun c => onCInst c (fun C d => EM.bind (EM.cellAs asDict d) fun m => EM.opt (attrOf K C m x)) <| onCExc c (fun C o _ => onSome o (fun d => EM.bind (EM.cellAs asDict d) fun m => EM.opt (attrExc K C m x)) EM.fail) EM.fail) <|
  onObj av (fun C fs => EM.opt (attrOf K C fs x)) <| onSlo av (fun C fs => EM.opt (sloOf K C fs x)) EM.fail
section
variable {X : Ctx} {A : Around} {ρ : Rho} {F : Fz} {σ : St} {s : Shared} {Γ : Kn}
theorem attr_raw (I : Inv X ρ F σ s) {x : Addr} {ox od : Obj} {C : Addr} {fs : List (Str × AV)} {es : List DictEntry} {k : Nat} {nm : Str} {av : AV} {v : Value} (e : v = .ref x) (J : InstAt s.heap x ox C (some od)) (hd : od.data = .dict es.toArray k) (de : DenEs σ.n ρ F fs es)
    (h : attrOf X.K C fs nm = some av) {expr : Bool} : Goes X A ρ F σ s (getAttr v nm expr) (RDen av) σ := by
  have q := attrIf_ok h
  have h1 := q.1.1
  rw [plainGet, Bool.and_eq_true] at h1
  exact (lookIn_es de hd q.2.1).elim fun v hv => Goes.tok I fun Q E hQ => e ▸ get_value I.Kin J (isBuiltin_ok h1.1) (findObj_own h1.2 q.1.2 hv.1) (okV_handed hv.2 q.2.2) (hQ v _ hv.2)
theorem attr_exc (I : Inv X ρ F σ s) {x : Addr} {ox od : Obj} {C : Addr} {fs : List (Str × AV)} {es : List DictEntry} {k : Nat} {nm : Str} {av : AV} (J : InstAt s.heap x ox C (some od)) (hd : od.data = .dict es.toArray k) (de : DenEs σ.n ρ F fs es)
    (h : attrExc X.K C fs nm = some av) {expr : Bool} : Goes X A ρ F σ s (getAttr (.ref x) nm expr) (RDen av) σ := by
  have q := attrIf_ok h
  have h1 := q.1.1
  rw [excGet, Bool.and_eq_true, Bool.and_eq_true, Bool.and_eq_true] at h1
  exact (lookIn_es de hd q.2.1).elim fun v hv => Goes.tok I fun Q E hQ => get_exc I.Kin J (isBuiltin_ok h1.1.1) (isNN_ok h1.1.2) (eq_of_beq h1.2.2) (findObj_own h1.2.1 q.1.2 hv.1) (okV_handed hv.2 q.2.2) (hQ v _ hv.2)
theorem slotAt_ok {K : Frag} {C p : Addr} {x : Str} {i : Nat} (h : slotAt K C x p = some i) : (∀ od, findObj K C od x = some (.bind (.builtin "member_descriptor.__get__") (.ref p))) ∧ slotIn K p C = some i := by
  unfold slotAt at h
  cases e : findObj K C none x with
  | none => rw [e] at h; exact noneOf h
  | some fo =>
    rw [e] at h
    cases fo with
    | value v => exact noneOf h
    | bind g q =>
      cases g <;> first | exact noneOf h | skip
      cases q <;> first | exact noneOf h | skip
      rename_i gg q
      change _root_.cond (gg == "member_descriptor.__get__" && q == p && noDictIn K C) (slotIn K p C) none = some i at h
      cases hc : (gg == "member_descriptor.__get__" && q == p && noDictIn K C) with
      | false => rw [hc] at h; exact noneOf h
      | true =>
        rw [hc] at h
        rw [Bool.and_eq_true, Bool.and_eq_true] at hc
        exact ⟨fun od => by rw [findObj_noDict hc.2 od, e, eq_of_beq hc.1.1, eq_of_beq hc.1.2], h⟩
    | _ => exact noneOf h
theorem attr_slo (I : Inv X ρ F σ s) {C : Addr} {fs : List AV} {nm : Str} {av : AV} {v : Value} (ds : Den σ.n ρ F (.slo C fs) v) (h : sloOf X.K C fs nm = some av) {expr : Bool} : Goes X A ρ F σ s (getAttr v nm expr) (RDen av) σ := by
  unfold sloOf at h
  cases hc : (isBuiltin "object.__getattribute__" (findIn X.K (.ref C) "__getattribute__") && isNN (findIn X.K (.ref C) "__getattr__")) with
  | false => rw [hc] at h; exact noneOf h
  | true =>
  rw [hc] at h
  rw [Bool.and_eq_true] at hc
  cases den_slo ds with | mk a d od vs e ha hd hs =>
  refine (Option.bind_eq_some_iff.mp h).elim fun p h => (Option.bind_eq_some_iff.mp h.2).elim fun i h2 => ?_
  have q := slotAt_ok h2.1
  have r := okAV_ok h2.2
  refine (hs.nth r.1).elim fun w hw => Goes.tok I fun Q E hQ => ?_
  rw [e]
  refine get_bind I.Kin (ox := oSlo C d (vs.map some)) (od := some od) ⟨I.froz _ _ ha, rfl, rfl, I.froz _ _ hd⟩ (isBuiltin_ok hc.1) (q.1 _) (isNN_ok hc.2) (wpAny_call ?_)
  refine slot_get (s := { s with toks := s.toks + 1 }) (od := some od) (I.toks _).Kin ⟨I.froz _ _ ha, rfl, rfl, I.froz _ _ hd⟩ q.2 (v := w) ?_ ?_
  · show ((vs.map some).toArray[i]?).join = some w
    rw [List.getElem?_toArray, List.getElem?_map, hw.1]; rfl
  · show wpAny _ _ (handedOut w) _ _ _
    rw [handedOut_of (okV_handed hw.2 r.2)]
    exact wpAny_pure (hQ w _ hw.2)
theorem Sim.attr {av : AV} {v : Value} {x : Str} {expr : Bool} (hv : Γ.le (RDen av v)) : Sim X A Γ RDen (eAttr X.K av x) (getAttr v x expr) := by
  refine Sim.ofRun fun σ ρ F s I g => ?_
  have d : Den σ.n ρ F av v := hv _ _ _ g
  cases av with
  | ref i =>
    rw [(den_ref d).1]
    show RunAt σ (EM.bind (EM.cell i) fun c => onCInst c (fun C d => EM.bind (EM.cellAs asDict d) fun m => EM.opt (attrOf X.K C m x)) <| onCExc c (fun C o _ => onSome o (fun d => EM.bind (EM.cellAs asDict d) fun m => EM.opt (attrExc X.K C m x)) EM.fail) EM.fail) _
    refine RunAt.cell fun c => onCInst_ind (P := fun (y : EM AV) c => σ.get i = some c → RunAt σ y fun b σ' => Goes X A ρ F σ s (getAttr (.ref (ρ i)) x expr) (RDen b) σ') (fun C e hx => RunAt.cellAs asDict_some fun m hm => RunAt.optE fun w hw => (I.atD hm).elim fun es q => q.elim fun k q => attr_raw I (ox := oInst C (ρ e)) rfl ⟨(I.atI hx).1, rfl, rfl, q.1⟩ rfl q.2 hw) <|
      onCExc_ind (P := fun (y : EM AV) c => σ.get i = some c → RunAt σ y fun b σ' => Goes X A ρ F σ s (getAttr (.ref (ρ i)) x expr) (RDen b) σ') (fun C o t => onSome_ind (P := fun (y : EM AV) o => σ.get i = some (.exc C o t) → RunAt σ y fun b σ' => Goes X A ρ F σ s (getAttr (.ref (ρ i)) x expr) (RDen b) σ') (fun e hx => RunAt.cellAs asDict_some fun m hm => RunAt.optE fun w hw => (I.atD hm).elim fun es q => q.elim fun k q => (I.atX hx).elim fun vs hx => attr_exc I (ox := oExc C (some (ρ e)) vs) ⟨hx.1, rfl, rfl, q.1⟩ rfl q.2 hw) fun _ => RunAt.fail) fun _ => RunAt.fail
  | obj C fs =>
    show RunAt σ (EM.opt (attrOf X.K C fs x)) _
    cases den_obj d with | mk a d' od es k e ha hd he hs => exact RunAt.optE fun w hw => attr_raw I (ox := oInst C d') e ⟨I.froz _ _ ha, rfl, rfl, I.froz _ _ hd⟩ he hs hw
  | slo C fs => exact RunAt.optE (o := sloOf X.K C fs x) fun w hw => attr_slo I d hw
  | _ => exact RunAt.fail
end
inductive AFlow where
  | next | brk | cont
  | ret (v : AV)
noncomputable def RFlow (fl : AFlow) (f : Flow) : Kn := match fl with
  | .next => Kn.is (f = .next)
  | .brk => Kn.is (f = .brk)
  | .cont => Kn.is (f = .cont)
  | .ret av => ⟨fun n ρ F => ∃ v, f = .ret v ∧ Den n ρ F av v, fun h1 h2 h3 x => x.imp fun v q => ⟨q.1, q.2.mono h1 h2 h3⟩⟩
structure Rec where
  ev : AEnv → Expr → EM AV
  tst : AEnv → Expr → EM Bool
  exs : AEnv → List Stmt → EM AFlow
  call : AV → List AV → List (Str × AV) → EM AV
  loop : AEnv → Expr → List Stmt → EM AFlow
  forl : AEnv → Expr → AV → List Stmt → EM AFlow
  comp : AEnv → Expr → Expr → AV → AV → EM AFlow
noncomputable def CSim (X : Ctx) (A : Around) (Γ : Kn) (x : EM AFlow) (c : Code) : Prop :=
  ∀ ev b ev' cs, x ev = some (b, ev', cs) → All cs → ∀ ρ F s, Inv X ρ F ev.1 s → Γ.p ev.1.n ρ F → ∀ R : Result → Shared → Prop,
    (∀ f s' ρ' F', (RFlow b f).p ev'.1.n ρ' F' → Inv X ρ' F' ev'.1 s' → Stp ρ F ev.1 s ρ' F' ev'.1 s' → R (.ok f) s') → codeAny (model X.prog X.w) A c R s
noncomputable def Room (X : Ctx) (A : Around) (n : Nat) : Prop := A.depth + 4 * n < recursionLimit ∧ A.units + 40 * n < cLine ∧ A.handled = none ∧ A.guards = some [] ∧ A.frames = some (X.fr.map (·.1))
structure Sound (X : Ctx) (r : Rec) (n : Nat) : Prop where
  ev : ∀ A, Room X A n → ∀ ae env e, Sim X A (EnvK X ae env) RDen (r.ev ae e) (eval e env)
  tst : ∀ A, Room X A n → ∀ ae env e, Sim X A (EnvK X ae env) REq (r.tst ae e) (isTrue e env (eval e env))
  exs : ∀ A, Room X A n → ∀ ae env ss, Sim X A (EnvK X ae env) RFlow (r.exs ae ss) (execs ss env)
  call : ∀ A, Room X A n → ∀ f fv as vs ks kvs, Sim X A ((RDen f fv).and ((RDens as vs).and (RDens (ks.map (·.2)) kvs))) RDen (r.call f as ks) (call fv vs ((ks.map (·.1)).zip kvs))
  loop : ∀ A, Room X A n → ∀ ae env test body, CSim X A (EnvK X ae env) (r.loop ae test body) (.whileLoop test body [] env)
  forl : ∀ A, Room X A n → ∀ ae env target it itv body, CSim X A ((EnvK X ae env).and (RDen it itv)) (r.forl ae target it body) (.forLoop target itv body [] env)
  comp : ∀ A, Room X A n → ∀ ae env elt target iter scope pos it itv acc accv, CSim X A ((EnvK X ae env).and ((RDen it itv).and (RDen acc accv))) (r.comp ae elt target it acc) (.compLoop (.ListComp elt [⟨target, iter, [], 0⟩] scope pos) 0 itv accv env)
noncomputable def SoundF (X : Ctx) (r : Rec) (n : Nat) : Prop := ∀ fr, Sound (X.wf fr) r n
theorem SoundF.here {X : Ctx} {r : Rec} {n : Nat} (S : SoundF X r n) : Sound X r n := S X.fr
noncomputable def eArgs (r : Rec) (ae : AEnv) (es : List Expr) : EM (List AV) := es.foldr (fun e k => _root_.cond (noStar e) (EM.bind (r.ev ae e) fun v => EM.bind k fun vs => EM.ret (v :: vs)) EM.fail) (EM.ret [])
noncomputable def eKws (r : Rec) (ae : AEnv) (ks : List Keyword) : EM (List (Str × AV)) := ks.foldr (fun q k => onSome q.arg (fun n => EM.bind (r.ev ae q.value) fun v => EM.bind k fun vs => EM.ret ((n, v) :: vs)) EM.fail) (EM.ret [])
noncomputable def named (ks : List Keyword) : Bool := ks.all (·.arg.isSome)
noncomputable def eArgs2 (r : Rec) (ae : AEnv) (args : List Expr) (kws : List Keyword) : EM (List AV × List (Str × AV)) := _root_.cond (named kws) (EM.bind (eArgs r ae args) fun as => EM.bind (eKws r ae kws) fun ks => EM.ret (as, ks)) EM.fail
theorem Dens.app {n : Nat} {ρ : Rho} {F : Fz} : ∀ {xs ys : List AV} {vs ws : List Value}, Dens n ρ F xs vs → Dens n ρ F ys ws → Dens n ρ F (xs ++ ys) (vs ++ ws)
  | [], _, vs, _, d, h => by rw [dens_n d]; exact h
  | _ :: _, _, [], _, d, _ => d.elim
  | _ :: _, _, _ :: _, _, d, h => ⟨d.1, Dens.app d.2 h⟩
section
variable {X : Ctx} {A : Around} {r : Rec} {n : Nat} {ae : AEnv} {env : Env} {Γ : Kn}
theorem args_star : ∀ {es : List Expr} {ev : Ev} {b : List AV} {ev' : Ev} {cs : List Prop}, eArgs r ae es ev = some (b, ev', cs) → All cs → es.all noStar = true
  | [], _, _, _, _, _, _ => rfl
  | e :: es, ev, b, ev', cs, h, hc => EM.chk_use (x := EM.bind (r.ev ae e) fun v => EM.bind (eArgs r ae es) fun vs => EM.ret (v :: vs)) h fun hs h => by
    rw [List.all_cons, hs]
    exact EM.bind_use h hc fun _ _ _ _ _ q _ c => EM.bind_use q c fun _ _ _ _ q2 _ c2 _ => args_star q2 c2
theorem star_map : ∀ {es : List Expr}, es.all noStar = true → starEach es env = es.map fun e => (false, eval e env)
  | [], _ => rfl
  | e :: es, h => by
    rw [List.all_cons, Bool.and_eq_true] at h
    rw [star_step h.1, star_map h.2]; rfl
theorem back_map (pos : Pos) : ∀ {es : List Expr}, backTo pos (es.map fun e => (false, eval e env)) = es.map fun e => (false, eval e env)
  | [] => rfl
  | e :: es => congrArg ((false, eval e env) :: ·) (back_map pos (es := es))
theorem any_no : ∀ {es : List Expr}, (es.map fun e => (false, eval e env)).any (·.1) = false
  | [] => rfl
  | _ :: es => any_no (es := es)
theorem Sim.argsV (hev : ∀ e, Sim X A (EnvK X ae env) RDen (r.ev ae e) (eval e env)) (pos : Pos) : ∀ (es : List Expr) {Γ : Kn}, Γ.le (EnvK X ae env) → Sim X A Γ RDens (eArgs r ae es) (spliced (backTo pos (starEach es env)))
  | [], Γ, hg => Sim.ret fun _ _ _ _ => rfl
  | e :: es, Γ, hg => Sim.chk fun hs => by
    rw [star_step hs]
    exact Sim.eq (t' := eval e env >>= fun v => PySem.holding [v] (spliced (backTo pos (starEach es env))) >>= fun l => pure (v :: l)) rfl (Sim.bind ((hev e).weaken hg) fun av v => Sim.bind (Sim.holding (Sim.argsV hev pos es (Kn.fst hg))) fun avs vs => Sim.ret fun _ _ _ h => ⟨h.1.2, h.2⟩)
structure ArgsOk (p : List AV × List (Str × AV)) (a : Args) (n : Nat) (ρ : Rho) (F : Fz) : Prop where
  pos : Dens n ρ F p.1 a.pos
  kw : ∃ kvs, a.kw = (p.2.map (·.1)).zip kvs ∧ Dens n ρ F (p.2.map (·.2)) kvs
noncomputable def RArgs (p : List AV × List (Str × AV)) (a : Args) : Kn := ⟨fun n ρ F => ArgsOk p a n ρ F, fun h1 h2 h3 x => ⟨x.pos.mono h1 h2 h3, x.kw.imp fun _ q => ⟨q.1, q.2.mono h1 h2 h3⟩⟩⟩
theorem kw_names (pos : Pos) : ∀ ks : List Keyword, (backToKw pos (keywordEach ks env)).filterMap (·.1) = ks.filterMap (·.arg)
  | [] => rfl
  | ⟨nm, e, kp⟩ :: ks => by
    show ((nm, _) :: backToKw pos (keywordEach ks env)).filterMap (·.1) = (⟨nm, e, kp⟩ :: ks).filterMap (·.arg)
    rw [List.filterMap_cons, List.filterMap_cons, kw_names pos ks]
theorem kw_all (pos : Pos) : ∀ ks : List Keyword, (backToKw pos (keywordEach ks env)).all (·.1.isSome) = named ks
  | [] => rfl
  | ⟨nm, e, kp⟩ :: ks => congrArg (nm.isSome && ·) (kw_all pos ks)
theorem kw_any (pos : Pos) : ∀ ks : List Keyword, (backToKw pos (keywordEach ks env)).any (·.1.isNone) = !named ks
  | [] => rfl
  | ⟨nm, e, kp⟩ :: ks => by
    show (nm.isNone || (backToKw pos (keywordEach ks env)).any (·.1.isNone)) = !(nm.isSome && named ks)
    rw [kw_any pos ks]
    cases nm <;> rfl
theorem Sim.kwsV (hev : ∀ e, Sim X A (EnvK X ae env) RDen (r.ev ae e) (eval e env)) (pos : Pos) : ∀ (ks : List Keyword) {Γ : Kn}, Γ.le (EnvK X ae env) →
    Sim X A Γ (fun p vs => (RDens (p.map (·.2)) vs).and (Kn.is (ks.filterMap (·.arg) = p.map (·.1)))) (eKws r ae ks) (evalAll ((backToKw pos (keywordEach ks env)).map (·.2)))
  | [], Γ, hg => Sim.ret fun _ _ _ _ => ⟨rfl, rfl⟩
  | ⟨none, e, kp⟩ :: ks, Γ, hg => Sim.fail
  | ⟨some nm, e, kp⟩ :: ks, Γ, hg => by
    refine Sim.eq (t' := (eval e env >>= fun v => PySem.standAt pos >>= fun _ => pure v) >>= fun v => PySem.holding [v] (evalAll ((backToKw pos (keywordEach ks env)).map (·.2))) >>= fun l => pure (v :: l)) rfl ?_
    show Sim X A Γ _ (EM.bind (r.ev ae e) fun v => EM.bind (eKws r ae ks) fun vs => EM.ret ((nm, v) :: vs)) _
    refine Sim.bind (Sim.stood ((hev e).weaken hg)) fun av v => ?_
    exact Sim.bind (Sim.holding (Sim.kwsV hev pos ks (Kn.fst hg))) fun avs vs => Sim.ret fun _ _ _ h => ⟨⟨h.1.2, h.2.1⟩, congrArg (nm :: ·) h.2.2⟩
theorem Sim.evalArgsV (hev : ∀ e, Sim X A (EnvK X ae env) RDen (r.ev ae e) (eval e env)) {f : Value} (pos : Pos) (es : List Expr) (ks : List Keyword) {Γ : Kn} (hg : Γ.le (EnvK X ae env)) :
    Sim X A Γ RArgs (eArgs2 r ae es ks) (evalArgs f true (backTo pos (starEach es env)) (backToKw pos (keywordEach ks env))) := Sim.chk fun hn ev b ev' cs he hc ρ F s I g Q E hQ =>
  EM.bind_use he hc fun as ev₁ c1 _ e1 e2 h1 h2 => EM.bind_use e2 h2 fun kv ev₂ c3 _ e3 e4 h3 _ => inj3 e4 fun i1 i2 _ => by
    have hall := (kw_all (env := env) pos ks).trans hn
    have K : ∀ vs s₁ ρ₁ F₁, (RDens as vs).p ev₁.1.n ρ₁ F₁ → Inv X ρ₁ F₁ ev₁.1 s₁ → Stp ρ F ev.1 s ρ₁ F₁ ev₁.1 s₁ → wpAny (model X.prog X.w) A (evalAll ((backToKw pos (keywordEach ks env)).map (·.2))) (fun l s₂ => Q ⟨vs, ((backToKw pos (keywordEach ks env)).filterMap (·.1)).zip l⟩ s₂) E s₁ :=
      fun vs s₁ ρ₁ F₁ d I₁ st => Sim.kwsV hev pos ks (Kn.le_refl _) ev₁ kv ev₂ c3 e3 h3 ρ₁ F₁ s₁ I₁ ((EnvK X ae env).mono st.le st.same st.sub (hg _ _ _ g)) _ E fun l s₂ ρ₂ F₂ r I₂ st₂ => hQ ⟨vs, _⟩ s₂ ρ₂ F₂ (by rw [← i1, ← i2]; exact ⟨Dens.step d st₂, l, by rw [kw_names, r.2], r.1⟩) (i2 ▸ I₂) (i2 ▸ st.trans st₂)
    cases es with
    | nil => exact evalArgs_kw_nil hall (inj3 e1 fun j1 j2 _ => K [] s ρ F (j1 ▸ rfl) (j2 ▸ I) (j2 ▸ Stp.refl ρ F I.ids))
    | cons e es =>
      have S1 := Sim.argsV hev pos (e :: es) hg ev as ev₁ c1 e1 h1 ρ F s I g _ E K
      rw [star_map (args_star e1 h1), back_map] at S1 ⊢
      exact evalArgs_kw hall S1
theorem Sim.args (S : Sound X r n) (hA : Room X A n) (pos : Pos) (es : List Expr) {Γ : Kn} (hg : Γ.le (EnvK X ae env)) : Sim X A Γ RDens (eArgs r ae es) (spliced (backTo pos (starEach es env))) := Sim.argsV (fun e => S.ev A hA ae env e) pos es hg
theorem Sim.evalArgs (S : Sound X r n) (hA : Room X A n) {f : Value} (pos : Pos) (es : List Expr) (ks : List Keyword) {Γ : Kn} (hg : Γ.le (EnvK X ae env)) :
    Sim X A Γ RArgs (eArgs2 r ae es ks) (PySem.evalArgs f true (backTo pos (starEach es env)) (backToKw pos (keywordEach ks env))) := Sim.evalArgsV (fun e => S.ev A hA ae env e) pos es ks hg
noncomputable def keepOk (K : Frag) (f : AV) : Bool := onVal f (fun v => onVBuiltin v (fun _ => true) <| onVType v (fun _ => true) <| onVRef v (fun a => keepIn K (.ref a)) false) <| onClo f (fun _ _ _ _ _ => true) false
noncomputable def KeepAt (X : Ctx) (fv : Value) (h : Heap) : Prop := ∃ k, (k = Keeper.frame ∨ k = Keeper.machine ∨ k = Keeper.boundFrame) ∧ Looks (model X.prog X.w) h (keeperOf fv) k
theorem keepOk_looks {ρ : Rho} {F : Fz} {σ : St} {s : Shared} (I : Inv X ρ F σ s) {f : AV} {fv : Value} : keepOk X.K f = true → Den σ.n ρ F f fv → KeepAt X fv s.heap :=
  onVal_ind (P := fun b f => b = true → Den σ.n ρ F f fv → KeepAt X fv s.heap) (fun v h d => (show fv = v from d) ▸ onVBuiltin_ind (P := fun b v => b = true → KeepAt X v s.heap) (fun _ _ => ⟨.machine, .inr (.inl rfl), .now⟩) (onVType_ind (P := fun b v => b = true → KeepAt X v s.heap) (fun _ _ => ⟨.machine, .inr (.inl rfl), .now⟩)
    (onVRef_ind (P := fun b v => b = true → KeepAt X v s.heap) (fun a h => keeps_K h _ I.Kin) ff)) h)
    (onClo_ind (P := fun b f => b = true → Den σ.n ρ F f fv → KeepAt X fv s.heap) (fun a b c e f _ d => by cases (show dClo σ.n ρ F a b c e f fv from d) with | mk a qual o pm code ct e ha hc hd => rw [e]; exact ⟨.frame, .inl rfl, (Looks.ld (part := none) (I.froz _ _ ha)).andThen (by rw [hd]; exact .now)⟩) ff)
noncomputable def eCallWith (K : Frag) (r : Rec) (ae : AEnv) (f : AV) (first : List AV) (args : List Expr) (kws : List Keyword) : EM AV := _root_.cond (keepOk K f) (EM.bind (eArgs2 r ae args kws) fun p => r.call f (first ++ p.1) p.2) EM.fail
theorem no_stars {ev : Ev} {es : List Expr} {ks : List Keyword} {b : List AV × List (Str × AV)} {ev' : Ev} {cs : List Prop} (pos : Pos) (he : eArgs2 r ae es ks ev = some (b, ev', cs)) (hc : All cs) : ((backTo pos (starEach es env)).any (·.1) || (backToKw pos (keywordEach ks env)).any (·.1.isNone)) = false :=
  EM.chk_use he fun hn he => by rw [kw_any, hn, star_map (EM.bind_use he hc fun _ _ _ _ q _ c _ => args_star q c), back_map, any_no]; rfl
theorem Sim.callWithV (hev : ∀ e, Sim X A (EnvK X ae env) RDen (r.ev ae e) (eval e env)) (hcall : ∀ f fv as vs ks kvs, Sim X A ((RDen f fv).and ((RDens as vs).and (RDens (ks.map (·.2)) kvs))) RDen (r.call f as ks) (call fv vs ((ks.map (·.1)).zip kvs))) {f : AV} {fv : Value} {first : List AV} {firstv : List Value} (pos : Pos) (es : List Expr) (ks : List Keyword) {Γ : Kn} (hg : Γ.le (EnvK X ae env)) (hf : Γ.le (RDen f fv)) (h1 : Γ.le (RDens first firstv)) :
    Sim X A Γ RDen (eCallWith X.K r ae f first es ks) (callWith pos fv firstv (backTo pos (starEach es env)) (backToKw pos (keywordEach ks env))) := Sim.chk fun hk ev b ev' cs he hc ρ F s I g Q E hQ =>
  EM.bind_use he hc fun p ev₁ cs₁ cs₂ e₁ e₂ c1 c2 => callWith_of (P := KeepAt X fv) (no_stars pos e₁ c1) (fun _ x => x)
    (Sim.evalArgsV hev pos es ks hg ev p ev₁ cs₁ e₁ c1 ρ F s I g _ E fun a s₁ ρ₁ F₁ d I₁ st => ⟨keepOk_looks I₁ hk (Den.step (hf _ _ _ g) st), d.kw.elim fun kvs q => q.1 ▸
      hcall f fv (first ++ p.1) (firstv ++ a.pos) p.2 kvs ev₁ b ev' cs₂ e₂ c2 ρ₁ F₁ s₁ I₁ ⟨Den.step (hf _ _ _ g) st, (Dens.step (h1 _ _ _ g) st).app d.pos, q.2⟩ Q E fun v s₂ ρ₂ F₂ x I₂ st₂ => hQ v s₂ ρ₂ F₂ x I₂ (st.trans st₂)⟩)
theorem Sim.callWith (S : Sound X r n) (hA : Room X A n) {f : AV} {fv : Value} {first : List AV} {firstv : List Value} (pos : Pos) (es : List Expr) (ks : List Keyword) {Γ : Kn} (hg : Γ.le (EnvK X ae env)) (hf : Γ.le (RDen f fv)) (h1 : Γ.le (RDens first firstv)) :
    Sim X A Γ RDen (eCallWith X.K r ae f first es ks) (PySem.callWith pos fv firstv (backTo pos (starEach es env)) (backToKw pos (keywordEach ks env))) := Sim.callWithV (fun e => S.ev A hA ae env e) (fun f fv as vs ks kvs => S.call A hA f fv as vs ks kvs) pos es ks hg hf h1
end
noncomputable def ownNone (σ : St) (x : Str) (av : AV) : Bool := onInt av (fun _ => true) <| onStr av (fun _ => true) <| onRef av (fun i => onSome (σ.get i) (fun c => onCList c (fun _ => true) <| onCLiter c (fun _ _ => true) <|
  onCInst c (fun _ d => onSome ((σ.get d).bind asDict) (fun m => (m.lookup x).isNone) false) false) false) false
noncomputable def methTypes (K : Frag) (f : Value) : Bool := onSome (typeIn K f) (fun T => onVType T (fun t => (t == "function" || t == "method_descriptor" || t == "wrapper_descriptor")) false) false
noncomputable def isGA (o : Option (Option Value)) : Bool := onSome o (fun v => onSome v (fun w => onVBuiltin w (fun ga => Manifest.canonical ga == "object.__getattribute__") false) false) false
noncomputable def methOf (K : Frag) (T : Value) (x : Str) : Option Value := _root_.cond (isGA (findIn K T "__getattribute__") && isNN (findIn K T "__getattr__")) ((findIn K T x).bind id) none
noncomputable def eMethod (K : Frag) (av : AV) (x : Str) : EM (AV × List AV) := EM.st fun σ => onSome ((typ K σ av).bind fun T => methOf K T x) (fun f => EM.retB (methTypes K f && ownNone σ x av) (.val f, [av])) EM.fail
section
variable {X : Ctx} {A : Around} {Γ : Kn} {ρ : Rho} {F : Fz} {σ : St} {s : Shared}
noncomputable def OwnNo (x : Str) (v : Value) (h : Heap) : Prop := ∀ a, v = .ref a → ∃ o, h.get? a = some o ∧ ∀ d, o.dict = some d → ∃ od, h.get? d = some od ∧ lookIn x od = some none
theorem OwnNo.of {x : Str} {v : Value} {h : Heap} {a : Addr} {o : Obj} (e : v = .ref a) (ho : h.get? a = some o) (hd : o.dict = none) : OwnNo x v h := fun b q => by
  rw [e] at q
  cases q
  exact ⟨o, ho, fun d q => noneOf (hd.symm.trans q)⟩
theorem ownNone_is (I : Inv X ρ F σ s) {x : Str} {av : AV} {v : Value} : ownNone σ x av = true → Den σ.n ρ F av v → OwnNo x v s.heap :=
  onInt_ind (P := fun b av => b = true → Den σ.n ρ F av v → OwnNo x v s.heap) (fun i _ d a q => (den_int d).elim fun t e => nomatch e.symm.trans q) <|
  onStr_ind (P := fun b av => b = true → Den σ.n ρ F av v → OwnNo x v s.heap) (fun i _ d a q => (den_str d).elim fun t e => nomatch e.symm.trans q) <|
  onRef_ind (P := fun b av => b = true → Den σ.n ρ F av v → OwnNo x v s.heap) (fun i h d => by
    have e := (den_ref d).1
    revert h
    cases hc : σ.get i with
    | none => exact ff
    | some c =>
      exact onCList_ind (P := fun b c => σ.get i = some c → b = true → OwnNo x v s.heap) (fun xs hx _ => (I.atL hx).elim fun vs q => q.elim fun k q => .of e q.1 rfl) (onCLiter_ind (P := fun b c => σ.get i = some c → b = true → OwnNo x v s.heap) (fun l k hx _ => .of e (I.atIt hx).1 rfl)
        (onCInst_ind (P := fun b c => σ.get i = some c → b = true → OwnNo x v s.heap) (fun C d hx h => by
          cases hm : (σ.get d).bind asDict with
          | none => rw [hm] at h; exact ff h
          | some m =>
            rw [hm] at h
            refine (Option.bind_eq_some_iff.mp hm).elim fun c' q => (I.atD (q.1.trans (congrArg some (asDict_some q.2)))).elim fun es q => q.elim fun k q => fun a ha => ?_
            rw [e] at ha
            cases ha
            exact ⟨_, (I.atI hx).1, fun d' hd => ⟨_, (Option.some.inj hd) ▸ q.1, lookIn_no q.2 (k := k) rfl (Option.isNone_iff_eq_none.mp h)⟩⟩) fun _ => ff)) hc) ff
theorem isGA_ok {o : Option (Option Value)} : isGA o = true → ∃ ga, o = some (some (Value.builtin ga)) ∧ Manifest.canonical ga = "object.__getattribute__" :=
  onSome_ind (P := fun b (o : Option (Option Value)) => b = true → ∃ ga, o = some (some (Value.builtin ga)) ∧ Manifest.canonical ga = "object.__getattribute__") (fun v => onSome_ind (P := fun b (v : Option Value) => b = true → ∃ ga, some v = some (some (Value.builtin ga)) ∧ Manifest.canonical ga = "object.__getattribute__")
    (fun w => onVBuiltin_ind (P := fun b (w : Value) => b = true → ∃ ga, some (some w) = some (some (Value.builtin ga)) ∧ Manifest.canonical ga = "object.__getattribute__") (fun i h => ⟨i, rfl, eq_of_beq h⟩) ff) ff) ff
theorem methTypes_ok {K : Frag} {f : Value} (h : methTypes K f = true) : ∃ t, typeIn K f = some (.type t) ∧ ((Value.type t != .type "function") && (Value.type t != .type "method_descriptor") && (Value.type t != .type "wrapper_descriptor")) = false := by
  unfold methTypes at h
  cases e : typeIn K f with
  | none => rw [e] at h; exact ff h
  | some T =>
    rw [e] at h
    refine onVType_ind (P := fun b T => b = true → ∃ t, some T = some (Value.type t) ∧ ((Value.type t != .type "function") && (Value.type t != .type "method_descriptor") && (Value.type t != .type "wrapper_descriptor")) = false) (fun t h => ⟨t, rfl, ?_⟩) ff h
    rw [Bool.or_eq_true, Bool.or_eq_true] at h
    rcases h with (h | h) | h <;> (rw [eq_of_beq h]; decide)
theorem methOf_ok {K : Frag} {T : Value} {x : Str} {f : Value} (h : methOf K T x = some f) : (∃ ga, findIn K T "__getattribute__" = some (some (.builtin ga)) ∧ Manifest.canonical ga = "object.__getattribute__") ∧ findIn K T "__getattr__" = some none ∧ findIn K T x = some (some f) := by
  unfold methOf at h
  cases hc : (isGA (findIn K T "__getattribute__") && isNN (findIn K T "__getattr__")) with
  | false => rw [hc] at h; exact noneOf h
  | true =>
    rw [hc] at h
    rw [Bool.and_eq_true] at hc
    exact ⟨isGA_ok hc.1, isNN_ok hc.2, (Option.bind_eq_some_iff.mp h).elim fun o q => q.1.trans (congrArg some q.2)⟩
theorem meth_run (I : Inv X ρ F σ s) {T : Value} {x : Str} {av : AV} {v f : Value} {pl : Sem Bool} (d : Den σ.n ρ F av v) (hT : typ X.K σ av = some T) (hf : methOf X.K T x = some f) (h4 : methTypes X.K f = true) (h5 : ownNone σ x av = true) {Q : Value × List Value → Shared → Prop} {E : Value → Shared → Prop} (q : Q (f, [v]) s) :
    wpAny (model X.prog X.w) A (getMethod v x pl) Q E s := by
  have T1 := typ_looks (M := model X.prog X.w) I d hT
  have hm := methOf_ok hf
  have hown := ownNone_is I h5 d
  refine hm.1.elim fun ga hga => (methTypes_ok h4).elim fun t ht => ?_
  unfold getMethod
  refine wpAny_bind (m := specialOf v (Str.ofString "__getattribute__")) (wpAny_bind (T1.here ((looks_findIn I.Kin hga.1).here ?_)))
  dsimp only
  rw [if_neg (by rw [hga.2]; decide)]
  refine wpAny_bind (wpAny_bind (T1.here ((looks_findIn I.Kin hm.2.1).here ?_)))
  rw [if_neg (by decide)]
  refine wpAny_bind (wpAny_bind (T1.here ((looks_findIn I.Kin hm.2.2).here ?_)))
  dsimp only
  refine wpAny_bind ((looks_typeIn I.Kin ht.1).here ?_)
  rw [ht.2]
  simp only [Bool.false_eq_true, if_false]
  cases v with
  | ref a =>
    refine (hown a rfl).elim fun o ho => ?_
    dsimp only
    refine wpAny_bind (wpAny_loadPart ho.1 ?_)
    cases hdd : o.dict with
    | none => exact wpAny_bind (wpAny_rule (wpAny_pure q))
    | some dd =>
      refine (ho.2 dd hdd).elim fun od hod => ?_
      dsimp only
      refine wpAny_bind (ns_look hod.1 hod.2 rfl ?_)
      rw [if_neg (by decide)]
      exact wpAny_bind (wpAny_rule (wpAny_pure q))
  | _ => exact wpAny_bind (wpAny_rule (wpAny_pure q))
noncomputable def RMeth (p : AV × List AV) (q : Value × List Value) : Kn := (RDen p.1 q.1).and (RDens p.2 q.2)
theorem Sim.method {av : AV} {v : Value} {x : Str} {pl : Sem Bool} (hv : Γ.le (RDen av v)) : Sim X A Γ RMeth (eMethod X.K av x) (getMethod v x pl) := by
  refine Sim.ofRun fun σ ρ F s I g => RunAt.st ?_
  cases h : (typ X.K σ av).bind fun T => methOf X.K T x with
  | none => exact RunAt.fail
  | some f =>
    refine RunAt.retB fun hb => (Option.bind_eq_some_iff.mp h).elim fun T hT => Goes.same I fun Q E q => ?_
    rw [Bool.and_eq_true] at hb
    exact meth_run I (hv _ _ _ g) hT.1 hT.2 hb.1 hb.2 (q (f, [v]) ⟨rfl, hv _ _ _ g, rfl⟩)
end
noncomputable def eCellL (i : Nat) : EM (List AV) := EM.bind (EM.cellAs asList i) fun xs => EM.retIf (xs.length ≤ 1000000) xs
noncomputable def eSetL (i : Nat) (xs : List AV) : EM Unit := EM.upd fun σ => σ.set i (.list xs)
noncomputable def noneAV : AV := .val .none
noncomputable def eAppend (as : List AV) : EM AV := on2 as (fun a v => onRef a (fun i => EM.bind (eCellL i) fun xs => EM.bind (eSetL i (xs ++ [v])) fun _ => EM.ret noneAV) EM.fail) EM.fail
noncomputable def ePopL (i : Nat) : EM AV := EM.bind (eCellL i) fun xs => EM.bind (EM.last xs) fun p => EM.bind (eSetL i p.1) fun _ => EM.ret p.2
noncomputable def ePopF (i : Nat) : EM AV := EM.bind (eCellL i) fun xs => EM.bind (EM.first xs) fun p => EM.bind (eSetL i p.1) fun _ => EM.ret p.2
noncomputable def ePop (as : List AV) : EM AV := onCons as (fun a r => onRef a (fun i => onNil r (ePopL i) (on1 r (fun k => onInt k (fun k => _root_.cond (k == 0) (ePopF i) (_root_.cond (k == -1) (ePopL i) EM.fail)) EM.fail) EM.fail)) EM.fail) EM.fail
noncomputable def eInsert (as : List AV) : EM AV := on3 as (fun a k v => onRef a (fun i => onInt k (fun k => _root_.cond (k == 0) (EM.bind (eCellL i) fun xs => EM.bind (eSetL i (v :: xs)) fun _ => EM.ret noneAV) EM.fail) EM.fail) EM.fail) EM.fail
noncomputable def eClear (as : List AV) : EM AV := on1 as (fun a => onRef a (fun i => EM.bind (eCellL i) fun xs => EM.bind (eSetL i []) fun _ => EM.ret noneAV) EM.fail) EM.fail
section
variable {X : Ctx} {A : Around} {ρ : Rho} {F : Fz} {σ : St} {s : Shared} {Γ : Kn}
theorem Inv.listSet (I : Inv X ρ F σ s) {i : Nat} {xs ys : List AV} {vs ws : List Value} {k : Nat} (hi : σ.get i = some (.list xs)) (ho : s.heap.get? (ρ i) = some (oList vs k))
    {f : Array Value → Array Value} (hf : f vs.toArray = ws.toArray) (hd : Dens σ.n ρ F ys ws) (t : Nat) :
    Inv X ρ F (σ.set i (.list ys)) { s with heap := s.heap.update (ρ i) (Obj.mapSeq f), toks := t } ∧ Stp ρ F σ s ρ F (σ.set i (.list ys)) { s with heap := s.heap.update (ρ i) (Obj.mapSeq f), toks := t } := by
  refine I.set (c' := .list ys) hi (fun b o hb e => ?_) ?_ t
  · rw [Heap.get?_update_other _ _ (fun e => hb e.symm)]; exact e
  · have := IsL.update ho f
    rw [hf] at this
    exact .ofL (vs := ws) this hd
theorem Dens.snoc {n : Nat} {y : AV} : ∀ {xs : List AV} {vs : List Value}, Dens n ρ F (xs ++ [y]) vs → ∃ ws w, vs = ws ++ [w] ∧ Dens n ρ F xs ws ∧ Den n ρ F y w
  | [], _, d => dens1 (P := fun vs => ∃ ws w, vs = ws ++ [w] ∧ Dens n ρ F [] ws ∧ Den n ρ F y w) d fun v h => ⟨[], v, rfl, rfl, h⟩
  | _ :: _, [], d => d.elim
  | _ :: xs, v :: vs, d => (Dens.snoc (xs := xs) d.2).elim fun ws q => q.elim fun w q => ⟨v :: ws, w, congrArg (v :: ·) q.1, ⟨d.1, q.2.1⟩, q.2.2⟩
theorem szOk {n : Nat} {xs : List AV} {vs : List Value} (h : xs.length ≤ 1000000) (d : Dens n ρ F xs vs) : vs.toArray.size ≤ sizeLine := by
  rw [List.size_toArray, ← d.length]; exact Nat.le_trans h (by decide)
theorem plist {l : Addr} {o : Obj} (h : s.heap.get? l = some o) (hc : o.cls = .type "list") : s.TypeIs (.ref l) "list" := ⟨o, h, hc⟩
theorem RunAt.cellL {γ : Type} {D : γ → St → Prop} {i : Nat} {f : List AV → EM γ} (h : ∀ xs, σ.get i = some (.list xs) → xs.length ≤ 1000000 → RunAt σ (f xs) D) : RunAt σ (EM.bind (eCellL i) f) D :=
  RunAt.stay (P := fun xs => σ.get i = some (.list xs) ∧ xs.length ≤ 1000000) (RunAt.cellAs asList_some fun xs hx => RunAt.retIf fun hl => ⟨rfl, hx, hl⟩) fun xs q => h xs q.1 q.2
theorem RunAt.setL {γ : Type} {D : γ → St → Prop} {i : Nat} {ys : List AV} {f : Unit → EM γ} (h : RunAt (σ.set i (.list ys)) (f ()) D) : RunAt σ (EM.bind (eSetL i ys) f) D := RunAt.upd (g := fun σ => σ.set i (.list ys)) h
inductive ListAt (F : Fz) (σ : St) (s : Shared) (ρ : Rho) (i : Nat) (xs : List AV) : Prop where
  | mk (vs : List Value) (k : Nat) (ho : s.heap.get? (ρ i) = some (oList vs k)) (d : Dens σ.n ρ F xs vs) (hs : vs.toArray.size ≤ sizeLine)
theorem Inv.lst (I : Inv X ρ F σ s) {i : Nat} {xs : List AV} (hx : σ.get i = some (.list xs)) (hl : xs.length ≤ 1000000) : ListAt F σ s ρ i xs := (I.atL hx).elim fun vs q => q.elim fun k q => ⟨vs, k, q.1, q.2, szOk hl q.2⟩
theorem turned {i : Nat} {xs ys : List AV} {ws us : List Value} {k t : Nat} {b : AV} {rv : Value} {f : Array Value → Array Value} {Q : Value → Shared → Prop} (I : Inv X ρ F σ s) (hx : σ.get i = some (.list xs)) (ho : s.heap.get? (ρ i) = some (oList ws k))
    (hQ : ∀ v s' ρ' F', (RDen b v).p (σ.set i (.list ys)).n ρ' F' → Inv X ρ' F' (σ.set i (.list ys)) s' → Stp ρ F σ s ρ' F' (σ.set i (.list ys)) s' → Q v s') (hf : f ws.toArray = us.toArray) (hd : Dens σ.n ρ F ys us) (hr : Den σ.n ρ F b rv) :
    Q rv { s with heap := s.heap.update (ρ i) (Obj.mapSeq f), toks := t } :=
  let h := I.listSet hx ho hf hd t
  hQ rv _ ρ F hr h.1 h.2
theorem R_append {i : Nat} {xs : List AV} {v : AV} {w : Value} (I : Inv X ρ F σ s) (hx : σ.get i = some (.list xs)) (hl : xs.length ≤ 1000000) (dv : Den σ.n ρ F v w) : Goes X A ρ F σ s (call (.builtin "list.append") [.ref (ρ i), w]) (RDen noneAV) (σ.set i (.list (xs ++ [v]))) := fun Q E hQ => by
  cases I.lst hx hl with | mk ws k ho dw hs => exact call_meets PySem.F.slot_list_append (plist ho rfl) PySem.F.entry_list_append (PySem.F.args_list_append_2 _ _) (list_append (ρ i) ws.toArray k _ hs) ⟨ho, turned (us := ws ++ [w]) I hx ho hQ (List.push_toArray ..) (dw.app (Dens.cons dv rfl)) rfl⟩
theorem R_clear {i : Nat} {xs : List AV} (I : Inv X ρ F σ s) (hx : σ.get i = some (.list xs)) (hl : xs.length ≤ 1000000) : Goes X A ρ F σ s (call (.builtin "list.clear") [.ref (ρ i)]) (RDen noneAV) (σ.set i (.list [])) := fun Q E hQ => by
  cases I.lst hx hl with | mk ws k ho dw hs => exact call_meets PySem.F.slot_list_clear (plist ho rfl) PySem.F.entry_list_clear (PySem.F.args_list_clear_1 _) (AutoSeq1.list_clear_list_0 (ρ i) ws.toArray k hs) ⟨ho, turned (us := []) I hx ho hQ rfl rfl rfl⟩
theorem R_insert {i : Nat} {xs : List AV} {v : AV} {w : Value} (t : Tok) (I : Inv X ρ F σ s) (hx : σ.get i = some (.list xs)) (hl : xs.length ≤ 1000000) (dv : Den σ.n ρ F v w) : Goes X A ρ F σ s (call (.builtin "list.insert") [.ref (ρ i), .int 0 t, w]) (RDen noneAV) (σ.set i (.list (v :: xs))) := fun Q E hQ => by
  cases I.lst hx hl with | mk ws k ho dw hs => exact call_meets PySem.F.slot_list_insert (plist ho rfl) PySem.F.entry_list_insert (PySem.F.args_list_insert_3 _ _ _) (AutoSeq1.list_insert_list_int_val_1 (ρ i) ws.toArray k 0 t w (by decide) hs) ⟨ho, turned (us := w :: ws) I hx ho hQ (by simp) ⟨dv, dw⟩ rfl⟩
theorem erase_last (us : List Value) (w : Value) : (us ++ [w]).toArray.eraseIdxIfInBounds us.length = us.toArray := by simp [Array.eraseIdxIfInBounds, List.eraseIdx_append_of_length_le]
theorem idx_last (us : List Value) (w : Value) : (us ++ [w]).toArray[us.length]? = some w := by simp
section
variable {i : Nat} {ys : List AV} {y : AV}
theorem R_pop1 (I : Inv X ρ F σ s) (hx : σ.get i = some (.list (ys ++ [y]))) (hl : (ys ++ [y]).length ≤ 1000000) : Goes X A ρ F σ s (call (.builtin "list.pop") [.ref (ρ i)]) (RDen y) (σ.set i (.list ys)) := fun Q E hQ => by
  cases I.lst hx hl with | mk vs k ho dv hs =>
  refine dv.snoc.elim fun us q => q.elim fun w q => ?_
  rw [q.1] at ho hs
  exact call_meets PySem.F.slot_list_pop (plist ho rfl) PySem.F.entry_list_pop (PySem.F.args_list_pop_1 _) (MeetsSeq.list_pop_last (ρ i) (us ++ [w]).toArray k w (by simp) hs) ⟨ho, turned (us := us) I hx ho hQ (by simp [Array.eraseIdxIfInBounds, List.eraseIdx_append_of_length_le]) q.2.1 q.2.2⟩
theorem R_pop0 (t : Tok) (I : Inv X ρ F σ s) (hx : σ.get i = some (.list (y :: ys))) (hl : (y :: ys).length ≤ 1000000) : Goes X A ρ F σ s (call (.builtin "list.pop") [.ref (ρ i), .int 0 t]) (RDen y) (σ.set i (.list ys)) := fun Q E hQ => by
  cases I.lst hx hl with | mk vs k ho dv hs =>
  cases vs with
  | nil => exact dv.elim
  | cons w us => exact call_meets PySem.F.slot_list_pop (plist ho rfl) PySem.F.entry_list_pop (PySem.F.args_list_pop_2 _ _) (MeetsSeq.list_pop_at (ρ i) (w :: us).toArray k 0 t 0 w (by decide) (by unfold seqIndex?; simp) (by simp) hs) ⟨ho, turned (us := us) I hx ho hQ (by simp [Array.eraseIdxIfInBounds]) dv.2 dv.1⟩
theorem R_popm (t : Tok) (I : Inv X ρ F σ s) (hx : σ.get i = some (.list (ys ++ [y]))) (hl : (ys ++ [y]).length ≤ 1000000) : Goes X A ρ F σ s (call (.builtin "list.pop") [.ref (ρ i), .int (-1) t]) (RDen y) (σ.set i (.list ys)) := fun Q E hQ => by
  cases I.lst hx hl with | mk vs k ho dv hs =>
  refine dv.snoc.elim fun us q => q.elim fun w q => ?_
  rw [q.1] at ho hs
  exact call_meets PySem.F.slot_list_pop (plist ho rfl) PySem.F.entry_list_pop (PySem.F.args_list_pop_2 _ _) (MeetsSeq.list_pop_at (ρ i) (us ++ [w]).toArray k (-1) t us.length w (by decide) (by unfold seqIndex?; simp; omega) (idx_last us w) hs) ⟨ho, turned (us := us) I hx ho hQ (erase_last us w) q.2.1 q.2.2⟩
end
noncomputable def SimB (X : Ctx) (A : Around) (nm : String) (x : EM AV) (as : List AV) : Prop := ∀ (Γ : Kn) (vs : List Value), Γ.le (RDens as vs) → Sim X A Γ RDen x (call (.builtin nm) vs)
theorem SimB.fail {nm : String} {as : List AV} : SimB X A nm EM.fail as := fun _ _ _ => Sim.fail
theorem SimB.of {nm : String} {as : List AV} {x : EM AV} (h : ∀ σ ρ F s vs, Inv X ρ F σ s → Dens σ.n ρ F as vs → RunAt σ x fun b σ' => Goes X A ρ F σ s (call (.builtin nm) vs) (RDen b) σ') : SimB X A nm x as := fun _ _ hv => Sim.ofRun fun σ ρ F s I g => h σ ρ F s _ I (hv _ _ _ g)
theorem Sim.append (as : List AV) : SimB X A "list.append" (eAppend as) as := by
  refine on2_ind (P := SimB X A "list.append") (fun a v => ?_) fun _ => SimB.fail
  refine onRef_ind (P := fun x a => SimB X A "list.append" x [a, v]) (fun i => ?_) SimB.fail
  exact SimB.of fun σ ρ F s vs I d => RunAt.cellL fun xs hx hl => RunAt.setL (RunAt.ret (dens2 (P := fun vs => Goes X A ρ F σ s (call (.builtin "list.append") vs) (RDen noneAV) (σ.set i (.list (xs ++ [v])))) d fun u w (du : u = .ref (ρ i) ∧ i < σ.n) dw => du.1 ▸ R_append I hx hl dw))
theorem Sim.clear (as : List AV) : SimB X A "list.clear" (eClear as) as := by
  refine on1_ind (P := SimB X A "list.clear") (fun a => ?_) SimB.fail
  refine onRef_ind (P := fun x a => SimB X A "list.clear" x [a]) (fun i => ?_) SimB.fail
  exact SimB.of fun σ ρ F s vs I d => RunAt.cellL fun xs hx hl => RunAt.setL (RunAt.ret (dens1 (P := fun vs => Goes X A ρ F σ s (call (.builtin "list.clear") vs) (RDen noneAV) (σ.set i (.list []))) d fun u (du : u = .ref (ρ i) ∧ i < σ.n) => du.1 ▸ R_clear I hx hl))
theorem Sim.insert (as : List AV) : SimB X A "list.insert" (eInsert as) as := by
  refine on3_ind (P := SimB X A "list.insert") (fun a k v => ?_) fun _ => SimB.fail
  refine onRef_ind (P := fun x a => SimB X A "list.insert" x [a, k, v]) (fun i => ?_) SimB.fail
  refine onInt_ind (P := fun x k => SimB X A "list.insert" x [.ref i, k, v]) (fun k => ?_) SimB.fail
  refine cond_ind (P := fun x => SimB X A "list.insert" x [.ref i, .int k, v]) (fun hk => ?_) SimB.fail
  exact SimB.of fun σ ρ F s vs I d => RunAt.cellL fun xs hx hl => RunAt.setL (RunAt.ret (dens3 (P := fun vs => Goes X A ρ F σ s (call (.builtin "list.insert") vs) (RDen noneAV) (σ.set i (.list (v :: xs)))) d fun u k' w (du : u = .ref (ρ i) ∧ i < σ.n) (dk : ∃ t, k' = .int k t) dw => du.1 ▸ dk.elim fun t e => e ▸ (eq_of_beq hk).symm ▸ R_insert t I hx hl dw))
theorem RunAt.popL {i : Nat} {C : AV → St → Prop} (h : ∀ ys y, σ.get i = some (.list (ys ++ [y])) → (ys ++ [y]).length ≤ 1000000 → C y (σ.set i (.list ys))) : RunAt σ (ePopL i) C := RunAt.cellL fun xs hx hl => RunAt.last fun p hp => RunAt.setL (RunAt.ret (h p.1 p.2 (hp ▸ hx) (hp ▸ hl)))
theorem RunAt.popF {i : Nat} {C : AV → St → Prop} (h : ∀ ys y, σ.get i = some (.list (y :: ys)) → (y :: ys).length ≤ 1000000 → C y (σ.set i (.list ys))) : RunAt σ (ePopF i) C := RunAt.cellL fun xs hx hl => RunAt.first fun p hp => RunAt.setL (RunAt.ret (h p.1 p.2 (hp ▸ hx) (hp ▸ hl)))
theorem Sim.pop (as : List AV) : SimB X A "list.pop" (ePop as) as := by
  refine onCons_ind (P := SimB X A "list.pop") (fun a r => ?_) SimB.fail
  refine onRef_ind (P := fun x a => SimB X A "list.pop" x (a :: r)) (fun i => ?_) SimB.fail
  refine onNil_ind (P := fun x r => SimB X A "list.pop" x (.ref i :: r)) ?_ ?_
  · exact SimB.of fun σ ρ F s vs I d => RunAt.popL fun ys y hx hl => dens1 (P := fun vs => Goes X A ρ F σ s (call (.builtin "list.pop") vs) (RDen y) (σ.set i (.list ys))) d fun u (du : u = .ref (ρ i) ∧ i < σ.n) => du.1 ▸ R_pop1 I hx hl
  refine on1_ind (P := fun x r => SimB X A "list.pop" x (.ref i :: r)) (fun k => ?_) SimB.fail
  refine onInt_ind (P := fun x k => SimB X A "list.pop" x [.ref i, k]) (fun k => ?_) SimB.fail
  refine cond_ind (P := fun x => SimB X A "list.pop" x [.ref i, .int k]) (fun hk => ?_) (cond_ind (P := fun x => SimB X A "list.pop" x [.ref i, .int k]) (fun hk => ?_) SimB.fail)
  · exact SimB.of fun σ ρ F s vs I d => RunAt.popF fun ys y hx hl => dens2 (P := fun vs => Goes X A ρ F σ s (call (.builtin "list.pop") vs) (RDen y) (σ.set i (.list ys))) d fun u k' (du : u = .ref (ρ i) ∧ i < σ.n) (dk : ∃ t, k' = .int k t) => du.1 ▸ dk.elim fun t e => e ▸ (eq_of_beq hk).symm ▸ R_pop0 t I hx hl
  · exact SimB.of fun σ ρ F s vs I d => RunAt.popL fun ys y hx hl => dens2 (P := fun vs => Goes X A ρ F σ s (call (.builtin "list.pop") vs) (RDen y) (σ.set i (.list ys))) d fun u k' (du : u = .ref (ρ i) ∧ i < σ.n) (dk : ∃ t, k' = .int k t) => du.1 ▸ dk.elim fun t e => e ▸ (eq_of_beq hk).symm ▸ R_popm t I hx hl
end
section
variable {prog : Program} {w : World} {A : Around} {E : Value → Shared → Prop} {s : Shared}
theorem iter_typ {it : Addr} {l : Value} {k : Int} (h : s.heap.get? it = some (oIter l k)) : s.TypeIs (.ref it) "list_iterator" := ⟨_, h, rfl⟩
theorem stop_raised {α : Type} {Q : α → Shared → Prop} (hh : A.handled = none) (h : ∀ e h', (∀ b o, s.heap.get? b = some o → h'.get? b = some o) → ({ s with heap := h' } : Shared).TypeIs e "StopIteration" → E e { s with heap := h' }) : wpAny (model prog w) A (SmallTypes.stopIteration : Sem α) Q E s := by
  show wpAny _ _ (newExc (.type "StopIteration") [] >>= _) _ _ _
  refine wpAny_bind ?_
  simp only [newExc, newTuple]
  refine wpAny_bind (wpAny_newObj_type ?_ (by size_fits))
  refine wpAny_bind (m := firstArgMember _ _) (wpAny_of_eq (a := Value.none) (by first | rfl | (simp only [firstArgMember]; rfl)) ?_)
  refine wpAny_newObj_type ?_ (by size_fits)
  simp only [raiseNew]
  refine wpAny_bind (wpAny_handled ?_)
  rw [hh]
  refine wpAny_bind (wpAny_pure (wpAny_throw ?_))
  exact h _ _ (fun b o e => Heap.get?_push_of_some _ (Heap.get?_push_of_some _ e)) ⟨_, Heap.get?_push_size _ rfl, rfl⟩
section
variable {it l : Addr} {i : Nat} {items : List Value} {n : Nat}
theorem iterNext_one {x : Value} {Q : Option Value → Shared → Prop} (ho : s.heap.get? it = some (oIter (.ref l) i)) (hl : s.heap.get? l = some (oList items n)) (hx : items[i]? = some x) (hQ : ∀ h', h'.get? it = some (oIter (.ref l) (i + 1 : Nat)) → Heap.ExtBut it s.heap h' → Q (some x) { s with heap := h' }) : wpAny (model prog w) A (pyNext (.ref it)) Q E s := by
  unfold pyNext
  have T := iter_typ ho
  refine wpAny_bind (wpAny_attempt (wpAny_callSpecial?_slot (name := Str.ofString "__next__") T slot_listiter_next (wpAny_call_entry slot_listiter_next T entry_listiter_next ?_ (args_listiter_next _))))
  show wpAny _ _ (field (.ref it) 0 >>= _) _ _ s
  refine wpAny_bind (wpAny_field ho rfl (x := .ref l) rfl ?_)
  rw [if_neg (show ¬ ((Value.ref l == Value.none) = true) from Bool.false_ne_true)]
  refine wpAny_bind (m := field (.ref it) 1) (wpAny_field ho rfl (x := .int i 0) rfl ?_)
  dsimp only
  refine wpAny_bind (wpAny_seqItems hl rfl ?_)
  dsimp only
  simp only [Int.toNat_natCast, List.getElem?_toArray, hx]
  refine wpAny_bind (wpAny_setField ho rfl (by simp) (wpAny_pure ⟨x, rfl, wpAny_pure (hQ _ ?_ (Heap.SameBut.update ..).extBut)⟩))
  rw [Heap.get?_update_self _ ho rfl]
  rfl
theorem iterNext_end {Q : Option Value → Shared → Prop} (hh : A.handled = none) (ho : s.heap.get? it = some (oIter (.ref l) i)) (hl : s.heap.get? l = some (oList items n)) (hx : items[i]? = none) (hQ : ∀ h', h'.get? it = some (oIter .none i) → Heap.ExtBut it s.heap h' → Q none { s with heap := h' }) : wpAny (model prog w) A (pyNext (.ref it)) Q E s := by
  unfold pyNext
  have T := iter_typ ho
  refine wpAny_bind (wpAny_attempt (wpAny_callSpecial?_slot (name := Str.ofString "__next__") T slot_listiter_next (wpAny_call_entry slot_listiter_next T entry_listiter_next ?_ (args_listiter_next _))))
  show wpAny _ _ (field (.ref it) 0 >>= _) _ _ s
  refine wpAny_bind (wpAny_field ho rfl (x := .ref l) rfl ?_)
  rw [if_neg (show ¬ ((Value.ref l == Value.none) = true) from Bool.false_ne_true)]
  refine wpAny_bind (m := field (.ref it) 1) (wpAny_field ho rfl (x := .int i 0) rfl ?_)
  dsimp only
  refine wpAny_bind (wpAny_seqItems hl rfl ?_)
  dsimp only
  simp only [Int.toNat_natCast, List.getElem?_toArray, hx]
  refine wpAny_bind (wpAny_rule (wpAny_bind (wpAny_setField ho rfl (by simp) ?_)))
  have h1 : (s.heap.update it (Obj.mapFields (·.setIfInBounds 0 Value.none))).get? it = some (oIter .none i) := by
    rw [Heap.get?_update_self _ ho rfl]; rfl
  refine stop_raised (A := A.in1) hh fun e h' hk hT => ?_
  refine wpAny_bind (wpAny_isInstance (T := "StopIteration") (b := true) hT isSubtype_stop ?_)
  exact wpAny_pure (hQ _ (hk _ _ h1) fun b o hb e => hk _ _ ((Heap.SameBut.update ..).extBut b o hb e))
end
theorem iterNext_ended {it : Addr} {i : Int} {Q : Option Value → Shared → Prop} (hh : A.handled = none) (ho : s.heap.get? it = some (oIter .none i))
    (hQ : ∀ h', (∀ b o, s.heap.get? b = some o → h'.get? b = some o) → Q none { s with heap := h' }) : wpAny (model prog w) A (pyNext (.ref it)) Q E s := by
  unfold pyNext
  have T := iter_typ ho
  refine wpAny_bind (wpAny_attempt (wpAny_callSpecial?_slot (name := Str.ofString "__next__") T slot_listiter_next (wpAny_call_entry slot_listiter_next T entry_listiter_next ?_ (args_listiter_next _))))
  show wpAny _ _ (field (.ref it) 0 >>= _) _ _ s
  refine wpAny_bind (wpAny_field ho rfl (x := .none) rfl ?_)
  rw [if_pos (show ((Value.none == Value.none) = true) from rfl)]
  refine wpAny_bind (wpAny_rule (wpAny_bind (m := SmallTypes.stopIteration) ?_))
  refine stop_raised (A := A.in1) hh fun e h' hk hT => ?_
  refine wpAny_bind (wpAny_isInstance (T := "StopIteration") (b := true) hT isSubtype_stop ?_)
  exact wpAny_pure (hQ _ hk)
theorem kind_next : builtinKind "next" = none := by decide +kernel
theorem plain_next : plainId "next" = true := by decide +kernel
theorem entry_next : entryFor table "next" = some Builtin.«next» := entryFor_of_tree (by kernel_rfl)
theorem args_next (a b : Value) : argsOk "next" ⟨[a, b], []⟩ := by unfold argsOk; kernel_rfl
theorem kind_iter : builtinKind "iter" = none := by decide +kernel
theorem plain_iter : plainId "iter" = true := by decide +kernel
theorem entry_iter : entryFor table "iter" = some Builtin.«iter» := entryFor_of_tree (by kernel_rfl)
theorem args_iter (a : Value) : argsOk "iter" ⟨[a], []⟩ := by unfold argsOk; kernel_rfl
theorem call_next {it : Addr} {l d : Value} {k : Int} {Q : Value → Shared → Prop} (ho : s.heap.get? it = some (oIter l k))
    (h : wpAny (model prog w) A.in1 (pyNext (.ref it)) (fun r s' => Q (r.getD d) s') E s) : wpAny (model prog w) A (call (.builtin "next") [.ref it, d]) Q E s := by
  refine Calls.call_function_entry kind_next plain_next entry_next (args_next _ _) ?_
  unfold Builtin.«next»
  refine wpAny_bind (m := someArgs "next" 1 2 _) (wpAny_pure ?_)
  refine wpAny_bind (m := specialOf (.ref it) (Str.ofString "__next__")) (wpAny_specialOf (iter_typ ho) slot_listiter_next.lookup ?_)
  rw [if_neg (by decide)]
  exact wpAny_bind (wpAny_mono h (fun r s' q => wpAny_pure ⟨_, rfl, q⟩) fun _ _ e => e)
end
noncomputable def eStepL (i l k : Nat) : EM (Option AV) := EM.bind (EM.cellAs asList l) fun xs => EM.bind EM.cutW fun o => onSome o (fun y => EM.turn (xs[k]? = some y) (fun σ => σ.set i (.liter l (k + 1))) (some y)) (EM.turn (xs[k]? = none) (fun σ => σ.set i .lend) none)
noncomputable def eNextC (i : Nat) (c : Cell) : EM (Option AV) := onCLiter c (fun l k => eStepL i l k) <| onCLend c (EM.ret none) EM.fail
noncomputable def eNext (as : List AV) : EM AV := on2 as (fun it d => onRef it (fun i => EM.bind (EM.cell i) fun c => EM.bind (eNextC i c) fun o => EM.ret (o.getD d)) EM.fail) EM.fail
noncomputable def eIter (as : List AV) : EM AV := on1 as (fun a => onRef a (fun l => EM.bind (EM.cellAs asList l) fun _ => EM.bind (EM.push (.liter l 0)) fun i => EM.ret (.ref i)) EM.fail) EM.fail
section
variable {X : Ctx} {A : Around} {ρ : Rho} {F : Fz} {σ : St} {s : Shared} {Γ : Kn}
theorem Dens.none {n : Nat} {xs : List AV} {vs : List Value} (d : Dens n ρ F xs vs) {i : Nat} (h : xs[i]? = none) : vs[i]? = none := by
  rw [List.getElem?_eq_none_iff] at h ⊢
  rw [← d.length]; exact h
noncomputable def ROpt (o : Option AV) (v : Option Value) : Kn := ⟨fun n ρ F => ODen n ρ F o v, fun h1 h2 h3 => ODen.imp fun _ _ => Den.mono h1 h2 h3⟩
theorem stepL_ok (hA : A.handled = none) (I : Inv X ρ F σ s) {i l k : Nat} (hi : σ.get i = some (.liter l k)) : RunAt σ (eStepL i l k) fun o σ' => Goes X A ρ F σ s (pyNext (.ref (ρ i))) (ROpt o) σ' := by
  have ho := I.atIt hi
  refine RunAt.cellAs asList_some fun xs hx => RunAt.cutW fun o => (I.atL hx).elim fun ws q => q.elim fun kk q => ?_
  cases o with
  | some y => exact RunAt.turn fun hy => (q.2.nth hy).elim fun v hv => Goes.to fun Q E hQ => iterNext_one ho.1 q.1 hv.1 fun h' ho' hk => hQ _ _ ρ F ⟨v, rfl, hv.2⟩ (I.set hi hk (c' := .liter l (k + 1)) (.ofIt ho' ho.2) s.toks)
  | none => exact RunAt.turn fun hy => Goes.to fun Q E hQ => iterNext_end hA ho.1 q.1 (q.2.none hy) fun h' ho' hk => hQ _ _ ρ F rfl (I.set hi hk (c' := .lend) (.ofEnd ho') s.toks)
theorem ended_ok (hA : A.handled = none) (I : Inv X ρ F σ s) {i : Nat} (hi : σ.get i = some .lend) : Goes X A ρ F σ s (pyNext (.ref (ρ i))) (ROpt none) σ :=
  (I.atEnd hi).elim fun k ho => Goes.to fun Q E hQ => iterNext_ended hA ho fun h' hk => hQ _ _ ρ F rfl (I.grow hk s.toks)
theorem getD_den {n : Nat} {o : Option AV} {v : Option Value} {d : AV} {dv : Value} (h : ODen n ρ F o v) (hd : Den n ρ F d dv) : Den n ρ F (o.getD d) (v.getD dv) := by
  cases o with
  | none => rw [show v = Option.none from h]; exact hd
  | some a => exact h.elim fun w q => by rw [q.1]; exact q.2
theorem next_of {i : Nat} {o d : AV} {x : Option AV} {v : Value} {l : Value} {k : Int} {σ' : St} (I : Inv X ρ F σ s) (ho : s.heap.get? (ρ i) = some (oIter l k)) (dv : Den σ.n ρ F d v) (h : Goes X A.in1 ρ F σ s (pyNext (.ref (ρ i))) (ROpt x) σ') :
    Goes X A ρ F σ s (call (.builtin "next") [.ref (ρ i), v]) (RDen (x.getD d)) σ' := fun Q E hQ => call_next ho (h _ E fun r s' ρ' F' hr I' st => hQ _ s' ρ' F' (getD_den hr (Den.step dv st)) I' st)
theorem Sim.next (hA : A.handled = none) (as : List AV) : SimB X A "next" (eNext as) as := by
  refine on2_ind (P := SimB X A "next") (fun it d => ?_) fun _ => SimB.fail
  refine onRef_ind (P := fun x a => SimB X A "next" x [a, d]) (fun i => ?_) SimB.fail
  refine SimB.of fun σ ρ F s vs I dd => dens2 (P := fun vs => RunAt σ (EM.bind (EM.cell i) fun c => EM.bind (eNextC i c) fun o => EM.ret (o.getD d)) fun b σ' => Goes X A ρ F σ s (call (.builtin "next") vs) (RDen b) σ') dd fun u w (du : u = .ref (ρ i) ∧ i < σ.n) dw => ?_
  rw [du.1]
  refine RunAt.cell fun c hc => RunAt.bind (C := fun o σ' => Goes X A ρ F σ s (call (.builtin "next") [.ref (ρ i), w]) (RDen (o.getD d)) σ') ?_ fun o σ' h => RunAt.ret h
  exact onCLiter_ind (P := fun (x : EM (Option AV)) c => σ.get i = some c → RunAt σ x fun o σ' => Goes X A ρ F σ s (call (.builtin "next") [.ref (ρ i), w]) (RDen (o.getD d)) σ') (fun l k hc => (stepL_ok (A := A.in1) hA I hc).mono fun o σ' h => next_of (o := d) I (I.atIt hc).1 dw h)
    (onCLend_ind (P := fun (x : EM (Option AV)) c => σ.get i = some c → RunAt σ x fun o σ' => Goes X A ρ F σ s (call (.builtin "next") [.ref (ρ i), w]) (RDen (o.getD d)) σ') (fun hc => RunAt.ret ((I.atEnd hc).elim fun k ho => next_of (o := d) I ho dw (ended_ok (A := A.in1) hA I hc))) fun _ => RunAt.fail) hc
theorem pushIter (I : Inv X ρ F σ s) {l : Nat} (hl : l < σ.n) {Q : Value → Shared → Prop} (hQ : ∀ v s' ρ' F', (RDen (.ref σ.n) v).p (σ.push (.liter l 0)).n ρ' F' → Inv X ρ' F' (σ.push (.liter l 0)) s' ∧ Stp ρ F σ s ρ' F' (σ.push (.liter l 0)) s' → Q v s') :
    Q (.ref s.heap.objs.size) { s with heap := s.heap.push (oIter (.ref (ρ l)) 0) } :=
  hQ _ _ _ F (Den.fresh ρ F σ _ _) (I.push (a := s.heap.objs.size) (c := .liter l 0) (Heap.get?_none_of_le (Nat.le_refl _)) (fun b o e => Heap.get?_push_of_some _ e) (.ofIt (by rw [Rho.put_lt ρ _ hl]; exact Heap.get?_push_size _ rfl) (Nat.lt_succ_of_lt hl)) s.toks)
theorem R_iter {l : Nat} {xs : List AV} (I : Inv X ρ F σ s) (hx : σ.get l = some (.list xs)) : Goes X A ρ F σ s (call (.builtin "iter") [.ref (ρ l)]) (RDen (.ref σ.n)) (σ.push (.liter l 0)) := (I.atL hx).elim fun ws q => q.elim fun kk q => Goes.to fun Q E hQ => by
  refine Calls.call_function_entry kind_iter plain_iter entry_iter (args_iter _) ?_
  unfold Builtin.«iter»
  refine wpAny_bind (m := someArgs "iter" 1 2 _) (wpAny_pure ?_)
  exact wpAny_bind (wpAny_pyIter_list (items := ws.toArray) ⟨_, q.1, rfl, kk, rfl⟩ (wpAny_pure ⟨_, rfl, pushIter I (I.lt hx) hQ⟩))
theorem Sim.iter (as : List AV) : SimB X A "iter" (eIter as) as := by
  refine on1_ind (P := SimB X A "iter") (fun a => ?_) SimB.fail
  refine onRef_ind (P := fun x a => SimB X A "iter" x [a]) (fun l => ?_) SimB.fail
  exact SimB.of fun σ ρ F s vs I d => RunAt.cellAs asList_some fun xs hx => RunAt.push (RunAt.ret (dens1 (P := fun vs => Goes X A ρ F σ s (call (.builtin "iter") vs) (RDen (.ref σ.n)) (σ.push (.liter l 0))) d fun u (du : u = .ref (ρ l) ∧ l < σ.n) => du.1 ▸ R_iter I hx))
end
theorem str_len0 {x : Str} (h : (x.length == 0) = true) : x = ⟨#[]⟩ := by
  have e : x.cps = #[] := Array.eq_empty_of_size_eq_zero (eq_of_beq h)
  exact congrArg Str.mk e
theorem str_empty_app {x y : Str} (h : (x.length == 0) = true) : x ++ y = y := by
  rw [str_len0 h]
  show (⟨#[] ++ y.cps⟩ : Str) = y
  rw [Array.empty_append]
theorem str_app_empty {x y : Str} (h : (y.length == 0) = true) : x ++ y = x := by
  rw [str_len0 h]
  show (⟨x.cps ++ #[]⟩ : Str) = x
  rw [Array.append_empty]
theorem str_app_len (x y : Str) : (x ++ y).length = x.length + y.length := Array.size_append
noncomputable def ifOp {α : Type} [DecidableEq α] {γ : Type} (a b : α) (x y : γ) : γ := _root_.cond (a == b) x y
theorem ifOp_ind {α : Type} [DecidableEq α] {γ : Type} {P : γ → α → Prop} {a b : α} {x y : γ} (h : P x b) (h0 : P y a) : P (ifOp a b x y) a := cond_ind (P := fun z => P z a) (fun e => (eq_of_beq e).symm ▸ h) h0
section
variable (op : Operator)
noncomputable def eBinI (a b : Int) : EM AV := ifOp op .Add (EM.ret (.int (a + b))) <| ifOp op .Sub (EM.ret (.int (a - b))) <| ifOp op .Mult (EM.retIf (IntMulOk a b) (.int (a * b))) <| ifOp op .Mod (EM.retIf (b ≠ 0) (.int (a.fmod b))) <|
  ifOp op .FloorDiv (EM.retIf (b ≠ 0 ∧ divisionGoesByPylong a b = false) (.int (a.fdiv b))) EM.fail
noncomputable def eBinS (a b : Str) : EM AV := ifOp op .Add (EM.retIf (a.length + b.length ≤ 1000000) (.str (a ++ b))) EM.fail
noncomputable def eBin (a b : AV) : EM AV := onInt a (fun i => onInt b (fun j => eBinI op i j) EM.fail) <| onStr a (fun i => onStr b (fun j => eBinS op i j) EM.fail) EM.fail
noncomputable def eInpI (a b : Int) : EM AV := ifOp op .Add (EM.ret (.int (a + b))) <| ifOp op .Sub (EM.ret (.int (a - b))) EM.fail
noncomputable def eInp (a b : AV) : EM AV := onInt a (fun i => onInt b (fun j => eInpI op i j) EM.fail) <| onStr a (fun i => onStr b (fun j => eBinS op i j) EM.fail) EM.fail
end
noncomputable def isNone (a : AV) : Option Bool := onVal a (fun v => onVNone v (some true) none) (some false)
noncomputable def eCmpI (op : CmpOp) (a b : Int) : EM AV := ifOp op .Eq (EM.ret (.bool (a == b))) <| ifOp op .NotEq (EM.ret (.bool (a != b))) <| ifOp op .Lt (EM.ret (.bool (decide (a < b)))) <| ifOp op .LtE (EM.ret (.bool (decide (a ≤ b)))) <|
  ifOp op .Gt (EM.ret (.bool (decide (a > b)))) <| ifOp op .GtE (EM.ret (.bool (decide (a ≥ b)))) EM.fail
noncomputable def eCmpN (op : CmpOp) (a : AV) : EM AV := ifOp op .Is (EM.bind (EM.opt (isNone a)) fun r => EM.ret (.bool r)) <| ifOp op .IsNot (EM.bind (EM.opt (isNone a)) fun r => EM.ret (.bool (!r))) EM.fail
noncomputable def isNoneV (a : AV) : Bool := onVal a (fun v => onVNone v true false) false
noncomputable def eCmp (op : CmpOp) (a b : AV) : EM AV := _root_.cond (isNoneV b) (eCmpN op a) (onInt a (fun i => onInt b (fun j => eCmpI op i j) EM.fail) EM.fail)
section
variable {X : Ctx} {A : Around} {ρ : Rho} {F : Fz} {σ : St} {s : Shared} {Γ : Kn} {α β : Type} {x : EM β} {R : β → α → Kn}
section
variable (T : Value → Sem α)
theorem Sim.isInt {i : Int} {v : Value} (hv : Γ.le (RDen (.int i) v)) (H : ∀ t, Sim X A Γ R x (T (.int i t))) : Sim X A Γ R x (T v) := Sim.know (P := ∃ t, v = .int i t) hv fun q => q.elim fun t e => e ▸ H t
theorem Sim.isStr {i : Str} {v : Value} (hv : Γ.le (RDen (.str i) v)) (H : ∀ t, Sim X A Γ R x (T (.str i t))) : Sim X A Γ R x (T v) := Sim.know (P := ∃ t, v = .str i t) hv fun q => q.elim fun t e => e ▸ H t
theorem Sim.caseInt {a : AV} {v : Value} {f : Int → EM β} {d : EM β} (hv : Γ.le (RDen a v)) (H : ∀ i t, Sim X A Γ R (f i) (T (.int i t))) (h0 : Sim X A Γ R d (T v)) : Sim X A Γ R (onInt a f d) (T v) :=
  onInt_ind (P := fun x a => Γ.le (RDen a v) → Sim X A Γ R x (T v)) (fun i h => Sim.isInt T h (H i)) (fun _ => h0) hv
theorem Sim.caseStr {a : AV} {v : Value} {f : Str → EM β} {d : EM β} (hv : Γ.le (RDen a v)) (H : ∀ i t, Sim X A Γ R (f i) (T (.str i t))) (h0 : Sim X A Γ R d (T v)) : Sim X A Γ R (onStr a f d) (T v) :=
  onStr_ind (P := fun x a => Γ.le (RDen a v) → Sim X A Γ R x (T v)) (fun i h => Sim.isStr T h (H i)) (fun _ => h0) hv
end
theorem Sim.ret1 {b : β} {t : Sem α} (h : ∀ ρ F σ s, Inv X ρ F σ s → Γ.p σ.n ρ F → Goes X A ρ F σ s t (R b) σ) : Sim X A Γ R (EM.ret b) t := Sim.ofRun fun σ ρ F s I g => RunAt.ret (h ρ F σ s I g)
theorem Sim.retIf1 {P : Prop} {b : β} {t : Sem α} (h : P → ∀ ρ F σ s, Inv X ρ F σ s → Γ.p σ.n ρ F → Goes X A ρ F σ s t (R b) σ) : Sim X A Γ R (EM.retIf P b) t := Sim.ofRun fun σ ρ F s I g => RunAt.retIf fun p => h p ρ F σ s I g
theorem int_at {i : Int} {Q : Value → Shared → Prop} (hQ : ∀ v k, (RDen (.int i) v).p σ.n ρ F → Q v { s with toks := k }) : Q (.int i s.toks) { s with toks := s.toks + 1 } := hQ _ _ ⟨_, rfl⟩
theorem int_post {i : Int} {Q : Value → Shared → Prop} (hQ : ∀ v k, (RDen (.int i) v).p σ.n ρ F → Q v { s with toks := k }) : (Made.int i).post Q s := int_at hQ
theorem str_at {x y : Str} {Q : Value → Shared → Prop} (t u : Tok) (h : x.length + y.length ≤ 1000000) (hQ : ∀ v k, (RDen (.str (x ++ y)) v).p σ.n ρ F → Q v { s with toks := k }) :
    (if (x.length == 0) = true then Made.val (.str y u) else if (y.length == 0) = true then Made.val (.str x t) else Made.str (x ++ y)).post Q s := by
  have h1 : (x.length == 0) = true → Q (.str y u) s := fun h => hQ (.str y u) s.toks (show ∃ t, Value.str y u = .str (x ++ y) t from ⟨u, by rw [str_empty_app h]⟩)
  have h2 : (y.length == 0) = true → Q (.str x t) s := fun h => hQ (.str x t) s.toks (show ∃ t', Value.str x t = .str (x ++ y) t' from ⟨t, by rw [str_app_empty h]⟩)
  have h3 : (x ++ y).length ≤ sizeLine := by rw [str_app_len]; exact Nat.le_trans h (by decide)
  split
  · exact h1 ‹_›
  · split
    · exact h2 ‹_›
    · exact ⟨h3, hQ (.str (x ++ y) s.toks) _ (show ∃ t', Value.str (x ++ y) s.toks = .str (x ++ y) t' from ⟨_, rfl⟩)⟩
theorem R_mod {a b : Int} {t u : Tok} (I : Inv X ρ F σ s) (h : b ≠ 0) : Goes X A ρ F σ s (binaryOp .Mod (.int a t) (.int b u)) (RDen (.int (a.fmod b))) σ := by
  refine Goes.tok I fun Q E hQ => ?_
  have hb : ¬(b == 0) = true := fun e => h (eq_of_beq e)
  exact AutoIntOps.mod_1 hb (int_post hQ)
theorem R_fdiv {a b : Int} {t u : Tok} (I : Inv X ρ F σ s) (h : b ≠ 0 ∧ divisionGoesByPylong a b = false) : Goes X A ρ F σ s (binaryOp .FloorDiv (.int a t) (.int b u)) (RDen (.int (a.fdiv b))) σ := by
  refine Goes.tok I fun Q E hQ => ?_
  have hb : ¬(b == 0) = true := fun e => h.1 (eq_of_beq e)
  exact AutoIntOps.floordiv_1 hb (by rw [h.2]; decide) (int_post hQ)
theorem Sim.binI (op : Operator) (a b : Int) (t u : Tok) : Sim X A Γ RDen (eBinI op a b) (binaryOp op (.int a t) (.int b u)) := by
  unfold eBinI
  refine ifOp_ind (P := fun x op => Sim X A Γ RDen x (binaryOp op (.int a t) (.int b u))) ?_ ?_
  · exact Sim.ret1 fun ρ F σ s I g => Goes.tok I fun Q E hQ => P.add_int (int_at hQ)
  refine ifOp_ind (P := fun x op => Sim X A Γ RDen x (binaryOp op (.int a t) (.int b u))) ?_ ?_
  · exact Sim.ret1 fun ρ F σ s I g => Goes.tok I fun Q E hQ => P.sub_int (int_at hQ)
  refine ifOp_ind (P := fun x op => Sim X A Γ RDen x (binaryOp op (.int a t) (.int b u))) ?_ ?_
  · exact Sim.retIf1 fun h ρ F σ s I g => Goes.tok I fun Q E hQ => P.mul_int (int_at hQ) h
  refine ifOp_ind (P := fun x op => Sim X A Γ RDen x (binaryOp op (.int a t) (.int b u))) ?_ ?_
  · refine Sim.retIf1 ?_
    intro h ρ F σ s I g
    exact R_mod I h
  refine ifOp_ind (P := fun x op => Sim X A Γ RDen x (binaryOp op (.int a t) (.int b u))) ?_ ?_
  · exact Sim.retIf1 fun h ρ F σ s I g => R_fdiv I h
  exact Sim.fail
theorem Sim.binS (op : Operator) (a b : Str) (t u : Tok) : Sim X A Γ RDen (eBinS op a b) (binaryOp op (.str a t) (.str b u)) := by
  unfold eBinS
  refine ifOp_ind (P := fun x op => Sim X A Γ RDen x (binaryOp op (.str a t) (.str b u))) ?_ ?_
  · exact Sim.retIf1 fun h ρ F σ s I g => Goes.tok I fun Q E hQ => P.add_str (str_at t u h hQ)
  exact Sim.fail
theorem Sim.bin {op : Operator} {a b : AV} {v w : Value} (ha : Γ.le (RDen a v)) (hb : Γ.le (RDen b w)) : Sim X A Γ RDen (eBin op a b) (binaryOp op v w) :=
  Sim.caseInt (fun v => binaryOp op v w) ha (fun i t => Sim.caseInt (fun w => binaryOp op (.int i t) w) hb (fun j u => Sim.binI op i j t u) Sim.fail) (Sim.caseStr (fun v => binaryOp op v w) ha (fun i t => Sim.caseStr (fun w => binaryOp op (.str i t) w) hb (fun j u => Sim.binS op i j t u) Sim.fail) Sim.fail)
theorem Sim.inpI (op : Operator) (a b : Int) (t u : Tok) : Sim X A Γ RDen (eInpI op a b) (inplaceOp op (.int a t) (.int b u)) := by
  unfold eInpI
  refine ifOp_ind (P := fun x op => Sim X A Γ RDen x (inplaceOp op (.int a t) (.int b u))) ?_ ?_
  · exact Sim.ret1 fun ρ F σ s I g => Goes.tok I fun Q E hQ => P.iadd_int (int_at hQ)
  refine ifOp_ind (P := fun x op => Sim X A Γ RDen x (inplaceOp op (.int a t) (.int b u))) ?_ ?_
  · exact Sim.ret1 fun ρ F σ s I g => Goes.tok I fun Q E hQ => P.isub_int (int_at hQ)
  exact Sim.fail
theorem Sim.inpS (op : Operator) (a b : Str) (t u : Tok) : Sim X A Γ RDen (eBinS op a b) (inplaceOp op (.str a t) (.str b u)) := by
  unfold eBinS
  refine ifOp_ind (P := fun x op => Sim X A Γ RDen x (inplaceOp op (.str a t) (.str b u))) ?_ ?_
  · exact Sim.retIf1 fun h ρ F σ s I g => Goes.tok I fun Q E hQ => P.iadd_str (str_at t u h hQ)
  exact Sim.fail
theorem Sim.inp {op : Operator} {a b : AV} {v w : Value} (ha : Γ.le (RDen a v)) (hb : Γ.le (RDen b w)) : Sim X A Γ RDen (eInp op a b) (inplaceOp op v w) :=
  Sim.caseInt (fun v => inplaceOp op v w) ha (fun i t => Sim.caseInt (fun w => inplaceOp op (.int i t) w) hb (fun j u => Sim.inpI op i j t u) Sim.fail) (Sim.caseStr (fun v => inplaceOp op v w) ha (fun i t => Sim.caseStr (fun w => inplaceOp op (.str i t) w) hb (fun j u => Sim.inpS op i j t u) Sim.fail) Sim.fail)
theorem isNone_val {n : Nat} {a : AV} {v : Value} {b : Bool} (d : Den n ρ F a v) (h : isNone a = some b) : plainIs v .none = true ∧ (v == .none) = b := by
  cases a with
  | val w =>
    rw [show v = w from d]
    exact onVNone_ind (P := fun (x : Option Bool) w => x = some b → plainIs w .none = true ∧ (w == .none) = b) (fun h => ⟨rfl, Option.some.inj h⟩) (fun h => noneOf h) h
  | bool c => rw [show v = .bool c from d]; exact ⟨rfl, Option.some.inj h⟩
  | int i => exact (den_int d).elim fun t e => e ▸ ⟨rfl, Option.some.inj h⟩
  | str x => exact (den_str d).elim fun t e => e ▸ ⟨rfl, Option.some.inj h⟩
  | ref i => exact d.1 ▸ ⟨rfl, Option.some.inj h⟩
  | tup xs => cases den_tup d with | mk a vs k e => rw [e]; exact ⟨rfl, Option.some.inj h⟩
  | obj C fs => cases den_obj d with | mk a d' od es k e => rw [e]; exact ⟨rfl, Option.some.inj h⟩
  | slo C fs => cases den_slo d with | mk a d' od vs e => rw [e]; exact ⟨rfl, Option.some.inj h⟩
  | clo a b c e f => cases (show dClo n ρ F a b c e f v from d) with | mk a qual o pm code ct e => rw [e]; exact ⟨rfl, Option.some.inj h⟩
theorem Sim.cmpI (op : CmpOp) (a b : Int) (t u : Tok) : Sim X A Γ RDen (eCmpI op a b) (compareOp op (.int a t) (.int b u)) := by
  unfold eCmpI
  refine ifOp_ind (P := fun x op => Sim X A Γ RDen x (compareOp op (.int a t) (.int b u))) ?_ ?_
  · exact Sim.ret1 fun ρ F σ s I g => Goes.same I fun Q E hQ => P.eq_int (hQ _ rfl)
  refine ifOp_ind (P := fun x op => Sim X A Γ RDen x (compareOp op (.int a t) (.int b u))) ?_ ?_
  · exact Sim.ret1 fun ρ F σ s I g => Goes.same I fun Q E hQ => P.ne_int (hQ _ rfl)
  refine ifOp_ind (P := fun x op => Sim X A Γ RDen x (compareOp op (.int a t) (.int b u))) ?_ ?_
  · exact Sim.ret1 fun ρ F σ s I g => Goes.same I fun Q E hQ => P.lt_int (hQ _ rfl)
  refine ifOp_ind (P := fun x op => Sim X A Γ RDen x (compareOp op (.int a t) (.int b u))) ?_ ?_
  · exact Sim.ret1 fun ρ F σ s I g => Goes.same I fun Q E hQ => P.le_int (hQ _ rfl)
  refine ifOp_ind (P := fun x op => Sim X A Γ RDen x (compareOp op (.int a t) (.int b u))) ?_ ?_
  · exact Sim.ret1 fun ρ F σ s I g => Goes.same I fun Q E hQ => P.gt_int (hQ _ rfl)
  refine ifOp_ind (P := fun x op => Sim X A Γ RDen x (compareOp op (.int a t) (.int b u))) ?_ ?_
  · exact Sim.ret1 fun ρ F σ s I g => Goes.same I fun Q E hQ => P.ge_int (hQ _ rfl)
  exact Sim.fail
theorem isNoneV_is {n : Nat} {b : AV} {w : Value} : isNoneV b = true → Den n ρ F b w → w = .none :=
  onVal_ind (P := fun x b => x = true → Den n ρ F b w → w = .none) (fun v h d => (show w = v from d).trans (onVNone_ind (P := fun x v => x = true → v = .none) (fun _ => rfl) ff h)) ff
theorem Sim.cmpN (op : CmpOp) {a : AV} {v : Value} (ha : Γ.le (RDen a v)) : Sim X A Γ RDen (eCmpN op a) (compareOp op v .none) := by
  unfold eCmpN
  refine ifOp_ind (P := fun x op => Sim X A Γ RDen x (compareOp op v .none)) ?_ ?_
  · exact Sim.opt fun c h => Sim.ret1 fun ρ F σ s I g => Goes.same I fun Q E hQ => let q := isNone_val (ha _ _ _ g) h; wpAny_is_plain q.1 (by rw [q.2]; exact hQ _ rfl)
  refine ifOp_ind (P := fun x op => Sim X A Γ RDen x (compareOp op v .none)) ?_ ?_
  · exact Sim.opt fun c h => Sim.ret1 fun ρ F σ s I g => Goes.same I fun Q E hQ => let q := isNone_val (ha _ _ _ g) h; wpAny_isNot_plain q.1 (by rw [q.2]; exact hQ _ rfl)
  exact Sim.fail
theorem Sim.cmp {op : CmpOp} {a b : AV} {v w : Value} (ha : Γ.le (RDen a v)) (hb : Γ.le (RDen b w)) : Sim X A Γ RDen (eCmp op a b) (compareOp op v w) :=
  cond_ind (P := fun x => Sim X A Γ RDen x (compareOp op v w)) (fun h => Sim.know (P := w = .none) (fun _ _ _ g => isNoneV_is h (hb _ _ _ g)) fun e => e ▸ Sim.cmpN op ha)
    (Sim.caseInt (fun v => compareOp op v w) ha (fun i t => Sim.caseInt (fun w => compareOp op (.int i t) w) hb (fun j u => Sim.cmpI op i j t u) Sim.fail) Sim.fail)
end
noncomputable def eAt (xs : List AV) (k : Int) : EM AV := EM.bind EM.cut fun p => EM.retIf (0 ≤ k ∧ k < 1000000 ∧ xs[k.toNat]? = some p.2) p.2
noncomputable def eGetItem (a b : AV) : EM AV := onInt b (fun k => onRef a (fun i => EM.bind (eCellL i) fun xs => eAt xs k) <| onTup a (fun xs => eAt xs k) <| onStr a (fun x => EM.retIf (0 ≤ k ∧ k < x.length ∧ x.length ≤ 1000000) (.str ⟨#[x.cps[k.toNat]!]⟩)) EM.fail) EM.fail
noncomputable def eSetItem (a b c : AV) : EM Unit := onRef a (fun i => onInt b (fun k => EM.bind (eCellL i) fun xs => EM.bind (EM.cond (0 ≤ k ∧ k < xs.length)) fun _ => eSetL i (xs.set k.toNat c)) EM.fail) EM.fail
section
variable {X : Ctx} {A : Around} {ρ : Rho} {F : Fz} {σ : St} {s : Shared} {Γ : Kn}
theorem RunAt.itemAt {xs : List AV} {k : Int} {C : AV → St → Prop} (h : ∀ y, 0 ≤ k → k < 1000000 → xs[k.toNat]? = some y → C y σ) : RunAt σ (eAt xs k) C := RunAt.word fun p => RunAt.retIf fun q => h p.2 q.1 q.2.1 q.2.2
theorem item_list (I : Inv X ρ F σ s) {i : Nat} {xs : List AV} {k : Int} {t : Tok} {y : AV} (hx : σ.get i = some (.list xs)) (h0 : 0 ≤ k) (h1 : k < 1000000) (h2 : xs[k.toNat]? = some y) : Goes X A ρ F σ s (getItem (.ref (ρ i)) (.int k t)) (RDen y) σ :=
  (I.atL hx).elim fun ws q => q.elim fun kk q => (q.2.nth h2).elim fun w hw => Goes.same I fun Q E hQ => wpAny_getItem_list (items := ws.toArray) ⟨_, q.1, rfl, kk, rfl⟩ h0 (by omega) (x := w) (by simpa using hw.1) (hQ w hw.2)
theorem lt_of_some {α : Type} {xs : List α} {i : Nat} {y : α} (h : xs[i]? = some y) : i < xs.length := by
  rcases Nat.lt_or_ge i xs.length with q | q
  · exact q
  · rw [List.getElem?_eq_none q] at h; exact noneOf h
theorem item_tup (I : Inv X ρ F σ s) {xs : List AV} {v : Value} {k : Int} {t : Tok} {y : AV} (d : Den σ.n ρ F (.tup xs) v) (h0 : 0 ≤ k) (h1 : k < 1000000) (h2 : xs[k.toNat]? = some y) : Goes X A ρ F σ s (getItem v (.int k t)) (RDen y) σ := by
  cases den_tup d with | mk a vs kk e h hs =>
  refine (hs.nth h2).elim fun w hw => Goes.same I fun Q E hQ => ?_
  have hlt := lt_of_some hw.1
  rw [e]
  exact P.getItem_tuple (I.froz _ _ h) (by omega) (by omega) (k := k.toNat) (y := w) (seqIndex_of h0 (by simp only [List.size_toArray]; omega)) (by simpa using hw.1) (hQ w hw.2)
theorem item_str (I : Inv X ρ F σ s) {x : Str} {t u : Tok} {k : Int} (h : 0 ≤ k ∧ k < x.length ∧ x.length ≤ 1000000) : Goes X A ρ F σ s (getItem (.str x t) (.int k u)) (RDen (.str ⟨#[x.cps[k.toNat]!]⟩)) σ := Goes.tok I fun Q E hQ => by
  have hlt : k.toNat < x.cps.size := by have : x.length = x.cps.size := rfl; omega
  refine P.getItem_str (c := x.cps[k.toNat]!) (by simp only [Bool.or_eq_false_iff, decide_eq_false_iff_not]; omega) ?_ (hQ _ _ ⟨_, rfl⟩)
  rw [seqIndex_of h.1 h.2.1, Option.bind_some, Array.getElem?_eq_getElem hlt, getElem!_pos x.cps k.toNat hlt]
theorem Sim.getItem {a b : AV} {v w : Value} (ha : Γ.le (RDen a v)) (hb : Γ.le (RDen b w)) : Sim X A Γ RDen (eGetItem a b) (getItem v w) :=
  Sim.caseInt (fun w => PySem.getItem v w) hb (fun k t => onRef_ind (P := fun x a => Γ.le (RDen a v) → Sim X A Γ RDen x (PySem.getItem v (.int k t))) (fun i h => Sim.ofRun fun σ ρ F s I g => RunAt.cellL fun xs hx _ => RunAt.itemAt fun y h0 h1 h2 => (show v = .ref (ρ i) ∧ i < σ.n from h _ _ _ g).1 ▸ item_list I hx h0 h1 h2)
    (onTup_ind (P := fun x a => Γ.le (RDen a v) → Sim X A Γ RDen x (PySem.getItem v (.int k t))) (fun xs h => Sim.ofRun fun σ ρ F s I g => RunAt.itemAt fun y h0 h1 h2 => item_tup I (h _ _ _ g) h0 h1 h2)
      fun h => Sim.caseStr (fun v => PySem.getItem v (.int k t)) h (fun x u => Sim.retIf1 fun q ρ F σ s I g => item_str I q) Sim.fail) ha) Sim.fail
theorem Dens.setAt {n : Nat} {c : AV} {v : Value} (dc : Den n ρ F c v) : ∀ {xs : List AV} {vs : List Value} (i : Nat), Dens n ρ F xs vs → Dens n ρ F (xs.set i c) (vs.set i v)
  | [], _, _, d => by rw [dens_n d]; rfl
  | _ :: _, [], _, d => d.elim
  | _ :: _, _ :: _, 0, d => ⟨dc, d.2⟩
  | _ :: _, _ :: _, i + 1, d => ⟨d.1, Dens.setAt dc i d.2⟩
theorem set_list (I : Inv X ρ F σ s) {i : Nat} {xs : List AV} {k : Int} {t : Tok} {c : AV} {x : Value} (hx : σ.get i = some (.list xs)) (hl : xs.length ≤ 1000000) (h0 : 0 ≤ k) (h1 : k < xs.length) (dc : Den σ.n ρ F c x) : Goes X A ρ F σ s (setItem (.ref (ρ i)) (.int k t) x) (fun _ => Kn.top) (σ.set i (.list (xs.set k.toNat c))) := Goes.to fun Q E hQ => by
  cases I.lst hx hl with | mk ws kk ho dw hs =>
  have hT := plist ho rfl
  have hlen := dw.length
  unfold PySem.setItem
  refine wpAny_holding ?_
  refine wpAny_bind (wpAny_sequenceKey hT (by decide) ?_)
  refine wpAny_bind (wpAny_callSpecial?_slot (name := Str.ofString "__setitem__") hT PySem.F.slot_list_setitem (wpAny_call_entry PySem.F.slot_list_setitem hT PySem.F.entry_list_setitem ?_ (PySem.F.args_list_setitem_3 _ _ _)))
  refine wpAny_bind (m := Builtin.List.listSubscript? (.int k _)) (wpAny_listSubscript_int (fitsIndex_of h0 (by omega)) ?_)
  obtain ⟨j, rfl⟩ := Int.eq_ofNat_of_zero_le h0
  have hj : j < ws.length := by omega
  show wpAny _ _ ((seqItemAt (ρ i) j >>= fun r => pure (r.map (j, ·))) >>= _) _ _ s
  refine wpAny_bind (wpAny_bind (wpAny_seqItemAt ho rfl (wpAny_pure ?_)))
  have hx' : ws.toArray[j]? = some ws[j] := by simp [hj]
  rw [hx']
  refine wpAny_bind (m := setSeqItemAt (ρ i) j x) (wpAny_setSeqItemAt ho rfl ?_)
  exact wpAny_pure ⟨.none, rfl, wpAny_pure (hQ () _ ρ F trivial (I.listSet (ys := xs.set j c) (ws := ws.set j x) hx ho (f := fun z => z.setIfInBounds j x) (by simp) (dw.setAt (i := j) dc) s.toks))⟩
theorem Sim.setItem {a b c : AV} {v w x : Value} (ha : Γ.le (RDen a v)) (hb : Γ.le (RDen b w)) (hcc : Γ.le (RDen c x)) : Sim X A Γ (fun _ _ => Kn.top) (eSetItem a b c) (setItem v w x) :=
  onRef_ind (P := fun y a => Γ.le (RDen a v) → Sim X A Γ (fun _ _ => Kn.top) y (PySem.setItem v w x)) (fun i h => Sim.caseInt (fun w => PySem.setItem v w x) hb (fun k t => Sim.ofRun fun σ ρ F s I g => RunAt.cellL fun xs hx hl => RunAt.cond fun q => RunAt.updE ((show v = .ref (ρ i) ∧ i < σ.n from h _ _ _ g).1 ▸ set_list I hx hl q.1 q.2 (hcc _ _ _ g))) Sim.fail) (fun _ => Sim.fail) ha
end
noncomputable def freshKw {β : Type} (names : List Str) (slots ks : List (Str × β)) : Bool := ks.foldr (fun q k sl => names.contains q.1 && (sl.lookup q.1).isNone && k (sl ++ [q])) (fun _ => true) slots
noncomputable def fillD {β : Type} (slots ks : List (Str × β)) : List (Str × β) := ks.foldr (fun q k sl => onSome (sl.lookup q.1) (fun _ => k sl) (k (sl ++ [q]))) (fun sl => sl) slots
noncomputable def bindsOf {β : Type} (names : List Str) (dv : List β) (vs : List β) (ks : List (Str × β)) : Option (List (Str × β)) :=
  _root_.cond (freshKw names (names.zip vs) ks && !(decide (vs.length > names.length)) && ((names.take (names.length - (dv.drop (dv.length - names.length)).length)).filter fun n => ((names.zip vs ++ ks).lookup n).isNone).isEmpty)
    (some (names.filterMap fun n => ((fillD (names.zip vs ++ ks) ((names.drop (names.length - (dv.drop (dv.length - names.length)).length)).zip (dv.drop (dv.length - names.length)))).lookup n).map (n, ·))) none
section
variable {β γ : Type} (f : β → γ)
noncomputable def mapV (l : List (Str × β)) : List (Str × γ) := l.map fun p => (p.1, f p.2)
theorem look_mapV (x : Str) (l : List (Str × β)) : (mapV f l).lookup x = (l.lookup x).map f := lookup_map f x l
theorem none_mapV (x : Str) (l : List (Str × β)) : ((mapV f l).lookup x).isNone = (l.lookup x).isNone := by rw [look_mapV]; cases l.lookup x <;> rfl
theorem app_mapV (a b : List (Str × β)) : mapV f (a ++ b) = mapV f a ++ mapV f b := List.map_append
theorem zip_mapV : ∀ (ns : List Str) (vs : List β), mapV f (ns.zip vs) = ns.zip (vs.map f)
  | [], _ => rfl
  | _ :: _, [] => rfl
  | n :: ns, v :: vs => congrArg ((n, f v) :: ·) (zip_mapV ns vs)
theorem fresh_mapV (names : List Str) : ∀ ks sl : List (Str × β), freshKw names (mapV f sl) (mapV f ks) = freshKw names sl ks
  | [], _ => rfl
  | q :: ks, sl => by
    show (names.contains q.1 && ((mapV f sl).lookup q.1).isNone && freshKw names (mapV f sl ++ mapV f [q]) (mapV f ks)) = (names.contains q.1 && (sl.lookup q.1).isNone && freshKw names (sl ++ [q]) ks)
    rw [none_mapV, ← app_mapV, fresh_mapV names ks]
theorem fill_mapV : ∀ ks sl : List (Str × β), fillD (mapV f sl) (mapV f ks) = mapV f (fillD sl ks)
  | [], _ => rfl
  | q :: ks, sl => by
    show onSome ((mapV f sl).lookup q.1) (fun _ => fillD (mapV f sl) (mapV f ks)) (fillD (mapV f sl ++ mapV f [q]) (mapV f ks)) = mapV f (onSome (sl.lookup q.1) (fun _ => fillD sl ks) (fillD (sl ++ [q]) ks))
    rw [look_mapV, ← app_mapV, fill_mapV ks, fill_mapV ks]
    cases sl.lookup q.1 <;> rfl
theorem filt_mapV (l : List (Str × β)) : ∀ ns : List Str, (ns.filterMap fun n => ((mapV f l).lookup n).map (n, ·)) = mapV f (ns.filterMap fun n => (l.lookup n).map (n, ·))
  | [] => rfl
  | n :: ns => by
    rw [List.filterMap_cons, List.filterMap_cons, look_mapV, filt_mapV l ns]
    cases l.lookup n <;> rfl
theorem binds_mapV (ns : List Str) (dv vs : List β) (ks : List (Str × β)) : bindsOf ns (dv.map f) (vs.map f) (mapV f ks) = (bindsOf ns dv vs ks).map (mapV f) := by
  unfold bindsOf
  simp only [List.length_map, ← List.map_drop, ← zip_mapV, fresh_mapV, ← app_mapV, none_mapV, fill_mapV, filt_mapV]
  generalize (freshKw ns (ns.zip vs) ks && !(decide (vs.length > ns.length)) && ((ns.take (ns.length - (dv.drop (dv.length - ns.length)).length)).filter fun n => ((ns.zip vs ++ ks).lookup n).isNone).isEmpty) = b
  cases b <;> rfl
end
section
variable {M : Model} {A : Around} {E : Value → Shared → Prop} {s : Shared}
theorem kwLoop {names : List Str} {γ : Type} {ex : γ} {f : Str × Value → List (Str × Value) × γ → Sem (ForInStep (List (Str × Value) × γ))} (hf : ∀ x st, names.contains x.1 = true → (st.1.lookup x.1).isNone = true → f x st = pure (.yield (st.1 ++ [x], st.2))) : ∀ (ks slots : List (Str × Value)), freshKw names slots ks = true →
    ∀ (Q : List (Str × Value) × γ → Shared → Prop), Q (slots ++ ks, ex) s → wpAny M A (forIn ks (slots, ex) f) Q E s
  | [], slots, _, Q, h => by rw [List.forIn_nil]; rw [List.append_nil] at h; exact wpAny_pure h
  | q :: ks, slots, hk, Q, h => by
    have hk' : (names.contains q.1 && (slots.lookup q.1).isNone && freshKw names (slots ++ [q]) ks) = true := hk
    rw [Bool.and_eq_true, Bool.and_eq_true] at hk'
    rw [List.forIn_cons, hf _ _ hk'.1.1 hk'.1.2]
    exact wpAny_bind (wpAny_pure (kwLoop hf ks _ hk'.2 Q (by rw [List.append_assoc]; exact h)))
theorem dfLoop {f : Str × Value → List (Str × Value) → Sem (ForInStep (List (Str × Value)))} (hf : ∀ x st, f x st = if (st.lookup x.1).isNone = true then pure (.yield (st ++ [x])) else pure (.yield st)) : ∀ (ks slots : List (Str × Value)),
    ∀ (Q : List (Str × Value) → Shared → Prop), Q (fillD slots ks) s → wpAny M A (forIn ks slots f) Q E s
  | [], slots, Q, h => by rw [List.forIn_nil]; exact wpAny_pure h
  | q :: ks, slots, Q, h => by
    have h' : Q (onSome (slots.lookup q.1) (fun _ => fillD slots ks) (fillD (slots ++ [q]) ks)) s := h
    rw [List.forIn_cons, hf]
    cases hl : slots.lookup q.1 with
    | none => rw [hl] at h'; exact wpAny_bind (wpAny_pure (dfLoop hf ks _ Q h'))
    | some w => rw [hl] at h'; exact wpAny_bind (wpAny_pure (dfLoop hf ks _ Q h'))
end
theorem not_bnot {b : Bool} (h : b = true) : ¬((!b) = true) := by rw [h]; decide
section
variable {M : Model} {A : Around} {E : Value → Shared → Prop} {s : Shared}
theorem wpAny_ifn {α : Type} {c : Prop} [Decidable c] {x y : Sem α} {Q : α → Shared → Prop} (h : ¬c) (hy : wpAny M A y Q E s) : wpAny M A (if c then x else y) Q E s := (if_neg h).symm ▸ hy
theorem bindArgs_simple {fd : FuncData} {names : List Str} {dv vs : List Value} {ks : List (Str × Value)} {binds : List (Str × Value)} (h1 : fd.params.posonlyargs = []) (h2 : fd.params.kwonlyargs = []) (h3 : fd.params.vararg = none) (h4 : fd.params.kwarg = none) (h5 : fd.params.args.map (·.arg) = names) (hd : ∀ (Q : Option (Array Value) → Shared → Prop), (∀ o, (o.getD #[]).toList = dv → Q o s) → wpAny M A (seqItems? fd.defaults) Q E s) (hb : bindsOf names dv vs ks = some binds) {Q : List (Str × Value) → Shared → Prop} (h : Q binds s) : wpAny M A (bindArgs fd ⟨vs, ks⟩) Q E s := by
  unfold bindsOf at hb
  generalize hc : (freshKw names (names.zip vs) ks && !(decide (vs.length > names.length)) && ((names.take (names.length - (dv.drop (dv.length - names.length)).length)).filter fun n => ((names.zip vs ++ ks).lookup n).isNone).isEmpty) = b at hb
  cases b with
  | false => exact noneOf hb
  | true =>
    rw [← Option.some.inj hb] at h
    rw [Bool.and_eq_true, Bool.and_eq_true] at hc
    have hg' : decide (vs.length > names.length) = false := by simpa using hc.1.2
    cases fd with | mk fname qual params body scope globals closure defaults kwd doc pm ann code ct bi =>
    cases params with | mk po args va ko kdf kw dfs =>
    cases (show po = [] from h1)
    cases (show ko = [] from h2)
    cases (show va = none from h3)
    cases (show kw = none from h4)
    cases (show args.map (·.arg) = names from h5)
    unfold bindArgs
    refine wpAny_bind (kwLoop (names := args.map (·.arg)) (fun x st hc hl => ?_) ks _ hc.1.1 _ ?_)
    · show (if (_ || _) = true then if _ then _ else _ else _) = _
      rw [hc, Bool.true_or, if_pos rfl, if_neg (by rw [← Option.not_isSome, Bool.not_eq_true'] at hl; rw [hl]; decide)]
    · refine wpAny_bind (hd _ fun o ho => ?_)
      subst ho
      refine wpAny_ifn (by show ¬ ((decide (vs.length > (args.map (·.arg)).length) && true) = true); rw [hg']; decide) ?_
      refine wpAny_ifn (not_bnot hc.2) ?_
      refine wpAny_bind (dfLoop (fun x st => rfl) _ _ _ ?_)
      refine wpAny_bind (wpAny_pure ?_)
      refine wpAny_ifn (not_bnot rfl) ?_
      refine wpAny_pure ?_
      have e := List.append_nil (args.map (·.arg))
      exact e.symm ▸ h
end
noncomputable abbrev DV (n : Nat) (ρ : Rho) (F : Fz) := { p : AV × Value // Den n ρ F p.1 p.2 }
section
variable {n : Nat} {ρ : Rho} {F : Fz}
noncomputable def dvA (p : DV n ρ F) : AV := p.1.1
noncomputable def dvV (p : DV n ρ F) : Value := p.1.2
inductive Pairs (n : Nat) (ρ : Rho) (F : Fz) (a : List (Str × AV)) (v : List (Str × Value)) : Prop where
  | mk (z : List (Str × DV n ρ F)) (h1 : a = mapV dvA z) (h2 : v = mapV dvV z)
theorem Dens.sub : ∀ {xs : List AV} {vs : List Value}, Dens n ρ F xs vs → ∃ z : List (DV n ρ F), xs = z.map dvA ∧ vs = z.map dvV
  | [], _, d => ⟨[], rfl, d⟩
  | _ :: _, [], d => d.elim
  | x :: xs, v :: vs, d => (Dens.sub d.2).elim fun z q => ⟨⟨(x, v), d.1⟩ :: z, congrArg (x :: ·) q.1, congrArg (v :: ·) q.2⟩
theorem Pairs.ofDens : ∀ {ks : List (Str × AV)} {kvs : List Value}, Dens n ρ F (ks.map (·.2)) kvs → Pairs n ρ F ks ((ks.map (·.1)).zip kvs)
  | [], _, _ => ⟨[], rfl, rfl⟩
  | _ :: _, [], d => d.elim
  | q :: ks, v :: kvs, d => by cases Pairs.ofDens (ks := ks) d.2 with | mk z h1 h2 => exact ⟨(q.1, ⟨(q.2, v), d.1⟩) :: z, congrArg (q :: ·) h1, congrArg ((q.1, v) :: ·) h2⟩
theorem bindsOf_rel {names : List Str} {dv as : List AV} {dw vs : List Value} {ks : List (Str × AV)} {kv : List (Str × Value)} {b : List (Str × AV)} (hd : Dens n ρ F dv dw) (ha : Dens n ρ F as vs) (hk : Pairs n ρ F ks kv)
    (h : bindsOf names dv as ks = some b) : ∃ bv, bindsOf names dw vs kv = some bv ∧ Pairs n ρ F b bv := by
  refine hd.sub.elim fun zd q => ha.sub.elim fun za r => ?_
  cases hk with | mk z h1 h2 =>
  rw [q.1, r.1, h1, binds_mapV] at h
  rw [q.2, r.2, h2, binds_mapV]
  exact (Option.map_eq_some_iff.mp h).elim fun zb e => ⟨mapV dvV zb, by rw [e.1]; rfl, zb, e.2.symm, rfl⟩
theorem Pairs.rev {a : List (Str × AV)} {v : List (Str × Value)} (p : Pairs n ρ F a v) : Pairs n ρ F a.reverse v.reverse := by
  cases p with | mk z h1 h2 => exact ⟨z.reverse, by rw [h1]; exact List.map_reverse.symm, by rw [h2]; exact List.map_reverse.symm⟩
theorem Pairs.ns {a : List (Str × AV)} {v : List (Str × Value)} (p : Pairs n ρ F a v) : NsDen n ρ F a (fun x => v.lookup x) := fun x av h => by
  cases p with | mk z h1 h2 =>
  rw [h1, look_mapV] at h
  exact (Option.map_eq_some_iff.mp h).elim fun d q => ⟨dvV d, (by rw [h2, look_mapV, q.1]; rfl : v.lookup x = some (dvV d)), q.2 ▸ d.2⟩
theorem Pairs.mono {n' : Nat} {ρ' : Rho} {F' : Fz} (hn : n ≤ n') (hρ : ∀ i, i < n → ρ' i = ρ i) (hF : ∀ a o, F a = some o → F' a = some o) {a : List (Str × AV)} {v : List (Str × Value)} (p : Pairs n ρ F a v) : Pairs n' ρ' F' a v := by
  cases p with | mk z h1 h2 => exact ⟨z.map fun q => (q.1, ⟨q.2.1, q.2.2.mono hn hρ hF⟩), by rw [h1, mapV, mapV, List.map_map]; rfl, by rw [h2, mapV, mapV, List.map_map]; rfl⟩
theorem Pairs.loc (scope : Scope) {a : List (Str × AV)} {v : List (Str × Value)} (p : Pairs n ρ F a v) (h : (a.all fun q => scope.names.lookup q.1 == some .local) = true) : ∀ x ∈ v, scope.names.lookup x.1 = some .local := by
  cases p with | mk z h1 h2 =>
  intro x hx
  rw [h2] at hx
  rw [h1, List.all_eq_true] at h
  exact (List.mem_map.mp hx).elim fun q e => e.2 ▸ eq_of_beq (h (q.1, dvA q.2) (List.mem_map.mpr ⟨q, e.1, rfl⟩))
end
structure FnI where
  params : Arguments
  body : List Stmt
  scope : Scope
  closure : List (Str × Nat)
  dflts : List AV
  code : Value
noncomputable def dfltsIn (K : Frag) (v : Value) : Option (List AV) := onVNone v (some []) <| onVRef v (fun T => (K.lookup T).bind fun o => onDSeq o.data (fun items _ => some (items.toList.map ofStatic)) none) none
noncomputable def codeIn (K : Frag) (c : Value) (q : Str) : Bool := onVRef c (fun c => onSome (K.lookup c) (fun o => onDFields o.data (fun vs => onSome vs[1]? (fun v => onVStr v (fun x _ => x == q) false) false) false) false) false
noncomputable def fnOfData (K : Frag) (fd : FuncData) : Option FnI := onBStmts fd.body (fun b => (dfltsIn K fd.defaults).bind fun ds => _root_.cond ((fd.closure.isEmpty && codeIn K fd.code fd.qualname) && ((fd.globals == mainGlobals) && (fd.builtins == builtinsNs))) (some ⟨fd.params, b, fd.scope, [], ds, fd.code⟩) none) none
noncomputable def fnOfObj (K : Frag) (o : Obj) : Option FnI := onDFunc o.data (fnOfData K) none
noncomputable def fnInfo (K : Frag) (f : AV) : Option FnI := onVal f (fun v => onVRef v (fun a => (K.lookup a).bind (fnOfObj K)) none) <| onClo f (fun _ params body scope cl => some ⟨params, body, scope, cl, [], .none⟩) none
noncomputable def plainParams (p : Arguments) : Bool := (p.posonlyargs.isEmpty && p.kwonlyargs.isEmpty) && (p.vararg.isNone && p.kwarg.isNone)
noncomputable def plainScope (s : Scope) : Bool := (s.kind == .function) && (!s.isCoroutine && !s.isGenerator)
noncomputable def pushBoxes (names : List (Str × NameKind)) : List (Str × Nat) → St → List (Str × Nat) × St := names.foldr (fun q k acc σ => _root_.cond (q.2 == .cell) (k ((q.1, σ.n) :: acc) (σ.push (.box none))) (k acc σ)) fun acc σ => (acc, σ)
noncomputable def eParams (ae : AEnv) (binds : List (Str × AV)) : EM Unit := binds.foldr (fun q k => EM.bind (eBind ae q.1 q.2) fun _ => k) (EM.ret ())
noncomputable def eEnterC (scope : Scope) (closure : List (Str × Nat)) (code : Value) (binds : List (Str × AV)) (N : Nat) (q : List (Str × Nat) × St) : EM AEnv := EM.bind (EM.upd fun _ => q.2) fun _ => EM.bind (eParams ⟨scope, N, q.1, code, N⟩ binds) fun _ => EM.ret ⟨scope, N, q.1, code, N⟩
noncomputable def noCells (scope : Scope) : Bool := scope.names.all fun x => !(x.2 == .cell)
noncomputable def eEnter (scope : Scope) (closure : List (Str × Nat)) (code : Value) (binds : List (Str × AV)) : EM AEnv := _root_.cond ((binds.all fun q => scope.names.lookup q.1 == some .local) && noCells scope)
  (EM.bind (EM.push (.ns binds.reverse)) fun i => EM.ret ⟨scope, i, closure, code, i⟩) (EM.st fun σ => eEnterC scope closure code binds σ.n (pushBoxes scope.names closure (σ.push (.ns []))))
noncomputable def eEndBy (N : Nat) (v : AV) (w : Wd) : EM AV := onWNorm w (EM.st fun σ => EM.turn (Und N v ∧ ∀ p ∈ (σ.cut N).objs, UndC N p.2) (fun σ => σ.cut N) v) <| onWKeep w (EM.ret v) <| onWSel w (fun l => EM.bind (EM.upd fun σ => σ.sel N l) fun _ => EM.ret v) EM.fail
noncomputable def eNorm (N : Nat) (v : AV) : EM AV := EM.bind (EM.word some) (eEndBy N v)
noncomputable def onFl {γ : Type} (fl : AFlow) (n : γ) (r : AV → γ) (d : γ) : γ := match fl with
  | .next => n
  | .ret v => r v
  | _ => d
noncomputable def eFnB (r : Rec) (fi : FnI) (binds : List (Str × AV)) : EM AV := EM.st fun σ => EM.bind (eEnter fi.scope fi.closure fi.code binds) fun ae => EM.bind (r.exs ae fi.body) fun fl => onFl fl (eNorm σ.n noneAV) (eNorm σ.n) EM.fail
noncomputable def eFn (r : Rec) (fi : FnI) (as : List AV) (ks : List (Str × AV)) : EM AV := _root_.cond (plainParams fi.params && plainScope fi.scope) (onSome (bindsOf (fi.params.args.map fun p => p.arg) fi.dflts as ks) (eFnB r fi) EM.fail) EM.fail
section
variable {X : Ctx} {A : Around} {ρ : Rho} {F : Fz} {σ : St} {s : Shared} {Γ : Kn}
theorem Room.deeper {A : Around} {n : Nat} (h : Room X A (n + 1)) (env : Env) (i : Nat) : Room (X.wf ((env, i) :: X.fr)) (A.deeper env) n :=
  ⟨Nat.lt_of_le_of_lt (by show A.depth + 1 + 4 * n ≤ A.depth + 4 * (n + 1); omega) h.1, Nat.lt_of_le_of_lt (by show A.units + 3 + 40 * n ≤ A.units + 40 * (n + 1); omega) h.2.1, h.2.2.1, h.2.2.2.1, by rw [Around.frames_deeper h.2.2.2.2]; rfl⟩
theorem Room.less {A : Around} {n : Nat} (h : Room X A (n + 1)) : Room X A n := ⟨Nat.lt_of_le_of_lt (Nat.add_le_add_left (Nat.mul_le_mul_left 4 (Nat.le_succ n)) _) h.1, Nat.lt_of_le_of_lt (Nat.add_le_add_left (Nat.mul_le_mul_left 40 (Nat.le_succ n)) _) h.2.1, h.2.2⟩
theorem RunAt.norm {N : Nat} {v : AV} {C : AV → St → Prop} (h1 : Und N v → (∀ p ∈ (σ.cut N).objs, UndC N p.2) → C v (σ.cut N)) (h2 : C v σ) (h3 : ∀ l, C v (σ.sel N l)) : RunAt σ (eNorm N v) C := RunAt.word fun w =>
  onWNorm_ind (P := fun x _ => RunAt σ x C) (RunAt.st (RunAt.turn fun q => h1 q.1 q.2)) (onWKeep_ind (P := fun x _ => RunAt σ x C) (RunAt.ret h2) (onWSel_ind (P := fun x _ => RunAt σ x C) (fun l => RunAt.upd (RunAt.ret (h3 l))) RunAt.fail))
structure Got (X : Ctx) (ρ₀ : Rho) (F₀ : Fz) (σ₀ : St) (s₀ : Shared) (v : Value) (s : Shared) (ρ : Rho) (F : Fz) (b : AV) (σ : St) : Prop where
  inv : Inv X ρ F σ s
  stp : Stp ρ₀ F₀ σ₀ s₀ ρ F σ s
  den : Den σ.n ρ F b v
theorem norm_ok {N : Nat} {v : AV} {w : Value} {ρ₀ ρ₁ : Rho} {F₀ F₁ : Fz} {σ₀ : St} {s₀ s₁ : Shared} (I : Inv X ρ₁ F₁ σ s₁) (d : Den σ.n ρ₁ F₁ v w) (st : Stp ρ₀ F₀ σ₀ s₀ ρ₁ F₁ σ s₁) (hN : σ₀.n ≤ N) (hfr : ∀ e ∈ X.fr, e.2 < N) : RunAt σ (eNorm N v) (Got X ρ₀ F₀ σ₀ s₀ w s₁ ρ₁ F₁) :=
  RunAt.norm (fun u uc => ⟨I.cut (fun _ _ => rfl) uc hfr, st.cut hN, d.under (fun _ _ => rfl) u⟩) ⟨I, st, d⟩ fun l => ⟨I.sel l hfr, st.sel l, d⟩
theorem boxes_ok {M : Model} {E : Value → Shared → Prop} {Q : List (Str × Addr) → Shared → Prop} (f : Str × NameKind → List (Str × Addr) → Sem (ForInStep (List (Str × Addr))))
    (hf : ∀ name kind cells, f (name, kind) cells = if kind == .cell then (do let a ← alloc { cls := .type "cell", data := .cell none }; pure (.yield ((name, a) :: cells))) else pure (.yield cells)) :
    ∀ (names : List (Str × NameKind)) (acc : List (Str × Nat)) (ρ : Rho) (σ : St) (s : Shared), Inv X ρ F σ s → (∀ p ∈ acc, p.2 < σ.n) →
      (∀ s' ρ', Inv X ρ' F (pushBoxes names acc σ).2 s' → Stp ρ F σ s ρ' F (pushBoxes names acc σ).2 s' → (∀ p ∈ (pushBoxes names acc σ).1, p.2 < (pushBoxes names acc σ).2.n) →
        Q (mapCl ρ' (pushBoxes names acc σ).1) s') → wpAny M A (forIn names (mapCl ρ acc) f) Q E s
  | [], acc, ρ, σ, s, I, hacc, hQ => by
    rw [List.forIn_nil]
    exact wpAny_pure (hQ s ρ I (Stp.refl ρ F I.ids) hacc)
  | (n, k) :: r, acc, ρ, σ, s, I, hacc, hQ => by
    rw [List.forIn_cons, hf]
    have e : pushBoxes ((n, k) :: r) acc σ = _root_.cond (k == .cell) (pushBoxes r ((n, σ.n) :: acc) (σ.push (.box none))) (pushBoxes r acc σ) := rfl
    rw [e] at hQ
    cases hk : k == .cell with
    | false =>
      rw [hk] at hQ
      exact wpAny_bind (wpAny_pure (boxes_ok f hf r acc ρ σ s I hacc hQ))
    | true =>
      rw [hk] at hQ
      refine wpAny_bind (wpAny_bind (wpAny_alloc (wpAny_pure ?_)))
      have I₁ := I.push (a := s.heap.objs.size) (c := .box none) (h' := s.heap.push { cls := .type "cell", data := .cell none }) (Heap.get?_none_of_le (Nat.le_refl _)) (fun b o e => Heap.get?_push_of_some _ e) ⟨_, Heap.get?_push_size _ rfl, none, rfl, rfl⟩ s.toks
      have hm : (n, s.heap.objs.size) :: mapCl ρ acc = mapCl (ρ.put σ.n s.heap.objs.size) ((n, σ.n) :: acc) := by
        show _ = (n, ρ.put σ.n s.heap.objs.size σ.n) :: mapCl _ acc
        rw [Rho.put_self, mapCl_eq fun p hp => Rho.put_lt _ _ (hacc p hp)]
      show wpAny M A (forIn r ((n, s.heap.objs.size) :: mapCl ρ acc) f) Q E _
      rw [hm]
      refine boxes_ok f hf r ((n, σ.n) :: acc) _ (σ.push (.box none)) _ I₁.1 (fun p hp => ?_) fun s' ρ' I' st' h => hQ s' ρ' I' (I₁.2.trans st') h
      cases hp with
      | head => exact Nat.lt_succ_self _
      | tail _ hp => exact Nat.lt_succ_of_lt (hacc p hp)
theorem binds_ok {E : Value → Shared → Prop} {ae : AEnv} {env : Env} (f : Str × Value → PUnit → Sem (ForInStep PUnit)) (hf : ∀ n v u, f (n, v) u = (do storeName env n v; pure (.yield ⟨⟩))) {Q : PUnit → Shared → Prop} :
    ∀ {ρ : Rho} {F : Fz} (σ₀ : St) (z : List (Str × DV σ₀.n ρ F)) (s : Shared), Inv X ρ F σ₀ s → EnvOk X ae env σ₀.n ρ → RunAt σ₀ (eParams ae (mapV dvA z)) fun _ σ' => (∀ s' ρ' F', Inv X ρ' F' σ' s' → Stp ρ F σ₀ s ρ' F' σ' s' → Q ⟨⟩ s') → wpAny (model X.prog X.w) A (forIn (mapV dvV z) PUnit.unit f) Q E s := by
  intro ρ F σ₀ z
  generalize hz : z.length = k
  induction k generalizing ρ F σ₀ with
  | zero =>
    cases z with
    | cons => cases hz
    | nil => exact fun s I g => RunAt.ret fun hQ => by rw [mapV, List.map_nil, List.forIn_nil]; exact wpAny_pure (hQ s ρ F I (Stp.refl ρ F I.ids))
  | succ k ih =>
    cases z with
    | nil => cases hz
    | cons q z =>
      intro s I g ds b ev' cs e hc hQ
      refine EM.bind_use (x := eBind ae q.1 (dvA q.2)) (f := fun _ => eParams ae (mapV dvA z)) e hc fun _ ev₁ c₁ c₂ e₁ e₂ a1 a2 => ?_
      show wpAny _ A (forIn ((q.1, dvV q.2) :: mapV dvV z) PUnit.unit f) Q E s
      rw [List.forIn_cons, hf]
      refine wpAny_bind (wpAny_bind ?_)
      refine Sim.store (Γ := (EnvK X ae env).and (RDen (dvA q.2) (dvV q.2))) (Kn.fst (Kn.le_refl _)) (Kn.snd (Kn.le_refl _)) _ _ _ c₁ e₁ a1 ρ F s I ⟨g, q.2.2⟩ _ _ fun _ s₁ ρ₁ F₁ _ I₁ st₁ => ?_
      let z' : List (Str × DV ev₁.1.n ρ₁ F₁) := z.map fun q => (q.1, ⟨q.2.1, Den.step q.2.2 st₁⟩)
      have h1 : mapV dvA z = mapV dvA z' := by show _ = List.map _ (List.map _ z); rw [List.map_map]; rfl
      have h2 : mapV dvV z = mapV dvV z' := by show _ = List.map _ (List.map _ z); rw [List.map_map]; rfl
      rw [h1] at e₂
      rw [h2]
      exact wpAny_pure (ih ev₁.1 z' (by rw [List.length_map]; exact Nat.succ.inj hz) s₁ I₁ ((EnvK X ae env).mono st₁.le st₁.same st₁.sub g) ev₁.2 b ev' c₂ e₂ a2 fun s' ρ' F' I' st' => hQ s' ρ' F' I' (st₁.trans st'))
structure InCall (X : Ctx) (ρ₀ : Rho) (F₀ : Fz) (σ₀ : St) (s₀ : Shared) (ae : AEnv) (σ : St) (env : Env) (s : Shared) (ρ : Rho) (F : Fz) : Prop where
  ok : EnvOk (X.wf ((env, σ₀.n) :: X.fr)) ae env σ.n ρ
  inv : Inv (X.wf ((env, σ₀.n) :: X.fr)) ρ F σ s
  stp : Stp ρ₀ F₀ σ₀ s₀ ρ F σ s
theorem no_cell {scope : Scope} (h : noCells scope = true) : ∀ x ∈ scope.names, x.2 ≠ .cell := fun x hx e => by
  have := List.all_eq_true.mp h x hx
  rw [e] at this
  exact ff this
theorem enter_ok {E : Value → Shared → Prop} {Q : Env → Shared → Prop} {scope : Scope} {closure : List (Str × Nat)} {code : Value} {binds : List (Str × AV)} {bv : List (Str × Value)} (I : Inv X ρ F σ s) (pb : Pairs σ.n ρ F binds bv) (hclt : ∀ p ∈ closure, p.2 < σ.n) (hk : scope.kind = .function) {cd : Value} (hcode : code = .none ∨ cd = code)
    {qual : Str} {func : Option Addr} : RunAt σ (eEnter scope closure code binds) fun ae σ' => (∀ env s' ρ' F', InCall X ρ F σ s ae σ' env s' ρ' F' → Q env s') →
    wpAny (model X.prog X.w) A (newFunctionEnv scope mainGlobals (mapCl ρ closure) bv qual func cd none builtinsNs) Q E s := by
  have hp := Rho.put_self ρ σ.n s.heap.objs.size
  have hρ : ∀ i, i < σ.n → (ρ.put σ.n s.heap.objs.size) i = ρ i := fun i hi => Rho.put_lt ρ _ hi
  have hcl : mapCl ρ closure = mapCl (ρ.put σ.n s.heap.objs.size) closure := (mapCl_eq fun p hp => hρ _ (hclt p hp)).symm
  refine cond_ind (P := fun x => RunAt σ x fun ae σ' => (∀ env s' ρ' F', InCall X ρ F σ s ae σ' env s' ρ' F' → Q env s') → wpAny (model X.prog X.w) A (newFunctionEnv scope mainGlobals (mapCl ρ closure) bv qual func cd none builtinsNs) Q E s) (fun hb => RunAt.push (RunAt.ret fun hQ => ?_)) (RunAt.st (RunAt.upd ?_))
  · rw [Bool.and_eq_true] at hb
    refine wpAny_newFunctionEnv (no_cell hb.2) (pb.loc _ hb.1) (fun h' hn hsb => ?_) hk
    have st := I.push (a := s.heap.objs.size) (c := .ns binds.reverse) (Heap.get?_none_of_le (Nat.le_refl _)) (fun bb oo ee => hsb.extBut bb oo (Nat.ne_of_lt (Heap.lt_size ee)) (Heap.get?_push_of_some _ ee)) (.ofNs hn (pb.rev.mono (Nat.le_succ _) hρ (fun _ _ e => e)).ns) (s.toks + bv.length)
    refine hQ _ _ _ _ ⟨?_, st.1.frame hk (hp.symm ▸ rfl) (St.get_push_self σ _) rfl, st.2⟩
    exact ⟨rfl, hk, hp.symm, Nat.lt_succ_self _, hcl, fun p hp => Nat.lt_succ_of_lt (hclt p hp), rfl, rfl, hp.symm ▸ rfl, Nat.lt_succ_self _, ⟨_, _, rfl, rfl⟩, hcode⟩
  · cases pb with | mk z h1 h2 =>
    intro ds ae ev' cs e hc hQ
    refine EM.bind_use (x := eParams ⟨scope, σ.n, (pushBoxes scope.names closure (σ.push (.ns []))).1, code, σ.n⟩ binds) (f := fun _ => EM.ret (⟨scope, σ.n, (pushBoxes scope.names closure (σ.push (.ns []))).1, code, σ.n⟩ : AEnv)) e hc fun _ ev₁ c₁ c₂ e₁ e₂ a1 a2 => inj3 e₂ fun i1 i2 _ => ?_
    rw [← i1, ← i2] at hQ
    simp only [newFunctionEnv, Option.isSome_none, Bool.false_eq_true, if_false]
    refine wpAny_bind (wpAny_alloc ?_)
    have st₁ := I.push (a := s.heap.objs.size) (c := .ns []) (h' := s.heap.push { cls := .type "frame", data := .dict #[] }) (Heap.get?_none_of_le (Nat.le_refl _)) (fun b o e => Heap.get?_push_of_some _ e) (.ofNs (Heap.Ns.new s.heap (.type "frame")) fun x av h => noneOf h) s.toks
    rw [hcl]
    let env0 : Env := { scope, locals := s.heap.objs.size, globals := mainGlobals, cells := [], qual, func, code := cd, frame := some s.heap.objs.size, builtins := builtinsNs }
    have I₁ := st₁.1.frame (env := env0) (i := σ.n) hk (by rw [hp]) (St.get_push_self σ _) rfl
    refine wpAny_bind (boxes_ok (X := X.wf ((env0, σ.n) :: X.fr)) _ (fun name kind cells => by cases hkc : kind == NameKind.cell <;> simp [hkc]) scope.names closure _ (σ.push (.ns [])) _ I₁ (fun p hp => Nat.lt_succ_of_lt (hclt p hp)) fun s₂ ρ₂ I₂ st₂ hlt => ?_)
    have hl : ρ₂ σ.n = s.heap.objs.size := (st₂.same σ.n (Nat.lt_succ_self _)).trans hp
    have hlt0 := Nat.lt_of_lt_of_le (Nat.lt_succ_self σ.n) st₂.le
    have st12 := st₁.2.trans st₂
    let env1 : Env := { scope, locals := s.heap.objs.size, globals := mainGlobals, cells := mapCl ρ₂ (pushBoxes scope.names closure (σ.push (.ns []))).1, qual, func, code := cd, frame := some s.heap.objs.size, builtins := builtinsNs }
    have g : EnvOk (X.wf ((env1, σ.n) :: X.fr)) ⟨scope, σ.n, (pushBoxes scope.names closure (σ.push (.ns []))).1, code, σ.n⟩ env1 (pushBoxes scope.names closure (σ.push (.ns []))).2.n ρ₂ :=
      ⟨rfl, hk, hl.symm, hlt0, rfl, hlt, rfl, rfl, congrArg some hl.symm, hlt0, ⟨_, _, rfl, rfl⟩, hcode⟩
    let z' : List (Str × DV (pushBoxes scope.names closure (σ.push (.ns []))).2.n ρ₂ F) := z.map fun q => (q.1, ⟨q.2.1, Den.step q.2.2 st12⟩)
    have h1' : binds = mapV dvA z' := h1.trans (by show _ = List.map _ (List.map _ z); rw [List.map_map]; rfl)
    have h2' : bv = mapV dvV z' := h2.trans (by show _ = List.map _ (List.map _ z); rw [List.map_map]; rfl)
    rw [h1'] at e₁
    rw [h2']
    refine wpAny_bind (binds_ok (X := X.wf ((env1, σ.n) :: X.fr)) _ (fun _ _ _ => rfl) _ z' s₂ (I₂.reframe hk rfl) g _ _ ev₁ c₁ e₁ a1 fun s' ρ' F' I' st' => ?_)
    exact wpAny_pure (hQ _ _ _ _ ⟨(EnvK (X.wf ((env1, σ.n) :: X.fr)) _ _).mono st'.le st'.same st'.sub g, I', st12.trans st'⟩)
structure FnAt (X : Ctx) (σ : St) (ρ : Rho) (F : Fz) (s : Shared) (fi : FnI) (fv : Value) (a : Addr) (o : Obj) (fd : FuncData) : Prop where
  ref : fv = .ref a
  at_ : s.heap.get? a = some o
  data : o.data = .func fd
  body : fd.body = .stmts fi.body
  params : fd.params = fi.params
  scope : fd.scope = fi.scope
  globals : fd.globals = mainGlobals
  builtins : fd.builtins = builtinsNs
  clo : fd.closure = mapCl ρ fi.closure
  lt : ∀ p ∈ fi.closure, p.2 < σ.n
  code : s.heap.CodeRec fd.code fd.qualname
  cd : fi.code = .none ∨ fd.code = fi.code
  dflts : ∃ dv, Dens σ.n ρ F fi.dflts dv ∧ ∀ (M : Model) (A : Around) (E : Value → Shared → Prop) (Q : Option (Array Value) → Shared → Prop), (∀ o, (o.getD #[]).toList = dv → Q o s) → wpAny M A (seqItems? fd.defaults) Q E s
theorem static_dens {n : Nat} : ∀ l : List Value, Dens n ρ F (l.map ofStatic) l
  | [] => (Dens.nil : Dens n ρ F [] [])
  | v :: l => ⟨den_ofStatic v, static_dens l⟩
theorem dflts_at (I : Inv X ρ F σ s) {v : Value} {ds : List AV} : dfltsIn X.K v = some ds → ∃ dv, Dens σ.n ρ F ds dv ∧ ∀ (M : Model) (A : Around) (E : Value → Shared → Prop) (Q : Option (Array Value) → Shared → Prop), (∀ o, (o.getD #[]).toList = dv → Q o s) → wpAny M A (seqItems? v) Q E s :=
  onVNone_ind (P := fun x v => x = some ds → ∃ dv, Dens σ.n ρ F ds dv ∧ ∀ (M : Model) (A : Around) (E : Value → Shared → Prop) (Q : Option (Array Value) → Shared → Prop), (∀ o, (o.getD #[]).toList = dv → Q o s) → wpAny M A (seqItems? v) Q E s)
    (fun h => ⟨[], Option.some.inj h ▸ (Dens.nil : Dens σ.n ρ F [] []), fun M A E Q h => wpAny_pure (h none rfl)⟩) <|
  onVRef_ind (P := fun x v => x = some ds → ∃ dv, Dens σ.n ρ F ds dv ∧ ∀ (M : Model) (A : Around) (E : Value → Shared → Prop) (Q : Option (Array Value) → Shared → Prop), (∀ o, (o.getD #[]).toList = dv → Q o s) → wpAny M A (seqItems? v) Q E s)
    (fun T h => (Option.bind_eq_some_iff.mp h).elim fun o q => by
      cases hd : o.data with
      | seq items k => exact ⟨items.toList, by rw [← Option.some.inj ((congrArg (onDSeq · (fun items _ => some (items.toList.map ofStatic)) none) hd).symm.trans q.2)]; exact static_dens _, fun M A E Q h => wpAny_seqItems (I.Kin _ _ q.1) hd (h _ rfl)⟩
      | _ => exact noneOf ((congrArg (onDSeq · (fun items _ => some (items.toList.map ofStatic)) none) hd).symm.trans q.2)) fun e => noneOf e
theorem code_at (I : Inv X ρ F σ s) {c : Value} {q : Str} : codeIn X.K c q = true → s.heap.CodeRec c q :=
  onVRef_ind (P := fun b c => b = true → s.heap.CodeRec c q) (fun a h => by
    cases e : X.K.lookup a with
    | none => rw [e] at h; exact ff h
    | some o =>
      rw [e] at h
      have h' : onDFields o.data (fun vs => onSome vs[1]? (fun v => onVStr v (fun x _ => x == q) false) false) false = true := h
      cases hd : o.data with
      | fields vs =>
        rw [hd] at h'
        have h2 : onSome vs[1]? (fun v => onVStr v (fun x _ => x == q) false) false = true := h'
        cases e1 : vs[1]? with
        | none => rw [e1] at h2; exact ff h2
        | some v =>
          rw [e1] at h2
          exact onVStr_ind (P := fun b v => vs[1]? = some v → b = true → s.heap.CodeRec (.ref a) q) (fun x t e1 h => ⟨a, o, vs, t, rfl, I.Kin _ _ e, hd, by rw [e1, eq_of_beq h]⟩) (fun _ => ff) e1 h2
      | _ => rw [hd] at h'; exact ff h') ff
theorem fnData_at (I : Inv X ρ F σ s) {a : Addr} {o : Obj} {fd : FuncData} {fi : FnI} (ho : X.K.lookup a = some o) (hd : o.data = .func fd) (h : fnOfData X.K fd = some fi) : FnAt X σ ρ F s fi (.ref a) a o fd := by
  unfold fnOfData at h
  cases hb : fd.body with
  | expr e => rw [hb] at h; exact noneOf h
  | stmts b =>
    rw [hb] at h
    refine (Option.bind_eq_some_iff.mp (show (dfltsIn X.K fd.defaults).bind _ = some fi from h)).elim fun ds q => ?_
    have h2 := q.2
    generalize hc : ((fd.closure.isEmpty && codeIn X.K fd.code fd.qualname) && ((fd.globals == mainGlobals) && (fd.builtins == builtinsNs))) = c at h2
    cases c with
    | false => exact noneOf h2
    | true =>
      rw [Bool.and_eq_true, Bool.and_eq_true, Bool.and_eq_true] at hc
      rw [← Option.some.inj h2]
      exact ⟨rfl, I.Kin _ _ ho, hd, hb, rfl, rfl, eq_of_beq hc.2.1, eq_of_beq hc.2.2, List.isEmpty_iff.mp hc.1.1, (fun p hp => nomatch hp), code_at I hc.1.2, .inr rfl, dflts_at I q.1⟩
theorem fnAt (I : Inv X ρ F σ s) {f : AV} {fv : Value} {fi : FnI} : fnInfo X.K f = some fi → Den σ.n ρ F f fv → ∃ a o fd, FnAt X σ ρ F s fi fv a o fd :=
  onVal_ind (P := fun x f => x = some fi → Den σ.n ρ F f fv → ∃ a o fd, FnAt X σ ρ F s fi fv a o fd) (fun v h d => by
    rw [show fv = v from d]
    exact onVRef_ind (P := fun x v => x = some fi → ∃ a o fd, FnAt X σ ρ F s fi v a o fd) (fun a h => (Option.bind_eq_some_iff.mp h).elim fun o q => by
      cases hd : o.data with
      | func fd => exact ⟨a, o, fd, fnData_at I q.1 hd ((congrArg (onDFunc · (fnOfData X.K) none) hd).symm.trans q.2)⟩
      | _ => exact noneOf ((congrArg (onDFunc · (fnOfData X.K) none) hd).symm.trans q.2)) (fun e => noneOf e) h) <|
  onClo_ind (P := fun x f => x = some fi → Den σ.n ρ F f fv → ∃ a o fd, FnAt X σ ρ F s fi fv a o fd) (fun a b c e f h d => by
    rw [← Option.some.inj h]
    cases (show dClo σ.n ρ F a b c e f fv from d) with | mk a qual o pm code ct e1 ha hcl hd hk hb =>
    cases hk with | mk c oc ws t e2 hoc hdc hq =>
    exact ⟨a, o, _, e1, I.froz _ _ ha, hd, rfl, rfl, rfl, rfl, rfl, rfl, hb, ⟨c, oc, ws, t, e2, I.froz _ _ hoc, hdc, hq⟩, .inl rfl, [], rfl, fun M A E Q h => wpAny_pure (h none rfl)⟩) fun e => noneOf e
noncomputable def RCall (f : AV) (fv : Value) (as : List AV) (vs : List Value) (ks : List (Str × AV)) (kvs : List Value) : Kn := (RDen f fv).and ((RDens as vs).and (RDens (ks.map (·.2)) kvs))
theorem callOpen (hA0 : A.depth < recursionLimit) {f : AV} {fv : Value} {as : List AV} {vs : List Value} {ks : List (Str × AV)} {kvs : List Value} {fi : FnI} (hfi : fnInfo X.K f = some fi) (hp : (plainParams fi.params && plainScope fi.scope) = true) {binds : List (Str × AV)} (hb : bindsOf (fi.params.args.map fun p => p.arg) fi.dflts as ks = some binds)
    (I : Inv X ρ F σ s) (g : (RCall f fv as vs ks kvs).p σ.n ρ F) {R : Result → Shared → Prop} : RunAt σ (eEnter fi.scope fi.closure fi.code binds) fun ae σ' => (∀ env s₁ ρ₁ F₁, InCall X ρ F σ s ae σ' env s₁ ρ₁ F₁ → codeAny (model X.prog X.w) A (.func fi.body env) R s₁) →
      codeAny (model X.prog X.w) A (.call fv ⟨vs, (ks.map (·.1)).zip kvs⟩) R s := by
  refine (fnAt I hfi g.1).elim fun a q => q.elim fun o q => q.elim fun fd W => W.dflts.elim fun dv hdv => (bindsOf_rel hdv.1 g.2.1 (Pairs.ofDens g.2.2) hb).elim fun bv hbv => ?_
  rw [Bool.and_eq_true, plainParams, plainScope] at hp
  have hpp := hp.1
  have hps := hp.2
  rw [Bool.and_eq_true, Bool.and_eq_true, Bool.and_eq_true] at hpp
  rw [Bool.and_eq_true, Bool.and_eq_true, Bool.not_eq_true', Bool.not_eq_true'] at hps
  intro ds ae ev' cs e hc hQ
  rw [W.ref]
  refine (codeAny_call_function (fd := fd) (body := fi.body) hA0 W.at_ W.data (by rw [W.scope]; exact hps.2.1) (by rw [W.scope]; exact hps.2.2) W.body W.code ?_)
  refine bindArgs_simple (by rw [W.params]; exact List.isEmpty_iff.mp hpp.1.1) (by rw [W.params]; exact List.isEmpty_iff.mp hpp.1.2) (by rw [W.params]; exact Option.isNone_iff_eq_none.mp hpp.2.1) (by rw [W.params]; exact Option.isNone_iff_eq_none.mp hpp.2.2) (by rw [W.params]) (hdv.2 _ _ _) hbv.1 ?_
  rw [W.scope, W.globals, W.builtins, W.clo]
  exact enter_ok I hbv.2 W.lt (eq_of_beq hps.1) W.cd ds ae ev' cs e hc fun env s₁ ρ₁ F₁ q => ⟨q.inv.limit, hQ env s₁ ρ₁ F₁ q⟩
theorem callFn {r : Rec} {n : Nat} (S : SoundF X r n) (hA0 : A.depth < recursionLimit) (hA : ∀ env i, Room (X.wf ((env, i) :: X.fr)) (A.deeper env) n) {f : AV} {fv : Value} {as : List AV} {vs : List Value} {ks : List (Str × AV)} {kvs : List Value} {fi : FnI} (hfi : fnInfo X.K f = some fi)
    (I : Inv X ρ F σ s) (g : (RCall f fv as vs ks kvs).p σ.n ρ F) : RunAt σ (eFn r fi as ks) fun b σ' => ∀ R : Result → Shared → Prop, (∀ v s' ρ' F', Got X ρ F σ s v s' ρ' F' b σ' → R (.ok (.ret v)) s') → codeAny (model X.prog X.w) A (.call fv ⟨vs, (ks.map (·.1)).zip kvs⟩) R s := by
  refine cond_ind (P := fun x => RunAt σ x fun b σ' => ∀ R : Result → Shared → Prop, (∀ v s' ρ' F', Got X ρ F σ s v s' ρ' F' b σ' → R (.ok (.ret v)) s') → codeAny (model X.prog X.w) A (.call fv ⟨vs, (ks.map (·.1)).zip kvs⟩) R s) (fun hp => ?_) RunAt.fail
  cases hb : bindsOf (fi.params.args.map fun p => p.arg) fi.dflts as ks with
  | none => exact RunAt.fail
  | some binds =>
    intro ds b ev' cs e hc R hQ
    refine EM.bind_use (x := eEnter fi.scope fi.closure fi.code binds) (f := fun ae => EM.bind (r.exs ae fi.body) fun fl => onFl fl (eNorm σ.n noneAV) (eNorm σ.n) EM.fail) e hc fun ae ev₀ cs₀ _ e₀ e6 c0 c12 => ?_
    refine EM.bind_use e6 c12 fun fl ev₁ cs₁ cs₂ e₁ e5 c1 c2 => ?_
    refine callOpen hA0 hfi hp hb I g ds ae ev₀ cs₀ e₀ c0 fun env s₁ ρ₁ F₁ q => codeAny_func ?_
    refine (S ((env, σ.n) :: X.fr)).exs _ (hA _ _) ae env fi.body ev₀ fl ev₁ cs₁ e₁ c1 ρ₁ F₁ s₁ q.inv q.ok _ _ fun w s' ρ' F' hr I₁ st₁ => ?_
    cases fl with
    | ret v => exact hr.elim fun u q2 => q2.1 ▸ hQ u s' ρ' F' (norm_ok I₁.unframe q2.2 (q.stp.trans st₁) (Nat.le_refl _) I.frlt ev₁.2 b ev' cs₂ e5 c2)
    | next => exact (show w = .next from hr) ▸ hQ _ s' ρ' F' (norm_ok I₁.unframe (show Den ev₁.1.n ρ' F' noneAV .none from rfl) (q.stp.trans st₁) (Nat.le_refl _) I.frlt ev₁.2 b ev' cs₂ e5 c2)
    | brk => exact noneOf e5
    | cont => exact noneOf e5
theorem Sim.fn {r : Rec} {n : Nat} (S : SoundF X r n) (hA : Room X A (n + 1)) {f : AV} {fv : Value} {as : List AV} {vs : List Value} {ks : List (Str × AV)} {kvs : List Value} {fi : FnI} (hfi : fnInfo X.K f = some fi) : Sim X A (RCall f fv as vs ks kvs) RDen (eFn r fi as ks) (call fv vs ((ks.map (·.1)).zip kvs)) :=
  Sim.ofRun fun σ ρ F s I g => (callFn S (Nat.lt_of_le_of_lt (Nat.le_add_right _ _) hA.1) (fun env i => hA.deeper env i) hfi I g).mono fun b σ' h Q E hQ => wpAny_call (h _ fun v s' ρ' F' q => hQ v s' ρ' F' q.den q.inv q.stp)
end
end Mine
open PySem PySem.W PyProof.Rows PySem.Builtin PySem.Builtin.ObjectAttr PySem.Builtin.Getset_descriptor
namespace Mine
noncomputable def excOver (K : Frag) (C : Addr) : Bool := onSome (clsIn K C) (fun c => c.mro == [.ref C, .type "Exception", .type "BaseException", .type "object"]) false
noncomputable def storesIn (K : Frag) (C : Addr) (x : Str) : Bool := (isBuiltin "object.__setattr__" (findIn K (.ref C) "__setattr__") && (takerIn K C x == some none)) && (hasDictIn K C && (plainOver K C || excOver K C))
noncomputable def setSlot (xs : List (Option AV)) (j : Nat) (v : AV) : List (Option AV) := (xs ++ List.replicate (j + 1 - xs.length) none).set j (some v)
noncomputable def slotNo (K : Frag) (C : Addr) (x : Str) : Option (Addr × Nat) := _root_.cond (isBuiltin "object.__setattr__" (findIn K (.ref C) "__setattr__") && plainOver K C)
  ((refOf (takerIn K C x)).bind fun p => _root_.cond (typeIn K (.ref p) == some (.type "member_descriptor")) ((slotIn K p C).bind fun j => _root_.cond (Nat.blt j 1000) (some (p, j)) none) none) none
inductive SlotOk (K : Frag) (C : Addr) (x : Str) (q : Addr × Nat) : Prop where
  | mk (h1 : isBuiltin "object.__setattr__" (findIn K (.ref C) "__setattr__") = true) (h2 : plainOver K C = true) (h3 : takerIn K C x = some (some (.ref q.1))) (h4 : typeIn K (.ref q.1) = some (.type "member_descriptor")) (h5 : slotIn K q.1 C = some q.2) (h6 : q.2 < 1000)
theorem ite_P {c : Prop} [Decidable c] {γ : Type} {P : γ → Prop} {t e : γ} (h1 : c → P t) (h2 : ¬c → P e) : P (ite c t e) := by
  split
  · exact h1 ‹_›
  · exact h2 ‹_›
theorem condO {α : Type} {b : Bool} {o : Option α} {a : α} (h : _root_.cond b o none = some a) : b = true ∧ o = some a := by
  cases b with
  | true => exact ⟨rfl, h⟩
  | false => exact noneOf h
theorem slotNo_ok {K : Frag} {C : Addr} {x : Str} {q : Addr × Nat} (h : slotNo K C x = some q) : SlotOk K C x q := by
  have h0 := condO h
  rw [Bool.and_eq_true] at h0
  refine (Option.bind_eq_some_iff.mp h0.2).elim fun p h => (Option.bind_eq_some_iff.mp (condO h.2).2).elim fun j h2 => ?_
  have h3 := condO h2.2
  rw [← Option.some.inj h3.2]
  exact ⟨h0.1.1, h0.1.2, refOf_ok h.1, eq_of_beq (condO h.2).1, h2.1, Nat.le_of_ble_eq_true h3.1⟩
noncomputable def setDictAt (d : Nat) (x : Str) (v : AV) : EM Unit := EM.bind (EM.cellAs asDict d) fun m => EM.turn (m.length ≤ 100) (fun σ => σ.set d (.dict (setNs m x v))) ()
noncomputable def setSlotOf (K : Frag) (C : Addr) (i d : Nat) (xs : List (Option AV)) (x : Str) (v : AV) : EM Unit := EM.bind (EM.cellAs asDict d) fun _ => EM.bind (EM.opt (slotNo K C x)) fun q => EM.upd fun σ => σ.set i (.sinst C d (setSlot xs q.2 v))
noncomputable def eSetAttr (K : Frag) (av : AV) (x : Str) (v : AV) : EM Unit := onRef av (fun i => EM.bind (EM.cell i) fun c =>
  onCInst c (fun C d => _root_.dite (storesIn K C x = true) (fun _ => setDictAt d x v) fun _ => setSlotOf K C i d [] x v) <|
  onCSinst c (fun C d xs => setSlotOf K C i d xs x v) <|
  onCExc c (fun C o t => EM.bind (EM.chk (storesIn K C x)) fun _ => onSome o (fun d => setDictAt d x v) (EM.st fun σ => EM.turn (i < σ.n) (fun σ => ((σ.push (.dict [])).set i (.exc C (some σ.n) t)).set σ.n (.dict (setNs [] x v))) ())) EM.fail) EM.fail
section
variable {n : Nat} {ρ : Rho} {F : Fz}
theorem ODens.app : ∀ {xs ys : List (Option AV)} {vs ws : List (Option Value)}, ODens n ρ F xs vs → ODens n ρ F ys ws → ODens n ρ F (xs ++ ys) (vs ++ ws)
  | [], _, vs, _, h, k => by rw [show vs = [] from h]; exact k
  | _ :: _, _, [], _, h, _ => h.elim
  | _ :: _, _, _ :: _, _, h, k => ⟨h.1, ODens.app h.2 k⟩
theorem ODens.gaps : ∀ k : Nat, ODens n ρ F (List.replicate k none) (List.replicate k none)
  | 0 => rfl
  | k + 1 => ⟨rfl, ODens.gaps k⟩
theorem ODens.len : ∀ {xs : List (Option AV)} {vs : List (Option Value)}, ODens n ρ F xs vs → xs.length = vs.length
  | [], vs, h => by rw [show vs = [] from h]; rfl
  | _ :: _, [], h => h.elim
  | _ :: _, _ :: _, h => congrArg Nat.succ (ODens.len h.2)
theorem ODens.set {x : AV} {v : Value} (d : Den n ρ F x v) : ∀ {xs : List (Option AV)} {vs : List (Option Value)} (j : Nat), ODens n ρ F xs vs → ODens n ρ F (xs.set j (some x)) (vs.set j (some v))
  | [], vs, _, h => by rw [show vs = [] from h]; exact (rfl : ([] : List (Option Value)) = [])
  | _ :: _, [], _, h => h.elim
  | _ :: _, _ :: _, 0, h => ⟨⟨v, rfl, d⟩, h.2⟩
  | _ :: _, _ :: _, j + 1, h => ⟨h.1, ODens.set d j h.2⟩
theorem DenEs.put {x : Str} {av : AV} {v : Value} {hs : Int} {t : Tok} (dv : Den n ρ F av v) : ∀ {fs : List (Str × AV)} {es : List DictEntry}, DenEs n ρ F fs es → DenEs n ρ F (setNs fs x av) (putL x hs (.str x t) v es)
  | [], es, h => by rw [show es = [] from h]; exact .cons dv .nil
  | _ :: _, [], h => h.elim
  | p :: fs, e :: es, h => by
    have hk : e.key.isStr x = (p.1 == x) := h.1.1.elim fun t q => by rw [q]; rfl
    unfold setNs putL
    rw [hk]
    cases q : p.1 == x with
    | true => exact ⟨⟨by rw [← eq_of_beq q]; exact h.1.1, dv⟩, h.2⟩
    | false => exact ⟨h.1, DenEs.put dv h.2⟩
theorem putL_len {x : Str} {hs : Int} {k v : Value} : ∀ es : List DictEntry, (putL x hs k v es).length ≤ es.length + 1
  | [] => Nat.le_refl _
  | e :: r => by
    unfold putL
    exact ite_P (P := fun l => List.length l ≤ (e :: r).length + 1) (fun _ => Nat.le_succ _) fun _ => Nat.succ_le_succ (putL_len r)
end
section
variable {prog : Program} {w : World} {A : Around} {K : Frag} {C x : Addr} {s : Shared}
theorem slotStore {R : Result → Shared → Prop} {ox : Obj} {od : Option Obj} {v : Value} {p i : Nat} (X : K.In s.heap) (I : InstAt s.heap x ox C od) (hp : slotIn K p C = some i) (hi : i < 1000)
    (h : R (.ok (.ret .none)) { s with heap := s.heap.update x (fun o => { o with slots := (o.slots ++ Array.replicate (i + 1 - o.slots.size) none).setIfInBounds i (some v) }) }) :
    codeAny (model prog w) A (.call (.builtin "member_descriptor.__set__") ⟨[.ref p, .ref x, v], []⟩) R s := by
  obtain ⟨n, tn, owner, behind, tb, d, sl, cd, ho, hc, hm, hb, rfl⟩ := slot_of X hp
  obtain ⟨hh, g, dr, t, os⟩ := s
  have L0 := I.type (M := model prog w)
  have L1 := looks_mroIn (M := model prog w) X hm
  have L2 : Looks (model prog w) hh (Slots.slotNamesOf (.ref C)) cd.slotNames := (looks_clsIn X hc).andThen .now
  have hx := I.at_
  dsimp only at ho hx L0 L1
  have f0 := looks_field (M := model prog w) ho 0 (v := .str n tn) rfl
  have f1 := looks_field (M := model prog w) ho 1 (v := owner) rfl
  have f3 := looks_field (M := model prog w) ho 3 (v := .builtin "proto.slot#set") rfl
  have f4 := looks_field (M := model prog w) ho 4 (v := .int behind tb) rfl
  refine codeAny_call_builtin KF.slot_mset.plain KF.entry_mset (KF.slot_mset.check _ _ _ _ _ _ _ _ ⟨_, ho, rfl⟩ (KF.args_mset _ _ _) ?_)
  unfold Builtin.«member_descriptor.__set__» Builtin.Getset_descriptor.descrSet Builtin.Getset_descriptor.descrStoreThrough Builtin.Getset_descriptor.descrCheckInstance Builtin.Getset_descriptor.descrNameAndClass isInstance
  have f5 : Looks (model prog w) hh (descrItself (.ref p)) [.ref p] := ((Looks.ld (part := none) ho).andThen .now).andThen (Looks.of_pure (by kernel_rfl))
  repeat lk
  refine ⟨Code.quiet_builtin _ (by decide +kernel), codeAny_builtin KF.entry_slotset ?_⟩
  unfold Builtin.«proto.slot#set» Slots.target
  repeat lk
  rw [if_neg hb]
  refine wpAny_pure (wpAny_bind ?_)
  unfold setSlotAt
  dsimp only
  rw [if_neg (by rw [sizeLine_eq]; omega)]
  exact wpAny_updatePart hx (wpAny_pure h)
theorem refuse_exc (self : Value) : refuseLoop self "__setattr__" [.type "Exception", .type "BaseException", .type "object"] = pure () := by kernel_rfl
theorem osa_openX {R : Result → Shared → Prop} {ox : Obj} {od : Option Obj} {name : Str} {tk : Tok} {v : Value} (X : K.In s.heap) (I : InstAt s.heap x ox C od)
    {cd : ClassData} (hc : clsIn K C = some cd) (ho : cd.mro = [.ref C, .type "Exception", .type "BaseException", .type "object"]) (ht : takerIn K C name = some none)
    (h : ∀ b, wpAny (model prog w) A.in1 (storeInOwnDict (.ref x) (.ref C) (.str name tk) name v b)
      (fun fin s' => match fin with | .done f => R (.ok f) s' | .again c' => c'.quiet = true ∧ codeAny (model prog w) A c' R s') (fun e s' => R (.error e) s') s) :
    codeAny (model prog w) A (.call (.builtin "object.__setattr__") ⟨[.ref x, .str name tk, v], []⟩) R s := by
  have SF := PySem.F.store_object
  have sub : Looks (model prog w) s.heap (isInstance (.ref x) (.type "object")) true := I.type.andThen (looks_mroIn X (by unfold mroIn; rw [hc, Option.bind_some, ho, if_neg (by rintro ⟨⟩)]; simp))
  refine codeAny_call_builtin SF.slot.plain SF.entry (@check_slot (model prog w) _ _ s "object.__setattr__" "object" "__setattr__" (.ref x) [.str name tk, v] [] _ SF.kind SF.split sub (SF.args (.ref x) (.str name tk) v) ?_)
  refine (Option.bind_eq_some_iff.mp ht).elim fun attr q => ?_
  have hm : Looks (model prog w) s.heap (mroOf (.ref C)) cd.mro := (looks_clsIn X hc).andThen .now
  have L3 : Looks (model prog w) s.heap (storeTaker? attr) none := by
    cases attr with
    | none => exact .now
    | some a => exact (Option.map_eq_some_iff.mp q.2).elim fun b hb => (looks_takesIn X hb.1).andThen (by cases b with | false => exact .now | true => exact noneOf hb.2.symm)
  rw [osa_eq, refuse_eq]
  refine wpAny_bind (wpAny_bind (I.type.here (wpAny_bind (hm.here ?_))))
  rw [ho, refuseLoop_ref, refuse_exc]
  exact wpAny_pure (wpAny_bind (I.type.here (wpAny_bind ((looks_findIn X q.1).here (wpAny_bind (L3.here (h _)))))))
theorem set_open {ox : Obj} {od : Option Obj} {name : Str} {v : Value} {Q : Unit → Shared → Prop} {E : Value → Shared → Prop} (X : K.In s.heap) (I : InstAt s.heap x ox C od) (h : storesIn K C name = true)
    (H : ∀ b, wpAny (model prog w) A.in1 (storeInOwnDict (.ref x) (.ref C) (.str name s.toks) name v b) (fun fin s' => fin = .done (.ret .none) ∧ Q () s') E { s with toks := s.toks + 1 }) : wpAny (model prog w) A (setAttr (.ref x) name v) Q E s := by
  rw [storesIn, Bool.and_eq_true, Bool.and_eq_true, Bool.and_eq_true, Bool.or_eq_true] at h
  refine set_plain X I (isBuiltin_ok h.1.1) ?_
  have H' : ∀ b, wpAny (model prog w) A.in1 (storeInOwnDict (.ref x) (.ref C) (.str name s.toks) name v b) (fun fin s' => match fin with | .done f => (fun (r : Result) s' => match r with | .ok (.ret _) => Q () s' | .ok _ => False | .error e => E e s') (.ok f) s' | .again c' => c'.quiet = true ∧ codeAny (model prog w) A c' (fun r s' => match r with | .ok (.ret _) => Q () s' | .ok _ => False | .error e => E e s') s') E { s with toks := s.toks + 1 } :=
    fun b => wpAny_mono (H b) (fun fin s' z => by rw [z.1]; exact z.2) fun _ _ z => z
  refine h.2.2.elim (fun h2 => osa_open (s := { s with toks := s.toks + 1 }) X I h2 (eq_of_beq h.1.2) H') fun h2 => ?_
  unfold excOver at h2
  cases e : clsIn K C with
  | none => rw [e] at h2; exact ff h2
  | some cd => rw [e] at h2; exact osa_openX (s := { s with toks := s.toks + 1 }) X I e (eq_of_beq h2) (eq_of_beq h.1.2) H'
theorem own_dict {a : Addr} {da : Data} {sl : Array (Option Value)} {nm : Str} {k v : Value} {b : Bool} {Q : Fin → Shared → Prop} {E : Value → Shared → Prop} (X : K.In s.heap) (ho : s.heap.get? x = some ⟨.ref C, some a, da, sl⟩) (hC : hasDictIn K C = true)
    (h : wpAny (model prog w) A (storeInDict a k nm v) Q E s) : wpAny (model prog w) A (storeInOwnDict (.ref x) (.ref C) k nm v b) Q E s := (hasDict_ok hC).elim fun cd hd => by
  refine wpAny_bind (wpAny_pure (wpAny_bind (wpAny_bind (wpAny_loadPart ho (wpAny_bind ((looks_clsIn X hd.1).here ?_))))))
  rw [hd.2]
  exact wpAny_pure (a := some a) h
end
section
variable {X : Ctx} {A : Around} {ρ : Rho} {F : Fz} {σ : St} {s : Shared} {Γ : Kn}
theorem store_dict (I : Inv X ρ F σ s) {d : Nat} {m : List (Str × AV)} {x : Str} {bv : AV} {w : Value} {tk : Tok} (hm : σ.get d = some (.dict m)) (hlen : m.length ≤ 100) (db : Den σ.n ρ F bv w) {Q : Fin → Shared → Prop} {E : Value → Shared → Prop}
    (hQ : ∀ s', Inv X ρ F (σ.set d (.dict (setNs m x bv))) s' → Stp ρ F σ s ρ F (σ.set d (.dict (setNs m x bv))) s' → Q (.done (.ret .none)) s') : wpAny (model X.prog X.w) A (storeInDict (ρ d) (.str x tk) x w) Q E s := by
  refine (I.atD hm).elim fun es q => q.elim fun k q => ?_
  have hod := q.1
  refine wpAny_bind (wpAny_pure (wpAny_bind ?_))
  unfold nsSet
  refine wpAny_bind (wpAny_bind (wpAny_askSetting (wpAny_pure (wpAny_bind (wpAny_mkText (wpAny_bind (wpAny_loadPart hod ?_)))))))
  have c : aRefKeyMayBeTheName x es.toArray = false := by rw [aRefKeyMayBeTheName_at, List.any_toArray, List.any_toArray, q.2.noRef, Bool.and_false]
  show wpAny _ _ (if aRefKeyMayBeTheName x es.toArray = true then _ else _) _ _ _
  rw [c]
  refine wpAny_updatePart hod ?_
  have hput : Obj.putName x (PyData.keyHash X.w.params x) (.str x s.toks) w (oDict es k) = oDict (putL x (PyData.keyHash X.w.params x) (.str x s.toks) w es) (putN x es k) := putName_dict ..
  have hg : (s.heap.update (ρ d) (Obj.putName x (PyData.keyHash X.w.params x) (.str x s.toks) w)).get? (ρ d) = some (oDict (putL x (PyData.keyHash X.w.params x) (.str x s.toks) w es) (putN x es k)) := by
    rw [Heap.get?_update_self _ hod (by rw [hput]; rfl), hput]
  refine wpAny_bind (wpAny_lookBehind hg (pastItsLine_dict (by
      rw [List.size_toArray]
      exact Nat.le_trans (putL_len es) (Nat.succ_le_succ (Nat.le_trans (Nat.le_of_eq q.2.len) (Nat.le_trans hlen (by decide)))))) ?_)
  have r := I.set (c' := .dict (setNs m x bv)) (h' := s.heap.update (ρ d) (Obj.putName x (PyData.keyHash X.w.params x) (.str x s.toks) w)) hm (fun b o hb e => by rw [Heap.get?_update_other _ _ (fun e => hb e.symm)]; exact e) (.ofD hg (q.2.put db)) (s.toks + 1)
  exact wpAny_pure (hQ _ r.1 r.2)
theorem set_dict (I : Inv X ρ F σ s) {a C : Addr} {da : Data} {sl : Array (Option Value)} {x : Str} {bv : AV} {w : Value} (db : Den σ.n ρ F bv w) {d : Nat} (hx : s.heap.get? a = some ⟨.ref C, some (ρ d), da, sl⟩) (hn : notCls ⟨.ref C, some (ρ d), da, sl⟩ = true) (hs : storesIn X.K C x = true) :
    RunAt σ (setDictAt d x bv) fun _ σ' => Goes X A ρ F σ s (setAttr (.ref a) x w) (fun _ => Kn.top) σ' := RunAt.cellAs asDict_some fun m hm => RunAt.turn fun hl => fun Q E hQ => by
  refine (I.atD hm).elim fun es q => q.elim fun k q => set_open (od := some (oDict es k)) I.Kin ⟨hx, rfl, hn, q.1⟩ hs fun b => ?_
  have I1 := I.toks (s.toks + 1)
  have hs' := hs
  rw [storesIn, Bool.and_eq_true, Bool.and_eq_true, Bool.and_eq_true] at hs'
  exact own_dict I1.Kin hx hs'.2.1 (store_dict I1 hm hl db fun s' I' st' => ⟨rfl, hQ () s' ρ F trivial I' ((Stp.toks I.ids _).trans st')⟩)
theorem set_slot (I : Inv X ρ F σ s) {i d : Nat} {C : Addr} {xs : List (Option AV)} {vs : List (Option Value)} {x : Str} {bv : AV} {w : Value} (db : Den σ.n ρ F bv w) {c : Cell} (hi : σ.get i = some c) (hc : isNs c = false) (ho : s.heap.get? (ρ i) = some (oSlo C (ρ d) vs)) (hd : d < σ.n) (dx : ODens σ.n ρ F xs vs) :
    RunAt σ (setSlotOf X.K C i d xs x bv) fun _ σ' => Goes X A ρ F σ s (setAttr (.ref (ρ i)) x w) (fun _ => Kn.top) σ' := RunAt.cellAs asDict_some fun m hm => RunAt.opt fun q hq => RunAt.updE fun Q E hQ => by
  cases slotNo_ok hq with | mk h1 h2 h3 h4 h5 h6 =>
  refine (I.atD hm).elim fun es r => r.elim fun k r => ?_
  have J : InstAt s.heap (ρ i) (oSlo C (ρ d) vs) C (some (oDict es k)) := ⟨ho, rfl, rfl, r.1⟩
  refine set_plain I.Kin J (isBuiltin_ok h1) (osa_descr KF.slot_mset (s := { s with toks := s.toks + 1 }) I.Kin J h2 h3 h4 (slotStore (s := { s with toks := s.toks + 1 }) I.Kin J h5 h6 ?_))
  have hs : (vs.toArray ++ Array.replicate (q.2 + 1 - vs.toArray.size) none).setIfInBounds q.2 (some w) = ((vs ++ List.replicate (q.2 + 1 - vs.length) none).set q.2 (some w)).toArray := by
    rw [← List.toArray_replicate, List.append_toArray, List.setIfInBounds_toArray]; rfl
  have hup : (s.heap.update (ρ i) (fun o => { o with slots := (o.slots ++ Array.replicate (q.2 + 1 - o.slots.size) none).setIfInBounds q.2 (some w) })).get? (ρ i) = some (oSlo C (ρ d) ((vs ++ List.replicate (q.2 + 1 - vs.length) none).set q.2 (some w))) := by
    rw [Heap.get?_update_self _ ho rfl]
    show some (⟨_, _, _, (vs.toArray ++ Array.replicate (q.2 + 1 - vs.toArray.size) none).setIfInBounds q.2 (some w)⟩ : Obj) = _
    rw [hs]; rfl
  have r := I.set (c' := .sinst C d (setSlot xs q.2 bv)) hi (h' := s.heap.update (ρ i) (fun o => { o with slots := (o.slots ++ Array.replicate (q.2 + 1 - o.slots.size) none).setIfInBounds q.2 (some w) })) (fun b o hb e => by rw [Heap.get?_update_other _ _ (fun e => hb e.symm)]; exact e)
    ⟨_, hup, _, rfl, hd, by unfold setSlot; rw [dx.len]; exact ODens.set db _ (dx.app (ODens.gaps _))⟩ (s.toks + 1) (by rw [hc]; rfl)
  exact hQ () _ ρ F trivial r.1 r.2
theorem set_exc (I : Inv X ρ F σ s) {i : Nat} {C : Addr} {t : Option Nat} {x : Str} {bv : AV} {w : Value} (db : Den σ.n ρ F bv w) (hi : σ.get i = some (.exc C none t)) (hlt : i < σ.n) (hs : storesIn X.K C x = true) :
    Goes X A ρ F σ s (setAttr (.ref (ρ i)) x w) (fun _ => Kn.top) (((σ.push (.dict [])).set i (.exc C (some σ.n) t)).set σ.n (.dict (setNs [] x bv))) := fun Q E hQ => by
  refine (I.atX hi).elim fun vs h => set_open I.Kin (od := none) ⟨h.1, rfl, rfl, trivial⟩ hs fun b => ?_
  have I1 := I.toks (s.toks + 1)
  have hs' := hs
  rw [storesIn, Bool.and_eq_true, Bool.and_eq_true, Bool.and_eq_true] at hs'
  refine (hasDict_ok hs'.2.1).elim fun cd hd => ?_
  have ho : s.heap.get? (ρ i) = some (oExc C none vs) := h.1
  refine wpAny_bind (wpAny_pure (wpAny_bind (wpAny_bind (wpAny_loadPart ho (wpAny_bind ((looks_clsIn I1.Kin hd.1).here ?_))))))
  rw [hd.2]
  refine wpAny_bind (wpAny_alloc ?_)
  have ho2 : (s.heap.push { cls := .type "dict", data := .dict #[] }).get? (ρ i) = some (oExc C none vs) := Heap.get?_push_of_some _ ho
  have r2 := I1.push (a := s.heap.objs.size) (c := .dict []) (h' := s.heap.push { cls := .type "dict", data := .dict #[] }) (Heap.get?_none_of_le (Nat.le_refl _)) (fun b o e => Heap.get?_push_of_some _ e) (.ofD (vs := []) (k := 0) (Heap.get?_push_size _ rfl) .nil) (s.toks + 1)
  refine wpAny_bind (wpAny_update ho2 ?_)
  have hρ : ∀ j, j < σ.n → (ρ.put σ.n s.heap.objs.size) j = ρ j := fun j hj => Rho.put_lt ρ _ hj
  have hρi := hρ i hlt
  have hρn : (ρ.put σ.n s.heap.objs.size) σ.n = s.heap.objs.size := Rho.put_self _ _ _
  have hx2 : (σ.push (.dict [])).get i = some (.exc C none t) := (St.get_push_lt _ _ hlt).trans hi
  have r3 := r2.1.set (i := i) (c := .exc C none t) (c' := .exc C (some σ.n) t) (h' := (s.heap.push { cls := .type "dict", data := .dict #[] }).update (ρ i) (fun o => { o with dict := some s.heap.objs.size })) hx2
    (fun b o hb e => by rw [Heap.get?_update_other _ _ (fun e => hb (by rw [hρi]; exact e.symm))]; exact e)
    ⟨oExc C (some s.heap.objs.size) vs, by rw [hρi, Heap.get?_update_self _ ho2 rfl]; rfl, vs, congrArg (fun a => oExc C (some a) vs) hρn.symm, by rw [tbVal_same fun j hj => hρ j (h.2.2.2 j hj)]; exact h.2.1, fun j hj => by rw [← Option.some.inj hj]; exact Nat.lt_succ_self _, fun j hj => Nat.lt_succ_of_lt (h.2.2.2 j hj)⟩ (s.toks + 1)
  refine wpAny_pure (a := some s.heap.objs.size) ?_
  have hm3 : ((σ.push (.dict [])).set i (.exc C (some σ.n) t)).get σ.n = some (.dict []) := (St.get_set_ne _ _ (Nat.ne_of_gt hlt)).trans (St.get_push_self _ _)
  have st := ((Stp.toks I.ids (s.toks + 1)).trans r2.2).trans r3.2
  have := store_dict (A := A.in1) (Q := fun fin s' => fin = .done (.ret .none) ∧ Q () s') (E := E) (x := x) (w := w) (tk := s.toks) (bv := bv) r3.1 hm3 (by decide) (db.step st) fun s4 I4 st4 => ⟨rfl, hQ () _ _ F trivial I4 (st.trans st4)⟩
  rw [hρn] at this
  exact this
theorem Sim.setAttr {av bv : AV} {v w : Value} {x : Str} (ha : Γ.le (RDen av v)) (hb : Γ.le (RDen bv w)) : Sim X A Γ (fun _ _ => Kn.top) (eSetAttr X.K av x bv) (setAttr v x w) := by
  refine Sim.ofRun fun σ ρ F s I g => ?_
  have db : Den σ.n ρ F bv w := hb _ _ _ g
  refine onRef_ind (P := fun (y : EM Unit) av => Den σ.n ρ F av v → RunAt σ y fun _ σ' => Goes X A ρ F σ s (PySem.setAttr v x w) (fun _ => Kn.top) σ') (fun i d => ?_) (fun _ => RunAt.fail) (ha _ _ _ g)
  rw [(den_ref d).1]
  refine RunAt.cell fun c => onCInst_ind (P := fun (y : EM Unit) c => σ.get i = some c → RunAt σ y fun _ σ' => Goes X A ρ F σ s (PySem.setAttr (.ref (ρ i)) x w) (fun _ => Kn.top) σ') (fun C e hx => ?_) <|
    onCSinst_ind (P := fun (y : EM Unit) c => σ.get i = some c → RunAt σ y fun _ σ' => Goes X A ρ F σ s (PySem.setAttr (.ref (ρ i)) x w) (fun _ => Kn.top) σ') (fun C e xs hx => (I.atS hx).elim fun vs h => set_slot I db hx rfl h.1 h.2.1 h.2.2) <|
    onCExc_ind (P := fun (y : EM Unit) c => σ.get i = some c → RunAt σ y fun _ σ' => Goes X A ρ F σ s (PySem.setAttr (.ref (ρ i)) x w) (fun _ => Kn.top) σ') (fun C o t hx => RunAt.chk fun hs => ?_) fun _ => RunAt.fail
  · exact dite_P (P := fun y => RunAt σ y fun _ σ' => Goes X A ρ F σ s (PySem.setAttr (.ref (ρ i)) x w) (fun _ => Kn.top) σ') (fun hs => set_dict I db (I.atI hx).1 rfl hs) fun _ => set_slot I (vs := []) db hx rfl (I.atI hx).1 (I.atI hx).2 rfl
  · cases o with
    | some d => exact (I.atX hx).elim fun vs h => set_dict I db h.1 rfl hs
    | none => exact RunAt.turn (P := i < σ.n) (g := fun σ => ((σ.push (.dict [])).set i (.exc C (some σ.n) t)).set σ.n (.dict (setNs [] x bv))) (v := ()) fun hl => set_exc I db hx hl hs
end
noncomputable def eNewList (xs : List AV) : EM AV := EM.bind (EM.cond (xs.length ≤ 1000000)) fun _ => EM.bind (EM.push (.list xs)) fun i => EM.ret (.ref i)
noncomputable def eNewTuple (xs : List AV) : EM AV := EM.retIf (xs.length ≤ 1000000) (.tup xs)
section
variable {X : Ctx} {A : Around} {ρ : Rho} {F : Fz} {σ : St} {s : Shared} {Γ : Kn}
theorem Sim.newList {xs : List AV} {vs : List Value} (h : Γ.le (RDens xs vs)) : Sim X A Γ RDen (eNewList xs) (newList vs) := Sim.ofRun fun σ ρ F s I g => RunAt.cond fun hl => RunAt.push (RunAt.ret (Goes.to fun Q E hQ => by
  have d : Dens σ.n ρ F xs vs := h _ _ _ g
  refine wpAny_newList ?_ (by rw [← d.length]; exact Nat.le_trans hl (by decide))
  exact hQ _ _ _ F (Den.fresh ρ F σ _ _) (I.push (a := s.heap.objs.size) (c := .list xs) (h' := s.heap.push { cls := .type "list", data := .seq vs.toArray }) (Heap.get?_none_of_le (Nat.le_refl _)) (fun b o e => Heap.get?_push_of_some _ e)
    (.ofL (vs := vs) (k := 0) (Heap.get?_push_size _ rfl) (d.mono (Nat.le_succ _) (fun i hi => Rho.put_lt ρ _ hi) (fun _ _ e => e))) s.toks)))
theorem Sim.newTuple {xs : List AV} {vs : List Value} (h : Γ.le (RDens xs vs)) : Sim X A Γ RDen (eNewTuple xs) (newTuple vs) := Sim.ofRun fun σ ρ F s I g => RunAt.retIf fun hl => Goes.to fun Q E hQ => by
  have d : Dens σ.n ρ F xs vs := h _ _ _ g
  refine wpAny_newTuple ?_ (by rw [← d.length]; exact Nat.le_trans hl (by decide))
  have r := I.freeze (a := s.heap.objs.size) (o := oTup vs 0) (h' := s.heap.push { cls := .type "tuple", data := .seq vs.toArray }) (Heap.get?_none_of_le (Nat.le_refl _)) (fun b o e => Heap.get?_push_of_some _ e) (Heap.get?_push_size _ rfl) s.toks
  exact hQ _ _ ρ _ (.tup _ xs vs 0 (if_pos rfl) (d.step r.2)) r
end
noncomputable def excSlots (sl : Array (Option Value)) : Bool := (sl.size == 6) && (sl[4]? == some (some (.builtin "Exception.__new__")))
noncomputable def excMakes (K : Frag) (C : Addr) : Bool := onSome (K.lookup C) (fun o => onSome (clsIn K C) (fun cd => ((o.cls == .type "type") && (cd.mro == [.ref C, .type "Exception", .type "BaseException", .type "object"])) && (!cd.hasDel && excSlots o.slots)) false) false
theorem len_s {α : Type} {n : Nat} {P : List α → Prop} (H : ∀ a r, r.length = n → P (a :: r)) : ∀ l : List α, l.length = n + 1 → P l
  | [], h => nomatch h
  | a :: r, h => H a r (Nat.succ.inj h)
theorem len_z {α : Type} {P : List α → Prop} (H : P []) : ∀ l : List α, l.length = 0 → P l
  | [], _ => H
  | _ :: _, h => nomatch h
inductive ExcAt (h : Heap) (C : Addr) : Prop where
  | mk (nm : Str) (q : Str) (N : Addr) (bs : List Value) (hdct : Bool) (sn : List Str) (sub : List Value) (ab : Bool) (col : Option Bool) (dd : Option Addr) (k0 k1 k2 k3 k5 : Option Value) (e : h.get? C = some (excClassObj nm q C N bs [.type "Exception", .type "BaseException", .type "object"] hdct sn sub ab col dd k0 k1 k2 k3 k5 "Exception.__new__"))
theorem excMakes_is {K : Frag} {h : Heap} (X : K.In h) {C : Addr} (e : excMakes K C = true) : ExcAt h C := by
  unfold excMakes clsIn at e
  cases ho : K.lookup C with
  | none => rw [ho] at e; exact ff e
  | some o =>
  rw [ho] at e
  cases o with | mk cls dd da sl =>
  cases da with
  | cls cd =>
    have e' : (((cls == .type "type") && (cd.mro == [.ref C, .type "Exception", .type "BaseException", .type "object"])) && (!cd.hasDel && excSlots sl)) = true := e
    rw [Bool.and_eq_true, Bool.and_eq_true, Bool.and_eq_true, excSlots, Bool.and_eq_true, Bool.not_eq_true'] at e'
    cases cd with | mk nm bs mro N q hdct sn sub ab col hdel =>
    cases sl with | mk l =>
    refine len_s (P := fun l => K.lookup C = some ⟨cls, dd, .cls _, ⟨l⟩⟩ → (⟨l⟩ : Array (Option Value))[4]? = some (some (.builtin "Exception.__new__")) → ExcAt h C) (fun k0 => len_s fun k1 => len_s fun k2 => len_s fun k3 => len_s fun k4 => len_s fun k5 => len_z fun ho e4 => ?_) l (eq_of_beq e'.2.2.1) ho (eq_of_beq e'.2.2.2)
    have e1 : cls = _ := eq_of_beq e'.1.1
    have e2 : mro = _ := eq_of_beq e'.1.2
    have e3 : hdel = false := e'.2.1
    have e4' : k4 = some (.builtin "Exception.__new__") := Option.some.inj e4
    rw [e1, e2, e3, e4'] at ho
    exact ⟨nm, q, N, bs, hdct, sn, sub, ab, col, dd, k0, k1, k2, k3, k5, X _ _ ho⟩
  | _ => exact ff e
noncomputable def excF (t : Addr) : Array Value := #[.ref t, .none, .none, .none, .bool false, .none]
section
variable {prog : Program} {w : World} {A : Around} {K : Frag} {C fI : Addr} {R : Result → Shared → Prop} {h : Heap} {g : Array GenState} {d : Drawn} {t : Nat} {os : OsState}
theorem new_exc {rest : List Value} (X : K.In h) (hm : excMakes K C = true) (hi : findIn K (.ref C) "__init__" = some (some (.ref fI))) (hf : typeIn K (.ref fI) = some (.type "function")) (hrest : rest.length ≤ sizeLine)
    (hq : codeAny (model prog w) (A.under (.builtin "type.__call__" ⟨.ref C :: rest, []⟩)) (.call (.ref fI) ⟨.ref (h.objs.size + 1) :: rest, []⟩) (InitBack (h.objs.size + 1) R) ⟨(h.push (oTup rest 0)).push (oExc C none (excF h.objs.size)), g, d, t, os⟩) :
    codeAny (model prog w) A (.call (.ref C) ⟨rest, []⟩) R ⟨h, g, d, t, os⟩ := by
  cases excMakes_is X hm with | mk nm q N bs hdct sn sub ab col dd k0 k1 k2 k3 k5 hC =>
  have F := PySem.F.excBase_Exception
  have f1 := tc_lookup
  have f2 := PySem.tc_bind (.ref C)
  have hT : (⟨h, g, d, t, os⟩ : Shared).TypeIs (.ref C) "type" := ⟨_, hC, rfl⟩
  refine codeAny_of_tree ?_
  show wpAny _ _ (callAny (.ref C) _) _ _ _
  repeat (any_goals (first | assumption | with_reducible refine wpAny_loadPart_at hC ?_ | wp_step))
  refine ⟨rfl, ?_⟩
  refine codeAny_call_builtin_at (Code.quiet_builtin _ (by decide +kernel)) entry_typeCall (wpAny_check_type_call_sub hC ?_)
  repeat (first | with_reducible refine wpAny_loadPart_at hC ?_ | with_reducible refine wpAny_madeBy_exc hC ?_ | wp_step)
  refine codeAny_call_builtin_code (Code.quiet_builtin _ F.quiet) (wpAny_check_new_sub F hC ?_)
  refine codeAny_exc_new_sub F hC ?_ hrest
  show wpAny _ _ _ _ _ _
  have k : ∀ b o, h.get? b = some o → ((h.push (oTup rest 0)).push (oExc C none (excF h.objs.size))).get? b = some o := fun b o e => Heap.get?_push_of_some _ (Heap.get?_push_of_some _ e)
  have hC₁ := k _ _ hC
  have hget : ((h.push (oTup rest 0)).push (oExc C none (excF h.objs.size))).get? (h.objs.size + 1) = some (oExc C none (excF h.objs.size)) := by heap_get
  have X' : K.In ((h.push (oTup rest 0)).push (oExc C none (excF h.objs.size))) := fun a o e => k a o (X a o e)
  have hcC : (Value.ref C :: [.type "Exception", .type "BaseException", .type "object"]).contains (.ref C) = true := by simp
  show wpAny _ _ _ _ _ ⟨(h.push (oTup rest 0)).push (oExc C none (excF h.objs.size)), g, d, t, os⟩
  have L0 : Looks (model prog w) ((h.push (oTup rest 0)).push (oExc C none (excF h.objs.size))) (typeOf (.ref (h.objs.size + 1))) (.ref C) := (Looks.ld hget).andThen .now
  have L1 : Looks (model prog w) ((h.push (oTup rest 0)).push (oExc C none (excF h.objs.size))) (isSubtype (.ref C) (.ref C)) true := fun A Q E s k q => by
    cases s
    refine wpAny_isSubtype_exc (k _ _ hC₁) ?_
    rw [hcC]; exact q
  have L2 : Looks (model prog w) ((h.push (oTup rest 0)).push (oExc C none (excF h.objs.size))) (isInstance (.ref (h.objs.size + 1)) (.ref C)) true := L0.andThen L1
  have L3 := looks_findIn (M := model prog w) X' hi
  refine wpAny_bind (L2.at ?_)
  rw [if_neg (by decide)]
  refine wpAny_bind (wpAny_holding ?_)
  unfold callSpecial? specialOf
  refine wpAny_bind (wpAny_bind (L0.at (L3.at ?_)))
  refine wpAny_holding (wpAny_bind ((bind_fn X' _ hf).at ?_))
  refine wpAny_bind (wpAny_call (codeAny_mono hq fun r s' z => ?_))
  rcases r with e | (v | _ | _ | _) <;> first | exact z | exact z.elim | skip
  obtain ⟨rfl, z⟩ := z
  exact wpAny_pure (wpAny_pure z)
end
noncomputable def pushRng (a b : Int) : EM AV := EM.bind (EM.push (.rng a b 1)) fun i => EM.ret (.ref i)
noncomputable def eRange (as : List AV) : EM AV := on1 as (fun b => onInt b (pushRng 0) EM.fail) <| on2 as (fun a b => onInt a (fun a => onInt b (pushRng a) EM.fail) EM.fail) EM.fail
noncomputable def eEnum (as : List AV) : EM AV := on1 as (fun a => onRef a (fun l => EM.bind (EM.cellAs asList l) fun _ => EM.bind (EM.push (.wl l 0)) fun i => EM.bind (EM.push (.enum i 0)) fun j => EM.ret (.ref j)) EM.fail) EM.fail
noncomputable def eTypeCall (T : String) (as : List AV) : EM AV := _root_.cond (T == "range") (eRange as) (_root_.cond (T == "enumerate") (eEnum as) EM.fail)
section
variable {X : Ctx} {A : Around} {ρ : Rho} {F : Fz} {σ : St} {s : Shared} {Γ : Kn}
noncomputable def SimV (X : Ctx) (A : Around) (f : Value) (x : EM AV) (as : List AV) : Prop := ∀ (Γ : Kn) (vs : List Value), Γ.le (RDens as vs) → Sim X A Γ RDen x (call f vs)
theorem SimV.fail {f : Value} {as : List AV} : SimV X A f EM.fail as := fun _ _ _ => Sim.fail
theorem SimV.of {f : Value} {as : List AV} {x : EM AV} (h : ∀ σ ρ F s vs, Inv X ρ F σ s → Dens σ.n ρ F as vs → RunAt σ x fun b σ' => Goes X A ρ F σ s (call f vs) (RDen b) σ') : SimV X A f x as := fun _ _ hv => Sim.ofRun fun σ ρ F s I g => h σ ρ F s _ I (hv _ _ _ g)
theorem pushRng_ok (I : Inv X ρ F σ s) {a b : Int} {t u v : Tok} {k : Nat} {T : Sem Value} (h : ∀ (Q : Value → Shared → Prop) (E : Value → Shared → Prop), Q (.ref s.heap.objs.size) { s with heap := s.heap.push { cls := .type "range", data := .fields #[.int a t, .int b u, .int 1 v] }, toks := k } → wpAny (model X.prog X.w) A T Q E s) :
    RunAt σ (pushRng a b) fun c σ' => Goes X A ρ F σ s T (RDen c) σ' := RunAt.push (RunAt.ret (Goes.to fun Q E hQ => h Q E (hQ _ _ _ F (Den.fresh ρ F σ _ _) (I.push (a := s.heap.objs.size) (c := .rng a b 1) (h' := s.heap.push { cls := .type "range", data := .fields #[.int a t, .int b u, .int 1 v] }) (Heap.get?_none_of_le (Nat.le_refl _)) (fun b o e => Heap.get?_push_of_some _ e)
        ⟨_, Heap.get?_push_size _ rfl, t, u, v, rfl⟩ k))))
theorem Sim.range (as : List AV) : SimV X A (.type "range") (eRange as) as := by
  refine on1_ind (P := SimV X A (.type "range")) (fun b => ?_) (on2_ind (P := SimV X A (.type "range")) (fun a b => ?_) fun _ => SimV.fail)
  · exact onInt_ind (P := fun x b => SimV X A (.type "range") x [b]) (fun b => SimV.of fun σ ρ F s vs I d => dens1 (P := fun vs => RunAt σ (pushRng 0 b) fun c σ' => Goes X A ρ F σ s (call (.type "range") vs) (RDen c) σ') d fun v (dv : ∃ t, v = .int b t) => dv.elim fun t e => e ▸ pushRng_ok I fun Q E h => call_range_1 h) SimV.fail
  · exact onInt_ind (P := fun x a => SimV X A (.type "range") x [a, b]) (fun a => onInt_ind (P := fun x b => SimV X A (.type "range") x [.int a, b]) (fun b => SimV.of fun σ ρ F s vs I d => dens2 (P := fun vs => RunAt σ (pushRng a b) fun c σ' => Goes X A ρ F σ s (call (.type "range") vs) (RDen c) σ') d fun u v (du : ∃ t, u = .int a t) (dv : ∃ t, v = .int b t) => du.elim fun t e => dv.elim fun t' e' => e ▸ e' ▸ pushRng_ok I fun Q E h => call_range_2 h) SimV.fail) SimV.fail
theorem pushEnum (I : Inv X ρ F σ s) {c : Cell} {h' : Heap} (hit : CellAt (σ.n + 1) (ρ.put σ.n s.heap.objs.size) F h' s.heap.objs.size c) (he : IsEnum h' (s.heap.objs.size + 1) s.heap.objs.size 0 .none) (hk : ∀ b o, s.heap.get? b = some o → h'.get? b = some o)
    {Q : Value → Shared → Prop} (hQ : ∀ v s' ρ' F', Den ((σ.push c).push (.enum σ.n 0)).n ρ' F' (.ref (σ.n + 1)) v → Inv X ρ' F' ((σ.push c).push (.enum σ.n 0)) s' ∧ Stp ρ F σ s ρ' F' ((σ.push c).push (.enum σ.n 0)) s' → Q v s') : Q (.ref (s.heap.objs.size + 1)) { s with heap := h' } := by
  let h₁ : Heap := h'.update (s.heap.objs.size + 1) (fun o => { o with data := .freed })
  have h₁o : ∀ b, b ≠ s.heap.objs.size + 1 → h₁.get? b = h'.get? b := fun b hb => Heap.get?_update_other _ _ (Ne.symm hb)
  have h₁n : h₁.get? (s.heap.objs.size + 1) = none := by
    cases q : h₁.get? (s.heap.objs.size + 1) with
    | none => rfl
    | some o =>
      have q1 := Heap.get?_some_iff.mp q
      have : h₁.objs[s.heap.objs.size + 1]? = h'.objs[s.heap.objs.size + 1]?.map (fun o => { o with data := .freed }) := by
        show (Heap.update h' (s.heap.objs.size + 1) _).objs[s.heap.objs.size + 1]? = _
        cases h'; simp only [Heap.update, Array.getElem?_modify, if_true]
      rw [this, (Heap.get?_some_iff.mp he).1] at q1
      rw [← Option.some.inj q1.1] at q1
      exact ff q1.2.symm
  have r₁ := I.push (a := s.heap.objs.size) (c := c) (h' := h₁) (Heap.get?_none_of_le (Nat.le_refl _)) (fun b o e => by rw [h₁o b (Nat.ne_of_lt (Nat.lt_succ_of_lt (Heap.lt_size e)))]; exact hk b o e)
    (hit.keep fun o e => by rw [h₁o _ (Nat.ne_of_lt (Nat.lt_succ_self _))]; exact e) s.toks
  have hρ : ((ρ.put σ.n s.heap.objs.size).put (σ.n + 1) (s.heap.objs.size + 1)) σ.n = s.heap.objs.size := by rw [Rho.put_lt _ _ (Nat.lt_succ_self _), Rho.put_self]
  have r₂ := r₁.1.push (a := s.heap.objs.size + 1) (c := .enum σ.n 0) (h' := h') h₁n (fun b o e => by
      have e' : h₁.get? b = some o := e
      by_cases q : b = s.heap.objs.size + 1
      · rw [q, h₁n] at e'; exact noneOf e'
      · rw [← h₁o b q]; exact e') ⟨_, he, .none, by show _ = ({ cls := .type "enumerate", dict := none, data := .fields #[.none, .bool false, .ref (((ρ.put σ.n s.heap.objs.size).put (σ.n + 1) (s.heap.objs.size + 1)) σ.n), rawInt ((0 : Nat) : Int), .none, .none], slots := #[] } : Obj) ∧ σ.n < σ.n + 1 + 1; rw [hρ]; exact ⟨rfl, Nat.lt_succ_of_lt (Nat.lt_succ_self _)⟩⟩ s.toks
  exact hQ _ _ _ F (Den.fresh (ρ.put σ.n s.heap.objs.size) F (σ.push c) _ _) ⟨r₂.1, r₁.2.trans r₂.2⟩
theorem Sim.enumerate (as : List AV) : SimV X A (.type "enumerate") (eEnum as) as := by
  refine on1_ind (P := SimV X A (.type "enumerate")) (fun a => ?_) SimV.fail
  refine onRef_ind (P := fun x a => SimV X A (.type "enumerate") x [a]) (fun l => ?_) SimV.fail
  refine SimV.of fun σ ρ F s vs I d => RunAt.cellAs asList_some fun xs hx => RunAt.push (RunAt.push (RunAt.ret ?_))
  refine dens1 (P := fun vs => Goes X A ρ F σ s (call (.type "enumerate") vs) (RDen (.ref (σ.n + 1))) ((σ.push (.wl l 0)).push (.enum σ.n 0))) d fun v (dv : v = .ref (ρ l) ∧ l < σ.n) => ?_
  rw [dv.1]
  exact (I.atL hx).elim fun ws q => q.elim fun k q => Goes.to fun Q E hQ => call_enumerate_list (items := ws.toArray) ⟨_, q.1, rfl, k, rfl⟩ fun h' he hit hsz hk => pushEnum I (c := .wl l 0) (.ofWl (by rw [Rho.put_lt ρ _ dv.2]; exact hit) (Nat.lt_succ_of_lt dv.2)) he hk hQ
theorem Sim.typeCall {T : String} (as : List AV) : SimV X A (.type T) (eTypeCall T as) as :=
  cond_ind (P := fun x => SimV X A (.type T) x as) (fun h => by rw [eq_of_beq h]; exact Sim.range as) (cond_ind (P := fun x => SimV X A (.type T) x as) (fun h => by rw [eq_of_beq h]; exact Sim.enumerate as) SimV.fail)
end
structure GText where
  pre : List Stmt
  test1 : Expr
  test2 : Expr
  item : Expr
  rest : List Stmt
  ypos : Pos
  epos : Pos
  pos1 : Pos
  pos2 : Pos
noncomputable def GText.inner (t : GText) : List Stmt := [.Expr (.Yield (some t.item) t.ypos) t.epos]
noncomputable def GText.outer (t : GText) : List Stmt := .While t.test2 t.inner [] t.pos2 :: t.rest
noncomputable def GText.body (t : GText) : List Stmt := t.pre ++ [.While t.test1 t.outer [] t.pos1]
structure GFor where
  t : GText
  f : Nat
  k : Nat
structure Ext where
  gen : Stmt → Option GFor
noncomputable def eLen (as : List AV) : EM AV := on1 as (fun a => onRef a (fun i => EM.bind (eCellL i) fun xs => EM.ret (.int xs.length)) <| onTup a (fun xs => EM.retIf (xs.length ≤ 1000000) (.int xs.length)) <| onStr a (fun x => EM.retIf (x.length ≤ 1000000) (.int x.length)) EM.fail) EM.fail
noncomputable def eStrOf (as : List AV) : EM AV := on1 as (fun a => onInt a (fun i => EM.retIf (0 ≤ i ∧ i < 2 ^ 63) (.str (toString i))) EM.fail) EM.fail
noncomputable def strAt (a : AV) : Option Str := onStr a some none
noncomputable def strsAt (xs : List AV) : List Str := xs.map fun x => (strAt x).getD Str.empty
noncomputable def eJoinL (as : List AV) : EM AV := on2 as (fun a l => onStr a (fun sep => onRef l (fun i => EM.bind (eCellL i) fun xs => EM.retIf ((∀ y ∈ xs, (strAt y).isSome) ∧ JoinOk sep (strsAt xs) = true) (.str (Txt.join sep (strsAt xs)))) EM.fail) EM.fail) EM.fail
noncomputable def notVal (v : AV) : Bool := onVal v (fun _ => false) true
noncomputable def eIsInst (K : Frag) (as : List AV) : EM AV := on2 as (fun v c => onVal c (fun w => onVRef w (fun C => EM.bind (EM.chk (notVal v)) fun _ => EM.st fun σ => onSome (typ K σ v) (fun T => EM.retB (isIn K T C) (.bool true)) EM.fail) EM.fail) EM.fail) EM.fail
noncomputable def eBuiltinK (K : Frag) (nm : String) (as : List AV) : EM AV := _root_.cond (nm == "isinstance") (eIsInst K as) <| _root_.cond (nm == "list.append") (eAppend as) <| _root_.cond (nm == "list.pop") (ePop as) <| _root_.cond (nm == "list.insert") (eInsert as) <|
  _root_.cond (nm == "list.clear") (eClear as) <| _root_.cond (nm == "next") (eNext as) <| _root_.cond (nm == "iter") (eIter as) <| _root_.cond (nm == "len") (eLen as) <| _root_.cond (nm == "str.join") (eJoinL as) EM.fail
noncomputable def allSome (xs : List (Option AV)) : Option (List AV) := xs.foldr (fun o k => o.bind fun x => k.map fun r => x :: r) (some [])
noncomputable def eFroz (N x d : Nat) (v : AV) : EM AV := EM.st fun σ => EM.turn ((N ≤ x ∧ N ≤ d ∧ N ≤ σ.n) ∧ Und N v ∧ ∀ p ∈ (σ.cut N).objs, UndC N p.2) (fun σ => σ.cut N) v
noncomputable def eFreeze (N x : Nat) : EM AV := EM.bind (EM.word some) fun w => onWKeep w (EM.st fun σ => EM.retIf (x < σ.n) (.ref x)) <| onWNorm w (EM.bind (EM.cell x) fun c =>
  onCInst c (fun C d => EM.bind (EM.cellAs asDict d) fun m => eFroz N x d (.obj C m)) <| onCSinst c (fun C d xs => EM.bind (EM.cellAs asDict d) fun _ => EM.bind (EM.opt (allSome xs)) fun ys => eFroz N x d (.slo C ys)) EM.fail) EM.fail
noncomputable def initIf (K : Frag) (b : Bool) (C : Addr) : Option (Addr × FnI) := _root_.cond b ((refOf (findIn K (.ref C) "__init__")).bind fun f => _root_.cond (typeIn K (.ref f) == some (.type "function")) ((fnInfo K (.val (.ref f))).map fun fi => (f, fi)) none) none
noncomputable def ifNone (v : AV) (x : EM AV) : EM AV := onVal v (fun w => onVNone w x EM.fail) EM.fail
noncomputable def eNew (K : Frag) (r : Rec) (C : Addr) (as : List AV) (ks : List (Str × AV)) : EM AV := EM.bind (EM.opt (initIf K (makesIn K C) C)) fun q => EM.bind (EM.push (.dict [])) fun d => EM.bind (EM.push (.inst C d)) fun x => EM.bind (eFn r q.2 (.ref x :: as) ks) fun v => ifNone v (eFreeze d x)
noncomputable def eNewX (K : Frag) (r : Rec) (C : Addr) (as : List AV) : EM AV := EM.bind (EM.opt (initIf K (excMakes K C) C)) fun q => EM.bind (EM.push (.exc C none none)) fun i => EM.bind (eFn r q.2 (.ref i :: as) []) fun v => ifNone v (EM.st fun σ => EM.retIf (i < σ.n ∧ as.length ≤ 1000) (.ref i))
inductive InitOk (K : Frag) (b : Bool) (C : Addr) (q : Addr × FnI) : Prop where
  | mk (h : b = true) (hi : findIn K (.ref C) "__init__" = some (some (.ref q.1))) (hf : typeIn K (.ref q.1) = some (.type "function")) (hfi : fnInfo K (.val (.ref q.1)) = some q.2)
theorem initIf_ok {K : Frag} {b : Bool} {C : Addr} {q : Addr × FnI} (h : initIf K b C = some q) : InitOk K b C q := by
  have h0 := condO h
  refine (Option.bind_eq_some_iff.mp h0.2).elim fun f h1 => ?_
  have h2 := condO h1.2
  refine (Option.map_eq_some_iff.mp h2.2).elim fun fi h3 => ?_
  rw [← h3.2]
  exact ⟨h0.1, refOf_ok h1.1, eq_of_beq h2.1, h3.1⟩
section
variable {X : Ctx} {A : Around} {ρ : Rho} {F : Fz} {σ : St} {s : Shared} {Γ : Kn}
theorem allSome_dens {n : Nat} : ∀ {xs : List (Option AV)} {vs : List (Option Value)} {ys : List AV}, ODens n ρ F xs vs → allSome xs = some ys → ∃ ws, vs = ws.map some ∧ Dens n ρ F ys ws
  | [], vs, ys, d, h => ⟨[], d, Option.some.inj h ▸ (Dens.nil : Dens n ρ F [] [])⟩
  | _ :: _, [], _, d, _ => d.elim
  | none :: _, _ :: _, _, _, h => noneOf h
  | some x :: xs, v :: vs, ys, d, h => (Option.map_eq_some_iff.mp (show (allSome xs).map _ = some ys from h)).elim fun r q => d.1.elim fun w e => (allSome_dens d.2 q.1).elim fun ws p => ⟨w :: ws, by rw [e.1, p.1]; rfl, q.2 ▸ Dens.cons e.2 p.2⟩
theorem cut_get {N i : Nat} {c : Cell} (h : (σ.cut N).get i = some c) : i < N ∧ σ.get i = some c := by
  have e : (σ.cut N).get i = _ := filter_look (fun i => Nat.blt i N) i σ.objs
  rw [e] at h
  cases q : Nat.blt i N with
  | true => rw [q] at h; exact ⟨Nat.le_of_ble_eq_true q, h⟩
  | false => rw [q] at h; exact noneOf h
theorem cut_ne {N x : Nat} {c : Cell} (I : Inv X ρ F σ s) (hx : σ.get x = some c) (hN : N ≤ x) : ∀ i c, (σ.cut N).get i = some c → ρ i ≠ ρ x := fun i c' h => I.ne (cut_get h).2 hx (Nat.ne_of_lt (Nat.lt_of_lt_of_le (cut_get h).1 hN))
noncomputable def Kept (X : Ctx) (N x : Nat) (σ : St) (b : AV) (σ' : St) : Prop := ∀ (ρ₀ : Rho) (F₀ : Fz) (σ₀ : St) (s₀ : Shared) (ρ : Rho) (F : Fz) (s : Shared), Inv X ρ F σ s → Stp ρ₀ F₀ σ₀ s₀ ρ F σ s → σ₀.n ≤ N → (∀ e ∈ X.fr, e.2 < N) → ∃ F', Got X ρ₀ F₀ σ₀ s₀ (.ref (ρ x)) s ρ F' b σ'
theorem froz_ok {N x d : Nat} {v : AV} {c c' : Cell} (hx : σ.get x = some c) (hd : σ.get d = some c') (h : ∀ (ρ : Rho) (F : Fz) (s : Shared), Inv X ρ F σ s → ∃ o od, s.heap.get? (ρ x) = some o ∧ s.heap.get? (ρ d) = some od ∧ ∀ F', (∀ a o, F a = some o → F' a = some o) → F' (ρ x) = some o → F' (ρ d) = some od → Den σ.n ρ F' v (.ref (ρ x))) :
    RunAt σ (eFroz N x d v) (Kept X N x σ) := RunAt.turn (P := (N ≤ x ∧ N ≤ d ∧ N ≤ σ.n) ∧ Und N v ∧ ∀ p ∈ (σ.cut N).objs, UndC N p.2) (g := fun σ => σ.cut N) (v := v) fun hc ρ₀ F₀ σ₀ s₀ ρ F s I st hN hfr => (h ρ F s I).elim fun o q => q.elim fun od q => by
  have r₂ := (I.cut (ρ' := ρ) (fun _ _ => rfl) hc.2.2 hfr).freezeOld q.2.1 (cut_ne I hd hc.1.2.1)
  have r₃ := r₂.1.freezeOld q.1 (cut_ne I hx hc.1.1)
  exact ⟨_, r₃.1, ((st.cut hN).trans r₂.2).trans r₃.2, (q.2.2 _ (fun a o e => r₃.2.sub _ _ (r₂.2.sub _ _ e)) (if_pos rfl) (r₃.2.sub _ _ (if_pos rfl))).under (fun _ _ => rfl) hc.2.1⟩
theorem freeze_ok {N x : Nat} : RunAt σ (eFreeze N x) (Kept X N x σ) := RunAt.word fun w => by
  refine onWKeep_ind (P := fun y _ => RunAt σ y (Kept X N x σ)) (RunAt.st (RunAt.retIf fun hx ρ₀ F₀ σ₀ s₀ ρ F s I st _ _ => ⟨F, I, st, .ref x hx⟩)) ?_
  refine onWNorm_ind (P := fun y _ => RunAt σ y (Kept X N x σ)) (RunAt.cell fun c => ?_) RunAt.fail
  refine onCInst_ind (P := fun y c => σ.get x = some c → RunAt σ y (Kept X N x σ)) (fun C d hx => RunAt.cellAs asDict_some fun m hm => froz_ok hx hm fun ρ F s I => (I.atD hm).elim fun es q => q.elim fun k q => ?_) ?_
  · exact ⟨_, _, (I.atI hx).1, q.1, fun F' hF h1 h2 => ⟨ρ x, ρ d, _, es, k, rfl, h1, h2, rfl, q.2.mono (Nat.le_refl _) (fun _ _ => rfl) hF⟩⟩
  refine onCSinst_ind (P := fun y c => σ.get x = some c → RunAt σ y (Kept X N x σ)) (fun C d xs hx => RunAt.cellAs asDict_some fun m hm => RunAt.opt fun ys hys => froz_ok hx hm fun ρ F s I => (I.atD hm).elim fun es q => q.elim fun k q => (I.atS hx).elim fun vs p => ?_) fun _ => RunAt.fail
  refine (allSome_dens p.2.2 hys).elim fun ws r => ?_
  exact ⟨_, _, p.1, q.1, fun F' hF h1 h2 => ⟨ρ x, ρ d, _, ws, rfl, r.1 ▸ h1, h2, r.2.mono (Nat.le_refl _) (fun _ _ => rfl) hF⟩⟩
theorem ifNone_run {v : AV} {y : EM AV} {C : AV → St → Prop} (h : v = noneAV → RunAt σ y C) : RunAt σ (ifNone v y) C :=
  onVal_ind (P := fun z v' => v = v' → RunAt σ z C) (fun w e => onVNone_ind (P := fun z w' => w = w' → RunAt σ z C) (fun e' => h (e.trans (congrArg AV.val e'))) (fun _ => RunAt.fail) rfl) (fun _ => RunAt.fail) rfl
theorem Room.new {A : Around} {n : Nat} (h : Room X A (n + 1)) (C : Addr) (vs : List Value) (kw : List (Str × Value)) : (A.under (.builtin "type.__call__" ⟨.ref C :: vs, kw⟩)).depth < recursionLimit ∧ ∀ env i, Room (X.wf ((env, i) :: X.fr)) ((A.under (.builtin "type.__call__" ⟨.ref C :: vs, kw⟩)).deeper env) n := by
  have hw : (Code.builtin "type.__call__" ⟨.ref C :: vs, kw⟩).weight = 1 := by kernel_rfl
  have hu : (Code.builtin "type.__call__" ⟨.ref C :: vs, kw⟩).cUnits = 1 := by kernel_rfl
  have hg : (Code.builtin "type.__call__" ⟨.ref C :: vs, kw⟩).guards = [] := by kernel_rfl
  have he : (Code.builtin "type.__call__" ⟨.ref C :: vs, kw⟩).envs = [] := by kernel_rfl
  have k1 : A.depth + 1 + 1 + 4 * n ≤ A.depth + 4 * (n + 1) := by omega
  refine ⟨Nat.lt_of_le_of_lt ?_ h.1, fun env i => ⟨Nat.lt_of_le_of_lt ?_ h.1, Nat.lt_of_le_of_lt ?_ h.2.1, h.2.2.1, ?_, Around.frames_deeper ?_⟩⟩
  · show A.depth + (Code.builtin "type.__call__" ⟨.ref C :: vs, kw⟩).weight ≤ _
    rw [hw]; exact Nat.add_le_add_left (Nat.le_trans (by decide) (Nat.mul_le_mul_left 4 (Nat.le_add_left 1 n))) _
  · show A.depth + (Code.builtin "type.__call__" ⟨.ref C :: vs, kw⟩).weight + 1 + 4 * n ≤ _
    rw [hw]; exact k1
  · show A.units + (Code.builtin "type.__call__" ⟨.ref C :: vs, kw⟩).cUnits + 3 + 40 * n ≤ _
    rw [hu]; omega
  · show pushGuards (Code.builtin "type.__call__" ⟨.ref C :: vs, kw⟩).guards A.guards = some []; rw [h.2.2.2.1, hg]; rfl
  · show pushEnvs (Code.builtin "type.__call__" ⟨.ref C :: vs, kw⟩).envs A.frames = _
    rw [he, h.2.2.2.2]; rfl
theorem Sim.new {r : Rec} {n : Nat} (S : SoundF X r n) (hA : Room X A (n + 1)) {C : Addr} {as : List AV} {vs : List Value} {ks : List (Str × AV)} {kvs : List Value} :
    Sim X A ((RDens as vs).and (RDens (ks.map (·.2)) kvs)) RDen (eNew X.K r C as ks) (call (.ref C) vs ((ks.map (·.1)).zip kvs)) := Sim.ofRun fun σ ρ F s I g => RunAt.opt fun q hq => RunAt.push (RunAt.push (by
  cases initIf_ok hq with | mk h1 h2 h3 hfi =>
  have r₁ := I.push (a := s.heap.objs.size) (c := .dict []) (h' := s.heap.push emptyDict) (Heap.get?_none_of_le (Nat.le_refl _)) (fun b o e => Heap.get?_push_of_some _ e) (.ofD (vs := []) (k := 0) (Heap.get?_push_size _ rfl) .nil) s.toks
  have hz : (s.heap.push emptyDict).objs.size = s.heap.objs.size + 1 := Heap.size_push ..
  have hρd : ((ρ.put σ.n s.heap.objs.size).put (σ.n + 1) (s.heap.push emptyDict).objs.size) σ.n = s.heap.objs.size := by rw [Rho.put_lt _ _ (Nat.lt_succ_self _), Rho.put_self]
  have r₂ := r₁.1.push (a := (s.heap.push emptyDict).objs.size) (c := .inst C σ.n) (h' := (s.heap.push emptyDict).push (instObj C s.heap.objs.size)) (Heap.get?_none_of_le (Nat.le_refl _)) (fun b o e => Heap.get?_push_of_some _ e)
    ⟨_, Heap.get?_push_size _ rfl, congrArg (oInst C) hρd.symm, Nat.lt_of_lt_of_le (Nat.lt_succ_self _) (Nat.le_succ _)⟩ s.toks
  have st := r₁.2.trans r₂.2
  have hx : ((ρ.put σ.n s.heap.objs.size).put (σ.n + 1) (s.heap.push emptyDict).objs.size) (σ.n + 1) = s.heap.objs.size + 1 := (Rho.put_self _ _ _).trans hz
  refine RunAt.bind (callFn S (hA.new C vs ((ks.map (·.1)).zip kvs)).1 (hA.new C vs ((ks.map (·.1)).zip kvs)).2 (f := .val (.ref q.1)) (fv := .ref q.1) (as := .ref (σ.n + 1) :: as) (vs := .ref (s.heap.objs.size + 1) :: vs) (ks := ks) (kvs := kvs) hfi r₂.1 ⟨rfl, ⟨⟨congrArg Value.ref hx.symm, Nat.lt_succ_self _⟩, Dens.step g.1 st⟩, Dens.step g.2 st⟩) fun b σ₁ hcall => ifNone_run fun hb => (freeze_ok (X := X)).mono fun b' σ' hf Q E hQ => wpAny_call ?_
  refine make_core (makes_of I.Kin h1) (looks_findIn I.Kin h2) (fun self => bind_fn I.Kin self h3) (.inl rfl) (hcall _ fun w s' ρ' F' p => ?_)
  refine (hf ρ F σ _ ρ' F' s' p.inv (st.trans p.stp) (Nat.le_refl _) I.frlt).elim fun F₂ p2 => ⟨?_, ?_⟩
  · have := p.den
    rw [hb] at this
    exact this
  · have : Q (.ref (ρ' (σ.n + 1))) s' := hQ _ s' ρ' F₂ p2.den p2.inv p2.stp
    rw [(p.stp.same (σ.n + 1) (Nat.lt_succ_self _)).trans hx] at this
    exact this))
theorem Sim.newX {r : Rec} {n : Nat} (S : SoundF X r n) (hA : Room X A (n + 1)) {C : Addr} {as : List AV} {vs : List Value} :
    Sim X A (RDens as vs) RDen (eNewX X.K r C as) (call (.ref C) vs []) := Sim.ofRun fun σ ρ F s I g => RunAt.opt fun q hq => RunAt.push (by
  cases initIf_ok hq with | mk h1 h2 h3 hfi =>
  have r₁ := I.grow (h' := s.heap.push (oTup vs 0)) (fun b o e => Heap.get?_push_of_some _ e) s.toks
  have r₂ := r₁.1.push (a := (s.heap.push (oTup vs 0)).objs.size) (c := .exc C none none) (h' := (s.heap.push (oTup vs 0)).push (oExc C none (excF s.heap.objs.size))) (Heap.get?_none_of_le (Nat.le_refl _)) (fun b o e => Heap.get?_push_of_some _ e)
    ⟨_, Heap.get?_push_size _ rfl, _, rfl, rfl, (fun _ h => (nomatch h)), fun _ h => (nomatch h)⟩ s.toks
  have st := r₁.2.trans r₂.2
  have hz : (s.heap.push (oTup vs 0)).objs.size = s.heap.objs.size + 1 := Heap.size_push ..
  have hx : (ρ.put σ.n (s.heap.push (oTup vs 0)).objs.size) σ.n = s.heap.objs.size + 1 := (Rho.put_self _ _ _).trans hz
  refine RunAt.bind (callFn S (hA.new C vs []).1 (hA.new C vs []).2 (f := .val (.ref q.1)) (fv := .ref q.1) (as := .ref σ.n :: as) (vs := .ref (s.heap.objs.size + 1) :: vs) (ks := []) (kvs := []) hfi r₂.1 ⟨rfl, ⟨⟨congrArg Value.ref hx.symm, Nat.lt_succ_self _⟩, Dens.step g st⟩, rfl⟩) fun b σ₁ hcall => ifNone_run fun hb => RunAt.st (RunAt.retIf fun hl Q E hQ => wpAny_call ?_)
  have hd : Dens σ.n ρ F as vs := g
  have hv : vs.length ≤ sizeLine := by rw [← hd.length]; exact Nat.le_trans hl.2 (by decide)
  refine new_exc I.Kin h1 h2 h3 hv (hcall _ fun w s' ρ' F' p => ⟨?_, ?_⟩)
  · have := p.den
    rw [hb] at this
    exact this
  · have := hQ _ s' ρ' F' ⟨rfl, hl.1⟩ p.inv (st.trans p.stp)
    rw [(p.stp.same σ.n (Nat.lt_succ_self _)).trans hx] at this
    exact this)
end
noncomputable def eCallRef (K : Frag) (r : Rec) (C : Addr) (as : List AV) (ks : List (Str × AV)) : EM AV := _root_.cond (excMakes K C && ks.isEmpty) (eNewX K r C as) (eNew K r C as ks)
section
variable (K : Frag) (r : Rec) (f : AV) (as : List AV) (ks : List (Str × AV))
noncomputable def eCallFn : EM AV := onSome (fnInfo K f) (fun fi => eFn r fi as ks) (onVal f (fun v => onVRef v (fun C => eCallRef K r C as ks) EM.fail) EM.fail)
noncomputable def eCall : EM AV := onVal f (fun v => onVBuiltin v (fun nm => onNil ks (eBuiltinK K nm as) EM.fail) <| onVType v (fun T => onNil ks (_root_.cond (T == "str") (eStrOf as) (eTypeCall T as)) EM.fail) (eCallFn K r (.val v) as ks)) (eCallFn K r f as ks)
end
section
variable {X : Ctx} {A : Around} {ρ : Rho} {F : Fz} {σ : St} {s : Shared} {Γ : Kn}
theorem szLen {n : Nat} {xs : List AV} {vs : List Value} (h : xs.length ≤ 1000000) (d : Dens n ρ F xs vs) : (vs.toArray.size : Int) < 2 ^ 63 := by
  rw [List.size_toArray, ← d.length]
  exact Int.lt_of_le_of_lt (Int.ofNat_le.mpr h) (by decide)
theorem Sim.len (as : List AV) : SimB X A "len" (eLen as) as := by
  refine on1_ind (P := SimB X A "len") (fun a => ?_) SimB.fail
  refine onRef_ind (P := fun x a => SimB X A "len" x [a]) (fun i => SimB.of fun σ ρ F s vs I d => RunAt.cellL fun xs hx hl => RunAt.ret (dens1 (P := fun vs => Goes X A ρ F σ s (call (.builtin "len") vs) (RDen (.int xs.length)) σ) d fun v (dv : v = .ref (ρ i) ∧ i < σ.n) => dv.1 ▸ ?_)) ?_
  · exact (I.atL hx).elim fun ws q => q.elim fun k q => Goes.tok I fun Q E hQ => Calls.call_len_list (items := ws.toArray) ⟨_, q.1, rfl, k, rfl⟩ (szLen hl q.2) (hQ _ _ ⟨_, by rw [List.size_toArray, q.2.length]⟩)
  refine onTup_ind (P := fun x a => SimB X A "len" x [a]) (fun xs => SimB.of fun σ ρ F s vs I d => RunAt.retIf fun hl => dens1 (P := fun vs => Goes X A ρ F σ s (call (.builtin "len") vs) (RDen (.int xs.length)) σ) d fun v dv => ?_) ?_
  · cases den_tup dv with | mk a ws k e h hs => rw [e]; exact Goes.tok I fun Q E hQ => P.len_tuple (items := ws.toArray) (I.froz _ _ h) (Int.not_le.mpr (szLen hl hs)) (hQ _ _ ⟨_, by rw [List.size_toArray, hs.length]⟩)
  exact onStr_ind (P := fun x a => SimB X A "len" x [a]) (fun x => SimB.of fun σ ρ F s vs I d => RunAt.retIf fun hl => dens1 (P := fun vs => Goes X A ρ F σ s (call (.builtin "len") vs) (RDen (.int x.length)) σ) d fun v (dv : ∃ t, v = .str x t) => dv.elim fun t e => e ▸ Goes.tok I fun Q E hQ => P.len_str (Int.not_le.mpr (Int.lt_of_le_of_lt (Int.ofNat_le.mpr hl) (by decide))) (hQ _ _ ⟨_, rfl⟩)) SimB.fail
theorem Sim.strOf (as : List AV) : SimV X A (.type "str") (eStrOf as) as := by
  refine on1_ind (P := SimV X A (.type "str")) (fun a => ?_) SimV.fail
  refine onInt_ind (P := fun x a => SimV X A (.type "str") x [a]) (fun i => SimV.of fun σ ρ F s vs I d => RunAt.retIf fun hi => dens1 (P := fun vs => Goes X A ρ F σ s (call (.type "str") vs) (RDen (.str (toString i))) σ) d fun v (dv : ∃ t, v = .int i t) => dv.elim fun t e => e ▸ Goes.tok I fun Q E hQ => P.str_of_int (by
    have h1 : i.natAbs < 2 ^ 63 := (Int.natAbs_lt_natAbs_of_nonneg_of_lt hi.1 hi.2)
    rcases Nat.eq_zero_or_pos i.natAbs with h | h
    · rw [h]; decide
    · exact Nat.lt_of_lt_of_le ((Nat.log2_lt (Nat.ne_of_gt h)).mpr h1) (by decide)) (hQ _ _ ⟨_, rfl⟩)) SimV.fail
theorem strs_ex {N : Nat} : ∀ {xs : List AV} {ws : List Value}, Dens N ρ F xs ws → (∀ y ∈ xs, (strAt y).isSome) → ∃ l : List (Str × Tok), ws = strValues l ∧ l.map (·.1) = strsAt xs
  | [], ws, d, _ => ⟨[], d, rfl⟩
  | _ :: _, [], d, _ => d.elim
  | a :: xs, w :: ws, d, h => (strs_ex d.2 fun y hy => h y (List.mem_cons_of_mem _ hy)).elim fun l q => by
    have h0 := h a List.mem_cons_self
    refine onStr_ind (e := a) (f := some) (d := none) (P := fun (o : Option Str) a => o.isSome = true → Den N ρ F a w → strAt a = o → ∃ l : List (Str × Tok), w :: ws = strValues l ∧ l.map (·.1) = strsAt (a :: xs)) (fun y _ (dw : ∃ t, w = .str y t) e => dw.elim fun t e' => ⟨(y, t) :: l, by rw [e', q.1]; rfl, by rw [List.map_cons, q.2]; rfl⟩) (fun h => ff (show false = true from h)) h0 d.1 rfl
theorem Sim.joinL (as : List AV) : SimB X A "str.join" (eJoinL as) as := by
  refine on2_ind (P := SimB X A "str.join") (fun a l => ?_) fun _ => SimB.fail
  refine onStr_ind (P := fun x a => SimB X A "str.join" x [a, l]) (fun sep => ?_) SimB.fail
  refine onRef_ind (P := fun x l => SimB X A "str.join" x [.str sep, l]) (fun i => SimB.of fun σ ρ F s vs I d => RunAt.cellL fun xs hx hl => RunAt.retIf fun h => ?_) SimB.fail
  refine dens2 (P := fun vs => Goes X A ρ F σ s (call (.builtin "str.join") vs) (RDen (.str (Txt.join sep (strsAt xs)))) σ) d fun u v (du : ∃ t, u = .str sep t) (dv : v = .ref (ρ i) ∧ i < σ.n) => du.elim fun t e => ?_
  rw [e, dv.1]
  exact (I.atL hx).elim fun ws q => q.elim fun k q => (strs_ex q.2 h.1).elim fun l p => Goes.tok I fun Q E hQ => SC.join (texts := strsAt xs) ⟨_, q.1, rfl, k, by rw [← p.1]; rfl⟩ p.2 h.2 fun t' k => hQ _ _ ⟨_, rfl⟩
theorem den_nb {n : Nat} {v : AV} {u : Value} (h : notVal v = true) (d : Den n ρ F v u) {i : String} : u ≠ .builtin i := fun e => by
  cases v with
  | val w => exact ff h
  | bool b => exact nomatch e.symm.trans (show u = .bool b from d)
  | int b => exact (den_int d).elim fun t q => nomatch e.symm.trans q
  | str b => exact (den_str d).elim fun t q => nomatch e.symm.trans q
  | ref b => exact nomatch e.symm.trans (den_ref d).1
  | tup b => cases den_tup d with | mk a ws k q => exact nomatch e.symm.trans q
  | obj C b => cases den_obj d with | mk a d' od es k q => exact nomatch e.symm.trans q
  | slo C b => cases den_slo d with | mk a d' od es q => exact nomatch e.symm.trans q
  | clo a b c d' f => cases (show dClo n ρ F a b c d' f u from d) with | mk a qual o pm code ct q => exact nomatch e.symm.trans q
theorem Sim.isInst (as : List AV) : SimB X A "isinstance" (eIsInst X.K as) as := by
  refine on2_ind (P := SimB X A "isinstance") (fun v c => ?_) fun _ => SimB.fail
  refine onVal_ind (P := fun x c => SimB X A "isinstance" x [v, c]) (fun w => onVRef_ind (P := fun x w => SimB X A "isinstance" x [v, .val w]) (fun C => ?_) SimB.fail) SimB.fail
  refine SimB.of fun σ ρ F s vs I d => RunAt.chk fun hv => RunAt.st ?_
  refine onSome_ind (P := fun (x : EM AV) o => typ X.K σ v = o → RunAt σ x fun b σ' => Goes X A ρ F σ s (call (.builtin "isinstance") vs) (RDen b) σ') (fun T hT => RunAt.retB fun hi => ?_) (fun _ => RunAt.fail) rfl
  exact dens2 (P := fun vs => Goes X A ρ F σ s (call (.builtin "isinstance") vs) (RDen (.bool true)) σ) d fun u c d0 (dc : c = .ref C) => dc ▸ Goes.same I fun Q E hQ => isi_call I.Kin (fun M => typ_looks I d0 hT) hi (den_nb hv d0) (hQ _ rfl)
theorem Sim.builtinK {nm : String} {as : List AV} (hA : A.handled = none) : SimB X A nm (eBuiltinK X.K nm as) as :=
  cond_ind (P := fun x => SimB X A nm x as) (fun h => by rw [eq_of_beq h]; exact Sim.isInst as) <| cond_ind (P := fun x => SimB X A nm x as) (fun h => by rw [eq_of_beq h]; exact Sim.append as) <|
  cond_ind (P := fun x => SimB X A nm x as) (fun h => by rw [eq_of_beq h]; exact Sim.pop as) <| cond_ind (P := fun x => SimB X A nm x as) (fun h => by rw [eq_of_beq h]; exact Sim.insert as) <|
  cond_ind (P := fun x => SimB X A nm x as) (fun h => by rw [eq_of_beq h]; exact Sim.clear as) <| cond_ind (P := fun x => SimB X A nm x as) (fun h => by rw [eq_of_beq h]; exact Sim.next hA as) <|
  cond_ind (P := fun x => SimB X A nm x as) (fun h => by rw [eq_of_beq h]; exact Sim.iter as) <| cond_ind (P := fun x => SimB X A nm x as) (fun h => by rw [eq_of_beq h]; exact Sim.len as) <|
  cond_ind (P := fun x => SimB X A nm x as) (fun h => by rw [eq_of_beq h]; exact Sim.joinL as) SimB.fail
theorem Sim.call {r : Rec} {n : Nat} (S : SoundF X r n) (hA : Room X A (n + 1)) (f : AV) (fv : Value) (as : List AV) (vs : List Value) (ks : List (Str × AV)) (kvs : List Value) :
    Sim X A (RCall f fv as vs ks kvs) RDen (eCall X.K r f as ks) (PySem.call fv vs ((ks.map (·.1)).zip kvs)) := by
  have fn : Sim X A (RCall f fv as vs ks kvs) RDen (eCallFn X.K r f as ks) (PySem.call fv vs ((ks.map (·.1)).zip kvs)) := by
    refine onSome_ind (P := fun x o => fnInfo X.K f = o → Sim X A (RCall f fv as vs ks kvs) RDen x (PySem.call fv vs ((ks.map (·.1)).zip kvs))) (fun fi hfi => Sim.fn S hA hfi) (fun _ => ?_) rfl
    refine onVal_ind (P := fun x f => Sim X A (RCall f fv as vs ks kvs) RDen x (PySem.call fv vs ((ks.map (·.1)).zip kvs))) (fun v => onVRef_ind (P := fun x v => Sim X A (RCall (.val v) fv as vs ks kvs) RDen x (PySem.call fv vs ((ks.map (·.1)).zip kvs))) (fun C => ?_) Sim.fail) Sim.fail
    refine Sim.know (P := fv = .ref C) (fun _ _ _ g => g.1) fun e => ?_
    rw [e]
    refine cond_ind (P := fun x => Sim X A (RCall (.val (.ref C)) (.ref C) as vs ks kvs) RDen x (PySem.call (.ref C) vs ((ks.map (·.1)).zip kvs))) (fun h => ?_) (Sim.weaken (Γ := (RDens as vs).and (RDens (ks.map (·.2)) kvs)) (Sim.new S hA) fun _ _ _ g => g.2)
    rw [Bool.and_eq_true] at h
    rw [List.isEmpty_iff.mp h.2]
    exact Sim.weaken (Γ := RDens as vs) (Sim.newX S hA) fun _ _ _ g => g.2.1
  refine onVal_ind (P := fun x f => Sim X A (RCall f fv as vs ks kvs) RDen (eCallFn X.K r f as ks) (PySem.call fv vs ((ks.map (·.1)).zip kvs)) → Sim X A (RCall f fv as vs ks kvs) RDen x (PySem.call fv vs ((ks.map (·.1)).zip kvs))) (fun v fn => ?_) (fun fn => fn) fn
  refine onVBuiltin_ind (P := fun x v => Sim X A (RCall (.val v) fv as vs ks kvs) RDen (eCallFn X.K r (.val v) as ks) (PySem.call fv vs ((ks.map (·.1)).zip kvs)) → Sim X A (RCall (.val v) fv as vs ks kvs) RDen x (PySem.call fv vs ((ks.map (·.1)).zip kvs))) (fun nm _ => Sim.know (P := fv = .builtin nm) (fun _ _ _ g => g.1) fun e => ?_) (fun fn => ?_) fn
  · rw [e]
    exact onNil_ind (P := fun x ks => Sim X A (RCall (.val (.builtin nm)) (.builtin nm) as vs ks kvs) RDen x (PySem.call (.builtin nm) vs ((ks.map (·.1)).zip kvs))) (Sim.builtinK hA.2.2.1 (RCall (.val (.builtin nm)) (.builtin nm) as vs [] kvs) vs fun _ _ _ g => g.2.1) Sim.fail
  refine onVType_ind (e := v) (f := fun T => onNil ks (_root_.cond (T == "str") (eStrOf as) (eTypeCall T as)) EM.fail) (P := fun x v => Sim X A (RCall (.val v) fv as vs ks kvs) RDen (eCallFn X.K r (.val v) as ks) (PySem.call fv vs ((ks.map (·.1)).zip kvs)) → Sim X A (RCall (.val v) fv as vs ks kvs) RDen x (PySem.call fv vs ((ks.map (·.1)).zip kvs))) (fun T _ => Sim.know (P := fv = .type T) (fun _ _ _ g => g.1) fun e => ?_) (fun fn => fn) fn
  rw [e]
  refine onNil_ind (P := fun x ks => Sim X A (RCall (.val (.type T)) (.type T) as vs ks kvs) RDen x (PySem.call (.type T) vs ((ks.map (·.1)).zip kvs))) ?_ Sim.fail
  refine Sim.weaken (Γ := RDens as vs) ?_ fun _ _ _ g => g.2.1
  exact cond_ind (P := fun x => Sim X A (RDens as vs) RDen x (PySem.call (.type T) vs [])) (fun h => by rw [eq_of_beq h]; exact Sim.strOf as _ vs fun _ _ _ g => g) (Sim.typeCall as _ vs fun _ _ _ g => g)
end
noncomputable def fewOk (args : List Expr) (kws : List Keyword) : Bool := args.all noStar && named kws && decide (args.length + kws.length + 1 < 30)
noncomputable def isBi (o : Option (Option Value)) : Bool := onSome o (fun v => onSome v (fun w => onVBuiltin w (fun _ => true) false) false) false
theorem isBi_ok {o : Option (Option Value)} : isBi o = true → ∃ i, o = some (some (Value.builtin i)) :=
  onSome_ind (P := fun b (o : Option (Option Value)) => b = true → ∃ i, o = some (some (Value.builtin i))) (fun v => onSome_ind (P := fun b (v : Option Value) => b = true → ∃ i, some v = some (some (Value.builtin i))) (fun w => onVBuiltin_ind (P := fun b (w : Value) => b = true → ∃ i, some (some w) = some (some (Value.builtin i))) (fun i _ => ⟨i, rfl⟩) ff) ff) ff
noncomputable def libItem (T : Option Value) (K : Frag) : Bool := isBi (T.bind fun T => findIn K T "__getitem__")
noncomputable def eItemOk (K : Frag) (av : AV) : EM Unit := EM.st fun σ => EM.retB (libItem (typ K σ av) K) ()
noncomputable def eBr {β : Type} (x : EM Bool) (y z : EM β) : EM β := EM.bind x fun b => EM.bind (EM.dec b) fun b => cond b y z
noncomputable def eMethodCall (K : Frag) (r : Rec) (ae : AEnv) (o : Expr) (name : Str) (args : List Expr) (kws : List Keyword) : EM AV :=
  EM.bind (r.ev ae o) fun ov => EM.bind (eMethod K ov name) fun p => eCallWith K r ae p.1 p.2 args kws
noncomputable def eNeg (r : Rec) (ae : AEnv) (x : Expr) : EM AV := EM.bind (r.ev ae x) fun a => onInt a (fun i => EM.ret (.int (-i))) EM.fail
section
variable (K : Frag) (r : Rec) (ae : AEnv)
noncomputable def eAttrE (o : Expr) (attr : Str) : EM AV := cond (notSuper o) (EM.bind (r.ev ae o) fun ov => eAttr K ov attr) EM.fail
noncomputable def eSubE (o i : Expr) : EM AV := cond (plainE i) (EM.bind (r.ev ae o) fun ov => EM.bind (r.ev ae i) fun iv => EM.bind (eItemOk K ov) fun _ => eGetItem ov iv) EM.fail
noncomputable def eMethE (o : Expr) (name : Str) (apos : Pos) (args : List Expr) (kws : List Keyword) (pos : Pos) : EM AV := cond (notSuper o && fewOk args kws && (apos.endLine == pos.line)) (eMethodCall K r ae o name args kws) EM.fail
end
theorem all_no {env : Env} : ∀ {es : List Expr}, (es.map fun e => (false, PySem.eval e env)).all (!·.1) = true
  | [] => rfl
  | _ :: es => all_no (es := es)
theorem all_some {β : Type} : ∀ l : List (Option Str × β), l.all (·.1.isSome) = !l.any (·.1.isNone)
  | [] => rfl
  | (none, _) :: _ => rfl
  | (some _, _) :: l => all_some l
theorem few_form {args : List Expr} {kws : List Keyword} {pos : Pos} {env : Env} (h : fewOk args kws = true) :
    methodCallForm (args.length + kws.length) (backTo pos (starEach args env)) (backToKw pos (keywordEach kws env)) = true := by
  rw [fewOk, Bool.and_eq_true, Bool.and_eq_true] at h
  have h1 := h.1.1
  have h2 := h.1.2
  have h3 := of_decide_eq_true h.2
  unfold methodCallForm
  rw [star_map h1, back_map, all_no, all_some, kw_any, h2]
  have : ∀ b : Bool, (if b = true then 0 else 1) ≤ 1 := by decide
  exact decide_eq_true (Nat.lt_of_le_of_lt (Nat.add_le_add_left (this _) _) h3)
theorem eval_method {o : Expr} {name : Str} {apos pos : Pos} {args : List Expr} {kws : List Keyword} {env : Env} (h1 : notSuper o = true) (h2 : fewOk args kws = true) (h3 : apos.endLine = pos.line) :
    eval (.Call (.Attribute o name apos) args kws pos) env = (eval o env >>= fun ov => PySem.standAt apos.atName >>= fun _ => PySem.holding [ov] (getMethod ov name (do return (← importBound o env).getD true)) >>= fun q =>
      PySem.callWith pos q.1 q.2 (backTo pos (starEach args env)) (backToKw pos (keywordEach kws env))) := by
  have e : eval (.Call (.Attribute o name apos) args kws pos) env = (attributeBase o name env (eval o env) >>= fun ov => PySem.standAt apos.atName >>= fun _ => methodCall o name apos pos env ov (args.length + kws.length) (backTo pos (starEach args env)) (backToKw pos (keywordEach kws env))) := rfl
  rw [e, base_plain h1]
  unfold methodCall
  have hp : methodCallPos true o env apos pos = pure pos := if_pos (by rw [h3, beq_self_eq_true]; rfl)
  rw [few_form h2, hp]
  rfl
section
variable {X : Ctx} {A : Around} {ρ : Rho} {F : Fz} {σ : St} {s : Shared} {Γ : Kn} {r : Rec} {n : Nat} {ae : AEnv} {env : Env}
noncomputable def SimE (X : Ctx) (A : Around) (ae : AEnv) (env : Env) (x : EM AV) (e : Expr) : Prop := Sim X A (EnvK X ae env) RDen x (eval e env)
noncomputable def SimS (X : Ctx) (A : Around) (ae : AEnv) (env : Env) (x : EM AFlow) (st : Stmt) : Prop := Sim X A (EnvK X ae env) RFlow x (exec st env)
theorem Sim.br {α β : Type} {x : EM Bool} {y z : EM β} {t : Sem Bool} {k : Bool → Sem α} {R : β → α → Kn} (hx : Sim X A Γ REq x t) (hy : Sim X A Γ R y (k true)) (hz : Sim X A Γ R z (k false)) : Sim X A Γ R (eBr x y z) (t >>= k) :=
  Sim.bind hx fun b c => Sim.know (P := b = c) (Kn.snd (Kn.le_refl _)) fun h => Sim.dec (by
    subst h
    cases b
    · exact hz.weaken (Kn.fst (Kn.le_refl _))
    · exact hy.weaken (Kn.fst (Kn.le_refl _)))
theorem lib_item {T : Option Value} {K : Frag} (h : libItem T K = true) : ∃ T' i, T = some T' ∧ findIn K T' "__getitem__" = some (some (.builtin i)) :=
  (isBi_ok h).elim fun i h => (Option.bind_eq_some_iff.mp h).elim fun T' q => ⟨T', i, q⟩
theorem Sim.itemOk {av : AV} {v : Value} {k : Bool → Sem Value} {f : Unit → EM AV} {R : AV → Value → Kn} (hv : Γ.le (RDen av v)) (hk : Sim X A Γ R (f ()) (k false)) : Sim X A Γ R (EM.bind (eItemOk X.K av) f) (getitemInPython v >>= k) := by
  refine Sim.ofRun fun σ ρ F s I g => RunAt.stay (x := EM.retB (libItem (typ X.K σ av) X.K) ()) (P := fun _ => libItem (typ X.K σ av) X.K = true) (RunAt.retB fun h => ⟨rfl, h⟩) fun _ h ds b ev' cs e hc Q E hQ => ?_
  refine (lib_item h).elim fun T q => q.elim fun i q => ?_
  have T1 := typ_looks (M := model X.prog X.w) I (hv _ _ _ g) q.1
  unfold getitemInPython
  refine wpAny_bind (wpAny_bind (wpAny_bind (T1.here ((looks_findIn I.Kin q.2).here ?_))))
  exact wpAny_pure (hk (σ, ds) b ev' cs e hc ρ F s I g Q E hQ)
theorem Sim.letGo {base : Expr} {o : Value} {x : EM AV} {t : Sem Value} {R : AV → Value → Kn} (h : Sim X A Γ R x t) : Sim X A Γ R x (t >>= fun r => letTemporaryGo base o r >>= fun _ => pure r) :=
  fun ev b ev' cs e hc ρ F s I g Q E hQ => wpAny_bind (h ev b ev' cs e hc ρ F s I g _ E fun v s' ρ' F' a b c => wpAny_bind (wpAny_letTemporaryGo (wpAny_pure (hQ v s' ρ' F' a b c))))
theorem Sim.neg (S : Sound X r n) (hA : Room X A n) (x : Expr) (p : Pos) : SimE X A ae env (eNeg r ae x) (.UnaryOp .USub x p) := by
  unfold SimE
  rw [eval_UnaryOp]
  refine Sim.bind (S.ev A hA ae env x) fun a av => Sim.standAt (Sim.holding ?_)
  refine onInt_ind (P := fun (x : EM AV) a => Sim X A ((EnvK X ae env).and (RDen a av)) RDen x (unaryOp .USub av)) (fun i => Sim.ofRun fun σ ρ F s I g => RunAt.ret ((show ∃ t, av = .int i t from g.2).elim fun t h => h ▸ Goes.tok I fun Q E hQ => P.neg_int (hQ _ _ ⟨_, rfl⟩))) Sim.fail
theorem Sim.ifE (S : Sound X r n) (hA : Room X A n) (test body orelse : Expr) (p : Pos) : SimE X A ae env (eBr (r.tst ae test) (r.ev ae body) (r.ev ae orelse)) (.IfExp test body orelse p) := by
  unfold SimE
  rw [eval_IfExp]
  exact Sim.br (S.tst A hA ae env test) (S.ev A hA ae env body) (S.ev A hA ae env orelse)
theorem Sim.attrE (S : Sound X r n) (hA : Room X A n) (o : Expr) (attr : Str) (p : Pos) : SimE X A ae env (eAttrE X.K r ae o attr) (.Attribute o attr p) := by
  refine Sim.chk fun hs => Sim.eq (t' := attributeBase o attr env (eval o env) >>= fun ov => PySem.standAt p.atName >>= fun _ => PySem.holding [ov] (getAttr ov attr true) >>= fun r => letTemporaryGo o ov r >>= fun _ => pure r) rfl ?_
  rw [base_plain hs]
  exact Sim.bind (S.ev A hA ae env o) fun a av => Sim.standAt (Sim.letGo (Sim.holding (Sim.attr (Kn.snd (Kn.le_refl _)))))
theorem Sim.subE (S : Sound X r n) (hA : Room X A n) (o i : Expr) (p : Pos) : SimE X A ae env (eSubE X.K r ae o i) (.Subscript o i p) := by
  refine Sim.chk fun hs => ?_
  rw [eval_Subscript]
  refine Sim.bind (S.ev A hA ae env o) fun a av => Sim.bind (Sim.holding ((S.ev A hA ae env i).weaken (Kn.fst (Kn.le_refl _)))) fun b bv => Sim.standAt (Sim.itemOk (Kn.fst (Kn.snd (Kn.le_refl _))) ?_)
  rw [slice_plain av bv hs]
  exact Sim.letGo (Sim.operate (Sim.getItem (Kn.fst (Kn.snd (Kn.le_refl _))) (Kn.snd (Kn.le_refl _))))
theorem Sim.listE (S : Sound X r n) (hA : Room X A n) (elts : List Expr) (p : Pos) : SimE X A ae env (EM.bind (eArgs r ae elts) fun vs => eNewList vs) (.List elts p) :=
  Sim.eq (t' := PySem.standAt p >>= fun _ => spliced (backTo p (starEach elts env)) >>= fun vs => PySem.newList vs) rfl (Sim.standAt (Sim.bind (Sim.args S hA p elts (Kn.le_refl _)) fun a av => Sim.newList (Kn.snd (Kn.le_refl _))))
theorem Sim.tupE (S : Sound X r n) (hA : Room X A n) (elts : List Expr) (c : Nat) (p : Pos) : SimE X A ae env (EM.bind (eArgs r ae elts) fun vs => eNewTuple vs) (.Tuple elts c p) :=
  Sim.eq (t' := PySem.standAt p >>= fun _ => spliced (backTo p (starEach elts env)) >>= fun vs => PySem.newTuple vs) rfl (Sim.standAt (Sim.bind (Sim.args S hA p elts (Kn.le_refl _)) fun a av => Sim.newTuple (Kn.snd (Kn.le_refl _))))
theorem meth_ok {o : Expr} {args : List Expr} {kws : List Keyword} {apos pos : Pos} (hc : (notSuper o && fewOk args kws && (apos.endLine == pos.line)) = true) : notSuper o = true ∧ fewOk args kws = true ∧ apos.endLine = pos.line := by
  rw [Bool.and_eq_true, Bool.and_eq_true] at hc
  exact ⟨hc.1.1, hc.1.2, eq_of_beq hc.2⟩
theorem Sim.methE (S : Sound X r n) (hA : Room X A n) (o : Expr) (name : Str) (apos : Pos) (args : List Expr) (kws : List Keyword) (pos : Pos) : SimE X A ae env (eMethE X.K r ae o name apos args kws pos) (.Call (.Attribute o name apos) args kws pos) := by
  refine Sim.chk fun hc => ?_
  rw [eval_method (meth_ok hc).1 (meth_ok hc).2.1 (meth_ok hc).2.2]
  exact Sim.bind (S.ev A hA ae env o) fun a av => Sim.standAt (Sim.bind (Sim.holding (Sim.method (Kn.snd (Kn.le_refl _)))) fun p q => Sim.callWith S hA pos args kws (Kn.fst (Kn.fst (Kn.le_refl _))) (Kn.snd (Kn.fst (Kn.le_refl _))) (Kn.snd (Kn.snd (Kn.le_refl _))))
theorem Sim.callN (S : Sound X r n) (hA : Room X A n) (y : Str) (p : Pos) (args : List Expr) (kws : List Keyword) (pos : Pos) : SimE X A ae env (EM.bind (r.ev ae (.Name y p)) fun f => eCallWith X.K r ae f [] args kws) (.Call (.Name y p) args kws pos) :=
  Sim.eq (t' := eval (.Name y p) env >>= fun f => PySem.callWith pos f [] (backTo pos (starEach args env)) (backToKw pos (keywordEach kws env))) rfl
    (Sim.bind (S.ev A hA ae env _) fun f fv => Sim.callWith S hA pos args kws (Kn.fst (Kn.le_refl _)) (Kn.snd (Kn.le_refl _)) (fun _ _ _ _ => rfl))
end
noncomputable def eAll (r : Rec) (ae : AEnv) (op : BoolOp) (es : List Expr) : EM Bool := es.foldr (fun e k => _root_.cond (op == .And) (eBr (r.tst ae e) k (EM.ret false)) (eBr (r.tst ae e) (EM.ret true) k)) (EM.ret (op == .And))
noncomputable def testPl (e : Expr) : Bool := onName e (fun _ _ => true) <| onAttribute e (fun _ _ _ => true) <| onCall e (fun _ _ _ _ => true) <| onConstant e (fun _ _ _ => true) <| onSubscript e (fun _ _ _ => true) false
theorem test_plain {e : Expr} {env : Env} {w : Sem Value} (h : testPl e = true) : isTrue e env w = (w >>= fun v => PySem.standAt e.pos >>= fun _ => PySem.holding [v] (PySem.truthy v)) := by
  revert h
  unfold testPl
  exact onName_ind (P := fun b e => b = true → isTrue e env w = (w >>= fun v => PySem.standAt e.pos >>= fun _ => PySem.holding [v] (PySem.truthy v))) (fun _ _ _ => rfl) <|
    onAttribute_ind (P := fun b e => b = true → isTrue e env w = (w >>= fun v => PySem.standAt e.pos >>= fun _ => PySem.holding [v] (PySem.truthy v))) (fun _ _ _ _ => rfl) <|
    onCall_ind (P := fun b e => b = true → isTrue e env w = (w >>= fun v => PySem.standAt e.pos >>= fun _ => PySem.holding [v] (PySem.truthy v))) (fun _ _ _ _ _ => rfl) <|
    onConstant_ind (P := fun b e => b = true → isTrue e env w = (w >>= fun v => PySem.standAt e.pos >>= fun _ => PySem.holding [v] (PySem.truthy v))) (fun _ _ _ _ => rfl) <|
    onSubscript_ind (P := fun b e => b = true → isTrue e env w = (w >>= fun v => PySem.standAt e.pos >>= fun _ => PySem.holding [v] (PySem.truthy v))) (fun _ _ _ _ => rfl) ff
noncomputable def namesOf (es : List Expr) : Option (List Str) := es.foldr (fun e k => onName e (fun x _ => k.map (x :: ·)) none) (some [])
noncomputable def eBinds (ae : AEnv) (xs : List Str) : List AV → EM Unit := xs.foldr (fun x k vs => onCons vs (fun v vs => EM.bind (eBind ae x v) fun _ => k vs) EM.fail) (fun vs => onNil vs (EM.ret ()) EM.fail)
noncomputable def eAssign (K : Frag) (r : Rec) (ae : AEnv) (v : AV) (t : Expr) : EM Unit := onName t (fun x _ => eBind ae x v) <| onAttribute t (fun o attr _ => EM.bind (r.ev ae o) fun ov => eSetAttr K ov attr v) <|
  onSubscript t (fun o i _ => cond (plainE i) (EM.bind (r.ev ae o) fun ov => EM.bind (r.ev ae i) fun iv => eSetItem ov iv v) EM.fail) <|
  onTupleE t (fun elts _ _ => onSome (namesOf elts) (fun xs => onTup v (fun vs => cond (Nat.beq xs.length vs.length) (eBinds ae xs vs) EM.fail) EM.fail) EM.fail) EM.fail
section
variable {X : Ctx} {A : Around} {ρ : Rho} {F : Fz} {σ : St} {s : Shared} {Γ : Kn} {r : Rec} {n : Nat} {ae : AEnv} {env : Env}
theorem Sim.all (S : Sound X r n) (hA : Room X A n) (op : BoolOp) : ∀ es : List Expr, Sim X A (EnvK X ae env) REq (eAll r ae op es) (allTrue op es env)
  | [] => Sim.ret fun _ _ _ _ => rfl
  | e :: es => by
    have ih := Sim.all S hA op es
    have h1 := S.tst A hA ae env e
    cases op
    · exact Sim.eq (t' := isTrue e env (eval e env) >>= fun b => match b with | false => pure false | true => allTrue .And es env) (bind_congr fun b => by cases b <;> rfl) (Sim.br h1 ih (Sim.ret fun _ _ _ _ => rfl))
    · exact Sim.eq (t' := isTrue e env (eval e env) >>= fun b => match b with | true => pure true | false => allTrue .Or es env) (bind_congr fun b => by cases b <;> rfl) (Sim.br h1 (Sim.ret fun _ _ _ _ => rfl) ih)
theorem Sim.bindName {Γ : Kn} {y : Str} {av : AV} {v : Value} (hg : Γ.le (EnvK X ae env)) (hv : Γ.le (RDen av v)) : Sim X A Γ (fun _ _ => Kn.top) (eBind ae y av) (bindName env y v) := fun ev b ev' cs e hc ρ F s I g Q E hQ => wpAny_bindName (Sim.store hg hv ev b ev' cs e hc ρ F s I g Q E hQ)
theorem Sim.inOrder (f : Str × Pos → Value → Sem Unit) (hf : ∀ q v, f q v = (PySem.standAt q.2 >>= fun _ => PySem.bindName env q.1 v) ∨ f q v = PySem.bindName env q.1 v) : ∀ (l : List (Str × Pos)) (avs : List AV) (vs : List Value) (Γ : Kn), Γ.le (EnvK X ae env) → Γ.le (RDens avs vs) →
    Sim X A Γ (fun _ _ => Kn.top) (eBinds ae (l.map (·.1)) avs) (assignInOrder (l.map f) vs)
  | [], avs, vs, Γ, hg, hv => onNil_ind (P := fun (x : EM Unit) avs => Sim X A Γ (fun _ _ => Kn.top) x (assignInOrder [] vs)) (Sim.ret fun _ _ _ _ => trivial) Sim.fail
  | q :: l, avs, vs, Γ, hg, hv => by
    cases avs with
    | nil => exact Sim.fail
    | cons av avs =>
      cases vs with
      | nil => exact Sim.know (P := False) (fun _ _ _ g => (hv _ _ _ g : False)) False.elim
      | cons v vs =>
        have q1 : Γ.le (RDen av v) := fun _ _ _ g => (hv _ _ _ g).1
        have q2 : Γ.le (RDens avs vs) := fun _ _ _ g => (hv _ _ _ g).2
        refine Sim.bind (t := PySem.holding vs (f q v)) (R := fun _ _ => Kn.top) (Sim.holding ?_) fun _ _ => Sim.inOrder f hf l avs vs _ (Kn.fst hg) (Kn.fst q2)
        rcases hf q v with h | h
        · exact h ▸ Sim.standAt (Sim.bindName hg q1)
        · exact h ▸ Sim.bindName hg q1
noncomputable def nm (q : Str × Pos) : Expr := .Name q.1 q.2
noncomputable def nmS (env : Env) (q : Str × Pos) (v : Value) : Sem Unit := PySem.standAt q.2 >>= fun _ => PySem.bindName env q.1 v
theorem namesOf_is : ∀ {es : List Expr} {xs : List Str}, namesOf es = some xs → ∃ l : List (Str × Pos), es = l.map nm ∧ xs = l.map (·.1)
  | [], xs, h => ⟨[], rfl, (Option.some.inj h).symm⟩
  | e :: es, xs, h => onName_ind (P := fun (x : Option (List Str)) e => x = some xs → ∃ l : List (Str × Pos), e :: es = l.map nm ∧ xs = l.map (·.1)) (fun x p h =>
      (Option.map_eq_some_iff.mp h).elim fun ys q => (namesOf_is q.1).elim fun l r => ⟨(x, p) :: l, by rw [r.1]; rfl, by rw [← q.2, r.2]; rfl⟩) (fun h => noneOf h) h
theorem each_nm : ∀ l : List (Str × Pos), assignEach (l.map nm) env = l.map fun q => (false, nmS env q)
  | [] => rfl
  | q :: l => congrArg ((false, nmS env q) :: ·) (each_nm l)
theorem idx_nm (f : Str × Pos → Value → Sem Unit) : ∀ l : List (Str × Pos), (l.map fun q => (false, f q)).findIdx? (·.1) = none
  | [] => rfl
  | q :: l => by
    show List.findIdx? _ ((false, f q) :: l.map fun q => (false, f q)) = none
    rw [List.findIdx?_cons]
    simp only [Bool.false_eq_true, if_false, idx_nm f l]
    rfl
theorem assign_sub (o : Expr) {i : Expr} (p : Pos) (env : Env) (v : Value) : plainE i = true → assign (.Subscript o i p) env v = (PySem.holding [v] (eval o env) >>= fun ov => PySem.holding [v, ov] (eval i env) >>= fun iv => PySem.standAt p >>= fun _ => PySem.holding [v, ov, iv] (PySem.setItem ov iv v) >>= fun _ => release [v, ov, iv] []) :=
  plainE_ind (P := fun i => assign (.Subscript o i p) env v = (PySem.holding [v] (eval o env) >>= fun ov => PySem.holding [v, ov] (eval i env) >>= fun iv => PySem.standAt p >>= fun _ => PySem.holding [v, ov, iv] (PySem.setItem ov iv v) >>= fun _ => release [v, ov, iv] [])) (fun _ _ _ => rfl) (fun _ _ => rfl) (fun _ _ _ => rfl) (fun _ _ _ => rfl) (fun _ _ _ _ => rfl) (fun _ _ _ _ => rfl) (fun _ _ _ => rfl) (fun _ _ _ _ => rfl) (fun _ _ _ _ => rfl) (fun _ _ => rfl) (fun _ _ _ => rfl)
theorem Sim.rel {α β : Type} {x : EM β} {t : Sem α} {l m : List Value} (h : Sim X A Γ (fun _ _ => Kn.top) x t) : Sim X A Γ (fun _ _ => Kn.top) x (t >>= fun _ => release l m) := fun ev b ev' cs e hc ρ F s I g Q E hQ => wpAny_bind (h ev b ev' cs e hc ρ F s I g _ E fun u s' ρ' F' a b c => wpAny_release (hQ () s' ρ' F' trivial b c))
theorem Sim.unpackT (hA : A.handled = none) {vs : List AV} {v : Value} {l : List (Str × Pos)} (hl : l.length = vs.length) (hg : Γ.le (EnvK X ae env)) (hv : Γ.le (RDen (.tup vs) v)) : Sim X A Γ (fun _ _ => Kn.top) (eBinds ae (l.map (·.1)) vs) (unpack v (l.map fun q => (false, nmS env q))) := by
  unfold unpack
  rw [idx_nm, List.length_map, hl]
  intro ev b ev' cs e hc ρ F s I g Q E hQ
  cases den_tup (hv _ _ _ g) with | mk a ws k e1 h hs =>
  rw [e1]
  refine wpAny_bind (wpAny_holding ?_)
  rw [hs.length, show ws.length = ws.toArray.size by simp]
  refine unpackItems_tuple hA ⟨_, I.froz _ _ h, rfl, k, rfl⟩ fun h' hk => ?_
  have r := I.grow (h' := h') (fun b o e => hk b o (Nat.ne_of_lt (Heap.lt_size e)) e) s.toks
  have := Sim.inOrder (A := A) (nmS env) (fun _ _ => .inl rfl) l vs ws ((EnvK X ae env).and (RDens vs ws)) (Kn.fst (Kn.le_refl _)) (Kn.snd (Kn.le_refl _)) ev b ev' cs e hc ρ F _ r.1 ⟨hg _ _ _ g, hs⟩ Q E fun u s' ρ' F' a b c => hQ u s' ρ' F' a b (r.2.trans c)
  rw [List.map_map]
  exact this
theorem Sim.assign (S : Sound X r n) (hA : Room X A n) {Γ : Kn} {av : AV} {v : Value} (t : Expr) (hg : Γ.le (EnvK X ae env)) (hv : Γ.le (RDen av v)) : Sim X A Γ (fun _ _ => Kn.top) (eAssign X.K r ae av t) (assign t env v) := by
  have ev := fun e => (S.ev A hA ae env e).weaken hg
  refine onName_ind (P := fun x t => Sim X A Γ (fun _ _ => Kn.top) x (PySem.assign t env v)) (fun y p => Sim.eq (t' := PySem.standAt p >>= fun _ => PySem.bindName env y v) rfl (Sim.standAt (Sim.bindName hg hv))) ?_
  refine onAttribute_ind (P := fun x t => Sim X A Γ (fun _ _ => Kn.top) x (PySem.assign t env v)) (fun o attr p => ?_) ?_
  · refine Sim.eq (t' := PySem.holding [v] (eval o env) >>= fun ov => PySem.standAt p.atName >>= fun _ => PySem.holding [v, ov] (PySem.setAttr ov attr v) >>= fun _ => release [v, ov] []) rfl ?_
    exact Sim.bind (Sim.holding (ev o)) fun a b => Sim.standAt (Sim.rel (Sim.holding ((Sim.setAttr (Kn.snd (Kn.le_refl _)) (Kn.fst hv)).post fun _ _ _ _ _ _ => trivial)))
  refine onSubscript_ind (P := fun x t => Sim X A Γ (fun _ _ => Kn.top) x (PySem.assign t env v)) (fun o i p => Sim.chk fun hs => ?_) ?_
  · rw [assign_sub o p env v hs]
    exact Sim.bind (Sim.holding (ev o)) fun a b => Sim.bind (Sim.holding ((ev i).weaken (Kn.fst (Kn.le_refl _)))) fun a2 b2 => Sim.standAt (Sim.rel (Sim.holding ((Sim.setItem (Kn.fst (Kn.snd (Kn.le_refl _))) (Kn.snd (Kn.le_refl _)) (Kn.fst (Kn.fst hv))).post fun _ _ _ _ _ _ => trivial)))
  refine onTupleE_ind (P := fun x t => Sim X A Γ (fun _ _ => Kn.top) x (PySem.assign t env v)) (fun elts c p => ?_) Sim.fail
  revert hv
  cases hn : namesOf elts with
  | none => exact fun _ => Sim.fail
  | some xs =>
    refine onTup_ind (P := fun x av => Γ.le (RDen av v) → Sim X A Γ (fun _ _ => Kn.top) x (PySem.assign (.Tuple elts c p) env v)) (fun vs hv => Sim.chk fun hl => ?_) fun _ => Sim.fail
    refine (namesOf_is hn).elim fun l h => ?_
    have hl' := Nat.eq_of_beq_eq_true hl
    rw [h.2, List.length_map] at hl'
    rw [h.1, h.2]
    refine Sim.eq (t' := PySem.standAt p >>= fun _ => unpack v (assignEach (l.map nm) env)) rfl (Sim.standAt ?_)
    rw [each_nm]
    exact Sim.unpackT hA.2.2.1 hl' hg hv
end
noncomputable def eIterOf (v : AV) : EM AV := onRef v (fun i => EM.bind (EM.cell i) fun c =>
  onCRng c (fun a b c => EM.bind (EM.cond (c = 1 ∧ -(2 ^ 62) ≤ a ∧ a < 2 ^ 62 ∧ -(2 ^ 62) ≤ b ∧ b < 2 ^ 62)) fun _ => EM.bind (EM.push (.rit a (if a < b then b - a else 0) 1)) fun j => EM.ret (.ref j)) <|
  onCEnum c (fun _ _ => EM.ret (.ref i)) <| onCList c (fun _ => EM.bind (EM.push (.liter i 0)) fun j => EM.ret (.ref j)) EM.fail) EM.fail
noncomputable def eAssign1 (K : Frag) (r : Rec) (ae : AEnv) (t value : Expr) : EM AFlow := _root_.cond (simpleTarget t && plainE value) (EM.bind (r.ev ae value) fun v => EM.bind (eAssign K r ae v t) fun _ => EM.ret .next) EM.fail
section
variable (r : Rec) (ae : AEnv)
noncomputable def eAugS (o i : Expr) (op : Operator) (value : Expr) : EM AFlow := _root_.cond (plainE i) (EM.bind (r.ev ae o) fun ov => EM.bind (r.ev ae i) fun iv => EM.bind (EM.bind (eGetItem ov iv) fun old => EM.bind (r.ev ae value) fun v => eInp op old v) fun nw => EM.bind (eSetItem ov iv nw) fun _ => EM.ret .next) EM.fail
noncomputable def eForS (target iter : Expr) (body : List Stmt) : EM AFlow := _root_.cond (plainE iter) (EM.bind (r.ev ae iter) fun v => EM.bind (eIterOf v) fun it => r.forl ae target it body) EM.fail
noncomputable def eExprS (e : Expr) : EM AFlow := _root_.cond (plainE e) (EM.bind (r.ev ae e) fun _ => EM.ret .next) EM.fail
noncomputable def eLoop (test : Expr) (body : List Stmt) : EM AFlow := eBr (r.tst ae test) (EM.bind (r.exs ae body) fun fl => onFl fl (r.loop ae test body) (fun v => EM.ret (.ret v)) EM.fail) (EM.ret .next)
end
noncomputable def eNextRit (target : Expr) (i : Nat) : EM (Option AV) := EM.bind (EM.cellAs asRit i) fun q => EM.bind (EM.chk (simpleTarget target)) fun _ => EM.bind EM.cutW fun o => onSome o (fun _ => EM.turn (0 < q.2.1) (fun σ => σ.set i (.rit (q.1 + q.2.2) (q.2.1 - 1) q.2.2)) (some (.int q.1))) (EM.retIf (q.2.1 ≤ 0) none)
noncomputable def eNextEn (target : Expr) (i : Nat) : EM (Option AV) := EM.bind (EM.cellAs asEnum i) fun q => EM.bind (EM.chk (isTup target)) fun _ => EM.bind (EM.cellAs asWl q.1) fun w => EM.bind (EM.cellAs asList w.1) fun xs => EM.bind (EM.chk (Nat.beq w.2 q.2)) fun _ =>
  EM.bind EM.cutW fun o => onSome o (fun y => EM.turn (xs[q.2]? = some y) (fun σ => (σ.set q.1 (.wl w.1 (w.2 + 1))).set i (.enum q.1 (q.2 + 1))) (some (.tup [.int q.2, y]))) (EM.turn (xs[q.2]? = none) (fun σ => σ.set q.1 .any) none)
noncomputable def eNextIt (target : Expr) (i : Nat) : EM (Option AV) := EM.bind (EM.cellAs asLiter i) fun q => EM.bind (EM.chk (simpleTarget target || isTup target)) fun _ => eStepL i q.1 q.2
noncomputable def eNextOwn (target : Expr) (it : AV) : EM (Option AV) := onRef it (fun i => EM.or (eNextRit target i) (EM.or (eNextEn target i) (eNextIt target i))) EM.fail
noncomputable def eComp (K : Frag) (r : Rec) (ae : AEnv) (elt target : Expr) (it acc : AV) : EM AFlow := EM.bind (eNextOwn target it) fun o => onSome o (fun v => EM.bind (eAssign K r ae v target) fun _ => EM.bind (EM.bind (r.ev ae elt) fun x => eAppend [acc, x]) fun _ => r.comp ae elt target it acc) (EM.ret .next)
noncomputable def eTidy (N : Nat) : EM Unit := EM.bind (EM.word some) fun w => onWNorm w (EM.st fun σ => EM.turn (∀ p ∈ (σ.cut N).objs, UndC N p.2) (fun σ => σ.cut N) ()) <| onWKeep w (EM.ret ()) EM.fail
noncomputable def eForL (K : Frag) (r : Rec) (ae : AEnv) (target : Expr) (it : AV) (body : List Stmt) : EM AFlow := EM.st fun σ => EM.bind (eNextOwn target it) fun o => onSome o (fun v => EM.bind (EM.bind (eAssign K r ae v target) fun _ => r.exs ae body) fun fl =>
  onFl fl (EM.bind (eTidy σ.n) fun _ => r.forl ae target it body) (fun v => EM.ret (.ret v)) EM.fail) (EM.ret .next)
section
variable {X : Ctx} {A : Around} {ρ : Rho} {F : Fz} {σ : St} {s : Shared} {Γ : Kn} {r : Rec} {n : Nat} {ae : AEnv} {env : Env}
theorem Sim.pyIter {av : AV} {v : Value} (hv : Γ.le (RDen av v)) : Sim X A Γ RDen (eIterOf av) (pyIter v) := by
  refine Sim.ofRun fun σ ρ F s I g => ?_
  refine onRef_ind (P := fun y av => Den σ.n ρ F av v → RunAt σ y fun b σ' => Goes X A ρ F σ s (PySem.pyIter v) (RDen b) σ') (fun i d => ?_) (fun _ => RunAt.fail) (hv _ _ _ g)
  rw [(den_ref d).1]
  refine RunAt.cell fun c => onCRng_ind (P := fun y c => σ.get i = some c → RunAt σ y fun b σ' => Goes X A ρ F σ s (PySem.pyIter (.ref (ρ i))) (RDen b) σ') (fun a b c hx => RunAt.cond fun h => RunAt.push (RunAt.ret ?_)) <|
    onCEnum_ind (P := fun y c => σ.get i = some c → RunAt σ y fun b σ' => Goes X A ρ F σ s (PySem.pyIter (.ref (ρ i))) (RDen b) σ') (fun it k hx => RunAt.ret ((I.atEn hx).elim fun old he => Goes.same I fun Q E hQ => wpAny_pyIter_enum he.1 (hQ _ ⟨rfl, d.2⟩))) <|
    onCList_ind (P := fun y c => σ.get i = some c → RunAt σ y fun b σ' => Goes X A ρ F σ s (PySem.pyIter (.ref (ρ i))) (RDen b) σ') (fun xs hx => RunAt.push (RunAt.ret ((I.atL hx).elim fun ws q => q.elim fun k q => Goes.to fun Q E hQ => wpAny_pyIter_list (items := ws.toArray) ⟨_, q.1, rfl, k, rfl⟩ (pushIter I (I.lt hx) hQ)))) fun _ => RunAt.fail
  refine (I.atRng hx).elim fun t q => q.elim fun u q => q.elim fun v hr => ?_
  rw [h.1] at hr
  exact Goes.to fun Q E hQ => wpAny_pyIter_range hr (small_one h.2.1 h.2.2.1 h.2.2.2.1 h.2.2.2.2) (hQ _ _ _ F (Den.fresh ρ F σ _ _) (I.push (a := s.heap.objs.size) (c := .rit a (if a < b then b - a else 0) 1) (h' := s.heap.push { cls := .type "range_iterator", data := .fields #[rawInt a, rawInt (Builtin.Range.rangeSize a b 1), rawInt 1] }) (Heap.get?_none_of_le (Nat.le_refl _)) (fun b o e => Heap.get?_push_of_some _ e)
    ⟨_, Heap.get?_push_size _ rfl, by rw [rangeSize_one]; rfl⟩ s.toks))
theorem Sim.dropV {e : Expr} {p : Pos} {v : Value} : Sim X A Γ RFlow (EM.ret .next) (dropValue e p v) := Sim.ofRun fun σ ρ F s I g => RunAt.ret (Goes.same I fun Q E hQ => wpAny_dropValue (hQ _ rfl))
theorem Sim.assign1 (S : Sound X r n) (hA : Room X A n) (t value : Expr) (p : Pos) : SimS X A ae env (eAssign1 X.K r ae t value) (.Assign [t] value p) := Sim.chk fun hc => by
  rw [Bool.and_eq_true] at hc
  rw [exec_simple hc.1 hc.2]
  exact Sim.standAt (Sim.bind (S.ev A hA ae env value) fun a v => Sim.bind (Sim.assign S hA t (Kn.fst (Kn.le_refl _)) (Kn.snd (Kn.le_refl _))) fun _ _ => Sim.ret fun _ _ _ _ => rfl)
noncomputable def augTree (o i : Expr) (sp : Pos) (op : Operator) (value : Expr) (p : Pos) (env : Env) : Sem Flow := PySem.standAt p >>= fun _ => eval o env >>= fun ov => PySem.holding [ov] (eval i env) >>= fun iv =>
  PySem.holding [ov, iv] (PySem.standAt sp >>= fun _ => PySem.getItem ov iv >>= fun old => PySem.holding [old] (eval value env) >>= fun v => PySem.standAt p >>= fun _ => PySem.operate [old, v] (PySem.inplaceOp op old v)) >>= fun nw =>
  PySem.standAt sp >>= fun _ => PySem.holding [nw, ov, iv] (PySem.setItem ov iv nw) >>= fun _ => release [nw, ov, iv] [] >>= fun _ => pure .next
theorem Sim.released {l m : List Value} : Sim X A Γ RFlow (EM.ret .next) (release l m >>= fun _ => Pure.pure .next) := Sim.ofRun fun σ ρ F s I g => RunAt.ret (Goes.same I fun Q E hQ => wpAny_bind (wpAny_release (wpAny_pure (hQ _ rfl))))
theorem Sim.augS (S : Sound X r n) (hA : Room X A n) (o i : Expr) (sp : Pos) (op : Operator) (value : Expr) (p : Pos) : SimS X A ae env (eAugS r ae o i op value) (.AugAssign (.Subscript o i sp) op value p) := Sim.chk fun hs => by
  refine Sim.eq (t' := augTree o i sp op value p env) (plainE_ind (P := fun i => exec (.AugAssign (.Subscript o i sp) op value p) env = augTree o i sp op value p env) (fun _ _ _ => rfl) (fun _ _ => rfl) (fun _ _ _ => rfl) (fun _ _ _ => rfl) (fun _ _ _ _ => rfl) (fun _ _ _ _ => rfl) (fun _ _ _ => rfl) (fun _ _ _ _ => rfl) (fun _ _ _ _ => rfl) (fun _ _ => rfl) (fun _ _ _ => rfl) hs) ?_
  refine Sim.standAt (Sim.bind (S.ev A hA ae env o) fun a av => Sim.bind (Sim.holding ((S.ev A hA ae env i).weaken (Kn.fst (Kn.le_refl _)))) fun b bv => Sim.bind (R := RDen) (Sim.holding (Sim.standAt (Sim.bind (Sim.getItem (Kn.fst (Kn.snd (Kn.le_refl _))) (Kn.snd (Kn.le_refl _))) fun old oldv => ?_))) fun nw nv => Sim.standAt ?_)
  · exact Sim.bind (Sim.holding ((S.ev A hA ae env value).weaken (Kn.fst (Kn.fst (Kn.fst (Kn.le_refl _)))))) fun w wv => Sim.standAt (Sim.operate (Sim.inp (Kn.fst (Kn.snd (Kn.le_refl _))) (Kn.snd (Kn.le_refl _))))
  · exact Sim.bind (Sim.holding ((Sim.setItem (Kn.fst (Kn.fst (Kn.snd (Kn.le_refl _)))) (Kn.fst (Kn.snd (Kn.le_refl _))) (Kn.snd (Kn.le_refl _))))) fun _ _ => Sim.released
theorem Sim.runs {x : EM AFlow} {c : Code} (h : CSim X A Γ x c) : Sim X A Γ RFlow x (runOwn c env) := fun ev b ev' cs e hc ρ F s I g Q E hQ => wpAny_runOwn (h := none) (by rw [Around.mark_none]; exact h ev b ev' cs e hc ρ F s I g _ fun f s' ρ' F' a b c => hQ f s' ρ' F' a b c)
theorem Sim.forS (S : Sound X r n) (hA : Room X A n) (target iter : Expr) (body : List Stmt) (p : Pos) : SimS X A ae env (eForS r ae target iter body) (.For target iter body [] p) := Sim.chk fun hs => by
  rw [exec_For]
  refine Sim.standAt (Sim.bind (S.ev A hA ae env iter) fun a v => ?_)
  rw [notSet_folds hs]
  exact Sim.eq (pure_bind _ _) (Sim.standAt (Sim.bind (Sim.holding (Sim.pyIter (Kn.snd (Kn.le_refl _)))) fun it itv => (Sim.runs (S.forl A hA ae env target it itv body)).weaken fun _ _ _ g => ⟨g.1.1, g.2⟩))
theorem Sim.exprS (S : Sound X r n) (hA : Room X A n) (e : Expr) (p : Pos) : SimS X A ae env (eExprS r ae e) (.Expr e p) := Sim.chk fun hn => by
  refine Sim.know (P := interactive env = false) (fun _ _ _ g => by unfold interactive; rw [EnvOk.sc g, EnvOk.fn g]; rfl) fun hi => ?_
  rw [exec_Expr env e p hi (plainE_ind (P := fun e => swapsWith e none p.line env = pure false) (fun _ _ _ => rfl) (fun _ _ => rfl) (fun _ _ _ => rfl) (fun _ _ _ => rfl) (fun _ _ _ _ => rfl) (fun _ _ _ _ => rfl) (fun _ _ _ => rfl) (fun _ _ _ _ => rfl) (fun _ _ _ _ => rfl) (fun _ _ => rfl) (fun _ _ _ => rfl) hn)]
  exact Sim.standAt (Sim.bind (S.ev A hA ae env e) fun a v => Sim.dropV)
noncomputable def TPost (X : Ctx) (A : Around) (R : Result → Shared → Prop) (fin : Fin) (s' : Shared) : Prop := match fin with
  | .done f => R (.ok f) s'
  | .again c' => c'.quiet = true ∧ codeAny (model X.prog X.w) A c' R s'
noncomputable def TSim (X : Ctx) (A : Around) (Γ : Kn) (x : EM AFlow) (t : Sem Fin) : Prop := ∀ ev b ev' cs, x ev = some (b, ev', cs) → All cs → ∀ ρ F s, Inv X ρ F ev.1 s → Γ.p ev.1.n ρ F → ∀ (R : Result → Shared → Prop) (E : Value → Shared → Prop),
  (∀ f s' ρ' F', (RFlow b f).p ev'.1.n ρ' F' → Inv X ρ' F' ev'.1 s' → Stp ρ F ev.1 s ρ' F' ev'.1 s' → R (.ok f) s') → wpAny (model X.prog X.w) A t (TPost X A R) E s
theorem TSim.bind {α β : Type} {x : EM β} {f : β → EM AFlow} {t : Sem α} {k : α → Sem Fin} {R : β → α → Kn} (h : Sim X A Γ R x t) (hk : ∀ b v, TSim X A (Γ.and (R b v)) (f b) (k v)) : TSim X A Γ (EM.bind x f) (t >>= k) :=
  fun ev c ev'' cs e hc ρ F s I g R' E hR => EM.bind_use e hc fun b ev' cs₁ cs₂ e₁ e₂ h1 h2 => wpAny_bind (h _ _ _ _ e₁ h1 ρ F s I g _ E fun v s₁ ρ₁ F₁ hr I₁ st => hk b v _ _ _ _ e₂ h2 ρ₁ F₁ s₁ I₁ ⟨Γ.mono st.le st.same st.sub g, hr⟩ R' E fun f s' ρ' F' a b c => hR f s' ρ' F' a b (st.trans c))
theorem TSim.done {b : AFlow} {f : Flow} (h : Γ.le (RFlow b f)) : TSim X A Γ (EM.ret b) (Pure.pure (.done f)) := fun ev c ev'' cs e hc ρ F s I g R' E hR => RunAt.ret (C := fun b' σ' => (∀ f s' ρ' F', (RFlow b' f).p σ'.n ρ' F' → Inv X ρ' F' σ' s' → Stp ρ F ev.1 s ρ' F' σ' s' → R' (.ok f) s') → R' (.ok f) s) (fun hR => hR f s ρ F (h _ _ _ g) I (Stp.refl ρ F I.ids)) ev.2 c ev'' cs e hc hR |> wpAny_pure
theorem TSim.again {x : EM AFlow} {c : Code} (h : CSim X A Γ x c) (hq : c.quiet = true) : TSim X A Γ x (PySem.again c) := fun ev b ev' cs e hc ρ F s I g R E hR => wpAny_pure ⟨hq, h ev b ev' cs e hc ρ F s I g R hR⟩
theorem TSim.weaken {Γ' : Kn} {x : EM AFlow} {t : Sem Fin} (h : TSim X A Γ x t) (hg : Γ'.le Γ) : TSim X A Γ' x t := fun ev b ev' cs e hc ρ F s I g => h ev b ev' cs e hc ρ F s I (hg _ _ _ g)
theorem TSim.know {P : Prop} {x : EM AFlow} {t : Sem Fin} (h : Γ.le (Kn.is P)) (hk : P → TSim X A Γ x t) : TSim X A Γ x t := fun ev b ev' cs e hc ρ F s I g => hk (h _ _ _ g) ev b ev' cs e hc ρ F s I g
theorem TSim.fail {t : Sem Fin} : TSim X A Γ EM.fail t := fun _ _ _ _ e => noneOf e
theorem TSim.dec {b₀ : Bool} {f : Bool → EM AFlow} {t : Sem Fin} (hk : TSim X A Γ (f b₀) t) : TSim X A Γ (EM.bind (EM.dec b₀) f) t := fun ev b ev' cs e hc ρ F s I g => RunAt.stay (RunAt.dec0 (σ := ev.1) (b := b₀)) (f := f) (D := fun b σ' => ∀ (R : Result → Shared → Prop) (E : Value → Shared → Prop),
  (∀ f s' ρ' F', (RFlow b f).p σ'.n ρ' F' → Inv X ρ' F' σ' s' → Stp ρ F ev.1 s ρ' F' σ' s' → R (.ok f) s') → wpAny (model X.prog X.w) A t (TPost X A R) E s) (fun b' h ds c ev' cs e hc => hk (ev.1, ds) c ev' cs (h ▸ e) hc ρ F s I g) ev.2 b ev' cs e hc
theorem TSim.br {x : EM Bool} {y z : EM AFlow} {t : Sem Bool} {k : Bool → Sem Fin} (hx : Sim X A Γ REq x t) (hy : TSim X A Γ y (k true)) (hz : TSim X A Γ z (k false)) : TSim X A Γ (eBr x y z) (t >>= k) :=
  TSim.bind hx fun b c => TSim.know (P := b = c) (Kn.snd (Kn.le_refl _)) fun h => TSim.dec (by
    rw [← h]
    cases b
    · exact hz.weaken (Kn.fst (Kn.le_refl _))
    · exact hy.weaken (Kn.fst (Kn.le_refl _)))
theorem TSim.standAt {p : Pos} {x : EM AFlow} {k : Unit → Sem Fin} (h : TSim X A Γ x (k ())) : TSim X A Γ x (PySem.standAt p >>= k) := fun ev b ev' cs e hc ρ F s I g R E hR => wpAny_bind (wpAny_standAt (h ev b ev' cs e hc ρ F s I g R E hR))
theorem CSim.turn {x : EM AFlow} {t : Sem Fin} {c : Code} (hA : A.under c = A) (hc : (model X.prog X.w).den c = t.onRaise (fun x => do noteFrame x env; theTreesLotGoes x)) (h : TSim X A Γ x t) : CSim X A Γ x c := fun ev b ev' cs e hcs ρ F s I g R hR => by
  refine codeAny_of_tree ?_
  rw [hA, hc]
  exact wpAny_noted (h ev b ev' cs e hcs ρ F s I g R _ hR)
theorem Sim.loop (S : Sound X r n) (hA : Room X A n) (test : Expr) (body : List Stmt) : CSim X A (EnvK X ae env) (eLoop r ae test body) (.whileLoop test body [] env) := by
  refine CSim.turn (env := env) (t := whileTurn test body [] env) rfl rfl ?_
  refine TSim.br (k := fun b => if b = true then execs body env >>= fun fl => (match fl with
    | .next | .cont => PySem.again (.whileLoop test body [] env)
    | .brk => pure (.done .next)
    | .ret v => pure (.done (.ret v))) else execs [] env >>= fun f => pure (.done f)) (S.tst A hA ae env test) ?_ ?_
  · refine TSim.bind (S.exs A hA ae env body) fun fl f => ?_
    cases fl with
    | next => exact TSim.know (P := f = .next) (Kn.snd (Kn.le_refl _)) fun h => by rw [h]; exact (TSim.again (S.loop A hA ae env test body) rfl).weaken (Kn.fst (Kn.le_refl _))
    | ret v =>
      intro ev b ev' cs e hc ρ F s I g
      refine (show ∃ w, f = .ret w ∧ Den _ _ _ v w from g.2).elim fun w q => ?_
      rw [q.1]
      exact TSim.done (Γ := RFlow (.ret v) (.ret w)) (Kn.le_refl _) ev b ev' cs e hc ρ F s I ⟨w, rfl, q.2⟩
    | _ => exact TSim.fail
  · exact fun ev b ev' cs e hc ρ F s I g R E hR => wpAny_bind (wpAny_execs_nil (TSim.done (Γ := EnvK X ae env) (b := .next) (f := .next) (fun _ _ _ _ => rfl) ev b ev' cs e hc ρ F s I g R E hR))
theorem go_simple {target : Expr} {v w : Value} : simpleTarget target = true → letOwnedTupleGo target v w = pure () := simple_ind (P := fun t => letOwnedTupleGo t v w = pure ()) (fun _ _ => rfl) (fun _ _ _ => rfl) fun _ _ _ => rfl
theorem ownedGo {elts : List Expr} {c : Nat} {p : Pos} {i : Addr} {l : Value} {k : Int} {v : Value} {M : Model} {E : Value → Shared → Prop} {Q : Unit → Shared → Prop} (ho : s.heap.get? i = some (oIter l k)) (h : Q () s) : wpAny M A (letOwnedTupleGo (.Tuple elts c p) (.ref i) v) Q E s := by
  cases v with
  | ref a =>
    refine wpAny_bind (wpAny_load ho ?_)
    show wpAny M A (if (["enumerate", "zip", "dict_itemiterator", "dict_reverseitemiterator", "odict_iterator", "itertools.zip_longest", "itertools.pairwise"].contains "list_iterator" && _) = true then _ else _) Q E s
    rw [show (["enumerate", "zip", "dict_itemiterator", "dict_reverseitemiterator", "odict_iterator", "itertools.zip_longest", "itertools.pairwise"].contains "list_iterator") = false by decide, Bool.false_and, if_neg (by decide)]
    exact wpAny_pure h
  | _ => exact wpAny_pure h
noncomputable def nextBy (t : Sem (Option Value)) (target : Expr) (v : Value) : Sem (Option Value) := t >>= fun o => onSome o (fun w => letOwnedTupleGo target v w >>= fun _ => pure (some w)) (pure none)
theorem nextBy_eq {γ : Type} {t : Sem (Option Value)} {target : Expr} {v : Value} (K0 : Sem γ) (K : Value → Sem γ) : (t >>= fun o => match o with | none => K0 | some w => letOwnedTupleGo target v w >>= fun _ => K w) = nextBy t target v >>= fun o => onSome o K K0 := by
  unfold nextBy
  rw [bind_assoc]
  refine bind_congr fun o => ?_
  cases o with
  | none => exact (pure_bind _ _).symm
  | some w =>
    show _ = (letOwnedTupleGo target v w >>= fun _ => pure (some w)) >>= fun o => onSome o K K0
    rw [bind_assoc]
    exact bind_congr fun _ => (pure_bind _ _).symm
noncomputable def Alike {α : Type} (X : Ctx) (A : Around) (t t' : Sem α) : Prop := ∀ (Q : α → Shared → Prop) (s : Shared), (∀ E, wpAny (model X.prog X.w) A t Q E s) → ∀ E, wpAny (model X.prog X.w) A t' Q E s
theorem nextBy_of {t : Sem (Option Value)} {target : Expr} {v : Value} {o : Option AV} {σ' : St} (ht : Alike X A (pyNext v) t) (h : Goes X A ρ F σ s (pyNext v) (ROpt o) σ')
    (hgo : ∀ w s₁ ρ₁ F₁, o ≠ none → Inv X ρ₁ F₁ σ' s₁ → Stp ρ F σ s ρ₁ F₁ σ' s₁ → ∀ Q E, Q () s₁ → wpAny (model X.prog X.w) A (letOwnedTupleGo target v w) Q E s₁) : Goes X A ρ F σ s (nextBy t target v) (ROpt o) σ' := fun Q E hQ => wpAny_bind (ht _ _ (fun E => h _ E fun ov s₁ ρ₁ F₁ d I₁ st₁ => by
  cases o with
  | none => rw [show ov = none from d]; exact wpAny_pure (hQ none s₁ ρ₁ F₁ rfl I₁ st₁)
  | some av => exact (show ∃ w, ov = some w ∧ Den σ'.n ρ₁ F₁ av w from d).elim fun w q => q.1 ▸ wpAny_bind (hgo w s₁ ρ₁ F₁ (fun h => nomatch h) I₁ st₁ _ _ (wpAny_pure (hQ (some w) s₁ ρ₁ F₁ ⟨w, rfl, q.2⟩ I₁ st₁)))) E)
section
variable {prog : Program} {w : World} {E : Value → Shared → Prop}
theorem rangeEnd {it : Addr} {x left step : Int} {Q : Option Value → Shared → Prop} (hh : A.handled = none) (hit : IsRangeIter s.heap it x left step) (hleft : left ≤ 0) (hQ : ∀ h', (∀ b o, s.heap.get? b = some o → h'.get? b = some o) → Q none { s with heap := h' }) : wpAny (model prog w) A (pyNext (.ref it)) Q E s := by
  have hT : s.TypeIs (.ref it) "range_iterator" := ⟨_, hit, rfl⟩
  unfold PySem.pyNext
  refine wpAny_bind (wpAny_attempt (wpAny_callSpecial?_slot (name := Str.ofString "__next__") hT F.slot_range_iterator_next
    (wpAny_call_entry F.slot_range_iterator_next hT F.entry_range_iterator_next ?_ (F.args_range_iterator_next_1 _))))
  show wpAny _ _ (field (.ref it) 0 >>= _) _ _ s
  refine wpAny_bind (wpAny_field hit rfl (x := rawInt x) rfl ?_)
  show wpAny _ _ (field (.ref it) 1 >>= _) _ _ s
  refine wpAny_bind (wpAny_field hit rfl (x := rawInt left) rfl ?_)
  show wpAny _ _ (field (.ref it) 2 >>= _) _ _ s
  refine wpAny_bind (wpAny_field hit rfl (x := rawInt step) rfl ?_)
  show wpAny _ _ (if left ≤ 0 then _ else _) _ _ s
  rw [if_pos hleft]
  refine wpAny_bind (wpAny_rule ?_)
  refine wpAny_bind (m := SmallTypes.stopIteration) (stop_raised (A := A.in1) hh fun e h' hk hT => ?_)
  refine wpAny_bind (wpAny_isInstance (T := "StopIteration") (b := true) hT isSubtype_stop ?_)
  exact wpAny_pure (hQ _ hk)
theorem enumEnd {e it l : Addr} {i j : Nat} {items : List Value} {old : Value} {Q : Option Value → Shared → Prop} (hh : A.handled = none) (he : IsEnum s.heap e it j old) (hit : s.heap.IsListIter it l i) {k : Nat} (hl : s.heap.get? l = some (oList items k)) (hx : items[i]? = none) (hQ : ∀ h', (∃ o, h'.get? it = some o) → Heap.ExtBut it s.heap h' → Q none { s with heap := h' }) : wpAny (model prog w) A (pyNext (.ref e)) Q E s := by
  have hT : s.TypeIs (.ref e) "enumerate" := ⟨_, he, rfl⟩
  refine hit.elim fun o h => ?_
  unfold PySem.pyNext
  refine wpAny_bind (wpAny_attempt (wpAny_callSpecial?_slot (name := Str.ofString "__next__") hT F.slot_enumerate_next
    (wpAny_call_entry F.slot_enumerate_next hT F.entry_enumerate_next ?_ (F.args_enumerate_next_1 _))))
  show wpAny _ _ (field (.ref e) 2 >>= _) _ _ _
  refine wpAny_bind (wpAny_field he rfl (x := .ref it) rfl (wpAny_bind ?_))
  unfold Builtin.SmallTypes.nextOf
  refine wpAny_bind (wpAny_callSpecial?_slot (name := Str.ofString "__next__") hit.typeIs slot_listiter_next (wpAny_call_entry slot_listiter_next hit.typeIs entry_listiter_next ?_ (args_listiter_next _)))
  show wpAny _ _ (field (.ref it) 0 >>= _) _ _ s
  refine wpAny_bind (wpAny_field h.1 h.2.2 (x := .ref l) rfl ?_)
  rw [if_neg (show ¬ ((Value.ref l == Value.none) = true) from Bool.false_ne_true)]
  refine wpAny_bind (m := field (.ref it) 1) (wpAny_field h.1 h.2.2 (x := .int i 0) rfl ?_)
  dsimp only
  refine wpAny_bind (wpAny_seqItems hl rfl ?_)
  dsimp only
  simp only [Int.toNat_natCast, List.getElem?_toArray, hx]
  refine wpAny_bind (wpAny_rule (wpAny_bind (wpAny_setField h.1 h.2.2 (by simp) ?_)))
  have h1 := Heap.get?_update_self (Obj.mapFields (·.setIfInBounds 0 Value.none)) h.1 (Obj.isFreed_of_fields (Obj.data_mapFields h.2.2 _))
  refine stop_raised (A := A.in1.in1) hh fun e h' hk hT => ?_
  refine wpAny_bind (wpAny_isInstance (T := "StopIteration") (b := true) hT isSubtype_stop ?_)
  exact wpAny_pure (hQ _ ⟨_, hk _ _ h1⟩ fun b o hb e => hk _ _ ((Heap.SameBut.update ..).extBut b o hb e))
end
theorem St.set_old {i j : Nat} {c c₀ d : Cell} (hi : σ.get i = some c₀) (h : (σ.set i c).get j = some d) : ∃ d', σ.get j = some d' := (St.get_set h).elim (fun q => ⟨c₀, q.1 ▸ hi⟩) fun q => ⟨d, q.2⟩
noncomputable def NextAt (X : Ctx) (A : Around) (target : Expr) (i : Nat) (σ : St) (o : Option AV) (σ' : St) : Prop := ∀ t ρ F s, Alike X A (pyNext (.ref (ρ i))) t → Inv X ρ F σ s → Goes X A ρ F σ s (nextBy t target (.ref (ρ i))) (ROpt o) σ'
theorem next_rit (hA : A.handled = none) (target : Expr) (i : Nat) : RunAt σ (eNextRit target i) (NextAt X A target i σ) := RunAt.cellAs asRit_some fun q hx => RunAt.chk fun ht => RunAt.cutW fun o => by
  cases o with
  | some y => exact RunAt.turn fun hl t ρ F s h I => nextBy_of h (Goes.to fun Q E hQ => wpAny_pyNext_range_item (I.atRit hx) hl fun h' hit' hs => hQ _ _ ρ F ⟨_, rfl, _, rfl⟩ (I.set hx hs.extBut (c' := .rit (q.1 + q.2.2) (q.2.1 - 1) q.2.2) ⟨_, hit', rfl⟩ (s.toks + 1))) fun w s₁ ρ₁ F₁ _ _ _ Q E hQ => by rw [go_simple ht]; exact wpAny_pure hQ
  | none => exact RunAt.retIf fun hl t ρ F s h I => nextBy_of h (Goes.to fun Q E hQ => rangeEnd hA (I.atRit hx) hl fun h' hk => hQ _ _ ρ F rfl (I.grow hk s.toks)) fun w s₁ ρ₁ F₁ hn => absurd rfl hn
theorem stepL_at {i l k : Nat} (hx : σ.get i = some (.liter l k)) : RunAt σ (eStepL i l k) fun o σ' => o ≠ none → ∃ k', σ'.get i = some (.liter l k') := RunAt.cellAs asList_some fun xs h => RunAt.cutW fun o => by
  cases o with
  | some y => exact RunAt.turn fun _ _ => ⟨_, St.get_set_self _ hx⟩
  | none => exact RunAt.turn fun _ hn => absurd rfl hn
theorem next_it (hA : A.handled = none) (target : Expr) (i : Nat) : RunAt σ (eNextIt target i) (NextAt X A target i σ) := RunAt.cellAs asLiter_some fun q hx => RunAt.chk fun ht => fun ds o ev' cs e hc t ρ F s h I => by
  refine nextBy_of h (stepL_ok hA I hx ds o ev' cs e hc) fun w s₁ ρ₁ F₁ hn I₁ st₁ Q E hQ => ?_
  rw [Bool.or_eq_true] at ht
  refine ht.elim (fun ht => by rw [go_simple ht]; exact wpAny_pure hQ) (onTupleE_ind (P := fun b t => b = true → wpAny (model X.prog X.w) A (letOwnedTupleGo t (.ref (ρ i)) w) Q E s₁) (fun elts c p _ => ?_) ff)
  rw [← st₁.same i (I.lt hx)]
  exact (stepL_at hx ds o ev' cs e hc hn).elim fun k hk => ownedGo (I₁.atIt hk).1 hQ
theorem next_en1 {i j l m : Nat} {xs : List AV} {y : AV} {target : Expr} (ht : isTup target = true) (hx : σ.get i = some (.enum j m)) (hj : σ.get j = some (.wl l m)) (hl : σ.get l = some (.list xs)) (hy : xs[m]? = some y) :
    NextAt X A target i σ (some (.tup [.int m, y])) ((σ.set j (.wl l (m + 1))).set i (.enum j (m + 1))) := fun t ρ F s h I Q E hQ => by
  have hij : i ≠ j := fun q => by rw [q] at hx; exact nomatch Option.some.inj (hx.symm.trans hj)
  have hne := I.ne hx hj hij
  refine (I.atEn hx).elim fun old he => (I.atL hl).elim fun ws q => q.elim fun kk q => (q.2.nth hy).elim fun v hv => wpAny_bind (h _ _ (fun E₂ => ?_) E)
  refine wpAny_pyNext_enum_item he.1 (I.atWl hj).1 ⟨_, q.1, rfl, kk, rfl⟩ (x := v) ((List.getElem?_toArray ..).trans hv.1) hne fun h' ho hit' hT hsz hk => ?_
  refine onTupleE_ind (P := fun b t => b = true → wpAny (model X.prog X.w) A (letOwnedTupleGo t (.ref (ρ i)) (.ref s.heap.objs.size) >>= fun _ => pure (some (.ref s.heap.objs.size))) Q E { s with heap := h', toks := s.toks + 1 }) (fun elts c p _ => ?_) ff ht
  refine wpAny_bind (wpAny_letOwnedTupleGo_enum ho fun h'' he'' hs'' => wpAny_pure ?_)
  have hk2 : ∀ b o, b ≠ ρ i → b ≠ ρ j → s.heap.get? b = some o → h''.get? b = some o := fun b o h1 h2 h3 => (hs''.2 b h1).trans (hk b o h1 h2 h3)
  have hit'' : h''.IsListIter (ρ j) (ρ l) (m + 1) := hit'.imp fun o r => ⟨(hs''.2 _ (Ne.symm hne)).trans r.1, r.2⟩
  have r := I.set2 hx hj hij hk2 (c' := .enum j (m + 1)) (d' := .wl l (m + 1)) ⟨_, he'', _, rfl, he.2⟩ (.ofWl hit'' (I.atWl hj).2) (s.toks + 1) rfl rfl
  have hT'' : h''.get? s.heap.objs.size = some (oTup [.int m s.toks, v] 0) := (hs''.2 _ (Nat.ne_of_gt (Heap.lt_size he.1))).trans hT
  have r2 := r.1.freezeOld hT'' fun k c hk => (St.set_old ((St.get_set_ne _ _ hij).trans hx) hk).elim fun c1 h1 => (St.set_old hj h1).elim fun c2 h2 => I.not0 (Heap.get?_none_of_le (Nat.le_refl _)) h2
  exact hQ _ _ ρ _ ⟨_, rfl, .tup _ [.int m, y] [.int m s.toks, v] 0 (if_pos rfl) ⟨⟨_, rfl⟩, hv.2.mono (Nat.le_refl _) (fun _ _ => rfl) r2.2.sub, rfl⟩⟩ r2.1 (r.2.trans r2.2)
theorem next_en (hA : A.handled = none) (target : Expr) (i : Nat) : RunAt σ (eNextEn target i) (NextAt X A target i σ) := RunAt.cellAs asEnum_some fun q hx => RunAt.chk fun ht => RunAt.cellAs asWl_some fun w hj => RunAt.cellAs asList_some fun xs hl => RunAt.chk fun hk => RunAt.cutW fun o => by
  rw [Nat.eq_of_beq_eq_true hk] at hj ⊢
  cases o with
  | some y => exact RunAt.turn fun hy => next_en1 ht hx hj hl hy
  | none => exact RunAt.turn fun hy t ρ F s h I => (I.atEn hx).elim fun old he => (I.atL hl).elim fun ws q => q.elim fun kk q => nextBy_of h (Goes.to fun Q E hQ => enumEnd hA he.1 (I.atWl hj).1 q.1 (q.2.none hy) fun h' hlive hk => hQ _ _ ρ F rfl (I.set hj hk (c' := .any) (hlive.imp fun o h => ⟨h, trivial⟩) s.toks)) fun w s₁ ρ₁ F₁ hn => absurd rfl hn
theorem Sim.walk {t : Sem (Option Value)} {target : Expr} {it : AV} {v : Value} (hA : A.handled = none) (ht : Alike X A (pyNext v) t) (hv : Γ.le (RDen it v)) : Sim X A Γ ROpt (eNextOwn target it) (nextBy t target v) := Sim.ofRun fun σ ρ F s I g =>
  onRef_ind (P := fun y it => Den σ.n ρ F it v → RunAt σ y fun o σ' => Goes X A ρ F σ s (nextBy t target v) (ROpt o) σ') (fun i d => RunAt.mono (C := NextAt X A target i σ) (RunAt.or (next_rit hA target i) (RunAt.or (next_en hA target i) (next_it hA target i))) fun o σ' h => (den_ref d).1 ▸ h t ρ F s ((den_ref d).1 ▸ ht) I) (fun _ => RunAt.fail) (hv _ _ _ g)
theorem tidy_ok {N : Nat} : RunAt σ (eTidy N) fun _ σ' => ∀ (ρ₀ : Rho) (F₀ : Fz) (σ₀ : St) (s₀ : Shared) (ρ : Rho) (F : Fz) (s : Shared), Inv X ρ F σ s → Stp ρ₀ F₀ σ₀ s₀ ρ F σ s → σ₀.n ≤ N → (∀ e ∈ X.fr, e.2 < N) → Inv X ρ F σ' s ∧ Stp ρ₀ F₀ σ₀ s₀ ρ F σ' s := RunAt.word fun w =>
  onWNorm_ind (P := fun y _ => RunAt σ y fun _ σ' => ∀ (ρ₀ : Rho) (F₀ : Fz) (σ₀ : St) (s₀ : Shared) (ρ : Rho) (F : Fz) (s : Shared), Inv X ρ F σ s → Stp ρ₀ F₀ σ₀ s₀ ρ F σ s → σ₀.n ≤ N → (∀ e ∈ X.fr, e.2 < N) → Inv X ρ F σ' s ∧ Stp ρ₀ F₀ σ₀ s₀ ρ F σ' s) (RunAt.st (RunAt.turn fun h ρ₀ F₀ σ₀ s₀ ρ F s I st hN hfr => ⟨I.cut (fun _ _ => rfl) h hfr, st.cut hN⟩)) <|
  onWKeep_ind (P := fun y _ => RunAt σ y fun _ σ' => ∀ (ρ₀ : Rho) (F₀ : Fz) (σ₀ : St) (s₀ : Shared) (ρ : Rho) (F : Fz) (s : Shared), Inv X ρ F σ s → Stp ρ₀ F₀ σ₀ s₀ ρ F σ s → σ₀.n ≤ N → (∀ e ∈ X.fr, e.2 < N) → Inv X ρ F σ' s ∧ Stp ρ₀ F₀ σ₀ s₀ ρ F σ' s) (RunAt.ret fun _ _ _ _ _ _ _ I st _ _ => ⟨I, st⟩) RunAt.fail
section
variable (target : Expr) (v : Value) (body : List Stmt) (env : Env)
noncomputable def forTree : Sem Fin := PySem.standAt target.pos >>= fun _ => nextBy ((pyNext v).onRaise (fun _ => PySem.standAt { target.pos with line := 0 })) target v >>= fun o => onSome o (fun w => (assign target env w >>= fun _ => execs body env) >>= fun fl => (match fl with
  | .next | .cont => PySem.again (.forLoop target v body [] env)
  | .brk => pure (.done .next)
  | .ret v => pure (.done (.ret v)))) (PySem.again (.block [] env))
theorem forTree_eq : forTurn target v body [] env = forTree target v body env := bind_congr fun _ => (nextBy_eq (PySem.again (.block [] env)) fun w => assign target env w >>= fun _ => execs body env >>= fun fl => (match fl with
  | .next | .cont => PySem.again (.forLoop target v body [] env)
  | .brk => pure (.done .next)
  | .ret v => pure (.done (.ret v)))).trans (bind_congr fun o => congrArg (fun K => onSome o K (PySem.again (.block [] env))) (funext fun w => (bind_assoc _ _ _).symm))
end
theorem Sim.forl (S : Sound X r n) (hA : Room X A n) (target : Expr) (it : AV) (itv : Value) (body : List Stmt) : CSim X A ((EnvK X ae env).and (RDen it itv)) (eForL X.K r ae target it body) (.forLoop target itv body [] env) := by
  refine CSim.turn (env := env) (t := forTurn target itv body [] env) rfl rfl ?_
  rw [forTree_eq]
  refine TSim.standAt ?_
  intro ev b ev' cs e hc ρ F s I g R E hR
  refine EM.bind_use (x := eNextOwn target it) (f := fun o => onSome o (fun v => EM.bind (EM.bind (eAssign X.K r ae v target) fun _ => r.exs ae body) fun fl => onFl fl (EM.bind (eTidy ev.1.n) fun _ => r.forl ae target it body) (fun v => EM.ret (.ret v)) EM.fail) (EM.ret .next)) e hc fun o ev₁ cs₁ cs₂ e₁ e5 c1 c2 => ?_
  refine wpAny_bind (Sim.walk (Γ := (EnvK X ae env).and (RDen it itv)) hA.2.2.1 (fun Q s h E => wpAny_onRaise (h _)) (Kn.snd (Kn.le_refl _)) _ _ _ _ e₁ c1 ρ F s I g _ E fun ov s₁ ρ₁ F₁ d I₁ st₁ => ?_)
  cases o with
  | none =>
    rw [show ov = none from d]
    exact inj3 e5 fun i1 i2 _ => wpAny_pure ⟨rfl, codeAny_block (wpAny_execs_nil (hR .next s₁ ρ₁ F₁ (i1 ▸ rfl) (i2 ▸ I₁) (i2 ▸ st₁)))⟩
  | some av =>
    refine (show ∃ w, ov = some w ∧ Den ev₁.1.n ρ₁ F₁ av w from d).elim fun w q => ?_
    rw [q.1]
    refine EM.bind_use (x := EM.bind (eAssign X.K r ae av target) fun _ => r.exs ae body) (f := fun fl => onFl fl (EM.bind (eTidy ev.1.n) fun _ => r.forl ae target it body) (fun v => EM.ret (.ret v)) EM.fail) e5 c2 fun fl ev₂ cs₃ cs₄ e₂ e6 c3 c4 => ?_
    have one : Sim X A ((EnvK X ae env).and (RDen av w)) RFlow (EM.bind (eAssign X.K r ae av target) fun _ => r.exs ae body) (PySem.assign target env w >>= fun _ => execs body env) :=
      Sim.bind (Sim.assign S hA target (Kn.fst (Kn.le_refl _)) (Kn.snd (Kn.le_refl _))) fun _ _ => (S.exs A hA ae env body).weaken (Kn.fst (Kn.fst (Kn.le_refl _)))
    refine wpAny_bind (one _ _ _ _ e₂ c3 ρ₁ F₁ s₁ I₁ ⟨(EnvK X ae env).mono st₁.le st₁.same st₁.sub g.1, q.2⟩ _ E fun f s₂ ρ₂ F₂ d2 I₂ st₂ => ?_)
    have st := st₁.trans st₂
    cases fl with
    | next =>
      rw [show f = .next from d2]
      refine EM.bind_use (x := eTidy ev.1.n) (f := fun _ => r.forl ae target it body) e6 c4 fun _ ev₃ cs₅ cs₆ e₃ e7 c5 c6 => ?_
      have t := tidy_ok (X := X) ev₂.2 _ _ _ e₃ c5 ρ F ev.1 s ρ₂ F₂ s₂ I₂ st (Nat.le_refl _) I.frlt
      exact wpAny_pure ⟨rfl, S.forl A hA ae env target it itv body _ _ _ _ e7 c6 ρ₂ F₂ s₂ t.1 (((EnvK X ae env).and (RDen it itv)).mono t.2.le t.2.same t.2.sub g) R fun f s' ρ' F' a b c => hR f s' ρ' F' a b (t.2.trans c)⟩
    | ret v => exact (show ∃ w, f = .ret w ∧ Den _ _ _ v w from d2).elim fun w q => q.1 ▸ inj3 e6 fun i1 i2 _ => wpAny_pure (hR (.ret w) s₂ ρ₂ F₂ (i1 ▸ ⟨w, rfl, i2 ▸ q.2⟩) (i2 ▸ I₂) (i2 ▸ st))
    | brk => exact noneOf e6
    | cont => exact noneOf e6
section
variable (elt target iter : Expr) (scope : Scope) (pos : Pos) (v acc : Value) (env : Env)
noncomputable def compTree : Sem Fin := PySem.standAt iter.pos >>= fun _ => nextBy (pyNext v) target v >>= fun o => onSome o (fun w => assign target env w >>= fun _ => (eval elt env >>= fun x => call (.builtin "list.append") [acc, x]) >>= fun _ => PySem.again (.compLoop (.ListComp elt [⟨target, iter, [], 0⟩] scope pos) 0 v acc env)) (pure (.done .next))
theorem compTree_eq : compTurn (.ListComp elt [⟨target, iter, [], 0⟩] scope pos) 0 v acc env = compTree elt target iter scope pos v acc env := by
  rw [compTurn_list1]
  refine bind_congr fun _ => (nextBy_eq _ _).trans (bind_congr fun o => congrArg (fun K => onSome o K (pure (Fin.done .next))) (funext fun w => bind_congr fun _ => ?_))
  rw [bind_assoc, bind_assoc]
  exact bind_congr fun x => (bind_assoc _ _ _).trans (bind_congr fun _ => pure_bind _ _)
end
theorem Sim.comp (S : Sound X r n) (hA : Room X A n) (elt target iter : Expr) (scope : Scope) (pos : Pos) (it : AV) (itv : Value) (acc : AV) (accv : Value) :
    CSim X A ((EnvK X ae env).and ((RDen it itv).and (RDen acc accv))) (eComp X.K r ae elt target it acc) (.compLoop (.ListComp elt [⟨target, iter, [], 0⟩] scope pos) 0 itv accv env) := by
  refine CSim.turn (env := env) (t := compTurn (.ListComp elt [⟨target, iter, [], 0⟩] scope pos) 0 itv accv env) rfl rfl ?_
  rw [compTree_eq]
  refine TSim.standAt (TSim.bind (Sim.walk hA.2.2.1 (fun Q s h => h) (Kn.snd (Kn.fst (Kn.le_refl _)))) fun o ov => ?_)
  cases o with
  | none => exact TSim.know (P := ov = none) (Kn.snd (Kn.le_refl _)) fun h => h ▸ TSim.done fun _ _ _ _ => rfl
  | some av =>
    intro ev b ev' cs e hc ρ F s I g
    refine (show ∃ w, ov = some w ∧ Den _ _ _ av w from g.2).elim fun w q => ?_
    rw [q.1]
    refine TSim.bind (Γ := ((EnvK X ae env).and ((RDen it itv).and (RDen acc accv))).and (RDen av w)) (Sim.assign S hA target (Kn.fst (Kn.fst (Kn.le_refl _))) (Kn.snd (Kn.le_refl _))) (fun _ _ => TSim.bind (R := RDen) (Sim.bind ((S.ev A hA ae env elt).weaken (Kn.fst (Kn.fst (Kn.fst (Kn.le_refl _))))) fun x xv => Sim.append [acc, x] _ [accv, xv] fun _ _ _ g => ⟨g.1.1.1.2.2, g.2, rfl⟩) fun _ _ => (TSim.again (S.comp A hA ae env elt target iter scope pos it itv acc accv) rfl).weaken fun _ _ _ g => g.1.1.1) ev b ev' cs e hc ρ F s I ⟨g.1, q.2⟩
end
noncomputable def compScope (sc : Scope) : Bool := (sc.kind == .function) && ((sc.names.all fun x => !(x.2 == .free) && !(x.2 == .cell)) && (sc.names.all fun x => !(x.2 == .local) || (sc.names.lookup x.1 == some .local)))
structure ScopeOk (sc : Scope) : Prop where
  kind : sc.kind = .function
  free : ∀ x ∈ sc.names, x.2 ≠ .free
  cell : ∀ x ∈ sc.names, x.2 ≠ .cell
  loc : ∀ x ∈ sc.names, x.2 = .local → sc.names.lookup x.1 = some .local
theorem compScope_ok {sc : Scope} (h : compScope sc = true) : ScopeOk sc := by
  rw [compScope, Bool.and_eq_true, Bool.and_eq_true, List.all_eq_true, List.all_eq_true] at h
  refine ⟨eq_of_beq h.1, fun x hx e => ?_, fun x hx e => ?_, fun x hx e => ?_⟩
  · have := h.2.1 x hx
    rw [e] at this
    exact ff this
  · have := h.2.1 x hx
    rw [e] at this
    exact ff this
  · have := h.2.2 x hx
    rw [e] at this
    exact eq_of_beq this
noncomputable def isLit (it : AV) : EM Unit := onRef it (fun i => EM.bind (EM.cellAs asLiter i) fun _ => EM.ret ()) EM.fail
noncomputable def St.del (σ : St) (L : Nat) : St := ⟨σ.n, σ.objs.filter fun p => !(Nat.beq p.1 L)⟩
noncomputable def delCell (L : Nat) : EM Unit := EM.bind (EM.cellAs asNs L) fun _ => EM.upd fun σ => σ.del L
section
variable (r : Rec) (ae : AEnv) (elt target iter : Expr) (sc : Scope)
noncomputable def eComp1 : EM (AV × Nat) := _root_.cond (compScope sc && plainE iter)
  (EM.bind (r.ev ae iter) fun v => EM.bind (eIterOf v) fun it => EM.bind (eNewList []) fun acc => EM.bind (EM.push (.ns [])) fun L => EM.bind (isLit it) fun _ =>
    EM.bind (r.comp ⟨sc, L, [], .none, ae.frm⟩ elt target it acc) fun fl => onFl fl (EM.ret (acc, L)) (fun _ => EM.fail) EM.fail) EM.fail
noncomputable def eListComp : EM AV := EM.bind (eComp1 r ae elt target iter sc) fun p => EM.bind (delCell p.2) fun _ => EM.ret p.1
end
noncomputable def swapB (ae : AEnv) (y : Str) (yp pos : Pos) (sc : Scope) : Bool := (ae.scope.kind == .function) && (ae.scope.names.lookup y == some .local) && (yp.line == pos.line) && !(sc.names.any fun (n, k) => n == y && (k == .local || k == .cell))
noncomputable def eAssignComp (r : Rec) (ae : AEnv) (y : Str) (yp : Pos) (elt target iter : Expr) (sc : Scope) (pos : Pos) : EM AFlow := _root_.cond (swapB ae y yp pos sc)
  (EM.bind (eComp1 r ae elt target iter sc) fun p => EM.bind (eBind ae y p.1) fun _ => EM.bind (delCell p.2) fun _ => EM.ret .next)
  (EM.bind (eListComp r ae elt target iter sc) fun v => EM.bind (eBind ae y v) fun _ => EM.ret .next)
noncomputable def eExecs (one : Stmt → EM AFlow) (ss : List Stmt) : EM AFlow := ss.foldr (fun st k => EM.bind (one st) fun fl => onFl fl k (fun v => EM.ret (.ret v)) EM.fail) (EM.ret .next)
section
variable {X : Ctx} {A : Around} {ρ : Rho} {F : Fz} {σ : St} {s : Shared} {Γ : Kn} {r : Rec} {n : Nat} {ae : AEnv} {env : Env}
theorem del_ne {L i : Nat} {c : Cell} (h : (σ.del L).get i = some c) : i ≠ L ∧ σ.get i = some c := by
  have e : (σ.del L).get i = _ := filter_look (fun i => !(Nat.beq i L)) i σ.objs
  rw [e, beq_dec] at h
  cases q : i == L with
  | true => rw [q] at h; exact noneOf h
  | false => rw [q] at h; exact ⟨ne_of_beq_false q, h⟩
theorem Inv.forget {ρ' : Rho} {F' : Fz} {σ' : St} {s' : Shared} {L : Nat} {c : Cell} (I : Inv X ρ' F' σ' s') (st : Stp ρ F σ s ρ' F' σ' s') (hc : σ'.get L = some c) (hL : σ.n ≤ L) (hfr : ∀ e ∈ X.fr, e.2 < σ.n) {h' : Heap} (hs : Heap.SameBut (ρ' L) s'.heap h') :
    Inv X ρ' F' (σ'.del L) { s' with heap := h' } ∧ Stp ρ F σ s ρ' F' (σ'.del L) { s' with heap := h' } := by
  have hnew : s.heap.get? (ρ' L) = none := (st.new _ _ hc).elim (fun h => absurd h.1 (Nat.not_lt.mpr hL)) fun h => h
  have keep : ∀ b o, b ≠ ρ' L → s'.heap.get? b = some o → h'.get? b = some o := fun b o hb e => (hs.2 b hb).trans e
  have old : ∀ x o, s.heap.get? x = some o → x ≠ ρ' L := fun x o e h => noneOf (hnew.symm.trans (h ▸ e))
  have J := I.filt (ρ' := ρ') (f := fun i => !(Nat.beq i L)) (N := σ'.n) (fun _ _ => rfl) (fun i c _ h => I.ids i c h) (fun _ _ _ _ _ h => h) fun e he => by rw [beq_dec, beq_false_of_ne (Nat.ne_of_lt (Nat.lt_of_lt_of_le (hfr e he) hL))]; rfl
  have st' := st.filt (f := fun i => !(Nat.beq i L)) (N := σ'.n) st.le
  exact ⟨⟨J.ids, J.inj, fun i c h => (J.cell i c h).keep fun o e => keep _ _ (I.ne (del_ne h).2 hc (del_ne h).1) e, J.off, fun a o e => keep _ _ (fun h => I.notF e hc h.symm) (I.froz a o e), J.base, J.drawn, J.os, J.gens, J.frs⟩,
    ⟨st'.le, st'.same, st'.sub, fun x o e hx => keep _ _ (old x o e) (st'.keep x o e hx), fun x o e => (st'.live x o e).imp fun o' e' => keep _ _ (old x o e) e', st'.new, st'.gens⟩⟩
theorem RunAt.all {α β : Type} {x : EM β} {C : α → β → St → Prop} (h : ∀ a, RunAt σ x (C a)) : RunAt σ x fun b σ' => ∀ a, C a b σ' := fun ds b ev' cs e hc a => h a ds b ev' cs e hc
theorem Sim.at {α β : Type} {x : EM β} {t : Sem α} {R : β → α → Kn} (h : Sim X A Γ R x t) : RunAt σ x fun b σ' => ∀ ρ F s, Inv X ρ F σ s → Γ.p σ.n ρ F → Goes X A ρ F σ s t (R b) σ' := fun ds b ev' cs e hc => h (σ, ds) b ev' cs e hc
theorem CSim.at {x : EM AFlow} {c : Code} (h : CSim X A Γ x c) : RunAt σ x fun b σ' => ∀ ρ F s, Inv X ρ F σ s → Γ.p σ.n ρ F → ∀ R : Result → Shared → Prop, (∀ f s' ρ' F', (RFlow b f).p σ'.n ρ' F' → Inv X ρ' F' σ' s' → Stp ρ F σ s ρ' F' σ' s' → R (.ok f) s') → codeAny (model X.prog X.w) A c R s := fun ds b ev' cs e hc => h (σ, ds) b ev' cs e hc
noncomputable def CompW (X : Ctx) (A : Around) (env : Env) (elt target iter : Expr) (sc : Scope) (pos : Pos) (E : Value → Shared → Prop) (R : Value → Env → Result → Shared → Prop) (s : Shared) : Prop :=
  wpAny (model X.prog X.w) A (eval iter env) (fun x s₁ => wpAny (model X.prog X.w) A (PySem.pyIter x) (fun it s₂ => wpAny (model X.prog X.w) A (PySem.newList []) (fun acc s₃ =>
      wpAny (model X.prog X.w) A (newFunctionEnv sc env.globals [] [] env.qual none .none (some env)) (fun cenv s₄ =>
        codeAny (model X.prog X.w) A (.compStart (.ListComp elt [⟨target, iter, [], 0⟩] sc pos) 0 it acc { cenv with scope := sc }) (R acc cenv) s₄) E s₃) E s₂) E s₁) E s
structure Done1 (X : Ctx) (ρ : Rho) (F : Fz) (σ : St) (s : Shared) (p : AV × Nat) (σ' : St) (accv : Value) (cenv : Env) (s' : Shared) (ρ' : Rho) (F' : Fz) : Prop where
  den : Den σ'.n ρ' F' p.1 accv
  inv : Inv X ρ' F' σ' s'
  stp : Stp ρ F σ s ρ' F' σ' s'
  lo : σ.n ≤ p.2
  hi : p.2 < σ'.n
  loc : cenv.locals = ρ' p.2
structure Comp1 (X : Ctx) (A : Around) (ae : AEnv) (env : Env) (elt target iter : Expr) (sc : Scope) (pos : Pos) (σ : St) (p : AV × Nat) (σ' : St) : Prop where
  scope : ScopeOk sc
  it : plainE iter = true
  go : ∀ ρ F s, Inv X ρ F σ s → EnvOk X ae env σ.n ρ → ∀ E R, (∀ accv cenv f s' ρ' F', Done1 X ρ F σ s p σ' accv cenv s' ρ' F' → R accv cenv (.ok f) s') → CompW X A env elt target iter sc pos E R s
theorem isLit_ok {it : AV} : RunAt σ (isLit it) fun _ σ' => σ' = σ ∧ ∃ i l k, it = .ref i ∧ σ.get i = some (.liter l k) :=
  onRef_ind (P := fun y it => RunAt σ y fun _ σ' => σ' = σ ∧ ∃ i l k, it = .ref i ∧ σ.get i = some (.liter l k)) (fun i => RunAt.cellAs asLiter_some fun q h => RunAt.ret ⟨rfl, i, _, _, rfl, h⟩) RunAt.fail
theorem comp1_ok (S : Sound X r n) (hA : Room X A n) (elt target iter : Expr) (sc : Scope) (pos : Pos) : RunAt σ (eComp1 r ae elt target iter sc) (Comp1 X A ae env elt target iter sc pos σ) := by
  refine cond_ind (P := fun x => RunAt σ x (Comp1 X A ae env elt target iter sc pos σ)) (fun hcs => ?_) RunAt.fail
  rw [Bool.and_eq_true] at hcs
  have K := compScope_ok hcs.1
  refine RunAt.bind (Sim.at (S.ev A hA ae env iter)) fun v σ₁ c1 => RunAt.bind (RunAt.all fun vv => Sim.at (X := X) (A := A) (Sim.pyIter (Γ := RDen v vv) (Kn.le_refl _))) fun it σ₂ c2 => RunAt.bind (Sim.at (X := X) (A := A) (Sim.newList (Γ := Kn.top) (xs := []) (vs := []) fun _ _ _ _ => rfl)) fun acc σ₃ c3 => RunAt.push (RunAt.stay isLit_ok fun _ hl => ?_)
  refine hl.elim fun i hl => hl.elim fun l hl => hl.elim fun k hl => ?_
  refine RunAt.bind (RunAt.all fun itv => RunAt.all fun accv => RunAt.all fun cenv => CSim.at (S.comp A hA ⟨sc, σ₃.n, [], .none, ae.frm⟩ cenv elt target iter sc pos it itv acc accv)) fun fl σ₆ c6 => ?_
  cases fl with
  | next =>
    refine RunAt.ret ⟨K, hcs.2, fun ρ F s I g E R hR => ?_⟩
    refine c1 ρ F s I g _ E fun vv s₁ ρ₁ F₁ d1 I₁ st₁ => c2 vv ρ₁ F₁ s₁ I₁ d1 _ E fun itv s₂ ρ₂ F₂ d2 I₂ st₂ => c3 ρ₂ F₂ s₂ I₂ trivial _ E fun accv s₃ ρ₃ F₃ d3 I₃ st₃ => ?_
    refine wpAny_newFunctionEnv K.cell (fun y hy => nomatch hy) (fun h' hn hsb => ?_) K.kind
    have r₄ := I₃.push (a := s₃.heap.objs.size) (c := .ns []) (Heap.get?_none_of_le (Nat.le_refl _)) (fun bb oo ee => hsb.extBut bb oo (Nat.ne_of_lt (Heap.lt_size ee)) (Heap.get?_push_of_some _ ee)) (.ofNs hn fun y av h => noneOf h) (s₃.toks + ([] : List (Str × Value)).length)
    have st := ((st₁.trans st₂).trans st₃).trans r₄.2
    have g' : EnvOk X ae env (σ₃.push (.ns [])).n (ρ₃.put σ₃.n s₃.heap.objs.size) := (EnvK X ae env).mono st.le st.same st.sub g
    have gl : env.globals = mainGlobals := g'.gl
    have bi : env.builtins = builtinsNs := g'.bi
    have fr := g'.fr
    have fl := g'.fl
    have tp := g'.top
    have d3' := Den.step d3 r₄.2
    have d2' := Den.step d2 (st₃.trans r₄.2)
    have gE : EnvOk X ⟨sc, σ₃.n, [], .none, ae.frm⟩ { newEnv sc s₃.heap.objs.size env.globals [] env.qual none .none (some env) env.builtins with scope := sc } (σ₃.push (.ns [])).n (ρ₃.put σ₃.n s₃.heap.objs.size) :=
      ⟨rfl, K.kind, (Rho.put_self _ _ _).symm, Nat.lt_succ_self _, rfl, (fun p hp => nomatch hp), gl, bi, fr, fl, tp, .inl rfl⟩
    have loop := c6 itv accv _ _ _ _ r₄.1 ⟨gE, d2', d3'⟩ (R accv (newEnv sc s₃.heap.objs.size env.globals [] env.qual none .none (some env) env.builtins)) fun f s' ρ' F' hf I₆ st₆ => hR accv _ f s' ρ' F' ⟨Den.step d3' st₆, I₆, st.trans st₆, Nat.le_trans st₁.le (Nat.le_trans st₂.le st₃.le), Nat.lt_of_lt_of_le (Nat.lt_succ_self _) st₆.le, ((st₆.same _ (Nat.lt_succ_self _)).trans (Rho.put_self _ _ _)).symm⟩
    refine codeAny_compStart_list loop ?_
    rw [hl.1] at d2'
    have e2 := (den_ref d2').1
    rw [e2] at loop ⊢
    exact wpAny_pyIter_listiter (l := (ρ₃.put σ₃.n s₃.heap.objs.size) l) (i := k) ⟨_, (r₄.1.atIt hl.2).1, rfl, rfl⟩ loop
  | _ => exact RunAt.fail
theorem RunAt.del {γ : Type} {D : γ → St → Prop} {L : Nat} {f : Unit → EM γ} (h : ∀ m, σ.get L = some (.ns m) → RunAt (σ.del L) (f ()) D) : RunAt σ (EM.bind (delCell L) f) D :=
  RunAt.bind (C := fun _ σ₁ => (∃ m, σ.get L = some (.ns m)) ∧ σ₁ = σ.del L) (RunAt.cellAs asNs_some fun m hm => RunAt.updE ⟨⟨m, hm⟩, rfl⟩) fun _ σ₁ q => q.1.elim fun m hm => q.2 ▸ h m hm
theorem Sim.listComp (S : Sound X r n) (hA : Room X A n) (elt target iter : Expr) (sc : Scope) (pos : Pos) : SimE X A ae env (eListComp r ae elt target iter sc) (.ListComp elt [⟨target, iter, [], 0⟩] sc pos) := Sim.ofRun fun σ ρ F s I g => RunAt.bind (comp1_ok (env := env) S hA elt target iter sc pos) fun p σ₁ c => RunAt.del fun m hm => RunAt.ret fun Q E hQ =>
  wpAny_ListComp c.scope.free c.scope.kind c.scope.loc (c.go ρ F s I g E _ fun accv cenv f s' ρ' F' q => (q.inv.atNs hm).elim fun fn hn => ⟨fn, q.loc ▸ hn.1, fun h' hs => by
    have r := q.inv.forget q.stp hm q.lo I.frlt (q.loc ▸ hs)
    exact hQ accv _ ρ' F' q.den r.1 r.2⟩) (notSet_folds c.it env)
theorem Sim.assignComp (S : Sound X r n) (hA : Room X A n) (y : Str) (yp p : Pos) (elt target iter : Expr) (sc : Scope) (pos : Pos) : SimS X A ae env (eAssignComp r ae y yp elt target iter sc pos) (.Assign [.Name y yp] (.ListComp elt [⟨target, iter, [], 0⟩] sc pos) p) := by
  refine Sim.know (P := swapsWith (.ListComp elt [⟨target, iter, [], 0⟩] sc pos) (some (.Name y yp)) p.line env = pure (swapB ae y yp pos sc)) (fun _ _ _ g => ?_) fun hsw => ?_
  · show (pure _ : Sem Bool) = _
    unfold swapB Env.blockKind Env.kindOf
    rw [EnvOk.sc g, EnvOk.fn g]
    rfl
  unfold eAssignComp
  cases hb : swapB ae y yp pos sc with
  | false =>
    rw [hb] at hsw
    rw [exec_Assign_Name env y yp _ p hsw]
    show Sim X A (EnvK X ae env) RFlow (EM.bind (eListComp r ae elt target iter sc) fun v => EM.bind (eBind ae y v) fun _ => EM.ret .next) _
    exact Sim.standAt (Sim.bind (Sim.listComp (pos := pos) S hA elt target iter sc) fun a v => Sim.standAt (Sim.bind (Sim.bindName (y := y) (Kn.fst (Kn.le_refl (EnvK X ae env))) (Kn.snd (Kn.le_refl (RDen a v)))) fun _ _ => Sim.ret (b := AFlow.next) (a := Flow.next) (R := RFlow) fun _ _ _ _ => rfl))
  | true =>
    rw [hb] at hsw
    rw [exec_Assign_Name_used y yp _ p hsw]
    show Sim X A (EnvK X ae env) RFlow (EM.bind (eComp1 r ae elt target iter sc) fun p => EM.bind (eBind ae y p.1) fun _ => EM.bind (delCell p.2) fun _ => EM.ret .next) _
    refine Sim.ofRun fun σ ρ F s I g => RunAt.bind (comp1_ok (env := env) S hA elt target iter sc pos) fun q σ₁ c => RunAt.bind (RunAt.all fun accv => Sim.at (X := X) (A := A) (Sim.bindName (y := y) (Γ := (EnvK X ae env).and (RDen q.1 accv)) (Kn.fst (Kn.le_refl _)) (Kn.snd (Kn.le_refl _)))) fun _ σ₂ c2 => RunAt.del fun m hm => RunAt.ret fun Q E hQ => ?_
    refine wpAny_bind (wpAny_standAt (wpAny_bind ?_))
    show wpAny _ _ (comprehension (.ListComp elt [⟨target, iter, [], 0⟩] sc pos) sc env (firstIterPos [⟨target, iter, [], 0⟩] pos) (PySem.newList []) (firstAsync [⟨target, iter, [], 0⟩]) (firstIter [⟨target, iter, [], 0⟩] env) (some (PySem.assign (.Name y yp) env)) >>= fun _ => pure ()) _ _ s
    refine wpAny_bind (wpAny_comprehension_use (g := ⟨target, iter, [], 0⟩) (gs := []) rfl (notSet_folds c.it env) c.scope.free c.scope.kind c.scope.loc (c.go ρ F s I g E _ fun accv cenv f s' ρ' F' q => ?_))
    refine wpAny_bind (wpAny_standAt (c2 accv ρ' F' s' q.inv ⟨(EnvK X ae env).mono q.stp.le q.stp.same q.stp.sub g, q.den⟩ _ E fun _ s'' ρ'' F'' _ I'' st'' => (I''.atNs hm).elim fun fn hn => ?_))
    have hl := q.loc.trans (st''.same _ q.hi).symm
    refine ⟨fn, hl ▸ hn.1, fun h' hs => wpAny_pure (wpAny_pure ?_)⟩
    have r := I''.forget (q.stp.trans st'') hm q.lo I.frlt (hl ▸ hs)
    exact hQ _ _ ρ'' F'' rfl r.1 r.2
theorem Sim.execs {one : Stmt → EM AFlow} (h1 : ∀ st, SimS X A ae env (one st) st) : ∀ ss : List Stmt, Sim X A (EnvK X ae env) RFlow (eExecs one ss) (execs ss env)
  | [] => Sim.ret fun _ _ _ _ => rfl
  | st :: rest => by
    rw [execs_cons]
    show Sim X A (EnvK X ae env) RFlow (EM.bind (one st) fun fl => onFl fl (eExecs one rest) (fun v => EM.ret (.ret v)) EM.fail) _
    refine Sim.bind (h1 st) fun fl f => ?_
    have ih := Sim.execs h1 rest
    cases fl with
    | next => exact Sim.know (P := f = .next) (Kn.snd (Kn.le_refl _)) fun h => by rw [h]; exact ih.weaken (Kn.fst (Kn.le_refl _))
    | ret v =>
      refine Sim.ofRun fun σ ρ F s I g => RunAt.ret ((show ∃ w, f = .ret w ∧ Den σ.n ρ F v w from g.2).elim fun w q => ?_)
      rw [q.1]
      exact Goes.now I ⟨w, rfl, q.2⟩
    | _ => exact Sim.fail
end
noncomputable def fmax (κ : Rho) (σ : St) (s : Shared) : Fz := fun a => @ite _ (∃ i c, σ.get i = some c ∧ κ i = a) (Classical.propDecidable _) none (s.heap.get? a)
section
variable {X : Ctx} {A : Around} {ρ κ : Rho} {F : Fz} {σ : St} {s : Shared}
theorem fmax_in {i : Nat} {c : Cell} (h : σ.get i = some c) : fmax κ σ s (κ i) = none := if_pos ⟨i, c, h, rfl⟩
theorem fmax_out {a : Addr} (h : ∀ i c, σ.get i = some c → κ i ≠ a) : fmax κ σ s a = s.heap.get? a := if_neg fun q => q.elim fun i q => q.elim fun c q => h i c q.1 q.2
theorem fmax_at {a : Addr} {o : Obj} (h : fmax κ σ s a = some o) : s.heap.get? a = some o :=
  (Classical.em (∃ i c, σ.get i = some c ∧ κ i = a)).elim (fun q => q.elim fun i q => q.elim fun c q => noneOf ((fmax_in (κ := κ) (s := s) q.1).symm.trans (q.2 ▸ h))) fun q => (fmax_out fun i c h1 h2 => q ⟨i, c, h1, h2⟩).symm.trans h
theorem Inv.max (I : Inv X ρ F σ s) : Inv X ρ (fmax ρ σ s) σ s ∧ Stp ρ F σ s ρ (fmax ρ σ s) σ s :=
  I.still (fun a o e => (fmax_out fun i c h => I.notF e h).trans (I.froz a o e)) (fun a o e => fmax_at e) (fun i c h => fmax_in h) (fun _ _ e => e) rfl rfl I.gens fun _ _ e => e
noncomputable def AtH (X : Ctx) (κ : Rho) (σ : St) (s : Shared) : Prop := Inv X κ (fmax κ σ s) σ s
theorem Inv.withGens (I : Inv X ρ F σ s) {g : Array GenState} (h : AllBare g) : Inv X ρ F σ { s with gens := g } := ⟨I.ids, I.inj, I.cell, I.off, I.froz, I.base, I.drawn, I.os, h, I.frs⟩
theorem AtH.withGens (I : AtH X κ σ s) {g : Array GenState} (h : AllBare g) : AtH X κ σ { s with gens := g } := Inv.withGens I h
noncomputable def noG (s : Shared) : Shared := { s with gens := #[] }
theorem Stp.noG {ρ' : Rho} {F' : Fz} {σ' : St} {s' : Shared} (st : Stp ρ F σ s ρ' F' σ' s') : Stp ρ F σ (noG s) ρ' F' σ' (Mine.noG s') := ⟨st.le, st.same, st.sub, st.keep, st.live, st.new, fun i x e => noneOf e⟩
theorem Stp.ofNoG {ρ' : Rho} {F' : Fz} {σ' : St} {s' : Shared} (st : Stp ρ F σ (Mine.noG s) ρ' F' σ' (Mine.noG s')) (hg : ∀ (i : Nat) x, s.gens[i]? = some x → s'.gens[i]? = some x) : Stp ρ F σ s ρ' F' σ' s' := ⟨st.le, st.same, st.sub, st.keep, st.live, st.new, hg⟩
end
noncomputable def eCutTo (N L : Nat) : EM Unit := EM.st fun σ => EM.bind (EM.turn (∀ p ∈ (σ.cut N).objs, UndC N p.2) (fun σ => σ.cut N) ()) fun _ => EM.bind (EM.cellAs asNs L) fun _ => EM.ret ()
section
variable (r : Rec) (t : GText) (gae : AEnv) (f : Nat)
noncomputable def gSegs : EM (Option AV) × EM (Option AV) := Nat.rec (motive := fun _ => EM (Option AV) × EM (Option AV)) (EM.fail, EM.fail) (fun _ p =>
  (eBr (r.tst gae t.test1) p.2 (EM.ret none), eBr (r.tst gae t.test2) (EM.bind (r.ev gae t.item) fun v => EM.ret (some v)) (EM.bind (r.exs gae t.rest) fun fl => onFl fl p.1 (fun _ => EM.fail) EM.fail))) f
noncomputable def gSeg1 : EM (Option AV) := (gSegs r t gae f).1
noncomputable def gSeg2 : EM (Option AV) := (gSegs r t gae f).2
noncomputable def gSeg0 : EM (Option AV) := EM.bind (r.exs gae t.pre) fun fl => onFl fl (gSeg1 r t gae f) (fun _ => EM.fail) EM.fail
end
section
variable {X : Ctx} {A : Around} {ρ κ : Rho} {F : Fz} {σ : St} {s : Shared}
variable {R : GenEnd} {Y : Protocol} {n : Nat} {s₀ : Shared} {σ₀ : St} {r : Rec} {m : Nat} {t : GText} {gae : AEnv} {ge : Env}
noncomputable def RoomO (l : List Env) (A : Around) (m : Nat) : Prop := A.depth + 3 + 4 * m < recursionLimit ∧ A.units + 21 + 40 * m < cLine ∧ A.handled = none ∧ A.guards = some [] ∧ A.frames = some l
structure GSide (X : Ctx) (r : Rec) (m : Nat) (A : Around) (t : GText) (gae : AEnv) (ge : Env) : Prop where
  S : Sound X r m
  co : ge.scope.isCoroutine = false
  fn : ge.scope.kind = .function
  room : ∃ l, RoomO l A m ∧ X.fr.map (·.1) = ge :: l
noncomputable abbrev Mo (X : Ctx) : Model := model X.prog X.w
noncomputable def codeO (t : GText) (ge : Env) : Code := .whileLoop t.test1 t.outer [] ge
noncomputable def codeI (t : GText) (ge : Env) : Code := .whileLoop t.test2 t.inner [] ge
theorem Room.over {c : Code} {fs : List Frame} {A : Around} {m : Nat} {l : List Env} (h : RoomO l A m) (hl : X.fr.map (·.1) = ge :: l) (he : pushEnvs c.envs (pushEnvs (envsOf (fs.map Frame.where_)) (some l)) = some (ge :: l)) (hm : marksOver fs (none, none) = (none, none)) (hc : frameCount (fs.map Frame.where_) + c.weight ≤ 3)
    (hg : pushGuards c.guards (pushGuards (guardsOf (fs.map Frame.where_)) (some [])) = some []) (hu : PySem.unitsOf (fs.map Frame.where_) + c.cUnits ≤ 20) : Room X (A.over c fs) m :=
  ⟨Nat.lt_of_le_of_lt (by show A.depth + frameCount (fs.map Frame.where_) + c.weight + 4 * m ≤ A.depth + 3 + 4 * m; rw [Nat.add_assoc A.depth]; exact Nat.add_le_add_right (Nat.add_le_add_left hc _) _) h.1,
    Nat.lt_of_le_of_lt (by show A.units + PySem.unitsOf (fs.map Frame.where_) + c.cUnits + 40 * m ≤ A.units + 21 + 40 * m; rw [Nat.add_assoc A.units]; exact Nat.add_le_add_right (Nat.add_le_add_left (Nat.le_succ_of_le hu) _) _) h.2.1,
    by show (marksOver fs (A.handled, A.handled)).1 = none; rw [h.2.2.1, hm], by show pushGuards c.guards (pushGuards (guardsOf (fs.map Frame.where_)) A.guards) = some []; rw [h.2.2.2.1]; exact hg,
    by show pushEnvs c.envs (pushEnvs (envsOf (fs.map Frame.where_)) A.frames) = _; rw [h.2.2.2.2, he, hl]⟩
noncomputable def F0 (t : GText) (ge : Env) (k0 : Result → Sem Fin) (p0 : Pos) : Frame := .ret k0 none false [] (.func t.body ge) p0 []
noncomputable def F1 (t : GText) (ge : Env) (k1 : Result → Sem Fin) (p1 : Pos) : Frame := .ret k1 none false [] (codeO t ge) p1 []
noncomputable def K0ok (k0 : Result → Sem Fin) : Prop := k0 (.ok .next) = .pure (.done (.ret .none))
noncomputable def K1ok (t : GText) (ge : Env) (k1 : Result → Sem Fin) : Prop := ∃ K H, k1 (.ok .next) = (execs t.rest ge).wrap K H id id ∧ K .next = .pure (.again (codeO t ge))
section
variable (X : Ctx) (A : Around) (R : GenEnd) (Y : Protocol) (t : GText) (ge : Env) (n : Nat) (s₀ s : Shared)
noncomputable def SegI : Prop :=
  ∀ k1 p1 k0 p0, K1ok t ge k1 → K0ok k0 → Seg (Mo X) A R Y n s₀ (codeI t ge) ((Mo X).den (codeI t ge)) [F1 t ge k1 p1, F0 t ge k0 p0] s
noncomputable def SegO : Prop :=
  ∀ k0 p0, K0ok k0 → Seg (Mo X) A R Y n s₀ (codeO t ge) ((Mo X).den (codeO t ge)) [F0 t ge k0 p0] s
end
structure Ends (X : Ctx) (κ : Rho) (A : Around) (R : GenEnd) (Y : Protocol) (t : GText) (ge : Env) (n : Nat) (σ₀ : St) (s₀ : Shared) (o : Option AV) (σ' : St) : Prop where
  fin : o = none → ∀ s' ρ' F', Inv X ρ' F' σ' s' → Stp κ (fmax κ σ₀ s₀) σ₀ s₀ ρ' F' σ' s' → R n s₀ (.ok (.ret .none)) s'
  out : ∀ av, o = some av → ∃ j, n = j + 1 ∧ ∀ v s' ρ' F', Den σ'.n ρ' F' av v → Inv X ρ' F' σ' s' → Stp κ (fmax κ σ₀ s₀) σ₀ s₀ ρ' F' σ' s' → ∀ kap : Resume → Shared → Prop,
    (∀ s'', SegI X A R Y t ge j s'' s'' → kap (.send .none) s'') → Y j s₀ v s' kap
theorem Room.o (hh : ∃ l, RoomO l A m ∧ X.fr.map (·.1) = ge :: l) (k0 : Result → Sem Fin) (p0 : Pos) : Room X (A.over (codeO t ge) [F0 t ge k0 p0]) m :=
  hh.elim fun l h => Room.over h.1 h.2 rfl rfl (Nat.le_of_ble_eq_true rfl) rfl (Nat.le_of_ble_eq_true rfl)
theorem Room.i (hh : ∃ l, RoomO l A m ∧ X.fr.map (·.1) = ge :: l) (k1 k0 : Result → Sem Fin) (p1 p0 : Pos) : Room X (A.over (codeI t ge) [F1 t ge k1 p1, F0 t ge k0 p0]) m :=
  hh.elim fun l h => Room.over h.1 h.2 rfl rfl (Nat.le_of_ble_eq_true rfl) rfl (Nat.le_of_ble_eq_true rfl)
noncomputable def SegRun (X : Ctx) (A : Around) (t : GText) (gae : AEnv) (ge : Env) (P : (R : GenEnd) → (Y : Protocol) → Nat → Shared → Shared → Prop) (σ : St) (o : Option AV) (σ' : St) : Prop := ∀ (R : GenEnd) (Y : Protocol) (n : Nat) (κ : Rho) (σ₀ : St) (s₀ : Shared) (ρ : Rho) (F : Fz) (s : Shared),
  Inv X ρ F σ s → Stp κ (fmax κ σ₀ s₀) σ₀ s₀ ρ F σ s → (EnvK X gae ge).p σ.n ρ F → Ends X κ A R Y t ge n σ₀ s₀ o σ' → P R Y n s₀ s
theorem segs (G : GSide X r m A t gae ge) : ∀ f : Nat, (∀ σ, RunAt σ (gSeg1 r t gae f) (SegRun X A t gae ge (fun R Y n => SegO X A R Y t ge n) σ)) ∧ ∀ σ, RunAt σ (gSeg2 r t gae f) (SegRun X A t gae ge (fun R Y n => SegI X A R Y t ge n) σ)
  | 0 => ⟨fun _ => RunAt.fail, fun _ => RunAt.fail⟩
  | f + 1 => by
    have ih := segs G f
    refine ⟨fun σ => ?_, fun σ => ?_⟩
    · show RunAt σ (EM.bind (r.tst gae t.test1) fun b => EM.bind (EM.dec b) fun b => _root_.cond b (gSeg2 r t gae f) (EM.ret none)) _
      refine RunAt.bind (RunAt.all fun k0 => RunAt.all fun p0 => Sim.at (G.S.tst _ (Room.o (t := t) G.room k0 p0) gae ge t.test1)) fun b σ₁ c1 => RunAt.stay RunAt.dec0 fun d hd => ?_
      rw [hd] at c1
      cases d with
      | true =>
        refine (ih.2 σ₁).mono fun o σ' h R Y n κ σ₀ s₀ ρ F s I st gE Z k0 p0 hk0 => seg_whileLoop (c1 k0 p0 ρ F s I gE _ _ fun v s₁ ρ₁ F₁ (hv : true = v) I₁ st₁ => ?_)
        rw [← hv, if_pos rfl]
        show Seg _ A R Y n s₀ _ ((execs (.While t.test2 t.inner [] t.pos2 :: t.rest) ge).wrap _ _ id id) _ s₁
        exact seg_execs_cons (seg_While fun p => h R Y n κ σ₀ s₀ ρ₁ F₁ s₁ I₁ (st.trans st₁) ((EnvK X gae ge).mono st₁.le st₁.same st₁.sub gE) Z _ p k0 p0 ⟨_, _, rfl, rfl⟩ hk0)
      | false =>
        refine RunAt.ret fun R Y n κ σ₀ s₀ ρ F s I st gE Z k0 p0 hk0 => seg_whileLoop (c1 k0 p0 ρ F s I gE _ _ fun v s₁ ρ₁ F₁ (hv : false = v) I₁ st₁ => ?_)
        rw [← hv, if_neg Bool.false_ne_true]
        refine seg_execs_nil (seg_leaf (r := .ok .next) ?_)
        rw [show k0 (.ok .next) = _ from hk0]
        exact seg_end (r := .ok (.ret .none)) (Z.fin rfl s₁ ρ₁ F₁ I₁ (st.trans st₁))
    · show RunAt σ (EM.bind (r.tst gae t.test2) fun b => EM.bind (EM.dec b) fun b => _root_.cond b (EM.bind (r.ev gae t.item) fun v => EM.ret (some v)) (EM.bind (r.exs gae t.rest) fun fl => onFl fl (gSeg1 r t gae f) (fun _ => EM.fail) EM.fail)) _
      refine RunAt.bind (RunAt.all fun k1 => RunAt.all fun k0 => RunAt.all fun p1 => RunAt.all fun p0 => Sim.at (G.S.tst _ (Room.i (t := t) G.room k1 k0 p1 p0) gae ge t.test2)) fun b σ₁ c1 => RunAt.stay RunAt.dec0 fun d hd => ?_
      rw [hd] at c1
      cases d with
      | true =>
        refine RunAt.bind (RunAt.all fun k1 => RunAt.all fun k0 => RunAt.all fun p1 => RunAt.all fun p0 => Sim.at (G.S.ev _ (Room.i (t := t) G.room k1 k0 p1 p0) gae ge t.item)) fun av σ₂ c2 => RunAt.ret ?_
        refine fun R Y n κ σ₀ s₀ ρ F s I st gE Z k1 p1 k0 p0 hk1 hk0 => seg_whileLoop (c1 k1 k0 p1 p0 ρ F s I gE _ _ fun v s₁ ρ₁ F₁ (hv : true = v) I₁ st₁ => (Z.out av rfl).elim fun j z => ?_)
        rw [← hv, if_pos rfl, z.1]
        show Seg _ A R Y (j + 1) s₀ _ ((execs [.Expr (.Yield (some t.item) t.ypos) t.epos] ge).wrap _ _ id id) _ s₁
        refine seg_execs_cons (seg_Expr_Yield (by rfl) rfl (by rfl) ?_ G.co (by unfold interactive; rw [G.fn]; rfl))
        exact c2 k1 k0 p1 p0 ρ₁ F₁ s₁ I₁ ((EnvK X gae ge).mono st₁.le st₁.same st₁.sub gE) _ _ fun v s₂ ρ₂ F₂ dv I₃ st₃ kap hkap => z.2 v s₂ ρ₂ F₂ dv I₃ ((st.trans st₁).trans st₃) kap fun s'' hs => hkap .none s'' (seg_execs_nil (seg_again rfl (hs k1 p1 k0 p0 hk1 hk0)))
      | false =>
        show RunAt σ₁ (EM.bind (r.exs gae t.rest) fun fl => onFl fl (gSeg1 r t gae f) (fun _ => EM.fail) EM.fail) _
        refine RunAt.bind (RunAt.all fun k0 => RunAt.all fun p0 => Sim.at (G.S.exs _ (Room.o (t := t) G.room k0 p0) gae ge t.rest)) fun fl σ₂ c2 => ?_
        cases fl with
        | next =>
          refine (ih.1 σ₂).mono fun o σ' h R Y n κ σ₀ s₀ ρ F s I st gE Z k1 p1 k0 p0 hk1 hk0 => seg_whileLoop (c1 k1 k0 p1 p0 ρ F s I gE _ _ fun v s₁ ρ₁ F₁ (hv : false = v) I₁ st₁ => ?_)
          rw [← hv, if_neg Bool.false_ne_true]
          refine seg_execs_nil (seg_leaf (r := .ok .next) (hk1.elim fun K q => q.elim fun H q => ?_))
          have gE₁ := (EnvK X gae ge).mono st₁.le st₁.same st₁.sub gE
          rw [q.1]
          refine seg_wrap (c2 k0 p0 ρ₁ F₁ s₁ I₁ gE₁ _ _ fun fv s₂ ρ₂ F₂ (dv : fv = .next) I₃ st₃ => ?_)
          rw [dv, q.2]
          exact seg_again rfl (h R Y n κ σ₀ s₀ ρ₂ F₂ s₂ I₃ ((st.trans st₁).trans st₃) ((EnvK X gae ge).mono st₃.le st₃.same st₃.sub gE₁) Z k0 p0 hk0)
        | _ => exact RunAt.fail
end
section
variable {prog : Program} {w : World} {A : Around} {E : Value → Shared → Prop} {s : Shared}
theorem genNext {a : Addr} {g n : Nat} {gs : GenState} {P : Nat → Shared → Shared → Prop} {Y : Protocol} {Q : Option Value → Shared → Prop} (hh : A.handled = none) (hl : s.heap.NoLimit) (hroom : A.depth < recursionLimit)
    (hg : s.heap.IsGen a g) (hgs : s.gens[g]? = some gs) (hgo : gs.Goes (model prog w) A.in1 (fun n s₀ r s₁ => r = .ok (.ret .none) ∧ P n s₀ s₁) Y n (.send .none) (s.setGen g .running))
    (hY : ∀ v s₁ gs', gs'.bare = true → Y (n - 1) (s.setGen g .running) v s₁ (fun r' s'' => match n with
        | 0 => False
        | m + 1 => gs'.Goes (model prog w) A.in1 (fun n s₀ r s₁ => r = .ok (.ret .none) ∧ P n s₀ s₁) Y m r' s'') → Q (some v) (s₁.setGen g gs'))
    (hP : ∀ s₁, P n (s.setGen g .running) s₁ → ∀ h', (∀ b o, s₁.heap.get? b = some o → h'.get? b = some o) → Q none { s₁.setGen g .finished with heap := h' }) : wpAny (model prog w) A (pyNext (.ref a)) Q E s := by
  unfold pyNext
  refine wpAny_bind (wpAny_attempt (wpAny_callSpecial?_slot (name := Str.ofString "__next__") hg.typeIs slot_gen_next (wpAny_call_entry slot_gen_next hg.typeIs entry_gen_next ?_ (args_gen_next _))))
  show wpAny _ _ (Builtin.Generator.genWake (.ref a) (.send .none)) _ _ s
  unfold Builtin.Generator.genWake
  refine wpAny_bind (wpAny_holding (wpAny_genNumber hg (wpAny_bind (wpAny_genState hgs ?_))))
  cases gs with
  | running => exact hgo.elim
  | finished => exact hgo.elim
  | _ =>
    refine wpAny_bind (wpAny_roomToWake hl hroom ?_)
    show wpAny _ _ (.resume g (.send .none) [] _) _ _ s
    refine wpAny_resumeQ hgs hgo (fun x s₁ hx => ?_) (fun v s₁ gs' hb hv => wpAny_pure ⟨v, rfl, wpAny_pure (hY v s₁ gs' hb hv)⟩)
    rw [hx.1]
    refine wpAny_bind (m := SmallTypes.stopIteration) ?_
    refine stop_raised (A := A.in1) hh fun e h' hk hT => ?_
    refine wpAny_bind (wpAny_isInstance (T := "StopIteration") (b := true) hT isSubtype_stop ?_)
    exact wpAny_pure (hP s₁ hx.2 _ hk)
end
noncomputable def eCutV (N : Nat) (v : AV) : EM Unit := EM.st fun σ => EM.turn (Und N v ∧ ∀ p ∈ (σ.cut N).objs, UndC N p.2) (fun σ => σ.cut N) ()
noncomputable def gBody (K : Frag) (r : Rec) (cae : AEnv) (target : Expr) (body : List Stmt) (N L : Nat) (v : AV) : EM Unit := EM.bind (EM.chk (simpleTarget target)) fun _ => EM.bind (eCutV N v) fun _ => EM.bind (EM.bind (eAssign K r cae v target) fun _ => r.exs cae body) fun fl => onFl fl (eCutTo N L) (fun _ => EM.fail) EM.fail
noncomputable def gFor (K : Frag) (r : Rec) (t : GText) (gae cae : AEnv) (target : Expr) (body : List Stmt) (N f : Nat) (k : Nat) : Bool → EM AFlow := Nat.rec (motive := fun _ => Bool → EM AFlow) (fun _ => EM.fail) (fun _ ih b => EM.bind (_root_.cond b (gSeg0 r t gae f) (gSeg2 r t gae f)) fun o =>
  onSome o (fun v => EM.bind (gBody K r cae target body N gae.loc v) fun _ => ih false) (EM.ret .next)) k
section
variable {X : Ctx} {A : Around} {ρ κ : Rho} {F F' : Fz} {σ σ' : St} {s s' : Shared} {r : Rec} {m : Nat} {t : GText} {gae cae : AEnv} {ge ce : Env} {n N f : Nat} {σF : St} {conf : Nat → St} {target : Expr} {body : List Stmt}
theorem Stp.recut {ρ' : Rho} {N : Nat} (st : Stp κ F σ s ρ' F' σ' s') (hN : σ.n = N) : Stp κ F σ s κ F' (σ'.cut N) s' :=
  ⟨Nat.le_of_eq hN, fun _ _ => rfl, st.sub, st.keep, st.live, fun i c h => by
    have q := cut_get h
    rw [← st.same i (hN ▸ q.1)]
    exact st.new i c q.2, st.gens⟩
noncomputable abbrev XG (X : Ctx) (ge : Env) (L : Nat) : Ctx := X.wf ((ge, L) :: X.fr)
noncomputable def SegF (X : Ctx) (A : Around) (t : GText) (gae : AEnv) (ge : Env) (b : Bool) (σ : St) (o : Option AV) (σ' : St) : Prop := match b with
  | false => SegRun X A t gae ge (fun R Y n => SegI X A R Y t ge n) σ o σ'
  | true => SegRun X A t gae ge (fun R Y n s₀ s => s₀ = s → (GenState.fresh (.func t.body ge)).Goes (Mo X) A R Y n (.send .none) s) σ o σ'
structure BodyOk (X : Ctx) (A : Around) (cae : AEnv) (ce : Env) (target : Expr) (body : List Stmt) (N L : Nat) (v : AV) (σ₁ σ₃ σ₂ : St) : Prop where
  tgt : simpleTarget target = true
  und : Und N v
  undC : ∀ p ∈ (σ₁.cut N).objs, UndC N p.2
  go : ∀ ρ F s w, Inv X ρ F (σ₁.cut N) s → EnvOk X cae ce (σ₁.cut N).n ρ → Den (σ₁.cut N).n ρ F v w → Goes X A ρ F (σ₁.cut N) s (assign target ce w >>= fun _ => execs body ce) (RFlow .next) σ₃
  undC' : ∀ p ∈ (σ₃.cut N).objs, UndC N p.2
  ns : ∃ m, (σ₃.cut N).get L = some (.ns m)
  eq : σ₂ = σ₃.cut N
theorem gBody_ok (S : Sound X r m) (hA : Room X A m) {L : Nat} {v : AV} : RunAt σ (gBody X.K r cae target body N L v) fun _ σ' => ∃ σ₃, BodyOk X A cae ce target body N L v σ σ₃ σ' := by
  refine RunAt.chk fun ht => RunAt.bind (C := fun _ σ₁ => (Und N v ∧ ∀ p ∈ (σ.cut N).objs, UndC N p.2) ∧ σ₁ = σ.cut N) (RunAt.st (RunAt.turn fun h => ⟨h, rfl⟩)) fun _ σ₁ h1 => ?_
  have one : ∀ w, Sim X A ((EnvK X cae ce).and (RDen v w)) RFlow (EM.bind (eAssign X.K r cae v target) fun _ => r.exs cae body) (assign target ce w >>= fun _ => execs body ce) := fun w =>
    Sim.bind (Sim.assign S hA target (Kn.fst (Kn.le_refl _)) (Kn.snd (Kn.le_refl _))) fun _ _ => (S.exs A hA cae ce body).weaken (Kn.fst (Kn.fst (Kn.le_refl _)))
  refine RunAt.bind (RunAt.all fun w => Sim.at (one w)) fun fl σ₃ c => ?_
  cases fl with
  | next =>
    refine RunAt.st (f := fun σ => EM.bind (EM.turn (∀ p ∈ (σ.cut N).objs, UndC N p.2) (fun σ => σ.cut N) ()) fun _ => EM.bind (EM.cellAs asNs L) fun _ => EM.ret ()) ?_
    refine RunAt.bind (x := EM.turn (∀ p ∈ (σ₃.cut N).objs, UndC N p.2) (fun σ => σ.cut N) ()) (f := fun _ => EM.bind (EM.cellAs asNs L) fun _ => EM.ret ()) (C := fun _ σ₄ => (∀ p ∈ (σ₃.cut N).objs, UndC N p.2) ∧ σ₄ = σ₃.cut N) (RunAt.turn fun h => ⟨h, rfl⟩) fun _ σ₄ h4 => ?_
    rw [h4.2]
    exact RunAt.cellAs asNs_some fun mm hm => RunAt.ret ⟨σ₃, ht, h1.1.1, h1.1.2, fun ρ F s w I g d => h1.2 ▸ c w ρ F s (h1.2 ▸ I) ⟨h1.2 ▸ g, h1.2 ▸ d⟩, h4.1, ⟨mm, hm⟩, rfl⟩
  | _ => exact RunAt.fail
structure Turns (X : Ctx) (A : Around) (t : GText) (gae cae : AEnv) (ge ce : Env) (target : Expr) (body : List Stmt) (N : Nat) (b : Bool) (n : Nat) (conf : Nat → St) (σF : St) : Prop where
  last : SegF (XG X ge gae.loc) A.in1 t gae ge (b && Nat.beq 0 n) (conf 0) none σF
  turn : ∀ j, j < n → ∃ v σ₁ σ₃, SegF (XG X ge gae.loc) A.in1 t gae ge (b && Nat.beq (j + 1) n) (conf (j + 1)) (some v) σ₁ ∧ BodyOk X A cae ce target body N gae.loc v σ₁ σ₃ (conf j)
theorem room_func {X : Ctx} {A : Around} (hh : ∃ l, RoomO l A m ∧ X.fr.map (·.1) = ge :: l) : Room X (A.over (.func t.body ge) []) m := hh.elim fun l h => Room.over h.1 h.2 rfl rfl (Nat.le_of_ble_eq_true rfl) rfl (Nat.le_of_ble_eq_true rfl)
theorem execs_app_wrap {K : Flow → Sem Fin} {H : Value → Sem Fin} {gd : Bool → Bool} {lv : List Value → List Value} {env : Env} (rest : List Stmt) : ∀ pre : List Stmt,
    (execs (pre ++ rest) env).wrap K H gd lv = (execs pre env).wrap (fun f => match f with | .next => (execs rest env).wrap K H gd lv | f => K f) H gd lv
  | [] => rfl
  | st :: pre => by
    rw [List.cons_append, execs_cons_wrap, execs_cons_wrap]
    exact Sem.wrap_congr _ _ _ (fun fl => by cases fl <;> first | exact execs_app_wrap rest pre | rfl) fun _ => rfl
theorem seg0_ok {X : Ctx} {A : Around} (G : GSide X r m A t gae ge) : RunAt σ (gSeg0 r t gae f) (SegF X A t gae ge true σ) := by
  refine RunAt.bind (Sim.at (G.S.exs _ (room_func (t := t) G.room) gae ge t.pre)) fun fl σ₁ c => ?_
  cases fl with
  | next =>
    refine ((segs G f).1 σ₁).mono fun o σ' h R Y n κ σ₀ s₀ ρ F s I st gE Z e => ⟨rfl, seg_func ?_⟩
    unfold GText.body
    rw [execs_app_wrap]
    refine seg_wrap (c ρ F s I gE _ _ fun fv s₁ ρ₁ F₁ (hr : fv = .next) I₁ st₁ => ?_)
    rw [hr]
    exact seg_execs_cons (seg_While fun p => e ▸ h R Y n κ σ₀ s₀ ρ₁ F₁ s₁ I₁ (st.trans st₁) ((EnvK X gae ge).mono st₁.le st₁.same st₁.sub gE) Z _ p rfl)
  | _ => exact RunAt.fail
theorem seg_ok {X : Ctx} {A : Around} (G : GSide X r m A t gae ge) (b : Bool) : RunAt σ (_root_.cond b (gSeg0 r t gae f) (gSeg2 r t gae f)) (SegF X A t gae ge b σ) := by
  cases b with
  | true => exact seg0_ok G
  | false => exact (segs G f).2 σ
theorem gFor_run (G : GSide (XG X ge gae.loc) r m A.in1 t gae ge) (S : Sound X r m) (hA : Room X A m) : ∀ (k : Nat) (b : Bool) (σ : St), RunAt σ (gFor X.K r t gae cae target body N f k b) fun fl σF => fl = .next ∧ ∃ n conf, conf n = σ ∧ Turns X A t gae cae ge ce target body N b n conf σF
  | 0, _, _ => RunAt.fail
  | k + 1, b, σ => by
    show RunAt σ (EM.bind (_root_.cond b (gSeg0 r t gae f) (gSeg2 r t gae f)) fun o => onSome o (fun v => EM.bind (gBody X.K r cae target body N gae.loc v) fun _ => gFor X.K r t gae cae target body N f k false) (EM.ret .next)) _
    refine RunAt.bind (seg_ok G b) fun o σ₁ h1 => ?_
    cases o with
    | none => exact RunAt.ret ⟨rfl, 0, fun _ => σ, rfl, by cases b <;> exact h1, fun j h => absurd h (Nat.not_lt_zero _)⟩
    | some v =>
      refine RunAt.bind (gBody_ok (ce := ce) S hA) fun _ σ₂ h2 => (gFor_run G S hA k false σ₂).mono fun fl σF q => ⟨q.1, q.2.elim fun n q => q.elim fun conf q => ⟨n + 1, fun j => _root_.cond (Nat.beq j (n + 1)) σ (conf j), by show _root_.cond (Nat.beq (n + 1) (n + 1)) σ _ = σ; rw [Nat.beq_refl]; rfl, ?_, fun j hj => ?_⟩⟩
      · show SegF _ _ _ _ _ (b && false) (conf 0) none σF
        rw [Bool.and_false]
        exact q.2.last
      · have hj1 : Nat.beq j (n + 1) = false := Bool.eq_false_iff.mpr fun e => absurd (Nat.eq_of_beq_eq_true e) (Nat.ne_of_lt hj)
        show ∃ v σ₁ σ₃, SegF _ _ _ _ _ (b && Nat.beq j n) (_root_.cond (Nat.beq j n) σ (conf (j + 1))) (some v) σ₁ ∧ BodyOk _ _ _ _ _ _ _ _ v σ₁ σ₃ (_root_.cond (Nat.beq j (n + 1)) σ (conf j))
        rw [hj1]
        cases e : Nat.beq j n with
        | true =>
          rw [Bool.and_true, Nat.eq_of_beq_eq_true e]
          exact h2.elim fun σ₃ h2 => ⟨v, σ₁, σ₃, h1, q.1 ▸ h2⟩
        | false =>
          rw [Bool.and_false]
          exact q.2.turn j (Nat.lt_of_le_of_ne (Nat.le_of_lt_succ hj) fun h => by rw [h, Nat.beq_refl] at e; exact ff e.symm)
noncomputable def YY (X : Ctx) (κ : Rho) (A : Around) (cae : AEnv) (ce : Env) (target : Expr) (body : List Stmt) (N L : Nat) (XL : Ctx) (conf : Nat → St) : Protocol := fun j s₀ v s' kap => ∃ av σ₁ σ₃ ρ' F', BodyOk X A cae ce target body N L av σ₁ σ₃ (conf j) ∧ Den σ₁.n ρ' F' av v ∧ Inv XL ρ' F' σ₁ s' ∧
  Stp κ (fmax κ (conf (j + 1)) s₀) (conf (j + 1)) s₀ ρ' F' σ₁ s' ∧ ∀ s'', AtH XL κ (conf j) s'' → kap (.send .none) s''
noncomputable def PP (X : Ctx) (κ : Rho) (conf : Nat → St) (σF : St) : Nat → Shared → Shared → Prop := fun k s₀ s₁ => k = 0 ∧ ∃ ρ' F', Inv X ρ' F' σF s₁ ∧ Stp κ (fmax κ (conf 0) s₀) (conf 0) s₀ ρ' F' σF s₁
noncomputable def RR (X : Ctx) (κ : Rho) (conf : Nat → St) (σF : St) : GenEnd := fun k s₀ r s₁ => r = .ok (.ret .none) ∧ PP X κ conf σF k s₀ s₁
structure GRun (X : Ctx) (r : Rec) (m : Nat) (A : Around) (κ : Rho) (t : GText) (gae cae : AEnv) (ge ce : Env) (target : Expr) (body : List Stmt) (N n : Nat) (conf : Nat → St) (σF : St) : Prop where
  gF : ge.frame = some (κ gae.loc)
  gK : ge.scope.kind = .function
  room : Room X A (m + 1)
  turns : Turns X A t gae cae ge ce target body N true n conf σF
  size : ∀ j, j ≤ n → (conf j).n = N
  gE : ∀ F, (EnvK (XG X ge gae.loc) gae ge).p N κ F
  cE : ∀ F, (EnvK X cae ce).p N κ F
section
variable (R : GRun X r m A κ t gae cae ge ce target body N n conf σF)
include R
theorem GRun.ends {j : Nat} (hj : j ≤ n) (ih : ∀ i, i < j → ∀ s, AtH (XG X ge gae.loc) κ (conf i) s → SegI (XG X ge gae.loc) A.in1 (RR (XG X ge gae.loc) κ conf σF) (YY X κ A cae ce target body N gae.loc (XG X ge gae.loc) conf) t ge i s s) :
    ∃ o σ', SegF (XG X ge gae.loc) A.in1 t gae ge (Nat.beq j n) (conf j) o σ' ∧ ∀ s, Ends (XG X ge gae.loc) κ A.in1 (RR (XG X ge gae.loc) κ conf σF) (YY X κ A cae ce target body N gae.loc (XG X ge gae.loc) conf) t ge j (conf j) s o σ' := by
  cases j with
  | zero => exact ⟨none, σF, R.turns.last, fun s => ⟨fun _ s' ρ' F' I st => ⟨rfl, rfl, ρ', F', I, st⟩, fun av h => noneOf h⟩⟩
  | succ i =>
    exact (R.turns.turn i hj).elim fun v q => q.elim fun σ₁ q => q.elim fun σ₃ q => ⟨some v, σ₁, q.1, fun s => ⟨fun h => noneOf h.symm, fun av h => ⟨i, rfl, fun w s' ρ' F' d I st kap hk => ⟨v, σ₁, σ₃, ρ', F', q.2, Option.some.inj h ▸ d, I, st, fun s'' h => hk s'' (ih i (Nat.lt_succ_self i) s'' h)⟩⟩⟩⟩
theorem GRun.all (j : Nat) : j < n → ∀ s, AtH (XG X ge gae.loc) κ (conf j) s → SegI (XG X ge gae.loc) A.in1 (RR (XG X ge gae.loc) κ conf σF) (YY X κ A cae ce target body N gae.loc (XG X ge gae.loc) conf) t ge j s s := by
  induction j using Nat.strongRecOn with
  | ind j ih =>
    intro hj s h
    refine (R.ends (Nat.le_of_lt hj) fun i hi s h => ih i hi (Nat.lt_trans hi hj) s h).elim fun o q => q.elim fun σ' q => ?_
    have q1 := q.1
    rw [show Nat.beq j n = false from Bool.eq_false_iff.mpr fun e => absurd (Nat.eq_of_beq_eq_true e) (Nat.ne_of_lt hj)] at q1
    exact q1 _ _ j κ _ s κ _ s h (Stp.refl _ _ h.ids) (by rw [R.size j (Nat.le_of_lt hj)]; exact R.gE _) (q.2 s)
theorem GRun.fresh {s : Shared} (h : AtH (XG X ge gae.loc) κ (conf n) s) : (GenState.fresh (.func t.body ge)).Goes (Mo X) A.in1 (RR (XG X ge gae.loc) κ conf σF) (YY X κ A cae ce target body N gae.loc (XG X ge gae.loc) conf) n (.send .none) s := by
  refine (R.ends (Nat.le_refl n) fun i hi s h => R.all i hi s h).elim fun o q => q.elim fun σ' q => ?_
  have q1 := q.1
  rw [Nat.beq_refl] at q1
  exact q1 _ _ n κ _ s κ _ s h (Stp.refl _ _ h.ids) (by rw [R.size n (Nat.le_refl n)]; exact R.gE _) (q.2 s) rfl
end
theorem bare_set {gens : Array GenState} (h : AllBare gens) (g : Nat) {x : GenState} (hx : x.bare = true) : AllBare (gens.setIfInBounds g x) := fun y hy => (Array.mem_iff_getElem?.mp hy).elim fun i hi => by
  rw [Array.getElem?_setIfInBounds] at hi
  revert hi
  refine ite_P (P := fun o => o = some y → y.bare = true) (fun _ => ite_P (P := fun o => o = some y → y.bare = true) (fun _ hi => Option.some.inj hi ▸ hx) fun _ hi => noneOf hi) fun _ hi => h _ (Array.mem_iff_getElem?.mpr ⟨i, hi⟩)
theorem setGen_ne {s : Shared} {g i : Nat} {gs x : GenState} (hi : i ≠ g) (h : s.gens[i]? = some x) : (s.setGen g gs).gens[i]? = some x := (Array.getElem?_setIfInBounds_ne (Ne.symm hi)).trans h
theorem GRun.walk (R : GRun X r m A κ t gae cae ge ce target body N n conf σF) (S : Sound X r m) {ga : Addr} {g : Nat} (j : Nat) : j ≤ n → ∀ (s : Shared) (gs : GenState), AtH (XG X ge gae.loc) κ (conf j) s → (∀ i c, (conf j).get i = some c → κ i ≠ ga) →
    s.heap.IsGen ga g → s.gens[g]? = some gs → gs.Goes (Mo X) A.in1 (RR (XG X ge gae.loc) κ conf σF) (YY X κ A cae ce target body N gae.loc (XG X ge gae.loc) conf) j (.send .none) (s.setGen g .running) → ∀ (Z : Result → Shared → Prop),
    (∀ s' ρ' F', Inv X ρ' F' σF s' → Stp κ (fmax κ (conf j) s) (conf j) (noG s) ρ' F' σF (noG s') → (∀ i x, i ≠ g → s.gens[i]? = some x → s'.gens[i]? = some x) → Z (.ok .next) s') →
    codeAny (Mo X) A (.forLoop target (.ref ga) body [] ce) Z s := by
  induction j with
  | zero =>
    intro hj s gs I hga hg hgs hgo Z hZ
    refine codeAny_of_tree ?_
    show wpAny _ A ((forTurn target (.ref ga) body [] ce).onRaise (fun x => do noteFrame x ce; theTreesLotGoes x)) _ _ s
    refine wpAny_noted (wpAny_bind (wpAny_standAt (wpAny_bind (wpAny_onRaise (genNext (P := PP (XG X ge gae.loc) κ conf σF) R.room.2.2.1 I.limit (Nat.lt_of_le_of_lt (Nat.le_add_right _ _) R.room.1) hg hgs hgo (fun v s₁ gs' hb hy => ?_) fun s₁ hp h' hk => ?_)))))
    · exact hy.elim fun av q => q.elim fun σ₁ q => q.elim fun σ₃ q => q.elim fun ρ' q => q.elim fun F' q => (q.2.2.2.2 s I : False).elim
    · refine hp.2.elim fun ρ' q => q.elim fun F' q => ?_
      have st₁ := q.2
      have I₁ := Inv.unframe q.1
      have r₂ := I₁.grow (h' := h') hk s₁.toks
      have st2 := (Stp.noG st₁).trans (Stp.noG r₂.2)
      refine wpAny_pure ⟨rfl, codeAny_block (wpAny_execs_nil (hZ _ ρ' F' (r₂.1.withGens (bare_set I₁.gens g rfl)) st2 fun i x hi hx => setGen_ne hi (st₁.gens i x (setGen_ne hi hx))))⟩
  | succ j ih =>
    intro hj s gs I hga hg hgs hgo Z hZ
    refine codeAny_of_tree ?_
    show wpAny _ A ((forTurn target (.ref ga) body [] ce).onRaise (fun x => do noteFrame x ce; theTreesLotGoes x)) _ _ s
    refine wpAny_noted (wpAny_bind (wpAny_standAt (wpAny_bind (wpAny_onRaise (genNext (P := PP (XG X ge gae.loc) κ conf σF) R.room.2.2.1 I.limit (Nat.lt_of_le_of_lt (Nat.le_add_right _ _) R.room.1) hg hgs hgo (fun v s₁ gs' hb hy => ?_) fun s₁ hp => nomatch hp.1)))))
    refine hy.elim fun av q => q.elim fun σ₁ q => q.elim fun σ₃ q => q.elim fun ρ₁ q => q.elim fun F₁ q => ?_
    have B := q.1
    have d := q.2.1
    have I₁ := q.2.2.1
    have st₁ : Stp κ (fmax κ (conf (j + 1)) s) (conf (j + 1)) (s.setGen g .running) ρ₁ F₁ σ₁ s₁ := q.2.2.2.1
    have hn : ∀ s'', AtH (XG X ge gae.loc) κ (conf j) s'' → gs'.Goes (Mo X) A.in1 (RR (XG X ge gae.loc) κ conf σF) (YY X κ A cae ce target body N gae.loc (XG X ge gae.loc) conf) j (.send .none) s'' := q.2.2.2.2
    have hsz : (conf (j + 1)).n = N := R.size _ hj
    have hfrN : ∀ e ∈ X.fr, e.2 < N := fun e he => hsz ▸ (Inv.unframe I).frlt e he
    have hgs₁ : (s₁.setGen g gs').gens[g]? = some gs' := setGen_self (st₁.gens _ _ (setGen_self hgs))
    have Ic : Inv X ρ₁ F₁ (σ₁.cut N) (s₁.setGen g gs') := ((Inv.unframe I₁).cut (fun _ _ => rfl) B.undC hfrN).withGens (bare_set I₁.gens g hb)
    have cE : (EnvK X cae ce).p (σ₁.cut N).n ρ₁ F₁ := (EnvK X cae ce).mono (Nat.le_refl N) (fun i hi => st₁.same i (by rw [hsz]; exact hi)) (fun _ _ e => e) (R.cE F₁)
    show wpAny _ _ (letOwnedTupleGo target (.ref ga) v >>= fun _ => assign target ce v >>= fun _ => execs body ce >>= fun fl => (match fl with
      | .next | .cont => PySem.again (.forLoop target (.ref ga) body [] ce)
      | .brk => pure (.done .next)
      | .ret v => pure (.done (.ret v)))) _ _ _
    rw [go_simple B.tgt, ← bind_assoc (assign target ce v)]
    refine wpAny_bind (wpAny_pure (wpAny_bind (B.go ρ₁ F₁ _ v Ic cE (d.under (fun _ _ => rfl) B.und) _ _ fun fv s₃ ρ₃ F₃ (hf : fv = .next) I₃ st₃ => ?_)))
    rw [hf]
    refine wpAny_pure ⟨rfl, ?_⟩
    have stA : Stp κ (fmax κ (conf (j + 1)) s) (conf (j + 1)) (noG s) ρ₃ F₃ σ₃ (noG s₃) := (Stp.noG (s := s.setGen g .running) (st₁.cut (N := N) (Nat.le_of_eq hsz))).trans (Stp.noG (s := s₁.setGen g gs') st₃)
    refine B.ns.elim fun mL hL => ?_
    have I₄ : Inv (XG X ge gae.loc) κ F₃ (σ₃.cut N) s₃ := (I₃.cut (fun i hi => (stA.same i (by rw [hsz]; exact hi)).symm) B.undC' hfrN).frame R.gK R.gF hL rfl
    have stB := stA.recut hsz
    rw [← B.eq] at I₄ stB
    have r₅ := I₄.max
    have stC : Stp κ (fmax κ (conf (j + 1)) s) (conf (j + 1)) (noG s) κ (fmax κ (conf j) s₃) (conf j) (noG s₃) := stB.trans (Stp.noG r₅.2)
    have hgens₃ : s₃.gens[g]? = some gs' := st₃.gens _ _ hgs₁
    refine hg.elim fun og q2 => q2.elim fun nm q2 => q2.elim fun qn q2 => ?_
    have isg : s₃.heap.IsGen ga g := ⟨og, nm, qn, I₃.froz _ _ (stA.sub _ _ ((fmax_out hga).trans q2.1)), q2.2⟩
    have hga' : ∀ i c, (conf j).get i = some c → κ i ≠ ga := fun i c h e => (stC.new i c h).elim (fun h2 => h2.2.elim fun d h2 => hga i d h2 e) fun h2 => noneOf (h2.symm.trans (e ▸ q2.1))
    exact ih (Nat.le_of_succ_le hj) s₃ gs' r₅.1 hga' isg hgens₃ (hn _ (AtH.withGens (g := (s₃.setGen g .running).gens) r₅.1 (bare_set r₅.1.gens g rfl))) Z fun s' ρ' F' If stf hgf => hZ s' ρ' F' If (stC.trans stf) fun i x hi hx => hgf i x hi (st₃.gens i x (setGen_ne hi (st₁.gens i x (setGen_ne hi hx))))
end
noncomputable def genScope (s : Scope) : Bool := ((s.kind == .function) && !s.isCoroutine) && (s.isGenerator && noCells s)
noncomputable def genInfo (K : Frag) (f : AV) : Option FnI := _root_.cond (keepOk K f) ((fnInfo K f).bind fun fi => _root_.cond (plainParams fi.params && genScope fi.scope) (some fi) none) none
noncomputable def genBinds (fi : FnI) (as : List AV) (ks : List (Str × AV)) : Option (List (Str × AV)) := (bindsOf (fi.params.args.map fun p => p.arg) fi.dflts as ks).bind fun b => _root_.cond (b.all fun q => fi.scope.names.lookup q.1 == some .local) (some b) none
noncomputable def eForGen (K : Frag) (r : Rec) (ae : AEnv) (G : GFor) (target o : Expr) (name : Str) (args : List Expr) (body : List Stmt) : EM AFlow := _root_.cond (notSuper o && fewOk args [])
  (EM.bind (r.ev ae o) fun ov => EM.bind (eMethod K ov name) fun p => EM.bind (eArgs2 r ae args []) fun as => EM.bind (EM.opt (genInfo K p.1)) fun fi => EM.bind (EM.cond (fi.body = G.t.body)) fun _ => EM.bind (EM.opt (genBinds fi (p.2 ++ as.1) as.2)) fun binds =>
    EM.bind (EM.push (.ns binds.reverse)) fun L => gFor K r G.t ⟨fi.scope, L, fi.closure, .none, L⟩ ae target body (L + 1) G.f G.k true) EM.fail
section
variable {X : Ctx} {A : Around} {ρ : Rho} {F : Fz} {σ : St} {s : Shared} {Γ : Kn}
theorem Inv.pushGen (I : Inv X ρ F σ s) {o : Obj} {c : Code} (ho : o.isFreed = false) (tk : Nat) :
    Inv X ρ (F.put s.heap.objs.size o) σ { s with gens := s.gens.push (.fresh c), toks := tk, heap := s.heap.push o } ∧ Stp ρ F σ s ρ (F.put s.heap.objs.size o) σ { s with gens := s.gens.push (.fresh c), toks := tk, heap := s.heap.push o } := by
  have r := I.freeze (a := s.heap.objs.size) (o := o) (h' := s.heap.push o) (Heap.get?_none_of_le (Nat.le_refl _)) (fun b o e => Heap.get?_push_of_some _ e) (Heap.get?_push_size _ ho) tk
  refine ⟨Inv.withGens r.1 (I.gens.push rfl), ⟨r.2.le, r.2.same, r.2.sub, r.2.keep, r.2.live, r.2.new, fun i x e => ?_⟩⟩
  exact (Array.getElem?_push_lt (Array.getElem?_eq_some_iff.mp e).1).trans ((Array.getElem?_eq_getElem _).symm.trans e)
variable {r : Rec} {m : Nat} {ae : AEnv} {env : Env}
structure GenOk (K : Frag) (f : AV) (fi : FnI) : Prop where
  keep : keepOk K f = true
  info : fnInfo K f = some fi
  params : plainParams fi.params = true
  kind : fi.scope.kind = .function
  co : fi.scope.isCoroutine = false
  gen : fi.scope.isGenerator = true
  cells : noCells fi.scope = true
theorem genInfo_ok {K : Frag} {f : AV} {fi : FnI} (h : genInfo K f = some fi) : GenOk K f fi := by
  have h0 := condO h
  refine (Option.bind_eq_some_iff.mp h0.2).elim fun fi' q => ?_
  have h1 := condO q.2
  rw [← Option.some.inj h1.2]
  have h2 := h1.1
  rw [Bool.and_eq_true, genScope, Bool.and_eq_true, Bool.and_eq_true, Bool.and_eq_true, Bool.not_eq_true'] at h2
  exact ⟨h0.1, q.1, h2.1, eq_of_beq h2.2.1.1, h2.2.1.2, h2.2.2.1, h2.2.2.2⟩
theorem gFor_next {t : GText} {gae cae : AEnv} {target : Expr} {body : List Stmt} {N f : Nat} {K : Frag} : ∀ (k : Nat) (b : Bool) (σ : St), RunAt σ (gFor K r t gae cae target body N f k b) fun fl _ => fl = .next
  | 0, _, _ => RunAt.fail
  | k + 1, b, σ => RunAt.bind (x := _root_.cond b (gSeg0 r t gae f) (gSeg2 r t gae f)) (f := fun o => onSome o (fun v => EM.bind (gBody K r cae target body N gae.loc v) fun _ => gFor K r t gae cae target body N f k false) (EM.ret .next)) (C := fun _ _ => True) (fun _ _ _ _ _ _ => trivial) fun o σ₁ _ => by
    cases o with
    | none => exact RunAt.ret rfl
    | some v => exact RunAt.bind (C := fun _ _ => True) (fun _ _ _ _ _ _ => trivial) fun _ σ₂ _ => gFor_next k false σ₂
theorem genCall (S : SoundF X r m) (hA : Room X A (m + 1)) {G : GFor} {f : AV} {fv : Value} {as : List AV} {vs : List Value} {ks : List (Str × AV)} {kvs : List Value} {fi : FnI} {binds : List (Str × AV)} (K : GenOk X.K f fi) (hbody : fi.body = G.t.body) (hb : genBinds fi as ks = some binds) {target : Expr} {body : List Stmt}
    (I : Inv X ρ F σ s) (g : (RCall f fv as vs ks kvs).p σ.n ρ F) (gE : (EnvK X ae env).p σ.n ρ F) : RunAt (σ.push (.ns binds.reverse)) (gFor X.K r G.t ⟨fi.scope, σ.n, fi.closure, .none, σ.n⟩ ae target body (σ.n + 1) G.f G.k true) fun fl σ' => fl = .next ∧ ∀ (Q : Value → Shared → Prop) (E : Value → Shared → Prop),
      (∀ a s₁, (∀ Z : Flow → Shared → Prop, (∀ s' ρ' F', Inv X ρ' F' σ' s' → Stp ρ F σ s ρ' F' σ' s' → Z .next s') → wpAny (model X.prog X.w) A (PySem.pyIter (.ref a)) (fun it s' => wpAny (model X.prog X.w) A (runOwn (.forLoop target it body [] env) env) Z E s') E s₁) → Q (.ref a) s₁) →
      wpAny (model X.prog X.w) A (call fv vs ((ks.map (·.1)).zip kvs)) Q E s := by
  refine (fnAt I K.info g.1).elim fun af q => q.elim fun fo q => q.elim fun fd W => W.dflts.elim fun dv hdv => ?_
  refine (Option.bind_eq_some_iff.mp hb).elim fun bs hbs => ?_
  have hbs2 := condO hbs.2
  rw [Option.some.inj hbs2.2] at hbs hbs2
  refine (bindsOf_rel hdv.1 g.2.1 (Pairs.ofDens g.2.2) hbs.1).elim fun bv hbv => ?_
  let ge : Env := newEnv fi.scope s.heap.objs.size fd.globals fd.closure (fd.qualname ++ ".<locals>.") (some af) fd.code none fd.builtins
  have hρ : ∀ i, i < σ.n → (ρ.put σ.n s.heap.objs.size) i = ρ i := fun i hi => Rho.put_lt ρ _ hi
  have hput := Rho.put_self ρ σ.n s.heap.objs.size
  have hgF : ge.frame = some ((ρ.put σ.n s.heap.objs.size) σ.n) := by rw [hput]; rfl
  have gG : EnvOk (XG X ge σ.n) ⟨fi.scope, σ.n, fi.closure, .none, σ.n⟩ ge (σ.n + 1) (ρ.put σ.n s.heap.objs.size) :=
    ⟨rfl, K.kind, hput.symm, Nat.lt_succ_self _, W.clo.trans (mapCl_eq fun p hp => hρ _ (W.lt p hp)).symm, fun p hp => Nat.lt_succ_of_lt (W.lt p hp), W.globals, W.builtins, hgF, Nat.lt_succ_self _, ⟨_, _, rfl, rfl⟩, .inl rfl⟩
  have roomG : ∃ l, RoomO l A.in1 m ∧ (XG X ge σ.n).fr.map (·.1) = ge :: l := ⟨_, ⟨Nat.lt_of_le_of_lt (by show A.depth + 3 + 4 * m ≤ A.depth + 4 * (m + 1); omega) hA.1, Nat.lt_of_le_of_lt (by show A.units + 1 + 21 + 40 * m ≤ A.units + 40 * (m + 1); omega) hA.2.1, hA.2.2⟩, rfl⟩
  refine (gFor_run (ge := ge) (ce := env) ⟨S _, K.co, K.kind, roomG⟩ S.here hA.less G.k true (σ.push (.ns binds.reverse))).mono fun fl σ' T => ⟨T.1, fun Q E hQ => ?_⟩
  refine T.2.elim fun n T => T.elim fun conf T => ?_
  rw [W.ref]
  have hpp := K.params
  rw [plainParams, Bool.and_eq_true, Bool.and_eq_true, Bool.and_eq_true] at hpp
  refine wpAny_call (codeAny_call_generator (fd := fd) (body := fi.body) (Nat.lt_of_le_of_lt (Nat.le_add_right _ _) hA.1) W.at_ W.data (by rw [W.scope]; exact K.co) (by rw [W.scope]; exact K.gen) W.body W.code ?_)
  refine bindArgs_simple (by rw [W.params]; exact List.isEmpty_iff.mp hpp.1.1) (by rw [W.params]; exact List.isEmpty_iff.mp hpp.1.2) (by rw [W.params]; exact Option.isNone_iff_eq_none.mp hpp.2.1) (by rw [W.params]; exact Option.isNone_iff_eq_none.mp hpp.2.2) (by rw [W.params]) (hdv.2 _ _ _) hbv.1 ?_
  rw [W.scope]
  refine wpAny_newFunctionEnv (no_cell K.cells) (hbv.2.loc _ hbs2.1) (fun h' hn hsb => ?_) K.kind
  have r₄ := I.push (a := s.heap.objs.size) (c := .ns binds.reverse) (Heap.get?_none_of_le (Nat.le_refl _)) (fun bb oo ee => hsb.extBut bb oo (Nat.ne_of_lt (Heap.lt_size ee)) (Heap.get?_push_of_some _ ee)) (.ofNs hn (hbv.2.rev.mono (Nat.le_succ _) hρ (fun _ _ e => e)).ns) (s.toks + bv.length)
  refine ⟨r₄.1.limit, ?_⟩
  have r₅ := r₄.1.pushGen (o := { cls := .type "generator", data := .fields #[.int s.gens.size 0, .str fd.name (s.toks + bv.length), .str fd.qualname (s.toks + bv.length + 1)] }) (c := .func fi.body ge) rfl (s.toks + bv.length + 1 + 1)
  have st05 := r₄.2.trans r₅.2
  have I₅' := r₅.1.frame (env := ge) (i := σ.n) (c := .ns binds.reverse) K.kind hgF (St.get_push_self σ _) rfl
  rw [← T.1] at I₅' st05
  have r₆ := I₅'.max
  have isg : (h'.push ({ cls := .type "generator", data := .fields #[.int s.gens.size 0, .str fd.name (s.toks + bv.length), .str fd.qualname (s.toks + bv.length + 1)] } : Obj)).IsGen h'.objs.size s.gens.size := ⟨_, _, _, Heap.get?_push_size _ rfl, rfl, rfl, rfl⟩
  have RN : GRun X r m A (ρ.put σ.n s.heap.objs.size) G.t ⟨fi.scope, σ.n, fi.closure, .none, σ.n⟩ ae ge env target body (σ.n + 1) n conf σ' := by
    have gc : EnvOk X ae env (σ.n + 1) (ρ.put σ.n s.heap.objs.size) := (EnvK X ae env).mono r₄.2.le r₄.2.same r₄.2.sub gE
    refine ⟨hgF, K.kind, hA, T.2, fun j hj => ?_, fun _ => gG, fun _ => gc⟩
    refine (Nat.eq_or_lt_of_le hj).elim (fun e => by rw [e, T.1]; rfl) fun hlt => (T.2.turn j hlt).elim fun v q => q.elim fun σ₁ q => q.elim fun σ₃ q => by rw [q.2.eq]; rfl
  refine hQ _ _ fun Z hZ => wpAny_pyIter_gen isg (wpAny_runOwn (h := none) ?_)
  rw [Around.mark_none]
  have hfresh := RN.fresh (AtH.withGens (g := ((s.gens.push (.fresh (.func fi.body ge))).setIfInBounds s.gens.size .running)) r₆.1 (bare_set r₆.1.gens _ rfl))
  rw [← hbody] at hfresh
  refine RN.walk S.here (g := s.gens.size) n (Nat.le_refl n) _ _ r₆.1 (fun i c h => I₅'.notF (a := h'.objs.size) (if_pos rfl) h) isg (Array.getElem?_push_size ..) hfresh _ fun s' ρ' F' If stf hgf => ?_
  refine hZ s' ρ' F' If (Stp.ofNoG (((Stp.noG st05).trans (Stp.noG r₆.2)).trans stf) fun i x hx => hgf i x (fun hi => ?_) (st05.gens i x hx))
  rw [hi, Array.getElem?_eq_none (Nat.le_refl _)] at hx
  exact noneOf hx
theorem Sim.forGen (S : SoundF X r m) (hA : Room X A (m + 1)) (G : GFor) (target o : Expr) (name : Str) (apos pos fpos : Pos) (args : List Expr) (body : List Stmt) (hline : apos.endLine = pos.line) :
    SimS X A ae env (eForGen X.K r ae G target o name args body) (.For target (.Call (.Attribute o name apos) args [] pos) body [] fpos) := by
  refine cond_ind (P := fun x => SimS X A ae env x (.For target (.Call (.Attribute o name apos) args [] pos) body [] fpos)) (fun hc0 => ?_) Sim.fail
  rw [Bool.and_eq_true] at hc0
  refine Sim.ofRun fun σ ρ F s I g => RunAt.bind (Sim.at (S.here.ev A hA.less ae env o)) fun ov σ₁ c1 => RunAt.bind (RunAt.all fun ovv => RunAt.all fun pl => Sim.at (X := X) (A := A) (Sim.method (Γ := RDen ov ovv) (x := name) (pl := pl) (Kn.le_refl _))) fun p σ₂ c2 =>
    RunAt.bind (C := fun as σ₃ => ((backTo pos (starEach args env)).any (·.1) || (backToKw pos (keywordEach [] env)).any (·.1.isNone)) = false ∧ ∀ f ρ F s, Inv X ρ F σ₂ s → (EnvK X ae env).p σ₂.n ρ F → Goes X A ρ F σ₂ s (PySem.evalArgs f true (backTo pos (starEach args env)) (backToKw pos (keywordEach [] env))) (RArgs as) σ₃)
      (fun ds b ev' cs e hc => ⟨no_stars pos e hc, fun f => Sim.at (Sim.evalArgs S.here hA.less pos args [] (Kn.le_refl (EnvK X ae env))) ds b ev' cs e hc⟩) fun as σ₃ c3 => RunAt.opt fun fi hfi => RunAt.cond fun hb => RunAt.opt fun binds hbi => RunAt.push ?_
  have K := genInfo_ok hfi
  refine RunAt.mono (C := fun fl σ' => fl = .next ∧ ∀ fv vs kvs ρ F s, Inv X ρ F σ₃ s → (RCall p.1 fv (p.2 ++ as.1) vs as.2 kvs).p σ₃.n ρ F → (EnvK X ae env).p σ₃.n ρ F → ∀ (Q : Value → Shared → Prop) (E : Value → Shared → Prop),
      (∀ a s₁, (∀ Z : Flow → Shared → Prop, (∀ s' ρ' F', Inv X ρ' F' σ' s' → Stp ρ F σ₃ s ρ' F' σ' s' → Z .next s') → wpAny (model X.prog X.w) A (PySem.pyIter (.ref a)) (fun it s' => wpAny (model X.prog X.w) A (runOwn (.forLoop target it body [] env) env) Z E s') E s₁) → Q (.ref a) s₁) →
      wpAny (model X.prog X.w) A (PySem.call fv vs ((as.2.map (·.1)).zip kvs)) Q E s) (fun ds b ev' cs e hc => ?_) fun fl σ' c4 Q E hQ => ?_
  · refine ⟨gFor_next _ _ _ ds b ev' cs e hc, fun fv vs kvs ρ F s I g gE => (genCall S hA (G := G) K hb hbi I g gE ds b ev' cs e hc).2⟩
  · rw [exec_For, eval_method hc0.1 hc0.2 hline]
    refine wpAny_bind (wpAny_standAt (wpAny_bind (wpAny_bind (c1 ρ F s I g _ E fun ovv s₁ ρ₁ F₁ d1 I₁ st₁ => wpAny_bind (wpAny_standAt (wpAny_bind (wpAny_holding (c2 ovv _ ρ₁ F₁ s₁ I₁ d1 _ E fun q s₂ ρ₂ F₂ d2 I₂ st₂ => ?_))))))))
    have gE₂ := (EnvK X ae env).mono (st₁.trans st₂).le (st₁.trans st₂).same (st₁.trans st₂).sub g
    refine callWith_of (P := KeepAt X q.1) c3.1 (fun _ x => x) (c3.2 _ ρ₂ F₂ s₂ I₂ gE₂ _ E fun a s₃ ρ₃ F₃ da I₃ st₃ => ?_)
    have dq1 := Den.step d2.1 st₃
    have st := (st₁.trans st₂).trans st₃
    refine ⟨keepOk_looks I₃ K.keep dq1, da.kw.elim fun kvs q2 => ?_⟩
    rw [q2.1]
    refine c4.2 q.1 (q.2 ++ a.pos) kvs ρ₃ F₃ s₃ I₃ ⟨dq1, (Dens.step d2.2 st₃).app da.pos, q2.2⟩ ((EnvK X ae env).mono st₃.le st₃.same st₃.sub gE₂) _ E fun ga s₁ hz => ?_
    show wpAny _ A (foldedSetIterable (.Call (.Attribute o name apos) args [] pos) env (.ref ga) >>= _) _ _ _
    refine wpAny_bind (m := foldedSetIterable (.Call (.Attribute o name apos) args [] pos) env (.ref ga)) (wpAny_pure (wpAny_bind (wpAny_standAt (wpAny_bind (wpAny_holding (hz Q fun s' ρ' F' If stf => ?_))))))
    exact hQ _ s' ρ' F' (c4.1 ▸ rfl) If (st.trans stf)
end
noncomputable def attrStr (K : Frag) (attr : Str) (av : AV) : Option Str := onObj av (fun C fs => (attrOf K C fs attr).bind strAt) none
noncomputable def attrStrs (K : Frag) (attr : Str) (xs : List AV) : List Str := xs.map fun x => (attrStr K attr x).getD Str.empty
noncomputable def genScopeOk (sc : Scope) (x : Str) : Bool := ((sc.kind == .function) && !sc.isCoroutine) && ((sc.names.all fun y => !(y.2 == .cell) && !(y.2 == .free)) && ((sc.names.lookup (".0" : Str) == some NameKind.local) && (sc.names.lookup x == some NameKind.local)))
structure GScope (sc : Scope) (x : Str) : Prop where
  kind : sc.kind = .function
  co : sc.isCoroutine = false
  cell : ∀ y ∈ sc.names, y.2 ≠ .cell
  free : ∀ y ∈ sc.names, y.2 ≠ .free
  zero : sc.names.lookup (".0" : Str) = some NameKind.local
  x : sc.names.lookup x = some NameKind.local
theorem genScope_ok {sc : Scope} {x : Str} (h : genScopeOk sc x = true) : GScope sc x := by
  rw [genScopeOk, Bool.and_eq_true, Bool.and_eq_true, Bool.and_eq_true, Bool.and_eq_true, Bool.not_eq_true', List.all_eq_true] at h
  refine ⟨eq_of_beq h.1.1, h.1.2, fun y hy e => ?_, fun y hy e => ?_, eq_of_beq h.2.2.1, eq_of_beq h.2.2.2⟩
  · have := h.2.1 y hy
    rw [e] at this
    exact ff this
  · have := h.2.1 y hy
    rw [e] at this
    exact ff this
noncomputable def findTab (c : Addr) (l : List (Nat × Cell)) : Option Nat := l.foldr (fun p k => onCTab p.2 (fun c' _ _ => _root_.cond (c' == c) (some p.1) k) k) none
noncomputable def plainIter (e : Expr) : Bool := onAttribute e (fun _ _ _ => true) <| onName e (fun _ _ => true) false
theorem plainIter_fold {iter : Expr} {env : Env} : plainIter iter = true → ∀ x, genFold iter env x = pure x :=
  onAttribute_ind (P := fun b e => b = true → ∀ x, genFold e env x = pure x) (fun _ _ _ _ _ => rfl) (onName_ind (P := fun b e => b = true → ∀ x, genFold e env x = pure x) (fun _ _ _ _ => rfl) ff)
noncomputable def eTabOf (ae : AEnv) : EM (Nat × Addr × Array Value) := onVRef ae.code (fun c => EM.bind (EM.get fun σ => findTab c σ.objs) fun i => EM.bind (EM.cellAs asTab i) fun t => EM.bind (EM.chk (t.1 == c)) fun _ => EM.bind (EM.upd fun σ => σ.set i (.tab c t.2.1 none)) fun _ => EM.ret (i, c, t.2.1)) EM.fail
noncomputable def eJoin (K : Frag) (r : Rec) (ae : AEnv) (sep : Str) (x x1 : Str) (attr : Str) (iter : Expr) (gsc : Scope) : EM AV := _root_.cond ((genScopeOk gsc x && (x1 == x)) && (plainIter iter && !(x == ("__debug__" : Str))))
  (EM.bind (r.ev ae iter) fun v => onRef v (fun i => EM.bind (eCellL i) fun xs => EM.bind (EM.cond ((∀ y ∈ xs, (attrStr K attr y).isSome) ∧ JoinOk sep (attrStrs K attr xs) = true ∧ xs.length ≤ 1000000)) fun _ => EM.bind (eTabOf ae) fun _ => EM.ret (.str (Txt.join sep (attrStrs K attr xs)))) EM.fail) EM.fail
section
variable {X : Ctx} {A : Around} {ρ : Rho} {F : Fz} {σ : St} {s : Shared} {Γ : Kn} {r : Rec} {m : Nat} {ae : AEnv} {env : Env}
noncomputable def TabAt (ae : AEnv) (σ : St) (q : Nat × Addr × Array Value) (σ₁ : St) : Prop := ae.code = .ref q.2.1 ∧ (∃ ks, σ.get q.1 = some (.tab q.2.1 q.2.2 ks)) ∧ σ₁ = σ.set q.1 (.tab q.2.1 q.2.2 none)
theorem tabOf_run : RunAt σ (eTabOf ae) (TabAt ae σ) := by
  unfold eTabOf
  refine onVRef_ind (e := ae.code) (P := fun y v => ae.code = v → RunAt σ y (TabAt ae σ)) (fun c hc => ?_) (fun _ => RunAt.fail) rfl
  exact RunAt.get fun i _ => RunAt.cellAs asTab_some fun t ht => RunAt.chk fun e => RunAt.upd (RunAt.ret ⟨hc, ⟨t.2.2, by rw [← eq_of_beq e]; exact ht⟩, rfl⟩)
theorem RunAt.tabOf {γ : Type} {D : γ → St → Prop} {f : Nat × Addr × Array Value → EM γ} (h : ∀ q ks, ae.code = .ref q.2.1 → σ.get q.1 = some (.tab q.2.1 q.2.2 ks) → RunAt (σ.set q.1 (.tab q.2.1 q.2.2 none)) (f q) D) : RunAt σ (EM.bind (eTabOf ae) f) D :=
  RunAt.bind tabOf_run fun q σ₁ p => p.2.1.elim fun ks hk => p.2.2 ▸ h q ks p.1 hk
theorem genCode {M : Model} {E : Value → Shared → Prop} {env : Env} {c P : Addr} {oc : Obj} {ps : Array Value} {pos : Pos} {qualname : Str} {scope : Scope} {Q : Value → Shared → Prop} (hc : env.code = .ref c) (ho : s.heap.get? c = some oc) (hh : CodeH c P oc) (hP : s.heap.get? P = some (oTab ps)) (ht : TriplesOk ps.toList)
    (hQ : ∀ code h' tk more, Heap.ExtBut P s.heap h' → h'.get? P = some (oTab (ps ++ more)) → TriplesOk (ps ++ more).toList → Q code { s with heap := h', toks := tk }) : wpAny M A (genexprCode env pos qualname scope) Q E s := by
  cases hh with | mk h₀ ps₀ ps₁ e x y =>
  obtain ⟨o, vs, file, tf, flags, tg, inF, text, tt, op, ho₀, hd, h11, h2, h7, h9, h10, hr⟩ := x
  rw [← Option.some.inj (e.symm.trans ho₀)] at hd
  unfold genexprCode codeAt
  rw [hc, if_neg (show ¬ ((Value.ref c == Value.none) = true) from Bool.false_ne_true)]
  refine wpAny_bind (wpAny_fieldsOf ho hd ?_)
  rw [h11]
  refine wpAny_bind (wpAny_fieldsOf hP rfl ?_)
  cases hnf : codeAmong pos ps.toList with
  | some cv => exact wpAny_pure (hQ cv s.heap s.toks #[] (Heap.ExtBut.refl _ _) (by rw [Array.append_empty]; exact hP) (by rw [Array.append_empty]; exact ht))
  | none =>
    rw [h2, h7, h9, h10]
    refine wpAny_bind (wpAny_newCodeX fun c' P' h' tk hk hc' hP' hcode' htab' hrec' => ?_)
    have hop' := hk _ _ hP
    refine wpAny_bind (wpAny_updateFieldsOfTheText hop' rfl ?_)
    have hget : (h'.update P (Obj.mapFields (fun vs => if (codeAmong pos vs.toList).isSome = true then vs else vs ++ #[rawInt pos.line, rawInt pos.col, .ref c']))).get? P = some (oTab (ps ++ #[rawInt pos.line, rawInt pos.col, .ref c'])) := by
      rw [Heap.get?_update_self _ hop' rfl]
      show some (oTab (if (codeAmong pos ps.toList).isSome = true then ps else ps ++ #[rawInt pos.line, rawInt pos.col, .ref c'])) = _
      rw [hnf]; rfl
    refine wpAny_bind (wpAny_fieldsOf hget rfl ?_)
    have hl : (ps ++ #[rawInt pos.line, rawInt pos.col, Value.ref c']).toList = ps.toList ++ [rawInt pos.line, rawInt pos.col, .ref c'] := Array.toList_append ..
    rw [hl, codeAmong_snoc _ ht hnf]
    exact wpAny_pure (hQ _ _ _ #[rawInt pos.line, rawInt pos.col, .ref c'] (fun b o' hb e => ((Heap.SameBut.update ..).extBut b o' hb (hk b o' e))) hget (by rw [hl]; exact TriplesOk_snoc _ _ _ _ ht))
theorem tab_back (I : Inv X ρ F σ s) {k : Nat} {c : Addr} {ps : Array Value} {ks : Option (List (Int × Int))} (htab : σ.get k = some (.tab c ps ks)) {more : Array Value} {s' : Shared} (keep : Heap.ExtBut (ρ k) s.heap s'.heap) (hP : s'.heap.get? (ρ k) = some (oTab (ps ++ more))) (ht : TriplesOk (ps ++ more).toList)
    (h1 : s'.drawn = s.drawn) (h2 : s'.os = s.os) (h3 : AllBare s'.gens) (h4 : ∀ (i : Nat) x, s.gens[i]? = some x → s'.gens[i]? = some x) : Inv X ρ F (σ.set k (.tab c ps none)) s' ∧ Stp ρ F σ s ρ F (σ.set k (.tab c ps none)) s' :=
  (I.at htab).ex fun o h0 (h : TabO F (ρ k) c ps ks o) => by
    cases h with | mk m0 oc e hc hh ht0 hk => exact I.turn htab keep ⟨_, hP, more, oc, rfl, hc, hh, ht, fun l h => noneOf h⟩ rfl h1 h2 h3 h4
theorem attrStr_is {K : Frag} {attr : Str} {av : AV} {y : Str} : attrStr K attr av = some y → ∃ C fs, av = .obj C fs ∧ attrOf K C fs attr = some (.str y) :=
  onObj_ind (P := fun (o : Option Str) av => o = some y → ∃ C fs, av = .obj C fs ∧ attrOf K C fs attr = some (.str y)) (fun C fs h => (Option.bind_eq_some_iff.mp h).elim fun a q => ⟨C, fs, rfl, onStr_ind (P := fun (o : Option Str) a => attrOf K C fs attr = some a → o = some y → attrOf K C fs attr = some (.str y)) (fun z h1 h2 => Option.some.inj h2 ▸ h1) (fun _ h => noneOf h) q.1 q.2⟩) fun h => noneOf h
theorem join_elt {prog : Program} {w : World} {A' : Around} {E' : Value → Shared → Prop} {K : Frag} {n : Nat} {s₅ : Shared} (keepF : ∀ b o, F b = some o → s₅.heap.get? b = some o) (Kin : K.In s₅.heap) {av : AV} {v : Value} {st x attr : Str} {q1 q2 : Pos} (dv : Den n ρ F av v) (hst : attrStr K attr av = some st) {gsc : Scope} (G : GScope gsc x) (hxd : (x == ("__debug__" : Str)) = false) {genv : Env} (hg : genv.scope = gsc)
    {m₂ : Str → Option Value} (hn : s₅.heap.Ns genv.locals m₂) (hmx : m₂ x = some v) : wpAny (model prog w) A' (eval (.Attribute (.Name x q1) attr q2) genv) (fun y s' => (∃ u, y = .str st u) ∧ Keeps s₅ s') E' s₅ := by
  refine (attrStr_is hst).elim fun C q => q.elim fun fs q => ?_
  have ev_attr : eval (.Attribute (.Name x q1) attr q2) genv = (attributeBase (.Name x q1) attr genv (eval (.Name x q1) genv) >>= fun o => PySem.standAt q2.atName >>= fun _ => PySem.holding [o] (getAttr o attr true) >>= fun r => letTemporaryGo (.Name x q1) o r >>= fun _ => pure r) := rfl
  rw [ev_attr, base_plain rfl]
  refine wpAny_bind (wpAny_Name (wpAny_loadName_local (env := genv) (hg ▸ G.kind) (by show genv.scope.names.lookup x = _; rw [hg]; exact G.x) hn hmx ?_) hxd)
  refine wpAny_bind (wpAny_standAt (wpAny_bind (wpAny_holding ?_)))
  rw [q.1] at dv
  have p := attrIf_ok q.2
  have h1 := p.1.1
  rw [plainGet, Bool.and_eq_true] at h1
  cases den_obj dv with | mk a d od es k e ha hd he hs =>
  refine (lookIn_es hs he p.2.1).elim fun w hw => ?_
  rw [e]
  refine get_value Kin (ox := oInst C d) (od := some od) ⟨keepF _ _ ha, rfl, rfl, keepF _ _ hd⟩ (isBuiltin_ok h1.1) (findObj_own h1.2 p.1.2 hw.1) (okV_handed hw.2 p.2.2) ?_
  exact (den_str hw.2).elim fun u e => e ▸ wpAny_bind (wpAny_letTemporaryGo (wpAny_pure ⟨⟨u, rfl⟩, _, _, rfl, fun _ _ e => e⟩))
theorem Dens.back {n : Nat} : ∀ {xs : List AV} {vs : List Value}, Dens n ρ F xs vs → ∀ {i : Nat} {v : Value}, vs[i]? = some v → ∃ av, xs[i]? = some av ∧ Den n ρ F av v
  | [], vs, d, i, v, e => by rw [show vs = [] from d] at e; exact noneOf e
  | _ :: _, [], d, _, _, _ => d.elim
  | x :: xs, v :: vs, d, 0, w, e => ⟨x, rfl, Option.some.inj e ▸ d.1⟩
  | x :: xs, v :: vs, d, i + 1, w, e => Dens.back d.2 (i := i) e
noncomputable def JoinP (K : Frag) (attr : Str) (xs : List AV) (j : Nat) (y : Value) : Prop := ∃ av st u, xs[j]? = some av ∧ attrStr K attr av = some st ∧ y = .str st u
theorem pass_all (n : Nat) : passing (fun _ => true) n 0 = List.range n := by
  unfold passing
  rw [List.drop_zero]
  exact List.filter_eq_self.mpr fun _ _ => rfl
theorem join_items {K : Frag} {attr : Str} {xs : List AV} {l : List (Str × Tok)} {n : Nat} (hn : n = xs.length) (h1 : l.length = xs.length) (h2 : ∀ (j : Nat) v, (strValues l).toArray[j]? = some v → ∃ i, (List.range n)[j]? = some i ∧ JoinP K attr xs i v) : l.map (·.1) = attrStrs K attr xs := by
  refine List.ext_getElem? fun j => ?_
  unfold attrStrs
  rw [List.getElem?_map, List.getElem?_map]
  rcases Nat.lt_or_ge j l.length with hj | hj
  · have e1 : (strValues l).toArray[j]? = some (.str l[j].1 l[j].2) := by simp [strValues, hj]
    refine (h2 j _ e1).elim fun i q => q.2.elim fun av p => p.elim fun st p => p.elim fun u p => ?_
    have hi : j = i := Option.some.inj ((List.getElem?_range (hn ▸ h1 ▸ hj)).symm.trans q.1)
    have p1 : xs[j]? = some av := hi ▸ p.1
    rw [List.getElem?_eq_getElem hj, p1]
    show some l[j].1 = some ((attrStr K attr av).getD Str.empty)
    rw [p.2.1]
    exact congrArg some (Value.str.inj p.2.2).1
  · rw [List.getElem?_eq_none hj, List.getElem?_eq_none (h1 ▸ hj)]
    rfl
theorem Sim.join (S : Sound X r m) (hA : Room X A (m + 1)) (sep x x1 attr : Str) (kk : Nat) (p0 apos pos px q1 q2 gpos : Pos) (iter : Expr) (gsc : Scope) (hline : apos.endLine = pos.line) :
    SimE X A ae env (eJoin X.K r ae sep x x1 attr iter gsc) (.Call (.Attribute (.Constant (.str sep) kk p0) "join" apos) [.GeneratorExp (.Attribute (.Name x1 q1) attr q2) [⟨.Name x px, iter, [], 0⟩] gsc gpos] [] pos) := Sim.chk fun hc0 => Sim.ofRun fun σ ρ F s I g => RunAt.bind (Sim.at (S.ev A hA.less ae env iter)) fun v σ₁ c1 => by
  rw [Bool.and_eq_true, Bool.and_eq_true, Bool.and_eq_true, Bool.not_eq_true'] at hc0
  rw [eq_of_beq hc0.1.2]
  have G := genScope_ok hc0.1.1
  refine onRef_ind (P := fun y v => (∀ ρ F s, Inv X ρ F σ s → (EnvK X ae env).p σ.n ρ F → Goes X A ρ F σ s (PySem.eval iter env) (RDen v) σ₁) → RunAt σ₁ y fun b σ' => Goes X A ρ F σ s _ (RDen b) σ') (fun i c1 => ?_) (fun _ => RunAt.fail) c1
  refine RunAt.cellL fun xs hx hl => RunAt.cond fun h4 => RunAt.tabOf fun tq ks hcode htab => RunAt.ret fun Q E hQ => ?_
  have hec : env.code = .ref tq.2.1 := (EnvOk.cd g).elim (fun h => nomatch hcode.symm.trans h) fun h => h.trans hcode
  have gl : env.globals = mainGlobals := EnvOk.gl g
  have bi : env.builtins = builtinsNs := EnvOk.bi g
  rw [eval_method rfl rfl hline]
  refine wpAny_bind (Calls.Constant_str (wpAny_bind (wpAny_standAt (wpAny_bind (wpAny_holding (GM.join ?_))))))
  refine callWith_of (P := fun _ => True) rfl (fun _ _ => ⟨.machine, .inr (.inl rfl), .now⟩) ?_
  show wpAny _ _ (PySem.evalArgs _ true ((false, PySem.eval (Expr.GeneratorExp (Expr.Attribute (Expr.Name x q1) attr q2) [⟨Expr.Name x px, iter, [], 0⟩] gsc gpos) env) :: []) []) _ _ _
  refine Calls.evalArgs_plain (Calls.spliced_cons ?_)
  refine wpAny_GeneratorExp_walksQ hA.2.2.1 G.co (closureFor_none G.free) G.cell G.zero G.x G.kind (Nat.lt_of_le_of_lt (Nat.le_add_right _ _) hA.1) ?_ (plainIter_fold hc0.2.1)
  refine c1 ρ F _ (I.toks (s.toks + 1)) g _ E fun lv s₂ ρ₂ F₂ dl I₂ st₂ => ?_
  rw [(show lv = .ref (ρ₂ i) ∧ i < σ₁.n from dl).1]
  refine (I₂.atL hx).elim fun ws q => q.elim fun kk' q => ?_
  refine wpAny_pyIter_list (items := ws.toArray) ⟨_, q.1, rfl, kk', rfl⟩ ?_
  have I₃ := (I₂.grow (h' := s₂.heap.push (oIter (.ref (ρ₂ i)) 0)) (fun b o e => Heap.get?_push_of_some _ e) s₂.toks).1
  refine ⟨I₃.limit, (I₃.at htab).ex fun o₃ h3 (hT : TabO F₂ (ρ₂ tq.1) tq.2.1 tq.2.2 ks o₃) => ?_⟩
  cases hT with | mk m0 oc e hcF hh ht0 hk =>
  refine genCode hec (I₃.froz _ _ hcF) hh (e ▸ h3) ht0 fun code h₄ tk₄ more₂ hx₄ hP₄ ht₄ => ?_
  rw [Array.append_assoc] at hP₄ ht₄
  have I₄ := (tab_back (s' := { s₂ with heap := h₄, toks := tk₄ }) I₃ htab hx₄ hP₄ ht₄ rfl rfl I₃.gens fun _ _ e => e).1
  rw [gl, bi]
  refine I₄.looksB.here ?_
  have hIa : s₂.heap.get? s₂.heap.objs.size = none := Heap.get?_none_of_le (Nat.le_refl _)
  have notI : ∀ b o, s₂.heap.get? b = some o → b ≠ s₂.heap.objs.size := fun b o e h => noneOf (hIa.symm.trans (h ▸ e))
  have hPI : s₂.heap.objs.size ≠ ρ₂ tq.1 := (I₂.not0 hIa htab).symm
  have hxP : ρ₂ i ≠ ρ₂ tq.1 := I₂.ne hx htab fun e => by rw [e] at hx; exact nomatch Option.some.inj (hx.symm.trans htab)
  have keep₄ : ∀ b o, b ≠ ρ₂ tq.1 → s₂.heap.get? b = some o → h₄.get? b = some o := fun b o hb e => hx₄ b o hb (Heap.get?_push_of_some _ e)
  have hiter₄ : h₄.get? s₂.heap.objs.size = some (oIter (.ref (ρ₂ i)) 0) := hx₄ _ _ hPI (Heap.get?_push_size _ rfl)
  have hlist₄ := keep₄ _ _ hxP q.1
  have hst0 : h₄.IsListIter s₂.heap.objs.size (ρ₂ i) 0 ∧ h₄.IsList (ρ₂ i) ws.toArray := ⟨⟨_, hiter₄, rfl, rfl⟩, ⟨_, hlist₄, rfl, kk', rfl⟩⟩
  have hsz : ws.toArray.size = xs.length := by rw [List.size_toArray, q.2.length]
  refine ⟨s₂.heap.objs.size, [s₂.heap.objs.size, ρ₂ i], [s₂.heap.objs.size], ws.toArray.size, (fun j v => ws.toArray[j]? = some v), (fun j h => h.IsListIter s₂.heap.objs.size (ρ₂ i) j ∧ h.IsList (ρ₂ i) ws.toArray), (fun _ => true),
    JoinP X.K attr xs, rfl, fun A' hA' => Walks.list hA' _ _ (notI _ _ q.1) ws.toArray, hst0, ?_, I₄.limit, ?_, ?_, ?_⟩
  · intro b hb
    rcases List.mem_cons.mp hb with h | h
    · exact h ▸ Heap.lt_size hiter₄
    · exact List.mem_singleton.mp h ▸ Heap.lt_size hlist₄
  · exact fun hmem => I₂.limit.elim fun mc p => p.1.elim fun o p => p.elim fun es p => p.elim fun ep p => notI _ _ p.1 (List.mem_singleton.mp hmem)
  · intro href hk
    refine ⟨fun A' E' j v s₅ m₂ _ _ _ _ _ => ?_, fun A' E' j v s₅ m₂ hA' hP _ hn hmx hkeep => ?_⟩
    · rw [List.forIn_nil]
      exact wpAny_pure ⟨rfl, s₅.heap, s₅.toks, rfl, fun _ _ e => e⟩
    · rw [List.getElem?_toArray] at hP
      refine (q.2.back hP).elim fun av ha => (Option.isSome_iff_exists.mp (h4.1 av (List.mem_of_getElem? ha.1))).elim fun st hst => ?_
      have keepF : ∀ b o, F₂ b = some o → s₅.heap.get? b = some o := fun b o e => by
        have e2 := I₂.froz b o e
        have e4 := keep₄ b o (fun hb => I₂.notF e htab hb.symm) e2
        exact hkeep b (List.mem_range.mpr (Heap.lt_size e4)) (fun hm => notI _ _ e2 (List.mem_singleton.mp hm)) o (hk b o e4)
      exact wpAny_mono (join_elt (x := x) (attr := attr) keepF (fun b o e => keepF b o (I₂.base.K b o e)) ha.2 hst G hc0.2.2 rfl hn hmx) (fun y s' p => ⟨p.1.elim fun u e => ⟨av, st, u, ha.1, hst, e⟩, p.2⟩) fun _ _ e => e
  · intro a h₅ tk gs hbare hlt hsz5 hkeep W4 G4
    refine Calls.spliced_nil ⟨trivial, ?_⟩
    show wpAny _ A (PySem.call (.builtin "str.join") [.str sep _, .ref a]) Q E _
    rw [pass_all] at W4
    refine SC.joinGen W4.in4_2 (fun _ _ h => h.1.typeIs) G4 (fun b hb => ?_) (.head _) (fun j v p => p.elim fun i p => p.2.elim fun av p => p.elim fun st p => p.elim fun u p => ⟨st, u, p.2.2⟩) (fun s' l hm hl => ?_) ?_
    · show b < h₅.objs.size
      have hlt' : h₄.objs.size < a := hlt
      rw [hsz5]
      rcases List.mem_cons.mp hb with hb | hb
      · rw [hb]; exact Nat.lt_succ_self a
      · rcases List.mem_cons.mp hb with hb | hb
        · rw [show b = h₄.objs.size from hb]; exact Nat.lt_succ_of_lt hlt'
        · exact Nat.lt_succ_of_lt (Nat.lt_trans (List.mem_range.mp hb) hlt')
    · have h1 : (strValues l).toArray.size = _ := hl.1
      rw [List.length_range, hsz, List.size_toArray] at h1
      have hlen : l.length = xs.length := by rw [← h1]; exact (List.length_map ..).symm
      rw [join_items hsz hlen hl.2]
      refine ⟨h4.2.1, fun t' k => ?_⟩
      have keepM : ∀ b o, h₄.get? b = some o → b ≠ s₂.heap.objs.size → s'.heap.get? b = some o := fun b o e hb => hm.heap b o (fun hmem => by
        rcases List.mem_cons.mp hmem with h | h
        · exact noneOf ((Heap.get?_none_of_le (Nat.le_refl _)).symm.trans ((show b = h₄.objs.size from h) ▸ e))
        · exact hb (List.mem_singleton.mp h)) (hkeep b o e)
      have hgq : GenOnlyQ s₂.gens.size (s₂.gens.push gs) s'.gens := hm.gens
      have hg' : ∀ (i : Nat) x, s₂.gens[i]? = some x → s'.gens[i]? = some x := fun i x e => by
        have hlt := (Array.getElem?_eq_some_iff.mp e).1
        have e' : (s₂.gens.push gs)[i]? = some x := (Array.getElem?_push_lt hlt).trans ((Array.getElem?_eq_getElem hlt).symm.trans e)
        exact hgq.elim (fun h => h ▸ e') fun h => (h.1.2 i (Nat.ne_of_lt hlt)).trans e'
      have r := tab_back (s' := { s' with toks := k }) I₂ htab (fun b o hb e => keepM b o (keep₄ b o hb e) (notI b o e)) (keepM _ _ hP₄ hPI.symm) ht₄ hm.drawn hm.os (hgq.bare (I₂.gens.push hbare)) hg'
      exact hQ _ _ ρ₂ F₂ ⟨_, rfl⟩ r.1 (((Stp.toks I.ids (s.toks + 1)).trans st₂).trans r.2)
    · rw [List.length_range, hsz]
      exact Nat.le_trans h4.2.2 (by decide)
end
noncomputable def freeGo (cells : List (Str × Nat)) (names : List (Str × NameKind)) (acc : List (Str × Nat)) : Option (List (Str × Nat)) := names.foldr (fun q k acc => _root_.cond (q.2 == .free) ((cells.lookup q.1).bind fun i => k ((q.1, i) :: acc)) (k acc)) some acc
noncomputable def findKeys (c : Addr) (l : List (Nat × Cell)) : Option Nat := l.foldr (fun p k => onCTab p.2 (fun c' _ ks => _root_.cond (c' == c && ks.isSome) (some p.1) k) k) none
noncomputable def plainDef (args : Arguments) : Prop := ∀ env, annTrees args none env = [] ∧ defaultsOf args env = ([], [])
noncomputable def eDef (ae : AEnv) (name : Str) (args : Arguments) (body : List Stmt) (sc : Scope) (pos : Pos) : EM AFlow := onVRef ae.code (fun c => EM.bind (EM.opt (freeGo ae.cells sc.names [])) fun cl => EM.bind (EM.chk (docOf body).isNone) fun _ => EM.bind (EM.get fun σ => findKeys c σ.objs) fun i => EM.bind (EM.cellAs asTab i) fun t => EM.bind (EM.chk (t.1 == c)) fun _ =>
  EM.bind (EM.opt t.2.2) fun l => EM.bind (EM.chk (!(l.contains ((pos.line : Int), (pos.col : Int))))) fun _ => EM.bind (EM.upd fun σ => σ.set i (.tab c t.2.1 (some (((pos.line : Int), (pos.col : Int)) :: l)))) fun _ => EM.bind (EM.cond (plainDef args)) fun _ => EM.bind (eBind ae name (.clo name args body sc cl)) fun _ => EM.ret .next) EM.fail
theorem codeAmong_more {pos p0 : Pos} {c : Value} (l : List Value) (h : TriplesOk l) (hn : codeAmong pos l = none) (hne : ¬ ((p0.line : Int) = pos.line ∧ (p0.col : Int) = pos.col)) : codeAmong pos (l ++ [rawInt p0.line, rawInt p0.col, c]) = none := by
  fun_induction TriplesOk l with
  | case1 =>
    simp only [List.nil_append, codeAmong, rawInt]
    rw [if_neg]
    simpa using hne
  | case2 a t b u x rest ih =>
    simp only [List.cons_append, codeAmong] at hn ⊢
    split at hn
    · exact noneOf hn.symm
    · rename_i hc; rw [if_neg hc]; exact ih h hn
  | case3 l h1 h2 => exact h.elim
section
variable {X : Ctx} {A : Around} {ρ : Rho} {F : Fz} {σ : St} {s : Shared} {Γ : Kn} {ae : AEnv} {env : Env}
theorem map_look {x : Str} {i : Nat} : ∀ {l : List (Str × Nat)}, l.lookup x = some i → (mapCl ρ l).lookup x = some (ρ i)
  | [], h => noneOf h
  | p :: l, h => by
    rw [List.lookup_cons] at h
    show List.lookup x ((p.1, ρ p.2) :: mapCl ρ l) = _
    rw [List.lookup_cons]
    cases e : x == p.1 with
    | true => rw [e] at h; exact congrArg (fun j => some (ρ j)) (Option.some.inj h)
    | false => rw [e] at h; exact map_look h
theorem closure_raw {M : Model} {E : Value → Shared → Prop} (hcells : env.cells = mapCl ρ ae.cells) : ∀ (names : List (Str × NameKind)) (acc cl : List (Str × Nat)), freeGo ae.cells names acc = some cl → ∀ (Q : List (Str × Addr) → Shared → Prop), Q (mapCl ρ cl) s →
    wpAny M A (forIn names (mapCl ρ acc) (fun (x : Str × NameKind) (cs : List (Str × Addr)) => (do
      if x.2 == .free then pure (.yield ((x.1, ← PySem.cellOf env x.1) :: cs)) else pure (.yield cs) : Sem (ForInStep (List (Str × Addr)))))) Q E s
  | [], acc, cl, h, Q, hQ => by
    rw [List.forIn_nil, Option.some.inj h]
    exact wpAny_pure hQ
  | q :: r, acc, cl, h, Q, hQ => by
    rw [List.forIn_cons]
    have e : freeGo ae.cells (q :: r) acc = _root_.cond (q.2 == .free) ((ae.cells.lookup q.1).bind fun i => freeGo ae.cells r ((q.1, i) :: acc)) (freeGo ae.cells r acc) := rfl
    rw [e] at h
    cases hk : q.2 == .free with
    | false =>
      rw [hk] at h
      rw [if_neg Bool.false_ne_true]
      exact wpAny_bind (wpAny_pure (closure_raw hcells r acc cl h Q hQ))
    | true =>
      rw [hk] at h
      rw [if_pos rfl]
      exact (Option.bind_eq_some_iff.mp h).elim fun i p => wpAny_bind (wpAny_bind (wpAny_cellOf (hcells ▸ map_look p.1) (wpAny_pure (closure_raw hcells r ((q.1, i) :: acc) cl p.2 Q hQ))))
theorem freeGo_lt {N : Nat} {cells : List (Str × Nat)} (hc : ∀ p ∈ cells, p.2 < N) : ∀ (names : List (Str × NameKind)) (acc cl : List (Str × Nat)), freeGo cells names acc = some cl → (∀ p ∈ acc, p.2 < N) → ∀ p ∈ cl, p.2 < N
  | [], acc, cl, h, ha => Option.some.inj h ▸ ha
  | q :: r, acc, cl, h, ha => by
    have e : freeGo cells (q :: r) acc = _root_.cond (q.2 == .free) ((cells.lookup q.1).bind fun i => freeGo cells r ((q.1, i) :: acc)) (freeGo cells r acc) := rfl
    rw [e] at h
    cases hk : q.2 == .free with
    | false => rw [hk] at h; exact freeGo_lt hc r acc cl h ha
    | true =>
      rw [hk] at h
      refine (Option.bind_eq_some_iff.mp h).elim fun i p => freeGo_lt hc r _ cl p.2 fun z hz => ?_
      exact (List.mem_cons.mp hz).elim (fun e => e ▸ hc _ (mem_of_assoc p.1)) (ha z)
theorem code_is {h : Heap} {c P : Addr} {oc : Obj} {ps : Array Value} (hh : CodeH c P oc) (ho : h.get? c = some oc) (hP : h.get? P = some (oTab ps)) (ht : TriplesOk ps.toList) : h.IsCode c P ps ∧ h.TableAt c P ps := by
  cases hh with | mk h₀ ps₀ ps₁ e x y =>
  obtain ⟨o, vs, file, tf, flags, tg, inF, text, tt, op, a, r1, r2, r3, r4, r5, r6, _, _, _, hne⟩ := x
  refine ⟨⟨oc, vs, file, tf, flags, tg, inF, text, tt, _, ho, Option.some.inj (a.symm.trans e) ▸ r1, r2, r3, r4, r5, r6, hP, rfl, ht, hne⟩, y.1.elim fun o q => q.elim fun vs q => ⟨o, vs, Option.some.inj (e.symm.trans q.1) ▸ ho, q.2⟩, hP⟩
theorem Sim.defn (L : Lib X) (name : Str) (args : Arguments) (body : List Stmt) (sc : Scope) (pos : Pos) : SimS X A ae env (eDef ae name args body sc pos) (.FunctionDef name args body [] none [] sc none name pos) := by
  unfold eDef
  refine onVRef_ind (e := ae.code) (P := fun y v => ae.code = v → SimS X A ae env y (.FunctionDef name args body [] none [] sc none name pos)) (fun c hcode => ?_) (fun _ => Sim.fail) rfl
  refine Sim.ofRun fun σ ρ F s I g => RunAt.opt fun cl hfree => RunAt.chk fun hdoc => RunAt.get fun i hf => RunAt.cellAs asTab_some fun t htab => RunAt.chk fun hc => RunAt.opt fun l hl => RunAt.chk fun hk => RunAt.upd (RunAt.cond fun hp => RunAt.bind (RunAt.all fun fv => Sim.at (X := X) (A := A) (Sim.bindName (env := env) (y := name) (Γ := (EnvK X ae env).and (RDen (.clo name args body sc cl) fv)) (Kn.fst (Kn.le_refl _)) (Kn.snd (Kn.le_refl _)))) fun _ σ₂ c2 => RunAt.ret fun Q E hQ => ?_)
  rw [eq_of_beq hc, hl] at htab
  rw [Bool.not_eq_true'] at hk
  have hcells : env.cells = mapCl ρ ae.cells := EnvOk.cells g
  have gl : env.globals = mainGlobals := EnvOk.gl g
  have bi : env.builtins = builtinsNs := EnvOk.bi g
  have hec : env.code = .ref c := (EnvOk.cd g).elim (fun h => nomatch hcode.symm.trans h) fun h => h.trans hcode
  rw [exec_def, (hp env).1, (hp env).2]
  refine wpAny_bind (wpAny_standAt (wpAny_bind (wpAny_holding ?_)))
  refine wpAny_bind (wpAny_pure (wpAny_bind (wpAny_holding (wpAny_pure (wpAny_holding (wpAny_bind (wpAny_pure ?_)))))))
  rw [makeFunction_eq]
  simp only [List.zip_nil_right, List.filterMap_nil, List.isEmpty_nil, if_true, pure_bind]
  show wpAny _ A (makeTail name (qualnameIn env name name) args (.stmts body) sc env .none .none none pos pos.line) _ _ s
  unfold makeTail
  refine wpAny_bind (m := closureFor sc env) ?_
  unfold closureFor
  refine wpAny_bind (closure_raw (ae := ae) hcells sc.names [] cl hfree _ (wpAny_pure ?_))
  have key : ∀ (K : Value → Sem Value) (P : Value → Shared → Prop), (∀ ct h₀, (∀ b o, s.heap.get? b = some o → h₀.get? b = some o) → wpAny (model X.prog X.w) A (K ct) P E { s with heap := h₀ }) →
      wpAny (model X.prog X.w) A (if (mapCl ρ cl).isEmpty = true then pure .none >>= K else newTextTuple (((mapCl ρ cl).mergeSort fun a b => a.1.cps.toList ≤ b.1.cps.toList).map (.ref ·.2)) >>= K) P E s := fun K P hP =>
    ite_P (P := fun t => wpAny (model X.prog X.w) A t P E s) (fun _ => wpAny_bind (wpAny_pure (hP _ s.heap fun _ _ e => e))) fun _ => wpAny_bind (wpAny_newTextTuple (hP _ _ fun b o e => Heap.get?_push_of_some _ e))
  refine key _ _ fun ct h₀ hk₀ => ?_
  have r₀ := I.grow hk₀ s.toks
  refine (r₀.1.at htab).ex fun o₀ h0 (hT : TabO F (ρ i) c t.2.1 (some l) o₀) => ?_
  cases hT with | mk more oc e hcF hh ht nk =>
  rw [e] at h0
  have ic := code_is hh (r₀.1.froz _ _ hcF) h0 ht
  refine wpAny_bind (wpAny_functionCodeX hec ic.1 ic.2 (nk l rfl pos fun h => by rw [List.contains_iff_mem.mpr h] at hk; exact ff hk.symm) fun cc h₁ tk hx hge hlt ic₁ hrec tat₁ htb => ?_)
  have hl2 : ((t.2.1 ++ more) ++ #[rawInt pos.line, rawInt pos.col, Value.ref cc]).toList = (t.2.1 ++ more).toList ++ [rawInt pos.line, rawInt pos.col, .ref cc] := Array.toList_append ..
  have nk₁ : NoKey ((t.2.1 ++ more) ++ #[rawInt pos.line, rawInt pos.col, .ref cc]).toList (some (((pos.line : Int), (pos.col : Int)) :: l)) := fun l' e' p2 hp2 => by
    rw [← Option.some.inj e', List.mem_cons, not_or] at hp2
    rw [hl2]
    exact codeAmong_more _ ht (nk l rfl p2 hp2.2) fun q => hp2.1 (by rw [← q.1, ← q.2])
  have ht₁ : TriplesOk ((t.2.1 ++ more) ++ #[rawInt pos.line, rawInt pos.col, .ref cc]).toList := by rw [hl2]; exact TriplesOk_snoc _ _ _ _ ht
  have hP₁ : h₁.get? (ρ i) = some (oTab ((t.2.1 ++ more) ++ #[rawInt pos.line, rawInt pos.col, .ref cc])) := tat₁.2
  rw [Array.append_assoc] at hP₁ ht₁ nk₁
  have r₁ := r₀.1.turn (c' := .tab c t.2.1 (some (((pos.line : Int), (pos.col : Int)) :: l))) (s' := { s with heap := h₁, toks := tk }) htab hx ⟨_, hP₁, more ++ #[rawInt pos.line, rawInt pos.col, .ref cc], oc, rfl, hcF, hh, ht₁, nk₁⟩ rfl rfl rfl r₀.1.gens (fun _ _ e => e)
  rw [gl, bi]
  refine wpAny_bind (r₁.1.looksB.here ?_)
  refine L.nm.elim fun vn hvn => wpAny_bind ((Looks.of_peek (M := model X.prog X.w) r₁.1.Kin hvn).here ?_)
  dsimp only
  rw [Option.isNone_iff_eq_none.mp hdoc]
  refine wpAny_bind (wpAny_pure ?_)
  simp only [newObj]
  refine wpAny_bind (wpAny_alloc (wpAny_pure ?_))
  refine hrec.elim fun c2' q => q.elim fun oc2 q => q.elim fun vs q => q.elim fun tq q => ?_
  rw [← Value.ref.inj q.1] at q
  have r₂ := r₁.1.freezeOld q.2.1 fun j d hj => (St.set_old htab hj).elim fun d' hd => r₀.1.not0 (Heap.get?_none_of_le hge) hd
  have r₃ := r₂.1.freeze (a := h₁.objs.size) (o := { cls := .type "function", data := .func (cloData name (qualnameIn env name name) args body sc (mapCl ρ cl) (vn.getD .none) (.ref cc) ct) }) (h' := h₁.push { cls := .type "function", data := .func (cloData name (qualnameIn env name name) args body sc (mapCl ρ cl) (vn.getD .none) (.ref cc) ct) }) (Heap.get?_none_of_le (Nat.le_refl _)) (fun b o e => Heap.get?_push_of_some _ e) (Heap.get?_push_size _ rfl) tk
  have st03 := ((r₀.2.trans r₁.2).trans r₂.2).trans r₃.2
  have hcl : ∀ p ∈ cl, p.2 < σ.n := freeGo_lt (EnvOk.cl g) sc.names [] cl hfree (fun p hp => nomatch hp)
  refine wpAny_bind (wpAny_standAt (wpAny_bind ?_))
  refine c2 (.ref h₁.objs.size) ρ _ _ r₃.1 ⟨(EnvK X ae env).mono st03.le st03.same st03.sub g, ⟨h₁.objs.size, qualnameIn env name name, _, vn.getD .none, .ref cc, ct, rfl, if_pos rfl, rfl, rfl, ⟨cc, oc2, vs, tq, rfl, r₃.2.sub _ _ (if_pos rfl), q.2.2.1, q.2.2.2⟩, hcl⟩⟩ _ E fun _ s₄ ρ₄ F₄ _ I₄ st₄ => ?_
  exact wpAny_pure (hQ _ s₄ ρ₄ F₄ rfl I₄ (st03.trans st₄))
end
noncomputable def leafA (a : AV) : Bool := onInt a (fun _ => true) <| onStr a (fun _ => true) <| onBool a (fun _ => true) <| isNoneV a
noncomputable def flatN (d : Nat) : AV → Bool := Nat.rec (motive := fun _ => AV → Bool) leafA (fun _ ih a => onTup a (fun xs => xs.all ih) (leafA a)) d
noncomputable def intIn (k : Int) (xs : List AV) : Option Bool := xs.foldr (fun a o => onInt a (fun j => o.map fun r => j == k || r) none) (some false)
noncomputable def eEqL (i j : Nat) : EM AV := EM.bind (eCellL i) fun xs => EM.bind (eCellL j) fun ys => EM.retIf (xs = ys ∧ xs.all (flatN 3) = true) (.bool true)
noncomputable def eCmpX (op : CmpOp) (a b : AV) : EM AV := onRef a (fun i => onRef b (fun j => ifOp op .Eq (eEqL i j) EM.fail) (eCmp op (.ref i) b)) <| onTup b (fun xs => ifOp op .In (onInt a (fun k => EM.bind (EM.opt (intIn k xs)) fun b => EM.ret (.bool b)) EM.fail) EM.fail) (eCmp op a b)
noncomputable def eAddX (a b : AV) : EM AV := onTup a (fun xs => onTup b (fun ys => EM.bind (EM.cond (xs.isEmpty = false ∧ ys.isEmpty = false)) fun _ => eNewTuple (xs ++ ys)) EM.fail) <| onRef a (fun i => onRef b (fun j => EM.bind (eCellL i) fun xs => EM.bind (eCellL j) fun ys => eNewList (xs ++ ys)) EM.fail) (eBin .Add a b)
noncomputable def eBinX (op : Operator) (a b : AV) : EM AV := ifOp op .Add (eAddX a b) (eBin op a b)
section
variable {X : Ctx} {A : Around} {ρ : Rho} {F : Fz} {σ : St} {s : Shared} {Γ : Kn}
theorem eqAt_leaf {n : Nat} {A : Around} {a : AV} {v w : Value} : leafA a = true → Den n ρ F a v → Den n ρ F a w → SeqAt.EqAt A s v w true :=
  onInt_ind (P := fun b a => b = true → Den n ρ F a v → Den n ρ F a w → SeqAt.EqAt A s v w true) (fun i _ (dv : ∃ t, v = .int i t) (dw : ∃ t, w = .int i t) => dv.elim fun t e => dw.elim fun u e' => by have := SeqAt.EqAt.int_int (A := A) (s := s) i t i u; rw [beq_self_eq_true] at this; rw [e, e']; exact this) <|
  onStr_ind (P := fun b a => b = true → Den n ρ F a v → Den n ρ F a w → SeqAt.EqAt A s v w true) (fun i _ (dv : ∃ t, v = .str i t) (dw : ∃ t, w = .str i t) => dv.elim fun t e => dw.elim fun u e' => by have := SeqAt.EqAt.str_str (A := A) (s := s) i t i u; rw [beq_self_eq_true] at this; rw [e, e']; exact this) <|
  onBool_ind (P := fun b a => b = true → Den n ρ F a v → Den n ρ F a w → SeqAt.EqAt A s v w true) (fun i _ (dv : v = .bool i) (dw : w = .bool i) => by rw [dv, dw]; exact SeqAt.EqAt.same _) fun h dv dw => by rw [isNoneV_is h dv, isNoneV_is h dw]; exact SeqAt.EqAt.same _
theorem Dens.both {n : Nat} {xs : List AV} {vs ws : List Value} (dv : Dens n ρ F xs vs) (dw : Dens n ρ F xs ws) {P : Value → Value → Prop} (h : ∀ a ∈ xs, ∀ v w, Den n ρ F a v → Den n ρ F a w → P v w) (j : Nat) (h1 : j < vs.toArray.size) (h2 : j < ws.toArray.size) : P vs.toArray[j] ws.toArray[j] :=
  (dv.back (i := j) (v := vs.toArray[j]) (List.getElem?_eq_getElem (by rw [List.size_toArray] at h1; exact h1))).elim fun a p => (dw.nth p.1).elim fun w q => by
    have hw : some w = some ws.toArray[j] := q.1.symm.trans (List.getElem?_eq_getElem (by rw [List.size_toArray] at h2; exact h2))
    exact h a (List.mem_of_getElem? p.1) _ _ p.2 (Option.some.inj hw ▸ q.2)
theorem Dens.isEmpty {n : Nat} : ∀ {xs : List AV} {vs : List Value}, Dens n ρ F xs vs → xs.isEmpty = vs.isEmpty
  | [], vs, d => by rw [show vs = [] from d]; rfl
  | _ :: _, [], d => d.elim
  | _ :: _, _ :: _, _ => rfl
theorem in1_units (B : Around) : B.in1.units ≤ B.units + 1 := by cases B; exact Nat.le_refl _
theorem eqAt_flat {n : Nat} (hf : ∀ a o, F a = some o → s.heap.get? a = some o) (d : Nat) : ∀ (A : Around) (a : AV) (v w : Value), A.units + d < cLine → flatN d a = true → Den n ρ F a v → Den n ρ F a w → SeqAt.EqAt A s v w true := by
  induction d with
  | zero => exact fun A a v w _ h => eqAt_leaf h
  | succ d ih =>
    intro A a v w hu
    refine onTup_ind (P := fun b a => b = true → Den n ρ F a v → Den n ρ F a w → SeqAt.EqAt A s v w true) (fun xs h dv dw => ?_) eqAt_leaf
    cases den_tup dv with | mk a vs k e ha hvs =>
    cases den_tup dw with | mk b ws k2 e2 hb hws =>
    rw [e, e2]
    by_cases hab : a = b
    · rw [hab]; exact SeqAt.EqAt.same _
    · have key := SeqAt.RcAt.tuples (A := A) (s := s) (l := a) (b := b) (items := vs.toArray) (items2 := ws.toArray) (e := fun _ => true) ⟨_, hf _ _ ha, rfl, _, rfl⟩ ⟨_, hf _ _ hb, rfl, _, rfl⟩ (Nat.lt_of_le_of_lt (Nat.le_add_right _ _) hu)
        (Dens.both hvs hws fun x hx v w => ih A.in1 x v w (Nat.lt_of_le_of_lt (Nat.le_trans (Nat.add_le_add_right (in1_units A) d) (Nat.le_of_eq (Nat.succ_add _ _))) hu) (List.all_eq_true.mp h x hx))
      have e1 : ((List.range (min vs.toArray.size ws.toArray.size)).all (fun _ => true) && vs.toArray.size == ws.toArray.size) = true := by
        rw [List.size_toArray, List.size_toArray, ← hvs.length, ← hws.length, beq_self_eq_true, Bool.and_true]
        exact List.all_eq_true.mpr fun _ _ => rfl
      rw [e1] at key
      exact SeqAt.EqAt.of_refs hab key
noncomputable def isI (k : Int) (v : Value) : Bool := match v with | .int j _ => j == k | _ => false
theorem intIn_any {n : Nat} {k : Int} {t : Tok} : ∀ {xs : List AV} {vs : List Value} {b : Bool}, Dens n ρ F xs vs → intIn k xs = some b → vs.any (isI k) = b ∧ ∀ A : Around, ∀ y ∈ vs, SeqAt.EqAt A s y (.int k t) (isI k y)
  | [], vs, b, d, h => by rw [show vs = [] from d]; exact ⟨Option.some.inj h, fun _ y hy => nomatch hy⟩
  | _ :: _, [], _, d, _ => d.elim
  | a :: xs, v :: vs, b, d, h => onInt_ind (P := fun (o : Option Bool) a => o = some b → Den n ρ F a v → (v :: vs).any (isI k) = b ∧ ∀ A : Around, ∀ y ∈ v :: vs, SeqAt.EqAt A s y (.int k t) (isI k y)) (fun j h (dv : ∃ t, v = .int j t) => (Option.map_eq_some_iff.mp h).elim fun c q => dv.elim fun u e => by
      have ih := intIn_any (t := t) d.2 q.1
      rw [List.any_cons, ih.1, e]
      exact ⟨q.2, fun A y hy => (List.mem_cons.mp hy).elim (fun e => by rw [e]; exact SeqAt.EqAt.int_int _ _ _ _) (ih.2 A y)⟩) (fun h => noneOf h) h d.1
theorem Sim.cmpX {op : CmpOp} {a b : AV} {v w : Value} (hA : A.units + 10 < cLine) (ha : Γ.le (RDen a v)) (hb : Γ.le (RDen b w)) : Sim X A Γ RDen (eCmpX op a b) (compareOp op v w) := by
  refine onRef_ind (P := fun x a => Γ.le (RDen a v) → Sim X A Γ RDen x (compareOp op v w)) (fun i ha => ?_) (fun ha => ?_) ha
  · refine onRef_ind (P := fun x b => Γ.le (RDen b w) → Sim X A Γ RDen x (compareOp op v w)) (fun j hb => ?_) (fun hb => Sim.cmp ha hb) hb
    refine ifOp_ind (P := fun x op => Sim X A Γ RDen x (compareOp op v w)) (Sim.ofRun fun σ ρ F s I g => RunAt.cellL fun xs hx hl => RunAt.cellL fun ys hy hl2 => RunAt.retIf fun h => ?_) Sim.fail
    rw [(show v = .ref (ρ i) ∧ i < σ.n from ha _ _ _ g).1, (show w = .ref (ρ j) ∧ j < σ.n from hb _ _ _ g).1]
    rw [← h.1] at hy
    refine (I.atL hx).elim fun vs q => q.elim fun k1 q => (I.atL hy).elim fun ws p => p.elim fun k2 p => Goes.same I fun Q E hQ => ?_
    refine SeqAt.eq_listAt (items := vs.toArray) (items2 := ws.toArray) (e := fun _ => true) ⟨_, q.1, rfl, _, rfl⟩ ⟨_, p.1, rfl, _, rfl⟩ (by rw [List.size_toArray, List.size_toArray, ← q.2.length, p.2.length]) (Nat.lt_of_le_of_lt (Nat.le_add_right _ _) hA)
      (Dens.both q.2 p.2 fun x hx v w => eqAt_flat I.froz 3 A.in1 x v w (Nat.lt_of_le_of_lt (Nat.le_trans (Nat.add_le_add_right (in1_units A) 3) (by rw [Nat.add_assoc]; exact Nat.add_le_add_left (by decide) _)) hA) (List.all_eq_true.mp h.2 x hx)) ?_
    rw [show ((List.range vs.toArray.size).all fun _ => true) = true from List.all_eq_true.mpr fun _ _ => rfl]
    exact hQ _ rfl
  · refine onTup_ind (P := fun x b => Γ.le (RDen b w) → Sim X A Γ RDen x (compareOp op v w)) (fun xs hb => ?_) (fun hb => Sim.cmp ha hb) hb
    refine ifOp_ind (P := fun x op => Sim X A Γ RDen x (compareOp op v w)) (Sim.caseInt (fun v => compareOp .In v w) ha (fun k t => Sim.opt fun b hk => Sim.ret1 fun ρ F σ s I g => ?_) Sim.fail) Sim.fail
    cases den_tup (hb _ _ _ g) with | mk a ws k2 e hw dw =>
    have h := intIn_any (s := s) (t := t) dw hk
    rw [e]
    refine Goes.same I fun Q E hQ => SeqAt.in_tupleAt (items := ws.toArray) (isI k) ⟨_, I.froz _ _ hw, rfl, _, rfl⟩ (fun y hy => h.2 _ y (List.mem_toArray.mp hy)) ?_
    rw [List.any_toArray, h.1]
    exact hQ _ rfl
theorem Sim.addX {a b : AV} {v w : Value} (ha : Γ.le (RDen a v)) (hb : Γ.le (RDen b w)) : Sim X A Γ RDen (eAddX a b) (binaryOp .Add v w) := by
  refine onTup_ind (P := fun x a => Γ.le (RDen a v) → Sim X A Γ RDen x (binaryOp .Add v w)) (fun xs ha => ?_) (fun ha => ?_) ha
  · refine onTup_ind (P := fun x b => Γ.le (RDen b w) → Sim X A Γ RDen x (binaryOp .Add v w)) (fun ys hb => ?_) (fun _ => Sim.fail) hb
    refine Sim.ofRun fun σ ρ F s I g => RunAt.cond fun h => RunAt.retIf fun hl => ?_
    cases den_tup (ha _ _ _ g) with | mk a vs k e hx dv =>
    cases den_tup (hb _ _ _ g) with | mk b ws k2 e2 hy dw =>
    have h1 := h.1
    have h2 := h.2
    rw [Dens.isEmpty dv] at h1
    rw [Dens.isEmpty dw] at h2
    have d := dv.app dw
    rw [e, e2]
    refine Goes.to fun Q E hQ => P.add_tuple (I.froz _ _ hx) (I.froz _ _ hy) (by rw [List.isEmpty_toArray, h1]; exact Bool.false_ne_true) (by rw [List.isEmpty_toArray, h2]; exact Bool.false_ne_true) ?_ (by rw [List.size_toArray, List.size_toArray, ← List.length_append, ← d.length]; exact Nat.le_trans hl (by decide))
    rw [List.append_toArray]
    have r := I.freeze (a := s.heap.objs.size) (o := oTup (vs ++ ws) 0) (h' := s.heap.push (oTup (vs ++ ws) 0)) (Heap.get?_none_of_le (Nat.le_refl _)) (fun b o e => Heap.get?_push_of_some _ e) (Heap.get?_push_size _ rfl) s.toks
    exact hQ _ _ ρ _ (.tup _ _ (vs ++ ws) 0 (if_pos rfl) (d.step r.2)) r
  refine onRef_ind (P := fun x a => Γ.le (RDen a v) → Sim X A Γ RDen x (binaryOp .Add v w)) (fun i ha => ?_) (fun ha => Sim.bin ha hb) ha
  refine onRef_ind (P := fun x b => Γ.le (RDen b w) → Sim X A Γ RDen x (binaryOp .Add v w)) (fun j hb => ?_) (fun _ => Sim.fail) hb
  refine Sim.ofRun fun σ ρ F s I g => RunAt.cellL fun xs hx hl => RunAt.cellL fun ys hy hl2 => RunAt.cond fun h => RunAt.push (RunAt.ret ?_)
  rw [(show v = .ref (ρ i) ∧ i < σ.n from ha _ _ _ g).1, (show w = .ref (ρ j) ∧ j < σ.n from hb _ _ _ g).1]
  refine (I.atL hx).elim fun vs q => q.elim fun k1 q => (I.atL hy).elim fun ws p => p.elim fun k2 p => Goes.to fun Q E hQ => ?_
  have d := q.2.app p.2
  refine P.add_list q.1 p.1 ?_ (by rw [List.size_toArray, List.size_toArray, ← List.length_append, ← d.length]; exact Nat.le_trans h (by decide))
  rw [List.append_toArray]
  exact hQ _ _ _ F (Den.fresh ρ F σ _ _) (I.push (a := s.heap.objs.size) (c := .list (xs ++ ys)) (h' := s.heap.push (oList (vs ++ ws) 0)) (Heap.get?_none_of_le (Nat.le_refl _)) (fun b o e => Heap.get?_push_of_some _ e)
    (.ofL (vs := vs ++ ws) (k := 0) (Heap.get?_push_size _ rfl) (d.mono (Nat.le_succ _) (fun i hi => Rho.put_lt ρ _ hi) (fun _ _ e => e))) s.toks)
theorem Sim.binX {op : Operator} {a b : AV} {v w : Value} (ha : Γ.le (RDen a v)) (hb : Γ.le (RDen b w)) : Sim X A Γ RDen (eBinX op a b) (binaryOp op v w) :=
  ifOp_ind (P := fun x op => Sim X A Γ RDen x (binaryOp op v w)) (Sim.addX ha hb) (Sim.bin ha hb)
noncomputable def eBinE (r : Rec) (ae : AEnv) (l : Expr) (op : Operator) (rr : Expr) : EM AV := EM.bind (r.ev ae l) fun a => EM.bind (r.ev ae rr) fun b => eBinX op a b
noncomputable def eCmpE (r : Rec) (ae : AEnv) (l : Expr) (op : CmpOp) (rr : Expr) : EM AV := _root_.cond (behindInMarks op rr) EM.fail (EM.bind (r.ev ae l) fun a => EM.bind (r.ev ae rr) fun b => eCmpX op a b)
theorem Sim.binE {r : Rec} {n : Nat} {ae : AEnv} {env : Env} (S : Sound X r n) (hA : Room X A n) (l : Expr) (op : Operator) (rr : Expr) (p : Pos) : SimE X A ae env (eBinE r ae l op rr) (.BinOp l op rr p) := by
  unfold SimE
  rw [eval_BinOp]
  exact Sim.bind (S.ev A hA ae env l) fun a av => Sim.bind (Sim.holding ((S.ev A hA ae env rr).weaken (Kn.fst (Kn.le_refl _)))) fun b bv => Sim.standAt (Sim.operate (Sim.binX (Kn.fst (Kn.snd (Kn.le_refl _))) (Kn.snd (Kn.le_refl _))))
theorem Sim.cmpE {r : Rec} {n : Nat} {ae : AEnv} {env : Env} (S : Sound X r n) (hA : Room X A n) (hu : A.units + 10 < cLine) (l : Expr) (op : CmpOp) (rr : Expr) (p : Pos) : SimE X A ae env (eCmpE r ae l op rr) (.Compare l [op] [rr] p) := by
  unfold eCmpE
  cases hm : behindInMarks op rr with
  | true => exact Sim.fail
  | false =>
    unfold SimE
    rw [eval_Compare1, markedBehindIn_of_false hm]
    exact Sim.bind (S.ev A hA ae env l) fun a av => Sim.bind (Sim.holding ((S.ev A hA ae env rr).weaken (Kn.fst (Kn.le_refl _)))) fun b bv => Sim.standAt (Sim.operate (Sim.cmpX hu (Kn.fst (Kn.snd (Kn.le_refl _))) (Kn.snd (Kn.le_refl _))))
end
noncomputable def pickG {α : Type} (xs : List α) (lo hi : Option Int) : List α :=
  (sliceRange (sliceBounds lo hi none xs.length).1 (sliceBounds lo hi none xs.length).2.1 (sliceBounds lo hi none xs.length).2.2).filterMap (xs[·]?)
noncomputable def ePart (r : Rec) (ae : AEnv) (o : Option Expr) : EM (Option Int) := onSome o (fun e => EM.bind (r.ev ae e) fun a => onInt a (fun i => EM.ret (some i)) EM.fail) (EM.ret none)
noncomputable def eParts (r : Rec) (ae : AEnv) (lo hi : Option Expr) : EM (Option Int × Option Int) := EM.bind (ePart r ae lo) fun l => EM.bind (ePart r ae hi) fun u => EM.ret (l, u)
noncomputable def rawAV (v : Value) : AV := onVInt v (fun i _ => .int i) (.val v)
noncomputable def rawItems (o : Obj) : Option (List Value) := onDSeq o.data (fun vs k => _root_.cond ((Nat.beq k 0 && (o.cls == .type "list")) && (o.dict.isNone && Nat.beq o.slots.size 0)) (some vs.toList) none) none
noncomputable def eSliceAt (ov : AV) (l u : Option Int) : EM AV := onRef ov (fun i => EM.bind (EM.cell i) fun c => onCRaw c (fun o => EM.bind (EM.opt (rawItems o)) fun vs => EM.bind (EM.cond (vs.length ≤ 1000000)) fun _ => eNewList (pickG (vs.map rawAV) l u)) <|
    onCList c (fun xs => EM.bind (EM.cond (xs.length ≤ 1000000)) fun _ => eNewList (pickG xs l u)) EM.fail) <|
  onTup ov (fun xs => _root_.cond (l == some 1 && u.isNone) (onCons xs (fun _ r => onCons r (fun y r => eNewTuple (y :: r)) EM.fail) EM.fail) EM.fail) EM.fail
noncomputable def eSlice (K : Frag) (r : Rec) (ae : AEnv) (o : Expr) (lo hi : Option Expr) : EM AV := EM.bind (r.ev ae o) fun ov => EM.bind (eParts r ae lo hi) fun q => EM.bind (eItemOk K ov) fun _ => eSliceAt ov q.1 q.2
section
variable {X : Ctx} {A : Around} {ρ : Rho} {F : Fz} {σ : St} {s : Shared} {Γ : Kn} {r : Rec} {n : Nat} {ae : AEnv} {env : Env}
theorem Dens.filterMap {N : Nat} {xs : List AV} {vs : List Value} (d : Dens N ρ F xs vs) : ∀ js : List Nat, Dens N ρ F (js.filterMap (xs[·]?)) (js.filterMap (vs[·]?))
  | [] => (rfl : Dens N ρ F [] [])
  | j :: js => by
    rw [List.filterMap_cons, List.filterMap_cons]
    cases h : xs[j]? with
    | none =>
      rw [d.none h]
      exact Dens.filterMap d js
    | some a =>
      refine (d.nth h).elim fun v q => ?_
      rw [q.1]
      exact Dens.cons q.2 (Dens.filterMap d js)
theorem Dens.pick {N : Nat} {xs : List AV} {vs : List Value} (d : Dens N ρ F xs vs) (lo hi : Option Int) : Dens N ρ F (pickG xs lo hi) (pickG vs lo hi) := by
  unfold pickG
  rw [d.length]
  exact d.filterMap _
theorem pick_arr (vs : List Value) (lo hi : Option Int) : slicePick vs.toArray lo hi Option.none = (pickG vs lo hi).toArray := by unfold slicePick pickG; simp
theorem tuple_slice1 (l sl : Addr) (v : Value) (w : List Value) (k : Nat) (t : Tok) (hsz : w.length + 1 ≤ sizeLine) :
    Meets (Builtin.«tuple.__getitem__» ⟨[.ref l, .ref sl], []⟩)
      (fun _ R s => s.heap.get? l = some { cls := .type "tuple", dict := none, data := .seq (v :: w).toArray k, slots := #[] } ∧ s.heap.get? sl = some { cls := .type "slice", data := .fields #[.int 1 t, .none, .none] } ∧
        R (.ok (.ret (.ref s.heap.objs.size))) { s with heap := s.heap.push { cls := .type "tuple", data := .seq w.toArray } }) := by
  refine .of_wp fun prog wd A R s h => ?_
  obtain ⟨hp, g, d, tk, os⟩ := s; obtain ⟨hl, hs, h⟩ := h
  have f1 := AutoSeq1.idx_int
  wp_walk using wpAny_loadPart' hl
  have hadj : Slice.sliceAdjust (some 1) none ((none : Option Int).getD 1) ((v :: w).toArray.size : Nat) = (1, ((w.length + 1 : Nat) : Int)) := by
    simp [Slice.sliceAdjust]
    omega
  have hpl : Slice.slicePlaces 1 ((w.length + 1 : Nat) : Int) ((none : Option Int).getD 1) = w.length := by
    simp only [Slice.slicePlaces, Option.getD_none, show (1 : Int) > 0 by decide, if_true, Int.ediv_one]
    split <;> omega
  have hfm : (List.range w.length).filterMap (fun (j : Nat) => (v :: w).toArray[((1 : Int) + (j : Int) * (none : Option Int).getD 1).toNat]?) = w := by
    have h1 : (fun (j : Nat) => (v :: w).toArray[((1 : Int) + (j : Int) * (none : Option Int).getD 1).toNat]?) = fun (j : Nat) => w.toArray[j]? := funext fun j => by
      have : ((1 : Int) + (j : Int) * (none : Option Int).getD 1).toNat = j + 1 := by simp only [Option.getD_none]; omega
      rw [this]
      simp
    rw [h1]
    have := pick_run w.toArray 0 w.length
    simpa using this
  rw [hadj]
  simp only [hpl]
  rw [if_neg (by simp)]
  simp only [hfm]
  refine wpAny_bind (wpAny_newObj_type (wpAny_pure ?_) (show w.toArray.size ≤ _ by rw [List.size_toArray]; omega))
  exact ⟨_, rfl, h⟩
theorem rawAV_den {n : Nat} (v : Value) : Den n ρ F (rawAV v) v := onVInt_ind (P := fun a v => Den n ρ F a v) (fun i t => ⟨t, rfl⟩) rfl
theorem rawAV_dens {n : Nat} : ∀ vs : List Value, Dens n ρ F (vs.map rawAV) vs
  | [] => (rfl : Dens n ρ F [] [])
  | v :: vs => Dens.cons (rawAV_den v) (rawAV_dens vs)
theorem rawItems_some {o : Obj} {vs : List Value} (h : rawItems o = some vs) : o = oList vs 0 := by
  cases o with | mk c d dt sl =>
  cases dt with
  | seq items k =>
    have h0 := condO (b := (Nat.beq k 0 && (c == .type "list")) && (d.isNone && Nat.beq sl.size 0)) (o := some items.toList) h
    rw [Bool.and_eq_true, Bool.and_eq_true, Bool.and_eq_true] at h0
    rw [Nat.eq_of_beq_eq_true h0.1.1.1, eq_of_beq h0.1.1.2, Option.isNone_iff_eq_none.mp h0.1.2.1, Array.eq_empty_of_size_eq_zero (Nat.eq_of_beq_eq_true h0.1.2.2), ← Option.some.inj h0.2]
    rfl
  | _ => exact noneOf h
noncomputable def sliceO (vl vu : Value) : Obj := { cls := .type "slice", data := .fields #[vl, vu, .none] }
inductive dSl (F : Fz) (q : Option Int × Option Int) (v : Value) : Prop where
  | mk (a : Addr) (vl vu : Value) (e : v = .ref a) (h : F a = some (sliceO vl vu)) (pl : IsPart vl q.1) (pu : IsPart vu q.2)
noncomputable def RSlice (q : Option Int × Option Int) (v : Value) : Kn where
  p n ρ F := dSl F q v
  mono _ _ hF x := by cases x with | mk a vl vu e h pl pu => exact ⟨a, vl, vu, e, hF _ _ h, pl, pu⟩
theorem Sim.part (S : Sound X r n) (hA : Room X A n) (e : Option Expr) : Sim X A (EnvK X ae env) (fun l v => Kn.is (IsPart v l)) (ePart r ae e) (evalPart e env) := by
  cases e with
  | none => exact Sim.ret fun _ _ _ _ => .none
  | some e =>
    rw [evalPart_some]
    show Sim X A (EnvK X ae env) _ (EM.bind (r.ev ae e) fun a => onInt a (fun i => EM.ret (some i)) EM.fail) _
    exact Sim.ofRun fun σ ρ F s I g => RunAt.bind (Sim.at (S.ev A hA ae env e)) fun a σ₁ c => onInt_ind (P := fun x a => (∀ ρ F s, Inv X ρ F σ s → (EnvK X ae env).p σ.n ρ F → Goes X A ρ F σ s (eval e env) (RDen a) σ₁) → RunAt σ₁ x fun b σ' => Goes X A ρ F σ s (eval e env) (fun v => Kn.is (IsPart v b)) σ')
      (fun i c => RunAt.ret ((c ρ F s I g).mono fun v ρ' F' (d : ∃ t, v = .int i t) => d.elim fun t e => e ▸ IsPart.int i t)) (fun _ => RunAt.fail) c
theorem Sim.parts (S : Sound X r n) (hA : Room X A n) (lo hi : Option Expr) (p : Pos) : Sim X A (EnvK X ae env) RSlice (eParts r ae lo hi) (eval (.Slice lo hi none p) env) := Sim.ofRun fun σ ρ F s I g => RunAt.bind (Sim.at (Sim.part S hA lo)) fun l σ₁ c1 => RunAt.bind (Sim.at (Sim.part (env := env) S hA hi)) fun u σ₂ c2 => RunAt.ret fun Q E hQ =>
  wpAny_Slice (c1 ρ F s I g _ E fun vl s₁ ρ₁ F₁ pl I₁ st₁ => c2 ρ₁ F₁ s₁ I₁ ((EnvK X ae env).mono st₁.le st₁.same st₁.sub g) _ E fun vu s₂ ρ₂ F₂ pu I₂ st₂ => by
    rw [evalPart_none]
    refine wpAny_pure ?_
    have r := I₂.freeze (a := s₂.heap.objs.size) (o := sliceO vl vu) (h' := s₂.heap.push (sliceO vl vu)) (Heap.get?_none_of_le (Nat.le_refl _)) (fun b o e => Heap.get?_push_of_some _ e) (Heap.get?_push_size _ rfl) s₂.toks
    exact hQ _ _ ρ₂ _ ⟨_, vl, vu, rfl, if_pos rfl, pl, pu⟩ r.1 ((st₁.trans st₂).trans r.2))
theorem slice_list (I : Inv X ρ F σ s) {a : Addr} {xs : List AV} {ws : List Value} {k : Nat} {sl : Value} {q : Option Int × Option Int} (ho : s.heap.get? a = some (oList ws k)) (d : Dens σ.n ρ F xs ws) (hl : xs.length ≤ 1000000) (hs : dSl F q sl) : RunAt σ (eNewList (pickG xs q.1 q.2)) fun b σ' => Goes X A ρ F σ s (getItem (.ref a) sl) (RDen b) σ' := RunAt.cond fun h => RunAt.push (RunAt.ret (Goes.to fun Q E hQ => by
  cases hs with | mk b vl vu e hF pl pu =>
  rw [e]
  refine wpAny_getItem_list_slice (items := ws.toArray) ⟨_, ho, rfl, k, rfl⟩ ⟨_, I.froz _ _ hF, rfl, rfl⟩ pl pu .none (by simp) ?_ (szOk hl d)
  rw [pick_arr]
  exact hQ _ _ _ F (Den.fresh ρ F σ _ _) (I.push (a := s.heap.objs.size) (c := .list (pickG xs q.1 q.2)) (h' := s.heap.push (oList (pickG ws q.1 q.2) 0)) (Heap.get?_none_of_le (Nat.le_refl _)) (fun b o e => Heap.get?_push_of_some _ e)
    (.ofL (vs := pickG ws q.1 q.2) (k := 0) (Heap.get?_push_size _ rfl) ((d.pick _ _).mono (Nat.le_succ _) (fun i hi => Rho.put_lt ρ _ hi) (fun _ _ e => e))) s.toks)))
theorem slice_tup (I : Inv X ρ F σ s) {x y : AV} {xs : List AV} {v sl : Value} (dv : Den σ.n ρ F (.tup (x :: y :: xs)) v) (hs : dSl F (some 1, none) sl) : RunAt σ (eNewTuple (y :: xs)) fun b σ' => Goes X A ρ F σ s (getItem v sl) (RDen b) σ' := RunAt.retIf fun hl => by
  cases den_tup dv with | mk a vs k e hx ds =>
  cases hs with | mk b vl vu e2 hF pl pu =>
  rw [e, e2]
  cases pl with
  | int _ t =>
  cases pu with
  | none =>
  cases vs with
  | nil => exact ds.elim
  | cons v vs =>
  have hlen : vs.length = (y :: xs).length := (Dens.length (show Dens σ.n ρ F (y :: xs) vs from ds.2)).symm
  refine Goes.to fun Q E hQ => getItem_meets (T := "tuple") ⟨_, I.froz _ _ hx, rfl⟩ (by decide) PySem.F.slot_tuple_getitem PySem.F.entry_tuple_getitem (PySem.F.args_tuple_getitem_2 _ _) (tuple_slice1 _ _ _ _ k t (by rw [hlen]; exact Nat.le_trans (Nat.succ_le_succ hl) (by decide))) ⟨I.froz _ _ hx, I.froz _ _ hF, ?_⟩
  have r := I.freeze (a := s.heap.objs.size) (o := oTup vs 0) (h' := s.heap.push (oTup vs 0)) (Heap.get?_none_of_le (Nat.le_refl _)) (fun b o e => Heap.get?_push_of_some _ e) (Heap.get?_push_size _ rfl) s.toks
  exact hQ _ _ ρ _ (.tup _ _ _ 0 (if_pos rfl) (Dens.step (show Dens σ.n ρ F (y :: xs) vs from ds.2) r.2)) r
theorem Sim.sliceAt {ov : AV} {v sl : Value} {q : Option Int × Option Int} (ha : Γ.le (RDen ov v)) (hs : Γ.le (RSlice q sl)) : Sim X A Γ RDen (eSliceAt ov q.1 q.2) (PySem.getItem v sl) := by
  refine onRef_ind (P := fun x ov => Γ.le (RDen ov v) → Sim X A Γ RDen x (PySem.getItem v sl)) (fun i ha => ?_) (fun ha => ?_) ha
  · refine Sim.ofRun fun σ ρ F s I g => ?_
    rw [(show v = .ref (ρ i) ∧ i < σ.n from ha _ _ _ g).1]
    refine RunAt.cell fun c => onCRaw_ind (P := fun x c => σ.get i = some c → RunAt σ x fun b σ' => Goes X A ρ F σ s (PySem.getItem (.ref (ρ i)) sl) (RDen b) σ') (fun o hx => RunAt.opt fun vs hvs => RunAt.cond fun hl => slice_list I (k := 0) (by rw [← rawItems_some hvs]; exact I.atRaw hx) (rawAV_dens vs) (by rw [List.length_map]; exact hl) (hs _ _ _ g)) <|
      onCList_ind (P := fun x c => σ.get i = some c → RunAt σ x fun b σ' => Goes X A ρ F σ s (PySem.getItem (.ref (ρ i)) sl) (RDen b) σ') (fun xs hx => RunAt.cond fun hl => (I.atL hx).elim fun ws p => p.elim fun k p => slice_list I p.1 p.2 hl (hs _ _ _ g)) fun _ => RunAt.fail
  · refine onTup_ind (P := fun x ov => Γ.le (RDen ov v) → Sim X A Γ RDen x (PySem.getItem v sl)) (fun xs ha => Sim.chk fun hq => ?_) (fun _ => Sim.fail) ha
    rw [Bool.and_eq_true] at hq
    have e : q = (some 1, none) := Prod.ext (eq_of_beq hq.1) (Option.isNone_iff_eq_none.mp hq.2)
    refine onCons_ind (P := fun y xs => Γ.le (RDen (.tup xs) v) → Sim X A Γ RDen y (PySem.getItem v sl)) (fun x r ha => ?_) (fun _ => Sim.fail) ha
    exact onCons_ind (P := fun z r => Γ.le (RDen (.tup (x :: r)) v) → Sim X A Γ RDen z (PySem.getItem v sl)) (fun y r ha => Sim.ofRun fun σ ρ F s I g => slice_tup I (ha _ _ _ g) (e ▸ hs _ _ _ g)) (fun _ => Sim.fail) ha
theorem Sim.slice (S : Sound X r n) (hA : Room X A n) (o : Expr) (lo hi : Option Expr) (p pos : Pos) : SimE X A ae env (eSlice X.K r ae o lo hi) (.Subscript o (.Slice lo hi none p) pos) := by
  unfold SimE
  rw [eval_Subscript]
  refine Sim.bind (S.ev A hA ae env o) fun ov v => Sim.bind (Sim.holding ((Sim.parts S hA lo hi p).weaken (Kn.fst (Kn.le_refl _)))) fun q sl => Sim.standAt (Sim.itemOk (Kn.fst (Kn.snd (Kn.le_refl _))) (Sim.letGo ?_))
  show Sim X A _ RDen _ (PySem.operate _ (PySem.getItem v sl))
  exact Sim.operate (Sim.sliceAt (Kn.fst (Kn.snd (Kn.le_refl _))) (Kn.snd (Kn.le_refl _)))
end
section
variable {prog : Program} {w : World} {A : Around} {E : Value → Shared → Prop} {s : Shared}
theorem listI_lookup : typeLookup (.type "list") (dunderI "add") = pure (some (.builtin "list.__iadd__")) := PySem.F.slot_list_iadd.lookup
theorem iadd_list {l b : Addr} {items items2 : Array Value} {n n2 : Nat} {Q : Value → Shared → Prop} (hl : IsL s.heap l items n) (hb : IsL s.heap b items2 n2) (hsz : items.size + items2.size ≤ 2000000)
    (h : Q (.ref l) { s with heap := s.heap.update l (Obj.mapSeq fun x => x ++ items2) }) : wpAny (model prog w) A (inplaceOp .Add (.ref l) (.ref b)) Q E s := by
  have hline : sizeLine = 2 ^ 24 := rfl
  unfold inplaceOp
  refine wpAny_holding ?_
  have hs : isSeqSlot (some (.builtin "list.__iadd__")) = true := by decide +kernel
  have hfi : fillsInplaceSlot (.type "list") "add" (Operator.Add == .Add) = pure false := by
    unfold fillsInplaceSlot
    show (typeLookup (.type "list") (dunderI "add") >>= fun fi => pure (fi.isSome && !isSeqSlot fi)) = pure false
    rw [listI_lookup, pure_bind, hs]; rfl
  have ha : s.TypeIs (.ref l) "list" := ⟨_, hl, rfl⟩
  have hb' : s.TypeIs (.ref b) "list" := ⟨_, hb, rfl⟩
  refine wpAny_bind (wpAny_typeOf ha (wpAny_bind (wpAny_of_eq hfi ?_)))
  show wpAny _ A (if false = true then _ else _) Q E s
  rw [if_neg Bool.false_ne_true]
  refine wpAny_bind (wpAny_binaryOp1_none (nm := "add") ha hb' noFill_list_add ?_)
  refine wpAny_bind (wpAny_of_eq (PySem.seqSlot_of listI_lookup hs) ?_)
  refine wpAny_bind (wpAny_rule ?_)
  have h0 : ¬(!items.isEmpty && Builtin.List.listTooLong (items.size + items2.size)) = true := by
    have : Builtin.List.listTooLong (items.size + items2.size) = false := by
      unfold Builtin.List.listTooLong
      simp only [decide_eq_false_iff_not]
      omega
    rw [this]; simp
  exact call_meets PySem.F.slot_list_iadd ha PySem.F.entry_list_iadd (PySem.F.args_list_iadd_2 _ _) (AutoSeq1.list___iadd___list_list_0 l items n b items2 n2 h0 (by omega) (by omega)) ⟨hl, hb, h⟩
end
noncomputable def eInpX (op : Operator) (a b : AV) : EM AV := onRef a (fun i => onRef b (fun j => ifOp op .Add (EM.bind (eCellL i) fun xs => EM.bind (eCellL j) fun ys => EM.bind (eSetL i (xs ++ ys)) fun _ => EM.ret (.ref i)) EM.fail) EM.fail) (eInp op a b)
noncomputable def eAug (K : Frag) (r : Rec) (ae : AEnv) (y : Str) (op : Operator) (value : Expr) : EM AFlow := EM.bind (eName K ae y) fun old => EM.bind (r.ev ae value) fun v => EM.bind (eInpX op old v) fun nw => EM.bind (eBind ae y nw) fun _ => EM.ret .next
noncomputable def eTupR (r : Rec) (ae : AEnv) (xs : List Str) (value : Expr) : EM AFlow := EM.bind (r.ev ae value) fun v => onTup v (fun vs => _root_.cond (Nat.beq xs.length vs.length) (EM.bind (eBinds ae xs.reverse vs.reverse) fun _ => EM.ret .next) EM.fail) EM.fail
noncomputable def swapsN (ae : AEnv) (elts : List Expr) (k : Nat) (tpos : Pos) (value : Expr) (pos : Pos) (o : Option (List Str)) : Prop := ∀ env : Env, env.scope = ae.scope → swapsWithSole [.Tuple elts k tpos] value pos.line env = pure false ∧ swappedStores [.Tuple elts k tpos] value env = pure o
noncomputable def eTupA (K : Frag) (r : Rec) (ae : AEnv) (elts : List Expr) (k : Nat) (tpos : Pos) (value : Expr) (pos : Pos) : EM AFlow := EM.bind (EM.opt (namesOf elts)) fun xs => EM.bind (EM.word fun w => onWB w some none) fun b =>
  _root_.cond b (EM.bind (EM.cond (swapsN ae elts k tpos value pos (some xs))) fun _ => eTupR r ae xs value)
    (EM.bind (EM.cond (swapsN ae elts k tpos value pos none)) fun _ => EM.bind (r.ev ae value) fun v => EM.bind (eAssign K r ae v (.Tuple elts k tpos)) fun _ => EM.ret .next)
section
variable {X : Ctx} {A : Around} {ρ : Rho} {F : Fz} {σ : St} {s : Shared} {Γ : Kn} {r : Rec} {n : Nat} {ae : AEnv} {env : Env}
theorem RunAt.chk' {β : Type} {b : Bool} {x : EM β} {C : β → St → Prop} (h : b = true → RunAt σ x C) : RunAt σ (_root_.cond b x EM.fail) C := cond_ind (P := fun x => RunAt σ x C) h RunAt.fail
theorem Sim.inpX {op : Operator} {a b : AV} {v w : Value} (ha : Γ.le (RDen a v)) (hb : Γ.le (RDen b w)) : Sim X A Γ RDen (eInpX op a b) (inplaceOp op v w) := by
  refine onRef_ind (P := fun x a => Γ.le (RDen a v) → Sim X A Γ RDen x (inplaceOp op v w)) (fun i ha => ?_) (fun ha => Sim.inp ha hb) ha
  refine onRef_ind (P := fun x b => Γ.le (RDen b w) → Sim X A Γ RDen x (inplaceOp op v w)) (fun j hb => ?_) (fun _ => Sim.fail) hb
  refine ifOp_ind (P := fun x op => Sim X A Γ RDen x (inplaceOp op v w)) (Sim.ofRun fun σ ρ F s I g => RunAt.cellL fun xs hx hl => RunAt.cellL fun ys hy hl2 => RunAt.setL (RunAt.ret ?_)) Sim.fail
  rw [(show v = .ref (ρ i) ∧ i < σ.n from ha _ _ _ g).1, (show w = .ref (ρ j) ∧ j < σ.n from hb _ _ _ g).1]
  refine (I.atL hx).elim fun vs q => q.elim fun k1 q => (I.atL hy).elim fun ws p => p.elim fun k2 p => Goes.to fun Q E hQ => ?_
  refine iadd_list q.1 p.1 (by rw [List.size_toArray, List.size_toArray, ← q.2.length, ← p.2.length]; exact Nat.add_le_add hl hl2) (hQ _ _ ρ F ⟨rfl, I.lt hx⟩ (I.listSet (f := fun x => x ++ ws.toArray) (ws := vs ++ ws) hx q.1 (List.append_toArray ..) (q.2.app p.2) s.toks))
theorem Sim.aug (L : Lib X) (S : Sound X r n) (hA : Room X A n) (y : Str) (np : Pos) (op : Operator) (value : Expr) (p : Pos) : SimS X A ae env (eAug X.K r ae y op value) (.AugAssign (.Name y np) op value p) := by
  unfold SimS
  rw [exec_AugAssign_Name]
  exact Sim.standAt (Sim.bind (Sim.loadN L y) fun a av => Sim.bind (Sim.holding ((S.ev A hA ae env value).weaken (Kn.fst (Kn.le_refl _)))) fun b bv => Sim.standAt (Sim.bind (Sim.operate (Sim.inpX (Kn.fst (Kn.snd (Kn.le_refl _))) (Kn.snd (Kn.le_refl _)))) fun c cv => Sim.standAt (Sim.bind (Sim.bindName (Kn.fst (Kn.fst (Kn.fst (Kn.le_refl _)))) (Kn.snd (Kn.le_refl _))) fun _ _ => Sim.ret fun _ _ _ _ => rfl)))
theorem Dens.rev {N : Nat} : ∀ {ys : List AV} {us : List Value}, Dens N ρ F ys us → Dens N ρ F ys.reverse us.reverse
  | [], us, d => by rw [show us = [] from d]; exact (rfl : Dens N ρ F [] [])
  | _ :: _, [], d => d.elim
  | y :: ys, u :: us, d => by rw [List.reverse_cons, List.reverse_cons]; exact (Dens.rev d.2).app (Dens.cons d.1 (rfl : Dens N ρ F [] []))
theorem Sim.names (p : Pos) (xs : List Str) (avs : List AV) (vs : List Value) (Γ : Kn) (hg : Γ.le (EnvK X ae env)) (hv : Γ.le (RDens avs vs)) : Sim X A Γ (fun _ _ => Kn.top) (eBinds ae xs avs) (assignInOrder (xs.map fun n => PySem.bindName env n) vs) := by
  have := Sim.inOrder (X := X) (A := A) (ae := ae) (env := env) (fun q v => PySem.bindName env q.1 v) (fun _ _ => .inr rfl) (xs.map fun x => (x, p)) avs vs Γ hg hv
  rw [List.map_map, List.map_map] at this
  have e : xs.map ((fun q : Str × Pos => q.1) ∘ fun x => (x, p)) = xs := List.map_id' xs
  rw [e] at this
  exact this
theorem Sim.tupA (S : Sound X r n) (hA : Room X A n) (elts : List Expr) (k : Nat) (tpos : Pos) (value : Expr) (pos : Pos) : SimS X A ae env (eTupA X.K r ae elts k tpos value pos) (.Assign [.Tuple elts k tpos] value pos) := Sim.opt fun xs hn => Sim.word fun b => by
  refine cond_ind (P := fun x => Sim X A (EnvK X ae env) RFlow x (PySem.exec (.Assign [.Tuple elts k tpos] value pos) env)) (fun _ => ?_) ?_
  ·
    refine Sim.cond fun hp => Sim.know (Γ := EnvK X ae env) (P := env.scope = ae.scope) (fun _ _ _ g => EnvOk.sc g) fun hsc => ?_
    refine Sim.ofRun fun σ ρ F s I g => RunAt.bind (Sim.at (S.ev A hA ae env value)) fun av σ₁ c => ?_
    refine onTup_ind (P := fun x av => (∀ ρ F s, Inv X ρ F σ s → (EnvK X ae env).p σ.n ρ F → Goes X A ρ F σ s (PySem.eval value env) (RDen av) σ₁) → RunAt σ₁ x fun b σ' => Goes X A ρ F σ s (PySem.exec (.Assign [.Tuple elts k tpos] value pos) env) (RFlow b) σ') (fun vs c => RunAt.chk' fun hl => ?_) (fun _ => RunAt.fail) c
    refine RunAt.bind (RunAt.all fun ws => Sim.at (X := X) (A := A) (Sim.names tpos xs.reverse vs.reverse ws ((EnvK X ae env).and (RDens vs.reverse ws)) (Kn.fst (Kn.le_refl _)) (Kn.snd (Kn.le_refl _)))) fun _ σ₂ c2 => RunAt.ret fun Q E hQ => ?_
    refine PyProof.Rows.Assign_Tuple_swapped (names := xs) (c ρ F s I g _ E fun v s₁ ρ₁ F₁ d I₁ st₁ => ?_) (hp env hsc).1 (hp env hsc).2
    cases den_tup d with | mk a ws k2 e h hs2 =>
    rw [e, Nat.eq_of_beq_eq_true hl, hs2.length, show ws.length = ws.toArray.size from (List.size_toArray ..).symm]
    refine unpackItems_tuple hA.2.2.1 ⟨_, I₁.froz _ _ h, rfl, k2, rfl⟩ fun h' hk => ?_
    have r := I₁.grow (h' := h') (fun b o e => hk b o (Nat.ne_of_lt (Heap.lt_size e)) e) s₁.toks
    exact c2 ws.reverse ρ₁ F₁ _ r.1 ⟨(EnvK X ae env).mono st₁.le st₁.same st₁.sub g, Dens.rev hs2⟩ _ E fun u s' ρ' F' _ I₂ st₂ => hQ .next s' ρ' F' rfl I₂ ((st₁.trans r.2).trans st₂)
  ·
    refine Sim.cond fun hp => Sim.know (Γ := EnvK X ae env) (P := env.scope = ae.scope) (fun _ _ _ g => EnvOk.sc g) fun hsc => ?_
    refine Sim.ofRun fun σ ρ F s I g => RunAt.bind (Sim.at (S.ev A hA ae env value)) fun av σ₁ c => RunAt.bind (RunAt.all fun v => Sim.at (Sim.assign (Γ := (EnvK X ae env).and (RDen av v)) S hA (.Tuple elts k tpos) (Kn.fst (Kn.le_refl _)) (Kn.snd (Kn.le_refl _)))) fun _ σ₂ c2 => RunAt.ret fun Q E hQ => ?_
    exact PyProof.Rows.Assign_Tuple (c ρ F s I g _ E fun v s₁ ρ₁ F₁ d I₁ st₁ => c2 v ρ₁ F₁ s₁ I₁ ⟨(EnvK X ae env).mono st₁.le st₁.same st₁.sub g, d⟩ _ E fun u s' ρ' F' _ I₂ st₂ => hQ .next s' ρ' F' rfl I₂ (st₁.trans st₂)) (hp env hsc).1 (hp env hsc).2
end
noncomputable def eEntry (L e : Nat) (C : Addr) (d : Option Nat) : EM Unit := EM.upd fun σ => (σ.push (.tb (some L))).set e (.exc C d (some σ.n))
noncomputable def eNote (L e : Nat) : EM Unit := EM.bind (EM.cellAs asExc e) fun q => onSome q.2.2 (fun t => EM.bind (EM.cellAs asTb t) fun fl => onSome fl (fun l => EM.retB (Nat.beq l L) ()) (EM.bind (EM.upd fun σ => σ.set t (.tb none)) fun _ => eEntry L e q.1 q.2.1)) (eEntry L e q.1 q.2.1)
noncomputable def eFlight (e : Nat) : EM Unit := EM.bind (EM.cellAs asExc e) fun q => onSome q.2.2 (fun t => EM.bind (EM.cellAs asTb t) fun _ => EM.upd fun σ => σ.set t (.tb none)) (EM.ret ())
section
variable {X : Ctx} {A : Around} {ρ : Rho} {F : Fz} {σ : St} {s : Shared} {Γ : Kn} {ae : AEnv} {env : Env}
theorem ns_slots {n : Nat} {a : Addr} {c : Cell} {o : Obj} {sl : Array (Option Value)} : isNs c = true → CellO n ρ F a c o → CellO n ρ F a c { o with slots := sl } :=
  onCNs_ind (P := fun b c => b = true → CellO n ρ F a c o → CellO n ρ F a c { o with slots := sl }) (fun m _ (x : NsO n ρ F m o) => by cases x with | mk f es ep hd hs hf d => exact ⟨f, es, ep, hd, hs, hf, d⟩) ff
theorem Inv.slots (I : Inv X ρ F σ s) {h' : Heap} (h : Heap.SlotsOnly ((X.fr.map (·.1)).filterMap (·.frame)) s.heap h') : Inv X ρ F σ { s with heap := h' } ∧ Stp ρ F σ s ρ F σ { s with heap := h' } := by
  have inS : ∀ a, a ∈ (X.fr.map (·.1)).filterMap (·.frame) → ∃ i c, a = ρ i ∧ σ.get i = some c ∧ isNs c = true := fun a ha =>
    (List.mem_filterMap.mp ha).elim fun env q => (List.mem_map.mp q.1).elim fun e p => (I.frs e p.1).2.elim fun c z => ⟨e.2, c, (Option.some.inj ((I.frs e p.1).1.2.symm.trans (p.2 ▸ q.2))).symm, z⟩
  have keepF : ∀ a o, F a = some o → h'.get? a = some o := fun a o e => (h.2.1 a fun ha => (inS a ha).elim fun i q => q.elim fun c q => I.notF e q.2.1 q.1.symm).trans (I.froz _ _ e)
  have notIn : ∀ x, (∀ i c, σ.get i = some c → ρ i ≠ x) → h'.get? x = s.heap.get? x := fun x hx => h.2.1 x fun ha => (inS x ha).elim fun i q => q.elim fun c q => hx i c q.2.1 q.1.symm
  refine ⟨⟨I.ids, I.inj, fun i c hi => ?_, I.off, keepF, I.base, I.drawn, I.os, I.gens, I.frs⟩, ⟨Nat.le_refl _, fun _ _ => rfl, fun _ _ e => e, fun x o e hx => (notIn x hx).trans e, fun x o e => (h.2.2 _ o e).elim fun sl hs => ⟨_, hs⟩, fun i c hi => .inl ⟨I.ids _ _ hi, c, hi⟩, fun _ _ e => e⟩⟩
  by_cases hin : ρ i ∈ (X.fr.map (·.1)).filterMap (·.frame)
  · refine (inS _ hin).elim fun j q => q.elim fun d q => (I.at hi).ex fun o ho x => (h.2.2 _ o ho).elim fun sl hs => ⟨_, hs, ns_slots ?_ x⟩
    have e := I.inj i j c d hi q.2.1 q.1
    rw [e] at hi
    rw [Option.some.inj (hi.symm.trans q.2.1)]
    exact q.2.2
  · exact (I.at hi).keep fun o e => (h.2.1 _ hin).trans e
theorem ns_dict {n : Nat} {a : Addr} {c : Cell} {o : Obj} : isNs c = true → CellO n ρ F a c o → ∃ es ep, o.data = .dict es ep :=
  onCNs_ind (P := fun b c => b = true → CellO n ρ F a c o → ∃ es ep, o.data = .dict es ep) (fun m _ (x : NsO n ρ F m o) => by cases x with | mk f es ep hd => exact ⟨es, ep, hd⟩) ff
theorem funFrames_of (I : Inv X ρ F σ s) : ∀ l : List (Env × Nat), (∀ e ∈ l, e ∈ X.fr) → s.heap.FunFrames {} (l.map (·.1))
  | [], _ => trivial
  | e :: l, h => have q := I.frs e (h e (.head _)); q.2.elim fun c z => (I.at z.1).ex fun o ho x => (ns_dict z.2 x).elim fun es p => p.elim fun ep hd =>
    ⟨by rw [q.1.1]; decide, ⟨ρ e.2, o, q.1.2, Heap.get?_none_of_le (Nat.zero_le _), ho, fun vs q => nomatch hd.symm.trans q⟩, funFrames_of I l fun e he => h e (.tail _ he)⟩
theorem frameOf_here {M : Model} {E : Value → Shared → Prop} {env₀ : Env} {outer : List Env} {L : Addr} {base : Heap} {Q : Value → Shared → Prop} (hfr : A.frames = some (env₀ :: outer)) (hl : s.heap.FunFrames base (env₀ :: outer))
    (hf0 : env₀.frame = some L) (hf : env.frame = some L) (h : ∀ h', Heap.SlotsOnly ((env₀ :: outer).filterMap (·.frame)) s.heap h' → Q (.ref L) { s with heap := h' }) : wpAny M A (PySem.frameOf env) Q E s := by
  unfold PySem.frameOf
  refine wpAny_bind (wpAny_frameEnvs hfr ?_)
  have hdw : ((env₀ :: outer).dropWhile fun x => x.frame != env.frame) = env₀ :: outer := by simp [List.dropWhile, hf0, hf]
  rw [hdw]
  unfold frameObject
  refine wpAny_bind (wpAny_bind (wpAny_readyFrames_fun hl fun h₁ hs₁ => wpAny_pure ?_))
  rw [hf0]
  exact wpAny_pure (h h₁ hs₁)
noncomputable def entryT (a L : Addr) (head : Value) (hadNext : Bool) (env : Env) : Sem Unit := do setField (.ref a) 1 (← EntryCells.newEntry head (← PySem.frameOf env) .none (rawInt L) .none (← entryPlaceOf L hadNext))
theorem tb_new {n L : Nat} {a : Addr} {h : Heap} {pl : List Value} (hlt : L < n) {head : Value} (e : h.get? a = some { cls := .type "traceback", dict := none, data := .fields ([head, .ref (ρ L), .none, rawInt (ρ L), .none] ++ pl).toArray }) : CellAt n ρ F h a (.tb (some L)) :=
  ⟨_, e, _, rfl, by simp; rfl, fun i hi => Option.some.inj hi ▸ hlt⟩
theorem entry_ok (hfr : A.frames = some (X.fr.map (·.1))) (I : Inv X ρ F σ s) {L e : Nat} {C : Addr} {d t : Option Nat} (htop : ∃ e r, X.fr = e :: r ∧ e.2 = L) (hf : env.frame = some (ρ L)) (he : σ.get e = some (.exc C d t)) {head : Value} {hadNext : Bool} :
    Goes X A ρ F σ s (entryT (ρ e) (ρ L) head hadNext env) (fun _ => Kn.top) ((σ.push (.tb (some L))).set e (.exc C d (some σ.n))) := fun Q E hQ => htop.elim fun e₀ q => q.elim fun r q => by
  have hff := funFrames_of I X.fr fun e h => h
  have h0 := I.frs e₀ (by rw [q.1]; exact .head _)
  rw [q.2] at h0
  have hlt : L < σ.n := h0.2.elim fun c z => I.ids _ _ z.1
  have hsl : ∀ h', Heap.SlotsOnly ((e₀.1 :: r.map (·.1)).filterMap (·.frame)) s.heap h' → Heap.SlotsOnly ((X.fr.map (·.1)).filterMap (·.frame)) s.heap h' := fun h' x => by rw [q.1]; exact x
  rw [q.1, List.map_cons] at hfr hff
  refine wpAny_bind (frameOf_here hfr hff h0.1.2 hf fun h₁ hs₁ => ?_)
  have r₁ := I.slots (hsl h₁ hs₁)
  refine wpAny_bind (wpAny_entryPlaceOf fun pl hpl => ?_)
  unfold EntryCells.newEntry newFields
  refine wpAny_bind (wpAny_newObj_type ?_ (hpl.sizeOk5 _ _ _ _ _))
  refine (r₁.1.atX he).elim fun vs hx => ?_
  have hel := I.lt he
  have hρ : ∀ j, j < σ.n → (ρ.put σ.n h₁.objs.size) j = ρ j := fun j hj => Rho.put_lt ρ _ hj
  have hpL := hρ L hlt
  have r₂ := r₁.1.push (a := h₁.objs.size) (c := .tb (some L)) (h' := h₁.push { cls := .type "traceback", dict := none, data := .fields ([head, .ref (ρ L), .none, rawInt (ρ L), .none] ++ (if pl.isEmpty then List.replicate 6 Value.none else pl)).toArray })
    (Heap.get?_none_of_le (Nat.le_refl _)) (fun b o e => Heap.get?_push_of_some _ e) (tb_new (head := head) (pl := if pl.isEmpty then List.replicate 6 Value.none else pl) (Nat.lt_succ_of_lt hlt) (by rw [hpL]; exact Heap.get?_push_size _ rfl)) s.toks
  have ho₂ := Heap.get?_push_of_some (h := h₁) { cls := .type "traceback", dict := none, data := .fields ([head, .ref (ρ L), .none, rawInt (ρ L), .none] ++ (if pl.isEmpty then List.replicate 6 Value.none else pl)).toArray } hx.1
  have hsz : 1 < vs.size := (Array.getElem?_eq_some_iff.mp hx.2.1).1
  refine wpAny_setField ho₂ rfl hsz ?_
  have hρe := hρ e hel
  have r₃ := r₂.1.set (i := e) (c := .exc C d t) (c' := .exc C d (some σ.n)) ((St.get_push_lt _ _ hel).trans he)
    (h' := (h₁.push { cls := .type "traceback", dict := none, data := .fields ([head, .ref (ρ L), .none, rawInt (ρ L), .none] ++ (if pl.isEmpty then List.replicate 6 Value.none else pl)).toArray }).update (ρ e) (Obj.mapFields (·.setIfInBounds 1 (Value.ref h₁.objs.size))))
    (fun b o hb e => by rw [Heap.get?_update_other _ _ (fun e => hb (by rw [hρe]; exact e.symm))]; exact e)
    ⟨oExc C (d.map (ρ.put σ.n h₁.objs.size)) (vs.setIfInBounds 1 (.ref h₁.objs.size)), by
      rw [hρe, Heap.get?_update_self _ ho₂ rfl, dMap_same fun j hj => hρ j (hx.2.2.1 j hj)]
      rfl, vs.setIfInBounds 1 (.ref h₁.objs.size), rfl, by
      show _ = some (Value.ref ((ρ.put σ.n h₁.objs.size) σ.n))
      rw [Rho.put_self]; exact Array.getElem?_setIfInBounds_self_of_lt hsz, fun j hj => Nat.lt_succ_of_lt (hx.2.2.1 j hj), fun j hj => Option.some.inj hj ▸ Nat.lt_succ_self _⟩ s.toks
  exact hQ _ _ _ _ trivial r₃.1 ((r₁.2.trans r₂.2).trans r₃.2)
theorem mark_ok (I : Inv X ρ F σ s) {t : Nat} {fl : Option Nat} (ht : σ.get t = some (.tb fl)) {M : Model} {E : Value → Shared → Prop} {Q : Unit → Shared → Prop} (hQ : ∀ s', Inv X ρ F (σ.set t (.tb none)) s' → Stp ρ F σ s ρ F (σ.set t (.tb none)) s' → Q () s') : wpAny M A (setField (.ref (ρ t)) 3 .none) Q E s :=
  (I.atTb ht).elim fun ot q => q.elim fun ts q => by
    have hsz : 3 < ts.size := (Array.getElem?_eq_some_iff.mp q.2.2.1).1
    have r := I.set (i := t) (c := .tb fl) (c' := .tb none) ht (h' := s.heap.update (ρ t) (Obj.mapFields (·.setIfInBounds 3 Value.none))) (fun b o hb e => by rw [Heap.get?_update_other _ _ (fun e => hb e.symm)]; exact e)
      ⟨_, Heap.get?_update_self _ q.1 (Obj.isFreed_of_fields (Obj.data_mapFields q.2.1 _)), _, Obj.data_mapFields q.2.1 _, Array.getElem?_setIfInBounds_self_of_lt hsz, fun _ h => noneOf h⟩ s.toks
    exact wpAny_setField q.1 q.2.1 hsz (hQ _ r.1 r.2)
theorem Sim.note (hfr : A.frames = some (X.fr.map (·.1))) {e : Nat} {v : Value} (hg : Γ.le (EnvK X ae env)) (hv : Γ.le (RDen (.ref e) v)) : Sim X A Γ (fun _ _ => Kn.top) (eNote ae.frm e) (noteFrame v env) := Sim.ofRun fun σ ρ F s I g => RunAt.cellAs asExc_some fun q he => by
  have gE := hg _ _ _ g
  have hf : env.frame = some (ρ ae.frm) := EnvOk.fr gE
  have htop := EnvOk.top gE
  rw [(show v = .ref (ρ e) ∧ e < σ.n from hv _ _ _ g).1]
  cases q with | mk C q =>
  cases q with | mk d t =>
  refine (I.atX he).elim fun vs hx => ?_
  unfold noteFrame
  simp only [hf]
  cases t with
  | none =>
    show RunAt σ (eEntry ae.frm e C d) _
    unfold eEntry
    refine RunAt.updE fun Q E hQ => wpAny_bind (wpAny_field hx.1 rfl hx.2.1 ?_)
    rw [if_neg (show ¬ ((tbVal ρ none != Value.none) = true) from (by decide : ¬ ((Value.none != Value.none) = true)))]
    exact entry_ok hfr I htop hf he Q E hQ
  | some t =>
    show RunAt σ (EM.bind (EM.cellAs asTb t) fun fl => onSome fl (fun l => EM.retB (Nat.beq l ae.frm) ()) (EM.bind (EM.upd fun σ => σ.set t (.tb none)) fun _ => eEntry ae.frm e C d)) _
    refine RunAt.cellAs asTb_some fun fl ht => (I.atTb ht).elim fun ot p => p.elim fun ts p => ?_
    cases fl with
    | some l =>
      show RunAt σ (EM.retB (Nat.beq l ae.frm) ()) _
      refine RunAt.retB fun hl Q E hQ => wpAny_bind (wpAny_field hx.1 rfl hx.2.1 ?_)
      rw [if_pos (show (tbVal ρ (some t) != Value.none) = true from rfl)]
      refine wpAny_bind (wpAny_field p.1 p.2.1 p.2.2.1 ?_)
      rw [if_pos (show (flVal ρ (some l) == rawInt (ρ ae.frm)) = true from by rw [Nat.eq_of_beq_eq_true hl]; exact beq_self_eq_true _)]
      exact wpAny_pure (hQ () s ρ F trivial I (Stp.refl ρ F I.ids))
    | none =>
      show RunAt σ (EM.bind (EM.upd fun σ => σ.set t (.tb none)) fun _ => eEntry ae.frm e C d) _
      unfold eEntry
      refine RunAt.upd (RunAt.updE fun Q E hQ => wpAny_bind (wpAny_field hx.1 rfl hx.2.1 ?_))
      rw [if_pos (show (tbVal ρ (some t) != Value.none) = true from rfl)]
      refine wpAny_bind (wpAny_field p.1 p.2.1 p.2.2.1 ?_)
      rw [if_neg (show ¬ ((flVal ρ none == rawInt (ρ ae.frm)) = true) from Bool.false_ne_true)]
      have het : e ≠ t := fun h => by rw [h] at he; exact nomatch Option.some.inj (he.symm.trans ht)
      exact wpAny_bind (mark_ok I ht fun s' I' st => entry_ok hfr I' htop hf ((St.get_set_ne _ _ het).trans he) Q E fun u s'' ρ' F' a b c => hQ u s'' ρ' F' a b (st.trans c))
theorem flight_ok {e : Nat} : RunAt σ (eFlight e) fun _ σ' => ∀ (ρ : Rho) (F : Fz) (s : Shared), Inv X ρ F σ s → ∀ (M : Model) (A : Around) (Q : Unit → Shared → Prop) (E : Value → Shared → Prop), (∀ s', Inv X ρ F σ' s' → Stp ρ F σ s ρ F σ' s' → Q () s') → wpAny M A (setFlight (.ref (ρ e)) none) Q E s := RunAt.cellAs asExc_some fun q he => by
  cases q with | mk C q =>
  cases q with | mk d t =>
  cases t with
  | none =>
    show RunAt σ (EM.ret ()) _
    refine RunAt.ret fun ρ F s I M A Q E hQ => (I.atX he).elim fun vs hx => wpAny_bind (wpAny_field hx.1 rfl hx.2.1 ?_)
    rw [if_neg (show ¬ ((tbVal ρ none != Value.none) = true) from (by decide : ¬ ((Value.none != Value.none) = true)))]
    exact wpAny_pure (hQ s I (Stp.refl ρ F I.ids))
  | some t =>
    show RunAt σ (EM.bind (EM.cellAs asTb t) fun _ => EM.upd fun σ => σ.set t (.tb none)) _
    refine RunAt.cellAs asTb_some fun fl ht => RunAt.updE fun ρ F s I M A Q E hQ => (I.atX he).elim fun vs hx => wpAny_bind (wpAny_field hx.1 rfl hx.2.1 ?_)
    rw [if_pos (show (tbVal ρ (some t) != Value.none) = true from rfl)]
    exact mark_ok I ht hQ
end
structure XRec where
  xe : AEnv → Expr → EM Nat
  xs : AEnv → List Stmt → EM Nat
  xcall : AV → List AV → List (Str × AV) → EM Nat
noncomputable def XGoes {α : Type} (X : Ctx) (A : Around) (ρ : Rho) (F : Fz) (σ : St) (s : Shared) (t : Sem α) (e : Nat) (σ' : St) : Prop := ∀ (Q : α → Shared → Prop) (E : Value → Shared → Prop),
  (∀ v s' ρ' F', Den σ'.n ρ' F' (.ref e) v → Inv X ρ' F' σ' s' → Stp ρ F σ s ρ' F' σ' s' → E v s') → wpAny (model X.prog X.w) A t Q E s
noncomputable def XSim {α : Type} (X : Ctx) (A : Around) (Γ : Kn) (x : EM Nat) (t : Sem α) : Prop := ∀ σ, RunAt σ x fun e σ' => ∀ ρ F s, Inv X ρ F σ s → Γ.p σ.n ρ F → XGoes X A ρ F σ s t e σ'
structure XSound (X : Ctx) (r : XRec) (n : Nat) : Prop where
  xe : ∀ A, Room X A n → ∀ ae env e, XSim X A (EnvK X ae env) (r.xe ae e) (eval e env)
  xs : ∀ A, Room X A n → ∀ ae env ss, XSim X A (EnvK X ae env) (r.xs ae ss) (execs ss env)
  xcall : ∀ A, Room X A n → ∀ f fv as vs ks kvs, XSim X A (RCall f fv as vs ks kvs) (r.xcall f as ks) (call fv vs ((ks.map (·.1)).zip kvs))
noncomputable def XSoundF (X : Ctx) (r : XRec) (n : Nat) : Prop := ∀ fr, XSound (X.wf fr) r n
noncomputable def eWd : EM Bool := EM.word fun w => onWB w some none
noncomputable def xList (one : Stmt → EM AFlow) (xone : Stmt → EM Nat) (ss : List Stmt) : EM Nat := ss.foldr (fun st k => EM.bind eWd fun b => _root_.cond b (xone st) (EM.bind (one st) fun fl => onFl fl k (fun _ => EM.fail) EM.fail)) EM.fail
noncomputable def eThrow (K : Frag) (v : AV) : EM Nat := onRef v (fun i => EM.bind (EM.cellAs asExc i) fun q => EM.retB ((q.2.2.isNone && (mroIn K q.1 (.type "BaseException") == some true)) && (typeIn K (.ref q.1) == some (.type "type"))) i) EM.fail
noncomputable def xPlain (XR : XRec) (ae : AEnv) (b : Bool) (e : Expr) : EM Nat := _root_.cond (b && plainE e) (XR.xe ae e) EM.fail
noncomputable def xIf (R : Rec) (ae : AEnv) (test : Expr) (x y : EM Nat) : EM Nat := eBr (R.tst ae test) x y
section
variable (K : Frag) (R : Rec) (XR : XRec) (ae : AEnv)
noncomputable def xStmt (st : Stmt) : EM Nat := onExprS st (fun e _ => xPlain XR ae true e) <| onAssign st (fun ts value _ => on1 ts (fun t => xPlain XR ae (simpleTarget t) value) EM.fail) <|
  onIf st (fun test body orelse _ => xIf R ae test (XR.xs ae body) (XR.xs ae orelse)) <| onRaise st (fun o c _ => onSome o (fun e => onSome c (fun _ => EM.fail) (EM.bind (R.ev ae e) fun v => eThrow K v)) EM.fail) EM.fail
noncomputable def xCallWith (f : AV) (first : List AV) (args : List Expr) (kws : List Keyword) : EM Nat := _root_.cond (keepOk K f) (EM.bind (eArgs2 R ae args kws) fun p => XR.xcall f (first ++ p.1) p.2) EM.fail
noncomputable def xMeth (o : Expr) (name : Str) (apos : Pos) (args : List Expr) (kws : List Keyword) (pos : Pos) : EM Nat := _root_.cond (notSuper o && fewOk args kws && (apos.endLine == pos.line)) (EM.bind (R.ev ae o) fun ov => EM.bind (eMethod K ov name) fun p => xCallWith K R XR ae p.1 p.2 args kws) EM.fail
noncomputable def xExpr (e : Expr) : EM Nat := onIfExp e (fun test body orelse _ => xIf R ae test (XR.xe ae body) (XR.xe ae orelse)) <| onCall e (fun f args kws pos => onAttribute f (fun o name apos => xMeth K R XR ae o name apos args kws pos) <|
  onName f (fun x p => EM.bind (R.ev ae (.Name x p)) fun f => xCallWith K R XR ae f [] args kws) EM.fail) EM.fail
end
noncomputable def xFn (K : Frag) (XR : XRec) (f : AV) (as : List AV) (ks : List (Str × AV)) : EM Nat := EM.bind (EM.opt (fnInfo K f)) fun fi => _root_.cond (plainParams fi.params && plainScope fi.scope) (EM.bind (EM.opt (bindsOf (fi.params.args.map fun p => p.arg) fi.dflts as ks)) fun binds =>
  EM.bind (eEnter fi.scope fi.closure fi.code binds) fun ae => EM.bind (XR.xs ae fi.body) fun e => EM.bind (eNote ae.frm e) fun _ => EM.bind (eFlight e) fun _ => EM.ret e) EM.fail
section
variable {α β γ δ : Type} {X : Ctx} {A : Around} {ρ : Rho} {F : Fz} {σ : St} {s : Shared} {Γ : Kn} {R : Rec} {XR : XRec} {n : Nat} {ae : AEnv} {env : Env}
theorem XSim.fail {t : Sem α} : XSim X A Γ EM.fail t := fun _ => RunAt.fail
theorem XSim.weaken {Γ' : Kn} {x : EM Nat} {t : Sem α} (h : XSim X A Γ x t) (hg : Γ'.le Γ) : XSim X A Γ' x t := fun σ => (h σ).mono fun e σ' c ρ F s I g => c ρ F s I (hg _ _ _ g)
theorem XSim.know {P : Prop} {x : EM Nat} {t : Sem α} (h : Γ.le (Kn.is P)) (hk : P → XSim X A Γ x t) : XSim X A Γ x t := fun σ ds b ev' cs e hc ρ F s I g => hk (h _ _ _ g) σ ds b ev' cs e hc ρ F s I g
theorem XSim.bindL {x : EM Nat} {t : Sem α} {k : α → Sem γ} (h : XSim X A Γ x t) : XSim X A Γ x (t >>= k) := fun σ => (h σ).mono fun e σ' c ρ F s I g Q E hE => wpAny_bind (c ρ F s I g _ E hE)
theorem XSim.bindR {x : EM β} {f : β → EM Nat} {t : Sem α} {k : α → Sem γ} {R : β → α → Kn} (h : Sim X A Γ R x t) (hk : ∀ b v, XSim X A (Γ.and (R b v)) (f b) (k v)) : XSim X A Γ (EM.bind x f) (t >>= k) := fun σ =>
  RunAt.bind (Sim.at h) fun b σ₁ c => (RunAt.all fun v => hk b v σ₁).mono fun e σ' d ρ F s I g Q E hE => wpAny_bind (c ρ F s I g _ E fun v s₁ ρ₁ F₁ hr I₁ st => d v ρ₁ F₁ s₁ I₁ ⟨Γ.mono st.le st.same st.sub g, hr⟩ Q E fun w s₂ ρ₂ F₂ d I₂ st₂ => hE w s₂ ρ₂ F₂ d I₂ (st.trans st₂))
theorem XSim.eq {x : EM Nat} {t t' : Sem α} (e : t = t') (h : XSim X A Γ x t') : XSim X A Γ x t := e ▸ h
theorem XSim.standAt {p : Pos} {x : EM Nat} {k : Unit → Sem α} (h : XSim X A Γ x (k ())) : XSim X A Γ x (standAt p >>= k) := fun σ => (h σ).mono fun e σ' c ρ F s I g Q E hE => wpAny_bind (wpAny_standAt (c ρ F s I g Q E hE))
theorem XSim.br {x : EM Bool} {y z : EM Nat} {t : Sem Bool} {k : Bool → Sem α} (hx : Sim X A Γ REq x t) (hy : XSim X A Γ y (k true)) (hz : XSim X A Γ z (k false)) : XSim X A Γ (eBr x y z) (t >>= k) :=
  XSim.bindR hx fun b c => XSim.know (P := b = c) (Kn.snd (Kn.le_refl _)) fun h σ => RunAt.stay RunAt.dec0 fun d hd => by
    rw [← h, hd]
    cases d
    · exact hz.weaken (Kn.fst (Kn.le_refl _)) σ
    · exact hy.weaken (Kn.fst (Kn.le_refl _)) σ
theorem XSim.chk {b : Bool} {x : EM Nat} {t : Sem α} (h : b = true → XSim X A Γ x t) : XSim X A Γ (_root_.cond b x EM.fail) t := cond_ind (P := fun x => XSim X A Γ x t) h XSim.fail
theorem XSim.list {one : Stmt → EM AFlow} {xone : Stmt → EM Nat} (h1 : ∀ st, SimS X A ae env (one st) st) (hx : ∀ st, XSim X A (EnvK X ae env) (xone st) (exec st env)) : ∀ ss : List Stmt, XSim X A (EnvK X ae env) (xList one xone ss) (execs ss env)
  | [] => XSim.fail
  | st :: rest => by
    rw [execs_cons]
    show XSim X A (EnvK X ae env) (EM.bind eWd fun b => _root_.cond b (xone st) (EM.bind (one st) fun fl => onFl fl (xList one xone rest) (fun _ => EM.fail) EM.fail)) _
    refine fun σ => RunAt.word fun b => ?_
    cases b with
    | true => exact XSim.bindL (hx st) σ
    | false =>
      show RunAt σ (EM.bind (one st) fun fl => onFl fl (xList one xone rest) (fun _ => EM.fail) EM.fail) _
      refine XSim.bindR (h1 st) (fun fl f => ?_) σ
      cases fl with
      | next => exact XSim.know (P := f = .next) (Kn.snd (Kn.le_refl _)) fun h => by rw [h]; exact (XSim.list h1 hx rest).weaken (Kn.fst (Kn.le_refl _))
      | _ => exact XSim.fail
theorem throw_ok (hA : A.handled = none) (I : Inv X ρ F σ s) {i : Nat} {C : Addr} {d : Option Nat} (he : σ.get i = some (.exc C d none)) (h : (True ∧ (mroIn X.K C (.type "BaseException") == some true) = true) ∧ (typeIn X.K (.ref C) == some (.type "type")) = true) : XGoes X A ρ F σ s (raiseStmt env (some (pure (.ref (ρ i)))) none) i σ := fun Q E hE => by
  refine (I.atX he).elim fun vs hx => ?_
  unfold raiseStmt
  dsimp only
  refine wpAny_bind (wpAny_pure ?_)
  have L0 : Looks (model X.prog X.w) s.heap (typeOf (.ref (ρ i))) (.ref C) := (Looks.ld hx.1).andThen .now
  have L1 := looks_mroIn (M := model X.prog X.w) I.Kin (eq_of_beq h.1.2)
  have L2 := looks_typeIn (M := model X.prog X.w) I.Kin (eq_of_beq h.2)
  have hnt : ∀ {Q' : Bool → Shared → Prop}, Q' false s → wpAny (model X.prog X.w) A (isType (.ref (ρ i))) Q' E s := by
    intro Q' hq
    simp only [isType, loadHead]
    refine wpAny_bind (wpAny_loadPart hx.1 ?_)
    exact wpAny_pure hq
  refine wpAny_bind (wpAny_pure ?_)
  refine wpAny_bind (wpAny_holding ?_)
  unfold excFromValue isExcClass
  refine wpAny_bind (wpAny_bind (hnt ?_))
  simp only [Bool.false_eq_true, if_false]
  refine wpAny_pure ?_
  simp only [Bool.false_eq_true, if_false]
  unfold isInstance
  refine wpAny_bind (wpAny_bind (L0.here (L1.here ?_)))
  simp only [if_true]
  refine wpAny_pure ?_
  refine wpAny_bind (hnt ?_)
  simp only [Bool.false_eq_true, if_false]
  unfold raisedInstance
  refine wpAny_bind (wpAny_bind (L0.here (wpAny_bind (L2.here ?_))))
  rw [if_pos (by decide)]
  refine wpAny_pure ?_
  unfold setFlight raiseNew
  refine wpAny_bind (wpAny_bind (wpAny_field hx.1 rfl hx.2.1 ?_))
  rw [if_neg (show ¬ ((tbVal ρ none != Value.none) = true) from (by decide : ¬ ((Value.none != Value.none) = true)))]
  refine wpAny_pure (wpAny_bind (wpAny_handled ?_))
  rw [hA]
  exact wpAny_bind (wpAny_pure (wpAny_throw (hE _ s ρ F ⟨rfl, I.lt he⟩ I (Stp.refl ρ F I.ids))))
theorem XSim.throw (hA : A.handled = none) {x : Sem Value} {M : EM AV} (hx : Sim X A Γ RDen M x) : XSim X A Γ (EM.bind M fun v => eThrow X.K v) (raiseStmt env (some x) none) := by
  refine XSim.eq (t' := x >>= fun v => raiseStmt env (some (pure v)) none) (by unfold raiseStmt; simp only [pure_bind]) (XSim.bindR hx fun av v => ?_)
  refine onRef_ind (P := fun y av => XSim X A (Γ.and (RDen av v)) y (raiseStmt env (some (pure v)) none)) (fun i σ => RunAt.cellAs asExc_some fun q he => RunAt.retB fun h ρ F s I g => ?_) XSim.fail
  rw [(show v = .ref (ρ i) ∧ i < σ.n from g.2).1]
  rw [Bool.and_eq_true, Bool.and_eq_true] at h
  exact throw_ok hA I (d := q.2.1) (by rw [← Option.isNone_iff_eq_none.mp h.1.1]; exact he) ⟨⟨trivial, h.1.2⟩, h.2⟩
theorem XSim.ifX (S : Sound X R n) (hA : Room X A n) {test : Expr} {x y : EM Nat} {t u : Sem α} (hx : XSim X A (EnvK X ae env) x t) (hy : XSim X A (EnvK X ae env) y u) : XSim X A (EnvK X ae env) (xIf R ae test x y) (isTrue test env (eval test env) >>= fun b => if b = true then t else u) := XSim.br (k := fun b => if b = true then t else u) (S.tst A hA ae env test) hx hy
theorem XSim.stmt (S : Sound X R n) (XS : XSound X XR n) (hA : Room X A n) (st : Stmt) : XSim X A (EnvK X ae env) (xStmt X.K R XR ae st) (exec st env) := by
  refine onExprS_ind (P := fun x st => XSim X A (EnvK X ae env) x (exec st env)) (fun e p => XSim.chk fun hc => ?_) ?_
  · rw [Bool.and_eq_true] at hc
    refine XSim.know (Γ := EnvK X ae env) (P := interactive env = false) (fun _ _ _ g => by unfold interactive; rw [EnvOk.sc g, EnvOk.fn g]; rfl) fun hi => ?_
    rw [exec_Expr env e p hi (plainE_ind (P := fun e => swapsWith e none p.line env = pure false) (fun _ _ _ => rfl) (fun _ _ => rfl) (fun _ _ _ => rfl) (fun _ _ _ => rfl) (fun _ _ _ _ => rfl) (fun _ _ _ _ => rfl) (fun _ _ _ => rfl) (fun _ _ _ _ => rfl) (fun _ _ _ _ => rfl) (fun _ _ => rfl) (fun _ _ _ => rfl) hc.2)]
    exact XSim.standAt (XSim.bindL (XS.xe A hA ae env e))
  refine onAssign_ind (P := fun x st => XSim X A (EnvK X ae env) x (exec st env)) (fun ts value p => on1_ind (P := fun x ts => XSim X A (EnvK X ae env) x (exec (.Assign ts value p) env)) (fun t => XSim.chk fun hc => ?_) XSim.fail) ?_
  · rw [Bool.and_eq_true] at hc
    rw [exec_simple hc.1 hc.2]
    exact XSim.standAt (XSim.bindL (XS.xe A hA ae env value))
  refine onIf_ind (P := fun x st => XSim X A (EnvK X ae env) x (exec st env)) (fun test body orelse p => ?_) ?_
  · rw [exec_If]
    exact XSim.standAt (XSim.ifX S hA (XS.xs A hA ae env body) (XS.xs A hA ae env orelse))
  refine onRaise_ind (P := fun x st => XSim X A (EnvK X ae env) x (exec st env)) (fun o c p => ?_) XSim.fail
  cases o with
  | none => exact XSim.fail
  | some e =>
    cases c with
    | some c => exact XSim.fail
    | none =>
      refine XSim.eq (t' := PySem.standAt p >>= fun _ => raiseStmt env (some (eval e env >>= fun v => PySem.standAt p >>= fun _ => pure v)) none) rfl (XSim.standAt ?_)
      exact XSim.throw hA.2.2.1 (Sim.stood (S.ev A hA ae env e))
theorem XSim.callWith (S : Sound X R n) (XS : XSound X XR n) (hA : Room X A n) {f : AV} {fv : Value} {first : List AV} {firstv : List Value} (pos : Pos) (es : List Expr) (ks : List Keyword) {Γ : Kn} (hg : Γ.le (EnvK X ae env)) (hf : Γ.le (RDen f fv)) (h1 : Γ.le (RDens first firstv)) :
    XSim X A Γ (xCallWith X.K R XR ae f first es ks) (callWith pos fv firstv (backTo pos (starEach es env)) (backToKw pos (keywordEach ks env))) := XSim.chk fun hk σ =>
  RunAt.bind (C := fun as σ₃ => ((backTo pos (starEach es env)).any (·.1) || (backToKw pos (keywordEach ks env)).any (·.1.isNone)) = false ∧ ∀ f ρ F s, Inv X ρ F σ s → Γ.p σ.n ρ F → Goes X A ρ F σ s (PySem.evalArgs f true (backTo pos (starEach es env)) (backToKw pos (keywordEach ks env))) (RArgs as) σ₃)
    (fun ds b ev' cs e hc => ⟨no_stars pos e hc, fun f => Sim.at (Sim.evalArgs S hA pos es ks hg) ds b ev' cs e hc⟩) fun p σ₁ c => (RunAt.all fun q : List Value × List Value => XS.xcall A hA f fv (first ++ p.1) q.1 p.2 q.2 σ₁).mono fun e σ' d ρ F s I g Q E hE =>
      callWith_of (P := KeepAt X fv) c.1 (fun _ x => x) (c.2 _ ρ F s I g _ E fun a s₁ ρ₁ F₁ da I₁ st => ⟨keepOk_looks I₁ hk (Den.step (hf _ _ _ g) st), da.kw.elim fun kvs q => q.1 ▸
        d (firstv ++ a.pos, kvs) ρ₁ F₁ s₁ I₁ ⟨Den.step (hf _ _ _ g) st, (Dens.step (h1 _ _ _ g) st).app da.pos, q.2⟩ Q E fun v s₂ ρ₂ F₂ x I₂ st₂ => hE v s₂ ρ₂ F₂ x I₂ (st.trans st₂)⟩)
theorem XSim.expr (S : Sound X R n) (XS : XSound X XR n) (hA : Room X A n) (e : Expr) : XSim X A (EnvK X ae env) (xExpr X.K R XR ae e) (eval e env) := by
  refine onIfExp_ind (P := fun x e => XSim X A (EnvK X ae env) x (eval e env)) (fun test body orelse p => ?_) ?_
  · rw [eval_IfExp]
    exact XSim.ifX S hA (XS.xe A hA ae env body) (XS.xe A hA ae env orelse)
  refine onCall_ind (P := fun x e => XSim X A (EnvK X ae env) x (eval e env)) (fun f args kws pos => ?_) XSim.fail
  refine onAttribute_ind (P := fun x f => XSim X A (EnvK X ae env) x (eval (.Call f args kws pos) env)) (fun o name apos => XSim.chk fun hc => ?_) ?_
  · rw [eval_method (meth_ok hc).1 (meth_ok hc).2.1 (meth_ok hc).2.2]
    exact XSim.bindR (S.ev A hA ae env o) fun a av => XSim.standAt (XSim.bindR (Sim.holding (Sim.method (Kn.snd (Kn.le_refl _)))) fun p q => XSim.callWith S XS hA pos args kws (Kn.fst (Kn.fst (Kn.le_refl _))) (Kn.snd (Kn.fst (Kn.le_refl _))) (Kn.snd (Kn.snd (Kn.le_refl _))))
  refine onName_ind (P := fun x f => XSim X A (EnvK X ae env) x (eval (.Call f args kws pos) env)) (fun y p => ?_) XSim.fail
  exact XSim.eq (t' := eval (.Name y p) env >>= fun f => PySem.callWith pos f [] (backTo pos (starEach args env)) (backToKw pos (keywordEach kws env))) rfl
    (XSim.bindR (S.ev A hA ae env _) fun f fv => XSim.callWith S XS hA pos args kws (Kn.fst (Kn.le_refl _)) (Kn.snd (Kn.le_refl _)) (fun _ _ _ _ => rfl))
theorem XSim.fn (XS : XSoundF X XR n) (hA : Room X A (n + 1)) {f : AV} {fv : Value} {as : List AV} {vs : List Value} {ks : List (Str × AV)} {kvs : List Value} : XSim X A (RCall f fv as vs ks kvs) (xFn X.K XR f as ks) (call fv vs ((ks.map (·.1)).zip kvs)) := fun σ => RunAt.opt fun fi hfi => RunAt.chk' fun hp => RunAt.opt fun binds hb => by
  refine RunAt.bind (C := fun ae σ₁ => ∀ ρ F s, Inv X ρ F σ s → (RCall f fv as vs ks kvs).p σ.n ρ F → ∀ R : Result → Shared → Prop, (∀ env s₁ ρ₁ F₁, InCall X ρ F σ s ae σ₁ env s₁ ρ₁ F₁ → codeAny (model X.prog X.w) A (.func fi.body env) R s₁) → codeAny (model X.prog X.w) A (.call fv ⟨vs, (ks.map (·.1)).zip kvs⟩) R s)
    (fun ds b ev' cs e hc ρ F s I g R => callOpen (Nat.lt_of_le_of_lt (Nat.le_add_right _ _) hA.1) hfi hp hb I g ds b ev' cs e hc) fun ae σ₁ c0 => ?_
  refine RunAt.bind (RunAt.all fun env => (XS ((env, σ.n) :: X.fr)).xs _ (hA.deeper env σ.n) ae env fi.body σ₁) fun e σ₂ c1 => ?_
  refine RunAt.bind (RunAt.all fun env => RunAt.all fun v => Sim.at (Sim.note (X := X.wf ((env, σ.n) :: X.fr)) (A := A.deeper env) (Γ := (EnvK (X.wf ((env, σ.n) :: X.fr)) ae env).and (RDen (.ref e) v)) (hA.deeper env σ.n).2.2.2.2 (Kn.fst (Kn.le_refl _)) (Kn.snd (Kn.le_refl _)))) fun _ σ₃ c2 => ?_
  refine RunAt.bind (RunAt.all fun env => flight_ok (X := X.wf ((env, σ.n) :: X.fr)) (σ := σ₃) (e := e)) fun _ σ₄ c3 => RunAt.ret fun ρ F s I g Q E hE => wpAny_call (c0 ρ F s I g _ fun env s₁ ρ₁ F₁ q => codeAny_func ?_)
  refine c1 env ρ₁ F₁ s₁ q.inv q.ok _ _ fun v s₂ ρ₂ F₂ d₂ I₂ st₂ => ?_
  unfold leaving
  refine wpAny_bind (c2 env v ρ₂ F₂ s₂ I₂ ⟨(EnvK (X.wf ((env, σ.n) :: X.fr)) ae env).mono st₂.le st₂.same st₂.sub q.ok, d₂⟩ _ _ fun _ s₃ ρ₃ F₃ _ I₃ st₃ => ?_)
  have d₃ := Den.step d₂ st₃
  rw [(den_ref d₃).1]
  refine c3 env ρ₃ F₃ s₃ I₃ _ _ _ _ fun s₄ I₄ st₄ => ?_
  exact hE _ s₄ ρ₃ F₃ (Den.step (show Den σ₃.n ρ₃ F₃ (.ref e) (.ref (ρ₃ e)) from ⟨rfl, (den_ref d₃).2⟩) st₄) I₄.unframe (((q.stp.trans st₂).trans st₃).trans st₄)
end
noncomputable def rec0 : Rec where
  ev _ _ := EM.fail
  tst _ _ := EM.fail
  exs _ _ := EM.fail
  call _ _ _ := EM.fail
  loop _ _ _ := EM.fail
  forl _ _ _ _ := EM.fail
  comp _ _ _ _ _ := EM.fail
noncomputable def xrec0 : XRec where
  xe _ _ := EM.fail
  xs _ _ := EM.fail
  xcall _ _ _ := EM.fail
noncomputable def hEv0 (K : Frag) (ae : AEnv) (e : Expr) : EM AV := onConstant e (fun c _ _ => eConst c) <| onName e (fun x _ => eName K ae x) <| onAttribute e (fun o attr _ => onName o (fun y _ => EM.bind (eName K ae y) fun ov => eAttr K ov attr) EM.fail) EM.fail
noncomputable def hRec0 (K : Frag) : Rec := { rec0 with ev := hEv0 K }
noncomputable def hEv1 (K : Frag) (ae : AEnv) (e : Expr) : EM AV := onTupleE e (fun elts _ _ => EM.bind (eArgs (hRec0 K) ae elts) fun vs => eNewTuple vs) (hEv0 K ae e)
noncomputable def hCall (f : AV) (as : List AV) (ks : List (Str × AV)) : EM AV := onVal f (fun v => onVBuiltin v (fun nm => onNil ks (_root_.cond (nm == "list.append") (eAppend as) EM.fail) EM.fail) EM.fail) EM.fail
noncomputable def hRec1 (K : Frag) : Rec := { rec0 with ev := hEv1 K, call := hCall }
noncomputable def hMeth (K : Frag) (ae : AEnv) (o : Expr) (name : Str) (apos : Pos) (args : List Expr) (pos : Pos) : EM AFlow := _root_.cond (notSuper o && fewOk args [] && (apos.endLine == pos.line)) (EM.bind (EM.bind (hEv1 K ae o) fun ov => EM.bind (eMethod K ov name) fun p => eCallWith K (hRec1 K) ae p.1 p.2 args []) fun _ => EM.ret .next) EM.fail
noncomputable def eHand (K : Frag) (ae : AEnv) (st : Stmt) : EM AFlow := onExprS st (fun e _ => onCall e (fun f args kws pos => onAttribute f (fun o name apos => onNil kws (hMeth K ae o name apos args pos) EM.fail) EM.fail) EM.fail) EM.fail
section
variable {X : Ctx} {A : Around} {ρ : Rho} {F : Fz} {σ : St} {s : Shared} {Γ : Kn} {ae : AEnv} {env : Env}
theorem Sim.hEv0 (L : Lib X) (e : Expr) : SimE X A ae env (hEv0 X.K ae e) e := by
  refine onConstant_ind (P := fun x e => SimE X A ae env x e) (fun c k p => Sim.const _ _ _) ?_
  refine onName_ind (P := fun x e => SimE X A ae env x e) (fun y p => Sim.name L y p) ?_
  refine onAttribute_ind (P := fun x e => SimE X A ae env x e) (fun o attr p => onName_ind (P := fun x o => SimE X A ae env x (.Attribute o attr p)) (fun y yp => ?_) Sim.fail) Sim.fail
  refine Sim.eq (t' := eval (.Name y yp) env >>= fun ov => PySem.standAt p.atName >>= fun _ => PySem.holding [ov] (getAttr ov attr true) >>= fun r => letTemporaryGo (.Name y yp) ov r >>= fun _ => pure r) rfl ?_
  exact Sim.bind (Sim.name L y yp) fun a av => Sim.standAt (Sim.letGo (Sim.holding (Sim.attr (Kn.snd (Kn.le_refl _)))))
theorem Sim.hEv1 (L : Lib X) (e : Expr) : SimE X A ae env (hEv1 X.K ae e) e :=
  onTupleE_ind (P := fun x e => SimE X A ae env x e) (fun elts c p => Sim.eq (t' := PySem.standAt p >>= fun _ => spliced (backTo p (starEach elts env)) >>= fun vs => PySem.newTuple vs) rfl
    (Sim.standAt (Sim.bind (Sim.argsV (r := hRec0 X.K) (fun e => Sim.hEv0 L e) p elts (Kn.le_refl _)) fun a av => Sim.newTuple (Kn.snd (Kn.le_refl _))))) (Sim.hEv0 L e)
theorem Sim.hCall (f : AV) (fv : Value) (as : List AV) (vs : List Value) (ks : List (Str × AV)) (kvs : List Value) : Sim X A (RCall f fv as vs ks kvs) RDen (hCall f as ks) (PySem.call fv vs ((ks.map (·.1)).zip kvs)) := by
  refine onVal_ind (P := fun x f => Sim X A (RCall f fv as vs ks kvs) RDen x (PySem.call fv vs ((ks.map (·.1)).zip kvs))) (fun v => ?_) Sim.fail
  refine onVBuiltin_ind (P := fun x v => Sim X A (RCall (.val v) fv as vs ks kvs) RDen x (PySem.call fv vs ((ks.map (·.1)).zip kvs))) (fun nm => Sim.know (P := fv = .builtin nm) (fun _ _ _ g => g.1) fun e => ?_) Sim.fail
  rw [e]
  refine onNil_ind (P := fun x ks => Sim X A (RCall (.val (.builtin nm)) (.builtin nm) as vs ks kvs) RDen x (PySem.call (.builtin nm) vs ((ks.map (·.1)).zip kvs))) (Sim.chk fun h => ?_) Sim.fail
  rw [eq_of_beq h]
  exact Sim.append as _ vs fun _ _ _ g => g.2.1
theorem Sim.hand (L : Lib X) (st : Stmt) : SimS X A ae env (eHand X.K ae st) st := by
  refine onExprS_ind (P := fun x st => SimS X A ae env x st) (fun e p => ?_) Sim.fail
  refine onCall_ind (P := fun x e => SimS X A ae env x (.Expr e p)) (fun f args kws pos => ?_) Sim.fail
  refine onAttribute_ind (P := fun x f => SimS X A ae env x (.Expr (.Call f args kws pos) p)) (fun o name apos => ?_) Sim.fail
  refine onNil_ind (P := fun x kws => SimS X A ae env x (.Expr (.Call (.Attribute o name apos) args kws pos) p)) (Sim.chk fun hc => ?_) Sim.fail
  refine Sim.know (Γ := EnvK X ae env) (P := interactive env = false) (fun _ _ _ g => by unfold interactive; rw [EnvOk.sc g, EnvOk.fn g]; rfl) fun hi => ?_
  rw [exec_Expr env _ p hi rfl, eval_method (meth_ok hc).1 (meth_ok hc).2.1 (meth_ok hc).2.2]
  exact Sim.standAt (Sim.bind (Sim.bind (Sim.hEv1 L o) fun a av => Sim.standAt (Sim.bind (Sim.holding (Sim.method (Kn.snd (Kn.le_refl _)))) fun p q =>
    Sim.callWithV (r := hRec1 X.K) (fun e => Sim.hEv1 L e) (fun f fv as vs ks kvs => Sim.hCall f fv as vs ks kvs) pos args [] (Kn.fst (Kn.fst (Kn.le_refl _))) (Kn.snd (Kn.fst (Kn.le_refl _))) (Kn.snd (Kn.snd (Kn.le_refl _))))) fun _ _ => Sim.dropV)
noncomputable def delNs (m : List (Str × AV)) (x : Str) : List (Str × AV) := m.filter fun p => !(p.1 == x)
theorem delNs_look {x y : Str} {av : AV} : ∀ {m : List (Str × AV)}, (delNs m x).lookup y = some av → y ≠ x ∧ m.lookup y = some av
  | [], h => noneOf h
  | p :: m, h => by
    unfold delNs at h
    rw [List.filter_cons] at h
    rw [List.lookup_cons]
    cases e : p.1 == x with
    | true =>
      rw [e] at h
      have ih := delNs_look (m := m) (show (delNs m x).lookup y = some av from h)
      rw [show (y == p.1) = false from beq_false_of_ne fun q => ih.1 (q.trans (eq_of_beq e))]
      exact ih
    | false =>
      rw [e] at h
      change List.lookup y (p :: delNs m x) = some av at h
      rw [List.lookup_cons] at h
      cases q : y == p.1 with
      | true => rw [q] at h; exact ⟨fun r => ne_of_beq_false e ((eq_of_beq q).symm.trans r), h⟩
      | false => rw [q] at h; exact delNs_look h
noncomputable def eUnbind (ae : AEnv) (x : Str) : EM Unit := EM.bind (EM.chk (ae.scope.names.lookup x == some .local)) fun _ => EM.bind (EM.cellAs asNs ae.loc) fun m => EM.bind (EM.opt (m.lookup x)) fun _ => EM.upd fun σ => σ.set ae.loc (.ns (delNs m x))
theorem Sim.unbind {x : Str} {pos : Pos} : Sim X A (EnvK X ae env) (fun _ _ => Kn.top) (eUnbind ae x) (unbindBehindTheSuite env x pos) := Sim.ofRun fun σ ρ F s I g => RunAt.chk fun hl => RunAt.cellAs asNs_some fun m hm => RunAt.opt fun av hv => RunAt.updE fun Q E hQ => by
  have h1 : env.scope = ae.scope := EnvOk.sc g
  have h3 : env.locals = ρ ae.loc := EnvOk.loc g
  have hk : env.scope.kind = .function := h1 ▸ EnvOk.fn g
  refine (I.atNs hm).elim fun f q => (q.2 _ _ hv).elim fun w hw => ?_
  unfold unbindBehindTheSuite
  refine wpAny_onRaise (wpAny_unbindName_local (v := w) (by unfold Env.kindOf; rw [h1]; exact eq_of_beq hl) (by rw [h3]; exact q.1) hw.1 (by rw [hk]; rfl) fun h' u hn' hs => ?_)
  rw [h3] at hn' hs
  have r := I.set hm hs.extBut (c' := .ns (delNs m x)) (.ofNs hn' fun y av h => (q.2 y av (delNs_look h).2).imp fun v p => ⟨(if_neg (delNs_look h).1).trans p.1, p.2⟩) s.toks
  exact hQ () _ ρ F trivial r.1 r.2
noncomputable def catches (K : Frag) (c : AV) (C' : Addr) : Bool := onVal c (fun v => onVRef v (fun C => Nat.beq C C' && excMakes K C) false) false
theorem catches_ok {K : Frag} {c : AV} {C' : Addr} : catches K c C' = true → c = .val (.ref C') ∧ excMakes K C' = true :=
  onVal_ind (P := fun b c => b = true → c = .val (.ref C') ∧ excMakes K C' = true) (fun v => onVRef_ind (P := fun b v => b = true → AV.val v = .val (.ref C') ∧ excMakes K C' = true) (fun C h => by
    rw [Bool.and_eq_true] at h
    rw [← Nat.eq_of_beq_eq_true h.1]
    exact ⟨rfl, h.2⟩) ff) ff
noncomputable def eCaught (K : Frag) (ae : AEnv) (cls nm : Str) (suite : List Stmt) (e : Nat) : EM AFlow := EM.bind (eName K ae cls) fun c => EM.bind (EM.cellAs asExc e) fun q => EM.bind (EM.chk (catches K c q.1)) fun _ => EM.bind (eFlight e) fun _ =>
    EM.bind (eBind ae nm (.ref e)) fun _ => EM.bind (eExecs (eHand K ae) suite) fun fl => EM.bind (eBind ae nm noneAV) fun _ => EM.bind (eUnbind ae nm) fun _ => EM.ret fl
noncomputable def eTry (K : Frag) (r : Rec) (xr : XRec) (ae : AEnv) (body : List Stmt) (cls nm : Str) (suite : List Stmt) : EM AFlow := EM.bind eWd fun b => _root_.cond b (EM.bind (xr.xs ae body) fun e => EM.bind (eNote ae.frm e) fun _ => EM.bind (eFlight e) fun _ => eCaught K ae cls nm suite e) (r.exs ae body)
theorem Sim.tryAs {r : Rec} {xr : XRec} {n : Nat} (L : Lib X) (S : Sound X r n) (XS : XSound X xr n) (hA : Room X A n) (body : List Stmt) (cls nm : Str) (np hpos pos : Pos) (b₀ : Stmt) (suite : List Stmt) :
    SimS X A ae env (eTry X.K r xr ae body cls nm (b₀ :: suite)) (.Try body [.ExceptHandler (some (.Name cls np)) (some nm) (b₀ :: suite) hpos] [] [] pos) := Sim.word fun b => by
  refine cond_ind (P := fun x => Sim X A (EnvK X ae env) RFlow x (exec (.Try body [.ExceptHandler (some (.Name cls np)) (some nm) (b₀ :: suite) hpos] [] [] pos) env)) (fun _ => ?_) ?_
  · refine Sim.ofRun fun σ ρ F s I g => RunAt.bind (XS.xs A hA ae env body σ) fun e σ₁ c1 => RunAt.bind (RunAt.all fun v => Sim.at (Sim.note (A := A) (Γ := (EnvK X ae env).and (RDen (.ref e) v)) hA.2.2.2.2 (Kn.fst (Kn.le_refl _)) (Kn.snd (Kn.le_refl _)))) fun _ σ₂ c2 => RunAt.bind (flight_ok (X := X)) fun _ σ₃ c3 =>
      RunAt.bind (RunAt.all fun A' => Sim.at (X := X) (A := A') (Sim.name (env := env) L cls np)) fun c σ₄ c4 => RunAt.cellAs asExc_some fun q he => RunAt.chk fun hq => RunAt.bind (flight_ok (X := X)) fun _ σ₅ c5 => RunAt.bind (RunAt.all fun A' => RunAt.all fun v => Sim.at (X := X) (A := A') (Sim.store (env := env) (Γ := (EnvK X ae env).and (RDen (.ref e) v)) (x := nm) (Kn.fst (Kn.le_refl _)) (Kn.snd (Kn.le_refl _)))) fun _ σ₆ c6 =>
      RunAt.bind (RunAt.all fun A' => Sim.at (X := X) (A := A') (Sim.execs (env := env) (fun st => Sim.hand L st) (b₀ :: suite))) fun fl σ₇ c7 => RunAt.bind (RunAt.all fun A' => Sim.at (X := X) (A := A') (Sim.bindName (env := env) (Γ := EnvK X ae env) (y := nm) (av := noneAV) (v := .none) (Kn.le_refl _) (fun _ _ _ _ => rfl))) fun _ σ₈ c8 => RunAt.bind (RunAt.all fun A' => RunAt.all fun p => Sim.at (X := X) (A := A') (Sim.unbind (X := X) (env := env) (pos := p))) fun _ σ₉ c9 => RunAt.ret fun Q E hQ => ?_
    have hc := catches_ok hq
    refine wpAny_Try_except (c1 ρ F s I g _ _ fun v s₁ ρ₁ F₁ d₁ I₁ st₁ => ?_)
    refine c2 v ρ₁ F₁ s₁ I₁ ⟨(EnvK X ae env).mono st₁.le st₁.same st₁.sub g, d₁⟩ _ _ fun _ s₂ ρ₂ F₂ _ I₂ st₂ => ?_
    have d₂ : v = .ref (ρ₂ e) ∧ e < σ₂.n := Den.step d₁ st₂
    rw [d₂.1]
    refine c3 ρ₂ F₂ s₂ I₂ _ _ _ _ fun s₃ I₃ st₃ => ?_
    have st13 := (st₁.trans st₂).trans st₃
    have hlt : e < σ₃.n := Nat.lt_of_lt_of_le d₂.2 st₃.le
    refine wpAny_handleBy_cons (codeAny_handlers_test ?_) (by intro q; cases q)
    refine c4 _ ρ₂ F₂ s₃ I₃ ((EnvK X ae env).mono st13.le st13.same st13.sub g) _ _ fun cv s₄ ρ₄ F₄ dc I₄ st₄ => ?_
    rw [hc.1] at dc
    rw [show cv = .ref q.1 from dc]
    refine (I₄.atX he).elim fun vs hx => ?_
    have heq : ρ₄ e = ρ₂ e := st₄.same e hlt
    cases excMakes_is I₄.Kin hc.2 with | mk nm' q' N' bs hdct sn sub ab col ddd k0 k1 k2 k3 k5 hC =>
    refine wpAny_excMatches_sub_self hC (heq ▸ hx.1) rfl (by decide) ?_
    refine codeAny_handlers_suite_as ?_
    rw [← heq]
    refine c5 ρ₄ F₄ s₄ I₄ _ _ _ _ fun s₅ I₅ st₅ => ?_
    have st15 := (st13.trans st₄).trans st₅
    refine c6 _ (.ref (ρ₄ e)) ρ₄ F₄ s₅ I₅ ⟨(EnvK X ae env).mono st15.le st15.same st15.sub g, ⟨rfl, Nat.lt_of_lt_of_le (Nat.lt_of_lt_of_le hlt st₄.le) st₅.le⟩⟩ _ _ fun _ s₆ ρ₆ F₆ _ I₆ st₆ => ?_
    have st16 := st15.trans st₆
    refine c7 _ ρ₆ F₆ s₆ I₆ ((EnvK X ae env).mono st16.le st16.same st16.sub g) _ _ fun fv s₇ ρ₇ F₇ d₇ I₇ st₇ => ?_
    have st17 := st16.trans st₇
    refine wpAny_bind (c8 _ ρ₇ F₇ s₇ I₇ ((EnvK X ae env).mono st17.le st17.same st17.sub g) _ _ fun _ s₈ ρ₈ F₈ _ I₈ st₈ => ?_)
    have st18 := st17.trans st₈
    refine c9 _ _ ρ₈ F₈ s₈ I₈ ((EnvK X ae env).mono st18.le st18.same st18.sub g) _ _ fun _ s₉ ρ₉ F₉ _ I₉ st₉ => ?_
    have st79 := st₈.trans st₉
    exact hQ fv s₉ ρ₉ F₉ ((RFlow _ fv).mono st79.le st79.same st79.sub d₇) I₉ (st18.trans st₉)
  · refine Sim.ofRun fun σ ρ F s I g => (Sim.at (S.exs A hA ae env body)).mono fun fl σ' c Q E hQ => wpAny_Try_except (c ρ F s I g _ _ fun f s' ρ' F' a b c => ?_)
    cases f with
    | next => exact wpAny_execs_nil (hQ _ s' ρ' F' a b c)
    | _ => exact hQ _ s' ρ' F' a b c
end
noncomputable def eForX (K : Frag) (r : Rec) (ae : AEnv) (o : Option GFor) (target iter : Expr) (body : List Stmt) : EM AFlow := onSome o (fun G => onCall iter (fun f args kws pos => onAttribute f (fun ob name apos => onNil kws (_root_.cond (apos.endLine == pos.line) (eForGen K r ae G target ob name args body) EM.fail) EM.fail) EM.fail) EM.fail) (eForS r ae target iter body)
noncomputable def eAsg (K : Frag) (r : Rec) (ae : AEnv) (t value : Expr) (pos : Pos) : EM AFlow := onTupleE t (fun elts k tpos => eTupA K r ae elts k tpos value pos) <| onListComp value (fun elt gens sc cpos => onComp gens (fun target iter => onName t (fun y yp => eAssignComp r ae y yp elt target iter sc cpos) EM.fail) EM.fail) (eAssign1 K r ae t value)
noncomputable def eTryX (K : Frag) (r : Rec) (xr : XRec) (ae : AEnv) (body : List Stmt) (h : ExceptHandler) : EM AFlow := onHand h (fun t n suite => onSome t (fun t => onSome n (fun nm => onName t (fun cls _ => onCons suite (fun b₀ s => eTry K r xr ae body cls nm (b₀ :: s)) EM.fail) EM.fail) EM.fail) EM.fail)
noncomputable def eDefX (ae : AEnv) (name : Str) (args : Arguments) (body : List Stmt) (ds : List Expr) (rt : Option Expr) (tp : List TypeParam) (sc : Scope) (so : Option Scope) (nm : Str) (pos : Pos) : EM AFlow := onNil ds (onNil tp (_root_.cond ((rt.isNone && so.isNone) && nm == name) (eDef ae name args body sc pos) EM.fail) EM.fail) EM.fail
noncomputable def eOne (K : Frag) (x : Ext) (r : Rec) (xr : XRec) (ae : AEnv) (st : Stmt) : EM AFlow := onExprS st (fun e _ => eExprS r ae e) <| onAssign st (fun ts value pos => on1 ts (fun t => eAsg K r ae t value pos) EM.fail) <| onIf st (fun test body orelse _ => eBr (r.tst ae test) (r.exs ae body) (r.exs ae orelse)) <|
  onReturn st (fun o _ => onSome o (fun e => EM.bind (r.ev ae e) fun v => EM.ret (.ret v)) (EM.ret (.ret noneAV))) <| onAugAssign st (fun t op value _ => onName t (fun y _ => eAug K r ae y op value) <| onSubscript t (fun o i _ => eAugS r ae o i op value) EM.fail) <|
  onWhile st (fun test body els _ => onNil els (r.loop ae test body) EM.fail) <| onFor st (fun target iter body els p => onNil els (eForX K r ae (x.gen st) target iter body) EM.fail) <|
  onTry st (fun body hs els fin _ => onNil els (onNil fin (on1 hs (eTryX K r xr ae body) EM.fail) EM.fail) EM.fail) <| onAssert st (fun test _ _ => eBr (r.tst ae test) (EM.ret .next) EM.fail) <|
  onFunctionDef st (fun name args body ds rt tp sc so nm pos => eDefX ae name args body ds rt tp sc so nm pos) <| onPass st (fun _ => EM.ret .next) EM.fail
noncomputable def strC (c : Const) : Option Str := match c with
  | .str x => some x
  | _ => none
theorem strC_ok {c : Const} {x : Str} (h : strC c = some x) : c = .str x := by
  cases c with
  | str y => exact congrArg Const.str (Option.some.inj h)
  | _ => exact noneOf h
section
variable (K : Frag) (r : Rec) (ae : AEnv)
noncomputable def eJoinE (o : Expr) (name : Str) (apos : Pos) (elt : Expr) (gens : List Comprehension) (gsc : Scope) (pos : Pos) : EM AV := onConstant o (fun c _ _ => EM.bind (EM.opt (strC c)) fun sep => onAttribute elt (fun b attr _ => onName b (fun x1 _ => onComp gens (fun t iter => onName t (fun y _ => _root_.cond ((name == "join") && (apos.endLine == pos.line)) (eJoin K r ae sep y x1 attr iter gsc) EM.fail) EM.fail) EM.fail) EM.fail) EM.fail) EM.fail
noncomputable def eCallE (f : Expr) (args : List Expr) (kws : List Keyword) (pos : Pos) : EM AV := onAttribute f (fun o name apos => on1 args (fun g => onGenExp g (fun elt gens gsc _ => onNil kws (eJoinE K r ae o name apos elt gens gsc pos) EM.fail) (eMethE K r ae o name apos [g] kws pos)) (eMethE K r ae o name apos args kws pos)) <|
  onName f (fun y p => EM.bind (r.ev ae (.Name y p)) fun f => eCallWith K r ae f [] args kws) EM.fail
noncomputable def eSubX (o i : Expr) : EM AV := onSliceE i (fun lo hi st _ => onSome st (fun _ => EM.fail) (eSlice K r ae o lo hi)) (eSubE K r ae o i)
noncomputable def eExpr (e : Expr) : EM AV := onConstant e (fun c _ _ => eConst c) <| onName e (fun x _ => eName K ae x) <| onAttribute e (fun o attr _ => eAttrE K r ae o attr) <| onCall e (fun f args kws pos => eCallE K r ae f args kws pos) <|
  onSubscript e (fun o i _ => eSubX K r ae o i) <| onBinOp e (fun l op rr _ => eBinE r ae l op rr) <| onCompare e (fun l ops rs _ => on1 ops (fun op => on1 rs (fun rr => eCmpE r ae l op rr) EM.fail) EM.fail) <| onIfExp e (fun t b o _ => eBr (r.tst ae t) (r.ev ae b) (r.ev ae o)) <|
  onListE e (fun elts _ => EM.bind (eArgs r ae elts) fun vs => eNewList vs) <| onTupleE e (fun elts _ _ => EM.bind (eArgs r ae elts) fun vs => eNewTuple vs) <| onUnaryOp e (fun op y _ => ifOp op .USub (eNeg r ae y) EM.fail) <|
  onListComp e (fun elt gens sc _ => onComp gens (fun target iter => eListComp r ae elt target iter sc) EM.fail) EM.fail
noncomputable def eTestC (l : Expr) (op : CmpOp) (rr : Expr) : EM Bool := _root_.cond (behindInMarks op rr) EM.fail (EM.bind (r.ev ae l) fun a => EM.bind (r.ev ae rr) fun b => EM.bind (eCmpX op a b) fun c => eTruth K c)
noncomputable def eTestX (e : Expr) : EM Bool := onUnaryOp e (fun op y _ => ifOp op .Not (EM.bind (r.tst ae y) fun b => EM.ret (!b)) EM.fail) <| onBoolOp e (fun op vs _ => eAll r ae op vs) <|
  onCompare e (fun l ops rs _ => on1 ops (fun op => on1 rs (fun rr => eTestC K r ae l op rr) EM.fail) EM.fail) <| _root_.cond (testPl e) (EM.bind (r.ev ae e) fun v => eTruth K v) EM.fail
end
section
variable (K : Frag) (x : Ext)
noncomputable def stepR (r : Rec) (xr : XRec) : Rec where
  ev := eExpr K r
  tst := eTestX K r
  exs ae := eExecs (eOne K x r xr ae)
  call := eCall K r
  loop := eLoop r
  forl := eForL K r
  comp := eComp K r
noncomputable def stepX (r : Rec) (xr : XRec) : XRec where
  xe := xExpr K r xr
  xs ae := xList (eOne K x r xr ae) (xStmt K r xr ae)
  xcall := xFn K xr
noncomputable def rx (n : Nat) : Rec × XRec := Nat.rec (motive := fun _ => Rec × XRec) (rec0, xrec0) (fun _ p => (stepR K x p.1 p.2, stepX K x p.1 p.2)) n
noncomputable def recN (n : Nat) : Rec := (rx K x n).1
noncomputable def xrecN (n : Nat) : XRec := (rx K x n).2
end
section
variable {X : Ctx} {A : Around} {x : Ext} {r : Rec} {xr : XRec} {n : Nat} {ae : AEnv} {env : Env}
theorem room_units (hA : Room X A (n + 1)) : A.units + 10 < cLine := Nat.lt_of_le_of_lt (Nat.add_le_add_left (Nat.le_trans (by decide) (Nat.mul_le_mul_left 40 (Nat.le_add_left 1 n))) _) hA.2.1
end
section
variable {X : Ctx} {A : Around} {x : Ext} {r : Rec} {xr : XRec} {n : Nat} {ae : AEnv} {env : Env}
theorem CSim.fail {Γ : Kn} {c : Code} : CSim X A Γ EM.fail c := fun _ _ _ _ e => noneOf e
theorem Sim.callE (S : Sound X r n) (hA : Room X A (n + 1)) (f : Expr) (args : List Expr) (kws : List Keyword) (pos : Pos) : SimE X A ae env (eCallE X.K r ae f args kws pos) (.Call f args kws pos) := by
  refine onAttribute_ind (P := fun x f => SimE X A ae env x (.Call f args kws pos)) (fun o name apos => ?_) ?_
  · have m := Sim.methE (ae := ae) (env := env) S hA.less o name apos args kws pos
    refine on1_ind (P := fun x args => SimE X A ae env (eMethE X.K r ae o name apos args kws pos) (.Call (.Attribute o name apos) args kws pos) → SimE X A ae env x (.Call (.Attribute o name apos) args kws pos)) (fun g m => ?_) (fun m => m) m
    refine onGenExp_ind (P := fun x g => SimE X A ae env (eMethE X.K r ae o name apos [g] kws pos) (.Call (.Attribute o name apos) [g] kws pos) → SimE X A ae env x (.Call (.Attribute o name apos) [g] kws pos)) (fun elt gens gsc gpos _ => ?_) (fun m => m) m
    refine onNil_ind (P := fun x kws => SimE X A ae env x (.Call (.Attribute o name apos) [.GeneratorExp elt gens gsc gpos] kws pos)) ?_ Sim.fail
    refine onConstant_ind (P := fun x o => SimE X A ae env x (.Call (.Attribute o name apos) [.GeneratorExp elt gens gsc gpos] [] pos)) (fun c kk p0 => Sim.opt fun sep hs => ?_) Sim.fail
    rw [strC_ok hs]
    refine onAttribute_ind (P := fun x elt => SimE X A ae env x (.Call (.Attribute (.Constant (.str sep) kk p0) name apos) [.GeneratorExp elt gens gsc gpos] [] pos)) (fun b attr q2 => ?_) Sim.fail
    refine onName_ind (P := fun x b => SimE X A ae env x (.Call (.Attribute (.Constant (.str sep) kk p0) name apos) [.GeneratorExp (.Attribute b attr q2) gens gsc gpos] [] pos)) (fun x1 q1 => ?_) Sim.fail
    refine onComp_ind (P := fun x gens => SimE X A ae env x (.Call (.Attribute (.Constant (.str sep) kk p0) name apos) [.GeneratorExp (.Attribute (.Name x1 q1) attr q2) gens gsc gpos] [] pos)) (fun t iter => ?_) fun _ => Sim.fail
    refine onName_ind (P := fun x t => SimE X A ae env x (.Call (.Attribute (.Constant (.str sep) kk p0) name apos) [.GeneratorExp (.Attribute (.Name x1 q1) attr q2) [⟨t, iter, [], 0⟩] gsc gpos] [] pos)) (fun y px => Sim.chk fun h => ?_) Sim.fail
    rw [Bool.and_eq_true] at h
    rw [eq_of_beq h.1]
    exact Sim.join S hA sep y x1 attr kk p0 apos pos px q1 q2 gpos iter gsc (eq_of_beq h.2)
  · exact onName_ind (P := fun x f => SimE X A ae env x (.Call f args kws pos)) (fun y p => Sim.callN S hA.less y p args kws pos) Sim.fail
theorem Sim.expr (L : Lib X) (S : Sound X r n) (hA : Room X A (n + 1)) (e : Expr) : SimE X A ae env (eExpr X.K r ae e) e := by
  refine onConstant_ind (P := fun x e => SimE X A ae env x e) (fun c k p => Sim.const c k p) ?_
  refine onName_ind (P := fun x e => SimE X A ae env x e) (fun y p => Sim.name L y p) ?_
  refine onAttribute_ind (P := fun x e => SimE X A ae env x e) (fun o attr p => Sim.attrE S hA.less o attr p) ?_
  refine onCall_ind (P := fun x e => SimE X A ae env x e) (fun f args kws pos => Sim.callE S hA f args kws pos) ?_
  refine onSubscript_ind (P := fun x e => SimE X A ae env x e) (fun o i p => onSliceE_ind (P := fun x i => SimE X A ae env x (.Subscript o i p)) (fun lo hi st q => ?_) (Sim.subE S hA.less o i p)) ?_
  · cases st with
    | some _ => exact Sim.fail
    | none => exact Sim.slice S hA.less o lo hi q p
  refine onBinOp_ind (P := fun x e => SimE X A ae env x e) (fun l op rr p => Sim.binE S hA.less l op rr p) ?_
  refine onCompare_ind (P := fun x e => SimE X A ae env x e) (fun l ops rs p => on1_ind (P := fun x ops => SimE X A ae env x (.Compare l ops rs p)) (fun op => on1_ind (P := fun x rs => SimE X A ae env x (.Compare l [op] rs p)) (fun rr => Sim.cmpE S hA.less (room_units hA) l op rr p) Sim.fail) Sim.fail) ?_
  refine onIfExp_ind (P := fun x e => SimE X A ae env x e) (fun t b o p => Sim.ifE S hA.less t b o p) ?_
  refine onListE_ind (P := fun x e => SimE X A ae env x e) (fun elts p => Sim.listE S hA.less elts p) ?_
  refine onTupleE_ind (P := fun x e => SimE X A ae env x e) (fun elts c p => Sim.tupE S hA.less elts c p) ?_
  refine onUnaryOp_ind (P := fun x e => SimE X A ae env x e) (fun op y p => ifOp_ind (P := fun x op => SimE X A ae env x (.UnaryOp op y p)) (Sim.neg S hA.less y p) Sim.fail) ?_
  exact onListComp_ind (P := fun x e => SimE X A ae env x e) (fun elt gens sc p => onComp_ind (P := fun x gens => SimE X A ae env x (.ListComp elt gens sc p)) (fun t iter => Sim.listComp S hA.less elt t iter sc p) fun _ => Sim.fail) Sim.fail
theorem Sim.testX (S : Sound X r n) (hA : Room X A n) (hu : A.units + 10 < cLine) (e : Expr) : Sim X A (EnvK X ae env) REq (eTestX X.K r ae e) (isTrue e env (eval e env)) := by
  refine onUnaryOp_ind (P := fun x e => Sim X A (EnvK X ae env) REq x (isTrue e env (eval e env))) (fun op y p => ifOp_ind (P := fun x op => Sim X A (EnvK X ae env) REq x (isTrue (.UnaryOp op y p) env (eval (.UnaryOp op y p) env))) ?_ Sim.fail) ?_
  · exact Sim.eq (t' := isTrue y env (eval y env) >>= fun b => pure (!b)) rfl (Sim.bind (S.tst A hA ae env y) fun b c => Sim.ret fun _ _ _ h => congrArg Bool.not h.2)
  refine onBoolOp_ind (P := fun x e => Sim X A (EnvK X ae env) REq x (isTrue e env (eval e env))) (fun op vs p => Sim.eq (t' := allTrue op vs env) rfl (Sim.all S hA op vs)) ?_
  refine onCompare_ind (P := fun x e => Sim X A (EnvK X ae env) REq x (isTrue e env (eval e env))) (fun l ops rs p => on1_ind (P := fun x ops => Sim X A (EnvK X ae env) REq x (isTrue (.Compare l ops rs p) env (eval (.Compare l ops rs p) env))) (fun op => on1_ind (P := fun x rs => Sim X A (EnvK X ae env) REq x (isTrue (.Compare l [op] rs p) env (eval (.Compare l [op] rs p) env))) (fun rr => ?_) Sim.fail) Sim.fail) ?_
  · unfold eTestC
    cases hm : behindInMarks op rr with
    | true => exact Sim.fail
    | false =>
      rw [isTrue_Compare1, markedBehindIn_of_false hm]
      show Sim X A (EnvK X ae env) REq (EM.bind (r.ev ae l) fun a => EM.bind (r.ev ae rr) fun b => EM.bind (eCmpX op a b) fun c => eTruth X.K c) _
      exact Sim.bind (S.ev A hA ae env l) fun a av => Sim.bind (Sim.holding ((S.ev A hA ae env rr).weaken (Kn.fst (Kn.le_refl _)))) fun b bv => Sim.standAt (Sim.bind (Sim.operate (Sim.cmpX hu (Kn.fst (Kn.snd (Kn.le_refl _))) (Kn.snd (Kn.le_refl _)))) fun c cv => Sim.holding (Sim.truth (Kn.snd (Kn.le_refl _))))
  refine Sim.chk fun h => ?_
  rw [test_plain h]
  exact Sim.bind (S.ev A hA ae env e) fun a av => Sim.standAt (Sim.holding (Sim.truth (Kn.snd (Kn.le_refl _))))
theorem Sim.forX (S : SoundF X r n) (hA : Room X A (n + 1)) (o : Option GFor) (target iter : Expr) (body : List Stmt) (p : Pos) : SimS X A ae env (eForX X.K r ae o target iter body) (.For target iter body [] p) := by
  refine onSome_ind (P := fun x _ => SimS X A ae env x (.For target iter body [] p)) (fun G => ?_) (Sim.forS S.here hA.less target iter body p)
  refine onCall_ind (P := fun x iter => SimS X A ae env x (.For target iter body [] p)) (fun f args kws pos => ?_) Sim.fail
  refine onAttribute_ind (P := fun x f => SimS X A ae env x (.For target (.Call f args kws pos) body [] p)) (fun ob name apos => ?_) Sim.fail
  exact onNil_ind (P := fun x kws => SimS X A ae env x (.For target (.Call (.Attribute ob name apos) args kws pos) body [] p)) (Sim.chk fun h => Sim.forGen S hA G target ob name apos pos p args body (eq_of_beq h)) Sim.fail
theorem Sim.asg (S : Sound X r n) (hA : Room X A n) (t value : Expr) (p : Pos) : SimS X A ae env (eAsg X.K r ae t value p) (.Assign [t] value p) := by
  refine onTupleE_ind (P := fun x t => SimS X A ae env x (.Assign [t] value p)) (fun elts k tpos => Sim.tupA S hA elts k tpos value p) ?_
  refine onListComp_ind (P := fun x value => SimS X A ae env x (.Assign [t] value p)) (fun elt gens sc cpos => ?_) (Sim.assign1 S hA t value p)
  refine onComp_ind (P := fun x gens => SimS X A ae env x (.Assign [t] (.ListComp elt gens sc cpos) p)) (fun target iter => ?_) fun _ => Sim.fail
  exact onName_ind (P := fun x t => SimS X A ae env x (.Assign [t] (.ListComp elt [⟨target, iter, [], 0⟩] sc cpos) p)) (fun y yp => Sim.assignComp S hA y yp p elt target iter sc cpos) Sim.fail
theorem Sim.tryX (L : Lib X) (S : Sound X r n) (XS : XSound X xr n) (hA : Room X A n) (body : List Stmt) (h : ExceptHandler) (p : Pos) : SimS X A ae env (eTryX X.K r xr ae body h) (.Try body [h] [] [] p) := by
  refine onHand_ind (P := fun x h => SimS X A ae env x (.Try body [h] [] [] p)) fun t n suite hp => ?_
  cases t with
  | none => exact Sim.fail
  | some t =>
    cases n with
    | none => exact Sim.fail
    | some nm =>
      refine onName_ind (P := fun x t => SimS X A ae env x (.Try body [.ExceptHandler (some t) (some nm) suite hp] [] [] p)) (fun cls np => ?_) Sim.fail
      exact onCons_ind (P := fun x suite => SimS X A ae env x (.Try body [.ExceptHandler (some (.Name cls np)) (some nm) suite hp] [] [] p)) (fun b₀ s => Sim.tryAs L S XS hA body cls nm np hp p b₀ s) Sim.fail
theorem Sim.defX (L : Lib X) (name : Str) (args : Arguments) (body : List Stmt) (ds : List Expr) (rt : Option Expr) (tp : List TypeParam) (sc : Scope) (so : Option Scope) (nm : Str) (pos : Pos) : SimS X A ae env (eDefX ae name args body ds rt tp sc so nm pos) (.FunctionDef name args body ds rt tp sc so nm pos) := by
  refine onNil_ind (P := fun x ds => SimS X A ae env x (.FunctionDef name args body ds rt tp sc so nm pos)) (onNil_ind (P := fun x tp => SimS X A ae env x (.FunctionDef name args body [] rt tp sc so nm pos)) (Sim.chk fun h => ?_) Sim.fail) Sim.fail
  rw [Bool.and_eq_true, Bool.and_eq_true] at h
  rw [Option.isNone_iff_eq_none.mp h.1.1, Option.isNone_iff_eq_none.mp h.1.2, eq_of_beq h.2]
  exact Sim.defn L name args body sc pos
theorem Sim.one (L : Lib X) (S : SoundF X r n) (XS : XSound X xr n) (hA : Room X A (n + 1)) (st : Stmt) : SimS X A ae env (eOne X.K x r xr ae st) st := by
  have T := S.here
  have hA' := hA.less
  refine onExprS_ind (P := fun y st' => SimS X A ae env y st') (fun e p => Sim.exprS T hA' e p) ?_
  refine onAssign_ind (P := fun y st' => SimS X A ae env y st') (fun ts value p => on1_ind (P := fun y ts => SimS X A ae env y (.Assign ts value p)) (fun t => Sim.asg T hA' t value p) Sim.fail) ?_
  refine onIf_ind (P := fun y st' => SimS X A ae env y st') (fun test body orelse p => ?_) ?_
  · unfold SimS
    rw [exec_If]
    exact Sim.standAt (Sim.br (k := fun b => if b = true then PySem.execs body env else PySem.execs orelse env) (T.tst A hA' ae env test) (T.exs A hA' ae env body) (T.exs A hA' ae env orelse))
  refine onReturn_ind (P := fun y st' => SimS X A ae env y st') (fun o p => ?_) ?_
  · cases o with
    | none => exact Sim.eq (t' := PySem.standAt _ >>= fun _ => pure (.ret .none)) rfl (Sim.standAt (Sim.ret fun _ _ _ _ => ⟨_, rfl, rfl⟩))
    | some e =>
      show Sim X A (EnvK X ae env) RFlow (EM.bind (r.ev ae e) fun v => EM.ret (.ret v)) _
      exact Sim.eq (t' := PySem.standAt _ >>= fun _ => eval e env >>= fun v => pure (.ret v)) rfl (Sim.standAt (Sim.bind (T.ev A hA' ae env e) fun a v => Sim.ret (Γ := (EnvK X ae env).and (RDen a v)) (b := AFlow.ret a) (a := Flow.ret v) (R := RFlow) fun _ _ _ h => ⟨_, rfl, h.2⟩))
  refine onAugAssign_ind (P := fun y st' => SimS X A ae env y st') (fun t op value p => onName_ind (P := fun y t => SimS X A ae env y (.AugAssign t op value p)) (fun y np => Sim.aug L T hA' y np op value p) (onSubscript_ind (P := fun y t => SimS X A ae env y (.AugAssign t op value p)) (fun o i sp => Sim.augS T hA' o i sp op value p) Sim.fail)) ?_
  refine onWhile_ind (P := fun y st' => SimS X A ae env y st') (fun test body els p => onNil_ind (P := fun y els => SimS X A ae env y (.While test body els p)) ?_ Sim.fail) ?_
  · unfold SimS
    rw [exec_While]
    exact Sim.standAt (Sim.runs (T.loop A hA' ae env test body))
  refine onFor_ind (P := fun y st' => SimS X A ae env y st') (fun target iter body els p => onNil_ind (P := fun y els => SimS X A ae env y (.For target iter body els p)) (Sim.forX S hA _ target iter body p) Sim.fail) ?_
  refine onTry_ind (P := fun y st' => SimS X A ae env y st') (fun body hs els fin p => onNil_ind (P := fun y els => SimS X A ae env y (.Try body hs els fin p)) (onNil_ind (P := fun y fin => SimS X A ae env y (.Try body hs [] fin p)) (on1_ind (P := fun y hs => SimS X A ae env y (.Try body hs [] [] p)) (fun h => Sim.tryX L T XS hA' body h p) Sim.fail) Sim.fail) Sim.fail) ?_
  refine onAssert_ind (P := fun y st' => SimS X A ae env y st') (fun test msg p => ?_) ?_
  · exact Sim.eq (t' := PySem.standAt p >>= fun _ => isTrue test env (eval test env) >>= fun b => if b = true then pure .next else assertFails test.pos (evalOpt msg env)) rfl (Sim.standAt (Sim.br (k := fun b => if b = true then pure .next else assertFails test.pos (evalOpt msg env)) (T.tst A hA' ae env test) (Sim.ret fun _ _ _ _ => rfl) Sim.fail))
  refine onFunctionDef_ind (P := fun y st' => SimS X A ae env y st') (fun name args body ds rt tp sc so nm pos => Sim.defX L name args body ds rt tp sc so nm pos) ?_
  exact onPass_ind (P := fun y st' => SimS X A ae env y st') (fun p => Sim.eq (t' := PySem.standAt _ >>= fun _ => pure .next) rfl (Sim.standAt (Sim.ret (b := AFlow.next) (a := Flow.next) (R := RFlow) fun _ _ _ _ => rfl))) Sim.fail
end
theorem Lib.wf {X : Ctx} (L : Lib X) (fr : List (Env × Nat)) : Lib (X.wf fr) := ⟨L.names, L.nm⟩
theorem soundX (X : Ctx) (x : Ext) (L : Lib X) : ∀ n, SoundF X (rx X.K x n).1 n ∧ XSoundF X (rx X.K x n).2 n
  | 0 => ⟨fun fr => ⟨fun _ _ _ _ _ => Sim.fail, fun _ _ _ _ _ => Sim.fail, fun _ _ _ _ _ => Sim.fail, fun _ _ _ _ _ _ _ _ => Sim.fail, fun _ _ _ _ _ _ => CSim.fail, fun _ _ _ _ _ _ _ _ => CSim.fail, fun _ _ _ _ _ _ _ _ _ _ _ _ _ => CSim.fail⟩,
      fun fr => ⟨fun _ _ _ _ _ => XSim.fail, fun _ _ _ _ _ => XSim.fail, fun _ _ _ _ _ _ _ _ => XSim.fail⟩⟩
  | n + 1 => by
    have IH := soundX X x L n
    have SF : ∀ fr, SoundF (X.wf fr) (rx X.K x n).1 n := fun fr fr' => IH.1 fr'
    have XF : ∀ fr, XSoundF (X.wf fr) (rx X.K x n).2 n := fun fr fr' => IH.2 fr'
    refine ⟨fun fr => ?_, fun fr => ?_⟩
    · have S := SF fr
      have L' := L.wf fr
      exact ⟨fun A hA ae env e => Sim.expr L' S.here hA e, fun A hA ae env e => Sim.testX S.here hA.less (room_units hA) e, fun A hA ae env ss => Sim.execs (fun st => Sim.one L' S (IH.2 fr) hA st) ss, fun A hA f fv as vs ks kvs => Sim.call S hA f fv as vs ks kvs,
        fun A hA ae env t b => Sim.loop S.here hA.less t b, fun A hA ae env t it itv b => Sim.forl S.here hA.less t it itv b, fun A hA ae env elt t i sc p it itv acc accv => Sim.comp S.here hA.less elt t i sc p it itv acc accv⟩
    · have S := SF fr
      have L' := L.wf fr
      exact ⟨fun A hA ae env e => XSim.expr S.here (IH.2 fr) hA.less e, fun A hA ae env ss => XSim.list (fun st => Sim.one L' S (IH.2 fr) hA st) (fun st => XSim.stmt S.here (IH.2 fr) hA.less st) ss, fun A hA f fv as vs ks kvs => XSim.fn (XF fr) hA⟩
theorem sound (X : Ctx) (x : Ext) (L : Lib X) (n : Nat) : SoundF X (recN X.K x n) n := (soundX X x L n).1
noncomputable abbrev so (x : String) : Str := Str.ofString x
noncomputable def nthS (l : List Stmt) (i : Nat) : Stmt := l.getD i (.Pass default)
noncomputable def fdArgs : Stmt → Arguments
  | .FunctionDef _ a _ _ _ _ _ _ _ _ => a
  | _ => ⟨[], [], none, [], [], none, []⟩
noncomputable def fdBody : Stmt → List Stmt
  | .FunctionDef _ _ b _ _ _ _ _ _ _ => b
  | _ => []
noncomputable def fdScope : Stmt → Scope
  | .FunctionDef _ _ _ _ _ _ s _ _ _ => s
  | _ => default
noncomputable def clsB : Stmt → List Stmt
  | .ClassDef _ _ _ b _ _ _ _ _ _ _ => b
  | _ => []
noncomputable abbrev P3 : Program := PySem.Challenge.pw_rk0005_03
noncomputable def mS (i : Nat) : Stmt := nthS P3.main.body i
noncomputable def mM (i j : Nat) : Stmt := nthS (clsB (mS i)) j
noncomputable abbrev sv (x : String) (t : Nat) : Value := .str (so x) t
noncomputable abbrev sq (c : String) (l : List Value) : Obj := { cls := .type c, data := .seq l.toArray }
noncomputable abbrev fl (c : String) (l : List Value) : Obj := { cls := .type c, data := .fields l.toArray }
noncomputable abbrev tp (l : List Value) : Obj := sq "tuple" l
noncomputable def tqL : Nat → List String → List Value
  | _, [] => []
  | t, x :: l => sv x t :: tqL (t + 1) l
noncomputable abbrev tq (t : Nat) (l : List String) : Obj := tp (tqL t l)
noncomputable abbrev cd (n q : String) (t a b e f : Nat) (r s : Addr) (x y : Value) (z : Addr) (h : Nat) : Obj := fl "code" [sv n t, sv q (t + 1), sv "/claim/cut.py" (t + 2), .int a 0, .int b 0, .int 0 0, .int 0 0, .int e 0, .ref r, .bool true, .int f 0, .ref s, .none, x, y, .ref z, .int h 0, .int a 0, sv "/claim/cut.py" (h + 1)]
noncomputable abbrev fn (n q : String) (d : Stmt) (f : Value) (m : String) (t : Nat) (c : Addr) : Obj := { cls := .type "function", data := .func { name := so n, qualname := so q, params := fdArgs d, body := .stmts (fdBody d), scope := fdScope d, globals := 3, closure := [], defaults := f, kwdefaults := .none, pyModule := sv m t, code := .ref c } }
noncomputable abbrev dc (c : Value) (k : Nat) (p : Params) (l : List (String × Nat × Value)) : Obj := { cls := c, data := .dict (l.map fun q => { hash := PyData.keyHash p (so q.1), key := sv q.1 q.2.1, val := q.2.2 }).toArray k }
noncomputable def kk3 (p : Params) : Frag := [(2, dc .none 2 p [("type.__subclasses__.Exception.0", 336, (.int 111 0)), ("type.__subclasses__.Exception.n", 337, (.int 1 0))]),
  (3, dc (.type "dict") 20 p [("__name__", 165, (sv "law_rk0005_03" 498)), ("__doc__", 166, .none), ("__package__", 167, .none), ("__loader__", 168, (.builtin "__main__.__loader__#opaque")), ("__spec__", 169, .none), ("__annotations__", 170, (.ref 6)), ("__builtins__", 171, (.ref 4)), ("__file__", 173, (sv "/claim/cut.py" 172)), ("__cached__", 174, .none), ("_wall", 193, (.ref 21)), ("Token", 241, (.ref 47)), ("SourceLocation", 297, (.ref 79)), ("CompilerError", 339, (.ref 111)), ("Char", 379, (.ref 138)), ("HandLexerBase", 497, (.ref 230)), ("_law_SIGNS", 501, (sv "ab(\n é" 500)), ("_law_signs", 511, (.ref 241)), ("_law_run", 517, (.ref 246)), ("_law_due", 523, (.ref 251)), ("law", 529, (.ref 256))]),
  (4, { cls := Value.type "module", dict := some 0 }),
  (15, tp []),
  (17, tq 190 ["k"]),
  (18, tp []),
  (20, cd "_wall" "_wall" 187 1 1 3 181 15 16 (.ref 17) (.ref 18) 19 191),
  (21, fn "_wall" "_wall" (mS 0) .none "__main__" 164 20),
  (29, sq "list" [(sv "typ" 208), (sv "val" 209), (sv "loc" 210)]),
  (30, tp []),
  (32, tq 215 ["self", "typ", "val", "loc"]),
  (33, tp []),
  (35, cd "__init__" "Token.__init__" 212 8 4 3 181 30 31 (.ref 32) (.ref 33) 34 219),
  (36, fn "__init__" "Token.__init__" (mM 2 1) .none "ppci.lang.common" 194 35),
  (37, tp []),
  (39, tq 225 ["self"]),
  (40, tp []),
  (42, cd "__repr__" "Token.__repr__" 222 14 1 3 181 37 38 (.ref 39) (.ref 40) 41 226),
  (43, fn "__repr__" "Token.__repr__" (mM 2 2) .none "ppci.lang.common" 194 42),
  (44, tq 229 ["loc", "typ", "val"]),
  (46, dc (.type "dict") 5 p [("__module__", 203, (sv "ppci.lang.common" 194)), ("__firstlineno__", 207, (.int 5 206)), ("__slots__", 211, (.ref 29)), ("__init__", 221, (.ref 36)), ("__repr__", 228, (.ref 43)), ("__static_attributes__", 232, (.ref 44)), ("loc", 234, (.ref 48)), ("typ", 236, (.ref 49)), ("val", 238, (.ref 50)), ("__doc__", 239, .none)]),
  (47, { cls := Value.type "type", data := Data.cls { name := so "Token", bases := [Value.type "object"], mro := [Value.ref 47, Value.type "object"], ns := 46, qualname := so "Token", hasDict := false, slotNames := [so "loc", so "typ", so "val"] }, slots := #[none, none, some (Value.str (so "Token") 196), some (Value.str (so "Token") 204), some (Value.builtin "object.__new__"), some (Value.bool false)] }),
  (48, fl "member_descriptor" [(sv "loc" 233), (.ref 47), (.builtin "proto.slot"), (.builtin "proto.slot#set"), (.int 2 0)]),
  (49, fl "member_descriptor" [(sv "typ" 235), (.ref 47), (.builtin "proto.slot"), (.builtin "proto.slot#set"), (.int 1 0)]),
  (50, fl "member_descriptor" [(sv "val" 237), (.ref 47), (.builtin "proto.slot"), (.builtin "proto.slot#set"), (.int 0 0)]),
  (60, sq "list" [(sv "filename" 254), (sv "row" 255), (sv "col" 256), (sv "length" 257), (sv "source" 258)]),
  (61, tp [.none]),
  (62, tp []),
  (64, tq 263 ["self", "filename", "row", "col", "ln", "source"]),
  (65, tp []),
  (67, cd "__init__" "SourceLocation.__init__" 260 19 6 3 181 62 63 (.ref 64) (.ref 65) 66 269),
  (68, fn "__init__" "SourceLocation.__init__" (mM 3 1) (.ref 61) "ppci.lang.common" 194 67),
  (69, tp []),
  (71, tq 275 ["self"]),
  (72, tp []),
  (74, cd "__repr__" "SourceLocation.__repr__" 272 26 1 3 181 69 70 (.ref 71) (.ref 72) 73 276),
  (75, fn "__repr__" "SourceLocation.__repr__" (mM 3 2) .none "ppci.lang.common" 194 74),
  (76, tq 279 ["col", "filename", "length", "row", "source"]),
  (78, dc (.type "dict") 7 p [("__module__", 249, (sv "ppci.lang.common" 194)), ("__firstlineno__", 253, (.int 16 252)), ("__slots__", 259, (.ref 60)), ("__init__", 271, (.ref 68)), ("__repr__", 278, (.ref 75)), ("__static_attributes__", 284, (.ref 76)), ("col", 286, (.ref 80)), ("filename", 288, (.ref 81)), ("length", 290, (.ref 82)), ("row", 292, (.ref 83)), ("source", 294, (.ref 84)), ("__doc__", 295, .none)]),
  (79, { cls := Value.type "type", data := Data.cls { name := so "SourceLocation", bases := [Value.type "object"], mro := [Value.ref 79, Value.type "object"], ns := 78, qualname := so "SourceLocation", hasDict := false, slotNames := [so "col", so "filename", so "length", so "row", so "source"] }, slots := #[none, none, some (Value.str (so "SourceLocation") 242), some (Value.str (so "SourceLocation") 250), some (Value.builtin "object.__new__"), some (Value.bool false)] }),
  (80, fl "member_descriptor" [(sv "col" 285), (.ref 79), (.builtin "proto.slot"), (.builtin "proto.slot#set"), (.int 4 0)]),
  (81, fl "member_descriptor" [(sv "filename" 287), (.ref 79), (.builtin "proto.slot"), (.builtin "proto.slot#set"), (.int 3 0)]),
  (82, fl "member_descriptor" [(sv "length" 289), (.ref 79), (.builtin "proto.slot"), (.builtin "proto.slot#set"), (.int 2 0)]),
  (83, fl "member_descriptor" [(sv "row" 291), (.ref 79), (.builtin "proto.slot"), (.builtin "proto.slot#set"), (.int 1 0)]),
  (84, fl "member_descriptor" [(sv "source" 293), (.ref 79), (.builtin "proto.slot"), (.builtin "proto.slot#set"), (.int 0 0)]),
  (87, tp [(.type "Exception")]),
  (94, tp [.none, .none]),
  (95, tp []),
  (97, tq 315 ["self", "msg", "loc", "hints"]),
  (98, tp []),
  (100, cd "__init__" "CompilerError.__init__" 312 31 4 3 181 95 96 (.ref 97) (.ref 98) 99 319),
  (101, fn "__init__" "CompilerError.__init__" (mM 5 0) (.ref 94) "ppci.common" 298 100),
  (102, tp []),
  (104, tq 325 ["self"]),
  (105, tp []),
  (107, cd "__repr__" "CompilerError.__repr__" 322 40 1 3 181 102 103 (.ref 104) (.ref 105) 106 326),
  (108, fn "__repr__" "CompilerError.__repr__" (mM 5 1) .none "ppci.common" 298 107),
  (109, tq 329 ["hints", "loc", "msg"]),
  (110, dc (.type "dict") 3 p [("__module__", 307, (sv "ppci.common" 298)), ("__firstlineno__", 311, (.int 29 310)), ("__init__", 321, (.ref 101)), ("__repr__", 328, (.ref 108)), ("__static_attributes__", 332, (.ref 109)), ("__weakref__", 334, (.ref 112)), ("__doc__", 335, .none)]),
  (111, { cls := Value.type "type", data := Data.cls { name := so "CompilerError", bases := [Value.type "Exception"], mro := [Value.ref 111, Value.type "Exception", Value.type "BaseException", Value.type "object"], ns := 110, qualname := so "CompilerError" }, slots := #[some (Value.ref 87), none, some (Value.str (so "CompilerError") 300), some (Value.str (so "CompilerError") 308), some (Value.builtin "Exception.__new__"), some (Value.bool true)] }),
  (112, fl "getset_descriptor" [(sv "__weakref__" 333), (.ref 111), (.builtin "ExceptionGroup.__weakref__"), .none]),
  (122, tp []),
  (124, tq 357 ["self", "char", "loc"]),
  (125, tp []),
  (127, cd "__init__" "Char.__init__" 354 45 3 3 181 122 123 (.ref 124) (.ref 125) 126 360),
  (128, fn "__init__" "Char.__init__" (mM 7 0) .none "ppci.lang.tools.handlexer" 340 127),
  (129, tp []),
  (131, tq 366 ["self"]),
  (132, tp []),
  (134, cd "__repr__" "Char.__repr__" 363 49 1 3 181 129 130 (.ref 131) (.ref 132) 133 367),
  (135, fn "__repr__" "Char.__repr__" (mM 7 1) .none "ppci.lang.tools.handlexer" 340 134),
  (136, tq 370 ["char", "loc"]),
  (137, dc (.type "dict") 4 p [("__module__", 349, (sv "ppci.lang.tools.handlexer" 340)), ("__firstlineno__", 353, (.int 43 352)), ("__init__", 362, (.ref 128)), ("__repr__", 369, (.ref 135)), ("__static_attributes__", 372, (.ref 136)), ("__dict__", 374, (.ref 139)), ("__weakref__", 376, (.ref 140)), ("__doc__", 377, .none)]),
  (138, { cls := Value.type "type", data := Data.cls { name := so "Char", bases := [Value.type "object"], mro := [Value.ref 138, Value.type "object"], ns := 137, qualname := so "Char" }, slots := #[none, none, some (Value.str (so "Char") 342), some (Value.str (so "Char") 350), some (Value.builtin "object.__new__"), some (Value.bool true)] }),
  (139, fl "getset_descriptor" [(sv "__dict__" 373), (.ref 138), (.builtin "function.__dict__"), (.builtin "function.__dict__#set")]),
  (140, fl "getset_descriptor" [(sv "__weakref__" 375), (.ref 138), (.builtin "ExceptionGroup.__weakref__"), .none]),
  (150, tp []),
  (152, tq 395 ["self"]),
  (153, tp []),
  (155, cd "__init__" "HandLexerBase.__init__" 392 53 1 3 181 150 151 (.ref 152) (.ref 153) 154 396),
  (156, fn "__init__" "HandLexerBase.__init__" (mM 8 0) .none "ppci.lang.tools.handlexer" 340 155),
  (157, tp []),
  (159, tq 402 ["self", "characters", "start_state", "state"]),
  (160, tp []),
  (162, cd "tokenize" "HandLexerBase.tokenize" 399 58 3 35 181 157 158 (.ref 159) (.ref 160) 161 406),
  (163, fn "tokenize" "HandLexerBase.tokenize" (mM 8 1) .none "ppci.lang.tools.handlexer" 340 162),
  (164, tp [(.bool true)]),
  (165, tp []),
  (167, tq 412 ["self", "eof", "char"]),
  (168, tp []),
  (170, cd "next_char" "HandLexerBase.next_char" 409 66 2 3 181 165 166 (.ref 167) (.ref 168) 169 415),
  (171, fn "next_char" "HandLexerBase.next_char" (mM 8 2) (.ref 164) "ppci.lang.tools.handlexer" 340 170),
  (172, tp []),
  (174, tq 421 ["self", "char"]),
  (175, tp []),
  (177, cd "backup_char" "HandLexerBase.backup_char" 418 77 2 3 181 172 173 (.ref 174) (.ref 175) 176 423),
  (178, fn "backup_char" "HandLexerBase.backup_char" (mM 8 3) .none "ppci.lang.tools.handlexer" 340 177),
  (179, tp []),
  (181, tq 429 ["self", "typ", "val", "loc", "token"]),
  (182, tp []),
  (184, cd "emit" "HandLexerBase.emit" 426 82 2 3 181 179 180 (.ref 181) (.ref 182) 183 434),
  (185, fn "emit" "HandLexerBase.emit" (mM 8 4) .none "ppci.lang.tools.handlexer" 340 184),
  (186, tp []),
  (188, tq 440 ["self"]),
  (189, tp []),
  (191, cd "ignore" "HandLexerBase.ignore" 437 89 1 3 181 186 187 (.ref 188) (.ref 189) 190 441),
  (192, fn "ignore" "HandLexerBase.ignore" (mM 8 5) .none "ppci.lang.tools.handlexer" 340 191),
  (193, tp []),
  (195, tq 447 ["self", "valid"]),
  (196, tp []),
  (198, cd "accept" "HandLexerBase.accept" 444 92 2 3 181 193 194 (.ref 195) (.ref 196) 197 449),
  (199, fn "accept" "HandLexerBase.accept" (mM 8 6) .none "ppci.lang.tools.handlexer" 340 198),
  (200, tp []),
  (202, tq 455 ["self", "valid"]),
  (203, tp []),
  (205, cd "accept_run" "HandLexerBase.accept_run" 452 95 2 3 181 200 201 (.ref 202) (.ref 203) 204 457),
  (206, fn "accept_run" "HandLexerBase.accept_run" (mM 8 7) .none "ppci.lang.tools.handlexer" 340 205),
  (207, tp []),
  (209, tq 463 ["self", "sequence"]),
  (210, tp []),
  (212, cd "accept_sequence" "HandLexerBase.accept_sequence" 460 98 2 3 181 207 208 (.ref 209) (.ref 210) 211 465),
  (213, fn "accept_sequence" "HandLexerBase.accept_sequence" (mM 8 8) .none "ppci.lang.tools.handlexer" 340 212),
  (214, tp []),
  (216, tq 471 ["self", "message", "char", "loc"]),
  (217, tp []),
  (219, cd "error" "HandLexerBase.error" 468 101 2 3 181 214 215 (.ref 216) (.ref 217) 218 475),
  (220, fn "error" "HandLexerBase.error" (mM 8 9) .none "ppci.lang.tools.handlexer" 340 219),
  (221, tp []),
  (223, tq 481 ["self", "valid"]),
  (224, tp []),
  (226, cd "expect" "HandLexerBase.expect" 478 106 2 3 181 221 222 (.ref 223) (.ref 224) 225 483),
  (227, fn "expect" "HandLexerBase.expect" (mM 8 10) .none "ppci.lang.tools.handlexer" 340 226),
  (228, tq 486 ["characters", "current_text", "pushed_back", "token_buffer"]),
  (229, dc (.type "dict") 4 p [("__module__", 387, (sv "ppci.lang.tools.handlexer" 340)), ("__firstlineno__", 391, (.int 51 390)), ("__init__", 398, (.ref 156)), ("tokenize", 408, (.ref 163)), ("next_char", 417, (.ref 171)), ("backup_char", 425, (.ref 178)), ("emit", 436, (.ref 185)), ("ignore", 443, (.ref 192)), ("accept", 451, (.ref 199)), ("accept_run", 459, (.ref 206)), ("accept_sequence", 467, (.ref 213)), ("error", 477, (.ref 220)), ("expect", 485, (.ref 227)), ("__static_attributes__", 490, (.ref 228)), ("__dict__", 492, (.ref 231)), ("__weakref__", 494, (.ref 232)), ("__doc__", 495, .none)]),
  (230, { cls := Value.type "type", data := Data.cls { name := so "HandLexerBase", bases := [Value.type "object"], mro := [Value.ref 230, Value.type "object"], ns := 229, qualname := so "HandLexerBase" }, slots := #[none, none, some (Value.str (so "HandLexerBase") 380), some (Value.str (so "HandLexerBase") 388), some (Value.builtin "object.__new__"), some (Value.bool true)] }),
  (231, fl "getset_descriptor" [(sv "__dict__" 491), (.ref 230), (.builtin "function.__dict__"), (.builtin "function.__dict__#set")]),
  (232, fl "getset_descriptor" [(sv "__weakref__" 493), (.ref 230), (.builtin "ExceptionGroup.__weakref__"), .none]),
  (235, tp []),
  (237, tq 505 ["nums", "found", "i", "v"]),
  (238, tp []),
  (240, cd "_law_signs" "_law_signs" 502 110 1 3 181 235 236 (.ref 237) (.ref 238) 239 509),
  (241, fn "_law_signs" "_law_signs" (mS 11) .none "law_rk0005_03" 498 240),
  (242, tp []),
  (245, cd "_law_run" "_law_run" 512 116 2 3 181 242 243 .none .none 244 515),
  (246, fn "_law_run" "_law_run" (mS 12) .none "law_rk0005_03" 498 245),
  (247, tp []),
  (250, cd "_law_due" "_law_due" 518 162 2 3 181 247 248 .none .none 249 521),
  (251, fn "_law_due" "_law_due" (mS 13) .none "law_rk0005_03" 498 250),
  (252, tp []),
  (255, cd "law" "law" 524 181 1 3 181 252 253 .none .none 254 527),
  (256, fn "law" "law" (mS 14) .none "law_rk0005_03" 498 255)]
noncomputable def lstO (vs : List Value) : Obj := { cls := .type "list", data := .seq vs.toArray 0 }
noncomputable def Ru {β : Type} (x : EM β) (ev : Ev) (b : β) (ev' : Ev) : Prop := ∃ cs, x ev = some (b, ev', cs) ∧ All cs
theorem All.appI {a b : List Prop} (x : All a) (y : All b) : All (a ++ b) := by
  induction a with
  | nil => exact y
  | cons c a ih => exact ⟨x.1, ih x.2⟩
theorem Ru.bind {β γ : Type} {x : EM β} {f : β → EM γ} {ev ev' ev'' : Ev} {b : β} {c : γ} (h1 : Ru x ev b ev') (h2 : Ru (f b) ev' c ev'') : Ru (EM.bind x f) ev c ev'' := by
  obtain ⟨cs, e, a⟩ := h1
  obtain ⟨cs', e', a'⟩ := h2
  exact ⟨cs ++ cs', by show onSome (x ev) _ _ = _; rw [e]; show onSome (f b ev') _ _ = _; rw [e']; rfl, a.appI a'⟩
theorem Ru.ret {β : Type} {b : β} {ev : Ev} : Ru (EM.ret b) ev b ev := ⟨[], rfl, trivial⟩
theorem Ru.dec {b : Bool} {σ : St} {ds : List Wd} : Ru (EM.dec b) (σ, .b b :: ds) b (σ, ds) := ⟨[b = b], rfl, rfl, trivial⟩
theorem Ru.of {β : Type} {x : EM β} {ev ev' : Ev} {b : β} {cs : List Prop} (e : x ev = some (b, ev', cs)) (h : All cs) : Ru x ev b ev' := ⟨cs, e, h⟩
theorem execs_app {one : Stmt → EM AFlow} : ∀ (a b : List Stmt) {ev ev' ev'' : Ev} {fl : AFlow}, Ru (eExecs one a) ev .next ev' → Ru (eExecs one b) ev' fl ev'' → Ru (eExecs one (a ++ b)) ev fl ev''
  | [], b, ev, ev', ev'', fl, h1, h2 => h1.elim fun cs q => inj3 q.1 fun _ i2 _ => i2 ▸ h2
  | st :: a, b, ev, ev', ev'', fl, h1, h2 => h1.elim fun cs q => EM.bind_use (x := one st) (f := fun fl => onFl fl (eExecs one a) (fun v => EM.ret (.ret v)) EM.fail) q.1 q.2 fun f ev₁ c₁ c₂ e₁ e₂ a1 a2 => by
    cases f with
    | next => exact Ru.bind (f := fun fl => onFl fl (eExecs one (a ++ b)) (fun v => EM.ret (.ret v)) EM.fail) ⟨c₁, e₁, a1⟩ (execs_app a b ⟨c₂, e₂, a2⟩ h2)
    | ret v => exact inj3 e₂ fun i1 _ _ => nomatch i1
    | _ => exact noneOf e₂
theorem Und.mono {N N' : Nat} {x : AV} (h : Und N x) (hN : N ≤ N') : Und N' x :=
  AV.ind (P := fun x => Und N x → Und N' x) (L := fun x => Und N (.tup x) → Und N' (.tup x)) (M := fun x => Und N (.obj 0 x) → Und N' (.obj 0 x)) (fun _ h => h) (fun _ h => h) (fun _ h => h) (fun _ h => h) (fun _ h => Nat.lt_of_lt_of_le h hN) (fun _ ih => ih) (fun _ _ ih => ih) (fun _ _ ih => ih)
    (fun _ _ _ _ _ h p hp => Nat.lt_of_lt_of_le (h p hp) hN) (fun h => h) (fun _ _ p q h => ⟨p h.1, q h.2⟩) (fun h => h) (fun _ _ _ p q h => ⟨p h.1, q h.2⟩) x h
structure CL (xs : List AV) : Prop where
  all : ∀ x ∈ xs, ∀ N, Und N x
theorem CL.nil : CL [] := ⟨fun _ h => nomatch h⟩
theorem CL.cons {x : AV} {xs : List AV} (h : ∀ N, Und N x) (hs : CL xs) : CL (x :: xs) := ⟨fun y hy => by
  rcases List.mem_cons.mp hy with rfl | hy
  · exact h
  · exact hs.all y hy⟩
theorem CL.app {xs ys : List AV} (h : CL xs) (hs : CL ys) : CL (xs ++ ys) := ⟨fun y hy => (List.mem_append.mp hy).elim (h.all y) (hs.all y)⟩
theorem CL.tup {xs : List AV} (h : CL xs) (N : Nat) : Und N (.tup xs) := .tup fun x hx => h.all x hx N
theorem CL.slo {C : Addr} {xs : List AV} (h : CL xs) (N : Nat) : Und N (.slo C xs) := .slo fun x hx => h.all x hx N
structure NsOk (N : Nat) (m : List (Str × AV)) : Prop where
  all : ∀ q ∈ m, Und N q.2
theorem NsOk.nil {N : Nat} : NsOk N [] := ⟨fun _ h => nomatch h⟩
theorem NsOk.cons {N : Nat} {x : Str} {v : AV} {m : List (Str × AV)} (h : Und N v) (hs : NsOk N m) : NsOk N ((x, v) :: m) := ⟨fun q hq => by
  rcases List.mem_cons.mp hq with rfl | hq
  · exact h
  · exact hs.all q hq⟩
theorem NsOk.mono {N N' : Nat} {m : List (Str × AV)} (h : NsOk N m) (hN : N ≤ N') : NsOk N' m := ⟨fun q hq => (h.all q hq).mono hN⟩
theorem und_ns {N : Nat} {m : List (Str × AV)} (h : NsOk N m) : UndC N (.ns m) := h.all
theorem und_dict {N : Nat} {m : List (Str × AV)} (h : NsOk N m) : UndC N (.dict m) := h.all
theorem und_list {N : Nat} {xs : List AV} (h : CL xs) : UndC N (.list xs) := fun x hx => h.all x hx N
theorem und_cons {N i : Nat} {c : Cell} {l : List (Nat × Cell)} (h : UndC N c) (hs : ∀ q ∈ l, UndC N q.2) : ∀ q ∈ (i, c) :: l, UndC N q.2 := fun q hq => by
  rcases List.mem_cons.mp hq with rfl | hq
  · exact h
  · exact hs q hq
theorem und_nil {N : Nat} : ∀ q ∈ ([] : List (Nat × Cell)), UndC N q.2 := fun _ h => nomatch h
theorem UndC.mono {N N' : Nat} {c : Cell} (h : UndC N c) (hN : N ≤ N') : UndC N' c := by
  cases c with
  | list xs => exact fun x hx => (h x hx).mono hN
  | ns m => exact fun x hx => (h x hx).mono hN
  | dict m => exact fun x hx => (h x hx).mono hN
  | box v => cases v with
    | none => trivial
    | some v => exact Und.mono h hN
  | inst C d => exact Nat.lt_of_lt_of_le h hN
  | sinst C d xs => exact ⟨Nat.lt_of_lt_of_le h.1 hN, fun x hx => (h.2 x hx).mono hN⟩
  | liter l k => exact Nat.lt_of_lt_of_le h hN
  | exc C d t => exact ⟨fun i hi => Nat.lt_of_lt_of_le (h.1 i hi) hN, fun i hi => Nat.lt_of_lt_of_le (h.2 i hi) hN⟩
  | tb fl => exact fun i hi => Nat.lt_of_lt_of_le (h i hi) hN
  | wl l k => exact Nat.lt_of_lt_of_le h hN
  | enum l k => exact Nat.lt_of_lt_of_le h hN
  | _ => exact h
theorem und_sinstC {N C d : Nat} {xs : List (Option AV)} (h : d < N) (hs : CL (xs.filterMap id)) : UndC N (.sinst C d xs) := ⟨h, fun x hx => hs.all x (List.mem_filterMap.mpr ⟨some x, hx, rfl⟩) N⟩
noncomputable def Go {β : Type} (x : EM β) (σ : St) (b : β) (σ' : St) : Prop := ∃ ws : List Wd, ∀ ds, Ru x (σ, ws ++ ds) b (σ', ds)
theorem Go.bind {β γ : Type} {x : EM β} {f : β → EM γ} {σ σ' σ'' : St} {b : β} {c : γ} (h1 : Go x σ b σ') (h2 : Go (f b) σ' c σ'') : Go (EM.bind x f) σ c σ'' := by
  obtain ⟨w1, h1⟩ := h1
  obtain ⟨w2, h2⟩ := h2
  exact ⟨w1 ++ w2, fun ds => by rw [List.append_assoc]; exact (h1 _).bind (h2 ds)⟩
theorem Go.ret {β : Type} {b : β} {σ : St} : Go (EM.ret b) σ b σ := ⟨[], fun ds => Ru.ret⟩
theorem Go.dec {b : Bool} {σ : St} : Go (EM.dec b) σ b σ := ⟨[.b b], fun ds => Ru.dec⟩
section
variable {one : Stmt → EM AFlow}
theorem Go.app {a b : List Stmt} {σ σ' σ'' : St} {fl : AFlow} (h1 : Go (eExecs one a) σ .next σ') (h2 : Go (eExecs one b) σ' fl σ'') : Go (eExecs one (a ++ b)) σ fl σ'' := by
  obtain ⟨w1, h1⟩ := h1
  obtain ⟨w2, h2⟩ := h2
  exact ⟨w1 ++ w2, fun ds => by rw [List.append_assoc]; exact execs_app a b (h1 _) (h2 ds)⟩
theorem Go.stmt {st : Stmt} {σ σ' : St} {fl : AFlow} (h : Go (one st) σ fl σ') (hn : fl = .next ∨ ∃ v, fl = .ret v := by first | exact .inl rfl | exact .inr ⟨_, rfl⟩) : Go (eExecs one [st]) σ fl σ' :=
  show Go (EM.bind (one st) fun fl => onFl fl (EM.ret AFlow.next) (fun v => EM.ret (AFlow.ret v)) EM.fail) σ fl σ' from Go.bind h (by
    rcases hn with rfl | ⟨v, rfl⟩
    · exact Go.ret
    · exact Go.ret)
theorem Go.cons {st : Stmt} {ss : List Stmt} {σ σ' σ'' : St} {fl : AFlow} (h1 : Go (one st) σ .next σ') (h2 : Go (eExecs one ss) σ' fl σ'') : Go (eExecs one (st :: ss)) σ fl σ'' :=
  show Go (EM.bind (one st) fun fl => onFl fl (eExecs one ss) (fun v => EM.ret (AFlow.ret v)) EM.fail) σ fl σ'' from Go.bind h1 h2
theorem Go.consR {st : Stmt} {ss : List Stmt} {σ σ' : St} {v : AV} (h1 : Go (one st) σ (.ret v) σ') : Go (eExecs one (st :: ss)) σ (.ret v) σ' :=
  show Go (EM.bind (one st) fun fl => onFl fl (eExecs one ss) (fun v => EM.ret (AFlow.ret v)) EM.fail) σ (.ret v) σ' from Go.bind h1 Go.ret
end
theorem Go.of {β : Type} {x : EM β} {σ σ' : St} {b : β} {cs : List Prop} (ws : List Wd) (e : ∀ ds, x (σ, ws ++ ds) = some (b, (σ', ds), cs)) (h : All cs) : Go x σ b σ' := ⟨ws, fun ds => Ru.of (e ds) h⟩
theorem Go.st {β : Type} {f : St → EM β} {σ σ' : St} {b : β} (h : Go (f σ) σ b σ') : Go (EM.st f) σ b σ' := h.elim fun ws h => ⟨ws, fun ds => h ds⟩
theorem Go.eq {β : Type} {x y : EM β} {σ σ' : St} {b : β} (e : x = y) (h : Go y σ b σ') : Go x σ b σ' := e ▸ h
theorem pick_runL {α : Type} (xs : List α) (a k : Nat) : ((List.range k).map (a + ·)).filterMap (xs[·]?) = (xs.drop a).take k := by
  have := pick_run xs.toArray a k
  simpa using this
theorem take_min {α : Type} (xs : List α) (a b : Nat) : (xs.drop (min a xs.length)).take (min b xs.length - min a xs.length) = (xs.drop a).take (b - a) := by
  by_cases h : a ≤ xs.length
  · rw [Nat.min_eq_left h]
    by_cases hb : b ≤ xs.length
    · rw [Nat.min_eq_left hb]
    · rw [Nat.min_eq_right (by omega), List.take_of_length_le (by rw [List.length_drop]; omega), List.take_of_length_le (by rw [List.length_drop]; omega)]
  · rw [show min a xs.length = xs.length by omega, List.drop_eq_nil_of_le (Nat.le_refl _), List.drop_eq_nil_of_le (i := a) (by omega)]
    simp
theorem pickG_ab {α : Type} (xs : List α) (a b : Nat) : pickG xs (some (a : Int)) (some (b : Int)) = (xs.drop a).take (b - a) := by
  have e : sliceBounds (some (a : Int)) (some (b : Int)) none xs.length = (((min a xs.length : Nat) : Int), ((min b xs.length : Nat) : Int), 1) := by
    simp only [sliceBounds, Option.getD_none]
    have h1 : ¬ ((a : Int) < 0) := by omega
    have h2 : ¬ ((b : Int) < 0) := by omega
    simp only [h1, h2, if_false, show (1 : Int) > 0 by decide, if_true]
    congr 1
    · omega
    · congr 1; omega
  unfold pickG
  rw [e]
  simp only [sliceRange_one, pick_runL]
  exact take_min xs a b
theorem pickG_a {α : Type} (xs : List α) (a : Nat) : pickG xs (some (a : Int)) none = xs.drop a := by
  have e : sliceBounds (some (a : Int)) none none xs.length = (((min a xs.length : Nat) : Int), ((xs.length : Nat) : Int), 1) := by
    simp only [sliceBounds, Option.getD_none]
    have h1 : ¬ ((a : Int) < 0) := by omega
    simp only [h1, if_false, show (1 : Int) > 0 by decide, if_true]
    congr 1
    omega
  unfold pickG
  rw [e]
  simp only [sliceRange_one, pick_runL]
  by_cases h : a ≤ xs.length
  · rw [Nat.min_eq_left h, List.take_of_length_le (by rw [List.length_drop]; omega)]
  · rw [Nat.min_eq_right (by omega), List.drop_eq_nil_of_le (Nat.le_refl _), List.drop_eq_nil_of_le (i := a) (by omega)]
    simp
theorem pickG_b {α : Type} (xs : List α) (b : Nat) : pickG xs none (some (b : Int)) = xs.take b := by
  have e : sliceBounds none (some (b : Int)) none xs.length = (((0 : Nat) : Int), ((min b xs.length : Nat) : Int), 1) := by
    simp only [sliceBounds, Option.getD_none]
    have h2 : ¬ ((b : Int) < 0) := by omega
    simp only [h2, if_false, show (1 : Int) > 0 by decide, if_true]
    congr 1
    congr 1; omega
  unfold pickG
  rw [e]
  simp only [sliceRange_one, pick_runL]
  rw [List.drop_zero, Nat.sub_zero]
  by_cases h : b ≤ xs.length
  · rw [Nat.min_eq_left h]
  · rw [Nat.min_eq_right (by omega), List.take_of_length_le (Nat.le_refl _), List.take_of_length_le (by omega)]
theorem bind_ret {β γ : Type} {x : EM β} {f : β → EM γ} {q : β} {ev : Ev} (h : x ev = some (q, ev, [])) : EM.bind x f ev = f q ev := by
  unfold EM.bind
  rw [h]
  show onSome (f q ev) _ none = _
  cases f q ev <;> rfl
theorem cellAs_eq {β : Type} {as : Cell → Option β} {i : Nat} {q : β} {c : Cell} {σ : St} {ds : List Wd} (h : σ.get i = some c) (h2 : as c = some q) : EM.cellAs as i (σ, ds) = some (q, (σ, ds), []) := by
  show EM.opt ((σ.get i).bind as) (σ, ds) = _
  rw [h]
  show EM.opt (as c) (σ, ds) = _
  rw [h2]
  rfl
theorem chk_eq {b : Bool} {ev : Ev} (h : b = true) : EM.chk b ev = some ((), ev, []) := by rw [h]; rfl
section
variable {tgt : PySem.Expr} {σ : St} {i j l k : Nat} {xs : List AV} {y : AV} {ds : List Wd}
theorem rit_no (h1 : σ.get i = some (.enum j k)) : eNextRit tgt i (σ, ds) = none := by
  have : EM.cellAs asRit i (σ, ds) = none := by
    show EM.opt ((σ.get i).bind asRit) (σ, ds) = _
    rw [h1]
    rfl
  unfold eNextRit
  show onSome (EM.cellAs asRit i (σ, ds)) _ none = none
  rw [this]
  rfl
theorem own_enum (h0 : isTup tgt = true) (h1 : σ.get i = some (.enum j k)) (h2 : σ.get j = some (.wl l k)) (h3 : σ.get l = some (.list xs)) {r : Option AV × Ev × List Prop}
    (h : EM.bind EM.cutW (fun o => onSome o (fun y => EM.turn (xs[k]? = some y) (fun σ => (σ.set j (.wl l (k + 1))).set i (.enum j (k + 1))) (some (.tup [.int k, y]))) (EM.turn (xs[k]? = none) (fun σ => σ.set j .any) none)) (σ, ds) = some r) : eNextOwn tgt (.ref i) (σ, ds) = some r := by
  have e : eNextEn tgt i (σ, ds) = some r := by
    unfold eNextEn
    rw [bind_ret (cellAs_eq (as := asEnum) (q := (j, k)) h1 rfl), bind_ret (chk_eq h0), bind_ret (cellAs_eq (as := asWl) (q := (l, k)) h2 rfl), bind_ret (cellAs_eq (as := asList) (q := xs) h3 rfl), bind_ret (chk_eq (Nat.beq_refl k))]
    exact h
  show EM.or (eNextRit tgt i) (EM.or (eNextEn tgt i) (eNextIt tgt i)) _ = _
  unfold EM.or
  rw [rit_no h1, e]
theorem next_enum (h0 : isTup tgt = true) (h1 : σ.get i = some (.enum j k)) (h2 : σ.get j = some (.wl l k)) (h3 : σ.get l = some (.list xs)) :
    eNextOwn tgt (.ref i) (σ, .cut [] y :: ds) = some (some (.tup [.int k, y]), ((σ.set j (.wl l (k + 1))).set i (.enum j (k + 1)), ds), [xs[k]? = some y]) := own_enum h0 h1 h2 h3 rfl
theorem end_enum (h0 : isTup tgt = true) (h1 : σ.get i = some (.enum j k)) (h2 : σ.get j = some (.wl l k)) (h3 : σ.get l = some (.list xs)) :
    eNextOwn tgt (.ref i) (σ, .b false :: ds) = some (none, (σ.set j .any, ds), [xs[k]? = none]) := own_enum h0 h1 h2 h3 rfl
end
theorem Go.sm {α β : Type} {f : α → EM β} {d : EM β} {a : α} {σ σ' : St} {c : β} (h : Go (f a) σ c σ') : Go (onSome (some a) f d) σ c σ' := h
theorem Go.nx {β : Type} {n d : EM β} {r : AV → EM β} {σ σ' : St} {c : β} (h : Go n σ c σ') : Go (onFl .next n r d) σ c σ' := h
theorem Go.chk {β : Type} {b : Bool} {x : EM β} {σ σ' : St} {c : β} (h : b = true) (hx : Go x σ c σ') : Go (_root_.cond b x EM.fail) σ c σ' := by rw [h]; exact hx
theorem Go.args2 {r : Rec} {ae : AEnv} {args : List PySem.Expr} {σ σ3 : St} {as : List AV} (h : Go (eArgs r ae args) σ as σ3) : Go (eArgs2 r ae args []) σ (as, []) σ3 := Go.chk rfl (Go.bind h (Go.bind (f := fun ks => EM.ret (as, ks)) (b := []) (σ' := σ3) Go.ret Go.ret))
theorem Go.meth {K : Frag} {r : Rec} {ae : AEnv} {o : PySem.Expr} {name : Str} {args : List PySem.Expr} {σ σ1 σ2 σ3 σ4 : St} {ov f v : AV} {first as : List AV}
    (h1 : Go (r.ev ae o) σ ov σ1) (h2 : Go (eMethod K ov name) σ1 (f, first) σ2) (h3 : keepOk K f = true) (h4 : Go (eArgs r ae args) σ2 as σ3) (h5 : Go (r.call f (first ++ as) []) σ3 v σ4) : Go (eMethodCall K r ae o name args []) σ v σ4 :=
  Go.bind h1 (Go.bind (f := fun p => eCallWith K r ae p.1 p.2 args []) h2 (Go.chk h3 (Go.bind (f := fun p => r.call f (first ++ p.1) p.2) (Go.args2 h4) h5)))
theorem Go.fcall {K : Frag} {r : Rec} {ae : AEnv} {f v : AV} {args : List PySem.Expr} {σ σ3 σ4 : St} {as : List AV}
    (h3 : keepOk K f = true) (h4 : Go (eArgs r ae args) σ as σ3) (h5 : Go (r.call f as []) σ3 v σ4) : Go (eCallWith K r ae f [] args []) σ v σ4 := Go.chk h3 (Go.bind (f := fun p => r.call f ([] ++ p.1) p.2) (Go.args2 h4) h5)
theorem Go.args0 {r : Rec} {ae : AEnv} {σ : St} : Go (eArgs r ae []) σ [] σ := Go.ret
theorem Go.argsC {r : Rec} {ae : AEnv} {e : PySem.Expr} {es : List PySem.Expr} {v : AV} {vs : List AV} {σ σ1 σ2 : St} (h0 : noStar e = true) (h : Go (r.ev ae e) σ v σ1) (hs : Go (eArgs r ae es) σ1 vs σ2) : Go (eArgs r ae (e :: es)) σ (v :: vs) σ2 := Go.chk h0 (Go.bind h (Go.bind hs Go.ret))
theorem Go.args1 {r : Rec} {ae : AEnv} {e : PySem.Expr} {v : AV} {σ σ1 : St} (h0 : noStar e = true) (h : Go (r.ev ae e) σ v σ1) : Go (eArgs r ae [e]) σ [v] σ1 := Go.argsC h0 h Go.args0
theorem Go.stmts {one : Stmt → EM AFlow} {st : Stmt} {ss : List Stmt} {σ σ1 σ2 : St} {fl : AFlow} (h : Go (one st) σ .next σ1) (hs : Go (eExecs one ss) σ1 fl σ2) : Go (eExecs one (st :: ss)) σ fl σ2 := Go.bind (f := fun fl => onFl fl (eExecs one ss) (fun v => EM.ret (.ret v)) EM.fail) h hs
theorem comp_gen {α : Type} {K : Frag} {R : Nat → Rec} (hR : ∀ n ae e t it acc, (R (n + 1)).comp ae e t it acc = eComp K (R n) ae e t it acc) {ae : AEnv} {elt tgt : PySem.Expr} {it acc : AV} (items : List α) (iv ov : α → AV) (S : Cell → List AV → List (Str × AV) → St) (i L : Nat)
    (cmOk : List (Str × AV) → Prop) (cmOf : α → List (Str × AV))
    (hn : ∀ j ys cm x, items[j]? = some x → Go (eNextOwn tgt it) (S (.liter i j) ys cm) (some (iv x)) (S (.liter i (j + 1)) ys cm))
    (he : ∀ j ys cm, items[j]? = none → Go (eNextOwn tgt it) (S (.liter i j) ys cm) none (S .lend ys cm))
    (hs : ∀ m j ys cm x, cmOk cm → Go (eAssign K (R (m + L)) ae (iv x) tgt) (S (.liter i j) ys cm) PUnit.unit (S (.liter i j) ys (cmOf x)))
    (hok : ∀ x, cmOk (cmOf x))
    (hv : ∀ m j ys x, x ∈ items → Go ((R (m + L)).ev ae elt) (S (.liter i j) ys (cmOf x)) (ov x) (S (.liter i j) ys (cmOf x)))
    (ha : ∀ j ys cm v, ys.length ≤ 900 → Go (eAppend [acc, v]) (S (.liter i j) ys cm) (.val .none) (S (.liter i j) (ys ++ [v]) cm)) :
    ∀ (T done : List α) (N : Nat) (hN : L + 1 + T.length ≤ N) (ys : List AV) (hl : ys.length + T.length ≤ 900) (cm : List (Str × AV)) (hc : cmOk cm) (hi : items = done ++ T),
      ∃ cm', Go ((R N).comp ae elt tgt it acc) (S (.liter i done.length) ys cm) .next (S .lend (ys ++ T.map ov) cm') := by
  intro T
  induction T with
  | nil =>
    intro done N hN ys hl cm hc hi
    obtain ⟨m, rfl⟩ : ∃ m, N = m + 1 := ⟨N - 1, by omega⟩
    refine ⟨cm, ?_⟩
    rw [hR, List.map_nil, List.append_nil]
    unfold eComp
    exact (he _ _ _ (by rw [hi]; simp)).bind Go.ret
  | cons x T ih =>
    intro done N hN ys hl cm hc hi
    rw [List.length_cons] at hN hl
    obtain ⟨m, rfl⟩ : ∃ m, N = m + L + 1 := ⟨N - L - 1, by omega⟩
    obtain ⟨cm', r⟩ := ih (done ++ [x]) (m + L) (by omega) (ys ++ [ov x]) (by rw [List.length_append, List.length_singleton]; omega) (cmOf x) (hok x) (by rw [hi]; simp only [List.append_assoc, List.singleton_append])
    refine ⟨cm', ?_⟩
    rw [hR, List.map_cons, show ys ++ ov x :: T.map ov = (ys ++ [ov x]) ++ T.map ov by simp]
    unfold eComp
    refine Go.bind (hn done.length ys cm x (by rw [hi]; simp)) (Go.sm (Go.bind (hs m _ ys cm x hc) (Go.bind (Go.bind (hv m _ ys x (by rw [hi]; simp)) (ha _ ys _ _ (by omega))) ?_)))
    rw [List.length_append, List.length_singleton] at r
    exact r
theorem forl_turn {K : Frag} {r : Rec} {ae : AEnv} {tgt : PySem.Expr} {it v : AV} {body : List Stmt} {σ σ1 σ2 σ3 σ4 σ5 : St} {fl : AFlow} (h1 : Go (eNextOwn tgt it) σ (some v) σ1) (h2 : Go (eAssign K r ae v tgt) σ1 PUnit.unit σ2) (h3 : Go (r.exs ae body) σ2 .next σ3) (h4 : Go (eTidy σ.n) σ3 () σ4)
    (h5 : Go (r.forl ae tgt it body) σ4 fl σ5) : Go (eForL K r ae tgt it body) σ fl σ5 := Go.st (Go.bind h1 (Go.sm (Go.bind (Go.bind h2 h3) (Go.nx (Go.bind h4 h5)))))
theorem forl_end {K : Frag} {r : Rec} {ae : AEnv} {tgt : PySem.Expr} {it : AV} {body : List Stmt} {σ σ1 : St} (h1 : Go (eNextOwn tgt it) σ none σ1) : Go (eForL K r ae tgt it body) σ .next σ1 := Go.st (Go.bind h1 Go.ret)
theorem tidy_keep {N : Nat} {σ : St} : Go (eTidy N) σ () σ := Go.of [.keep] (fun ds => rfl) trivial
theorem Go.opt {α β : Type} {o : Option α} {a : α} {f : α → EM β} {σ σ' : St} {c : β} (h : o = some a) (hf : Go (f a) σ c σ') : Go (EM.bind (EM.opt o) f) σ c σ' := by rw [h]; exact Go.bind (b := a) (σ' := σ) Go.ret hf
theorem Go.cond {β : Type} {P : Prop} {f : Unit → EM β} {σ σ' : St} {c : β} (h : P) (hf : Go (f ()) σ c σ') : Go (EM.bind (EM.cond P) f) σ c σ' := Go.bind (b := ()) (σ' := σ) (Go.of (cs := [P]) [] (fun ds => rfl) ⟨h, trivial⟩) hf
theorem Go.word {α β : Type} {g : Wd → Option α} {w : Wd} {a : α} {f : α → EM β} {σ σ' : St} {c : β} (h : g w = some a) (hf : Go (f a) σ c σ') : Go (EM.bind (EM.word g) f) σ c σ' := Go.bind (b := a) (σ' := σ) (Go.of (cs := []) [w] (fun ds => by show onSome (g w) _ _ = _; rw [h]; rfl) trivial) hf
theorem Go.cellL {β : Type} {i : Nat} {xs : List AV} {f : List AV → EM β} {σ σ' : St} {c : β} (h : σ.get i = some (.list xs)) (hl : xs.length ≤ 1000000) (hf : Go (f xs) σ c σ') : Go (EM.bind (eCellL i) f) σ c σ' := Go.bind (b := xs) (σ' := σ) (Go.bind (b := xs) (σ' := σ) (Go.of (cs := []) [] (fun ds => by show EM.opt ((σ.get i).bind asList) _ = _; rw [h]; rfl) trivial) (Go.cond hl Go.ret)) hf
theorem Go.tupA {K : Frag} {r : Rec} {ae : AEnv} {elts : List PySem.Expr} {k : Nat} {tpos pos : Pos} {value : PySem.Expr} {xs : List Str} {vs : List AV} {σ σ1 σ2 : St} (h1 : namesOf elts = some xs)
    (h2 : swapsN ae elts k tpos value pos (some xs)) (h3 : Go (r.ev ae value) σ (.tup vs) σ1) (h4 : Nat.beq xs.length vs.length = true) (h5 : Go (eBinds ae xs.reverse vs.reverse) σ1 () σ2) : Go (eTupA K r ae elts k tpos value pos) σ .next σ2 :=
  Go.opt h1 (Go.word (w := .b true) (a := true) rfl (Go.cond (f := fun _ => eTupR r ae xs value) h2 (Go.bind h3 (Go.chk (x := EM.bind (eBinds ae xs.reverse vs.reverse) fun _ => EM.ret AFlow.next) h4 (Go.bind h5 Go.ret)))))
theorem Go.fn {r : Rec} {fi : FnI} {as : List AV} {ks binds : List (Str × AV)} {σ σ1 σ2 : St} {ae : AEnv} {v : AV} (h1 : (plainParams fi.params && plainScope fi.scope) = true) (h2 : bindsOf (fi.params.args.map fun p => p.arg) fi.dflts as ks = some binds)
    (h3 : Go (eEnter fi.scope fi.closure fi.code binds) σ ae σ1) (h4 : Go (EM.bind (r.exs ae fi.body) fun fl => onFl fl (eNorm σ.n noneAV) (eNorm σ.n) EM.fail) σ1 v σ2) : Go (eFn r fi as ks) σ v σ2 :=
  Go.chk h1 (by rw [h2]; exact Go.st (f := fun σ => EM.bind (eEnter fi.scope fi.closure fi.code binds) fun ae => EM.bind (r.exs ae fi.body) fun fl => onFl fl (eNorm σ.n noneAV) (eNorm σ.n) EM.fail) (Go.bind h3 h4))
theorem Go.iter {r : Rec} {ae : AEnv} {e : PySem.Expr} {it : AV} {γ : Type} {f : AV → EM γ} {c : γ} {σ σ1 σ2 : St} (h1 : Go (EM.bind (r.ev ae e) fun v => eIterOf v) σ it σ1) (h2 : Go (f it) σ1 c σ2) : Go (EM.bind (r.ev ae e) fun v => EM.bind (eIterOf v) f) σ c σ2 :=
  h1.elim fun w1 h1 => h2.elim fun w2 h2 => ⟨w1 ++ w2, fun ds => by
    rw [List.append_assoc]
    exact (h1 (w2 ++ ds)).elim fun cs q => EM.bind_use q.1 q.2 fun v ev1 c1 c2 r1 r2 a1 a2 => Ru.bind ⟨c1, r1, a1⟩ (Ru.bind ⟨c2, r2, a2⟩ (h2 ds))⟩
theorem Go.front {one : Stmt → EM AFlow} {a b : List Stmt} {γ : Type} {f : AFlow → EM γ} {σ σ1 σ2 : St} {c : γ} (h1 : Go (eExecs one a) σ .next σ1) (h2 : Go (EM.bind (eExecs one b) f) σ1 c σ2) : Go (EM.bind (eExecs one (a ++ b)) f) σ c σ2 :=
  h1.elim fun w1 h1 => h2.elim fun w2 h2 => ⟨w1 ++ w2, fun ds => by
    rw [List.append_assoc]
    exact (h2 ds).elim fun cs q => EM.bind_use q.1 q.2 fun v ev1 c1 c2 r1 r2 a1 a2 => Ru.bind (execs_app a b (h1 _) ⟨c1, r1, a1⟩) ⟨c2, r2, a2⟩⟩
theorem Go.eqL {i j : Nat} {xs : List AV} {σ : St} (h1 : σ.get i = some (.list xs)) (h2 : σ.get j = some (.list xs)) (hf : xs.all (flatN 3) = true) (hl : xs.length ≤ 1000000) : Go (eCmpX .Eq (.ref i) (.ref j)) σ (.bool true) σ :=
  show Go (eEqL i j) σ _ σ from Go.cellL h1 hl (Go.cellL h2 hl (Go.cond ⟨rfl, hf⟩ Go.ret))
theorem lookup_ne {K : Frag} {b : Addr} (e : (K.map Prod.fst).all (fun a => !(Nat.beq a b)) = true) : ∀ a o, List.lookup a K = some o → a ≠ b := by
  intro a o hl hab
  induction K with
  | nil => cases hl
  | cons q K ih =>
    rw [List.map_cons, List.all_cons, Bool.and_eq_true] at e
    rw [List.lookup_cons] at hl
    split at hl
    · rename_i hq
      have : a = q.1 := by simpa using hq
      rw [← this, hab] at e
      have := e.1
      rw [Nat.beq_refl] at this
      cases this
    · exact ih e.2 hl
theorem lookup_lt {K : Frag} {b : Nat} (e : (K.map Prod.fst).all (fun a => Nat.blt a b) = true) : ∀ a o, List.lookup a K = some o → a < b := by
  intro a o hl
  induction K with
  | nil => cases hl
  | cons q K ih =>
    rw [List.map_cons, List.all_cons, Bool.and_eq_true] at e
    rw [List.lookup_cons] at hl
    split at hl
    · rename_i hq
      have : a = q.1 := by simpa using hq
      rw [this]
      exact Nat.le_of_ble_eq_true e.1
    · exact ih e.2 hl
noncomputable def oAt (K : Frag) (a : Addr) : Obj := (List.lookup a K).getD { cls := .none, data := .plain }
noncomputable def fieldsOf (o : Obj) : Array Value := match o.data with
  | .fields vs => vs
  | _ => #[]
noncomputable def isStrV : Value → Bool
  | .str _ _ => true
  | _ => false
noncomputable def isIntV : Value → Bool
  | .int _ _ => true
  | _ => false
noncomputable def isBoolV : Value → Bool
  | .bool _ => true
  | _ => false
noncomputable def noneTab : Obj := { cls := .none, data := .fields #[] }
structure CodeF (K : Frag) (c P : Addr) : Prop where
  qa : List.lookup c K = some (oAt K c)
  qb : (oAt K c).cls = .type "code"
  qd : (oAt K c).data = .fields (fieldsOf (oAt K c))
  qe : (fieldsOf (oAt K c))[11]? = some (.ref P)
  qf : (fieldsOf (oAt K c)).getD 11 .none = .ref P
  qg : isStrV ((fieldsOf (oAt K c)).getD 18 .none) = true
  qh : isIntV ((fieldsOf (oAt K c)).getD 7 .none) = true
  qi : isBoolV ((fieldsOf (oAt K c)).getD 9 .none) = true
  qj : isIntV ((fieldsOf (oAt K c)).getD 10 .none) = true
  ql : c ≠ P
theorem str_of {v : Value} (h : isStrV v = true) : ∃ x t, v = .str x t := by cases v <;> first | exact ⟨_, _, rfl⟩ | cases h
theorem int_of {v : Value} (h : isIntV v = true) : ∃ x t, v = .int x t := by cases v <;> first | exact ⟨_, _, rfl⟩ | cases h
theorem bool_of {v : Value} (h : isBoolV v = true) : ∃ x, v = .bool x := by cases v <;> first | exact ⟨_, rfl⟩ | cases h
theorem CodeF.cell {K : Frag} {c P : Addr} {h : Heap} (x : CodeF K c P) (KX : K.In h) (h2 : h.get? P = some noneTab) (n : Nat) (ρ : Rho) {F : Fz} (hF : F c = some (oAt K c)) (ks : Option (List (Int × Int))) : CellAt n ρ F h P (.tab c #[] ks) := by
  obtain ⟨fs, ft, e1⟩ := str_of x.qg
  obtain ⟨fl, flt, e2⟩ := int_of x.qh
  obtain ⟨bb, e3⟩ := bool_of x.qi
  obtain ⟨tx, txt, e4⟩ := int_of x.qj
  have h1 := KX _ _ x.qa
  exact ⟨noneTab, h2, ⟨#[], oAt K c, rfl, hF, ⟨h, #[], #[], h1, ⟨_, _, _, _, _, _, _, _, _, _, h1, x.qd, x.qf, e1, e2, e3, e4, h2, rfl, trivial, x.ql⟩, ⟨⟨_, _, h1, x.qb, x.qd, x.qe⟩, h2⟩⟩, trivial, fun l _ pos _ => rfl⟩⟩
theorem eq_of_nodup {α β : Type} {f : α → β} : ∀ {l : List α}, (l.map f).Nodup → ∀ {x y : α}, x ∈ l → y ∈ l → f x = f y → x = y
  | [], _, _, _, h, _, _ => nomatch h
  | a :: l, hn, x, y, hx, hy, e => by
    rw [List.map_cons, List.nodup_cons] at hn
    rcases List.mem_cons.mp hx with rfl | hx'
    · rcases List.mem_cons.mp hy with rfl | hy'
      · rfl
      · exact absurd (List.mem_map.mpr ⟨y, hy', e.symm⟩) hn.1
    · rcases List.mem_cons.mp hy with rfl | hy'
      · exact absurd (List.mem_map.mpr ⟨x, hx', e⟩) hn.1
      · exact eq_of_nodup hn.2 hx' hy' e
theorem ints_raw : ∀ {vs : List Value} {ns : List Int}, IntsAre vs ns → vs.map rawAV = ns.map AV.int
  | _, _, .nil => rfl
  | _, _, .cons n t h => by rw [List.map_cons, List.map_cons, ints_raw h]; rfl
noncomputable abbrev Tb4 := Nat × Addr × Addr × Option (List (Int × Int))
noncomputable def tbC (t : Tb4) : Nat × Cell := (t.1, .tab t.2.1 #[] t.2.2.2)
noncomputable def rho0 (T : List Tb4) (sa : Addr) : Rho := fun i => match T.find? (fun t => Nat.beq t.1 i) with
  | some t => t.2.2.1
  | none => sa
noncomputable def fzH (h : Heap) (T : List Tb4) (n0 : Nat) : Fz := fun a => if (T.any fun t => Nat.beq t.2.2.1 a) = true then none else if a < n0 then h.get? a else none
noncomputable def st0 (T : List Tb4) (N : Nat) (vs : List Value) : St := ⟨N, T.map tbC ++ [(0, .raw (lstO vs))]⟩
section
variable {h : Heap} {T : List Tb4} {n0 : Nat} {a : Addr} {o : Obj}
theorem fzH_sub (e : fzH h T n0 a = some o) : h.get? a = some o := by
  unfold fzH at e
  split at e
  · cases e
  · split at e
    · exact e
    · cases e
theorem fzH_of (e : h.get? a = some o) (hT : (T.any fun t => Nat.beq t.2.2.1 a) = false) (hn : a < n0) : fzH h T n0 a = some o := by
  unfold fzH
  rw [if_neg (by rw [hT]; decide), if_pos hn]
  exact e
end
theorem join_gen {prog : Program} {w : World} {K : Frag} {x : Ext} {n N n0 : Nat} {s₁ : Shared} {sa fa : Addr} {vs : List Value} {T : List Tb4} {σ' : St} {mb : Str → Option Value}
    (KX : K.In s₁.heap) (hK : ∀ a o, List.lookup a K = some o → a < n0 ∧ (T.any fun t => Nat.beq t.2.2.1 a) = false)
    (hT : ∀ t ∈ T, CodeF K t.2.1 t.2.2.1 ∧ s₁.heap.get? t.2.2.1 = some noneTab ∧ t.1 < N ∧ rho0 T sa t.1 = t.2.2.1)
    (h0 : 0 < N) (hr0 : rho0 T sa 0 = sa) (hnd : ((T.map fun t => t.2.2.1) ++ [sa]).Nodup) (hsa : ¬ sa < n0)
    (hb : s₁.heap.Ns builtinsNs mb) (hbn : builtinsNs < n0) (hbT : (T.any fun t => Nat.beq t.2.2.1 builtinsNs) = false) (hc : s₁.heap.NoLimit) (hcn : cStatics < n0) (hcT : (T.any fun t => Nat.beq t.2.2.1 cStatics) = false)
    (hs : s₁.heap.get? sa = some (lstO vs)) (hg : s₁.gens = #[]) (hnm : ∀ y v, bNames.lookup y = some v → mb y = some v)
    (hbf : peek K ⟨prog, w.params⟩ (builtinsFor mainGlobals builtinsNs) = some builtinsNs) (hmn : ∃ v, peek K ⟨prog, w.params⟩ (nsGet mainGlobals "__name__") = some v)
    (hd : 301 + 4 * n < 1000) (hu : 4 + 40 * n < 9900)
    (hrun : Go ((recN K x n).call (.val (.ref fa)) [.ref 0] []) (st0 T N vs) (.bool true) σ')
    (e0 : σ'.get 0 = some (.raw (lstO vs))) (eT : ∀ t ∈ T, ∃ ks, σ'.get t.1 = some (.tab t.2.1 #[] ks)) {Q : Value → Shared → Prop} {E : Value → Shared → Prop}
    (hQ : ∀ s', OldK s₁.heap s'.heap → s'.os = s₁.os → AllBare s'.gens → Q (.bool true) s') : wpAny (model prog w) callerA (call (.ref fa) [.ref sa]) Q E s₁ := by
  let X : Ctx := ⟨prog, w, K, mb, s₁.drawn, s₁.os, []⟩
  have hKF : ∀ a o, List.lookup a K = some o → fzH s₁.heap T n0 a = some o := fun a o h => fzH_of (KX a o h) (hK a o h).2 (hK a o h).1
  have L : Lib X := ⟨hnm, hmn⟩
  have S := (sound X x L n).here
  have hroom : Room X callerA n := ⟨hd, hu, rfl, rfl, rfl⟩
  have hoff : ∀ a, (T.any fun t => Nat.beq t.2.2.1 a) = true → fzH s₁.heap T n0 a = none := fun a h => by unfold fzH; rw [if_pos h]
  have hmem : ∀ p ∈ (st0 T N vs).objs, (∃ t ∈ T, p = tbC t) ∨ p = (0, .raw (lstO vs)) := fun p hp => by
    rcases List.mem_append.mp hp with h | h
    · obtain ⟨t, ht, rfl⟩ := List.mem_map.mp h
      exact .inl ⟨t, ht, rfl⟩
    · rw [List.mem_singleton] at h
      exact .inr h
  have hany : ∀ t ∈ T, (T.any fun u => Nat.beq u.2.2.1 t.2.2.1) = true := fun t ht => List.any_eq_true.mpr ⟨t, ht, Nat.beq_refl _⟩
  have fns : FNs (fzH s₁.heap T n0) builtinsNs mb := by
    obtain ⟨o, es, ep, h1, h2, h3, h4⟩ := hb
    exact ⟨o, es, ep, fzH_of h1 hbT hbn, h2, h3, h4⟩
  have fcs : ∃ mc, FNs (fzH s₁.heap T n0) cStatics mc ∧ mc "sys.recursionlimit" = none := by
    obtain ⟨mc, ⟨o, es, ep, h1, h2, h3, h4⟩, h5⟩ := hc
    exact ⟨mc, ⟨o, es, ep, fzH_of h1 hcT hcn, h2, h3, h4⟩, h5⟩
  have hnd' : ((st0 T N vs).objs.map fun p => rho0 T sa p.1).Nodup := by
    have : (st0 T N vs).objs.map (fun p => rho0 T sa p.1) = (T.map fun t => t.2.2.1) ++ [sa] := by
      show (T.map tbC ++ [(0, Cell.raw (lstO vs))]).map (fun p : Nat × Cell => rho0 T sa p.1) = _
      rw [List.map_append, List.map_map]
      show _ ++ [rho0 T sa 0] = _
      rw [hr0]
      congr 1
      exact List.map_congr_left fun t ht => (hT t ht).2.2.2
    rw [this]
    exact hnd
  have I : Inv X (rho0 T sa) (fzH s₁.heap T n0) (st0 T N vs) s₁ := by
    refine ⟨fun i c e => ?_, fun i j c d e f q => congrArg Prod.fst (eq_of_nodup hnd' (mem_of_assoc e) (mem_of_assoc f) q), fun i c e => ?_, fun i c e => ?_, fun a o e => fzH_sub e, ⟨hKF, fns, fcs, K, hKF, hbf⟩, rfl, rfl, .of_eq hg, fun e he => nomatch he⟩
    · rcases hmem (i, c) (mem_of_assoc e) with ⟨t, ht, q⟩ | q
      · rw [show i = t.1 from congrArg Prod.fst q]; exact (hT t ht).2.2.1
      · rw [show i = 0 from congrArg Prod.fst q]; exact h0
    · rcases hmem (i, c) (mem_of_assoc e) with ⟨t, ht, q⟩ | q
      · rw [show i = t.1 from congrArg Prod.fst q, show c = .tab t.2.1 #[] t.2.2.2 from congrArg Prod.snd q]
        show CellAt _ _ _ _ (rho0 T sa t.1) _
        rw [(hT t ht).2.2.2]
        exact (hT t ht).1.cell KX (hT t ht).2.1 _ _ (hKF _ _ (hT t ht).1.qa) _
      · rw [show i = 0 from congrArg Prod.fst q, show c = .raw (lstO vs) from congrArg Prod.snd q]
        exact ⟨_, (congrArg _ hr0).trans hs, rfl⟩
    · rcases hmem (i, c) (mem_of_assoc e) with ⟨t, ht, q⟩ | q
      · rw [show i = t.1 from congrArg Prod.fst q]
        show fzH s₁.heap T n0 (rho0 T sa t.1) = none
        rw [(hT t ht).2.2.2]
        exact hoff _ (hany t ht)
      · rw [show i = 0 from congrArg Prod.fst q, hr0]
        unfold fzH
        rw [if_neg hsa]
        split <;> rfl
  obtain ⟨ws, hrun⟩ := hrun
  obtain ⟨cs, q1, q2⟩ := hrun []
  have G := S.call callerA hroom (.val (.ref fa)) (.ref fa) [.ref 0] [.ref sa] [] [] _ _ _ _ q1 q2 (rho0 T sa) (fzH s₁.heap T n0) s₁ I ⟨rfl, ⟨⟨congrArg Value.ref hr0.symm, h0⟩, rfl⟩, rfl⟩
  refine G Q E fun v s' ρ' F' hv I' st => ?_
  have hv' : v = .bool true := hv
  subst hv'
  refine hQ s' ⟨fun b o e => ?_, st.live⟩ I'.os I'.gens
  by_cases hb0 : b = sa
  · subst hb0
    obtain ⟨o', h', rfl⟩ := I'.cell _ _ e0
    rw [st.same 0 h0, hr0] at h'
    exact .inl (h'.trans (hs.symm.trans e))
  · by_cases hbT' : ∃ t ∈ T, t.2.2.1 = b
    · obtain ⟨t, ht, rfl⟩ := hbT'
      obtain ⟨ks, hm⟩ := eT t ht
      obtain ⟨o', h3, ⟨more, oc, e3, _, _, _, _⟩⟩ := I'.cell _ _ hm
      rw [st.same _ (hT t ht).2.2.1, (hT t ht).2.2.2] at h3
      have h4 := (hT t ht).2.1
      rw [e] at h4
      cases h4
      have c := (hT t ht).1
      have ct : isCodeTable s₁.heap t.2.2.1 := ⟨_, _, _, KX _ _ c.qa, c.qb, c.qd, c.qe⟩
      exact .inr (.inl ⟨ct, rfl, #[], more, rfl, h3.trans (congrArg some e3)⟩)
    · refine .inl (st.keep b o e fun i c hp hpb => ?_)
      rcases hmem (i, c) (mem_of_assoc hp) with ⟨t, ht, q⟩ | q
      · have : rho0 T sa t.1 = b := (congrArg (rho0 T sa) (congrArg Prod.fst q)).symm.trans hpb
        rw [(hT t ht).2.2.2] at this
        exact hbT' ⟨t, ht, this⟩
      · have : rho0 T sa 0 = b := (congrArg (rho0 T sa) (congrArg Prod.fst q)).symm.trans hpb
        rw [hr0] at this
        exact hb0 this.symm
theorem nm_of {f : Str → Option Value} (e : bNames.map (fun q => f q.1) = bNames.map (fun q => some q.2)) : ∀ y v, bNames.lookup y = some v → f y = some v := by
  intro y v hl
  generalize bNames = K at e hl
  induction K with
  | nil => cases hl
  | cons q K ih =>
    rw [List.map_cons, List.map_cons] at e
    injection e with e1 e2
    rw [List.lookup_cons] at hl
    split at hl
    · rename_i hq
      cases hl
      have : y = q.1 := by simpa using hq
      rw [this]; exact e1
    · exact ih e2 hl
noncomputable def KK (p : Params) : Frag := kk3 p
noncomputable def gtextOf (body : List Stmt) : Option GText := match body with
  | [a, b, .While t1 [.While t2 [.Expr (.Yield (some item) ypos) epos] [] pos2, r] [] pos1] => some ⟨[a, b], t1, t2, item, [r], ypos, epos, pos1, pos2⟩
  | _ => none
section
variable (p : Params)
noncomputable def ext3 : Ext := ⟨fun st => match st with
  | .For _ (.Call (.Attribute _ nm _) _ _ _) _ _ _ => (match nm == "tokenize", fnInfo (KK p) (.val (.ref 163)) with
    | true, some fi => (gtextOf fi.body).map fun t => ⟨t, 10, 60⟩
    | _, _ => none)
  | _ => none⟩
noncomputable abbrev RN (n : Nat) : Rec := recN (KK p) (ext3 p) n
noncomputable def fnAt3 (a : Addr) : FnI := (fnInfo (KK p) (.val (.ref a))).getD ⟨⟨[], [], none, [], [], none, []⟩, [], default, [], [], .none⟩
noncomputable def runB : List Stmt := (fnAt3 p 246).body
noncomputable def takeV : AV := .clo "take" (fdArgs (nthS (runB p) 2)) (fdBody (nthS (runB p) 2)) (fdScope (nthS (runB p) 2)) [("seen", 19), ("held", 18), ("h", 17)]
noncomputable def stepV : AV := .clo "step" (fdArgs (nthS (runB p) 3)) (fdBody (nthS (runB p) 3)) (fdScope (nthS (runB p) 3)) [("ways", 14), ("take", 21), ("step", 20), ("held", 18), ("h", 17), ("finish", 16), ("at", 15)]
noncomputable def finV : AV := .clo "finish" (fdArgs (nthS (runB p) 4)) (fdBody (nthS (runB p) 4)) (fdScope (nthS (runB p) 4)) []
noncomputable def sAe : AEnv := ⟨fdScope (nthS (runB p) 3), 36, [("ways", 14), ("take", 21), ("step", 20), ("held", 18), ("h", 17), ("finish", 16), ("at", 15)], .none, 36⟩
end
noncomputable def whTest : Stmt → Expr
  | .While t _ _ _ => t
  | _ => .Constant .none 0 default
noncomputable def whBody : Stmt → List Stmt
  | .While _ b _ _ => b
  | _ => []
noncomputable def stepB (p : Params) : List Stmt := fdBody (nthS (runB p) 3)
structure G3 where
  xs : Obj
  ns : List AV
  ss : List AV
  cs : List AV
  ws : List AV
  ch : List AV
structure T3 where
  it : Cell
  seen : List AV
  held : List AV
  at_ : Int
  ct : List AV
  pb : List AV
  tb : List AV
section
variable (p : Params) (g : G3)
noncomputable def below3 (rm : List (Str × AV)) (t : T3) : List (Nat × Cell) :=
  [(34, t.it), (32, .list g.ch), (31, .lend), (30, .list t.seen), (29, .list t.held), (28, .list [.int t.at_]), (27, .list t.ct), (26, .list t.pb), (25, .list t.tb), (23, .inst 230 22),
   (22, .dict [("token_buffer", .ref 25), ("pushed_back", .ref 26), ("current_text", .ref 27), ("characters", .ref 34)]), (21, .box (some (takeV p))), (20, .box (some (stepV p))), (19, .box (some (.ref 30))), (18, .box (some (.ref 29))), (17, .box (some (.ref 23))),
   (16, .box (some (finV p))), (15, .box (some (.ref 28))), (14, .box (some (.ref 11))), (13, .ns rm), (11, .list g.ws), (10, .lend), (9, .list g.cs), (6, .list g.ss), (4, .list g.ns), (3, .ns [("script", .ref 0), ("nums", .ref 4), ("ways", .ref 11), ("signs", .ref 6)]),
   (2, .tab 184 #[] none), (1, .tab 245 #[] (some [(156, 4), (131, 4), (120, 4)])), (0, .raw g.xs)]
noncomputable def genC (rm gm : List (Str × AV)) (t : T3) : List (Nat × Cell) := (35, .ns gm) :: below3 p g rm t
noncomputable def stepC (rm gm wm : List (Str × AV)) (t : T3) : List (Nat × Cell) := (36, .ns wm) :: genC p g rm gm t
noncomputable def stepS (rm gm wm : List (Str × AV)) (t : T3) : St := ⟨37, stepC p g rm gm wm t⟩
noncomputable def genS (rm gm : List (Str × AV)) (t : T3) : St := ⟨36, genC p g rm gm t⟩
end
noncomputable def noneV : AV := .val .none
noncomputable def refV : AV := .tup [.str "refused", .val .none]
noncomputable def chr (c : Str) (f : Str) (r k l : Int) : AV := .obj 138 [("char", .str c), ("loc", .slo 79 [.int k, .str f, .int l, .int r, .val .none])]
noncomputable def sgn (c : Str) (f : Str) (r k l : Int) : AV := .tup [.str c, .str f, .int r, .int k, .int l]
theorem clo_chr (c f : Str) (r k l : Int) (N : Nat) : Und N (chr c f r k l) := .obj fun q hq => by
  rcases List.mem_cons.mp hq with rfl | hq
  · exact .str _
  · rcases List.mem_cons.mp hq with rfl | hq
    · exact (CL.cons (fun _ => .int _) (CL.cons (fun _ => .str _) (CL.cons (fun _ => .int _) (CL.cons (fun _ => .int _) (CL.cons (fun _ => .val _) CL.nil))))).slo N
    · cases hq
structure GOk (g : G3) : Prop where
  ns : CL g.ns
  ss : CL g.ss
  cs : CL g.cs
  ws : CL g.ws
  ch : CL g.ch
theorem und_take (p : Params) {N : Nat} (h : 36 ≤ N) : Und N (takeV p) := Und.mono (N := 36) (by unfold takeV; exact .clo (by decide)) h
theorem und_step (p : Params) {N : Nat} (h : 36 ≤ N) : Und N (stepV p) := Und.mono (N := 36) (by unfold stepV; exact .clo (by decide)) h
theorem und_fin (p : Params) {N : Nat} (h : 36 ≤ N) : Und N (finV p) := Und.mono (N := 36) (by unfold finV; exact .clo (by decide)) h
theorem und_below {p : Params} {g : G3} {rm : List (Str × AV)} {t : T3} {N : Nat} (hN : 36 ≤ N) (hg : GOk g) (hrm : NsOk 36 rm) (hit : UndC 36 t.it) (h1 : CL t.seen) (h2 : CL t.held) (h3 : CL t.ct) (h4 : CL t.pb) (h5 : CL t.tb) : ∀ q ∈ below3 p g rm t, UndC N q.2 := by
  have one : CL [.int t.at_] := CL.cons (fun _ => .int _) CL.nil
  unfold below3
  refine und_cons (hit.mono hN) (und_cons (und_list hg.ch) (und_cons trivial (und_cons (und_list h1) (und_cons (und_list h2) (und_cons (und_list one) (und_cons (und_list h3) (und_cons (und_list h4) (und_cons (und_list h5) (und_cons (show 22 < N by omega)
    (und_cons (und_dict (.cons (.ref (by omega)) (.cons (.ref (by omega)) (.cons (.ref (by omega)) (.cons (.ref (by omega)) .nil))))) (und_cons (und_take p hN) (und_cons (und_step p hN) (und_cons (show Und N _ from .ref (by omega)) (und_cons (show Und N _ from .ref (by omega)) (und_cons (show Und N _ from .ref (by omega))
    (und_cons (und_fin p hN) (und_cons (show Und N _ from .ref (by omega)) (und_cons (show Und N _ from .ref (by omega)) (und_cons (und_ns (hrm.mono hN)) (und_cons (und_list hg.ws) (und_cons trivial (und_cons (und_list hg.cs) (und_cons (und_list hg.ss) (und_cons (und_list hg.ns)
    (und_cons (und_ns (.cons (.ref (by omega)) (.cons (.ref (by omega)) (.cons (.ref (by omega)) (.cons (.ref (by omega)) .nil))))) (und_cons trivial (und_cons trivial (und_cons trivial und_nil))))))))))))))))))))))))))))
theorem und_gen {p : Params} {g : G3} {rm gm : List (Str × AV)} {t : T3} {N : Nat} (hN : 36 ≤ N) (hg : GOk g) (hrm : NsOk 36 rm) (hgm : NsOk 36 gm) (hit : UndC 36 t.it) (h1 : CL t.seen) (h2 : CL t.held) (h3 : CL t.ct) (h4 : CL t.pb) (h5 : CL t.tb) : ∀ q ∈ genC p g rm gm t, UndC N q.2 :=
  und_cons (und_ns (hgm.mono hN)) (und_below hN hg hrm hit h1 h2 h3 h4 h5)
theorem und_stp {p : Params} {g : G3} {rm gm wm : List (Str × AV)} {t : T3} {N : Nat} (hN : 37 ≤ N) (hg : GOk g) (hrm : NsOk 36 rm) (hgm : NsOk 36 gm) (hwm : NsOk 36 wm) (hit : UndC 36 t.it) (h1 : CL t.seen) (h2 : CL t.held) (h3 : CL t.ct) (h4 : CL t.pb) (h5 : CL t.tb) : ∀ q ∈ stepC p g rm gm wm t, UndC N q.2 :=
  und_cons (und_ns (hwm.mono (by omega))) (und_gen (by omega) hg hrm hgm hit h1 h2 h3 h4 h5)
structure SOk (g : G3) (rm gm wm : List (Str × AV)) : Prop where
  gok : GOk g
  rm : NsOk 36 rm
  gm : NsOk 36 gm
  wm : NsOk 36 wm
  nws : g.ws.length ≤ 1000
theorem SOk.und {p : Params} {g : G3} {rm gm wm : List (Str × AV)} {it : Cell} {seen held ct pb tb : List AV} {a : Int} (h : SOk g rm gm wm) {N : Nat} (hN : 37 ≤ N) (hit : UndC 36 it) (h1 : CL seen) (h2 : CL held) (h3 : CL ct) (h4 : CL pb) (h5 : CL tb) : ∀ q ∈ stepC p g rm gm wm ⟨it, seen, held, a, ct, pb, tb⟩, UndC N q.2 :=
  und_stp hN h.gok h.rm h.gm h.wm hit h1 h2 h3 h4 h5
noncomputable def gtx (p : Params) : GText := (gtextOf (fnAt3 p 163).body).getD ⟨[], .Constant .none 0 default, .Constant .none 0 default, .Constant .none 0 default, [], default, default, default, default⟩
noncomputable def gAe (p : Params) : AEnv := ⟨(fnAt3 p 163).scope, 35, [], .none, 35⟩
noncomputable def cAe (p : Params) : AEnv := ⟨(fnAt3 p 246).scope, 13, [("take", 21), ("step", 20), ("seen", 19), ("held", 18), ("h", 17), ("finish", 16), ("at", 15), ("ways", 14)], .ref 245, 13⟩
noncomputable def gmOf (p : Params) (x : AV) : List (Str × AV) := [("start_state", stepV p), ("characters", .ref 34), ("self", .ref 23), ("state", x)]
noncomputable def asgVal : Stmt → PySem.Expr
  | .Assign _ v _ => v
  | _ => .Constant .none 0 default
noncomputable def asgTgt : Stmt → PySem.Expr
  | .Assign (t :: _) _ _ => t
  | _ => .Constant .none 0 default
noncomputable def callFn' : PySem.Expr → PySem.Expr
  | .Call f _ _ _ => f
  | e => e
noncomputable def stE (p : Params) : PySem.Expr := callFn' (asgVal (nthS (gtx p).rest 0))
noncomputable def forBody : Stmt → List Stmt
  | .For _ _ b _ _ => b
  | _ => []
noncomputable def forIter : Stmt → PySem.Expr
  | .For _ i _ _ _ => i
  | _ => .Constant .none 0 default
noncomputable def forTgt : Stmt → PySem.Expr
  | .For t _ _ _ _ => t
  | _ => .Constant .none 0 default
noncomputable def run0 (g : G3) : St := ⟨13, [(11, .list g.ws), (10, .lend), (9, .list g.cs), (6, .list g.ss), (4, .list g.ns), (3, .ns [("script", .ref 0), ("nums", .ref 4), ("ways", .ref 11), ("signs", .ref 6)]), (2, .tab 184 #[] none), (1, .tab 245 #[] (some [])), (0, .raw g.xs)]⟩
noncomputable def run1 (p : Params) (g : G3) : St := ⟨31, [(30, .list []), (29, .list []), (28, .list [.int 0]), (27, .list []), (26, .list []), (25, .list []), (23, .inst 230 22),
   (22, .dict [("token_buffer", .ref 25), ("pushed_back", .ref 26), ("current_text", .ref 27)]), (21, .box (some (takeV p))), (20, .box (some (stepV p))), (19, .box (some (.ref 30))), (18, .box (some (.ref 29))), (17, .box (some (.ref 23))),
   (16, .box (some (finV p))), (15, .box (some (.ref 28))), (14, .box (some (.ref 11))), (13, .ns [("signs", .ref 6)]), (11, .list g.ws), (10, .lend), (9, .list g.cs), (6, .list g.ss), (4, .list g.ns), (3, .ns [("script", .ref 0), ("nums", .ref 4), ("ways", .ref 11), ("signs", .ref 6)]),
   (2, .tab 184 #[] none), (1, .tab 245 #[] (some [(156, 4), (131, 4), (120, 4)])), (0, .raw g.xs)]⟩
noncomputable def run2 (p : Params) (g : G3) (it : Cell) (ch : List AV) (cm : List (Str × AV)) : St := ⟨34, [(33, .ns cm), (32, .list ch), (31, it)] ++ (run1 p g).objs⟩
noncomputable def run3 (p : Params) (g : G3) : St := ⟨34, [(32, .list g.ch), (31, .lend), (30, .list []), (29, .list []), (28, .list [.int 0]), (27, .list []), (26, .list []), (25, .list []), (23, .inst 230 22),
   (22, .dict [("token_buffer", .ref 25), ("pushed_back", .ref 26), ("current_text", .ref 27)]), (21, .box (some (takeV p))), (20, .box (some (stepV p))), (19, .box (some (.ref 30))), (18, .box (some (.ref 29))), (17, .box (some (.ref 23))),
   (16, .box (some (finV p))), (15, .box (some (.ref 28))), (14, .box (some (.ref 11))), (13, .ns [("signs", .ref 6), ("chars", .ref 32)]), (11, .list g.ws), (10, .lend), (9, .list g.cs), (6, .list g.ss), (4, .list g.ns), (3, .ns [("script", .ref 0), ("nums", .ref 4), ("ways", .ref 11), ("signs", .ref 6)]),
   (2, .tab 184 #[] none), (1, .tab 245 #[] (some [(156, 4), (131, 4), (120, 4)])), (0, .raw g.xs)]⟩
noncomputable def compElt : PySem.Expr → PySem.Expr
  | .ListComp e _ _ _ => e
  | e => e
noncomputable def compTgt : PySem.Expr → PySem.Expr
  | .ListComp _ (⟨t, _, _, _⟩ :: _) _ _ => t
  | e => e
noncomputable def compIter : PySem.Expr → PySem.Expr
  | .ListComp _ (⟨_, i, _, _⟩ :: _) _ _ => i
  | e => e
noncomputable def compSc : PySem.Expr → Scope
  | .ListComp _ _ s _ => s
  | _ => default
noncomputable def chE (p : Params) : PySem.Expr := asgVal (nthS (runB p) 5)
noncomputable def chAe (p : Params) : AEnv := ⟨compSc (chE p), 33, [], .none, 13⟩
noncomputable def runE (p : Params) (g : G3) (seen : List AV) : St := ⟨36, [(30, .list seen), (11, .list g.ws), (10, .lend), (9, .list g.cs), (6, .list g.ss), (4, .list g.ns), (3, .ns [("script", .ref 0), ("nums", .ref 4), ("ways", .ref 11), ("signs", .ref 6)]),
   (2, .tab 184 #[] none), (1, .tab 245 #[] (some [(156, 4), (131, 4), (120, 4)])), (0, .raw g.xs)]⟩
theorem SOk.way {g : G3} {rm gm : List (Str × AV)} (h : SOk g rm gm []) (w : Int) : SOk g rm gm [("way", .int w)] := ⟨h.gok, h.rm, h.gm, .cons (.int _) .nil, h.nws⟩
theorem de {P : Prop} [Decidable P] (h : decide P = true := by rfl) : P := of_decide_eq_true h
noncomputable abbrev M6 : Nat := 1000000
noncomputable abbrev M62 : Nat := 4611686018427387904
noncomputable abbrev Ff : Prop := false = false
noncomputable abbrev Tt : Prop := true = true
noncomputable abbrev wt : Wd := .b true
noncomputable abbrev wf : Wd := .b false
noncomputable abbrev Wk (w : Int) (k : Nat) (b : Bool) : Prop := (w == Int.ofNat k) = b
noncomputable abbrev W45 (w : Int) (b : Bool) : Prop := (Int.ofNat 4 == w || (Int.ofNat 5 == w || false)) = b
noncomputable abbrev I0 (x : AV) : Prop := Int.ofNat 0 ≤ Int.ofNat 0 ∧ Int.ofNat 0 < Int.ofNat 1000000 ∧ some x = some x
theorem i0 {x : AV} : I0 x := ⟨by decide, by decide, rfl⟩
noncomputable abbrev modC (a : Int) : Prop := Int.ofNat 0 ≤ a.fmod (Int.ofNat 3) ∧ a.fmod (Int.ofNat 3) < Int.ofNat 9223372036854775808
noncomputable abbrev cutS (a : Int) : Str := "cut" ++ Str.ofString (toString (a.fmod (Int.ofNat 3)))
noncomputable abbrev cutL (a : Int) : Prop := (Str.ofString "cut").length + (Str.ofString (toString (a.fmod (Int.ofNat 3)))).length ≤ 1000000
noncomputable abbrev jnA (p : Params) (xs : List AV) : Str := Txt.join "" (attrStrs (KK p) "char" xs)
noncomputable abbrev lcA (f : Str) (r k l : Int) : AV := .slo 79 [.int k, .str f, .int l, .int r, .val .none]
noncomputable abbrev wy (w : Int) : List (Str × AV) := [("way", .int w)]
noncomputable abbrev UC (N : Nat) (l : List (Nat × Cell)) : Prop := ∀ q ∈ l, UndC N q.2
noncomputable abbrev UV (N : Nat) (v : AV) (l : List (Nat × Cell)) : Prop := Und N v ∧ UC N l
noncomputable abbrev odC (b : Bool) : Nat × Cell := (37, .ns [("on_demand", .bool b), ("c", .val .none)])
noncomputable abbrev erC (b : Bool) (l : List (Nat × Cell)) : List (Nat × Cell) := (39, .ns [("message", .str "Expected a character, but at end of file"), ("self", .ref 23)]) :: (38, .ns [("eof", .bool false), ("self", .ref 23), ("char", .val .none)]) :: odC b :: l
noncomputable abbrev tkS (a b f : Str) (r k l : Int) : Nat × Cell := (37, .ns [("typ", .str a), ("self", .ref 23), ("val", .str b), ("loc", lcA f r k l)])
noncomputable abbrev exA (p : Params) (m : Nat) := (RN p (m + 40)).exs (sAe p) ((whBody (nthS (stepB p) 0)).take 2)
noncomputable abbrev exB (p : Params) (m : Nat) := (RN p (m + 40)).exs (sAe p) ((whBody (nthS (stepB p) 0)).drop 2)
section
variable {xs : List AV} {x : AV} {a b f c : Str} {r k l : Int} {N : Nat} {t : Bool} {L : List (Nat × Cell)}
theorem la0 (h : xs.length ≤ 900) : xs.length ≤ M6 := Nat.le_trans h (by decide)
theorem la1 (h : xs.length ≤ 900) : (x :: xs).length ≤ M6 := Nat.le_trans (Nat.succ_le_succ h) (by decide)
theorem la2 (h : xs.length ≤ 900) : (xs ++ [x]).length ≤ M6 := by rw [List.length_append]; exact la1 (x := x) h
theorem lb1 (h : xs.length ≤ 900) : (x :: xs).length < M62 := Nat.lt_of_le_of_lt (Nat.succ_le_succ h) (by decide)
theorem lb2 (h : xs.length ≤ 900) : (xs ++ [x]).length < M62 := by rw [List.length_append]; exact lb1 (x := x) h
theorem lw0 (h : xs.length ≤ 1000) : xs.length ≤ M6 := Nat.le_trans h (by decide)
theorem l32 : UndC 36 (.liter 32 N) := show 32 < 36 by decide
theorem clN : CL [noneV] := .cons (fun _ => .val _) .nil
theorem clS : CL [sgn c f r k l] := CL.cons (CL.tup (.cons (fun _ => .str _) (.cons (fun _ => .str _) (.cons (fun _ => .int _) (.cons (fun _ => .int _) (.cons (fun _ => .int _) .nil)))))) .nil
theorem clR : CL [refV] := CL.cons (CL.tup (.cons (fun _ => .str _) clN)) .nil
theorem clC : CL [chr c f r k l] := .cons (clo_chr _ _ _ _ _) .nil
theorem clD (h : CL xs) : CL (chr c f r k l :: xs) := .cons (clo_chr _ _ _ _ _) h
theorem clL : ∀ N, Und N (lcA f r k l) := CL.slo (.cons (fun _ => .int _) (.cons (fun _ => .str _) (.cons (fun _ => .int _) (.cons (fun _ => .int _) (.cons (fun _ => .val _) .nil)))))
theorem clU : CL [lcA f r k l, .str a, .str b] := .cons clL (.cons (fun _ => .str _) (.cons (fun _ => .str _) .nil))
theorem clT : ∀ N, Und N (.slo 47 [lcA f r k l, .str a, .str b]) := CL.slo clU
theorem unO : UndC N (odC t).2 := und_ns (.cons (.bool _) (.cons (.val _) .nil))
theorem unE (h : UC 40 L) : UC 40 (erC t L) := und_cons (und_ns (.cons (.str _) (.cons (.ref (by decide)) .nil))) (und_cons (und_ns (.cons (.bool _) (.cons (.ref (by decide)) (.cons (.val _) .nil)))) (und_cons unO h))
theorem unT (h : 23 < N := by decide) : UndC N (tkS a b f r k l).2 := und_ns (.cons (.str _) (.cons (.ref h) (.cons (.str _) (.cons (clL _) .nil))))
end
section
variable (p : Params) (g : G3) (rm gm : List (Str × AV)) (it : Cell) (seen held ct pb tb : List AV) (at_ : Int) (m : Nat) (w : Int) (h0 : AV) (hs : SOk g rm gm []) (k1 : CL seen) (k2 : CL held) (k3 : CL ct) (k4 : CL pb) (k5 : CL tb) (ki : UndC 36 it) (n1 : seen.length ≤ 900) (n2 : held.length ≤ 900) (n3 : ct.length ≤ 900) (n4 : pb.length ≤ 900) (n5 : tb.length ≤ 900)
include p g rm gm it seen held ct pb tb at_ m w h0 hs k1 k2 k3 k4 k5 ki n1 n2 n3 n4 n5
theorem g_w8 (h8 : Wk w 8 true) : Go (exB p m) (stepS p g rm gm (wy w) ⟨it, seen, held, at_, ct, pb, tb⟩) (AFlow.next) (stepS p g rm gm (wy w) ⟨it, seen, [], at_, [], pb, tb⟩) :=
  Go.of [wt, .norm] (cs := [Wk w 8 true, ct.length ≤ M6, UV 37 noneV (stepC p g rm gm (wy w) ⟨it, seen, held, at_, [], pb, tb⟩), held.length ≤ M6]) (fun _ => by kernel_rfl)
  ⟨h8, la0 n3, ⟨.val _, SOk.und (hs.way _) de ki k1 k2 CL.nil k4 k5⟩, la0 n2, trivial⟩
theorem g_w6 (h8 : Wk w 8 false) (h7 : Wk w 7 false) (h6 : Wk w 6 true) : Go (exB p m) (stepS p g rm gm (wy w) ⟨it, seen, held, at_, ct, pb, tb⟩) (AFlow.next) (stepS p g rm gm (wy w) ⟨it, seen, held, at_, ct, pb, tb⟩) :=
  Go.of [wf, wf, wf, wt, wf, .norm] (cs := [Wk w 8 false, Wk w 7 false, Ff, Wk w 6 true, Ff, UV 37 noneV (stepC p g rm gm (wy w) ⟨it, seen, held, at_, ct, pb, tb⟩)]) (fun _ => by kernel_rfl)
  ⟨h8, h7, rfl, h6, rfl, ⟨.val _, SOk.und (hs.way _) de ki k1 k2 k3 k4 k5⟩, trivial⟩
theorem g_tp14 (h8 : Wk w 8 false) (h7 : Wk w 7 false) (h6 : Wk w 6 false) (h4 : W45 w false) (h3 : Wk w 3 false) : Go (exB p m) (stepS p g rm gm (wy w) ⟨.lend, seen, held, at_, ct, [], tb⟩) (AFlow.next) (stepS p g rm gm (wy w) ⟨.lend, seen ++ [noneV], held, at_, ct, [], tb⟩) :=
  Go.of [wf, wf, wf, wf, wf, wf, wf, wf, wf, wf, wf, wf, .norm, wt, wf, .norm] (cs := [Wk w 8 false, Wk w 7 false, Ff, Wk w 6 false, 2 ≤ M6, W45 w false, Ff, Wk w 3 false, 0 < M62, Ff, Ff, Ff, Ff, UV 38 noneV (odC (w == Int.ofNat 3) :: stepC p g rm gm (wy w) ⟨.lend, seen, held, at_, ct, [], tb⟩), Tt, seen.length ≤ M6, Ff, UV 37 (.bool false) (stepC p g rm gm (wy w) ⟨.lend, seen ++ [noneV], held, at_, ct, [], tb⟩)]) (fun _ => by kernel_rfl)
  ⟨h8, h7, rfl, h6, de, h4, rfl, h3, de, rfl, rfl, rfl, rfl, ⟨.val _, und_cons unO (SOk.und (hs.way _) de trivial k1 k2 k3 CL.nil k5)⟩, rfl, la0 n1, rfl, ⟨.bool _, SOk.und (hs.way _) de trivial (CL.app k1 clN) k2 k3 CL.nil k5⟩, trivial⟩
theorem g_tp24 (h8 : Wk w 8 false) (h7 : Wk w 7 true) (h6 : Wk w 6 false) (h4 : W45 w false) (h3 : Wk w 3 false) : Go (exB p m) (stepS p g rm gm (wy w) ⟨.lend, seen, [], at_, ct, [], tb⟩) (AFlow.next) (stepS p g rm gm (wy w) ⟨.lend, seen ++ [noneV], [], at_, ct, [], tb⟩) :=
  Go.of [wf, wt, wf, wf, wf, wf, wf, wf, wf, wf, wf, wf, wf, .norm, wt, wf, .norm] (cs := [Wk w 8 false, Wk w 7 true, 0 < M62, Ff, Ff, Wk w 6 false, 2 ≤ M6, W45 w false, Ff, Wk w 3 false, 0 < M62, Ff, Ff, Ff, Ff, UV 38 noneV (odC (w == Int.ofNat 3) :: stepC p g rm gm (wy w) ⟨.lend, seen, [], at_, ct, [], tb⟩), Tt, seen.length ≤ M6, Ff, UV 37 (.bool false) (stepC p g rm gm (wy w) ⟨.lend, seen ++ [noneV], [], at_, ct, [], tb⟩)]) (fun _ => by kernel_rfl)
  ⟨h8, h7, de, rfl, rfl, h6, de, h4, rfl, h3, de, rfl, rfl, rfl, rfl, ⟨.val _, und_cons unO (SOk.und (hs.way _) de trivial k1 CL.nil k3 CL.nil k5)⟩, rfl, la0 n1, rfl, ⟨.bool _, SOk.und (hs.way _) de trivial (CL.app k1 clN) CL.nil k3 CL.nil k5⟩, trivial⟩
theorem g_tp34 (h8 : Wk w 8 false) (h7 : Wk w 7 false) (h6 : Wk w 6 false) (h4 : W45 w true) (h3 : Wk w 3 false) : Go (exB p m) (stepS p g rm gm (wy w) ⟨.lend, seen, [], at_, ct, [], tb⟩) (AFlow.next) (stepS p g rm gm (wy w) ⟨.lend, seen ++ [noneV], [], at_, ct, [], tb⟩) :=
  Go.of [wf, wf, wf, wf, wt, wf, wf, wf, wf, wf, wf, wf, wf, .norm, wt, wf, .norm] (cs := [Wk w 8 false, Wk w 7 false, Ff, Wk w 6 false, 2 ≤ M6, W45 w true, 0 < M62, Ff, Ff, Wk w 3 false, 0 < M62, Ff, Ff, Ff, Ff, UV 38 noneV (odC (w == Int.ofNat 3) :: stepC p g rm gm (wy w) ⟨.lend, seen, [], at_, ct, [], tb⟩), Tt, seen.length ≤ M6, Ff, UV 37 (.bool false) (stepC p g rm gm (wy w) ⟨.lend, seen ++ [noneV], [], at_, ct, [], tb⟩)]) (fun _ => by kernel_rfl)
  ⟨h8, h7, rfl, h6, de, h4, de, rfl, rfl, h3, de, rfl, rfl, rfl, rfl, ⟨.val _, und_cons unO (SOk.und (hs.way _) de trivial k1 CL.nil k3 CL.nil k5)⟩, rfl, la0 n1, rfl, ⟨.bool _, SOk.und (hs.way _) de trivial (CL.app k1 clN) CL.nil k3 CL.nil k5⟩, trivial⟩
theorem g_d4 (h8 : Wk w 8 false) (h7 : Wk w 7 false) (h6 : Wk w 6 false) (h4 : W45 w false) (h3 : Wk w 3 true) : Go (exB p m) (stepS p g rm gm (wy w) ⟨.lend, seen, held, at_, ct, [], tb⟩) (AFlow.next) (stepS p g rm gm (wy w) ⟨.lend, seen ++ [refV], held, at_, ct, [], tb⟩) :=
  Go.of [wf, wf, wf, wf, wf, wf, wt, wt, wt, wf, wf, wf, wf, wt, wt, wt, wt, wt, wf, wf, wf, wf, wf, .norm, wf, wt, wt, wf, wt, .keep, wf, .norm] (cs := [Wk w 8 false, Wk w 7 false, Ff, Wk w 6 false, 2 ≤ M6, W45 w false, Ff, Wk w 3 true, 0 < M62, Ff, Ff, Tt, Tt, Tt, 0 < M62, Ff, Ff, Ff, Ff, UV 40 noneV (erC (w == Int.ofNat 3) (stepC p g rm gm (wy w) ⟨.lend, seen, held, at_, ct, [], tb⟩)), Tt, 40 < 42, 1 ≤ 100, Ff, Tt, 0 ≤ M6, 2 ≤ 100, 40 < 44 ∧ 2 ≤ 1000, 2 ≤ M6, seen.length ≤ M6, Ff, UV 37 (.bool false) (stepC p g rm gm (wy w) ⟨.lend, seen ++ [refV], held, at_, ct, [], tb⟩)]) (fun _ => by kernel_rfl)
  ⟨h8, h7, rfl, h6, de, h4, rfl, h3, de, rfl, rfl, rfl, rfl, rfl, de, rfl, rfl, rfl, rfl, ⟨.val _, unE (SOk.und (hs.way _) de trivial k1 k2 k3 CL.nil k5)⟩, rfl, de, de, rfl, rfl, de, de, ⟨de, de⟩, de, la0 n1, rfl, ⟨.bool _, SOk.und (hs.way _) de trivial (CL.app k1 clR) k2 k3 CL.nil k5⟩, trivial⟩
end
section
variable (p : Params) (g : G3) (rm gm : List (Str × AV)) (it : Cell) (seen held ct pb tb : List AV) (at_ : Int) (c f : Str) (r k l : Int) (m : Nat) (w : Int) (h0 : AV) (hs : SOk g rm gm []) (k1 : CL seen) (k2 : CL held) (k3 : CL ct) (k4 : CL pb) (k5 : CL tb) (ki : UndC 36 it) (n1 : seen.length ≤ 900) (n2 : held.length ≤ 900) (n3 : ct.length ≤ 900) (n4 : pb.length ≤ 900) (n5 : tb.length ≤ 900)
include p g rm gm it seen held ct pb tb at_ c f r k l m w h0 hs k1 k2 k3 k4 k5 ki n1 n2 n3 n4 n5
theorem g_tp11 (h8 : Wk w 8 false) (h7 : Wk w 7 false) (h6 : Wk w 6 false) (h4 : W45 w false) (h3 : Wk w 3 false) : Go (exB p m) (stepS p g rm gm (wy w) ⟨it, seen, held, at_, ct, chr c f r k l :: pb, tb⟩) (AFlow.next) (stepS p g rm gm (wy w) ⟨it, seen ++ [sgn c f r k l], held ++ [chr c f r k l], at_, ct ++ [chr c f r k l], pb, tb⟩) :=
  Go.of [wf, wf, wf, wf, wf, wf, wf, wf, wt, .cut pb (chr c f r k l), wt, wf, wf, .norm, wf, wt, .norm] (cs := [Wk w 8 false, Wk w 7 false, Ff, Wk w 6 false, 2 ≤ M6, W45 w false, Ff, Wk w 3 false, (chr c f r k l :: pb).length < M62, Tt, (chr c f r k l :: pb).length ≤ M6, chr c f r k l :: pb = chr c f r k l :: pb, Tt, ct.length ≤ M6, Ff, Ff, UV 38 (chr c f r k l) (odC (w == Int.ofNat 3) :: stepC p g rm gm (wy w) ⟨it, seen, held, at_, ct ++ [chr c f r k l], pb, tb⟩), Ff, 5 ≤ M6, seen.length ≤ M6, Tt, held.length ≤ M6, UV 37 (.bool true) (stepC p g rm gm (wy w) ⟨it, seen ++ [sgn c f r k l], held ++ [chr c f r k l], at_, ct ++ [chr c f r k l], pb, tb⟩)]) (fun _ => by kernel_rfl)
  ⟨h8, h7, rfl, h6, de, h4, rfl, h3, lb1 n4, rfl, la1 n4, rfl, rfl, la0 n3, rfl, rfl, ⟨((clo_chr _ _ _ _ _) _), (und_cons unO (SOk.und (hs.way _) de ki k1 k2 (CL.app k3 clC) k4 k5))⟩, rfl, de, la0 n1, rfl, la0 n2, ⟨.bool _, SOk.und (hs.way _) de ki (CL.app k1 clS) (CL.app k2 clC) (CL.app k3 clC) k4 k5⟩, trivial⟩
theorem g_tp21 (h8 : Wk w 8 false) (h7 : Wk w 7 true) (h6 : Wk w 6 false) (h4 : W45 w false) (h3 : Wk w 3 false) : Go (exB p m) (stepS p g rm gm (wy w) ⟨it, seen, [], at_, ct, chr c f r k l :: pb, tb⟩) (AFlow.next) (stepS p g rm gm (wy w) ⟨it, seen ++ [sgn c f r k l], [chr c f r k l], at_, ct ++ [chr c f r k l], pb, tb⟩) :=
  Go.of [wf, wt, wf, wf, wf, wf, wf, wf, wf, wt, .cut pb (chr c f r k l), wt, wf, wf, .norm, wf, wt, .norm] (cs := [Wk w 8 false, Wk w 7 true, 0 < M62, Ff, Ff, Wk w 6 false, 2 ≤ M6, W45 w false, Ff, Wk w 3 false, (chr c f r k l :: pb).length < M62, Tt, (chr c f r k l :: pb).length ≤ M6, chr c f r k l :: pb = chr c f r k l :: pb, Tt, ct.length ≤ M6, Ff, Ff, UV 38 (chr c f r k l) (odC (w == Int.ofNat 3) :: stepC p g rm gm (wy w) ⟨it, seen, [], at_, ct ++ [chr c f r k l], pb, tb⟩), Ff, 5 ≤ M6, seen.length ≤ M6, Tt, 0 ≤ M6, UV 37 (.bool true) (stepC p g rm gm (wy w) ⟨it, seen ++ [sgn c f r k l], [chr c f r k l], at_, ct ++ [chr c f r k l], pb, tb⟩)]) (fun _ => by kernel_rfl)
  ⟨h8, h7, de, rfl, rfl, h6, de, h4, rfl, h3, lb1 n4, rfl, la1 n4, rfl, rfl, la0 n3, rfl, rfl, ⟨((clo_chr _ _ _ _ _) _), (und_cons unO (SOk.und (hs.way _) de ki k1 CL.nil (CL.app k3 clC) k4 k5))⟩, rfl, de, la0 n1, rfl, de, ⟨.bool _, SOk.und (hs.way _) de ki (CL.app k1 clS) clC (CL.app k3 clC) k4 k5⟩, trivial⟩
theorem g_tp31 (h8 : Wk w 8 false) (h7 : Wk w 7 false) (h6 : Wk w 6 false) (h4 : W45 w true) (h3 : Wk w 3 false) : Go (exB p m) (stepS p g rm gm (wy w) ⟨it, seen, [], at_, ct, chr c f r k l :: pb, tb⟩) (AFlow.next) (stepS p g rm gm (wy w) ⟨it, seen ++ [sgn c f r k l], [chr c f r k l], at_, ct ++ [chr c f r k l], pb, tb⟩) :=
  Go.of [wf, wf, wf, wf, wt, wf, wf, wf, wf, wt, .cut pb (chr c f r k l), wt, wf, wf, .norm, wf, wt, .norm] (cs := [Wk w 8 false, Wk w 7 false, Ff, Wk w 6 false, 2 ≤ M6, W45 w true, 0 < M62, Ff, Ff, Wk w 3 false, (chr c f r k l :: pb).length < M62, Tt, (chr c f r k l :: pb).length ≤ M6, chr c f r k l :: pb = chr c f r k l :: pb, Tt, ct.length ≤ M6, Ff, Ff, UV 38 (chr c f r k l) (odC (w == Int.ofNat 3) :: stepC p g rm gm (wy w) ⟨it, seen, [], at_, ct ++ [chr c f r k l], pb, tb⟩), Ff, 5 ≤ M6, seen.length ≤ M6, Tt, 0 ≤ M6, UV 37 (.bool true) (stepC p g rm gm (wy w) ⟨it, seen ++ [sgn c f r k l], [chr c f r k l], at_, ct ++ [chr c f r k l], pb, tb⟩)]) (fun _ => by kernel_rfl)
  ⟨h8, h7, rfl, h6, de, h4, de, rfl, rfl, h3, lb1 n4, rfl, la1 n4, rfl, rfl, la0 n3, rfl, rfl, ⟨((clo_chr _ _ _ _ _) _), (und_cons unO (SOk.und (hs.way _) de ki k1 CL.nil (CL.app k3 clC) k4 k5))⟩, rfl, de, la0 n1, rfl, de, ⟨.bool _, SOk.und (hs.way _) de ki (CL.app k1 clS) clC (CL.app k3 clC) k4 k5⟩, trivial⟩
theorem g_d1 (h8 : Wk w 8 false) (h7 : Wk w 7 false) (h6 : Wk w 6 false) (h4 : W45 w false) (h3 : Wk w 3 true) : Go (exB p m) (stepS p g rm gm (wy w) ⟨it, seen, held, at_, ct, chr c f r k l :: pb, tb⟩) (AFlow.next) (stepS p g rm gm (wy w) ⟨it, seen ++ [sgn c f r k l], held ++ [chr c f r k l], at_, ct ++ [chr c f r k l], pb, tb⟩) :=
  Go.of [wf, wf, wf, wf, wf, wf, wf, wt, wt, .cut pb (chr c f r k l), wt, wt, wf, wf, .norm, wf, wt, .norm] (cs := [Wk w 8 false, Wk w 7 false, Ff, Wk w 6 false, 2 ≤ M6, W45 w false, Ff, Wk w 3 true, (chr c f r k l :: pb).length < M62, Tt, (chr c f r k l :: pb).length ≤ M6, chr c f r k l :: pb = chr c f r k l :: pb, Tt, ct.length ≤ M6, Tt, Ff, Ff, UV 38 (chr c f r k l) (odC (w == Int.ofNat 3) :: stepC p g rm gm (wy w) ⟨it, seen, held, at_, ct ++ [chr c f r k l], pb, tb⟩), Ff, 5 ≤ M6, seen.length ≤ M6, Tt, held.length ≤ M6, UV 37 (.bool true) (stepC p g rm gm (wy w) ⟨it, seen ++ [sgn c f r k l], held ++ [chr c f r k l], at_, ct ++ [chr c f r k l], pb, tb⟩)]) (fun _ => by kernel_rfl)
  ⟨h8, h7, rfl, h6, de, h4, rfl, h3, lb1 n4, rfl, la1 n4, rfl, rfl, la0 n3, rfl, rfl, rfl, ⟨((clo_chr _ _ _ _ _) _), (und_cons unO (SOk.und (hs.way _) de ki k1 k2 (CL.app k3 clC) k4 k5))⟩, rfl, de, la0 n1, rfl, la0 n2, ⟨.bool _, SOk.und (hs.way _) de ki (CL.app k1 clS) (CL.app k2 clC) (CL.app k3 clC) k4 k5⟩, trivial⟩
theorem g_bk (h8 : Wk w 8 false) (h7 : Wk w 7 false) (h6 : Wk w 6 false) (h4 : W45 w true) : Go (exB p m) (stepS p g rm gm (wy w) ⟨it, seen, (held ++ [chr c f r k l]), at_, (ct ++ [chr c f r k l]), pb, tb⟩) (AFlow.next) (stepS p g rm gm (wy w) ⟨it, seen, held, at_, ct, chr c f r k l :: pb, tb⟩) :=
  Go.of [wf, wf, wf, wf, wt, wt, wt, .cut held (chr c f r k l), wt, .cut ct (chr c f r k l), .norm] (cs := [Wk w 8 false, Wk w 7 false, Ff, Wk w 6 false, 2 ≤ M6, W45 w true, (held ++ [chr c f r k l]).length < M62, (!(held ++ [chr c f r k l]).isEmpty) = true, Tt, (held ++ [chr c f r k l]).length ≤ M6, held ++ [chr c f r k l] = held ++ [chr c f r k l], Tt, (ct ++ [chr c f r k l]).length ≤ M6, ct ++ [chr c f r k l] = ct ++ [chr c f r k l], pb.length ≤ M6, UV 37 noneV (stepC p g rm gm (wy w) ⟨it, seen, held, at_, ct, chr c f r k l :: pb, tb⟩)]) (fun _ => by kernel_rfl)
  ⟨h8, h7, rfl, h6, de, h4, lb2 n2, by simp, rfl, la2 n2, rfl, rfl, la2 n3, rfl, la0 n4, ⟨.val _, SOk.und (hs.way _) de ki k1 k2 k3 (CL.cons (clo_chr _ _ _ _ _) k4) k5⟩, trivial⟩
end
section
variable (p : Params) (g : G3) (rm gm : List (Str × AV)) (it : Cell) (seen held ct pb tb : List AV) (at_ : Int) (c f : Str) (r k l : Int) (j : Nat) (m : Nat) (w : Int) (h0 : AV) (hs : SOk g rm gm []) (k1 : CL seen) (k2 : CL held) (k3 : CL ct) (k4 : CL pb) (k5 : CL tb) (ki : UndC 36 it) (n1 : seen.length ≤ 900) (n2 : held.length ≤ 900) (n3 : ct.length ≤ 900) (n4 : pb.length ≤ 900) (n5 : tb.length ≤ 900)
include p g rm gm it seen held ct pb tb at_ c f r k l j m w h0 hs k1 k2 k3 k4 k5 ki n1 n2 n3 n4 n5
theorem g_tp12 (h8 : Wk w 8 false) (h7 : Wk w 7 false) (h6 : Wk w 6 false) (h4 : W45 w false) (h3 : Wk w 3 false) (hj : g.ch[j]? = some (chr c f r k l)) : Go (exB p m) (stepS p g rm gm (wy w) ⟨.liter 32 j, seen, held, at_, ct, [], tb⟩) (AFlow.next) (stepS p g rm gm (wy w) ⟨.liter 32 (j + 1), seen ++ [sgn c f r k l], held ++ [chr c f r k l], at_, ct ++ [chr c f r k l], [], tb⟩) :=
  Go.of [wf, wf, wf, wf, wf, wf, wf, wf, wf, .cut [] (chr c f r k l), wt, wf, wf, .norm, wf, wt, .norm] (cs := [Wk w 8 false, Wk w 7 false, Ff, Wk w 6 false, 2 ≤ M6, W45 w false, Ff, Wk w 3 false, 0 < M62, Ff, g.ch[j]? = some (chr c f r k l), Tt, ct.length ≤ M6, Ff, Ff, UV 38 (chr c f r k l) (odC (w == Int.ofNat 3) :: stepC p g rm gm (wy w) ⟨.liter 32 (j + 1), seen, held, at_, ct ++ [chr c f r k l], [], tb⟩), Ff, 5 ≤ M6, seen.length ≤ M6, Tt, held.length ≤ M6, UV 37 (.bool true) (stepC p g rm gm (wy w) ⟨.liter 32 (j + 1), seen ++ [sgn c f r k l], held ++ [chr c f r k l], at_, ct ++ [chr c f r k l], [], tb⟩)]) (fun _ => by kernel_rfl)
  ⟨h8, h7, rfl, h6, de, h4, rfl, h3, de, rfl, hj, rfl, la0 n3, rfl, rfl, ⟨((clo_chr _ _ _ _ _) _), (und_cons unO (SOk.und (hs.way _) de l32 k1 k2 (CL.app k3 clC) CL.nil k5))⟩, rfl, de, la0 n1, rfl, la0 n2, ⟨.bool _, SOk.und (hs.way _) de l32 (CL.app k1 clS) (CL.app k2 clC) (CL.app k3 clC) CL.nil k5⟩, trivial⟩
theorem g_tp22 (h8 : Wk w 8 false) (h7 : Wk w 7 true) (h6 : Wk w 6 false) (h4 : W45 w false) (h3 : Wk w 3 false) (hj : g.ch[j]? = some (chr c f r k l)) : Go (exB p m) (stepS p g rm gm (wy w) ⟨.liter 32 j, seen, [], at_, ct, [], tb⟩) (AFlow.next) (stepS p g rm gm (wy w) ⟨.liter 32 (j + 1), seen ++ [sgn c f r k l], [chr c f r k l], at_, ct ++ [chr c f r k l], [], tb⟩) :=
  Go.of [wf, wt, wf, wf, wf, wf, wf, wf, wf, wf, .cut [] (chr c f r k l), wt, wf, wf, .norm, wf, wt, .norm] (cs := [Wk w 8 false, Wk w 7 true, 0 < M62, Ff, Ff, Wk w 6 false, 2 ≤ M6, W45 w false, Ff, Wk w 3 false, 0 < M62, Ff, g.ch[j]? = some (chr c f r k l), Tt, ct.length ≤ M6, Ff, Ff, UV 38 (chr c f r k l) (odC (w == Int.ofNat 3) :: stepC p g rm gm (wy w) ⟨.liter 32 (j + 1), seen, [], at_, ct ++ [chr c f r k l], [], tb⟩), Ff, 5 ≤ M6, seen.length ≤ M6, Tt, 0 ≤ M6, UV 37 (.bool true) (stepC p g rm gm (wy w) ⟨.liter 32 (j + 1), seen ++ [sgn c f r k l], [chr c f r k l], at_, ct ++ [chr c f r k l], [], tb⟩)]) (fun _ => by kernel_rfl)
  ⟨h8, h7, de, rfl, rfl, h6, de, h4, rfl, h3, de, rfl, hj, rfl, la0 n3, rfl, rfl, ⟨((clo_chr _ _ _ _ _) _), (und_cons unO (SOk.und (hs.way _) de l32 k1 CL.nil (CL.app k3 clC) CL.nil k5))⟩, rfl, de, la0 n1, rfl, de, ⟨.bool _, SOk.und (hs.way _) de l32 (CL.app k1 clS) clC (CL.app k3 clC) CL.nil k5⟩, trivial⟩
theorem g_tp32 (h8 : Wk w 8 false) (h7 : Wk w 7 false) (h6 : Wk w 6 false) (h4 : W45 w true) (h3 : Wk w 3 false) (hj : g.ch[j]? = some (chr c f r k l)) : Go (exB p m) (stepS p g rm gm (wy w) ⟨.liter 32 j, seen, [], at_, ct, [], tb⟩) (AFlow.next) (stepS p g rm gm (wy w) ⟨.liter 32 (j + 1), seen ++ [sgn c f r k l], [chr c f r k l], at_, ct ++ [chr c f r k l], [], tb⟩) :=
  Go.of [wf, wf, wf, wf, wt, wf, wf, wf, wf, wf, .cut [] (chr c f r k l), wt, wf, wf, .norm, wf, wt, .norm] (cs := [Wk w 8 false, Wk w 7 false, Ff, Wk w 6 false, 2 ≤ M6, W45 w true, 0 < M62, Ff, Ff, Wk w 3 false, 0 < M62, Ff, g.ch[j]? = some (chr c f r k l), Tt, ct.length ≤ M6, Ff, Ff, UV 38 (chr c f r k l) (odC (w == Int.ofNat 3) :: stepC p g rm gm (wy w) ⟨.liter 32 (j + 1), seen, [], at_, ct ++ [chr c f r k l], [], tb⟩), Ff, 5 ≤ M6, seen.length ≤ M6, Tt, 0 ≤ M6, UV 37 (.bool true) (stepC p g rm gm (wy w) ⟨.liter 32 (j + 1), seen ++ [sgn c f r k l], [chr c f r k l], at_, ct ++ [chr c f r k l], [], tb⟩)]) (fun _ => by kernel_rfl)
  ⟨h8, h7, rfl, h6, de, h4, de, rfl, rfl, h3, de, rfl, hj, rfl, la0 n3, rfl, rfl, ⟨((clo_chr _ _ _ _ _) _), (und_cons unO (SOk.und (hs.way _) de l32 k1 CL.nil (CL.app k3 clC) CL.nil k5))⟩, rfl, de, la0 n1, rfl, de, ⟨.bool _, SOk.und (hs.way _) de l32 (CL.app k1 clS) clC (CL.app k3 clC) CL.nil k5⟩, trivial⟩
theorem g_d2 (h8 : Wk w 8 false) (h7 : Wk w 7 false) (h6 : Wk w 6 false) (h4 : W45 w false) (h3 : Wk w 3 true) (hj : g.ch[j]? = some (chr c f r k l)) : Go (exB p m) (stepS p g rm gm (wy w) ⟨.liter 32 j, seen, held, at_, ct, [], tb⟩) (AFlow.next) (stepS p g rm gm (wy w) ⟨.liter 32 (j + 1), seen ++ [sgn c f r k l], held ++ [chr c f r k l], at_, ct ++ [chr c f r k l], [], tb⟩) :=
  Go.of [wf, wf, wf, wf, wf, wf, wf, wt, wf, .cut [] (chr c f r k l), wt, wt, wf, wf, .norm, wf, wt, .norm] (cs := [Wk w 8 false, Wk w 7 false, Ff, Wk w 6 false, 2 ≤ M6, W45 w false, Ff, Wk w 3 true, 0 < M62, Ff, g.ch[j]? = some (chr c f r k l), Tt, ct.length ≤ M6, Tt, Ff, Ff, UV 38 (chr c f r k l) (odC (w == Int.ofNat 3) :: stepC p g rm gm (wy w) ⟨.liter 32 (j + 1), seen, held, at_, ct ++ [chr c f r k l], [], tb⟩), Ff, 5 ≤ M6, seen.length ≤ M6, Tt, held.length ≤ M6, UV 37 (.bool true) (stepC p g rm gm (wy w) ⟨.liter 32 (j + 1), seen ++ [sgn c f r k l], held ++ [chr c f r k l], at_, ct ++ [chr c f r k l], [], tb⟩)]) (fun _ => by kernel_rfl)
  ⟨h8, h7, rfl, h6, de, h4, rfl, h3, de, rfl, hj, rfl, la0 n3, rfl, rfl, rfl, ⟨((clo_chr _ _ _ _ _) _), (und_cons unO (SOk.und (hs.way _) de l32 k1 k2 (CL.app k3 clC) CL.nil k5))⟩, rfl, de, la0 n1, rfl, la0 n2, ⟨.bool _, SOk.und (hs.way _) de l32 (CL.app k1 clS) (CL.app k2 clC) (CL.app k3 clC) CL.nil k5⟩, trivial⟩
end
section
variable (p : Params) (g : G3) (rm gm : List (Str × AV)) (it : Cell) (seen held ct pb tb : List AV) (at_ : Int) (j : Nat) (m : Nat) (w : Int) (h0 : AV) (hs : SOk g rm gm []) (k1 : CL seen) (k2 : CL held) (k3 : CL ct) (k4 : CL pb) (k5 : CL tb) (ki : UndC 36 it) (n1 : seen.length ≤ 900) (n2 : held.length ≤ 900) (n3 : ct.length ≤ 900) (n4 : pb.length ≤ 900) (n5 : tb.length ≤ 900)
include p g rm gm it seen held ct pb tb at_ j m w h0 hs k1 k2 k3 k4 k5 ki n1 n2 n3 n4 n5
theorem g_tp13 (h8 : Wk w 8 false) (h7 : Wk w 7 false) (h6 : Wk w 6 false) (h4 : W45 w false) (h3 : Wk w 3 false) (hj : g.ch[j]? = none) : Go (exB p m) (stepS p g rm gm (wy w) ⟨.liter 32 j, seen, held, at_, ct, [], tb⟩) (AFlow.next) (stepS p g rm gm (wy w) ⟨.lend, seen ++ [noneV], held, at_, ct, [], tb⟩) :=
  Go.of [wf, wf, wf, wf, wf, wf, wf, wf, wf, wf, wf, wf, wf, .norm, wt, wf, .norm] (cs := [Wk w 8 false, Wk w 7 false, Ff, Wk w 6 false, 2 ≤ M6, W45 w false, Ff, Wk w 3 false, 0 < M62, Ff, g.ch[j]? = none, Ff, Ff, Ff, UV 38 noneV (odC (w == Int.ofNat 3) :: stepC p g rm gm (wy w) ⟨.lend, seen, held, at_, ct, [], tb⟩), Tt, seen.length ≤ M6, Ff, UV 37 (.bool false) (stepC p g rm gm (wy w) ⟨.lend, seen ++ [noneV], held, at_, ct, [], tb⟩)]) (fun _ => by kernel_rfl)
  ⟨h8, h7, rfl, h6, de, h4, rfl, h3, de, rfl, hj, rfl, rfl, rfl, ⟨.val _, und_cons unO (SOk.und (hs.way _) de trivial k1 k2 k3 CL.nil k5)⟩, rfl, la0 n1, rfl, ⟨.bool _, SOk.und (hs.way _) de trivial (CL.app k1 clN) k2 k3 CL.nil k5⟩, trivial⟩
theorem g_tp23 (h8 : Wk w 8 false) (h7 : Wk w 7 true) (h6 : Wk w 6 false) (h4 : W45 w false) (h3 : Wk w 3 false) (hj : g.ch[j]? = none) : Go (exB p m) (stepS p g rm gm (wy w) ⟨.liter 32 j, seen, [], at_, ct, [], tb⟩) (AFlow.next) (stepS p g rm gm (wy w) ⟨.lend, seen ++ [noneV], [], at_, ct, [], tb⟩) :=
  Go.of [wf, wt, wf, wf, wf, wf, wf, wf, wf, wf, wf, wf, wf, wf, .norm, wt, wf, .norm] (cs := [Wk w 8 false, Wk w 7 true, 0 < M62, Ff, Ff, Wk w 6 false, 2 ≤ M6, W45 w false, Ff, Wk w 3 false, 0 < M62, Ff, g.ch[j]? = none, Ff, Ff, Ff, UV 38 noneV (odC (w == Int.ofNat 3) :: stepC p g rm gm (wy w) ⟨.lend, seen, [], at_, ct, [], tb⟩), Tt, seen.length ≤ M6, Ff, UV 37 (.bool false) (stepC p g rm gm (wy w) ⟨.lend, seen ++ [noneV], [], at_, ct, [], tb⟩)]) (fun _ => by kernel_rfl)
  ⟨h8, h7, de, rfl, rfl, h6, de, h4, rfl, h3, de, rfl, hj, rfl, rfl, rfl, ⟨.val _, und_cons unO (SOk.und (hs.way _) de trivial k1 CL.nil k3 CL.nil k5)⟩, rfl, la0 n1, rfl, ⟨.bool _, SOk.und (hs.way _) de trivial (CL.app k1 clN) CL.nil k3 CL.nil k5⟩, trivial⟩
theorem g_tp33 (h8 : Wk w 8 false) (h7 : Wk w 7 false) (h6 : Wk w 6 false) (h4 : W45 w true) (h3 : Wk w 3 false) (hj : g.ch[j]? = none) : Go (exB p m) (stepS p g rm gm (wy w) ⟨.liter 32 j, seen, [], at_, ct, [], tb⟩) (AFlow.next) (stepS p g rm gm (wy w) ⟨.lend, seen ++ [noneV], [], at_, ct, [], tb⟩) :=
  Go.of [wf, wf, wf, wf, wt, wf, wf, wf, wf, wf, wf, wf, wf, wf, .norm, wt, wf, .norm] (cs := [Wk w 8 false, Wk w 7 false, Ff, Wk w 6 false, 2 ≤ M6, W45 w true, 0 < M62, Ff, Ff, Wk w 3 false, 0 < M62, Ff, g.ch[j]? = none, Ff, Ff, Ff, UV 38 noneV (odC (w == Int.ofNat 3) :: stepC p g rm gm (wy w) ⟨.lend, seen, [], at_, ct, [], tb⟩), Tt, seen.length ≤ M6, Ff, UV 37 (.bool false) (stepC p g rm gm (wy w) ⟨.lend, seen ++ [noneV], [], at_, ct, [], tb⟩)]) (fun _ => by kernel_rfl)
  ⟨h8, h7, rfl, h6, de, h4, de, rfl, rfl, h3, de, rfl, hj, rfl, rfl, rfl, ⟨.val _, und_cons unO (SOk.und (hs.way _) de trivial k1 CL.nil k3 CL.nil k5)⟩, rfl, la0 n1, rfl, ⟨.bool _, SOk.und (hs.way _) de trivial (CL.app k1 clN) CL.nil k3 CL.nil k5⟩, trivial⟩
theorem g_d3 (h8 : Wk w 8 false) (h7 : Wk w 7 false) (h6 : Wk w 6 false) (h4 : W45 w false) (h3 : Wk w 3 true) (hj : g.ch[j]? = none) : Go (exB p m) (stepS p g rm gm (wy w) ⟨.liter 32 j, seen, held, at_, ct, [], tb⟩) (AFlow.next) (stepS p g rm gm (wy w) ⟨.lend, seen ++ [refV], held, at_, ct, [], tb⟩) :=
  Go.of [wf, wf, wf, wf, wf, wf, wt, wt, wt, wf, wf, wf, wf, wf, wt, wt, wt, wt, wt, wf, wf, wf, wf, wf, .norm, wf, wt, wt, wf, wt, .keep, wf, .norm] (cs := [Wk w 8 false, Wk w 7 false, Ff, Wk w 6 false, 2 ≤ M6, W45 w false, Ff, Wk w 3 true, 0 < M62, Ff, g.ch[j]? = none, Ff, Tt, Tt, Tt, 0 < M62, Ff, Ff, Ff, Ff, UV 40 noneV (erC (w == Int.ofNat 3) (stepC p g rm gm (wy w) ⟨.lend, seen, held, at_, ct, [], tb⟩)), Tt, 40 < 42, 1 ≤ 100, Ff, Tt, 0 ≤ M6, 2 ≤ 100, 40 < 44 ∧ 2 ≤ 1000, 2 ≤ M6, seen.length ≤ M6, Ff, UV 37 (.bool false) (stepC p g rm gm (wy w) ⟨.lend, seen ++ [refV], held, at_, ct, [], tb⟩)]) (fun _ => by kernel_rfl)
  ⟨h8, h7, rfl, h6, de, h4, rfl, h3, de, rfl, hj, rfl, rfl, rfl, rfl, de, rfl, rfl, rfl, rfl, ⟨.val _, unE (SOk.und (hs.way _) de trivial k1 k2 k3 CL.nil k5)⟩, rfl, de, de, rfl, rfl, de, de, ⟨de, de⟩, de, la0 n1, rfl, ⟨.bool _, SOk.und (hs.way _) de trivial (CL.app k1 clR) k2 k3 CL.nil k5⟩, trivial⟩
end
section
variable (p : Params) (g : G3) (rm gm : List (Str × AV)) (it : Cell) (seen held ct pb tb : List AV) (at_ : Int) (c f : Str) (r k l : Int) (ct1 : List AV) (j : Nat) (m : Nat) (w : Int) (h0 : AV) (hs : SOk g rm gm []) (k1 : CL seen) (k2 : CL held) (k3 : CL ct) (k4 : CL pb) (k5 : CL tb) (ki : UndC 36 it) (n1 : seen.length ≤ 900) (n2 : held.length ≤ 900) (n3 : ct.length ≤ 900) (n4 : pb.length ≤ 900) (n5 : tb.length ≤ 900)
include p g rm gm it seen held ct pb tb at_ c f r k l ct1 j m w h0 hs k1 k2 k3 k4 k5 ki n1 n2 n3 n4 n5
theorem g_ctA (h8 : Wk w 8 false) (h7 : Wk w 7 true) (hm1 : Int.ofNat 0 ≤ at_.fmod (Int.ofNat 3)) (hm2 : at_.fmod (Int.ofNat 3) < Int.ofNat 9223372036854775808) (hm3 : cutL at_) (hq1 : ∀ y ∈ chr c f r k l :: ct1, (attrStr (KK p) "char" y).isSome = true) (hq2 : JoinOk "" (attrStrs (KK p) "char" (chr c f r k l :: ct1)) = true) (kc : CL ct1) (nc : ct1.length ≤ 900) (kh : ∀ N, Und N h0) : Go (exB p m) (stepS p g rm gm (wy w) ⟨.liter 32 j, seen, (h0 :: held), at_, (chr c f r k l :: ct1), pb, tb⟩) (AFlow.ret (stepV p)) (stepS p g rm gm (wy w) ⟨.liter 32 j, seen, [], at_, [], pb, tb ++ [.slo 47 [lcA f r k l, .str (cutS at_), .str (jnA p (chr c f r k l :: ct1))]]⟩) :=
  Go.of [wf, wt, wt, wt, .cut [] (.int at_), .cut [] (chr c f r k l), wt, .norm, .norm, .norm] (cs := [Wk w 8 false, Wk w 7 true, (h0 :: held).length < M62, Tt, Tt, 1 ≤ M6, I0 (.int at_), Int.ofNat 3 ≠ Int.ofNat 0, modC at_, cutL at_, (chr c f r k l :: ct1).length ≤ M6, (∀ y ∈ chr c f r k l :: ct1, (attrStr (KK p) "char" y).isSome = true) ∧ JoinOk "" (attrStrs (KK p) "char" (chr c f r k l :: ct1)) = true ∧ (chr c f r k l :: ct1).length ≤ M6, (chr c f r k l :: ct1).length ≤ M6, I0 (chr c f r k l), Tt, UV 40 noneV ((38 + 1, Cell.sinst 47 38 [some (lcA f r k l), some (.str (cutS at_)), some (.str (jnA p (chr c f r k l :: ct1)))]) :: (38, Cell.dict []) :: tkS (cutS at_) (jnA p (chr c f r k l :: ct1)) f r k l :: stepC p g rm gm (wy w) ⟨.liter 32 j, seen, h0 :: held, at_, chr c f r k l :: ct1, pb, tb⟩), (38 ≤ 38 + 1 ∧ 38 ≤ 38 ∧ 38 ≤ 40) ∧ Und 38 (.slo 47 [lcA f r k l, .str (cutS at_), .str (jnA p (chr c f r k l :: ct1))]) ∧ UC 38 (tkS (cutS at_) (jnA p (chr c f r k l :: ct1)) f r k l :: stepC p g rm gm (wy w) ⟨.liter 32 j, seen, h0 :: held, at_, chr c f r k l :: ct1, pb, tb⟩), tb.length ≤ M6, (chr c f r k l :: ct1).length ≤ M6, UV 37 noneV (stepC p g rm gm (wy w) ⟨.liter 32 j, seen, h0 :: held, at_, [], pb, tb ++ [.slo 47 [lcA f r k l, .str (cutS at_), .str (jnA p (chr c f r k l :: ct1))]]⟩), (h0 :: held).length ≤ M6]) (fun _ => by kernel_rfl)
  ⟨h8, h7, lb1 n2, rfl, rfl, de, i0, de, ⟨hm1, hm2⟩, hm3, la1 nc, ⟨hq1, hq2, la1 nc⟩, la1 nc, i0, rfl, ⟨.val _, und_cons (und_sinstC de clU) (und_cons (und_dict NsOk.nil) (und_cons unT (SOk.und (hs.way _) de l32 k1 (CL.cons kh k2) (clD kc) k4 k5)))⟩, ⟨⟨de, de, de⟩, (clT _), (und_cons unT (SOk.und (hs.way _) de l32 k1 (CL.cons kh k2) (clD kc) k4 k5))⟩, la0 n5, la1 nc, ⟨.val _, SOk.und (hs.way _) de l32 k1 (CL.cons kh k2) CL.nil k4 (CL.app k5 (CL.cons clT CL.nil))⟩, la1 n2, trivial⟩
theorem g_ctB (h8 : Wk w 8 false) (h7 : Wk w 7 true) (hm1 : Int.ofNat 0 ≤ at_.fmod (Int.ofNat 3)) (hm2 : at_.fmod (Int.ofNat 3) < Int.ofNat 9223372036854775808) (hm3 : cutL at_) (hq1 : ∀ y ∈ chr c f r k l :: ct1, (attrStr (KK p) "char" y).isSome = true) (hq2 : JoinOk "" (attrStrs (KK p) "char" (chr c f r k l :: ct1)) = true) (kc : CL ct1) (nc : ct1.length ≤ 900) (kh : ∀ N, Und N h0) : Go (exB p m) (stepS p g rm gm (wy w) ⟨.lend, seen, (h0 :: held), at_, (chr c f r k l :: ct1), pb, tb⟩) (AFlow.ret (stepV p)) (stepS p g rm gm (wy w) ⟨.lend, seen, [], at_, [], pb, tb ++ [.slo 47 [lcA f r k l, .str (cutS at_), .str (jnA p (chr c f r k l :: ct1))]]⟩) :=
  Go.of [wf, wt, wt, wt, .cut [] (.int at_), .cut [] (chr c f r k l), wt, .norm, .norm, .norm] (cs := [Wk w 8 false, Wk w 7 true, (h0 :: held).length < M62, Tt, Tt, 1 ≤ M6, I0 (.int at_), Int.ofNat 3 ≠ Int.ofNat 0, modC at_, cutL at_, (chr c f r k l :: ct1).length ≤ M6, (∀ y ∈ chr c f r k l :: ct1, (attrStr (KK p) "char" y).isSome = true) ∧ JoinOk "" (attrStrs (KK p) "char" (chr c f r k l :: ct1)) = true ∧ (chr c f r k l :: ct1).length ≤ M6, (chr c f r k l :: ct1).length ≤ M6, I0 (chr c f r k l), Tt, UV 40 noneV ((38 + 1, Cell.sinst 47 38 [some (lcA f r k l), some (.str (cutS at_)), some (.str (jnA p (chr c f r k l :: ct1)))]) :: (38, Cell.dict []) :: tkS (cutS at_) (jnA p (chr c f r k l :: ct1)) f r k l :: stepC p g rm gm (wy w) ⟨.lend, seen, h0 :: held, at_, chr c f r k l :: ct1, pb, tb⟩), (38 ≤ 38 + 1 ∧ 38 ≤ 38 ∧ 38 ≤ 40) ∧ Und 38 (.slo 47 [lcA f r k l, .str (cutS at_), .str (jnA p (chr c f r k l :: ct1))]) ∧ UC 38 (tkS (cutS at_) (jnA p (chr c f r k l :: ct1)) f r k l :: stepC p g rm gm (wy w) ⟨.lend, seen, h0 :: held, at_, chr c f r k l :: ct1, pb, tb⟩), tb.length ≤ M6, (chr c f r k l :: ct1).length ≤ M6, UV 37 noneV (stepC p g rm gm (wy w) ⟨.lend, seen, h0 :: held, at_, [], pb, tb ++ [.slo 47 [lcA f r k l, .str (cutS at_), .str (jnA p (chr c f r k l :: ct1))]]⟩), (h0 :: held).length ≤ M6]) (fun _ => by kernel_rfl)
  ⟨h8, h7, lb1 n2, rfl, rfl, de, i0, de, ⟨hm1, hm2⟩, hm3, la1 nc, ⟨hq1, hq2, la1 nc⟩, la1 nc, i0, rfl, ⟨.val _, und_cons (und_sinstC de clU) (und_cons (und_dict NsOk.nil) (und_cons unT (SOk.und (hs.way _) de trivial k1 (CL.cons kh k2) (clD kc) k4 k5)))⟩, ⟨⟨de, de, de⟩, (clT _), (und_cons unT (SOk.und (hs.way _) de trivial k1 (CL.cons kh k2) (clD kc) k4 k5))⟩, la0 n5, la1 nc, ⟨.val _, SOk.und (hs.way _) de trivial k1 (CL.cons kh k2) CL.nil k4 (CL.app k5 (CL.cons clT CL.nil))⟩, la1 n2, trivial⟩
end
section
variable (p : Params) (g : G3) (rm gm : List (Str × AV)) (it : Cell) (seen held ct pb tb : List AV) (at_ : Int) (w2 : Int) (m : Nat) (w : Int) (h0 : AV) (hs : SOk g rm gm []) (nw : g.ws.length ≤ 1000) (k1 : CL seen) (k2 : CL held) (k3 : CL ct) (k4 : CL pb) (k5 : CL tb) (ki : UndC 36 it) (n1 : seen.length ≤ 900) (n2 : held.length ≤ 900) (n3 : ct.length ≤ 900) (n4 : pb.length ≤ 900) (n5 : tb.length ≤ 900)
include p g rm gm it seen held ct pb tb at_ w2 m w h0 hs nw k1 k2 k3 k4 k5 ki n1 n2 n3 n4 n5
theorem g_a0 (ha1 : Int.ofNat 0 ≤ at_) (ha2 : at_ < Int.ofNat M6) (ha3 : g.ws[at_.toNat]? = some (.int w2)) : Go (exA p m) (stepS p g rm gm [] ⟨it, seen, held, at_, ct, pb, tb⟩) (AFlow.next) (stepS p g rm gm (wy w2) ⟨it, seen, held, at_ + Int.ofNat 1, ct, pb, tb⟩) :=
  Go.of [.cut [] (.int at_), .cut [] (.int w2), .cut [] (.int at_)] (cs := [1 ≤ M6, I0 (.int at_), g.ws.length ≤ M6, Int.ofNat 0 ≤ at_ ∧ at_ < Int.ofNat M6 ∧ g.ws[at_.toNat]? = some (.int w2), 1 ≤ M6, I0 (.int at_), 1 ≤ M6, Int.ofNat 0 ≤ Int.ofNat 0 ∧ Int.ofNat 0 < Int.ofNat 1]) (fun _ => by kernel_rfl)
  ⟨de, i0, lw0 nw, ⟨ha1, ha2, ha3⟩, de, i0, de, ⟨de, de⟩, trivial⟩
theorem g_a1 (ha1 : Int.ofNat 0 ≤ at_) (ha2 : at_ < Int.ofNat M6) (ha3 : g.ws[at_.toNat]? = some (.int w2)) : Go (exA p m) (stepS p g rm gm (wy w) ⟨it, seen, held, at_, ct, pb, tb⟩) (AFlow.next) (stepS p g rm gm (wy w2) ⟨it, seen, held, at_ + Int.ofNat 1, ct, pb, tb⟩) :=
  Go.of [.cut [] (.int at_), .cut [] (.int w2), .cut [] (.int at_)] (cs := [1 ≤ M6, I0 (.int at_), g.ws.length ≤ M6, Int.ofNat 0 ≤ at_ ∧ at_ < Int.ofNat M6 ∧ g.ws[at_.toNat]? = some (.int w2), 1 ≤ M6, I0 (.int at_), 1 ≤ M6, Int.ofNat 0 ≤ Int.ofNat 0 ∧ Int.ofNat 0 < Int.ofNat 1]) (fun _ => by kernel_rfl)
  ⟨de, i0, lw0 nw, ⟨ha1, ha2, ha3⟩, de, i0, de, ⟨de, de⟩, trivial⟩
end
section
variable (p : Params) (g : G3) (rm gm wm : List (Str × AV)) (it : Cell) (seen held ct pb tb : List AV) (at_ : Int) (m : Nat) (w : Int) (h0 : AV) (hs : SOk g rm gm wm) (nw : g.ws.length ≤ 1000) (k1 : CL seen) (k2 : CL held) (k3 : CL ct) (k4 : CL pb) (k5 : CL tb) (ki : UndC 36 it) (n1 : seen.length ≤ 900) (n2 : held.length ≤ 900) (n3 : ct.length ≤ 900) (n4 : pb.length ≤ 900) (n5 : tb.length ≤ 900)
include p g rm gm wm it seen held ct pb tb at_ m w h0 hs nw k1 k2 k3 k4 k5 ki n1 n2 n3 n4 n5
theorem g_lt : Go ((RN p (m + 40)).tst (sAe p) (whTest (nthS (stepB p) 0))) (stepS p g rm gm wm ⟨it, seen, held, at_, ct, pb, tb⟩) (decide (at_ < Int.ofNat g.ws.length)) (stepS p g rm gm wm ⟨it, seen, held, at_, ct, pb, tb⟩) :=
  Go.of [.cut [] (.int at_)] (cs := [1 ≤ M6, I0 (.int at_), g.ws.length ≤ M6]) (fun _ => by kernel_rfl)
  ⟨de, i0, lw0 nw, trivial⟩
end
section
variable (p : Params) (g : G3) (rm gm wm : List (Str × AV)) (it : Cell) (seen held ct pb tb : List AV) (at_ : Int) (c f : Str) (r k l : Int) (m : Nat) (w : Int) (h0 : AV) (hs : SOk g rm gm wm) (k1 : CL seen) (k2 : CL held) (k3 : CL ct) (k4 : CL pb) (k5 : CL tb) (ki : UndC 36 it) (n1 : seen.length ≤ 900) (n2 : held.length ≤ 900) (n3 : ct.length ≤ 900) (n4 : pb.length ≤ 900) (n5 : tb.length ≤ 900)
include p g rm gm wm it seen held ct pb tb at_ c f r k l m w h0 hs k1 k2 k3 k4 k5 ki n1 n2 n3 n4 n5
theorem g_z1 : Go ((RN p (m + 40)).tst (sAe p) (whTest (nthS (stepB p) 1))) (stepS p g rm gm wm ⟨it, seen, held, at_, ct, chr c f r k l :: pb, tb⟩) (true) (stepS p g rm gm wm ⟨it, seen ++ [sgn c f r k l], held ++ [chr c f r k l], at_, ct ++ [chr c f r k l], pb, tb⟩) :=
  Go.of [wf, wf, wt, .cut pb (chr c f r k l), wt, wf, wf, .norm, wf, wt, .norm] (cs := [Ff, (chr c f r k l :: pb).length < M62, Tt, (chr c f r k l :: pb).length ≤ M6, chr c f r k l :: pb = chr c f r k l :: pb, Tt, ct.length ≤ M6, Ff, Ff, UV 38 (chr c f r k l) (odC false :: stepC p g rm gm wm ⟨it, seen, held, at_, ct ++ [chr c f r k l], pb, tb⟩), Ff, 5 ≤ M6, seen.length ≤ M6, Tt, held.length ≤ M6, UV 37 (.bool true) (stepC p g rm gm wm ⟨it, seen ++ [sgn c f r k l], held ++ [chr c f r k l], at_, ct ++ [chr c f r k l], pb, tb⟩)]) (fun _ => by kernel_rfl)
  ⟨rfl, lb1 n4, rfl, la1 n4, rfl, rfl, la0 n3, rfl, rfl, ⟨((clo_chr _ _ _ _ _) _), (und_cons unO (SOk.und hs de ki k1 k2 (CL.app k3 clC) k4 k5))⟩, rfl, de, la0 n1, rfl, la0 n2, ⟨.bool _, SOk.und hs de ki (CL.app k1 clS) (CL.app k2 clC) (CL.app k3 clC) k4 k5⟩, trivial⟩
end
section
variable (p : Params) (g : G3) (rm gm wm : List (Str × AV)) (it : Cell) (seen held ct pb tb : List AV) (at_ : Int) (c f : Str) (r k l : Int) (j : Nat) (m : Nat) (w : Int) (h0 : AV) (hs : SOk g rm gm wm) (k1 : CL seen) (k2 : CL held) (k3 : CL ct) (k4 : CL pb) (k5 : CL tb) (ki : UndC 36 it) (n1 : seen.length ≤ 900) (n2 : held.length ≤ 900) (n3 : ct.length ≤ 900) (n4 : pb.length ≤ 900) (n5 : tb.length ≤ 900)
include p g rm gm wm it seen held ct pb tb at_ c f r k l j m w h0 hs k1 k2 k3 k4 k5 ki n1 n2 n3 n4 n5
theorem g_z2 (hj : g.ch[j]? = some (chr c f r k l)) : Go ((RN p (m + 40)).tst (sAe p) (whTest (nthS (stepB p) 1))) (stepS p g rm gm wm ⟨.liter 32 j, seen, held, at_, ct, [], tb⟩) (true) (stepS p g rm gm wm ⟨.liter 32 (j + 1), seen ++ [sgn c f r k l], held ++ [chr c f r k l], at_, ct ++ [chr c f r k l], [], tb⟩) :=
  Go.of [wf, wf, wf, .cut [] (chr c f r k l), wt, wf, wf, .norm, wf, wt, .norm] (cs := [Ff, 0 < M62, Ff, g.ch[j]? = some (chr c f r k l), Tt, ct.length ≤ M6, Ff, Ff, UV 38 (chr c f r k l) (odC false :: stepC p g rm gm wm ⟨.liter 32 (j + 1), seen, held, at_, ct ++ [chr c f r k l], [], tb⟩), Ff, 5 ≤ M6, seen.length ≤ M6, Tt, held.length ≤ M6, UV 37 (.bool true) (stepC p g rm gm wm ⟨.liter 32 (j + 1), seen ++ [sgn c f r k l], held ++ [chr c f r k l], at_, ct ++ [chr c f r k l], [], tb⟩)]) (fun _ => by kernel_rfl)
  ⟨rfl, de, rfl, hj, rfl, la0 n3, rfl, rfl, ⟨((clo_chr _ _ _ _ _) _), (und_cons unO (SOk.und hs de l32 k1 k2 (CL.app k3 clC) CL.nil k5))⟩, rfl, de, la0 n1, rfl, la0 n2, ⟨.bool _, SOk.und hs de l32 (CL.app k1 clS) (CL.app k2 clC) (CL.app k3 clC) CL.nil k5⟩, trivial⟩
end
section
variable (p : Params) (g : G3) (rm gm wm : List (Str × AV)) (it : Cell) (seen held ct pb tb : List AV) (at_ : Int) (j : Nat) (m : Nat) (w : Int) (h0 : AV) (hs : SOk g rm gm wm) (k1 : CL seen) (k2 : CL held) (k3 : CL ct) (k4 : CL pb) (k5 : CL tb) (ki : UndC 36 it) (n1 : seen.length ≤ 900) (n2 : held.length ≤ 900) (n3 : ct.length ≤ 900) (n4 : pb.length ≤ 900) (n5 : tb.length ≤ 900)
include p g rm gm wm it seen held ct pb tb at_ j m w h0 hs k1 k2 k3 k4 k5 ki n1 n2 n3 n4 n5
theorem g_z3 (hj : g.ch[j]? = none) : Go ((RN p (m + 40)).tst (sAe p) (whTest (nthS (stepB p) 1))) (stepS p g rm gm wm ⟨.liter 32 j, seen, held, at_, ct, [], tb⟩) (false) (stepS p g rm gm wm ⟨.lend, seen ++ [noneV], held, at_, ct, [], tb⟩) :=
  Go.of [wf, wf, wf, wf, wf, wf, wf, .norm, wt, wf, .norm] (cs := [Ff, 0 < M62, Ff, g.ch[j]? = none, Ff, Ff, Ff, UV 38 noneV (odC false :: stepC p g rm gm wm ⟨.lend, seen, held, at_, ct, [], tb⟩), Tt, seen.length ≤ M6, Ff, UV 37 (.bool false) (stepC p g rm gm wm ⟨.lend, seen ++ [noneV], held, at_, ct, [], tb⟩)]) (fun _ => by kernel_rfl)
  ⟨rfl, de, rfl, hj, rfl, rfl, rfl, ⟨.val _, und_cons unO (SOk.und hs de trivial k1 k2 k3 CL.nil k5)⟩, rfl, la0 n1, rfl, ⟨.bool _, SOk.und hs de trivial (CL.app k1 clN) k2 k3 CL.nil k5⟩, trivial⟩
end
section
variable (p : Params) (g : G3) (rm gm wm : List (Str × AV)) (it : Cell) (seen held ct pb tb : List AV) (at_ : Int) (m : Nat) (w : Int) (h0 : AV) (hs : SOk g rm gm wm) (k1 : CL seen) (k2 : CL held) (k3 : CL ct) (k4 : CL pb) (k5 : CL tb) (ki : UndC 36 it) (n1 : seen.length ≤ 900) (n2 : held.length ≤ 900) (n3 : ct.length ≤ 900) (n4 : pb.length ≤ 900) (n5 : tb.length ≤ 900)
include p g rm gm wm it seen held ct pb tb at_ m w h0 hs k1 k2 k3 k4 k5 ki n1 n2 n3 n4 n5
theorem g_z4 : Go ((RN p (m + 40)).tst (sAe p) (whTest (nthS (stepB p) 1))) (stepS p g rm gm wm ⟨.lend, seen, held, at_, ct, [], tb⟩) (false) (stepS p g rm gm wm ⟨.lend, seen ++ [noneV], held, at_, ct, [], tb⟩) :=
  Go.of [wf, wf, wf, wf, wf, wf, .norm, wt, wf, .norm] (cs := [Ff, 0 < M62, Ff, Ff, Ff, Ff, UV 38 noneV (odC false :: stepC p g rm gm wm ⟨.lend, seen, held, at_, ct, [], tb⟩), Tt, seen.length ≤ M6, Ff, UV 37 (.bool false) (stepC p g rm gm wm ⟨.lend, seen ++ [noneV], held, at_, ct, [], tb⟩)]) (fun _ => by kernel_rfl)
  ⟨rfl, de, rfl, rfl, rfl, rfl, ⟨.val _, und_cons unO (SOk.und hs de trivial k1 k2 k3 CL.nil k5)⟩, rfl, la0 n1, rfl, ⟨.bool _, SOk.und hs de trivial (CL.app k1 clN) k2 k3 CL.nil k5⟩, trivial⟩
theorem g_e0 : Go ((RN p (m + 40)).exs (sAe p) ((stepB p).drop 2)) (stepS p g rm gm wm ⟨.lend, seen, [], at_, ct, [], tb⟩) (AFlow.ret (finV p)) (stepS p g rm gm wm ⟨.lend, seen ++ [refV] ++ [noneV], [], at_, ct, [], tb⟩) :=
  Go.of [wt, wt, wt, wf, wf, wf, wf, wt, wt, wt, wt, wt, wf, wf, wf, wf, wf, .norm, wf, wt, wt, wf, wt, .keep, wf, .norm, wf, wf, wf, wf, wf, wf, .norm, wt, wf, .norm, wf] (cs := [Tt, 0 < M62, Ff, Ff, Tt, Tt, Tt, 0 < M62, Ff, Ff, Ff, Ff, UV 40 noneV (erC true (stepC p g rm gm wm ⟨.lend, seen, [], at_, ct, [], tb⟩)), Tt, 40 < 42, 1 ≤ 100, Ff, Tt, 0 ≤ M6, 2 ≤ 100, 40 < 44 ∧ 2 ≤ 1000, 2 ≤ M6, seen.length ≤ M6, Ff, UV 37 (.bool false) (stepC p g rm gm wm ⟨.lend, seen ++ [refV], [], at_, ct, [], tb⟩), Ff, 0 < M62, Ff, Ff, Ff, Ff, UV 38 noneV (odC false :: stepC p g rm gm wm ⟨.lend, seen ++ [refV], [], at_, ct, [], tb⟩), Tt, (seen ++ [refV]).length ≤ M6, Ff, UV 37 (.bool false) (stepC p g rm gm wm ⟨.lend, seen ++ [refV] ++ [noneV], [], at_, ct, [], tb⟩), 0 < M62, Ff]) (fun _ => by kernel_rfl)
  ⟨rfl, de, rfl, rfl, rfl, rfl, rfl, de, rfl, rfl, rfl, rfl, ⟨.val _, unE (SOk.und hs de trivial k1 CL.nil k3 CL.nil k5)⟩, rfl, de, de, rfl, rfl, de, de, ⟨de, de⟩, de, la0 n1, rfl, ⟨.bool _, SOk.und hs de trivial (CL.app k1 clR) CL.nil k3 CL.nil k5⟩, rfl, de, rfl, rfl, rfl, rfl, ⟨.val _, und_cons unO (SOk.und hs de trivial (CL.app k1 clR) CL.nil k3 CL.nil k5)⟩, rfl, la2 n1, rfl, ⟨.bool _, SOk.und hs de trivial (CL.app (CL.app k1 clR) clN) CL.nil k3 CL.nil k5⟩, de, rfl, trivial⟩
end
section
variable (p : Params) (g : G3) (rm gm wm : List (Str × AV)) (it : Cell) (seen held ct pb tb : List AV) (at_ : Int) (c f : Str) (r k l : Int) (ct1 : List AV) (m : Nat) (w : Int) (h0 : AV) (hs : SOk g rm gm wm) (k1 : CL seen) (k2 : CL held) (k3 : CL ct) (k4 : CL pb) (k5 : CL tb) (ki : UndC 36 it) (n1 : seen.length ≤ 900) (n2 : held.length ≤ 900) (n3 : ct.length ≤ 900) (n4 : pb.length ≤ 900) (n5 : tb.length ≤ 900)
include p g rm gm wm it seen held ct pb tb at_ c f r k l ct1 m w h0 hs k1 k2 k3 k4 k5 ki n1 n2 n3 n4 n5
theorem g_e1 (hq1 : ∀ y ∈ chr c f r k l :: ct1, (attrStr (KK p) "char" y).isSome = true) (hq2 : JoinOk "" (attrStrs (KK p) "char" (chr c f r k l :: ct1)) = true) (kc : CL ct1) (nc : ct1.length ≤ 900) (kh : ∀ N, Und N h0) : Go ((RN p (m + 40)).exs (sAe p) ((stepB p).drop 2)) (stepS p g rm gm wm ⟨.lend, seen, (h0 :: held), at_, (chr c f r k l :: ct1), [], tb⟩) (AFlow.ret (finV p)) (stepS p g rm gm wm ⟨.lend, seen ++ [refV] ++ [noneV], h0 :: held, at_, [], [], tb ++ [.slo 47 [lcA f r k l, .str ("rest"), .str (jnA p (chr c f r k l :: ct1))]]⟩) :=
  Go.of [wt, wt, wt, wf, wf, wf, wf, wt, wt, wt, wt, wt, wf, wf, wf, wf, wf, .norm, wf, wt, wt, wf, wt, .keep, wf, .norm, wf, wf, wf, wf, wf, wf, .norm, wt, wf, .norm, wt, .cut [] (chr c f r k l), wt, .norm, .norm, .norm] (cs := [Tt, 0 < M62, Ff, Ff, Tt, Tt, Tt, 0 < M62, Ff, Ff, Ff, Ff, UV 40 noneV (erC true (stepC p g rm gm wm ⟨.lend, seen, h0 :: held, at_, chr c f r k l :: ct1, [], tb⟩)), Tt, 40 < 42, 1 ≤ 100, Ff, Tt, 0 ≤ M6, 2 ≤ 100, 40 < 44 ∧ 2 ≤ 1000, 2 ≤ M6, seen.length ≤ M6, Ff, UV 37 (.bool false) (stepC p g rm gm wm ⟨.lend, seen ++ [refV], h0 :: held, at_, chr c f r k l :: ct1, [], tb⟩), Ff, 0 < M62, Ff, Ff, Ff, Ff, UV 38 noneV (odC false :: stepC p g rm gm wm ⟨.lend, seen ++ [refV], h0 :: held, at_, chr c f r k l :: ct1, [], tb⟩), Tt, (seen ++ [refV]).length ≤ M6, Ff, UV 37 (.bool false) (stepC p g rm gm wm ⟨.lend, seen ++ [refV] ++ [noneV], h0 :: held, at_, chr c f r k l :: ct1, [], tb⟩), (h0 :: held).length < M62, Tt, (chr c f r k l :: ct1).length ≤ M6, (∀ y ∈ chr c f r k l :: ct1, (attrStr (KK p) "char" y).isSome = true) ∧ JoinOk "" (attrStrs (KK p) "char" (chr c f r k l :: ct1)) = true ∧ (chr c f r k l :: ct1).length ≤ M6, (chr c f r k l :: ct1).length ≤ M6, I0 (chr c f r k l), Tt, UV 40 noneV ((38 + 1, Cell.sinst 47 38 [some (lcA f r k l), some (.str "rest"), some (.str (jnA p (chr c f r k l :: ct1)))]) :: (38, Cell.dict []) :: tkS ("rest") (jnA p (chr c f r k l :: ct1)) f r k l :: stepC p g rm gm wm ⟨.lend, seen ++ [refV] ++ [noneV], h0 :: held, at_, chr c f r k l :: ct1, [], tb⟩), (38 ≤ 38 + 1 ∧ 38 ≤ 38 ∧ 38 ≤ 40) ∧ Und 38 (.slo 47 [lcA f r k l, .str ("rest"), .str (jnA p (chr c f r k l :: ct1))]) ∧ UC 38 (tkS ("rest") (jnA p (chr c f r k l :: ct1)) f r k l :: stepC p g rm gm wm ⟨.lend, seen ++ [refV] ++ [noneV], h0 :: held, at_, chr c f r k l :: ct1, [], tb⟩), tb.length ≤ M6, (chr c f r k l :: ct1).length ≤ M6, UV 37 noneV (stepC p g rm gm wm ⟨.lend, seen ++ [refV] ++ [noneV], h0 :: held, at_, [], [], tb ++ [.slo 47 [lcA f r k l, .str ("rest"), .str (jnA p (chr c f r k l :: ct1))]]⟩)]) (fun _ => by kernel_rfl)
  ⟨rfl, de, rfl, rfl, rfl, rfl, rfl, de, rfl, rfl, rfl, rfl, ⟨.val _, unE (SOk.und hs de trivial k1 (CL.cons kh k2) (clD kc) CL.nil k5)⟩, rfl, de, de, rfl, rfl, de, de, ⟨de, de⟩, de, la0 n1, rfl, ⟨.bool _, SOk.und hs de trivial (CL.app k1 clR) (CL.cons kh k2) (clD kc) CL.nil k5⟩, rfl, de, rfl, rfl, rfl, rfl, ⟨.val _, und_cons unO (SOk.und hs de trivial (CL.app k1 clR) (CL.cons kh k2) (clD kc) CL.nil k5)⟩, rfl, la2 n1, rfl, ⟨.bool _, SOk.und hs de trivial (CL.app (CL.app k1 clR) clN) (CL.cons kh k2) (clD kc) CL.nil k5⟩, lb1 n2, rfl, la1 nc, ⟨hq1, hq2, la1 nc⟩, la1 nc, i0, rfl, ⟨.val _, und_cons (und_sinstC de clU) (und_cons (und_dict NsOk.nil) (und_cons unT (SOk.und hs de trivial (CL.app (CL.app k1 clR) clN) (CL.cons kh k2) (clD kc) CL.nil k5)))⟩, ⟨⟨de, de, de⟩, (clT _), (und_cons unT (SOk.und hs de trivial (CL.app (CL.app k1 clR) clN) (CL.cons kh k2) (clD kc) CL.nil k5))⟩, la0 n5, la1 nc, ⟨.val _, SOk.und hs de trivial (CL.app (CL.app k1 clR) clN) (CL.cons kh k2) CL.nil CL.nil (CL.app k5 (CL.cons clT CL.nil))⟩, trivial⟩
end
structure Sg where
  c : Str
  f : Str
  r : Int
  k : Int
  l : Int
noncomputable def Sg.chr (s : Sg) : AV := Mine.chr s.c s.f s.r s.k s.l
noncomputable def Sg.sgn (s : Sg) : AV := Mine.sgn s.c s.f s.r s.k s.l
noncomputable def chs (l : List Sg) : List AV := l.map Sg.chr
theorem cl_chs (l : List Sg) : CL (chs l) := ⟨fun x hx N => by
  obtain ⟨s, _, rfl⟩ := List.mem_map.mp hx
  exact clo_chr _ _ _ _ _ _⟩
theorem cl_sgs (l : List Sg) : CL (l.map Sg.sgn) := ⟨fun x hx N => by
  obtain ⟨s, _, rfl⟩ := List.mem_map.mp hx
  exact CL.tup (CL.cons (fun _ => .str _) (CL.cons (fun _ => .str _) (CL.cons (fun _ => .int _) (CL.cons (fun _ => .int _) (CL.cons (fun _ => .int _) CL.nil))))) N⟩
theorem chs_len (l : List Sg) : (chs l).length = l.length := List.length_map ..
noncomputable def tO (it : Cell) (seen : List AV) (W P : List Sg) (a : Int) (tb : List AV) : T3 := ⟨it, seen, chs W, a, chs W, chs P, tb⟩
noncomputable def ItOk (g : G3) (it : Cell) (R : List Sg) : Prop := (it = .lend ∧ R = []) ∨ ∃ j, it = .liter 32 j ∧ g.ch.drop j = chs R
theorem ItOk.und {g : G3} {it : Cell} {R : List Sg} (h : ItOk g it R) : UndC 36 it := by
  rcases h with ⟨rfl, _⟩ | ⟨j, rfl, _⟩
  · trivial
  · exact (by decide : (32 : Nat) < 36)
noncomputable def spTake (w : Int) (W : List Sg) : List Sg → List AV × List Sg × List Sg
  | [] => ([if w = 3 then refV else noneV], W, [])
  | x :: U => ([x.sgn], W ++ [x], U)
noncomputable def spStep (w : Int) (W U : List Sg) : List AV × List Sg × List Sg :=
  if w = 8 then ([], [], U)
  else if w = 6 then ([], W, U)
  else if (w = 4 ∨ w = 5) ∧ W ≠ [] then ([], W.dropLast, W.getLast?.toList ++ U)
  else spTake w W U
theorem h4f {w : Int} (a : w ≠ 4) (b : w ≠ 5) : (Int.ofNat 4 == w || (Int.ofNat 5 == w || false)) = false := by
  have h1 : (Int.ofNat 4 == w) = false := beq_false_of_ne (Ne.symm a)
  have h2 : (Int.ofNat 5 == w) = false := beq_false_of_ne (Ne.symm b)
  rw [h1, h2]; rfl
theorem h4t {w : Int} (h : w = 4 ∨ w = 5) : (Int.ofNat 4 == w || (Int.ofNat 5 == w || false)) = true := by
  rcases h with rfl | rfl <;> rfl
theorem bf {w n : Int} (h : w ≠ n) : (w == n) = false := beq_false_of_ne h
theorem bt {w n : Int} (h : w = n) : (w == n) = true := by rw [h]; exact beq_self_eq_true n
structure IV (g : G3) (it : Cell) (seen : List AV) (W P R : List Sg) (tb : List AV) : Prop where
  it : ItOk g it R
  cs : CL seen
  ct : CL tb
  ns : seen.length ≤ 800
  nb : tb.length ≤ 100
  nw : W.length + P.length + R.length ≤ 100
noncomputable abbrev wB (p : Params) : List Stmt := (whBody (nthS (stepB p) 0)).drop 2
theorem it_cons {g : G3} {it : Cell} {x : Sg} {R : List Sg} (h : ItOk g it (x :: R)) : ∃ j, it = .liter 32 j ∧ g.ch[j]? = some x.chr ∧ ItOk g (.liter 32 (j + 1)) R := by
  rcases h with ⟨_, h⟩ | ⟨j, rfl, h⟩
  · cases h
  · refine ⟨j, rfl, ?_, .inr ⟨j + 1, rfl, ?_⟩⟩
    · have : (g.ch.drop j)[0]? = some x.chr := by rw [h]; rfl
      simpa using this
    · rw [← List.tail_drop, h]; rfl
theorem it_nil {g : G3} {it : Cell} (h : ItOk g it []) : it = .lend ∨ ∃ j, it = .liter 32 j ∧ g.ch[j]? = none := by
  rcases h with ⟨rfl, _⟩ | ⟨j, rfl, h⟩
  · exact .inl rfl
  · refine .inr ⟨j, rfl, ?_⟩
    have : (g.ch.drop j)[0]? = none := by rw [h]; rfl
    simpa using this
set_option maxHeartbeats 1000000 in
theorem go_take {p : Params} {g : G3} {rm gm : List (Str × AV)} (hs : SOk g rm gm []) {N : Nat} (hN : 40 ≤ N) {it : Cell} {seen tb : List AV} {W P R : List Sg} {a w : Int} (v : IV g it seen W P R tb)
    (h8 : w ≠ 8) (h6 : w ≠ 6) (h7 : w = 7 → W = []) (h4 : w = 4 ∨ w = 5 → W = []) :
    ∃ it' P' R', (spTake w W (P ++ R)).2.2 = P' ++ R' ∧ ItOk g it' R' ∧ Go ((RN p N).exs (sAe p) (wB p)) (stepS p g rm gm [("way", .int w)] (tO it seen W P a tb)) .next
      (stepS p g rm gm [("way", .int w)] (tO it' (seen ++ (spTake w W (P ++ R)).1) (spTake w W (P ++ R)).2.1 P' a tb)) := by
  obtain ⟨m, rfl⟩ : ∃ m, N = m + 40 := ⟨N - 40, by omega⟩
  obtain ⟨vi, vc, vt, vn, vb, vw⟩ := v
  have k2 := cl_chs W
  have k4 := cl_chs P
  have ki := vi.und
  have e2 := chs_len W
  have e4 := chs_len P
  have n1 : seen.length ≤ 900 := by omega
  have n2 : (chs W).length ≤ 900 := by omega
  have n4 : (chs P).length ≤ 900 := by omega
  have n5 : tb.length ≤ 900 := by omega
  have b8 : (w == Int.ofNat 8) = false := bf h8
  have b6 : (w == Int.ofNat 6) = false := bf h6
  cases P with
  | cons x P =>
    have k4' := cl_chs P
    have n4' : (chs P).length ≤ 900 := by rw [chs_len]; simp only [List.length_cons] at vw; omega
    have fin : chs (W ++ [x]) = chs W ++ [x.chr] := List.map_append ..
    refine ⟨it, P, R, rfl, vi, ?_⟩
    show Go _ _ _ (stepS p g rm gm _ ⟨it, seen ++ [x.sgn], chs (W ++ [x]), a, chs (W ++ [x]), chs P, tb⟩)
    rw [fin]
    by_cases q7 : w = 7
    · obtain rfl := h7 q7
      exact g_tp21 p g rm gm it seen (chs []) (chs []) (chs P) tb a x.c x.f x.r x.k x.l m w noneV hs vc k2 k2 k4' vt ki n1 n2 n2 n4' n5 b8 (bt q7) b6 (h4f (by omega) (by omega)) (bf (show w ≠ 3 by omega))
    · by_cases q4 : w = 4 ∨ w = 5
      · obtain rfl := h4 q4
        exact g_tp31 p g rm gm it seen (chs []) (chs []) (chs P) tb a x.c x.f x.r x.k x.l m w noneV hs vc k2 k2 k4' vt ki n1 n2 n2 n4' n5 b8 (bf q7) b6 (h4t q4) (bf (show w ≠ 3 by omega))
      · by_cases q3 : w = 3
        · exact g_d1 p g rm gm it seen (chs W) (chs W) (chs P) tb a x.c x.f x.r x.k x.l m w noneV hs vc k2 k2 k4' vt ki n1 n2 n2 n4' n5 b8 (bf q7) b6 (h4f (by omega) (by omega)) (bt q3)
        · exact g_tp11 p g rm gm it seen (chs W) (chs W) (chs P) tb a x.c x.f x.r x.k x.l m w noneV hs vc k2 k2 k4' vt ki n1 n2 n2 n4' n5 b8 (bf q7) b6 (h4f (by omega) (by omega)) (bf q3)
  | nil =>
    cases R with
    | cons x R =>
      obtain ⟨j, rfl, hj, hi'⟩ := it_cons vi
      have fin : chs (W ++ [x]) = chs W ++ [x.chr] := List.map_append ..
      refine ⟨.liter 32 (j + 1), [], R, rfl, hi', ?_⟩
      show Go _ _ _ (stepS p g rm gm _ ⟨.liter 32 (j + 1), seen ++ [x.sgn], chs (W ++ [x]), a, chs (W ++ [x]), chs [], tb⟩)
      rw [fin]
      by_cases q7 : w = 7
      · obtain rfl := h7 q7
        exact g_tp22 p g rm gm .lend seen (chs []) (chs []) [] tb a x.c x.f x.r x.k x.l j m w noneV hs vc k2 k2 k4 vt trivial n1 n2 n2 n4 n5 b8 (bt q7) b6 (h4f (by omega) (by omega)) (bf (show w ≠ 3 by omega)) hj
      · by_cases q4 : w = 4 ∨ w = 5
        · obtain rfl := h4 q4
          exact g_tp32 p g rm gm .lend seen (chs []) (chs []) [] tb a x.c x.f x.r x.k x.l j m w noneV hs vc k2 k2 k4 vt trivial n1 n2 n2 n4 n5 b8 (bf q7) b6 (h4t q4) (bf (show w ≠ 3 by omega)) hj
        · by_cases q3 : w = 3
          · exact g_d2 p g rm gm .lend seen (chs W) (chs W) [] tb a x.c x.f x.r x.k x.l j m w noneV hs vc k2 k2 k4 vt trivial n1 n2 n2 n4 n5 b8 (bf q7) b6 (h4f (by omega) (by omega)) (bt q3) hj
          · exact g_tp12 p g rm gm .lend seen (chs W) (chs W) [] tb a x.c x.f x.r x.k x.l j m w noneV hs vc k2 k2 k4 vt trivial n1 n2 n2 n4 n5 b8 (bf q7) b6 (h4f (by omega) (by omega)) (bf q3) hj
    | nil =>
      refine ⟨.lend, [], [], rfl, .inl ⟨rfl, rfl⟩, ?_⟩
      show Go _ _ _ (stepS p g rm gm _ ⟨.lend, seen ++ [if w = 3 then refV else noneV], chs W, a, chs W, chs [], tb⟩)
      rcases it_nil vi with rfl | ⟨j, rfl, hj⟩
      · by_cases q7 : w = 7
        · obtain rfl := h7 q7
          rw [if_neg (by omega)]
          exact g_tp24 p g rm gm .lend seen (chs []) (chs []) [] tb a m w noneV hs vc k2 k2 k4 vt trivial n1 n2 n2 n4 n5 b8 (bt q7) b6 (h4f (by omega) (by omega)) (bf (show w ≠ 3 by omega))
        · by_cases q4 : w = 4 ∨ w = 5
          · obtain rfl := h4 q4
            rw [if_neg (by omega)]
            exact g_tp34 p g rm gm .lend seen (chs []) (chs []) [] tb a m w noneV hs vc k2 k2 k4 vt trivial n1 n2 n2 n4 n5 b8 (bf q7) b6 (h4t q4) (bf (show w ≠ 3 by omega))
          · by_cases q3 : w = 3
            · rw [if_pos q3]
              exact g_d4 p g rm gm .lend seen (chs W) (chs W) [] tb a m w noneV hs vc k2 k2 k4 vt trivial n1 n2 n2 n4 n5 b8 (bf q7) b6 (h4f (by omega) (by omega)) (bt q3)
            · rw [if_neg q3]
              exact g_tp14 p g rm gm .lend seen (chs W) (chs W) [] tb a m w noneV hs vc k2 k2 k4 vt trivial n1 n2 n2 n4 n5 b8 (bf q7) b6 (h4f (by omega) (by omega)) (bf q3)
      · by_cases q7 : w = 7
        · obtain rfl := h7 q7
          rw [if_neg (by omega)]
          exact g_tp23 p g rm gm .lend seen (chs []) (chs []) [] tb a j m w noneV hs vc k2 k2 k4 vt trivial n1 n2 n2 n4 n5 b8 (bt q7) b6 (h4f (by omega) (by omega)) (bf (show w ≠ 3 by omega)) hj
        · by_cases q4 : w = 4 ∨ w = 5
          · obtain rfl := h4 q4
            rw [if_neg (by omega)]
            exact g_tp33 p g rm gm .lend seen (chs []) (chs []) [] tb a j m w noneV hs vc k2 k2 k4 vt trivial n1 n2 n2 n4 n5 b8 (bf q7) b6 (h4t q4) (bf (show w ≠ 3 by omega)) hj
          · by_cases q3 : w = 3
            · rw [if_pos q3]
              exact g_d3 p g rm gm .lend seen (chs W) (chs W) [] tb a j m w noneV hs vc k2 k2 k4 vt trivial n1 n2 n2 n4 n5 b8 (bf q7) b6 (h4f (by omega) (by omega)) (bt q3) hj
            · rw [if_neg q3]
              exact g_tp13 p g rm gm .lend seen (chs W) (chs W) [] tb a j m w noneV hs vc k2 k2 k4 vt trivial n1 n2 n2 n4 n5 b8 (bf q7) b6 (h4f (by omega) (by omega)) (bf q3) hj
theorem spTake_len (w : Int) (W : List Sg) : ∀ U : List Sg, (spTake w W U).1.length ≤ 1 ∧ (spTake w W U).2.1.length + (spTake w W U).2.2.length = W.length + U.length ∧ CL (spTake w W U).1
  | [] => ⟨Nat.le_refl _, rfl, CL.cons (fun N => by split <;> first | exact .val _ | exact CL.tup (CL.cons (fun _ => .str _) (CL.cons (fun _ => .val _) CL.nil)) N) CL.nil⟩
  | x :: U => ⟨Nat.le_refl _, by show (W ++ [x]).length + U.length = W.length + (x :: U).length; simp only [List.length_append, List.length_cons, List.length_nil]; omega, cl_sgs [x]⟩
theorem spStep_len (w : Int) (W U : List Sg) : (spStep w W U).1.length ≤ 1 ∧ (spStep w W U).2.1.length + (spStep w W U).2.2.length ≤ W.length + U.length ∧ CL (spStep w W U).1 := by
  unfold spStep
  split
  · exact ⟨Nat.zero_le _, by show 0 + U.length ≤ _; omega, CL.nil⟩
  · split
    · exact ⟨Nat.zero_le _, Nat.le_refl _, CL.nil⟩
    · split
      · rename_i h
        refine ⟨Nat.zero_le _, ?_, CL.nil⟩
        show W.dropLast.length + (W.getLast?.toList ++ U).length ≤ _
        rw [List.length_append, List.length_dropLast]
        have : W.getLast?.toList.length ≤ 1 := by cases W.getLast? <;> simp
        have : 0 < W.length := List.length_pos_iff.mpr h.2
        omega
      · obtain ⟨a, b, c⟩ := spTake_len w W U
        exact ⟨a, Nat.le_of_eq b, c⟩
theorem go_turn {p : Params} {g : G3} {rm gm : List (Str × AV)} (hs : SOk g rm gm []) {N : Nat} (hN : 40 ≤ N) {it : Cell} {seen tb : List AV} {W P R : List Sg} {a w : Int} (v : IV g it seen W P R tb) (hc : ¬ (w = 7 ∧ W ≠ [])) :
    ∃ it' P' R', (spStep w W (P ++ R)).2.2 = P' ++ R' ∧ ItOk g it' R' ∧ Go ((RN p N).exs (sAe p) (wB p)) (stepS p g rm gm [("way", .int w)] (tO it seen W P a tb)) .next
      (stepS p g rm gm [("way", .int w)] (tO it' (seen ++ (spStep w W (P ++ R)).1) (spStep w W (P ++ R)).2.1 P' a tb)) := by
  have v' := v
  obtain ⟨vi, vc, vt, vn, vb, vw⟩ := v
  have k2 := cl_chs W
  have k4 := cl_chs P
  have ki := vi.und
  have e2 := chs_len W
  have e4 := chs_len P
  have n1 : seen.length ≤ 900 := by omega
  have n2 : (chs W).length ≤ 900 := by omega
  have n4 : (chs P).length ≤ 900 := by omega
  have n5 : tb.length ≤ 900 := by omega
  unfold spStep
  split
  · rename_i h
    obtain ⟨m, rfl⟩ : ∃ m, N = m + 40 := ⟨N - 40, by omega⟩
    refine ⟨it, P, R, rfl, vi, ?_⟩
    rw [List.append_nil]
    exact g_w8 p g rm gm it seen (chs W) (chs W) (chs P) tb a m w noneV hs vc k2 k2 k4 vt ki n1 n2 n2 n4 n5 (bt h)
  · rename_i h8
    split
    · rename_i h
      obtain ⟨m, rfl⟩ : ∃ m, N = m + 40 := ⟨N - 40, by omega⟩
      refine ⟨it, P, R, rfl, vi, ?_⟩
      rw [List.append_nil]
      exact g_w6 p g rm gm it seen (chs W) (chs W) (chs P) tb a m w noneV hs vc k2 k2 k4 vt ki n1 n2 n2 n4 n5 (bf h8) (bf (show w ≠ 7 by omega)) (bt h)
    · rename_i h6
      split
      · rename_i h
        obtain ⟨m, rfl⟩ : ∃ m, N = m + 40 := ⟨N - 40, by omega⟩
        obtain ⟨W₀, x, rfl⟩ : ∃ W₀ x, W = W₀ ++ [x] := ⟨W.dropLast, W.getLast h.2, (List.dropLast_concat_getLast h.2).symm⟩
        have f1 : (W₀ ++ [x]).dropLast = W₀ := by simp
        have f2 : (W₀ ++ [x]).getLast? = some x := by simp
        have fin : chs (W₀ ++ [x]) = chs W₀ ++ [x.chr] := List.map_append ..
        rw [f1, f2]
        refine ⟨it, x :: P, R, rfl, vi, ?_⟩
        show Go _ (stepS p g rm gm _ ⟨it, seen, chs (W₀ ++ [x]), a, chs (W₀ ++ [x]), chs P, tb⟩) _ (stepS p g rm gm _ ⟨it, seen ++ [], chs W₀, a, chs W₀, chs (x :: P), tb⟩)
        rw [fin, List.append_nil]
        have n2' : (chs W₀).length ≤ 900 := by rw [chs_len]; rw [List.length_append] at vw; omega
        exact g_bk p g rm gm it seen (chs W₀) (chs W₀) (chs P) tb a x.c x.f x.r x.k x.l m w noneV hs vc (cl_chs W₀) (cl_chs W₀) k4 vt ki n1 n2' n2' n4 n5 (bf h8) (bf (show w ≠ 7 by omega)) (bf h6) (h4t h.1)
      · rename_i h4
        refine go_take hs hN v' h8 h6 (fun h7 => ?_) fun h => ?_
        · cases W with
          | nil => rfl
          | cons x W => exact absurd ⟨h7, by simp⟩ hc
        · cases W with
          | nil => rfl
          | cons x W => exact absurd ⟨h, by simp⟩ h4
noncomputable def jn (W : List Sg) : Str := Txt.join (Str.ofString "") (W.map (·.c))
theorem attr_chr (p : Params) (c f : Str) (r k l : Int) : attrStr (KK p) (Str.ofString "char") (chr c f r k l) = some c := by kernel_rfl
theorem attrs_chs (p : Params) (W : List Sg) : attrStrs (KK p) (Str.ofString "char") (chs W) = W.map (·.c) := by
  unfold attrStrs chs
  rw [List.map_map]
  refine List.map_congr_left fun s _ => ?_
  show (attrStr (KK p) (Str.ofString "char") s.chr).getD Str.empty = s.c
  unfold Sg.chr
  rw [attr_chr]; rfl
theorem attrs_some (p : Params) (W : List Sg) : ∀ y ∈ chs W, (attrStr (KK p) (Str.ofString "char") y).isSome = true := fun y hy => by
  obtain ⟨s, _, rfl⟩ := List.mem_map.mp hy
  show (attrStr (KK p) (Str.ofString "char") s.chr).isSome = true
  unfold Sg.chr
  rw [attr_chr]; rfl
noncomputable def Short (W : List Sg) : Prop := ∀ s ∈ W, s.c.length ≤ 4
theorem fold_len (l : List Str) : ∀ a : Nat, l.foldl (fun n x => n + x.length + (Str.ofString "").length) a ≤ a + (l.map (·.length)).sum := by
  induction l with
  | nil => intro a; simp
  | cons x l ih =>
    intro a
    rw [List.foldl_cons, List.map_cons, List.sum_cons]
    refine Nat.le_trans (ih _) ?_
    have : (Str.ofString "").length = 0 := by decide
    omega
theorem short_sum : ∀ (W : List Sg), Short W → ((W.map (·.c)).map (·.length)).sum ≤ 4 * W.length
  | [], _ => by simp
  | s :: W, h => by
    have := short_sum W fun x hx => h x (.tail _ hx)
    have := h s (.head _)
    simp only [List.map_cons, List.sum_cons, List.length_cons]
    omega
theorem joinOk (W : List Sg) (h : Short W) (hn : W.length ≤ 100) : JoinOk (Str.ofString "") (W.map (·.c)) = true := by
  unfold JoinOk
  have h1 := fold_len (W.map (·.c)) 0
  have h2 := short_sum W h
  rw [Bool.not_eq_true']
  unfold Builtin.Str.tooLong
  simp only [List.foldl_toArray, decide_eq_false_iff_not, gt_iff_lt, Nat.not_lt, ge_iff_le, Nat.not_le]
  have : sizeLine = 2 ^ 24 := rfl
  omega
structure Ou where
  ev : List AV
  W : List Sg
  U : List Sg
  rs : Option (List Int)
noncomputable def spUntil : List Int → List Sg → List Sg → Ou
  | [], W, U => ⟨[], W, U, none⟩
  | w :: rest, W, U => if w = 7 ∧ W ≠ [] then ⟨[], W, U, some rest⟩ else
    let o := spUntil rest (spStep w W U).2.1 (spStep w W U).2.2
    ⟨(spStep w W U).1 ++ o.ev, o.W, o.U, o.rs⟩
theorem spTake_mem (w : Int) (W : List Sg) : ∀ (U : List Sg) (s : Sg), s ∈ (spTake w W U).2.1 ++ (spTake w W U).2.2 → s ∈ W ++ U
  | [], s, h => h
  | x :: U, s, h => by
    have h' : s ∈ (W ++ [x]) ++ U := h
    simpa using h'
theorem spStep_mem (w : Int) (W U : List Sg) (s : Sg) (h : s ∈ (spStep w W U).2.1 ++ (spStep w W U).2.2) : s ∈ W ++ U := by
  unfold spStep at h
  split at h
  · exact List.mem_append_right _ (by simpa using h)
  · split at h
    · exact h
    · split at h
      · have h' : s ∈ W.dropLast ++ (W.getLast?.toList ++ U) := h
        simp only [List.mem_append] at h' ⊢
        rcases h' with h' | h' | h'
        · exact .inl ((List.dropLast_sublist W).mem h')
        · refine .inl ?_
          cases q : W.getLast? with
          | none => rw [q] at h'; cases h'
          | some y =>
            rw [q] at h'
            have : s = y := by simpa using h'
            subst this
            exact List.mem_of_getLast? q
        · exact .inr h'
      · exact spTake_mem w W U s h
noncomputable def tokW (ty : Str) : List Sg → AV
  | [] => noneV
  | x :: W => .slo 47 [.slo 79 [.int x.k, .str x.f, .int x.l, .int x.r, .val .none], .str ty, .str (jn (x :: W))]
noncomputable def cutTy (a : Int) : Str := Str.ofString "cut" ++ Str.ofString (toString (a.fmod (Int.ofNat 3)))
theorem mod3 (a : Int) : a.fmod (Int.ofNat 3) = 0 ∨ a.fmod (Int.ofNat 3) = 1 ∨ a.fmod (Int.ofNat 3) = 2 := by
  have h1 : a.fmod 3 = a % 3 := Int.fmod_eq_emod_of_nonneg a (by decide)
  show a.fmod 3 = 0 ∨ a.fmod 3 = 1 ∨ a.fmod 3 = 2
  rw [h1]; omega
theorem cut_len (a : Int) : (Str.ofString "cut").length + (Str.ofString (toString (a.fmod (Int.ofNat 3)))).length ≤ 1000000 := by
  rcases mod3 a with h | h | h <;> rw [h] <;> decide +kernel
theorem tokW_cl (ty : Str) (W : List Sg) : ∀ N, Und N (tokW ty W) := fun N => by
  cases W with
  | nil => exact .val _
  | cons x W => exact CL.slo (CL.cons (CL.slo (CL.cons (fun _ => .int _) (CL.cons (fun _ => .str _) (CL.cons (fun _ => .int _) (CL.cons (fun _ => .int _) (CL.cons (fun _ => .val _) CL.nil)))))) (CL.cons (fun _ => .str _) (CL.cons (fun _ => .str _) CL.nil))) N
theorem go_split {p : Params} {ae : AEnv} {n k : Nat} {ss : List Stmt} {σ σ' σ'' : St} {fl : AFlow} (h1 : Go ((RN p (n + 1)).exs ae (ss.take k)) σ .next σ') (h2 : Go ((RN p (n + 1)).exs ae (ss.drop k)) σ' fl σ'') : Go ((RN p (n + 1)).exs ae ss) σ fl σ'' := by
  have := Go.app (one := eOne (KK p) (ext3 p) (rx (KK p) (ext3 p) n).1 (rx (KK p) (ext3 p) n).2 ae) (a := ss.take k) (b := ss.drop k) h1 h2
  rw [List.take_append_drop] at this
  exact this
theorem go_cut {p : Params} {g : G3} {rm gm : List (Str × AV)} (hs : SOk g rm gm []) {N : Nat} (hN : 40 ≤ N) {it : Cell} {seen tb : List AV} {W P R : List Sg} {a w : Int} (v : IV g it seen W P R tb) (hw : w = 7) (hW : W ≠ []) (hsh : Short W) :
    Go ((RN p N).exs (sAe p) (wB p)) (stepS p g rm gm [("way", .int w)] (tO it seen W P a tb)) (.ret (stepV p)) (stepS p g rm gm [("way", .int w)] ⟨it, seen, [], a, [], chs P, tb ++ [tokW (cutTy a) W]⟩) := by
  obtain ⟨m, rfl⟩ : ∃ m, N = m + 40 := ⟨N - 40, by omega⟩
  obtain ⟨vi, vc, vt, vn, vb, vw⟩ := v
  cases W with
  | nil => exact absurd rfl hW
  | cons x W =>
    have hq1 := attrs_some p (x :: W)
    have hq2 : JoinOk (Str.ofString "") (attrStrs (KK p) (Str.ofString "char") (chs (x :: W))) = true := by rw [attrs_chs]; exact joinOk _ hsh (by omega)
    have e4 := chs_len P
    have e2 := chs_len W
    have n1 : seen.length ≤ 900 := by omega
    have n2 : (chs W).length ≤ 900 := by rw [e2]; simp only [List.length_cons] at vw; omega
    have n4 : (chs P).length ≤ 900 := by omega
    have n5 : tb.length ≤ 900 := by omega
    have m1 : Int.ofNat 0 ≤ a.fmod (Int.ofNat 3) := by rcases mod3 a with h | h | h <;> rw [h] <;> decide
    have m2 : a.fmod (Int.ofNat 3) < Int.ofNat 9223372036854775808 := by rcases mod3 a with h | h | h <;> rw [h] <;> decide
    have tok : AV.slo 47 [AV.slo 79 [AV.int x.k, AV.str x.f, AV.int x.l, AV.int x.r, AV.val Value.none], AV.str (Str.ofString "cut" ++ Str.ofString (toString (a.fmod (Int.ofNat 3)))), AV.str (Txt.join (Str.ofString "") (attrStrs (KK p) (Str.ofString "char") (chs (x :: W))))] = tokW (cutTy a) (x :: W) := by
      rw [attrs_chs]; rfl
    rcases vi with ⟨rfl, _⟩ | ⟨j, rfl, _⟩
    · have := g_ctB p g rm gm .lend seen (chs W) [] (chs P) tb a x.c x.f x.r x.k x.l (chs W) 0 m w x.chr hs vc (cl_chs W) CL.nil (cl_chs P) vt trivial n1 n2 (Nat.zero_le _) n4 n5 (bf (show w ≠ 8 by omega)) (bt hw) m1 m2 (cut_len a) hq1 hq2 (cl_chs W) n2 (clo_chr _ _ _ _ _)
      rw [← tok]
      exact this
    · have := g_ctA p g rm gm .lend seen (chs W) [] (chs P) tb a x.c x.f x.r x.k x.l (chs W) j m w x.chr hs vc (cl_chs W) CL.nil (cl_chs P) vt trivial n1 n2 (Nat.zero_le _) n4 n5 (bf (show w ≠ 8 by omega)) (bt hw) m1 m2 (cut_len a) hq1 hq2 (cl_chs W) n2 (clo_chr _ _ _ _ _)
      rw [← tok]
      exact this
noncomputable def WmOk (wm : List (Str × AV)) : Prop := wm = [] ∨ ∃ x, wm = [(("way" : Str), AV.int x)]
theorem SOk.wmd {g : G3} {rm gm wm : List (Str × AV)} (h : SOk g rm gm []) (hw : WmOk wm) : SOk g rm gm wm := by
  rcases hw with rfl | ⟨x, rfl⟩
  · exact h
  · exact h.way x
noncomputable abbrev l1T (p : Params) : PySem.Expr := whTest (nthS (stepB p) 0)
noncomputable abbrev l1B (p : Params) : List Stmt := whBody (nthS (stepB p) 0)
theorem Go.loop {p : Params} {n : Nat} {ae : AEnv} {t : PySem.Expr} {b : List Stmt} {σ σ' : St} {fl : AFlow} (h : Go (eLoop (RN p n) ae t b) σ fl σ') : Go ((RN p (n + 1)).loop ae t b) σ fl σ' := h
theorem Go.br {β : Type} {x : EM Bool} {y z : EM β} {σ σ₁ σ₂ : St} {b : Bool} {v : β} (h1 : Go x σ b σ₁) (h2 : Go (_root_.cond b y z) σ₁ v σ₂) : Go (eBr x y z) σ v σ₂ := show Go (EM.bind x fun b => EM.bind (EM.dec b) fun b => _root_.cond b y z) σ v σ₂ from Go.bind h1 (Go.bind Go.dec h2)
section
variable {p : Params} {n : Nat} {ae : AEnv} {t : PySem.Expr} {b : List Stmt} {σ σ₁ σ₂ σ₃ : St} {fl : AFlow} {v : AV}
theorem Go.loopEnd (h1 : Go ((RN p n).tst ae t) σ false σ₁) : Go ((RN p (n + 1)).loop ae t b) σ .next σ₁ := Go.loop (Go.br h1 Go.ret)
theorem Go.turnAny {fl' : AFlow} (h1 : Go ((RN p n).tst ae t) σ true σ₁) (h2 : Go ((RN p n).exs ae b) σ₁ fl' σ₂) (h3 : Go (onFl fl' ((RN p n).loop ae t b) (fun v => EM.ret (.ret v)) EM.fail) σ₂ fl σ₃) : Go ((RN p (n + 1)).loop ae t b) σ fl σ₃ :=
  Go.loop (Go.br h1 (show Go (EM.bind ((RN p n).exs ae b) fun fl => onFl fl ((RN p n).loop ae t b) (fun v => EM.ret (.ret v)) EM.fail) σ₁ fl σ₃ from Go.bind h2 h3))
theorem Go.loopNext (h1 : Go ((RN p n).tst ae t) σ true σ₁) (h2 : Go ((RN p n).exs ae b) σ₁ .next σ₂) (h3 : Go ((RN p n).loop ae t b) σ₂ fl σ₃) : Go ((RN p (n + 1)).loop ae t b) σ fl σ₃ := Go.turnAny h1 h2 h3
theorem Go.loopRet (h1 : Go ((RN p n).tst ae t) σ true σ₁) (h2 : Go ((RN p n).exs ae b) σ₁ (.ret v) σ₂) : Go ((RN p (n + 1)).loop ae t b) σ (.ret v) σ₂ := Go.turnAny h1 h2 Go.ret
end
theorem loop1 {p : Params} {g : G3} {rm gm : List (Str × AV)} (hs : SOk g rm gm []) : ∀ (rest done : List Int) (wm : List (Str × AV)) (hwm : WmOk wm) (N : Nat) (hN : 42 + rest.length ≤ N) (it : Cell) (seen tb : List AV) (W P R : List Sg) (v : IV g it seen W P R tb)
    (hb : seen.length + rest.length ≤ 700) (hsh : Short (W ++ (P ++ R))) (hws : g.ws = (done ++ rest).map AV.int),
    let o := spUntil rest W (P ++ R)
    ∃ wm' it' P' R', WmOk wm' ∧ o.U = P' ++ R' ∧ ItOk g it' R' ∧ (match o.rs with
      | none => Go ((RN p N).loop (sAe p) (l1T p) (l1B p)) (stepS p g rm gm wm (tO it seen W P done.length tb)) .next (stepS p g rm gm wm' (tO it' (seen ++ o.ev) o.W P' (done ++ rest).length tb))
      | some rs => o.W ≠ [] ∧ ∃ r1, rest = r1 ++ rs ∧ Go ((RN p N).loop (sAe p) (l1T p) (l1B p)) (stepS p g rm gm wm (tO it seen W P done.length tb)) (.ret (stepV p))
          (stepS p g rm gm wm' ⟨it', seen ++ o.ev, [], (done ++ r1).length, [], chs P', tb ++ [tokW (cutTy (done ++ r1).length) o.W]⟩)) := by
  intro rest
  induction rest with
  | nil =>
    intro done wm hwm N hN it seen tb W P R v hb hsh hws
    obtain ⟨m, rfl⟩ : ∃ m, N = (m + 40) + 1 := ⟨N - 41, by omega⟩
    obtain ⟨vi, vc, vt, vn, vb, vw⟩ := v
    have k2 := cl_chs W
    have k4 := cl_chs P
    have n2 : (chs W).length ≤ 900 := by rw [chs_len]; omega
    have n4 : (chs P).length ≤ 900 := by rw [chs_len]; omega
    refine ⟨wm, it, P, R, hwm, rfl, vi, ?_⟩
    show Go ((RN p (m + 40 + 1)).loop (sAe p) (l1T p) (l1B p)) _ _ (stepS p g rm gm wm (tO it (seen ++ []) W P _ tb))
    have t := g_lt p g rm gm wm it seen (chs W) (chs W) (chs P) tb done.length m 0 noneV (hs.wmd hwm) hs.nws vc k2 k2 k4 vt vi.und (by omega) n2 n2 n4 (by omega)
    have hd : decide ((done.length : Int) < Int.ofNat g.ws.length) = false := by
      rw [hws]; simp
    rw [hd] at t
    rw [List.append_nil, List.append_nil]
    exact Go.loopEnd t
  | cons w rest ih =>
    intro done wm hwm N hN it seen tb W P R v hb hsh hws
    obtain ⟨m, rfl⟩ : ∃ m, N = (m + 40) + 1 := ⟨N - 41, by simp only [List.length_cons] at hN; omega⟩
    have v' := v
    obtain ⟨vi, vc, vt, vn, vb, vw⟩ := v
    have k2 := cl_chs W
    have k4 := cl_chs P
    have n2 : (chs W).length ≤ 900 := by rw [chs_len]; omega
    have n4 : (chs P).length ≤ 900 := by rw [chs_len]; omega
    have t := g_lt p g rm gm wm it seen (chs W) (chs W) (chs P) tb done.length m 0 noneV (hs.wmd hwm) hs.nws vc k2 k2 k4 vt vi.und (by omega) n2 n2 n4 (by omega)
    have hlen : done.length < g.ws.length := by rw [hws]; simp
    have hd : decide ((done.length : Int) < Int.ofNat g.ws.length) = true := by simpa using hlen
    rw [hd] at t
    have hget : g.ws[(done.length : Int).toNat]? = some (AV.int w) := by
      rw [hws]; simp
    have hn := hs.nws
    have first : Go ((RN p (m + 40)).exs (sAe p) ((l1B p).take 2)) (stepS p g rm gm wm (tO it seen W P done.length tb)) .next (stepS p g rm gm [("way", .int w)] (tO it seen W P (done.length + 1) tb)) := by
      rcases hwm with rfl | ⟨x, rfl⟩
      · exact g_a0 p g rm gm it seen (chs W) (chs W) (chs P) tb done.length w m 0 noneV hs hs.nws vc k2 k2 k4 vt vi.und (by omega) n2 n2 n4 (by omega) (Int.natCast_nonneg _) (show (done.length : Int) < 1000000 by omega) hget
      · exact g_a1 p g rm gm it seen (chs W) (chs W) (chs P) tb done.length w m x noneV hs hs.nws vc k2 k2 k4 vt vi.und (by omega) n2 n2 n4 (by omega) (Int.natCast_nonneg _) (show (done.length : Int) < 1000000 by omega) hget
    by_cases hc : w = 7 ∧ W ≠ []
    · have e : spUntil (w :: rest) W (P ++ R) = ⟨[], W, P ++ R, some rest⟩ := by unfold spUntil; rw [if_pos hc]
      rw [e]
      refine ⟨[("way", .int w)], it, P, R, .inr ⟨w, rfl⟩, rfl, vi, hc.2, [w], rfl, ?_⟩
      have c := go_cut (p := p) (rm := rm) (gm := gm) hs (N := m + 40) (by omega) (a := (done.length : Int) + 1) v' hc.1 hc.2 (fun s h => hsh s (List.mem_append_left _ h))
      have hl : ((done ++ [w]).length : Int) = (done.length : Int) + 1 := by simp
      rw [List.append_nil, hl]
      exact Go.loopRet t (go_split (n := m + 39) first c)
    · have e : spUntil (w :: rest) W (P ++ R) = ⟨(spStep w W (P ++ R)).1 ++ (spUntil rest (spStep w W (P ++ R)).2.1 (spStep w W (P ++ R)).2.2).ev, (spUntil rest (spStep w W (P ++ R)).2.1 (spStep w W (P ++ R)).2.2).W,
          (spUntil rest (spStep w W (P ++ R)).2.1 (spStep w W (P ++ R)).2.2).U, (spUntil rest (spStep w W (P ++ R)).2.1 (spStep w W (P ++ R)).2.2).rs⟩ := by
        conv => lhs; unfold spUntil
        rw [if_neg hc]
      rw [e]
      obtain ⟨it1, P1, R1, hU, hi1, turn⟩ := go_turn (p := p) (rm := rm) (gm := gm) hs (N := m + 40) (by omega) (a := (done.length : Int) + 1) v' hc
      obtain ⟨l1, l2, l3⟩ := spStep_len w W (P ++ R)
      have hmem := spStep_mem w W (P ++ R)
      rw [hU] at l2 hmem ⊢
      have hl : (((done ++ [w]).length : Nat) : Int) = (done.length : Int) + 1 := by simp
      have ih' := ih (done ++ [w]) [("way", .int w)] (.inr ⟨w, rfl⟩) (m + 40) (by simp only [List.length_cons] at hN; omega) it1 (seen ++ (spStep w W (P ++ R)).1) tb (spStep w W (P ++ R)).2.1 P1 R1
        ⟨hi1, vc.app l3, vt, by rw [List.length_append]; simp only [List.length_cons] at hb; omega, vb, by simp only [List.length_append] at l2; omega⟩
        (by rw [List.length_append]; simp only [List.length_cons] at hb; omega) (fun s h => hsh s (hmem s h)) (by rw [hws]; simp)
      rw [hl] at ih'
      obtain ⟨wm', it', P', R', h1, h2, h3, h4⟩ := ih'
      refine ⟨wm', it', P', R', h1, h2, h3, ?_⟩
      have body := go_split (n := m + 39) first turn
      split at h4
      · rename_i hrs
        rw [hrs]
        dsimp only
        rw [List.append_assoc, List.append_assoc] at h4
        exact Go.loopNext t body h4
      · rename_i rs hrs
        rw [hrs]
        dsimp only
        obtain ⟨hW, r1, rfl, h5⟩ := h4
        refine ⟨hW, w :: r1, rfl, ?_⟩
        rw [List.append_assoc, List.append_assoc] at h5
        exact Go.loopNext t body h5
noncomputable abbrev l2T (p : Params) : PySem.Expr := whTest (nthS (stepB p) 1)
noncomputable abbrev l2B (p : Params) : List Stmt := whBody (nthS (stepB p) 1)
theorem pass2 (p : Params) (m : Nat) (σ : St) (ds : List Wd) : (RN p (m + 40)).exs (sAe p) (whBody (nthS (stepB p) 1)) (σ, ds) = some (.next, (σ, ds), []) := by kernel_rfl
theorem loop2 {p : Params} {g : G3} {rm gm wm : List (Str × AV)} (hs : SOk g rm gm wm) : ∀ (n : Nat) (N : Nat) (hN : 42 + n ≤ N) (it : Cell) (seen tb : List AV) (W P R : List Sg) (a : Int) (v : IV g it seen W P R tb) (hn : P.length + R.length = n) (hb : seen.length + n ≤ 790),
    Go ((RN p N).loop (sAe p) (l2T p) (l2B p)) (stepS p g rm gm wm (tO it seen W P a tb)) .next (stepS p g rm gm wm (tO .lend (seen ++ ((P ++ R).map Sg.sgn ++ [noneV])) (W ++ (P ++ R)) [] a tb)) := by
  intro n
  induction n with
  | zero =>
    intro N hN it seen tb W P R a v hn hb
    obtain ⟨m, rfl⟩ : ∃ m, N = (m + 40) + 1 := ⟨N - 41, by omega⟩
    obtain ⟨vi, vc, vt, vn, vb, vw⟩ := v
    have hP : P = [] := List.eq_nil_of_length_eq_zero (by omega)
    have hR : R = [] := List.eq_nil_of_length_eq_zero (by omega)
    subst hP hR
    have k2 := cl_chs W
    have n2 : (chs W).length ≤ 900 := by rw [chs_len]; omega
    show Go ((RN p (m + 40 + 1)).loop (sAe p) (l2T p) (l2B p)) _ _ (stepS p g rm gm wm (tO .lend (seen ++ [noneV]) (W ++ []) [] a tb))
    rw [List.append_nil]
    rcases it_nil vi with rfl | ⟨j, rfl, hj⟩
    · have t := g_z4 p g rm gm wm .lend seen (chs W) (chs W) [] tb a m 0 noneV hs vc k2 k2 CL.nil vt trivial (by omega) n2 n2 (Nat.zero_le _) (by omega)
      exact Go.loopEnd t
    · have t := g_z3 p g rm gm wm .lend seen (chs W) (chs W) [] tb a j m 0 noneV hs vc k2 k2 CL.nil vt trivial (by omega) n2 n2 (Nat.zero_le _) (by omega) hj
      exact Go.loopEnd t
  | succ n ih =>
    intro N hN it seen tb W P R a v hn hb
    obtain ⟨m, rfl⟩ : ∃ m, N = (m + 40) + 1 := ⟨N - 41, by omega⟩
    obtain ⟨vi, vc, vt, vn, vb, vw⟩ := v
    have k2 := cl_chs W
    have n2 : (chs W).length ≤ 900 := by rw [chs_len]; omega
    have go : ∀ it' x P' R', P ++ R = x :: (P' ++ R') → P'.length + R'.length = n → ItOk g it' R' → Go ((RN p (m + 40)).tst (sAe p) (l2T p)) (stepS p g rm gm wm (tO it seen W P a tb)) true (stepS p g rm gm wm (tO it' (seen ++ [x.sgn]) (W ++ [x]) P' a tb)) →
        Go ((RN p ((m + 40) + 1)).loop (sAe p) (l2T p) (l2B p)) (stepS p g rm gm wm (tO it seen W P a tb)) .next (stepS p g rm gm wm (tO .lend (seen ++ ((P ++ R).map Sg.sgn ++ [noneV])) (W ++ (P ++ R)) [] a tb)) := by
      intro it' x P' R' e hl hi t
      have r := ih (m + 40) (by omega) it' (seen ++ [x.sgn]) tb (W ++ [x]) P' R' a ⟨hi, vc.app (cl_sgs [x]), vt, by rw [List.length_append, List.length_singleton]; omega, vb, by rw [List.length_append, List.length_singleton]; omega⟩ hl (by rw [List.length_append, List.length_singleton]; omega)
      rw [e]
      rw [List.append_assoc, List.append_assoc] at r
      exact Go.loopNext t ⟨[], fun ds => ⟨[], pass2 p m _ ds, trivial⟩⟩ r
    have fin : ∀ x : Sg, chs (W ++ [x]) = chs W ++ [x.chr] := fun x => List.map_append ..
    cases P with
    | cons x P =>
      refine go it x P R rfl (by simp only [List.length_cons] at hn; omega) vi ?_
      have n4 : (chs P).length ≤ 900 := by rw [chs_len]; simp only [List.length_cons] at vw; omega
      have t := g_z1 p g rm gm wm it seen (chs W) (chs W) (chs P) tb a x.c x.f x.r x.k x.l m 0 noneV hs vc k2 k2 (cl_chs P) vt vi.und (by omega) n2 n2 n4 (by omega)
      show Go _ _ _ (stepS p g rm gm wm ⟨it, seen ++ [x.sgn], chs (W ++ [x]), a, chs (W ++ [x]), chs P, tb⟩)
      rw [fin]
      exact t
    | nil =>
      cases R with
      | nil => simp at hn
      | cons x R =>
        obtain ⟨j, rfl, hj, hi'⟩ := it_cons vi
        refine go (.liter 32 (j + 1)) x [] R rfl (by simp only [List.length_cons, List.length_nil] at hn ⊢; omega) hi' ?_
        have t := g_z2 p g rm gm wm .lend seen (chs W) (chs W) [] tb a x.c x.f x.r x.k x.l j m 0 noneV hs vc k2 k2 CL.nil vt trivial (by omega) n2 n2 (Nat.zero_le _) (by omega) hj
        show Go _ _ _ (stepS p g rm gm wm ⟨.liter 32 (j + 1), seen ++ [x.sgn], chs (W ++ [x]), a, chs (W ++ [x]), [], tb⟩)
        rw [fin]
        exact t
noncomputable def restTb : List Sg → List AV
  | [] => []
  | x :: W => [tokW "rest" (x :: W)]
theorem restTb_cl : ∀ W, CL (restTb W)
  | [] => CL.nil
  | x :: W => CL.cons (tokW_cl _ _) CL.nil
theorem go_tail {p : Params} {g : G3} {rm gm wm : List (Str × AV)} (hs : SOk g rm gm wm) {N : Nat} (hN : 40 ≤ N) {seen : List AV} {W : List Sg} {a : Int} (vc : CL seen) (vn : seen.length ≤ 895) (hsh : Short W) (hw : W.length ≤ 100) :
    ∃ ct, CL ct ∧ ct.length ≤ 100 ∧ Go ((RN p N).exs (sAe p) ((stepB p).drop 2)) (stepS p g rm gm wm (tO .lend seen W [] a [])) (.ret (finV p)) (stepS p g rm gm wm ⟨.lend, seen ++ [refV] ++ [noneV], chs W, a, ct, [], restTb W⟩) := by
  obtain ⟨m, rfl⟩ : ∃ m, N = m + 40 := ⟨N - 40, by omega⟩
  cases W with
  | nil =>
    exact ⟨[], CL.nil, Nat.zero_le _, g_e0 p g rm gm wm .lend seen [] [] [] [] a m 0 noneV hs vc CL.nil CL.nil CL.nil CL.nil trivial (by omega) (Nat.zero_le _) (Nat.zero_le _) (Nat.zero_le _) (Nat.zero_le _)⟩
  | cons x W =>
    have hq1 := attrs_some p (x :: W)
    have hq2 : JoinOk (Str.ofString "") (attrStrs (KK p) (Str.ofString "char") (chs (x :: W))) = true := by rw [attrs_chs]; exact joinOk _ hsh hw
    have n2 : (chs W).length ≤ 900 := by rw [chs_len]; simp only [List.length_cons] at hw; omega
    have t := g_e1 p g rm gm wm .lend seen (chs W) [] [] [] a x.c x.f x.r x.k x.l (chs W) m 0 x.chr hs vc (cl_chs W) CL.nil CL.nil CL.nil trivial (by omega) n2 (Nat.zero_le _) (Nat.zero_le _) (Nat.zero_le _) hq1 hq2 (cl_chs W) n2 (clo_chr _ _ _ _ _)
    have tok : AV.slo 47 [AV.slo 79 [AV.int x.k, AV.str x.f, AV.int x.l, AV.int x.r, AV.val Value.none], AV.str (Str.ofString "rest"), AV.str (Txt.join (Str.ofString "") (attrStrs (KK p) (Str.ofString "char") (chs (x :: W))))] = tokW "rest" (x :: W) := by
      rw [attrs_chs]; rfl
    refine ⟨[], CL.nil, Nat.zero_le _, ?_⟩
    show Go _ _ _ (stepS p g rm gm wm ⟨.lend, _, _, _, _, _, [tokW "rest" (x :: W)]⟩)
    rw [← tok]
    exact t
section
variable (p : Params)
noncomputable def stepFi : FnI := ⟨fdArgs (nthS (runB p) 3), stepB p, fdScope (nthS (runB p) 3), [("ways", 14), ("take", 21), ("step", 20), ("held", 18), ("h", 17), ("finish", 16), ("at", 15)], [], .none⟩
theorem step_call (n : Nat) : (RN p (n + 1)).call (stepV p) [] [] = eFn (RN p n) (stepFi p) [] [] := by kernel_rfl
theorem step_fn (n : Nat) : eFn (RN p n) (stepFi p) [] [] = eFnB (RN p n) (stepFi p) [] := by kernel_rfl
theorem step_fb : (stepFi p).body = stepB p := by kernel_rfl
theorem step_enter (g : G3) (rm gm : List (Str × AV)) (t : T3) (ds : List Wd) : eEnter (stepFi p).scope (stepFi p).closure (stepFi p).code [] (genS p g rm gm t, ds) = some (sAe p, (stepS p g rm gm [] t, ds), []) := by kernel_rfl
theorem step_norm (g : G3) (rm gm wm : List (Str × AV)) (t : T3) (v : AV) (ds : List Wd) : eNorm 36 v (stepS p g rm gm wm t, .norm :: ds) = some (v, (genS p g rm gm t, ds), [Und 36 v ∧ ∀ q ∈ genC p g rm gm t, UndC 36 q.2]) := by kernel_rfl
theorem step_body : stepB p = nthS (stepB p) 0 :: nthS (stepB p) 1 :: (stepB p).drop 2 := by kernel_rfl
theorem step_one0 (n : Nat) : eOne (KK p) (ext3 p) (RN p n) (xrecN (KK p) (ext3 p) n) (sAe p) (nthS (stepB p) 0) = (RN p n).loop (sAe p) (l1T p) (l1B p) := by kernel_rfl
theorem step_one1 (n : Nat) : eOne (KK p) (ext3 p) (RN p n) (xrecN (KK p) (ext3 p) n) (sAe p) (nthS (stepB p) 1) = (RN p n).loop (sAe p) (l2T p) (l2B p) := by kernel_rfl
noncomputable def gm0Ok (x : AV) (h : Und 36 x) : NsOk 36 (gmOf p x) := .cons (und_step p (Nat.le_refl _)) (.cons (.ref (by decide)) (.cons (.ref (by decide)) (.cons h .nil)))
end
structure TC (t : T3) : Prop where
  it : UndC 36 t.it
  seen : CL t.seen
  held : CL t.held
  ct : CL t.ct
  pb : CL t.pb
  tb : CL t.tb
theorem TC.und {t : T3} (h : TC t) {p : Params} {g : G3} {rm gm wm : List (Str × AV)} (hs : SOk g rm gm wm) : ∀ q ∈ genC p g rm gm t, UndC 36 q.2 := und_gen (Nat.le_refl _) hs.gok hs.rm hs.gm h.it h.seen h.held h.ct h.pb h.tb
theorem spUntil_ok : ∀ (rest : List Int) (W U : List Sg), (spUntil rest W U).ev.length ≤ rest.length ∧ (spUntil rest W U).W.length + (spUntil rest W U).U.length ≤ W.length + U.length ∧ CL (spUntil rest W U).ev ∧
    (∀ s, s ∈ (spUntil rest W U).W ++ (spUntil rest W U).U → s ∈ W ++ U) ∧ ∀ rs, (spUntil rest W U).rs = some rs → rs.length < rest.length ∧ (spUntil rest W U).ev.length + rs.length < rest.length
  | [], W, U => ⟨Nat.le_refl _, Nat.le_refl _, CL.nil, fun s h => h, fun rs h => nomatch h⟩
  | w :: rest, W, U => by
    unfold spUntil
    split
    · exact ⟨Nat.zero_le _, Nat.le_refl _, CL.nil, fun s h => h, fun rs h => by cases h; exact ⟨Nat.lt_succ_self _, by show 0 + rest.length < rest.length + 1; omega⟩⟩
    · obtain ⟨a1, a2, a3⟩ := spStep_len w W U
      have a4 := spStep_mem w W U
      obtain ⟨b1, b2, b3, b4, b5⟩ := spUntil_ok rest (spStep w W U).2.1 (spStep w W U).2.2
      refine ⟨by simp only [List.length_append, List.length_cons]; omega, by dsimp only; omega, a3.app b3, fun s h => a4 s (b4 s h), fun rs h => ?_⟩
      obtain ⟨c1, c2⟩ := b5 rs h
      exact ⟨by simp only [List.length_cons]; omega, by simp only [List.length_append, List.length_cons]; omega⟩
theorem go_step {p : Params} {g : G3} {rm gm : List (Str × AV)} (hs : SOk g rm gm []) (rest done : List Int) (N : Nat) (hN : 70 + rest.length ≤ N) (it : Cell) (seen : List AV) (W P R : List Sg) (v : IV g it seen W P R []) (hb : seen.length + rest.length ≤ 600) (hk : W.length + P.length + R.length ≤ 20) (hsh : Short (W ++ (P ++ R))) (hws : g.ws = (done ++ rest).map AV.int) :
    let o := spUntil rest W (P ++ R)
    ∃ t, TC t ∧ (match o.rs with
      | none => t.seen = seen ++ o.ev ++ (o.U.map Sg.sgn ++ [noneV]) ++ [refV] ++ [noneV] ∧ t.tb = restTb (o.W ++ o.U) ∧ Go ((RN p (N + 1)).call (stepV p) [] []) (genS p g rm gm (tO it seen W P done.length [])) (finV p) (genS p g rm gm t)
      | some rs => o.W ≠ [] ∧ ∃ it' P' R' r1, rest = r1 ++ rs ∧ o.U = P' ++ R' ∧ ItOk g it' R' ∧ t = tO it' (seen ++ o.ev) [] P' (done ++ r1).length [tokW (cutTy (done ++ r1).length) o.W] ∧ Go ((RN p (N + 1)).call (stepV p) [] []) (genS p g rm gm (tO it seen W P done.length [])) (stepV p) (genS p g rm gm t)) := by
  intro o
  obtain ⟨n, rfl⟩ : ∃ n, N = n + 1 := ⟨N - 1, by omega⟩
  have vw := v.nw
  obtain ⟨o1, o2, o3, o4, o5⟩ := spUntil_ok rest W (P ++ R)
  have call : ∀ x t wm, Und 36 x → TC t → Go ((RN p (n + 1)).exs (sAe p) (stepB p)) (stepS p g rm gm [] (tO it seen W P done.length [])) (.ret x) (stepS p g rm gm wm t) →
      Go ((RN p (n + 1 + 1)).call (stepV p) [] []) (genS p g rm gm (tO it seen W P done.length [])) x (genS p g rm gm t) := by
    intro x t wm hx ht h
    refine Go.eq (step_call p (n + 1)) (Go.eq (step_fn p (n + 1)) ?_)
    refine Go.st (f := fun σ => EM.bind (eEnter (stepFi p).scope (stepFi p).closure (stepFi p).code []) fun ae => EM.bind ((RN p (n + 1)).exs ae (stepFi p).body) fun fl => onFl fl (eNorm σ.n noneAV) (eNorm σ.n) EM.fail) ?_
    rw [step_fb]
    exact (Go.of [] (fun ds => step_enter p g rm gm _ ds) trivial).bind (h.bind (Go.of [.norm] (fun ds => step_norm p g rm gm wm t x ds) ⟨⟨hx, ht.und hs⟩, trivial⟩))
  have l1 := loop1 (p := p) hs rest done [] (.inl rfl) n (by omega) it seen [] W P R v (by omega) hsh hws
  obtain ⟨wm', it', P', R', h1, h2, h3, h4⟩ := l1
  have hexs : ∀ {σ σ' : St} {fl : AFlow}, Go (eExecs (eOne (KK p) (ext3 p) (RN p n) (xrecN (KK p) (ext3 p) n) (sAe p)) (nthS (stepB p) 0 :: nthS (stepB p) 1 :: (stepB p).drop 2)) σ fl σ' → Go ((RN p (n + 1)).exs (sAe p) (stepB p)) σ fl σ' := fun {σ σ' fl} h => by
    rw [← step_body p] at h
    exact h
  split at h4
  · rename_i hrs
    show ∃ t, TC t ∧ (match o.rs with | none => _ | some rs => _)
    rw [show o.rs = none from hrs]
    dsimp only
    have hU : o.U = P' ++ R' := h2
    have hU2 : o.U.length = P'.length + R'.length := by rw [hU, List.length_append]
    have w0 : o.W.length + o.U.length ≤ 20 := by have : o.W.length + o.U.length ≤ _ := o2; simp only [List.length_append] at this; omega
    have s1 : (seen ++ o.ev).length ≤ 600 := by rw [List.length_append]; have : o.ev.length ≤ rest.length := o1; omega
    have w1 : o.W.length + P'.length + R'.length ≤ 100 := by omega
    have l2 := loop2 (p := p) (rm := rm) (gm := gm) (hs.wmd h1) (P'.length + R'.length) n (by omega) it' (seen ++ o.ev) [] o.W P' R' (done ++ rest).length ⟨h3, v.cs.app o3, CL.nil, by omega, Nat.zero_le _, w1⟩ rfl (by omega)
    rw [← hU] at l2
    have hsW : Short (o.W ++ o.U) := fun s h => hsh s (o4 s h)
    have s2 : (seen ++ o.ev ++ (o.U.map Sg.sgn ++ [noneV])).length ≤ 895 := by
      simp only [List.length_append, List.length_map, List.length_singleton] at s1 ⊢
      omega
    have w2 : (o.W ++ o.U).length ≤ 100 := by rw [List.length_append]; omega
    have cl2 : CL (seen ++ o.ev ++ (o.U.map Sg.sgn ++ [noneV])) := (v.cs.app o3).app ((cl_sgs _).app (CL.cons (fun _ => .val _) CL.nil))
    obtain ⟨ct, c1, c2, tail⟩ := go_tail (p := p) (rm := rm) (gm := gm) (hs.wmd h1) (N := n + 1) (by omega) (a := (done ++ rest).length) cl2 s2 hsW w2
    refine ⟨⟨.lend, seen ++ o.ev ++ (o.U.map Sg.sgn ++ [noneV]) ++ [refV] ++ [noneV], chs (o.W ++ o.U), (done ++ rest).length, ct, [], restTb (o.W ++ o.U)⟩, ?_, rfl, rfl, call (finV p) _ wm' (und_fin p (Nat.le_refl _)) ?_ (hexs (σ' := stepS p g rm gm wm' ⟨.lend, seen ++ o.ev ++ (o.U.map Sg.sgn ++ [noneV]) ++ [refV] ++ [noneV], chs (o.W ++ o.U), (done ++ rest).length, ct, [], restTb (o.W ++ o.U)⟩) ?_)⟩
    · refine ⟨trivial, (cl2.app (CL.cons (fun N => CL.tup (CL.cons (fun _ => .str _) (CL.cons (fun _ => .val _) CL.nil)) N) CL.nil)).app (CL.cons (fun _ => .val _) CL.nil), cl_chs _, c1, CL.nil, restTb_cl _⟩
    · refine ⟨trivial, (cl2.app (CL.cons (fun N => CL.tup (CL.cons (fun _ => .str _) (CL.cons (fun _ => .val _) CL.nil)) N) CL.nil)).app (CL.cons (fun _ => .val _) CL.nil), cl_chs _, c1, CL.nil, restTb_cl _⟩
    · exact Go.cons (Go.eq (step_one0 p n) h4) (Go.cons (Go.eq (step_one1 p n) l2) tail)
  · rename_i rs hrs
    show ∃ t, TC t ∧ (match o.rs with | none => _ | some rs => _)
    rw [show o.rs = some rs from hrs]
    dsimp only
    obtain ⟨hW, r1, hr, h5⟩ := h4
    have ht : TC (tO it' (seen ++ o.ev) [] P' (done ++ r1).length [tokW (cutTy (done ++ r1).length) o.W]) := ⟨h3.und, v.cs.app o3, CL.nil, CL.nil, cl_chs _, CL.cons (tokW_cl _ _) CL.nil⟩
    refine ⟨_, ht, hW, it', P', R', r1, hr, h2, h3, rfl, call (stepV p) _ wm' (und_step p (Nat.le_refl _)) ht (hexs (σ' := stepS p g rm gm wm' (tO it' (seen ++ o.ev) [] P' (done ++ r1).length [tokW (cutTy (done ++ r1).length) o.W])) ?_)⟩
    exact Go.consR (Go.eq (step_one0 p n) h5)
section
variable (p : Params)
noncomputable abbrev rsS : Stmt := nthS (gtx p).rest 0
theorem rest_exs (n : Nat) : (RN p (n + 1)).exs (gAe p) (gtx p).rest = eExecs (eOne (KK p) (ext3 p) (RN p n) (xrecN (KK p) (ext3 p) n) (gAe p)) [rsS p] := by kernel_rfl
theorem rest_one (n : Nat) : eOne (KK p) (ext3 p) (RN p n) (xrecN (KK p) (ext3 p) n) (gAe p) (rsS p) = EM.bind ((RN p n).ev (gAe p) (asgVal (rsS p))) fun v => EM.bind (eAssign (KK p) (RN p n) (gAe p) v (asgTgt (rsS p))) fun _ => EM.ret .next := by kernel_rfl
theorem rest_ev (n : Nat) : (RN p (n + 1)).ev (gAe p) (asgVal (rsS p)) = EM.bind ((RN p n).ev (gAe p) (stE p)) fun f => eCallWith (KK p) (RN p n) (gAe p) f [] [] [] := by kernel_rfl
theorem call_S (n : Nat) : eCallWith (KK p) (RN p n) (gAe p) (stepV p) [] [] [] = EM.bind (eArgs2 (RN p n) (gAe p) [] []) fun q => (RN p n).call (stepV p) ([] ++ q.1) q.2 := by kernel_rfl
theorem call_F (n : Nat) : eCallWith (KK p) (RN p n) (gAe p) (finV p) [] [] [] = EM.bind (eArgs2 (RN p n) (gAe p) [] []) fun q => (RN p n).call (finV p) ([] ++ q.1) q.2 := by kernel_rfl
theorem args_nil (n : Nat) (ev : Ev) : eArgs2 (RN p n) (gAe p) [] [] ev = some (([], []), ev, []) := by kernel_rfl
end
section
variable {p : Params} {g : G3} {rm : List (Str × AV)} {t : T3} {m : Nat}
theorem gg1S : Go ((RN p (m + 10)).tst (gAe p) (gtx p).test1) (genS p g rm (gmOf p (stepV p)) t) true (genS p g rm (gmOf p (stepV p)) t) := Go.of (cs := []) [] (fun _ => by kernel_rfl) trivial
theorem gg1F : Go ((RN p (m + 10)).tst (gAe p) (gtx p).test1) (genS p g rm (gmOf p (finV p)) t) true (genS p g rm (gmOf p (finV p)) t) := Go.of (cs := []) [] (fun _ => by kernel_rfl) trivial
theorem gg1N : Go ((RN p (m + 10)).tst (gAe p) (gtx p).test1) (genS p g rm (gmOf p noneV) t) false (genS p g rm (gmOf p noneV) t) := Go.of (cs := []) [] (fun _ => by kernel_rfl) trivial
theorem ggnS : Go ((RN p (m + 10)).ev (gAe p) (stE p)) (genS p g rm (gmOf p (stepV p)) t) (stepV p) (genS p g rm (gmOf p (stepV p)) t) := Go.of (cs := []) [] (fun _ => by kernel_rfl) trivial
theorem ggnF : Go ((RN p (m + 10)).ev (gAe p) (stE p)) (genS p g rm (gmOf p (finV p)) t) (finV p) (genS p g rm (gmOf p (finV p)) t) := Go.of (cs := []) [] (fun _ => by kernel_rfl) trivial
theorem ggaS {v : AV} : Go (eAssign (KK p) (RN p (m + 10)) (gAe p) v (asgTgt (rsS p))) (genS p g rm (gmOf p (stepV p)) t) PUnit.unit (genS p g rm (gmOf p v) t) := Go.of (cs := []) [] (fun _ => by kernel_rfl) trivial
theorem ggaF {v : AV} : Go (eAssign (KK p) (RN p (m + 10)) (gAe p) v (asgTgt (rsS p))) (genS p g rm (gmOf p (finV p)) t) PUnit.unit (genS p g rm (gmOf p v) t) := Go.of (cs := []) [] (fun _ => by kernel_rfl) trivial
theorem gg2a {x : AV} (h : t.tb = []) : Go ((RN p (m + 10)).tst (gAe p) (gtx p).test2) (genS p g rm (gmOf p x) t) false (genS p g rm (gmOf p x) t) := by
  obtain ⟨it, seen, held, a, ct, pb, tb⟩ := t
  cases h
  exact Go.of (cs := [0 < 4611686018427387904]) [] (fun _ => by kernel_rfl) ⟨by decide, trivial⟩
theorem gg2b {x tok : AV} (h : t.tb = [tok]) : Go ((RN p (m + 10)).tst (gAe p) (gtx p).test2) (genS p g rm (gmOf p x) t) true (genS p g rm (gmOf p x) t) := by
  obtain ⟨it, seen, held, a, ct, pb, tb⟩ := t
  cases h
  exact Go.of (cs := [1 < 4611686018427387904]) [] (fun _ => by kernel_rfl) ⟨by decide, trivial⟩
theorem ggi {x tok : AV} (h : t.tb = [tok]) : Go ((RN p (m + 10)).ev (gAe p) (gtx p).item) (genS p g rm (gmOf p x) t) tok (genS p g rm (gmOf p x) { t with tb := [] }) := by
  obtain ⟨it, seen, held, a, ct, pb, tb⟩ := t
  cases h
  exact Go.of (cs := [1 ≤ 1000000, [tok] = [tok]]) [.cut [] tok] (fun _ => by kernel_rfl) ⟨by decide, rfl, trivial⟩
theorem ggfin (hs : SOk g rm (gmOf p (finV p)) []) (ht : TC t) : Go ((RN p (m + 10)).call (finV p) [] []) (genS p g rm (gmOf p (finV p)) t) noneV (genS p g rm (gmOf p (finV p)) t) :=
  Go.of (cs := [Und 36 noneV ∧ ∀ q ∈ genC p g rm (gmOf p (finV p)) t, UndC 36 q.2]) [.norm] (fun _ => by kernel_rfl) ⟨⟨.val _, ht.und hs⟩, trivial⟩
theorem restS {v : AV} {σ : T3} (h : Go ((RN p (m + 10)).call (stepV p) [] []) (genS p g rm (gmOf p (stepV p)) t) v (genS p g rm (gmOf p (stepV p)) σ)) : Go ((RN p (m + 12)).exs (gAe p) (gtx p).rest) (genS p g rm (gmOf p (stepV p)) t) .next (genS p g rm (gmOf p v) σ) := by
  refine Go.eq (rest_exs p (m + 11)) (Go.stmt (Go.eq (rest_one p (m + 11)) (Go.bind (b := v) (σ' := genS p g rm (gmOf p (stepV p)) σ) ?_ (Go.bind (ggaS (m := m + 1)) Go.ret))))
  refine Go.eq (rest_ev p (m + 10)) (ggnS.bind (Go.eq (call_S p (m + 10)) ((Go.of [] (fun ds => args_nil p (m + 10) _) trivial).bind h)))
theorem restF {v : AV} {σ : T3} (h : Go ((RN p (m + 10)).call (finV p) [] []) (genS p g rm (gmOf p (finV p)) t) v (genS p g rm (gmOf p (finV p)) σ)) : Go ((RN p (m + 12)).exs (gAe p) (gtx p).rest) (genS p g rm (gmOf p (finV p)) t) .next (genS p g rm (gmOf p v) σ) := by
  refine Go.eq (rest_exs p (m + 11)) (Go.stmt (Go.eq (rest_one p (m + 11)) (Go.bind (b := v) (σ' := genS p g rm (gmOf p (finV p)) σ) ?_ (Go.bind (ggaF (m := m + 1)) Go.ret))))
  refine Go.eq (rest_ev p (m + 10)) (ggnF.bind (Go.eq (call_F p (m + 10)) ((Go.of [] (fun ds => args_nil p (m + 10) _) trivial).bind h)))
end
section
variable {p : Params} {r : Rec} {t : GText} {gae : AEnv} {σ σ' σ'' : St} {f : Nat} {o : Option AV} {v : AV}
theorem seg1_go (h1 : Go (r.tst gae t.test1) σ true σ) (h2 : Go (gSeg2 r t gae f) σ o σ') : Go (gSeg1 r t gae (f + 1)) σ o σ' := Go.br h1 h2
theorem seg1_end (h1 : Go (r.tst gae t.test1) σ false σ) : Go (gSeg1 r t gae (f + 1)) σ none σ := Go.br h1 Go.ret
theorem seg2_item (h1 : Go (r.tst gae t.test2) σ true σ) (h2 : Go (r.ev gae t.item) σ v σ') : Go (gSeg2 r t gae (f + 1)) σ (some v) σ' := Go.br h1 (show Go (EM.bind (r.ev gae t.item) fun v => EM.ret (some v)) σ (some v) σ' from Go.bind h2 Go.ret)
theorem seg2_rest (h1 : Go (r.tst gae t.test2) σ false σ) (h2 : Go (r.exs gae t.rest) σ .next σ') (h3 : Go (gSeg1 r t gae f) σ' o σ'') : Go (gSeg2 r t gae (f + 1)) σ o σ'' := Go.br h1 (show Go (EM.bind (r.exs gae t.rest) fun fl => onFl fl (gSeg1 r t gae f) (fun _ => EM.fail) EM.fail) σ o σ'' from Go.bind h2 h3)
end
theorem seg_fin {p : Params} {g : G3} {rm : List (Str × AV)} {t : T3} {m f : Nat} (hs : SOk g rm (gmOf p (finV p)) []) (ht : TC t) (hb : t.tb = []) : Go (gSeg2 (RN p (m + 12)) (gtx p) (gAe p) (f + 2)) (genS p g rm (gmOf p (finV p)) t) none (genS p g rm (gmOf p noneV) t) :=
  seg2_rest (gg2a (m := m + 2) hb) (restF (ggfin hs ht)) (seg1_end (gg1N (m := m + 2)))
theorem T3.same {t : T3} (h : t.tb = []) : { t with tb := [] } = t := by cases t; cases h; rfl
theorem seg_step {p : Params} {g : G3} {rm : List (Str × AV)} (hs : ∀ x, Und 36 x → SOk g rm (gmOf p x) []) (rest done : List Int) (m : Nat) (hm : 61 + rest.length ≤ m) (it : Cell) (seen : List AV) (W P R : List Sg) (v : IV g it seen W P R []) (hb : seen.length + rest.length ≤ 600) (hk : W.length + P.length + R.length ≤ 20) (hsh : Short (W ++ (P ++ R))) (hws : g.ws = (done ++ rest).map AV.int) (f : Nat) :
    let o := spUntil rest W (P ++ R)
    (match o.rs with
      | none => ∃ t, TC t ∧ t.tb = [] ∧ t.seen = seen ++ o.ev ++ (o.U.map Sg.sgn ++ [noneV]) ++ [refV] ++ [noneV] ∧ (match restTb (o.W ++ o.U) with
        | [] => Go (gSeg2 (RN p (m + 12)) (gtx p) (gAe p) (f + 6)) (genS p g rm (gmOf p (stepV p)) (tO it seen W P done.length [])) none (genS p g rm (gmOf p noneV) t)
        | tok :: _ => Go (gSeg2 (RN p (m + 12)) (gtx p) (gAe p) (f + 6)) (genS p g rm (gmOf p (stepV p)) (tO it seen W P done.length [])) (some tok) (genS p g rm (gmOf p (finV p)) t))
      | some rs => o.W ≠ [] ∧ ∃ it' P' R' r1, rest = r1 ++ rs ∧ o.U = P' ++ R' ∧ ItOk g it' R' ∧
          Go (gSeg2 (RN p (m + 12)) (gtx p) (gAe p) (f + 6)) (genS p g rm (gmOf p (stepV p)) (tO it seen W P done.length [])) (some (tokW (cutTy (done ++ r1).length) o.W)) (genS p g rm (gmOf p (stepV p)) (tO it' (seen ++ o.ev) [] P' (done ++ r1).length []))) := by
  intro o
  obtain ⟨t, ht, h⟩ := go_step (p := p) (g := g) (rm := rm) (gm := gmOf p (stepV p)) (hs _ (und_step p (Nat.le_refl _))) rest done (m + 9) (by omega) it seen W P R v hb hk hsh hws
  have e0 : (tO it seen W P done.length ([] : List AV)).tb = [] := rfl
  have ho : o = spUntil rest W (P ++ R) := rfl
  rw [← ho] at h
  clear_value o
  split at h
  · rename_i hrs
    obtain ⟨h1, h2, h3⟩ := h
    try rw [hrs]
    try dsimp only
    have t0 : TC { t with tb := [] } := ⟨ht.it, ht.seen, ht.held, ht.ct, ht.pb, CL.nil⟩
    refine ⟨{ t with tb := [] }, t0, rfl, h1, ?_⟩
    split
    · rename_i e
      rw [e] at h2
      rw [T3.same h2] at t0 ⊢
      exact seg2_rest (gg2a (m := m + 2) e0) (restS h3) (seg1_go (gg1F (m := m + 2)) (seg_fin (hs _ (und_fin p (Nat.le_refl _))) ht h2))
    · rename_i tok tl e
      have e2 : tl = [] := by
        cases q : o.W ++ o.U with
        | nil => rw [q] at e; cases e
        | cons x l => rw [q] at e; cases e; rfl
      rw [e, e2] at h2
      exact seg2_rest (gg2a (m := m + 2) e0) (restS h3) (seg1_go (gg1F (m := m + 2)) (seg2_item (gg2b (m := m + 2) h2) (ggi (m := m + 2) h2)))
  · rename_i rs hrs
    try rw [hrs]
    try dsimp only
    obtain ⟨hW, it', P', R', r1, e1, e2, e3, e4, h3⟩ := h
    refine ⟨hW, it', P', R', r1, e1, e2, e3, ?_⟩
    have h2 : t.tb = [tokW (cutTy (done ++ r1).length) o.W] := by rw [e4]; rfl
    have r := seg2_rest (f := f + 5) (gg2a (m := m + 2) e0) (restS h3) (seg1_go (gg1S (m := m + 2)) (seg2_item (gg2b (m := m + 2) h2) (ggi (m := m + 2) h2)))
    have e5 : { t with tb := [] } = tO it' (seen ++ o.ev) [] P' (done ++ r1).length [] := by rw [e4]; rfl
    rw [e5] at r
    exact r
noncomputable def evTok (ty : Str) : List Sg → AV
  | [] => noneV
  | x :: W => .tup [.str ty, .str (jn (x :: W)), .str x.f, .int x.r, .int x.k, .int x.l]
noncomputable def evRest : List Sg → List AV
  | [] => []
  | x :: W => [evTok "rest" (x :: W)]
theorem evTok_cl (ty : Str) (W : List Sg) : ∀ N, Und N (evTok ty W) := fun N => by
  cases W with
  | nil => exact .val _
  | cons x W => exact CL.tup (CL.cons (fun _ => .str _) (CL.cons (fun _ => .str _) (CL.cons (fun _ => .str _) (CL.cons (fun _ => .int _) (CL.cons (fun _ => .int _) (CL.cons (fun _ => .int _) CL.nil)))))) N
noncomputable def spAll : Nat → List Int → List Sg → List Sg → List AV
  | _, [], W, U => (U.map Sg.sgn ++ [noneV]) ++ [refV] ++ [noneV] ++ evRest (W ++ U)
  | a, w :: rest, W, U => if w = 7 ∧ W ≠ [] then evTok (cutTy (a + 1 : Nat)) W :: spAll (a + 1) rest [] U
    else (spStep w W U).1 ++ spAll (a + 1) rest (spStep w W U).2.1 (spStep w W U).2.2
theorem spAll_cons (a : Nat) (w : Int) (rest : List Int) (W U : List Sg) : spAll a (w :: rest) W U = if w = 7 ∧ W ≠ [] then evTok (cutTy (a + 1 : Nat)) W :: spAll (a + 1) rest [] U
    else (spStep w W U).1 ++ spAll (a + 1) rest (spStep w W U).2.1 (spStep w W U).2.2 := rfl
theorem spAll_until : ∀ (rest : List Int) (a : Nat) (W U : List Sg),
    match (spUntil rest W U).rs with
    | none => spAll a rest W U = (spUntil rest W U).ev ++ ((spUntil rest W U).U.map Sg.sgn ++ [noneV]) ++ [refV] ++ [noneV] ++ evRest ((spUntil rest W U).W ++ (spUntil rest W U).U)
    | some rs => ∀ r1, rest = r1 ++ rs → spAll a rest W U = (spUntil rest W U).ev ++ evTok (cutTy (a + r1.length : Nat)) (spUntil rest W U).W :: spAll (a + r1.length) rs [] (spUntil rest W U).U
  | [], a, W, U => by
    unfold spUntil spAll
    simp only [List.nil_append]
  | w :: rest, a, W, U => by
    have ih := spAll_until rest (a + 1) (spStep w W U).2.1 (spStep w W U).2.2
    have h5 := (spUntil_ok rest (spStep w W U).2.1 (spStep w W U).2.2).2.2.2.2
    rw [spAll_cons]
    unfold spUntil
    by_cases h : w = 7 ∧ W ≠ []
    · simp only [if_pos h]
      intro r1 e
      have : r1 = [w] := List.append_cancel_right (bs := rest) (by rw [← e]; rfl)
      subst this
      rfl
    · simp only [if_neg h]
      generalize spUntil rest (spStep w W U).2.1 (spStep w W U).2.2 = o at ih h5
      obtain ⟨oe, oW, oU, ors⟩ := o
      cases ors with
      | none =>
        dsimp only at ih ⊢
        rw [ih]
        simp only [List.append_assoc]
      | some rs =>
        dsimp only at ih ⊢
        intro r1 e1
        cases r1 with
        | nil =>
          have h5 := h5 rs rfl
          rw [List.nil_append] at e1
          have := congrArg List.length e1
          rw [List.length_cons] at this
          omega
        | cons y r1 =>
          rw [List.cons_append] at e1
          injection e1 with e1 e2
          rw [ih r1 e2, List.length_cons]
          rw [show a + (r1.length + 1) = a + 1 + r1.length by omega]
          simp only [List.append_assoc]
noncomputable def rm0 : List (Str × AV) := [("signs", .ref 6), ("chars", .ref 32)]
noncomputable def rmT (z : AV) : List (Str × AV) := [("signs", .ref 6), ("chars", .ref 32), ("t", z)]
section
variable (p : Params) (g : G3) (rm gm : List (Str × AV)) (t : T3)
theorem cutV_id (v : AV) (ds : List Wd) : eCutV 36 v (genS p g rm gm t, ds) = some ((), (genS p g rm gm t, ds), [Und 36 v ∧ ∀ q ∈ genC p g rm gm t, UndC 36 q.2]) := by kernel_rfl
theorem cutTo_id (ds : List Wd) : eCutTo 36 35 (genS p g rm gm t, ds) = some ((), (genS p g rm gm t, ds), [∀ q ∈ genC p g rm gm t, UndC 36 q.2]) := by kernel_rfl
end
theorem tgt_nt (p : Params) : simpleTarget (forTgt (nthS (runB p) 6)) = true := by kernel_rfl
noncomputable def RmOk (rm : List (Str × AV)) : Prop := rm = rm0 ∨ ∃ z, rm = rmT z ∧ Und 36 z
theorem RmOk.ns {rm : List (Str × AV)} (h : RmOk rm) : NsOk 36 rm := by
  rcases h with rfl | ⟨z, rfl, h⟩
  · exact .cons (.ref (by decide)) (.cons (.ref (by decide)) .nil)
  · exact .cons (.ref (by decide)) (.cons (.ref (by decide)) (.cons h .nil))
noncomputable abbrev gF (p : Params) (L k : Nat) (b : Bool) : EM AFlow := gFor (KK p) (RN p L) (gtx p) (gAe p) (cAe p) (forTgt (nthS (runB p) 6)) (forBody (nthS (runB p) 6)) 36 10 k b
noncomputable abbrev gHd (p : Params) (L : Nat) (b : Bool) : EM (Option AV) := cond b (gSeg0 (RN p L) (gtx p) (gAe p) 10) (gSeg2 (RN p L) (gtx p) (gAe p) 10)
theorem gF_go {p : Params} {L k : Nat} {b : Bool} {o : Option AV} {σ σ₁ σ' : St} {fl : AFlow} (h1 : Go (gHd p L b) σ o σ₁) (h2 : Go (onSome o (fun v => EM.bind (gBody (KK p) (RN p L) (cAe p) (forTgt (nthS (runB p) 6)) (forBody (nthS (runB p) 6)) 36 (gAe p).loc v) fun _ => gF p L k false) (EM.ret .next)) σ₁ fl σ') : Go (gF p L (k + 1) b) σ fl σ' :=
  show Go (EM.bind (gHd p L b) fun o => onSome o (fun v => EM.bind (gBody (KK p) (RN p L) (cAe p) (forTgt (nthS (runB p) 6)) (forBody (nthS (runB p) 6)) 36 (gAe p).loc v) fun _ => gF p L k false) (EM.ret .next)) σ fl σ' from Go.bind h1 h2
theorem gt_go {p : Params} {g : G3} {rm gm : List (Str × AV)} {t : T3} {m : Nat} {ty : Str} {x : Sg} {W : List Sg} (h : RmOk rm) : Go (eAssign (KK p) (RN p (m + 20)) (cAe p) (tokW ty (x :: W)) (forTgt (nthS (runB p) 6))) (genS p g rm gm t) PUnit.unit (genS p g (rmT (tokW ty (x :: W))) gm t) := by
  rcases h with rfl | ⟨z, rfl, h⟩
  · exact Go.of (cs := []) [] (fun _ => by kernel_rfl) trivial
  · exact Go.of (cs := []) [] (fun _ => by kernel_rfl) trivial
theorem gfor_turn {p : Params} {g : G3} {rm gm : List (Str × AV)} {σ : St} {t : T3} {m k : Nat} {ty : Str} {W : List Sg} {b : Bool} {fl : AFlow} {σ' : St} (hW : W ≠ []) (hrm : RmOk rm) (hg : GOk g) (hgm : NsOk 36 gm) (ht : TC t) (hn : t.seen.length ≤ 900)
    (h1 : Go (gHd p (m + 20) b) σ (some (tokW ty W)) (genS p g rm gm t))
    (h2 : Go (gF p (m + 20) k false) (genS p g (rmT (tokW ty W)) gm { t with seen := t.seen ++ [evTok ty W] }) fl σ') : Go (gF p (m + 20) (k + 1) b) σ fl σ' := by
  have hz : Und 36 (tokW ty W) := tokW_cl ty W 36
  have hrm' : RmOk (rmT (tokW ty W)) := .inr ⟨_, rfl, hz⟩
  have ht' : TC { t with seen := t.seen ++ [evTok ty W] } := ⟨ht.it, ht.seen.app (CL.cons (evTok_cl _ _) CL.nil), ht.held, ht.ct, ht.pb, ht.tb⟩
  have u : ∀ q ∈ genC p g rm gm t, UndC 36 q.2 := und_gen (Nat.le_refl _) hg hrm.ns hgm ht.it ht.seen ht.held ht.ct ht.pb ht.tb
  have u' : ∀ q ∈ genC p g (rmT (tokW ty W)) gm { t with seen := t.seen ++ [evTok ty W] }, UndC 36 q.2 := und_gen (Nat.le_refl _) hg hrm'.ns hgm ht'.it ht'.seen ht'.held ht'.ct ht'.pb ht'.tb
  cases W with
  | nil => exact absurd rfl hW
  | cons x W =>
    refine gF_go h1 (Go.sm (Go.bind (b := ()) (σ' := genS p g (rmT (tokW ty (x :: W))) gm { t with seen := t.seen ++ [evTok ty (x :: W)] }) ?_ h2))
    refine Go.bind (b := ()) (σ' := genS p g rm gm t) (by rw [tgt_nt]; exact Go.ret) ?_
    refine Go.bind (b := ()) (σ' := genS p g rm gm t) (Go.of [] (fun ds => cutV_id p g rm gm t _ ds) ⟨⟨hz, u⟩, trivial⟩) ?_
    refine Go.bind (b := .next) (σ' := genS p g (rmT (tokW ty (x :: W))) gm { t with seen := t.seen ++ [evTok ty (x :: W)] }) (Go.bind (gt_go hrm) ?_) ?_
    · exact Go.of (cs := [6 ≤ 1000000, t.seen.length ≤ 1000000]) [] (fun _ => by kernel_rfl) ⟨by decide, by omega, trivial⟩
    · exact Go.of [] (fun ds => cutTo_id p g _ gm _ ds) ⟨u', trivial⟩
theorem gfor_none {p : Params} {L k : Nat} {b : Bool} {σ σ' : St} (h1 : Go (gHd p L b) σ none σ') : Go (gF p L (k + 1) b) σ .next σ' := gF_go h1 Go.ret
theorem restTb_ev {W : List Sg} {tok : AV} {tl : List AV} (h : restTb W = tok :: tl) : W ≠ [] ∧ tok = tokW "rest" W ∧ evRest W = [evTok "rest" W] := by
  cases W with
  | nil => cases h
  | cons x W => cases h; exact ⟨List.cons_ne_nil _ _, rfl, rfl⟩
theorem restTb_nil {W : List Sg} (h : restTb W = []) : evRest W = [] := by
  cases W with
  | nil => rfl
  | cons x W => cases h
theorem gfor_go {p : Params} {g : G3} (hg : GOk g) (hnw : g.ws.length ≤ 1000) (m : Nat) : ∀ (n : Nat) (rest done : List Int) (hl : rest.length < n) (hm : 53 + rest.length ≤ m) (rm : List (Str × AV)) (hrm : RmOk rm) (it : Cell) (seen : List AV) (W P R : List Sg) (v : IV g it seen W P R []) (hb : seen.length + rest.length ≤ 600) (hk : W.length + P.length + R.length ≤ 20) (hsh : Short (W ++ (P ++ R))) (hws : g.ws = (done ++ rest).map AV.int) (k : Nat) (hkk : n + 1 ≤ k)
    (b : Bool) (f : Nat) (σ : St) (hf : ∀ o σ', Go (gSeg2 (RN p (m + 20)) (gtx p) (gAe p) (f + 6)) (genS p g rm (gmOf p (stepV p)) (tO it seen W P done.length [])) o σ' → Go (gHd p (m + 20) b) σ o σ'),
    ∃ rm' t, RmOk rm' ∧ TC t ∧ t.seen = seen ++ spAll done.length rest W (P ++ R) ∧ Go (gF p (m + 20) k b) σ .next (genS p g rm' (gmOf p noneV) t) := by
  intro n
  induction n with
  | zero => intro rest done hl; omega
  | succ n ih =>
    intro rest done hl hm rm hrm it seen W P R v hb hk hsh hws k hkk b f σ hf
    obtain ⟨k, rfl⟩ : ∃ k', k = k' + 1 := ⟨k - 1, by omega⟩
    have hs : ∀ rm, RmOk rm → ∀ x, Und 36 x → SOk g rm (gmOf p x) [] := fun rm h x hx => ⟨hg, h.ns, gm0Ok p x hx, .nil, hnw⟩
    have seg := seg_step (p := p) (g := g) (rm := rm) (hs rm hrm) rest done (m + 8) (by omega) it seen W P R v hb hk hsh hws f
    obtain ⟨o1, o2, o3, o4, o5⟩ := spUntil_ok rest W (P ++ R)
    have sp := spAll_until rest done.length W (P ++ R)
    dsimp only at seg
    generalize spUntil rest W (P ++ R) = o at seg sp o1 o2 o3 o4 o5
    obtain ⟨oe, oW, oU, ors⟩ := o
    cases ors with
    | none =>
      dsimp only at seg sp o1 o2 o3 o4
      obtain ⟨t, ht, hb0, hseen, h⟩ := seg
      cases e : restTb (oW ++ oU) with
      | nil =>
        rw [e] at h
        dsimp only at h
        refine ⟨rm, t, hrm, ht, ?_, gfor_none (hf _ _ h)⟩
        rw [hseen, sp, restTb_nil e]
        simp only [List.append_assoc, List.append_nil]
      | cons tok tl =>
        rw [e] at h
        dsimp only at h
        obtain ⟨e1, e2, e3⟩ := restTb_ev e
        subst e2
        obtain ⟨k, rfl⟩ : ∃ k', k = k' + 1 := ⟨k - 1, by omega⟩
        have hn : t.seen.length ≤ 900 := by
          rw [hseen]
          simp only [List.length_append, List.length_map, List.length_singleton] at o2 ⊢
          omega
        have hz : Und 36 (tokW "rest" (oW ++ oU)) := tokW_cl _ _ 36
        have hrm' : RmOk (rmT (tokW "rest" (oW ++ oU))) := .inr ⟨_, rfl, hz⟩
        have ht' : TC { t with seen := t.seen ++ [evTok "rest" (oW ++ oU)] } := ⟨ht.it, ht.seen.app (CL.cons (evTok_cl _ _) CL.nil), ht.held, ht.ct, ht.pb, ht.tb⟩
        refine ⟨rmT (tokW "rest" (oW ++ oU)), { t with seen := t.seen ++ [evTok "rest" (oW ++ oU)] }, hrm', ht', ?_, ?_⟩
        · show t.seen ++ [evTok "rest" (oW ++ oU)] = _
          rw [hseen, sp, e3]
          simp only [List.append_assoc]
        · exact gfor_turn (m := m) e1 hrm hg (gm0Ok p _ (und_fin p (Nat.le_refl _))) ht hn (hf _ _ h) (gfor_none (seg_fin (m := m + 8) (f := 8) (hs _ hrm' _ (und_fin p (Nat.le_refl _))) ht' hb0))
    | some rs =>
      dsimp only at seg sp o1 o2 o3 o4
      obtain ⟨hW, it', P', R', r1, e1, e2, e3, h⟩ := seg
      obtain ⟨c1, c2⟩ := o5 rs rfl
      dsimp only at c2
      have hz : Und 36 (tokW (cutTy (done ++ r1).length) oW) := tokW_cl _ _ 36
      have hrm' : RmOk (rmT (tokW (cutTy (done ++ r1).length) oW)) := .inr ⟨_, rfl, hz⟩
      have ht : TC (tO it' (seen ++ oe) [] P' (done ++ r1).length []) := ⟨e3.und, v.cs.app o3, CL.nil, CL.nil, cl_chs _, CL.nil⟩
      have hn : (seen ++ oe).length ≤ 900 := by rw [List.length_append]; omega
      have vv : IV g it' (seen ++ oe ++ [evTok (cutTy (done ++ r1).length) oW]) [] P' R' [] := by
        refine ⟨e3, (v.cs.app o3).app (CL.cons (evTok_cl _ _) CL.nil), CL.nil, ?_, Nat.zero_le _, ?_⟩
        · simp only [List.length_append, List.length_singleton]; omega
        · rw [e2] at o2
          simp only [List.length_append, List.length_nil] at o2 ⊢
          omega
      obtain ⟨rm', t, q1, q2, q3, q4⟩ := ih rs (done ++ r1) (by omega) (by omega) _ hrm' it' (seen ++ oe ++ [evTok (cutTy (done ++ r1).length) oW]) [] P' R' vv
        (by simp only [List.length_append, List.length_singleton]; omega)
        (by rw [e2] at o2; simp only [List.length_append, List.length_nil] at o2 ⊢; omega)
        (fun s h => hsh s (o4 s (List.mem_append_right _ (by rw [e2]; exact h))))
        (by rw [List.append_assoc, ← e1]; exact hws) k (by omega) false 4 _ (fun o σ' h => h)
      refine ⟨rm', t, q1, q2, ?_, gfor_turn (m := m) hW hrm hg (gm0Ok p _ (und_step p (Nat.le_refl _))) ht hn (hf _ _ h) q4⟩
      rw [q3, sp r1 e1, e2, List.length_append]
      simp only [List.append_assoc, List.singleton_append]
noncomputable def clO : PySem.Expr → PySem.Expr
  | .Call (.Attribute o _ _) _ _ _ => o
  | e => e
noncomputable def clA : PySem.Expr → List PySem.Expr
  | .Call _ as _ _ => as
  | _ => []
noncomputable def run4 (p : Params) (g : G3) : St := ⟨36, (35, .ns [("start_state", stepV p), ("characters", .ref 34), ("self", .ref 23)]) :: (34, .liter 32 0) :: (run3 p g).objs⟩
noncomputable def run3b (p : Params) (g : G3) : St := ⟨35, (34, .liter 32 0) :: (run3 p g).objs⟩
noncomputable abbrev forI (p : Params) : PySem.Expr := forIter (nthS (runB p) 6)
noncomputable def cm5 (z1 z2 z3 z4 z5 : AV) : List (Str × AV) := [("sign", z1), ("file", z2), ("row", z3), ("column", z4), ("size", z5)]
noncomputable def cmS (x : Sg) : List (Str × AV) := cm5 (.str x.c) (.str x.f) (.int x.r) (.int x.k) (.int x.l)
section
variable (p : Params) (g : G3)
theorem pc_fo (m : Nat) (ds : List Wd) : (RN p (m + 10)).ev (cAe p) (clO (forI p)) (run3 p g, ds) = some (.ref 23, (run3 p g, ds), []) := by kernel_rfl
theorem pc_fm (ds : List Wd) : eMethod (KK p) (.ref 23) "tokenize" (run3 p g, ds) = some ((.val (.ref 163), [.ref 23]), (run3 p g, ds), []) := by kernel_rfl
theorem pc_fa (m : Nat) (ds : List Wd) : eArgs2 (RN p (m + 10)) (cAe p) (clA (forI p)) [] (run3 p g, ds) = some (([.ref 34, stepV p], []), (run3b p g, ds), []) := by kernel_rfl
theorem pc_gp (m : Nat) (ds : List Wd) : (RN p (m + 10)).exs (gAe p) (gtx p).pre (run4 p g, ds) = some (.next, (genS p g rm0 (gmOf p (stepV p)) ⟨.liter 32 0, [], [], 0, [], [], []⟩, ds), [3 ≤ 100]) := by kernel_rfl
theorem pc_cr (rm gm : List (Str × AV)) (it : Cell) (seen held ct pb tb : List AV) (at_ : Int) (m : Nat) (ds : List Wd) : (RN p (m + 10)).exs (cAe p) [nthS (runB p) 7] (genS p g rm gm ⟨it, seen, held, at_, ct, pb, tb⟩, ds) = some (.ret (.ref 30), (genS p g rm gm ⟨it, seen, held, at_, ct, pb, tb⟩, ds), []) := by kernel_rfl
theorem pc_cx (rm gm : List (Str × AV)) (it : Cell) (seen held ct pb tb : List AV) (at_ : Int) (ds : List Wd) : eNorm 13 (.ref 30) (genS p g rm gm ⟨it, seen, held, at_, ct, pb, tb⟩, .sel [30] :: ds) = some (.ref 30, (runE p g seen, ds), []) := by kernel_rfl
theorem pc_k1 (m : Nat) (ds : List Wd) : (RN p (m + 10)).ev (cAe p) (compIter (chE p)) (run1 p g, ds) = some (.ref 6, (run1 p g, ds), []) := by kernel_rfl
noncomputable def run1b : St := ⟨32, (31, .liter 6 0) :: (run1 p g).objs⟩
noncomputable def run1c : St := ⟨33, (32, .list []) :: (run1b p g).objs⟩
theorem pc_k2 (ds : List Wd) : eIterOf (.ref 6) (run1 p g, ds) = some (.ref 31, (run1b p g, ds), []) := by kernel_rfl
theorem pc_k3 (ds : List Wd) : eNewList [] (run1b p g, ds) = some (.ref 32, (run1c p g, ds), [0 ≤ 1000000]) := by kernel_rfl
theorem pc_k4 (ds : List Wd) : EM.push (.ns []) (run1c p g, ds) = some (33, (run2 p g (.liter 6 0) [] [], ds), []) := by kernel_rfl
theorem pc_k5 (ch : List AV) (cm : List (Str × AV)) (j : Nat) (ds : List Wd) : isLit (.ref 31) (run2 p g (.liter 6 j) ch cm, ds) = some ((), (run2 p g (.liter 6 j) ch cm, ds), []) := by kernel_rfl
theorem pc_kn (cm : List (Str × AV)) (j : Nat) (ch : List AV) (x : Sg) (ds : List Wd) : eNextOwn (compTgt (chE p)) (.ref 31) (run2 p g (.liter 6 j) ch cm, .cut [] x.sgn :: ds) = some (some x.sgn, (run2 p g (.liter 6 (j + 1)) ch cm, ds), [g.ss[j]? = some x.sgn]) := by kernel_rfl
theorem pc_ke (cm : List (Str × AV)) (j : Nat) (ch : List AV) (ds : List Wd) : eNextOwn (compTgt (chE p)) (.ref 31) (run2 p g (.liter 6 j) ch cm, .b false :: ds) = some (none, (run2 p g .lend ch cm, ds), [g.ss[j]? = none]) := by kernel_rfl
theorem pc_ks0 (j : Nat) (ch : List AV) (x : Sg) (m : Nat) (ds : List Wd) : eAssign (KK p) (RN p (m + 10)) (chAe p) x.sgn (compTgt (chE p)) (run2 p g (.liter 6 j) ch [], ds) = some (PUnit.unit, (run2 p g (.liter 6 j) ch (cmS x), ds), []) := by kernel_rfl
theorem pc_ks1 (j : Nat) (ch : List AV) (x : Sg) (z1 z2 z3 z4 z5 : AV) (m : Nat) (ds : List Wd) : eAssign (KK p) (RN p (m + 10)) (chAe p) x.sgn (compTgt (chE p)) (run2 p g (.liter 6 j) ch (cm5 z1 z2 z3 z4 z5), ds) = some (PUnit.unit, (run2 p g (.liter 6 j) ch (cmS x), ds), []) := by kernel_rfl
theorem pc_kv (j : Nat) (ch : List AV) (x : Sg) (m : Nat) (ds : List Wd) : (RN p (m + 20)).ev (chAe p) (compElt (chE p)) (run2 p g (.liter 6 j) ch (cmS x), .norm :: .norm :: .norm :: .norm :: ds) = some (x.chr, (run2 p g (.liter 6 j) ch (cmS x), ds),
  [Und 36 (.val .none) ∧ ∀ q, q ∈ (35, Cell.sinst 79 34 [some (.int x.k), some (.str x.f), some (.int x.l), some (.int x.r), some (.val .none)]) :: (34, .dict []) :: (run2 p g (.liter 6 j) ch (cmS x)).objs → UndC 36 q.2,
   (34 ≤ 34 + 1 ∧ 34 ≤ 34 ∧ 34 ≤ 36) ∧ Und 34 (.slo 79 [.int x.k, .str x.f, .int x.l, .int x.r, .val .none]) ∧ ∀ q, q ∈ (run2 p g (.liter 6 j) ch (cmS x)).objs → UndC 34 q.2, 0 ≤ 100, 1 ≤ 100,
   Und 36 (.val .none) ∧ ∀ q, q ∈ (35, Cell.inst 138 34) :: (34, .dict [("char", .str x.c), ("loc", .slo 79 [.int x.k, .str x.f, .int x.l, .int x.r, .val .none])]) :: (run2 p g (.liter 6 j) ch (cmS x)).objs → UndC 36 q.2,
   (34 ≤ 34 + 1 ∧ 34 ≤ 34 ∧ 34 ≤ 36) ∧ Und 34 x.chr ∧ ∀ q, q ∈ (run2 p g (.liter 6 j) ch (cmS x)).objs → UndC 34 q.2]) := by kernel_rfl
theorem pc_kap (j : Nat) (ch : List AV) (v : AV) (cm : List (Str × AV)) (ds : List Wd) : eAppend [.ref 32, v] (run2 p g (.liter 6 j) ch cm, ds) = some (.val .none, (run2 p g (.liter 6 j) (ch ++ [v]) cm, ds), [ch.length ≤ 1000000]) := by kernel_rfl
theorem pc_kb1 (ch : List AV) (cm : List (Str × AV)) (ds : List Wd) : (EM.bind (eBind (cAe p) "chars" (.ref 32)) fun _ => EM.bind (delCell 33) fun _ => EM.ret AFlow.next) (run2 p ⟨g.xs, g.ns, g.ss, g.cs, g.ws, ch⟩ .lend ch cm, ds) = some (.next, (run3 p ⟨g.xs, g.ns, g.ss, g.cs, g.ws, ch⟩, ds), []) := by kernel_rfl
end
theorem und_take' (p : Params) {N : Nat} (h : 34 ≤ N) : Und N (takeV p) := Und.mono (N := 34) (by unfold takeV; exact .clo (by decide)) h
theorem und_step' (p : Params) {N : Nat} (h : 34 ≤ N) : Und N (stepV p) := Und.mono (N := 34) (by unfold stepV; exact .clo (by decide)) h
theorem und_fin' (p : Params) {N : Nat} (h : 34 ≤ N) : Und N (finV p) := Und.mono (N := 34) (by unfold finV; exact .clo (by decide)) h
theorem und_run1 {p : Params} {g : G3} {N : Nat} (hN : 34 ≤ N) (hg : GOk g) : ∀ q ∈ (run1 p g).objs, UndC N q.2 := by
  have one : CL [.int 0] := CL.cons (fun _ => .int _) CL.nil
  unfold run1
  refine (und_cons (und_list CL.nil) (und_cons (und_list CL.nil) (und_cons (und_list one) (und_cons (und_list CL.nil) (und_cons (und_list CL.nil) (und_cons (und_list CL.nil) (und_cons (show 22 < N by omega)
    (und_cons (und_dict (.cons (.ref (by omega)) (.cons (.ref (by omega)) (.cons (.ref (by omega)) .nil)))) (und_cons (und_take' p hN) (und_cons (und_step' p hN) (und_cons (show Und N _ from .ref (by omega)) (und_cons (show Und N _ from .ref (by omega)) (und_cons (show Und N _ from .ref (by omega))
    (und_cons (und_fin' p hN) (und_cons (show Und N _ from .ref (by omega)) (und_cons (show Und N _ from .ref (by omega)) (und_cons (und_ns (.cons (.ref (by omega)) .nil)) (und_cons (und_list hg.ws) (und_cons trivial (und_cons (und_list hg.cs) (und_cons (und_list hg.ss) (und_cons (und_list hg.ns)
    (und_cons (und_ns (.cons (.ref (by omega)) (.cons (.ref (by omega)) (.cons (.ref (by omega)) (.cons (.ref (by omega)) .nil))))) (und_cons trivial (und_cons trivial (und_cons trivial und_nil))))))))))))))))))))))))))
theorem und_run2 {p : Params} {g : G3} {N j : Nat} {ch : List AV} {x : Sg} (hN : 34 ≤ N) (hg : GOk g) (hc : CL ch) : ∀ q ∈ (run2 p g (.liter 6 j) ch (cmS x)).objs, UndC N q.2 := by
  unfold run2
  exact und_cons (und_ns (.cons (.str _) (.cons (.str _) (.cons (.int _) (.cons (.int _) (.cons (.int _) .nil)))))) (und_cons (und_list hc) (und_cons (show 6 < N by omega) (und_run1 hN hg)))
theorem clo_loc (x : Sg) : ∀ N, Und N (.slo 79 [.int x.k, .str x.f, .int x.l, .int x.r, .val .none]) := CL.slo (CL.cons (fun _ => .int _) (CL.cons (fun _ => .str _) (CL.cons (fun _ => .int _) (CL.cons (fun _ => .int _) (CL.cons (fun _ => .val _) CL.nil)))))
noncomputable def CmOk (cm : List (Str × AV)) : Prop := cm = [] ∨ ∃ z1 z2 z3 z4 z5, cm = cm5 z1 z2 z3 z4 z5
section
variable {p : Params} {g : G3} {j : Nat} {ch : List AV} {x : Sg} {m : Nat}
theorem kv_go (hg : GOk g) (hc : CL ch) : Go ((RN p (m + 20)).ev (chAe p) (compElt (chE p))) (run2 p g (.liter 6 j) ch (cmS x)) x.chr (run2 p g (.liter 6 j) ch (cmS x)) := by
  refine Go.of [.norm, .norm, .norm, .norm] (fun ds => pc_kv p g j ch x m ds) ?_
  have u6 := und_run2 (p := p) (N := 36) (j := j) (x := x) (by decide) hg hc
  have u4 := und_run2 (p := p) (N := 34) (j := j) (x := x) (by decide) hg hc
  refine ⟨⟨.val _, und_cons ⟨by decide, fun y hy => ?_⟩ (und_cons (und_dict .nil) u6)⟩, ⟨by decide, clo_loc x _, u4⟩, by decide, by decide, ⟨.val _, und_cons (show 34 < 36 by decide) (und_cons (und_dict (.cons (.str _) (.cons (clo_loc x _) .nil))) u6)⟩, ⟨by decide, clo_chr _ _ _ _ _ _, u4⟩, trivial⟩
  have : y = .int x.k ∨ y = .str x.f ∨ y = .int x.l ∨ y = .int x.r ∨ y = .val .none := by simpa using hy
  rcases this with rfl | rfl | rfl | rfl | rfl
  · exact .int _
  · exact .str _
  · exact .int _
  · exact .int _
  · exact .val _
theorem ks_go {cm : List (Str × AV)} (h : CmOk cm) : Go (eAssign (KK p) (RN p (m + 10)) (chAe p) x.sgn (compTgt (chE p))) (run2 p g (.liter 6 j) ch cm) PUnit.unit (run2 p g (.liter 6 j) ch (cmS x)) := by
  rcases h with rfl | ⟨z1, z2, z3, z4, z5, rfl⟩
  · exact Go.of [] (fun ds => pc_ks0 p g j ch x m ds) trivial
  · exact Go.of [] (fun ds => pc_ks1 p g j ch x z1 z2 z3 z4 z5 m ds) trivial
end
theorem ch_loop {p : Params} {g : G3} (hg : GOk g) : ∀ (R done : List Sg) (N : Nat) (hN : 21 + R.length ≤ N) (ch : List AV) (hc : CL ch) (hn : ch.length + R.length ≤ 900) (cm : List (Str × AV)) (hcm : CmOk cm) (hss : g.ss = (done ++ R).map Sg.sgn),
    ∃ cm', Go ((RN p N).comp (chAe p) (compElt (chE p)) (compTgt (chE p)) (.ref 31) (.ref 32)) (run2 p g (.liter 6 done.length) ch cm) .next (run2 p g .lend (ch ++ chs R) cm') := by
  intro R
  induction R with
  | nil =>
    intro done N hN ch hc hn cm hcm hss
    obtain ⟨m, rfl⟩ : ∃ m, N = m + 1 := ⟨N - 1, by omega⟩
    refine ⟨cm, ?_⟩
    show Go (eComp (KK p) (RN p m) (chAe p) (compElt (chE p)) (compTgt (chE p)) (.ref 31) (.ref 32)) _ _ (run2 p g .lend (ch ++ []) cm)
    rw [List.append_nil]
    unfold eComp
    exact (Go.of [.b false] (fun ds => pc_ke p g cm done.length ch ds) ⟨by rw [hss]; simp, trivial⟩).bind Go.ret
  | cons x R ih =>
    intro done N hN ch hc hn cm hcm hss
    rw [List.length_cons] at hN hn
    obtain ⟨m, rfl⟩ : ∃ m, N = m + 20 + 1 := ⟨N - 21, by omega⟩
    have hcx : CL (ch ++ [x.chr]) := hc.app (CL.cons (clo_chr _ _ _ _ _) CL.nil)
    obtain ⟨cm', r⟩ := ih (done ++ [x]) (m + 20) (by omega) (ch ++ [x.chr]) hcx (by rw [List.length_append, List.length_singleton]; omega) (cmS x) (.inr ⟨_, _, _, _, _, rfl⟩) (by rw [hss]; simp only [List.append_assoc, List.singleton_append])
    refine ⟨cm', ?_⟩
    show Go (eComp (KK p) (RN p (m + 20)) (chAe p) (compElt (chE p)) (compTgt (chE p)) (.ref 31) (.ref 32)) _ _ (run2 p g .lend (ch ++ ([x.chr] ++ chs R)) cm')
    rw [← List.append_assoc]
    unfold eComp
    refine Go.bind (Go.of [.cut [] x.sgn] (fun ds => pc_kn p g cm done.length ch x ds) ⟨by rw [hss, List.map_append, List.getElem?_append_right (by rw [List.length_map]; exact Nat.le_refl _), List.length_map, Nat.sub_self]; rfl, trivial⟩)
      (Go.sm (Go.bind (ks_go (m := m + 10) hcm) (Go.bind (Go.bind (kv_go (m := m) hg hc) (Go.of [] (fun ds => pc_kap p g (done.length + 1) ch x.chr (cmS x) ds) ⟨by omega, trivial⟩)) ?_)))
    rw [List.length_append, List.length_singleton] at r
    exact r
noncomputable def run0b (p : Params) (g : G3) : St := ⟨22, [(21, .box none), (20, .box none), (19, .box none), (18, .box none), (17, .box none), (16, .box none), (15, .box none), (14, .box (some (.ref 11))), (13, .ns [("signs", .ref 6)]), (11, .list g.ws), (10, .lend), (9, .list g.cs), (6, .list g.ss), (4, .list g.ns),
  (3, .ns [("script", .ref 0), ("nums", .ref 4), ("ways", .ref 11), ("signs", .ref 6)]), (2, .tab 184 #[] none), (1, .tab 245 #[] (some [])), (0, .raw g.xs)]⟩
theorem pd_r0 (p : Params) (g : G3) (ds : List Wd) : eEnter (fnAt3 p 246).scope [] (fnAt3 p 246).code [("signs", .ref 6), ("ways", .ref 11)] (run0 g, ds) = some (cAe p, (run0b p g, ds), []) := by kernel_rfl
theorem pd_r1 (p : Params) (g : G3) (m : Nat) (ds : List Wd) : (RN p (m + 50)).exs (cAe p) ((runB p).take 5) (run0b p g, .sel [25, 26, 27] :: .keep :: .b false :: ds) = some (.next, (run1 p g, ds),
 [0 ≤ 1000000, 0 ≤ 100, 0 ≤ 1000000, 1 ≤ 100, 0 ≤ 1000000, 2 ≤ 100, 22 + 1 < 28,
      ∀ (env : Env),
        env.1 =
            { kind := ScopeKind.function,
              names :=
                [(Str.ofString "signs", NameKind.local), (Str.ofString "ways", NameKind.cell),
                  (Str.ofString "chars", NameKind.local), (Str.ofString "t", NameKind.local),
                  (Str.ofString "at", NameKind.cell), (Str.ofString "finish", NameKind.cell),
                  (Str.ofString "h", NameKind.cell), (Str.ofString "held", NameKind.cell),
                  (Str.ofString "seen", NameKind.cell), (Str.ofString "step", NameKind.cell),
                  (Str.ofString "take", NameKind.cell), (Str.ofString "HandLexerBase", NameKind.globalImplicit),
                  (Str.ofString "iter", NameKind.globalImplicit)],
              isGenerator := false, isCoroutine := false,
              more :=
                [(Str.ofString "fast", Const.str (Str.ofString "signs")),
                  (Str.ofString "fast", Const.str (Str.ofString "ways")),
                  (Str.ofString "fast", Const.str (Str.ofString "sign")),
                  (Str.ofString "fast", Const.str (Str.ofString "file")),
                  (Str.ofString "fast", Const.str (Str.ofString "row")),
                  (Str.ofString "fast", Const.str (Str.ofString "column")),
                  (Str.ofString "fast", Const.str (Str.ofString "size")),
                  (Str.ofString "fast", Const.str (Str.ofString "chars")),
                  (Str.ofString "fast", Const.str (Str.ofString "t")),
                  (Str.ofString "fast", Const.str (Str.ofString "at")),
                  (Str.ofString "fast", Const.str (Str.ofString "finish")),
                  (Str.ofString "fast", Const.str (Str.ofString "h")),
                  (Str.ofString "fast", Const.str (Str.ofString "held")),
                  (Str.ofString "fast", Const.str (Str.ofString "seen")),
                  (Str.ofString "fast", Const.str (Str.ofString "step")),
                  (Str.ofString "fast", Const.str (Str.ofString "take"))] } →
          Sem.pure false = Sem.pure false ∧
            swappedStores
                [Expr.Tuple
                    [Expr.Name (Str.ofString "at") { line := 118, col := 4, endLine := 118, endCol := 6 },
                      Expr.Name (Str.ofString "held") { line := 118, col := 8, endLine := 118, endCol := 12 },
                      Expr.Name (Str.ofString "seen") { line := 118, col := 14, endLine := 118, endCol := 18 }]
                    0 { line := 118, col := 4, endLine := 118, endCol := 18 }]
                (Expr.Tuple
                  [Expr.List
                      [Expr.Constant (Const.int (Int.ofNat 0)) 0
                          { line := 118, col := 23, endLine := 118, endCol := 24 }]
                      { line := 118, col := 22, endLine := 118, endCol := 25 },
                    Expr.List [] { line := 118, col := 27, endLine := 118, endCol := 29 },
                    Expr.List [] { line := 118, col := 31, endLine := 118, endCol := 33 }]
                  0 { line := 118, col := 21, endLine := 118, endCol := 34 })
                env =
              Sem.pure none,
      1 ≤ 1000000, 0 ≤ 1000000, 0 ≤ 1000000, 3 ≤ 1000000,
      plainDef
        { posonlyargs := [],
          args :=
            [{ arg := Str.ofString "on_demand", annotation := none,
                pos := { line := 120, col := 13, endLine := 120, endCol := 22 } }],
          vararg := none, kwonlyargs := [], kw_defaults := [], kwarg := none, defaults := [] },
      plainDef
        { posonlyargs := [], args := [], vararg := none, kwonlyargs := [], kw_defaults := [], kwarg := none,
          defaults := [] },
      plainDef
        { posonlyargs := [], args := [], vararg := none, kwonlyargs := [], kw_defaults := [], kwarg := none,
          defaults := [] }]) := by kernel_rfl
theorem r1_go {p : Params} {g : G3} {m : Nat} : Go ((RN p (m + 50)).exs (cAe p) ((runB p).take 5)) (run0b p g) .next (run1 p g) := by
  refine Go.of [.sel [25, 26, 27], .keep, .b false] (fun ds => pd_r1 p g m ds) ?_
  refine ⟨by decide, by decide, by decide, by decide, by decide, by decide, by decide, fun env he => ⟨rfl, ?_⟩, by decide, by decide, by decide, by decide, ?_, ?_, ?_, trivial⟩
  · obtain ⟨sc, loc⟩ := env
    cases he
    kernel_rfl
  · exact fun env => ⟨rfl, rfl⟩
  · exact fun env => ⟨rfl, rfl⟩
  · exact fun env => ⟨rfl, rfl⟩
section
variable (p : Params)
theorem run_drop : (runB p).drop 5 = [nthS (runB p) 5, nthS (runB p) 6, nthS (runB p) 7] := by kernel_rfl
theorem s5_one (n : Nat) : eOne (KK p) (ext3 p) (RN p n) (xrecN (KK p) (ext3 p) n) (cAe p) (nthS (runB p) 5) = EM.bind (eComp1 (RN p n) (cAe p) (compElt (chE p)) (compTgt (chE p)) (compIter (chE p)) (compSc (chE p))) fun q => EM.bind (eBind (cAe p) "chars" q.1) fun _ => EM.bind (delCell q.2) fun _ => EM.ret .next := by kernel_rfl
theorem s5_c : (compScope (compSc (chE p)) && plainE (compIter (chE p))) = true := by kernel_rfl
theorem s6_one (n : Nat) : eOne (KK p) (ext3 p) (RN p n) (xrecN (KK p) (ext3 p) n) (cAe p) (nthS (runB p) 6) = eForGen (KK p) (RN p n) (cAe p) ⟨gtx p, 10, 60⟩ (forTgt (nthS (runB p) 6)) (clO (forI p)) "tokenize" (clA (forI p)) (forBody (nthS (runB p) 6)) := by kernel_rfl
theorem s6_c : (notSuper (clO (forI p)) && fewOk (clA (forI p)) []) = true := by kernel_rfl
theorem s6_i : genInfo (KK p) (.val (.ref 163)) = some (fnAt3 p 163) := by kernel_rfl
theorem s6_b : (fnAt3 p 163).body = (gtx p).body := by kernel_rfl
noncomputable def gBinds : List (Str × AV) := [("self", .ref 23), ("characters", .ref 34), ("start_state", stepV p)]
theorem s6_q : genBinds (fnAt3 p 163) ([.ref 23] ++ [.ref 34, stepV p]) [] = some (gBinds p) := by kernel_rfl
theorem s6_a : (⟨(fnAt3 p 163).scope, 35, (fnAt3 p 163).closure, .none, 35⟩ : AEnv) = gAe p := by kernel_rfl
theorem s6_s (g : G3) : (run3b p g).push (.ns (gBinds p).reverse) = run4 p g := by kernel_rfl
end
theorem forGen_go {K : Frag} {r : Rec} {ae : AEnv} {G : GFor} {target o : PySem.Expr} {name : Str} {args : List PySem.Expr} {body : List Stmt} {σ σ1 σ2 σ3 σ' : St} {ov f : AV} {first as : List AV} {ks : List (Str × AV)} {fi : FnI} {binds : List (Str × AV)} {fl : AFlow}
    (h1 : (notSuper o && fewOk args []) = true) (h2 : Go (r.ev ae o) σ ov σ1) (h3 : Go (eMethod K ov name) σ1 (f, first) σ2) (h4 : Go (eArgs2 r ae args []) σ2 (as, ks) σ3) (h5 : genInfo K f = some fi) (h8 : fi.body = G.t.body) (h9 : genBinds fi (first ++ as) ks = some binds)
    (h11 : Go (gFor K r G.t ⟨fi.scope, σ3.n, fi.closure, .none, σ3.n⟩ ae target body (σ3.n + 1) G.f G.k true) (σ3.push (.ns binds.reverse)) fl σ') : Go (eForGen K r ae G target o name args body) σ fl σ' := by
  refine Go.chk h1 (Go.bind h2 (Go.bind h3 (Go.bind h4 ?_)))
  show Go (EM.bind (EM.opt (genInfo K f)) fun fi => EM.bind (EM.cond (fi.body = G.t.body)) fun _ => EM.bind (EM.opt (genBinds fi (first ++ as) ks)) fun binds => EM.bind (EM.push (.ns binds.reverse)) fun L => gFor K r G.t ⟨fi.scope, L, fi.closure, .none, L⟩ ae target body (L + 1) G.f G.k true) σ3 fl σ'
  exact Go.opt h5 (Go.cond h8 (Go.opt h9 (Go.bind (Go.of (cs := []) [] (fun ds => rfl) trivial) h11)))
theorem s6_go {p : Params} {g : G3} {n : Nat} {fl : AFlow} {σ' : St} (h : Go (gF p (n + 10) 60 true) (run4 p g) fl σ') : Go (eOne (KK p) (ext3 p) (RN p (n + 10)) (xrecN (KK p) (ext3 p) (n + 10)) (cAe p) (nthS (runB p) 6)) (run3 p g) fl σ' := by
  refine Go.eq (s6_one p (n + 10)) (forGen_go (σ1 := run3 p g) (σ2 := run3 p g) (σ3 := run3b p g) (ov := .ref 23) (f := .val (.ref 163)) (first := [.ref 23]) (as := [.ref 34, stepV p]) (ks := []) (fi := fnAt3 p 163) (binds := gBinds p) (s6_c p) (Go.of [] (fun ds => pc_fo p g n ds) trivial) (Go.of [] (fun ds => pc_fm p g ds) trivial) (Go.of [] (fun ds => pc_fa p g n ds) trivial) (s6_i p) (s6_b p) (s6_q p) ?_)
  rw [s6_s, show (run3b p g).n = 35 from rfl, s6_a]
  exact h
theorem ch_ae (p : Params) : (⟨compSc (chE p), 33, [], .none, (cAe p).frm⟩ : AEnv) = chAe p := by kernel_rfl
theorem s5_go {p : Params} {g : G3} (hg : GOk g) {n : Nat} (sg : List Sg) (hs : g.ss = sg.map Sg.sgn) (hn : sg.length ≤ 100) (hl : sg.length ≤ n) (hch : g.ch = chs sg) : Go (eOne (KK p) (ext3 p) (RN p (n + 30)) (xrecN (KK p) (ext3 p) (n + 30)) (cAe p) (nthS (runB p) 5)) (run1 p g) .next (run3 p g) := by
  refine Go.eq (s5_one p (n + 30)) ?_
  obtain ⟨cm', h⟩ := ch_loop (p := p) hg sg [] (n + 30) (by omega) [] CL.nil (by simp only [List.length_nil]; omega) [] (.inl rfl) hs
  refine Go.bind (b := (AV.ref 32, 33)) (σ' := run2 p g .lend (chs sg) cm') ?_ ?_
  · refine Go.chk (s5_c p) (Go.bind (Go.of [] (fun ds => pc_k1 p g (n + 20) ds) trivial) (Go.bind (Go.of [] (fun ds => pc_k2 p g ds) trivial) (Go.bind (Go.of [] (fun ds => pc_k3 p g ds) ⟨by decide, trivial⟩) (Go.bind (Go.of [] (fun ds => pc_k4 p g ds) trivial) (Go.bind (Go.of [] (fun ds => pc_k5 p g [] [] 0 ds) trivial) ?_)))))
    rw [ch_ae]
    exact Go.bind (b := AFlow.next) (σ' := run2 p g .lend (chs sg) cm') h Go.ret
  · obtain ⟨xs, ns, ss, cs, ws, ch⟩ := g
    dsimp only at hch
    subst hch
    exact Go.of [] (fun ds => pc_kb1 p ⟨xs, ns, ss, cs, ws, []⟩ (chs sg) cm' ds) trivial
theorem run_body {p : Params} {g : G3} (hg : GOk g) (m : Nat) (sg : List Sg) (ws : List Int) (hs : g.ss = sg.map Sg.sgn) (hw : g.ws = ws.map AV.int) (hch : g.ch = chs sg) (hn : sg.length ≤ 20) (hl : 53 + ws.length ≤ m) (hwl : ws.length ≤ 50) (hsh : Short sg) :
    Go (EM.bind ((RN p (m + 21)).exs (cAe p) (runB p)) fun fl => onFl fl (eNorm 13 noneAV) (eNorm 13) EM.fail) (run0b p g) (.ref 30) (runE p g (spAll 0 ws [] sg)) := by
  have v : IV g (.liter 32 0) [] [] [] sg [] := by
    refine ⟨?_, CL.nil, CL.nil, Nat.zero_le _, Nat.zero_le _, ?_⟩
    · exact .inr ⟨0, rfl, by rw [List.drop_zero]; exact hch⟩
    · simp only [List.length_nil]; omega
  have seg0 : ∀ o σ', Go (gSeg2 (RN p (m + 20)) (gtx p) (gAe p) (3 + 6)) (genS p g rm0 (gmOf p (stepV p)) (tO (.liter 32 0) [] [] [] ([] : List Int).length [])) o σ' → Go (gSeg0 (RN p (m + 20)) (gtx p) (gAe p) 10) (run4 p g) o σ' := fun o σ' h => by
    exact Go.bind (Go.of [] (fun ds => pc_gp p g (m + 10) ds) ⟨by decide, trivial⟩) (Go.nx (seg1_go (gg1S (m := m + 10)) h))
  obtain ⟨rm', t, h1, h2, h3, h4⟩ := gfor_go (p := p) hg (by rw [hw, List.length_map]; omega) m (ws.length + 1) ws [] (by omega) hl rm0 (.inl rfl) (.liter 32 0) [] [] [] sg v (by simp only [List.length_nil]; omega) (by simp only [List.length_nil]; omega) hsh hw 60 (by omega) true 3 (run4 p g) seg0
  refine Go.bind (b := .ret (.ref 30)) (σ' := genS p g rm' (gmOf p noneV) t) ?_ ?_
  · refine go_split (k := 5) (n := m + 20) (Go.eq rfl (r1_go (m := m - 29) |> fun h => by rwa [show m - 29 + 50 = m + 20 + 1 by omega] at h)) ?_
    rw [run_drop]
    show Go (eExecs (eOne (KK p) (ext3 p) (RN p (m + 20)) (xrecN (KK p) (ext3 p) (m + 20)) (cAe p)) [nthS (runB p) 5, nthS (runB p) 6, nthS (runB p) 7]) _ _ _
    refine Go.cons (σ' := run3 p g) (by
      have := s5_go (p := p) hg (n := m - 10) sg hs (by omega) (by omega) hch
      rwa [show m - 10 + 30 = m + 20 by omega] at this) (Go.cons (s6_go (n := m + 10) h4) ?_)
    have r := Go.of (x := (RN p (m + 21)).exs (cAe p) [nthS (runB p) 7]) (σ := genS p g rm' (gmOf p noneV) t) (σ' := genS p g rm' (gmOf p noneV) t) (b := .ret (.ref 30)) [] (fun ds => pc_cr p g rm' (gmOf p noneV) t.it t.seen t.held t.ct t.pb t.tb t.at_ (m + 11) ds) trivial
    exact r
  · have h3' : t.seen = spAll 0 ws [] sg := by rw [h3]; rfl
    rw [← h3']
    exact Go.of [.sel [30]] (fun ds => pc_cx p g rm' (gmOf p noneV) t.it t.seen t.held t.ct t.pb t.tb t.at_ ds) trivial
noncomputable def dueB (p : Params) : List Stmt := (fnAt3 p 251).body
noncomputable def dn (pl st : Int) (tw : List (Str × AV)) : List (Str × AV) := ("ways", .ref 11) :: ("signs", .ref 6) :: ("seen", .ref 37) :: ("place", .int pl) :: ("start", .int st) :: tw
noncomputable def tw2 (k w : Int) : List (Str × AV) := [("turn", .int k), ("way", .int w)]
section
variable (p : Params)
noncomputable def dAe : AEnv := ⟨(fnAt3 p 251).scope, 36, [], .ref 250, 36⟩
noncomputable def due0 (g : G3) (sn : List AV) : St := ⟨38, (37, .list []) :: (36, .ns (dn 0 0 [])) :: (runE p g sn).objs⟩
noncomputable def dueS (g : G3) (sn sd : List AV) (pl st : Int) (tw : List (Str × AV)) (k : Nat) : St := ⟨40, (39, .enum 38 k) :: (38, .wl 11 k) :: (37, .list sd) :: (36, .ns (dn pl st tw)) :: (runE p g sn).objs⟩
noncomputable def dueT (g : G3) (sn sd : List AV) (pl st : Int) (tw : List (Str × AV)) (k : Nat) : St := ⟨40, (39, .enum 38 k) :: (38, .any) :: (37, .list sd) :: (36, .ns (dn pl st tw)) :: (runE p g sn).objs⟩
noncomputable def dueU (g : G3) (sn sd l1 l2 l3 : List AV) (pl st : Int) (tw : List (Str × AV)) (k : Nat) : St := ⟨43, (42, .list l3) :: (41, .list l2) :: (40, .list l1) :: (dueT p g sn sd pl st tw k).objs⟩
noncomputable abbrev dFor : Stmt := nthS (dueB p) 1
end
noncomputable def exprV : Stmt → PySem.Expr
  | .Expr e _ => e
  | _ => .Constant .none 0 default
noncomputable def ifBody : Stmt → List Stmt
  | .If _ b _ _ => b
  | _ => []
noncomputable def ifElse : Stmt → List Stmt
  | .If _ _ b _ => b
  | _ => []
noncomputable def ifTest : Stmt → PySem.Expr
  | .If t _ _ _ => t
  | _ => .Constant .none 0 default
noncomputable def binL : PySem.Expr → PySem.Expr
  | .BinOp l _ _ _ => l
  | e => e
noncomputable def binR : PySem.Expr → PySem.Expr
  | .BinOp _ _ r _ => r
  | e => e
noncomputable def tupE : PySem.Expr → List PySem.Expr
  | .Tuple es _ _ => es
  | _ => []
noncomputable def nthE (l : List PySem.Expr) (i : Nat) : PySem.Expr := l.getD i (.Constant .none 0 default)
section
variable (p : Params) (g : G3) (sn sd : List AV) (pl st : Int) (t w : Int) (k : Nat)
theorem pe_w8 (m : Nat) (ds : List Wd) : (RN p (m + 20)).exs (dAe p) (forBody (dFor p)) ((dueS p g sn sd pl st (tw2 t w) k), [.b true] ++ ds) = some (.next, ((dueS p g sn sd pl pl (tw2 t w) k), ds), [(w == Int.ofNat 8) = true]) := by kernel_rfl
theorem pe_w6 (m : Nat) (ds : List Wd) : (RN p (m + 20)).exs (dAe p) (forBody (dFor p)) ((dueS p g sn sd pl st (tw2 t w) k), [.b false, .b false, .b false, .b false, .b false, .b false, .b false, .b false] ++ ds) = some (.next, ((dueS p g sn sd pl st (tw2 t w) k), ds), [(w == Int.ofNat 8) = false, (w == Int.ofNat 7) = false, false = false, 2 ≤ 1000000, (Int.ofNat 4 == w || (Int.ofNat 5 == w || false)) = false, false = false, (w != Int.ofNat 6) = false, false = false, (w != Int.ofNat 6) = false]) := by kernel_rfl
theorem pe_bk (m : Nat) (ds : List Wd) : (RN p (m + 20)).exs (dAe p) (forBody (dFor p)) ((dueS p g sn sd pl st (tw2 t w) k), [.b false, .b false, .b false, .b true, .b true, .b true] ++ ds) = some (.next, ((dueS p g sn sd (pl - 1) st (tw2 t w) k), ds), [(w == Int.ofNat 8) = false, (w == Int.ofNat 7) = false, false = false, 2 ≤ 1000000, (Int.ofNat 4 == w || (Int.ofNat 5 == w || false)) = true, decide (pl > st) = true, true = true]) := by kernel_rfl
theorem pe_tknn (y : AV) (m : Nat) (ds : List Wd) : (RN p (m + 20)).exs (dAe p) (forBody (dFor p)) ((dueS p g sn sd pl st (tw2 t w) k), [.b false, .b false, .b false, .b false, .b false, .b true, .b true, .b true, .cut [] y] ++ ds) = some (.next, ((dueS p g sn (sd ++ [y]) (pl + 1) st (tw2 t w) k), ds), [(w == Int.ofNat 8) = false, (w == Int.ofNat 7) = false, false = false, 2 ≤ 1000000, (Int.ofNat 4 == w || (Int.ofNat 5 == w || false)) = false, false = false, (w != Int.ofNat 6) = true, g.ss.length ≤ 1000000, decide (pl < Int.ofNat g.ss.length) = true, true = true, g.ss.length ≤ 1000000, 0 ≤ pl ∧ pl < 1000000 ∧ g.ss[pl.toNat]? = some y, sd.length ≤ 1000000]) := by kernel_rfl
theorem pe_nonn (m : Nat) (ds : List Wd) : (RN p (m + 20)).exs (dAe p) (forBody (dFor p)) ((dueS p g sn sd pl st (tw2 t w) k), [.b false, .b false, .b false, .b false, .b false, .b true, .b false, .b false, .b true, .b false] ++ ds) = some (.next, ((dueS p g sn (sd ++ [noneV]) pl st (tw2 t w) k), ds), [(w == Int.ofNat 8) = false, (w == Int.ofNat 7) = false, false = false, 2 ≤ 1000000, (Int.ofNat 4 == w || (Int.ofNat 5 == w || false)) = false, false = false, (w != Int.ofNat 6) = true, g.ss.length ≤ 1000000, decide (pl < Int.ofNat g.ss.length) = false, false = false, (w != Int.ofNat 6) = true, (w == Int.ofNat 3) = false, sd.length ≤ 1000000]) := by kernel_rfl
theorem pe_tksn (y : AV) (m : Nat) (ds : List Wd) : (RN p (m + 20)).exs (dAe p) (forBody (dFor p)) ((dueS p g sn sd pl st (tw2 t w) k), [.b false, .b true, .b false, .b false, .b false, .b false, .b true, .b true, .b true, .cut [] y] ++ ds) = some (.next, ((dueS p g sn (sd ++ [y]) (pl + 1) st (tw2 t w) k), ds), [(w == Int.ofNat 8) = false, (w == Int.ofNat 7) = true, decide (pl > st) = false, false = false, 2 ≤ 1000000, (Int.ofNat 4 == w || (Int.ofNat 5 == w || false)) = false, false = false, (w != Int.ofNat 6) = true, g.ss.length ≤ 1000000, decide (pl < Int.ofNat g.ss.length) = true, true = true, g.ss.length ≤ 1000000, 0 ≤ pl ∧ pl < 1000000 ∧ g.ss[pl.toNat]? = some y, sd.length ≤ 1000000]) := by kernel_rfl
theorem pe_nosn (m : Nat) (ds : List Wd) : (RN p (m + 20)).exs (dAe p) (forBody (dFor p)) ((dueS p g sn sd pl st (tw2 t w) k), [.b false, .b true, .b false, .b false, .b false, .b false, .b true, .b false, .b false, .b true, .b false] ++ ds) = some (.next, ((dueS p g sn (sd ++ [noneV]) pl st (tw2 t w) k), ds), [(w == Int.ofNat 8) = false, (w == Int.ofNat 7) = true, decide (pl > st) = false, false = false, 2 ≤ 1000000, (Int.ofNat 4 == w || (Int.ofNat 5 == w || false)) = false, false = false, (w != Int.ofNat 6) = true, g.ss.length ≤ 1000000, decide (pl < Int.ofNat g.ss.length) = false, false = false, (w != Int.ofNat 6) = true, (w == Int.ofNat 3) = false, sd.length ≤ 1000000]) := by kernel_rfl
theorem pe_tkns (y : AV) (m : Nat) (ds : List Wd) : (RN p (m + 20)).exs (dAe p) (forBody (dFor p)) ((dueS p g sn sd pl st (tw2 t w) k), [.b false, .b false, .b false, .b true, .b false, .b false, .b true, .b true, .b true, .cut [] y] ++ ds) = some (.next, ((dueS p g sn (sd ++ [y]) (pl + 1) st (tw2 t w) k), ds), [(w == Int.ofNat 8) = false, (w == Int.ofNat 7) = false, false = false, 2 ≤ 1000000, (Int.ofNat 4 == w || (Int.ofNat 5 == w || false)) = true, decide (pl > st) = false, false = false, (w != Int.ofNat 6) = true, g.ss.length ≤ 1000000, decide (pl < Int.ofNat g.ss.length) = true, true = true, g.ss.length ≤ 1000000, 0 ≤ pl ∧ pl < 1000000 ∧ g.ss[pl.toNat]? = some y, sd.length ≤ 1000000]) := by kernel_rfl
theorem pe_nons (m : Nat) (ds : List Wd) : (RN p (m + 20)).exs (dAe p) (forBody (dFor p)) ((dueS p g sn sd pl st (tw2 t w) k), [.b false, .b false, .b false, .b true, .b false, .b false, .b true, .b false, .b false, .b true, .b false] ++ ds) = some (.next, ((dueS p g sn (sd ++ [noneV]) pl st (tw2 t w) k), ds), [(w == Int.ofNat 8) = false, (w == Int.ofNat 7) = false, false = false, 2 ≤ 1000000, (Int.ofNat 4 == w || (Int.ofNat 5 == w || false)) = true, decide (pl > st) = false, false = false, (w != Int.ofNat 6) = true, g.ss.length ≤ 1000000, decide (pl < Int.ofNat g.ss.length) = false, false = false, (w != Int.ofNat 6) = true, (w == Int.ofNat 3) = false, sd.length ≤ 1000000]) := by kernel_rfl
theorem pe_n3 (m : Nat) (ds : List Wd) : (RN p (m + 20)).exs (dAe p) (forBody (dFor p)) ((dueS p g sn sd pl st (tw2 t w) k), [.b false, .b false, .b false, .b false, .b false, .b true, .b false, .b false, .b true, .b true] ++ ds) = some (.next, ((dueS p g sn (sd ++ [refV]) pl st (tw2 t w) k), ds), [(w == Int.ofNat 8) = false, (w == Int.ofNat 7) = false, false = false, 2 ≤ 1000000, (Int.ofNat 4 == w || (Int.ofNat 5 == w || false)) = false, false = false, (w != Int.ofNat 6) = true, g.ss.length ≤ 1000000, decide (pl < Int.ofNat g.ss.length) = false, false = false, (w != Int.ofNat 6) = true, (w == Int.ofNat 3) = true, 2 ≤ 1000000, sd.length ≤ 1000000]) := by kernel_rfl
end
section
variable (p : Params)
theorem pe_it (g : G3) (sn : List AV) (m : Nat) (ds : List Wd) : (EM.bind ((RN p (m + 20)).ev (dAe p) (forIter (dFor p))) fun v => eIterOf v) (due0 p g sn, ds) = some (.ref 39, (dueS p g sn [] 0 0 [] 0, ds), []) := by kernel_rfl
theorem pe_as0 (g : G3) (sn sd : List AV) (pl st : Int) (w : Int) (k j : Nat) (m : Nat) (ds : List Wd) : eAssign (KK p) (RN p (m + 10)) (dAe p) (.tup [.int k, .int w]) (forTgt (dFor p)) ((dueS p g sn sd pl st [] j), [] ++ ds) = some (PUnit.unit, ((dueS p g sn sd pl st (tw2 k w) j), ds), []) := by kernel_rfl
theorem pe_as1 (g : G3) (sn sd : List AV) (pl st : Int) (t u w : Int) (k j : Nat) (m : Nat) (ds : List Wd) : eAssign (KK p) (RN p (m + 10)) (dAe p) (.tup [.int k, .int w]) (forTgt (dFor p)) ((dueS p g sn sd pl st (tw2 t u) j), [] ++ ds) = some (PUnit.unit, ((dueS p g sn sd pl st (tw2 k w) j), ds), []) := by kernel_rfl
theorem pe_en (g : G3) (sn sd : List AV) (pl st : Int) (tw : List (Str × AV)) (j : Nat) (m : Nat) (ds : List Wd) : (RN p (m + 20)).exs (dAe p) [nthS (dueB p) 2] (dueT p g sn sd pl st tw j, [] ++ ds) = some (.next, (dueU p g sn (sd ++ ((pickG g.ss (some pl) none) ++ [noneV, refV, noneV])) (pickG g.ss (some pl) none) [noneV, refV, noneV] ((pickG g.ss (some pl) none) ++ [noneV, refV, noneV]) pl st tw j, ds), [g.ss.length ≤ 1000000, (pickG g.ss (some pl) none).length ≤ 1000000, 2 ≤ 1000000, 3 ≤ 1000000, (pickG g.ss (some pl) none).length ≤ 1000000, 3 ≤ 1000000, ((pickG g.ss (some pl) none) ++ [noneV, refV, noneV]).length ≤ 1000000, sd.length ≤ 1000000, ((pickG g.ss (some pl) none) ++ [noneV, refV, noneV]).length ≤ 1000000]) := by kernel_rfl
theorem pe_rf (g : G3) (sn sd l1 l2 l3 : List AV) (pl st : Int) (tw : List (Str × AV)) (jj : Nat) (m : Nat) (ds : List Wd) : (RN p (m + 20)).exs (dAe p) [nthS (dueB p) 3] ((dueU p g sn sd l1 l2 l3 pl st tw jj), [.b false] ++ ds) = some (.next, ((dueU p g sn sd l1 l2 l3 pl st tw jj), ds), [g.ss.length ≤ 1000000, decide (st < Int.ofNat g.ss.length) = false]) := by kernel_rfl
noncomputable def ifS : Stmt := nthS (forBody (dFor p)) 0
noncomputable def if7 : Stmt := nthS (ifElse (ifS p)) 0
noncomputable def apC : PySem.Expr := exprV (nthS (ifBody (if7 p)) 0)
noncomputable def apR : PySem.Expr := exprV (nthS (ifBody (nthS (dueB p) 3)) 0)
end
noncomputable abbrev pcB (e : PySem.Expr) : PySem.Expr := nthE (clA e) 0
noncomputable abbrev pcT (e : PySem.Expr) : PySem.Expr := binL (pcB e)
noncomputable abbrev pcJ (e : PySem.Expr) : PySem.Expr := nthE (tupE (pcT e)) 1
noncomputable abbrev pcL (e : PySem.Expr) : PySem.Expr := nthE (clA (pcJ e)) 0
section
variable (p : Params)
theorem pf_body : forBody (dFor p) = [ifS p] := by kernel_rfl
theorem pf_else : ifElse (ifS p) = [if7 p] := by kernel_rfl
theorem pf_b7 : ifBody (if7 p) = [nthS (ifBody (if7 p)) 0, nthS (ifBody (if7 p)) 1] := by kernel_rfl
theorem pf_br : ifBody (nthS (dueB p) 3) = [nthS (ifBody (nthS (dueB p) 3)) 0] := by kernel_rfl
theorem pf_if (n : Nat) (st : Stmt) (h : st = ifS p ∨ st = if7 p ∨ st = nthS (dueB p) 3) : eOne (KK p) (ext3 p) (RN p n) (xrecN (KK p) (ext3 p) n) (dAe p) st = EM.bind ((RN p n).tst (dAe p) (ifTest st)) fun b => EM.bind (EM.dec b) fun b => match b with
    | true => (RN p n).exs (dAe p) (ifBody st)
    | false => (RN p n).exs (dAe p) (ifElse st) := by
  rcases h with rfl | rfl | rfl <;> kernel_rfl
theorem pf_exs (n : Nat) (ae : AEnv) (ss : List Stmt) : (RN p (n + 1)).exs ae ss = eExecs (eOne (KK p) (ext3 p) (RN p n) (xrecN (KK p) (ext3 p) n) ae) ss := rfl
theorem pf_t8 (g : G3) (sn sd : List AV) (pl st : Int) (t w : Int) (k m : Nat) (ds : List Wd) : (RN p (m + 10)).tst (dAe p) (ifTest (ifS p)) (dueS p g sn sd pl st (tw2 t w) k, ds) = some (w == 8, (dueS p g sn sd pl st (tw2 t w) k, ds), []) := by kernel_rfl
theorem pf_t7 (g : G3) (sn sd : List AV) (pl st : Int) (t w : Int) (k m : Nat) (ds : List Wd) : (RN p (m + 10)).tst (dAe p) (ifTest (if7 p)) (dueS p g sn sd pl st (tw2 t w) k, [.b true, .b true] ++ ds) = some (true, (dueS p g sn sd pl st (tw2 t w) k, ds), [(w == 7) = true, decide (pl > st) = true]) := by kernel_rfl
theorem pf_tr (g : G3) (sn sd l1 l2 l3 : List AV) (pl st : Int) (tw : List (Str × AV)) (j m : Nat) (ds : List Wd) : (RN p (m + 10)).tst (dAe p) (ifTest (nthS (dueB p) 3)) (dueU p g sn sd l1 l2 l3 pl st tw j, ds) = some (decide (st < Int.ofNat g.ss.length), (dueU p g sn sd l1 l2 l3 pl st tw j, ds), [g.ss.length ≤ 1000000]) := by kernel_rfl
theorem pf_call (n : Nat) (e : PySem.Expr) (h : e = apC p ∨ e = apR p) : (RN p (n + 1)).ev (dAe p) e = eMethodCall (KK p) (RN p n) (dAe p) (clO e) "append" [pcB e] [] := by
  rcases h with rfl | rfl <;> kernel_rfl
theorem pf_bin (n : Nat) (e : PySem.Expr) (h : e = apC p ∨ e = apR p) : (RN p (n + 1)).ev (dAe p) (pcB e) = EM.bind ((RN p n).ev (dAe p) (pcT e)) fun a => EM.bind ((RN p n).ev (dAe p) (binR (pcB e))) fun b => eBinX .Add a b := by
  rcases h with rfl | rfl <;> kernel_rfl
theorem pf_tup (n : Nat) (e : PySem.Expr) (h : e = apC p ∨ e = apR p) : (RN p (n + 1)).ev (dAe p) (pcT e) = EM.bind (eArgs (RN p n) (dAe p) [nthE (tupE (pcT e)) 0, pcJ e]) fun vs => eNewTuple vs := by
  rcases h with rfl | rfl <;> kernel_rfl
theorem pf_join (n : Nat) (e : PySem.Expr) (h : e = apC p ∨ e = apR p) : (RN p (n + 1)).ev (dAe p) (pcJ e) = eMethodCall (KK p) (RN p n) (dAe p) (clO (pcJ e)) "join" [pcL e] [] := by
  rcases h with rfl | rfl <;> kernel_rfl
theorem pf_lc (n : Nat) (e : PySem.Expr) (h : e = apC p ∨ e = apR p) : (RN p (n + 1)).ev (dAe p) (pcL e) = eListComp (RN p n) (dAe p) (compElt (pcL e)) (compTgt (pcL e)) (compIter (pcL e)) (compSc (pcL e)) := by
  rcases h with rfl | rfl <;> kernel_rfl
theorem pf_stars (e : PySem.Expr) (h : e = apC p ∨ e = apR p) : noStar (pcB e) = true ∧ noStar (nthE (tupE (pcT e)) 0) = true ∧ noStar (pcJ e) = true ∧ noStar (pcL e) = true ∧ (compScope (compSc (pcL e)) && plainE (compIter (pcL e))) = true := by
  rcases h with rfl | rfl <;> exact ⟨by kernel_rfl, by kernel_rfl, by kernel_rfl, by kernel_rfl, by kernel_rfl⟩
noncomputable def coC0 (g : G3) (sn sd : List AV) (pl st : Int) (t w : Int) (k : Nat) (pc : List AV) : St := ⟨41, (40, .list pc) :: (dueS p g sn sd pl st (tw2 t w) k).objs⟩
noncomputable def coC1 (g : G3) (sn sd : List AV) (pl st : Int) (t w : Int) (k : Nat) (pc : List AV) (it : Cell) : St := ⟨42, (41, it) :: (coC0 p g sn sd pl st t w k pc).objs⟩
noncomputable def coC2 (g : G3) (sn sd : List AV) (pl st : Int) (t w : Int) (k : Nat) (pc : List AV) (it : Cell) (ys : List AV) : St := ⟨43, (42, .list ys) :: (coC1 p g sn sd pl st t w k pc it).objs⟩
noncomputable def coC3 (g : G3) (sn sd : List AV) (pl st : Int) (t w : Int) (k : Nat) (pc : List AV) (it : Cell) (ys : List AV) (cm : List (Str × AV)) : St := ⟨44, (43, .ns cm) :: (coC2 p g sn sd pl st t w k pc it ys).objs⟩
noncomputable def coC4 (g : G3) (sn sd : List AV) (pl st : Int) (t w : Int) (k : Nat) (pc : List AV) (it : Cell) (ys : List AV) : St := ⟨44, (coC2 p g sn sd pl st t w k pc it ys).objs⟩
noncomputable def coCAe : AEnv := ⟨compSc (pcL (apC p)), 43, [], .none, 36⟩
theorem coC_ae : (⟨compSc (pcL (apC p)), 43, [], .none, (dAe p).frm⟩ : AEnv) = coCAe p := by kernel_rfl
theorem coC_k2 (g : G3) (sn sd : List AV) (pl st : Int) (t w : Int) (k : Nat) (pc : List AV) (ds : List Wd) : eIterOf (.ref 40) (coC0 p g sn sd pl st t w k pc, ds) = some (.ref 41, (coC1 p g sn sd pl st t w k pc (.liter 40 0), ds), []) := by kernel_rfl
theorem coC_k3 (g : G3) (sn sd : List AV) (pl st : Int) (t w : Int) (k : Nat) (pc : List AV) (ds : List Wd) : eNewList [] (coC1 p g sn sd pl st t w k pc (.liter 40 0), ds) = some (.ref 42, (coC2 p g sn sd pl st t w k pc (.liter 40 0) [], ds), [0 ≤ 1000000]) := by kernel_rfl
theorem coC_k4 (g : G3) (sn sd : List AV) (pl st : Int) (t w : Int) (k : Nat) (pc : List AV) (ds : List Wd) : EM.push (.ns []) (coC2 p g sn sd pl st t w k pc (.liter 40 0) [], ds) = some (43, (coC3 p g sn sd pl st t w k pc (.liter 40 0) [] [], ds), []) := by kernel_rfl
theorem coC_k5 (g : G3) (sn sd : List AV) (pl st : Int) (t w : Int) (k : Nat) (pc : List AV) (ds : List Wd) : isLit (.ref 41) (coC3 p g sn sd pl st t w k pc (.liter 40 0) [] [], ds) = some ((), (coC3 p g sn sd pl st t w k pc (.liter 40 0) [] [], ds), []) := by kernel_rfl
theorem coC_kn (g : G3) (sn sd : List AV) (pl st : Int) (t w : Int) (k : Nat) (pc : List AV) (ys : List AV) (cm : List (Str × AV)) (j : Nat) (x : Sg) (ds : List Wd) : eNextOwn (compTgt (pcL (apC p))) (.ref 41) ((coC3 p g sn sd pl st t w k pc (.liter 40 j) ys cm), [.cut [] x.sgn] ++ ds) = some (some x.sgn, ((coC3 p g sn sd pl st t w k pc (.liter 40 (j + 1)) ys cm), ds), [pc[j]? = some x.sgn]) := by kernel_rfl
theorem coC_ke (g : G3) (sn sd : List AV) (pl st : Int) (t w : Int) (k : Nat) (pc : List AV) (ys : List AV) (cm : List (Str × AV)) (j : Nat) (ds : List Wd) : eNextOwn (compTgt (pcL (apC p))) (.ref 41) ((coC3 p g sn sd pl st t w k pc (.liter 40 j) ys cm), [.b false] ++ ds) = some (none, ((coC3 p g sn sd pl st t w k pc .lend ys cm), ds), [pc[j]? = none]) := by kernel_rfl
theorem coC_s0 (g : G3) (sn sd : List AV) (pl st : Int) (t w : Int) (k : Nat) (pc : List AV) (ys : List AV) (j : Nat) (x : Sg) (m : Nat) (ds : List Wd) : eAssign (KK p) (RN p (m + 10)) (coCAe p) x.sgn (compTgt (pcL (apC p))) ((coC3 p g sn sd pl st t w k pc (.liter 40 j) ys []), ds) = some (PUnit.unit, ((coC3 p g sn sd pl st t w k pc (.liter 40 j) ys [(Str.ofString "sign", x.sgn)]), ds), []) := by kernel_rfl
theorem coC_s1 (g : G3) (sn sd : List AV) (pl st : Int) (t w : Int) (k : Nat) (pc : List AV) (ys : List AV) (j : Nat) (x : Sg) (z : AV) (m : Nat) (ds : List Wd) : eAssign (KK p) (RN p (m + 10)) (coCAe p) x.sgn (compTgt (pcL (apC p))) ((coC3 p g sn sd pl st t w k pc (.liter 40 j) ys [(Str.ofString "sign", z)]), ds) = some (PUnit.unit, ((coC3 p g sn sd pl st t w k pc (.liter 40 j) ys [(Str.ofString "sign", x.sgn)]), ds), []) := by kernel_rfl
theorem coC_kv (g : G3) (sn sd : List AV) (pl st : Int) (t w : Int) (k : Nat) (pc : List AV) (ys : List AV) (j : Nat) (x : Sg) (m : Nat) (ds : List Wd) : (RN p (m + 10)).ev (coCAe p) (compElt (pcL (apC p))) ((coC3 p g sn sd pl st t w k pc (.liter 40 j) ys [(Str.ofString "sign", x.sgn)]), [.cut [] (.str x.c)] ++ ds) = some (.str x.c, ((coC3 p g sn sd pl st t w k pc (.liter 40 j) ys [(Str.ofString "sign", x.sgn)]), ds), [(0 : Int) ≤ 0 ∧ (0 : Int) < 1000000 ∧ [AV.str x.c, .str x.f, .int x.r, .int x.k, .int x.l][(0 : Int).toNat]? = some (.str x.c)]) := by kernel_rfl
theorem coC_ka (g : G3) (sn sd : List AV) (pl st : Int) (t w : Int) (k : Nat) (pc : List AV) (ys : List AV) (cm : List (Str × AV)) (j : Nat) (v : AV) (ds : List Wd) : eAppend [.ref 42, v] ((coC3 p g sn sd pl st t w k pc (.liter 40 j) ys cm), ds) = some (.val .none, ((coC3 p g sn sd pl st t w k pc (.liter 40 j) (ys ++ [v]) cm), ds), [ys.length ≤ 1000000]) := by kernel_rfl
theorem coC_kd (g : G3) (sn sd : List AV) (pl st : Int) (t w : Int) (k : Nat) (pc : List AV) (ys : List AV) (cm : List (Str × AV)) (ds : List Wd) : delCell 43 ((coC3 p g sn sd pl st t w k pc .lend ys cm), ds) = some ((), (coC4 p g sn sd pl st t w k pc .lend ys, ds), []) := by kernel_rfl
theorem coC_jc (g : G3) (sn sd : List AV) (pl st : Int) (t w : Int) (k : Nat) (pc : List AV) (ys : List AV) (m : Nat) (ds : List Wd) : (RN p (m + 10)).call (.val (.builtin "str.join")) [.str (Str.ofString ""), .ref 42] [] (coC4 p g sn sd pl st t w k pc .lend ys, ds) = some (.str (Txt.join (Str.ofString "") (strsAt ys)), (coC4 p g sn sd pl st t w k pc .lend ys, ds), [ys.length ≤ 1000000, (∀ y ∈ ys, (strAt y).isSome = true) ∧ JoinOk (Str.ofString "") (strsAt ys) = true]) := by kernel_rfl
theorem coC_jm (ds : List Wd) (σ : St) : eMethod (KK p) (.str (Str.ofString "")) "join" (σ, ds) = some ((.val (.builtin "str.join"), [.str (Str.ofString "")]), (σ, ds), []) := by kernel_rfl
theorem coC_ts (g : G3) (sn sd : List AV) (pl st : Int) (t w : Int) (k : Nat) (pc : List AV) (ys : List AV) (x : Sg) (m : Nat) (ds : List Wd) : (RN p (m + 10)).ev (dAe p) (binR (pcB (apC p))) (coC4 p g sn sd pl st t w k pc .lend ys, [.cut [] x.sgn] ++ ds) = some (.tup [.str x.f, .int x.r, .int x.k, .int x.l], (coC4 p g sn sd pl st t w k pc .lend ys, ds), [g.ss.length ≤ 1000000, 0 ≤ st ∧ st < 1000000 ∧ g.ss[st.toNat]? = some x.sgn, 4 ≤ 1000000]) := by kernel_rfl
theorem coC_ap (g : G3) (sn sd : List AV) (pl st : Int) (t w : Int) (k : Nat) (pc : List AV) (ys : List AV) (v : AV) (m : Nat) (ds : List Wd) : (RN p (m + 10)).call (.val (.builtin "list.append")) [.ref 37, v] [] (coC4 p g sn sd pl st t w k pc .lend ys, ds) = some (.val .none, (coC4 p g sn (sd ++ [v]) pl st t w k pc .lend ys, ds), [sd.length ≤ 1000000]) := by kernel_rfl
theorem coC_k1 (g : G3) (sn sd : List AV) (pl st : Int) (t w : Int) (k : Nat) (m : Nat) (ds : List Wd) : (RN p (m + 10)).ev (dAe p) (compIter (pcL (apC p))) (dueS p g sn sd pl st (tw2 t w) k, ds) = some (.ref 40, (coC0 p g sn sd pl st t w k (pickG g.ss (some st) (some pl)), ds), [g.ss.length ≤ 1000000, (pickG g.ss (some st) (some pl)).length ≤ 1000000]) := by kernel_rfl
theorem coC_se (g : G3) (sn sd : List AV) (pl st : Int) (t w : Int) (k : Nat) (m : Nat) (ds : List Wd) : (RN p (m + 10)).ev (dAe p) (clO (apC p)) (dueS p g sn sd pl st (tw2 t w) k, ds) = some (.ref 37, (dueS p g sn sd pl st (tw2 t w) k, ds), []) := by kernel_rfl
theorem coC_sm (g : G3) (sn sd : List AV) (pl st : Int) (t w : Int) (k : Nat) (ds : List Wd) : eMethod (KK p) (.ref 37) "append" (dueS p g sn sd pl st (tw2 t w) k, ds) = some ((.val (.builtin "list.append"), [.ref 37]), (dueS p g sn sd pl st (tw2 t w) k, ds), []) := by kernel_rfl
theorem coC_em (g : G3) (sn sd : List AV) (pl st : Int) (t w : Int) (k : Nat) (m : Nat) (ds : List Wd) : (RN p (m + 10)).ev (dAe p) (clO (pcJ (apC p))) (dueS p g sn sd pl st (tw2 t w) k, ds) = some (.str (Str.ofString ""), (dueS p g sn sd pl st (tw2 t w) k, ds), []) := by kernel_rfl
theorem coC_ty (g : G3) (sn sd : List AV) (pl st : Int) (t w : Int) (k : Nat) (m : Nat) (ds : List Wd) : (RN p (m + 10)).ev (dAe p) (nthE (tupE (pcT (apC p))) 0) (dueS p g sn sd pl st (tw2 t w) k, ds) = some (.str (Str.ofString "cut" ++ Str.ofString (toString ((t + 1).fmod 3))), (dueS p g sn sd pl st (tw2 t w) k, ds), [(3 : Int) ≠ 0, 0 ≤ (t + 1).fmod 3 ∧ (t + 1).fmod 3 < 2 ^ 63, (Str.ofString "cut").length + (Str.ofString (toString ((t + 1).fmod 3))).length ≤ 1000000]) := by kernel_rfl
theorem coC_st (g : G3) (sn sd : List AV) (pl st : Int) (t w : Int) (k : Nat) (pc : List AV) (ys : List AV) (m : Nat) (ds : List Wd) : (RN p (m + 10)).exs (dAe p) [nthS (ifBody (if7 p)) 1] (coC4 p g sn sd pl st t w k pc .lend ys, ds) = some (.next, (coC4 p g sn sd pl pl t w k pc .lend ys, ds), []) := by kernel_rfl
theorem coC_cu (g : G3) (sn sd : List AV) (pl st : Int) (t w : Int) (k : Nat) (pc : List AV) (ys : List AV) (ds : List Wd) : eTidy 40 (coC4 p g sn sd pl st t w k pc .lend ys, [.norm] ++ ds) = some ((), (dueS p g sn sd pl st (tw2 t w) k, ds), [∀ q ∈ (dueS p g sn sd pl st (tw2 t w) k).objs, UndC 40 q.2]) := by kernel_rfl
noncomputable def coR0 (g : G3) (sn sd l1 l2 l3 : List AV) (pl st : Int) (tw : List (Str × AV)) (jj : Nat) (pc : List AV) : St := ⟨44, (43, .list pc) :: (dueU p g sn sd l1 l2 l3 pl st tw jj).objs⟩
noncomputable def coR1 (g : G3) (sn sd l1 l2 l3 : List AV) (pl st : Int) (tw : List (Str × AV)) (jj : Nat) (pc : List AV) (it : Cell) : St := ⟨45, (44, it) :: (coR0 p g sn sd l1 l2 l3 pl st tw jj pc).objs⟩
noncomputable def coR2 (g : G3) (sn sd l1 l2 l3 : List AV) (pl st : Int) (tw : List (Str × AV)) (jj : Nat) (pc : List AV) (it : Cell) (ys : List AV) : St := ⟨46, (45, .list ys) :: (coR1 p g sn sd l1 l2 l3 pl st tw jj pc it).objs⟩
noncomputable def coR3 (g : G3) (sn sd l1 l2 l3 : List AV) (pl st : Int) (tw : List (Str × AV)) (jj : Nat) (pc : List AV) (it : Cell) (ys : List AV) (cm : List (Str × AV)) : St := ⟨47, (46, .ns cm) :: (coR2 p g sn sd l1 l2 l3 pl st tw jj pc it ys).objs⟩
noncomputable def coR4 (g : G3) (sn sd l1 l2 l3 : List AV) (pl st : Int) (tw : List (Str × AV)) (jj : Nat) (pc : List AV) (it : Cell) (ys : List AV) : St := ⟨47, (coR2 p g sn sd l1 l2 l3 pl st tw jj pc it ys).objs⟩
noncomputable def coRAe : AEnv := ⟨compSc (pcL (apR p)), 46, [], .none, 36⟩
theorem coR_ae : (⟨compSc (pcL (apR p)), 46, [], .none, (dAe p).frm⟩ : AEnv) = coRAe p := by kernel_rfl
theorem coR_k2 (g : G3) (sn sd l1 l2 l3 : List AV) (pl st : Int) (tw : List (Str × AV)) (jj : Nat) (pc : List AV) (ds : List Wd) : eIterOf (.ref 43) (coR0 p g sn sd l1 l2 l3 pl st tw jj pc, ds) = some (.ref 44, (coR1 p g sn sd l1 l2 l3 pl st tw jj pc (.liter 43 0), ds), []) := by kernel_rfl
theorem coR_k3 (g : G3) (sn sd l1 l2 l3 : List AV) (pl st : Int) (tw : List (Str × AV)) (jj : Nat) (pc : List AV) (ds : List Wd) : eNewList [] (coR1 p g sn sd l1 l2 l3 pl st tw jj pc (.liter 43 0), ds) = some (.ref 45, (coR2 p g sn sd l1 l2 l3 pl st tw jj pc (.liter 43 0) [], ds), [0 ≤ 1000000]) := by kernel_rfl
theorem coR_k4 (g : G3) (sn sd l1 l2 l3 : List AV) (pl st : Int) (tw : List (Str × AV)) (jj : Nat) (pc : List AV) (ds : List Wd) : EM.push (.ns []) (coR2 p g sn sd l1 l2 l3 pl st tw jj pc (.liter 43 0) [], ds) = some (46, (coR3 p g sn sd l1 l2 l3 pl st tw jj pc (.liter 43 0) [] [], ds), []) := by kernel_rfl
theorem coR_k5 (g : G3) (sn sd l1 l2 l3 : List AV) (pl st : Int) (tw : List (Str × AV)) (jj : Nat) (pc : List AV) (ds : List Wd) : isLit (.ref 44) (coR3 p g sn sd l1 l2 l3 pl st tw jj pc (.liter 43 0) [] [], ds) = some ((), (coR3 p g sn sd l1 l2 l3 pl st tw jj pc (.liter 43 0) [] [], ds), []) := by kernel_rfl
theorem coR_kn (g : G3) (sn sd l1 l2 l3 : List AV) (pl st : Int) (tw : List (Str × AV)) (jj : Nat) (pc : List AV) (ys : List AV) (cm : List (Str × AV)) (j : Nat) (x : Sg) (ds : List Wd) : eNextOwn (compTgt (pcL (apR p))) (.ref 44) ((coR3 p g sn sd l1 l2 l3 pl st tw jj pc (.liter 43 j) ys cm), [.cut [] x.sgn] ++ ds) = some (some x.sgn, ((coR3 p g sn sd l1 l2 l3 pl st tw jj pc (.liter 43 (j + 1)) ys cm), ds), [pc[j]? = some x.sgn]) := by kernel_rfl
theorem coR_ke (g : G3) (sn sd l1 l2 l3 : List AV) (pl st : Int) (tw : List (Str × AV)) (jj : Nat) (pc : List AV) (ys : List AV) (cm : List (Str × AV)) (j : Nat) (ds : List Wd) : eNextOwn (compTgt (pcL (apR p))) (.ref 44) ((coR3 p g sn sd l1 l2 l3 pl st tw jj pc (.liter 43 j) ys cm), [.b false] ++ ds) = some (none, ((coR3 p g sn sd l1 l2 l3 pl st tw jj pc .lend ys cm), ds), [pc[j]? = none]) := by kernel_rfl
theorem coR_s0 (g : G3) (sn sd l1 l2 l3 : List AV) (pl st : Int) (tw : List (Str × AV)) (jj : Nat) (pc : List AV) (ys : List AV) (j : Nat) (x : Sg) (m : Nat) (ds : List Wd) : eAssign (KK p) (RN p (m + 10)) (coRAe p) x.sgn (compTgt (pcL (apR p))) ((coR3 p g sn sd l1 l2 l3 pl st tw jj pc (.liter 43 j) ys []), ds) = some (PUnit.unit, ((coR3 p g sn sd l1 l2 l3 pl st tw jj pc (.liter 43 j) ys [(Str.ofString "sign", x.sgn)]), ds), []) := by kernel_rfl
theorem coR_s1 (g : G3) (sn sd l1 l2 l3 : List AV) (pl st : Int) (tw : List (Str × AV)) (jj : Nat) (pc : List AV) (ys : List AV) (j : Nat) (x : Sg) (z : AV) (m : Nat) (ds : List Wd) : eAssign (KK p) (RN p (m + 10)) (coRAe p) x.sgn (compTgt (pcL (apR p))) ((coR3 p g sn sd l1 l2 l3 pl st tw jj pc (.liter 43 j) ys [(Str.ofString "sign", z)]), ds) = some (PUnit.unit, ((coR3 p g sn sd l1 l2 l3 pl st tw jj pc (.liter 43 j) ys [(Str.ofString "sign", x.sgn)]), ds), []) := by kernel_rfl
theorem coR_kv (g : G3) (sn sd l1 l2 l3 : List AV) (pl st : Int) (tw : List (Str × AV)) (jj : Nat) (pc : List AV) (ys : List AV) (j : Nat) (x : Sg) (m : Nat) (ds : List Wd) : (RN p (m + 10)).ev (coRAe p) (compElt (pcL (apR p))) ((coR3 p g sn sd l1 l2 l3 pl st tw jj pc (.liter 43 j) ys [(Str.ofString "sign", x.sgn)]), [.cut [] (.str x.c)] ++ ds) = some (.str x.c, ((coR3 p g sn sd l1 l2 l3 pl st tw jj pc (.liter 43 j) ys [(Str.ofString "sign", x.sgn)]), ds), [(0 : Int) ≤ 0 ∧ (0 : Int) < 1000000 ∧ [AV.str x.c, .str x.f, .int x.r, .int x.k, .int x.l][(0 : Int).toNat]? = some (.str x.c)]) := by kernel_rfl
theorem coR_ka (g : G3) (sn sd l1 l2 l3 : List AV) (pl st : Int) (tw : List (Str × AV)) (jj : Nat) (pc : List AV) (ys : List AV) (cm : List (Str × AV)) (j : Nat) (v : AV) (ds : List Wd) : eAppend [.ref 45, v] ((coR3 p g sn sd l1 l2 l3 pl st tw jj pc (.liter 43 j) ys cm), ds) = some (.val .none, ((coR3 p g sn sd l1 l2 l3 pl st tw jj pc (.liter 43 j) (ys ++ [v]) cm), ds), [ys.length ≤ 1000000]) := by kernel_rfl
theorem coR_kd (g : G3) (sn sd l1 l2 l3 : List AV) (pl st : Int) (tw : List (Str × AV)) (jj : Nat) (pc : List AV) (ys : List AV) (cm : List (Str × AV)) (ds : List Wd) : delCell 46 ((coR3 p g sn sd l1 l2 l3 pl st tw jj pc .lend ys cm), ds) = some ((), (coR4 p g sn sd l1 l2 l3 pl st tw jj pc .lend ys, ds), []) := by kernel_rfl
theorem coR_jc (g : G3) (sn sd l1 l2 l3 : List AV) (pl st : Int) (tw : List (Str × AV)) (jj : Nat) (pc : List AV) (ys : List AV) (m : Nat) (ds : List Wd) : (RN p (m + 10)).call (.val (.builtin "str.join")) [.str (Str.ofString ""), .ref 45] [] (coR4 p g sn sd l1 l2 l3 pl st tw jj pc .lend ys, ds) = some (.str (Txt.join (Str.ofString "") (strsAt ys)), (coR4 p g sn sd l1 l2 l3 pl st tw jj pc .lend ys, ds), [ys.length ≤ 1000000, (∀ y ∈ ys, (strAt y).isSome = true) ∧ JoinOk (Str.ofString "") (strsAt ys) = true]) := by kernel_rfl
theorem coR_jm (ds : List Wd) (σ : St) : eMethod (KK p) (.str (Str.ofString "")) "join" (σ, ds) = some ((.val (.builtin "str.join"), [.str (Str.ofString "")]), (σ, ds), []) := by kernel_rfl
theorem coR_ts (g : G3) (sn sd l1 l2 l3 : List AV) (pl st : Int) (tw : List (Str × AV)) (jj : Nat) (pc : List AV) (ys : List AV) (x : Sg) (m : Nat) (ds : List Wd) : (RN p (m + 10)).ev (dAe p) (binR (pcB (apR p))) (coR4 p g sn sd l1 l2 l3 pl st tw jj pc .lend ys, [.cut [] x.sgn] ++ ds) = some (.tup [.str x.f, .int x.r, .int x.k, .int x.l], (coR4 p g sn sd l1 l2 l3 pl st tw jj pc .lend ys, ds), [g.ss.length ≤ 1000000, 0 ≤ st ∧ st < 1000000 ∧ g.ss[st.toNat]? = some x.sgn, 4 ≤ 1000000]) := by kernel_rfl
theorem coR_ap (g : G3) (sn sd l1 l2 l3 : List AV) (pl st : Int) (tw : List (Str × AV)) (jj : Nat) (pc : List AV) (ys : List AV) (v : AV) (m : Nat) (ds : List Wd) : (RN p (m + 10)).call (.val (.builtin "list.append")) [.ref 37, v] [] (coR4 p g sn sd l1 l2 l3 pl st tw jj pc .lend ys, ds) = some (.val .none, (coR4 p g sn (sd ++ [v]) l1 l2 l3 pl st tw jj pc .lend ys, ds), [sd.length ≤ 1000000]) := by kernel_rfl
theorem coR_k1 (g : G3) (sn sd l1 l2 l3 : List AV) (pl st : Int) (tw : List (Str × AV)) (jj : Nat) (m : Nat) (ds : List Wd) : (RN p (m + 10)).ev (dAe p) (compIter (pcL (apR p))) (dueU p g sn sd l1 l2 l3 pl st tw jj, ds) = some (.ref 43, (coR0 p g sn sd l1 l2 l3 pl st tw jj (pickG g.ss (some st) none), ds), [g.ss.length ≤ 1000000, (pickG g.ss (some st) none).length ≤ 1000000]) := by kernel_rfl
theorem coR_se (g : G3) (sn sd l1 l2 l3 : List AV) (pl st : Int) (tw : List (Str × AV)) (jj : Nat) (m : Nat) (ds : List Wd) : (RN p (m + 10)).ev (dAe p) (clO (apR p)) (dueU p g sn sd l1 l2 l3 pl st tw jj, ds) = some (.ref 37, (dueU p g sn sd l1 l2 l3 pl st tw jj, ds), []) := by kernel_rfl
theorem coR_sm (g : G3) (sn sd l1 l2 l3 : List AV) (pl st : Int) (tw : List (Str × AV)) (jj : Nat) (ds : List Wd) : eMethod (KK p) (.ref 37) "append" (dueU p g sn sd l1 l2 l3 pl st tw jj, ds) = some ((.val (.builtin "list.append"), [.ref 37]), (dueU p g sn sd l1 l2 l3 pl st tw jj, ds), []) := by kernel_rfl
theorem coR_em (g : G3) (sn sd l1 l2 l3 : List AV) (pl st : Int) (tw : List (Str × AV)) (jj : Nat) (m : Nat) (ds : List Wd) : (RN p (m + 10)).ev (dAe p) (clO (pcJ (apR p))) (dueU p g sn sd l1 l2 l3 pl st tw jj, ds) = some (.str (Str.ofString ""), (dueU p g sn sd l1 l2 l3 pl st tw jj, ds), []) := by kernel_rfl
theorem coR_ty (g : G3) (sn sd l1 l2 l3 : List AV) (pl st : Int) (tw : List (Str × AV)) (jj : Nat) (m : Nat) (ds : List Wd) : (RN p (m + 10)).ev (dAe p) (nthE (tupE (pcT (apR p))) 0) (dueU p g sn sd l1 l2 l3 pl st tw jj, ds) = some (.str (Str.ofString "rest"), (dueU p g sn sd l1 l2 l3 pl st tw jj, ds), []) := by kernel_rfl
theorem coR_rt (g : G3) (sn sd l1 l2 l3 : List AV) (pl st : Int) (tw : List (Str × AV)) (jj : Nat) (pc : List AV) (ys : List AV) (m : Nat) (ds : List Wd) : (RN p (m + 10)).exs (dAe p) [nthS (dueB p) 4] (coR4 p g sn sd l1 l2 l3 pl st tw jj pc .lend ys, ds) = some (.ret (.ref 37), (coR4 p g sn sd l1 l2 l3 pl st tw jj pc .lend ys, ds), []) := by kernel_rfl
theorem pe_rr (g : G3) (sn sd l1 l2 l3 : List AV) (pl st : Int) (tw : List (Str × AV)) (jj : Nat) (m : Nat) (ds : List Wd) : (RN p (m + 10)).exs (dAe p) [nthS (dueB p) 4] (dueU p g sn sd l1 l2 l3 pl st tw jj, ds) = some (.ret (.ref 37), (dueU p g sn sd l1 l2 l3 pl st tw jj, ds), []) := by kernel_rfl
end
section
variable {p : Params} {g : G3} {sn sd : List AV} {pl st t w : Int} {k m : Nat}
theorem due_w6 (h : w = 6) : Go ((RN p (m + 20)).exs (dAe p) (forBody (dFor p))) (dueS p g sn sd pl st (tw2 t w) k) .next (dueS p g sn sd pl st (tw2 t w) k) := by
  subst h
  exact Go.of _ (fun ds => pe_w6 p g sn sd pl st t 6 k m ds) ⟨rfl, rfl, rfl, by decide, rfl, rfl, rfl, rfl, rfl, trivial⟩
theorem due_w8 (h : w = 8) : Go ((RN p (m + 20)).exs (dAe p) (forBody (dFor p))) (dueS p g sn sd pl st (tw2 t w) k) .next (dueS p g sn sd pl pl (tw2 t w) k) := by
  subst h
  exact Go.of _ (fun ds => pe_w8 p g sn sd pl st t 8 k m ds) ⟨rfl, trivial⟩
theorem due_bk (h : w = 4 ∨ w = 5) (hp : pl > st) : Go ((RN p (m + 20)).exs (dAe p) (forBody (dFor p))) (dueS p g sn sd pl st (tw2 t w) k) .next (dueS p g sn sd (pl - 1) st (tw2 t w) k) := by
  refine Go.of _ (fun ds => pe_bk p g sn sd pl st t w k m ds) ⟨?_, ?_, rfl, by decide, h4t h, decide_eq_true hp, rfl, trivial⟩
  · rcases h with rfl | rfl <;> rfl
  · rcases h with rfl | rfl <;> rfl
end
theorem nbt {w n : Int} (h : w ≠ n) : (w != n) = true := by rw [bne, bf h]; rfl
section
variable {p : Params} {g : G3} {sn sd : List AV} {pl st t w : Int} {k m : Nat}
theorem due_tk {y : AV} (h8 : w ≠ 8) (h6 : w ≠ 6) (h7 : w = 7 → ¬ pl > st) (h4 : w = 4 ∨ w = 5 → ¬ pl > st) (hn : g.ss.length ≤ 900) (hsd : sd.length ≤ 900) (hp : 0 ≤ pl) (hl : pl < g.ss.length) (hy : g.ss[pl.toNat]? = some y) :
    Go ((RN p (m + 20)).exs (dAe p) (forBody (dFor p))) (dueS p g sn sd pl st (tw2 t w) k) .next (dueS p g sn (sd ++ [y]) (pl + 1) st (tw2 t w) k) := by
  have c8 : (w == Int.ofNat 8) = false := bf h8
  have c6 : (w != Int.ofNat 6) = true := nbt h6
  have d1 : decide (pl < Int.ofNat g.ss.length) = true := decide_eq_true hl
  have e1 : (0 ≤ pl ∧ pl < 1000000 ∧ g.ss[pl.toNat]? = some y) := ⟨hp, by omega, hy⟩
  by_cases h : w = 7
  · have n : decide (pl > st) = false := decide_eq_false (h7 h)
    exact Go.of _ (fun ds => pe_tksn p g sn sd pl st t w k y m ds) ⟨c8, bt h, n, rfl, by decide, h4f (by omega) (by omega), rfl, c6, by omega, d1, rfl, by omega, e1, by omega, trivial⟩
  · by_cases h' : w = 4 ∨ w = 5
    · have n : decide (pl > st) = false := decide_eq_false (h4 h')
      exact Go.of _ (fun ds => pe_tkns p g sn sd pl st t w k y m ds) ⟨c8, bf h, rfl, by decide, h4t h', n, rfl, c6, by omega, d1, rfl, by omega, e1, by omega, trivial⟩
    · exact Go.of _ (fun ds => pe_tknn p g sn sd pl st t w k y m ds) ⟨c8, bf h, rfl, by decide, h4f (by omega) (by omega), rfl, c6, by omega, d1, rfl, by omega, e1, by omega, trivial⟩
theorem due_no (h8 : w ≠ 8) (h6 : w ≠ 6) (h7 : w = 7 → ¬ pl > st) (h4 : w = 4 ∨ w = 5 → ¬ pl > st) (hn : g.ss.length ≤ 900) (hsd : sd.length ≤ 900) (hl : ¬ pl < g.ss.length) :
    Go ((RN p (m + 20)).exs (dAe p) (forBody (dFor p))) (dueS p g sn sd pl st (tw2 t w) k) .next (dueS p g sn (sd ++ [if w = 3 then refV else noneV]) pl st (tw2 t w) k) := by
  have c8 : (w == Int.ofNat 8) = false := bf h8
  have c6 : (w != Int.ofNat 6) = true := nbt h6
  have d1 : decide (pl < Int.ofNat g.ss.length) = false := decide_eq_false hl
  by_cases h : w = 7
  · have n : decide (pl > st) = false := decide_eq_false (h7 h)
    rw [if_neg (by omega)]
    exact Go.of _ (fun ds => pe_nosn p g sn sd pl st t w k m ds) ⟨c8, bt h, n, rfl, by decide, h4f (by omega) (by omega), rfl, c6, by omega, d1, rfl, c6, bf (n := 3) (by omega), by omega, trivial⟩
  · by_cases h' : w = 4 ∨ w = 5
    · have n : decide (pl > st) = false := decide_eq_false (h4 h')
      rw [if_neg (by omega)]
      exact Go.of _ (fun ds => pe_nons p g sn sd pl st t w k m ds) ⟨c8, bf h, rfl, by decide, h4t h', n, rfl, c6, by omega, d1, rfl, c6, bf (n := 3) (by omega), by omega, trivial⟩
    · by_cases h3 : w = 3
      · rw [if_pos h3]
        exact Go.of _ (fun ds => pe_n3 p g sn sd pl st t w k m ds) ⟨c8, bf h, rfl, by decide, h4f (by omega) (by omega), rfl, c6, by omega, d1, rfl, c6, bt h3, by decide, by omega, trivial⟩
      · rw [if_neg h3]
        exact Go.of _ (fun ds => pe_nonn p g sn sd pl st t w k m ds) ⟨c8, bf h, rfl, by decide, h4f (by omega) (by omega), rfl, c6, by omega, d1, rfl, c6, bf h3, by omega, trivial⟩
end
noncomputable abbrev zz (n : Nat) : Int := (n : Int)
theorem due_turn {p : Params} {g : G3} {sn sd : List AV} {t w : Int} {k m : Nat} {D W U : List Sg} (hss : g.ss = (D ++ W ++ U).map Sg.sgn) (hn : (D ++ W ++ U).length ≤ 100) (hsd : sd.length ≤ 900) (hc : ¬ (w = 7 ∧ W ≠ [])) :
    ∃ D', D' ++ (spStep w W U).2.1 ++ (spStep w W U).2.2 = D ++ W ++ U ∧ (spStep w W U).1.length ≤ 1 ∧ CL (spStep w W U).1 ∧
      Go ((RN p (m + 20)).exs (dAe p) (forBody (dFor p))) (dueS p g sn sd (zz (D.length + W.length)) (zz D.length) (tw2 t w) k) .next (dueS p g sn (sd ++ (spStep w W U).1) (zz (D'.length + (spStep w W U).2.1.length)) (zz D'.length) (tw2 t w) k) := by
  have hlen : g.ss.length = D.length + W.length + U.length := by rw [hss, List.length_map, List.length_append, List.length_append]
  rw [List.length_append, List.length_append] at hn
  unfold spStep
  by_cases h8 : w = 8
  · rw [if_pos h8]
    refine ⟨D ++ W, by simp, by simp, CL.nil, ?_⟩
    dsimp only
    rw [List.append_nil, List.length_append]
    exact due_w8 h8
  rw [if_neg h8]
  by_cases h6 : w = 6
  · rw [if_pos h6]
    refine ⟨D, rfl, by simp, CL.nil, ?_⟩
    dsimp only
    rw [List.append_nil]
    exact due_w6 h6
  rw [if_neg h6]
  by_cases hb : (w = 4 ∨ w = 5) ∧ W ≠ []
  · rw [if_pos hb]
    obtain ⟨W', x, rfl⟩ : ∃ W' x, W = W' ++ [x] := ⟨W.dropLast, W.getLast hb.2, (List.dropLast_concat_getLast hb.2).symm⟩
    refine ⟨D, by simp, by simp, CL.nil, ?_⟩
    dsimp only
    rw [List.append_nil, List.dropLast_concat, List.length_append, List.length_singleton]
    have e : zz (D.length + (W'.length + 1)) - 1 = zz (D.length + W'.length) := by show ((D.length + (W'.length + 1) : Nat) : Int) - 1 = ((D.length + W'.length : Nat) : Int); omega
    rw [← e]
    exact due_bk hb.1 (by show ((D.length + (W'.length + 1) : Nat) : Int) > (D.length : Int); omega)
  · rw [if_neg hb]
    have h7 : w = 7 → ¬ (zz (D.length + W.length) > zz D.length) := fun h => by
      have : W = [] := by
        by_cases hw : W = []
        · exact hw
        · exact absurd ⟨h, hw⟩ hc
      subst this
      show ¬ ((D.length + 0 : Nat) : Int) > (D.length : Int)
      omega
    have h4 : w = 4 ∨ w = 5 → ¬ (zz (D.length + W.length) > zz D.length) := fun h => by
      have : W = [] := by
        by_cases hw : W = []
        · exact hw
        · exact absurd ⟨h, hw⟩ hb
      subst this
      show ¬ ((D.length + 0 : Nat) : Int) > (D.length : Int)
      omega
    cases U with
    | nil =>
      refine ⟨D, rfl, by simp [spTake], ?_, ?_⟩
      · show CL [_]
        refine CL.cons (fun N => ?_) CL.nil
        split
        · exact CL.tup (CL.cons (fun _ => .str _) (CL.cons (fun _ => .val _) CL.nil)) N
        · exact .val _
      · show Go _ _ _ (dueS p g sn (sd ++ [if w = 3 then refV else noneV]) _ _ _ _)
        exact due_no h8 h6 h7 h4 (by omega) hsd (by rw [hlen]; show ¬ ((D.length + W.length : Nat) : Int) < ((D.length + W.length + 0 : Nat) : Int); omega)
    | cons x U =>
      rw [List.length_cons] at hlen hn
      refine ⟨D, by simp [spTake], by simp [spTake], ?_, ?_⟩
      · show CL [x.sgn]
        exact cl_sgs [x]
      · show Go _ _ _ (dueS p g sn (sd ++ [x.sgn]) (zz (D.length + (W ++ [x]).length)) _ _ _)
        have e : zz (D.length + (W ++ [x]).length) = zz (D.length + W.length) + 1 := by rw [List.length_append, List.length_singleton]; show ((D.length + (W.length + 1) : Nat) : Int) = ((D.length + W.length : Nat) : Int) + 1; omega
        rw [e]
        refine due_tk h8 h6 h7 h4 (by omega) hsd (by show (0 : Int) ≤ ((D.length + W.length : Nat) : Int); omega) (by rw [hlen]; show ((D.length + W.length : Nat) : Int) < ((D.length + W.length + (U.length + 1) : Nat) : Int); omega) ?_
        rw [hss, show (zz (D.length + W.length)).toNat = (D ++ W).length by rw [List.length_append]; rfl, List.map_append, List.getElem?_append_right (by rw [List.length_map]; exact Nat.le_refl _), List.length_map, Nat.sub_self]
        rfl
theorem RN_comp (p : Params) : ∀ n ae e t it acc, (RN p (n + 1)).comp ae e t it acc = eComp (KK p) (RN p n) ae e t it acc := fun _ _ _ _ _ _ => rfl
noncomputable def Sg.sc (x : Sg) : AV := .str x.c
theorem strsAt_c (W : List Sg) : strsAt (W.map Sg.sc) = W.map (·.c) := by
  unfold strsAt
  rw [List.map_map]
  rfl
theorem all_str (W : List Sg) : ∀ y ∈ W.map Sg.sc, (strAt y).isSome = true := fun y hy => by
  obtain ⟨x, _, rfl⟩ := List.mem_map.mp hy
  rfl
noncomputable def SgnOk (cm : List (Str × AV)) : Prop := cm = [] ∨ ∃ z, cm = [(Str.ofString "sign", z)]
noncomputable def sgnCm (x : Sg) : List (Str × AV) := [(Str.ofString "sign", x.sgn)]
theorem getMap {pc : List Sg} {j : Nat} {x : Sg} (h : pc[j]? = some x) : (pc.map Sg.sgn)[j]? = some x.sgn := by rw [List.getElem?_map, h]; rfl
theorem getMapN {pc : List Sg} {j : Nat} (h : pc[j]? = none) : (pc.map Sg.sgn)[j]? = none := by rw [List.getElem?_map, h]; rfl
theorem newtup2 {a b : AV} {σ : St} : Go (eNewTuple [a, b]) σ (.tup [a, b]) σ := Go.of (cs := [[a, b].length ≤ 1000000]) [] (fun ds => rfl) ⟨(by decide : 2 ≤ 1000000), trivial⟩
theorem addtup {a b c d e f : AV} {σ : St} : Go (eBinX .Add (.tup [a, b]) (.tup [c, d, e, f])) σ (.tup [a, b, c, d, e, f]) σ := show Go (EM.bind (EM.cond ([a, b].isEmpty = false ∧ [c, d, e, f].isEmpty = false)) fun _ => eNewTuple ([a, b] ++ [c, d, e, f])) σ _ σ from
  Go.cond ⟨rfl, rfl⟩ (Go.of (cs := [([a, b] ++ [c, d, e, f]).length ≤ 1000000]) [] (fun ds => rfl) ⟨(by decide : 6 ≤ 1000000), trivial⟩)
theorem coC_go {p : Params} {g : G3} {sn sd : List AV} {pl st t w : Int} {k m : Nat} {pc : List Sg} (hpc : pickG g.ss (some st) (some pl) = pc.map Sg.sgn) (hn : pc.length ≤ 100) (hg : g.ss.length ≤ 900) (hm : 20 + pc.length ≤ m) :
    Go ((RN p (m + 1)).ev (dAe p) (pcL (apC p))) (dueS p g sn sd pl st (tw2 t w) k) (.ref 42) (coC4 p g sn sd pl st t w k (pc.map Sg.sgn) .lend (pc.map Sg.sc)) := by
  obtain ⟨cm', h⟩ := comp_gen (K := KK p) (R := RN p) (RN_comp p) (ae := coCAe p) (elt := compElt (pcL (apC p))) (tgt := compTgt (pcL (apC p))) (it := .ref 41) (acc := .ref 42) pc Sg.sgn Sg.sc (fun c ys cm => coC3 p g sn sd pl st t w k (pc.map Sg.sgn) c ys cm) 40 10 SgnOk sgnCm
    (fun j ys cm x hx => Go.of _ (fun ds => coC_kn p g sn sd pl st t w k (pc.map Sg.sgn) ys cm j x ds) ⟨getMap hx, trivial⟩)
    (fun j ys cm hx => Go.of _ (fun ds => coC_ke p g sn sd pl st t w k (pc.map Sg.sgn) ys cm j ds) ⟨getMapN hx, trivial⟩)
    (fun m j ys cm x hc => by
      rcases hc with rfl | ⟨z, rfl⟩
      · exact Go.of [] (fun ds => coC_s0 p g sn sd pl st t w k (pc.map Sg.sgn) ys j x m ds) trivial
      · exact Go.of [] (fun ds => coC_s1 p g sn sd pl st t w k (pc.map Sg.sgn) ys j x z m ds) trivial)
    (fun x => .inr ⟨_, rfl⟩)
    (fun m j ys x _ => Go.of _ (fun ds => coC_kv p g sn sd pl st t w k (pc.map Sg.sgn) ys j x m ds) ⟨⟨by decide, by decide, rfl⟩, trivial⟩)
    (fun j ys cm v hy => Go.of [] (fun ds => coC_ka p g sn sd pl st t w k (pc.map Sg.sgn) ys cm j v ds) ⟨by omega, trivial⟩)
    pc [] m (by omega) [] (by rw [List.length_nil]; omega) [] (.inl rfl) rfl
  simp only [List.length_nil, List.nil_append] at h
  rw [pf_lc p m (apC p) (.inl rfl)]
  unfold eListComp
  refine Go.bind (b := (AV.ref 42, 43)) (σ' := coC3 p g sn sd pl st t w k (pc.map Sg.sgn) .lend (pc.map Sg.sc) cm') ?_ ?_
  · refine Go.chk (pf_stars p (apC p) (.inl rfl)).2.2.2.2 ?_
    refine Go.bind (b := .ref 40) (σ' := coC0 p g sn sd pl st t w k (pc.map Sg.sgn)) ?_ ?_
    · obtain ⟨m', rfl⟩ : ∃ m', m = m' + 10 := ⟨m - 10, by omega⟩
      rw [← hpc]
      exact Go.of [] (fun ds => coC_k1 p g sn sd pl st t w k m' ds) ⟨by omega, by rw [hpc, List.length_map]; omega, trivial⟩
    refine (Go.of [] (fun ds => coC_k2 p g sn sd pl st t w k (pc.map Sg.sgn) ds) trivial).bind ?_
    refine (Go.of [] (fun ds => coC_k3 p g sn sd pl st t w k (pc.map Sg.sgn) ds) ⟨by decide, trivial⟩).bind ?_
    refine (Go.of [] (fun ds => coC_k4 p g sn sd pl st t w k (pc.map Sg.sgn) ds) trivial).bind ?_
    refine (Go.of [] (fun ds => coC_k5 p g sn sd pl st t w k (pc.map Sg.sgn) ds) trivial).bind ?_
    rw [coC_ae]
    exact Go.bind (b := AFlow.next) (σ' := coC3 p g sn sd pl st t w k (pc.map Sg.sgn) .lend (pc.map Sg.sc) cm') h Go.ret
  · exact (Go.of [] (fun ds => coC_kd p g sn sd pl st t w k (pc.map Sg.sgn) _ cm' ds) trivial).bind Go.ret
theorem coR_go {p : Params} {g : G3} {sn sd l1 l2 l3 : List AV} {pl st : Int} {tw : List (Str × AV)} {jj m : Nat} {pc : List Sg} (hpc : pickG g.ss (some st) none = pc.map Sg.sgn) (hn : pc.length ≤ 100) (hg : g.ss.length ≤ 900) (hm : 20 + pc.length ≤ m) :
    Go ((RN p (m + 1)).ev (dAe p) (pcL (apR p))) (dueU p g sn sd l1 l2 l3 pl st tw jj) (.ref 45) (coR4 p g sn sd l1 l2 l3 pl st tw jj (pc.map Sg.sgn) .lend (pc.map Sg.sc)) := by
  obtain ⟨cm', h⟩ := comp_gen (K := KK p) (R := RN p) (RN_comp p) (ae := coRAe p) (elt := compElt (pcL (apR p))) (tgt := compTgt (pcL (apR p))) (it := .ref 44) (acc := .ref 45) pc Sg.sgn Sg.sc (fun c ys cm => coR3 p g sn sd l1 l2 l3 pl st tw jj (pc.map Sg.sgn) c ys cm) 43 10 SgnOk sgnCm
    (fun j ys cm x hx => Go.of _ (fun ds => coR_kn p g sn sd l1 l2 l3 pl st tw jj (pc.map Sg.sgn) ys cm j x ds) ⟨getMap hx, trivial⟩)
    (fun j ys cm hx => Go.of _ (fun ds => coR_ke p g sn sd l1 l2 l3 pl st tw jj (pc.map Sg.sgn) ys cm j ds) ⟨getMapN hx, trivial⟩)
    (fun m j ys cm x hc => by
      rcases hc with rfl | ⟨z, rfl⟩
      · exact Go.of [] (fun ds => coR_s0 p g sn sd l1 l2 l3 pl st tw jj (pc.map Sg.sgn) ys j x m ds) trivial
      · exact Go.of [] (fun ds => coR_s1 p g sn sd l1 l2 l3 pl st tw jj (pc.map Sg.sgn) ys j x z m ds) trivial)
    (fun x => .inr ⟨_, rfl⟩)
    (fun m j ys x _ => Go.of _ (fun ds => coR_kv p g sn sd l1 l2 l3 pl st tw jj (pc.map Sg.sgn) ys j x m ds) ⟨⟨by decide, by decide, rfl⟩, trivial⟩)
    (fun j ys cm v hy => Go.of [] (fun ds => coR_ka p g sn sd l1 l2 l3 pl st tw jj (pc.map Sg.sgn) ys cm j v ds) ⟨by omega, trivial⟩)
    pc [] m (by omega) [] (by rw [List.length_nil]; omega) [] (.inl rfl) rfl
  simp only [List.length_nil, List.nil_append] at h
  rw [pf_lc p m (apR p) (.inr rfl)]
  unfold eListComp
  refine Go.bind (b := (AV.ref 45, 46)) (σ' := coR3 p g sn sd l1 l2 l3 pl st tw jj (pc.map Sg.sgn) .lend (pc.map Sg.sc) cm') ?_ ?_
  · refine Go.chk (pf_stars p (apR p) (.inr rfl)).2.2.2.2 ?_
    refine Go.bind (b := .ref 43) (σ' := coR0 p g sn sd l1 l2 l3 pl st tw jj (pc.map Sg.sgn)) ?_ ?_
    · obtain ⟨m', rfl⟩ : ∃ m', m = m' + 10 := ⟨m - 10, by omega⟩
      rw [← hpc]
      exact Go.of [] (fun ds => coR_k1 p g sn sd l1 l2 l3 pl st tw jj m' ds) ⟨by omega, by rw [hpc, List.length_map]; omega, trivial⟩
    refine (Go.of [] (fun ds => coR_k2 p g sn sd l1 l2 l3 pl st tw jj (pc.map Sg.sgn) ds) trivial).bind ?_
    refine (Go.of [] (fun ds => coR_k3 p g sn sd l1 l2 l3 pl st tw jj (pc.map Sg.sgn) ds) ⟨by decide, trivial⟩).bind ?_
    refine (Go.of [] (fun ds => coR_k4 p g sn sd l1 l2 l3 pl st tw jj (pc.map Sg.sgn) ds) trivial).bind ?_
    refine (Go.of [] (fun ds => coR_k5 p g sn sd l1 l2 l3 pl st tw jj (pc.map Sg.sgn) ds) trivial).bind ?_
    rw [coR_ae]
    exact Go.bind (b := AFlow.next) (σ' := coR3 p g sn sd l1 l2 l3 pl st tw jj (pc.map Sg.sgn) .lend (pc.map Sg.sc) cm') h Go.ret
  · exact (Go.of [] (fun ds => coR_kd p g sn sd l1 l2 l3 pl st tw jj (pc.map Sg.sgn) _ cm' ds) trivial).bind Go.ret
theorem kp_join (p : Params) : keepOk (KK p) (.val (.builtin "str.join")) = true := by kernel_rfl
theorem kp_app (p : Params) : keepOk (KK p) (.val (.builtin "list.append")) = true := by kernel_rfl
theorem pf_s1 (p : Params) (n : Nat) : eOne (KK p) (ext3 p) (RN p n) (xrecN (KK p) (ext3 p) n) (dAe p) (nthS (ifBody (if7 p)) 0) = EM.bind ((RN p n).ev (dAe p) (apC p)) fun _ => EM.ret .next := by kernel_rfl
theorem pf_sr (p : Params) (n : Nat) : eOne (KK p) (ext3 p) (RN p n) (xrecN (KK p) (ext3 p) n) (dAe p) (nthS (ifBody (nthS (dueB p) 3)) 0) = EM.bind ((RN p n).ev (dAe p) (apR p)) fun _ => EM.ret .next := by kernel_rfl
theorem mod3b (t : Int) : 0 ≤ (t + 1).fmod 3 ∧ (t + 1).fmod 3 < 2 ^ 63 := by
  rcases mod3 (t + 1) with h | h | h
  all_goals
    have h' : (t + 1).fmod 3 = _ := h
    rw [h']
    decide
theorem apC_go {p : Params} {g : G3} {sn sd : List AV} {pl st t w : Int} {k m : Nat} {x : Sg} {W : List Sg} (hpc : pickG g.ss (some st) (some pl) = (x :: W).map Sg.sgn) (hn : (x :: W).length ≤ 100) (hg : g.ss.length ≤ 900) (hsd : sd.length ≤ 900) (hm : 40 + (x :: W).length ≤ m) (hsh : Short (x :: W))
    (h0 : 0 ≤ st ∧ st < 1000000) (hx : g.ss[st.toNat]? = some x.sgn) :
    Go ((RN p (m + 5)).ev (dAe p) (apC p)) (dueS p g sn sd pl st (tw2 t w) k) (.val .none) (coC4 p g sn (sd ++ [evTok (cutTy (t + 1)) (x :: W)]) pl st t w k ((x :: W).map Sg.sgn) .lend ((x :: W).map Sg.sc)) := by
  obtain ⟨n, rfl⟩ : ∃ n, m = n + 10 := ⟨m - 10, by omega⟩
  obtain ⟨s1, s2, s3, s4, _⟩ := pf_stars p (apC p) (.inl rfl)
  have hLC := coC_go (p := p) (sn := sn) (sd := sd) (t := t) (w := w) (k := k) (m := n + 10) hpc hn hg (by omega)
  rw [pf_call p (n + 10 + 4) (apC p) (.inl rfl)]
  refine Go.meth (f := .val (.builtin "list.append")) (first := [.ref 37]) (as := [evTok (cutTy (t + 1)) (x :: W)]) (Go.of [] (fun ds => coC_se p g sn sd pl st t w k (n + 4) ds) trivial) (Go.of [] (fun ds => coC_sm p g sn sd pl st t w k ds) trivial) (kp_app p) (Go.args1 s1 ?_) (Go.of [] (fun ds => coC_ap p g sn sd pl st t w k ((x :: W).map Sg.sgn) _ _ (n + 4) ds) ⟨by omega, trivial⟩)
  rw [pf_bin p (n + 10 + 3) (apC p) (.inl rfl)]
  refine Go.bind (b := .tup [.str (cutTy (t + 1)), .str (jn (x :: W))]) (σ' := coC4 p g sn sd pl st t w k ((x :: W).map Sg.sgn) .lend ((x :: W).map Sg.sc)) ?_ ((Go.of _ (fun ds => coC_ts p g sn sd pl st t w k ((x :: W).map Sg.sgn) _ x (n + 3) ds) ⟨by omega, ⟨h0.1, h0.2, hx⟩, by decide, trivial⟩).bind addtup)
  rw [pf_tup p (n + 10 + 2) (apC p) (.inl rfl)]
  refine (Go.argsC s2 (Go.of [] (fun ds => coC_ty p g sn sd pl st t w k (n + 2) ds) ⟨by decide, mod3b t, cut_len (t + 1), trivial⟩) (Go.args1 s3 ?_)).bind newtup2
  rw [pf_join p (n + 10 + 1) (apC p) (.inl rfl)]
  refine Go.meth (f := .val (.builtin "str.join")) (first := [.str (Str.ofString "")]) (as := [.ref 42]) (Go.of [] (fun ds => coC_em p g sn sd pl st t w k (n + 1) ds) trivial) (Go.of [] (fun ds => coC_jm p ds _) trivial) (kp_join p) (Go.args1 s4 hLC) ?_
  unfold jn
  rw [← strsAt_c]
  exact Go.of [] (fun ds => coC_jc p g sn sd pl st t w k ((x :: W).map Sg.sgn) _ (n + 1) ds) ⟨by rw [List.length_map]; omega, ⟨all_str _, by rw [strsAt_c]; exact joinOk _ hsh hn⟩, trivial⟩
theorem apR_go {p : Params} {g : G3} {sn sd l1 l2 l3 : List AV} {pl st : Int} {tw : List (Str × AV)} {jj m : Nat} {x : Sg} {W : List Sg} (hpc : pickG g.ss (some st) none = (x :: W).map Sg.sgn) (hn : (x :: W).length ≤ 100) (hg : g.ss.length ≤ 900) (hsd : sd.length ≤ 900) (hm : 40 + (x :: W).length ≤ m) (hsh : Short (x :: W))
    (h0 : 0 ≤ st ∧ st < 1000000) (hx : g.ss[st.toNat]? = some x.sgn) :
    Go ((RN p (m + 5)).ev (dAe p) (apR p)) (dueU p g sn sd l1 l2 l3 pl st tw jj) (.val .none) (coR4 p g sn (sd ++ [evTok "rest" (x :: W)]) l1 l2 l3 pl st tw jj ((x :: W).map Sg.sgn) .lend ((x :: W).map Sg.sc)) := by
  obtain ⟨n, rfl⟩ : ∃ n, m = n + 10 := ⟨m - 10, by omega⟩
  obtain ⟨s1, s2, s3, s4, _⟩ := pf_stars p (apR p) (.inr rfl)
  have hLC := coR_go (p := p) (sn := sn) (sd := sd) (l1 := l1) (l2 := l2) (l3 := l3) (tw := tw) (jj := jj) (pl := pl) (m := n + 10) hpc hn hg (by omega)
  rw [pf_call p (n + 10 + 4) (apR p) (.inr rfl)]
  refine Go.meth (f := .val (.builtin "list.append")) (first := [.ref 37]) (as := [evTok "rest" (x :: W)]) (Go.of [] (fun ds => coR_se p g sn sd l1 l2 l3 pl st tw jj (n + 4) ds) trivial) (Go.of [] (fun ds => coR_sm p g sn sd l1 l2 l3 pl st tw jj ds) trivial) (kp_app p) (Go.args1 s1 ?_) (Go.of [] (fun ds => coR_ap p g sn sd l1 l2 l3 pl st tw jj ((x :: W).map Sg.sgn) _ _ (n + 4) ds) ⟨by omega, trivial⟩)
  rw [pf_bin p (n + 10 + 3) (apR p) (.inr rfl)]
  refine Go.bind (b := .tup [.str "rest", .str (jn (x :: W))]) (σ' := coR4 p g sn sd l1 l2 l3 pl st tw jj ((x :: W).map Sg.sgn) .lend ((x :: W).map Sg.sc)) ?_ ((Go.of _ (fun ds => coR_ts p g sn sd l1 l2 l3 pl st tw jj ((x :: W).map Sg.sgn) _ x (n + 3) ds) ⟨by omega, ⟨h0.1, h0.2, hx⟩, by decide, trivial⟩).bind addtup)
  rw [pf_tup p (n + 10 + 2) (apR p) (.inr rfl)]
  refine (Go.argsC s2 (Go.of [] (fun ds => coR_ty p g sn sd l1 l2 l3 pl st tw jj (n + 2) ds) trivial) (Go.args1 s3 ?_)).bind newtup2
  rw [pf_join p (n + 10 + 1) (apR p) (.inr rfl)]
  refine Go.meth (f := .val (.builtin "str.join")) (first := [.str (Str.ofString "")]) (as := [.ref 45]) (Go.of [] (fun ds => coR_em p g sn sd l1 l2 l3 pl st tw jj (n + 1) ds) trivial) (Go.of [] (fun ds => coR_jm p ds _) trivial) (kp_join p) (Go.args1 s4 hLC) ?_
  unfold jn
  rw [← strsAt_c]
  exact Go.of [] (fun ds => coR_jc p g sn sd l1 l2 l3 pl st tw jj ((x :: W).map Sg.sgn) _ (n + 1) ds) ⟨by rw [List.length_map]; omega, ⟨all_str _, by rw [strsAt_c]; exact joinOk _ hsh hn⟩, trivial⟩
theorem RN_forl (p : Params) (n : Nat) (ae : AEnv) (t : PySem.Expr) (it : AV) (b : List Stmt) : (RN p (n + 1)).forl ae t it b = eForL (KK p) (RN p n) ae t it b := rfl
theorem dropW {D W U : List Sg} : ((D ++ W ++ U).map Sg.sgn).drop D.length = (W ++ U).map Sg.sgn := by
  rw [List.append_assoc, List.map_append, List.drop_left' (by rw [List.length_map])]
theorem due_cut {p : Params} {g : G3} {sn sd : List AV} {t w : Int} {k m : Nat} {D W U : List Sg} (hss : g.ss = (D ++ W ++ U).map Sg.sgn) (hn : (D ++ W ++ U).length ≤ 100) (hsd : sd.length ≤ 900) (h7 : w = 7) (hW : W ≠ []) (hm : 30 + W.length ≤ m) (hsh : Short W) (hg : GOk g) (hcn : CL sn) (hcd : CL sd) :
    ∃ σ, Go ((RN p (m + 20)).exs (dAe p) (forBody (dFor p))) (dueS p g sn sd (zz (D.length + W.length)) (zz D.length) (tw2 t w) k) .next σ ∧
      Go (eTidy 40) σ () (dueS p g sn (sd ++ [evTok (cutTy (t + 1)) W]) (zz (D.length + W.length)) (zz (D.length + W.length)) (tw2 t w) k) := by
  have hlen : g.ss.length = D.length + W.length + U.length := by rw [hss, List.length_map, List.length_append, List.length_append]
  rw [List.length_append, List.length_append] at hn
  cases W with
  | nil => exact absurd rfl hW
  | cons x W =>
    have hpc : pickG g.ss (some (zz D.length)) (some (zz (D.length + (x :: W).length))) = (x :: W).map Sg.sgn := by
      rw [pickG_ab, hss, dropW, Nat.add_sub_cancel_left, List.map_append, List.take_left' (by rw [List.length_map])]
    have hx : g.ss[(zz D.length).toNat]? = some x.sgn := by
      rw [hss, show (zz D.length).toNat = D.length from rfl, List.append_assoc, List.map_append, List.getElem?_append_right (by rw [List.length_map]; exact Nat.le_refl _), List.length_map, Nat.sub_self]
      rfl
    subst h7
    refine ⟨coC4 p g sn (sd ++ [evTok (cutTy (t + 1)) (x :: W)]) (zz (D.length + (x :: W).length)) (zz (D.length + (x :: W).length)) t 7 k ((x :: W).map Sg.sgn) .lend ((x :: W).map Sg.sc), ?_, ?_⟩
    · rw [pf_body, pf_exs p (m + 19)]
      refine Go.stmt ?_
      rw [pf_if p (m + 19) (ifS p) (.inl rfl)]
      refine Go.bind (b := false) (σ' := dueS p g sn sd (zz (D.length + (x :: W).length)) (zz D.length) (tw2 t 7) k) (Go.of [] (fun ds => pf_t8 p g sn sd _ _ t 7 k (m + 9) ds) trivial) (Go.bind Go.dec ?_)
      show Go ((RN p (m + 19)).exs (dAe p) (ifElse (ifS p))) _ _ _
      rw [pf_else, pf_exs p (m + 18)]
      refine Go.stmt ?_
      rw [pf_if p (m + 18) (if7 p) (.inr (.inl rfl))]
      have hgt : zz (D.length + (x :: W).length) > zz D.length := by
        rw [List.length_cons]
        show ((D.length + (W.length + 1) : Nat) : Int) > (D.length : Int)
        omega
      refine Go.bind (b := true) (σ' := dueS p g sn sd (zz (D.length + (x :: W).length)) (zz D.length) (tw2 t 7) k) (Go.of _ (fun ds => pf_t7 p g sn sd _ _ t 7 k (m + 8) ds) ⟨rfl, decide_eq_true hgt, trivial⟩) (Go.bind Go.dec ?_)
      show Go ((RN p (m + 18)).exs (dAe p) (ifBody (if7 p))) _ _ _
      rw [pf_b7, pf_exs p (m + 17)]
      refine Go.stmts (σ1 := coC4 p g sn (sd ++ [evTok (cutTy (t + 1)) (x :: W)]) (zz (D.length + (x :: W).length)) (zz D.length) t 7 k ((x :: W).map Sg.sgn) .lend ((x :: W).map Sg.sc)) ?_ ?_
      · rw [pf_s1 p (m + 17)]
        refine Go.bind (b := .val .none) ?_ Go.ret
        exact apC_go (p := p) (sn := sn) (sd := sd) (t := t) (w := 7) (k := k) (m := m + 12) hpc (by omega) (by omega) hsd (by omega) hsh ⟨by show (0 : Int) ≤ ((D.length : Nat) : Int); omega, by show ((D.length : Nat) : Int) < 1000000; omega⟩ hx
      · rw [← pf_exs p (m + 17)]
        exact Go.of [] (fun ds => coC_st p g sn _ _ _ t 7 k _ _ (m + 8) ds) trivial
    · refine Go.of _ (fun ds => coC_cu p g sn (sd ++ [evTok (cutTy (t + 1)) (x :: W)]) _ _ t 7 k _ _ ds) ⟨?_, trivial⟩
      have cd : CL (sd ++ [evTok (cutTy (t + 1)) (x :: W)]) := hcd.app (CL.cons (evTok_cl _ _) CL.nil)
      unfold dueS runE dn tw2
      exact und_cons (show 38 < 40 by decide) (und_cons (show 11 < 40 by decide) (und_cons (und_list cd) (und_cons (und_ns (.cons (.ref (by decide)) (.cons (.ref (by decide)) (.cons (.ref (by decide)) (.cons (.int _) (.cons (.int _) (.cons (.int _) (.cons (.int _) .nil))))))))
        (und_cons (und_list hcn) (und_cons (und_list hg.ws) (und_cons trivial (und_cons (und_list hg.cs) (und_cons (und_list hg.ss) (und_cons (und_list hg.ns) (und_cons (und_ns (.cons (.ref (by decide)) (.cons (.ref (by decide)) (.cons (.ref (by decide)) (.cons (.ref (by decide)) .nil))))) (und_cons trivial (und_cons trivial (und_cons trivial und_nil)))))))))))))
noncomputable def TwOk (tw : List (Str × AV)) : Prop := tw = [] ∨ ∃ t w, tw = tw2 t w
theorem due_as {p : Params} {g : G3} {sn sd : List AV} {pl st w : Int} {k j m : Nat} {tw : List (Str × AV)} (h : TwOk tw) : Go (eAssign (KK p) (RN p (m + 10)) (dAe p) (.tup [.int k, .int w]) (forTgt (dFor p))) (dueS p g sn sd pl st tw j) PUnit.unit (dueS p g sn sd pl st (tw2 k w) j) := by
  rcases h with rfl | ⟨t, u, rfl⟩
  · exact Go.of [] (fun ds => pe_as0 p g sn sd pl st w k j m ds) trivial
  · exact Go.of [] (fun ds => pe_as1 p g sn sd pl st t u w k j m ds) trivial
theorem due_tgt (p : Params) : isTup (forTgt (dFor p)) = true := by kernel_rfl
section
variable {p : Params} {g : G3} {sn sd : List AV} {pl st : Int} {k : Nat} {tw : List (Str × AV)}
theorem due_nx {y : AV} (h : g.ws[k]? = some y) : Go (eNextOwn (forTgt (dFor p)) (.ref 39)) (dueS p g sn sd pl st tw k) (some (.tup [.int k, y])) (dueS p g sn sd pl st tw (k + 1)) :=
  Go.of [.cut [] y] (fun ds => next_enum (σ := dueS p g sn sd pl st tw k) (i := 39) (j := 38) (l := 11) (xs := g.ws) (due_tgt p) rfl rfl rfl) ⟨h, trivial⟩
theorem due_ne (h : g.ws[k]? = none) : Go (eNextOwn (forTgt (dFor p)) (.ref 39)) (dueS p g sn sd pl st tw k) none (dueT p g sn sd pl st tw k) :=
  Go.of [.b false] (fun ds => end_enum (σ := dueS p g sn sd pl st tw k) (i := 39) (j := 38) (l := 11) (xs := g.ws) (due_tgt p) rfl rfl rfl) ⟨h, trivial⟩
end
noncomputable def spTail (W U : List Sg) : List AV := (U.map Sg.sgn ++ [noneV]) ++ [refV] ++ [noneV] ++ evRest (W ++ U)
theorem due_loop {p : Params} {g : G3} {sn : List AV} (hg : GOk g) (hcn : CL sn) : ∀ (rest done : List Int) (N : Nat) (hN : 80 + rest.length ≤ N) (D W U : List Sg) (sd : List AV) (tw : List (Str × AV)) (htw : TwOk tw) (hws : g.ws = (done ++ rest).map AV.int) (hss : g.ss = (D ++ W ++ U).map Sg.sgn)
    (hn : (D ++ W ++ U).length ≤ 20) (hsd : sd.length + rest.length ≤ 800) (hcd : CL sd) (hsh : Short (D ++ W ++ U)),
    ∃ sd' D' W' U' tw', sd' ++ spTail W' U' = sd ++ spAll done.length rest W U ∧ D' ++ W' ++ U' = D ++ W ++ U ∧ sd'.length ≤ 800 ∧ CL sd' ∧
      Go ((RN p N).forl (dAe p) (forTgt (dFor p)) (.ref 39) (forBody (dFor p))) (dueS p g sn sd (zz (D.length + W.length)) (zz D.length) tw done.length) .next (dueT p g sn sd' (zz (D'.length + W'.length)) (zz D'.length) tw' (done.length + rest.length)) := by
  intro rest
  induction rest with
  | nil =>
    intro done N hN D W U sd tw htw hws hss hn hsd hcd hsh
    obtain ⟨m, rfl⟩ : ∃ m, N = m + 1 := ⟨N - 1, by omega⟩
    refine ⟨sd, D, W, U, tw, rfl, rfl, by omega, hcd, ?_⟩
    rw [RN_forl]
    exact forl_end (due_ne (by rw [hws]; simp))
  | cons w rest ih =>
    intro done N hN D W U sd tw htw hws hss hn hsd hcd hsh
    rw [List.length_cons] at hN hsd
    obtain ⟨m, rfl⟩ : ∃ m, N = m + 70 + 1 := ⟨N - 71, by omega⟩
    have hy : g.ws[done.length]? = some (.int w) := by rw [hws]; simp
    have hws' : g.ws = ((done ++ [w]) ++ rest).map AV.int := by rw [hws]; simp
    have hnl := hn
    rw [List.length_append, List.length_append] at hnl
    rw [RN_forl]
    by_cases hc : w = 7 ∧ W ≠ []
    · obtain ⟨σ, c1, c2⟩ := due_cut (p := p) (sn := sn) (sd := sd) (t := done.length) (w := w) (k := done.length + 1) (m := m + 50) hss (by omega) (by omega) hc.1 hc.2 (by omega) (fun s hs => hsh s (List.mem_append_left _ (List.mem_append_right _ hs))) hg hcn hcd
      obtain ⟨sd', D', W', U', tw', e1, e2, e3, e4, r⟩ := ih (done ++ [w]) (m + 70) (by omega) (D ++ W) [] U (sd ++ [evTok (cutTy ((done.length : Int) + 1)) W]) (tw2 done.length w) (.inr ⟨_, _, rfl⟩) hws' (by rw [hss]; simp) (by simp only [List.append_nil]; exact hn)
        (by rw [List.length_append, List.length_singleton]; omega) (hcd.app (CL.cons (evTok_cl _ _) CL.nil)) (by simpa using hsh)
      refine ⟨sd', D', W', U', tw', ?_, by rw [e2]; simp, e3, e4, ?_⟩
      · rw [e1, spAll_cons, if_pos hc, List.length_append, List.length_singleton, List.append_assoc]
        rfl
      · refine forl_turn (due_nx hy) (due_as (m := m + 60) htw) c1 c2 ?_
        rw [List.length_append (as := done), List.length_singleton, List.length_append, List.length_nil, Nat.add_zero] at r
        rw [List.length_cons, show done.length + (rest.length + 1) = done.length + 1 + rest.length by omega]
        exact r
    · obtain ⟨D₁, q1, q2, q3, q4⟩ := due_turn (p := p) (sn := sn) (sd := sd) (t := done.length) (w := w) (k := done.length + 1) (m := m + 50) hss (by omega) (by omega) hc
      obtain ⟨sd', D', W', U', tw', e1, e2, e3, e4, r⟩ := ih (done ++ [w]) (m + 70) (by omega) D₁ (spStep w W U).2.1 (spStep w W U).2.2 (sd ++ (spStep w W U).1) (tw2 done.length w) (.inr ⟨_, _, rfl⟩) hws' (by rw [hss, q1]) (by rw [q1]; exact hn)
        (by rw [List.length_append]; omega) (hcd.app q3) (by rw [q1]; exact hsh)
      refine ⟨sd', D', W', U', tw', ?_, by rw [e2, q1], e3, e4, ?_⟩
      · rw [e1, spAll_cons, if_neg hc, List.length_append, List.length_singleton, List.append_assoc]
      · refine forl_turn (due_nx hy) (due_as (m := m + 60) htw) q4 tidy_keep ?_
        rw [List.length_append, List.length_singleton] at r
        rw [List.length_cons, show done.length + (rest.length + 1) = done.length + 1 + rest.length by omega]
        exact r
noncomputable def asgTgts : Stmt → List PySem.Expr
  | .Assign ts _ _ => ts
  | _ => []
noncomputable def asgPos : Stmt → Pos
  | .Assign _ _ p => p
  | _ => default
section
variable (p : Params)
noncomputable def dueA (g : G3) (sn : List AV) : St := ⟨37, (36, .ns [("ways", .ref 11), ("signs", .ref 6)]) :: (runE p g sn).objs⟩
theorem ph_en (g : G3) (sn : List AV) (ds : List Wd) : eEnter (fnAt3 p 251).scope [] (fnAt3 p 251).code [("signs", .ref 6), ("ways", .ref 11)] (runE p g sn, ds) = some (dAe p, (dueA p g sn, ds), []) := by kernel_rfl
theorem ph_pre (g : G3) (sn : List AV) (m : Nat) (ds : List Wd) : (RN p (m + 20)).exs (dAe p) [nthS (dueB p) 0] (dueA p g sn, [.b true] ++ ds) = some (.next, (due0 p g sn, ds), [∀ env : Env, env.scope = (dAe p).scope → swapsWithSole (asgTgts (nthS (dueB p) 0)) (asgVal (nthS (dueB p) 0)) (asgPos (nthS (dueB p) 0)).line env = pure false ∧ swappedStores (asgTgts (nthS (dueB p) 0)) (asgVal (nthS (dueB p) 0)) env = pure (some [Str.ofString "start", Str.ofString "place", Str.ofString "seen"]), 0 ≤ 1000000, 3 ≤ 1000000]) := by kernel_rfl
theorem ph_sw (env : Env) (h : env.scope = (dAe p).scope) : swapsWithSole (asgTgts (nthS (dueB p) 0)) (asgVal (nthS (dueB p) 0)) (asgPos (nthS (dueB p) 0)).line env = pure false ∧ swappedStores (asgTgts (nthS (dueB p) 0)) (asgVal (nthS (dueB p) 0)) env = pure (some [Str.ofString "start", Str.ofString "place", Str.ofString "seen"]) := by
  obtain ⟨sc, l, _⟩ := env
  cases h
  exact ⟨by kernel_rfl, by kernel_rfl⟩
theorem ph_B : dueB p = [nthS (dueB p) 0, dFor p, nthS (dueB p) 2, nthS (dueB p) 3, nthS (dueB p) 4] := by kernel_rfl
theorem ph_for (n : Nat) : eOne (KK p) (ext3 p) (RN p n) (xrecN (KK p) (ext3 p) n) (dAe p) (dFor p) = EM.bind ((RN p n).ev (dAe p) (forIter (dFor p))) fun v => EM.bind (eIterOf v) fun it => (RN p n).forl (dAe p) (forTgt (dFor p)) it (forBody (dFor p)) := by kernel_rfl
theorem ph_xU (g : G3) (sn sd l1 l2 l3 : List AV) (pl st : Int) (tw : List (Str × AV)) (jj : Nat) (ds : List Wd) : eNorm 36 (.ref 37) (dueU p g sn sd l1 l2 l3 pl st tw jj, [.sel [37]] ++ ds) = some (.ref 37, (⟨43, (37, .list sd) :: (runE p g sn).objs⟩, ds), []) := by kernel_rfl
theorem ph_xR (g : G3) (sn sd l1 l2 l3 : List AV) (pl st : Int) (tw : List (Str × AV)) (jj : Nat) (pc : List AV) (it : Cell) (ys : List AV) (ds : List Wd) : eNorm 36 (.ref 37) (coR4 p g sn sd l1 l2 l3 pl st tw jj pc it ys, [.sel [37]] ++ ds) = some (.ref 37, (⟨47, (37, .list sd) :: (runE p g sn).objs⟩, ds), []) := by kernel_rfl
end
theorem due_body {p : Params} {g : G3} {sn : List AV} (hg : GOk g) (hcn : CL sn) (m : Nat) (sg : List Sg) (ws : List Int) (hs : g.ss = sg.map Sg.sgn) (hw : g.ws = ws.map AV.int) (hn : sg.length ≤ 20) (hl : 62 + ws.length ≤ m) (hwl : ws.length ≤ 50) (hsh : Short sg) :
    ∃ σ', (∃ k, σ' = ⟨k, (37, .list (spAll 0 ws [] sg)) :: (runE p g sn).objs⟩) ∧ Go (EM.bind ((RN p (m + 21)).exs (dAe p) (dueB p)) fun fl => onFl fl (eNorm 36 noneAV) (eNorm 36) EM.fail) (dueA p g sn) (.ref 37) σ' := by
  obtain ⟨sd, D, W, U, tw, e1, e2, e3, e4, h⟩ := due_loop (p := p) hg hcn ws [] (m + 20) (by omega) [] [] sg [] [] (.inl rfl) hw hs (by simpa using hn) (by simp only [List.length_nil]; omega) CL.nil (by simpa using hsh)
  simp only [List.nil_append, List.length_nil, Nat.zero_add] at e1 e2 h
  have hlen : g.ss.length = D.length + W.length + U.length := by rw [hs, ← e2, List.length_map, List.length_append, List.length_append]
  have hln := hn
  rw [← e2, List.length_append, List.length_append] at hln
  have hpk : pickG g.ss (some (zz (D.length + W.length))) none = U.map Sg.sgn := by
    rw [pickG_a, hs, ← e2, List.map_append, List.drop_left' (by rw [List.length_map, List.length_append])]
  have first : Go ((RN p (m + 21)).exs (dAe p) [nthS (dueB p) 0]) (dueA p g sn) .next (due0 p g sn) := Go.of _ (fun ds => ph_pre p g sn (m + 1) ds) ⟨ph_sw p, by decide, by decide, trivial⟩
  have loop : Go (eOne (KK p) (ext3 p) (RN p (m + 20)) (xrecN (KK p) (ext3 p) (m + 20)) (dAe p) (dFor p)) (due0 p g sn) .next (dueT p g sn sd (zz (D.length + W.length)) (zz D.length) tw ws.length) := by
    rw [ph_for]
    have h1 : Go (EM.bind ((RN p (m + 20)).ev (dAe p) (forIter (dFor p))) fun v => eIterOf v) (due0 p g sn) (.ref 39) (dueS p g sn [] 0 0 [] 0) := Go.of [] (fun ds => pe_it p g sn m ds) trivial
    exact Go.iter h1 h
  have en : Go ((RN p (m + 21)).exs (dAe p) [nthS (dueB p) 2]) (dueT p g sn sd (zz (D.length + W.length)) (zz D.length) tw ws.length) .next
      (dueU p g sn (sd ++ (U.map Sg.sgn ++ [noneV, refV, noneV])) (U.map Sg.sgn) [noneV, refV, noneV] (U.map Sg.sgn ++ [noneV, refV, noneV]) (zz (D.length + W.length)) (zz D.length) tw ws.length) := by
    rw [← hpk]
    have l1 : (pickG g.ss (some (zz (D.length + W.length))) none).length = U.length := by rw [hpk, List.length_map]
    have l2 : (pickG g.ss (some (zz (D.length + W.length))) none ++ [noneV, refV, noneV]).length = U.length + 3 := by rw [List.length_append, l1]; rfl
    exact Go.of [] (fun ds => pe_en p g sn sd _ _ tw ws.length (m + 1) ds) ⟨by omega, by omega, by decide, by decide, by omega, by decide, by omega, by omega, by omega, trivial⟩
  have fin : ∃ σ', (∃ k, σ' = ⟨k, (37, .list (spAll 0 ws [] sg)) :: (runE p g sn).objs⟩) ∧ Go (EM.bind ((RN p (m + 21)).exs (dAe p) [nthS (dueB p) 3, nthS (dueB p) 4]) fun fl => onFl fl (eNorm 36 noneAV) (eNorm 36) EM.fail) (dueU p g sn (sd ++ (U.map Sg.sgn ++ [noneV, refV, noneV])) (U.map Sg.sgn) [noneV, refV, noneV] (U.map Sg.sgn ++ [noneV, refV, noneV]) (zz (D.length + W.length)) (zz D.length) tw ws.length) (.ref 37) σ' := by
    cases hWU : W ++ U with
    | nil =>
      obtain ⟨hW, hU⟩ := List.append_eq_nil_iff.mp hWU
      subst hW hU
      refine ⟨_, ⟨43, rfl⟩, ?_⟩
      have es : sd ++ ([].map Sg.sgn ++ [noneV, refV, noneV]) = spAll 0 ws [] sg := by rw [← e1]; rfl
      refine Go.bind (b := .ret (.ref 37)) (σ' := dueU p g sn (sd ++ ([].map Sg.sgn ++ [noneV, refV, noneV])) ([].map Sg.sgn) [noneV, refV, noneV] ([].map Sg.sgn ++ [noneV, refV, noneV]) (zz (D.length + ([] : List Sg).length)) (zz D.length) tw ws.length) ?_ ?_
      · rw [pf_exs p (m + 20)]
        refine Go.app (a := [nthS (dueB p) 3]) (b := [nthS (dueB p) 4]) (σ' := dueU p g sn (sd ++ (([] : List Sg).map Sg.sgn ++ [noneV, refV, noneV])) (([] : List Sg).map Sg.sgn) [noneV, refV, noneV] (([] : List Sg).map Sg.sgn ++ [noneV, refV, noneV]) (zz (D.length + ([] : List Sg).length)) (zz D.length) tw ws.length) ?_ ?_
        · rw [← pf_exs p (m + 20)]
          refine Go.of _ (fun ds => pe_rf p g sn _ _ _ _ _ _ tw ws.length (m + 1) ds) ⟨by omega, decide_eq_false ?_, trivial⟩
          rw [hlen]
          show ¬ ((D.length : Nat) : Int) < ((D.length + 0 + 0 : Nat) : Int)
          omega
        · rw [← pf_exs p (m + 20)]
          exact Go.of [] (fun ds => pe_rr p g sn _ _ _ _ _ _ tw ws.length (m + 11) ds) trivial
      · rw [← es]
        exact Go.of _ (fun ds => ph_xU p g sn _ _ _ _ _ _ tw ws.length ds) trivial
    | cons x V =>
      have hpc : pickG g.ss (some (zz D.length)) none = (x :: V).map Sg.sgn := by rw [pickG_a, hs, ← e2, dropW, hWU]
      have hx : g.ss[(zz D.length).toNat]? = some x.sgn := by
        rw [hs, ← e2, show (zz D.length).toNat = D.length from rfl, List.append_assoc, hWU, List.map_append, List.getElem?_append_right (by rw [List.length_map]; exact Nat.le_refl _), List.length_map, Nat.sub_self]
        rfl
      have hVl : (x :: V).length = W.length + U.length := by rw [← hWU, List.length_append]
      refine ⟨_, ⟨47, rfl⟩, ?_⟩
      have es : (sd ++ (U.map Sg.sgn ++ [noneV, refV, noneV])) ++ [evTok "rest" (x :: V)] = spAll 0 ws [] sg := by rw [← e1]; unfold spTail; rw [hWU]; simp [evRest]
      refine Go.bind (b := .ret (.ref 37)) (σ' := coR4 p g sn ((sd ++ (U.map Sg.sgn ++ [noneV, refV, noneV])) ++ [evTok "rest" (x :: V)]) (U.map Sg.sgn) [noneV, refV, noneV] (U.map Sg.sgn ++ [noneV, refV, noneV]) (zz (D.length + W.length)) (zz D.length) tw ws.length ((x :: V).map Sg.sgn) .lend ((x :: V).map Sg.sc)) ?_ ?_
      · rw [pf_exs p (m + 20)]
        refine Go.app (a := [nthS (dueB p) 3]) (b := [nthS (dueB p) 4]) (σ' := coR4 p g sn ((sd ++ (U.map Sg.sgn ++ [noneV, refV, noneV])) ++ [evTok "rest" (x :: V)]) (U.map Sg.sgn) [noneV, refV, noneV] (U.map Sg.sgn ++ [noneV, refV, noneV]) (zz (D.length + W.length)) (zz D.length) tw ws.length ((x :: V).map Sg.sgn) .lend ((x :: V).map Sg.sc)) (Go.stmt ?_) ?_
        · rw [pf_if p (m + 20) (nthS (dueB p) 3) (.inr (.inr rfl))]
          have hlt : (zz D.length) < Int.ofNat g.ss.length := by
            rw [hlen]
            rw [List.length_cons] at hVl
            show ((D.length : Nat) : Int) < ((D.length + W.length + U.length : Nat) : Int)
            omega
          refine Go.bind (b := true) (σ' := dueU p g sn (sd ++ (U.map Sg.sgn ++ [noneV, refV, noneV])) (U.map Sg.sgn) [noneV, refV, noneV] (U.map Sg.sgn ++ [noneV, refV, noneV]) (zz (D.length + W.length)) (zz D.length) tw ws.length) (Go.of (cs := [g.ss.length ≤ 1000000]) [] (fun ds => (pf_tr p g sn _ _ _ _ (zz (D.length + W.length)) (zz D.length) tw ws.length (m + 10) ds).trans (by rw [decide_eq_true hlt])) ⟨by omega, trivial⟩) (Go.bind Go.dec ?_)
          show Go ((RN p (m + 20)).exs (dAe p) (ifBody (nthS (dueB p) 3))) _ _ _
          rw [pf_br, pf_exs p (m + 19)]
          refine Go.stmt ?_
          rw [pf_sr p (m + 19)]
          refine Go.bind (b := .val .none) ?_ Go.ret
          exact apR_go (p := p) (m := m + 14) hpc (by omega) (by omega) (by rw [List.length_append, List.length_append, List.length_map]; show sd.length + (U.length + 3) ≤ 900; omega) (by omega) (by rw [← hWU]; intro s hs'; exact hsh s (by rw [← e2, List.append_assoc]; exact List.mem_append_right _ hs'))
            ⟨by show (0 : Int) ≤ ((D.length : Nat) : Int); omega, by show ((D.length : Nat) : Int) < 1000000; omega⟩ hx
        · rw [← pf_exs p (m + 20)]
          exact Go.of [] (fun ds => coR_rt p g sn _ _ _ _ _ _ tw ws.length _ _ (m + 11) ds) trivial
      · rw [← es]
        exact Go.of _ (fun ds => ph_xR p g sn _ _ _ _ _ _ tw ws.length _ _ _ ds) trivial
  obtain ⟨σ', hk, hf⟩ := fin
  refine ⟨σ', hk, ?_⟩
  rw [pf_exs p (m + 20)] at first en hf
  rw [ph_B, pf_exs p (m + 20)]
  have mid := Go.front en hf
  have lp := Go.cons (ss := []) loop Go.ret
  have all := Go.front first (Go.front lp mid)
  exact all
noncomputable def lwB (p : Params) : List Stmt := (fnAt3 p 256).body
noncomputable def lsB (p : Params) : List Stmt := (fnAt3 p 241).body
noncomputable def wAe (p : Params) : AEnv := ⟨(fnAt3 p 256).scope, 3, [], .ref 255, 3⟩
noncomputable def lAe (p : Params) : AEnv := ⟨(fnAt3 p 241).scope, 5, [], .ref 240, 5⟩
noncomputable abbrev lsFor (p : Params) : Stmt := nthS (lsB p) 1
section
variable (xs : Obj)
noncomputable def lwb : List (Nat × Cell) := [(2, .tab 184 #[] none), (1, .tab 245 #[] (some [])), (0, .raw xs)]
noncomputable def law0 : St := ⟨4, (3, .ns [("script", .ref 0)]) :: lwb xs⟩
noncomputable def law1 (ns : List AV) : St := ⟨5, (4, .list ns) :: (3, .ns [("script", .ref 0), ("nums", .ref 4)]) :: lwb xs⟩
noncomputable def ls0 (ns : List AV) : St := ⟨6, (5, .ns [("nums", .ref 4)]) :: (law1 xs ns).objs⟩
noncomputable def ls1 (ns : List AV) : St := ⟨7, (6, .list []) :: (5, .ns [("nums", .ref 4), ("found", .ref 6)]) :: (law1 xs ns).objs⟩
noncomputable def lsS (ns fd : List AV) (N x left : Int) (nm : List (Str × AV)) : St := ⟨9, (8, .rit x left 1) :: (7, .rng 0 N 1) :: (6, .list fd) :: (5, .ns (("nums", .ref 4) :: ("found", .ref 6) :: nm)) :: (law1 xs ns).objs⟩
end
noncomputable def lsN1 (i : Int) : List (Str × AV) := [("i", .int i)]
noncomputable def lsN2 (i v : Int) : List (Str × AV) := [("i", .int i), ("v", .int v)]
section
variable (xs : Obj)
noncomputable def law2 (ns ss : List AV) : St := ⟨9, (6, .list ss) :: (law1 xs ns).objs⟩
noncomputable def law3 (ns ss cs : List AV) : St := ⟨10, (9, .list cs) :: (law2 xs ns ss).objs⟩
noncomputable def law4 (ns ss cs : List AV) (it : Cell) : St := ⟨11, (10, it) :: (law3 xs ns ss cs).objs⟩
noncomputable def law5 (ns ss cs : List AV) (it : Cell) (ws : List AV) : St := ⟨12, (11, .list ws) :: (law4 xs ns ss cs it).objs⟩
noncomputable def law6 (ns ss cs : List AV) (it : Cell) (ws : List AV) (cm : List (Str × AV)) : St := ⟨13, (12, .ns cm) :: (law5 xs ns ss cs it ws).objs⟩
noncomputable def law7 (ns ss cs : List AV) (it : Cell) (ws : List AV) : St := ⟨13, (law5 xs ns ss cs it ws).objs⟩
end
noncomputable def wyE (p : Params) : PySem.Expr := nthE (tupE (asgVal (nthS (lwB p) 1))) 1
noncomputable def wyAe (p : Params) : AEnv := ⟨compSc (wyE p), 12, [], .none, 3⟩
noncomputable def sgE (p : Params) : PySem.Expr := nthE (tupE (asgVal (nthS (lwB p) 1))) 0
noncomputable def retE : Stmt → PySem.Expr
  | .Return (some e) _ => e
  | _ => .Constant .none 0 default
noncomputable def cmpL : PySem.Expr → PySem.Expr
  | .Compare l _ _ _ => l
  | e => e
noncomputable def cmpR : PySem.Expr → PySem.Expr
  | .Compare _ _ (r :: _) _ => r
  | e => e
noncomputable def sgAt (v i : Int) : Sg := ⟨⟨#[(Str.ofString "ab(\n é").cps[((v.fdiv 9 + i).fmod 6).toNat]!]⟩, ⟨#[(Str.ofString "fg").cps[(i.fmod 2).toNat]!]⟩, v * 3 + i, v - 11 * i, i + 1⟩
section
variable (p : Params)
theorem pl_l0 (vs : List Value) (m : Nat) (ds : List Wd) : (RN p (m + 20)).exs (wAe p) [nthS (lwB p) 0] (law0 (lstO vs), ds) = some (.next, (law1 (lstO vs) (pickG (vs.map rawAV) none (some 25)), ds), [vs.length ≤ 1000000, (pickG (vs.map rawAV) none (some 25)).length ≤ 1000000]) := by kernel_rfl
theorem pl_en (xs : Obj) (ns : List AV) (ds : List Wd) : eEnter (fnAt3 p 241).scope [] (fnAt3 p 241).code [("nums", .ref 4)] (law1 xs ns, ds) = some (lAe p, (ls0 xs ns, ds), []) := by kernel_rfl
theorem pl_p0 (xs : Obj) (ns : List AV) (m : Nat) (ds : List Wd) : (RN p (m + 20)).exs (lAe p) [nthS (lsB p) 0] (ls0 xs ns, ds) = some (.next, (ls1 xs ns, ds), [0 ≤ 1000000]) := by kernel_rfl
theorem pl_itE (xs : Obj) (ns : List AV) (m : Nat) (ds : List Wd) : (EM.bind ((RN p (m + 20)).ev (lAe p) (forIter (lsFor p))) fun v => eIterOf v) (ls1 xs ns, [.b false] ++ ds) = some (.ref 8, (lsS xs ns [] ((4 : Int).fmod 11) 0 4 [], ds),
  [ns.length < 4611686018427387904, (!ns.isEmpty) = false, (11 : Int) ≠ 0, (1 : Int) = 1 ∧ -4611686018427387904 ≤ (0 : Int) ∧ (0 : Int) < 4611686018427387904 ∧ -4611686018427387904 ≤ (4 : Int).fmod 11 ∧ (4 : Int).fmod 11 < 4611686018427387904]) := by kernel_rfl
theorem pl_itF (xs : Obj) (ns : List AV) (y : Int) (m : Nat) (ds : List Wd) : (EM.bind ((RN p (m + 20)).ev (lAe p) (forIter (lsFor p))) fun v => eIterOf v) (ls1 xs ns, [.b true, .cut [] (.int y)] ++ ds) = some (.ref 8, (lsS xs ns [] (y.fmod 11) 0 (if 0 < y.fmod 11 then y.fmod 11 - 0 else 0) [], ds),
  [ns.length < 4611686018427387904, (!ns.isEmpty) = true, ns.length ≤ 1000000, (0 : Int) ≤ 0 ∧ (0 : Int) < 1000000 ∧ ns[0]? = some (.int y), (11 : Int) ≠ 0,
   (1 : Int) = 1 ∧ -4611686018427387904 ≤ (0 : Int) ∧ (0 : Int) < 4611686018427387904 ∧ -4611686018427387904 ≤ y.fmod 11 ∧ y.fmod 11 < 4611686018427387904]) := by kernel_rfl
theorem pl_nx (xs : Obj) (ns fd : List AV) (N x left : Int) (nm : List (Str × AV)) (ds : List Wd) : eNextOwn (forTgt (lsFor p)) (.ref 8) (lsS xs ns fd N x left nm, [.cut [] (.int x)] ++ ds) = some (some (.int x), (lsS xs ns fd N (x + 1) (left - 1) nm, ds), [0 < left]) := by kernel_rfl
theorem pl_ne (xs : Obj) (ns fd : List AV) (N x left : Int) (nm : List (Str × AV)) (ds : List Wd) : eNextOwn (forTgt (lsFor p)) (.ref 8) (lsS xs ns fd N x left nm, [.b false] ++ ds) = some (none, (lsS xs ns fd N x left nm, ds), [left ≤ 0]) := by kernel_rfl
theorem pl_as0 (xs : Obj) (ns fd : List AV) (N x left i : Int) (m : Nat) (ds : List Wd) : eAssign (KK p) (RN p (m + 10)) (lAe p) (.int i) (forTgt (lsFor p)) (lsS xs ns fd N x left [], ds) = some (PUnit.unit, (lsS xs ns fd N x left (lsN1 i), ds), []) := by kernel_rfl
theorem pl_as1 (xs : Obj) (ns fd : List AV) (N x left i j v : Int) (m : Nat) (ds : List Wd) : eAssign (KK p) (RN p (m + 10)) (lAe p) (.int i) (forTgt (lsFor p)) (lsS xs ns fd N x left (lsN2 j v), ds) = some (PUnit.unit, (lsS xs ns fd N x left (lsN2 i v), ds), []) := by kernel_rfl
end
noncomputable def cdC (v i : Int) : Prop := 0 ≤ (v.fdiv 9 + i).fmod 6 ∧ (v.fdiv 9 + i).fmod 6 < Int.ofNat (Str.ofString "ab(\n é").length ∧ (Str.ofString "ab(\n é").length ≤ 1000000
noncomputable def cdF (i : Int) : Prop := 0 ≤ i.fmod 2 ∧ i.fmod 2 < Int.ofNat (Str.ofString "fg").length ∧ (Str.ofString "fg").length ≤ 1000000
section
variable (p : Params) (xs : Obj) (ns fd : List AV)
theorem pl_bE0 (N x left i : Int) (m : Nat) (ds : List Wd) : (RN p (m + 20)).exs (lAe p) (forBody (lsFor p)) (lsS xs ns fd N x left (lsN1 i), [.b false] ++ ds) = some (.next, (lsS xs ns (fd ++ [(sgAt i i).sgn]) N x left (lsN2 i i), ds),
  [ns.length < 4611686018427387904, (!ns.isEmpty) = false, (9 : Int) ≠ 0 ∧ false = false, (6 : Int) ≠ 0, cdC i i, (2 : Int) ≠ 0, cdF i, IntMulOk i 3, IntMulOk 11 i, 5 ≤ 1000000, fd.length ≤ 1000000]) := by kernel_rfl
theorem pl_bE1 (N x left i v : Int) (m : Nat) (ds : List Wd) : (RN p (m + 20)).exs (lAe p) (forBody (lsFor p)) (lsS xs ns fd N x left (lsN2 i v), [.b false] ++ ds) = some (.next, (lsS xs ns (fd ++ [(sgAt i i).sgn]) N x left (lsN2 i i), ds),
  [ns.length < 4611686018427387904, (!ns.isEmpty) = false, (9 : Int) ≠ 0 ∧ false = false, (6 : Int) ≠ 0, cdC i i, (2 : Int) ≠ 0, cdF i, IntMulOk i 3, IntMulOk 11 i, 5 ≤ 1000000, fd.length ≤ 1000000]) := by kernel_rfl
theorem pl_bF0 (N x left i y : Int) (m : Nat) (ds : List Wd) : (RN p (m + 20)).exs (lAe p) (forBody (lsFor p)) (lsS xs ns fd N x left (lsN1 i), [.b true, .cut [] (.int y)] ++ ds) = some (.next, (lsS xs ns (fd ++ [(sgAt y i).sgn]) N x left (lsN2 i y), ds),
  [ns.length < 4611686018427387904, (!ns.isEmpty) = true, ns.length ≤ 1000000, Int.ofNat ns.length ≠ 0, ns.length ≤ 1000000, 0 ≤ (i + 1).fmod (Int.ofNat ns.length) ∧ (i + 1).fmod (Int.ofNat ns.length) < 1000000 ∧ ns[((i + 1).fmod (Int.ofNat ns.length)).toNat]? = some (.int y),
   (9 : Int) ≠ 0 ∧ false = false, (6 : Int) ≠ 0, cdC y i, (2 : Int) ≠ 0, cdF i, IntMulOk y 3, IntMulOk 11 i, 5 ≤ 1000000, fd.length ≤ 1000000]) := by kernel_rfl
theorem pl_bF1 (N x left i v y : Int) (m : Nat) (ds : List Wd) : (RN p (m + 20)).exs (lAe p) (forBody (lsFor p)) (lsS xs ns fd N x left (lsN2 i v), [.b true, .cut [] (.int y)] ++ ds) = some (.next, (lsS xs ns (fd ++ [(sgAt y i).sgn]) N x left (lsN2 i y), ds),
  [ns.length < 4611686018427387904, (!ns.isEmpty) = true, ns.length ≤ 1000000, Int.ofNat ns.length ≠ 0, ns.length ≤ 1000000, 0 ≤ (i + 1).fmod (Int.ofNat ns.length) ∧ (i + 1).fmod (Int.ofNat ns.length) < 1000000 ∧ ns[((i + 1).fmod (Int.ofNat ns.length)).toNat]? = some (.int y),
   (9 : Int) ≠ 0 ∧ false = false, (6 : Int) ≠ 0, cdC y i, (2 : Int) ≠ 0, cdF i, IntMulOk y 3, IntMulOk 11 i, 5 ≤ 1000000, fd.length ≤ 1000000]) := by kernel_rfl
theorem pl_re (N x left : Int) (nm : List (Str × AV)) (m : Nat) (ds : List Wd) : (RN p (m + 20)).exs (lAe p) [nthS (lsB p) 2] (lsS xs ns fd N x left nm, ds) = some (.ret (.ref 6), (lsS xs ns fd N x left nm, ds), []) := by kernel_rfl
end
theorem pl_no (p : Params) (xs : Obj) (ns fd : List AV) (N x left : Int) (nm : List (Str × AV)) (ds : List Wd) : eNorm 5 (.ref 6) (lsS xs ns fd N x left nm, [.sel [6]] ++ ds) = some (.ref 6, (law2 xs ns fd, ds), []) := by kernel_rfl
theorem pl_B (p : Params) : lsB p = [nthS (lsB p) 0, lsFor p, nthS (lsB p) 2] := by kernel_rfl
theorem pl_for (p : Params) (n : Nat) : eOne (KK p) (ext3 p) (RN p n) (xrecN (KK p) (ext3 p) n) (lAe p) (lsFor p) = EM.bind ((RN p n).ev (lAe p) (forIter (lsFor p))) fun v => EM.bind (eIterOf v) fun it => (RN p n).forl (lAe p) (forTgt (lsFor p)) it (forBody (lsFor p)) := by kernel_rfl
theorem cdC_ok (v i : Int) : cdC v i := by
  have h := Int.fmod_nonneg_of_pos (v.fdiv 9 + i) (by decide : (0 : Int) < 6)
  have h2 := Int.fmod_lt_of_pos (v.fdiv 9 + i) (by decide : (0 : Int) < 6)
  exact ⟨h, h2, by decide +kernel⟩
theorem cdF_ok (i : Int) : cdF i := ⟨Int.fmod_nonneg_of_pos i (by decide), Int.fmod_lt_of_pos i (by decide), by decide +kernel⟩
theorem mul3 (v : Int) : IntMulOk v 3 := IntMulOk.of_right (by decide +kernel)
theorem mul11 (v : Int) : IntMulOk 11 v := IntMulOk.of_left (by decide +kernel)
noncomputable def NmOk (nm : List (Str × AV)) : Prop := nm = [] ∨ ∃ i v, nm = lsN2 i v
theorem ls_turn {p : Params} {xs : Obj} {zs : List Int} {fd : List AV} {N x left i : Int} {m : Nat} {nm : List (Str × AV)} (hz : zs.length ≤ 900) (hf : fd.length ≤ 900) (hi : 0 ≤ i) (hnm : NmOk nm) :
    ∃ v, ∃ nm1, Go (eAssign (KK p) (RN p (m + 20)) (lAe p) (.int i) (forTgt (lsFor p))) (lsS xs (zs.map .int) fd N x left nm) PUnit.unit (lsS xs (zs.map .int) fd N x left nm1) ∧
      Go ((RN p (m + 20)).exs (lAe p) (forBody (lsFor p))) (lsS xs (zs.map .int) fd N x left nm1) .next (lsS xs (zs.map .int) (fd ++ [(sgAt v i).sgn]) N x left (lsN2 i v)) := by
  have hl : (zs.map AV.int).length = zs.length := List.length_map ..
  cases hzs : zs with
  | nil =>
    refine ⟨i, ?_⟩
    rcases hnm with rfl | ⟨j, v, rfl⟩
    · exact ⟨_, Go.of [] (fun ds => pl_as0 p xs _ fd N x left i (m + 10) ds) trivial, Go.of _ (fun ds => pl_bE0 p xs _ fd N x left i m ds) ⟨by decide, rfl, ⟨by decide, rfl⟩, by decide, cdC_ok i i, by decide, cdF_ok i, mul3 i, mul11 i, by decide, by omega, trivial⟩⟩
    · exact ⟨_, Go.of [] (fun ds => pl_as1 p xs _ fd N x left i j v (m + 10) ds) trivial, Go.of _ (fun ds => pl_bE1 p xs _ fd N x left i v m ds) ⟨by decide, rfl, ⟨by decide, rfl⟩, by decide, cdC_ok i i, by decide, cdF_ok i, mul3 i, mul11 i, by decide, by omega, trivial⟩⟩
  | cons z0 zs' =>
    rw [← hzs]
    have hpos : 0 < zs.length := by rw [hzs]; exact Nat.succ_pos _
    have hne : (!(zs.map AV.int).isEmpty) = true := by rw [hzs]; rfl
    have hL : (0 : Int) < Int.ofNat (zs.map AV.int).length := by rw [hl]; show (0 : Int) < ((zs.length : Nat) : Int); omega
    have q1 := Int.fmod_nonneg_of_pos (i + 1) hL
    have q2 := Int.fmod_lt_of_pos (i + 1) hL
    generalize hk : (i + 1).fmod (Int.ofNat (zs.map AV.int).length) = k at q1 q2
    have hkl : k.toNat < zs.length := by
      rw [hl] at q2
      have q2' : k < ((zs.length : Nat) : Int) := q2
      omega
    have hy : (zs.map AV.int)[k.toNat]? = some (.int zs[k.toNat]) := by rw [List.getElem?_map, List.getElem?_eq_getElem hkl]; rfl
    have hcd : 0 ≤ (i + 1).fmod (Int.ofNat (zs.map AV.int).length) ∧ (i + 1).fmod (Int.ofNat (zs.map AV.int).length) < 1000000 ∧ (zs.map AV.int)[((i + 1).fmod (Int.ofNat (zs.map AV.int).length)).toNat]? = some (.int zs[k.toNat]) := by
      rw [hk]
      refine ⟨q1, ?_, hy⟩
      rw [hl] at q2
      have q2' : k < ((zs.length : Nat) : Int) := q2
      omega
    refine ⟨zs[k.toNat], ?_⟩
    rcases hnm with rfl | ⟨j, v, rfl⟩
    · exact ⟨_, Go.of [] (fun ds => pl_as0 p xs _ fd N x left i (m + 10) ds) trivial, Go.of _ (fun ds => pl_bF0 p xs _ fd N x left i _ m ds) ⟨by omega, hne, by omega, by omega, by omega, hcd, ⟨by decide, rfl⟩, by decide, cdC_ok _ i, by decide, cdF_ok i, mul3 _, mul11 i, by decide, by omega, trivial⟩⟩
    · exact ⟨_, Go.of [] (fun ds => pl_as1 p xs _ fd N x left i j v (m + 10) ds) trivial, Go.of _ (fun ds => pl_bF1 p xs _ fd N x left i v _ m ds) ⟨by omega, hne, by omega, by omega, by omega, hcd, ⟨by decide, rfl⟩, by decide, cdC_ok _ i, by decide, cdF_ok i, mul3 _, mul11 i, by decide, by omega, trivial⟩⟩
theorem sgAt_short (v i : Int) : (sgAt v i).c.length ≤ 4 := by
  show 1 ≤ 4
  decide
theorem ls_loop {p : Params} {xs : Obj} {zs : List Int} (hz : zs.length ≤ 900) : ∀ (left n : Nat) (hn : 25 + left ≤ n) (fd : List AV) (N x : Int) (nm : List (Str × AV)) (hf : fd.length + left ≤ 900) (hx : 0 ≤ x) (hnm : NmOk nm),
    ∃ L : List Sg, L.length = left ∧ Short L ∧ ∃ x' nm', Go ((RN p n).forl (lAe p) (forTgt (lsFor p)) (.ref 8) (forBody (lsFor p))) (lsS xs (zs.map .int) fd N x left nm) .next (lsS xs (zs.map .int) (fd ++ L.map Sg.sgn) N x' 0 nm') := by
  intro left
  induction left with
  | zero =>
    intro n hn fd N x nm hf hx hnm
    obtain ⟨m, rfl⟩ : ∃ m, n = m + 1 := ⟨n - 1, by omega⟩
    refine ⟨[], rfl, (by intro s hs; cases hs), x, nm, ?_⟩
    rw [RN_forl, List.map_nil, List.append_nil]
    exact forl_end (Go.of _ (fun ds => pl_ne p xs _ fd N x _ nm ds) ⟨Int.le_refl _, trivial⟩)
  | succ left ih =>
    intro n hn fd N x nm hf hx hnm
    obtain ⟨m, rfl⟩ : ∃ m, n = m + 20 + 1 := ⟨n - 21, by omega⟩
    obtain ⟨v, nm1, h1, h2⟩ := ls_turn (p := p) (xs := xs) (fd := fd) (N := N) (x := x + 1) (left := ((left + 1 : Nat) : Int) - 1) (i := x) (m := m) hz (by omega) hx hnm
    obtain ⟨L, l1, l2, x', nm', h3⟩ := ih (m + 20) (by omega) (fd ++ [(sgAt v x).sgn]) N (x + 1) (lsN2 x v) (by rw [List.length_append, List.length_singleton]; omega) (by omega) (.inr ⟨_, _, rfl⟩)
    refine ⟨sgAt v x :: L, by rw [List.length_cons, l1], fun s hs => ?_, x', nm', ?_⟩
    · rcases List.mem_cons.mp hs with rfl | hs
      · exact sgAt_short _ _
      · exact l2 s hs
    · rw [RN_forl]
      have hq : ((left + 1 : Nat) : Int) - 1 = (left : Int) := by omega
      refine forl_turn (Go.of _ (fun ds => pl_nx p xs _ fd N x _ nm ds) ⟨by omega, trivial⟩) h1 h2 tidy_keep ?_
      · rw [hq, List.map_cons, show fd ++ (sgAt v x).sgn :: L.map Sg.sgn = (fd ++ [(sgAt v x).sgn]) ++ L.map Sg.sgn by simp]
        exact h3
noncomputable abbrev wA1 (p : Params) : Stmt := nthS (lwB p) 1
noncomputable def tupElts : PySem.Expr → List PySem.Expr
  | .Tuple es _ _ => es
  | _ => []
noncomputable def tupK : PySem.Expr → Nat
  | .Tuple _ k _ => k
  | _ => 0
noncomputable def tupP : PySem.Expr → Pos
  | .Tuple _ _ p => p
  | _ => default
section
variable (p : Params)
noncomputable def wTgt : PySem.Expr := (asgTgts (wA1 p)).getD 0 (.Constant .none 0 default)
noncomputable def wRet : PySem.Expr := retE (nthS (lwB p) 2)
theorem pw_B : lwB p = [nthS (lwB p) 0, wA1 p, nthS (lwB p) 2] := by kernel_rfl
theorem pw_a1 (n : Nat) : eOne (KK p) (ext3 p) (RN p n) (xrecN (KK p) (ext3 p) n) (wAe p) (wA1 p) = eTupA (KK p) (RN p n) (wAe p) (tupElts (wTgt p)) (tupK (wTgt p)) (tupP (wTgt p)) (asgVal (wA1 p)) (asgPos (wA1 p)) := by kernel_rfl
theorem pw_nm : namesOf (tupElts (wTgt p)) = some [Str.ofString "signs", Str.ofString "ways"] := by kernel_rfl
theorem pw_sw (env : Env) (h : env.scope = (wAe p).scope) : swapsWithSole [.Tuple (tupElts (wTgt p)) (tupK (wTgt p)) (tupP (wTgt p))] (asgVal (wA1 p)) (asgPos (wA1 p)).line env = pure false ∧ swappedStores [.Tuple (tupElts (wTgt p)) (tupK (wTgt p)) (tupP (wTgt p))] (asgVal (wA1 p)) env = pure (some [Str.ofString "signs", Str.ofString "ways"]) := by
  obtain ⟨sc, l, _⟩ := env
  cases h
  exact ⟨by kernel_rfl, by kernel_rfl⟩
theorem pw_val (n : Nat) : (RN p (n + 1)).ev (wAe p) (asgVal (wA1 p)) = EM.bind (eArgs (RN p n) (wAe p) [sgE p, wyE p]) fun vs => eNewTuple vs := by kernel_rfl
theorem pw_st : noStar (sgE p) = true ∧ noStar (wyE p) = true ∧ (compScope (compSc (wyE p)) && plainE (compIter (wyE p))) = true ∧ noStar (nthE (clA (sgE p)) 0) = true := ⟨by kernel_rfl, by kernel_rfl, by kernel_rfl, by kernel_rfl⟩
theorem pw_sg (n : Nat) : (RN p (n + 1)).ev (wAe p) (sgE p) = EM.bind ((RN p n).ev (wAe p) (callFn' (sgE p))) fun f => eCallWith (KK p) (RN p n) (wAe p) f [] [nthE (clA (sgE p)) 0] [] := by kernel_rfl
theorem pw_sv (xs : Obj) (ns : List AV) (m : Nat) (ds : List Wd) : (RN p (m + 10)).ev (wAe p) (callFn' (sgE p)) (law1 xs ns, ds) = some (.val (.ref 241), (law1 xs ns, ds), []) := by kernel_rfl
theorem pw_sa (xs : Obj) (ns : List AV) (m : Nat) (ds : List Wd) : (RN p (m + 10)).ev (wAe p) (nthE (clA (sgE p)) 0) (law1 xs ns, ds) = some (.ref 4, (law1 xs ns, ds), []) := by kernel_rfl
theorem pw_ko : keepOk (KK p) (.val (.ref 241)) = true ∧ keepOk (KK p) (.val (.ref 246)) = true ∧ keepOk (KK p) (.val (.ref 251)) = true := ⟨by kernel_rfl, by kernel_rfl, by kernel_rfl⟩
theorem pw_c1 (n : Nat) (as : List AV) : (RN p (n + 1)).call (.val (.ref 241)) as [] = eFn (RN p n) (fnAt3 p 241) as [] := by kernel_rfl
theorem pw_c2 (n : Nat) (as : List AV) : (RN p (n + 1)).call (.val (.ref 246)) as [] = eFn (RN p n) (fnAt3 p 246) as [] := by kernel_rfl
theorem pw_c3 (n : Nat) (as : List AV) : (RN p (n + 1)).call (.val (.ref 251)) as [] = eFn (RN p n) (fnAt3 p 251) as [] := by kernel_rfl
theorem pw_pp : (plainParams (fnAt3 p 241).params && plainScope (fnAt3 p 241).scope) = true ∧ (plainParams (fnAt3 p 246).params && plainScope (fnAt3 p 246).scope) = true ∧ (plainParams (fnAt3 p 251).params && plainScope (fnAt3 p 251).scope) = true := ⟨by kernel_rfl, by kernel_rfl, by kernel_rfl⟩
theorem pw_b1 : bindsOf ((fnAt3 p 241).params.args.map fun p => p.arg) (fnAt3 p 241).dflts [AV.ref 4] [] = some [(Str.ofString "nums", AV.ref 4)] := by kernel_rfl
theorem pw_b2 : bindsOf ((fnAt3 p 246).params.args.map fun p => p.arg) (fnAt3 p 246).dflts [AV.ref 6, AV.ref 11] [] = some [(Str.ofString "signs", AV.ref 6), (Str.ofString "ways", AV.ref 11)] := by kernel_rfl
theorem pw_b3 : bindsOf ((fnAt3 p 251).params.args.map fun p => p.arg) (fnAt3 p 251).dflts [AV.ref 6, AV.ref 11] [] = some [(Str.ofString "signs", AV.ref 6), (Str.ofString "ways", AV.ref 11)] := by kernel_rfl
theorem pw_cl : (fnAt3 p 241).closure = [] ∧ (fnAt3 p 246).closure = [] ∧ (fnAt3 p 251).closure = [] := ⟨by kernel_rfl, by kernel_rfl, by kernel_rfl⟩
theorem pw_wy (n : Nat) : (RN p (n + 1)).ev (wAe p) (wyE p) = eListComp (RN p n) (wAe p) (compElt (wyE p)) (compTgt (wyE p)) (compIter (wyE p)) (compSc (wyE p)) := by kernel_rfl
theorem pw_wae : (⟨compSc (wyE p), 12, [], .none, (wAe p).frm⟩ : AEnv) = wyAe p := by kernel_rfl
theorem pw_bs (g : G3) (ds : List Wd) : eBinds (wAe p) [Str.ofString "signs", Str.ofString "ways"].reverse [AV.ref 6, AV.ref 11].reverse (law7 g.xs g.ns g.ss g.cs .lend g.ws, ds) = some ((), (run0 g, ds), []) := by kernel_rfl
theorem pw_r (n : Nat) : eOne (KK p) (ext3 p) (RN p n) (xrecN (KK p) (ext3 p) n) (wAe p) (nthS (lwB p) 2) = EM.bind ((RN p n).ev (wAe p) (wRet p)) fun v => EM.ret (.ret v) := by kernel_rfl
theorem pw_cmp (n : Nat) : (RN p (n + 1)).ev (wAe p) (wRet p) = EM.bind ((RN p n).ev (wAe p) (cmpL (wRet p))) fun a => EM.bind ((RN p n).ev (wAe p) (cmpR (wRet p))) fun b => eCmpX .Eq a b := by kernel_rfl
theorem pw_cL (n : Nat) : (RN p (n + 1)).ev (wAe p) (cmpL (wRet p)) = EM.bind ((RN p n).ev (wAe p) (callFn' (cmpL (wRet p)))) fun f => eCallWith (KK p) (RN p n) (wAe p) f [] (clA (cmpL (wRet p))) [] := by kernel_rfl
theorem pw_cR (n : Nat) : (RN p (n + 1)).ev (wAe p) (cmpR (wRet p)) = EM.bind ((RN p n).ev (wAe p) (callFn' (cmpR (wRet p)))) fun f => eCallWith (KK p) (RN p n) (wAe p) f [] (clA (cmpR (wRet p))) [] := by kernel_rfl
theorem pw_fL (g : G3) (m : Nat) (ds : List Wd) : (RN p (m + 10)).ev (wAe p) (callFn' (cmpL (wRet p))) (run0 g, ds) = some (.val (.ref 246), (run0 g, ds), []) := by kernel_rfl
theorem pw_aL (g : G3) (m : Nat) (ds : List Wd) : eArgs (RN p (m + 10)) (wAe p) (clA (cmpL (wRet p))) (run0 g, ds) = some ([.ref 6, .ref 11], (run0 g, ds), []) := by kernel_rfl
theorem pw_fR (g : G3) (sn : List AV) (m : Nat) (ds : List Wd) : (RN p (m + 10)).ev (wAe p) (callFn' (cmpR (wRet p))) (runE p g sn, ds) = some (.val (.ref 251), (runE p g sn, ds), []) := by kernel_rfl
theorem pw_aR (g : G3) (sn : List AV) (m : Nat) (ds : List Wd) : eArgs (RN p (m + 10)) (wAe p) (clA (cmpR (wRet p))) (runE p g sn, ds) = some ([.ref 6, .ref 11], (runE p g sn, ds), []) := by kernel_rfl
theorem pk_k1 (xs : Obj) (ns ss : List AV) (m : Nat) (ds : List Wd) : (RN p (m + 10)).ev (wAe p) (compIter (wyE p)) (law2 xs ns ss, ds) = some (.ref 9, (law3 xs ns ss (pickG ns (some 1) none), ds), [ns.length ≤ 1000000, (pickG ns (some 1) none).length ≤ 1000000]) := by kernel_rfl
end
section
variable (xs : Obj) (ns ss cs : List AV) (ds : List Wd)
theorem pk_k2 : eIterOf (.ref 9) (law3 xs ns ss cs, ds) = some (.ref 10, (law4 xs ns ss cs (.liter 9 0), ds), []) := by kernel_rfl
theorem pk_k3 : eNewList [] (law4 xs ns ss cs (.liter 9 0), ds) = some (.ref 11, (law5 xs ns ss cs (.liter 9 0) [], ds), [0 ≤ 1000000]) := by kernel_rfl
theorem pk_k4 : EM.push (.ns []) (law5 xs ns ss cs (.liter 9 0) [], ds) = some (12, (law6 xs ns ss cs (.liter 9 0) [] [], ds), []) := by kernel_rfl
theorem pk_k5 : isLit (.ref 10) (law6 xs ns ss cs (.liter 9 0) [] [], ds) = some ((), (law6 xs ns ss cs (.liter 9 0) [] [], ds), []) := by kernel_rfl
end
section
variable (p : Params) (xs : Obj) (ns ss cs ws : List AV) (cm : List (Str × AV)) (j : Nat)
theorem pk_kn (y : Int) (ds : List Wd) : eNextOwn (compTgt (wyE p)) (.ref 10) (law6 xs ns ss cs (.liter 9 j) ws cm, [.cut [] (.int y)] ++ ds) = some (some (.int y), (law6 xs ns ss cs (.liter 9 (j + 1)) ws cm, ds), [cs[j]? = some (.int y)]) := by kernel_rfl
theorem pk_ke (ds : List Wd) : eNextOwn (compTgt (wyE p)) (.ref 10) (law6 xs ns ss cs (.liter 9 j) ws cm, [.b false] ++ ds) = some (none, (law6 xs ns ss cs .lend ws cm, ds), [cs[j]? = none]) := by kernel_rfl
end
noncomputable def nCm (y : Int) : List (Str × AV) := [("n", .int y)]
section
variable (p : Params) (xs : Obj) (ns ss cs ws : List AV) (j : Nat)
theorem pk_s0 (y : Int) (m : Nat) (ds : List Wd) : eAssign (KK p) (RN p (m + 10)) (wyAe p) (.int y) (compTgt (wyE p)) (law6 xs ns ss cs (.liter 9 j) ws [], ds) = some (PUnit.unit, (law6 xs ns ss cs (.liter 9 j) ws (nCm y), ds), []) := by kernel_rfl
theorem pk_s1 (y z : Int) (m : Nat) (ds : List Wd) : eAssign (KK p) (RN p (m + 10)) (wyAe p) (.int y) (compTgt (wyE p)) (law6 xs ns ss cs (.liter 9 j) ws (nCm z), ds) = some (PUnit.unit, (law6 xs ns ss cs (.liter 9 j) ws (nCm y), ds), []) := by kernel_rfl
theorem pk_kv (y : Int) (m : Nat) (ds : List Wd) : (RN p (m + 10)).ev (wyAe p) (compElt (wyE p)) (law6 xs ns ss cs (.liter 9 j) ws (nCm y), ds) = some (.int (y.fmod 9), (law6 xs ns ss cs (.liter 9 j) ws (nCm y), ds), [(9 : Int) ≠ 0]) := by kernel_rfl
end
section
variable (xs : Obj) (ns ss cs ws : List AV) (cm : List (Str × AV))
theorem pk_ka (j : Nat) (v : AV) (ds : List Wd) : eAppend [.ref 11, v] (law6 xs ns ss cs (.liter 9 j) ws cm, ds) = some (.val .none, (law6 xs ns ss cs (.liter 9 j) (ws ++ [v]) cm, ds), [ws.length ≤ 1000000]) := by kernel_rfl
theorem pk_kd (ds : List Wd) : delCell 12 (law6 xs ns ss cs .lend ws cm, ds) = some ((), (law7 xs ns ss cs .lend ws, ds), []) := by kernel_rfl
end
noncomputable def NOk (cm : List (Str × AV)) : Prop := cm = [] ∨ ∃ z, cm = nCm z
noncomputable def wyOf (y : Int) : AV := .int (y.fmod 9)
theorem wy_go {p : Params} {xs : Obj} {ns ss : List AV} {zs : List Int} {m : Nat} (hpc : pickG ns (some 1) none = zs.map AV.int) (hn : zs.length ≤ 100) (hns : ns.length ≤ 900) (hm : 20 + zs.length ≤ m) :
    Go ((RN p (m + 1)).ev (wAe p) (wyE p)) (law2 xs ns ss) (.ref 11) (law7 xs ns ss (zs.map AV.int) .lend (zs.map wyOf)) := by
  obtain ⟨cm', h⟩ := comp_gen (K := KK p) (R := RN p) (RN_comp p) (ae := wyAe p) (elt := compElt (wyE p)) (tgt := compTgt (wyE p)) (it := .ref 10) (acc := .ref 11) zs AV.int wyOf (fun c ys cm => law6 xs ns ss (zs.map AV.int) c ys cm) 9 10 NOk nCm
    (fun j ys cm x hx => Go.of _ (fun ds => pk_kn p xs ns ss (zs.map AV.int) ys cm j x ds) ⟨by rw [List.getElem?_map, hx]; rfl, trivial⟩)
    (fun j ys cm hx => Go.of _ (fun ds => pk_ke p xs ns ss (zs.map AV.int) ys cm j ds) ⟨by rw [List.getElem?_map, hx]; rfl, trivial⟩)
    (fun m j ys cm x hc => by
      rcases hc with rfl | ⟨z, rfl⟩
      · exact Go.of [] (fun ds => pk_s0 p xs ns ss (zs.map AV.int) ys j x m ds) trivial
      · exact Go.of [] (fun ds => pk_s1 p xs ns ss (zs.map AV.int) ys j x z m ds) trivial)
    (fun x => .inr ⟨_, rfl⟩)
    (fun m j ys x _ => Go.of [] (fun ds => pk_kv p xs ns ss (zs.map AV.int) ys j x m ds) ⟨by decide, trivial⟩)
    (fun j ys cm v hy => Go.of [] (fun ds => pk_ka xs ns ss (zs.map AV.int) ys cm j v ds) ⟨by omega, trivial⟩)
    zs [] m (by omega) [] (by rw [List.length_nil]; omega) [] (.inl rfl) rfl
  simp only [List.length_nil, List.nil_append] at h
  rw [pw_wy p m]
  unfold eListComp
  refine Go.bind (b := (AV.ref 11, 12)) (σ' := law6 xs ns ss (zs.map AV.int) .lend (zs.map wyOf) cm') ?_ ?_
  · refine Go.chk (pw_st p).2.2.1 ?_
    refine Go.bind (b := .ref 9) (σ' := law3 xs ns ss (zs.map AV.int)) ?_ ?_
    · obtain ⟨m', rfl⟩ : ∃ m', m = m' + 10 := ⟨m - 10, by omega⟩
      rw [← hpc]
      exact Go.of [] (fun ds => pk_k1 p xs ns ss m' ds) ⟨by omega, by rw [hpc, List.length_map]; omega, trivial⟩
    refine (Go.of [] (fun ds => pk_k2 xs ns ss (zs.map AV.int) ds) trivial).bind ?_
    refine (Go.of [] (fun ds => pk_k3 xs ns ss (zs.map AV.int) ds) ⟨by decide, trivial⟩).bind ?_
    refine (Go.of [] (fun ds => pk_k4 xs ns ss (zs.map AV.int) ds) trivial).bind ?_
    refine (Go.of [] (fun ds => pk_k5 xs ns ss (zs.map AV.int) ds) trivial).bind ?_
    rw [pw_wae]
    exact Go.bind (b := AFlow.next) (σ' := law6 xs ns ss (zs.map AV.int) .lend (zs.map wyOf) cm') h Go.ret
  · exact (Go.of [] (fun ds => pk_kd xs ns ss (zs.map AV.int) _ cm' ds) trivial).bind Go.ret
theorem sg_go {p : Params} {xs : Obj} {zs : List Int} {m : Nat} (hz : zs.length ≤ 100) (hm : 60 ≤ m) :
    ∃ L : List Sg, L.length ≤ 10 ∧ Short L ∧ Go ((RN p (m + 3)).ev (wAe p) (sgE p)) (law1 xs (zs.map .int)) (.ref 6) (law2 xs (zs.map .int) (L.map Sg.sgn)) := by
  obtain ⟨n, rfl⟩ : ∃ n, m = n + 20 := ⟨m - 20, by omega⟩
  have hl : (zs.map AV.int).length = zs.length := List.length_map ..
  have start : ∃ (N : Int) (left : Nat), left ≤ 10 ∧ Go (EM.bind ((RN p (n + 20)).ev (lAe p) (forIter (lsFor p))) fun v => eIterOf v) (ls1 xs (zs.map .int)) (.ref 8) (lsS xs (zs.map .int) [] N 0 left []) := by
    cases hzs : zs with
    | nil => exact ⟨_, 4, by decide, Go.of _ (fun ds => pl_itE p xs _ n ds) ⟨by decide, rfl, by decide, by decide, trivial⟩⟩
    | cons z0 zs' =>
      rw [← hzs]
      have hy : (zs.map AV.int)[0]? = some (.int z0) := by rw [hzs]; rfl
      have hne : (!(zs.map AV.int).isEmpty) = true := by rw [hzs]; rfl
      have q1 := Int.fmod_nonneg_of_pos z0 (by decide : (0 : Int) < 11)
      have q2 := Int.fmod_lt_of_pos z0 (by decide : (0 : Int) < 11)
      refine ⟨z0.fmod 11, (z0.fmod 11).toNat, by omega, ?_⟩
      have e : (((z0.fmod 11).toNat : Nat) : Int) = (if 0 < z0.fmod 11 then z0.fmod 11 - 0 else 0) := by split <;> omega
      rw [e]
      exact Go.of _ (fun ds => pl_itF p xs _ z0 n ds) ⟨by omega, hne, by omega, ⟨by decide, by decide, hy⟩, by decide, ⟨rfl, by decide, by decide, by omega, by omega⟩, trivial⟩
  obtain ⟨N, left, hleft, hst⟩ := start
  obtain ⟨L, l1, l2, x', nm', hlp⟩ := ls_loop (p := p) (xs := xs) (zs := zs) (by omega) left (n + 20) (by omega) [] N 0 [] (by simp only [List.length_nil]; omega) (Int.le_refl _) (.inl rfl)
  refine ⟨L, by omega, l2, ?_⟩
  rw [List.nil_append] at hlp
  rw [pw_sg p (n + 22)]
  refine (Go.of [] (fun ds => pw_sv p xs _ (n + 12) ds) trivial).bind ?_
  refine Go.fcall (pw_ko p).1 (Go.args1 (pw_st p).2.2.2 (Go.of [] (fun ds => pw_sa p xs _ (n + 12) ds) trivial)) ?_
  rw [pw_c1 p (n + 21)]
  refine Go.fn (pw_pp p).1 (pw_b1 p) (ae := lAe p) (σ1 := ls0 xs (zs.map .int)) (by rw [(pw_cl p).1]; exact Go.of [] (fun ds => pl_en p xs _ ds) trivial) ?_
  have fin : Go (eNorm 5 (.ref 6)) (lsS xs (zs.map .int) (L.map Sg.sgn) N x' 0 nm') (.ref 6) (law2 xs (zs.map .int) (L.map Sg.sgn)) := Go.of _ (fun ds => pl_no p xs _ _ N x' 0 nm' ds) trivial
  refine Go.bind (b := AFlow.ret (.ref 6)) (σ' := lsS xs (zs.map .int) (L.map Sg.sgn) N x' 0 nm') ?_ fin
  show Go ((RN p (n + 21)).exs (lAe p) (lsB p)) _ _ _
  rw [pl_B, pf_exs p (n + 20)]
  refine Go.app (a := [nthS (lsB p) 0]) (b := [lsFor p, nthS (lsB p) 2]) (σ' := ls1 xs (zs.map .int)) (by rw [← pf_exs p (n + 20)]; exact Go.of [] (fun ds => pl_p0 p xs _ (n + 1) ds) ⟨by decide, trivial⟩) ?_
  refine Go.stmts (σ1 := lsS xs (zs.map .int) (L.map Sg.sgn) N x' 0 nm') ?_ (by rw [← pf_exs p (n + 20)]; exact Go.of [] (fun ds => pl_re p xs _ _ N x' 0 nm' (n + 1) ds) trivial)
  rw [pl_for p (n + 20)]
  exact Go.iter hst hlp
theorem flat_sgn (s : Sg) : flatN 3 s.sgn = true := rfl
theorem flat_evTok (ty : Str) (W : List Sg) : flatN 3 (evTok ty W) = true := by cases W <;> rfl
theorem flat_app {a b : List AV} (h1 : a.all (flatN 3) = true) (h2 : b.all (flatN 3) = true) : (a ++ b).all (flatN 3) = true := by rw [List.all_append, h1, h2]; rfl
theorem flat_sgs (U : List Sg) : (U.map Sg.sgn).all (flatN 3) = true := by
  rw [List.all_map]
  exact List.all_eq_true.mpr fun s _ => flat_sgn s
theorem flat_step (w : Int) (W U : List Sg) : (spStep w W U).1.all (flatN 3) = true := by
  unfold spStep
  split
  · rfl
  split
  · rfl
  split
  · rfl
  · cases U with
    | nil =>
      show [if w = 3 then refV else noneV].all (flatN 3) = true
      split <;> rfl
    | cons x U => rfl
theorem flat_all : ∀ (rest : List Int) (a : Nat) (W U : List Sg), (spAll a rest W U).all (flatN 3) = true
  | [], a, W, U => by
    unfold spAll
    refine flat_app (flat_app (flat_app (flat_app (flat_sgs U) rfl) rfl) rfl) ?_
    cases W ++ U with
    | nil => rfl
    | cons x V => rfl
  | w :: rest, a, W, U => by
    rw [spAll_cons]
    split
    · rw [List.all_cons, flat_evTok, flat_all rest]; rfl
    · exact flat_app (flat_step w W U) (flat_all rest _ _ _)
theorem cl_ints (zs : List Int) : CL (zs.map AV.int) := ⟨fun x hx N => by
  obtain ⟨z, _, rfl⟩ := List.mem_map.mp hx
  exact .int z⟩
theorem cl_step (w : Int) (W U : List Sg) : CL (spStep w W U).1 := by
  unfold spStep
  split
  · exact CL.nil
  split
  · exact CL.nil
  split
  · exact CL.nil
  · cases U with
    | nil =>
      show CL [if w = 3 then refV else noneV]
      refine CL.cons (fun N => ?_) CL.nil
      split
      · exact CL.tup (CL.cons (fun _ => .str _) (CL.cons (fun _ => .val _) CL.nil)) N
      · exact .val _
    | cons x U => exact cl_sgs [x]
theorem cl_all : ∀ (rest : List Int) (a : Nat) (W U : List Sg), CL (spAll a rest W U)
  | [], a, W, U => by
    unfold spAll
    refine (((cl_sgs U).app (CL.cons (fun _ => .val _) CL.nil)).app (CL.cons (fun N => CL.tup (CL.cons (fun _ => .str _) (CL.cons (fun _ => .val _) CL.nil)) N) CL.nil)).app (CL.cons (fun _ => .val _) CL.nil) |>.app ?_
    cases W ++ U with
    | nil => exact CL.nil
    | cons x V => exact CL.cons (evTok_cl _ _) CL.nil
  | w :: rest, a, W, U => by
    rw [spAll_cons]
    split
    · exact CL.cons (evTok_cl _ _) (cl_all rest _ _ _)
    · exact (cl_step w W U).app (cl_all rest _ _ _)
theorem len_step (w : Int) (W U : List Sg) : (spStep w W U).1.length ≤ 1 ∧ (spStep w W U).2.1.length + (spStep w W U).2.2.length ≤ W.length + U.length := by
  unfold spStep
  split
  · exact ⟨by simp, by simp⟩
  split
  · exact ⟨by simp, by simp⟩
  split
  · rename_i h
    refine ⟨by simp, ?_⟩
    have : W.getLast?.toList.length ≤ 1 := by cases W.getLast? <;> simp
    have h2 : W.length ≠ 0 := fun e => h.2 (List.length_eq_zero_iff.mp e)
    simp only [List.length_dropLast, List.length_append]
    omega
  · cases U with
    | nil => exact ⟨Nat.le_refl _, Nat.le_refl _⟩
    | cons x U => exact ⟨Nat.le_refl _, by simp only [spTake, List.length_append, List.length_cons, List.length_nil]; omega⟩
theorem len_all : ∀ (rest : List Int) (a : Nat) (W U : List Sg), (spAll a rest W U).length ≤ rest.length + W.length + U.length + 4
  | [], a, W, U => by
    unfold spAll
    have : (evRest (W ++ U)).length ≤ 1 := by cases W ++ U <;> simp [evRest]
    simp only [List.length_append, List.length_map, List.length_cons, List.length_nil]
    omega
  | w :: rest, a, W, U => by
    rw [spAll_cons]
    split
    · have := len_all rest (a + 1) [] U
      simp only [List.length_cons, List.length_nil] at this ⊢
      omega
    · have := len_all rest (a + 1) (spStep w W U).2.1 (spStep w W U).2.2
      have h := len_step w W U
      simp only [List.length_append, List.length_cons] at this ⊢
      omega
theorem law_body {p : Params} {m : Nat} (hm : 86 ≤ m) (xs : List Int) (vs : List Value) (hvs : vs.map rawAV = xs.map AV.int) (hx : xs.length ≤ 63) : ∃ σ', σ'.get 0 = some (.raw (lstO vs)) ∧ σ'.get 1 = some (.tab 245 #[] (some [(156, 4), (131, 4), (120, 4)])) ∧ σ'.get 2 = some (.tab 184 #[] none) ∧ Go (EM.bind ((RN p (m + 25)).exs (wAe p) (lwB p)) fun fl => onFl fl (eNorm 3 noneAV) (eNorm 3) EM.fail) (law0 (lstO vs)) (.bool true) σ' := by
  have hxl : (xs.map AV.int).length = xs.length := List.length_map ..
  have hvl : vs.length = xs.length := by rw [← hxl, ← hvs, List.length_map]
  have hp1 : pickG (xs.map AV.int) none (some 25) = (xs.take 25).map AV.int := by rw [show (25 : Int) = ((25 : Nat) : Int) from rfl, pickG_b, List.map_take]
  generalize hzs : xs.take 25 = zs at hp1
  have hzl : zs.length ≤ 25 := by rw [← hzs, List.length_take]; omega
  have hp2 : pickG (zs.map AV.int) (some 1) none = (zs.drop 1).map AV.int := by rw [show (1 : Int) = ((1 : Nat) : Int) from rfl, pickG_a, List.map_drop]
  generalize hys : zs.drop 1 = ys at hp2
  have hyl : ys.length ≤ 24 := by rw [← hys, List.length_drop]; omega
  obtain ⟨L, l1, l2, hsg⟩ := sg_go (p := p) (xs := lstO vs) (zs := zs) (m := m + 20) (by omega) (by omega)
  have hwy := wy_go (p := p) (xs := lstO vs) (ns := zs.map .int) (ss := L.map Sg.sgn) (zs := ys) (m := m + 22) hp2 (by omega) (by rw [List.length_map]; omega) (by omega)
  have hws : ys.map wyOf = (ys.map fun y => y.fmod 9).map AV.int := by rw [List.map_map]; rfl
  rw [hws] at hwy
  generalize hW : (ys.map fun y => y.fmod 9) = ws at hwy
  have hwl : ws.length ≤ 24 := by rw [← hW, List.length_map]; exact hyl
  generalize hg0 : (⟨lstO vs, zs.map .int, L.map Sg.sgn, ys.map .int, ws.map .int, chs L⟩ : G3) = g
  have g1 : g.xs = lstO vs := by rw [← hg0]
  have g2 : g.ns = zs.map .int := by rw [← hg0]
  have g3 : g.ss = L.map Sg.sgn := by rw [← hg0]
  have g4 : g.cs = ys.map .int := by rw [← hg0]
  have g5 : g.ws = ws.map .int := by rw [← hg0]
  have g6 : g.ch = chs L := by rw [← hg0]
  have hg : GOk g := ⟨g2 ▸ cl_ints _, g3 ▸ cl_sgs _, g4 ▸ cl_ints _, g5 ▸ cl_ints _, g6 ▸ cl_chs _⟩
  have hrun := run_body (p := p) (g := g) hg m L ws g3 g5 g6 (by omega) (by omega) (by omega) l2
  obtain ⟨σ', ⟨k, hσ⟩, hdue⟩ := due_body (p := p) (g := g) (sn := spAll 0 ws [] L) hg (cl_all _ _ _ _) m L ws g3 g5 (by omega) (by omega) (by omega) l2
  rw [← g1, ← g2, ← g3, ← g4, ← g5] at hwy
  rw [← g1, ← g2, ← g3] at hsg
  have s0 : Go ((RN p (m + 25)).exs (wAe p) [nthS (lwB p) 0]) (law0 g.xs) .next (law1 g.xs g.ns) := by
    rw [g1, g2, ← hp1, ← hvs]
    exact Go.of [] (fun ds => pl_l0 p vs (m + 5) ds) ⟨by omega, by rw [hvs, hp1, List.length_map]; omega, trivial⟩
  have s1 : Go (eOne (KK p) (ext3 p) (RN p (m + 24)) (xrecN (KK p) (ext3 p) (m + 24)) (wAe p) (wA1 p)) (law1 g.xs g.ns) .next (run0 g) := by
    rw [pw_a1 p (m + 24)]
    refine Go.tupA (vs := [.ref 6, .ref 11]) (σ1 := law7 g.xs g.ns g.ss g.cs .lend g.ws) (pw_nm p) (pw_sw p) ?_ rfl (Go.of [] (fun ds => pw_bs p g ds) trivial)
    rw [pw_val p (m + 23)]
    exact (Go.argsC (pw_st p).1 hsg (Go.args1 (pw_st p).2.1 hwy)).bind newtup2
  have cL : Go ((RN p (m + 23)).ev (wAe p) (cmpL (wRet p))) (run0 g) (.ref 30) (runE p g (spAll 0 ws [] L)) := by
    rw [pw_cL p (m + 22)]
    refine (Go.of [] (fun ds => pw_fL p g (m + 12) ds) trivial).bind ?_
    refine Go.fcall (pw_ko p).2.1 (Go.of [] (fun ds => pw_aL p g (m + 12) ds) trivial) ?_
    rw [pw_c2 p (m + 21)]
    exact Go.fn (pw_pp p).2.1 (pw_b2 p) (ae := cAe p) (σ1 := run0b p g) (by rw [(pw_cl p).2.1]; exact Go.of [] (fun ds => pd_r0 p g ds) trivial) hrun
  have cR : Go ((RN p (m + 23)).ev (wAe p) (cmpR (wRet p))) (runE p g (spAll 0 ws [] L)) (.ref 37) σ' := by
    rw [pw_cR p (m + 22)]
    refine (Go.of [] (fun ds => pw_fR p g _ (m + 12) ds) trivial).bind ?_
    refine Go.fcall (pw_ko p).2.2 (Go.of [] (fun ds => pw_aR p g _ (m + 12) ds) trivial) ?_
    rw [pw_c3 p (m + 21)]
    exact Go.fn (pw_pp p).2.2 (pw_b3 p) (ae := dAe p) (σ1 := dueA p g (spAll 0 ws [] L)) (by rw [(pw_cl p).2.2]; exact Go.of [] (fun ds => ph_en p g _ ds) trivial) hdue
  have s2 : Go (eOne (KK p) (ext3 p) (RN p (m + 24)) (xrecN (KK p) (ext3 p) (m + 24)) (wAe p) (nthS (lwB p) 2)) (run0 g) (.ret (.bool true)) σ' := by
    rw [pw_r p (m + 24)]
    refine Go.bind (b := .bool true) (σ' := σ') ?_ Go.ret
    rw [pw_cmp p (m + 23)]
    refine cL.bind (cR.bind (Go.eqL (xs := spAll 0 ws [] L) (by rw [hσ]; rfl) (by rw [hσ]; rfl) (flat_all _ _ _ _) ?_))
    have := len_all ws 0 [] L
    simp only [List.length_nil] at this
    omega
  refine ⟨σ', by rw [hσ, ← g1]; rfl, by rw [hσ]; rfl, by rw [hσ]; rfl, Go.bind (b := AFlow.ret (.bool true)) (σ' := σ') ?_ (Go.of (x := eNorm 3 (.bool true)) (cs := []) [.keep] (fun ds => rfl) trivial)⟩
  rw [← g1, pw_B, pf_exs p (m + 24)]
  exact Go.app (a := [nthS (lwB p) 0]) (b := [wA1 p, nthS (lwB p) 2]) (by rw [← pf_exs p (m + 24)]; exact s0) (Go.stmts s1 (Go.stmt s2))
theorem pw_c0 (p : Params) (n : Nat) (as : List AV) : (RN p (n + 1)).call (.val (.ref 256)) as [] = eFn (RN p n) (fnAt3 p 256) as [] := by kernel_rfl
theorem pw_p0 (p : Params) : (plainParams (fnAt3 p 256).params && plainScope (fnAt3 p 256).scope) = true := by kernel_rfl
theorem pw_b0 (p : Params) : bindsOf ((fnAt3 p 256).params.args.map fun p => p.arg) (fnAt3 p 256).dflts [AV.ref 0] [] = some [(Str.ofString "script", AV.ref 0)] := by kernel_rfl
theorem pw_e0 (p : Params) (xs : Obj) (ds : List Wd) : eEnter (fnAt3 p 256).scope (fnAt3 p 256).closure (fnAt3 p 256).code [(Str.ofString "script", AV.ref 0)] (⟨3, lwb xs⟩, ds) = some (wAe p, (law0 xs, ds), []) := by kernel_rfl
theorem law_call {p : Params} {m : Nat} (hm : 86 ≤ m) (xs : List Int) (vs : List Value) (hvs : vs.map rawAV = xs.map AV.int) (hx : xs.length ≤ 63) : ∃ σ', σ'.get 0 = some (.raw (lstO vs)) ∧ σ'.get 1 = some (.tab 245 #[] (some [(156, 4), (131, 4), (120, 4)])) ∧ σ'.get 2 = some (.tab 184 #[] none) ∧
    Go ((RN p (m + 26)).call (.val (.ref 256)) [.ref 0] []) ⟨3, lwb (lstO vs)⟩ (.bool true) σ' := by
  obtain ⟨σ', h0, h1, h2, h⟩ := law_body (p := p) hm xs vs hvs hx
  refine ⟨σ', h0, h1, h2, ?_⟩
  rw [pw_c0 p (m + 25)]
  exact Go.fn (pw_p0 p) (pw_b0 p) (ae := wAe p) (σ1 := law0 (lstO vs)) (Go.of [] (fun ds => pw_e0 p _ ds) trivial) h
end Mine
open PySem PySem.W PySem.W.X PyProof.Rows PySem.Builtin PySem.Builtin.ObjectAttr
namespace Mine
noncomputable def isAsg : Stmt → Bool
  | .Assign [.Name n _] _ _ => n == Str.ofString "__name__"
  | _ => false
noncomputable def q3 : Program := { P3 with main := { P3.main with body := P3.main.body.filter fun s => !isAsg s } }
noncomputable def lo3 : List Str := [Str.ofString "Token", Str.ofString "SourceLocation", Str.ofString "CompilerError"]
noncomputable def as3 : List Addr := [2, 3, 4, 15, 17, 18, 20, 21, 29, 30, 32, 33, 35, 36, 37, 39, 40, 42, 43, 44, 46, 47, 48, 49, 50, 60, 61, 62, 64, 65, 67, 68, 69, 71, 72, 74, 75, 76, 78, 79, 80, 81, 82, 83, 84, 87, 94, 95, 97, 98, 100, 101, 102, 104, 105, 107, 108, 109, 110, 111, 112, 122, 124, 125, 127, 128, 129, 131, 132, 134, 135, 136, 137, 138, 139, 140, 150, 152, 153, 155, 156, 157, 159, 160, 162, 163, 164, 165, 167, 168, 170, 171, 172, 174, 175, 177, 178, 179, 181, 182, 184, 185, 186, 188, 189, 191, 192, 193, 195, 196, 198, 199, 200, 202, 203, 205, 206, 207, 209, 210, 212, 213, 214, 216, 217, 219, 220, 221, 223, 224, 226, 227, 228, 229, 230, 231, 232, 235, 237, 238, 240, 241, 242, 245, 246, 247, 250, 251, 252, 255, 256]
noncomputable def yf3 (as : List Addr) (s : Shared) : List (Option Obj) × List (Option Obj) × Nat := (as.map s.heap.get?, [180, 243].map s.heap.get?, s.heap.objs.size)
noncomputable def ya3 (w : World) : List (Option Obj) × List (Option Obj) × Nat := ((kk3 w.params).map fun q => some q.2, [some noneTab, some noneTab], 257)
theorem dS : (defOf q3 (Str.ofString "law")).isSome = true := by kernel_rfl
noncomputable def dk3 : DefRec × List (Str × PySem.Expr) := (defOf q3 (Str.ofString "law")).get dS
theorem as3_eq (p : Params) : as3 = (kk3 p).map (·.1) := by kernel_rfl
theorem left3 : LeftO P3 q3 lo3 (fun s => xlAt q3 [] s && recOk (RowW.records (OpenRow.toRowW PySem.Challenge.rw_rk0005_03.row)) s) (yf3 as3) ya3 3870 := by intro w; kernel_rfl
set_option maxHeartbeats 8000000 in
theorem head3 (hc : WalkX q3 lo3 (XL q3 []) (yf3 as3) ya3 (OpenRow.toRowW PySem.Challenge.rw_rk0005_03.row) dk3.1 dk3.2 fun f vs => PySem.call f vs) : PySem.Challenge.rw_rk0005_03.Holds := by
  refine holds_law (by decide +kernel) fun said => ?_
  refine holds_openX (q := q3) (loose := lo3) (Xt := fun s => xlAt q3 [] s && recOk (RowW.records (OpenRow.toRowW PySem.Challenge.rw_rk0005_03.row)) s) (XP := XL q3 []) (Yf := yf3 as3) (Ya := ya3) (N := 3870) (d := dk3.1) (kwd := dk3.2) left3 (fun s e => xl_of s (Bool.and_eq_true_iff.mp e).1) XL.keeps ?d1 ?d2 ?d3 (fun s e => recFacts_of (Bool.and_eq_true_iff.mp e).2) ?d4 said ?d5 ⟨rfl, rfl, rfl, rfl, rfl, ?d6⟩ ?hw hc
  case d1 => kernel_rfl
  case d2 => kernel_rfl
  case d3 => kernel_rfl
  case d4 => kernel_rfl
  case d5 => decide +kernel
  case d6 => decide +kernel
  case hw => exact ⟨[WData.list []], by decide +kernel, by decide +kernel⟩
end Mine
open PySem PySem.W PySem.W.X PyProof.Rows PySem.Builtin PySem.Builtin.ObjectAttr
namespace Mine
noncomputable def TB3 : List Tb4 := [(2, 184, 180, none), (1, 245, 243, some [])]
theorem Nat.beq_eq_false {a b : Nat} (h : a ≠ b) : Nat.beq b a = false := Bool.eq_false_iff.mpr fun e => h (Nat.eq_of_beq_eq_true e).symm
theorem K3_ne (p : Params) : ∀ a o, List.lookup a (KK p) = some o → a < 257 ∧ (TB3.any fun t => Nat.beq t.2.2.1 a) = false := fun a o h => by
  have h1 : a ≠ 180 := lookup_ne (K := KK p) (by kernel_rfl) a o h
  have h2 : a ≠ 243 := lookup_ne (K := KK p) (by kernel_rfl) a o h
  refine ⟨lookup_lt (K := KK p) (by kernel_rfl) a o h, ?_⟩
  show (Nat.beq 180 a || (Nat.beq 243 a || false)) = false
  have b1 : Nat.beq 180 a = false := (Nat.beq_eq_false h1)
  have b2 : Nat.beq 243 a = false := (Nat.beq_eq_false h2)
  rw [b1, b2]
  rfl
theorem code184 (p : Params) : CodeF (KK p) 184 180 := ⟨by kernel_rfl, by kernel_rfl, by kernel_rfl, by kernel_rfl, by kernel_rfl, by kernel_rfl, by kernel_rfl, by kernel_rfl, by kernel_rfl, by decide⟩
theorem code245 (p : Params) : CodeF (KK p) 245 243 := ⟨by kernel_rfl, by kernel_rfl, by kernel_rfl, by kernel_rfl, by kernel_rfl, by kernel_rfl, by kernel_rfl, by kernel_rfl, by kernel_rfl, by decide⟩
theorem names3 {mb : Str → Option Value} (h : ∀ x : Str, x ≠ "__name__" → mb x = bootBuiltins x) : ∀ y v, bNames.lookup y = some v → mb y = some v := by
  have e : bNames.map (fun q => bootBuiltins q.1) = bNames.map (fun q => some q.2) := by kernel_rfl
  have n : (bNames.map (·.1)).all (fun y => !(y == ("__name__" : Str))) = true := by kernel_rfl
  intro y v hl
  have hy := nm_of e y v hl
  rw [h y fun q => ?_]
  · exact hy
  · subst q
    have : bNames.lookup ("__name__" : Str) = none := by kernel_rfl
    rw [this] at hl
    cases hl
theorem bf3 (prog : Program) (p : Params) : peek (KK p) ⟨prog, p⟩ (builtinsFor mainGlobals builtinsNs) = some builtinsNs := by kernel_rfl
theorem mn3 (prog : Program) (p : Params) : (peek (KK p) ⟨prog, p⟩ (nsGet mainGlobals "__name__")).isSome = true := by kernel_rfl
theorem join3 {prog : Program} {w : World} {s₁ : Shared} {vs : List Value} {ns : List Int} {mb : Str → Option Value} (KX : (KK w.params).In s₁.heap) (h1 : s₁.heap.get? 180 = some noneTab) (h2 : s₁.heap.get? 243 = some noneTab)
    (hb : s₁.heap.Ns builtinsNs mb) (hbb : ∀ x : Str, x ≠ "__name__" → mb x = bootBuiltins x) (hc : s₁.heap.NoLimit) (hs : s₁.heap.get? 257 = some (lstO vs)) (hg : s₁.gens = #[])
    (hI : IntsAre vs ns) (hl : ns.length ≤ 63) {Q : Value → Shared → Prop} {E : Value → Shared → Prop}
    (hQ : ∀ s', OldK s₁.heap s'.heap → s'.os = s₁.os → AllBare s'.gens → Q (.bool true) s') : wpAny (model prog w) callerA (call (.ref 256) [.ref 257]) Q E s₁ := by
  obtain ⟨σ', e0, e1, e2, h⟩ := law_call (p := w.params) (m := 86) (Nat.le_refl _) ns vs (ints_raw hI) hl
  refine join_gen (K := KK w.params) (x := ext3 w.params) (n := 112) (N := 3) (n0 := 257) (T := TB3) (σ' := σ') (vs := vs) (mb := mb) KX (K3_ne w.params) (fun t ht => ?_) (by decide) rfl (by decide) (by decide) hb (by decide) rfl hc (by decide) rfl hs hg (names3 hbb) (bf3 prog w.params) (Option.isSome_iff_exists.mp (mn3 prog w.params)) (by decide) (by decide) h e0 (fun t ht => ?_) hQ
  · rcases List.mem_cons.mp ht with rfl | ht
    · exact ⟨code184 _, h1, by decide, rfl⟩
    · rw [List.mem_singleton] at ht
      subst ht
      exact ⟨code245 _, h2, by decide, rfl⟩
  · rcases List.mem_cons.mp ht with rfl | ht
    · exact ⟨_, e2⟩
    · rw [List.mem_singleton] at ht
      subst ht
      exact ⟨_, e1⟩
end Mine
open PySem PySem.W PySem.W.X PyProof.Rows
namespace Mine
theorem law_name : dk3.1.name = Str.ofString "law" := by kernel_rfl
theorem law_at (p : Params) : nsIn (KK p) mainGlobals (Str.ofString "law") = some (some (.ref 256)) := by kernel_rfl
end Mine
set_option maxHeartbeats 8000000 in
theorem PySem.Challenge.cw_rk0005_03_holds : PySem.Challenge.rw_rk0005_03.Holds := by
  w_on
  refine Mine.head3 ?_
  intro w s₀ s₁ mg mb G y fa o pm cd doc dV kV ho hd hcd hD hmg hg args vals as L hpre hlay hrd hwl hlo
  refine Ground.open G ?_
  intro T B D TE TW
  have keeps := L.keeps
  have KX : (Mine.KK w.params).In s₁.heap := InK.keeps w _ _ (InK.of (K := Mine.kk3) (fun p => Mine.as3_eq p) w s₀ (congrArg Prod.fst y)) keeps
  have y2 : [180, 243].map s₀.heap.get? = [some Mine.noneTab, some Mine.noneTab] := congrArg (fun x => x.2.1) y
  have y3 : s₀.heap.objs.size = 257 := congrArg (fun x => x.2.2) y
  injection y2 with e1 y2
  injection y2 with e2 _
  have h1 := keeps _ _ e1
  have h2 := keeps _ _ e2
  have hfa := mg_of KX T.g (Mine.law_at w.params)
  rw [Mine.law_name, hfa] at hmg
  cases hmg
  clear hd hcd hD B D TE TW ho
  wrow_args hpre hlay hrd hwl hlo
  obtain ⟨hat, hsz⟩ := script_at L
  rw [y3] at hat
  subst hat
  rename_i hI _ hcond _ hLst _ _
  have hol := script_obj L hLst
  refine Mine.join3 KX h1 h2 T.b T.builtins T.nolimit hol hg hI (by omega) ?_
  intro s' k1 k2 k3
  refine ⟨.inl ⟨_, .bool true, [], rfl, fun _ => rfl, .bool true, ?_, fun _ => ⟨.nil, fun a ha => nomatch ha⟩⟩, k1, k2, k3⟩
  clear G y KX T
  first | rfl | wrow_post
