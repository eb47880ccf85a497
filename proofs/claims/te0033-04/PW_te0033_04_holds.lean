import PyProof.Rows.All
import Wide.All
import OpenK.AllK
import Wide.FinOn
import PySem.Challenge.RW_te0033_04
set_option Elab.async false
set_option linter.unusedVariables false
set_option maxRecDepth 10000
set_option genSizeOf false
set_option genInjectivity false
set_option genCtorIdx false
set_option bootstrap.genMatcherCode false
noncomputable section
set_option genSizeOf false
open PySem
namespace Mine
theorem ff {P:Prop} (h:false=true):P:=nomatch h
theorem nn {α:Type} {a:α} {P:Prop} (h:none=some a):P:=nomatch h
theorem bA {a b:Bool} {P:Prop} (h:(a&&b)=true) (k:a=true→b=true→P):P:=by
  cases a
  · exact ff h
  · exact k rfl h
noncomputable def ctq {n m:Nat} (k:n=m→Bool):Bool:=dite (n=m) k fun _=>false
noncomputable def ctt {n m:Nat} (k:n=m→Bool):Bool:=dite (n=m) k fun _=>true
theorem Je {n m:Nat} {k:n=m→Bool} {P:Prop} (h:ctq k=true) (f:n=m→P):P:=by
  by_cases q:n=m
  · exact f q
  · exact ff ((dif_neg q:ctq k=false).symm.trans h)
theorem bO {a b:Bool} {P:Prop} (h:(a||b)=true) (k1:a=true→P) (k2:b=true→P):P:=by
  cases a
  · exact k2 h
  · exact k1 rfl

set_option genCtorIdx true in
inductive Id where
  | p (n:Nat)
  | t (n:Nat)
  deriving DecidableEq

inductive V where
  | none
  | bool (b:Bool)
  | int (i:Int)
  | str (s:List Nat)
  | tup (l:List V)
  | list (l:List V)
  | dict (ks:List (List Nat)) (vs:List V)
  | obj (id:Id)
  | fn (f:Nat)
  | meth (f:Nat) (self:V)
  | rng (lo hi:Int)
noncomputable def V.ctorIdx:V→Nat:=@V.rec (fun _=>Nat) (fun _=>Nat) 0 (fun _=>1) (fun _=>2) (fun _=>3) (fun _ _=>4) (fun _ _=>5) (fun _ _ _=>6) (fun _=>7) (fun _=>8) (fun _ _ _=>9) (fun _ _=>10) 0 (fun _ _ _ _=>0)

noncomputable def V.isNone:V→Bool | .none=>true | _=>false
noncomputable def V.isBool (b:Bool):V→Bool | .bool a=>b==a | _=>false
noncomputable def V.isInt (b:Int):V→Bool | .int a=>b==a | _=>false
noncomputable def V.isStr (b:List Nat):V→Bool | .str a=>b==a | _=>false
noncomputable def V.isObj (b:Id):V→Bool | .obj a=>b==a | _=>false
noncomputable def V.isFn (b:Nat):V→Bool | .fn a=>b==a | _=>false
noncomputable def V.isTup (f:List V→Bool):V→Bool | .tup l=>f l | _=>false
noncomputable def V.isList (f:List V→Bool):V→Bool | .list l=>f l | _=>false
noncomputable def V.isDict (ks:List (List Nat)) (f:List V→Bool):V→Bool | .dict k l=>ks==k&&f l | _=>false
noncomputable def V.isMeth (f:Nat) (k:V→Bool):V→Bool | .meth g v=>f==g&&k v | _=>false
noncomputable def V.isRng (a b:Int):V→Bool | .rng c d=>a==c&&b==d | _=>false
mutual
noncomputable def V.beq:V→V→Bool
  | .none=>V.isNone
  | .bool b=>V.isBool b
  | .int i=>V.isInt i
  | .str s=>V.isStr s
  | .tup l=>V.isTup (fun x=>V.beqs l x)
  | .list l=>V.isList (fun x=>V.beqs l x)
  | .dict ks l=>V.isDict ks (fun x=>V.beqs l x)
  | .obj i=>V.isObj i
  | .fn f=>V.isFn f
  | .meth f v=>V.isMeth f (fun x=>V.beq v x)
  | .rng a b=>V.isRng a b
noncomputable def V.beqs:List V→List V→Bool
  | []=>fun l=>l.isEmpty
  | a :: r=>fun l=>match l with
    | []=>false
    | b :: r'=>V.beq a b&&V.beqs r r'
end
theorem bE {α:Type} [BEq α] [LawfulBEq α] {a b:α} (h:(a==b)=true):a=b:=beq_iff_eq.mp h
theorem V.beq_refl (a:V):V.beq a a=true:=
  V.rec (motive_1:=fun a=>V.beq a a=true) (motive_2:=fun l=>V.beqs l l=true) rfl (fun _=>beq_self_eq_true _) (fun _=>beq_self_eq_true _) (fun _=>beq_self_eq_true _) (fun _ h=>h) (fun _ h=>h) (fun _ _ h=>Bool.and_eq_true_iff.mpr ⟨beq_self_eq_true _,h⟩)
    (fun _=>beq_self_eq_true _) (fun _=>beq_self_eq_true _) (fun _ _ h=>Bool.and_eq_true_iff.mpr ⟨beq_self_eq_true _,h⟩) (fun _ _=>Bool.and_eq_true_iff.mpr ⟨beq_self_eq_true _,beq_self_eq_true _⟩) rfl (fun _ _ h1 h2=>Bool.and_eq_true_iff.mpr ⟨h1,h2⟩) a
theorem V.beqs_refl:∀ a:List V,V.beqs a a=true
  | []=>rfl
  | a :: r=>Bool.and_eq_true_iff.mpr ⟨V.beq_refl a,V.beqs_refl r⟩
theorem V.eq_of_beq {a b:V}:V.beq a b=true→a=b:=
  V.rec (motive_1:=fun a=>∀ b,V.beq a b=true→a=b) (motive_2:=fun l=>∀ l',V.beqs l l'=true→l=l')
    (fun b h=>by cases b <;> first | exact ff h | rfl) (fun _ b h=>by cases b <;> first | exact ff h | exact congrArg V.bool (bE h)) (fun _ b h=>by cases b <;> first | exact ff h | exact congrArg V.int (bE h)) (fun _ b h=>by cases b <;> first | exact ff h | exact congrArg V.str (bE h))
    (fun _ ih b h=>by cases b <;> first | exact ff h | exact congrArg V.tup (ih _ h)) (fun _ ih b h=>by cases b <;> first | exact ff h | exact congrArg V.list (ih _ h))
    (fun _ _ ih b h=>by cases b <;> first | exact ff h | exact bA h fun h1 h2=>bE h1▸congrArg (V.dict _) (ih _ h2)) (fun _ b h=>by cases b <;> first | exact ff h | exact congrArg V.obj (bE h)) (fun _ b h=>by cases b <;> first | exact ff h | exact congrArg V.fn (bE h))
    (fun _ _ ih b h=>by cases b <;> first | exact ff h | exact bA h fun h1 h2=>bE h1▸congrArg (V.meth _) (ih _ h2)) (fun _ _ b h=>by cases b <;> first | exact ff h | exact bA h fun h1 h2=>bE h1▸bE h2▸rfl)
    (fun l h=>by cases l <;> first | rfl | exact ff h) (fun _ _ ih1 ih2 l h=>by cases l <;> first | exact ff h | exact bA h fun h1 h2=>ih1 _ h1▸congrArg (List.cons _) (ih2 _ h2)) a b
theorem V.eq_of_beqs:∀ {a b:List V},V.beqs a b=true→a=b
  | [],[],_=>rfl
  | [],_ :: _,h=>ff h
  | _ :: _,[],h=>ff h
  | _ :: _,_ :: _,h=>bA h fun h1 h2=>V.eq_of_beq h1▸congrArg _ (V.eq_of_beqs h2)

inductive Ob where
  | list (l:List V)
  | dict (ks:List (List Nat)) (vs:List V)
  | inst (C:Nat) (fs:List (Nat×V))

structure St where
  loc:List (Nat×V):=[]
  hp:List (Id×Ob):=[]
  nx:Nat:=0
  ps:List Nat:=[]

noncomputable def JA {α β:Type} [DecidableEq α]:List (α×β)→α→Option β
  | [],_=>none
  | (a,b) :: r,x=>if a=x then some b else JA r x
noncomputable def put {α β:Type} [DecidableEq α]:List (α×β)→α→β→List (α×β)
  | [],x,v=>[(x,v)]
  | (a,b) :: r,x,v=>if a=x then (a,v) :: r else (a,b) :: put r x v

theorem Q1 {α β:Type} [DecidableEq α] {a x:α} {b:β} {r:List (α×β)}:JA ((a,b) :: r) x=if a=x then some b else JA r x:=rfl
theorem NY {α β:Type} [DecidableEq α] {a x:α} {b v:β} {r:List (α×β)}:put ((a,b) :: r) x v=if a=x then (a,v) :: r else (a,b) :: put r x v:=rfl
noncomputable def St.setLoc (σ:St) (n:Nat) (v:V):St:={ σ with loc:=put σ.loc n v }
noncomputable def St.setOb (σ:St) (id:Id) (o:Ob):St:={ σ with hp:=put σ.hp id o }

set_option genCtorIdx true in
inductive LV where
  | frz | tmp | per (k:Nat)
  deriving DecidableEq

noncomputable def Ob.frz:Ob→Option V
  | .list l=>some (.list l)
  | .dict ks vs=>some (.dict ks vs)
  | .inst _ _=>none

set_option genCtorIdx true in
inductive Cmp where
  | eq | ne | lt | le | gt | ge | inn | nin | is | isn
  deriving DecidableEq
set_option genCtorIdx true in
inductive Bop where
  | add | sub | mul | fdiv | mod
  deriving DecidableEq
set_option genCtorIdx true in
inductive BI where
  | len | ord | chr | sum | range | max
  deriving DecidableEq
set_option genCtorIdx true in
inductive SM where
  | find | rfind | count | replace | lower | join | startswith
  deriving DecidableEq

inductive ME where
  | k (v:V)
  | loc (n:Nat)
  | glob (v:V)
  | attr (e:ME) (n C:Nat)
  | bm (e:ME) (n C f:Nat)
  | cat (e:ME) (n C:Nat) (i:Int)
  | call (f:Nat) (as:List ME)
  | mcall (e:ME) (n C f:Nat) (as:List ME)
  | fcall (e:ME) (n C:Nat) (as:List ME)
  | new (C f:Nat) (as:List ME) (lv:LV)
  | bi (b:BI) (as:List ME)
  | sm (m:SM) (e:ME) (as:List ME)
  | app (e x:ME)
  | pop (e:ME) (as:List ME)
  | cmp (o:Cmp) (l r:ME)
  | cmp2 (o₁ o₂:Cmp) (l m r:ME)
  | bop (o:Bop) (l r:ME)
  | neg (e:ME)
  | not (e:ME)
  | and (a b:ME)
  | or (a b:ME)
  | ite (t b o:ME)
  | sub (e i:ME)
  | sl (e lo hi:ME)
  | lst (es:List ME) (lv:LV)
  | tup (es:List ME)
  | dct (ks:List (List Nat)) (es:List ME) (lv:LV)
  | comp (elt:ME) (x:Nat) (it:ME) (cond:ME)
  | isb (e:ME)
  | fat (e:ME) (n:Nat) (w:V)
  | fmc (e:ME) (n f:Nat) (as:List ME)
  | inf (l r:ME) (f:Nat)

inductive MS where
  | ex (e:ME)
  | asg (n:Nat) (e:ME)
  | asgA (t:ME) (n C:Nat) (e:ME)
  | asgS (t i e:ME)
  | asgT (ns:List Nat) (e:ME)
  | asgTA (t₁:ME) (n₁ C₁:Nat) (t₂:ME) (n₂ C₂:Nat) (e:ME)
  | augN (n:Nat) (o:Bop) (e:ME)
  | augA (t:ME) (n C:Nat) (o:Bop) (e:ME)
  | augS (t i:ME) (o:Bop) (e:ME)
  | iff (t:ME) (b o:List MS)
  | whl (t:ME) (b:List MS)
  | for (x:Nat) (it:ME) (b:List MS)
  | forT (xs:List Nat) (it:ME) (b:List MS)
  | ret (e:ME)
  | pass | brk | cont
  | asrt (e:ME)
  | dead
  | tryS (b:List MS)

inductive FL where
  | next | brk | cont
  | ret (v:V)

noncomputable def bn {α β:Type} (x:Option (α×St)) (f:α→St→Option β):Option β:=match x with
  | some (a,σ)=>f a σ
  | none=>none
noncomputable def bo {α β:Type} (x:Option α) (f:α→Option β):Option β:=match x with
  | some a=>f a
  | none=>none
noncomputable def gd {β:Type} (b:Bool) (x:Option β):Option β:=match b with
  | true=>x
  | false=>none
noncomputable def no {α β:Type} (o:Option α) (x:Option β):Option β:=match o with
  | none=>x
  | some _=>none
section
variable {α β:Type} {r:β} {P:Prop}
theorem bnE {x:Option (α×St)} {f:α→St→Option β} (h:bn x f=some r) (k:∀ a σ,x=some (a,σ)→f a σ=some r→P):P:=by
  cases x with
  | none=>exact nn h
  | some p=>cases p; exact k _ _ rfl h
theorem boE {x:Option α} {f:α→Option β} (h:bo x f=some r) (k:∀ a,x=some a→f a=some r→P):P:=by
  cases x with
  | none=>exact nn h
  | some p=>exact k p rfl h
theorem gdE {b:Bool} {x:Option β} (h:gd b x=some r) (k:b=true→x=some r→P):P:=by
  cases b with
  | false=>exact nn h
  | true=>exact k rfl h
theorem noE {o:Option α} {x:Option β} (h:no o x=some r) (k:o=none→x=some r→P):P:=by
  cases o with
  | none=>exact k rfl h
  | some _=>exact nn h
end
noncomputable def onList {β:Type} (σ:St) (v:V) (f:Id→List V→Option β):Option β:=match v with
  | .obj id=>bo (JA σ.hp id) fun o=>match o with
    | .list l=>f id l
    | _=>none
  | _=>none
noncomputable def onInst {β:Type} (σ:St) (C:Nat) (v:V) (f:Id→List (Nat×V)→Option β):Option β:=match v with
  | .obj id=>bo (JA σ.hp id) fun o=>match o with
    | .inst D fs=>gd (Nat.beq D C) (f id fs)
    | _=>none
  | _=>none
noncomputable def onMeth {β:Type} (v:V) (f:Nat→V→Option β):Option β:=match v with
  | .meth g s=>f g s
  | _=>none
noncomputable def onFn {β:Type} (v:V) (f:V→Option β):Option β:=match v with
  | .fn k=>f (.fn k)
  | _=>none
noncomputable def onStr {β:Type} (v:V) (f:List Nat→Option β):Option β:=match v with
  | .str s=>f s
  | _=>none
noncomputable def onInt {β:Type} (v:V) (f:Int→Option β):Option β:=match v with
  | .int i=>f i
  | _=>none
section
variable {β:Type} {r:β} {P:V→Prop} {v:V} {σ:St}
@[elab_as_elim] theorem W5 {f:Id→List V→Option β} (h:onList σ v f=some r) (k:∀ id l,JA σ.hp id=some (.list l)→f id l=some r→P (.obj id)):P v:=by
  cases v <;> first | exact nn h | skip
  exact boE h fun o h1 h2=>by
    cases o <;> first | exact nn h2 | exact k _ _ h1 h2
@[elab_as_elim] theorem Uv {C:Nat} {f:Id→List (Nat×V)→Option β} (h:onInst σ C v f=some r) (k:∀ id fs,JA σ.hp id=some (.inst C fs)→f id fs=some r→P (.obj id)):P v:=by
  cases v <;> first | exact nn h | skip
  exact boE h fun o h1 h2=>by
    cases o <;> first | exact nn h2 | exact gdE h2 fun h3 h4=>k _ _ (Nat.eq_of_beq_eq_true h3▸h1) h4
@[elab_as_elim] theorem ZCF {f:Nat→V→Option β} (h:onMeth v f=some r) (k:∀ g s,f g s=some r→P (.meth g s)):P v:=by
  cases v <;> first | exact nn h | exact k _ _ h
@[elab_as_elim] theorem Nb {f:V→Option β} (h:onFn v f=some r) (k:∀ i,f (.fn i)=some r→P (.fn i)):P v:=by
  cases v <;> first | exact nn h | exact k _ h
@[elab_as_elim] theorem Qg {f:List Nat→Option β} (h:onStr v f=some r) (k:∀ s,f s=some r→P (.str s)):P v:=by
  cases v <;> first | exact nn h | exact k _ h
@[elab_as_elim] theorem QE {f:Int→Option β} (h:onInt v f=some r) (k:∀ s,f s=some r→P (.int s)):P v:=by
  cases v <;> first | exact nn h | exact k _ h
end
noncomputable def St.alloc (σ:St) (lv:LV) (o:Ob):Option (V×St):=match lv with
  | .frz=>bo o.frz fun v=>some (v,σ)
  | .tmp=>some (.obj (.t σ.nx),{ σ with hp:=(.t σ.nx,o) :: σ.hp,nx:=σ.nx + 1 })
  | .per k=>if k∈σ.ps then none else some (.obj (.p k),{ σ with hp:=(.p k,o) :: σ.hp,ps:=k :: σ.ps })

noncomputable def JB:Nat:=16777216
noncomputable def bd {α:Type} (n:Nat) (o:Option α):Option α:=gd (Nat.ble n JB) o
noncomputable def onListOf {β:Type} (σ:St) (v:V) (f:List V→Option β):Option β:=match v with
  | .list l=>f l
  | .obj id=>onList σ (.obj id) fun _ l=>f l
  | _=>none
noncomputable def Jh (σ:St):V→Option Bool
  | .none=>some false
  | .bool b=>some b
  | .int i=>some (i != 0)
  | .str s=>bd s.length (some (!s.isEmpty))
  | .meth _ _=>some true
  | .list l=>bd l.length (some (!l.isEmpty))
  | .dict ks _=>bd ks.length (some (!ks.isEmpty))
  | .obj id=>onList σ (.obj id) fun _ l=>bd l.length (some (!l.isEmpty))
  | _=>none

noncomputable def IP:V→Option (List Nat) | .str s=>some s | _=>none
noncomputable def Wq:V→Option Int | .int s=>some s | _=>none
noncomputable def HW:V→Option (Option (List Nat)) | .str s=>some (some s) | .none=>some none | _=>none
noncomputable def WW:List V→Option (List (Option (List Nat)))
  | []=>some []
  | v :: r=>bo (HW v) fun y=>bo (WW r) fun l=>some (y :: l)
noncomputable def UY:List V→Option (List (List Nat))
  | []=>some []
  | v :: r=>bo (IP v) fun y=>bo (UY r) fun l=>some (y :: l)
noncomputable def Ub:List V→Option (List Int)
  | []=>some []
  | v :: r=>bo (Wq v) fun y=>bo (Ub r) fun l=>some (y :: l)
noncomputable def WC (x:V) (l:List V):Option Bool:=match x with
  | .str x=>bo (WW l) fun ys=>some (ys.any (·==some x))
  | .none=>bo (UY l) fun _=>some false
  | .int x=>bo (Ub l) fun ys=>some (ys.any (·==x))
  | _=>none

noncomputable def Jc:List Nat→List Nat→Bool
  | [],_=>true
  | _ :: _,[]=>false
  | a :: r,b :: r'=>a==b&&Jc r r'
noncomputable def J6 (y:List Nat):List Nat→Nat→Int
  | [],i=>if Jc y [] then (i:Int) else -1
  | a :: r,i=>if Jc y (a :: r) then (i:Int) else J6 y r (i + 1)

mutual
noncomputable def dep:V→Nat
  | .list l=>deps l + 1
  | .dict _ l=>deps l + 1
  | _=>0
noncomputable def deps:List V→Nat
  | []=>0
  | v :: l=>max (dep v) (deps l)
end
mutual
noncomputable def OR:V→Bool
  | .none=>true
  | .bool _=>true
  | .int _=>true
  | .str _=>true
  | .list l=>datVs l
  | .dict _ l=>datVs l
  | _=>false
noncomputable def datVs:List V→Bool
  | []=>true
  | v :: l=>OR v&&datVs l
end
noncomputable def Xg (v:V):Bool:=OR v&&Nat.ble (dep v) 50
noncomputable def NS (σ:St) (a b:V):Option Bool:=onListOf σ a fun l=>onListOf σ b fun l'=>gd (V.beqs l l'&&l.all Xg) (some true)

noncomputable def WR:V→Option Bool | .none=>some true | .bool _=>some false | .int _=>some false | .str _=>some false | .obj _=>some false | .list _=>some false | .tup _=>some false | _=>none
noncomputable def Ul:V→Option Bool | .bool b=>some b | _=>none
noncomputable def ZFA:V→Option Bool | .none=>some true | .str _=>some false | _=>none
noncomputable def OQ (a b:V):Option Bool:=match a with
  | .none=>ZFA b
  | .int a=>onInt b fun b=>some (a==b)
  | .str a=>(match b with
    | .none=>some false
    | .str b=>some (a==b)
    | _=>none)
  | _=>none
noncomputable def Nw:V→Option (Int×Int)
  | .tup l=>(match l with
    | [a,b]=>bo (Wq a) fun x=>bo (Wq b) fun y=>some (x,y)
    | _=>none)
  | _=>none
noncomputable def eqV (σ:St) (a b:V):Option Bool:=match a with
  | .bool a=>bo (Ul b) fun b=>some (a==b)
  | .tup l=>bo (Nw (.tup l)) fun p=>bo (Nw b) fun q=>some (p.1==q.1&&p.2==q.2)
  | .list l=>NS σ (.list l) b
  | .obj i=>NS σ (.obj i) b
  | a=>OQ a b

noncomputable def OL (a b:V):Option Bool:=match b.isNone with
  | true=>WR a
  | false=>gd a.isNone (WR b)
noncomputable def isV (a b:V):Option Bool:=match a with
  | .bool a=>(match b with
    | .none=>some false
    | .bool b=>some (a==b)
    | _=>none)
  | a=>OL a b
noncomputable def Xp:V→Option Nat
  | .str s=>(match s with | [c]=>some c | _=>none)
  | _=>none
noncomputable def Xo (f:Int→Int→Bool) (a b:V):Option Bool:=bo (Wq a) fun x=>bo (Wq b) fun y=>some (f x y)
noncomputable def Ni (σ:St) (x y:V):Option Bool:=match y with
  | .tup l=>WC x l
  | .str y=>onStr x fun x=>some (J6 x y 0 != -1)
  | .obj id=>onList σ (.obj id) fun _ l=>WC x l
  | _=>none
noncomputable def QB (σ:St) (o:Cmp) (a b:V):Option Bool:=match o with
  | .eq=>eqV σ a b
  | .ne=>bo (OQ a b) fun c=>some (!c)
  | .lt=>(match a with
    | .str x=>onStr b fun y=>some (decide (x < y))
    | a=>Xo (fun x y=>decide (x < y)) a b)
  | .le=>(match a with
    | .int _=>Xo (fun x y=>decide (x≤y)) a b
    | a=>bo (Xp a) fun x=>bo (Xp b) fun y=>some (decide (x≤y)))
  | .gt=>Xo (fun x y=>decide (x > y)) a b
  | .ge=>Xo (fun x y=>decide (x ≥ y)) a b
  | .inn=>Ni σ a b
  | .nin=>(match b with
    | .tup l=>bo (WC a l) fun c=>some (!c)
    | _=>none)
  | .is=>isV a b
  | .isn=>bo (isV a b) fun c=>some (!c)

noncomputable def Wr (σ:St) (o:Cmp) (a b:V):Option Bool:=match o with
  | .inn=>(match b with
    | .dict ks _=>onStr a fun x=>some (ks.any (·==x))
    | b=>QB σ .inn a b)
  | o=>QB σ o a b
noncomputable def Jo (σ:St) (o:Bop) (a b:V):Option V:=match o with
  | .add=>(match a with
    | .int a=>onInt b fun b=>some (.int (a + b))
    | .str a=>onStr b fun b=>bd (a.length + b.length) (some (.str (a++b)))
    | a=>onListOf σ a fun l=>onListOf σ b fun l'=>bd (l.length + l'.length) (some (.list (l++l'))))
  | .sub=>onInt a fun a=>onInt b fun b=>some (.int (a - b))
  | .mod=>onInt a fun a=>onInt b fun b=>gd (decide (0 < b)) (some (.int (a % b)))
  | .fdiv=>onInt a fun a=>onInt b fun b=>gd (decide (0 < b)&&decide (b≤1000)) (some (.int (a / b)))
  | .mul=>none

noncomputable def Qn (n:Nat) (i:Int):Option Nat:=seqIndex? i n
noncomputable def Qj:List (List Nat)→List V→List Nat→Option V
  | [],_,_=>none
  | _ :: _,[],_=>none
  | k :: ks,v :: vs,x=>if k=x then some v else Qj ks vs x
noncomputable def UL (l:List V) (i:V):Option V:=onInt i fun i=>bd l.length (bo (Qn l.length i) fun j=>l[j]?)
noncomputable def QR (σ:St) (a x:V):Option V:=match a with
  | .str s=>onInt x fun i=>bd s.length (bo (Qn s.length i) fun j=>bo s[j]? fun c=>some (.str [c]))
  | .tup l=>UL l x
  | .list l=>UL l x
  | .dict ks vs=>onStr x fun x=>Qj ks vs x
  | .obj id=>bo (JA σ.hp id) fun o=>match o with
    | .list l=>UL l x
    | .dict ks vs=>onStr x fun x=>Qj ks vs x
    | .inst _ _=>none
  | _=>none

noncomputable def clampIx (n:Nat) (i:Int):Nat:=(max 0 (min (if i < 0 then i + n else i) (n:Int))).toNat
noncomputable def UP (n:Nat):V→Option Nat
  | .none=>some 0
  | .int i=>some (clampIx n i)
  | _=>none
noncomputable def Q6 (n:Nat):V→Option Nat
  | .none=>some n
  | .int i=>some (clampIx n i)
  | _=>none
noncomputable def cut {α:Type} (l:List α) (a b:Nat):List α:=(l.take b).drop a
noncomputable def slV (σ:St) (v a b:V):Option V:=match v with
  | .str s=>bd s.length (bo (UP s.length a) fun i=>bo (Q6 s.length b) fun j=>some (.str (cut s i j)))
  | v=>onListOf σ v fun l=>bd l.length (bo (UP l.length a) fun i=>bo (Q6 l.length b) fun j=>some (.list (cut l i j)))

noncomputable def WB (l:List V):Option V:=match l with | [a]=>some a | _=>none
noncomputable def biV (σ:St) (b:BI) (l:List V):Option V:=match b with
  | .len=>bo (WB l) fun v=>(match v with
    | .str s=>bd s.length (some (.int s.length))
    | v=>onListOf σ v fun l=>bd l.length (some (.int l.length)))
  | .ord=>bo (WB l) fun v=>bo (Xp v) fun c=>some (.int c)
  | .chr=>bo (WB l) fun v=>onInt v fun i=>gd (decide (0≤i)&&decide (i < 1114112)) (some (.str [i.toNat]))
  | .range=>(match l with
    | [b]=>onInt b fun b=>some (.rng 0 b)
    | [a,b]=>onInt a fun a=>onInt b fun b=>some (.rng a b)
    | _=>none)
  | .sum=>bo (WB l) fun v=>(match v with
    | .list l=>bo (Ub l) fun ys=>some (.int ys.sum)
    | _=>none)
  | .max=>none

noncomputable def J4 (a b:List Nat):Nat→List Nat→List Nat
  | 0,s=>s
  | _ + 1,[]=>[]
  | n + 1,c :: s=>if Jc a (c :: s) then b++J4 a b n ((c :: s).drop a.length) else c :: J4 a b n s
noncomputable def lowC (c:Nat):Nat:=if 65≤c∧c≤90 then c + 32 else c
noncomputable def J8 (b:List Nat):List (List Nat)→List Nat
  | []=>[]
  | [x]=>x
  | x :: y :: r=>x++b++J8 b (y :: r)
noncomputable def UG (c:Nat) (l:List Nat):Nat:=(l.filter (·==c)).length
noncomputable def QK (c:Nat):List Nat→Nat→Int→Int
  | [],_,r=>r
  | a :: l,i,r=>QK c l (i + 1) (if a=c then i else r)
noncomputable def WU (s:List Nat) (l:List V):Option (Nat×Int):=match l with
  | [a,b,d]=>bo (Xp a) fun c=>onInt b fun lo=>onInt d fun hi=>gd (decide (lo=0)&&(decide (0≤hi)&&decide (hi≤s.length))) (some (c,hi))
  | _=>none
noncomputable def smV (σ:St) (m:SM) (s:List Nat) (l:List V):Option V:=match m with
  | .find=>(match l with
    | [y]=>onStr y fun y=>some (.int (J6 y s 0))
    | [y,i]=>onStr y fun y=>onInt i fun i=>gd (decide (0≤i)&&decide (i≤s.length)) (some (.int (J6 y (s.drop i.toNat) i.toNat)))
    | _=>none)
  | .replace=>(match l with
    | [a,b]=>onStr a fun a=>onStr b fun b=>gd (!a.isEmpty&&(Nat.ble (s.length + (s.length + 1) * b.length) 16777216&&!(a==b))) (some (.str (J4 a b (s.length + 1) s)))
    | _=>none)
  | .lower=>(match l with
    | []=>gd (s.all (Nat.blt · 128)&&Nat.ble s.length 5592405) (some (.str (s.map lowC)))
    | _=>none)
  | .join=>bo (WB l) fun v=>onListOf σ v fun l=>bo (UY l) fun ys=>bd ((ys.map (·.length)).sum + ys.length * s.length) (some (.str (J8 s ys)))
  | .startswith=>bo (WB l) fun y=>onStr y fun y=>some (.bool (Jc y s))
  | .count=>bo (WU s l) fun p=>some (.int (UG p.1 (s.take p.2.toNat)))
  | .rfind=>bo (WU s l) fun p=>some (.int (QK p.1 (s.take p.2.toNat) 0 (-1)))

noncomputable def Qi (a:Int):Bool:=decide (-16777216≤a)&&decide (a≤16777216)
noncomputable def UH:V→Option (List V)
  | .str s=>some (s.map fun c=>.str [c])
  | .tup l=>some l
  | .list l=>some l
  | .rng a b=>gd (Qi a&&Qi b) (some ((List.range (b - a).toNat).map fun (i:Nat)=>.int (a + i)))
  | _=>none

noncomputable abbrev Ora:=Nat→List V→St→Option (V×St)

noncomputable def Dd (o:Option V) (l:List V):List V:=match o with
  | some x=>x :: l
  | none=>l
noncomputable def Jv (f:V→St→Option (Option V×St)):List V→St→Option (List V×St)
  | [],σ=>some ([],σ)
  | v :: r,σ=>bn (f v σ) fun o σ₁=>bn (Jv f r σ₁) fun l σ₂=>some (Dd o l,σ₂)
noncomputable def Dz:V→Bool | .none=>true | _=>false
noncomputable def Ji (ce cc:St→Option (V×St)) (x:Nat) (loc:List (Nat×V)) (y:V) (τ:St):Option (Option V×St):=
  bn (cc { τ with loc:=(x,y) :: loc }) fun w τ₁=>bo (Jh τ₁ w) fun c=>match c with
    | false=>some (none,{ τ₁ with loc:=loc })
    | true=>bn (ce τ₁) fun z τ₂=>some (some z,{ τ₂ with loc:=loc })
noncomputable def DI:List ME→Option Bool
  | []=>some false
  | [.k (.int i)]=>gd (decide (i=0)) (some true)
  | _=>none
noncomputable def ZS (z:Bool) (l:List V):Option (V×List V):=match z with
  | false=>bd l.length (bo l.getLast? fun y=>some (y,l.dropLast))
  | true=>(match l with
    | []=>none
    | y :: l=>gd (Nat.blt l.length JB) (some (y,l)))
mutual
noncomputable def ev (C:Ora):ME→St→Option (V×St)
  | .k v=>fun σ=>some (v,σ)
  | .glob v=>fun σ=>some (v,σ)
  | .loc n=>fun σ=>bo (JA σ.loc n) fun v=>some (v,σ)
  | .attr e n D=>fun σ=>bn (ev C e σ) fun v σ₁=>onInst σ₁ D v fun _ fs=>bo (JA fs n) fun w=>some (w,σ₁)
  | .bm e n D f=>fun σ=>bn (ev C e σ) fun v σ₁=>onInst σ₁ D v fun id fs=>no (JA fs n) (some (.meth f (.obj id),σ₁))
  | .cat e n D i=>fun σ=>bn (ev C e σ) fun v σ₁=>onInst σ₁ D v fun _ fs=>no (JA fs n) (some (.int i,σ₁))
  | .call f as=>fun σ=>bn (evs C as σ) fun vs σ₁=>C f vs σ₁
  | .mcall e n D f as=>fun σ=>bn (ev C e σ) fun v σ₁=>onInst σ₁ D v fun id fs=>no (JA fs n) (bn (evs C as σ₁) fun vs σ₂=>C f (.obj id :: vs) σ₂)
  | .fcall e n D as=>fun σ=>bn (ev C e σ) fun v σ₁=>onInst σ₁ D v fun _ fs=>bo (JA fs n) fun w=>onMeth w fun f self=>bn (evs C as σ₁) fun vs σ₂=>C f (self :: vs) σ₂
  | .new D f as lv=>fun σ=>bn (evs C as σ) fun vs σ₁=>bn (σ₁.alloc lv (.inst D [])) fun v σ₂=>bn (C f (v :: vs) σ₂) fun r σ₃=>gd (Dz r) (some (v,σ₃))
  | .bi b as=>fun σ=>bn (evs C as σ) fun vs σ₁=>bo (biV σ₁ b vs) fun w=>some (w,σ₁)
  | .sm m e as=>fun σ=>bn (ev C e σ) fun v σ₁=>onStr v fun s=>bn (evs C as σ₁) fun vs σ₂=>bo (smV σ₂ m s vs) fun w=>some (w,σ₂)
  | .app e x=>fun σ=>bn (ev C e σ) fun v σ₁=>onList σ₁ v fun id _=>bn (ev C x σ₁) fun y σ₂=>onList σ₂ (.obj id) fun _ l=>bd l.length (some (.none,σ₂.setOb id (.list (l++[y]))))
  | .pop e as=>fun σ=>bn (ev C e σ) fun v σ₁=>onList σ₁ v fun id l=>bo (DI as) fun z=>bo (ZS z l) fun p=>some (p.1,σ₁.setOb id (.list p.2))
  | .cmp o l r=>fun σ=>bn (ev C l σ) fun a σ₁=>bn (ev C r σ₁) fun b σ₂=>bo (Wr σ₂ o a b) fun c=>some (.bool c,σ₂)
  | .cmp2 o₁ o₂ l m r=>fun σ=>bn (ev C l σ) fun a σ₁=>bn (ev C m σ₁) fun b σ₂=>bo (QB σ₂ o₁ a b) fun c=>match c with
    | false=>some (.bool false,σ₂)
    | true=>bn (ev C r σ₂) fun d σ₃=>bo (QB σ₃ o₂ b d) fun c=>some (.bool c,σ₃)
  | .bop o l r=>fun σ=>bn (ev C l σ) fun a σ₁=>bn (ev C r σ₁) fun b σ₂=>bo (Jo σ₂ o a b) fun w=>some (w,σ₂)
  | .neg e=>fun σ=>bn (ev C e σ) fun v σ₁=>onInt v fun i=>some (.int (-i),σ₁)
  | .not e=>fun σ=>bn (ev C e σ) fun v σ₁=>bo (Jh σ₁ v) fun b=>some (.bool (!b),σ₁)
  | .and a b=>fun σ=>bn (ev C a σ) fun v σ₁=>bo (Jh σ₁ v) fun c=>match c with
    | false=>some (v,σ₁)
    | true=>ev C b σ₁
  | .or a b=>fun σ=>bn (ev C a σ) fun v σ₁=>bo (Jh σ₁ v) fun c=>match c with
    | true=>some (v,σ₁)
    | false=>ev C b σ₁
  | .ite t b o=>fun σ=>bn (ev C t σ) fun v σ₁=>bo (Jh σ₁ v) fun c=>match c with
    | true=>ev C b σ₁
    | false=>ev C o σ₁
  | .sub e i=>fun σ=>bn (ev C e σ) fun v σ₁=>bn (ev C i σ₁) fun x σ₂=>bo (QR σ₂ v x) fun w=>some (w,σ₂)
  | .sl e a b=>fun σ=>bn (ev C e σ) fun v σ₁=>bn (ev C a σ₁) fun x σ₂=>bn (ev C b σ₂) fun y σ₃=>bo (slV σ₃ v x y) fun w=>some (w,σ₃)
  | .lst es lv=>fun σ=>bn (evs C es σ) fun vs σ₁=>σ₁.alloc lv (.list vs)
  | .tup es=>fun σ=>bn (evs C es σ) fun vs σ₁=>some (.tup vs,σ₁)
  | .dct ks es lv=>fun σ=>bn (evs C es σ) fun vs σ₁=>gd (decide (ks.length=vs.length)&&decide ks.Nodup) (σ₁.alloc lv (.dict ks vs))
  | .comp elt x it cond=>fun σ=>bn (ev C it σ) fun v σ₁=>bo (UH v) fun l=>bd l.length (bn (Jv (Ji (ev C elt) (ev C cond) x σ₁.loc) l σ₁) fun r σ₂=>some (.list r,σ₂))
  | .isb e=>fun σ=>bn (ev C e σ) fun v σ₁=>bo (Ul v) fun _=>some (.bool true,σ₁)
  | .fat e _ w=>fun σ=>bn (ev C e σ) fun v σ₁=>onFn v fun _=>some (w,σ₁)
  | .fmc e _ f as=>fun σ=>bn (ev C e σ) fun v σ₁=>onFn v fun v=>bn (evs C as σ₁) fun vs σ₂=>C f (v :: vs) σ₂
  | .inf l r f=>fun σ=>bn (ev C l σ) fun a σ₁=>bn (ev C r σ₁) fun b σ₂=>onFn b fun b=>bn (C f [b,a] σ₂) fun v σ₃=>bo (Ul v) fun q=>some (.bool q,σ₃)
noncomputable def evs (C:Ora):List ME→St→Option (List V×St)
  | []=>fun σ=>some ([],σ)
  | e :: r=>fun σ=>bn (ev C e σ) fun v σ₁=>bn (evs C r σ₁) fun vs σ₂=>some (v :: vs,σ₂)
end

noncomputable def tst (C:Ora) (e:ME) (σ:St):Option (Bool×St):=bn (ev C e σ) fun v σ₁=>bo (Jh σ₁ v) fun b=>some (b,σ₁)

noncomputable def Wn:List (List Nat)→List V→List Nat→V→List V
  | [],vs,_,_=>vs
  | _ :: _,[],_,_=>[]
  | k :: ks,v :: vs,x,y=>if k=x then y :: vs else v :: Wn ks vs x y
noncomputable def UZ (σ:St) (o i v:V):Option St:=match o with
  | .obj id=>bo (JA σ.hp id) fun b=>match b with
    | .dict ks vs=>onStr i fun x=>bo (Qj ks vs x) fun _=>gd (Nat.ble ks.length 1000) (some (σ.setOb id (.dict ks (Wn ks vs x v))))
    | .list l=>onInt i fun k=>bd l.length (bo (Qn l.length k) fun j=>gd (Nat.blt j l.length) (some (σ.setOb id (.list (l.set j v)))))
    | .inst _ _=>none
  | _=>none
noncomputable def WP (σ:St) (n C:Nat) (o v:V):Option St:=onInst σ C o fun id fs=>gd (Nat.blt fs.length 400) (some (σ.setOb id (.inst C (put fs n v))))
noncomputable def Xk (σ:St) (o:Bop) (a b:V):Option (V×St):=match a with
  | .int i=>bo (Jo σ o (.int i) b) fun w=>some (w,σ)
  | .str s=>bo (Jo σ o (.str s) b) fun w=>some (w,σ)
  | .obj id=>gd (decide (o=.add)) (onList σ (.obj id) fun id l=>onListOf σ b fun l'=>bd (l.length + l'.length) (some (.obj id,σ.setOb id (.list (l++l')))))
  | _=>none
noncomputable def Uy:V→Option (List V)
  | .tup l=>some l
  | .list l=>some l
  | _=>none
noncomputable def Qy:List Nat→List V→St→Option St
  | [],[],σ=>some σ
  | [],_ :: _,_=>none
  | _ :: _,[],_=>none
  | n :: ns,v :: vs,σ=>Qy ns vs (σ.setLoc n v)

noncomputable def Qc:Nat:=1000000
noncomputable def Hj (f:FL) (go:Option (FL×St)) (σ:St):Option (FL×St):=match f with
  | .next=>go
  | .cont=>go
  | .brk=>some (.next,σ)
  | .ret v=>some (.ret v,σ)
noncomputable def J0 (t:St→Option (Bool×St)) (b:St→Option (FL×St)):Nat→St→Option (FL×St)
  | 0,_=>none
  | n + 1,σ=>bn (t σ) fun c σ₁=>match c with
    | false=>some (.next,σ₁)
    | true=>bn (b σ₁) fun f σ₂=>Hj f (J0 t b n σ₂) σ₂
noncomputable def QA (g:V→St→Option St) (b:St→Option (FL×St)):List V→St→Option (FL×St)
  | [],σ=>some (.next,σ)
  | v :: r,σ=>bo (g v σ) fun σ₁=>bn (b σ₁) fun f σ₂=>Hj f (QA g b r σ₂) σ₂
noncomputable def Ig:V→Bool | .none=>true | .bool _=>true | .str _=>true | _=>false
noncomputable def Xe (f:FL) (go:Option (FL×St)) (σ:St):Option (FL×St):=match f with
  | .next=>go
  | f=>some (f,σ)
noncomputable def NZ:V→Option (V×V)
  | .tup l=>(match l with | [a,b]=>some (a,b) | _=>none)
  | _=>none
mutual
noncomputable def exc (C:Ora):MS→St→Option (FL×St)
  | .ex e=>fun σ=>bn (ev C e σ) fun v σ₁=>gd (Ig v) (some (.next,σ₁))
  | .asg n e=>fun σ=>bn (ev C e σ) fun v σ₁=>some (.next,σ₁.setLoc n v)
  | .asgA t n D e=>fun σ=>bn (ev C e σ) fun v σ₁=>bn (ev C t σ₁) fun o σ₂=>bo (WP σ₂ n D o v) fun σ₃=>some (.next,σ₃)
  | .asgS t i e=>fun σ=>bn (ev C e σ) fun v σ₁=>bn (ev C t σ₁) fun o σ₂=>bn (ev C i σ₂) fun x σ₃=>bo (UZ σ₃ o x v) fun σ₄=>some (.next,σ₄)
  | .asgT ns e=>fun σ=>bn (ev C e σ) fun v σ₁=>bo (Uy v) fun vs=>bo (Qy ns vs σ₁) fun σ₂=>some (.next,σ₂)
  | .asgTA t₁ n₁ D₁ t₂ n₂ D₂ e=>fun σ=>bn (ev C e σ) fun v σ₁=>bo (NZ v) fun p=>bn (ev C t₁ σ₁) fun o₁ σ₂=>bo (WP σ₂ n₁ D₁ o₁ p.1) fun σ₃=>bn (ev C t₂ σ₃) fun o₂ σ₄=>bo (WP σ₄ n₂ D₂ o₂ p.2) fun σ₅=>some (.next,σ₅)
  | .augN n o e=>fun σ=>bo (JA σ.loc n) fun a=>bn (ev C e σ) fun b σ₁=>bn (Xk σ₁ o a b) fun c σ₂=>some (.next,σ₂.setLoc n c)
  | .augA t n D o e=>fun σ=>bn (ev C t σ) fun x σ₁=>onInst σ₁ D x fun id fs=>bo (JA fs n) fun a=>bn (ev C e σ₁) fun b σ₂=>bn (Xk σ₂ o a b) fun c σ₃=>bo (WP σ₃ n D (.obj id) c) fun σ₄=>some (.next,σ₄)
  | .augS t i o e=>fun σ=>bn (ev C t σ) fun x σ₁=>bn (ev C i σ₁) fun j σ₂=>bo (QR σ₂ x j) fun a=>bn (ev C e σ₂) fun b σ₃=>bn (Xk σ₃ o a b) fun c σ₄=>bo (UZ σ₄ x j c) fun σ₅=>some (.next,σ₅)
  | .iff t b o=>fun σ=>bn (tst C t σ) fun c σ₁=>match c with
    | true=>exs C b σ₁
    | false=>exs C o σ₁
  | .whl t b=>fun σ=>J0 (tst C t) (exs C b) Qc σ
  | .for x it b=>fun σ=>bn (ev C it σ) fun v σ₁=>bo (UH v) fun l=>QA (fun v σ=>some (σ.setLoc x v)) (exs C b) l σ₁
  | .forT xs it b=>fun σ=>bn (ev C it σ) fun v σ₁=>bo (UH v) fun l=>QA (fun v σ=>bo (Uy v) fun vs=>Qy xs vs σ) (exs C b) l σ₁
  | .ret e=>fun σ=>bn (ev C e σ) fun v σ₁=>some (.ret v,σ₁)
  | .pass=>fun σ=>some (.next,σ)
  | .brk=>fun σ=>some (.brk,σ)
  | .cont=>fun σ=>some (.cont,σ)
  | .asrt e=>fun σ=>bn (tst C e σ) fun c σ₁=>gd c (some (.next,σ₁))
  | .dead=>fun _=>none
  | .tryS b=>fun σ=>exs C b σ
noncomputable def exs (C:Ora):List MS→St→Option (FL×St)
  | []=>fun σ=>some (.next,σ)
  | s :: r=>fun σ=>bn (exc C s σ) fun f σ₁=>Xe f (exs C r σ₁) σ₁
end

structure MFun where
  ps:List Nat
  ds:List V:=[]
  body:List MS
noncomputable def MFun.args (m:MFun) (vs:List V):Option (List V):=
  let all:=vs++m.ds.drop (m.ds.length - (m.ps.length - vs.length))
  gd (Nat.ble vs.length m.ps.length&&Nat.beq all.length m.ps.length) (some all)
noncomputable def QM:FL→Option V
  | .next=>some .none
  | .ret v=>some v
  | _=>none
noncomputable def Qu (C:Ora) (m:MFun) (vs:List V) (σ:St):Option (V×St):=
  bo (m.args vs) fun as=>bn (exs C m.body { σ with loc:=m.ps.zip as }) fun f σ₁=>bo (QM f) fun v=>some (v,{ σ₁ with loc:=σ.loc })
noncomputable def JI (T:Nat→Option MFun):Nat→Ora
  | 0=>fun _ _ _=>none
  | n + 1=>fun f vs σ=>bo (T f) fun m=>Qu (JI T n) m vs σ
end Mine
end
noncomputable section
open PySem
namespace Mine
theorem Runs.toks_le {M:Model} {Γ:Ctx} {p:Pos} {m:Sem Fin} {fs:List Frame} {s s':Shared} {e:End} (h:Runs M Γ p m fs s e s'):s.toks≤s'.toks:=by
  induction h <;> first
    | exact Nat.le_refl _
    | assumption
    | (rename_i ih; exact Nat.le_trans (Nat.le_succ _) ih)
    | (rename_i ih1 ih2; exact Nat.le_trans ih1 ih2)
theorem Wakes.toks_le {M:Model} {Γ:Ctx} {p:Pos} {g:Nat} {r:Resume} {s s':Shared} {res:GenResult} (h:Wakes M Γ p g r s res s'):s.toks≤s'.toks:=by
  unfold Wakes at h
  split at h
  · cases h
  · split at h
    · obtain ⟨e,s₁,hr,_,_,rfl⟩:=h
      exact (Runs.toks_le hr:_)
    · obtain ⟨_,rfl⟩:=h; exact Nat.le_refl _
    · obtain ⟨_,rfl⟩:=h; exact Nat.le_refl _
  · obtain ⟨e,s₁,hr,_,_,rfl⟩:=h
    exact (Runs.toks_le hr:_)
  · obtain ⟨_,rfl⟩:=h; exact Nat.le_refl _
  · obtain ⟨_,rfl⟩:=h; exact Nat.le_refl _
open Sem in
theorem ZBn {α:Type} {M:Model} {Γ:Ctx} (n:Nat) (t:Sem α) {Q:α→Pos→Shared→Prop} {E:Value→Pos→Shared→Prop} {p:Pos} {s:Shared}
    (hn:n≤s.toks) (h:wp M Γ t Q E p s):wp M Γ t (fun a p' s'=>n≤s'.toks∧Q a p' s') E p s:=by
  induction t generalizing p s with
  | pure a=>simp only [wp] at h ⊢; exact ⟨hn,h⟩
  | raise e=>simp only [wp] at h ⊢; exact h
  | unsupported _=>simp only [wp] at h
  | finish _=>simp only [wp] at h
  | rule _ k ih=>simp only [wp] at h ⊢; exact ih _ hn h
  | «at» _ k ih=>simp only [wp] at h ⊢; exact ih _ hn h
  | load _ _ k ih=>simp only [wp] at h ⊢; exact h.imp fun o z=>⟨z.1,ih _ hn z.2⟩
  | update _ _ f k ih=>simp only [wp] at h ⊢; exact ⟨h.1,ih _ hn h.2⟩
  | loadIfAlive _ k ih=>simp only [wp] at h ⊢; exact ih _ hn h
  | point _ k ih=>simp only [wp] at h ⊢; exact ih _ hn h
  | register _ k ih=>simp only [wp] at h
  | alloc _ k ih=>simp only [wp] at h ⊢; exact ih _ hn h
  | fresh k ih=>simp only [wp] at h ⊢; exact ih _ (Nat.le_succ_of_le hn) h
  | ask k ih=>simp only [wp] at h ⊢; exact ih _ hn h
  | choose _ _ k ih=>simp only [wp] at h ⊢; exact ⟨h.1,ih _ hn h.2⟩
  | os _ _ k ih=>simp only [wp] at h ⊢; exact ih _ hn h
  | call c hh g l k ih =>
    simp only [wp] at h ⊢
    obtain ⟨r,s',hr,z⟩:=h
    exact ⟨r,s',hr,ih _ (Nat.le_trans hn (Runs.toks_le hr)) z⟩
  | handled _ k ih=>simp only [wp] at h ⊢; exact ih _ hn h
  | genState _ k ih=>simp only [wp] at h ⊢; exact h.imp fun o z=>⟨z.1,ih _ hn z.2⟩
  | newGen _ k ih=>simp only [wp] at h ⊢; exact ih _ hn h
  | resume g r l k ih =>
    simp only [wp] at h ⊢
    obtain ⟨res,s',hr,z⟩:=h
    exact ⟨res,s',hr,ih _ (Nat.le_trans hn (Wakes.toks_le hr)) z⟩
  | yield _ _ _ k ih=>simp only [wp] at h
  | stack k ih=>simp only [wp] at h ⊢; exact ih _ hn h
  | fork _ k ih=>simp only [wp] at h
  | thread k ih=>simp only [wp] at h ⊢; exact ih _ hn h
  | await _ _ _ _ k ih=>simp only [wp] at h
theorem QW {α:Type} {M:Model} {A:Around} {t:Sem α} {Q:α→Shared→Prop} {E:Value→Shared→Prop} {s:Shared} (hp:0 < s.toks)
    (h:wpAny M A t (fun a s'=>0 < s'.toks→Q a s') E s):wpAny M A t Q E s:=fun Γ p hΓ =>
  Sem.wp_mono M Γ t (fun _ _ _ z=>z.2 z.1) (fun _ _ _ z=>z) p s (ZBn (M:=M) (Γ:=Γ) 1 t hp (h Γ p hΓ))
end Mine
end
noncomputable section
open PySem PySem.Calls PyProof.Rows PySem.W
namespace Mine

noncomputable def toS (l:List Nat):Str:=⟨l.toArray⟩
theorem UW {a b:List Nat} (h:toS a=toS b):a=b:=by
  injection h with h; simpa using congrArg Array.toList h
theorem Jj (l:List Nat):(toS l).length=l.length:=by simp [toS,Str.length]

noncomputable def ID (K:Frag) (C:Addr):Bool:=
  plainOver K C&&(clsIn K C).any (·.hasDict)&&findIn K (.ref C) "__getattribute__"==some (some (.builtin "object.__getattribute__"))
 &&findIn K (.ref C) "__setattr__"==some (some (.builtin "object.__setattr__"))&&findIn K (.ref C) "__getattr__"==some none

structure Cx where
  prog:Program
  w:World
  K:Frag
  fA:Nat→Addr
  cA:Nat→Addr
  nm:Nat→Str
  nC:Nat
  G:List (Nat×V×Value)
  iA:Addr
  iD:Nat
  I:List (Nat×V)

noncomputable abbrev Cx.M (c:Cx):Model:=model c.prog c.w

mutual
inductive VR (c:Cx) (F:Addr→Obj→Prop) (ρ:Id→Option Addr):V→Value→Prop
  | none:VR c F ρ .none .none
  | bool (b:Bool):VR c F ρ (.bool b) (.bool b)
  | int (i:Int) (t:Tok):VR c F ρ (.int i) (.int i t)
  | str (s:List Nat) (t:Tok):VR c F ρ (.str s) (.str (toS s) t)
  | tup {l:List V} {a:Addr} {o:Obj} {items:Array Value} {n:Nat}:F a o→o.cls=.type "tuple"→o.data=.seq items n→VRs c F ρ l items.toList→VR c F ρ (.tup l) (.ref a)
  | list {l:List V} {a:Addr} {items:Array Value} {n:Nat}:F a { cls:=.type "list",dict:=none,data:=.seq items n,slots:=#[] }→VRs c F ρ l items.toList→VR c F ρ (.list l) (.ref a)
  | dict {ks:List (List Nat)} {vs:List V} {a:Addr} {o:Obj} {kvs:List (Str×Value)}:F a o→o.IsDictOf (strKind c.prog c.w) kvs→kvs.map (·.1)=ks.map toS→VRs c F ρ vs (kvs.map (·.2))→(a==sysModules)=false→VR c F ρ (.dict ks vs) (.ref a)
  | obj {id:Id} {a:Addr}:ρ id=some a→VR c F ρ (.obj id) (.ref a)
  | fn (f:Nat):VR c F ρ (.fn f) (.ref c.iA)
  | rng {lo hi:Int} {a:Addr} {t u v:Tok}:F a { cls:=.type "range",dict:=none,data:=.fields #[.int lo t,.int hi u,.int 1 v],slots:=#[] }→VR c F ρ (.rng lo hi) (.ref a)
  | meth {f:Nat} {self:V} {a:Addr} {x:Value}:F a (methodObj (.ref (c.fA f)) x)→VR c F ρ self x→VR c F ρ (.meth f self) (.ref a)
inductive VRs (c:Cx) (F:Addr→Obj→Prop) (ρ:Id→Option Addr):List V→List Value→Prop
  | nil:VRs c F ρ [] []
  | cons {v:V} {l:List V} {x:Value} {xs:List Value}:VR c F ρ v x→VRs c F ρ l xs→VRs c F ρ (v :: l) (x :: xs)
end

section
variable {c:Cx} {F F':Addr→Obj→Prop} {ρ ρ':Id→Option Addr}
theorem VR.mono (hF:∀ a o,F a o→F' a o) (hρ:∀ i a,ρ i=some a→ρ' i=some a) {v:V} {x:Value} (h:VR c F ρ v x):VR c F' ρ' v x:=
  VR.rec (motive_1:=fun v x _=>VR c F' ρ' v x) (motive_2:=fun l xs _=>VRs c F' ρ' l xs) .none .bool .int .str (fun a b d _ e=>.tup (hF _ _ a) b d e) (fun a _ e=>.list (hF _ _ a) e) (fun a b d _ f e=>.dict (hF _ _ a) b d e f) (fun a=>.obj (hρ _ _ a)) .fn (fun a=>.rng (hF _ _ a))
    (fun a _ b=>.meth (hF _ _ a) b) .nil (fun _ _ a b=>.cons a b) h
theorem VRs.mono (hF:∀ a o,F a o→F' a o) (hρ:∀ i a,ρ i=some a→ρ' i=some a) {l:List V} {xs:List Value} (h:VRs c F ρ l xs):VRs c F' ρ' l xs:=
  VRs.rec (motive_1:=fun v x _=>VR c F' ρ' v x) (motive_2:=fun l xs _=>VRs c F' ρ' l xs) .none .bool .int .str (fun a b d _ e=>.tup (hF _ _ a) b d e) (fun a _ e=>.list (hF _ _ a) e) (fun a b d _ f e=>.dict (hF _ _ a) b d e f) (fun a=>.obj (hρ _ _ a)) .fn (fun a=>.rng (hF _ _ a))
    (fun a _ b=>.meth (hF _ _ a) b) .nil (fun _ _ a b=>.cons a b) h
section
variable {P:Value→Prop} {x:Value}
@[elab_as_elim] theorem VR.noneE (h:VR c F ρ .none x) (k:P .none):P x:=by cases h; exact k
@[elab_as_elim] theorem VR.boolE {b:Bool} (h:VR c F ρ (.bool b) x) (k:P (.bool b)):P x:=by cases h; exact k
@[elab_as_elim] theorem VR.intE {i:Int} (h:VR c F ρ (.int i) x) (k:∀ t,P (.int i t)):P x:=by cases h; exact k _
@[elab_as_elim] theorem VR.strE {s:List Nat} (h:VR c F ρ (.str s) x) (k:∀ t,P (.str (toS s) t)):P x:=by cases h; exact k _
@[elab_as_elim] theorem VR.objE {i:Id} (h:VR c F ρ (.obj i) x) (k:∀ a,ρ i=some a→P (.ref a)):P x:=by cases h with | obj e=>exact k _ e
@[elab_as_elim] theorem VR.tupE {l:List V} (h:VR c F ρ (.tup l) x) (k:∀ a o items n,F a o→o.cls=.type "tuple"→o.data=.seq items n→VRs c F ρ l items.toList→P (.ref a)):P x:=by cases h with | tup a b d e=>exact k _ _ _ _ a b d e
@[elab_as_elim] theorem VR.listE {l:List V} (h:VR c F ρ (.list l) x) (k:∀ a items n,F a { cls:=.type "list",dict:=Option.none,data:=.seq items n,slots:=#[] }→VRs c F ρ l items.toList→P (.ref a)):P x:=by cases h with | list a b=>exact k _ _ _ a b
@[elab_as_elim] theorem VR.dictE {ks:List (List Nat)} {vs:List V} (h:VR c F ρ (.dict ks vs) x) (k:∀ a o kvs,F a o→o.IsDictOf (strKind c.prog c.w) kvs→kvs.map (·.1)=ks.map toS→VRs c F ρ vs (kvs.map (·.2))→(a==sysModules)=false→P (.ref a)):P x:=by
  cases h with | dict a b d e f=>exact k _ _ _ a b d e f
@[elab_as_elim] theorem VR.methE {f:Nat} {v:V} (h:VR c F ρ (.meth f v) x) (k:∀ a y,F a (methodObj (.ref (c.fA f)) y)→VR c F ρ v y→P (.ref a)):P x:=by cases h with | meth a b=>exact k _ _ a b
@[elab_as_elim] theorem VR.fnE {f:Nat} (h:VR c F ρ (.fn f) x) (k:P (.ref c.iA)):P x:=by cases h; exact k
@[elab_as_elim] theorem VR.rngE {lo hi:Int} (h:VR c F ρ (.rng lo hi) x) (k:∀ a t u v,F a { cls:=.type "range",dict:=Option.none,data:=.fields #[.int lo t,.int hi u,.int 1 v],slots:=#[] }→P (.ref a)):P x:=by cases h with | rng a=>exact k _ _ _ _ a
end
section
variable {P:List Value→Prop} {xs:List Value}
@[elab_as_elim] theorem VRs.nilE (h:VRs c F ρ [] xs) (k:P []):P xs:=by cases h; exact k
@[elab_as_elim] theorem VRs.consE {v:V} {l:List V} (h:VRs c F ρ (v :: l) xs) (k:∀ y ys,VR c F ρ v y→VRs c F ρ l ys→P (y :: ys)):P xs:=by cases h with | cons a b=>exact k _ _ a b
@[elab_as_elim] theorem VRs.oneE {v:V} (h:VRs c F ρ [v] xs) (k:∀ y,VR c F ρ v y→P [y]):P xs:=h.consE fun y _ a b=>b.nilE (k y a)
@[elab_as_elim] theorem VRs.twoE {v w:V} (h:VRs c F ρ [v,w] xs) (k:∀ y z,VR c F ρ v y→VR c F ρ w z→P [y,z]):P xs:=h.consE fun y _ a b=>b.oneE fun z b=>k y z a b
end
end

section
variable {c:Cx} {F:Addr→Obj→Prop} {ρ:Id→Option Addr}
theorem VRs.length:∀ {l:List V} {xs:List Value},VRs c F ρ l xs→l.length=xs.length
  | [],_,h=>h.nilE rfl
  | _ :: _,_,h=>h.consE fun _ _ _ b=>congrArg (· + 1) b.length
theorem VRs.get:∀ {l:List V} {xs:List Value},VRs c F ρ l xs→∀ {i:Nat} {v:V},l[i]?=some v→∃ x,xs[i]?=some x∧VR c F ρ v x
  | [],_,_,_,_,e=>nn e
  | _ :: _,_,h,0,_,e=>h.consE fun y _ a _=>⟨y,rfl,Option.some.inj e▸a⟩
  | _ :: _,_,h,_ + 1,_,e=>h.consE (P:=fun xs=>∃ x,xs[_ + 1]?=some x∧VR c F ρ _ x) fun _ _ _ b=>b.get e
theorem VRs.append {l':List V} {xs':List Value}:∀ {l:List V} {xs:List Value},VRs c F ρ l xs→VRs c F ρ l' xs'→VRs c F ρ (l++l') (xs++xs')
  | [],_,h,h'=>h.nilE h'
  | _ :: _,_,h,h'=>h.consE (P:=fun xs=>VRs c F ρ _ (xs++xs')) fun _ _ a b=>.cons a (b.append h')
theorem VRs.take:∀ {l:List V} {xs:List Value},VRs c F ρ l xs→∀ n,VRs c F ρ (l.take n) (xs.take n)
  | [],_,h,n=>h.nilE (P:=fun xs=>VRs c F ρ _ (xs.take n)) (by cases n <;> exact .nil)
  | _ :: _,_,h,0=>.nil
  | _ :: _,_,h,n + 1=>h.consE (P:=fun xs=>VRs c F ρ _ (xs.take (n + 1))) fun _ _ a b=>.cons a (b.take n)
theorem VRs.drop:∀ {l:List V} {xs:List Value},VRs c F ρ l xs→∀ n,VRs c F ρ (l.drop n) (xs.drop n)
  | _,_,h,0=>h
  | [],_,h,n + 1=>h.nilE (P:=fun xs=>VRs c F ρ _ (xs.drop (n + 1))) .nil
  | _ :: _,_,h,n + 1=>h.consE (P:=fun xs=>VRs c F ρ _ (xs.drop (n + 1))) fun _ _ a b=>b.drop n
end

inductive FsR (c:Cx) (F:Addr→Obj→Prop) (ρ:Id→Option Addr):List (Nat×V)→List DictEntry→Prop
  | nil:FsR c F ρ [] []
  | cons {n:Nat} {v:V} {fs:List (Nat×V)} {e:DictEntry} {es:List DictEntry} {t:Tok}:e.key=.str (c.nm n) t→VR c F ρ v e.val→FsR c F ρ fs es→FsR c F ρ ((n,v) :: fs) (e :: es)

noncomputable def Xa:List (Str×Value):=[(Str.ofString "len",.builtin "len"),(Str.ofString "ord",.builtin "ord"),(Str.ofString "chr",.builtin "chr"),(Str.ofString "range",.type "range"),(Str.ofString "sum",.builtin "sum"),(Str.ofString "max",.builtin "max"),(Str.ofString "isinstance",.builtin "isinstance"),(Str.ofString "bool",.type "bool")]
structure Cx.Ok (c:Cx):Prop where
  bi:∀ p∈Xa,nsIn c.K builtinsNs p.1=some (some p.2)
  inj:∀ i j,c.nm i=c.nm j→i=j
  noDbg:∀ i,(c.nm i==("__debug__":Str))=false
  no0:∀ i,c.nm i≠(".0":Str)
  fn:∀ f,fnIn c.K (c.fA f)=true
  cls:∀ C,C < c.nC→ID c.K (c.cA C)=true
  lim:c.K.lookup cStatics=some ⟨.none,none,.dict #[] 0,#[]⟩
  big:∃ o,c.K.lookup 3=some o
  gl:∀ n v x,(n,v,x)∈c.G→nsIn c.K 3 (c.nm n)=some (some x)
  gv:∀ n v x,(n,v,x)∈c.G→∀ (F:Addr→Obj→Prop) (ρ:Id→Option Addr),(∀ a o,c.K.lookup a=some o→F a o)→VR c F ρ v x
  ins:c.I≠[]→c.iD < c.nC∧∃ o es n,c.K.lookup c.iA=some (instObj (c.cA c.iD) o)∧c.K.lookup o=some (dictOf es n)∧∀ (F:Addr→Obj→Prop) (ρ:Id→Option Addr),(∀ a o,c.K.lookup a=some o→F a o)→FsR c F ρ c.I es

theorem nsO {h:Heap} {a:Addr} {m:Str→Option Value} (n:h.Ns a m):∃ p,h.get? a=some p:=by
  obtain ⟨p,_,_,z,_⟩:=n
  exact ⟨p,z⟩
structure Gh where
  W:Addr→Prop
  X:Addr→Prop
  cs:Id→Option (Addr×Addr)
noncomputable def Gh.rho (g:Gh) (i:Id):Option Addr:=(g.cs i).map (·.1)

noncomputable def FA (env:Env) (a:Addr):Prop:=a=env.locals
noncomputable def Fz (env:Env) (g:Gh) (h:Heap) (a:Addr) (o:Obj):Prop:=h.get? a=some o∧¬ g.W a∧¬ g.X a∧¬ FA env a

noncomputable def ObR (c:Cx) (env:Env) (g:Gh) (h:Heap):Ob→Addr→Addr→Prop
  | .list l,r,o=>r=o∧∃ items n,IsL h r items n∧VRs c (Fz env g h) g.rho l items.toList
  | .dict ks vs,r,o=>r=o∧(r==sysModules)=false∧∃ kvs,h.DictOf (strKind c.prog c.w) r kvs∧kvs.map (·.1)=ks.map toS∧VRs c (Fz env g h) g.rho vs (kvs.map (·.2))
  | .inst C fs,r,o=>C < c.nC∧fs.length≤500∧Fz env g h r (instObj (c.cA C) o)∧∃ es n,h.get? o=some (dictOf es n)∧FsR c (Fz env g h) g.rho fs es

noncomputable def Qp (c:Cx) (env:Env) (F:Addr→Obj→Prop) (ρ:Id→Option Addr) (loc:List (Nat×V)) (m:Str→Option Value):Prop:=∀ n v,JA loc n=some v →
      (env.kindOf (c.nm n)=some .local→∃ x,m (c.nm n)=some x∧VR c F ρ v x) ∧
      (env.kindOf (c.nm n)=some .cell→∃ ca o x,env.cells.lookup (c.nm n)=some ca∧F ca o∧o.data=.cell (some x)∧VR c F ρ v x)
structure Rel0 (c:Cx) (env:Env) (g:Gh) (σ:St) (h:Heap):Prop where
  kin:∀ a o,c.K.lookup a=some o→Fz env g h a o
  wob:∀ a,g.W a→∃ o,h.get? a=some o
  xob:∀ a,g.X a→∃ o,h.get? a=some o
  fob:∀ a,FA env a→∃ o,h.get? a=some o
  dis:∀ a,g.W a→¬ g.X a∧¬ FA env a
  loc:∃ m,h.Ns env.locals m∧Qp c env (Fz env g h) g.rho σ.loc m
  obs:∀ id ob,JA σ.hp id=some ob→∃ r o,g.cs id=some (r,o)∧ObR c env g h ob r o
  cW:∀ id r o,g.cs id=some (r,o)→g.W o
  inj:∀ id id' r o r',g.cs id=some (r,o)→g.cs id'=some (r',o)→id=id'
  nx:∀ k,σ.nx≤k→g.cs (.t k)=none
  ps:∀ k,k ∉ σ.ps→g.cs (.p k)=none

structure Rel (c:Cx) (env:Env) (g:Gh) (σ:St) (s:Shared):Prop extends Rel0 c env g σ s.heap where
  pos:0 < s.toks

noncomputable abbrev gos (s:Shared):Array GenState×OsState:=(s.gens,s.os)
structure Ext (env:Env) (g g':Gh) (s s':Shared):Prop where
  fz:∀ a o,s.heap.get? a=some o→¬ g.W a→¬ FA env a→s'.heap.get? a=some o∧¬ g'.W a
  cs:∀ id p,g.cs id=some p→g'.cs id=some p
  X:g'.X=g.X
  gens:gos s'=gos s

theorem Ext.refl {env:Env} {g:Gh} {s:Shared}:Ext env g g s s:=⟨fun _ _ h hw _=>⟨h,hw⟩,fun _ _ h=>h,rfl,rfl⟩
theorem Ext.trans {env:Env} {g g₁ g₂:Gh} {s s₁ s₂:Shared} (x:Ext env g g₁ s s₁) (y:Ext env g₁ g₂ s₁ s₂):Ext env g g₂ s s₂:=
  ⟨fun a o h hw hf=>let ⟨h₁,hw₁⟩:=x.fz a o h hw hf; y.fz a o h₁ hw₁ hf,fun id p h=>y.cs id p (x.cs id p h),y.X.trans x.X,y.gens.trans x.gens⟩
theorem Ext.Fz {env:Env} {g g':Gh} {s s':Shared} (x:Ext env g g' s s') {a:Addr} {o:Obj} (h:Fz env g s.heap a o):Fz env g' s'.heap a o:=
  ⟨(x.fz a o h.1 h.2.1 h.2.2.2).1,(x.fz a o h.1 h.2.1 h.2.2.2).2,x.X▸h.2.2.1,h.2.2.2⟩
theorem Ext.rho {env:Env} {g g':Gh} {s s':Shared} (x:Ext env g g' s s') {i:Id} {a:Addr} (h:g.rho i=some a):g'.rho i=some a:=by
  unfold Gh.rho at *
  cases q:g.cs i with
  | none=>rw [q] at h; cases h
  | some p=>rw [q] at h; rw [x.cs i p q]; exact h
theorem VR.ext {c:Cx} {env:Env} {g g':Gh} {s s':Shared} (x:Ext env g g' s s') {v:V} {y:Value} (h:VR c (Mine.Fz env g s.heap) g.rho v y):VR c (Mine.Fz env g' s'.heap) g'.rho v y:=
  h.mono (fun _ _=>x.Fz) (fun _ _=>x.rho)
theorem VRs.ext {c:Cx} {env:Env} {g g':Gh} {s s':Shared} (x:Ext env g g' s s') {v:List V} {y:List Value} (h:VRs c (Mine.Fz env g s.heap) g.rho v y):VRs c (Mine.Fz env g' s'.heap) g'.rho v y:=
  h.mono (fun _ _=>x.Fz) (fun _ _=>x.rho)
theorem FsR.mono {c:Cx} {F F':Addr→Obj→Prop} {ρ ρ':Id→Option Addr} (hF:∀ a o,F a o→F' a o) (hρ:∀ i a,ρ i=some a→ρ' i=some a) {fs:List (Nat×V)} {es:List DictEntry} (h:FsR c F ρ fs es):FsR c F' ρ' fs es:=
  FsR.rec (motive:=fun fs es _=>FsR c F' ρ' fs es) .nil (fun a b _ ih=>.cons a (b.mono hF hρ) ih) h
theorem Qp.mono {c:Cx} {env:Env} {F F':Addr→Obj→Prop} {ρ ρ':Id→Option Addr} (hF:∀ a o,F a o→F' a o) (hρ:∀ i a,ρ i=some a→ρ' i=some a) {l:List (Nat×V)} {m:Str→Option Value} (h:Qp c env F ρ l m):Qp c env F' ρ' l m:=fun n v e =>
  ⟨fun q=>((h n v e).1 q).imp fun _ z=>⟨z.1,z.2.mono hF hρ⟩,fun q=>((h n v e).2 q).imp fun _=>Exists.imp fun _=>Exists.imp fun _ z=>⟨z.1,hF _ _ z.2.1,z.2.2.1,z.2.2.2.mono hF hρ⟩⟩
theorem ObR.mono {c:Cx} {env env':Env} {g g':Gh} {h h':Heap} {ob:Ob} {r o:Addr} (kF:∀ a o,Fz env g h a o→Fz env' g' h' a o) (kr:∀ i a,g.rho i=some a→g'.rho i=some a) (kc:∀ p,h.get? o=some p→h'.get? o=some p) (H:ObR c env g h ob r o):ObR c env' g' h' ob r o:=by
  cases ob with
  | list l=>exact ⟨H.1,H.2.imp fun _=>Exists.imp fun _ z=>⟨kc _ (H.1▸z.1) |> fun q=>H.1▸q,z.2.mono kF kr⟩⟩
  | dict ks vs=>exact ⟨H.1,H.2.1,H.2.2.imp fun _ z=>⟨z.1.at fun _ e=>H.1▸kc _ (H.1▸e),z.2.1,z.2.2.mono kF kr⟩⟩
  | inst C fs=>exact ⟨H.1,H.2.1,kF _ _ H.2.2.1,H.2.2.2.imp fun _=>Exists.imp fun _ z=>⟨kc _ z.1,z.2.mono kF kr⟩⟩

theorem Rel0.grow {c:Cx} {env:Env} {g:Gh} {σ:St} {h h':Heap} (R:Rel0 c env g σ h) (k:∀ b o,h.get? b=some o→h'.get? b=some o):Rel0 c env g σ h':=
  have kF:∀ a o,Fz env g h a o→Fz env g h' a o:=fun a o z=>⟨k _ _ z.1,z.2⟩
  ⟨fun a o e=>kF _ _ (R.kin a o e),fun a e=>(R.wob a e).imp fun o z=>k _ _ z,fun a e=>(R.xob a e).imp fun o z=>k _ _ z,fun a e=>(R.fob a e).imp fun o z=>k _ _ z,R.dis,R.loc.imp fun _ z=>⟨z.1.keeps k,z.2.mono kF fun _ _ z=>z⟩,
    fun id ob e=>(R.obs id ob e).imp fun _=>Exists.imp fun _ z=>⟨z.1,z.2.mono kF (fun _ _ z=>z) fun _=>k _ _⟩,R.cW,R.inj,R.nx,R.ps⟩
theorem Ext.grow {env:Env} {g:Gh} {s s':Shared} (k:∀ b o,s.heap.get? b=some o→s'.heap.get? b=some o) (hg:gos s'=gos s):Ext env g g s s':=
  ⟨fun a o h hw _=>⟨k _ _ h,hw⟩,fun _ _ h=>h,rfl,hg⟩
theorem Rel0.sub {c:Cx} {env:Env} {g:Gh} {σ σ':St} {h:Heap} (R:Rel0 c env g σ h) (hl:∀ n v,JA σ'.loc n=some v→JA σ.loc n=some v) (ho:∀ i o,JA σ'.hp i=some o→JA σ.hp i=some o)
    (hn:σ.nx≤σ'.nx) (hp:∀ k,k∈σ.ps→k∈σ'.ps):Rel0 c env g σ' h:=
  ⟨R.kin,R.wob,R.xob,R.fob,R.dis,R.loc.imp fun m z=>⟨z.1,fun n v e=>z.2 n v (hl n v e)⟩,fun i o e=>R.obs i o (ho i o e),R.cW,R.inj,fun k e=>R.nx k (Nat.le_trans hn e),fun k e=>R.ps k fun q=>e (hp k q)⟩
theorem Rel.sub {c:Cx} {env:Env} {g:Gh} {σ σ':St} {s:Shared} (R:Rel c env g σ s) (hl:∀ n v,JA σ'.loc n=some v→JA σ.loc n=some v) (ho:∀ i o,JA σ'.hp i=some o→JA σ.hp i=some o)
    (hn:σ.nx≤σ'.nx) (hp:∀ k,k∈σ.ps→k∈σ'.ps):Rel c env g σ' s:=⟨R.toRel0.sub hl ho hn hp,R.pos⟩
theorem Rel.grow {c:Cx} {env:Env} {g:Gh} {σ:St} {s s':Shared} (R:Rel c env g σ s) (k:∀ b o,s.heap.get? b=some o→s'.heap.get? b=some o) (hp:0 < s'.toks):Rel c env g σ s':=⟨R.toRel0.grow k,hp⟩
end Mine
end
noncomputable section
open PySem PySem.Builtin PySem.Builtin.Str PySem.StrLaws
namespace Mine

theorem Bx:∀ (y s:List Nat),Jc y s=(s.take y.length==y)
  | [],s=>by cases s <;> rfl
  | _ :: _,[]=>rfl
  | a :: y,b :: s=>by
    show (a==b&&Jc y s)=(b==a&&(s.take y.length==y))
    rw [Bx y s,BEq.comm]
theorem Ox:∀ (y:List Nat) (m:Nat) (t:List Nat),Jc y (t.take m)=(decide (y.length≤m)&&Jc y t)
  | [],m,t=>by
    rw [List.length_nil,decide_eq_true (Nat.zero_le m)]; cases t.take m <;> cases t <;> rfl
  | _ :: _,0,_=>rfl
  | _ :: _,_ + 1,[]=>(Bool.and_false _).symm
  | a :: y,m + 1,b :: t=>by
    show (a==b&&Jc y (t.take m))=(decide (y.length + 1≤m + 1)&&(a==b&&Jc y t))
    rw [Ox y m t,Bool.and_left_comm]
    congr 1
    exact decide_eq_decide.mpr Nat.succ_le_succ_iff.symm

noncomputable def J9 (y:List Nat):Nat→List Nat→Nat→Nat→List Nat
  | lim,[],i,k=>if 0 < lim∧k=0∧Jc y []=true then [i] else []
  | lim,c :: s,i,k=>if 0 < lim∧k=0∧Jc y (c :: s)=true then i :: J9 y (lim - 1) s (i + 1) (y.length - 1) else J9 y lim s (i + 1) (k - 1)

theorem Gg {a b:List Nat} {n c:Nat} {s:List Nat}:J4 a b (n + 1) (c :: s)=if Jc a (c :: s) then b++J4 a b n ((c :: s).drop a.length) else c :: J4 a b n s:=rfl
theorem ZD {y:List Nat} {lim i k:Nat}:J9 y lim [] i k=if 0 < lim∧k=0∧Jc y []=true then [i] else []:=rfl
theorem XO {y:List Nat} {lim i k c:Nat} {s:List Nat}:J9 y lim (c :: s) i k=if 0 < lim∧k=0∧Jc y (c :: s)=true then i :: J9 y (lim - 1) s (i + 1) (y.length - 1) else J9 y lim s (i + 1) (k - 1):=rfl
theorem ZHv {y:List Nat} {i:Nat}:J6 y [] i=if Jc y [] then (i:Int) else -1:=rfl
theorem ZHw {y:List Nat} {i a:Nat} {r:List Nat}:J6 y (a :: r) i=if Jc y (a :: r) then (i:Int) else J6 y r (i + 1):=rfl
theorem Yz {s y:List Nat} {hi i:Nat} (hi':i≤hi):(i + (toS y).length≤hi∧subAt (toS s) (toS y) i=true) ↔ Jc y ((s.take hi).drop i)=true:=by
  rw [List.drop_take,Ox,Bx,Bool.and_eq_true,decide_eq_true_eq,subAt_eq,Jj,Nat.le_sub_iff_add_le' hi']
  exact Iff.rfl
theorem D9 {α:Type} {L l:List α} {c:α} {i:Nat} (h:c :: l=L.drop i):l=L.drop (i + 1):=by rw [← List.drop_drop,← h]; rfl

theorem ZCG {s y:List Nat} {hi lim:Nat}:∀ (l:List Nat) (i:Nat) (st:Array Nat×Nat),l=(s.take hi).drop i→i + l.length=hi →
    (forIn (List.range' i (l.length + 1)) st (occBody (toS s) (toS y) hi lim)).run.fst.toList=st.fst.toList++J9 y (lim - st.fst.size) l i (st.snd - i):=by
  have key:∀ (l:List Nat) (i:Nat) (st:Array Nat×Nat),l=(s.take hi).drop i→i + l.length=hi →
      ((((st.fst.size < lim∧st.snd≤i)∧i + (toS y).length≤hi)∧subAt (toS s) (toS y) i=true) ↔ (0 < lim - st.fst.size∧st.snd - i=0∧Jc y l=true)):=fun l i st hl hh=>by
    rw [hl,← Yz (hh▸Nat.le_add_right _ _),Nat.sub_pos_iff_lt,Nat.sub_eq_zero_iff_le,and_assoc,and_assoc]
  intro l
  induction l with
  | nil =>
    intro i st hl hh
    show (forIn [i] st (occBody (toS s) (toS y) hi lim)).run.fst.toList=_
    rw [List.forIn_cons]
    rw [ZD]
    unfold occBody
    by_cases hc:0 < lim - st.fst.size∧st.snd - i=0∧Jc y []=true
    · rw [if_pos ((key _ _ _ hl hh).mpr hc),if_pos hc]; exact Array.toList_push
    · rw [if_neg fun q=>hc ((key _ _ _ hl hh).mp q),if_neg hc]; exact (List.append_nil _).symm
  | cons c l ih =>
    intro i st hl hh
    show (forIn (i :: List.range' (i + 1) (l.length + 1)) st (occBody (toS s) (toS y) hi lim)).run.fst.toList=_
    rw [List.forIn_cons]
    rw [XO]
    unfold occBody
    have hl':=D9 hl
    have hh':i + 1 + l.length=hi:=(Nat.add_right_comm i 1 _).trans hh
    by_cases hc:0 < lim - st.fst.size∧st.snd - i=0∧Jc y (c :: l)=true
    · rw [if_pos ((key _ _ _ hl hh).mpr hc),if_pos hc]
      refine (ih (i + 1) (st.fst.push i,i + (toS y).length) hl' hh').trans ?_
      rw [Array.toList_push,Array.size_push,Jj,Nat.add_sub_add_left,List.append_assoc,← Nat.sub_sub]; rfl
    · rw [if_neg fun q=>hc ((key _ _ _ hl hh).mp q),if_neg hc]
      exact ih (i + 1) st hl' hh'
theorem Z4 {s y:List Nat} {lo hi lim:Nat} (hh:hi≤s.length) (hl:lo≤hi):occurrences (toS s) (toS y) lo hi lim=J9 y lim ((s.take hi).drop lo) lo 0:=by
  have e:((s.take hi).drop lo).length=hi - lo:=by rw [List.length_drop,List.length_take,Nat.min_eq_left hh]
  have:=ZCG (y:=y) (lim:=lim) ((s.take hi).drop lo) lo (#[],lo) rfl (by rw [e]; exact Nat.add_sub_cancel' hl)
  rw [e,← Nat.sub_add_comm hl,Nat.sub_self] at this
  rw [occ_eq,this]; rfl

theorem X8 (y:List Nat):∀ (s:List Nat) (i:Nat),(match J9 y 1 s i 0 with | k :: _=>(k:Int) | []=>-1)=J6 y s i
  | [],i=>by
    rw [ZD,ZHv]
    by_cases h:Jc y []=true
    · rw [if_pos ⟨Nat.one_pos,rfl,h⟩,if_pos h]
    · rw [if_neg fun q=>h q.2.2,if_neg h]
  | c :: s,i=>by
    rw [XO,ZHw]
    by_cases h:Jc y (c :: s)=true
    · rw [if_pos ⟨Nat.one_pos,rfl,h⟩,if_pos h]
    · rw [if_neg fun q=>h q.2.2,if_neg h]; exact X8 y s (i + 1)
theorem KP (s y:List Nat) (lim:Nat):occurrences (toS s) (toS y) 0 (toS s).length lim=J9 y lim s 0 0:=by
  rw [Jj,Z4 (Nat.le_refl _) (Nat.zero_le _),List.take_length]; rfl
theorem ZCg (s y:List Nat):Txt.find (toS s) (toS y)=J6 y s 0:=by
  unfold Txt.find
  rw [KP]; exact X8 y s 0
theorem T2 (s y:List Nat):Txt.contains (toS s) (toS y)=(J6 y s 0 != -1):=by
  unfold Txt.contains
  rw [KP,← X8 y s 0]
  cases J9 y 1 s 0 0 with
  | nil=>rfl
  | cons k l=>exact (bne_iff_ne.mpr fun h=>nomatch h:((k:Int) != -1)=true).symm
theorem ZBN {s y:List Nat} {i:Int} (h0:0≤i) (h1:i≤s.length):Txt.find3 (toS s) (toS y) i=J6 y (s.drop i.toNat) i.toNat:=by
  unfold Txt.find3
  have h1:i.toNat≤s.length:=Int.toNat_le.mpr h1
  have e:fromIndex (toS s).length i=i.toNat:=by unfold fromIndex; rw [if_neg (Int.not_lt.mpr h0),Int.max_eq_right h0]
  rw [e,Jj,Z4 (Nat.le_refl _) h1,List.take_length]
  exact X8 y _ _

theorem Zx (c a:Nat) (l:List Nat):Jc [c] (a :: l)=(c==a):=Bool.and_true _
theorem Zp {c:Nat}:∀ (l:List Nat) (lim i:Nat),l.length < lim→(J9 [c] lim l i 0).length=UG c l
  | [],lim,i,h=>by rw [ZD,if_neg fun q=>nomatch q.2.2]; rfl
  | a :: l,lim + 1,i,h=>by
    rw [XO]
    unfold UG
    rw [List.filter_cons]
    by_cases e:c=a
    · subst e
      rw [if_pos ⟨Nat.succ_pos _,rfl,by rw [Zx]; exact beq_self_eq_true c⟩,if_pos (beq_self_eq_true c)]
      exact congrArg (· + 1) (Zp l lim (i + 1) (Nat.lt_of_succ_lt_succ h))
    · rw [if_neg fun q=>e (bE ((Zx c a l).symm.trans q.2.2)),if_neg fun q=>e (bE q).symm]
      exact Zp l (lim + 1) (i + 1) (Nat.lt_of_succ_lt h)

theorem Zv {s:List Nat} {c hi:Nat}:∀ (l:List Nat) (i:Nat) (st:Option Nat),l=(s.take hi).drop i→i + l.length=hi →
    (match (forIn (List.range' i (l.length + 1)) st (lastBody (toS s) (toS [c]) hi)).run with | some k=>(k:Int) | none=>-1)=QK c l i (match st with | some k=>(k:Int) | none=>-1)
  | [],i,st,hl,hh=>by
    show (match (forIn [i] st (lastBody (toS s) (toS [c]) hi)).run with | some k=>(k:Int) | none=>-1)=_
    rw [List.forIn_cons]
    unfold lastBody
    rw [if_neg fun q=>nomatch (show Jc [c] []=true from hl▸(Yz (s:=s) (y:=[c]) (hh▸Nat.le_add_right _ _:i≤hi)).mp q)]
    rfl
  | a :: l,i,st,hl,hh=>by
    have e:=Yz (s:=s) (y:=[c]) (hh▸Nat.le_add_right _ _:i≤hi)
    rw [← hl,Zx] at e
    have hl':=D9 hl
    have hh':i + 1 + l.length=hi:=(Nat.add_right_comm i 1 _).trans hh
    show (match (forIn (i :: List.range' (i + 1) (l.length + 1)) st (lastBody (toS s) (toS [c]) hi)).run with | some k=>(k:Int) | none=>-1)=_
    rw [List.forIn_cons]
    unfold lastBody
    rw [show QK c (a :: l) i (match st with | some k=>(k:Int) | none=>-1)=QK c l (i + 1) (if a=c then (i:Int) else match st with | some k=>(k:Int) | none=>-1) from rfl]
    by_cases hc:a=c
    · rw [if_pos (e.mpr (beq_iff_eq.mpr hc.symm)),if_pos hc]; exact Zv l (i + 1) (some i) hl' hh'
    · rw [if_neg fun q=>hc (bE (e.mp q)).symm,if_neg hc]; exact Zv l (i + 1) st hl' hh'
theorem ZAh {s:List Nat} {c hi:Nat} (hh:hi≤s.length):(match lastOccurrence (toS s) (toS [c]) 0 hi with | some k=>(k:Int) | none=>-1)=QK c (s.take hi) 0 (-1):=by
  have e:(s.take hi).length=hi:=by rw [List.length_take,Nat.min_eq_left hh]
  have:=Zv (c:=c) (s.take hi) 0 none rfl (by rw [e]; exact Nat.zero_add _)
  rw [e] at this
  rw [last_eq]; exact this

theorem TU (s y:List Nat):Txt.startswith (toS s) (toS y)=Jc y s:=by
  have e:=Yz (s:=s) (y:=y) (Nat.zero_le s.length)
  rw [List.take_length,List.drop_zero] at e
  unfold Txt.startswith
  rw [Bool.eq_iff_iff,Bool.and_eq_true,decide_eq_true_eq,← e,Jj s]

theorem Bi (s:List Nat) (i j:Nat):strSub (toS s) i j=toS ((s.drop i).take (j - i)):=congrArg Str.mk (Array.toList_inj.mp (strSub_toList (toS s) i j))
noncomputable def Uc (s:List Nat) (w:Nat):Nat→List Nat→List (List Nat)
  | p,[]=>[s.drop p]
  | p,c :: r=>(s.drop p).take (c - p) :: Uc s w (c + w) r
theorem Ou (s:List Nat) (w:Nat):∀ (cuts:List Nat) (p:Nat),partsFrom (toS s) w p cuts=(Uc s w p cuts).map toS
  | [],p=>by
    show [strSub (toS s) p (toS s).length]=[toS (s.drop p)]
    rw [Bi,Jj,List.take_of_length_le (Nat.le_of_eq List.length_drop)]
  | c :: r,p=>by
    show strSub (toS s) p c :: partsFrom (toS s) w (c + w) r=_
    rw [Bi,Ou s w r]; rfl
theorem YC (a b:List Nat):toS a++toS b=toS (a++b):=congrArg Str.mk (List.append_toArray a b)
theorem Zw (b:List Nat):∀ (l:List (List Nat)),Str.join (toS b) (l.map toS)=toS (J8 b l)
  | []=>rfl
  | [x]=>rfl
  | x :: y :: r=>by
    show toS x++toS b++Str.join (toS b) ((y :: r).map toS)=_
    rw [Zw b (y :: r),YC,YC]; rfl
theorem ZAJ {s b x:List Nat} {w p:Nat}:∀ {r:List Nat},J8 b (x :: Uc s w p r)=x++b++J8 b (Uc s w p r)
  | []=>rfl
  | _ :: _=>rfl
theorem YF {s b a:List Nat} {x:Nat}:∀ (l:List Nat) (lim i k p fuel:Nat) (u:List Nat),s.drop p=u++l.drop k→p + u.length=i + k→(k=0∨u=[])→l.length < lim→(l.drop k).length < fuel →
    J8 b (Uc s (a.length + 1) p (J9 (x :: a) lim l i k))=u++J4 (x :: a) b fuel (l.drop k)
  | [],lim,i,k,p,fuel,u=>fun hs hp hk hlim hf=>by
    rw [ZD,if_neg fun q=>nomatch q.2.2]
    rw [List.drop_nil] at hs ⊢
    have:J4 (x :: a) b fuel []=[]:=by cases fuel <;> rfl
    rw [this]; exact hs
  | c :: l,lim,i,k,p,fuel,u=>fun hs hp hk hlim hf=>by
    cases k with
    | succ m =>
      rw [XO,if_neg fun q=>nomatch q.2.1]
      exact YF l lim (i + 1) m p fuel u hs (hp.trans (Nat.add_right_comm i m 1)) (.inr (hk.resolve_left fun q=>nomatch q)) (Nat.lt_of_succ_lt hlim) hf
    | zero =>
    cases lim with
    | zero=>exact absurd hlim (Nat.not_lt_zero _)
    | succ lim =>
    cases fuel with
    | zero=>exact absurd hf (Nat.not_lt_zero _)
    | succ n =>
    rw [XO]
    have hf':=Nat.lt_of_succ_lt_succ hf
    have hlim':=Nat.lt_of_succ_lt_succ hlim
    by_cases h:Jc (x :: a) (c :: l)=true
    · rw [if_pos ⟨Nat.succ_pos _,rfl,h⟩]
      have e1:(s.drop p).take (i - p)=u:=by
        rw [hs,show i - p=u.length from Nat.sub_eq_of_eq_add (hp.symm.trans (Nat.add_comm _ _))]; exact List.take_left
      have e2:s.drop (i + (a.length + 1))=l.drop a.length:=by
        rw [show i=p + u.length from hp.symm,Nat.add_assoc,← List.drop_drop,hs,← List.drop_drop,List.drop_left]; rfl
      show J8 b ((s.drop p).take (i - p) :: Uc s (a.length + 1) (i + (a.length + 1)) _)=u++J4 (x :: a) b (n + 1) (c :: l)
      rw [ZAJ,e1]
      show u++b++J8 b (Uc s (a.length + 1) (i + (a.length + 1)) (J9 (x :: a) lim l (i + 1) a.length))=_
      rw [YF l lim (i + 1) a.length (i + (a.length + 1)) n [] e2 (Nat.add_assoc i 1 a.length▸by rw [Nat.add_comm a.length 1]; rfl) (.inr rfl) hlim' (Nat.lt_of_le_of_lt (List.length_drop▸Nat.sub_le ..) hf'),Gg,if_pos h,List.append_assoc]; rfl
    · rw [if_neg fun q=>h q.2.2]
      show J8 b (Uc s (a.length + 1) p (J9 (x :: a) (lim + 1) l (i + 1) 0))=u++J4 (x :: a) b (n + 1) (c :: l)
      rw [YF l (lim + 1) (i + 1) 0 p n (u++[c]) (hs.trans (List.append_cons u c l)) (by rw [List.length_append,← Nat.add_assoc,hp]; rfl) (.inl rfl) (Nat.lt_of_succ_lt hlim) hf',Gg,if_neg h,List.append_assoc]; rfl
theorem ZAF {s a b:List Nat} (ha:a.isEmpty=false):Txt.replace (toS s) (toS a) (toS b)=toS (J4 a b (s.length + 1) s):=by
  cases a with
  | nil=>exact nomatch ha
  | cons x a =>
    have hr:=YF (b:=b) (a:=a) (x:=x) s (s.length + 1) 0 0 0 (s.length + 1) [] rfl rfl (.inl rfl) (Nat.lt_succ_self _) (Nat.lt_succ_self _)
    unfold Txt.replace
    rw [KP,Jj]
    show (if ((J9 (x :: a) (s.length + 1) s 0 0).isEmpty||((toS (x :: a)).length==0&&_))=true then _ else _)=_
    rw [Jj,show ((x :: a).length==0)=false from rfl,Bool.false_and,Bool.or_false]
    cases hc:J9 (x :: a) (s.length + 1) s 0 0 with
    | nil=>rw [hc] at hr; exact congrArg toS hr
    | cons d r =>
      rw [hc] at hr
      rw [if_neg (by exact fun q=>nomatch q),partsBetween_eq,glued_eq_join,Ou,Zw]
      exact congrArg toS hr
end Mine
end
noncomputable section
open PySem PySem.Calls PyProof.Rows PySem.W
namespace Mine

structure EnvOk (env:Env):Prop where
  kind:env.scope.kind=.function
  glob:env.globals=mainGlobals
  blt:env.builtins=builtinsNs

noncomputable def JK (A:Around) (r:Nat):Prop:=A.handled=none∧A.depth + r < recursionLimit∧A.units + 20 * r + 300 < cLine
theorem JK.le {A:Around} {r r':Nat} (h:JK A r) (k:r'≤r):JK A r':=⟨h.1,Nat.lt_of_le_of_lt (Nat.add_le_add_left k _) h.2.1,Nat.lt_of_le_of_lt (Nat.add_le_add_right (Nat.add_le_add_left (Nat.mul_le_mul_left _ k) _) _) h.2.2⟩
theorem JK.add {A:Around} {r k:Nat} (h:JK A r) (hk:k≤300):A.units + k < cLine:=Nat.lt_of_le_of_lt (Nat.add_le_add (Nat.le_add_right _ _) hk) h.2.2
theorem JK.units {A:Around} {r:Nat} (h:JK A r):A.units < cLine:=h.add (Nat.zero_le _)

noncomputable abbrev Vx (c:Cx) (env:Env) (g:Gh) (s:Shared) (v:V) (x:Value):Prop:=VR c (Fz env g s.heap) g.rho v x
noncomputable abbrev Vxs (c:Cx) (env:Env) (g:Gh) (s:Shared) (v:List V) (x:List Value):Prop:=VRs c (Fz env g s.heap) g.rho v x

noncomputable def Nxt (c:Cx) (env:Env) (g:Gh) (s:Shared) (v:V) (σ':St) (Q:Value→Shared→Prop):Prop:=
  ∀ x s' g',Rel c env g' σ' s'→Vx c env g' s' v x→Ext env g g' s s'→Q x s'

noncomputable def JD (c:Cx) (r:Nat) (env:Env) (e:Expr) (f:St→Option (V×St)):Prop:=
  ∀ ⦃A:Around⦄ ⦃σ:St⦄ ⦃v:V⦄ ⦃σ':St⦄ ⦃g:Gh⦄ ⦃s:Shared⦄ ⦃E:Value→Shared→Prop⦄ ⦃Q:Value→Shared→Prop⦄,
    JK A r→f σ=some (v,σ')→Rel c env g σ s→Nxt c env g s v σ' Q→wpAny c.M A (eval e env) Q E s

section
variable {c:Cx} {r:Nat} {env:Env} {A:Around} {σ σ' σ₁:St} {g:Gh} {s:Shared} {E:Value→Shared→Prop} {Q:Value→Shared→Prop} {v:Mine.V}

theorem Ext.toks {t:Tok}:Ext env g g s { s with toks:=t }:=⟨fun _ _ h hw _=>⟨h,hw⟩,fun _ _ h=>h,rfl,rfl⟩
theorem Rel.toks {t:Tok} (R:Rel c env g σ s) (ht:0 < t:=by exact Nat.succ_pos _):Rel c env g σ { s with toks:=t }:=⟨R.toRel0,ht⟩
theorem Nxt.toks (N:Nxt c env g s v σ Q) (R:Rel c env g σ s) {x:Value} {t:Tok} (h:Vx c env g s v x) (ht:0 < t:=by exact Nat.succ_pos _):Q x { s with toks:=t }:=
  N x { s with toks:=t } g (R.toks ht) h .toks
theorem Nxt.same (N:Nxt c env g s v σ Q) (R:Rel c env g σ s) {x:Value} (h:Vx c env g s v x):Q x s:=N x s g R h .refl
theorem Nxt.grow (N:Nxt c env g s v σ Q) (R:Rel c env g σ s) {x:Value} {s':Shared} (k:∀ b o,s.heap.get? b=some o→s'.heap.get? b=some o) (hg:gos s'=gos s) (h:Vx c env g s' v x) (ht:0 < s'.toks:=by exact Nat.succ_pos _):Q x s':=
  N x s' g (R.grow k ht) h (.grow k hg)
theorem Nxt.trans {s₁:Shared} {g₁:Gh} (N:Nxt c env g s v σ' Q) (x:Ext env g g₁ s s₁):Nxt c env g₁ s₁ v σ' Q:=
  fun y s' g' R h e=>N y s' g' R h (x.trans e)
theorem Nxt.of {w:Mine.V} (e:some (w,σ₁)=some (v,σ')) (N:Nxt c env g s v σ' Q):Nxt c env g s w σ₁ Q:=by cases e; exact N

theorem ZC3 {k pos}:JD c r env (.Constant .none k pos) (fun σ=>some (.none,σ)):=fun _ _ _ _ _ _ _ _ _ hf R N=>wpAny_pure ((N.of hf).same R .none)
theorem ZDA {b k pos}:JD c r env (.Constant (.bool b) k pos) (fun σ=>some (.bool b,σ)):=fun _ _ _ _ _ _ _ _ _ hf R N=>wpAny_pure ((N.of hf).same R (.bool _))
theorem ZEz {i k pos}:JD c r env (.Constant (.int i) k pos) (fun σ=>some (.int i,σ)):=fun _ _ _ _ _ _ _ _ _ hf R N=>wpAny_Constant_int ((N.of hf).toks R (.int _ _))
theorem ZEr {x k pos}:JD c r env (.Constant (.str (toS x)) k pos) (fun σ=>some (.str x,σ)):=fun _ _ _ _ _ _ _ _ _ hf R N=>Constant_str ((N.of hf).toks R (.str _ _))

theorem ZEw (O:c.Ok) (VV:EnvOk env) {n:Nat} {pos} (hk:env.kindOf (c.nm n)=some .local):JD c r env (.Name (c.nm n) pos) (fun σ=>bo (JA σ.loc n) fun v=>some (v,σ)):=fun _ _ _ _ _ _ _ _ _ hf R N=>boE hf fun w hv e=>by
  obtain ⟨m,hm,hl⟩:=R.loc
  obtain ⟨x,hx,h⟩:=(hl n _ hv).1 hk
  exact wpAny_Name (wpAny_loadName_local VV.kind hk hm hx ((N.of e).same R h)) (O.noDbg n)

theorem Rel.kinD (R:Rel c env g σ s):c.K.In s.heap:=fun a o e=>(R.kin a o e).1

theorem ZC5 (O:c.Ok) (VV:EnvOk env) {n:Nat} {x:Value} {pos} (hm:(n,v,x)∈c.G) (hk:env.kindOf (c.nm n)=some .globalImplicit):JD c r env (.Name (c.nm n) pos) (fun σ=>some (v,σ)):=fun _ _ _ _ _ _ _ _ _ hf R N =>
  Name_function_global VV.kind hk (wpAny_bind ((looks_nsIn R.kinD (VV.glob▸O.gl n v x hm:nsIn c.K env.globals (c.nm n)=some (some x))).here (wpAny_pure ((N.of hf).same R (O.gv n v x hm _ _ R.kin))))) (O.noDbg n)

theorem Bw {e:DictEntry} {n':Nat} {t:Tok} (hk:e.key=.str (c.nm n') t) (n:Nat):e.key.isStr (c.nm n)=(c.nm n'==c.nm n):=by rw [hk]; rfl
theorem FsR.find {F:Addr→Obj→Prop} {ρ:Id→Option Addr} (O:c.Ok) {n:Nat} {fs:List (Nat×V)} {es:List DictEntry} (h:FsR c F ρ fs es) :
    (∀ v,JA fs n=some v→∃ e,es.find? (·.key.isStr (c.nm n))=some e∧VR c F ρ v e.val)∧(JA fs n=none→es.find? (·.key.isStr (c.nm n))=none∧es.any (·.refKey)=false):=
  FsR.rec (motive:=fun fs es _=>(∀ v,JA fs n=some v→∃ e,es.find? (·.key.isStr (c.nm n))=some e∧VR c F ρ v e.val)∧(JA fs n=none→es.find? (·.key.isStr (c.nm n))=none∧es.any (·.refKey)=false))
    ⟨fun _ e=>nn e,fun _=>⟨rfl,rfl⟩⟩ (fun {n' v' fs e es t} hk hv _ ih=>by
      have hs:=Bw hk n
      have hr:e.refKey=false:=by unfold DictEntry.refKey; rw [hk]
      rw [Q1]
      by_cases hn:n'=n
      · have hs:e.key.isStr (c.nm n)=true:=by rw [hs,hn]; exact beq_self_eq_true _
        rw [if_pos hn,List.find?_cons,hs]
        exact ⟨fun v q=>⟨e,rfl,Option.some.inj q▸hv⟩,fun q=>(nn q.symm)⟩
      · have hs:e.key.isStr (c.nm n)=false:=by rw [hs]; exact beq_false_of_ne fun q=>hn (O.inj _ _ q)
        rw [if_neg hn,List.find?_cons,hs,List.any_cons,hr]
        exact ih) h
theorem FsR.lookIn_some {F:Addr→Obj→Prop} {ρ:Id→Option Addr} (O:c.Ok) {n k:Nat} {fs:List (Nat×V)} {es:List DictEntry} (h:FsR c F ρ fs es) {v:Mine.V} (hv:JA fs n=some v):∃ x,PySem.W.lookIn (c.nm n) (dictOf es k)=some (some x)∧VR c F ρ v x:=by
  obtain ⟨e,h1,h2⟩:=(h.find O).1 v hv
  refine ⟨e.val,?_,h2⟩
  show (match es.find? (·.key.isStr (c.nm n)) with | some e=>some (some e.val) | none=>_)=_
  rw [h1]
theorem FsR.lookIn_none {F:Addr→Obj→Prop} {ρ:Id→Option Addr} (O:c.Ok) {n k:Nat} {fs:List (Nat×V)} {es:List DictEntry} (h:FsR c F ρ fs es) (hv:JA fs n=none):PySem.W.lookIn (c.nm n) (dictOf es k)=some none:=by
  obtain ⟨h1,h2⟩:=(h.find O).2 hv
  show (match es.find? (·.key.isStr (c.nm n)) with | some e=>some (some e.val) | none=>if es.any (·.refKey) then none else some none)=_
  rw [h1,h2]; rfl

structure Cls (c:Cx) (C:Nat):Prop where
  over:plainOver c.K (c.cA C)=true
  dict:(clsIn c.K (c.cA C)).any (·.hasDict)=true
  ga:findIn c.K (.ref (c.cA C)) "__getattribute__"=some (some (.builtin "object.__getattribute__"))
  sa:findIn c.K (.ref (c.cA C)) "__setattr__"=some (some (.builtin "object.__setattr__"))
  gt:findIn c.K (.ref (c.cA C)) "__getattr__"=some none
theorem Cx.Ok.clsOf (O:c.Ok) {C:Nat} (h:C < c.nC):Cls c C:=bA (O.cls C h) fun h h5=>bA h fun h h4=>bA h fun h h3=>bA h fun h1 h2=>⟨h1,h2,bE h3,bE h4,bE h5⟩

theorem U2 (R:Rel c env g σ s) {id:Id} {ob:Ob} {a:Addr} (ho:JA σ.hp id=some ob) (hr:g.rho id=some a):∃ o,g.cs id=some (a,o)∧ObR c env g s.heap ob a o:=by
  obtain ⟨r,o,hc,H⟩:=R.obs id _ ho
  unfold Gh.rho at hr
  rw [hc] at hr
  cases hr
  exact ⟨o,hc,H⟩
inductive InR (c:Cx) (env:Env) (g:Gh) (h:Heap) (C:Nat) (fs:List (Nat×V)) (a:Addr):Prop
  | mk (o:Addr) (es:List DictEntry) (n:Nat) (cls:Cls c C) (get:h.get? o=some (dictOf es n)) (fs:FsR c (Fz env g h) g.rho fs es) (at_:InstAt h a (instObj (c.cA C) o) (c.cA C) (some (dictOf es n)))
theorem WS (O:c.Ok) (R:Rel c env g σ s) {id:Id} {C:Nat} {fs:List (Nat×V)} {a:Addr} (ho:JA σ.hp id=some (.inst C fs)) (hr:g.rho id=some a):InR c env g s.heap C fs a:=by
  obtain ⟨o,_,hC,_,hz,es,n,he,hf⟩:=U2 R ho hr
  exact .mk o es n (O.clsOf hC) he hf ⟨hz.1,rfl,rfl,he⟩

noncomputable def J3 (c:Cx) (C n:Nat):Bool:=findIn c.K (.ref (c.cA C)) (c.nm n)==some none
theorem Cls.usual {D n:Nat} (h:J3 c D n=true):findIn c.K (.ref (c.cA D)) (c.nm n)=some none:=bE h
theorem ZAm {F:Addr→Obj→Prop} {ρ:Id→Option Addr} {x:Value} (h:VR c F ρ v x):handedIn x=true:=
  VR.rec (motive_1:=fun _ x _=>handedIn x=true) (motive_2:=fun _ _ _=>True) rfl (fun _=>rfl) (fun _ _=>rfl) (fun _ _=>rfl) (fun _ _ _ _ _=>rfl) (fun _ _ _=>rfl) (fun _ _ _ _ _ _=>rfl) (fun _=>rfl) (fun _=>rfl) (fun _=>rfl) (fun _ _ _=>rfl) trivial (fun _ _ _ _=>trivial) h

theorem K7 (O:c.Ok) (R:Rel c env g σ s) (hI:c.I≠[]):InR c env g s.heap c.iD c.I c.iA:=by
  obtain ⟨hC,o,es,n,h1,h2,h3⟩:=O.ins hI
  exact .mk o es n (O.clsOf hC) (R.kinD _ _ h2) (h3 _ _ R.kin) ⟨R.kinD _ _ h1,rfl,rfl,R.kinD _ _ h2⟩

theorem Og (O:c.Ok) {C n:Nat} {fs:List (Nat×V)} {a:Addr} {b:Bool} (hn:J3 c C n=true) (R:Rel c env g σ s) (Y:InR c env g s.heap C fs a)
    (hv:JA fs n=some v) (N:Nxt c env g s v σ Q):wpAny c.M A (getAttr (.ref a) (c.nm n) b) Q E s:=by
  cases Y with
  | mk o es k D he hf I =>
    obtain ⟨x,hx,hvx⟩:=hf.lookIn_some O (k:=k) hv
    refine get_value R.kinD I D.ga ?_ (ZAm hvx) (N.toks R hvx)
    obtain ⟨cd,hcd,hdd⟩:=any_some D.dict
    delta findObj PySem.W.ownOf
    dsimp only
    rw [hcd,Cls.usual hn]
    show ((if cd.hasDict=true then lookIn (c.nm n) (dictOf es k) else some none).bind _)=_
    rw [if_pos hdd,hx]; rfl
theorem Zk (O:c.Ok) {id:Id} {C n:Nat} {fs:List (Nat×V)} {a:Addr} {b:Bool} (hn:J3 c C n=true) (R:Rel c env g σ s) (ho:JA σ.hp id=some (.inst C fs)) (hr:g.rho id=some a)
    (hv:JA fs n=some v) (N:Nxt c env g s v σ Q):wpAny c.M A (getAttr (.ref a) (c.nm n) b) Q E s:=
  Og O hn R (WS O R ho hr) hv N

theorem KB (R:Rel c env g σ s):¬ g.W s.heap.objs.size∧¬ g.X s.heap.objs.size∧¬ FA env s.heap.objs.size:=
  ⟨fun h=>let ⟨_,e⟩:=R.wob _ h; Nat.lt_irrefl _ (Heap.lt_size e),fun h=>let ⟨_,e⟩:=R.xob _ h; Nat.lt_irrefl _ (Heap.lt_size e),fun h=>let ⟨_,e⟩:=R.fob _ h; Nat.lt_irrefl _ (Heap.lt_size e)⟩
theorem WY (R:Rel c env g σ s) {o:Obj} (hf:o.isFreed=false):Fz env g (s.heap.push o) s.heap.objs.size o:=
  ⟨Heap.get?_push_size _ hf,KB R⟩

noncomputable def Ue (c:Cx) (C n f:Nat):Bool:=(findIn c.K (.ref (c.cA C)) (c.nm n)==some (some (.ref (c.fA f))))&&(isFn c.K (.ref (c.fA f))&&(fnIn c.K (c.fA f)&&!copiedNames.contains (c.nm n)))
theorem Xi {b:Bool} (h:(!b)=true):b=false:=by cases b <;> first | rfl | exact ff h
theorem Zm {K:Frag} {a:Addr} (h:typeIn K (.ref a)=some (.type "function")) {x:Str} {r:Option Value} (hx:fastLookup "function" x=some r):specialIn K (.ref a) x=some r:=by
  unfold specialIn; rw [h]; exact hx
theorem ZCe:fastLookup "function" "__get__"=some (some (.builtin "function.__get__")):=by kernel_rfl
theorem ZCd:fastLookup "function" "__set__"=some none:=by kernel_rfl
theorem ZCf:fastLookup "function" "__delete__"=some none:=by kernel_rfl

theorem Tk (O:c.Ok) {id:Id} {C n f:Nat} {fs:List (Nat×Mine.V)} {a:Addr} {b:Bool} (hn:Ue c C n f=true) (R:Rel c env g σ s) (ho:JA σ.hp id=some (.inst C fs)) (hr:g.rho id=some a)
    (hv:JA fs n=none) (N:Nxt c env g s (.meth f (.obj id)) σ Q):wpAny c.M A (getAttr (.ref a) (c.nm n) b) Q E s:=by
  cases WS O R ho hr with
  | mk o es k D he hf I =>
    refine bA hn fun h1 h=>bA h fun h2 h=>bA h fun h3 h4=>?_
    have h2:typeIn c.K (.ref (c.fA f))=some (.type "function"):=bE h2
    have P:=WY R (o:=methodObj (.ref (c.fA f)) (.ref a)) rfl
    refine get_bind (g:=.builtin "function.__get__") (a:=.ref (c.fA f)) R.kinD I D.ga ?_ D.gt (wpAny_call (fn_get (s:={ s with toks:=s.toks + 1 }) (K:=c.K) R.kinD h2
      (wpAny_of_eq (handedOut_of rfl) (N.grow R (s':={ s with toks:=s.toks + 1,heap:=s.heap.push (methodObj (.ref (c.fA f)) (.ref a)) }) (fun b o e=>Heap.get?_push_of_some _ e) rfl (.meth P (.obj hr))))))
    obtain ⟨cd,hcd,hdd⟩:=any_some D.dict
    have ht:takesIn c.K (.ref (c.fA f))=some false:=by
      unfold takesIn
      rw [Zm h2 ZCd,Zm h2 ZCf]; rfl
    delta findObj PySem.W.ownOf
    dsimp only
    rw [hcd,bE h1]
    show ((specialIn c.K (.ref (c.fA f)) "__get__").bind _)=_
    rw [Zm h2 ZCe]
    show ((takesIn c.K (.ref (c.fA f))).bind _)=_
    rw [ht]
    show ((if cd.hasDict=true then lookIn (c.nm n) (dictOf es k) else some none).bind _)=_
    rw [if_pos hdd,hf.lookIn_none O hv]
    show (if (copiedNames.contains (c.nm n)&&_)=true then none else _)=_
    rw [Xi h4,Bool.false_and]; rfl

noncomputable def Hv (i:Int):Option (Option Value)→Bool
  | some v=>(match v with | some v=>(match v with | .int j _=>i==j | _=>false) | none=>false)
  | none=>false
theorem ZCW {i:Int} {o:Option (Option Value)} (h:Hv i o=true):∃ t,o=some (some (.int i t)):=by
  cases o with
  | none=>exact ff h
  | some v=>cases v with
    | none=>exact ff h
    | some v=>cases v <;> first | exact ff h | (cases bE h; exact ⟨_,rfl⟩)
noncomputable def Nh (c:Cx) (C n:Nat) (i:Int):Bool:=Hv i (findIn c.K (.ref (c.cA C)) (c.nm n))&&!copiedNames.contains (c.nm n)
theorem ZBE:fastLookup "int" "__get__"=some none:=by kernel_rfl
theorem Tx (O:c.Ok) {id:Id} {C n:Nat} {i:Int} {fs:List (Nat×Mine.V)} {a:Addr} {b:Bool} (hn:Nh c C n i=true) (R:Rel c env g σ s) (ho:JA σ.hp id=some (.inst C fs)) (hr:g.rho id=some a)
    (hv:JA fs n=none) (N:Nxt c env g s (.int i) σ Q):wpAny c.M A (getAttr (.ref a) (c.nm n) b) Q E s:=by
  cases WS O R ho hr with
  | mk o es k D he hf I =>
    refine bA hn fun h1 h4=>?_
    obtain ⟨t,hj⟩:=ZCW h1
    refine get_value R.kinD I D.ga (v:=.int i t) ?_ rfl (N.toks R (.int i t))
    obtain ⟨cd,hcd,hdd⟩:=any_some D.dict
    have g1:specialIn c.K (.int i t) "__get__"=some none:=ZBE
    delta findObj PySem.W.ownOf
    dsimp only
    rw [hcd,hj]
    simp only [Option.bind_some,g1]
    show ((if cd.hasDict=true then lookIn (c.nm n) (dictOf es k) else some none).bind _)=_
    rw [if_pos hdd,hf.lookIn_none O hv]
    show (if (copiedNames.contains (c.nm n)&&_)=true then none else _)=_
    rw [Xi h4,Bool.false_and]; rfl

noncomputable def ZHs (e:Expr):Bool:=ctq fun h=>Expr.Name.elim (motive_1:=fun _=>Bool) e h fun _ _=>true
noncomputable def Js (e:Expr):Bool:=ctt fun h=>Expr.Call.elim (motive_1:=fun _=>Bool) e h fun f as ks _=>!(ZHs f&&(as.isEmpty&&ks.isEmpty))
theorem O7 {o:Expr} (h:Js o=true) (attr:Str) (env:Env) (m:Sem Value):attributeBase o attr env m=m:=by
  cases o with
  | Call f as ks p =>
    cases f with
    | Name y q =>
      cases as with
      | nil=>cases ks with
        | nil=>exact ff h
        | cons _ _=>rfl
      | cons _ _=>rfl
    | _=>rfl
  | _=>rfl
theorem Xz {value:Expr} {attr:Str} {pos:Pos} (hc:Js value=true)
    (h:wpAny c.M A (eval value env) (fun o s₁=>wpAny c.M A (getAttr o attr true) Q E s₁) E s):wpAny c.M A (eval (.Attribute value attr pos) env) Q E s:=by
  rw [arm_eval_Attribute,O7 hc]
  exact wpAny_bind (wpAny_mono h (fun o s₁ h₁=>wpAny_bind (wpAny_standAt (wpAny_bind (wpAny_holding (wpAny_mono h₁ (fun r s₂ h₂=>wpAny_bind (wpAny_letTemporaryGo (wpAny_pure h₂))) fun _ _ y=>y))))) fun _ _ y=>y)

variable {e:Expr} {es:List Expr} {C:Ora} {me:ME} {mes:List ME} {n D f:Nat}
theorem ZDB (O:c.Ok) {pos} (hc:Js e=true) (hn:J3 c D n=true) (H:JD c r env e (ev C me)):JD c r env (.Attribute e (c.nm n) pos) (ev C (.attr me n D)):=fun _ _ _ _ _ _ _ _ hr hf R N=>bnE hf fun v σ₁ h1 h2 =>
  Xz hc (H hr h1 R fun x s₁ g₁ R₁ X₁ E₁=>Uv (P:=fun v=>Vx c env g₁ s₁ v x→_) h2 (fun id fs ho h2 X₁=>boE h2 fun w hw e=>X₁.objE fun a ha=>Zk O hn R₁ ho ha hw ((N.of e).trans E₁)) X₁)
theorem ZGm (O:c.Ok) {pos} (hc:Js e=true) (hn:Ue c D n f=true) (H:JD c r env e (ev C me)):JD c r env (.Attribute e (c.nm n) pos) (ev C (.bm me n D f)):=fun _ _ _ _ _ _ _ _ hr hf R N=>bnE hf fun v σ₁ h1 h2 =>
  Xz hc (H hr h1 R fun x s₁ g₁ R₁ X₁ E₁=>Uv (P:=fun v=>Vx c env g₁ s₁ v x→_) h2 (fun id fs ho h2 X₁=>noE h2 fun hw e=>X₁.objE fun a ha=>Tk O hn R₁ ho ha hw ((N.of e).trans E₁)) X₁)
theorem ZE5 (O:c.Ok) {i:Int} {pos} (hc:Js e=true) (hn:Nh c D n i=true) (H:JD c r env e (ev C me)):JD c r env (.Attribute e (c.nm n) pos) (ev C (.cat me n D i)):=fun _ _ _ _ _ _ _ _ hr hf R N=>bnE hf fun v σ₁ h1 h2 =>
  Xz hc (H hr h1 R fun x s₁ g₁ R₁ X₁ E₁=>Uv (P:=fun v=>Vx c env g₁ s₁ v x→_) h2 (fun id fs ho h2 X₁=>noE h2 fun hw e=>X₁.objE fun a ha=>Tx O hn R₁ ho ha hw ((N.of e).trans E₁)) X₁)

noncomputable def Zf (c:Cx) (env:Env) (g:Gh) (s:Shared) (v:List Mine.V) (σ':St) (Q:List Value→Shared→Prop):Prop:=
  ∀ x s' g',Rel c env g' σ' s'→Vxs c env g' s' v x→Ext env g g' s s'→Q x s'
theorem Zf.of {v w:List Mine.V} {Q:List Value→Shared→Prop} (e:some (w,σ₁)=some (v,σ')) (N:Zf c env g s v σ' Q):Zf c env g s w σ₁ Q:=by cases e; exact N
noncomputable def Jx (c:Cx) (r:Nat) (env:Env) (es:List Expr) (f:St→Option (List Mine.V×St)):Prop:=
  ∀ ⦃A:Around⦄ ⦃σ:St⦄ ⦃v:List Mine.V⦄ ⦃σ':St⦄ ⦃g:Gh⦄ ⦃s:Shared⦄ ⦃E:Value→Shared→Prop⦄ ⦃Q:List Value→Shared→Prop⦄,
    JK A r→f σ=some (v,σ')→Rel c env g σ s→Zf c env g s v σ' Q→wpAny c.M A (spliced (es.map fun e=>(false,eval e env))) Q E s
noncomputable def Wm (Q E:Value→Shared→Prop) (r:Result) (s':Shared):Prop:=match r with
  | .ok (.ret x)=>Q x s'
  | .ok _=>False
  | .error e=>E e s'
noncomputable def JJ (c:Cx) (r:Nat) (C:Ora):Prop:=
  ∀ ⦃A:Around⦄ ⦃σ:St⦄ ⦃f:Nat⦄ ⦃vs:List Mine.V⦄ ⦃v:Mine.V⦄ ⦃σ':St⦄ ⦃env:Env⦄ ⦃g:Gh⦄ ⦃s:Shared⦄ ⦃xs:List Value⦄ ⦃E:Value→Shared→Prop⦄ ⦃Q:Value→Shared→Prop⦄,
    JK A r→EnvOk env→C f vs σ=some (v,σ')→Rel c env g σ s→Vxs c env g s vs xs→Nxt c env g s v σ' Q→codeAny c.M A (.call (.ref (c.fA f)) ⟨xs,[]⟩) (Wm Q E) s
theorem Kl {x:Value} {vs:List Value} (h:codeAny c.M A (.call x ⟨vs,[]⟩) (Wm Q E) s):wpAny c.M A (call x vs []) Q E s:=wpAny_call h

theorem ZCz:Jx c r env [] (evs C []):=fun _ _ _ _ _ s _ _ _ hf R N=>spliced_nil (N.of hf _ _ _ R .nil .refl)
theorem ZBR (H:JD c r env e (ev C me)) (H2:Jx c r env es (evs C mes)):Jx c r env (e :: es) (evs C (me :: mes)):=fun _ _ _ _ _ _ _ _ hr hf R N=>bnE hf fun v σ₁ h1 h2=>bnE h2 fun vs σ₂ h3 h4 =>
  spliced_cons (H hr h1 R fun x s₁ g₁ R₁ X₁ E₁=>H2 hr h3 R₁ fun xs s₂ g₂ R₂ X₂ E₂=>N.of h4 _ _ _ R₂ (.cons (X₁.ext E₂) X₂) (E₁.trans E₂))

noncomputable def Jb (e:Expr):Bool:=ctt fun h=>Expr.Starred.elim (motive_1:=fun _=>Bool) e h fun _ _=>false
theorem ZAB {e:Expr} (h:Jb e=true) {es:List Expr}:starEach (e :: es) env=(false,eval e env) :: starEach es env:=by
  cases e <;> first | rfl | exact ff h
theorem OX:∀ {es:List Expr},es.all Jb=true→starEach es env=es.map fun e=>(false,eval e env)
  | [],_=>rfl
  | e :: es,h=>bA h fun h1 h2=>(ZAB h1).trans (congrArg _ (OX h2))
theorem UA {pos:Pos} {es:List Expr} {env:Env} (hs:es.all Jb=true):backTo pos (starEach es env)=es.map fun e=>(false,eval e env):=by
  rw [OX hs]
  exact List.map_map.trans rfl
theorem UB {f:Value} {es:List Expr} {Q:Args→Shared→Prop} (h:wpAny c.M A (spliced (es.map fun e=>(false,eval e env))) (fun vs s'=>Q ⟨vs,[]⟩ s') E s) :
    wpAny c.M A (evalArgs f true (es.map fun e=>(false,eval e env)) []) Q E s:=by
  cases es with
  | nil=>exact wpAny_bind (wpAny_mono h (fun vs s' h'=>wpAny_holding (wpAny_bind (wpAny_pure (wpAny_bind (wpAny_pure (wpAny_pure h')))))) fun _ _ x=>x)
  | cons e es=>exact evalArgs_plain h

theorem Zy {l:List Expr} {env:Env}:((l.map fun e=>(false,eval e env)).any (·.1)||([]:List (Option Str×Sem Value)).any (·.1.isNone))=false:=by
  rw [List.any_nil,Bool.or_false,List.any_map,List.any_eq_false]
  exact fun x _ h=>ff h

theorem Oj {pos:Pos} {f:Addr} {first:List Value} {es:List Expr} (hk:fnIn c.K f=true)
    (h:wpAny c.M A (spliced (es.map fun e=>(false,eval e env))) (fun vs s₁=>c.K.In s₁.heap∧wpAny c.M A (call (.ref f) (first++vs) []) Q E s₁) E s) :
    wpAny c.M A (callWith pos (.ref f) first (es.map fun e=>(false,eval e env)) []) Q E s:=by
  refine callWith_of (P:=c.K.In) Zy (fun h X=>?_) (UB h)
  unfold fnIn at hk
  split at hk
  · rename_i e
    exact ⟨.frame,.inl rfl,(Looks.ld (part:=none) (X _ _ e)).andThen .now⟩
  · exact ff hk

theorem UT {o:Expr} {name:Str} {apos pos:Pos} {args:List Expr} (hc:Js o=true) (hs:args.all Jb=true) (hl:(apos.endLine==pos.line)=true) (hn:args.length < 25)
    (h:wpAny c.M A (eval o env) (fun ov s₁=>∀ pl,wpAny c.M A (getMethod ov name pl) (fun fx s₂=>wpAny c.M A (callWith pos fx.1 fx.2 (args.map fun e=>(false,eval e env)) []) Q E s₂) E s₁) E s) :
    wpAny c.M A (eval (.Call (.Attribute o name apos) args [] pos) env) Q E s:=by
  rw [arm_eval_Call,O7 hc,UA hs]
  refine wpAny_bind (wpAny_mono h (fun ov s₁ h₁=>wpAny_bind (wpAny_standAt ?_)) fun _ _ e=>e)
  have hform:methodCallForm (args.length + ([]:List Keyword).length) (args.map fun e=>(false,eval e env)) (backToKw pos (keywordEach [] env))=true:=by
    show (((args.map fun e=>(false,eval e env)).all (!·.1)&&true)&&decide (args.length + 0 < 30))=true
    rw [List.all_map,decide_eq_true (Nat.lt_of_lt_of_le hn (by decide:25≤30):args.length + 0 < 30),Bool.and_true,Bool.and_true]
    exact List.all_eq_true.mpr fun _ _=>rfl
  have hpos:methodCallPos true o env apos pos=pure pos:=by unfold methodCallPos; rw [hl]; rfl
  unfold methodCall
  rw [hform]
  refine wpAny_bind (wpAny_holding (wpAny_mono (h₁ _) (fun fx s₂ h₂=>?_) fun _ _ e=>e))
  rw [hpos]
  exact wpAny_bind (wpAny_pure h₂)

theorem BG (O:c.Ok) (VV:EnvOk env) {pos:Pos} {fs:List (Nat×Mine.V)} {a:Addr} {pl:Sem Bool} {vs:List Mine.V} {w:Mine.V} (hn:Ue c D n f=true) (HC:JJ c r C) (H2:Jx c r env es (evs C mes)) (hr:JK A r)
    (h3:evs C mes σ=some (vs,σ₁)) (h4:C f (w :: vs) σ₁=some (v,σ')) (hw:JA fs n=none) (R:Rel c env g σ s) (Y:InR c env g s.heap D fs a) (X:Vx c env g s w (.ref a)) (N:Nxt c env g s v σ' Q) :
    wpAny c.M A (getMethod (.ref a) (c.nm n) pl) (fun fx s₂=>wpAny c.M A (callWith pos fx.1 fx.2 (es.map fun e=>(false,eval e env)) []) Q E s₂) E s:=by
  cases Y with
  | mk o es k D he hfs I =>
    exact bA hn fun q1 h=>bA h fun q2 h=>bA h fun q3 _=>method_fn R.kinD I D.ga D.gt (bE q1) (bE q2) (by show (PySem.W.lookIn _ _).map _=_; rw [hfs.lookIn_none O hw]; rfl)
      (Oj q3 (H2 hr h3 R fun xs s₂ g₂ R₂ X₂ E₂=>⟨R₂.kinD,Kl (HC hr VV h4 R₂ (.cons (X.ext E₂) X₂) (N.trans E₂))⟩))
theorem ZBT (O:c.Ok) (VV:EnvOk env) {apos pos} (hc:Js e=true) (hs:es.all Jb=true) (hl:(apos.endLine==pos.line)=true) (hlen:es.length < 25)
    (hn:Ue c D n f=true) (HC:JJ c r C) (H:JD c r env e (ev C me)) (H2:Jx c r env es (evs C mes)) :
    JD c r env (.Call (.Attribute e (c.nm n) apos) es [] pos) (ev C (.mcall me n D f mes)):=fun _ _ _ _ _ _ _ _ hr hf R N=>bnE hf fun v σ₁ h1 h2 =>
  UT hc hs hl hlen (H hr h1 R fun x s₁ g₁ R₁ X₁ E₁ pl=>Uv (P:=fun v=>Vx c env g₁ s₁ v x→_) h2 (fun id fs ho h2 X₁=>noE h2 fun hw h2=>bnE h2 fun vs σ₂ h3 h4=>X₁.objE fun a ha =>
    BG O VV hn HC H2 hr h3 h4 hw R₁ (WS O R₁ ho ha) (.obj ha) (N.trans E₁)) X₁)

theorem ZEH {α β:Type} [DecidableEq α] {l:List (α×β)} {n:α} {v:β} (h:JA l n=some v):l≠[]:=fun q=>by subst q; exact nn h
theorem ZE2 (O:c.Ok) {pos} {w:Mine.V} (hc:Js e=true) (hn:J3 c c.iD n=true) (hv:JA c.I n=some w) (H:JD c r env e (ev C me)):JD c r env (.Attribute e (c.nm n) pos) (ev C (.fat me n w)):=fun _ _ _ _ _ _ _ _ hr hf R N=>bnE hf fun v σ₁ h1 h2 =>
  Xz hc (H hr h1 R fun x s₁ g₁ R₁ X₁ E₁=>Nb (P:=fun v=>Vx c env g₁ s₁ v x→_) h2 (fun _ e X₁=>X₁.fnE (Og O hn R₁ (K7 O R₁ (ZEH hv)) hv ((N.of e).trans E₁))) X₁)
theorem ZE1 (O:c.Ok) (VV:EnvOk env) {apos pos} (hc:Js e=true) (hs:es.all Jb=true) (hl:(apos.endLine==pos.line)=true) (hlen:es.length < 25)
    (hn:Ue c c.iD n f=true) (hI:c.I≠[]) (hv:JA c.I n=none) (HC:JJ c r C) (H:JD c r env e (ev C me)) (H2:Jx c r env es (evs C mes)) :
    JD c r env (.Call (.Attribute e (c.nm n) apos) es [] pos) (ev C (.fmc me n f mes)):=fun _ _ _ _ _ _ _ _ hr hf R N=>bnE hf fun v σ₁ h1 h2 =>
  UT hc hs hl hlen (H hr h1 R fun x s₁ g₁ R₁ X₁ E₁ pl=>Nb (P:=fun v=>Vx c env g₁ s₁ v x→_) h2 (fun q h2 X₁=>bnE h2 fun vs σ₂ h3 h4=>X₁.fnE
    (BG O VV hn HC H2 hr h3 h4 hv R₁ (K7 O R₁ hI) (.fn q) (N.trans E₁))) X₁)

theorem Te {pos:Pos} {q f:Addr} {self:Value} {es:List Expr} (hf:fnIn c.K f=true)
    (h:wpAny c.M A (spliced (es.map fun e=>(false,eval e env))) (fun vs s₁=>(s₁.heap.get? q=some (methodObj (.ref f) self)∧c.K.In s₁.heap)∧codeAny c.M A (.call (.ref f) ⟨self :: vs,[]⟩) (Wm Q E) s₁) E s) :
    wpAny c.M A (callWith pos (.ref q) [] (es.map fun e=>(false,eval e env)) []) Q E s:=
  callWith_of (P:=MethP c.K q f self) Zy (keeps_M hf) (UB (wpAny_mono h (fun vs s₁ z=>⟨⟨z.1.1,z.1.2⟩,wpAny_call (method_call z.1.1 z.2)⟩) fun _ _ x=>x))

theorem ZBU (O:c.Ok) (VV:EnvOk env) {apos pos} (hc:Js e=true) (hs:es.all Jb=true) (hl:(apos.endLine==pos.line)=true) (hlen:es.length < 25)
    (hn:J3 c D n=true) (hfn:∀ f,fnIn c.K (c.fA f)=true) (HC:JJ c r C) (H:JD c r env e (ev C me)) (H2:Jx c r env es (evs C mes)) :
    JD c r env (.Call (.Attribute e (c.nm n) apos) es [] pos) (ev C (.fcall me n D mes)):=fun _ _ _ _ _ _ _ _ hr hf R N=>bnE hf fun v σ₁ h1 h2 =>
  UT hc hs hl hlen (H hr h1 R fun x s₁ g₁ R₁ X₁ E₁ pl=>Uv (P:=fun v=>Vx c env g₁ s₁ v x→_) h2 (fun id fs ho h2 X₁=>boE h2 fun w hw h2=>X₁.objE fun a ha=>by
    cases WS O R₁ ho ha with
    | mk o es k D he hfs I =>
      exact method_usual R₁.kinD I D.ga D.gt (Cls.usual hn) rfl (Zk O hn R₁ ho ha hw fun y s₂ g₂ R₂ X₂ E₂=>ZCF (P:=fun w=>Vx c env g₂ s₂ w y→_) h2 (fun f self h2 X₂=>bnE h2 fun vs σ₃ h3 h4=>X₂.methE fun q y' hm hself =>
        Te (hfn f) (H2 hr h3 R₂ fun xs s₃ g₃ R₃ X₃ E₃=>⟨⟨(E₃.Fz hm).1,R₃.kinD⟩,HC hr VV h4 R₃ (.cons (hself.ext E₃) X₃) (N.trans (E₁.trans (E₂.trans E₃)))⟩)) X₂)) X₁)

noncomputable def Ht (c:Cx) (x:Str) (f:Nat):Bool:=(nsIn c.K mainGlobals x==some (some (.ref (c.fA f))))&&fnIn c.K (c.fA f)
theorem ZC9 (VV:EnvOk env) {x:Str} {np pos} (hs:es.all Jb=true) (hk:env.kindOf x=some .globalImplicit) (hx:(x==("__debug__":Str))=false)
    (hd:Ht c x f=true) (HC:JJ c r C) (H2:Jx c r env es (evs C mes)) :
    JD c r env (.Call (.Name x np) es [] pos) (ev C (.call f mes)):=fun _ _ _ _ _ _ _ _ hr hf R N=>bnE hf fun vs σ₁ h1 h2=>bA hd fun d1 d2=>by
  rw [arm_eval_Call_Name',UA hs]
  exact wpAny_bind (Name_function_global VV.kind hk (wpAny_bind ((looks_nsIn R.kinD (VV.glob▸bE d1:nsIn c.K env.globals x=some (some (.ref (c.fA f))))).here (wpAny_pure
    (Oj d2 (H2 hr h1 R fun xs s₁ g₁ R₁ X₁ E₁=>⟨R₁.kinD,Kl (HC hr VV h2 R₁ X₁ (N.trans E₁))⟩))))) hx)

noncomputable def Wt (c:Cx) (env:Env) (r:Nat) (op:Value→Value→Sem Value) (f:St→Mine.V→Mine.V→Option Mine.V):Prop:=
  ∀ ⦃A:Around⦄ ⦃σ:St⦄ ⦃a b v:Mine.V⦄ ⦃g:Gh⦄ ⦃s:Shared⦄ ⦃x y:Value⦄ ⦃E:Value→Shared→Prop⦄ ⦃Q:Value→Shared→Prop⦄,
    JK A r→f σ a b=some v→Rel c env g σ s→Vx c env g s a x→Vx c env g s b y→Nxt c env g s v σ Q→wpAny c.M A (op x y) Q E s

theorem ZE6 {l rr:Expr} {ml mr:ME} {o:Bop} {op:Operator} {pos} (Hop:Wt c env r (binaryOp op) (fun σ=>Jo σ o)) (H:JD c r env l (ev C ml)) (H2:JD c r env rr (ev C mr)) :
    JD c r env (.BinOp l op rr pos) (ev C (.bop o ml mr)):=fun _ _ _ _ _ _ _ _ hr hf R N=>bnE hf fun a σ₁ h1 h2=>bnE h2 fun b σ₂ h3 h4=>boE h4 fun w h5 h6 =>
  wpAny_BinOp (H hr h1 R fun x s₁ g₁ R₁ X₁ E₁=>H2 hr h3 R₁ fun y s₂ g₂ R₂ X₂ E₂=>Hop hr h5 R₂ (X₁.ext E₂) X₂ ((N.of h6).trans (E₁.trans E₂)))
end
end Mine
end
noncomputable section
open PySem PySem.Calls PyProof.Rows PySem.W
namespace Mine
section
variable {c:Cx} {r:Nat} {env:Env} {A:Around} {σ σ':St} {g:Gh} {s:Shared} {E:Value→Shared→Prop} {Q:Value→Shared→Prop} {v:Mine.V}

theorem BH:JB=sizeLine:=by rw [sizeLine_eq]; rfl
theorem bdE {α:Type} {n:Nat} {o:Option α} {x:α} {P:Prop} (h:bd n o=some x) (k:n≤sizeLine→o=some x→P):P:=gdE h fun h1 h2=>k (BH▸Nat.le_of_ble_eq_true h1) h2
theorem Tn:(sizeLine:Int) < 2 ^ 63:=by rw [sizeLine_eq]; decide
theorem Uf {n:Nat} (h:n≤sizeLine):(n:Int) < 2 ^ 63:=Int.lt_of_le_of_lt (Int.ofNat_le.mpr h) Tn
theorem Ic {l:List Nat} (h:l.length≤sizeLine):((toS l).length:Int) < 2 ^ 63:=by rw [Jj]; exact Uf h

theorem Hm (R:Rel c env g σ s) {id:Id} {l:List Mine.V} {a:Addr} (ho:JA σ.hp id=some (.list l)) (ha:g.rho id=some a):∃ items n,IsL s.heap a items n∧Vxs c env g s l items.toList:=by
  obtain ⟨o,hc,-,items,n,hi,hv⟩:=U2 R ho ha
  exact ⟨items,n,hi,hv⟩
theorem UE {β:Type} {rr:β} (R:Rel c env g σ s) {v:Mine.V} {f:List Mine.V→Option β} {x:Value} {P:Value→Prop} (h:onListOf σ v f=some rr) (X:Vx c env g s v x) (k:∀ l a items n,f l=some rr→IsL s.heap a items n→Vxs c env g s l items.toList→P (.ref a)):P x:=by
  cases v with
  | list l=>exact X.listE fun a items n hF hv=>k l a items n h hF.1 hv
  | obj id=>exact W5 (P:=fun v=>Vx c env g s v x→P x) (show onList σ (.obj id) (fun _ l=>f l)=some rr from h) (fun id l ho h X=>X.objE fun a ha=>let ⟨items,n,hi,hv⟩:=Hm R ho ha; k l a items n h hi hv) X
  | _=>exact nn h
theorem Jg {l:List Mine.V} {items:Array Value} {F ρ} (h:VRs c F ρ l items.toList):items.size=l.length:=h.length.symm

noncomputable def QV (c:Cx) (env:Env) (g:Gh) (s:Shared) (σ':St) (P:Shared→Prop):Prop:=
  ∀ s' g',Rel c env g' σ' s'→Ext env g g' s s'→P s'
theorem QV.toks {P:Shared→Prop} (N:QV c env g s σ P) (R:Rel c env g σ s) {t:Tok} (ht:0 < t:=by exact Nat.succ_pos _):P { s with toks:=t }:=N _ g (R.toks ht) .toks
theorem QV.same {P:Shared→Prop} (N:QV c env g s σ P) (R:Rel c env g σ s):P s:=N s g R .refl
theorem QV.trans {P:Shared→Prop} {s₁:Shared} {g₁:Gh} (N:QV c env g s σ' P) (x:Ext env g g₁ s s₁):QV c env g₁ s₁ σ' P:=
  fun s' g' R e=>N s' g' R (x.trans e)
theorem QV.of {σ₁:St} {b b':Bool} {P:Bool→Shared→Prop} (e:some (b',σ₁)=some (b,σ')) (N:QV c env g s σ' (P b)):QV c env g s σ₁ (P b'):=by cases e; exact N

theorem ZBY {l:List Mine.V} {items:Array Value} {F ρ} (h:VRs c F ρ l items.toList):(!items.isEmpty)=!l.isEmpty:=by
  rw [← Array.isEmpty_toList]
  generalize items.toList=xs at h
  cases l with
  | nil=>exact h.nilE rfl
  | cons _ _=>exact h.consE fun _ _ _ _=>rfl
theorem Ta:typeLookup (.type "method") "__bool__"=pure none:=by rw [typeLookup_type,builtinLookup_eq_fast]; kernel_rfl
theorem Tg:typeLookup (.type "method") "__len__"=pure none:=by rw [typeLookup_type,builtinLookup_eq_fast]; kernel_rfl
theorem Tm {a:Addr} {Q:Bool→Shared→Prop} (h:s.TypeIs (.ref a) "method") (hq:Q true s):wpAny c.M A (PySem.truthy (.ref a)) Q E s:=by
  unfold PySem.truthy
  exact wpAny_bind (wpAny_callSpecial?_none h Ta (wpAny_bind (wpAny_specialOf h Tg (wpAny_pure hq))))
theorem ZEL (x:List Nat):(((toS x).length:Int) != 0)=!x.isEmpty:=by rw [Jj]; cases x <;> rfl
theorem Oo {x:Value} {b:Bool} {Q:Bool→Shared→Prop} (h:(onListOf σ v fun l=>bd l.length (some (!l.isEmpty)))=some b) (R:Rel c env g σ s) (X:Vx c env g s v x) (N:QV c env g s σ (Q b)):wpAny c.M A (PySem.truthy x) Q E s:=
  UE (P:=fun x=>wpAny c.M A (PySem.truthy x) Q E s) R h X fun l a items n h hi hv=>bdE h fun hb e=>by
    cases e
    have hs:=Jg hv
    exact wpAny_truthy_list hi.isList (by rw [hs]; exact Uf hb) (by rw [ZBY hv]; exact N.toks R)
theorem YB {b:Bool} {x:Value} {Q:Bool→Shared→Prop} (hf:Mine.Jh σ v=some b) (R:Rel c env g σ s) (X:Vx c env g s v x) (N:QV c env g s σ (Q b)):wpAny c.M A (PySem.truthy x) Q E s:=by
  cases v with
  | none=>cases hf; exact X.noneE (truthy_none (N.same R))
  | bool b=>cases hf; exact X.boolE (wpAny_truthy_bool (N.same R))
  | int i=>cases hf; exact X.intE fun t=>P.truthy_int (N.same R)
  | str x'=>exact bdE hf fun hb e=>by cases e; exact X.strE fun t=>P.truthy_str (Int.not_le.mpr (Ic hb)) (ZEL x'▸N.toks R)
  | meth f s=>cases hf; exact X.methE fun a y hm _=>Tm ⟨_,hm.1,rfl⟩ (N.same R)
  | list l=>exact Oo (σ:=σ) (v:=.list l) hf R X N
  | obj i=>exact Oo (σ:=σ) (v:=.obj i) hf R X N
  | dict ks vs =>
    exact bdE hf fun hb e=>by
      cases e
      exact X.dictE fun a o kvs f d e hk hs=>by
        have hl:kvs.length=ks.length:=by rw [← List.length_map (·.1),e,List.length_map]
        have he:kvs.isEmpty=ks.isEmpty:=by cases kvs <;> cases ks <;> first | rfl | exact nomatch hl
        exact wpAny_truthy_dict (knd:=strKind c.prog c.w) hs (Heap.dictOf_iff.mpr ⟨_,f.1,d⟩) (by rw [hl]; exact Uf hb) (by rw [he]; exact N.toks R)
  | _=>exact nn hf

noncomputable def eqS (k:Str):Value→Bool
  | .str y _=>y==k
  | _=>false
noncomputable def eqI (k:Int):Value→Bool
  | .int y _=>y==k
  | _=>false
theorem Kw (z k:List Nat):(toS z==toS k)=(z==k):=by
  by_cases e:z=k
  · rw [e,beq_self_eq_true,beq_self_eq_true]
  · rw [beq_false_of_ne e,beq_false_of_ne fun q=>e (UW q)]
theorem HV {β:Type} {rr:β} {f:List Nat→Option β} {P:Mine.V→Prop} (h:bo (IP v) f=some rr) (k:∀ x,f x=some rr→P (.str x)):P v:=by
  cases v <;> first | exact nn h | exact k _ h
theorem Wf {β:Type} {rr:β} {f:Int→Option β} {P:Mine.V→Prop} (h:bo (Wq v) f=some rr) (k:∀ x,f x=some rr→P (.int x)):P v:=by
  cases v <;> first | exact nn h | exact k _ h
theorem ZN {β:Type} {rr:β} {f:Nat→Option β} {P:Mine.V→Prop} (h:bo (Xp v) f=some rr) (k:∀ x,f x=some rr→P (.str [x])):P v:=by
  cases v <;> first | exact nn h | skip
  rename_i l
  match l,h with
  | [],h=>exact nn h
  | [c],h=>exact k _ h
  | _ :: _ :: _,h=>exact nn h
noncomputable def Zg (k:List Nat) (xs:List Value) (ys:List (List Nat)):Prop:=xs.any (eqS (toS k))=ys.any (·==k)∧∀ y∈xs,∃ z t,y=.str z t
theorem Os {k:List Nat} {F ρ}:∀ {l:List Mine.V} {ys:List (List Nat)} {xs:List Value},UY l=some ys→VRs c F ρ l xs→Zg k xs ys
  | [],_,_,h,hv=>by cases h; exact hv.nilE ⟨rfl,fun _ h=>nomatch h⟩
  | _ :: _,ys,xs,h,hv=>hv.consE (P:=fun xs=>Zg k xs ys) fun y xs hw hv=>HV (P:=fun v=>VR c F ρ v y→Zg k (y :: xs) ys) h (fun z h hw=>boE h fun zs h1 h2=>by
      cases h2
      obtain ⟨a,b⟩:=Os (k:=k) h1 hv
      exact hw.strE (P:=fun y=>Zg k (y :: xs) (z :: zs)) fun t=>⟨by rw [List.any_cons,List.any_cons,a]; exact congrArg (·||_) (Kw z k),fun y hy=>(List.mem_cons.mp hy).elim (fun e=>⟨_,_,e⟩) (b y)⟩) hw
noncomputable def Zh (k:Int) (xs:List Value) (ys:List Int):Prop:=xs.any (eqI k)=ys.any (·==k)∧∀ y∈xs,∃ z t,y=.int z t
theorem ZDg {β:Type} {rr:β} {f:Option (List Nat)→Option β} {P:Mine.V→Prop} (h:bo (HW v) f=some rr) (k:∀ x,f (some x)=some rr→P (.str x)) (k':f none=some rr→P .none):P v:=by
  cases v <;> first | exact nn h | exact k _ h | exact k' h
noncomputable def Xt (k:List Nat) (xs:List Value) (ys:List (Option (List Nat))):Prop:=xs.any (eqS (toS k))=ys.any (·==some k)∧∀ y∈xs,(∃ z t,y=.str z t)∨y=.none
theorem Zq {k:List Nat} {F ρ}:∀ {l:List Mine.V} {ys:List (Option (List Nat))} {xs:List Value},WW l=some ys→VRs c F ρ l xs→Xt k xs ys
  | [],_,_,h,hv=>by cases h; exact hv.nilE ⟨rfl,fun _ h=>nomatch h⟩
  | _ :: _,ys,xs,h,hv=>hv.consE (P:=fun xs=>Xt k xs ys) fun y xs hw hv=>ZDg (P:=fun v=>VR c F ρ v y→Xt k (y :: xs) ys) h (fun z h hw=>boE h fun zs h1 h2=>by
      cases h2
      obtain ⟨a,b⟩:=Zq (k:=k) h1 hv
      exact hw.strE (P:=fun y=>Xt k (y :: xs) (some z :: zs)) fun t=>⟨by rw [List.any_cons,List.any_cons,a]; exact congrArg (·||_) (Kw z k),fun y hy=>(List.mem_cons.mp hy).elim (fun e=>.inl ⟨_,_,e⟩) (b y)⟩) (fun h hw=>boE h fun zs h1 h2=>by
      cases h2
      obtain ⟨a,b⟩:=Zq (k:=k) h1 hv
      exact hw.noneE (P:=fun y=>Xt k (y :: xs) (none :: zs)) ⟨by rw [List.any_cons,List.any_cons,a]; rfl,fun y hy=>(List.mem_cons.mp hy).elim .inr (b y)⟩) hw
theorem Oz {k:Int} {F ρ}:∀ {l:List Mine.V} {ys:List Int} {xs:List Value},Ub l=some ys→VRs c F ρ l xs→Zh k xs ys
  | [],_,_,h,hv=>by cases h; exact hv.nilE ⟨rfl,fun _ h=>nomatch h⟩
  | _ :: _,ys,xs,h,hv=>hv.consE (P:=fun xs=>Zh k xs ys) fun y xs hw hv=>Wf (P:=fun v=>VR c F ρ v y→Zh k (y :: xs) ys) h (fun z h hw=>boE h fun zs h1 h2=>by
      cases h2
      obtain ⟨a,b⟩:=Oz (k:=k) h1 hv
      exact hw.intE (P:=fun y=>Zh k (y :: xs) (z :: zs)) fun t=>⟨by rw [List.any_cons,List.any_cons,a]; rfl,fun y hy=>(List.mem_cons.mp hy).elim (fun e=>⟨_,_,e⟩) (b y)⟩) hw
theorem TR (a:Str) (t:Tok):MeetsSeq.EqGives (.str a t) .none false:=fun prog w A E s Q h=>by
  unfold PySem.eqBool
  refine wpAny_holding ?_
  rw [if_neg (show ¬ (Value.str a t==Value.none)=true from fun q=>nomatch (beq_iff_eq.mp q))]
  exact wpAny_bind (EqNone.eq_str_none (wpAny_truthy_bool h))

theorem TS (a:Str) (t:Tok):MeetsSeq.EqGives .none (.str a t) false:=fun prog w A E s Q h=>by
  unfold PySem.eqBool
  refine wpAny_holding ?_
  rw [if_neg (show ¬ (Value.none==Value.str a t)=true from fun q=>nomatch (beq_iff_eq.mp q))]
  exact wpAny_bind (EqNone.eq_none_str (wpAny_truthy_bool h))
theorem TK {t:Addr} {items:Array Value} {x:Value} {P:Fin→Shared→Prop} (e:Value→Bool) (ht:IsTup s.heap t items) (he:∀ y∈items.toList,MeetsSeq.EqGives y x (e y))
    (h:P (.done (.ret (.bool (items.toList.any e)))) s):wpAny c.M A (Builtin.«tuple.__contains__» ⟨[.ref t,x],[]⟩) P E s:=by
  show wpAny _ _ (Builtin.Tuple.tupleItemsOf (.ref t) >>= _) _ _ s
  refine wpAny_bind (tupleItemsOf_ ht ?_)
  refine wpAny_bind (forIn_array_ _ (fun rest b s'=>b.1=none∧s'=s∧(∀ y∈rest,MeetsSeq.EqGives y x (e y))∧P (.done (.ret (.bool (rest.any e)))) s) _ ?_ ?_ items _ ⟨rfl,rfl,he,h⟩)
  · rintro y rest b s' ⟨hb,rfl,hm,hP⟩
    refine wpAny_bind (hm y (.head _) _ _ _ _ _ _ ?_)
    rw [List.any_cons] at hP
    cases hnx:e y with
    | true =>
      rw [hnx] at hP
      exact wpAny_bind (wpAny_pure (wpAny_pure (wpAny_pure (by simpa using hP))))
    | false =>
      rw [hnx] at hP
      exact wpAny_pure ⟨rfl,rfl,fun z hz=>hm z (.tail _ hz),by simpa using hP⟩
  · rintro ⟨b1,b2⟩ s' ⟨hb,rfl,hm,hP⟩
    simp only at hb
    subst hb
    exact wpAny_pure (by simpa using hP)
theorem TN {t:Addr} {items:Array Value} {x:Value} {Q:Bool→Shared→Prop} (e:Value→Bool) (ht:IsTup s.heap t items) (he:∀ y∈items.toList,MeetsSeq.EqGives y x (e y)) (hargs:argsOk "tuple.__contains__" ⟨[.ref t,x],[]⟩)
    (h:Q (items.toList.any e) s):wpAny c.M A (PySem.contains (.ref t) x) Q E s:=by
  unfold PySem.contains
  refine wpAny_holding ?_
  refine wpAny_bind (wpAny_specialOf ht.typeIs slot_tuple_contains.lookup ?_)
  rw [if_neg (by decide)]
  exact wpAny_bind (wpAny_callSpecialUnlessNone?_slot (name:=Str.ofString "__contains__") ht.typeIs slot_tuple_contains
    (wpAny_call_entry slot_tuple_contains ht.typeIs entry_tuple_contains (TK e ht he ⟨_,rfl,wpAny_truthy_bool h⟩) hargs))

theorem Oy {x:Mine.V} {l:List Mine.V} {b:Bool} {y:Value} {xs:List Value} (h:WC x l=some b) (hv:Vxs c env g s l xs) (hx:Vx c env g s x y) :
    ∃ e:Value→Bool,(∀ z∈xs,MeetsSeq.EqGives z y (e z))∧xs.any e=b:=by
  cases x with
  | str k =>
    exact boE h fun ys h1 h2=>by
      cases h2
      obtain ⟨a,b⟩:=Zq (k:=k) h1 hv
      exact hx.strE (P:=fun y=>∃ e:Value→Bool,(∀ z∈xs,MeetsSeq.EqGives z y (e z))∧xs.any e=_) fun t=>⟨eqS (toS k),fun z hz=>(by
        rcases b z hz with ⟨z',t,rfl⟩ | rfl
        · exact eqGives_str _ _ _ _
        · exact TS _ _),a⟩
  | none =>
    exact boE h fun ys h1 h2=>by
      cases h2
      obtain ⟨a,b⟩:=Os (k:=[]) h1 hv
      exact hx.noneE (P:=fun y=>∃ e:Value→Bool,(∀ z∈xs,MeetsSeq.EqGives z y (e z))∧xs.any e=_) ⟨fun _=>false,fun z hz=>(by obtain ⟨z',t,rfl⟩:=b z hz; exact TR _ _),List.any_eq_false.mpr fun _ _=>Bool.false_ne_true⟩
  | int k =>
    exact boE h fun ys h1 h2=>by
      cases h2
      obtain ⟨a,b⟩:=Oz (k:=k) h1 hv
      exact hx.intE (P:=fun y=>∃ e:Value→Bool,(∀ z∈xs,MeetsSeq.EqGives z y (e z))∧xs.any e=_) fun t=>⟨eqI k,fun z hz=>(by obtain ⟨z',t,rfl⟩:=b z hz; exact MeetsSeq.EqGives.int _ _ _ _),a⟩
  | _=>exact nn h

noncomputable def IsB (x y:Value) (q:Bool):Prop:=plainIs x y=true∧(x==y)=q
theorem ZBA {a:Mine.V} {x:Value} {q:Bool} {F ρ} (h:WR a=some q) (hx:VR c F ρ a x):IsB x .none q:=
  VR.rec (motive_1:=fun a x _=>WR a=some q→IsB x .none q) (motive_2:=fun _ _ _=>True) (fun h=>Option.some.inj h▸⟨rfl,rfl⟩) (fun _ h=>Option.some.inj h▸⟨rfl,rfl⟩) (fun _ _ h=>Option.some.inj h▸⟨rfl,rfl⟩) (fun _ _ h=>Option.some.inj h▸⟨rfl,rfl⟩) (fun _ _ _ _ _ h=>Option.some.inj h▸⟨rfl,rfl⟩) (fun _ _ _ h=>Option.some.inj h▸⟨rfl,rfl⟩)
    (fun _ _ _ _ _ _ h=>nn h) (fun _ h=>Option.some.inj h▸⟨rfl,rfl⟩) (fun _ h=>nn h) (fun _ h=>nn h) (fun _ _ _ h=>nn h) trivial (fun _ _ _ _=>trivial) hx h
theorem ZBB {a:Mine.V} {x:Value} {q:Bool} {F ρ} (h:WR a=some q) (hx:VR c F ρ a x):IsB .none x q:=
  VR.rec (motive_1:=fun a x _=>WR a=some q→IsB .none x q) (motive_2:=fun _ _ _=>True) (fun h=>Option.some.inj h▸⟨rfl,rfl⟩) (fun _ h=>Option.some.inj h▸⟨rfl,rfl⟩) (fun _ _ h=>Option.some.inj h▸⟨rfl,rfl⟩) (fun _ _ h=>Option.some.inj h▸⟨rfl,rfl⟩) (fun _ _ _ _ _ h=>Option.some.inj h▸⟨rfl,rfl⟩) (fun _ _ _ h=>Option.some.inj h▸⟨rfl,rfl⟩)
    (fun _ _ _ _ _ _ h=>nn h) (fun _ h=>Option.some.inj h▸⟨rfl,rfl⟩) (fun _ h=>nn h) (fun _ h=>nn h) (fun _ _ _ h=>nn h) trivial (fun _ _ _ _=>trivial) hx h
theorem ZJ {a b:Mine.V} {x y:Value} {q:Bool} {F ρ} (h:isV a b=some q) (hx:VR c F ρ a x) (hy:VR c F ρ b y):IsB x y q:=by
  have key:OL a b=some q→IsB x y q:=fun h=>by
    unfold OL at h
    cases hb:b.isNone with
    | true=>rw [hb] at h; cases b <;> first | exact ff hb | exact hy.noneE (P:=fun y=>IsB x y q) (ZBA h hx)
    | false=>rw [hb] at h; exact gdE h fun h1 h2=>by cases a <;> first | exact ff h1 | exact hx.noneE (P:=fun x=>IsB x y q) (ZBB h2 hy)
  cases a with
  | bool p =>
    exact hx.boolE (P:=fun x=>IsB x y q) (by
      cases b with
      | none=>cases h; exact hy.noneE ⟨rfl,rfl⟩
      | bool p'=>cases h; exact hy.boolE (P:=fun y=>IsB _ y _) ⟨rfl,by cases p <;> cases p' <;> rfl⟩
      | _=>exact nn h)
  | _=>exact key h

noncomputable def EqM (c:Cx) (A:Around) (s:Shared) (x y:Value):Prop:=∀ (E:Value→Shared→Prop) (Q:Bool→Shared→Prop),Q true s→wpAny c.M A (PySem.eqBool x y) Q E s
noncomputable def RcM (c:Cx) (A:Around) (s:Shared) (x y:Value):Prop:=∀ (E:Value→Shared→Prop) (Q:Value→Shared→Prop),Q (.bool true) s→wpAny c.M A (richCompare .Eq x y) Q E s
theorem EqM.of {A:Around} {x y:Value} {b:Bool} (h:SeqAt.EqAt A s x y b) (hb:b=true):EqM c A s x y:=fun E Q q=>h _ _ E Q (hb▸q)
theorem EqM.refs {A:Around} {a b:Addr} (h:RcM c A s (.ref a) (.ref b)):EqM c A s (.ref a) (.ref b):=by
  by_cases e:a=b
  · subst e; exact EqM.of (SeqAt.EqAt.same _) rfl
  · intro E Q q
    unfold PySem.eqBool
    refine wpAny_holding ?_
    rw [if_neg fun h=>e (Value.ref.inj (bE h))]
    exact wpAny_bind (h _ _ (wpAny_truthy_bool q))
open AutoSeq1 (wpAny_loadPart') in
open MeetsSeq MeetsSeq2 MeetsSeq3 SeqRoads2 in
theorem ZBV (l b:Addr) (items items2:Array Value) (n n2:Nat) (hsz:items.size=items2.size) (k:Nat) :
    ∀ i:Nat,items.size - i=k→∀ (A:Around) (R:Result→Shared→Prop) (s:Shared),IsL s.heap l items n→IsL s.heap b items2 n2 →
      (∀ j (h1:j < items.size) (h2:j < items2.size),EqM c A.in1 s items[j] items2[j])→R (.ok (.ret (.bool true))) s →
      wpAny c.M A.in1 (Builtin.«list.__eq__.loop» ⟨[.ref l,.ref b,rawInt i,rawInt 2],[]⟩) (fun fin s'=>match fin with | .done f=>R (.ok f) s' | .again c'=>c'.quiet=true∧codeAny c.M A c' R s') (fun e s'=>R (.error e) s') s:=by
  induction k with
  | zero =>
    intro i hk A R s hl hb he h
    obtain ⟨hp,g,d,tk,os⟩:=s
    wp_walk using wpAny_loadPart' hl,wpAny_loadPart' hb
    have hi1:items[((i:Nat):Int).toNat]?=none:=Array.getElem?_eq_none (Nat.le_of_sub_eq_zero hk)
    have hi2:items2[((i:Nat):Int).toNat]?=none:=Array.getElem?_eq_none (Nat.le_trans (Nat.le_of_eq hsz.symm) (Nat.le_of_sub_eq_zero hk))
    rw [hi1,hi2]
    wp_walk using wpAny_loadPart' hl,wpAny_loadPart' hb
    show R (.ok (.ret (.bool (items.size==items2.size)))) _
    rw [hsz,beq_self_eq_true]
    exact h
  | succ k ih =>
    intro i hk A R s hl hb he h
    obtain ⟨hp,g,d,tk,os⟩:=s
    wp_walk using wpAny_loadPart' hl,wpAny_loadPart' hb
    have hlt:i < items.size:=Nat.lt_of_sub_eq_succ hk
    have hlt2:i < items2.size:=Nat.lt_of_lt_of_eq hlt hsz
    have hi1:items[((i:Nat):Int).toNat]?=some items[i]:=Array.getElem?_eq_getElem hlt
    have hi2:items2[((i:Nat):Int).toNat]?=some items2[i]:=Array.getElem?_eq_getElem hlt2
    have hc:((i:Int) + 1)=((i + 1:Nat):Int):=rfl
    rw [hi1,hi2]
    refine wpAny_bind (he i hlt hlt2 _ _ ?_)
    wp_walk
    rw [hc]
    exact ⟨plainId_quiet plain_eq_loop _,codeAny_builtin entry_eq_loop (by
      rw [Around.under_plainId plain_eq_loop _]
      exact ih (i + 1) ((Nat.sub_add_eq items.size i 1).trans (congrArg (· - 1) hk)) A R _ hl hb he h)⟩
open AutoSeq1 (wpAny_loadPart') in
open MeetsSeq MeetsSeq2 MeetsSeq3 SeqRoads2 in
theorem ZA8 {l b:Addr} {items items2:Array Value} {n n2:Nat} (hsz:items.size=items2.size) {A:Around} {R:Result→Shared→Prop} {s:Shared} (hl:IsL s.heap l items n) (hb:IsL s.heap b items2 n2)
    (he:∀ j (h1:j < items.size) (h2:j < items2.size),EqM c A.in1 s items[j] items2[j]) (h:R (.ok (.ret (.bool true))) s) :
    wpAny c.M A.in1 (Builtin.«list.__eq__» ⟨[.ref l,.ref b],[]⟩) (fun fin s'=>match fin with | .done f=>R (.ok f) s' | .again c'=>c'.quiet=true∧codeAny c.M A c' R s') (fun e s'=>R (.error e) s') s:=by
  obtain ⟨hp,g,d,tk,os⟩:=s
  have f3:=AutoSeq1.sub_list_list
  have hne:¬ (items.size != items2.size)=true:=by simp [hsz]
  wp_walk using wpAny_loadPart' hl,wpAny_loadPart' hb
  exact ⟨plainId_quiet plain_eq_loop _,codeAny_builtin entry_eq_loop (by
    rw [Around.under_plainId plain_eq_loop _]
    exact ZBV l b items items2 n n2 hsz _ 0 rfl A R _ hl hb he h)⟩
theorem RcM.lists {l b:Addr} {items items2:Array Value} {n n2:Nat} {A:Around} (hl:IsL s.heap l items n) (hb:IsL s.heap b items2 n2) (hsz:items.size=items2.size) (hu:A.units < cLine)
    (he:∀ j (h1:j < items.size) (h2:j < items2.size),EqM c A.in1 s items[j] items2[j]):RcM c A s (.ref l) (.ref b):=fun E Q h =>
  wpAny_richCompare_same_room (op:=.Eq) ⟨_,hl,rfl⟩ ⟨_,hb,rfl⟩ F.slot_list_eq
    (wpAny_call (codeAny_call_builtin F.slot_list_eq.plain F.entry_list_eq (F.slot_list_eq.check _ _ _ _ _ _ _ _ ⟨_,hl,rfl⟩ (F.args_list_eq_2 _ _)
      (ZA8 (R:=wants (fun v s'=>v≠.notImplemented∧Q v s') E) hsz hl hb he (show _∧_ from ⟨(fun x=>nomatch x),h⟩))))) hu
theorem T7 {kvs:List (Str×Value)} (hn:(kvs.map (·.1)).Nodup) {j:Nat} {k:Str} {y:Value} (h:kvs[j]?=some (k,y)):valueAt kvs k=some y:=by
  induction kvs generalizing j with
  | nil=>simp at h
  | cons kv r ih =>
    rw [List.map_cons,List.nodup_cons] at hn
    unfold valueAt
    rw [List.find?_cons]
    cases j with
    | zero=>simp at h; subst h; simp
    | succ j =>
      simp at h
      have hm:k∈r.map (·.1):=List.mem_map.mpr ⟨(k,y),List.mem_of_getElem? h,rfl⟩
      have:¬ kv.1=k:=fun e=>hn.1 (e▸hm)
      rw [decide_eq_false this]
      exact ih hn.2 h
theorem ZAE {nm:String} {a b:Addr} {ka kb:List (Str×Value)} {Q:Bool→Shared→Prop} (ha:(a==sysModules)=false) (hb:(b==sysModules)=false)
    (da:s.heap.DictOf (strKind c.prog c.w) a ka) (db:s.heap.DictOf (strKind c.prog c.w) b kb) (hk:ka.map (·.1)=kb.map (·.1))
    (he:∀ (j:Nat) x y,(ka.map (·.2))[j]?=some x→(kb.map (·.2))[j]?=some y→EqM c A s x y) (h:Q true s) :
    wpAny c.M A (Builtin.Dict.samePairs nm a b) Q E s:=by
  obtain ⟨oa,es,ep,hoa,_,hda,hka,hpa,_⟩:=da
  obtain ⟨ob,es',ep',hob,_,hdb,hkb,hpb,hnd⟩:=db
  have sa:ka.length=es.size:=by rw [← hpa.length,Array.length_toList]
  have sb:kb.length=es'.size:=by rw [← hpb.length,Array.length_toList]
  have sab:ka.length=kb.length:=by
    have:=congrArg List.length hk
    rw [List.length_map,List.length_map] at this
    exact this
  have hf:∀ k,findBy (strKind c.prog c.w).is es' k=valueAt kb k:=fun k=>by
    rw [← hpb.find k]
    obtain ⟨l⟩:=es'
    simp [findBy]
  delta Builtin.Dict.samePairs Builtin.Dict.showsAll; dsimp only
  rw [ha,hb]
  simp only [Bool.false_eq_true,if_false]
  refine wpAny_bind (wpAny_pure (wpAny_bind (wpAny_pure (wpAny_bind (wpAny_dictEntries hoa hda ?_)))))
  refine wpAny_bind (wpAny_dictEntries hob hdb ?_)
  rw [if_neg (by rw [← sa,← sb,sab]; simp)]
  refine wpAny_bind (wpAny_dictEpoch hoa hda (wpAny_bind ?_))
  rw [Std.Legacy.Range.forIn_eq_forIn_range']
  simp only [Std.Legacy.Range.size,Nat.sub_zero,Nat.add_sub_cancel,Nat.div_one]
  refine wpAny_forIn_list _ (fun rest q s'=>s'=s∧q=(none,())∧∃ i,rest=List.range' i (es.size - i)) _ ?_ ?_ _ _ ⟨rfl,rfl,0,by simp⟩
  · rintro x rest q s' ⟨rfl,rfl,i,hr⟩
    have hlt:i < es.size:=by
      by_cases z:i < es.size
      · exact z
      · rw [Nat.sub_eq_zero_of_le (Nat.le_of_not_lt z)] at hr; cases hr
    have z:es.size - i=(es.size - (i + 1)) + 1:=((congrArg (· + 1) (Nat.sub_add_eq es.size i 1)).trans (Nat.sub_add_cancel (Nat.sub_pos_of_lt hlt))).symm
    rw [z,List.range'_succ] at hr
    injection hr with e1 e2
    subst e1
    refine wpAny_bind (wpAny_dictEntries hoa hda ?_)
    rw [Array.getElem?_eq_getElem hlt]
    have l1:x < ka.length:=sa▸hlt
    have l2:x < kb.length:=sab▸l1
    have hkey:ka[x].1=kb[x].1:=by
      have:=congrArg (fun l=>l[x]?) hk
      rw [List.getElem?_map,List.getElem?_map,List.getElem?_eq_getElem l1,List.getElem?_eq_getElem l2] at this
      exact Option.some.inj this
    obtain ⟨hq,hv⟩:=hpa.get? (i:=x) (e:=es[x]) (k:=ka[x].1) (v:=ka[x].2) (by rw [Array.getElem?_toList]; exact Array.getElem?_eq_getElem hlt) (by rw [List.getElem?_eq_getElem l1])
    obtain ⟨k',hk',hh⟩:=hka es[x] (Array.getElem_mem hlt)
    rw [(strKind c.prog c.w).inj _ _ _ hk' hq] at hh
    show wpAny _ _ (holding [es[x].key,es[x].val] _ >>= _) _ _ _
    rw [hh]
    refine wpAny_bind (wpAny_holding (wpAny_bind (wpAny_dictFind_of hq hob hdb hkb ?_)))
    have hval:valueAt kb ka[x].1=some kb[x].2:=T7 hnd (j:=x) (by rw [hkey,List.getElem?_eq_getElem l2])
    rw [← hf,findBy_of_findIdx?] at hval
    cases hj:es'.findIdx? fun e=>(strKind c.prog c.w).is ka[x].1 e.key with
    | none=>rw [hj] at hval; cases hval
    | some j =>
      rw [hj] at hval
      obtain ⟨jl,_,_⟩:=Array.findIdx?_eq_some_iff_getElem.mp hj
      refine wpAny_bind (wpAny_dictEntries hob hdb ?_)
      rw [Array.getElem?_eq_getElem jl]
      have ey:es'[j].val=kb[x].2:=by simpa [Array.getElem?_eq_getElem jl] using hval
      have hE:=he x ka[x].2 kb[x].2 (by rw [List.getElem?_map,List.getElem?_eq_getElem l1]; rfl) (by rw [List.getElem?_map,List.getElem?_eq_getElem l2]; rfl)
      rw [← ey,← hv] at hE
      refine wpAny_holding (hE _ _ ?_)
      show wpAny _ _ (if (!true)=true then _ else _) _ _ _
      rw [if_neg (by decide)]
      refine wpAny_bind (wpAny_dictEpoch hoa hda ?_)
      rw [if_neg (by simp)]
      exact wpAny_pure ⟨rfl,rfl,x + 1,e2⟩
  · rintro q s' ⟨rfl,rfl,_⟩
    exact wpAny_pure h
theorem RcM.dicts {a b:Addr} {ka kb:List (Str×Value)} (ha:(a==sysModules)=false) (hb:(b==sysModules)=false)
    (da:s.heap.DictOf (strKind c.prog c.w) a ka) (db:s.heap.DictOf (strKind c.prog c.w) b kb) (hu:A.units < cLine) (hk:ka.map (·.1)=kb.map (·.1))
    (he:∀ (j:Nat) x y,(ka.map (·.2))[j]?=some x→(kb.map (·.2))[j]?=some y→EqM c A.in1 s x y):RcM c A s (.ref a) (.ref b):=fun E Q h=>by
  refine wpAny_richCompare_same_room (op:=.Eq) da.typeIs db.typeIs PySem.F.slot_dict_eq (wpAny_call_entry PySem.F.slot_dict_eq da.typeIs PySem.F.entry_dict_eq ?_ (PySem.F.args_dict_eq_2 _ _)) hu
  show wpAny _ _ (Builtin.Dict.dictSlotArgs "__eq__" ⟨[.ref a,.ref b],[]⟩ >>= _) _ _ s
  refine wpAny_bind ?_
  unfold Builtin.Dict.dictSlotArgs
  refine wpAny_bind (wpAny_notOrdered_dict da.typeIs ?_)
  show wpAny _ _ (pure (Value.ref a,Value.ref b)) _ _ s
  refine wpAny_pure (wpAny_bind (wpAny_isInstance (T:="dict") db.typeIs PySem.F.sub_dict_dict ?_))
  rw [if_neg (by decide)]
  exact wpAny_bind (wpAny_pure (wpAny_bind (wpAny_pure (wpAny_bind (ZAE ha hb da db hk he (wpAny_pure ⟨_,rfl,(fun x=>nomatch x),h⟩))))))
theorem YA {u d L:Nat} (h:u + 2 * (d + 1) + 2 < L):u + 1 + 2 * d + 2 < L∧u < L:=⟨Nat.lt_of_le_of_lt (Nat.add_le_add_right (by rw [Nat.add_assoc,Nat.add_comm 1]; exact Nat.add_le_add_left (Nat.le_succ _) u) 2) h,Nat.lt_of_le_of_lt (Nat.le_trans (Nat.le_add_right u _) (Nat.le_add_right _ 2)) h⟩
theorem Bf {u a b L:Nat} (h:u + 2 * max a b + 2 < L):u + 2 * a + 2 < L∧u + 2 * b + 2 < L:=⟨Nat.lt_of_le_of_lt (Nat.add_le_add_right (Nat.add_le_add_left (Nat.mul_le_mul_left 2 (Nat.le_max_left a b)) u) 2) h,Nat.lt_of_le_of_lt (Nat.add_le_add_right (Nat.add_le_add_left (Nat.mul_le_mul_left 2 (Nat.le_max_right a b)) u) 2) h⟩
noncomputable def Sm (c:Cx) (s:Shared) (v:Mine.V):Prop:=∀ ⦃A:Around⦄ ⦃F ρ⦄ ⦃x y:Value⦄,(∀ a o,F a o→s.heap.get? a=some o)→A.units + 2 * dep v + 2 < cLine→OR v=true→VR c F ρ v x→VR c F ρ v y→EqM c A s x y
noncomputable def Sms (c:Cx) (s:Shared) (l:List Mine.V):Prop:=∀ ⦃A:Around⦄ ⦃F ρ⦄ ⦃xs ys:List Value⦄,(∀ a o,F a o→s.heap.get? a=some o)→A.units + 2 * deps l + 2 < cLine→datVs l=true→VRs c F ρ l xs→VRs c F ρ l ys →
    ∀ (j:Nat) x y,xs[j]?=some x→ys[j]?=some y→EqM c A s x y
theorem Ys {items:Array Value} {j:Nat} (h:j < items.size):items.toList[j]?=some items[j]:=by rw [Array.getElem?_toList]; exact Array.getElem?_eq_getElem h
theorem ZB3 {l:List Mine.V} (ih:Sms c s l):Sm c s (.list l):=fun A F ρ x y hF hu hd h1 h2=>h1.listE fun a1 i1 n1 f1 r1=>h2.listE (P:=fun y=>EqM c A s _ y) fun a2 i2 n2 f2 r2 =>
  EqM.refs (RcM.lists (hF _ _ f1) (hF _ _ f2) ((Jg r1).trans (Jg r2).symm) (YA hu).2 fun j h1 h2=>ih hF (A:=A.in1) (YA hu).1 hd r1 r2 j _ _ (Ys h1) (Ys h2))
theorem ZB5 {ks:List (List Nat)} {l:List Mine.V} (ih:Sms c s l):Sm c s (.dict ks l):=fun A F ρ x y hF hu hd h1 h2=>h1.dictE fun a1 o1 k1 f1 d1 e1 r1 s1=>h2.dictE (P:=fun y=>EqM c A s _ y) fun a2 o2 k2 f2 d2 e2 r2 s2 =>
  EqM.refs (RcM.dicts s1 s2 (Heap.dictOf_iff.mpr ⟨_,hF _ _ f1,d1⟩) (Heap.dictOf_iff.mpr ⟨_,hF _ _ f2,d2⟩) (YA hu).2 (e1.trans e2.symm) (ih hF (A:=A.in1) (YA hu).1 hd r1 r2))
theorem ZB6 {v:Mine.V} {l:List Mine.V} (h:Sm c s v) (ih:Sms c s l):Sms c s (v :: l):=fun A F ρ xs ys hF hu hd h1 h2 j x y e1 e2=>bA hd fun d1 d2=>h1.consE (P:=fun xs=>xs[j]?=some x→_) (fun x' xs a1 b1 e1=>h2.consE (P:=fun ys=>ys[j]?=some y→_) (fun y' ys a2 b2 e2=>by
  cases j with
  | zero=>cases e1; cases e2; exact h hF (Bf hu).1 d1 a1 a2
  | succ j=>exact ih hF (Bf hu).2 d2 b1 b2 j x y e1 e2) e2) e1
theorem ZAX (v:Mine.V):Sm c s v:=
  V.rec (motive_1:=Sm c s) (motive_2:=Sms c s) (fun _ _ _ _ _ _ _ _ h1 h2=>h1.noneE (h2.noneE (EqM.of (.same _) rfl))) (fun _ _ _ _ _ _ _ _ _ h1 h2=>h1.boolE (h2.boolE (EqM.of (.same _) rfl)))
    (fun i _ _ _ _ _ _ _ _ h1 h2=>h1.intE fun t=>h2.intE fun u=>EqM.of (.int_int i t i u) (beq_self_eq_true i)) (fun x _ _ _ _ _ _ _ _ h1 h2=>h1.strE fun t=>h2.strE fun u=>EqM.of (.str_str (toS x) t (toS x) u) (beq_self_eq_true _))
    (fun _ _ _ _ _ _ _ _ _ h=>ff h) (fun _=>ZB3) (fun _ _=>ZB5) (fun _ _ _ _ _ _ _ _ h=>ff h) (fun _ _ _ _ _ _ _ _ h=>ff h) (fun _ _ _ _ _ _ _ _ _ _ h=>ff h) (fun _ _ _ _ _ _ _ _ _ h=>ff h)
    (fun _ _ _ _ _ _ _ _ h1 h2 _ _ _ e=>h1.nilE (P:=fun xs=>xs[_]?=some _→_) (fun e=>nn e) e) (fun _ _=>ZB6) v
theorem Bk {a b:Mine.V} {x y:Value} {q:Bool} {Q:Value→Shared→Prop} (hr:JK A r) (h:NS σ a b=some q) (R:Rel c env g σ s) (hx:Vx c env g s a x) (hy:Vx c env g s b y) (hq:Q (.bool q) s):wpAny c.M A (compareOp .Eq x y) Q E s:=
  UE (P:=fun x=>wpAny c.M A (compareOp .Eq x y) Q E s) R h hx fun l a1 i1 n1 h hi1 hv1=>UE (P:=fun y=>wpAny c.M A (compareOp .Eq _ y) Q E s) R h hy fun l' a2 i2 n2 h hi2 hv2=>gdE h fun h1 h2=>bA h1 fun e hrow=>by
    cases h2
    cases V.eq_of_beqs e
    refine RcM.lists hi1 hi2 ((Jg hv1).trans (Jg hv2).symm) hr.units (fun j h1 h2=>?_) E Q hq
    have hj:j < l.length:=Jg hv1▸h1
    obtain ⟨x1,g1,r1⟩:=hv1.get (List.getElem?_eq_getElem hj)
    obtain ⟨x2,g2,r2⟩:=hv2.get (List.getElem?_eq_getElem hj)
    cases (Ys h1).symm.trans g1
    cases (Ys h2).symm.trans g2
    exact bA (List.all_eq_true.mp hrow _ (List.getElem_mem hj)) fun d1 d2=>ZAX _ (fun a o z=>z.1) (Nat.lt_of_le_of_lt (Nat.add_le_add_right (Nat.add_le_add_left (Nat.mul_le_mul_left 2 (Nat.le_of_ble_eq_true d2)) _) 2) (hr.add (k:=1 + (2 * 50 + 2)) (by decide):A.units + 1 + 2 * 50 + 2 < cLine)) d1 r1 r2

noncomputable def JT:Cmp→CmpOp
  | .eq=>.Eq | .ne=>.NotEq | .lt=>.Lt | .le=>.LtE | .gt=>.Gt | .ge=>.GtE | .inn=>.In | .nin=>.NotIn | .is=>.Is | .isn=>.IsNot

noncomputable def EqN (c:Cx) (A:Around) (s:Shared) (x y:Value) (q:Bool):Prop:=∀ (E:Value→Shared→Prop) (Q:Value→Shared→Prop),(Q (.bool q) s→wpAny c.M A (compareOp .Eq x y) Q E s)∧(Q (.bool (!q)) s→wpAny c.M A (compareOp .NotEq x y) Q E s)
theorem YZ {a b:Mine.V} {x y:Value} {q:Bool} {F ρ} (h:OQ a b=some q) (hx:VR c F ρ a x) (hy:VR c F ρ b y):EqN c A s x y q:=by
  cases a with
  | none=>cases b with
    | none=>cases h; exact hx.noneE (hy.noneE fun _ _=>⟨EqNone.eq_none_none,EqNone.ne_none_none⟩)
    | str z=>cases h; exact hx.noneE (hy.strE fun _ _ _=>⟨EqNone.eq_none_str,EqNone.ne_none_str⟩)
    | _=>exact nn h
  | int i=>exact QE (P:=fun b=>VR c F ρ b y→EqN c A s x y q) h (fun j h hy=>by cases h; exact hx.intE (P:=fun x=>EqN c A s x y _) fun _=>hy.intE (P:=fun y=>EqN c A s _ y _) fun _ _ _=>⟨P.eq_int,P.ne_int⟩) hy
  | str z=>cases b with
    | none=>cases h; exact hx.strE (P:=fun x=>EqN c A s x y _) fun _=>hy.noneE (P:=fun y=>EqN c A s _ y _) fun _ _=>⟨EqNone.eq_str_none,EqNone.ne_str_none⟩
    | str z'=>cases h; exact hx.strE (P:=fun x=>EqN c A s x y _) fun _=>hy.strE (P:=fun y=>EqN c A s _ y _) fun _ _ _=>⟨fun hq=>P.eq_str hq,fun hq=>P.ne_str hq⟩
    | _=>exact nn h
  | _=>exact nn h
theorem GT {b:Mine.V} {y:Value} {q:Int×Int} {F ρ} (h:Nw b=some q) (hy:VR c F ρ b y) (hF:∀ a o,F a o→s.heap.get? a=some o):∃ a t u,y=.ref a∧s.heap.IsTuple a #[.int q.1 t,.int q.2 u]:=by
  cases b <;> first | exact nn h | skip
  rename_i l
  match l,h with
  | [],h=>exact nn h
  | [_],h=>exact nn h
  | _ :: _ :: _ :: _,h=>exact nn h
  | [v,w],h =>
    exact Wf (P:=fun v=>VR c F ρ (.tup [v,w]) y→_) h (fun i h=>Wf (P:=fun w=>VR c F ρ (.tup [.int i,w]) y→_) h fun j h hy=>by
      cases h
      exact hy.tupE fun a o items n hf hc hd hv=>by
        have:∃ t u,items.toList=[.int i t,.int j u]:=by
          generalize items.toList=xs at hv
          exact hv.twoE fun _ _ r1 r2=>r1.intE (P:=fun x=>∃ t u,[x,_]=[Value.int i t,.int j u]) fun t=>r2.intE (P:=fun x=>∃ t' u,[Value.int i t,x]=[Value.int i t',.int j u]) fun u=>⟨t,u,rfl⟩
        obtain ⟨t,u,e⟩:=this
        exact ⟨a,t,u,rfl,⟨o,hF _ _ hf,hc,n,by rw [hd]; exact congrArg (Data.seq · n) (Array.toList_inj.mp e)⟩⟩) hy
theorem ZE9 {a b:Mine.V} {x y:Value} {q:Bool} {Q:Value→Shared→Prop} (hr:JK A r) (h:eqV σ a b=some q) (R:Rel c env g σ s) (hx:Vx c env g s a x) (hy:Vx c env g s b y) (hq:Q (.bool q) s):wpAny c.M A (compareOp .Eq x y) Q E s:=by
  cases a with
  | bool p=>cases b with
    | bool p'=>cases h; exact hx.boolE (hy.boolE (PyProof.Rows.eq_bool hq))
    | _=>exact nn h
  | tup l =>
    exact boE h fun u h1 h=>boE h fun w h2 h=>by
      cases h
      obtain ⟨a1,t1,u1,rfl,i1⟩:=GT (s:=s) h1 hx fun _ _ z=>z.1
      obtain ⟨a2,t2,u2,rfl,i2⟩:=GT (s:=s) h2 hy fun _ _ z=>z.1
      refine SeqAt.eq_tupleAt (e:=fun j=>match j with | 0=>u.1==w.1 | _=>u.2==w.2) i1 i2 hr.units (fun j h1 h2=>?_) ?_
      · cases j with
        | zero=>exact SeqAt.EqAt.int_int _ _ _ _
        | succ j =>
          cases j with
          | zero=>exact SeqAt.EqAt.int_int _ _ _ _
          | succ j=>exact absurd h1 (Nat.not_lt.mpr (Nat.le_add_left 2 j))
      · have:((List.range (min 2 2)).all (fun j=>match j with | 0=>u.1==w.1 | _=>u.2==w.2)&&(2:Nat)==2)=(u.1==w.1&&u.2==w.2):=by
          show ((u.1==w.1&&(u.2==w.2&&true))&&true)=_
          rw [Bool.and_true,Bool.and_true]
        exact this▸hq
  | list l=>exact Bk hr h R hx hy hq
  | obj i=>exact Bk hr h R hx hy hq
  | none=>exact (YZ (a:=.none) (b:=b) h hx hy E Q).1 hq
  | int i=>exact (YZ (a:=.int i) (b:=b) h hx hy E Q).1 hq
  | str z=>exact (YZ (a:=.str z) (b:=b) h hx hy E Q).1 hq
  | _=>exact nn h

theorem Yb {f:Int→Int→Bool} {a b:Mine.V} {x y:Value} {q:Bool} {F ρ} {P:Value→Value→Bool→Prop} (h:Xo f a b=some q) (hx:VR c F ρ a x) (hy:VR c F ρ b y) (k:∀ i j t u,P (.int i t) (.int j u) (f i j)):P x y q:=
  Wf (P:=fun a=>VR c F ρ a x→P x y q) h (fun i h hx=>Wf (P:=fun b=>VR c F ρ b y→P x y q) h (fun j h hy=>by cases h; exact hx.intE (P:=fun x=>P x y _) fun t=>hy.intE (P:=fun y=>P _ y _) fun u=>k i j t u) hy) hx
theorem Gz {l:List Mine.V} {a:Mine.V} {x y:Value} {q:Bool} {Q:Bool→Shared→Prop} (h:WC a l=some q) (hx:Vx c env g s a x) (hy:Vx c env g s (.tup l) y) (hq:Q q s):wpAny c.M A (PySem.contains y x) Q E s:=
  hy.tupE fun a o items n f1 c1 d1 r1=>by
    obtain ⟨e,he,e2⟩:=Oy h r1 hx
    exact TN e ⟨_,f1.1,c1,_,d1⟩ he (args_tuple_contains _ _) (e2▸hq)
theorem ZEM (a b:Nat):(!decide ((toS [b]).cps.toList < (toS [a]).cps.toList))=decide (a≤b):=by
  show (!decide ([b] < [a]))=_
  by_cases h:a≤b
  · rw [decide_eq_true h,decide_eq_false fun q=>(List.cons_lt_cons_iff.mp q).elim (fun h1=>Nat.not_lt.mpr h h1) fun h1=>absurd h1.2 (List.not_lt_nil _)]; rfl
  · rw [decide_eq_false h,decide_eq_true (List.cons_lt_cons_iff.mpr (.inl (Nat.not_le.mp h)))]; rfl
theorem ZBJ {a b:Mine.V} {x y:Value} {q:Bool} {Q:Value→Shared→Prop} (h:Ni σ a b=some q) (R:Rel c env g σ s) (hx:Vx c env g s a x) (hy:Vx c env g s b y) (hq:Q (.bool q) s):wpAny c.M A (compareOp .In x y) Q E s:=by
  cases b with
  | tup l =>
    show wpAny _ _ (do return .bool (← PySem.contains y x)) Q E s
    exact wpAny_bind (Gz h hx hy (wpAny_pure hq))
  | str z =>
    exact Qg (P:=fun a=>Vx c env g s a x→_) h (fun w h hx=>by
      cases h
      have e:=T2 z w
      unfold Txt.contains at e
      exact hx.strE (P:=fun x=>wpAny c.M A (compareOp .In x y) Q E s) fun _=>hy.strE (P:=fun y=>wpAny c.M A (compareOp .In _ y) Q E s) fun _=>PySem.P.in_str (by rw [e]; exact hq)) hx
  | obj id =>
    exact W5 (P:=fun b=>Vx c env g s b y→_) (show onList σ (.obj id) (fun _ l=>WC a l)=some q from h) (fun id l ho h hy=>hy.objE fun a ha=>by
      obtain ⟨items,n,hi,hv⟩:=Hm R ho ha
      obtain ⟨e,he,e2⟩:=Oy h hv hx
      exact SeqInW.in_listW e (fun y hy=>he y (Array.mem_toList_iff.mpr hy)) hi.isList (by rw [← Array.any_toList,e2]; exact hq)) hy
  | _=>exact nn h
theorem NG {o:Cmp} {a b:Mine.V} {x y:Value} {q:Bool} {Q:Value→Shared→Prop} (hr:JK A r) (h:QB σ o a b=some q) (R:Rel c env g σ s) (hx:Vx c env g s a x) (hy:Vx c env g s b y) (hq:Q (.bool q) s):wpAny c.M A (compareOp (JT o) x y) Q E s:=by
  cases o with
  | eq=>exact ZE9 hr h R hx hy hq
  | ne=>exact boE h fun q' h1 h2=>by cases h2; exact (YZ h1 hx hy E Q).2 hq
  | lt=>cases a with
    | str z=>exact Qg (P:=fun b=>Vx c env g s b y→_) h (fun w h hy=>by
        cases h
        exact hx.strE (P:=fun x=>wpAny c.M A (compareOp .Lt x y) Q E s) fun t=>hy.strE (P:=fun y=>wpAny c.M A (compareOp .Lt _ y) Q E s) fun u=>compareOp_gives (op:=.Lt) (typeIs_str s _ t) (typeIs_str s _ u) F.slot_str_lt F.entry_str_lt (F.args_str_lt_2 _ _) (gives_str_lt (toS z) (toS w) t u) (fun e=>nomatch e) hq) hy
    | int i=>exact Yb (a:=.int i) (P:=fun x y q=>Q (.bool q) s→wpAny c.M A (compareOp .Lt x y) Q E s) h hx hy (fun _ _ _ _=>P.lt_int) hq
    | _=>exact nn h
  | le=>cases a with
    | int i=>exact Yb (P:=fun x y q=>Q (.bool q) s→wpAny c.M A (compareOp .LtE x y) Q E s) h hx hy (fun _ _ _ _=>P.le_int) hq
    | str z =>
      exact ZN (P:=fun a=>Vx c env g s a x→_) h (fun i h hx=>ZN (P:=fun b=>Vx c env g s b y→_) h (fun j h hy=>by
        cases h
        exact hx.strE (P:=fun x=>wpAny c.M A (compareOp .LtE x y) Q E s) fun _=>hy.strE (P:=fun y=>wpAny c.M A (compareOp .LtE _ y) Q E s) fun _=>P.le_str (by rw [ZEM]; exact hq)) hy) hx
    | _=>exact nn h
  | gt=>exact Yb (P:=fun x y q=>Q (.bool q) s→wpAny c.M A (compareOp .Gt x y) Q E s) h hx hy (fun _ _ _ _=>P.gt_int) hq
  | ge=>exact Yb (P:=fun x y q=>Q (.bool q) s→wpAny c.M A (compareOp .GtE x y) Q E s) h hx hy (fun _ _ _ _=>P.ge_int) hq
  | inn=>exact ZBJ h R hx hy hq
  | nin=>cases b with
    | tup l =>
      exact boE h fun q' h1 h2=>by
        cases h2
        show wpAny _ _ (do return .bool (!(← PySem.contains y x))) Q E s
        exact wpAny_bind (Gz h1 hx hy (wpAny_pure hq))
    | _=>exact nn h
  | is=>exact wpAny_is_plain (ZJ h hx hy).1 ((ZJ h hx hy).2▸hq)
  | isn=>exact boE h fun q' h1 h2=>by cases h2; exact wpAny_isNot_plain (ZJ h1 hx hy).1 ((ZJ h1 hx hy).2▸hq)
theorem D1 {x:List Nat}:∀ {kvs:List (Str×Value)} {ks:List (List Nat)},kvs.map (·.1)=ks.map toS→(valueAt kvs (toS x)).isSome=ks.any (·==x)
  | [],[],_=>rfl
  | [],_ :: _,h=>nomatch h
  | _ :: _,[],h=>nomatch h
  | kv :: kvs,k :: ks,h=>by
    have ih:=D1 (x:=x) (List.cons.inj h).2
    unfold valueAt at ih ⊢
    have hk:kv.1=toS k:=(List.cons.inj h).1
    rw [List.find?_cons,List.any_cons,hk]
    by_cases e:k=x
    · subst e
      rw [decide_eq_true rfl,beq_self_eq_true]; rfl
    · rw [decide_eq_false fun q=>e (UW q),beq_false_of_ne e,Bool.false_or]; exact ih
theorem GH {o:Cmp} {a b:Mine.V} {x y:Value} {q:Bool} {Q:Value→Shared→Prop} (hr:JK A r) (h:Wr σ o a b=some q) (R:Rel c env g σ s) (hx:Vx c env g s a x) (hy:Vx c env g s b y) (hq:∀ t,0 < t→Q (.bool q) { s with toks:=t }):wpAny c.M A (compareOp (JT o) x y) Q E s:=by
  have old:QB σ o a b=some q→wpAny c.M A (compareOp (JT o) x y) Q E s:=fun h=>NG hr h R hx hy (hq s.toks R.pos)
  cases o with
  | inn =>
    cases b with
    | dict ks vs =>
      exact Qg (P:=fun a=>Vx c env g s a x→_) (show onStr a (fun x=>some (ks.any (·==x)))=some q from h) (fun z h hx=>by
        cases h
        exact hy.dictE fun a o kvs f d e hk hs=>hx.strE (P:=fun x=>wpAny c.M A (compareOp .In x (.ref a)) Q E s) fun t=>wpAny_in_of (k:=toS z) (knd:=strKind c.prog c.w) (beq_self_eq_true (toS z)) hs (Heap.DictOf.mapOf (Heap.dictOf_iff.mpr ⟨_,f.1,d⟩)) (by rw [D1 e]; exact hq _ (Nat.succ_pos _))) hx
    | _=>exact old h
  | _=>exact old h
end
end Mine
end
noncomputable section
open PySem PySem.Calls PyProof.Rows PySem.W
namespace Mine
section
variable {c:Cx} {r:Nat} {env:Env} {A:Around} {σ σ':St} {g:Gh} {s:Shared} {E:Value→Shared→Prop} {Q:Value→Shared→Prop} {v:Mine.V}

theorem QO (h:Heap) (o:Obj):∀ b p,h.get? b=some p→(h.push o).get? b=some p:=fun _ _ e=>Heap.get?_push_of_some _ e
theorem Vx.push {o:Obj} {t:Nat} {v:Mine.V} {x:Value} (h:Vx c env g s v x):Vx c env g { s with heap:=s.heap.push o,toks:=t } v x:=
  h.ext (Ext.grow (s':={ s with heap:=s.heap.push o,toks:=t }) (QO s.heap o) rfl)
theorem Vxs.push {o:Obj} {t:Nat} {v:List Mine.V} {x:List Value} (h:Vxs c env g s v x):Vxs c env g { s with heap:=s.heap.push o,toks:=t } v x:=
  h.ext (Ext.grow (s':={ s with heap:=s.heap.push o,toks:=t }) (QO s.heap o) rfl)
theorem Nxt.push {o:Obj} {t:Nat} {x:Value} (N:Nxt c env g s v σ Q) (R:Rel c env g σ s) (h:Vx c env g { s with heap:=s.heap.push o,toks:=t } v x) (ht:0 < t):Q x { s with heap:=s.heap.push o,toks:=t }:=
  N.grow R (s':={ s with heap:=s.heap.push o,toks:=t }) (QO s.heap o) rfl h ht
theorem Nxt.newList {l:List Mine.V} {items:Array Value} {t n:Nat} (N:Nxt c env g s (.list l) σ Q) (R:Rel c env g σ s) (h:Vxs c env g s l items.toList) (ht:0 < t) :
    Q (.ref s.heap.objs.size) { s with heap:=s.heap.push { cls:=.type "list",dict:=none,data:=.seq items n,slots:=#[] },toks:=t }:=
  N.push R (.list (WY R rfl) (Vxs.push (t:=t) h)) ht

theorem Be {a b:Mine.V} {x y:Value} (hf:(onListOf σ a fun l=>onListOf σ b fun l'=>bd (l.length + l'.length) (some (.list (l++l'))))=some v) (R:Rel c env g σ s) (hx:Vx c env g s a x) (hy:Vx c env g s b y) (N:Nxt c env g s v σ Q):wpAny c.M A (binaryOp .Add x y) Q E s:=
  UE (P:=fun x=>wpAny c.M A (binaryOp .Add x y) Q E s) R hf hx fun l a1 i1 n1 h hi1 hv1=>UE (P:=fun y=>wpAny c.M A (binaryOp .Add _ y) Q E s) R h hy fun l' a2 i2 n2 h hi2 hv2=>bdE h fun hl e=>by
    cases e
    exact P.add_list hi1 hi2 (N.newList R (by rw [Array.toList_append]; exact hv1.append hv2) R.pos) (by rw [Jg hv1,Jg hv2]; exact hl)
theorem ZFb:Wt c env r (binaryOp .Add) (fun σ=>Jo σ .add):=fun A σ a b v g s x y E Q hr hf R hx hy N=>by
  cases a with
  | int i=>exact QE (P:=fun b=>Vx c env g s b y→_) (show onInt b (fun b=>some (V.int (i + b)))=some v from hf) (fun j h hy=>by cases h; exact hx.intE fun t=>hy.intE fun u=>P.add_int (N.toks R (.int _ _))) hy
  | str z =>
    exact Qg (P:=fun b=>Vx c env g s b y→_) (show onStr b (fun b=>bd (z.length + b.length) (some (V.str (z++b))))=some v from hf) (fun w h hy=>bdE h fun hl e=>by
      cases e
      exact hx.strE fun t=>hy.strE fun u=>QW R.pos (add_str (fun t' tk ht=>YC z w▸N.toks R (.str _ _) ht) (by rw [Jj,Jj]; exact hl))) hy
  | list l=>exact Be (a:=.list l) (b:=b) (σ:=σ) hf R hx hy N
  | obj i=>exact Be (a:=.obj i) (b:=b) (σ:=σ) hf R hx hy N
  | _=>exact nn hf
theorem XU {β:Type} {rr:β} {a b:Mine.V} {x y:Value} {f:Int→Int→Option β} {P:Value→Value→Prop} {F ρ} (h:(onInt a fun a=>onInt b fun b=>f a b)=some rr) (hx:VR c F ρ a x) (hy:VR c F ρ b y) (k:∀ i j t u,f i j=some rr→P (.int i t) (.int j u)):P x y:=
  QE (P:=fun a=>VR c F ρ a x→P x y) h (fun i h hx=>QE (P:=fun b=>VR c F ρ b y→P x y) h (fun j h hy=>hx.intE (P:=fun x=>P x y) fun t=>hy.intE (P:=fun y=>P _ y) fun u=>k i j t u h) hy) hx
theorem ZB1:Wt c env r (binaryOp .Sub) (fun σ=>Jo σ .sub):=fun A σ a b v g s x y E Q hr hf R hx hy N =>
  XU (P:=fun x y=>wpAny c.M A (binaryOp .Sub x y) Q E s) (a:=a) (b:=b) (f:=fun a b=>some (V.int (a - b))) hf hx hy fun i j t u e=>by cases e; exact P.sub_int (N.toks R (.int _ _))
theorem ZEI:Wt c env r (binaryOp .Mod) (fun σ=>Jo σ .mod):=fun A σ a b v g s x y E Q hr hf R hx hy N =>
  XU (P:=fun x y=>wpAny c.M A (binaryOp .Mod x y) Q E s) (a:=a) (b:=b) (f:=fun a b=>gd (decide (0 < b)) (some (V.int (a % b)))) hf hx hy fun i j t u e=>gdE e fun h e=>by
    cases e
    have h:=of_decide_eq_true h
    exact mod_int' (Ne.symm (Int.ne_of_lt h)) (Int.fmod_eq_emod_of_nonneg i (Int.le_of_lt h)▸N.toks R (.int _ _))
theorem ZFc {b:Int} (h:b≤1000) (h0:0 < b):b.natAbs < 1073741824:=Int.ofNat_lt.mp ((Int.natAbs_of_nonneg (Int.le_of_lt h0)).symm▸Int.lt_of_le_of_lt h (by decide))
theorem ZCj:Wt c env r (binaryOp .FloorDiv) (fun σ=>Jo σ .fdiv):=fun A σ a b v g s x y E Q hr hf R hx hy N =>
  XU (P:=fun x y=>wpAny c.M A (binaryOp .FloorDiv x y) Q E s) (a:=a) (b:=b) (f:=fun a b=>gd (decide (0 < b)&&decide (b≤1000)) (some (V.int (a / b)))) hf hx hy fun i j t u e=>gdE e fun h e=>bA h fun h h2=>by
    cases e
    have h:=of_decide_eq_true h
    exact floordiv_int (Ne.symm (Int.ne_of_lt h)) (Int.fdiv_eq_ediv_of_nonneg i (Int.le_of_lt h)▸N.toks R (.int _ _)) (.inl (PyProof.noPylong_small (ZFc (of_decide_eq_true h2) h)))
theorem ZEG {i:Int} {x:Value} (R:Rel c env g σ s) (hx:Vx c env g s (.int i) x) (N:Nxt c env g s (.int (-i)) σ Q):wpAny c.M A (unaryOp .USub x) Q E s:=hx.intE fun t=>P.neg_int (N.toks R (.int _ _))

theorem U0 {value slice:Expr} {o i:Value} {T id:String} (hT:s.TypeIs o T) (hl:typeLookup (.type T) "__getitem__"=pure (some (.builtin id)))
    (hg:wpAny c.M A (getItem o i) Q E s):wpAny c.M A (subscriptTail value slice o i) Q E s:=by
  have h:∃ ops,subscripted slice false o i=operate ops (getItem o i):=by
    cases slice <;> first | exact ⟨_,rfl⟩ | skip
    rename_i a b st p
    cases st <;> exact ⟨_,rfl⟩
  obtain ⟨ops,h⟩:=h
  exact tail_any hT hl hg h

theorem ZH {n:Nat} {i:Int} {j:Nat} (h:Qn n i=some j) (hb:(n:Int) < 2 ^ 63):(-(2 ^ 63)≤i∧i < 2 ^ 63)∧((0≤i∧i.toNat=j)∨(i < 0∧-(n:Int)≤i∧(i + n).toNat=j)):=by
  unfold Qn seqIndex? at h
  dsimp only at h
  by_cases hi:i < 0
  · rw [if_pos hi] at h
    by_cases q:(decide (0≤i + n)&&decide (i + n < n))=true
    · rw [if_pos q] at h
      cases h
      exact bA q fun q1 q2=>by
        have q1:=of_decide_eq_true q1
        exact ⟨⟨by omega,by omega⟩,.inr ⟨hi,by omega,rfl⟩⟩
    · rw [if_neg q] at h; exact nn h
  · rw [if_neg hi] at h
    by_cases q:(decide (0≤i)&&decide (i < n))=true
    · rw [if_pos q] at h
      cases h
      exact bA q fun q1 q2=>by
        have q2:=of_decide_eq_true q2
        exact ⟨⟨by omega,by omega⟩,.inl ⟨Int.not_lt.mp hi,rfl⟩⟩
    · rw [if_neg q] at h; exact nn h
theorem Oa {a:Addr} {items:Array Value} {n:Nat} {i:Int} {t:Tok} {j:Nat} {x:Value} (hi:IsL s.heap a items n) (hb:items.size≤sizeLine) (hj:Qn items.size i=some j)
    (hx:items[j]?=some x) (h:Q x s):wpAny c.M A (getItem (.ref a) (.int i t)) Q E s:=by
  obtain ⟨⟨h1,h2⟩,h3⟩:=ZH hj (Uf hb)
  exact h3.elim (fun h3=>wpAny_getItem_list hi.isList h3.1 h2 (h3.2▸hx) h) fun h3=>wpAny_getItem_list_neg hi.isList h3.1 h3.2.1 h1 (h3.2.2▸hx) h

theorem BO {v:Mine.V} {x:List Nat} {F ρ}:∀ {kvs:List (Str×Value)} {ks:List (List Nat)} {vs:List Mine.V},kvs.map (·.1)=ks.map toS→VRs c F ρ vs (kvs.map (·.2))→Qj ks vs x=some v→∃ y,valueAt kvs (toS x)=some y∧VR c F ρ v y
  | _,[],_,_,_,h=>nn h
  | _,_ :: _,[],_,_,h=>nn h
  | [],_ :: _,_ :: _,hk,_,_=>nomatch hk
  | kv :: kvs,k :: ks,w :: vs,hk,hv,h=>by
    have k1:kv.1=toS k:=(List.cons.inj hk).1
    unfold valueAt
    rw [List.find?_cons,k1]
    have h:(if k=x then some w else Qj ks vs x)=some v:=h
    cases hv with
    | cons a b =>
      by_cases e:k=x
      · rw [if_pos e] at h
        rw [e,decide_eq_true rfl]
        cases h
        exact ⟨kv.2,rfl,a⟩
      · rw [if_neg e] at h
        rw [decide_eq_false fun q=>e (UW q)]
        exact BO (List.cons.inj hk).2 b h
theorem Oe {value slice:Expr} {l:List Mine.V} {b:Mine.V} {a:Addr} {items:Array Value} {n:Nat} {y:Value} (hf:UL l b=some v) (R:Rel c env g σ s) (hi:IsL s.heap a items n) (hv:Vxs c env g s l items.toList) (hy:Vx c env g s b y) (N:Nxt c env g s v σ Q) :
    wpAny c.M A (subscriptTail value slice (.ref a) y) Q E s:=
  QE (P:=fun b=>Vx c env g s b y→_) hf (fun i h hy=>bdE h fun hb h=>boE h fun j hj e=>hy.intE fun t=>by
    obtain ⟨x,hx,rx⟩:=hv.get e
    have hs:=Jg hv
    exact U0 hi.isList.typeIs slot_list_getitem.lookup (Oa hi (by rw [hs]; exact hb) (by rw [hs]; exact hj) (by rw [← Array.getElem?_toList]; exact hx) (N.same R rx))) hy
theorem Zj {kvs:List (Str×Value)} {ks:List (List Nat)} {vs:List Mine.V} {b:Mine.V} {a:Addr} {y:Value} (hf:(onStr b fun x=>Qj ks vs x)=some v) (R:Rel c env g σ s) (D:s.heap.DictOf (strKind c.prog c.w) a kvs) (k1:kvs.map (·.1)=ks.map toS) (r1:Vxs c env g s vs (kvs.map (·.2))) (hy:Vx c env g s b y)
    (N:Nxt c env g s v σ Q):wpAny c.M A (getItem (.ref a) y) Q E s:=
  Qg (P:=fun b=>Vx c env g s b y→_) hf (fun x' h hy=>hy.strE fun t=>by
    obtain ⟨y,hy,ry⟩:=BO k1 r1 h
    exact wpAny_getItem_of (k:=toS x') (beq_self_eq_true (toS x')) D.mapOf hy (N.toks R ry)) hy
theorem ZBz {value slice:Expr} {l:List Mine.V} {b:Mine.V} {x y:Value} (hf:UL l b=some v) (R:Rel c env g σ s) (hx:Vx c env g s (.tup l) x) (hy:Vx c env g s b y) (N:Nxt c env g s v σ Q):wpAny c.M A (subscriptTail value slice x y) Q E s:=
  QE (P:=fun b=>Vx c env g s b y→_) hf (fun i h hy=>bdE h fun hb h=>boE h fun j hj e=>hy.intE fun t=>hx.tupE fun a o items n f1 c1 d1 r1=>by
    obtain ⟨x,hx,rx⟩:=r1.get e
    have hs:=Jg r1
    have T:IsTup s.heap _ _:=⟨_,f1.1,c1,_,d1⟩
    have h1:=(ZH hj (Uf hb)).1
    exact U0 T.typeIs slot_tuple_getitem.lookup (getItem_tuple T h1.1 h1.2 (by rw [hs]; exact hj) (by rw [← Array.getElem?_toList]; exact hx) (N.same R rx))) hy
theorem ZB0 {value slice:Expr} {w:List Nat} {b:Mine.V} {x y:Value} (hf:QR σ (.str w) b=some v) (R:Rel c env g σ s) (hx:Vx c env g s (.str w) x) (hy:Vx c env g s b y) (N:Nxt c env g s v σ Q):wpAny c.M A (subscriptTail value slice x y) Q E s:=
  QE (P:=fun b=>Vx c env g s b y→_) (show onInt b (fun i=>bd w.length (bo (Qn w.length i) fun j=>bo w[j]? fun d=>some (V.str [d])))=some v from hf) (fun i h hy=>bdE h fun hb h=>boE h fun j hj h=>boE h fun d hd e=>by
    cases e
    have h1:=(ZH hj (Uf hb)).1
    refine hx.strE fun t=>hy.intE fun u=>U0 (typeIs_str _ _ _) F.slot_str_getitem.lookup (getItem_str (c:=d) ?_ ?_ (N.toks R (.str [d] _)))
    · rw [decide_eq_false (Int.not_lt.mpr h1.1),decide_eq_false (Int.not_le.mpr h1.2)]; rfl
    · rw [Jj]
      show (Qn w.length i).bind _=_
      rw [hj]
      show w.toArray[j]?=_
      rw [List.getElem?_toArray]; exact hd) hy
theorem ZDf {value slice:Expr} {a b:Mine.V} {x y:Value} (hf:QR σ a b=some v) (R:Rel c env g σ s) (hx:Vx c env g s a x) (hy:Vx c env g s b y) (N:Nxt c env g s v σ Q) :
    wpAny c.M A (subscriptTail value slice x y) Q E s:=by
  cases a with
  | str w=>exact ZB0 hf R hx hy N
  | tup l=>exact ZBz hf R hx hy N
  | list l=>exact hx.listE fun a items n f1 r1=>Oe hf R f1.1 r1 hy N
  | dict ks vs =>
    exact hx.dictE fun a o kvs f1 d1 k1 r1 s1=>by
      have D:s.heap.DictOf (strKind c.prog c.w) a kvs:=Heap.dictOf_iff.mpr ⟨_,f1.1,d1⟩
      exact U0 D.typeIs slot_dict_getitem.lookup (Zj hf R D k1 r1 hy N)
  | obj id =>
    exact boE (show bo (JA σ.hp id) _=some v from hf) fun o ho h=>hx.objE fun a ha=>by
      obtain ⟨q,hc,H⟩:=U2 R ho ha
      cases o with
      | list l=>obtain ⟨-,items,n,hi,hv⟩:=H; exact Oe h R hi hv hy N
      | dict ks vs=>obtain ⟨-,-,kvs,D,k1,r1⟩:=H; exact U0 D.typeIs slot_dict_getitem.lookup (Zj h R D k1 r1 hy N)
      | inst _ _=>exact nn h
  | _=>exact nn hf
theorem ZEq {e i:Expr} {C:Ora} {me mi:ME} {pos} (H:JD c r env e (ev C me)) (H2:JD c r env i (ev C mi)):JD c r env (.Subscript e i pos) (ev C (.sub me mi)):=fun _ _ _ _ _ _ _ _ hr hf R N=>bnE hf fun a σ₁ h1 h=>bnE h fun b σ₂ h3 h=>boE h fun w h5 h6 =>
  Subscript_ (H hr h1 R fun x s₁ g₁ R₁ X₁ E₁=>H2 hr h3 R₁ fun y s₂ g₂ R₂ X₂ E₂=>ZDf h5 R₂ (X₁.ext E₂) X₂ ((N.of h6).trans (E₁.trans E₂)))
end
end Mine
end
noncomputable section
open PySem PySem.Calls PyProof.Rows PySem.W
namespace Mine
section
variable {c:Cx} {r:Nat} {env:Env} {A:Around} {σ σ':St} {g:Gh} {s:Shared} {E:Value→Shared→Prop} {Q:Value→Shared→Prop} {v:Mine.V}
noncomputable def ixV:Mine.V→Option Int
  | .int i=>some i
  | _=>none
theorem O6 (n:Nat) (i:Int):max 0 (min (if i < 0 then i + n else i) (n:Int))=(clampIx n i:Int):=(Int.toNat_of_nonneg (Int.le_max_left 0 _)).symm
theorem T4 (n:Nat) (i:Int):clampIx n i≤n:=Int.toNat_le.mpr (Int.max_le.mpr ⟨Int.natCast_nonneg n,Int.min_le_right _ _⟩)
theorem GE {α:Type} (xs:Array α) (a b:Nat):((List.range (b - a)).map (a + ·)).filterMap (xs[·]?)=cut xs.toList a b:=by
  rw [pick_run,← List.drop_take]; rfl
noncomputable def BdV (a:Mine.V):Prop:=a=.none∨∃ i,a=.int i
theorem Hl {n i:Nat} {a:Mine.V} (h:UP n a=some i):BdV a:=by
  cases a <;> first | exact .inl rfl | exact .inr ⟨_,rfl⟩ | exact nn h
theorem H6 {n i:Nat} {a:Mine.V} (h:Q6 n a=some i):BdV a:=by
  cases a <;> first | exact .inl rfl | exact .inr ⟨_,rfl⟩ | exact nn h
theorem Gq {n i:Nat} {a:Mine.V} (h:UP n a=some i):(match ixV a with | some i=>max 0 (min (if i < 0 then i + n else i) (n:Int)) | none=>0)=(i:Int):=by
  cases a <;> first | exact nn h | (cases h; first | rfl | exact O6 _ _)
theorem G1 {n i:Nat} {a:Mine.V} (h:Q6 n a=some i):(match ixV a with | some i=>max 0 (min (if i < 0 then i + n else i) (n:Int)) | none=>(n:Int))=(i:Int):=by
  cases a <;> first | exact nn h | (cases h; first | rfl | exact O6 _ _)
theorem DE {n i j:Nat} {a b:Mine.V} (h1:UP n a=some i) (h2:Q6 n b=some j):sliceBounds (ixV a) (ixV b) none n=((i:Int),(j:Int),1)∧Builtin.Str.strSliceIndices (ixV a) (ixV b) 1 n=sliceRange i j 1:=by
  constructor
  · show ((match ixV a with | none=>0 | some i=>max 0 (min (if i < 0 then i + n else i) (n:Int))),(match ixV b with | none=>(n:Int) | some i=>max 0 (min (if i < 0 then i + n else i) (n:Int))),(1:Int))=_
    have e1:=Gq h1
    have e2:=G1 h2
    rw [← e1,← e2]
    cases ixV a <;> cases ixV b <;> rfl
  · show sliceRange (match ixV a with | none=>0 | some i=>max 0 (min (if i < 0 then i + n else i) (n:Int))) (match ixV b with | none=>(n:Int) | some i=>max 0 (min (if i < 0 then i + n else i) (n:Int))) 1=_
    have e1:=Gq h1
    have e2:=G1 h2
    rw [← e1,← e2]
    cases ixV a <;> cases ixV b <;> rfl
theorem TX {items:Array Value} {i j:Nat} {a b:Mine.V} (h1:UP items.size a=some i) (h2:Q6 items.size b=some j):(slicePick items (ixV a) (ixV b) none).toList=cut items.toList i j:=by
  unfold slicePick
  rw [(DE h1 h2).1]
  show ((sliceRange i j 1).filterMap (items[·]?))=_
  rw [sliceRange_one]; exact GE items i j
theorem ZGh {n j:Nat} {b:Mine.V} (h2:Q6 n b=some j):j≤n:=by
  cases b <;> first | exact nn h2 | skip
  · cases h2; exact Nat.le_refl _
  · cases h2; exact T4 _ _
theorem ZFP {l i j:Nat} (h:j - i=l) (hj:j≤l):(i=0∧j=l)∨l=0:=by
  cases i with
  | zero=>exact .inl ⟨rfl,h⟩
  | succ i =>
    cases j with
    | zero=>exact .inr (h.symm.trans (Nat.zero_sub _))
    | succ j=>exact absurd (Nat.le_trans hj (h▸(Nat.succ_sub_succ j i).symm▸Nat.sub_le j i)) (Nat.not_succ_le_self j)
theorem ZBb {α:Type} {l:List α} {i j:Nat} (h:(sliceRange i j 1).length=l.length) (hj:j≤l.length):cut l i j=l:=by
  rw [sliceRange_one,List.length_map,List.length_range] at h
  unfold cut
  rcases ZFP h hj with ⟨rfl,rfl⟩ | h0
  · exact List.take_length
  · rw [List.length_eq_zero_iff.mp h0,List.take_nil,List.drop_nil]
theorem ZAV {w:List Nat} {i j:Nat} {a b:Mine.V} (h1:UP w.length a=some i) (h2:Q6 w.length b=some j):Txt.slice (toS w) (ixV a) (ixV b)=toS (cut w i j):=by
  unfold Txt.slice
  rw [Jj,(DE h1 h2).2]
  split
  · rename_i h
    exact bA h fun _ h=>by rw [ZBb (bE h) (ZGh h2)]
  · rw [sliceRange_one]
    exact congrArg (fun l=>Str.mk (List.toArray l)) (GE w.toArray i j)
theorem ZDK {F ρ} {l:List Mine.V} {xs:List Value} (h:VRs c F ρ l xs) (i j:Nat):VRs c F ρ (cut l i j) (cut xs i j):=(h.take j).drop i

noncomputable def Xs (c:Cx) (r:Nat) (env:Env) (e:Option Expr) (f:St→Option (Mine.V×St)):Prop:=
  ∀ ⦃A:Around⦄ ⦃σ:St⦄ ⦃v:Mine.V⦄ ⦃σ':St⦄ ⦃g:Gh⦄ ⦃s:Shared⦄ ⦃E:Value→Shared→Prop⦄ ⦃Q:Value→Shared→Prop⦄,
    JK A r→f σ=some (v,σ')→Rel c env g σ s→Nxt c env g s v σ' Q→wpAny c.M A (evalPart e env) Q E s
theorem ZDQ:Xs c r env none (fun σ=>some (.none,σ)):=fun _ _ _ _ _ _ _ _ _ hf R N=>evalPart_none_step ((N.of hf).same R .none)
theorem ZBj {e:Expr} {f} (H:JD c r env e f):Xs c r env (some e) f:=fun _ _ _ _ _ _ _ _ hr hf R N=>evalPart_some_step (H hr hf R N)

theorem YR {a:Mine.V} {x:Value} {F ρ} (h:BdV a) (hx:VR c F ρ a x):IsPart x (ixV a)∧∃ p:Option (Int×Tok),partValue p=x∧p.map (·.1)=ixV a:=by
  rcases h with rfl | ⟨i,rfl⟩
  · exact hx.noneE ⟨.none,none,rfl,rfl⟩
  · exact hx.intE (P:=fun x=>IsPart x (some i)∧∃ p:Option (Int×Tok),partValue p=x∧p.map (·.1)=some i) fun t=>⟨.int _ _,some (i,t),rfl,rfl⟩

noncomputable def slO (y z:Value):Obj:={ cls:=.type "slice",data:=.fields #[y,z,.none] }
theorem DU {value slice:Expr} {o a b:Mine.V} {x y z:Value} (hf:(onListOf σ o fun l=>bd l.length (bo (UP l.length a) fun i=>bo (Q6 l.length b) fun j=>some (.list (cut l i j))))=some v) (R:Rel c env g σ s) (hx:Vx c env g s o x) (hy:Vx c env g s a y) (hz:Vx c env g s b z)
    (N:Nxt c env g s v σ Q):wpAny c.M A (subscriptTail value slice x (.ref s.heap.objs.size)) Q E { s with heap:=s.heap.push (slO y z) }:=
  UE (P:=fun x=>wpAny c.M A (subscriptTail value slice x (.ref s.heap.objs.size)) Q E { s with heap:=s.heap.push (slO y z) }) (R.grow (s':={ s with heap:=s.heap.push (slO y z) }) (QO _ _) R.pos) hf (Vx.push hx) fun l a1 i1 n1 h hi1 hv1=>bdE h fun hb h=>boE h fun i hi h=>boE h fun j hj e=>by
    cases e
    have hs:=Jg hv1
    rw [← hs] at hi hj
    refine U0 (Heap.IsList.typeIs (s:={ s with heap:=s.heap.push (slO y z) }) hi1.isList) slot_list_getitem.lookup (wpAny_getItem_list_slice hi1.isList (Heap.IsSliceOf.new ..) (YR (Hl hi) hy).1 (YR (H6 hj) hz).1 .none (fun h=>nomatch h) ?_ (by rw [hs]; exact hb))
    exact Nxt.newList (s:={ s with heap:=s.heap.push (slO y z) }) (N.trans (.grow (QO _ _) rfl)) (R.grow (QO _ _) R.pos) (by rw [TX hi hj]; exact ZDK hv1 i j) R.pos
theorem ZFo {value slice:Expr} {o a b:Mine.V} {x y z:Value} (hf:slV σ o a b=some v) (R:Rel c env g σ s) (hx:Vx c env g s o x) (hy:Vx c env g s a y) (hz:Vx c env g s b z) (N:Nxt c env g s v σ Q) :
    wpAny c.M A (subscriptTail value slice x (.ref s.heap.objs.size)) Q E { s with heap:=s.heap.push (slO y z) }:=by
  cases o with
  | str w =>
    refine bdE (show bd w.length (bo (UP w.length a) fun i=>bo (Q6 w.length b) fun j=>some (V.str (cut w i j)))=some v from hf) fun hb h=>boE h fun i hi h=>boE h fun j hj e=>?_
    cases e
    obtain ⟨-,l1,q1,q2⟩:=YR (Hl hi) hy
    obtain ⟨-,l2,q3,q4⟩:=YR (H6 hj) hz
    refine hx.strE (P:=fun x=>wpAny c.M A (subscriptTail value slice x (.ref s.heap.objs.size)) Q E { s with heap:=s.heap.push (slO y z) }) fun t=>U0 (typeIs_str _ _ _) F.slot_str_getitem.lookup (QW R.pos (wpAny_getItem_str_slice (l:=l1) (u:=l2) (st:=none) ⟨_,Heap.get?_push_size _ rfl,rfl,by rw [q1,q3]; rfl⟩ rfl
      (post_val_or_str ⟨Nat.le_trans (Txt.slice_le _ _ _) (by rw [Jj]; exact hb),fun t' k ht=>?_⟩)))
    show Q (.str (Txt.slice (toS w) (l1.map (·.1)) (l2.map (·.1))) t') _
    rw [q2,q4,ZAV hi hj]
    exact (N.trans (.grow (s':={ s with heap:=s.heap.push (slO y z) }) (QO _ _) rfl)).toks (R.grow (s':={ s with heap:=s.heap.push (slO y z) }) (QO _ _) R.pos) (.str _ _) ht
  | list l=>exact DU (σ:=σ) (o:=.list l) (a:=a) (b:=b) hf R hx hy hz N
  | obj i=>exact DU (σ:=σ) (o:=.obj i) (a:=a) (b:=b) hf R hx hy hz N
  | _=>exact nn hf

theorem ZGk {e:Expr} {lo hi:Option Expr} {C:Ora} {me ml mh:ME} {p pos} (H:JD c r env e (ev C me)) (H2:Xs c r env lo (ev C ml)) (H3:Xs c r env hi (ev C mh)) :
    JD c r env (.Subscript e (.Slice lo hi none p) pos) (ev C (.sl me ml mh)):=fun _ _ _ _ _ _ _ _ hr hf R N=>bnE hf fun o σ₁ h1 h=>bnE h fun a σ₂ h3 h=>bnE h fun b σ₃ h5 h=>boE h fun w h7 h8 =>
  Subscript_ (H hr h1 R fun x s₁ g₁ R₁ X₁ E₁=>wpAny_Slice (H2 hr h3 R₁ fun y s₂ g₂ R₂ X₂ E₂=>H3 hr h5 R₂ fun z s₃ g₃ R₃ X₃ E₃=>evalPart_none_step
    (ZFo h7 R₃ (X₁.ext (E₂.trans E₃)) (X₂.ext E₃) X₃ ((N.of h8).trans (E₁.trans (E₂.trans E₃))))))
end
end Mine
end
noncomputable section
open PySem PySem.Calls PyProof.Rows PySem.W
namespace Mine
theorem QD {α β:Type} [DecidableEq α] (x y:α) (v:β):∀ (l:List (α×β)),JA (put l x v) y=if x=y then some v else JA l y
  | []=>rfl
  | (a,b) :: l=>by
    rw [NY]
    by_cases h:a=x
    · rw [if_pos h,Q1,Q1]
      by_cases h2:x=y
      · rw [if_pos (h.trans h2),if_pos h2]
      · rw [if_neg fun q=>h2 (h.symm.trans q),if_neg h2,if_neg fun q=>h2 (h.symm.trans q)]
    · rw [if_neg h,Q1,Q1,QD x y v l]
      by_cases h2:a=y
      · rw [if_pos h2,if_neg fun q=>h (h2.trans q.symm),if_pos h2]
      · rw [if_neg h2,if_neg h2]
section
variable {c:Cx} {r:Nat} {env:Env} {A:Around} {σ σ':St} {g:Gh} {s:Shared} {E:Value→Shared→Prop} {Q:Value→Shared→Prop} {v:Mine.V}

structure Keep (env:Env) (D:Addr→Prop) (h h':Heap):Prop where
  k:∀ b p,¬ D b→b≠env.locals→h.get? b=some p→h'.get? b=some p
  ns:∀ m,h.Ns env.locals m→h'.Ns env.locals m
theorem Keep.of {D:Addr→Prop} {h h':Heap} (hs:∀ b p,¬ D b→h.get? b=some p→h'.get? b=some p) (hd:¬ D env.locals):Keep env D h h':=⟨fun b p z _=>hs b p z,fun m hm=>hm.at fun p e=>hs _ _ hd e⟩
theorem Keep.grown {D:Addr→Prop} {h h':Heap} (hs:∀ b p,h.get? b=some p→h'.get? b=some p):Keep env D h h':=⟨fun b p _ _=>hs b p,fun m hm=>hm.at fun p e=>hs _ _ e⟩
theorem Keep.of_ns {D:Addr→Prop} {h h':Heap} {m:Str→Option Value} (hs:∀ b p,¬ D b→b≠env.locals→h.get? b=some p→h'.get? b=some p) (h1:h.Ns env.locals m) (h2:h'.Ns env.locals m):Keep env D h h':=
  ⟨hs,fun m' hm=>(funext fun n=>hm.agree h1 n:m'=m)▸h2⟩
theorem Keep.alive {D:Addr→Prop} {h h':Heap} (K:Keep env D h h') {m:Str→Option Value} (hm:h.Ns env.locals m) (hD:∀ a,D a→∃ p,h'.get? a=some p) (a:Addr) (e:∃ p,h.get? a=some p):∃ p,h'.get? a=some p:=
  e.elim fun p z=>Classical.byCases (fun d:D a=>hD a d) fun d=>Classical.byCases (fun q:a=env.locals=>q▸nsO (K.ns m hm)) fun q=>⟨p,K.k _ _ d q z⟩
theorem Rel0.setOb {h h':Heap} (R:Rel0 c env g σ h) {id:Id} {ob':Ob} {q o:Addr} (hc:g.cs id=some (q,o)) (K:Keep env (·=o) h h') (he:∃ p,h'.get? o=some p)
    (hob:(∀ a p,Fz env g h a p→Fz env g h' a p)→ObR c env g h' ob' q o):Rel0 c env g (σ.setOb id ob') h':=by
  have hW:=R.cW _ _ _ hc
  have kF:∀ a p,Fz env g h a p→Fz env g h' a p:=fun a p z=>⟨K.k _ _ (fun e=>z.2.1 (e▸hW)) (fun e=>z.2.2.2 e) z.1,z.2⟩
  obtain ⟨m,hm,hl⟩:=R.loc
  have al:=K.alive hm fun a e=>e▸he
  refine ⟨fun a o e=>kF _ _ (R.kin a o e),fun a e=>al a (R.wob a e),fun a e=>al a (R.xob a e),fun a e=>al a (R.fob a e),R.dis,⟨m,K.ns m hm,hl.mono kF fun _ _ z=>z⟩,fun id' ob e=>?_,R.cW,R.inj,R.nx,R.ps⟩
  rw [St.setOb,QD] at e
  by_cases hid:id=id'
  · rw [if_pos hid] at e
    cases e
    exact ⟨q,o,hid▸hc,hob kF⟩
  · rw [if_neg hid] at e
    exact (R.obs id' ob e).imp fun r'=>Exists.imp fun o' z=>⟨z.1,z.2.mono kF (fun _ _ z=>z) fun p=>K.k _ _ (fun e2=>hid (R.inj id id' q o r' hc (e2▸z.1))) fun e=>(R.dis _ (R.cW _ _ _ z.1)).2 e⟩
theorem Ext.setOb {s':Shared} {o:Addr} (hW:g.W o) (K:Keep env (·=o) s.heap s'.heap) (hg:gos s'=gos s):Ext env g g s s':=
  ⟨fun a p h hw hf=>⟨K.k _ _ (fun e=>hw (e▸hW)) (fun e=>hf e) h,hw⟩,fun _ _ h=>h,rfl,hg⟩

theorem UU {id:Id} {l:List Mine.V} {a:Addr} (R:Rel c env g σ s) (ho:JA σ.hp id=some (.list l)) (ha:g.rho id=some a) :
    ∃ items n,g.cs id=some (a,a)∧IsL s.heap a items n∧Vxs c env g s l items.toList:=by
  obtain ⟨o,hc,rfl,items,n,hi,hv⟩:=U2 R ho ha
  exact ⟨items,n,hc,hi,hv⟩
theorem YP {id:Id} {l':List Mine.V} {a:Addr} {items:Array Value} {n:Nat} {f:Array Value→Array Value} (R:Rel c env g σ s) (hc:g.cs id=some (a,a)) (hi:IsL s.heap a items n)
    (hv:Vxs c env g s l' (f items).toList) :
    Rel c env g (σ.setOb id (.list l')) { s with heap:=s.heap.update a (Obj.mapSeq f) }∧Ext env g g s { s with heap:=s.heap.update a (Obj.mapSeq f) }:=by
  have hi':IsL (s.heap.update a (Obj.mapSeq f)) a (f items) (if (f items).size==items.size then n else n + 1):=Heap.get?_update_self (Obj.mapSeq f) hi rfl
  have K:Keep env (·=a) s.heap (s.heap.update a (Obj.mapSeq f)):=.of (fun b p e h=>(Heap.get?_update_other _ _ (Ne.symm e)).trans h) fun e=>(R.dis a (R.cW _ _ _ hc)).2 e.symm
  exact ⟨⟨R.toRel0.setOb hc K ⟨_,hi'⟩ fun k=>⟨rfl,f items,_,hi',hv.mono k fun _ _ z=>z⟩,R.pos⟩,Ext.setOb (R.cW _ _ _ hc) K rfl⟩

noncomputable def Ik:BI→String
  | .len=>"len" | .ord=>"ord" | .chr=>"chr" | .sum=>"sum" | .max=>"max" | .range=>"range"
noncomputable def Qb (c:Cx) (x:Str) (v:Value):Bool:=(nsIn c.K mainGlobals x==some none)&&Xa.any fun p=>p.1==x&&p.2==v
theorem Wu (O:c.Ok) (VV:EnvOk env) {x:Str} {v:Value} (h:Qb c x v=true) (R:Rel c env g σ s) (hq:Q v s):wpAny c.M A (loadGlobal env x) Q E s:=bA h fun h1 h=>by
  obtain ⟨p,hp,h⟩:=List.any_eq_true.mp h
  refine bA h fun h2 h3=>?_
  have e1:nsIn c.K env.globals x=some none:=VV.glob▸bE h1
  have e2:nsIn c.K env.builtins x=some (some v):=by rw [VV.blt,← bE h2,← bE h3]; exact O.bi p hp
  unfold loadGlobal
  refine wpAny_bind ((looks_nsIn R.kinD e1).here ?_)
  exact wpAny_bind ((looks_nsIn R.kinD e2).here (wpAny_pure hq))
theorem Wx {l:List Expr} {env:Env}:(l.map fun e=>(false,eval e env)).any (·.1)=false:=by
  rw [List.any_map,List.any_eq_false]
  exact fun x _ h=>ff h

noncomputable def Qs (c:Cx) (env:Env) (op:List Value→Sem Value) (f:St→List Mine.V→Option Mine.V):Prop:=
  ∀ ⦃A:Around⦄ ⦃σ:St⦄ ⦃a:List Mine.V⦄ ⦃v:Mine.V⦄ ⦃g:Gh⦄ ⦃s:Shared⦄ ⦃x:List Value⦄ ⦃E:Value→Shared→Prop⦄ ⦃Q:Value→Shared→Prop⦄,
    f σ a=some v→Rel c env g σ s→Vxs c env g s a x→Nxt c env g s v σ Q→wpAny c.M A (op x) Q E s
theorem Nk (O:c.Ok) (VV:EnvOk env) {x:Str} {es:List Expr} {C:Ora} {mes:List ME} {b:BI} {np pos} (hs:es.all Jb=true) (hk:env.kindOf x=some .globalImplicit) (hx:(x==("__debug__":Str))=false)
    (hd:Qb c x (.builtin (Ik b))=true) (hop:Qs c env (fun xs=>call (.builtin (Ik b)) xs []) (fun σ=>biV σ b)) (H2:Jx c r env es (evs C mes)) :
    JD c r env (.Call (.Name x np) es [] pos) (ev C (.bi b mes)):=fun _ _ _ _ _ _ _ _ hr hf R N=>bnE hf fun vs σ₁ h1 h=>boE h fun w h3 h4=>by
  rw [arm_eval_Call_Name',UA hs]
  exact wpAny_bind (Name_function_global VV.kind hk (Wu O VV hd R (callWith_builtin Wx (UB (H2 hr h1 R fun xs s₁ g₁ R₁ X₁ E₁=>hop h3 R₁ X₁ ((N.of h4).trans E₁))))) hx)

theorem G7 {β:Type} {rr:β} {f:Bool→Option β} {P:Mine.V→Prop} (h:bo (Ul v) f=some rr) (k:∀ b,f b=some rr→P (.bool b)):P v:=by
  cases v <;> first | exact nn h | exact k _ h
theorem ZEy (O:c.Ok) (VV:EnvOk env) {x y:Str} {e:Expr} {C:Ora} {me:ME} {np bp pos} (hs:Jb e=true) (hk:env.kindOf x=some .globalImplicit) (hx:(x==("__debug__":Str))=false) (hd:Qb c x (.builtin "isinstance")=true)
    (hk':env.kindOf y=some .globalImplicit) (hy:(y==("__debug__":Str))=false) (hd':Qb c y (.type "bool")=true) (H:JD c r env e (ev C me)):JD c r env (.Call (.Name x np) [e,.Name y bp] [] pos) (ev C (.isb me)):=fun _ _ _ _ _ _ _ _ hr hf R N=>bnE hf fun w σ₁ h1 h=>G7 (P:=fun w=>ev C me _=some (w,σ₁)→_) h (fun b h3 h1=>by
  have hs2:[e,.Name y bp].all Jb=true:=by rw [List.all_cons,hs]; rfl
  rw [arm_eval_Call_Name',UA hs2]
  exact wpAny_bind (Name_function_global VV.kind hk (Wu O VV hd R (callWith_builtin Wx (UB (spliced_cons (H hr h1 R fun z s₁ g₁ R₁ X₁ E₁=>spliced_cons (Name_function_global VV.kind hk' (Wu O VV hd' R₁ (spliced_nil (X₁.boolE (IsiPair.bool_bool (((N.of h3).trans E₁).same R₁ (.bool _)))))) hy)))))) hx)) h1
theorem Wc {β:Type} {rr:β} {l:List Mine.V} {f:Mine.V→Option β} {P:List Mine.V→Prop} (h:bo (WB l) f=some rr) (k:∀ v,f v=some rr→P [v]):P l:=by
  match l,h with
  | [],h=>exact nn h
  | [v],h=>exact k v h
  | _ :: _ :: _,h=>exact nn h
theorem Bu {a:Mine.V} {x:Value} (hf:(onListOf σ a fun l=>bd l.length (some (V.int l.length)))=some v) (R:Rel c env g σ s) (hx:Vx c env g s a x) (N:Nxt c env g s v σ Q):wpAny c.M A (call (.builtin "len") [x] []) Q E s:=
  UE (P:=fun x=>wpAny c.M A (call (.builtin "len") [x] []) Q E s) R hf hx fun l a1 i1 n1 h hi1 hv1=>bdE h fun hb e=>by
    cases e
    have hz:=Jg hv1
    exact call_len_list hi1.isList (by rw [hz]; exact Uf hb) (by rw [hz]; exact N.toks R (.int _ _))
theorem ZEK:Qs c env (fun xs=>call (.builtin "len") xs []) (fun σ=>biV σ .len):=fun A σ l v g s xs E Q hf R X N =>
  Wc (P:=fun l=>Vxs c env g s l xs→_) hf (fun a h X=>X.oneE fun x X=>by
    cases a with
    | str z=>exact bdE h fun hb e=>by cases e; exact X.strE fun t=>P.len_str (Int.not_le.mpr (Ic hb)) ((Jj z).symm▸N.toks R (.int _ _))
    | list l=>exact Bu (σ:=σ) (a:=.list l) h R X N
    | obj i=>exact Bu (σ:=σ) (a:=.obj i) h R X N
    | _=>exact nn h) X
theorem ZEC:Qs c env (fun xs=>call (.builtin "ord") xs []) (fun σ=>biV σ .ord):=fun A σ l v g s xs E Q hf R X N =>
  Wc (P:=fun l=>Vxs c env g s l xs→_) hf (fun a h X=>X.oneE fun x X=>ZN (P:=fun a=>Vx c env g s a x→_) h (fun d e X=>by cases e; exact X.strE fun t=>P.ord_of_char (N.toks R (.int _ _))) X) X
theorem ZFQ:Qs c env (fun xs=>call (.builtin "chr") xs []) (fun σ=>biV σ .chr):=fun A σ l v g s xs E Q hf R X N =>
  Wc (P:=fun l=>Vxs c env g s l xs→_) hf (fun a h X=>X.oneE fun x X=>QE (P:=fun a=>Vx c env g s a x→_) h (fun d h X=>gdE h fun h e=>bA h fun h1 h2=>by
    cases e
    exact X.intE fun t=>P.chr_of_int (by rw [decide_eq_false (Int.not_lt.mpr (of_decide_eq_true h1)),decide_eq_false (Int.not_lt.mpr (Int.le_of_lt_add_one (of_decide_eq_true h2)))]; rfl) (N.toks R (.str [_] _))) X) X

noncomputable def UF:SM→Str
  | .find=>"find" | .rfind=>"rfind" | .count=>"count" | .replace=>"replace" | .lower=>"lower" | .join=>"join" | .startswith=>"startswith"
noncomputable def Qm:SM→String
  | .find=>"str.find" | .rfind=>"str.rfind" | .count=>"str.count" | .replace=>"str.replace" | .lower=>"str.lower" | .join=>"str.join" | .startswith=>"str.startswith"
theorem Od {m:SM} {x:Str} {t:Tok} {pl:Sem Bool} {Q:Value×List Value→Shared→Prop} (h:Q (.builtin (Qm m),[.str x t]) s):wpAny c.M A (getMethod (.str x t) (UF m) pl) Q E s:=by
  cases m
  · exact GM.find h
  · exact GM.rfind h
  · exact GM.count h
  · exact GM.replace h
  · exact GM.lower h
  · exact GM.join h
  · exact GM.startswith h
theorem ZGj {e:Expr} {es:List Expr} {C:Ora} {me:ME} {mes:List ME} {m:SM} {apos pos} (hc:Js e=true) (hs:es.all Jb=true) (hl:(apos.endLine==pos.line)=true) (hlen:es.length < 25)
    (hop:∀ (z:List Nat) (t:Tok),Qs c env (fun xs=>call (.builtin (Qm m)) (.str (toS z) t :: xs) []) (fun σ=>smV σ m z)) (H:JD c r env e (ev C me)) (H2:Jx c r env es (evs C mes)) :
    JD c r env (.Call (.Attribute e (UF m) apos) es [] pos) (ev C (.sm m me mes)):=fun _ _ _ _ _ _ _ _ hr hf R N=>bnE hf fun v σ₁ h1 h =>
  UT hc hs hl hlen (H hr h1 R fun x s₁ g₁ R₁ X₁ E₁ pl=>Qg (P:=fun v=>Vx c env g₁ s₁ v x→_) h (fun z h X₁=>bnE h fun vs σ₂ h3 h=>boE h fun w h5 h6=>X₁.strE fun t =>
    Od (callWith_builtin Wx (UB (H2 hr h3 R₁ fun xs s₂ g₂ R₂ X₂ E₂=>hop z t h5 R₂ X₂ ((N.of h6).trans (E₁.trans E₂)))))) X₁)
end
end Mine
end
noncomputable section
open PySem PySem.Calls PyProof.Rows PySem.W
namespace Mine
open PySem.Builtin PySem.Builtin.Str in
theorem YW {n:Nat} {i:Int} (hi:¬ i < 0):fromIndex n i=i.toNat:=by unfold fromIndex; rw [if_neg hi,Int.max_eq_right (Int.not_lt.mp hi)]
open PySem.Builtin PySem.Builtin.Str in
theorem TL (x y:Str) (i j:Int) (t u v w:Tok) (hi:¬ i < 0) (hj:¬ j < 0):Gives («str.rfind» ⟨[.str x t,.str y u,.int i v,.int j w],[]⟩) (.int (match lastOccurrence x y i.toNat (min j.toNat x.length) with | some k=>(k:Int) | none=>-1)):=by
  rw [← YW (n:=x.length) hi,← YW (n:=x.length) hj]
  show Gives (match lastOccurrence x y (fromIndex x.length i) (min (fromIndex x.length j) x.length) with | some k=>retInt k | none=>(do rule "str.rfind.not-found"; retInt (-1))) _
  cases lastOccurrence x y (fromIndex x.length i) (min (fromIndex x.length j) x.length) with
  | none=>exact .rule (.of_eq rfl)
  | some k=>exact .of_eq rfl
open PySem.Builtin PySem.Builtin.Str in
theorem TM (x y:Str) (i j:Int) (t u v w:Tok) (hi:¬ i < 0) (hj:¬ j < 0):Gives («str.count» ⟨[.str x t,.str y u,.int i v,.int j w],[]⟩) (.int (occurrences x y i.toNat (min j.toNat x.length) (x.length + 1)).length):=by
  rw [← YW (n:=x.length) hi,← YW (n:=x.length) hj]
  exact .of_eq rfl
section
variable {c:Cx} {r:Nat} {env:Env} {A:Around} {σ σ':St} {g:Gh} {s:Shared} {E:Value→Shared→Prop} {Q:Value→Shared→Prop} {v:Mine.V}

theorem ZB4 (z:List Nat) (t:Tok):Qs c env (fun xs=>call (.builtin (Qm .find)) (.str (toS z) t :: xs) []) (fun σ=>smV σ .find z):=fun A σ l v g s xs E Q hf R X N=>by
  match l,hf,X with
  | [],hf,_=>exact nn hf
  | [a],hf,X =>
    exact X.oneE fun x X=>Qg (P:=fun a=>Vx c env g s a x→_) (show onStr a (fun y=>some (V.int (J6 y z 0)))=some v from hf) (fun y h X=>by cases h; exact X.strE fun u=>SC.find (ZCg z y▸N.toks R (.int _ _))) X
  | [a,b],hf,X =>
    exact X.twoE fun x y X Y=>Qg (P:=fun a=>Vx c env g s a x→_) (show onStr a (fun y=>onInt b fun i=>gd (decide (0≤i)&&decide (i≤z.length)) (some (V.int (J6 y (z.drop i.toNat) i.toNat))))=some v from hf)
      (fun w h X=>QE (P:=fun b=>Vx c env g s b y→_) h (fun i h Y=>gdE h fun h e=>bA h fun h1 h2=>by
        cases e
        exact X.strE (P:=fun x=>wpAny c.M A (call (.builtin (Qm .find)) [.str (toS z) t,x,y] []) Q E s) fun u=>Y.intE (P:=fun y=>wpAny c.M A (call (.builtin (Qm .find)) [.str (toS z) t,_,y] []) Q E s) fun u'=>SC.find3 (ZBN (of_decide_eq_true h1) (of_decide_eq_true h2)▸N.toks R (.int _ _))) Y) X
  | _ :: _ :: _ :: _,hf,_=>exact nn hf
theorem TV (z:List Nat) (t:Tok):Qs c env (fun xs=>call (.builtin (Qm .startswith)) (.str (toS z) t :: xs) []) (fun σ=>smV σ .startswith z):=fun A σ l v g s xs E Q hf R X N =>
  Wc (P:=fun l=>Vxs c env g s l xs→_) hf (fun a h X=>X.oneE fun x X=>Qg (P:=fun a=>Vx c env g s a x→_) h (fun y h X=>by cases h; exact X.strE fun u=>SC.startswith (TU z y▸N.same R (.bool _))) X) X
theorem Bg {z:List Nat} {l:List Mine.V} {xs:List Value} {p:Nat×Int} {F ρ} (h:WU z l=some p) (X:VRs c F ρ l xs):(∃ t u w,xs=[.str (toS [p.1]) t,.int 0 u,.int p.2 w])∧0≤p.2∧p.2≤z.length:=by
  match l,h,X with
  | [],h,_=>exact nn h
  | [_],h,_=>exact nn h
  | [_,_],h,_=>exact nn h
  | _ :: _ :: _ :: _ :: _,h,_=>exact nn h
  | [a,b,d],h,X =>
    exact ZN (P:=fun a=>VRs c F ρ [a,b,d] xs→_) h (fun k h=>QE (P:=fun b=>VRs c F ρ [.str [k],b,d] xs→_) h fun lo h=>QE (P:=fun d=>VRs c F ρ [.str [k],.int lo,d] xs→_) h fun hi h=>gdE h fun h e X=>bA h fun h1 h=>bA h fun h2 h3=>by
      cases e
      cases of_decide_eq_true h1
      refine ⟨X.consE fun x xs a b=>a.strE (P:=fun x=>∃ t u w,x :: xs=[Value.str (toS [k]) t,.int 0 u,.int hi w]) fun t=>b.twoE (P:=fun xs=>∃ t' u w,Value.str (toS [k]) t :: xs=[Value.str (toS [k]) t',.int 0 u,.int hi w]) fun y y' b1 b2=>b1.intE (P:=fun y=>∃ t' u w,[Value.str (toS [k]) t,y,y']=[Value.str (toS [k]) t',.int 0 u,.int hi w]) fun u=>b2.intE (P:=fun y'=>∃ t' u' w,[Value.str (toS [k]) t,.int 0 u,y']=[Value.str (toS [k]) t',.int 0 u',.int hi w]) fun w=>⟨t,u,w,rfl⟩,of_decide_eq_true h2,of_decide_eq_true h3⟩) X
theorem ZAv (z:List Nat) (t:Tok):Qs c env (fun xs=>call (.builtin (Qm .rfind)) (.str (toS z) t :: xs) []) (fun σ=>smV σ .rfind z):=fun A σ l v g s xs E Q hf R X N=>boE hf fun p h e=>by
  obtain ⟨⟨t1,t2,t3,rfl⟩,h1,h2⟩:=Bg h X
  cases e
  refine call_gives F.slot_str_rfind (typeIs_str _ _ _) F.entry_str_rfind (F.args_str_rfind_4 _ _ _ _) (TL _ _ _ _ _ _ _ _ (Int.not_lt.mpr (Int.le_refl 0)) (Int.not_lt.mpr h1)) ?_
  have h3:p.2.toNat≤z.length:=Int.toNat_le.mpr h2
  have e:(match Builtin.Str.lastOccurrence (toS z) (toS [p.1]) 0 p.2.toNat with | some k=>(k:Int) | none=>-1)=QK p.1 (z.take p.2.toNat) 0 (-1):=ZAh h3
  rw [Jj,Nat.min_eq_left h3,Int.toNat_zero,e]
  exact N.toks R (.int _ _)
theorem ZAx (z:List Nat) (t:Tok):Qs c env (fun xs=>call (.builtin (Qm .count)) (.str (toS z) t :: xs) []) (fun σ=>smV σ .count z):=fun A σ l v g s xs E Q hf R X N=>boE hf fun p h e=>by
  obtain ⟨⟨t1,t2,t3,rfl⟩,h1,h2⟩:=Bg h X
  cases e
  refine call_gives F.slot_str_count (typeIs_str _ _ _) F.entry_str_count (F.args_str_count_4 _ _ _ _) (TM _ _ _ _ _ _ _ _ (Int.not_lt.mpr (Int.le_refl 0)) (Int.not_lt.mpr h1)) ?_
  have h3:p.2.toNat≤z.length:=Int.toNat_le.mpr h2
  rw [Jj,Nat.min_eq_left h3,Int.toNat_zero,Z4 h3 (Nat.zero_le _),List.drop_zero,Zp _ _ _ (Nat.lt_succ_of_le (List.length_take_le _ _ |> fun q=>Nat.le_trans q h3))]
  exact N.toks R (.int _ _)
theorem BA {F ρ}:∀ {l:List Mine.V} {ys:List (List Nat)} {xs:List Value},UY l=some ys→VRs c F ρ l xs→∃ ps:List (Str×Tok),xs=strValues ps∧ps.map (·.1)=ys.map toS
  | [],_,_,h,hv=>by cases h; exact hv.nilE ⟨[],rfl,rfl⟩
  | _ :: _,ys,xs,h,hv=>hv.consE (P:=fun xs=>∃ ps:List (Str×Tok),xs=strValues ps∧ps.map (·.1)=ys.map toS) fun y xs hw hv=>HV (P:=fun v=>VR c F ρ v y→∃ ps:List (Str×Tok),y :: xs=strValues ps∧ps.map (·.1)=ys.map toS) h (fun z h hw=>boE h fun zs h1 h2=>by
      cases h2
      obtain ⟨ps,rfl,e⟩:=BA h1 hv
      exact hw.strE (P:=fun y=>∃ ps':List (Str×Tok),y :: strValues ps=strValues ps'∧ps'.map (·.1)=(z :: zs).map toS) fun t=>⟨(toS z,t) :: ps,rfl,congrArg (toS z :: ·) e⟩) hw
theorem ZAi {b:List Nat} {ys:List (List Nat)} (h:(ys.map (·.length)).sum + ys.length * b.length≤sizeLine):JoinOk (toS b) (ys.map toS)=true:=by
  unfold JoinOk
  rw [StrLaws.joinTotal,Jj,List.length_map,List.map_map,show ((fun x:Str=>x.length) ∘ toS)=fun x=>x.length from funext Jj]
  unfold Builtin.Str.tooLong
  rw [decide_eq_false]; · rfl
  exact Nat.not_lt.mpr h
theorem ZCT (z:List Nat) (t:Tok):Qs c env (fun xs=>call (.builtin (Qm .join)) (.str (toS z) t :: xs) []) (fun σ=>smV σ .join z):=fun A σ l v g s xs E Q hf R X N =>
  Wc (P:=fun l=>Vxs c env g s l xs→_) hf (fun a h X=>X.oneE fun x X=>UE (P:=fun x=>wpAny c.M A (call (.builtin (Qm .join)) [.str (toS z) t,x] []) Q E s) R h X fun l a1 i1 n1 h hi1 hv1=>boE h fun ys hys h=>bdE h fun hb e=>by
    cases e
    obtain ⟨ps,e1,e2⟩:=BA hys hv1
    have hi:=hi1.isList
    rw [show i1=(strValues ps).toArray from e1▸rfl] at hi
    refine QW R.pos (SC.join hi e2 (ZAi hb) fun t' k ht=>?_)
    have e:Txt.join (toS z) (ys.map toS)=toS (J8 z ys):=(StrLaws.glued_eq_join _ _).trans (Zw z ys)
    rw [e]
    exact N.toks R (.str _ _) ht) X

theorem ZAw (z:List Nat) (t:Tok):Qs c env (fun xs=>call (.builtin (Qm .lower)) (.str (toS z) t :: xs) []) (fun σ=>smV σ .lower z):=fun A σ l v g s xs E Q hf R X N=>by
  cases l with
  | cons _ _=>exact nn hf
  | nil =>
    refine gdE hf fun h e=>bA h fun h1 h2=>?_
    cases e
    refine X.nilE (P:=fun xs=>wpAny c.M A (call (.builtin (Qm .lower)) (.str (toS z) t :: xs) []) Q E s) (SCL.lower (by rw [Jj]; exact Nat.le_of_ble_eq_true h2) fun _=>?_)
    have hA:∀ a∈z,a < 128:=fun a ha=>Nat.le_of_ble_eq_true (List.all_eq_true.mp h1 a ha)
    have e:Txt.lower (toS z)=toS (z.map lowC):=(lower_ascii (x:=toS z) (by rw [show (toS z).cps.toList=z from rfl]; exact hA)).trans (congrArg Str.mk (List.map_toArray ..))
    rw [e]
    exact N.toks R (.str _ _)
theorem ZC0 {e:Expr} {C:Ora} {me:ME} {a b:List Nat} {k1 k2 p1 p2 apos pos} (hc:Js e=true) (hl:(apos.endLine==pos.line)=true) (H:JD c r env e (ev C me)) :
    JD c r env (.Call (.Attribute e (UF .replace) apos) [.Constant (.str (toS a)) k1 p1,.Constant (.str (toS b)) k2 p2] [] pos) (ev C (.sm .replace me [.k (.str a),.k (.str b)])):=fun _ _ _ _ _ _ _ _ hr hf R N=>bnE hf fun v σ₁ h1 h =>
  UT hc rfl hl (by decide:2 < 25) (H hr h1 R fun x s₁ g₁ R₁ X₁ E₁ pl=>Qg (P:=fun v=>Vx c env g₁ s₁ v x→_) h (fun z h X₁=>boE (show bo (gd (!a.isEmpty&&(Nat.ble (z.length + (z.length + 1) * b.length) 16777216&&!(a==b))) (some (V.str (J4 a b (z.length + 1) z)))) (fun w=>some (w,σ₁))=some _ from h) fun w h5 h6=>gdE h5 fun h e=>bA h fun q1 h=>bA h fun q2 q3=>X₁.strE fun t=>by
    cases e
    have R':Rel c env g₁ σ₁ { s₁ with toks:=s₁.toks + 1 + 1 }:=R₁.toks
    have hp:=R₁.pos
    refine Od (callWith_builtin rfl (UB (spliced_cons (Constant_str (spliced_cons (Constant_str (spliced_nil (QW R'.pos (SC.replace (Nat.ne_of_gt hp) (Nat.succ_ne_zero _) (Nat.ne_of_lt (Nat.lt_succ_self _)) (by rw [Kw]; exact Xi q3) (by rw [Jj,Jj]; exact Nat.le_of_ble_eq_true q2) fun t' k ht=>?_)))))))))
    rw [ZAF (Xi q1)]
    exact Nxt.toks (((N.of h6).trans E₁).trans .toks) R' (.str _ _) ht) X₁)
end
end Mine
end
noncomputable section
open PySem PySem.Calls PyProof.Rows PySem.W
namespace Mine
noncomputable def JW (c:Cx) (r:Nat) (env:Env) (e:Expr) (f:St→Option (Bool×St)):Prop:=
  ∀ ⦃A:Around⦄ ⦃σ:St⦄ ⦃b:Bool⦄ ⦃σ':St⦄ ⦃g:Gh⦄ ⦃s:Shared⦄ ⦃E:Value→Shared→Prop⦄ ⦃Q:Bool→Shared→Prop⦄,
    JK A r→f σ=some (b,σ')→Rel c env g σ s→QV c env g s σ' (Q b)→wpAny c.M A (PySem.isTrue e env (eval e env)) Q E s
noncomputable def ZGB:UnaryOp→Bool | .Not=>false | _=>true
noncomputable def Kz (e:Expr):Bool:=(ctt fun h=>Expr.UnaryOp.elim (motive_1:=fun _=>Bool) e h fun o _ _=>ZGB o)&&((ctt fun h=>Expr.BoolOp.elim (motive_1:=fun _=>Bool) e h fun _ _ _=>false)&&((ctt fun h=>Expr.IfExp.elim (motive_1:=fun _=>Bool) e h fun _ _ _ _=>false)&&ctt fun h=>Expr.Compare.elim (motive_1:=fun _=>Bool) e h fun _ _ _ _=>false))
theorem Tc {e:Expr} (h:Kz e=true) (env:Env) (m:Sem Value):PySem.isTrue e env m=(do let v ← m; standAt e.pos; holding [v] (PySem.truthy v)):=by
  cases e with
  | UnaryOp op x p=>cases op <;> first | rfl | exact ff h
  | BoolOp _ _ _=>exact ff h
  | IfExp _ _ _ _=>exact ff h
  | Compare _ _ _ _=>exact ff h
  | _=>rfl
section
variable {c:Cx} {r:Nat} {env:Env} {A:Around} {σ σ' σ₁:St} {g:Gh} {s:Shared} {E:Value→Shared→Prop} {Q:Value→Shared→Prop} {v:Mine.V}
variable {e e' l m rr t o:Expr} {es:List Expr} {C:Ora} {me ma mb ml mm mr mt mo:ME} {o₁ o₂:Cmp} {pos:Pos}

theorem ZAR (hp:Kz e=true) (H:JD c r env e (ev C me)):JW c r env e (tst C me):=fun _ _ _ _ _ _ _ _ hr hf R N=>bnE hf fun v σ₁ h1 h=>boE h fun b h3 h4=>by
  rw [Tc hp]
  exact wpAny_bind (wpAny_mono (H hr h1 R fun x s₁ g₁ R₁ X₁ E₁=>wpAny_bind (wpAny_standAt (wpAny_holding (YB h3 R₁ X₁ ((N.of (P:=_) h4).trans E₁))))) (fun x s₁ h=>h) fun _ _ x=>x)
theorem Qz {b:Bool} (h1:ev C me σ=some (v,σ₁)) (h2:Mine.Jh σ₁ v=some b):tst C me σ=some (b,σ₁):=by unfold tst; rw [h1]; show bo (Mine.Jh σ₁ v) _=_; rw [h2]; rfl
theorem ZBp (H:JW c r env e (tst C me)):JW c r env (.UnaryOp .Not e pos) (tst C (.not me)):=fun _ _ _ _ _ _ _ _ hr hf R N=>bnE hf fun v σ₁ h1 h=>boE h fun b h3 h4=>bnE (show bn (ev C me _) (fun v σ₁=>bo (Mine.Jh σ₁ v) fun b=>some (V.bool (!b),σ₁))=some (v,σ₁) from h1) fun w σ₂ h5 h6=>boE h6 fun b' h7 h8=>by
  cases h8
  cases h3
  exact isTrue_not (H hr (Qz h5 h7) R fun s' g' R' E'=>N.of (P:=_) h4 s' g' R' E')
theorem ZBt (H:JW c r env e (tst C ma)) (H2:JW c r env (.BoolOp .And es pos) (tst C mb)):JW c r env (.BoolOp .And (e :: es) pos) (tst C (.and ma mb)):=fun _ σ _ _ _ _ _ _ hr hf R N=>bnE hf fun v σ₁ h1 h=>boE h fun b h3 h4 =>
  bnE (show bn (ev C ma σ) (fun v σ₁=>bo (Mine.Jh σ₁ v) fun c=>match c with | false=>some (v,σ₁) | true=>ev C mb σ₁)=some (v,σ₁) from h1) fun w σ₂ h5 h6=>boE h6 fun b' h7 h8=>isTrue_and (H hr (Qz h5 h7) R fun s' g' R' E'=>by
    cases b' with
    | false=>cases h8; cases h7.symm.trans h3; exact N.of (P:=_) h4 s' g' R' E'
    | true=>exact H2 hr (Qz h8 h3) R' ((N.of (P:=_) h4).trans E'))
theorem ZDW (H:JW c r env e (tst C ma)) (H2:JW c r env (.BoolOp .Or es pos) (tst C mb)):JW c r env (.BoolOp .Or (e :: es) pos) (tst C (.or ma mb)):=fun _ σ _ _ _ _ _ _ hr hf R N=>bnE hf fun v σ₁ h1 h=>boE h fun b h3 h4 =>
  bnE (show bn (ev C ma σ) (fun v σ₁=>bo (Mine.Jh σ₁ v) fun c=>match c with | true=>some (v,σ₁) | false=>ev C mb σ₁)=some (v,σ₁) from h1) fun w σ₂ h5 h6=>boE h6 fun b' h7 h8=>isTrue_or (H hr (Qz h5 h7) R fun s' g' R' E'=>by
    cases b' with
    | true=>cases h8; cases h7.symm.trans h3; exact N.of (P:=_) h4 s' g' R' E'
    | false=>exact H2 hr (Qz h8 h3) R' ((N.of (P:=_) h4).trans E'))
theorem ZAt {op:BoolOp} (H:JW c r env e (tst C ma)):JW c r env (.BoolOp op [e] pos) (tst C ma):=fun _ _ b _ _ _ _ _ hr hf R N=>by
  cases op with
  | And=>exact wpAny_isTrue_BoolOp (wpAny_allTrue_And_cons (H hr hf R fun s' g' R' E'=>by
      have n:=N s' g' R' E'
      cases b
      · exact n
      · exact wpAny_allTrue_And_nil n))
  | Or=>exact wpAny_isTrue_BoolOp (wpAny_allTrue_Or_cons (H hr hf R fun s' g' R' E'=>by
      have n:=N s' g' R' E'
      cases b
      · exact wpAny_allTrue_Or_nil n
      · exact n))
theorem ZBq (H:JW c r env t (tst C mt)) (H2:JW c r env e (tst C me)) (H3:JW c r env o (tst C mo)):JW c r env (.IfExp t e o pos) (tst C (.ite mt me mo)):=fun _ σ _ _ _ _ _ _ hr hf R N=>bnE hf fun v σ₁ h1 h=>boE h fun b h3 h4 =>
  bnE (show bn (ev C mt σ) (fun v σ₁=>bo (Mine.Jh σ₁ v) fun c=>match c with | true=>ev C me σ₁ | false=>ev C mo σ₁)=some (v,σ₁) from h1) fun w σ₂ h5 h6=>boE h6 fun b' h7 h8=>isTrue_IfExp (H hr (Qz h5 h7) R fun s' g' R' E'=>by
    cases b' with
    | true=>exact H2 hr (Qz h8 h3) R' ((N.of (P:=_) h4).trans E')
    | false=>exact H3 hr (Qz h8 h3) R' ((N.of (P:=_) h4).trans E'))

theorem Yo (hm:behindInMarks (JT o₁) rr=false) (m:Sem Value):markedBehindIn (JT o₁) rr m=m:=by unfold markedBehindIn; rw [hm]
theorem ZE4 (hm:behindInMarks (JT o₁) rr=false) (H:JD c r env l (ev C ml)) (H2:JD c r env rr (ev C mr)):JD c r env (.Compare l [JT o₁] [rr] pos) (ev C (.cmp o₁ ml mr)):=fun _ _ _ _ _ _ _ _ hr hf R N=>bnE hf fun a σ₁ h1 h=>bnE h fun b σ₂ h3 h=>boE h fun q h5 h6=>by
  rw [arm_eval_Compare]
  refine wpAny_bind (H hr h1 R fun x s₁ g₁ R₁ X₁ E₁=>?_)
  show wpAny _ _ (compareChain pos x [JT o₁] [markedBehindIn (JT o₁) rr (eval rr env)]) _ _ _
  rw [Yo hm]
  exact wpAny_bind (wpAny_holding (H2 hr h3 R₁ fun y s₂ g₂ R₂ X₂ E₂=>wpAny_bind (wpAny_standAt (wpAny_operating (GH hr h5 R₂ (X₁.ext E₂) X₂ fun t ht=>((N.of h6).trans (E₁.trans E₂)).toks R₂ (.bool _) ht)))))
theorem ZBs (hm:behindInMarks (JT o₁) rr=false) (H:JD c r env l (ev C ml)) (H2:JD c r env rr (ev C mr)):JW c r env (.Compare l [JT o₁] [rr] pos) (tst C (.cmp o₁ ml mr)):=fun _ σ _ _ _ _ _ _ hr hf R N=>bnE hf fun v σ₃ h0 h=>boE h fun b0 k1 k2 =>
  bnE (show bn (ev C ml σ) (fun a σ₁=>bn (ev C mr σ₁) fun b σ₂=>bo (Wr σ₂ o₁ a b) fun c=>some (V.bool c,σ₂))=some (v,σ₃) from h0) fun a σ₁ h1 h=>bnE h fun b σ₂ h3 h=>boE h fun q h5 h6=>by
    cases h6
    cases k1
    exact wpAny_isTrue_Compare1 (H hr h1 R fun x s₁ g₁ R₁ X₁ E₁=>H2 hr h3 R₁ fun y s₂ g₂ R₂ X₂ E₂=>GH hr h5 R₂ (X₁.ext E₂) X₂ fun t ht=>wpAny_truthy_bool (N.of (P:=_) k2 _ g₂ (R₂.toks ht) ((E₁.trans E₂).trans .toks))) hm

noncomputable def Yr (c:Cx) (f:Nat):Bool:=(findIn c.K (.ref (c.cA c.iD)) "__contains__"==some (some (.ref (c.fA f))))&&isFn c.K (.ref (c.fA f))
theorem Gy (O:c.Ok) (VV:EnvOk env) {a b:Mine.V} {f:Nat} {x y:Value} (hn:Yr c f=true) (hI:c.I≠[]) (HC:JJ c r C) (hr:JK A r) (h:onFn b (fun b=>bn (C f [b,a] σ) fun v σ₃=>bo (Ul v) fun q=>some (.bool q,σ₃))=some (v,σ')) (R:Rel c env g σ s) (X:Vx c env g s a x) (Y:Vx c env g s b y)
    (N:∀ q s' g',v=.bool q→Rel c env g' σ' s'→Ext env g g' s s'→Q (.bool q) s'):wpAny c.M A (compareOp (JT .inn) x y) Q E s:=
  Nb (P:=fun b=>Vx c env g s b y→_) h (fun i h Y=>bnE h fun w σ₃ h1 h=>Y.fnE (by
    cases K7 O R hI with
    | mk o es k D he hf I =>
      refine bA hn fun q1 q2=>wpAny_bind (wpAny_holding (wpAny_bind (wpAny_bind (I.type.here ((looks_findIn R.kinD (bE q1)).here ?_)))))
      rw [if_neg (by exact ff)]
      exact wpAny_bind (unlessNone_K R.kinD I (bE q1) q2 (Kl (HC hr VV h1 R (.cons (.fn i) (.cons X .nil)) fun z s' g' R' X' E'=>G7 (P:=fun w=>Vx c env g' s' w z→_) h (fun q h X'=>X'.boolE (wpAny_truthy_bool (wpAny_pure (by cases h; exact N q s' g' rfl R' E')))) X')))) ) Y
theorem ZE0 (O:c.Ok) (VV:EnvOk env) {f:Nat} (hm:behindInMarks (JT .inn) rr=false) (hn:Yr c f=true) (hI:c.I≠[]) (HC:JJ c r C) (H:JD c r env l (ev C ml)) (H2:JD c r env rr (ev C mr)):JD c r env (.Compare l [JT .inn] [rr] pos) (ev C (.inf ml mr f)):=fun _ _ _ _ _ _ _ _ hr hf R N=>bnE hf fun a σ₁ h1 h=>bnE h fun b σ₂ h3 h=>by
  rw [arm_eval_Compare]
  refine wpAny_bind (H hr h1 R fun x s₁ g₁ R₁ X₁ E₁=>?_)
  show wpAny _ _ (compareChain pos x [JT .inn] [markedBehindIn (JT .inn) rr (eval rr env)]) _ _ _
  rw [Yo hm]
  exact wpAny_bind (wpAny_holding (H2 hr h3 R₁ fun y s₂ g₂ R₂ X₂ E₂=>wpAny_bind (wpAny_standAt (wpAny_operating (Gy O VV hn hI HC hr h R₂ (X₁.ext E₂) X₂ fun q s' g' e R' E'=>N _ s' g' R' (e▸.bool _) (E₁.trans (E₂.trans E')))))))
theorem ZBr (O:c.Ok) (VV:EnvOk env) {f:Nat} (hm:behindInMarks (JT .inn) rr=false) (hn:Yr c f=true) (hI:c.I≠[]) (HC:JJ c r C) (H:JD c r env l (ev C ml)) (H2:JD c r env rr (ev C mr)):JW c r env (.Compare l [JT .inn] [rr] pos) (tst C (.inf ml mr f)):=fun _ σ _ _ _ _ _ _ hr hf R N=>bnE hf fun v σ₃ h0 h=>boE h fun b0 k1 k2 =>
  bnE (show bn (ev C ml σ) (fun a σ₁=>bn (ev C mr σ₁) fun b σ₂=>onFn b fun b=>bn (C f [b,a] σ₂) fun v σ₃=>bo (Ul v) fun q=>some (V.bool q,σ₃))=some (v,σ₃) from h0) fun a σ₁ h1 h=>bnE h fun b σ₂ h3 h =>
    wpAny_isTrue_Compare1 (H hr h1 R fun x s₁ g₁ R₁ X₁ E₁=>H2 hr h3 R₁ fun y s₂ g₂ R₂ X₂ E₂=>Gy O VV hn hI HC hr h R₂ (X₁.ext E₂) X₂ fun q s' g' e R' E'=>wpAny_truthy_bool (by
      subst e
      cases k1
      exact N.of (P:=_) k2 _ g' R' (E₁.trans (E₂.trans E')))) hm

noncomputable def ZFR {α:Type} (env:Env) (m rr:Expr) (o₁ o₂:CmpOp) (pos:Pos) (x:Value) (last:Value→Value→Sem α) (no:Value→α):Sem α:=do
  let rv ← holding [x] (eval m env)
  standAt pos
  let c ← holding [x,rv] (compareOp o₁ x rv)
  release [x,rv] [c]
  if ← holding [c,rv] (PySem.truthy c) then (do
    let rw ← holding [rv] (eval rr env)
    standAt pos
    last rv rw) else pure (no c)
theorem Bc {α:Type} {last:Value→Value→Sem α} {no:Value→α} {a:Mine.V} {x:Value} {w:Bool×St} {Q:α→Shared→Prop} (hr:JK A r) (H2:JD c r env m (ev C mm)) (H3:JD c r env rr (ev C mr)) (R:Rel c env g σ s) (X:Vx c env g s a x)
    (h:bn (ev C mm σ) (fun b σ₂=>bo (QB σ₂ o₁ a b) fun c=>match c with | false=>some (false,σ₂) | true=>bn (ev C mr σ₂) fun d σ₃=>bo (QB σ₃ o₂ b d) fun c=>some (c,σ₃))=some w)
    (k1:w.1=false→∀ s' g',Rel c env g' w.2 s'→Ext env g g' s s'→Q (no (.bool false)) s') (k2:∀ s' g' y z,Rel c env g' w.2 s'→Ext env g g' s s'→(∀ (Q:Value→Shared→Prop),Q (.bool w.1) s'→wpAny c.M A (compareOp (JT o₂) y z) Q E s')→wpAny c.M A (last y z) Q E s') :
    wpAny c.M A (ZFR env m rr (JT o₁) (JT o₂) pos x last no) Q E s:=
  bnE h fun b σ₂ h3 h=>boE h fun q h5 h6=>wpAny_bind (wpAny_holding (H2 hr h3 R fun y s₂ g₂ R₂ X₂ E₂=>wpAny_bind (wpAny_standAt (wpAny_bind (wpAny_holding (NG hr h5 R₂ (X.ext E₂) X₂ (wpAny_bind (wpAny_release (wpAny_bind (wpAny_holding (wpAny_truthy_bool (by
    cases q with
    | false=>cases h6; exact wpAny_pure (k1 rfl _ _ R₂ E₂)
    | true =>
      exact bnE h6 fun d σ₃ h7 h8=>boE h8 fun q2 h9 h10=>by
        cases h10
        exact wpAny_bind (wpAny_holding (H3 hr h7 R₂ fun z s₃ g₃ R₃ X₃ E₃=>wpAny_bind (wpAny_standAt (k2 _ _ y z R₃ (E₂.trans E₃) fun Q hq=>NG hr h9 R₃ (X₂.ext E₃) X₃ hq))))))))))))))))
theorem GI {a:Mine.V} {w:Mine.V×St} (h:bn (ev C mm σ) (fun b σ₂=>bo (QB σ₂ o₁ a b) fun c=>match c with | false=>some (V.bool false,σ₂) | true=>bn (ev C mr σ₂) fun d σ₃=>bo (QB σ₃ o₂ b d) fun c=>some (V.bool c,σ₃))=some w) :
    ∃ q,w.1=.bool q∧bn (ev C mm σ) (fun b σ₂=>bo (QB σ₂ o₁ a b) fun c=>match c with | false=>some (false,σ₂) | true=>bn (ev C mr σ₂) fun d σ₃=>bo (QB σ₃ o₂ b d) fun c=>some (c,σ₃))=some (q,w.2):=
  bnE h fun b σ₂ h3 h=>boE h fun q h5 h6=>by
    rw [h3]
    show ∃ q',_∧bo (QB σ₂ o₁ a b) _=_
    rw [h5]
    cases q with
    | false=>cases h6; exact ⟨false,rfl,rfl⟩
    | true=>exact bnE h6 fun d σ₃ h7 h8=>boE h8 fun q2 h9 h10=>by
                cases h10
                refine ⟨q2,rfl,?_⟩
                show bn (ev C mr σ₂) _=_
                rw [h7]
                show bo (QB σ₃ o₂ b d) _=_
                rw [h9]; rfl
theorem ZC7 (hm:behindInMarks (JT o₂) rr=false) (H:JD c r env l (ev C ml)) (H2:JD c r env m (ev C mm)) (H3:JD c r env rr (ev C mr)):JD c r env (.Compare l [JT o₁,JT o₂] [m,rr] pos) (ev C (.cmp2 o₁ o₂ ml mm mr)):=fun _ _ _ _ _ _ _ _ hr hf R N=>bnE hf fun a σ₁ h1 h=>by
  obtain ⟨q,e,h⟩:=GI h
  cases e
  rw [arm_eval_Compare]
  refine wpAny_bind (H hr h1 R fun x s₁ g₁ R₁ X₁ E₁=>?_)
  show wpAny _ _ (compareChain pos x [JT o₁,JT o₂] [eval m env,markedBehindIn (JT o₂) rr (eval rr env)]) _ _ _
  rw [Yo hm]
  exact Bc (last:=fun rv rw=>operate [rv,rw] (compareOp (JT o₂) rv rw)) (no:=fun c=>c) hr H2 H3 R₁ X₁ h (fun e s' g' R' E'=>(N.trans (E₁.trans E')).same R' (by rw [show q=false from e]; exact .bool _)) fun s' g' y z R' E' k=>wpAny_operating (k _ ((N.trans (E₁.trans E')).same R' (.bool _)))
theorem ZAu (hm:behindInMarks (JT o₂) rr=false) (H:JD c r env l (ev C ml)) (H2:JD c r env m (ev C mm)) (H3:JD c r env rr (ev C mr)):JW c r env (.Compare l [JT o₁,JT o₂] [m,rr] pos) (tst C (.cmp2 o₁ o₂ ml mm mr)):=fun _ σ b _ _ _ _ _ hr hf R N=>bnE hf fun v σ₃ h0 h=>boE h fun b0 k1 k2 =>
  bnE (show bn (ev C ml σ) _=some (v,σ₃) from h0) fun a σ₁ h1 h=>by
    obtain ⟨q,e,h⟩:=GI h
    cases e
    cases k1
    cases k2
    show wpAny _ _ (do testChain pos (← eval l env) [JT o₁,JT o₂] [eval m env,markedBehindIn (JT o₂) rr (eval rr env)]) _ _ _
    rw [Yo hm]
    exact wpAny_bind (H hr h1 R fun x s₁ g₁ R₁ X₁ E₁=>Bc (last:=fun rv rw=>do
        let c ← operate [rv,rw] (compareOp (JT o₂) rv rw)
        holding [c] (PySem.truthy c)) (no:=fun _=>false) hr H2 H3 R₁ X₁ h (fun e s' g' R' E'=>by have e:b=false:=e; subst e; exact N _ _ R' (E₁.trans E')) fun s' g' y z R' E' k=>wpAny_bind (wpAny_operating (k _ (wpAny_holding (wpAny_truthy_bool (N _ _ R' (E₁.trans E')))))))

theorem ZEs (H:JD c r env e (ev C me)):JD c r env (.UnaryOp .Not e pos) (ev C (.not me)):=fun _ _ _ _ _ _ _ _ hr hf R N=>bnE hf fun w σ₂ h5 h=>boE h fun b' h7 h8 =>
  wpAny_UnaryOp (H hr h5 R fun x s₁ g₁ R₁ X₁ E₁=>not_of (YB h7 R₁ X₁ fun s' g' R' E'=>N.of h8 _ s' g' R' (.bool _) (E₁.trans E')))
theorem ZEu (H:JD c r env e (ev C me)):JD c r env (.UnaryOp .USub e pos) (ev C (.neg me)):=fun _ _ _ _ _ _ _ _ hr hf R N=>bnE hf fun w σ₂ h5 h =>
  wpAny_UnaryOp (H hr h5 R fun x s₁ g₁ R₁ X₁ E₁=>QE (P:=fun w=>Vx c env g₁ s₁ w x→_) h (fun i h X₁=>ZEG R₁ X₁ ((N.of h).trans E₁)) X₁)
theorem ZC4 {op:BoolOp} (H:JD c r env e (ev C ma)):JD c r env (.BoolOp op [e] pos) (ev C ma):=fun _ _ _ _ _ _ _ _ hr hf R N=>H hr hf R N
theorem ZE8 (H:JD c r env e (ev C ma)) (H2:JD c r env (.BoolOp .And (e' :: es) pos) (ev C mb)):JD c r env (.BoolOp .And (e :: e' :: es) pos) (ev C (.and ma mb)):=fun _ _ _ _ _ _ _ _ hr hf R N=>bnE hf fun w σ₂ h5 h=>boE h fun b' h7 h8=>by
  rw [arm_eval_BoolOp]
  exact wpAny_bind (H hr h5 R fun x s₁ g₁ R₁ X₁ E₁=>wpAny_bind (wpAny_standAt (wpAny_bind (wpAny_holding (YB h7 R₁ X₁ fun s' g' R' E'=>by
    cases b' with
    | false=>exact wpAny_pure (N.of h8 _ s' g' R' (X₁.ext E') (E₁.trans E'))
    | true=>exact H2 hr h8 R' (N.trans (E₁.trans E')))))))
theorem ZGl (H:JD c r env e (ev C ma)) (H2:JD c r env (.BoolOp .Or (e' :: es) pos) (ev C mb)):JD c r env (.BoolOp .Or (e :: e' :: es) pos) (ev C (.or ma mb)):=fun _ _ _ _ _ _ _ _ hr hf R N=>bnE hf fun w σ₂ h5 h=>boE h fun b' h7 h8=>by
  rw [arm_eval_BoolOp]
  exact wpAny_bind (H hr h5 R fun x s₁ g₁ R₁ X₁ E₁=>wpAny_bind (wpAny_standAt (wpAny_bind (wpAny_holding (YB h7 R₁ X₁ fun s' g' R' E'=>by
    cases b' with
    | true=>exact wpAny_pure (N.of h8 _ s' g' R' (X₁.ext E') (E₁.trans E'))
    | false=>exact H2 hr h8 R' (N.trans (E₁.trans E')))))))
theorem ZEx (H:JW c r env t (tst C mt)) (H2:JD c r env e (ev C me)) (H3:JD c r env o (ev C mo)):JD c r env (.IfExp t e o pos) (ev C (.ite mt me mo)):=fun _ _ _ _ _ _ _ _ hr hf R N=>bnE hf fun w σ₂ h5 h=>boE h fun b' h7 h8 =>
  wpAny_IfExp (H hr (Qz h5 h7) R fun s' g' R' E'=>by
    cases b' with
    | true=>exact H2 hr h8 R' (N.trans E')
    | false=>exact H3 hr h8 R' (N.trans E'))
end
end Mine
end
noncomputable section
open PySem PySem.Calls PyProof.Rows PySem.W
namespace Mine
noncomputable def Gh.hid (g:Gh) (D:Addr→Prop):Gh:={ g with X:=fun a=>g.X a∨D a }
section
variable {c:Cx} {r:Nat} {env:Env} {A:Around} {σ σ':St} {g g₁:Gh} {s s' s₁ s₂:Shared} {E:Value→Shared→Prop} {Q:Value→Shared→Prop} {v:Mine.V} {D:Addr→Prop}

theorem Qh {h:Heap} {o a:Addr} {p:Obj} (e:h.get? a=some p) (ho:h.objs.size≤o):a≠o:=fun z=>Nat.lt_irrefl _ (Nat.lt_of_lt_of_le (Heap.lt_size e) (z▸ho))
theorem KC {h:Heap} {o:Addr} (ho:h.objs.size≤o):∀ a p,h.get? a=some p→a≠o:=fun a p e=>Qh e ho
theorem Fz.hide {a:Addr} {o:Obj} (h:Fz env g s.heap a o) (k:∀ b o,s.heap.get? b=some o→s'.heap.get? b=some o) (hD:∀ a,D a→s.heap.objs.size≤a):Fz env (g.hid D) s'.heap a o:=
  ⟨k _ _ h.1,h.2.1,fun z=>z.elim h.2.2.1 fun d=>Qh h.1 (hD _ d) rfl,h.2.2.2⟩
theorem Rel0.carry {g':Gh} {h h':Heap} (R:Rel0 c env g σ h) (kF:∀ a o,Fz env g h a o→Fz env g' h' a o) (kW:∀ a o,g.W a→h.get? a=some o→h'.get? a=some o)
    (kN:∀ m,h.Ns env.locals m→h'.Ns env.locals m) (hW:g'.W=g.W) (hc:g'.cs=g.cs) (hX:∀ a,g'.X a→∃ o,h'.get? a=some o) (hd:∀ a,g'.X a→¬ g.W a):Rel0 c env g' σ h':=by
  have kr:∀ i a,g.rho i=some a→g'.rho i=some a:=fun i a z=>by unfold Gh.rho at z ⊢; rw [hc]; exact z
  obtain ⟨m,hm,hl⟩:=R.loc
  exact ⟨fun a o e=>kF _ _ (R.kin a o e),fun a e=>(R.wob a (hW▸e)).imp fun o z=>kW _ _ (hW▸e) z,hX,fun a (e:a=env.locals)=>e▸nsO (kN m hm),fun a e=>⟨fun z=>hd a z (hW▸e),(R.dis a (hW▸e)).2⟩,
    ⟨m,kN m hm,hl.mono kF kr⟩,fun id ob e=>(R.obs id ob e).imp fun r=>Exists.imp fun o z=>⟨hc▸z.1,z.2.mono kF kr fun p=>kW _ _ (R.cW _ _ _ z.1)⟩,fun id r o e=>hW▸R.cW id r o (hc▸e),fun id id' r o r' e e'=>R.inj id id' r o r' (hc▸e) (hc▸e'),fun k e=>hc▸R.nx k e,fun k e=>hc▸R.ps k e⟩
theorem Rel.hide (R:Rel c env g σ s) (k:∀ b o,s.heap.get? b=some o→s'.heap.get? b=some o) (hD:∀ a,D a→s.heap.objs.size≤a) (hx:∀ a,D a→∃ o,s'.heap.get? a=some o) (hp:0 < s'.toks) :
    Rel c env (g.hid D) σ s':=
  ⟨R.toRel0.carry (fun _ _ z=>z.hide k hD) (fun a o _ e=>k _ _ e) (fun m hm=>hm.keeps k) rfl rfl (fun a z=>z.elim (fun z=>(R.xob a z).imp fun o e=>k _ _ e) (hx a))
    (fun a z w=>z.elim (R.dis a w).1 fun d=>let ⟨_,e⟩:=R.wob a w; Qh e (hD a d) rfl),hp⟩
theorem Rel.changed (R:Rel c env g₁ σ s₁) (hX:∀ a,D a→g₁.X a) (hs:∀ b p,¬ D b→s₁.heap.get? b=some p→s'.heap.get? b=some p) (he:∀ a,D a→∃ o,s'.heap.get? a=some o) (hfa:∀ a,D a→¬ FA env a) (hp:0 < s'.toks) :
    Rel c env g₁ σ s':=
  ⟨R.toRel0.carry (fun a o z=>⟨hs _ _ (fun d=>z.2.2.1 (hX _ d)) z.1,z.2⟩) (fun a o w e=>hs _ _ (fun d=>(R.dis a w).1 (hX a d)) e) (fun m hm=>hm.at fun p e=>hs _ _ (fun d=>hfa _ d rfl) e) rfl rfl
    (fun a x=>Classical.byCases (fun d:D a=>he a d) fun d=>(R.xob a x).imp fun o e=>hs _ _ d e) (fun a x w=>(R.dis a w).1 x),hp⟩
theorem Vx.changed {v:Mine.V} {x:Value} (h:Vx c env g₁ s₁ v x) (hX:∀ a,D a→g₁.X a) (hs:∀ b p,¬ D b→s₁.heap.get? b=some p→s'.heap.get? b=some p):Vx c env g₁ s' v x:=
  h.mono (fun a o z=>⟨hs _ _ (fun d=>z.2.2.1 (hX _ d)) z.1,z.2⟩) fun _ _ z=>z
theorem Vxs.changed {v:List Mine.V} {x:List Value} (h:Vxs c env g₁ s₁ v x) (hX:∀ a,D a→g₁.X a) (hs:∀ b p,¬ D b→s₁.heap.get? b=some p→s'.heap.get? b=some p):Vxs c env g₁ s' v x:=
  h.mono (fun a o z=>⟨hs _ _ (fun d=>z.2.2.1 (hX _ d)) z.1,z.2⟩) fun _ _ z=>z
theorem Rel.shown {X:Addr→Prop} (R:Rel c env g₁ σ s₁) (hX:∀ a,X a→g₁.X a):Rel c env { g₁ with X:=X } σ s₁:=
  ⟨R.toRel0.carry (fun a o z=>⟨z.1,z.2.1,fun x=>z.2.2.1 (hX a x),z.2.2.2⟩) (fun _ _ _ e=>e) (fun _ e=>e) rfl rfl (fun a x=>R.xob a (hX a x)) (fun a x w=>(R.dis a w).1 (hX a x)),R.pos⟩
theorem Vx.shown {X:Addr→Prop} {v:Mine.V} {x:Value} (h:Vx c env g₁ s₁ v x) (hX:∀ a,X a→g₁.X a):Vx c env { g₁ with X:=X } s₁ v x:=
  h.mono (fun a o z=>⟨z.1,z.2.1,fun x=>z.2.2.1 (hX a x),z.2.2.2⟩) fun _ _ z=>z
theorem Vxs.shown {X:Addr→Prop} {v:List Mine.V} {x:List Value} (h:Vxs c env g₁ s₁ v x) (hX:∀ a,X a→g₁.X a):Vxs c env { g₁ with X:=X } s₁ v x:=
  h.mono (fun a o z=>⟨z.1,z.2.1,fun x=>z.2.2.1 (hX a x),z.2.2.2⟩) fun _ _ z=>z
theorem Ext.hidden (k:∀ b o,s.heap.get? b=some o→s'.heap.get? b=some o) (hg:gos s'=gos s) (hD:∀ a,D a→s.heap.objs.size≤a) (x:Ext env (g.hid D) g₁ s' s₁)
    (hs:∀ b p,¬ D b→s₁.heap.get? b=some p→s₂.heap.get? b=some p) (hg2:gos s₂=gos s₁):Ext env g { g₁ with X:=g.X } s s₂:=
  ⟨fun a o e w f=>let ⟨z,w'⟩:=x.fz a o (k _ _ e) w f; ⟨hs _ _ (fun d=>Qh e (hD a d) rfl) z,w'⟩,x.cs,rfl,hg2.trans (x.gens.trans hg)⟩

noncomputable def ZHt (σ:St):Id→Prop
  | .t k=>k < σ.nx
  | .p k=>k∈σ.ps
noncomputable def Gh.add (g:Gh) (id:Id) (q o:Addr):Gh:={ g with W:=fun a=>g.W a∨a=o,cs:=fun i=>if i=id then some (q,o) else g.cs i }
theorem Gh.add_self {id:Id} {q o:Addr}:(g.add id q o).cs id=some (q,o):=if_pos rfl
theorem Gh.add_rho {id:Id} {q o:Addr}:(g.add id q o).rho id=some q:=by unfold Gh.rho; rw [Gh.add_self]; rfl
theorem Gh.add_cs {id i:Id} {q o:Addr} (h:i≠id):(g.add id q o).cs i=g.cs i:=if_neg h
theorem Gh.add_old {id i:Id} {q o:Addr} {p:Addr×Addr} (hid:g.cs id=none) (e:g.cs i=some p):(g.add id q o).cs i=some p:=(Gh.add_cs fun q=>by rw [q,hid] at e; exact nn e).trans e
theorem Gh.add_mono {id i:Id} {q o a:Addr} (hid:g.cs id=none) (e:g.rho i=some a):(g.add id q o).rho i=some a:=by
  unfold Gh.rho at e ⊢
  cases h:g.cs i with
  | none=>rw [h] at e; exact nn e
  | some p=>rw [Gh.add_old hid h,← h]; exact e
structure Grows (σ σ':St) (id:Id) (ob:Ob):Prop where
  loc:σ'.loc=σ.loc
  hp:σ'.hp=(id,ob) :: σ.hp
  nx:σ.nx≤σ'.nx
  ps:∀ k,k∈σ.ps→k∈σ'.ps
  in_:ZHt σ' id
theorem Rel0.more {h h':Heap} {G:Gh} (R:Rel0 c env g σ h) {id:Id} {ob:Ob} {q o:Addr} (hGW:G.W=g.W) (hGc:G.cs=g.cs) (kF:∀ a p,Fz env g h a p→Fz env (G.add id q o) h' a p) (kW:∀ a p,g.W a→h.get? a=some p→h'.get? a=some p)
    (kN:∀ m,h.Ns env.locals m→h'.Ns env.locals m) (kX:∀ a,G.X a→∃ p,h'.get? a=some p) (kf:∀ a,FA env a→∃ p,h'.get? a=some p) (kd:∀ a,g.W a→¬ G.X a) (hWo:∀ a,g.W a→a≠o) (hXo:¬ G.X o) (hfo:¬ FA env o) (he:∃ p,h'.get? o=some p) (hid:g.cs id=none)
    (hob:(∀ i a,g.rho i=some a→(G.add id q o).rho i=some a)→ObR c env (G.add id q o) h' ob q o) (hσ:Grows σ σ' id ob):Rel0 c env (G.add id q o) σ' h':=by
  have hGid:G.cs id=none:=hGc▸hid
  have kr:∀ i a,g.rho i=some a→(G.add id q o).rho i=some a:=fun i a z=>Gh.add_mono hGid (by unfold Gh.rho at z ⊢; rw [hGc]; exact z)
  refine ⟨fun a o e=>kF _ _ (R.kin a o e),fun a e=>e.elim (fun w=>(R.wob a (hGW▸w)).imp fun p z=>kW _ _ (hGW▸w) z) (fun z=>z▸he),kX,kf,fun a e=>e.elim (fun w=>⟨kd a (hGW▸w),(R.dis a (hGW▸w)).2⟩) (fun (z:a=o)=>by subst z; exact ⟨hXo,hfo⟩),
    R.loc.imp fun m z=>⟨kN m z.1,hσ.loc▸z.2.mono kF kr⟩,fun id' ob' e=>?_,fun i r o' e=>?_,fun i i' r o' r' e e'=>?_,fun j e=>?_,fun j e=>?_⟩
  · rw [hσ.hp] at e
    rw [Q1] at e
    by_cases hi:id=id'
    · rw [if_pos hi] at e
      cases e
      exact ⟨q,o,hi▸Gh.add_self,hob kr⟩
    · rw [if_neg hi] at e
      exact (R.obs id' ob' e).imp fun r=>Exists.imp fun o' z=>⟨(Gh.add_cs (Ne.symm hi)).trans (hGc▸z.1),z.2.mono kF kr fun p=>kW _ _ (R.cW _ _ _ z.1)⟩
  · by_cases hi:i=id
    · rw [hi,Gh.add_self] at e; cases e; exact .inr rfl
    · rw [Gh.add_cs hi,hGc] at e; exact .inl (hGW▸R.cW _ _ _ e)
  · by_cases hi:i=id
    · by_cases hi':i'=id
      · exact hi.trans hi'.symm
      · rw [hi,Gh.add_self] at e; rw [Gh.add_cs hi',hGc] at e'; cases e; exact absurd rfl (hWo _ (R.cW _ _ _ e'))
    · rw [Gh.add_cs hi,hGc] at e
      by_cases hi':i'=id
      · rw [hi',Gh.add_self] at e'; cases e'; exact absurd rfl (hWo _ (R.cW _ _ _ e))
      · rw [Gh.add_cs hi',hGc] at e'; exact R.inj _ _ _ _ _ e e'
  · rw [Gh.add_cs fun z=>Nat.not_lt.mpr e (by have:=hσ.in_; rw [← z] at this; exact this),hGc]; exact R.nx j (Nat.le_trans hσ.nx e)
  · rw [Gh.add_cs fun z=>e (by have:=hσ.in_; rw [← z] at this; exact this),hGc]; exact R.ps j fun z=>e (hσ.ps _ z)
theorem Rel0.add {h h':Heap} (R:Rel0 c env g σ h) {id:Id} {ob:Ob} {q o:Addr} (K:Keep env (fun _=>False) h h') (ho:∀ a p,h.get? a=some p→a≠o) (he:∃ p,h'.get? o=some p) (hid:g.cs id=none)
    (hob:(∀ a p,Fz env g h a p→Fz env (g.add id q o) h' a p)→(∀ i a,g.rho i=some a→(g.add id q o).rho i=some a)→ObR c env (g.add id q o) h' ob q o)
    (hσ:Grows σ σ' id ob):Rel0 c env (g.add id q o) σ' h':=by
  have k:∀ b p,b≠env.locals→h.get? b=some p→h'.get? b=some p:=fun b p=>K.k b p not_false
  have kF:∀ a p,Fz env g h a p→Fz env (g.add id q o) h' a p:=fun a p z=>⟨k _ _ (fun e=>z.2.2.2 e) z.1,fun w=>w.elim z.2.1 (ho a p z.1),z.2.2⟩
  obtain ⟨m,hm,-⟩:=R.loc
  have al:=K.alive hm fun a e=>e.elim
  exact R.more rfl rfl kF (fun a p w=>k _ _ (R.dis a w).2) K.ns (fun a e=>al a (R.xob a e)) (fun a e=>al a (R.fob a e)) (fun a w=>(R.dis a w).1) (fun a w=>let ⟨p,e⟩:=R.wob a w; ho a p e) (fun x=>let ⟨p,e⟩:=R.xob _ x; ho _ p e rfl) (fun x=>let ⟨p,e⟩:=R.fob _ x; ho _ p e rfl) he hid (hob kF) hσ
theorem Ext.add {id:Id} {q o:Addr} (K:Keep env (fun _=>False) s.heap s'.heap) (ho:∀ a p,s.heap.get? a=some p→a≠o) (hid:g.cs id=none) (hg:gos s'=gos s):Ext env g (g.add id q o) s s':=
  ⟨fun a p e w f=>⟨K.k _ _ not_false (fun e=>f e) e,fun z=>z.elim w fun z=>ho a p e z⟩,fun i p e=>Gh.add_old hid e,rfl,hg⟩
theorem Rel0.live {h:Heap} {X:Addr→Prop} (R:Rel0 c env g σ h) {id:Id} {ob:Ob} {q o:Addr} (hX:∀ a,X a→g.X a) (ho:g.X o) (hn':¬ X o) (hfa:¬ FA env o) (hid:g.cs id=none)
    (hob:(∀ a p,Fz env g h a p→Fz env (({ g with X:=X }:Gh).add id q o) h a p)→(∀ i a,g.rho i=some a→(({ g with X:=X }:Gh).add id q o).rho i=some a)→ObR c env (({ g with X:=X }:Gh).add id q o) h ob q o)
    (hσ:Grows σ σ' id ob):Rel0 c env (({ g with X:=X }:Gh).add id q o) σ' h:=
  have kF:∀ a p,Fz env g h a p→Fz env (({ g with X:=X }:Gh).add id q o) h a p:=fun a p z=>⟨z.1,fun w=>w.elim z.2.1 fun e=>z.2.2.1 (e▸ho),fun x=>z.2.2.1 (hX a x),z.2.2.2⟩
  R.more (G:={ g with X:=X }) rfl rfl kF (fun _ _ _ e=>e) (fun _ e=>e) (fun a x=>R.xob a (hX a x)) R.fob (fun a w x=>(R.dis a w).1 (hX a x)) (fun a w e=>(R.dis a w).1 (e▸ho)) hn' hfa (R.xob o ho) hid (hob kF) hσ
theorem Ext.live {X:Addr→Prop} {id:Id} {q o:Addr} {g₀:Gh} (x:Ext env g₀ { g₁ with X:=X } s s₁) (ho:∀ a p,s.heap.get? a=some p→a≠o) (hid:g₁.cs id=none):Ext env g₀ (({ g₁ with X:=X }:Gh).add id q o) s s₁:=
  ⟨fun a p e w f=>⟨(x.fz a p e w f).1,fun z=>z.elim (x.fz a p e w f).2 fun z=>ho a p e z⟩,fun i p e=>Gh.add_old (g:={ g₁ with X:=X }) hid (x.cs i p e),x.X,x.gens⟩
end
end Mine
end
noncomputable section
open PySem PySem.Calls PyProof.Rows PySem.W
namespace Mine
theorem Kg {C:Ora}:∀ {es:List ME} {σ σ':St} {vs:List Mine.V},evs C es σ=some (vs,σ')→vs.length=es.length
  | [],_,_,_,h=>by cases h; rfl
  | _ :: _,_,_,_,h=>bnE h fun v σ₁ h1 h=>bnE h fun vs σ₂ h3 h4=>by cases h4; exact congrArg (· + 1) (Kg h3)
section
variable {c:Cx} {r:Nat} {env:Env} {A:Around} {σ σ':St} {g g₁:Gh} {s s' s₁ s₂:Shared} {E:Value→Shared→Prop} {Q:Value→Shared→Prop} {v:Mine.V} {D:Addr→Prop}

theorem KI {lv:LV} {ob:Ob} {v:Mine.V} {h':Heap} {P:Mine.V→Prop} (h:σ.alloc lv ob=some (v,σ')) (hl:lv≠.frz) (R:Rel0 c env g σ h') (k:∀ id,g.cs id=none→Grows σ σ' id ob→P (.obj id)):P v:=by
  cases lv with
  | frz=>exact absurd rfl hl
  | tmp=>cases h; exact k _ (R.nx _ (Nat.le_refl _)) ⟨rfl,rfl,Nat.le_succ _,fun _ z=>z,Nat.lt_succ_self _⟩
  | per n =>
    have h:(if n∈σ.ps then none else some (Mine.V.obj (.p n),{ σ with hp:=(.p n,ob) :: σ.hp,ps:=n :: σ.ps }))=some (v,σ'):=h
    by_cases hk:n∈σ.ps
    · rw [if_pos hk] at h; exact nn h
    · rw [if_neg hk] at h; cases h; exact k _ (R.ps _ hk) ⟨rfl,rfl,Nat.le_refl _,fun _ z=>.tail _ z,.head _⟩
theorem Bd {ob:Ob} {w:Mine.V} (h:σ.alloc .frz ob=some (v,σ')) (hw:ob.frz=some w):some (w,σ)=some (v,σ'):=by
  have h:bo ob.frz (fun v=>some (v,σ))=some (v,σ'):=h
  rw [hw] at h; exact h

theorem Nxt.list {lv:LV} {l:List Mine.V} {items:Array Value} {n:Nat} (h:σ.alloc lv (.list l)=some (v,σ')) (N:Nxt c env g s v σ' Q) (R:Rel c env g σ s) (hv:Vxs c env g s l items.toList) :
    Q (.ref s.heap.objs.size) { s with heap:=s.heap.push { cls:=.type "list",dict:=none,data:=.seq items n,slots:=#[] } }:=by
  by_cases hl:lv=.frz
  · subst hl
    exact (N.of (Bd h rfl)).newList (t:=s.toks) R hv R.pos
  · have hi:IsL (s.heap.push { cls:=.type "list",dict:=none,data:=.seq items n,slots:=#[] }) s.heap.objs.size items n:=Heap.get?_push_size _ rfl
    exact KI (P:=fun v=>Nxt c env g s v σ' Q→_) h hl R.toRel0 (fun id hid hσ N=>N _ { s with heap:=s.heap.push { cls:=.type "list",dict:=none,data:=.seq items n,slots:=#[] } } (g.add id s.heap.objs.size s.heap.objs.size)
      ⟨R.toRel0.add (ob:=.list l) (.grown (QO _ _)) (KC (Nat.le_refl _)) ⟨_,hi⟩ hid (fun k1 k2=>⟨rfl,items,n,hi,hv.mono k1 k2⟩) hσ,R.pos⟩ (.obj Gh.add_rho) (Ext.add (.grown (QO _ _)) (KC (Nat.le_refl _)) hid rfl)) N

theorem Z8 {n:Nat} (h:n≤1000):n≤sizeLine:=Nat.le_trans h (by rw [sizeLine_eq]; decide)
theorem ZEv {es:List Expr} {C:Ora} {mes:List ME} {lv:LV} {pos} (hs:es.all Jb=true) (hlen:mes.length≤1000) (H:Jx c r env es (evs C mes)):JD c r env (.List es pos) (ev C (.lst mes lv)):=fun _ _ _ _ _ _ _ _ hr hf R N=>bnE hf fun vs σ₁ h1 h2=>wpAny_List (by
  rw [UA hs]
  exact H hr h1 R fun xs s₁ g₁ R₁ X₁ E₁=>⟨by rw [← X₁.length,Kg h1]; exact Z8 hlen,Nxt.list h2 (N.trans E₁) R₁ X₁⟩)
theorem ZEo {es:List Expr} {C:Ora} {mes:List ME} {k pos} (hs:es.all Jb=true) (hlen:mes.length≤1000) (H:Jx c r env es (evs C mes)):JD c r env (.Tuple es k pos) (ev C (.tup mes)):=fun _ _ _ _ _ _ _ _ hr hf R N=>bnE hf fun vs σ₁ h1 h2=>wpAny_Tuple (by
  rw [UA hs]
  exact H hr h1 R fun xs s₁ g₁ R₁ X₁ E₁=>⟨by rw [← X₁.length,Kg h1]; exact Z8 hlen,((N.of h2).trans E₁).push (t:=s₁.toks) R₁ (.tup (WY R₁ rfl) rfl rfl (Vxs.push X₁)) R₁.pos⟩)

theorem Zi {l:Addr} {items:Array Value} {n:Nat} {name:Str} {id:String} {pl:Sem Bool} {Q:Value×List Value→Shared→Prop} (hl:IsL s.heap l items n) (hs:Slot "list" name id)
    (ht:typeOf (.builtin id)=pure (.type "method_descriptor")) (h:Q (.builtin id,[.ref l]) s):wpAny c.M A (getMethod (.ref l) name pl) Q E s:=by
  have hT:s.TypeIs (.ref l) "list":=⟨_,hl,rfl⟩
  unfold getMethod
  refine wpAny_bind (wpAny_specialOf hT list_getattribute ?_)
  show wpAny _ _ (if (Manifest.canonical "list.__getattribute__" != "object.__getattribute__")=true then _ else _) _ _ _
  rw [canon_list_getattribute,if_neg Bool.false_ne_true]
  exact wpAny_bind (wpAny_specialOf hT list_getattr_none (wpAny_bind (wpAny_specialOf hT hs.lookup (wpAny_bind (wpAny_of_eq ht (wpAny_bind (wpAny_load hl (wpAny_bind (wpAny_rule (wpAny_pure h))))))))))
theorem ZAb {x:Expr} (h:Jb x=true):[x].all Jb=true:=by rw [List.all_cons,h]; rfl
theorem ZE7 {e x:Expr} {C:Ora} {me mx:ME} {apos pos} (hc:Js e=true) (hs:Jb x=true) (hl:(apos.endLine==pos.line)=true) (H:JD c r env e (ev C me)) (H2:JD c r env x (ev C mx)) :
    JD c r env (.Call (.Attribute e ("append":Str) apos) [x] [] pos) (ev C (.app me mx)):=fun _ _ _ _ _ _ _ _ hr hf R N=>bnE hf fun v σ₁ h1 h =>
  UT hc (ZAb hs) hl (by decide:1 < 25) (H hr h1 R fun a s₁ g₁ R₁ X₁ E₁ pl=>W5 (P:=fun v=>Vx c env g₁ s₁ v a→_) h (fun id l₀ ho₀ h X₁=>bnE h fun y σ₂ h3 h=>X₁.objE fun b hb=>by
    obtain ⟨items,n,hcs,hi,hv⟩:=UU R₁ ho₀ hb
    exact Zi hi slot_list_append type_list_append (P.append_list (H2 hr h3 R₁ fun y' s₂ g₂ R₂ X₂ E₂=>boE (show bo (JA σ₂.hp id) _=some _ from h) fun o ho h=>by
      cases o with
      | list l =>
        exact bdE h fun hb' h=>by
          obtain ⟨items,n,hcs,hi,hv⟩:=UU R₂ ho (E₂.rho hb)
          obtain ⟨R₃,E₃⟩:=YP (f:=fun xs=>xs.push y') (l':=l++[y]) R₂ hcs hi (by rw [Array.toList_push]; exact hv.append (.cons X₂ .nil))
          exact ⟨items,n,by rw [Jg hv]; exact hb',hi,N.of h _ _ _ R₃ .none (E₁.trans (E₂.trans E₃))⟩
      | _=>exact nn h))) X₁)
theorem Bm {id:Id} {l l':List Mine.V} {b:Addr} {items:Array Value} {n:Nat} {f:Array Value→Array Value} {y:Mine.V} {x:Value} {w:Option (Mine.V×St)} (R:Rel c env g σ s) (hcs:g.cs id=some (b,b)) (hi:IsL s.heap b items n)
    (hv:Vxs c env g s l' (f items).toList) (hx:Vx c env g s y x) (N:Nxt c env g s y (σ.setOb id (.list l')) Q):Q x { s with heap:=s.heap.update b (Obj.mapSeq f) }:=by
  obtain ⟨R₃,E₃⟩:=YP (f:=f) R hcs hi hv
  exact N _ _ _ R₃ (hx.ext E₃) E₃
theorem ZAK (items:Array Value):(items.eraseIdxIfInBounds (items.size - 1)).toList=items.toList.take (items.toList.length - 1):=by
  obtain ⟨it⟩:=items
  rw [List.size_toArray,List.eraseIdxIfInBounds_toArray]
  exact List.eraseIdx_length_sub_one.trans List.dropLast_eq_take
theorem Tz (items:Array Value):(items.eraseIdxIfInBounds 0).toList=items.toList.drop 1:=by
  obtain ⟨it⟩:=items
  rw [List.eraseIdxIfInBounds_toArray]
  cases it <;> rfl
theorem ZC2 {e:Expr} {C:Ora} {me:ME} {apos pos} (hc:Js e=true) (hl:(apos.endLine==pos.line)=true) (H:JD c r env e (ev C me)) :
    JD c r env (.Call (.Attribute e ("pop":Str) apos) [] [] pos) (ev C (.pop me [])):=fun _ _ _ _ _ _ _ _ hr hf R N=>bnE hf fun v σ₁ h1 h =>
  UT hc rfl hl (by decide:0 < 25) (H hr h1 R fun a s₁ g₁ R₁ X₁ E₁ pl=>W5 (P:=fun v=>Vx c env g₁ s₁ v a→_) h (fun id l ho h X₁=>boE (show bo (ZS false l) _=some _ from h) fun p hp h=>X₁.objE fun b hb=>bdE hp fun hb' hp=>boE hp fun y hy hp=>by
    cases hp
    obtain ⟨items,n,hcs,hi,hv⟩:=UU R₁ ho hb
    have hz:=Jg hv
    rw [List.getLast?_eq_getElem?] at hy
    obtain ⟨x,hx,hxv⟩:=hv.get hy
    exact Zi hi F.slot_list_pop F.type_list_pop (P.pop_list (y:=x) hi (by rw [hz,← Array.getElem?_toList]; exact hx) (Bm (f:=fun xs=>xs.eraseIdxIfInBounds (items.size - 1)) (l:=l) (w:=none) R₁ hcs hi (by rw [ZAK,← hv.length,List.dropLast_eq_take]; exact hv.take _) hxv ((N.of h).trans E₁)) (by rw [hz]; exact hb'))) X₁)
theorem ZC1 {e:Expr} {C:Ora} {me:ME} {k p apos pos} (hc:Js e=true) (hl:(apos.endLine==pos.line)=true) (H:JD c r env e (ev C me)) :
    JD c r env (.Call (.Attribute e ("pop":Str) apos) [.Constant (.int 0) k p] [] pos) (ev C (.pop me [.k (.int 0)])):=fun _ _ _ _ _ _ _ _ hr hf R N=>bnE hf fun v σ₁ h1 h =>
  UT hc rfl hl (by decide:1 < 25) (H hr h1 R fun a s₁ g₁ R₁ X₁ E₁ pl=>W5 (P:=fun v=>Vx c env g₁ s₁ v a→_) h (fun id l ho h X₁=>boE (show bo (ZS true l) _=some _ from h) fun p hp h=>X₁.objE fun b hb=>by
    cases l with
    | nil=>exact nn hp
    | cons y l =>
      exact gdE hp fun hb' hp=>by
        cases hp
        obtain ⟨items,n,hcs,hi,hv⟩:=UU R₁ ho hb
        have hz:=Jg hv
        obtain ⟨x,hx,hxv⟩:=hv.get (i:=0) rfl
        refine Zi hi F.slot_list_pop F.type_list_pop (P.pop_at_list (wpAny_Constant_int ⟨items,n,0,_,0,x,?_,rfl,hi,rfl,?_,by rw [← Array.getElem?_toList]; exact hx,?_⟩))
        · rw [hz,← BH]; exact Nat.le_of_ble_eq_true hb'
        · rw [hz]; show (if (0≤(0:Int)&&decide ((0:Int) < ((l.length + 1:Nat):Int)))=true then some _ else none)=_
          rw [decide_eq_true (Int.natCast_pos.mpr (Nat.succ_pos _))]; rfl
        · exact Bm (s:={ s₁ with toks:=s₁.toks + 1 }) (f:=fun xs=>xs.eraseIdxIfInBounds 0) (l:=l) (w:=none) R₁.toks hcs hi (by rw [Tz]; exact hv.drop 1) hxv (((N.of h).trans E₁).trans .toks)) X₁)

theorem ZBS {x:Str} (O:c.Ok) (VV:EnvOk env) {es:List Expr} {C:Ora} {mes:List ME} {np pos} (hs:es.all Jb=true) (hk:env.kindOf x=some .globalImplicit) (hx:(x==("__debug__":Str))=false)
    (hd:Qb c x (.type "range")=true) (H2:Jx c r env es (evs C mes)) :
    JD c r env (.Call (.Name x np) es [] pos) (ev C (.bi .range mes)):=fun _ _ _ _ _ _ _ _ hr hf R N=>bnE hf fun vs σ₁ h1 h=>boE h fun w h3 h4=>by
  rw [arm_eval_Call_Name',UA hs]
  refine wpAny_bind (Name_function_global VV.kind hk (Wu O VV hd R (PySem.callWith_type Wx (UB (H2 hr h1 R fun xs s₁ g₁ R₁ X₁ E₁=>?_)))) hx)
  have X:=X₁
  cases vs with
  | nil=>exact nn h3
  | cons b vs =>
  cases vs with
  | nil=>exact X.oneE fun y X=>QE (P:=fun b=>Vx c env g₁ s₁ b y→_) (show onInt b (fun b=>some (V.rng 0 b))=some w from h3) (fun j h3 X=>by cases h3; exact X.intE fun t=>call_range_1 (((N.of h4).trans E₁).push R₁ (.rng (WY R₁ rfl)) (Nat.succ_pos _))) X
  | cons b' vs =>
  cases vs with
  | cons _ _=>exact nn h3
  | nil=>exact X.twoE fun x y X Y=>XU (P:=fun x y=>wpAny c.M _ (call (.type "range") [x,y] []) _ _ s₁) (a:=b) (b:=b') (f:=fun a b=>some (V.rng a b)) h3 X Y fun i j t u e=>by cases e; exact call_range_2 (((N.of h4).trans E₁).push R₁ (.rng (WY R₁ rfl)) (Nat.succ_pos _))
theorem BQ {F:Addr→Obj→Prop} {ρ:Id→Option Addr}:∀ {l:List Mine.V} {ys:List Int} {xs:List Value},Ub l=some ys→VRs c F ρ l xs→numsOf xs=ys∧∀ v∈xs,∃ a t,v=.int a t
  | [],_,_,h,hv=>by cases h; exact hv.nilE ⟨rfl,fun _ h=>nomatch h⟩
  | _ :: _,ys,xs,h,hv=>hv.consE (P:=fun xs=>numsOf xs=ys∧∀ v∈xs,∃ a t,v=.int a t) fun y xs hw hv=>Wf (P:=fun v=>VR c F ρ v y→numsOf (y :: xs)=ys∧∀ v∈y :: xs,∃ a t,v=.int a t) h (fun z h hw=>boE h fun zs h1 h2=>by
      cases h2
      obtain ⟨a,b⟩:=BQ h1 hv
      exact hw.intE (P:=fun y=>numsOf (y :: xs)=z :: zs∧∀ v∈y :: xs,∃ a t,v=.int a t) fun t=>⟨congrArg (z :: ·) a,fun y hy=>(List.mem_cons.mp hy).elim (fun e=>⟨_,_,e⟩) (b y)⟩) hw
theorem ZEp {x:Str} (O:c.Ok) (VV:EnvOk env) {es:List Expr} {C:Ora} {mes:List ME} {np pos} (hs:es.all Jb=true) (hk:env.kindOf x=some .globalImplicit) (hx:(x==("__debug__":Str))=false)
    (hd:Qb c x (.builtin "sum")=true) (H2:Jx c r env es (evs C mes)) :
    JD c r env (.Call (.Name x np) es [] pos) (ev C (.bi .sum mes)):=fun A _ _ _ _ _ E Q hr hf R N=>bnE hf fun vs σ₁ h1 h=>boE h fun w h3 h4=>by
  rw [arm_eval_Call_Name',UA hs]
  refine wpAny_bind (Name_function_global VV.kind hk (Wu O VV hd R (callWith_builtin Wx (UB (H2 hr h1 R fun xs s₁ g₁ R₁ X₁ E₁=>?_)))) hx)
  exact Wc (P:=fun l=>Vxs c env g₁ s₁ l xs→wpAny c.M A (call (.builtin "sum") xs []) Q E s₁) h3 (fun a h X=>X.oneE fun y X=>by
    cases a <;> first | exact nn h | skip
    exact boE h fun ys h5 h6=>by
      cases h6
      exact X.listE fun b items n f1 r1=>by
        obtain ⟨e1,e2⟩:=BQ h5 r1
        have hall:AllInts items:=fun v hv=>e2 v (Array.mem_toList_iff.mpr hv)
        obtain ⟨zs,rfl⟩:=hall.items
        rw [nums_intItems] at e1
        refine QW R₁.pos (sum_intListG hr.1 (IsL.isList f1.1) fun h' tk t' kk htk=>?_)
        rw [preSum_eq,List.take_of_length_le (by rw [List.length_map,Array.length_toList]; exact Nat.le_refl _),e1]
        exact ((N.of h4).trans E₁).grow R₁ (s':={ s₁ with heap:=h',toks:=tk }) kk rfl (.int _ _) htk) X₁
end
end Mine
end
noncomputable section
open PySem PySem.Calls PyProof.Rows PySem.W
namespace Mine
section
variable {c:Cx} {r:Nat} {env:Env} {A:Around} {σ σ':St} {g g₁:Gh} {s s' s₁ s₂:Shared} {E:Value→Shared→Prop} {Q:Value→Shared→Prop} {v:Mine.V} {D:Addr→Prop}

inductive EvAll (c:Cx) (r:Nat) (env:Env) (C:Ora):List Expr→List ME→Prop
  | nil:EvAll c r env C [] []
  | cons {e:Expr} {es:List Expr} {me:ME} {mes:List ME}:JD c r env e (ev C me)→EvAll c r env C es mes→EvAll c r env C (e :: es) (me :: mes)
theorem EvAll.evs {C:Ora} {es:List Expr} {mes:List ME} (h:EvAll c r env C es mes):Jx c r env es (evs C mes):=
  EvAll.rec (motive:=fun es mes _=>Jx c r env es (Mine.evs C mes)) ZCz (fun a _ ih=>ZBR a ih) h

noncomputable def ZG (o:Option Expr) (k:List Nat):Bool:=match o with
  | some e=>ctq fun h=>Expr.Constant.elim (motive_1:=fun _=>Bool) e h fun v _ _=>ctq fun h=>Const.str.elim (motive:=fun _=>Bool) v h fun x=>x==toS k
  | none=>false
theorem KV {o:Option Expr} {k:List Nat} {P:Option Expr→Prop} (h:ZG o k=true) (f:∀ n p,P (some (.Constant (.str (toS k)) n p))):P o:=by
  cases o with
  | none=>exact ff h
  | some e =>
    exact Je h fun q=>Expr.Constant.elim (motive_1:=fun e=>ZG (some e) k=true→P (some e)) e q (fun v n p h=>Je (show (ctq fun h=>Const.str.elim (motive:=fun _=>Bool) v h fun x=>x==toS k)=true from h) fun q=>Const.str.elim (motive:=fun v=>ZG (some (.Constant v n p)) k=true→P (some (.Constant v n p))) v q (fun x h=>bE h▸f n p) h) h
noncomputable def Wa:List (Option Expr)→List (List Nat)→Bool
  | [],ks=>ks.isEmpty
  | o :: r,ks=>match ks with
    | []=>false
    | k :: ks=>ZG o k&&Wa r ks
noncomputable def UD (env:Env) (pos:Pos):List (Option Expr)→List Expr→List (Sem Value×Sem Value)
  | [],_=>[]
  | o :: ks,es=>match o,es with
    | some k,e :: es=>(eval k env,do let x ← eval e env; standAt pos; pure x) :: UD env pos ks es
    | _,_=>[]
theorem OZ {pos:Pos}:∀ {keys:List (Option Expr)} {ks:List (List Nat)} {es:List Expr},Wa keys ks=true →
    (evalEachOpt keys env).zip ((evalEach es env).map fun v=>do let x ← v; standAt pos; pure x)=(UD env pos keys es).map fun p=>(some p.1,p.2)
  | [],_,es,_=>rfl
  | o :: keys,[],es,h=>ff h
  | o :: keys,k :: ks,es,h=>bA h fun h1 h2=>KV (P:=fun o=>(evalEachOpt (o :: keys) env).zip ((evalEach es env).map fun v=>do let x ← v; standAt pos; pure x)=(UD env pos (o :: keys) es).map fun p=>(some p.1,p.2)) h1 fun n p=>by
    cases es with
    | nil=>rfl
    | cons e es=>exact congrArg (List.cons _) (OZ (es:=es) h2)
theorem DP (k:List Nat) (t:Tok):(PySem.strKind c.prog c.w).is (toS k) (.str (toS k) t)=true:=beq_self_eq_true (toS k)
noncomputable def Xr (c:Cx) (r:Nat) (env:Env) (C:Ora) (pos:Pos) (E:Value→Shared→Prop) (es:List Expr) (mes:List ME):Prop:=∀ ⦃keys:List (Option Expr)⦄ ⦃ks:List (List Nat)⦄ ⦃A:Around⦄ ⦃σ σ':St⦄ ⦃vs:List Mine.V⦄ ⦃g:Gh⦄ ⦃s:Shared⦄ ⦃Q:List (Value×Value)→Shared→Prop⦄,
    Wa keys ks=true→ks.length=mes.length→JK A r→evs C mes σ=some (vs,σ')→Rel c env g σ s →
    (∀ ps kvs s' g',Carries (PySem.strKind c.prog c.w) ps kvs→kvs.map (·.1)=ks.map toS→Rel c env g' σ' s'→Vxs c env g' s' vs (kvs.map (·.2))→Ext env g g' s s'→Q ps s') →
    wpAny c.M A (evalPairs (UD env pos keys es)) Q E s
theorem ZAZ {C:Ora} {pos:Pos}:Xr c r env C pos E [] []:=fun keys ks _ _ _ _ g s Q hk hl _ hf R hq=>by
  cases ks with
  | cons _ _=>exact nomatch hl
  | nil=>cases keys with
    | cons _ _=>exact ff hk
    | nil=>cases hf; exact evalPairs_nil (hq [] [] s g trivial rfl R .nil .refl)
theorem ZAG {C:Ora} {pos:Pos} {e:Expr} {es:List Expr} {m:ME} {mes:List ME} (a:JD c r env e (ev C m)) (ih:Xr c r env C pos E es mes):Xr c r env C pos E (e :: es) (m :: mes):=fun keys ks _ _ _ _ g s Q hk hl hr hf R hq=>by
  cases ks with
  | nil=>exact nomatch hl
  | cons k ks=>cases keys with
    | nil=>exact ff hk
    | cons o keys =>
      exact bA hk fun h1 h2=>bnE hf fun v σ₁ k1 h=>bnE h fun vs' σ₂ k3 k4=>by
        cases k4
        exact KV (P:=fun o=>wpAny c.M _ (evalPairs (UD env pos (o :: keys) (e :: es))) Q E s) h1 fun n p=>evalPairs_cons (Constant_str (wpAny_bind (a hr k1 R.toks fun y s₁ g₁ R₁ X₁ E₁=>wpAny_bind (wpAny_standAt (wpAny_pure (ih h2 (Nat.succ.inj hl) hr k3 R₁ fun ps kvs s₂ g₂ hc he R₂ X₂ E₂ =>
          hq _ ((toS k,y) :: kvs) s₂ g₂ ⟨DP k _,rfl,hc⟩ (congrArg (toS k :: ·) he) R₂ (.cons (X₁.ext E₂) X₂) (Ext.toks.trans (E₁.trans E₂))))))))
theorem ZA4 {C:Ora} {pos:Pos} {es:List Expr} {mes:List ME} (H:EvAll c r env C es mes):Xr c r env C pos E es mes:=EvAll.rec (motive:=fun es mes _=>Xr c r env C pos E es mes) ZAZ (fun a _ ih=>ZAG a ih) H

theorem ZFd (O:c.Ok) (R:Rel0 c env g σ h):3 < h.objs.size:=let ⟨o,e⟩:=O.big; Heap.lt_size (R.kin 3 o e).1
theorem ZAS {ks:List (List Nat)} (h:ks.Nodup):(ks.map toS).Nodup:=by
  rw [List.nodup_iff_pairwise_ne,List.pairwise_map]
  exact h.imp fun a e=>a (UW e)
theorem ZAa {C:Ora} {pos:Pos} {es:List Expr} {mes:List ME} (H:EvAll c r env C es mes):∀ keys:List (Option Expr),(UD env pos keys es).length≤mes.length:=
  EvAll.rec (motive:=fun es mes _=>∀ keys:List (Option Expr),(UD env pos keys es).length≤mes.length) (fun keys=>by cases keys with | nil=>exact Nat.zero_le _ | cons o _=>cases o <;> exact Nat.zero_le _)
    (fun _ _ ih keys=>by cases keys with | nil=>exact Nat.zero_le _ | cons o keys=>cases o with | none=>exact Nat.zero_le _ | some _=>exact Nat.succ_le_succ (ih keys)) H
theorem ZA5 {C:Ora} {pos:Pos} {keys:List (Option Expr)} {ks:List (List Nat)} {es:List Expr} {mes:List ME} (H:EvAll c r env C es mes) (hk:Wa keys ks=true) (hl:ks.length=mes.length) (hne:mes≠[]):UD env pos keys es≠[]:=by
  cases H with
  | nil=>exact absurd rfl hne
  | cons a b=>cases keys with
    | nil=>cases ks with
      | nil=>exact nomatch hl
      | cons _ _=>exact ff hk
    | cons o keys=>cases ks with
      | nil=>exact ff hk
      | cons k ks=>exact bA hk fun h1 _=>KV (P:=fun o=>UD env pos (o :: keys) (_ :: _)≠[]) h1 fun _ _=>List.cons_ne_nil _ _
noncomputable def Xn:Obj:={ cls:=.type "dict",data:=.dict #[] }
theorem Nxt.dict (O:c.Ok) {lv:LV} {ks:List (List Nat)} {vs:List Mine.V} {kvs:List (Str×Value)} {h':Heap} {t:Nat} {σ₀:St} (h:σ.alloc lv (.dict ks vs)=some (v,σ')) (N:Nxt c env g s v σ' Q) (R:Rel c env g σ₀ s)
    (R₁:Rel c env g₁ σ s₁) (E₁:Ext env (g.hid (·=s.heap.objs.size)) g₁ { s with heap:=s.heap.push Xn } s₁) (X₁:Vxs c env g₁ s₁ vs (kvs.map (·.2))) (he:kvs.map (·.1)=ks.map toS) (hd:h'.DictOf (PySem.strKind c.prog c.w) s.heap.objs.size kvs)
    (hs:Heap.SameBut s.heap.objs.size s₁.heap h'):Q (.ref s.heap.objs.size) { s₁ with heap:=h',toks:=s₁.toks + t }:=by
  have fr:=KB R
  have hXd:∀ a,a=s.heap.objs.size→g₁.X a:=fun a e=>by rw [E₁.X]; exact .inr e
  have hXg:∀ a,g.X a→g₁.X a:=fun a e=>by rw [E₁.X]; exact .inl e
  obtain ⟨o,ho,hod⟩:=Heap.dictOf_iff.mp hd
  have hs':∀ b p,¬ b=s.heap.objs.size→s₁.heap.get? b=some p→h'.get? b=some p:=fun b p e z=>(hs.2 b e).trans z
  have R₂:Rel c env g₁ σ { s₁ with heap:=h',toks:=s₁.toks + t }:=R₁.changed (D:=(·=s.heap.objs.size)) hXd hs' (fun a e=>e▸⟨o,ho⟩) (fun a e=>e▸fr.2.2) (Nat.lt_of_lt_of_le R₁.pos (Nat.le_add_right _ _))
  have X₂:Vxs c env g₁ { s₁ with heap:=h',toks:=s₁.toks + t } vs (kvs.map (·.2)):=X₁.changed (D:=(·=s.heap.objs.size)) hXd hs'
  have E₂:Ext env g { g₁ with X:=g.X } s { s₁ with heap:=h',toks:=s₁.toks + t }:=Ext.hidden (s':={ s with heap:=s.heap.push Xn }) (D:=(·=s.heap.objs.size)) (QO _ _) rfl (fun a e=>e▸Nat.le_refl _) E₁ hs' rfl
  have hsm:(s.heap.objs.size==sysModules)=false:=beq_false_of_ne fun e=>by
    have:=ZFd O R.toRel0
    rw [e] at this
    exact absurd this (by decide)
  by_cases hlv:lv=.frz
  · subst hlv
    exact N.of (Bd h rfl) _ _ _ (R₂.shown hXg) (.dict ⟨ho,fun w=>(R₂.dis _ w).1 (hXd _ rfl),fr.2.1,fr.2.2⟩ hod he (X₂.shown hXg) hsm) E₂
  · exact KI (P:=fun v=>Nxt c env g s v σ' Q→_) h hlv R₂.toRel0 (fun id hid hσ N=>N _ _ _ ⟨R₂.toRel0.live (ob:=.dict ks vs) hXg (hXd _ rfl) fr.2.1 fr.2.2 hid (fun k1 k2=>⟨rfl,hsm,kvs,hd,he,X₂.mono k1 k2⟩) hσ,R₂.pos⟩ (.obj Gh.add_rho) (Ext.live E₂ (KC (Nat.le_refl _)) hid)) N
theorem ZE3 (O:c.Ok) {keys:List (Option Expr)} {ks:List (List Nat)} {es:List Expr} {C:Ora} {mes:List ME} {lv:LV} {pos} (hk:Wa keys ks=true) (hl:ks.length=mes.length) (hl2:mes.length≤15) (hne:mes≠[]) (H:EvAll c r env C es mes) :
    JD c r env (.Dict keys es pos) (ev C (.dct ks mes lv)):=fun _ _ _ _ g s _ _ hr hf R N=>bnE hf fun vs σ₁ h1 h=>gdE h fun hn h2=>bA hn fun _ hn=>by
  have P:=WY R (o:=Xn) rfl
  have R0:Rel c env (g.hid (·=s.heap.objs.size)) _ { s with heap:=s.heap.push Xn }:=R.hide (QO s.heap Xn) (fun a e=>e▸Nat.le_refl _) (fun a e=>⟨_,e▸P.1⟩) R.pos
  refine wpAny_Dict_pairs (knd:=PySem.strKind c.prog c.w) (OZ hk) (ZA5 H hk hl hne) (Nat.le_trans (ZAa H keys) hl2) (ZA4 H hk hl hr h1 R0 fun ps kvs s₁ g₁ hc he R₁ X₁ E₁=>⟨kvs,hc,?_,fun h' hd hs=>?_⟩)
  · have e3:=(E₁.fz _ _ P.1 P.2.1 P.2.2.2).1
    obtain ⟨o,e1,e2⟩:=Heap.dictOf_iff.mp (Heap.DictOf.new (knd:=PySem.strKind c.prog c.w) s.heap)
    cases P.1.symm.trans e1
    exact Heap.dictOf_iff.mpr ⟨_,e3,e2⟩
  · rw [merged_nil_of_nodup kvs (by rw [he]; exact ZAS (of_decide_eq_true hn))] at hd
    exact Nxt.dict O h2 N R R₁ E₁ X₁ he hd hs
end
end Mine
end
noncomputable section
open PySem PySem.Calls PyProof.Rows PySem.W
namespace Mine
noncomputable def Ym (h:Heap) (d L:Addr):List (Addr×Obj):=(List.range h.objs.size).filterMap fun a=>if a=d∨a=L then none else (h.get? a).map (a,·)
theorem WH {h:Heap} {d L a:Addr} {o:Obj}:(a,o)∈Ym h d L ↔ h.get? a=some o∧a≠d∧a≠L:=by
  unfold Ym
  rw [List.mem_filterMap]
  constructor
  · rintro ⟨b,hb,e⟩
    by_cases hn:b=d∨b=L
    · rw [if_pos hn] at e; exact nn e
    · rw [if_neg hn] at e
      obtain ⟨o',ho,e⟩:=Option.map_eq_some_iff.mp e
      cases e
      exact ⟨ho,fun q=>hn (.inl q),fun q=>hn (.inr q)⟩
  · rintro ⟨ho,h1,h2⟩
    exact ⟨a,List.mem_range.mpr (Heap.lt_size ho),by rw [if_neg (fun q=>q.elim h1 h2),ho]; rfl⟩
section
variable {c:Cx} {r:Nat} {env:Env} {A:Around} {σ σ':St} {g g₁:Gh} {s s' s₁ s₂:Shared} {E:Value→Shared→Prop} {Q:Value→Shared→Prop} {v:Mine.V} {D:Addr→Prop}

theorem FsR.len {F:Addr→Obj→Prop} {ρ:Id→Option Addr} {fs:List (Nat×Mine.V)} {es:List DictEntry} (h:FsR c F ρ fs es):fs.length=es.length:=
  FsR.rec (motive:=fun fs es _=>fs.length=es.length) rfl (fun _ _ _ ih=>congrArg (· + 1) ih) h
theorem FsR.put (O:c.Ok) {F:Addr→Obj→Prop} {ρ:Id→Option Addr} {fs:List (Nat×Mine.V)} {es:List DictEntry} (h:FsR c F ρ fs es) {n:Nat} {x:Value} {hs:Int} {t:Tok} (hv:VR c F ρ v x) :
    FsR c F ρ (Mine.put fs n v) (putL (c.nm n) hs (.str (c.nm n) t) x es):=
  FsR.rec (motive:=fun fs es _=>FsR c F ρ (Mine.put fs n v) (putL (c.nm n) hs (.str (c.nm n) t) x es)) (.cons rfl hv .nil) (fun {n' w fs e es t'} hk hw hr ih=>by
    have e:=Bw hk n
    rw [NY]
    unfold putL
    by_cases hn:n'=n
    · rw [if_pos hn,if_pos (by rw [e,hn]; exact beq_self_eq_true _)]
      exact .cons hk hv hr
    · rw [if_neg hn,if_neg (by rw [e]; exact fun q=>hn (O.inj _ _ (bE q)))]
      exact .cons hk hw ih) h
theorem Dc (n:Nat) (v:Mine.V):∀ fs:List (Nat×Mine.V),(Mine.put fs n v).length≤fs.length + 1
  | []=>Nat.le_refl _
  | (a,b) :: fs=>by
    rw [NY]
    by_cases h:a=n
    · rw [if_pos h]; exact Nat.le_succ _
    · rw [if_neg h]; exact Nat.succ_le_succ (Dc n v fs)
theorem FsR.get_some (O:c.Ok) {F:Addr→Obj→Prop} {ρ:Id→Option Addr} {fs:List (Nat×Mine.V)} {es:List DictEntry} (h:FsR c F ρ fs es) (n k:Nat):(PySem.W.lookIn (c.nm n) (dictOf es k)).isSome=true:=by
  cases q:Mine.JA fs n with
  | some v=>obtain ⟨x,e,-⟩:=h.lookIn_some O (k:=k) q; rw [e]; rfl
  | none=>rw [h.lookIn_none O q]; rfl

theorem X7 (O:c.Ok) {n C:Nat} {o v:Mine.V} {x y:Value} {Q:Unit→Shared→Prop} (hn:J3 c C n=true) (hf:Mine.WP σ n C o v=some σ') (R:Rel c env g σ s) (X:Vx c env g s o x) (Y:Vx c env g s v y)
    (N:∀ s',Rel c env g σ' s'→Ext env g g s s'→Q () s'):wpAny c.M A (PySem.setAttr x (c.nm n) y) Q E s:=
  Uv (P:=fun o=>Vx c env g s o x→_) hf (fun id fs ho h X=>gdE h fun hlen h=>X.objE fun a ha=>by
    cases h
    have hlen:fs.length < 400:=Nat.lt_of_succ_le (Nat.le_of_ble_eq_true hlen)
    have hput:=Dc n v fs
    obtain ⟨q,hc,HO⟩:=U2 R ho ha
    obtain ⟨hC,-,hz,es,k,he,hfs⟩:=HO
    have D:=O.clsOf hC
    obtain ⟨m,hm,-⟩:=R.loc
    have hq:q≠env.locals:=fun e=>(R.dis q (R.cW _ _ _ hc)).2 e
    have F:Fr {} env.locals s.heap m:=⟨hm,fun b o e=>absurd (Heap.lt_size e) (Nat.not_lt_zero _),Nat.zero_le _⟩
    have N0:News {} env.locals s.heap ((q,dictOf es k) :: Ym s.heap q env.locals):=fun p hp=>(List.mem_cons.mp hp).elim (fun e=>by subst e; exact ⟨he,hq,rfl⟩) fun hp=>let z:=WH.mp (show (p.1,p.2)∈_ from hp); ⟨z.1,z.2.2,rfl⟩
    have ht:takerIn c.K (c.cA C) (c.nm n)=some none:=by unfold takerIn; rw [Cls.usual hn]; rfl
    refine set_plain R.kinD (ox:=instObj (c.cA C) q) (C:=c.cA C) (od:=some (dictOf es k)) ⟨hz.1,rfl,rfl,he⟩ D.sa ?_
    refine osa_dict (s:={ s with toks:=s.toks + 1 }) (pre:=[]) (es:=putL (c.nm n) (PyData.keyHash c.w.params (c.nm n)) (.str (c.nm n) (s.toks + 1)) y es) F N0 R.kinD (ox:=instObj (c.cA C) q) ⟨hz.1,rfl,rfl,he⟩ rfl D.over ht D.dict (hfs.get_some O n k) (fun p hp=>nomatch hp) (fun p hp=>(WH.mp (show (p.1,p.2)∈_ from hp)).2.1)
      (putName_dict _ _ _ _ _ _) rfl (by rw [← (hfs.put O Y).len]; clear F N0 he hfs hz hm hc D; omega) fun h' F' N'=>?_
    have K:Keep env (·=q) s.heap h':=.of_ns (fun b p hb hl e=>(N' (b,p) (.tail _ (WH.mpr ⟨e,hb,hl⟩))).1) hm F'.ns
    have hd:=(N' _ (.head _)).1
    exact N _ ⟨R.toRel0.setOb hc K ⟨_,hd⟩ fun kF=>⟨hC,Nat.le_trans hput (Nat.le_trans (Nat.succ_le_succ (Nat.le_of_lt hlen)) (by decide:401≤500)),kF _ _ hz,_,_,hd,(hfs.put O Y).mono kF fun _ _ z=>z⟩,Nat.succ_pos _⟩ (Ext.setOb (R.cW _ _ _ hc) K rfl)) X
end
end Mine
end
noncomputable section
open PySem PySem.Calls PyProof.Rows PySem.W
namespace Mine
section
variable {c:Cx} {r:Nat} {env:Env} {A:Around} {σ σ' σ₁:St} {g g₁:Gh} {s s' s₁ s₂:Shared} {E:Value→Shared→Prop} {Q:Value→Shared→Prop} {v:Mine.V} {D:Addr→Prop}

theorem DV:isSeqSlot (some (.builtin "list.__iadd__"))=true:=by decide +kernel
theorem Ty:fillsInplaceSlot (.type "list") "add" true=pure false:=by
  unfold fillsInplaceSlot
  show (typeLookup (.type "list") (dunderI "add") >>= fun fi=>pure (fi.isSome&&!isSeqSlot fi))=pure false
  rw [F.slot_list_iadd.lookup]
  show (pure (_&&!isSeqSlot _):Sem Bool)=_
  rw [DV]; rfl
theorem TZ:seqSlot? (.type "list") (dunderI "add")=pure (some (.builtin "list.__iadd__")):=by
  unfold seqSlot?
  rw [F.slot_list_iadd.lookup]
  rw [pure_bind,DV]; rfl
theorem ZAl {l b:Addr} {items items2:Array Value} {n n2:Nat} (hl:IsL s.heap l items n) (hb:IsL s.heap b items2 n2) (hz:items.size + items2.size≤sizeLine)
    (h:Q (.ref l) { s with heap:=s.heap.update l (Obj.mapSeq fun x=>x++items2) }):wpAny c.M A (inplaceOp .Add (.ref l) (.ref b)) Q E s:=by
  have ha:s.TypeIs (.ref l) "list":=⟨_,hl,rfl⟩
  have hb':s.TypeIs (.ref b) "list":=⟨_,hb,rfl⟩
  have hzl:=Nat.not_lt.mpr hz
  delta inplaceOp; dsimp only
  refine wpAny_holding (wpAny_bind (wpAny_typeOf ha (wpAny_bind (wpAny_of_eq Ty ?_))))
  show wpAny _ _ (if false=true then _ else _) _ _ _
  rw [if_neg Bool.false_ne_true]
  refine wpAny_bind (binaryOp1_none (nm:="add") ha hb' PySem.noFill_list_add (wpAny_bind (wpAny_of_eq TZ (wpAny_bind (wpAny_rule ?_)))))
  exact call_meets F.slot_list_iadd ha F.entry_list_iadd (F.args_list_iadd_2 _ _) (AutoSeq1.list___iadd___list_list_0 l items n b items2 n2 (by
    unfold Builtin.List.listTooLong
    exact fun q=>hzl (of_decide_eq_true (Bool.and_eq_true_iff.mp q).2)) (by clear ha hb' hl hb h; omega) (by clear ha hb' hl hb h; omega)) ⟨hl,hb,h⟩
noncomputable def Uk:Bop→Operator
  | .add=>.Add | .sub=>.Sub | .mul=>.Mult | .fdiv=>.FloorDiv | .mod=>.Mod
theorem ZCV {o:Bop} {i:Int} {b w:Mine.V} {x y:Value} (ho:o=.add∨o=.sub) (hf:Jo σ o (.int i) b=some w) (R:Rel c env g σ s) (hx:Vx c env g s (.int i) x) (hy:Vx c env g s b y) (N:Nxt c env g s w σ Q):wpAny c.M A (inplaceOp (Uk o) x y) Q E s:=by
  rcases ho with rfl | rfl
  · exact QE (P:=fun b=>Vx c env g s b y→_) (show onInt b (fun b=>some (V.int (i + b)))=some w from hf) (fun j h hy=>by cases h; exact hx.intE (P:=fun x=>wpAny c.M A (inplaceOp .Add x y) Q E s) fun t=>hy.intE (P:=fun y=>wpAny c.M A (inplaceOp .Add _ y) Q E s) fun u=>PyProof.Rows.iadd_int (N.toks R (.int _ _))) hy
  · exact XU (P:=fun x y=>wpAny c.M A (inplaceOp .Sub x y) Q E s) (a:=.int i) (b:=b) (f:=fun a b=>some (V.int (a - b))) hf hx hy fun i j t u e=>by cases e; exact P.isub_int (N.toks R (.int _ _))
theorem ZCU {o:Bop} {z:List Nat} {b w:Mine.V} {x y:Value} (ho:o=.add∨o=.sub) (hf:Jo σ o (.str z) b=some w) (R:Rel c env g σ s) (hx:Vx c env g s (.str z) x) (hy:Vx c env g s b y) (N:Nxt c env g s w σ Q):wpAny c.M A (inplaceOp (Uk o) x y) Q E s:=by
  rcases ho with rfl | rfl
  · exact Qg (P:=fun b=>Vx c env g s b y→_) (show onStr b (fun b=>bd (z.length + b.length) (some (V.str (z++b))))=some w from hf) (fun w h hy=>bdE h fun hl e=>by
      cases e
      exact hx.strE (P:=fun x=>wpAny c.M A (inplaceOp .Add x y) Q E s) fun t=>hy.strE (P:=fun y=>wpAny c.M A (inplaceOp .Add _ y) Q E s) fun u=>QW R.pos (PyProof.Rows.iadd_str (fun t' tk ht=>YC z w▸N.toks R (.str _ _) ht) (by rw [Jj,Jj]; exact hl))) hy
  · exact nn hf
theorem K6 {o:Bop} {a b w:Mine.V} {x y:Value} (ho:o=.add∨o=.sub) (hf:Xk σ o a b=some (w,σ')) (R:Rel c env g σ s) (hx:Vx c env g s a x) (hy:Vx c env g s b y) (N:Nxt c env g s w σ' Q):wpAny c.M A (inplaceOp (Uk o) x y) Q E s:=by
  cases a with
  | int i=>exact boE (show bo (Jo σ o (.int i) b) (fun w=>some (w,σ))=some (w,σ') from hf) fun u h1 h2=>ZCV ho h1 R hx hy (N.of h2)
  | str z=>exact boE (show bo (Jo σ o (.str z) b) (fun w=>some (w,σ))=some (w,σ') from hf) fun u h1 h2=>ZCU ho h1 R hx hy (N.of h2)
  | obj id =>
    refine gdE (show gd (decide (o=.add)) (onList σ (.obj id) fun id l=>onListOf σ b fun l'=>bd (l.length + l'.length) (some (V.obj id,σ.setOb id (.list (l++l')))))=some (w,σ') from hf) fun h1 h=>boE (show bo (JA σ.hp id) _=some (w,σ') from h) fun ob hob h=>?_
    cases of_decide_eq_true h1
    cases ob <;> first | exact nn h | skip
    rename_i l
    exact hx.objE (P:=fun x=>wpAny c.M A (inplaceOp .Add x y) Q E s) fun a1 ha=>UE (P:=fun y=>wpAny c.M A (inplaceOp .Add _ y) Q E s) R h hy fun l' a2 i2 n2 h hi2 hv2=>bdE h fun hz e=>by
      obtain ⟨i1,n1,hcs,hi1,hv1⟩:=UU R hob ha
      obtain ⟨R₃,E₃⟩:=YP (f:=fun x=>x++i2) (l':=l++l') R hcs hi1 (by rw [Array.toList_append]; exact hv1.append hv2)
      exact ZAl hi1 hi2 (by rw [Jg hv1,Jg hv2]; exact hz) (N.of e _ _ _ R₃ (.obj (E₃.rho ha)) E₃)
  | _=>exact nn hf

theorem Qp.set (O:c.Ok) {F:Addr→Obj→Prop} {ρ:Id→Option Addr} {loc:List (Nat×Mine.V)} {m m':Str→Option Value} {n:Nat} {v:Mine.V} {x:Value} (hk:env.kindOf (c.nm n)=some .local) (h:Qp c env F ρ loc m) (X:VR c F ρ v x) (h1:m' (c.nm n)=some x) (h2:∀ y,y≠c.nm n→m' y=m y):Qp c env F ρ (put loc n v) m':=fun n' v' e=>by
  rw [QD] at e
  by_cases hnn:n=n'
  · rw [if_pos hnn] at e
    cases e
    subst hnn
    exact ⟨fun _=>⟨x,h1,X⟩,fun z=>by rw [hk] at z; cases z⟩
  · rw [if_neg hnn] at e
    exact ⟨fun z=>((h n' v' e).1 z).imp fun y w=>⟨(h2 _ fun q=>hnn (O.inj _ _ q).symm).trans w.1,w.2⟩,(h n' v' e).2⟩
theorem Ut (O:c.Ok) (VV:EnvOk env) {n:Nat} {v:Mine.V} {x:Value} {Q:Unit→Shared→Prop} (hk:env.kindOf (c.nm n)=some .local) (R:Rel c env g σ s) (X:Vx c env g s v x)
    (N:∀ s',Rel c env g (σ.setLoc n v) s'→Ext env g g s s'→Q () s'):wpAny c.M A (storeName env (c.nm n) x) Q E s:=by
  obtain ⟨m,hm,hl⟩:=R.loc
  refine wpAny_storeName_local hk hm (fun h' hn hs=>?_) (by rw [VV.kind]; rfl)
  have kF:∀ a o,Fz env g s.heap a o→Fz env g h' a o:=fun a o z=>⟨(hs.2 _ (fun e=>z.2.2.2 e)).trans z.1,z.2⟩
  have kk:∀ b p,b≠env.locals→s.heap.get? b=some p→h'.get? b=some p:=fun b p hb e=>(hs.2 _ hb).trans e
  have al:∀ a,(∃ p,s.heap.get? a=some p)→∃ p,h'.get? a=some p:=fun a e=>Classical.byCases (fun e2:a=env.locals=>e2▸nsO hn) fun e2=>e.imp fun p z=>kk _ _ e2 z
  exact N _ ⟨⟨fun a o e=>kF _ _ (R.kin a o e),fun a e=>al a (R.wob a e),fun a e=>al a (R.xob a e),fun a e=>al a (R.fob a e),R.dis,⟨_,hn,(hl.mono kF fun _ _ z=>z).set O hk (X.mono kF fun _ _ z=>z) (if_pos rfl) fun y hy=>if_neg hy⟩,
    fun id ob e=>(R.obs id ob e).imp fun r'=>Exists.imp fun o' z=>⟨z.1,z.2.mono kF (fun _ _ z=>z) fun p=>kk _ _ (R.dis _ (R.cW _ _ _ z.1)).2⟩,R.cW,R.inj,R.nx,R.ps⟩,Nat.succ_pos _⟩
    ⟨fun a o e w f=>⟨kk _ _ (fun q=>f q) e,w⟩,fun _ _ e=>e,rfl,rfl⟩

noncomputable def FlR (c:Cx) (env:Env) (g:Gh) (s:Shared) (f:FL) (w:Flow):Prop:=match f with
  | .next=>w=.next
  | .brk=>w=.brk
  | .cont=>w=.cont
  | .ret v=>∃ x,w=.ret x∧Vx c env g s v x
noncomputable def Q9 (c:Cx) (env:Env) (g:Gh) (s:Shared) (f:FL) (σ':St) (Q:Flow→Shared→Prop):Prop:=
  ∀ w s' g',Rel c env g' σ' s'→FlR c env g' s' f w→Ext env g g' s s'→Q w s'
theorem Q9.trans {f:FL} {Q:Flow→Shared→Prop} (N:Q9 c env g s f σ' Q) (x:Ext env g g₁ s s₁):Q9 c env g₁ s₁ f σ' Q:=fun w s' g' R h e=>N w s' g' R h (x.trans e)
theorem Q9.of {f f':FL} {Q:Flow→Shared→Prop} (e:some (f',σ₁)=some (f,σ')) (N:Q9 c env g s f σ' Q):Q9 c env g s f' σ₁ Q:=by cases e; exact N
theorem Q9.nxt {Q:Flow→Shared→Prop} (N:Q9 c env g s .next σ' Q) {g':Gh} {s':Shared} (R:Rel c env g' σ' s') (x:Ext env g g' s s'):Q .next s':=N _ _ _ R rfl x
noncomputable def JN (c:Cx) (r:Nat) (env:Env) (b:Stmt) (f:St→Option (FL×St)):Prop:=
  ∀ ⦃A:Around⦄ ⦃σ:St⦄ ⦃fl:FL⦄ ⦃σ':St⦄ ⦃g:Gh⦄ ⦃s:Shared⦄ ⦃E:Value→Shared→Prop⦄ ⦃Q:Flow→Shared→Prop⦄,
    JK A r→f σ=some (fl,σ')→Rel c env g σ s→Q9 c env g s fl σ' Q→wpAny c.M A (exec b env) Q E s
noncomputable def Qk (c:Cx) (r:Nat) (env:Env) (b:List Stmt) (f:St→Option (FL×St)):Prop:=
  ∀ ⦃A:Around⦄ ⦃σ:St⦄ ⦃fl:FL⦄ ⦃σ':St⦄ ⦃g:Gh⦄ ⦃s:Shared⦄ ⦃E:Value→Shared→Prop⦄ ⦃Q:Flow→Shared→Prop⦄,
    JK A r→f σ=some (fl,σ')→Rel c env g σ s→Q9 c env g s fl σ' Q→wpAny c.M A (execs b env) Q E s
variable {C:Ora} {e t:Expr} {m mt:ME} {pos:Pos} {n D:Nat} {b o:List Stmt} {mb mo:List MS}
theorem ZCl:Qk c r env [] (exs C []):=fun _ _ _ _ _ _ _ _ _ hf R N=>wpAny_execs_nil ((N.of hf).nxt R .refl)
theorem ZBO {b:Stmt} {bs:List Stmt} {m:MS} {ms:List MS} (H:JN c r env b (exc C m)) (H2:Qk c r env bs (exs C ms)):Qk c r env (b :: bs) (exs C (m :: ms)):=fun _ _ _ _ _ _ _ _ hr hf R N=>bnE hf fun fl σ₁ h1 h2 =>
  wpAny_execs_cons (H hr h1 R fun w s₁ g₁ R₁ X₁ E₁=>by
    cases fl with
    | next=>cases X₁; exact H2 hr h2 R₁ (N.trans E₁)
    | brk=>cases X₁; exact N.of h2 _ _ _ R₁ rfl E₁
    | cont=>cases X₁; exact N.of h2 _ _ _ R₁ rfl E₁
    | ret v=>obtain ⟨x,rfl,hx⟩:=X₁; exact N.of h2 _ _ _ R₁ ⟨x,rfl,hx⟩ E₁)
theorem ZCo:JN c r env (.Pass pos) (exc C .pass):=fun _ _ _ _ _ _ _ _ _ hf R N=>wpAny_Pass ((N.of hf).nxt R .refl)
theorem ZEm:JN c r env (.Break pos) (exc C .brk):=fun _ _ _ _ _ _ _ _ _ hf R N=>wpAny_Break (N.of hf _ _ _ R rfl .refl)
theorem ZCq:JN c r env (.Continue pos) (exc C .cont):=fun _ _ _ _ _ _ _ _ _ hf R N=>wpAny_Continue (N.of hf _ _ _ R rfl .refl)
theorem ZEi (H:JD c r env e (ev C m)):JN c r env (.Return (some e) pos) (exc C (.ret m)):=fun _ _ _ _ _ _ _ _ hr hf R N=>bnE hf fun v σ₁ h1 h2=>wpAny_Return_some (H hr h1 R fun x s₁ g₁ R₁ X₁ E₁=>N.of h2 _ _ _ R₁ ⟨x,rfl,X₁⟩ E₁)
theorem ZCn:JN c r env (.Return none pos) (exc C (.ret (.k .none))):=fun _ _ _ _ _ _ _ _ _ hf R N=>wpAny_Return_none (N.of (show some (FL.ret .none,_)=some _ from hf) _ _ _ R ⟨_,rfl,.none⟩ .refl)
theorem ZEj (H:JW c r env t (tst C mt)) (H2:Qk c r env b (exs C mb)) (H3:Qk c r env o (exs C mo)):JN c r env (.If t b o pos) (exc C (.iff mt mb mo)):=fun _ _ _ _ _ _ _ _ hr hf R N=>bnE hf fun q σ₁ h1 h2=>wpAny_If (H hr h1 R fun s₁ g₁ R₁ E₁=>by
  cases q with
  | true=>exact H2 hr h2 R₁ (N.trans E₁)
  | false=>exact H3 hr h2 R₁ (N.trans E₁))
theorem ZCu (H:JW c r env t (tst C mt)):JN c r env (.Assert t none pos) (exc C (.asrt mt)):=fun _ _ _ _ _ _ _ _ hr hf R N=>bnE hf fun q σ₁ h1 h2=>gdE h2 fun hq h2=>wpAny_Assert hr.1 (H hr h1 R fun s₁ g₁ R₁ E₁=>by subst hq; exact (N.of h2).nxt R₁ E₁)

noncomputable def QQ (e:Expr):Bool:=(ctt fun h=>Expr.ListComp.elim (motive_1:=fun _=>Bool) e h fun _ _ _ _=>false)&&((ctt fun h=>Expr.SetComp.elim (motive_1:=fun _=>Bool) e h fun _ _ _ _=>false)&&ctt fun h=>Expr.DictComp.elim (motive_1:=fun _=>Bool) e h fun _ _ _ _ _=>false)
theorem W1 {e:Expr} (h:QQ e=true) {t:Option Expr} {n:Nat}:swapsWith e t n env=pure false:=by
  cases e <;> first | rfl | exact ff h
theorem ZEn (O:c.Ok) (VV:EnvOk env) {np} (hk:env.kindOf (c.nm n)=some .local) (hc:QQ e=true) (H:JD c r env e (ev C m)):JN c r env (.Assign [.Name (c.nm n) np] e pos) (exc C (.asg n m)):=fun _ _ _ _ _ _ _ _ hr hf R N=>bnE hf fun v σ₁ h1 h2 =>
  wpAny_Assign_Name (H hr h1 R fun x s₁ g₁ R₁ X₁ E₁=>Ut O VV hk R₁ X₁ fun s₂ R₂ E₂=>(N.of h2).nxt R₂ (E₁.trans E₂)) (W1 hc)
theorem ZCy (O:c.Ok) {np} (hn:J3 c D n=true) (hc:QQ e=true) (H:JD c r env e (ev C m)) (H2:JD c r env t (ev C mt)):JN c r env (.Assign [.Attribute t (c.nm n) np] e pos) (exc C (.asgA mt n D m)):=fun _ _ _ _ _ _ _ _ hr hf R N=>bnE hf fun v σ₁ h1 h=>bnE h fun o σ₂ h3 h=>boE h fun σ₃ h5 h6 =>
  plainObj_wpAny_Assign_Attribute (H hr h1 R fun x s₁ g₁ R₁ X₁ E₁=>H2 hr h3 R₁ fun y s₂ g₂ R₂ X₂ E₂ =>
    X7 O hn h5 R₂ X₂ (X₁.ext E₂) fun s₃ R₃ E₃=>(N.of h6).nxt R₃ (E₁.trans (E₂.trans E₃))) (W1 hc)
theorem ZGi (hi:interactive env=false) (hc:QQ e=true) (H:JD c r env e (ev C m)):JN c r env (.Expr e pos) (exc C (.ex m)):=fun _ _ _ _ _ _ _ _ hr hf R N=>bnE hf fun v σ₁ h1 h=>gdE h fun hv h2 =>
  wpAny_Expr (H hr h1 R fun x s₁ g₁ R₁ X₁ E₁=>by
    have n:=(N.of h2).nxt R₁ E₁
    cases v <;> first | exact ff hv | skip
    · exact X₁.noneE n
    · exact X₁.boolE n
    · exact X₁.strE fun t=>n) hi (W1 hc)
end
end Mine
end
noncomputable section
open PySem PySem.Calls PyProof.Rows PySem.W
namespace Mine
section
variable {c:Cx} {r:Nat} {env:Env} {A:Around} {σ σ':St} {g g₁:Gh} {s s' s₁ s₂:Shared} {E:Value→Shared→Prop} {Q:Value→Shared→Prop} {v:Mine.V} {D:Addr→Prop}

inductive WhlI (c:Cx) (env:Env) (C:Ora) (mt:ME) (mb:List MS) (g:Gh) (s:Shared) (w:FL×St) (n:Nat) (s':Shared):Prop
  | mk (σ₁:St) (g₁:Gh) (R:Rel c env g₁ σ₁ s') (E:Ext env g g₁ s s') (run:J0 (tst C mt) (exs C mb) n σ₁=some w)
theorem ZEh {C:Ora} {t:Expr} {b:List Stmt} {mt:ME} {mb:List MS} {pos} (H:JW c r env t (tst C mt)) (H2:Qk c r env b (exs C mb)):JN c r env (.While t b [] pos) (exc C (.whl mt mb)):=fun A σ fl σ' g s E Q hr hf R N =>
  wpAny_While (codeAny_whileLoop (I:=WhlI c env C mt mb g s (fl,σ')) (fun n s₁ h=>by
    cases h with
    | mk σ₁ g₁ R₁ E₁ h =>
      cases n with
      | zero=>exact nn h
      | succ n =>
        exact bnE h fun q σ₂ h1 h2=>H hr h1 R₁ fun s₂ g₂ R₂ E₂=>by
          cases q with
          | false=>exact wpAny_execs_nil ((N.of h2).nxt R₂ (E₁.trans E₂))
          | true =>
            exact bnE h2 fun f σ₃ h3 h4=>H2 hr h3 R₂ fun w s₃ g₃ R₃ X₃ E₃=>by
              have E:=E₁.trans (E₂.trans E₃)
              have nx:J0 (tst C mt) (exs C mb) n σ₃=some (fl,σ')→∃ m,m < n + 1∧WhlI c env C mt mb g s (fl,σ') m s₃:=fun h=>⟨n,Nat.lt_succ_self _,.mk σ₃ g₃ R₃ E h⟩
              cases f with
              | next=>cases X₃; exact nx h4
              | cont=>cases X₃; exact nx h4
              | brk=>cases X₃; exact (N.of h4).nxt R₃ E
              | ret v=>obtain ⟨x,rfl,hx⟩:=X₃; exact N.of h4 _ _ _ R₃ ⟨x,rfl,hx⟩ E) Qc (.mk σ g R .refl hf))

noncomputable def IW (p:Obj):Prop:=∃ T,p.cls=.type T∧["enumerate","zip","dict_itemiterator","dict_reverseitemiterator","odict_iterator","itertools.zip_longest","itertools.pairwise"].contains T=false
theorem ZA6 {c:Cx} {A:Around} {s:Shared} {E:Value→Shared→Prop} {Q:Unit→Shared→Prop} {a:Addr} {p:Obj} (hp:s.heap.get? a=some p) (ho:IW p) (t:Expr) (y:Value) (h:Q () s):wpAny c.M A (letOwnedTupleGo t (.ref a) y) Q E s:=by
  have main:wpAny c.M A (do
      let (.ref r,.ref a):=((Value.ref a,y):Value×Value) | return
      let o ← load r
      match o.cls,o.data with
      | .type n,.fields vs =>
        if ["enumerate","zip","dict_itemiterator","dict_reverseitemiterator","odict_iterator","itertools.zip_longest","itertools.pairwise"].contains n&&vs[0]?==some (rawInt a) then
          rule "for.unpacks-the-owned-tuple"
          updateField r 0 .none
      | _,_=>pure ()) Q E s:=by
    cases y <;> first | exact wpAny_pure h | skip
    obtain ⟨T,hc,hT⟩:=ho
    refine wpAny_bind (wpAny_load hp ?_)
    obtain ⟨cls,dict,data,slots⟩:=p
    cases hc
    cases data <;> first | exact wpAny_pure h | skip
    show wpAny _ _ (if (_&&_)=true then _ else _) _ _ _
    rw [hT,Bool.false_and,if_neg Bool.false_ne_true]
    exact wpAny_pure h
  cases t <;> first | exact wpAny_pure h | exact main
structure ItF (c:Cx) (env:Env) (g:Gh) (s:Shared) (l:List Mine.V) (o:Obj) (fp:List Addr) (P:Nat→Value→Prop) (S:Nat→Heap→Prop):Prop where
  fr:o.isFreed=false
  walks:∀ A':Around,A'.handled=none→Walks c.prog c.w A' s.heap.objs.size fp [s.heap.objs.size] l.length P S
  s0:S 0 (s.heap.push o)
  item:∀ i y,i < l.length→P i y→∃ w,l[i]?=some w∧Vx c env g s w y
  fp:∀ b∈fp,b=s.heap.objs.size∨∃ o,Fz env g s.heap b o
  alive:∀ i h,S i h→∃ p,h.get? s.heap.objs.size=some p∧IW p
theorem Dx {l:List Mine.V} {items:Array Value} (r1:Vxs c env g s l items.toList) (i:Nat) (y:Value) (hlt:i < l.length) (hy:items[i]?=some y):∃ w,l[i]?=some w∧Vx c env g s w y:=by
  obtain ⟨y',e1,e2⟩:=r1.get (List.getElem?_eq_getElem hlt)
  rw [Array.getElem?_toList,hy] at e1
  cases e1
  exact ⟨_,List.getElem?_eq_getElem hlt,e2⟩
theorem Z3 {a b:Addr} {P:Prop} (hb:b∈[a]):b=a∨P:=.inl (List.mem_singleton.mp hb)
theorem O8 {x a b:Addr} {o:Obj} (f:Fz env g s.heap a o) (hb:b∈[x,a]):b=x∨∃ o,Fz env g s.heap b o:=(List.mem_cons.mp hb).imp id fun hb=>by cases List.mem_singleton.mp hb; exact ⟨o,f⟩
theorem BC {w:List Nat} (i:Nat) (y:Value) (h:SignAt (toS w) i y):∃ u,(w.map fun c=>Mine.V.str [c])[i]?=some u∧Vx c env g s u y:=by
  obtain ⟨d,u,h1,rfl⟩:=h
  refine ⟨.str [d],?_,.str [d] u⟩
  have:w[i]?=some d:=(List.getElem?_toArray (xs:=w) (i:=i)).symm.trans h1
  rw [List.getElem?_map,this]; rfl
theorem ZDi {a b:Int} {P:Prop} (h:(Qi a&&Qi b)=true) (k:-16777216≤a→a≤16777216→-16777216≤b→b≤16777216→P):P:=
  bA h fun h1 h2=>bA h1 fun a1 a2=>bA h2 fun b1 b2=>k (of_decide_eq_true a1) (of_decide_eq_true a2) (of_decide_eq_true b1) (of_decide_eq_true b2)
theorem ZA0 {lo hi:Int}:(if lo < hi then hi - lo else 0)=(((hi - lo).toNat:Int) - ((0:Nat):Int)):=by
  show _=((hi - lo).toNat:Int) - 0
  by_cases h:lo < hi
  · rw [if_pos h,Int.sub_zero,Int.toNat_of_nonneg (Int.sub_nonneg_of_le (Int.le_of_lt h))]
  · rw [if_neg h,Int.sub_zero,Int.toNat_of_nonpos (Int.sub_nonpos_of_le (Int.not_lt.mp h))]; rfl
theorem Dw {v:Mine.V} {l:List Mine.V} {x:Value} (hf:UH v=some l) (R:Rel c env g σ s) (X:Vx c env g s v x)
    (N:∀ (o:Obj) (fp:List Addr) (P:Nat→Value→Prop) (S:Nat→Heap→Prop),ItF c env g s l o fp P S→Q (.ref s.heap.objs.size) { s with heap:=s.heap.push o }):wpAny c.M A (pyIter x) Q E s:=by
  cases v with
  | str w =>
    cases hf
    refine X.strE fun t=>?_
    cases ha:(toS w).cps.all (· < 128)
    · exact wpAny_pyIter_wide ha (N _ [_] (SignAt (toS w)) (fun i h=>h.IsStrIter s.heap.objs.size "str_iterator" (toS w) t i) ⟨rfl,fun A' hA=>by rw [List.length_map]; exact Walks.strWide hA _ (toS w) t,⟨_,Heap.get?_push_size _ rfl,rfl,rfl⟩,fun i y _ h=>BC i y h,fun b hb=>Z3 hb,fun _ _ z=>z.imp fun _ z=>⟨z.1,_,z.2.1,by decide⟩⟩)
    · exact wpAny_pyIter_ascii ha (N _ [_] (SignAt (toS w)) (fun i h=>h.IsStrIter s.heap.objs.size "str_ascii_iterator" (toS w) t i) ⟨rfl,fun A' hA=>by rw [List.length_map]; exact Walks.strAscii hA _ (toS w) t,⟨_,Heap.get?_push_size _ rfl,rfl,rfl⟩,fun i y _ h=>BC i y h,fun b hb=>Z3 hb,fun _ _ z=>z.imp fun _ z=>⟨z.1,_,z.2.1,by decide⟩⟩)
  | tup l =>
    cases hf
    refine X.tupE fun a o items n f1 c1 d1 r1=>?_
    have ht:s.heap.IsTuple a items:=⟨_,f1.1,c1,_,d1⟩
    have hne:a≠s.heap.objs.size:=Nat.ne_of_lt (Heap.lt_size f1.1)
    exact wpAny_pyIter_tuple ht (N _ [_,a] (fun i y=>items[i]?=some y) (fun i h=>h.IsTupleIter s.heap.objs.size a i∧h.IsTuple a items) ⟨rfl,fun A' hA=>by rw [← Jg r1]; exact Walks.tuple hA _ a hne items,⟨⟨_,Heap.get?_push_size _ rfl,rfl,rfl⟩,⟨_,Heap.get?_push_of_some _ f1.1,c1,_,d1⟩⟩,Dx r1,fun b hb=>O8 f1 hb,fun _ _ z=>z.1.imp fun _ z=>⟨z.1,_,z.2.1,by decide⟩⟩)
  | list l =>
    cases hf
    refine X.listE fun a items n f1 r1=>?_
    have hl:s.heap.IsList a items:=IsL.isList f1.1
    have hne:a≠s.heap.objs.size:=Nat.ne_of_lt (Heap.lt_size f1.1)
    exact wpAny_pyIter_list hl (N _ [_,a] (fun i y=>items[i]?=some y) (fun i h=>h.IsListIter s.heap.objs.size a i∧h.IsList a items) ⟨rfl,fun A' hA=>by rw [← Jg r1]; exact Walks.list hA _ a hne items,⟨⟨_,Heap.get?_push_size _ rfl,rfl,rfl⟩,hl.push _⟩,Dx r1,fun b hb=>O8 f1 hb,fun _ _ z=>z.1.imp fun _ z=>⟨z.1,_,z.2.1,by decide⟩⟩)
  | rng lo hi =>
    refine gdE (show gd (Qi lo&&Qi hi) (some ((List.range (hi - lo).toNat).map fun (i:Nat)=>Mine.V.int (lo + i)))=some l from hf) fun hb e=>ZDi hb fun b1 b2 b3 b4=>X.rngE fun a t u v f1=>?_
    cases e
    refine wpAny_pyIter_range f1.1 (small_one (by clear R X N f1 hf hb; omega) (by clear R X N f1 hf hb; omega) (by clear R X N f1 hf hb; omega) (by clear R X N f1 hf hb; omega)) (N _ [_] _ (fun i h=>IsRangeIter h s.heap.objs.size (lo + (i:Nat) * 1) (((hi - lo).toNat:Int) - (i:Nat)) 1) ⟨rfl,
      fun A' hA=>by rw [List.length_map,List.length_range]; exact Walks.range hA _ lo 1 (hi - lo).toNat,?_,fun i y hi h=>?_,fun b hb=>Z3 hb,fun _ _ z=>⟨_,z,_,rfl,by decide⟩⟩)
    · rw [rangeSize_one,ZA0,show lo + ((0:Nat):Int) * 1=lo from Int.add_zero lo]
      exact Heap.get?_push_size _ rfl
    · obtain ⟨t,rfl⟩:=h
      rw [List.length_map,List.length_range] at hi
      refine ⟨.int (lo + i),by rw [List.getElem?_map,List.getElem?_range hi]; rfl,?_⟩
      rw [Int.mul_one]
      exact .int _ _
  | _=>exact nn hf

theorem Ext.changed (x:Ext env g g₁ s s₁) (hD:∀ a,D a→s.heap.objs.size≤a) (hs:∀ b p,¬ D b→s₁.heap.get? b=some p→s'.heap.get? b=some p) (hg:gos s'=gos s₁):Ext env g g₁ s s':=
  ⟨fun a o e w f=>let ⟨z,w'⟩:=x.fz a o e w f; ⟨hs _ _ (fun d=>Qh e (hD a d) rfl) z,w'⟩,x.cs,x.X,hg.trans x.gens⟩
theorem Ext.reX {X:Addr→Prop} (x:Ext env g g₁ s s₁):Ext env { g with X:=X } { g₁ with X:=X } s s₁:=⟨x.fz,x.cs,rfl,x.gens⟩
theorem Rel.drop {X:Addr→Prop} (R:Rel c env g₁ σ s₁) (hX:∀ a,X a→g₁.X a) (hDX:∀ a,D a→g₁.X a) (hn:∀ a,X a→¬ D a) (hs:∀ b p,¬ D b→s₁.heap.get? b=some p→s'.heap.get? b=some p) (hfa:∀ a,D a→¬ FA env a) (hp:0 < s'.toks) :
    Rel c env { g₁ with X:=X } σ s':=
  ⟨R.toRel0.carry (fun a o z=>⟨hs _ _ (fun d=>z.2.2.1 (hDX a d)) z.1,z.2.1,fun x=>z.2.2.1 (hX a x),z.2.2.2⟩) (fun a o w e=>hs _ _ (fun d=>(R.dis a w).1 (hDX a d)) e) (fun m hm=>hm.at fun p e=>hs _ _ (fun d=>hfa _ d rfl) e) rfl rfl (fun a x=>(R.xob a (hX a x)).imp fun o e=>hs _ _ (hn a x) e) (fun a x w=>(R.dis a w).1 (hX a x)),hp⟩
noncomputable abbrev WE (a₀:Addr) (g₁ g₂:Gh):Prop:=g₂.X=(g₁.hid (·=a₀)).X
theorem WE.d {a₀:Addr} {g₁ g₂:Gh} (h:WE a₀ g₁ g₂):∀ a,a=a₀→g₂.X a:=fun a e=>by rw [h]; exact .inr e
theorem WE.o {a₀:Addr} {g₁ g₂:Gh} (h:WE a₀ g₁ g₂):∀ a,g₁.X a→g₂.X a:=fun a e=>by rw [h]; exact .inl e
inductive ForI (c:Cx) (env:Env) (go:List Mine.V→St→Option (FL×St)) (l:List Mine.V) (S:Nat→Heap→Prop) (g₁:Gh) (s₁:Shared) (w:FL×St) (k:Nat) (s₂:Shared):Prop
  | mk (i:Nat) (σ₂:St) (g₂:Gh) (hk:k=l.length + 1 - i) (hi:i≤l.length) (R:Rel c env g₂ σ₂ s₂) (X:WE s₁.heap.objs.size g₁ g₂) (E:Ext env g₁ { g₂ with X:=g₁.X } s₁ s₂) (hS:S i s₂.heap) (run:go (l.drop i) σ₂=some w)
theorem Ext.in1 {g₂:Gh} (X:WE s₁.heap.objs.size g₁ g₂) (E:Ext env g₁ { g₂ with X:=g₁.X } s₁ s₂) {a:Addr} {o:Obj} (z:Mine.Fz env g₁ s₁.heap a o):Mine.Fz env g₂ s₂.heap a o:=
  ⟨(E.Fz z).1,(E.Fz z).2.1,fun h=>by rw [X] at h; exact h.elim z.2.2.1 fun h=>Qh z.1 (Nat.le_refl _) h,z.2.2.2⟩
theorem KM {n i:Nat} (h:i < n):n + 1 - (i + 1) < n + 1 - i:=Nat.sub_lt_sub_left (Nat.lt_succ_of_lt h) (Nat.lt_succ_self i)
noncomputable def IL (c:Cx) (env:Env) (t:Expr) (G:Mine.V→St→Option St):Prop:=∀ ⦃A:Around⦄ ⦃w:Mine.V⦄ ⦃σ σ':St⦄ ⦃g:Gh⦄ ⦃s:Shared⦄ ⦃y:Value⦄ ⦃Q:Unit→Shared→Prop⦄ ⦃E:Value→Shared→Prop⦄,A.handled=none→G w σ=some σ'→Rel c env g σ s→Vx c env g s w y →
  (∀ s',Rel c env g σ' s'→Ext env g g s s'→Q () s')→wpAny c.M A (assign t env y) Q E s
theorem D6 {C:Ora} {t it:Expr} {G:Mine.V→St→Option St} {b:List Stmt} {mb:List MS} {mi:ME} {pos} (HT:IL c env t G) (hs:∀ x,foldedSetIterable it env x=pure x)
    (H:JD c r env it (ev C mi)) (H2:Qk c r env b (exs C mb)):JN c r env (.For t it b [] pos) (fun σ=>bn (ev C mi σ) fun v σ₁=>bo (UH v) fun l=>QA G (exs C mb) l σ₁):=fun A σ fl σ' g s E Q hr hf R N=>bnE hf fun v σ₁ h1 h=>boE h fun l h3 h4 =>
  wpAny_For (H hr h1 R fun x s₁ g₁ R₁ X₁ E₁=>Dw h3 R₁ X₁ fun o fp P S I=>by
    have W:=I.walks A hr.1
    have fr:=KB R₁
    have ho:(s₁.heap.push o).get? s₁.heap.objs.size=some o:=Heap.get?_push_size _ I.fr
    have hfa:∀ a,a=s₁.heap.objs.size→¬ FA env a:=fun a e=>e▸fr.2.2
    have hD:∀ a,a=s₁.heap.objs.size→s₁.heap.objs.size≤a:=fun a e=>e▸Nat.le_refl _
    refine codeAny_forLoop_any (I:=ForI c env (QA G (exs C mb)) l S g₁ s₁ (fl,σ')) (fun k s₂ h=>?_) (l.length + 1)
      (.mk 0 σ₁ _ rfl (Nat.zero_le _) (R₁.hide (s':={ s₁ with heap:=s₁.heap.push o }) (QO _ _) hD (fun a e=>⟨_,e▸ho⟩) R₁.pos) rfl ⟨fun a p e w _=>⟨QO _ _ _ _ e,w⟩,fun _ _ e=>e,rfl,rfl⟩ I.s0 h4)
    cases h with
    | mk i σ₂ g₂ hk' hi R₂ hX E₂ hS₂ hF =>
      have kk:∀ {h':Heap},(∀ b p,b ∉ [s₁.heap.objs.size]→s₂.heap.get? b=some p→h'.get? b=some p)→∀ b p,¬ b=s₁.heap.objs.size→s₂.heap.get? b=some p→h'.get? b=some p:=fun h b p hb=>h b p fun q=>hb (List.mem_singleton.mp q)
      by_cases hlt:i < l.length
      · refine QW R₂.pos (W.item i s₂ _ _ hlt hS₂ fun y h' tk hPy hS' hk₂ htk=>?_)
        obtain ⟨w,hw,hwy⟩:=I.item i y hlt hPy
        have R₃:Rel c env g₂ σ₂ { s₂ with heap:=h',toks:=tk }:=R₂.changed (D:=(·=s₁.heap.objs.size)) hX.d (kk hk₂) (fun a e=>e▸(I.alive _ _ hS').imp fun _ z=>z.1) hfa htk
        have E₃:Ext env g₁ { g₂ with X:=g₁.X } s₁ { s₂ with heap:=h',toks:=tk }:=E₂.changed (D:=(·=s₁.heap.objs.size)) hD (kk hk₂) rfl
        have hd:l.drop i=w :: l.drop (i + 1):=by
          obtain ⟨h1,h2⟩:=List.getElem?_eq_some_iff.mp hw
          rw [List.drop_eq_getElem_cons h1,h2]
        rw [hd] at hF
        refine boE (show bo (G w σ₂) (fun σ₁=>bn (exs C mb σ₁) _)=some (fl,σ') from hF) fun σ₄ h4 hF=>bnE hF fun f σ₅ h5 h6=>(I.alive _ _ hS').elim fun p hp=>ZA6 (s:={ s₂ with heap:=h',toks:=tk }) hp.1 hp.2 t y (HT hr.1 h4 R₃ (hwy.mono (fun a o z=>E₃.in1 hX z) fun i a z=>E₃.rho z) fun s₄ R₄ E₄=>H2 hr h5 R₄ fun w' s₅ g₅ R₅ X₅ E₅=>?_)
        have E₄₅:=E₄.trans E₅
        have E₆:Ext env g₁ { g₅ with X:=g₁.X } s₁ s₅:=E₃.trans E₄₅.reX
        have hX5:WE s₁.heap.objs.size g₁ g₅:=E₄₅.X.trans hX
        have nx:QA G (exs C mb) (l.drop (i + 1)) σ₅=some (fl,σ')→∃ m,m < k∧ForI c env (QA G (exs C mb)) l S g₁ s₁ (fl,σ') m s₅:=fun h =>
          ⟨l.length + 1 - (i + 1),hk'▸KM hlt,.mk (i + 1) σ₅ g₅ rfl hlt R₅ hX5 E₆ (W.frame _ _ _ hS' fun b hb o e=>(I.fp b hb).elim (fun q=>(E₄₅.fz _ _ e (fun w=>(R₃.dis _ w).1 (hX.d _ q)) (q▸fr.2.2)).1) fun ⟨o',z⟩=>by
            have z':=E₃.in1 hX z
            cases z'.1.symm.trans e
            exact (E₄₅.fz _ _ e z'.2.1 z'.2.2.2).1) h⟩
        cases f with
        | next=>cases X₅; exact nx h6
        | cont=>cases X₅; exact nx h6
        | brk=>cases X₅; exact (N.of h6).nxt (R₅.shown hX5.o) (E₁.trans E₆)
        | ret v =>
          obtain ⟨x,rfl,hx⟩:=X₅
          exact N.of h6 _ _ _ (R₅.shown hX5.o) ⟨x,rfl,hx.shown hX5.o⟩ (E₁.trans E₆)
      · cases Nat.le_antisymm hi (Nat.not_lt.mp hlt)
        rw [List.drop_length] at hF
        refine QW R₂.pos (W.done s₂ _ _ hS₂ fun h' tk hk₂ htk=>?_)
        have R₃:Rel c env { g₂ with X:=g₁.X } _ { s₂ with heap:=h',toks:=tk }:=R₂.drop (D:=(·=s₁.heap.objs.size)) hX.o hX.d (fun a x e=>let ⟨_,z⟩:=R₁.xob a x; Qh z (Nat.le_refl _) e) (kk hk₂) hfa htk
        exact wpAny_execs_nil ((N.of hF).nxt R₃ (E₁.trans (E₂.changed (D:=(·=s₁.heap.objs.size)) hD (kk hk₂) rfl)))) hs
theorem ZEl (O:c.Ok) (VV:EnvOk env) {C:Ora} {n:Nat} {it:Expr} {b:List Stmt} {mi:ME} {mb:List MS} {np pos} (hk:env.kindOf (c.nm n)=some .local) (hs:∀ x,foldedSetIterable it env x=pure x)
    (H:JD c r env it (ev C mi)) (H2:Qk c r env b (exs C mb)):JN c r env (.For (.Name (c.nm n) np) it b [] pos) (exc C (.for n mi mb)):=
  D6 (G:=fun v σ=>some (σ.setLoc n v)) (fun _ w σ σ' g s y Q E hh hg R X N=>by
    cases hg
    exact wpAny_assign_Name (Ut O VV hk R X N)) hs H H2
theorem BU {I:Addr} {fp:List Addr} {items:Array Value} {S:Nat→Heap→Prop} (W:Walks c.prog c.w A I fp [I] items.size (fun i v=>items[i]?=some v) S):∀ (k i:Nat) (s:Shared) (Q:List Value→Shared→Prop),S i s.heap→i + k≤items.size →
    (∀ h' tk,S (i + k) h'→(∀ b o,b≠I→s.heap.get? b=some o→h'.get? b=some o)→Q ((items.toList.drop i).take k) { s with heap:=h',toks:=tk })→wpAny c.M A (draw (.ref I) k) Q E s
  | 0,i,s,Q,hs,_,h=>wpAny_pure (h s.heap s.toks hs fun _ _ _ e=>e)
  | k + 1,i,s,Q,hs,hk,h=>by
    have hlt:i < items.size:=Nat.lt_of_lt_of_le (Nat.lt_add_of_pos_right (Nat.succ_pos k)) hk
    refine wpAny_bind (W.item i s _ _ hlt hs fun v h' tk hv hs' k1=>?_)
    have hd:items.toList.drop i=v :: items.toList.drop (i + 1):=by
      rw [List.drop_eq_getElem_cons (by rw [Array.length_toList]; exact hlt),Array.getElem_toList]
      rw [Array.getElem?_eq_getElem hlt] at hv
      rw [Option.some.inj hv]
    show wpAny _ _ (do let x ← holding [v] (draw (.ref I) k); pure (v :: x)) _ _ _
    refine wpAny_bind (wpAny_holding (BU W k (i + 1) _ _ hs' (by rw [Nat.add_right_comm]; exact hk) fun h'' tk' hs'' k2=>wpAny_pure ?_))
    rw [hd] at h
    exact h h'' tk' (by rw [Nat.add_right_comm] at hs''; exact hs'') fun b o hb e=>k2 b o hb (k1 b o (fun q=>hb (List.mem_singleton.mp q)) e)
theorem Tl {t:Addr} {items:Array Value} {n:Nat} {targets:List (Bool×(Value→Sem Unit))} {Q:Unit→Shared→Prop} (hh:A.handled=none) (hi:IsL s.heap t items n) (hn:targets.length=items.size) (hstar:targets.findIdx? (·.1)=none) (ht:0 < s.toks)
    (h:∀ h' tk,0 < tk→(∀ b o,s.heap.get? b=some o→h'.get? b=some o)→wpAny c.M A (assignInOrder (targets.map (·.2)) items.toList) Q E { s with heap:=h',toks:=tk }):wpAny c.M A (unpack (.ref t) targets) Q E s:=by
  have hl:s.heap.IsList t items:=hi.isList
  have hne:t≠s.heap.objs.size:=Nat.ne_of_lt (Heap.lt_size hi)
  have W:=Walks.list (prog:=c.prog) (w:=c.w) hh s.heap.objs.size t hne items
  have kp:∀ {h':Heap},(∀ b o,b≠s.heap.objs.size→(s.heap.push { cls:=.type "list_iterator",data:=.fields #[.ref t,.int 0 0] }).get? b=some o→h'.get? b=some o)→∀ b o,s.heap.get? b=some o→h'.get? b=some o:=fun k b o e=>k b o (Nat.ne_of_lt (Heap.lt_size e)) (Heap.get?_push_of_some _ e)
  unfold unpack
  rw [hn,hstar]
  refine wpAny_bind (QW ht (wpAny_holding ?_))
  delta unpackItems; dsimp only
  refine wpAny_bind ?_
  unfold notIterableAtAll
  refine wpAny_bind (wpAny_specialOf hl.typeIs slot_list_iter.lookup ?_)
  refine wpAny_pure ?_
  rw [if_neg Bool.false_ne_true]
  refine wpAny_bind (wpAny_holding (wpAny_pyIter_list hl ?_))
  refine wpAny_bind (wpAny_holding (BU W items.size 0 _ _ ⟨⟨_,Heap.get?_push_size _ rfl,rfl,rfl⟩,hl.push _⟩ (Nat.le_of_eq (Nat.zero_add _)) fun h₁ tk₁ hs₁ k₁=>?_))
  rw [Nat.zero_add] at hs₁
  have hall:List.take items.size (List.drop 0 items.toList)=items.toList:=by
    rw [List.drop_zero]; exact List.take_of_length_le (Nat.le_of_eq Array.length_toList)
  rw [hall,if_neg (by rw [Array.length_toList]; exact Nat.lt_irrefl _)]
  refine wpAny_bind (wpAny_holding (W.done _ _ _ hs₁ fun h₂ tk₂ k₂=>?_))
  exact wpAny_pure fun htk=>h h₂ tk₂ htk (kp fun b o hb e=>k₂ b o (fun q=>hb (List.mem_singleton.mp q)) (k₁ b o hb e))
end
end Mine
end
noncomputable section
open PySem PySem.Calls PyProof.Rows PySem.W
namespace Mine
section
variable {c:Cx} {r:Nat} {env:Env} {A:Around} {σ σ':St} {g g₁:Gh} {s s' s₁ s₂:Shared} {E:Value→Shared→Prop} {Q:Value→Shared→Prop} {v:Mine.V} {D:Addr→Prop}

theorem BN {x:List Nat} {u:Mine.V}:∀ {ks:List (List Nat)} {vs:List Mine.V},Qj ks vs x=some u→x∈ks
  | [],_,h=>nn h
  | _ :: _,[],h=>nn h
  | k :: ks,v :: vs,h=>Classical.byCases (fun e:k=x=>e▸List.mem_cons_self) fun e=>.tail _ (BN (ks:=ks) (vs:=vs) ((if_neg e).symm.trans h))
theorem ZAU {kvs:List (Str×Value)} {ks:List (List Nat)} {x:List Nat} {y:Value} (hk:kvs.map (·.1)=ks.map toS) (h:x∈ks):stored kvs (toS x) y=kvs.map (fun kv=>if kv.1=toS x then (kv.1,y) else kv):=
  if_pos (by
    have h1:toS x∈kvs.map (·.1):=hk▸List.mem_map_of_mem h
    obtain ⟨kv,h2,h3⟩:=List.mem_map.mp h1
    exact List.any_eq_true.mpr ⟨kv,h2,decide_eq_true h3⟩)
theorem ZAA {z:Str} {y:Value} (kvs:List (Str×Value)):(kvs.map (fun kv=>if kv.1=z then (kv.1,y) else kv)).map (·.1)=kvs.map (·.1):=by
  rw [List.map_map]
  exact List.map_congr_left fun kv _=>by
    show (if kv.1=z then (kv.1,y) else kv).1=kv.1
    by_cases h:kv.1=z
    · rw [if_pos h]
    · rw [if_neg h]
theorem ZAT {z:Str} {y:Value} {kvs:List (Str×Value)} (h:z ∉ kvs.map (·.1)):kvs.map (fun kv=>if kv.1=z then (kv.1,y) else kv)=kvs:=by
  refine (List.map_congr_left fun kv hkv=>?_).trans (List.map_id kvs)
  exact if_neg fun (q:kv.1=z)=>h (q▸List.mem_map_of_mem hkv)
theorem ZCL {x:List Nat} {ks:List (List Nat)} (h:toS x∈ks.map toS):x∈ks:=by
  obtain ⟨z,h1,h2⟩:=List.mem_map.mp h
  exact UW h2▸h1
theorem Bl {x:List Nat} {u:Mine.V} {y:Value} {F ρ} (hy:VR c F ρ u y):∀ {ks:List (List Nat)} {vs:List Mine.V} {kvs:List (Str×Value)},kvs.map (·.1)=ks.map toS→ks.Nodup→VRs c F ρ vs (kvs.map (·.2)) →
    VRs c F ρ (Wn ks vs x u) ((kvs.map (fun kv=>if kv.1=toS x then (kv.1,y) else kv)).map (·.2))
  | [],_,[],_,_,hv=>hv
  | [],_,_ :: _,hk,_,_=>nomatch hk
  | _ :: _,_,[],hk,_,_=>nomatch hk
  | _ :: _,[],_ :: _,_,_,hv=>nomatch hv.length
  | k :: ks,v :: vs,kv :: kvs,hk,hn,hv=>hv.consE (P:=fun l=>l=kv.2 :: kvs.map (·.2)→_) (fun a as h1 h2 e=>by
    obtain ⟨e1,e2⟩:=List.cons.inj hk
    obtain ⟨n1,n2⟩:=List.nodup_cons.mp hn
    obtain ⟨rfl,rfl⟩:=List.cons.inj e
    show VRs c F ρ (if k=x then u :: vs else v :: Wn ks vs x u) ((if kv.1=toS x then (kv.1,y) else kv).2 :: _)
    by_cases h:k=x
    · subst h
      rw [if_pos rfl,if_pos e1,ZAT fun q=>n1 (ZCL (e2▸q))]
      exact .cons hy h2
    · rw [if_neg h,if_neg fun q=>h (UW (e1.symm.trans q))]
      exact .cons h1 (Bl hy e2 n2 h2)) rfl
theorem ZAI {kvs:List (Str×Value)} {ks:List (List Nat)} {a:Addr} {h:Heap} (D:h.DictOf (strKind c.prog c.w) a kvs) (k1:kvs.map (·.1)=ks.map toS):ks.Nodup:=by
  obtain ⟨_,_,_,_,_,_,_,_,h⟩:=D
  rw [k1] at h
  exact List.nodup_iff_pairwise_ne.mpr ((List.pairwise_map.mp (List.nodup_iff_pairwise_ne.mp h)).imp fun h e=>h (congrArg toS e))
theorem ZAD {l:Addr} {items:Array Value} {n:Nat} {k:Int} {t:Tok} {v:Value} {j:Nat} {Q:Unit→Shared→Prop} (hi:IsL s.heap l items n) (hfit:Builtin.List.listFitsIndex k=true) (hj:seqIndex? k items.size=some j) (hlt:j < items.size) (h3:(0≤k∧k.toNat=j)∨(k < 0∧-(items.size:Int)≤k∧(k + items.size).toNat=j))
    (h:Q () { s with heap:=s.heap.update l (Obj.mapSeq (·.setIfInBounds j v)) }):wpAny c.M A (PySem.setItem (.ref l) (.int k t) v) Q E s:=by
  have hT:s.TypeIs (.ref l) "list":=⟨_,hi,rfl⟩
  have hx':items[j]?=some items[j]:=Array.getElem?_eq_getElem hlt
  unfold PySem.setItem
  try with_reducible refine wpAny_holding ?_
  first | refine wpAny_bind (wpAny_pure ?_) | skip
  refine wpAny_bind (wpAny_sequenceKey hT (by decide) ?_)
  refine wpAny_bind (wpAny_callSpecial?_slot (name:=Str.ofString "__setitem__") hT slot_list_setitem
    (wpAny_call_entry slot_list_setitem hT entry_list_setitem ?_ (args_list_setitem _ _ _)))
  show wpAny _ _ (Builtin.List.listSubscript? (.int k t) >>= _) _ _ s
  refine wpAny_bind (wpAny_listSubscript_int hfit ?_)
  cases k with
  | ofNat k =>
    have hk:k=j:=h3.elim (fun h=>h.2) fun h=>absurd h.1 (Int.not_lt.mpr (Int.natCast_nonneg k))
    subst hk
    show wpAny _ _ ((seqItemAt l k >>= fun r=>pure (r.map (k,·))) >>= _) _ _ s
    refine wpAny_bind (wpAny_bind (wpAny_seqItemAt hi rfl (wpAny_pure ?_)))
    rw [hx']
    show wpAny _ _ (setSeqItemAt l k v >>= _) _ _ s
    refine wpAny_bind (wpAny_setSeqItemAt hi rfl ?_)
    first
      | exact wpAny_bind (wpAny_pure (wpAny_pure ⟨.none,rfl,wpAny_pure h⟩))
      | exact wpAny_pure ⟨.none,rfl,wpAny_pure h⟩
  | negSucc k =>
    show wpAny _ _ ((Builtin.List.listItems (.ref l) >>= fun xs=>pure ((seqIndex? (Int.negSucc k) xs.size).bind fun i=>xs[i]?.map (i,·))) >>= _) _ _ s
    refine wpAny_bind (wpAny_bind ?_)
    show wpAny _ _ (seqItems? (.ref l) >>= _) _ _ s
    refine wpAny_bind (wpAny_seqItems hi rfl (wpAny_pure (wpAny_pure ?_)))
    rw [hj]
    simp only [Option.bind_some,hx',Option.map_some]
    refine wpAny_bind (wpAny_setSeqItemAt hi rfl ?_)
    first
      | exact wpAny_bind (wpAny_pure (wpAny_pure ⟨.none,rfl,wpAny_pure h⟩))
      | exact wpAny_pure ⟨.none,rfl,wpAny_pure h⟩
theorem VRs.set {F:Addr→Obj→Prop} {ρ:Id→Option Addr} {v:Mine.V} {x:Value} (h:VR c F ρ v x):∀ {l:List Mine.V} {xs:List Value} (j:Nat),VRs c F ρ l xs→VRs c F ρ (l.set j v) (xs.set j x)
  | [],_,_,H=>H.nilE .nil
  | _ :: _,_,0,H=>H.consE fun _ _ a b=>.cons h b
  | _ :: _,_,j + 1,H=>H.consE fun _ _ a b=>.cons a (b.set h j)
theorem Ot {o x v:Mine.V} {ov xv yv:Value} {Q:Unit→Shared→Prop} (hf:Mine.UZ σ o x v=some σ') (R:Rel c env g σ s) (Ho:Vx c env g s o ov) (Hx:Vx c env g s x xv) (Hy:Vx c env g s v yv)
    (N:∀ s',Rel c env g σ' s'→Ext env g g s s'→Q () s'):wpAny c.M A (PySem.setItem ov xv yv) Q E s:=by
  cases o <;> first | exact nn hf | skip
  rename_i id
  refine boE (show bo (JA σ.hp id) _=some σ' from hf) fun b ho h=>?_
  cases b <;> first | exact nn h | skip
  · rename_i l
    exact QE (P:=fun x=>Vx c env g s x xv→wpAny c.M A (PySem.setItem ov xv yv) Q E s) h (fun k h Hx=>bdE h fun hb h=>boE h fun j hj h=>gdE h fun hjl e=>Hx.intE (P:=fun xv=>wpAny c.M A (PySem.setItem ov xv yv) Q E s) fun t=>Ho.objE fun a ha=>by
      cases e
      obtain ⟨items,n,hcs,hi,hv⟩:=UU R ho ha
      have hs:=Jg hv
      rw [← hs] at hb hj
      obtain ⟨⟨h1,h2⟩,h3⟩:=ZH hj (Uf hb)
      obtain ⟨R₃,E₃⟩:=YP (f:=(·.setIfInBounds j yv)) (l':=l.set j v) R hcs hi (by rw [Array.toList_setIfInBounds]; exact VRs.set Hy j hv)
      exact ZAD hi (Bool.and_eq_true_iff.mpr ⟨decide_eq_true h1,decide_eq_true h2⟩) hj (hs▸Nat.le_of_ble_eq_true hjl) h3 (N _ R₃ E₃)) Hx
  rename_i ks vs
  exact Qg (P:=fun x=>Vx c env g s x xv→wpAny c.M A (PySem.setItem ov xv yv) Q E s) h (fun x h Hx=>boE h fun u hu h=>gdE h fun hlen e=>Hx.strE (P:=fun xv=>wpAny c.M A (PySem.setItem ov xv yv) Q E s) fun t=>Ho.objE fun a ha=>by
    cases e
    obtain ⟨q,hc,rfl,hsm,kvs,D,k1,r1⟩:=U2 R ho ha
    have hlen':kvs.length=ks.length:=by rw [← List.length_map (·.1),k1,List.length_map]
    refine wpAny_setItem_pairs (k:=toS x) (DP x t) D (fun h' hd hs=>?_) (hlen'.symm▸Z8 (Nat.le_of_ble_eq_true hlen))
    rw [ZAU k1 (BN hu)] at hd
    have K:Keep env (·=a) s.heap h':=.of (fun b p hb e=>(hs.2 b hb).trans e) fun e=>(R.dis a (R.cW _ _ _ hc)).2 e.symm
    obtain ⟨ob,hob,-⟩:=Heap.dictOf_iff.mp hd
    exact N _ ⟨R.toRel0.setOb (ob':=.dict ks (Wn ks vs x v)) hc K ⟨ob,hob⟩ fun kF=>⟨rfl,hsm,_,hd,(ZAA kvs).trans k1,(Bl Hy k1 (ZAI D k1) r1).mono kF fun _ _ z=>z⟩,Nat.succ_pos _⟩ (Ext.setOb (R.cW _ _ _ hc) K rfl)) Hx

variable {C:Ora} {t i e:Expr} {mt mi m:ME} {n n₁ n₂ D₁ D₂:Nat} {o:Bop} {pos:Pos}
theorem VR.objR {F ρ} {i:Id} {x:Value} (h:VR c F ρ (.obj i) x):∃ a,x=.ref a∧ρ i=some a:=h.objE fun a e=>⟨a,rfl,e⟩
theorem ZCw {sp} (hc:QQ e=true) (H:JD c r env e (ev C m)) (H2:JD c r env t (ev C mt)) (H3:JD c r env i (ev C mi)):JN c r env (.Assign [.Subscript t i sp] e pos) (exc C (.asgS mt mi m)):=fun _ _ _ _ _ _ _ _ hr hf R N=>bnE hf fun v σ₁ h1 h=>bnE h fun o σ₂ h3 h=>bnE h fun x σ₃ h5 h=>boE h fun σ₄ h7 h8 =>
  wpAny_Assign_Subscript (H hr h1 R fun xv s₁ g₁ R₁ X₁ E₁=>H2 hr h3 R₁ fun ov s₂ g₂ R₂ X₂ E₂=>H3 hr h5 R₂ fun iv s₃ g₃ R₃ X₃ E₃ =>
    Ot h7 R₃ (X₂.ext E₃) X₃ (X₁.ext (E₂.trans E₃)) fun s₄ R₄ E₄=>(N.of h8).nxt R₄ (E₁.trans (E₂.trans (E₃.trans E₄)))) (W1 hc)
theorem ZCs (O:c.Ok) (VV:EnvOk env) {np} (hk:env.kindOf (c.nm n)=some .local) (ho:o=.add∨o=.sub) (H:JD c r env e (ev C m)):JN c r env (.AugAssign (.Name (c.nm n) np) (Uk o) e pos) (exc C (.augN n o m)):=fun _ _ _ _ _ _ _ _ hr hf R N=>boE hf fun a h1 h=>bnE h fun b σ₁ h3 h=>bnE h fun w σ₂ h5 h6=>by
  obtain ⟨mm,hm,hl⟩:=R.loc
  obtain ⟨x,hx,hxv⟩:=(hl n _ h1).1 hk
  exact wpAny_AugAssign_Name (wpAny_loadName_local VV.kind hk hm hx (H hr h3 R fun y s₁ g₁ R₁ X₁ E₁=>K6 ho h5 R₁ (VR.ext E₁ hxv) X₁ fun z s₂ g₂ R₂ X₂ E₂ =>
    Ut O VV hk R₂ X₂ fun s₃ R₃ E₃=>(N.of h6).nxt R₃ (E₁.trans (E₂.trans E₃))))
theorem ZCt (O:c.Ok) {tp} (hn:J3 c D₁ n=true) (ho:o=.add∨o=.sub) (H:JD c r env t (ev C mt)) (H2:JD c r env e (ev C m)):JN c r env (.AugAssign (.Attribute t (c.nm n) tp) (Uk o) e pos) (exc C (.augA mt n D₁ o m)):=fun A _ fl σ' g s E Q hr hf R N=>bnE hf fun x σ₁ h1 h =>
  wpAny_AugAssign_AttributeAny (H hr h1 R fun xv s₁ g₁ R₁ X₁ E₁=>Uv (P:=fun x=>Vx c env g₁ s₁ x xv→_) h (fun id fs hob h X₁=>boE h fun a h3 h=>bnE h fun b σ₂ h5 h=>bnE h fun w σ₃ h7 h=>boE h fun σ₄ h9 h10 =>
    by
      obtain ⟨ad,rfl,ha⟩:=X₁.objR
      exact Zk O hn R₁ hob ha h3 fun av s₂ g₂ R₂ X₂ E₂=>H2 hr h5 R₂ fun bv s₃ g₃ R₃ X₃ E₃=>K6 ho h7 R₃ (X₂.ext E₃) X₃ fun z s₄ g₄ R₄ X₄ E₄ =>
      X7 O hn h9 R₄ (VR.obj ((E₂.trans (E₃.trans E₄)).rho ha)) X₄ fun s₅ R₅ E₅=>(N.of h10).nxt R₅ (E₁.trans (E₂.trans (E₃.trans (E₄.trans E₅))))) X₁)

noncomputable def XR (e:Expr):Bool:=ctt fun h=>Expr.Tuple.elim (motive_1:=fun _=>Bool) e h fun _ _ _=>false
theorem Op (h:XR e=true) {ts:List Expr} {k tp}:swappedStores [.Tuple ts k tp] e env=pure none:=by
  cases e <;> first | rfl | exact ff h
theorem DR (h:QQ e=true) {es:List Expr} {k tp} {n:Nat}:swapsWithSole [.Tuple es k tp] e n env=pure false:=by
  unfold swapsWithSole; exact W1 h
noncomputable def K4 (c:Cx) (env:Env) (e:Expr) (n:Nat):Bool:=match e with
  | .Name x _=>x==c.nm n&&(env.kindOf x==some .local)
  | _=>false
@[elab_as_elim] theorem Do {P:Expr→Prop} (h:K4 c env e n=true) (k:∀ p,env.kindOf (c.nm n)=some .local→P (.Name (c.nm n) p)):P e:=by
  cases e <;> first | exact ff h | exact bA h fun h1 h2=>by cases bE h1; exact k _ (bE h2)
noncomputable def Uw (c:Cx) (env:Env):List Expr→List Nat→Bool
  | [],ns=>ns.isEmpty
  | e :: es,ns=>(match ns with
    | []=>false
    | n :: ns=>K4 c env e n&&Uw c env es ns)
theorem Z6 (O:c.Ok) (VV:EnvOk env):∀ {es:List Expr} {ns:List Nat} {vs:List Mine.V} {xs:List Value} {σ σ':St} {s:Shared} {Q:Unit→Shared→Prop},Uw c env es ns=true→Qy ns vs σ=some σ'→Rel c env g σ s→Vxs c env g s vs xs →
    (∀ s',Rel c env g σ' s'→Ext env g g s s'→Q () s')→wpAny c.M A (assignInOrder ((assignEach es env).map (·.2)) xs) Q E s
  | [],ns,vs,_,_,_,s,Q=>fun hn hf R X N=>by
    cases ns with
    | cons _ _=>exact ff hn
    | nil =>
      cases vs with
      | cons _ _=>exact nn hf
      | nil=>cases hf; exact X.nilE (wpAny_pure (N s R .refl))
  | e :: es,ns,vs,_,_,_,s,Q=>fun hn hf R X N=>by
    cases ns with
    | nil=>exact ff hn
    | cons n ns =>
    cases vs with
    | nil=>exact nn hf
    | cons v vs =>
    refine bA hn fun h1 hn=>Do h1 fun p hk=>X.consE fun a b ha hb=>?_
    show wpAny _ _ (do holding _ (assign (.Name (c.nm n) p) env _); assignInOrder ((assignEach es env).map (·.2)) _) _ _ _
    exact wpAny_bind (wpAny_holding (wpAny_assign_Name (Ut O VV hk R ha fun s₁ R₁ E₁=>Z6 O VV hn hf R₁ (hb.ext E₁) fun s₂ R₂ E₂=>N s₂ R₂ (E₁.trans E₂))))
theorem BF:∀ {es:List Expr} {ns:List Nat},Uw c env es ns=true→(assignEach es env).length=ns.length∧(assignEach es env).findIdx? (·.1)=none
  | [],[],_=>⟨rfl,rfl⟩
  | [],_ :: _,h=>ff h
  | _ :: _,[],h=>ff h
  | e :: es,n :: ns,h=>bA h fun h1 h2=>Do h1 fun p hk=>by
    obtain ⟨h3,h4⟩:=BF h2
    refine ⟨congrArg (· + 1) h3,?_⟩
    show ((false,_) :: assignEach es env).findIdx? (·.1)=none
    rw [List.findIdx?_cons,h4]; rfl
theorem Zl:∀ {ns:List Nat} {vs:List Mine.V} {σ σ':St},Qy ns vs σ=some σ'→ns.length=vs.length
  | [],[],_,_,_=>rfl
  | [],_ :: _,_,_,h=>nn h
  | _ :: _,[],_,_,h=>nn h
  | _ :: ns,_ :: vs,_,_,h=>congrArg (· + 1) (Zl (ns:=ns) (vs:=vs) h)
theorem GV (O:c.Ok) (VV:EnvOk env) {es:List Expr} {ns:List Nat} {k tp} (hn:Uw c env es ns=true):IL c env (.Tuple es k tp) (fun v σ=>bo (Uy v) fun vs=>Qy ns vs σ):=fun A v σ σ' g s x Q E hh hf R X N=>boE hf fun vs h3 h5=>by
  obtain ⟨l1,l2⟩:=BF hn
  show wpAny _ _ (do standAt tp; unpack x (assignEach es env)) _ _ _
  refine wpAny_bind (wpAny_standAt ?_)
  cases v <;> first | exact nn h3 | (cases h3; skip)
  · exact X.tupE fun a o items n f1 c1 d1 r1=>by
      refine unpack_tuple hh ⟨_,f1.1,c1,_,d1⟩ (by rw [l1,Jg r1]; exact Zl h5) l2 fun h' he=>?_
      have kk:∀ b p,s.heap.get? b=some p→h'.get? b=some p:=fun b p e=>he b p (Nat.ne_of_lt (Heap.lt_size e)) e
      have E':Ext env g g s { s with heap:=h' }:=.grow kk rfl
      exact Z6 O VV hn h5 (R.grow kk R.pos) (VRs.ext E' r1) fun s₃ R₃ E₃=>N s₃ R₃ (E'.trans E₃)
  · exact X.listE fun a items n f1 r1=>by
      refine Tl hh f1.1 (by rw [l1,Jg r1]; exact Zl h5) l2 R.pos fun h' tk htk kk=>?_
      have E':Ext env g g s { s with heap:=h',toks:=tk }:=.grow kk rfl
      exact Z6 O VV hn h5 (R.grow kk htk) (VRs.ext E' r1) fun s₃ R₃ E₃=>N s₃ R₃ (E'.trans E₃)
theorem ZCv (O:c.Ok) (VV:EnvOk env) {es:List Expr} {ns:List Nat} {k tp} (hc:QQ e=true) (ht:XR e=true) (hn:Uw c env es ns=true) (H:JD c r env e (ev C m)):JN c r env (.Assign [.Tuple es k tp] e pos) (exc C (.asgT ns m)):=fun A _ fl σ' g s E Q hr hf R N=>bnE hf fun v σ₁ h1 h=>boE h fun vs h3 h=>boE h fun σ₂ h5 h6 =>
  Assign_Tuple (H hr h1 R fun x s₁ g₁ R₁ X₁ E₁=>GV O VV hn hr.1 (show bo (Uy v) (fun vs=>Qy ns vs σ₁)=some σ₂ by rw [h3]; exact h5) R₁ X₁ fun s₃ R₃ E₃=>(N.of h6).nxt R₃ (E₁.trans E₃)) (DR hc) (Op ht)
theorem ZCp (O:c.Ok) (VV:EnvOk env) {es:List Expr} {ns:List Nat} {k tp} {it:Expr} {b:List Stmt} {mi:ME} {mb:List MS} (hn:Uw c env es ns=true) (hs:∀ x,foldedSetIterable it env x=pure x)
    (H:JD c r env it (ev C mi)) (H2:Qk c r env b (exs C mb)):JN c r env (.For (.Tuple es k tp) it b [] pos) (exc C (.forT ns mi mb)):=D6 (GV O VV hn) hs H H2
theorem Om {p:Pos} {x:Value} {o:Mine.V} {Q:Unit→Shared→Prop} (H:JD c r env t (ev C m)) (hr:JK A r) (hf:ev C m σ=some (o,σ')) (R:Rel c env g σ s)
    (N:∀ ov s' g',Rel c env g' σ' s'→Vx c env g' s' o ov→Ext env g g' s s'→wpAny c.M A (PySem.setAttr ov (c.nm n) x) Q E s'):wpAny c.M A (assign (.Attribute t (c.nm n) p) env x) Q E s:=by
  rw [arm_assign_Attribute]
  exact wpAny_bind (wpAny_holding (H hr hf R fun ov s₁ g₁ R₁ X₁ E₁=>wpAny_bind (wpAny_standAt (wpAny_bind (wpAny_holding (wpAny_mono (N ov s₁ g₁ R₁ X₁ E₁) (fun _ _ h=>wpAny_release h) fun _ _ h=>h))))))
theorem ZD8 {P:Mine.V→Prop} {q:Mine.V×Mine.V} (h:NZ v=some q) (k:P (.tup [q.1,q.2])):P v:=by
  cases v <;> first | exact nn h | skip
  rename_i l
  match l,h with
  | [],h=>exact nn h
  | [_],h=>exact nn h
  | _ :: _ :: _ :: _,h=>exact nn h
  | [a,b],h=>cases h; exact k
theorem ZBQ (O:c.Ok) {t₁ t₂:Expr} {m₁ m₂:ME} {p₁ p₂ k tp} (hn₁:J3 c D₁ n₁=true) (hn₂:J3 c D₂ n₂=true) (hc:QQ e=true) (ht:XR e=true) (H:JD c r env e (ev C m)) (H₁:JD c r env t₁ (ev C m₁)) (H₂:JD c r env t₂ (ev C m₂)) :
    JN c r env (.Assign [.Tuple [.Attribute t₁ (c.nm n₁) p₁,.Attribute t₂ (c.nm n₂) p₂] k tp] e pos) (exc C (.asgTA m₁ n₁ D₁ m₂ n₂ D₂ m)):=fun A _ fl σ' g s E Q hr hf R N=>bnE hf fun v σ₁ h1 h=>boE h fun q hq h=>bnE h fun o₁ σ₂ h3 h=>boE h fun σ₃ h5 h=>bnE h fun o₂ σ₄ h7 h=>boE h fun σ₅ h9 h10 =>
  Assign_Tuple (H hr h1 R fun x s₁ g₁ R₁ X₁ E₁=>ZD8 (P:=fun v=>Vx c env g₁ s₁ v x→_) hq (fun X₁=>X₁.tupE fun a o items n f1 c1 d1 r1=>by
    show wpAny _ _ (do standAt tp; unpack (.ref a) (assignEach [.Attribute t₁ (c.nm n₁) p₁,.Attribute t₂ (c.nm n₂) p₂] env)) _ _ _
    refine wpAny_bind (wpAny_standAt (unpack_tuple hr.1 ⟨_,f1.1,c1,_,d1⟩ (by rw [Jg r1]; rfl) rfl fun h' he=>?_))
    have kk:∀ b p,s₁.heap.get? b=some p→h'.get? b=some p:=fun b p e=>he b p (Nat.ne_of_lt (Heap.lt_size e)) e
    have E':Ext env g₁ g₁ s₁ { s₁ with heap:=h' }:=.grow kk rfl
    have R':=R₁.grow (s':={ s₁ with heap:=h' }) kk R₁.pos
    have r1':=VRs.ext E' r1
    generalize items.toList=xs at r1'
    refine r1'.twoE fun y1 y2 a1 a2=>?_
    show wpAny _ _ (do holding _ (assign (.Attribute t₁ (c.nm n₁) p₁) env _); (do holding _ (assign (.Attribute t₂ (c.nm n₂) p₂) env _); pure ())) _ _ _
    exact wpAny_bind (wpAny_holding (Om H₁ hr h3 R' fun ov s₂ g₂ R₂ X₂ E₂=>X7 O hn₁ h5 R₂ X₂ (VR.ext E₂ a1) fun s₃ R₃ E₃ =>
      wpAny_bind (wpAny_holding (Om H₂ hr h7 R₃ fun ov s₄ g₄ R₄ X₄ E₄=>X7 O hn₂ h9 R₄ X₄ (VR.ext (E₂.trans (E₃.trans E₄)) a2) fun s₅ R₅ E₅=>wpAny_pure
        ((N.of h10).nxt R₅ (E₁.trans (E'.trans (E₂.trans (E₃.trans (E₄.trans E₅))))))))))) X₁) (DR hc) (Op ht)
end
end Mine
end
noncomputable section
open PySem PySem.Calls PyProof.Rows PySem.W
namespace Mine
theorem Zt {x:Str} {v:Value}:∀ {l:List (Str×Value)},(l.map (·.1)).Nodup→(x,v)∈l→l.lookup x=some v
  | (a,b) :: l,hn,h=>by
    obtain ⟨h1,h2⟩:=List.nodup_cons.mp hn
    rw [List.lookup_cons]
    rcases List.mem_cons.mp h with e | h
    · cases e; rw [beq_self_eq_true]
    · have hm:x∈l.map (·.1):=List.mem_map_of_mem (f:=(·.1)) h
      rw [beq_false_of_ne fun (q:x=a)=>h1 (q▸hm)]; exact Zt h2 h
theorem BK {x:Str}:∀ {l:List (Str×Value)},x ∉ l.map (·.1)→l.lookup x=none
  | [],_=>rfl
  | (a,b) :: l,h=>by rw [List.lookup_cons,beq_false_of_ne fun (q:x=a)=>h (q▸List.mem_cons_self)]; exact BK fun q=>h (.tail _ q)
theorem Tv {x:Str} {l:List (Str×Value)} (hn:(l.map (·.1)).Nodup) (h:x∈l.map (·.1)):(l.lookup x).isSome=true:=by
  obtain ⟨p,h1,rfl⟩:=List.mem_map.mp h
  rw [Zt hn h1]; rfl
noncomputable def U8 (x:Str×Value) (r:List (Str×Value)):Sem (ForInStep (List (Str×Value))):=if (List.lookup x.1 r).isNone=true then pure (ForInStep.yield (r++[(x.1,x.2)])) else pure (ForInStep.yield r)
theorem GB {st m:List (Str×Value)}:∀ {l:List (Str×Value)},(∀ p∈l,(st.lookup p.1).isSome=true)→forIn (l++m) st U8=forIn m st U8
  | [],_=>rfl
  | p :: l,h=>by
    rw [List.cons_append,List.forIn_cons]
    unfold U8
    rw [Option.isNone_eq_false_iff.mpr (h p (.head _)),if_neg Bool.false_ne_true,pure_bind]
    exact GB fun p hp=>h p (.tail _ hp)
theorem B8:∀ {l st:List (Str×Value)},((st++l).map (·.1)).Nodup→forIn l st U8=pure (st++l)
  | [],st,_=>by rw [List.append_nil]; rfl
  | p :: l,st,h=>by
    rw [List.append_cons] at h ⊢
    have h':=(List.nodup_append.mp (List.map_append▸h)).1
    rw [List.map_append] at h'
    rw [List.forIn_cons]
    unfold U8
    rw [BK fun q=>(List.nodup_append.mp h').2.2 _ q _ (.head _) rfl,Option.isNone_none,if_pos rfl,pure_bind]
    exact B8 h
theorem OY:∀ {l L:List (Str×Value)},(∀ p∈l,L.lookup p.1=some p.2)→(l.map (·.1)).filterMap (fun n=>(L.lookup n).map fun x=>(n,x))=l
  | [],_,_=>rfl
  | p :: l,L,h=>by
    rw [List.map_cons,List.filterMap_cons,h p (.head _),OY fun p hp=>h p (.tail _ hp)]; rfl
theorem bd1 {n k d:Nat} (h1:k≤n) (h2:d≤n) (h3:n≤k + d):k - (n - d)=d - (n - k)∧n - d≤k∧d - (n - k)≤d∧n - k=d - (d - (n - k)):=by
  obtain ⟨a,rfl⟩:=Nat.exists_eq_add_of_le h1
  obtain ⟨b,rfl⟩:=Nat.exists_eq_add_of_le (Nat.le_of_add_le_add_left h3)
  have hb:b≤k:=Nat.le_of_add_le_add_left (Nat.add_comm k a▸h2:a + b≤a + k)
  rw [Nat.add_sub_cancel_left,Nat.add_sub_cancel_left,Nat.add_comm k a,Nat.add_sub_add_left,Nat.sub_sub_self hb]
  exact ⟨rfl,Nat.sub_le _ _,Nat.le_add_left _ _,(Nat.add_sub_cancel a b).symm⟩
theorem KK {α:Type} {M:Model} {A:Around} {p:Prop} [Decidable p] {x y:Sem α} {Q:α→Shared→Prop} {E:Value→Shared→Prop} {s:Shared} (h:¬ p) (k:wpAny M A y Q E s):wpAny M A (if p then x else y) Q E s:=by
  rw [if_neg h]; exact k
theorem ZAc {α:Type} {p:α→Bool} {l:List α} (h:∀ x∈l,p x=false):¬ (!(l.filter p).isEmpty)=true:=by
  rw [List.filter_eq_nil_iff.mpr fun x hx q=>Bool.false_ne_true ((h x hx).symm.trans q)]; exact Bool.false_ne_true
noncomputable def Jf (as:List Arg):List Str:=as.map (·.arg)
structure Binds (ns:List Str) (xs ds ys:List Value):Prop where
  nodup:ns.Nodup
  h1:xs.length≤ns.length
  h2:ds.length≤ns.length
  h3:ns.length≤xs.length + ds.length
  ys:ys=xs++ds.drop (ds.length - (ns.length - xs.length))
section
variable {ns:List Str} {xs ds ys:List Value}
theorem Binds.len (B:Binds ns xs ds ys):ys.length=ns.length:=by
  rw [B.ys,List.length_append,List.length_drop,← (bd1 B.h1 B.h2 B.h3).2.2.2]; exact Nat.add_sub_cancel' B.h1
theorem Binds.fst (B:Binds ns xs ds ys):(ns.zip ys).map (·.1)=ns:=List.map_fst_zip (Nat.le_of_eq B.len.symm)
theorem Binds.lt (B:Binds ns xs ds ys):(ns.take xs.length).length=xs.length:=List.length_take_of_le B.h1
theorem Binds.low (B:Binds ns xs ds ys):(ns.take xs.length).zip xs=ns.zip xs:=by
  have:=List.zip_append (l₁:=ns.take xs.length) (r₁:=ns.drop xs.length) (l₂:=xs) (r₂:=[]) B.lt
  rw [List.take_append_drop,List.append_nil,List.zip_nil_right,List.append_nil] at this; exact this.symm
theorem Binds.all (B:Binds ns xs ds ys):ns.zip xs++(ns.drop xs.length).zip (ds.drop (ds.length - (ns.length - xs.length)))=ns.zip ys:=by
  rw [← B.low,← List.zip_append B.lt,List.take_append_drop,B.ys]
theorem Binds.nd (B:Binds ns xs ds ys):((ns.zip ys).map (·.1)).Nodup:=by rw [B.fst]; exact B.nodup
theorem Binds.given (B:Binds ns xs ds ys) {x:Str} (hx:x∈ns.take xs.length):((ns.zip xs).lookup x).isSome=true:=by
  have n:=B.nd
  rw [← B.all,List.map_append] at n
  refine Tv (List.nodup_append.mp n).1 ?_
  rw [← B.low,List.map_fst_zip (Nat.le_of_eq B.lt)]; exact hx
theorem Binds.loop (B:Binds ns xs ds ys):forIn ((ns.drop (ns.length - ds.length)).zip ds) (ns.zip xs) U8=pure (ns.zip ys):=by
  obtain ⟨b1,b2,b3,b4⟩:=bd1 B.h1 B.h2 B.h3
  have e3:((ns.take xs.length).drop (ns.length - ds.length)).zip (ds.take (ds.length - (ns.length - xs.length)))++(ns.drop xs.length).zip (ds.drop (ds.length - (ns.length - xs.length)))=(ns.drop (ns.length - ds.length)).zip ds:=by
    rw [← List.zip_append (by rw [List.length_drop,B.lt,b1,List.length_take_of_le b3]),List.take_append_drop,← List.drop_append_of_le_length (by rw [B.lt]; exact b2),List.take_append_drop]
  rw [← e3,GB fun p hp=>B.given (List.mem_of_mem_drop (List.of_mem_zip hp).1),B8 (by rw [B.all]; exact B.nd),B.all]
theorem Binds.missing (B:Binds ns xs ds ys):∀ x∈ns.take (ns.length - ds.length),((ns.zip xs).lookup x).isNone=false:=fun x hx =>
  Option.isNone_eq_false_iff.mpr (B.given (List.take_subset_take_left _ (bd1 B.h1 B.h2 B.h3).2.1 hx))
theorem Binds.done (B:Binds ns xs ds ys):(ns++[]).filterMap (fun n=>((ns.zip ys).lookup n).map fun x=>(n,x))=ns.zip ys:=by
  have:=OY (l:=ns.zip ys) fun p hp=>Zt B.nd hp
  rw [B.fst] at this
  rw [List.append_nil,this]
theorem Ol {s:Shared} {fd:FuncData} {as:List Arg} {dd:List Expr} (hp:fd.params=⟨[],as,none,[],[],none,dd⟩) (B:Binds (Jf as) xs ds ys) {r:Option (Array Value)} (hr:(r.getD #[]).toList=ds)
    (hs:∀ (M:Model) (A:Around) (E:Value→Shared→Prop) (Q:Option (Array Value)→Shared→Prop),Q r s→wpAny M A (seqItems? fd.defaults) Q E s):BindsTo s fd ⟨xs,[]⟩ ((Jf as).zip ys):=fun M A E Q hq=>by
  have hD:ds.drop (ds.length - (Jf as).length)=ds:=by rw [Nat.sub_eq_zero_of_le B.h2,List.drop_zero]
  unfold bindArgs
  rw [hp]
  refine wpAny_bind (wpAny_pure (wpAny_bind (hs _ _ _ _ ?_)))
  rw [hr]
  refine KK (fun q=>Nat.not_lt.mpr B.h1 (of_decide_eq_true (Bool.and_eq_true_iff.mp q).1)) (KK ?_ ?_)
  · refine ZAc ?_
    show ∀ x∈(Jf as).take ((Jf as).length - (ds.drop (ds.length - (Jf as).length)).length),(((Jf as).zip xs).lookup x).isNone=false
    rw [hD]; exact B.missing
  · show wpAny M A (forIn (((Jf as).drop ((Jf as).length - (ds.drop (ds.length - (Jf as).length)).length)).zip (ds.drop (ds.length - (Jf as).length))) ((Jf as).zip xs) U8 >>= _) Q E s
    rw [hD,B.loop]
    refine wpAny_bind (wpAny_pure (wpAny_bind (wpAny_pure (KK (fun q=>nomatch q) (wpAny_pure ?_)))))
    show Q ((Jf as++[]).filterMap (fun n=>(((Jf as).zip ys).lookup n).map fun x=>(n,x))) s
    rw [B.done]; exact hq
end

section
variable {c:Cx} {r:Nat} {env env':Env} {A:Around} {σ σ' σ₁:St} {g g₁:Gh} {s s' s₁ s₂:Shared} {E:Value→Shared→Prop} {Q:Value→Shared→Prop} {v:Mine.V} {D:Addr→Prop}
noncomputable def Gh.inn (g:Gh) (env:Env):Gh:={ g with X:=fun a=>g.X a∨FA env a }
structure Ent (env':Env) (s s':Shared):Prop where
  k:∀ b o,s.heap.get? b=some o→s'.heap.get? b=some o
  new:s.heap.objs.size≤env'.locals
  gens:gos s'=gos s
theorem Ent.not (e:Ent env' s s') {a:Addr} {o:Obj} (h:s.heap.get? a=some o):¬ FA env' a:=fun z=>Qh h e.new z
theorem Fz.enter {a:Addr} {o:Obj} (e:Ent env' s s') (h:Fz env g s.heap a o):Fz env' (g.inn env) s'.heap a o:=⟨e.k _ _ h.1,h.2.1,fun z=>z.elim h.2.2.1 h.2.2.2,e.not h.1⟩
theorem VRs.enter {v:List Mine.V} {x:List Value} (e:Ent env' s s') (h:Vxs c env g s v x):Vxs c env' (g.inn env) s' v x:=h.mono (fun _ _ z=>z.enter e) (fun _ _ z=>z)
theorem Rel.enter (R:Rel c env g σ s) (e:Ent env' s s') (hp:0 < s'.toks) {l:List (Nat×Mine.V)} {m:Str→Option Value} (hn:s'.heap.Ns env'.locals m) (hl:Qp c env' (Mine.Fz env' (g.inn env) s'.heap) g.rho l m):Rel c env' (g.inn env) { σ with loc:=l } s':=
  ⟨⟨fun a o q=>(R.kin a o q).enter e,fun a q=>(R.wob a q).imp fun o z=>e.k _ _ z,fun a q=>q.elim (fun q=>(R.xob a q).imp fun o z=>e.k _ _ z) fun q=>(R.fob a q).imp fun o z=>e.k _ _ z,fun a q=>q▸nsO hn,
    fun a w=>⟨fun z=>z.elim (R.dis a w).1 (R.dis a w).2,let ⟨_,q⟩:=R.wob a w; e.not q⟩,⟨m,hn,hl⟩,fun id ob q=>(R.obs id ob q).imp fun _=>Exists.imp fun _ z=>⟨z.1,z.2.mono (fun _ _ z=>z.enter e) (fun _ _ z=>z) fun _=>e.k _ _⟩,R.cW,R.inj,R.nx,R.ps⟩,hp⟩
theorem Fz.leave {a:Addr} {o:Obj} (hX:g₁.X=(g.inn env).X) (h:Fz env' g₁ s₁.heap a o):Fz env { g₁ with X:=g.X } s₁.heap a o:=
  ⟨h.1,h.2.1,fun z=>h.2.2.1 (hX▸Or.inl z),fun z=>h.2.2.1 (hX▸Or.inr z)⟩
theorem VR.leave {v:Mine.V} {x:Value} (hX:g₁.X=(g.inn env).X) (h:Vx c env' g₁ s₁ v x):Vx c env { g₁ with X:=g.X } s₁ v x:=h.mono (fun _ _ z=>z.leave hX) (fun _ _ z=>z)
theorem Ext.leave (e:Ent env' s s') (x:Ext env' (g.inn env) g₁ s' s₁):Ext env g { g₁ with X:=g.X } s s₁:=
  ⟨fun a o q w _=>x.fz a o (e.k _ _ q) w (e.not q),x.cs,rfl,x.gens.trans e.gens⟩
theorem Rel.leave (R:Rel c env g σ s) (e:Ent env' s s') (x:Ext env' (g.inn env) g₁ s' s₁) (R₁:Rel c env' g₁ σ₁ s₁):Rel c env { g₁ with X:=g.X } { σ₁ with loc:=σ.loc } s₁:=by
  have X:=Ext.leave e x
  have kA:∀ a o,FA env a→s.heap.get? a=some o→s₁.heap.get? a=some o:=fun a o f q=>(x.fz a o (e.k _ _ q) (fun w=>(R.dis a w).2 f) (e.not q)).1
  obtain ⟨m,hm,hl⟩:=R.loc
  exact ⟨⟨fun a o q=>(R₁.kin a o q).leave x.X,R₁.wob,fun a q=>R₁.xob a (x.X▸.inl q),fun a q=>(R.fob a q).imp fun o z=>kA _ _ q z,
    fun a w=>⟨fun z=>(R₁.dis a w).1 (x.X▸.inl z),fun z=>(R₁.dis a w).1 (x.X▸.inr z)⟩,⟨m,hm.at fun p q=>kA _ _ rfl q,hl.mono (fun _ _=>X.Fz) fun _ _=>X.rho⟩,
    fun id ob q=>(R₁.obs id ob q).imp fun _=>Exists.imp fun _ z=>⟨z.1,z.2.mono (fun _ _ z=>z.leave x.X) (fun _ _ z=>z) fun _ z=>z⟩,R₁.cW,R₁.inj,R₁.nx,R₁.ps⟩,R₁.pos⟩
end
end Mine
end
noncomputable section
open PySem PySem.Calls PyProof.Rows PySem.W
namespace Mine
noncomputable def dIs (v:Mine.V):Value→Bool
  | .none=>v.isNone
  | .bool b=>v.isBool b
  | .int i _=>v.isInt i
  | _=>false
theorem ZM {c:Cx} {F:Addr→Obj→Prop} {ρ:Id→Option Addr} {v:Mine.V} {x:Value} (h:dIs v x=true):VR c F ρ v x:=by
  cases x <;> first | exact ff h | skip
  · cases v <;> first | exact ff h | exact .none
  · cases v <;> first | exact ff h | (cases bE h; exact .bool _)
  · cases v <;> first | exact ff h | (cases bE h; exact .int _ _)
noncomputable def Za:List Mine.V→List Value→Bool
  | [],xs=>xs.isEmpty
  | v :: l,xs=>(match xs with
    | []=>false
    | x :: xs=>dIs v x&&Za l xs)
theorem B5 {c:Cx} {F:Addr→Obj→Prop} {ρ:Id→Option Addr}:∀ {l:List Mine.V} {xs:List Value},Za l xs=true→VRs c F ρ l xs
  | [],[],_=>.nil
  | [],_ :: _,h=>ff h
  | _ :: _,[],h=>ff h
  | _ :: _,_ :: _,h=>bA h fun h1 h2=>.cons (ZM h1) (B5 h2)
noncomputable def Wb (o:Obj):Option (List Value):=match o.data with
  | .seq items _=>some items.toList
  | _=>none
noncomputable def Kk (K:Frag):Value→Option (List Value)
  | .none=>some []
  | .ref T=>bo (K.lookup T) Wb
  | _=>none
theorem KO {o:Obj} {l:List Value} (h:Wb o=some l):∃ items n,o.data=.seq items n∧items.toList=l:=by
  unfold Wb at h
  generalize o.data=d at h
  cases d <;> first | exact nn h | (cases h; exact ⟨_,_,rfl,rfl⟩)
theorem BW {K:Frag} {v:Value} {ds:List Value} (h:Kk K v=some ds) {s:Shared} (X:K.In s.heap) :
    ∃ r:Option (Array Value),(r.getD #[]).toList=ds∧∀ (M:Model) (A:Around) (E:Value→Shared→Prop) (Q:Option (Array Value)→Shared→Prop),Q r s→wpAny M A (seqItems? v) Q E s:=by
  cases v <;> first | exact nn h | skip
  · cases h; exact ⟨none,rfl,fun M A E Q hq=>wpAny_pure hq⟩
  · exact boE (show bo (K.lookup _) Wb=some ds from h) fun o h1 h2=>let ⟨items,n,h3,h4⟩:=KO h2; ⟨some items,h4,fun M A E Q hq=>wpAny_seqItems (X _ _ h1) h3 hq⟩
structure DefAt (c:Cx) (f:Nat) (m:MFun) (fd:FuncData) (body:List Stmt) (as:List Arg) (dd:List Expr) (ds:List Value):Prop where
  at_:∃ oc od osl,c.K.lookup (c.fA f)=some ⟨oc,od,.func fd,osl⟩
  code:codeIn c.K fd.code fd.qualname=true
  body:fd.body=.stmts body
  params:fd.params=⟨[],as,none,[],[],none,dd⟩
  names:Jf as=m.ps.map c.nm
  nodup:(Jf as).Nodup
  dflts:Kk c.K fd.defaults=some ds
  dsok:Za m.ds ds=true
  dlen:ds.length≤(Jf as).length
  kind:fd.scope.kind=.function
  gen:fd.scope.isGenerator=false
  co:fd.scope.isCoroutine=false
  plocal:∀ x∈Jf as,fd.scope.names.lookup x=some .local∨fd.scope.names.lookup x=some .cell
  glob:fd.globals=mainGlobals
  blt:fd.builtins=builtinsNs
  clo:fd.closure=[]
section
variable {B:List (Str×Value)→(Str→Option Value)→Str→Option Value} {n:Str} {x:Value}
noncomputable def upd (m:Str→Option Value) (n:Str) (x:Value):Str→Option Value:=fun y=>if y=n then some x else m y
theorem Ko (h0:∀ m,B [] m=m) (h1:∀ a b r m,B ((a,b) :: r) m=B r m∨B ((a,b) :: r) m=B r (upd m a b)):∀ (l:List (Str×Value)) (m:Str→Option Value),n ∉ l.map (·.1)→B l m n=m n
  | [],m,_=>congrFun (h0 m) n
  | (a,b) :: l,m,h=>(h1 a b l m).elim (fun e=>(congrFun e n).trans (Ko h0 h1 l m fun q=>h (.tail _ q)))
      fun e=>(congrFun e n).trans ((Ko h0 h1 l _ fun q=>h (.tail _ q)).trans (if_neg fun q=>h (by rw [q]; exact .head _)))
theorem Yd (h0:∀ m,B [] m=m) (h1:∀ a b r m,B ((a,b) :: r) m=B r m∨B ((a,b) :: r) m=B r (upd m a b)) (h2:∀ r m,B ((n,x) :: r) m=B r (upd m n x)) :
    ∀ (l:List (Str×Value)) (m:Str→Option Value),(l.map (·.1)).Nodup→(n,x)∈l→B l m n=some x
  | (a,b) :: l,m,hn,h=>by
    obtain ⟨n1,n2⟩:=List.nodup_cons.mp hn
    rcases List.mem_cons.mp h with e | h
    · cases e; rw [h2,Ko h0 h1 l _ n1]; exact if_pos rfl
    · exact (h1 a b l m).elim (fun e=>(congrFun e n).trans (Yd h0 h1 h2 l _ n2 h)) fun e=>(congrFun e n).trans (Yd h0 h1 h2 l _ n2 h)
theorem DG {k:Str→Option NameKind} {l:List (Str×Value)} {m:Str→Option Value} (hk:k n=some .local) (hn:(l.map (·.1)).Nodup) (h:(n,x)∈l):bindL k l m n=some x:=
  Yd (B:=bindL k) (fun _=>rfl) (fun a b r m=>Classical.byCases (fun e:k a=some .local=>.inr (congrArg (bindL k r) (if_pos e))) fun e=>.inl (congrArg (bindL k r) (if_neg e))) (fun r m=>congrArg (bindL k r) (if_pos hk)) l m hn h
theorem ZBi {k:Str→Option NameKind} {l:List (Str×Value)} {m:Str→Option Value} (hk:¬ k n=some .local) (hn:(l.map (·.1)).Nodup) (h:(n,x)∈l):bindC k l m n=some x:=
  Yd (B:=bindC k) (fun _=>rfl) (fun a b r m=>Classical.byCases (fun e:k a=some .local=>.inl (congrArg (bindC k r) (if_pos e))) fun e=>.inr (congrArg (bindC k r) (if_neg e))) (fun r m=>congrArg (bindC k r) (if_neg hk)) l m hn h
end
section
variable {c:Cx} {r:Nat} {env env':Env} {A:Around} {σ σ' σ₁:St} {g g₁:Gh} {s s' s₁ s₂:Shared} {E:Value→Shared→Prop} {Q:Value→Shared→Prop} {v:Mine.V} {D:Addr→Prop}
theorem Cx.Ok.noLimit (O:c.Ok) (R:Rel c env g σ s):s.heap.NoLimit:=
  ⟨fun _=>none,⟨_,#[],0,(R.kin _ _ O.lim).1,rfl,(fun e he=>nomatch he),fun name=>rfl⟩,rfl⟩
theorem DH {F ρ} {n:Nat} {v:Mine.V}:∀ {ps:List Nat} {as:List Mine.V} {xs:List Value},VRs c F ρ as xs→JA (ps.zip as) n=some v→∃ x,(c.nm n,x)∈(ps.map c.nm).zip xs∧VR c F ρ v x
  | [],_,_,_,h=>nn h
  | _ :: _,[],_,_,h=>nn h
  | p :: ps,a :: as,_,X,h=>X.consE (P:=fun xs=>∃ x,(c.nm n,x)∈((p :: ps).map c.nm).zip xs∧VR c F ρ v x) fun y ys ha X=>by
    by_cases e:p=n
    · cases (if_pos e).symm.trans h; exact ⟨y,e▸.head _,ha⟩
    · exact (DH X ((if_neg e).symm.trans h)).imp fun _ z=>⟨.tail _ z.1,z.2⟩
theorem ZEF (R:Rel c env g σ s) {a:Addr} (h:s.heap.objs.size≤a):¬ g.W a∧¬ g.X a∧¬ FA env a:=
  ⟨fun q=>let ⟨_,e⟩:=R.wob _ q; Qh e h rfl,fun q=>let ⟨_,e⟩:=R.xob _ q; Qh e h rfl,fun q=>let ⟨_,e⟩:=R.fob _ q; Qh e h rfl⟩
theorem ZDJ {u r L:Nat} (h:u + 20 * (r + 1) + 300 < L):u + 3 + 20 * r + 300 < L:=
  Nat.lt_of_le_of_lt (Nat.add_le_add_right (by rw [Nat.mul_succ,Nat.add_assoc,Nat.add_comm 3]; exact Nat.add_le_add_left (Nat.add_le_add_left (by decide) _) _) _) h
theorem GD {u r L:Nat} (h:u + (r + 1) < L):u + 1 + r < L:=by rw [Nat.add_assoc,Nat.add_comm 1]; exact h
theorem JK.deeper (hr:JK A (r + 1)):JK (A.deeper env') r:=⟨hr.1,GD hr.2.1,ZDJ hr.2.2⟩

theorem ZD3 {fl:FL} {w:Mine.V} {fw:Flow} (hw:QM fl=some w) (X:FlR c env' g₁ s₁ fl fw) (k:∀ x,Vx c env' g₁ s₁ w x→Q x s₁):Wm Q E (.ok (.ret (match (generalizing:=false) fw with | .ret v=>v | _=>.none))) s₁:=by
  cases fl with
  | next=>cases X; cases hw; exact k _ .none
  | ret u=>obtain ⟨x,rfl,hx⟩:=X; cases hw; exact k x hx
  | _=>exact nn hw
theorem ZFI (O:c.Ok) {f:Nat} {m:MFun} {fd:FuncData} {body:List Stmt} {as:List Arg} {dd:List Expr} {ds:List Value} {C:Ora} (Df:DefAt c f m fd body as dd ds)
    (H:∀ L,EnvOk (callEnvC fd L (c.fA f))→Qk c r (callEnvC fd L (c.fA f)) body (exs C m.body))
    {vs:List Mine.V} {xs:List Value} (hr:JK A (r + 1)) (hf:Qu C m vs σ=some (v,σ')) (R:Rel c env g σ s) (X:Vxs c env g s vs xs) (N:Nxt c env g s v σ' Q):codeAny c.M A (.call (.ref (c.fA f)) ⟨xs,[]⟩) (Wm Q E) s:=
  boE hf fun avs ha h=>bnE h fun fl σ₁ hx h=>boE h fun w hw e0=>gdE ha fun hl e2=>bA hl fun l1 l2=>by
    cases e2
    have l1:=Nat.le_of_ble_eq_true l1
    have l2:=Nat.eq_of_beq_eq_true l2
    obtain ⟨oc,od,osl,ho⟩:=Df.at_
    obtain ⟨rr,hrr,hrun⟩:=BW Df.dflts R.kinD
    have dv:=B5 (c:=c) (F:=Mine.Fz env g s.heap) (ρ:=g.rho) Df.dsok
    have hpl:m.ps.length=(Jf as).length:=by rw [Df.names,List.length_map]
    rw [dv.length,X.length,hpl] at l2 hx
    rw [X.length,hpl] at l1
    have B:Binds (Jf as) xs ds _:=⟨Df.nodup,l1,Df.dlen,by rw [← l2,List.length_append,X.length]; exact Nat.add_le_add_left (by rw [List.length_drop,dv.length]; exact Nat.sub_le _ _) _,rfl⟩
    have XX:=X.append (dv.drop (ds.length - ((Jf as).length - xs.length)))
    generalize xs++ds.drop (ds.length - ((Jf as).length - xs.length))=ys at B XX
    refine codeAny_call_function (body:=body) (Nat.lt_of_le_of_lt (Nat.le_add_right _ _) hr.2.1) (R.kin _ _ ho).1 rfl Df.co Df.gen Df.body (codeRec_of R.kinD Df.code) (Ol Df.params B hrr hrun _ _ _ _ ?_)
    rw [Df.clo]
    refine QW R.pos (wpAny_newFunctionEnv_cells Df.kind (fun x hx=>?_) fun env₁ he s₁ hic htk=>?_)
    · have hm:x.1∈Jf as:=by rw [← B.fst]; exact List.mem_map_of_mem (f:=(·.1)) hx
      exact (Df.plocal _ hm).imp id fun e=>⟨e,cellsFrom_some _ _ _ (.inl e)⟩
    · have he:env₁=callEnvC fd s.heap.objs.size (c.fA f):=he
      subst he
      obtain ⟨h',tk,rfl,kk⟩:=hic.done
      have e:Ent (callEnvC fd s.heap.objs.size (c.fA f)) s { s with heap:=h',toks:=tk }:=⟨kk,Nat.le_refl _,rfl⟩
      refine ⟨(O.noLimit R).keeps kk,codeAny_func (H _ ⟨Df.kind,Df.glob,Df.blt⟩ hr.deeper hx (R.enter e htk hic.toInCall.ns fun n v q=>?_) fun fw s₁ g₁ R₁ X₁ E₁=>?_)⟩
      · obtain ⟨x,h1,h2⟩:=DH (XX.enter e) q
        rw [← Df.names] at h1
        refine ⟨fun z=>⟨x,DG z B.nd h1,h2⟩,fun z=>?_⟩
        obtain ⟨ca,hca⟩:=Option.isSome_iff_exists.mp (cellsFrom_some (x:=c.nm n) fd.scope.names (s.heap.objs.size + 1) [] (.inl z))
        obtain ⟨o,hob,hod⟩:=hic.cell _ _ hca
        have hab:s.heap.objs.size < ca:=hic.above _ _ (mem_of_lookup hca)
        obtain ⟨w1,w2,w3⟩:=ZEF R (Nat.le_of_lt hab)
        exact ⟨ca,o,x,hca,⟨hob,w1,fun q=>q.elim w2 w3,Nat.ne_of_gt hab⟩,by rw [hod,ZBi (by rw [z]; exact fun q=>nomatch q) B.nd h1],h2⟩
      · have R₂:=R.leave e E₁ R₁
        have E₂:=Ext.leave (g:=g) (env:=env) e E₁

        exact ZD3 (E:=E) hw X₁ fun x hv=>N.of e0 x s₁ _ R₂ (hv.leave E₁.X) E₂
end
end Mine
end
noncomputable section
open PySem PySem.Calls PyProof.Rows PySem.W
namespace Mine
noncomputable def Hu (c:Cx) (x:Str) (D f:Nat):Bool:=(nsIn c.K mainGlobals x==some (some (.ref (c.cA D))))&&(keepIn c.K (.ref (c.cA D))&&(makesIn c.K (c.cA D)&&((findIn c.K (.ref (c.cA D)) "__init__"==some (some (.ref (c.fA f))))&&(isFn c.K (.ref (c.fA f))&&decide (D < c.nC)))))
section
variable {c:Cx} {r:Nat} {env env':Env} {A:Around} {σ σ' σ₁:St} {g g₁:Gh} {s s' s₁ s₂:Shared} {E:Value→Shared→Prop} {Q:Value→Shared→Prop} {v:Mine.V} {D:Addr→Prop}
theorem JJ.up {r r':Nat} {C:Ora} (h:JJ c r C) (k:r≤r'):JJ c r' C:=fun _ _ _ _ _ _ _ _ _ _ _ _ hr VV hf R X N=>h (hr.le k) VV hf R X N
theorem ZDT {u r L:Nat} (h:u + 20 * (r + 1) + 300 < L):u + 1 + 20 * r + 300 < L:=
  Nat.lt_of_le_of_lt (Nat.add_le_add_right (by rw [Nat.mul_succ,Nat.add_assoc,Nat.add_comm 1]; exact Nat.add_le_add_left (Nat.add_le_add_left (by decide) _) _) _) h
theorem JK.under {A:Around} {r:Nat} {C:Addr} {rest:List Value} (h:JK A (r + 1)):JK (A.under (.builtin "type.__call__" ⟨.ref C :: rest,[]⟩)) r:=⟨h.1,GD h.2.1,ZDT h.2.2⟩
theorem ZBF {lv:LV} {o:Mine.V} {σ₂:St} {h':Heap} {x dx:Addr} {D:Nat} {P:Mine.V→Prop} (R₁:Rel c env g₁ σ₁ s₁) (h3:σ₁.alloc lv (.inst D [])=some (o,σ₂)) (hlv:lv≠.frz) (d6:D < c.nC)
    (K:Keep env (fun _=>False) s₁.heap h') (hfr:∀ a p,s₁.heap.get? a=some p→a≠dx∧a≠x) (n1:h'.get? x=some (instObj (c.cA D) dx)) (n2:h'.get? dx=some (dictOf [] 0)) (hdx:dx < x)
    (k:∀ g₂,Rel c env g₂ σ₂ { s₁ with heap:=h' }→Vx c env g₂ { s₁ with heap:=h' } o (.ref x)→Ext env g₁ g₂ s₁ { s₁ with heap:=h' }→P o):P o:=
  KI (P:=fun o=>(∀ g₂,Rel c env g₂ σ₂ { s₁ with heap:=h' }→Vx c env g₂ { s₁ with heap:=h' } o (.ref x)→Ext env g₁ g₂ s₁ { s₁ with heap:=h' }→P o)→P o) h3 hlv R₁.toRel0 (fun id hid hσ k =>
    have hxf:Mine.Fz env (g₁.add id x dx) h' x (instObj (c.cA D) dx):=⟨n1,fun z=>z.elim (fun w=>let ⟨p,e⟩:=R₁.wob x w; (hfr x p e).2 rfl) fun e=>Nat.ne_of_gt hdx e,fun z=>let ⟨p,e⟩:=R₁.xob x z; (hfr x p e).2 rfl,fun z=>let ⟨p,e⟩:=R₁.fob x z; (hfr x p e).2 rfl⟩
    k _ ⟨R₁.toRel0.add (ob:=.inst D []) K (fun a p e=>(hfr a p e).1) ⟨_,n2⟩ hid (fun k1 k2=>⟨d6,Nat.zero_le _,hxf,[],0,n2,.nil⟩) hσ,R₁.pos⟩ (.obj Gh.add_rho) (Ext.add K (fun a p e=>(hfr a p e).1) hid rfl)) k
theorem ZEt (O:c.Ok) (VV:EnvOk env) {x:Str} {es:List Expr} {C:Ora} {mes:List ME} {D f:Nat} {lv:LV} {np pos} (hs:es.all Jb=true) (hk:env.kindOf x=some .globalImplicit) (hx:(x==("__debug__":Str))=false)
    (hd:Hu c x D f=true) (hlv:lv≠.frz) (HC:JJ c r C) (H2:Jx c (r + 1) env es (evs C mes)) :
    JD c (r + 1) env (.Call (.Name x np) es [] pos) (ev C (.new D f mes lv)):=fun _ _ _ _ _ _ E Q hr hf R N=>bnE hf fun vs σ₁ h1 h=>bnE h fun o σ₂ h3 h=>bnE h fun w σ₃ h5 h=>gdE h fun hw h6=>bA hd fun d1 d=>bA d fun d2 d=>bA d fun d3 d=>bA d fun d4 d=>bA d fun d5 d6=>by
  rw [arm_eval_Call_Name',UA hs]
  refine wpAny_bind (Name_function_global VV.kind hk (wpAny_bind ((looks_nsIn R.kinD (VV.glob▸bE d1:nsIn c.K env.globals x=some (some (.ref (c.cA D))))).here (wpAny_pure ?_))) hx)
  refine callWith_of (P:=c.K.In) Zy (keeps_K d2) (UB (H2 hr h1 R fun xs s₁ g₁ R₁ X₁ E₁=>⟨R₁.kinD,wpAny_call ?_⟩))
  obtain ⟨m,hm,-⟩:=R₁.loc
  have F:Fr {} env.locals s₁.heap m:=⟨hm,fun b o e=>absurd (Heap.lt_size e) (Nat.not_lt_zero _),Nat.zero_le _⟩
  have N0:News {} env.locals s₁.heap (Ym s₁.heap env.locals env.locals):=fun p hp=>let z:=WH.mp (show (p.1,p.2)∈_ from hp); ⟨z.1,z.2.2,rfl⟩
  refine make_K F N0 R₁.kinD d3 (bE d4) (bE d5) fun x dx h' F' N' hlt hdx=>?_
  have n1:=N' _ (.head _)
  have n2:=N' _ (.tail _ (.head _))
  have hfr:∀ a p,s₁.heap.get? a=some p→a≠dx∧a≠x:=fun a p e=>by
    by_cases hl:a=env.locals
    · exact ⟨fun q=>n2.2.1 (q▸hl),fun q=>n1.2.1 (q▸hl)⟩
    · have:=hlt (a,p) (WH.mpr ⟨e,hl,hl⟩)
      exact ⟨Nat.ne_of_lt this,Nat.ne_of_lt (Nat.lt_trans this hdx)⟩
  have K:Keep env (fun _=>False) s₁.heap h':=.of_ns (fun b p _ hl e=>(N' (b,p) (.tail _ (.tail _ (WH.mpr ⟨e,hl,hl⟩)))).1) hm F'.ns
  refine ZBF (P:=fun o=>C f (o :: vs) σ₂=some (w,σ₃)→some (o,σ₃)=_→_) R₁ h3 hlv (of_decide_eq_true d6) K hfr n1.1 n2.1 hdx (fun g₂ R₂ hv E₂ h5 h6=>?_) h5 h6
  refine codeAny_mono (HC (E:=E) (Q:=fun v s'=>v=.none∧Q (.ref x) s') hr.under VV h5 R₂ (.cons hv (X₁.ext E₂)) fun y s₃ g₃ R₃ X₃ E₃=>?_) fun rr s' z=>?_
  · cases w <;> first | exact ff hw | skip
    exact X₃.noneE ⟨rfl,N.of h6 _ _ _ R₃ (hv.ext E₃) (E₁.trans (E₂.trans E₃))⟩
  · rcases rr with e | (v | _ | _ | _) <;> first | exact z | exact z.elim
end
end Mine
end
noncomputable section
open PySem PySem.Calls PyProof.Rows PySem.W
namespace Mine
noncomputable def Ui (c:Cx) (r:Nat) (env:Env) (ifs:List Expr) (f:St→Option (Bool×St)):Prop:=
  ∀ ⦃A:Around⦄ ⦃σ:St⦄ ⦃b:Bool⦄ ⦃σ':St⦄ ⦃g:Gh⦄ ⦃s:Shared⦄ ⦃E:Value→Shared→Prop⦄ ⦃Q:Bool→Shared→Prop⦄,
    JK A r→f σ=some (b,σ')→Rel c env g σ s→QV c env g s σ' (Q b) →
    wpAny c.M A (forIn ifs true fun c r=>if r=true then do let ok ← PySem.isTrue c env (eval c env); pure (ForInStep.yield ok) else pure (ForInStep.yield r)) Q E s
noncomputable def Q0 (x:Nat):List (Nat×Mine.V)→List (Nat×Mine.V)
  | []=>[]
  | p :: l=>if p.1=x then Q0 x l else p :: Q0 x l
theorem Xw (x n:Nat):∀ l:List (Nat×Mine.V),JA (Q0 x l) n=if n=x then none else JA l n
  | []=>by by_cases h:n=x <;> first | exact (if_pos h).symm | exact (if_neg h).symm
  | p :: l=>by
    show JA (if p.1=x then Q0 x l else p :: Q0 x l) n=if n=x then none else (if p.1=n then some p.2 else JA l n)
    by_cases h:p.1=x
    · rw [if_pos h,Xw x n l]
      by_cases h2:n=x
      · rw [if_pos h2,if_pos h2]
      · rw [if_neg h2,if_neg h2,if_neg fun q=>h2 (q.symm.trans h)]
    · rw [if_neg h]
      show (if p.1=n then some p.2 else JA (Q0 x l) n)=_
      rw [Xw x n l]
      by_cases h2:n=x
      · rw [if_pos h2,if_pos h2,if_neg fun q=>h (q.trans h2)]
      · rw [if_neg h2,if_neg h2]
structure CompS (c:Cx) (env:Env) (scope:Scope) (x:Nat) (cl:List (Str×Addr)):Prop where
  clos:closureFor scope env=pure cl
  cell:∀ n,(relabel scope env).names.lookup (c.nm n)=some .cell→cl.lookup (c.nm n)=env.cells.lookup (c.nm n)∧env.kindOf (c.nm n)=some .cell
  noCell:∀ y∈scope.names,y.2≠.cell
  kind:scope.kind=.function
  names:∀ y∈scope.names,y.2=.local→scope.names.lookup y.1=some .local
  hx:scope.names.lookup (c.nm x)=some .local
  loc:∀ n,(relabel scope env).names.lookup (c.nm n)=some .local→n=x
section
variable {c:Cx} {r:Nat} {env env' cenv:Env} {A:Around} {σ σ' σ₁ τ:St} {g g₁ g₂ g':Gh} {s s' s₁ s₂:Shared} {E:Value→Shared→Prop} {Q:Value→Shared→Prop} {v:Mine.V} {D:Addr→Prop}
theorem ZBd {C:Ora}:Ui c r env [] (tst C (.k (.bool true))):=fun _ _ _ _ _ _ _ _ _ hf R N=>by
  cases (show some (true,_)=some (_,_) from hf)
  rw [List.forIn_nil]
  exact wpAny_pure (N _ _ R .refl)
theorem ZBc {C:Ora} {e:Expr} {m:ME} (H:JW c r env e (tst C m)):Ui c r env [e] (tst C m):=fun _ _ _ _ _ _ _ _ hr hf R N=>wpAny_tests_one (H hr hf R N)
theorem Rel.reloc (R:Rel c env g σ s) {l:List (Nat×Mine.V)} (h:∀ m,Qp c env (Mine.Fz env g s.heap) g.rho l m):Rel c env g { σ with loc:=l } s:=
  ⟨⟨R.kin,R.wob,R.xob,R.fob,R.dis,R.loc.imp fun m z=>⟨z.1,h m⟩,R.obs,R.cW,R.inj,R.nx,R.ps⟩,R.pos⟩

structure CC (c:Cx) (env cenv:Env) (I:Nat) (S:Nat→Heap→Prop) (g₁:Gh) (s₁:Shared):Prop where
  hI:I=s₁.heap.objs.size
  hK:cenv.locals=I + 2
  frm:∀ i h h',S i h→(∀ b,(b=I∨∃ o,Fz env g₁ s₁.heap b o)→∀ o,h.get? b=some o→h'.get? b=some o)→S i h'
  fob:∃ o,s₁.heap.get? env.locals=some o
theorem CC.lt {I S} (k:CC c env cenv I S g₁ s₁) {a:Addr} {p:Obj} (e:s₁.heap.get? a=some p):a < I:=k.hI▸Heap.lt_size e
theorem CC.neI {I S} (k:CC c env cenv I S g₁ s₁) {a:Addr} {p:Obj} (e:s₁.heap.get? a=some p):a≠I:=Nat.ne_of_lt (k.lt e)
theorem CC.neL {I S} (k:CC c env cenv I S g₁ s₁) {a:Addr} {p:Obj} (e:s₁.heap.get? a=some p):a≠I + 1:=Nat.ne_of_lt (Nat.lt_succ_of_lt (k.lt e))
theorem CC.neK {I S} (k:CC c env cenv I S g₁ s₁) {a:Addr} {p:Obj} (e:s₁.heap.get? a=some p):¬ FA cenv a:=fun q=>Nat.ne_of_lt (Nat.lt_succ_of_lt (Nat.lt_succ_of_lt (k.lt e))) (Eq.trans q k.hK)
theorem CC.nKI {I S} (k:CC c env cenv I S g₁ s₁):¬ FA cenv I:=fun q=>Nat.ne_of_lt (Nat.lt_succ_of_lt (Nat.lt_succ_self I)) (Eq.trans q k.hK)
theorem CC.nKL {I S} (k:CC c env cenv I S g₁ s₁):¬ FA cenv (I + 1):=fun q=>Nat.ne_of_lt (Nat.lt_succ_self (I + 1)) (Eq.trans q k.hK)
theorem CC.new {I S} (k:CC c env cenv I S g₁ s₁) (a:Addr) (z:FA cenv a):s₁.heap.objs.size≤a:=by rw [show a=I + 2 from k.hK▸z,← k.hI]; exact Nat.le_add_right _ _
noncomputable def cX (g₁:Gh) (env:Env) (I:Nat):Addr→Prop:=fun a=>(g₁.X a∨(a=I∨a=I + 1))∨FA env a
structure CI (c:Cx) (env cenv:Env) (I:Nat) (S:Nat→Heap→Prop) (g₁:Gh) (s₁:Shared) (i:Nat) (ys:Array Value) (n:Nat) (done:List Mine.V) (g₂:Gh) (s₂:Shared):Prop where
  X:g₂.X=cX g₁ env I
  E:Ext env g₁ { g₂ with X:=g₁.X } s₁ s₂
  S:S i s₂.heap
  L:IsL s₂.heap (I + 1) ys n
  V:Vxs c cenv g₂ s₂ done ys.toList
  fr:∀ p,s₁.heap.get? env.locals=some p→s₂.heap.get? env.locals=some p
section
variable {I:Nat} {S:Nat→Heap→Prop} {i i' n n':Nat} {ys ys':Array Value} {done done':List Mine.V}
theorem CI.xI (z:CI c env cenv I S g₁ s₁ i ys n done g₂ s₂) {a:Addr} (e:a=I):g₂.X a:=by rw [z.X]; exact .inl (.inr (.inl e))
theorem CI.xL (z:CI c env cenv I S g₁ s₁ i ys n done g₂ s₂) {a:Addr} (e:a=I + 1):g₂.X a:=by rw [z.X]; exact .inl (.inr (.inr e))
theorem CI.xE (z:CI c env cenv I S g₁ s₁ i ys n done g₂ s₂) {a:Addr} (e:FA env a):g₂.X a:=by rw [z.X]; exact .inr e
theorem CI.inn (k:CC c env cenv I S g₁ s₁) (z:CI c env cenv I S g₁ s₁ i ys n done g₂ s₂) {a:Addr} {o:Obj} (q:Mine.Fz env g₁ s₁.heap a o):Mine.Fz cenv g₂ s₂.heap a o:=
  ⟨(z.E.Fz q).1,(z.E.Fz q).2.1,fun w=>by rw [z.X] at w; exact w.elim (fun w=>w.elim q.2.2.1 fun w=>w.elim (k.neI q.1) (k.neL q.1)) q.2.2.2,k.neK q.1⟩
theorem CI.step (k:CC c env cenv I S g₁ s₁) (z:CI c env cenv I S g₁ s₁ i ys n done g₂ s₂) (R₂:Rel c cenv g₂ τ s₂) (e:Ext cenv g₂ g' s₂ s'):CI c env cenv I S g₁ s₁ i ys n done g' s':=
  ⟨e.X.trans z.X,⟨fun a o q w f=>let ⟨h,w'⟩:=z.E.fz a o q w f; e.fz a o h w' fun q'=>Qh q (k.new a q') rfl,fun i p q=>e.cs i p (z.E.cs i p q),rfl,e.gens.trans z.E.gens⟩,
    k.frm _ _ _ z.S fun b hb o eo=>hb.elim (fun q=>(e.fz _ _ eo (fun w=>(R₂.dis _ w).1 (z.xI q)) (q▸k.nKI)).1) fun ⟨o',q⟩=>by
      have q':=z.inn k q
      cases q'.1.symm.trans eo
      exact (e.fz _ _ eo q'.2.1 q'.2.2.2).1,
    (e.fz _ _ z.L (fun w=>(R₂.dis _ w).1 (z.xL rfl)) k.nKL).1,z.V.ext e,fun p ep=>(e.fz _ _ (z.fr p ep) (fun w=>(R₂.dis _ w).1 (z.xE rfl)) (k.neK ep)).1⟩
theorem CI.iter {S':Nat→Heap→Prop} (k:CC c env cenv I S g₁ s₁) (z:CI c env cenv I S g₁ s₁ i ys n done g₂ s₂) (hk:∀ b p,¬ b=I→s₂.heap.get? b=some p→s'.heap.get? b=some p) (hg:gos s'=gos s₂) (hS:S' i' s'.heap):CI c env cenv I S' g₁ s₁ i' ys n done g₂ s':=
  ⟨z.X,z.E.changed (D:=(·=I)) (fun a e=>e▸Nat.le_of_eq k.hI.symm) hk hg,hS,hk _ _ (Nat.succ_ne_self I) z.L,z.V.changed (D:=(·=I)) (fun a e=>z.xI e) hk,fun p e=>hk _ _ (k.neI e) (z.fr p e)⟩
theorem CI.app (k:CC c env cenv I S g₁ s₁) (z:CI c env cenv I S g₁ s₁ i ys n done g₂ s₂) (hk:∀ b p,¬ b=I + 1→s₂.heap.get? b=some p→s'.heap.get? b=some p) (hg:gos s'=gos s₂) (hl:IsL s'.heap (I + 1) ys' n') (hv:Vxs c cenv g₂ s' done' ys'.toList) :
    CI c env cenv I S g₁ s₁ i ys' n' done' g₂ s':=
  ⟨z.X,z.E.changed (D:=(·=I + 1)) (fun a e=>by rw [e,← k.hI]; exact Nat.le_succ _) hk hg,k.frm _ _ _ z.S fun b hb o eo=>hk b o (hb.elim (fun q=>by rw [q]; exact (Nat.succ_ne_self I).symm) fun ⟨_,q⟩=>k.neL q.1) eo,hl,hv,fun p e=>hk _ _ (k.neL e) (z.fr p e)⟩
theorem CI.loc {scope:Scope} {x:Nat} {cl:List (Str×Addr)} (k:CC c env (compEnvC scope cl (I + 2) env) I S g₁ s₁) (C:CompS c env scope x cl) (R₁:Rel c env g₁ σ₁ s₁) (z:CI c env (compEnvC scope cl (I + 2) env) I S g₁ s₁ i ys n done g₂ s₂) (m:Str→Option Value) :
    Qp c (compEnvC scope cl (I + 2) env) (Mine.Fz (compEnvC scope cl (I + 2) env) g₂ s₂.heap) g₂.rho (Q0 x σ₁.loc) m:=fun n v e=>by
  rw [Xw] at e
  by_cases hne:n=x
  · rw [if_pos hne] at e; exact nn e
  · rw [if_neg hne] at e
    refine ⟨fun q=>absurd (C.loc n q) hne,fun q=>?_⟩
    obtain ⟨q1,q2⟩:=C.cell n q
    obtain ⟨_,_,hl⟩:=R₁.loc
    obtain ⟨ca,o',y,e1,e2,e3,r⟩:=(hl n v e).2 q2
    exact ⟨ca,o',y,q1.trans e1,z.inn k e2,e3,r.mono (fun _ _=>z.inn k) fun _ _=>z.E.rho⟩
end
theorem TP {x n:Nat} {w:Mine.V} {l:List (Nat×Mine.V)} {v:Mine.V} (e:JA ((x,w) :: l) n=some v):JA (Mine.put (Q0 x l) x w) n=some v:=by
  rw [QD]
  by_cases h:x=n
  · exact (if_pos h).trans ((if_pos h).symm.trans e)
  · exact (if_neg h).trans ((Xw x n l).trans ((if_neg fun q=>h q.symm).trans ((if_neg h).symm.trans e)))
inductive CompI (c:Cx) (env cenv:Env) (S:Nat→Heap→Prop) (g₁:Gh) (s₁:Shared) (σ₁:St) (x:Nat) (l:List Mine.V) (body:Mine.V→St→Option (Option Mine.V×St)) (rs:List Mine.V) (σ':St) (k:Nat) (s₂:Shared):Prop
  | mk (i:Nat) (τ:St) (g₂:Gh) (ys:Array Value) (n:Nat) (done rest:List Mine.V) (hk:k=l.length + 1 - i) (hi:i≤l.length) (hτ:τ.loc=σ₁.loc) (R:Rel c cenv g₂ { τ with loc:=Q0 x σ₁.loc } s₂) (Z:CI c env cenv s₁.heap.objs.size S g₁ s₁ i ys n done g₂ s₂)
      (hd:done.length≤i) (hN:Jv body (l.drop i) τ=some (rest,σ')) (hrs:rs=done++rest)
theorem Ov {K:Addr} (R:Rel c env (g₁.hid (·=K)) σ s₁) (hn:∀ a,g₁.X a→a≠K) (hf:K≠env.locals) (hs:∀ b p,¬ b=K→s₁.heap.get? b=some p→s'.heap.get? b=some p) (hp:0 < s'.toks):Rel c env g₁ σ s':=
  R.drop (D:=(·=K)) (X:=g₁.X) (fun a x=>.inl x) (fun a x=>.inr x) hn hs (fun a e q=>hf (e.symm.trans q)) hp
structure CEnd (c:Cx) (env:Env) (g:Gh) (s:Shared) (v:Mine.V) (σ':St) (g':Gh) (s':Shared) (K L:Addr) (mm:Str→Option Value):Prop where
  R:Rel c env (g'.hid (·=K)) σ' s'
  hK:∀ a p,s.heap.get? a=some p→¬ g.W a→¬ FA env a→a≠K
  hKX:∀ a,g'.X a→a≠K
  hKL:K≠env.locals
  V:Vx c env (g'.hid (·=K)) s' v (.ref L)
  E:Ext env g g' s s'
  ns:s'.heap.Ns K mm
theorem ZBe {S} {i n:Nat} {ys:Array Value} {done:List Mine.V} {mm:Str→Option Value} (k:CC c env cenv s₁.heap.objs.size S g₁ s₁) (R₁:Rel c env g₁ σ₁ s₁) (E₁:Ext env g g₁ s s₁) (z:CI c env cenv s₁.heap.objs.size S g₁ s₁ i ys n done g₂ s₂)
    {l:List (Nat×Mine.V)} (R₂:Rel c cenv g₂ { σ' with loc:=l } s₂) (hτ:σ'.loc=σ₁.loc) (hmm:s₂.heap.Ns cenv.locals mm) (hk:∀ b p,¬ b=s₁.heap.objs.size→s₂.heap.get? b=some p→s'.heap.get? b=some p) (hg:gos s'=gos s₂) (hp:0 < s'.toks) :
    CEnd c env g s (.list done) σ' { g₂ with X:=g₁.X } s' (s₁.heap.objs.size + 2) (s₁.heap.objs.size + 1) mm:=by
  obtain ⟨m,hm,hl⟩:=R₁.loc
  have z':CI c env cenv s₁.heap.objs.size (fun _ _=>True) g₁ s₁ i ys n done g₂ s':=z.iter k hk hg trivial
  have kW:∀ a,g₂.W a→¬ a=s₁.heap.objs.size:=fun a w q=>(R₂.dis a w).1 (z.xI q)
  have kF:∀ a o,Mine.Fz cenv g₂ s₂.heap a o→Mine.Fz env (({ g₂ with X:=g₁.X }:Gh).hid (·=s₁.heap.objs.size + 2)) s'.heap a o:=fun a o q =>
    ⟨hk _ _ (fun w=>q.2.2.1 (z.xI w)) q.1,q.2.1,fun w=>w.elim (fun w=>q.2.2.1 (by rw [z.X]; exact .inl (.inl w))) fun w=>q.2.2.2 (w.trans k.hK.symm),fun w=>q.2.2.1 (z.xE w)⟩
  have hmm':s'.heap.Ns (s₁.heap.objs.size + 2) mm:=k.hK▸hmm.at fun p e=>hk _ _ (fun q=>k.nKI q.symm) e
  exact ⟨⟨⟨fun a o q=>kF _ _ (R₂.kin a o q),fun a w=>(R₂.wob a w).imp fun o e=>hk _ _ (kW a w) e,fun a q=>q.elim (fun q=>let ⟨p,h⟩:=R₁.xob a q; (R₂.xob a (by rw [z.X]; exact .inl (.inl q))).imp fun o e=>hk _ _ (k.neI h) e) fun q=>q▸nsO hmm',
      fun a q=>(R₁.fob a q).imp fun o e=>by cases (show a=env.locals from q); exact z'.fr o e,
      fun a w=>⟨fun q=>q.elim (fun q=>(R₂.dis a w).1 (by rw [z.X]; exact .inl (.inl q))) fun q=>(R₂.dis a w).2 (q.trans k.hK.symm),fun q=>(R₂.dis a w).1 (z.xE q)⟩,⟨m,hm.at fun p e=>z'.fr p e,hτ▸hl.mono (fun a o q=>kF a o (z.inn k q)) fun _ _=>z.E.rho⟩,
      fun id ob q=>(R₂.obs id ob q).imp fun _=>Exists.imp fun _ q=>⟨q.1,q.2.mono kF (fun _ _ q=>q) fun _=>hk _ _ (kW _ (R₂.cW _ _ _ q.1))⟩,R₂.cW,R₂.inj,R₂.nx,R₂.ps⟩,hp⟩,
    fun a p e w f q=>k.neK (E₁.fz a p e w f).1 (q.trans k.hK.symm),fun a q e=>let ⟨p,h⟩:=R₁.xob a q; k.neK h (e.trans k.hK.symm),fun q=>let ⟨p,h⟩:=R₁.fob _ rfl; k.neK h (q.symm.trans k.hK.symm),
    .list (n:=n) ⟨z'.L,fun w=>(R₂.dis _ w).1 (z.xL rfl),fun q=>q.elim (fun q=>let ⟨p,h⟩:=R₁.xob _ q; k.neL h rfl) fun q=>absurd q (Nat.succ_ne_self _).symm,fun q=>let ⟨p,h⟩:=R₁.fob _ rfl; k.neL h q.symm⟩ (z.V.mono kF fun _ _ q=>q),E₁.trans z'.E,hmm'⟩

variable {scope:Scope} {x:Nat} {cl:List (Str×Addr)} {C:Ora} {elt it:Expr} {mi me mc:ME} {px:Pos} {ifs:List Expr} {pos:Pos} {use:Option (Value→Sem Unit)} {Q':Value→Shared→Prop}
theorem ZDL {S} (k:CC c env cenv s₁.heap.objs.size S g₁ s₁) (R₁:Rel c env g₁ σ₁ s₁) (z:CI c env cenv s₁.heap.objs.size S g₁ s₁ 0 #[] 0 [] { g₁ with X:=cX g₁ env s₁.heap.objs.size } s') {o:Obj} (k0:∀ b p,s₁.heap.get? b=some p→s'.heap.get? b=some p) (hI:s'.heap.get? s₁.heap.objs.size=some o)
    {m:Str→Option Value} (hn:s'.heap.Ns (s₁.heap.objs.size + 2) m) {l:List (Nat×Mine.V)} (hl:∀ m,Qp c cenv (Mine.Fz cenv { g₁ with X:=cX g₁ env s₁.heap.objs.size } s'.heap) g₁.rho l m) (hp:0 < s'.toks):Rel c cenv { g₁ with X:=cX g₁ env s₁.heap.objs.size } { σ₁ with loc:=l } s':=
  ⟨⟨fun a o q=>z.inn k (R₁.kin a o q),fun a q=>(R₁.wob a q).imp fun o e=>k0 _ _ e,fun a q=>q.elim (fun q=>q.elim (fun q=>(R₁.xob a q).imp fun o e=>k0 _ _ e) fun q=>q.elim (fun q=>⟨o,q▸hI⟩) fun q=>⟨_,q▸z.L⟩) fun q=>(R₁.fob a q).imp fun o e=>k0 _ _ e,
    fun a q=>(k.hK▸q:a=s₁.heap.objs.size + 2)▸nsO hn,fun a w=>let ⟨p,h⟩:=R₁.wob a w; ⟨fun q=>q.elim (fun q=>q.elim (R₁.dis a w).1 fun q=>q.elim (k.neI h) (k.neL h)) (R₁.dis a w).2,k.neK h⟩,⟨m,k.hK▸hn,hl m⟩,
    fun id ob q=>(R₁.obs id ob q).imp fun _=>Exists.imp fun _ q=>⟨q.1,q.2.mono (fun _ _=>z.inn k) (fun _ _ q=>q) fun _=>k0 _ _⟩,R₁.cW,R₁.inj,R₁.nx,R₁.ps⟩,hp⟩
theorem ZAo (O:c.Ok) (VV:EnvOk env) (F:CompS c env scope x cl) (H2:∀ L,EnvOk (compEnvC scope cl L env)→JD c r (compEnvC scope cl L env) elt (ev C me)) (H3:∀ L,EnvOk (compEnvC scope cl L env)→Ui c r (compEnvC scope cl L env) ifs (tst C mc))
    (hr:JK A r) {l rs:List Mine.V} {o:Obj} {fp P S} (T:ItF c env g₁ s₁ l o fp P S) (K:CC c env (compEnvC scope cl (s₁.heap.objs.size + 2) env) s₁.heap.objs.size S g₁ s₁) (R₁:Rel c env g₁ σ₁ s₁) (E₁:Ext env g g₁ s s₁) (hlb:l.length≤sizeLine)
    (N:∀ g' s' mm,CEnd c env g s (.list rs) σ' g' s' (s₁.heap.objs.size + 2) (s₁.heap.objs.size + 1) mm→compPost c.M A E use Q' (.ref (s₁.heap.objs.size + 1)) (s₁.heap.objs.size + 2) (.ok .next) s')
    {s₃:Shared} (I0:CompI c env (compEnvC scope cl (s₁.heap.objs.size + 2) env) S g₁ s₁ σ₁ x l (Ji (ev C me) (ev C mc) x σ₁.loc) rs σ' (l.length + 1) s₃) :
    codeAny c.M A (.compLoop (.ListComp elt [⟨.Name (c.nm x) px,it,ifs,0⟩] scope pos) 0 (.ref s₁.heap.objs.size) (.ref (s₁.heap.objs.size + 1)) (compEnvC scope cl (s₁.heap.objs.size + 2) env)) (compPost c.M A E use Q' (.ref (s₁.heap.objs.size + 1)) (s₁.heap.objs.size + 2)) s₃:=by
  have VVc:EnvOk (compEnvC scope cl (s₁.heap.objs.size + 2) env):=⟨F.kind,VV.glob,VV.blt⟩
  have hkx:(compEnvC scope cl (s₁.heap.objs.size + 2) env).kindOf (c.nm x)=some .local:=lookup_relabel_local F.hx
  have W:=T.walks A hr.1
  have kk:∀ {h h':Heap},(∀ b p,b ∉ [s₁.heap.objs.size]→h.get? b=some p→h'.get? b=some p)→∀ b p,¬ b=s₁.heap.objs.size→h.get? b=some p→h'.get? b=some p:=fun h b p hb=>h b p fun q=>hb (List.mem_singleton.mp q)
  refine codeAny_compLoop_tests (I:=CompI c env (compEnvC scope cl (s₁.heap.objs.size + 2) env) S g₁ s₁ σ₁ x l (Ji (ev C me) (ev C mc) x σ₁.loc) rs σ') (fun k s₂ I=>?_) (l.length + 1) I0 (fun _=>rfl)
  cases I with
  | mk i τ g₂ ys n done rest hk' hi hτ R₂ z hdl hN hrs =>
    by_cases hlt:i < l.length
    · refine QW R₂.pos (W.item i s₂ _ _ hlt z.S fun y h' tk hPy hS' hk₂ htk=>?_)
      obtain ⟨w,hw,hwy⟩:=T.item i y hlt hPy
      have R₃:Rel c _ g₂ { τ with loc:=Q0 x σ₁.loc } { s₂ with heap:=h',toks:=tk }:=R₂.changed (D:=(·=s₁.heap.objs.size)) (fun a e=>z.xI e) (kk hk₂) (fun a e=>e▸(T.alive _ _ hS').imp fun _ z=>z.1) (fun a e=>e▸K.nKI) htk
      have z₃:=z.iter (s':={ s₂ with heap:=h',toks:=tk }) (i':=i + 1) K (kk hk₂) rfl hS'
      have hd:l.drop i=w :: l.drop (i + 1):=by
        obtain ⟨h1,h2⟩:=List.getElem?_eq_some_iff.mp hw
        rw [List.drop_eq_getElem_cons h1,h2]
      rw [hd] at hN
      refine bnE (show bn (Ji (ev C me) (ev C mc) x σ₁.loc w τ) (fun o σ₁'=>bn (Jv (Ji (ev C me) (ev C mc) x σ₁.loc) (l.drop (i + 1)) σ₁') fun l σ₂=>some (Dd o l,σ₂))=some (rest,σ') from hN) fun ov τ' hb hN=>bnE hN fun rest' τe hNb hNc=>?_
      refine bnE (show bn (ev C mc { τ with loc:=(x,w) :: σ₁.loc }) (fun w τ₁=>bo (Mine.Jh τ₁ w) fun c=>match c with | false=>some (none,{ τ₁ with loc:=σ₁.loc }) | true=>bn (ev C me τ₁) fun z τ₂=>some (some z,{ τ₂ with loc:=σ₁.loc }))=some (ov,τ') from hb) fun cw τ₁ hb1 hb=>boE hb fun tb hb3 hb4=>?_
      refine wpAny_assign_Name (Ut O VVc hkx R₃ (hwy.mono (fun _ _=>z₃.inn K) fun _ _=>z₃.E.rho) fun s₄ R₄ E₄=>H3 _ VVc hr (Qz hb1 hb3) (R₄.sub (σ':={ τ with loc:=(x,w) :: σ₁.loc }) (fun n v e=>TP e) (fun _ _ e=>e) (Nat.le_refl _) (fun _ e=>e)) fun s₅ g₅ R₅ E₅=>?_)
      have z₅:=z₃.step K R₃ (E₄.trans E₅)
      cases tb with
      | false =>
        cases hb4
        cases hNc
        exact ⟨l.length + 1 - (i + 1),hk'▸KM hlt,.mk (i + 1) { τ₁ with loc:=σ₁.loc } g₅ ys n done rest' rfl hlt rfl (R₅.reloc (z₅.loc K F R₁)) z₅ (Nat.le_succ_of_le hdl) hNb hrs⟩
      | true =>
        refine bnE hb4 fun u τ₂ hb5 hb6=>?_
        cases hb6
        cases hNc
        refine H2 _ VVc hr hb5 R₅ fun zv s₆ g₆ R₆ X₆ E₆=>?_
        have z₆:=z₅.step K R₅ E₆
        refine wpAny_list_append_plain (items:=ys) ⟨n,z₆.L⟩ (fun h₇ hl₇ hs₇=>?_) (by rw [Jg z₆.V]; exact Nat.le_trans hdl (Nat.le_trans hi hlb))
        obtain ⟨n',hl₇⟩:=hl₇
        have hk₇:∀ b p,¬ b=s₁.heap.objs.size + 1→s₆.heap.get? b=some p→h₇.get? b=some p:=fun b p hb e=>(hs₇.2 b hb).trans e
        have ch:∀ a,a=s₁.heap.objs.size + 1→g₆.X a:=fun a e=>z₆.xL e
        have R₇:Rel c _ g₆ τ₂ { s₆ with heap:=h₇ }:=R₆.changed (D:=(·=s₁.heap.objs.size + 1)) ch hk₇ (fun a e=>e▸⟨_,hl₇⟩) (fun a e=>e▸K.nKL) R₆.pos
        have z₇:=z₆.app (s':={ s₆ with heap:=h₇ }) (ys':=ys.push zv) (n':=n') (done':=done++[u]) K hk₇ rfl hl₇ (by rw [Array.toList_push]; exact (z₆.V.changed (D:=(·=s₁.heap.objs.size + 1)) ch hk₇).append (.cons (X₆.changed (D:=(·=s₁.heap.objs.size + 1)) ch hk₇) .nil))
        exact ⟨l.length + 1 - (i + 1),hk'▸KM hlt,.mk (i + 1) { τ₂ with loc:=σ₁.loc } g₆ (ys.push zv) n' (done++[u]) rest' rfl hlt rfl (R₇.reloc (z₇.loc K F R₁)) z₇ (by rw [List.length_append]; exact Nat.succ_le_succ hdl) hNb (by rw [hrs,List.append_assoc]; rfl)⟩
    · cases Nat.le_antisymm hi (Nat.not_lt.mp hlt)
      rw [List.drop_length] at hN
      cases (show some ([],τ)=some (rest,σ') from hN)
      refine QW R₂.pos (W.done s₂ _ _ z.S fun h' tk hk₂ htk=>?_)
      obtain ⟨mm,hmm,-⟩:=R₂.loc
      rw [List.append_nil] at hrs
      exact N _ _ mm (hrs▸ZBe (s':={ s₂ with heap:=h',toks:=tk }) K R₁ E₁ z R₂ hτ hmm (kk hk₂) rfl htk)
theorem BY (O:c.Ok) (VV:EnvOk env) (hs:∀ x,foldedSetIterable it env x=pure x) (F:CompS c env scope x cl) (H:JD c r env it (ev C mi))
    (H2:∀ L,EnvOk (compEnvC scope cl L env)→JD c r (compEnvC scope cl L env) elt (ev C me)) (H3:∀ L,EnvOk (compEnvC scope cl L env)→Ui c r (compEnvC scope cl L env) ifs (tst C mc))
    {p0:Pos} (hr:JK A r) (hf:ev C (.comp me x mi mc) σ=some (v,σ')) (R:Rel c env g σ s) (N:∀ g' s' K L mm,CEnd c env g s v σ' g' s' K L mm→compPost c.M A E use Q' (.ref L) K (.ok .next) s') :
    wpAny c.M A (comprehension (.ListComp elt [⟨.Name (c.nm x) px,it,ifs,0⟩] scope pos) scope env p0 (newList []) false (eval it env) use) Q' E s:=
  bnE hf fun w σ₁ h1 h=>boE h fun l h3 h=>bdE h fun hlb h=>bnE h fun rs σ₂ h5 h6=>by
    cases h6
    refine wpAny_comprehension_free (use:=use) rfl hs F.clos F.kind F.names (H hr h1 R fun xv s₁ g₁ R₁ X₁ E₁=>Dw h3 R₁ X₁ fun o fp P S T=>?_)
    refine wpAny_newObj_type (wpAny_newFunctionEnv F.noCell (fun y hy=>nomatch hy) (fun h₁ hns₁ hsb₁=>?_) F.kind)
    have e1:(s₁.heap.push o).objs.size=s₁.heap.objs.size + 1:=Heap.size_push ..
    have e2:((s₁.heap.push o).push { cls:=.type "list",dict:=none,data:=.seq ([]:List Value).toArray }).objs.size=s₁.heap.objs.size + 2:=by rw [Heap.size_push,e1]
    dsimp only at hns₁ hsb₁ ⊢
    rw [e1]
    rw [e2] at hns₁ hsb₁ ⊢
    have W:=T.walks A hr.1
    have k1:∀ b p,(s₁.heap.push o).get? b=some p→h₁.get? b=some p:=fun b p e=>(hsb₁.2 b (Nat.ne_of_lt (Nat.lt_succ_of_lt (e1▸Heap.lt_size e)))).trans (Heap.get?_push_of_some _ (Heap.get?_push_of_some _ e))
    have k0:∀ b p,s₁.heap.get? b=some p→h₁.get? b=some p:=fun b p e=>k1 b p (Heap.get?_push_of_some _ e)
    have hL:IsL h₁ (s₁.heap.objs.size + 1) #[] 0:=(hsb₁.2 _ (Nat.ne_of_lt (Nat.lt_succ_self _))).trans (Heap.get?_push_of_some _ (by rw [← e1]; exact Heap.get?_push_size _ rfl))
    have hI:h₁.get? s₁.heap.objs.size=some o:=k1 _ _ (Heap.get?_push_size _ T.fr)
    have K:CC c env (compEnvC scope cl (s₁.heap.objs.size + 2) env) s₁.heap.objs.size S g₁ s₁:=⟨rfl,rfl,fun i h h' hS q=>W.frame _ _ _ hS fun b hb=>q b (T.fp b hb),R₁.fob _ rfl⟩
    have S0:S 0 h₁:=W.frame _ _ _ T.s0 fun b _=>k1 b
    have z:CI c env (compEnvC scope cl (s₁.heap.objs.size + 2) env) s₁.heap.objs.size S g₁ s₁ 0 #[] 0 [] { g₁ with X:=cX g₁ env s₁.heap.objs.size } { s₁ with heap:=h₁,toks:=s₁.toks + ([]:List (Str×Value)).length }:=
      ⟨rfl,⟨fun a p e w _=>⟨k0 _ _ e,w⟩,fun _ _ e=>e,rfl,rfl⟩,S0,hL,.nil,k0 _⟩
    have RC:=ZDL K R₁ z k0 hI hns₁ (z.loc K F R₁) R₁.pos
    have loop:=ZAo (E:=E) (use:=use) (Q':=Q') (elt:=elt) (it:=it) (px:=px) (ifs:=ifs) (pos:=pos) O VV F H2 H3 hr T K R₁ E₁ (Nat.le_trans hlb (by rw [sizeLine_eq]; decide)) (fun g' s' mm h=>N _ _ _ _ mm h) (.mk 0 σ₁ _ #[] 0 [] rs rfl (Nat.zero_le _) rfl RC z (Nat.zero_le _) h5 rfl)
    exact codeAny_compStart_list loop (W.self 0 _ _ _ S0 loop)
theorem ZC6 (O:c.Ok) (VV:EnvOk env) (hs:∀ x,foldedSetIterable it env x=pure x) (F:CompS c env scope x cl) (H:JD c r env it (ev C mi))
    (H2:∀ L,EnvOk (compEnvC scope cl L env)→JD c r (compEnvC scope cl L env) elt (ev C me)) (H3:∀ L,EnvOk (compEnvC scope cl L env)→Ui c r (compEnvC scope cl L env) ifs (tst C mc)) :
    JD c r env (.ListComp elt [⟨.Name (c.nm x) px,it,ifs,0⟩] scope pos) (ev C (.comp me x mi mc)):=fun _ _ _ _ _ _ _ _ hr hf R N=>by
  rw [eval_ListComp]
  refine BY O VV hs F H H2 H3 (use:=none) hr hf R fun g' s' K L mm e=>⟨mm,e.ns,fun h' hs'=>?_⟩
  have hk:∀ b p,¬ b=K→s'.heap.get? b=some p→h'.get? b=some p:=fun b p hb e=>(hs'.2 b hb).trans e
  exact N _ _ _ (Ov e.R e.hKX e.hKL hk e.R.pos) (e.V.mono (fun a o z=>⟨hk _ _ (fun q=>z.2.2.1 (.inr q)) z.1,z.2.1,fun q=>z.2.2.1 (.inl q),z.2.2.2⟩) fun _ _ z=>z) ⟨fun a p q w f=>⟨hk _ _ (e.hK a p q w f) (e.E.fz a p q w f).1,(e.E.fz a p q w f).2⟩,e.E.cs,e.E.X,e.E.gens⟩
theorem ZCx (O:c.Ok) (VV:EnvOk env) (hs:∀ x,foldedSetIterable it env x=pure x) (F:CompS c env scope x cl) {n:Nat} {np spos:Pos} (hk:env.kindOf (c.nm n)=some .local)
    (hsw:swapsWith (.ListComp elt [⟨.Name (c.nm x) px,it,ifs,0⟩] scope pos) (some (.Name (c.nm n) np)) spos.line env=pure true) (H:JD c r env it (ev C mi))
    (H2:∀ L,EnvOk (compEnvC scope cl L env)→JD c r (compEnvC scope cl L env) elt (ev C me)) (H3:∀ L,EnvOk (compEnvC scope cl L env)→Ui c r (compEnvC scope cl L env) ifs (tst C mc)) :
    JN c r env (.Assign [.Name (c.nm n) np] (.ListComp elt [⟨.Name (c.nm x) px,it,ifs,0⟩] scope pos) spos) (exc C (.asg n (.comp me x mi mc))):=fun A _ fl σ' g s E Q hr hf R N=>bnE hf fun v σ₁ h1 h2=>by
  rw [exec_Assign_Name_used _ _ _ _ hsw]
  refine wpAny_bind (wpAny_standAt (wpAny_bind ?_))
  show wpAny _ A (do let _ ← comprehension (.ListComp elt [⟨.Name (c.nm x) px,it,ifs,0⟩] scope pos) scope env _ (newList []) false (eval it env) (some (assign (.Name (c.nm n) np) env))) _ _ s
  refine wpAny_bind (wpAny_mono (BY (Q':=fun _ s'=>Q .next s') O VV hs F H H2 H3 (use:=some (assign (.Name (c.nm n) np) env)) hr h1 R fun g' s' K L mm e=>?_) (fun _ s' hq=>wpAny_pure (wpAny_pure hq)) fun _ _ e=>e)
  show wpAny _ _ (assign (.Name (c.nm n) np) env (.ref L)) _ _ _
  refine wpAny_assign_Name (Ut O VV hk e.R e.V fun s'' R'' E''=>⟨mm,e.ns.at fun p q=>(E''.fz _ _ q (fun w=>(e.R.dis _ w).1 (.inr rfl)) e.hKL).1,fun h' hs'=>?_⟩)
  have hk:∀ b p,¬ b=K→s''.heap.get? b=some p→h'.get? b=some p:=fun b p hb e=>(hs'.2 b hb).trans e
  exact (N.of h2).nxt (Ov R'' e.hKX e.hKL hk R''.pos) ⟨fun a p q w f=>let ⟨z,w'⟩:=e.E.fz a p q w f; ⟨hk _ _ (e.hK a p q w f) (E''.fz a p z w' f).1,w'⟩,e.E.cs,e.E.X,E''.gens.trans e.E.gens⟩
end
end Mine
end
noncomputable section
open PySem PySem.Calls PyProof.Rows PySem.W
namespace Mine
section
variable {c:Cx} {r:Nat} {env env':Env}
theorem ZC8 (O:c.Ok) (VV:EnvOk env) {n:Nat} {pos} (hk:env.kindOf (c.nm n)=some .cell):JD c r env (.Name (c.nm n) pos) (fun σ=>bo (JA σ.loc n) fun v=>some (v,σ)):=fun _ _ _ _ _ _ _ _ _ hf R N=>boE hf fun w hv e=>by
  obtain ⟨m,hm,hl⟩:=R.loc
  obtain ⟨ca,o,x,h1,h2,h3,r⟩:=(hl n _ hv).2 hk
  exact wpAny_Name (wpAny_loadName_cell VV.kind hk h1 ⟨o,h2.1,h3⟩ ((N.of e).same R r)) (O.noDbg n)
end
noncomputable def W4 (env:Env):Prop:=∀ x,env.kindOf x=some .cell→(env.cells.lookup x).isSome=true
noncomputable def Zb (env:Env) (p:Str×NameKind) (cs:List (Str×Addr)):Sem (ForInStep (List (Str×Addr))):=match p with
  | (name,kind)=>if (kind==NameKind.free)=true then do let a ← cellOf env name; pure (ForInStep.yield ((name,a) :: cs)) else pure (ForInStep.yield cs)
theorem KG {env:Env}:∀ (l:List (Str×NameKind)) (acc:List (Str×Addr)),(∀ p∈l,p.2=.free→(env.cells.lookup p.1).isSome=true)→(∀ n a,acc.lookup n=some a→env.cells.lookup n=some a) →
    ∃ cl,forIn l acc (Zb env)=pure cl∧(∀ n a,cl.lookup n=some a→env.cells.lookup n=some a)∧∀ n,((n,NameKind.free)∈l∨(acc.lookup n).isSome=true)→(cl.lookup n).isSome=true
  | [],acc,_,ha=>⟨acc,rfl,ha,fun n h=>h.elim (fun h=>nomatch h) id⟩
  | (m,k) :: l,acc,hl,ha=>by
    rw [List.forIn_cons]
    by_cases hk:(k==NameKind.free)=true
    · obtain ⟨a,hs⟩:=Option.isSome_iff_exists.mp (hl (m,k) (.head _) (beq_iff_eq.mp hk))
      have hs:env.cells.lookup m=some a:=hs
      have hf:Zb env (m,k) acc=pure (ForInStep.yield ((m,a) :: acc)):=by
        show (if (k==NameKind.free)=true then (cellOf env m >>= fun a=>pure (ForInStep.yield ((m,a) :: acc))) else _)=_
        rw [if_pos hk]; unfold cellOf; rw [hs]; rfl
      obtain ⟨cl,h0,h1,h2⟩:=KG l ((m,a) :: acc) (fun p hp=>hl p (.tail _ hp)) fun n a' e=>by
        rw [List.lookup_cons] at e
        by_cases hn:n=m
        · subst hn; rw [beq_self_eq_true] at e; exact hs.trans e
        · rw [beq_false_of_ne hn] at e; exact ha n a' e
      refine ⟨cl,by rw [hf]; exact h0,h1,fun n h=>h2 n ?_⟩
      have hd:((List.lookup m ((m,a) :: acc))).isSome=true:=by rw [List.lookup_cons,beq_self_eq_true]; rfl
      refine h.elim (fun h=>(List.mem_cons.mp h).elim (fun h=>.inr ?_) .inl) fun h=>.inr ?_
      · cases h; exact hd
      · by_cases hn:n=m
        · subst hn; exact hd
        · rw [List.lookup_cons,beq_false_of_ne hn]; exact h
    · have hf:Zb env (m,k) acc=pure (ForInStep.yield acc):=if_neg hk
      obtain ⟨cl,h0,h1,h2⟩:=KG l acc (fun p hp=>hl p (.tail _ hp)) ha
      exact ⟨cl,by rw [hf]; exact h0,h1,fun n h=>h2 n (h.elim (fun h=>(List.mem_cons.mp h).elim (fun h=>absurd (by cases h; rfl) hk) .inl) .inr)⟩
theorem Td {env:Env} {scope:Scope} (h:∀ p∈scope.names,p.2=.free→(env.cells.lookup p.1).isSome=true) :
    ∃ cl,closureFor scope env=pure cl∧(∀ n a,cl.lookup n=some a→env.cells.lookup n=some a)∧∀ n,(n,NameKind.free)∈scope.names→(cl.lookup n).isSome=true:=by
  obtain ⟨cl,h0,h1,h2⟩:=KG (env:=env) scope.names [] h fun _ _ e=>nomatch e
  refine ⟨cl,?_,h1,fun n h=>h2 n (.inl h)⟩
  show (forIn scope.names [] (Zb env) >>= fun cs=>pure cs)=_
  rw [h0]; rfl
theorem Zn {α:Type} {l:List (Str×α)} {x:Str} {a:α} (h:l.lookup x=some a):(x,a)∈l:=by
  obtain ⟨l1,l2,e,-⟩:=List.lookup_eq_some_iff.mp h
  rw [e]; exact List.mem_append_right _ (.head _)
theorem Of {env:Env} {scope:Scope} {x:Str} {k:NameKind} (h:(relabel scope env).names.lookup x=some k):((x,NameKind.free)∈scope.names∧env.kindOf x=some .cell∧k=.cell)∨(x,k)∈scope.names:=by
  obtain ⟨⟨a,b⟩,hp,e⟩:=List.mem_map.mp (Zn h)
  have e:(if (b==NameKind.free&&env.scope.kind==ScopeKind.function&&env.kindOf a==some NameKind.cell)=true then (a,NameKind.cell) else (a,b))=(x,k):=e
  by_cases q:(b==NameKind.free&&env.scope.kind==ScopeKind.function&&env.kindOf a==some NameKind.cell)=true
  · rw [if_pos q] at e
    cases e
    exact bA q fun q q2=>bA q fun q1 _=>.inl ⟨bE q1▸hp,bE q2,rfl⟩
  · rw [if_neg q] at e; cases e; exact .inr hp
noncomputable def Uj (scope:Scope) (kn:Str→Option NameKind) (x:Str):Option NameKind:=(scope.names.map fun (n,k)=>if (k==.free&&kn n==some .cell) then (n,NameKind.cell) else (n,k)).lookup x
noncomputable def Uu (c:Cx) (scope:Scope) (kn:Str→Option NameKind) (x:Nat):Bool:=
  (scope.kind==.function)&&(scope.names.all (fun p=>!(p.2==.cell))&&(scope.names.all (fun p=>!(p.2==.local)||(scope.names.lookup p.1==some .local&&(p.1==c.nm x||p.1==(".0":Str)))) &&
    ((scope.names.lookup (c.nm x)==some .local)&&scope.names.all (fun p=>!(p.2==.free)||kn p.1==some .cell))))
end Mine
end
noncomputable section
open PySem PySem.Calls PyProof.Rows PySem.W
namespace Mine
noncomputable def JS (c:Cx) (r:Nat) (env:Env) (e:Expr) (C:Ora) (m:ME):Prop:=JD c r env e (ev C m)∧JW c r env e (tst C m)
theorem JS.plain {c:Cx} {r:Nat} {env:Env} {e:Expr} {C:Ora} {m:ME} (h:JD c r env e (ev C m)) (hp:Kz e=true):JS c r env e C m:=⟨h,ZAR hp h⟩
theorem sE {a b:Str} {P:Str→Prop} (h:(a==b)=true) (k:P b):P a:=beq_iff_eq.mp h▸k
theorem kE {a:Option NameKind} {b:NameKind} (h:(a==some b)=true):a=some b:=beq_iff_eq.mp h
theorem Q5 {α:Type} {l:List α} {P:List α→Prop} (h:l.isEmpty=true) (f:P []):P l:=by
  cases l
  · exact f
  · exact ff h
noncomputable def l1 {α:Type} (l:List α) (k:α→Bool):Bool:=match l with | [a]=>k a | _=>false
theorem UQ {α:Type} {l:List α} {k:α→Bool} {P:List α→Prop} (h:l1 l k=true) (f:∀ a,k a=true→P [a]):P l:=by
  match l with
  | []=>exact ff h
  | [a]=>exact f a h
  | _ :: _ :: _=>exact ff h
noncomputable def l2 {α:Type} (l:List α) (k:α→α→Bool):Bool:=match l with | [a,b]=>k a b | _=>false
theorem Wp {α:Type} {l:List α} {k:α→α→Bool} {P:List α→Prop} (h:l2 l k=true) (f:∀ a b,k a b=true→P [a,b]):P l:=by
  match l with
  | []=>exact ff h
  | [_]=>exact ff h
  | [a,b]=>exact f a b h
  | _ :: _ :: _ :: _=>exact ff h
section
variable {e:Expr} {P:Expr→Prop}
noncomputable def W8 (e:Expr) (k:Const→Bool):Bool:=ctq fun h=>Expr.Constant.elim (motive_1:=fun _=>Bool) e h fun v _ _=>k v
@[elab_as_elim] theorem Z0 {k} (h:W8 e k=true) (f:∀ v n p,k v=true→P (.Constant v n p)):P e:=Je h fun q=>Expr.Constant.elim (motive_1:=fun e=>W8 e k=true→P e) e q (fun _ _ _ h=>f _ _ _ h) h
noncomputable def Q2 (e:Expr) (k:Str→Bool):Bool:=ctq fun h=>Expr.Name.elim (motive_1:=fun _=>Bool) e h fun y _=>k y
@[elab_as_elim] theorem UV {k} (h:Q2 e k=true) (f:∀ y p,k y=true→P (.Name y p)):P e:=Je h fun q=>Expr.Name.elim (motive_1:=fun e=>Q2 e k=true→P e) e q (fun _ _ h=>f _ _ h) h
noncomputable def Ks (e:Expr) (k:Str→Pos→Bool):Bool:=ctq fun h=>Expr.Name.elim (motive_1:=fun _=>Bool) e h fun y p=>k y p
@[elab_as_elim] theorem ZAs {k} (h:Ks e k=true) (f:∀ y p,k y p=true→P (.Name y p)):P e:=Je h fun q=>Expr.Name.elim (motive_1:=fun e=>Ks e k=true→P e) e q (fun _ _ h=>f _ _ h) h
noncomputable def Qt (e:Expr) (k:Expr→Str→Pos→Bool):Bool:=ctq fun h=>Expr.Attribute.elim (motive_1:=fun _=>Bool) e h fun v a p=>k v a p
@[elab_as_elim] theorem UC {k} (h:Qt e k=true) (f:∀ v a p,k v a p=true→P (.Attribute v a p)):P e:=Je h fun q=>Expr.Attribute.elim (motive_1:=fun e=>Qt e k=true→P e) e q (fun _ _ _ h=>f _ _ _ h) h
noncomputable def Y3 (e:Expr) (k:Expr→List Expr→Pos→Bool):Bool:=ctq fun h=>Expr.Call.elim (motive_1:=fun _=>Bool) e h fun g es kw p=>kw.isEmpty&&k g es p
@[elab_as_elim] theorem DK {k} (h:Y3 e k=true) (f:∀ g es p,k g es p=true→P (.Call g es [] p)):P e:=
  Je h fun q=>Expr.Call.elim (motive_1:=fun e=>Y3 e k=true→P e) e q (fun _ _ _ _ h=>bA h fun h1 h2=>Q5 (P:=fun kw=>P (.Call _ _ kw _)) h1 (f _ _ _ h2)) h
noncomputable def W9 (e:Expr) (k:Str→List Expr→Bool):Bool:=Y3 e fun g es _=>Q2 g fun y=>k y es
@[elab_as_elim] theorem X9 {k} (h:W9 e k=true) (f:∀ y np es p,k y es=true→P (.Call (.Name y np) es [] p)):P e:=
  DK h fun _ es p h=>UV (P:=fun g=>P (.Call g es [] p)) h fun y np h=>f y np es p h
noncomputable def Uz (e:Expr) (k:Expr→Str→List Expr→Bool):Bool:=Y3 e fun g es p=>Qt g fun v a ap=>Js v&&(es.all Jb&&((ap.endLine==p.line)&&(decide (es.length < 25)&&k v a es)))
@[elab_as_elim] theorem WK {k} (h:Uz e k=true) (f:∀ v a ap es p,Js v=true→es.all Jb=true→(ap.endLine==p.line)=true→es.length < 25→k v a es=true→P (.Call (.Attribute v a ap) es [] p)):P e:=
  DK h fun _ es p h=>UC (P:=fun g=>P (.Call g es [] p)) h fun v a ap h=>bA h fun h1 h=>bA h fun h2 h=>bA h fun h3 h=>bA h fun h4 h=>f v a ap es p h1 h2 h3 (of_decide_eq_true h4) h
noncomputable def Xc (e:Expr) (k:Expr→List CmpOp→List Expr→Bool):Bool:=ctq fun h=>Expr.Compare.elim (motive_1:=fun _=>Bool) e h fun l ops rs _=>k l ops rs
@[elab_as_elim] theorem Kt {k} (h:Xc e k=true) (f:∀ l ops rs p,k l ops rs=true→P (.Compare l ops rs p)):P e:=Je h fun q=>Expr.Compare.elim (motive_1:=fun e=>Xc e k=true→P e) e q (fun _ _ _ _ h=>f _ _ _ _ h) h
noncomputable def Nu (e:Expr) (k:Expr→Operator→Expr→Bool):Bool:=ctq fun h=>Expr.BinOp.elim (motive_1:=fun _=>Bool) e h fun l o r _=>k l o r
@[elab_as_elim] theorem ZDS {k} (h:Nu e k=true) (f:∀ l o r p,k l o r=true→P (.BinOp l o r p)):P e:=Je h fun q=>Expr.BinOp.elim (motive_1:=fun e=>Nu e k=true→P e) e q (fun _ _ _ _ h=>f _ _ _ _ h) h
noncomputable def ZGW:UnaryOp→Bool | .USub=>true | _=>false
noncomputable def ZGV:UnaryOp→Bool | .Not=>true | _=>false
noncomputable def xUn (e:Expr) (k:UnaryOp→Expr→Bool):Bool:=ctq fun h=>Expr.UnaryOp.elim (motive_1:=fun _=>Bool) e h fun o v _=>k o v
@[elab_as_elim] theorem HD {k} (h:xUn e k=true) (f:∀ o v p,k o v=true→P (.UnaryOp o v p)):P e:=Je h fun q=>Expr.UnaryOp.elim (motive_1:=fun e=>xUn e k=true→P e) e q (fun _ _ _ h=>f _ _ _ h) h
noncomputable def ZGX:BoolOp→Bool | .And=>true | _=>false
noncomputable def ZHr:BoolOp→Bool | .Or=>true | _=>false
noncomputable def NW (op:BoolOp) (y:Expr) (es:List Expr) (p:Pos):Expr:=match es with
  | []=>y
  | _=>.BoolOp op (y :: es) p
noncomputable def Y4 (e:Expr) (k:BoolOp→Expr→Expr→List Expr→Pos→Bool):Bool:=ctq fun h=>Expr.BoolOp.elim (motive_1:=fun _=>Bool) e h fun op l p=>(match l with | x :: y :: es=>k op x y es p | _=>false)
@[elab_as_elim] theorem DL {k} (h:Y4 e k=true) (f:∀ op x y es p,k op x y es p=true→P (.BoolOp op (x :: y :: es) p)):P e:=by
  refine Je h fun q=>Expr.BoolOp.elim (motive_1:=fun e=>Y4 e k=true→P e) e q (fun op l p h=>?_) h
  match l,h with
  | [],h=>exact ff h
  | [_],h=>exact ff h
  | x :: y :: es,h=>exact f _ _ _ _ _ h
noncomputable def xIf (e:Expr) (k:Expr→Expr→Expr→Bool):Bool:=ctq fun h=>Expr.IfExp.elim (motive_1:=fun _=>Bool) e h fun t b o _=>k t b o
@[elab_as_elim] theorem ZFe {k} (h:xIf e k=true) (f:∀ t b o p,k t b o=true→P (.IfExp t b o p)):P e:=Je h fun q=>Expr.IfExp.elim (motive_1:=fun e=>xIf e k=true→P e) e q (fun _ _ _ _ h=>f _ _ _ _ h) h
noncomputable def Wh (e:Expr) (k:Expr→Expr→Bool):Bool:=ctq fun h=>Expr.Subscript.elim (motive_1:=fun _=>Bool) e h fun v i _=>k v i
@[elab_as_elim] theorem Yi {k} (h:Wh e k=true) (f:∀ v i p,k v i=true→P (.Subscript v i p)):P e:=Je h fun q=>Expr.Subscript.elim (motive_1:=fun e=>Wh e k=true→P e) e q (fun _ _ _ h=>f _ _ _ h) h
noncomputable def Kr (e:Expr) (k:Option Expr→Option Expr→Bool):Bool:=ctq fun h=>Expr.Slice.elim (motive_1:=fun _=>Bool) e h fun lo hi st _=>(match st with | none=>k lo hi | _=>false)
@[elab_as_elim] theorem ZAr {k} (h:Kr e k=true) (f:∀ lo hi p,k lo hi=true→P (.Slice lo hi none p)):P e:=by
  refine Je h fun q=>Expr.Slice.elim (motive_1:=fun e=>Kr e k=true→P e) e q (fun _ _ st _ h=>?_) h
  cases st
  · exact f _ _ _ h
  · exact ff h
noncomputable def NM (e:Expr) (k:List Expr→Bool):Bool:=ctq fun h=>Expr.List.elim (motive_1:=fun _=>Bool) e h fun es _=>k es
@[elab_as_elim] theorem ZBl {k} (h:NM e k=true) (f:∀ es p,k es=true→P (.List es p)):P e:=Je h fun q=>Expr.List.elim (motive_1:=fun e=>NM e k=true→P e) e q (fun _ _ h=>f _ _ h) h
noncomputable def Wg (e:Expr) (k:List Expr→Bool):Bool:=ctq fun h=>Expr.Tuple.elim (motive_1:=fun _=>Bool) e h fun es _ _=>k es
@[elab_as_elim] theorem Yh {k} (h:Wg e k=true) (f:∀ es n p,k es=true→P (.Tuple es n p)):P e:=Je h fun q=>Expr.Tuple.elim (motive_1:=fun e=>Wg e k=true→P e) e q (fun _ _ _ h=>f _ _ _ h) h
noncomputable def NN (e:Expr) (k:List (Option Expr)→List Expr→Bool):Bool:=ctq fun h=>Expr.Dict.elim (motive_1:=fun _=>Bool) e h fun ks es _=>k ks es
@[elab_as_elim] theorem ZBm {k} (h:NN e k=true) (f:∀ ks es p,k ks es=true→P (.Dict ks es p)):P e:=Je h fun q=>Expr.Dict.elim (motive_1:=fun e=>NN e k=true→P e) e q (fun _ _ _ h=>f _ _ _ h) h
noncomputable def XS (e:Expr):Bool:=ctt fun h=>Expr.Set.elim (motive_1:=fun _=>Bool) e h fun _ _ _=>false
noncomputable def XI (e:Expr) (k:Expr→Str→Expr→List Expr→Scope→Bool):Bool:=ctq fun h=>Expr.ListComp.elim (motive_1:=fun _=>Bool) e h fun elt gs sc _=>l1 gs fun g=>(g.is_async==0)&&Q2 g.target fun y=>XS g.iter&&k elt y g.iter g.ifs sc
@[elab_as_elim] theorem DJ {k} (h:XI e k=true) (f:∀ elt y yp it ifs sc p,XS it=true→k elt y it ifs sc=true→P (.ListComp elt [⟨.Name y yp,it,ifs,0⟩] sc p)):P e:=by
  refine Je h fun q=>Expr.ListComp.elim (motive_1:=fun e=>XI e k=true→P e) e q (fun elt gs sc p h=>?_) h
  refine UQ (P:=fun gs=>P (.ListComp elt gs sc p)) h fun g h=>?_
  obtain ⟨t,it,ifs,a⟩:=g
  refine bA h fun h1 h=>?_
  have h1:a=0:=beq_iff_eq.mp h1
  subst h1
  exact UV (P:=fun t=>P (.ListComp elt [⟨t,it,ifs,0⟩] sc p)) h fun y yp h=>bA h fun h2 h=>f _ _ _ _ _ _ _ h2 h
end
noncomputable def Hn:Const→Bool | .none=>true | _=>false
noncomputable def Hp (b:Bool):Const→Bool | .bool b'=>b==b' | _=>false
noncomputable def OJ (i:Int):Const→Bool | .int j=>i==j | _=>false
noncomputable def OI (x:List Nat):Const→Bool | .str y=>y==toS x | _=>false
noncomputable def Ij (v:Mine.V) (e:Expr):Bool:=W8 e fun k=>match v with
  | .none=>Hn k
  | .bool b=>Hp b k
  | .int i=>OJ i k
  | .str x=>OI x k
  | _=>false
theorem ZCR {k:Const} (h:Hn k=true):k=.none:=by cases k <;> first | rfl | exact ff h
theorem ZCS {b:Bool} {k:Const} (h:Hp b k=true):k=.bool b:=by cases k <;> first | exact ff h | exact congrArg Const.bool (beq_iff_eq.mp h).symm
theorem Gs {b:Int} {k:Const} (h:OJ b k=true):k=.int b:=by cases k <;> first | exact ff h | exact congrArg Const.int (beq_iff_eq.mp h).symm
theorem Gr {b:List Nat} {k:Const} (h:OI b k=true):k=.str (toS b):=by cases k <;> first | exact ff h | exact congrArg Const.str (beq_iff_eq.mp h)
noncomputable def IF (c:Cx) (y:Str):BI→Bool
  | .len=>Qb c y (.builtin "len")
  | .ord=>Qb c y (.builtin "ord")
  | .chr=>Qb c y (.builtin "chr")
  | .range=>Qb c y (.type "range")
  | .sum=>Qb c y (.builtin "sum")
  | .max=>false
noncomputable def DT:SM→Bool
  | .find=>true
  | .rfind=>true
  | .count=>true
  | .join=>true
  | .startswith=>true
  | .lower=>true
  | _=>false
noncomputable def meQ (m:ME) (f:Mine.V→Bool) (b:Bool):Bool:=match m with
  | .k v=>f v
  | .comp _ _ _ _=>b
  | _=>false
theorem Hh {m:ME} {f:Mine.V→Bool} {b:Bool} {P:ME→Prop} (h:meQ m f b=true) (k:∀ v,f v=true→P (.k v)) (k':∀ me x mi mc,b=true→P (.comp me x mi mc)):P m:=by
  cases m <;> first | exact ff h | exact k _ h | exact k' _ _ _ _ h
noncomputable def isK (a:ME) (f:Mine.V→Bool):Bool:=meQ a f false
theorem ZK {a:ME} {f:Mine.V→Bool} {P:ME→Prop} (h:isK a f=true) (k:∀ v,f v=true→P (.k v)):P a:=Hh h k fun _ _ _ _ h=>ff h
noncomputable def isS (v:Mine.V) (f:List Nat→Bool):Bool:=match v with | .str s=>f s | _=>false
noncomputable def NX (a:ME) (x:Expr):Bool:=isK a fun v=>isS v fun s=>W8 x (OI s)
theorem Db {a:ME} {x:Expr} {P:ME→Expr→Prop} (h:NX a x=true) (f:∀ s n p,P (.k (.str s)) (.Constant (.str (toS s)) n p)):P a x:=by
  refine ZK (P:=fun a=>P a x) h fun v h=>?_
  cases v <;> first | exact ff h | exact Z0 (P:=P _) h fun v n p h=>Gr h▸f _ n p
noncomputable def ZEa:SM→Bool | .replace=>true | _=>false
noncomputable def ZHR (m:SM) (as:List ME) (es:List Expr):Bool:=DT m||(ZEa m&&l2 as fun a b=>l2 es fun x y=>NX a x&&NX b y)
noncomputable def HB (a:ME):Bool:=isK a (Mine.V.beq (.int 0))
theorem ZBk {a:ME} (h:HB a=true):a=.k (.int 0):=by
  exact ZK (P:=fun a=>a=.k (.int 0)) (f:=Mine.V.beq (.int 0)) h fun v h=>congrArg ME.k (Mine.V.eq_of_beq h).symm
noncomputable def ZF0 (as:List ME) (es:List Expr):Bool:=(as.isEmpty&&es.isEmpty)||l1 as fun a=>l1 es fun x=>HB a&&W8 x (OJ 0)
noncomputable def dbg (y:Str):Bool:=!(y==("__debug__":Str))
theorem XE {y:Str} (h:dbg y=true):(y==("__debug__":Str))=false:=by
  unfold dbg at h
  cases q:(y==("__debug__":Str))
  · rfl
  · rw [q] at h; exact ff h
noncomputable def opN:CmpOp→Nat
  | .Eq=>0 | .NotEq=>1 | .Lt=>2 | .LtE=>3 | .Gt=>4 | .GtE=>5 | .In=>6 | .NotIn=>7 | .Is=>8 | .IsNot=>9
noncomputable def opK:Nat→CmpOp
  | 0=>.Eq | 1=>.NotEq | 2=>.Lt | 3=>.LtE | 4=>.Gt | 5=>.GtE | 6=>.In | 7=>.NotIn | 8=>.Is | _=>.IsNot
theorem Hg (a:CmpOp):opK (opN a)=a:=by cases a <;> rfl
noncomputable def Xh (a b:CmpOp):Bool:=Nat.beq (opN a) (opN b)
theorem YS {a b:CmpOp} (h:Xh a b=true):a=b:=by rw [← Hg a,← Hg b,Nat.eq_of_beq_eq_true h]
noncomputable def IG (o:Operator) (b:Bop):Bool:=match b with
  | .add=>(match o with | .Add=>true | _=>false)
  | .sub=>(match o with | .Sub=>true | _=>false)
  | .fdiv=>(match o with | .FloorDiv=>true | _=>false)
  | .mod=>(match o with | .Mod=>true | _=>false)
  | _=>false
noncomputable def XQ (a:ME):Bool:=isK a (Mine.V.beq .none)
theorem Dk {a:ME} (h:XQ a=true):a=.k .none:=by
  exact ZK (P:=fun a=>a=.k .none) (f:=Mine.V.beq .none) h fun v h=>congrArg ME.k (Mine.V.eq_of_beq h).symm
noncomputable def XJ (a:ME):Bool:=isK a (Mine.V.beq (.bool true))
theorem ZBu {a:ME} (h:XJ a=true):a=.k (.bool true):=by
  exact ZK (P:=fun a=>a=.k (.bool true)) (f:=Mine.V.beq (.bool true)) h fun v h=>congrArg ME.k (Mine.V.eq_of_beq h).symm
noncomputable def Zc (n:Bool) (f:Expr→Bool):Option Expr→Bool
  | none=>n
  | some e=>f e
noncomputable def Zd (n:Bool) (f:Expr→Bool):List Expr→Bool
  | []=>n
  | e :: es=>es.isEmpty&&f e
noncomputable def ZGq (es:List Expr) (f:Expr→Bool) (g:List Expr→Bool):Bool:=match es with
  | []=>false
  | e :: es=>f e&&g es
noncomputable def vIs (v:Mine.V) (o:Option Mine.V):Bool:=match o with
  | some w=>V.beq w v
  | none=>false
theorem ZFg {v:Mine.V} {o:Option Mine.V} (h:vIs v o=true):o=some v:=by
  cases o
  · exact ff h
  · exact congrArg _ (V.eq_of_beq h)
theorem Nf {α:Type} {l:List α} (h:(!l.isEmpty)=true):l≠[]:=fun q=>by subst q; exact ff h
mutual
noncomputable def JF (c:Cx) (kn:Str→Option NameKind):ME→Expr→Bool
  | .k v=>fun x=>Ij v x
  | .glob v=>fun x=>Q2 x fun y=>(kn y==some .globalImplicit)&&c.G.any fun p=>c.nm p.1==y&&V.beq p.2.1 v
  | .loc n=>fun x=>Q2 x fun y=>y==c.nm n&&((kn y==some .local)||(kn y==some .cell))
  | .attr e n D=>fun x=>Qt x fun e' a _=>a==c.nm n&&(Js e'&&(J3 c D n&&JF c kn e e'))
  | .bm e n D f=>fun x=>Qt x fun e' a _=>a==c.nm n&&(Js e'&&(Ue c D n f&&JF c kn e e'))
  | .cat e n D i=>fun x=>Qt x fun e' a _=>a==c.nm n&&(Js e'&&(Nh c D n i&&JF c kn e e'))
  | .call f as=>fun x=>W9 x fun y es=>es.all Jb&&((kn y==some .globalImplicit)&&(dbg y&&(Ht c y f&&chkEs c kn as es)))
  | .mcall e n D f as=>fun x=>Uz x fun e' a es=>a==c.nm n&&(Ue c D n f&&(JF c kn e e'&&chkEs c kn as es))
  | .fcall e n D as=>fun x=>Uz x fun e' a es=>a==c.nm n&&(J3 c D n&&(JF c kn e e'&&chkEs c kn as es))
  | .new D f as lv=>fun x=>W9 x fun y es=>es.all Jb&&((kn y==some .globalImplicit)&&(dbg y&&(Hu c y D f&&(decide (lv≠.frz)&&chkEs c kn as es))))
  | .bi b as=>fun x=>W9 x fun y es=>es.all Jb&&((kn y==some .globalImplicit)&&(dbg y&&(IF c y b&&chkEs c kn as es)))
  | .sm m e as=>fun x=>Uz x fun e' a es=>a==UF m&&(JF c kn e e'&&(chkEs c kn as es&&ZHR m as es))
  | .app e x=>fun z=>Uz z fun e' a es=>a==("append":Str)&&(JF c kn e e'&&l1 es fun x'=>JF c kn x x')
  | .pop e as=>fun x=>Uz x fun e' a es=>a==("pop":Str)&&(JF c kn e e'&&ZF0 as es)
  | .cmp o l r=>fun x=>Xc x fun l' ops rs=>JF c kn l l'&&l1 ops fun op=>l1 rs fun r'=>Xh op (JT o)&&((behindInMarks (JT o) r'==false)&&JF c kn r r')
  | .cmp2 o₁ o₂ l m r=>fun x=>Xc x fun l' ops rs=>JF c kn l l'&&l2 ops fun op₁ op₂=>l2 rs fun m' r'=>Xh op₁ (JT o₁)&&(Xh op₂ (JT o₂)&&((behindInMarks (JT o₂) r'==false)&&(JF c kn m m'&&JF c kn r r')))
  | .bop o l r=>fun x=>Nu x fun l' op r'=>IG op o&&(JF c kn l l'&&JF c kn r r')
  | .neg e=>fun x=>xUn x fun o e'=>ZGW o&&JF c kn e e'
  | .not e=>fun x=>xUn x fun o e'=>ZGV o&&JF c kn e e'
  | .and a b=>fun z=>Y4 z fun op x y es p=>ZGX op&&(JF c kn a x&&JF c kn b (NW .And y es p))
  | .or a b=>fun z=>Y4 z fun op x y es p=>ZHr op&&(JF c kn a x&&JF c kn b (NW .Or y es p))
  | .ite t b o=>fun x=>xIf x fun t' b' o'=>JF c kn t t'&&(JF c kn b b'&&JF c kn o o')
  | .sub e i=>fun x=>Wh x fun e' i'=>JF c kn e e'&&JF c kn i i'
  | .sl e a b=>fun x=>Wh x fun e' s=>Kr s fun lo hi=>JF c kn e e'&&(Zc (XQ a) (fun x=>JF c kn a x) lo&&Zc (XQ b) (fun x=>JF c kn b x) hi)
  | .lst es _=>fun x=>NM x fun es'=>es'.all Jb&&(decide (es.length≤1000)&&chkEs c kn es es')
  | .tup es=>fun x=>Wg x fun es'=>es'.all Jb&&(decide (es.length≤1000)&&chkEs c kn es es')
  | .dct ks es _=>fun x=>NN x fun keys es'=>Wa keys ks&&((ks.length==es.length)&&(decide (es.length≤15)&&(!es.isEmpty&&chkEs c kn es es')))
  | .comp elt x it cond=>fun z=>XI z fun elt' y it' ifs sc=>y==c.nm x&&(Uu c sc kn x&&(JF c kn it it'&&(JF c (Uj sc kn) elt elt'&&Zd (XJ cond) (fun e=>JF c (Uj sc kn) cond e) ifs)))
  | .isb m=>fun x=>W9 x fun y es=>l2 es fun a b=>Jb a&&((kn y==some .globalImplicit)&&(dbg y&&(Qb c y (.builtin "isinstance")&&(Q2 b (fun y'=>(kn y'==some .globalImplicit)&&(dbg y'&&Qb c y' (.type "bool")))&&JF c kn m a))))
  | .fat e n w=>fun x=>Qt x fun e' a _=>a==c.nm n&&(Js e'&&(J3 c c.iD n&&(vIs w (JA c.I n)&&JF c kn e e')))
  | .fmc e n f as=>fun x=>Uz x fun e' a es=>a==c.nm n&&(Ue c c.iD n f&&(!c.I.isEmpty&&((JA c.I n).isNone&&(JF c kn e e'&&chkEs c kn as es))))
  | .inf l r f=>fun x=>Xc x fun l' ops rs=>JF c kn l l'&&l1 ops fun op=>l1 rs fun r'=>Xh op .In&&((behindInMarks .In r'==false)&&(Yr c f&&(!c.I.isEmpty&&JF c kn r r')))
noncomputable def chkEs (c:Cx) (kn:Str→Option NameKind):List ME→List Expr→Bool
  | []=>fun es=>es.isEmpty
  | m :: ms=>fun es=>ZGq es (fun e=>JF c kn m e) fun es=>chkEs c kn ms es
end
end Mine
end
noncomputable section
open PySem PySem.Calls PyProof.Rows PySem.W
namespace Mine
section
variable {c:Cx} {r:Nat} {env env':Env} {A:Around} {σ σ' σ₁:St} {g g₁:Gh} {s s' s₁ s₂:Shared} {E:Value→Shared→Prop} {Q:Value→Shared→Prop} {v:Mine.V} {D:Addr→Prop}
noncomputable def KR (e:Expr):Bool:=ctt fun h=>Expr.Slice.elim (motive_1:=fun _=>Bool) e h fun _ _ _ _=>false
theorem Tw {id:Id} {u:Mine.V} {x y:Value} (hf:QR σ (.obj id) u=some v) (R:Rel c env g σ s) (hx:Vx c env g s (.obj id) x) (hy:Vx c env g s u y) (N:Nxt c env g s v σ Q):wpAny c.M A (getItem x y) Q E s:=
  boE (show bo (JA σ.hp id) _=some v from hf) fun o ho h=>by
    cases o <;> first | exact nn h | skip
    · rename_i l
      exact hx.objE fun a ha=>by
        obtain ⟨items,n,hcs,hi,hv⟩:=UU R ho ha
        exact QE (P:=fun b=>Vx c env g s b y→wpAny c.M A (getItem (.ref a) y) Q E s) h (fun i h hy=>bdE h fun hb h=>boE h fun j hj e=>hy.intE (P:=fun y=>wpAny c.M A (getItem (.ref a) y) Q E s) fun t=>by
          obtain ⟨x,hx,rx⟩:=hv.get e
          have hs:=Jg hv
          exact Oa hi (by rw [hs]; exact hb) (by rw [hs]; exact hj) (by rw [← Array.getElem?_toList]; exact hx) (N.same R rx)) hy
    · exact hx.objE fun a ha=>by
        obtain ⟨o,hc,rfl,hsm,kvs,D,k1,r1⟩:=U2 R ho ha
        exact Zj (b:=u) h R D k1 r1 hy N
theorem T5 {i:Expr} (h:KR i=true):∀ ov iv new,augStore i ov iv new=(do holding [new,ov,iv] (PySem.setItem ov iv new); release [new,ov,iv] []; pure .next):=by
  cases i <;> first | exact fun _ _ _=>rfl | exact ff h
theorem TY {P:Mine.V→Prop} {o x v:Mine.V} (hf:Mine.UZ σ o x v=some σ') (k:∀ id,P (.obj id)):P o:=by
  cases o <;> first | exact nn hf | exact k _
theorem ZCr {C:Ora} {o:Bop} {t i e:Expr} {mt mi m:ME} {tp pos} (hi:KR i=true) (ho:o=.add∨o=.sub) (H:JD c r env t (ev C mt)) (H2:JD c r env i (ev C mi)) (H3:JD c r env e (ev C m)) :
    JN c r env (.AugAssign (.Subscript t i tp) (Uk o) e pos) (exc C (.augS mt mi o m)):=fun A σ fl σ' g s E Q hr hf R N=>bnE hf fun x σ₁ h1 h=>bnE h fun j σ₂ h2 h=>boE h fun a h3 h=>bnE h fun b σ₃ h4 h=>bnE h fun w σ₄ h5 h=>boE h fun σ₅ h6 h7 =>
  TY (P:=fun x=>ev C mt σ=some (x,σ₁)→QR σ₂ x j=some a→Mine.UZ σ₄ x j w=some σ₅→wpAny c.M A (exec (.AugAssign (.Subscript t i tp) (Uk o) e pos) env) Q E s) h6 (fun id h1 h3 h6 =>
    wpAny_AugAssign_SubscriptAny (H hr h1 R fun xv s₁ g₁ R₁ X₁ E₁=>H2 hr h2 R₁ fun jv s₂ g₂ R₂ X₂ E₂=>Tw h3 R₂ (X₁.ext E₂) X₂ fun av s₃ g₃ R₃ X₃ E₃=>H3 hr h4 R₃ fun bv s₄ g₄ R₄ X₄ E₄=>K6 ho h5 R₄ (X₃.ext E₄) X₄ fun wv s₅ g₅ R₅ X₅ E₅ =>
      Ot h6 R₅ (X₁.ext (E₂.trans (E₃.trans (E₄.trans E₅)))) (X₂.ext (E₃.trans (E₄.trans E₅))) X₅ fun s₆ R₆ E₆=>(N.of h7).nxt R₆ (E₁.trans (E₂.trans (E₃.trans (E₄.trans (E₅.trans E₆)))))) (T5 hi)) h1 h3 h6
noncomputable def ZHj (c:Cx) (kn:Str→Option NameKind) (e:Expr) (n:Nat):Bool:=Q2 e fun y=>y==c.nm n&&(kn y==some .local)
noncomputable def ZE (c:Cx) (kn:Str→Option NameKind):List Expr→List Nat→Bool
  | [],ns=>ns.isEmpty
  | e :: es,ns=>(match ns with
    | []=>false
    | n :: ns=>ZHj c kn e n&&ZE c kn es ns)
theorem Z5 {kn:Str→Option NameKind} (hkn:∀ x,env.kindOf x=kn x):∀ {es:List Expr} {ns:List Nat},ZE c kn es ns=true→Uw c env es ns=true
  | [],_,h=>h
  | _ :: _,[],h=>ff h
  | e :: es,n :: ns,h=>bA h fun h1 h2=>Bool.and_eq_true_iff.mpr ⟨UV (P:=fun e=>K4 c env e n=true) h1 fun y p h=>by
      show (y==c.nm n&&(env.kindOf y==some .local))=true
      rw [hkn]; exact h,Z5 hkn h2⟩
end
noncomputable def ZO (o:Operator) (b:Bop):Bool:=match b with
  | .add=>(match o with | .Add=>true | _=>false)
  | .sub=>(match o with | .Sub=>true | _=>false)
  | _=>false
theorem KH {o:Operator} {b:Bop} (h:ZO o b=true):o=Uk b∧(b=.add∨b=.sub):=by
  cases b <;> first | exact ff h | skip
  · cases o <;> first | exact ff h | exact ⟨rfl,.inl rfl⟩
  · cases o <;> first | exact ff h | exact ⟨rfl,.inr rfl⟩
noncomputable def Gv (m:ME):Bool:=meQ m (fun _=>false) true
noncomputable def Wk (y:Str) (np:Pos) (e:Expr):Bool:=ctq fun h=>Expr.ListComp.elim (motive_1:=fun _=>Bool) e h fun _ _ scope pos=>np.line==pos.line&&!(scope.names.any fun (n,k)=>n==y&&(k==.local||k==.cell))
end Mine
end
noncomputable section
open PySem PySem.Calls PyProof.Rows PySem.W
namespace Mine
structure En (env:Env) (kn:Str→Option NameKind):Prop where
  ok:EnvOk env
  cells:W4 env
  kn:∀ x,env.kindOf x=kn x
section
variable {c:Cx} {r:Nat} {C:Ora}
theorem ZDN {v:Mine.V} {e:Expr} {env:Env} (h:Ij v e=true):JS c r env e C (.k v):=
  Z0 (P:=fun e=>JS c r env e C (.k v)) h fun k n p h=>by
    cases v <;> first | exact ff h | skip
    · exact ZCR h▸.plain ZC3 rfl
    · exact ZCS h▸.plain ZDA rfl
    · exact Gs h▸.plain ZEz rfl
    · exact Gr h▸.plain ZEr rfl
theorem ZBh {env:Env} {o:Operator} {b:Bop} (h:IG o b=true):Wt c env r (binaryOp o) (fun σ=>Jo σ b):=by
  cases b with
  | add=>cases o <;> first | exact ff h | exact ZFb
  | sub=>cases o <;> first | exact ff h | exact ZB1
  | mul=>exact ff h
  | fdiv=>cases o <;> first | exact ff h | exact ZCj
  | mod=>cases o <;> first | exact ff h | exact ZEI
theorem ZBf (O:c.Ok) {env:Env} {y:Str} {es:List Expr} {b:BI} {as:List ME} {np pos} (VV:EnvOk env) (hs:es.all Jb=true) (hk:env.kindOf y=some .globalImplicit) (hx:(y==("__debug__":Str))=false) (h:IF c y b=true)
    (H:Jx c r env es (evs C as)):JS c r env (.Call (.Name y np) es [] pos) C (.bi b as):=by
  cases b with
  | len=>exact .plain (Nk (b:=.len) O VV hs hk hx h ZEK H) rfl
  | ord=>exact .plain (Nk (b:=.ord) O VV hs hk hx h ZEC H) rfl
  | chr=>exact .plain (Nk (b:=.chr) O VV hs hk hx h ZFQ H) rfl
  | range=>exact .plain (ZBS O VV hs hk hx h H) rfl
  | sum=>exact .plain (ZEp O VV hs hk hx h H) rfl
  | max=>exact ff h
theorem ZAC {env:Env} {e:Expr} {es:List Expr} {m:SM} {me:ME} {as:List ME} {apos pos} (hc:Js e=true) (hs:es.all Jb=true) (hl:(apos.endLine==pos.line)=true) (hlen:es.length < 25) (h:DT m=true)
    (H:JD c r env e (ev C me)) (H2:Jx c r env es (evs C as)):JS c r env (.Call (.Attribute e (UF m) apos) es [] pos) C (.sm m me as):=
  .plain (ZGj hc hs hl hlen (by cases m <;> first | exact ff h | exact ZB4 | exact ZAv | exact ZAx | exact ZCT | exact TV | exact ZAw) H H2) rfl
theorem Ze {α:Type} {l:List α} {p:α→Bool} (h:l.all p=true):∀ a∈l,p a=true:=List.all_eq_true.mp h
theorem OB {α:Type} [BEq α] [LawfulBEq α] {a b:α} (h:(!(a==b))=true):a≠b:=fun q=>by subst q; rw [beq_self_eq_true] at h; exact ff h
theorem Z2 (O:c.Ok) {env:Env} {kn:Str→Option NameKind} (V:En env kn) {scope:Scope} {x:Nat} (h:Uu c scope kn x=true):∃ cl,CompS c env scope x cl∧∀ L,EnvOk (compEnvC scope cl L env)→En (compEnvC scope cl L env) (Uj scope kn):=
  bA h fun h1 h=>bA h fun h2 h=>bA h fun h3 h=>bA h fun h4 h5=>by
    have h2:∀ y∈scope.names,y.2≠.cell:=fun y hy=>OB (Ze h2 y hy)
    have h3:∀ y∈scope.names,y.2=.local→scope.names.lookup y.1=some .local∧(y.1=c.nm x∨y.1=(".0":Str)):=fun y hy e=>bO (Ze h3 y hy) (fun q=>absurd e (OB q)) fun q=>bA q fun q1 q2=>⟨kE q1,bO q2 (fun q=>.inl (bE q)) fun q=>.inr (bE q)⟩
    have hfree:∀ p∈scope.names,p.2=.free→(env.cells.lookup p.1).isSome=true:=fun p hp e=>V.cells _ ((V.kn _).trans (bO (Ze h5 p hp) (fun q=>absurd e (OB q)) kE))
    have rc:∀ {y},(relabel scope env).names.lookup y=some .cell→(y,NameKind.free)∈scope.names∧env.kindOf y=some .cell:=fun h=>(Of h).elim (fun q=>⟨q.1,q.2.1⟩) fun q=>absurd rfl (h2 _ q)
    obtain ⟨cl,k0,k1,k2⟩:=Td hfree
    refine ⟨cl,⟨k0,fun n hn=>?_,h2,bE h1,fun y hy e=>(h3 y hy e).1,kE h4,fun n hn=>(Of hn).elim (fun q=>nomatch q.2.2) fun q=>(h3 _ q rfl).2.elim (O.inj _ _) fun q=>absurd q (O.no0 n)⟩,fun L VV=>⟨VV,fun y hy=>k2 _ (rc hy).1,fun y=>?_⟩⟩
    · obtain ⟨q1,q2⟩:=rc hn
      obtain ⟨a,ha⟩:=Option.isSome_iff_exists.mp (k2 _ q1)
      exact ⟨ha.trans (k1 _ _ ha).symm,q2⟩
    · show (relabel scope env).names.lookup y=_
      unfold relabel Uj
      have hk:(env.scope.kind==ScopeKind.function)=true:=beq_iff_eq.mpr V.ok.kind
      rw [hk,funext V.kn]
      refine congrArg (fun l=>List.lookup y l) (List.map_congr_left fun p _=>?_)
      obtain ⟨a,k⟩:=p
      dsimp only
      rw [Bool.and_true]
noncomputable def PE (c:Cx) (r:Nat) (C:Ora) (m:ME):Prop:=∀ {e:Expr} {env:Env} {kn:Str→Option NameKind},En env kn→JF c kn m e=true→JS c (r + 1) env e C m
noncomputable def PEs (c:Cx) (r:Nat) (C:Ora) (ms:List ME):Prop:=∀ {es:List Expr} {env:Env} {kn:Str→Option NameKind},En env kn→chkEs c kn ms es=true→EvAll c (r + 1) env C es ms
variable {m ma mb mc:ME} {as:List ME} {n D f:Nat} {b:BI} {o o₂:Cmp}
theorem ZFU (O:c.Ok) {v:Mine.V}:PE c r C (.glob v):=fun V h=>UV h fun y p h=>bA h fun h1 h=>by
  obtain ⟨⟨n,v',x⟩,hq,h⟩:=List.any_eq_true.mp h
  exact bA h fun h2 h3=>by
    cases Mine.V.eq_of_beq h3
    cases beq_iff_eq.mp h2
    exact .plain (ZC5 O V.ok hq ((V.kn _).trans (kE h1))) rfl
theorem ZG5 (O:c.Ok):PE c r C (.loc n):=fun {e env kn} V h=>UV h fun y p h=>bA h fun h1 h2=>sE (P:=fun y=>(kn y=some .local∨kn y=some .cell)→JS c (r + 1) env (.Name y p) C (.loc n)) h1
  (fun h2=>h2.elim (fun h2=>.plain (ZEw O V.ok ((V.kn _).trans h2)) rfl) fun h2=>.plain (ZC8 O V.ok ((V.kn _).trans h2)) rfl) (bO h2 (fun h=>.inl (kE h)) fun h=>.inr (kE h))
theorem ZFZ (O:c.Ok) (H:PE c r C m):PE c r C (.attr m n D):=fun {e env kn} V h=>UC h fun e' a p h=>bA h fun h1 h=>bA h fun h2 h=>bA h fun h3 h =>
  sE (P:=fun a=>JS c (r + 1) env (.Attribute e' a p) C (.attr m n D)) h1 (.plain (ZDB O h2 h3 (H V h).1) rfl)
theorem ZH6 (O:c.Ok) (H:PE c r C m):PE c r C (.bm m n D f):=fun {e env kn} V h=>UC h fun e' a p h=>bA h fun h1 h=>bA h fun h2 h=>bA h fun h3 h =>
  sE (P:=fun a=>JS c (r + 1) env (.Attribute e' a p) C (.bm m n D f)) h1 (.plain (ZGm O h2 h3 (H V h).1) rfl)
theorem ZHD (O:c.Ok) {i:Int} (H:PE c r C m):PE c r C (.cat m n D i):=fun {e env kn} V h=>UC h fun e' a p h=>bA h fun h1 h=>bA h fun h2 h=>bA h fun h3 h =>
  sE (P:=fun a=>JS c (r + 1) env (.Attribute e' a p) C (.cat m n D i)) h1 (.plain (ZE5 O h2 h3 (H V h).1) rfl)
theorem ZFY (HC:JJ c r C) (H:PEs c r C as):PE c r C (.call f as):=fun V h=>X9 h fun y np es p h=>bA h fun h1 h=>bA h fun h2 h=>bA h fun h3 h=>bA h fun h4 h =>
  .plain (ZC9 V.ok h1 ((V.kn _).trans (kE h2)) (XE h3) h4 (HC.up (Nat.le_succ _)) (H V h).evs) rfl
theorem ZDO (O:c.Ok) (HC:JJ c r C) (H:PE c r C m) (H2:PEs c r C as):PE c r C (.mcall m n D f as):=fun {e env kn} V h=>WK h fun e' a ap es p k1 k2 k3 k4 h=>bA h fun h1 h=>bA h fun h2 h=>bA h fun h3 h4 =>
  sE (P:=fun a=>JS c (r + 1) env (.Call (.Attribute e' a ap) es [] p) C (.mcall m n D f as)) h1 (.plain (ZBT O V.ok k1 k2 k3 k4 h2 (HC.up (Nat.le_succ _)) (H V h3).1 (H2 V h4).evs) rfl)
theorem ZDP (O:c.Ok) (HC:JJ c r C) (H:PE c r C m) (H2:PEs c r C as):PE c r C (.fcall m n D as):=fun {e env kn} V h=>WK h fun e' a ap es p k1 k2 k3 k4 h=>bA h fun h1 h=>bA h fun h2 h=>bA h fun h3 h4 =>
  sE (P:=fun a=>JS c (r + 1) env (.Call (.Attribute e' a ap) es [] p) C (.fcall m n D as)) h1 (.plain (ZBU O V.ok k1 k2 k3 k4 h2 O.fn (HC.up (Nat.le_succ _)) (H V h3).1 (H2 V h4).evs) rfl)
theorem ZG2 (O:c.Ok) (HC:JJ c r C) {lv:LV} (H:PEs c r C as):PE c r C (.new D f as lv):=fun V h=>X9 h fun y np es p h=>bA h fun h1 h=>bA h fun h2 h=>bA h fun h3 h=>bA h fun h4 h=>bA h fun h5 h =>
  .plain (ZEt O V.ok h1 ((V.kn _).trans (kE h2)) (XE h3) h4 (of_decide_eq_true h5) HC (H V h).evs) rfl
theorem ZG7 (O:c.Ok) (H:PE c r C m):PE c r C (.isb m):=fun {e env kn} V h=>X9 h fun y np es p h=>Wp (P:=fun es=>JS c (r + 1) env (.Call (.Name y np) es [] p) C (.isb m)) h fun a b h=>bA h fun h1 h=>bA h fun h2 h=>bA h fun h3 h=>bA h fun h4 h=>bA h fun h5 h6 =>
  UV (P:=fun b=>JS c (r + 1) env (.Call (.Name y np) [a,b] [] p) C (.isb m)) h5 fun y' bp h=>bA h fun k1 h=>bA h fun k2 k3=>.plain (ZEy O V.ok h1 ((V.kn _).trans (kE h2)) (XE h3) h4 ((V.kn _).trans (kE k1)) (XE k2) k3 (H V h6).1) rfl
theorem nB {b:Bool} (h:(b==false)=true):b=false:=beq_iff_eq.mp h
theorem ZHA (O:c.Ok) {w:Mine.V} (H:PE c r C m):PE c r C (.fat m n w):=fun {e env kn} V h=>UC h fun e' a p h=>bA h fun h1 h=>bA h fun h2 h=>bA h fun h3 h=>bA h fun h4 h =>
  sE (P:=fun a=>JS c (r + 1) env (.Attribute e' a p) C (.fat m n w)) h1 (.plain (ZE2 O h2 h3 (ZFg h4) (H V h).1) rfl)
theorem ZG9 (O:c.Ok) (HC:JJ c r C) (H:PE c r C m) (H2:PEs c r C as):PE c r C (.fmc m n f as):=fun {e env kn} V h=>WK h fun e' a ap es p k1 k2 k3 k4 h=>bA h fun h1 h=>bA h fun h2 h=>bA h fun h3 h=>bA h fun h4 h=>bA h fun h5 h6 =>
  sE (P:=fun a=>JS c (r + 1) env (.Call (.Attribute e' a ap) es [] p) C (.fmc m n f as)) h1 (.plain (ZE1 O V.ok k1 k2 k3 k4 h2 (Nf h3) (Option.isNone_iff_eq_none.mp h4) (HC.up (Nat.le_succ _)) (H V h5).1 (H2 V h6).evs) rfl)
theorem ZG8 (O:c.Ok) (HC:JJ c r C) (H:PE c r C m) (H2:PE c r C ma):PE c r C (.inf m ma f):=fun {e env kn} V h=>Kt h fun l ops rs p h=>bA h fun h1 h=>UQ (P:=fun ops=>JS c (r + 1) env (.Compare l ops rs p) C (.inf m ma f)) h fun op h=>UQ (P:=fun rs=>JS c (r + 1) env (.Compare l [op] rs p) C (.inf m ma f)) h fun r' h =>
  bA h fun h2 h=>bA h fun h3 h=>bA h fun h4 h=>bA h fun h5 h6=>YS h2▸⟨ZE0 O V.ok (nB h3) h4 (Nf h5) (HC.up (Nat.le_succ _)) (H V h1).1 (H2 V h6).1,ZBr O V.ok (nB h3) h4 (Nf h5) (HC.up (Nat.le_succ _)) (H V h1).1 (H2 V h6).1⟩
theorem ZH7 (O:c.Ok) (H:PEs c r C as):PE c r C (.bi b as):=fun V h=>X9 h fun y np es p h=>bA h fun h1 h=>bA h fun h2 h=>bA h fun h3 h=>bA h fun h4 h =>
  ZBf O V.ok h1 ((V.kn _).trans (kE h2)) (XE h3) h4 (H V h).evs
theorem ZH3 {s:SM} (H:PE c r C m) (H2:PEs c r C as):PE c r C (.sm s m as):=fun {e env kn} V h=>WK h fun e' a ap es p k1 k2 k3 k4 h=>bA h fun h1 h=>bA h fun h3 h=>bA h fun h4 h =>
  sE (P:=fun a=>JS c (r + 1) env (.Call (.Attribute e' a ap) es [] p) C (.sm s m as)) h1 (bO h (fun h=>ZAC k1 k2 k3 k4 h (H V h3).1 (H2 V h4).evs) fun h=>bA h fun h h5=>by
    cases s <;> first | exact ff h | skip
    exact Wp (P:=fun as=>JS c (r + 1) env (.Call (.Attribute e' (UF .replace) ap) es [] p) C (.sm .replace m as)) h5 fun a b h=>Wp (P:=fun es=>JS c (r + 1) env (.Call (.Attribute e' (UF .replace) ap) es [] p) C (.sm .replace m [a,b])) h fun x y h=>bA h fun h5 h6 =>
      Db (P:=fun a x=>JS c (r + 1) env (.Call (.Attribute e' (UF .replace) ap) [x,y] [] p) C (.sm .replace m [a,b])) h5 fun s n q=>Db (P:=fun b y=>JS c (r + 1) env (.Call (.Attribute e' (UF .replace) ap) [.Constant (.str (toS s)) n q,y] [] p) C (.sm .replace m [.k (.str s),b])) h6 fun s' n' q' =>
        .plain (ZC0 k1 k3 (H V h3).1) rfl)
theorem ZHF (H:PE c r C m) (H2:PE c r C ma):PE c r C (.app m ma):=fun {e env kn} V h=>WK h fun e' a ap es p k1 k2 k3 k4 h=>bA h fun h1 h=>bA h fun h3 h=>UQ (P:=fun es=>es.all Jb=true→JS c (r + 1) env (.Call (.Attribute e' a ap) es [] p) C (.app m ma)) h (fun x h k2 =>
  sE (P:=fun a=>JS c (r + 1) env (.Call (.Attribute e' a ap) [x] [] p) C (.app m ma)) h1 (.plain (ZE7 k1 (bA k2 fun k _=>k) k3 (H V h3).1 (H2 V h).1) rfl)) k2
theorem ZGz (H:PE c r C m):PE c r C (.pop m as):=fun {e env kn} V h=>WK h fun e' a ap es p k1 k2 k3 k4 h=>bA h fun h1 h=>bA h fun h3 h =>
  sE (P:=fun a=>JS c (r + 1) env (.Call (.Attribute e' a ap) es [] p) C (.pop m as)) h1 (bO h
    (fun h=>bA h fun q1 q2=>Q5 (P:=fun as=>JS c (r + 1) env (.Call (.Attribute e' ("pop":Str) ap) es [] p) C (.pop m as)) q1 (Q5 (P:=fun es=>JS c (r + 1) env (.Call (.Attribute e' ("pop":Str) ap) es [] p) C (.pop m [])) q2 (.plain (ZC2 k1 k3 (H V h3).1) rfl)))
    fun h=>UQ (P:=fun as=>JS c (r + 1) env (.Call (.Attribute e' ("pop":Str) ap) es [] p) C (.pop m as)) h fun a h=>UQ (P:=fun es=>JS c (r + 1) env (.Call (.Attribute e' ("pop":Str) ap) es [] p) C (.pop m [a])) h fun x h=>bA h fun q1 q2=>by
      cases ZBk q1
      exact Z0 (P:=fun x=>JS c (r + 1) env (.Call (.Attribute e' ("pop":Str) ap) [x] [] p) C (.pop m [.k (.int 0)])) q2 fun k n q h=>Gs h▸.plain (ZC1 k1 k3 (H V h3).1) rfl)
theorem ZHC (H:PE c r C m) (H2:PE c r C ma):PE c r C (.cmp o m ma):=fun {e env kn} V h=>Kt h fun l ops rs p h=>bA h fun h1 h=>UQ (P:=fun ops=>JS c (r + 1) env (.Compare l ops rs p) C (.cmp o m ma)) h fun op h=>UQ (P:=fun rs=>JS c (r + 1) env (.Compare l [op] rs p) C (.cmp o m ma)) h fun r' h =>
  bA h fun h2 h=>bA h fun h3 h4=>YS h2▸⟨ZE4 (nB h3) (H V h1).1 (H2 V h4).1,ZBs (nB h3) (H V h1).1 (H2 V h4).1⟩
theorem ZFX (H:PE c r C m) (H2:PE c r C ma) (H3:PE c r C mb):PE c r C (.cmp2 o o₂ m ma mb):=fun {e env kn} V h=>Kt h fun l ops rs p h=>bA h fun h1 h=>Wp (P:=fun ops=>JS c (r + 1) env (.Compare l ops rs p) C (.cmp2 o o₂ m ma mb)) h fun op op' h=>Wp (P:=fun rs=>JS c (r + 1) env (.Compare l [op,op'] rs p) C (.cmp2 o o₂ m ma mb)) h fun m' r' h =>
  bA h fun h2 h=>bA h fun h2' h=>bA h fun h3 h=>bA h fun h4 h5=>YS h2▸YS h2'▸⟨ZC7 (nB h3) (H V h1).1 (H2 V h4).1 (H3 V h5).1,ZAu (nB h3) (H V h1).1 (H2 V h4).1 (H3 V h5).1⟩
theorem ZHE {o:Bop} (H:PE c r C m) (H2:PE c r C ma):PE c r C (.bop o m ma):=fun V h=>ZDS h fun l op rr p h=>bA h fun h1 h=>bA h fun h2 h3=>.plain (ZE6 (ZBh h1) (H V h2).1 (H2 V h3).1) rfl
theorem ZG3 (H:PE c r C m):PE c r C (.neg m):=fun V h=>HD h fun o v p h=>bA h fun h1 h2=>by
  cases o <;> first | exact ff h1 | exact .plain (ZEu (H V h2).1) rfl
theorem ZG0 (H:PE c r C m):PE c r C (.not m):=fun V h=>HD h fun o v p h=>bA h fun h1 h2=>by
  cases o <;> first | exact ff h1 | exact ⟨ZEs (H V h2).1,ZBp (H V h2).2⟩
theorem YQ {env:Env} {op:BoolOp} {y:Expr} {es:List Expr} {p:Pos} (H:JS c r env (NW op y es p) C m):JS c r env (.BoolOp op (y :: es) p) C m:=by
  cases es with
  | nil=>exact ⟨ZC4 H.1,ZAt H.2⟩
  | cons _ _=>exact H
theorem ZHG (H:PE c r C m) (H2:PE c r C ma):PE c r C (.and m ma):=fun V h=>DL h fun op x y es p h=>bA h fun h0 h=>bA h fun h1 h2=>by
  cases op
  · exact ⟨ZE8 (H V h1).1 (YQ (H2 V h2)).1,ZBt (H V h1).2 (YQ (H2 V h2)).2⟩
  · exact ff h0
theorem ZH5 (H:PE c r C m) (H2:PE c r C ma):PE c r C (.or m ma):=fun V h=>DL h fun op x y es p h=>bA h fun h0 h=>bA h fun h1 h2=>by
  cases op
  · exact ff h0
  · exact ⟨ZGl (H V h1).1 (YQ (H2 V h2)).1,ZDW (H V h1).2 (YQ (H2 V h2)).2⟩
theorem ZG6 (H:PE c r C m) (H2:PE c r C ma) (H3:PE c r C mb):PE c r C (.ite m ma mb):=fun V h=>ZFe h fun t b o p h=>bA h fun h1 h=>bA h fun h2 h3 =>
  ⟨ZEx (H V h1).2 (H2 V h2).1 (H3 V h3).1,ZBq (H V h1).2 (H2 V h2).2 (H3 V h3).2⟩
theorem ZGy (H:PE c r C m) (H2:PE c r C ma):PE c r C (.sub m ma):=fun V h=>Yi h fun v i p h=>bA h fun h1 h2=>.plain (ZEq (H V h1).1 (H2 V h2).1) rfl
theorem II {env:Env} {kn:Str→Option NameKind} (V:En env kn) (H:PE c r C m) {o:Option Expr} (h:Zc (XQ m) (fun x=>JF c kn m x) o=true):Xs c (r + 1) env o (ev C m):=by
  cases o with
  | none=>cases Dk h; exact ZDQ
  | some e=>exact ZBj (H V h).1
theorem ZH4 (H:PE c r C m) (H2:PE c r C ma) (H3:PE c r C mb):PE c r C (.sl m ma mb):=fun {e env kn} V h=>Yi h fun v i p h=>ZAr (P:=fun i=>JS c (r + 1) env (.Subscript v i p) C (.sl m ma mb)) h fun lo hi q h=>bA h fun h1 h=>bA h fun h2 h3 =>
  .plain (ZGk (H V h1).1 (II V H2 h2) (II V H3 h3)) rfl
theorem ZG4 {lv:LV} (H:PEs c r C as):PE c r C (.lst as lv):=fun V h=>ZBl h fun es p h=>bA h fun h1 h=>bA h fun h2 h=>.plain (ZEv h1 (of_decide_eq_true h2) (H V h).evs) rfl
theorem ZGx (H:PEs c r C as):PE c r C (.tup as):=fun V h=>Yh h fun es n p h=>bA h fun h1 h=>bA h fun h2 h=>.plain (ZEo h1 (of_decide_eq_true h2) (H V h).evs) rfl
theorem ZHB (O:c.Ok) {ks:List (List Nat)} {lv:LV} (H:PEs c r C as):PE c r C (.dct ks as lv):=fun V h=>ZBm h fun keys es p h=>bA h fun h1 h=>bA h fun h2 h=>bA h fun h3 h=>bA h fun h4 h =>
  .plain (ZE3 O h1 (beq_iff_eq.mp h2) (of_decide_eq_true h3) (fun q=>by subst q; exact ff h4) (H V h)) rfl
theorem GF {env:Env} {kn:Str→Option NameKind} (V:En env kn) (H:PE c r C m) {es:List Expr} (h:Zd (XJ m) (fun e=>JF c kn m e) es=true):Ui c (r + 1) env es (tst C m):=by
  cases es with
  | nil=>cases ZBu h; exact ZBd
  | cons e es=>exact bA h fun h1 h2=>Q5 (P:=fun es=>Ui c (r + 1) env (e :: es) (tst C m)) h1 (ZBc (H V h2).2)
theorem YH {it':Expr} (h:XS it'=true) {env:Env}:∀ x,foldedSetIterable it' env x=pure x:=by
  cases it' <;> first | exact fun _=>rfl | exact ff h
theorem ZFW (O:c.Ok) {x:Nat} (H:PE c r C m) (H2:PE c r C ma) (H3:PE c r C mb):PE c r C (.comp m x ma mb):=fun {e env kn} V h=>DJ (show XI e (fun elt' y it' ifs sc=>y==c.nm x&&(Uu c sc kn x&&(JF c kn ma it'&&(JF c (Uj sc kn) m elt'&&Zd (XJ mb) (fun e=>JF c (Uj sc kn) mb e) ifs))))=true from h) fun elt y yp it ifs sc p h0 h=>bA h fun h1 h=>bA h fun h2 h=>bA h fun h3 h=>bA h fun h4 h5 =>
  sE (P:=fun y=>JS c (r + 1) env (.ListComp elt [⟨.Name y yp,it,ifs,0⟩] sc p) C (.comp m x ma mb)) h1 (by
    obtain ⟨cl,S,en⟩:=Z2 O V h2
    exact .plain (ZC6 O V.ok (YH h0) S (H2 V h3).1 (fun L VV=>(H (en L VV) h4).1) fun L VV=>GF (en L VV) H3 h5) rfl)
theorem ZFV (H:PE c r C m) (H2:PEs c r C as):PEs c r C (m :: as):=fun {es env kn} V h=>by
  cases es with
  | nil=>exact ff h
  | cons e es=>exact bA h fun h1 h2=>.cons (H V h1).1 (H2 V h2)
theorem ZG1:PEs c r C []:=fun {es env kn} V h=>Q5 (P:=fun es=>EvAll c (r + 1) env C es []) h .nil
theorem Jd (O:c.Ok) (HC:JJ c r C) (m:ME):PE c r C m:=
  ME.rec (motive_1:=PE c r C) (motive_2:=PEs c r C) (fun _ {_ _ _} _ h=>ZDN h) (fun _=>ZG5 O) (fun _=>ZFU O) (fun _ _ _=>ZFZ O) (fun _ _ _ _=>ZH6 O) (fun _ _ _ _=>ZHD O) (fun _ _=>ZFY HC) (fun _ _ _ _ _=>ZDO O HC) (fun _ _ _ _=>ZDP O HC)
    (fun _ _ _ _=>ZG2 O HC) (fun _ _=>ZH7 O) (fun _ _ _=>ZH3) (fun _ _=>ZHF) (fun _ _ H _=>ZGz H) (fun _ _ _=>ZHC) (fun _ _ _ _ _=>ZFX) (fun _ _ _=>ZHE) (fun _=>ZG3) (fun _=>ZG0) (fun _ _=>ZHG) (fun _ _=>ZH5) (fun _ _ _=>ZG6) (fun _ _=>ZGy) (fun _ _ _=>ZH4)
    (fun _ _=>ZG4) (fun _=>ZGx) (fun _ _ _=>ZHB O) (fun _ _ _ _=>ZFW O) (fun _=>ZG7 O) (fun _ _ _=>ZHA O) (fun _ _ _ _=>ZG9 O HC) (fun _ _ _=>ZG8 O HC) ZG1 (fun _ _=>ZFV) m
end
end Mine
end
noncomputable section
open PySem PySem.Calls PyProof.Rows PySem.W
namespace Mine
section
variable {s:Stmt} {P:Stmt→Prop}
noncomputable def NT (s:Stmt) (k:Expr→Bool):Bool:=ctq fun h=>Stmt.Expr.elim (motive_2:=fun _=>Bool) s h fun e _=>k e
@[elab_as_elim] theorem ZCA {k} (h:NT s k=true) (f:∀ e p,k e=true→P (.Expr e p)):P s:=Je h fun q=>Stmt.Expr.elim (motive_2:=fun s=>NT s k=true→P s) s q (fun _ _ h=>f _ _ h) h
noncomputable def WA (s:Stmt) (k:Expr→Expr→Bool):Bool:=ctq fun h=>Stmt.Assign.elim (motive_2:=fun _=>Bool) s h fun ts e _=>l1 ts fun t=>k t e
@[elab_as_elim] theorem XD {k} (h:WA s k=true) (f:∀ t e p,k t e=true→P (.Assign [t] e p)):P s:=
  Je h fun q=>Stmt.Assign.elim (motive_2:=fun s=>WA s k=true→P s) s q (fun _ _ _ h=>UQ (P:=fun ts=>P (.Assign ts _ _)) h fun t h=>f _ _ _ h) h
noncomputable def Xf (s:Stmt) (k:Expr→Operator→Expr→Bool):Bool:=ctq fun h=>Stmt.AugAssign.elim (motive_2:=fun _=>Bool) s h fun t o e _=>k t o e
@[elab_as_elim] theorem Ky {k} (h:Xf s k=true) (f:∀ t o e p,k t o e=true→P (.AugAssign t o e p)):P s:=Je h fun q=>Stmt.AugAssign.elim (motive_2:=fun s=>Xf s k=true→P s) s q (fun _ _ _ _ h=>f _ _ _ _ h) h
noncomputable def sIf (s:Stmt) (k:Expr→List Stmt→List Stmt→Bool):Bool:=ctq fun h=>Stmt.If.elim (motive_2:=fun _=>Bool) s h fun t b o _=>k t b o
@[elab_as_elim] theorem ZFz {k} (h:sIf s k=true) (f:∀ t b o p,k t b o=true→P (.If t b o p)):P s:=Je h fun q=>Stmt.If.elim (motive_2:=fun s=>sIf s k=true→P s) s q (fun _ _ _ _ h=>f _ _ _ _ h) h
noncomputable def Nz (s:Stmt) (k:Expr→List Stmt→Bool):Bool:=ctq fun h=>Stmt.While.elim (motive_2:=fun _=>Bool) s h fun t b o _=>o.isEmpty&&k t b
@[elab_as_elim] theorem ZDy {k} (h:Nz s k=true) (f:∀ t b p,k t b=true→P (.While t b [] p)):P s:=
  Je h fun q=>Stmt.While.elim (motive_2:=fun s=>Nz s k=true→P s) s q (fun _ _ _ _ h=>bA h fun h1 h2=>Q5 (P:=fun o=>P (.While _ _ o _)) h1 (f _ _ _ h2)) h
noncomputable def ZQ (s:Stmt) (k:Expr→Expr→List Stmt→Bool):Bool:=ctq fun h=>Stmt.For.elim (motive_2:=fun _=>Bool) s h fun t i b o _=>o.isEmpty&&k t i b
@[elab_as_elim] theorem Ge {k} (h:ZQ s k=true) (f:∀ t i b p,k t i b=true→P (.For t i b [] p)):P s:=
  Je h fun q=>Stmt.For.elim (motive_2:=fun s=>ZQ s k=true→P s) s q (fun _ _ _ _ _ h=>bA h fun h1 h2=>Q5 (P:=fun o=>P (.For _ _ _ o _)) h1 (f _ _ _ _ h2)) h
noncomputable def N5 (s:Stmt) (k:Option Expr→Bool):Bool:=ctq fun h=>Stmt.Return.elim (motive_2:=fun _=>Bool) s h fun v _=>k v
@[elab_as_elim] theorem ZD0 {k} (h:N5 s k=true) (f:∀ v p,k v=true→P (.Return v p)):P s:=Je h fun q=>Stmt.Return.elim (motive_2:=fun s=>N5 s k=true→P s) s q (fun _ _ h=>f _ _ h) h
noncomputable def NU (s:Stmt) (k:Expr→Bool):Bool:=ctq fun h=>Stmt.Assert.elim (motive_2:=fun _=>Bool) s h fun t m _=>m.isNone&&k t
@[elab_as_elim] theorem ZCB {k} (h:NU s k=true) (f:∀ t p,k t=true→P (.Assert t none p)):P s:=by
  refine Je h fun q=>Stmt.Assert.elim (motive_2:=fun s=>NU s k=true→P s) s q (fun t m p h=>?_) h
  cases m
  · exact f _ _ h
  · exact ff h
noncomputable def N4 (s:Stmt) (k:List Stmt→Bool):Bool:=ctq fun h=>Stmt.Try.elim (motive_2:=fun _=>Bool) s h fun b hs oe fb _=>!hs.isEmpty&&(oe.isEmpty&&(fb.isEmpty&&k b))
@[elab_as_elim] theorem ZDz {k} (h:N4 s k=true) (f:∀ b h hs p,k b=true→P (.Try b (h :: hs) [] [] p)):P s:=
  Je h fun q=>Stmt.Try.elim (motive_2:=fun s=>N4 s k=true→P s) s q (fun b hs oe fb p h=>bA h fun h1 h=>bA h fun h2 h=>bA h fun h3 h=>by
    cases List.isEmpty_iff.mp h2
    cases List.isEmpty_iff.mp h3
    cases hs with
    | nil=>exact ff h1
    | cons a l=>exact f _ _ _ _ h) h
noncomputable def Hb (s:Stmt):Bool:=ctq fun h=>Stmt.Pass.elim (motive_2:=fun _=>Bool) s h fun _=>true
noncomputable def IT (s:Stmt):Bool:=ctq fun h=>Stmt.Break.elim (motive_2:=fun _=>Bool) s h fun _=>true
noncomputable def Hc (s:Stmt):Bool:=ctq fun h=>Stmt.Continue.elim (motive_2:=fun _=>Bool) s h fun _=>true
end
mutual
noncomputable def JV (c:Cx) (kn:Str→Option NameKind):MS→Stmt→Bool
  | .ex e=>fun s=>NT s fun e'=>QQ e'&&JF c kn e e'
  | .asg n e=>fun s=>WA s fun t e'=>Ks t fun y np=>y==c.nm n&&((kn y==some .local)&&((QQ e'||(Gv e&&Wk y np e'))&&JF c kn e e'))
  | .asgA t n D e=>fun s=>WA s fun u e'=>Qt u fun t' a _=>a==c.nm n&&(J3 c D n&&(QQ e'&&(JF c kn e e'&&JF c kn t t')))
  | .asgS t i e=>fun s=>WA s fun u e'=>Wh u fun t' i'=>QQ e'&&(JF c kn e e'&&(JF c kn t t'&&JF c kn i i'))
  | .asgT ns e=>fun s=>WA s fun u e'=>Wg u fun es=>QQ e'&&(XR e'&&(ZE c kn es ns&&JF c kn e e'))
  | .asgTA t₁ n₁ D₁ t₂ n₂ D₂ e=>fun s=>WA s fun u e'=>Wg u fun es=>l2 es fun u₁ u₂=>Qt u₁ fun t₁' a₁ _=>Qt u₂ fun t₂' a₂ _ =>
    a₁==c.nm n₁&&(a₂==c.nm n₂&&(J3 c D₁ n₁&&(J3 c D₂ n₂&&(QQ e'&&(XR e'&&(JF c kn e e'&&(JF c kn t₁ t₁'&&JF c kn t₂ t₂')))))))
  | .augN n o e=>fun s=>Xf s fun u o' e'=>Q2 u fun y=>y==c.nm n&&((kn y==some .local)&&(ZO o' o&&JF c kn e e'))
  | .augA t n D o e=>fun s=>Xf s fun u o' e'=>Qt u fun t' a _=>a==c.nm n&&(J3 c D n&&(ZO o' o&&(JF c kn t t'&&JF c kn e e')))
  | .augS t i o e=>fun s=>Xf s fun u o' e'=>Wh u fun t' i'=>KR i'&&(ZO o' o&&(JF c kn t t'&&(JF c kn i i'&&JF c kn e e')))
  | .iff t b o=>fun s=>sIf s fun t' b' o'=>JF c kn t t'&&(chkSs c kn b b'&&chkSs c kn o o')
  | .whl t b=>fun s=>Nz s fun t' b'=>JF c kn t t'&&chkSs c kn b b'
  | .for x it b=>fun s=>ZQ s fun u it' b'=>Q2 u fun y=>y==c.nm x&&((kn y==some .local)&&(XS it'&&(JF c kn it it'&&chkSs c kn b b')))
  | .forT ns it b=>fun s=>ZQ s fun u it' b'=>Wg u fun es=>ZE c kn es ns&&(XS it'&&(JF c kn it it'&&chkSs c kn b b'))
  | .ret e=>fun s=>N5 s (Zc (XQ e) fun x=>JF c kn e x)
  | .pass=>Hb
  | .brk=>IT
  | .cont=>Hc
  | .asrt e=>fun s=>NU s fun e'=>JF c kn e e'
  | .dead=>fun _=>true
  | .tryS b=>fun s=>N4 s fun b'=>chkSs c kn b b'
noncomputable def chkSs (c:Cx) (kn:Str→Option NameKind):List MS→List Stmt→Bool
  | []=>fun ss=>ss.isEmpty
  | m :: ms=>fun ss=>match ss with
    | []=>false
    | s :: ss=>JV c kn m s&&chkSs c kn ms ss
end
noncomputable def PS (c:Cx) (r:Nat) (C:Ora) (m:MS):Prop:=∀ {s:Stmt} {env:Env} {kn:Str→Option NameKind},En env kn→JV c kn m s=true→JN c (r + 1) env s (exc C m)
noncomputable def PSs (c:Cx) (r:Nat) (C:Ora) (ms:List MS):Prop:=∀ {ss:List Stmt} {env:Env} {kn:Str→Option NameKind},En env kn→chkSs c kn ms ss=true→Qk c (r + 1) env ss (exs C ms)
section
variable {c:Cx} {r:Nat} {C:Ora} {m mt mi mt2:ME} {b b2:List MS} {n D n2 D2:Nat} {o:Bop}
theorem Dl {env:Env} (VV:EnvOk env):interactive env=false:=by unfold interactive; rw [VV.kind]; rfl
theorem ZHU (O:c.Ok) (HC:JJ c r C):PS c r C (.ex m):=fun V h=>ZCA h fun e p h=>bA h fun h1 h2=>ZGi (Dl V.ok) h1 (Jd O HC m V h2).1
theorem T6 (O:c.Ok) (HC:JJ c r C) {me mi mc:ME} {x n:Nat} {e:Expr} {env:Env} {kn:Str→Option NameKind} (V:En env kn) {np pos:Pos} (hk:env.kindOf (c.nm n)=some .local)
    (hs:Wk (c.nm n) np e=true) (h:JF c kn (.comp me x mi mc) e=true):JN c (r + 1) env (.Assign [.Name (c.nm n) np] e pos) (exc C (.asg n (.comp me x mi mc))):=
  DJ (P:=fun e=>Wk (c.nm n) np e=true→JN c (r + 1) env (.Assign [.Name (c.nm n) np] e pos) (exc C (.asg n (.comp me x mi mc))))
    (show XI e (fun elt' y it' ifs sc=>y==c.nm x&&(Uu c sc kn x&&(JF c kn mi it'&&(JF c (Uj sc kn) me elt'&&Zd (XJ mc) (fun e=>JF c (Uj sc kn) mc e) ifs))))=true from h)
    (fun elt y yp it ifs sc p h0 h=>bA h fun h1 h=>bA h fun h2 h=>bA h fun h3 h=>bA h fun h4 h5 hs=>sE (P:=fun y=>JN c (r + 1) env (.Assign [.Name (c.nm n) np] (.ListComp elt [⟨.Name y yp,it,ifs,0⟩] sc p) pos) (exc C (.asg n (.comp me x mi mc)))) h1 (by
      obtain ⟨cl,S,en⟩:=Z2 O V h2
      have hsw:swapsWith (.ListComp elt [⟨.Name (c.nm x) yp,it,ifs,0⟩] sc p) (some (.Name (c.nm n) np)) pos.line env=pure true:=by
        show (pure (env.blockKind==.function&&env.kindOf (c.nm n)==some .local&&np.line==p.line&&!(sc.names.any fun (a,k)=>a==c.nm n&&(k==.local||k==.cell))):Sem Bool)=pure true
        have hb:(env.blockKind==ScopeKind.function)=true:=by unfold Env.blockKind; rw [V.ok.kind]; rfl
        exact bA hs fun h1 h2=>by rw [hb,hk,h1,h2]; rfl
      exact ZCx O V.ok (YH h0) S hk hsw (Jd O HC mi V h3).1 (fun L VV=>(Jd O HC me (en L VV) h4).1) (fun L VV=>GF (en L VV) (Jd O HC mc) h5))) hs
theorem ZBD {P:ME→Prop} {m:ME} (h:Gv m=true) (k:∀ me x mi mc,P (.comp me x mi mc)):P m:=Hh h (fun _ h=>ff h) fun _ _ _ _ _=>k _ _ _ _
theorem ZFy (O:c.Ok) (HC:JJ c r C):PS c r C (.asg n m):=fun {s env kn} V h=>XD h fun u e p h=>ZAs (P:=fun u=>JN c (r + 1) env (.Assign [u] e p) (exc C (.asg n m))) h fun y np h=>bA h fun h1 h=>bA h fun h2 h=>bA h fun h3 h4=>by
  cases beq_iff_eq.mp h1
  exact bO h3 (fun h3=>ZEn O V.ok ((V.kn _).trans (kE h2)) h3 (Jd O HC m V h4).1) fun h3=>bA h3 fun h3 h5 =>
    ZBD (P:=fun m=>JF c kn m e=true→JN c (r + 1) env (.Assign [.Name (c.nm n) np] e p) (exc C (.asg n m))) h3 (fun _ _ _ _ h4=>T6 O HC V ((V.kn _).trans (kE h2)) h5 h4) h4
theorem ZDx (O:c.Ok) (HC:JJ c r C):PS c r C (.asgA mt n D m):=fun {s env kn} V h=>XD h fun u e p h=>UC (P:=fun u=>JN c (r + 1) env (.Assign [u] e p) (exc C (.asgA mt n D m))) h fun t a q h=>bA h fun h1 h=>bA h fun h2 h=>bA h fun h3 h=>bA h fun h4 h5=>by
  cases beq_iff_eq.mp h1
  exact ZCy O h2 h3 (Jd O HC m V h4).1 (Jd O HC mt V h5).1
theorem ZDw (O:c.Ok) (HC:JJ c r C):PS c r C (.asgS mt mi m):=fun {s env kn} V h=>XD h fun u e p h=>Yi (P:=fun u=>JN c (r + 1) env (.Assign [u] e p) (exc C (.asgS mt mi m))) h fun t i q h=>bA h fun h1 h=>bA h fun h2 h=>bA h fun h3 h4 =>
  ZCw h1 (Jd O HC m V h2).1 (Jd O HC mt V h3).1 (Jd O HC mi V h4).1
theorem ZDv (O:c.Ok) (HC:JJ c r C) {ns:List Nat}:PS c r C (.asgT ns m):=fun {s env kn} V h=>XD h fun u e p h=>Yh (P:=fun u=>JN c (r + 1) env (.Assign [u] e p) (exc C (.asgT ns m))) h fun es k q h=>bA h fun h1 h=>bA h fun h2 h=>bA h fun h3 h4 =>
  ZCv O V.ok h1 h2 (Z5 V.kn h3) (Jd O HC m V h4).1
theorem ZB9 (O:c.Ok) (HC:JJ c r C):PS c r C (.asgTA mt n D mt2 n2 D2 m):=fun {s env kn} V h=>XD h fun u e p h=>Yh (P:=fun u=>JN c (r + 1) env (.Assign [u] e p) (exc C (.asgTA mt n D mt2 n2 D2 m))) h fun es k q h =>
  Wp (P:=fun es=>JN c (r + 1) env (.Assign [.Tuple es k q] e p) (exc C (.asgTA mt n D mt2 n2 D2 m))) h fun u₁ u₂ h=>UC (P:=fun u₁=>JN c (r + 1) env (.Assign [.Tuple [u₁,u₂] k q] e p) (exc C (.asgTA mt n D mt2 n2 D2 m))) h fun t a q1 h =>
  UC (P:=fun u₂=>JN c (r + 1) env (.Assign [.Tuple [.Attribute t a q1,u₂] k q] e p) (exc C (.asgTA mt n D mt2 n2 D2 m))) h fun t2 a2 q2 h=>bA h fun h1 h=>bA h fun h1' h=>bA h fun h2 h=>bA h fun h3 h=>bA h fun h4 h=>bA h fun h5 h=>bA h fun h6 h=>bA h fun h7 h8=>by
  cases beq_iff_eq.mp h1
  cases beq_iff_eq.mp h1'
  exact ZBQ O h2 h3 h4 h5 (Jd O HC m V h6).1 (Jd O HC mt V h7).1 (Jd O HC mt2 V h8).1
theorem ZDs (O:c.Ok) (HC:JJ c r C):PS c r C (.augN n o m):=fun {s env kn} V h=>Ky h fun u o' e p h=>UV (P:=fun u=>JN c (r + 1) env (.AugAssign u o' e p) (exc C (.augN n o m))) h fun y q h=>bA h fun h1 h=>bA h fun h2 h=>bA h fun h3 h4=>by
  cases beq_iff_eq.mp h1
  obtain ⟨rfl,ho⟩:=KH h3
  exact ZCs O V.ok ((V.kn _).trans (kE h2)) ho (Jd O HC m V h4).1
theorem ZDt (O:c.Ok) (HC:JJ c r C):PS c r C (.augA mt n D o m):=fun {s env kn} V h=>Ky h fun u o' e p h=>UC (P:=fun u=>JN c (r + 1) env (.AugAssign u o' e p) (exc C (.augA mt n D o m))) h fun t a q h=>bA h fun h1 h=>bA h fun h2 h=>bA h fun h3 h=>bA h fun h4 h5=>by
  cases beq_iff_eq.mp h1
  obtain ⟨rfl,ho⟩:=KH h3
  exact ZCt O h2 ho (Jd O HC mt V h4).1 (Jd O HC m V h5).1
theorem ZDr (O:c.Ok) (HC:JJ c r C):PS c r C (.augS mt mi o m):=fun {s env kn} V h=>Ky h fun u o' e p h=>Yi (P:=fun u=>JN c (r + 1) env (.AugAssign u o' e p) (exc C (.augS mt mi o m))) h fun t i q h=>bA h fun h1 h=>bA h fun h2 h=>bA h fun h3 h=>bA h fun h4 h5=>by
  obtain ⟨rfl,ho⟩:=KH h2
  exact ZCr h1 ho (Jd O HC mt V h3).1 (Jd O HC mi V h4).1 (Jd O HC m V h5).1
theorem ZFu (O:c.Ok) (HC:JJ c r C) (H:PSs c r C b) (H2:PSs c r C b2):PS c r C (.iff mt b b2):=fun V h=>ZFz h fun t b o p h=>bA h fun h1 h=>bA h fun h2 h3=>ZEj (Jd O HC mt V h1).2 (H V h2) (H2 V h3)
theorem ZFr (O:c.Ok) (HC:JJ c r C) (H:PSs c r C b):PS c r C (.whl mt b):=fun V h=>ZDy h fun t b p h=>bA h fun h1 h2=>ZEh (Jd O HC mt V h1).2 (H V h2)
theorem ZFv (O:c.Ok) (HC:JJ c r C) (H:PSs c r C b):PS c r C (.for n mi b):=fun {s env kn} V h=>Ge h fun u i bb p h=>UV (P:=fun u=>JN c (r + 1) env (.For u i bb [] p) (exc C (.for n mi b))) h fun y q h=>bA h fun h1 h=>bA h fun h2 h=>bA h fun h3 h=>bA h fun h4 h5=>by
  cases beq_iff_eq.mp h1
  exact ZEl O V.ok ((V.kn _).trans (kE h2)) (YH h3) (Jd O HC mi V h4).1 (H V h5)
theorem ZDn (O:c.Ok) (HC:JJ c r C) {ns:List Nat} (H:PSs c r C b):PS c r C (.forT ns mi b):=fun {s env kn} V h=>Ge h fun u i bb p h=>Yh (P:=fun u=>JN c (r + 1) env (.For u i bb [] p) (exc C (.forT ns mi b))) h fun es k tp h=>bA h fun h1 h=>bA h fun h2 h=>bA h fun h3 h4 =>
  ZCp O V.ok (Z5 V.kn h1) (YH h2) (Jd O HC mi V h3).1 (H V h4)
theorem ZFt (O:c.Ok) (HC:JJ c r C):PS c r C (.ret m):=fun V h=>ZD0 h fun v p h=>by
  cases v with
  | none=>cases Dk h; exact ZCn
  | some e=>exact ZEi (Jd O HC m V h).1
theorem ZDm:PS c r C .pass:=fun {s env kn} V h=>Je (show ctq _=true from (h:Hb s=true)) fun q=>Stmt.Pass.elim (motive_2:=fun s=>JN c (r + 1) env s (exc C .pass)) s q fun _=>ZCo
theorem ZFx:PS c r C .brk:=fun {s env kn} V h=>Je (show ctq _=true from (h:IT s=true)) fun q=>Stmt.Break.elim (motive_2:=fun s=>JN c (r + 1) env s (exc C .brk)) s q fun _=>ZEm
theorem ZDq:PS c r C .cont:=fun {s env kn} V h=>Je (show ctq _=true from (h:Hc s=true)) fun q=>Stmt.Continue.elim (motive_2:=fun s=>JN c (r + 1) env s (exc C .cont)) s q fun _=>ZCq
theorem ZDu (O:c.Ok) (HC:JJ c r C):PS c r C (.asrt m):=fun V h=>ZCB h fun t p h=>ZCu (Jd O HC m V h).2
theorem ZDp:PS c r C .dead:=fun {s env kn} V h _ _ _ _ _ _ _ _ hr hf R N=>nn hf
theorem ZFs (H:PSs c r C b):PS c r C (.tryS b):=fun V h=>ZDz h fun b' x hs p h _ _ fl _ _ _ _ _ hr hf R N=>wpAny_Try_except (H V h hr hf R fun w s' g' R' X' E'=>by
  cases fl with
  | next=>cases X'; exact wpAny_execs_nil (N.nxt R' E')
  | brk=>cases X'; exact N _ _ _ R' rfl E'
  | cont=>cases X'; exact N _ _ _ R' rfl E'
  | ret v=>obtain ⟨y,rfl,hy⟩:=X'; exact N _ _ _ R' ⟨y,rfl,hy⟩ E')
theorem Gd {m:MS} (H:PS c r C m) (H2:PSs c r C b):PSs c r C (m :: b):=fun {ss env kn} V h=>by
  cases ss with
  | nil=>exact ff h
  | cons s ss=>exact bA h fun h1 h2=>ZBO (H V h1) (H2 V h2)
theorem Ha:PSs c r C []:=fun {ss env kn} V h=>Q5 (P:=fun ss=>Qk c (r + 1) env ss (exs C [])) h ZCl
theorem QI (O:c.Ok) (HC:JJ c r C) (m:MS):PS c r C m:=
  MS.rec (motive_1:=PS c r C) (motive_2:=PSs c r C) (fun _=>ZHU O HC) (fun _ _=>ZFy O HC) (fun _ _ _ _=>ZDx O HC) (fun _ _ _=>ZDw O HC) (fun _ _=>ZDv O HC) (fun _ _ _ _ _ _ _=>ZB9 O HC) (fun _ _ _=>ZDs O HC) (fun _ _ _ _ _=>ZDt O HC) (fun _ _ _ _=>ZDr O HC)
    (fun _ _ _=>ZFu O HC) (fun _ _=>ZFr O HC) (fun _ _ _=>ZFv O HC) (fun _ _ _=>ZDn O HC) (fun _=>ZFt O HC) ZDm ZFx ZDq (fun _=>ZDu O HC) ZDp (fun _=>ZFs) Ha (fun _ _=>Gd) m
theorem DC (O:c.Ok) (HC:JJ c r C):∀ b,PSs c r C b
  | []=>Ha
  | m :: b=>Gd (QI O HC m) (DC O HC b)
end
end Mine
end
noncomputable section
open PySem PySem.Calls PyProof.Rows PySem.W
namespace Mine
noncomputable def XT:List Str→Bool
  | []=>true
  | x :: r=>!(r.any (·==x))&&XT r
theorem YI:∀ {l:List Str},XT l=true→l.Nodup
  | [],_=>List.nodup_nil
  | x :: r,h=>bA h fun h1 h2=>List.nodup_cons.mpr ⟨fun q=>Bool.false_ne_true ((Xi h1).symm.trans (List.any_eq_true.mpr ⟨x,q,beq_self_eq_true x⟩)),YI h2⟩
noncomputable def ob {α:Type} (x:Option α) (f:α→Bool):Bool:=match x with
  | some a=>f a
  | none=>false
theorem obE {α:Type} {x:Option α} {f:α→Bool} {P:Prop} (h:ob x f=true) (k:∀ a,x=some a→f a=true→P):P:=by
  cases x with
  | none=>exact ff h
  | some a=>exact k a rfl h
noncomputable def Yt (o:Obj):Option FuncData:=match o.data with
  | .func fd=>some fd
  | _=>none
theorem Bz {o:Obj} {fd:FuncData} (h:Yt o=some fd):o.data=.func fd:=by
  unfold Yt at h
  generalize o.data=d at h
  cases d <;> first | exact nn h | (cases h; rfl)
noncomputable def Yy (fd:FuncData):Option (List Stmt):=match fd.body with
  | .stmts b=>some b
  | _=>none
theorem DF {fd:FuncData} {b:List Stmt} (h:Yy fd=some b):fd.body=.stmts b:=by
  unfold Yy at h
  generalize fd.body=d at h
  cases d <;> first | exact nn h | (cases h; rfl)
noncomputable def K1 (p:Arguments):Bool:=p.posonlyargs.isEmpty&&(p.vararg.isNone&&(p.kwonlyargs.isEmpty&&(p.kw_defaults.isEmpty&&p.kwarg.isNone)))
theorem Bn {p:Arguments} (h:K1 p=true):p=⟨[],p.args,none,[],[],none,p.defaults⟩:=by
  obtain ⟨a,b,c,d,e,f,g⟩:=p
  refine bA h fun h1 h=>bA h fun h2 h=>bA h fun h3 h=>bA h fun h4 h5=>?_
  show Arguments.mk a b c d e f g=Arguments.mk [] b none [] [] none g
  rw [(List.isEmpty_iff.mp h1:a=[]),(Option.isNone_iff_eq_none.mp h2:c=none),(List.isEmpty_iff.mp h3:d=[]),(List.isEmpty_iff.mp h4:e=[]),(Option.isNone_iff_eq_none.mp h5:f=none)]
noncomputable def ZGw (c:Cx) (m:MFun) (fd:FuncData) (body:List Stmt) (as:List Arg):Bool:=
  codeIn c.K fd.code fd.qualname&&((Jf as==m.ps.map c.nm)&&(XT (Jf as)&&((fd.scope.kind==.function)&&((fd.scope.isGenerator==false)&&((fd.scope.isCoroutine==false) &&
  ((fd.globals==mainGlobals)&&((fd.builtins==builtinsNs)&&(fd.closure.isEmpty&&(ob (Kk c.K fd.defaults) (fun ds=>Za m.ds ds&&Nat.ble ds.length (Jf as).length) &&
  ((Jf as).all (fun x=>fd.scope.names.lookup x==some .local||fd.scope.names.lookup x==some .cell)&&chkSs c (fun x=>fd.scope.names.lookup x) m.body body))))))))))
noncomputable def Ug (c:Cx) (f:Nat) (m:MFun):Bool:=ob (c.K.lookup (c.fA f)) fun o=>ob (Yt o) fun fd=>ob (Yy fd) fun body=>K1 fd.params&&ZGw c m fd body fd.params.args
section
variable {c:Cx} {r:Nat} {C:Ora}
theorem TT {fd:FuncData} {L a:Addr}:W4 (callEnvC fd L a):=fun x hx=>cellsFrom_some fd.scope.names (L + 1) [] (.inl (show fd.scope.names.lookup x=some .cell from hx))
theorem Ba (O:c.Ok) (HC:JJ c r C) {f:Nat} {m:MFun} (h:Ug c f m=true) {A:Around} {σ:St} {vs:List Mine.V} {v:Mine.V} {σ':St} {env:Env} {g:Gh} {s:Shared} {xs:List Value} {E:Value→Shared→Prop} {Q:Value→Shared→Prop}
    (hr:JK A (r + 2)) (hf:Qu C m vs σ=some (v,σ')) (R:Rel c env g σ s) (X:Vxs c env g s vs xs) (N:Nxt c env g s v σ' Q):codeAny c.M A (.call (.ref (c.fA f)) ⟨xs,[]⟩) (Wm Q E) s:=
  obE h fun o ho h=>obE h fun fd hfd h=>obE h fun body hb h=>bA h fun hp h=>bA h fun h3 h=>bA h fun h4 h=>bA h fun h5 h=>bA h fun h6 h=>bA h fun h7 h=>bA h fun h8 h=>bA h fun h9 h=>bA h fun h10 h=>bA h fun h11 h=>bA h fun hd h=>bA h fun h12 h13=>obE hd fun ds hds hd=>bA hd fun hd1 hd2=>by
    obtain ⟨oc,od,odat,osl⟩:=o
    cases Bz hfd
    exact ZFI O (ds:=ds) ⟨⟨_,_,_,ho⟩,h3,DF hb,Bn hp,bE h4,YI h5,hds,hd1,Nat.le_of_ble_eq_true hd2,bE h6,bE h7,bE h8,fun x hx=>bO (Ze h12 x hx) (fun q=>.inl (bE q)) fun q=>.inr (bE q),bE h9,bE h10,List.isEmpty_iff.mp h11⟩
      (fun L VV=>DC O HC m.body ⟨VV,TT,fun x=>rfl⟩ h13) hr hf R X N
theorem Yn (O:c.Ok) {T:Nat→Option MFun} (h:∀ f m,T f=some m→Ug c f m=true):∀ n,JJ c (2 * n) (JI T n)
  | 0=>fun _ _ _ _ _ _ _ _ _ _ _ _ _ _ hf _ _ _=>nn hf
  | n + 1=>fun _ _ _ _ _ _ _ _ _ _ _ _ hr VV hf R X N=>boE hf fun m h1 h2=>Ba O (Yn O h n) (h _ _ h1) hr h2 R X N
end
end Mine
end
noncomputable section
open PySem PySem.Calls PyProof.Rows PySem.W
namespace Mine
noncomputable def UI (n:Nat):Id→Bool
  | .t k=>decide (k < n)
  | .p _=>true
mutual
noncomputable def V.blw (n:Nat):Mine.V→Bool
  | .none=>true
  | .bool _=>true
  | .int _=>true
  | .str _=>true
  | .tup l=>V.blws n l
  | .list l=>V.blws n l
  | .dict _ vs=>V.blws n vs
  | .obj i=>UI n i
  | .fn _=>true
  | .meth _ v=>V.blw n v
  | .rng _ _=>true
noncomputable def V.blws (n:Nat):List Mine.V→Bool
  | []=>true
  | v :: l=>V.blw n v&&V.blws n l
end
noncomputable def Ju (n:Nat):List (Nat×Mine.V)→Bool
  | []=>true
  | (_,v) :: l=>V.blw n v&&Ju n l
noncomputable def Ob.blw (n:Nat):Ob→Bool
  | .list l=>V.blws n l
  | .dict _ vs=>V.blws n vs
  | .inst _ fs=>Ju n fs
noncomputable def UJ (n:Nat):List (Id×Ob)→Bool
  | []=>true
  | (i,o) :: l=>(UI n i&&Ob.blw n o)&&UJ n l
noncomputable def Gh.clean (g:Gh) (n:Nat):Gh:={ g with cs:=fun i=>if UI n i=true then g.cs i else none }
section
variable {c:Cx} {r:Nat} {env env':Env} {A:Around} {σ σ' σ₁:St} {g g₁:Gh} {s s' s₁ s₂:Shared} {E:Value→Shared→Prop} {Q:Value→Shared→Prop} {v:Mine.V} {D:Addr→Prop} {n:Nat} {F:Addr→Obj→Prop}
theorem Gh.clean_rho {i:Id} {a:Addr} (h:UI n i=true) (e:g.rho i=some a):(g.clean n).rho i=some a:=by
  unfold Gh.rho Gh.clean at *
  dsimp only
  rw [if_pos h]; exact e
theorem VR.clean {v:Mine.V} {x:Value} (h:VR c F g.rho v x):V.blw n v=true→VR c F (g.clean n).rho v x:=
  VR.rec (motive_1:=fun v x _=>V.blw n v=true→VR c F (g.clean n).rho v x) (motive_2:=fun l xs _=>V.blws n l=true→VRs c F (g.clean n).rho l xs) (fun _=>.none) (fun b _=>.bool b) (fun i t _=>.int i t) (fun s t _=>.str s t) (fun a b d _ e h=>.tup a b d (e h)) (fun a _ e h=>.list a (e h))
    (fun a b d _ f e h=>.dict a b d (e h) f) (fun a h=>.obj (Gh.clean_rho h a)) (fun f _=>.fn f) (fun a _=>.rng a) (fun a _ b h=>.meth a (b h)) (fun _=>.nil) (fun _ _ a b h=>bA h fun h1 h2=>.cons (a h1) (b h2)) h
theorem VRs.clean:∀ {l:List Mine.V} {xs:List Value},VRs c F g.rho l xs→V.blws n l=true→VRs c F (g.clean n).rho l xs
  | [],_,h,_=>h.nilE .nil
  | _ :: _,_,h,hb=>bA hb fun h1 h2=>h.consE fun _ _ a b=>.cons (a.clean h1) (b.clean h2)
theorem FsR.clean {fs:List (Nat×Mine.V)} {es:List DictEntry} (h:FsR c F g.rho fs es):Ju n fs=true→FsR c F (g.clean n).rho fs es:=
  FsR.rec (motive:=fun fs es _=>Ju n fs=true→FsR c F (g.clean n).rho fs es) (fun _=>.nil) (fun a b _ ih hb=>bA hb fun h1 h2=>.cons a (b.clean h1) (ih h2)) h
theorem O3 {i:Id} {o:Ob}:∀ {l:List (Id×Ob)},UJ n l=true→JA l i=some o→UI n i=true∧Ob.blw n o=true
  | [],_,e=>nn e
  | (j,q) :: l,h,e=>bA h fun h1 h2=>by
    by_cases hj:j=i
    · cases (if_pos hj).symm.trans e
      exact bA h1 fun h3 h4=>⟨hj▸h3,h4⟩
    · exact O3 h2 ((if_neg hj).symm.trans e)
theorem O4 {i:Nat} {o:Mine.V}:∀ {l:List (Nat×Mine.V)},Ju n l=true→JA l i=some o→V.blw n o=true
  | [],_,e=>nn e
  | (j,q) :: l,h,e=>bA h fun h1 h2=>by
    by_cases hj:j=i
    · cases (if_pos hj).symm.trans e; exact h1
    · exact O4 h2 ((if_neg hj).symm.trans e)
theorem ObR.clean {h:Heap} {ob:Ob} {a o:Addr} (H:ObR c env g h ob a o) (hb:Ob.blw n ob=true):ObR c env (g.clean n) h ob a o:=by
  cases ob with
  | list l=>exact ⟨H.1,H.2.imp fun _=>Exists.imp fun _ z=>⟨z.1,VRs.clean z.2 hb⟩⟩
  | dict ks vs=>exact ⟨H.1,H.2.1,H.2.2.imp fun _ z=>⟨z.1,z.2.1,VRs.clean z.2.2 hb⟩⟩
  | inst C fs=>exact ⟨H.1,H.2.1,H.2.2.1,H.2.2.2.imp fun _=>Exists.imp fun _ z=>⟨z.1,FsR.clean z.2 hb⟩⟩
structure Cl (n:Nat) (σ σ':St):Prop where
  loc:∀ i v,JA σ'.loc i=some v→JA σ.loc i=some v
  hp:∀ i o,JA σ'.hp i=some o→JA σ.hp i=some o
  bloc:Ju n σ'.loc=true
  bhp:UJ n σ'.hp=true
  nx:σ'.nx=n
  ps:∀ k,k∈σ.ps→k∈σ'.ps
theorem Gh.clean_cs {i:Id} {p:Addr×Addr} (e:(g.clean n).cs i=some p):g.cs i=some p:=by
  by_cases h:UI n i=true
  · exact (if_pos h).symm.trans e
  · exact nn ((if_neg h).symm.trans e)
theorem Rel.clean (R:Rel c env g σ s) (h:Cl n σ σ'):Rel c env (g.clean n) σ' s:=
  ⟨⟨R.kin,R.wob,R.xob,R.fob,R.dis,R.loc.imp fun m z=>⟨z.1,fun i v e =>
      have hb:=O4 h.bloc e
      ⟨fun q=>((z.2 i v (h.loc i v e)).1 q).imp fun x w=>⟨w.1,w.2.clean hb⟩,fun q=>((z.2 i v (h.loc i v e)).2 q).imp fun _=>Exists.imp fun _=>Exists.imp fun _ w=>⟨w.1,w.2.1,w.2.2.1,w.2.2.2.clean hb⟩⟩⟩,
    fun i o e=>let ⟨hb1,hb2⟩:=O3 h.bhp e; (R.obs i o (h.hp i o e)).imp fun r=>Exists.imp fun q z=>⟨(if_pos hb1).trans z.1,z.2.clean hb2⟩,
    fun id r o e=>R.cW _ _ _ (Gh.clean_cs e),fun id id' r o r' e e'=>R.inj _ _ _ _ _ (Gh.clean_cs e) (Gh.clean_cs e'),fun k e=>if_neg fun q=>Nat.not_lt.mpr (h.nx▸e) (of_decide_eq_true q),fun k e=>(show (g.clean n).cs (.p k)=g.cs (.p k) from rfl).trans (R.ps k fun q=>e (h.ps k q))⟩,R.pos⟩
theorem Ext.clean (R:Rel c env g σ s) (x:Ext env g g₁ s s₁):Ext env g (g₁.clean σ.nx) s s₁:=
  ⟨x.fz,fun id p e=>(if_pos (by
    cases id with
    | p k=>rfl
    | t k=>exact decide_eq_true (Nat.lt_of_not_le fun hk=>nn ((R.nx k hk).symm.trans e)))).trans (x.cs id p e),x.X,x.gens⟩
end
end Mine
end
noncomputable section
open PySem PySem.Calls PyProof.Rows PySem.W
namespace Mine
noncomputable def N8 (x:Value) (f:Addr→Bool):Bool:=match x with
  | .ref a=>f a
  | _=>false
theorem Hd {x:Value} {f:Addr→Bool} {P:Value→Prop} (h:N8 x f=true) (k:∀ a,f a=true→P (.ref a)):P x:=by cases x <;> first | exact ff h | exact k _ h
noncomputable def HX (s:List Nat) (x:Value):Bool:=match x with
  | .str b _=>b==toS s
  | _=>false
noncomputable def OM (v:Value) (t:String):Bool:=match v with
  | .type s=>s==t
  | _=>false
theorem Gu {v:Value} {t:String} (h:OM v t=true):v=.type t:=by cases v <;> first | exact ff h | exact congrArg Value.type (bE h)
mutual
noncomputable def Ws (K:Frag):Mine.V→Value→Bool
  | .none=>dIs .none
  | .bool a=>dIs (.bool a)
  | .int a=>dIs (.int a)
  | .str a=>HX a
  | .tup l=>fun x=>N8 x fun a=>ob (K.lookup a) fun o=>OM o.cls "tuple"&&ob (Wb o) (fun xs=>chkVs K l xs)
  | .list l=>fun x=>N8 x fun a=>ob (K.lookup a) fun o=>OM o.cls "list"&&(o.dict.isNone&&(o.slots.isEmpty&&ob (Wb o) (fun xs=>chkVs K l xs)))
  | .dict _ _=>fun _=>false
  | .obj _=>fun _=>false
  | .fn _=>fun _=>false
  | .meth _ _=>fun _=>false
  | .rng _ _=>fun _=>false
noncomputable def chkVs (K:Frag):List Mine.V→List Value→Bool
  | []=>fun xs=>xs.isEmpty
  | v :: l=>fun xs=>match xs with
    | []=>false
    | x :: xs=>Ws K v x&&chkVs K l xs
end
section
variable {c:Cx} {F:Addr→Obj→Prop} {ρ:Id→Option Addr}
theorem ZB2 {s:List Nat} {x:Value} (h:HX s x=true):VR c F ρ (.str s) x:=by cases x <;> first | exact ff h | (cases bE h; exact .str _ _)
theorem Yc (hF:∀ a o,c.K.lookup a=some o→F a o) {v:Mine.V}:∀ {x:Value},Ws c.K v x=true→VR c F ρ v x:=
  V.rec (motive_1:=fun v=>∀ {x:Value},Ws c.K v x=true→VR c F ρ v x) (motive_2:=fun l=>∀ {xs:List Value},chkVs c.K l xs=true→VRs c F ρ l xs) ZM (fun _ {_}=>ZM) (fun _ {_}=>ZM) (fun _ {_}=>ZB2)
    (fun _ ih {_} h=>Hd h fun a h=>obE h fun o ho h=>bA h fun h1 h=>obE h fun xs h2 h=>let ⟨_,_,h3,h4⟩:=KO h2; .tup (hF _ _ ho) (Gu h1) h3 (h4▸ih h))
    (fun _ ih {_} h=>Hd h fun a h=>obE h fun o ho h=>bA h fun h1 h=>bA h fun h2 h=>bA h fun h3 h=>obE h fun xs h4 h=>by
      obtain ⟨items,n,h5,rfl⟩:=KO h4
      obtain ⟨oc,od,odat,osl⟩:=o
      cases Gu h1
      cases Option.isNone_iff_eq_none.mp h2
      cases Array.isEmpty_iff.mp h3
      cases h5
      exact .list (hF _ _ ho) (ih h))
    (fun _ _ _ {_} h=>ff h) (fun _ {_} h=>ff h) (fun _ {_} h=>ff h) (fun _ _ _ {_} h=>ff h) (fun _ _ {_} h=>ff h) (fun {_} h=>Q5 h .nil) (fun _ _ h1 h2 {xs} h=>by
      cases xs with
      | nil=>exact ff h
      | cons x xs=>exact bA h fun a b=>.cons (h1 a) (h2 b)) v
noncomputable def ND (w:World) (l:List (Str×Tok×Int×Tok)):List DictEntry:=l.map fun p=>⟨hashStr w p.1,.str p.1 p.2.1,.int p.2.2.1 p.2.2.2⟩
theorem O5:∀ l:List (Str×Tok×Int×Tok),Pairs (strKind c.prog c.w) (ND c.w l) (l.map fun p=>(p.1,.int p.2.2.1 p.2.2.2))
  | []=>.nil
  | p :: l=>.cons (beq_self_eq_true p.1) rfl (O5 l)
theorem BV:∀ l:List (Str×Tok×Int×Tok),VRs c F ρ (l.map fun p=>.int p.2.2.1) (l.map fun p=>.int p.2.2.1 p.2.2.2)
  | []=>.nil
  | p :: l=>.cons (.int _ _) (BV l)
theorem ZDH {l:List (Str×Tok×Int×Tok)} {ks:List (List Nat)} {vs:List Mine.V} {a:Addr} {n:Nat} (hl:c.K.lookup a=some ⟨.type "dict",none,.dict (ND c.w l).toArray n,#[]⟩)
    (hk:l.map (·.1)=ks.map toS) (hv:vs=l.map fun p=>.int p.2.2.1) (hn:XT (l.map (·.1))=true) (ha:(a==sysModules)=false) (hF:∀ a o,c.K.lookup a=some o→F a o):VR c F ρ (.dict ks vs) (.ref a):=
  .dict (kvs:=l.map fun p=>(p.1,.int p.2.2.1 p.2.2.2)) (hF _ _ hl) ⟨_,_,⟨rfl,rfl,rfl⟩,rfl,fun e he=>by
    obtain ⟨p,hp,rfl⟩:=List.mem_map.mp (List.mem_toArray.mp he)
    exact ⟨p.1,beq_self_eq_true p.1,rfl⟩,O5 l,by rw [List.map_map]; exact YI hn⟩ (by rw [List.map_map]; exact hk) (by rw [hv,List.map_map]; exact BV l) ha
end
end Mine
end
noncomputable section
open PySem PySem.Calls PyProof.Rows PySem.W
namespace Mine
mutual
noncomputable def V.sb (i:Id) (w:Mine.V):Mine.V→Mine.V
  | .none=>.none
  | .bool b=>.bool b
  | .int n=>.int n
  | .str s=>.str s
  | .tup l=>.tup (V.sbs i w l)
  | .list l=>.list (V.sbs i w l)
  | .dict ks vs=>.dict ks (V.sbs i w vs)
  | .obj j=>if j=i then w else .obj j
  | .fn f=>.fn f
  | .meth f v=>.meth f (V.sb i w v)
  | .rng a b=>.rng a b
noncomputable def V.sbs (i:Id) (w:Mine.V):List Mine.V→List Mine.V
  | []=>[]
  | v :: l=>V.sb i w v :: V.sbs i w l
end
mutual
noncomputable def V.no (i:Id):Mine.V→Bool
  | .none=>true
  | .bool _=>true
  | .int _=>true
  | .str _=>true
  | .tup l=>V.nos i l
  | .list l=>V.nos i l
  | .dict _ vs=>V.nos i vs
  | .obj j=>decide (j≠i)
  | .fn _=>true
  | .meth _ v=>V.no i v
  | .rng _ _=>true
noncomputable def V.nos (i:Id):List Mine.V→Bool
  | []=>true
  | v :: l=>V.no i v&&V.nos i l
end
noncomputable def J5 (i:Id) (w:Mine.V):List (Nat×Mine.V)→List (Nat×Mine.V)
  | []=>[]
  | (n,v) :: l=>(n,V.sb i w v) :: J5 i w l
noncomputable def Ob.sb (i:Id) (w:Mine.V):Ob→Ob
  | .list l=>.list (V.sbs i w l)
  | .dict ks vs=>.dict ks (V.sbs i w vs)
  | .inst C fs=>.inst C (J5 i w fs)
noncomputable def Qo (i:Id) (w:Mine.V):List (Id×Ob)→List (Id×Ob)
  | []=>[]
  | (j,o) :: l=>if j=i then Qo i w l else (j,Ob.sb i w o) :: Qo i w l
noncomputable def St.sb (σ:St) (k:Nat) (w:Mine.V):St:=⟨J5 (.p k) w σ.loc,Qo (.p k) w σ.hp,σ.nx,σ.ps.filter (·≠k)⟩
noncomputable def Gh.drop (g:Gh) (i:Id):Gh:={ W:=fun b=>g.W b∧∀ p,g.cs i=some p→b≠p.2,X:=g.X,cs:=fun j=>if j=i then none else g.cs j }
section
variable {c:Cx} {r:Nat} {env env':Env} {A:Around} {σ σ' σ₁:St} {g g₁:Gh} {s s' s₁ s₂:Shared} {E:Value→Shared→Prop} {Q:Value→Shared→Prop} {v w:Mine.V} {D:Addr→Prop} {n:Nat} {F F':Addr→Obj→Prop} {ρ ρ':Id→Option Addr} {i:Id}
theorem VR.sb (hF:∀ a o,F a o→F' a o) (hρ:∀ j a,j≠i→ρ j=some a→ρ' j=some a) (hw:∀ a,ρ i=some a→VR c F' ρ' w (.ref a)) {v:Mine.V} {x:Value} (h:VR c F ρ v x):VR c F' ρ' (V.sb i w v) x:=
  VR.rec (motive_1:=fun v x _=>VR c F' ρ' (V.sb i w v) x) (motive_2:=fun l xs _=>VRs c F' ρ' (V.sbs i w l) xs) .none .bool .int .str (fun a b d _ e=>.tup (hF _ _ a) b d e) (fun a _ e=>.list (hF _ _ a) e) (fun a b d _ f e=>.dict (hF _ _ a) b d e f)
    (fun {j a} e=>Classical.byCases (fun q:j=i=>by show VR c F' ρ' (if j=i then w else .obj j) _; rw [if_pos q]; exact hw _ (q▸e)) fun q=>by show VR c F' ρ' (if j=i then w else .obj j) _; rw [if_neg q]; exact .obj (hρ _ _ q e)) .fn (fun a=>.rng (hF _ _ a)) (fun a _ b=>.meth (hF _ _ a) b) .nil (fun _ _ a b=>.cons a b) h
theorem VRs.sb (hF:∀ a o,F a o→F' a o) (hρ:∀ j a,j≠i→ρ j=some a→ρ' j=some a) (hw:∀ a,ρ i=some a→VR c F' ρ' w (.ref a)):∀ {l:List Mine.V} {xs:List Value},VRs c F ρ l xs→VRs c F' ρ' (V.sbs i w l) xs
  | [],_,h=>h.nilE .nil
  | _ :: _,_,h=>h.consE fun _ _ a b=>.cons (a.sb hF hρ hw) (b.sb hF hρ hw)
theorem VR.no (hF:∀ a o,F a o→F' a o) (hρ:∀ j a,j≠i→ρ j=some a→ρ' j=some a) {v:Mine.V} {x:Value} (h:VR c F ρ v x):V.no i v=true→VR c F' ρ' v x:=
  VR.rec (motive_1:=fun v x _=>V.no i v=true→VR c F' ρ' v x) (motive_2:=fun l xs _=>V.nos i l=true→VRs c F' ρ' l xs) (fun _=>.none) (fun b _=>.bool b) (fun n t _=>.int n t) (fun s t _=>.str s t) (fun a b d _ e h=>.tup (hF _ _ a) b d (e h)) (fun a _ e h=>.list (hF _ _ a) (e h))
    (fun a b d _ f e h=>.dict (hF _ _ a) b d (e h) f) (fun e h=>.obj (hρ _ _ (of_decide_eq_true h) e)) (fun f _=>.fn f) (fun a _=>.rng (hF _ _ a)) (fun a _ b h=>.meth (hF _ _ a) (b h)) (fun _=>.nil) (fun _ _ a b h=>bA h fun h1 h2=>.cons (a h1) (b h2)) h
theorem VRs.no (hF:∀ a o,F a o→F' a o) (hρ:∀ j a,j≠i→ρ j=some a→ρ' j=some a):∀ {l:List Mine.V} {xs:List Value},VRs c F ρ l xs→V.nos i l=true→VRs c F' ρ' l xs
  | [],_,h,_=>h.nilE .nil
  | _ :: _,_,h,hb=>bA hb fun h1 h2=>h.consE fun _ _ a b=>.cons (a.no hF hρ h1) (b.no hF hρ h2)
theorem FsR.sb (hF:∀ a o,F a o→F' a o) (hρ:∀ j a,j≠i→ρ j=some a→ρ' j=some a) (hw:∀ a,ρ i=some a→VR c F' ρ' w (.ref a)) {fs:List (Nat×Mine.V)} {es:List DictEntry} (h:FsR c F ρ fs es):FsR c F' ρ' (J5 i w fs) es:=
  FsR.rec (motive:=fun fs es _=>FsR c F' ρ' (J5 i w fs) es) .nil (fun a b _ ih=>.cons a (b.sb hF hρ hw) ih) h
theorem B2:∀ fs:List (Nat×Mine.V),(J5 i w fs).length=fs.length
  | []=>rfl
  | _ :: l=>congrArg (· + 1) (B2 l)
theorem BM {n:Nat} {v:Mine.V}:∀ {l:List (Nat×Mine.V)},JA (J5 i w l) n=some v→∃ u,JA l n=some u∧v=V.sb i w u
  | [],h=>nn h
  | (a,b) :: l,h=>by
    by_cases e:a=n
    · cases (if_pos e).symm.trans h; exact ⟨b,if_pos e,rfl⟩
    · exact (BM (l:=l) ((if_neg e).symm.trans h)).imp fun u z=>⟨(if_neg e).trans z.1,z.2⟩
theorem Zu {j:Id} {o:Ob}:∀ {l:List (Id×Ob)},JA (Qo i w l) j=some o→j≠i∧∃ u,JA l j=some u∧o=Ob.sb i w u
  | [],h=>nn h
  | (a,b) :: l,h=>by
    have h:JA (if a=i then Qo i w l else (a,Ob.sb i w b) :: Qo i w l) j=some o:=h
    by_cases e:a=i
    · rw [if_pos e] at h
      obtain ⟨h1,u,h2,h3⟩:=Zu (l:=l) h
      exact ⟨h1,u,(if_neg fun q=>h1 (q.symm.trans e)).trans h2,h3⟩
    · rw [if_neg e] at h
      by_cases q:a=j
      · cases (if_pos q).symm.trans h; exact ⟨fun z=>e (q.trans z),b,if_pos q,rfl⟩
      · obtain ⟨h1,u,h2,h3⟩:=Zu (l:=l) ((if_neg q).symm.trans h)
        exact ⟨h1,u,(if_neg q).trans h2,h3⟩
theorem ObR.sb {h:Heap} {g':Gh} {ob:Ob} {a o:Addr} (hF:∀ a o,Mine.Fz env g h a o→Mine.Fz env g' h a o) (hρ:∀ j a,j≠i→g.rho j=some a→g'.rho j=some a) (hw:∀ a,g.rho i=some a→VR c (Mine.Fz env g' h) g'.rho w (.ref a)) (H:ObR c env g h ob a o):ObR c env g' h (Ob.sb i w ob) a o:=by
  cases ob with
  | list l=>exact ⟨H.1,H.2.imp fun _=>Exists.imp fun _ z=>⟨z.1,VRs.sb hF hρ hw z.2⟩⟩
  | dict ks vs=>exact ⟨H.1,H.2.1,H.2.2.imp fun _ z=>⟨z.1,z.2.1,VRs.sb hF hρ hw z.2.2⟩⟩
  | inst C fs=>exact ⟨H.1,(B2 fs).symm▸H.2.1,hF _ _ H.2.2.1,H.2.2.2.imp fun _=>Exists.imp fun _ z=>⟨z.1,FsR.sb hF hρ hw z.2⟩⟩
theorem Ki {j:Id} {p:Addr×Addr} (e:(g.drop i).cs j=some p):j≠i∧g.cs j=some p:=
  Classical.byCases (fun q:j=i=>nn ((if_pos q).symm.trans e)) fun q=>⟨q,(if_neg q).symm.trans e⟩
theorem Oh {k:Nat} {r q:Addr} (R:Rel c env g σ s) (hc:g.cs (.p k)=some (r,q)) (hw:∀ a,g.rho (.p k)=some a→VR c (Mine.Fz env (g.drop (.p k)) s.heap) (g.drop (.p k)).rho w (.ref a)):Rel c env (g.drop (.p k)) (σ.sb k w) s:=by
  have kF:∀ a o,Mine.Fz env g s.heap a o→Mine.Fz env (g.drop (.p k)) s.heap a o:=fun a o z=>⟨z.1,fun h=>z.2.1 h.1,z.2.2.1,z.2.2.2⟩
  have kr:∀ j a,j≠Id.p k→g.rho j=some a→(g.drop (.p k)).rho j=some a:=fun j a hj e=>(congrArg (Option.map Prod.fst) (if_neg hj)).trans e
  exact ⟨⟨fun a o e=>kF _ _ (R.kin a o e),fun a w=>R.wob a w.1,R.xob,R.fob,fun a w=>R.dis a w.1,R.loc.imp fun m z=>⟨z.1,fun n v e=>by
      obtain ⟨u,hu,rfl⟩:=BM e
      exact ⟨fun q=>((z.2 n u hu).1 q).imp fun x w=>⟨w.1,w.2.sb kF kr hw⟩,fun q=>((z.2 n u hu).2 q).imp fun _=>Exists.imp fun _=>Exists.imp fun _ w=>⟨w.1,kF _ _ w.2.1,w.2.2.1,w.2.2.2.sb kF kr hw⟩⟩⟩,
    fun id ob e=>by
      obtain ⟨hne,u,hu,rfl⟩:=Zu e
      exact (R.obs id u hu).imp fun _=>Exists.imp fun _ z=>⟨(if_neg hne).trans z.1,z.2.sb kF kr hw⟩,
    fun id r' o e=>let ⟨hne,e⟩:=Ki e; ⟨R.cW _ _ _ e,fun p hp z=>by cases hc.symm.trans hp; cases (show o=q from z); exact hne (R.inj _ _ _ _ _ e hc)⟩,
    fun id id' r' o r'' e e'=>R.inj _ _ _ _ _ (Ki e).2 (Ki e').2,fun j e=>(show (g.drop (.p k)).cs (.t j)=g.cs (.t j) from rfl).trans (R.nx j e),
    fun j e=>Classical.byCases (fun hj:Id.p j=Id.p k=>if_pos hj) fun hj=>(if_neg hj).trans (R.ps j fun q=>e (List.mem_filter.mpr ⟨q,decide_eq_true fun z=>hj (congrArg Id.p z)⟩))⟩,R.pos⟩
theorem G2 {k:Nat} {ks:List (List Nat)} {vs:List Mine.V} (R:Rel c env g σ s) (ho:JA σ.hp (.p k)=some (.dict ks vs)) (hn:V.nos (.p k) vs=true) :
    Rel c env (g.drop (.p k)) (σ.sb k (.dict ks vs)) s∧∀ a,g.rho (.p k)=some a→VR c (Mine.Fz env (g.drop (.p k)) s.heap) (g.drop (.p k)).rho (.dict ks vs) (.ref a):=by
  obtain ⟨r,q,hc,rfl,hsm,kvs,D,k1,r1⟩:=R.obs _ _ ho
  have hrW:g.W r:=R.cW _ _ _ hc
  obtain ⟨ob,hob,hdo⟩:=Heap.dictOf_iff.mp D
  have hw:∀ a,g.rho (.p k)=some a→VR c (Mine.Fz env (g.drop (.p k)) s.heap) (g.drop (.p k)).rho (.dict ks vs) (.ref a):=fun a e=>by
    cases (congrArg (Option.map Prod.fst) hc).symm.trans e
    exact .dict ⟨hob,fun h=>h.2 _ hc rfl,(R.dis r hrW).1,(R.dis r hrW).2⟩ hdo k1 (r1.no (fun a o z=>⟨z.1,fun h=>z.2.1 h.1,z.2.2.1,z.2.2.2⟩) (fun j a hj e=>(congrArg (Option.map Prod.fst) (if_neg hj)).trans e) hn) hsm
  exact ⟨Oh R hc hw,hw⟩
theorem YX {k:Nat} {vs:List Mine.V} (R:Rel c env g σ s) (ho:JA σ.hp (.p k)=some (.list vs)) (hn:V.nos (.p k) vs=true) :
    Rel c env (g.drop (.p k)) (σ.sb k (.list vs)) s∧∀ a,g.rho (.p k)=some a→VR c (Mine.Fz env (g.drop (.p k)) s.heap) (g.drop (.p k)).rho (.list vs) (.ref a):=by
  obtain ⟨r,q,hc,rfl,items,n,D,r1⟩:=R.obs _ _ ho
  have hrW:g.W r:=R.cW _ _ _ hc
  have hw:∀ a,g.rho (.p k)=some a→VR c (Mine.Fz env (g.drop (.p k)) s.heap) (g.drop (.p k)).rho (.list vs) (.ref a):=fun a e=>by
    cases (congrArg (Option.map Prod.fst) hc).symm.trans e
    exact .list ⟨D,fun h=>h.2 _ hc rfl,(R.dis r hrW).1,(R.dis r hrW).2⟩ (r1.no (fun a o z=>⟨z.1,fun h=>z.2.1 h.1,z.2.2.1,z.2.2.2⟩) (fun j a hj e=>(congrArg (Option.map Prod.fst) (if_neg hj)).trans e) hn)
  exact ⟨Oh R hc hw,hw⟩
end
end Mine
end
noncomputable section
open PySem PySem.Calls PyProof.Rows PySem.W
namespace Mine
section
variable {c:Cx} {r:Nat} {env env':Env} {A:Around} {σ σ' σ₁:St} {g g₁:Gh} {s s' s₁ s₂:Shared} {E:Value→Shared→Prop} {Q:Value→Shared→Prop} {v w:Mine.V} {D:Addr→Prop} {n:Nat} {F F':Addr→Obj→Prop} {ρ ρ':Id→Option Addr} {i:Id}
theorem To (O:c.Ok) {id:Id} {C f:Nat} {fs:List (Nat×Mine.V)} {a:Addr} (hn:findIn c.K (.ref (c.cA C)) "__iter__"=some (some (.ref (c.fA f)))) (hf:typeIn c.K (.ref (c.fA f))=some (.type "function")) (R:Rel c env g σ s) (ho:JA σ.hp id=some (.inst C fs)) (hr:g.rho id=some a)
    (hc:wpAny c.M A (call (.ref (c.fA f)) [.ref a]) (fun it s'=>∃ T' r,s'.TypeIs it T'∧typeLookup (.type T') "__next__"=pure (some r)∧Q it s') E s):wpAny c.M A (pyIter (.ref a)) Q E s:=by
  obtain ⟨o,es,k,-,-,-,I⟩:=WS O R ho hr
  have L1:Looks c.M s.heap (specialOf (.ref a) "__iter__") (some (.ref (c.fA f))):=(I.type).andThen (looks_findIn R.kinD hn)
  have L2:Looks c.M s.heap (bindSpecial (.ref (c.fA f)) (.ref a)) (.ref (c.fA f),[.ref a]):=bind_fn R.kinD _ hf
  unfold pyIter
  refine wpAny_bind (L1.here ?_)
  show wpAny _ A (callSpecialIfBoundUnlessNone? (.ref a) "__iter__" _ >>= _) Q E s
  refine wpAny_bind ?_
  simp only [callSpecialIfBoundUnlessNone?,bindSpecialIfBound?]
  refine wpAny_holding (wpAny_bind (wpAny_bind (L1.here ?_)))
  refine wpAny_bind (wpAny_askSetting (wpAny_ite ?_))
  have fin:wpAny c.M A (if (Value.ref (c.fA f)==Value.none)=true then ((do rule "iter.none"; raiseError "TypeError" s!"'{← typeNameOf (Value.ref a)}' object is not iterable":Sem Value) >>= fun v=>pure (some v)) else (call (.ref (c.fA f)) [.ref a] >>= fun v=>pure (some v)))
      (fun it s'=>wpAny c.M A (match it with
        | some it=>(do match ← specialOf it "__next__" with
          | none=>rule "iter.non-iterator"; raiseError "TypeError" s!"iter() returned non-iterator of type '{← typeNameOf it}'"
          | some _=>pure it:Sem Value)
        | none=>(do match ← bindSpecialIfBound? (Value.ref a) "__getitem__" with
          | none=>rule "iter.not-iterable"; raiseError "TypeError" s!"'{← typeNameOf (Value.ref a)}' object is not iterable"
          | some _=>rule "iter.getitem-fallback"; newFields "iterator" [Value.ref a,← mkInt 0]:Sem Value)) Q E s') E s:=by
    rw [if_neg (by simp [BEq.beq])]
    refine wpAny_bind (wpAny_mono hc (fun it s' h'=>wpAny_pure ?_) fun _ _ e=>e)
    obtain ⟨T',r,h1,h2,h3⟩:=h'
    exact wpAny_bind (wpAny_specialOf h1 h2 (wpAny_pure h3))
  split
  · exact wpAny_bind (L2.here (wpAny_pure fin))
  · exact wpAny_tryCatch (wpAny_bind (L2.here (wpAny_pure fin)))
structure GenAt (c:Cx) (f:Nat) (fd:FuncData) (body:List Stmt):Prop where
  at_:∃ oc od osl,c.K.lookup (c.fA f)=some ⟨oc,od,.func fd,osl⟩
  code:codeIn c.K fd.code fd.qualname=true
  body:fd.body=.stmts body
  params:∃ as dd,fd.params=⟨[],as,none,[],[],none,dd⟩∧Jf as=[c.nm 0]
  dflts:fd.defaults=.none
  kind:fd.scope.kind=.function
  gen:fd.scope.isGenerator=true
  co:fd.scope.isCoroutine=false
  plocal:fd.scope.names.lookup (c.nm 0)=some .local
  nocell:∀ p∈fd.scope.names,p.2≠.cell
  glob:fd.globals=mainGlobals
  blt:fd.builtins=builtinsNs
  clo:fd.closure=[]
noncomputable abbrev J1 (fd:FuncData) (GL a:Addr):Env:=callEnvC fd GL a
theorem ZCc (O:c.Ok) {f:Nat} {fd:FuncData} {body:List Stmt} (G:GenAt c f fd body) {x:Value} (hr:JK A 2) (R:Rel c env g σ s)
    (N:∀ (s':Shared) (GO:Addr) (m:Str→Option Value),(∀ b o,s.heap.get? b=some o→s'.heap.get? b=some o)→s.heap.objs.size < GO→s'.heap.Ns s.heap.objs.size m→m (c.nm 0)=some x→s'.heap.IsGen GO s.gens.size →
      s'.gens=s.gens.push (.fresh (.func body (J1 fd s.heap.objs.size (c.fA f))))→s'.os=s.os→0 < s'.toks→Q (.ref GO) s') :
    wpAny c.M A (call (.ref (c.fA f)) [x]) Q E s:=by
  refine wpAny_call ?_
  obtain ⟨oc,od,osl,ho⟩:=G.at_
  obtain ⟨as,dd,hp,hn⟩:=G.params
  obtain ⟨rr,hrr,hrun⟩:=BW (v:=fd.defaults) (ds:=[]) (by rw [G.dflts]; rfl) R.kinD
  have B:Binds (Jf as) [x] [] [x]:=⟨hn▸List.nodup_cons.mpr ⟨(fun q=>nomatch q),List.nodup_nil⟩,hn▸Nat.le_refl _,Nat.zero_le _,hn▸Nat.le_refl _,by rw [List.drop_nil]; rfl⟩
  refine codeAny_call_generator (Nat.lt_of_le_of_lt (Nat.le_add_right _ _) hr.2.1) (R.kin _ _ ho).1 rfl G.co G.gen G.body (codeRec_of R.kinD G.code) (Ol hp B hrr hrun _ _ _ _ ?_)
  rw [G.clo,hn]
  refine QW R.pos (wpAny_newFunctionEnv_cells G.kind (fun y hy=>?_) fun env₁ he s₁ hic htk=>?_)
  · cases List.mem_singleton.mp (show y∈[(c.nm 0,x)] from hy)
    exact .inl G.plocal
  · have he:env₁=J1 fd s.heap.objs.size (c.fA f):=he
    subst he
    refine ⟨(O.noLimit R).keeps hic.toInCall.keep,?_⟩
    obtain ⟨h',tk,rfl,kk⟩:=hic.done
    have hns:=hic.toInCall.ns
    exact N _ h'.objs.size _ (fun b o e=>Heap.get?_push_of_some _ (kk b o e)) hns.lt (hns.push _) (DG G.plocal (List.nodup_cons.mpr ⟨(fun q=>nomatch q),List.nodup_nil⟩) (.head _)) ⟨_,_,_,Heap.get?_push_size _ rfl,rfl,rfl,rfl⟩ rfl rfl (Nat.succ_pos _)
end
end Mine
end
noncomputable section
open PySem PySem.Calls PyProof.Rows PySem.W
namespace Mine
structure GenM where
  t1:ME
  t2:ME
  t3:ME
  e:ME
inductive Given:St→Mine.V→Mine.V→St→Prop
  | same {σ:St} {v:Mine.V}:Given σ v v σ
  | froz {σ:St} {k:Nat} {ks:List (List Nat)} {vs:List Mine.V}:JA σ.hp (.p k)=some (.dict ks vs)→V.nos (.p k) vs=true→k≠99→Given σ (.obj (.p k)) (.dict ks vs) (σ.sb k (.dict ks vs))
inductive Frz (σ:St) (k:Nat):Mine.V→Prop
  | l {vs:List Mine.V}:JA σ.hp (.p k)=some (.list vs)→V.nos (.p k) vs=true→Frz σ k (.list vs)
  | d {ks:List (List Nat)} {vs:List Mine.V}:JA σ.hp (.p k)=some (.dict ks vs)→V.nos (.p k) vs=true→Frz σ k (.dict ks vs)
inductive GR (C:Ora) (m:GenM):Bool→St→List Mine.V→List Mine.V→St→Prop
  | stop {σ σ₁:St} {dn:List Mine.V}:tst C m.t1 σ=some (false,σ₁)→JA σ₁.hp (.p 99)=some (.list dn)→GR C m true σ dn [] σ₁
  | turn {σ σ₁ σ₂ σ':St} {dn l:List Mine.V}:tst C m.t1 σ=some (true,σ₁)→tst C m.t2 σ₁=some (false,σ₂)→GR C m false σ₂ dn l σ'→GR C m true σ dn l σ'
  | next {σ σ₁ σ':St} {dn l:List Mine.V}:tst C m.t3 σ=some (false,σ₁)→GR C m true σ₁ dn l σ'→GR C m false σ dn l σ'
  | give {σ σ₁ σ₂ σ₃ σ':St} {v w:Mine.V} {dn l:List Mine.V}:tst C m.t3 σ=some (true,σ₁)→ev C m.e σ₁=some (v,σ₂)→Given σ₂ v w σ₃→JA σ₃.hp (.p 99)=some (.list dn) →
      GR C m false (σ₃.setOb (.p 99) (.list (dn++[w]))) (dn++[w]) l σ'→GR C m false σ dn (w :: l) σ'
  | frz {σ σ':St} {ph:Bool} {k:Nat} {w:Mine.V} {dn l:List Mine.V}:Frz σ k w→k≠99→GR C m ph (σ.sb k w) dn l σ'→GR C m ph σ dn l σ'
section
variable {c:Cx} {r:Nat} {eg:Env} {A:Around} {σ σ' σ₁:St} {g g₁:Gh} {s s' s₁ s₂:Shared}
structure GInv (c:Cx) (eg:Env) (X0 Y0:Addr→Prop) (r0 r9:Addr) (σ:St) (g:Gh) (s:Shared):Prop where
  rel:Rel c eg g σ s
  X:g.X=X0
  r0:g.rho (.t 0)=some r0
  r9:g.rho (.p 99)=some r9
  nY:∀ a,Y0 a→¬ g.W a∧∃ o,s.heap.get? a=some o
noncomputable def Kp (X0:Addr→Prop) (s₀ s₁:Shared):Prop:=(∀ a o,X0 a→s₀.heap.get? a=some o→s₁.heap.get? a=some o)∧gos s₁=gos s₀
theorem Kp.trans {X0:Addr→Prop} (x:Kp X0 s s₁) (y:Kp X0 s₁ s₂):Kp X0 s s₂:=⟨fun a o h e=>y.1 a o h (x.1 a o h e),y.2.trans x.2⟩
theorem Kp.refl {X0:Addr→Prop}:Kp X0 s s:=⟨fun _ _ _ e=>e,rfl⟩
theorem GInv.ext {X0 Y0:Addr→Prop} {r0 r9:Addr} (I:GInv c eg X0 Y0 r0 r9 σ g s) (hX:∀ a,Y0 a→¬ FA eg a) (R:Rel c eg g₁ σ₁ s₁) (x:Ext eg g g₁ s s₁):GInv c eg X0 Y0 r0 r9 σ₁ g₁ s₁∧Kp Y0 s s₁:=
  ⟨⟨R,x.X.trans I.X,x.rho I.r0,x.rho I.r9,fun a h=>let ⟨o,e⟩:=(I.nY a h).2; let z:=x.fz a o e (I.nY a h).1 (hX a h); ⟨z.2,o,z.1⟩⟩,fun a o h e=>(x.fz a o e (I.nY a h).1 (hX a h)).1,x.gens⟩
noncomputable def Uo (c:Cx) (eg:Env) (X0 Y0:Addr→Prop) (r0 r9:Addr) (tot:List Mine.V):Protocol:=fun n s₀ v s₁ kap =>
  ∃ g σ w dn rest,GInv c eg X0 Y0 r0 r9 σ g s₁∧JA σ.hp (.p 99)=some (.list dn)∧tot=dn++w :: rest∧rest.length=n∧VR c (Fz eg g s₁.heap) g.rho w v∧Kp Y0 s₀ s₁ ∧
    ∀ g' s'',GInv c eg X0 Y0 r0 r9 (σ.setOb (.p 99) (.list (dn++[w]))) g' s''→kap (.send .none) s''
noncomputable def Ia (c:Cx) (eg:Env) (X0 Y0:Addr→Prop) (r0 r9:Addr) (tot:List Mine.V) (σe:St):Nat→Shared→Shared→Prop:=fun _ s₀ s₁ =>
  ∃ g,GInv c eg X0 Y0 r0 r9 σe g s₁∧Kp Y0 s₀ s₁∧JA σe.hp (.p 99)=some (.list tot)
noncomputable abbrev Up (c:Cx) (eg:Env) (X0 Y0:Addr→Prop) (r0 r9:Addr) (tot:List Mine.V) (σe:St):GenEnd:=fun n s₀ r s₁=>r=.ok (.ret .none)∧Ia c eg X0 Y0 r0 r9 tot σe n s₀ s₁
theorem W2 {R:GenEnd} {Y:Protocol} {n:Nat} {s₀:Shared} {fs:List Frame} {t:Expr} {b o:List Stmt} {mt:ME} {C:Ora} {q:Bool} {X0 Y0:Addr→Prop} {r0 r9:Addr} (hr:JK (A.over (.whileLoop t b o eg) fs) r) (H:JW c r eg t (tst C mt)) (hf:tst C mt σ=some (q,σ₁))
    (I:GInv c eg X0 Y0 r0 r9 σ g s) (hX:∀ a,Y0 a→¬ FA eg a)
    (N:∀ g₁ s₁,GInv c eg X0 Y0 r0 r9 σ₁ g₁ s₁→Kp Y0 s s₁→if q=true then
          Seg c.M A R Y n s₀ (.whileLoop t b o eg) ((execs b eg).wrap (fun f=>match f with
            | .next | .cont=>.pure (.again (.whileLoop t b o eg))
            | .brk=>.pure (.done .next)
            | .ret v=>.pure (.done (.ret v))) (fun e=>(do noteFrame e eg; theTreesLotGoes e:Sem Unit).wrap (fun _=>.raise e) .raise id id) id id) fs s₁
        else Seg c.M A R Y n s₀ (.whileLoop t b o eg) ((execs o eg).wrap (fun f=>.pure (.done f)) (fun e=>(do noteFrame e eg; theTreesLotGoes e:Sem Unit).wrap (fun _=>.raise e) .raise id id) id id) fs s₁) :
    Seg c.M A R Y n s₀ (.whileLoop t b o eg) (c.M.den (.whileLoop t b o eg)) fs s:=by
  refine seg_whileLoop (H hr hf I.rel fun s₁ g₁ R₁ E₁=>?_)
  obtain ⟨I₁,K₁⟩:=I.ext hX R₁ E₁
  exact N g₁ s₁ I₁ K₁

noncomputable abbrev QZ (t2 t3 ye:Expr) (b2:List Stmt) (p2 p3 yp ep:Pos):List Stmt:=[.While t2 b2 [] p2,.While t3 [.Expr (.Yield (some ye) yp) ep] [] p3]
theorem Frz.rel {k:Nat} {w:Mine.V} (h:Frz σ k w) (R:Rel c eg g σ s):Rel c eg (g.drop (.p k)) (σ.sb k w) s:=by
  cases h with
  | l h1 h2=>exact (YX R h1 h2).1
  | d h1 h2=>exact (G2 R h1 h2).1
theorem GInv.drop {X0 Y0:Addr→Prop} {r0 r9:Addr} {k:Nat} (I:GInv c eg X0 Y0 r0 r9 σ g s) (hk:k≠99) (R':Rel c eg (g.drop (.p k)) σ' s):GInv c eg X0 Y0 r0 r9 σ' (g.drop (.p k)) s:=
  ⟨R',I.X,(congrArg (Option.map Prod.fst) (show (g.drop (.p k)).cs (.t 0)=g.cs (.t 0) from rfl)).trans I.r0,(congrArg (Option.map Prod.fst) (show (g.drop (.p k)).cs (.p 99)=g.cs (.p 99) from if_neg fun q=>hk (by cases q; rfl))).trans I.r9,fun a h=>⟨fun q=>(I.nY a h).1 q.1,(I.nY a h).2⟩⟩
theorem GInv.given {X0 Y0:Addr→Prop} {r0 r9:Addr} {v w:Mine.V} {x:Value} (I:GInv c eg X0 Y0 r0 r9 σ g s) (hg:Given σ v w σ') (hv:VR c (Fz eg g s.heap) g.rho v x) :
    ∃ g',GInv c eg X0 Y0 r0 r9 σ' g' s∧VR c (Fz eg g' s.heap) g'.rho w x:=by
  cases hg with
  | same=>exact ⟨g,I,hv⟩
  | froz ho hn hk9 =>
    rename_i k ks vs
    obtain ⟨R',H⟩:=G2 I.rel ho hn
    obtain ⟨a,rfl,ha⟩:=hv.objR
    exact ⟨g.drop (.p k),I.drop hk9 R',H _ ha⟩
theorem ZF7 {d f w k r L:Nat} (h:d + k < L) (h2:f + w≤2) (hk:r + 2≤k):d + f + w + r < L:=
  Nat.lt_of_le_of_lt (by rw [Nat.add_assoc d,Nat.add_assoc d]; exact Nat.add_le_add_left (Nat.le_trans (Nat.add_le_add_right h2 r) (Nat.add_comm 2 r▸hk)) d) h
theorem ZF6 {u f w k r L:Nat} (h:u + 20 * k + 300 < L) (h2:f + w≤20) (hk:r + 2≤k):u + f + w + 20 * r + 300 < L:=
  Nat.lt_of_le_of_lt (Nat.add_le_add_right (by rw [Nat.add_assoc u,Nat.add_assoc u]; exact Nat.add_le_add_left (Nat.le_trans (Nat.add_le_add_right h2 _) (by rw [Nat.add_comm 20,← Nat.mul_succ]; exact Nat.mul_le_mul_left 20 (Nat.le_trans (Nat.le_succ _) hk))) u) 300) h
theorem Zr {c':Code} {fs:List Frame} {k:Nat} (hr:JK A k) (hh:(marksOver fs (A.handled,A.handled)).1=none) (hd:frameCount (fs.map Frame.where_) + c'.weight≤2) (hu:PySem.unitsOf (fs.map Frame.where_) + c'.cUnits≤20) {r:Nat} (hk:r + 2≤k):JK (A.over c' fs) r:=
  ⟨hh,ZF7 hr.2.1 hd hk,ZF6 hr.2.2 hu hk⟩

theorem ZDl {C:Ora} {m:GenM} {t1 t2 t3 ye:Expr} {b2:List Stmt} {p2 p3 yp ep:Pos} {X0 Y0:Addr→Prop} {r0 r9:Addr} {tot:List Mine.V} {σe:St} (hX:∀ a,Y0 a→¬ FA eg a) (hA:JK A (r + 2))
    (H1:JW c r eg t1 (tst C m.t1)) (H2:JW c r eg t2 (tst C m.t2)) (H3:JW c r eg t3 (tst C m.t3)) (H4:JD c r eg ye (ev C m.e)) (hco:eg.scope.isCoroutine=false) (hi:interactive eg=false)
    {cF:Code} {k1:Result→Sem Fin} {l1:List Value} {p1:Pos} (hw:cF.weight=1) (hu:cF.cUnits=3)
    (hk1:∀ n s₀ s,Up c eg X0 Y0 r0 r9 tot σe n s₀ (.ok (.ret .none)) s→Seg c.M A (Up c eg X0 Y0 r0 r9 tot σe) (Uo c eg X0 Y0 r0 r9 tot) n s₀ cF (k1 (.ok .next)) [] s)
    {ph:Bool} {dn l:List Mine.V} (G:GR C m ph σ dn l σe):tot=dn++l→∀ (g:Gh) (s s₀:Shared),GInv c eg X0 Y0 r0 r9 σ g s→Kp Y0 s₀ s→match ph with
    | true=>Seg c.M A (Up c eg X0 Y0 r0 r9 tot σe) (Uo c eg X0 Y0 r0 r9 tot) l.length s₀ (.whileLoop t1 (QZ t2 t3 ye b2 p2 p3 yp ep) [] eg) (c.M.den (.whileLoop t1 (QZ t2 t3 ye b2 p2 p3 yp ep) [] eg)) [.ret k1 none false l1 cF p1 []] s
    | false=>∀ (k3:Result→Sem Fin) (l3:List Value) (p':Pos),(∀ n s₀ s,Seg c.M A (Up c eg X0 Y0 r0 r9 tot σe) (Uo c eg X0 Y0 r0 r9 tot) n s₀ (.whileLoop t1 (QZ t2 t3 ye b2 p2 p3 yp ep) [] eg) (.pure (.again (.whileLoop t1 (QZ t2 t3 ye b2 p2 p3 yp ep) [] eg))) [.ret k1 none false l1 cF p1 []] s →
          Seg c.M A (Up c eg X0 Y0 r0 r9 tot σe) (Uo c eg X0 Y0 r0 r9 tot) n s₀ (.whileLoop t1 (QZ t2 t3 ye b2 p2 p3 yp ep) [] eg) (k3 (.ok .next)) [.ret k1 none false l1 cF p1 []] s) →
        Seg c.M A (Up c eg X0 Y0 r0 r9 tot σe) (Uo c eg X0 Y0 r0 r9 tot) l.length s₀ (.whileLoop t3 [.Expr (.Yield (some ye) yp) ep] [] eg) (c.M.den (.whileLoop t3 [.Expr (.Yield (some ye) yp) ep] [] eg))
          [.ret k3 none false l3 (.whileLoop t1 (QZ t2 t3 ye b2 p2 p3 yp ep) [] eg) p' [],.ret k1 none false l1 cF p1 []] s:=by
  have hO:∀ t b,(Code.whileLoop t b [] eg).weight=0:=fun _ _=>rfl
  have hOu:∀ t b,(Code.whileLoop t b [] eg).cUnits=0:=fun _ _=>rfl
  have hroom1:∀ t b,JK (A.over (.whileLoop t b [] eg) [.ret k1 none false l1 cF p1 []]) r:=fun t b=>Zr hA (by simp [marksOver,Frame.marks,markOver,hA.1]) (by simp only [List.map_cons,List.map_nil,Frame.where_,frameCount_cons,hw,hO]; exact Nat.le_succ 1) (by simp only [List.map_cons,List.map_nil,Frame.where_,unitsOf_cons,hu,hOu]; exact (by decide:3 + 0 + 0≤20)) (Nat.le_refl _)
  have hroom2:∀ t b t' b' k3 l3 p',JK (A.over (.whileLoop t b [] eg) [.ret k3 none false l3 (.whileLoop t' b' [] eg) p' [],.ret k1 none false l1 cF p1 []]) r:=fun t b t' b' k3 l3 p'=>Zr hA (by simp [marksOver,Frame.marks,markOver,hA.1]) (by simp only [List.map_cons,List.map_nil,Frame.where_,frameCount_cons,hw,hO]; exact Nat.le_succ 1) (by simp only [List.map_cons,List.map_nil,Frame.where_,unitsOf_cons,hu,hOu]; exact (by decide:0 + (3 + 0) + 0≤20)) (Nat.le_refl _)
  induction G with
  | stop h1 hd =>
    intro ht g s s₀ I K
    refine W2 (hroom1 _ _) H1 h1 I hX fun g₁ s₁ I₁ K₁=>?_
    rw [if_neg Bool.false_ne_true]
    refine seg_execs_nil ?_
    refine seg_leaf (.ok .next) (hk1 _ _ _ ⟨rfl,g₁,I₁,K.trans K₁,?_⟩)
    rw [List.append_nil] at ht
    rw [ht]; exact hd
  | turn h1 h2 _ ih =>
    intro ht g s s₀ I K
    refine W2 (hroom1 _ _) H1 h1 I hX fun g₁ s₁ I₁ K₁=>?_
    rw [if_pos rfl]
    refine seg_execs_cons (seg_While fun p=>?_)
    refine W2 (hroom2 _ _ _ _ _ _ _) H2 h2 I₁ hX fun g₂ s₂ I₂ K₂=>?_
    rw [if_neg Bool.false_ne_true]
    refine seg_execs_nil ?_
    refine seg_leaf (.ok .next) ?_
    show Seg _ _ _ _ _ _ _ ((execs [.While t3 [.Expr (.Yield (some ye) yp) ep] [] p3] eg).wrap _ _ id id) _ s₂
    refine seg_execs_cons (seg_While fun p'=>?_)
    exact ih hk1 ht g₂ s₂ s₀ I₂ (K.trans (K₁.trans K₂)) _ _ p' fun n s₀ s h=>h
  | next h1 _ ih =>
    intro ht g s s₀ I K k3 l3 p' hk3
    refine W2 (hroom2 _ _ _ _ _ _ _) H3 h1 I hX fun g₁ s₁ I₁ K₁=>?_
    rw [if_neg Bool.false_ne_true]
    refine seg_execs_nil ?_
    refine seg_leaf (.ok .next) (hk3 _ _ _ (seg_again rfl ?_))
    exact ih hk1 ht g₁ s₁ s₀ I₁ (K.trans K₁)
  | give h1 h2 hg hd _ ih =>
    rename_i σ σ₁ σ₂ σ₃ σ' v w dn l _
    intro ht g s s₀ I K k3 l3 p' hk3
    refine W2 (hroom2 _ _ _ _ _ _ _) H3 h1 I hX fun g₁ s₁ I₁ K₁=>?_
    rw [if_pos rfl]
    refine seg_execs_cons ?_
    refine seg_Expr_Yield rfl rfl rfl (H4 (hroom2 _ _ _ _ _ _ _) h2 I₁.rel fun x s₂ g₂ R₂ X₂ E₂ kap hkap=>?_) hco hi
    obtain ⟨I₂,K₂⟩:=I₁.ext hX R₂ E₂
    obtain ⟨g₃,I₃,X₃⟩:=I₂.given hg X₂
    refine ⟨g₃,σ₃,w,dn,l,I₃,hd,ht,rfl,X₃,K.trans (K₁.trans K₂),fun g' s'' I''=>hkap .none s'' ?_⟩
    show Seg _ _ _ _ _ _ _ _ _ _
    refine seg_execs_nil ?_
    refine seg_again rfl ?_
    exact ih hk1 (by rw [ht]; simp) g' s'' s'' I'' .refl k3 l3 p' hk3
  | frz h1 hk _ ih =>
    rename_i ph _ _ _ _ _
    cases ph <;> exact fun ht g s s₀ I K=>ih hk1 ht _ s s₀ (I.drop hk (h1.rel I.rel)) K

theorem ZAW {C:Ora} {m:GenM} {m0:MS} {S0:Stmt} {t1 t2 t3 ye:Expr} {b2:List Stmt} {p1 p2 p3 yp ep:Pos} {X0 Y0:Addr→Prop} {r0 r9:Addr} {tot:List Mine.V} {σe:St} (hX:∀ a,Y0 a→¬ FA eg a) (hA:JK A (r + 2))
    (H0:JN c r eg S0 (exc C m0)) (H1:JW c r eg t1 (tst C m.t1)) (H2:JW c r eg t2 (tst C m.t2)) (H3:JW c r eg t3 (tst C m.t3)) (H4:JD c r eg ye (ev C m.e)) (hco:eg.scope.isCoroutine=false) (hi:interactive eg=false)
    (h0:exc C m0 σ=some (.next,σ₁)) (G:GR C m true σ₁ [] tot σe) (I:GInv c eg X0 Y0 r0 r9 σ g s) :
    Seg c.M A (Up c eg X0 Y0 r0 r9 tot σe) (Uo c eg X0 Y0 r0 r9 tot) tot.length s (.func [S0,.While t1 (QZ t2 t3 ye b2 p2 p3 yp ep) [] p1] eg) (c.M.den (.func [S0,.While t1 (QZ t2 t3 ye b2 p2 p3 yp ep) [] p1] eg)) [] s:=by
  refine seg_func (seg_execs_cons (seg_wrap ?_))
  have hroom:JK (A.over (.func [S0,.While t1 (QZ t2 t3 ye b2 p2 p3 yp ep) [] p1] eg) []) r:=Zr hA (by simp [marksOver,hA.1]) (by show 0 + (Code.func _ eg).weight≤2; exact Nat.le_succ 1) (by show 0 + (Code.func _ eg).cUnits≤20; exact (by decide:0 + 3≤20)) (Nat.le_refl _)
  refine H0 hroom h0 I.rel fun w s₁ g₁ R₁ X₁ E₁=>?_
  obtain ⟨I₁,K₁⟩:=I.ext hX R₁ E₁
  cases X₁
  · refine seg_execs_cons (seg_While fun p=>?_)
    exact ZDl hX hA H1 H2 H3 H4 hco hi rfl rfl (fun n s₀ s h=>seg_execs_nil (env:=eg) (seg_end (.ok (.ret .none)) h)) G rfl g₁ s₁ s I₁ K₁
end
end Mine
end
noncomputable section
open PySem PySem.Calls PyProof.Rows PySem.W
namespace Mine
section
variable {c:Cx} {r:Nat} {env env' eg:Env} {A:Around} {σ σ' σ₁:St} {g g' g₁:Gh} {s s' s₁ s₂:Shared} {E:Value→Shared→Prop} {v w:Mine.V} {i:Id}
theorem Rel.view (R:Rel c env g σ s) (hV:∀ a,(g'.X a∨FA env' a) ↔ (g.X a∨FA env a)) (hW:g'.W=g.W) (hc:g'.cs=g.cs) {l:List (Nat×Mine.V)} {m:Str→Option Value} (hn:s.heap.Ns env'.locals m) (hl:Qp c env' (Mine.Fz env' g' s.heap) g'.rho l m):Rel c env' g' { σ with loc:=l } s:=by
  have kr:∀ i a,g.rho i=some a→g'.rho i=some a:=fun i a z=>by unfold Gh.rho at z ⊢; rw [hc]; exact z
  have kF:∀ a o,Mine.Fz env g s.heap a o→Mine.Fz env' g' s.heap a o:=fun a o z=>⟨z.1,hW▸z.2.1,fun q=>((hV a).mp (.inl q)).elim z.2.2.1 z.2.2.2,fun q=>((hV a).mp (.inr q)).elim z.2.2.1 z.2.2.2⟩
  have hx:∀ a,(g.X a∨FA env a)→∃ o,s.heap.get? a=some o:=fun a q=>q.elim (R.xob a) (R.fob a)
  have hd:∀ a,g'.W a→¬ (g.X a∨FA env a):=fun a w q=>q.elim (R.dis a (hW▸w)).1 (R.dis a (hW▸w)).2
  exact ⟨⟨fun a o e=>kF _ _ (R.kin a o e),fun a w=>R.wob a (hW▸w),fun a q=>hx a ((hV a).mp (.inl q)),fun a q=>hx a ((hV a).mp (.inr q)),fun a w=>⟨fun q=>hd a w ((hV a).mp (.inl q)),fun q=>hd a w ((hV a).mp (.inr q))⟩,⟨m,hn,hl⟩,
    fun id ob e=>(R.obs id ob e).imp fun _=>Exists.imp fun _ z=>⟨hc▸z.1,z.2.mono kF kr fun _ z=>z⟩,fun id r o e=>hW▸R.cW id r o (hc▸e),fun id id' r o r' e e'=>R.inj id id' r o r' (hc▸e) (hc▸e'),fun k e=>hc▸R.nx k e,fun k e=>hc▸R.ps k e⟩,R.pos⟩
end
end Mine
end
noncomputable section
open PySem PySem.Calls PyProof.Rows PySem.W
namespace Mine
section
variable {c:Cx} {r:Nat} {env env' eg cenv:Env} {A:Around} {σ σ' σ₁:St} {g g' g₁:Gh} {s s' s₁ s₂ s₄:Shared} {E:Value→Shared→Prop} {v w:Mine.V} {i:Id}
structure Kpp (X0:Addr→Prop) (K:Addr) (gi:Nat) (s s':Shared):Prop where
  keep:∀ a o,X0 a→a≠K→s.heap.get? a=some o→s'.heap.get? a=some o
  ns:∃ mm,s'.heap.Ns K mm
  os:s'.os=s.os
  bare:∀ j y,j≠gi→s'.gens[j]?=some y→y.bare=true
theorem GInv.toksGens {X0 Y0:Addr→Prop} {r0 r9:Addr} (I:GInv c eg X0 Y0 r0 r9 σ g s) (h:s'.heap=s.heap) (ht:s'.toks=s.toks):GInv c eg X0 Y0 r0 r9 σ g s':=
  ⟨⟨h▸I.rel.toRel0,ht▸I.rel.pos⟩,I.X,I.r0,I.r9,fun a z=>h▸I.nY a z⟩
theorem YD {gs:Array GenState} {gi:Nat} {x:GenState} (h:∀ j y,j≠gi→gs[j]?=some y→y.bare=true):∀ j y,j≠gi→(gs.setIfInBounds gi x)[j]?=some y→y.bare=true:=fun j y hj e =>
  h j y hj ((Array.getElem?_setIfInBounds_ne (fun q=>hj q.symm)).symm.trans e)
theorem Bj {gs gs':Array GenState} {gi:Nat} {x y:GenState} (h:gs'=gs.setIfInBounds gi y) (hlt:gi < gs.size):(gs'.setIfInBounds gi x)[gi]?=some x:=
  Array.getElem?_setIfInBounds_self_of_lt (by rw [h,Array.size_setIfInBounds]; exact hlt)
theorem ZFT {tot dn l:List Mine.V} (h:tot=dn++l) (hl:tot.length < JB):dn.length≤sizeLine:=
  Nat.le_trans (by rw [h,List.length_append]; exact Nat.le_add_right _ _:dn.length≤tot.length) (Nat.le_trans (Nat.le_of_lt hl) (by rw [sizeLine_eq]; exact Nat.le_refl _))
theorem ZEg {X0 Y0:Addr→Prop} {r0 L:Addr} {dn:List Mine.V} {v:Value} {Q:Value→Shared→Prop} (I:GInv c eg X0 Y0 r0 L σ g s) (hd:JA σ.hp (.p 99)=some (.list dn)) (hv:VR c (Mine.Fz eg g s.heap) g.rho w v) (hb:dn.length≤sizeLine)
    (N:∀ h₃,(∀ a o,Y0 a→s.heap.get? a=some o→h₃.get? a=some o)→GInv c eg X0 Y0 r0 L (σ.setOb (.p 99) (.list (dn++[w]))) g { s with heap:=h₃ }→Q .none { s with heap:=h₃ }):wpAny c.M A (call (.builtin "list.append") [.ref L,v]) Q E s:=by
  obtain ⟨items,n,hcs,hi,hvs⟩:=UU I.rel hd I.r9
  refine wpAny_list_append_plain (items:=items) ⟨n,hi⟩ (fun h₃ hl₃ hs₃=>?_) (by rw [Jg hvs]; exact hb)
  obtain ⟨n',hl₃⟩:=hl₃
  have hk:∀ b p,¬ b=L→s.heap.get? b=some p→h₃.get? b=some p:=fun b p hb e=>(hs₃.2 b hb).trans e
  have hW:=I.rel.cW _ _ _ hcs
  have hY:∀ a o,Y0 a→s.heap.get? a=some o→h₃.get? a=some o:=fun a o ha=>hk a o fun e=>(I.nY a ha).1 (e▸hW)
  exact N h₃ hY ⟨⟨I.rel.toRel0.setOb hcs (.of hk fun e=>(I.rel.dis L hW).2 e.symm) ⟨_,hl₃⟩ fun kF=>⟨rfl,_,n',hl₃,by rw [Array.toList_push]; exact (hvs.mono kF fun _ _ z=>z).append (.cons (hv.mono kF fun _ _ z=>z) .nil)⟩,I.rel.pos⟩,I.X,I.r0,I.r9,fun a ha=>⟨(I.nY a ha).1,(I.nY a ha).2.imp fun o e=>hY a o ha e⟩⟩
inductive GLI (c:Cx) (eg:Env) (A:Around) (X0 Y0:Addr→Prop) (r0 L K gi:Nat) (tot:List Mine.V) (σe:St) (s₄:Shared) (n:Nat) (s:Shared):Prop
  | mk (g:Gh) (σ:St) (dn rest:List Mine.V) (gs:GenState) (hn:n=rest.length + 1) (I:GInv c eg X0 Y0 r0 L σ g s) (hd:JA σ.hp (.p 99)=some (.list dn)) (K:Kpp Y0 K gi s₄ s) (hg:s.gens[gi]?=some gs)
      (go:∀ g'' s'',GInv c eg X0 Y0 r0 L σ g'' s''→gs.Goes c.M A.in1 (Up c eg X0 Y0 r0 L tot σe) (Uo c eg X0 Y0 r0 L tot) rest.length (.send .none) s'')
theorem ZBK {x:Nat} {ep px:Pos} {it:Expr} {scope:Scope} {pos:Pos} {X0 Y0:Addr→Prop} {r0 L K GO gi:Nat} {tot:List Mine.V} {σe:St} {Post:Result→Shared→Prop} (O:c.Ok) (VV:EnvOk cenv) (hK:cenv.locals=K) (hkx:cenv.kindOf (c.nm x)=some .local)
    (hh:A.handled=none) (hd:A.depth < recursionLimit) (hX:∀ a,Y0 a→¬ FA eg a) (hXK:X0 K) (hYK:Y0 K) (hXG:Y0 GO) (hGK:GO≠K) (htot:tot.length < JB)
    (hGen:s₄.heap.IsGen GO gi)
    (fin:∀ g' s',GInv c eg X0 Y0 r0 L σe g' s'→JA σe.hp (.p 99)=some (.list tot)→Kpp Y0 K gi s₄ s'→AllBare s'.gens→Post (.ok .next) s')
    (I0:GLI c eg A X0 Y0 r0 L K gi tot σe s₄ (tot.length + 1) s₄) :
    codeAny c.M A (.compLoop (.ListComp (.Name (c.nm x) ep) [⟨.Name (c.nm x) px,it,[],0⟩] scope pos) 0 (.ref GO) (.ref L) cenv) Post s₄:=by
  refine codeAny_compLoop_tests (I:=GLI c eg A X0 Y0 r0 L K gi tot σe s₄) (fun n s I=>?_) (tot.length + 1) I0 (fun _=>rfl)
  cases I with
  | mk g σ dn rest gs hn I hdn hK1 hg1 hgo1 =>
    have hGs:s.heap.IsGen GO gi:=by
      obtain ⟨o,nm,qn,ho,q⟩:=hGen
      exact ⟨o,nm,qn,hK1.keep _ _ hXG hGK ho,q⟩
    have hlt:gi < s.gens.size:=(Array.getElem?_eq_some_iff.mp hg1).1
    obtain ⟨mm,hmm⟩:=hK1.ns
    refine wpAny_pyNext_gen (Y:=Uo c eg X0 Y0 r0 L tot) (P:=Ia c eg X0 Y0 r0 L tot σe) (n:=rest.length) hh (O.noLimit I.rel) hd hGs hg1 (hgo1 g _ (I.toksGens rfl rfl)) (fun v s₁ gs' hY=>?_) (fun s₁ hP h' hk'=>?_)
    · obtain ⟨g₁,σ₁,w,dn',rest',I₁,hdn',ht',hrl,hv,hKp,hkap⟩:=hY
      have hkg:s₁.gens=s.gens.setIfInBounds gi .running:=congrArg Prod.fst hKp.2
      have hXg:∀ a,X0 a→g₁.X a:=fun a h=>by rw [I₁.X]; exact h
      have hmm1:(s₁.setGen gi gs').heap.Ns cenv.locals mm:=hK▸hmm.at fun p e=>hKp.1 _ _ hYK e
      -- the name takes the value
      refine wpAny_assign_Name (wpAny_storeName_local hkx hmm1 (fun h₂ hn₂ hs₂=>?_) (by rw [VV.kind]; rfl))
      rw [List.forIn_nil]
      refine wpAny_pure ?_
      rw [if_pos rfl]
      refine wpAny_Name (wpAny_loadName_local VV.kind hkx hn₂ (v:=v) (if_pos rfl) ?_) (O.noDbg x)
      rw [hK] at hn₂ hs₂
      have hk₂:∀ b p,¬ b=K→(s₁.setGen gi gs').heap.get? b=some p→h₂.get? b=some p:=fun b p hb e=>(hs₂.2 b hb).trans e
      have R₂:Rel c eg g₁ σ₁ { s₁.setGen gi gs' with heap:=h₂,toks:=(s₁.setGen gi gs').toks + 1 }:=(I₁.toksGens (s':=s₁.setGen gi gs') rfl rfl).rel.changed (D:=(·=K)) (fun a e=>hXg a (e▸hXK)) hk₂ (fun a e=>let ⟨oK,_,_,h,_⟩:=hn₂; ⟨oK,e▸h⟩) (fun a e=>e▸hX K hYK) (Nat.succ_pos _)
      have hnY:∀ a,Y0 a→¬ g₁.W a∧∃ o,h₂.get? a=some o:=fun a ha=>⟨(I₁.nY a ha).1,by
        by_cases hb:a=K
        · obtain ⟨oK,_,_,h,_⟩:=hn₂
          exact ⟨oK,hb▸h⟩
        · exact (I₁.nY a ha).2.imp fun o e=>hk₂ a o hb e⟩
      refine ZEg ⟨R₂,I₁.X,I₁.r0,I₁.r9,hnY⟩ hdn' (hv.mono (fun a o z=>⟨hk₂ _ _ (fun q=>z.2.2.1 (q▸hXg K hXK)) z.1,z.2⟩) fun _ _ z=>z) (ZFT ht' htot) fun h₃ hk₃ I₃=>?_
      cases rest with
      | nil=>exact (hkap g₁ _ I₃).elim
      | cons w0 r0' =>
        exact ⟨rest'.length + 1,by rw [hn,hrl]; exact Nat.lt_succ_self _,.mk g₁ _ (dn'++[w]) rest' gs' rfl I₃ ((QD _ _ _ _).trans (if_pos rfl))
          ⟨fun a o ha hne e=>hk₃ _ _ ha (hk₂ _ _ hne (hKp.1 _ _ ha (hK1.keep _ _ ha hne e))),⟨_,hn₂.at fun p e=>hk₃ _ _ hYK e⟩,(congrArg Prod.snd hKp.2).trans hK1.os,YD (gs:=s₁.gens) (hkg▸YD hK1.bare)⟩ (Bj hkg hlt)
          fun g'' s'' I''=>hrl.symm▸hkap g'' s'' I''⟩
    · obtain ⟨g₁,I₁,hKp,h9⟩:=hP
      have hkg:s₁.gens=s.gens.setIfInBounds gi .running:=congrArg Prod.fst hKp.2
      have hbr:∀ j y,j≠gi→(s₁.gens.setIfInBounds gi .finished)[j]?=some y→y.bare=true:=YD (hkg▸YD hK1.bare)
      refine fin g₁ _ ⟨I₁.rel.grow hk' I₁.rel.pos,I₁.X,I₁.r0,I₁.r9,fun a ha=>⟨(I₁.nY a ha).1,(I₁.nY a ha).2.imp fun o e=>hk' a o e⟩⟩ h9 ⟨fun a o ha hne e=>hk' _ _ (hKp.1 _ _ ha (hK1.keep _ _ ha hne e)),⟨mm,hmm.at fun p e=>hk' _ _ (hKp.1 _ _ hYK e)⟩,(congrArg Prod.snd hKp.2).trans hK1.os,hbr⟩ fun y hy=>?_
      obtain ⟨j,hj⟩:=Array.getElem?_of_mem hy
      by_cases hji:j=gi
      · subst hji
        cases (Bj (x:=.finished) hkg hlt).symm.trans hj; rfl
      · exact hbr j y hji hj
end
end Mine
end
noncomputable section
open PySem PySem.Calls PyProof.Rows PySem.W
namespace Mine
noncomputable def gX1 (g:Gh) (GL GO L:Addr):Addr→Prop:=fun b=>g.X b∨b=GL∨b=GO∨b=L + 1
noncomputable def gX0 (g:Gh) (el GO L:Addr):Addr→Prop:=fun b=>g.X b∨b=GO∨b=L + 1∨b=el
theorem Hf {p q r s t:Prop}:((p∨q∨r∨s)∨t) ↔ ((p∨t∨q∨r)∨s):=
  ⟨fun h=>h.elim (fun h=>h.elim (fun h=>.inl (.inl h)) fun h=>h.elim (fun h=>.inl (.inr (.inr (.inl h)))) fun h=>h.elim (fun h=>.inl (.inr (.inr (.inr h)))) .inr) fun h=>.inl (.inr (.inl h)),
    fun h=>h.elim (fun h=>h.elim (fun h=>.inl (.inl h)) fun h=>h.elim .inr fun h=>h.elim (fun h=>.inl (.inr (.inl h))) fun h=>.inl (.inr (.inr (.inl h)))) fun h=>.inl (.inr (.inr (.inr h)))⟩
section
variable {c:Cx} {r:Nat} {env env' eg cenv:Env} {A:Around} {σ σ' σ₁ σG σe:St} {g g' g₁:Gh} {s s' s₁ s₂:Shared} {E:Value→Shared→Prop} {Q:Flow→Shared→Prop} {v w:Mine.V} {i:Id} {GL GO L a:Addr} {mG:Str→Option Value}
theorem VR.all {F F':Addr→Obj→Prop} {ρ ρ':Id→Option Addr} {v:Mine.V} {x:Value} (hF:∀ a o,F a o→F' a o) (h:VR c F ρ v x):(∀ i,V.no i v=true)→VR c F' ρ' v x:=
  VR.rec (motive_1:=fun v x _=>(∀ i,V.no i v=true)→VR c F' ρ' v x) (motive_2:=fun l xs _=>(∀ i,V.nos i l=true)→VRs c F' ρ' l xs) (fun _=>.none) (fun b _=>.bool b) (fun n t _=>.int n t) (fun s t _=>.str s t) (fun a b d _ e h=>.tup (hF _ _ a) b d (e h)) (fun a _ e h=>.list (hF _ _ a) (e h))
    (fun a b d _ f e h=>.dict (hF _ _ a) b d (e h) f) (fun {j a} _ h=>(of_decide_eq_true (h j) rfl).elim) (fun f _=>.fn f) (fun a _=>.rng (hF _ _ a)) (fun a _ b h=>.meth (hF _ _ a) (b h)) (fun _=>.nil) (fun _ _ a b h=>.cons (a fun i=>bA (h i) fun p _=>p) (b fun i=>bA (h i) fun _ p=>p)) h
structure GCells (c:Cx) (env:Env) (g:Gh) (σ:St) (s:Shared) (GL GO L:Addr) (mG:Str→Option Value) (s':Shared):Prop where
  R:Rel c env g σ s
  kk:∀ b p,s.heap.get? b=some p→s'.heap.get? b=some p
  hGL:GL=s.heap.objs.size
  hGO:GL < GO
  hL:GO < L
  oGL:s'.heap.Ns GL mG
  oGO:∃ o,s'.heap.get? GO=some o
  oL:IsL s'.heap L #[] 0
  oK:∃ o,s'.heap.get? (L + 1)=some o
  pos:0 < s'.toks
theorem GCells.lt (G:GCells c env g σ s GL GO L mG s') {b:Addr} {p:Obj} (e:s.heap.get? b=some p):b < GL:=G.hGL▸Heap.lt_size e
theorem GCells.xlt (G:GCells c env g σ s GL GO L mG s') {b:Addr} (h:g.X b):b < GL:=let ⟨_,e⟩:=G.R.xob b h; G.lt e
theorem GCells.elt (G:GCells c env g σ s GL GO L mG s'):env.locals < GL:=let ⟨_,e⟩:=G.R.fob _ rfl; G.lt e
theorem GCells.nEg (G:GCells c env g σ s GL GO L mG s') (h:eg.locals=GL) (b:Addr) (hb:gX0 g env.locals GO L b):¬ FA eg b:=fun q=>by
  cases (show b=GL from Eq.trans q h)
  exact hb.elim (fun h=>Nat.lt_irrefl _ (G.xlt h)) fun hb=>hb.elim (Nat.ne_of_lt G.hGO) fun hb=>hb.elim (Nat.ne_of_lt (Nat.lt_succ_of_lt (Nat.lt_trans G.hGO G.hL))) (Nat.ne_of_gt G.elt)
noncomputable abbrev gY0 (env:Env) (g:Gh) (s:Shared) (GO L:Addr):Addr→Prop:=fun b=>gX0 g env.locals GO L b∨∃ o,Mine.Fz env g s.heap b o
noncomputable abbrev gG (g:Gh) (el GO L:Addr):Gh:={ (g.add (.p 99) L L) with X:=gX0 g el GO L }
theorem ZEf (G:GCells c env g σ s GL GO L mG s') (hnop:99 ∉ σ.ps) (hself:∃ x,mG (c.nm 0)=some x∧VR c (Mine.Fz env g s.heap) g.rho (.obj (.t 0)) x) (ha:g.rho (.t 0)=some a) (hl:eg.locals=GL) (hk0:eg.kindOf (c.nm 0)=some .local)
    (hσG:σG.loc=[(0,.obj (.t 0))]∧(∀ i o,JA σG.hp i=some o→JA ((Id.p 99,Ob.list []) :: σ.hp) i=some o)∧σ.nx≤σG.nx∧∀ k,k∈99 :: σ.ps→k∈σG.ps):GInv c eg (gX0 g env.locals GO L) (gY0 env g s GO L) a L σG (gG g env.locals GO L) s':=by
  have hGLL:=Nat.lt_trans G.hGO G.hL
  have RH:Rel c env (g.hid fun b=>b=GL∨b=GO∨b=L∨b=L + 1) σ s':=G.R.hide G.kk (fun b d=>by
      rw [← G.hGL]
      exact d.elim (fun d=>Nat.le_of_eq d.symm) fun d=>d.elim (fun d=>Nat.le_of_lt (d▸G.hGO)) fun d=>d.elim (fun d=>Nat.le_of_lt (d▸hGLL)) fun d=>Nat.le_of_lt (d▸Nat.lt_succ_of_lt hGLL))
    (fun b d=>d.elim (fun d=>d▸nsO G.oGL) fun d=>d.elim (fun d=>d▸G.oGO) fun d=>d.elim (fun d=>⟨_,d▸G.oL⟩) fun d=>d▸G.oK) G.pos
  have RL:Rel0 c env (({ g with X:=gX1 g GL GO L }:Gh).add (.p 99) L L) { σ with hp:=(.p 99,.list []) :: σ.hp,ps:=99 :: σ.ps } s'.heap:=
    Rel0.live (ob:=.list []) (X:=gX1 g GL GO L) RH.toRel0 (fun b h=>h.elim .inl fun h=>.inr (h.elim .inl fun h=>.inr (h.elim .inl fun h=>.inr (.inr h)))) (.inr (.inr (.inr (.inl rfl))))
      (fun h=>h.elim (fun h=>Nat.lt_asymm (G.xlt h) hGLL) fun h=>h.elim (Nat.ne_of_gt hGLL) fun h=>h.elim (Nat.ne_of_gt G.hL) fun h=>Nat.ne_of_lt (Nat.lt_succ_self L) h) (fun h=>Nat.lt_asymm (show L < GL from (show L=env.locals from h)▸G.elt) hGLL)
      (G.R.ps 99 hnop) (fun kF kr=>⟨rfl,#[],0,G.oL,.nil⟩) ⟨rfl,rfl,Nat.le_refl _,fun k hk=>.tail _ hk,.head _⟩
  have r0:(gG g env.locals GO L).rho (.t 0)=some a:=(congrArg (Option.map Prod.fst) (show (g.add (.p 99) L L).cs (.t 0)=g.cs (.t 0) from rfl)).trans ha
  have RV:Rel c eg (gG g env.locals GO L) { ({ σ with hp:=(.p 99,.list []) :: σ.hp,ps:=99 :: σ.ps }:St) with loc:=[(0,.obj (.t 0))] } s':=
    Rel.view (g':=gG g env.locals GO L) (l:=[(0,.obj (.t 0))]) (⟨RL,G.pos⟩:Rel c env (({ g with X:=gX1 g GL GO L }:Gh).add (.p 99) L L) _ s') (fun b=>by
      show (gX0 g env.locals GO L b∨b=eg.locals) ↔ (gX1 g GL GO L b∨b=env.locals)
      rw [hl]; exact Hf) rfl rfl (hl▸G.oGL) fun i v e=>by
        by_cases e0:0=i
        · cases (if_pos e0).symm.trans e
          subst e0
          obtain ⟨x,hx,hr⟩:=hself
          obtain ⟨b,rfl,hb⟩:=hr.objR
          cases hb.symm.trans ha
          exact ⟨fun _=>⟨_,hx,.obj r0⟩,fun z=>nomatch hk0.symm.trans z⟩
        · exact nn ((if_neg e0).symm.trans e)
  exact ⟨RV.sub (fun i v e=>by rw [hσG.1] at e; exact e) hσG.2.1 hσG.2.2.1 hσG.2.2.2,rfl,r0,Gh.add_rho (g:={ g with X:=gX0 g env.locals GO L }),fun b hb=>hb.elim (fun h=>⟨fun w=>(RV.dis b w).1 h,RV.xob b h⟩) fun ⟨o,z⟩=>⟨fun w=>w.elim z.2.1 fun w=>Nat.lt_asymm (w▸G.lt z.1:L < GL) hGLL,o,G.kk b o z.1⟩⟩
theorem ZCb (O:c.Ok) (VV:EnvOk env) {n:Nat} {np:Pos} {tot:List Mine.V} {loc':List (Nat×Mine.V)} {mm:Str→Option Value} (G:GCells c env g σ s GL GO L mG s₁) (ha:g.rho (.t 0)=some a) (hl:eg.locals=GL) (hk:env.kindOf (c.nm n)=some .local) (I:GInv c eg (gX0 g env.locals GO L) (gY0 env g s GO L) a L σe g' s')
    (h9:JA σe.hp (.p 99)=some (.list tot)) (hnos:V.nos (.p 99) tot=true) (hkp:∀ b p,gY0 env g s GO L b→b≠L + 1→s.heap.get? b=some p→s'.heap.get? b=some p) (hmm:s'.heap.Ns (L + 1) mm)
    (hloc':∀ i v,JA loc' i=some v→JA σ.loc i=some v∧env.kindOf (c.nm i)=some .local∧(v=.obj (.t 0)∨∀ j,V.no j v=true))
    (N:∀ s'' g',gos s''=gos s'→Rel c env g' (({ σe with loc:=loc' }:St).sb 99 (.list tot) |>.setLoc n (.list tot)) s''→Q .next s'') :
    compPost c.M A E (some (assign (.Name (c.nm n) np) env)) (fun _ s'=>Q .next s') (.ref L) (L + 1) (.ok .next) s':=by
  obtain ⟨mloc,hmloc,hll⟩:=G.R.loc
  have RE:Rel c env { g' with X:=gX1 g GL GO L } { σe with loc:=loc' } s':=I.rel.view (g':={ g' with X:=gX1 g GL GO L }) (fun b=>by
      rw [I.X]
      show (gX1 g GL GO L b∨b=env.locals) ↔ (gX0 g env.locals GO L b∨b=eg.locals)
      rw [hl]; exact Hf.symm) rfl rfl (hmloc.at fun p e=>hkp _ p (.inl (.inr (.inr (.inr rfl)))) (Nat.ne_of_lt (Nat.lt_succ_of_lt (Nat.lt_trans G.elt (Nat.lt_trans G.hGO G.hL)))) e) fun i v e=>by
    obtain ⟨e1,e2,e3⟩:=hloc' i v e
    obtain ⟨y,hy,hyr⟩:=(hll i v e1).1 e2
    refine ⟨fun _=>⟨y,hy,?_⟩,fun z=>nomatch e2.symm.trans z⟩
    rcases e3 with rfl | hno
    · obtain ⟨b,rfl,hb⟩:=hyr.objR
      cases hb.symm.trans ha
      exact .obj I.r0
    · refine VR.all (fun b o z=>?_) hyr hno
      have hb:=G.lt z.1
      have h1:b < L:=Nat.lt_trans hb (Nat.lt_trans G.hGO G.hL)
      exact ⟨hkp b o (.inr ⟨o,z⟩) (Nat.ne_of_lt (Nat.lt_succ_of_lt h1)) z.1,(I.nY b (.inr ⟨o,z⟩)).1,fun q=>q.elim z.2.2.1 fun q=>q.elim (Nat.ne_of_lt hb) fun q=>q.elim (Nat.ne_of_lt (Nat.lt_trans hb G.hGO)) (Nat.ne_of_lt (Nat.lt_succ_of_lt h1)),z.2.2.2⟩
  obtain ⟨R',HL⟩:=YX RE (by exact h9) hnos
  have hK:gX1 g GL GO L (L + 1):=.inr (.inr (.inr rfl))
  have hGLL:=Nat.lt_trans G.hGO G.hL
  have hnK:¬ FA env (L + 1):=fun q=>Nat.lt_asymm (Nat.lt_succ_of_lt hGLL) (show L + 1 < GL from (show L + 1=env.locals from q)▸G.elt)
  show wpAny _ _ (assign (.Name (c.nm n) np) env (.ref L)) _ _ _
  refine wpAny_assign_Name (Ut O VV hk R' (HL L I.r9) fun s'' R'' E''=>⟨mm,hmm.at fun p e=>(E''.fz _ _ e (fun w=>(R'.dis _ w).1 hK) hnK).1,fun h' hs'=>?_⟩)
  have hkd:∀ b p,¬ b=L + 1→s''.heap.get? b=some p→h'.get? b=some p:=fun b p hb e=>(hs'.2 b hb).trans e
  exact N _ _ E''.gens (R''.drop (D:=(·=L + 1)) (X:=fun b=>g.X b∨b=GL∨b=GO) (s':={ s'' with heap:=h' }) (fun b h=>h.elim .inl fun h=>.inr (h.elim .inl fun h=>.inr (.inl h))) (fun b h=>h▸hK)
    (fun b h q=>h.elim (fun h=>Nat.lt_asymm (show L + 1 < GL from q▸G.xlt h) (Nat.lt_succ_of_lt hGLL)) fun h=>h.elim (fun h=>Nat.ne_of_lt (Nat.lt_succ_of_lt hGLL) (h.symm.trans q)) fun h=>Nat.ne_of_lt (Nat.lt_succ_of_lt G.hL) (h.symm.trans q)) hkd (fun b h=>h▸hnK) R''.pos)
theorem ZEk (O:c.Ok) (VV:EnvOk env) (VC:W4 env) {kn:Str→Option NameKind} (hkn:∀ x,env.kindOf x=kn x) {f x nt n:Nat} {ep px tp np pos spos:Pos} {scope:Scope} {fd:FuncData} {Cl:Nat} {fs:List (Nat×Mine.V)}
    {S0:Stmt} {t1 t2 t3 ye:Expr} {b2:List Stmt} {p1 p2 p3 yp epos:Pos} {C:Ora} {m:GenM} {m0:MS} {σG1:St} {tot:List Mine.V} {loc':List (Nat×Mine.V)}
    (hk:env.kindOf (c.nm n)=some .local) (hkt:env.kindOf (c.nm nt)=some .local) (hsc:Uu c scope kn x=true) (hsw:Wk (c.nm n) np (.ListComp (.Name (c.nm x) ep) [⟨.Name (c.nm x) px,.Name (c.nm nt) tp,[],0⟩] scope pos)=true)
    (hnI:findIn c.K (.ref (c.cA Cl)) "__iter__"=some (some (.ref (c.fA f)))) (hfI:typeIn c.K (.ref (c.fA f))=some (.type "function"))
    (G:GenAt c f fd [S0,.While t1 (QZ t2 t3 ye b2 p2 p3 yp epos) [] p1])
    (HG:∀ GL,JN c r (J1 fd GL (c.fA f)) S0 (exc C m0)∧JW c r (J1 fd GL (c.fA f)) t1 (tst C m.t1)∧JW c r (J1 fd GL (c.fA f)) t2 (tst C m.t2)∧JW c r (J1 fd GL (c.fA f)) t3 (tst C m.t3)∧JD c r (J1 fd GL (c.fA f)) ye (ev C m.e))
    (hr:JK A 2) (hrI:JK A.in1 (r + 2)) (ht:JA σ.loc nt=some (.obj (.t 0))) (hob:JA σ.hp (.t 0)=some (.inst Cl fs)) (hnop:99 ∉ σ.ps)
    (hσG:σG.loc=[(0,.obj (.t 0))]∧(∀ i o,JA σG.hp i=some o→JA ((Id.p 99,Ob.list []) :: σ.hp) i=some o)∧σ.nx≤σG.nx∧∀ k,k∈99 :: σ.ps→k∈σG.ps) (hG99:JA σG.hp (.p 99)=some (.list []))
    (h0:exc C m0 σG=some (.next,σG1)) (GRun:GR C m true σG1 [] tot σe) (htot:tot.length < JB) (hnos:V.nos (.p 99) tot=true)
    (hloc':∀ i v,JA loc' i=some v→JA σ.loc i=some v∧env.kindOf (c.nm i)=some .local∧(v=.obj (.t 0)∨∀ j,V.no j v=true))
    (R:Rel c env g σ s) (hAB:AllBare s.gens)
    (N:∀ s' g',s'.os=s.os→AllBare s'.gens→Rel c env g' (({ σe with loc:=loc' }:St).sb 99 (.list tot) |>.setLoc n (.list tot)) s'→Q .next s') :
    wpAny c.M A (exec (.Assign [.Name (c.nm n) np] (.ListComp (.Name (c.nm x) ep) [⟨.Name (c.nm x) px,.Name (c.nm nt) tp,[],0⟩] scope pos) spos) env) Q E s:=by
  obtain ⟨cl,F,-⟩:=Z2 O ⟨VV,VC,hkn⟩ hsc
  have hsw':swapsWith (.ListComp (.Name (c.nm x) ep) [⟨.Name (c.nm x) px,.Name (c.nm nt) tp,[],0⟩] scope pos) (some (.Name (c.nm n) np)) spos.line env=pure true:=by
    show (pure (env.blockKind==.function&&env.kindOf (c.nm n)==some .local&&np.line==pos.line&&!(scope.names.any fun (a,k)=>a==c.nm n&&(k==.local||k==.cell))):Sem Bool)=pure true
    have hb:(env.blockKind==ScopeKind.function)=true:=by unfold Env.blockKind; rw [VV.kind]; rfl
    exact bA hsw fun h1 h2=>by rw [hb,hk,h1,h2]; rfl
  rw [exec_Assign_Name_used _ _ _ _ hsw']
  refine wpAny_bind (wpAny_standAt (wpAny_bind ?_))
  show wpAny _ A (do let _ ← comprehension (.ListComp (.Name (c.nm x) ep) [⟨.Name (c.nm x) px,.Name (c.nm nt) tp,[],0⟩] scope pos) scope env _ (newList []) false (eval (.Name (c.nm nt) tp) env) (some (assign (.Name (c.nm n) np) env))) _ _ s
  refine wpAny_bind (wpAny_mono (wpAny_comprehension_free (Q:=fun _ s'=>Q .next s') (use:=some (assign (.Name (c.nm n) np) env)) rfl (fun _=>rfl) F.clos F.kind F.names ?_) (fun _ s' hq=>wpAny_pure (wpAny_pure hq)) fun _ _ e=>e)
  -- t
  obtain ⟨mloc,hmloc,hl⟩:=R.loc
  obtain ⟨tv,htv,htr⟩:=(hl nt _ ht).1 hkt
  refine wpAny_Name (wpAny_loadName_local VV.kind hkt hmloc htv ?_) (O.noDbg nt)
  obtain ⟨a,rfl,ha⟩:=htr.objR
  refine To O hnI hfI R hob ha (ZCc O G hr R fun s₂ GO mG kk₂ hGO hnsG hself hGen hgens hos₂ htk=>⟨"generator",_,hGen.typeIs,slot_gen_next.lookup,?_⟩)
  refine wpAny_newObj_type (wpAny_newFunctionEnv F.noCell (fun y hy=>nomatch hy) (fun h₁ hns₁ hsb₁=>?_) F.kind)
  have e2:(s₂.heap.push { cls:=.type "list",dict:=none,data:=.seq ([]:List Value).toArray }).objs.size=s₂.heap.objs.size + 1:=Heap.size_push ..
  dsimp only at hns₁ hsb₁ ⊢
  rw [e2] at hns₁ hsb₁ ⊢
  have hGOlt:GO < s₂.heap.objs.size:=by obtain ⟨o,_,_,ho,_⟩:=hGen; exact Heap.lt_size ho
  have kH:∀ b p,(s₂.heap.push { cls:=.type "list",dict:=none,data:=.seq ([]:List Value).toArray }).get? b=some p→h₁.get? b=some p:=fun b p e=>(hsb₁.2 b (Nat.ne_of_lt (e2▸Heap.lt_size e))).trans (Heap.get?_push_of_some _ e)
  have k1:∀ b p,s₂.heap.get? b=some p→h₁.get? b=some p:=fun b p e=>kH b p (Heap.get?_push_of_some _ e)
  have GC:GCells c env g σ s s.heap.objs.size GO s₂.heap.objs.size mG { s₂ with heap:=h₁,toks:=s₂.toks + ([]:List (Str×Value)).length }:=
    ⟨R,fun b p e=>k1 b p (kk₂ b p e),rfl,hGO,hGOlt,hnsG.keeps k1,hGen.imp fun o z=>z.elim fun _ z=>z.elim fun _ z=>k1 _ _ z.1,kH _ _ (Heap.get?_push_size _ rfl),let ⟨o,_,_,ho,_⟩:=hns₁; ⟨o,ho⟩,htk⟩
  have I0:=ZEf (eg:=J1 fd s.heap.objs.size (c.fA f)) GC hnop ⟨_,hself,.obj ha⟩ ha rfl G.plocal hσG
  have hX:∀ b,gY0 env g s GO s₂.heap.objs.size b→¬ FA (J1 fd s.heap.objs.size (c.fA f)) b:=fun b hb=>hb.elim (GC.nEg (eg:=J1 fd s.heap.objs.size (c.fA f)) rfl b) fun ⟨o,z⟩ q=>Nat.ne_of_lt (GC.lt z.1) q
  have hlK:env.locals≠s₂.heap.objs.size + 1:=Nat.ne_of_lt (Nat.lt_succ_of_lt (Nat.lt_trans GC.elt (Nat.lt_trans GC.hGO GC.hL)))
  have loop:codeAny c.M A (.compLoop (.ListComp (.Name (c.nm x) ep) [⟨.Name (c.nm x) px,.Name (c.nm nt) tp,[],0⟩] scope pos) 0 (.ref GO) (.ref s₂.heap.objs.size) (compEnvC scope cl (s₂.heap.objs.size + 1) env))
      (compPost c.M A E (some (assign (.Name (c.nm n) np) env)) (fun _ s'=>Q .next s') (.ref s₂.heap.objs.size) (s₂.heap.objs.size + 1)) { s₂ with heap:=h₁,toks:=s₂.toks + ([]:List (Str×Value)).length }:=
    ZBK (gi:=s.gens.size) (tot:=tot) (σe:=σe) O ⟨F.kind,VV.glob,VV.blt⟩ rfl (lookup_relabel_local F.hx) hr.1 (Nat.lt_of_le_of_lt (Nat.le_add_right _ _) hr.2.1) hX (.inr (.inr (.inl rfl))) (.inl (.inr (.inr (.inl rfl)))) (.inl (.inr (.inl rfl))) (Nat.ne_of_lt (Nat.lt_succ_of_lt hGOlt)) htot (hGen.keeps k1)
      (fun g' s' I h9 hkp hab=>let ⟨mm,hmm⟩:=hkp.ns; ZCb O VV GC ha rfl hk I h9 hnos (fun b p hb hne e=>hkp.keep _ _ hb hne (GC.kk _ _ e)) hmm hloc' fun s'' g' hg R''=>N s'' g' ((congrArg Prod.snd hg).trans (hkp.os.trans hos₂)) (by rw [show s''.gens=s'.gens from congrArg Prod.fst hg]; exact hab) R'')
      (.mk _ σG [] tot (.fresh (.func [S0,.While t1 (QZ t2 t3 ye b2 p2 p3 yp epos) [] p1] (J1 fd s.heap.objs.size (c.fA f)))) rfl I0 hG99 ⟨fun _ _ _ _ e=>e,⟨_,hns₁⟩,rfl,fun j y hj e=>hAB y (Array.mem_of_getElem? ((Array.getElem?_push.symm.trans (hgens▸e:(s.gens.push _)[j]?=some y)) |> fun q=>(if_neg hj).symm.trans q))⟩ (by
        show s₂.gens[s.gens.size]?=_
        rw [hgens,Array.getElem?_push_size])
        fun g'' s'' I''=>let ⟨H0,H1,H2,H3,H4⟩:=HG s.heap.objs.size; ⟨rfl,ZAW hX hrI H0 H1 H2 H3 H4 G.co (Dl ⟨G.kind,G.glob,G.blt⟩) h0 GRun I''⟩)
  exact codeAny_compStart_list loop (wpAny_pyIter_gen (hGen.keeps k1) loop)
end
end Mine
end
noncomputable section
namespace Mine
inductive Rz where
  | done (f:FL) (σ:St)
  | fail
  | v (x:Option V) (k:V→Rz)
  | b (x:Option Bool) (k:Bool→Rz)
  | c (x:Option (V×St)) (k:V→St→Rz)
  | f (x:Option (FL×St)) (k:FL→St→Rz)
  | l (x:Option (List V×St)) (k:List V→St→Rz)
  | o (x:Option Ob) (k:Ob→Rz)
  | g (b:Bool) (r:Rz)
noncomputable def sem:Rz→Option (FL×St)
  | .done f σ=>some (f,σ)
  | .fail=>none
  | .v x k=>bo x fun a=>sem (k a)
  | .b x k=>bo x fun a=>sem (k a)
  | .c x k=>bn x fun a σ=>sem (k a σ)
  | .f x k=>bn x fun a σ=>sem (k a σ)
  | .l x k=>bn x fun a σ=>sem (k a σ)
  | .o x k=>bo x fun a=>sem (k a)
  | .g b r=>gd b (sem r)
noncomputable def boK {α:Type} (x:Option α) (f:α→Rz):Rz:=match x with
  | some a=>f a
  | none=>.fail
noncomputable def noK {α:Type} (o:Option α) (x:Rz):Rz:=match o with
  | none=>x
  | some _=>.fail
noncomputable def WQ (σ:St) (v:V) (f:Id→List V→Rz):Rz:=match v with
  | .obj id=>.o (JA σ.hp id) fun o=>match o with
    | .list l=>f id l
    | _=>.fail
  | _=>.fail
noncomputable def Ua (σ:St) (C:Nat) (v:V) (f:Id→List (Nat×V)→Rz):Rz:=match v with
  | .obj id=>.o (JA σ.hp id) fun o=>match o with
    | .inst D fs=>.g (Nat.beq D C) (f id fs)
    | _=>.fail
  | _=>.fail
noncomputable def Dg (v:V) (f:Nat→V→Rz):Rz:=match v with
  | .meth g s=>f g s
  | _=>.fail
noncomputable def ZB (v:V) (f:V→Rz):Rz:=match v with
  | .fn k=>f (.fn k)
  | _=>.fail
noncomputable def K2 (v:V) (f:List Nat→Rz):Rz:=match v with
  | .str s=>f s
  | _=>.fail
noncomputable def K3 (v:V) (f:Int→Rz):Rz:=match v with
  | .int s=>f s
  | _=>.fail
noncomputable def ifK (c:Bool) (t f:Rz):Rz:=match c with
  | true=>t
  | false=>f
noncomputable def IV (z:Bool) (l:List V) (k:V→List V→Rz):Rz:=match z with
  | false=>.g (Nat.ble l.length JB) (boK l.getLast? fun y=>k y l.dropLast)
  | true=>(match l with
    | []=>.fail
    | y :: l=>.g (Nat.blt l.length JB) (k y l))
noncomputable def saK (σ:St) (n C:Nat) (o v:V) (f:St→Rz):Rz:=Ua σ C o fun id fs=>.g (Nat.blt fs.length 400) (f (σ.setOb id (.inst C (put fs n v))))
noncomputable def siK (σ:St) (o i v:V) (f:St→Rz):Rz:=match o with
  | .obj id=>.o (JA σ.hp id) fun b=>match b with
    | .dict ks vs=>K2 i fun x=>boK (Qj ks vs x) fun _=>.g (Nat.ble ks.length 1000) (f (σ.setOb id (.dict ks (Wn ks vs x v))))
    | .list l=>K3 i fun k=>.g (Nat.ble l.length JB) (boK (Qn l.length k) fun j=>.g (Nat.blt j l.length) (f (σ.setOb id (.list (l.set j v)))))
    | .inst _ _=>.fail
  | _=>.fail
noncomputable def BE (σ:St) (v:V) (f:List V→Rz):Rz:=match v with
  | .list l=>f l
  | .obj id=>WQ σ (.obj id) fun _ l=>f l
  | _=>.fail
noncomputable def ZX (σ:St) (o:Bop) (a b:V) (f:V→St→Rz):Rz:=match a with
  | .int i=>.v (Jo σ o (.int i) b) fun w=>f w σ
  | .str s=>.v (Jo σ o (.str s) b) fun w=>f w σ
  | .obj id=>.g (decide (o=.add)) (WQ σ (.obj id) fun id l=>BE σ b fun l'=>.g (Nat.ble (l.length + l'.length) JB) (f (.obj id) (σ.setOb id (.list (l++l')))))
  | _=>.fail
noncomputable def OH (m:Bool) (x:Option V) (k:V→Rz):Rz:=match m with
  | true=>.v x k
  | false=>boK x k
mutual
noncomputable def evK (m:Bool) (C:Ora):ME→St→(V→St→Rz)→Rz
  | .k v=>fun σ k=>k v σ
  | .glob v=>fun σ k=>k v σ
  | .loc n=>fun σ k=>OH m (JA σ.loc n) fun v=>k v σ
  | .attr e n D=>fun σ k=>evK m C e σ fun v σ₁=>Ua σ₁ D v fun _ fs=>boK (JA fs n) fun w=>k w σ₁
  | .bm e n D f=>fun σ k=>evK m C e σ fun v σ₁=>Ua σ₁ D v fun id fs=>noK (JA fs n) (k (.meth f (.obj id)) σ₁)
  | .cat e n D i=>fun σ k=>evK m C e σ fun v σ₁=>Ua σ₁ D v fun _ fs=>noK (JA fs n) (k (.int i) σ₁)
  | .call f as=>fun σ k=>evsK m C as σ fun vs σ₁=>.c (C f vs σ₁) k
  | .mcall e n D f as=>fun σ k=>evK m C e σ fun v σ₁=>Ua σ₁ D v fun id fs=>noK (JA fs n) (evsK m C as σ₁ fun vs σ₂=>.c (C f (.obj id :: vs) σ₂) k)
  | .fcall e n D as=>fun σ k=>evK m C e σ fun v σ₁=>Ua σ₁ D v fun _ fs=>boK (JA fs n) fun w=>Dg w fun f self=>evsK m C as σ₁ fun vs σ₂=>.c (C f (self :: vs) σ₂) k
  | .new D f as lv=>fun σ k=>evsK m C as σ fun vs σ₁=>.c (σ₁.alloc lv (.inst D [])) fun v σ₂=>.c (C f (v :: vs) σ₂) fun r σ₃=>.g (Dz r) (k v σ₃)
  | .bi b as=>fun σ k=>evsK m C as σ fun vs σ₁=>.v (biV σ₁ b vs) fun w=>k w σ₁
  | .sm w e as=>fun σ k=>evK m C e σ fun v σ₁=>K2 v fun s=>evsK m C as σ₁ fun vs σ₂=>.v (smV σ₂ w s vs) fun u=>k u σ₂
  | .app e x=>fun σ k=>evK m C e σ fun v σ₁=>WQ σ₁ v fun id _=>evK m C x σ₁ fun y σ₂=>WQ σ₂ (.obj id) fun _ l=>.g (Nat.ble l.length JB) (k .none (σ₂.setOb id (.list (l++[y]))))
  | .pop e as=>fun σ k=>evK m C e σ fun v σ₁=>WQ σ₁ v fun id l=>boK (DI as) fun z=>IV z l fun y l'=>k y (σ₁.setOb id (.list l'))
  | .cmp o l r=>fun σ k=>evK m C l σ fun a σ₁=>evK m C r σ₁ fun b σ₂=>.b (Wr σ₂ o a b) fun c=>k (.bool c) σ₂
  | .cmp2 o₁ o₂ l w r=>fun σ k=>evK m C l σ fun a σ₁=>evK m C w σ₁ fun b σ₂=>.b (QB σ₂ o₁ a b) fun c=>ifK c (evK m C r σ₂ fun d σ₃=>.b (QB σ₃ o₂ b d) fun c=>k (.bool c) σ₃) (k (.bool false) σ₂)
  | .bop o l r=>fun σ k=>evK m C l σ fun a σ₁=>evK m C r σ₁ fun b σ₂=>.v (Jo σ₂ o a b) fun w=>k w σ₂
  | .neg e=>fun σ k=>evK m C e σ fun v σ₁=>K3 v fun i=>k (.int (-i)) σ₁
  | .not e=>fun σ k=>evK m C e σ fun v σ₁=>.b (Jh σ₁ v) fun b=>k (.bool (!b)) σ₁
  | .and a b=>fun σ k=>evK m C a σ fun v σ₁=>.b (Jh σ₁ v) fun c=>ifK c (evK m C b σ₁ k) (k v σ₁)
  | .or a b=>fun σ k=>evK m C a σ fun v σ₁=>.b (Jh σ₁ v) fun c=>ifK c (k v σ₁) (evK m C b σ₁ k)
  | .ite t b o=>fun σ k=>evK m C t σ fun v σ₁=>.b (Jh σ₁ v) fun c=>ifK c (evK m C b σ₁ k) (evK m C o σ₁ k)
  | .sub e i=>fun σ k=>evK m C e σ fun v σ₁=>evK m C i σ₁ fun x σ₂=>.v (QR σ₂ v x) fun w=>k w σ₂
  | .sl e a b=>fun σ k=>evK m C e σ fun v σ₁=>evK m C a σ₁ fun x σ₂=>evK m C b σ₂ fun y σ₃=>.v (slV σ₃ v x y) fun w=>k w σ₃
  | .lst es lv=>fun σ k=>evsK m C es σ fun vs σ₁=>.c (σ₁.alloc lv (.list vs)) k
  | .tup es=>fun σ k=>evsK m C es σ fun vs σ₁=>k (.tup vs) σ₁
  | .dct ks es lv=>fun σ k=>evsK m C es σ fun vs σ₁=>.g (decide (ks.length=vs.length)&&decide ks.Nodup) (.c (σ₁.alloc lv (.dict ks vs)) k)
  | .comp elt x it cond=>fun σ k=>evK m C it σ fun v σ₁=>.l (bo (UH v) fun l=>some (l,σ₁)) fun l _=>.g (Nat.ble l.length JB) (.l (Jv (Ji (ev C elt) (ev C cond) x σ₁.loc) l σ₁) fun r σ₂=>k (.list r) σ₂)
  | .isb e=>fun σ k=>evK m C e σ fun v σ₁=>boK (Ul v) fun _=>k (.bool true) σ₁
  | .fat e _ w=>fun σ k=>evK m C e σ fun v σ₁=>ZB v fun _=>k w σ₁
  | .fmc e _ f as=>fun σ k=>evK m C e σ fun v σ₁=>ZB v fun v=>evsK m C as σ₁ fun vs σ₂=>.c (C f (v :: vs) σ₂) k
  | .inf l r f=>fun σ k=>evK m C l σ fun a σ₁=>evK m C r σ₁ fun b σ₂=>ZB b fun b=>.c (C f [b,a] σ₂) fun v σ₃=>boK (Ul v) fun q=>k (.bool q) σ₃
noncomputable def evsK (m:Bool) (C:Ora):List ME→St→(List V→St→Rz)→Rz
  | []=>fun σ k=>k [] σ
  | e :: r=>fun σ k=>evK m C e σ fun v σ₁=>evsK m C r σ₁ fun vs σ₂=>k (v :: vs) σ₂
end
noncomputable def Wi (m:Bool) (C:Ora) (e:ME) (σ:St) (k:Bool→St→Rz):Rz:=evK m C e σ fun v σ₁=>.b (Jh σ₁ v) fun b=>k b σ₁
noncomputable def HZ (f:FL) (go:Rz) (o:FL→Rz):Rz:=match f with
  | .next=>go
  | f=>o f
mutual
noncomputable def Ie (m:Bool) (C:Ora):MS→St→(FL→St→Rz)→Rz
  | .ex e=>fun σ k=>evK m C e σ fun v σ₁=>.g (Ig v) (k .next σ₁)
  | .asg n e=>fun σ k=>evK m C e σ fun v σ₁=>k .next (σ₁.setLoc n v)
  | .asgA t n D e=>fun σ k=>evK m C e σ fun v σ₁=>evK m C t σ₁ fun o σ₂=>saK σ₂ n D o v fun σ₃=>k .next σ₃
  | .asgS t i e=>fun σ k=>evK m C e σ fun v σ₁=>evK m C t σ₁ fun o σ₂=>evK m C i σ₂ fun x σ₃=>siK σ₃ o x v fun σ₄=>k .next σ₄
  | .asgT ns e=>fun σ k=>evK m C e σ fun v σ₁=>boK (Uy v) fun vs=>boK (Qy ns vs σ₁) fun σ₂=>k .next σ₂
  | .asgTA t₁ n₁ D₁ t₂ n₂ D₂ e=>fun σ k=>evK m C e σ fun v σ₁=>boK (NZ v) fun p=>evK m C t₁ σ₁ fun o₁ σ₂=>saK σ₂ n₁ D₁ o₁ p.1 fun σ₃=>evK m C t₂ σ₃ fun o₂ σ₄=>saK σ₄ n₂ D₂ o₂ p.2 fun σ₅=>k .next σ₅
  | .augN n o e=>fun σ k=>OH m (JA σ.loc n) fun a=>evK m C e σ fun b σ₁=>ZX σ₁ o a b fun c σ₂=>k .next (σ₂.setLoc n c)
  | .augA t n D o e=>fun σ k=>evK m C t σ fun x σ₁=>Ua σ₁ D x fun id fs=>boK (JA fs n) fun a=>evK m C e σ₁ fun b σ₂=>ZX σ₂ o a b fun c σ₃=>saK σ₃ n D (.obj id) c fun σ₄=>k .next σ₄
  | .augS t i o e=>fun σ k=>evK m C t σ fun x σ₁=>evK m C i σ₁ fun j σ₂=>.v (QR σ₂ x j) fun a=>evK m C e σ₂ fun b σ₃=>ZX σ₃ o a b fun c σ₄=>siK σ₄ x j c fun σ₅=>k .next σ₅
  | .iff t b o=>fun σ k=>Wi m C t σ fun c σ₁=>ifK c (exsK m C b σ₁ k) (exsK m C o σ₁ k)
  | .whl t b=>fun σ k=>.f (J0 (tst C t) (exs C b) Qc σ) k
  | .for x it b=>fun σ k=>evK m C it σ fun v σ₁=>.l (bo (UH v) fun l=>some (l,σ₁)) fun l _=>.f (QA (fun v σ=>some (σ.setLoc x v)) (exs C b) l σ₁) k
  | .forT xs it b=>fun σ k=>evK m C it σ fun v σ₁=>.l (bo (UH v) fun l=>some (l,σ₁)) fun l _=>.f (QA (fun v σ=>bo (Uy v) fun vs=>Qy xs vs σ) (exs C b) l σ₁) k
  | .ret e=>fun σ k=>evK m C e σ fun v σ₁=>k (.ret v) σ₁
  | .pass=>fun σ k=>k .next σ
  | .brk=>fun σ k=>k .brk σ
  | .cont=>fun σ k=>k .cont σ
  | .asrt e=>fun σ k=>Wi m C e σ fun c σ₁=>.g c (k .next σ₁)
  | .dead=>fun _ _=>.fail
  | .tryS b=>fun σ k=>exsK m C b σ k
noncomputable def exsK (m:Bool) (C:Ora):List MS→St→(FL→St→Rz)→Rz
  | []=>fun σ k=>k .next σ
  | s :: r=>fun σ k=>Ie m C s σ fun f σ₁=>HZ f (exsK m C r σ₁ k) fun f=>k f σ₁
end
noncomputable def Sim {α:Type} (m:(α→St→Rz)→Rz) (x:Option (α×St)):Prop:=∀ k,sem (m k)=bn x fun a σ=>sem (k a σ)
namespace Sim
variable {α β γ:Type} {x:Option (α×St)} {m:(α→St→Rz)→Rz} {σ:St}
theorem pure {a:α}:Sim (fun k=>k a σ) (some (a,σ)):=fun _=>rfl
theorem bind {M:(β→St→Rz)→Rz} {m':α→St→(β→St→Rz)→Rz} {x':α→St→Option (β×St)} (h:Sim m x) (h':∀ a σ,Sim (m' a σ) (x' a σ)) (e:M=fun k=>m fun a σ=>m' a σ k:=by rfl):Sim M (bn x x'):=fun k=>((congrArg sem (congrFun e k)).trans (h _)).trans (by
  cases x with
  | none=>rfl
  | some p=>exact h' _ _ k)
theorem av {x:Option V} {m':V→(β→St→Rz)→Rz} {x':V→Option (β×St)} (h':∀ a,Sim (m' a) (x' a)):Sim (fun k=>.v x fun a=>m' a k) (bo x x'):=fun k=>by
  cases x with
  | none=>rfl
  | some p=>exact h' _ k
theorem ab {x:Option Bool} {m':Bool→(β→St→Rz)→Rz} {x':Bool→Option (β×St)} (h':∀ a,Sim (m' a) (x' a)):Sim (fun k=>.b x fun a=>m' a k) (bo x x'):=fun k=>by
  cases x with
  | none=>rfl
  | some p=>exact h' _ k
theorem ac {x:Option (V×St)}:Sim (fun k=>.c x k) x:=fun _=>rfl
theorem af {x:Option (FL×St)}:Sim (fun k=>.f x k) x:=fun _=>rfl
theorem al {x:Option (List V×St)}:Sim (fun k=>.l x k) x:=fun _=>rfl
theorem ai {x:Option (List V)} {m':List V→(β→St→Rz)→Rz} {x':List V→Option (β×St)} (h':∀ a,Sim (m' a) (x' a)):Sim (fun k=>.l (bo x fun l=>some (l,σ)) fun l _=>m' l k) (bo x x'):=fun k=>by
  cases x with
  | none=>rfl
  | some p=>exact h' _ k
theorem gd {b:Bool} {m:(β→St→Rz)→Rz} {x:Option (β×St)} (h':Sim m x):Sim (fun k=>.g b (m k)) (gd b x):=fun k=>by
  cases b with
  | false=>rfl
  | true=>exact h' k
theorem bo {x:Option γ} {m':γ→(β→St→Rz)→Rz} {x':γ→Option (β×St)} (h':∀ a,Sim (m' a) (x' a)):Sim (fun k=>boK x fun a=>m' a k) (bo x x'):=fun k=>by
  cases x with
  | none=>rfl
  | some p=>exact h' _ k
theorem lo {m:Bool} {x:Option V} {m':V→(β→St→Rz)→Rz} {x':V→Option (β×St)} (h':∀ a,Sim (m' a) (x' a)):Sim (fun k=>OH m x fun a=>m' a k) (Mine.bo x x'):=by
  cases m
  · exact .bo h'
  · exact .av h'
theorem no {o:Option γ} {m:(β→St→Rz)→Rz} {x:Option (β×St)} (h':Sim m x):Sim (fun k=>noK o (m k)) (no o x):=fun k=>by
  cases o with
  | none=>exact h' k
  | some p=>rfl
theorem onO (x:Option Ob) (k:β→St→Rz) {m:Ob→Rz} {x':Ob→Option (β×St)} (h:∀ a,sem (m a)=bn (x' a) fun a σ=>sem (k a σ)):sem (.o x m)=bn (Mine.bo x x') fun a σ=>sem (k a σ):=by
  cases x with
  | none=>rfl
  | some p=>exact h p
theorem onList {v:V} {m':Id→List V→(β→St→Rz)→Rz} {x':Id→List V→Option (β×St)} (h':∀ i l,Sim (m' i l) (x' i l)):Sim (fun k=>WQ σ v fun i l=>m' i l k) (onList σ v x'):=fun k=>by
  cases v <;> first | rfl | skip
  exact onO (JA σ.hp _) k fun o=>by cases o <;> first | exact h' _ _ k | rfl
theorem onInst {C:Nat} {v:V} {m':Id→List (Nat×V)→(β→St→Rz)→Rz} {x':Id→List (Nat×V)→Option (β×St)} (h':∀ i l,Sim (m' i l) (x' i l)):Sim (fun k=>Ua σ C v fun i l=>m' i l k) (onInst σ C v x'):=fun k=>by
  cases v <;> first | rfl | skip
  exact onO (JA σ.hp _) k fun o=>by cases o <;> first | exact Sim.gd (h' _ _) k | rfl
theorem sa {n C:Nat} {o v:V} {m':St→(β→St→Rz)→Rz} {x':St→Option (β×St)} (h':∀ a,Sim (m' a) (x' a)):Sim (fun k=>saK σ n C o v fun a=>m' a k) (Mine.bo (WP σ n C o v) x'):=fun k=>by
  cases o <;> first | rfl | skip
  show sem (.o (JA σ.hp _) _)=bn (Mine.bo (Mine.bo (JA σ.hp _) _) x') _
  generalize JA σ.hp _=q
  cases q with
  | none=>rfl
  | some o =>
              cases o <;> first | rfl | skip
              rename_i D fs
              show sem (Rz.g (Nat.beq D C) (.g (Nat.blt fs.length 400) _))=bn (Mine.bo (Mine.gd (Nat.beq D C) (Mine.gd (Nat.blt fs.length 400) (some _))) x') _
              generalize Nat.beq D C=p; generalize Nat.blt fs.length 400=q
              cases p <;> first | rfl | skip
              cases q <;> first | rfl | exact h' _ k
theorem si {o i v:V} {m':St→(β→St→Rz)→Rz} {x':St→Option (β×St)} (h':∀ a,Sim (m' a) (x' a)):Sim (fun k=>siK σ o i v fun a=>m' a k) (Mine.bo (UZ σ o i v) x'):=fun k=>by
  cases o <;> first | rfl | skip
  show sem (.o (JA σ.hp _) _)=bn (Mine.bo (Mine.bo (JA σ.hp _) _) x') _
  generalize JA σ.hp _=q
  cases q with
  | none=>rfl
  | some o =>
              cases o <;> first | rfl | skip
              · rename_i l
                cases i <;> first | rfl | skip
                rename_i x
                show sem (.g (Nat.ble l.length JB) (boK (Qn l.length x) fun j=>.g (Nat.blt j l.length) _))=bn (Mine.bo (Mine.gd (Nat.ble l.length JB) (Mine.bo (Qn l.length x) fun j=>Mine.gd (Nat.blt j l.length) (some _))) x') _
                generalize Nat.ble l.length JB=p
                cases p <;> first | rfl | skip
                generalize Qn l.length x=q
                cases q <;> first | rfl | skip
                rename_i j
                show sem (.g (Nat.blt j l.length) _)=bn (Mine.bo (Mine.gd (Nat.blt j l.length) (some _)) x') _
                generalize Nat.blt j l.length=p
                cases p <;> first | rfl | exact h' _ k
              rename_i ks vs
              cases i <;> first | rfl | skip
              rename_i x
              show sem (boK (Qj ks vs x) fun _=>.g (Nat.ble ks.length 1000) _)=bn (Mine.bo (Mine.bo (Qj ks vs x) fun _=>Mine.gd (Nat.ble ks.length 1000) (some _)) x') _
              generalize Qj ks vs x=p; generalize Nat.ble ks.length 1000=q
              cases p <;> first | rfl | skip
              cases q <;> first | rfl | exact h' _ k
theorem onListOf {v:V} {m':List V→(β→St→Rz)→Rz} {x':List V→Option (β×St)} (h':∀ l,Sim (m' l) (x' l)):Sim (fun k=>BE σ v fun l=>m' l k) (Mine.onListOf σ v x'):=fun k=>by
  cases v <;> first | rfl | exact h' _ k | exact Sim.onList (σ:=σ) (v:=.obj _) (m':=fun _ l=>m' l) (x':=fun _ l=>x' l) (fun _ l=>h' l) k
theorem iop {o:Bop} {a b:V}:Sim (fun k=>ZX σ o a b k) (Xk σ o a b):=fun k=>by
  cases a <;> first | rfl | exact Sim.av (m':=fun w k=>k w σ) (fun _=>.pure) k | exact Sim.gd (.onList fun _ _=>.onListOf fun _=>.gd .pure) k
theorem onMeth {v:V} {m':Nat→V→(β→St→Rz)→Rz} {x':Nat→V→Option (β×St)} (h':∀ i l,Sim (m' i l) (x' i l)):Sim (fun k=>Dg v fun i l=>m' i l k) (onMeth v x'):=fun k=>by
  cases v <;> first | rfl | exact h' _ _ k
theorem onFn {v:V} {m':V→(β→St→Rz)→Rz} {x':V→Option (β×St)} (h':∀ i,Sim (m' i) (x' i)):Sim (fun k=>ZB v fun i=>m' i k) (onFn v x'):=fun k=>by
  cases v <;> first | rfl | exact h' _ k
theorem onStr {v:V} {m':List Nat→(β→St→Rz)→Rz} {x':List Nat→Option (β×St)} (h':∀ i,Sim (m' i) (x' i)):Sim (fun k=>K2 v fun i=>m' i k) (onStr v x'):=fun k=>by
  cases v <;> first | rfl | exact h' _ k
theorem onInt {v:V} {m':Int→(β→St→Rz)→Rz} {x':Int→Option (β×St)} (h':∀ i,Sim (m' i) (x' i)):Sim (fun k=>K3 v fun i=>m' i k) (onInt v x'):=fun k=>by
  cases v <;> first | rfl | exact h' _ k
theorem pop {z:Bool} {l:List V} {m':V→List V→(β→St→Rz)→Rz} {x':V→List V→Option (β×St)} (h':∀ i l,Sim (m' i l) (x' i l)):Sim (fun k=>IV z l fun i l=>m' i l k) (Mine.bo (ZS z l) fun p=>x' p.1 p.2):=fun k=>by
  cases z with
  | true=>cases l with
    | nil=>rfl
    | cons y l =>
      show sem (Rz.g (Nat.blt l.length JB) _)=bn (Mine.bo (Mine.gd (Nat.blt l.length JB) (some (y,l))) _) _
      generalize Nat.blt l.length JB=q
      cases q
      · rfl
      · exact h' _ _ k
  | false =>
    show sem (Rz.g (Nat.ble l.length JB) (boK l.getLast? _))=bn (Mine.bo (Mine.gd (Nat.ble l.length JB) (Mine.bo l.getLast? fun y=>some (y,l.dropLast))) _) _
    generalize Nat.ble l.length JB=q
    generalize l.getLast?=o
    cases q
    · rfl
    · cases o
      · rfl
      · exact h' _ _ k
theorem if1 {c:Bool} {mt mf:(β→St→Rz)→Rz} {xt xf:Option (β×St)} (hf:Sim mf xf) (ht:Sim mt xt):Sim (fun k=>ifK c (mt k) (mf k)) (match c with | false=>xf | true=>xt):=fun k=>by
  cases c
  · exact hf k
  · exact ht k
theorem if2 {c:Bool} {mt mf:(β→St→Rz)→Rz} {xt xf:Option (β×St)} (ht:Sim mt xt) (hf:Sim mf xf):Sim (fun k=>ifK c (mt k) (mf k)) (match c with | true=>xt | false=>xf):=fun k=>by
  cases c
  · exact hf k
  · exact ht k
theorem sq {f:FL} {go:(FL→St→Rz)→Rz} {x:Option (FL×St)} (h:Sim go x):Sim (fun k=>HZ f (go k) fun f=>k f σ) (Xe f x σ):=fun k=>by
  cases f <;> first | exact h k | rfl
end Sim
section
variable (m:Bool) (C:Ora)
theorem Jt (e:ME):∀ σ,Sim (evK m C e σ) (ev C e σ):=
  ME.rec (motive_1:=fun e=>∀ σ,Sim (evK m C e σ) (ev C e σ)) (motive_2:=fun l=>∀ σ,Sim (evsK m C l σ) (evs C l σ))
    (fun _ _=>.pure) (fun _ _=>.lo fun _=>.pure) (fun _ _=>.pure)
    (fun _ _ _ h σ=>.bind (h σ) fun _ _=>.onInst fun _ _=>.bo fun _=>.pure)
    (fun _ _ _ _ h σ=>.bind (h σ) fun _ _=>.onInst fun _ _=>.no .pure)
    (fun _ _ _ _ h σ=>.bind (h σ) fun _ _=>.onInst fun _ _=>.no .pure)
    (fun _ _ h σ=>.bind (h σ) fun _ _=>.ac)
    (fun _ _ _ _ _ h h' σ=>.bind (h σ) fun _ _=>.onInst fun _ _=>.no (.bind (h' _) fun _ _=>.ac))
    (fun _ _ _ _ h h' σ=>.bind (h σ) fun _ _=>.onInst fun _ _=>.bo fun _=>.onMeth fun _ _=>.bind (h' _) fun _ _=>.ac)
    (fun _ _ _ _ h σ=>.bind (h σ) fun _ _=>.bind .ac fun _ _=>.bind .ac fun _ _=>.gd .pure)
    (fun _ _ h σ=>.bind (h σ) fun _ _=>.av fun _=>.pure)
    (fun _ _ _ h h' σ=>.bind (h σ) fun _ _=>.onStr fun _=>.bind (h' _) fun _ _=>.av fun _=>.pure)
    (fun _ _ h h' σ=>.bind (h σ) fun _ _=>.onList fun _ _=>.bind (h' _) fun _ _=>.onList fun _ _=>.gd .pure)
    (fun _ _ h _ σ=>.bind (h σ) fun _ _=>.onList fun _ _=>.bo fun _=>.pop fun _ _=>.pure)
    (fun _ _ _ h h' σ=>.bind (h σ) fun _ _=>.bind (h' _) fun _ _=>.ab fun _=>.pure)
    (fun _ _ _ _ _ h h' h'' σ=>.bind (h σ) fun _ _=>.bind (h' _) fun _ _=>.ab fun _=>.if1 .pure (.bind (h'' _) fun _ _=>.ab fun _=>.pure))
    (fun _ _ _ h h' σ=>.bind (h σ) fun _ _=>.bind (h' _) fun _ _=>.av fun _=>.pure)
    (fun _ h σ=>.bind (h σ) fun _ _=>.onInt fun _=>.pure)
    (fun _ h σ=>.bind (h σ) fun _ _=>.ab fun _=>.pure)
    (fun _ _ h h' σ=>.bind (h σ) fun _ _=>.ab fun _=>.if1 .pure (h' _))
    (fun _ _ h h' σ=>.bind (h σ) fun _ _=>.ab fun _=>.if2 .pure (h' _))
    (fun _ _ _ h h' h'' σ=>.bind (h σ) fun _ _=>.ab fun _=>.if2 (h' _) (h'' _))
    (fun _ _ h h' σ=>.bind (h σ) fun _ _=>.bind (h' _) fun _ _=>.av fun _=>.pure)
    (fun _ _ _ h h' h'' σ=>.bind (h σ) fun _ _=>.bind (h' _) fun _ _=>.bind (h'' _) fun _ _=>.av fun _=>.pure)
    (fun _ _ h σ=>.bind (h σ) fun _ _=>.ac)
    (fun _ h σ=>.bind (h σ) fun _ _=>.pure)
    (fun _ _ _ h σ=>.bind (h σ) fun _ _=>.gd .ac)
    (fun _ _ _ _ _ h _ σ=>.bind (h σ) fun _ _=>.ai fun _=>.gd (.bind .al fun _ _=>.pure))
    (fun _ h σ=>.bind (h σ) fun _ _=>.bo fun _=>.pure)
    (fun _ _ _ h σ=>.bind (h σ) fun _ _=>.onFn fun _=>.pure)
    (fun _ _ _ _ h h' σ=>.bind (h σ) fun _ _=>.onFn fun _=>.bind (h' _) fun _ _=>.ac)
    (fun _ _ _ h h' σ=>.bind (h σ) fun _ _=>.bind (h' _) fun _ _=>.onFn fun _=>.bind .ac fun _ _=>.bo fun _=>.pure)
    (fun _=>.pure) (fun _ _ h h' σ=>.bind (h σ) fun _ _=>.bind (h' _) fun _ _=>.pure) e
theorem KN (e:ME) (σ:St):Sim (Wi m C e σ) (tst C e σ):=.bind (Jt m C e σ) fun _ _=>.ab fun _=>.pure
theorem Kf (l:List MS):∀ σ,Sim (exsK m C l σ) (exs C l σ):=
  MS.rec_1 (motive_1:=fun e=>∀ σ,Sim (Ie m C e σ) (exc C e σ)) (motive_2:=fun l=>∀ σ,Sim (exsK m C l σ) (exs C l σ))
    (fun e σ=>.bind (Jt m C e σ) fun _ _=>.gd .pure) (fun _ e σ=>.bind (Jt m C e σ) fun _ _=>.pure)
    (fun t _ _ e σ=>.bind (Jt m C e σ) fun _ _=>.bind (Jt m C t _) fun _ _=>.sa fun _=>.pure)
    (fun t i e σ=>.bind (Jt m C e σ) fun _ _=>.bind (Jt m C t _) fun _ _=>.bind (Jt m C i _) fun _ _=>.si fun _=>.pure)
    (fun _ e σ=>.bind (Jt m C e σ) fun _ _=>.bo fun _=>.bo fun _=>.pure)
    (fun t _ _ t' _ _ e σ=>.bind (Jt m C e σ) fun _ _=>.bo fun _=>.bind (Jt m C t _) fun _ _=>.sa fun _=>.bind (Jt m C t' _) fun _ _=>.sa fun _=>.pure)
    (fun _ _ e σ=>.lo fun _=>.bind (Jt m C e σ) fun _ _=>.bind .iop fun _ _=>.pure)
    (fun t _ _ _ e σ=>.bind (Jt m C t σ) fun _ _=>.onInst fun _ _=>.bo fun _=>.bind (Jt m C e _) fun _ _=>.bind .iop fun _ _=>.sa fun _=>.pure)
    (fun t i _ e σ=>.bind (Jt m C t σ) fun _ _=>.bind (Jt m C i _) fun _ _=>.av fun _=>.bind (Jt m C e _) fun _ _=>.bind .iop fun _ _=>.si fun _=>.pure)
    (fun t _ _ h h' σ=>.bind (KN m C t σ) fun _ _=>.if2 (h _) (h' _))
    (fun _ _ _ _=>.af)
    (fun _ it _ _ σ=>.bind (Jt m C it σ) fun _ _=>.ai fun _=>.af)
    (fun _ it _ _ σ=>.bind (Jt m C it σ) fun _ _=>.ai fun _=>.af)
    (fun e σ=>.bind (Jt m C e σ) fun _ _=>.pure)
    (fun _=>.pure) (fun _=>.pure) (fun _=>.pure)
    (fun e σ=>.bind (KN m C e σ) fun _ _=>.gd .pure) (fun _ _=>rfl) (fun _ h σ=>h σ)
    (fun _=>.pure) (fun _ _ h h' σ=>.bind (h σ) fun _ _=>.sq (h' _)) l
end
noncomputable def fw:Nat→Rz→Rz
  | 0=>fun r=>r
  | n + 1=>fun r=>match r with
    | .done f σ=>.done f σ
    | .fail=>.fail
    | .v x k=>boK x fun a=>fw n (k a)
    | .b x k=>boK x fun a=>fw n (k a)
    | .o x k=>boK x fun a=>fw n (k a)
    | .c x k=>boK x fun p=>fw n (k p.1 p.2)
    | .f x k=>boK x fun p=>fw n (k p.1 p.2)
    | .l x k=>boK x fun p=>fw n (k p.1 p.2)
    | .g b r=>(match b with
      | true=>fw n r
      | false=>.fail)
noncomputable def hi {α:Type}:Option α:=(fun _:Rz=>none) (exsK true (fun _ _ _=>none) [] {} .done)
noncomputable def Rz.gv:Rz→Option V | .v x _=>x | _=>hi
noncomputable def Rz.gb:Rz→Option Bool | .b x k=>x | _=>hi
noncomputable def Rz.gc:Rz→Option (V×St) | .c x _=>x | _=>hi
noncomputable def Rz.gf:Rz→Option (FL×St) | .f x _=>x | _=>hi
noncomputable def Rz.gl:Rz→Option (List V×St) | .l x _=>x | _=>hi
noncomputable def Rz.gg:Rz→Bool | .g x _=>x | _=>(hi:Option Unit).isSome
noncomputable def Rz.ov (r:Rz) (a:V):Rz:=match r with | .v _ k=>k a | _=>.fail
noncomputable def Rz.obo (r:Rz) (a:Bool):Rz:=match r with | .b _ k=>k a | _=>.fail
noncomputable def Rz.oc (r:Rz) (a:V) (σ:St):Rz:=match r with | .c _ k=>k a σ | _=>.fail
noncomputable def Rz.of (r:Rz) (a:FL) (σ:St):Rz:=match r with | .f _ k=>k a σ | _=>.fail
noncomputable def Rz.ol (r:Rz) (a:List V) (σ:St):Rz:=match r with | .l _ k=>k a σ | _=>.fail
noncomputable def Rz.og (r:Rz):Rz:=match r with | .g _ r=>r | _=>.fail
noncomputable def JC {β:Type} (r:Rz) (G:FL→St→Option β) (z:β):Prop:=bn (sem r) G=some z
noncomputable def Rz.out {β:Type} (g:FL→St→Option β):Rz→Option β | .done x σ=>g x σ | _=>none
noncomputable def ZR (f:FL) (σ:St):Option (V×List (Id×Ob)×Nat×List Nat):=bo (QM f) fun v=>some (v,σ.hp,σ.nx,σ.ps)
noncomputable def Xq (f:FL) (σ:St):Option (FL×St):=some (f,σ)
namespace JC
variable {r:Rz} {β:Type} {G:FL→St→Option β} {z:β}
theorem fwE:∀ (n:Nat) (r:Rz),sem (Mine.fw n r)=sem r
  | 0,_=>rfl
  | n + 1,r=>by
    cases r with
    | done _ _=>rfl
    | fail=>rfl
    | v x k=>cases x <;> first | rfl | exact fwE n (k _)
    | b x k=>cases x <;> first | rfl | exact fwE n (k _)
    | o x k=>cases x <;> first | rfl | exact fwE n (k _)
    | c x k=>cases x <;> first | rfl | exact fwE n (k _ _)
    | f x k=>cases x <;> first | rfl | exact fwE n (k _ _)
    | l x k=>cases x <;> first | rfl | exact fwE n (k _ _)
    | g x k=>cases x <;> first | rfl | exact fwE n k
theorem fw {n:Nat} {r:Rz} (h:JC (Mine.fw n r) G z):JC r G z:=(congrArg (bn · G) (fwE n r)).symm.trans h
theorem done (n:Nat) (e:(Mine.fw n r).out G=some z:=by kernel_rfl):JC r G z:=fw (n:=n) (by
  generalize Mine.fw n r=q at e
  cases q <;> first | exact nn e | exact e)
theorem v {X:Option V} {a:V} (n:Nat) (h:X=some a) (k:JC ((Mine.fw n r).ov a) G z) (e:(Mine.fw n r).gv=X:=by kernel_rfl):JC r G z:=fw (n:=n) (by
  generalize Mine.fw n r=q at e k
  have e:=e.trans h
  cases q <;> first | exact nn e | (cases (show _=some a from e); exact k))
theorem b {X:Option Bool} {a:Bool} (n:Nat) (h:X=some a) (k:JC ((Mine.fw n r).obo a) G z) (e:(Mine.fw n r).gb=X:=by kernel_rfl):JC r G z:=fw (n:=n) (by
  generalize Mine.fw n r=q at e k
  have e:=e.trans h
  cases q <;> first | exact nn e | (cases (show _=some a from e); exact k))
theorem c {X:Option (V×St)} {a:V} {τ:St} (n:Nat) (h:X=some (a,τ)) (k:JC ((Mine.fw n r).oc a τ) G z) (e:(Mine.fw n r).gc=X:=by kernel_rfl):JC r G z:=fw (n:=n) (by
  generalize Mine.fw n r=q at e k
  have e:=e.trans h
  cases q <;> first | exact nn e | (cases (show _=some (a,τ) from e); exact k))
theorem fl {X:Option (FL×St)} {a:FL} {τ:St} (n:Nat) (h:X=some (a,τ)) (k:JC ((Mine.fw n r).of a τ) G z) (e:(Mine.fw n r).gf=X:=by kernel_rfl):JC r G z:=fw (n:=n) (by
  generalize Mine.fw n r=q at e k
  have e:=e.trans h
  cases q <;> first | exact nn e | (cases (show _=some (a,τ) from e); exact k))
theorem l {X:Option (List V×St)} {a:List V} {τ:St} (n:Nat) (h:X=some (a,τ)) (k:JC ((Mine.fw n r).ol a τ) G z) (e:(Mine.fw n r).gl=X:=by kernel_rfl):JC r G z:=fw (n:=n) (by
  generalize Mine.fw n r=q at e k
  have e:=e.trans h
  cases q <;> first | exact nn e | (cases (show _=some (a,τ) from e); exact k))
theorem g {X:Bool} (n:Nat) (h:X=true) (k:JC (Mine.fw n r).og G z) (e:(Mine.fw n r).gg=X:=by kernel_rfl):JC r G z:=fw (n:=n) (by
  generalize Mine.fw n r=q at e k
  have e:=e.trans h
  cases q <;> first | exact ff e | (cases (show _=true from e); exact k))
theorem exsM {m:Bool} {C:Ora} {l:List MS} {τ:St} {f:FL} {σ:St} (h:JC (exsK m C l τ .done) Xq (f,σ)):exs C l τ=some (f,σ):=by
  have h':=(congrArg (bn · Xq) (Kf m C l τ .done)).symm.trans h
  generalize Mine.exs C l τ=x at h'
  cases x with
  | none=>exact nn h'
  | some p=>exact h'
theorem exs {C:Ora} {l:List MS} {τ:St} {f:FL} {σ:St} (h:JC (exsK false C l τ .done) Xq (f,σ)):Mine.exs C l τ=some (f,σ):=exsM h
theorem exs' {C:Ora} {l:List MS} {τ:St} {f:FL} {σ:St} (h:JC (exsK true C l τ .done) Xq (f,σ)):Mine.exs C l τ=some (f,σ):=exsM h
theorem exc' {C:Ora} {s:MS} {τ:St} {f:FL} {σ:St} (h:JC (exsK false C [s] τ .done) Xq (f,σ)):Mine.exc C s τ=some (f,σ):=by
  have h:bn (Mine.exc C s τ) (fun f σ₁=>Xe f (some (.next,σ₁)) σ₁)=some (f,σ):=exsM h
  generalize Mine.exc C s τ=x at h
  cases x with
  | none=>exact nn h
  | some p =>
    obtain ⟨g,τ'⟩:=p
    cases g <;> exact h
end JC
noncomputable def ZP (f:FL) (σ:St):Option (Bool×St):=match f with
  | .ret (.bool b)=>some (b,σ)
  | _=>none
noncomputable def evG (f:FL) (σ:St):Option (V×St):=match f with
  | .ret v=>some (v,σ)
  | _=>none
theorem JC.tstM {m:Bool} {C:Ora} {e:ME} {σ τ:St} {b:Bool} (h:JC (Wi m C e σ fun b τ=>.done (.ret (.bool b)) τ) ZP (b,τ)):tst C e σ=some (b,τ):=by
  have h':=(congrArg (bn · ZP) (KN m C e σ _)).symm.trans h
  generalize Mine.tst C e σ=x at h'
  cases x with
  | none=>exact nn h'
  | some p=>exact h'
theorem JC.evM {m:Bool} {C:Ora} {e:ME} {σ τ:St} {v:V} (h:JC (evK m C e σ fun v τ=>.done (.ret v) τ) evG (v,τ)):ev C e σ=some (v,τ):=by
  have h':=(congrArg (bn · evG) (Jt m C e σ _)).symm.trans h
  generalize Mine.ev C e σ=x at h'
  cases x with
  | none=>exact nn h'
  | some p=>exact h'
theorem JC.tst {C:Ora} {e:ME} {σ τ:St} {b:Bool} (h:JC (Wi false C e σ fun b τ=>.done (.ret (.bool b)) τ) ZP (b,τ)):Mine.tst C e σ=some (b,τ):=tstM h
theorem JC.tst' {C:Ora} {e:ME} {σ τ:St} {b:Bool} (h:JC (Wi true C e σ fun b τ=>.done (.ret (.bool b)) τ) ZP (b,τ)):Mine.tst C e σ=some (b,τ):=tstM h
theorem JC.ev {C:Ora} {e:ME} {σ τ:St} {v:V} (h:JC (evK false C e σ fun v τ=>.done (.ret v) τ) evG (v,τ)):Mine.ev C e σ=some (v,τ):=evM h
noncomputable def Yk (q:Bool) (C:Ora) (m:MFun) (vs:List V) (τ:St):Rz:=boK (m.args vs) fun as=>exsK q C m.body ⟨m.ps.zip as,τ.hp,τ.nx,τ.ps⟩ .done
section
variable {q:Bool} {C:Ora} {m:MFun} {vs:List V} {τ:St} {v:V} {hp:List (Id×Ob)} {nx:Nat} {ps:List Nat} {T:Nat→Option MFun} {n f:Nat}
theorem ZH0 (h:JC (Yk q C m vs τ) ZR (v,hp,nx,ps)):Qu C m vs τ=some (v,⟨τ.loc,hp,nx,ps⟩):=by
  unfold Yk at h
  show bo (m.args vs) _=_
  generalize m.args vs=as at h
  cases as with
  | none=>exact nn h
  | some as =>
    show bn (exs C m.body ⟨m.ps.zip as,τ.hp,τ.nx,τ.ps⟩) _=_
    have h:=(congrArg (bn · ZR) (Kf q C m.body ⟨m.ps.zip as,τ.hp,τ.nx,τ.ps⟩ .done)).symm.trans h
    generalize exs C m.body ⟨m.ps.zip as,τ.hp,τ.nx,τ.ps⟩=x at h
    cases x with
    | none=>exact nn h
    | some p =>
      show bo (QM p.1) _=_
      have h:bo (QM p.1) (fun v=>some (v,p.2.hp,p.2.nx,p.2.ps))=some (v,hp,nx,ps):=h
      generalize QM p.1=q at h
      cases q with
      | none=>exact nn h
      | some w=>cases h; rfl
noncomputable def Kx (q:Bool) (T:Nat→Option MFun) (n f:Nat) (vs:List V) (τ:St):Rz:=boK (T f) fun m=>Yk q (JI T n) m vs τ
theorem ZF8 (h:JC (Kx q T n f vs τ) ZR (v,hp,nx,ps)):JI T (n + 1) f vs τ=some (v,⟨τ.loc,hp,nx,ps⟩):=by
  unfold Kx at h
  show bo (T f) _=_
  generalize T f=m at h
  cases m with
  | none=>exact nn h
  | some m=>exact ZH0 h
theorem Jy (h:JC (Kx false T n f vs τ) ZR (v,hp,nx,ps)):JI T (n + 1) f vs τ=some (v,⟨τ.loc,hp,nx,ps⟩):=ZF8 h
end
end Mine
end
noncomputable section
open PySem PySem.Calls PyProof.Rows PySem.W
namespace Mine
noncomputable def QG (ids:List Id) (hp:List (Id×Ob)):List (Id×Ob):=ids.foldr (fun i r=>match JA hp i with
  | some o=>(i,o) :: r
  | none=>r) (hp.filter fun p=>!(ids.any (·==p.1)))
noncomputable def hpN (ids:List Id) (n:Nat) (hp:List (Id×Ob)):List (Id×Ob):=QG ids (hp.filter fun p=>UI n p.1)
noncomputable def WD (ids:List Id) (n:Nat) (v:Mine.V) (σ:St):Bool:=Ju n σ.loc&&(UJ n (hpN ids n σ.hp)&&V.blw n v)
noncomputable def XP (ids:List Id) (C:Ora):Ora:=fun f vs σ=>bn (C f vs ⟨σ.loc,QG ids σ.hp,σ.nx,σ.ps⟩) fun v σ'=>gd (WD ids σ.nx v σ') (some (v,⟨σ'.loc,hpN ids σ.nx σ'.hp,σ.nx,σ'.ps⟩))
noncomputable def We (T:Nat→Option MFun) (C:Ora):Ora:=fun f vs σ=>bo (T f) fun m=>Qu C m vs σ
theorem Xx (q:Id→Bool) (i:Id) (o:Ob):∀ hp:List (Id×Ob),JA (hp.filter fun p=>q p.1) i=some o→JA hp i=some o∧q i=true
  | [],h=>nn h
  | (j,w) :: l,h=>by
    by_cases e:q j=true
    · have h:=(congrArg (JA · i) (List.filter_cons_of_pos (p:=fun p=>q p.1) (a:=(j,w)) (l:=l) e)).symm.trans h
      by_cases k:j=i
      · exact ⟨(if_pos k).trans ((if_pos k).symm.trans h),k▸e⟩
      · exact (Xx q i o l ((if_neg k).symm.trans h)).imp (fun z=>(if_neg k).trans z) id
    · have h:=(congrArg (JA · i) (List.filter_cons_of_neg (p:=fun p=>q p.1) (a:=(j,w)) (l:=l) e)).symm.trans h
      have z:=Xx q i o l h
      exact ⟨(if_neg fun k:j=i=>e (k▸z.2)).trans z.1,z.2⟩
theorem Ow {ids:List Id} {hp:List (Id×Ob)} {i:Id} {o:Ob} (h:JA (QG ids hp) i=some o):JA hp i=some o:=by
  unfold QG at h
  have key:∀ l:List Id,JA (l.foldr (fun i r=>match JA hp i with
    | some o=>(i,o) :: r
    | none=>r) (hp.filter fun p=>!(ids.any (·==p.1)))) i=some o→JA hp i=some o:=fun l=>by
    induction l with
    | nil=>exact fun h=>(Xx (fun j=>!(ids.any (·==j))) i o hp h).1
    | cons j l ih =>
      intro h
      have h:JA (match JA hp j with
        | some o=>(j,o) :: l.foldr (fun i r=>match JA hp i with
          | some o=>(i,o) :: r
          | none=>r) (hp.filter fun p=>!(ids.any (·==p.1)))
        | none=>l.foldr (fun i r=>match JA hp i with
          | some o=>(i,o) :: r
          | none=>r) (hp.filter fun p=>!(ids.any (·==p.1)))) i=some o:=h
      cases e:JA hp j with
      | none=>rw [e] at h; exact ih h
      | some w =>
        rw [e] at h
        by_cases k:j=i
        · cases (if_pos k).symm.trans h
          exact k▸e
        · exact ih ((if_neg k).symm.trans h)
  exact key ids h
section
variable {c:Cx} {r:Nat} {C:Ora} {ids:List Id}
theorem Br (H:JJ c r C):JJ c r (XP ids C):=fun _ σ _ _ _ _ _ _ _ _ _ _ hr VV hf R X N=>bnE hf fun v σ' h1 h2=>gdE h2 fun h3 h4=>bA h3 fun b1 h3=>bA h3 fun b2 b3=>by
  cases h4
  exact H hr VV h1 (σ:=⟨σ.loc,QG ids σ.hp,σ.nx,σ.ps⟩) (R.sub (fun _ _ e=>e) (fun _ _ e=>Ow e) (Nat.le_refl _) fun _ e=>e) X fun x s' g' R' X' E' =>
    N x s' _ (R'.clean (n:=σ.nx) ⟨fun _ _ e=>e,fun i o e=>(Xx (UI σ.nx) i o _ (Ow e)).1,b1,b2,rfl,fun _ e=>e⟩) (VR.clean X' b3) (Ext.clean R E')
theorem Z7 (O:c.Ok) {T:Nat→Option MFun} (HT:∀ f m,T f=some m→Ug c f m=true) (H:JJ c r C):JJ c (r + 2) (We T C):=fun _ _ _ _ _ _ _ _ _ _ _ _ hr VV hf R X N=>boE hf fun m h1 h2=>Ba O H (HT _ _ h1) hr h2 R X N
theorem KQ {f n:Nat} {vs:List Mine.V} {L:List (Nat×Mine.V)} {hp hp' hp₁ hp₂:List (Id×Ob)} {nx':Nat} {P P':List Nat} {v:Mine.V} (h:C f vs ⟨L,hp',n,P⟩=some (v,⟨L,hp₁,nx',P'⟩)) (hb:WD ids n v ⟨L,hp₁,nx',P'⟩=true)
    (e:QG ids hp=hp':=by kernel_rfl) (e':hpN ids n hp₁=hp₂:=by kernel_rfl):XP ids C f vs ⟨L,hp,n,P⟩=some (v,⟨L,hp₂,n,P'⟩):=by
  subst e e'
  show bn (C f vs ⟨L,QG ids hp,n,P⟩) _=_
  rw [h]
  show gd (WD ids n v ⟨L,hp₁,nx',P'⟩) _=_
  rw [hb]
  rfl
end
end Mine
end
noncomputable section
open PySem PySem.Calls PyProof.Rows PySem.W
namespace Mine
noncomputable def Xb (h:Heap):Frag:=(List.range h.objs.size).filterMap fun a=>(h.get? a).map fun o=>(a,o)
theorem K9 {f:Nat→Option Obj}:∀ {l:List Nat} {a:Nat} {o:Obj},(l.filterMap fun a=>(f a).map fun o=>(a,o)).lookup a=some o→f a=some o
  | [],_,_,h=>by cases h
  | b :: l,a,o,h=>by
    rw [List.filterMap_cons] at h
    cases hb:f b with
    | none=>rw [hb] at h; exact K9 h
    | some q =>
      rw [hb] at h
      rw [Option.map_some,List.lookup_cons] at h
      cases e:a==b with
      | true =>
        rw [e] at h
        cases h
        rw [beq_iff_eq.mp e]; exact hb
      | false =>
        rw [e] at h
        exact K9 h
theorem G4 {f:Nat→Option Obj}:∀ {l:List Nat} {a:Nat} {o:Obj},a∈l→f a=some o→(l.filterMap fun a=>(f a).map fun o=>(a,o)).lookup a=some o
  | [],_,_,h,_=>by cases h
  | b :: l,a,o,h,e=>by
    rw [List.filterMap_cons]
    by_cases q:a=b
    · subst q
      rw [e]
      simp
    · have hm:=G4 (f:=f) ((List.mem_cons.mp h).resolve_left q) e
      cases hb:f b with
      | none=>exact hm
      | some w =>
        simp only [Option.map_some,List.lookup_cons]
        rw [beq_false_of_ne q]
        exact hm
theorem ZFa {K:Frag} {h:Heap} (X:K.In h):Frag.In (K++Xb h) h:=fun a o e=>by
  rw [List.lookup_append] at e
  cases hk:K.lookup a with
  | some q=>rw [hk] at e; cases e; exact X _ _ hk
  | none=>rw [hk] at e; exact K9 e
theorem ZDR {K:Frag} {h:Heap} (X:K.In h) {a:Addr} {o:Obj} (e:h.get? a=some o):(K++Xb h).lookup a=some o:=by
  rw [List.lookup_append]
  cases hk:K.lookup a with
  | some q=>rw [X _ _ hk] at e; cases e; rfl
  | none=>exact G4 (List.mem_range.mpr (Heap.lt_size e)) e
theorem ZCH {K:Frag} {h:Heap} (H:∀ a o,h.get? a=some o→K.lookup a=some o) {a:Addr} {m:Str→Option Value} {x:Str} {v:Value} (N:h.Ns a m) (hm:m x=some v):nsIn K a x=some (some v):=by
  obtain ⟨o,es,ep,ho,hd,_,hf⟩:=N
  have hf:=hf x
  rw [hm] at hf
  obtain ⟨oc,od,dat,sl⟩:=o
  cases hd
  unfold nsIn
  rw [H _ _ ho]
  dsimp only
  delta nsFind findBy at hf; dsimp only at hf
  rw [← Array.find?_toList] at hf
  cases hq:es.toList.find? fun e=>e.key.isStr x with
  | none=>rw [hq] at hf; cases hf
  | some e=>rw [hq] at hf; dsimp only; rw [Option.map_some] at hf; cases hf; rfl
theorem ZHH {K:Frag} {h:Heap} (H:∀ a o,h.get? a=some o→K.lookup a=some o) {m:Str→Option Value} (N:h.Ns builtinsNs m) (hm:∀ x:Str,x≠"__name__"→m x=bootBuiltins x):∀ p∈Xa,nsIn K builtinsNs p.1=some (some p.2):=by
  intro p hp
  refine ZCH H N ?_
  have key:∀ p∈Xa,p.1≠("__name__":Str)∧bootBuiltins p.1=some p.2:=by decide +kernel
  obtain ⟨h1,h2⟩:=key p hp
  rw [hm _ h1,h2]
noncomputable def wP (P:Params) (h:Heap) (v:Value):WData→Prop
  | .int i=>∃ t,v=.int i t
  | .list xs=>∃ a vs,v=.ref a∧h.get? a=some { cls:=.type "list",data:=.seq vs.toArray }∧WellAll P h vs xs
  | _=>True
theorem HH {P:Params} {h:Heap} {v:Value} {d:WData} (W:Well P h v d):wP P h v d:=by
  cases W
  case int=>exact ⟨_,rfl⟩
  case list h1 h2=>exact ⟨_,_,rfl,h1,h2⟩
  all_goals exact trivial
theorem Oc {P:Params} {h:Heap}:∀ {ns:List Int} {vs:List Value},WellAll P h vs (ofPys (ns.map PyData.int))→∀ (c:Cx) (F:Addr→Obj→Prop) (ρ:Id→Option Addr),VRs c F ρ (ns.map Mine.V.int) vs
  | [],vs,W,c,F,ρ=>by
    have W:WellAll P h vs []:=W
    cases W
    exact .nil
  | n :: ns,vs,W,c,F,ρ=>by
    have W:WellAll P h vs (.int n :: ofPys (ns.map PyData.int)):=W
    cases W with
    | cons w1 w2 =>
      obtain ⟨t,rfl⟩:=(show ∃ t,_=Value.int n t from HH w1)
      exact .cons (.int _ _) (Oc w2 c F ρ)
theorem Tj {P:Params} {h:Heap} {a:Addr} {ns:List Int} (W:Well P h (.ref a) (ofPy (.list (ns.map PyData.int)))) :
    ∃ vs:List Value,h.get? a=some { cls:=.type "list",data:=.seq vs.toArray }∧∀ (c:Cx) (F:Addr→Obj→Prop) (ρ:Id→Option Addr),VRs c F ρ (ns.map Mine.V.int) vs:=by
  obtain ⟨a',vs,e,h1,h2⟩:=(show ∃ a' vs,Value.ref a=.ref a'∧h.get? a'=some { cls:=.type "list",data:=.seq vs.toArray }∧WellAll P h vs (ofPys (ns.map PyData.int)) from HH W)
  exact ⟨vs,Value.ref.inj e▸h1,Oc h2⟩
noncomputable def g0:Gh:=⟨fun _=>False,fun _=>False,fun _=>none⟩
theorem ZAY {c:Cx} {env:Env} {s:Shared} {h₀:Heap} {L:Addr} {m:Str→Option Value} {y:Nat} {v:Mine.V} {x:Value} (hk:∀ a o,c.K.lookup a=some o→h₀.get? a=some o) (F:Fr h₀ L s.heap m) (hL:env.locals=L) (hm:m (c.nm y)=some x)
    (hl:env.kindOf (c.nm y)=some .local) (hv:∀ F ρ,(∀ a o,c.K.lookup a=some o→F a o)→VR c F ρ v x) (ht:0 < s.toks):Rel c env g0 ⟨[(y,v)],[],0,[]⟩ s:=by
  have kin:∀ a o,c.K.lookup a=some o→Fz env g0 s.heap a o:=fun a o e =>
    ⟨F.keep _ _ (hk a o e),fun w=>w,fun w=>w,fun w=>absurd (Heap.lt_size (hk a o e)) (Nat.not_lt_of_le (by rw [show a=L from (show a=env.locals from w).trans hL]; exact F.above))⟩
  refine ⟨⟨kin,fun a w=>w.elim,fun a w=>w.elim,fun a w=>?_,fun a w=>w.elim,⟨m,hL▸F.ns,fun n v' e=>?_⟩,fun i o e=>?_,(fun i r o e=>nomatch e),(fun i j r o q e=>nomatch e),fun _ _=>rfl,fun _ _=>rfl⟩,ht⟩
  · obtain ⟨o,_,_,ho,_⟩:=F.ns
    exact ⟨o,by rw [show a=env.locals from w,hL]; exact ho⟩
  · rw [Q1] at e
    by_cases q:y=n
    · subst q
      rw [if_pos rfl] at e
      cases e
      exact ⟨fun _=>⟨x,hm,hv _ _ kin⟩,fun q=>by rw [hl] at q; cases q⟩
    · rw [if_neg q] at e; cases e
  · cases e
theorem No {n m:Nat} {α:Type} {k:n=m→Option α} {w:α} {P:Prop} (h:dite (n=m) k (fun _=>none)=some w) (f:n=m→P):P:=by
  by_cases q:n=m
  · exact f q
  · exact nn ((dif_neg q).symm.trans h)
noncomputable def KL (s:Stmt):Option (Expr×List Stmt×List Stmt×Pos):=dite _ (fun h=>Stmt.While.elim (motive_2:=fun _=>Option (Expr×List Stmt×List Stmt×Pos)) s h fun t b o p=>some (t,b,o,p)) fun _=>none
theorem ZAO {s:Stmt} {w:Expr×List Stmt×List Stmt×Pos} (h:KL s=some w):s=.While w.1 w.2.1 w.2.2.1 w.2.2.2:=by
  exact No h fun q=>Stmt.While.elim (motive_2:=fun s=>KL s=some w→s=.While w.1 w.2.1 w.2.2.1 w.2.2.2) s q (fun _ _ _ _ h=>by cases h; rfl) h
noncomputable def NB (s:Stmt):Option (Expr×Pos):=dite _ (fun h=>Stmt.Expr.elim (motive_2:=fun _=>Option (Expr×Pos)) s h fun e p=>some (e,p)) fun _=>none
theorem ZBP {s:Stmt} {w:Expr×Pos} (h:NB s=some w):s=.Expr w.1 w.2:=by
  exact No h fun q=>Stmt.Expr.elim (motive_2:=fun s=>NB s=some w→s=.Expr w.1 w.2) s q (fun _ _ h=>by cases h; rfl) h
noncomputable def KJ (e:Expr):Option (Option Expr×Pos):=dite _ (fun h=>Expr.Yield.elim (motive_1:=fun _=>Option (Option Expr×Pos)) e h fun v p=>some (v,p)) fun _=>none
theorem ZAN {e:Expr} {w:Option Expr×Pos} (h:KJ e=some w):e=.Yield w.1 w.2:=by
  exact No h fun q=>Expr.Yield.elim (motive_1:=fun e=>KJ e=some w→e=.Yield w.1 w.2) e q (fun _ _ h=>by cases h; rfl) h
noncomputable def OA {α:Type} (l:List α):Option α:=match l with
  | []=>none
  | a :: r=>(match r with
    | []=>some a
    | _ :: _=>none)
theorem Gl {α:Type} {l:List α} {a:α} (h:OA l=some a):l=[a]:=by
  cases l with
  | nil=>exact nn h
  | cons b r=>cases r <;> first | exact nn h | (cases h; rfl)
noncomputable def Nx {α:Type} (l:List α):Option (α×α):=match l with
  | []=>none
  | a :: r=>bo (OA r) fun b=>some (a,b)
theorem GU {α:Type} {l:List α} {p:α×α} (h:Nx l=some p):l=[p.1,p.2]:=by
  cases l with
  | nil=>exact nn h
  | cons b r=>exact boE h fun c h1 h2=>Option.some.inj h2▸congrArg (b :: ·) (Gl h1)
noncomputable def ZV (s:Stmt) (f:Expr→List Stmt→Bool):Bool:=ob (KL s) fun w=>w.2.2.1.isEmpty&&f w.1 w.2.1
theorem Ng {s:Stmt} {f:Expr→List Stmt→Bool} {P:Prop} (h:ZV s f=true) (k:∀ t b p,s=.While t b [] p→f t b=true→P):P:=
  obE h fun w h1 h=>bA h fun h2 h3=>k _ _ _ (List.isEmpty_iff.mp h2▸ZAO h1) h3
noncomputable def IX (b:List Stmt) (f:Expr→Bool):Bool:=ob (OA b) fun s=>ob (NB s) fun e=>ob (KJ e.1) fun y=>ob y.1 f
theorem ZGU {b:List Stmt} {f:Expr→Bool} {P:Prop} (h:IX b f=true) (k:∀ y p q,b=[.Expr (.Yield (some y) p) q]→f y=true→P):P:=
  obE h fun s h1 h=>obE h fun e h2 h=>obE h fun y h3 h=>obE h fun z h4 h5=>k z y.2 e.2 (by
    rw [Gl h1,ZBP h2,ZAN h3,h4]) h5
noncomputable def ZGv (c:Cx) (kn:Str→Option NameKind) (m0:MS) (gm:GenM) (body:List Stmt):Bool:=ob (Nx body) fun p=>JV c kn m0 p.1&&ZV p.2 fun t1 b=>JF c kn gm.t1 t1&&ob (Nx b) fun q=>ZV q.1 (fun t2 _=>JF c kn gm.t2 t2)&&ZV q.2 fun t3 b3=>JF c kn gm.t3 t3&&IX b3 fun ye=>JF c kn gm.e ye
noncomputable def NH (c:Cx) (f:Nat) (m0:MS) (gm:GenM):Bool:=ob (c.K.lookup (c.fA f)) fun o=>ob (Yt o) fun fd=>ob (Yy fd) fun body=>K1 fd.params&&(codeIn c.K fd.code fd.qualname&&((Jf fd.params.args==[c.nm 0])&&((fd.defaults==.none)&&((fd.scope.kind==.function)&&(fd.scope.isGenerator&&((fd.scope.isCoroutine==false) &&
  ((fd.scope.names.lookup (c.nm 0)==some .local)&&(fd.scope.names.all (fun p=>!(p.2==.cell))&&((fd.globals==mainGlobals)&&((fd.builtins==builtinsNs)&&(fd.closure.isEmpty&&ZGv c (fun x=>fd.scope.names.lookup x) m0 gm body)))))))))))
theorem ZAp {c:Cx} {r f:Nat} {C:Ora} {m0:MS} {gm:GenM} (O:c.Ok) (HC:JJ c r C) (h:NH c f m0 gm=true) :
    ∃ fd S0 t1 t2 t3 ye b2 p1 p2 p3 yp ep,GenAt c f fd [S0,.While t1 (QZ t2 t3 ye b2 p2 p3 yp ep) [] p1] ∧
      ∀ GL,JN c (r + 1) (J1 fd GL (c.fA f)) S0 (exc C m0)∧JW c (r + 1) (J1 fd GL (c.fA f)) t1 (tst C gm.t1)∧JW c (r + 1) (J1 fd GL (c.fA f)) t2 (tst C gm.t2)∧JW c (r + 1) (J1 fd GL (c.fA f)) t3 (tst C gm.t3)∧JD c (r + 1) (J1 fd GL (c.fA f)) ye (ev C gm.e):=
  obE h fun o ho h=>obE h fun fd hfd h=>obE h fun body hb h=>bA h fun hp h=>bA h fun h1 h=>bA h fun h2 h=>bA h fun hd h=>bA h fun h3 h=>bA h fun h4 h=>bA h fun h5 h=>bA h fun h6 h=>bA h fun h7 h=>bA h fun h8 h=>bA h fun h9 h=>bA h fun h10 h =>
    obE h fun p hp2 h=>bA h fun k0 h=>Ng h fun t1 b p1 e1 h=>bA h fun k1 h=>obE h fun q hq h=>bA h fun g1 g2=>Ng g1 fun t2 b2 p2 e2 k2=>Ng g2 fun t3 b3 p3 e3 h=>bA h fun k3 h=>ZGU h fun ye yp ep e4 k4=>by
      have e:body=[p.1,.While t1 (QZ t2 t3 ye b2 p2 p3 yp ep) [] p1]:=by rw [GU hp2,e1,GU hq,e2,e3,e4]
      have hnc:∀ p∈fd.scope.names,p.2≠.cell:=fun p hp q=>by
        have:=List.all_eq_true.mp h7 p hp
        rw [q] at this; exact ff this
      obtain ⟨oc,od,odat,osl⟩:=o
      cases Bz hfd
      refine ⟨fd,p.1,t1,t2,t3,ye,b2,p1,p2,p3,yp,ep,⟨⟨_,_,_,ho⟩,h1,(DF hb).trans (congrArg _ e),⟨_,_,Bn hp,bE h2⟩,bE hd,bE h3,h4,bE h5,bE h6,hnc,bE h8,bE h9,List.isEmpty_iff.mp h10⟩,fun GL=>?_⟩
      have VV:EnvOk (J1 fd GL (c.fA f)):=⟨bE h3,bE h8,bE h9⟩
      have VC:W4 (J1 fd GL (c.fA f)):=fun x hx=>absurd rfl (hnc _ (Zn (show fd.scope.names.lookup x=some .cell from hx)))
      exact ⟨QI O HC m0 ⟨VV,VC,fun _=>rfl⟩ k0,(Jd O HC gm.t1 ⟨VV,VC,fun _=>rfl⟩ k1).2,(Jd O HC gm.t2 ⟨VV,VC,fun _=>rfl⟩ k2).2,(Jd O HC gm.t3 ⟨VV,VC,fun _=>rfl⟩ k3).2,(Jd O HC gm.e ⟨VV,VC,fun _=>rfl⟩ k4).1⟩
end Mine
end
noncomputable section
open PySem PySem.Calls PyProof.Rows PySem.W
namespace Mine
noncomputable def Q7 (k:Nat) (v:Mine.V) (σ':St):Option (Mine.V×St):=match JA σ'.hp (.p k) with
  | none=>some (v,σ')
  | some o=>(match o with
    | .list l=>gd (V.nos (.p k) l) (some (V.sb (.p k) (.list l) v,σ'.sb k (.list l)))
    | _=>none)
noncomputable def Xm (k:Nat) (C:Ora):Ora:=fun f vs σ=>gd (decide (k ∉ σ.ps)) (bn (C f vs σ) (Q7 k))
noncomputable def ZA (f₀:Nat) (C D:Ora):Ora:=fun f=>if f=f₀ then C f else D f
section
variable {c:Cx} {r k:Nat} {C D:Ora}
theorem Ka (H:JJ c r C):JJ c r (Xm k C):=fun _ σ _ _ _ _ _ g s _ _ _ hr VV hf R X N=>gdE hf fun hk h=>bnE h fun v₁ σ₁ h1 h2=>H hr VV h1 R X fun x s' g' R' X' E'=>by
  unfold Q7 at h2
  cases e:JA σ₁.hp (.p k) with
  | none=>rw [e] at h2; cases h2; exact N x s' g' R' X' E'
  | some o =>
    rw [e] at h2
    cases o <;> first | exact nn h2 | skip
    exact gdE h2 fun h3 h4=>by
      cases h4
      obtain ⟨R2,hw⟩:=YX R' e h3
      exact N x s' _ R2 (VR.sb (fun a o z=>⟨z.1,fun q=>z.2.1 q.1,z.2.2.1,z.2.2.2⟩) (fun j a hj e=>(congrArg (Option.map Prod.fst) (if_neg hj)).trans e) hw X') ⟨fun a o z hq hf=>let w:=E'.fz a o z hq hf; ⟨w.1,fun q=>w.2 q.1⟩,fun id p e=>(if_neg fun q:id=.p k=>nn ((R.ps k (of_decide_eq_true hk)).symm.trans (q▸e))).trans (E'.cs id p e),E'.X,E'.gens⟩
theorem Bo {f₀:Nat} (H:JJ c r C) (H':JJ c r D):JJ c r (ZA f₀ C D):=fun _ σ f _ _ _ _ g s _ _ _ hr VV hf R X N=>by
  unfold ZA at hf
  by_cases q:f=f₀
  · rw [if_pos q] at hf; exact H hr VV hf R X N
  · rw [if_neg q] at hf; exact H' hr VV hf R X N
end
end Mine
end
noncomputable section
open PySem PySem.Calls PyProof.Rows PySem.W
namespace Mine
noncomputable def nmT:List (List Nat):=[[115,101,108,102],
  [116,101,120,116],
  [112,108,97,99,101],
  [115,105,122,101],
  [112,97,114,116],
  [99,111,100,101,112,111,105,110,116],
  [115,111,117,114,99,101],
  [114,101,112,111,114,116,67,104,97,114,97,99,116,101,114,69,114,114,111,114,115],
  [99,104,97,114,97,99,116,101,114,69,114,114,111,114,115,85,67,83,52],
  [110,101,119,76,105,110,101,115],
  [100,97,116,97,83,116,114,101,97,109],
  [111,112,101,110,83,116,114,101,97,109],
  [114,101,115,101,116],
  [99,104,117,110,107],
  [99,104,117,110,107,83,105,122,101],
  [99,104,117,110,107,79,102,102,115,101,116],
  [101,114,114,111,114,115],
  [112,114,101,118,78,117,109,76,105,110,101,115],
  [112,114,101,118,78,117,109,67,111,108,115],
  [95,98,117,102,102,101,114,101,100,67,104,97,114,97,99,116,101,114],
  [115,116,114,101,97,109],
  [111,102,102,115,101,116],
  [110,76,105,110,101,115],
  [112,111,115,105,116,105,111,110,76,105,110,101],
  [108,97,115,116,76,105,110,101,80,111,115],
  [112,111,115,105,116,105,111,110,67,111,108,117,109,110],
  [114,101,97,100,67,104,117,110,107],
  [99,104,97,114],
  [95,100,101,102,97,117,108,116,67,104,117,110,107,83,105,122,101],
  [95,112,111,115,105,116,105,111,110],
  [100,97,116,97],
  [114,101,97,100],
  [108,97,115,116,118],
  [99],
  [99,104,97,114,97,99,116,101,114,115],
  [111,112,112,111,115,105,116,101],
  [114,118],
  [101,110,100],
  [114],
  [112,97,114,115,101,114],
  [101,115,99,97,112,101,70,108,97,103],
  [108,97,115,116,70,111,117,114,67,104,97,114,115],
  [115,116,97,116,101],
  [100,97,116,97,83,116,97,116,101],
  [101,115,99,97,112,101],
  [99,117,114,114,101,110,116,84,111,107,101,110],
  [101,110,116,105,116,121,68,97,116,97,83,116,97,116,101],
  [1,47],
  [116,111,107,101,110,81,117,101,117,101],
  [99,104,97,114,115,85,110,116,105,108],
  [99,104,97,114,115],
  [1,51],
  [1,52],
  [1,53],
  [117,110,103,101,116],
  [1,55],
  [99,104,97,114,83,116,97,99,107],
  [1,57],
  [1,58],
  [1,59],
  [1,60],
  [1,61],
  [1,62],
  [1,63],
  [1,64],
  [1,65],
  [110,97,109,101],
  [1,67],
  [115,105,103,110],
  [1,69],
  [1,70],
  [102,97,117,108,116,115],
  [100,117,101],
  [1,73],
  [1,74],
  [1,75],
  [1,76],
  [115,116,97,114,116],
  [119,111,114,100],
  [1,79],
  [115,99,114,105,112,116],
  [116],
  [103,111,116],
  [116,111,107,101,110],
  [110],
  [95,95,105,116,101,114,95,95],
  [115,112,97,99,101,67,104,97,114,97,99,116,101,114,115],
  [97,115,99,105,105,76,101,116,116,101,114,115],
  [116,111,107,101,110,84,121,112,101,115],
  [95,108,97,119,95,80,73,69,67,69,83],
  [69,79,70],
  [116,121,112,101],
  [1,92],
  [1,93],
  [1,94],
  [1,95],
  [1,96],
  [1,97],
  [1,98],
  [1,99],
  [1,100],
  [1,101],
  [1,102],
  [1,103],
  [1,104],
  [1,105],
  [1,106],
  [99,108,111,115,101,100],
  [1,108],
  [1,109],
  [1,110],
  [107,101,121],
  [1,112],
  [1,113],
  [1,114],
  [1,115],
  [1,116],
  [105,110,115,105,100,101],
  [1,118],
  [1,119],
  [109,97,114,107,115],
  [109,97,114,107],
  [95,108,97,119,95,66,76,65,78,75,83],
  [95,108,97,119,95,81,85,79,84,69,83],
  [108,105,110,101],
  [99,111,108],
  [114,111,119,115],
  [108,111,119],
  [104,105,103,104],
  [109,105,100,100,108,101],
  [95,100,97,116,97],
  [112,114,101,102,105,120],
  [95,99,97,99,104,101,115,116,114],
  [108,111],
  [104,105],
  [95,99,97,99,104,101,112,111,105,110,116,115],
  [105],
  [95,107,101,121,115],
  [97,108,108,111,119,101,100,67,104,97,114],
  [102,114,111,109,65,116,116,114,105,98,117,116,101],
  [111,117,116,112,117,116],
  [104,97,115,95,107,101,121,115,95,119,105,116,104,95,112,114,101,102,105,120],
  [101,110,116,105,116,121,78,97,109,101],
  [108,111,110,103,101,115,116,95,112,114,101,102,105,120],
  [101,110,116,105,116,121,76,101,110,103,116,104],
  [116,111,107,101,110,84,121,112,101],
  [99,111,110,115,117,109,101,69,110,116,105,116,121],
  [114,97,119,116,101,120,116,76,101,115,115,84,104,97,110,83,105,103,110,83,116,97,116,101],
  [116,101,109,112,111,114,97,114,121,66,117,102,102,101,114],
  [114,97,119,116,101,120,116,69,110,100,84,97,103,79,112,101,110,83,116,97,116,101],
  [114,97,119,116,101,120,116,83,116,97,116,101],
  [114,97,119,116,101,120,116,69,110,100,84,97,103,78,97,109,101,83,116,97,116,101],
  [97,112,112,114,111,112,114,105,97,116,101],
  [98,101,102,111,114,101,65,116,116,114,105,98,117,116,101,78,97,109,101,83,116,97,116,101],
  [115,101,108,102,67,108,111,115,105,110,103,83,116,97,114,116,84,97,103,83,116,97,116,101],
  [101,109,105,116,67,117,114,114,101,110,116,84,111,107,101,110],
  [97,116,116,114,105,98,117,116,101,78,97,109,101,83,116,97,116,101],
  [108,101,97,118,105,110,103,84,104,105,115,83,116,97,116,101],
  [101,109,105,116,84,111,107,101,110],
  [97,102,116,101,114,65,116,116,114,105,98,117,116,101,78,97,109,101,83,116,97,116,101],
  [95],
  [116,111,107,101,110,115],
  [110,97,109,101,115],
  [98,97,99,107],
  [108,97,116,101,114],
  [115,116,111,112],
  [101,110,116,105,116,105,101,115,84,114,105,101],
  [101,110,116,105,116,105,101,115],
  [116,97,103,84,111,107,101,110,84,121,112,101,115],
  [99,108,111,115,101],
  [115,108,105,112],
  [99,108,111,115,105,110,103],
  [119,114,105,116,116,101,110],
  [102,97,117,108,116],
  [116,111,108,100],
  [100,114,97,119,115],
  [112,111,115,105,116,105,111,110],
  [95,108,97,119,95,76,69,84,84,69,82,83],
  [100,105,103,105,116,115]]
noncomputable def nm1 (i:Nat):Str:=toS (match nmT[i]? with | some x=>x | none=>0 :: List.replicate i 1)
noncomputable def fAT:List Nat:=[148,112,105,63,141,119,70,84,98,304,133,311,353,156,605,360,367,163,598,612,654,619,626,640,633,647,21,21,788,821,261,21,661,668,42,675,682,724,759,689,696,703,710,717,738,745,731,752,21,21,21,21,21,178,199,220,227,283,395,402,332,409,535,591,297,542,549,795,126,773,781,802,809,816]
noncomputable def cAT:List Nat:=[73,166,230,762]
noncomputable def QL:Mine.V:=(.tup [(.str [9]),(.str [10]),(.str [12]),(.str [32]),(.str [13])])
noncomputable def Qd:Mine.V:=(.tup [(.str [97]),(.str [98]),(.str [99]),(.str [100]),(.str [101]),(.str [102]),(.str [103]),(.str [104]),(.str [105]),(.str [106]),(.str [107]),(.str [108]),(.str [109]),(.str [110]),(.str [111]),(.str [112]),(.str [113]),(.str [114]),(.str [115]),(.str [116]),(.str [117]),(.str [118]),(.str [119]),(.str [120]),(.str [121]),(.str [122]),(.str [65]),(.str [66]),(.str [67]),(.str [68]),(.str [69]),(.str [70]),(.str [71]),(.str [72]),(.str [73]),(.str [74]),(.str [75]),(.str [76]),(.str [77]),(.str [78]),(.str [79]),(.str [80]),(.str [81]),(.str [82]),(.str [83]),(.str [84]),(.str [85]),(.str [86]),(.str [87]),(.str [88]),(.str [89]),(.str [90])])
noncomputable def W6:Mine.V:=(.list [(.str [60,47,115,116,121,108,101]),(.str [60,47,120,109,112]),(.str [60,47,83,84,89,76,69,62]),(.str [62]),(.str [32]),(.str [47]),(.str [60]),(.str [60,47]),(.str [97]),(.str [60,47,120]),(.str [45,121]),(.str [38,108,116,59]),(.str [0]),(.str [60,33,45,45]),(.str [45,45,62]),(.str [115])])
noncomputable def JR:Mine.V:=(.dict [[68,111,99,116,121,112,101],[67,104,97,114,97,99,116,101,114,115],[83,112,97,99,101,67,104,97,114,97,99,116,101,114,115],[83,116,97,114,116,84,97,103],[69,110,100,84,97,103],[69,109,112,116,121,84,97,103],[67,111,109,109,101,110,116],[80,97,114,115,101,69,114,114,111,114]] [(.int 0),(.int 1),(.int 2),(.int 3),(.int 4),(.int 5),(.int 6),(.int 7)])
noncomputable def BR:Mine.V:=(.tup [(.int 3),(.int 4),(.int 5)])
noncomputable def US:Mine.V:=(.dict [[65,77,80],[65,77,80,59],[69,97,99,117,116,101],[69,97,99,117,116,101,59],[77,111,112,102,59],[97,99,59],[97,99,69,59],[97,99,117,116,101],[97,99,117,116,101,59],[97,109,112],[97,109,112,59],[97,110,103,59],[97,110,103,108,101,59],[98,110,101,59],[99,111,112,121],[99,111,112,121,59],[101,97,99,117,116,101],[101,97,99,117,116,101,59],[102,114,97,99,49,50],[102,114,97,99,49,50,59],[103,116],[103,116,59],[108,116],[108,116,59],[110,98,115,112],[110,98,115,112,59],[110,111,116],[110,111,116,59],[110,111,116,105,110,59],[110,111,116,110,105,59],[112,97,114,97],[112,97,114,97,59],[112,97,114,97,108,108,101,108,59],[113,117,111,116],[113,117,111,116,59],[115,117,112,49],[115,117,112,49,59],[115,117,112,50],[115,117,112,50,59],[115,117,112,59],[116,105,109,101,115],[116,105,109,101,115,59],[116,105,109,101,115,98,59]] [(.str [38]),(.str [38]),(.str [201]),(.str [201]),(.str [120132]),(.str [8766]),(.str [8766,819]),(.str [180]),(.str [180]),(.str [38]),(.str [38]),(.str [8736]),(.str [8736]),(.str [61,8421]),(.str [169]),(.str [169]),(.str [233]),(.str [233]),(.str [189]),(.str [189]),(.str [62]),(.str [62]),(.str [60]),(.str [60]),(.str [160]),(.str [160]),(.str [172]),(.str [172]),(.str [8713]),(.str [8716]),(.str [182]),(.str [182]),(.str [8741]),(.str [34]),(.str [34]),(.str [185]),(.str [185]),(.str [178]),(.str [178]),(.str [8835]),(.str [215]),(.str [215]),(.str [8864])])
noncomputable def XY:Mine.V:=(.list [(.str [65,77,80]),(.str [65,77,80,59]),(.str [69,97,99,117,116,101]),(.str [69,97,99,117,116,101,59]),(.str [77,111,112,102,59]),(.str [97,99,59]),(.str [97,99,69,59]),(.str [97,99,117,116,101]),(.str [97,99,117,116,101,59]),(.str [97,109,112]),(.str [97,109,112,59]),(.str [97,110,103,59]),(.str [97,110,103,108,101,59]),(.str [98,110,101,59]),(.str [99,111,112,121]),(.str [99,111,112,121,59]),(.str [101,97,99,117,116,101]),(.str [101,97,99,117,116,101,59]),(.str [102,114,97,99,49,50]),(.str [102,114,97,99,49,50,59]),(.str [103,116]),(.str [103,116,59]),(.str [108,116]),(.str [108,116,59]),(.str [110,98,115,112]),(.str [110,98,115,112,59]),(.str [110,111,116]),(.str [110,111,116,59]),(.str [110,111,116,105,110,59]),(.str [110,111,116,110,105,59]),(.str [112,97,114,97]),(.str [112,97,114,97,59]),(.str [112,97,114,97,108,108,101,108,59]),(.str [113,117,111,116]),(.str [113,117,111,116,59]),(.str [115,117,112,49]),(.str [115,117,112,49,59]),(.str [115,117,112,50]),(.str [115,117,112,50,59]),(.str [115,117,112,59]),(.str [116,105,109,101,115]),(.str [116,105,109,101,115,59]),(.str [116,105,109,101,115,98,59])])
noncomputable def KZ:Mine.V:=(.tup [(.int 0),(.int 43)])
noncomputable def D3:Mine.V:=(.tup [(.str [48]),(.str [49]),(.str [50]),(.str [51]),(.str [52]),(.str [53]),(.str [54]),(.str [55]),(.str [56]),(.str [57])])
noncomputable def Xy:Mine.V:=(.str [97,98,99,100,101,102,103,104,105,106,107,108,109,110,111,112,113,114,115,116,117,118,119,120,121,122,65,66,67,68,69,70,71,72,73,74,75,76,77,78,79,80,81,82,83,84,85,86,87,88,89,90])
noncomputable def Tu:MFun:=
  { ps:=[0,1],ds:=[],body:=[.asgA (.loc 0) 1 0 (.loc 1),
      .asgA (.loc 0) 2 0 (.k (.int 0))] }
noncomputable def Tt:MFun:=
  { ps:=[0,3],ds:=[],body:=[.asg 4 (.sl (.attr (.loc 0) 1 0) (.attr (.loc 0) 2 0) (.bop .add (.attr (.loc 0) 2 0) (.loc 3))),
      .augA (.loc 0) 2 0 .add (.bi .len [(.loc 4)]),
      .ret (.loc 4)] }
noncomputable def Th:MFun:=
  { ps:=[5],ds:=[],body:=[.ret (.or (.cmp2 .le .le (.k (.int 1)) (.loc 5) (.k (.int 8))) (.or (.cmp .eq (.loc 5) (.k (.int 11))) (.or (.cmp2 .le .le (.k (.int 14)) (.loc 5) (.k (.int 31))) (.or (.cmp2 .le .le (.k (.int 127)) (.loc 5) (.k (.int 159))) (.or (.cmp2 .le .le (.k (.int 64976)) (.loc 5) (.k (.int 65007))) (.or (.cmp .inn (.bop .mod (.loc 5) (.k (.int 65536))) (.tup [(.k (.int 65534)),(.k (.int 65535))])) (.cmp2 .le .le (.k (.int 55296)) (.loc 5) (.k (.int 57343)))))))))] }
noncomputable def I9:MFun:=
  { ps:=[0,6],ds:=[],body:=[.asgA (.loc 0) 7 1 (.bm (.loc 0) 8 1 0),
      .asgA (.loc 0) 9 1 (.lst [(.k (.int 0))] .tmp),
      .asgA (.loc 0) 10 1 (.mcall (.loc 0) 11 1 1 [(.loc 6)]),
      .ex (.mcall (.loc 0) 12 1 2 [])] }
noncomputable def I8:MFun:=
  { ps:=[0],ds:=[],body:=[.asgA (.loc 0) 13 1 (.k (.str [])),
      .asgA (.loc 0) 14 1 (.k (.int 0)),
      .asgA (.loc 0) 15 1 (.k (.int 0)),
      .asgA (.loc 0) 16 1 (.lst [] .tmp),
      .asgA (.loc 0) 17 1 (.k (.int 0)),
      .asgA (.loc 0) 18 1 (.k (.int 0)),
      .asgA (.loc 0) 19 1 (.k .none)] }
noncomputable def Iy:MFun:=
  { ps:=[0,6],ds:=[],body:=[.asg 20 (.new 0 3 [(.loc 6)] .tmp),
      .ret (.loc 20)] }
noncomputable def I4:MFun:=
  { ps:=[0,21],ds:=[],body:=[.asg 13 (.attr (.loc 0) 13 1),
      .asg 22 (.sm .count (.loc 13) [(.k (.str [10])),(.k (.int 0)),(.loc 21)]),
      .asg 23 (.bop .add (.attr (.loc 0) 17 1) (.loc 22)),
      .asg 24 (.sm .rfind (.loc 13) [(.k (.str [10])),(.k (.int 0)),(.loc 21)]),
      .iff (.cmp .eq (.loc 24) (.neg (.k (.int 1)))) [.asg 25 (.bop .add (.attr (.loc 0) 18 1) (.loc 21))] [.asg 25 (.bop .sub (.loc 21) (.bop .add (.loc 24) (.k (.int 1))))],
      .ret (.tup [(.loc 23),(.loc 25)])] }
noncomputable def I2:MFun:=
  { ps:=[0],ds:=[],body:=[.asgT [124,125] (.mcall (.loc 0) 29 1 5 [(.attr (.loc 0) 15 1)]),
      .ret (.tup [(.bop .add (.loc 124) (.k (.int 1))),(.loc 125)])] }
noncomputable def TB:MFun:=
  { ps:=[0],ds:=[],body:=[.iff (.cmp .ge (.attr (.loc 0) 15 1) (.attr (.loc 0) 14 1)) [.iff (.not (.mcall (.loc 0) 26 1 4 [])) [.ret (.glob .none)] []] [],
      .asg 15 (.attr (.loc 0) 15 1),
      .asg 27 (.sub (.attr (.loc 0) 13 1) (.loc 15)),
      .asgA (.loc 0) 15 1 (.bop .add (.loc 15) (.k (.int 1))),
      .ret (.loc 27)] }
noncomputable def Iz:MFun:=
  { ps:=[0,14],ds:=[.none],body:=[.iff (.cmp .is (.loc 14) (.k .none)) [.asg 14 (.cat (.loc 0) 28 1 10240)] [],
      .asgTA (.loc 0) 17 1 (.loc 0) 18 1 (.mcall (.loc 0) 29 1 5 [(.attr (.loc 0) 14 1)]),
      .asgA (.loc 0) 13 1 (.k (.str [])),
      .asgA (.loc 0) 14 1 (.k (.int 0)),
      .asgA (.loc 0) 15 1 (.k (.int 0)),
      .asg 30 (.mcall (.attr (.loc 0) 10 1) 31 0 6 [(.loc 14)]),
      .iff (.attr (.loc 0) 19 1) [.dead,.dead] [.iff (.not (.loc 30)) [.ret (.k (.bool false))] []],
      .iff (.cmp .gt (.bi .len [(.loc 30)]) (.k (.int 1))) [.asg 32 (.bi .ord [(.sub (.loc 30) (.neg (.k (.int 1))))]),
      .iff (.or (.cmp .eq (.loc 32) (.k (.int 13))) (.cmp2 .le .le (.k (.int 55296)) (.loc 32) (.k (.int 56319)))) [.dead,.dead] []] [],
      .iff (.attr (.loc 0) 7 1) [.ex (.fcall (.loc 0) 7 1 [(.loc 30)])] [],
      .asg 30 (.sm .replace (.loc 30) [(.k (.str [13,10])),(.k (.str [10]))]),
      .asg 30 (.sm .replace (.loc 30) [(.k (.str [13])),(.k (.str [10]))]),
      .asgA (.loc 0) 13 1 (.loc 30),
      .asgA (.loc 0) 14 1 (.bi .len [(.loc 30)]),
      .ret (.k (.bool true))] }
noncomputable def Iq:MFun:=
  { ps:=[0,30],ds:=[],body:=[.for 33 (.loc 30) [.iff (.call 7 [(.bi .ord [(.loc 33)])]) [.ex (.app (.attr (.loc 0) 16 1) (.k (.str [105,110,118,97,108,105,100,45,99,111,100,101,112,111,105,110,116])))] []]] }
noncomputable def Xu:MFun:=
  { ps:=[0,34,35],ds:=[(.bool false)],body:=[.asg 36 (.lst [] .tmp),
      .whl (.k (.bool true)) [.asg 37 (.attr (.loc 0) 15 1),
      .whl (.and (.cmp .ne (.loc 37) (.attr (.loc 0) 14 1)) (.cmp .eq (.cmp .inn (.sub (.attr (.loc 0) 13 1) (.loc 37)) (.loc 34)) (.loc 35))) [.augN 37 .add (.k (.int 1))],
      .iff (.cmp .eq (.loc 37) (.attr (.loc 0) 15 1)) [.iff (.cmp .ne (.attr (.loc 0) 15 1) (.attr (.loc 0) 14 1)) [.brk] []] [.iff (.cmp .ne (.loc 37) (.attr (.loc 0) 14 1)) [.ex (.app (.loc 36) (.sl (.attr (.loc 0) 13 1) (.attr (.loc 0) 15 1) (.loc 37))),
      .asgA (.loc 0) 15 1 (.loc 37),
      .brk] []],
      .ex (.app (.loc 36) (.sl (.attr (.loc 0) 13 1) (.attr (.loc 0) 15 1) (.k .none))),
      .iff (.not (.mcall (.loc 0) 26 1 4 [])) [.brk] []],
      .asg 38 (.sm .join (.k (.str [])) [(.loc 36)]),
      .ret (.loc 38)] }
noncomputable def I7:MFun:=
  { ps:=[0,27],ds:=[],body:=[.iff (.cmp .isn (.loc 27) (.glob .none)) [.iff (.cmp .eq (.attr (.loc 0) 15 1) (.k (.int 0))) [.asgA (.loc 0) 13 1 (.bop .add (.loc 27) (.attr (.loc 0) 13 1)),
      .augA (.loc 0) 14 1 .add (.k (.int 1))] [.augA (.loc 0) 15 1 .sub (.k (.int 1)),
      .asrt (.cmp .eq (.sub (.attr (.loc 0) 13 1) (.attr (.loc 0) 15 1)) (.loc 27))]] []] }
noncomputable def Ti:MFun:=
  { ps:=[1],ds:=[],body:=[.ret (.sm .join (.k (.str [])) [(.comp (.ite (.cmp2 .le .le (.k (.str [65])) (.loc 33) (.k (.str [90]))) (.bi .chr [(.bop .add (.bi .ord [(.loc 33)]) (.k (.int 32)))]) (.loc 33)) 33 (.loc 1) (.k (.bool true)))])] }
noncomputable def Tb:MFun:=
  { ps:=[126,111,127,128],ds:=[(.int 0),.none],body:=[.iff (.cmp .is (.loc 128) (.k .none)) [.asg 128 (.bi .len [(.loc 126)])] [],
      .whl (.cmp .lt (.loc 127) (.loc 128)) [.asg 129 (.bop .fdiv (.bop .add (.loc 127) (.loc 128)) (.k (.int 2))),
      .iff (.cmp .lt (.sub (.loc 126) (.loc 129)) (.loc 111)) [.asg 127 (.bop .add (.loc 129) (.k (.int 1)))] [.asg 128 (.loc 129)]],
      .ret (.loc 127)] }
noncomputable def TO:MFun:=
  { ps:=[0,111],ds:=[],body:=[.ret (.cmp .inn (.loc 111) (.fat (.loc 0) 130 US))] }
noncomputable def TF:MFun:=
  { ps:=[0,131],ds:=[],body:=[.iff (.cmp .inn (.loc 131) (.fat (.loc 0) 130 US)) [.ret (.k (.bool true))] [],
      .iff (.sm .startswith (.loc 131) [(.fat (.loc 0) 132 (.str []))]) [.asgT [133,134] (.fat (.loc 0) 135 KZ),
      .asg 136 (.call 53 [(.fat (.loc 0) 137 XY),(.loc 131),(.loc 133),(.loc 134)])] [.dead],
      .iff (.cmp .eq (.loc 136) (.bi .len [(.fat (.loc 0) 137 XY)])) [.ret (.k (.bool false))] [],
      .ret (.sm .startswith (.sub (.fat (.loc 0) 137 XY) (.loc 136)) [(.loc 131)])] }
noncomputable def TI:MFun:=
  { ps:=[0,131],ds:=[],body:=[.iff (.inf (.loc 131) (.loc 0) 54) [.ret (.loc 131)] [],
      .dead,
      .dead] }
noncomputable def TJ:MFun:=
  { ps:=[0,20,39],ds:=[.none],body:=[.asgA (.loc 0) 20 3 (.new 1 8 [(.loc 20)] .tmp),
      .asgA (.loc 0) 39 3 (.loc 39),
      .asgA (.loc 0) 40 3 (.k (.bool false)),
      .asgA (.loc 0) 41 3 (.lst [] .tmp),
      .asgA (.loc 0) 42 3 (.bm (.loc 0) 43 3 9),
      .asgA (.loc 0) 44 3 (.k (.bool false)),
      .asgA (.loc 0) 45 3 (.k .none)] }
noncomputable def I5:MFun:=
  { ps:=[0],ds:=[],body:=[.asg 83 (.attr (.loc 0) 45 3),
      .iff (.cmp .inn (.sub (.loc 83) (.k (.str [116,121,112,101]))) (.glob BR)) [.asgS (.loc 83) (.k (.str [110,97,109,101])) (.call 34 [(.sub (.loc 83) (.k (.str [110,97,109,101])))]),
      .iff (.cmp .eq (.sub (.loc 83) (.k (.str [116,121,112,101]))) (.sub (.glob JR) (.k (.str [83,116,97,114,116,84,97,103])))) [.dead,.dead,.dead,.dead] [],
      .iff (.cmp .eq (.sub (.loc 83) (.k (.str [116,121,112,101]))) (.sub (.glob JR) (.k (.str [69,110,100,84,97,103])))) [.iff (.sub (.loc 83) (.k (.str [100,97,116,97]))) [.ex (.app (.attr (.loc 0) 48 3) (.dct [[116,121,112,101],[100,97,116,97]] [(.sub (.glob JR) (.k (.str [80,97,114,115,101,69,114,114,111,114]))),(.k (.str [97,116,116,114,105,98,117,116,101,115,45,105,110,45,101,110,100,45,116,97,103]))] .frz))] [],
      .iff (.sub (.loc 83) (.k (.str [115,101,108,102,67,108,111,115,105,110,103]))) [.ex (.app (.attr (.loc 0) 48 3) (.dct [[116,121,112,101],[100,97,116,97]] [(.sub (.glob JR) (.k (.str [80,97,114,115,101,69,114,114,111,114]))),(.k (.str [115,101,108,102,45,99,108,111,115,105,110,103,45,102,108,97,103,45,111,110,45,101,110,100,45,116,97,103]))] .frz))] []] []] [],
      .ex (.app (.attr (.loc 0) 48 3) (.loc 83)),
      .asgA (.loc 0) 42 3 (.bm (.loc 0) 43 3 9)] }
noncomputable def TC:MFun:=
  { ps:=[0,138,139],ds:=[.none,(.bool false)],body:=[.asg 140 (.k (.str [38])),
      .asg 56 (.lst [(.mcall (.attr (.loc 0) 20 3) 27 1 10 [])] .tmp),
      .iff (.or (.cmp .inn (.sub (.loc 56) (.k (.int 0))) (.glob QL)) (.or (.cmp .inn (.sub (.loc 56) (.k (.int 0))) (.tup [(.glob .none),(.k (.str [60])),(.k (.str [38]))])) (.and (.cmp .isn (.loc 138) (.k .none)) (.cmp .eq (.loc 138) (.sub (.loc 56) (.k (.int 0))))))) [.dead] [.iff (.cmp .eq (.sub (.loc 56) (.k (.int 0))) (.k (.str [35]))) [.dead,.dead,.dead,.dead] [.whl (.cmp .isn (.sub (.loc 56) (.neg (.k (.int 1)))) (.glob .none)) [.iff (.not (.fmc (.glob (.fn 0)) 141 55 [(.sm .join (.k (.str [])) [(.loc 56)])])) [.brk] [],
      .ex (.app (.loc 56) (.mcall (.attr (.loc 0) 20 3) 27 1 10 []))],
      .tryS [.asg 142 (.fmc (.glob (.fn 0)) 143 56 [(.sm .join (.k (.str [])) [(.sl (.loc 56) (.k .none) (.neg (.k (.int 1))))])]),
      .asg 144 (.bi .len [(.loc 142)])],
      .iff (.cmp .isn (.loc 142) (.k .none)) [.iff (.cmp .ne (.sub (.loc 142) (.neg (.k (.int 1)))) (.k (.str [59]))) [.dead] [],
      .iff (.and (.cmp .ne (.sub (.loc 142) (.neg (.k (.int 1)))) (.k (.str [59]))) (.and (.loc 139) (.or (.cmp .inn (.sub (.loc 56) (.loc 144)) (.glob Qd)) (.or (.cmp .inn (.sub (.loc 56) (.loc 144)) (.glob D3)) (.cmp .eq (.sub (.loc 56) (.loc 144)) (.k (.str [61]))))))) [.dead,.dead] [.asg 140 (.sub (.glob US) (.loc 142)),
      .ex (.mcall (.attr (.loc 0) 20 3) 54 1 17 [(.pop (.loc 56) [])]),
      .augN 140 .add (.sm .join (.k (.str [])) [(.sl (.loc 56) (.loc 144) (.k .none))])]] [.dead,.dead,.dead]]],
      .iff (.loc 139) [.dead] [.iff (.cmp .inn (.loc 140) (.glob QL)) [.dead] [.asg 145 (.k (.str [67,104,97,114,97,99,116,101,114,115]))],
      .ex (.app (.attr (.loc 0) 48 3) (.dct [[116,121,112,101],[100,97,116,97]] [(.sub (.glob JR) (.loc 145)),(.loc 140)] .frz))]] }
noncomputable def TH:MFun:=
  { ps:=[0],ds:=[],body:=[.asg 30 (.mcall (.attr (.loc 0) 20 3) 27 1 10 []),
      .iff (.cmp .eq (.loc 30) (.k (.str [38]))) [.asgA (.loc 0) 42 3 (.bm (.loc 0) 46 3 11)] [.iff (.cmp .eq (.loc 30) (.k (.str [60]))) [.dead] [.iff (.cmp .eq (.loc 30) (.k (.str [0]))) [.ex (.app (.attr (.loc 0) 48 3) (.dct [[116,121,112,101],[100,97,116,97]] [(.sub (.glob JR) (.k (.str [80,97,114,115,101,69,114,114,111,114]))),(.k (.str [105,110,118,97,108,105,100,45,99,111,100,101,112,111,105,110,116]))] .frz)),
      .ex (.app (.attr (.loc 0) 48 3) (.dct [[116,121,112,101],[100,97,116,97]] [(.sub (.glob JR) (.k (.str [67,104,97,114,97,99,116,101,114,115]))),(.k (.str [0]))] .frz))] [.iff (.cmp .is (.loc 30) (.glob .none)) [.ret (.k (.bool false))] [.iff (.cmp .inn (.loc 30) (.glob QL)) [.ex (.app (.attr (.loc 0) 48 3) (.dct [[116,121,112,101],[100,97,116,97]] [(.sub (.glob JR) (.k (.str [83,112,97,99,101,67,104,97,114,97,99,116,101,114,115]))),(.bop .add (.loc 30) (.mcall (.attr (.loc 0) 20 3) 49 1 13 [(.glob QL),(.k (.bool true))]))] .frz))] [.asg 50 (.mcall (.attr (.loc 0) 20 3) 49 1 13 [(.tup [(.k (.str [38])),(.k (.str [60])),(.k (.str [0]))])]),
      .ex (.app (.attr (.loc 0) 48 3) (.dct [[116,121,112,101],[100,97,116,97]] [(.sub (.glob JR) (.k (.str [67,104,97,114,97,99,116,101,114,115]))),(.bop .add (.loc 30) (.loc 50))] .frz))]]]]],
      .ret (.k (.bool true))] }
noncomputable def I6:MFun:=
  { ps:=[0],ds:=[],body:=[.ex (.mcall (.loc 0) 146 3 57 []),
      .asgA (.loc 0) 42 3 (.bm (.loc 0) 43 3 9),
      .ret (.k (.bool true))] }
noncomputable def TD:MFun:=
  { ps:=[0],ds:=[],body:=[.asg 30 (.mcall (.attr (.loc 0) 20 3) 27 1 10 []),
      .iff (.cmp .eq (.loc 30) (.k (.str [60]))) [.asgA (.loc 0) 42 3 (.bm (.loc 0) 147 3 58)] [.iff (.cmp .eq (.loc 30) (.k (.str [0]))) [.ex (.app (.attr (.loc 0) 48 3) (.dct [[116,121,112,101],[100,97,116,97]] [(.sub (.glob JR) (.k (.str [80,97,114,115,101,69,114,114,111,114]))),(.k (.str [105,110,118,97,108,105,100,45,99,111,100,101,112,111,105,110,116]))] .frz)),
      .ex (.app (.attr (.loc 0) 48 3) (.dct [[116,121,112,101],[100,97,116,97]] [(.sub (.glob JR) (.k (.str [67,104,97,114,97,99,116,101,114,115]))),(.k (.str [65533]))] .frz))] [.iff (.cmp .eq (.loc 30) (.glob .none)) [.ret (.k (.bool false))] [.asg 50 (.mcall (.attr (.loc 0) 20 3) 49 1 13 [(.tup [(.k (.str [60])),(.k (.str [0]))])]),
      .ex (.app (.attr (.loc 0) 48 3) (.dct [[116,121,112,101],[100,97,116,97]] [(.sub (.glob JR) (.k (.str [67,104,97,114,97,99,116,101,114,115]))),(.bop .add (.loc 30) (.loc 50))] .frz))]]],
      .ret (.k (.bool true))] }
noncomputable def Iu:MFun:=
  { ps:=[0],ds:=[],body:=[.asg 30 (.mcall (.attr (.loc 0) 20 3) 27 1 10 []),
      .iff (.cmp .eq (.loc 30) (.k (.str [47]))) [.asgA (.loc 0) 148 3 (.k (.str [])),
      .asgA (.loc 0) 42 3 (.bm (.loc 0) 149 3 59)] [.ex (.app (.attr (.loc 0) 48 3) (.dct [[116,121,112,101],[100,97,116,97]] [(.sub (.glob JR) (.k (.str [67,104,97,114,97,99,116,101,114,115]))),(.k (.str [60]))] .frz)),
      .ex (.mcall (.attr (.loc 0) 20 3) 54 1 17 [(.loc 30)]),
      .asgA (.loc 0) 42 3 (.bm (.loc 0) 150 3 60)],
      .ret (.k (.bool true))] }
noncomputable def Ix:MFun:=
  { ps:=[0],ds:=[],body:=[.asg 30 (.mcall (.attr (.loc 0) 20 3) 27 1 10 []),
      .iff (.cmp .inn (.loc 30) (.glob Qd)) [.augA (.loc 0) 148 3 .add (.loc 30),
      .asgA (.loc 0) 42 3 (.bm (.loc 0) 151 3 61)] [.ex (.app (.attr (.loc 0) 48 3) (.dct [[116,121,112,101],[100,97,116,97]] [(.sub (.glob JR) (.k (.str [67,104,97,114,97,99,116,101,114,115]))),(.k (.str [60,47]))] .frz)),
      .ex (.mcall (.attr (.loc 0) 20 3) 54 1 17 [(.loc 30)]),
      .asgA (.loc 0) 42 3 (.bm (.loc 0) 150 3 60)],
      .ret (.k (.bool true))] }
noncomputable def OV:MFun:=
  { ps:=[0],ds:=[],body:=[.asg 152 (.and (.attr (.loc 0) 45 3) (.cmp .eq (.sm .lower (.sub (.attr (.loc 0) 45 3) (.k (.str [110,97,109,101]))) []) (.sm .lower (.attr (.loc 0) 148 3) []))),
      .asg 30 (.mcall (.attr (.loc 0) 20 3) 27 1 10 []),
      .iff (.and (.cmp .inn (.loc 30) (.glob QL)) (.loc 152)) [.asgA (.loc 0) 45 3 (.dct [[116,121,112,101],[110,97,109,101],[100,97,116,97],[115,101,108,102,67,108,111,115,105,110,103]] [(.sub (.glob JR) (.k (.str [69,110,100,84,97,103]))),(.attr (.loc 0) 148 3),(.lst [] (.per 2)),(.k (.bool false))] (.per 0)),
      .asgA (.loc 0) 42 3 (.bm (.loc 0) 153 3 62)] [.iff (.and (.cmp .eq (.loc 30) (.k (.str [47]))) (.loc 152)) [.asgA (.loc 0) 45 3 (.dct [[116,121,112,101],[110,97,109,101],[100,97,116,97],[115,101,108,102,67,108,111,115,105,110,103]] [(.sub (.glob JR) (.k (.str [69,110,100,84,97,103]))),(.attr (.loc 0) 148 3),(.lst [] (.per 2)),(.k (.bool false))] (.per 0)),
      .asgA (.loc 0) 42 3 (.bm (.loc 0) 154 3 63)] [.iff (.and (.cmp .eq (.loc 30) (.k (.str [62]))) (.loc 152)) [.asgA (.loc 0) 45 3 (.dct [[116,121,112,101],[110,97,109,101],[100,97,116,97],[115,101,108,102,67,108,111,115,105,110,103]] [(.sub (.glob JR) (.k (.str [69,110,100,84,97,103]))),(.attr (.loc 0) 148 3),(.lst [] (.per 2)),(.k (.bool false))] (.per 0)),
      .ex (.mcall (.loc 0) 155 3 64 []),
      .asgA (.loc 0) 42 3 (.bm (.loc 0) 43 3 9)] [.iff (.cmp .inn (.loc 30) (.glob Qd)) [.augA (.loc 0) 148 3 .add (.loc 30)] [.ex (.app (.attr (.loc 0) 48 3) (.dct [[116,121,112,101],[100,97,116,97]] [(.sub (.glob JR) (.k (.str [67,104,97,114,97,99,116,101,114,115]))),(.bop .add (.k (.str [60,47])) (.attr (.loc 0) 148 3))] .frz)),
      .ex (.mcall (.attr (.loc 0) 20 3) 54 1 17 [(.loc 30)]),
      .asgA (.loc 0) 42 3 (.bm (.loc 0) 150 3 60)]]]],
      .ret (.k (.bool true))] }
noncomputable def Iv:MFun:=
  { ps:=[0],ds:=[],body:=[.asg 30 (.mcall (.attr (.loc 0) 20 3) 27 1 10 []),
      .iff (.cmp .inn (.loc 30) (.glob QL)) [.ex (.mcall (.attr (.loc 0) 20 3) 49 1 13 [(.glob QL),(.k (.bool true))])] [.iff (.cmp .inn (.loc 30) (.glob Qd)) [.ex (.app (.sub (.attr (.loc 0) 45 3) (.k (.str [100,97,116,97]))) (.lst [(.loc 30),(.k (.str []))] (.per 1))),
      .asgA (.loc 0) 42 3 (.bm (.loc 0) 156 3 65)] [.iff (.cmp .eq (.loc 30) (.k (.str [62]))) [.ex (.mcall (.loc 0) 155 3 64 [])] [.iff (.cmp .eq (.loc 30) (.k (.str [47]))) [.asgA (.loc 0) 42 3 (.bm (.loc 0) 154 3 63)] [.iff (.cmp .inn (.loc 30) (.tup [(.k (.str [39])),(.k (.str [34])),(.k (.str [61])),(.k (.str [60]))])) [.ex (.app (.attr (.loc 0) 48 3) (.dct [[116,121,112,101],[100,97,116,97]] [(.sub (.glob JR) (.k (.str [80,97,114,115,101,69,114,114,111,114]))),(.k (.str [105,110,118,97,108,105,100,45,99,104,97,114,97,99,116,101,114,45,105,110,45,97,116,116,114,105,98,117,116,101,45,110,97,109,101]))] .frz)),
      .ex (.app (.sub (.attr (.loc 0) 45 3) (.k (.str [100,97,116,97]))) (.lst [(.loc 30),(.k (.str []))] (.per 1))),
      .asgA (.loc 0) 42 3 (.bm (.loc 0) 156 3 65)] [.iff (.cmp .eq (.loc 30) (.k (.str [0]))) [.ex (.app (.attr (.loc 0) 48 3) (.dct [[116,121,112,101],[100,97,116,97]] [(.sub (.glob JR) (.k (.str [80,97,114,115,101,69,114,114,111,114]))),(.k (.str [105,110,118,97,108,105,100,45,99,111,100,101,112,111,105,110,116]))] .frz)),
      .ex (.app (.sub (.attr (.loc 0) 45 3) (.k (.str [100,97,116,97]))) (.lst [(.k (.str [65533])),(.k (.str []))] (.per 1))),
      .asgA (.loc 0) 42 3 (.bm (.loc 0) 156 3 65)] [.iff (.cmp .is (.loc 30) (.glob .none)) [.ex (.app (.attr (.loc 0) 48 3) (.dct [[116,121,112,101],[100,97,116,97]] [(.sub (.glob JR) (.k (.str [80,97,114,115,101,69,114,114,111,114]))),(.k (.str [101,120,112,101,99,116,101,100,45,97,116,116,114,105,98,117,116,101,45,110,97,109,101,45,98,117,116,45,103,111,116,45,101,111,102]))] .frz)),
      .asgA (.loc 0) 42 3 (.bm (.loc 0) 43 3 9)] [.ex (.app (.sub (.attr (.loc 0) 45 3) (.k (.str [100,97,116,97]))) (.lst [(.loc 30),(.k (.str []))] (.per 1))),
      .asgA (.loc 0) 42 3 (.bm (.loc 0) 156 3 65)]]]]]]],
      .ret (.k (.bool true))] }
noncomputable def OW:MFun:=
  { ps:=[0],ds:=[],body:=[.asg 30 (.mcall (.attr (.loc 0) 20 3) 27 1 10 []),
      .asg 157 (.k (.bool true)),
      .asg 158 (.k (.bool false)),
      .iff (.cmp .eq (.loc 30) (.k (.str [61]))) [.dead] [.iff (.cmp .inn (.loc 30) (.glob Qd)) [.augS (.sub (.sub (.attr (.loc 0) 45 3) (.k (.str [100,97,116,97]))) (.neg (.k (.int 1)))) (.k (.int 0)) .add (.bop .add (.loc 30) (.mcall (.attr (.loc 0) 20 3) 49 1 13 [(.glob Qd),(.k (.bool true))])),
      .asg 157 (.k (.bool false))] [.iff (.cmp .eq (.loc 30) (.k (.str [62]))) [.asg 158 (.k (.bool true))] [.iff (.cmp .inn (.loc 30) (.glob QL)) [.asgA (.loc 0) 42 3 (.bm (.loc 0) 159 3 66)] [.iff (.cmp .eq (.loc 30) (.k (.str [47]))) [.asgA (.loc 0) 42 3 (.bm (.loc 0) 154 3 63)] [.iff (.cmp .eq (.loc 30) (.k (.str [0]))) [.ex (.app (.attr (.loc 0) 48 3) (.dct [[116,121,112,101],[100,97,116,97]] [(.sub (.glob JR) (.k (.str [80,97,114,115,101,69,114,114,111,114]))),(.k (.str [105,110,118,97,108,105,100,45,99,111,100,101,112,111,105,110,116]))] .frz)),
      .augS (.sub (.sub (.attr (.loc 0) 45 3) (.k (.str [100,97,116,97]))) (.neg (.k (.int 1)))) (.k (.int 0)) .add (.k (.str [65533])),
      .asg 157 (.k (.bool false))] [.iff (.cmp .inn (.loc 30) (.tup [(.k (.str [39])),(.k (.str [34])),(.k (.str [60]))])) [.ex (.app (.attr (.loc 0) 48 3) (.dct [[116,121,112,101],[100,97,116,97]] [(.sub (.glob JR) (.k (.str [80,97,114,115,101,69,114,114,111,114]))),(.k (.str [105,110,118,97,108,105,100,45,99,104,97,114,97,99,116,101,114,45,105,110,45,97,116,116,114,105,98,117,116,101,45,110,97,109,101]))] .frz)),
      .augS (.sub (.sub (.attr (.loc 0) 45 3) (.k (.str [100,97,116,97]))) (.neg (.k (.int 1)))) (.k (.int 0)) .add (.loc 30),
      .asg 157 (.k (.bool false))] [.iff (.cmp .is (.loc 30) (.glob .none)) [.ex (.app (.attr (.loc 0) 48 3) (.dct [[116,121,112,101],[100,97,116,97]] [(.sub (.glob JR) (.k (.str [80,97,114,115,101,69,114,114,111,114]))),(.k (.str [101,111,102,45,105,110,45,97,116,116,114,105,98,117,116,101,45,110,97,109,101]))] .frz)),
      .asgA (.loc 0) 42 3 (.bm (.loc 0) 43 3 9)] [.augS (.sub (.sub (.attr (.loc 0) 45 3) (.k (.str [100,97,116,97]))) (.neg (.k (.int 1)))) (.k (.int 0)) .add (.loc 30),
      .asg 157 (.k (.bool false))]]]]]]]],
      .iff (.loc 157) [.asgS (.sub (.sub (.attr (.loc 0) 45 3) (.k (.str [100,97,116,97]))) (.neg (.k (.int 1)))) (.k (.int 0)) (.call 34 [(.sub (.sub (.sub (.attr (.loc 0) 45 3) (.k (.str [100,97,116,97]))) (.neg (.k (.int 1)))) (.k (.int 0)))]),
      .forT [66,160] (.sl (.sub (.attr (.loc 0) 45 3) (.k (.str [100,97,116,97]))) (.k .none) (.neg (.k (.int 1)))) [.iff (.cmp .eq (.sub (.sub (.sub (.attr (.loc 0) 45 3) (.k (.str [100,97,116,97]))) (.neg (.k (.int 1)))) (.k (.int 0))) (.loc 66)) [.ex (.app (.attr (.loc 0) 48 3) (.dct [[116,121,112,101],[100,97,116,97]] [(.sub (.glob JR) (.k (.str [80,97,114,115,101,69,114,114,111,114]))),(.k (.str [100,117,112,108,105,99,97,116,101,45,97,116,116,114,105,98,117,116,101]))] .frz)),
      .brk] []],
      .iff (.loc 158) [.ex (.mcall (.loc 0) 155 3 64 [])] []] [],
      .ret (.k (.bool true))] }
noncomputable def Iw:MFun:=
  { ps:=[0],ds:=[],body:=[.asg 30 (.mcall (.attr (.loc 0) 20 3) 27 1 10 []),
      .iff (.cmp .inn (.loc 30) (.glob QL)) [.ex (.mcall (.attr (.loc 0) 20 3) 49 1 13 [(.glob QL),(.k (.bool true))])] [.iff (.cmp .eq (.loc 30) (.k (.str [61]))) [.dead] [.iff (.cmp .eq (.loc 30) (.k (.str [62]))) [.ex (.mcall (.loc 0) 155 3 64 [])] [.iff (.cmp .inn (.loc 30) (.glob Qd)) [.ex (.app (.sub (.attr (.loc 0) 45 3) (.k (.str [100,97,116,97]))) (.lst [(.loc 30),(.k (.str []))] (.per 1))),
      .asgA (.loc 0) 42 3 (.bm (.loc 0) 156 3 65)] [.iff (.cmp .eq (.loc 30) (.k (.str [47]))) [.asgA (.loc 0) 42 3 (.bm (.loc 0) 154 3 63)] [.iff (.cmp .eq (.loc 30) (.k (.str [0]))) [.ex (.app (.attr (.loc 0) 48 3) (.dct [[116,121,112,101],[100,97,116,97]] [(.sub (.glob JR) (.k (.str [80,97,114,115,101,69,114,114,111,114]))),(.k (.str [105,110,118,97,108,105,100,45,99,111,100,101,112,111,105,110,116]))] .frz)),
      .ex (.app (.sub (.attr (.loc 0) 45 3) (.k (.str [100,97,116,97]))) (.lst [(.k (.str [65533])),(.k (.str []))] (.per 1))),
      .asgA (.loc 0) 42 3 (.bm (.loc 0) 156 3 65)] [.iff (.cmp .inn (.loc 30) (.tup [(.k (.str [39])),(.k (.str [34])),(.k (.str [60]))])) [.ex (.app (.attr (.loc 0) 48 3) (.dct [[116,121,112,101],[100,97,116,97]] [(.sub (.glob JR) (.k (.str [80,97,114,115,101,69,114,114,111,114]))),(.k (.str [105,110,118,97,108,105,100,45,99,104,97,114,97,99,116,101,114,45,97,102,116,101,114,45,97,116,116,114,105,98,117,116,101,45,110,97,109,101]))] .frz)),
      .ex (.app (.sub (.attr (.loc 0) 45 3) (.k (.str [100,97,116,97]))) (.lst [(.loc 30),(.k (.str []))] (.per 1))),
      .asgA (.loc 0) 42 3 (.bm (.loc 0) 156 3 65)] [.iff (.cmp .is (.loc 30) (.glob .none)) [.ex (.app (.attr (.loc 0) 48 3) (.dct [[116,121,112,101],[100,97,116,97]] [(.sub (.glob JR) (.k (.str [80,97,114,115,101,69,114,114,111,114]))),(.k (.str [101,120,112,101,99,116,101,100,45,101,110,100,45,111,102,45,116,97,103,45,98,117,116,45,103,111,116,45,101,111,102]))] .frz)),
      .asgA (.loc 0) 42 3 (.bm (.loc 0) 43 3 9)] [.ex (.app (.sub (.attr (.loc 0) 45 3) (.k (.str [100,97,116,97]))) (.lst [(.loc 30),(.k (.str []))] (.per 1))),
      .asgA (.loc 0) 42 3 (.bm (.loc 0) 156 3 65)]]]]]]]],
      .ret (.k (.bool true))] }
noncomputable def Ir:MFun:=
  { ps:=[0],ds:=[],body:=[.asg 30 (.mcall (.attr (.loc 0) 20 3) 27 1 10 []),
      .iff (.cmp .eq (.loc 30) (.k (.str [62]))) [.asgS (.attr (.loc 0) 45 3) (.k (.str [115,101,108,102,67,108,111,115,105,110,103])) (.k (.bool true)),
      .ex (.mcall (.loc 0) 155 3 64 [])] [.iff (.cmp .is (.loc 30) (.glob .none)) [.ex (.app (.attr (.loc 0) 48 3) (.dct [[116,121,112,101],[100,97,116,97]] [(.sub (.glob JR) (.k (.str [80,97,114,115,101,69,114,114,111,114]))),(.k (.str [117,110,101,120,112,101,99,116,101,100,45,69,79,70,45,97,102,116,101,114,45,115,111,108,105,100,117,115,45,105,110,45,116,97,103]))] .frz)),
      .ex (.mcall (.attr (.loc 0) 20 3) 54 1 17 [(.loc 30)]),
      .asgA (.loc 0) 42 3 (.bm (.loc 0) 43 3 9)] [.ex (.app (.attr (.loc 0) 48 3) (.dct [[116,121,112,101],[100,97,116,97]] [(.sub (.glob JR) (.k (.str [80,97,114,115,101,69,114,114,111,114]))),(.k (.str [117,110,101,120,112,101,99,116,101,100,45,99,104,97,114,97,99,116,101,114,45,97,102,116,101,114,45,115,111,108,105,100,117,115,45,105,110,45,116,97,103]))] .frz)),
      .ex (.mcall (.attr (.loc 0) 20 3) 54 1 17 [(.loc 30)]),
      .asgA (.loc 0) 42 3 (.bm (.loc 0) 153 3 62)]],
      .ret (.k (.bool true))] }
noncomputable def Ts:MFun:=
  { ps:=[],ds:=[],body:=[.ret (.lst [(.k (.str [115,116,121,108,101])),(.k (.str [88,109,112])),(.k (.str [120,45,121])),(.k .none)] .frz)] }
noncomputable def Tr:MFun:=
  { ps:=[],ds:=[],body:=[.ret (.lst [(.tup [(.k (.str [])),(.k (.str [])),(.k (.str []))]),(.tup [(.k (.str [97])),(.k (.str [])),(.k (.str [97]))]),(.tup [(.k (.str [32,97])),(.k (.str [])),(.k (.str [32,97]))]),(.tup [(.k (.str [0])),(.k (.str [105,110,118,97,108,105,100,45,99,111,100,101,112,111,105,110,116])),(.k (.str [0]))]),(.tup [(.k (.str [38,108,116,59])),(.k (.str [])),(.k (.str [60]))])] .frz)] }
noncomputable def Tq:MFun:=
  { ps:=[66],ds:=[],body:=[.ret (.dct [[116,121,112,101],[100,97,116,97]] [(.sub (.glob JR) (.k (.str [80,97,114,115,101,69,114,114,111,114]))),(.loc 66)] .frz)] }
noncomputable def Tp:MFun:=
  { ps:=[4],ds:=[],body:=[.ret (.dct [[116,121,112,101],[100,97,116,97]] [(.sub (.glob JR) (.k (.str [67,104,97,114,97,99,116,101,114,115]))),(.loc 4)] .frz)] }
noncomputable def Xv:MFun:=
  { ps:=[161],ds:=[],body:=[.asg 126 (.lst [] (.per 50)),
      .for 83 (.loc 161) [.iff (.and (.cmp .ne (.sub (.loc 83) (.k (.str [116,121,112,101]))) (.sub (.glob JR) (.k (.str [67,104,97,114,97,99,116,101,114,115])))) (.cmp .ne (.sub (.loc 83) (.k (.str [116,121,112,101]))) (.sub (.glob JR) (.k (.str [83,112,97,99,101,67,104,97,114,97,99,116,101,114,115]))))) [.ex (.app (.loc 126) (.loc 83))] [.iff (.and (.loc 126) (.cmp .eq (.sub (.sub (.loc 126) (.neg (.k (.int 1)))) (.k (.str [116,121,112,101]))) (.sub (.glob JR) (.k (.str [67,104,97,114,97,99,116,101,114,115]))))) [.asgS (.loc 126) (.neg (.k (.int 1))) (.call 67 [(.bop .add (.sub (.sub (.loc 126) (.neg (.k (.int 1)))) (.k (.str [100,97,116,97]))) (.sub (.loc 83) (.k (.str [100,97,116,97]))))])] [.ex (.app (.loc 126) (.call 67 [(.sub (.loc 83) (.k (.str [100,97,116,97])))]))]]],
      .ret (.loc 126)] }
noncomputable def Wv:MFun:=
  { ps:=[117,107],ds:=[],body:=[.asg 71 (.lst [] (.per 51)),
      .asg 162 (.lst [] (.per 52)),
      .asg 3 (.bi .len [(.loc 117)]),
      .for 2 (.bi .range [(.bop .add (.loc 3) (.k (.int 1)))]) [.asg 163 (.loc 2),
      .whl (.and (.cmp .gt (.loc 163) (.k (.int 0))) (.cmp .eq (.sub (.loc 117) (.bop .sub (.loc 163) (.k (.int 1)))) (.k (.str [32])))) [.augN 163 .sub (.k (.int 1))],
      .asg 164 (.and (.cmp2 .lt .lt (.k (.int 0)) (.loc 163) (.loc 2)) (.cmp .ne (.sub (.loc 117) (.bop .sub (.loc 163) (.k (.int 1)))) (.k (.str [47])))),
      .asg 68 (.ite (.cmp .lt (.loc 2) (.loc 3)) (.sub (.loc 117) (.loc 2)) (.k (.str []))),
      .iff (.cmp .eq (.loc 68) (.k (.str [47]))) [.iff (.cmp .lt (.bop .add (.loc 2) (.k (.int 1))) (.loc 3)) [.ex (.app (.loc 71) (.k (.str [117,110,101,120,112,101,99,116,101,100,45,99,104,97,114,97,99,116,101,114,45,97,102,116,101,114,45,115,111,108,105,100,117,115,45,105,110,45,116,97,103])))] [.iff (.not (.loc 107)) [.ex (.app (.loc 71) (.k (.str [117,110,101,120,112,101,99,116,101,100,45,69,79,70,45,97,102,116,101,114,45,115,111,108,105,100,117,115,45,105,110,45,116,97,103])))] []]] [.iff (.and (.cmp .eq (.loc 68) (.k (.str []))) (.and (.cmp .lt (.loc 163) (.loc 2)) (.not (.loc 107)))) [.ex (.app (.loc 71) (.ite (.loc 164) (.k (.str [101,120,112,101,99,116,101,100,45,101,110,100,45,111,102,45,116,97,103,45,98,117,116,45,103,111,116,45,101,111,102])) (.k (.str [101,120,112,101,99,116,101,100,45,97,116,116,114,105,98,117,116,101,45,110,97,109,101,45,98,117,116,45,103,111,116,45,101,111,102]))))] [.iff (.and (.cmp .ne (.loc 68) (.k (.str []))) (.cmp .ne (.loc 68) (.k (.str [32])))) [.iff (.cmp .eq (.loc 68) (.k (.str [0]))) [.ex (.app (.loc 71) (.k (.str [105,110,118,97,108,105,100,45,99,111,100,101,112,111,105,110,116])))] [.iff (.cmp .eq (.loc 68) (.k (.str [60]))) [.ex (.app (.loc 71) (.bop .add (.bop .add (.k (.str [105,110,118,97,108,105,100,45,99,104,97,114,97,99,116,101,114,45])) (.ite (.loc 164) (.k (.str [97,102,116,101,114])) (.k (.str [105,110])))) (.k (.str [45,97,116,116,114,105,98,117,116,101,45,110,97,109,101]))))] []],
      .iff (.or (.cmp .eq (.bop .add (.loc 2) (.k (.int 1))) (.loc 3)) (.cmp .inn (.sub (.loc 117) (.bop .add (.loc 2) (.k (.int 1)))) (.tup [(.k (.str [32])),(.k (.str [47]))]))) [.asg 77 (.loc 2),
      .whl (.and (.cmp .gt (.loc 77) (.k (.int 0))) (.cmp .nin (.sub (.loc 117) (.bop .sub (.loc 77) (.k (.int 1)))) (.tup [(.k (.str [32])),(.k (.str [47]))]))) [.augN 77 .sub (.k (.int 1))],
      .asg 78 (.sm .replace (.sm .lower (.sl (.loc 117) (.loc 77) (.bop .add (.loc 2) (.k (.int 1)))) []) [(.k (.str [0])),(.k (.str [65533]))]),
      .iff (.and (.cmp .eq (.bop .add (.loc 2) (.k (.int 1))) (.loc 3)) (.not (.loc 107))) [.ex (.app (.loc 71) (.k (.str [101,111,102,45,105,110,45,97,116,116,114,105,98,117,116,101,45,110,97,109,101])))] [],
      .iff (.cmp .inn (.loc 78) (.loc 162)) [.ex (.app (.loc 71) (.k (.str [100,117,112,108,105,99,97,116,101,45,97,116,116,114,105,98,117,116,101])))] [],
      .ex (.app (.loc 162) (.loc 78))] []] []]]],
      .ret (.tup [(.loc 71),(.loc 162)])] }
noncomputable def Zs:MFun:=
  { ps:=[1,66],ds:=[],body:=[.for 2 (.bi .range [(.bi .len [(.loc 1)])]) [.iff (.and (.cmp .isn (.loc 66) (.k .none)) (.cmp .eq (.sl (.loc 1) (.loc 2) (.bop .add (.loc 2) (.k (.int 2)))) (.k (.str [60,47])))) [.asg 165 (.bop .add (.loc 2) (.k (.int 2))),
      .whl (.and (.cmp .lt (.loc 165) (.bi .len [(.loc 1)])) (.cmp .inn (.sub (.loc 1) (.loc 165)) (.glob Xy))) [.augN 165 .add (.k (.int 1))],
      .iff (.and (.cmp .eq (.sm .lower (.sl (.loc 1) (.bop .add (.loc 2) (.k (.int 2))) (.loc 165)) []) (.sm .lower (.loc 66) [])) (.cmp .inn (.sl (.loc 1) (.loc 165) (.bop .add (.loc 165) (.k (.int 1)))) (.tup [(.k (.str [32])),(.k (.str [47])),(.k (.str [62]))]))) [.ret (.loc 2)] []] []],
      .ret (.bi .len [(.loc 1)])] }
noncomputable def tab:List (Nat×MFun):=[(3,Tu),(6,Tt),(7,Th),(8,I9),(2,I8),(1,Iy),(5,I4),(68,I2),(10,TB),(4,Iz),(0,Iq),(13,Xu),(17,I7),(34,Ti),(53,Tb),(54,TO),(55,TF),(56,TI),(30,TJ),(64,I5),(57,TC),(9,TH),(11,I6),(60,TD),(58,Iu),(59,Ix),(61,OV),(62,Iv),(65,OW),(66,Iw),(63,Ir),(69,Ts),(70,Tr),(28,Tq),(67,Tp),(71,Xv),(72,Wv),(73,Zs)]
end Mine
end
noncomputable section
namespace Mine
noncomputable def tT (f:Nat):Option MFun:=JA tab f
noncomputable def fs1 (ch:List Nat) (sz off l1 l2:Int):List (Nat×Mine.V):=[(7,.meth 0 (.obj (.t 1))),(9,.obj (.t 2)),(10,.obj (.t 3)),(13,.str ch),(14,.int sz),(15,.int off),(16,.obj (.t 4)),(17,.int l1),(18,.int l2),(19,.none)]
noncomputable def fs3 (src:List Nat) (pl:Int):List (Nat×Mine.V):=[(1,.str src),(2,.int pl)]
noncomputable def I1 (ch:List Nat) (sz off l1 l2:Int):Ob:=.inst 1 (fs1 ch sz off l1 l2)
noncomputable def I3 (src:List Nat) (pl:Int):Ob:=.inst 0 (fs3 src pl)
noncomputable def hS (o₁ o₃:Ob) (H:List (Id×Ob)):List (Id×Ob):=(.t 1,o₁) :: (.t 3,o₃) :: H
noncomputable def hX (x:Option (List Mine.V)) (o₁ o₃:Ob) (H:List (Id×Ob)):List (Id×Ob):=match x with
  | none=>hS o₁ o₃ H
  | some q=>(.t 7,.list q) :: hS o₁ o₃ H
noncomputable abbrev T1:Mine.V:=.obj (.t 1)
noncomputable abbrev T3:Mine.V:=.obj (.t 3)
noncomputable def σ0:St:=⟨[],[],0,[]⟩
theorem JG {α β:Type} {l:List α} {f g:α→β} (h:l.map f=l.map g):∀ a∈l,f a=g a:=List.map_inj_left.mp h
noncomputable def al:List Nat:=[0,32,33,38,45,47,59,60,62,69,76,83,84,89,97,101,108,109,112,115,116,120,121]
theorem ble {a b:Nat} (h:a≤b):Nat.ble a b=true:=Nat.ble_eq.mpr h
section
variable {x:Option (List Mine.V)} {n:Nat} {L:List (Nat×Mine.V)} {H:List (Id×Ob)} {nx:Nat} {P:List Nat} {ch src:List Nat} {sz off l1 l2 pl:Int} {o₁ o₃:Ob} {a i:Nat}
theorem ZBC:∀ a∈al,JI tT (n + 1) 7 [.int a] ⟨L,H,nx,P⟩=some (.bool false,⟨L,H,nx,P⟩):=JG (by kernel_rfl)
theorem O9:WU ch [.str [10],.int 0,.int ch.length]=some (10,(ch.length:Int)):=by
  show gd (decide ((0:Int)=0)&&(decide ((0:Int)≤ch.length)&&decide ((ch.length:Int)≤ch.length))) (some (10,(ch.length:Int)))=_
  rw [decide_eq_true (show (0:Int)≤ch.length from Int.natCast_nonneg _),decide_eq_true (Int.le_refl _)]
  rfl
theorem GG:smV σ0 .count ch [.str [10],.int 0,.int ch.length]=some (.int (UG 10 ch)):=by
  show bo (WU ch [.str [10],.int 0,.int ch.length]) (fun p=>some (Mine.V.int (UG p.1 (ch.take p.2.toNat))))=_
  rw [O9]
  exact congrArg (fun l=>some (Mine.V.int (UG 10 l))) (List.take_length (l:=ch))
theorem DZ:smV σ0 .rfind ch [.str [10],.int 0,.int ch.length]=some (.int (QK 10 ch 0 (-1))):=by
  show bo (WU ch [.str [10],.int 0,.int ch.length]) (fun p=>some (Mine.V.int (QK p.1 (ch.take p.2.toNat) 0 (-1))))=_
  rw [O9]
  exact congrArg (fun l=>some (Mine.V.int (QK 10 l 0 (-1)))) (List.take_length (l:=ch))
theorem Qe (hl:ch.length≤JB):biV σ0 .len [.str ch]=some (.int ch.length):=by
  show gd (Nat.ble ch.length JB) _=_
  rw [ble hl]; rfl
theorem DN (hl:ch.length≤JB):Mine.Jh σ0 (.str ch)=some (!ch.isEmpty):=by
  show gd (Nat.ble ch.length JB) _=_
  rw [ble hl]; rfl
noncomputable def JL (ch:List Nat) (l1 l2:Int):Int×Int:=(l1 + UG 10 ch,if QK 10 ch 0 (-1)=-1 then l2 + ch.length else ch.length - (QK 10 ch 0 (-1) + 1))
theorem Yl:JI tT (n + 1) 5 [T1,.int ch.length] ⟨L,hX x (I1 ch sz off l1 l2) o₃ H,nx,P⟩=some (.tup [.int (JL ch l1 l2).1,.int (JL ch l1 l2).2],⟨L,hX x (I1 ch sz off l1 l2) o₃ H,nx,P⟩):=by
  refine Jy ?_
  unfold JL
  by_cases hr:QK 10 ch 0 (-1)=-1
  · rw [if_pos hr]
    cases x <;> exact .v 2 (GG (ch:=ch)) (.v 3 (DZ (ch:=ch)) (.b 0 (congrArg some (beq_iff_eq.mpr hr)) (.done 5)))
  · rw [if_neg hr]
    cases x <;> exact .v 2 (GG (ch:=ch)) (.v 3 (DZ (ch:=ch)) (.b 0 (congrArg some (beq_eq_false_iff_ne.mpr hr)) (.done 4)))
theorem WJ {n k:Nat} (h:k≤n):clampIx n (k:Int)=k:=by
  show (max 0 (min (if (k:Int) < 0 then (k:Int) + n else k) (n:Int))).toNat=k
  rw [if_neg (Int.not_lt.mpr (Int.natCast_nonneg k)),Int.min_eq_left (Int.ofNat_le.mpr h),Int.max_eq_right (Int.natCast_nonneg k),Int.toNat_natCast]
theorem clamp_big {n k:Nat} (h:n≤k):clampIx n (k:Int)=n:=by
  show (max 0 (min (if (k:Int) < 0 then (k:Int) + n else k) (n:Int))).toNat=n
  rw [if_neg (Int.not_lt.mpr (Int.natCast_nonneg k)),Int.min_eq_right (Int.ofNat_le.mpr h),Int.max_eq_right (Int.natCast_nonneg n),Int.toNat_natCast]
theorem ZDj (hl:ch.length≤10240):slV σ0 (.str ch) (.int 0) (.int 10240)=some (.str ch):=by
  show gd (Nat.ble ch.length JB) (some (Mine.V.str (cut ch (clampIx ch.length (0:Nat)) (clampIx ch.length (10240:Nat)))))=_
  rw [ble (Nat.le_trans hl (by decide))]
  rw [(WJ (Nat.zero_le _):clampIx ch.length (0:Nat)=0),(clamp_big hl:clampIx ch.length (10240:Nat)=_)]
  show some (Mine.V.str ((ch.take ch.length).drop 0))=_
  rw [List.take_length]; rfl
theorem ZB7 (hl:ch.length≤10240):slV σ0 (.str ch) (.int ch.length) (.int (ch.length + 10240))=some (.str []):=by
  show gd (Nat.ble ch.length JB) (some (Mine.V.str (cut ch (clampIx ch.length ch.length) (clampIx ch.length ((ch.length + 10240:Nat):Int)))))=_
  rw [ble (Nat.le_trans hl (by decide))]
  rw [WJ (Nat.le_refl _),(clamp_big (Nat.le_add_right _ 10240):clampIx ch.length ((ch.length + 10240:Nat):Int)=_)]
  show some (Mine.V.str ((ch.take ch.length).drop ch.length))=_
  rw [List.take_length,List.drop_length]
theorem ZA1 (hl:src.length≤10240):JI tT (n + 1) 6 [T3,.int 10240] ⟨L,hS o₁ (I3 src 0) H,nx,P⟩=some (.str src,⟨L,hS o₁ (I3 src src.length) H,nx,P⟩):=by
  rw [← Int.zero_add (src.length:Int)]
  refine Jy ?_
  exact .v 7 (ZDj hl) (.v 2 (Qe (Nat.le_trans hl (by decide))) (.done 5))
theorem BD (hl:src.length≤10240):JI tT (n + 1) 6 [T3,.int 10240] ⟨L,hX x o₁ (I3 src src.length) H,nx,P⟩=some (.str [],⟨L,hX x o₁ (I3 src src.length) H,nx,P⟩):=by
  refine Jy ?_
  cases x <;> exact .v 7 (ZB7 hl) (.done 8)
theorem BZ (hs:src.length≤10240):JI tT (n + 3) 4 [T1] ⟨L,hX x (I1 ch ch.length off l1 l2) (I3 src src.length) H,nx,P⟩=some (.bool false,⟨L,hX x (I1 [] 0 0 (JL ch l1 l2).1 (JL ch l1 l2).2) (I3 src src.length) H,nx,P⟩):=by
  refine Jy ?_
  cases x with
  | none=>exact .c 8 (Yl (x:=none) (n:=n + 1) (L:=[(0,T1),(14,.int 10240)]) (H:=H) (nx:=nx) (P:=P) (ch:=ch) (sz:=ch.length) (off:=off) (l1:=l1) (l2:=l2) (o₃:=I3 src src.length)) (.c 19 (BD (x:=none) (n:=n + 1) (L:=[(0,T1),(14,.int 10240)]) (H:=H) (nx:=nx) (P:=P) (o₁:=I1 [] 0 0 (JL ch l1 l2).1 (JL ch l1 l2).2) hs) (.done 6))
  | some q=>exact .c 8 (Yl (x:=some q) (n:=n + 1) (L:=[(0,T1),(14,.int 10240)]) (H:=H) (nx:=nx) (P:=P) (ch:=ch) (sz:=ch.length) (off:=off) (l1:=l1) (l2:=l2) (o₃:=I3 src src.length)) (.c 19 (BD (x:=some q) (n:=n + 1) (L:=[(0,T1),(14,.int 10240)]) (H:=H) (nx:=nx) (P:=P) (o₁:=I1 [] 0 0 (JL ch l1 l2).1 (JL ch l1 l2).2) hs) (.done 6))
end
end Mine
end
noncomputable section
namespace Mine
open PySem
section
variable {n:Nat} {L:List (Nat×Mine.V)} {H:List (Id×Ob)} {nx:Nat} {P:List Nat} {ch src r:List Nat} {sz off l1 l2 pl:Int} {o₁ o₃:Ob} {a i:Nat}
noncomputable def QT:List Nat:=[105,110,118,97,108,105,100,45,99,111,100,101,112,111,105,110,116]
noncomputable def ceB:List MS:=[.iff (.call 7 [(.bi .ord [(.loc 33)])]) [.ex (.app (.attr (.loc 0) 16 1) (.k (.str QT)))] []]
noncomputable def ceL (d:List Nat) (a:Nat):List (Nat×Mine.V):=[(0,T1),(30,.str d),(33,.str [a])]
theorem GK {d:List Nat} (ha:a∈al):exs (JI tT (n + 1)) ceB ⟨ceL d a,H,nx,P⟩=some (.next,⟨ceL d a,H,nx,P⟩):=by
  refine JC.exs ?_
  exact .c 1 (ZBC (n:=n) (L:=ceL d a) (H:=H) (nx:=nx) (P:=P) a ha) (.done 2)
theorem GN {d:List Nat}:∀ (l:List Nat) (b:Nat),(∀ a∈l,a∈al)→∃ L',QA (fun v σ=>some (σ.setLoc 33 v)) (exs (JI tT (n + 1)) ceB) (l.map fun c=>.str [c]) ⟨ceL d b,H,nx,P⟩=some (.next,⟨L',H,nx,P⟩)
  | [],b,_=>⟨_,rfl⟩
  | a :: l,b,h=>(GN l a fun x hx=>h x (.tail _ hx)).imp fun L' e=>by
    show bn (exs (JI tT (n + 1)) ceB ⟨ceL d a,H,nx,P⟩) _=_
    rw [GK (h a (.head _))]
    exact e
theorem GJ {d:List Nat} (h:∀ a∈d,a∈al):JI tT (n + 2) 0 [T1,.str d] ⟨L,H,nx,P⟩=some (.none,⟨L,H,nx,P⟩):=by
  obtain ⟨L',e⟩:∃ L',QA (fun v σ=>some (σ.setLoc 33 v)) (exs (JI tT (n + 1)) ceB) (d.map fun c=>.str [c]) ⟨[(0,T1),(30,.str d)],H,nx,P⟩=some (.next,⟨L',H,nx,P⟩):=by
    cases d with
    | nil=>exact ⟨_,rfl⟩
    | cons a l =>
      refine (GN (n:=n) (H:=H) (nx:=nx) (P:=P) (d:=a :: l) l a fun x hx=>h x (.tail _ hx)).imp fun L' e=>?_
      show bn (exs (JI tT (n + 1)) ceB ⟨ceL (a :: l) a,H,nx,P⟩) _=_
      rw [GK (h a (.head _))]
      exact e
  refine Jy ?_
  exact .fl 1 (e) (.done 1)
theorem Da {a b:List Nat} {x:Nat}:∀ (n:Nat) (s:List Nat),x ∉ s→s.length < n→J4 (x :: a) b n s=s
  | 0,s,_,h=>absurd h (Nat.not_lt_zero _)
  | n + 1,[],_,_=>rfl
  | n + 1,c :: s,hx,h=>by
    show (if (x==c&&Jc a s) then _ else c :: J4 (x :: a) b n s)=_
    rw [beq_eq_false_iff_ne.mpr (fun e:x=c=>hx (e▸.head _)),Da n s (fun q=>hx (.tail _ q)) (Nat.lt_of_succ_lt_succ h)]
    rfl
theorem ZHi {d:List Nat} (h:∀ a∈d,a∈al):13 ∉ d:=fun q=>absurd (h 13 q) (by decide)
theorem Y9 {a:List Nat} {d:List Nat} (h:∀ a∈d,a∈al) (hl:d.length≤10240):smV σ0 .replace d [.str (13 :: a),.str [10]]=some (.str d):=by
  show gd (true&&(Nat.ble (d.length + (d.length + 1) * 1) 16777216&&!false)) (some (Mine.V.str (J4 (13 :: a) [10] (d.length + 1) d)))=_
  rw [ble (Nat.le_trans (Nat.add_le_add hl (Nat.mul_le_mul_right 1 (Nat.succ_le_succ hl))) (by decide)),Da _ _ (ZHi h) (Nat.lt_succ_self _)]
  rfl
theorem WX {k n:Nat} (h:k < n):seqIndex? (k:Int) n=some k:=by
  show (if (decide (0≤(if (k:Int) < 0 then (k:Int) + n else k))&&decide ((if (k:Int) < 0 then (k:Int) + n else k) < (n:Int)))=true then some (if (k:Int) < 0 then (k:Int) + n else k).toNat else none)=_
  rw [if_neg (Int.not_lt.mpr (Int.natCast_nonneg k)),decide_eq_true (Int.natCast_nonneg k),decide_eq_true (Int.ofNat_lt.mpr h)]
  rfl
theorem YE {n:Nat}:seqIndex? (-1) (n + 1)=some n:=by
  show (if (decide ((0:Int)≤(-1 + (n + 1:Nat):Int))&&decide ((-1 + (n + 1:Nat):Int) < (n + 1:Nat)))=true then some (-1 + (n + 1:Nat):Int).toNat else none)=_
  rw [((Int.add_comm _ _).trans (Int.add_sub_cancel (n:Int) 1):(-1 + (n + 1:Nat):Int)=n),decide_eq_true (Int.natCast_nonneg n),decide_eq_true (Int.ofNat_lt.mpr (Nat.lt_succ_self n))]
  rfl
theorem U1 {s:List Nat} {k c:Nat} {j:Int} (hl:s.length≤JB) (hj:seqIndex? j s.length=some k) (hc:s[k]?=some c):QR σ0 (.str s) (.int j)=some (.str [c]):=by
  show gd (Nat.ble s.length JB) (bo (seqIndex? j s.length) fun j=>bo s[j]? fun c=>some (Mine.V.str [c]))=_
  rw [ble hl,hj]
  show bo s[k]? _=_
  rw [hc]
  rfl
theorem ZEJ {d:List Nat} (h:∀ a∈d,a∈al) {k:Nat} (hk:k < d.length):∃ c,d[k]?=some c∧c∈al:=⟨d[k],List.getElem?_eq_getElem hk,h _ (List.getElem_mem hk)⟩
theorem n13:∀ a∈al,((a:Int)==13)=false:=JG (by kernel_rfl)
theorem n55:∀ a∈al,decide ((55296:Int)≤a)=false:=JG (by kernel_rfl)
theorem ZAL (hs:(a :: r).length≤10240) (hok:∀ b∈a :: r,b∈al) :
    JI tT (n + 3) 4 [T1] ⟨L,hS (I1 [] 0 off l1 l2) (I3 (a :: r) 0) H,nx,P⟩=some (.bool true,⟨L,hS (I1 (a :: r) (a :: r).length 0 (JL [] l1 l2).1 (JL [] l1 l2).2) (I3 (a :: r) (a :: r).length) H,nx,P⟩):=by
  obtain ⟨c,hc,hca⟩:=ZEJ hok (Nat.lt_succ_self r.length)
  have hm:(a :: r).length≤JB:=Nat.le_trans hs (by decide)
  have f1:=Yl (x:=none) (n:=n + 1) (L:=[(0,T1),(14,.int 10240)]) (H:=H) (nx:=nx) (P:=P) (ch:=[]) (sz:=0) (off:=off) (l1:=l1) (l2:=l2) (o₃:=I3 (a :: r) 0)
  have f2:=ZA1 (n:=n + 1) (L:=[(0,T1),(14,.int 10240)]) (H:=H) (nx:=nx) (P:=P) (o₁:=I1 [] 0 0 (JL [] l1 l2).1 (JL [] l1 l2).2) hs
  have f3:=DN hm
  have f4:=Qe hm
  have f5:=U1 hm YE hc
  refine Jy ?_
  by_cases hgt:(1:Int) < ((a :: r).length:Int)
  · exact .c 28 (f2) (.b 3 (f3) (.v 1 (f4) (.b 0 (congrArg some (decide_eq_true hgt)) (.v 1 (f5) (.b 1 (congrArg some (n13 c hca)) (.b 1 (congrArg some (n55 c hca)) (.c 6 (GJ (n:=n) (L:=[(0,T1),(14,.int 10240),(30,.str (a :: r)),(32,.int c)]) (H:=hS (I1 [] 0 0 (JL [] l1 l2).1 (JL [] l1 l2).2) (I3 (a :: r) (a :: r).length) H) (nx:=nx) (P:=P) hok) (.v 1 (Y9 (a:=[10]) hok hs) (.v 0 (Y9 (a:=[]) hok hs) (.v 3 (f4) (.done 4)))))))))))
  · exact .c 28 (f2) (.b 3 (f3) (.v 1 (f4) (.b 0 (congrArg some (decide_eq_false hgt)) (.c 6 (GJ (n:=n) (L:=[(0,T1),(14,.int 10240),(30,.str (a :: r))]) (H:=hS (I1 [] 0 0 (JL [] l1 l2).1 (JL [] l1 l2).2) (I3 (a :: r) (a :: r).length) H) (nx:=nx) (P:=P) hok) (.v 1 (Y9 (a:=[10]) hok hs) (.v 0 (Y9 (a:=[]) hok hs) (.v 3 (f4) (.done 4))))))))
theorem Bb {off:Nat} (ha:ch[off]?=some a) (hl:ch.length≤JB) :
    JI tT (n + 4) 10 [T1] ⟨L,hS (I1 ch ch.length off l1 l2) o₃ H,nx,P⟩=some (.str [a],⟨L,hS (I1 ch ch.length (off + 1:Nat) l1 l2) o₃ H,nx,P⟩):=by
  have hlt:=(List.getElem?_eq_some_iff.mp ha).1
  refine Jy ?_
  exact .b 4 (congrArg some (decide_eq_false (Int.not_le.mpr (Int.ofNat_lt.mpr hlt)))) (.v 5 (U1 hl (WX hlt) ha) (.done 5))
theorem DD {x:Option (List Mine.V)} (hs:src.length≤10240) :
    JI tT (n + 4) 10 [T1] ⟨L,hX x (I1 ch ch.length ch.length l1 l2) (I3 src src.length) H,nx,P⟩=some (.none,⟨L,hX x (I1 [] 0 0 (JL ch l1 l2).1 (JL ch l1 l2).2) (I3 src src.length) H,nx,P⟩):=by
  refine Jy ?_
  have hc:=BZ (x:=x) (n:=n) (L:=[(0,T1)]) (H:=H) (nx:=nx) (P:=P) (ch:=ch) (off:=ch.length) (l1:=l1) (l2:=l2) hs
  cases x
  · exact .b 4 (congrArg some (decide_eq_true (Int.le_refl (ch.length:Int)))) (.c 3 (hc) (.done 3))
  · exact .b 4 (congrArg some (decide_eq_true (Int.le_refl (ch.length:Int)))) (.c 3 (hc) (.done 3))
theorem ZAM (hs:(a :: r).length≤10240) (hok:∀ b∈a :: r,b∈al) :
    JI tT (n + 4) 10 [T1] ⟨L,hS (I1 [] 0 0 l1 l2) (I3 (a :: r) 0) H,nx,P⟩=some (.str [a],⟨L,hS (I1 (a :: r) (a :: r).length 1 (JL [] l1 l2).1 (JL [] l1 l2).2) (I3 (a :: r) (a :: r).length) H,nx,P⟩):=by
  refine Jy ?_
  exact .c 8 (ZAL (n:=n) (L:=[(0,T1)]) (H:=H) (nx:=nx) (P:=P) (off:=0) (l1:=l1) (l2:=l2) hs hok) (.v 6 (U1 (s:=a :: r) (j:=0) (Nat.le_trans hs (by decide)) (WX (Nat.succ_pos _)) rfl) (.done 5))
theorem T8:JI tT (n + 4) 17 [T1,.none] ⟨L,H,nx,P⟩=some (.none,⟨L,H,nx,P⟩):=by
  refine Jy ?_
  exact .done 3
theorem On {off:Nat} (ha:ch[off]?=some a) (hl:ch.length≤JB) :
    JI tT (n + 4) 17 [T1,.str [a]] ⟨L,hS (I1 ch ch.length (off + 1:Nat) l1 l2) o₃ H,nx,P⟩=some (.none,⟨L,hS (I1 ch ch.length off l1 l2) o₃ H,nx,P⟩):=by
  have hlt:=(List.getElem?_eq_some_iff.mp ha).1
  have e:((off + 1:Nat):Int) - 1=off:=Int.add_sub_cancel (off:Int) 1
  refine Jy ?_
  rw [← e]
  exact .v 16 (U1 (j:=((off + 1:Nat):Int) - 1) hl (e▸WX hlt) ha) (.b 0 (congrArg some (beq_self_eq_true [a])) (.done 3))
end
end Mine
end
noncomputable section
namespace Mine
open PySem
noncomputable def U5:ME:=(.and (.cmp .ne (.loc 37) (.attr (.loc 0) 14 1)) (.cmp .eq (.cmp .inn (.sub (.attr (.loc 0) 13 1) (.loc 37)) (.loc 34)) (.loc 35)))
noncomputable def OT:List MS:=[.augN 37 .add (.k (.int 1))]
noncomputable def NF:List MS:=[.asg 37 (.attr (.loc 0) 15 1),
      .whl U5 OT,
      .iff (.cmp .eq (.loc 37) (.attr (.loc 0) 15 1)) [.iff (.cmp .ne (.attr (.loc 0) 15 1) (.attr (.loc 0) 14 1)) [.brk] []] [.iff (.cmp .ne (.loc 37) (.attr (.loc 0) 14 1)) [.ex (.app (.loc 36) (.sl (.attr (.loc 0) 13 1) (.attr (.loc 0) 15 1) (.loc 37))),
      .asgA (.loc 0) 15 1 (.loc 37),
      .brk] []],
      .ex (.app (.loc 36) (.sl (.attr (.loc 0) 13 1) (.attr (.loc 0) 15 1) (.k .none))),
      .iff (.not (.mcall (.loc 0) 26 1 4 [])) [.brk] []]
noncomputable def InP (chars:Mine.V) (p:Nat→Bool):Prop:=∀ σ a,Wr σ .inn (.str [a]) chars=some (p a)
noncomputable def OS (chars:Mine.V) (opp:Bool):List (Nat×Mine.V):=[(0,T1),(34,chars),(35,.bool opp),(36,(.obj (.t 7)))]
noncomputable def cuL (chars:Mine.V) (opp:Bool) (i:Nat):List (Nat×Mine.V):=[(0,T1),(34,chars),(35,.bool opp),(36,(.obj (.t 7))),(37,.int i)]
noncomputable def cuH (q:List Mine.V) (o₁ o₃:Ob) (H:List (Id×Ob)):List (Id×Ob):=(.t 7,.list q) :: hS o₁ o₃ H
section
variable {C:Ora} {n off i:Nat} {L:List (Nat×Mine.V)} {H:List (Id×Ob)} {P:List Nat} {ch src l:List Nat} {l1 l2:Int} {o₁ o₃:Ob} {a:Nat} {chars:Mine.V} {opp:Bool} {p:Nat→Bool} {q:List Mine.V} {vs:List Mine.V}
theorem ZGt:tst C U5 ⟨cuL chars opp ch.length,cuH q (I1 ch ch.length off l1 l2) o₃ H,8,P⟩=some (false,⟨cuL chars opp ch.length,cuH q (I1 ch ch.length off l1 l2) o₃ H,8,P⟩):=by
  refine JC.tst ?_
  exact .b 2 (congrArg some (congrArg not (beq_self_eq_true (ch.length:Int)))) (.done 3)
theorem ZGs (hP:InP chars p) (hl:ch.length≤JB) (ha:ch[i]?=some a):tst C U5 ⟨cuL chars opp i,cuH q (I1 ch ch.length off l1 l2) o₃ H,8,P⟩=some (p a==opp,⟨cuL chars opp i,cuH q (I1 ch ch.length off l1 l2) o₃ H,8,P⟩):=by
  have hlt:=(List.getElem?_eq_some_iff.mp ha).1
  have e:∀ b,some (b==opp)=some (b==opp):=fun _=>rfl
  refine JC.tst ?_
  exact .b 2 (congrArg some (congrArg not (beq_eq_false_iff_ne.mpr (fun e=>Nat.ne_of_lt hlt (Int.ofNat.inj e):(i:Int)≠(ch.length:Int))))) (.v 3 (U1 hl (WX hlt) ha) (.b 0 (hP ⟨cuL chars opp i,cuH q (I1 ch ch.length off l1 l2) o₃ H,8,P⟩ a) (.b 0 (e (p a)) (.b 0 (e (p a)) (.done 1)))))
theorem KF (hP:InP chars p) (hl:ch.length≤JB) :
    ∀ (r:List Nat) (i fuel:Nat),ch.drop i=r→i≤ch.length→r.length < fuel→J0 (tst C U5) (exs C OT) fuel ⟨cuL chars opp i,cuH q (I1 ch ch.length off l1 l2) o₃ H,8,P⟩ =
      some (.next,⟨cuL chars opp (i + (r.takeWhile fun a=>p a==opp).length),cuH q (I1 ch ch.length off l1 l2) o₃ H,8,P⟩)
  | _,_,0,_,_,hf=>absurd hf (Nat.not_lt_zero _)
  | [],i,n + 1,hr,hi,hf=>by
    cases Nat.le_antisymm hi (List.drop_eq_nil_iff.mp hr)
    show bn (tst C U5 _) _=_
    rw [ZGt]; rfl
  | a :: r,i,n + 1,hr,hi,hf=>by
    have ha:ch[i]?=some a:=by rw [← List.head?_drop,hr]; rfl
    have hlt:=(List.getElem?_eq_some_iff.mp ha).1
    have h2:ch.drop (i + 1)=r:=by rw [← List.tail_drop,hr]; rfl
    show bn (tst C U5 _) _=_
    rw [ZGs hP hl ha,List.takeWhile_cons]
    cases p a==opp
    · rfl
    · show J0 (tst C U5) (exs C OT) n ⟨cuL chars opp (i + 1:Nat),_,8,P⟩=_
      rw [KF hP hl r (i + 1) n h2 hlt (Nat.lt_of_succ_lt_succ hf),Nat.add_right_comm]; rfl
theorem Tf {off:Nat} {p:Nat→Bool}:((ch.drop off).takeWhile p).length≤ch.length - off:=List.length_drop▸(List.takeWhile_prefix (p:=p) (l:=ch.drop off)).length_le
theorem ZBa {off:Nat} {p:Nat→Bool}:cut ch off (off + ((ch.drop off).takeWhile p).length)=(ch.drop off).takeWhile p:=by
  show (ch.take _).drop off=_
  rw [List.drop_take,Nat.add_sub_cancel_left]
  exact (List.prefix_iff_eq_take.mp (List.takeWhile_prefix p)).symm
theorem ZFp {s t:List Nat} {i j:Nat} (hl:s.length≤JB) (hi:i≤s.length) (hj:j≤s.length) (e:cut s i j=t):slV σ0 (.str s) (.int i) (.int j)=some (.str t):=by
  show gd (Nat.ble s.length JB) (some (Mine.V.str (cut s (clampIx s.length i) (clampIx s.length j))))=_
  rw [ble hl,WJ hi,WJ hj,e]; rfl
theorem ZFn {s t:List Nat} {i:Nat} (hl:s.length≤JB) (hi:i≤s.length) (e:s.drop i=t):slV σ0 (.str s) (.int i) .none=some (.str t):=by
  show gd (Nat.ble s.length JB) (some (Mine.V.str ((s.take s.length).drop (clampIx s.length i))))=_
  rw [ble hl,WJ hi,List.take_length,e]; rfl
theorem Hq {t:List Nat} (hl:t.length≤JB):smV ⟨[],[(.t 7,.list [.str t])],0,[]⟩ .join [] [(.obj (.t 7))]=some (.str t):=by
  show gd (Nat.ble (t.length + 0 + 1 * 0) JB) (some (Mine.V.str t))=_
  rw [ble (by exact hl)]; rfl
theorem Ku {t:St→Option (Bool×St)} {b:St→Option (FL×St)} {σ σ₁:St} (ht:t σ=some (true,σ)) (hb:b σ=some (.brk,σ₁)):J0 t b Qc σ=some (.next,σ₁):=by
  show J0 t b (999999 + 1) σ=_
  show bn (t σ) _=_
  rw [ht]
  show bn (b σ) _=_
  rw [hb]; rfl
theorem IY {i j:Nat} (h:i≠j):some (((i:Int))==(j:Int))=some false:=congrArg some (beq_eq_false_iff_ne.mpr fun e=>h (Int.ofNat.inj e))
theorem Hz {i j:Nat} (h:i≠j):some (!(((i:Int))==(j:Int)))=some true:=congrArg some (congrArg not (beq_eq_false_iff_ne.mpr fun e=>h (Int.ofNat.inj e)))
theorem ZHq (i:Nat):some (((i:Int))==(i:Int))=some true:=congrArg some (beq_self_eq_true _)
theorem ZGT (i:Nat):some (!(((i:Int))==(i:Int)))=some false:=congrArg some (congrArg not (beq_self_eq_true _))
theorem ZAP (hP:InP chars p) (hl:ch.length < Qc) (ho:off≤ch.length) (hlw:l=(ch.drop off).takeWhile fun a=>p a==opp) (hlt:off + l.length < ch.length) :
    JI tT (n + 4) 13 [T1,chars,.bool opp] ⟨L,hS (I1 ch ch.length off l1 l2) o₃ H,7,P⟩=some (.str l,⟨L,cuH (if l.isEmpty then [] else [.str l]) (I1 ch ch.length (off + l.length:Nat) l1 l2) o₃ H,8,P⟩):=by
  have hml:ch.length≤JB:=Nat.le_trans (Nat.le_of_lt hl) (by decide)
  have hw:=KF (C:=JI tT (n + 3)) (H:=H) (P:=P) (off:=off) (l1:=l1) (l2:=l2) (o₃:=o₃) (q:=[]) (opp:=opp) hP hml (ch.drop off) off Qc rfl ho (Nat.lt_of_le_of_lt (List.length_drop▸Nat.sub_le _ _) hl)
  rw [← hlw] at hw
  have hcut:=ZFp hml ho (Nat.le_of_lt hlt) (hlw▸ZBa:cut ch off (off + l.length)=l)
  have hll:l.length≤JB:=Nat.le_trans (Nat.le_trans (Nat.le_add_left _ _) (Nat.le_of_lt hlt)) hml
  refine Jy ?_
  cases l with
  | nil =>
    have hb:exs (JI tT (n + 3)) NF ⟨OS chars opp,cuH [] (I1 ch ch.length off l1 l2) o₃ H,8,P⟩=some (.brk,⟨cuL chars opp off,cuH [] (I1 ch ch.length off l1 l2) o₃ H,8,P⟩):=by
      refine JC.exs ?_
      exact .fl 2 (hw) (.b 2 (ZHq off) (.b 5 (Hz (Nat.ne_of_lt hlt)) (.done 2)))
    exact .fl 1 (Ku (t:=tst (JI tT (n + 3)) (.k (.bool true))) rfl hb) (.done 2)
  | cons a l =>
    have hb:exs (JI tT (n + 3)) NF ⟨OS chars opp,cuH [] (I1 ch ch.length off l1 l2) o₃ H,8,P⟩=some (.brk,⟨cuL chars opp (off + (a :: l).length),cuH [.str (a :: l)] (I1 ch ch.length (off + (a :: l).length:Nat) l1 l2) o₃ H,8,P⟩):=by
      refine JC.exs ?_
      exact .fl 2 (hw) (.b 2 (IY (Nat.ne_of_gt (Nat.lt_add_of_pos_right (n:=off) (Nat.succ_pos l.length)))) (.b 3 (Hz (Nat.ne_of_lt hlt)) (.v 6 (hcut) (.done 7))))
    exact .fl 1 (Ku (t:=tst (JI tT (n + 3)) (.k (.bool true))) rfl hb) (.v 0 (Hq hll) (.done 1))
theorem ZAQ (hP:InP chars p) (hs:src.length≤10240) (hl:ch.length < Qc) (ho:off≤ch.length) (hlw:l=(ch.drop off).takeWhile fun a=>p a==opp) (hlt:off + l.length=ch.length) :
    JI tT (n + 4) 13 [T1,chars,.bool opp] ⟨L,hS (I1 ch ch.length off l1 l2) (I3 src src.length) H,7,P⟩=some (.str l,⟨L,cuH [.str l] (I1 [] 0 0 (JL ch l1 l2).1 (JL ch l1 l2).2) (I3 src src.length) H,8,P⟩):=by
  have hml:ch.length≤JB:=Nat.le_trans (Nat.le_of_lt hl) (by decide)
  have hw:=KF (C:=JI tT (n + 3)) (H:=H) (P:=P) (off:=off) (l1:=l1) (l2:=l2) (o₃:=I3 src src.length) (q:=[]) (opp:=opp) hP hml (ch.drop off) off Qc rfl ho (Nat.lt_of_le_of_lt (List.length_drop▸Nat.sub_le _ _) hl)
  rw [← hlw,hlt] at hw
  have hd:ch.drop off=l:=((hlw▸List.takeWhile_prefix _:l <+: ch.drop off).eq_of_length (by rw [List.length_drop,← hlt,Nat.add_sub_cancel_left])).symm
  have hcut:=ZFn hml ho hd
  have hll:l.length≤JB:=Nat.le_trans (hlt▸Nat.le_add_left _ _) hml
  have hck:=BZ (x:=some [.str l]) (n:=n) (L:=cuL chars opp ch.length) (H:=H) (nx:=8) (P:=P) (ch:=ch) (off:=off) (l1:=l1) (l2:=l2) hs
  have hb:exs (JI tT (n + 3)) NF ⟨OS chars opp,cuH [] (I1 ch ch.length off l1 l2) (I3 src src.length) H,8,P⟩=some (.brk,⟨cuL chars opp ch.length,cuH [.str l] (I1 [] 0 0 (JL ch l1 l2).1 (JL ch l1 l2).2) (I3 src src.length) H,8,P⟩):=by
    refine JC.exs ?_
    by_cases hz:ch.length=off
    · have hz':(((ch.length:Int))==(off:Int))=true:=beq_iff_eq.mpr (congrArg _ hz)
      have hz2:(!(((off:Int))==(ch.length:Int)))=false:=congrArg not (beq_iff_eq.mpr (congrArg _ hz.symm))
      exact .fl 2 (hw) (.b 2 (congrArg some hz') (.b 5 (congrArg some hz2) (.v 6 (hcut) (.c 5 (hck) (.done 3)))))
    · exact .fl 2 (hw) (.b 2 (IY hz) (.b 3 (ZGT ch.length) (.v 6 (hcut) (.c 5 (hck) (.done 3)))))
  refine Jy ?_
  exact .fl 1 (Ku (t:=tst (JI tT (n + 3)) (.k (.bool true))) rfl hb) (.v 0 (Hq hll) (.done 1))
end
end Mine
end
noncomputable section
namespace Mine
noncomputable def ids:List Id:=[.t 1,.t 3]
noncomputable def FO:Ora:=XP ids (JI tT 5)
noncomputable def CT:Ora:=XP ids (We tT FO)
noncomputable abbrev T0:Mine.V:=.obj (.t 0)
noncomputable def tbF:Option (List Nat)→List (Nat×Mine.V)
  | none=>[]
  | some b=>[(148,.str b)]
noncomputable def fs0 (st cur:Mine.V) (tb:Option (List Nat)):List (Nat×Mine.V):=(20,T1) :: (39,.none) :: (40,.bool false) :: (41,.obj (.t 5)) :: (42,st) :: (44,.bool false) :: (45,cur) :: (48,.obj (.t 6)) :: tbF tb
noncomputable def H1 (q dn:List Mine.V) (st cur:Mine.V) (tb:Option (List Nat)):List (Id×Ob):=[(.t 6,.list q),(.t 5,.list []),(.t 4,.list []),(.t 2,.list [.int 0]),(.t 0,.inst 3 (fs0 st cur tb)),(.p 99,.list dn)]
noncomputable def me (f:Nat):Mine.V:=.meth f T0
noncomputable def Stp (f:Nat) (σ:St) (b:Bool) (σ':St):Prop:=CT f [T0] σ=some (.bool b,σ')
noncomputable def Nc (L:List (Nat×Mine.V)) (k:Nat) (f:FL) (σ:St):Option (Mine.V×St):=bo (QM f) fun v=>gd (WD ids k v ⟨L,σ.hp,σ.nx,σ.ps⟩) (some (v,⟨L,hpN ids k σ.hp,k,σ.ps⟩))
noncomputable def JX (f:Nat) (vs:List Mine.V) (τ:St):Rz:=boK (tT f) fun m=>Yk false FO m vs ⟨τ.loc,QG ids τ.hp,τ.nx,τ.ps⟩
theorem Np {f:Nat} {vs:List Mine.V} {σ:St}:CT f vs σ=bn (sem (JX f vs σ)) (Nc σ.loc σ.nx):=by
  unfold JX
  show bn (bo (tT f) fun m=>Qu FO m vs ⟨σ.loc,QG ids σ.hp,σ.nx,σ.ps⟩) _=_
  generalize tT f=m
  cases m with
  | none=>rfl
  | some m =>
    show bn (bo (m.args vs) fun as=>bn (exs FO m.body ⟨m.ps.zip as,QG ids σ.hp,σ.nx,σ.ps⟩) fun f σ₁=>bo (QM f) fun v=>some (v,{ σ₁ with loc:=σ.loc })) _=bn (sem (boK (m.args vs) fun as=>exsK false FO m.body ⟨m.ps.zip as,QG ids σ.hp,σ.nx,σ.ps⟩ .done)) _
    generalize m.args vs=as
    cases as with
    | none=>rfl
    | some as =>
      refine Eq.trans ?_ (congrArg (bn · (Nc σ.loc σ.nx)) (Kf false FO m.body ⟨m.ps.zip as,QG ids σ.hp,σ.nx,σ.ps⟩ .done)).symm
      show bn (bn (exs FO m.body ⟨m.ps.zip as,QG ids σ.hp,σ.nx,σ.ps⟩) _) _=_
      generalize exs FO m.body ⟨m.ps.zip as,QG ids σ.hp,σ.nx,σ.ps⟩=x
      cases x with
      | none=>rfl
      | some p =>
        show bn (bo (QM p.1) fun v=>some (v,{ p.2 with loc:=σ.loc })) _=bo (QM p.1) _
        generalize QM p.1=q
        cases q <;> rfl
structure Good (n:Nat) (H:List (Id×Ob)):Prop where
  f:(H.filter fun p=>!(ids.any (·==p.1)))=H
  c:(H.filter fun p=>UI n p.1)=H
  b:UJ n H=true
section
variable {n k:Nat} {L:List (Nat×Mine.V)} {H:List (Id×Ob)} {P:List Nat} {o₁ o₃ o₁' o₃':Ob} {v:Mine.V} {C:Ora} {f:Nat} {vs:List Mine.V}
theorem Zo (g:Good k H):QG ids (hS o₁ o₃ H)=hS o₁ o₃ H:=congrArg (hS o₁ o₃) g.f
theorem Qq (g:Good k H) (hk:5≤k):hpN ids k (hS o₁ o₃ H)=hS o₁ o₃ H:=by
  obtain ⟨m,rfl⟩:=Nat.exists_eq_add_of_le' hk
  exact congrArg (hS o₁ o₃) ((congrArg (List.filter _) g.c).trans g.f)
theorem YM (g:Good k H) (hk:5≤k) (hL:Ju k L=true) (hv:V.blw k v=true) (ho:Ob.blw k o₁'=true∧Ob.blw k o₃'=true) {H':List (Id×Ob)} (e:hpN ids k H'=hS o₁' o₃' H) {n:Nat}:WD ids k v ⟨L,H',n,P⟩=true:=by
  show (Ju k L&&(UJ k (hpN ids k H')&&V.blw k v))=true
  rw [e,hL,hv]
  obtain ⟨m,rfl⟩:=Nat.exists_eq_add_of_le' hk
  show (((Ob.blw (m + 5) o₁')&&((Ob.blw (m + 5) o₃')&&UJ (m + 5) H))&&true)=true
  rw [ho.1,ho.2,g.b]; rfl
theorem Q3 {H':List (Id×Ob)} {P':List Nat} (g:Good k H) (g':Good k H') (hk:5≤k) (hL:Ju k L=true) (hv:V.blw k v=true) (ho:Ob.blw k o₁'=true∧Ob.blw k o₃'=true) {h₁:List (Id×Ob)} (e:hpN ids k h₁=hS o₁' o₃' H') (h:C f vs ⟨L,hS o₁ o₃ H,k,P⟩=some (v,⟨L,h₁,n,P'⟩)):XP ids C f vs ⟨L,hS o₁ o₃ H,k,P⟩=some (v,⟨L,hS o₁' o₃' H',k,P'⟩):=
  KQ (hp':=hS o₁ o₃ H) h (YM g' hk hL hv ho e) (Zo g) e
noncomputable def nG (f:FL) (σ:St):Option (Mine.V×List (Id×Ob)×List Nat):=bo (QM f) fun v=>some (v,hpN ids 7 σ.hp,σ.ps)
theorem JC.toN {r:Rz} {P':List Nat} (g:Good 7 H) (ho:Ob.blw 7 o₁=true∧Ob.blw 7 o₃=true) (hv:V.blw 7 v=true) (h:JC r nG (v,hS o₁ o₃ H,P')):JC r (Nc [(0,T0)] 7) (v,⟨[(0,T0)],hS o₁ o₃ H,7,P'⟩):=by
  unfold JC at h ⊢
  generalize sem r=x at h
  cases x with
  | none=>exact nn h
  | some p =>
    obtain ⟨f,L,hp,nx,P⟩:=p
    show bo (QM f) (fun v=>gd (WD ids 7 v ⟨[(0,T0)],hp,nx,P⟩) (some (v,(⟨[(0,T0)],hpN ids 7 hp,7,P⟩:St))))=_
    have h:bo (QM f) (fun v=>some (v,hpN ids 7 hp,P))=some (v,hS o₁ o₃ H,P'):=h
    generalize QM f=w at h
    cases w with
    | none=>exact nn h
    | some w =>
      have h:some (w,hpN ids 7 hp,P)=some (v,hS o₁ o₃ H,P'):=h
      injection h with h
      injection h with h1 h2
      injection h2 with h2 h3
      subst h1 h3
      show gd (WD ids 7 w ⟨[(0,T0)],hp,nx,P⟩) (some (w,(⟨[(0,T0)],hpN ids 7 hp,7,P⟩:St)))=_
      rw [YM g (by decide) rfl hv ho h2,h2]; rfl
end
structure Sx where
  ch:List Nat
  sz:Int
  off:Int
  l1:Int
  l2:Int
  src:List Nat
  pl:Int
noncomputable def hs (s:Sx) (H:List (Id×Ob)):List (Id×Ob):=hS (I1 s.ch s.sz s.off s.l1 s.l2) (I3 s.src s.pl) H
noncomputable def Cl4 (f:Nat) (vs:List Mine.V) (v:Mine.V) (s s':Sx):Prop:=∀ ⦃L:List (Nat×Mine.V)⦄ ⦃H:List (Id×Ob)⦄ ⦃P:List Nat⦄,Good 7 H→Ju 7 L=true→FO f (T1 :: vs) ⟨L,hs s H,7,P⟩=some (v,⟨L,hs s' H,7,P⟩)
noncomputable abbrev Rd (v:Mine.V) (s s':Sx):Prop:=Cl4 10 [] v s s'
noncomputable abbrev Un (v:Mine.V) (s s':Sx):Prop:=Cl4 17 [v] .none s s'
noncomputable def st (ch src:List Nat) (off:Nat) (l1 l2:Int):Sx:=⟨ch,ch.length,off,l1,l2,src,src.length⟩
structure At (src r:List Nat) (s:Sx):Prop where
  mk':∃ ch off l1 l2,s=st ch src off l1 l2∧ch.drop off=r∧off≤ch.length∧ch.length≤1000∧src.length≤1000∧JL ch l1 l2=(0,(src.length:Int))
theorem At.el {src r:List Nat} {s:Sx} {Q:Prop} (A:At src r s) (k:∀ ch off l1 l2,s=st ch src off l1 l2→ch.drop off=r→off≤ch.length→ch.length≤1000→src.length≤1000→JL ch l1 l2=(0,(src.length:Int))→Q):Q:=by
  obtain ⟨ch,off,l1,l2,a,b,c,d,e,f⟩:=A.mk'
  exact k ch off l1 l2 a b c d e f
noncomputable def Go (src:List Nat):List Nat→Sx→Prop
  | [],s=>∃ s',Rd .none s s'∧Un .none s' s'∧At src [] s'
  | a :: r,s=>∃ s' s₂,Rd (.str [a]) s s'∧Un (.str [a]) s' s₂∧At src r s'∧At src (a :: r) s₂
theorem QX {ch r:List Nat} {off a:Nat} (h:ch.drop off=a :: r):ch[off]?=some a∧ch.drop (off + 1)=r∧off + 1≤ch.length:=by
  have hlt:off < ch.length:=Nat.lt_of_not_le fun q=>by
    rw [List.drop_eq_nil_of_le q] at h; cases h
  rw [List.drop_eq_getElem_cons hlt] at h
  obtain ⟨h1,h2⟩:=List.cons.inj h
  exact ⟨by rw [List.getElem?_eq_getElem hlt,h1],h2,hlt⟩
theorem Wy {ch:List Nat} {off:Nat} (h:ch.drop off=[]) (ho:off≤ch.length):off=ch.length:=Nat.le_antisymm ho (List.drop_eq_nil_iff.mp h)
section
variable {src r:List Nat} {s:Sx} {a:Nat}
theorem m4 {n:Nat} (h:n≤1000):n≤JB∧n≤10240∧n < Qc:=⟨Nat.le_trans h (by decide),Nat.le_trans h (by decide),Nat.lt_of_le_of_lt h (by decide)⟩
theorem ZBo:Un .none s s:=fun _ _ _ g hL=>Q3 g g (by decide) hL rfl ⟨rfl,rfl⟩ (Qq g (by decide)) (T8 (n:=1))
theorem posF_nil {l1 l2:Int}:JL [] l1 l2=(l1,l2):=Prod.ext (Int.add_zero l1) (Int.add_zero l2)
theorem At.go (A:At src r s):Go src r s:=A.el fun ch off l1 l2 h1 h2 h3 h4 h5 h6=>by
  subst h1
  cases r with
  | nil =>
    cases Wy h2 h3
    exact ⟨st [] src 0 (JL ch l1 l2).1 (JL ch l1 l2).2,(fun L H P g hL=>Q3 g g (by decide) hL rfl ⟨rfl,rfl⟩ (Qq g (by decide)) (DD (n:=1) (x:=none) (m4 h5).2.1)),ZBo,
      ⟨[],0,_,_,rfl,rfl,Nat.le_refl _,Nat.zero_le _,h5,posF_nil.trans h6⟩⟩
  | cons a r =>
    obtain ⟨ha,hd,hl⟩:=QX h2
    exact ⟨st ch src (off + 1) l1 l2,st ch src off l1 l2,(fun L H P g hL=>Q3 g g (by decide) hL rfl ⟨rfl,rfl⟩ (Qq g (by decide)) (Bb (n:=1) ha (m4 h4).1)),
      (fun L H P g hL=>Q3 g g (by decide) hL rfl ⟨rfl,rfl⟩ (Qq g (by decide)) (On (n:=1) ha (m4 h4).1)),⟨ch,off + 1,l1,l2,rfl,hd,hl,h4,h5,h6⟩,⟨ch,off,l1,l2,rfl,h2,h3,h4,h5,h6⟩⟩
theorem ZEe (hn:src.length≤1000) (hok:∀ b∈src,b∈al) (hp:JL src 0 0=(0,(src.length:Int))):Go src src ⟨[],0,0,0,0,src,0⟩:=by
  cases src with
  | nil=>exact At.go ⟨[],0,0,0,rfl,rfl,Nat.le_refl _,Nat.zero_le _,hn,hp⟩
  | cons a r =>
    have h:∀ L H P,JI tT 5 10 [T1] ⟨L,hS (I1 [] 0 0 0 0) (I3 (a :: r) 0) H,7,P⟩=some (.str [a],⟨L,hs (st (a :: r) (a :: r) 1 0 0) H,7,P⟩):=fun L H P=>by
      have h:=ZAM (n:=1) (L:=L) (H:=H) (P:=P) (nx:=7) (l1:=0) (l2:=0) (m4 hn).2.1 hok
      rw [(posF_nil:JL [] 0 0=((0:Int),(0:Int)))] at h
      exact h
    refine ⟨st (a :: r) (a :: r) 1 0 0,st (a :: r) (a :: r) 0 0 0,(fun L H P g hL=>Q3 g g (by decide) hL rfl ⟨rfl,rfl⟩ (Qq g (by decide)) (h L H P)),
      (fun L H P g hL=>Q3 g g (by decide) hL rfl ⟨rfl,rfl⟩ (Qq g (by decide)) (On (n:=1) (ch:=a :: r) (off:=0) rfl (m4 hn).1)),⟨a :: r,1,0,0,rfl,rfl,Nat.succ_le_succ (Nat.zero_le _),hn,hn,hp⟩,⟨a :: r,0,0,0,rfl,rfl,Nat.zero_le _,hn,hn,hp⟩⟩
theorem At.until {p:Nat→Bool} {chars:Mine.V} {opp:Bool} {vs:List Mine.V} (A:At src r s) (hP:InP chars p) (hv:Xu.args (T1 :: vs)=some [T1,chars,.bool opp]) :
    ∃ s',Cl4 13 vs (.str (r.takeWhile fun a=>p a==opp)) s s'∧At src (r.drop (r.takeWhile fun a=>p a==opp).length) s':=A.el fun ch off l1 l2 h1 h2 h3 h4 h5 h6=>by
  subst h1
  have key:∀ {L H P C v τ},C 13 [T1,chars,.bool opp] ⟨L,H,7,P⟩=some (v,τ)→C=JI tT 5→JI tT 5 13 (T1 :: vs) ⟨L,H,7,P⟩=some (v,τ):=fun h e=>by
    subst e
    show bo (Xu.args (T1 :: vs)) _=_
    rw [hv]
    exact h
  have hl:r.takeWhile (fun a=>p a==opp)=(ch.drop off).takeWhile fun a=>p a==opp:=by rw [h2]
  have hle:off + (r.takeWhile fun a=>p a==opp).length≤ch.length:=by
    rw [hl]
    exact Nat.le_trans (Nat.add_le_add_left Tf off) (Nat.le_of_eq (Nat.add_sub_cancel' h3))
  generalize r.takeWhile (fun a=>p a==opp)=l at hl hle
  have cuN:∀ {q:List Mine.V} {o₁ o₃:Ob} {H:List (Id×Ob)},Good 7 H→hpN ids 7 (cuH q o₁ o₃ H)=hS o₁ o₃ H:=fun g=>Qq g (by decide)
  by_cases he:off + l.length=ch.length
  · have hr:r.drop l.length=[]:=by rw [← h2,List.drop_drop,he,List.drop_length]
    rw [hr]
    exact ⟨st [] src 0 (JL ch l1 l2).1 (JL ch l1 l2).2,(fun L H P g hL=>Q3 g g (by decide) hL rfl ⟨rfl,rfl⟩ (cuN g) (key (ZAQ (n:=1) hP (m4 h5).2.1 (m4 h4).2.2 h3 hl he) rfl)),
      ⟨[],0,_,_,rfl,rfl,Nat.le_refl _,Nat.zero_le _,h5,posF_nil.trans h6⟩⟩
  · exact ⟨st ch src (off + l.length) l1 l2,(fun L H P g hL=>Q3 g g (by decide) hL rfl ⟨rfl,rfl⟩ (cuN g) (key (ZAP (n:=1) hP (m4 h4).2.2 h3 hl (Nat.lt_of_le_of_ne hle he)) rfl)),
      ⟨ch,off + l.length,l1,l2,rfl,by rw [← h2,List.drop_drop],hle,h4,h5,h6⟩⟩
end
theorem ZI {α:Type} (p:α→Prop) {c:Prop} [Decidable c] {x y:α} (h1:c→p x) (h2:¬ c→p y):p (if c then x else y):=by
  by_cases h:c
  · rw [if_pos h]; exact h1 h
  · rw [if_neg h]; exact h2 h
theorem Uh {a b:List Nat} {k:Nat} (h:a.length + b.length≤k) (hk:k≤JB):Jo σ0 .add (.str a) (.str b)=some (.str (a++b)):=by
  show gd (Nat.ble (a.length + b.length) JB) _=_
  rw [ble (Nat.le_trans h hk)]; rfl
end Mine
end
noncomputable section
namespace Mine
noncomputable def OF:ME:=(.ite (.cmp2 .le .le (.k (.str [65])) (.loc 33) (.k (.str [90]))) (.bi .chr [(.bop .add (.bi .ord [(.loc 33)]) (.k (.int 32)))]) (.loc 33))
theorem WI:∀ l:List (List Nat),J8 [] l=l.flatten
  | []=>rfl
  | [x]=>(List.append_nil x).symm
  | x :: y :: r=>(congrArg (·++J8 [] (y :: r)) (List.append_nil x)).trans (congrArg (x++·) (WI (y :: r)))
theorem Oq:∀ l:List (List Nat),UY (l.map Mine.V.str)=some l
  | []=>rfl
  | x :: l=>by
    show bo (UY (l.map Mine.V.str)) _=_
    rw [Oq l]; rfl
theorem Dv {l:List (List Nat)} (h:(J8 [] l).length≤JB):smV σ0 .join [] [.list (l.map .str)]=some (.str (J8 [] l)):=by
  show bo (UY (l.map .str)) (fun ys=>gd (Nat.ble ((ys.map (·.length)).sum + ys.length * 0) JB) (some (Mine.V.str (J8 [] ys))))=_
  rw [Oq]
  show gd (Nat.ble ((l.map (·.length)).sum + l.length * 0) JB) _=_
  rw [WI,List.length_flatten] at h
  rw [ble (by exact h)]; rfl
section
variable {C:Ora} {L:List (Nat×Mine.V)} {n nx:Nat} {H:List (Id×Ob)} {P:List Nat} {a:Nat} {d:List Nat}
theorem NE {p:Prop} [Decidable p] (h:p):some (decide p)=some true:=congrArg some (decide_eq_true h)
theorem Dn {p:Prop} [Decidable p] (h:¬ p):some (decide p)=some false:=congrArg some (decide_eq_false h)
theorem ZDM {i:Int} {t:Nat} (e:i.toNat=t) (h1:decide (0≤i)=true) (h2:decide (i < 1114112)=true):biV σ0 .chr [.int i]=some (.str [t]):=by
  show gd (decide (0≤i)&&decide (i < 1114112)) (some (Mine.V.str [i.toNat]))=_
  rw [h1,h2,e]; rfl
theorem ZGN:ev C OF ⟨(33,.str [a]) :: L,H,nx,P⟩=some (.str [lowC a],⟨(33,.str [a]) :: L,H,nx,P⟩):=by
  refine JC.ev ?_
  by_cases h1:65≤a
  · by_cases h2:a≤90
    · have e:lowC a=a + 32:=if_pos ⟨h1,h2⟩
      have g:=ZDM (i:=(a:Int) + 32) (t:=a + 32) rfl (decide_eq_true (Int.natCast_nonneg (a + 32))) (decide_eq_true (Int.ofNat_lt.mpr (Nat.lt_of_le_of_lt (Nat.add_le_add_right h2 32) (by decide))))
      rw [e]
      exact .b 0 (NE h1) (.b 0 (NE h2) (.v 3 g (.done 1)))
    · have e:lowC a=a:=if_neg fun q=>h2 q.2
      rw [e]
      exact .b 0 (NE h1) (.b 0 (Dn h2) (.done 2))
  · have e:lowC a=a:=if_neg fun q=>h1 q.1
    rw [e]
    exact .b 0 (Dn h1) (.done 2)
theorem Ds:∀ d:List Nat,Jv (Ji (ev C OF) (ev C (.k (.bool true))) 33 L) (d.map fun c=>.str [c]) ⟨L,H,nx,P⟩=some ((d.map fun a=>[lowC a]).map .str,⟨L,H,nx,P⟩)
  | []=>rfl
  | a :: d=>by
    show bn (bn (ev C OF ⟨(33,.str [a]) :: L,H,nx,P⟩) _) _=_
    rw [ZGN]
    show bn (Jv _ (d.map fun c=>.str [c]) ⟨L,H,nx,P⟩) _=_
    rw [Ds d]; rfl
theorem KD:∀ d:List Nat,(d.map fun a=>[lowC a]).flatten=d.map lowC
  | []=>rfl
  | a :: d=>congrArg (lowC a :: ·) (KD d)
theorem K5 (hd:d.length≤JB):JI tT (n + 1) 34 [.str d] ⟨L,H,nx,P⟩=some (.str (d.map lowC),⟨L,H,nx,P⟩):=by
  have hl:(J8 [] (d.map fun a=>[lowC a])).length≤JB:=by rw [WI,KD,List.length_map]; exact hd
  have hj:=Dv hl
  rw [WI,KD] at hj
  have g1:Nat.ble (d.map fun c=>Mine.V.str [c]).length JB=true:=ble (by rw [List.length_map]; exact hd)
  have hc:=Ds (C:=JI tT n) (L:=[(1,.str d)]) (H:=H) (nx:=nx) (P:=P) d
  refine Jy ?_
  exact .g 1 (g1) (.l 0 (hc) (.v 0 (hj) (.done 1)))
end
end Mine
end
noncomputable section
namespace Mine
noncomputable def kTD:List (List Nat):=[[116,121,112,101],[100,97,116,97]]
noncomputable def JZ (n:List Nat):Mine.V:=.dict kTD [.int 7,.str n]
noncomputable def JQ (n:List Nat):Mine.V:=.dict kTD [.int 1,.str n]
noncomputable def Wj (n:List Nat):Mine.V:=.dict kTD [.int 2,.str n]
noncomputable def S1 (q dn:List Mine.V) (s:Sx) (f:Nat) (cv:Mine.V) (tb:Option (List Nat)):St:=⟨[(0,T0)],hs s (H1 q dn (me f) cv tb),7,[99]⟩
theorem Io {q dn:List Mine.V} {st cv:Mine.V} {tb:Option (List Nat)} (hst:V.blw 7 st=true) (hq:V.blws 7 q=true) (hcv:V.blw 7 cv=true) (hdn:V.blws 7 dn=true):UJ 7 (H1 q dn st cv tb)=true:=by
  have h:(V.blws 7 q&&((V.blw 7 st&&(V.blw 7 cv&&Ju 7 (tbF tb)))&&(V.blws 7 dn&&true)))=true:=by
    rw [hst,hq,hcv,hdn]; cases tb <;> rfl
  exact h
theorem JM {q dn:List Mine.V} {f:Nat} {cv:Mine.V} {tb:Option (List Nat)} (hdn:V.blws 7 dn=true) (hcv:V.blw 7 cv=true) (hq:V.blws 7 q=true:=by kernel_rfl):Good 7 (H1 q dn (me f) cv tb):=⟨by kernel_rfl,by kernel_rfl,Io rfl hq hcv hdn⟩
theorem neq {a b:Nat} (h:a≠b):some ([a]==[b])=some false:=congrArg some (beq_eq_false_iff_ne.mpr fun e=>h (List.cons.inj e).1)
section
variable {f:Nat} {b:Bool} {v:Mine.V} {s s' s₂:Sx} {H H':List (Id×Ob)} {P P':List Nat} {q dn:List Mine.V} {cv:Mine.V} {tb:Option (List Nat)} {a:Nat} {l:List Nat}
theorem stp (g:Good 7 H) (g':Good 7 H') (hr:Rd v s s') (k:JC ((fw 4 (JX f [T0] ⟨[(0,T0)],hs s H,7,P⟩)).oc v ⟨[(0,T0)],hs s' H,7,P⟩) nG (.bool b,hs s₂ H',P'))
    (e:(fw 4 (JX f [T0] ⟨[(0,T0)],hs s H,7,P⟩)).gc=FO 10 [T1] ⟨[(0,T0)],hs s H,7,P⟩:=by kernel_rfl):Stp f ⟨[(0,T0)],hs s H,7,P⟩ b ⟨[(0,T0)],hs s₂ H',7,P'⟩:=
  Np.trans (JC.toN g' ⟨rfl,rfl⟩ rfl (.c 4 (hr g rfl) k e))
noncomputable def Jn:List Nat:=[69,76,83,84,89,97,101,108,109,112,115,116,120,121]
noncomputable def nlt:List Nat:=[0,32,33,38,45,47,59,60,62]
theorem ZHu {as:List Nat} {H':Nat→List (Id×Ob)} (m:Nat) (ha:a∈as) (g:Good 7 H) (g':Good 7 (H' a)) (hr:Rd (.str [a]) s s')
    (e2:∀ a∈as,(fw m ((fw 4 (JX f [T0] ⟨[(0,T0)],hs s H,7,P⟩)).oc (.str [a]) ⟨[(0,T0)],hs s' H,7,P⟩)).out nG=some (.bool true,hs s' (H' a),P'))
    (e:(fw 4 (JX f [T0] ⟨[(0,T0)],hs s H,7,P⟩)).gc=FO 10 [T1] ⟨[(0,T0)],hs s H,7,P⟩:=by kernel_rfl):Stp f ⟨[(0,T0)],hs s H,7,P⟩ true ⟨[(0,T0)],hs s' (H' a),7,P'⟩:=
  stp g g' hr (.done m (e2 a ha)) e
theorem XW {vs:List Mine.V} {H₁:List (Id×Ob)} (n m:Nat) (hv:v∈vs) (g:Good 7 H) (g1:Good 7 H₁) (g':Good 7 H') (hr:Rd v s s') (hu:Un v s' s₂)
    (e1:∀ v∈vs,(fw n ((fw 4 (JX f [T0] ⟨[(0,T0)],hs s H,7,P⟩)).oc v ⟨[(0,T0)],hs s' H,7,P⟩)).gc=FO 17 [T1,v] ⟨[(0,T0),(30,v)],hs s' H₁,7,P⟩)
    (e2:∀ v∈vs,(fw m ((fw n ((fw 4 (JX f [T0] ⟨[(0,T0)],hs s H,7,P⟩)).oc v ⟨[(0,T0)],hs s' H,7,P⟩)).oc .none ⟨[(0,T0),(30,v)],hs s₂ H₁,7,P⟩)).out nG=some (.bool true,hs s₂ H',P'))
    (e3:∀ v∈vs,Ju 7 [(0,T0),(30,v)]=true:=by exact JG (by kernel_rfl))
    (e:(fw 4 (JX f [T0] ⟨[(0,T0)],hs s H,7,P⟩)).gc=FO 10 [T1] ⟨[(0,T0)],hs s H,7,P⟩:=by kernel_rfl):Stp f ⟨[(0,T0)],hs s H,7,P⟩ true ⟨[(0,T0)],hs s₂ H',7,P'⟩:=
  stp g g' hr (.c n (hu g1 (e3 v hv)) (.done m (e2 v hv)) (e1 v hv)) e
noncomputable def sg (l:List Nat):List Mine.V:=.none :: l.map fun a=>.str [a]
section
variable (hdn:V.blws 7 dn=true) (hcv:V.blw 7 cv=true)
include hdn hcv
theorem ZD5 (hr:Rd (.str [60]) s s'):Stp 60 (S1 [] dn s 60 cv tb) true (S1 [] dn s' 58 cv tb):=by
  refine stp (JM hdn hcv) (JM hdn hcv) hr ?_
  cases tb <;> exact .done 60
theorem ZCC (hr:Rd (.str [0]) s s'):Stp 60 (S1 [] dn s 60 cv tb) true (S1 [JZ QT,JQ [65533]] dn s' 60 cv tb):=by
  refine stp (JM hdn hcv) (JM hdn hcv) hr ?_
  exact .done 60
theorem ZCD (hr:Rd .none s s'):Stp 60 (S1 [] dn s 60 cv tb) false (S1 [] dn s' 60 cv tb):=by
  refine stp (JM hdn hcv) (JM hdn hcv) hr ?_
  exact .done 60
theorem ZCE (hr:Rd (.str [a]) s s') (hu:Cl4 13 [.tup [.str [60],.str [0]]] (.str l) s' s₂) (n1:a≠60) (n0:a≠0) (hc:1 + l.length≤JB):Stp 60 (S1 [] dn s 60 cv tb) true (S1 [JQ (a :: l)] dn s₂ 60 cv tb):=by
  refine stp (JM hdn hcv) (JM hdn hcv) hr ?_
  exact .b 0 (neq n1) (.b 1 (neq n0) (.c 7 (hu (L:=[(0,T0),(30,.str [a])]) (P:=[99]) (JM (f:=60) (q:=[]) (tb:=tb) hdn hcv) rfl) (.v 4 (Uh (a:=[a]) (b:=l) hc (Nat.le_refl _)) (.done 6))))
theorem ZGL (hr:Rd (.str [47]) s s'):Stp 58 (S1 [] dn s 58 cv tb) true (S1 [] dn s' 59 cv (some [])):=by
  refine stp (JM hdn hcv) (JM hdn hcv) hr ?_
  cases tb <;> exact .done 60
theorem Dr (hv:v∈sg [0,32,33,38,45,59,60,62,69,76,83,84,89,97,101,108,109,112,115,116,120,121]) (hr:Rd v s s') (hu:Un v s' s₂):Stp 58 (S1 [] dn s 58 cv tb) true (S1 [JQ [60]] dn s₂ 60 cv tb):=by
  cases tb with
  | none=>exact XW (H₁:=H1 [JQ [60]] dn (me 58) cv none) 15 7 hv (JM hdn hcv) (JM hdn hcv) (JM hdn hcv) hr hu (JG (by kernel_rfl)) (JG (by kernel_rfl))
  | some b=>exact XW (H₁:=H1 [JQ [60]] dn (me 58) cv (some b)) 15 7 hv (JM hdn hcv) (JM hdn hcv) (JM hdn hcv) hr hu (JG (by kernel_rfl)) (JG (by kernel_rfl))
theorem ZED (ha:a∈Jn) (hr:Rd (.str [a]) s s'):Stp 59 (S1 [] dn s 59 cv (some [])) true (S1 [] dn s' 61 cv (some [a])):=
  ZHu (H':=fun a=>H1 [] dn (me 61) cv (some [a])) 60 ha (JM hdn hcv) (JM hdn hcv) hr (JG (by kernel_rfl))
theorem De (hv:v∈sg nlt) (hr:Rd v s s') (hu:Un v s' s₂):Stp 59 (S1 [] dn s 59 cv (some [])) true (S1 [JQ [60,47]] dn s₂ 60 cv (some [])):=
  XW (H₁:=H1 [JQ [60,47]] dn (me 59) cv (some [])) 15 7 hv (JM hdn hcv) (JM hdn hcv) (JM hdn hcv) hr hu (JG (by kernel_rfl)) (JG (by kernel_rfl))
theorem ZFL (hr:Rd (.str [38]) s s'):Stp 9 (S1 [] dn s 9 cv tb) true (S1 [] dn s' 11 cv tb):=by
  refine stp (JM hdn hcv) (JM hdn hcv) hr ?_
  cases tb <;> exact .done 60
theorem ZFJ (hr:Rd (.str [0]) s s'):Stp 9 (S1 [] dn s 9 cv tb) true (S1 [JZ QT,JQ [0]] dn s' 9 cv tb):=by
  refine stp (JM hdn hcv) (JM hdn hcv) hr ?_
  exact .done 60
theorem ZFK (hr:Rd .none s s'):Stp 9 (S1 [] dn s 9 cv tb) false (S1 [] dn s' 9 cv tb):=by
  refine stp (JM hdn hcv) (JM hdn hcv) hr ?_
  exact .done 60
theorem ZGr (hr:Rd (.str [32]) s s') (hu:Cl4 13 [QL,.bool true] (.str []) s' s₂):Stp 9 (S1 [] dn s 9 cv tb) true (S1 [Wj [32]] dn s₂ 9 cv tb):=by
  refine stp (JM hdn hcv) (JM hdn hcv) hr ?_
  exact .c 18 (hu (L:=[(0,T0),(30,.str [32])]) (P:=[99]) (JM (f:=9) (q:=[]) (tb:=tb) hdn hcv) rfl) (.done 7)
theorem ZHz (hr:Rd (.str [97]) s s') (hu:Cl4 13 [.tup [.str [38],.str [60],.str [0]]] (.str []) s' s₂):Stp 9 (S1 [] dn s 9 cv tb) true (S1 [JQ [97]] dn s₂ 9 cv tb):=by
  refine stp (JM hdn hcv) (JM hdn hcv) hr ?_
  exact .c 14 (hu (L:=[(0,T0),(30,.str [97])]) (P:=[99]) (JM (f:=9) (q:=[]) (tb:=tb) hdn hcv) rfl) (.done 11)
end
end
end Mine
end
noncomputable section
namespace Mine
noncomputable def kSt:List (List Nat):=[[116,121,112,101],[110,97,109,101],[100,97,116,97]]
noncomputable def Xj:List (List Nat):=[[116,121,112,101],[110,97,109,101],[100,97,116,97],[115,101,108,102,67,108,111,115,105,110,103]]
noncomputable def cvS (n:List Nat):Mine.V:=.dict kSt [.int 3,.str n,.list []]
structure TG where
  n:List Nat
  ws:List (List Nat)
  sc:Bool
  b:List Nat
noncomputable def att (w:List Nat):Mine.V:=.list [.str w,.str []]
noncomputable abbrev O0:Mine.V:=.obj (.p 0)
noncomputable abbrev O1:Mine.V:=.obj (.p 1)
noncomputable abbrev O2:Mine.V:=.obj (.p 2)
noncomputable def HA (q dn A:List Mine.V) (f:Nat) (d:TG):List (Id×Ob):=(.p 0,.dict Xj [.int 4,.str d.n,O2,.bool d.sc]) :: (.p 2,.list A) :: H1 q dn (me f) O0 (some d.b)
noncomputable def HT (q dn:List Mine.V) (f:Nat) (d:TG):List (Id×Ob):=HA q dn (d.ws.map att) f d
noncomputable def HN (q dn:List Mine.V) (f:Nat) (d:TG) (w:List Nat):List (Id×Ob):=(.p 1,.list [.str w,.str []]) :: HA q dn (d.ws.map att++[O1]) f d
noncomputable def S2 (q dn:List Mine.V) (s:Sx) (f:Nat) (d:TG):St:=⟨[(0,T0)],hs s (HT q dn f d),7,[0,2,99]⟩
noncomputable def S3 (q dn:List Mine.V) (s:Sx) (f:Nat) (d:TG) (w:List Nat):St:=⟨[(0,T0)],hs s (HN q dn f d w),7,[1,0,2,99]⟩
noncomputable def R61 (ap:Mine.V) (s:Sx) (dn:List Mine.V) (cv:Mine.V) (b:List Nat):Rz:=exsK false FO OV.body.tail ⟨[(0,T0),(152,ap)],hs s (H1 [] dn (me 61) cv (some b)),7,[99]⟩ .done
section
variable {f:Nat} {b:Bool} {v:Mine.V} {s s' s₂:Sx} {q dn A:List Mine.V} {cv ap:Mine.V} {a:Nat} {l n w bf:List Nat} {d:TG} {ws:List (List Nat)} {L:List (Nat×Mine.V)} {P:List Nat} {H:List (Id×Ob)}
theorem WG {n:Nat} {l l':List Mine.V}:V.blws n (l++l')=(V.blws n l&&V.blws n l'):=by
  induction l with
  | nil=>rfl
  | cons v l ih=>exact (congrArg (V.blw n v&&·) ih).trans (Bool.and_assoc ..).symm
theorem WM:∀ {ws:List (List Nat)} {l:List Mine.V},V.blws 7 l=true→V.blws 7 (ws.map att++l)=true
  | [],_,h=>h
  | _ :: ws,_,h=>WM (ws:=ws) h
theorem XV (hdn:V.blws 7 dn=true) (hA:V.blws 7 A=true) (hq:V.blws 7 q=true:=by kernel_rfl):Good 7 (HA q dn A f d):=⟨by kernel_rfl,by kernel_rfl,by
  show (V.blws 7 A&&UJ 7 (H1 q dn (me f) O0 (some d.b)))=true
  rw [hA,Io rfl hq rfl hdn]; rfl⟩
theorem Jq (hdn:V.blws 7 dn=true) (hq:V.blws 7 q=true:=by kernel_rfl):Good 7 (HT q dn f d):=XV hdn (by have h:=WM (ws:=d.ws) (l:=[]) rfl; rw [List.append_nil] at h; exact h) hq
theorem QF (hdn:V.blws 7 dn=true) (hq:V.blws 7 q=true:=by kernel_rfl):Good 7 (HN q dn f d w):=
  have g:Good 7 (HA q dn (d.ws.map att++[O1]) f d):=XV hdn (WM rfl) hq
  ⟨congrArg (List.cons _) g.f,congrArg (List.cons _) g.c,g.b⟩
theorem Hi (hA:n.all (Nat.blt · 128)=true) (hl:n.length≤1000):smV σ0 .lower n []=some (.str (n.map lowC)):=by
  show gd (n.all (Nat.blt · 128)&&Nat.ble n.length 5592405) _=_
  rw [hA,ble (Nat.le_trans hl (by decide))]; rfl
theorem ZA2 {z} (h:JC (R61 .none s dn .none bf) nG z):JC (JX 61 [T0] (S1 [] dn s 61 .none (some bf))) nG z:=by
  refine JC.fw (n:=3) ?_
  exact (by kernel_rfl:fw 3 (JX 61 [T0] (S1 [] dn s 61 .none (some bf)))=R61 .none s dn .none bf)▸h
theorem ZA3 {z} (hn:n.all (Nat.blt · 128)=true) (hnl:n.length≤1000) (hb:bf.all (Nat.blt · 128)=true) (hbl:bf.length≤1000) {x:Bool} (hx:(n.map lowC==bf.map lowC)=x) (h:JC (R61 (.bool x) s dn (cvS n) bf) nG z):JC (JX 61 [T0] (S1 [] dn s 61 (cvS n) (some bf))) nG z:=by
  refine .v 6 (Hi hn hnl) (.v 2 (Hi hb hbl) (.b 0 (congrArg some hx) ?_))
  exact Eq.subst (motive:=fun r=>JC r nG z) (by kernel_rfl:R61 (.bool x) s dn (cvS n) bf=_) h
noncomputable def em1 (c:Bool) (x:Mine.V) (q:List Mine.V):List Mine.V:=match c with
  | true=>q++[x]
  | false=>q
theorem Yw {c:Bool} {x:Mine.V}:(em1 c x q).length≤q.length + 1:=by
  cases c
  · exact Nat.le_succ _
  · exact Nat.le_of_eq List.length_append
noncomputable def QN:List Nat:=[97,116,116,114,105,98,117,116,101,115,45,105,110,45,101,110,100,45,116,97,103]
noncomputable def ZF:List Nat:=[115,101,108,102,45,99,108,111,115,105,110,103,45,102,108,97,103,45,111,110,45,101,110,100,45,116,97,103]
noncomputable def emQ (de sc:Bool) (q:List Mine.V):List Mine.V:=em1 sc (JZ ZF) (em1 de (JZ QN) q)
noncomputable def TG.low (d:TG):TG:=⟨d.n.map lowC,d.ws,d.sc,d.b⟩
theorem ZFC {de:Bool} (hd:bd A.length (some (!A.isEmpty))=some de) (hq:q.length≤100) (hn:d.n.length≤JB):JI tT 5 64 [T0] ⟨L,hs s (HA q dn A f d),7,P⟩=some (.none,⟨L,hs s (HA (emQ de d.sc q++[O0]) dn A 9 d.low),7,P⟩):=by
  obtain ⟨n,ws,sc,bf⟩:=d
  have g0:Nat.ble q.length JB=true:=ble (Nat.le_trans hq (by decide))
  have g1:Nat.ble (em1 de (JZ QN) q).length JB=true:=ble (Nat.le_trans (Nat.le_trans Yw (Nat.succ_le_succ hq)) (by decide))
  have g2:Nat.ble (emQ de sc q).length JB=true:=ble (Nat.le_trans (Nat.le_trans Yw (Nat.succ_le_succ (Nat.le_trans Yw (Nat.succ_le_succ hq)))) (by decide))
  refine Jy ?_
  refine .c 6 (K5 (n:=3) (d:=n) (L:=[(0,T0),(83,O0)]) (nx:=7) (H:=hs s (HA q dn A f ⟨n,ws,sc,bf⟩)) (P:=P) hn) (.b 11 (hd) (?_))
  cases de <;> cases sc
  · exact .g 6 (g2) (.done 7)
  · exact .g 9 (g1) (.g 5 (g2) (.done 7))
  · exact .g 7 (g0) (.g 7 (g2) (.done 7))
  · exact .g 7 (g0) (.g 10 (g1) (.g 5 (g2) (.done 7)))
theorem ZDF {o:Ob} (hd:bd A.length (some (!A.isEmpty))=some true) (hq:q.length≤100) (hn:n.length≤JB):JI tT 5 64 [T0] ⟨L,hs s ((.p 1,o) :: HA q dn A f ⟨n,ws,false,bf⟩),7,P⟩=some (.none,⟨L,hs s ((.p 1,o) :: HA (q++[JZ QN]++[O0]) dn A 9 ⟨n.map lowC,ws,false,bf⟩),7,P⟩):=by
  have g0:Nat.ble q.length JB=true:=ble (Nat.le_trans hq (by decide))
  have g1:Nat.ble (q++[JZ QN]).length JB=true:=ble (Nat.le_trans (Nat.le_trans (Nat.le_of_eq List.length_append) (Nat.succ_le_succ hq)) (by decide))
  refine Jy ?_
  exact .c 6 (K5 (n:=3) (d:=n) (L:=[(0,T0),(83,O0)]) (nx:=7) (H:=hs s ((.p 1,o) :: HA q dn A f ⟨n,ws,false,bf⟩)) (P:=P) hn) (.b 11 (hd) (.g 7 (g0) (.g 7 (g1) (.done 7))))
theorem U7 {c:Bool} {x:Mine.V} (h:V.blws 7 q=true) (hx:V.blws 7 [x]=true):V.blws 7 (em1 c x q)=true:=by
  cases c
  · exact h
  · show V.blws 7 (q++[x])=true
    rw [WG,h,hx]; rfl
theorem Nn {de sc:Bool} (h:V.blws 7 q=true):V.blws 7 (emQ de sc q++[O0])=true:=by
  rw [WG,emQ,U7 (U7 h rfl) rfl]; rfl
theorem Nl {de:Bool} {X:List (Id×Ob)} (e:QG ids X=hs s (HA q dn A f d)) (hd:bd A.length (some (!A.isEmpty))=some de) (hq:q.length≤100) (hn:d.n.length≤JB) (hdn:V.blws 7 dn=true) (hA:V.blws 7 A=true) (hqb:V.blws 7 q=true) (hL:Ju 7 L=true) :
    FO 64 [T0] ⟨L,X,7,P⟩=some (.none,⟨L,hs s (HA (emQ de d.sc q++[O0]) dn A 9 d.low),7,P⟩):=
  have g:Good 7 (HA (emQ de d.sc q++[O0]) dn A 9 d.low):=XV hdn hA (Nn hqb)
  have e':=Qq (o₁:=I1 s.ch s.sz s.off s.l1 s.l2) (o₃:=I3 s.src s.pl) g (by decide)
  KQ (ZFC hd hq hn) (YM g (by decide) hL rfl ⟨rfl,rfl⟩ e') e e'
theorem ZFD (hd:bd A.length (some (!A.isEmpty))=some true) (hq:q.length≤100) (hn:n.length≤JB) (hdn:V.blws 7 dn=true) (hA:V.blws 7 A=true) (hqb:V.blws 7 q=true) (hL:Ju 7 L=true) :
    FO 64 [T0] ⟨L,hs s ((.p 1,.list [.str w,.str []]) :: HA q dn A f ⟨n,ws,false,bf⟩),7,P⟩=some (.none,⟨L,hs s ((.p 1,.list [.str w,.str []]) :: HA (q++[JZ QN]++[O0]) dn A 9 ⟨n.map lowC,ws,false,bf⟩),7,P⟩):=
  have g0:Good 7 (HA (q++[JZ QN]++[O0]) dn A 9 ⟨n.map lowC,ws,false,bf⟩):=XV hdn hA (by rw [WG,WG,hqb]; rfl)
  have g:Good 7 ((.p 1,.list [.str w,.str []]) :: HA (q++[JZ QN]++[O0]) dn A 9 ⟨n.map lowC,ws,false,bf⟩):=⟨congrArg (List.cons _) g0.f,congrArg (List.cons _) g0.c,g0.b⟩
  have g1:Good 7 (HA q dn A f ⟨n,ws,false,bf⟩):=XV hdn hA hqb
  have e':=Qq (o₁:=I1 s.ch s.sz s.off s.l1 s.l2) (o₃:=I3 s.src s.pl) g (by decide)
  KQ (ZDF hd hq hn) (YM g (by decide) hL rfl ⟨rfl,rfl⟩ e') (congrArg (fun l=>hs s ((.p 1,.list [.str w,.str []]) :: l)) g1.f) e'
end
end Mine
end
noncomputable section
namespace Mine
noncomputable def OC:List Nat:=[105,110,118,97,108,105,100,45,99,104,97,114,97,99,116,101,114,45,105,110,45,97,116,116,114,105,98,117,116,101,45,110,97,109,101]
noncomputable def OD:List Nat:=[105,110,118,97,108,105,100,45,99,104,97,114,97,99,116,101,114,45,97,102,116,101,114,45,97,116,116,114,105,98,117,116,101,45,110,97,109,101]
noncomputable def UO:List Nat:=[101,120,112,101,99,116,101,100,45,97,116,116,114,105,98,117,116,101,45,110,97,109,101,45,98,117,116,45,103,111,116,45,101,111,102]
noncomputable def UN:List Nat:=[101,120,112,101,99,116,101,100,45,101,110,100,45,111,102,45,116,97,103,45,98,117,116,45,103,111,116,45,101,111,102]
noncomputable def Wd:List Nat:=[117,110,101,120,112,101,99,116,101,100,45,69,79,70,45,97,102,116,101,114,45,115,111,108,105,100,117,115,45,105,110,45,116,97,103]
noncomputable def UM:List Nat:=[117,110,101,120,112,101,99,116,101,100,45,99,104,97,114,97,99,116,101,114,45,97,102,116,101,114,45,115,111,108,105,100,117,115,45,105,110,45,116,97,103]
noncomputable def aps:List Mine.V:=[.none,.bool false,.bool true]
noncomputable def prL:List (Mine.V×Nat):=aps.flatMap fun p=>Jn.map fun a=>(p,a)
noncomputable def prE:List (Mine.V×Mine.V):=([.none,.bool false].flatMap fun p=>(sg nlt).map fun v=>(p,v))++(sg [0,33,38,45,59,60]).map fun v=>(.bool true,v)
noncomputable def prW:List (Nat×Nat):=[62,66].flatMap fun f=>([0,33,38,45,59,60]++Jn).map fun a=>(f,a)
noncomputable def wW (a:Nat):List Nat:=bif Nat.beq a 0 then [65533] else [a]
noncomputable def qW (f a:Nat):List Mine.V:=bif Nat.beq a 60 then [JZ (bif Nat.beq f 62 then OC else OD)] else bif Nat.beq a 0 then [JZ QT] else []
noncomputable def nW (f a:Nat):Nat:=bif Nat.beq a 60 then (bif Nat.beq f 62 then 25 else 29) else bif Nat.beq a 0 then 27 else bif Nat.ble 65 a then (bif Nat.beq f 62 then 10 else 14) else bif Nat.beq f 62 then 20 else 22
section
variable {f:Nat} {b:Bool} {v:Mine.V} {s s' s₂:Sx} {q dn A:List Mine.V} {cv ap:Mine.V} {a:Nat} {l n w bf:List Nat} {d:TG} {ws:List (List Nat)} {L:List (Nat×Mine.V)} {P:List Nat} {H:List (Id×Ob)}
section
variable (hdn:V.blws 7 dn=true) (hcv:V.blw 7 cv=true)
include hdn hcv
theorem ZEE (hx:(ap,a)∈prL) (hr:Rd (.str [a]) s s') (hl:bf.length + 1≤JB):JC (R61 ap s dn cv bf) nG (.bool true,hs s' (H1 [] dn (me 61) cv (some (bf++[a]))),[99]):=
  have e0:∀ x∈prL,(fw 4 (R61 x.1 s dn cv bf)).gc=FO 10 [T1] ⟨[(0,T0),(152,x.1)],hs s (H1 [] dn (me 61) cv (some bf)),7,[99]⟩:=JG (by kernel_rfl)
  have eL:∀ x∈prL,Ju 7 [(0,T0),(152,x.1)]=true:=JG (by kernel_rfl)
  have e1:∀ x∈prL,(fw 13 ((fw 4 (R61 x.1 s dn cv bf)).oc (.str [x.2]) ⟨[(0,T0),(152,x.1)],hs s' (H1 [] dn (me 61) cv (some bf)),7,[99]⟩)).gv=Jo σ0 .add (.str bf) (.str [x.2]):=JG (by kernel_rfl)
  have e2:∀ x∈prL,(fw 4 ((fw 13 ((fw 4 (R61 x.1 s dn cv bf)).oc (.str [x.2]) ⟨[(0,T0),(152,x.1)],hs s' (H1 [] dn (me 61) cv (some bf)),7,[99]⟩)).ov (.str (bf++[x.2])))).out nG=some (.bool true,hs s' (H1 [] dn (me 61) cv (some (bf++[x.2]))),[99]):=JG (by kernel_rfl)
  .c (X:=FO 10 [T1] ⟨[(0,T0),(152,ap)],hs s (H1 [] dn (me 61) cv (some bf)),7,[99]⟩) 4 (hr (JM hdn hcv) (eL (ap,a) hx)) (.v (X:=Jo σ0 .add (.str bf) (.str [a])) 13 (Uh hl (Nat.le_refl _)) (.done 4 (e2 (ap,a) hx)) (e1 (ap,a) hx)) (e0 (ap,a) hx)
theorem Dm (hx:(ap,v)∈prE) (hr:Rd v s s') (hu:Un v s' s₂) (hl:2 + bf.length≤JB):JC (R61 ap s dn cv bf) nG (.bool true,hs s₂ (H1 [JQ (60 :: 47 :: bf)] dn (me 60) cv (some bf)),[99]):=
  have e0:∀ x∈prE,(fw 4 (R61 x.1 s dn cv bf)).gc=FO 10 [T1] ⟨[(0,T0),(152,x.1)],hs s (H1 [] dn (me 61) cv (some bf)),7,[99]⟩:=JG (by kernel_rfl)
  have eL:∀ x∈prE,(Ju 7 [(0,T0),(152,x.1)],Ju 7 [(0,T0),(152,x.1),(30,x.2)])=(true,true):=JG (by kernel_rfl)
  have e1:∀ x∈prE,(fw 17 ((fw 4 (R61 x.1 s dn cv bf)).oc x.2 ⟨[(0,T0),(152,x.1)],hs s' (H1 [] dn (me 61) cv (some bf)),7,[99]⟩)).gv=Jo σ0 .add (.str [60,47]) (.str bf):=JG (by kernel_rfl)
  have e2:∀ x∈prE,(fw 9 ((fw 17 ((fw 4 (R61 x.1 s dn cv bf)).oc x.2 ⟨[(0,T0),(152,x.1)],hs s' (H1 [] dn (me 61) cv (some bf)),7,[99]⟩)).ov (.str ([60,47]++bf)))).gc=FO 17 [T1,x.2] ⟨[(0,T0),(152,x.1),(30,x.2)],hs s' (H1 [JQ (60 :: 47 :: bf)] dn (me 61) cv (some bf)),7,[99]⟩:=JG (by kernel_rfl)
  have e3:∀ x∈prE,(fw 9 ((fw 9 ((fw 17 ((fw 4 (R61 x.1 s dn cv bf)).oc x.2 ⟨[(0,T0),(152,x.1)],hs s' (H1 [] dn (me 61) cv (some bf)),7,[99]⟩)).ov (.str ([60,47]++bf)))).oc .none ⟨[(0,T0),(152,x.1),(30,x.2)],hs s₂ (H1 [JQ (60 :: 47 :: bf)] dn (me 61) cv (some bf)),7,[99]⟩)).out nG=some (.bool true,hs s₂ (H1 [JQ (60 :: 47 :: bf)] dn (me 60) cv (some bf)),[99]):=JG (by kernel_rfl)
  .c (X:=FO 10 [T1] ⟨[(0,T0),(152,ap)],hs s (H1 [] dn (me 61) cv (some bf)),7,[99]⟩) 4 (hr (JM hdn hcv) (congrArg Prod.fst (eL (ap,v) hx))) (.v (X:=Jo σ0 .add (.str [60,47]) (.str bf)) 17 (Uh hl (Nat.le_refl _))
    (.c (X:=FO 17 [T1,v] ⟨[(0,T0),(152,ap),(30,v)],hs s' (H1 [JQ (60 :: 47 :: bf)] dn (me 61) cv (some bf)),7,[99]⟩) 9 (hu (JM hdn hcv rfl) (congrArg Prod.snd (eL (ap,v) hx))) (.done 9 (e3 (ap,v) hx)) (e2 (ap,v) hx)) (e1 (ap,v) hx)) (e0 (ap,v) hx)
theorem ZGD (hr:Rd (.str [32]) s s'):JC (R61 (.bool true) s dn cv bf) nG (.bool true,hs s' (HT [] dn 62 ⟨bf,[],false,bf⟩),[0,2,99]):=
  .c 4 (hr (L:=[(0,T0),(152,.bool true)]) (P:=[99]) (JM (f:=61) (q:=[]) (tb:=some bf) hdn hcv) rfl) (.done 18)
theorem ZGE (hr:Rd (.str [47]) s s'):JC (R61 (.bool true) s dn cv bf) nG (.bool true,hs s' (HT [] dn 63 ⟨bf,[],false,bf⟩),[0,2,99]):=
  .c 4 (hr (L:=[(0,T0),(152,.bool true)]) (P:=[99]) (JM (f:=61) (q:=[]) (tb:=some bf) hdn hcv) rfl) (.done 40)
theorem ZGG (hr:Rd (.str [62]) s s') (hb:bf.length≤JB):JC (R61 (.bool true) s dn cv bf) nG (.bool true,hs s' (HT [O0] dn 9 ⟨bf.map lowC,[],false,bf⟩),[0,2,99]):=
  .c 4 (hr (L:=[(0,T0),(152,.bool true)]) (P:=[99]) (JM (f:=61) (q:=[]) (tb:=some bf) hdn hcv) rfl)
    (.c 20 (Nl (s:=s') (q:=[]) (dn:=dn) (A:=[]) (f:=61) (d:=⟨bf,[],false,bf⟩) (L:=[(0,T0),(152,.bool true),(30,.str [62])]) (P:=[0,2,99]) (X:=(.p 0,.dict Xj [.int 4,.str bf,O2,.bool false]) :: (.p 2,.list []) :: hs s' (H1 [] dn (me 61) O0 (some bf))) (by kernel_rfl) rfl (Nat.zero_le _) hb hdn rfl rfl rfl) (.done 40))
end
section
variable (hdn:V.blws 7 dn=true)
include hdn
theorem ZHN (hf:f∈[62,66]) (hr:Rd (.str [32]) s s') (hu:Cl4 13 [QL,.bool true] (.str l) s' s₂):Stp f (S2 [] dn s f d) true (S2 [] dn s₂ f d):=
  have e0:∀ f∈[62,66],(fw 4 (JX f [T0] (S2 [] dn s f d))).gc=FO 10 [T1] ⟨[(0,T0)],hs s (HT [] dn f d),7,[0,2,99]⟩:=JG (by kernel_rfl)
  have e1:∀ f∈[62,66],(fw 6 ((fw 4 (JX f [T0] (S2 [] dn s f d))).oc (.str [32]) ⟨[(0,T0)],hs s' (HT [] dn f d),7,[0,2,99]⟩)).gc=FO 13 [T1,QL,.bool true] ⟨[(0,T0),(30,.str [32])],hs s' (HT [] dn f d),7,[0,2,99]⟩:=JG (by kernel_rfl)
  have e2:∀ f∈[62,66],(fw 2 ((fw 6 ((fw 4 (JX f [T0] (S2 [] dn s f d))).oc (.str [32]) ⟨[(0,T0)],hs s' (HT [] dn f d),7,[0,2,99]⟩)).oc (.str l) ⟨[(0,T0),(30,.str [32])],hs s₂ (HT [] dn f d),7,[0,2,99]⟩)).out nG=some (.bool true,hs s₂ (HT [] dn f d),[0,2,99]):=JG (by kernel_rfl)
  stp (Jq hdn) (Jq hdn) hr (.c 6 (hu (Jq hdn) rfl) (.done 2 (e2 f hf)) (e1 f hf)) (e0 f hf)
theorem ZDc (hx:(f,a)∈prW) (hr:Rd (.str [a]) s s') (hl:(d.ws.map att).length≤JB):Stp f (S2 [] dn s f d) true (S3 (qW f a) dn s' 65 d (wW a)):=
  have e0:∀ x∈prW,(fw 4 (JX x.1 [T0] (S2 [] dn s x.1 d))).gc=FO 10 [T1] ⟨[(0,T0)],hs s (HT [] dn x.1 d),7,[0,2,99]⟩:=JG (by kernel_rfl)
  have e1:∀ x∈prW,(fw (nW x.1 x.2) ((fw 4 (JX x.1 [T0] (S2 [] dn s x.1 d))).oc (.str [x.2]) ⟨[(0,T0)],hs s' (HT [] dn x.1 d),7,[0,2,99]⟩)).gg=Nat.ble (d.ws.map att).length JB:=JG (by kernel_rfl)
  have e2:∀ x∈prW,(fw 7 ((fw (nW x.1 x.2) ((fw 4 (JX x.1 [T0] (S2 [] dn s x.1 d))).oc (.str [x.2]) ⟨[(0,T0)],hs s' (HT [] dn x.1 d),7,[0,2,99]⟩)).og)).out nG=some (.bool true,hs s' (HN (qW x.1 x.2) dn 65 d (wW x.2)),[1,0,2,99]):=JG (by kernel_rfl)
  have e3:∀ x∈prW,V.blws 7 (qW x.1 x.2)=true:=JG (by kernel_rfl)
  stp (Jq hdn) (QF hdn (e3 _ hx)) hr (.g (nW f a) (ble hl) (.done 7 (e2 _ hx)) (e1 _ hx)) (e0 _ hx)
theorem ZHO (hf:f∈[62,66]) (hr:Rd (.str [47]) s s'):Stp f (S2 [] dn s f d) true (S2 [] dn s' 63 d):=
  have e0:∀ f∈[62,66],(fw 4 (JX f [T0] (S2 [] dn s f d))).gc=FO 10 [T1] ⟨[(0,T0)],hs s (HT [] dn f d),7,[0,2,99]⟩:=JG (by kernel_rfl)
  have e1:∀ f∈[62,66],(fw 60 ((fw 4 (JX f [T0] (S2 [] dn s f d))).oc (.str [47]) ⟨[(0,T0)],hs s' (HT [] dn f d),7,[0,2,99]⟩)).out nG=some (.bool true,hs s' (HT [] dn 63 d),[0,2,99]):=JG (by kernel_rfl)
  stp (Jq hdn) (Jq hdn) hr (.done 60 (e1 f hf)) (e0 f hf)
noncomputable def nEo (f:Nat):List Nat:=bif Nat.beq f 62 then UO else UN
theorem HQ (hf:f∈[62,66]) (hr:Rd .none s s'):Stp f (S2 [] dn s f d) true (S2 [JZ (nEo f)] dn s' 9 d):=
  have e0:∀ f∈[62,66],(fw 4 (JX f [T0] (S2 [] dn s f d))).gc=FO 10 [T1] ⟨[(0,T0)],hs s (HT [] dn f d),7,[0,2,99]⟩:=JG (by kernel_rfl)
  have e1:∀ f∈[62,66],(fw 60 ((fw 4 (JX f [T0] (S2 [] dn s f d))).oc .none ⟨[(0,T0)],hs s' (HT [] dn f d),7,[0,2,99]⟩)).out nG=some (.bool true,hs s' (HT [JZ (nEo f)] dn 9 d),[0,2,99]):=JG (by kernel_rfl)
  stp (Jq hdn) (Jq hdn rfl) hr (.done 60 (e1 f hf)) (e0 f hf)
theorem ZHP {de:Bool} (hf:f∈[62,66]) (hr:Rd (.str [62]) s s') (hd:bd (d.ws.map att).length (some (!(d.ws.map att).isEmpty))=some de) (hn:d.n.length≤JB):Stp f (S2 [] dn s f d) true (S2 (emQ de d.sc []++[O0]) dn s' 9 d.low):=
  have hA:V.blws 7 (d.ws.map att)=true:=by have h:=WM (ws:=d.ws) (l:=[]) rfl; rw [List.append_nil] at h; exact h
  have e0:∀ f∈[62,66],(fw 4 (JX f [T0] (S2 [] dn s f d))).gc=FO 10 [T1] ⟨[(0,T0)],hs s (HT [] dn f d),7,[0,2,99]⟩:=JG (by kernel_rfl)
  have e1:∀ f∈[62,66],(fw 8 ((fw 4 (JX f [T0] (S2 [] dn s f d))).oc (.str [62]) ⟨[(0,T0)],hs s' (HT [] dn f d),7,[0,2,99]⟩)).gc=FO 64 [T0] ⟨[(0,T0),(30,.str [62])],hs s' (HT [] dn f d),7,[0,2,99]⟩:=JG (by kernel_rfl)
  have e2:∀ f∈[62,66],(fw 9 ((fw 8 ((fw 4 (JX f [T0] (S2 [] dn s f d))).oc (.str [62]) ⟨[(0,T0)],hs s' (HT [] dn f d),7,[0,2,99]⟩)).oc .none ⟨[(0,T0),(30,.str [62])],hs s' (HT (emQ de d.sc []++[O0]) dn 9 d.low),7,[0,2,99]⟩)).out nG=some (.bool true,hs s' (HT (emQ de d.sc []++[O0]) dn 9 d.low),[0,2,99]):=JG (by kernel_rfl)
  stp (Jq hdn) (Jq hdn (Nn rfl)) hr (.c 8 (Nl (q:=[]) (f:=f) (Zo (Jq hdn)) hd (Nat.zero_le _) hn hdn hA rfl rfl) (.done 9 (e2 f hf)) (e1 f hf)) (e0 f hf)
theorem ZHT {de:Bool} (hr:Rd (.str [62]) s s') (hd:bd (d.ws.map att).length (some (!(d.ws.map att).isEmpty))=some de) (hn:d.n.length≤JB):Stp 63 (S2 [] dn s 63 d) true (S2 (emQ de true []++[O0]) dn s' 9 ⟨d.n.map lowC,d.ws,true,d.b⟩):=
  have hA:V.blws 7 (d.ws.map att)=true:=by have h:=WM (ws:=d.ws) (l:=[]) rfl; rw [List.append_nil] at h; exact h
  stp (Jq hdn) (Jq (d:=⟨d.n.map lowC,d.ws,true,d.b⟩) hdn (Nn rfl)) hr (.c 8 (Nl (s:=s') (L:=[(0,T0),(30,.str [62])]) (P:=[0,2,99]) (q:=[]) (f:=63) (d:=⟨d.n,d.ws,true,d.b⟩) (Zo (Jq (d:=⟨d.n,d.ws,true,d.b⟩) hdn)) hd (Nat.zero_le _) hn hdn hA rfl rfl) (.done 9))
theorem ZFw (hr:Rd .none s s') (hu:Un .none s' s₂):Stp 63 (S2 [] dn s 63 d) true (S2 [JZ Wd] dn s₂ 9 d):=
  XW (vs:=[.none]) (H₁:=HT [JZ Wd] dn 63 d) 17 9 (.head _) (Jq hdn) (Jq hdn rfl) (Jq hdn rfl) hr hu (JG (by kernel_rfl)) (JG (by kernel_rfl))
theorem ZDo (ha:v∈([0,32,33,38,45,47,59,60]++Jn).map fun a=>Mine.V.str [a]) (hr:Rd v s s') (hu:Un v s' s₂):Stp 63 (S2 [] dn s 63 d) true (S2 [JZ UM] dn s₂ 62 d):=
  XW (H₁:=HT [JZ UM] dn 63 d) 17 9 ha (Jq hdn) (Jq hdn rfl) (Jq hdn rfl) hr hu (JG (by kernel_rfl)) (JG (by kernel_rfl))
end
end
end Mine
end
noncomputable section
open PySem
namespace Mine
noncomputable def QH:List Nat:=[100,117,112,108,105,99,97,116,101,45,97,116,116,114,105,98,117,116,101]
noncomputable def QU:List Nat:=[101,111,102,45,105,110,45,97,116,116,114,105,98,117,116,101,45,110,97,109,101]
noncomputable def ZGQ:ME:=.sub (.sub (.sub (.attr (.loc 0) 45 3) (.k (.str [100,97,116,97]))) (.neg (.k (.int 1)))) (.k (.int 0))
noncomputable def ZZ:List MS:=[.iff (.cmp .eq ZGQ (.loc 66)) [.ex (.app (.attr (.loc 0) 48 3) (.dct kTD [(.sub (.glob JR) (.k (.str [80,97,114,115,101,69,114,114,111,114]))),(.k (.str QH))] .frz)),.brk] []]
noncomputable def lv0 (v:Mine.V) (e:Bool):List (Nat×Mine.V):=[(0,T0),(30,v),(157,.bool true),(158,.bool e)]
noncomputable def lv1 (v:Mine.V) (e:Bool) (n:List Nat):List (Nat×Mine.V):=[(0,T0),(30,v),(157,.bool true),(158,.bool e),(66,.str n),(160,.str [])]
section
variable {f:Nat} {b e:Bool} {v:Mine.V} {s s' s₂:Sx} {q dn A:List Mine.V} {cv ap:Mine.V} {a:Nat} {l n w bf:List Nat} {d:TG} {ws:List (List Nat)} {L:List (Nat×Mine.V)} {P:List Nat} {H:List (Id×Ob)} {ov:Mine.V}
theorem UX (h:A.length < JB):UL (A++[O1]) (.int (-1))=some O1:=by
  show gd (Nat.ble (A++[O1]).length JB) (bo (seqIndex? (-1) (A++[O1]).length) fun j=>(A++[O1])[j]?)=_
  rw [List.length_append,ble (show A.length + [O1].length≤JB from h)]
  show bo (seqIndex? (-1) (A.length + 1)) _=_
  rw [YE]
  exact List.getElem?_concat_length
theorem Ga (h:A.length < JB):slV ⟨[],[(.p 2,.list (A++[O1]))],0,[]⟩ O2 .none (.int (-1))=some (.list A):=by
  show gd (Nat.ble (A++[O1]).length JB) (some (Mine.V.list (cut (A++[O1]) 0 (clampIx (A++[O1]).length (-1)))))=_
  rw [List.length_append,ble (show A.length + [O1].length≤JB from h)]
  have e:clampIx (A.length + [O1].length) (-1)=A.length:=by
    show (max 0 (min (if (-1:Int) < 0 then (-1:Int) + (A.length + 1:Nat) else -1) ((A.length + 1:Nat):Int))).toNat=_
    rw [if_pos (by decide),((Int.add_comm _ _).trans (Int.add_sub_cancel (A.length:Int) 1):(-1 + (A.length + 1:Nat):Int)=A.length),Int.min_eq_left (Int.ofNat_le.mpr (Nat.le_succ _)),Int.max_eq_right (Int.natCast_nonneg _),Int.toNat_natCast]
  rw [e]
  show some (Mine.V.list (((A++[O1]).take A.length).drop 0))=_
  rw [List.take_left' rfl]; rfl
theorem ZFF (hA:(d.ws.map att).length < JB) (h:(w==n)=false):exs FO ZZ ⟨lv1 v e n,hs s (HN q dn f d w),7,P⟩=some (.next,⟨lv1 v e n,hs s (HN q dn f d w),7,P⟩):=by
  refine JC.exs ?_
  exact .v 3 (UX hA) (.b 1 (congrArg some h) (.done 2))
theorem ZDG (hA:(d.ws.map att).length < JB) (h:(w==n)=true) (hq:q.length≤JB):exs FO ZZ ⟨lv1 v e n,hs s (HN q dn f d w),7,P⟩=some (.brk,⟨lv1 v e n,hs s (HN (q++[JZ QH]) dn f d w),7,P⟩):=by
  have g:=ble hq
  refine JC.exs ?_
  exact .v 3 (UX hA) (.b 1 (congrArg some h) (.g 8 (g) (.done 2)))
noncomputable def Ih:List Mine.V→St→Option (FL×St):=QA (fun v σ=>bo (Uy v) fun vs=>Qy [66,160] vs σ) (exs FO ZZ)
theorem B4 (hA:(d.ws.map att).length < JB) (hq:q.length≤JB):∀ (ws:List (List Nat)) (n:List Nat),∃ n',Ih (ws.map att) ⟨lv1 v e n,hs s (HN q dn f d w),7,P⟩=some (.next,⟨lv1 v e n',hs s (HN (em1 (ws.any (w==·)) (JZ QH) q) dn f d w),7,P⟩)
  | [],n=>⟨n,rfl⟩
  | m :: ws,n=>by
    show ∃ n',bn (exs FO ZZ ⟨lv1 v e m,hs s (HN q dn f d w),7,P⟩) _=_
    rw [List.any_cons]
    cases h:w==m with
    | true=>rw [ZDG hA h hq]; exact ⟨m,rfl⟩
    | false=>rw [ZFF hA h]; exact B4 hA hq ws m
theorem D8 (hA:(d.ws.map att).length < JB) (hq:q.length≤JB):∃ X,Ju 7 X=true∧Ih (d.ws.map att) ⟨lv0 v e,hs s (HN q dn f d w),7,P⟩=some (.next,⟨lv0 v e++X,hs s (HN (em1 (d.ws.any (w==·)) (JZ QH) q) dn f d w),7,P⟩):=by
  generalize hws:d.ws=ws
  cases ws with
  | nil=>exact ⟨[],rfl,rfl⟩
  | cons m ws =>
    obtain ⟨n',e'⟩:=B4 (v:=v) (e:=e) (s:=s) (dn:=dn) (f:=f) (w:=w) (P:=P) (d:=d) hA hq (m :: ws) m
    exact ⟨[(66,.str n'),(160,.str [])],rfl,e'⟩
noncomputable def R65 (v:Mine.V) (e:Bool) (q dn:List Mine.V) (s:Sx) (f:Nat) (d:TG) (w:List Nat):Rz:=exsK false FO (OW.body.drop 4) ⟨lv0 v e,hs s (HN q dn f d w),7,[1,0,2,99]⟩ .done
theorem G3 (g:Good 7 H) (hL:Ju 7 L=true) (hn:n.length≤JB):FO 34 [.str n] ⟨L,hs s H,7,P⟩=some (.str (n.map lowC),⟨L,hs s H,7,P⟩):=Q3 g g (by decide) hL rfl ⟨rfl,rfl⟩ (Qq g (by decide)) (K5 (n:=4) hn)
theorem Z9 (hA:(d.ws.map att).length < JB) (hw:w.length≤JB) (hdn:V.blws 7 dn=true) (hq:q.length≤JB) (hqb:V.blws 7 q=true) (hL:V.blw 7 v=true) :
    JC (R65 v false q dn s f d w) nG (.bool true,hs s (HN (em1 (d.ws.any (w.map lowC==·)) (JZ QH) q) dn f d (w.map lowC)),[1,0,2,99]):=by
  have hL':Ju 7 (lv0 v false)=true:=by show (V.blw 7 v&&true)=true; rw [hL]; rfl
  obtain ⟨X,hX,hl⟩:=D8 (v:=v) (e:=false) (s:=s) (q:=q) (dn:=dn) (f:=f) (w:=w.map lowC) (P:=[1,0,2,99]) hA hq
  exact .v 4 (UX hA) (.c 1 (G3 (n:=w) (s:=s) (P:=[1,0,2,99]) (QF (q:=q) (dn:=dn) (f:=f) (d:=d) (w:=w) hdn hqb) hL' hw) (.v 3 (UX hA) (.v 6 (Ga hA) (.fl 1 (hl) (.done 2)))))
theorem ZA9 (hA:(d.ws.map att).length < JB) (hw:w.length≤JB) (hdn:V.blws 7 dn=true) (hn:d.n.length≤JB) (hsc:d.sc=false) :
    JC (R65 (.str [62]) true [] dn s 65 d w) nG (.bool true,hs s (HN (em1 (d.ws.any (w.map lowC==·)) (JZ QH) []++[JZ QN]++[O0]) dn 9 d.low (w.map lowC)),[1,0,2,99]):=by
  obtain ⟨n,ws,sc,bf⟩:=d
  cases hsc
  obtain ⟨X,hX,hl⟩:=D8 (v:=.str [62]) (e:=true) (s:=s) (q:=[]) (dn:=dn) (f:=65) (w:=w.map lowC) (P:=[1,0,2,99]) hA (Nat.zero_le _)
  have hb:V.blws 7 (ws.map att++[O1])=true:=WM rfl
  have hd:bd (ws.map att++[O1]).length (some (!(ws.map att++[O1]).isEmpty))=some true:=by
    rw [List.length_append]
    show gd (Nat.ble ((ws.map att).length + 1) JB) _=_
    rw [ble hA]
    cases ws <;> rfl
  exact .v 4 (UX hA) (.c 1 (G3 (n:=w) (s:=s) (P:=[1,0,2,99]) (QF (q:=[]) (dn:=dn) (f:=65) (d:=⟨n,ws,false,bf⟩) (w:=w) hdn) (L:=lv0 (.str [62]) true) rfl hw) (.v 3 (UX hA) (.v 6 (Ga hA) (.fl 1 (hl) (.c 3 (ZFD (s:=s) (w:=w.map lowC) (f:=65) (bf:=bf) (ws:=ws) (L:=lv0 (.str [62]) true++X) (P:=[1,0,2,99]) (q:=em1 (ws.any (w.map lowC==·)) (JZ QH) []) hd (Nat.le_trans Yw (by decide)) hn hdn hb (U7 rfl rfl) hX) (.done 2))))))
noncomputable def prN:List Nat:=[0,33,38,45,59,60]
noncomputable def nN (a:Nat):Nat:=bif Nat.beq a 0 then 24 else bif Nat.beq a 60 then 26 else 19
theorem ZGK (hdn:V.blws 7 dn=true) (ha:a∈prN) (hr:Rd (.str [a]) s s') (hA:(d.ws.map att).length < JB) (h2:w.length + 1≤JB):Stp 65 (S3 [] dn s 65 d w) true (S3 (qW 62 a) dn s' 65 d (w++wW a)):=
  have e1:∀ a∈prN,(fw (nN a) ((fw 4 (JX 65 [T0] (S3 [] dn s 65 d w))).oc (.str [a]) ⟨[(0,T0)],hs s' (HN [] dn 65 d w),7,[1,0,2,99]⟩)).gv=UL (d.ws.map att++[O1]) (.int (-1)):=JG (by kernel_rfl)
  have e2:∀ a∈prN,(fw 1 ((fw (nN a) ((fw 4 (JX 65 [T0] (S3 [] dn s 65 d w))).oc (.str [a]) ⟨[(0,T0)],hs s' (HN [] dn 65 d w),7,[1,0,2,99]⟩)).ov O1)).gv=Jo σ0 .add (.str w) (.str (wW a)):=JG (by kernel_rfl)
  have e3:∀ a∈prN,(fw 5 ((fw 1 ((fw (nN a) ((fw 4 (JX 65 [T0] (S3 [] dn s 65 d w))).oc (.str [a]) ⟨[(0,T0)],hs s' (HN [] dn 65 d w),7,[1,0,2,99]⟩)).ov O1)).ov (.str (w++wW a)))).out nG=some (.bool true,hs s' (HN (qW 62 a) dn 65 d (w++wW a)),[1,0,2,99]):=JG (by kernel_rfl)
  have e4:∀ a∈prN,(V.blws 7 (qW 62 a),(wW a).length)=(true,1):=JG (by kernel_rfl)
  stp (QF hdn) (QF hdn (congrArg Prod.fst (e4 a ha))) hr (.v (nN a) (UX hA) (.v 1 (Uh (k:=JB) ((congrArg (w.length + ·) (congrArg Prod.snd (e4 a ha):(wW a).length=1))▸h2) (Nat.le_refl _)) (.done 5 (e3 a ha)) (e2 a ha)) (e1 a ha))
theorem ZGI (hdn:V.blws 7 dn=true) (ha:a∈Jn) (hr:Rd (.str [a]) s s') (hA:(d.ws.map att).length < JB) (h2:w.length + (1 + l.length)≤JB) (hu:Cl4 13 [Qd,.bool true] (.str l) s' s₂):Stp 65 (S3 [] dn s 65 d w) true (S3 [] dn s₂ 65 d (w++a :: l)):=
  have e1:∀ a∈Jn,(fw 7 ((fw 4 (JX 65 [T0] (S3 [] dn s 65 d w))).oc (.str [a]) ⟨[(0,T0)],hs s' (HN [] dn 65 d w),7,[1,0,2,99]⟩)).gv=UL (d.ws.map att++[O1]) (.int (-1)):=JG (by kernel_rfl)
  have e2:∀ a∈Jn,(fw 5 ((fw 7 ((fw 4 (JX 65 [T0] (S3 [] dn s 65 d w))).oc (.str [a]) ⟨[(0,T0)],hs s' (HN [] dn 65 d w),7,[1,0,2,99]⟩)).ov O1)).gc=FO 13 [T1,Qd,.bool true] ⟨lv0 (.str [a]) false,hs s' (HN [] dn 65 d w),7,[1,0,2,99]⟩:=JG (by kernel_rfl)
  have e3:∀ a∈Jn,((fw 5 ((fw 7 ((fw 4 (JX 65 [T0] (S3 [] dn s 65 d w))).oc (.str [a]) ⟨[(0,T0)],hs s' (HN [] dn 65 d w),7,[1,0,2,99]⟩)).ov O1)).oc (.str l) ⟨lv0 (.str [a]) false,hs s₂ (HN [] dn 65 d w),7,[1,0,2,99]⟩).gv=Jo σ0 .add (.str [a]) (.str l):=JG (by kernel_rfl)
  have e4:∀ a∈Jn,(((fw 5 ((fw 7 ((fw 4 (JX 65 [T0] (S3 [] dn s 65 d w))).oc (.str [a]) ⟨[(0,T0)],hs s' (HN [] dn 65 d w),7,[1,0,2,99]⟩)).ov O1)).oc (.str l) ⟨lv0 (.str [a]) false,hs s₂ (HN [] dn 65 d w),7,[1,0,2,99]⟩).ov (.str (a :: l))).gv=Jo σ0 .add (.str w) (.str (a :: l)):=JG (by kernel_rfl)
  have e5:∀ a∈Jn,(fw 5 ((((fw 5 ((fw 7 ((fw 4 (JX 65 [T0] (S3 [] dn s 65 d w))).oc (.str [a]) ⟨[(0,T0)],hs s' (HN [] dn 65 d w),7,[1,0,2,99]⟩)).ov O1)).oc (.str l) ⟨lv0 (.str [a]) false,hs s₂ (HN [] dn 65 d w),7,[1,0,2,99]⟩).ov (.str (a :: l))).ov (.str (w++a :: l)))).out nG=some (.bool true,hs s₂ (HN [] dn 65 d (w++a :: l)),[1,0,2,99]):=JG (by kernel_rfl)
  stp (QF hdn) (QF hdn) hr (.v 7 (UX hA) (.c 5 (hu (QF hdn) rfl) (.v 0 (Uh (a:=[a]) (b:=l) (Nat.le_trans (Nat.le_add_left _ _) h2) (Nat.le_refl _)) (.v 0 (Uh (a:=w) (b:=a :: l) (by rw [List.length_cons,Nat.add_comm l.length]; exact h2) (Nat.le_refl _)) (.done 5 (e5 a ha)) (e4 a ha)) (e3 a ha)) (e2 a ha)) (e1 a ha))
theorem ZL {z q'} (k:Nat) (h:JC (R65 v e q dn s' f d w) nG z) (e':R65 v e q dn s' f d w=fw k ((fw 4 (JX 65 [T0] (S3 q' dn s 65 d w))).oc v ⟨[(0,T0)],hs s' (HN q' dn 65 d w),7,[1,0,2,99]⟩)):JC ((fw 4 (JX 65 [T0] (S3 q' dn s 65 d w))).oc v ⟨[(0,T0)],hs s' (HN q' dn 65 d w),7,[1,0,2,99]⟩) nG z:=JC.fw (n:=k) (e'▸h)
section
variable (hdn:V.blws 7 dn=true) (hA:(d.ws.map att).length < JB) (hw:w.length≤JB)
include hdn hA hw
noncomputable def Uq (d:TG) (w:List Nat) (q:List Mine.V):List Mine.V:=em1 (d.ws.any (w.map lowC==·)) (JZ QH) q
theorem ZHl (hr:Rd (.str [32]) s s'):Stp 65 (S3 [] dn s 65 d w) true (S3 (Uq d w []) dn s' 66 d (w.map lowC)):=
  stp (QF hdn) (QF hdn (U7 rfl rfl)) hr (ZL 13 (Z9 hA hw hdn (Nat.zero_le _) rfl rfl) (by kernel_rfl))
theorem ZHm (hr:Rd (.str [47]) s s'):Stp 65 (S3 [] dn s 65 d w) true (S3 (Uq d w []) dn s' 63 d (w.map lowC)):=
  stp (QF hdn) (QF hdn (U7 rfl rfl)) hr (ZL 15 (Z9 hA hw hdn (Nat.zero_le _) rfl rfl) (by kernel_rfl))
theorem ZGJ (hr:Rd .none s s'):Stp 65 (S3 [] dn s 65 d w) true (S3 (Uq d w [JZ QU]) dn s' 9 d (w.map lowC)):=
  stp (QF hdn) (QF hdn (U7 rfl rfl)) hr (ZL 30 (Z9 hA hw hdn (Nat.le_of_ble_eq_true rfl) rfl rfl) (by kernel_rfl))
theorem ZHn (hr:Rd (.str [62]) s s') (hn:d.n.length≤JB) (hsc:d.sc=false):Stp 65 (S3 [] dn s 65 d w) true (S3 (Uq d w []++[JZ QN]++[O0]) dn s' 9 d.low (w.map lowC)):=
  stp (QF hdn) (QF hdn (by rw [WG,WG,Uq,U7 rfl rfl]; rfl)) hr (ZL 6 (ZA9 hA hw hdn hn hsc) (by kernel_rfl))
end
end
end Mine
end
noncomputable section
open PySem
namespace Mine
section
variable {n nx off a:Nat} {L:List (Nat×Mine.V)} {H:List (Id×Ob)} {P:List Nat} {ch src:List Nat} {l1 l2:Int} {q:List Mine.V} {o₃:Ob}
theorem G6 (ha:ch[off]?=some a) (hl:ch.length≤JB):JI tT (n + 4) 10 [T1] ⟨L,hX (some q) (I1 ch ch.length off l1 l2) o₃ H,nx,P⟩=some (.str [a],⟨L,hX (some q) (I1 ch ch.length (off + 1:Nat) l1 l2) o₃ H,nx,P⟩):=by
  have hlt:=(List.getElem?_eq_some_iff.mp ha).1
  refine Jy ?_
  exact .b 4 (congrArg some (decide_eq_false (Int.not_le.mpr (Int.ofNat_lt.mpr hlt)))) (.v 5 (U1 hl (WX hlt) ha) (.done 5))
variable {dn:List Mine.V} {cv:Mine.V} {tb:Option (List Nat)}
noncomputable def ceT:ME:=.cmp .isn (.sub (.loc 56) (.neg (.k (.int 1)))) (.glob .none)
noncomputable def ZH2:List MS:=[.iff (.not (.fmc (.glob (.fn 0)) 141 55 [(.sm .join (.k (.str [])) [(.loc 56)])])) [.brk] [],.ex (.app (.loc 56) (.mcall (.attr (.loc 0) 20 3) 27 1 10 []))]
noncomputable def Qx:List (Nat×Mine.V):=[(0,T0),(138,.none),(139,.bool false),(140,.str [38]),(56,.obj (.t 7))]
theorem W0 {t:St→Option (Bool×St)} {b:St→Option (FL×St)} {n:Nat} {σ σ₁ σ₂:St} {r:Option (FL×St)} (ht:t σ=some (true,σ₁)) (hb:b σ₁=some (.next,σ₂)) (h:J0 t b n σ₂=r):J0 t b (n + 1) σ=r:=by
  show bn (t σ) _=_
  rw [ht]
  show bn (b σ₁) _=_
  rw [hb]
  exact h
theorem Ww {t:St→Option (Bool×St)} {b:St→Option (FL×St)} {n:Nat} {σ σ₁:St} (ht:t σ=some (false,σ₁)):J0 t b (n + 1) σ=some (.next,σ₁):=by
  show bn (t σ) _=_
  rw [ht]; rfl
theorem ZBg (h:ch.drop off=[116,59]) (hl:ch.length≤1000) (hs:src.length≤1000) (ho:off≤ch.length):J0 (tst (JI tT 4) ceT) (exs (JI tT 4) ZH2) Qc ⟨Qx,hX (some [.str [108]]) (I1 ch ch.length off l1 l2) (I3 src src.length) (H1 [] dn (me 11) cv tb),8,P⟩ =
    some (.next,⟨Qx,hX (some [.str [108],.str [116],.str [59],.none]) (I1 [] 0 0 (JL ch l1 l2).1 (JL ch l1 l2).2) (I3 src src.length) (H1 [] dn (me 11) cv tb),8,P⟩):=by
  obtain ⟨h1,hd,ho1⟩:=QX h
  obtain ⟨h2,hd,ho2⟩:=QX hd
  have h3:=Wy hd ho2
  have hm:=(m4 hl).1
  refine W0 (n:=999999) (σ₁:=⟨Qx,hX (some [.str [108]]) (I1 ch ch.length off l1 l2) (I3 src src.length) (H1 [] dn (me 11) cv tb),8,P⟩) (σ₂:=⟨Qx,hX (some [.str [108],.str [116]]) (I1 ch ch.length (off + 1:Nat) l1 l2) (I3 src src.length) (H1 [] dn (me 11) cv tb),8,P⟩) (by kernel_rfl) (JC.exs ?_)
    (W0 (n:=999998) (σ₁:=⟨Qx,hX (some [.str [108],.str [116]]) (I1 ch ch.length (off + 1:Nat) l1 l2) (I3 src src.length) (H1 [] dn (me 11) cv tb),8,P⟩) (σ₂:=⟨Qx,hX (some [.str [108],.str [116],.str [59]]) (I1 ch ch.length (off + 1 + 1:Nat) l1 l2) (I3 src src.length) (H1 [] dn (me 11) cv tb),8,P⟩) (by kernel_rfl) (JC.exs ?_)
    (W0 (n:=999997) (σ₁:=⟨Qx,hX (some [.str [108],.str [116],.str [59]]) (I1 ch ch.length (off + 1 + 1:Nat) l1 l2) (I3 src src.length) (H1 [] dn (me 11) cv tb),8,P⟩) (σ₂:=⟨Qx,hX (some [.str [108],.str [116],.str [59],.none]) (I1 [] 0 0 (JL ch l1 l2).1 (JL ch l1 l2).2) (I3 src src.length) (H1 [] dn (me 11) cv tb),8,P⟩) (by kernel_rfl) (JC.exs ?_)
    (Ww (n:=999996) (by kernel_rfl))))
  · exact .c 9 (G6 (n:=0) (L:=Qx) (H:=H1 [] dn (me 11) cv tb) (nx:=8) (P:=P) (q:=[.str [108]]) (o₃:=I3 src src.length) (l1:=l1) (l2:=l2) h1 hm) (.done 4)
  · exact .c 9 (G6 (n:=0) (L:=Qx) (H:=H1 [] dn (me 11) cv tb) (nx:=8) (P:=P) (q:=[.str [108],.str [116]]) (o₃:=I3 src src.length) (l1:=l1) (l2:=l2) h2 hm) (.done 4)
  · rw [h3]
    exact .c 9 (DD (n:=0) (L:=Qx) (H:=H1 [] dn (me 11) cv tb) (nx:=8) (P:=P) (x:=some [.str [108],.str [116],.str [59]]) (src:=src) (ch:=ch) (l1:=l1) (l2:=l2) (m4 hs).2.1) (.done 4)
theorem ZFS (h:ch.drop off=[108,116,59]) (hl:ch.length≤1000) (hs:src.length≤1000) (ho:off≤ch.length):JI tT 5 57 [T0] ⟨L,hS (I1 ch ch.length off l1 l2) (I3 src src.length) (H1 [] dn (me 11) cv tb),7,P⟩ =
    some (.none,⟨L,hX (some [.str [108],.str [116],.str [59]]) (I1 [] 0 0 (JL ch l1 l2).1 (JL ch l1 l2).2) (I3 src src.length) (H1 [JQ [60]] dn (me 11) cv tb),8,P⟩):=by
  obtain ⟨h1,hd,ho1⟩:=QX h
  have hw:=ZBg (l1:=l1) (l2:=l2) (dn:=dn) (cv:=cv) (tb:=tb) (P:=P) hd hl hs ho1
  refine Jy ?_
  exact .c 4 (Bb (n:=0) (L:=[(0,T0),(138,.none),(139,.bool false),(140,.str [38])]) (H:=H1 [] dn (me 11) cv tb) (nx:=7) (P:=P) (o₃:=I3 src src.length) (l1:=l1) (l2:=l2) h1 (m4 hl).1) (.fl 13 (hw) (.done 38))
theorem ZGp {s:Sx} (A:At src [108,116,59] s) (hdn:V.blws 7 dn=true) (hcv:V.blw 7 cv=true):∃ s',At src [] s'∧Stp 11 (S1 [] dn s 11 cv tb) true (S1 [JQ [60]] dn s' 9 cv tb):=A.el fun ch off l1 l2 h1 h2 h3 h4 h5 h6=>by
  subst h1
  have g:Good 7 (H1 [JQ [60]] dn (me 11) cv tb):=JM hdn hcv
  have hf:FO 57 [T0] ⟨[(0,T0)],hs (st ch src off l1 l2) (H1 [] dn (me 11) cv tb),7,[99]⟩=some (.none,⟨[(0,T0)],hs (st [] src 0 (JL ch l1 l2).1 (JL ch l1 l2).2) (H1 [JQ [60]] dn (me 11) cv tb),7,[99]⟩):=
    Q3 (h₁:=hX (some [.str [108],.str [116],.str [59]]) (I1 [] 0 0 (JL ch l1 l2).1 (JL ch l1 l2).2) (I3 src src.length) (H1 [JQ [60]] dn (me 11) cv tb)) (JM hdn hcv) g (by decide) rfl rfl ⟨rfl,rfl⟩ (Qq g (by decide)) (ZFS h2 h4 h5 h3)
  refine ⟨st [] src 0 (JL ch l1 l2).1 (JL ch l1 l2).2,⟨[],0,_,_,rfl,rfl,Nat.le_refl _,Nat.zero_le _,h5,posF_nil.trans h6⟩,Np.trans (JC.toN (o₁:=I1 [] 0 0 (JL ch l1 l2).1 (JL ch l1 l2).2) (o₃:=I3 src src.length) (JM hdn hcv) ⟨rfl,rfl⟩ rfl ?_)⟩
  cases tb
  · exact .c 2 (hf) (.done 7)
  · exact .c 2 (hf) (.done 7)
end
end Mine
end
noncomputable section
namespace Mine
noncomputable def gM:GenM:=⟨.fcall (.loc 0) 42 3 [],.attr (.attr (.loc 0) 20 3) 16 1,.attr (.loc 0) 48 3,.pop (.attr (.loc 0) 48 3) [.k (.int 0)]⟩
inductive Tok4 where
  | ch (x:List Nat)
  | sp (x:List Nat)
  | er (n:List Nat)
  | tg (n:List Nat) (ws:List (List Nat)) (sc:Bool)
inductive It where
  | c (n:Nat)
  | e (n:List Nat)
  | g (n:List Nat) (ws:List (List Nat)) (sc:Bool)
noncomputable def Jk (n:List Nat) (ws:List (List Nat)) (sc:Bool):Mine.V:=.dict Xj [.int 4,.str n,.list (ws.map att),.bool sc]
noncomputable def Tok4.v:Tok4→Mine.V
  | .ch x=>JQ x
  | .sp x=>Wj x
  | .er n=>JZ n
  | .tg n ws sc=>Jk n ws sc
noncomputable def Tok4.f:Tok4→List It
  | .ch x=>x.map .c
  | .sp x=>x.map .c
  | .er n=>[.e n]
  | .tg n ws sc=>[.g n ws sc]
noncomputable def Tok4.ok:Tok4→Bool
  | .ch x=>!x.isEmpty
  | .sp x=>!x.isEmpty
  | _=>true
noncomputable def JH (l:List Tok4):List It:=l.flatMap Tok4.f
noncomputable abbrev vs (l:List Tok4):List Mine.V:=l.map Tok4.v
inductive K where
  | n (cv:Mine.V) (tb:Option (List Nat))
  | t (d:TG)
  | a (d:TG) (w:List Nat)
noncomputable def SK (x:K) (q dn:List Mine.V) (s:Sx) (f:Nat):St:=match x with
  | .n cv tb=>S1 q dn s f cv tb
  | .t d=>S2 q dn s f d
  | .a d w=>S3 q dn s f d w
section
variable {i:Id} {n:Nat} {w:Mine.V}
theorem ZCI {l l':List Mine.V}:V.nos i (l++l')=(V.nos i l&&V.nos i l'):=by
  induction l with
  | nil=>rfl
  | cons v l ih=>exact (congrArg (V.no i v&&·) ih).trans (Bool.and_assoc ..).symm
theorem XH:∀ ws:List (List Nat),V.nos i (ws.map att)=true
  | []=>rfl
  | _ :: ws=>XH ws
theorem IJ:∀ ws:List (List Nat),V.blws n (ws.map att)=true
  | []=>rfl
  | _ :: ws=>IJ ws
theorem Yj {a:List Nat} {ws:List (List Nat)} {sc:Bool}:V.no i (Jk a ws sc)=true:=by
  show (V.nos i (ws.map att)&&true)=true
  rw [XH]; rfl
theorem HM {a:List Nat} {ws:List (List Nat)} {sc:Bool}:V.blw n (Jk a ws sc)=true:=by
  show (V.blws n (ws.map att)&&true)=true
  rw [IJ]; rfl
theorem J7:∀ D:List Tok4,V.nos i (vs D)=true
  | []=>rfl
  | t :: D=>by
    show (V.no i t.v&&V.nos i (vs D))=true
    rw [J7 D]
    cases t <;> first | rfl | exact Bool.and_eq_true_iff.mpr ⟨Yj,rfl⟩
theorem JP:∀ D:List Tok4,V.blws n (vs D)=true
  | []=>rfl
  | t :: D=>by
    show (V.blw n t.v&&V.blws n (vs D))=true
    rw [JP D]
    cases t <;> first | rfl | exact Bool.and_eq_true_iff.mpr ⟨HM,rfl⟩
theorem V.sb_no (v:Mine.V):V.no i v=true→V.sb i w v=v:=
  V.rec (motive_1:=fun v=>V.no i v=true→V.sb i w v=v) (motive_2:=fun l=>V.nos i l=true→V.sbs i w l=l) (fun _=>rfl) (fun _ _=>rfl) (fun _ _=>rfl) (fun _ _=>rfl) (fun _ h k=>congrArg Mine.V.tup (h k)) (fun _ h k=>congrArg Mine.V.list (h k)) (fun _ _ h k=>congrArg (Mine.V.dict _) (h k))
    (fun _ k=>if_neg (of_decide_eq_true k)) (fun _ _=>rfl) (fun _ _ h k=>congrArg (Mine.V.meth _) (h k)) (fun _ _ _=>rfl) (fun _=>rfl) (fun v l h1 h2 k=>bA k fun a b=>by
      show V.sb i w v :: V.sbs i w l=_
      rw [h1 a,h2 b]) v
theorem V.sbs_no:∀ (l:List Mine.V),V.nos i l=true→V.sbs i w l=l
  | [],_=>rfl
  | v :: l,h=>bA h fun a b=>by
    show V.sb i w v :: V.sbs i w l=_
    rw [V.sb_no v a,V.sbs_no l b]
theorem V.sbs_app:∀ {l l':List Mine.V},V.sbs i w (l++l')=V.sbs i w l++V.sbs i w l'
  | [],_=>rfl
  | v :: l,_=>congrArg (V.sb i w v :: ·) (V.sbs_app (l:=l))
end
section
variable {x:K} {q dn l:List Mine.V} {b:Bool} {σ' σe:St} {v:Mine.V} {s:Sx} {f:Nat} {d:TG} {w:List Nat} {D:List Tok4} {cv:Mine.V} {tb:Option (List Nat)}
theorem Y6 (h:Stp f (SK x q dn s f) b σ'):tst CT gM.t1 (SK x q dn s f)=some (b,σ'):=by
  have h:CT f [T0] (SK x q dn s f)=some (.bool b,σ'):=h
  refine JC.tst ?_
  cases x <;> exact .c 2 (h) (.b 0 ((rfl:some b=some b)) (.done 1))
theorem NQ:tst CT gM.t2 (SK x q dn s f)=some (false,SK x q dn s f):=by cases x <;> rfl
theorem HS (h:q.length≤JB):tst CT gM.t3 (SK x q dn s f)=some (!q.isEmpty,SK x q dn s f):=by
  have e:bd q.length (some (!q.isEmpty))=some (!q.isEmpty):=by
    show gd (Nat.ble q.length JB) _=_
    rw [ble h]; rfl
  refine JC.tst ?_
  cases x <;> exact .b 2 (e) (.done 1)
theorem ZHy (h:q.length < JB):ev CT gM.e (SK x (v :: q) dn s f)=some (v,SK x q dn s f):=by
  have e:Nat.blt q.length JB=true:=ble h
  refine JC.ev ?_
  cases x <;> exact .g 3 (e) (.done 1)
theorem ZD9:JA (SK x q dn s f).hp (.p 99)=some (.list dn):=by cases x <;> rfl
theorem ZAz {dn':List Mine.V}:(SK x q dn s f).setOb (.p 99) (.list dn')=SK x q dn' s f:=by cases x <;> rfl
theorem IC:∀ (q dn:List Mine.V),q.length < JB→GR CT gM false (SK x [] (dn++q) s f) (dn++q) l σe→GR CT gM false (SK x q dn s f) dn (q++l) σe
  | [],dn,_,h=>(List.append_nil dn)▸h
  | v :: q,dn,hq,h=>.give (HS (Nat.le_of_lt hq)) (ZHy (Nat.lt_of_succ_lt hq)) .same ZD9 (by
    rw [ZAz]
    exact IC q (dn++[v]) (Nat.lt_of_succ_lt hq) (by rw [List.append_assoc]; exact h))
theorem sb1 (hq:V.nos (.p 1) q=true):(S3 q (vs D) s f d w).sb 1 (att w)=S2 q (vs D) s f ⟨d.n,d.ws++[w],d.sc,d.b⟩:=by
  have hA:V.sbs (.p 1) (att w) (d.ws.map att++[O1])=(d.ws++[w]).map att:=by rw [V.sbs_app,V.sbs_no _ (XH _),List.map_append]; rfl
  show (⟨[(0,T0)],hs s ((.p 0,.dict Xj [.int 4,.str d.n,O2,.bool d.sc]) :: (.p 2,.list (V.sbs (.p 1) (att w) (d.ws.map att++[O1]))) :: Qo (.p 1) (att w) (H1 q (vs D) (me f) O0 (some d.b))),7,[0,2,99]⟩:St)=_
  rw [hA]
  show (⟨[(0,T0)],hs s ((.p 0,.dict Xj [.int 4,.str d.n,O2,.bool d.sc]) :: (.p 2,.list ((d.ws++[w]).map att)) :: H1 (V.sbs (.p 1) (att w) q) (V.sbs (.p 1) (att w) (vs D)) (me f) O0 (some d.b)),7,[0,2,99]⟩:St)=_
  rw [V.sbs_no _ (J7 D),V.sbs_no _ hq]; rfl
theorem sb2 (hq:V.nos (.p 2) q=true) (hq0:V.nos (.p 0) q=true):((S2 (q++[O0]) (vs D) s f d).sb 2 (.list (d.ws.map att))).sb 0 (Jk d.n d.ws d.sc)=S1 (q++[Jk d.n d.ws d.sc]) (vs D) s f (Jk d.n d.ws d.sc) (some d.b):=by
  show (⟨[(0,T0)],hs s (H1 (V.sbs (.p 0) (Jk d.n d.ws d.sc) (V.sbs (.p 2) (.list (d.ws.map att)) (q++[O0]))) (V.sbs (.p 0) (Jk d.n d.ws d.sc) (V.sbs (.p 2) (.list (d.ws.map att)) (vs D))) (me f) (Jk d.n d.ws d.sc) (some d.b)),7,[99]⟩:St)=_
  rw [V.sbs_no _ (J7 D),V.sbs_no _ (J7 D),V.sbs_app,V.sbs_no _ hq,show V.sbs (.p 2) (.list (d.ws.map att)) [O0]=[O0] from rfl,V.sbs_app,V.sbs_no _ hq0]; rfl
end
end Mine
end
noncomputable section
namespace Mine
structure CvOk (cv:Mine.V):Prop where
  b:V.blw 7 cv=true
  n:∀ i,V.no i cv=true
noncomputable def Us (src:List Nat) (σ:St) (D l:List Tok4):Prop:=∃ s f cv tb,At src [] s∧CvOk cv∧GR CT gM true σ (vs D) (vs l) (S1 [] (vs (D++l)) s f cv tb)
noncomputable def RT (src:List Nat) (x:K) (f:Nat) (r:List Nat) (F:List It):Prop:=∀ D s,At src r s→∃ l,l.all Tok4.ok=true∧JH l=F∧Us src (SK x [] (vs D) s f) D l
noncomputable def RG (src:List Nat) (x:K) (f:Nat) (r:List Nat) (F:List It):Prop:=∀ D s,Go src r s→∃ l,l.all Tok4.ok=true∧JH l=F∧Us src (SK x [] (vs D) s f) D l
theorem RG.t {src r:List Nat} {x:K} {f:Nat} {F:List It} (h:RG src x f r F):RT src x f r F:=fun D s A=>h D s A.go
section
variable {src r r':List Nat} {x x':K} {f f':Nat} {F:List It} {Q:List Tok4} {d:TG} {w:List Nat} {cv:Mine.V} {tb:Option (List Nat)} {σ σ':St} {s:Sx} {D l:List Tok4}
theorem QP {a b:List Tok4}:vs (a++b)=vs a++vs b:=List.map_append
theorem QY {a b:List Tok4}:JH (a++b)=JH a++JH b:=List.flatMap_append
theorem Qf {a b:List Tok4} (h:a.all Tok4.ok=true) (h':b.all Tok4.ok=true):(a++b).all Tok4.ok=true:=by rw [List.all_append,h,h']; rfl
theorem ZHh (h:Q.length < 100):(vs Q).length < JB:=by rw [List.length_map]; exact Nat.lt_of_lt_of_le h (by decide)
theorem out (hl:Q.length < 100) (h:Us src (SK x' [] (vs (D++Q)) s f') (D++Q) l) (k:∀ {l' e},GR CT gM false (SK x' (vs Q) (vs D) s f') (vs D) l' e→GR CT gM true σ (vs D) l' e):Us src σ D (Q++l):=by
  obtain ⟨s2,f2,cv,tb,hA,hc,G⟩:=h
  rw [List.append_assoc,QP] at G
  exact ⟨s2,f2,cv,tb,hA,hc,QP▸k (IC (vs Q) (vs D) (ZHh hl) (.next (HS (Nat.zero_le _)) G))⟩
theorem XL {P:List Tok4→Sx→Prop} (hQ:Q.all Tok4.ok=true) (hl:Q.length < 100) (h:∀ D s,P D s→∃ s',At src r' s'∧Stp f (SK x [] (vs D) s f) true (SK x' (vs Q) (vs D) s' f')) (H:RT src x' f' r' F) (D:List Tok4) (s:Sx) (hs:P D s):∃ l,l.all Tok4.ok=true∧JH l=JH Q++F∧Us src (SK x [] (vs D) s f) D l:=by
  obtain ⟨s',g,hst⟩:=h D s hs
  obtain ⟨l,h1,h2,h3⟩:=H (D++Q) s' g
  exact ⟨Q++l,Qf hQ h1,QY.trans (congrArg _ h2),out hl h3 fun G=>.turn (Y6 hst) NQ G⟩
theorem Us.map (h:∀ {l' e},GR CT gM true σ (vs D) l' e→GR CT gM true σ' (vs D) l' e) (H:Us src σ D l):Us src σ' D l:=by
  obtain ⟨s2,f2,cv,tb,hA,hc,G⟩:=H
  exact ⟨s2,f2,cv,tb,hA,hc,h G⟩
theorem RT.frz (H:RT src (.t ⟨d.n,d.ws++[w],d.sc,d.b⟩) f r F):RT src (.a d w) f r F:=fun D s hs=>(H D s hs).imp fun l z=>⟨z.1,z.2.1,z.2.2.map fun G=>.frz (k:=1) (w:=att w) (.l rfl rfl) (by decide) (by show GR CT gM true ((S3 [] (vs D) s f d w).sb 1 (att w)) _ _ _; rw [sb1 rfl]; exact G)⟩
theorem GW {l' e} (G:GR CT gM false (S1 (vs (Q++[Tok4.tg d.n d.ws d.sc])) (vs D) s 9 (Jk d.n d.ws d.sc) (some d.b)) (vs D) l' e):GR CT gM false (S2 (vs Q++[O0]) (vs D) s 9 d) (vs D) l' e:=
  .frz (k:=2) (w:=.list (d.ws.map att)) (.l rfl (XH _)) (by decide) (.frz (k:=0) (w:=Jk d.n d.ws d.sc) (.d rfl Yj) (by decide) (by
    rw [sb2 (J7 Q) (J7 Q)]
    rw [QP] at G
    exact G))
theorem RG.emit (hQ:Q.all Tok4.ok=true) (hl:Q.length < 99) (h:∀ D s,Go src r s→∃ s',At src r' s'∧Stp f (SK x [] (vs D) s f) true (S2 (vs Q++[O0]) (vs D) s' 9 d)) (H:RT src (.n (Jk d.n d.ws d.sc) (some d.b)) 9 r' F):RG src x f r (JH Q++.g d.n d.ws d.sc :: F):=fun D s hs=>by
  obtain ⟨s',g,hst⟩:=h D s hs
  obtain ⟨l,h1,h2,h3⟩:=H (D++(Q++[Tok4.tg d.n d.ws d.sc])) s' g
  refine ⟨(Q++[Tok4.tg d.n d.ws d.sc])++l,Qf (Qf hQ rfl) h1,?_,out (Q:=Q++[Tok4.tg d.n d.ws d.sc]) (x':=.n (Jk d.n d.ws d.sc) (some d.b)) (by rw [List.length_append]; exact Nat.succ_lt_succ hl) h3 fun G=>.turn (Y6 hst) (NQ (x:=.t d)) (GW G)⟩
  rw [QY,QY,h2,List.append_assoc]; rfl
theorem RG.emitA (hQ:Q.all Tok4.ok=true) (hl:Q.length < 99) (h:∀ D s,Go src r s→∃ s',At src r' s'∧Stp f (SK x [] (vs D) s f) true (S3 (vs Q++[O0]) (vs D) s' 9 d w)) (H:RT src (.n (Jk d.n (d.ws++[w]) d.sc) (some d.b)) 9 r' F):RG src x f r (JH Q++.g d.n (d.ws++[w]) d.sc :: F):=fun D s hs=>by
  obtain ⟨s',g,hst⟩:=h D s hs
  obtain ⟨l,h1,h2,h3⟩:=H (D++(Q++[Tok4.tg d.n (d.ws++[w]) d.sc])) s' g
  have hq:V.nos (.p 1) (vs Q++[O0])=true:=by rw [ZCI,J7]; rfl
  refine ⟨(Q++[Tok4.tg d.n (d.ws++[w]) d.sc])++l,Qf (Qf hQ rfl) h1,?_,out (Q:=Q++[Tok4.tg d.n (d.ws++[w]) d.sc]) (x':=.n (Jk d.n (d.ws++[w]) d.sc) (some d.b)) (by rw [List.length_append]; exact Nat.succ_lt_succ hl) h3 fun G=>.turn (Y6 hst) (NQ (x:=.a d w))
    (.frz (k:=1) (w:=att w) (.l rfl rfl) (by decide) (by
      show GR CT gM false ((S3 (vs Q++[O0]) (vs D) s' 9 d w).sb 1 (att w)) _ _ _
      rw [sb1 hq]
      exact GW (d:=⟨d.n,d.ws++[w],d.sc,d.b⟩) G))⟩
  rw [QY,QY,h2,List.append_assoc]; rfl
theorem RG.stop (hcv:CvOk cv) (h:∀ D s s',Rd .none s s'→Stp f (S1 [] (vs D) s f cv tb) false (S1 [] (vs D) s' f cv tb)):RG src (.n cv tb) f [] []:=fun D s hs=>by
  obtain ⟨s',hr,-,hA⟩:=hs
  exact ⟨[],rfl,rfl,s',f,cv,tb,hA,hcv,by rw [List.append_nil]; exact .stop (Y6 (x:=.n cv tb) (h D s s' hr)) rfl⟩
end
end Mine
end
noncomputable section
namespace Mine
noncomputable def J2:List (List Nat):=[[],[97],[32,97],[0],[38,108,116,59]]
noncomputable def Q4 (r:List Nat):List It:=match r with
  | 38 :: _=>[.c 60]
  | [0]=>[.e QT,.c 0]
  | r=>r.map .c
theorem ZFO:CvOk .none:=⟨rfl,fun _=>rfl⟩
theorem ZFN {n:List Nat}:CvOk (cvS n):=⟨rfl,fun _=>rfl⟩
theorem XF {n:List Nat} {ws:List (List Nat)} {sc:Bool}:CvOk (Jk n ws sc):=⟨HM,fun _=>Yj⟩
noncomputable def pD (a:Nat):Bool:=[some [38],some [60],some [0]].any (·==some [a])
noncomputable def pR (a:Nat):Bool:=[some [60],some [0]].any (·==some [a])
theorem ZF5:InP (.tup [.str [38],.str [60],.str [0]]) pD:=fun _ _=>rfl
theorem ZF2:InP (.tup [.str [60],.str [0]]) pR:=fun _ _=>rfl
noncomputable def ZW (a:Nat):Bool:=[some [9],some [10],some [12],some [32],some [13]].any (·==some [a])
theorem Dy:InP QL ZW:=fun _ _=>rfl
section
variable {src r r':List Nat} {x x':K} {f f' a:Nat} {F:List It} {Q:List Tok4} {d:TG} {w:List Nat} {cv:Mine.V} {tb:Option (List Nat)} {s s':Sx} {D l:List Tok4} {v:Mine.V}
theorem RG.nil (hcv:CvOk cv):RG src (.n cv tb) 9 [] []:=.stop hcv fun D s s' hr=>ZFK (JP D) hcv.b hr
theorem RG.un {p:Nat→Bool} {opp:Bool} {chars:Mine.V} {us:List Mine.V} (hQ:Q.all Tok4.ok=true) (hl:Q.length < 100) (hP:InP chars p) (hv:Xu.args (T1 :: us)=some [T1,chars,.bool opp])
    (h:∀ D s s₁ s₂,Rd (.str [a]) s s₁→Cl4 13 us (.str (r.takeWhile fun a=>p a==opp)) s₁ s₂→Stp f (SK x [] (vs D) s f) true (SK x' (vs Q) (vs D) s₂ f')) (H:RT src x' f' (r.drop (r.takeWhile fun a=>p a==opp).length) F):RG src x f (a :: r) (JH Q++F):=
  XL hQ hl (fun D s hs=>by
    obtain ⟨s₁,_,hr,-,hA,-⟩:=hs
    obtain ⟨s₂,hu,hA2⟩:=hA.until hP hv
    exact ⟨s₂,hA2,h D s s₁ s₂ hr hu⟩) H
theorem RG.one (hQ:Q.all Tok4.ok=true) (hl:Q.length < 100) (h:∀ D s s₁,Rd (.str [a]) s s₁→Stp f (SK x [] (vs D) s f) true (SK x' (vs Q) (vs D) s₁ f')) (H:RT src x' f' r F):RG src x f (a :: r) (JH Q++F):=
  XL hQ hl (fun D s hs=>by
    obtain ⟨s₁,_,hr,-,hA,-⟩:=hs
    exact ⟨s₁,hA,h D s s₁ hr⟩) H
noncomputable def hd (r:List Nat):Mine.V:=match r with
  | []=>.none
  | a :: _=>.str [a]
theorem RG.back (hQ:Q.all Tok4.ok=true) (hl:Q.length < 100) (h:∀ D s s₁ s₂,Rd (hd r) s s₁→Un (hd r) s₁ s₂→Stp f (SK x [] (vs D) s f) true (SK x' (vs Q) (vs D) s₂ f')) (H:RT src x' f' r F):RG src x f r (JH Q++F):=
  XL hQ hl (fun D s hs=>by
    cases r with
    | nil =>
      obtain ⟨s₁,hr,hu,hA⟩:=hs
      exact ⟨s₁,hA,h D s s₁ s₁ hr hu⟩
    | cons a r =>
      obtain ⟨s₁,s₂,hr,hu,-,hA⟩:=hs
      exact ⟨s₂,hA,h D s s₁ s₂ hr hu⟩) H
theorem RG.eof (hQ:Q.all Tok4.ok=true) (hl:Q.length < 100) (h:∀ D s s₁,Rd .none s s₁→Stp f (SK x [] (vs D) s f) true (SK x' (vs Q) (vs D) s₁ f')) (H:RT src x' f' [] F):RG src x f [] (JH Q++F):=
  XL hQ hl (fun D s hs=>by
    obtain ⟨s₁,hr,-,hA⟩:=hs
    exact ⟨s₁,hA,h D s s₁ hr⟩) H
theorem Yg (hcv:CvOk cv) (hr:r∈J2):RG src (.n cv tb) 9 r (Q4 r):=by
  have h97:RG src (.n cv tb) 9 [97] [.c 97]:=.un (Q:=[.ch [97]]) (x':=.n cv tb) (F:=[]) (r:=[]) rfl (by decide) ZF5 (opp:=false) rfl (fun D s s₁ s₂ h1 h2=>ZHz (JP D) hcv.b h1 h2) (RG.nil hcv).t
  rcases List.mem_cons.mp hr with rfl | hr
  · exact .nil hcv
  rcases List.mem_cons.mp hr with rfl | hr
  · exact h97
  rcases List.mem_cons.mp hr with rfl | hr
  · exact .un (Q:=[.sp [32]]) (x':=.n cv tb) (F:=[.c 97]) (r:=[97]) rfl (by decide) Dy (opp:=true) rfl (fun D s s₁ s₂ h1 h2=>ZGr (JP D) hcv.b h1 h2) h97.t
  rcases List.mem_cons.mp hr with rfl | hr
  · exact .one (Q:=[.er QT,.ch [0]]) (x':=.n cv tb) (F:=[]) (r:=[]) rfl (by decide) (fun D s s₁ h1=>ZFJ (JP D) hcv.b h1) (RG.nil hcv).t
  · cases List.mem_singleton.mp hr
    exact .one (Q:=[]) (x':=.n cv tb) (f':=11) (F:=[.c 60]) (r:=[108,116,59]) rfl (by decide) (fun D s s₁ h1=>ZFL (JP D) hcv.b h1)
      (XL (P:=fun _ s=>At src [108,116,59] s) (Q:=[.ch [60]]) (x':=.n cv tb) (f':=9) (F:=[]) (r':=[]) rfl (by decide) (fun D s hs=>by
        obtain ⟨s',hA,h⟩:=ZGp hs (JP D) hcv.b
        exact ⟨s',hA,h⟩) (RG.nil hcv).t)
end
end Mine
end
noncomputable section
namespace Mine
inductive TQ where
  | A (b:Bool) (ws:List (List Nat))
  | S (ws:List (List Nat))
  | N (ws:List (List Nat)) (w:List Nat)
noncomputable def emT (de sc:Bool):List Tok4:=(bif de then [.er QN] else [])++bif sc then [.er ZF] else []
noncomputable def Jr (ws:List (List Nat)) (w:List Nat):List Tok4:=bif ws.any (w.map lowC==·) then [.er QH] else []
noncomputable def wT (b:Bool) (a:Nat):List Tok4:=bif Nat.beq a 60 then [.er (bif b then OD else OC)] else bif Nat.beq a 0 then [.er QT] else []
noncomputable def emI (n:List Nat) (ws:List (List Nat)) (sc:Bool):List It:=JH (emT (!ws.isEmpty) sc)++[.g n ws sc]
noncomputable def QS (n:List Nat) (b:Bool) (ws:List (List Nat)) (a:Nat):List It×Option TQ:=
  if a=62 then (emI n ws false,none) else if a=32 then ([],some (.A b ws)) else if a=47 then ([],some (.S ws)) else (JH (wT b a),some (.N ws (wW a)))
noncomputable def Jl (n:List Nat) (q:TQ) (a:Nat):List It×Option TQ:=match q with
  | .A b ws=>QS n b ws a
  | .S ws=>if a=62 then (emI n ws true,none) else (.e UM :: (QS n false ws a).1,(QS n false ws a).2)
  | .N ws w=>if a=62 then (JH (Jr ws w)++emI n (ws++[w.map lowC]) false,none) else if a=32 then (JH (Jr ws w),some (.A true (ws++[w.map lowC]))) else if a=47 then (JH (Jr ws w),some (.S (ws++[w.map lowC])))
    else (JH (wT false a),some (.N ws (w++wW a)))
noncomputable def eoI (q:TQ):List It:=match q with
  | .A b _=>[.e (bif b then UN else UO)]
  | .S _=>[.e Wd]
  | .N ws w=>.e QU :: JH (Jr ws w)
noncomputable def tgK (k:TQ→List It) (r:List Nat) (o:Option TQ):List It:=match o with
  | some q=>k q
  | none=>Q4 r
noncomputable def tg (n:List Nat):List Nat→TQ→List It
  | [],q=>eoI q
  | a :: r,q=>(Jl n q a).1++tgK (tg n r) r (Jl n q a).2
noncomputable def okT:List Nat→Prop
  | []=>True
  | a :: r=>if a=62 then r∈J2 else a∈al∧okT r
noncomputable def TQ.k (bf:List Nat):TQ→K
  | .A _ ws=>.t ⟨bf,ws,false,bf⟩
  | .S ws=>.t ⟨bf,ws,false,bf⟩
  | .N ws w=>.a ⟨bf,ws,false,bf⟩ w
noncomputable def TQ.f:TQ→Nat
  | .A b _=>bif b then 66 else 62
  | .S _=>63
  | .N _ _=>65
noncomputable def TQ.sz:TQ→Nat
  | .A _ ws=>ws.length
  | .S ws=>ws.length
  | .N ws w=>ws.length + w.length
section
variable {src r l bf n:List Nat} {a k:Nat} {ws:List (List Nat)} {w:List Nat} {b:Bool} {d:TG} {F:List It} {f:Nat}
theorem H9 {de sc:Bool}:emQ de sc []=vs (emT de sc):=by cases de <;> cases sc <;> rfl
theorem XZ {de sc:Bool}:(emT de sc).all Tok4.ok=true∧(emT de sc).length < 99:=by cases de <;> cases sc <;> exact ⟨rfl,by decide⟩
theorem NC {q:List Tok4}:Uq d w (vs q)=vs (q++Jr d.ws w):=by
  unfold Uq Jr
  cases d.ws.any (w.map lowC==·)
  · exact congrArg vs (List.append_nil q).symm
  · show vs q++[JZ QH]=_
    rw [show (bif true then [Tok4.er QH] else [])=[Tok4.er QH] from rfl,QP]; rfl
theorem U4:(Jr ws w).all Tok4.ok=true∧(Jr ws w).length≤1:=by
  unfold Jr
  cases ws.any (w.map lowC==·)
  · exact ⟨rfl,Nat.zero_le _⟩
  · exact ⟨rfl,Nat.le_refl _⟩
theorem U6 (h:okT (a :: r)) (n:a≠62):a∈al∧okT r:=by
  exact (if_neg n:(if a=62 then r∈J2 else a∈al∧okT r)=_)▸(h:if a=62 then r∈J2 else a∈al∧okT r)
theorem ZC (h:okT (62 :: r)):r∈J2:=h
theorem RT.frzT (H:RT src (.n (Jk d.n d.ws d.sc) (some d.b)) f r F):RT src (.t d) f r F:=fun D s h0=>(H D s h0).imp fun l z=>⟨z.1,z.2.1,z.2.2.map fun G=>.frz (k:=2) (w:=.list (d.ws.map att)) (.l rfl (XH _)) (by decide) (.frz (k:=0) (w:=Jk d.n d.ws d.sc) (.d rfl Yj) (by decide) (by
  have e:((S2 [] (vs D) s f d).sb 2 (.list (d.ws.map att))).sb 0 (Jk d.n d.ws d.sc)=S1 [] (vs D) s f (Jk d.n d.ws d.sc) (some d.b):=by
    show (⟨[(0,T0)],hs s (H1 [] (V.sbs (.p 0) (Jk d.n d.ws d.sc) (V.sbs (.p 2) (.list (d.ws.map att)) (vs D))) (me f) (Jk d.n d.ws d.sc) (some d.b)),7,[99]⟩:St)=_
    rw [V.sbs_no _ (J7 D),V.sbs_no _ (J7 D)]; rfl
  show GR CT gM true (((S2 [] (vs D) s f d).sb 2 (.list (d.ws.map att))).sb 0 (Jk d.n d.ws d.sc)) _ _ _
  rw [e]
  exact G))⟩
theorem NL:RT src (.t d) 9 [] []:=.frzT (RG.nil XF).t
theorem ZFm:∀ a∈al,ZW a=(a==32):=JG (by kernel_rfl)
theorem ZHL:∀ a∈al,(Nat.beq a 62||(Nat.beq a 32||(Nat.beq a 47||(prW.any (·==(62,a))&&prW.any (·==(66,a))))))=true:=JG (by kernel_rfl)
theorem ZHo:∀ a∈al,(Nat.beq a 62||(Nat.beq a 32||(Nat.beq a 47||(Jn.any (·==a)||prN.any (·==a)))))=true:=JG (by kernel_rfl)
theorem ZHV:∀ a∈al,(Nat.beq a 62||(([0,32,33,38,45,47,59,60]++Jn).any (·==a)))=true:=JG (by kernel_rfl)
theorem ZFf:∀ x∈prW,qW x.1 x.2=vs (wT (Nat.beq x.1 66) x.2):=JG (by kernel_rfl)
theorem Jp {a b:Nat} (h:a≠b):Nat.beq a b=false:=Bool.eq_false_iff.mpr fun q=>h (Nat.eq_of_beq_eq_true q)
theorem QJ {α:Type} [BEq α] [LawfulBEq α] {l:List α} {a:α} (h:l.any (·==a)=true):a∈l:=by
  obtain ⟨x,hx,e⟩:=List.any_eq_true.mp h
  exact beq_iff_eq.mp e▸hx
theorem HJ:∀ r:List Nat,okT r→tg n r (.A b ws)=tg n (r.drop (r.takeWhile fun a=>ZW a==true).length) (.A b ws)∧okT (r.drop (r.takeWhile fun a=>ZW a==true).length)
  | [],h=>⟨rfl,h⟩
  | a :: r,h=>by
    rw [List.takeWhile_cons]
    by_cases h62:a=62
    · subst h62; exact ⟨rfl,h⟩
    · obtain ⟨ha,hr⟩:=U6 h h62
      rw [ZFm a ha]
      by_cases h32:a=32
      · subst h32
        exact HJ r hr
      · rw [beq_eq_false_iff_ne.mpr h32]; exact ⟨rfl,h⟩
theorem Du (h:a∈Jn):Jl n (.N ws w) a=([],some (.N ws (w++[a]))):=by
  have e:∀ a∈Jn,(Nat.beq a 62,Nat.beq a 32,Nat.beq a 47,Nat.beq a 60,Nat.beq a 0)=(false,false,false,false,false):=JG (by kernel_rfl)
  have e:=e a h
  injection e with e1 e
  injection e with e2 e
  injection e with e3 e
  injection e with e4 e5
  have hw:wW a=[a]:=by unfold wW; rw [e5]; rfl
  have hT:wT false a=[]:=by unfold wT; rw [e4,e5]; rfl
  unfold Jl
  dsimp only
  rw [if_neg fun q=>absurd (q▸e1) (by decide),if_neg fun q=>absurd (q▸e2) (by decide),if_neg fun q=>absurd (q▸e3) (by decide),hw,hT]; rfl
noncomputable def ZHM:Mine.V→List Mine.V
  | .tup l=>l
  | _=>[]
noncomputable def pL (a:Nat):Bool:=(WC (.str [a]) (ZHM Qd)).getD false
theorem ZF4:InP Qd pL:=fun _ _=>by kernel_rfl
theorem XM:∀ a∈al,pL a=Jn.any (·==a):=JG (by kernel_rfl)
theorem GX:∀ (r w:List Nat),okT r→tg n r (.N ws w)=tg n (r.drop (r.takeWhile fun a=>pL a==true).length) (.N ws (w++r.takeWhile fun a=>pL a==true))∧okT (r.drop (r.takeWhile fun a=>pL a==true).length)
  | [],w,h=>⟨by rw [show w++([]:List Nat).takeWhile (fun a=>pL a==true)=w from List.append_nil w]; rfl,h⟩
  | a :: r,w,h=>by
    rw [List.takeWhile_cons]
    have stay:tg n (a :: r) (.N ws w)=tg n ((a :: r).drop ([]:List Nat).length) (.N ws (w++[]))∧okT ((a :: r).drop ([]:List Nat).length):=⟨by rw [List.append_nil]; rfl,h⟩
    by_cases h62:a=62
    · subst h62; exact stay
    · obtain ⟨ha,hr⟩:=U6 h h62
      rw [XM a ha]
      cases hl:Jn.any (·==a) with
      | false=>exact stay
      | true =>
        have e:=GX r (w++[a]) hr
        refine ⟨?_,e.2⟩
        have e0:tg n (a :: r) (.N ws w)=tg n r (.N ws (w++[a])):=by
          show (Jl n (.N ws w) a).1++tgK (tg n r) r (Jl n (.N ws w) a).2=_
          rw [Du (QJ hl)]; rfl
        rw [e0,e.1,List.append_assoc]; rfl
end
end Mine
end
noncomputable section
namespace Mine
section
variable {src r bf:List Nat} {a k:Nat} {ws:List (List Nat)} {w:List Nat} {b:Bool} {F:List It}
theorem ab (h:ws.length≤900):(ws.map att).length < JB:=by rw [List.length_map]; exact Nat.lt_of_le_of_lt h (by decide)
theorem G8 (h:ws.length≤900):bd (ws.map att).length (some (!(ws.map att).isEmpty))=some (!ws.isEmpty):=by
  show gd (Nat.ble (ws.map att).length JB) _=_
  rw [ble (Nat.le_of_lt (ab h))]
  cases ws <;> rfl
theorem OP:(bif b then 66 else 62)∈[62,66]:=by cases b <;> decide
theorem mx {n:Nat} (h:n≤900):n≤JB:=Nat.le_trans h (by decide)
theorem ZBw (q:TQ) (hz:q.sz≤900):RG src (q.k bf) q.f [] (eoI q):=by
  cases q with
  | A b ws=>exact .eof (Q:=[.er (bif b then UN else UO)]) (x':=.t ⟨bf,ws,false,bf⟩) (F:=[]) rfl (show 1 < 100 by decide) (fun D s s₁ hr=>by
    cases b
    · exact HQ (f:=62) (d:=⟨bf,ws,false,bf⟩) (JP D) (by decide) hr
    · exact HQ (f:=66) (d:=⟨bf,ws,false,bf⟩) (JP D) (by decide) hr) NL
  | S ws=>exact .back (Q:=[.er Wd]) (x':=.t ⟨bf,ws,false,bf⟩) (F:=[]) (r:=[]) rfl (by decide) (fun D s s₁ s₂ hr hu=>ZFw (JP D) hr hu) NL
  | N ws w =>
    have h2:ws.length≤900∧w.length≤900:=⟨Nat.le_trans (Nat.le_add_right _ _) hz,Nat.le_trans (Nat.le_add_left _ _) hz⟩
    have z:RG src (.a ⟨bf,ws,false,bf⟩ w) 65 [] (JH ([Tok4.er QU]++Jr ws w)++[]):=.eof (x':=.a ⟨bf,ws,false,bf⟩ (w.map lowC)) (f':=9) (Qf rfl U4.1) (by rw [List.length_append]; exact Nat.lt_of_le_of_lt (Nat.add_le_add_left U4.2 _) (by decide)) (fun D s s₁ hr=>by
      have h:=ZGJ (d:=⟨bf,ws,false,bf⟩) (w:=w) (JP D) (ab h2.1) (mx h2.2) hr
      rw [show [JZ QU]=vs [Tok4.er QU] from rfl,NC] at h
      exact h) (.frz NL)
    rw [List.append_nil] at z
    exact z
noncomputable def IH (src bf:List Nat) (k:Nat):Prop:=∀ (r:List Nat) (q:TQ),r.length≤k→q.sz + r.length≤900→okT r→RT src (q.k bf) q.f r (tg (bf.map lowC) r q)
theorem dle (r:List Nat) (j:Nat):(r.drop j).length≤r.length:=List.length_drop▸Nat.sub_le _ _
theorem HP (ih:IH src bf k) (hk:r.length≤k) (hz:ws.length + (r.length + 1)≤900) (hb:bf.length≤900) (h:okT (a :: r)):RG src (.t ⟨bf,ws,false,bf⟩) (bif b then 66 else 62) (a :: r) (tg (bf.map lowC) (a :: r) (.A b ws)):=by
  have hw:ws.length≤900:=Nat.le_trans (Nat.le_add_right _ _) hz
  have hz':ws.length + r.length≤900:=Nat.le_of_succ_le hz
  have e:tg (bf.map lowC) (a :: r) (.A b ws)=(QS (bf.map lowC) b ws a).1++tgK (tg (bf.map lowC) r) r (QS (bf.map lowC) b ws a).2:=rfl
  by_cases h62:a=62
  · subst h62
    rw [e,show QS (bf.map lowC) b ws 62=(emI (bf.map lowC) ws false,none) from rfl]
    show RG _ _ _ _ ((JH (emT (!ws.isEmpty) false)++[It.g (bf.map lowC) ws false])++Q4 r)
    rw [List.append_assoc]
    exact RG.emit (Q:=emT (!ws.isEmpty) false) (d:=⟨bf.map lowC,ws,false,bf⟩) XZ.1 XZ.2 (fun D s hs=>by
      obtain ⟨s₁,_,hr,-,hA,-⟩:=hs
      exact ⟨s₁,hA,H9▸ZHP (d:=⟨bf,ws,false,bf⟩) (JP D) OP hr (G8 hw) (mx hb)⟩) (Yg XF (ZC h)).t
  · obtain ⟨ha,hr⟩:=U6 h h62
    by_cases h32:a=32
    · subst h32
      obtain ⟨e1,o⟩:=HJ (n:=bf.map lowC) (b:=b) (ws:=ws) r hr
      rw [e,show QS (bf.map lowC) b ws 32=([],some (.A b ws)) from rfl]
      show RG _ _ _ _ (tg (bf.map lowC) r (.A b ws))
      rw [e1]
      exact .un (Q:=[]) (x':=.t ⟨bf,ws,false,bf⟩) (f':=bif b then 66 else 62) rfl (by decide) Dy (opp:=true) rfl (fun D s s₁ s₂ h1 h2=>ZHN (JP D) OP h1 h2) (ih _ (.A b ws) (Nat.le_trans (dle _ _) hk) (Nat.le_trans (Nat.add_le_add_left (dle _ _) _) hz') o)
    by_cases h47:a=47
    · subst h47
      rw [e,show QS (bf.map lowC) b ws 47=([],some (.S ws)) from rfl]
      exact .one (Q:=[]) (x':=.t ⟨bf,ws,false,bf⟩) (f':=63) rfl (by decide) (fun D s s₁ h1=>ZHO (JP D) OP h1) (ih r (.S ws) hk hz' hr)
    · rw [e,show QS (bf.map lowC) b ws a=(JH (wT b a),some (.N ws (wW a))) from (if_neg h62).trans ((if_neg h32).trans (if_neg h47))]
      have hp:=ZHL a ha
      rw [Jp h62,Jp h32,Jp h47] at hp
      have hp:(62,a)∈prW∧(66,a)∈prW:=bA (a:=prW.any (·==(62,a))) (b:=prW.any (·==(66,a))) hp fun x y=>⟨QJ x,QJ y⟩
      have hx:((bif b then 66 else 62),a)∈prW:=by cases b; exact hp.1; exact hp.2
      have hq:=ZFf _ hx
      have hT:∀ a∈prW,((wT true a.2).all Tok4.ok,Nat.blt (wT true a.2).length 100,(wT false a.2).all Tok4.ok,Nat.blt (wT false a.2).length 100,(wW a.2).length)=(true,true,true,true,1):=JG (by kernel_rfl)
      have hT:=hT _ hx
      have hbe:Nat.beq (bif b then 66 else 62) 66=b:=by cases b <;> rfl
      refine .one (Q:=wT b a) (x':=.a ⟨bf,ws,false,bf⟩ (wW a)) (f':=65) (by cases b; exact congrArg (·.2.2.1) hT; exact congrArg (·.1) hT) (Nat.le_of_ble_eq_true (by cases b; exact congrArg (·.2.2.2.1) hT; exact congrArg (·.2.1) hT)) (fun D s s₁ h1=>?_) (ih r (.N ws (wW a)) hk ?_ hr)
      · have z:=ZDc (d:=⟨bf,ws,false,bf⟩) (JP D) hx h1 (Nat.le_of_lt (ab hw))
        rw [hq] at z
        dsimp only at z
        rw [hbe] at z
        exact z
      · show ws.length + (wW a).length + r.length≤900
        rw [show (wW a).length=1 from congrArg (fun q=>q.2.2.2.2) hT,Nat.add_assoc,Nat.add_comm 1]; exact hz
theorem ZFj (ih:IH src bf k) (hk:r.length≤k) (hz:ws.length + (r.length + 1)≤900) (hb:bf.length≤900) (h:okT (a :: r)):RG src (.t ⟨bf,ws,false,bf⟩) 63 (a :: r) (tg (bf.map lowC) (a :: r) (.S ws)):=by
  have hw:ws.length≤900:=Nat.le_trans (Nat.le_add_right _ _) hz
  by_cases h62:a=62
  · subst h62
    show RG _ _ _ _ ((JH (emT (!ws.isEmpty) true)++[It.g (bf.map lowC) ws true])++Q4 r)
    rw [List.append_assoc]
    exact RG.emit (Q:=emT (!ws.isEmpty) true) (d:=⟨bf.map lowC,ws,true,bf⟩) XZ.1 XZ.2 (fun D s hs=>by
      obtain ⟨s₁,_,hr,-,hA,-⟩:=hs
      exact ⟨s₁,hA,H9▸ZHT (d:=⟨bf,ws,false,bf⟩) (JP D) hr (G8 hw) (mx hb)⟩) (Yg XF (ZC h)).t
  · have hp:=ZHV a (U6 h h62).1
    rw [Jp h62] at hp
    have e:tg (bf.map lowC) (a :: r) (.S ws)=It.e UM :: tg (bf.map lowC) (a :: r) (.A false ws):=by
      show (Jl (bf.map lowC) (.S ws) a).1++tgK (tg (bf.map lowC) r) r (Jl (bf.map lowC) (.S ws) a).2=_
      rw [show Jl (bf.map lowC) (.S ws) a=(.e UM :: (QS (bf.map lowC) false ws a).1,(QS (bf.map lowC) false ws a).2) from if_neg h62]; rfl
    rw [e]
    exact .back (Q:=[.er UM]) (x':=.t ⟨bf,ws,false,bf⟩) (f':=62) rfl (by decide) (fun D s s₁ s₂ hr hu=>ZDo (JP D) (List.mem_map.mpr ⟨a,QJ hp,rfl⟩) hr hu) (HP (b:=false) ih hk hz hb h).t
theorem ZFk (ih:IH src bf k) (hk:r.length≤k) (hz:ws.length + w.length + (r.length + 1)≤900) (hb:bf.length≤900) (h:okT (a :: r)):RG src (.a ⟨bf,ws,false,bf⟩ w) 65 (a :: r) (tg (bf.map lowC) (a :: r) (.N ws w)):=by
  have hw:ws.length≤900:=Nat.le_trans (Nat.le_trans (Nat.le_add_right _ _) (Nat.le_add_right _ _)) hz
  have hv:w.length≤900:=Nat.le_trans (Nat.le_trans (Nat.le_add_left _ _) (Nat.le_add_right _ _)) hz
  have hz1:(ws++[w.map lowC]).length + r.length≤900:=by
    rw [List.length_append,Nat.add_assoc,Nat.add_comm _ r.length]
    exact Nat.le_trans (Nat.add_le_add_right (Nat.le_add_right _ _) _) hz
  have e:tg (bf.map lowC) (a :: r) (.N ws w)=(Jl (bf.map lowC) (.N ws w) a).1++tgK (tg (bf.map lowC) r) r (Jl (bf.map lowC) (.N ws w) a).2:=rfl
  have o1:(Jr ws w).length < 99:=Nat.lt_of_le_of_lt U4.2 (by decide)
  have dv:∀ {D s s₁ f w'},Stp 65 (S3 [] (vs D) s 65 ⟨bf,ws,false,bf⟩ w) true (S3 (Uq ⟨bf,ws,false,bf⟩ w []) (vs D) s₁ f ⟨bf,ws,false,bf⟩ w')→Stp 65 (S3 [] (vs D) s 65 ⟨bf,ws,false,bf⟩ w) true (S3 (vs (Jr ws w)) (vs D) s₁ f ⟨bf,ws,false,bf⟩ w'):=fun h=>by
    rw [show ([]:List Mine.V)=vs [] from rfl,NC] at h
    exact h
  by_cases h62:a=62
  · subst h62
    rw [e,show Jl (bf.map lowC) (.N ws w) 62=(JH (Jr ws w)++emI (bf.map lowC) (ws++[w.map lowC]) false,none) from rfl]
    have he:emI (bf.map lowC) (ws++[w.map lowC]) false=[.e QN,.g (bf.map lowC) (ws++[w.map lowC]) false]:=by unfold emI; cases ws <;> rfl
    rw [he]
    show RG _ _ _ _ ((JH (Jr ws w)++(JH [Tok4.er QN]++[It.g (bf.map lowC) (ws++[w.map lowC]) false]))++Q4 r)
    rw [← List.append_assoc,← QY,List.append_assoc]
    refine RG.emitA (Q:=Jr ws w++[Tok4.er QN]) (d:=⟨bf.map lowC,ws,false,bf⟩) (w:=w.map lowC) (Qf U4.1 rfl) (by rw [List.length_append]; exact Nat.lt_of_le_of_lt (Nat.add_le_add_right U4.2 _) (by decide)) (fun D s hs=>?_) (Yg XF (ZC h)).t
    obtain ⟨s₁,_,hr,-,hA,-⟩:=hs
    have z:=ZHn (d:=⟨bf,ws,false,bf⟩) (w:=w) (JP D) (ab hw) (mx hv) hr (mx hb) rfl
    rw [show ([]:List Mine.V)=vs [] from rfl,NC] at z
    rw [QP]
    exact ⟨s₁,hA,z⟩
  · obtain ⟨ha,hr⟩:=U6 h h62
    by_cases h32:a=32
    · subst h32
      rw [e,show Jl (bf.map lowC) (.N ws w) 32=(JH (Jr ws w),some (.A true (ws++[w.map lowC]))) from rfl]
      exact .one (Q:=Jr ws w) (x':=.a ⟨bf,ws,false,bf⟩ (w.map lowC)) (f':=66) U4.1 (Nat.lt_succ_of_lt o1) (fun D s s₁ h1=>dv (ZHl (d:=⟨bf,ws,false,bf⟩) (JP D) (ab hw) (mx hv) h1)) (.frz (ih r (.A true (ws++[w.map lowC])) hk hz1 hr))
    by_cases h47:a=47
    · subst h47
      rw [e,show Jl (bf.map lowC) (.N ws w) 47=(JH (Jr ws w),some (.S (ws++[w.map lowC]))) from rfl]
      exact .one (Q:=Jr ws w) (x':=.a ⟨bf,ws,false,bf⟩ (w.map lowC)) (f':=63) U4.1 (Nat.lt_succ_of_lt o1) (fun D s s₁ h1=>dv (ZHm (d:=⟨bf,ws,false,bf⟩) (JP D) (ab hw) (mx hv) h1)) (.frz (ih r (.S (ws++[w.map lowC])) hk hz1 hr))
    have hp:=ZHo a ha
    rw [Jp h62,Jp h32,Jp h47] at hp
    have hp:(Jn.any (·==a)||prN.any (·==a))=true:=hp
    cases hl:Jn.any (·==a) with
    | true =>
      have hm:=QJ hl
      rw [e,Du hm]
      obtain ⟨e1,o⟩:=GX (n:=bf.map lowC) (ws:=ws) r (w++[a]) hr
      show RG _ _ _ _ (tg (bf.map lowC) r (.N ws (w++[a])))
      rw [e1,List.append_assoc]
      have hle:(r.takeWhile fun a=>pL a==true).length + (r.drop (r.takeWhile fun a=>pL a==true).length).length=r.length:=by rw [List.length_drop,Nat.add_sub_cancel' (List.takeWhile_prefix _).length_le]
      have hll:=(List.takeWhile_prefix (p:=fun a=>pL a==true) (l:=r)).length_le
      refine .un (Q:=[]) (x':=.a ⟨bf,ws,false,bf⟩ (w++a :: r.takeWhile fun a=>pL a==true)) (f':=65) rfl (by decide) ZF4 (opp:=true) rfl (fun D s s₁ s₂ h1 h2=>ZGI (d:=⟨bf,ws,false,bf⟩) (JP D) hm h1 (ab hw) (mx (Nat.le_trans (Nat.add_le_add (Nat.le_add_left w.length ws.length) (Nat.le_trans (Nat.le_of_eq (Nat.add_comm 1 _)) (Nat.succ_le_succ hll))) hz)) h2) (ih _ (.N ws (w++a :: r.takeWhile fun a=>pL a==true)) (Nat.le_trans (dle _ _) hk) ?_ o)
      show ws.length + (w++a :: r.takeWhile fun a=>pL a==true).length + _≤900
      rw [List.length_append,List.length_cons,Nat.add_assoc,Nat.add_assoc,Nat.add_right_comm,hle,← Nat.add_assoc]
      exact hz
    | false =>
      rw [hl] at hp
      have hm:a∈prN:=QJ hp
      have hT:∀ a∈prN,((wT false a).all Tok4.ok,Nat.blt (wT false a).length 100,(wW a).length)=(true,true,1):=JG (by kernel_rfl)
      have hT:=hT a hm
      have hq:∀ a∈prN,qW 62 a=vs (wT false a):=JG (by kernel_rfl)
      rw [e,show Jl (bf.map lowC) (.N ws w) a=(JH (wT false a),some (.N ws (w++wW a))) from (if_neg h62).trans ((if_neg h32).trans (if_neg h47))]
      refine .one (Q:=wT false a) (x':=.a ⟨bf,ws,false,bf⟩ (w++wW a)) (f':=65) (congrArg (·.1) hT) (Nat.le_of_ble_eq_true (congrArg (·.2.1) hT)) (fun D s s₁ h1=>hq a hm▸ZGK (d:=⟨bf,ws,false,bf⟩) (JP D) hm h1 (ab hw) (Nat.le_trans (Nat.succ_le_succ hv) (by decide))) (ih r (.N ws (w++wW a)) hk ?_ hr)
      show ws.length + (w++wW a).length + r.length≤900
      rw [List.length_append,show (wW a).length=1 from congrArg (fun q=>q.2.2) hT,← Nat.add_assoc,Nat.add_assoc,Nat.add_comm 1]
      exact hz
theorem Y1 (hb:bf.length≤900):∀ (k:Nat) (r:List Nat) (q:TQ),r.length≤k→q.sz + r.length≤900→okT r→RG src (q.k bf) q.f r (tg (bf.map lowC) r q)
  | _,[],q,_,hz,_=>ZBw q hz
  | 0,_ :: _,_,hk,_,_=>absurd hk (Nat.not_succ_le_zero _)
  | k + 1,a :: r,.A b ws,hk,hz,h=>HP (fun r q a b c=>(Y1 hb k r q a b c).t) (Nat.le_of_succ_le_succ hk) hz hb h
  | k + 1,a :: r,.S ws,hk,hz,h=>ZFj (fun r q a b c=>(Y1 hb k r q a b c).t) (Nat.le_of_succ_le_succ hk) hz hb h
  | k + 1,a :: r,.N ws w,hk,hz,h=>ZFk (fun r q a b c=>(Y1 hb k r q a b c).t) (Nat.le_of_succ_le_succ hk) hz hb h
end
end Mine
end
noncomputable section
namespace Mine
noncomputable def rI (a:Nat):List It:=if a=0 then [.e QT,.c 65533] else [.c a]
noncomputable def Qw (w:List Nat):Bool:=match w with
  | []=>false
  | a :: _=>a==32||(a==47||a==62)
noncomputable def ltr (w:List Nat):List Nat:=w.takeWhile fun a=>pL a
noncomputable def JE (w:List Nat):List Nat:=w.drop (ltr w).length
noncomputable def JU (n:Option (List Nat)) (b w:List Nat):Bool:=some ((b++ltr w).map lowC)==n&&Qw (JE w)
noncomputable def Ib (n:Option (List Nat)):List Nat→Option (List Nat)
  | []=>none
  | b :: w=>bif Nat.beq b 47 then bif JU n [] w then some w else none else none
noncomputable def JY (n:Option (List Nat)):List Nat→Option (List Nat)
  | []=>none
  | a :: r=>bif Nat.beq a 60 then Ib n r else none
noncomputable def tgW (w:List Nat):List It:=tg ((ltr w).map lowC) (JE w) (.A false [])
noncomputable def E (n:Option (List Nat)):List Nat→List It
  | []=>[]
  | a :: r=>match JY n (a :: r) with
    | some w=>tgW w
    | none=>rI a++E n r
noncomputable def okE (n:Option (List Nat)):List Nat→Prop
  | []=>True
  | a :: r=>match JY n (a :: r) with
    | some w=>okT (JE w)∧∀ a∈w,a∈al
    | none=>a∈al∧okE n r
noncomputable def F61 (n:Option (List Nat)) (b w:List Nat):List It:=match JU n b w with
  | true=>tg ((b++ltr w).map lowC) (JE w) (.A false [])
  | false=>.c 60 :: .c 47 :: (b.map .c++E n w)
noncomputable def Qa (n:Option (List Nat)) (b w:List Nat):Prop:=match JU n b w with
  | true=>okT (JE w)∧∀ a∈w,a∈al
  | false=>okE n w
section
variable {n:Option (List Nat)} {a:Nat} {r w b l:List Nat}
theorem Qr (h:a≠60):JY n (a :: r)=none:=by
  show (bif Nat.beq a 60 then Ib n r else none)=none
  rw [Jp h]; rfl
theorem W7 (h:∀ w,r≠47 :: w):JY n (60 :: r)=none:=by
  cases r with
  | nil=>rfl
  | cons b w =>
    show (bif Nat.beq b 47 then bif JU n [] w then some w else none else none)=none
    rw [Jp fun q=>h w (congrArg (· :: w) q)]; rfl
theorem E_c:E n (a :: r)=match JY n (a :: r) with | some w=>tgW w | none=>rI a++E n r:=rfl
theorem XN:okE n (a :: r)=match JY n (a :: r) with | some w=>okT (JE w)∧∀ a∈w,a∈al | none=>a∈al∧okE n r:=rfl
theorem WF (h:JY n (a :: r)=none):E n (a :: r)=rI a++E n r:=by
  rw [E_c,h]
theorem WZ (h:JY n (a :: r)=none) (k:okE n (a :: r)):a∈al∧okE n r:=by
  rw [XN,h] at k; exact k
theorem N9 (h:a≠0):rI a=[.c a]:=if_neg h
theorem Na (h:pL a=true):a≠60∧a≠0∧a≠47:=⟨fun q=>absurd (q▸h:pL 60=true) (by decide),fun q=>absurd (q▸h:pL 0=true) (by decide),fun q=>absurd (q▸h:pL 47=true) (by decide)⟩
theorem ZHK (h:pL a=true):E n (a :: r)=.c a :: E n r:=by
  rw [WF (Qr (Na h).1),N9 (Na h).2.1]; rfl
theorem YU (h:pL a=true):ltr (a :: w)=a :: ltr w:=by
  unfold ltr; rw [List.takeWhile_cons,h]; rfl
theorem Ux (h:pL a=false):ltr (a :: w)=[]:=by
  unfold ltr; rw [List.takeWhile_cons,h]; rfl
theorem Ye (h:pL a=true):JE (a :: w)=JE w:=by
  unfold JE; rw [YU h]; rfl
theorem WT (h:pL a=false):JE (a :: w)=a :: w:=by
  unfold JE; rw [Ux h]; rfl
theorem YO (h:pL a=true):JU n b (a :: w)=JU n (b++[a]) w:=by
  unfold JU; rw [YU h,Ye h,List.append_assoc]; rfl
theorem GS (h:pL a=true):F61 n b (a :: w)=F61 n (b++[a]) w:=by
  unfold F61
  rw [YO h,ZHK h,YU h,Ye h,List.append_assoc b,show (b++[a]).map It.c=b.map It.c++[It.c a] from List.map_append,List.append_assoc (b.map It.c)]; rfl
theorem Bp (h:pL a=true) (k:Qa n b (a :: w)):Qa n (b++[a]) w:=by
  unfold Qa at k ⊢
  rw [YO h,Ye h] at k
  cases e:JU n (b++[a]) w with
  | true=>rw [e] at k; exact ⟨k.1,fun x hx=>k.2 x (.tail _ hx)⟩
  | false=>rw [e] at k; exact (WZ (Qr (Na h).1) k).2
theorem Ip:E n (60 :: 47 :: w)=F61 n [] w:=by
  rw [E_c]
  unfold F61
  rw [show JY n (60 :: 47 :: w)=bif JU n [] w then some w else none from rfl]
  cases JU n [] w with
  | true=>rfl
  | false =>
    show rI 60++E n (47 :: w)=_
    rw [WF (Qr (by decide))]; rfl
theorem ZGA (k:okE n (60 :: 47 :: w)):Qa n [] w:=by
  rw [XN,show JY n (60 :: 47 :: w)=bif JU n [] w then some w else none from rfl] at k
  unfold Qa
  cases e:JU n [] w with
  | true=>rw [e] at k; exact k
  | false=>rw [e] at k; exact (WZ (Qr (by decide)) k.2).2
theorem IM:∀ l:List Nat,(∀ a∈l,a≠60∧a≠0)→E n (l++r)=l.map .c++E n r
  | [],_=>rfl
  | a :: l,h=>by
    show E n (a :: (l++r))=_
    rw [WF (Qr (h a (.head _)).1),N9 (h a (.head _)).2,IM l fun x hx=>h x (.tail _ hx)]; rfl
theorem Di:∀ l:List Nat,(∀ a∈l,a≠60∧a≠0)→okE n (l++r)→okE n r
  | [],_,k=>k
  | a :: l,h,k=>Di l (fun x hx=>h x (.tail _ hx)) (WZ (Qr (h a (.head _)).1) k).2
end
inductive Nm:Mine.V→Option (List Nat)→Prop
  | no:Nm .none none
  | yes {m:List Nat}:m.all (Nat.blt · 128)=true→m.length≤1000→m≠[]→Nm (cvS m) (some (m.map lowC))
theorem Nm.ok {cv:Mine.V} {n:Option (List Nat)} (h:Nm cv n):CvOk cv:=by
  cases h
  · exact ZFO
  · exact ZFN
theorem Nm.ne {cv:Mine.V} {n:Option (List Nat)} (h:Nm cv n):n≠some []:=by
  cases h with
  | no=>exact fun q=>nomatch q
  | yes _ _ h=>exact fun q=>h (List.map_eq_nil_iff.mp (Option.some.inj q))
noncomputable def Pre (cv:Mine.V) (bf:List Nat) (ap:Mine.V):Prop:=∀ {s dn z},JC (R61 ap s dn cv bf) nG z→JC (JX 61 [T0] (S1 [] dn s 61 cv (some bf))) nG z
theorem Gi {cv:Mine.V} {n:Option (List Nat)} {bf:List Nat} (N:Nm cv n) (hb:bf.all (Nat.blt · 128)=true) (hbl:bf.length≤1000):∃ ap,(ap=.bool (some (bf.map lowC)==n)∨ap=.none∧(some (bf.map lowC)==n)=false)∧Pre cv bf ap:=by
  cases N with
  | no=>exact ⟨.none,.inr ⟨rfl,rfl⟩,ZA2⟩
  | yes h1 h2 h3 =>
    rename_i m
    refine ⟨.bool (some (bf.map lowC)==some (m.map lowC)),.inl rfl,fun h=>ZA3 h1 h2 hb hbl ?_ h⟩
    cases e:m.map lowC==bf.map lowC with
    | true=>rw [beq_iff_eq.mp e]; exact (beq_self_eq_true _).symm
    | false=>exact (beq_eq_false_iff_ne.mpr fun q=>absurd (Option.some.inj q).symm (beq_eq_false_iff_ne.mp e)).symm
end Mine
end
noncomputable section
namespace Mine
section
variable {src r w b x:List Nat} {a k:Nat} {n:Option (List Nat)} {cv ap v:Mine.V} {tb:Option (List Nat)} {s s':Sx} {D:List Tok4} {F:List It} {H:List (Id×Ob)} {P:List Nat}
theorem H7:JH [Tok4.ch x]++F=x.map .c++F:=by
  show (x.map It.c++[])++F=_
  rw [List.append_nil]
theorem Wl (h0:Pre cv b ap) (g:Good 7 H) (h:JC (R61 ap s (vs D) cv b) nG (.bool true,hs s' H,P)):Stp 61 (S1 [] (vs D) s 61 cv (some b)) true ⟨[(0,T0)],hs s' H,7,P⟩:=Np.trans (JC.toN g ⟨rfl,rfl⟩ rfl (h0 h))
noncomputable def IHr (src:List Nat) (cv:Mine.V) (n:Option (List Nat)) (k:Nat):Prop:=∀ (r:List Nat) (tb:Option (List Nat)),r.length≤k→okE n r→RT src (.n cv tb) 60 r (E n r)
theorem Gj:∀ a∈al,(Jn.any (·==a)||(nlt.any (·==a)&&(([32,47,62]:List Nat).any (·==a)||([0,33,38,45,59,60]:List Nat).any (·==a))))=true:=JG (by kernel_rfl)
theorem Gm (h:okE n (a :: r)):a∈al:=by
  rw [XN] at h
  by_cases e:a=60
  · subst e; decide
  · rw [Qr e] at h; exact h.1
theorem ZCM (h:ap=.bool (some (b.map lowC)==n)∨ap=.none∧(some (b.map lowC)==n)=false) (ha:a∈Jn):(ap,a)∈prL:=by
  refine List.mem_flatMap.mpr ⟨ap,?_,List.mem_map.mpr ⟨a,ha,rfl⟩⟩
  rcases h with h | h
  · rw [h]
    cases some (b.map lowC)==n
    · exact .tail _ (.head _)
    · exact .tail _ (.tail _ (.head _))
  · rw [h.1]; exact .head _
theorem Dp (h:ap=.bool (some (b.map lowC)==n)∨ap=.none∧(some (b.map lowC)==n)=false) (hv:v∈sg nlt) (h2:(some (b.map lowC)==n)=true→v∈sg [0,33,38,45,59,60]):(ap,v)∈prE:=by
  rcases h with h | h
  · rw [h]
    cases e:some (b.map lowC)==n
    · exact List.mem_append_left _ (List.mem_flatMap.mpr ⟨.bool false,.tail _ (.head _),List.mem_map.mpr ⟨v,hv,rfl⟩⟩)
    · exact List.mem_append_right _ (List.mem_map.mpr ⟨v,h2 e,rfl⟩)
  · rw [h.1]
    exact List.mem_append_left _ (List.mem_flatMap.mpr ⟨.none,.head _,List.mem_map.mpr ⟨v,hv,rfl⟩⟩)
theorem Nr (c:Nat):(c==a)=(a==c):=Bool.eq_iff_iff.mpr ⟨fun h=>beq_iff_eq.mpr (beq_iff_eq.mp h).symm,fun h=>beq_iff_eq.mpr (beq_iff_eq.mp h).symm⟩
theorem Y8 {l:List Nat} (h:a∈l):Mine.V.str [a]∈sg l:=.tail _ (List.mem_map.mpr ⟨a,h,rfl⟩)
theorem Y2 (h:JU n b w=false):F61 n b w=JH [Tok4.ch (60 :: 47 :: b)]++E n w:=by
  rw [H7]; unfold F61; rw [h]; rfl
theorem GQ (h:JU n b w=true):F61 n b w=tg ((b++ltr w).map lowC) (JE w) (.A false []):=by
  unfold F61; rw [h]
theorem YT (h:JU n b w=false) (k:Qa n b w):okE n w:=by
  unfold Qa at k; rw [h] at k; exact k
theorem ZA7 (h:JU n b w=true) (k:Qa n b w):okT (JE w):=by
  unfold Qa at k; rw [h] at k; exact k.1
theorem Dj (k:Qa n b (a :: w)):a∈al:=by
  unfold Qa at k
  cases e:JU n b (a :: w)
  · rw [e] at k; exact Gm k
  · rw [e] at k; exact k.2 a (.head _)
theorem D4 (h:(some (b.map lowC)==n)=false) (e:ltr w=[]):JU n b w=false:=by
  unfold JU; rw [e,List.append_nil,h]; rfl
theorem Im (N:Nm cv n) (ih:IHr src cv n k):∀ (w b:List Nat),w.length≤k→b.length + w.length≤900→b.all (Nat.blt · 128)=true→Qa n b w→RG src (.n cv (some b)) 61 w (F61 n b w)
  | [],b,hk,hz,hb,h=>by
    obtain ⟨ap,h1,h2⟩:=Gi N hb (Nat.le_trans (Nat.le_trans (Nat.le_add_right _ _) hz) (by decide))
    have hf:JU n b []=false:=Bool.and_false _
    rw [Y2 hf]
    exact .back (Q:=[.ch (60 :: 47 :: b)]) (x':=.n cv (some b)) (f':=60) (r:=[]) rfl (show 1 < 100 by decide) (fun D s s₁ s₂ hr hu=>Wl h2 (JM (JP D) N.ok.b rfl) (Dm (JP D) N.ok.b (Dp h1 (.head _) fun _=>.head _) hr hu (Nat.le_trans (Nat.add_le_add_left (Nat.le_trans (Nat.le_add_right _ _) hz) _) (by decide)))) (ih [] (some b) (Nat.zero_le _) (YT hf h))
  | a :: w,b,hk,hz,hb,h=>by
    obtain ⟨ap,h1,h2⟩:=Gi N hb (Nat.le_trans (Nat.le_trans (Nat.le_add_right _ _) hz) (by decide))
    have ha:=Dj h
    have hbl:b.length≤900:=Nat.le_trans (Nat.le_add_right _ _) hz
    cases e:Jn.any (·==a) with
    | true =>
      have hp:pL a=true:=(XM a ha).trans e
      have hm:=QJ e
      have h128:∀ a∈Jn,Nat.blt a 128=true:=JG (by kernel_rfl)
      rw [GS hp]
      exact .one (Q:=[]) (x':=.n cv (some (b++[a]))) (f':=61) rfl (by decide) (fun D s s₁ hr=>Wl h2 (JM (JP D) N.ok.b rfl) (ZEE (JP D) N.ok.b (ZCM h1 hm) hr (mx (Nat.le_trans (Nat.add_le_add_left (Nat.le_add_left 1 w.length) _) hz))))
        (Im N ih w (b++[a]) (Nat.le_of_succ_le hk) (by rw [List.length_append,Nat.add_assoc,Nat.add_comm [a].length]; exact hz) (by rw [List.all_append,hb]; exact (Bool.and_true _).trans (h128 a hm)) (Bp hp h)).t
    | false =>
      have hp:pL a=false:=(XM a ha).trans e
      have hx:=Gj a ha
      rw [e] at hx
      refine bA hx fun hx1 hx2=>?_
      cases hf:JU n b (a :: w) with
      | false =>
        rw [Y2 hf]
        refine .back (Q:=[.ch (60 :: 47 :: b)]) (x':=.n cv (some b)) (f':=60) (r:=a :: w) rfl (show 1 < 100 by decide) (fun D s s₁ s₂ hr hu=>Wl h2 (JM (JP D) N.ok.b rfl) (Dm (JP D) N.ok.b (Dp h1 (Y8 (QJ hx1)) fun e1=>?_) hr hu (Nat.le_trans (Nat.add_le_add_left hbl _) (by decide)))) (ih (a :: w) (some b) hk (YT hf h))
        have e2:JU n b (a :: w)=Qw (a :: w):=by
          unfold JU; rw [Ux hp,List.append_nil,e1,WT hp]; rfl
        rw [e2] at hf
        have hf:(a==32||(a==47||a==62))=false:=hf
        refine Y8 (QJ ?_)
        have e3:([32,47,62]:List Nat).any (·==a)=(a==32||(a==47||a==62)):=by
          show (32==a||(47==a||(62==a||false)))=_
          rw [Bool.or_false,Nr 32,Nr 47,Nr 62]
        rw [e3,hf] at hx2
        exact hx2
      | true =>
        have hn:(some (b.map lowC)==n)=true:=by
          cases e1:some (b.map lowC)==n with
          | true=>rfl
          | false=>exact (D4 e1 (Ux hp)).symm.trans hf
        have hap:ap=.bool true:=by
          rcases h1 with h1 | h1
          · rw [h1,hn]
          · exact absurd (h1.2.symm.trans hn) (by decide)
        subst hap
        have hT:=ZA7 hf h
        rw [WT hp] at hT
        have he:Qw (a :: w)=true:=by
          unfold JU at hf; rw [WT hp] at hf; exact bA hf fun _ q=>q
        rw [GQ hf,Ux hp,WT hp,List.append_nil]
        have tgq:∀ (q:TQ),q.sz + w.length≤900→okT w→RG src (q.k b) q.f w (tg (b.map lowC) w q):=fun q hq hw=>Y1 hbl w.length w q (Nat.le_refl _) hq hw
        have hz':0 + w.length≤900:=by rw [Nat.zero_add]; exact Nat.le_trans (Nat.le_succ _) (Nat.le_trans (Nat.le_add_left _ b.length) hz)
        by_cases h32:a=32
        · subst h32
          exact .one (Q:=[]) (x':=.t ⟨b,[],false,b⟩) (f':=62) rfl (by decide) (fun D s s₁ hr=>Wl h2 (Jq (d:=⟨b,[],false,b⟩) (JP D)) (ZGD (JP D) N.ok.b hr)) (tgq (.A false []) hz' (U6 hT (by decide)).2).t
        by_cases h47:a=47
        · subst h47
          exact .one (Q:=[]) (x':=.t ⟨b,[],false,b⟩) (f':=63) rfl (by decide) (fun D s s₁ hr=>Wl h2 (Jq (d:=⟨b,[],false,b⟩) (JP D)) (ZGE (JP D) N.ok.b hr)) (tgq (.S []) hz' (U6 hT (by decide)).2).t
        by_cases h62:a=62
        · subst h62
          exact RG.emit (Q:=[]) (d:=⟨b.map lowC,[],false,b⟩) rfl (by decide) (fun D s hs=>by
            obtain ⟨s₁,_,hr,-,hA,-⟩:=hs
            exact ⟨s₁,hA,Wl h2 (Jq (d:=⟨b.map lowC,[],false,b⟩) (JP D) rfl) (ZGG (JP D) N.ok.b hr (mx hbl))⟩) (Yg XF (ZC hT)).t
        · have he:(a==32||(a==47||a==62))=true:=he
          rw [beq_eq_false_iff_ne.mpr h32,beq_eq_false_iff_ne.mpr h47,beq_eq_false_iff_ne.mpr h62] at he
          exact Bool.noConfusion he
theorem ZH8 (N:Nm cv n) (ih:IHr src cv n k) (hk:w.length≤k) (hz:w.length≤900) (h:Qa n [] w):RG src (.n cv (some [])) 59 w (F61 n [] w):=by
  have no:ltr w=[]→JU n [] w=false:=fun e=>D4 (beq_eq_false_iff_ne.mpr N.ne.symm) e
  cases w with
  | nil =>
    have hf:=no rfl
    rw [Y2 hf]
    exact .back (Q:=[.ch [60,47]]) (x':=.n cv (some [])) (f':=60) (r:=[]) rfl (by decide) (fun D s s₁ s₂ hr hu=>De (JP D) N.ok.b (.head _) hr hu) (ih [] (some []) (Nat.zero_le _) (YT hf h))
  | cons a w =>
    have ha:=Dj h
    have hx:=Gj a ha
    cases e:Jn.any (·==a) with
    | true =>
      have hp:pL a=true:=(XM a ha).trans e
      have h128:∀ a∈Jn,Nat.blt a 128=true:=JG (by kernel_rfl)
      rw [GS hp]
      exact .one (Q:=[]) (x':=.n cv (some [a])) (f':=61) rfl (by decide) (fun D s s₁ hr=>ZED (JP D) N.ok.b (QJ e) hr)
        (Im N ih w [a] (Nat.le_of_succ_le hk) (by rw [Nat.add_comm]; exact hz) (by show (Nat.blt a 128&&true)=true; rw [h128 a (QJ e)]; rfl) (Bp hp h)).t
    | false =>
      have hf:=no (Ux ((XM a ha).trans e))
      rw [e] at hx
      rw [Y2 hf]
      exact bA hx fun hx1 _=>.back (Q:=[.ch [60,47]]) (x':=.n cv (some [])) (f':=60) (r:=a :: w) rfl (by decide) (fun D s s₁ s₂ hr hu=>De (JP D) N.ok.b (Y8 (QJ hx1)) hr hu) (ih (a :: w) (some []) hk (YT hf h))
theorem ZGM:∀ a∈al,(Nat.beq a 47||([0,32,33,38,45,59,60,62,69,76,83,84,89,97,101,108,109,112,115,116,120,121]:List Nat).any (·==a))=true:=JG (by kernel_rfl)
theorem ZH9 (N:Nm cv n) (ih:IHr src cv n k) (hk:r.length≤k) (hz:r.length≤900) (h:okE n (60 :: r)):RG src (.n cv tb) 58 r (E n (60 :: r)):=by
  cases r with
  | nil =>
    have hf:JY n [60]=none:=W7 fun w q=>nomatch q
    rw [WF hf]
    exact .back (Q:=[.ch [60]]) (x':=.n cv tb) (f':=60) (r:=[]) rfl (by decide) (fun D s s₁ s₂ hr hu=>Dr (JP D) N.ok.b (.head _) hr hu) (ih [] tb (Nat.zero_le _) (WZ hf h).2)
  | cons a r =>
    by_cases e:a=47
    · subst e
      rw [Ip]
      exact .one (Q:=[]) (x':=.n cv (some [])) (f':=59) rfl (by decide) (fun D s s₁ hr=>ZGL (JP D) N.ok.b hr) (ZH8 N ih (Nat.le_of_succ_le hk) (Nat.le_of_succ_le hz) (ZGA h)).t
    · have hf:JY n (60 :: a :: r)=none:=W7 fun w q=>e (List.cons.inj q).1
      have h':=(WZ hf h).2
      have hx:=ZGM a (Gm h')
      rw [Jp e] at hx
      rw [WF hf]
      exact .back (Q:=[.ch [60]]) (x':=.n cv tb) (f':=60) (r:=a :: r) rfl (by decide) (fun D s s₁ s₂ hr hu=>Dr (JP D) N.ok.b (Y8 (QJ hx)) hr hu) (ih (a :: r) tb hk h')
theorem ZF3 (h:pR a=false):a≠60∧a≠0:=⟨fun q=>absurd (q▸h:pR 60=false) (by decide),fun q=>absurd (q▸h:pR 0=false) (by decide)⟩
theorem Kv {p:Nat→Bool} (l:List Nat):∀ a∈l.takeWhile p,p a=true:=List.all_eq_true.mp List.all_takeWhile
theorem G9 (N:Nm cv n):∀ (k:Nat) (r:List Nat) (tb:Option (List Nat)),k≤900→r.length≤k→okE n r→RG src (.n cv tb) 60 r (E n r)
  | _,[],tb,_,_,_=>.stop N.ok fun D s s' hr=>ZCD (JP D) N.ok.b hr
  | 0,_ :: _,_,_,hk,_=>absurd hk (Nat.not_succ_le_zero _)
  | k + 1,a :: r,tb,hk0,hk,h=>by
    have hz:=Nat.le_trans hk hk0
    have hj:r.length≤k:=Nat.le_of_succ_le_succ hk
    have ih:IHr src cv n k:=fun r tb h1 h2=>(G9 N k r tb (Nat.le_of_succ_le hk0) h1 h2).t
    by_cases e:a=60
    · subst e
      exact .one (Q:=[]) (x':=.n cv tb) (f':=58) rfl (by decide) (fun D s s₁ hr=>ZD5 (JP D) N.ok.b hr) (ZH9 N ih hj (Nat.le_of_succ_le hz) h).t
    have h2:=(WZ (Qr e) h).2
    rw [WF (Qr e)]
    by_cases e0:a=0
    · subst e0
      exact .one (Q:=[.er QT,.ch [65533]]) (x':=.n cv tb) (f':=60) rfl (by decide) (fun D s s₁ hr=>ZCC (JP D) N.ok.b hr) (ih r tb hj h2)
    have hl:∀ a∈r.takeWhile (fun a=>pR a==false),a≠60∧a≠0:=fun a ha=>ZF3 (beq_iff_eq.mp (Kv (p:=fun a=>pR a==false) r a ha))
    have er:E n r=(r.takeWhile fun a=>pR a==false).map .c++E n (r.drop (r.takeWhile fun a=>pR a==false).length):=by
      rw [← IM _ hl,List.prefix_iff_eq_append.mp (List.takeWhile_prefix _)]
    have or:okE n (r.drop (r.takeWhile fun a=>pR a==false).length):=Di (r.takeWhile fun a=>pR a==false) hl (by rw [List.prefix_iff_eq_append.mp (List.takeWhile_prefix _)]; exact h2)
    rw [N9 e0,er]
    have e1:∀ F:List It,[It.c a]++((r.takeWhile fun a=>pR a==false).map It.c++F)=JH [Tok4.ch (a :: r.takeWhile fun a=>pR a==false)]++F:=fun F=>(H7 (x:=a :: r.takeWhile fun a=>pR a==false)).symm
    rw [e1]
    exact .un (Q:=[.ch (a :: r.takeWhile fun a=>pR a==false)]) (x':=.n cv tb) (f':=60) rfl (show 1 < 100 by decide) ZF2 (opp:=false) rfl (fun D s s₁ s₂ h1 h2=>ZCE (JP D) N.ok.b h1 h2 e e0 (mx (Nat.le_trans (Nat.add_comm _ _▸Nat.succ_le_succ (List.takeWhile_prefix _).length_le) hz))) (ih _ tb (Nat.le_trans (dle _ _) hj) or)
end
end Mine
end
noncomputable section
namespace Mine
noncomputable def rp1 (a:Nat):Nat:=bif Nat.beq a 0 then 65533 else a
noncomputable def rp (l:List Nat):List Nat:=l.map rp1
noncomputable def bkS (pr:List Nat):List Nat:=pr.dropWhile fun a=>Nat.beq a 32
noncomputable def Yq:List Nat→Bool
  | []=>false
  | c :: _=>!(Nat.beq c 47)
noncomputable def Jm (pr:List Nat):Bool:=Nat.blt (bkS pr).length pr.length&&Yq (bkS pr)
noncomputable def wb (a:Nat):Bool:=Nat.beq a 32||Nat.beq a 47
noncomputable def Um:List Nat→Bool
  | []=>true
  | a :: _=>wb a
noncomputable def wd (pr:List Nat):List Nat:=rp (pr.takeWhile fun a=>!(wb a)).reverse
noncomputable def wF (b:Bool) (a:Nat):List (List Nat):=bif Nat.beq a 60 then [bif b then OD else OC] else bif Nat.beq a 0 then [QT] else []
noncomputable def dpF (ws:List (List Nat)) (w:List Nat):List (List Nat):=bif ws.any (w.map lowC==·) then [QH] else []
noncomputable def wsN (r:List Nat) (ws:List (List Nat)) (w:List Nat):List (List Nat):=bif Um r then ws++[w.map lowC] else ws
noncomputable def Jw (c:Bool) (r:List Nat):TQ→List (List Nat)
  | .A _ _=>[]
  | .S _=>bif r.isEmpty then bif c then [] else [Wd] else [UM]
  | .N ws w=>bif Um r then (bif r.isEmpty&&!c then [QU] else [])++dpF ws w else []
noncomputable def stF (c:Bool) (a:Nat) (r pr:List Nat) (ws:List (List Nat)):List (List Nat)×List (List Nat):=
  bif Nat.beq a 47 then (Jw c r (.S ws),ws) else bif Nat.beq a 32 then ([],ws) else (wF (Jm pr) a++Jw c r (.N ws (wd (a :: pr))),wsN r ws (wd (a :: pr)))
noncomputable def enF (c:Bool) (pr:List Nat):List (List Nat):=bif Nat.blt (bkS pr).length pr.length&&!c then [bif Jm pr then UN else UO] else []
noncomputable def inF (c:Bool):List Nat→List Nat→List (List Nat)→List (List Nat)×List (List Nat)
  | [],pr,ws=>(enF c pr,ws)
  | a :: r,pr,ws=>((stF c a r pr ws).1++(inF c r (a :: pr) (stF c a r pr ws).2).1,(inF c r (a :: pr) (stF c a r pr ws).2).2)
noncomputable def ZY:List Nat→Bool
  | []=>false
  | x :: _=>Nat.beq x 47
noncomputable def QC:List Nat→List Nat→Bool
  | [],pr=>ZY pr
  | a :: r,pr=>QC r (a :: pr)
noncomputable def ers (l:List (List Nat)):List It:=l.map .e
noncomputable def clo (c:Bool) (tl:List Nat):List Nat:=bif c then 62 :: tl else []
noncomputable def fin (n:List Nat) (c:Bool) (tl:List Nat) (ws:List (List Nat)) (sc:Bool):List It:=bif c then emI n ws sc++Q4 tl else []
structure IA (c:Bool) (pr r:List Nat) (b:Bool):Prop where
  h:(pr=[]∧b=false∧(r=[]→c=true))∨(∃ p,pr=32 :: p)∧b=Jm pr
noncomputable def Inv (c:Bool) (pr r:List Nat) (ws:List (List Nat)):TQ→Prop
  | .A b ws0=>ws0=ws∧IA c pr r b
  | .S ws0=>ws0=ws∧∃ p,pr=47 :: p
  | .N ws0 w=>(∃ x p,pr=x :: p∧wb x=false)∧w=wd pr∧ws=wsN r ws0 w
section
variable {c b:Bool} {a x:Nat} {r pr p n w tl:List Nat} {ws ws0:List (List Nat)} {q:TQ}
theorem Km {n:Nat}:Nat.blt n n=false:=Bool.eq_false_iff.mpr fun q=>Nat.lt_irrefl _ (Nat.le_of_ble_eq_true q:n < n)
theorem IO:JH (wT b a)=ers (wF b a):=by
  unfold wT wF
  cases Nat.beq a 60
  · cases Nat.beq a 0 <;> rfl
  · rfl
theorem Yx:JH (Jr ws w)=ers (dpF ws w):=by
  unfold Jr dpF
  cases ws.any (w.map lowC==·) <;> rfl
theorem Kh {l l':List (List Nat)}:ers (l++l')=ers l++ers l':=List.map_append
theorem IN:wW a=[rp1 a]:=by
  unfold wW rp1
  cases Nat.beq a 0 <;> rfl
theorem NI:bkS (32 :: p)=bkS p:=rfl
theorem XG (h:Nat.beq x 32=false):bkS (x :: p)=x :: p:=by
  unfold bkS; rw [List.dropWhile_cons,h]; rfl
theorem Bv (h:Nat.beq x 32=false):Jm (x :: p)=false:=by
  unfold Jm; rw [XG h,Km]; rfl
theorem Nq:∀ p:List Nat,(bkS p).length≤p.length
  | []=>Nat.le_refl _
  | x :: p=>by
    cases h:Nat.beq x 32 with
    | true =>
      unfold bkS; rw [List.dropWhile_cons,h]
      exact Nat.le_succ_of_le (Nq p)
    | false=>rw [XG h]; exact Nat.le_refl _
theorem YK:Jm (32 :: p)=Yq (bkS p):=by
  unfold Jm
  rw [NI,show Nat.blt (bkS p).length (32 :: p).length=true from Nat.ble_eq_true_of_le (Nat.succ_le_succ (Nq p))]; rfl
theorem ZAg (h:p=[]∨∃ y,p=32 :: y):Jm (32 :: p)=Jm p:=by
  rw [YK]
  rcases h with rfl | ⟨y,rfl⟩
  · rfl
  · rw [YK,NI]
theorem DM (h:wb x=false):wd (x :: p)=wd p++[rp1 x]:=by
  unfold wd rp
  rw [List.takeWhile_cons,h,← List.map_singleton (f:=rp1),← List.map_append,← List.reverse_cons]; rfl
theorem HF (h:wb x=true):wd (x :: p)=[]:=by
  unfold wd; rw [List.takeWhile_cons,h]; rfl
theorem NO (h1:a≠32) (h2:a≠47):wb a=false:=by
  unfold wb; rw [Jp h1,Jp h2]; rfl
theorem Nv (h:wb x=false):Nat.beq x 32=false:=(Bool.or_eq_false_iff.mp h).1
theorem ZEB (h62:a≠62) (h32:a≠32) (h47:a≠47):QS n b ws a=(ers (wF b a),some (.N ws [rp1 a])):=by
  unfold QS; rw [if_neg h62,if_neg h32,if_neg h47,IO,IN]
theorem ZEA (h62:a≠62) (h32:a≠32) (h47:a≠47):Jl n (.N ws w) a=(ers (wF false a),some (.N ws (w++[rp1 a]))):=by
  unfold Jl; dsimp only; rw [if_neg h62,if_neg h32,if_neg h47,IO,IN]
theorem NR (h32:a≠32) (h47:a≠47):stF c a r pr ws=(wF (Jm pr) a++Jw c r (.N ws (wd (a :: pr))),wsN r ws (wd (a :: pr))):=by
  unfold stF; rw [Jp h32,Jp h47]; rfl
theorem ON (hb:b=Jm pr) (hw:wd pr=[]) (hs:Jm (32 :: pr)=b) (h62:a≠62):∃ o q',QS n b ws a=(ers o,some q')∧(stF c a r pr ws).1=o++Jw c r q'∧Inv c (a :: pr) r (stF c a r pr ws).2 q':=by
  by_cases h32:a=32
  · subst h32
    exact ⟨[],.A b ws,rfl,rfl,rfl,⟨.inr ⟨⟨_,rfl⟩,hs.symm⟩⟩⟩
  by_cases h47:a=47
  · subst h47
    exact ⟨[],.S ws,rfl,rfl,rfl,_,rfl⟩
  · have hx:=NO h32 h47
    have e:wd (a :: pr)=[rp1 a]:=by rw [DM hx,hw]; rfl
    refine ⟨wF b a,.N ws [rp1 a],ZEB h62 h32 h47,?_⟩
    rw [NR h32 h47,e,hb]
    exact ⟨rfl,⟨_,_,rfl,hx⟩,e.symm,rfl⟩
theorem ZCY (hI:Inv c pr (a :: r) ws q) (h62:a≠62):∃ o q',Jl n q a=(ers o,some q')∧Jw c (a :: r) q++(stF c a r pr ws).1=o++Jw c r q'∧Inv c (a :: pr) r (stF c a r pr ws).2 q':=by
  cases q with
  | A b ws0 =>
    obtain ⟨rfl,h⟩:=hI
    rcases h.h with ⟨rfl,rfl,-⟩ | ⟨⟨p,rfl⟩,rfl⟩
    · exact ON rfl rfl rfl h62
    · exact ON rfl (HF rfl) (ZAg (.inr ⟨_,rfl⟩)) h62
  | S ws0 =>
    obtain ⟨rfl,p,rfl⟩:=hI
    obtain ⟨o,q',h1,h2,h3⟩:=ON (n:=n) (c:=c) (a:=a) (r:=r) (ws:=ws0) (b:=false) (pr:=47 :: p) (Bv rfl).symm (HF rfl) (YK.trans rfl) h62
    refine ⟨UM :: o,q',?_,?_,h3⟩
    · unfold Jl; dsimp only; rw [if_neg h62,h1]; rfl
    · rw [h2]; rfl
  | N ws0 w =>
    obtain ⟨⟨x,p,rfl,hx⟩,hw,hws⟩:=hI
    have hl:=Bv (p:=p) (Nv hx)
    by_cases h32:a=32
    · subst h32
      subst hws
      refine ⟨dpF ws0 w,.A true (ws0++[w.map lowC]),?_,List.append_nil _ |>.trans (List.append_nil _).symm,rfl,⟨.inr ⟨⟨_,rfl⟩,?_⟩⟩⟩
      · unfold Jl; dsimp only; rw [if_neg h62,if_pos rfl,Yx]
      · rw [YK,XG (Nv hx)]
        show true=!(Nat.beq x 47)
        rw [(Bool.or_eq_false_iff.mp hx).2]; try rfl
    by_cases h47:a=47
    · subst h47
      subst hws
      refine ⟨dpF ws0 w,.S (ws0++[w.map lowC]),?_,rfl,rfl,_,rfl⟩
      unfold Jl; dsimp only; rw [if_neg h62,if_neg h32,if_pos rfl,Yx]
    · have ha:=NO h32 h47
      have hn:Um (a :: r)=false:=ha
      have hws:ws=ws0:=by rw [hws]; unfold wsN; rw [hn]; rfl
      subst hws
      have e:wd (a :: x :: p)=w++[rp1 a]:=by rw [DM ha,hw]
      refine ⟨wF false a,.N ws (w++[rp1 a]),ZEA h62 h32 h47,?_⟩
      rw [NR h32 h47,e,hl,show Jw c (a :: r) (.N ws w)=[] by unfold Jw; rw [hn]; rfl]
      exact ⟨rfl,⟨_,_,rfl,ha⟩,e.symm,rfl⟩
theorem HK:∀ (r pr:List Nat) (q:TQ) (ws:List (List Nat)),Inv c pr r ws q→(∀ a∈r,a≠62)→tg n (r++clo c tl) q=ers (Jw c r q)++(ers (inF c r pr ws).1++fin n c tl (inF c r pr ws).2 (QC r pr))
  | a :: r,pr,q,ws,hI,hr=>by
    obtain ⟨o,q',h1,h2,h3⟩:=ZCY (n:=n) hI (hr a (.head _))
    show (Jl n q a).1++tgK (tg n (r++clo c tl)) (r++clo c tl) (Jl n q a).2=_
    rw [h1]
    show ers o++tg n (r++clo c tl) q'=_
    rw [HK r (a :: pr) q' _ h3 fun x hx=>hr x (.tail _ hx)]
    show _=_++(ers ((stF c a r pr ws).1++(inF c r (a :: pr) (stF c a r pr ws).2).1)++_)
    rw [Kh,List.append_assoc,← List.append_assoc (ers (Jw c (a :: r) q)),← Kh,h2,Kh,List.append_assoc]; rfl
  | [],pr,q,ws,hI,_=>by
    cases c with
    | true =>
      show (Jl n q 62).1++tgK (tg n tl) tl (Jl n q 62).2=ers (Jw true [] q)++(ers (enF true pr)++(emI n ws (ZY pr)++Q4 tl))
      have hE:enF true pr=[]:=by unfold enF; rw [show (!true)=false from rfl,Bool.and_false]; rfl
      rw [hE]
      cases q with
      | A b ws0 =>
        obtain ⟨rfl,h⟩:=hI
        rcases h.h with ⟨rfl,rfl,-⟩ | ⟨⟨p,rfl⟩,rfl⟩ <;> rfl
      | S ws0 =>
        obtain ⟨rfl,p,rfl⟩:=hI
        rfl
      | N ws0 w =>
        obtain ⟨⟨x,p,rfl,hx⟩,hw,rfl⟩:=hI
        have hx2:ZY (x :: p)=false:=(Bool.or_eq_false_iff.mp hx).2
        rw [hx2]
        show (JH (Jr ws0 w)++emI n (ws0++[w.map lowC]) false)++Q4 tl=ers (dpF ws0 w)++(emI n (ws0++[w.map lowC]) false++Q4 tl)
        rw [Yx,List.append_assoc]
    | false =>
      show eoI q=ers (Jw false [] q)++(ers (enF false pr)++[])
      rw [List.append_nil]
      cases q with
      | A b ws0 =>
        obtain ⟨rfl,h⟩:=hI
        rcases h.h with ⟨rfl,rfl,h0⟩ | ⟨⟨p,rfl⟩,rfl⟩
        · exact absurd (h0 rfl) (by decide)
        · have hE:enF false (32 :: p)=[bif Jm (32 :: p) then UN else UO]:=by
            unfold enF
            rw [NI,show Nat.blt (bkS p).length (32 :: p).length=true from Nat.ble_eq_true_of_le (Nat.succ_le_succ (Nq p))]; rfl
          rw [hE]; rfl
      | S ws0 =>
        obtain ⟨rfl,p,rfl⟩:=hI
        have hE:enF false (47 :: p)=[]:=by
          unfold enF
          rw [XG rfl,Km]; rfl
        rw [hE]; rfl
      | N ws0 w =>
        obtain ⟨⟨x,p,rfl,hx⟩,hw,rfl⟩:=hI
        have hE:enF false (x :: p)=[]:=by
          unfold enF
          rw [XG (Nv hx),Km]; rfl
        rw [hE]
        show It.e QU :: JH (Jr ws0 w)=ers ([QU]++dpF ws0 w)++[]
        rw [Yx,List.append_nil]; rfl
end
end Mine
end
noncomputable section
namespace Mine
noncomputable def JO (n:Option (List Nat)):List Nat→Nat
  | []=>0
  | a :: r=>match JY n (a :: r) with
    | some _=>0
    | none=>JO n r + 1
noncomputable def OU (u v:List Nat):Prop:=u=v∨∃ u' v',u=60 :: u'∧v=60 :: v'
noncomputable def tI (a:Nat):List Tok4:=if a=0 then [.er QT,.ch [65533]] else [.ch [a]]
section
variable {n:Option (List Nat)} {a e:Nat} {u v p r w b x tx:List Nat}
theorem YN (h:pL a=false):JU n b (a :: w)=(some (b.map lowC)==n&&Qw (a :: w)):=by
  unfold JU; rw [Ux h,WT h,List.append_nil]
theorem BT:∀ (p b:List Nat),JU n b (p++60 :: u)=JU n b (p++60 :: v)
  | [],b=>by
    show JU n b (60 :: u)=JU n b (60 :: v)
    rw [YN (by decide),YN (by decide)]; rfl
  | a :: p,b=>by
    show JU n b (a :: (p++60 :: u))=JU n b (a :: (p++60 :: v))
    cases h:pL a with
    | true=>rw [YO h,YO h,BT p]
    | false=>rw [YN h,YN h]; rfl
theorem Ke:JY n (60 :: 47 :: w)=bif JU n [] w then some w else none:=rfl
theorem ZBM (h:OU u v) (k:JY n (a :: (p++u))=none):JY n (a :: (p++v))=none:=by
  rcases h with rfl | ⟨u',v',rfl,rfl⟩
  · exact k
  by_cases h60:a=60
  · subst h60
    cases p with
    | nil=>exact W7 fun w q=>absurd (List.cons.inj q).1 (by decide)
    | cons b p =>
      by_cases h47:b=47
      · subst h47
        have k:JY n (60 :: 47 :: (p++60 :: u'))=none:=k
        show JY n (60 :: 47 :: (p++60 :: v'))=none
        rw [Ke] at k ⊢
        rw [BT (u:=v') (v:=u')]
        cases hf:JU n [] (p++60 :: u') with
        | false=>rfl
        | true=>rw [hf] at k; exact nn k.symm
      · exact W7 fun w q=>h47 (List.cons.inj q).1
  · exact Qr h60
theorem NA {P:Prop} (h:JY n u=some w) (k:u=60 :: 47 :: w→JU n [] w=true→P):P:=by
  cases u with
  | nil=>exact nn h
  | cons a r =>
    by_cases h60:a=60
    · subst h60
      cases r with
      | nil=>exact nn h
      | cons b r =>
        by_cases h47:b=47
        · subst h47
          rw [Ke] at h
          cases hf:JU n [] r with
          | false=>rw [hf] at h; exact nn h
          | true=>rw [hf] at h; cases h; exact k rfl hf
        · rw [W7 fun w q=>h47 (List.cons.inj q).1] at h; exact nn h
    · rw [Qr h60] at h; exact nn h
theorem G5:JO n (a :: r)=match JY n (a :: r) with | some _=>0 | none=>JO n r + 1:=rfl
theorem Yu (h:JY n (a :: r)=some w):JO n (a :: r)=0:=by rw [G5,h]
theorem Yv (h:JY n (a :: r)=none):JO n (a :: r)=JO n r + 1:=by rw [G5,h]
theorem Nt:∀ tx:List Nat,(∀ a∈tx,a∈al)→OU (tx.drop (JO n tx)) x→okE n x→E n (tx.take (JO n tx)++x)=(tx.take (JO n tx)).flatMap rI++E n x∧okE n (tx.take (JO n tx)++x)
  | [],_,_,hx=>⟨rfl,hx⟩
  | a :: r,ha,hs,hx=>by
    cases hf:JY n (a :: r) with
    | some w=>rw [Yu hf]; exact ⟨rfl,hx⟩
    | none =>
      rw [Yv hf] at hs ⊢
      have hs:OU (r.drop (JO n r)) x:=hs
      have hk:JY n (a :: (r.take (JO n r)++x))=none:=ZBM hs (by rw [List.take_append_drop]; exact hf)
      obtain ⟨h1,h2⟩:=Nt r (fun y hy=>ha y (.tail _ hy)) hs hx
      refine ⟨?_,?_⟩
      · show E n (a :: (r.take (JO n r)++x))=(rI a++(r.take (JO n r)).flatMap rI)++_
        rw [WF hk,h1,List.append_assoc]
      · show okE n (a :: (r.take (JO n r)++x))
        rw [XN,hk]; exact ⟨ha a (.head _),h2⟩
theorem Ya:∀ tx:List Nat,JO n tx≤tx.length
  | []=>Nat.le_refl _
  | a :: r=>by
    cases hf:JY n (a :: r) with
    | some w=>rw [Yu hf]; exact Nat.zero_le _
    | none=>rw [Yv hf]; exact Nat.succ_le_succ (Ya r)
theorem KE:∀ tx:List Nat,JO n tx < tx.length→∃ w,tx.drop (JO n tx)=60 :: 47 :: w∧JU n [] w=true
  | [],h=>absurd h (Nat.lt_irrefl _)
  | a :: r,h=>by
    cases hf:JY n (a :: r) with
    | some w=>rw [Yu hf]; exact NA hf fun h1 h2=>⟨w,h1,h2⟩
    | none =>
      rw [Yv hf] at h ⊢
      exact KE r (Nat.lt_of_succ_lt_succ h)
theorem Kc:∀ p:List Nat,JH (p.flatMap tI)=p.flatMap rI
  | []=>rfl
  | a :: p=>by
    show JH (tI a++p.flatMap tI)=rI a++p.flatMap rI
    rw [QY,Kc p]
    unfold tI rI
    by_cases h:a=0
    · subst h; rfl
    · rw [if_neg h,if_neg h]; rfl
noncomputable def ins (w:List Nat):List Nat:=w.takeWhile fun a=>!(Nat.beq a 62)
noncomputable def cl? (w:List Nat):Bool:=Nat.blt (ins w).length w.length
theorem ZGY:∀ (w:List Nat),∀ a∈ins w,a≠62:=fun w a h q=>by
  have h:=Kv (p:=fun a=>!(Nat.beq a 62)) w a h
  rw [q] at h; exact ff h
theorem KW (h:cl? w=false):ins w=w:=(List.takeWhile_prefix _).eq_of_length (Nat.le_antisymm (List.takeWhile_prefix _).length_le (Nat.not_lt.mp fun q=>ff (h.symm.trans (Nat.ble_eq_true_of_le q:cl? w=true))))
theorem YL (h:Nat.beq a 62=false):ins (a :: w)=a :: ins w:=by
  unfold ins; rw [List.takeWhile_cons,h]; rfl
theorem Dh {tl:List Nat} (ht:tl∈J2):∀ (w:List Nat) (c:Bool),(∀ a∈w,a∈al)→okT (ins w++clo c tl)
  | [],c,_=>by
    cases c
    · exact trivial
    · exact ht
  | a :: w,c,h=>by
    by_cases h62:a=62
    · subst h62
      cases c
      · exact trivial
      · exact ht
    · rw [YL (Jp h62)]
      show okT (a :: (ins w++clo c tl))
      show if a=62 then _ else _
      rw [if_neg h62]
      exact ⟨h a (.head _),Dh ht w c fun x hx=>h x (.tail _ hx)⟩
theorem NJ {l m:List Nat} (h:∀ a∈m,a∈al) (k:l <+: m):∀ a∈l,a∈al:=fun a ha=>h a (k.subset ha)
theorem KT (w:List Nat):ltr w++JE w=w:=List.prefix_iff_eq_append.mp (List.takeWhile_prefix _)
theorem Bh:∀ t∈J2,∀ a∈t,a∈al:=by decide
theorem Dq:∀ {l:List Nat},(∀ a∈l,pL a=true)→(∀ a t,v=a :: t→pL a=false)→ltr (l++v)=l∧JE (l++v)=v
  | [],_,h=>by
    cases v with
    | nil=>exact ⟨rfl,rfl⟩
    | cons a t=>exact ⟨Ux (h a t rfl),WT (h a t rfl)⟩
  | a :: l,h1,h2=>by
    obtain ⟨k1,k2⟩:=Dq (l:=l) (fun x hx=>h1 x (.tail _ hx)) h2
    have ha:=h1 a (.head _)
    exact ⟨(YU (w:=l++v) ha).trans (congrArg _ k1),(Ye (w:=l++v) ha).trans k2⟩
theorem ZDD {P:Prop} (h:Qw v=true) (k:∀ a t,v=a :: t→pL a=false→P):P:=by
  cases v with
  | nil=>exact ff h
  | cons a t =>
    refine k a t rfl ?_
    have h:(a==32||(a==47||a==62))=true:=h
    rcases Bool.or_eq_true_iff.mp h with h | h
    · rw [beq_iff_eq.mp h]; decide
    rcases Bool.or_eq_true_iff.mp h with h | h
    · rw [beq_iff_eq.mp h]; decide
    · rw [beq_iff_eq.mp h]; decide
theorem ZBW {tl:List Nat} (h:Qw v=true):Qw (ins v++clo (cl? v) tl)=true:=by
  cases v with
  | nil=>exact h
  | cons a t =>
    by_cases h62:a=62
    · subst h62; rfl
    · rw [YL (Jp h62)]; exact h
noncomputable def tlT (tl:List Nat):List Tok4:=match tl with
  | []=>[]
  | 38 :: _=>[.ch [60]]
  | [0]=>[.er QT,.ch [0]]
  | l=>[.ch l]
theorem ZFh:∀ t∈J2,JH (tlT t)=Q4 t:=JG rfl
noncomputable def UK (nm:List Nat) (tl v:List Nat):List Tok4:=(inF (cl? v) (ins v) [] []).1.map .er++bif cl? v then emT (!(inF (cl? v) (ins v) [] []).2.isEmpty) (QC (ins v) [])++.tg nm (inF (cl? v) (ins v) [] []).2 (QC (ins v) []) :: tlT tl else []
theorem Kd:∀ l:List (List Nat),JH (l.map .er)=ers l
  | []=>rfl
  | a :: l=>congrArg (It.e a :: ·) (Kd l)
theorem ZDb {nm tl:List Nat} (ht:tl∈J2) (h:Qw v=true):JH (UK nm tl v)=tg nm (ins v++clo (cl? v) tl) (.A false []):=by
  rw [HK (ins v) [] (.A false []) [] ⟨rfl,⟨.inl ⟨rfl,rfl,fun e=>?_⟩⟩⟩ (ZGY v)]
  · unfold UK
    rw [QY,Kd]
    refine congrArg (ers _++·) ?_
    unfold fin
    cases cl? v with
    | false=>rfl
    | true =>
      show JH (_++_)=emI _ _ _++_
      rw [QY]
      unfold emI
      rw [List.append_assoc]
      exact congrArg (fun x=>_++It.g nm _ _ :: x) (ZFh tl ht)
  · cases hc:cl? v with
    | true=>rfl
    | false =>
      rw [KW hc] at e
      rw [e] at h; exact h
noncomputable def Ur (n:Option (List Nat)) (tl tx:List Nat):List Tok4:=(tx.take (JO n tx)).flatMap tI++match tx.drop (JO n tx) with
  | []=>[]
  | _ :: w=>UK ((ltr w.tail).map lowC) tl (JE w.tail)
noncomputable def txT (n:Option (List Nat)) (tl tx:List Nat):List Nat:=tx.take (JO n tx)++match tx.drop (JO n tx) with
  | []=>[]
  | _ :: w=>60 :: 47 :: (ltr w.tail++(ins (JE w.tail)++clo (cl? (JE w.tail)) tl))
theorem ZFH {tl:List Nat} (ht:tl∈J2) (ha:∀ a∈tx,a∈al):E n (txT n tl tx)=JH (Ur n tl tx)∧okE n (txT n tl tx):=by
  unfold txT Ur
  by_cases hlt:JO n tx < tx.length
  · obtain ⟨w,hd,hf⟩:=KE tx hlt
    have hw:∀ a∈w,a∈al:=fun a h=>ha a (List.mem_of_mem_drop (hd▸List.Mem.tail _ (.tail _ h):a∈tx.drop (JO n tx)))
    refine bA hf fun hf1 hf2=>?_
    have hf2':=ZBW (tl:=tl) hf2
    obtain ⟨k1,k2⟩:=Dq (l:=ltr w) (v:=ins (JE w)++clo (cl? (JE w)) tl) (fun a h=>Kv (p:=pL) w a h) fun a t e=>ZDD hf2' fun a' t' e' h=>(List.cons.inj (e'.symm.trans e)).1▸h
    have hg:JU n [] (ltr w++(ins (JE w)++clo (cl? (JE w)) tl))=true:=by
      unfold JU
      rw [k1,k2,hf2']
      exact (Bool.and_true _).trans hf1
    have hg2:JY n (60 :: 47 :: (ltr w++(ins (JE w)++clo (cl? (JE w)) tl)))=some (ltr w++(ins (JE w)++clo (cl? (JE w)) tl)):=by
      rw [Ke,hg]; rfl
    have hwa:=NJ hw (⟨_,KT w⟩:ltr w <+: w)
    have hwb:∀ a∈JE w,a∈al:=fun a h=>hw a (List.mem_of_mem_drop h)
    have hok:okE n (60 :: 47 :: (ltr w++(ins (JE w)++clo (cl? (JE w)) tl))):=by
      rw [XN,hg2]
      refine ⟨by rw [k2]; exact Dh ht (JE w) _ hwb,fun a h=>?_⟩
      rcases List.mem_append.mp h with h | h
      · exact hwa a h
      rcases List.mem_append.mp h with h | h
      · exact NJ hwb (List.takeWhile_prefix _) a h
      · cases hc:cl? (JE w)
        · rw [hc] at h; exact nomatch h
        · rw [hc] at h
          cases h with
          | head=>decide
          | tail _ h=>exact Bh tl ht a h
    obtain ⟨e1,e2⟩:=Nt tx ha (x:=60 :: 47 :: (ltr w++(ins (JE w)++clo (cl? (JE w)) tl))) (.inr ⟨47 :: w,_,hd,rfl⟩) hok
    rw [hd]
    refine ⟨?_,e2⟩
    show E n (tx.take (JO n tx)++60 :: 47 :: (ltr w++(ins (JE w)++clo (cl? (JE w)) tl)))=JH (_++UK ((ltr w).map lowC) tl (JE w))
    rw [e1,QY,Kc,Ip,GQ hg,k1,k2,ZDb ht hf2]; rfl
  · have he:=Nat.le_antisymm (Ya tx) (Nat.not_lt.mp hlt)
    obtain ⟨e1,e2⟩:=Nt tx ha (x:=[]) (.inl (by rw [he,List.drop_length])) (by exact trivial)
    rw [List.drop_of_length_le (Nat.le_of_eq he.symm)]
    refine ⟨?_,e2⟩
    rw [e1,QY,Kc]; rfl
end
end Mine
end
noncomputable section
namespace Mine
section
variable {C:Ora} {n:Nat} {L E:List (Nat×Mine.V)} {H:List (Id×Ob)} {nx:Nat} {P:List Nat} {s b c:List Nat} {i j:Int} {a k q:Nat} {z:Bool}
theorem Wz (n k:Nat):clampIx n (k:Int)=min k n:=(Nat.le_total k n).elim (fun h=>(WJ h).trans (Nat.min_eq_left h).symm) fun h=>(clamp_big h).trans (Nat.min_eq_right h).symm
theorem Z1 {α:Type} (s:List α) (j:Nat):s.take (min j s.length)=s.take j:=(Nat.le_total j s.length).elim (fun h=>congrArg (s.take ·) (Nat.min_eq_left h)) fun h=>by rw [Nat.min_eq_right h,List.take_length,List.take_of_length_le h]
theorem B6 (t:List Nat) {m:Nat} (h:t.length≤m) (i:Nat):t.drop (min i m)=t.drop i:=(Nat.le_total i m).elim (fun h=>congrArg (t.drop ·) (Nat.min_eq_left h)) fun h'=>by rw [Nat.min_eq_right h',List.drop_of_length_le h,List.drop_of_length_le (Nat.le_trans h h')]
theorem XC (a b:Nat) (hi:i=a) (hj:j=b) (hs:s.length≤JB):slV σ0 (.str s) (.int i) (.int j)=some (.str ((s.drop a).take (b - a))):=by
  subst hi hj
  show gd (Nat.ble s.length JB) (some (Mine.V.str ((s.take (clampIx s.length b)).drop (clampIx s.length a))))=_
  rw [ble hs,Wz,Wz,Z1,B6 _ (List.length_take_le' _ _),List.drop_take]; rfl
theorem ZB8 (a:Nat) (hi:i=a) (hs:s.length≤JB):slV σ0 (.str s) (.int i) .none=some (.str (s.drop a)):=by
  subst hi
  show gd (Nat.ble s.length JB) (some (Mine.V.str ((s.take s.length).drop (clampIx s.length a))))=_
  rw [ble hs,Wz,List.take_length,B6 _ (Nat.le_refl _)]; rfl
theorem Gb (b:Nat) (hj:j=b) (hs:s.length≤JB):slV σ0 (.str s) .none (.int j)=some (.str (s.take b)):=by
  subst hj
  show gd (Nat.ble s.length JB) (some (Mine.V.str (s.take (clampIx s.length b))))=_
  rw [ble hs,Wz,Z1]; rfl
theorem WN (hc:s[a]?=some k) (hs:s.length≤JB):QR σ0 (.str s) (.int (a:Nat))=some (.str [k]):=U1 hs (WX (List.getElem?_eq_some_iff.mp hc).1) hc
theorem IS {x y:List Nat} (h:x=y):some (x==y)=some true:=congrArg some (beq_iff_eq.mpr h)
theorem IR {x y:List Nat} (h:¬ x=y):some (x==y)=some false:=congrArg some (beq_eq_false_iff_ne.mpr h)
theorem slt {x y:Nat} (h:x < y):some (decide ((x:Int) < (y:Int)))=some true:=congrArg some (decide_eq_true (Int.ofNat_lt.mpr h))
theorem U9 {x y:Nat} (h:¬ x < y):some (decide ((x:Int) < (y:Int)))=some false:=congrArg some (decide_eq_false fun q=>h (Int.ofNat_lt.mp q))
theorem NV (h:a≠0):rp1 a=a:=by unfold rp1; rw [Jp h]; rfl
theorem DW:∀ (n:Nat) (s:List Nat),s.length < n→J4 [0] [65533] n s=rp s
  | 0,s,h=>absurd h (Nat.not_lt_zero _)
  | n + 1,[],_=>rfl
  | n + 1,c :: s,h=>by
    have ih:=DW n s (Nat.lt_of_succ_lt_succ h)
    by_cases hc:c=0
    · subst hc
      exact congrArg (65533 :: ·) ih
    · show (if ((0==c)&&Jc [] s)=true then _ else c :: J4 [0] [65533] n s)=rp1 c :: rp s
      rw [beq_eq_false_iff_ne.mpr (fun q:0=c=>hc q.symm),Bool.false_and,if_neg (fun q=>ff q),ih,NV hc]
theorem ZHg (h:s.length + (s.length + 1)≤16777216):smV σ0 .replace s [.str [0],.str [65533]]=some (.str (J4 [0] [65533] (s.length + 1) s)):=by
  show gd (true&&(Nat.ble (s.length + (s.length + 1) * 1) 16777216&&true)) _=_
  rw [Nat.mul_one,ble h]; rfl
theorem ZD4 (h:s.length≤1000):smV σ0 .replace s [.str [0],.str [65533]]=some (.str (rp s)):=by
  rw [ZHg (Nat.le_trans (Nat.add_le_add h (Nat.succ_le_succ h)) (by decide)),DW _ _ (Nat.lt_succ_self _)]
theorem Dt {t:ME} {bd:List MS} {p:Nat→Bool} {mk:Nat→St} (h0:tst C t (mk b.length)=some (false,mk b.length)) (h1:∀ i a,b[i]?=some a→tst C t (mk i)=some (p a,mk i)) (h2:∀ i,exs C bd (mk i)=some (.next,mk (i + 1))) :
    ∀ (r:List Nat) (i fuel:Nat),b.drop i=r→i≤b.length→r.length < fuel→J0 (tst C t) (exs C bd) fuel (mk i)=some (.next,mk (i + (r.takeWhile p).length))
  | _,_,0,_,_,hf=>absurd hf (Nat.not_lt_zero _)
  | [],i,n + 1,hr,hi,hf=>by cases Wy hr hi; exact Ww h0
  | a :: r,i,n + 1,hr,hi,hf=>by
    obtain ⟨ha,hd,hl⟩:=QX hr
    rw [List.takeWhile_cons]
    have h1:=h1 i a ha
    cases e:p a with
    | false=>rw [e] at h1; exact Ww h1
    | true =>
      rw [e] at h1
      refine (W0 h1 (h2 i) (Dt h0 ‹_› h2 r (i + 1) n hd hl (Nat.lt_of_succ_lt_succ hf))).trans ?_
      rw [Nat.add_right_comm]; rfl
theorem Il {x y:Nat}:[[x],[y]].any (·==[a])=(Nat.beq a x||Nat.beq a y):=by
  have e:∀ {x:Nat},([x]==[a])=Nat.beq a x:=fun {x}=>by
    by_cases h:a=x
    · subst h; rw [Nat.beq_refl]; exact beq_self_eq_true _
    · rw [Jp h]; exact beq_eq_false_iff_ne.mpr fun q=>h (List.cons.inj q).1.symm
  show (([x]==[a])||(([y]==[a])||false))=_
  rw [e,e,Bool.or_false]
theorem XK {b:Bool}:Mine.Jh σ0 (.bool b)=some b:=rfl
theorem B7 {s:Nat} {x:List Nat} (hs:s≤b.length) (hx:b.drop s=x):s + x.length=b.length:=by rw [← hx,List.length_drop,Nat.add_sub_cancel' hs]
theorem ZCi {s y:List Nat} (h:k≤s.length):smV σ0 .find s [.str y,.int k]=some (.int (J6 y (s.drop k) k)):=by
  show gd (decide ((0:Int)≤k)&&decide ((k:Int)≤s.length)) (some (Mine.V.int (J6 y (s.drop (k:Int).toNat) (k:Int).toNat)))=_
  rw [decide_eq_true (Int.natCast_nonneg k),decide_eq_true (Int.ofNat_le.mpr h)]; rfl
theorem YJ (h:∀ a∈b,a < 128) (hs:b.length≤1000):smV σ0 .lower b []=some (.str (b.map lowC)):=by
  show gd (b.all (Nat.blt · 128)&&Nat.ble b.length 5592405) _=_
  rw [(List.all_eq_true.mpr fun a ha=>(Nat.ble_eq_true_of_le (h a ha):Nat.ble (a + 1) 128=true):(b.all fun x=>x.blt 128)=true),ble (Nat.le_trans hs (by decide))]; rfl
end
noncomputable def Kn (L E:List (Nat×Mine.V)):Prop:=∀ n v,JA E n=some v→JA L n=some v
section
variable {L E:List (Nat×Mine.V)}
theorem Kn.get (k:Kn L E) (n:Nat) {v:Mine.V} (e:JA E n=some v):JA L n=some v:=k n v e
theorem Kn.put (k:Kn L E) (n:Nat) (v:Mine.V):Kn (put L n v) (put E n v):=fun m w h=>by
  rw [QD] at h ⊢
  by_cases e:n=m
  · rw [if_pos e] at h ⊢; exact h
  · rw [if_neg e] at h ⊢; exact k m w h
noncomputable def Kn.lc (_:Kn L E):List (Nat×Mine.V):=L
theorem Kn.nil:Kn L []:=fun _ _ h=>nn h
theorem Kn.cons {n:Nat} {v:Mine.V} (h:JA L n=some v) (k:Kn L E):Kn L ((n,v) :: E):=fun m w e=>by
  rw [Q1] at e
  by_cases q:n=m
  · subst q; rw [if_pos rfl] at e; cases e; exact h
  · rw [if_neg q] at e; exact k m w e
end
section
variable {C:Ora} {s r:List MS} {σ σ':St} {t e:ME} {b o:List MS} {v:Mine.V} {st:MS}
theorem ZCk (h:exc C st σ=some (.next,σ')):exs C (st :: r) σ=exs C r σ':=by
  show bn (exc C st σ) _=_
  rw [h]; rfl
theorem YY:∀ {s:List MS} {σ:St},exs C (s++r) σ=bn (exs C s σ) fun f σ₁=>Xe f (exs C r σ₁) σ₁
  | [],_=>rfl
  | s :: l,σ=>by
    show bn (exc C s σ) _=bn (bn (exc C s σ) _) _
    cases exc C s σ with
    | none=>rfl
    | some p =>
      obtain ⟨f,σ₁⟩:=p
      cases f <;> first | exact YY | rfl
theorem W3 (h:tst C t σ=some (true,σ')):exs C (.iff t b o :: r) σ=exs C (b++r) σ':=by
  show bn (bn (tst C t σ) _) _=_
  rw [h,YY]; rfl
theorem WL (h:tst C t σ=some (false,σ')):exs C (.iff t b o :: r) σ=exs C (o++r) σ':=by
  show bn (bn (tst C t σ) _) _=_
  rw [h,YY]; rfl
theorem Jz {r:List MS} (h:exs C s σ=some (.next,σ')):exs C (s++r) σ=exs C r σ':=by rw [YY,h]; rfl
end
structure Cln (k:Nat) (L:List (Nat×Mine.V)) (H:List (Id×Ob)) (P:List Nat):Prop where
  l:∀ w,J5 (.p k) w L=L
  h:∀ w,Qo (.p k) w H=H
  o:JA H (.p k)=none
  p:k ∉ P
section
variable {C:Ora} {n:Nat} {L E:List (Nat×Mine.V)} {H:List (Id×Ob)} {nx:Nat} {P:List Nat} {k:Nat} {fs vs as:List Mine.V} {σ σ':St} {v:Mine.V} {m:MFun}
theorem Zz {o:Ob} (h:k ∉ P):(⟨L,H,nx,P⟩:St).alloc (.per k) o=some (.obj (.p k),⟨L,(.p k,o) :: H,nx,k :: P⟩):=if_neg h
theorem Nj (h:Cln k L H P) (hn:V.nos (.p k) fs=true):Q7 k v ⟨L,(.p k,.list fs) :: H,nx,k :: P⟩=some (V.sb (.p k) (.list fs) v,⟨L,H,nx,P⟩):=by
  have e:JA ((Id.p k,Ob.list fs) :: H) (.p k)=some (.list fs):=if_pos rfl
  unfold Q7
  rw [show JA (⟨L,(.p k,.list fs) :: H,nx,k :: P⟩:St).hp (.p k)=some (.list fs) from e]
  show gd (V.nos (.p k) fs) (some (_,(⟨J5 (.p k) (.list fs) L,if Id.p k=.p k then Qo (.p k) (.list fs) H else _,nx,(k :: P).filter (·≠k)⟩:St)))=_
  rw [hn,if_pos rfl,h.l,h.h,show (k :: P).filter (·≠k)=P.filter (·≠k) from List.filter_cons_of_neg (by simp),List.filter_eq_self.mpr fun x hx=>(decide_eq_true (p:=x≠k) fun e=>h.p (Eq.subst (motive:=fun y=>y∈P) e hx))]; rfl
theorem cB (ha:m.args vs=some as) (h:exs C m.body ⟨m.ps.zip as,H,nx,P⟩=some (.ret v,σ')):Qu C m vs ⟨L,H,nx,P⟩=some (v,{ σ' with loc:=L }):=by
  unfold Qu
  rw [ha]
  show bn (exs C m.body ⟨m.ps.zip as,H,nx,P⟩) _=_
  rw [h]; rfl
theorem YG (v w:Mine.V) (a:Nat):∀ l:List (Nat×Mine.V),put (put l a v) a w=put l a w
  | []=>if_pos rfl
  | (b,x) :: l=>by
    by_cases e:b=a
    · exact (congrArg (put · a w) (if_pos e)).trans ((if_pos e).trans (if_pos e).symm)
    · exact (congrArg (put · a w) (if_neg e)).trans ((if_neg e).trans ((congrArg _ (YG v w a l)).trans (if_neg e).symm))
end
end Mine
end
noncomputable section
open PySem
namespace Mine
noncomputable def Q8 (R:List Tok4) (x:List Nat):List Tok4:=match R with
  | []=>[.ch x]
  | r :: t=>(match r with
    | .ch y=>.ch (y++x) :: t
    | .sp y=>.ch x :: .sp y :: t
    | .er n=>.ch x :: .er n :: t
    | .tg n ws c=>.ch x :: .tg n ws c :: t)
noncomputable def stI (R:List Tok4):It→List Tok4
  | .c a=>Q8 R [a]
  | .e n=>.er n :: R
  | .g n ws c=>.tg n ws c :: R
noncomputable def stT (R:List Tok4):Tok4→List Tok4
  | .ch x=>Q8 R x
  | .sp x=>Q8 R x
  | .er n=>.er n :: R
  | .tg n ws c=>.tg n ws c :: R
noncomputable def jn (F:List It):List Tok4:=(F.foldl stI []).reverse
noncomputable def Tok4.add (x:List Nat):Tok4→List Tok4
  | .ch y=>[.ch (y++x)]
  | .sp y=>[.ch x,.sp y]
  | .er n=>[.ch x,.er n]
  | .tg n ws c=>[.ch x,.tg n ws c]
section
variable {R:List Tok4} {x y:List Nat} {a:Nat} {t:Tok4} {l:List Tok4}
theorem NK:Q8 (t :: R) x=t.add x++R:=by cases t <;> rfl
theorem GP (h:x≠[]):∀ {R:List Tok4},(x.map .c).foldl stI R=Q8 R x:=fun {R}=>by
  induction x generalizing R with
  | nil=>exact absurd rfl h
  | cons a x ih =>
    show (x.map It.c).foldl stI (Q8 R [a])=_
    cases x with
    | nil=>rfl
    | cons b x =>
      rw [ih (fun q=>nomatch q)]
      cases R with
      | nil=>rfl
      | cons t R =>
        cases t
        · rw [NK,NK]
          exact congrArg (fun q=>Tok4.ch q :: R) (List.append_assoc ..)
        · rfl
        · rfl
        · rfl
theorem Kb:∀ (l R:List Tok4),l.all Tok4.ok=true→(JH l).foldl stI R=l.foldl stT R
  | [],_,_=>rfl
  | t :: l,R,h=>bA h fun h1 h2=>by
    show (t.f++JH l).foldl stI R=l.foldl stT (stT R t)
    rw [List.foldl_append]
    have e:t.f.foldl stI R=stT R t:=by
      cases t
      · exact GP fun q=>by rw [q] at h1; exact ff h1
      · exact GP fun q=>by rw [q] at h1; exact ff h1
      · rfl
      · rfl
    rw [e]
    exact Kb l _ h2
noncomputable def sz (R:List Tok4):Nat:=(JH R).length
theorem Ql:sz (t :: R)=t.f.length + sz R:=List.length_append
theorem Yf (h:R.all Tok4.ok=true) (hx:x≠[]):(Q8 R x).all Tok4.ok=true∧sz (Q8 R x)=x.length + sz R:=by
  have hx':(!x.isEmpty)=true:=by cases x with
    | nil=>exact absurd rfl hx
    | cons=>rfl
  cases R with
  | nil=>exact ⟨(Bool.and_true _).trans hx',by rw [Q8,Ql]; exact congrArg (· + 0) (List.length_map _)⟩
  | cons t R =>
    refine bA h fun h1 h2=>?_
    cases t
    · rename_i y
      refine ⟨Bool.and_eq_true_iff.mpr ⟨?_,h2⟩,?_⟩
      · cases y with
        | nil=>exact hx'
        | cons=>rfl
      · show sz (.ch (y++x) :: R)=_
        rw [Ql,Ql,← Nat.add_assoc]
        exact congrArg (· + sz R) (by rw [Tok4.f,Tok4.f,List.length_map,List.length_map,List.length_append,Nat.add_comm])
    · exact ⟨Bool.and_eq_true_iff.mpr ⟨hx',h⟩,Ql.trans (congrArg (· + _) (List.length_map _))⟩
    · exact ⟨Bool.and_eq_true_iff.mpr ⟨hx',h⟩,Ql.trans (congrArg (· + _) (List.length_map _))⟩
    · exact ⟨Bool.and_eq_true_iff.mpr ⟨hx',h⟩,Ql.trans (congrArg (· + _) (List.length_map _))⟩
theorem ZT (h:(!x.isEmpty)=true):x≠[]:=fun q=>by rw [q] at h; exact ff h
theorem ZDh (h:R.all Tok4.ok=true) (ht:t.ok=true):(stT R t).all Tok4.ok=true∧sz (stT R t)=t.f.length + sz R:=by
  cases t with
  | ch x=>exact ⟨(Yf h (ZT ht)).1,((Yf h (ZT ht)).2).trans (congrArg (· + _) (List.length_map _).symm)⟩
  | sp x=>exact ⟨(Yf h (ZT ht)).1,((Yf h (ZT ht)).2).trans (congrArg (· + _) (List.length_map _).symm)⟩
  | er n=>exact ⟨h,Ql⟩
  | tg n ws c=>exact ⟨h,Ql⟩
theorem Yp:∀ {R:List Tok4},R.all Tok4.ok=true→R.length≤sz R
  | [],_=>Nat.le_refl _
  | t :: R,h=>bA h fun h1 h2=>by
    rw [Ql,List.length_cons,Nat.add_comm]
    refine Nat.add_le_add ?_ (Yp h2)
    cases t
    · rename_i x
      cases x with
      | nil=>exact ff h1
      | cons=>exact Nat.succ_le_succ (Nat.zero_le _)
    · rename_i x
      cases x with
      | nil=>exact ff h1
      | cons=>exact Nat.succ_le_succ (Nat.zero_le _)
    · exact Nat.le_refl _
    · exact Nat.le_refl _
end
noncomputable def jC1:ME:=(.and (.cmp .ne (.sub (.loc 83) (.k (.str [116,121,112,101]))) (.sub (.glob JR) (.k (.str [67,104,97,114,97,99,116,101,114,115])))) (.cmp .ne (.sub (.loc 83) (.k (.str [116,121,112,101]))) (.sub (.glob JR) (.k (.str [83,112,97,99,101,67,104,97,114,97,99,116,101,114,115])))))
noncomputable def jC2:ME:=(.and (.loc 126) (.cmp .eq (.sub (.sub (.loc 126) (.neg (.k (.int 1)))) (.k (.str [116,121,112,101]))) (.sub (.glob JR) (.k (.str [67,104,97,114,97,99,116,101,114,115])))))
noncomputable def jB:List MS:=[.iff jC1 [.ex (.app (.loc 126) (.loc 83))] [.iff jC2 [.asgS (.loc 126) (.neg (.k (.int 1))) (.call 67 [(.bop .add (.sub (.sub (.loc 126) (.neg (.k (.int 1)))) (.k (.str [100,97,116,97]))) (.sub (.loc 83) (.k (.str [100,97,116,97]))))])] [.ex (.app (.loc 126) (.call 67 [(.sub (.loc 83) (.k (.str [100,97,116,97])))]))]]]
noncomputable def jL (u v:Mine.V):List (Nat×Mine.V):=[(161,u),(126,.obj (.p 50)),(83,v)]
section
variable {C:Ora} {n:Nat} {L E:List (Nat×Mine.V)} {H:List (Id×Ob)} {nx:Nat} {P:List Nat} {u v w:Mine.V} {R l:List Tok4} {x y:List Nat} {t r:Tok4} {A:List Mine.V}
theorem vsr:vs (t :: R).reverse=vs R.reverse++[t.v]:=by rw [List.reverse_cons,QP]; rfl
theorem Hr {k:Int} {ks:List (List Nat)} {ws:List Mine.V} (hA:A.length≤JB) (h1:some (!(k==(1:Int)))=some true) (h2:some (!(k==(2:Int)))=some true):exs (JI tT (n + 1)) jB ⟨jL u (.dict ([116,121,112,101] :: ks) (.int k :: ws)),(.p 50,.list A) :: H,nx,P⟩=some (.next,⟨jL u (.dict ([116,121,112,101] :: ks) (.int k :: ws)),(.p 50,.list (A++[.dict ([116,121,112,101] :: ks) (.int k :: ws)])) :: H,nx,P⟩):=by
  have g:=ble hA
  refine JC.exs ?_
  exact .b 2 (h1) (.b 3 (h2) (.g 3 (g) (.done 2)))
theorem ZGR (hv:v=JQ x∨v=Wj x):exs (JI tT (n + 1)) jB ⟨jL u v,(.p 50,.list []) :: H,nx,P⟩=some (.next,⟨jL u v,(.p 50,.list [JQ x]) :: H,nx,P⟩):=by
  refine JC.exs ?_
  rcases hv with rfl | rfl
  · exact .done 14
  · exact .done 17
theorem GZ (h:A.length < JB):UL (A++[v]) (.int (-1))=some v:=by
  show gd (Nat.ble (A++[v]).length JB) (bo (seqIndex? (-1) (A++[v]).length) fun j=>(A++[v])[j]?)=_
  rw [List.length_append,ble (show A.length + [v].length≤JB from h)]
  show bo (seqIndex? (-1) (A.length + 1)) _=_
  rw [YE]
  exact List.getElem?_concat_length
theorem HI (h:A.length < JB):Mine.Jh ⟨L,(.p 50,.list (A++[v])) :: H,nx,P⟩ (.obj (.p 50))=some true:=by
  show gd (Nat.ble (A++[v]).length JB) (some (!(A++[v]).isEmpty))=_
  rw [List.length_append,ble (show A.length + [v].length≤JB from h)]
  cases A <;> rfl
theorem ZAy (h:A.length < JB):Mine.UZ ⟨L,(.p 50,.list (A++[w])) :: H,nx,P⟩ (.obj (.p 50)) (.int (-1)) v=some ⟨L,(.p 50,.list (A++[v])) :: H,nx,P⟩:=by
  show gd (Nat.ble (A++[w]).length JB) (bo (seqIndex? (-1) (A++[w]).length) fun j=>gd (Nat.blt j (A++[w]).length) (some (⟨L,(.p 50,.list ((A++[w]).set j v)) :: H,nx,P⟩:St)))=_
  rw [List.length_append,ble (show A.length + [w].length≤JB from h)]
  show bo (seqIndex? (-1) (A.length + 1)) _=_
  rw [YE]
  show gd (Nat.blt A.length (A.length + 1)) (some (⟨L,(.p 50,.list ((A++[w]).set A.length v)) :: H,nx,P⟩:St))=_
  rw [show Nat.blt A.length (A.length + 1)=true from ble (Nat.le_refl _),List.set_append_right A.length v (Nat.le_refl _),Nat.sub_self]; rfl
noncomputable def jCh:ME:=.call 67 [(.bop .add (.sub (.sub (.loc 126) (.neg (.k (.int 1)))) (.k (.str [100,97,116,97]))) (.sub (.loc 83) (.k (.str [100,97,116,97]))))]
theorem ZHp (hA:A.length < JB) (hc:y.length + x.length≤JB) (hv:v=JQ x∨v=Wj x):exs (JI tT (n + 1)) jB ⟨jL u v,(.p 50,.list (A++[JQ y])) :: H,nx,P⟩=some (.next,⟨jL u v,(.p 50,.list (A++[JQ (y++x)])) :: H,nx,P⟩):=by
  have hs:=GZ (v:=JQ y) hA
  have hcat:=Uh hc (Nat.le_refl _)
  have ht:=fun v=>HI (L:=jL u v) (v:=JQ y) (H:=H) (nx:=nx) (P:=P) hA
  have h1:tst (JI tT (n + 1)) jC1 ⟨jL u v,(.p 50,.list (A++[JQ y])) :: H,nx,P⟩=some (false,⟨jL u v,(.p 50,.list (A++[JQ y])) :: H,nx,P⟩):=by
    rcases hv with rfl | rfl <;> kernel_rfl
  have h2:tst (JI tT (n + 1)) jC2 ⟨jL u v,(.p 50,.list (A++[JQ y])) :: H,nx,P⟩=some (true,⟨jL u v,(.p 50,.list (A++[JQ y])) :: H,nx,P⟩):=by
    refine JC.tst ?_
    exact .b 0 (ht v) (.v 0 (hs) (.done 5))
  have he:ev (JI tT (n + 1)) jCh ⟨jL u v,(.p 50,.list (A++[JQ y])) :: H,nx,P⟩=some (JQ (y++x),⟨jL u v,(.p 50,.list (A++[JQ y])) :: H,nx,P⟩):=by
    refine JC.ev ?_
    rcases hv with rfl | rfl
    · exact .v 0 (hs) (.v 2 (hcat) (.done 2))
    · exact .v 0 (hs) (.v 2 (hcat) (.done 2))
  unfold jB
  rw [WL h1]
  refine (W3 h2).trans ?_
  show bn (bn (ev (JI tT (n + 1)) jCh ⟨jL u v,(.p 50,.list (A++[JQ y])) :: H,nx,P⟩) _) _=_
  rw [he]
  show bn (bo (Mine.UZ ⟨jL u v,(.p 50,.list (A++[JQ y])) :: H,nx,P⟩ (.obj (.p 50)) (.int (-1)) (JQ (y++x))) _) _=_
  rw [ZAy hA]; rfl
theorem OK {k:Int} {ks:List (List Nat)} {ws:List Mine.V} (hA:A.length < JB) (hv:v=JQ x∨v=Wj x) (hk:some (k==(1:Int))=some false):exs (JI tT (n + 1)) jB ⟨jL u v,(.p 50,.list (A++[.dict ([116,121,112,101] :: ks) (.int k :: ws)])) :: H,nx,P⟩=some (.next,⟨jL u v,(.p 50,.list (A++[.dict ([116,121,112,101] :: ks) (.int k :: ws)]++[JQ x])) :: H,nx,P⟩):=by
  have hs:=GZ (v:=.dict ([116,121,112,101] :: ks) (.int k :: ws)) hA
  have ht:=fun v=>HI (L:=jL u v) (v:=.dict ([116,121,112,101] :: ks) (.int k :: ws)) (H:=H) (nx:=nx) (P:=P) hA
  have g:Nat.ble (A++[Mine.V.dict ([116,121,112,101] :: ks) (.int k :: ws)]).length JB=true:=ble (by rw [List.length_append]; exact hA)
  refine JC.exs ?_
  rcases hv with rfl | rfl
  · exact .b 5 (ht (JQ x)) (.v 0 (hs) (.b 2 (hk) (.g 5 (g) (.done 2))))
  · exact .b 8 (ht (JQ x)) (.v 0 (hs) (.b 2 (hk) (.g 5 (g) (.done 2))))
theorem ZEZ (hR:R.all Tok4.ok=true) (ht:t.ok=true) (hz:sz R + t.f.length≤100000):exs (JI tT (n + 1)) jB ⟨jL u t.v,(.p 50,.list (vs R.reverse)) :: H,nx,P⟩=some (.next,⟨jL u t.v,(.p 50,.list (vs (stT R t).reverse)) :: H,nx,P⟩):=by
  have hl:(vs R.reverse).length≤100000:=by
    rw [List.length_map,List.length_reverse]
    exact Nat.le_trans (Yp hR) (Nat.le_trans (Nat.le_add_right _ _) hz)
  have hm:(vs R.reverse).length≤JB:=Nat.le_trans hl (by decide)
  have ch:∀ {x:List Nat} {v:Mine.V},x.length≤t.f.length→v=JQ x∨v=Wj x→exs (JI tT (n + 1)) jB ⟨jL u v,(.p 50,.list (vs R.reverse)) :: H,nx,P⟩=some (.next,⟨jL u v,(.p 50,.list (vs (Q8 R x).reverse)) :: H,nx,P⟩):=fun {x v} hx hv=>by
    cases R with
    | nil=>exact ZGR hv
    | cons r R =>
      rw [NK,List.reverse_append,QP]
      rw [vsr,List.length_append] at hl
      have hA:(vs R.reverse).length < JB:=Nat.lt_of_lt_of_le (show _ + 1≤_ from hl) (by decide)
      rw [vsr]
      cases r with
      | ch y=>exact ZHp hA (Nat.le_trans (Nat.add_le_add (by rw [Ql]; exact Nat.le_trans (Nat.le_of_eq (List.length_map _).symm) (Nat.le_add_right _ _)) hx) (Nat.le_trans hz (by decide))) hv
      | sp y=>exact (OK hA hv rfl).trans (by rw [List.append_assoc]; rfl)
      | er y=>exact (OK hA hv rfl).trans (by rw [List.append_assoc]; rfl)
      | tg y ws c=>exact (OK hA hv rfl).trans (by rw [List.append_assoc]; rfl)
  cases t with
  | ch x=>exact ch (Nat.le_of_eq (List.length_map _).symm) (.inl rfl)
  | sp x=>exact ch (Nat.le_of_eq (List.length_map _).symm) (.inr rfl)
  | er x=>exact (Hr hm rfl rfl).trans (by show _=some (FL.next,(⟨_,(Id.p 50,Ob.list (vs (Tok4.er x :: R).reverse)) :: H,nx,P⟩:St)); rw [vsr]; rfl)
  | tg x ws c=>exact (Hr hm rfl rfl).trans (by show _=some (FL.next,(⟨_,(Id.p 50,Ob.list (vs (Tok4.tg x ws c :: R).reverse)) :: H,nx,P⟩:St)); rw [vsr]; rfl)
noncomputable def jF (C:Ora):List Mine.V→St→Option (FL×St):=QA (fun v σ=>some (σ.setLoc 83 v)) (exs C jB)
theorem Hs:∀ (l R:List Tok4) (L:List (Nat×Mine.V)),(∀ v,put L 83 v=jL u v)→l.all Tok4.ok=true→R.all Tok4.ok=true→sz R + sz l≤100000→∃ L',JA L' 126=some (.obj (.p 50))∧jF (JI tT (n + 1)) (vs l) ⟨L,(.p 50,.list (vs R.reverse)) :: H,nx,P⟩=some (.next,⟨L',(.p 50,.list (vs ((JH l).foldl stI R).reverse)) :: H,nx,P⟩)
  | [],R,L,hL,_,_,_=>⟨L,by
    have h:=congrArg (fun l=>JA l 126) (hL .none)
    exact ((QD ..).symm.trans h).trans rfl,rfl⟩
  | t :: l,R,L,hL,hl,hR,hz=>bA hl fun h1 h2=>by
    rw [Ql,Nat.add_left_comm,← Nat.add_assoc] at hz
    obtain ⟨k1,k2⟩:=ZDh hR h1
    obtain ⟨L',e1,e2⟩:=Hs l (stT R t) (jL u t.v) (fun _=>rfl) h2 k1 (by rw [k2]; exact hz)
    refine ⟨L',e1,?_⟩
    show bn (exs (JI tT (n + 1)) jB ⟨put L 83 t.v,(.p 50,.list (vs R.reverse)) :: H,nx,P⟩) _=_
    rw [hL,ZEZ hR h1 (by rw [Nat.add_comm]; exact Nat.le_trans (Nat.le_add_right _ _) hz),Kb (t :: l) R hl,List.foldl_cons,← Kb l _ h2]
    exact e2
theorem BP (hc:Cln 50 L H P) (h1:l.all Tok4.ok=true) (hz:sz l≤100000):Xm 50 (We tT (JI tT (n + 1))) 71 [.list (vs l)] ⟨L,H,nx,P⟩=some (.list (vs (jn (JH l))),⟨L,H,nx,P⟩):=by
  obtain ⟨L',e1,e2⟩:=Hs (n:=n) (u:=.list (vs l)) (H:=H) (nx:=nx) (P:=50 :: P) l [] [(161,.list (vs l)),(126,.obj (.p 50))] (fun _=>rfl) h1 rfl (by rw [show sz []=0 from rfl,Nat.zero_add]; exact hz)
  have ha:=Zz (L:=[(161,.list (vs l))]) (H:=H) (nx:=nx) (o:=.list []) hc.p
  show gd (decide (50 ∉ P)) (bn (Qu (JI tT (n + 1)) Xv [.list (vs l)] ⟨L,H,nx,P⟩) (Q7 50))=_
  rw [decide_eq_true hc.p]
  have hb:exs (JI tT (n + 1)) Xv.body ⟨[(161,.list (vs l))],H,nx,P⟩=some (.ret (.obj (.p 50)),⟨L',(.p 50,.list (vs (jn (JH l)))) :: H,nx,50 :: P⟩):=by
    refine JC.exs' ?_
    exact .c 0 (ha) (.fl 2 (e2) (.v 0 (e1) (.done 1)))
  rw [cB (m:=Xv) (as:=[.list (vs l)]) rfl hb]
  exact (Nj hc (J7 _)).trans (by rw [show V.sb (.p 50) (.list (vs (jn (JH l)))) (.obj (.p 50))=.list (vs (jn (JH l))) from rfl])
end
end Mine
end
noncomputable section
open PySem
namespace Mine
noncomputable def enT:ME:=(.and (.cmp .isn (.loc 66) (.k .none)) (.cmp .eq (.sl (.loc 1) (.loc 2) (.bop .add (.loc 2) (.k (.int 2)))) (.k (.str [60,47]))))
noncomputable def en0:MS:=.asg 165 (.bop .add (.loc 2) (.k (.int 2)))
noncomputable def enW:ME:=(.and (.cmp .lt (.loc 165) (.bi .len [(.loc 1)])) (.cmp .inn (.sub (.loc 1) (.loc 165)) (.glob Xy)))
noncomputable def en1:List MS:=[.augN 165 .add (.k (.int 1))]
noncomputable def enC:ME:=(.and (.cmp .eq (.sm .lower (.sl (.loc 1) (.bop .add (.loc 2) (.k (.int 2))) (.loc 165)) []) (.sm .lower (.loc 66) [])) (.cmp .inn (.sl (.loc 1) (.loc 165) (.bop .add (.loc 165) (.k (.int 1)))) (.tup [(.k (.str [32])),(.k (.str [47])),(.k (.str [62]))])))
noncomputable def enB:List MS:=[.iff enT [en0,.whl enW en1,.iff enC [.ret (.loc 2)] []] []]
noncomputable def nmV:Option (List Nat)→Mine.V
  | none=>.none
  | some m=>.str m
noncomputable def Ja (m:Option (List Nat)):Option (List Nat):=m.map (·.map lowC)
noncomputable def enE (tx:List Nat) (m:Option (List Nat)):List (Nat×Mine.V):=[(1,.str tx),(66,nmV m)]
noncomputable def enM (L:List (Nat×Mine.V)) (H:List (Id×Ob)) (nx:Nat) (P:List Nat) (i:Nat):St:=⟨put L 165 (.int i),H,nx,P⟩
section
variable {C:Ora} {L:List (Nat×Mine.V)} {H:List (Id×Ob)} {nx p a:Nat} {P tx r w x m:List Nat} {o:Option (List Nat)}
theorem ZHJ:∀ a∈al,Nat.blt a 128=true:=JG (by kernel_rfl)
theorem IK (h:∀ a∈tx,a∈al):∀ a∈tx,a < 128:=fun a ha=>Nat.le_of_ble_eq_true (ZHJ a (h a ha))
theorem ZEc:∀ a∈al,(Ni σ0 (.str [a]) Xy)=some (pL a):=JG (by kernel_rfl)
theorem in3:some ([[32],[47],[62]].any (·==x.take 1))=some (Qw x):=by
  cases x with
  | nil=>rfl
  | cons a x =>
    have e:∀ {c:Nat},([c]==[a])=(a==c):=fun {c}=>by
      by_cases h:a=c
      · subst h; rw [beq_self_eq_true,beq_self_eq_true]
      · rw [beq_eq_false_iff_ne.mpr h,beq_eq_false_iff_ne.mpr fun q=>h (List.cons.inj q).1.symm]
    show some (([32]==[a])||(([47]==[a])||(([62]==[a])||false)))=some (a==32||(a==47||a==62))
    rw [e,e,e,Bool.or_false]
theorem ZBX (hb:tx.length≤JB) (ha:∀ a∈tx,a∈al) (h1:JA L 1=some (.str tx)):∀ (r:List Nat) (i fuel:Nat),tx.drop i=r→i≤tx.length→r.length < fuel→J0 (tst C enW) (exs C en1) fuel (enM L H nx P i)=some (.next,enM L H nx P (i + (ltr r).length)):=by
  have l1:∀ i:Nat,JA (put L 165 (.int i)) 1=some (.str tx):=fun i=>(QD ..).trans h1
  have l3:∀ i:Nat,JA (put L 165 (.int i)) 165=some (.int i):=fun i=>QD ..
  refine Dt (p:=pL) (JC.tst' ?_) (fun i a h=>JC.tst' ?_) fun i=>?_
  · exact .v 0 (l3 tx.length) (.v 0 (l1 tx.length) (.v 0 (Qe hb) (.b 0 (U9 (Nat.lt_irrefl tx.length)) (.done 3))))
  · have hlt:=(List.getElem?_eq_some_iff.mp h).1
    have hi:=ZEc a (ha a (List.mem_of_getElem? h))
    exact .v 0 (l3 i) (.v 0 (l1 i) (.v 0 (Qe hb) (.b 0 (slt hlt) (.v 1 (l1 i) (.v 0 (l3 i) (.v 0 (WN h hb) (.b 0 (hi) (.b 0 (XK (b:=pL a)) (.done 1)))))))))
  · show exs C en1 ⟨put L 165 (.int i),H,nx,P⟩=some (.next,⟨put L 165 (.int (i + 1:Nat)),H,nx,P⟩)
    rw [← YG (.int i) (.int (i + 1:Nat))]
    refine JC.exs' ?_
    exact .v 0 (l3 i) (.done 2)
theorem ZFi (h:tx.drop p=a :: r) (hb:tx.length≤JB):slV σ0 (.str tx) (.int p) (.int (p + 2:Nat))=some (.str (a :: r.take 1)):=by
  rw [XC p (p + 2) rfl rfl hb,h,Nat.add_sub_cancel_left]; rfl
theorem ZDE (hb:tx.length≤900) (ha:∀ a∈tx,a∈al) (hm:m.length≤900) (hmA:∀ a∈m,a < 128) (hd:tx.drop p=a :: r) (k:Kn L [(1,.str tx),(66,nmV o),(2,.int p)]) (ho:o=none∨o=some m):∃ L',Kn L' (enE tx o)∧exs C enB ⟨L,H,nx,P⟩=some (match JY (Ja o) (a :: r) with | some _=>.ret (.int p) | none=>.next,⟨L',H,nx,P⟩):=by
  have hbm:tx.length≤JB:=mx hb
  have hmm:m.length≤1000:=Nat.le_trans hm (by decide)
  have hkE:Kn L (enE tx o):=.cons (k.get 1 rfl) (.cons (k.get 66 rfl) .nil)
  rcases ho with rfl | rfl
  · have hf:JY (Ja none) (a :: r)=none:=by
      cases e:JY (Ja none) (a :: r) with
      | none=>rfl
      | some w=>exact NA e fun _ q=>ff q
    rw [hf]
    refine ⟨L,hkE,?_⟩
    refine JC.exs' ?_
    exact .v 0 (k.get 66 rfl) (.done 4)
  · have h2:=ZFi hd hbm
    by_cases h61:a :: r.take 1=[60,47]
    · obtain ⟨rfl,e⟩:=List.cons.inj h61
      cases r with
      | nil=>exact nomatch e
      | cons b w =>
        cases (List.cons.inj e).1
        have hdw:tx.drop (p + 2)=w:=by rw [← List.drop_drop,hd]; rfl
        have hpl:p + 2≤tx.length:=(QX (QX hd).2.1).2.2
        have hw:=ZBX (C:=C) (L:=L) (H:=H) (nx:=nx) (P:=P) hbm ha (k.get 1 rfl) w (p + 2) Qc hdw hpl (Nat.lt_of_le_of_lt (Nat.le_trans (hdw▸dle tx (p + 2)) hb) (by decide))
        have k2:=k.put 165 (.int (p + 2 + (ltr w).length:Nat))
        have s1:slV σ0 (.str tx) (.int (p + 2:Nat)) (.int (p + 2 + (ltr w).length:Nat))=some (.str (ltr w)):=by
          rw [XC (p + 2) _ rfl rfl hbm,hdw,Nat.add_sub_cancel_left]
          exact congrArg (fun l=>some (Mine.V.str l)) (List.prefix_iff_eq_take.mp (List.takeWhile_prefix _)).symm
        have hwa:∀ a∈w,a∈tx:=fun a h=>List.mem_of_mem_drop (hdw▸h:a∈tx.drop (p + 2))
        have hll:(ltr w).length≤1000:=Nat.le_trans (List.takeWhile_prefix _).length_le (Nat.le_trans (hdw▸dle tx (p + 2)) (Nat.le_trans hb (by decide)))
        have lo1:=YJ (b:=ltr w) (fun a h=>IK ha a (hwa a ((List.takeWhile_prefix _).subset h))) hll
        have lo2:=YJ (b:=m) hmA hmm
        have s2:slV σ0 (.str tx) (.int (p + 2 + (ltr w).length:Nat)) (.int (p + 2 + (ltr w).length + 1:Nat))=some (.str ((JE w).take 1)):=by
          rw [XC (p + 2 + (ltr w).length) _ rfl rfl hbm,← List.drop_drop,hdw,Nat.add_sub_cancel_left]; rfl
        refine ⟨put L 165 (.int (p + 2 + (ltr w).length:Nat)),.cons (k2.get 1 rfl) (.cons (k2.get 66 rfl) .nil),?_⟩
        have hf:JY (Ja (some m)) (60 :: 47 :: w)=bif ((ltr w).map lowC==m.map lowC)&&Qw (JE w) then some w else none:=rfl
        rw [hf]
        by_cases hc:(ltr w).map lowC=m.map lowC
        · rw [beq_iff_eq.mpr hc]
          have i3:=in3 (x:=JE w)
          cases he:Qw (JE w) with
          | true =>
            rw [he] at i3
            refine JC.exs' ?_
            exact .v 0 (k.get 66 rfl) (.v 2 (k.get 1 rfl) (.v 0 (k.get 2 rfl) (.v 0 (k.get 2 rfl) (.v 1 (h2) (.v 2 (k.get 2 rfl) (.fl 1 (hw) (.v 0 (k2.get 1 rfl) (.v 0 (k2.get 2 rfl) (.v 1 (k2.get 165 rfl) (.v 0 (s1) (.v 0 (lo1) (.v 0 (k2.get 66 rfl) (.v 0 (lo2) (.b 0 (IS hc) (.v 1 (k2.get 1 rfl) (.v 0 (k2.get 165 rfl) (.v 0 (k2.get 165 rfl) (.v 1 (s2) (.b 0 (i3) (.v 1 (k2.get 2 rfl) (.done 1)))))))))))))))))))))
          | false =>
            rw [he] at i3
            refine JC.exs' ?_
            exact .v 0 (k.get 66 rfl) (.v 2 (k.get 1 rfl) (.v 0 (k.get 2 rfl) (.v 0 (k.get 2 rfl) (.v 1 (h2) (.v 2 (k.get 2 rfl) (.fl 1 (hw) (.v 0 (k2.get 1 rfl) (.v 0 (k2.get 2 rfl) (.v 1 (k2.get 165 rfl) (.v 0 (s1) (.v 0 (lo1) (.v 0 (k2.get 66 rfl) (.v 0 (lo2) (.b 0 (IS hc) (.v 1 (k2.get 1 rfl) (.v 0 (k2.get 165 rfl) (.v 0 (k2.get 165 rfl) (.v 1 (s2) (.b 0 (i3) (.done 2))))))))))))))))))))
        · rw [beq_eq_false_iff_ne.mpr hc]
          refine JC.exs' ?_
          exact .v 0 (k.get 66 rfl) (.v 2 (k.get 1 rfl) (.v 0 (k.get 2 rfl) (.v 0 (k.get 2 rfl) (.v 1 (h2) (.v 2 (k.get 2 rfl) (.fl 1 (hw) (.v 0 (k2.get 1 rfl) (.v 0 (k2.get 2 rfl) (.v 1 (k2.get 165 rfl) (.v 0 (s1) (.v 0 (lo1) (.v 0 (k2.get 66 rfl) (.v 0 (lo2) (.b 0 (IR hc) (.done 3)))))))))))))))
    · have hf:JY (Ja (some m)) (a :: r)=none:=by
        cases e:JY (Ja (some m)) (a :: r) with
        | none=>rfl
        | some w=>exact NA e fun q _=>absurd (congrArg (List.take 2) q) h61
      rw [hf]
      refine ⟨L,hkE,?_⟩
      refine JC.exs' ?_
      exact .v 0 (k.get 66 rfl) (.v 2 (k.get 1 rfl) (.v 0 (k.get 2 rfl) (.v 0 (k.get 2 rfl) (.v 1 (h2) (.b 0 (IR h61) (.done 2))))))
noncomputable def enL (C:Ora):List Mine.V→St→Option (FL×St):=QA (fun v σ=>some (σ.setLoc 2 v)) (exs C enB)
noncomputable def plc (p k:Nat):List Mine.V:=(List.range' p k).map fun (i:Nat)=>.int (i:Int)
theorem D7 (hb:tx.length≤900) (ha:∀ a∈tx,a∈al) (hm:m.length≤900) (hmA:∀ a∈m,a < 128) (ho:o=none∨o=some m):∀ (k p:Nat) (L:List (Nat×Mine.V)),p + k=tx.length→Kn L (enE tx o)→∃ L',Kn L' (enE tx o)∧enL C (plc p k) ⟨L,H,nx,P⟩=some (if JO (Ja o) (tx.drop p) < k then .ret (.int ((p + JO (Ja o) (tx.drop p):Nat):Int)) else .next,⟨L',H,nx,P⟩)
  | 0,p,L,_,k=>⟨L,k,rfl⟩
  | n + 1,p,L,hp,k=>by
    have hlt:p < tx.length:=hp▸Nat.lt_add_of_pos_right (Nat.succ_pos _)
    have hd:=List.drop_eq_getElem_cons hlt
    have k1:=k.put 2 (.int p)
    obtain ⟨L1,k2,e⟩:=ZDE (C:=C) (H:=H) (nx:=nx) (P:=P) hb ha hm hmA hd k1 ho
    show ∃ L',_∧bn (exs C enB ⟨put L 2 (.int p),H,nx,P⟩) _=_
    rw [e,hd]
    cases hf:JY (Ja o) (tx[p] :: tx.drop (p + 1)) with
    | some w =>
      rw [Yu hf]
      exact ⟨L1,k2,rfl⟩
    | none =>
      obtain ⟨L',k3,e3⟩:=D7 hb ha hm hmA ho n (p + 1) L1 (by rw [← hp,Nat.add_assoc,Nat.add_comm 1]) k2
      refine ⟨L',k3,?_⟩
      rw [Yv hf]
      refine e3.trans ?_
      by_cases hc:JO (Ja o) (tx.drop (p + 1)) < n
      · rw [if_pos hc,if_pos (Nat.succ_lt_succ hc),Nat.add_assoc,Nat.add_comm 1]
      · rw [if_neg hc,if_neg fun q=>hc (Nat.lt_of_succ_lt_succ q)]
theorem Gf (k:Nat):((List.range ((k:Int) - 0).toNat).map fun (i:Nat)=>Mine.V.int (0 + (i:Int)))=plc 0 k:=by
  rw [Int.sub_zero,Int.toNat_natCast,List.range_eq_range']
  exact List.map_congr_left fun i _=>congrArg Mine.V.int (Int.zero_add _)
theorem DS {k:Nat} (h:k≤1000):(Qi 0&&Qi (k:Int))=true:=by
  show (true&&(decide (-16777216≤(k:Int))&&decide ((k:Int)≤16777216)))=true
  rw [decide_eq_true (Int.le_trans (by decide:(-16777216:Int)≤0) (Int.natCast_nonneg k)),decide_eq_true (show (k:Int)≤16777216 from Int.ofNat_le.mpr (Nat.le_trans h (by decide:1000≤16777216)))]; rfl
theorem ZGS {k:Nat} {σ:St} (h:k≤1000):(bo (UH (.rng 0 (k:Int))) fun l=>some (l,σ))=some (plc 0 k,σ):=by
  show bo (gd (Qi 0&&Qi (k:Int)) (some ((List.range ((k:Int) - 0).toNat).map fun (i:Nat)=>Mine.V.int (0 + (i:Int))))) _=_
  rw [DS h,Gf]; rfl
theorem ZFB (hb:tx.length≤900) (ha:∀ a∈tx,a∈al) (hm:m.length≤900) (hmA:∀ a∈m,a < 128) (ho:o=none∨o=some m):We tT C 73 [.str tx,nmV o] ⟨L,H,nx,P⟩=some (.int (JO (Ja o) tx:Nat),⟨L,H,nx,P⟩):=by
  obtain ⟨L',k,e⟩:=D7 (C:=C) (H:=H) (nx:=nx) (P:=P) hb ha hm hmA ho tx.length 0 (enE tx o) (Nat.zero_add _) (fun _ _ h=>h)
  rw [Nat.zero_add] at e
  have e:enL C (plc 0 tx.length) ⟨enE tx o,H,nx,P⟩=some (if JO (Ja o) tx < tx.length then .ret (.int (JO (Ja o) tx:Nat)) else .next,⟨L',H,nx,P⟩):=e
  have hs:=ZGS (σ:=⟨enE tx o,H,nx,P⟩) (Nat.le_trans hb (by decide:900≤1000))
  have hbm:tx.length≤JB:=mx hb
  show Qu C Zs [.str tx,nmV o] ⟨L,H,nx,P⟩=_
  refine cB (m:=Zs) (as:=[.str tx,nmV o]) rfl (σ':=⟨L',H,nx,P⟩) (JC.exs' ?_)
  by_cases hc:JO (Ja o) tx < tx.length
  · rw [if_pos hc] at e
    exact .v 1 (Qe hbm) (.l 1 (hs) (.fl 0 (e) (.done 1)))
  · have he:=Nat.le_antisymm (Ya tx) (Nat.not_lt.mp hc)
    rw [if_neg hc] at e
    rw [he]
    exact .v 1 (Qe hbm) (.l 1 (hs) (.fl 0 (e) (.v 0 (k.get 1 rfl) (.v 0 (Qe hbm) (.done 1)))))
end
end Mine
end
noncomputable section
open PySem
namespace Mine
noncomputable def iW:ME:=(.and (.cmp .gt (.loc 163) (.k (.int 0))) (.cmp .eq (.sub (.loc 117) (.bop .sub (.loc 163) (.k (.int 1)))) (.k (.str [32]))))
noncomputable def iWb:List MS:=[.augN 163 .sub (.k (.int 1))]
noncomputable def Xl:MS:=.asg 164 (.and (.cmp2 .lt .lt (.k (.int 0)) (.loc 163) (.loc 2)) (.cmp .ne (.sub (.loc 117) (.bop .sub (.loc 163) (.k (.int 1)))) (.k (.str [47]))))
noncomputable def i68:MS:=.asg 68 (.ite (.cmp .lt (.loc 2) (.loc 3)) (.sub (.loc 117) (.loc 2)) (.k (.str [])))
noncomputable def iC1:ME:=(.cmp .eq (.loc 68) (.k (.str [47])))
noncomputable def iA1:List MS:=[.iff (.cmp .lt (.bop .add (.loc 2) (.k (.int 1))) (.loc 3)) [.ex (.app (.loc 71) (.k (.str [117,110,101,120,112,101,99,116,101,100,45,99,104,97,114,97,99,116,101,114,45,97,102,116,101,114,45,115,111,108,105,100,117,115,45,105,110,45,116,97,103])))] [.iff (.not (.loc 107)) [.ex (.app (.loc 71) (.k (.str [117,110,101,120,112,101,99,116,101,100,45,69,79,70,45,97,102,116,101,114,45,115,111,108,105,100,117,115,45,105,110,45,116,97,103])))] []]]
noncomputable def iC2:ME:=(.and (.cmp .eq (.loc 68) (.k (.str []))) (.and (.cmp .lt (.loc 163) (.loc 2)) (.not (.loc 107))))
noncomputable def iA2:List MS:=[.ex (.app (.loc 71) (.ite (.loc 164) (.k (.str [101,120,112,101,99,116,101,100,45,101,110,100,45,111,102,45,116,97,103,45,98,117,116,45,103,111,116,45,101,111,102])) (.k (.str [101,120,112,101,99,116,101,100,45,97,116,116,114,105,98,117,116,101,45,110,97,109,101,45,98,117,116,45,103,111,116,45,101,111,102]))))]
noncomputable def iC3:ME:=(.and (.cmp .ne (.loc 68) (.k (.str []))) (.cmp .ne (.loc 68) (.k (.str [32]))))
noncomputable def iS:MS:=.iff (.cmp .eq (.loc 68) (.k (.str [0]))) [.ex (.app (.loc 71) (.k (.str [105,110,118,97,108,105,100,45,99,111,100,101,112,111,105,110,116])))] [.iff (.cmp .eq (.loc 68) (.k (.str [60]))) [.ex (.app (.loc 71) (.bop .add (.bop .add (.k (.str [105,110,118,97,108,105,100,45,99,104,97,114,97,99,116,101,114,45])) (.ite (.loc 164) (.k (.str [97,102,116,101,114])) (.k (.str [105,110])))) (.k (.str [45,97,116,116,114,105,98,117,116,101,45,110,97,109,101]))))] []]
noncomputable def iC4:ME:=(.or (.cmp .eq (.bop .add (.loc 2) (.k (.int 1))) (.loc 3)) (.cmp .inn (.sub (.loc 117) (.bop .add (.loc 2) (.k (.int 1)))) (.tup [(.k (.str [32])),(.k (.str [47]))])))
noncomputable def iW2:ME:=(.and (.cmp .gt (.loc 77) (.k (.int 0))) (.cmp .nin (.sub (.loc 117) (.bop .sub (.loc 77) (.k (.int 1)))) (.tup [(.k (.str [32])),(.k (.str [47]))])))
noncomputable def OO:List MS:=[.augN 77 .sub (.k (.int 1))]
noncomputable def iX:List MS:=[.asg 77 (.loc 2),.whl iW2 OO,.asg 78 (.sm .replace (.sm .lower (.sl (.loc 117) (.loc 77) (.bop .add (.loc 2) (.k (.int 1)))) []) [(.k (.str [0])),(.k (.str [65533]))]),.iff (.and (.cmp .eq (.bop .add (.loc 2) (.k (.int 1))) (.loc 3)) (.not (.loc 107))) [.ex (.app (.loc 71) (.k (.str [101,111,102,45,105,110,45,97,116,116,114,105,98,117,116,101,45,110,97,109,101])))] [],.iff (.cmp .inn (.loc 78) (.loc 162)) [.ex (.app (.loc 71) (.k (.str [100,117,112,108,105,99,97,116,101,45,97,116,116,114,105,98,117,116,101])))] [],.ex (.app (.loc 162) (.loc 78))]
noncomputable def iB:List MS:=[.asg 163 (.loc 2),.whl iW iWb,Xl,i68,.iff iC1 iA1 [.iff iC2 iA2 [.iff iC3 [iS,.iff iC4 iX []] []]]]
theorem ZAk:Wv.body=[.asg 71 (.lst [] (.per 51)),.asg 162 (.lst [] (.per 52)),.asg 3 (.bi .len [(.loc 117)]),.for 2 (.bi .range [(.bop .add (.loc 3) (.k (.int 1)))]) iB,.ret (.tup [(.loc 71),(.loc 162)])]:=rfl
theorem Kq {C:Ora} {t:ME} {bd:List MS} {p:Nat→Bool} {mk:Nat→St} {v:List Nat} (h0:tst C t (mk 0)=some (false,mk 0)) (h1:∀ i a,v[i]?=some a→tst C t (mk (i + 1))=some (p a,mk (i + 1))) (h2:∀ i,exs C bd (mk (i + 1))=some (.next,mk i)) :
    ∀ (i fuel:Nat),i≤v.length→i < fuel→J0 (tst C t) (exs C bd) fuel (mk i)=some (.next,mk ((v.take i).reverse.dropWhile p).length)
  | _,0,_,hf=>absurd hf (Nat.not_lt_zero _)
  | 0,n + 1,_,_=>Ww h0
  | i + 1,n + 1,hi,hf=>by
    have ha:v[i]?=some v[i]:=List.getElem?_eq_getElem hi
    have h1:=h1 i _ ha
    rw [List.take_succ_eq_append_getElem hi,List.reverse_append]
    show _=some (FL.next,mk ((v[i] :: (v.take i).reverse).dropWhile p).length)
    rw [List.dropWhile_cons]
    cases e:p v[i] with
    | false =>
      rw [e] at h1
      refine (Ww h1).trans ?_
      rw [if_neg Bool.false_ne_true,List.length_cons,List.length_reverse,List.length_take_of_le (Nat.le_of_lt hi)]
    | true =>
      rw [e] at h1
      refine (W0 h1 (h2 i) (Kq h0 ‹_› h2 i n (Nat.le_of_lt hi) (Nat.lt_of_succ_lt_succ hf))).trans ?_
      rw [if_pos rfl]
theorem ZAq {p:Nat→Bool} {v:List Nat} {i:Nat} (hi:i≤v.length):v.take ((v.take i).reverse.dropWhile p).length=((v.take i).reverse.dropWhile p).reverse:=by
  have h:=congrArg List.reverse (List.takeWhile_append_dropWhile (p:=p) (l:=(v.take i).reverse))
  rw [List.reverse_append,List.reverse_reverse] at h
  have hl:((v.take i).reverse.dropWhile p).length≤i:=by
    have:=(List.dropWhile_suffix (p:=p) (l:=(v.take i).reverse)).length_le
    rw [List.length_reverse,List.length_take_of_le hi] at this; exact this
  have h2:=congrArg (List.take ((v.take i).reverse.dropWhile p).length) h
  rw [List.take_take,Nat.min_eq_left hl,List.take_left' List.length_reverse] at h2
  exact h2.symm
section
variable {C:Ora} {L:List (Nat×Mine.V)} {H:List (Id×Ob)} {nx i a k:Nat} {P v r w x pr:List Nat} {c b:Bool} {fs ws:List (List Nat)}
noncomputable def stv (l:List (List Nat)):List Mine.V:=l.map .str
noncomputable def inE (v:List Nat) (c:Bool) (i:Nat):List (Nat×Mine.V):=[(117,.str v),(107,.bool c),(71,.obj (.p 51)),(162,.obj (.p 52)),(3,.int v.length),(2,.int i)]
noncomputable def UR (v:List Nat) (c:Bool) (i:Nat) (bk:Nat) (lt:Bool) (sg:List Nat):List (Nat×Mine.V):=[(117,.str v),(107,.bool c),(71,.obj (.p 51)),(162,.obj (.p 52)),(3,.int v.length),(2,.int i),(163,.int bk),(164,.bool lt),(68,.str sg)]
noncomputable def inM (L:List (Nat×Mine.V)) (H:List (Id×Ob)) (nx:Nat) (P:List Nat) (i:Nat):St:=⟨put L 163 (.int i),H,nx,P⟩
theorem Xd (i:Nat):((i + 1:Nat):Int) - 1=(i:Int):=(show (i:Int) + 1 - 1=i from Int.add_sub_cancel _ _)
theorem sgt (i:Nat):some (decide (((i + 1:Nat):Int) > 0))=some true:=congrArg some (decide_eq_true (Int.ofNat_lt.mpr (Nat.succ_pos i)))
theorem Ny {a b:Nat}:some (([a]:List Nat)==[b])=some (Nat.beq a b):=by
  by_cases h:a=b
  · subst h; rw [Nat.beq_refl]; exact congrArg some (beq_self_eq_true _)
  · rw [Jp h]; exact congrArg some (beq_eq_false_iff_ne.mpr fun e=>h (List.cons.inj e).1)
theorem ZCZ (hb:v.length≤JB) (h1:JA L 117=some (.str v)):∀ (i fuel:Nat),i≤v.length→i < fuel→J0 (tst C iW) (exs C iWb) fuel (inM L H nx P i)=some (.next,inM L H nx P (bkS (v.take i).reverse).length):=by
  have l1:∀ i:Nat,JA (put L 163 (.int i)) 117=some (.str v):=fun i=>(QD ..).trans h1
  have l3:∀ i:Nat,JA (put L 163 (.int i)) 163=some (.int i):=fun i=>QD ..
  refine Kq (p:=fun a=>Nat.beq a 32) (JC.tst' ?_) (fun i a h=>JC.tst' ?_) fun i=>?_
  · exact .v 0 (l3 0) (.done 4)
  · have hs:=WN h hb
    rw [← Xd] at hs
    exact .v 0 (l3 (i + 1)) (.b 0 (sgt i) (.v 1 (l1 (i + 1)) (.v 0 (l3 (i + 1)) (.v 1 (hs) (.b 0 (Ny (a:=a) (b:=32)) (.b 0 (XK (b:=Nat.beq a 32)) (.done 1)))))))
  · show exs C iWb ⟨put L 163 (.int (i + 1:Nat)),H,nx,P⟩=some (.next,⟨put L 163 (.int i),H,nx,P⟩)
    rw [show put L 163 (.int (i:Int))=put (put L 163 (.int ((i + 1:Nat):Int))) 163 (.int (((i + 1:Nat):Int) - 1)) by rw [YG,Xd]]
    refine JC.exs' ?_
    exact .v 0 (l3 (i + 1)) (.done 2)
noncomputable def sg1:List Nat→List Nat
  | []=>[]
  | a :: _=>[a]
theorem ZHS {a b:Nat}:some (!(([a]:List Nat)==[b]))=some (!(Nat.beq a b)):=congrArg some (congrArg (!·) (Option.some.inj Ny))
noncomputable def inP:List MS:=[.asg 163 (.loc 2),.whl iW iWb,Xl,i68]
theorem ZBH {B:List Nat} (hm:v.length≤JB) (hbt:v.take B.length=B.reverse) (k1:Kn L [(117,.str v),(2,.int i),(163,.int B.length)]):exs C [Xl] ⟨L,H,nx,P⟩=some (.next,⟨put L 164 (.bool (Nat.blt B.length i&&Yq B)),H,nx,P⟩):=by
  refine JC.exs' ?_
  cases B with
  | nil =>
    rw [show (Nat.blt ([]:List Nat).length i&&Yq [])=false from Bool.and_false _]
    exact .v 0 (k1.get 163 rfl) (.done 3)
  | cons x t =>
    have hg:some (decide ((0:Int) < ((t.length + 1:Nat):Int)))=some true:=congrArg some (decide_eq_true (Int.ofNat_lt.mpr (Nat.succ_pos t.length)))
    by_cases hlt:t.length + 1 < i
    · have hx:v[t.length]?=some x:=by
        have h:(v.take (t.length + 1))[t.length]?=(x :: t).reverse[t.length]?:=congrArg (fun l:List Nat=>l[t.length]?) hbt
        rw [List.getElem?_take_of_lt (Nat.lt_succ_self _),List.reverse_cons] at h
        refine h.trans ?_
        rw [List.getElem?_append_right (Nat.le_of_eq List.length_reverse),List.length_reverse,Nat.sub_self]; rfl
      have hs:=WN hx hm
      rw [← Xd] at hs
      rw [show Nat.blt (x :: t).length i=true from ble hlt]
      exact .v 0 (k1.get 163 rfl) (.b 0 (hg) (.v 0 (k1.get 2 rfl) (.b 0 (slt hlt) (.v 1 (k1.get 117 rfl) (.v 0 (k1.get 163 rfl) (.v 1 (hs) (.b 0 (ZHS (a:=x) (b:=47)) (.done 1))))))))
    · rw [show Nat.blt (x :: t).length i=false from Bool.eq_false_iff.mpr fun q=>hlt (Nat.le_of_ble_eq_true q)]
      exact .v 0 (k1.get 163 rfl) (.b 0 (hg) (.v 0 (k1.get 2 rfl) (.b 0 (U9 hlt) (.done 2))))
theorem G0 (hb:v.length≤900) (hi:i≤v.length) (hd:v.drop i=r) (hp:(v.take i).reverse=pr) (k:Kn L (inE v c i)):∃ L',exs C inP ⟨L,H,nx,P⟩=some (.next,⟨L',H,nx,P⟩)∧Kn L' (UR v c i (bkS pr).length (Jm pr) (sg1 r)):=by
  have hm:v.length≤JB:=mx hb
  have hw:=ZCZ (C:=C) (L:=L) (H:=H) (nx:=nx) (P:=P) hm (k.get 117 rfl) i Qc hi (Nat.lt_of_le_of_lt (Nat.le_trans hi hb) (by decide))
  have hbt:=ZAq (p:=fun a=>Nat.beq a 32) hi
  rw [hp] at hw hbt
  have hpl:pr.length=i:=by rw [← hp,List.length_reverse,List.length_take_of_le hi]
  have k1:=k.put 163 (.int (bkS pr).length)
  have h1:exs C [.asg 163 (.loc 2),.whl iW iWb] ⟨L,H,nx,P⟩=some (.next,⟨k1.lc,H,nx,P⟩):=by
    refine JC.exs' ?_
    exact .v 0 (k.get 2 rfl) (.fl 0 (hw) (.done 1))
  have h2:exs C [Xl] ⟨k1.lc,H,nx,P⟩=some (.next,⟨put k1.lc 164 (.bool (Jm pr)),H,nx,P⟩):=by
    have h:=ZBH (C:=C) (H:=H) (nx:=nx) (P:=P) hm hbt (.cons (k1.get 117 rfl) (.cons (k1.get 2 rfl) (.cons (k1.get 163 rfl) .nil)))
    rw [← hpl] at h
    exact h
  have k2:=k1.put 164 (.bool (Jm pr))
  have h3:exs C [i68] ⟨k2.lc,H,nx,P⟩=some (.next,⟨put k2.lc 68 (.str (sg1 r)),H,nx,P⟩):=by
    refine JC.exs' ?_
    cases r with
    | nil =>
      have e:i=v.length:=Wy hd hi
      subst e
      exact .v 0 (k2.get 2 rfl) (.v 0 (k2.get 3 rfl) (.b 0 (U9 (Nat.lt_irrefl v.length)) (.done 2)))
    | cons a r =>
      obtain ⟨e1,e2,e3⟩:=QX hd
      exact .v 0 (k2.get 2 rfl) (.v 0 (k2.get 3 rfl) (.b 0 (slt e3) (.v 1 (k2.get 117 rfl) (.v 0 (k2.get 2 rfl) (.v 0 (WN e1 hm) (.done 1))))))
  have k3:=k2.put 68 (.str (sg1 r))
  refine ⟨k3.lc,?_,.cons (k3.get 117 rfl) (.cons (k3.get 107 rfl) (.cons (k3.get 71 rfl) (.cons (k3.get 162 rfl) (.cons (k3.get 3 rfl) (.cons (k3.get 2 rfl) (.cons (k3.get 163 rfl) (.cons (k3.get 164 rfl) (.cons (k3.get 68 rfl) .nil))))))))⟩
  rw [show inP=[.asg 163 (.loc 2),.whl iW iWb]++([Xl]++[i68]) from rfl,Jz h1,Jz h2]; exact h3
end
end Mine
end
noncomputable section
open PySem
namespace Mine
noncomputable def i4:List MS:=[.iff iC1 iA1 [.iff iC2 iA2 [.iff iC3 [iS,.iff iC4 iX []] []]]]
theorem H5:iB=inP++i4:=rfl
noncomputable def inH (H:List (Id×Ob)) (fs ws:List (List Nat)):List (Id×Ob):=(.p 52,.list (stv ws)) :: (.p 51,.list (stv fs)) :: H
section
variable {C:Ora} {L:List (Nat×Mine.V)} {H:List (Id×Ob)} {nx i a k bk:Nat} {P v r w x pr:List Nat} {c b lt:Bool} {fs ws:List (List Nat)}
theorem WO {l l':List (List Nat)}:stv (l++l')=stv l++stv l':=List.map_append
theorem DO {l:List (List Nat)}:(stv l).length=l.length:=List.length_map _
theorem gst (h:fs.length≤100000):Nat.ble (stv fs).length JB=true:=ble (by rw [DO]; exact Nat.le_trans h (by decide))
theorem ZEd (hf:fs.length≤100000) (k:Kn L (UR v c i bk lt [])):exs C i4 ⟨L,inH H fs ws,nx,P⟩=some (.next,⟨L,inH H (fs++bif Nat.blt bk i&&!c then [bif lt then UN else UO] else []) ws,nx,P⟩):=by
  have g:=gst hf
  unfold inH
  rw [WO]
  by_cases hlt:bk < i
  · rw [show Nat.blt bk i=true from ble hlt]
    cases c with
    | true =>
      rw [show stv (bif true&&!true then [bif lt then UN else UO] else [])=[] from rfl,List.append_nil]
      refine JC.exs' ?_
      exact .v 0 (k.get 68 rfl) (.v 2 (k.get 68 rfl) (.v 2 (k.get 163 rfl) (.v 0 (k.get 2 rfl) (.b 0 (slt hlt) (.v 1 (k.get 107 rfl) (.v 2 (k.get 68 rfl) (.done 4)))))))
    | false =>
      refine JC.exs' ?_
      cases lt
      · exact .v 0 (k.get 68 rfl) (.v 2 (k.get 68 rfl) (.v 2 (k.get 163 rfl) (.v 0 (k.get 2 rfl) (.b 0 (slt hlt) (.v 1 (k.get 107 rfl) (.v 2 (k.get 71 rfl) (.v 1 (k.get 164 rfl) (.g 2 (g) (.done 2)))))))))
      · exact .v 0 (k.get 68 rfl) (.v 2 (k.get 68 rfl) (.v 2 (k.get 163 rfl) (.v 0 (k.get 2 rfl) (.b 0 (slt hlt) (.v 1 (k.get 107 rfl) (.v 2 (k.get 71 rfl) (.v 1 (k.get 164 rfl) (.g 2 (g) (.done 2)))))))))
  · rw [show Nat.blt bk i=false from Bool.eq_false_iff.mpr fun q=>hlt (Nat.le_of_ble_eq_true q),show stv (bif false&&!c then [bif lt then UN else UO] else [])=[] from rfl,List.append_nil]
    refine JC.exs' ?_
    exact .v 0 (k.get 68 rfl) (.v 2 (k.get 68 rfl) (.v 2 (k.get 163 rfl) (.v 0 (k.get 2 rfl) (.b 0 (U9 hlt) (.v 2 (k.get 68 rfl) (.done 4))))))
theorem ZGf (hf:fs.length≤100000) (hi:i + 1 + r.length=v.length) (k:Kn L (UR v c i bk lt [47])):exs C i4 ⟨L,inH H fs ws,nx,P⟩=some (.next,⟨L,inH H (fs++Jw c r (.S ws)) ws,nx,P⟩):=by
  have g:=gst hf
  unfold inH
  rw [WO]
  cases r with
  | nil =>
    have hv:¬ i + 1 < v.length:=hi▸Nat.lt_irrefl _
    cases c with
    | true =>
      rw [show stv (Jw true [] (.S ws))=[] from rfl,List.append_nil]
      refine JC.exs' ?_
      exact .v 0 (k.get 68 rfl) (.v 2 (k.get 2 rfl) (.v 1 (k.get 3 rfl) (.b 0 (U9 hv) (.v 1 (k.get 107 rfl) (.done 3)))))
    | false =>
      refine JC.exs' ?_
      exact .v 0 (k.get 68 rfl) (.v 2 (k.get 2 rfl) (.v 1 (k.get 3 rfl) (.b 0 (U9 hv) (.v 1 (k.get 107 rfl) (.v 2 (k.get 71 rfl) (.g 2 (g) (.done 2)))))))
  | cons b r =>
    have hv:i + 1 < v.length:=hi▸Nat.lt_add_of_pos_right (Nat.succ_pos _)
    refine JC.exs' ?_
    exact .v 0 (k.get 68 rfl) (.v 2 (k.get 2 rfl) (.v 1 (k.get 3 rfl) (.b 0 (slt hv) (.v 1 (k.get 71 rfl) (.g 2 (g) (.done 2))))))
theorem ZGg (k:Kn L (UR v c i bk lt [32])):exs C i4 ⟨L,inH H fs ws,nx,P⟩=some (.next,⟨L,inH H fs ws,nx,P⟩):=by
  refine JC.exs' ?_
  exact .v 0 (k.get 68 rfl) (.v 2 (k.get 68 rfl) (.v 3 (k.get 68 rfl) (.v 2 (k.get 68 rfl) (.done 3))))
theorem ZGd (hf:fs.length≤100000) (k:Kn L (UR v c i bk lt [a])):exs C [iS] ⟨L,inH H fs ws,nx,P⟩=some (.next,⟨L,inH H (fs++wF lt a) ws,nx,P⟩):=by
  have g:=gst hf
  unfold inH
  rw [WO]
  by_cases h0:a=0
  · subst h0
    refine JC.exs' ?_
    exact .v 0 (k.get 68 rfl) (.v 2 (k.get 71 rfl) (.g 2 (g) (.done 2)))
  by_cases h60:a=60
  · subst h60
    refine JC.exs' ?_
    cases lt
    · exact .v 0 (k.get 68 rfl) (.v 2 (k.get 68 rfl) (.v 2 (k.get 71 rfl) (.v 1 (k.get 164 rfl) (.g 4 (g) (.done 2)))))
    · exact .v 0 (k.get 68 rfl) (.v 2 (k.get 68 rfl) (.v 2 (k.get 71 rfl) (.v 1 (k.get 164 rfl) (.g 4 (g) (.done 2)))))
  · rw [show wF lt a=[] by unfold wF; rw [Jp h0,Jp h60]; rfl,show stv []=[] from rfl,List.append_nil]
    refine JC.exs' ?_
    exact .v 0 (k.get 68 rfl) (.b 0 (neq h0) (.v 1 (k.get 68 rfl) (.b 0 (neq h60) (.done 2))))
theorem in2 {a:Nat}:some ([[32],[47]].any (·==[a]))=some (wb a):=congrArg some Il
theorem ZHk {a:Nat}:some (!([[32],[47]].any (·==[a])))=some (!(wb a)):=congrArg (fun q=>some (!q)) Il
noncomputable def IZ (L:List (Nat×Mine.V)) (H:List (Id×Ob)) (nx:Nat) (P:List Nat) (i:Nat):St:=⟨put L 77 (.int i),H,nx,P⟩
theorem ZBI (hb:v.length≤JB) (h1:JA L 117=some (.str v)):∀ (i fuel:Nat),i≤v.length→i < fuel→J0 (tst C iW2) (exs C OO) fuel (IZ L H nx P i)=some (.next,IZ L H nx P ((v.take i).reverse.dropWhile fun a=>!(wb a)).length):=by
  have l1:∀ i:Nat,JA (put L 77 (.int i)) 117=some (.str v):=fun i=>(QD ..).trans h1
  have l3:∀ i:Nat,JA (put L 77 (.int i)) 77=some (.int i):=fun i=>QD ..
  refine Kq (p:=fun a=>!(wb a)) (JC.tst' ?_) (fun i a h=>JC.tst' ?_) fun i=>?_
  · exact .v 0 (l3 0) (.done 4)
  · have hs:=WN h hb
    rw [← Xd] at hs
    exact .v 0 (l3 (i + 1)) (.b 0 (sgt i) (.v 1 (l1 (i + 1)) (.v 0 (l3 (i + 1)) (.v 1 (hs) (.b 0 (ZHk (a:=a)) (.b 0 (XK (b:=!(wb a))) (.done 1)))))))
  · show exs C OO ⟨put L 77 (.int (i + 1:Nat)),H,nx,P⟩=some (.next,⟨put L 77 (.int i),H,nx,P⟩)
    rw [show put L 77 (.int (i:Int))=put (put L 77 (.int ((i + 1:Nat):Int))) 77 (.int (((i + 1:Nat):Int) - 1)) by rw [YG,Xd]]
    refine JC.exs' ?_
    exact .v 0 (l3 (i + 1)) (.done 2)
theorem ZGe (hm:v.length≤JB) (hi:i + 1 + r.length=v.length) (hd:v.drop (i + 1)=r) (k:Kn L (UR v c i bk lt [a])):tst C iC4 ⟨L,H,nx,P⟩=some (Um r,⟨L,H,nx,P⟩):=by
  refine JC.tst' ?_
  cases r with
  | nil =>
    have e:some (((i + 1:Nat):Int)==(v.length:Int))=some true:=congrArg some (beq_iff_eq.mpr (congrArg Int.ofNat hi))
    exact .v 0 (k.get 2 rfl) (.v 1 (k.get 3 rfl) (.b 0 (e) (.done 3)))
  | cons b r =>
    obtain ⟨e1,e2,e3⟩:=QX hd
    have e:some (((i + 1:Nat):Int)==(v.length:Int))=some false:=congrArg some (beq_eq_false_iff_ne.mpr fun q=>absurd (Int.ofNat.inj q) (Nat.ne_of_lt e3))
    exact .v 0 (k.get 2 rfl) (.v 1 (k.get 3 rfl) (.b 0 (e) (.v 1 (k.get 117 rfl) (.v 0 (k.get 2 rfl) (.v 1 (WN e1 hm) (.b 0 (in2 (a:=b)) (.b 0 (XK (b:=wb b)) (.done 1))))))))
theorem DX:∀ l:List Nat,(rp l).map lowC=rp (l.map lowC)
  | []=>rfl
  | a :: l=>by
    have e:lowC (rp1 a)=rp1 (lowC a):=by
      by_cases h:a=0
      · subst h; rfl
      · have h2:lowC a≠0:=by
          unfold lowC
          exact ZI (·≠0) (fun _=>Nat.succ_ne_zero _) fun _=>h
        rw [NV h,NV h2]
    show lowC (rp1 a) :: (rp l).map lowC=rp1 (lowC a) :: rp (l.map lowC)
    rw [e,DX l]
theorem ZCX (hi:i + 1 + r.length=v.length) (hd:v.drop i=a :: r) (hp:(v.take i).reverse=pr) (ha:wb a=false) (hm:v.length≤JB):slV σ0 (.str v) (.int (pr.dropWhile fun a=>!(wb a)).length) (.int (i + 1:Nat))=some (.str ((a :: pr).takeWhile fun a=>!(wb a)).reverse):=by
  have ht:v.take (i + 1)=(a :: pr).reverse:=by
    rw [List.take_add_one,(QX hd).1,List.reverse_cons,← hp,List.reverse_reverse]; rfl
  rw [XC _ _ rfl rfl hm,← List.drop_take,ht]
  have e:(a :: pr).reverse=(pr.dropWhile fun a=>!(wb a)).reverse++((a :: pr).takeWhile fun a=>!(wb a)).reverse:=by
    rw [List.takeWhile_cons,ha]
    show (a :: pr).reverse=(pr.dropWhile fun a=>!(wb a)).reverse++(a :: pr.takeWhile fun a=>!(wb a)).reverse
    rw [List.reverse_cons,List.reverse_cons,← List.append_assoc,← List.reverse_append,List.takeWhile_append_dropWhile]
  rw [e,List.drop_left' List.length_reverse]
end
end Mine
end
noncomputable section
open PySem
namespace Mine
section
variable {C:Ora} {L:List (Nat×Mine.V)} {H:List (Id×Ob)} {nx i a k bk:Nat} {P v r w x pr:List Nat} {c b lt:Bool} {fs ws:List (List Nat)}
noncomputable def iXa:List MS:=iX.take 3
noncomputable def iXb:List MS:=iX.drop 3
theorem ZGZ (hb:v.length≤900) (hA:∀ a∈v,a < 128) (hd:v.drop i=a :: r) (hp:(v.take i).reverse=pr) (ha:wb a=false) (k:Kn L (UR v c i bk lt [a])):∃ L',exs C iXa ⟨L,H,nx,P⟩=some (.next,⟨L',H,nx,P⟩)∧Kn L' ((78,.str ((wd (a :: pr)).map lowC)) :: inE v c i):=by
  have hm:v.length≤JB:=mx hb
  obtain ⟨e1,e2,e3⟩:=QX hd
  have hi:i + 1 + r.length=v.length:=B7 e3 e2
  have hw:=ZBI (C:=C) (L:=L) (H:=H) (nx:=nx) (P:=P) hm (k.get 117 rfl) i Qc (Nat.le_of_lt e3) (Nat.lt_of_lt_of_le e3 (Nat.le_trans hb (by decide)))
  rw [hp] at hw
  have hs:=ZCX hi hd hp ha hm
  have k1:=k.put 77 (.int (pr.dropWhile fun a=>!(wb a)).length)
  have hsub:∀ y∈((a :: pr).takeWhile fun a=>!(wb a)).reverse,y∈v:=fun y hy=>by
    have h:=(List.takeWhile_prefix _).subset (List.mem_reverse.mp hy)
    rcases List.mem_cons.mp h with rfl | h
    · exact List.mem_of_getElem? e1
    · exact List.mem_of_mem_take (List.mem_reverse.mp (hp▸h))
  have hle:((a :: pr).takeWhile fun a=>!(wb a)).reverse.length≤1000:=by
    rw [List.length_reverse]
    refine Nat.le_trans (List.takeWhile_prefix _).length_le ?_
    rw [← hp,List.length_cons,List.length_reverse,List.length_take_of_le (Nat.le_of_lt e3)]
    exact Nat.le_trans e3 (Nat.le_trans hb (by decide))
  have hlo:=YJ (fun y hy=>hA y (hsub y hy)) hle
  have hrp:=ZD4 (s:=(((a :: pr).takeWhile fun a=>!(wb a)).reverse).map lowC) (by rw [List.length_map]; exact hle)
  rw [← DX] at hrp
  have k2:=k1.put 78 (.str ((wd (a :: pr)).map lowC))
  refine ⟨k2.lc,JC.exs' ?_,.cons (k2.get 78 rfl) (.cons (k2.get 117 rfl) (.cons (k2.get 107 rfl) (.cons (k2.get 71 rfl) (.cons (k2.get 162 rfl) (.cons (k2.get 3 rfl) (.cons (k2.get 2 rfl) .nil))))))⟩
  exact .v 0 (k.get 2 rfl) (.fl 0 (hw) (.v 0 (k1.get 117 rfl) (.v 0 (k1.get 77 rfl) (.v 0 (k1.get 2 rfl) (.v 1 (hs) (.v 0 (hlo) (.v 0 (hrp) (.done 1))))))))
theorem ZGc (hf:fs.length≤100000) (hi:i + 1 + r.length=v.length) (k:Kn L ((78,.str w) :: inE v c i)):exs C (iXb.take 1) ⟨L,inH H fs ws,nx,P⟩=some (.next,⟨L,inH H (fs++bif r.isEmpty&&!c then [QU] else []) ws,nx,P⟩):=by
  have g:=gst hf
  unfold inH
  rw [WO]
  refine JC.exs' ?_
  cases r with
  | nil =>
    have e:some (((i + 1:Nat):Int)==(v.length:Int))=some true:=congrArg some (beq_iff_eq.mpr (congrArg Int.ofNat hi))
    cases c with
    | true =>
      rw [show stv (bif ([]:List Nat).isEmpty&&!true then [QU] else [])=[] from rfl,List.append_nil]
      exact .v 0 (k.get 2 rfl) (.v 1 (k.get 3 rfl) (.b 0 (e) (.v 1 (k.get 107 rfl) (.done 3))))
    | false=>exact .v 0 (k.get 2 rfl) (.v 1 (k.get 3 rfl) (.b 0 (e) (.v 1 (k.get 107 rfl) (.v 2 (k.get 71 rfl) (.g 2 (g) (.done 2))))))
  | cons b r =>
    have e:some (((i + 1:Nat):Int)==(v.length:Int))=some false:=congrArg some (beq_eq_false_iff_ne.mpr fun q=>absurd (Int.ofNat.inj q) (Nat.ne_of_lt (hi▸Nat.lt_add_of_pos_right (Nat.succ_pos _))))
    rw [show stv (bif (b :: r).isEmpty&&!c then [QU] else [])=[] from rfl,List.append_nil]
    exact .v 0 (k.get 2 rfl) (.v 1 (k.get 3 rfl) (.b 0 (e) (.done 3)))
theorem BB:∀ l:List (List Nat),WW (stv l)=some (l.map some)
  | []=>rfl
  | a :: l=>by
    show bo (WW (stv l)) _=_
    rw [BB l]; rfl
theorem any_some:∀ l:List (List Nat),(l.map some).any (·==some w)=l.any (w==·)
  | []=>rfl
  | a :: l=>by
    show ((some a==some w)||(l.map some).any (·==some w))=((w==a)||l.any (w==·))
    rw [any_some l]
    refine congrArg (·||_) ?_
    by_cases h:w=a
    · subst h; rw [beq_self_eq_true,beq_self_eq_true]
    · rw [beq_eq_false_iff_ne.mpr h,beq_eq_false_iff_ne.mpr fun q=>h (Option.some.inj q).symm]
theorem ZEb:Wr ⟨L,inH H fs ws,nx,P⟩ .inn (.str w) (.obj (.p 52))=some (ws.any (w==·)):=by
  show bo (WW (stv ws)) (fun ys=>some (ys.any (·==some w)))=_
  rw [BB]
  exact congrArg some (any_some ws)
theorem ZGb (hf:fs.length≤100000) (k:Kn L ((78,.str w) :: inE v c i)):exs C (iXb.drop 1 |>.take 1) ⟨L,inH H fs ws,nx,P⟩=some (.next,⟨L,inH H (fs++bif ws.any (w==·) then [QH] else []) ws,nx,P⟩):=by
  have g:=gst hf
  have hi:=ZEb (L:=L) (H:=H) (nx:=nx) (P:=P) (fs:=fs) (ws:=ws) (w:=w)
  unfold inH at hi ⊢
  rw [WO]
  refine JC.exs' ?_
  cases e:ws.any (w==·) with
  | true =>
    rw [e] at hi
    exact .v 0 (k.get 78 rfl) (.v 0 (k.get 162 rfl) (.b 0 (hi) (.v 1 (k.get 71 rfl) (.g 2 (g) (.done 2)))))
  | false =>
    rw [e] at hi
    rw [show stv (bif false then [QH] else [])=[] from rfl,List.append_nil]
    exact .v 0 (k.get 78 rfl) (.v 0 (k.get 162 rfl) (.b 0 (hi) (.done 2)))
theorem ZGa (hn:ws.length≤100000) (k:Kn L ((78,.str w) :: inE v c i)):exs C (iXb.drop 2) ⟨L,inH H fs ws,nx,P⟩=some (.next,⟨L,inH H fs (ws++[w]),nx,P⟩):=by
  have g:=gst hn
  unfold inH
  rw [WO]
  refine JC.exs' ?_
  exact .v 0 (k.get 162 rfl) (.v 1 (k.get 78 rfl) (.g 1 (g) (.done 2)))
theorem DQ:(stF c a r pr ws).1.length≤4∧(stF c a r pr ws).2.length≤ws.length + 1:=by
  have p4:∀ {q:TQ},(Jw c r q).length≤2:=fun {q}=>by
    cases q with
    | A b l=>exact Nat.zero_le _
    | S l =>
      show (bif r.isEmpty then bif c then [] else [Wd] else [UM]).length≤2
      cases r.isEmpty <;> cases c <;> exact Nat.le_of_ble_eq_true rfl
    | N l w =>
      show (bif Um r then (bif r.isEmpty&&!c then [QU] else [])++(bif l.any (w.map lowC==·) then [QH] else []) else []).length≤2
      cases Um r <;> cases (r.isEmpty&&!c) <;> cases l.any (w.map lowC==·) <;> exact Nat.le_of_ble_eq_true rfl
  have w1:(wF (Jm pr) a).length≤1:=by
    unfold wF
    cases Nat.beq a 60 <;> cases Nat.beq a 0 <;> exact Nat.le_of_ble_eq_true rfl
  unfold stF
  cases Nat.beq a 47 with
  | true=>exact ⟨Nat.le_trans (p4 (q:=.S ws)) (show 2≤4 by decide),Nat.le_succ _⟩
  | false =>
    cases Nat.beq a 32 with
    | true=>exact ⟨Nat.zero_le _,Nat.le_succ _⟩
    | false =>
      refine ⟨?_,?_⟩
      · show (wF (Jm pr) a++Jw c r (.N ws (wd (a :: pr)))).length≤4
        rw [List.length_append]
        exact Nat.le_trans (Nat.add_le_add w1 p4) (by decide)
      · show (wsN r ws (wd (a :: pr))).length≤_
        unfold wsN
        cases Um r
        · exact Nat.le_succ _
        · exact Nat.le_of_eq List.length_append
theorem ZBG (hb:v.length≤900) (hA:∀ a∈v,a < 128) (hd:v.drop i=a :: r) (hp:(v.take i).reverse=pr) (hf:fs.length≤90000) (hn:ws.length≤90000) (k:Kn L (inE v c i)):∃ L',exs C iB ⟨L,inH H fs ws,nx,P⟩=some (.next,⟨L',inH H (fs++(stF c a r pr ws).1) (stF c a r pr ws).2,nx,P⟩)∧Kn L' (inE v c i):=by
  obtain ⟨e1,e2,e3⟩:=QX hd
  have hi:i + 1 + r.length=v.length:=B7 e3 e2
  obtain ⟨L1,h1,k1⟩:=G0 (C:=C) (L:=L) (H:=inH H fs ws) (nx:=nx) (P:=P) hb (Nat.le_of_lt e3) hd hp k
  have k1:Kn L1 (UR v c i (bkS pr).length (Jm pr) [a]):=k1
  have kk:Kn L1 (inE v c i):=.cons (k1.get 117 rfl) (.cons (k1.get 107 rfl) (.cons (k1.get 71 rfl) (.cons (k1.get 162 rfl) (.cons (k1.get 3 rfl) (.cons (k1.get 2 rfl) .nil)))))
  have hf1:fs.length≤100000:=Nat.le_trans hf (by decide)
  rw [H5,Jz h1]
  by_cases h47:a=47
  · subst h47
    exact ⟨L1,ZGf hf1 hi k1,kk⟩
  by_cases h32:a=32
  · subst h32
    refine ⟨L1,?_,kk⟩
    rw [show (stF c 32 r pr ws).1=[] from rfl,List.append_nil]
    exact ZGg k1
  have ha:=NO h32 h47
  rw [NR h32 h47]
  have hi4:exs C i4 ⟨L1,inH H fs ws,nx,P⟩=exs C [iS,.iff iC4 iX []] ⟨L1,inH H fs ws,nx,P⟩:=by
    have t1:tst C iC1 ⟨L1,inH H fs ws,nx,P⟩=some (false,⟨L1,inH H fs ws,nx,P⟩):=by
      refine JC.tst' ?_
      exact .v 0 (k1.get 68 rfl) (.b 0 (neq h47) (.done 2))
    have t2:tst C iC2 ⟨L1,inH H fs ws,nx,P⟩=some (false,⟨L1,inH H fs ws,nx,P⟩):=by
      refine JC.tst' ?_
      exact .v 0 (k1.get 68 rfl) (.done 4)
    have t3:tst C iC3 ⟨L1,inH H fs ws,nx,P⟩=some (true,⟨L1,inH H fs ws,nx,P⟩):=by
      have hn:some (!(([a]:List Nat)==[32]))=some true:=congrArg (fun q=>some (!q)) (beq_eq_false_iff_ne.mpr fun e=>h32 (List.cons.inj e).1)
      refine JC.tst' ?_
      exact .v 0 (k1.get 68 rfl) (.v 2 (k1.get 68 rfl) (.b 0 (hn) (.done 2)))
    unfold i4
    rw [WL t1]
    refine (WL t2).trans ?_
    exact (W3 t3)
  rw [hi4,show [iS,.iff iC4 iX []]=[iS]++[.iff iC4 iX []] from rfl,Jz (ZGd hf1 k1)]
  have hfw:(fs++wF (Jm pr) a).length≤90001:=by
    rw [List.length_append]
    refine Nat.add_le_add (b:=90000) (d:=1) hf ?_
    unfold wF
    cases Nat.beq a 60 <;> cases Nat.beq a 0 <;> exact Nat.le_of_ble_eq_true rfl
  have t4:=fun H=>ZGe (C:=C) (H:=H) (nx:=nx) (P:=P) (mx hb) hi e2 k1
  rw [← List.append_assoc]
  cases hw:Um r with
  | false =>
    rw [hw] at t4
    refine ⟨L1,?_,kk⟩
    rw [show Jw c r (.N ws (wd (a :: pr)))=[] by unfold Jw; rw [hw]; rfl,show wsN r ws (wd (a :: pr))=ws by unfold wsN; rw [hw]; rfl,List.append_nil]
    exact WL (t4 _)
  | true =>
    rw [hw] at t4
    obtain ⟨L2,h2,k2⟩:=ZGZ (C:=C) (H:=inH H (fs++wF (Jm pr) a) ws) (nx:=nx) (P:=P) hb hA hd hp ha k1
    refine ⟨L2,?_,.cons (k2.get 117 rfl) (.cons (k2.get 107 rfl) (.cons (k2.get 71 rfl) (.cons (k2.get 162 rfl) (.cons (k2.get 3 rfl) (.cons (k2.get 2 rfl) .nil)))))⟩
    rw [show Jw c r (.N ws (wd (a :: pr)))=(bif r.isEmpty&&!c then [QU] else [])++dpF ws (wd (a :: pr)) by unfold Jw; rw [hw]; rfl,show wsN r ws (wd (a :: pr))=ws++[(wd (a :: pr)).map lowC] by unfold wsN; rw [hw]; rfl,← List.append_assoc]
    have hfx:(fs++wF (Jm pr) a++bif r.isEmpty&&!c then [QU] else []).length≤100000:=by
      rw [List.length_append]
      refine Nat.le_trans (Nat.add_le_add (b:=90001) (d:=1) hfw ?_) (by decide)
      cases (r.isEmpty&&!c) <;> exact Nat.le_of_ble_eq_true rfl
    refine (W3 (t4 _)).trans ?_
    rw [show iX++[]=iXa++(iXb.take 1++((iXb.drop 1 |>.take 1)++iXb.drop 2)) from rfl,Jz h2,Jz (ZGc (Nat.le_trans hfw (by decide)) hi k2),Jz (ZGb hfx k2)]
    exact ZGa (Nat.le_trans hn (by decide)) k2
end
end Mine
end
noncomputable section
open PySem
namespace Mine
section
variable {C:Ora} {L:List (Nat×Mine.V)} {H:List (Id×Ob)} {nx i a k bk:Nat} {P v r w x pr:List Nat} {c b lt:Bool} {fs ws:List (List Nat)}
noncomputable def inL (C:Ora):List Mine.V→St→Option (FL×St):=QA (fun v σ=>some (σ.setLoc 2 v)) (exs C iB)
theorem ZF1 {p k:Nat}:plc p (k + 1)=.int (p:Int) :: plc (p + 1) k:=rfl
theorem D0 (hb:v.length≤900) (hA:∀ a∈v,a < 128):∀ (r pr:List Nat) (i:Nat) (fs ws:List (List Nat)) (L:List (Nat×Mine.V)),v.drop i=r→i≤v.length→(v.take i).reverse=pr→fs.length + 4 * r.length≤90000→ws.length + r.length≤90000→Kn L [(117,.str v),(107,.bool c),(71,.obj (.p 51)),(162,.obj (.p 52)),(3,.int v.length)] →
    ∃ L',inL C (plc i (r.length + 1)) ⟨L,inH H fs ws,nx,P⟩=some (.next,⟨L',inH H (fs++(inF c r pr ws).1) (inF c r pr ws).2,nx,P⟩)∧JA L' 71=some (.obj (.p 51))∧JA L' 162=some (.obj (.p 52))
  | [],pr,i,fs,ws,L,hd,hi,hp,hf,hw,k=>by
    have k1:=k.put 2 (.int i)
    have k1:Kn (put L 2 (.int i)) (inE v c i):=.cons (k1.get 117 rfl) (.cons (k1.get 107 rfl) (.cons (k1.get 71 rfl) (.cons (k1.get 162 rfl) (.cons (k1.get 3 rfl) (.cons (k1.get 2 rfl) .nil)))))
    obtain ⟨L1,h1,k2⟩:=G0 (C:=C) (H:=inH H fs ws) (nx:=nx) (P:=P) hb hi hd hp k1
    have k2:Kn L1 (UR v c i (bkS pr).length (Jm pr) []):=k2
    have h2:=ZEd (C:=C) (H:=H) (nx:=nx) (P:=P) (ws:=ws) (Nat.le_trans (Nat.le_trans (Nat.le_add_right _ _) hf) (by decide)) k2
    have hpl:pr.length=i:=by rw [← hp,List.length_reverse,List.length_take_of_le hi]
    rw [← hpl] at h2
    refine ⟨L1,?_,k2.get 71 rfl,k2.get 162 rfl⟩
    show bn (exs C iB ⟨put L 2 (.int i),inH H fs ws,nx,P⟩) _=_
    rw [H5,Jz h1,h2]; rfl
  | a :: r,pr,i,fs,ws,L,hd,hi,hp,hf,hw,k=>by
    obtain ⟨e1,e2,e3⟩:=QX hd
    have k1:=k.put 2 (.int i)
    have k1:Kn (put L 2 (.int i)) (inE v c i):=.cons (k1.get 117 rfl) (.cons (k1.get 107 rfl) (.cons (k1.get 71 rfl) (.cons (k1.get 162 rfl) (.cons (k1.get 3 rfl) (.cons (k1.get 2 rfl) .nil)))))
    obtain ⟨L1,h1,k2⟩:=ZBG (C:=C) (H:=H) (nx:=nx) (P:=P) hb hA hd hp (Nat.le_trans (Nat.le_add_right _ _) hf) (Nat.le_trans (Nat.le_add_right _ _) hw) k1
    obtain ⟨s1,s2⟩:=DQ (c:=c) (a:=a) (r:=r) (pr:=pr) (ws:=ws)
    have hp':(v.take (i + 1)).reverse=a :: pr:=by rw [List.take_add_one,e1,← hp]; exact List.reverse_append
    obtain ⟨L2,h2,h3⟩:=D0 hb hA r (a :: pr) (i + 1) (fs++(stF c a r pr ws).1) (stF c a r pr ws).2 L1 e2 e3 hp' (by
        rw [List.length_append,Nat.add_assoc]
        refine Nat.le_trans (Nat.add_le_add_left ?_ _) hf
        rw [List.length_cons,Nat.mul_succ,Nat.add_comm]
        exact Nat.add_le_add_left s1 _) (by
        refine Nat.le_trans (Nat.add_le_add_right s2 _) ?_
        rw [Nat.add_assoc,Nat.add_comm 1]; exact hw)
      (.cons (k2.get 117 rfl) (.cons (k2.get 107 rfl) (.cons (k2.get 71 rfl) (.cons (k2.get 162 rfl) (.cons (k2.get 3 rfl) .nil)))))
    refine ⟨L2,?_,h3⟩
    rw [List.length_cons,ZF1]
    show bn (exs C iB ⟨put L 2 (.int i),inH H fs ws,nx,P⟩) _=_
    rw [h1]
    refine h2.trans ?_
    rw [List.append_assoc]; rfl
theorem WV {j:Id}:∀ l:List (List Nat),V.nos j (stv l)=true
  | []=>rfl
  | _ :: l=>WV l
theorem ZCm {it:ME} {bd:List MS} {y:Nat} {σ:St} (he:ev C it σ=some (.rng 0 (k:Int),σ)) (hk:k≤1000):exc C (.for y it bd) σ=QA (fun v σ=>some (σ.setLoc y v)) (exs C bd) (plc 0 k) σ:=by
  show bn (ev C it σ) _=_
  rw [he]
  show bo (gd (Qi 0&&Qi (k:Int)) (some ((List.range ((k:Int) - 0).toNat).map fun (i:Nat)=>Mine.V.int (0 + (i:Int))))) _=_
  rw [DS hk,Gf]; rfl
noncomputable def CIn (C:Ora):Ora:=Xm 51 (Xm 52 (We tT C))
theorem ZAj (h1:Cln 51 L H P) (h2:Cln 52 L H P) (hb:v.length≤900) (hA:∀ a∈v,a < 128):CIn C 72 [.str v,.bool c] ⟨L,H,nx,P⟩=some (.tup [.list (stv (inF c v [] []).1),.list (stv (inF c v [] []).2)],⟨L,H,nx,P⟩):=by
  obtain ⟨L',e,g1,g2⟩:=D0 (C:=C) (H:=H) (nx:=nx) (P:=52 :: 51 :: P) (c:=c) hb hA v [] 0 [] [] [(117,.str v),(107,.bool c),(71,.obj (.p 51)),(162,.obj (.p 52)),(3,.int v.length)] rfl (Nat.zero_le _) rfl (by
    rw [List.length_nil,Nat.zero_add]; exact Nat.le_trans (Nat.mul_le_mul_left 4 hb) (by decide)) (by
    rw [List.length_nil,Nat.zero_add]; exact Nat.le_trans hb (by decide)) (fun _ _ h=>h)
  have hb2:exs C Wv.body ⟨[(117,.str v),(107,.bool c)],H,nx,P⟩=some (.ret (.tup [.obj (.p 51),.obj (.p 52)]),⟨L',inH H (inF c v [] []).1 (inF c v [] []).2,nx,52 :: 51 :: P⟩):=by
    have a1:=Zz (L:=[(117,.str v),(107,.bool c)]) (H:=H) (nx:=nx) (o:=.list []) h1.p
    have a2:=Zz (k:=52) (P:=51 :: P) (L:=[(117,.str v),(107,.bool c),(71,.obj (.p 51))]) (H:=(.p 51,.list []) :: H) (nx:=nx) (o:=.list []) (fun q=>(List.mem_cons.mp q).elim (by decide) h2.p)
    have he:ev C (.bi .range [(.bop .add (.loc 3) (.k (.int 1)))]) ⟨[(117,.str v),(107,.bool c),(71,.obj (.p 51)),(162,.obj (.p 52)),(3,.int v.length)],inH H [] [],nx,52 :: 51 :: P⟩=some (.rng 0 ((v.length + 1:Nat):Int),⟨[(117,.str v),(107,.bool c),(71,.obj (.p 51)),(162,.obj (.p 52)),(3,.int v.length)],inH H [] [],nx,52 :: 51 :: P⟩):=by
      refine JC.ev ?_
      exact .done 3
    have h0:exs C [.asg 71 (.lst [] (.per 51)),.asg 162 (.lst [] (.per 52)),.asg 3 (.bi .len [(.loc 117)])] ⟨[(117,.str v),(107,.bool c)],H,nx,P⟩=some (.next,⟨[(117,.str v),(107,.bool c),(71,.obj (.p 51)),(162,.obj (.p 52)),(3,.int v.length)],inH H [] [],nx,52 :: 51 :: P⟩):=by
      refine JC.exs ?_
      exact .c 0 (a1) (.c 0 (a2) (.v 0 (Qe (mx hb)) (.done 1)))
    have h3:exs C [.ret (.tup [(.loc 71),(.loc 162)])] ⟨L',inH H (inF c v [] []).1 (inF c v [] []).2,nx,52 :: 51 :: P⟩=some (.ret (.tup [.obj (.p 51),.obj (.p 52)]),⟨L',inH H (inF c v [] []).1 (inF c v [] []).2,nx,52 :: 51 :: P⟩):=by
      refine JC.exs' ?_
      exact .v 0 (g1) (.v 0 (g2) (.done 1))
    rw [ZAk]
    refine (Jz (s:=[.asg 71 (.lst [] (.per 51)),.asg 162 (.lst [] (.per 52)),.asg 3 (.bi .len [(.loc 117)])]) h0).trans ((ZCk ((ZCm he (Nat.le_trans (Nat.succ_le_succ hb) (by decide:901≤1000))).trans e)).trans h3)
  show gd (decide (51 ∉ P)) (bn (gd (decide (52 ∉ P)) (bn (Qu C Wv [.str v,.bool c] ⟨L,H,nx,P⟩) (Q7 52))) (Q7 51))=_
  rw [decide_eq_true h1.p,decide_eq_true h2.p,cB (m:=Wv) (as:=[.str v,.bool c]) rfl hb2]
  have hh:∀ w,Qo (.p 52) w ((.p 51,.list (stv (inF c v [] []).1)) :: H)=(.p 51,.list (stv (inF c v [] []).1)) :: H:=fun w=>by
    show (Id.p 51,Ob.list (V.sbs (.p 52) w (stv (inF c v [] []).1))) :: Qo (.p 52) w H=_
    rw [V.sbs_no _ (WV _),h2.h]
  show bn (Q7 52 _ ⟨L,(.p 52,.list (stv (inF c v [] []).2)) :: (.p 51,.list (stv (inF c v [] []).1)) :: H,nx,52 :: 51 :: P⟩) (Q7 51)=_
  rw [Nj ⟨h2.l,hh,h2.o,fun q=>(List.mem_cons.mp q).elim (by decide) h2.p⟩ (WV _)]
  show Q7 51 (.tup [.obj (.p 51),.list (stv (inF c v [] []).2)]) ⟨L,(.p 51,.list (stv (inF c v [] []).1)) :: H,nx,51 :: P⟩=_
  rw [Nj h1 (WV _)]
  show some (Mine.V.tup [.list (stv (inF c v [] []).1),.list (V.sbs (.p 51) _ (stv (inF c v [] []).2))],_)=_
  rw [V.sbs_no _ (WV _)]
end
end Mine
end
noncomputable section
open PySem
namespace Mine
noncomputable def C3:Ora:=JI tT 3
noncomputable def CL:Ora:=ZA 71 (Xm 50 (We tT C3)) (ZA 72 (CIn C3) (JI tT 8))
noncomputable def L0:MS:=.asg 175 (.bi .sum [(.comp (.bop .fdiv (.loc 84) (.k (.int 16))) 84 (.sl (.loc 80) (.k .none) (.k (.int 20))) (.k (.bool true)))])
noncomputable def L1:MS:=.asg 66 (.sub (.call 69 []) (.bop .mod (.loc 175) (.k (.int 4))))
noncomputable def L2:MS:=.asgT [172,173,174] (.sub (.call 70 []) (.bop .mod (.bop .fdiv (.loc 175) (.k (.int 4))) (.k (.int 5))))
noncomputable def pcE:ME:=.sub (.glob W6) (.bop .mod (.loc 84) (.k (.int 16)))
noncomputable def L3:MS:=.asg 1 (.sm .join (.k (.str [])) [(.comp pcE 84 (.sl (.loc 80) (.k .none) (.k (.int 20))) (.k (.bool true)))])
noncomputable def drE:ME:=.bop .fdiv (.loc 84) (.k (.int 16))
noncomputable def pn (k:Nat):List Nat:=match W6 with
  | .list l=>(match l[k]? with
    | some (.str s)=>s
    | _=>[])
  | _=>[]
noncomputable def pk (i:Int):List Nat:=pn (i % 16).toNat
noncomputable def t0 (ns:List Int):List Nat:=J8 [] ((ns.take 20).map pk)
noncomputable def dr (ns:List Int):Int:=((ns.take 20).map (· / 16)).sum
noncomputable def tlN (k:Nat):List Nat×List Nat×List Nat:=match k with
  | 0=>([],[],[])
  | 1=>([97],[],[97])
  | 2=>([32,97],[],[32,97])
  | 3=>([0],QT,[0])
  | _=>([38,108,116,59],[],[60])
noncomputable def nmN (k:Nat):Option (List Nat):=match k with
  | 0=>some [115,116,121,108,101]
  | 1=>some [88,109,112]
  | 2=>some [120,45,121]
  | _=>none
section
variable {C:Ora} {L:List (Nat×Mine.V)} {H:List (Id×Ob)} {nx:Nat} {P:List Nat} {ns:List Int} {v:Mine.V} {d:Int} {k:Nat}
theorem Ud {m:Nat} (h:0 < m) (i:Int):(i % (m:Int)).toNat∈List.range m:=List.mem_range.mpr ((Int.toNat_lt (Int.emod_nonneg i (Int.ofNat_ne_zero.mpr (Nat.ne_of_gt h)))).mpr (Int.emod_lt_of_pos i (Int.ofNat_lt.mpr h)))
theorem KS {m:Nat} (h:0 < m) (i:Int):i % (m:Int)=((i % (m:Int)).toNat:Int):=(Int.toNat_of_nonneg (Int.emod_nonneg i (Int.ofNat_ne_zero.mpr (Nat.ne_of_gt h)))).symm
theorem ZDe:∀ k∈List.range 16,QR σ0 W6 (.int (k:Nat))=some (.str (pn k)):=JG (by kernel_rfl)
theorem T9 (i:Int):QR σ0 W6 (.int (i % 16))=some (.str (pk i)):=by
  have h:=ZDe _ (Ud (m:=16) (by decide) i)
  rw [← KS (m:=16) (by decide)] at h
  exact h
theorem He:∀ k∈List.range 16,(Nat.ble (pn k).length 8&&(pn k).all fun a=>al.any (·==a))=true:=JG (by kernel_rfl)
theorem B3 {n:Nat}:∀ {l:List (List Nat)},(∀ x∈l,x.length≤n)→l.flatten.length≤n * l.length
  | [],_=>Nat.zero_le _
  | x :: l,h=>by
    rw [List.flatten_cons,List.length_append,List.length_cons,Nat.mul_succ,Nat.add_comm]
    exact Nat.add_le_add (B3 fun y hy=>h y (.tail _ hy)) (h x (.head _))
theorem XA (ns:List Int):(t0 ns).length≤160:=by
  unfold t0
  rw [WI]
  refine Nat.le_trans (B3 (n:=8) fun x hx=>?_) (Nat.mul_le_mul_left 8 (m:=20) ?_)
  · obtain ⟨i,_,rfl⟩:=List.mem_map.mp hx
    exact bA (He _ (Ud (m:=16) (by decide) i)) fun h _=>Nat.le_of_ble_eq_true h
  · rw [List.length_map,List.length_take]; exact Nat.min_le_left _ _
theorem Y7 (ns:List Int):∀ a∈t0 ns,a∈al:=fun a h=>by
  unfold t0 at h
  rw [WI] at h
  obtain ⟨x,hx,ha⟩:=List.mem_flatten.mp h
  obtain ⟨i,_,rfl⟩:=List.mem_map.mp hx
  exact bA (He _ (Ud (m:=16) (by decide) i)) fun _ h=>QJ (List.all_eq_true.mp h a ha)
theorem Gk:∀ l:List Int,Jv (Ji (ev C pcE) (ev C (.k (.bool true))) 84 L) (l.map .int) ⟨L,[],0,[]⟩=some ((l.map pk).map .str,⟨L,[],0,[]⟩)
  | []=>rfl
  | i :: l=>by
    have h:ev C pcE ⟨(84,.int i) :: L,[],0,[]⟩=some (.str (pk i),⟨(84,.int i) :: L,[],0,[]⟩):=by
      refine JC.ev ?_
      exact .v 1 (T9 i) (.done 1)
    show bn (bn (ev C pcE ⟨(84,.int i) :: L,[],0,[]⟩) _) _=_
    rw [h]
    show bn (Jv _ (l.map .int) ⟨L,[],0,[]⟩) _=_
    rw [Gk l]; rfl
theorem IB:∀ l:List Int,Jv (Ji (ev C drE) (ev C (.k (.bool true))) 84 L) (l.map .int) ⟨L,[],0,[]⟩=some ((l.map (· / 16)).map .int,⟨L,[],0,[]⟩)
  | []=>rfl
  | i :: l=>by
    have h:Ji (ev C drE) (ev C (.k (.bool true))) 84 L (.int i) ⟨L,[],0,[]⟩=some (some (.int (i / 16)),⟨L,[],0,[]⟩):=by kernel_rfl
    show bn (Ji (ev C drE) (ev C (.k (.bool true))) 84 L (.int i) ⟨L,[],0,[]⟩) _=_
    rw [h]
    show bn (Jv _ (l.map .int) ⟨L,[],0,[]⟩) _=_
    rw [IB l]; rfl
theorem IQ {l:List Mine.V} (h:l.length≤JB):slV σ0 (.list l) .none (.int 20)=some (.list (l.take 20)):=by
  show gd (Nat.ble l.length JB) (some (Mine.V.list (l.take (clampIx l.length (20:Nat)))))=_
  rw [ble h,Wz,Z1]; rfl
theorem Gw:∀ l:List Int,Ub (l.map .int)=some l
  | []=>rfl
  | i :: l=>by
    show bo (Ub (l.map .int)) _=_
    rw [Gw l]; rfl
theorem ZDd {l:List Int} {σ:St}:biV σ .sum [.list (l.map .int)]=some (.int l.sum):=by
  show bo (Ub (l.map .int)) _=_
  rw [Gw]; rfl
theorem ZEW (hn:ns.length≤1000):exc C L0 ⟨[(80,.list (ns.map .int))],[],0,[]⟩=some (.next,⟨[(80,.list (ns.map .int)),(175,.int (dr ns))],[],0,[]⟩):=by
  have hm:(ns.map Mine.V.int).length≤JB:=by rw [List.length_map]; exact Nat.le_trans hn (by decide)
  have hs:=IQ hm
  rw [← List.map_take] at hs
  have hl:Nat.ble ((ns.take 20).map Mine.V.int).length JB=true:=ble (by rw [List.length_map,List.length_take]; exact Nat.le_trans (Nat.min_le_left _ _) (by decide))
  have hd:=IB (C:=C) (L:=[(80,.list (ns.map .int))]) (ns.take 20)
  have hsum:=ZDd (σ:=σ0) (l:=(ns.take 20).map (· / 16))
  refine JC.exc' ?_
  exact .v 0 (hs) (.g 1 (hl) (.l 0 (hd) (.v 0 (hsum) (.done 1))))
theorem ZEV:exc CL L1 ⟨[(80,v),(175,.int d)],[],0,[]⟩=some (.next,⟨[(80,v),(175,.int d),(66,nmV (nmN (d % 4).toNat))],[],0,[]⟩):=by
  have h:∀ k∈List.range 4,QR σ0 (.list [.str [115,116,121,108,101],.str [88,109,112],.str [120,45,121],.none]) (.int (k:Nat))=some (nmV (nmN k)):=JG (by kernel_rfl)
  have h:=h _ (Ud (m:=4) (by decide) d)
  rw [← KS (m:=4) (by decide)] at h
  refine JC.exc' ?_
  exact .v 2 (h) (.done 1)
noncomputable def tlV (k:Nat):Mine.V:=.tup [.str (tlN k).1,.str (tlN k).2.1,.str (tlN k).2.2]
noncomputable def ktl (d:Int):Nat:=(d / 4 % 5).toNat
theorem ZEU:exc CL L2 ⟨[(80,v),(175,.int d),(66,u)],[],0,[]⟩=some (.next,⟨[(80,v),(175,.int d),(66,u),(172,.str (tlN (ktl d)).1),(173,.str (tlN (ktl d)).2.1),(174,.str (tlN (ktl d)).2.2)],[],0,[]⟩):=by
  have h:∀ k∈List.range 5,QR σ0 (.list [tlV 0,tlV 1,tlV 2,tlV 3,tlV 4]) (.int (k:Nat))=some (tlV k):=JG (by kernel_rfl)
  have h:=h _ (Ud (m:=5) (by decide) (d / 4))
  rw [← KS (m:=5) (by decide)] at h
  refine JC.exc' ?_
  exact .v 3 (h) (.done 1)
noncomputable def lE3 (ns:List Int) (d:Int):List (Nat×Mine.V):=[(80,.list (ns.map .int)),(175,.int d),(66,nmV (nmN (d % 4).toNat)),(172,.str (tlN (ktl d)).1),(173,.str (tlN (ktl d)).2.1),(174,.str (tlN (ktl d)).2.2)]
theorem ZET (hn:ns.length≤1000):exc C L3 ⟨lE3 ns d,[],0,[]⟩=some (.next,⟨lE3 ns d++[(1,.str (t0 ns))],[],0,[]⟩):=by
  have hm:(ns.map Mine.V.int).length≤JB:=by rw [List.length_map]; exact Nat.le_trans hn (by decide)
  have hs:=IQ hm
  rw [← List.map_take] at hs
  have hl:Nat.ble ((ns.take 20).map Mine.V.int).length JB=true:=ble (by rw [List.length_map,List.length_take]; exact Nat.le_trans (Nat.min_le_left _ _) (by decide))
  have hp:=Gk (C:=C) (L:=lE3 ns d) (ns.take 20)
  have hj:=Dv (l:=(ns.take 20).map pk) (Nat.le_trans (XA ns) (by decide))
  refine JC.exc' ?_
  exact .v 0 (hs) (.g 1 (hl) (.l 0 (hp) (.v 0 (hj) (.done 1))))
theorem NP (d:Int):(tlN (ktl d)).1∈J2:=by
  have h:∀ k∈List.range 5,J2.any (·==(tlN k).1)=true:=JG (by kernel_rfl)
  exact QJ (h _ (Ud (m:=5) (by decide) (d / 4)))
end
end Mine
end
noncomputable section
open PySem
namespace Mine
noncomputable def L4:MS:=.asg 37 (.call 73 [(.loc 1),(.loc 66)])
noncomputable def L5:MS:=.asg 72 (.lst [] (.per 53))
noncomputable def sgB:List MS:=[.iff (.cmp .eq (.loc 68) (.k (.str [0]))) [.augN 72 .add (.lst [(.call 28 [(.k (.str [105,110,118,97,108,105,100,45,99,111,100,101,112,111,105,110,116]))]),(.call 67 [(.k (.str [65533]))])] .frz)] [.ex (.app (.loc 72) (.call 67 [(.loc 68)]))]]
noncomputable def L6:MS:=.for 68 (.sl (.loc 1) (.k .none) (.loc 37)) sgB
noncomputable def NoQ (L:List (Nat×Mine.V)):Prop:=∀ k w,k≠53→J5 (.p k) w L=L
theorem B1 {i:Id} {w v:Mine.V} {n:Nat} (hv:V.no i v=true):∀ {L:List (Nat×Mine.V)},J5 i w L=L→J5 i w (put L n v)=put L n v
  | [],_=>congrArg (fun v=>[(n,v)]) (V.sb_no v hv)
  | (m,u) :: L,h=>by
    have h1:=(Prod.mk.inj (List.cons.inj h).1).2
    have h2:=(List.cons.inj h).2
    show J5 i w (if m=n then (m,v) :: L else (m,u) :: put L n v)=if m=n then (m,v) :: L else (m,u) :: put L n v
    by_cases e:m=n
    · rw [if_pos e]
      show (m,V.sb i w v) :: J5 i w L=_
      rw [V.sb_no v hv,h2]
    · rw [if_neg e]
      show (m,V.sb i w u) :: J5 i w (put L n v)=_
      rw [h1,B1 hv h2]
theorem NoQ.put {L:List (Nat×Mine.V)} (N:NoQ L) (n:Nat) {v:Mine.V} (h:∀ k,k≠53→V.no (.p k) v=true):NoQ (put L n v):=fun k w hk=>B1 (h k hk) (N k w hk)
noncomputable abbrev hD (D:List Tok4):List (Id×Ob):=[(.p 53,.list (vs D))]
section
variable {C:Ora} {L E:List (Nat×Mine.V)} {H:List (Id×Ob)} {nx:Nat} {P:List Nat} {ns:List Int} {v:Mine.V} {d:Int} {k a e:Nat} {o:Option (List Nat)} {tx x m:List Nat} {D:List Tok4}
theorem U3 {s:MS} {f:FL} {σ τ:St} (h:exs C [s] τ=some (f,σ)):exc C s τ=some (f,σ):=by
  have h:bn (exc C s τ) (fun f σ₁=>Xe f (some (.next,σ₁)) σ₁)=some (f,σ):=h
  generalize exc C s τ=x at h
  cases x with
  | none=>exact nn h
  | some p =>
    obtain ⟨g,τ'⟩:=p
    cases g <;> exact h
theorem Nd (k:Nat):∃ m:List Nat,(nmN k=none∨nmN k=some m)∧m.length≤900∧(∀ a∈m,a < 128)∧m.all (Nat.blt · 128)=true∧m≠[]:=by
  match k with
  | 0=>exact ⟨_,.inr rfl,by decide,by decide,by decide,by decide⟩
  | 1=>exact ⟨_,.inr rfl,by decide,by decide,by decide,by decide⟩
  | 2=>exact ⟨_,.inr rfl,by decide,by decide,by decide,by decide⟩
  | k + 3=>exact ⟨[97],.inl rfl,by decide,by decide,by decide,by decide⟩
theorem ZES (k:Kn L [(1,.str tx),(66,nmV (nmN k'))]) (hb:tx.length≤900) (ha:∀ a∈tx,a∈al):exc CL L4 ⟨L,H,nx,P⟩=some (.next,⟨put L 37 (.int (JO (Ja (nmN k')) tx:Nat)),H,nx,P⟩):=by
  obtain ⟨m,h1,h2,h3,-⟩:=Nd k'
  have hs:CL 73 [.str tx,nmV (nmN k')] ⟨L,H,nx,P⟩=_:=ZFB (C:=JI tT 7) (L:=L) (H:=H) (nx:=nx) (P:=P) hb ha h2 h3 h1
  refine U3 (JC.exs' ?_)
  exact .v 0 (k.get 1 rfl) (.v 0 (k.get 66 rfl) (.c 0 (hs) (.done 1)))
theorem gD (h:D.length≤100000) (k:Nat) (hk:k≤1000):Nat.ble ((vs D).length + k) JB=true:=ble (by rw [List.length_map]; exact Nat.le_trans (Nat.add_le_add h hk) (by decide))
theorem ZHQ:vs (tI a)=if a=0 then [JZ QT,JQ [65533]] else [JQ [a]]:=by
  unfold tI
  exact apply_ite vs _ _ _
theorem ZDk (h:D.length≤100000) (k:Kn L [(68,.str [a]),(72,.obj (.p 53))]) (N:NoQ L):∃ L',exs CL sgB ⟨L,hD D,0,[53]⟩=some (.next,⟨L',hD (D++tI a),0,[53]⟩)∧(∀ E,Kn L E→JA E 72=some (.obj (.p 53))→Kn L' E)∧NoQ L':=by
  unfold hD
  rw [QP,ZHQ]
  by_cases h0:a=0
  · subst h0
    have g:=gD h 2 (by decide)
    refine ⟨put L 72 (.obj (.p 53)),JC.exs' ?_,fun E kE e n v hv=>?_,N.put 72 fun k hk=>decide_eq_true fun q=>hk (by cases q; rfl)⟩
    · exact .v 0 (k.get 68 rfl) (.v 2 (k.get 72 rfl) (.g 5 (g) (.done 1)))
    · rw [QD]
      by_cases q:72=n
      · subst q; rw [if_pos rfl,← hv,e]
      · rw [if_neg q]; exact kE n v hv
  · have g:=gD h 0 (by decide)
    rw [if_neg h0]
    refine ⟨L,JC.exs' ?_,fun E kE _=>kE,N⟩
    exact .v 0 (k.get 68 rfl) (.b 0 (neq h0) (.v 1 (k.get 72 rfl) (.v 1 (k.get 68 rfl) (.g 2 (g) (.done 2)))))
noncomputable def sgF:List Mine.V→St→Option (FL×St):=QA (fun v σ=>some (σ.setLoc 68 v)) (exs CL sgB)
theorem GY:(tI a).length≤2:=ZI (fun l:List Tok4=>l.length≤2) (fun _=>Nat.le_refl _) fun _=>Nat.le_succ _
theorem Gc {E:List (Nat×Mine.V)} (hE:JA E 72=some (.obj (.p 53))) (hE2:JA E 68=none):∀ (x:List Nat) (D:List Tok4) (L:List (Nat×Mine.V)),D.length + 2 * x.length≤100000→Kn L E→NoQ L→∃ L',sgF (x.map fun a=>.str [a]) ⟨L,hD D,0,[53]⟩=some (.next,⟨L',hD (D++x.flatMap tI),0,[53]⟩)∧Kn L' E∧NoQ L'
  | [],D,L,_,k,N=>⟨L,by rw [show ([]:List Nat).flatMap tI=[] from rfl,List.append_nil]; rfl,k,N⟩
  | a :: x,D,L,hl,k,N=>by
    have kE:Kn (put L 68 (.str [a])) E:=fun n v hv=>by
      rw [QD]
      by_cases q:68=n
      · subst q; exact nn (hE2.symm.trans hv)
      · rw [if_neg q]; exact k n v hv
    obtain ⟨L1,e1,k1,N1⟩:=ZDk (Nat.le_trans (Nat.le_add_right _ _) hl) (.cons ((QD ..).trans (if_pos rfl)) (.cons (kE 72 _ hE) .nil)) (N.put 68 (v:=.str [a]) fun _ _=>rfl)
    obtain ⟨L2,e2,k2,N2⟩:=Gc hE hE2 x (D++tI a) L1 (by
      rw [List.length_append,Nat.add_assoc]
      refine Nat.le_trans (Nat.add_le_add_left ?_ _) hl
      rw [List.length_cons,Nat.mul_succ,Nat.add_comm]
      exact Nat.add_le_add_left GY _) (k1 E kE hE) N1
    refine ⟨L2,?_,k2,N2⟩
    show bn (exs CL sgB ⟨put L 68 (.str [a]),hD D,0,[53]⟩) _=_
    rw [e1]
    refine e2.trans ?_
    rw [List.append_assoc]; rfl
theorem ZEQ {tx:List Nat} {E:List (Nat×Mine.V)} {e:Nat} (hb:tx.length≤900) (k:Kn L E) (N:NoQ L) (h1:JA E 1=some (.str tx)) (h37:JA E 37=some (.int e)) (h72:JA E 72=some (.obj (.p 53))) (h68:JA E 68=none):∃ L',exc CL L6 ⟨L,hD [],0,[53]⟩=some (.next,⟨L',hD ((tx.take e).flatMap tI),0,[53]⟩)∧Kn L' E∧NoQ L':=by
  obtain ⟨L',e1,k1,N1⟩:=Gc h72 h68 (tx.take e) [] L (by
    rw [List.length_nil,Nat.zero_add]
    exact Nat.le_trans (Nat.mul_le_mul_left 2 (Nat.le_trans (List.length_take_le' _ _) hb)) (by decide)) k N
  have hs:=Gb (s:=tx) (j:=e) e rfl (mx hb)
  refine ⟨L',U3 (JC.exs' ?_),k1,N1⟩
  exact .v 0 (k 1 _ h1) (.v 0 (k 37 _ h37) (.v 0 (hs) (.fl 1 (e1) (.done 1))))
end
end Mine
end
noncomputable section
open PySem
namespace Mine
noncomputable def s7T:ME:=(.cmp .lt (.loc 37) (.bi .len [(.loc 1)]))
noncomputable def a70:MS:=.asg 77 (.bop .add (.bop .add (.loc 37) (.k (.int 2))) (.bi .len [(.loc 66)]))
noncomputable def a71:MS:=.asg 169 (.sm .find (.loc 1) [(.k (.str [62])),(.loc 77)])
noncomputable def a72:MS:=.asg 117 (.ite (.cmp .lt (.loc 169) (.k (.int 0))) (.sl (.loc 1) (.loc 77) (.k .none)) (.sl (.loc 1) (.loc 77) (.loc 169)))
noncomputable def a73:MS:=.asgT [71,162] (.call 72 [(.loc 117),(.cmp .ge (.loc 169) (.k (.int 0)))])
noncomputable def slE:ME:=.call 28 [(.loc 170)]
noncomputable def a74:MS:=.augN 72 .add (.comp slE 170 (.loc 71) (.k (.bool true)))
noncomputable def c75:ME:=(.cmp .ge (.loc 169) (.k (.int 0)))
noncomputable def b70:MS:=.asg 171 (.cmp .eq (.sl (.loc 117) (.neg (.k (.int 1))) (.k .none)) (.k (.str [47])))
noncomputable def b71:MS:=.augN 72 .add (.ite (.loc 162) (.lst [(.call 28 [(.k (.str [97,116,116,114,105,98,117,116,101,115,45,105,110,45,101,110,100,45,116,97,103]))])] .frz) (.lst [] .frz))
noncomputable def b72:MS:=.augN 72 .add (.ite (.loc 171) (.lst [(.call 28 [(.k (.str [115,101,108,102,45,99,108,111,115,105,110,103,45,102,108,97,103,45,111,110,45,101,110,100,45,116,97,103]))])] .frz) (.lst [] .frz))
noncomputable def wdE:ME:=(.lst [(.loc 78),(.k (.str []))] .frz)
noncomputable def b73:MS:=.ex (.app (.loc 72) (.dct [[116,121,112,101],[110,97,109,101],[100,97,116,97],[115,101,108,102,67,108,111,115,105,110,103]] [(.sub (.glob JR) (.k (.str [69,110,100,84,97,103]))),(.sm .lower (.loc 66) []),(.comp wdE 78 (.loc 162) (.k (.bool true))),(.loc 171)] .frz))
noncomputable def b74:MS:=.augN 72 .add (.ite (.loc 173) (.lst [(.call 28 [(.loc 173)])] .frz) (.lst [] .frz))
noncomputable def b75:MS:=.augN 72 .add (.ite (.loc 174) (.lst [(.call 67 [(.loc 174)])] .frz) (.lst [] .frz))
noncomputable def b76:MS:=.asg 1 (.bop .add (.sl (.loc 1) (.k .none) (.bop .add (.loc 169) (.k (.int 1)))) (.loc 172))
noncomputable def L7:MS:=.iff s7T [a70,a71,a72,a73,a74,.iff c75 [b70,b71,b72,b73,b74,b75,b76] []] []
section
variable {C:Ora} {L E:List (Nat×Mine.V)} {H:List (Id×Ob)} {nx:Nat} {P:List Nat} {ns:List Int} {v:Mine.V} {d:Int} {k a e:Nat} {o:Option (List Nat)} {tx x m w y nm t1 t2 t3:List Nat} {D:List Tok4} {fs ws:List (List Nat)} {b c:Bool}
theorem D5:∀ (c:List Nat) (i:Nat),J6 [62] c i=if (ins c).length < c.length then ((i + (ins c).length:Nat):Int) else -1
  | [],i=>rfl
  | x :: c,i=>by
    show (if (62==x&&Jc [] c) then (i:Int) else J6 [62] c (i + 1))=_
    by_cases hx:x=62
    · subst hx; rfl
    · rw [beq_eq_false_iff_ne.mpr (fun e:62=x=>hx e.symm),YL (Jp hx),D5 c (i + 1)]
      show (if (ins c).length < c.length then _ else _)=if (ins c).length + 1 < c.length + 1 then _ else _
      by_cases hl:(ins c).length < c.length
      · rw [if_pos hl,if_pos (Nat.succ_lt_succ hl),Nat.add_right_comm]; rfl
      · rw [if_neg hl,if_neg fun e=>hl (Nat.lt_of_succ_lt_succ e)]
noncomputable def clP (s:Nat) (x:List Nat):Int:=bif cl? x then ((s + (ins x).length:Nat):Int) else -1
theorem ZCh (hs:k≤tx.length) (hd:tx.drop k=x):smV σ0 .find tx [.str [62],.int k]=some (.int (clP k x)):=by
  rw [ZCi hs,hd,D5]
  unfold clP cl?
  by_cases hl:(ins x).length < x.length
  · rw [if_pos hl,show Nat.blt (ins x).length x.length=true from ble hl]; rfl
  · rw [if_neg hl,show Nat.blt (ins x).length x.length=false from Bool.eq_false_iff.mpr fun q=>hl (Nat.le_of_ble_eq_true q)]; rfl
theorem ZGu:some (decide (clP k x < 0))=some (!(cl? x)):=by
  unfold clP
  cases cl? x with
  | true=>exact congrArg some (decide_eq_false (Int.not_lt.mpr (Int.natCast_nonneg _)))
  | false=>rfl
theorem IE:some (decide (clP k x ≥ 0))=some (cl? x):=by
  unfold clP
  cases cl? x with
  | true=>exact congrArg some (decide_eq_true (Int.natCast_nonneg _))
  | false=>rfl
noncomputable def E7 (tx nm t1 t2 t3:List Nat) (e s:Nat) (x:List Nat):List (Nat×Mine.V):=[(1,.str tx),(66,.str nm),(172,.str t1),(173,.str t2),(174,.str t3),(72,.obj (.p 53)),(169,.int (clP s x)),(117,.str (ins x))]
theorem ZHY (hb:tx.length≤900) (hm:nm.length≤900) (hs:e + 2 + nm.length≤tx.length) (hd:tx.drop (e + 2 + nm.length)=x) (k:Kn L [(1,.str tx),(66,.str nm),(172,.str t1),(173,.str t2),(174,.str t3),(37,.int e),(72,.obj (.p 53))]) (N:NoQ L) :
    ∃ L',exs CL [a70,a71,a72] ⟨L,H,nx,P⟩=some (.next,⟨L',H,nx,P⟩)∧Kn L' (E7 tx nm t1 t2 t3 e (e + 2 + nm.length) x)∧NoQ L':=by
  have hf:=ZCh hs hd
  have k1:=(k.put 77 (.int (e + 2 + nm.length:Nat))).put 169 (.int (clP (e + 2 + nm.length) x))
  have k2:=k1.put 117 (.str (ins x))
  refine ⟨k2.lc,?_,.cons (k2.get 1 rfl) (.cons (k2.get 66 rfl) (.cons (k2.get 172 rfl) (.cons (k2.get 173 rfl) (.cons (k2.get 174 rfl) (.cons (k2.get 72 rfl) (.cons (k2.get 169 rfl) (.cons (k2.get 117 rfl) .nil))))))),((N.put 77 (v:=.int (e + 2 + nm.length:Nat)) fun _ _=>rfl).put 169 (v:=.int (clP (e + 2 + nm.length) x)) fun _ _=>rfl).put 117 (v:=.str (ins x)) fun _ _=>rfl⟩
  have h1:exs CL [a70,a71] ⟨L,H,nx,P⟩=some (.next,⟨k1.lc,H,nx,P⟩):=by
    refine JC.exs' ?_
    have k0:=k.put 77 (.int (e + 2 + nm.length:Nat))
    exact .v 0 (k.get 37 rfl) (.v 1 (k.get 66 rfl) (.v 0 (Qe (mx hm)) (.v 1 (k0.get 1 rfl) (.v 0 (k0.get 77 rfl) (.v 0 (hf) (.done 1))))))
  have h2:exs CL [a72] ⟨k1.lc,H,nx,P⟩=some (.next,⟨k2.lc,H,nx,P⟩):=by
    refine JC.exs' ?_
    have hlt:=ZGu (k:=e + 2 + nm.length) (x:=x)
    cases hc:cl? x with
    | true =>
      rw [hc] at hlt
      have e2:clP (e + 2 + nm.length) x=((e + 2 + nm.length + (ins x).length:Nat):Int):=by unfold clP; rw [hc]; rfl
      have hsl:slV σ0 (.str tx) (.int (e + 2 + nm.length:Nat)) (.int (clP (e + 2 + nm.length) x))=some (.str (ins x)):=by
        rw [XC (e + 2 + nm.length) (e + 2 + nm.length + (ins x).length) rfl e2 (mx hb),hd,Nat.add_sub_cancel_left]
        exact congrArg (fun l=>some (Mine.V.str l)) (List.prefix_iff_eq_take.mp (List.takeWhile_prefix _)).symm
      exact .v 0 (k1.get 169 rfl) (.b 0 (hlt) (.v 1 (k1.get 1 rfl) (.v 0 (k1.get 77 rfl) (.v 0 (k1.get 169 rfl) (.v 0 (hsl) (.done 1))))))
    | false =>
      rw [hc] at hlt
      have hsl:=ZB8 (s:=tx) (i:=(e + 2 + nm.length:Nat)) _ rfl (mx hb)
      rw [hd,← KW hc] at hsl
      exact .v 0 (k1.get 169 rfl) (.b 0 (hlt) (.v 1 (k1.get 1 rfl) (.v 0 (k1.get 77 rfl) (.v 0 (hsl) (.done 1)))))
  rw [show [a70,a71,a72]=[a70,a71]++[a72] from rfl,Jz h1]
  exact h2
theorem Ii (N:NoQ L) (h:k≠53):Cln k L (hD D) [53]:=⟨fun w=>N k w h,fun w=>by
    show (if Id.p 53=.p k then _ else (Id.p 53,Ob.list (V.sbs (.p k) w (vs D))) :: [])=_
    rw [if_neg fun q=>h (by cases q; rfl),V.sbs_no _ (J7 D)],if_neg fun q=>h (by cases q; rfl),fun q=>h (List.mem_singleton.mp q)⟩
theorem HY:∀ l:List (List Nat),Jv (Ji (ev CL slE) (ev CL (.k (.bool true))) 170 L) (stv l) ⟨L,H,nx,P⟩=some (vs (l.map .er),⟨L,H,nx,P⟩)
  | []=>rfl
  | x :: l=>by
    have h:Ji (ev CL slE) (ev CL (.k (.bool true))) 170 L (.str x) ⟨L,H,nx,P⟩=some (some (JZ x),⟨L,H,nx,P⟩):=by kernel_rfl
    show bn (Ji (ev CL slE) (ev CL (.k (.bool true))) 170 L (.str x) ⟨L,H,nx,P⟩) _=_
    rw [h]
    show bn (Jv _ (stv l) ⟨L,H,nx,P⟩) _=_
    rw [HY l]; rfl
noncomputable def E8 (nm t1 t2 t3 tx:List Nat) (i:Int) (v:List Nat) (ws:List (List Nat)):List (Nat×Mine.V):=[(1,.str tx),(66,.str nm),(172,.str t1),(173,.str t2),(174,.str t3),(72,.obj (.p 53)),(169,.int i),(117,.str v),(162,.list (stv ws))]
theorem Gn (l:List (List Nat)):∀ k,k≠53→V.no (.p k) (.list (stv l))=true:=fun k _=>WV l
theorem Wo:∀ k,k≠53→V.no (.p k) (.obj (.p 53))=true:=fun k h=>decide_eq_true fun q=>h (by cases q; rfl)
theorem ZHX (hb:(ins x).length≤900) (hA:∀ a∈ins x,a < 128) (hD1:D.length≤90000) (hF:(inF (cl? x) (ins x) [] []).1.length≤9000) (k:Kn L (E7 tx nm t1 t2 t3 e k' x)) (N:NoQ L) :
    ∃ L',exs CL [a73,a74] ⟨L,hD D,0,[53]⟩=some (.next,⟨L',hD (D++(inF (cl? x) (ins x) [] []).1.map .er),0,[53]⟩)∧Kn L' (E8 nm t1 t2 t3 tx (clP k' x) (ins x) (inF (cl? x) (ins x) [] []).2)∧NoQ L':=by
  have hs:CL 72 [.str (ins x),.bool (cl? x)] ⟨L,hD D,0,[53]⟩=_:=ZAj (C:=C3) (L:=L) (H:=hD D) (nx:=0) (P:=[53]) (c:=cl? x) (Ii N (by decide)) (Ii N (by decide)) hb hA
  have hge:=IE (k:=k') (x:=x)
  generalize inF (cl? x) (ins x) [] []=F at hs hF
  have k1:=(k.put 71 (.list (stv F.1))).put 162 (.list (stv F.2))
  have k2:=k1.put 72 (.obj (.p 53))
  have g1:Nat.ble (stv F.1).length JB=true:=ble (by rw [DO]; exact Nat.le_trans hF (by decide))
  have hc:=HY (L:=k1.lc) (H:=hD D) (nx:=0) (P:=[53]) F.1
  have g2:Nat.ble ((vs D).length + (vs (F.1.map Tok4.er)).length) JB=true:=ble (by
    rw [List.length_map,List.length_map,List.length_map]
    exact Nat.le_trans (Nat.add_le_add hD1 hF) (by decide))
  unfold hD at *
  rw [QP]
  refine ⟨k2.lc,JC.exs' ?_,.cons (k2.get 1 rfl) (.cons (k2.get 66 rfl) (.cons (k2.get 172 rfl) (.cons (k2.get 173 rfl) (.cons (k2.get 174 rfl) (.cons (k2.get 72 rfl) (.cons (k2.get 169 rfl) (.cons (k2.get 117 rfl) (.cons (k2.get 162 rfl) .nil)))))))),((N.put 71 (Gn F.1)).put 162 (Gn F.2)).put 72 Wo⟩
  exact .v 0 (k.get 117 rfl) (.v 0 (k.get 169 rfl) (.b 0 (hge) (.c 0 (hs) (.v 0 (k1.get 72 rfl) (.v 0 (k1.get 71 rfl) (.g 1 (g1) (.l 0 (hc) (.g 2 (g2) (.done 1)))))))))
theorem DA:∀ r pr:List Nat,QC r pr=ZY (r.reverse++pr)
  | [],_=>rfl
  | a :: r,pr=>by
    rw [List.reverse_cons,List.append_assoc]
    exact DA r (a :: pr)
theorem ZCQ (hb:y.length≤900):slV σ0 (.str y) (.int (-1)) .none=some (.str (y.drop (y.length - 1))):=by
  show gd (Nat.ble y.length JB) (some (Mine.V.str ((y.take y.length).drop (clampIx y.length (-1)))))=_
  rw [ble (mx hb),List.take_length]
  have e:clampIx y.length (-1)=y.length - 1:=by
    cases y with
    | nil=>rfl
    | cons a y =>
      show (max 0 (min (if (-1:Int) < 0 then (-1:Int) + (y.length + 1:Nat) else -1) ((y.length + 1:Nat):Int))).toNat=y.length
      rw [if_pos (by decide),((Int.add_comm _ _).trans (Int.add_sub_cancel (y.length:Int) 1):(-1 + (y.length + 1:Nat):Int)=y.length),Int.min_eq_left (Int.ofNat_le.mpr (Nat.le_succ _)),Int.max_eq_right (Int.natCast_nonneg _),Int.toNat_natCast]
  rw [e]; rfl
theorem last_eq:some (y.drop (y.length - 1)==[47])=some (QC y []):=by
  rw [DA,List.append_nil]
  rcases List.eq_nil_or_concat y with rfl | ⟨l,a,rfl⟩
  · rfl
  · rw [List.concat_eq_append,List.length_append,show l.length + [a].length - 1=l.length from Nat.add_sub_cancel ..,List.drop_left,List.reverse_append]
    exact Ny (a:=a) (b:=47)
theorem HE:∀ l:List (List Nat),Jv (Ji (ev C wdE) (ev C (.k (.bool true))) 78 L) (stv l) ⟨L,H,nx,P⟩=some (l.map att,⟨L,H,nx,P⟩)
  | []=>rfl
  | x :: l=>by
    have h:Ji (ev C wdE) (ev C (.k (.bool true))) 78 L (.str x) ⟨L,H,nx,P⟩=some (some (att x),⟨L,H,nx,P⟩):=by kernel_rfl
    show bn (Ji (ev C wdE) (ev C (.k (.bool true))) 78 L (.str x) ⟨L,H,nx,P⟩) _=_
    rw [h]
    show bn (Jv _ (stv l) ⟨L,H,nx,P⟩) _=_
    rw [HE l]; rfl
theorem gD1 (h:D.length≤99000) (k:Nat) (hk:k≤1000):Nat.ble ((vs D).length + k) JB=true:=gD (Nat.le_trans h (by decide)) k hk
theorem ZHe (h:D.length≤99000) (hw:ws.length≤90000) (k:Kn L [(72,.obj (.p 53)),(162,.list (stv ws))]):exs CL [b71] ⟨L,hD D,0,[53]⟩=some (.next,⟨put L 72 (.obj (.p 53)),hD (D++bif !ws.isEmpty then [.er QN] else []),0,[53]⟩):=by
  have ht:Mine.Jh σ0 (.list (stv ws))=some (!ws.isEmpty):=by
    show gd (Nat.ble (stv ws).length JB) (some (!(stv ws).isEmpty))=_
    rw [gst (Nat.le_trans hw (by decide))]
    cases ws <;> rfl
  have g1:=gD1 h 1 (by decide)
  have g0:=gD1 h 0 (by decide)
  unfold hD
  rw [QP]
  cases hb:!ws.isEmpty with
  | true =>
    rw [hb] at ht
    refine JC.exs' ?_
    exact .v 0 (k.get 72 rfl) (.v 0 (k.get 162 rfl) (.b 0 (ht) (.g 4 (g1) (.done 1))))
  | false =>
    rw [hb] at ht
    refine JC.exs' ?_
    exact .v 0 (k.get 72 rfl) (.v 0 (k.get 162 rfl) (.b 0 (ht) (.g 3 (g0) (.done 1))))
theorem ZHd (h:D.length≤99000) (k:Kn L [(72,.obj (.p 53)),(171,.bool b)]):exs CL [b72] ⟨L,hD D,0,[53]⟩=some (.next,⟨put L 72 (.obj (.p 53)),hD (D++bif b then [.er ZF] else []),0,[53]⟩):=by
  have g1:=gD1 h 1 (by decide)
  have g0:=gD1 h 0 (by decide)
  unfold hD
  rw [QP]
  refine JC.exs' ?_
  cases b with
  | true=>exact .v 0 (k.get 72 rfl) (.v 0 (k.get 171 rfl) (.g 5 (g1) (.done 1)))
  | false=>exact .v 0 (k.get 72 rfl) (.v 0 (k.get 171 rfl) (.g 4 (g0) (.done 1)))
theorem ZHc (h:D.length≤99000) (hw:ws.length≤90000) (hnl:nm.length≤1000) (hnA:∀ a∈nm,a < 128) (k:Kn L [(72,.obj (.p 53)),(162,.list (stv ws)),(66,.str nm),(171,.bool b)]):exs CL [b73] ⟨L,hD D,0,[53]⟩=some (.next,⟨L,hD (D++[.tg (nm.map lowC) ws b]),0,[53]⟩):=by
  have hlo:=YJ hnA hnl
  have g:=gst (Nat.le_trans hw (by decide:90000≤100000))
  have hc:=HE (C:=CL) (L:=L) (H:=hD D) (nx:=0) (P:=[53]) ws
  have g0:=gD1 h 0 (by decide)
  unfold hD at *
  rw [QP]
  refine JC.exs' ?_
  exact .v 0 (k.get 72 rfl) (.v 2 (k.get 66 rfl) (.v 0 (hlo) (.v 0 (k.get 162 rfl) (.g 1 (g) (.l 0 (hc) (.v 0 (k.get 171 rfl) (.g 3 (g0) (.done 2))))))))
theorem Y5 (h:y.length≤900) (e:y.isEmpty=b):Mine.Jh σ0 (.str y)=some (!b):=by
  rw [DN (mx h),e]
theorem ZHb (h:D.length≤99000) (hl:t2.length≤900) (k:Kn L [(72,.obj (.p 53)),(173,.str t2)]):exs CL [b74] ⟨L,hD D,0,[53]⟩=some (.next,⟨put L 72 (.obj (.p 53)),hD (D++bif t2.isEmpty then [] else [.er t2]),0,[53]⟩):=by
  have g1:=gD1 h 1 (by decide)
  have g0:=gD1 h 0 (by decide)
  unfold hD
  rw [QP]
  refine JC.exs' ?_
  cases hb:t2.isEmpty with
  | true=>exact .v 0 (k.get 72 rfl) (.v 0 (k.get 173 rfl) (.b 0 (Y5 hl hb) (.g 3 (g0) (.done 1))))
  | false=>exact .v 0 (k.get 72 rfl) (.v 0 (k.get 173 rfl) (.b 0 (Y5 hl hb) (.v 0 (k.get 173 rfl) (.g 4 (g1) (.done 1)))))
theorem ZHa (h:D.length≤99000) (hl:t3.length≤900) (k:Kn L [(72,.obj (.p 53)),(174,.str t3)]):exs CL [b75] ⟨L,hD D,0,[53]⟩=some (.next,⟨put L 72 (.obj (.p 53)),hD (D++bif t3.isEmpty then [] else [.ch t3]),0,[53]⟩):=by
  have g1:=gD1 h 1 (by decide)
  have g0:=gD1 h 0 (by decide)
  unfold hD
  rw [QP]
  refine JC.exs' ?_
  cases hb:t3.isEmpty with
  | true=>exact .v 0 (k.get 72 rfl) (.v 0 (k.get 174 rfl) (.b 0 (Y5 hl hb) (.g 3 (g0) (.done 1))))
  | false=>exact .v 0 (k.get 72 rfl) (.v 0 (k.get 174 rfl) (.b 0 (Y5 hl hb) (.v 0 (k.get 174 rfl) (.g 4 (g1) (.done 1)))))
theorem ZHZ (hb:tx.length≤900) (hl:t1.length≤900) (k:Kn L [(1,.str tx),(169,.int (e:Nat)),(172,.str t1)]):exs CL [b76] ⟨L,H,nx,P⟩=some (.next,⟨put L 1 (.str (tx.take (e + 1)++t1)),H,nx,P⟩):=by
  have hs:=Gb (s:=tx) (j:=(e + 1:Nat)) (e + 1) rfl (mx hb)
  have hc:=Uh (a:=tx.take (e + 1)) (b:=t1) (k:=1800) (Nat.le_trans (Nat.add_le_add (Nat.le_trans (List.length_take_le' _ _) hb) hl) (by decide)) (by decide)
  refine JC.exs' ?_
  exact .v 0 (k.get 1 rfl) (.v 0 (k.get 169 rfl) (.v 1 (hs) (.v 0 (k.get 172 rfl) (.v 0 (hc) (.done 1)))))
theorem ZHf (hb:y.length≤900) (k:Kn L [(117,.str y)]):exs CL [b70] ⟨L,H,nx,P⟩=some (.next,⟨put L 171 (.bool (QC y [])),H,nx,P⟩):=by
  refine JC.exs' ?_
  exact .v 0 (k.get 117 rfl) (.v 0 (ZCQ hb) (.b 0 (last_eq (y:=y)) (.done 1)))
end
end Mine
end
noncomputable section
open PySem
namespace Mine
section
variable {C:Ora} {L E:List (Nat×Mine.V)} {H:List (Id×Ob)} {nx:Nat} {P:List Nat} {ns:List Int} {v:Mine.V} {d:Int} {k a e i:Nat} {o:Option (List Nat)} {tx x m w y nm t1 t2 t3:List Nat} {D:List Tok4} {fs ws:List (List Nat)} {b c:Bool}
theorem KY:∀ (r pr:List Nat) (ws:List (List Nat)),(inF c r pr ws).1.length≤4 * r.length + 1∧(inF c r pr ws).2.length≤ws.length + r.length
  | [],pr,ws=>by
    refine ⟨?_,Nat.le_refl _⟩
    show (bif Nat.blt (bkS pr).length pr.length&&!c then [bif Jm pr then UN else UO] else []).length≤_
    cases (Nat.blt (bkS pr).length pr.length&&!c) <;> exact Nat.le_of_ble_eq_true rfl
  | a :: r,pr,ws=>by
    obtain ⟨h1,h2⟩:=DQ (c:=c) (a:=a) (r:=r) (pr:=pr) (ws:=ws)
    obtain ⟨h3,h4⟩:=KY r (a :: pr) (stF c a r pr ws).2
    refine ⟨?_,Nat.le_trans h4 (by rw [List.length_cons,← Nat.add_assoc,Nat.add_right_comm]; exact Nat.add_le_add_right h2 _)⟩
    show ((stF c a r pr ws).1++_).length≤_
    rw [List.length_append,List.length_cons,Nat.mul_succ,Nat.add_right_comm,Nat.add_comm]
    exact Nat.add_le_add h3 h1
theorem Gx:∀ x:List Nat,cl? x=true→∃ r,x=ins x++62 :: r
  | [],h=>ff h
  | a :: x,h=>by
    by_cases h62:a=62
    · subst h62; exact ⟨x,rfl⟩
    · have e:=YL (w:=x) (Jp h62)
      have h:Nat.blt (ins (a :: x)).length (a :: x).length=true:=h
      rw [e] at h
      obtain ⟨r,hr⟩:=Gx x (Nat.ble_eq_true_of_le (Nat.le_of_succ_le_succ (Nat.le_of_ble_eq_true h)):Nat.blt (ins x).length x.length=true)
      exact ⟨r,by rw [e]; exact congrArg (a :: ·) hr⟩
theorem K8 (x:List Nat):(ins x).length≤x.length:=(List.takeWhile_prefix _).length_le
theorem BS:∀ x:List Nat,(x.flatMap tI).length≤2 * x.length
  | []=>Nat.le_refl _
  | a :: x=>by
    show (tI a++x.flatMap tI).length≤_
    rw [List.length_append,List.length_cons,Nat.mul_succ,Nat.add_comm]
    exact Nat.add_le_add (BS x) GY
theorem ZHW (hD:D.length≤90000) (hb:tx.length≤900) (hl1:t1.length≤900) (hl2:t2.length≤900) (hl3:t3.length≤900) (hy:y.length≤900) (hw:ws.length≤90000) (hnl:nm.length≤1000) (hnA:∀ a∈nm,a < 128) (k:Kn L (E8 nm t1 t2 t3 tx (e:Nat) y ws)) (N:NoQ L) :
    ∃ L',exs CL [b70,b71,b72,b73,b74,b75,b76] ⟨L,Mine.hD D,0,[53]⟩=some (.next,⟨L',Mine.hD (D++(emT (!ws.isEmpty) (QC y [])++.tg (nm.map lowC) ws (QC y []) :: ((bif t2.isEmpty then [] else [.er t2])++bif t3.isEmpty then [] else [.ch t3]))),0,[53]⟩)∧Kn L' [(1,.str (tx.take (e + 1)++t1)),(66,.str nm),(72,.obj (.p 53))]∧NoQ L':=by
  have k0:=k.put 171 (.bool (QC y []))
  have k1:=k0.put 72 (.obj (.p 53))
  have k2:=k1.put 72 (.obj (.p 53))
  have k3:=k2.put 72 (.obj (.p 53))
  have k4:=k3.put 72 (.obj (.p 53))
  have k5:=k4.put 1 (.str (tx.take (e + 1)++t1))
  have bl:∀ {X:Tok4} {b:Bool} {n:Nat} {D:List Tok4},D.length≤90000 + n→(D++bif b then [X] else []).length≤90000 + (n + 1):=fun {X b n D} h=>by
    rw [List.length_append]
    refine Nat.add_le_add (b:=90000 + n) (d:=1) h ?_
    cases b <;> exact Nat.le_of_ble_eq_true rfl
  have bl2:∀ {X:Tok4} {b:Bool} {n:Nat} {D:List Tok4},D.length≤90000 + n→(D++bif b then [] else [X]).length≤90000 + (n + 1):=fun {X b n D} h=>by
    rw [List.length_append]
    refine Nat.add_le_add (b:=90000 + n) (d:=1) h ?_
    cases b <;> exact Nat.le_of_ble_eq_true rfl
  have d1:=bl (X:=.er QN) (b:=!ws.isEmpty) (n:=0) hD
  have d2:=bl (X:=.er ZF) (b:=QC y []) d1
  have d3:=bl (X:=.tg (nm.map lowC) ws (QC y [])) (b:=true) d2
  have d4:=bl2 (X:=.er t2) (b:=t2.isEmpty) d3
  have h0:=ZHf (H:=Mine.hD D) (nx:=0) (P:=[53]) hy (.cons (k.get 117 rfl) .nil)
  have h1:=ZHe (Nat.le_trans hD (by decide)) hw (.cons (k0.get 72 rfl) (.cons (k0.get 162 rfl) .nil))
  have h2:=ZHd (b:=QC y []) (Nat.le_trans d1 (by decide)) (.cons (k1.get 72 rfl) (.cons (k1.get 171 rfl) .nil))
  have h3:=ZHc (b:=QC y []) (Nat.le_trans d2 (by decide)) hw hnl hnA (.cons (k2.get 72 rfl) (.cons (k2.get 162 rfl) (.cons (k2.get 66 rfl) (.cons (k2.get 171 rfl) .nil))))
  have h4:=ZHb (Nat.le_trans d3 (by decide)) hl2 (.cons (k2.get 72 rfl) (.cons (k2.get 173 rfl) .nil))
  have h5:=ZHa (Nat.le_trans d4 (by decide)) hl3 (.cons (k3.get 72 rfl) (.cons (k3.get 174 rfl) .nil))
  have h6:=ZHZ (H:=Mine.hD (D++(emT (!ws.isEmpty) (QC y [])++.tg (nm.map lowC) ws (QC y []) :: ((bif t2.isEmpty then [] else [.er t2])++bif t3.isEmpty then [] else [.ch t3])))) (nx:=0) (P:=[53]) hb hl1 (.cons (k4.get 1 rfl) (.cons (k4.get 169 rfl) (.cons (k4.get 172 rfl) .nil)))
  refine ⟨k5.lc,?_,.cons (k5.get 1 rfl) (.cons (k5.get 66 rfl) (.cons (k5.get 72 rfl) .nil)),(((((N.put 171 (v:=.bool (QC y [])) fun _ _=>rfl).put 72 Wo).put 72 Wo).put 72 Wo).put 72 Wo).put 1 (v:=.str (tx.take (e + 1)++t1)) fun _ _=>rfl⟩
  refine (Jz (s:=[b70]) h0).trans ((Jz (s:=[b71]) h1).trans ((Jz (s:=[b72]) h2).trans ((Jz (s:=[b73]) h3).trans ((Jz (s:=[b74]) h4).trans ((Jz (s:=[b75]) ?_).trans h6)))))
  refine h5.trans ?_
  unfold emT
  simp only [List.append_assoc]
  rfl
theorem ZDa (d:Int):tlT (tlN (ktl d)).1=(bif (tlN (ktl d)).2.1.isEmpty then [] else [.er (tlN (ktl d)).2.1])++bif (tlN (ktl d)).2.2.isEmpty then [] else [.ch (tlN (ktl d)).2.2]:=by
  have h:∀ k∈List.range 5,tlT (tlN k).1=(bif (tlN k).2.1.isEmpty then [] else [.er (tlN k).2.1])++bif (tlN k).2.2.isEmpty then [] else [.ch (tlN k).2.2]:=JG (by kernel_rfl)
  exact h _ (Ud (m:=5) (by decide) (d / 4))
theorem ZDX (d:Int):(tlN (ktl d)).1.length≤900∧(tlN (ktl d)).2.1.length≤900∧(tlN (ktl d)).2.2.length≤900:=by
  have h:∀ k∈List.range 5,(Nat.ble (tlN k).1.length 900&&(Nat.ble (tlN k).2.1.length 900&&Nat.ble (tlN k).2.2.length 900))=true:=JG (by kernel_rfl)
  exact bA (h _ (Ud (m:=5) (by decide) (d / 4))) fun h1 h=>bA h fun h2 h3=>⟨Nat.le_of_ble_eq_true h1,Nat.le_of_ble_eq_true h2,Nat.le_of_ble_eq_true h3⟩
theorem ar5 (e a b:Nat):e + 2 + a + b + 1=e + (a + (b + 1) + 2):=by omega
theorem ZDU {tl r:List Nat} (hd:tx.drop e=60 :: 47 :: w) (hr:JE w=ins (JE w)++62 :: r):tx.take (e + 2 + (ltr w).length + (ins (JE w)).length + 1)++tl=tx.take e++60 :: 47 :: (ltr w++(ins (JE w)++clo true tl)):=by
  have h1:=List.take_length_add_append (l₁:=ins (JE w)) (l₂:=62 :: r) 1
  rw [← hr] at h1
  have h2:=List.take_length_add_append (l₁:=ltr w) (l₂:=JE w) ((ins (JE w)).length + 1)
  rw [KT,h1] at h2
  rw [ar5,List.take_add,hd,List.append_assoc]
  show _++60 :: 47 :: (w.take ((ltr w).length + ((ins (JE w)).length + 1))++tl)=_
  rw [h2,List.append_assoc,List.append_assoc]; rfl
theorem ZEP {q:Nat} (hb:tx.length≤300) (ha:∀ a∈tx,a∈al) (k:Kn L [(1,.str tx),(66,nmV (nmN q)),(172,.str (tlN (ktl d)).1),(173,.str (tlN (ktl d)).2.1),(174,.str (tlN (ktl d)).2.2),(37,.int (JO (Ja (nmN q)) tx:Nat)),(72,.obj (.p 53))]) (N:NoQ L) :
    ∃ L',exc CL L7 ⟨L,hD ((tx.take (JO (Ja (nmN q)) tx)).flatMap tI),0,[53]⟩=some (.next,⟨L',hD (Ur (Ja (nmN q)) (tlN (ktl d)).1 tx),0,[53]⟩)∧Kn L' [(1,.str (txT (Ja (nmN q)) (tlN (ktl d)).1 tx)),(66,nmV (nmN q)),(72,.obj (.p 53))]∧NoQ L':=by
  have hb9:tx.length≤900:=Nat.le_trans hb (by decide)
  obtain ⟨m,h1,h2,h3,-⟩:=Nd q
  unfold Ur txT
  generalize he:JO (Ja (nmN q)) tx=e at k
  by_cases hlt:e < tx.length
  · obtain ⟨w,hd,hf⟩:=KE tx (he▸hlt)
    rw [he] at hd
    have ho:nmN q=some m:=by
      rcases h1 with h1 | h1
      · rw [h1] at hf; exact ff hf
      · exact h1
    rw [ho] at hf k ⊢
    obtain ⟨l1,l2,l3⟩:=ZDX d
    refine bA hf fun hf1 hf2=>?_
    have hml:(ltr w).map lowC=m.map lowC:=Option.some.inj (beq_iff_eq.mp hf1)
    have hl:m.length=(ltr w).length:=by have:=congrArg List.length hml; rw [List.length_map,List.length_map] at this; exact this.symm
    have hdx:tx.drop (e + 2 + m.length)=JE w:=by rw [← List.drop_drop,← List.drop_drop,hd,hl]; rfl
    have hs:e + 2 + m.length≤tx.length:=by
      have hx:=congrArg List.length hd
      rw [List.length_drop] at hx
      have hlw:(ltr w).length≤w.length:=(List.takeWhile_prefix _).length_le
      rw [hl,Nat.add_assoc]
      refine Nat.le_trans (Nat.add_le_add_left (?_:2 + (ltr w).length≤tx.length - e) e) (Nat.le_of_eq (Nat.add_sub_cancel' (Nat.le_of_lt hlt)))
      rw [hx,Nat.add_comm]
      exact Nat.add_le_add_right hlw 2
    have htr:Nat.blt e tx.length=true:=ble hlt
    have ht:tst CL s7T ⟨L,hD ((tx.take e).flatMap tI),0,[53]⟩=some (true,⟨L,hD ((tx.take e).flatMap tI),0,[53]⟩):=by
      refine JC.tst' ?_
      exact .v 0 (k.get 37 rfl) (.v 0 (k.get 1 rfl) (.v 0 (Qe (mx hb9)) (.b 0 (slt hlt) (.done 2))))
    have hxl:(JE w).length≤300:=Nat.le_trans (hdx▸dle tx _) hb
    have hil:(ins (JE w)).length≤300:=Nat.le_trans (K8 _) hxl
    have hiA:∀ a∈ins (JE w),a < 128:=fun a h=>IK ha a (List.mem_of_mem_drop (hdx▸(List.takeWhile_prefix _).subset h:a∈tx.drop (e + 2 + m.length)))
    obtain ⟨f1,f2⟩:=KY (c:=cl? (JE w)) (ins (JE w)) [] []
    have f1:=Nat.le_trans f1 (Nat.succ_le_succ (Nat.mul_le_mul_left 4 hil))
    have f2:=Nat.le_trans f2 (Nat.le_trans (Nat.le_of_eq (Nat.zero_add _)) hil)
    have dl:((tx.take e).flatMap tI).length≤600:=Nat.le_trans (BS _) (Nat.mul_le_mul_left 2 (Nat.le_trans (List.length_take_le' _ _) hb))
    obtain ⟨L1,e1,k1,N1⟩:=ZHY (H:=hD ((tx.take e).flatMap tI)) (nx:=0) (P:=[53]) hb9 h2 hs hdx k N
    obtain ⟨L2,e2,k2,N2⟩:=ZHX (Nat.le_trans hil (by decide)) hiA (Nat.le_trans dl (by decide)) (Nat.le_trans f1 (by decide)) k1 N1
    rw [hd]
    show ∃ L',exc CL L7 _=some (FL.next,⟨L',hD ((tx.take e).flatMap tI++UK ((ltr w).map lowC) (tlN (ktl d)).1 (JE w)),0,[53]⟩)∧Kn L' [(1,.str (tx.take e++60 :: 47 :: (ltr w++(ins (JE w)++clo (cl? (JE w)) (tlN (ktl d)).1)))),(66,.str m),(72,.obj (.p 53))]∧NoQ L'
    have hge:=IE (k:=e + 2 + m.length) (x:=JE w)
    have hpre:∀ {τ},exs CL ([.iff c75 [b70,b71,b72,b73,b74,b75,b76] []]) ⟨L2,hD ((tx.take e).flatMap tI++(inF (cl? (JE w)) (ins (JE w)) [] []).1.map .er),0,[53]⟩=some (.next,τ)→exc CL L7 ⟨L,hD ((tx.take e).flatMap tI),0,[53]⟩=some (.next,τ):=fun h=>U3 ((W3 ht).trans ((Jz (s:=[a70,a71,a72]) e1).trans ((Jz (s:=[a73,a74]) e2).trans h)))
    have htc:tst CL c75 ⟨L2,hD ((tx.take e).flatMap tI++(inF (cl? (JE w)) (ins (JE w)) [] []).1.map .er),0,[53]⟩=some (cl? (JE w),⟨L2,hD ((tx.take e).flatMap tI++(inF (cl? (JE w)) (ins (JE w)) [] []).1.map .er),0,[53]⟩):=by
      refine JC.tst' ?_
      exact .v 0 (k2.get 169 rfl) (.b 0 (hge) (.b 0 (XK (b:=cl? (JE w))) (.done 1)))
    unfold UK
    cases hc:cl? (JE w) with
    | false =>
      rw [hc] at htc hpre k2
      refine ⟨L2,hpre ((WL htc).trans ?_),?_,N2⟩
      · exact congrArg (fun z=>some (FL.next,(⟨L2,hD ((tx.take e).flatMap tI++z),0,[53]⟩:St))) (List.append_nil _).symm
      · have et:tx.take e++60 :: 47 :: (ltr w++(ins (JE w)++clo false (tlN (ktl d)).1))=tx:=by
          rw [show clo false (tlN (ktl d)).1=[] from rfl,List.append_nil,KW hc,KT,← hd,List.take_append_drop]
        rw [et]
        exact .cons (k2.get 1 rfl) (.cons (k2.get 66 rfl) (.cons (k2.get 72 rfl) .nil))
    | true =>
      rw [hc] at htc hpre k2 f1 f2
      have k2:Kn L2 (E8 m (tlN (ktl d)).1 (tlN (ktl d)).2.1 (tlN (ktl d)).2.2 tx ((e + 2 + m.length + (ins (JE w)).length:Nat):Int) (ins (JE w)) (inF true (ins (JE w)) [] []).2):=by
        have e0:clP (e + 2 + m.length) (JE w)=((e + 2 + m.length + (ins (JE w)).length:Nat):Int):=by unfold clP; rw [hc]; rfl
        rw [e0] at k2
        exact k2
      obtain ⟨L3,e3,k3,N3⟩:=ZHW (D:=(tx.take e).flatMap tI++(inF true (ins (JE w)) [] []).1.map .er) (by
        rw [List.length_append,List.length_map]
        exact Nat.le_trans (Nat.add_le_add dl f1) (by decide)) hb9 l1 l2 l3 (Nat.le_trans hil (by decide)) (Nat.le_trans f2 (by decide)) (Nat.le_trans h2 (by decide)) h3 k2 N2
      refine ⟨L3,hpre ((W3 htc).trans (e3.trans ?_)),?_,N3⟩
      · rw [hml,ZDa,List.append_assoc]; rfl
      · obtain ⟨r,hr⟩:=Gx (JE w) hc
        have et:=ZDU (tl:=(tlN (ktl d)).1) hd hr
        rw [← hl] at et
        rw [← et]
        exact k3
  · have ht:tst CL s7T ⟨L,hD ((tx.take e).flatMap tI),0,[53]⟩=some (false,⟨L,hD ((tx.take e).flatMap tI),0,[53]⟩):=by
      refine JC.tst' ?_
      exact .v 0 (k.get 37 rfl) (.v 0 (k.get 1 rfl) (.v 0 (Qe (mx hb9)) (.b 0 (U9 hlt) (.done 2))))
    have hel:e=tx.length:=Nat.le_antisymm (he▸Ya tx) (Nat.not_lt.mp hlt)
    rw [List.drop_of_length_le (Nat.le_of_eq hel.symm)]
    refine ⟨L,U3 ((WL ht).trans ?_),?_,N⟩
    · exact congrArg (fun z=>some (FL.next,(⟨L,hD z,0,[53]⟩:St))) (List.append_nil _).symm
    · have et:tx.take e++([]:List Nat)=tx:=by rw [List.append_nil,List.take_of_length_le (Nat.le_of_eq hel.symm)]
      show Kn L [(1,.str (tx.take e++[])),(66,nmV (nmN q)),(72,.obj (.p 53))]
      rw [et]
      exact .cons (k.get 1 rfl) (.cons (k.get 66 rfl) (.cons (k.get 72 rfl) .nil))
end
end Mine
end
noncomputable section
open PySem
namespace Mine
noncomputable def L8:MS:=.asg 81 (.new 3 30 [(.loc 1)] .tmp)
noncomputable def L9:MS:=.asgA (.loc 81) 42 3 (.bm (.loc 81) 150 3 60)
noncomputable def L10:MS:=.iff (.cmp .isn (.loc 66) (.k .none)) [.asgA (.loc 81) 45 3 (.dct [[116,121,112,101],[110,97,109,101],[100,97,116,97]] [(.sub (.glob JR) (.k (.str [83,116,97,114,116,84,97,103]))),(.loc 66),(.lst [] .frz)] .frz)] []
noncomputable def hpL (t:List Nat) (r:List (Id×Ob)):List (Id×Ob):=(.t 5,.list []) :: (.t 4,.list []) :: (.t 3,I3 t 0) :: (.t 2,.list [.int 0]) :: (.t 1,I1 [] 0 0 0 0) :: r
noncomputable def fsT (st cur:Mine.V):List (Nat×Mine.V):=[(20,T1),(39,.none),(40,.bool false),(41,.obj (.t 5)),(42,st),(44,.bool false),(45,cur)]
noncomputable def cvO:Option (List Nat)→Mine.V
  | none=>.none
  | some m=>cvS m
section
variable {C:Ora} {L E:List (Nat×Mine.V)} {H:List (Id×Ob)} {nx:Nat} {P:List Nat} {ns:List Int} {v:Mine.V} {d:Int} {k a e i n:Nat} {o:Option (List Nat)} {tx x m w y nm t1 t2 t3 t:List Nat} {D:List Tok4} {fs ws:List (List Nat)} {b c:Bool}
theorem ZEO (k:Kn L [(1,.str t)]):exc CL L8 ⟨L,[],0,[]⟩=some (.next,⟨put L 81 T0,hpL t [(.t 0,.inst 3 (fsT (me 9) .none))],6,[]⟩):=by
  refine U3 (JC.exs' ?_)
  exact .v 0 (k.get 1 rfl) (.done 4)
theorem ZEN (k:Kn L [(81,T0)]):exc CL L9 ⟨L,hpL t [(.t 0,.inst 3 (fsT (me 9) .none))],6,[]⟩=some (.next,⟨L,hpL t [(.t 0,.inst 3 (fsT (me 60) .none))],6,[]⟩):=by
  refine U3 (JC.exs' ?_)
  exact .v 0 (k.get 81 rfl) (.v 2 (k.get 81 rfl) (.done 4))
theorem ZCP (k:Kn L [(81,T0),(66,nmV o)]):exc CL L10 ⟨L,hpL t [(.t 0,.inst 3 (fsT (me 60) .none))],6,[]⟩=some (.next,⟨L,hpL t [(.t 0,.inst 3 (fsT (me 60) (cvO o)))],6,[]⟩):=by
  refine U3 (JC.exs' ?_)
  cases o with
  | none=>exact .v 0 (k.get 66 rfl) (.done 3)
  | some m=>exact .v 0 (k.get 66 rfl) (.v 3 (k.get 66 rfl) (.v 3 (k.get 81 rfl) (.done 4)))
noncomputable def m0:MS:=.asgA (.loc 0) 48 3 (.lst [] .tmp)
noncomputable def σG (t:List Nat) (cv:Mine.V):St:=⟨[(0,T0)],hpL t [(.t 0,.inst 3 (fsT (me 60) cv))]++[(.p 99,.list [])],6,[99]⟩
noncomputable def σ1 (t:List Nat) (cv:Mine.V):St:=⟨[(0,T0)],(.t 6,.list []) :: hpL t [(.t 0,.inst 3 (fs0 (me 60) cv none)),(.p 99,.list [])],7,[99]⟩
theorem ZAn {cv:Mine.V}:exc C m0 (σG t cv)=some (.next,σ1 t cv):=by kernel_rfl
noncomputable def sx0 (t:List Nat):Sx:=⟨[],0,0,0,0,t,0⟩
theorem ZBy {cv:Mine.V}:CT 60 [T0] (σ1 t cv)=CT 60 [T0] (S1 [] [] (sx0 t) 60 cv none):=by kernel_rfl
theorem ZBL {σ:St} {k:Nat} {w:Mine.V} {Q:Prop} (h:Frz σ k w) (e:JA σ.hp (.p k)=none):Q:=by
  cases h with
  | l h _=>exact nn (e.symm.trans h)
  | d h _=>exact nn (e.symm.trans h)
theorem ZCa {m:GenM} {x x' y:St} {dn l:List Mine.V} (e:tst C m.t1 x=tst C m.t1 x') (G:GR C m true x' dn l y) (h:∀ k,k≠99→JA x'.hp (.p k)=none):GR C m true x dn l y:=
  GR.rec (motive:=fun ph σ dn l σ' _=>ph=true→tst C m.t1 x=tst C m.t1 σ→(∀ k,k≠99→JA σ.hp (.p k)=none)→GR C m true x dn l σ') (fun h1 h2 _ e _=>.stop (e.trans h1) h2) (fun h1 h2 h3 _ _ e _=>.turn (e.trans h1) h2 h3) (fun _ _ _ p _ _=>ff p) (fun _ _ _ _ _ _ p _ _=>ff p) (fun h1 h2 _ _ _ _ n=>ZBL h1 (n _ h2)) G rfl e h
theorem ZFl {σ σ':St} (h:CT 60 [T0] σ=CT 60 [T0] σ') (e:tst CT gM.t1 σ=bn (CT 60 [T0] σ) (fun v τ=>bo (Jh τ v) fun b=>some (b,τ)):=by kernel_rfl) (e':tst CT gM.t1 σ'=bn (CT 60 [T0] σ') (fun v τ=>bo (Jh τ v) fun b=>some (b,τ)):=by kernel_rfl):tst CT gM.t1 σ=tst CT gM.t1 σ':=
  e.trans ((congrArg (bn · _) h).trans e'.symm)
theorem ZH1 (l:List Nat) (h:∀ a∈l,a≠10):UG 10 l=0:=by
  unfold UG
  rw [List.filter_eq_nil_iff.mpr fun a ha q=>h a ha (beq_iff_eq.mp q)]; rfl
theorem IU:∀ (l:List Nat) (i:Nat) (z:Int),(∀ a∈l,a≠10)→QK 10 l i z=z
  | [],_,_,_=>rfl
  | a :: l,i,z,h=>by
    show QK 10 l (i + 1) (if a=10 then (i:Int) else z)=z
    rw [if_neg (h a (.head _))]
    exact IU l (i + 1) z fun x hx=>h x (.tail _ hx)
theorem ZHI (h:∀ a∈t,a∈al):∀ a∈t,a≠10:=fun a ha q=>absurd (q▸h a ha:10∈al) (by decide)
theorem ZD7 (h:∀ a∈t,a∈al):JL t 0 0=(0,(t.length:Int)):=by
  have h10:=ZHI h
  unfold JL
  rw [ZH1 t h10,IU t 0 (-1) h10,if_pos rfl]
  exact Prod.ext rfl (Int.zero_add _)
theorem ZGF (q:Nat):Nm (cvO (nmN q)) (Ja (nmN q)):=by
  obtain ⟨m,h1,h2,-,h4,h5⟩:=Nd q
  rcases h1 with h1 | h1
  · rw [h1]; exact .no
  · rw [h1]; exact .yes h4 (Nat.le_trans h2 (by decide)) h5
theorem ZD1 {q:Nat} {n:Option (List Nat)} (hn:n=Ja (nmN q)) (hl:t.length≤900) (ha:∀ a∈t,a∈al) (hE:okE n t):∃ l:List Tok4,l.all Tok4.ok=true∧JH l=Mine.E n t∧∃ s f cv tb,At t [] s∧CvOk cv∧GR CT gM true (σ1 t (cvO (nmN q))) [] (vs l) (S1 [] (vs l) s f cv tb):=by
  subst hn
  obtain ⟨l,h1,h2,s,f,cv,tb,hA,hc,G⟩:=G9 (src:=t) (ZGF q) t.length t none hl (Nat.le_refl _) hE [] (sx0 t) (ZEe (Nat.le_trans hl (by decide)) ha (ZD7 ha))
  exact ⟨l,h1,h2,s,f,cv,tb,hA,hc,ZCa (ZFl ZBy) G fun k hk=>by
    show (if Id.p 99=.p k then _ else none)=none
    rw [if_neg fun q=>hk (by cases q; rfl)]⟩
end
end Mine
end
noncomputable section
open PySem
namespace Mine
noncomputable def mkE:ME:=(.sub (.loc 83) (.k (.str [115,101,108,102,67,108,111,115,105,110,103])))
noncomputable def mkC:ME:=(.cmp .eq (.sub (.loc 83) (.k (.str [116,121,112,101]))) (.sub (.glob JR) (.k (.str [69,110,100,84,97,103]))))
noncomputable def L12:MS:=.asg 120 (.comp mkE 83 (.loc 82) mkC)
noncomputable def OE:ME:=(.not (.isb (.loc 121)))
noncomputable def L13:MS:=.ret (.and (.cmp .eq (.call 71 [(.loc 82)]) (.call 71 [(.loc 72)])) (.and (.cmp .eq (.comp (.loc 121) 121 (.loc 120) OE) (.lst [] .frz)) (.cmp .eq (.mcall (.attr (.loc 81) 20 3) 176 1 68 []) (.tup [(.k (.int 1)),(.bi .len [(.loc 1)])]))))
noncomputable def H0 (f:Nat) (cv:Mine.V) (tb:Option (List Nat)):List (Id×Ob):=[(.t 6,.list []),(.t 5,.list []),(.t 4,.list []),(.t 2,.list [.int 0]),(.t 0,.inst 3 (fs0 (me f) cv tb))]
noncomputable def OG (t:List Nat) (D:List Tok4):List (Nat×Mine.V):=[(1,.str t),(81,T0),(72,.list (vs D))]
noncomputable def ZU (t:List Nat) (D l:List Tok4):List (Nat×Mine.V):=[(1,.str t),(81,T0),(72,.list (vs D)),(82,.list (vs l))]
noncomputable def Qv (t:List Nat) (D l:List Tok4) (M:List Mine.V):List (Nat×Mine.V):=[(1,.str t),(81,T0),(72,.list (vs D)),(82,.list (vs l)),(120,.list M)]
section
variable {C:Ora} {L E:List (Nat×Mine.V)} {H:List (Id×Ob)} {nx:Nat} {P:List Nat} {v cv:Mine.V} {f k n:Nat} {tb:Option (List Nat)} {t src:List Nat} {D l:List Tok4} {M:List Mine.V} {s:Sx}
theorem sbZ (hc:CvOk cv):(({ S1 [] (vs l) s f cv tb with loc:=OG t D }:St).sb 99 (.list (vs l))).setLoc 82 (.list (vs l))=⟨ZU t D l,hs s (H0 f cv tb),7,[]⟩:=by
  have e:(({ S1 [] (vs l) s f cv tb with loc:=OG t D }:St).sb 99 (.list (vs l))).setLoc 82 (.list (vs l))=⟨[(1,.str t),(81,T0),(72,.list (V.sbs (.p 99) (.list (vs l)) (vs D))),(82,.list (vs l))],hs s (H0 f (V.sb (.p 99) (.list (vs l)) cv) tb),7,[]⟩:=by
    cases tb <;> kernel_rfl
  rw [e,V.sbs_no _ (J7 D),V.sb_no cv (hc.n _)]; rfl
theorem BJ:∀ l:List Tok4,∃ M,Jv (Ji (ev C mkE) (ev C mkC) 83 L) (vs l) ⟨L,H,nx,P⟩=some (M,⟨L,H,nx,P⟩)∧M.length≤l.length∧∀ x∈M,∃ b,x=.bool b
  | []=>⟨[],rfl,Nat.le_refl _,fun _ h=>nomatch h⟩
  | t :: l=>by
    obtain ⟨M,e,hl,hM⟩:=BJ l
    have no:Ji (ev C mkE) (ev C mkC) 83 L t.v ⟨L,H,nx,P⟩=some (none,⟨L,H,nx,P⟩)→∃ M,Jv (Ji (ev C mkE) (ev C mkC) 83 L) (vs (t :: l)) ⟨L,H,nx,P⟩=some (M,⟨L,H,nx,P⟩)∧M.length≤(t :: l).length∧∀ x∈M,∃ b,x=.bool b:=fun h=>by
      refine ⟨M,?_,Nat.le_succ_of_le hl,hM⟩
      show bn (Ji (ev C mkE) (ev C mkC) 83 L t.v ⟨L,H,nx,P⟩) _=_
      rw [h]
      show bn (Jv _ (vs l) ⟨L,H,nx,P⟩) _=_
      rw [e]; rfl
    cases t with
    | ch x=>exact no (by kernel_rfl)
    | sp x=>exact no (by kernel_rfl)
    | er x=>exact no (by kernel_rfl)
    | tg n ws sc =>
      have h:Ji (ev C mkE) (ev C mkC) 83 L (Jk n ws sc) ⟨L,H,nx,P⟩=some (some (.bool sc),⟨L,H,nx,P⟩):=by kernel_rfl
      refine ⟨.bool sc :: M,?_,Nat.succ_le_succ hl,fun x hx=>?_⟩
      · show bn (Ji (ev C mkE) (ev C mkC) 83 L (Jk n ws sc) ⟨L,H,nx,P⟩) _=_
        rw [h]
        show bn (Jv _ (vs l) ⟨L,H,nx,P⟩) _=_
        rw [e]; rfl
      · cases hx with
        | head=>exact ⟨_,rfl⟩
        | tail _ hx=>exact hM x hx
theorem Bs:∀ M:List Mine.V,(∀ x∈M,∃ b,x=.bool b)→Jv (Ji (ev C (.loc 121)) (ev C OE) 121 L) M ⟨L,H,nx,P⟩=some ([],⟨L,H,nx,P⟩)
  | [],_=>rfl
  | v :: l,h=>by
    obtain ⟨b,rfl⟩:=h v (.head _)
    have hF:Ji (ev C (.loc 121)) (ev C OE) 121 L (.bool b) ⟨L,H,nx,P⟩=some (none,⟨L,H,nx,P⟩):=by kernel_rfl
    show bn (Ji _ _ 121 L (.bool b) ⟨L,H,nx,P⟩) _=_
    rw [hF]
    show bn (Jv _ l ⟨L,H,nx,P⟩) _=_
    rw [Bs l fun x hx=>h x (.tail _ hx)]; rfl
theorem ZCO (hl:l.length≤100000):∃ M,exc C L12 ⟨ZU t D l,H,nx,P⟩=some (.next,⟨Qv t D l M,H,nx,P⟩)∧M.length≤100000∧∀ x∈M,∃ b,x=.bool b:=by
  obtain ⟨M,e,h1,h2⟩:=BJ (C:=C) (L:=ZU t D l) (H:=H) (nx:=nx) (P:=P) l
  have g:Nat.ble (vs l).length JB=true:=ble (by rw [List.length_map]; exact Nat.le_trans hl (by decide))
  refine ⟨M,JC.exc' ?_,Nat.le_trans h1 hl,h2⟩
  exact .g 1 (g) (.l 0 (e) (.done 1))
theorem BX:∀ ws:List (List Nat),datVs (ws.map att)=true
  | []=>rfl
  | _ :: ws=>BX ws
theorem B9:∀ ws:List (List Nat),deps (ws.map att)≤1
  | []=>Nat.zero_le _
  | w :: ws=>Nat.max_le.mpr ⟨Nat.le_refl _,B9 ws⟩
theorem ZBv (t:Tok4):Xg t.v=true:=by
  cases t with
  | ch x=>rfl
  | sp x=>rfl
  | er x=>rfl
  | tg n ws sc =>
    show ((datVs (ws.map att)&&true)&&Nat.ble (max 0 (max 0 (max (deps (ws.map att) + 1) (max 0 0))) + 1) 50)=true
    rw [BX]
    exact ble (Nat.le_trans (Nat.succ_le_succ (Nat.max_le.mpr ⟨Nat.zero_le _,Nat.max_le.mpr ⟨Nat.zero_le _,Nat.max_le.mpr ⟨Nat.succ_le_succ (B9 ws),Nat.zero_le _⟩⟩⟩)) (by decide:3≤50))
theorem ZD2 (l:List Tok4):(vs l).all Xg=true:=List.all_eq_true.mpr fun v hv=>by
  obtain ⟨t,_,rfl⟩:=List.mem_map.mp hv
  exact ZBv t
theorem ZDC {σ:St} {A:List Mine.V} (hr:A.all Xg=true):QB σ .eq (.list A) (.list A)=some true:=by
  show gd (V.beqs A A&&A.all Xg) (some true)=_
  rw [V.beqs_refl,hr]; rfl
theorem clZ (h:CvOk cv) (hM:∀ x∈M,∃ b,x=.bool b):Cln 50 (Qv t D l M) (hs s (H0 f cv tb)) []:=by
  have hn:V.nos (.p 50) M=true:=by
    clear h
    induction M with
    | nil=>rfl
    | cons x M ih =>
      obtain ⟨b,rfl⟩:=hM x (.head _)
      exact ih fun y hy=>hM y (.tail _ hy)
  refine ⟨fun w=>?_,fun w=>?_,by cases tb <;> rfl,fun h=>nomatch h⟩
  · show [(1,Mine.V.str t),(81,T0),(72,.list (V.sbs (.p 50) w (vs D))),(82,.list (V.sbs (.p 50) w (vs l))),(120,.list (V.sbs (.p 50) w M))]=_
    rw [V.sbs_no _ (J7 D),V.sbs_no _ (J7 l),V.sbs_no _ hn]; rfl
  · have e:Qo (.p 50) w (hs s (H0 f cv tb))=hs s (H0 f (V.sb (.p 50) w cv) tb):=by cases tb <;> kernel_rfl
    rw [e,V.sb_no cv (h.n _)]
theorem ZD6 (hA:At src [] s):CL 68 [T1] ⟨L,hs s H,7,[]⟩=some (.tup [.int 1,.int src.length],⟨L,hs s H,7,[]⟩):=hA.el fun ch off l1 l2 h1 h2 h3 h4 h5 h6=>by
  subst h1
  cases Wy h2 h3
  have hp:=Yl (x:=none) (n:=6) (L:=[(0,T1)]) (H:=H) (nx:=7) (P:=[]) (ch:=ch) (sz:=ch.length) (off:=ch.length) (l1:=l1) (l2:=l2) (o₃:=I3 src src.length)
  rw [h6] at hp
  show JI tT 8 68 [T1] ⟨L,hs (st ch src ch.length l1 l2) H,7,[]⟩=_
  refine Jy (n:=7) ?_
  exact .c 4 (hp) (.done 2)
theorem ZCN (hc:CvOk cv) (hA:At t [] s) (ht:t.length≤900) (hok:l.all Tok4.ok=true) (hokD:D.all Tok4.ok=true) (hfl:JH l=JH D) (hz:sz D≤100000) (hMl:M.length≤100000) (hM:∀ x∈M,∃ b,x=.bool b):exc CL L13 ⟨Qv t D l M,hs s (H0 f cv tb),7,[]⟩=some (.ret (.bool true),⟨Qv t D l M,hs s (H0 f cv tb),7,[]⟩):=by
  have cl:=clZ (t:=t) (D:=D) (l:=l) (s:=s) (f:=f) (tb:=tb) hc hM
  have j1:CL 71 [.list (vs l)] ⟨Qv t D l M,hs s (H0 f cv tb),7,[]⟩=some (.list (vs (jn (JH l))),⟨Qv t D l M,hs s (H0 f cv tb),7,[]⟩):=BP (n:=2) cl hok (by unfold sz; rw [hfl]; exact hz)
  have j2:CL 71 [.list (vs D)] ⟨Qv t D l M,hs s (H0 f cv tb),7,[]⟩=some (.list (vs (jn (JH D))),⟨Qv t D l M,hs s (H0 f cv tb),7,[]⟩):=BP (n:=2) cl hokD hz
  rw [hfl] at j1
  have he:=ZDC (σ:=⟨Qv t D l M,hs s (H0 f cv tb),7,[]⟩) (ZD2 (jn (JH D)))
  have hn:=Bs (C:=CL) (L:=Qv t D l M) (H:=hs s (H0 f cv tb)) (nx:=7) (P:=[]) M hM
  have g:Nat.ble M.length JB=true:=ble (Nat.le_trans hMl (by decide))
  have hp:=ZD6 (L:=Qv t D l M) (H:=H0 f cv tb) hA
  have h2:some ((((1:Int),(t.length:Int)).1==(((1:Int),(t.length:Int)).1))&&(((1:Int),(t.length:Int)).2==((1:Int),(t.length:Int)).2))=some true:=congrArg some (Bool.and_eq_true_iff.mpr ⟨beq_self_eq_true _,beq_self_eq_true _⟩)
  refine JC.exc' ?_
  exact .c 0 (j1) (.c 0 (j2) (.b 0 (he) (.g 2 (g) (.l 0 (hn) (.c 7 (hp) (.v 0 (Qe (mx ht)) (.b 0 (h2) (.done 1))))))))
end
end Mine
end
noncomputable section
open PySem PySem.Calls PyProof.Rows PySem.W
namespace Mine
noncomputable def fA1 (f:Nat):Addr:=((fAT++[268])[f]?).getD 21
noncomputable def lwL:Str:=Str.ofString "abcdefghijklmnopqrstuvwxyzABCDEFGHIJKLMNOPQRSTUVWXYZ"
noncomputable def gLa:List (Nat×Mine.V×Value):=[(86,QL,.ref 22),(87,Qd,.ref 27),(89,W6,.ref 774),(90,.none,.none),(168,BR,.ref 49),(177,Xy,.str lwL 1482),(178,D3,.ref 32)]
noncomputable def gL1:List (Nat×Mine.V×Value):=(88,JR,.ref 48) :: (166,.fn 0,.ref 236) :: (167,US,.ref 43) :: gLa
noncomputable def cx1 (prog:Program) (wd:World) (K:Frag):Cx:=Cx.mk prog wd K fA1 (fun n=>(cAT[n]?).getD 73) nm1 4 gL1 236 2 [(130,US),(137,XY),(132,.str []),(135,KZ)]
noncomputable def ttL:List (Str×Tok×Int×Tok):=[(Str.ofString "Doctype",532,0,533),(Str.ofString "Characters",534,1,535),(Str.ofString "SpaceCharacters",536,2,537),(Str.ofString "StartTag",538,3,539),
  (Str.ofString "EndTag",540,4,541),(Str.ofString "EmptyTag",542,5,543),(Str.ofString "Comment",544,6,545),(Str.ofString "ParseError",546,7,547)]
noncomputable def ZHx:List (Str×Tok×Value):=[(Str.ofString "AMP",299,.str (Str.ofString "&") 300),(Str.ofString "AMP;",302,.str (Str.ofString "&") 303),(Str.ofString "Eacute",305,.str (Str.ofString "\u00c9") 306), (Str.ofString "Eacute;", 308, .str (Str.ofString "\u00c9") 309), (Str.ofString "Mopf;", 311, .str (Str.ofString "𝕄") 312), (Str.ofString "ac;", 314, .str (Str.ofString "\u223e") 315), (Str.ofString "acE;", 317, .str (Str.ofString "\u223e\u0333") 318), (Str.ofString "acute", 320, .str (Str.ofString "\u00b4") 321), (Str.ofString "acute;", 323, .str (Str.ofString "\u00b4") 324), (Str.ofString "amp", 326, .str (Str.ofString "&") 327), (Str.ofString "amp;", 329, .str (Str.ofString "&") 330), (Str.ofString "ang;", 332, .str (Str.ofString "\u2220") 333), (Str.ofString "angle;", 335, .str (Str.ofString "\u2220") 336), (Str.ofString "bne;", 338, .str (Str.ofString "=\u20e5") 339), (Str.ofString "copy", 341, .str (Str.ofString "\u00a9") 342), (Str.ofString "copy;", 344, .str (Str.ofString "\u00a9") 345), (Str.ofString "eacute", 347, .str (Str.ofString "\u00e9") 348), (Str.ofString "eacute;", 350, .str (Str.ofString "\u00e9") 351), (Str.ofString "frac12", 353, .str (Str.ofString "\u00bd") 354), (Str.ofString "frac12;", 356, .str (Str.ofString "\u00bd") 357), (Str.ofString "gt", 359, .str (Str.ofString ">") 360), (Str.ofString "gt;", 362, .str (Str.ofString ">") 363), (Str.ofString "lt", 365, .str (Str.ofString "<") 366), (Str.ofString "lt;", 368, .str (Str.ofString "<") 369), (Str.ofString "nbsp", 371, .str (Str.ofString "\u00a0") 372), (Str.ofString "nbsp;", 374, .str (Str.ofString "\u00a0") 375), (Str.ofString "not", 377, .str (Str.ofString "\u00ac") 378), (Str.ofString "not;", 380, .str (Str.ofString "\u00ac") 381), (Str.ofString "notin;", 383, .str (Str.ofString "\u2209") 384), (Str.ofString "notni;", 386, .str (Str.ofString "\u220c") 387), (Str.ofString "para", 389, .str (Str.ofString "\u00b6") 390), (Str.ofString "para;", 392, .str (Str.ofString "\u00b6") 393), (Str.ofString "parallel;", 395, .str (Str.ofString "\u2225") 396), (Str.ofString "quot", 398, .str (Str.ofString "\"") 399),(Str.ofString "quot;",401,.str (Str.ofString "\"") 402),(Str.ofString "sup1",403,.str (Str.ofString "\u00b9") 404), (Str.ofString "sup1;", 405, .str (Str.ofString "\u00b9") 406), (Str.ofString "sup2", 407, .str (Str.ofString "\u00b2") 408), (Str.ofString "sup2;", 409, .str (Str.ofString "\u00b2") 410), (Str.ofString "sup;", 411, .str (Str.ofString "\u2283") 412), (Str.ofString "times", 413, .str (Str.ofString "\u00d7") 414), (Str.ofString "times;", 415, .str (Str.ofString "\u00d7") 416), (Str.ofString "timesb;", 417, .str (Str.ofString "\u22a0") 418)]
noncomputable def Kj (w : World) (l : List (Str × Tok × Value)) : List DictEntry := l.map fun p => ⟨hashStr w p.1, .str p.1 p.2.1, p.2.2⟩
section
variable {c : Cx} {F : Addr → Obj → Prop} {ρ : Id → Option Addr}
theorem Oi : ∀ l : List (Str × Tok × Value), Pairs (strKind c.prog c.w) (Kj c.w l) (l.map fun p => (p.1, p.2.2))
  | [] => .nil
  | p :: l => .cons (beq_self_eq_true p.1) rfl (Oi l)
theorem DB (hF : ∀ a o, c.K.lookup a = some o → F a o) : ∀ {l : List Mine.V} {xs : List Value}, chkVs c.K l xs = true → VRs c F ρ l xs
  | [], xs, h => Q5 h .nil
  | v :: l, [], h => ff h
  | v :: l, x :: xs, h => bA h fun a b => .cons (Yc hF a) (DB hF b)
theorem ZBZ {l : List (Str × Tok × Value)} {ks : List (List Nat)} {vs : List Mine.V} {a : Addr} {n : Nat} (hl : c.K.lookup a = some ⟨.type "dict", none, .dict (Kj c.w l).toArray n, #[]⟩)
    (hk : l.map (·.1) = ks.map toS) (hv : chkVs c.K vs (l.map (·.2.2)) = true) (hn : XT (l.map (·.1)) = true) (ha : (a == sysModules) = false) (hF : ∀ a o, c.K.lookup a = some o → F a o) : VR c F ρ (.dict ks vs) (.ref a) :=
  .dict (kvs := l.map fun p => (p.1, p.2.2)) (hF _ _ hl) ⟨_, _, ⟨rfl, rfl, rfl⟩, rfl, fun e he => by
    obtain ⟨p, hp, rfl⟩ := List.mem_map.mp (List.mem_toArray.mp he)
    exact ⟨p.1, beq_self_eq_true p.1, rfl⟩, Oi l, by rw [List.map_map]; exact YI hn⟩ (by rw [List.map_map]; exact hk) (by rw [List.map_map]; exact DB hF hv) ha
end
theorem ZAd : nmT.Nodup := by decide +kernel
theorem Bt : ∀ x ∈ nmT, x.head? ≠ some 0 := by decide +kernel
theorem ZCJ (i j : Nat) (h : nm1 i = nm1 j) : i = j := by
  unfold nm1 at h
  have h := UW h
  cases hi : nmT[i]? with
  | none =>
    cases hj : nmT[j]? with
    | none =>
      rw [hi, hj] at h
      simpa using congrArg List.length h
    | some y =>
      rw [hi, hj] at h
      have h : 0 :: List.replicate i 1 = y := h
      exact absurd (by rw [← h]; rfl) (Bt y (List.mem_of_getElem? hj))
  | some x =>
    cases hj : nmT[j]? with
    | none =>
      rw [hi, hj] at h
      have h : x = 0 :: List.replicate j 1 := h
      exact absurd (by rw [h]; rfl) (Bt x (List.mem_of_getElem? hi))
    | some y =>
      rw [hi, hj] at h
      have h : x = y := h
      subst h
      obtain ⟨hl, _⟩ := List.getElem?_eq_some_iff.mp hi
      exact (List.getElem?_inj hl ZAd).mp (hi.trans hj.symm)
theorem Gp {y : List Nat} (hy : y.head? ≠ some 0) (hn : y ∉ nmT) (i : Nat) : nm1 i ≠ toS y := fun h => by
  unfold nm1 at h
  have h := UW h
  cases hi : nmT[i]? with
  | none => rw [hi] at h; exact hy (by rw [← h]; rfl)
  | some x => rw [hi] at h; exact hn (h ▸ List.mem_of_getElem? hi)
theorem ZCK (i : Nat) : (nm1 i == ("__debug__" : Str)) = false := by
  have e : ("__debug__" : Str) = toS [95, 95, 100, 101, 98, 117, 103, 95, 95] := by decide +kernel
  rw [e, beq_eq_false_iff_ne]
  exact Gp (by decide) (by decide +kernel) i
theorem ZGH (i : Nat) : nm1 i ≠ (".0" : Str) := by
  have e : (".0" : Str) = toS [46, 48] := by decide +kernel
  rw [e]
  exact Gp (by decide) (by decide +kernel) i
noncomputable def Hw (wd : World) : List DictEntry := [⟨hashStr wd (Str.ofString "_data"), .str (Str.ofString "_data") 832, .ref 43⟩, ⟨hashStr wd (Str.ofString "_keys"), .str (Str.ofString "_keys") 834, .ref 243⟩, ⟨hashStr wd (Str.ofString "_cachestr"), .str (Str.ofString "_cachestr") 837, .str (Str.ofString "") 835⟩, ⟨hashStr wd (Str.ofString "_cachepoints"), .str (Str.ofString "_cachepoints") 842, .ref 246⟩]
structure Chk1 (prog : Program) (wd : World) (K : Frag) : Prop where
  fn : (21 :: (fAT ++ [268])).all (fnIn K) = true
  cls : (73 :: cAT).all (ID K) = true
  lim : K.lookup cStatics = some ⟨.none, none, .dict #[] 0, #[]⟩
  big : (K.lookup 3).isSome = true
  gl : gL1.map (fun p => nsIn K 3 (nm1 p.1)) = gL1.map (fun p => some (some p.2.2))
  gv : gLa.all (fun p => Ws K p.2.1 p.2.2) = true
  v88 : K.lookup 48 = some ⟨.type "dict", none, .dict (ND wd ttL).toArray 8, #[]⟩
  v167 : K.lookup 43 = some ⟨.type "dict", none, .dict (Kj wd ZHx).toArray 43, #[]⟩
  i1 : K.lookup 236 = some (instObj 230 235)
  i2 : K.lookup 235 = some (dictOf (Hw wd) 4)
  i3 : (Ws K XY (.ref 243) && Ws K KZ (.ref 246)) = true
  gen : NH (cx1 prog wd K) 74 m0 gM = true
  it : findIn K (.ref 762) "__iter__" = some (some (.ref 268))
  itF : typeIn K (.ref 268) = some (.type "function")
  defs : ∀ i m, JA tab i = some m → Ug (cx1 prog wd K) i m = true
theorem By {P : Nat → Bool} {l : List Nat} {d : Nat} (h : (d :: l).all P = true) (i : Nat) : P ((l[i]?).getD d) = true := by
  rw [List.all_eq_true] at h
  cases hi : l[i]? with
  | none => exact h d (.head _)
  | some x => exact h x (.tail _ (List.mem_of_getElem? hi))
noncomputable def ZGn : List Mine.V := match US with
  | .dict _ vs => vs
  | _ => []
noncomputable def ZGo : List (List Nat) := match US with
  | .dict ks _ => ks
  | _ => []
theorem ZFM {prog : Program} {wd : World} {K : Frag} (hbi : ∀ p ∈ Xa, nsIn K builtinsNs p.1 = some (some p.2)) (H : Chk1 prog wd K) : (cx1 prog wd K).Ok := by
  have hE : ∀ (F : Addr → Obj → Prop) (ρ : Id → Option Addr), (∀ a o, K.lookup a = some o → F a o) → VR (cx1 prog wd K) F ρ US (.ref 43) := fun F ρ hF => ZBZ (c := cx1 prog wd K) (ks := ZGo) (vs := ZGn) H.v167 (by decide +kernel) (by kernel_rfl) (by decide +kernel) (by decide) hF
  refine ⟨hbi, ZCJ, ZCK, ZGH, fun f => By H.fn f, fun C _ => By H.cls C, H.lim, Option.isSome_iff_exists.mp H.big, fun n v x h => JG H.gl (n, v, x) h, fun n v x h F ρ hF => ?_, fun _ => ⟨by show 2 < 4; decide, 235, Hw wd, 4, H.i1, H.i2, fun F ρ hF => ?_⟩⟩
  · rcases List.mem_cons.mp h with e | h
    · cases e
      exact ZDH (c := cx1 prog wd K) H.v88 (by decide +kernel) rfl (by decide +kernel) (by decide) hF
    rcases List.mem_cons.mp h with e | h
    · cases e
      exact .fn 0
    rcases List.mem_cons.mp h with e | h
    · cases e
      exact hE F ρ hF
    · exact Yc (c := cx1 prog wd K) hF (List.all_eq_true.mp H.gv _ h)
  · exact bA H.i3 fun h1 h2 => .cons (t := 832) (by kernel_rfl) (hE F ρ hF) (.cons (t := 834) (by kernel_rfl) (Yc (c := cx1 prog wd K) hF h1) (.cons (t := 837) (by kernel_rfl) (.str [] 835) (.cons (t := 842) (by kernel_rfl) (Yc (c := cx1 prog wd K) hF h2) .nil)))
end Mine
end
noncomputable section
set_option maxRecDepth 10000
set_option linter.unusedVariables false
open PySem PySem.Calls PyProof.Rows PySem.W
namespace Mine
theorem JJ.le {c : Cx} {r r' : Nat} {C : Ora} (H : JJ c r C) (h : r ≤ r') : JJ c r' C := fun _ _ _ _ _ _ _ _ _ _ _ _ hr => H (hr.le h)
theorem ZAe {l : List (Id × Ob)} {k i : Id} {x o : Ob} (hn : JA l k = none) (h : JA (l ++ [(k, x)]) i = some o) : JA ((k, x) :: l) i = some o := by
  show (if k = i then some x else JA l i) = some o
  induction l with
  | nil => exact h
  | cons p l ih =>
    obtain ⟨a, b⟩ := p
    have hk : ¬ a = k := fun e => nn ((if_pos e : JA ((a, b) :: l) k = some b).symm.trans hn).symm
    have h : (if a = i then some b else JA (l ++ [(k, x)]) i) = some o := h
    by_cases e : a = i
    · rw [if_pos e] at h
      rw [if_neg fun q : k = i => hk (e.trans q.symm), show JA ((a, b) :: l) i = some b from if_pos e]; exact h
    · rw [if_neg e] at h
      rw [show JA ((a, b) :: l) i = JA l i from if_neg e]
      exact ih ((if_neg hk).symm.trans hn) h
noncomputable def LP (s₁ : Shared) : Flow → Shared → Prop := fun f s' => f = .ret (.bool true) ∧ (∀ b o, s₁.heap.get? b = some o → s'.heap.get? b = some o) ∧ s'.os = s₁.os ∧ AllBare s'.gens
theorem ZF9 {c : Cx} (O : c.Ok) (defs : ∀ i m, JA tab i = some m → Ug c i m = true) : JJ c 16 CL :=
  have H3 : JJ c 6 C3 := Yn O defs 3
  Bo ((Ka (Z7 O defs H3)).le (by decide)) (Bo ((Ka (Ka (Z7 O defs H3))).le (by decide)) (Yn O defs 8))
noncomputable abbrev qN (ns : List Int) : Nat := (dr ns % 4).toNat
noncomputable abbrev dN (ns : List Int) : List Tok4 := Ur (Ja (nmN (qN ns))) (tlN (ktl (dr ns))).1 (t0 ns)
noncomputable abbrev tN (ns : List Int) : List Nat := txT (Ja (nmN (qN ns))) (tlN (ktl (dr ns))).1 (t0 ns)
theorem HR : ∀ x : List Nat, sz (x.flatMap tI) ≤ 2 * x.length
  | [] => Nat.le_refl _
  | a :: x => by
    have e : sz ((a :: x).flatMap tI) = sz (tI a) + sz (x.flatMap tI) := by
      show (JH (tI a ++ x.flatMap tI)).length = _
      rw [QY, List.length_append]; rfl
    have h : sz (tI a) ≤ 2 := by
      unfold tI
      exact ZI (fun l : List Tok4 => sz l ≤ 2) (fun _ => Nat.le_refl _) fun _ => Nat.le_succ _
    rw [e, List.length_cons, Nat.mul_succ, Nat.add_comm]
    exact Nat.add_le_add (HR x) h
theorem XB {l l' : List Tok4} : sz (l ++ l') = sz l + sz l' := by unfold sz; rw [QY, List.length_append]
theorem HU (l : List (List Nat)) : sz (l.map .er) = l.length := by unfold sz; rw [Kd]; exact List.length_map _
theorem ZDY : ∀ t ∈ J2, Nat.ble (sz (tlT t)) 10 = true := JG (by kernel_rfl)
theorem ZDZ : ∀ t ∈ J2, (tlT t).all Tok4.ok = true := JG (by kernel_rfl)
theorem H8 (l : List (List Nat)) : (l.map Tok4.er).all Tok4.ok = true := by rw [List.all_map]; exact List.all_eq_true.mpr fun _ _ => rfl
theorem ZFE {a b : Bool} : sz (emT a b) ≤ 2 := by cases a <;> cases b <;> exact Nat.le_of_ble_eq_true rfl
theorem ZBx {nm tl v : List Nat} (ht : tl ∈ J2) : (UK nm tl v).all Tok4.ok = true ∧ sz (UK nm tl v) ≤ 4 * v.length + 14 := by
  obtain ⟨f1, -⟩ := KY (c := cl? v) (ins v) [] []
  have f1 := Nat.le_trans f1 (Nat.succ_le_succ (Nat.mul_le_mul_left 4 (K8 v)))
  unfold UK
  cases hc : cl? v with
  | false =>
    rw [hc] at f1
    refine ⟨Qf (H8 _) rfl, ?_⟩
    rw [XB, HU]
    exact Nat.le_trans f1 (Nat.add_le_add_left (by decide : 1 ≤ 14) _)
  | true =>
    rw [hc] at f1
    refine ⟨Qf (H8 _) (Qf XZ.1 (ZDZ tl ht)), ?_⟩
    rw [XB, HU]
    show _ + sz (_ ++ _ :: tlT tl) ≤ _
    rw [XB, Ql]
    refine Nat.le_trans (Nat.add_le_add f1 (Nat.add_le_add ZFE (Nat.add_le_add (Nat.le_refl 1) (Nat.le_of_ble_eq_true (ZDY tl ht))))) (Nat.le_of_eq ?_)
    exact (Nat.succ_add (4 * v.length) 13)
theorem ZFG {n : Option (List Nat)} {tl tx : List Nat} (ht : tl ∈ J2) (hl : tx.length ≤ 300) : (Ur n tl tx).all Tok4.ok = true ∧ sz (Ur n tl tx) ≤ 100000 := by
  have h1 : ∀ x : List Nat, (x.flatMap tI).all Tok4.ok = true := fun x => List.all_eq_true.mpr fun t h => by
    obtain ⟨a, _, h⟩ := List.mem_flatMap.mp h
    revert h
    unfold tI
    refine ZI (fun l : List Tok4 => t ∈ l → t.ok = true) (fun _ h => ?_) fun _ h => ?_
    · rcases List.mem_cons.mp h with rfl | h
      · rfl
      · cases List.mem_singleton.mp h; rfl
    · cases List.mem_singleton.mp h; rfl
  have hs := Nat.le_trans (HR (tx.take (JO n tx))) (Nat.mul_le_mul_left 2 (Nat.le_trans (List.length_take_le' _ _) hl))
  unfold Ur
  cases hd : tx.drop (JO n tx) with
  | nil =>
    refine ⟨Qf (h1 _) rfl, ?_⟩
    rw [XB]
    exact Nat.le_trans hs (by decide)
  | cons a w =>
    obtain ⟨k1, k2⟩ := ZBx (nm := (ltr w.tail).map lowC) (v := JE w.tail) ht
    refine ⟨Qf (h1 _) k1, ?_⟩
    rw [XB]
    have hw : (JE w.tail).length ≤ 300 := by
      refine Nat.le_trans (dle _ _) (Nat.le_trans (by rw [List.length_tail]; exact Nat.sub_le _ _ : w.tail.length ≤ w.length) ?_)
      have := congrArg List.length hd
      rw [List.length_drop] at this
      exact Nat.le_trans (Nat.le_succ _) (Nat.le_trans (Nat.le_of_eq this.symm) (Nat.le_trans (Nat.sub_le _ _) hl))
    exact Nat.le_trans (Nat.add_le_add hs (Nat.le_trans k2 (Nat.add_le_add_right (Nat.mul_le_mul_left 4 hw) 14))) (by decide)
theorem ZDV {n : Option (List Nat)} {tl tx : List Nat} (ht : tl ∈ J2) (hl : tx.length ≤ 160) (ha : ∀ a ∈ tx, a ∈ al) : (∀ a ∈ txT n tl tx, a ∈ al) ∧ (txT n tl tx).length ≤ 900 := by
  have h1 : ∀ a ∈ tx.take (JO n tx), a ∈ al := fun a h => ha a (List.mem_of_mem_take h)
  have h2 := Nat.le_trans (List.length_take_le' (JO n tx) tx) hl
  have tl5 : ∀ t ∈ J2, Nat.ble t.length 5 = true := JG (by kernel_rfl)
  unfold txT
  cases hd : tx.drop (JO n tx) with
  | nil => exact ⟨fun a h => (List.mem_append.mp h).elim (h1 a) fun h => (nomatch h), by rw [List.length_append]; exact Nat.le_trans (Nat.add_le_add_right h2 0) (by decide)⟩
  | cons x w =>
    have hw : ∀ a ∈ w.tail, a ∈ al := fun a h => ha a (List.mem_of_mem_drop (hd ▸ List.Mem.tail _ (List.mem_of_mem_tail h) : a ∈ tx.drop (JO n tx)))
    have hwl : w.tail.length ≤ 160 := by
      refine Nat.le_trans (by rw [List.length_tail]; exact Nat.sub_le _ _ : w.tail.length ≤ w.length) ?_
      have := congrArg List.length hd
      rw [List.length_drop] at this
      exact Nat.le_trans (Nat.le_succ _) (Nat.le_trans (Nat.le_of_eq this.symm) (Nat.le_trans (Nat.sub_le _ _) hl))
    have hc : ∀ c : Bool, (∀ a ∈ clo c tl, a ∈ al) ∧ (clo c tl).length ≤ 6 := fun c => by
      cases c with
      | false => exact ⟨fun a h => (nomatch h), Nat.zero_le _⟩
      | true => exact ⟨fun a h => by
          cases h with
          | head => decide
          | tail _ h => exact Bh tl ht a h, Nat.succ_le_succ (Nat.le_of_ble_eq_true (tl5 tl ht))⟩
    obtain ⟨c1, c2⟩ := hc (cl? (JE w.tail))
    refine ⟨fun a h => ?_, ?_⟩
    · rcases List.mem_append.mp h with h | h
      · exact h1 a h
      rcases List.mem_cons.mp h with rfl | h
      · decide
      rcases List.mem_cons.mp h with rfl | h
      · decide
      rcases List.mem_append.mp h with h | h
      · exact NJ hw (List.takeWhile_prefix _) a h
      rcases List.mem_append.mp h with h | h
      · exact hw a (List.mem_of_mem_drop ((List.takeWhile_prefix _).subset h))
      · exact c1 a h
    · rw [List.length_append, List.length_cons, List.length_cons, List.length_append, List.length_append]
      refine Nat.le_trans (Nat.add_le_add h2 (Nat.succ_le_succ (Nat.succ_le_succ (Nat.add_le_add (Nat.le_trans (List.takeWhile_prefix _).length_le hwl) (Nat.add_le_add (Nat.le_trans (K8 _) (Nat.le_trans (dle _ _) hwl)) c2))))) (by decide)
end Mine
end
noncomputable section
set_option maxRecDepth 10000
set_option linter.unusedVariables false
open PySem PySem.Calls PyProof.Rows PySem.W
namespace Mine
theorem KU {P : Nat → Mine.V → Prop} {a i : Nat} {x v : Mine.V} {L : List (Nat × Mine.V)} (h1 : P a x) (h2 : JA L i = some v → P i v) (h : JA ((a, x) :: L) i = some v) : P i v := by
  rw [Q1] at h
  by_cases e : a = i
  · rw [if_pos e] at h
    exact e ▸ Option.some.inj h ▸ h1
  · rw [if_neg e] at h
    exact h2 h
theorem Hk {P : Nat → Mine.V → Prop} {a b d i : Nat} {x y z v : Mine.V} (h1 : P a x) (h2 : P b y) (h3 : P d z) : JA [(a, x), (b, y), (d, z)] i = some v → P i v := KU h1 (KU h2 (KU h3 fun h => nn h))
theorem YV {i : Id} {w : Mine.V} (n : Nat) : ∀ L : List (Nat × Mine.V), JA (J5 i w L) n = (JA L n).map (V.sb i w)
  | [] => rfl
  | (m, u) :: L => by
    show (if m = n then some (V.sb i w u) else JA (J5 i w L) n) = (if m = n then some u else JA L n).map _
    by_cases e : m = n
    · rw [if_pos e, if_pos e]; rfl
    · rw [if_neg e, if_neg e, YV n L]
theorem ZFq {i : Id} {w : Mine.V} : ∀ o : Option (List Nat), V.sb i w (nmV o) = nmV o
  | none => rfl
  | some _ => rfl
structure LG (c : Cx) (kn : Str → Option NameKind) (scope : Scope) (np px tp ep pos : Pos) : Prop where
  gen : NH c 74 m0 gM = true
  it : findIn c.K (.ref (c.cA 3)) "__iter__" = some (some (.ref (c.fA 74)))
  itF : typeIn c.K (.ref (c.fA 74)) = some (.type "function")
  k80 : kn (c.nm 80) = some .local
  k81 : kn (c.nm 81) = some .local
  k82 : kn (c.nm 82) = some .local
  k1 : kn (c.nm 1) = some .local
  k72 : kn (c.nm 72) = some .local
  hsc : Uu c scope kn 83 = true
  hsw : Wk (c.nm 82) np (.ListComp (.Name (c.nm 83) ep) [⟨.Name (c.nm 83) px, .Name (c.nm 81) tp, [], 0⟩] scope pos) = true
structure LS (c : Cx) (kn : Str → Option NameKind) (A : Around) (env : Env) (s₁ : Shared) : Prop where
  O : c.Ok
  defs : ∀ i m, JA tab i = some m → Ug c i m = true
  V : En env kn
  hr : JK A 20
  hrI : JK A.in1 15
  hall : ∀ a o, s₁.heap.get? a = some o → c.K.lookup a = some o
structure LD (q : Nat) (text : List Nat) (D : List Tok4) : Prop where
  ht : text.length ≤ 900
  ha : ∀ a ∈ text, a ∈ al
  hE : okE (Ja (nmN q)) text
  hokD : D.all Tok4.ok = true
  hfl : Mine.E (Ja (nmN q)) text = JH D
  hz : sz D ≤ 100000
section
variable {c : Cx} {A : Around} {env : Env} {kn : Str → Option NameKind} {S0 S1 S2 S3 S4 S5 S6 S7 S8 S9 S10 S12 S13 : Stmt} {E : Value → Shared → Prop} {g : Gh} {s s₁ : Shared} {text : List Nat} {cv v : Mine.V} {np px tp ep pos spos : Pos} {scope : Scope} {f q : Nat} {tb : Option (List Nat)} {l D : List Tok4} {sx : Sx}
theorem LS.r17 (G : LS c kn A env s₁) : JK A 17 := G.hr.le (by decide)
theorem LS.HL (G : LS c kn A env s₁) : JJ c 16 CL := ZF9 G.O G.defs
theorem ZGO (G : LS c kn A env s₁) (c12 : JV c kn L12 S12 = true) (c13 : JV c kn L13 S13 = true) (hcv : CvOk cv) (hA : At text [] sx) (hD : LD q text D) (hok : l.all Tok4.ok = true) (hfl : JH l = JH D) (hos : s.os = s₁.os) (hab : AllBare s.gens)
    (R : Rel c env g ⟨ZU text D l, hs sx (H0 f cv tb), 7, []⟩ s) : wpAny c.M A (execs [S12, S13] env) (LP s₁) E s := by
  have hll : l.length ≤ 100000 := Nat.le_trans (Yp hok) (by unfold sz; rw [hfl]; exact hD.hz)
  obtain ⟨M, h4, hMl, hM⟩ := ZCO (C := CL) (t := text) (D := D) (l := l) (H := hs sx (H0 f cv tb)) (nx := 7) (P := []) hll
  refine wpAny_execs_cons (QI G.O G.HL L12 G.V c12 G.r17 h4 R fun w₄ s5 g5 R5 X5 E5 => ?_)
  cases X5
  have h5 := ZCN (f := f) (tb := tb) (s := sx) hcv hA hD.ht hok hD.hokD hfl hD.hz hMl hM
  refine wpAny_execs_cons (QI G.O G.HL L13 G.V c13 G.r17 h5 R5 fun w₅ s6 g6 R6 X6 E6 => ?_)
  obtain ⟨x, rfl, hx⟩ := X6
  cases hx
  exact ⟨rfl, fun b o e => (R6.kin b o (G.hall _ _ e)).1, (congrArg Prod.snd E6.gens).trans ((congrArg Prod.snd E5.gens).trans hos), (show s6.gens = s.gens from (congrArg Prod.fst E6.gens).trans (congrArg Prod.fst E5.gens)) ▸ hab⟩
theorem ZEX (G : LS c kn A env s₁) (Z : LG c kn scope np px tp ep pos) (cs : (JV c kn L8 S8 && (JV c kn L9 S9 && (JV c kn L10 S10 && (JV c kn L12 S12 && JV c kn L13 S13)))) = true) (hD : LD q text D) (hos : s.os = s₁.os) (hg3 : s.gens = #[])
    (R : Rel c env g ⟨[(1, .str text), (66, nmV (nmN q)), (72, .list (vs D))], [], 0, []⟩ s) :
    wpAny c.M A (execs [S8, S9, S10, .Assign [.Name (c.nm 82) np] (.ListComp (.Name (c.nm 83) ep) [⟨.Name (c.nm 83) px, .Name (c.nm 81) tp, [], 0⟩] scope pos) spos, S12, S13] env) (LP s₁) E s := by
  refine bA cs fun c8 h => bA h fun c9 h => bA h fun c10 h => bA h fun c12 c13 => ?_
  refine wpAny_execs_cons (QI G.O G.HL L8 G.V c8 G.r17 (ZEO (.cons rfl .nil)) R fun w₁ s1 g1 R1 X1 E1 => ?_)
  cases X1
  refine wpAny_execs_cons (QI G.O G.HL L9 G.V c9 G.r17 (ZEN (.cons rfl .nil)) R1 fun w₂ s2 g2 R2 X2 E2 => ?_)
  cases X2
  refine wpAny_execs_cons (QI G.O G.HL L10 G.V c10 G.r17 (ZCP (o := nmN q) (.cons rfl (.cons rfl .nil))) R2 fun w₃ s3 g3 R3 X3 E3 => ?_)
  cases X3
  have e3 : gos s3 = gos s := E3.gens.trans (E2.gens.trans E1.gens)
  have HG : JJ c 12 CT := Br (Z7 G.O G.defs (Br (Yn G.O G.defs 5)))
  obtain ⟨fd, S0, t1, t2, t3, ye, b2, p1, p2, p3, yp, ep', GA, HGL⟩ := ZAp (m0 := m0) (gm := gM) G.O HG Z.gen
  obtain ⟨l, hok, hl2, sx, f, cv, tb, hA, hcv, hrun⟩ := ZD1 rfl hD.ht hD.ha hD.hE
  have hfl : JH l = JH D := hl2.trans hD.hfl
  have hll : l.length ≤ 100000 := Nat.le_trans (Yp hok) (by unfold sz; rw [hfl]; exact hD.hz)
  refine wpAny_execs_cons (ZEk (Q := _) G.O G.V.ok G.V.cells G.V.kn ((G.V.kn _).trans Z.k82) ((G.V.kn _).trans Z.k81) Z.hsc Z.hsw (f := 74) (Cl := 3) Z.it Z.itF GA HGL (G.hr.le (by decide)) (G.hrI.le (by decide)) (σ := ⟨[(1, .str text), (66, nmV (nmN q)), (72, .list (vs D)), (81, T0)], hpL text [(.t 0, .inst 3 (fsT (me 60) (cvO (nmN q))))], 6, []⟩) (σG := σG text (cvO (nmN q))) (loc' := OG text D) rfl rfl List.not_mem_nil ⟨rfl, fun i o h => ZAe rfl h, Nat.le_refl _, fun k h => h⟩ rfl ZAn hrun (by rw [List.length_map]; exact Nat.lt_of_le_of_lt hll (by decide)) (J7 l)
    (fun i v => Hk (P := fun i v => JA _ i = some v ∧ env.kindOf (c.nm i) = some .local ∧ (v = .obj (.t 0) ∨ ∀ j, Mine.V.no j v = true)) ⟨rfl, (G.V.kn _).trans Z.k1, .inr fun _ => rfl⟩ ⟨rfl, (G.V.kn _).trans Z.k81, .inl rfl⟩ ⟨rfl, (G.V.kn _).trans Z.k72, .inr fun j => J7 D⟩) R3 (.of_eq ((congrArg Prod.fst e3).trans hg3)) fun s4 g4 hos4 hab4 R4 => ?_)
  rw [sbZ hcv] at R4
  exact ZGO G c12 c13 hcv hA hD hok hfl (hos4.trans ((congrArg Prod.snd e3).trans hos)) hab4 R4
theorem Bq {i : Id} : ∀ ns : List Int, V.nos i (ns.map .int) = true
  | [] => rfl
  | _ :: ns => Bq ns
theorem ZGC {i : Id} : ∀ o : Option (List Nat), V.no i (nmV o) = true
  | none => rfl
  | some _ => rfl
theorem ZER {L : List (Nat × Mine.V)} : exc CL L5 ⟨L, [], 0, []⟩ = some (.next, ⟨put L 72 (.obj (.p 53)), hD [], 0, [53]⟩) := by kernel_rfl
theorem ZEY {ns : List Int} (G : LS c kn A env s₁) (c4 : JV c kn L4 S4 = true) (c5 : JV c kn L5 S5 = true) (c6 : JV c kn L6 S6 = true) (c7 : JV c kn L7 S7 = true) {r : List Stmt} {L : List (Nat × Mine.V)} {Q : Flow → Shared → Prop}
    (k : Kn L [(1, .str (t0 ns)), (66, nmV (nmN (qN ns))), (172, .str (tlN (ktl (dr ns))).1), (173, .str (tlN (ktl (dr ns))).2.1), (174, .str (tlN (ktl (dr ns))).2.2)]) (N : NoQ L)
    (K : ∀ s' g', gos s' = gos s → Rel c env g' ⟨[(1, .str (tN ns)), (66, nmV (nmN (qN ns))), (72, .list (vs (dN ns)))], [], 0, []⟩ s' → wpAny c.M A (execs r env) Q E s')
    (R : Rel c env g ⟨L, [], 0, []⟩ s) : wpAny c.M A (execs (S4 :: S5 :: S6 :: S7 :: r) env) Q E s := by
  have hb : (t0 ns).length ≤ 900 := Nat.le_trans (XA ns) (by decide)
  refine wpAny_execs_cons (QI G.O G.HL L4 G.V c4 G.r17 (ZES (k' := qN ns) (.cons (k.get 1 rfl) (.cons (k.get 66 rfl) .nil)) hb (Y7 ns)) R fun w₁ s1 g1 R1 X1 E1 => ?_)
  cases X1
  have k1 := (k.put 37 (.int (JO (Ja (nmN (qN ns))) (t0 ns) : Nat))).put 72 (.obj (.p 53))
  have N1 := (N.put 37 (v := .int (JO (Ja (nmN (qN ns))) (t0 ns) : Nat)) fun _ _ => rfl).put 72 Wo
  refine wpAny_execs_cons (QI G.O G.HL L5 G.V c5 G.r17 ZER R1 fun w₂ s2 g2 R2 X2 E2 => ?_)
  cases X2
  obtain ⟨L6', h6, k6, N6⟩ := ZEQ (tx := t0 ns) (e := JO (Ja (nmN (qN ns))) (t0 ns)) hb k1 N1 rfl rfl rfl rfl
  refine wpAny_execs_cons (QI G.O G.HL L6 G.V c6 G.r17 h6 R2 fun w₃ s3 g3 R3 X3 E3 => ?_)
  cases X3
  obtain ⟨L7', h7, k7, N7⟩ := ZEP (q := qN ns) (d := dr ns) (Nat.le_trans (XA ns) (by decide)) (Y7 ns) (.cons (k6.get 1 rfl) (.cons (k6.get 66 rfl) (.cons (k6.get 172 rfl) (.cons (k6.get 173 rfl) (.cons (k6.get 174 rfl) (.cons (k6.get 37 rfl) (.cons (k6.get 72 rfl) .nil))))))) N6
  refine wpAny_execs_cons (QI G.O G.HL L7 G.V c7 G.r17 h7 R3 fun w₄ s4 g4 R4 X4 E4 => ?_)
  cases X4
  obtain ⟨R5, -⟩ := YX (k := 53) (vs := vs (dN ns)) R4 rfl (J7 _)
  refine K s4 _ (E4.gens.trans (E3.gens.trans (E2.gens.trans E1.gens))) (R5.sub (fun i v => Hk (P := fun i v => JA (J5 (.p 53) (.list (vs (dN ns))) L7') i = some v) ?_ ?_ ?_) (fun i o e => nomatch e) (Nat.le_refl _) fun k h => nomatch h)
  · rw [YV, k7.get 1 rfl]; rfl
  · rw [YV, k7.get 66 rfl]
    exact congrArg some (ZFq _)
  · rw [YV, k7.get 72 rfl]; rfl
end
end Mine
end
noncomputable section
set_option maxRecDepth 10000
set_option linter.unusedVariables false
open PySem PySem.Calls PyProof.Rows PySem.W
namespace Mine
theorem ZGP {c : Cx} {A : Around} {env : Env} {kn : Str → Option NameKind} {S0 S1 S2 S3 S4 S5 S6 S7 S8 S9 S10 S12 S13 : Stmt} {E : Value → Shared → Prop} {s s₁ : Shared} {np px tp ep pos spos : Pos} {scope : Scope}
    {P : Params} {a L : Addr} {m : Str → Option Value} {ns : List Int} (G : LS c kn A env s₁) (Z : LG c kn scope np px tp ep pos) (hin : ∀ a o, c.K.lookup a = some o → s₁.heap.get? a = some o)
    (hg : s₁.gens = #[]) (W : Well P s₁.heap (.ref a) (ofPy (.list (ns.map PyData.int)))) (hlen : ns.length ≤ 1000) (F : Fr s₁.heap L s.heap m) (hL : env.locals = L) (hm : m (c.nm 80) = some (.ref a)) (hsg : s.gens = s₁.gens) (hso : s.os = s₁.os) (hst : 0 < s.toks)
    (cs : (JV c kn L0 S0 && (JV c kn L1 S1 && (JV c kn L2 S2 && (JV c kn L3 S3 && (JV c kn L4 S4 && (JV c kn L5 S5 && (JV c kn L6 S6 && (JV c kn L7 S7 && (JV c kn L8 S8 && (JV c kn L9 S9 && (JV c kn L10 S10 && (JV c kn L12 S12 && JV c kn L13 S13)))))))))))) = true) :
    wpAny c.M A (execs [S0, S1, S2, S3, S4, S5, S6, S7, S8, S9, S10, .Assign [.Name (c.nm 82) np] (.ListComp (.Name (c.nm 83) ep) [⟨.Name (c.nm 83) px, .Name (c.nm 81) tp, [], 0⟩] scope pos) spos, S12, S13] env) (LP s₁) E s := by
  refine bA cs fun c0 h => bA h fun c1 h => bA h fun c2 h => bA h fun c3 h => bA h fun c4 h => bA h fun c5 h => bA h fun c6 h => bA h fun c7 cs => ?_
  obtain ⟨vs, hao, hvs⟩ := Tj W
  have R0 : Rel c env g0 ⟨[(80, .list (ns.map .int))], [], 0, []⟩ s := ZAY (h₀ := s₁.heap) hin F hL hm ((G.V.kn _).trans Z.k80) (fun F ρ hF => .list (items := vs.toArray) (n := 0) (hF _ _ (G.hall _ _ hao)) (hvs c F ρ)) hst
  refine wpAny_execs_cons (QI G.O G.HL L0 G.V c0 G.r17 (ZEW hlen) R0 fun w₀ s0 g0' R1 X0 E0 => ?_)
  cases X0
  refine wpAny_execs_cons (QI G.O G.HL L1 G.V c1 G.r17 ZEV R1 fun w₁ s1 g1 R2 X1 E1 => ?_)
  cases X1
  refine wpAny_execs_cons (QI G.O G.HL L2 G.V c2 G.r17 ZEU R2 fun w₂ s2 g2 R3 X2 E2 => ?_)
  cases X2
  refine wpAny_execs_cons (QI G.O G.HL L3 G.V c3 G.r17 (ZET hlen) R3 fun w₃ s3 g3 R4 X3 E3 => ?_)
  cases X3
  have N : NoQ (lE3 ns (dr ns) ++ [(1, .str (t0 ns))]) := fun k w _ => by
    show [(80, Mine.V.list (V.sbs (.p k) w (ns.map .int))), (175, .int (dr ns)), (66, V.sb (.p k) w (nmV (nmN (dr ns % 4).toNat))), (172, .str (tlN (ktl (dr ns))).1), (173, .str (tlN (ktl (dr ns))).2.1), (174, .str (tlN (ktl (dr ns))).2.2), (1, .str (t0 ns))] = _
    rw [V.sbs_no _ (Bq ns), V.sb_no _ (ZGC _)]; rfl
  refine ZEY G c4 c5 c6 c7 (ns := ns) (.cons rfl (.cons rfl (.cons rfl (.cons rfl (.cons rfl .nil))))) N (fun s' g' hgo R5 => ?_) R4
  have e5 : gos s' = gos s := hgo.trans (E3.gens.trans (E2.gens.trans (E1.gens.trans E0.gens)))
  obtain ⟨hE, hE2⟩ := ZFH (n := Ja (nmN (qN ns))) (NP (dr ns)) (Y7 ns)
  obtain ⟨hD, hz⟩ := ZFG (n := Ja (nmN (qN ns))) (tx := t0 ns) (NP (dr ns)) (Nat.le_trans (XA ns) (by decide))
  obtain ⟨hT, hTl⟩ := ZDV (n := Ja (nmN (qN ns))) (NP (dr ns)) (XA ns) (Y7 ns)
  exact ZEX G Z cs ⟨hTl, hT, hE2, hD, hE, hz⟩ ((congrArg Prod.snd e5).trans hso) ((congrArg Prod.fst e5).trans (hsg.trans hg)) R5
theorem ZAf {prog : Program} {w : World} {K0 : Frag} {P : Params} {s₁ s : Shared} {a : Addr} {mb m : Str → Option Value} {A : Around} {env : Env} {L : Addr} {ns : List Int} {S0 S1 S2 S3 S4 S5 S6 S7 S8 S9 S10 S12 S13 : Stmt} {kn : Str → Option NameKind}
    {y82 y83 y81 : Str} {np px tp ep pos spos : Pos} {scope : Scope} {E : Value → Shared → Prop} {c : Cx} (hc : c = cx1 prog w (K0 ++ Xb s₁.heap))
    (KX : K0.In s₁.heap) (hb : s₁.heap.Ns builtinsNs mb) (hbi : ∀ x : Str, x ≠ "__name__" → mb x = bootBuiltins x) (hg : s₁.gens = #[]) (W : Well P s₁.heap (.ref a) (ofPy (.list (ns.map PyData.int)))) (hlen : ns.length ≤ 1000)
    (F : Fr s₁.heap L s.heap m) (hL : env.locals = L) (hm : m (nm1 80) = some (.ref a)) (hsg : s.gens = s₁.gens) (hso : s.os = s₁.os) (hst : 0 < s.toks)
    (VV : EnvOk env) (VC : W4 env) (hkn : ∀ x, env.kindOf x = kn x) (hr : JK A 20) (hrI : JK A.in1 15)
    (H : Chk1 prog w (K0 ++ Xb s₁.heap)) (hk : ([80, 81, 82, 1, 72].all fun n => kn (nm1 n) == some .local) = true) (e82 : y82 = nm1 82) (e83 : y83 = nm1 83) (e81 : y81 = nm1 81)
    (cs : (JV c kn L0 S0 && (JV c kn L1 S1 && (JV c kn L2 S2 && (JV c kn L3 S3 && (JV c kn L4 S4 && (JV c kn L5 S5 && (JV c kn L6 S6 && (JV c kn L7 S7 && (JV c kn L8 S8 && (JV c kn L9 S9 && (JV c kn L10 S10 && (JV c kn L12 S12 && JV c kn L13 S13)))))))))))) = true)
    (hsc : Uu c scope kn 83 = true) (hsw : Wk y82 np (.ListComp (.Name y83 ep) [⟨.Name y83 px, .Name y81 tp, [], 0⟩] scope pos) = true) :
    wpAny (model prog w) A (execs [S0, S1, S2, S3, S4, S5, S6, S7, S8, S9, S10, .Assign [.Name y82 np] (.ListComp (.Name y83 ep) [⟨.Name y83 px, .Name y81 tp, [], 0⟩] scope pos) spos, S12, S13] env) (LP s₁) E s := by
  subst e82 e83 e81 hc
  have hall := fun {a o} e => ZDR (K := K0) KX (a := a) (o := o) e
  exact bA hk fun k80 h => bA h fun k81 h => bA h fun k82 h => bA h fun k1 h => bA h fun k72 _ =>
    ZGP (c := cx1 prog w (K0 ++ Xb s₁.heap)) ⟨ZFM (ZHH (fun a o e => hall e) hb hbi) H, H.defs, ⟨VV, VC, hkn⟩, hr, hrI, fun a o e => hall e⟩ ⟨H.gen, H.it, H.itF, beq_iff_eq.mp k80, beq_iff_eq.mp k81, beq_iff_eq.mp k82, beq_iff_eq.mp k1, beq_iff_eq.mp k72, hsc, hsw⟩ (fun a o e => ZFa KX a o e) hg W hlen F hL hm hsg hso hst cs
noncomputable def KA : List (Str × NameKind) := [(Str.ofString "script", NameKind.local), (Str.ofString "draws", NameKind.local), (Str.ofString "name", NameKind.local), (Str.ofString "written", NameKind.local), (Str.ofString "fault", NameKind.local), (Str.ofString "told", NameKind.local), (Str.ofString "text", NameKind.local), (Str.ofString "end", NameKind.local), (Str.ofString "due", NameKind.local), (Str.ofString "sign", NameKind.local), (Str.ofString "start", NameKind.local), (Str.ofString "close", NameKind.local), (Str.ofString "inside", NameKind.local), (Str.ofString "faults", NameKind.local), (Str.ofString "names", NameKind.local), (Str.ofString "closing", NameKind.local), (Str.ofString "t", NameKind.local), (Str.ofString "got", NameKind.local), (Str.ofString "marks", NameKind.local), (Str.ofString "sum", NameKind.globalImplicit), (Str.ofString "_law_NAMES", NameKind.globalImplicit), (Str.ofString "_law_TAILS", NameKind.globalImplicit), (Str.ofString "_law_end", NameKind.globalImplicit), (Str.ofString "_law_fault", NameKind.globalImplicit), (Str.ofString "_law_plain", NameKind.globalImplicit), (Str.ofString "len", NameKind.globalImplicit), (Str.ofString "_law_inside", NameKind.globalImplicit), (Str.ofString "tokenTypes", NameKind.globalImplicit), (Str.ofString "HTMLTokenizer", NameKind.globalImplicit), (Str.ofString "_law_joined",NameKind.globalImplicit)]
theorem BL {β:Type}:∀ {l:List (Nat×β)} {a:Nat} {b:β},JA l a=some b→(a,b)∈l
  | [],_,_,h=>nn h
  | (x,y) :: l,a,b,h=>by
    rw [Q1] at h
    by_cases e:x=a
    · rw [if_pos e] at h
      exact e▸Option.some.inj h▸.head _
    · rw [if_neg e] at h; exact .tail _ (BL h)
theorem ZDI {c:Cx} (h:∀ p∈tab,Ug c p.1 p.2=true) (i:Nat) (m:MFun) (e:JA tab i=some m):Ug c i m=true:=h _ (BL e)
theorem DY {A:Around} {r:Nat} (h1:A.handled=none) (h2:decide (A.depth + r < recursionLimit)=true) (h3:decide (A.units + 20 * r + 300 < cLine)=true):JK A r:=⟨h1,of_decide_eq_true h2,of_decide_eq_true h3⟩
theorem ZAH (x:Str) (h:List.lookup x KA=some .cell):False:=by
  have hm:=Zn h
  have:∀ p∈KA,p.2≠.cell:=by decide +kernel
  exact this _ hm rfl
end Mine
end
namespace Mine.hx
abbrev T := True
theorem t : T := .intro
theorem tw2722494911219165771:T:=t
theorem tw17490039241966878470:T:=t
theorem tw13121428878594284678:T:=t
theorem tw8689431418697317241:T:=t
theorem tw13994185481600150508:T:=t
theorem tw7686487335969427304:T:=t
theorem tw12244323609287083244:T:=t
theorem tw12687340035147016154:T:=t
theorem tw13733672604495292696:T:=t
theorem tw3802569660202298772:T:=t
theorem tw663058311725963850:T:=t
theorem tw4149262921692028645:T:=t
theorem tw14319195189009250854:T:=t
theorem tw6472239261815649849:T:=t
theorem tw12369505070293475891:T:=t
theorem tw16403607636861804150:T:=t
theorem tw11651215647737651630:T:=t
theorem tw6514015525448506650:T:=t
theorem tw6930950759929274386:T:=t
theorem tw9982322316060899277:T:=t
theorem tw616740878971486716:T:=t
theorem tw15446179714025208549:T:=t
theorem tw4464470257532119317:T:=t
theorem tw2287549446805351391:T:=t
theorem tw4138548494544933065:T:=t
theorem tw4293664988331523337:T:=t
theorem tw3399465718499267812:T:=t
theorem tw1680849517792564725:T:=t
theorem tw8719310546069769394:T:=t
theorem tw3601925729670787442:T:=t
theorem tw8873234333678795470:T:=t
theorem tw16175857573809386902:T:=t
theorem tw11153406825157011147:T:=t
theorem tw1011593914326734453:T:=t
theorem tw15466940415637129421:T:=t
theorem tw13835724759982542066:T:=t
theorem tw4269251904459062986:T:=t
theorem tw12592994705595984505:T:=t
theorem tw1415654423932628287:T:=t
theorem tw3762958163772505196:T:=t
theorem tw12686574865534796699:T:=t
theorem tw12847005640276605815:T:=t
theorem tw9166759312617231822:T:=t
theorem tw15744881008354321025:T:=t
theorem tw6836243782229160083:T:=t
theorem tw9098983783718519904:T:=t
theorem tw15162508186903103783:T:=t
theorem tw14743528497057034386:T:=t
theorem tw12938584960106786947:T:=t
theorem tw1285434511704224072:T:=t
theorem tw13327334872544604925:T:=t
theorem tw2736625963029525553:T:=t
theorem tw11542809368468670571:T:=t
theorem tw8526741685566437804:T:=t
theorem tw5987738072841988675:T:=t
theorem tw6103871502414683963:T:=t
theorem tw2580623763806008135:T:=t
theorem tw18163383231904437410:T:=t
theorem tw1727578327119604153:T:=t
theorem tw9756176730170026455:T:=t
theorem tw9818837363699442920:T:=t
theorem tw8637709855103031028:T:=t
theorem tw14618633012687346700:T:=t
theorem tw7006290627943131901:T:=t
theorem tw13003758396033250783:T:=t
theorem tw6700631356736508036:T:=t
theorem tw4439321647937447777:T:=t
theorem tw16909937564651206706:T:=t
theorem tw15024933671316692954:T:=t
theorem tw12485916779449614927:T:=t
theorem tw7462397087798485187:T:=t
theorem tw17623875274069940759:T:=t
theorem tw2924628002121016683:T:=t
theorem tw17271321868219357104:T:=t
theorem tw7590231348009606088:T:=t
theorem tw3457709029089074591:T:=t
theorem tw13273623471580055978:T:=t
theorem tw7891766511613034010:T:=t
theorem tw15215796203213042296:T:=t
theorem tw6661460279421622568:T:=t
theorem tw14626987222883238387:T:=t
theorem tw2358503780328766540:T:=t
theorem tw584368869492153410:T:=t
theorem tw14564351093087913541:T:=t
theorem tw11605663943579434254:T:=t
theorem tw6954632005528137224:T:=t
theorem tw9464382187203803050:T:=t
theorem tw8360991337320666301:T:=t
theorem tw9580753470902210594:T:=t
theorem tw10807983823035302247:T:=t
theorem tw16440296595461833803:T:=t
theorem tw4283430462085702152:T:=t
theorem tw13861093565919502260:T:=t
theorem tw1089165632158530400:T:=t
theorem tw5302141714640544522:T:=t
theorem tw13970432741380693950:T:=t
theorem tw3840107357115572158:T:=t
theorem tw12770057050171300576:T:=t
theorem tw15558058551083894160:T:=t
theorem tw18272945143815115441:T:=t
theorem tw7575134019868595920:T:=t
theorem tw11306379504899602045:T:=t
theorem tw1182544225761112738:T:=t
theorem tw2710400381458813344:T:=t
theorem tw10916607958114097716:T:=t
theorem tw1277046806435012942:T:=t
theorem tw17329162247811163424:T:=t
theorem tw16816359877758261231:T:=t
theorem tw8079086679360255983:T:=t
theorem tw9386880952526680653:T:=t
theorem tw17882310838744935415:T:=t
theorem tw18376012014735405661:T:=t
theorem tw1217080896915090328:T:=t
theorem tw5835382612795334523:T:=t
theorem tw15929811917968181784:T:=t
theorem tw10413734220558041264:T:=t
theorem tw18141915107381044649:T:=t
theorem tw11150338070433746062:T:=t
theorem tw5841609243541674958:T:=t
theorem tw6094537120995972945:T:=t
theorem tw16562810249119712046:T:=t
theorem tw173491282623094914:T:=t
theorem tw4331322168288796995:T:=t
theorem tw3245460484126576377:T:=t
theorem tw8177863064353930860:T:=t
theorem tw1100523350065315309:T:=t
theorem tw18332205937138622689:T:=t
theorem tw14897263000708364615:T:=t
theorem tw3750262793593453663:T:=t
theorem tw11068639925614717322:T:=t
theorem tw8812941233019382706:T:=t
theorem tw8013753438709209555:T:=t
theorem tw15414558616249902002:T:=t
theorem tw1106535952462682261:T:=t
theorem tw6030892366491303188:T:=t
theorem tw8461401184963371166:T:=t
theorem tw5863528539954413117:T:=t
theorem tw18215676871104998399:T:=t
theorem tw16220354117797179089:T:=t
theorem tw3151352308241419672:T:=t
theorem tw4601627501900363749:T:=t
theorem tw663216957817655072:T:=t
theorem tw4621005963601903657:T:=t
theorem tw15533950225396448702:T:=t
theorem tw2035867306989460822:T:=t
theorem tw16424919972379304380:T:=t
theorem tw17925394340532287749:T:=t
theorem tw12991532671812350252:T:=t
theorem tw292709383975957704:T:=t
theorem tw12260432941604002497:T:=t
theorem tw607712491831585991:T:=t
theorem tw3767164605852734177:T:=t
theorem tw14511709716187995092:T:=t
theorem tw8280520150143245440:T:=t
theorem tw4459410774582096363:T:=t
theorem tw15536713197984420945:T:=t
theorem tw9229111910879503682:T:=t
theorem tw6234722803267601620:T:=t
theorem tw5517287800428746079:T:=t
theorem tw16842200711778894795:T:=t
theorem tw15515426146827161799:T:=t
theorem tw12294144641388205969:T:=t
theorem tw1362163949497883158:T:=t
theorem tw2199997441397630927:T:=t
theorem tw12103094082663812918:T:=t
theorem tw13173629366862862663:T:=t
theorem tw5044738186272462081:T:=t
theorem tw2899951234114317963:T:=t
theorem tw15396066670179936615:T:=t
theorem tw15882349035831147880:T:=t
theorem tw14621872504664255023:T:=t
theorem tw5258523180806066235:T:=t
theorem tw2101144305115712416:T:=t
theorem tw1213227437831104790:T:=t
theorem tw14044817671008982184:T:=t
theorem tw6912957689366828898:T:=t
theorem tw1375955018112806077:T:=t
theorem tw12389214559413477026:T:=t
theorem tw17683900609896704795:T:=t
theorem tw11213325380585884853:T:=t
theorem tw9838419238923530799:T:=t
theorem tw14234647318738002451:T:=t
theorem tw15622713162970399124:T:=t
theorem tw13307316372228832604:T:=t
theorem tw12392353606877693820:T:=t
theorem tw6150637109426312374:T:=t
theorem tw2598453218603719200:T:=t
theorem tw13987342028335386337:T:=t
theorem tw4036626835755369765:T:=t
theorem tw17809212181156274236:T:=t
theorem tw3943997633466964473:T:=t
theorem tw11092232630674199974:T:=t
theorem tw9813795721771584830:T:=t
theorem tw1633863039109725667:T:=t
theorem tw3146596328094197638:T:=t
theorem tw3316146503202191264:T:=t
theorem tw12796349732060051669:T:=t
theorem tw5973647403945334939:T:=t
theorem tw9859013073388247969:T:=t
theorem tw11031246882950601735:T:=t
theorem tw18436102530548493083:T:=t
theorem tw13835442340154775703:T:=t
theorem tw8579013771545413559:T:=t
theorem tw1749809594243765621:T:=t
theorem tw2065282591040969955:T:=t
theorem tw1550649239420292291:T:=t
theorem tw8346943369959206681:T:=t
theorem tw7135545248255827829:T:=t
theorem tw8136324640566705494:T:=t
theorem tw14580385827833458236:T:=t
theorem tw13503048917051318853:T:=t
theorem tw4496917712743702866:T:=t
theorem tw13343930504226383752:T:=t
theorem tw2923197144701775926:T:=t
theorem tw3497297687653118206:T:=t
theorem tw15719070241404046249:T:=t
theorem tw206405052526537190:T:=t
theorem tw13516186739440186774:T:=t
theorem tw12327228567736898484:T:=t
theorem tw11235557421540341822:T:=t
theorem tw16589706772153868580:T:=t
theorem tw17935817764870156833:T:=t
theorem tw10665394928749936821:T:=t
theorem tw8724208511557814752:T:=t
theorem tw14648767878841662682:T:=t
theorem tw15495526600766341446:T:=t
theorem tw10032705692053745590:T:=t
theorem tw8456879437349519581:T:=t
theorem tw15225155743707457426:T:=t
theorem tw15088012910613175391:T:=t
theorem tw2690994299918733986:T:=t
theorem tw5458019789550090450:T:=t
theorem tw17470671377001224703:T:=t
theorem tw13959426194186691099:T:=t
theorem tw15822566648252787351:T:=t
theorem tw11113180872011636366:T:=t
theorem tw15192764956840726322:T:=t
theorem tw16876156297239570298:T:=t
theorem tw13817252110603802430:T:=t
theorem tw9533102366209435770:T:=t
theorem tw15871474243252748558:T:=t
theorem tw15723387810056000692:T:=t
theorem tw6663271504411264886:T:=t
theorem tw4790614838382506437:T:=t
theorem tw7602591636524428644:T:=t
theorem tw13332032050029514827:T:=t
theorem tw6386498509896015619:T:=t
theorem tw4149058065308597245:T:=t
theorem tw8146969407493219791:T:=t
theorem tw11179572112720946581:T:=t
theorem tw16768336167809996915:T:=t
theorem tw1995053994498031341:T:=t
theorem tw12064557612275603510:T:=t
theorem tw9274210203733589373:T:=t
theorem tw14789575009835510191:T:=t
theorem tw424504289860297139:T:=t
theorem tw15573648297817959892:T:=t
theorem tw16461100926929236453:T:=t
theorem tw11592700142680101160:T:=t
theorem tw3276714930261760037:T:=t
theorem tw16751661018229691023:T:=t
theorem tw3064612590093021604:T:=t
theorem tw11828892080821551344:T:=t
theorem tw17654875645198222230:T:=t
theorem tw9253537096709452137:T:=t
theorem tw819323422259667789:T:=t
theorem tw4778239293986166988:T:=t
theorem tw3053297864210675017:T:=t
theorem tw5079612726228634382:T:=t
theorem tw2513472254534321444:T:=t
theorem tw386089926610526211:T:=t
theorem tw12736376338062017885:T:=t
theorem tw586116338256856407:T:=t
theorem tw4535242917892251827:T:=t
theorem tw6645837424847773088:T:=t
theorem tw4638685165426952821:T:=t
theorem tw11191459938088770506:T:=t
theorem tw1927792282007945085:T:=t
theorem tw17626744831489513375:T:=t
theorem tw8916866690797206258:T:=t
theorem tw11398092985049769381:T:=t
theorem tw11576060578404032109:T:=t
theorem tw14031144883048642870:T:=t
theorem tw14820731338257822114:T:=t
theorem tw13887421244684101553:T:=t
theorem tw380438602855622199:T:=t
theorem tw6893509615905794137:T:=t
theorem tw4374200977429756228:T:=t
theorem tw1837536587343590555:T:=t
theorem tw7778657530300345364:T:=t
theorem tw3772895889506965678:T:=t
theorem tw12214142614001633608:T:=t
theorem tw9728688711462037987:T:=t
theorem tw13100434611214814302:T:=t
theorem tw14643307926423651170:T:=t
theorem tw17769805437143071325:T:=t
theorem tw6638917229641446417:T:=t
theorem tw14728151803300476778:T:=t
theorem tw16049945830730340309:T:=t
theorem tw11529457255951468018:T:=t
theorem tw4328668841899091544:T:=t
theorem tw1430225812903672249:T:=t
theorem tw10775750784532548772:T:=t
theorem tw9327343547758340640:T:=t
theorem tw13348707166376220045:T:=t
theorem tw13550084529305936786:T:=t
theorem tw540753489051694059:T:=t
theorem tw8313530265402521625:T:=t
theorem tw8720997637451098481:T:=t
theorem tw4925180145992722077:T:=t
theorem tw13418063953174990607:T:=t
theorem tw3005603348570663604:T:=t
theorem tw2356886095614281275:T:=t
theorem tw16670953707802882552:T:=t
theorem tw512089013297016134:T:=t
theorem tw14892758982169950362:T:=t
theorem tw13540067391981041044:T:=t
theorem tw11583711831427307319:T:=t
theorem tw2462484140620534453:T:=t
theorem tw10669548194688061899:T:=t
theorem tw13541313388752826813:T:=t
theorem tw16427613422207729866:T:=t
theorem tw11906715856835866592:T:=t
theorem tw13726367727983386747:T:=t
theorem tw634369046800973281:T:=t
theorem tw2933574226750363228:T:=t
theorem tw8866640492970853812:T:=t
theorem tw3763460144122106664:T:=t
theorem tw34971102862420792:T:=t
theorem tw18214102734720347575:T:=t
theorem tw14063277586053297487:T:=t
theorem tw4736886695178322556:T:=t
theorem tw3803119400003127940:T:=t
theorem tw2614121834998817442:T:=t
theorem tw5279657954283368098:T:=t
theorem tw15761037773510429378:T:=t
theorem tw7924969997821631868:T:=t
theorem tw11606427810006902776:T:=t
theorem tw16439351170449580089:T:=t
theorem tw12866121850660868255:T:=t
theorem tw4027200573524075328:T:=t
theorem tw12886684066980348408:T:=t
theorem tw11803736057804005719:T:=t
theorem tw14737546165473383909:T:=t
theorem tw17034685950025090854:T:=t
theorem tw3126803895974666599:T:=t
theorem tw7641737541655678421:T:=t
theorem tw8652588082031224057:T:=t
theorem tw8374021121780711109:T:=t
theorem tw5663202204576575629:T:=t
theorem tw8791178820788453978:T:=t
theorem tw4994087634880098733:T:=t
theorem tw11855829562293527186:T:=t
theorem tw1206601256437087541:T:=t
theorem tw14344502140286423506:T:=t
theorem tw4032430191049862950:T:=t
theorem tw12943594393411517771:T:=t
theorem tw16297621413855188116:T:=t
theorem tw11571822667871770767:T:=t
theorem tw16940700322699712139:T:=t
theorem tw11876984885562000650:T:=t
theorem tw17244838754368169183:T:=t
theorem tw3874887093996765642:T:=t
theorem tw2448402593769926005:T:=t
theorem tw12057496179364575986:T:=t
theorem tw15283793992842430438:T:=t
theorem tw2428139205326471388:T:=t
theorem tw856499453091330405:T:=t
theorem tw8893464231985360406:T:=t
theorem tw9279888435216144913:T:=t
theorem tw14317288427323871922:T:=t
theorem tw1980247363165879429:T:=t
theorem tw14296386997998854089:T:=t
theorem tw14302440575911937650:T:=t
theorem tw5230821695279976462:T:=t
theorem tw2884559834261289398:T:=t
theorem tw3423346011291521542:T:=t
theorem tw2998769833626035175:T:=t
theorem tw16053221933270867258:T:=t
theorem tw10021054893070784354:T:=t
theorem tw6576187036372545591:T:=t
theorem tw4178432983367478423:T:=t
theorem tw17026870021466092750:T:=t
theorem tw9115037031211061566:T:=t
theorem tw4327957577253540203:T:=t
theorem tw4567406995535283511:T:=t
theorem tw3127049559752940807:T:=t
theorem tw10877914472530759936:T:=t
theorem tw13055073067585543872:T:=t
theorem tw11068126759796092325:T:=t
theorem tw8644560031705490810:T:=t
theorem tw3055073173289775447:T:=t
theorem tw15222671194020912597:T:=t
theorem tw11795387172512413407:T:=t
theorem tw5707194690098638471:T:=t
theorem tw10403954177801633367:T:=t
theorem tw12047900415351236395:T:=t
theorem tw10617194249185857529:T:=t
theorem tw2618490190428073017:T:=t
theorem tw10966697501526704846:T:=t
theorem tw3461369719786860586:T:=t
theorem tw4277992108151645805:T:=t
theorem tw2410510681439456458:T:=t
theorem tw1463196147053303394:T:=t
theorem tw13913423702112267812:T:=t
theorem tw13339376231836091768:T:=t
theorem tw14640549305066258129:T:=t
theorem tw17440233237446270221:T:=t
theorem tw3228090532262280768:T:=t
theorem tw8174265049933217202:T:=t
theorem tw6590801892334686599:T:=t
theorem tw17573937718456619690:T:=t
theorem tw3476191433996461152:T:=t
theorem tw122895109851674273:T:=t
theorem tw10917978164973679542:T:=t
theorem tw14935978850545421419:T:=t
theorem tw12377959399836290067:T:=t
theorem tw7535301439831773900:T:=t
theorem tw6740219023920764972:T:=t
theorem tw4396568497912434250:T:=t
theorem tw12460776751494502404:T:=t
theorem tw14674748507097392900:T:=t
theorem tw13500318469228345713:T:=t
theorem tw3950329949160742250:T:=t
theorem tw17076165290426530464:T:=t
theorem tw6272355060770995885:T:=t
theorem tw15533257870087313563:T:=t
theorem tw18318817810866021139:T:=t
theorem tw990764820897086996:T:=t
theorem tw10075024934479904143:T:=t
theorem tw12223445727089935259:T:=t
theorem tw12087079219971932454:T:=t
theorem tw9463795675075205437:T:=t
theorem tw8078265402885471976:T:=t
theorem tw5220988169690193284:T:=t
theorem tw16625174259953595169:T:=t
theorem tw8918006350611020791:T:=t
theorem tw5438862692097330487:T:=t
theorem tw4216420034110358939:T:=t
theorem tw3696901218909831053:T:=t
theorem tw8257418829022891257:T:=t
theorem tw17080153362635259050:T:=t
theorem tw9876159777357936899:T:=t
theorem tw11912952599753793277:T:=t
theorem tw2745991006798580251:T:=t
theorem tw17053829761978471420:T:=t
theorem tw3809554658679441229:T:=t
theorem tw7290374712976444997:T:=t
theorem tw11952842228531929067:T:=t
theorem tw2691867992351240810:T:=t
theorem tw6948474134290792126:T:=t
theorem tw8725880175513150802:T:=t
theorem tw14919038862432082165:T:=t
theorem tw1016313470199982537:T:=t
theorem tw5751903802948610276:T:=t
theorem tw7196324349363039711:T:=t
theorem tw15656486127985483219:T:=t
theorem tw9592554324860578136:T:=t
theorem tw4197240415250220850:T:=t
theorem tw13380458749892599093:T:=t
theorem tw14817645703785147396:T:=t
theorem tw5309995652401525101:T:=t
theorem tw6207179915725765719:T:=t
theorem tw17453721029707611201:T:=t
theorem tw7991351659645307184:T:=t
theorem tw6897596897191844616:T:=t
theorem tw5057630951614777147:T:=t
theorem tw9161127719534841658:T:=t
theorem tw17122103796602941201:T:=t
theorem tw4887097189600125948:T:=t
theorem tw15525279636034395452:T:=t
theorem tw5345257021437362142:T:=t
theorem tw3597224387928761530:T:=t
theorem tw2189392243237522080:T:=t
theorem tw3315115015657624638:T:=t
theorem tw15725253850911379854:T:=t
theorem tw6821187626703829088:T:=t
theorem tw14742731811885069116:T:=t
theorem tw3042782897042553625:T:=t
theorem tw15031465929163138751:T:=t
theorem tw10411296912743870623:T:=t
theorem tw2927320300579833983:T:=t
theorem tw7822962280082496512:T:=t
theorem tw11680442082056081124:T:=t
theorem tw13756625210381900920:T:=t
theorem tw17369344379546066803:T:=t
theorem tw4039083011212233968:T:=t
theorem tw1926156070640763614:T:=t
theorem tw1383439101478763327:T:=t
theorem tw12531592957024129060:T:=t
theorem tw7611442656274437139:T:=t
theorem tw3646117782734044179:T:=t
theorem tw10636867075115427920:T:=t
theorem tw4588911655245665398:T:=t
theorem tw11388261020817367519:T:=t
theorem tw14195857516506188752:T:=t
theorem tw8516248914058007536:T:=t
theorem tw9933187621900765661:T:=t
theorem tw12840931332580689146:T:=t
theorem tw2156908600965859427:T:=t
theorem tw8383832312975943185:T:=t
theorem tw12112647759870957014:T:=t
theorem tw15892027648726031944:T:=t
theorem tw15020162214462287587:T:=t
theorem tw6814150269638858196:T:=t
theorem tw2219097095629712201:T:=t
theorem tw15288804291069992006:T:=t
theorem tw13984125778581839424:T:=t
theorem tw8294567603793468075:T:=t
theorem tw17871362266857658384:T:=t
theorem tw10259550172225532679:T:=t
theorem tw4597446875086613488:T:=t
theorem tw209585131044431783:T:=t
theorem tw4826159377350640170:T:=t
theorem tw15426637738626486864:T:=t
theorem tw14311561367197305191:T:=t
theorem tw11519250642611243791:T:=t
theorem tw10704556739469484813:T:=t
theorem tw2951018021206863066:T:=t
theorem tw18025658111944671314:T:=t
theorem tw8848062868709305014:T:=t
theorem tw9974828092990910535:T:=t
theorem tw11268002685874432423:T:=t
theorem tw16278983773938623816:T:=t
theorem tw7271874215164270623:T:=t
theorem tw7054759504778813703:T:=t
theorem tw2660992353704633501:T:=t
theorem tw10195535451318777656:T:=t
theorem tw10283964699342064434:T:=t
theorem tw8307440872126120848:T:=t
theorem tw3221206007101484751:T:=t
theorem tw11074221192868344092:T:=t
theorem tw145932963246128051:T:=t
theorem tw11910161050144801243:T:=t
theorem tw2533170188022924913:T:=t
theorem tw332148526086002281:T:=t
theorem tw1122348294875185760:T:=t
theorem tw17281397238847051628:T:=t
theorem tw388132459636744785:T:=t
theorem tw11233552311124936086:T:=t
theorem tw15416837940088587490:T:=t
theorem tw9920813430400227697:T:=t
theorem tw9313591890549905059:T:=t
theorem tw17016924944305248243:T:=t
theorem tw1890682559011639224:T:=t
theorem tw15397586958153290271:T:=t
theorem tw1649579085508831400:T:=t
theorem tw13876524950054094614:T:=t
theorem tw7436007844522968869:T:=t
theorem tw4248858188191011707:T:=t
theorem tw18439033083047412173:T:=t
theorem tw1074516868807377101:T:=t
theorem tw3781718424149988127:T:=t
theorem tw3275178236903027326:T:=t
theorem tw2246114198807911332:T:=t
theorem tw14264558840923773697:T:=t
theorem tw10159389032180300928:T:=t
theorem tw6996696247724890340:T:=t
theorem tw2822907071458423533:T:=t
theorem tw15847444086296491327:T:=t
theorem tw11516083673652718094:T:=t
theorem tw6649000586521064083:T:=t
theorem tw8153351105357841641:T:=t
theorem tw9957188378976831251:T:=t
theorem tw5151445886737355997:T:=t
theorem tw2404936290449931907:T:=t
theorem tw4629720720223295621:T:=t
theorem tw8192045462056880886:T:=t
theorem tw11511833604947660874:T:=t
theorem tw14506335522078681198:T:=t
theorem tw16619340915541162848:T:=t
theorem tw4035567117447141005:T:=t
theorem tw9950984906565380895:T:=t
theorem tw15596916359039440783:T:=t
theorem tw3722370046394560457:T:=t
theorem tw5254291218172806239:T:=t
theorem tw13242218034438203823:T:=t
theorem tw5675339146475604060:T:=t
theorem tw5644764048023550207:T:=t
theorem tw13904747866207299807:T:=t
theorem tw9043999750321849445:T:=t
theorem tw17557955846509285157:T:=t
theorem tw10116244012155279326:T:=t
theorem tw4091792125141806092:T:=t
theorem tw4447307148886075343:T:=t
theorem tw13328876942023701386:T:=t
theorem tw14885436537357200447:T:=t
theorem tw16687863994572527389:T:=t
theorem tw8195256034748189324:T:=t
theorem tw7820420391224187335:T:=t
theorem tw13353880398495200290:T:=t
theorem tw4567310155831165015:T:=t
theorem tw17620514863039934880:T:=t
theorem tw5244801350481787030:T:=t
theorem tw134521874587698215:T:=t
theorem tw9975269523818592724:T:=t
theorem tw3039677694828402761:T:=t
theorem tw15003182733627720372:T:=t
theorem tw15097703535185493621:T:=t
theorem tw538932451362224505:T:=t
theorem tw17589684436434577441:T:=t
theorem tw1658197193684275316:T:=t
theorem tw4743368475946334711:T:=t
theorem tw1980375524402002302:T:=t
theorem tw7758063928635784740:T:=t
theorem tw16058991070295768540:T:=t
theorem tw13008373176390373076:T:=t
theorem tw14992983214800064602:T:=t
theorem tw14331163173384819421:T:=t
theorem tw16038111126348386163:T:=t
theorem tw6996604510022546489:T:=t
theorem tw16685108812316347162:T:=t
theorem tw8958890896562605561:T:=t
theorem tw6768751125542400157:T:=t
theorem tw5725629724030738776:T:=t
theorem tw13360980773314081272:T:=t
theorem tw1881273628141950129:T:=t
theorem tw3017716237796050085:T:=t
theorem tw9410930895886830851:T:=t
theorem tw17385304542106548055:T:=t
theorem tw8929162171763405671:T:=t
theorem tw484179904497135155:T:=t
theorem tw10385972291305524515:T:=t
theorem tw4356472642329609974:T:=t
theorem tw17651295008732575174:T:=t
theorem tw4774948093478016081:T:=t
theorem tw11465607834340801042:T:=t
theorem tw7336779333470613504:T:=t
theorem tw17039554997033918745:T:=t
theorem tw8148134362133210370:T:=t
theorem tw14185994507778423819:T:=t
theorem tw10089113472772384774:T:=t
theorem tw2077690074044854482:T:=t
theorem tw9088850661482849427:T:=t
theorem tw288411641489606368:T:=t
theorem tw14525749084875191736:T:=t
theorem tw764732042479237497:T:=t
theorem tw16179723595558240676:T:=t
theorem tw16268382344902531218:T:=t
theorem tw1972047601138287618:T:=t
theorem tw6661065052353065320:T:=t
theorem tw5157400123132015144:T:=t
theorem tw7160642757287845954:T:=t
theorem tw2517642334926246588:T:=t
theorem tw14324643134823393709:T:=t
theorem tw13412383326353432330:T:=t
theorem tw10863431328213883938:T:=t
theorem tw6471395523428408251:T:=t
theorem tw8492490618434649289:T:=t
theorem tw10595839521171088435:T:=t
theorem tw12876500496384970917:T:=t
theorem tw4181972808089653594:T:=t
theorem tw5060404574720663952:T:=t
theorem tw12030256587067620103:T:=t
theorem tw15857467098338783936:T:=t
theorem tw7359549337865388183:T:=t
theorem tw15260478145775685171:T:=t
theorem tw13372793773036742737:T:=t
theorem tw16043647936977262334:T:=t
theorem tw13396310773797896340:T:=t
theorem tw5818851180930991848:T:=t
theorem tw14653772343310069545:T:=t
theorem tw568883250039891352:T:=t
theorem tw13697778423791767345:T:=t
theorem tw2868841428091204648:T:=t
theorem tw2063962012853046974:T:=t
theorem tw7492030116529166354:T:=t
theorem tw16051292036045715728:T:=t
theorem tw3897231576808763883:T:=t
theorem tw6905475023927656221:T:=t
theorem tw15902653346226055279:T:=t
theorem tw9425653185733914764:T:=t
theorem tw5286479519828484009:T:=t
theorem tw18350421489246803351:T:=t
theorem tw1513396286026484958:T:=t
theorem tw12687398731603832505:T:=t
theorem tw4643808109359329299:T:=t
theorem tw9538226051533269152:T:=t
theorem tw2911593502983421243:T:=t
theorem tw10534391724585933954:T:=t
theorem tw17393156024033759196:T:=t
theorem tw13611598617634704298:T:=t
theorem tw1283418492878313000:T:=t
theorem tw7875685502677297484:T:=t
theorem tw10610913765530660747:T:=t
theorem tw2201176655943343924:T:=t
theorem tw13418900697369464106:T:=t
theorem tw16584103675982884176:T:=t
theorem tw17573638741194809299:T:=t
theorem tw13216196189082939631:T:=t
theorem tw1930959741480660892:T:=t
theorem tw716927816470872148:T:=t
theorem tw6810229405824084477:T:=t
theorem tw9067985455519472299:T:=t
theorem tw11648549221805079087:T:=t
theorem tw13666863030765680010:T:=t
theorem tw1164759201082787303:T:=t
theorem tw30516888858077971:T:=t
theorem tw12476055800596261357:T:=t
theorem tw7283001153640328056:T:=t
theorem tw10360385129273215995:T:=t
theorem tw7522427195449491447:T:=t
theorem tw8549717891604393450:T:=t
theorem tw12963041817334964015:T:=t
theorem tw136413005078865661:T:=t
theorem tw12544056204730560957:T:=t
theorem tw3287984282217807052:T:=t
theorem tw14138387163557110853:T:=t
theorem tw12720616893711688022:T:=t
theorem tw4546395012647954685:T:=t
theorem tw17483737984551867210:T:=t
theorem tw14988587922033304021:T:=t
theorem tw2492048929613541025:T:=t
theorem tw1273976805293772973:T:=t
theorem tw1598436242538282211:T:=t
theorem tw9916199118948513461:T:=t
theorem tw14757211927845266655:T:=t
theorem tw15695149568941424871:T:=t
theorem tw8800404311707590821:T:=t
theorem tw12119435566623225568:T:=t
theorem tw11921775078932222522:T:=t
theorem tw15609162463361733215:T:=t
theorem tw14013666240027854082:T:=t
theorem tw15196459059211658234:T:=t
theorem tw15571626766152387222:T:=t
theorem tw12950124535000289064:T:=t
theorem tw9845681107099458034:T:=t
theorem tw9281103063576417308:T:=t
theorem tw15843902886774820684:T:=t
theorem tw13507109222748178385:T:=t
theorem tw18085488118959583582:T:=t
theorem tw551878033868750631:T:=t
theorem tw4073450862890528463:T:=t
theorem tw6881307674522045928:T:=t
theorem tw4082656235138070203:T:=t
theorem tw6745301757348478735:T:=t
theorem tw3822018425818770122:T:=t
theorem tw13882606185055310181:T:=t
theorem tw14288243738381440493:T:=t
theorem tw8576703452051888039:T:=t
theorem tw17697503557976475346:T:=t
theorem tw11071092168611881012:T:=t
theorem tw18288557733248936724:T:=t
theorem tw1937750371327377422:T:=t
theorem tw9408370375254774644:T:=t
theorem tw1210530748395591148:T:=t
theorem tw2404633205489611897:T:=t
theorem tw13806454070660350921:T:=t
theorem tw857691276175789518:T:=t
theorem tw8047289358820287197:T:=t
theorem tw14191310702710227458:T:=t
theorem tw17529849222839375082:T:=t
theorem tw18246513400157920875:T:=t
theorem tw9547714120228685796:T:=t
theorem tw1428015736135853223:T:=t
theorem tw3105936464211144054:T:=t
theorem tw14864640965497991779:T:=t
theorem tw3021835603291095840:T:=t
theorem tw12792783352228383727:T:=t
theorem tw11654316357038136316:T:=t
theorem tw8069092538493481521:T:=t
theorem tw2822385975729611342:T:=t
theorem tw1090411510468800068:T:=t
theorem tw8454175693458000778:T:=t
theorem tw14547076071350101635:T:=t
theorem tw5648276094696049298:T:=t
theorem tw2171623322903362057:T:=t
theorem tw8427485113769799218:T:=t
theorem tw13118943305402699759:T:=t
theorem tw9901951719108051988:T:=t
theorem tw5991329863979130625:T:=t
theorem tw12721789152505531114:T:=t
theorem tw8185107309596000374:T:=t
theorem tw2699983602767374523:T:=t
theorem tw5181966892005782088:T:=t
theorem tw14158869808729706988:T:=t
theorem tw16561558360742137065:T:=t
theorem tw162848155603439990:T:=t
theorem tw8059141126832881916:T:=t
theorem tw8150083410846183547:T:=t
theorem tw11180674998892410296:T:=t
theorem tw5816237344298815641:T:=t
theorem tw7554959009405650026:T:=t
theorem tw149470206711900560:T:=t
theorem tw11279161967884546433:T:=t
theorem tw4073052226275865335:T:=t
theorem tw10449879093168152174:T:=t
theorem tw11442105100669052236:T:=t
theorem tw15532180198325277413:T:=t
theorem tw14377138705030266388:T:=t
theorem tw4820356001183778062:T:=t
theorem tw6124490972874172257:T:=t
theorem tw5145643837290298106:T:=t
theorem tw15187361961093261553:T:=t
theorem tw806059679219994385:T:=t
theorem tw10783175264176337430:T:=t
theorem tw4711357149551803662:T:=t
theorem tw17812654206654028429:T:=t
theorem tw614178721253697587:T:=t
theorem tw7778518709807883925:T:=t
theorem tw13458227961471406816:T:=t
theorem tw12609181574037364859:T:=t
theorem tw6716190173229412497:T:=t
theorem tw10395789954385654390:T:=t
theorem tw15765068283106822696:T:=t
theorem tw16697562355604267518:T:=t
theorem tw3502533989761060701:T:=t
theorem tw17494975543084776526:T:=t
theorem tw10239007394552878174:T:=t
theorem tw17842149565482381095:T:=t
theorem tw2504348554245470067:T:=t
theorem tw4296267017532797128:T:=t
theorem tw3376783596681068269:T:=t
theorem tw4870609095116367995:T:=t
theorem tw8316978927428267617:T:=t
theorem tw13233925081610661411:T:=t
theorem tw16600827452279821873:T:=t
theorem tw3247367380084042296:T:=t
theorem tw17264778694843096519:T:=t
theorem tw2056866998167769742:T:=t
theorem tw10099382267163970797:T:=t
theorem tw2345487744653432563:T:=t
theorem tw14364079368883715770:T:=t
theorem tw6048745964160318464:T:=t
theorem tw12136790455629638108:T:=t
theorem tw11186278346458651885:T:=t
theorem tw3696960078455213082:T:=t
theorem tw8135493339603401687:T:=t
theorem tw14349752981382075830:T:=t
theorem tw10307356883056191786:T:=t
theorem tw12536998783352910709:T:=t
theorem tw7876969669924440321:T:=t
theorem tw5475936251782762557:T:=t
theorem tw5834209850536974553:T:=t
theorem tw16344473531126340893:T:=t
theorem tw5044532516427930034:T:=t
theorem tw13001090167431948686:T:=t
theorem tw11895436526391868385:T:=t
theorem tw222785427389350134:T:=t
theorem tw1445886391551537731:T:=t
theorem tw6951225809539125009:T:=t
theorem tw12545834286116690562:T:=t
theorem tw3373189247971503177:T:=t
theorem tw7411675879612560423:T:=t
theorem tw15826755849600578775:T:=t
theorem tw8629640164197408899:T:=t
theorem tw12989204983627833920:T:=t
theorem tw15507295418574587819:T:=t
theorem tw17399886753243564925:T:=t
theorem tw6382291294955211999:T:=t
theorem tw13742351995774673705:T:=t
theorem tw17224703828522220382:T:=t
theorem tw13285676348558272288:T:=t
theorem tw14938798612039523107:T:=t
theorem tw13167229442138870257:T:=t
theorem tw10805239673477678041:T:=t
theorem tw14095971397211782968:T:=t
theorem tw15038418565850436986:T:=t
theorem tw10392914110069091124:T:=t
theorem tw1326067736672580545:T:=t
theorem tw4943545995465237767:T:=t
theorem tw17433518216253938662:T:=t
theorem tw16831101020866358490:T:=t
theorem tw14702946807805543658:T:=t
theorem tw4204637286096544306:T:=t
theorem tw9960968122618143832:T:=t
theorem tw9356179824560524543:T:=t
theorem tw15513907674853377026:T:=t
theorem tw7381783550449437068:T:=t
theorem tw7789537453598603269:T:=t
theorem tw11926272105270764117:T:=t
theorem tw3523277934440134947:T:=t
theorem tw11874976274172590891:T:=t
theorem tw8368798856109363619:T:=t
theorem tw15525580674415269173:T:=t
theorem tw64630411898889128:T:=t
theorem tw5291343962402555478:T:=t
theorem tw1424128092797642980:T:=t
theorem tw9876543146211162787:T:=t
theorem tw16329963321018892172:T:=t
theorem tw3986090183591653432:T:=t
theorem tw6047097596973096534:T:=t
theorem tw5745465540762440112:T:=t
theorem tw4288143970758385065:T:=t
theorem tw3343473771444255265:T:=t
theorem tw3936574193395988776:T:=t
theorem tw14726961885551866062:T:=t
theorem tw1906023392622491010:T:=t
theorem tw933441318110467940:T:=t
theorem tw15525298443865201073:T:=t
theorem tw17478428059220288493:T:=t
theorem tw16889384090722931010:T:=t
theorem tw929041136397781899:T:=t
theorem tw12445940973143799526:T:=t
theorem tw16168019790947101984:T:=t
theorem tw17288500401979066083:T:=t
theorem tw6691027074710735343:T:=t
theorem tw13984105327260874470:T:=t
theorem tw17454318776723317414:T:=t
theorem tw13935339594760756573:T:=t
theorem tw1396631885417364829:T:=t
theorem tw18021650032858729757:T:=t
theorem tw3296267005824016447:T:=t
theorem tw13750583455376624881:T:=t
theorem tw14341120729795077261:T:=t
theorem tw6515252487656556794:T:=t
theorem tw9819894657917094784:T:=t
theorem tw3787666990311124380:T:=t
theorem tw8626315453904953860:T:=t
theorem tw6905357976775366822:T:=t
theorem tw15687806069674188760:T:=t
theorem tw16514233136784977297:T:=t
theorem tw8528795903151043451:T:=t
theorem tw6696019823409772510:T:=t
theorem tw6061844814560656316:T:=t
theorem tw576899675763343441:T:=t
theorem tw7258646118196019072:T:=t
theorem tw5859954059831970930:T:=t
theorem tw6381170856756570040:T:=t
theorem tw15881809610774648345:T:=t
theorem tw15935829536121919871:T:=t
theorem tw1709533345360563255:T:=t
theorem tw3770322921552031231:T:=t
theorem tw1742656451142089649:T:=t
theorem tw11831106913802473199:T:=t
theorem tw2868292288803158069:T:=t
theorem tw9375360588515080113:T:=t
theorem tw12870832547070010083:T:=t
theorem tw18383182533153586477:T:=t
theorem tw8790518789954672209:T:=t
theorem tw12971980108649762115:T:=t
theorem tw12677999345953698985:T:=t
theorem tw7421786164480996228:T:=t
theorem tw13593828154612893309:T:=t
theorem tw10450788274241771536:T:=t
theorem tw15645666165076150114:T:=t
theorem tw3238041122174531716:T:=t
theorem tw14581080383437586561:T:=t
theorem tw7196959931366684185:T:=t
theorem tw16916634567150479132:T:=t
theorem tw9160301636639237467:T:=t
theorem tw15463203823495961244:T:=t
theorem tw4786497654422877938:T:=t
theorem tw8591088177582840138:T:=t
theorem tw3363799594497527996:T:=t
theorem tw15784146693891255721:T:=t
theorem tw13071191126500404010:T:=t
theorem tw2809980089338295446:T:=t
theorem tw17093792507239897499:T:=t
theorem tw5565705770439821194:T:=t
theorem tw16447564128994577934:T:=t
theorem tw8475944641615879958:T:=t
theorem tw12247584602314355929:T:=t
theorem tw11203511338275664327:T:=t
theorem tw17789768422149580373:T:=t
theorem tw1352479365382649514:T:=t
theorem tw18364815469964950118:T:=t
theorem tw2497926436135343631:T:=t
theorem tw6539906834269234583:T:=t
theorem tw8201023514652866248:T:=t
theorem tw17957411485211015398:T:=t
theorem tw3313114576310721804:T:=t
theorem tw8435280521333064917:T:=t
theorem tw42991212193153973:T:=t
theorem tw6010527527868921132:T:=t
theorem tw17832744011254776289:T:=t
theorem tw15637220148305887217:T:=t
theorem tw1358250369764232750:T:=t
theorem tw13576942657099514123:T:=t
theorem tw432897219053493142:T:=t
theorem tw11300498958895695146:T:=t
theorem tw2896438728730547279:T:=t
theorem tw17731984463975473917:T:=t
theorem tw18286160104727862462:T:=t
theorem tw3264777137382535416:T:=t
theorem tw5546299256372968745:T:=t
theorem tw13461288425266067717:T:=t
theorem tw190323194274516343:T:=t
theorem tw6119721936978453658:T:=t
theorem tw15088266657895807461:T:=t
theorem tw16096895891696496363:T:=t
theorem tw2904059501028533237:T:=t
theorem tw4155468523610585343:T:=t
theorem tw8765746493276748076:T:=t
theorem tw6938760501003799309:T:=t
theorem tw15642498914273402183:T:=t
theorem tw399526882006366711:T:=t
theorem tw6815985589519525316:T:=t
theorem tw7494296812056875437:T:=t
theorem tw53671048762403245:T:=t
theorem tw11060124829600404249:T:=t
theorem tw419276852697310815:T:=t
theorem tw7003310216729256977:T:=t
theorem tw14292547228490471781:T:=t
theorem tw17236013290512009086:T:=t
theorem tw16166368621782959301:T:=t
theorem tw11089877848252077935:T:=t
theorem tw17454577913403430252:T:=t
theorem tw10367308775770812932:T:=t
theorem tw6571291060729986440:T:=t
theorem tw17989415352218789217:T:=t
theorem tw15587764676737728853:T:=t
theorem tw17295839151220075915:T:=t
theorem tw329072985140239050:T:=t
theorem tw3643914471317708621:T:=t
theorem tw9926087939513100535:T:=t
theorem tw16294087361379835962:T:=t
theorem tw12036669265036031014:T:=t
theorem tw13945033177886227809:T:=t
theorem tw7815520995879020269:T:=t
theorem tw9469051840768371287:T:=t
theorem tw9583031203963763055:T:=t
theorem tw11232610466416726398:T:=t
theorem tw10516643663288343842:T:=t
theorem tw1628044414854275119:T:=t
theorem tw4283683937392015733:T:=t
theorem tw7257752904359908486:T:=t
theorem tw9429861001312166809:T:=t
theorem tw5841892539215548279:T:=t
theorem tw10483263613327836230:T:=t
theorem tw8680568747675894556:T:=t
theorem tw14150925457611720700:T:=t
theorem tw16503685224865804450:T:=t
theorem tw6246104935196137296:T:=t
theorem tw6726772413313095014:T:=t
theorem tw16041046370011181779:T:=t
theorem tw5486498298220157551:T:=t
theorem tw6773202340168799102:T:=t
theorem tw4354437142168371049:T:=t
theorem tw10927994296842964546:T:=t
theorem tw12792585633891114797:T:=t
theorem tw17971117906851217387:T:=t
theorem tw13539627523613935523:T:=t
theorem tw12740483090795623637:T:=t
theorem tw4852414063411868548:T:=t
theorem tw2960456510772831355:T:=t
theorem tw5490980215271389280:T:=t
theorem tw1541562364700265154:T:=t
theorem tw14963347970970158890:T:=t
theorem tw104094576447766374:T:=t
theorem tw10143001506211119355:T:=t
theorem tw1472627028676479429:T:=t
theorem tw17601551063327761115:T:=t
theorem tw12316986716782704333:T:=t
theorem tw15890461587552314789:T:=t
theorem tw4568365569954123920:T:=t
theorem tw3923788489404985783:T:=t
theorem tw17874153101932871819:T:=t
theorem tw3710802891750653368:T:=t
theorem tw2313343453469587:T:=t
theorem tw14364110991727458282:T:=t
theorem tw2586096127677666143:T:=t
theorem tw12958973201736663512:T:=t
theorem tw16401775577440721349:T:=t
theorem tw17365841796568000854:T:=t
theorem tw2684102819342949193:T:=t
theorem tw16984819292278807220:T:=t
theorem tw18075650540444998648:T:=t
theorem tw11413205744277866631:T:=t
theorem tw2434324634612665561:T:=t
theorem tw10782636077873877296:T:=t
theorem tw2438556121179383376:T:=t
theorem tw7570617728802852908:T:=t
theorem tw17436559092727719069:T:=t
theorem tw16422446190411312259:T:=t
theorem tw7385541598251207468:T:=t
theorem tw3448436965285196660:T:=t
theorem tw7086268270985402415:T:=t
theorem tw6346493079076818392:T:=t
theorem tw4514053743599041045:T:=t
theorem tw11044573971291310966:T:=t
theorem tw14693721518964817596:T:=t
theorem tw9427077688836159671:T:=t
theorem tw3035972135482712479:T:=t
theorem tw10982810722298789478:T:=t
theorem tw245388453786887242:T:=t
theorem tw13724630365935171946:T:=t
theorem tw9833553656769391465:T:=t
theorem tw9691422183254027723:T:=t
theorem tw6357707457550563748:T:=t
theorem tw5073386559561990923:T:=t
theorem tw511154227527352935:T:=t
theorem tw2194386836789649628:T:=t
theorem tw15932340531052202542:T:=t
theorem tw12203261482158421150:T:=t
theorem tw5254150876798236439:T:=t
theorem tw13522551469373217439:T:=t
theorem tw8063799498105216150:T:=t
theorem tw11255313108558152148:T:=t
theorem tw3171571090798886337:T:=t
theorem tw3778313439561597904:T:=t
theorem tw2296798500458606327:T:=t
theorem tw10608150008125927267:T:=t
theorem tw7139931688861200607:T:=t
theorem tw5602258624995510178:T:=t
theorem tw5033423968699698886:T:=t
theorem tw4709067958626073384:T:=t
theorem tw1765193833724418456:T:=t
theorem tw7939700986846642070:T:=t
theorem tw17967490135107311282:T:=t
theorem tw15607260501993015751:T:=t
theorem tw5831941663624143594:T:=t
theorem tw8072070048918887560:T:=t
theorem tw10606685759059100015:T:=t
theorem tw5652590095549514255:T:=t
theorem tw11561366718681118979:T:=t
theorem tw1384209119611808009:T:=t
theorem tw9522786389256371610:T:=t
theorem tw883525322311835505:T:=t
theorem tw3289709261027852024:T:=t
theorem tw17469929296604087836:T:=t
theorem tw15462683395770930534:T:=t
theorem tw13028522948772262508:T:=t
theorem tw14780050976537163602:T:=t
theorem tw1879972785478743596:T:=t
theorem tw10378792918218926003:T:=t
theorem tw2258324389533410429:T:=t
theorem tw2653273610416408720:T:=t
theorem tw12965826118423939856:T:=t
theorem tw3596415110745729370:T:=t
theorem tw6500686390916074201:T:=t
theorem tw558561146864003076:T:=t
theorem tw15880504448479711350:T:=t
theorem tw15377445910829238176:T:=t
theorem tw8606624086045412448:T:=t
theorem tw2786521351924353169:T:=t
theorem tw6873645178399093424:T:=t
theorem tw3627922134348299825:T:=t
theorem tw7034298128997996108:T:=t
theorem tw14412582317878784360:T:=t
theorem tw4518221268279412019:T:=t
theorem tw5492716820719653743:T:=t
theorem tw8683918616840425538:T:=t
theorem tw7105652820812284432:T:=t
theorem tw17197377076905342390:T:=t
theorem tw5797834762334671391:T:=t
theorem tw7590023021421854271:T:=t
theorem tw5557744672519427172:T:=t
theorem tw15102594672415386349:T:=t
theorem tw6987332734749810786:T:=t
theorem tw9661119599188179355:T:=t
theorem tw15710256053868434734:T:=t
theorem tw1347916733764399252:T:=t
theorem tw8462949007004437653:T:=t
theorem tw932451246233767929:T:=t
theorem tw16194197300274779544:T:=t
theorem tw13251139996166171883:T:=t
theorem tw5429637529817410239:T:=t
theorem tw3864814513713628098:T:=t
theorem tw12166059554313202536:T:=t
theorem tw12392237581957222550:T:=t
theorem tw14463440262855552375:T:=t
theorem tw10027257451656575460:T:=t
theorem tw13890433966359505285:T:=t
theorem tw14463281908048383200:T:=t
theorem tw14537370466570294729:T:=t
theorem tw17682533232276427782:T:=t
theorem tw11419140202800805772:T:=t
theorem tw4957977497641929111:T:=t
theorem tw13051606616835114215:T:=t
theorem tw11617668915913538150:T:=t
end Mine.hx
open PySem PySem.W PyProof.Rows PySem.Calls Mine
set_option Elab.async true
set_option maxRecDepth 100000 in
set_option maxHeartbeats 8000000 in
theorem Mine.hx : PySem.Challenge.rw_te0033_04.Holds := by
  w_on; o_law; k_head; (case hw => w_witness2)
  k_fill
  intro w s₀ s₁ mg mb G Y fa o pm cd doc dV kV ho hd hcd hD hmg hg args vals as hpre hlay hrd hwl hlo
  have KX := kIn_of Y
  have X := (Ground.X G).1
  have V := (Ground.X G).2
  try w_nolog (first | (have GL := glob_more (Ground.glob G (by first | k_qdec | decide +kernel) (by first | k_qdec | decide +kernel)) V) | (have GL := glob_more (Ground.glob G (by decide +kernel)) V))
  refine Ground.open G ?_
  intro T B D TE TW
  try (refine guard_noD D (by decide +kernel) ?_; clear D)
  obtain ⟨_, _, M⟩ := bmod_of_top T
  have TA := at_of_top T
  try (obtain ⟨_, _, he, B0⟩ := based_of_top T rfl hmg ho hd; have he' : cd = _ := he; subst he'; clear he)
  clear hmg
  wrow_args hpre hlay hrd hwl hlo
  all_goals (
    first | refine callC_kw (enter_call ?_) | refine enter_call ?_ | refine callC_kw (enter_callW ?_) | refine enter_callW ?_ | w_how
    w_top on
    have K0 := below_caller (Top.heap T)
    w_call any ho hd hcd hD T F
    clear hd TA
    k_drop
    skip)
  rename_i ns hs hlay0 hL1 hr1 hl2 w4 w3 a vals w1' hL ra w1 r0 hI hr2 hcond hcond2 h₁ N0
  refine wpAny_mono (E := fun _ _ => False) (Q := fun f s' => f = .ret (.bool true) ∧ (∀ b o, s₁.heap.get? b = some o → s'.heap.get? b = some o) ∧ s'.os = s₁.os ∧ AllBare s'.gens) ?_ (fun f s' h => ?_) ?_
  rotate_left
  · obtain ⟨rfl, hk, hos, hab⟩ := h
    dsimp only
    refine ⟨.inl ⟨_, _, _, rfl, ?_, .bool _, ?_, ?_⟩, .of_keep hk, hos, hab⟩
    · intro cls; rfl
    · wrow_post
    · exact fun _ => ⟨List.nodup_nil, fun _ h => nomatch h⟩
  · exact fun _ _ h => h.elim
  refine ZAf (P := w.params) (K0 := Mine.hx.heap_1_39 w.params) (kn := fun x => List.lookup x KA) rfl KX T.b T.builtins hg w1 (by omega) F rfl rfl rfl rfl (Nat.succ_pos _) ⟨rfl, rfl, rfl⟩ (fun x hx => (ZAH x hx).elim) (fun x => rfl) (DY rfl (by kernel_rfl) (by kernel_rfl)) (DY rfl (by kernel_rfl) (by kernel_rfl))
    ⟨by kernel_rfl, by kernel_rfl, by kernel_rfl, by kernel_rfl, by kernel_rfl, by kernel_rfl, by kernel_rfl, by kernel_rfl, by kernel_rfl, by kernel_rfl, by kernel_rfl, by kernel_rfl, by kernel_rfl, by kernel_rfl, ZDI (List.all_eq_true.mp (by kernel_rfl))⟩
    (by kernel_rfl) (by kernel_rfl) (by kernel_rfl) (by kernel_rfl) (by kernel_rfl) (by kernel_rfl) (by kernel_rfl)
theorem PySem.Challenge.cw_te0033_04_holds : PySem.Challenge.rw_te0033_04.Holds :=
  Mine.hx
