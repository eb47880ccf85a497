import PyProof.Rows.All
import Wide.All
import OpenK.AllK
import Wide.FinOn
import PySem.Challenge.RW_te0033_02
set_option Elab.async false
set_option linter.unusedVariables false
set_option maxRecDepth 10000
set_option genSizeOf false
set_option genInjectivity false
noncomputable section
set_option genSizeOf false
open PySem
namespace Mine
theorem ff {P:Prop} (h:false=true):P:=nomatch h
theorem nn {α:Type} {a:α} {P:Prop} (h:none=some a):P:=nomatch h
theorem bA {a b:Bool} {P:Prop} (h:(a && b)=true) (k:a=true→b=true→P):P:=by
  cases a
  · exact ff h
  · exact k rfl h
noncomputable def ctq {n m:Nat} (k:n=m→Bool):Bool:=dite (n=m) k fun _=>false
noncomputable def ctt {n m:Nat} (k:n=m→Bool):Bool:=dite (n=m) k fun _=>true
theorem ctq_t {n m:Nat} {k:n=m→Bool} {P:Prop} (h:ctq k=true) (f:n=m→P):P:=by
  by_cases q:n=m
  · exact f q
  · exact ff ((dif_neg q:ctq k=false).symm.trans h)
theorem bO {a b:Bool} {P:Prop} (h:(a || b)=true) (k1:a=true→P) (k2:b=true→P):P:=by
  cases a
  · exact k2 h
  · exact k1 rfl

inductive Id where
  | p (n:Nat)
  | t (n:Nat)
  deriving DecidableEq

inductive V where
  | none
  | bool (b:Bool)
  | int (i:Int)
  | str (s:List Nat)
  | tup (l:List V)
  | list (l:List V)
  | dict (ks:List (List Nat)) (vs:List V)
  | obj (id:Id)
  | fn (f:Nat)
  | meth (f:Nat) (self:V)
  | rng (lo hi:Int)

noncomputable def V.isNone:V→Bool | .none=>true | _=>false
noncomputable def V.isBool (b:Bool):V→Bool | .bool a=>b == a | _=>false
noncomputable def V.isInt (b:Int):V→Bool | .int a=>b == a | _=>false
noncomputable def V.isStr (b:List Nat):V→Bool | .str a=>b == a | _=>false
noncomputable def V.isObj (b:Id):V→Bool | .obj a=>b == a | _=>false
noncomputable def V.isFn (b:Nat):V→Bool | .fn a=>b == a | _=>false
noncomputable def V.isTup (f:List V→Bool):V→Bool | .tup l=>f l | _=>false
noncomputable def V.isList (f:List V→Bool):V→Bool | .list l=>f l | _=>false
noncomputable def V.isDict (ks:List (List Nat)) (f:List V→Bool):V→Bool | .dict k l=>ks == k && f l | _=>false
noncomputable def V.isMeth (f:Nat) (k:V→Bool):V→Bool | .meth g v=>f == g && k v | _=>false
noncomputable def V.isRng (a b:Int):V→Bool | .rng c d=>a == c && b == d | _=>false
mutual
noncomputable def V.beq:V→V→Bool
  | .none=>V.isNone
  | .bool b=>V.isBool b
  | .int i=>V.isInt i
  | .str s=>V.isStr s
  | .tup l=>V.isTup (fun x=>V.beqs l x)
  | .list l=>V.isList (fun x=>V.beqs l x)
  | .dict ks l=>V.isDict ks (fun x=>V.beqs l x)
  | .obj i=>V.isObj i
  | .fn f=>V.isFn f
  | .meth f v=>V.isMeth f (fun x=>V.beq v x)
  | .rng a b=>V.isRng a b
noncomputable def V.beqs:List V→List V→Bool
  | []=>fun l=>l.isEmpty
  | a :: r=>fun l=>match l with
    | []=>false
    | b :: r'=>V.beq a b && V.beqs r r'
end
theorem bE {α:Type} [BEq α] [LawfulBEq α] {a b:α} (h:(a == b)=true):a=b:=beq_iff_eq.mp h
theorem V.beq_refl (a:V):V.beq a a=true:=
  V.rec (motive_1:=fun a=>V.beq a a=true) (motive_2:=fun l=>V.beqs l l=true) rfl (fun _=>beq_self_eq_true _) (fun _=>beq_self_eq_true _) (fun _=>beq_self_eq_true _) (fun _ h=>h) (fun _ h=>h) (fun _ _ h=>Bool.and_eq_true_iff.mpr ⟨beq_self_eq_true _,h⟩)
    (fun _=>beq_self_eq_true _) (fun _=>beq_self_eq_true _) (fun _ _ h=>Bool.and_eq_true_iff.mpr ⟨beq_self_eq_true _,h⟩) (fun _ _=>Bool.and_eq_true_iff.mpr ⟨beq_self_eq_true _,beq_self_eq_true _⟩) rfl (fun _ _ h1 h2=>Bool.and_eq_true_iff.mpr ⟨h1,h2⟩) a
theorem V.beqs_refl:∀ a:List V,V.beqs a a=true
  | []=>rfl
  | a :: r=>Bool.and_eq_true_iff.mpr ⟨V.beq_refl a,V.beqs_refl r⟩
theorem V.eq_of_beq {a b:V}:V.beq a b=true→a=b:=
  V.rec (motive_1:=fun a=>∀ b,V.beq a b=true→a=b) (motive_2:=fun l=>∀ l',V.beqs l l'=true→l=l')
    (fun b h=>by cases b <;> first | exact ff h | rfl) (fun _ b h=>by cases b <;> first | exact ff h | exact congrArg V.bool (bE h)) (fun _ b h=>by cases b <;> first | exact ff h | exact congrArg V.int (bE h)) (fun _ b h=>by cases b <;> first | exact ff h | exact congrArg V.str (bE h))
    (fun _ ih b h=>by cases b <;> first | exact ff h | exact congrArg V.tup (ih _ h)) (fun _ ih b h=>by cases b <;> first | exact ff h | exact congrArg V.list (ih _ h))
    (fun _ _ ih b h=>by cases b <;> first | exact ff h | exact bA h fun h1 h2=>bE h1▸congrArg (V.dict _) (ih _ h2)) (fun _ b h=>by cases b <;> first | exact ff h | exact congrArg V.obj (bE h)) (fun _ b h=>by cases b <;> first | exact ff h | exact congrArg V.fn (bE h))
    (fun _ _ ih b h=>by cases b <;> first | exact ff h | exact bA h fun h1 h2=>bE h1▸congrArg (V.meth _) (ih _ h2)) (fun _ _ b h=>by cases b <;> first | exact ff h | exact bA h fun h1 h2=>bE h1▸bE h2▸rfl)
    (fun l h=>by cases l <;> first | rfl | exact ff h) (fun _ _ ih1 ih2 l h=>by cases l <;> first | exact ff h | exact bA h fun h1 h2=>ih1 _ h1▸congrArg (List.cons _) (ih2 _ h2)) a b
theorem V.eq_of_beqs:∀ {a b:List V},V.beqs a b=true→a=b
  | [],[],_=>rfl
  | [],_ :: _,h=>ff h
  | _ :: _,[],h=>ff h
  | _ :: _,_ :: _,h=>bA h fun h1 h2=>V.eq_of_beq h1▸congrArg _ (V.eq_of_beqs h2)

inductive Ob where
  | list (l:List V)
  | dict (ks:List (List Nat)) (vs:List V)
  | inst (C:Nat) (fs:List (Nat × V))

structure St where
  loc:List (Nat × V):=[]
  hp:List (Id × Ob):=[]
  nx:Nat:=0
  ps:List Nat:=[]

noncomputable def look {α β:Type} [DecidableEq α]:List (α × β)→α→Option β
  | [],_=>none
  | (a,b) :: r,x=>if a=x then some b else look r x
noncomputable def put {α β:Type} [DecidableEq α]:List (α × β)→α→β→List (α × β)
  | [],x,v=>[(x,v)]
  | (a,b) :: r,x,v=>if a=x then (a,v) :: r else (a,b) :: put r x v

noncomputable def St.setLoc (σ:St) (n:Nat) (v:V):St:={ σ with loc:=put σ.loc n v }
noncomputable def St.setOb (σ:St) (id:Id) (o:Ob):St:={ σ with hp:=put σ.hp id o }

inductive LV where
  | frz | tmp | per (k:Nat)
  deriving DecidableEq

noncomputable def Ob.frz:Ob→Option V
  | .list l=>some (.list l)
  | .dict ks vs=>some (.dict ks vs)
  | .inst _ _=>none

inductive Cmp where
  | eq | ne | lt | le | gt | ge | inn | nin | is | isn
  deriving DecidableEq
inductive Bop where
  | add | sub | mul | fdiv | mod
  deriving DecidableEq
inductive BI where
  | len | ord | chr | sum | range | max
  deriving DecidableEq
inductive SM where
  | find | rfind | count | replace | lower | join | startswith
  deriving DecidableEq

inductive ME where
  | k (v:V)
  | loc (n:Nat)
  | glob (v:V)
  | attr (e:ME) (n C:Nat)
  | bm (e:ME) (n C f:Nat)
  | cat (e:ME) (n C:Nat) (i:Int)
  | call (f:Nat) (as:List ME)
  | mcall (e:ME) (n C f:Nat) (as:List ME)
  | fcall (e:ME) (n C:Nat) (as:List ME)
  | new (C f:Nat) (as:List ME) (lv:LV)
  | bi (b:BI) (as:List ME)
  | sm (m:SM) (e:ME) (as:List ME)
  | app (e x:ME)
  | pop (e:ME) (as:List ME)
  | cmp (o:Cmp) (l r:ME)
  | cmp2 (o₁ o₂:Cmp) (l m r:ME)
  | bop (o:Bop) (l r:ME)
  | neg (e:ME)
  | not (e:ME)
  | and (a b:ME)
  | or (a b:ME)
  | ite (t b o:ME)
  | sub (e i:ME)
  | sl (e lo hi:ME)
  | lst (es:List ME) (lv:LV)
  | tup (es:List ME)
  | dct (ks:List (List Nat)) (es:List ME) (lv:LV)
  | comp (elt:ME) (x:Nat) (it:ME) (cond:ME)

inductive MS where
  | ex (e:ME)
  | asg (n:Nat) (e:ME)
  | asgA (t:ME) (n C:Nat) (e:ME)
  | asgS (t i e:ME)
  | asgT (ns:List Nat) (e:ME)
  | asgTA (t₁:ME) (n₁ C₁:Nat) (t₂:ME) (n₂ C₂:Nat) (e:ME)
  | augN (n:Nat) (o:Bop) (e:ME)
  | augA (t:ME) (n C:Nat) (o:Bop) (e:ME)
  | augS (t i:ME) (o:Bop) (e:ME)
  | iff (t:ME) (b o:List MS)
  | whl (t:ME) (b:List MS)
  | for (x:Nat) (it:ME) (b:List MS)
  | forT (xs:List Nat) (it:ME) (b:List MS)
  | ret (e:ME)
  | pass | brk | cont
  | asrt (e:ME)

inductive FL where
  | next | brk | cont
  | ret (v:V)

noncomputable def bn {α β:Type} (x:Option (α × St)) (f:α→St→Option β):Option β:=match x with
  | some (a,σ)=>f a σ
  | none=>none
noncomputable def bo {α β:Type} (x:Option α) (f:α→Option β):Option β:=match x with
  | some a=>f a
  | none=>none
noncomputable def gd {β:Type} (b:Bool) (x:Option β):Option β:=match b with
  | true=>x
  | false=>none
noncomputable def no {α β:Type} (o:Option α) (x:Option β):Option β:=match o with
  | none=>x
  | some _=>none
section
variable {α β:Type} {r:β} {P:Prop}
theorem bnE {x:Option (α × St)} {f:α→St→Option β} (h:bn x f=some r) (k:∀ a σ,x=some (a,σ)→f a σ=some r→P):P:=by
  cases x with
  | none=>exact nn h
  | some p=>cases p; exact k _ _ rfl h
theorem boE {x:Option α} {f:α→Option β} (h:bo x f=some r) (k:∀ a,x=some a→f a=some r→P):P:=by
  cases x with
  | none=>exact nn h
  | some p=>exact k p rfl h
theorem gdE {b:Bool} {x:Option β} (h:gd b x=some r) (k:b=true→x=some r→P):P:=by
  cases b with
  | false=>exact nn h
  | true=>exact k rfl h
theorem noE {o:Option α} {x:Option β} (h:no o x=some r) (k:o=none→x=some r→P):P:=by
  cases o with
  | none=>exact k rfl h
  | some _=>exact nn h
theorem bn_some {a:α} {σ:St} {f:α→St→Option β}:bn (some (a,σ)) f=f a σ:=rfl
end
noncomputable def onList {β:Type} (σ:St) (v:V) (f:Id→List V→Option β):Option β:=match v with
  | .obj id=>bo (look σ.hp id) fun o=>match o with
    | .list l=>f id l
    | _=>none
  | _=>none
noncomputable def onInst {β:Type} (σ:St) (C:Nat) (v:V) (f:Id→List (Nat × V)→Option β):Option β:=match v with
  | .obj id=>bo (look σ.hp id) fun o=>match o with
    | .inst D fs=>gd (Nat.beq D C) (f id fs)
    | _=>none
  | _=>none
noncomputable def onMeth {β:Type} (v:V) (f:Nat→V→Option β):Option β:=match v with
  | .meth g s=>f g s
  | _=>none
noncomputable def onStr {β:Type} (v:V) (f:List Nat→Option β):Option β:=match v with
  | .str s=>f s
  | _=>none
noncomputable def onInt {β:Type} (v:V) (f:Int→Option β):Option β:=match v with
  | .int i=>f i
  | _=>none
section
variable {β:Type} {r:β} {P:V→Prop} {v:V} {σ:St}
@[elab_as_elim] theorem onListE {f:Id→List V→Option β} (h:onList σ v f=some r) (k:∀ id l,look σ.hp id=some (.list l)→f id l=some r→P (.obj id)):P v:=by
  cases v <;> first | exact nn h | skip
  exact boE h fun o h1 h2=>by
    cases o <;> first | exact nn h2 | exact k _ _ h1 h2
@[elab_as_elim] theorem onInstE {C:Nat} {f:Id→List (Nat × V)→Option β} (h:onInst σ C v f=some r) (k:∀ id fs,look σ.hp id=some (.inst C fs)→f id fs=some r→P (.obj id)):P v:=by
  cases v <;> first | exact nn h | skip
  exact boE h fun o h1 h2=>by
    cases o <;> first | exact nn h2 | exact gdE h2 fun h3 h4=>k _ _ (Nat.eq_of_beq_eq_true h3▸h1) h4
@[elab_as_elim] theorem onMethE {f:Nat→V→Option β} (h:onMeth v f=some r) (k:∀ g s,f g s=some r→P (.meth g s)):P v:=by
  cases v <;> first | exact nn h | exact k _ _ h
@[elab_as_elim] theorem onStrE {f:List Nat→Option β} (h:onStr v f=some r) (k:∀ s,f s=some r→P (.str s)):P v:=by
  cases v <;> first | exact nn h | exact k _ h
@[elab_as_elim] theorem onIntE {f:Int→Option β} (h:onInt v f=some r) (k:∀ s,f s=some r→P (.int s)):P v:=by
  cases v <;> first | exact nn h | exact k _ h
end
noncomputable def St.alloc (σ:St) (lv:LV) (o:Ob):Option (V × St):=match lv with
  | .frz=>bo o.frz fun v=>some (v,σ)
  | .tmp=>some (.obj (.t σ.nx),{ σ with hp:=(.t σ.nx,o) :: σ.hp,nx:=σ.nx + 1 })
  | .per k=>if k ∈ σ.ps then none else some (.obj (.p k),{ σ with hp:=(.p k,o) :: σ.hp,ps:=k :: σ.ps })

noncomputable def maxLen:Nat:=16777216
noncomputable def bd {α:Type} (n:Nat) (o:Option α):Option α:=gd (Nat.ble n maxLen) o
noncomputable def onListOf {β:Type} (σ:St) (v:V) (f:List V→Option β):Option β:=match v with
  | .list l=>f l
  | .obj id=>onList σ (.obj id) fun _ l=>f l
  | _=>none
noncomputable def truthy (σ:St):V→Option Bool
  | .none=>some false
  | .bool b=>some b
  | .int i=>some (i != 0)
  | .str s=>bd s.length (some (!s.isEmpty))
  | .meth _ _=>some true
  | .list l=>bd l.length (some (!l.isEmpty))
  | .obj id=>onList σ (.obj id) fun _ l=>bd l.length (some (!l.isEmpty))
  | _=>none

noncomputable def strQ:V→Option (List Nat) | .str s=>some s | _=>none
noncomputable def intQ:V→Option Int | .int s=>some s | _=>none
noncomputable def strsOf?:List V→Option (List (List Nat))
  | []=>some []
  | v :: r=>bo (strQ v) fun y=>bo (strsOf? r) fun l=>some (y :: l)
noncomputable def intsOf?:List V→Option (List Int)
  | []=>some []
  | v :: r=>bo (intQ v) fun y=>bo (intsOf? r) fun l=>some (y :: l)
noncomputable def isIn (x:V) (l:List V):Option Bool:=match x with
  | .str x=>bo (strsOf? l) fun ys=>some (ys.any (· == x))
  | .none=>bo (strsOf? l) fun _=>some false
  | .int x=>bo (intsOf? l) fun ys=>some (ys.any (· == x))
  | _=>none

noncomputable def isPre:List Nat→List Nat→Bool
  | [],_=>true
  | _ :: _,[]=>false
  | a :: r,b :: r'=>a == b && isPre r r'
noncomputable def findFrom (y:List Nat):List Nat→Nat→Int
  | [],i=>if isPre y [] then (i:Int) else -1
  | a :: r,i=>if isPre y (a :: r) then (i:Int) else findFrom y r (i + 1)

mutual
noncomputable def dep:V→Nat
  | .list l=>deps l + 1
  | .dict _ l=>deps l + 1
  | _=>0
noncomputable def deps:List V→Nat
  | []=>0
  | v :: l=>max (dep v) (deps l)
end
mutual
noncomputable def datV:V→Bool
  | .none=>true
  | .bool _=>true
  | .int _=>true
  | .str _=>true
  | .list l=>datVs l
  | .dict _ l=>datVs l
  | _=>false
noncomputable def datVs:List V→Bool
  | []=>true
  | v :: l=>datV v && datVs l
end
noncomputable def rowV (v:V):Bool:=datV v && Nat.ble (dep v) 50
noncomputable def seqEq (σ:St) (a b:V):Option Bool:=onListOf σ a fun l=>onListOf σ b fun l'=>gd (V.beqs l l' && l.all rowV) (some true)

noncomputable def isNoneV:V→Option Bool | .none=>some true | .bool _=>some false | .int _=>some false | .str _=>some false | .obj _=>some false | .list _=>some false | .tup _=>some false | _=>none
noncomputable def boolQ:V→Option Bool | .bool b=>some b | _=>none
noncomputable def eqNone:V→Option Bool | .none=>some true | .str _=>some false | _=>none
noncomputable def eqS0 (a b:V):Option Bool:=match a with
  | .none=>eqNone b
  | .int a=>onInt b fun b=>some (a == b)
  | .str a=>(match b with
    | .none=>some false
    | .str b=>some (a == b)
    | _=>none)
  | _=>none
noncomputable def two?:V→Option (Int × Int)
  | .tup l=>(match l with
    | [a,b]=>bo (intQ a) fun x=>bo (intQ b) fun y=>some (x,y)
    | _=>none)
  | _=>none
noncomputable def eqV (σ:St) (a b:V):Option Bool:=match a with
  | .bool a=>bo (boolQ b) fun b=>some (a == b)
  | .tup l=>bo (two? (.tup l)) fun p=>bo (two? b) fun q=>some (p.1 == q.1 && p.2 == q.2)
  | .list l=>seqEq σ (.list l) b
  | .obj i=>seqEq σ (.obj i) b
  | a=>eqS0 a b

noncomputable def isV1 (a b:V):Option Bool:=match b.isNone with
  | true=>isNoneV a
  | false=>gd a.isNone (isNoneV b)
noncomputable def isV (a b:V):Option Bool:=match a with
  | .bool a=>(match b with
    | .none=>some false
    | .bool b=>some (a == b)
    | _=>none)
  | a=>isV1 a b
noncomputable def chrQ:V→Option Nat
  | .str s=>(match s with | [c]=>some c | _=>none)
  | _=>none
noncomputable def cmpI (f:Int→Int→Bool) (a b:V):Option Bool:=bo (intQ a) fun x=>bo (intQ b) fun y=>some (f x y)
noncomputable def inSeq (σ:St) (x y:V):Option Bool:=match y with
  | .tup l=>isIn x l
  | .str y=>onStr x fun x=>some (findFrom x y 0 != -1)
  | .obj id=>onList σ (.obj id) fun _ l=>isIn x l
  | _=>none
noncomputable def cmpV (σ:St) (o:Cmp) (a b:V):Option Bool:=match o with
  | .eq=>eqV σ a b
  | .ne=>bo (eqS0 a b) fun c=>some (!c)
  | .lt=>cmpI (fun x y=>decide (x < y)) a b
  | .le=>(match a with
    | .int _=>cmpI (fun x y=>decide (x≤y)) a b
    | a=>bo (chrQ a) fun x=>bo (chrQ b) fun y=>some (decide (x≤y)))
  | .gt=>cmpI (fun x y=>decide (x > y)) a b
  | .ge=>cmpI (fun x y=>decide (x ≥ y)) a b
  | .inn=>inSeq σ a b
  | .nin=>(match b with
    | .tup l=>bo (isIn a l) fun c=>some (!c)
    | _=>none)
  | .is=>isV a b
  | .isn=>bo (isV a b) fun c=>some (!c)

noncomputable def bopV (σ:St) (o:Bop) (a b:V):Option V:=match o with
  | .add=>(match a with
    | .int a=>onInt b fun b=>some (.int (a + b))
    | .str a=>onStr b fun b=>bd (a.length + b.length) (some (.str (a ++ b)))
    | a=>onListOf σ a fun l=>onListOf σ b fun l'=>bd (l.length + l'.length) (some (.list (l ++ l'))))
  | .sub=>onInt a fun a=>onInt b fun b=>some (.int (a - b))
  | .mod=>onInt a fun a=>onInt b fun b=>gd (decide (0 < b)) (some (.int (a % b)))
  | .fdiv=>onInt a fun a=>onInt b fun b=>gd (decide (0 < b) && decide (b≤1000)) (some (.int (a / b)))
  | .mul=>none

noncomputable def ixOf (n:Nat) (i:Int):Option Nat:=seqIndex? i n
noncomputable def lookK:List (List Nat)→List V→List Nat→Option V
  | [],_,_=>none
  | _ :: _,[],_=>none
  | k :: ks,v :: vs,x=>if k=x then some v else lookK ks vs x
noncomputable def subL (l:List V) (i:V):Option V:=onInt i fun i=>bd l.length (bo (ixOf l.length i) fun j=>l[j]?)
noncomputable def subV (σ:St) (a x:V):Option V:=match a with
  | .str s=>onInt x fun i=>bd s.length (bo (ixOf s.length i) fun j=>bo s[j]? fun c=>some (.str [c]))
  | .tup l=>subL l x
  | .list l=>subL l x
  | .dict ks vs=>onStr x fun x=>lookK ks vs x
  | .obj id=>bo (look σ.hp id) fun o=>match o with
    | .list l=>subL l x
    | .dict ks vs=>onStr x fun x=>lookK ks vs x
    | .inst _ _=>none
  | _=>none

noncomputable def clampIx (n:Nat) (i:Int):Nat:=(max 0 (min (if i < 0 then i + n else i) (n:Int))).toNat
noncomputable def loIx (n:Nat):V→Option Nat
  | .none=>some 0
  | .int i=>some (clampIx n i)
  | _=>none
noncomputable def hiIx (n:Nat):V→Option Nat
  | .none=>some n
  | .int i=>some (clampIx n i)
  | _=>none
noncomputable def cut {α:Type} (l:List α) (a b:Nat):List α:=(l.take b).drop a
noncomputable def slV (σ:St) (v a b:V):Option V:=match v with
  | .str s=>bd s.length (bo (loIx s.length a) fun i=>bo (hiIx s.length b) fun j=>some (.str (cut s i j)))
  | v=>onListOf σ v fun l=>bd l.length (bo (loIx l.length a) fun i=>bo (hiIx l.length b) fun j=>some (.list (cut l i j)))

noncomputable def one? (l:List V):Option V:=match l with | [a]=>some a | _=>none
noncomputable def biV (σ:St) (b:BI) (l:List V):Option V:=match b with
  | .len=>bo (one? l) fun v=>(match v with
    | .str s=>bd s.length (some (.int s.length))
    | v=>onListOf σ v fun l=>bd l.length (some (.int l.length)))
  | .ord=>bo (one? l) fun v=>bo (chrQ v) fun c=>some (.int c)
  | .chr=>bo (one? l) fun v=>onInt v fun i=>gd (decide (0≤i) && decide (i < 1114112)) (some (.str [i.toNat]))
  | .range=>(match l with
    | [b]=>onInt b fun b=>some (.rng 0 b)
    | [a,b]=>onInt a fun a=>onInt b fun b=>some (.rng a b)
    | _=>none)
  | _=>none

noncomputable def repl (a b:List Nat):Nat→List Nat→List Nat
  | 0,s=>s
  | _ + 1,[]=>[]
  | n + 1,c :: s=>if isPre a (c :: s) then b ++ repl a b n ((c :: s).drop a.length) else c :: repl a b n s
noncomputable def lowC (c:Nat):Nat:=if 65≤c∧c≤90 then c + 32 else c
noncomputable def joinL (b:List Nat):List (List Nat)→List Nat
  | []=>[]
  | [x]=>x
  | x :: y :: r=>x ++ b ++ joinL b (y :: r)
noncomputable def countC (c:Nat) (l:List Nat):Nat:=(l.filter (· == c)).length
noncomputable def rfindC (c:Nat):List Nat→Nat→Int→Int
  | [],_,r=>r
  | a :: l,i,r=>rfindC c l (i + 1) (if a=c then i else r)
noncomputable def three? (s:List Nat) (l:List V):Option (Nat × Int):=match l with
  | [a,b,d]=>bo (chrQ a) fun c=>onInt b fun lo=>onInt d fun hi=>gd (decide (lo=0) && (decide (0≤hi) && decide (hi≤s.length))) (some (c,hi))
  | _=>none
noncomputable def smV (σ:St) (m:SM) (s:List Nat) (l:List V):Option V:=match m with
  | .find=>(match l with
    | [y]=>onStr y fun y=>some (.int (findFrom y s 0))
    | [y,i]=>onStr y fun y=>onInt i fun i=>gd (decide (0≤i) && decide (i≤s.length)) (some (.int (findFrom y (s.drop i.toNat) i.toNat)))
    | _=>none)
  | .replace=>(match l with
    | [a,b]=>onStr a fun a=>onStr b fun b=>gd (!a.isEmpty && (Nat.ble (s.length + (s.length + 1) * b.length) 16777216 && !(a == b))) (some (.str (repl a b (s.length + 1) s)))
    | _=>none)
  | .lower=>(match l with
    | []=>gd (s.all (Nat.blt · 128) && Nat.ble s.length 5592405) (some (.str (s.map lowC)))
    | _=>none)
  | .join=>bo (one? l) fun v=>onListOf σ v fun l=>bo (strsOf? l) fun ys=>bd ((ys.map (·.length)).sum + ys.length * s.length) (some (.str (joinL s ys)))
  | .startswith=>bo (one? l) fun y=>onStr y fun y=>some (.bool (isPre y s))
  | .count=>bo (three? s l) fun p=>some (.int (countC p.1 (s.take p.2.toNat)))
  | .rfind=>bo (three? s l) fun p=>some (.int (rfindC p.1 (s.take p.2.toNat) 0 (-1)))

noncomputable def small (a:Int):Bool:=decide (-16777216≤a) && decide (a≤16777216)
noncomputable def iterV:V→Option (List V)
  | .str s=>some (s.map fun c=>.str [c])
  | .tup l=>some l
  | .list l=>some l
  | .rng a b=>gd (small a && small b) (some ((List.range (b - a).toNat).map fun (i:Nat)=>.int (a + i)))
  | _=>none

noncomputable abbrev Ora:=Nat→List V→St→Option (V × St)

noncomputable def optCons (o:Option V) (l:List V):List V:=match o with
  | some x=>x :: l
  | none=>l
noncomputable def compN (f:V→St→Option (Option V × St)):List V→St→Option (List V × St)
  | [],σ=>some ([],σ)
  | v :: r,σ=>bn (f v σ) fun o σ₁=>bn (compN f r σ₁) fun l σ₂=>some (optCons o l,σ₂)
noncomputable def isNoneB:V→Bool | .none=>true | _=>false
noncomputable def compF (ce cc:St→Option (V × St)) (x:Nat) (loc:List (Nat × V)) (y:V) (τ:St):Option (Option V × St):=
  bn (cc { τ with loc:=(x,y) :: loc }) fun w τ₁=>bo (truthy τ₁ w) fun c=>match c with
    | false=>some (none,{ τ₁ with loc:=loc })
    | true=>bn (ce τ₁) fun z τ₂=>some (some z,{ τ₂ with loc:=loc })
noncomputable def zeroArg:List ME→Option Bool
  | []=>some false
  | [.k (.int i)]=>gd (decide (i=0)) (some true)
  | _=>none
noncomputable def popV (z:Bool) (l:List V):Option (V × List V):=match z with
  | false=>bd l.length (bo l.getLast? fun y=>some (y,l.dropLast))
  | true=>(match l with
    | []=>none
    | y :: l=>gd (Nat.blt l.length maxLen) (some (y,l)))
mutual
noncomputable def ev (C:Ora):ME→St→Option (V × St)
  | .k v=>fun σ=>some (v,σ)
  | .glob v=>fun σ=>some (v,σ)
  | .loc n=>fun σ=>bo (look σ.loc n) fun v=>some (v,σ)
  | .attr e n D=>fun σ=>bn (ev C e σ) fun v σ₁=>onInst σ₁ D v fun _ fs=>bo (look fs n) fun w=>some (w,σ₁)
  | .bm e n D f=>fun σ=>bn (ev C e σ) fun v σ₁=>onInst σ₁ D v fun id fs=>no (look fs n) (some (.meth f (.obj id),σ₁))
  | .cat e n D i=>fun σ=>bn (ev C e σ) fun v σ₁=>onInst σ₁ D v fun _ fs=>no (look fs n) (some (.int i,σ₁))
  | .call f as=>fun σ=>bn (evs C as σ) fun vs σ₁=>C f vs σ₁
  | .mcall e n D f as=>fun σ=>bn (ev C e σ) fun v σ₁=>onInst σ₁ D v fun id fs=>no (look fs n) (bn (evs C as σ₁) fun vs σ₂=>C f (.obj id :: vs) σ₂)
  | .fcall e n D as=>fun σ=>bn (ev C e σ) fun v σ₁=>onInst σ₁ D v fun _ fs=>bo (look fs n) fun w=>onMeth w fun f self=>bn (evs C as σ₁) fun vs σ₂=>C f (self :: vs) σ₂
  | .new D f as lv=>fun σ=>bn (evs C as σ) fun vs σ₁=>bn (σ₁.alloc lv (.inst D [])) fun v σ₂=>bn (C f (v :: vs) σ₂) fun r σ₃=>gd (isNoneB r) (some (v,σ₃))
  | .bi b as=>fun σ=>bn (evs C as σ) fun vs σ₁=>bo (biV σ₁ b vs) fun w=>some (w,σ₁)
  | .sm m e as=>fun σ=>bn (ev C e σ) fun v σ₁=>onStr v fun s=>bn (evs C as σ₁) fun vs σ₂=>bo (smV σ₂ m s vs) fun w=>some (w,σ₂)
  | .app e x=>fun σ=>bn (ev C e σ) fun v σ₁=>onList σ₁ v fun id _=>bn (ev C x σ₁) fun y σ₂=>onList σ₂ (.obj id) fun _ l=>bd l.length (some (.none,σ₂.setOb id (.list (l ++ [y]))))
  | .pop e as=>fun σ=>bn (ev C e σ) fun v σ₁=>onList σ₁ v fun id l=>bo (zeroArg as) fun z=>bo (popV z l) fun p=>some (p.1,σ₁.setOb id (.list p.2))
  | .cmp o l r=>fun σ=>bn (ev C l σ) fun a σ₁=>bn (ev C r σ₁) fun b σ₂=>bo (cmpV σ₂ o a b) fun c=>some (.bool c,σ₂)
  | .cmp2 o₁ o₂ l m r=>fun σ=>bn (ev C l σ) fun a σ₁=>bn (ev C m σ₁) fun b σ₂=>bo (cmpV σ₂ o₁ a b) fun c=>match c with
    | false=>some (.bool false,σ₂)
    | true=>bn (ev C r σ₂) fun d σ₃=>bo (cmpV σ₃ o₂ b d) fun c=>some (.bool c,σ₃)
  | .bop o l r=>fun σ=>bn (ev C l σ) fun a σ₁=>bn (ev C r σ₁) fun b σ₂=>bo (bopV σ₂ o a b) fun w=>some (w,σ₂)
  | .neg e=>fun σ=>bn (ev C e σ) fun v σ₁=>onInt v fun i=>some (.int (-i),σ₁)
  | .not e=>fun σ=>bn (ev C e σ) fun v σ₁=>bo (truthy σ₁ v) fun b=>some (.bool (!b),σ₁)
  | .and a b=>fun σ=>bn (ev C a σ) fun v σ₁=>bo (truthy σ₁ v) fun c=>match c with
    | false=>some (v,σ₁)
    | true=>ev C b σ₁
  | .or a b=>fun σ=>bn (ev C a σ) fun v σ₁=>bo (truthy σ₁ v) fun c=>match c with
    | true=>some (v,σ₁)
    | false=>ev C b σ₁
  | .ite t b o=>fun σ=>bn (ev C t σ) fun v σ₁=>bo (truthy σ₁ v) fun c=>match c with
    | true=>ev C b σ₁
    | false=>ev C o σ₁
  | .sub e i=>fun σ=>bn (ev C e σ) fun v σ₁=>bn (ev C i σ₁) fun x σ₂=>bo (subV σ₂ v x) fun w=>some (w,σ₂)
  | .sl e a b=>fun σ=>bn (ev C e σ) fun v σ₁=>bn (ev C a σ₁) fun x σ₂=>bn (ev C b σ₂) fun y σ₃=>bo (slV σ₃ v x y) fun w=>some (w,σ₃)
  | .lst es lv=>fun σ=>bn (evs C es σ) fun vs σ₁=>σ₁.alloc lv (.list vs)
  | .tup es=>fun σ=>bn (evs C es σ) fun vs σ₁=>some (.tup vs,σ₁)
  | .dct ks es lv=>fun σ=>bn (evs C es σ) fun vs σ₁=>gd (decide (ks.length=vs.length) && decide ks.Nodup) (σ₁.alloc lv (.dict ks vs))
  | .comp elt x it cond=>fun σ=>bn (ev C it σ) fun v σ₁=>bo (iterV v) fun l=>bd l.length (bn (compN (compF (ev C elt) (ev C cond) x σ₁.loc) l σ₁) fun r σ₂=>some (.list r,σ₂))
noncomputable def evs (C:Ora):List ME→St→Option (List V × St)
  | []=>fun σ=>some ([],σ)
  | e :: r=>fun σ=>bn (ev C e σ) fun v σ₁=>bn (evs C r σ₁) fun vs σ₂=>some (v :: vs,σ₂)
end

noncomputable def tst (C:Ora) (e:ME) (σ:St):Option (Bool × St):=bn (ev C e σ) fun v σ₁=>bo (truthy σ₁ v) fun b=>some (b,σ₁)

noncomputable def putK:List (List Nat)→List V→List Nat→V→List V
  | [],vs,_,_=>vs
  | _ :: _,[],_,_=>[]
  | k :: ks,v :: vs,x,y=>if k=x then y :: vs else v :: putK ks vs x y
noncomputable def setItem (σ:St) (o i v:V):Option St:=match o with
  | .obj id=>bo (look σ.hp id) fun b=>match b with
    | .dict ks vs=>onStr i fun x=>bo (lookK ks vs x) fun _=>gd (Nat.ble ks.length 1000) (some (σ.setOb id (.dict ks (putK ks vs x v))))
    | _=>none
  | _=>none
noncomputable def setAttr (σ:St) (n C:Nat) (o v:V):Option St:=onInst σ C o fun id fs=>gd (Nat.blt fs.length 400) (some (σ.setOb id (.inst C (put fs n v))))
noncomputable def iopV (σ:St) (o:Bop) (a b:V):Option (V × St):=match a with
  | .int i=>bo (bopV σ o (.int i) b) fun w=>some (w,σ)
  | .str s=>bo (bopV σ o (.str s) b) fun w=>some (w,σ)
  | .obj id=>gd (decide (o=.add)) (onList σ (.obj id) fun id l=>onListOf σ b fun l'=>bd (l.length + l'.length) (some (.obj id,σ.setOb id (.list (l ++ l')))))
  | _=>none
noncomputable def itemsOf:V→Option (List V)
  | .tup l=>some l
  | _=>none
noncomputable def setLocs:List Nat→List V→St→Option St
  | [],[],σ=>some σ
  | [],_ :: _,_=>none
  | _ :: _,[],_=>none
  | n :: ns,v :: vs,σ=>setLocs ns vs (σ.setLoc n v)

noncomputable def bigN:Nat:=1000000
noncomputable def loopK (f:FL) (go:Option (FL × St)) (σ:St):Option (FL × St):=match f with
  | .next=>go
  | .cont=>go
  | .brk=>some (.next,σ)
  | .ret v=>some (.ret v,σ)
noncomputable def whileN (t:St→Option (Bool × St)) (b:St→Option (FL × St)):Nat→St→Option (FL × St)
  | 0,_=>none
  | n + 1,σ=>bn (t σ) fun c σ₁=>match c with
    | false=>some (.next,σ₁)
    | true=>bn (b σ₁) fun f σ₂=>loopK f (whileN t b n σ₂) σ₂
noncomputable def forN (g:V→St→Option St) (b:St→Option (FL × St)):List V→St→Option (FL × St)
  | [],σ=>some (.next,σ)
  | v :: r,σ=>bo (g v σ) fun σ₁=>bn (b σ₁) fun f σ₂=>loopK f (forN g b r σ₂) σ₂
noncomputable def exOk:V→Bool | .none=>true | .bool _=>true | .str _=>true | _=>false
noncomputable def seqK (f:FL) (go:Option (FL × St)) (σ:St):Option (FL × St):=match f with
  | .next=>go
  | f=>some (f,σ)
noncomputable def pair?:V→Option (V × V)
  | .tup l=>(match l with | [a,b]=>some (a,b) | _=>none)
  | _=>none
mutual
noncomputable def exc (C:Ora):MS→St→Option (FL × St)
  | .ex e=>fun σ=>bn (ev C e σ) fun v σ₁=>gd (exOk v) (some (.next,σ₁))
  | .asg n e=>fun σ=>bn (ev C e σ) fun v σ₁=>some (.next,σ₁.setLoc n v)
  | .asgA t n D e=>fun σ=>bn (ev C e σ) fun v σ₁=>bn (ev C t σ₁) fun o σ₂=>bo (setAttr σ₂ n D o v) fun σ₃=>some (.next,σ₃)
  | .asgS t i e=>fun σ=>bn (ev C e σ) fun v σ₁=>bn (ev C t σ₁) fun o σ₂=>bn (ev C i σ₂) fun x σ₃=>bo (setItem σ₃ o x v) fun σ₄=>some (.next,σ₄)
  | .asgT ns e=>fun σ=>bn (ev C e σ) fun v σ₁=>bo (itemsOf v) fun vs=>bo (setLocs ns vs σ₁) fun σ₂=>some (.next,σ₂)
  | .asgTA t₁ n₁ D₁ t₂ n₂ D₂ e=>fun σ=>bn (ev C e σ) fun v σ₁=>bo (pair? v) fun p=>bn (ev C t₁ σ₁) fun o₁ σ₂=>bo (setAttr σ₂ n₁ D₁ o₁ p.1) fun σ₃=>bn (ev C t₂ σ₃) fun o₂ σ₄=>bo (setAttr σ₄ n₂ D₂ o₂ p.2) fun σ₅=>some (.next,σ₅)
  | .augN n o e=>fun σ=>bo (look σ.loc n) fun a=>bn (ev C e σ) fun b σ₁=>bn (iopV σ₁ o a b) fun c σ₂=>some (.next,σ₂.setLoc n c)
  | .augA t n D o e=>fun σ=>bn (ev C t σ) fun x σ₁=>onInst σ₁ D x fun id fs=>bo (look fs n) fun a=>bn (ev C e σ₁) fun b σ₂=>bn (iopV σ₂ o a b) fun c σ₃=>bo (setAttr σ₃ n D (.obj id) c) fun σ₄=>some (.next,σ₄)
  | .augS t i o e=>fun σ=>bn (ev C t σ) fun x σ₁=>bn (ev C i σ₁) fun j σ₂=>bo (subV σ₂ x j) fun a=>bn (ev C e σ₂) fun b σ₃=>bn (iopV σ₃ o a b) fun c σ₄=>bo (setItem σ₄ x j c) fun σ₅=>some (.next,σ₅)
  | .iff t b o=>fun σ=>bn (tst C t σ) fun c σ₁=>match c with
    | true=>exs C b σ₁
    | false=>exs C o σ₁
  | .whl t b=>fun σ=>whileN (tst C t) (exs C b) bigN σ
  | .for x it b=>fun σ=>bn (ev C it σ) fun v σ₁=>bo (iterV v) fun l=>forN (fun v σ=>some (σ.setLoc x v)) (exs C b) l σ₁
  | .forT xs it b=>fun σ=>bn (ev C it σ) fun v σ₁=>bo (iterV v) fun l=>forN (fun v σ=>bo (itemsOf v) fun vs=>setLocs xs vs σ) (exs C b) l σ₁
  | .ret e=>fun σ=>bn (ev C e σ) fun v σ₁=>some (.ret v,σ₁)
  | .pass=>fun σ=>some (.next,σ)
  | .brk=>fun σ=>some (.brk,σ)
  | .cont=>fun σ=>some (.cont,σ)
  | .asrt e=>fun σ=>bn (tst C e σ) fun c σ₁=>gd c (some (.next,σ₁))
noncomputable def exs (C:Ora):List MS→St→Option (FL × St)
  | []=>fun σ=>some (.next,σ)
  | s :: r=>fun σ=>bn (exc C s σ) fun f σ₁=>seqK f (exs C r σ₁) σ₁
end

structure MFun where
  ps:List Nat
  ds:List V:=[]
  body:List MS
noncomputable def MFun.args (m:MFun) (vs:List V):Option (List V):=
  let all:=vs ++ m.ds.drop (m.ds.length - (m.ps.length - vs.length))
  gd (Nat.ble vs.length m.ps.length && Nat.beq all.length m.ps.length) (some all)
noncomputable def retOf:FL→Option V
  | .next=>some .none
  | .ret v=>some v
  | _=>none
noncomputable def callB (C:Ora) (m:MFun) (vs:List V) (σ:St):Option (V × St):=
  bo (m.args vs) fun as=>bn (exs C m.body { σ with loc:=m.ps.zip as }) fun f σ₁=>bo (retOf f) fun v=>some (v,{ σ₁ with loc:=σ.loc })
noncomputable def oraN (T:Nat→Option MFun):Nat→Ora
  | 0=>fun _ _ _=>none
  | n + 1=>fun f vs σ=>bo (T f) fun m=>callB (oraN T n) m vs σ
end Mine
end
noncomputable section
open PySem
namespace Mine
theorem Runs.toks_le {M:Model} {Γ:Ctx} {p:Pos} {m:Sem Fin} {fs:List Frame} {s s':Shared} {e:End} (h:Runs M Γ p m fs s e s'):s.toks≤s'.toks:=by
  induction h <;> first
    | exact Nat.le_refl _
    | assumption
    | (rename_i ih; exact Nat.le_trans (Nat.le_succ _) ih)
    | (rename_i ih1 ih2; exact Nat.le_trans ih1 ih2)
theorem Wakes.toks_le {M:Model} {Γ:Ctx} {p:Pos} {g:Nat} {r:Resume} {s s':Shared} {res:GenResult} (h:Wakes M Γ p g r s res s'):s.toks≤s'.toks:=by
  unfold Wakes at h
  split at h
  · cases h
  · split at h
    · obtain ⟨e,s₁,hr,_,_,rfl⟩:=h
      exact (Runs.toks_le hr:_)
    · obtain ⟨_,rfl⟩:=h; exact Nat.le_refl _
    · obtain ⟨_,rfl⟩:=h; exact Nat.le_refl _
  · obtain ⟨e,s₁,hr,_,_,rfl⟩:=h
    exact (Runs.toks_le hr:_)
  · obtain ⟨_,rfl⟩:=h; exact Nat.le_refl _
  · obtain ⟨_,rfl⟩:=h; exact Nat.le_refl _
open Sem in
theorem wp_toks {α:Type} {M:Model} {Γ:Ctx} (n:Nat) (t:Sem α) {Q:α→Pos→Shared→Prop} {E:Value→Pos→Shared→Prop} {p:Pos} {s:Shared}
    (hn:n≤s.toks) (h:wp M Γ t Q E p s):wp M Γ t (fun a p' s'=>n≤s'.toks∧Q a p' s') E p s:=by
  induction t generalizing p s with
  | pure a=>simp only [wp] at h ⊢; exact ⟨hn,h⟩
  | raise e=>simp only [wp] at h ⊢; exact h
  | unsupported _=>simp only [wp] at h
  | finish _=>simp only [wp] at h
  | rule _ k ih=>simp only [wp] at h ⊢; exact ih _ hn h
  | «at» _ k ih=>simp only [wp] at h ⊢; exact ih _ hn h
  | load _ _ k ih=>simp only [wp] at h ⊢; exact h.imp fun o z=>⟨z.1,ih _ hn z.2⟩
  | update _ _ f k ih=>simp only [wp] at h ⊢; exact ⟨h.1,ih _ hn h.2⟩
  | loadIfAlive _ k ih=>simp only [wp] at h ⊢; exact ih _ hn h
  | point _ k ih=>simp only [wp] at h ⊢; exact ih _ hn h
  | register _ k ih=>simp only [wp] at h
  | alloc _ k ih=>simp only [wp] at h ⊢; exact ih _ hn h
  | fresh k ih=>simp only [wp] at h ⊢; exact ih _ (Nat.le_succ_of_le hn) h
  | ask k ih=>simp only [wp] at h ⊢; exact ih _ hn h
  | choose _ _ k ih=>simp only [wp] at h ⊢; exact ⟨h.1,ih _ hn h.2⟩
  | os _ _ k ih=>simp only [wp] at h ⊢; exact ih _ hn h
  | call c hh g l k ih =>
    simp only [wp] at h ⊢
    obtain ⟨r,s',hr,z⟩:=h
    exact ⟨r,s',hr,ih _ (Nat.le_trans hn (Runs.toks_le hr)) z⟩
  | handled _ k ih=>simp only [wp] at h ⊢; exact ih _ hn h
  | genState _ k ih=>simp only [wp] at h ⊢; exact h.imp fun o z=>⟨z.1,ih _ hn z.2⟩
  | newGen _ k ih=>simp only [wp] at h ⊢; exact ih _ hn h
  | resume g r l k ih =>
    simp only [wp] at h ⊢
    obtain ⟨res,s',hr,z⟩:=h
    exact ⟨res,s',hr,ih _ (Nat.le_trans hn (Wakes.toks_le hr)) z⟩
  | yield _ _ _ k ih=>simp only [wp] at h
  | stack k ih=>simp only [wp] at h ⊢; exact ih _ hn h
  | fork _ k ih=>simp only [wp] at h
  | thread k ih=>simp only [wp] at h ⊢; exact ih _ hn h
  | await _ _ _ _ k ih=>simp only [wp] at h
theorem wpAny_toks {α:Type} {M:Model} {A:Around} {t:Sem α} {Q:α→Shared→Prop} {E:Value→Shared→Prop} {s:Shared} (hp:0 < s.toks)
    (h:wpAny M A t (fun a s'=>0 < s'.toks→Q a s') E s):wpAny M A t Q E s:=fun Γ p hΓ =>
  Sem.wp_mono M Γ t (fun _ _ _ z=>z.2 z.1) (fun _ _ _ z=>z) p s (wp_toks (M:=M) (Γ:=Γ) 1 t hp (h Γ p hΓ))
end Mine
end
noncomputable section
open PySem PySem.Calls PyProof.Rows PySem.W
namespace Mine

noncomputable def toS (l:List Nat):Str:=⟨l.toArray⟩
theorem toS_inj {a b:List Nat} (h:toS a=toS b):a=b:=by
  injection h with h; simpa using congrArg Array.toList h
theorem toS_len (l:List Nat):(toS l).length=l.length:=by simp [toS,Str.length]

noncomputable def clsOk (K:Frag) (C:Addr):Bool:=
  plainOver K C && (clsIn K C).any (·.hasDict) && findIn K (.ref C) "__getattribute__" == some (some (.builtin "object.__getattribute__"))
  && findIn K (.ref C) "__setattr__" == some (some (.builtin "object.__setattr__")) && findIn K (.ref C) "__getattr__" == some none

structure Cx where
  prog:Program
  w:World
  K:Frag
  fA:Nat→Addr
  cA:Nat→Addr
  nm:Nat→Str
  nC:Nat
  G:List (Nat × V × Value)

noncomputable abbrev Cx.M (c:Cx):Model:=model c.prog c.w

mutual
inductive VR (c:Cx) (F:Addr→Obj→Prop) (ρ:Id→Option Addr):V→Value→Prop
  | none:VR c F ρ .none .none
  | bool (b:Bool):VR c F ρ (.bool b) (.bool b)
  | int (i:Int) (t:Tok):VR c F ρ (.int i) (.int i t)
  | str (s:List Nat) (t:Tok):VR c F ρ (.str s) (.str (toS s) t)
  | tup {l:List V} {a:Addr} {o:Obj} {items:Array Value} {n:Nat}:F a o→o.cls=.type "tuple"→o.data=.seq items n→VRs c F ρ l items.toList→VR c F ρ (.tup l) (.ref a)
  | list {l:List V} {a:Addr} {items:Array Value} {n:Nat}:F a { cls:=.type "list",dict:=none,data:=.seq items n,slots:=#[] }→VRs c F ρ l items.toList→VR c F ρ (.list l) (.ref a)
  | dict {ks:List (List Nat)} {vs:List V} {a:Addr} {o:Obj} {kvs:List (Str × Value)}:F a o→o.IsDictOf (strKind c.prog c.w) kvs→kvs.map (·.1)=ks.map toS→VRs c F ρ vs (kvs.map (·.2))→(a == sysModules)=false→VR c F ρ (.dict ks vs) (.ref a)
  | obj {id:Id} {a:Addr}:ρ id=some a→VR c F ρ (.obj id) (.ref a)
  | fn (f:Nat):VR c F ρ (.fn f) (.ref (c.fA f))
  | rng {lo hi:Int} {a:Addr} {t u v:Tok}:F a { cls:=.type "range",dict:=none,data:=.fields #[.int lo t,.int hi u,.int 1 v],slots:=#[] }→VR c F ρ (.rng lo hi) (.ref a)
  | meth {f:Nat} {self:V} {a:Addr} {x:Value}:F a (methodObj (.ref (c.fA f)) x)→VR c F ρ self x→VR c F ρ (.meth f self) (.ref a)
inductive VRs (c:Cx) (F:Addr→Obj→Prop) (ρ:Id→Option Addr):List V→List Value→Prop
  | nil:VRs c F ρ [] []
  | cons {v:V} {l:List V} {x:Value} {xs:List Value}:VR c F ρ v x→VRs c F ρ l xs→VRs c F ρ (v :: l) (x :: xs)
end

section
variable {c:Cx} {F F':Addr→Obj→Prop} {ρ ρ':Id→Option Addr}
theorem VR.mono (hF:∀ a o,F a o→F' a o) (hρ:∀ i a,ρ i=some a→ρ' i=some a) {v:V} {x:Value} (h:VR c F ρ v x):VR c F' ρ' v x:=
  VR.rec (motive_1:=fun v x _=>VR c F' ρ' v x) (motive_2:=fun l xs _=>VRs c F' ρ' l xs) .none .bool .int .str (fun a b d _ e=>.tup (hF _ _ a) b d e) (fun a _ e=>.list (hF _ _ a) e) (fun a b d _ f e=>.dict (hF _ _ a) b d e f) (fun a=>.obj (hρ _ _ a)) .fn (fun a=>.rng (hF _ _ a))
    (fun a _ b=>.meth (hF _ _ a) b) .nil (fun _ _ a b=>.cons a b) h
theorem VRs.mono (hF:∀ a o,F a o→F' a o) (hρ:∀ i a,ρ i=some a→ρ' i=some a) {l:List V} {xs:List Value} (h:VRs c F ρ l xs):VRs c F' ρ' l xs:=
  VRs.rec (motive_1:=fun v x _=>VR c F' ρ' v x) (motive_2:=fun l xs _=>VRs c F' ρ' l xs) .none .bool .int .str (fun a b d _ e=>.tup (hF _ _ a) b d e) (fun a _ e=>.list (hF _ _ a) e) (fun a b d _ f e=>.dict (hF _ _ a) b d e f) (fun a=>.obj (hρ _ _ a)) .fn (fun a=>.rng (hF _ _ a))
    (fun a _ b=>.meth (hF _ _ a) b) .nil (fun _ _ a b=>.cons a b) h
section
variable {P:Value→Prop} {x:Value}
@[elab_as_elim] theorem VR.noneE (h:VR c F ρ .none x) (k:P .none):P x:=by cases h; exact k
@[elab_as_elim] theorem VR.boolE {b:Bool} (h:VR c F ρ (.bool b) x) (k:P (.bool b)):P x:=by cases h; exact k
@[elab_as_elim] theorem VR.intE {i:Int} (h:VR c F ρ (.int i) x) (k:∀ t,P (.int i t)):P x:=by cases h; exact k _
@[elab_as_elim] theorem VR.strE {s:List Nat} (h:VR c F ρ (.str s) x) (k:∀ t,P (.str (toS s) t)):P x:=by cases h; exact k _
@[elab_as_elim] theorem VR.objE {i:Id} (h:VR c F ρ (.obj i) x) (k:∀ a,ρ i=some a→P (.ref a)):P x:=by cases h with | obj e=>exact k _ e
@[elab_as_elim] theorem VR.tupE {l:List V} (h:VR c F ρ (.tup l) x) (k:∀ a o items n,F a o→o.cls=.type "tuple"→o.data=.seq items n→VRs c F ρ l items.toList→P (.ref a)):P x:=by cases h with | tup a b d e=>exact k _ _ _ _ a b d e
@[elab_as_elim] theorem VR.listE {l:List V} (h:VR c F ρ (.list l) x) (k:∀ a items n,F a { cls:=.type "list",dict:=Option.none,data:=.seq items n,slots:=#[] }→VRs c F ρ l items.toList→P (.ref a)):P x:=by cases h with | list a b=>exact k _ _ _ a b
@[elab_as_elim] theorem VR.dictE {ks:List (List Nat)} {vs:List V} (h:VR c F ρ (.dict ks vs) x) (k:∀ a o kvs,F a o→o.IsDictOf (strKind c.prog c.w) kvs→kvs.map (·.1)=ks.map toS→VRs c F ρ vs (kvs.map (·.2))→(a == sysModules)=false→P (.ref a)):P x:=by
  cases h with | dict a b d e f=>exact k _ _ _ a b d e f
@[elab_as_elim] theorem VR.methE {f:Nat} {v:V} (h:VR c F ρ (.meth f v) x) (k:∀ a y,F a (methodObj (.ref (c.fA f)) y)→VR c F ρ v y→P (.ref a)):P x:=by cases h with | meth a b=>exact k _ _ a b
@[elab_as_elim] theorem VR.rngE {lo hi:Int} (h:VR c F ρ (.rng lo hi) x) (k:∀ a t u v,F a { cls:=.type "range",dict:=Option.none,data:=.fields #[.int lo t,.int hi u,.int 1 v],slots:=#[] }→P (.ref a)):P x:=by cases h with | rng a=>exact k _ _ _ _ a
end
section
variable {P:List Value→Prop} {xs:List Value}
@[elab_as_elim] theorem VRs.nilE (h:VRs c F ρ [] xs) (k:P []):P xs:=by cases h; exact k
@[elab_as_elim] theorem VRs.consE {v:V} {l:List V} (h:VRs c F ρ (v :: l) xs) (k:∀ y ys,VR c F ρ v y→VRs c F ρ l ys→P (y :: ys)):P xs:=by cases h with | cons a b=>exact k _ _ a b
@[elab_as_elim] theorem VRs.oneE {v:V} (h:VRs c F ρ [v] xs) (k:∀ y,VR c F ρ v y→P [y]):P xs:=h.consE fun y _ a b=>b.nilE (k y a)
@[elab_as_elim] theorem VRs.twoE {v w:V} (h:VRs c F ρ [v,w] xs) (k:∀ y z,VR c F ρ v y→VR c F ρ w z→P [y,z]):P xs:=h.consE fun y _ a b=>b.oneE fun z b=>k y z a b
end
end

section
variable {c:Cx} {F:Addr→Obj→Prop} {ρ:Id→Option Addr}
theorem VRs.length:∀ {l:List V} {xs:List Value},VRs c F ρ l xs→l.length=xs.length
  | [],_,h=>h.nilE rfl
  | _ :: _,_,h=>h.consE fun _ _ _ b=>congrArg (· + 1) b.length
theorem VRs.get:∀ {l:List V} {xs:List Value},VRs c F ρ l xs→∀ {i:Nat} {v:V},l[i]?=some v→∃ x,xs[i]?=some x∧VR c F ρ v x
  | [],_,_,_,_,e=>nn e
  | _ :: _,_,h,0,_,e=>h.consE fun y _ a _=>⟨y,rfl,Option.some.inj e▸a⟩
  | _ :: _,_,h,_ + 1,_,e=>h.consE (P:=fun xs=>∃ x,xs[_ + 1]?=some x∧VR c F ρ _ x) fun _ _ _ b=>b.get e
theorem VRs.append {l':List V} {xs':List Value}:∀ {l:List V} {xs:List Value},VRs c F ρ l xs→VRs c F ρ l' xs'→VRs c F ρ (l ++ l') (xs ++ xs')
  | [],_,h,h'=>h.nilE h'
  | _ :: _,_,h,h'=>h.consE (P:=fun xs=>VRs c F ρ _ (xs ++ xs')) fun _ _ a b=>.cons a (b.append h')
theorem VRs.take:∀ {l:List V} {xs:List Value},VRs c F ρ l xs→∀ n,VRs c F ρ (l.take n) (xs.take n)
  | [],_,h,n=>h.nilE (P:=fun xs=>VRs c F ρ _ (xs.take n)) (by cases n <;> exact .nil)
  | _ :: _,_,h,0=>.nil
  | _ :: _,_,h,n + 1=>h.consE (P:=fun xs=>VRs c F ρ _ (xs.take (n + 1))) fun _ _ a b=>.cons a (b.take n)
theorem VRs.drop:∀ {l:List V} {xs:List Value},VRs c F ρ l xs→∀ n,VRs c F ρ (l.drop n) (xs.drop n)
  | _,_,h,0=>h
  | [],_,h,n + 1=>h.nilE (P:=fun xs=>VRs c F ρ _ (xs.drop (n + 1))) .nil
  | _ :: _,_,h,n + 1=>h.consE (P:=fun xs=>VRs c F ρ _ (xs.drop (n + 1))) fun _ _ a b=>b.drop n
end

noncomputable def biTab:List (Str × Value):=[(Str.ofString "len",.builtin "len"),(Str.ofString "ord",.builtin "ord"),(Str.ofString "chr",.builtin "chr"),(Str.ofString "range",.type "range"),(Str.ofString "sum",.builtin "sum"),(Str.ofString "max",.builtin "max"),(Str.ofString "isinstance",.builtin "isinstance")]
structure Cx.Ok (c:Cx):Prop where
  bi:∀ p ∈ biTab,nsIn c.K builtinsNs p.1=some (some p.2)
  inj:∀ i j,c.nm i=c.nm j→i=j
  noDbg:∀ i,(c.nm i == ("__debug__":Str))=false
  no0:∀ i,c.nm i ≠ (".0":Str)
  fn:∀ f,fnIn c.K (c.fA f)=true
  cls:∀ C,C < c.nC→clsOk c.K (c.cA C)=true
  lim:c.K.lookup cStatics=some ⟨.none,none,.dict #[] 0,#[]⟩
  big:∃ o,c.K.lookup 3=some o
  gl:∀ n v x,(n,v,x) ∈ c.G→nsIn c.K 3 (c.nm n)=some (some x)
  gv:∀ n v x,(n,v,x) ∈ c.G→∀ (F:Addr→Obj→Prop) (ρ:Id→Option Addr),(∀ a o,c.K.lookup a=some o→F a o)→VR c F ρ v x

structure Gh where
  W:Addr→Prop
  X:Addr→Prop
  cs:Id→Option (Addr × Addr)
noncomputable def Gh.rho (g:Gh) (i:Id):Option Addr:=(g.cs i).map (·.1)

noncomputable def FA (env:Env) (a:Addr):Prop:=a=env.locals
noncomputable def Fz (env:Env) (g:Gh) (h:Heap) (a:Addr) (o:Obj):Prop:=h.get? a=some o∧¬ g.W a∧¬ g.X a∧¬ FA env a

inductive FsR (c:Cx) (F:Addr→Obj→Prop) (ρ:Id→Option Addr):List (Nat × V)→List DictEntry→Prop
  | nil:FsR c F ρ [] []
  | cons {n:Nat} {v:V} {fs:List (Nat × V)} {e:DictEntry} {es:List DictEntry} {t:Tok}:e.key=.str (c.nm n) t→VR c F ρ v e.val→FsR c F ρ fs es→FsR c F ρ ((n,v) :: fs) (e :: es)

noncomputable def ObR (c:Cx) (env:Env) (g:Gh) (h:Heap):Ob→Addr→Addr→Prop
  | .list l,r,o=>r=o∧∃ items n,IsL h r items n∧VRs c (Fz env g h) g.rho l items.toList
  | .dict ks vs,r,o=>r=o∧(r == sysModules)=false∧∃ kvs,h.DictOf (strKind c.prog c.w) r kvs∧kvs.map (·.1)=ks.map toS∧VRs c (Fz env g h) g.rho vs (kvs.map (·.2))
  | .inst C fs,r,o=>C < c.nC∧fs.length≤500∧Fz env g h r (instObj (c.cA C) o)∧∃ es n,h.get? o=some (dictOf es n)∧FsR c (Fz env g h) g.rho fs es

noncomputable def LocR (c:Cx) (env:Env) (F:Addr→Obj→Prop) (ρ:Id→Option Addr) (loc:List (Nat × V)) (m:Str→Option Value):Prop:=∀ n v,look loc n=some v →
      (env.kindOf (c.nm n)=some .local→∃ x,m (c.nm n)=some x∧VR c F ρ v x) ∧
      (env.kindOf (c.nm n)=some .cell→∃ ca o x,env.cells.lookup (c.nm n)=some ca∧F ca o∧o.data=.cell (some x)∧VR c F ρ v x)
structure Rel0 (c:Cx) (env:Env) (g:Gh) (σ:St) (h:Heap):Prop where
  kin:∀ a o,c.K.lookup a=some o→Fz env g h a o
  wob:∀ a,g.W a→∃ o,h.get? a=some o
  xob:∀ a,g.X a→∃ o,h.get? a=some o
  fob:∀ a,FA env a→∃ o,h.get? a=some o
  dis:∀ a,g.W a→¬ g.X a∧¬ FA env a
  loc:∃ m,h.Ns env.locals m∧LocR c env (Fz env g h) g.rho σ.loc m
  obs:∀ id ob,look σ.hp id=some ob→∃ r o,g.cs id=some (r,o)∧ObR c env g h ob r o
  cW:∀ id r o,g.cs id=some (r,o)→g.W o
  inj:∀ id id' r o r',g.cs id=some (r,o)→g.cs id'=some (r',o)→id=id'
  nx:∀ k,σ.nx≤k→g.cs (.t k)=none
  ps:∀ k,k ∉ σ.ps→g.cs (.p k)=none

structure Rel (c:Cx) (env:Env) (g:Gh) (σ:St) (s:Shared):Prop extends Rel0 c env g σ s.heap where
  pos:0 < s.toks

noncomputable abbrev gos (s:Shared):Array GenState × OsState:=(s.gens,s.os)
structure Ext (env:Env) (g g':Gh) (s s':Shared):Prop where
  fz:∀ a o,s.heap.get? a=some o→¬ g.W a→¬ FA env a→s'.heap.get? a=some o∧¬ g'.W a
  cs:∀ id p,g.cs id=some p→g'.cs id=some p
  X:g'.X=g.X
  gens:gos s'=gos s

theorem Ext.refl {env:Env} {g:Gh} {s:Shared}:Ext env g g s s:=⟨fun _ _ h hw _=>⟨h,hw⟩,fun _ _ h=>h,rfl,rfl⟩
theorem Ext.trans {env:Env} {g g₁ g₂:Gh} {s s₁ s₂:Shared} (x:Ext env g g₁ s s₁) (y:Ext env g₁ g₂ s₁ s₂):Ext env g g₂ s s₂:=
  ⟨fun a o h hw hf=>let ⟨h₁,hw₁⟩:=x.fz a o h hw hf; y.fz a o h₁ hw₁ hf,fun id p h=>y.cs id p (x.cs id p h),y.X.trans x.X,y.gens.trans x.gens⟩
theorem Ext.Fz {env:Env} {g g':Gh} {s s':Shared} (x:Ext env g g' s s') {a:Addr} {o:Obj} (h:Fz env g s.heap a o):Fz env g' s'.heap a o:=
  ⟨(x.fz a o h.1 h.2.1 h.2.2.2).1,(x.fz a o h.1 h.2.1 h.2.2.2).2,x.X▸h.2.2.1,h.2.2.2⟩
theorem Ext.rho {env:Env} {g g':Gh} {s s':Shared} (x:Ext env g g' s s') {i:Id} {a:Addr} (h:g.rho i=some a):g'.rho i=some a:=by
  unfold Gh.rho at *
  cases q:g.cs i with
  | none=>rw [q] at h; cases h
  | some p=>rw [q] at h; rw [x.cs i p q]; exact h
theorem VR.ext {c:Cx} {env:Env} {g g':Gh} {s s':Shared} (x:Ext env g g' s s') {v:V} {y:Value} (h:VR c (Mine.Fz env g s.heap) g.rho v y):VR c (Mine.Fz env g' s'.heap) g'.rho v y:=
  h.mono (fun _ _=>x.Fz) (fun _ _=>x.rho)
theorem VRs.ext {c:Cx} {env:Env} {g g':Gh} {s s':Shared} (x:Ext env g g' s s') {v:List V} {y:List Value} (h:VRs c (Mine.Fz env g s.heap) g.rho v y):VRs c (Mine.Fz env g' s'.heap) g'.rho v y:=
  h.mono (fun _ _=>x.Fz) (fun _ _=>x.rho)
theorem FsR.mono {c:Cx} {F F':Addr→Obj→Prop} {ρ ρ':Id→Option Addr} (hF:∀ a o,F a o→F' a o) (hρ:∀ i a,ρ i=some a→ρ' i=some a) {fs:List (Nat × V)} {es:List DictEntry} (h:FsR c F ρ fs es):FsR c F' ρ' fs es:=
  FsR.rec (motive:=fun fs es _=>FsR c F' ρ' fs es) .nil (fun a b _ ih=>.cons a (b.mono hF hρ) ih) h
theorem LocR.mono {c:Cx} {env:Env} {F F':Addr→Obj→Prop} {ρ ρ':Id→Option Addr} (hF:∀ a o,F a o→F' a o) (hρ:∀ i a,ρ i=some a→ρ' i=some a) {l:List (Nat × V)} {m:Str→Option Value} (h:LocR c env F ρ l m):LocR c env F' ρ' l m:=fun n v e =>
  ⟨fun q=>((h n v e).1 q).imp fun _ z=>⟨z.1,z.2.mono hF hρ⟩,fun q=>((h n v e).2 q).imp fun _=>Exists.imp fun _=>Exists.imp fun _ z=>⟨z.1,hF _ _ z.2.1,z.2.2.1,z.2.2.2.mono hF hρ⟩⟩
theorem ObR.mono {c:Cx} {env env':Env} {g g':Gh} {h h':Heap} {ob:Ob} {r o:Addr} (kF:∀ a o,Fz env g h a o→Fz env' g' h' a o) (kr:∀ i a,g.rho i=some a→g'.rho i=some a) (kc:∀ p,h.get? o=some p→h'.get? o=some p) (H:ObR c env g h ob r o):ObR c env' g' h' ob r o:=by
  cases ob with
  | list l=>exact ⟨H.1,H.2.imp fun _=>Exists.imp fun _ z=>⟨kc _ (H.1▸z.1) |> fun q=>H.1▸q,z.2.mono kF kr⟩⟩
  | dict ks vs=>exact ⟨H.1,H.2.1,H.2.2.imp fun _ z=>⟨z.1.at fun _ e=>H.1▸kc _ (H.1▸e),z.2.1,z.2.2.mono kF kr⟩⟩
  | inst C fs=>exact ⟨H.1,H.2.1,kF _ _ H.2.2.1,H.2.2.2.imp fun _=>Exists.imp fun _ z=>⟨kc _ z.1,z.2.mono kF kr⟩⟩

theorem Rel0.grow {c:Cx} {env:Env} {g:Gh} {σ:St} {h h':Heap} (R:Rel0 c env g σ h) (k:∀ b o,h.get? b=some o→h'.get? b=some o):Rel0 c env g σ h':=
  have kF:∀ a o,Fz env g h a o→Fz env g h' a o:=fun a o z=>⟨k _ _ z.1,z.2⟩
  ⟨fun a o e=>kF _ _ (R.kin a o e),fun a e=>(R.wob a e).imp fun o z=>k _ _ z,fun a e=>(R.xob a e).imp fun o z=>k _ _ z,fun a e=>(R.fob a e).imp fun o z=>k _ _ z,R.dis,R.loc.imp fun _ z=>⟨z.1.keeps k,z.2.mono kF fun _ _ z=>z⟩,
    fun id ob e=>(R.obs id ob e).imp fun _=>Exists.imp fun _ z=>⟨z.1,z.2.mono kF (fun _ _ z=>z) fun _=>k _ _⟩,R.cW,R.inj,R.nx,R.ps⟩
theorem Ext.grow {env:Env} {g:Gh} {s s':Shared} (k:∀ b o,s.heap.get? b=some o→s'.heap.get? b=some o) (hg:gos s'=gos s):Ext env g g s s':=
  ⟨fun a o h hw _=>⟨k _ _ h,hw⟩,fun _ _ h=>h,rfl,hg⟩
theorem Rel0.sub {c:Cx} {env:Env} {g:Gh} {σ σ':St} {h:Heap} (R:Rel0 c env g σ h) (hl:∀ n v,look σ'.loc n=some v→look σ.loc n=some v) (ho:∀ i o,look σ'.hp i=some o→look σ.hp i=some o)
    (hn:σ.nx≤σ'.nx) (hp:∀ k,k ∈ σ.ps→k ∈ σ'.ps):Rel0 c env g σ' h:=
  ⟨R.kin,R.wob,R.xob,R.fob,R.dis,R.loc.imp fun m z=>⟨z.1,fun n v e=>z.2 n v (hl n v e)⟩,fun i o e=>R.obs i o (ho i o e),R.cW,R.inj,fun k e=>R.nx k (Nat.le_trans hn e),fun k e=>R.ps k fun q=>e (hp k q)⟩
theorem Rel.sub {c:Cx} {env:Env} {g:Gh} {σ σ':St} {s:Shared} (R:Rel c env g σ s) (hl:∀ n v,look σ'.loc n=some v→look σ.loc n=some v) (ho:∀ i o,look σ'.hp i=some o→look σ.hp i=some o)
    (hn:σ.nx≤σ'.nx) (hp:∀ k,k ∈ σ.ps→k ∈ σ'.ps):Rel c env g σ' s:=⟨R.toRel0.sub hl ho hn hp,R.pos⟩
theorem Rel.grow {c:Cx} {env:Env} {g:Gh} {σ:St} {s s':Shared} (R:Rel c env g σ s) (k:∀ b o,s.heap.get? b=some o→s'.heap.get? b=some o) (hp:0 < s'.toks):Rel c env g σ s':=⟨R.toRel0.grow k,hp⟩
end Mine
end
noncomputable section
open PySem PySem.Builtin PySem.Builtin.Str PySem.StrLaws
namespace Mine

theorem isPre_eq:∀ (y s:List Nat),isPre y s=(s.take y.length == y)
  | [],s=>by cases s <;> rfl
  | _ :: _,[]=>rfl
  | a :: y,b :: s=>by
    show (a == b && isPre y s)=(b == a && (s.take y.length == y))
    rw [isPre_eq y s,BEq.comm]
theorem isPre_take:∀ (y:List Nat) (m:Nat) (t:List Nat),isPre y (t.take m)=(decide (y.length≤m) && isPre y t)
  | [],m,t=>by
    rw [List.length_nil,decide_eq_true (Nat.zero_le m)]; cases t.take m <;> cases t <;> rfl
  | _ :: _,0,_=>rfl
  | _ :: _,_ + 1,[]=>(Bool.and_false _).symm
  | a :: y,m + 1,b :: t=>by
    show (a == b && isPre y (t.take m))=(decide (y.length + 1≤m + 1) && (a == b && isPre y t))
    rw [isPre_take y m t,Bool.and_left_comm]
    congr 1
    exact decide_eq_decide.mpr Nat.succ_le_succ_iff.symm

noncomputable def occL (y:List Nat):Nat→List Nat→Nat→Nat→List Nat
  | lim,[],i,k=>if 0 < lim∧k=0∧isPre y []=true then [i] else []
  | lim,c :: s,i,k=>if 0 < lim∧k=0∧isPre y (c :: s)=true then i :: occL y (lim - 1) s (i + 1) (y.length - 1) else occL y lim s (i + 1) (k - 1)

theorem at_pre {s y:List Nat} {hi i:Nat} (hi':i≤hi):(i + (toS y).length≤hi∧subAt (toS s) (toS y) i=true) ↔ isPre y ((s.take hi).drop i)=true:=by
  rw [List.drop_take,isPre_take,isPre_eq,Bool.and_eq_true,decide_eq_true_eq,subAt_eq,toS_len,Nat.le_sub_iff_add_le' hi']
  exact Iff.rfl
theorem drop_tl {α:Type} {L l:List α} {c:α} {i:Nat} (h:c :: l=L.drop i):l=L.drop (i + 1):=by rw [← List.drop_drop,← h]; rfl

theorem occ_run {s y:List Nat} {hi lim:Nat}:∀ (l:List Nat) (i:Nat) (st:Array Nat × Nat),l=(s.take hi).drop i→i + l.length=hi →
    (forIn (List.range' i (l.length + 1)) st (occBody (toS s) (toS y) hi lim)).run.fst.toList=st.fst.toList ++ occL y (lim - st.fst.size) l i (st.snd - i):=by
  have key:∀ (l:List Nat) (i:Nat) (st:Array Nat × Nat),l=(s.take hi).drop i→i + l.length=hi →
      ((((st.fst.size < lim∧st.snd≤i)∧i + (toS y).length≤hi)∧subAt (toS s) (toS y) i=true) ↔ (0 < lim - st.fst.size∧st.snd - i=0∧isPre y l=true)):=fun l i st hl hh=>by
    rw [hl,← at_pre (hh▸Nat.le_add_right _ _),Nat.sub_pos_iff_lt,Nat.sub_eq_zero_iff_le,and_assoc,and_assoc]
  intro l
  induction l with
  | nil =>
    intro i st hl hh
    show (forIn [i] st (occBody (toS s) (toS y) hi lim)).run.fst.toList=_
    rw [List.forIn_cons]
    unfold occL occBody
    by_cases hc:0 < lim - st.fst.size∧st.snd - i=0∧isPre y []=true
    · rw [if_pos ((key _ _ _ hl hh).mpr hc),if_pos hc]; exact Array.toList_push
    · rw [if_neg fun q=>hc ((key _ _ _ hl hh).mp q),if_neg hc]; exact (List.append_nil _).symm
  | cons c l ih =>
    intro i st hl hh
    show (forIn (i :: List.range' (i + 1) (l.length + 1)) st (occBody (toS s) (toS y) hi lim)).run.fst.toList=_
    rw [List.forIn_cons]
    unfold occL occBody
    have hl':=drop_tl hl
    have hh':i + 1 + l.length=hi:=(Nat.add_right_comm i 1 _).trans hh
    by_cases hc:0 < lim - st.fst.size∧st.snd - i=0∧isPre y (c :: l)=true
    · rw [if_pos ((key _ _ _ hl hh).mpr hc),if_pos hc]
      refine (ih (i + 1) (st.fst.push i,i + (toS y).length) hl' hh').trans ?_
      rw [Array.toList_push,Array.size_push,toS_len,Nat.add_sub_add_left,List.append_assoc,← Nat.sub_sub]; rfl
    · rw [if_neg fun q=>hc ((key _ _ _ hl hh).mp q),if_neg hc]
      exact ih (i + 1) st hl' hh'
theorem occ_list {s y:List Nat} {lo hi lim:Nat} (hh:hi≤s.length) (hl:lo≤hi):occurrences (toS s) (toS y) lo hi lim=occL y lim ((s.take hi).drop lo) lo 0:=by
  have e:((s.take hi).drop lo).length=hi - lo:=by rw [List.length_drop,List.length_take,Nat.min_eq_left hh]
  have:=occ_run (y:=y) (lim:=lim) ((s.take hi).drop lo) lo (#[],lo) rfl (by rw [e]; exact Nat.add_sub_cancel' hl)
  rw [e,← Nat.sub_add_comm hl,Nat.sub_self] at this
  rw [occ_eq,this]; rfl

theorem occL_find (y:List Nat):∀ (s:List Nat) (i:Nat),(match occL y 1 s i 0 with | k :: _=>(k:Int) | []=>-1)=findFrom y s i
  | [],i=>by
    unfold occL findFrom
    by_cases h:isPre y []=true
    · rw [if_pos ⟨Nat.one_pos,rfl,h⟩,if_pos h]
    · rw [if_neg fun q=>h q.2.2,if_neg h]
  | c :: s,i=>by
    unfold occL findFrom
    by_cases h:isPre y (c :: s)=true
    · rw [if_pos ⟨Nat.one_pos,rfl,h⟩,if_pos h]
    · rw [if_neg fun q=>h q.2.2,if_neg h]; exact occL_find y s (i + 1)
theorem occ_all (s y:List Nat) (lim:Nat):occurrences (toS s) (toS y) 0 (toS s).length lim=occL y lim s 0 0:=by
  rw [toS_len,occ_list (Nat.le_refl _) (Nat.zero_le _),List.take_length]; rfl
theorem find_eq (s y:List Nat):Txt.find (toS s) (toS y)=findFrom y s 0:=by
  unfold Txt.find
  rw [occ_all]; exact occL_find y s 0
theorem contains_eq (s y:List Nat):Txt.contains (toS s) (toS y)=(findFrom y s 0 != -1):=by
  unfold Txt.contains
  rw [occ_all,← occL_find y s 0]
  cases occL y 1 s 0 0 with
  | nil=>rfl
  | cons k l=>exact (bne_iff_ne.mpr fun h=>nomatch h:((k:Int) != -1)=true).symm
theorem find3_eq {s y:List Nat} {i:Int} (h0:0≤i) (h1:i≤s.length):Txt.find3 (toS s) (toS y) i=findFrom y (s.drop i.toNat) i.toNat:=by
  unfold Txt.find3
  have h1:i.toNat≤s.length:=Int.toNat_le.mpr h1
  have e:fromIndex (toS s).length i=i.toNat:=by unfold fromIndex; rw [if_neg (Int.not_lt.mpr h0),Int.max_eq_right h0]
  rw [e,toS_len,occ_list (Nat.le_refl _) h1,List.take_length]
  exact occL_find y _ _

theorem isPre_one (c a:Nat) (l:List Nat):isPre [c] (a :: l)=(c == a):=Bool.and_true _
theorem count_list {c:Nat}:∀ (l:List Nat) (lim i:Nat),l.length < lim→(occL [c] lim l i 0).length=countC c l
  | [],lim,i,h=>by unfold occL; rw [if_neg fun q=>nomatch q.2.2]; rfl
  | a :: l,lim + 1,i,h=>by
    unfold occL countC
    rw [List.filter_cons]
    by_cases e:c=a
    · subst e
      rw [if_pos ⟨Nat.succ_pos _,rfl,by rw [isPre_one]; exact beq_self_eq_true c⟩,if_pos (beq_self_eq_true c)]
      exact congrArg (· + 1) (count_list l lim (i + 1) (Nat.lt_of_succ_lt_succ h))
    · rw [if_neg fun q=>e (bE ((isPre_one c a l).symm.trans q.2.2)),if_neg fun q=>e (bE q).symm]
      exact count_list l (lim + 1) (i + 1) (Nat.lt_of_succ_lt h)

theorem last_run' {s:List Nat} {c hi:Nat}:∀ (l:List Nat) (i:Nat) (st:Option Nat),l=(s.take hi).drop i→i + l.length=hi →
    (match (forIn (List.range' i (l.length + 1)) st (lastBody (toS s) (toS [c]) hi)).run with | some k=>(k:Int) | none=>-1)=rfindC c l i (match st with | some k=>(k:Int) | none=>-1)
  | [],i,st,hl,hh=>by
    show (match (forIn [i] st (lastBody (toS s) (toS [c]) hi)).run with | some k=>(k:Int) | none=>-1)=_
    rw [List.forIn_cons]
    unfold lastBody
    rw [if_neg fun q=>nomatch (show isPre [c] []=true from hl▸(at_pre (s:=s) (y:=[c]) (hh▸Nat.le_add_right _ _:i≤hi)).mp q)]
    rfl
  | a :: l,i,st,hl,hh=>by
    have e:=at_pre (s:=s) (y:=[c]) (hh▸Nat.le_add_right _ _:i≤hi)
    rw [← hl,isPre_one] at e
    have hl':=drop_tl hl
    have hh':i + 1 + l.length=hi:=(Nat.add_right_comm i 1 _).trans hh
    show (match (forIn (i :: List.range' (i + 1) (l.length + 1)) st (lastBody (toS s) (toS [c]) hi)).run with | some k=>(k:Int) | none=>-1)=_
    rw [List.forIn_cons]
    unfold lastBody rfindC
    by_cases hc:a=c
    · rw [if_pos (e.mpr (beq_iff_eq.mpr hc.symm)),if_pos hc]; exact last_run' l (i + 1) (some i) hl' hh'
    · rw [if_neg fun q=>hc (bE (e.mp q)).symm,if_neg hc]; exact last_run' l (i + 1) st hl' hh'
theorem last_list {s:List Nat} {c hi:Nat} (hh:hi≤s.length):(match lastOccurrence (toS s) (toS [c]) 0 hi with | some k=>(k:Int) | none=>-1)=rfindC c (s.take hi) 0 (-1):=by
  have e:(s.take hi).length=hi:=by rw [List.length_take,Nat.min_eq_left hh]
  have:=last_run' (c:=c) (s.take hi) 0 none rfl (by rw [e]; exact Nat.zero_add _)
  rw [e] at this
  rw [last_eq]; exact this

theorem startswith_eq (s y:List Nat):Txt.startswith (toS s) (toS y)=isPre y s:=by
  have e:=at_pre (s:=s) (y:=y) (Nat.zero_le s.length)
  rw [List.take_length,List.drop_zero] at e
  unfold Txt.startswith
  rw [Bool.eq_iff_iff,Bool.and_eq_true,decide_eq_true_eq,← e,toS_len s]

theorem sub_list (s:List Nat) (i j:Nat):strSub (toS s) i j=toS ((s.drop i).take (j - i)):=congrArg Str.mk (Array.toList_inj.mp (strSub_toList (toS s) i j))
noncomputable def partsL (s:List Nat) (w:Nat):Nat→List Nat→List (List Nat)
  | p,[]=>[s.drop p]
  | p,c :: r=>(s.drop p).take (c - p) :: partsL s w (c + w) r
theorem parts_list (s:List Nat) (w:Nat):∀ (cuts:List Nat) (p:Nat),partsFrom (toS s) w p cuts=(partsL s w p cuts).map toS
  | [],p=>by
    unfold partsFrom partsL
    rw [sub_list,toS_len,List.take_of_length_le (Nat.le_of_eq List.length_drop)]; rfl
  | c :: r,p=>by
    unfold partsFrom partsL
    rw [sub_list,parts_list s w r]; rfl
theorem toS_app' (a b:List Nat):toS a ++ toS b=toS (a ++ b):=congrArg Str.mk (List.append_toArray a b)
theorem join_list (b:List Nat):∀ (l:List (List Nat)),Str.join (toS b) (l.map toS)=toS (joinL b l)
  | []=>rfl
  | [x]=>rfl
  | x :: y :: r=>by
    show toS x ++ toS b ++ Str.join (toS b) ((y :: r).map toS)=_
    rw [join_list b (y :: r),toS_app',toS_app']; rfl
theorem joinL_cons {s b x:List Nat} {w p:Nat}:∀ {r:List Nat},joinL b (x :: partsL s w p r)=x ++ b ++ joinL b (partsL s w p r)
  | []=>rfl
  | _ :: _=>rfl
theorem repl_run {s b a:List Nat} {x:Nat}:∀ (l:List Nat) (lim i k p fuel:Nat) (u:List Nat),s.drop p=u ++ l.drop k→p + u.length=i + k→(k=0∨u=[])→l.length < lim→(l.drop k).length < fuel →
    joinL b (partsL s (a.length + 1) p (occL (x :: a) lim l i k))=u ++ repl (x :: a) b fuel (l.drop k)
  | [],lim,i,k,p,fuel,u,hs,hp,hk,hlim,hf=>by
    unfold occL
    rw [if_neg fun q=>nomatch q.2.2]
    rw [List.drop_nil] at hs ⊢
    have:repl (x :: a) b fuel []=[]:=by cases fuel <;> rfl
    rw [this]; exact hs
  | c :: l,lim,i,m + 1,p,fuel,u,hs,hp,hk,hlim,hf=>by
    unfold occL
    rw [if_neg fun q=>nomatch q.2.1]
    exact repl_run l lim (i + 1) m p fuel u hs (hp.trans (Nat.add_right_comm i m 1)) (.inr (hk.resolve_left fun q=>nomatch q)) (Nat.lt_of_succ_lt hlim) hf
  | c :: l,lim + 1,i,0,p,n + 1,u,hs,hp,hk,hlim,hf=>by
    unfold occL
    have hf':=Nat.lt_of_succ_lt_succ hf
    have hlim':=Nat.lt_of_succ_lt_succ hlim
    by_cases h:isPre (x :: a) (c :: l)=true
    · rw [if_pos ⟨Nat.succ_pos _,rfl,h⟩]
      have e1:(s.drop p).take (i - p)=u:=by
        rw [hs,show i - p=u.length from Nat.sub_eq_of_eq_add (hp.symm.trans (Nat.add_comm _ _))]; exact List.take_left
      have e2:s.drop (i + (a.length + 1))=l.drop a.length:=by
        rw [show i=p + u.length from hp.symm,Nat.add_assoc,← List.drop_drop,hs,← List.drop_drop,List.drop_left]; rfl
      show joinL b ((s.drop p).take (i - p) :: partsL s (a.length + 1) (i + (a.length + 1)) _)=u ++ repl (x :: a) b (n + 1) (c :: l)
      rw [joinL_cons,e1]
      show u ++ b ++ joinL b (partsL s (a.length + 1) (i + (a.length + 1)) (occL (x :: a) lim l (i + 1) a.length))=_
      rw [repl_run l lim (i + 1) a.length (i + (a.length + 1)) n [] e2 (Nat.add_assoc i 1 a.length▸by rw [Nat.add_comm a.length 1]; rfl) (.inr rfl) hlim' (Nat.lt_of_le_of_lt (List.length_drop▸Nat.sub_le ..) hf'),repl,if_pos h,List.append_assoc]; rfl
    · rw [if_neg fun q=>h q.2.2]
      show joinL b (partsL s (a.length + 1) p (occL (x :: a) (lim + 1) l (i + 1) 0))=u ++ repl (x :: a) b (n + 1) (c :: l)
      rw [repl_run l (lim + 1) (i + 1) 0 p n (u ++ [c]) (hs.trans (List.append_cons u c l)) (by rw [List.length_append,← Nat.add_assoc,hp]; rfl) (.inl rfl) (Nat.lt_of_succ_lt hlim) hf',repl,if_neg h,List.append_assoc]; rfl
theorem replace_eq {s a b:List Nat} (ha:a.isEmpty=false):Txt.replace (toS s) (toS a) (toS b)=toS (repl a b (s.length + 1) s):=by
  cases a with
  | nil=>exact nomatch ha
  | cons x a =>
    have hr:=repl_run (b:=b) (a:=a) (x:=x) s (s.length + 1) 0 0 0 (s.length + 1) [] rfl rfl (.inl rfl) (Nat.lt_succ_self _) (Nat.lt_succ_self _)
    unfold Txt.replace
    rw [occ_all,toS_len]
    show (if ((occL (x :: a) (s.length + 1) s 0 0).isEmpty || ((toS (x :: a)).length == 0 && _))=true then _ else _)=_
    rw [toS_len,show ((x :: a).length == 0)=false from rfl,Bool.false_and,Bool.or_false]
    cases hc:occL (x :: a) (s.length + 1) s 0 0 with
    | nil=>rw [hc] at hr; exact congrArg toS hr
    | cons d r =>
      rw [hc] at hr
      rw [if_neg (by exact fun q=>nomatch q),partsBetween_eq,glued_eq_join,parts_list,join_list]
      exact congrArg toS hr
end Mine
end
noncomputable section
open PySem PySem.Calls PyProof.Rows PySem.W
namespace Mine

structure EnvOk (env:Env):Prop where
  kind:env.scope.kind=.function
  glob:env.globals=mainGlobals
  blt:env.builtins=builtinsNs

noncomputable def Room (A:Around) (r:Nat):Prop:=A.handled=none∧A.depth + r < recursionLimit∧A.units + 20 * r + 300 < cLine
theorem Room.le {A:Around} {r r':Nat} (h:Room A r) (k:r'≤r):Room A r':=⟨h.1,Nat.lt_of_le_of_lt (Nat.add_le_add_left k _) h.2.1,Nat.lt_of_le_of_lt (Nat.add_le_add_right (Nat.add_le_add_left (Nat.mul_le_mul_left _ k) _) _) h.2.2⟩
theorem Room.add {A:Around} {r k:Nat} (h:Room A r) (hk:k≤300):A.units + k < cLine:=Nat.lt_of_le_of_lt (Nat.add_le_add (Nat.le_add_right _ _) hk) h.2.2
theorem Room.units {A:Around} {r:Nat} (h:Room A r):A.units < cLine:=h.add (Nat.zero_le _)

noncomputable abbrev Vx (c:Cx) (env:Env) (g:Gh) (s:Shared) (v:V) (x:Value):Prop:=VR c (Fz env g s.heap) g.rho v x
noncomputable abbrev Vxs (c:Cx) (env:Env) (g:Gh) (s:Shared) (v:List V) (x:List Value):Prop:=VRs c (Fz env g s.heap) g.rho v x

noncomputable def Nxt (c:Cx) (env:Env) (g:Gh) (s:Shared) (v:V) (σ':St) (Q:Value→Shared→Prop):Prop:=
  ∀ x s' g',Rel c env g' σ' s'→Vx c env g' s' v x→Ext env g g' s s'→Q x s'

noncomputable def EvOk (c:Cx) (r:Nat) (env:Env) (e:Expr) (f:St→Option (V × St)):Prop:=
  ∀ ⦃A:Around⦄ ⦃σ:St⦄ ⦃v:V⦄ ⦃σ':St⦄ ⦃g:Gh⦄ ⦃s:Shared⦄ ⦃E:Value→Shared→Prop⦄ ⦃Q:Value→Shared→Prop⦄,
    Room A r→f σ=some (v,σ')→Rel c env g σ s→Nxt c env g s v σ' Q→wpAny c.M A (eval e env) Q E s

section
variable {c:Cx} {r:Nat} {env:Env} {A:Around} {σ σ' σ₁:St} {g:Gh} {s:Shared} {E:Value→Shared→Prop} {Q:Value→Shared→Prop} {v:Mine.V}

theorem Ext.toks {t:Tok}:Ext env g g s { s with toks:=t }:=⟨fun _ _ h hw _=>⟨h,hw⟩,fun _ _ h=>h,rfl,rfl⟩
theorem Rel.toks {t:Tok} (R:Rel c env g σ s) (ht:0 < t:=by exact Nat.succ_pos _):Rel c env g σ { s with toks:=t }:=⟨R.toRel0,ht⟩
theorem Nxt.toks (N:Nxt c env g s v σ Q) (R:Rel c env g σ s) {x:Value} {t:Tok} (h:Vx c env g s v x) (ht:0 < t:=by exact Nat.succ_pos _):Q x { s with toks:=t }:=
  N x { s with toks:=t } g (R.toks ht) h .toks
theorem Nxt.same (N:Nxt c env g s v σ Q) (R:Rel c env g σ s) {x:Value} (h:Vx c env g s v x):Q x s:=N x s g R h .refl
theorem Nxt.grow (N:Nxt c env g s v σ Q) (R:Rel c env g σ s) {x:Value} {s':Shared} (k:∀ b o,s.heap.get? b=some o→s'.heap.get? b=some o) (hg:gos s'=gos s) (h:Vx c env g s' v x) (ht:0 < s'.toks:=by exact Nat.succ_pos _):Q x s':=
  N x s' g (R.grow k ht) h (.grow k hg)
theorem Nxt.trans {s₁:Shared} {g₁:Gh} (N:Nxt c env g s v σ' Q) (x:Ext env g g₁ s s₁):Nxt c env g₁ s₁ v σ' Q:=
  fun y s' g' R h e=>N y s' g' R h (x.trans e)
theorem Nxt.of {w:Mine.V} (e:some (w,σ₁)=some (v,σ')) (N:Nxt c env g s v σ' Q):Nxt c env g s w σ₁ Q:=by cases e; exact N

theorem ev_none {k pos}:EvOk c r env (.Constant .none k pos) (fun σ=>some (.none,σ)):=fun _ _ _ _ _ _ _ _ _ hf R N=>wpAny_pure ((N.of hf).same R .none)
theorem ev_bool {b k pos}:EvOk c r env (.Constant (.bool b) k pos) (fun σ=>some (.bool b,σ)):=fun _ _ _ _ _ _ _ _ _ hf R N=>wpAny_pure ((N.of hf).same R (.bool _))
theorem ev_int {i k pos}:EvOk c r env (.Constant (.int i) k pos) (fun σ=>some (.int i,σ)):=fun _ _ _ _ _ _ _ _ _ hf R N=>wpAny_Constant_int ((N.of hf).toks R (.int _ _))
theorem ev_str {x k pos}:EvOk c r env (.Constant (.str (toS x)) k pos) (fun σ=>some (.str x,σ)):=fun _ _ _ _ _ _ _ _ _ hf R N=>Constant_str ((N.of hf).toks R (.str _ _))

theorem ev_loc (O:c.Ok) (VV:EnvOk env) {n:Nat} {pos} (hk:env.kindOf (c.nm n)=some .local):EvOk c r env (.Name (c.nm n) pos) (fun σ=>bo (look σ.loc n) fun v=>some (v,σ)):=fun _ _ _ _ _ _ _ _ _ hf R N=>boE hf fun w hv e=>by
  obtain ⟨m,hm,hl⟩:=R.loc
  obtain ⟨x,hx,h⟩:=(hl n _ hv).1 hk
  exact wpAny_Name (wpAny_loadName_local VV.kind hk hm hx ((N.of e).same R h)) (O.noDbg n)

theorem Rel.kinD (R:Rel c env g σ s):c.K.In s.heap:=fun a o e=>(R.kin a o e).1

theorem ev_glob (O:c.Ok) (VV:EnvOk env) {n:Nat} {x:Value} {pos} (hm:(n,v,x) ∈ c.G) (hk:env.kindOf (c.nm n)=some .globalImplicit):EvOk c r env (.Name (c.nm n) pos) (fun σ=>some (v,σ)):=fun _ _ _ _ _ _ _ _ _ hf R N =>
  Name_function_global VV.kind hk (wpAny_bind ((looks_nsIn R.kinD (VV.glob▸O.gl n v x hm:nsIn c.K env.globals (c.nm n)=some (some x))).here (wpAny_pure ((N.of hf).same R (O.gv n v x hm _ _ R.kin))))) (O.noDbg n)

theorem isStr_nm {e:DictEntry} {n':Nat} {t:Tok} (hk:e.key=.str (c.nm n') t) (n:Nat):e.key.isStr (c.nm n)=(c.nm n' == c.nm n):=by rw [hk]; rfl
theorem FsR.find {F:Addr→Obj→Prop} {ρ:Id→Option Addr} (O:c.Ok) {n:Nat} {fs:List (Nat × V)} {es:List DictEntry} (h:FsR c F ρ fs es) :
    (∀ v,look fs n=some v→∃ e,es.find? (·.key.isStr (c.nm n))=some e∧VR c F ρ v e.val)∧(look fs n=none→es.find? (·.key.isStr (c.nm n))=none∧es.any (·.refKey)=false):=
  FsR.rec (motive:=fun fs es _=>(∀ v,look fs n=some v→∃ e,es.find? (·.key.isStr (c.nm n))=some e∧VR c F ρ v e.val)∧(look fs n=none→es.find? (·.key.isStr (c.nm n))=none∧es.any (·.refKey)=false))
    ⟨fun _ e=>nn e,fun _=>⟨rfl,rfl⟩⟩ (fun {n' v' fs e es t} hk hv _ ih=>by
      have hs:=isStr_nm hk n
      have hr:e.refKey=false:=by unfold DictEntry.refKey; rw [hk]
      unfold Mine.look
      by_cases hn:n'=n
      · have hs:e.key.isStr (c.nm n)=true:=by rw [hs,hn]; exact beq_self_eq_true _
        rw [if_pos hn,List.find?_cons,hs]
        exact ⟨fun v q=>⟨e,rfl,Option.some.inj q▸hv⟩,fun q=>(nn q.symm)⟩
      · have hs:e.key.isStr (c.nm n)=false:=by rw [hs]; exact beq_false_of_ne fun q=>hn (O.inj _ _ q)
        rw [if_neg hn,List.find?_cons,hs,List.any_cons,hr]
        exact ih) h
theorem FsR.lookIn_some {F:Addr→Obj→Prop} {ρ:Id→Option Addr} (O:c.Ok) {n k:Nat} {fs:List (Nat × V)} {es:List DictEntry} (h:FsR c F ρ fs es) {v:Mine.V} (hv:look fs n=some v):∃ x,PySem.W.lookIn (c.nm n) (dictOf es k)=some (some x)∧VR c F ρ v x:=by
  obtain ⟨e,h1,h2⟩:=(h.find O).1 v hv
  refine ⟨e.val,?_,h2⟩
  show (match es.find? (·.key.isStr (c.nm n)) with | some e=>some (some e.val) | none=>_)=_
  rw [h1]
theorem FsR.lookIn_none {F:Addr→Obj→Prop} {ρ:Id→Option Addr} (O:c.Ok) {n k:Nat} {fs:List (Nat × V)} {es:List DictEntry} (h:FsR c F ρ fs es) (hv:look fs n=none):PySem.W.lookIn (c.nm n) (dictOf es k)=some none:=by
  obtain ⟨h1,h2⟩:=(h.find O).2 hv
  show (match es.find? (·.key.isStr (c.nm n)) with | some e=>some (some e.val) | none=>if es.any (·.refKey) then none else some none)=_
  rw [h1,h2]; rfl

structure Cls (c:Cx) (C:Nat):Prop where
  over:plainOver c.K (c.cA C)=true
  dict:(clsIn c.K (c.cA C)).any (·.hasDict)=true
  ga:findIn c.K (.ref (c.cA C)) "__getattribute__"=some (some (.builtin "object.__getattribute__"))
  sa:findIn c.K (.ref (c.cA C)) "__setattr__"=some (some (.builtin "object.__setattr__"))
  gt:findIn c.K (.ref (c.cA C)) "__getattr__"=some none
theorem Cx.Ok.clsOf (O:c.Ok) {C:Nat} (h:C < c.nC):Cls c C:=bA (O.cls C h) fun h h5=>bA h fun h h4=>bA h fun h h3=>bA h fun h1 h2=>⟨h1,h2,bE h3,bE h4,bE h5⟩

theorem rho_of (R:Rel c env g σ s) {id:Id} {ob:Ob} {a:Addr} (ho:look σ.hp id=some ob) (hr:g.rho id=some a):∃ o,g.cs id=some (a,o)∧ObR c env g s.heap ob a o:=by
  obtain ⟨r,o,hc,H⟩:=R.obs id _ ho
  unfold Gh.rho at hr
  rw [hc] at hr
  cases hr
  exact ⟨o,hc,H⟩
inductive InR (c:Cx) (env:Env) (g:Gh) (h:Heap) (C:Nat) (fs:List (Nat × V)) (a:Addr):Prop
  | mk (o:Addr) (es:List DictEntry) (n:Nat) (cls:Cls c C) (get:h.get? o=some (dictOf es n)) (fs:FsR c (Fz env g h) g.rho fs es) (at_:InstAt h a (instObj (c.cA C) o) (c.cA C) (some (dictOf es n)))
theorem inst_of (O:c.Ok) (R:Rel c env g σ s) {id:Id} {C:Nat} {fs:List (Nat × V)} {a:Addr} (ho:look σ.hp id=some (.inst C fs)) (hr:g.rho id=some a):InR c env g s.heap C fs a:=by
  obtain ⟨o,_,hC,_,hz,es,n,he,hf⟩:=rho_of R ho hr
  exact .mk o es n (O.clsOf hC) he hf ⟨hz.1,rfl,rfl,he⟩

noncomputable def noCls (c:Cx) (C n:Nat):Bool:=findIn c.K (.ref (c.cA C)) (c.nm n) == some none
theorem Cls.usual {D n:Nat} (h:noCls c D n=true):findIn c.K (.ref (c.cA D)) (c.nm n)=some none:=bE h
theorem handed_of {F:Addr→Obj→Prop} {ρ:Id→Option Addr} {x:Value} (h:VR c F ρ v x):handedIn x=true:=by cases h <;> rfl

theorem getAttr_field (O:c.Ok) {id:Id} {C n:Nat} {fs:List (Nat × V)} {a:Addr} {b:Bool} (hn:noCls c C n=true) (R:Rel c env g σ s) (ho:look σ.hp id=some (.inst C fs)) (hr:g.rho id=some a)
    (hv:look fs n=some v) (N:Nxt c env g s v σ Q):wpAny c.M A (getAttr (.ref a) (c.nm n) b) Q E s:=by
  cases inst_of O R ho hr with
  | mk o es k D he hf I =>
    obtain ⟨x,hx,hvx⟩:=hf.lookIn_some O (k:=k) hv
    refine get_value R.kinD I D.ga ?_ (handed_of hvx) (N.toks R hvx)
    obtain ⟨cd,hcd,hdd⟩:=any_some D.dict
    unfold findObj PySem.W.ownOf
    rw [hcd,Cls.usual hn]
    show ((if cd.hasDict=true then lookIn (c.nm n) (dictOf es k) else some none).bind _)=_
    rw [if_pos hdd,hx]; rfl

theorem fresh_of (R:Rel c env g σ s):¬ g.W s.heap.objs.size∧¬ g.X s.heap.objs.size∧¬ FA env s.heap.objs.size:=
  ⟨fun h=>let ⟨_,e⟩:=R.wob _ h; Nat.lt_irrefl _ (Heap.lt_size e),fun h=>let ⟨_,e⟩:=R.xob _ h; Nat.lt_irrefl _ (Heap.lt_size e),fun h=>let ⟨_,e⟩:=R.fob _ h; Nat.lt_irrefl _ (Heap.lt_size e)⟩
theorem pushed (R:Rel c env g σ s) {o:Obj} (hf:o.isFreed=false):Fz env g (s.heap.push o) s.heap.objs.size o:=
  ⟨Heap.get?_push_size _ hf,fresh_of R⟩

noncomputable def isMeth (c:Cx) (C n f:Nat):Bool:=(findIn c.K (.ref (c.cA C)) (c.nm n) == some (some (.ref (c.fA f)))) && (isFn c.K (.ref (c.fA f)) && (fnIn c.K (c.fA f) && !copiedNames.contains (c.nm n)))
theorem notT {b:Bool} (h:(!b)=true):b=false:=by cases b <;> first | rfl | exact ff h
theorem special_fn {K:Frag} {a:Addr} (h:typeIn K (.ref a)=some (.type "function")) {x:Str} {r:Option Value} (hx:fastLookup "function" x=some r):specialIn K (.ref a) x=some r:=by
  unfold specialIn; rw [h]; exact hx
theorem fn_get_:fastLookup "function" "__get__"=some (some (.builtin "function.__get__")):=by kernel_rfl
theorem fn_set_:fastLookup "function" "__set__"=some none:=by kernel_rfl
theorem fn_del_:fastLookup "function" "__delete__"=some none:=by kernel_rfl

theorem getAttr_meth (O:c.Ok) {id:Id} {C n f:Nat} {fs:List (Nat × Mine.V)} {a:Addr} {b:Bool} (hn:isMeth c C n f=true) (R:Rel c env g σ s) (ho:look σ.hp id=some (.inst C fs)) (hr:g.rho id=some a)
    (hv:look fs n=none) (N:Nxt c env g s (.meth f (.obj id)) σ Q):wpAny c.M A (getAttr (.ref a) (c.nm n) b) Q E s:=by
  cases inst_of O R ho hr with
  | mk o es k D he hf I =>
    refine bA hn fun h1 h=>bA h fun h2 h=>bA h fun h3 h4=>?_
    have h2:typeIn c.K (.ref (c.fA f))=some (.type "function"):=bE h2
    have P:=pushed R (o:=methodObj (.ref (c.fA f)) (.ref a)) rfl
    refine get_bind (g:=.builtin "function.__get__") (a:=.ref (c.fA f)) R.kinD I D.ga ?_ D.gt (wpAny_call (fn_get (s:={ s with toks:=s.toks + 1 }) (K:=c.K) R.kinD h2
      (wpAny_of_eq (handedOut_of rfl) (N.grow R (s':={ s with toks:=s.toks + 1,heap:=s.heap.push (methodObj (.ref (c.fA f)) (.ref a)) }) (fun b o e=>Heap.get?_push_of_some _ e) rfl (.meth P (.obj hr))))))
    obtain ⟨cd,hcd,hdd⟩:=any_some D.dict
    have ht:takesIn c.K (.ref (c.fA f))=some false:=by
      unfold takesIn
      rw [special_fn h2 fn_set_,special_fn h2 fn_del_]; rfl
    unfold findObj PySem.W.ownOf
    rw [hcd,bE h1]
    show ((specialIn c.K (.ref (c.fA f)) "__get__").bind _)=_
    rw [special_fn h2 fn_get_]
    show ((takesIn c.K (.ref (c.fA f))).bind _)=_
    rw [ht]
    show ((if cd.hasDict=true then lookIn (c.nm n) (dictOf es k) else some none).bind _)=_
    rw [if_pos hdd,hf.lookIn_none O hv]
    show (if (copiedNames.contains (c.nm n) && _)=true then none else _)=_
    rw [notT h4,Bool.false_and]; rfl

noncomputable def intIs (i:Int):Option (Option Value)→Bool
  | some v=>(match v with | some v=>(match v with | .int j _=>i == j | _=>false) | none=>false)
  | none=>false
theorem intIs_t {i:Int} {o:Option (Option Value)} (h:intIs i o=true):∃ t,o=some (some (.int i t)):=by
  cases o with
  | none=>exact ff h
  | some v=>cases v with
    | none=>exact ff h
    | some v=>cases v <;> first | exact ff h | (cases bE h; exact ⟨_,rfl⟩)
noncomputable def isCat (c:Cx) (C n:Nat) (i:Int):Bool:=intIs i (findIn c.K (.ref (c.cA C)) (c.nm n)) && !copiedNames.contains (c.nm n)
theorem int_get_:fastLookup "int" "__get__"=some none:=by kernel_rfl
theorem getAttr_cat (O:c.Ok) {id:Id} {C n:Nat} {i:Int} {fs:List (Nat × Mine.V)} {a:Addr} {b:Bool} (hn:isCat c C n i=true) (R:Rel c env g σ s) (ho:look σ.hp id=some (.inst C fs)) (hr:g.rho id=some a)
    (hv:look fs n=none) (N:Nxt c env g s (.int i) σ Q):wpAny c.M A (getAttr (.ref a) (c.nm n) b) Q E s:=by
  cases inst_of O R ho hr with
  | mk o es k D he hf I =>
    refine bA hn fun h1 h4=>?_
    obtain ⟨t,hj⟩:=intIs_t h1
    refine get_value R.kinD I D.ga (v:=.int i t) ?_ rfl (N.toks R (.int i t))
    obtain ⟨cd,hcd,hdd⟩:=any_some D.dict
    have g1:specialIn c.K (.int i t) "__get__"=some none:=int_get_
    unfold findObj PySem.W.ownOf
    rw [hcd,hj]
    simp only [Option.bind_some,g1]
    show ((if cd.hasDict=true then lookIn (c.nm n) (dictOf es k) else some none).bind _)=_
    rw [if_pos hdd,hf.lookIn_none O hv]
    show (if (copiedNames.contains (c.nm n) && _)=true then none else _)=_
    rw [notT h4,Bool.false_and]; rfl

noncomputable def isNm (e:Expr):Bool:=ctq fun h=>Expr.Name.elim (motive_1:=fun _=>Bool) e h fun _ _=>true
noncomputable def noCall (e:Expr):Bool:=ctt fun h=>Expr.Call.elim (motive_1:=fun _=>Bool) e h fun f as ks _=>!(isNm f && (as.isEmpty && ks.isEmpty))
theorem base_plain {o:Expr} (h:noCall o=true) (attr:Str) (env:Env) (m:Sem Value):attributeBase o attr env m=m:=by
  cases o with
  | Call f as ks p =>
    cases f with
    | Name y q =>
      cases as with
      | nil=>cases ks with
        | nil=>exact ff h
        | cons _ _=>rfl
      | cons _ _=>rfl
    | _=>rfl
  | _=>rfl
theorem Attribute_c {value:Expr} {attr:Str} {pos:Pos} (hc:noCall value=true)
    (h:wpAny c.M A (eval value env) (fun o s₁=>wpAny c.M A (getAttr o attr true) Q E s₁) E s):wpAny c.M A (eval (.Attribute value attr pos) env) Q E s:=by
  rw [arm_eval_Attribute,base_plain hc]
  exact wpAny_bind (wpAny_mono h (fun o s₁ h₁=>wpAny_bind (wpAny_standAt (wpAny_bind (wpAny_holding (wpAny_mono h₁ (fun r s₂ h₂=>wpAny_bind (wpAny_letTemporaryGo (wpAny_pure h₂))) fun _ _ y=>y))))) fun _ _ y=>y)

variable {e:Expr} {es:List Expr} {C:Ora} {me:ME} {mes:List ME} {n D f:Nat}
theorem ev_attr (O:c.Ok) {pos} (hc:noCall e=true) (hn:noCls c D n=true) (H:EvOk c r env e (ev C me)):EvOk c r env (.Attribute e (c.nm n) pos) (ev C (.attr me n D)):=fun _ _ _ _ _ _ _ _ hr hf R N=>bnE hf fun v σ₁ h1 h2 =>
  Attribute_c hc (H hr h1 R fun x s₁ g₁ R₁ X₁ E₁=>onInstE (P:=fun v=>Vx c env g₁ s₁ v x→_) h2 (fun id fs ho h2 X₁=>boE h2 fun w hw e=>X₁.objE fun a ha=>getAttr_field O hn R₁ ho ha hw ((N.of e).trans E₁)) X₁)
theorem ev_bm (O:c.Ok) {pos} (hc:noCall e=true) (hn:isMeth c D n f=true) (H:EvOk c r env e (ev C me)):EvOk c r env (.Attribute e (c.nm n) pos) (ev C (.bm me n D f)):=fun _ _ _ _ _ _ _ _ hr hf R N=>bnE hf fun v σ₁ h1 h2 =>
  Attribute_c hc (H hr h1 R fun x s₁ g₁ R₁ X₁ E₁=>onInstE (P:=fun v=>Vx c env g₁ s₁ v x→_) h2 (fun id fs ho h2 X₁=>noE h2 fun hw e=>X₁.objE fun a ha=>getAttr_meth O hn R₁ ho ha hw ((N.of e).trans E₁)) X₁)
theorem ev_cat (O:c.Ok) {i:Int} {pos} (hc:noCall e=true) (hn:isCat c D n i=true) (H:EvOk c r env e (ev C me)):EvOk c r env (.Attribute e (c.nm n) pos) (ev C (.cat me n D i)):=fun _ _ _ _ _ _ _ _ hr hf R N=>bnE hf fun v σ₁ h1 h2 =>
  Attribute_c hc (H hr h1 R fun x s₁ g₁ R₁ X₁ E₁=>onInstE (P:=fun v=>Vx c env g₁ s₁ v x→_) h2 (fun id fs ho h2 X₁=>noE h2 fun hw e=>X₁.objE fun a ha=>getAttr_cat O hn R₁ ho ha hw ((N.of e).trans E₁)) X₁)

noncomputable def Nxts (c:Cx) (env:Env) (g:Gh) (s:Shared) (v:List Mine.V) (σ':St) (Q:List Value→Shared→Prop):Prop:=
  ∀ x s' g',Rel c env g' σ' s'→Vxs c env g' s' v x→Ext env g g' s s'→Q x s'
theorem Nxts.of {v w:List Mine.V} {Q:List Value→Shared→Prop} (e:some (w,σ₁)=some (v,σ')) (N:Nxts c env g s v σ' Q):Nxts c env g s w σ₁ Q:=by cases e; exact N
noncomputable def EvsOk (c:Cx) (r:Nat) (env:Env) (es:List Expr) (f:St→Option (List Mine.V × St)):Prop:=
  ∀ ⦃A:Around⦄ ⦃σ:St⦄ ⦃v:List Mine.V⦄ ⦃σ':St⦄ ⦃g:Gh⦄ ⦃s:Shared⦄ ⦃E:Value→Shared→Prop⦄ ⦃Q:List Value→Shared→Prop⦄,
    Room A r→f σ=some (v,σ')→Rel c env g σ s→Nxts c env g s v σ' Q→wpAny c.M A (spliced (es.map fun e=>(false,eval e env))) Q E s
noncomputable def retQ (Q E:Value→Shared→Prop) (r:Result) (s':Shared):Prop:=match r with
  | .ok (.ret x)=>Q x s'
  | .ok _=>False
  | .error e=>E e s'
noncomputable def OraOk (c:Cx) (r:Nat) (C:Ora):Prop:=
  ∀ ⦃A:Around⦄ ⦃σ:St⦄ ⦃f:Nat⦄ ⦃vs:List Mine.V⦄ ⦃v:Mine.V⦄ ⦃σ':St⦄ ⦃env:Env⦄ ⦃g:Gh⦄ ⦃s:Shared⦄ ⦃xs:List Value⦄ ⦃E:Value→Shared→Prop⦄ ⦃Q:Value→Shared→Prop⦄,
    Room A r→EnvOk env→C f vs σ=some (v,σ')→Rel c env g σ s→Vxs c env g s vs xs→Nxt c env g s v σ' Q→codeAny c.M A (.call (.ref (c.fA f)) ⟨xs,[]⟩) (retQ Q E) s
theorem call_of {x:Value} {vs:List Value} (h:codeAny c.M A (.call x ⟨vs,[]⟩) (retQ Q E) s):wpAny c.M A (call x vs []) Q E s:=wpAny_call h

theorem evs_nil:EvsOk c r env [] (evs C []):=fun _ _ _ _ _ s _ _ _ hf R N=>spliced_nil (N.of hf _ _ _ R .nil .refl)
theorem evs_cons (H:EvOk c r env e (ev C me)) (H2:EvsOk c r env es (evs C mes)):EvsOk c r env (e :: es) (evs C (me :: mes)):=fun _ _ _ _ _ _ _ _ hr hf R N=>bnE hf fun v σ₁ h1 h2=>bnE h2 fun vs σ₂ h3 h4 =>
  spliced_cons (H hr h1 R fun x s₁ g₁ R₁ X₁ E₁=>H2 hr h3 R₁ fun xs s₂ g₂ R₂ X₂ E₂=>N.of h4 _ _ _ R₂ (.cons (X₁.ext E₂) X₂) (E₁.trans E₂))

noncomputable def noStar (e:Expr):Bool:=ctt fun h=>Expr.Starred.elim (motive_1:=fun _=>Bool) e h fun _ _=>false
theorem star_plain {e:Expr} (h:noStar e=true) {es:List Expr}:starEach (e :: es) env=(false,eval e env) :: starEach es env:=by
  cases e <;> first | rfl | exact ff h
theorem starEach_plain:∀ {es:List Expr},es.all noStar=true→starEach es env=es.map fun e=>(false,eval e env)
  | [],_=>rfl
  | e :: es,h=>bA h fun h1 h2=>(star_plain h1).trans (congrArg _ (starEach_plain h2))
theorem starEach_args {pos:Pos} {es:List Expr} {env:Env} (hs:es.all noStar=true):backTo pos (starEach es env)=es.map fun e=>(false,eval e env):=by
  rw [starEach_plain hs]
  exact List.map_map.trans rfl
theorem evalArgs_c {f:Value} {es:List Expr} {Q:Args→Shared→Prop} (h:wpAny c.M A (spliced (es.map fun e=>(false,eval e env))) (fun vs s'=>Q ⟨vs,[]⟩ s') E s) :
    wpAny c.M A (evalArgs f true (es.map fun e=>(false,eval e env)) []) Q E s:=by
  cases es with
  | nil=>exact wpAny_bind (wpAny_mono h (fun vs s' h'=>wpAny_holding (wpAny_bind (wpAny_pure (wpAny_bind (wpAny_pure (wpAny_pure h')))))) fun _ _ x=>x)
  | cons e es=>exact evalArgs_plain h

theorem any_plain {l:List Expr} {env:Env}:((l.map fun e=>(false,eval e env)).any (·.1) || ([]:List (Option Str × Sem Value)).any (·.1.isNone))=false:=by
  rw [List.any_nil,Bool.or_false,List.any_map,List.any_eq_false]
  exact fun x _ h=>ff h

theorem callWith_fn {pos:Pos} {f:Addr} {first:List Value} {es:List Expr} (hk:fnIn c.K f=true)
    (h:wpAny c.M A (spliced (es.map fun e=>(false,eval e env))) (fun vs s₁=>c.K.In s₁.heap∧wpAny c.M A (call (.ref f) (first ++ vs) []) Q E s₁) E s) :
    wpAny c.M A (callWith pos (.ref f) first (es.map fun e=>(false,eval e env)) []) Q E s:=by
  refine callWith_of (P:=c.K.In) any_plain (fun h X=>?_) (evalArgs_c h)
  unfold fnIn at hk
  split at hk
  · rename_i e
    exact ⟨.frame,.inl rfl,(Looks.ld (part:=none) (X _ _ e)).andThen .now⟩
  · exact ff hk

theorem Call_attr {o:Expr} {name:Str} {apos pos:Pos} {args:List Expr} (hc:noCall o=true) (hs:args.all noStar=true) (hl:(apos.endLine == pos.line)=true) (hn:args.length < 25)
    (h:wpAny c.M A (eval o env) (fun ov s₁=>∀ pl,wpAny c.M A (getMethod ov name pl) (fun fx s₂=>wpAny c.M A (callWith pos fx.1 fx.2 (args.map fun e=>(false,eval e env)) []) Q E s₂) E s₁) E s) :
    wpAny c.M A (eval (.Call (.Attribute o name apos) args [] pos) env) Q E s:=by
  rw [arm_eval_Call,base_plain hc,starEach_args hs]
  refine wpAny_bind (wpAny_mono h (fun ov s₁ h₁=>wpAny_bind (wpAny_standAt ?_)) fun _ _ e=>e)
  have hform:methodCallForm (args.length + ([]:List Keyword).length) (args.map fun e=>(false,eval e env)) (backToKw pos (keywordEach [] env))=true:=by
    show (((args.map fun e=>(false,eval e env)).all (!·.1) && true) && decide (args.length + 0 < 30))=true
    rw [List.all_map,decide_eq_true (Nat.lt_of_lt_of_le hn (by decide:25≤30):args.length + 0 < 30),Bool.and_true,Bool.and_true]
    exact List.all_eq_true.mpr fun _ _=>rfl
  have hpos:methodCallPos true o env apos pos=pure pos:=by unfold methodCallPos; rw [hl]; rfl
  unfold methodCall
  rw [hform]
  refine wpAny_bind (wpAny_holding (wpAny_mono (h₁ _) (fun fx s₂ h₂=>?_) fun _ _ e=>e))
  rw [hpos]
  exact wpAny_bind (wpAny_pure h₂)

theorem ev_mcall (O:c.Ok) (VV:EnvOk env) {apos pos} (hc:noCall e=true) (hs:es.all noStar=true) (hl:(apos.endLine == pos.line)=true) (hlen:es.length < 25)
    (hn:isMeth c D n f=true) (HC:OraOk c r C) (H:EvOk c r env e (ev C me)) (H2:EvsOk c r env es (evs C mes)) :
    EvOk c r env (.Call (.Attribute e (c.nm n) apos) es [] pos) (ev C (.mcall me n D f mes)):=fun _ _ _ _ _ _ _ _ hr hf R N=>bnE hf fun v σ₁ h1 h2 =>
  Call_attr hc hs hl hlen (H hr h1 R fun x s₁ g₁ R₁ X₁ E₁ pl=>onInstE (P:=fun v=>Vx c env g₁ s₁ v x→_) h2 (fun id fs ho h2 X₁=>noE h2 fun hw h2=>bnE h2 fun vs σ₂ h3 h4=>X₁.objE fun a ha=>by
    cases inst_of O R₁ ho ha with
    | mk o es k D he hfs I =>
      exact bA hn fun q1 h=>bA h fun q2 h=>bA h fun q3 _=>method_fn R₁.kinD I D.ga D.gt (bE q1) (bE q2) (by show (PySem.W.lookIn _ _).map _=_; rw [hfs.lookIn_none O hw]; rfl)
        (callWith_fn q3 (H2 hr h3 R₁ fun xs s₂ g₂ R₂ X₂ E₂=>⟨R₂.kinD,call_of (HC hr VV h4 R₂ (.cons (.obj (E₂.rho ha)) X₂) (N.trans (E₁.trans E₂)))⟩))) X₁)

theorem callWith_meth {pos:Pos} {q f:Addr} {self:Value} {es:List Expr} (hf:fnIn c.K f=true)
    (h:wpAny c.M A (spliced (es.map fun e=>(false,eval e env))) (fun vs s₁=>(s₁.heap.get? q=some (methodObj (.ref f) self)∧c.K.In s₁.heap)∧codeAny c.M A (.call (.ref f) ⟨self :: vs,[]⟩) (retQ Q E) s₁) E s) :
    wpAny c.M A (callWith pos (.ref q) [] (es.map fun e=>(false,eval e env)) []) Q E s:=
  callWith_of (P:=MethP c.K q f self) any_plain (keeps_M hf) (evalArgs_c (wpAny_mono h (fun vs s₁ z=>⟨⟨z.1.1,z.1.2⟩,wpAny_call (method_call z.1.1 z.2)⟩) fun _ _ x=>x))

theorem ev_fcall (O:c.Ok) (VV:EnvOk env) {apos pos} (hc:noCall e=true) (hs:es.all noStar=true) (hl:(apos.endLine == pos.line)=true) (hlen:es.length < 25)
    (hn:noCls c D n=true) (hfn:∀ f,fnIn c.K (c.fA f)=true) (HC:OraOk c r C) (H:EvOk c r env e (ev C me)) (H2:EvsOk c r env es (evs C mes)) :
    EvOk c r env (.Call (.Attribute e (c.nm n) apos) es [] pos) (ev C (.fcall me n D mes)):=fun _ _ _ _ _ _ _ _ hr hf R N=>bnE hf fun v σ₁ h1 h2 =>
  Call_attr hc hs hl hlen (H hr h1 R fun x s₁ g₁ R₁ X₁ E₁ pl=>onInstE (P:=fun v=>Vx c env g₁ s₁ v x→_) h2 (fun id fs ho h2 X₁=>boE h2 fun w hw h2=>X₁.objE fun a ha=>by
    cases inst_of O R₁ ho ha with
    | mk o es k D he hfs I =>
      exact method_usual R₁.kinD I D.ga D.gt (Cls.usual hn) rfl (getAttr_field O hn R₁ ho ha hw fun y s₂ g₂ R₂ X₂ E₂=>onMethE (P:=fun w=>Vx c env g₂ s₂ w y→_) h2 (fun f self h2 X₂=>bnE h2 fun vs σ₃ h3 h4=>X₂.methE fun q y' hm hself =>
        callWith_meth (hfn f) (H2 hr h3 R₂ fun xs s₃ g₃ R₃ X₃ E₃=>⟨⟨(E₃.Fz hm).1,R₃.kinD⟩,HC hr VV h4 R₃ (.cons (hself.ext E₃) X₃) (N.trans (E₁.trans (E₂.trans E₃)))⟩)) X₂)) X₁)

noncomputable def isDef (c:Cx) (x:Str) (f:Nat):Bool:=(nsIn c.K mainGlobals x == some (some (.ref (c.fA f)))) && fnIn c.K (c.fA f)
theorem ev_call (VV:EnvOk env) {x:Str} {np pos} (hs:es.all noStar=true) (hk:env.kindOf x=some .globalImplicit) (hx:(x == ("__debug__":Str))=false)
    (hd:isDef c x f=true) (HC:OraOk c r C) (H2:EvsOk c r env es (evs C mes)) :
    EvOk c r env (.Call (.Name x np) es [] pos) (ev C (.call f mes)):=fun _ _ _ _ _ _ _ _ hr hf R N=>bnE hf fun vs σ₁ h1 h2=>bA hd fun d1 d2=>by
  rw [arm_eval_Call_Name',starEach_args hs]
  exact wpAny_bind (Name_function_global VV.kind hk (wpAny_bind ((looks_nsIn R.kinD (VV.glob▸bE d1:nsIn c.K env.globals x=some (some (.ref (c.fA f))))).here (wpAny_pure
    (callWith_fn d2 (H2 hr h1 R fun xs s₁ g₁ R₁ X₁ E₁=>⟨R₁.kinD,call_of (HC hr VV h2 R₁ X₁ (N.trans E₁))⟩))))) hx)

noncomputable def OpOk (c:Cx) (env:Env) (r:Nat) (op:Value→Value→Sem Value) (f:St→Mine.V→Mine.V→Option Mine.V):Prop:=
  ∀ ⦃A:Around⦄ ⦃σ:St⦄ ⦃a b v:Mine.V⦄ ⦃g:Gh⦄ ⦃s:Shared⦄ ⦃x y:Value⦄ ⦃E:Value→Shared→Prop⦄ ⦃Q:Value→Shared→Prop⦄,
    Room A r→f σ a b=some v→Rel c env g σ s→Vx c env g s a x→Vx c env g s b y→Nxt c env g s v σ Q→wpAny c.M A (op x y) Q E s

theorem ev_bop {l rr:Expr} {ml mr:ME} {o:Bop} {op:Operator} {pos} (Hop:OpOk c env r (binaryOp op) (fun σ=>bopV σ o)) (H:EvOk c r env l (ev C ml)) (H2:EvOk c r env rr (ev C mr)) :
    EvOk c r env (.BinOp l op rr pos) (ev C (.bop o ml mr)):=fun _ _ _ _ _ _ _ _ hr hf R N=>bnE hf fun a σ₁ h1 h2=>bnE h2 fun b σ₂ h3 h4=>boE h4 fun w h5 h6 =>
  wpAny_BinOp (H hr h1 R fun x s₁ g₁ R₁ X₁ E₁=>H2 hr h3 R₁ fun y s₂ g₂ R₂ X₂ E₂=>Hop hr h5 R₂ (X₁.ext E₂) X₂ ((N.of h6).trans (E₁.trans E₂)))
end
end Mine
end
noncomputable section
open PySem PySem.Calls PyProof.Rows PySem.W
namespace Mine
section
variable {c:Cx} {r:Nat} {env:Env} {A:Around} {σ σ':St} {g:Gh} {s:Shared} {E:Value→Shared→Prop} {Q:Value→Shared→Prop} {v:Mine.V}

theorem maxLen_eq:maxLen=sizeLine:=by rw [sizeLine_eq]; rfl
theorem bdE {α:Type} {n:Nat} {o:Option α} {x:α} {P:Prop} (h:bd n o=some x) (k:n≤sizeLine→o=some x→P):P:=gdE h fun h1 h2=>k (maxLen_eq▸Nat.le_of_ble_eq_true h1) h2
theorem sizeLine_lt:(sizeLine:Int) < 2 ^ 63:=by rw [sizeLine_eq]; decide
theorem fit_of {n:Nat} (h:n≤sizeLine):(n:Int) < 2 ^ 63:=Int.lt_of_le_of_lt (Int.ofNat_le.mpr h) sizeLine_lt
theorem fitS {l:List Nat} (h:l.length≤sizeLine):((toS l).length:Int) < 2 ^ 63:=by rw [toS_len]; exact fit_of h

theorem liveL (R:Rel c env g σ s) {id:Id} {l:List Mine.V} {a:Addr} (ho:look σ.hp id=some (.list l)) (ha:g.rho id=some a):∃ items n,IsL s.heap a items n∧Vxs c env g s l items.toList:=by
  obtain ⟨o,hc,-,items,n,hi,hv⟩:=rho_of R ho ha
  exact ⟨items,n,hi,hv⟩
theorem listOfE {β:Type} {rr:β} (R:Rel c env g σ s) {v:Mine.V} {f:List Mine.V→Option β} {x:Value} {P:Value→Prop} (h:onListOf σ v f=some rr) (X:Vx c env g s v x) (k:∀ l a items n,f l=some rr→IsL s.heap a items n→Vxs c env g s l items.toList→P (.ref a)):P x:=by
  cases v with
  | list l=>exact X.listE fun a items n hF hv=>k l a items n h hF.1 hv
  | obj id=>exact onListE (P:=fun v=>Vx c env g s v x→P x) (show onList σ (.obj id) (fun _ l=>f l)=some rr from h) (fun id l ho h X=>X.objE fun a ha=>let ⟨items,n,hi,hv⟩:=liveL R ho ha; k l a items n h hi hv) X
  | _=>exact nn h
theorem size_of {l:List Mine.V} {items:Array Value} {F ρ} (h:VRs c F ρ l items.toList):items.size=l.length:=h.length.symm

noncomputable def NxtB (c:Cx) (env:Env) (g:Gh) (s:Shared) (σ':St) (P:Shared→Prop):Prop:=
  ∀ s' g',Rel c env g' σ' s'→Ext env g g' s s'→P s'
theorem NxtB.toks {P:Shared→Prop} (N:NxtB c env g s σ P) (R:Rel c env g σ s) {t:Tok} (ht:0 < t:=by exact Nat.succ_pos _):P { s with toks:=t }:=N _ g (R.toks ht) .toks
theorem NxtB.same {P:Shared→Prop} (N:NxtB c env g s σ P) (R:Rel c env g σ s):P s:=N s g R .refl
theorem NxtB.trans {P:Shared→Prop} {s₁:Shared} {g₁:Gh} (N:NxtB c env g s σ' P) (x:Ext env g g₁ s s₁):NxtB c env g₁ s₁ σ' P:=
  fun s' g' R e=>N s' g' R (x.trans e)
theorem NxtB.of {σ₁:St} {b b':Bool} {P:Bool→Shared→Prop} (e:some (b',σ₁)=some (b,σ')) (N:NxtB c env g s σ' (P b)):NxtB c env g s σ₁ (P b'):=by cases e; exact N

theorem empty_of {l:List Mine.V} {items:Array Value} {F ρ} (h:VRs c F ρ l items.toList):(!items.isEmpty)=!l.isEmpty:=by
  rw [← Array.isEmpty_toList]
  generalize items.toList=xs at h
  cases l with
  | nil=>exact h.nilE rfl
  | cons _ _=>exact h.consE fun _ _ _ _=>rfl
theorem noBool_method:typeLookup (.type "method") "__bool__"=pure none:=by rw [typeLookup_type,builtinLookup_eq_fast]; kernel_rfl
theorem noLen_method:typeLookup (.type "method") "__len__"=pure none:=by rw [typeLookup_type,builtinLookup_eq_fast]; kernel_rfl
theorem truthy_meth {a:Addr} {Q:Bool→Shared→Prop} (h:s.TypeIs (.ref a) "method") (hq:Q true s):wpAny c.M A (PySem.truthy (.ref a)) Q E s:=by
  unfold PySem.truthy
  exact wpAny_bind (wpAny_callSpecial?_none h noBool_method (wpAny_bind (wpAny_specialOf h noLen_method (wpAny_pure hq))))
theorem len_ne (x:List Nat):(((toS x).length:Int) != 0)=!x.isEmpty:=by rw [toS_len]; cases x <;> rfl
theorem truth_list {x:Value} {b:Bool} {Q:Bool→Shared→Prop} (h:(onListOf σ v fun l=>bd l.length (some (!l.isEmpty)))=some b) (R:Rel c env g σ s) (X:Vx c env g s v x) (N:NxtB c env g s σ (Q b)):wpAny c.M A (PySem.truthy x) Q E s:=
  listOfE (P:=fun x=>wpAny c.M A (PySem.truthy x) Q E s) R h X fun l a items n h hi hv=>bdE h fun hb e=>by
    cases e
    have hs:=size_of hv
    exact wpAny_truthy_list hi.isList (by rw [hs]; exact fit_of hb) (by rw [empty_of hv]; exact N.toks R)
theorem truth_ok {b:Bool} {x:Value} {Q:Bool→Shared→Prop} (hf:Mine.truthy σ v=some b) (R:Rel c env g σ s) (X:Vx c env g s v x) (N:NxtB c env g s σ (Q b)):wpAny c.M A (PySem.truthy x) Q E s:=by
  cases v with
  | none=>cases hf; exact X.noneE (truthy_none (N.same R))
  | bool b=>cases hf; exact X.boolE (wpAny_truthy_bool (N.same R))
  | int i=>cases hf; exact X.intE fun t=>P.truthy_int (N.same R)
  | str x'=>exact bdE hf fun hb e=>by cases e; exact X.strE fun t=>P.truthy_str (Int.not_le.mpr (fitS hb)) (len_ne x'▸N.toks R)
  | meth f s=>cases hf; exact X.methE fun a y hm _=>truthy_meth ⟨_,hm.1,rfl⟩ (N.same R)
  | list l=>exact truth_list (σ:=σ) (v:=.list l) hf R X N
  | obj i=>exact truth_list (σ:=σ) (v:=.obj i) hf R X N
  | _=>exact nn hf

noncomputable def eqS (k:Str):Value→Bool
  | .str y _=>y == k
  | _=>false
noncomputable def eqI (k:Int):Value→Bool
  | .int y _=>y == k
  | _=>false
theorem toS_eq (z k:List Nat):(toS z == toS k)=(z == k):=by
  by_cases e:z=k
  · rw [e,beq_self_eq_true,beq_self_eq_true]
  · rw [beq_false_of_ne e,beq_false_of_ne fun q=>e (toS_inj q)]
theorem strQE {β:Type} {rr:β} {f:List Nat→Option β} {P:Mine.V→Prop} (h:bo (strQ v) f=some rr) (k:∀ x,f x=some rr→P (.str x)):P v:=by
  cases v <;> first | exact nn h | exact k _ h
theorem intQE {β:Type} {rr:β} {f:Int→Option β} {P:Mine.V→Prop} (h:bo (intQ v) f=some rr) (k:∀ x,f x=some rr→P (.int x)):P v:=by
  cases v <;> first | exact nn h | exact k _ h
theorem chrQE {β:Type} {rr:β} {f:Nat→Option β} {P:Mine.V→Prop} (h:bo (chrQ v) f=some rr) (k:∀ x,f x=some rr→P (.str [x])):P v:=by
  cases v <;> first | exact nn h | skip
  rename_i l
  match l,h with
  | [],h=>exact nn h
  | [c],h=>exact k _ h
  | _ :: _ :: _,h=>exact nn h
noncomputable def AnyS (k:List Nat) (xs:List Value) (ys:List (List Nat)):Prop:=xs.any (eqS (toS k))=ys.any (· == k)∧∀ y ∈ xs,∃ z t,y=.str z t
theorem strsOf_any {k:List Nat} {F ρ}:∀ {l:List Mine.V} {ys:List (List Nat)} {xs:List Value},strsOf? l=some ys→VRs c F ρ l xs→AnyS k xs ys
  | [],_,_,h,hv=>by cases h; exact hv.nilE ⟨rfl,fun _ h=>nomatch h⟩
  | _ :: _,ys,xs,h,hv=>hv.consE (P:=fun xs=>AnyS k xs ys) fun y xs hw hv=>strQE (P:=fun v=>VR c F ρ v y→AnyS k (y :: xs) ys) h (fun z h hw=>boE h fun zs h1 h2=>by
      cases h2
      obtain ⟨a,b⟩:=strsOf_any (k:=k) h1 hv
      exact hw.strE (P:=fun y=>AnyS k (y :: xs) (z :: zs)) fun t=>⟨by rw [List.any_cons,List.any_cons,a]; exact congrArg (· || _) (toS_eq z k),fun y hy=>(List.mem_cons.mp hy).elim (fun e=>⟨_,_,e⟩) (b y)⟩) hw
noncomputable def AnyI (k:Int) (xs:List Value) (ys:List Int):Prop:=xs.any (eqI k)=ys.any (· == k)∧∀ y ∈ xs,∃ z t,y=.int z t
theorem intsOf_any {k:Int} {F ρ}:∀ {l:List Mine.V} {ys:List Int} {xs:List Value},intsOf? l=some ys→VRs c F ρ l xs→AnyI k xs ys
  | [],_,_,h,hv=>by cases h; exact hv.nilE ⟨rfl,fun _ h=>nomatch h⟩
  | _ :: _,ys,xs,h,hv=>hv.consE (P:=fun xs=>AnyI k xs ys) fun y xs hw hv=>intQE (P:=fun v=>VR c F ρ v y→AnyI k (y :: xs) ys) h (fun z h hw=>boE h fun zs h1 h2=>by
      cases h2
      obtain ⟨a,b⟩:=intsOf_any (k:=k) h1 hv
      exact hw.intE (P:=fun y=>AnyI k (y :: xs) (z :: zs)) fun t=>⟨by rw [List.any_cons,List.any_cons,a]; rfl,fun y hy=>(List.mem_cons.mp hy).elim (fun e=>⟨_,_,e⟩) (b y)⟩) hw
theorem eqGives_strNone (a:Str) (t:Tok):MeetsSeq.EqGives (.str a t) .none false:=fun prog w A E s Q h=>by
  unfold PySem.eqBool
  refine wpAny_holding ?_
  rw [if_neg (show ¬ (Value.str a t == Value.none)=true from fun q=>nomatch (beq_iff_eq.mp q))]
  exact wpAny_bind (EqNone.eq_str_none (wpAny_truthy_bool h))

theorem tuple_contains_c {t:Addr} {items:Array Value} {x:Value} {P:Fin→Shared→Prop} (e:Value→Bool) (ht:IsTup s.heap t items) (he:∀ y ∈ items.toList,MeetsSeq.EqGives y x (e y))
    (h:P (.done (.ret (.bool (items.toList.any e)))) s):wpAny c.M A (Builtin.«tuple.__contains__» ⟨[.ref t,x],[]⟩) P E s:=by
  show wpAny _ _ (Builtin.Tuple.tupleItemsOf (.ref t) >>= _) _ _ s
  refine wpAny_bind (tupleItemsOf_ ht ?_)
  refine wpAny_bind (forIn_array_ _ (fun rest b s'=>b.1=none∧s'=s∧(∀ y ∈ rest,MeetsSeq.EqGives y x (e y))∧P (.done (.ret (.bool (rest.any e)))) s) _ ?_ ?_ items _ ⟨rfl,rfl,he,h⟩)
  · rintro y rest b s' ⟨hb,rfl,hm,hP⟩
    refine wpAny_bind (hm y (.head _) _ _ _ _ _ _ ?_)
    rw [List.any_cons] at hP
    cases hnx:e y with
    | true =>
      rw [hnx] at hP
      exact wpAny_bind (wpAny_pure (wpAny_pure (wpAny_pure (by simpa using hP))))
    | false =>
      rw [hnx] at hP
      exact wpAny_pure ⟨rfl,rfl,fun z hz=>hm z (.tail _ hz),by simpa using hP⟩
  · rintro ⟨b1,b2⟩ s' ⟨hb,rfl,hm,hP⟩
    simp only at hb
    subst hb
    exact wpAny_pure (by simpa using hP)
theorem contains_tuple_c {t:Addr} {items:Array Value} {x:Value} {Q:Bool→Shared→Prop} (e:Value→Bool) (ht:IsTup s.heap t items) (he:∀ y ∈ items.toList,MeetsSeq.EqGives y x (e y)) (hargs:argsOk "tuple.__contains__" ⟨[.ref t,x],[]⟩)
    (h:Q (items.toList.any e) s):wpAny c.M A (PySem.contains (.ref t) x) Q E s:=by
  unfold PySem.contains
  refine wpAny_holding ?_
  refine wpAny_bind (wpAny_specialOf ht.typeIs slot_tuple_contains.lookup ?_)
  rw [if_neg (by decide)]
  exact wpAny_bind (wpAny_callSpecialUnlessNone?_slot (name:=Str.ofString "__contains__") ht.typeIs slot_tuple_contains
    (wpAny_call_entry slot_tuple_contains ht.typeIs entry_tuple_contains (tuple_contains_c e ht he ⟨_,rfl,wpAny_truthy_bool h⟩) hargs))

theorem isIn_items {x:Mine.V} {l:List Mine.V} {b:Bool} {y:Value} {xs:List Value} (h:isIn x l=some b) (hv:Vxs c env g s l xs) (hx:Vx c env g s x y) :
    ∃ e:Value→Bool,(∀ z ∈ xs,MeetsSeq.EqGives z y (e z))∧xs.any e=b:=by
  cases x with
  | str k =>
    exact boE h fun ys h1 h2=>by
      cases h2
      obtain ⟨a,b⟩:=strsOf_any (k:=k) h1 hv
      exact hx.strE (P:=fun y=>∃ e:Value→Bool,(∀ z ∈ xs,MeetsSeq.EqGives z y (e z))∧xs.any e=_) fun t=>⟨eqS (toS k),fun z hz=>(by obtain ⟨z',t,rfl⟩:=b z hz; exact eqGives_str _ _ _ _),a⟩
  | none =>
    exact boE h fun ys h1 h2=>by
      cases h2
      obtain ⟨a,b⟩:=strsOf_any (k:=[]) h1 hv
      exact hx.noneE (P:=fun y=>∃ e:Value→Bool,(∀ z ∈ xs,MeetsSeq.EqGives z y (e z))∧xs.any e=_) ⟨fun _=>false,fun z hz=>(by obtain ⟨z',t,rfl⟩:=b z hz; exact eqGives_strNone _ _),List.any_eq_false.mpr fun _ _=>Bool.false_ne_true⟩
  | int k =>
    exact boE h fun ys h1 h2=>by
      cases h2
      obtain ⟨a,b⟩:=intsOf_any (k:=k) h1 hv
      exact hx.intE (P:=fun y=>∃ e:Value→Bool,(∀ z ∈ xs,MeetsSeq.EqGives z y (e z))∧xs.any e=_) fun t=>⟨eqI k,fun z hz=>(by obtain ⟨z',t,rfl⟩:=b z hz; exact MeetsSeq.EqGives.int _ _ _ _),a⟩
  | _=>exact nn h

noncomputable def IsB (x y:Value) (q:Bool):Prop:=plainIs x y=true∧(x == y)=q
theorem isNone_r {a:Mine.V} {x:Value} {q:Bool} {F ρ} (h:isNoneV a=some q) (hx:VR c F ρ a x):IsB x .none q:=by
  cases hx <;> first | exact nn h | (cases h; exact ⟨rfl,rfl⟩)
theorem isNone_l {a:Mine.V} {x:Value} {q:Bool} {F ρ} (h:isNoneV a=some q) (hx:VR c F ρ a x):IsB .none x q:=by
  cases hx <;> first | exact nn h | (cases h; exact ⟨rfl,rfl⟩)
theorem is_ok {a b:Mine.V} {x y:Value} {q:Bool} {F ρ} (h:isV a b=some q) (hx:VR c F ρ a x) (hy:VR c F ρ b y):IsB x y q:=by
  have key:isV1 a b=some q→IsB x y q:=fun h=>by
    unfold isV1 at h
    cases hb:b.isNone with
    | true=>rw [hb] at h; cases b <;> first | exact ff hb | exact hy.noneE (P:=fun y=>IsB x y q) (isNone_r h hx)
    | false=>rw [hb] at h; exact gdE h fun h1 h2=>by cases a <;> first | exact ff h1 | exact hx.noneE (P:=fun x=>IsB x y q) (isNone_l h2 hy)
  cases a with
  | bool p =>
    exact hx.boolE (P:=fun x=>IsB x y q) (by
      cases b with
      | none=>cases h; exact hy.noneE ⟨rfl,rfl⟩
      | bool p'=>cases h; exact hy.boolE (P:=fun y=>IsB _ y _) ⟨rfl,by cases p <;> cases p' <;> rfl⟩
      | _=>exact nn h)
  | _=>exact key h

noncomputable def EqM (c:Cx) (A:Around) (s:Shared) (x y:Value):Prop:=∀ (E:Value→Shared→Prop) (Q:Bool→Shared→Prop),Q true s→wpAny c.M A (PySem.eqBool x y) Q E s
noncomputable def RcM (c:Cx) (A:Around) (s:Shared) (x y:Value):Prop:=∀ (E:Value→Shared→Prop) (Q:Value→Shared→Prop),Q (.bool true) s→wpAny c.M A (richCompare .Eq x y) Q E s
theorem EqM.of {A:Around} {x y:Value} {b:Bool} (h:SeqAt.EqAt A s x y b) (hb:b=true):EqM c A s x y:=fun E Q q=>h _ _ E Q (hb▸q)
theorem EqM.refs {A:Around} {a b:Addr} (h:RcM c A s (.ref a) (.ref b)):EqM c A s (.ref a) (.ref b):=by
  by_cases e:a=b
  · subst e; exact EqM.of (SeqAt.EqAt.same _) rfl
  · intro E Q q
    unfold PySem.eqBool
    refine wpAny_holding ?_
    rw [if_neg fun h=>e (Value.ref.inj (bE h))]
    exact wpAny_bind (h _ _ (wpAny_truthy_bool q))
open AutoSeq1 (wpAny_loadPart') in
open MeetsSeq MeetsSeq2 MeetsSeq3 SeqRoads2 in
theorem eq_loopM (l b:Addr) (items items2:Array Value) (n n2:Nat) (hsz:items.size=items2.size) (k:Nat) :
    ∀ i:Nat,items.size - i=k→∀ (A:Around) (R:Result→Shared→Prop) (s:Shared),IsL s.heap l items n→IsL s.heap b items2 n2 →
      (∀ j (h1:j < items.size) (h2:j < items2.size),EqM c A.in1 s items[j] items2[j])→R (.ok (.ret (.bool true))) s →
      wpAny c.M A.in1 (Builtin.«list.__eq__.loop» ⟨[.ref l,.ref b,rawInt i,rawInt 2],[]⟩) (fun fin s'=>match fin with | .done f=>R (.ok f) s' | .again c'=>c'.quiet=true∧codeAny c.M A c' R s') (fun e s'=>R (.error e) s') s:=by
  induction k with
  | zero =>
    intro i hk A R s hl hb he h
    obtain ⟨hp,g,d,tk,os⟩:=s
    wp_walk using wpAny_loadPart' hl,wpAny_loadPart' hb
    have hi1:items[((i:Nat):Int).toNat]?=none:=Array.getElem?_eq_none (Nat.le_of_sub_eq_zero hk)
    have hi2:items2[((i:Nat):Int).toNat]?=none:=Array.getElem?_eq_none (Nat.le_trans (Nat.le_of_eq hsz.symm) (Nat.le_of_sub_eq_zero hk))
    rw [hi1,hi2]
    wp_walk using wpAny_loadPart' hl,wpAny_loadPart' hb
    show R (.ok (.ret (.bool (items.size == items2.size)))) _
    rw [hsz,beq_self_eq_true]
    exact h
  | succ k ih =>
    intro i hk A R s hl hb he h
    obtain ⟨hp,g,d,tk,os⟩:=s
    wp_walk using wpAny_loadPart' hl,wpAny_loadPart' hb
    have hlt:i < items.size:=Nat.lt_of_sub_eq_succ hk
    have hlt2:i < items2.size:=Nat.lt_of_lt_of_eq hlt hsz
    have hi1:items[((i:Nat):Int).toNat]?=some items[i]:=Array.getElem?_eq_getElem hlt
    have hi2:items2[((i:Nat):Int).toNat]?=some items2[i]:=Array.getElem?_eq_getElem hlt2
    have hc:((i:Int) + 1)=((i + 1:Nat):Int):=rfl
    rw [hi1,hi2]
    refine wpAny_bind (he i hlt hlt2 _ _ ?_)
    wp_walk
    rw [hc]
    exact ⟨plainId_quiet plain_eq_loop _,codeAny_builtin entry_eq_loop (by
      rw [Around.under_plainId plain_eq_loop _]
      exact ih (i + 1) ((Nat.sub_add_eq items.size i 1).trans (congrArg (· - 1) hk)) A R _ hl hb he h)⟩
open AutoSeq1 (wpAny_loadPart') in
open MeetsSeq MeetsSeq2 MeetsSeq3 SeqRoads2 in
theorem list_eqM {l b:Addr} {items items2:Array Value} {n n2:Nat} (hsz:items.size=items2.size) {A:Around} {R:Result→Shared→Prop} {s:Shared} (hl:IsL s.heap l items n) (hb:IsL s.heap b items2 n2)
    (he:∀ j (h1:j < items.size) (h2:j < items2.size),EqM c A.in1 s items[j] items2[j]) (h:R (.ok (.ret (.bool true))) s) :
    wpAny c.M A.in1 (Builtin.«list.__eq__» ⟨[.ref l,.ref b],[]⟩) (fun fin s'=>match fin with | .done f=>R (.ok f) s' | .again c'=>c'.quiet=true∧codeAny c.M A c' R s') (fun e s'=>R (.error e) s') s:=by
  obtain ⟨hp,g,d,tk,os⟩:=s
  have f3:=AutoSeq1.sub_list_list
  have hne:¬ (items.size != items2.size)=true:=by simp [hsz]
  wp_walk using wpAny_loadPart' hl,wpAny_loadPart' hb
  exact ⟨plainId_quiet plain_eq_loop _,codeAny_builtin entry_eq_loop (by
    rw [Around.under_plainId plain_eq_loop _]
    exact eq_loopM l b items items2 n n2 hsz _ 0 rfl A R _ hl hb he h)⟩
theorem RcM.lists {l b:Addr} {items items2:Array Value} {n n2:Nat} {A:Around} (hl:IsL s.heap l items n) (hb:IsL s.heap b items2 n2) (hsz:items.size=items2.size) (hu:A.units < cLine)
    (he:∀ j (h1:j < items.size) (h2:j < items2.size),EqM c A.in1 s items[j] items2[j]):RcM c A s (.ref l) (.ref b):=fun E Q h =>
  wpAny_richCompare_same_room (op:=.Eq) ⟨_,hl,rfl⟩ ⟨_,hb,rfl⟩ F.slot_list_eq
    (wpAny_call (codeAny_call_builtin F.slot_list_eq.plain F.entry_list_eq (F.slot_list_eq.check _ _ _ _ _ _ _ _ ⟨_,hl,rfl⟩ (F.args_list_eq_2 _ _)
      (list_eqM (R:=wants (fun v s'=>v ≠ .notImplemented∧Q v s') E) hsz hl hb he (show _∧_ from ⟨(fun x=>nomatch x),h⟩))))) hu
theorem valueAt_of {kvs:List (Str × Value)} (hn:(kvs.map (·.1)).Nodup) {j:Nat} {k:Str} {y:Value} (h:kvs[j]?=some (k,y)):valueAt kvs k=some y:=by
  induction kvs generalizing j with
  | nil=>simp at h
  | cons kv r ih =>
    rw [List.map_cons,List.nodup_cons] at hn
    unfold valueAt
    rw [List.find?_cons]
    cases j with
    | zero=>simp at h; subst h; simp
    | succ j =>
      simp at h
      have hm:k ∈ r.map (·.1):=List.mem_map.mpr ⟨(k,y),List.mem_of_getElem? h,rfl⟩
      have:¬ kv.1=k:=fun e=>hn.1 (e▸hm)
      rw [decide_eq_false this]
      exact ih hn.2 h
theorem same_pairs {nm:String} {a b:Addr} {ka kb:List (Str × Value)} {Q:Bool→Shared→Prop} (ha:(a == sysModules)=false) (hb:(b == sysModules)=false)
    (da:s.heap.DictOf (strKind c.prog c.w) a ka) (db:s.heap.DictOf (strKind c.prog c.w) b kb) (hk:ka.map (·.1)=kb.map (·.1))
    (he:∀ (j:Nat) x y,(ka.map (·.2))[j]?=some x→(kb.map (·.2))[j]?=some y→EqM c A s x y) (h:Q true s) :
    wpAny c.M A (Builtin.Dict.samePairs nm a b) Q E s:=by
  obtain ⟨oa,es,ep,hoa,_,hda,hka,hpa,_⟩:=da
  obtain ⟨ob,es',ep',hob,_,hdb,hkb,hpb,hnd⟩:=db
  have sa:ka.length=es.size:=by rw [← hpa.length,Array.length_toList]
  have sb:kb.length=es'.size:=by rw [← hpb.length,Array.length_toList]
  have sab:ka.length=kb.length:=by
    have:=congrArg List.length hk
    rw [List.length_map,List.length_map] at this
    exact this
  have hf:∀ k,findBy (strKind c.prog c.w).is es' k=valueAt kb k:=fun k=>by
    rw [← hpb.find k]
    obtain ⟨l⟩:=es'
    simp [findBy]
  unfold Builtin.Dict.samePairs Builtin.Dict.showsAll
  rw [ha,hb]
  simp only [Bool.false_eq_true,if_false]
  refine wpAny_bind (wpAny_pure (wpAny_bind (wpAny_pure (wpAny_bind (wpAny_dictEntries hoa hda ?_)))))
  refine wpAny_bind (wpAny_dictEntries hob hdb ?_)
  rw [if_neg (by rw [← sa,← sb,sab]; simp)]
  refine wpAny_bind (wpAny_dictEpoch hoa hda (wpAny_bind ?_))
  rw [Std.Legacy.Range.forIn_eq_forIn_range']
  simp only [Std.Legacy.Range.size,Nat.sub_zero,Nat.add_sub_cancel,Nat.div_one]
  refine wpAny_forIn_list _ (fun rest q s'=>s'=s∧q=(none,())∧∃ i,rest=List.range' i (es.size - i)) _ ?_ ?_ _ _ ⟨rfl,rfl,0,by simp⟩
  · rintro x rest q s' ⟨rfl,rfl,i,hr⟩
    have hlt:i < es.size:=by
      by_cases z:i < es.size
      · exact z
      · rw [Nat.sub_eq_zero_of_le (Nat.le_of_not_lt z)] at hr; cases hr
    have z:es.size - i=(es.size - (i + 1)) + 1:=((congrArg (· + 1) (Nat.sub_add_eq es.size i 1)).trans (Nat.sub_add_cancel (Nat.sub_pos_of_lt hlt))).symm
    rw [z,List.range'_succ] at hr
    injection hr with e1 e2
    subst e1
    refine wpAny_bind (wpAny_dictEntries hoa hda ?_)
    rw [Array.getElem?_eq_getElem hlt]
    have l1:x < ka.length:=sa▸hlt
    have l2:x < kb.length:=sab▸l1
    have hkey:ka[x].1=kb[x].1:=by
      have:=congrArg (fun l=>l[x]?) hk
      rw [List.getElem?_map,List.getElem?_map,List.getElem?_eq_getElem l1,List.getElem?_eq_getElem l2] at this
      exact Option.some.inj this
    obtain ⟨hq,hv⟩:=hpa.get? (i:=x) (e:=es[x]) (k:=ka[x].1) (v:=ka[x].2) (by rw [Array.getElem?_toList]; exact Array.getElem?_eq_getElem hlt) (by rw [List.getElem?_eq_getElem l1])
    obtain ⟨k',hk',hh⟩:=hka es[x] (Array.getElem_mem hlt)
    rw [(strKind c.prog c.w).inj _ _ _ hk' hq] at hh
    show wpAny _ _ (holding [es[x].key,es[x].val] _ >>= _) _ _ _
    rw [hh]
    refine wpAny_bind (wpAny_holding (wpAny_bind (wpAny_dictFind_of hq hob hdb hkb ?_)))
    have hval:valueAt kb ka[x].1=some kb[x].2:=valueAt_of hnd (j:=x) (by rw [hkey,List.getElem?_eq_getElem l2])
    rw [← hf,findBy_of_findIdx?] at hval
    cases hj:es'.findIdx? fun e=>(strKind c.prog c.w).is ka[x].1 e.key with
    | none=>rw [hj] at hval; cases hval
    | some j =>
      rw [hj] at hval
      obtain ⟨jl,_,_⟩:=Array.findIdx?_eq_some_iff_getElem.mp hj
      refine wpAny_bind (wpAny_dictEntries hob hdb ?_)
      rw [Array.getElem?_eq_getElem jl]
      have ey:es'[j].val=kb[x].2:=by simpa [Array.getElem?_eq_getElem jl] using hval
      have hE:=he x ka[x].2 kb[x].2 (by rw [List.getElem?_map,List.getElem?_eq_getElem l1]; rfl) (by rw [List.getElem?_map,List.getElem?_eq_getElem l2]; rfl)
      rw [← ey,← hv] at hE
      refine wpAny_holding (hE _ _ ?_)
      show wpAny _ _ (if (!true)=true then _ else _) _ _ _
      rw [if_neg (by decide)]
      refine wpAny_bind (wpAny_dictEpoch hoa hda ?_)
      rw [if_neg (by simp)]
      exact wpAny_pure ⟨rfl,rfl,x + 1,e2⟩
  · rintro q s' ⟨rfl,rfl,_⟩
    exact wpAny_pure h
theorem RcM.dicts {a b:Addr} {ka kb:List (Str × Value)} (ha:(a == sysModules)=false) (hb:(b == sysModules)=false)
    (da:s.heap.DictOf (strKind c.prog c.w) a ka) (db:s.heap.DictOf (strKind c.prog c.w) b kb) (hu:A.units < cLine) (hk:ka.map (·.1)=kb.map (·.1))
    (he:∀ (j:Nat) x y,(ka.map (·.2))[j]?=some x→(kb.map (·.2))[j]?=some y→EqM c A.in1 s x y):RcM c A s (.ref a) (.ref b):=fun E Q h=>by
  refine wpAny_richCompare_same_room (op:=.Eq) da.typeIs db.typeIs PySem.F.slot_dict_eq (wpAny_call_entry PySem.F.slot_dict_eq da.typeIs PySem.F.entry_dict_eq ?_ (PySem.F.args_dict_eq_2 _ _)) hu
  show wpAny _ _ (Builtin.Dict.dictSlotArgs "__eq__" ⟨[.ref a,.ref b],[]⟩ >>= _) _ _ s
  refine wpAny_bind ?_
  unfold Builtin.Dict.dictSlotArgs
  refine wpAny_bind (wpAny_notOrdered_dict da.typeIs ?_)
  show wpAny _ _ (pure (Value.ref a,Value.ref b)) _ _ s
  refine wpAny_pure (wpAny_bind (wpAny_isInstance (T:="dict") db.typeIs PySem.F.sub_dict_dict ?_))
  rw [if_neg (by decide)]
  exact wpAny_bind (wpAny_pure (wpAny_bind (wpAny_pure (wpAny_bind (same_pairs ha hb da db hk he (wpAny_pure ⟨_,rfl,(fun x=>nomatch x),h⟩))))))
theorem units_in {u d L:Nat} (h:u + 2 * (d + 1) + 2 < L):u + 1 + 2 * d + 2 < L∧u < L:=⟨Nat.lt_of_le_of_lt (Nat.add_le_add_right (by rw [Nat.add_assoc,Nat.add_comm 1]; exact Nat.add_le_add_left (Nat.le_succ _) u) 2) h,Nat.lt_of_le_of_lt (Nat.le_trans (Nat.le_add_right u _) (Nat.le_add_right _ 2)) h⟩
theorem units_hd {u a b L:Nat} (h:u + 2 * max a b + 2 < L):u + 2 * a + 2 < L∧u + 2 * b + 2 < L:=⟨Nat.lt_of_le_of_lt (Nat.add_le_add_right (Nat.add_le_add_left (Nat.mul_le_mul_left 2 (Nat.le_max_left a b)) u) 2) h,Nat.lt_of_le_of_lt (Nat.add_le_add_right (Nat.add_le_add_left (Nat.mul_le_mul_left 2 (Nat.le_max_right a b)) u) 2) h⟩
noncomputable def Sm (c:Cx) (s:Shared) (v:Mine.V):Prop:=∀ ⦃A:Around⦄ ⦃F ρ⦄ ⦃x y:Value⦄,(∀ a o,F a o→s.heap.get? a=some o)→A.units + 2 * dep v + 2 < cLine→datV v=true→VR c F ρ v x→VR c F ρ v y→EqM c A s x y
noncomputable def Sms (c:Cx) (s:Shared) (l:List Mine.V):Prop:=∀ ⦃A:Around⦄ ⦃F ρ⦄ ⦃xs ys:List Value⦄,(∀ a o,F a o→s.heap.get? a=some o)→A.units + 2 * deps l + 2 < cLine→datVs l=true→VRs c F ρ l xs→VRs c F ρ l ys →
    ∀ (j:Nat) x y,xs[j]?=some x→ys[j]?=some y→EqM c A s x y
theorem get_at {items:Array Value} {j:Nat} (h:j < items.size):items.toList[j]?=some items[j]:=by rw [Array.getElem?_toList]; exact Array.getElem?_eq_getElem h
theorem sm_list {l:List Mine.V} (ih:Sms c s l):Sm c s (.list l):=fun A F ρ x y hF hu hd h1 h2=>h1.listE fun a1 i1 n1 f1 r1=>h2.listE (P:=fun y=>EqM c A s _ y) fun a2 i2 n2 f2 r2 =>
  EqM.refs (RcM.lists (hF _ _ f1) (hF _ _ f2) ((size_of r1).trans (size_of r2).symm) (units_in hu).2 fun j h1 h2=>ih hF (A:=A.in1) (units_in hu).1 hd r1 r2 j _ _ (get_at h1) (get_at h2))
theorem sm_dict {ks:List (List Nat)} {l:List Mine.V} (ih:Sms c s l):Sm c s (.dict ks l):=fun A F ρ x y hF hu hd h1 h2=>h1.dictE fun a1 o1 k1 f1 d1 e1 r1 s1=>h2.dictE (P:=fun y=>EqM c A s _ y) fun a2 o2 k2 f2 d2 e2 r2 s2 =>
  EqM.refs (RcM.dicts s1 s2 (Heap.dictOf_iff.mpr ⟨_,hF _ _ f1,d1⟩) (Heap.dictOf_iff.mpr ⟨_,hF _ _ f2,d2⟩) (units_in hu).2 (e1.trans e2.symm) (ih hF (A:=A.in1) (units_in hu).1 hd r1 r2))
theorem sm_cons {v:Mine.V} {l:List Mine.V} (h:Sm c s v) (ih:Sms c s l):Sms c s (v :: l):=fun A F ρ xs ys hF hu hd h1 h2 j x y e1 e2=>bA hd fun d1 d2=>h1.consE (P:=fun xs=>xs[j]?=some x→_) (fun x' xs a1 b1 e1=>h2.consE (P:=fun ys=>ys[j]?=some y→_) (fun y' ys a2 b2 e2=>by
  cases j with
  | zero=>cases e1; cases e2; exact h hF (units_hd hu).1 d1 a1 a2
  | succ j=>exact ih hF (units_hd hu).2 d2 b1 b2 j x y e1 e2) e2) e1
theorem same_data (v:Mine.V):Sm c s v:=
  V.rec (motive_1:=Sm c s) (motive_2:=Sms c s) (fun _ _ _ _ _ _ _ _ h1 h2=>h1.noneE (h2.noneE (EqM.of (.same _) rfl))) (fun _ _ _ _ _ _ _ _ _ h1 h2=>h1.boolE (h2.boolE (EqM.of (.same _) rfl)))
    (fun i _ _ _ _ _ _ _ _ h1 h2=>h1.intE fun t=>h2.intE fun u=>EqM.of (.int_int i t i u) (beq_self_eq_true i)) (fun x _ _ _ _ _ _ _ _ h1 h2=>h1.strE fun t=>h2.strE fun u=>EqM.of (.str_str (toS x) t (toS x) u) (beq_self_eq_true _))
    (fun _ _ _ _ _ _ _ _ _ h=>ff h) (fun _=>sm_list) (fun _ _=>sm_dict) (fun _ _ _ _ _ _ _ _ h=>ff h) (fun _ _ _ _ _ _ _ _ h=>ff h) (fun _ _ _ _ _ _ _ _ _ _ h=>ff h) (fun _ _ _ _ _ _ _ _ _ h=>ff h)
    (fun _ _ _ _ _ _ _ _ h1 h2 _ _ _ e=>h1.nilE (P:=fun xs=>xs[_]?=some _→_) (fun e=>nn e) e) (fun _ _=>sm_cons) v
theorem seqEq_ok {a b:Mine.V} {x y:Value} {q:Bool} {Q:Value→Shared→Prop} (hr:Room A r) (h:seqEq σ a b=some q) (R:Rel c env g σ s) (hx:Vx c env g s a x) (hy:Vx c env g s b y) (hq:Q (.bool q) s):wpAny c.M A (compareOp .Eq x y) Q E s:=
  listOfE (P:=fun x=>wpAny c.M A (compareOp .Eq x y) Q E s) R h hx fun l a1 i1 n1 h hi1 hv1=>listOfE (P:=fun y=>wpAny c.M A (compareOp .Eq _ y) Q E s) R h hy fun l' a2 i2 n2 h hi2 hv2=>gdE h fun h1 h2=>bA h1 fun e hrow=>by
    cases h2
    cases V.eq_of_beqs e
    refine RcM.lists hi1 hi2 ((size_of hv1).trans (size_of hv2).symm) hr.units (fun j h1 h2=>?_) E Q hq
    have hj:j < l.length:=size_of hv1▸h1
    obtain ⟨x1,g1,r1⟩:=hv1.get (List.getElem?_eq_getElem hj)
    obtain ⟨x2,g2,r2⟩:=hv2.get (List.getElem?_eq_getElem hj)
    cases (get_at h1).symm.trans g1
    cases (get_at h2).symm.trans g2
    exact bA (List.all_eq_true.mp hrow _ (List.getElem_mem hj)) fun d1 d2=>same_data _ (fun a o z=>z.1) (Nat.lt_of_le_of_lt (Nat.add_le_add_right (Nat.add_le_add_left (Nat.mul_le_mul_left 2 (Nat.le_of_ble_eq_true d2)) _) 2) (hr.add (k:=1 + (2 * 50 + 2)) (by decide):A.units + 1 + 2 * 50 + 2 < cLine)) d1 r1 r2

noncomputable def opOf:Cmp→CmpOp
  | .eq=>.Eq | .ne=>.NotEq | .lt=>.Lt | .le=>.LtE | .gt=>.Gt | .ge=>.GtE | .inn=>.In | .nin=>.NotIn | .is=>.Is | .isn=>.IsNot

noncomputable def EqN (c:Cx) (A:Around) (s:Shared) (x y:Value) (q:Bool):Prop:=∀ (E:Value→Shared→Prop) (Q:Value→Shared→Prop),(Q (.bool q) s→wpAny c.M A (compareOp .Eq x y) Q E s)∧(Q (.bool (!q)) s→wpAny c.M A (compareOp .NotEq x y) Q E s)
theorem eqS0_ok {a b:Mine.V} {x y:Value} {q:Bool} {F ρ} (h:eqS0 a b=some q) (hx:VR c F ρ a x) (hy:VR c F ρ b y):EqN c A s x y q:=by
  cases a with
  | none=>cases b with
    | none=>cases h; exact hx.noneE (hy.noneE fun _ _=>⟨EqNone.eq_none_none,EqNone.ne_none_none⟩)
    | str z=>cases h; exact hx.noneE (hy.strE fun _ _ _=>⟨EqNone.eq_none_str,EqNone.ne_none_str⟩)
    | _=>exact nn h
  | int i=>exact onIntE (P:=fun b=>VR c F ρ b y→EqN c A s x y q) h (fun j h hy=>by cases h; exact hx.intE (P:=fun x=>EqN c A s x y _) fun _=>hy.intE (P:=fun y=>EqN c A s _ y _) fun _ _ _=>⟨P.eq_int,P.ne_int⟩) hy
  | str z=>cases b with
    | none=>cases h; exact hx.strE (P:=fun x=>EqN c A s x y _) fun _=>hy.noneE (P:=fun y=>EqN c A s _ y _) fun _ _=>⟨EqNone.eq_str_none,EqNone.ne_str_none⟩
    | str z'=>cases h; exact hx.strE (P:=fun x=>EqN c A s x y _) fun _=>hy.strE (P:=fun y=>EqN c A s _ y _) fun _ _ _=>⟨fun hq=>P.eq_str hq,fun hq=>P.ne_str hq⟩
    | _=>exact nn h
  | _=>exact nn h
theorem two_at {b:Mine.V} {y:Value} {q:Int × Int} {F ρ} (h:two? b=some q) (hy:VR c F ρ b y) (hF:∀ a o,F a o→s.heap.get? a=some o):∃ a t u,y=.ref a∧s.heap.IsTuple a #[.int q.1 t,.int q.2 u]:=by
  cases b <;> first | exact nn h | skip
  rename_i l
  match l,h with
  | [],h=>exact nn h
  | [_],h=>exact nn h
  | _ :: _ :: _ :: _,h=>exact nn h
  | [v,w],h =>
    exact intQE (P:=fun v=>VR c F ρ (.tup [v,w]) y→_) h (fun i h=>intQE (P:=fun w=>VR c F ρ (.tup [.int i,w]) y→_) h fun j h hy=>by
      cases h
      exact hy.tupE fun a o items n hf hc hd hv=>by
        have:∃ t u,items.toList=[.int i t,.int j u]:=by
          generalize items.toList=xs at hv
          exact hv.twoE fun _ _ r1 r2=>r1.intE (P:=fun x=>∃ t u,[x,_]=[Value.int i t,.int j u]) fun t=>r2.intE (P:=fun x=>∃ t' u,[Value.int i t,x]=[Value.int i t',.int j u]) fun u=>⟨t,u,rfl⟩
        obtain ⟨t,u,e⟩:=this
        exact ⟨a,t,u,rfl,⟨o,hF _ _ hf,hc,n,by rw [hd]; exact congrArg (Data.seq · n) (Array.toList_inj.mp e)⟩⟩) hy
theorem eqV_ok {a b:Mine.V} {x y:Value} {q:Bool} {Q:Value→Shared→Prop} (hr:Room A r) (h:eqV σ a b=some q) (R:Rel c env g σ s) (hx:Vx c env g s a x) (hy:Vx c env g s b y) (hq:Q (.bool q) s):wpAny c.M A (compareOp .Eq x y) Q E s:=by
  cases a with
  | bool p=>cases b with
    | bool p'=>cases h; exact hx.boolE (hy.boolE (PyProof.Rows.eq_bool hq))
    | _=>exact nn h
  | tup l =>
    exact boE h fun u h1 h=>boE h fun w h2 h=>by
      cases h
      obtain ⟨a1,t1,u1,rfl,i1⟩:=two_at (s:=s) h1 hx fun _ _ z=>z.1
      obtain ⟨a2,t2,u2,rfl,i2⟩:=two_at (s:=s) h2 hy fun _ _ z=>z.1
      refine SeqAt.eq_tupleAt (e:=fun j=>match j with | 0=>u.1 == w.1 | _=>u.2 == w.2) i1 i2 hr.units (fun j h1 h2=>?_) ?_
      · match j,h1 with
        | 0,_=>exact SeqAt.EqAt.int_int _ _ _ _
        | 1,_=>exact SeqAt.EqAt.int_int _ _ _ _
      · have:((List.range (min 2 2)).all (fun j=>match j with | 0=>u.1 == w.1 | _=>u.2 == w.2) && (2:Nat) == 2)=(u.1 == w.1 && u.2 == w.2):=by
          show ((u.1 == w.1 && (u.2 == w.2 && true)) && true)=_
          rw [Bool.and_true,Bool.and_true]
        exact this▸hq
  | list l=>exact seqEq_ok hr h R hx hy hq
  | obj i=>exact seqEq_ok hr h R hx hy hq
  | none=>exact (eqS0_ok (a:=.none) (b:=b) h hx hy E Q).1 hq
  | int i=>exact (eqS0_ok (a:=.int i) (b:=b) h hx hy E Q).1 hq
  | str z=>exact (eqS0_ok (a:=.str z) (b:=b) h hx hy E Q).1 hq
  | _=>exact nn h

theorem cmpI_ok {f:Int→Int→Bool} {a b:Mine.V} {x y:Value} {q:Bool} {F ρ} {P:Value→Value→Bool→Prop} (h:cmpI f a b=some q) (hx:VR c F ρ a x) (hy:VR c F ρ b y) (k:∀ i j t u,P (.int i t) (.int j u) (f i j)):P x y q:=
  intQE (P:=fun a=>VR c F ρ a x→P x y q) h (fun i h hx=>intQE (P:=fun b=>VR c F ρ b y→P x y q) h (fun j h hy=>by cases h; exact hx.intE (P:=fun x=>P x y _) fun t=>hy.intE (P:=fun y=>P _ y _) fun u=>k i j t u) hy) hx
theorem in_tup {l:List Mine.V} {a:Mine.V} {x y:Value} {q:Bool} {Q:Bool→Shared→Prop} (h:isIn a l=some q) (hx:Vx c env g s a x) (hy:Vx c env g s (.tup l) y) (hq:Q q s):wpAny c.M A (PySem.contains y x) Q E s:=
  hy.tupE fun a o items n f1 c1 d1 r1=>by
    obtain ⟨e,he,e2⟩:=isIn_items h r1 hx
    exact contains_tuple_c e ⟨_,f1.1,c1,_,d1⟩ he (args_tuple_contains _ _) (e2▸hq)
theorem le_one (a b:Nat):(!decide ((toS [b]).cps.toList < (toS [a]).cps.toList))=decide (a≤b):=by
  show (!decide ([b] < [a]))=_
  by_cases h:a≤b
  · rw [decide_eq_true h,decide_eq_false fun q=>(List.cons_lt_cons_iff.mp q).elim (fun h1=>Nat.not_lt.mpr h h1) fun h1=>absurd h1.2 (List.not_lt_nil _)]; rfl
  · rw [decide_eq_false h,decide_eq_true (List.cons_lt_cons_iff.mpr (.inl (Nat.not_le.mp h)))]; rfl
theorem inSeq_ok {a b:Mine.V} {x y:Value} {q:Bool} {Q:Value→Shared→Prop} (h:inSeq σ a b=some q) (R:Rel c env g σ s) (hx:Vx c env g s a x) (hy:Vx c env g s b y) (hq:Q (.bool q) s):wpAny c.M A (compareOp .In x y) Q E s:=by
  cases b with
  | tup l =>
    show wpAny _ _ (do return .bool (← PySem.contains y x)) Q E s
    exact wpAny_bind (in_tup h hx hy (wpAny_pure hq))
  | str z =>
    exact onStrE (P:=fun a=>Vx c env g s a x→_) h (fun w h hx=>by
      cases h
      have e:=contains_eq z w
      unfold Txt.contains at e
      exact hx.strE (P:=fun x=>wpAny c.M A (compareOp .In x y) Q E s) fun _=>hy.strE (P:=fun y=>wpAny c.M A (compareOp .In _ y) Q E s) fun _=>PySem.P.in_str (by rw [e]; exact hq)) hx
  | obj id =>
    exact onListE (P:=fun b=>Vx c env g s b y→_) (show onList σ (.obj id) (fun _ l=>isIn a l)=some q from h) (fun id l ho h hy=>hy.objE fun a ha=>by
      obtain ⟨items,n,hi,hv⟩:=liveL R ho ha
      obtain ⟨e,he,e2⟩:=isIn_items h hv hx
      exact SeqInW.in_listW e (fun y hy=>he y (Array.mem_toList_iff.mpr hy)) hi.isList (by rw [← Array.any_toList,e2]; exact hq)) hy
  | _=>exact nn h
theorem cmp_ok {o:Cmp} {a b:Mine.V} {x y:Value} {q:Bool} {Q:Value→Shared→Prop} (hr:Room A r) (h:cmpV σ o a b=some q) (R:Rel c env g σ s) (hx:Vx c env g s a x) (hy:Vx c env g s b y) (hq:Q (.bool q) s):wpAny c.M A (compareOp (opOf o) x y) Q E s:=by
  cases o with
  | eq=>exact eqV_ok hr h R hx hy hq
  | ne=>exact boE h fun q' h1 h2=>by cases h2; exact (eqS0_ok h1 hx hy E Q).2 hq
  | lt=>exact cmpI_ok (P:=fun x y q=>Q (.bool q) s→wpAny c.M A (compareOp .Lt x y) Q E s) h hx hy (fun _ _ _ _=>P.lt_int) hq
  | le=>cases a with
    | int i=>exact cmpI_ok (P:=fun x y q=>Q (.bool q) s→wpAny c.M A (compareOp .LtE x y) Q E s) h hx hy (fun _ _ _ _=>P.le_int) hq
    | str z =>
      exact chrQE (P:=fun a=>Vx c env g s a x→_) h (fun i h hx=>chrQE (P:=fun b=>Vx c env g s b y→_) h (fun j h hy=>by
        cases h
        exact hx.strE (P:=fun x=>wpAny c.M A (compareOp .LtE x y) Q E s) fun _=>hy.strE (P:=fun y=>wpAny c.M A (compareOp .LtE _ y) Q E s) fun _=>P.le_str (by rw [le_one]; exact hq)) hy) hx
    | _=>exact nn h
  | gt=>exact cmpI_ok (P:=fun x y q=>Q (.bool q) s→wpAny c.M A (compareOp .Gt x y) Q E s) h hx hy (fun _ _ _ _=>P.gt_int) hq
  | ge=>exact cmpI_ok (P:=fun x y q=>Q (.bool q) s→wpAny c.M A (compareOp .GtE x y) Q E s) h hx hy (fun _ _ _ _=>P.ge_int) hq
  | inn=>exact inSeq_ok h R hx hy hq
  | nin=>cases b with
    | tup l =>
      exact boE h fun q' h1 h2=>by
        cases h2
        show wpAny _ _ (do return .bool (!(← PySem.contains y x))) Q E s
        exact wpAny_bind (in_tup h1 hx hy (wpAny_pure hq))
    | _=>exact nn h
  | is=>exact wpAny_is_plain (is_ok h hx hy).1 ((is_ok h hx hy).2▸hq)
  | isn=>exact boE h fun q' h1 h2=>by cases h2; exact wpAny_isNot_plain (is_ok h1 hx hy).1 ((is_ok h1 hx hy).2▸hq)
end
end Mine
end
noncomputable section
open PySem PySem.Calls PyProof.Rows PySem.W
namespace Mine
section
variable {c:Cx} {r:Nat} {env:Env} {A:Around} {σ σ':St} {g:Gh} {s:Shared} {E:Value→Shared→Prop} {Q:Value→Shared→Prop} {v:Mine.V}

theorem keepPush (h:Heap) (o:Obj):∀ b p,h.get? b=some p→(h.push o).get? b=some p:=fun _ _ e=>Heap.get?_push_of_some _ e
theorem Vx.push {o:Obj} {t:Nat} {v:Mine.V} {x:Value} (h:Vx c env g s v x):Vx c env g { s with heap:=s.heap.push o,toks:=t } v x:=
  h.ext (Ext.grow (s':={ s with heap:=s.heap.push o,toks:=t }) (keepPush s.heap o) rfl)
theorem Vxs.push {o:Obj} {t:Nat} {v:List Mine.V} {x:List Value} (h:Vxs c env g s v x):Vxs c env g { s with heap:=s.heap.push o,toks:=t } v x:=
  h.ext (Ext.grow (s':={ s with heap:=s.heap.push o,toks:=t }) (keepPush s.heap o) rfl)
theorem Nxt.push {o:Obj} {t:Nat} {x:Value} (N:Nxt c env g s v σ Q) (R:Rel c env g σ s) (h:Vx c env g { s with heap:=s.heap.push o,toks:=t } v x) (ht:0 < t):Q x { s with heap:=s.heap.push o,toks:=t }:=
  N.grow R (s':={ s with heap:=s.heap.push o,toks:=t }) (keepPush s.heap o) rfl h ht
theorem Nxt.newList {l:List Mine.V} {items:Array Value} {t n:Nat} (N:Nxt c env g s (.list l) σ Q) (R:Rel c env g σ s) (h:Vxs c env g s l items.toList) (ht:0 < t) :
    Q (.ref s.heap.objs.size) { s with heap:=s.heap.push { cls:=.type "list",dict:=none,data:=.seq items n,slots:=#[] },toks:=t }:=
  N.push R (.list (pushed R rfl) (Vxs.push (t:=t) h)) ht

theorem add_lists {a b:Mine.V} {x y:Value} (hf:(onListOf σ a fun l=>onListOf σ b fun l'=>bd (l.length + l'.length) (some (.list (l ++ l'))))=some v) (R:Rel c env g σ s) (hx:Vx c env g s a x) (hy:Vx c env g s b y) (N:Nxt c env g s v σ Q):wpAny c.M A (binaryOp .Add x y) Q E s:=
  listOfE (P:=fun x=>wpAny c.M A (binaryOp .Add x y) Q E s) R hf hx fun l a1 i1 n1 h hi1 hv1=>listOfE (P:=fun y=>wpAny c.M A (binaryOp .Add _ y) Q E s) R h hy fun l' a2 i2 n2 h hi2 hv2=>bdE h fun hl e=>by
    cases e
    exact P.add_list hi1 hi2 (N.newList R (by rw [Array.toList_append]; exact hv1.append hv2) R.pos) (by rw [size_of hv1,size_of hv2]; exact hl)
theorem add_ok:OpOk c env r (binaryOp .Add) (fun σ=>bopV σ .add):=fun A σ a b v g s x y E Q hr hf R hx hy N=>by
  cases a with
  | int i=>exact onIntE (P:=fun b=>Vx c env g s b y→_) (show onInt b (fun b=>some (V.int (i + b)))=some v from hf) (fun j h hy=>by cases h; exact hx.intE fun t=>hy.intE fun u=>P.add_int (N.toks R (.int _ _))) hy
  | str z =>
    exact onStrE (P:=fun b=>Vx c env g s b y→_) (show onStr b (fun b=>bd (z.length + b.length) (some (V.str (z ++ b))))=some v from hf) (fun w h hy=>bdE h fun hl e=>by
      cases e
      exact hx.strE fun t=>hy.strE fun u=>wpAny_toks R.pos (add_str (fun t' tk ht=>toS_app' z w▸N.toks R (.str _ _) ht) (by rw [toS_len,toS_len]; exact hl))) hy
  | list l=>exact add_lists (a:=.list l) (b:=b) (σ:=σ) hf R hx hy N
  | obj i=>exact add_lists (a:=.obj i) (b:=b) (σ:=σ) hf R hx hy N
  | _=>exact nn hf
theorem int2E {β:Type} {rr:β} {a b:Mine.V} {x y:Value} {f:Int→Int→Option β} {P:Value→Value→Prop} {F ρ} (h:(onInt a fun a=>onInt b fun b=>f a b)=some rr) (hx:VR c F ρ a x) (hy:VR c F ρ b y) (k:∀ i j t u,f i j=some rr→P (.int i t) (.int j u)):P x y:=
  onIntE (P:=fun a=>VR c F ρ a x→P x y) h (fun i h hx=>onIntE (P:=fun b=>VR c F ρ b y→P x y) h (fun j h hy=>hx.intE (P:=fun x=>P x y) fun t=>hy.intE (P:=fun y=>P _ y) fun u=>k i j t u h) hy) hx
theorem sub'_ok:OpOk c env r (binaryOp .Sub) (fun σ=>bopV σ .sub):=fun A σ a b v g s x y E Q hr hf R hx hy N =>
  int2E (P:=fun x y=>wpAny c.M A (binaryOp .Sub x y) Q E s) (a:=a) (b:=b) (f:=fun a b=>some (V.int (a - b))) hf hx hy fun i j t u e=>by cases e; exact P.sub_int (N.toks R (.int _ _))
theorem mod_ok:OpOk c env r (binaryOp .Mod) (fun σ=>bopV σ .mod):=fun A σ a b v g s x y E Q hr hf R hx hy N =>
  int2E (P:=fun x y=>wpAny c.M A (binaryOp .Mod x y) Q E s) (a:=a) (b:=b) (f:=fun a b=>gd (decide (0 < b)) (some (V.int (a % b)))) hf hx hy fun i j t u e=>gdE e fun h e=>by
    cases e
    have h:=of_decide_eq_true h
    exact mod_int' (Ne.symm (Int.ne_of_lt h)) (Int.fmod_eq_emod_of_nonneg i (Int.le_of_lt h)▸N.toks R (.int _ _))
theorem abs_le {b:Int} (h:b≤1000) (h0:0 < b):b.natAbs < 1073741824:=Int.ofNat_lt.mp ((Int.natAbs_of_nonneg (Int.le_of_lt h0)).symm▸Int.lt_of_le_of_lt h (by decide))
theorem fdiv_ok:OpOk c env r (binaryOp .FloorDiv) (fun σ=>bopV σ .fdiv):=fun A σ a b v g s x y E Q hr hf R hx hy N =>
  int2E (P:=fun x y=>wpAny c.M A (binaryOp .FloorDiv x y) Q E s) (a:=a) (b:=b) (f:=fun a b=>gd (decide (0 < b) && decide (b≤1000)) (some (V.int (a / b)))) hf hx hy fun i j t u e=>gdE e fun h e=>bA h fun h h2=>by
    cases e
    have h:=of_decide_eq_true h
    exact floordiv_int (Ne.symm (Int.ne_of_lt h)) (Int.fdiv_eq_ediv_of_nonneg i (Int.le_of_lt h)▸N.toks R (.int _ _)) (.inl (PyProof.noPylong_small (abs_le (of_decide_eq_true h2) h)))
theorem neg_ok {i:Int} {x:Value} (R:Rel c env g σ s) (hx:Vx c env g s (.int i) x) (N:Nxt c env g s (.int (-i)) σ Q):wpAny c.M A (unaryOp .USub x) Q E s:=hx.intE fun t=>P.neg_int (N.toks R (.int _ _))

theorem tail_c {value slice:Expr} {o i:Value} {T id:String} (hT:s.TypeIs o T) (hl:typeLookup (.type T) "__getitem__"=pure (some (.builtin id)))
    (hg:wpAny c.M A (getItem o i) Q E s):wpAny c.M A (subscriptTail value slice o i) Q E s:=by
  have h:∃ ops,subscripted slice false o i=operate ops (getItem o i):=by
    cases slice <;> first | exact ⟨_,rfl⟩ | skip
    rename_i a b st p
    cases st <;> exact ⟨_,rfl⟩
  obtain ⟨ops,h⟩:=h
  exact tail_any hT hl hg h

theorem ix_of {n:Nat} {i:Int} {j:Nat} (h:ixOf n i=some j) (hb:(n:Int) < 2 ^ 63):(-(2 ^ 63)≤i∧i < 2 ^ 63)∧((0≤i∧i.toNat=j)∨(i < 0∧-(n:Int)≤i∧(i + n).toNat=j)):=by
  unfold ixOf seqIndex? at h
  dsimp only at h
  by_cases hi:i < 0
  · rw [if_pos hi] at h
    by_cases q:(decide (0≤i + n) && decide (i + n < n))=true
    · rw [if_pos q] at h
      cases h
      exact bA q fun q1 q2=>by
        have q1:=of_decide_eq_true q1
        exact ⟨⟨by omega,by omega⟩,.inr ⟨hi,by omega,rfl⟩⟩
    · rw [if_neg q] at h; exact nn h
  · rw [if_neg hi] at h
    by_cases q:(decide (0≤i) && decide (i < n))=true
    · rw [if_pos q] at h
      cases h
      exact bA q fun q1 q2=>by
        have q2:=of_decide_eq_true q2
        exact ⟨⟨by omega,by omega⟩,.inl ⟨Int.not_lt.mp hi,rfl⟩⟩
    · rw [if_neg q] at h; exact nn h
theorem getItem_listc {a:Addr} {items:Array Value} {n:Nat} {i:Int} {t:Tok} {j:Nat} {x:Value} (hi:IsL s.heap a items n) (hb:items.size≤sizeLine) (hj:ixOf items.size i=some j)
    (hx:items[j]?=some x) (h:Q x s):wpAny c.M A (getItem (.ref a) (.int i t)) Q E s:=by
  obtain ⟨⟨h1,h2⟩,h3⟩:=ix_of hj (fit_of hb)
  exact h3.elim (fun h3=>wpAny_getItem_list hi.isList h3.1 h2 (h3.2▸hx) h) fun h3=>wpAny_getItem_list_neg hi.isList h3.1 h3.2.1 h1 (h3.2.2▸hx) h

theorem lookK_get {v:Mine.V} {x:List Nat} {F ρ}:∀ {kvs:List (Str × Value)} {ks:List (List Nat)} {vs:List Mine.V},kvs.map (·.1)=ks.map toS→VRs c F ρ vs (kvs.map (·.2))→lookK ks vs x=some v→∃ y,valueAt kvs (toS x)=some y∧VR c F ρ v y
  | _,[],_,_,_,h=>nn h
  | _,_ :: _,[],_,_,h=>nn h
  | [],_ :: _,_ :: _,hk,_,_=>nomatch hk
  | kv :: kvs,k :: ks,w :: vs,hk,hv,h=>by
    have k1:kv.1=toS k:=(List.cons.inj hk).1
    unfold valueAt
    rw [List.find?_cons,k1]
    unfold lookK at h
    cases hv with
    | cons a b =>
      by_cases e:k=x
      · rw [if_pos e] at h
        rw [e,decide_eq_true rfl]
        cases h
        exact ⟨kv.2,rfl,a⟩
      · rw [if_neg e] at h
        rw [decide_eq_false fun q=>e (toS_inj q)]
        exact lookK_get (List.cons.inj hk).2 b h
theorem sub_list_ok {value slice:Expr} {l:List Mine.V} {b:Mine.V} {a:Addr} {items:Array Value} {n:Nat} {y:Value} (hf:subL l b=some v) (R:Rel c env g σ s) (hi:IsL s.heap a items n) (hv:Vxs c env g s l items.toList) (hy:Vx c env g s b y) (N:Nxt c env g s v σ Q) :
    wpAny c.M A (subscriptTail value slice (.ref a) y) Q E s:=
  onIntE (P:=fun b=>Vx c env g s b y→_) hf (fun i h hy=>bdE h fun hb h=>boE h fun j hj e=>hy.intE fun t=>by
    obtain ⟨x,hx,rx⟩:=hv.get e
    have hs:=size_of hv
    exact tail_c hi.isList.typeIs slot_list_getitem.lookup (getItem_listc hi (by rw [hs]; exact hb) (by rw [hs]; exact hj) (by rw [← Array.getElem?_toList]; exact hx) (N.same R rx))) hy
theorem getItem_dictc {kvs:List (Str × Value)} {ks:List (List Nat)} {vs:List Mine.V} {b:Mine.V} {a:Addr} {y:Value} (hf:(onStr b fun x=>lookK ks vs x)=some v) (R:Rel c env g σ s) (D:s.heap.DictOf (strKind c.prog c.w) a kvs) (k1:kvs.map (·.1)=ks.map toS) (r1:Vxs c env g s vs (kvs.map (·.2))) (hy:Vx c env g s b y)
    (N:Nxt c env g s v σ Q):wpAny c.M A (getItem (.ref a) y) Q E s:=
  onStrE (P:=fun b=>Vx c env g s b y→_) hf (fun x' h hy=>hy.strE fun t=>by
    obtain ⟨y,hy,ry⟩:=lookK_get k1 r1 h
    exact wpAny_getItem_of (k:=toS x') (beq_self_eq_true (toS x')) D.mapOf hy (N.toks R ry)) hy
theorem sub_tup {value slice:Expr} {l:List Mine.V} {b:Mine.V} {x y:Value} (hf:subL l b=some v) (R:Rel c env g σ s) (hx:Vx c env g s (.tup l) x) (hy:Vx c env g s b y) (N:Nxt c env g s v σ Q):wpAny c.M A (subscriptTail value slice x y) Q E s:=
  onIntE (P:=fun b=>Vx c env g s b y→_) hf (fun i h hy=>bdE h fun hb h=>boE h fun j hj e=>hy.intE fun t=>hx.tupE fun a o items n f1 c1 d1 r1=>by
    obtain ⟨x,hx,rx⟩:=r1.get e
    have hs:=size_of r1
    have T:IsTup s.heap _ _:=⟨_,f1.1,c1,_,d1⟩
    have h1:=(ix_of hj (fit_of hb)).1
    exact tail_c T.typeIs slot_tuple_getitem.lookup (getItem_tuple T h1.1 h1.2 (by rw [hs]; exact hj) (by rw [← Array.getElem?_toList]; exact hx) (N.same R rx))) hy
theorem sub_str {value slice:Expr} {w:List Nat} {b:Mine.V} {x y:Value} (hf:subV σ (.str w) b=some v) (R:Rel c env g σ s) (hx:Vx c env g s (.str w) x) (hy:Vx c env g s b y) (N:Nxt c env g s v σ Q):wpAny c.M A (subscriptTail value slice x y) Q E s:=
  onIntE (P:=fun b=>Vx c env g s b y→_) (show onInt b (fun i=>bd w.length (bo (ixOf w.length i) fun j=>bo w[j]? fun d=>some (V.str [d])))=some v from hf) (fun i h hy=>bdE h fun hb h=>boE h fun j hj h=>boE h fun d hd e=>by
    cases e
    have h1:=(ix_of hj (fit_of hb)).1
    refine hx.strE fun t=>hy.intE fun u=>tail_c (typeIs_str _ _ _) F.slot_str_getitem.lookup (getItem_str (c:=d) ?_ ?_ (N.toks R (.str [d] _)))
    · rw [decide_eq_false (Int.not_lt.mpr h1.1),decide_eq_false (Int.not_le.mpr h1.2)]; rfl
    · rw [toS_len]
      show (ixOf w.length i).bind _=_
      rw [hj]
      show w.toArray[j]?=_
      rw [List.getElem?_toArray]; exact hd) hy
theorem sub_ok {value slice:Expr} {a b:Mine.V} {x y:Value} (hf:subV σ a b=some v) (R:Rel c env g σ s) (hx:Vx c env g s a x) (hy:Vx c env g s b y) (N:Nxt c env g s v σ Q) :
    wpAny c.M A (subscriptTail value slice x y) Q E s:=by
  cases a with
  | str w=>exact sub_str hf R hx hy N
  | tup l=>exact sub_tup hf R hx hy N
  | list l=>exact hx.listE fun a items n f1 r1=>sub_list_ok hf R f1.1 r1 hy N
  | dict ks vs =>
    exact hx.dictE fun a o kvs f1 d1 k1 r1 s1=>by
      have D:s.heap.DictOf (strKind c.prog c.w) a kvs:=Heap.dictOf_iff.mpr ⟨_,f1.1,d1⟩
      exact tail_c D.typeIs slot_dict_getitem.lookup (getItem_dictc hf R D k1 r1 hy N)
  | obj id =>
    exact boE (show bo (look σ.hp id) _=some v from hf) fun o ho h=>hx.objE fun a ha=>by
      obtain ⟨q,hc,H⟩:=rho_of R ho ha
      cases o with
      | list l=>obtain ⟨-,items,n,hi,hv⟩:=H; exact sub_list_ok h R hi hv hy N
      | dict ks vs=>obtain ⟨-,-,kvs,D,k1,r1⟩:=H; exact tail_c D.typeIs slot_dict_getitem.lookup (getItem_dictc h R D k1 r1 hy N)
      | inst _ _=>exact nn h
  | _=>exact nn hf
theorem ev_sub {e i:Expr} {C:Ora} {me mi:ME} {pos} (H:EvOk c r env e (ev C me)) (H2:EvOk c r env i (ev C mi)):EvOk c r env (.Subscript e i pos) (ev C (.sub me mi)):=fun _ _ _ _ _ _ _ _ hr hf R N=>bnE hf fun a σ₁ h1 h=>bnE h fun b σ₂ h3 h=>boE h fun w h5 h6 =>
  Subscript_ (H hr h1 R fun x s₁ g₁ R₁ X₁ E₁=>H2 hr h3 R₁ fun y s₂ g₂ R₂ X₂ E₂=>sub_ok h5 R₂ (X₁.ext E₂) X₂ ((N.of h6).trans (E₁.trans E₂)))
end
end Mine
end
noncomputable section
open PySem PySem.Calls PyProof.Rows PySem.W
namespace Mine
section
variable {c:Cx} {r:Nat} {env:Env} {A:Around} {σ σ':St} {g:Gh} {s:Shared} {E:Value→Shared→Prop} {Q:Value→Shared→Prop} {v:Mine.V}
noncomputable def ixV:Mine.V→Option Int
  | .int i=>some i
  | _=>none
theorem clip_clamp (n:Nat) (i:Int):max 0 (min (if i < 0 then i + n else i) (n:Int))=(clampIx n i:Int):=(Int.toNat_of_nonneg (Int.le_max_left 0 _)).symm
theorem clampIx_le' (n:Nat) (i:Int):clampIx n i≤n:=Int.toNat_le.mpr (Int.max_le.mpr ⟨Int.natCast_nonneg n,Int.min_le_right _ _⟩)
theorem cut_run {α:Type} (xs:Array α) (a b:Nat):((List.range (b - a)).map (a + ·)).filterMap (xs[·]?)=cut xs.toList a b:=by
  rw [pick_run,← List.drop_take]; rfl
noncomputable def BdV (a:Mine.V):Prop:=a=.none∨∃ i,a=.int i
theorem lo_is {n i:Nat} {a:Mine.V} (h:loIx n a=some i):BdV a:=by
  cases a <;> first | exact .inl rfl | exact .inr ⟨_,rfl⟩ | exact nn h
theorem hi_is {n i:Nat} {a:Mine.V} (h:hiIx n a=some i):BdV a:=by
  cases a <;> first | exact .inl rfl | exact .inr ⟨_,rfl⟩ | exact nn h
theorem lo_num {n i:Nat} {a:Mine.V} (h:loIx n a=some i):(match ixV a with | some i=>max 0 (min (if i < 0 then i + n else i) (n:Int)) | none=>0)=(i:Int):=by
  cases a <;> first | exact nn h | (cases h; first | rfl | exact clip_clamp _ _)
theorem hi_num {n i:Nat} {a:Mine.V} (h:hiIx n a=some i):(match ixV a with | some i=>max 0 (min (if i < 0 then i + n else i) (n:Int)) | none=>(n:Int))=(i:Int):=by
  cases a <;> first | exact nn h | (cases h; first | rfl | exact clip_clamp _ _)
theorem bound_of {n i j:Nat} {a b:Mine.V} (h1:loIx n a=some i) (h2:hiIx n b=some j):sliceBounds (ixV a) (ixV b) none n=((i:Int),(j:Int),1)∧Builtin.Str.strSliceIndices (ixV a) (ixV b) 1 n=sliceRange i j 1:=by
  constructor
  · show ((match ixV a with | none=>0 | some i=>max 0 (min (if i < 0 then i + n else i) (n:Int))),(match ixV b with | none=>(n:Int) | some i=>max 0 (min (if i < 0 then i + n else i) (n:Int))),(1:Int))=_
    have e1:=lo_num h1
    have e2:=hi_num h2
    rw [← e1,← e2]
    cases ixV a <;> cases ixV b <;> rfl
  · show sliceRange (match ixV a with | none=>0 | some i=>max 0 (min (if i < 0 then i + n else i) (n:Int))) (match ixV b with | none=>(n:Int) | some i=>max 0 (min (if i < 0 then i + n else i) (n:Int))) 1=_
    have e1:=lo_num h1
    have e2:=hi_num h2
    rw [← e1,← e2]
    cases ixV a <;> cases ixV b <;> rfl
theorem slicePick_cut {items:Array Value} {i j:Nat} {a b:Mine.V} (h1:loIx items.size a=some i) (h2:hiIx items.size b=some j):(slicePick items (ixV a) (ixV b) none).toList=cut items.toList i j:=by
  unfold slicePick
  rw [(bound_of h1 h2).1]
  show ((sliceRange i j 1).filterMap (items[·]?))=_
  rw [sliceRange_one]; exact cut_run items i j
theorem hi_le {n j:Nat} {b:Mine.V} (h2:hiIx n b=some j):j≤n:=by
  cases b <;> first | exact nn h2 | skip
  · cases h2; exact Nat.le_refl _
  · cases h2; exact clampIx_le' _ _
theorem cut_ij {l i j:Nat} (h:j - i=l) (hj:j≤l):(i=0∧j=l)∨l=0:=by
  cases i with
  | zero=>exact .inl ⟨rfl,h⟩
  | succ i =>
    cases j with
    | zero=>exact .inr (h.symm.trans (Nat.zero_sub _))
    | succ j=>exact absurd (Nat.le_trans hj (h▸(Nat.succ_sub_succ j i).symm▸Nat.sub_le j i)) (Nat.not_succ_le_self j)
theorem cut_full {α:Type} {l:List α} {i j:Nat} (h:(sliceRange i j 1).length=l.length) (hj:j≤l.length):cut l i j=l:=by
  rw [sliceRange_one,List.length_map,List.length_range] at h
  unfold cut
  rcases cut_ij h hj with ⟨rfl,rfl⟩ | h0
  · exact List.take_length
  · rw [List.length_eq_zero_iff.mp h0,List.take_nil,List.drop_nil]
theorem slice_cut {w:List Nat} {i j:Nat} {a b:Mine.V} (h1:loIx w.length a=some i) (h2:hiIx w.length b=some j):Txt.slice (toS w) (ixV a) (ixV b)=toS (cut w i j):=by
  unfold Txt.slice
  rw [toS_len,(bound_of h1 h2).2]
  split
  · rename_i h
    exact bA h fun _ h=>by rw [cut_full (bE h) (hi_le h2)]
  · rw [sliceRange_one]
    exact congrArg (fun l=>Str.mk (List.toArray l)) (cut_run w.toArray i j)
theorem cut_VRs {F ρ} {l:List Mine.V} {xs:List Value} (h:VRs c F ρ l xs) (i j:Nat):VRs c F ρ (cut l i j) (cut xs i j):=(h.take j).drop i

noncomputable def BdOk (c:Cx) (r:Nat) (env:Env) (e:Option Expr) (f:St→Option (Mine.V × St)):Prop:=
  ∀ ⦃A:Around⦄ ⦃σ:St⦄ ⦃v:Mine.V⦄ ⦃σ':St⦄ ⦃g:Gh⦄ ⦃s:Shared⦄ ⦃E:Value→Shared→Prop⦄ ⦃Q:Value→Shared→Prop⦄,
    Room A r→f σ=some (v,σ')→Rel c env g σ s→Nxt c env g s v σ' Q→wpAny c.M A (evalPart e env) Q E s
theorem bd_none:BdOk c r env none (fun σ=>some (.none,σ)):=fun _ _ _ _ _ _ _ _ _ hf R N=>evalPart_none_step ((N.of hf).same R .none)
theorem bd_some' {e:Expr} {f} (H:EvOk c r env e f):BdOk c r env (some e) f:=fun _ _ _ _ _ _ _ _ hr hf R N=>evalPart_some_step (H hr hf R N)

theorem part_of {a:Mine.V} {x:Value} {F ρ} (h:BdV a) (hx:VR c F ρ a x):IsPart x (ixV a)∧∃ p:Option (Int × Tok),partValue p=x∧p.map (·.1)=ixV a:=by
  rcases h with rfl | ⟨i,rfl⟩
  · exact hx.noneE ⟨.none,none,rfl,rfl⟩
  · exact hx.intE (P:=fun x=>IsPart x (some i)∧∃ p:Option (Int × Tok),partValue p=x∧p.map (·.1)=some i) fun t=>⟨.int _ _,some (i,t),rfl,rfl⟩

noncomputable def slO (y z:Value):Obj:={ cls:=.type "slice",data:=.fields #[y,z,.none] }
theorem sl_list {value slice:Expr} {o a b:Mine.V} {x y z:Value} (hf:(onListOf σ o fun l=>bd l.length (bo (loIx l.length a) fun i=>bo (hiIx l.length b) fun j=>some (.list (cut l i j))))=some v) (R:Rel c env g σ s) (hx:Vx c env g s o x) (hy:Vx c env g s a y) (hz:Vx c env g s b z)
    (N:Nxt c env g s v σ Q):wpAny c.M A (subscriptTail value slice x (.ref s.heap.objs.size)) Q E { s with heap:=s.heap.push (slO y z) }:=
  listOfE (P:=fun x=>wpAny c.M A (subscriptTail value slice x (.ref s.heap.objs.size)) Q E { s with heap:=s.heap.push (slO y z) }) (R.grow (s':={ s with heap:=s.heap.push (slO y z) }) (keepPush _ _) R.pos) hf (Vx.push hx) fun l a1 i1 n1 h hi1 hv1=>bdE h fun hb h=>boE h fun i hi h=>boE h fun j hj e=>by
    cases e
    have hs:=size_of hv1
    rw [← hs] at hi hj
    refine tail_c (Heap.IsList.typeIs (s:={ s with heap:=s.heap.push (slO y z) }) hi1.isList) slot_list_getitem.lookup (wpAny_getItem_list_slice hi1.isList (Heap.IsSliceOf.new ..) (part_of (lo_is hi) hy).1 (part_of (hi_is hj) hz).1 .none (fun h=>nomatch h) ?_ (by rw [hs]; exact hb))
    exact Nxt.newList (s:={ s with heap:=s.heap.push (slO y z) }) (N.trans (.grow (keepPush _ _) rfl)) (R.grow (keepPush _ _) R.pos) (by rw [slicePick_cut hi hj]; exact cut_VRs hv1 i j) R.pos
theorem sl_ok {value slice:Expr} {o a b:Mine.V} {x y z:Value} (hf:slV σ o a b=some v) (R:Rel c env g σ s) (hx:Vx c env g s o x) (hy:Vx c env g s a y) (hz:Vx c env g s b z) (N:Nxt c env g s v σ Q) :
    wpAny c.M A (subscriptTail value slice x (.ref s.heap.objs.size)) Q E { s with heap:=s.heap.push (slO y z) }:=by
  cases o with
  | str w =>
    refine bdE (show bd w.length (bo (loIx w.length a) fun i=>bo (hiIx w.length b) fun j=>some (V.str (cut w i j)))=some v from hf) fun hb h=>boE h fun i hi h=>boE h fun j hj e=>?_
    cases e
    obtain ⟨-,l1,q1,q2⟩:=part_of (lo_is hi) hy
    obtain ⟨-,l2,q3,q4⟩:=part_of (hi_is hj) hz
    refine hx.strE (P:=fun x=>wpAny c.M A (subscriptTail value slice x (.ref s.heap.objs.size)) Q E { s with heap:=s.heap.push (slO y z) }) fun t=>tail_c (typeIs_str _ _ _) F.slot_str_getitem.lookup (wpAny_toks R.pos (wpAny_getItem_str_slice (l:=l1) (u:=l2) (st:=none) ⟨_,Heap.get?_push_size _ rfl,rfl,by rw [q1,q3]; rfl⟩ rfl
      (post_val_or_str ⟨Nat.le_trans (Txt.slice_le _ _ _) (by rw [toS_len]; exact hb),fun t' k ht=>?_⟩)))
    show Q (.str (Txt.slice (toS w) (l1.map (·.1)) (l2.map (·.1))) t') _
    rw [q2,q4,slice_cut hi hj]
    exact (N.trans (.grow (s':={ s with heap:=s.heap.push (slO y z) }) (keepPush _ _) rfl)).toks (R.grow (s':={ s with heap:=s.heap.push (slO y z) }) (keepPush _ _) R.pos) (.str _ _) ht
  | list l=>exact sl_list (σ:=σ) (o:=.list l) (a:=a) (b:=b) hf R hx hy hz N
  | obj i=>exact sl_list (σ:=σ) (o:=.obj i) (a:=a) (b:=b) hf R hx hy hz N
  | _=>exact nn hf

theorem ev_sl {e:Expr} {lo hi:Option Expr} {C:Ora} {me ml mh:ME} {p pos} (H:EvOk c r env e (ev C me)) (H2:BdOk c r env lo (ev C ml)) (H3:BdOk c r env hi (ev C mh)) :
    EvOk c r env (.Subscript e (.Slice lo hi none p) pos) (ev C (.sl me ml mh)):=fun _ _ _ _ _ _ _ _ hr hf R N=>bnE hf fun o σ₁ h1 h=>bnE h fun a σ₂ h3 h=>bnE h fun b σ₃ h5 h=>boE h fun w h7 h8 =>
  Subscript_ (H hr h1 R fun x s₁ g₁ R₁ X₁ E₁=>wpAny_Slice (H2 hr h3 R₁ fun y s₂ g₂ R₂ X₂ E₂=>H3 hr h5 R₂ fun z s₃ g₃ R₃ X₃ E₃=>evalPart_none_step
    (sl_ok h7 R₃ (X₁.ext (E₂.trans E₃)) (X₂.ext E₃) X₃ ((N.of h8).trans (E₁.trans (E₂.trans E₃))))))
end
end Mine
end
noncomputable section
open PySem PySem.Calls PyProof.Rows PySem.W
namespace Mine
theorem look_put {α β:Type} [DecidableEq α] (x y:α) (v:β):∀ (l:List (α × β)),look (put l x v) y=if x=y then some v else look l y
  | []=>rfl
  | (a,b) :: l=>by
    unfold put
    by_cases h:a=x
    · rw [if_pos h]
      unfold look
      by_cases h2:x=y
      · rw [if_pos (h.trans h2),if_pos h2]
      · rw [if_neg fun q=>h2 (h.symm.trans q),if_neg h2,if_neg fun q=>h2 (h.symm.trans q)]
    · rw [if_neg h]
      unfold look
      rw [look_put x y v l]
      by_cases h2:a=y
      · rw [if_pos h2,if_neg fun q=>h (h2.trans q.symm),if_pos h2]
      · rw [if_neg h2,if_neg h2]
section
variable {c:Cx} {r:Nat} {env:Env} {A:Around} {σ σ':St} {g:Gh} {s:Shared} {E:Value→Shared→Prop} {Q:Value→Shared→Prop} {v:Mine.V}

structure Keep (env:Env) (D:Addr→Prop) (h h':Heap):Prop where
  k:∀ b p,¬ D b→b ≠ env.locals→h.get? b=some p→h'.get? b=some p
  ns:∀ m,h.Ns env.locals m→h'.Ns env.locals m
theorem Keep.of {D:Addr→Prop} {h h':Heap} (hs:∀ b p,¬ D b→h.get? b=some p→h'.get? b=some p) (hd:¬ D env.locals):Keep env D h h':=⟨fun b p z _=>hs b p z,fun m hm=>hm.at fun p e=>hs _ _ hd e⟩
theorem Keep.grown {D:Addr→Prop} {h h':Heap} (hs:∀ b p,h.get? b=some p→h'.get? b=some p):Keep env D h h':=⟨fun b p _ _=>hs b p,fun m hm=>hm.at fun p e=>hs _ _ e⟩
theorem Keep.of_ns {D:Addr→Prop} {h h':Heap} {m:Str→Option Value} (hs:∀ b p,¬ D b→b ≠ env.locals→h.get? b=some p→h'.get? b=some p) (h1:h.Ns env.locals m) (h2:h'.Ns env.locals m):Keep env D h h':=
  ⟨hs,fun m' hm=>(funext fun n=>hm.agree h1 n:m'=m)▸h2⟩
theorem Keep.alive {D:Addr→Prop} {h h':Heap} (K:Keep env D h h') {m:Str→Option Value} (hm:h.Ns env.locals m) (hD:∀ a,D a→∃ p,h'.get? a=some p) (a:Addr) (e:∃ p,h.get? a=some p):∃ p,h'.get? a=some p:=
  e.elim fun p z=>Classical.byCases (fun d:D a=>hD a d) fun d=>Classical.byCases (fun q:a=env.locals=>let ⟨p,_,_,z,_⟩:=K.ns m hm; ⟨p,q▸z⟩) fun q=>⟨p,K.k _ _ d q z⟩
theorem Rel0.setOb {h h':Heap} (R:Rel0 c env g σ h) {id:Id} {ob':Ob} {q o:Addr} (hc:g.cs id=some (q,o)) (K:Keep env (·=o) h h') (he:∃ p,h'.get? o=some p)
    (hob:(∀ a p,Fz env g h a p→Fz env g h' a p)→ObR c env g h' ob' q o):Rel0 c env g (σ.setOb id ob') h':=by
  have hW:=R.cW _ _ _ hc
  have kF:∀ a p,Fz env g h a p→Fz env g h' a p:=fun a p z=>⟨K.k _ _ (fun e=>z.2.1 (e▸hW)) (fun e=>z.2.2.2 e) z.1,z.2⟩
  obtain ⟨m,hm,hl⟩:=R.loc
  have al:=K.alive hm fun a e=>e▸he
  refine ⟨fun a o e=>kF _ _ (R.kin a o e),fun a e=>al a (R.wob a e),fun a e=>al a (R.xob a e),fun a e=>al a (R.fob a e),R.dis,⟨m,K.ns m hm,hl.mono kF fun _ _ z=>z⟩,fun id' ob e=>?_,R.cW,R.inj,R.nx,R.ps⟩
  rw [St.setOb,look_put] at e
  by_cases hid:id=id'
  · rw [if_pos hid] at e
    cases e
    exact ⟨q,o,hid▸hc,hob kF⟩
  · rw [if_neg hid] at e
    exact (R.obs id' ob e).imp fun r'=>Exists.imp fun o' z=>⟨z.1,z.2.mono kF (fun _ _ z=>z) fun p=>K.k _ _ (fun e2=>hid (R.inj id id' q o r' hc (e2▸z.1))) fun e=>(R.dis _ (R.cW _ _ _ z.1)).2 e⟩
theorem Ext.setOb {s':Shared} {o:Addr} (hW:g.W o) (K:Keep env (·=o) s.heap s'.heap) (hg:gos s'=gos s):Ext env g g s s':=
  ⟨fun a p h hw hf=>⟨K.k _ _ (fun e=>hw (e▸hW)) (fun e=>hf e) h,hw⟩,fun _ _ h=>h,rfl,hg⟩

theorem liveList {id:Id} {l:List Mine.V} {a:Addr} (R:Rel c env g σ s) (ho:look σ.hp id=some (.list l)) (ha:g.rho id=some a) :
    ∃ items n,g.cs id=some (a,a)∧IsL s.heap a items n∧Vxs c env g s l items.toList:=by
  obtain ⟨o,hc,rfl,items,n,hi,hv⟩:=rho_of R ho ha
  exact ⟨items,n,hc,hi,hv⟩
theorem seqNext {id:Id} {l':List Mine.V} {a:Addr} {items:Array Value} {n:Nat} {f:Array Value→Array Value} (R:Rel c env g σ s) (hc:g.cs id=some (a,a)) (hi:IsL s.heap a items n)
    (hv:Vxs c env g s l' (f items).toList) :
    Rel c env g (σ.setOb id (.list l')) { s with heap:=s.heap.update a (Obj.mapSeq f) }∧Ext env g g s { s with heap:=s.heap.update a (Obj.mapSeq f) }:=by
  have hi':IsL (s.heap.update a (Obj.mapSeq f)) a (f items) (if (f items).size == items.size then n else n + 1):=Heap.get?_update_self (Obj.mapSeq f) hi rfl
  have K:Keep env (·=a) s.heap (s.heap.update a (Obj.mapSeq f)):=.of (fun b p e h=>(Heap.get?_update_other _ _ (Ne.symm e)).trans h) fun e=>(R.dis a (R.cW _ _ _ hc)).2 e.symm
  exact ⟨⟨R.toRel0.setOb hc K ⟨_,hi'⟩ fun k=>⟨rfl,f items,_,hi',hv.mono k fun _ _ z=>z⟩,R.pos⟩,Ext.setOb (R.cW _ _ _ hc) K rfl⟩

noncomputable def biId:BI→String
  | .len=>"len" | .ord=>"ord" | .chr=>"chr" | .sum=>"sum" | .max=>"max" | .range=>"range"
noncomputable def isBi (c:Cx) (x:Str) (v:Value):Bool:=(nsIn c.K mainGlobals x == some none) && biTab.any fun p=>p.1 == x && p.2 == v
theorem loadGlobal_bi (O:c.Ok) (VV:EnvOk env) {x:Str} {v:Value} (h:isBi c x v=true) (R:Rel c env g σ s) (hq:Q v s):wpAny c.M A (loadGlobal env x) Q E s:=bA h fun h1 h=>by
  obtain ⟨p,hp,h⟩:=List.any_eq_true.mp h
  refine bA h fun h2 h3=>?_
  have e1:nsIn c.K env.globals x=some none:=VV.glob▸bE h1
  have e2:nsIn c.K env.builtins x=some (some v):=by rw [VV.blt,← bE h2,← bE h3]; exact O.bi p hp
  unfold loadGlobal
  refine wpAny_bind ((looks_nsIn R.kinD e1).here ?_)
  exact wpAny_bind ((looks_nsIn R.kinD e2).here (wpAny_pure hq))
theorem fst_plain {l:List Expr} {env:Env}:(l.map fun e=>(false,eval e env)).any (·.1)=false:=by
  rw [List.any_map,List.any_eq_false]
  exact fun x _ h=>ff h

noncomputable def ArgsOp (c:Cx) (env:Env) (op:List Value→Sem Value) (f:St→List Mine.V→Option Mine.V):Prop:=
  ∀ ⦃A:Around⦄ ⦃σ:St⦄ ⦃a:List Mine.V⦄ ⦃v:Mine.V⦄ ⦃g:Gh⦄ ⦃s:Shared⦄ ⦃x:List Value⦄ ⦃E:Value→Shared→Prop⦄ ⦃Q:Value→Shared→Prop⦄,
    f σ a=some v→Rel c env g σ s→Vxs c env g s a x→Nxt c env g s v σ Q→wpAny c.M A (op x) Q E s
theorem ev_bi (O:c.Ok) (VV:EnvOk env) {x:Str} {es:List Expr} {C:Ora} {mes:List ME} {b:BI} {np pos} (hs:es.all noStar=true) (hk:env.kindOf x=some .globalImplicit) (hx:(x == ("__debug__":Str))=false)
    (hd:isBi c x (.builtin (biId b))=true) (hop:ArgsOp c env (fun xs=>call (.builtin (biId b)) xs []) (fun σ=>biV σ b)) (H2:EvsOk c r env es (evs C mes)) :
    EvOk c r env (.Call (.Name x np) es [] pos) (ev C (.bi b mes)):=fun _ _ _ _ _ _ _ _ hr hf R N=>bnE hf fun vs σ₁ h1 h=>boE h fun w h3 h4=>by
  rw [arm_eval_Call_Name',starEach_args hs]
  exact wpAny_bind (Name_function_global VV.kind hk (loadGlobal_bi O VV hd R (callWith_builtin fst_plain (evalArgs_c (H2 hr h1 R fun xs s₁ g₁ R₁ X₁ E₁=>hop h3 R₁ X₁ ((N.of h4).trans E₁))))) hx)

theorem oneVE {β:Type} {rr:β} {l:List Mine.V} {f:Mine.V→Option β} {P:List Mine.V→Prop} (h:bo (one? l) f=some rr) (k:∀ v,f v=some rr→P [v]):P l:=by
  match l,h with
  | [],h=>exact nn h
  | [v],h=>exact k v h
  | _ :: _ :: _,h=>exact nn h
theorem len_list {a:Mine.V} {x:Value} (hf:(onListOf σ a fun l=>bd l.length (some (V.int l.length)))=some v) (R:Rel c env g σ s) (hx:Vx c env g s a x) (N:Nxt c env g s v σ Q):wpAny c.M A (call (.builtin "len") [x] []) Q E s:=
  listOfE (P:=fun x=>wpAny c.M A (call (.builtin "len") [x] []) Q E s) R hf hx fun l a1 i1 n1 h hi1 hv1=>bdE h fun hb e=>by
    cases e
    have hz:=size_of hv1
    exact call_len_list hi1.isList (by rw [hz]; exact fit_of hb) (by rw [hz]; exact N.toks R (.int _ _))
theorem len_ok:ArgsOp c env (fun xs=>call (.builtin "len") xs []) (fun σ=>biV σ .len):=fun A σ l v g s xs E Q hf R X N =>
  oneVE (P:=fun l=>Vxs c env g s l xs→_) hf (fun a h X=>X.oneE fun x X=>by
    cases a with
    | str z=>exact bdE h fun hb e=>by cases e; exact X.strE fun t=>P.len_str (Int.not_le.mpr (fitS hb)) ((toS_len z).symm▸N.toks R (.int _ _))
    | list l=>exact len_list (σ:=σ) (a:=.list l) h R X N
    | obj i=>exact len_list (σ:=σ) (a:=.obj i) h R X N
    | _=>exact nn h) X
theorem ord_ok:ArgsOp c env (fun xs=>call (.builtin "ord") xs []) (fun σ=>biV σ .ord):=fun A σ l v g s xs E Q hf R X N =>
  oneVE (P:=fun l=>Vxs c env g s l xs→_) hf (fun a h X=>X.oneE fun x X=>chrQE (P:=fun a=>Vx c env g s a x→_) h (fun d e X=>by cases e; exact X.strE fun t=>P.ord_of_char (N.toks R (.int _ _))) X) X
theorem chr_ok:ArgsOp c env (fun xs=>call (.builtin "chr") xs []) (fun σ=>biV σ .chr):=fun A σ l v g s xs E Q hf R X N =>
  oneVE (P:=fun l=>Vxs c env g s l xs→_) hf (fun a h X=>X.oneE fun x X=>onIntE (P:=fun a=>Vx c env g s a x→_) h (fun d h X=>gdE h fun h e=>bA h fun h1 h2=>by
    cases e
    exact X.intE fun t=>P.chr_of_int (by rw [decide_eq_false (Int.not_lt.mpr (of_decide_eq_true h1)),decide_eq_false (Int.not_lt.mpr (Int.le_of_lt_add_one (of_decide_eq_true h2)))]; rfl) (N.toks R (.str [_] _))) X) X

noncomputable def smName:SM→Str
  | .find=>"find" | .rfind=>"rfind" | .count=>"count" | .replace=>"replace" | .lower=>"lower" | .join=>"join" | .startswith=>"startswith"
noncomputable def smId:SM→String
  | .find=>"str.find" | .rfind=>"str.rfind" | .count=>"str.count" | .replace=>"str.replace" | .lower=>"str.lower" | .join=>"str.join" | .startswith=>"str.startswith"
theorem getMethod_sm {m:SM} {x:Str} {t:Tok} {pl:Sem Bool} {Q:Value × List Value→Shared→Prop} (h:Q (.builtin (smId m),[.str x t]) s):wpAny c.M A (getMethod (.str x t) (smName m) pl) Q E s:=by
  cases m
  · exact GM.find h
  · exact GM.rfind h
  · exact GM.count h
  · exact GM.replace h
  · exact GM.lower h
  · exact GM.join h
  · exact GM.startswith h
theorem ev_sm {e:Expr} {es:List Expr} {C:Ora} {me:ME} {mes:List ME} {m:SM} {apos pos} (hc:noCall e=true) (hs:es.all noStar=true) (hl:(apos.endLine == pos.line)=true) (hlen:es.length < 25)
    (hop:∀ (z:List Nat) (t:Tok),ArgsOp c env (fun xs=>call (.builtin (smId m)) (.str (toS z) t :: xs) []) (fun σ=>smV σ m z)) (H:EvOk c r env e (ev C me)) (H2:EvsOk c r env es (evs C mes)) :
    EvOk c r env (.Call (.Attribute e (smName m) apos) es [] pos) (ev C (.sm m me mes)):=fun _ _ _ _ _ _ _ _ hr hf R N=>bnE hf fun v σ₁ h1 h =>
  Call_attr hc hs hl hlen (H hr h1 R fun x s₁ g₁ R₁ X₁ E₁ pl=>onStrE (P:=fun v=>Vx c env g₁ s₁ v x→_) h (fun z h X₁=>bnE h fun vs σ₂ h3 h=>boE h fun w h5 h6=>X₁.strE fun t =>
    getMethod_sm (callWith_builtin fst_plain (evalArgs_c (H2 hr h3 R₁ fun xs s₂ g₂ R₂ X₂ E₂=>hop z t h5 R₂ X₂ ((N.of h6).trans (E₁.trans E₂)))))) X₁)
end
end Mine
end
noncomputable section
open PySem PySem.Calls PyProof.Rows PySem.W
namespace Mine
open PySem.Builtin PySem.Builtin.Str in
theorem from_of {n:Nat} {i:Int} (hi:¬ i < 0):fromIndex n i=i.toNat:=by unfold fromIndex; rw [if_neg hi,Int.max_eq_right (Int.not_lt.mp hi)]
open PySem.Builtin PySem.Builtin.Str in
theorem gives_str_rfind4 (x y:Str) (i j:Int) (t u v w:Tok) (hi:¬ i < 0) (hj:¬ j < 0):Gives («str.rfind» ⟨[.str x t,.str y u,.int i v,.int j w],[]⟩) (.int (match lastOccurrence x y i.toNat (min j.toNat x.length) with | some k=>(k:Int) | none=>-1)):=by
  rw [← from_of (n:=x.length) hi,← from_of (n:=x.length) hj]
  show Gives (match lastOccurrence x y (fromIndex x.length i) (min (fromIndex x.length j) x.length) with | some k=>retInt k | none=>(do rule "str.rfind.not-found"; retInt (-1))) _
  cases lastOccurrence x y (fromIndex x.length i) (min (fromIndex x.length j) x.length) with
  | none=>exact .rule (.of_eq rfl)
  | some k=>exact .of_eq rfl
open PySem.Builtin PySem.Builtin.Str in
theorem gives_str_count4 (x y:Str) (i j:Int) (t u v w:Tok) (hi:¬ i < 0) (hj:¬ j < 0):Gives («str.count» ⟨[.str x t,.str y u,.int i v,.int j w],[]⟩) (.int (occurrences x y i.toNat (min j.toNat x.length) (x.length + 1)).length):=by
  rw [← from_of (n:=x.length) hi,← from_of (n:=x.length) hj]
  exact .of_eq rfl
section
variable {c:Cx} {r:Nat} {env:Env} {A:Around} {σ σ':St} {g:Gh} {s:Shared} {E:Value→Shared→Prop} {Q:Value→Shared→Prop} {v:Mine.V}

theorem sm_find (z:List Nat) (t:Tok):ArgsOp c env (fun xs=>call (.builtin (smId .find)) (.str (toS z) t :: xs) []) (fun σ=>smV σ .find z):=fun A σ l v g s xs E Q hf R X N=>by
  match l,hf,X with
  | [],hf,_=>exact nn hf
  | [a],hf,X =>
    exact X.oneE fun x X=>onStrE (P:=fun a=>Vx c env g s a x→_) (show onStr a (fun y=>some (V.int (findFrom y z 0)))=some v from hf) (fun y h X=>by cases h; exact X.strE fun u=>SC.find (find_eq z y▸N.toks R (.int _ _))) X
  | [a,b],hf,X =>
    exact X.twoE fun x y X Y=>onStrE (P:=fun a=>Vx c env g s a x→_) (show onStr a (fun y=>onInt b fun i=>gd (decide (0≤i) && decide (i≤z.length)) (some (V.int (findFrom y (z.drop i.toNat) i.toNat))))=some v from hf)
      (fun w h X=>onIntE (P:=fun b=>Vx c env g s b y→_) h (fun i h Y=>gdE h fun h e=>bA h fun h1 h2=>by
        cases e
        exact X.strE (P:=fun x=>wpAny c.M A (call (.builtin (smId .find)) [.str (toS z) t,x,y] []) Q E s) fun u=>Y.intE (P:=fun y=>wpAny c.M A (call (.builtin (smId .find)) [.str (toS z) t,_,y] []) Q E s) fun u'=>SC.find3 (find3_eq (of_decide_eq_true h1) (of_decide_eq_true h2)▸N.toks R (.int _ _))) Y) X
  | _ :: _ :: _ :: _,hf,_=>exact nn hf
theorem sm_startswith (z:List Nat) (t:Tok):ArgsOp c env (fun xs=>call (.builtin (smId .startswith)) (.str (toS z) t :: xs) []) (fun σ=>smV σ .startswith z):=fun A σ l v g s xs E Q hf R X N =>
  oneVE (P:=fun l=>Vxs c env g s l xs→_) hf (fun a h X=>X.oneE fun x X=>onStrE (P:=fun a=>Vx c env g s a x→_) h (fun y h X=>by cases h; exact X.strE fun u=>SC.startswith (startswith_eq z y▸N.same R (.bool _))) X) X
theorem three_at {z:List Nat} {l:List Mine.V} {xs:List Value} {p:Nat × Int} {F ρ} (h:three? z l=some p) (X:VRs c F ρ l xs):(∃ t u w,xs=[.str (toS [p.1]) t,.int 0 u,.int p.2 w])∧0≤p.2∧p.2≤z.length:=by
  match l,h,X with
  | [],h,_=>exact nn h
  | [_],h,_=>exact nn h
  | [_,_],h,_=>exact nn h
  | _ :: _ :: _ :: _ :: _,h,_=>exact nn h
  | [a,b,d],h,X =>
    exact chrQE (P:=fun a=>VRs c F ρ [a,b,d] xs→_) h (fun k h=>onIntE (P:=fun b=>VRs c F ρ [.str [k],b,d] xs→_) h fun lo h=>onIntE (P:=fun d=>VRs c F ρ [.str [k],.int lo,d] xs→_) h fun hi h=>gdE h fun h e X=>bA h fun h1 h=>bA h fun h2 h3=>by
      cases e
      cases of_decide_eq_true h1
      refine ⟨X.consE fun x xs a b=>a.strE (P:=fun x=>∃ t u w,x :: xs=[Value.str (toS [k]) t,.int 0 u,.int hi w]) fun t=>b.twoE (P:=fun xs=>∃ t' u w,Value.str (toS [k]) t :: xs=[Value.str (toS [k]) t',.int 0 u,.int hi w]) fun y y' b1 b2=>b1.intE (P:=fun y=>∃ t' u w,[Value.str (toS [k]) t,y,y']=[Value.str (toS [k]) t',.int 0 u,.int hi w]) fun u=>b2.intE (P:=fun y'=>∃ t' u' w,[Value.str (toS [k]) t,.int 0 u,y']=[Value.str (toS [k]) t',.int 0 u',.int hi w]) fun w=>⟨t,u,w,rfl⟩,of_decide_eq_true h2,of_decide_eq_true h3⟩) X
theorem sm_rfind (z:List Nat) (t:Tok):ArgsOp c env (fun xs=>call (.builtin (smId .rfind)) (.str (toS z) t :: xs) []) (fun σ=>smV σ .rfind z):=fun A σ l v g s xs E Q hf R X N=>boE hf fun p h e=>by
  obtain ⟨⟨t1,t2,t3,rfl⟩,h1,h2⟩:=three_at h X
  cases e
  refine call_gives F.slot_str_rfind (typeIs_str _ _ _) F.entry_str_rfind (F.args_str_rfind_4 _ _ _ _) (gives_str_rfind4 _ _ _ _ _ _ _ _ (Int.not_lt.mpr (Int.le_refl 0)) (Int.not_lt.mpr h1)) ?_
  have h3:p.2.toNat≤z.length:=Int.toNat_le.mpr h2
  have e:(match Builtin.Str.lastOccurrence (toS z) (toS [p.1]) 0 p.2.toNat with | some k=>(k:Int) | none=>-1)=rfindC p.1 (z.take p.2.toNat) 0 (-1):=last_list h3
  rw [toS_len,Nat.min_eq_left h3,Int.toNat_zero,e]
  exact N.toks R (.int _ _)
theorem sm_count (z:List Nat) (t:Tok):ArgsOp c env (fun xs=>call (.builtin (smId .count)) (.str (toS z) t :: xs) []) (fun σ=>smV σ .count z):=fun A σ l v g s xs E Q hf R X N=>boE hf fun p h e=>by
  obtain ⟨⟨t1,t2,t3,rfl⟩,h1,h2⟩:=three_at h X
  cases e
  refine call_gives F.slot_str_count (typeIs_str _ _ _) F.entry_str_count (F.args_str_count_4 _ _ _ _) (gives_str_count4 _ _ _ _ _ _ _ _ (Int.not_lt.mpr (Int.le_refl 0)) (Int.not_lt.mpr h1)) ?_
  have h3:p.2.toNat≤z.length:=Int.toNat_le.mpr h2
  rw [toS_len,Nat.min_eq_left h3,Int.toNat_zero,occ_list h3 (Nat.zero_le _),List.drop_zero,count_list _ _ _ (Nat.lt_succ_of_le (List.length_take_le _ _ |> fun q=>Nat.le_trans q h3))]
  exact N.toks R (.int _ _)
theorem strs_list {F ρ}:∀ {l:List Mine.V} {ys:List (List Nat)} {xs:List Value},strsOf? l=some ys→VRs c F ρ l xs→∃ ps:List (Str × Tok),xs=strValues ps∧ps.map (·.1)=ys.map toS
  | [],_,_,h,hv=>by cases h; exact hv.nilE ⟨[],rfl,rfl⟩
  | _ :: _,ys,xs,h,hv=>hv.consE (P:=fun xs=>∃ ps:List (Str × Tok),xs=strValues ps∧ps.map (·.1)=ys.map toS) fun y xs hw hv=>strQE (P:=fun v=>VR c F ρ v y→∃ ps:List (Str × Tok),y :: xs=strValues ps∧ps.map (·.1)=ys.map toS) h (fun z h hw=>boE h fun zs h1 h2=>by
      cases h2
      obtain ⟨ps,rfl,e⟩:=strs_list h1 hv
      exact hw.strE (P:=fun y=>∃ ps':List (Str × Tok),y :: strValues ps=strValues ps'∧ps'.map (·.1)=(z :: zs).map toS) fun t=>⟨(toS z,t) :: ps,rfl,congrArg (toS z :: ·) e⟩) hw
theorem joinFits' {b:List Nat} {ys:List (List Nat)} (h:(ys.map (·.length)).sum + ys.length * b.length≤sizeLine):JoinOk (toS b) (ys.map toS)=true:=by
  unfold JoinOk
  rw [StrLaws.joinTotal,toS_len,List.length_map,List.map_map,show ((fun x:Str=>x.length) ∘ toS)=fun x=>x.length from funext toS_len]
  unfold Builtin.Str.tooLong
  rw [decide_eq_false]; · rfl
  exact Nat.not_lt.mpr h
theorem join_sm (z:List Nat) (t:Tok):ArgsOp c env (fun xs=>call (.builtin (smId .join)) (.str (toS z) t :: xs) []) (fun σ=>smV σ .join z):=fun A σ l v g s xs E Q hf R X N =>
  oneVE (P:=fun l=>Vxs c env g s l xs→_) hf (fun a h X=>X.oneE fun x X=>listOfE (P:=fun x=>wpAny c.M A (call (.builtin (smId .join)) [.str (toS z) t,x] []) Q E s) R h X fun l a1 i1 n1 h hi1 hv1=>boE h fun ys hys h=>bdE h fun hb e=>by
    cases e
    obtain ⟨ps,e1,e2⟩:=strs_list hys hv1
    have hi:=hi1.isList
    rw [show i1=(strValues ps).toArray from e1▸rfl] at hi
    refine wpAny_toks R.pos (SC.join hi e2 (joinFits' hb) fun t' k ht=>?_)
    have e:Txt.join (toS z) (ys.map toS)=toS (joinL z ys):=(StrLaws.glued_eq_join _ _).trans (join_list z ys)
    rw [e]
    exact N.toks R (.str _ _) ht) X

theorem sm_lower (z:List Nat) (t:Tok):ArgsOp c env (fun xs=>call (.builtin (smId .lower)) (.str (toS z) t :: xs) []) (fun σ=>smV σ .lower z):=fun A σ l v g s xs E Q hf R X N=>by
  cases l with
  | cons _ _=>exact nn hf
  | nil =>
    refine gdE hf fun h e=>bA h fun h1 h2=>?_
    cases e
    refine X.nilE (P:=fun xs=>wpAny c.M A (call (.builtin (smId .lower)) (.str (toS z) t :: xs) []) Q E s) (SCL.lower (by rw [toS_len]; exact Nat.le_of_ble_eq_true h2) fun _=>?_)
    have hA:∀ a ∈ z,a < 128:=fun a ha=>Nat.le_of_ble_eq_true (List.all_eq_true.mp h1 a ha)
    have e:Txt.lower (toS z)=toS (z.map lowC):=(lower_ascii (x:=toS z) (by rw [show (toS z).cps.toList=z from rfl]; exact hA)).trans (congrArg Str.mk (List.map_toArray ..))
    rw [e]
    exact N.toks R (.str _ _)
theorem ev_repl {e:Expr} {C:Ora} {me:ME} {a b:List Nat} {k1 k2 p1 p2 apos pos} (hc:noCall e=true) (hl:(apos.endLine == pos.line)=true) (H:EvOk c r env e (ev C me)) :
    EvOk c r env (.Call (.Attribute e (smName .replace) apos) [.Constant (.str (toS a)) k1 p1,.Constant (.str (toS b)) k2 p2] [] pos) (ev C (.sm .replace me [.k (.str a),.k (.str b)])):=fun _ _ _ _ _ _ _ _ hr hf R N=>bnE hf fun v σ₁ h1 h =>
  Call_attr hc rfl hl (by decide:2 < 25) (H hr h1 R fun x s₁ g₁ R₁ X₁ E₁ pl=>onStrE (P:=fun v=>Vx c env g₁ s₁ v x→_) h (fun z h X₁=>boE (show bo (gd (!a.isEmpty && (Nat.ble (z.length + (z.length + 1) * b.length) 16777216 && !(a == b))) (some (V.str (repl a b (z.length + 1) z)))) (fun w=>some (w,σ₁))=some _ from h) fun w h5 h6=>gdE h5 fun h e=>bA h fun q1 h=>bA h fun q2 q3=>X₁.strE fun t=>by
    cases e
    have R':Rel c env g₁ σ₁ { s₁ with toks:=s₁.toks + 1 + 1 }:=R₁.toks
    have hp:=R₁.pos
    refine getMethod_sm (callWith_builtin rfl (evalArgs_c (spliced_cons (Constant_str (spliced_cons (Constant_str (spliced_nil (wpAny_toks R'.pos (SC.replace (Nat.ne_of_gt hp) (Nat.succ_ne_zero _) (Nat.ne_of_lt (Nat.lt_succ_self _)) (by rw [toS_eq]; exact notT q3) (by rw [toS_len,toS_len]; exact Nat.le_of_ble_eq_true q2) fun t' k ht=>?_)))))))))
    rw [replace_eq (notT q1)]
    exact Nxt.toks (((N.of h6).trans E₁).trans .toks) R' (.str _ _) ht) X₁)
end
end Mine
end
noncomputable section
open PySem PySem.Calls PyProof.Rows PySem.W
namespace Mine
noncomputable def TstOk (c:Cx) (r:Nat) (env:Env) (e:Expr) (f:St→Option (Bool × St)):Prop:=
  ∀ ⦃A:Around⦄ ⦃σ:St⦄ ⦃b:Bool⦄ ⦃σ':St⦄ ⦃g:Gh⦄ ⦃s:Shared⦄ ⦃E:Value→Shared→Prop⦄ ⦃Q:Bool→Shared→Prop⦄,
    Room A r→f σ=some (b,σ')→Rel c env g σ s→NxtB c env g s σ' (Q b)→wpAny c.M A (PySem.isTrue e env (eval e env)) Q E s
noncomputable def notOp:UnaryOp→Bool | .Not=>false | _=>true
noncomputable def plainT (e:Expr):Bool:=(ctt fun h=>Expr.UnaryOp.elim (motive_1:=fun _=>Bool) e h fun o _ _=>notOp o) && ((ctt fun h=>Expr.BoolOp.elim (motive_1:=fun _=>Bool) e h fun _ _ _=>false) && ((ctt fun h=>Expr.IfExp.elim (motive_1:=fun _=>Bool) e h fun _ _ _ _=>false) && ctt fun h=>Expr.Compare.elim (motive_1:=fun _=>Bool) e h fun _ _ _ _=>false))
theorem isTrue_plainT {e:Expr} (h:plainT e=true) (env:Env) (m:Sem Value):PySem.isTrue e env m=(do let v ← m; standAt e.pos; holding [v] (PySem.truthy v)):=by
  cases e with
  | UnaryOp op x p=>cases op <;> first | rfl | exact ff h
  | BoolOp _ _ _=>exact ff h
  | IfExp _ _ _ _=>exact ff h
  | Compare _ _ _ _=>exact ff h
  | _=>rfl
section
variable {c:Cx} {r:Nat} {env:Env} {A:Around} {σ σ' σ₁:St} {g:Gh} {s:Shared} {E:Value→Shared→Prop} {Q:Value→Shared→Prop} {v:Mine.V}
variable {e e' l m rr t o:Expr} {es:List Expr} {C:Ora} {me ma mb ml mm mr mt mo:ME} {o₁ o₂:Cmp} {pos:Pos}

theorem tst_plain (hp:plainT e=true) (H:EvOk c r env e (ev C me)):TstOk c r env e (tst C me):=fun _ _ _ _ _ _ _ _ hr hf R N=>bnE hf fun v σ₁ h1 h=>boE h fun b h3 h4=>by
  rw [isTrue_plainT hp]
  exact wpAny_bind (wpAny_mono (H hr h1 R fun x s₁ g₁ R₁ X₁ E₁=>wpAny_bind (wpAny_standAt (wpAny_holding (truth_ok h3 R₁ X₁ ((N.of (P:=_) h4).trans E₁))))) (fun x s₁ h=>h) fun _ _ x=>x)
theorem tst_of {b:Bool} (h1:ev C me σ=some (v,σ₁)) (h2:Mine.truthy σ₁ v=some b):tst C me σ=some (b,σ₁):=by unfold tst; rw [h1]; show bo (Mine.truthy σ₁ v) _=_; rw [h2]; rfl
theorem tst_not (H:TstOk c r env e (tst C me)):TstOk c r env (.UnaryOp .Not e pos) (tst C (.not me)):=fun _ _ _ _ _ _ _ _ hr hf R N=>bnE hf fun v σ₁ h1 h=>boE h fun b h3 h4=>bnE (show bn (ev C me _) (fun v σ₁=>bo (Mine.truthy σ₁ v) fun b=>some (V.bool (!b),σ₁))=some (v,σ₁) from h1) fun w σ₂ h5 h6=>boE h6 fun b' h7 h8=>by
  cases h8
  cases h3
  exact isTrue_not (H hr (tst_of h5 h7) R fun s' g' R' E'=>N.of (P:=_) h4 s' g' R' E')
theorem tst_and (H:TstOk c r env e (tst C ma)) (H2:TstOk c r env (.BoolOp .And es pos) (tst C mb)):TstOk c r env (.BoolOp .And (e :: es) pos) (tst C (.and ma mb)):=fun _ σ _ _ _ _ _ _ hr hf R N=>bnE hf fun v σ₁ h1 h=>boE h fun b h3 h4 =>
  bnE (show bn (ev C ma σ) (fun v σ₁=>bo (Mine.truthy σ₁ v) fun c=>match c with | false=>some (v,σ₁) | true=>ev C mb σ₁)=some (v,σ₁) from h1) fun w σ₂ h5 h6=>boE h6 fun b' h7 h8=>isTrue_and (H hr (tst_of h5 h7) R fun s' g' R' E'=>by
    cases b' with
    | false=>cases h8; cases h7.symm.trans h3; exact N.of (P:=_) h4 s' g' R' E'
    | true=>exact H2 hr (tst_of h8 h3) R' ((N.of (P:=_) h4).trans E'))
theorem tst_or (H:TstOk c r env e (tst C ma)) (H2:TstOk c r env (.BoolOp .Or es pos) (tst C mb)):TstOk c r env (.BoolOp .Or (e :: es) pos) (tst C (.or ma mb)):=fun _ σ _ _ _ _ _ _ hr hf R N=>bnE hf fun v σ₁ h1 h=>boE h fun b h3 h4 =>
  bnE (show bn (ev C ma σ) (fun v σ₁=>bo (Mine.truthy σ₁ v) fun c=>match c with | true=>some (v,σ₁) | false=>ev C mb σ₁)=some (v,σ₁) from h1) fun w σ₂ h5 h6=>boE h6 fun b' h7 h8=>isTrue_or (H hr (tst_of h5 h7) R fun s' g' R' E'=>by
    cases b' with
    | true=>cases h8; cases h7.symm.trans h3; exact N.of (P:=_) h4 s' g' R' E'
    | false=>exact H2 hr (tst_of h8 h3) R' ((N.of (P:=_) h4).trans E'))
theorem tst_last {op:BoolOp} (H:TstOk c r env e (tst C ma)):TstOk c r env (.BoolOp op [e] pos) (tst C ma):=fun _ _ b _ _ _ _ _ hr hf R N=>by
  cases op with
  | And=>exact wpAny_isTrue_BoolOp (wpAny_allTrue_And_cons (H hr hf R fun s' g' R' E'=>by
      have n:=N s' g' R' E'
      cases b
      · exact n
      · exact wpAny_allTrue_And_nil n))
  | Or=>exact wpAny_isTrue_BoolOp (wpAny_allTrue_Or_cons (H hr hf R fun s' g' R' E'=>by
      have n:=N s' g' R' E'
      cases b
      · exact wpAny_allTrue_Or_nil n
      · exact n))
theorem tst_ite (H:TstOk c r env t (tst C mt)) (H2:TstOk c r env e (tst C me)) (H3:TstOk c r env o (tst C mo)):TstOk c r env (.IfExp t e o pos) (tst C (.ite mt me mo)):=fun _ σ _ _ _ _ _ _ hr hf R N=>bnE hf fun v σ₁ h1 h=>boE h fun b h3 h4 =>
  bnE (show bn (ev C mt σ) (fun v σ₁=>bo (Mine.truthy σ₁ v) fun c=>match c with | true=>ev C me σ₁ | false=>ev C mo σ₁)=some (v,σ₁) from h1) fun w σ₂ h5 h6=>boE h6 fun b' h7 h8=>isTrue_IfExp (H hr (tst_of h5 h7) R fun s' g' R' E'=>by
    cases b' with
    | true=>exact H2 hr (tst_of h8 h3) R' ((N.of (P:=_) h4).trans E')
    | false=>exact H3 hr (tst_of h8 h3) R' ((N.of (P:=_) h4).trans E'))

theorem marked (hm:behindInMarks (opOf o₁) rr=false) (m:Sem Value):markedBehindIn (opOf o₁) rr m=m:=by unfold markedBehindIn; rw [hm]
theorem ev_cmp (hm:behindInMarks (opOf o₁) rr=false) (H:EvOk c r env l (ev C ml)) (H2:EvOk c r env rr (ev C mr)):EvOk c r env (.Compare l [opOf o₁] [rr] pos) (ev C (.cmp o₁ ml mr)):=fun _ _ _ _ _ _ _ _ hr hf R N=>bnE hf fun a σ₁ h1 h=>bnE h fun b σ₂ h3 h=>boE h fun q h5 h6=>by
  rw [arm_eval_Compare]
  refine wpAny_bind (H hr h1 R fun x s₁ g₁ R₁ X₁ E₁=>?_)
  show wpAny _ _ (compareChain pos x [opOf o₁] [markedBehindIn (opOf o₁) rr (eval rr env)]) _ _ _
  rw [marked hm]
  exact wpAny_bind (wpAny_holding (H2 hr h3 R₁ fun y s₂ g₂ R₂ X₂ E₂=>wpAny_bind (wpAny_standAt (wpAny_operating (cmp_ok hr h5 R₂ (X₁.ext E₂) X₂ (((N.of h6).trans (E₁.trans E₂)).same R₂ (.bool _)))))))
theorem tst_cmp (hm:behindInMarks (opOf o₁) rr=false) (H:EvOk c r env l (ev C ml)) (H2:EvOk c r env rr (ev C mr)):TstOk c r env (.Compare l [opOf o₁] [rr] pos) (tst C (.cmp o₁ ml mr)):=fun _ σ _ _ _ _ _ _ hr hf R N=>bnE hf fun v σ₃ h0 h=>boE h fun b0 k1 k2 =>
  bnE (show bn (ev C ml σ) (fun a σ₁=>bn (ev C mr σ₁) fun b σ₂=>bo (cmpV σ₂ o₁ a b) fun c=>some (V.bool c,σ₂))=some (v,σ₃) from h0) fun a σ₁ h1 h=>bnE h fun b σ₂ h3 h=>boE h fun q h5 h6=>by
    cases h6
    cases k1
    exact wpAny_isTrue_Compare1 (H hr h1 R fun x s₁ g₁ R₁ X₁ E₁=>H2 hr h3 R₁ fun y s₂ g₂ R₂ X₂ E₂=>cmp_ok hr h5 R₂ (X₁.ext E₂) X₂ (wpAny_truthy_bool (N.of (P:=_) k2 _ g₂ R₂ (E₁.trans E₂)))) hm

noncomputable def chain3 {α:Type} (env:Env) (m rr:Expr) (o₁ o₂:CmpOp) (pos:Pos) (x:Value) (last:Value→Value→Sem α) (no:Value→α):Sem α:=do
  let rv ← holding [x] (eval m env)
  standAt pos
  let c ← holding [x,rv] (compareOp o₁ x rv)
  release [x,rv] [c]
  if ← holding [c,rv] (PySem.truthy c) then (do
    let rw ← holding [rv] (eval rr env)
    standAt pos
    last rv rw) else pure (no c)
theorem chain3_ok {α:Type} {last:Value→Value→Sem α} {no:Value→α} {a:Mine.V} {x:Value} {w:Bool × St} {Q:α→Shared→Prop} (hr:Room A r) (H2:EvOk c r env m (ev C mm)) (H3:EvOk c r env rr (ev C mr)) (R:Rel c env g σ s) (X:Vx c env g s a x)
    (h:bn (ev C mm σ) (fun b σ₂=>bo (cmpV σ₂ o₁ a b) fun c=>match c with | false=>some (false,σ₂) | true=>bn (ev C mr σ₂) fun d σ₃=>bo (cmpV σ₃ o₂ b d) fun c=>some (c,σ₃))=some w)
    (k1:w.1=false→∀ s' g',Rel c env g' w.2 s'→Ext env g g' s s'→Q (no (.bool false)) s') (k2:∀ s' g' y z,Rel c env g' w.2 s'→Ext env g g' s s'→(∀ (Q:Value→Shared→Prop),Q (.bool w.1) s'→wpAny c.M A (compareOp (opOf o₂) y z) Q E s')→wpAny c.M A (last y z) Q E s') :
    wpAny c.M A (chain3 env m rr (opOf o₁) (opOf o₂) pos x last no) Q E s:=
  bnE h fun b σ₂ h3 h=>boE h fun q h5 h6=>wpAny_bind (wpAny_holding (H2 hr h3 R fun y s₂ g₂ R₂ X₂ E₂=>wpAny_bind (wpAny_standAt (wpAny_bind (wpAny_holding (cmp_ok hr h5 R₂ (X.ext E₂) X₂ (wpAny_bind (wpAny_release (wpAny_bind (wpAny_holding (wpAny_truthy_bool (by
    cases q with
    | false=>cases h6; exact wpAny_pure (k1 rfl _ _ R₂ E₂)
    | true =>
      exact bnE h6 fun d σ₃ h7 h8=>boE h8 fun q2 h9 h10=>by
        cases h10
        exact wpAny_bind (wpAny_holding (H3 hr h7 R₂ fun z s₃ g₃ R₃ X₃ E₃=>wpAny_bind (wpAny_standAt (k2 _ _ y z R₃ (E₂.trans E₃) fun Q hq=>cmp_ok hr h9 R₃ (X₂.ext E₃) X₃ hq))))))))))))))))
theorem cmp2_of {a:Mine.V} {w:Mine.V × St} (h:bn (ev C mm σ) (fun b σ₂=>bo (cmpV σ₂ o₁ a b) fun c=>match c with | false=>some (V.bool false,σ₂) | true=>bn (ev C mr σ₂) fun d σ₃=>bo (cmpV σ₃ o₂ b d) fun c=>some (V.bool c,σ₃))=some w) :
    ∃ q,w.1=.bool q∧bn (ev C mm σ) (fun b σ₂=>bo (cmpV σ₂ o₁ a b) fun c=>match c with | false=>some (false,σ₂) | true=>bn (ev C mr σ₂) fun d σ₃=>bo (cmpV σ₃ o₂ b d) fun c=>some (c,σ₃))=some (q,w.2):=
  bnE h fun b σ₂ h3 h=>boE h fun q h5 h6=>by
    rw [h3]
    show ∃ q',_∧bo (cmpV σ₂ o₁ a b) _=_
    rw [h5]
    cases q with
    | false=>cases h6; exact ⟨false,rfl,rfl⟩
    | true=>exact bnE h6 fun d σ₃ h7 h8=>boE h8 fun q2 h9 h10=>by
                cases h10
                refine ⟨q2,rfl,?_⟩
                show bn (ev C mr σ₂) _=_
                rw [h7]
                show bo (cmpV σ₃ o₂ b d) _=_
                rw [h9]; rfl
theorem ev_cmp2 (hm:behindInMarks (opOf o₂) rr=false) (H:EvOk c r env l (ev C ml)) (H2:EvOk c r env m (ev C mm)) (H3:EvOk c r env rr (ev C mr)):EvOk c r env (.Compare l [opOf o₁,opOf o₂] [m,rr] pos) (ev C (.cmp2 o₁ o₂ ml mm mr)):=fun _ _ _ _ _ _ _ _ hr hf R N=>bnE hf fun a σ₁ h1 h=>by
  obtain ⟨q,e,h⟩:=cmp2_of h
  cases e
  rw [arm_eval_Compare]
  refine wpAny_bind (H hr h1 R fun x s₁ g₁ R₁ X₁ E₁=>?_)
  show wpAny _ _ (compareChain pos x [opOf o₁,opOf o₂] [eval m env,markedBehindIn (opOf o₂) rr (eval rr env)]) _ _ _
  rw [marked hm]
  exact chain3_ok (last:=fun rv rw=>operate [rv,rw] (compareOp (opOf o₂) rv rw)) (no:=fun c=>c) hr H2 H3 R₁ X₁ h (fun e s' g' R' E'=>(N.trans (E₁.trans E')).same R' (by rw [show q=false from e]; exact .bool _)) fun s' g' y z R' E' k=>wpAny_operating (k _ ((N.trans (E₁.trans E')).same R' (.bool _)))
theorem tst_cmp2 (hm:behindInMarks (opOf o₂) rr=false) (H:EvOk c r env l (ev C ml)) (H2:EvOk c r env m (ev C mm)) (H3:EvOk c r env rr (ev C mr)):TstOk c r env (.Compare l [opOf o₁,opOf o₂] [m,rr] pos) (tst C (.cmp2 o₁ o₂ ml mm mr)):=fun _ σ b _ _ _ _ _ hr hf R N=>bnE hf fun v σ₃ h0 h=>boE h fun b0 k1 k2 =>
  bnE (show bn (ev C ml σ) _=some (v,σ₃) from h0) fun a σ₁ h1 h=>by
    obtain ⟨q,e,h⟩:=cmp2_of h
    cases e
    cases k1
    cases k2
    show wpAny _ _ (do testChain pos (← eval l env) [opOf o₁,opOf o₂] [eval m env,markedBehindIn (opOf o₂) rr (eval rr env)]) _ _ _
    rw [marked hm]
    exact wpAny_bind (H hr h1 R fun x s₁ g₁ R₁ X₁ E₁=>chain3_ok (last:=fun rv rw=>do
        let c ← operate [rv,rw] (compareOp (opOf o₂) rv rw)
        holding [c] (PySem.truthy c)) (no:=fun _=>false) hr H2 H3 R₁ X₁ h (fun e s' g' R' E'=>by have e:b=false:=e; subst e; exact N _ _ R' (E₁.trans E')) fun s' g' y z R' E' k=>wpAny_bind (wpAny_operating (k _ (wpAny_holding (wpAny_truthy_bool (N _ _ R' (E₁.trans E')))))))

theorem ev_not (H:EvOk c r env e (ev C me)):EvOk c r env (.UnaryOp .Not e pos) (ev C (.not me)):=fun _ _ _ _ _ _ _ _ hr hf R N=>bnE hf fun w σ₂ h5 h=>boE h fun b' h7 h8 =>
  wpAny_UnaryOp (H hr h5 R fun x s₁ g₁ R₁ X₁ E₁=>not_of (truth_ok h7 R₁ X₁ fun s' g' R' E'=>N.of h8 _ s' g' R' (.bool _) (E₁.trans E')))
theorem ev_neg (H:EvOk c r env e (ev C me)):EvOk c r env (.UnaryOp .USub e pos) (ev C (.neg me)):=fun _ _ _ _ _ _ _ _ hr hf R N=>bnE hf fun w σ₂ h5 h =>
  wpAny_UnaryOp (H hr h5 R fun x s₁ g₁ R₁ X₁ E₁=>onIntE (P:=fun w=>Vx c env g₁ s₁ w x→_) h (fun i h X₁=>neg_ok R₁ X₁ ((N.of h).trans E₁)) X₁)
theorem ev_last {op:BoolOp} (H:EvOk c r env e (ev C ma)):EvOk c r env (.BoolOp op [e] pos) (ev C ma):=fun _ _ _ _ _ _ _ _ hr hf R N=>H hr hf R N
theorem ev_and (H:EvOk c r env e (ev C ma)) (H2:EvOk c r env (.BoolOp .And (e' :: es) pos) (ev C mb)):EvOk c r env (.BoolOp .And (e :: e' :: es) pos) (ev C (.and ma mb)):=fun _ _ _ _ _ _ _ _ hr hf R N=>bnE hf fun w σ₂ h5 h=>boE h fun b' h7 h8=>by
  rw [arm_eval_BoolOp]
  exact wpAny_bind (H hr h5 R fun x s₁ g₁ R₁ X₁ E₁=>wpAny_bind (wpAny_standAt (wpAny_bind (wpAny_holding (truth_ok h7 R₁ X₁ fun s' g' R' E'=>by
    cases b' with
    | false=>exact wpAny_pure (N.of h8 _ s' g' R' (X₁.ext E') (E₁.trans E'))
    | true=>exact H2 hr h8 R' (N.trans (E₁.trans E')))))))
theorem ev_or (H:EvOk c r env e (ev C ma)) (H2:EvOk c r env (.BoolOp .Or (e' :: es) pos) (ev C mb)):EvOk c r env (.BoolOp .Or (e :: e' :: es) pos) (ev C (.or ma mb)):=fun _ _ _ _ _ _ _ _ hr hf R N=>bnE hf fun w σ₂ h5 h=>boE h fun b' h7 h8=>by
  rw [arm_eval_BoolOp]
  exact wpAny_bind (H hr h5 R fun x s₁ g₁ R₁ X₁ E₁=>wpAny_bind (wpAny_standAt (wpAny_bind (wpAny_holding (truth_ok h7 R₁ X₁ fun s' g' R' E'=>by
    cases b' with
    | true=>exact wpAny_pure (N.of h8 _ s' g' R' (X₁.ext E') (E₁.trans E'))
    | false=>exact H2 hr h8 R' (N.trans (E₁.trans E')))))))
theorem ev_ite (H:TstOk c r env t (tst C mt)) (H2:EvOk c r env e (ev C me)) (H3:EvOk c r env o (ev C mo)):EvOk c r env (.IfExp t e o pos) (ev C (.ite mt me mo)):=fun _ _ _ _ _ _ _ _ hr hf R N=>bnE hf fun w σ₂ h5 h=>boE h fun b' h7 h8 =>
  wpAny_IfExp (H hr (tst_of h5 h7) R fun s' g' R' E'=>by
    cases b' with
    | true=>exact H2 hr h8 R' (N.trans E')
    | false=>exact H3 hr h8 R' (N.trans E'))
end
end Mine
end
noncomputable section
open PySem PySem.Calls PyProof.Rows PySem.W
namespace Mine
noncomputable def Gh.hid (g:Gh) (D:Addr→Prop):Gh:={ g with X:=fun a=>g.X a∨D a }
section
variable {c:Cx} {r:Nat} {env:Env} {A:Around} {σ σ':St} {g g₁:Gh} {s s' s₁ s₂:Shared} {E:Value→Shared→Prop} {Q:Value→Shared→Prop} {v:Mine.V} {D:Addr→Prop}

theorem old_ne {h:Heap} {o a:Addr} {p:Obj} (e:h.get? a=some p) (ho:h.objs.size≤o):a ≠ o:=fun z=>Nat.lt_irrefl _ (Nat.lt_of_lt_of_le (Heap.lt_size e) (z▸ho))
theorem fresh_ne {h:Heap} {o:Addr} (ho:h.objs.size≤o):∀ a p,h.get? a=some p→a ≠ o:=fun a p e=>old_ne e ho
theorem Fz.hide {a:Addr} {o:Obj} (h:Fz env g s.heap a o) (k:∀ b o,s.heap.get? b=some o→s'.heap.get? b=some o) (hD:∀ a,D a→s.heap.objs.size≤a):Fz env (g.hid D) s'.heap a o:=
  ⟨k _ _ h.1,h.2.1,fun z=>z.elim h.2.2.1 fun d=>old_ne h.1 (hD _ d) rfl,h.2.2.2⟩
theorem Vx.hide {v:Mine.V} {x:Value} (h:Vx c env g s v x) (k:∀ b o,s.heap.get? b=some o→s'.heap.get? b=some o) (hD:∀ a,D a→s.heap.objs.size≤a):Vx c env (g.hid D) s' v x:=
  h.mono (fun _ _ z=>z.hide k hD) fun _ _ z=>z
theorem Vxs.hide {v:List Mine.V} {x:List Value} (h:Vxs c env g s v x) (k:∀ b o,s.heap.get? b=some o→s'.heap.get? b=some o) (hD:∀ a,D a→s.heap.objs.size≤a):Vxs c env (g.hid D) s' v x:=
  h.mono (fun _ _ z=>z.hide k hD) fun _ _ z=>z
theorem Rel0.carry {g':Gh} {h h':Heap} (R:Rel0 c env g σ h) (kF:∀ a o,Fz env g h a o→Fz env g' h' a o) (kW:∀ a o,g.W a→h.get? a=some o→h'.get? a=some o)
    (kN:∀ m,h.Ns env.locals m→h'.Ns env.locals m) (hW:g'.W=g.W) (hc:g'.cs=g.cs) (hX:∀ a,g'.X a→∃ o,h'.get? a=some o) (hd:∀ a,g'.X a→¬ g.W a):Rel0 c env g' σ h':=by
  have kr:∀ i a,g.rho i=some a→g'.rho i=some a:=fun i a z=>by unfold Gh.rho at z ⊢; rw [hc]; exact z
  obtain ⟨m,hm,hl⟩:=R.loc
  exact ⟨fun a o e=>kF _ _ (R.kin a o e),fun a e=>(R.wob a (hW▸e)).imp fun o z=>kW _ _ (hW▸e) z,hX,fun a (e:a=env.locals)=>let ⟨p,_,_,q,_⟩:=kN m hm; ⟨p,e▸q⟩,fun a e=>⟨fun z=>hd a z (hW▸e),(R.dis a (hW▸e)).2⟩,
    ⟨m,kN m hm,hl.mono kF kr⟩,fun id ob e=>(R.obs id ob e).imp fun r=>Exists.imp fun o z=>⟨hc▸z.1,z.2.mono kF kr fun p=>kW _ _ (R.cW _ _ _ z.1)⟩,fun id r o e=>hW▸R.cW id r o (hc▸e),fun id id' r o r' e e'=>R.inj id id' r o r' (hc▸e) (hc▸e'),fun k e=>hc▸R.nx k e,fun k e=>hc▸R.ps k e⟩
theorem Rel.hide (R:Rel c env g σ s) (k:∀ b o,s.heap.get? b=some o→s'.heap.get? b=some o) (hD:∀ a,D a→s.heap.objs.size≤a) (hx:∀ a,D a→∃ o,s'.heap.get? a=some o) (hp:0 < s'.toks) :
    Rel c env (g.hid D) σ s':=
  ⟨R.toRel0.carry (fun _ _ z=>z.hide k hD) (fun a o _ e=>k _ _ e) (fun m hm=>hm.keeps k) rfl rfl (fun a z=>z.elim (fun z=>(R.xob a z).imp fun o e=>k _ _ e) (hx a))
    (fun a z w=>z.elim (R.dis a w).1 fun d=>let ⟨_,e⟩:=R.wob a w; old_ne e (hD a d) rfl),hp⟩
theorem Rel.changed (R:Rel c env g₁ σ s₁) (hX:∀ a,D a→g₁.X a) (hs:∀ b p,¬ D b→s₁.heap.get? b=some p→s'.heap.get? b=some p) (he:∀ a,D a→∃ o,s'.heap.get? a=some o) (hfa:∀ a,D a→¬ FA env a) (hp:0 < s'.toks) :
    Rel c env g₁ σ s':=
  ⟨R.toRel0.carry (fun a o z=>⟨hs _ _ (fun d=>z.2.2.1 (hX _ d)) z.1,z.2⟩) (fun a o w e=>hs _ _ (fun d=>(R.dis a w).1 (hX a d)) e) (fun m hm=>hm.at fun p e=>hs _ _ (fun d=>hfa _ d rfl) e) rfl rfl
    (fun a x=>Classical.byCases (fun d:D a=>he a d) fun d=>(R.xob a x).imp fun o e=>hs _ _ d e) (fun a x w=>(R.dis a w).1 x),hp⟩
theorem Vx.changed {v:Mine.V} {x:Value} (h:Vx c env g₁ s₁ v x) (hX:∀ a,D a→g₁.X a) (hs:∀ b p,¬ D b→s₁.heap.get? b=some p→s'.heap.get? b=some p):Vx c env g₁ s' v x:=
  h.mono (fun a o z=>⟨hs _ _ (fun d=>z.2.2.1 (hX _ d)) z.1,z.2⟩) fun _ _ z=>z
theorem Vxs.changed {v:List Mine.V} {x:List Value} (h:Vxs c env g₁ s₁ v x) (hX:∀ a,D a→g₁.X a) (hs:∀ b p,¬ D b→s₁.heap.get? b=some p→s'.heap.get? b=some p):Vxs c env g₁ s' v x:=
  h.mono (fun a o z=>⟨hs _ _ (fun d=>z.2.2.1 (hX _ d)) z.1,z.2⟩) fun _ _ z=>z
theorem Rel.shown {X:Addr→Prop} (R:Rel c env g₁ σ s₁) (hX:∀ a,X a→g₁.X a):Rel c env { g₁ with X:=X } σ s₁:=
  ⟨R.toRel0.carry (fun a o z=>⟨z.1,z.2.1,fun x=>z.2.2.1 (hX a x),z.2.2.2⟩) (fun _ _ _ e=>e) (fun _ e=>e) rfl rfl (fun a x=>R.xob a (hX a x)) (fun a x w=>(R.dis a w).1 (hX a x)),R.pos⟩
theorem Vx.shown {X:Addr→Prop} {v:Mine.V} {x:Value} (h:Vx c env g₁ s₁ v x) (hX:∀ a,X a→g₁.X a):Vx c env { g₁ with X:=X } s₁ v x:=
  h.mono (fun a o z=>⟨z.1,z.2.1,fun x=>z.2.2.1 (hX a x),z.2.2.2⟩) fun _ _ z=>z
theorem Vxs.shown {X:Addr→Prop} {v:List Mine.V} {x:List Value} (h:Vxs c env g₁ s₁ v x) (hX:∀ a,X a→g₁.X a):Vxs c env { g₁ with X:=X } s₁ v x:=
  h.mono (fun a o z=>⟨z.1,z.2.1,fun x=>z.2.2.1 (hX a x),z.2.2.2⟩) fun _ _ z=>z
theorem Ext.hidden (k:∀ b o,s.heap.get? b=some o→s'.heap.get? b=some o) (hg:gos s'=gos s) (hD:∀ a,D a→s.heap.objs.size≤a) (x:Ext env (g.hid D) g₁ s' s₁)
    (hs:∀ b p,¬ D b→s₁.heap.get? b=some p→s₂.heap.get? b=some p) (hg2:gos s₂=gos s₁):Ext env g { g₁ with X:=g.X } s s₂:=
  ⟨fun a o e w f=>let ⟨z,w'⟩:=x.fz a o (k _ _ e) w f; ⟨hs _ _ (fun d=>old_ne e (hD a d) rfl) z,w'⟩,x.cs,rfl,hg2.trans (x.gens.trans hg)⟩

noncomputable def idIn (σ:St):Id→Prop
  | .t k=>k < σ.nx
  | .p k=>k ∈ σ.ps
noncomputable def Gh.add (g:Gh) (id:Id) (q o:Addr):Gh:={ g with W:=fun a=>g.W a∨a=o,cs:=fun i=>if i=id then some (q,o) else g.cs i }
theorem Gh.add_self {id:Id} {q o:Addr}:(g.add id q o).cs id=some (q,o):=if_pos rfl
theorem Gh.add_rho {id:Id} {q o:Addr}:(g.add id q o).rho id=some q:=by unfold Gh.rho; rw [Gh.add_self]; rfl
theorem Gh.add_cs {id i:Id} {q o:Addr} (h:i ≠ id):(g.add id q o).cs i=g.cs i:=if_neg h
theorem Gh.add_old {id i:Id} {q o:Addr} {p:Addr × Addr} (hid:g.cs id=none) (e:g.cs i=some p):(g.add id q o).cs i=some p:=(Gh.add_cs fun q=>by rw [q,hid] at e; exact nn e).trans e
theorem Gh.add_mono {id i:Id} {q o a:Addr} (hid:g.cs id=none) (e:g.rho i=some a):(g.add id q o).rho i=some a:=by
  unfold Gh.rho at e ⊢
  cases h:g.cs i with
  | none=>rw [h] at e; exact nn e
  | some p=>rw [Gh.add_old hid h,← h]; exact e
structure Grows (σ σ':St) (id:Id) (ob:Ob):Prop where
  loc:σ'.loc=σ.loc
  hp:σ'.hp=(id,ob) :: σ.hp
  nx:σ.nx≤σ'.nx
  ps:∀ k,k ∈ σ.ps→k ∈ σ'.ps
  in_:idIn σ' id
theorem Rel0.more {h h':Heap} {G:Gh} (R:Rel0 c env g σ h) {id:Id} {ob:Ob} {q o:Addr} (hGW:G.W=g.W) (hGc:G.cs=g.cs) (kF:∀ a p,Fz env g h a p→Fz env (G.add id q o) h' a p) (kW:∀ a p,g.W a→h.get? a=some p→h'.get? a=some p)
    (kN:∀ m,h.Ns env.locals m→h'.Ns env.locals m) (kX:∀ a,G.X a→∃ p,h'.get? a=some p) (kf:∀ a,FA env a→∃ p,h'.get? a=some p) (kd:∀ a,g.W a→¬ G.X a) (hWo:∀ a,g.W a→a ≠ o) (hXo:¬ G.X o) (hfo:¬ FA env o) (he:∃ p,h'.get? o=some p) (hid:g.cs id=none)
    (hob:(∀ i a,g.rho i=some a→(G.add id q o).rho i=some a)→ObR c env (G.add id q o) h' ob q o) (hσ:Grows σ σ' id ob):Rel0 c env (G.add id q o) σ' h':=by
  have hGid:G.cs id=none:=hGc▸hid
  have kr:∀ i a,g.rho i=some a→(G.add id q o).rho i=some a:=fun i a z=>Gh.add_mono hGid (by unfold Gh.rho at z ⊢; rw [hGc]; exact z)
  refine ⟨fun a o e=>kF _ _ (R.kin a o e),fun a e=>e.elim (fun w=>(R.wob a (hGW▸w)).imp fun p z=>kW _ _ (hGW▸w) z) (fun z=>z▸he),kX,kf,fun a e=>e.elim (fun w=>⟨kd a (hGW▸w),(R.dis a (hGW▸w)).2⟩) (fun (z:a=o)=>by subst z; exact ⟨hXo,hfo⟩),
    R.loc.imp fun m z=>⟨kN m z.1,hσ.loc▸z.2.mono kF kr⟩,fun id' ob' e=>?_,fun i r o' e=>?_,fun i i' r o' r' e e'=>?_,fun j e=>?_,fun j e=>?_⟩
  · rw [hσ.hp] at e
    unfold look at e
    by_cases hi:id=id'
    · rw [if_pos hi] at e
      cases e
      exact ⟨q,o,hi▸Gh.add_self,hob kr⟩
    · rw [if_neg hi] at e
      exact (R.obs id' ob' e).imp fun r=>Exists.imp fun o' z=>⟨(Gh.add_cs (Ne.symm hi)).trans (hGc▸z.1),z.2.mono kF kr fun p=>kW _ _ (R.cW _ _ _ z.1)⟩
  · by_cases hi:i=id
    · rw [hi,Gh.add_self] at e; cases e; exact .inr rfl
    · rw [Gh.add_cs hi,hGc] at e; exact .inl (hGW▸R.cW _ _ _ e)
  · by_cases hi:i=id
    · by_cases hi':i'=id
      · exact hi.trans hi'.symm
      · rw [hi,Gh.add_self] at e; rw [Gh.add_cs hi',hGc] at e'; cases e; exact absurd rfl (hWo _ (R.cW _ _ _ e'))
    · rw [Gh.add_cs hi,hGc] at e
      by_cases hi':i'=id
      · rw [hi',Gh.add_self] at e'; cases e'; exact absurd rfl (hWo _ (R.cW _ _ _ e))
      · rw [Gh.add_cs hi',hGc] at e'; exact R.inj _ _ _ _ _ e e'
  · rw [Gh.add_cs fun z=>Nat.not_lt.mpr e (by have:=hσ.in_; rw [← z] at this; exact this),hGc]; exact R.nx j (Nat.le_trans hσ.nx e)
  · rw [Gh.add_cs fun z=>e (by have:=hσ.in_; rw [← z] at this; exact this),hGc]; exact R.ps j fun z=>e (hσ.ps _ z)
theorem Rel0.add {h h':Heap} (R:Rel0 c env g σ h) {id:Id} {ob:Ob} {q o:Addr} (K:Keep env (fun _=>False) h h') (ho:∀ a p,h.get? a=some p→a ≠ o) (he:∃ p,h'.get? o=some p) (hid:g.cs id=none)
    (hob:(∀ a p,Fz env g h a p→Fz env (g.add id q o) h' a p)→(∀ i a,g.rho i=some a→(g.add id q o).rho i=some a)→ObR c env (g.add id q o) h' ob q o)
    (hσ:Grows σ σ' id ob):Rel0 c env (g.add id q o) σ' h':=by
  have k:∀ b p,b ≠ env.locals→h.get? b=some p→h'.get? b=some p:=fun b p=>K.k b p not_false
  have kF:∀ a p,Fz env g h a p→Fz env (g.add id q o) h' a p:=fun a p z=>⟨k _ _ (fun e=>z.2.2.2 e) z.1,fun w=>w.elim z.2.1 (ho a p z.1),z.2.2⟩
  obtain ⟨m,hm,-⟩:=R.loc
  have al:=K.alive hm fun a e=>e.elim
  exact R.more rfl rfl kF (fun a p w=>k _ _ (R.dis a w).2) K.ns (fun a e=>al a (R.xob a e)) (fun a e=>al a (R.fob a e)) (fun a w=>(R.dis a w).1) (fun a w=>let ⟨p,e⟩:=R.wob a w; ho a p e) (fun x=>let ⟨p,e⟩:=R.xob _ x; ho _ p e rfl) (fun x=>let ⟨p,e⟩:=R.fob _ x; ho _ p e rfl) he hid (hob kF) hσ
theorem Ext.add {id:Id} {q o:Addr} (K:Keep env (fun _=>False) s.heap s'.heap) (ho:∀ a p,s.heap.get? a=some p→a ≠ o) (hid:g.cs id=none) (hg:gos s'=gos s):Ext env g (g.add id q o) s s':=
  ⟨fun a p e w f=>⟨K.k _ _ not_false (fun e=>f e) e,fun z=>z.elim w fun z=>ho a p e z⟩,fun i p e=>Gh.add_old hid e,rfl,hg⟩
theorem Rel0.live {h:Heap} {X:Addr→Prop} (R:Rel0 c env g σ h) {id:Id} {ob:Ob} {q o:Addr} (hX:∀ a,X a→g.X a) (ho:g.X o) (hn':¬ X o) (hfa:¬ FA env o) (hid:g.cs id=none)
    (hob:(∀ a p,Fz env g h a p→Fz env (({ g with X:=X }:Gh).add id q o) h a p)→(∀ i a,g.rho i=some a→(({ g with X:=X }:Gh).add id q o).rho i=some a)→ObR c env (({ g with X:=X }:Gh).add id q o) h ob q o)
    (hσ:Grows σ σ' id ob):Rel0 c env (({ g with X:=X }:Gh).add id q o) σ' h:=
  have kF:∀ a p,Fz env g h a p→Fz env (({ g with X:=X }:Gh).add id q o) h a p:=fun a p z=>⟨z.1,fun w=>w.elim z.2.1 fun e=>z.2.2.1 (e▸ho),fun x=>z.2.2.1 (hX a x),z.2.2.2⟩
  R.more (G:={ g with X:=X }) rfl rfl kF (fun _ _ _ e=>e) (fun _ e=>e) (fun a x=>R.xob a (hX a x)) R.fob (fun a w x=>(R.dis a w).1 (hX a x)) (fun a w e=>(R.dis a w).1 (e▸ho)) hn' hfa (R.xob o ho) hid (hob kF) hσ
theorem Ext.live {X:Addr→Prop} {id:Id} {q o:Addr} {g₀:Gh} (x:Ext env g₀ { g₁ with X:=X } s s₁) (ho:∀ a p,s.heap.get? a=some p→a ≠ o) (hid:g₁.cs id=none):Ext env g₀ (({ g₁ with X:=X }:Gh).add id q o) s s₁:=
  ⟨fun a p e w f=>⟨(x.fz a p e w f).1,fun z=>z.elim (x.fz a p e w f).2 fun z=>ho a p e z⟩,fun i p e=>Gh.add_old (g:={ g₁ with X:=X }) hid (x.cs i p e),x.X,x.gens⟩
end
end Mine
end
noncomputable section
open PySem PySem.Calls PyProof.Rows PySem.W
namespace Mine
theorem evs_len {C:Ora}:∀ {es:List ME} {σ σ':St} {vs:List Mine.V},evs C es σ=some (vs,σ')→vs.length=es.length
  | [],_,_,_,h=>by cases h; rfl
  | _ :: _,_,_,_,h=>bnE h fun v σ₁ h1 h=>bnE h fun vs σ₂ h3 h4=>by cases h4; exact congrArg (· + 1) (evs_len h3)
section
variable {c:Cx} {r:Nat} {env:Env} {A:Around} {σ σ':St} {g g₁:Gh} {s s' s₁ s₂:Shared} {E:Value→Shared→Prop} {Q:Value→Shared→Prop} {v:Mine.V} {D:Addr→Prop}

theorem alloc_id {lv:LV} {ob:Ob} {v:Mine.V} {h':Heap} {P:Mine.V→Prop} (h:σ.alloc lv ob=some (v,σ')) (hl:lv ≠ .frz) (R:Rel0 c env g σ h') (k:∀ id,g.cs id=none→Grows σ σ' id ob→P (.obj id)):P v:=by
  cases lv with
  | frz=>exact absurd rfl hl
  | tmp=>cases h; exact k _ (R.nx _ (Nat.le_refl _)) ⟨rfl,rfl,Nat.le_succ _,fun _ z=>z,Nat.lt_succ_self _⟩
  | per n =>
    have h:(if n ∈ σ.ps then none else some (Mine.V.obj (.p n),{ σ with hp:=(.p n,ob) :: σ.hp,ps:=n :: σ.ps }))=some (v,σ'):=h
    by_cases hk:n ∈ σ.ps
    · rw [if_pos hk] at h; exact nn h
    · rw [if_neg hk] at h; cases h; exact k _ (R.ps _ hk) ⟨rfl,rfl,Nat.le_refl _,fun _ z=>.tail _ z,.head _⟩
theorem alloc_frz {ob:Ob} {w:Mine.V} (h:σ.alloc .frz ob=some (v,σ')) (hw:ob.frz=some w):some (w,σ)=some (v,σ'):=by
  have h:bo ob.frz (fun v=>some (v,σ))=some (v,σ'):=h
  rw [hw] at h; exact h

theorem Nxt.list {lv:LV} {l:List Mine.V} {items:Array Value} {n:Nat} (h:σ.alloc lv (.list l)=some (v,σ')) (N:Nxt c env g s v σ' Q) (R:Rel c env g σ s) (hv:Vxs c env g s l items.toList) :
    Q (.ref s.heap.objs.size) { s with heap:=s.heap.push { cls:=.type "list",dict:=none,data:=.seq items n,slots:=#[] } }:=by
  by_cases hl:lv=.frz
  · subst hl
    exact (N.of (alloc_frz h rfl)).newList (t:=s.toks) R hv R.pos
  · have hi:IsL (s.heap.push { cls:=.type "list",dict:=none,data:=.seq items n,slots:=#[] }) s.heap.objs.size items n:=Heap.get?_push_size _ rfl
    exact alloc_id (P:=fun v=>Nxt c env g s v σ' Q→_) h hl R.toRel0 (fun id hid hσ N=>N _ { s with heap:=s.heap.push { cls:=.type "list",dict:=none,data:=.seq items n,slots:=#[] } } (g.add id s.heap.objs.size s.heap.objs.size)
      ⟨R.toRel0.add (ob:=.list l) (.grown (keepPush _ _)) (fresh_ne (Nat.le_refl _)) ⟨_,hi⟩ hid (fun k1 k2=>⟨rfl,items,n,hi,hv.mono k1 k2⟩) hσ,R.pos⟩ (.obj Gh.add_rho) (Ext.add (.grown (keepPush _ _)) (fresh_ne (Nat.le_refl _)) hid rfl)) N

theorem len_line {n:Nat} (h:n≤1000):n≤sizeLine:=Nat.le_trans h (by rw [sizeLine_eq]; decide)
theorem ev_lst {es:List Expr} {C:Ora} {mes:List ME} {lv:LV} {pos} (hs:es.all noStar=true) (hlen:mes.length≤1000) (H:EvsOk c r env es (evs C mes)):EvOk c r env (.List es pos) (ev C (.lst mes lv)):=fun _ _ _ _ _ _ _ _ hr hf R N=>bnE hf fun vs σ₁ h1 h2=>wpAny_List (by
  rw [starEach_args hs]
  exact H hr h1 R fun xs s₁ g₁ R₁ X₁ E₁=>⟨by rw [← X₁.length,evs_len h1]; exact len_line hlen,Nxt.list h2 (N.trans E₁) R₁ X₁⟩)
theorem ev_tup {es:List Expr} {C:Ora} {mes:List ME} {k pos} (hs:es.all noStar=true) (hlen:mes.length≤1000) (H:EvsOk c r env es (evs C mes)):EvOk c r env (.Tuple es k pos) (ev C (.tup mes)):=fun _ _ _ _ _ _ _ _ hr hf R N=>bnE hf fun vs σ₁ h1 h2=>wpAny_Tuple (by
  rw [starEach_args hs]
  exact H hr h1 R fun xs s₁ g₁ R₁ X₁ E₁=>⟨by rw [← X₁.length,evs_len h1]; exact len_line hlen,((N.of h2).trans E₁).push (t:=s₁.toks) R₁ (.tup (pushed R₁ rfl) rfl rfl (Vxs.push X₁)) R₁.pos⟩)

theorem getMethod_list {l:Addr} {items:Array Value} {n:Nat} {name:Str} {id:String} {pl:Sem Bool} {Q:Value × List Value→Shared→Prop} (hl:IsL s.heap l items n) (hs:Slot "list" name id)
    (ht:typeOf (.builtin id)=pure (.type "method_descriptor")) (h:Q (.builtin id,[.ref l]) s):wpAny c.M A (getMethod (.ref l) name pl) Q E s:=by
  have hT:s.TypeIs (.ref l) "list":=⟨_,hl,rfl⟩
  unfold getMethod
  refine wpAny_bind (wpAny_specialOf hT list_getattribute ?_)
  show wpAny _ _ (if (Manifest.canonical "list.__getattribute__" != "object.__getattribute__")=true then _ else _) _ _ _
  rw [canon_list_getattribute,if_neg Bool.false_ne_true]
  exact wpAny_bind (wpAny_specialOf hT list_getattr_none (wpAny_bind (wpAny_specialOf hT hs.lookup (wpAny_bind (wpAny_of_eq ht (wpAny_bind (wpAny_load hl (wpAny_bind (wpAny_rule (wpAny_pure h))))))))))
theorem one_plain {x:Expr} (h:noStar x=true):[x].all noStar=true:=by rw [List.all_cons,h]; rfl
theorem Gh.addr {id:Id} {a b:Addr} {p q:Addr} (h:g.cs id=some (a,p)) (h':g.cs id=some (b,q)):b=a:=by cases h.symm.trans h'; rfl
theorem ev_app {e x:Expr} {C:Ora} {me mx:ME} {apos pos} (hc:noCall e=true) (hs:noStar x=true) (hl:(apos.endLine == pos.line)=true) (H:EvOk c r env e (ev C me)) (H2:EvOk c r env x (ev C mx)) :
    EvOk c r env (.Call (.Attribute e ("append":Str) apos) [x] [] pos) (ev C (.app me mx)):=fun _ _ _ _ _ _ _ _ hr hf R N=>bnE hf fun v σ₁ h1 h =>
  Call_attr hc (one_plain hs) hl (by decide:1 < 25) (H hr h1 R fun a s₁ g₁ R₁ X₁ E₁ pl=>onListE (P:=fun v=>Vx c env g₁ s₁ v a→_) h (fun id l₀ ho₀ h X₁=>bnE h fun y σ₂ h3 h=>X₁.objE fun b hb=>by
    obtain ⟨items,n,hcs,hi,hv⟩:=liveList R₁ ho₀ hb
    exact getMethod_list hi slot_list_append type_list_append (P.append_list (H2 hr h3 R₁ fun y' s₂ g₂ R₂ X₂ E₂=>boE (show bo (look σ₂.hp id) _=some _ from h) fun o ho h=>by
      cases o with
      | list l =>
        exact bdE h fun hb' h=>by
          obtain ⟨items,n,hcs,hi,hv⟩:=liveList R₂ ho (E₂.rho hb)
          obtain ⟨R₃,E₃⟩:=seqNext (f:=fun xs=>xs.push y') (l':=l ++ [y]) R₂ hcs hi (by rw [Array.toList_push]; exact hv.append (.cons X₂ .nil))
          exact ⟨items,n,by rw [size_of hv]; exact hb',hi,N.of h _ _ _ R₃ .none (E₁.trans (E₂.trans E₃))⟩
      | _=>exact nn h))) X₁)
theorem pop_next {id:Id} {l l':List Mine.V} {b:Addr} {items:Array Value} {n:Nat} {f:Array Value→Array Value} {y:Mine.V} {x:Value} {w:Option (Mine.V × St)} (R:Rel c env g σ s) (hcs:g.cs id=some (b,b)) (hi:IsL s.heap b items n)
    (hv:Vxs c env g s l' (f items).toList) (hx:Vx c env g s y x) (N:Nxt c env g s y (σ.setOb id (.list l')) Q):Q x { s with heap:=s.heap.update b (Obj.mapSeq f) }:=by
  obtain ⟨R₃,E₃⟩:=seqNext (f:=f) R hcs hi hv
  exact N _ _ _ R₃ (hx.ext E₃) E₃
theorem erase_last (items:Array Value):(items.eraseIdxIfInBounds (items.size - 1)).toList=items.toList.take (items.toList.length - 1):=by
  obtain ⟨it⟩:=items
  rw [List.size_toArray,List.eraseIdxIfInBounds_toArray]
  exact List.eraseIdx_length_sub_one.trans List.dropLast_eq_take
theorem erase_first (items:Array Value):(items.eraseIdxIfInBounds 0).toList=items.toList.drop 1:=by
  obtain ⟨it⟩:=items
  rw [List.eraseIdxIfInBounds_toArray]
  cases it <;> rfl
theorem ev_pop0 {e:Expr} {C:Ora} {me:ME} {apos pos} (hc:noCall e=true) (hl:(apos.endLine == pos.line)=true) (H:EvOk c r env e (ev C me)) :
    EvOk c r env (.Call (.Attribute e ("pop":Str) apos) [] [] pos) (ev C (.pop me [])):=fun _ _ _ _ _ _ _ _ hr hf R N=>bnE hf fun v σ₁ h1 h =>
  Call_attr hc rfl hl (by decide:0 < 25) (H hr h1 R fun a s₁ g₁ R₁ X₁ E₁ pl=>onListE (P:=fun v=>Vx c env g₁ s₁ v a→_) h (fun id l ho h X₁=>boE (show bo (popV false l) _=some _ from h) fun p hp h=>X₁.objE fun b hb=>bdE hp fun hb' hp=>boE hp fun y hy hp=>by
    cases hp
    obtain ⟨items,n,hcs,hi,hv⟩:=liveList R₁ ho hb
    have hz:=size_of hv
    rw [List.getLast?_eq_getElem?] at hy
    obtain ⟨x,hx,hxv⟩:=hv.get hy
    exact getMethod_list hi F.slot_list_pop F.type_list_pop (P.pop_list (y:=x) hi (by rw [hz,← Array.getElem?_toList]; exact hx) (pop_next (f:=fun xs=>xs.eraseIdxIfInBounds (items.size - 1)) (l:=l) (w:=none) R₁ hcs hi (by rw [erase_last,← hv.length,List.dropLast_eq_take]; exact hv.take _) hxv ((N.of h).trans E₁)) (by rw [hz]; exact hb'))) X₁)
theorem ev_pop1 {e:Expr} {C:Ora} {me:ME} {k p apos pos} (hc:noCall e=true) (hl:(apos.endLine == pos.line)=true) (H:EvOk c r env e (ev C me)) :
    EvOk c r env (.Call (.Attribute e ("pop":Str) apos) [.Constant (.int 0) k p] [] pos) (ev C (.pop me [.k (.int 0)])):=fun _ _ _ _ _ _ _ _ hr hf R N=>bnE hf fun v σ₁ h1 h =>
  Call_attr hc rfl hl (by decide:1 < 25) (H hr h1 R fun a s₁ g₁ R₁ X₁ E₁ pl=>onListE (P:=fun v=>Vx c env g₁ s₁ v a→_) h (fun id l ho h X₁=>boE (show bo (popV true l) _=some _ from h) fun p hp h=>X₁.objE fun b hb=>by
    cases l with
    | nil=>exact nn hp
    | cons y l =>
      exact gdE hp fun hb' hp=>by
        cases hp
        obtain ⟨items,n,hcs,hi,hv⟩:=liveList R₁ ho hb
        have hz:=size_of hv
        obtain ⟨x,hx,hxv⟩:=hv.get (i:=0) rfl
        refine getMethod_list hi F.slot_list_pop F.type_list_pop (P.pop_at_list (wpAny_Constant_int ⟨items,n,0,_,0,x,?_,rfl,hi,rfl,?_,by rw [← Array.getElem?_toList]; exact hx,?_⟩))
        · rw [hz,← maxLen_eq]; exact Nat.le_of_ble_eq_true hb'
        · rw [hz]; show (if (0≤(0:Int) && decide ((0:Int) < ((l.length + 1:Nat):Int)))=true then some _ else none)=_
          rw [decide_eq_true (Int.natCast_pos.mpr (Nat.succ_pos _))]; rfl
        · exact pop_next (s:={ s₁ with toks:=s₁.toks + 1 }) (f:=fun xs=>xs.eraseIdxIfInBounds 0) (l:=l) (w:=none) R₁.toks hcs hi (by rw [erase_first]; exact hv.drop 1) hxv (((N.of h).trans E₁).trans .toks)) X₁)

theorem ev_range {x:Str} (O:c.Ok) (VV:EnvOk env) {es:List Expr} {C:Ora} {mes:List ME} {np pos} (hs:es.all noStar=true) (hk:env.kindOf x=some .globalImplicit) (hx:(x == ("__debug__":Str))=false)
    (hd:isBi c x (.type "range")=true) (H2:EvsOk c r env es (evs C mes)) :
    EvOk c r env (.Call (.Name x np) es [] pos) (ev C (.bi .range mes)):=fun _ _ _ _ _ _ _ _ hr hf R N=>bnE hf fun vs σ₁ h1 h=>boE h fun w h3 h4=>by
  rw [arm_eval_Call_Name',starEach_args hs]
  refine wpAny_bind (Name_function_global VV.kind hk (loadGlobal_bi O VV hd R (PySem.callWith_type fst_plain (evalArgs_c (H2 hr h1 R fun xs s₁ g₁ R₁ X₁ E₁=>?_)))) hx)
  match vs,h3,X₁ with
  | [],h3,_=>exact nn h3
  | _ :: _ :: _ :: _,h3,_=>exact nn h3
  | [b],h3,X=>exact X.oneE fun y X=>onIntE (P:=fun b=>Vx c env g₁ s₁ b y→_) (show onInt b (fun b=>some (V.rng 0 b))=some w from h3) (fun j h3 X=>by cases h3; exact X.intE fun t=>call_range_1 (((N.of h4).trans E₁).push R₁ (.rng (pushed R₁ rfl)) (Nat.succ_pos _))) X
  | [a,b],h3,X=>exact X.twoE fun x y X Y=>int2E (P:=fun x y=>wpAny c.M _ (call (.type "range") [x,y] []) _ _ s₁) (a:=a) (b:=b) (f:=fun a b=>some (V.rng a b)) h3 X Y fun i j t u e=>by cases e; exact call_range_2 (((N.of h4).trans E₁).push R₁ (.rng (pushed R₁ rfl)) (Nat.succ_pos _))
end
end Mine
end
noncomputable section
open PySem PySem.Calls PyProof.Rows PySem.W
namespace Mine
section
variable {c:Cx} {r:Nat} {env:Env} {A:Around} {σ σ':St} {g g₁:Gh} {s s' s₁ s₂:Shared} {E:Value→Shared→Prop} {Q:Value→Shared→Prop} {v:Mine.V} {D:Addr→Prop}

inductive EvAll (c:Cx) (r:Nat) (env:Env) (C:Ora):List Expr→List ME→Prop
  | nil:EvAll c r env C [] []
  | cons {e:Expr} {es:List Expr} {me:ME} {mes:List ME}:EvOk c r env e (ev C me)→EvAll c r env C es mes→EvAll c r env C (e :: es) (me :: mes)
theorem EvAll.evs {C:Ora} {es:List Expr} {mes:List ME} (h:EvAll c r env C es mes):EvsOk c r env es (evs C mes):=
  EvAll.rec (motive:=fun es mes _=>EvsOk c r env es (Mine.evs C mes)) evs_nil (fun a _ ih=>evs_cons a ih) h

noncomputable def keyIs (o:Option Expr) (k:List Nat):Bool:=match o with
  | some e=>ctq fun h=>Expr.Constant.elim (motive_1:=fun _=>Bool) e h fun v _ _=>ctq fun h=>Const.str.elim (motive:=fun _=>Bool) v h fun x=>x == toS k
  | none=>false
theorem keyIs_t {o:Option Expr} {k:List Nat} {P:Option Expr→Prop} (h:keyIs o k=true) (f:∀ n p,P (some (.Constant (.str (toS k)) n p))):P o:=by
  cases o with
  | none=>exact ff h
  | some e =>
    exact ctq_t h fun q=>Expr.Constant.elim (motive_1:=fun e=>keyIs (some e) k=true→P (some e)) e q (fun v n p h=>ctq_t (show (ctq fun h=>Const.str.elim (motive:=fun _=>Bool) v h fun x=>x == toS k)=true from h) fun q=>Const.str.elim (motive:=fun v=>keyIs (some (.Constant v n p)) k=true→P (some (.Constant v n p))) v q (fun x h=>bE h▸f n p) h) h
noncomputable def keysOk:List (Option Expr)→List (List Nat)→Bool
  | [],ks=>ks.isEmpty
  | o :: r,ks=>match ks with
    | []=>false
    | k :: ks=>keyIs o k && keysOk r ks
noncomputable def pairsOf (env:Env) (pos:Pos):List (Option Expr)→List Expr→List (Sem Value × Sem Value)
  | [],_=>[]
  | o :: ks,es=>match o,es with
    | some k,e :: es=>(eval k env,do let x ← eval e env; standAt pos; pure x) :: pairsOf env pos ks es
    | _,_=>[]
theorem pairsOf_shape {pos:Pos}:∀ {keys:List (Option Expr)} {ks:List (List Nat)} {es:List Expr},keysOk keys ks=true →
    (evalEachOpt keys env).zip ((evalEach es env).map fun v=>do let x ← v; standAt pos; pure x)=(pairsOf env pos keys es).map fun p=>(some p.1,p.2)
  | [],_,es,_=>rfl
  | o :: keys,[],es,h=>ff h
  | o :: keys,k :: ks,es,h=>bA h fun h1 h2=>keyIs_t (P:=fun o=>(evalEachOpt (o :: keys) env).zip ((evalEach es env).map fun v=>do let x ← v; standAt pos; pure x)=(pairsOf env pos (o :: keys) es).map fun p=>(some p.1,p.2)) h1 fun n p=>by
    cases es with
    | nil=>rfl
    | cons e es=>exact congrArg (List.cons _) (pairsOf_shape (es:=es) h2)
theorem strK_is (k:List Nat) (t:Tok):(PySem.strKind c.prog c.w).is (toS k) (.str (toS k) t)=true:=beq_self_eq_true (toS k)
noncomputable def PrOk (c:Cx) (r:Nat) (env:Env) (C:Ora) (pos:Pos) (E:Value→Shared→Prop) (es:List Expr) (mes:List ME):Prop:=∀ ⦃keys:List (Option Expr)⦄ ⦃ks:List (List Nat)⦄ ⦃A:Around⦄ ⦃σ σ':St⦄ ⦃vs:List Mine.V⦄ ⦃g:Gh⦄ ⦃s:Shared⦄ ⦃Q:List (Value × Value)→Shared→Prop⦄,
    keysOk keys ks=true→ks.length=mes.length→Room A r→evs C mes σ=some (vs,σ')→Rel c env g σ s →
    (∀ ps kvs s' g',Carries (PySem.strKind c.prog c.w) ps kvs→kvs.map (·.1)=ks.map toS→Rel c env g' σ' s'→Vxs c env g' s' vs (kvs.map (·.2))→Ext env g g' s s'→Q ps s') →
    wpAny c.M A (evalPairs (pairsOf env pos keys es)) Q E s
theorem pairs_nil {C:Ora} {pos:Pos}:PrOk c r env C pos E [] []:=fun keys ks _ _ _ _ g s Q hk hl _ hf R hq=>by
  cases ks with
  | cons _ _=>exact nomatch hl
  | nil=>cases keys with
    | cons _ _=>exact ff hk
    | nil=>cases hf; exact evalPairs_nil (hq [] [] s g trivial rfl R .nil .refl)
theorem pairs_cons {C:Ora} {pos:Pos} {e:Expr} {es:List Expr} {m:ME} {mes:List ME} (a:EvOk c r env e (ev C m)) (ih:PrOk c r env C pos E es mes):PrOk c r env C pos E (e :: es) (m :: mes):=fun keys ks _ _ _ _ g s Q hk hl hr hf R hq=>by
  cases ks with
  | nil=>exact nomatch hl
  | cons k ks=>cases keys with
    | nil=>exact ff hk
    | cons o keys =>
      exact bA hk fun h1 h2=>bnE hf fun v σ₁ k1 h=>bnE h fun vs' σ₂ k3 k4=>by
        cases k4
        exact keyIs_t (P:=fun o=>wpAny c.M _ (evalPairs (pairsOf env pos (o :: keys) (e :: es))) Q E s) h1 fun n p=>evalPairs_cons (Constant_str (wpAny_bind (a hr k1 R.toks fun y s₁ g₁ R₁ X₁ E₁=>wpAny_bind (wpAny_standAt (wpAny_pure (ih h2 (Nat.succ.inj hl) hr k3 R₁ fun ps kvs s₂ g₂ hc he R₂ X₂ E₂ =>
          hq _ ((toS k,y) :: kvs) s₂ g₂ ⟨strK_is k _,rfl,hc⟩ (congrArg (toS k :: ·) he) R₂ (.cons (X₁.ext E₂) X₂) (Ext.toks.trans (E₁.trans E₂))))))))
theorem pairs_ok {C:Ora} {pos:Pos} {es:List Expr} {mes:List ME} (H:EvAll c r env C es mes):PrOk c r env C pos E es mes:=EvAll.rec (motive:=fun es mes _=>PrOk c r env C pos E es mes) pairs_nil (fun a _ ih=>pairs_cons a ih) H

theorem K_size (O:c.Ok) (R:Rel0 c env g σ h):3 < h.objs.size:=let ⟨o,e⟩:=O.big; Heap.lt_size (R.kin 3 o e).1
theorem toS_nodup {ks:List (List Nat)} (h:ks.Nodup):(ks.map toS).Nodup:=by
  rw [List.nodup_iff_pairwise_ne,List.pairwise_map]
  exact h.imp fun a e=>a (toS_inj e)
theorem pairs_len {C:Ora} {pos:Pos} {es:List Expr} {mes:List ME} (H:EvAll c r env C es mes):∀ keys:List (Option Expr),(pairsOf env pos keys es).length≤mes.length:=
  EvAll.rec (motive:=fun es mes _=>∀ keys:List (Option Expr),(pairsOf env pos keys es).length≤mes.length) (fun keys=>by cases keys with | nil=>exact Nat.zero_le _ | cons o _=>cases o <;> exact Nat.zero_le _)
    (fun _ _ ih keys=>by cases keys with | nil=>exact Nat.zero_le _ | cons o keys=>cases o with | none=>exact Nat.zero_le _ | some _=>exact Nat.succ_le_succ (ih keys)) H
theorem pairs_ne {C:Ora} {pos:Pos} {keys:List (Option Expr)} {ks:List (List Nat)} {es:List Expr} {mes:List ME} (H:EvAll c r env C es mes) (hk:keysOk keys ks=true) (hl:ks.length=mes.length) (hne:mes ≠ []):pairsOf env pos keys es ≠ []:=by
  cases H with
  | nil=>exact absurd rfl hne
  | cons a b=>cases keys with
    | nil=>cases ks with
      | nil=>exact nomatch hl
      | cons _ _=>exact ff hk
    | cons o keys=>cases ks with
      | nil=>exact ff hk
      | cons k ks=>exact bA hk fun h1 _=>keyIs_t (P:=fun o=>pairsOf env pos (o :: keys) (_ :: _) ≠ []) h1 fun _ _=>List.cons_ne_nil _ _
noncomputable def dctO:Obj:={ cls:=.type "dict",data:=.dict #[] }
theorem Nxt.dict (O:c.Ok) {lv:LV} {ks:List (List Nat)} {vs:List Mine.V} {kvs:List (Str × Value)} {h':Heap} {t:Nat} {σ₀:St} (h:σ.alloc lv (.dict ks vs)=some (v,σ')) (N:Nxt c env g s v σ' Q) (R:Rel c env g σ₀ s)
    (R₁:Rel c env g₁ σ s₁) (E₁:Ext env (g.hid (·=s.heap.objs.size)) g₁ { s with heap:=s.heap.push dctO } s₁) (X₁:Vxs c env g₁ s₁ vs (kvs.map (·.2))) (he:kvs.map (·.1)=ks.map toS) (hd:h'.DictOf (PySem.strKind c.prog c.w) s.heap.objs.size kvs)
    (hs:Heap.SameBut s.heap.objs.size s₁.heap h'):Q (.ref s.heap.objs.size) { s₁ with heap:=h',toks:=s₁.toks + t }:=by
  have fr:=fresh_of R
  have hXd:∀ a,a=s.heap.objs.size→g₁.X a:=fun a e=>by rw [E₁.X]; exact .inr e
  have hXg:∀ a,g.X a→g₁.X a:=fun a e=>by rw [E₁.X]; exact .inl e
  obtain ⟨o,ho,hod⟩:=Heap.dictOf_iff.mp hd
  have hs':∀ b p,¬ b=s.heap.objs.size→s₁.heap.get? b=some p→h'.get? b=some p:=fun b p e z=>(hs.2 b e).trans z
  have R₂:Rel c env g₁ σ { s₁ with heap:=h',toks:=s₁.toks + t }:=R₁.changed (D:=(·=s.heap.objs.size)) hXd hs' (fun a e=>e▸⟨o,ho⟩) (fun a e=>e▸fr.2.2) (Nat.lt_of_lt_of_le R₁.pos (Nat.le_add_right _ _))
  have X₂:Vxs c env g₁ { s₁ with heap:=h',toks:=s₁.toks + t } vs (kvs.map (·.2)):=X₁.changed (D:=(·=s.heap.objs.size)) hXd hs'
  have E₂:Ext env g { g₁ with X:=g.X } s { s₁ with heap:=h',toks:=s₁.toks + t }:=Ext.hidden (s':={ s with heap:=s.heap.push dctO }) (D:=(·=s.heap.objs.size)) (keepPush _ _) rfl (fun a e=>e▸Nat.le_refl _) E₁ hs' rfl
  have hsm:(s.heap.objs.size == sysModules)=false:=beq_false_of_ne fun e=>by
    have:=K_size O R.toRel0
    rw [e] at this
    exact absurd this (by decide)
  by_cases hlv:lv=.frz
  · subst hlv
    exact N.of (alloc_frz h rfl) _ _ _ (R₂.shown hXg) (.dict ⟨ho,fun w=>(R₂.dis _ w).1 (hXd _ rfl),fr.2.1,fr.2.2⟩ hod he (X₂.shown hXg) hsm) E₂
  · exact alloc_id (P:=fun v=>Nxt c env g s v σ' Q→_) h hlv R₂.toRel0 (fun id hid hσ N=>N _ _ _ ⟨R₂.toRel0.live (ob:=.dict ks vs) hXg (hXd _ rfl) fr.2.1 fr.2.2 hid (fun k1 k2=>⟨rfl,hsm,kvs,hd,he,X₂.mono k1 k2⟩) hσ,R₂.pos⟩ (.obj Gh.add_rho) (Ext.live E₂ (fresh_ne (Nat.le_refl _)) hid)) N
theorem ev_dct (O:c.Ok) {keys:List (Option Expr)} {ks:List (List Nat)} {es:List Expr} {C:Ora} {mes:List ME} {lv:LV} {pos} (hk:keysOk keys ks=true) (hl:ks.length=mes.length) (hl2:mes.length≤15) (hne:mes ≠ []) (H:EvAll c r env C es mes) :
    EvOk c r env (.Dict keys es pos) (ev C (.dct ks mes lv)):=fun _ _ _ _ g s _ _ hr hf R N=>bnE hf fun vs σ₁ h1 h=>gdE h fun hn h2=>bA hn fun _ hn=>by
  have P:=pushed R (o:=dctO) rfl
  have R0:Rel c env (g.hid (·=s.heap.objs.size)) _ { s with heap:=s.heap.push dctO }:=R.hide (keepPush s.heap dctO) (fun a e=>e▸Nat.le_refl _) (fun a e=>⟨_,e▸P.1⟩) R.pos
  refine wpAny_Dict_pairs (knd:=PySem.strKind c.prog c.w) (pairsOf_shape hk) (pairs_ne H hk hl hne) (Nat.le_trans (pairs_len H keys) hl2) (pairs_ok H hk hl hr h1 R0 fun ps kvs s₁ g₁ hc he R₁ X₁ E₁=>⟨kvs,hc,?_,fun h' hd hs=>?_⟩)
  · have e3:=(E₁.fz _ _ P.1 P.2.1 P.2.2.2).1
    obtain ⟨o,e1,e2⟩:=Heap.dictOf_iff.mp (Heap.DictOf.new (knd:=PySem.strKind c.prog c.w) s.heap)
    cases P.1.symm.trans e1
    exact Heap.dictOf_iff.mpr ⟨_,e3,e2⟩
  · rw [merged_nil_of_nodup kvs (by rw [he]; exact toS_nodup (of_decide_eq_true hn))] at hd
    exact Nxt.dict O h2 N R R₁ E₁ X₁ he hd hs
end
end Mine
end
noncomputable section
open PySem PySem.Calls PyProof.Rows PySem.W
namespace Mine
noncomputable def others (h:Heap) (d L:Addr):List (Addr × Obj):=(List.range h.objs.size).filterMap fun a=>if a=d∨a=L then none else (h.get? a).map (a,·)
theorem mem_others {h:Heap} {d L a:Addr} {o:Obj}:(a,o) ∈ others h d L ↔ h.get? a=some o∧a ≠ d∧a ≠ L:=by
  unfold others
  rw [List.mem_filterMap]
  constructor
  · rintro ⟨b,hb,e⟩
    by_cases hn:b=d∨b=L
    · rw [if_pos hn] at e; exact nn e
    · rw [if_neg hn] at e
      obtain ⟨o',ho,e⟩:=Option.map_eq_some_iff.mp e
      cases e
      exact ⟨ho,fun q=>hn (.inl q),fun q=>hn (.inr q)⟩
  · rintro ⟨ho,h1,h2⟩
    exact ⟨a,List.mem_range.mpr (Heap.lt_size ho),by rw [if_neg (fun q=>q.elim h1 h2),ho]; rfl⟩
section
variable {c:Cx} {r:Nat} {env:Env} {A:Around} {σ σ':St} {g g₁:Gh} {s s' s₁ s₂:Shared} {E:Value→Shared→Prop} {Q:Value→Shared→Prop} {v:Mine.V} {D:Addr→Prop}

theorem FsR.len {F:Addr→Obj→Prop} {ρ:Id→Option Addr} {fs:List (Nat × Mine.V)} {es:List DictEntry} (h:FsR c F ρ fs es):fs.length=es.length:=
  FsR.rec (motive:=fun fs es _=>fs.length=es.length) rfl (fun _ _ _ ih=>congrArg (· + 1) ih) h
theorem FsR.put (O:c.Ok) {F:Addr→Obj→Prop} {ρ:Id→Option Addr} {fs:List (Nat × Mine.V)} {es:List DictEntry} (h:FsR c F ρ fs es) {n:Nat} {x:Value} {hs:Int} {t:Tok} (hv:VR c F ρ v x) :
    FsR c F ρ (Mine.put fs n v) (putL (c.nm n) hs (.str (c.nm n) t) x es):=
  FsR.rec (motive:=fun fs es _=>FsR c F ρ (Mine.put fs n v) (putL (c.nm n) hs (.str (c.nm n) t) x es)) (.cons rfl hv .nil) (fun {n' w fs e es t'} hk hw hr ih=>by
    have e:=isStr_nm hk n
    unfold Mine.put putL
    by_cases hn:n'=n
    · rw [if_pos hn,if_pos (by rw [e,hn]; exact beq_self_eq_true _)]
      exact .cons hk hv hr
    · rw [if_neg hn,if_neg (by rw [e]; exact fun q=>hn (O.inj _ _ (bE q)))]
      exact .cons hk hw ih) h
theorem put_len (n:Nat) (v:Mine.V):∀ fs:List (Nat × Mine.V),(Mine.put fs n v).length≤fs.length + 1
  | []=>Nat.le_refl _
  | (a,b) :: fs=>by
    unfold Mine.put
    by_cases h:a=n
    · rw [if_pos h]; exact Nat.le_succ _
    · rw [if_neg h]; exact Nat.succ_le_succ (put_len n v fs)
theorem FsR.get_some (O:c.Ok) {F:Addr→Obj→Prop} {ρ:Id→Option Addr} {fs:List (Nat × Mine.V)} {es:List DictEntry} (h:FsR c F ρ fs es) (n k:Nat):(PySem.W.lookIn (c.nm n) (dictOf es k)).isSome=true:=by
  cases q:Mine.look fs n with
  | some v=>obtain ⟨x,e,-⟩:=h.lookIn_some O (k:=k) q; rw [e]; rfl
  | none=>rw [h.lookIn_none O q]; rfl

theorem setAttr_ok (O:c.Ok) {n C:Nat} {o v:Mine.V} {x y:Value} {Q:Unit→Shared→Prop} (hn:noCls c C n=true) (hf:Mine.setAttr σ n C o v=some σ') (R:Rel c env g σ s) (X:Vx c env g s o x) (Y:Vx c env g s v y)
    (N:∀ s',Rel c env g σ' s'→Ext env g g s s'→Q () s'):wpAny c.M A (PySem.setAttr x (c.nm n) y) Q E s:=
  onInstE (P:=fun o=>Vx c env g s o x→_) hf (fun id fs ho h X=>gdE h fun hlen h=>X.objE fun a ha=>by
    cases h
    have hlen:fs.length < 400:=Nat.lt_of_succ_le (Nat.le_of_ble_eq_true hlen)
    have hput:=put_len n v fs
    obtain ⟨q,hc,HO⟩:=rho_of R ho ha
    obtain ⟨hC,-,hz,es,k,he,hfs⟩:=HO
    have D:=O.clsOf hC
    obtain ⟨m,hm,-⟩:=R.loc
    have hq:q ≠ env.locals:=fun e=>(R.dis q (R.cW _ _ _ hc)).2 e
    have F:Fr {} env.locals s.heap m:=⟨hm,fun b o e=>absurd (Heap.lt_size e) (Nat.not_lt_zero _),Nat.zero_le _⟩
    have N0:News {} env.locals s.heap ((q,dictOf es k) :: others s.heap q env.locals):=fun p hp=>(List.mem_cons.mp hp).elim (fun e=>by subst e; exact ⟨he,hq,rfl⟩) fun hp=>let z:=mem_others.mp (show (p.1,p.2) ∈ _ from hp); ⟨z.1,z.2.2,rfl⟩
    have ht:takerIn c.K (c.cA C) (c.nm n)=some none:=by unfold takerIn; rw [Cls.usual hn]; rfl
    refine set_plain R.kinD (ox:=instObj (c.cA C) q) (C:=c.cA C) (od:=some (dictOf es k)) ⟨hz.1,rfl,rfl,he⟩ D.sa ?_
    refine osa_dict (s:={ s with toks:=s.toks + 1 }) (pre:=[]) (es:=putL (c.nm n) (PyData.keyHash c.w.params (c.nm n)) (.str (c.nm n) (s.toks + 1)) y es) F N0 R.kinD (ox:=instObj (c.cA C) q) ⟨hz.1,rfl,rfl,he⟩ rfl D.over ht D.dict (hfs.get_some O n k) (fun p hp=>nomatch hp) (fun p hp=>(mem_others.mp (show (p.1,p.2) ∈ _ from hp)).2.1)
      (putName_dict _ _ _ _ _ _) rfl (by rw [← (hfs.put O Y).len]; clear F N0 he hfs hz hm hc D; omega) fun h' F' N'=>?_
    have K:Keep env (·=q) s.heap h':=.of_ns (fun b p hb hl e=>(N' (b,p) (.tail _ (mem_others.mpr ⟨e,hb,hl⟩))).1) hm F'.ns
    have hd:=(N' _ (.head _)).1
    exact N _ ⟨R.toRel0.setOb hc K ⟨_,hd⟩ fun kF=>⟨hC,Nat.le_trans hput (Nat.le_trans (Nat.succ_le_succ (Nat.le_of_lt hlen)) (by decide:401≤500)),kF _ _ hz,_,_,hd,(hfs.put O Y).mono kF fun _ _ z=>z⟩,Nat.succ_pos _⟩ (Ext.setOb (R.cW _ _ _ hc) K rfl)) X
end
end Mine
end
noncomputable section
open PySem PySem.Calls PyProof.Rows PySem.W
namespace Mine
section
variable {c:Cx} {r:Nat} {env:Env} {A:Around} {σ σ' σ₁:St} {g g₁:Gh} {s s' s₁ s₂:Shared} {E:Value→Shared→Prop} {Q:Value→Shared→Prop} {v:Mine.V} {D:Addr→Prop}

theorem seqIadd:isSeqSlot (some (.builtin "list.__iadd__"))=true:=by decide +kernel
theorem fillsI_list:fillsInplaceSlot (.type "list") "add" true=pure false:=by
  unfold fillsInplaceSlot
  show (typeLookup (.type "list") (dunderI "add") >>= fun fi=>pure (fi.isSome && !isSeqSlot fi))=pure false
  rw [F.slot_list_iadd.lookup]
  show (pure (_ && !isSeqSlot _):Sem Bool)=_
  rw [seqIadd]; rfl
theorem seqSlotI_list:seqSlot? (.type "list") (dunderI "add")=pure (some (.builtin "list.__iadd__")):=by
  unfold seqSlot?
  rw [F.slot_list_iadd.lookup]
  rw [pure_bind,seqIadd]; rfl
theorem iadd_list {l b:Addr} {items items2:Array Value} {n n2:Nat} (hl:IsL s.heap l items n) (hb:IsL s.heap b items2 n2) (hz:items.size + items2.size≤sizeLine)
    (h:Q (.ref l) { s with heap:=s.heap.update l (Obj.mapSeq fun x=>x ++ items2) }):wpAny c.M A (inplaceOp .Add (.ref l) (.ref b)) Q E s:=by
  have ha:s.TypeIs (.ref l) "list":=⟨_,hl,rfl⟩
  have hb':s.TypeIs (.ref b) "list":=⟨_,hb,rfl⟩
  have hzl:=Nat.not_lt.mpr hz
  unfold inplaceOp
  refine wpAny_holding (wpAny_bind (wpAny_typeOf ha (wpAny_bind (wpAny_of_eq fillsI_list ?_))))
  show wpAny _ _ (if false=true then _ else _) _ _ _
  rw [if_neg Bool.false_ne_true]
  refine wpAny_bind (binaryOp1_none (nm:="add") ha hb' PySem.noFill_list_add (wpAny_bind (wpAny_of_eq seqSlotI_list (wpAny_bind (wpAny_rule ?_)))))
  exact call_meets F.slot_list_iadd ha F.entry_list_iadd (F.args_list_iadd_2 _ _) (AutoSeq1.list___iadd___list_list_0 l items n b items2 n2 (by
    unfold Builtin.List.listTooLong
    exact fun q=>hzl (of_decide_eq_true (Bool.and_eq_true_iff.mp q).2)) (by clear ha hb' hl hb h; omega) (by clear ha hb' hl hb h; omega)) ⟨hl,hb,h⟩
noncomputable def bopOf:Bop→Operator
  | .add=>.Add | .sub=>.Sub | .mul=>.Mult | .fdiv=>.FloorDiv | .mod=>.Mod
theorem iop_int {o:Bop} {i:Int} {b w:Mine.V} {x y:Value} (ho:o=.add∨o=.sub) (hf:bopV σ o (.int i) b=some w) (R:Rel c env g σ s) (hx:Vx c env g s (.int i) x) (hy:Vx c env g s b y) (N:Nxt c env g s w σ Q):wpAny c.M A (inplaceOp (bopOf o) x y) Q E s:=by
  rcases ho with rfl | rfl
  · exact onIntE (P:=fun b=>Vx c env g s b y→_) (show onInt b (fun b=>some (V.int (i + b)))=some w from hf) (fun j h hy=>by cases h; exact hx.intE (P:=fun x=>wpAny c.M A (inplaceOp .Add x y) Q E s) fun t=>hy.intE (P:=fun y=>wpAny c.M A (inplaceOp .Add _ y) Q E s) fun u=>PyProof.Rows.iadd_int (N.toks R (.int _ _))) hy
  · exact int2E (P:=fun x y=>wpAny c.M A (inplaceOp .Sub x y) Q E s) (a:=.int i) (b:=b) (f:=fun a b=>some (V.int (a - b))) hf hx hy fun i j t u e=>by cases e; exact P.isub_int (N.toks R (.int _ _))
theorem iop_str {o:Bop} {z:List Nat} {b w:Mine.V} {x y:Value} (ho:o=.add∨o=.sub) (hf:bopV σ o (.str z) b=some w) (R:Rel c env g σ s) (hx:Vx c env g s (.str z) x) (hy:Vx c env g s b y) (N:Nxt c env g s w σ Q):wpAny c.M A (inplaceOp (bopOf o) x y) Q E s:=by
  rcases ho with rfl | rfl
  · exact onStrE (P:=fun b=>Vx c env g s b y→_) (show onStr b (fun b=>bd (z.length + b.length) (some (V.str (z ++ b))))=some w from hf) (fun w h hy=>bdE h fun hl e=>by
      cases e
      exact hx.strE (P:=fun x=>wpAny c.M A (inplaceOp .Add x y) Q E s) fun t=>hy.strE (P:=fun y=>wpAny c.M A (inplaceOp .Add _ y) Q E s) fun u=>wpAny_toks R.pos (PyProof.Rows.iadd_str (fun t' tk ht=>toS_app' z w▸N.toks R (.str _ _) ht) (by rw [toS_len,toS_len]; exact hl))) hy
  · exact nn hf
theorem iop_ok {o:Bop} {a b w:Mine.V} {x y:Value} (ho:o=.add∨o=.sub) (hf:iopV σ o a b=some (w,σ')) (R:Rel c env g σ s) (hx:Vx c env g s a x) (hy:Vx c env g s b y) (N:Nxt c env g s w σ' Q):wpAny c.M A (inplaceOp (bopOf o) x y) Q E s:=by
  cases a with
  | int i=>exact boE (show bo (bopV σ o (.int i) b) (fun w=>some (w,σ))=some (w,σ') from hf) fun u h1 h2=>iop_int ho h1 R hx hy (N.of h2)
  | str z=>exact boE (show bo (bopV σ o (.str z) b) (fun w=>some (w,σ))=some (w,σ') from hf) fun u h1 h2=>iop_str ho h1 R hx hy (N.of h2)
  | obj id =>
    refine gdE (show gd (decide (o=.add)) (onList σ (.obj id) fun id l=>onListOf σ b fun l'=>bd (l.length + l'.length) (some (V.obj id,σ.setOb id (.list (l ++ l')))))=some (w,σ') from hf) fun h1 h=>boE (show bo (look σ.hp id) _=some (w,σ') from h) fun ob hob h=>?_
    cases of_decide_eq_true h1
    cases ob <;> first | exact nn h | skip
    rename_i l
    exact hx.objE (P:=fun x=>wpAny c.M A (inplaceOp .Add x y) Q E s) fun a1 ha=>listOfE (P:=fun y=>wpAny c.M A (inplaceOp .Add _ y) Q E s) R h hy fun l' a2 i2 n2 h hi2 hv2=>bdE h fun hz e=>by
      obtain ⟨i1,n1,hcs,hi1,hv1⟩:=liveList R hob ha
      obtain ⟨R₃,E₃⟩:=seqNext (f:=fun x=>x ++ i2) (l':=l ++ l') R hcs hi1 (by rw [Array.toList_append]; exact hv1.append hv2)
      exact iadd_list hi1 hi2 (by rw [size_of hv1,size_of hv2]; exact hz) (N.of e _ _ _ R₃ (.obj (E₃.rho ha)) E₃)
  | _=>exact nn hf

theorem LocR.set (O:c.Ok) {F:Addr→Obj→Prop} {ρ:Id→Option Addr} {loc:List (Nat × Mine.V)} {m m':Str→Option Value} {n:Nat} {v:Mine.V} {x:Value} (hk:env.kindOf (c.nm n)=some .local) (h:LocR c env F ρ loc m) (X:VR c F ρ v x) (h1:m' (c.nm n)=some x) (h2:∀ y,y ≠ c.nm n→m' y=m y):LocR c env F ρ (put loc n v) m':=fun n' v' e=>by
  rw [look_put] at e
  by_cases hnn:n=n'
  · rw [if_pos hnn] at e
    cases e
    subst hnn
    exact ⟨fun _=>⟨x,h1,X⟩,fun z=>by rw [hk] at z; cases z⟩
  · rw [if_neg hnn] at e
    exact ⟨fun z=>((h n' v' e).1 z).imp fun y w=>⟨(h2 _ fun q=>hnn (O.inj _ _ q).symm).trans w.1,w.2⟩,(h n' v' e).2⟩
theorem store_ok (O:c.Ok) (VV:EnvOk env) {n:Nat} {v:Mine.V} {x:Value} {Q:Unit→Shared→Prop} (hk:env.kindOf (c.nm n)=some .local) (R:Rel c env g σ s) (X:Vx c env g s v x)
    (N:∀ s',Rel c env g (σ.setLoc n v) s'→Ext env g g s s'→Q () s'):wpAny c.M A (storeName env (c.nm n) x) Q E s:=by
  obtain ⟨m,hm,hl⟩:=R.loc
  refine wpAny_storeName_local hk hm (fun h' hn hs=>?_) (by rw [VV.kind]; rfl)
  have kF:∀ a o,Fz env g s.heap a o→Fz env g h' a o:=fun a o z=>⟨(hs.2 _ (fun e=>z.2.2.2 e)).trans z.1,z.2⟩
  have kk:∀ b p,b ≠ env.locals→s.heap.get? b=some p→h'.get? b=some p:=fun b p hb e=>(hs.2 _ hb).trans e
  have al:∀ a,(∃ p,s.heap.get? a=some p)→∃ p,h'.get? a=some p:=fun a e=>Classical.byCases (fun e2:a=env.locals=>let ⟨p,_,_,z,_⟩:=hn; ⟨p,e2▸z⟩) fun e2=>e.imp fun p z=>kk _ _ e2 z
  exact N _ ⟨⟨fun a o e=>kF _ _ (R.kin a o e),fun a e=>al a (R.wob a e),fun a e=>al a (R.xob a e),fun a e=>al a (R.fob a e),R.dis,⟨_,hn,(hl.mono kF fun _ _ z=>z).set O hk (X.mono kF fun _ _ z=>z) (if_pos rfl) fun y hy=>if_neg hy⟩,
    fun id ob e=>(R.obs id ob e).imp fun r'=>Exists.imp fun o' z=>⟨z.1,z.2.mono kF (fun _ _ z=>z) fun p=>kk _ _ (R.dis _ (R.cW _ _ _ z.1)).2⟩,R.cW,R.inj,R.nx,R.ps⟩,Nat.succ_pos _⟩
    ⟨fun a o e w f=>⟨kk _ _ (fun q=>f q) e,w⟩,fun _ _ e=>e,rfl,rfl⟩

noncomputable def FlR (c:Cx) (env:Env) (g:Gh) (s:Shared) (f:FL) (w:Flow):Prop:=match f with
  | .next=>w=.next
  | .brk=>w=.brk
  | .cont=>w=.cont
  | .ret v=>∃ x,w=.ret x∧Vx c env g s v x
theorem FlR.map {g₁:Gh} {s₁:Shared} {env':Env} {f:FL} {w:Flow} (k:∀ v x,Vx c env g s v x→Vx c env' g₁ s₁ v x) (h:FlR c env g s f w):FlR c env' g₁ s₁ f w:=by
  cases f with
  | ret v=>exact Exists.imp (fun x z=>⟨z.1,k v x z.2⟩) h
  | _=>exact h
theorem FlR.ext {f:FL} {w:Flow} (h:FlR c env g s f w) (x:Ext env g g₁ s s₁):FlR c env g₁ s₁ f w:=h.map fun v y=>VR.ext x
noncomputable def NxtF (c:Cx) (env:Env) (g:Gh) (s:Shared) (f:FL) (σ':St) (Q:Flow→Shared→Prop):Prop:=
  ∀ w s' g',Rel c env g' σ' s'→FlR c env g' s' f w→Ext env g g' s s'→Q w s'
theorem NxtF.trans {f:FL} {Q:Flow→Shared→Prop} (N:NxtF c env g s f σ' Q) (x:Ext env g g₁ s s₁):NxtF c env g₁ s₁ f σ' Q:=fun w s' g' R h e=>N w s' g' R h (x.trans e)
theorem NxtF.of {f f':FL} {Q:Flow→Shared→Prop} (e:some (f',σ₁)=some (f,σ')) (N:NxtF c env g s f σ' Q):NxtF c env g s f' σ₁ Q:=by cases e; exact N
theorem NxtF.nxt {Q:Flow→Shared→Prop} (N:NxtF c env g s .next σ' Q) {g':Gh} {s':Shared} (R:Rel c env g' σ' s') (x:Ext env g g' s s'):Q .next s':=N _ _ _ R rfl x
noncomputable def ExOk (c:Cx) (r:Nat) (env:Env) (b:Stmt) (f:St→Option (FL × St)):Prop:=
  ∀ ⦃A:Around⦄ ⦃σ:St⦄ ⦃fl:FL⦄ ⦃σ':St⦄ ⦃g:Gh⦄ ⦃s:Shared⦄ ⦃E:Value→Shared→Prop⦄ ⦃Q:Flow→Shared→Prop⦄,
    Room A r→f σ=some (fl,σ')→Rel c env g σ s→NxtF c env g s fl σ' Q→wpAny c.M A (exec b env) Q E s
noncomputable def ExsOk (c:Cx) (r:Nat) (env:Env) (b:List Stmt) (f:St→Option (FL × St)):Prop:=
  ∀ ⦃A:Around⦄ ⦃σ:St⦄ ⦃fl:FL⦄ ⦃σ':St⦄ ⦃g:Gh⦄ ⦃s:Shared⦄ ⦃E:Value→Shared→Prop⦄ ⦃Q:Flow→Shared→Prop⦄,
    Room A r→f σ=some (fl,σ')→Rel c env g σ s→NxtF c env g s fl σ' Q→wpAny c.M A (execs b env) Q E s
variable {C:Ora} {e t:Expr} {m mt:ME} {pos:Pos} {n D:Nat} {b o:List Stmt} {mb mo:List MS}
theorem exs_nil:ExsOk c r env [] (exs C []):=fun _ _ _ _ _ _ _ _ _ hf R N=>wpAny_execs_nil ((N.of hf).nxt R .refl)
theorem exs_cons {b:Stmt} {bs:List Stmt} {m:MS} {ms:List MS} (H:ExOk c r env b (exc C m)) (H2:ExsOk c r env bs (exs C ms)):ExsOk c r env (b :: bs) (exs C (m :: ms)):=fun _ _ _ _ _ _ _ _ hr hf R N=>bnE hf fun fl σ₁ h1 h2 =>
  wpAny_execs_cons (H hr h1 R fun w s₁ g₁ R₁ X₁ E₁=>by
    cases fl with
    | next=>cases X₁; exact H2 hr h2 R₁ (N.trans E₁)
    | brk=>cases X₁; exact N.of h2 _ _ _ R₁ rfl E₁
    | cont=>cases X₁; exact N.of h2 _ _ _ R₁ rfl E₁
    | ret v=>obtain ⟨x,rfl,hx⟩:=X₁; exact N.of h2 _ _ _ R₁ ⟨x,rfl,hx⟩ E₁)
theorem ex_pass:ExOk c r env (.Pass pos) (exc C .pass):=fun _ _ _ _ _ _ _ _ _ hf R N=>wpAny_Pass ((N.of hf).nxt R .refl)
theorem ex_brk:ExOk c r env (.Break pos) (exc C .brk):=fun _ _ _ _ _ _ _ _ _ hf R N=>wpAny_Break (N.of hf _ _ _ R rfl .refl)
theorem ex_cont:ExOk c r env (.Continue pos) (exc C .cont):=fun _ _ _ _ _ _ _ _ _ hf R N=>wpAny_Continue (N.of hf _ _ _ R rfl .refl)
theorem ex_ret (H:EvOk c r env e (ev C m)):ExOk c r env (.Return (some e) pos) (exc C (.ret m)):=fun _ _ _ _ _ _ _ _ hr hf R N=>bnE hf fun v σ₁ h1 h2=>wpAny_Return_some (H hr h1 R fun x s₁ g₁ R₁ X₁ E₁=>N.of h2 _ _ _ R₁ ⟨x,rfl,X₁⟩ E₁)
theorem ex_ret0:ExOk c r env (.Return none pos) (exc C (.ret (.k .none))):=fun _ _ _ _ _ _ _ _ _ hf R N=>wpAny_Return_none (N.of (show some (FL.ret .none,_)=some _ from hf) _ _ _ R ⟨_,rfl,.none⟩ .refl)
theorem ex_iff (H:TstOk c r env t (tst C mt)) (H2:ExsOk c r env b (exs C mb)) (H3:ExsOk c r env o (exs C mo)):ExOk c r env (.If t b o pos) (exc C (.iff mt mb mo)):=fun _ _ _ _ _ _ _ _ hr hf R N=>bnE hf fun q σ₁ h1 h2=>wpAny_If (H hr h1 R fun s₁ g₁ R₁ E₁=>by
  cases q with
  | true=>exact H2 hr h2 R₁ (N.trans E₁)
  | false=>exact H3 hr h2 R₁ (N.trans E₁))
theorem ex_asrt (H:TstOk c r env t (tst C mt)):ExOk c r env (.Assert t none pos) (exc C (.asrt mt)):=fun _ _ _ _ _ _ _ _ hr hf R N=>bnE hf fun q σ₁ h1 h2=>gdE h2 fun hq h2=>wpAny_Assert hr.1 (H hr h1 R fun s₁ g₁ R₁ E₁=>by subst hq; exact (N.of h2).nxt R₁ E₁)

noncomputable def noComp (e:Expr):Bool:=(ctt fun h=>Expr.ListComp.elim (motive_1:=fun _=>Bool) e h fun _ _ _ _=>false) && ((ctt fun h=>Expr.SetComp.elim (motive_1:=fun _=>Bool) e h fun _ _ _ _=>false) && ctt fun h=>Expr.DictComp.elim (motive_1:=fun _=>Bool) e h fun _ _ _ _ _=>false)
theorem swaps_no {e:Expr} (h:noComp e=true) {t:Option Expr} {n:Nat}:swapsWith e t n env=pure false:=by
  cases e <;> first | rfl | exact ff h
theorem ex_asg (O:c.Ok) (VV:EnvOk env) {np} (hk:env.kindOf (c.nm n)=some .local) (hc:noComp e=true) (H:EvOk c r env e (ev C m)):ExOk c r env (.Assign [.Name (c.nm n) np] e pos) (exc C (.asg n m)):=fun _ _ _ _ _ _ _ _ hr hf R N=>bnE hf fun v σ₁ h1 h2 =>
  wpAny_Assign_Name (H hr h1 R fun x s₁ g₁ R₁ X₁ E₁=>store_ok O VV hk R₁ X₁ fun s₂ R₂ E₂=>(N.of h2).nxt R₂ (E₁.trans E₂)) (swaps_no hc)
theorem ex_asgA (O:c.Ok) {np} (hn:noCls c D n=true) (hc:noComp e=true) (H:EvOk c r env e (ev C m)) (H2:EvOk c r env t (ev C mt)):ExOk c r env (.Assign [.Attribute t (c.nm n) np] e pos) (exc C (.asgA mt n D m)):=fun _ _ _ _ _ _ _ _ hr hf R N=>bnE hf fun v σ₁ h1 h=>bnE h fun o σ₂ h3 h=>boE h fun σ₃ h5 h6 =>
  plainObj_wpAny_Assign_Attribute (H hr h1 R fun x s₁ g₁ R₁ X₁ E₁=>H2 hr h3 R₁ fun y s₂ g₂ R₂ X₂ E₂ =>
    setAttr_ok O hn h5 R₂ X₂ (X₁.ext E₂) fun s₃ R₃ E₃=>(N.of h6).nxt R₃ (E₁.trans (E₂.trans E₃))) (swaps_no hc)
theorem ex_ex (hi:interactive env=false) (hc:noComp e=true) (H:EvOk c r env e (ev C m)):ExOk c r env (.Expr e pos) (exc C (.ex m)):=fun _ _ _ _ _ _ _ _ hr hf R N=>bnE hf fun v σ₁ h1 h=>gdE h fun hv h2 =>
  wpAny_Expr (H hr h1 R fun x s₁ g₁ R₁ X₁ E₁=>by
    have n:=(N.of h2).nxt R₁ E₁
    cases v <;> first | exact ff hv | skip
    · exact X₁.noneE n
    · exact X₁.boolE n
    · exact X₁.strE fun t=>n) hi (swaps_no hc)
end
end Mine
end
noncomputable section
open PySem PySem.Calls PyProof.Rows PySem.W
namespace Mine
section
variable {c:Cx} {r:Nat} {env:Env} {A:Around} {σ σ':St} {g g₁:Gh} {s s' s₁ s₂:Shared} {E:Value→Shared→Prop} {Q:Value→Shared→Prop} {v:Mine.V} {D:Addr→Prop}

inductive WhlI (c:Cx) (env:Env) (C:Ora) (mt:ME) (mb:List MS) (g:Gh) (s:Shared) (w:FL × St) (n:Nat) (s':Shared):Prop
  | mk (σ₁:St) (g₁:Gh) (R:Rel c env g₁ σ₁ s') (E:Ext env g g₁ s s') (run:whileN (tst C mt) (exs C mb) n σ₁=some w)
theorem loop_end {f fl:FL} {w:Flow} {go:Option (FL × St)} {Q:Flow→Shared→Prop} {P:Flow→Prop} (h:loopK f go σ=some (fl,σ')) (X:FlR c env g₁ s₁ f w) (k1:go=some (fl,σ')→P .next) (k2:go=some (fl,σ')→P .cont) (k3:some (FL.next,σ)=some (fl,σ')→P .brk)
    (k4:∀ v x,some (FL.ret v,σ)=some (fl,σ')→Vx c env g₁ s₁ v x→P (.ret x)):P w:=by
  cases f with
  | next=>cases X; exact k1 h
  | cont=>cases X; exact k2 h
  | brk=>cases X; exact k3 h
  | ret v=>obtain ⟨x,rfl,hx⟩:=X; exact k4 v x h hx
theorem ex_whl {C:Ora} {t:Expr} {b:List Stmt} {mt:ME} {mb:List MS} {pos} (H:TstOk c r env t (tst C mt)) (H2:ExsOk c r env b (exs C mb)):ExOk c r env (.While t b [] pos) (exc C (.whl mt mb)):=fun A σ fl σ' g s E Q hr hf R N =>
  wpAny_While (codeAny_whileLoop (I:=WhlI c env C mt mb g s (fl,σ')) (fun n s₁ h=>by
    cases h with
    | mk σ₁ g₁ R₁ E₁ h =>
      cases n with
      | zero=>exact nn h
      | succ n =>
        exact bnE h fun q σ₂ h1 h2=>H hr h1 R₁ fun s₂ g₂ R₂ E₂=>by
          cases q with
          | false=>exact wpAny_execs_nil ((N.of h2).nxt R₂ (E₁.trans E₂))
          | true =>
            exact bnE h2 fun f σ₃ h3 h4=>H2 hr h3 R₂ fun w s₃ g₃ R₃ X₃ E₃=>by
              have E:=E₁.trans (E₂.trans E₃)
              have nx:whileN (tst C mt) (exs C mb) n σ₃=some (fl,σ')→∃ m,m < n + 1∧WhlI c env C mt mb g s (fl,σ') m s₃:=fun h=>⟨n,Nat.lt_succ_self _,.mk σ₃ g₃ R₃ E h⟩
              cases f with
              | next=>cases X₃; exact nx h4
              | cont=>cases X₃; exact nx h4
              | brk=>cases X₃; exact (N.of h4).nxt R₃ E
              | ret v=>obtain ⟨x,rfl,hx⟩:=X₃; exact N.of h4 _ _ _ R₃ ⟨x,rfl,hx⟩ E) bigN (.mk σ g R .refl hf))

structure ItF (c:Cx) (env:Env) (g:Gh) (s:Shared) (l:List Mine.V) (o:Obj) (fp:List Addr) (P:Nat→Value→Prop) (S:Nat→Heap→Prop):Prop where
  fr:o.isFreed=false
  walks:∀ A':Around,A'.handled=none→Walks c.prog c.w A' s.heap.objs.size fp [s.heap.objs.size] l.length P S
  s0:S 0 (s.heap.push o)
  item:∀ i y,i < l.length→P i y→∃ w,l[i]?=some w∧Vx c env g s w y
  fp:∀ b ∈ fp,b=s.heap.objs.size∨∃ o,Fz env g s.heap b o
  alive:∀ i h,S i h→∃ p,h.get? s.heap.objs.size=some p
theorem item_of {l:List Mine.V} {items:Array Value} (r1:Vxs c env g s l items.toList) (i:Nat) (y:Value) (hlt:i < l.length) (hy:items[i]?=some y):∃ w,l[i]?=some w∧Vx c env g s w y:=by
  obtain ⟨y',e1,e2⟩:=r1.get (List.getElem?_eq_getElem hlt)
  rw [Array.getElem?_toList,hy] at e1
  cases e1
  exact ⟨_,List.getElem?_eq_getElem hlt,e2⟩
theorem one_cell {a b:Addr} {P:Prop} (hb:b ∈ [a]):b=a∨P:=.inl (List.mem_singleton.mp hb)
theorem two_cells {x a b:Addr} {o:Obj} (f:Fz env g s.heap a o) (hb:b ∈ [x,a]):b=x∨∃ o,Fz env g s.heap b o:=(List.mem_cons.mp hb).imp id fun hb=>by cases List.mem_singleton.mp hb; exact ⟨o,f⟩
theorem sign_item {w:List Nat} (i:Nat) (y:Value) (h:SignAt (toS w) i y):∃ u,(w.map fun c=>Mine.V.str [c])[i]?=some u∧Vx c env g s u y:=by
  obtain ⟨d,u,h1,rfl⟩:=h
  refine ⟨.str [d],?_,.str [d] u⟩
  have:w[i]?=some d:=(List.getElem?_toArray (xs:=w) (i:=i)).symm.trans h1
  rw [List.getElem?_map,this]; rfl
theorem small2 {a b:Int} {P:Prop} (h:(small a && small b)=true) (k:-16777216≤a→a≤16777216→-16777216≤b→b≤16777216→P):P:=
  bA h fun h1 h2=>bA h1 fun a1 a2=>bA h2 fun b1 b2=>k (of_decide_eq_true a1) (of_decide_eq_true a2) (of_decide_eq_true b1) (of_decide_eq_true b2)
theorem rng_size {lo hi:Int}:(if lo < hi then hi - lo else 0)=(((hi - lo).toNat:Int) - ((0:Nat):Int)):=by
  show _=((hi - lo).toNat:Int) - 0
  by_cases h:lo < hi
  · rw [if_pos h,Int.sub_zero,Int.toNat_of_nonneg (Int.sub_nonneg_of_le (Int.le_of_lt h))]
  · rw [if_neg h,Int.sub_zero,Int.toNat_of_nonpos (Int.sub_nonpos_of_le (Int.not_lt.mp h))]; rfl
theorem rng_room {a b:Int} (h1:-16777216≤a) (h2:a≤16777216):-(2 ^ 63)≤a∧a < 2 ^ 63:=by omega
theorem iter_ok {v:Mine.V} {l:List Mine.V} {x:Value} (hf:iterV v=some l) (R:Rel c env g σ s) (X:Vx c env g s v x)
    (N:∀ (o:Obj) (fp:List Addr) (P:Nat→Value→Prop) (S:Nat→Heap→Prop),ItF c env g s l o fp P S→Q (.ref s.heap.objs.size) { s with heap:=s.heap.push o }):wpAny c.M A (pyIter x) Q E s:=by
  cases v with
  | str w =>
    cases hf
    refine X.strE fun t=>?_
    cases ha:(toS w).cps.all (· < 128)
    · exact wpAny_pyIter_wide ha (N _ [_] (SignAt (toS w)) (fun i h=>h.IsStrIter s.heap.objs.size "str_iterator" (toS w) t i) ⟨rfl,fun A' hA=>by rw [List.length_map]; exact Walks.strWide hA _ (toS w) t,⟨_,Heap.get?_push_size _ rfl,rfl,rfl⟩,fun i y _ h=>sign_item i y h,fun b hb=>one_cell hb,fun _ _ z=>z.imp fun _ z=>z.1⟩)
    · exact wpAny_pyIter_ascii ha (N _ [_] (SignAt (toS w)) (fun i h=>h.IsStrIter s.heap.objs.size "str_ascii_iterator" (toS w) t i) ⟨rfl,fun A' hA=>by rw [List.length_map]; exact Walks.strAscii hA _ (toS w) t,⟨_,Heap.get?_push_size _ rfl,rfl,rfl⟩,fun i y _ h=>sign_item i y h,fun b hb=>one_cell hb,fun _ _ z=>z.imp fun _ z=>z.1⟩)
  | tup l =>
    cases hf
    refine X.tupE fun a o items n f1 c1 d1 r1=>?_
    have ht:s.heap.IsTuple a items:=⟨_,f1.1,c1,_,d1⟩
    have hne:a ≠ s.heap.objs.size:=Nat.ne_of_lt (Heap.lt_size f1.1)
    exact wpAny_pyIter_tuple ht (N _ [_,a] (fun i y=>items[i]?=some y) (fun i h=>h.IsTupleIter s.heap.objs.size a i∧h.IsTuple a items) ⟨rfl,fun A' hA=>by rw [← size_of r1]; exact Walks.tuple hA _ a hne items,⟨⟨_,Heap.get?_push_size _ rfl,rfl,rfl⟩,⟨_,Heap.get?_push_of_some _ f1.1,c1,_,d1⟩⟩,item_of r1,fun b hb=>two_cells f1 hb,fun _ _ z=>z.1.imp fun _ z=>z.1⟩)
  | list l =>
    cases hf
    refine X.listE fun a items n f1 r1=>?_
    have hl:s.heap.IsList a items:=IsL.isList f1.1
    have hne:a ≠ s.heap.objs.size:=Nat.ne_of_lt (Heap.lt_size f1.1)
    exact wpAny_pyIter_list hl (N _ [_,a] (fun i y=>items[i]?=some y) (fun i h=>h.IsListIter s.heap.objs.size a i∧h.IsList a items) ⟨rfl,fun A' hA=>by rw [← size_of r1]; exact Walks.list hA _ a hne items,⟨⟨_,Heap.get?_push_size _ rfl,rfl,rfl⟩,hl.push _⟩,item_of r1,fun b hb=>two_cells f1 hb,fun _ _ z=>z.1.imp fun _ z=>z.1⟩)
  | rng lo hi =>
    refine gdE (show gd (small lo && small hi) (some ((List.range (hi - lo).toNat).map fun (i:Nat)=>Mine.V.int (lo + i)))=some l from hf) fun hb e=>small2 hb fun b1 b2 b3 b4=>X.rngE fun a t u v f1=>?_
    cases e
    refine wpAny_pyIter_range f1.1 (small_one (by clear R X N f1 hf hb; omega) (by clear R X N f1 hf hb; omega) (by clear R X N f1 hf hb; omega) (by clear R X N f1 hf hb; omega)) (N _ [_] _ (fun i h=>IsRangeIter h s.heap.objs.size (lo + (i:Nat) * 1) (((hi - lo).toNat:Int) - (i:Nat)) 1) ⟨rfl,
      fun A' hA=>by rw [List.length_map,List.length_range]; exact Walks.range hA _ lo 1 (hi - lo).toNat,?_,fun i y hi h=>?_,fun b hb=>one_cell hb,fun _ _ z=>⟨_,z⟩⟩)
    · rw [rangeSize_one,rng_size,show lo + ((0:Nat):Int) * 1=lo from Int.add_zero lo]
      exact Heap.get?_push_size _ rfl
    · obtain ⟨t,rfl⟩:=h
      rw [List.length_map,List.length_range] at hi
      refine ⟨.int (lo + i),by rw [List.getElem?_map,List.getElem?_range hi]; rfl,?_⟩
      rw [Int.mul_one]
      exact .int _ _
  | _=>exact nn hf

theorem Ext.changed (x:Ext env g g₁ s s₁) (hD:∀ a,D a→s.heap.objs.size≤a) (hs:∀ b p,¬ D b→s₁.heap.get? b=some p→s'.heap.get? b=some p) (hg:gos s'=gos s₁):Ext env g g₁ s s':=
  ⟨fun a o e w f=>let ⟨z,w'⟩:=x.fz a o e w f; ⟨hs _ _ (fun d=>old_ne e (hD a d) rfl) z,w'⟩,x.cs,x.X,hg.trans x.gens⟩
theorem Ext.reX {X:Addr→Prop} (x:Ext env g g₁ s s₁):Ext env { g with X:=X } { g₁ with X:=X } s s₁:=⟨x.fz,x.cs,rfl,x.gens⟩
theorem Rel.drop {X:Addr→Prop} (R:Rel c env g₁ σ s₁) (hX:∀ a,X a→g₁.X a) (hDX:∀ a,D a→g₁.X a) (hn:∀ a,X a→¬ D a) (hs:∀ b p,¬ D b→s₁.heap.get? b=some p→s'.heap.get? b=some p) (hfa:∀ a,D a→¬ FA env a) (hp:0 < s'.toks) :
    Rel c env { g₁ with X:=X } σ s':=
  ⟨R.toRel0.carry (fun a o z=>⟨hs _ _ (fun d=>z.2.2.1 (hDX a d)) z.1,z.2.1,fun x=>z.2.2.1 (hX a x),z.2.2.2⟩) (fun a o w e=>hs _ _ (fun d=>(R.dis a w).1 (hDX a d)) e) (fun m hm=>hm.at fun p e=>hs _ _ (fun d=>hfa _ d rfl) e) rfl rfl (fun a x=>(R.xob a (hX a x)).imp fun o e=>hs _ _ (hn a x) e) (fun a x w=>(R.dis a w).1 (hX a x)),hp⟩
theorem FlR.shown {X:Addr→Prop} {f:FL} {w:Flow} (h:FlR c env g₁ s₁ f w) (hX:∀ a,X a→g₁.X a):FlR c env { g₁ with X:=X } s₁ f w:=h.map fun v x z=>z.shown hX

noncomputable abbrev Hid1 (a₀:Addr) (g₁ g₂:Gh):Prop:=g₂.X=(g₁.hid (·=a₀)).X
theorem Hid1.d {a₀:Addr} {g₁ g₂:Gh} (h:Hid1 a₀ g₁ g₂):∀ a,a=a₀→g₂.X a:=fun a e=>by rw [h]; exact .inr e
theorem Hid1.o {a₀:Addr} {g₁ g₂:Gh} (h:Hid1 a₀ g₁ g₂):∀ a,g₁.X a→g₂.X a:=fun a e=>by rw [h]; exact .inl e
inductive ForI (c:Cx) (env:Env) (go:List Mine.V→St→Option (FL × St)) (l:List Mine.V) (S:Nat→Heap→Prop) (g₁:Gh) (s₁:Shared) (w:FL × St) (k:Nat) (s₂:Shared):Prop
  | mk (i:Nat) (σ₂:St) (g₂:Gh) (hk:k=l.length + 1 - i) (hi:i≤l.length) (R:Rel c env g₂ σ₂ s₂) (X:Hid1 s₁.heap.objs.size g₁ g₂) (E:Ext env g₁ { g₂ with X:=g₁.X } s₁ s₂) (hS:S i s₂.heap) (run:go (l.drop i) σ₂=some w)
theorem Ext.in1 {g₂:Gh} (X:Hid1 s₁.heap.objs.size g₁ g₂) (E:Ext env g₁ { g₂ with X:=g₁.X } s₁ s₂) {a:Addr} {o:Obj} (z:Mine.Fz env g₁ s₁.heap a o):Mine.Fz env g₂ s₂.heap a o:=
  ⟨(E.Fz z).1,(E.Fz z).2.1,fun h=>by rw [X] at h; exact h.elim z.2.2.1 fun h=>old_ne z.1 (Nat.le_refl _) h,z.2.2.2⟩
theorem turn_lt {n i:Nat} (h:i < n):n + 1 - (i + 1) < n + 1 - i:=Nat.sub_lt_sub_left (Nat.lt_succ_of_lt h) (Nat.lt_succ_self i)
theorem ex_for (O:c.Ok) (VV:EnvOk env) {C:Ora} {n:Nat} {it:Expr} {b:List Stmt} {mi:ME} {mb:List MS} {np pos} (hk:env.kindOf (c.nm n)=some .local) (hs:∀ x,foldedSetIterable it env x=pure x)
    (H:EvOk c r env it (ev C mi)) (H2:ExsOk c r env b (exs C mb)):ExOk c r env (.For (.Name (c.nm n) np) it b [] pos) (exc C (.for n mi mb)):=fun A σ fl σ' g s E Q hr hf R N=>bnE hf fun v σ₁ h1 h=>boE h fun l h3 h4 =>
  wpAny_For (H hr h1 R fun x s₁ g₁ R₁ X₁ E₁=>iter_ok h3 R₁ X₁ fun o fp P S I=>by
    have W:=I.walks A hr.1
    have fr:=fresh_of R₁
    have ho:(s₁.heap.push o).get? s₁.heap.objs.size=some o:=Heap.get?_push_size _ I.fr
    have hfa:∀ a,a=s₁.heap.objs.size→¬ FA env a:=fun a e=>e▸fr.2.2
    have hD:∀ a,a=s₁.heap.objs.size→s₁.heap.objs.size≤a:=fun a e=>e▸Nat.le_refl _
    refine codeAny_forLoop (I:=ForI c env (forN (fun v σ=>some (σ.setLoc n v)) (exs C mb)) l S g₁ s₁ (fl,σ')) (fun k s₂ h=>?_) (l.length + 1)
      (.mk 0 σ₁ _ rfl (Nat.zero_le _) (R₁.hide (s':={ s₁ with heap:=s₁.heap.push o }) (keepPush _ _) hD (fun a e=>⟨_,e▸ho⟩) R₁.pos) rfl ⟨fun a p e w _=>⟨keepPush _ _ _ _ e,w⟩,fun _ _ e=>e,rfl,rfl⟩ I.s0 h4) (fun _=>rfl)
    cases h with
    | mk i σ₂ g₂ hk' hi R₂ hX E₂ hS₂ hF =>
      have kk:∀ {h':Heap},(∀ b p,b ∉ [s₁.heap.objs.size]→s₂.heap.get? b=some p→h'.get? b=some p)→∀ b p,¬ b=s₁.heap.objs.size→s₂.heap.get? b=some p→h'.get? b=some p:=fun h b p hb=>h b p fun q=>hb (List.mem_singleton.mp q)
      by_cases hlt:i < l.length
      · refine wpAny_toks R₂.pos (W.item i s₂ _ _ hlt hS₂ fun y h' tk hPy hS' hk₂ htk=>?_)
        obtain ⟨w,hw,hwy⟩:=I.item i y hlt hPy
        have R₃:Rel c env g₂ σ₂ { s₂ with heap:=h',toks:=tk }:=R₂.changed (D:=(·=s₁.heap.objs.size)) hX.d (kk hk₂) (fun a e=>e▸I.alive _ _ hS') hfa htk
        have E₃:Ext env g₁ { g₂ with X:=g₁.X } s₁ { s₂ with heap:=h',toks:=tk }:=E₂.changed (D:=(·=s₁.heap.objs.size)) hD (kk hk₂) rfl
        have hd:l.drop i=w :: l.drop (i + 1):=by
          obtain ⟨h1,h2⟩:=List.getElem?_eq_some_iff.mp hw
          rw [List.drop_eq_getElem_cons h1,h2]
        rw [hd] at hF
        refine bnE (show bn (exs C mb (σ₂.setLoc n w)) _=some (fl,σ') from hF) fun f σ₅ h5 h6=>wpAny_assign_Name (store_ok O VV hk R₃ (hwy.mono (fun a o z=>E₃.in1 hX z) fun i a z=>E₃.rho z) fun s₄ R₄ E₄=>H2 hr h5 R₄ fun w' s₅ g₅ R₅ X₅ E₅=>?_)
        have E₄₅:=E₄.trans E₅
        have E₆:Ext env g₁ { g₅ with X:=g₁.X } s₁ s₅:=E₃.trans E₄₅.reX
        have hX5:Hid1 s₁.heap.objs.size g₁ g₅:=E₄₅.X.trans hX
        have nx:forN (fun v σ=>some (σ.setLoc n v)) (exs C mb) (l.drop (i + 1)) σ₅=some (fl,σ')→∃ m,m < k∧ForI c env (forN (fun v σ=>some (σ.setLoc n v)) (exs C mb)) l S g₁ s₁ (fl,σ') m s₅:=fun h =>
          ⟨l.length + 1 - (i + 1),hk'▸turn_lt hlt,.mk (i + 1) σ₅ g₅ rfl hlt R₅ hX5 E₆ (W.frame _ _ _ hS' fun b hb o e=>(I.fp b hb).elim (fun q=>(E₄₅.fz _ _ e (fun w=>(R₃.dis _ w).1 (hX.d _ q)) (q▸fr.2.2)).1) fun ⟨o',z⟩=>by
            have z':=E₃.in1 hX z
            cases z'.1.symm.trans e
            exact (E₄₅.fz _ _ e z'.2.1 z'.2.2.2).1) h⟩
        cases f with
        | next=>cases X₅; exact nx h6
        | cont=>cases X₅; exact nx h6
        | brk=>cases X₅; exact (N.of h6).nxt (R₅.shown hX5.o) (E₁.trans E₆)
        | ret v =>
          obtain ⟨x,rfl,hx⟩:=X₅
          exact N.of h6 _ _ _ (R₅.shown hX5.o) ⟨x,rfl,hx.shown hX5.o⟩ (E₁.trans E₆)
      · cases Nat.le_antisymm hi (Nat.not_lt.mp hlt)
        rw [List.drop_length] at hF
        refine wpAny_toks R₂.pos (W.done s₂ _ _ hS₂ fun h' tk hk₂ htk=>?_)
        have R₃:Rel c env { g₂ with X:=g₁.X } _ { s₂ with heap:=h',toks:=tk }:=R₂.drop (D:=(·=s₁.heap.objs.size)) hX.o hX.d (fun a x e=>let ⟨_,z⟩:=R₁.xob a x; old_ne z (Nat.le_refl _) e) (kk hk₂) hfa htk
        exact wpAny_execs_nil ((N.of hF).nxt R₃ (E₁.trans (E₂.changed (D:=(·=s₁.heap.objs.size)) hD (kk hk₂) rfl)))) hs
end
end Mine
end
noncomputable section
open PySem PySem.Calls PyProof.Rows PySem.W
namespace Mine
section
variable {c:Cx} {r:Nat} {env:Env} {A:Around} {σ σ':St} {g g₁:Gh} {s s' s₁ s₂:Shared} {E:Value→Shared→Prop} {Q:Value→Shared→Prop} {v:Mine.V} {D:Addr→Prop}

theorem lookK_mem {x:List Nat} {u:Mine.V}:∀ {ks:List (List Nat)} {vs:List Mine.V},lookK ks vs x=some u→x ∈ ks
  | [],_,h=>nn h
  | _ :: _,[],h=>nn h
  | k :: ks,v :: vs,h=>Classical.byCases (fun e:k=x=>e▸List.mem_cons_self) fun e=>.tail _ (lookK_mem (ks:=ks) (vs:=vs) ((if_neg e).symm.trans h))
theorem stored_in {kvs:List (Str × Value)} {ks:List (List Nat)} {x:List Nat} {y:Value} (hk:kvs.map (·.1)=ks.map toS) (h:x ∈ ks):stored kvs (toS x) y=kvs.map (fun kv=>if kv.1=toS x then (kv.1,y) else kv):=
  if_pos (by
    have h1:toS x ∈ kvs.map (·.1):=hk▸List.mem_map_of_mem h
    obtain ⟨kv,h2,h3⟩:=List.mem_map.mp h1
    exact List.any_eq_true.mpr ⟨kv,h2,decide_eq_true h3⟩)
theorem stored_fst {z:Str} {y:Value} (kvs:List (Str × Value)):(kvs.map (fun kv=>if kv.1=z then (kv.1,y) else kv)).map (·.1)=kvs.map (·.1):=by
  rw [List.map_map]
  exact List.map_congr_left fun kv _=>by
    show (if kv.1=z then (kv.1,y) else kv).1=kv.1
    by_cases h:kv.1=z
    · rw [if_pos h]
    · rw [if_neg h]
theorem stored_no {z:Str} {y:Value} {kvs:List (Str × Value)} (h:z ∉ kvs.map (·.1)):kvs.map (fun kv=>if kv.1=z then (kv.1,y) else kv)=kvs:=by
  refine (List.map_congr_left fun kv hkv=>?_).trans (List.map_id kvs)
  exact if_neg fun (q:kv.1=z)=>h (q▸List.mem_map_of_mem hkv)
theorem mem_toS {x:List Nat} {ks:List (List Nat)} (h:toS x ∈ ks.map toS):x ∈ ks:=by
  obtain ⟨z,h1,h2⟩:=List.mem_map.mp h
  exact toS_inj h2▸h1
theorem putK_VRs {x:List Nat} {u:Mine.V} {y:Value} {F ρ} (hy:VR c F ρ u y):∀ {ks:List (List Nat)} {vs:List Mine.V} {kvs:List (Str × Value)},kvs.map (·.1)=ks.map toS→ks.Nodup→VRs c F ρ vs (kvs.map (·.2)) →
    VRs c F ρ (putK ks vs x u) ((kvs.map (fun kv=>if kv.1=toS x then (kv.1,y) else kv)).map (·.2))
  | [],_,[],_,_,hv=>hv
  | [],_,_ :: _,hk,_,_=>nomatch hk
  | _ :: _,_,[],hk,_,_=>nomatch hk
  | _ :: _,[],_ :: _,_,_,hv=>nomatch hv.length
  | k :: ks,v :: vs,kv :: kvs,hk,hn,hv=>hv.consE (P:=fun l=>l=kv.2 :: kvs.map (·.2)→_) (fun a as h1 h2 e=>by
    obtain ⟨e1,e2⟩:=List.cons.inj hk
    obtain ⟨n1,n2⟩:=List.nodup_cons.mp hn
    obtain ⟨rfl,rfl⟩:=List.cons.inj e
    show VRs c F ρ (if k=x then u :: vs else v :: putK ks vs x u) ((if kv.1=toS x then (kv.1,y) else kv).2 :: _)
    by_cases h:k=x
    · subst h
      rw [if_pos rfl,if_pos e1,stored_no fun q=>n1 (mem_toS (e2▸q))]
      exact .cons hy h2
    · rw [if_neg h,if_neg fun q=>h (toS_inj (e1.symm.trans q))]
      exact .cons h1 (putK_VRs hy e2 n2 h2)) rfl
theorem keys_nodup {kvs:List (Str × Value)} {ks:List (List Nat)} {a:Addr} {h:Heap} (D:h.DictOf (strKind c.prog c.w) a kvs) (k1:kvs.map (·.1)=ks.map toS):ks.Nodup:=by
  obtain ⟨_,_,_,_,_,_,_,_,h⟩:=D
  rw [k1] at h
  exact List.nodup_iff_pairwise_ne.mpr ((List.pairwise_map.mp (List.nodup_iff_pairwise_ne.mp h)).imp fun h e=>h (congrArg toS e))
theorem setItem_ok {o x v:Mine.V} {ov xv yv:Value} {Q:Unit→Shared→Prop} (hf:Mine.setItem σ o x v=some σ') (R:Rel c env g σ s) (Ho:Vx c env g s o ov) (Hx:Vx c env g s x xv) (Hy:Vx c env g s v yv)
    (N:∀ s',Rel c env g σ' s'→Ext env g g s s'→Q () s'):wpAny c.M A (PySem.setItem ov xv yv) Q E s:=by
  cases o <;> first | exact nn hf | skip
  rename_i id
  refine boE (show bo (look σ.hp id) _=some σ' from hf) fun b ho h=>?_
  cases b <;> first | exact nn h | skip
  rename_i ks vs
  exact onStrE (P:=fun x=>Vx c env g s x xv→wpAny c.M A (PySem.setItem ov xv yv) Q E s) h (fun x h Hx=>boE h fun u hu h=>gdE h fun hlen e=>Hx.strE (P:=fun xv=>wpAny c.M A (PySem.setItem ov xv yv) Q E s) fun t=>Ho.objE fun a ha=>by
    cases e
    obtain ⟨q,hc,rfl,hsm,kvs,D,k1,r1⟩:=rho_of R ho ha
    have hlen':kvs.length=ks.length:=by rw [← List.length_map (·.1),k1,List.length_map]
    refine wpAny_setItem_pairs (k:=toS x) (strK_is x t) D (fun h' hd hs=>?_) (hlen'.symm▸len_line (Nat.le_of_ble_eq_true hlen))
    rw [stored_in k1 (lookK_mem hu)] at hd
    have K:Keep env (·=a) s.heap h':=.of (fun b p hb e=>(hs.2 b hb).trans e) fun e=>(R.dis a (R.cW _ _ _ hc)).2 e.symm
    obtain ⟨ob,hob,-⟩:=Heap.dictOf_iff.mp hd
    exact N _ ⟨R.toRel0.setOb (ob':=.dict ks (putK ks vs x v)) hc K ⟨ob,hob⟩ fun kF=>⟨rfl,hsm,_,hd,(stored_fst kvs).trans k1,(putK_VRs Hy k1 (keys_nodup D k1) r1).mono kF fun _ _ z=>z⟩,Nat.succ_pos _⟩ (Ext.setOb (R.cW _ _ _ hc) K rfl)) Hx

variable {C:Ora} {t i e:Expr} {mt mi m:ME} {n n₁ n₂ D₁ D₂:Nat} {o:Bop} {pos:Pos}
theorem VR.objR {F ρ} {i:Id} {x:Value} (h:VR c F ρ (.obj i) x):∃ a,x=.ref a∧ρ i=some a:=h.objE fun a e=>⟨a,rfl,e⟩
theorem ex_asgS {sp} (hc:noComp e=true) (H:EvOk c r env e (ev C m)) (H2:EvOk c r env t (ev C mt)) (H3:EvOk c r env i (ev C mi)):ExOk c r env (.Assign [.Subscript t i sp] e pos) (exc C (.asgS mt mi m)):=fun _ _ _ _ _ _ _ _ hr hf R N=>bnE hf fun v σ₁ h1 h=>bnE h fun o σ₂ h3 h=>bnE h fun x σ₃ h5 h=>boE h fun σ₄ h7 h8 =>
  wpAny_Assign_Subscript (H hr h1 R fun xv s₁ g₁ R₁ X₁ E₁=>H2 hr h3 R₁ fun ov s₂ g₂ R₂ X₂ E₂=>H3 hr h5 R₂ fun iv s₃ g₃ R₃ X₃ E₃ =>
    setItem_ok h7 R₃ (X₂.ext E₃) X₃ (X₁.ext (E₂.trans E₃)) fun s₄ R₄ E₄=>(N.of h8).nxt R₄ (E₁.trans (E₂.trans (E₃.trans E₄)))) (swaps_no hc)
theorem ex_augN (O:c.Ok) (VV:EnvOk env) {np} (hk:env.kindOf (c.nm n)=some .local) (ho:o=.add∨o=.sub) (H:EvOk c r env e (ev C m)):ExOk c r env (.AugAssign (.Name (c.nm n) np) (bopOf o) e pos) (exc C (.augN n o m)):=fun _ _ _ _ _ _ _ _ hr hf R N=>boE hf fun a h1 h=>bnE h fun b σ₁ h3 h=>bnE h fun w σ₂ h5 h6=>by
  obtain ⟨mm,hm,hl⟩:=R.loc
  obtain ⟨x,hx,hxv⟩:=(hl n _ h1).1 hk
  exact wpAny_AugAssign_Name (wpAny_loadName_local VV.kind hk hm hx (H hr h3 R fun y s₁ g₁ R₁ X₁ E₁=>iop_ok ho h5 R₁ (VR.ext E₁ hxv) X₁ fun z s₂ g₂ R₂ X₂ E₂ =>
    store_ok O VV hk R₂ X₂ fun s₃ R₃ E₃=>(N.of h6).nxt R₃ (E₁.trans (E₂.trans E₃))))
theorem ex_augA (O:c.Ok) {tp} (hn:noCls c D₁ n=true) (ho:o=.add∨o=.sub) (H:EvOk c r env t (ev C mt)) (H2:EvOk c r env e (ev C m)):ExOk c r env (.AugAssign (.Attribute t (c.nm n) tp) (bopOf o) e pos) (exc C (.augA mt n D₁ o m)):=fun A _ fl σ' g s E Q hr hf R N=>bnE hf fun x σ₁ h1 h =>
  wpAny_AugAssign_AttributeAny (H hr h1 R fun xv s₁ g₁ R₁ X₁ E₁=>onInstE (P:=fun x=>Vx c env g₁ s₁ x xv→_) h (fun id fs hob h X₁=>boE h fun a h3 h=>bnE h fun b σ₂ h5 h=>bnE h fun w σ₃ h7 h=>boE h fun σ₄ h9 h10 =>
    by
      obtain ⟨ad,rfl,ha⟩:=X₁.objR
      exact getAttr_field O hn R₁ hob ha h3 fun av s₂ g₂ R₂ X₂ E₂=>H2 hr h5 R₂ fun bv s₃ g₃ R₃ X₃ E₃=>iop_ok ho h7 R₃ (X₂.ext E₃) X₃ fun z s₄ g₄ R₄ X₄ E₄ =>
      setAttr_ok O hn h9 R₄ (VR.obj ((E₂.trans (E₃.trans E₄)).rho ha)) X₄ fun s₅ R₅ E₅=>(N.of h10).nxt R₅ (E₁.trans (E₂.trans (E₃.trans (E₄.trans E₅))))) X₁)

noncomputable def noTup (e:Expr):Bool:=ctt fun h=>Expr.Tuple.elim (motive_1:=fun _=>Bool) e h fun _ _ _=>false
theorem swapped_no (h:noTup e=true) {ts:List Expr} {k tp}:swappedStores [.Tuple ts k tp] e env=pure none:=by
  cases e <;> first | rfl | exact ff h
theorem sole_no (h:noComp e=true) {es:List Expr} {k tp} {n:Nat}:swapsWithSole [.Tuple es k tp] e n env=pure false:=by
  unfold swapsWithSole; exact swaps_no h
noncomputable def nameIs (c:Cx) (env:Env) (e:Expr) (n:Nat):Bool:=match e with
  | .Name x _=>x == c.nm n && (env.kindOf x == some .local)
  | _=>false
@[elab_as_elim] theorem nameIsE {P:Expr→Prop} (h:nameIs c env e n=true) (k:∀ p,env.kindOf (c.nm n)=some .local→P (.Name (c.nm n) p)):P e:=by
  cases e <;> first | exact ff h | exact bA h fun h1 h2=>by cases bE h1; exact k _ (bE h2)
noncomputable def namesOk (c:Cx) (env:Env):List Expr→List Nat→Bool
  | [],ns=>ns.isEmpty
  | e :: es,ns=>(match ns with
    | []=>false
    | n :: ns=>nameIs c env e n && namesOk c env es ns)
theorem names_ok (O:c.Ok) (VV:EnvOk env):∀ {es:List Expr} {ns:List Nat} {vs:List Mine.V} {xs:List Value} {σ σ':St} {s:Shared} {Q:Unit→Shared→Prop},namesOk c env es ns=true→setLocs ns vs σ=some σ'→Rel c env g σ s→Vxs c env g s vs xs →
    (∀ s',Rel c env g σ' s'→Ext env g g s s'→Q () s')→wpAny c.M A (assignInOrder ((assignEach es env).map (·.2)) xs) Q E s
  | [],[],[],_,_,_,s,Q,hn,hf,R,X,N=>by cases hf; exact X.nilE (wpAny_pure (N s R .refl))
  | [],[],_ :: _,_,_,_,_,_,_,hf,_,_,_=>nn hf
  | [],_ :: _,_,_,_,_,_,_,hn,_,_,_,_=>ff hn
  | _ :: _,[],_,_,_,_,_,_,hn,_,_,_,_=>ff hn
  | _ :: _,_ :: _,[],_,_,_,_,_,_,hf,_,_,_=>nn hf
  | e :: es,n :: ns,v :: vs,_,_,_,s,Q,hn,hf,R,X,N=>bA hn fun h1 hn=>nameIsE h1 fun p hk=>X.consE fun a b ha hb=>by
    show wpAny _ _ (do holding _ (assign (.Name (c.nm n) p) env _); assignInOrder ((assignEach es env).map (·.2)) _) _ _ _
    exact wpAny_bind (wpAny_holding (wpAny_assign_Name (store_ok O VV hk R ha fun s₁ R₁ E₁=>names_ok O VV hn hf R₁ (hb.ext E₁) fun s₂ R₂ E₂=>N s₂ R₂ (E₁.trans E₂))))
theorem names_len:∀ {es:List Expr} {ns:List Nat},namesOk c env es ns=true→(assignEach es env).length=ns.length∧(assignEach es env).findIdx? (·.1)=none
  | [],[],_=>⟨rfl,rfl⟩
  | [],_ :: _,h=>ff h
  | _ :: _,[],h=>ff h
  | e :: es,n :: ns,h=>bA h fun h1 h2=>nameIsE h1 fun p hk=>by
    obtain ⟨h3,h4⟩:=names_len h2
    refine ⟨congrArg (· + 1) h3,?_⟩
    show ((false,_) :: assignEach es env).findIdx? (·.1)=none
    rw [List.findIdx?_cons,h4]; rfl
theorem setLocs_len:∀ {ns:List Nat} {vs:List Mine.V} {σ σ':St},setLocs ns vs σ=some σ'→ns.length=vs.length
  | [],[],_,_,_=>rfl
  | [],_ :: _,_,_,h=>nn h
  | _ :: _,[],_,_,h=>nn h
  | _ :: ns,_ :: vs,_,_,h=>congrArg (· + 1) (setLocs_len (ns:=ns) (vs:=vs) h)
theorem ex_asgT (O:c.Ok) (VV:EnvOk env) {es:List Expr} {ns:List Nat} {k tp} (hc:noComp e=true) (ht:noTup e=true) (hn:namesOk c env es ns=true) (H:EvOk c r env e (ev C m)):ExOk c r env (.Assign [.Tuple es k tp] e pos) (exc C (.asgT ns m)):=fun A _ fl σ' g s E Q hr hf R N=>bnE hf fun v σ₁ h1 h=>boE h fun vs h3 h=>boE h fun σ₂ h5 h6 =>
  Assign_Tuple (H hr h1 R fun x s₁ g₁ R₁ X₁ E₁=>by
    cases v <;> first | exact nn h3 | skip
    cases h3
    exact X₁.tupE fun a o items n f1 c1 d1 r1=>by
      obtain ⟨l1,l2⟩:=names_len hn
      show wpAny _ _ (do standAt tp; unpack (.ref a) (assignEach es env)) _ _ _
      refine wpAny_bind (wpAny_standAt (unpack_tuple hr.1 ⟨_,f1.1,c1,_,d1⟩ (by rw [l1,size_of r1]; exact setLocs_len h5) l2 fun h' he=>?_))
      have kk:∀ b p,s₁.heap.get? b=some p→h'.get? b=some p:=fun b p e=>he b p (Nat.ne_of_lt (Heap.lt_size e)) e
      have E':Ext env g₁ g₁ s₁ { s₁ with heap:=h' }:=.grow kk rfl
      exact names_ok O VV hn h5 (R₁.grow kk R₁.pos) (VRs.ext E' r1) fun s₃ R₃ E₃=>(N.of h6).nxt R₃ (E₁.trans (E'.trans E₃))) (sole_no hc) (swapped_no ht)
theorem assign_attr {p:Pos} {x:Value} {o:Mine.V} {Q:Unit→Shared→Prop} (H:EvOk c r env t (ev C m)) (hr:Room A r) (hf:ev C m σ=some (o,σ')) (R:Rel c env g σ s)
    (N:∀ ov s' g',Rel c env g' σ' s'→Vx c env g' s' o ov→Ext env g g' s s'→wpAny c.M A (PySem.setAttr ov (c.nm n) x) Q E s'):wpAny c.M A (assign (.Attribute t (c.nm n) p) env x) Q E s:=by
  rw [arm_assign_Attribute]
  exact wpAny_bind (wpAny_holding (H hr hf R fun ov s₁ g₁ R₁ X₁ E₁=>wpAny_bind (wpAny_standAt (wpAny_bind (wpAny_holding (wpAny_mono (N ov s₁ g₁ R₁ X₁ E₁) (fun _ _ h=>wpAny_release h) fun _ _ h=>h))))))
theorem pair_E {P:Mine.V→Prop} {q:Mine.V × Mine.V} (h:pair? v=some q) (k:P (.tup [q.1,q.2])):P v:=by
  cases v <;> first | exact nn h | skip
  rename_i l
  match l,h with
  | [],h=>exact nn h
  | [_],h=>exact nn h
  | _ :: _ :: _ :: _,h=>exact nn h
  | [a,b],h=>cases h; exact k
theorem ex_asgTA (O:c.Ok) {t₁ t₂:Expr} {m₁ m₂:ME} {p₁ p₂ k tp} (hn₁:noCls c D₁ n₁=true) (hn₂:noCls c D₂ n₂=true) (hc:noComp e=true) (ht:noTup e=true) (H:EvOk c r env e (ev C m)) (H₁:EvOk c r env t₁ (ev C m₁)) (H₂:EvOk c r env t₂ (ev C m₂)) :
    ExOk c r env (.Assign [.Tuple [.Attribute t₁ (c.nm n₁) p₁,.Attribute t₂ (c.nm n₂) p₂] k tp] e pos) (exc C (.asgTA m₁ n₁ D₁ m₂ n₂ D₂ m)):=fun A _ fl σ' g s E Q hr hf R N=>bnE hf fun v σ₁ h1 h=>boE h fun q hq h=>bnE h fun o₁ σ₂ h3 h=>boE h fun σ₃ h5 h=>bnE h fun o₂ σ₄ h7 h=>boE h fun σ₅ h9 h10 =>
  Assign_Tuple (H hr h1 R fun x s₁ g₁ R₁ X₁ E₁=>pair_E (P:=fun v=>Vx c env g₁ s₁ v x→_) hq (fun X₁=>X₁.tupE fun a o items n f1 c1 d1 r1=>by
    show wpAny _ _ (do standAt tp; unpack (.ref a) (assignEach [.Attribute t₁ (c.nm n₁) p₁,.Attribute t₂ (c.nm n₂) p₂] env)) _ _ _
    refine wpAny_bind (wpAny_standAt (unpack_tuple hr.1 ⟨_,f1.1,c1,_,d1⟩ (by rw [size_of r1]; rfl) rfl fun h' he=>?_))
    have kk:∀ b p,s₁.heap.get? b=some p→h'.get? b=some p:=fun b p e=>he b p (Nat.ne_of_lt (Heap.lt_size e)) e
    have E':Ext env g₁ g₁ s₁ { s₁ with heap:=h' }:=.grow kk rfl
    have R':=R₁.grow (s':={ s₁ with heap:=h' }) kk R₁.pos
    have r1':=VRs.ext E' r1
    generalize items.toList=xs at r1'
    refine r1'.twoE fun y1 y2 a1 a2=>?_
    show wpAny _ _ (do holding _ (assign (.Attribute t₁ (c.nm n₁) p₁) env _); (do holding _ (assign (.Attribute t₂ (c.nm n₂) p₂) env _); pure ())) _ _ _
    exact wpAny_bind (wpAny_holding (assign_attr H₁ hr h3 R' fun ov s₂ g₂ R₂ X₂ E₂=>setAttr_ok O hn₁ h5 R₂ X₂ (VR.ext E₂ a1) fun s₃ R₃ E₃ =>
      wpAny_bind (wpAny_holding (assign_attr H₂ hr h7 R₃ fun ov s₄ g₄ R₄ X₄ E₄=>setAttr_ok O hn₂ h9 R₄ X₄ (VR.ext (E₂.trans (E₃.trans E₄)) a2) fun s₅ R₅ E₅=>wpAny_pure
        ((N.of h10).nxt R₅ (E₁.trans (E'.trans (E₂.trans (E₃.trans (E₄.trans E₅))))))))))) X₁) (sole_no hc) (swapped_no ht)
end
end Mine
end
noncomputable section
open PySem PySem.Calls PyProof.Rows PySem.W
namespace Mine
theorem lookup_in {x:Str} {v:Value}:∀ {l:List (Str × Value)},(l.map (·.1)).Nodup→(x,v) ∈ l→l.lookup x=some v
  | (a,b) :: l,hn,h=>by
    obtain ⟨h1,h2⟩:=List.nodup_cons.mp hn
    rw [List.lookup_cons]
    rcases List.mem_cons.mp h with e | h
    · cases e; rw [beq_self_eq_true]
    · have hm:x ∈ l.map (·.1):=List.mem_map_of_mem (f:=(·.1)) h
      rw [beq_false_of_ne fun (q:x=a)=>h1 (q▸hm)]; exact lookup_in h2 h
theorem lookup_no {x:Str}:∀ {l:List (Str × Value)},x ∉ l.map (·.1)→l.lookup x=none
  | [],_=>rfl
  | (a,b) :: l,h=>by rw [List.lookup_cons,beq_false_of_ne fun (q:x=a)=>h (q▸List.mem_cons_self)]; exact lookup_no fun q=>h (.tail _ q)
theorem lookup_some {x:Str} {l:List (Str × Value)} (hn:(l.map (·.1)).Nodup) (h:x ∈ l.map (·.1)):(l.lookup x).isSome=true:=by
  obtain ⟨p,h1,rfl⟩:=List.mem_map.mp h
  rw [lookup_in hn h1]; rfl
noncomputable def dfltF (x:Str × Value) (r:List (Str × Value)):Sem (ForInStep (List (Str × Value))):=if (List.lookup x.1 r).isNone=true then pure (ForInStep.yield (r ++ [(x.1,x.2)])) else pure (ForInStep.yield r)
theorem dflt_in {st m:List (Str × Value)}:∀ {l:List (Str × Value)},(∀ p ∈ l,(st.lookup p.1).isSome=true)→forIn (l ++ m) st dfltF=forIn m st dfltF
  | [],_=>rfl
  | p :: l,h=>by
    rw [List.cons_append,List.forIn_cons]
    unfold dfltF
    rw [Option.isNone_eq_false_iff.mpr (h p (.head _)),if_neg Bool.false_ne_true,pure_bind]
    exact dflt_in fun p hp=>h p (.tail _ hp)
theorem dflt_new:∀ {l st:List (Str × Value)},((st ++ l).map (·.1)).Nodup→forIn l st dfltF=pure (st ++ l)
  | [],st,_=>by rw [List.append_nil]; rfl
  | p :: l,st,h=>by
    rw [List.append_cons] at h ⊢
    have h':=(List.nodup_append.mp (List.map_append▸h)).1
    rw [List.map_append] at h'
    rw [List.forIn_cons]
    unfold dfltF
    rw [lookup_no fun q=>(List.nodup_append.mp h').2.2 _ q _ (.head _) rfl,Option.isNone_none,if_pos rfl,pure_bind]
    exact dflt_new h
theorem zip_filterMap:∀ {l L:List (Str × Value)},(∀ p ∈ l,L.lookup p.1=some p.2)→(l.map (·.1)).filterMap (fun n=>(L.lookup n).map fun x=>(n,x))=l
  | [],_,_=>rfl
  | p :: l,L,h=>by
    rw [List.map_cons,List.filterMap_cons,h p (.head _),zip_filterMap fun p hp=>h p (.tail _ hp)]; rfl
theorem bd1 {n k d:Nat} (h1:k≤n) (h2:d≤n) (h3:n≤k + d):k - (n - d)=d - (n - k)∧n - d≤k∧d - (n - k)≤d∧n - k=d - (d - (n - k)):=by
  obtain ⟨a,rfl⟩:=Nat.exists_eq_add_of_le h1
  obtain ⟨b,rfl⟩:=Nat.exists_eq_add_of_le (Nat.le_of_add_le_add_left h3)
  have hb:b≤k:=Nat.le_of_add_le_add_left (Nat.add_comm k a▸h2:a + b≤a + k)
  rw [Nat.add_sub_cancel_left,Nat.add_sub_cancel_left,Nat.add_comm k a,Nat.add_sub_add_left,Nat.sub_sub_self hb]
  exact ⟨rfl,Nat.sub_le _ _,Nat.le_add_left _ _,(Nat.add_sub_cancel a b).symm⟩
theorem mem_fst {ns:List Str} {xs:List Value} {x:Str} (hl:ns.length≤xs.length) (h:x ∈ ns):x ∈ (ns.zip xs).map (·.1):=by rw [List.map_fst_zip hl]; exact h
theorem wp_else {α:Type} {M:Model} {A:Around} {p:Prop} [Decidable p] {x y:Sem α} {Q:α→Shared→Prop} {E:Value→Shared→Prop} {s:Shared} (h:¬ p) (k:wpAny M A y Q E s):wpAny M A (if p then x else y) Q E s:=by
  rw [if_neg h]; exact k
theorem none_left {α:Type} {p:α→Bool} {l:List α} (h:∀ x ∈ l,p x=false):¬ (!(l.filter p).isEmpty)=true:=by
  rw [List.filter_eq_nil_iff.mpr fun x hx q=>Bool.false_ne_true ((h x hx).symm.trans q)]; exact Bool.false_ne_true
noncomputable def argN (as:List Arg):List Str:=as.map (·.arg)
structure Binds (ns:List Str) (xs ds ys:List Value):Prop where
  nodup:ns.Nodup
  h1:xs.length≤ns.length
  h2:ds.length≤ns.length
  h3:ns.length≤xs.length + ds.length
  ys:ys=xs ++ ds.drop (ds.length - (ns.length - xs.length))
section
variable {ns:List Str} {xs ds ys:List Value}
theorem Binds.len (B:Binds ns xs ds ys):ys.length=ns.length:=by
  rw [B.ys,List.length_append,List.length_drop,← (bd1 B.h1 B.h2 B.h3).2.2.2]; exact Nat.add_sub_cancel' B.h1
theorem Binds.fst (B:Binds ns xs ds ys):(ns.zip ys).map (·.1)=ns:=List.map_fst_zip (Nat.le_of_eq B.len.symm)
theorem Binds.lt (B:Binds ns xs ds ys):(ns.take xs.length).length=xs.length:=List.length_take_of_le B.h1
theorem Binds.low (B:Binds ns xs ds ys):(ns.take xs.length).zip xs=ns.zip xs:=by
  have:=List.zip_append (l₁:=ns.take xs.length) (r₁:=ns.drop xs.length) (l₂:=xs) (r₂:=[]) B.lt
  rw [List.take_append_drop,List.append_nil,List.zip_nil_right,List.append_nil] at this; exact this.symm
theorem Binds.all (B:Binds ns xs ds ys):ns.zip xs ++ (ns.drop xs.length).zip (ds.drop (ds.length - (ns.length - xs.length)))=ns.zip ys:=by
  rw [← B.low,← List.zip_append B.lt,List.take_append_drop,B.ys]
theorem Binds.nd (B:Binds ns xs ds ys):((ns.zip ys).map (·.1)).Nodup:=by rw [B.fst]; exact B.nodup
theorem Binds.given (B:Binds ns xs ds ys) {x:Str} (hx:x ∈ ns.take xs.length):((ns.zip xs).lookup x).isSome=true:=by
  have n:=B.nd
  rw [← B.all,List.map_append] at n
  refine lookup_some (List.nodup_append.mp n).1 ?_
  rw [← B.low,List.map_fst_zip (Nat.le_of_eq B.lt)]; exact hx
theorem Binds.loop (B:Binds ns xs ds ys):forIn ((ns.drop (ns.length - ds.length)).zip ds) (ns.zip xs) dfltF=pure (ns.zip ys):=by
  obtain ⟨b1,b2,b3,b4⟩:=bd1 B.h1 B.h2 B.h3
  have e3:((ns.take xs.length).drop (ns.length - ds.length)).zip (ds.take (ds.length - (ns.length - xs.length))) ++ (ns.drop xs.length).zip (ds.drop (ds.length - (ns.length - xs.length)))=(ns.drop (ns.length - ds.length)).zip ds:=by
    rw [← List.zip_append (by rw [List.length_drop,B.lt,b1,List.length_take_of_le b3]),List.take_append_drop,← List.drop_append_of_le_length (by rw [B.lt]; exact b2),List.take_append_drop]
  rw [← e3,dflt_in fun p hp=>B.given (List.mem_of_mem_drop (List.of_mem_zip hp).1),dflt_new (by rw [B.all]; exact B.nd),B.all]
theorem Binds.missing (B:Binds ns xs ds ys):∀ x ∈ ns.take (ns.length - ds.length),((ns.zip xs).lookup x).isNone=false:=fun x hx =>
  Option.isNone_eq_false_iff.mpr (B.given (List.take_subset_take_left _ (bd1 B.h1 B.h2 B.h3).2.1 hx))
theorem Binds.done (B:Binds ns xs ds ys):(ns ++ []).filterMap (fun n=>((ns.zip ys).lookup n).map fun x=>(n,x))=ns.zip ys:=by
  have:=zip_filterMap (l:=ns.zip ys) fun p hp=>lookup_in B.nd hp
  rw [B.fst] at this
  rw [List.append_nil,this]
theorem bindArgs_eq {s:Shared} {fd:FuncData} {as:List Arg} {dd:List Expr} (hp:fd.params=⟨[],as,none,[],[],none,dd⟩) (B:Binds (argN as) xs ds ys) {r:Option (Array Value)} (hr:(r.getD #[]).toList=ds)
    (hs:∀ (M:Model) (A:Around) (E:Value→Shared→Prop) (Q:Option (Array Value)→Shared→Prop),Q r s→wpAny M A (seqItems? fd.defaults) Q E s):BindsTo s fd ⟨xs,[]⟩ ((argN as).zip ys):=fun M A E Q hq=>by
  have hD:ds.drop (ds.length - (argN as).length)=ds:=by rw [Nat.sub_eq_zero_of_le B.h2,List.drop_zero]
  unfold bindArgs
  rw [hp]
  refine wpAny_bind (wpAny_pure (wpAny_bind (hs _ _ _ _ ?_)))
  rw [hr]
  refine wp_else (fun q=>Nat.not_lt.mpr B.h1 (of_decide_eq_true (Bool.and_eq_true_iff.mp q).1)) (wp_else ?_ ?_)
  · refine none_left ?_
    show ∀ x ∈ (argN as).take ((argN as).length - (ds.drop (ds.length - (argN as).length)).length),(((argN as).zip xs).lookup x).isNone=false
    rw [hD]; exact B.missing
  · show wpAny M A (forIn (((argN as).drop ((argN as).length - (ds.drop (ds.length - (argN as).length)).length)).zip (ds.drop (ds.length - (argN as).length))) ((argN as).zip xs) dfltF >>= _) Q E s
    rw [hD,B.loop]
    refine wpAny_bind (wpAny_pure (wpAny_bind (wpAny_pure (wp_else (fun q=>nomatch q) (wpAny_pure ?_)))))
    show Q ((argN as ++ []).filterMap (fun n=>(((argN as).zip ys).lookup n).map fun x=>(n,x))) s
    rw [B.done]; exact hq
end

section
variable {c:Cx} {r:Nat} {env env':Env} {A:Around} {σ σ' σ₁:St} {g g₁:Gh} {s s' s₁ s₂:Shared} {E:Value→Shared→Prop} {Q:Value→Shared→Prop} {v:Mine.V} {D:Addr→Prop}
noncomputable def Gh.inn (g:Gh) (env:Env):Gh:={ g with X:=fun a=>g.X a∨FA env a }
structure Ent (env':Env) (s s':Shared):Prop where
  k:∀ b o,s.heap.get? b=some o→s'.heap.get? b=some o
  new:s.heap.objs.size≤env'.locals
  gens:gos s'=gos s
theorem Ent.not (e:Ent env' s s') {a:Addr} {o:Obj} (h:s.heap.get? a=some o):¬ FA env' a:=fun z=>old_ne h e.new z
theorem Fz.enter {a:Addr} {o:Obj} (e:Ent env' s s') (h:Fz env g s.heap a o):Fz env' (g.inn env) s'.heap a o:=⟨e.k _ _ h.1,h.2.1,fun z=>z.elim h.2.2.1 h.2.2.2,e.not h.1⟩
theorem VR.enter {v:Mine.V} {x:Value} (e:Ent env' s s') (h:Vx c env g s v x):Vx c env' (g.inn env) s' v x:=h.mono (fun _ _ z=>z.enter e) (fun _ _ z=>z)
theorem VRs.enter {v:List Mine.V} {x:List Value} (e:Ent env' s s') (h:Vxs c env g s v x):Vxs c env' (g.inn env) s' v x:=h.mono (fun _ _ z=>z.enter e) (fun _ _ z=>z)
theorem Rel.enter (R:Rel c env g σ s) (e:Ent env' s s') (hp:0 < s'.toks) {l:List (Nat × Mine.V)} {m:Str→Option Value} (hn:s'.heap.Ns env'.locals m) (hl:LocR c env' (Mine.Fz env' (g.inn env) s'.heap) g.rho l m):Rel c env' (g.inn env) { σ with loc:=l } s':=
  ⟨⟨fun a o q=>(R.kin a o q).enter e,fun a q=>(R.wob a q).imp fun o z=>e.k _ _ z,fun a q=>q.elim (fun q=>(R.xob a q).imp fun o z=>e.k _ _ z) fun q=>(R.fob a q).imp fun o z=>e.k _ _ z,fun a q=>let ⟨p,_,_,z,_⟩:=hn; ⟨p,q▸z⟩,
    fun a w=>⟨fun z=>z.elim (R.dis a w).1 (R.dis a w).2,let ⟨_,q⟩:=R.wob a w; e.not q⟩,⟨m,hn,hl⟩,fun id ob q=>(R.obs id ob q).imp fun _=>Exists.imp fun _ z=>⟨z.1,z.2.mono (fun _ _ z=>z.enter e) (fun _ _ z=>z) fun _=>e.k _ _⟩,R.cW,R.inj,R.nx,R.ps⟩,hp⟩
theorem Fz.leave {a:Addr} {o:Obj} (hX:g₁.X=(g.inn env).X) (h:Fz env' g₁ s₁.heap a o):Fz env { g₁ with X:=g.X } s₁.heap a o:=
  ⟨h.1,h.2.1,fun z=>h.2.2.1 (hX▸Or.inl z),fun z=>h.2.2.1 (hX▸Or.inr z)⟩
theorem VR.leave {v:Mine.V} {x:Value} (hX:g₁.X=(g.inn env).X) (h:Vx c env' g₁ s₁ v x):Vx c env { g₁ with X:=g.X } s₁ v x:=h.mono (fun _ _ z=>z.leave hX) (fun _ _ z=>z)
theorem Ext.leave (e:Ent env' s s') (x:Ext env' (g.inn env) g₁ s' s₁):Ext env g { g₁ with X:=g.X } s s₁:=
  ⟨fun a o q w _=>x.fz a o (e.k _ _ q) w (e.not q),x.cs,rfl,x.gens.trans e.gens⟩
theorem Rel.leave (R:Rel c env g σ s) (e:Ent env' s s') (x:Ext env' (g.inn env) g₁ s' s₁) (R₁:Rel c env' g₁ σ₁ s₁):Rel c env { g₁ with X:=g.X } { σ₁ with loc:=σ.loc } s₁:=by
  have X:=Ext.leave e x
  have kA:∀ a o,FA env a→s.heap.get? a=some o→s₁.heap.get? a=some o:=fun a o f q=>(x.fz a o (e.k _ _ q) (fun w=>(R.dis a w).2 f) (e.not q)).1
  obtain ⟨m,hm,hl⟩:=R.loc
  exact ⟨⟨fun a o q=>(R₁.kin a o q).leave x.X,R₁.wob,fun a q=>R₁.xob a (x.X▸.inl q),fun a q=>(R.fob a q).imp fun o z=>kA _ _ q z,
    fun a w=>⟨fun z=>(R₁.dis a w).1 (x.X▸.inl z),fun z=>(R₁.dis a w).1 (x.X▸.inr z)⟩,⟨m,hm.at fun p q=>kA _ _ rfl q,hl.mono (fun _ _=>X.Fz) fun _ _=>X.rho⟩,
    fun id ob q=>(R₁.obs id ob q).imp fun _=>Exists.imp fun _ z=>⟨z.1,z.2.mono (fun _ _ z=>z.leave x.X) (fun _ _ z=>z) fun _ z=>z⟩,R₁.cW,R₁.inj,R₁.nx,R₁.ps⟩,R₁.pos⟩
end
end Mine
end
noncomputable section
open PySem PySem.Calls PyProof.Rows PySem.W
namespace Mine
noncomputable def dIs (v:Mine.V):Value→Bool
  | .none=>v.isNone
  | .bool b=>v.isBool b
  | .int i _=>v.isInt i
  | _=>false
theorem dIs_t {c:Cx} {F:Addr→Obj→Prop} {ρ:Id→Option Addr} {v:Mine.V} {x:Value} (h:dIs v x=true):VR c F ρ v x:=by
  cases x <;> first | exact ff h | skip
  · cases v <;> first | exact ff h | exact .none
  · cases v <;> first | exact ff h | (cases bE h; exact .bool _)
  · cases v <;> first | exact ff h | (cases bE h; exact .int _ _)
noncomputable def dsOk:List Mine.V→List Value→Bool
  | [],xs=>xs.isEmpty
  | v :: l,xs=>(match xs with
    | []=>false
    | x :: xs=>dIs v x && dsOk l xs)
theorem dsOk_VRs {c:Cx} {F:Addr→Obj→Prop} {ρ:Id→Option Addr}:∀ {l:List Mine.V} {xs:List Value},dsOk l xs=true→VRs c F ρ l xs
  | [],[],_=>.nil
  | [],_ :: _,h=>ff h
  | _ :: _,[],h=>ff h
  | _ :: _,_ :: _,h=>bA h fun h1 h2=>.cons (dIs_t h1) (dsOk_VRs h2)
noncomputable def seqOf (o:Obj):Option (List Value):=match o.data with
  | .seq items _=>some items.toList
  | _=>none
noncomputable def dfltsIn (K:Frag):Value→Option (List Value)
  | .none=>some []
  | .ref T=>bo (K.lookup T) seqOf
  | _=>none
theorem seqOf_t {o:Obj} {l:List Value} (h:seqOf o=some l):∃ items n,o.data=.seq items n∧items.toList=l:=by
  unfold seqOf at h
  generalize o.data=d at h
  cases d <;> first | exact nn h | (cases h; exact ⟨_,_,rfl,rfl⟩)
theorem dflts_run {K:Frag} {v:Value} {ds:List Value} (h:dfltsIn K v=some ds) {s:Shared} (X:K.In s.heap) :
    ∃ r:Option (Array Value),(r.getD #[]).toList=ds∧∀ (M:Model) (A:Around) (E:Value→Shared→Prop) (Q:Option (Array Value)→Shared→Prop),Q r s→wpAny M A (seqItems? v) Q E s:=by
  cases v <;> first | exact nn h | skip
  · cases h; exact ⟨none,rfl,fun M A E Q hq=>wpAny_pure hq⟩
  · exact boE (show bo (K.lookup _) seqOf=some ds from h) fun o h1 h2=>let ⟨items,n,h3,h4⟩:=seqOf_t h2; ⟨some items,h4,fun M A E Q hq=>wpAny_seqItems (X _ _ h1) h3 hq⟩
structure DefAt (c:Cx) (f:Nat) (m:MFun) (fd:FuncData) (body:List Stmt) (as:List Arg) (dd:List Expr) (ds:List Value):Prop where
  at_:∃ oc od osl,c.K.lookup (c.fA f)=some ⟨oc,od,.func fd,osl⟩
  code:codeIn c.K fd.code fd.qualname=true
  body:fd.body=.stmts body
  params:fd.params=⟨[],as,none,[],[],none,dd⟩
  names:argN as=m.ps.map c.nm
  nodup:(argN as).Nodup
  dflts:dfltsIn c.K fd.defaults=some ds
  dsok:dsOk m.ds ds=true
  dlen:ds.length≤(argN as).length
  kind:fd.scope.kind=.function
  gen:fd.scope.isGenerator=false
  co:fd.scope.isCoroutine=false
  plocal:∀ x ∈ argN as,fd.scope.names.lookup x=some .local∨fd.scope.names.lookup x=some .cell
  glob:fd.globals=mainGlobals
  blt:fd.builtins=builtinsNs
  clo:fd.closure=[]
section
variable {B:List (Str × Value)→(Str→Option Value)→Str→Option Value} {n:Str} {x:Value}
noncomputable def upd (m:Str→Option Value) (n:Str) (x:Value):Str→Option Value:=fun y=>if y=n then some x else m y
theorem bind_no (h0:∀ m,B [] m=m) (h1:∀ a b r m,B ((a,b) :: r) m=B r m∨B ((a,b) :: r) m=B r (upd m a b)):∀ (l:List (Str × Value)) (m:Str→Option Value),n ∉ l.map (·.1)→B l m n=m n
  | [],m,_=>congrFun (h0 m) n
  | (a,b) :: l,m,h=>(h1 a b l m).elim (fun e=>(congrFun e n).trans (bind_no h0 h1 l m fun q=>h (.tail _ q)))
      fun e=>(congrFun e n).trans ((bind_no h0 h1 l _ fun q=>h (.tail _ q)).trans (if_neg fun q=>h (by rw [q]; exact .head _)))
theorem bind_in (h0:∀ m,B [] m=m) (h1:∀ a b r m,B ((a,b) :: r) m=B r m∨B ((a,b) :: r) m=B r (upd m a b)) (h2:∀ r m,B ((n,x) :: r) m=B r (upd m n x)) :
    ∀ (l:List (Str × Value)) (m:Str→Option Value),(l.map (·.1)).Nodup→(n,x) ∈ l→B l m n=some x
  | (a,b) :: l,m,hn,h=>by
    obtain ⟨n1,n2⟩:=List.nodup_cons.mp hn
    rcases List.mem_cons.mp h with e | h
    · cases e; rw [h2,bind_no h0 h1 l _ n1]; exact if_pos rfl
    · exact (h1 a b l m).elim (fun e=>(congrFun e n).trans (bind_in h0 h1 h2 l _ n2 h)) fun e=>(congrFun e n).trans (bind_in h0 h1 h2 l _ n2 h)
theorem bindL_in {k:Str→Option NameKind} {l:List (Str × Value)} {m:Str→Option Value} (hk:k n=some .local) (hn:(l.map (·.1)).Nodup) (h:(n,x) ∈ l):bindL k l m n=some x:=
  bind_in (B:=bindL k) (fun _=>rfl) (fun a b r m=>Classical.byCases (fun e:k a=some .local=>.inr (congrArg (bindL k r) (if_pos e))) fun e=>.inl (congrArg (bindL k r) (if_neg e))) (fun r m=>congrArg (bindL k r) (if_pos hk)) l m hn h
theorem bindC_in {k:Str→Option NameKind} {l:List (Str × Value)} {m:Str→Option Value} (hk:¬ k n=some .local) (hn:(l.map (·.1)).Nodup) (h:(n,x) ∈ l):bindC k l m n=some x:=
  bind_in (B:=bindC k) (fun _=>rfl) (fun a b r m=>Classical.byCases (fun e:k a=some .local=>.inl (congrArg (bindC k r) (if_pos e))) fun e=>.inr (congrArg (bindC k r) (if_neg e))) (fun r m=>congrArg (bindC k r) (if_neg hk)) l m hn h
end
section
variable {c:Cx} {r:Nat} {env env':Env} {A:Around} {σ σ' σ₁:St} {g g₁:Gh} {s s' s₁ s₂:Shared} {E:Value→Shared→Prop} {Q:Value→Shared→Prop} {v:Mine.V} {D:Addr→Prop}
theorem Cx.Ok.noLimit (O:c.Ok) (R:Rel c env g σ s):s.heap.NoLimit:=
  ⟨fun _=>none,⟨_,#[],0,(R.kin _ _ O.lim).1,rfl,(fun e he=>nomatch he),fun name=>rfl⟩,rfl⟩
theorem zip_mem {F ρ} {n:Nat} {v:Mine.V}:∀ {ps:List Nat} {as:List Mine.V} {xs:List Value},VRs c F ρ as xs→look (ps.zip as) n=some v→∃ x,(c.nm n,x) ∈ (ps.map c.nm).zip xs∧VR c F ρ v x
  | [],_,_,_,h=>nn h
  | _ :: _,[],_,_,h=>nn h
  | p :: ps,a :: as,_,X,h=>X.consE (P:=fun xs=>∃ x,(c.nm n,x) ∈ ((p :: ps).map c.nm).zip xs∧VR c F ρ v x) fun y ys ha X=>by
    by_cases e:p=n
    · cases (if_pos e).symm.trans h; exact ⟨y,e▸.head _,ha⟩
    · exact (zip_mem X ((if_neg e).symm.trans h)).imp fun _ z=>⟨.tail _ z.1,z.2⟩
theorem new_of (R:Rel c env g σ s) {a:Addr} (h:s.heap.objs.size≤a):¬ g.W a∧¬ g.X a∧¬ FA env a:=
  ⟨fun q=>let ⟨_,e⟩:=R.wob _ q; old_ne e h rfl,fun q=>let ⟨_,e⟩:=R.xob _ q; old_ne e h rfl,fun q=>let ⟨_,e⟩:=R.fob _ q; old_ne e h rfl⟩
theorem deeper1 {u r L:Nat} (h:u + 20 * (r + 1) + 300 < L):u + 3 + 20 * r + 300 < L:=
  Nat.lt_of_le_of_lt (Nat.add_le_add_right (by rw [Nat.mul_succ,Nat.add_assoc,Nat.add_comm 3]; exact Nat.add_le_add_left (Nat.add_le_add_left (by decide) _) _) _) h
theorem deeper2 {u r L:Nat} (h:u + (r + 1) < L):u + 1 + r < L:=by rw [Nat.add_assoc,Nat.add_comm 1]; exact h
theorem Room.deeper (hr:Room A (r + 1)):Room (A.deeper env') r:=⟨hr.1,deeper2 hr.2.1,deeper1 hr.2.2⟩

theorem ret_ok {fl:FL} {w:Mine.V} {fw:Flow} (hw:retOf fl=some w) (X:FlR c env' g₁ s₁ fl fw) (k:∀ x,Vx c env' g₁ s₁ w x→Q x s₁):retQ Q E (.ok (.ret (match (generalizing:=false) fw with | .ret v=>v | _=>.none))) s₁:=by
  cases fl with
  | next=>cases X; cases hw; exact k _ .none
  | ret u=>obtain ⟨x,rfl,hx⟩:=X; cases hw; exact k x hx
  | _=>exact nn hw
theorem def_ok (O:c.Ok) {f:Nat} {m:MFun} {fd:FuncData} {body:List Stmt} {as:List Arg} {dd:List Expr} {ds:List Value} {C:Ora} (Df:DefAt c f m fd body as dd ds)
    (H:∀ L,EnvOk (callEnvC fd L (c.fA f))→ExsOk c r (callEnvC fd L (c.fA f)) body (exs C m.body))
    {vs:List Mine.V} {xs:List Value} (hr:Room A (r + 1)) (hf:callB C m vs σ=some (v,σ')) (R:Rel c env g σ s) (X:Vxs c env g s vs xs) (N:Nxt c env g s v σ' Q):codeAny c.M A (.call (.ref (c.fA f)) ⟨xs,[]⟩) (retQ Q E) s:=
  boE hf fun avs ha h=>bnE h fun fl σ₁ hx h=>boE h fun w hw e0=>gdE ha fun hl e2=>bA hl fun l1 l2=>by
    cases e2
    have l1:=Nat.le_of_ble_eq_true l1
    have l2:=Nat.eq_of_beq_eq_true l2
    obtain ⟨oc,od,osl,ho⟩:=Df.at_
    obtain ⟨rr,hrr,hrun⟩:=dflts_run Df.dflts R.kinD
    have dv:=dsOk_VRs (c:=c) (F:=Mine.Fz env g s.heap) (ρ:=g.rho) Df.dsok
    have hpl:m.ps.length=(argN as).length:=by rw [Df.names,List.length_map]
    rw [dv.length,X.length,hpl] at l2 hx
    rw [X.length,hpl] at l1
    have B:Binds (argN as) xs ds _:=⟨Df.nodup,l1,Df.dlen,by rw [← l2,List.length_append,X.length]; exact Nat.add_le_add_left (by rw [List.length_drop,dv.length]; exact Nat.sub_le _ _) _,rfl⟩
    have XX:=X.append (dv.drop (ds.length - ((argN as).length - xs.length)))
    generalize xs ++ ds.drop (ds.length - ((argN as).length - xs.length))=ys at B XX
    refine codeAny_call_function (body:=body) (Nat.lt_of_le_of_lt (Nat.le_add_right _ _) hr.2.1) (R.kin _ _ ho).1 rfl Df.co Df.gen Df.body (codeRec_of R.kinD Df.code) (bindArgs_eq Df.params B hrr hrun _ _ _ _ ?_)
    rw [Df.clo]
    refine wpAny_toks R.pos (wpAny_newFunctionEnv_cells Df.kind (fun x hx=>?_) fun env₁ he s₁ hic htk=>?_)
    · have hm:x.1 ∈ argN as:=by rw [← B.fst]; exact List.mem_map_of_mem (f:=(·.1)) hx
      exact (Df.plocal _ hm).imp id fun e=>⟨e,cellsFrom_some _ _ _ (.inl e)⟩
    · have he:env₁=callEnvC fd s.heap.objs.size (c.fA f):=he
      subst he
      obtain ⟨h',tk,rfl,kk⟩:=hic.done
      have e:Ent (callEnvC fd s.heap.objs.size (c.fA f)) s { s with heap:=h',toks:=tk }:=⟨kk,Nat.le_refl _,rfl⟩
      refine ⟨(O.noLimit R).keeps kk,codeAny_func (H _ ⟨Df.kind,Df.glob,Df.blt⟩ hr.deeper hx (R.enter e htk hic.toInCall.ns fun n v q=>?_) fun fw s₁ g₁ R₁ X₁ E₁=>?_)⟩
      · obtain ⟨x,h1,h2⟩:=zip_mem (XX.enter e) q
        rw [← Df.names] at h1
        refine ⟨fun z=>⟨x,bindL_in z B.nd h1,h2⟩,fun z=>?_⟩
        obtain ⟨ca,hca⟩:=Option.isSome_iff_exists.mp (cellsFrom_some (x:=c.nm n) fd.scope.names (s.heap.objs.size + 1) [] (.inl z))
        obtain ⟨o,hob,hod⟩:=hic.cell _ _ hca
        have hab:s.heap.objs.size < ca:=hic.above _ _ (mem_of_lookup hca)
        obtain ⟨w1,w2,w3⟩:=new_of R (Nat.le_of_lt hab)
        exact ⟨ca,o,x,hca,⟨hob,w1,fun q=>q.elim w2 w3,Nat.ne_of_gt hab⟩,by rw [hod,bindC_in (by rw [z]; exact fun q=>nomatch q) B.nd h1],h2⟩
      · have R₂:=R.leave e E₁ R₁
        have E₂:=Ext.leave (g:=g) (env:=env) e E₁

        exact ret_ok (E:=E) hw X₁ fun x hv=>N.of e0 x s₁ _ R₂ (hv.leave E₁.X) E₂
end
end Mine
end
noncomputable section
open PySem PySem.Calls PyProof.Rows PySem.W
namespace Mine
noncomputable def isCls (c:Cx) (x:Str) (D f:Nat):Bool:=(nsIn c.K mainGlobals x == some (some (.ref (c.cA D)))) && (keepIn c.K (.ref (c.cA D)) && (makesIn c.K (c.cA D) && ((findIn c.K (.ref (c.cA D)) "__init__" == some (some (.ref (c.fA f)))) && (isFn c.K (.ref (c.fA f)) && decide (D < c.nC)))))
section
variable {c:Cx} {r:Nat} {env env':Env} {A:Around} {σ σ' σ₁:St} {g g₁:Gh} {s s' s₁ s₂:Shared} {E:Value→Shared→Prop} {Q:Value→Shared→Prop} {v:Mine.V} {D:Addr→Prop}
theorem OraOk.up {r r':Nat} {C:Ora} (h:OraOk c r C) (k:r≤r'):OraOk c r' C:=fun _ _ _ _ _ _ _ _ _ _ _ _ hr VV hf R X N=>h (hr.le k) VV hf R X N
theorem OraOk.up' {r:Nat} {C:Ora} (h:OraOk c r C):OraOk c (r + 1) C:=h.up (Nat.le_succ r)
theorem under1 {u r L:Nat} (h:u + 20 * (r + 1) + 300 < L):u + 1 + 20 * r + 300 < L:=
  Nat.lt_of_le_of_lt (Nat.add_le_add_right (by rw [Nat.mul_succ,Nat.add_assoc,Nat.add_comm 1]; exact Nat.add_le_add_left (Nat.add_le_add_left (by decide) _) _) _) h
theorem Room.under {A:Around} {r:Nat} {C:Addr} {rest:List Value} (h:Room A (r + 1)):Room (A.under (.builtin "type.__call__" ⟨.ref C :: rest,[]⟩)) r:=⟨h.1,deeper2 h.2.1,under1 h.2.2⟩
theorem inst_new {lv:LV} {o:Mine.V} {σ₂:St} {h':Heap} {x dx:Addr} {D:Nat} {P:Mine.V→Prop} (R₁:Rel c env g₁ σ₁ s₁) (h3:σ₁.alloc lv (.inst D [])=some (o,σ₂)) (hlv:lv ≠ .frz) (d6:D < c.nC)
    (K:Keep env (fun _=>False) s₁.heap h') (hfr:∀ a p,s₁.heap.get? a=some p→a ≠ dx∧a ≠ x) (n1:h'.get? x=some (instObj (c.cA D) dx)) (n2:h'.get? dx=some (dictOf [] 0)) (hdx:dx < x)
    (k:∀ g₂,Rel c env g₂ σ₂ { s₁ with heap:=h' }→Vx c env g₂ { s₁ with heap:=h' } o (.ref x)→Ext env g₁ g₂ s₁ { s₁ with heap:=h' }→P o):P o:=
  alloc_id (P:=fun o=>(∀ g₂,Rel c env g₂ σ₂ { s₁ with heap:=h' }→Vx c env g₂ { s₁ with heap:=h' } o (.ref x)→Ext env g₁ g₂ s₁ { s₁ with heap:=h' }→P o)→P o) h3 hlv R₁.toRel0 (fun id hid hσ k =>
    have hxf:Mine.Fz env (g₁.add id x dx) h' x (instObj (c.cA D) dx):=⟨n1,fun z=>z.elim (fun w=>let ⟨p,e⟩:=R₁.wob x w; (hfr x p e).2 rfl) fun e=>Nat.ne_of_gt hdx e,fun z=>let ⟨p,e⟩:=R₁.xob x z; (hfr x p e).2 rfl,fun z=>let ⟨p,e⟩:=R₁.fob x z; (hfr x p e).2 rfl⟩
    k _ ⟨R₁.toRel0.add (ob:=.inst D []) K (fun a p e=>(hfr a p e).1) ⟨_,n2⟩ hid (fun k1 k2=>⟨d6,Nat.zero_le _,hxf,[],0,n2,.nil⟩) hσ,R₁.pos⟩ (.obj Gh.add_rho) (Ext.add K (fun a p e=>(hfr a p e).1) hid rfl)) k
theorem ev_new (O:c.Ok) (VV:EnvOk env) {x:Str} {es:List Expr} {C:Ora} {mes:List ME} {D f:Nat} {lv:LV} {np pos} (hs:es.all noStar=true) (hk:env.kindOf x=some .globalImplicit) (hx:(x == ("__debug__":Str))=false)
    (hd:isCls c x D f=true) (hlv:lv ≠ .frz) (HC:OraOk c r C) (H2:EvsOk c (r + 1) env es (evs C mes)) :
    EvOk c (r + 1) env (.Call (.Name x np) es [] pos) (ev C (.new D f mes lv)):=fun _ _ _ _ _ _ E Q hr hf R N=>bnE hf fun vs σ₁ h1 h=>bnE h fun o σ₂ h3 h=>bnE h fun w σ₃ h5 h=>gdE h fun hw h6=>bA hd fun d1 d=>bA d fun d2 d=>bA d fun d3 d=>bA d fun d4 d=>bA d fun d5 d6=>by
  rw [arm_eval_Call_Name',starEach_args hs]
  refine wpAny_bind (Name_function_global VV.kind hk (wpAny_bind ((looks_nsIn R.kinD (VV.glob▸bE d1:nsIn c.K env.globals x=some (some (.ref (c.cA D))))).here (wpAny_pure ?_))) hx)
  refine callWith_of (P:=c.K.In) any_plain (keeps_K d2) (evalArgs_c (H2 hr h1 R fun xs s₁ g₁ R₁ X₁ E₁=>⟨R₁.kinD,wpAny_call ?_⟩))
  obtain ⟨m,hm,-⟩:=R₁.loc
  have F:Fr {} env.locals s₁.heap m:=⟨hm,fun b o e=>absurd (Heap.lt_size e) (Nat.not_lt_zero _),Nat.zero_le _⟩
  have N0:News {} env.locals s₁.heap (others s₁.heap env.locals env.locals):=fun p hp=>let z:=mem_others.mp (show (p.1,p.2) ∈ _ from hp); ⟨z.1,z.2.2,rfl⟩
  refine make_K F N0 R₁.kinD d3 (bE d4) (bE d5) fun x dx h' F' N' hlt hdx=>?_
  have n1:=N' _ (.head _)
  have n2:=N' _ (.tail _ (.head _))
  have hfr:∀ a p,s₁.heap.get? a=some p→a ≠ dx∧a ≠ x:=fun a p e=>by
    by_cases hl:a=env.locals
    · exact ⟨fun q=>n2.2.1 (q▸hl),fun q=>n1.2.1 (q▸hl)⟩
    · have:=hlt (a,p) (mem_others.mpr ⟨e,hl,hl⟩)
      exact ⟨Nat.ne_of_lt this,Nat.ne_of_lt (Nat.lt_trans this hdx)⟩
  have K:Keep env (fun _=>False) s₁.heap h':=.of_ns (fun b p _ hl e=>(N' (b,p) (.tail _ (.tail _ (mem_others.mpr ⟨e,hl,hl⟩)))).1) hm F'.ns
  refine inst_new (P:=fun o=>C f (o :: vs) σ₂=some (w,σ₃)→some (o,σ₃)=_→_) R₁ h3 hlv (of_decide_eq_true d6) K hfr n1.1 n2.1 hdx (fun g₂ R₂ hv E₂ h5 h6=>?_) h5 h6
  refine codeAny_mono (HC (E:=E) (Q:=fun v s'=>v=.none∧Q (.ref x) s') hr.under VV h5 R₂ (.cons hv (X₁.ext E₂)) fun y s₃ g₃ R₃ X₃ E₃=>?_) fun rr s' z=>?_
  · cases w <;> first | exact ff hw | skip
    exact X₃.noneE ⟨rfl,N.of h6 _ _ _ R₃ (hv.ext E₃) (E₁.trans (E₂.trans E₃))⟩
  · rcases rr with e | (v | _ | _ | _) <;> first | exact z | exact z.elim
end
end Mine
end
noncomputable section
open PySem PySem.Calls PyProof.Rows PySem.W
namespace Mine
noncomputable def CondOk (c:Cx) (r:Nat) (env:Env) (ifs:List Expr) (f:St→Option (Bool × St)):Prop:=
  ∀ ⦃A:Around⦄ ⦃σ:St⦄ ⦃b:Bool⦄ ⦃σ':St⦄ ⦃g:Gh⦄ ⦃s:Shared⦄ ⦃E:Value→Shared→Prop⦄ ⦃Q:Bool→Shared→Prop⦄,
    Room A r→f σ=some (b,σ')→Rel c env g σ s→NxtB c env g s σ' (Q b) →
    wpAny c.M A (forIn ifs true fun c r=>if r=true then do let ok ← PySem.isTrue c env (eval c env); pure (ForInStep.yield ok) else pure (ForInStep.yield r)) Q E s
noncomputable def masked (x:Nat):List (Nat × Mine.V)→List (Nat × Mine.V)
  | []=>[]
  | p :: l=>if p.1=x then masked x l else p :: masked x l
theorem look_masked (x n:Nat):∀ l:List (Nat × Mine.V),look (masked x l) n=if n=x then none else look l n
  | []=>by by_cases h:n=x <;> first | exact (if_pos h).symm | exact (if_neg h).symm
  | p :: l=>by
    show look (if p.1=x then masked x l else p :: masked x l) n=if n=x then none else (if p.1=n then some p.2 else look l n)
    by_cases h:p.1=x
    · rw [if_pos h,look_masked x n l]
      by_cases h2:n=x
      · rw [if_pos h2,if_pos h2]
      · rw [if_neg h2,if_neg h2,if_neg fun q=>h2 (q.symm.trans h)]
    · rw [if_neg h]
      show (if p.1=n then some p.2 else look (masked x l) n)=_
      rw [look_masked x n l]
      by_cases h2:n=x
      · rw [if_pos h2,if_pos h2,if_neg fun q=>h (q.trans h2)]
      · rw [if_neg h2,if_neg h2]
structure CompS (c:Cx) (env:Env) (scope:Scope) (x:Nat) (cl:List (Str × Addr)):Prop where
  clos:closureFor scope env=pure cl
  cell:∀ n,(relabel scope env).names.lookup (c.nm n)=some .cell→cl.lookup (c.nm n)=env.cells.lookup (c.nm n)∧env.kindOf (c.nm n)=some .cell
  noCell:∀ y ∈ scope.names,y.2 ≠ .cell
  kind:scope.kind=.function
  names:∀ y ∈ scope.names,y.2=.local→scope.names.lookup y.1=some .local
  hx:scope.names.lookup (c.nm x)=some .local
  loc:∀ n,(relabel scope env).names.lookup (c.nm n)=some .local→n=x
section
variable {c:Cx} {r:Nat} {env env' cenv:Env} {A:Around} {σ σ' σ₁ τ:St} {g g₁ g₂ g':Gh} {s s' s₁ s₂:Shared} {E:Value→Shared→Prop} {Q:Value→Shared→Prop} {v:Mine.V} {D:Addr→Prop}
theorem cond_nil {C:Ora}:CondOk c r env [] (tst C (.k (.bool true))):=fun _ _ _ _ _ _ _ _ _ hf R N=>by
  cases (show some (true,_)=some (_,_) from hf)
  rw [List.forIn_nil]
  exact wpAny_pure (N _ _ R .refl)
theorem cond_one {C:Ora} {e:Expr} {m:ME} (H:TstOk c r env e (tst C m)):CondOk c r env [e] (tst C m):=fun _ _ _ _ _ _ _ _ hr hf R N=>wpAny_tests_one (H hr hf R N)
theorem Rel.reloc (R:Rel c env g σ s) {l:List (Nat × Mine.V)} (h:∀ m,LocR c env (Mine.Fz env g s.heap) g.rho l m):Rel c env g { σ with loc:=l } s:=
  ⟨⟨R.kin,R.wob,R.xob,R.fob,R.dis,R.loc.imp fun m z=>⟨z.1,h m⟩,R.obs,R.cW,R.inj,R.nx,R.ps⟩,R.pos⟩

structure CC (c:Cx) (env cenv:Env) (I:Nat) (S:Nat→Heap→Prop) (g₁:Gh) (s₁:Shared):Prop where
  hI:I=s₁.heap.objs.size
  hK:cenv.locals=I + 2
  frm:∀ i h h',S i h→(∀ b,(b=I∨∃ o,Fz env g₁ s₁.heap b o)→∀ o,h.get? b=some o→h'.get? b=some o)→S i h'
  fob:∃ o,s₁.heap.get? env.locals=some o
theorem CC.lt {I S} (k:CC c env cenv I S g₁ s₁) {a:Addr} {p:Obj} (e:s₁.heap.get? a=some p):a < I:=k.hI▸Heap.lt_size e
theorem CC.neI {I S} (k:CC c env cenv I S g₁ s₁) {a:Addr} {p:Obj} (e:s₁.heap.get? a=some p):a ≠ I:=Nat.ne_of_lt (k.lt e)
theorem CC.neL {I S} (k:CC c env cenv I S g₁ s₁) {a:Addr} {p:Obj} (e:s₁.heap.get? a=some p):a ≠ I + 1:=Nat.ne_of_lt (Nat.lt_succ_of_lt (k.lt e))
theorem CC.neK {I S} (k:CC c env cenv I S g₁ s₁) {a:Addr} {p:Obj} (e:s₁.heap.get? a=some p):¬ FA cenv a:=fun q=>Nat.ne_of_lt (Nat.lt_succ_of_lt (Nat.lt_succ_of_lt (k.lt e))) (Eq.trans q k.hK)
theorem CC.nKI {I S} (k:CC c env cenv I S g₁ s₁):¬ FA cenv I:=fun q=>Nat.ne_of_lt (Nat.lt_succ_of_lt (Nat.lt_succ_self I)) (Eq.trans q k.hK)
theorem CC.nKL {I S} (k:CC c env cenv I S g₁ s₁):¬ FA cenv (I + 1):=fun q=>Nat.ne_of_lt (Nat.lt_succ_self (I + 1)) (Eq.trans q k.hK)
theorem CC.new {I S} (k:CC c env cenv I S g₁ s₁) (a:Addr) (z:FA cenv a):s₁.heap.objs.size≤a:=by rw [show a=I + 2 from k.hK▸z,← k.hI]; exact Nat.le_add_right _ _
noncomputable def cX (g₁:Gh) (env:Env) (I:Nat):Addr→Prop:=fun a=>(g₁.X a∨(a=I∨a=I + 1))∨FA env a
structure CI (c:Cx) (env cenv:Env) (I:Nat) (S:Nat→Heap→Prop) (g₁:Gh) (s₁:Shared) (i:Nat) (ys:Array Value) (n:Nat) (done:List Mine.V) (g₂:Gh) (s₂:Shared):Prop where
  X:g₂.X=cX g₁ env I
  E:Ext env g₁ { g₂ with X:=g₁.X } s₁ s₂
  S:S i s₂.heap
  L:IsL s₂.heap (I + 1) ys n
  V:Vxs c cenv g₂ s₂ done ys.toList
  fr:∀ p,s₁.heap.get? env.locals=some p→s₂.heap.get? env.locals=some p
section
variable {I:Nat} {S:Nat→Heap→Prop} {i i' n n':Nat} {ys ys':Array Value} {done done':List Mine.V}
theorem CI.xI (z:CI c env cenv I S g₁ s₁ i ys n done g₂ s₂) {a:Addr} (e:a=I):g₂.X a:=by rw [z.X]; exact .inl (.inr (.inl e))
theorem CI.xL (z:CI c env cenv I S g₁ s₁ i ys n done g₂ s₂) {a:Addr} (e:a=I + 1):g₂.X a:=by rw [z.X]; exact .inl (.inr (.inr e))
theorem CI.xE (z:CI c env cenv I S g₁ s₁ i ys n done g₂ s₂) {a:Addr} (e:FA env a):g₂.X a:=by rw [z.X]; exact .inr e
theorem CI.inn (k:CC c env cenv I S g₁ s₁) (z:CI c env cenv I S g₁ s₁ i ys n done g₂ s₂) {a:Addr} {o:Obj} (q:Mine.Fz env g₁ s₁.heap a o):Mine.Fz cenv g₂ s₂.heap a o:=
  ⟨(z.E.Fz q).1,(z.E.Fz q).2.1,fun w=>by rw [z.X] at w; exact w.elim (fun w=>w.elim q.2.2.1 fun w=>w.elim (k.neI q.1) (k.neL q.1)) q.2.2.2,k.neK q.1⟩
theorem CI.step (k:CC c env cenv I S g₁ s₁) (z:CI c env cenv I S g₁ s₁ i ys n done g₂ s₂) (R₂:Rel c cenv g₂ τ s₂) (e:Ext cenv g₂ g' s₂ s'):CI c env cenv I S g₁ s₁ i ys n done g' s':=
  ⟨e.X.trans z.X,⟨fun a o q w f=>let ⟨h,w'⟩:=z.E.fz a o q w f; e.fz a o h w' fun q'=>old_ne q (k.new a q') rfl,fun i p q=>e.cs i p (z.E.cs i p q),rfl,e.gens.trans z.E.gens⟩,
    k.frm _ _ _ z.S fun b hb o eo=>hb.elim (fun q=>(e.fz _ _ eo (fun w=>(R₂.dis _ w).1 (z.xI q)) (q▸k.nKI)).1) fun ⟨o',q⟩=>by
      have q':=z.inn k q
      cases q'.1.symm.trans eo
      exact (e.fz _ _ eo q'.2.1 q'.2.2.2).1,
    (e.fz _ _ z.L (fun w=>(R₂.dis _ w).1 (z.xL rfl)) k.nKL).1,z.V.ext e,fun p ep=>(e.fz _ _ (z.fr p ep) (fun w=>(R₂.dis _ w).1 (z.xE rfl)) (k.neK ep)).1⟩
theorem CI.iter {S':Nat→Heap→Prop} (k:CC c env cenv I S g₁ s₁) (z:CI c env cenv I S g₁ s₁ i ys n done g₂ s₂) (hk:∀ b p,¬ b=I→s₂.heap.get? b=some p→s'.heap.get? b=some p) (hg:gos s'=gos s₂) (hS:S' i' s'.heap):CI c env cenv I S' g₁ s₁ i' ys n done g₂ s':=
  ⟨z.X,z.E.changed (D:=(·=I)) (fun a e=>e▸Nat.le_of_eq k.hI.symm) hk hg,hS,hk _ _ (Nat.succ_ne_self I) z.L,z.V.changed (D:=(·=I)) (fun a e=>z.xI e) hk,fun p e=>hk _ _ (k.neI e) (z.fr p e)⟩
theorem CI.app (k:CC c env cenv I S g₁ s₁) (z:CI c env cenv I S g₁ s₁ i ys n done g₂ s₂) (hk:∀ b p,¬ b=I + 1→s₂.heap.get? b=some p→s'.heap.get? b=some p) (hg:gos s'=gos s₂) (hl:IsL s'.heap (I + 1) ys' n') (hv:Vxs c cenv g₂ s' done' ys'.toList) :
    CI c env cenv I S g₁ s₁ i ys' n' done' g₂ s':=
  ⟨z.X,z.E.changed (D:=(·=I + 1)) (fun a e=>by rw [e,← k.hI]; exact Nat.le_succ _) hk hg,k.frm _ _ _ z.S fun b hb o eo=>hk b o (hb.elim (fun q=>by rw [q]; exact (Nat.succ_ne_self I).symm) fun ⟨_,q⟩=>k.neL q.1) eo,hl,hv,fun p e=>hk _ _ (k.neL e) (z.fr p e)⟩
theorem CI.loc {scope:Scope} {x:Nat} {cl:List (Str × Addr)} (k:CC c env (compEnvC scope cl (I + 2) env) I S g₁ s₁) (C:CompS c env scope x cl) (R₁:Rel c env g₁ σ₁ s₁) (z:CI c env (compEnvC scope cl (I + 2) env) I S g₁ s₁ i ys n done g₂ s₂) (m:Str→Option Value) :
    LocR c (compEnvC scope cl (I + 2) env) (Mine.Fz (compEnvC scope cl (I + 2) env) g₂ s₂.heap) g₂.rho (masked x σ₁.loc) m:=fun n v e=>by
  rw [look_masked] at e
  by_cases hne:n=x
  · rw [if_pos hne] at e; exact nn e
  · rw [if_neg hne] at e
    refine ⟨fun q=>absurd (C.loc n q) hne,fun q=>?_⟩
    obtain ⟨q1,q2⟩:=C.cell n q
    obtain ⟨_,_,hl⟩:=R₁.loc
    obtain ⟨ca,o',y,e1,e2,e3,r⟩:=(hl n v e).2 q2
    exact ⟨ca,o',y,q1.trans e1,z.inn k e2,e3,r.mono (fun _ _=>z.inn k) fun _ _=>z.E.rho⟩
end
theorem look_put_masked {x n:Nat} {w:Mine.V} {l:List (Nat × Mine.V)} {v:Mine.V} (e:look ((x,w) :: l) n=some v):look (Mine.put (masked x l) x w) n=some v:=by
  rw [look_put]
  by_cases h:x=n
  · exact (if_pos h).trans ((if_pos h).symm.trans e)
  · exact (if_neg h).trans ((look_masked x n l).trans ((if_neg fun q=>h q.symm).trans ((if_neg h).symm.trans e)))
inductive CompI (c:Cx) (env cenv:Env) (S:Nat→Heap→Prop) (g₁:Gh) (s₁:Shared) (σ₁:St) (x:Nat) (l:List Mine.V) (body:Mine.V→St→Option (Option Mine.V × St)) (rs:List Mine.V) (σ':St) (k:Nat) (s₂:Shared):Prop
  | mk (i:Nat) (τ:St) (g₂:Gh) (ys:Array Value) (n:Nat) (done rest:List Mine.V) (hk:k=l.length + 1 - i) (hi:i≤l.length) (hτ:τ.loc=σ₁.loc) (R:Rel c cenv g₂ { τ with loc:=masked x σ₁.loc } s₂) (Z:CI c env cenv s₁.heap.objs.size S g₁ s₁ i ys n done g₂ s₂)
      (hd:done.length≤i) (hN:compN body (l.drop i) τ=some (rest,σ')) (hrs:rs=done ++ rest)
theorem names_gone {K:Addr} (R:Rel c env (g₁.hid (·=K)) σ s₁) (hn:∀ a,g₁.X a→a ≠ K) (hf:K ≠ env.locals) (hs:∀ b p,¬ b=K→s₁.heap.get? b=some p→s'.heap.get? b=some p) (hp:0 < s'.toks):Rel c env g₁ σ s':=
  R.drop (D:=(·=K)) (X:=g₁.X) (fun a x=>.inl x) (fun a x=>.inr x) hn hs (fun a e q=>hf (e.symm.trans q)) hp
structure CEnd (c:Cx) (env:Env) (g:Gh) (s:Shared) (v:Mine.V) (σ':St) (g':Gh) (s':Shared) (K L:Addr) (mm:Str→Option Value):Prop where
  R:Rel c env (g'.hid (·=K)) σ' s'
  hK:∀ a p,s.heap.get? a=some p→¬ g.W a→¬ FA env a→a ≠ K
  hKX:∀ a,g'.X a→a ≠ K
  hKL:K ≠ env.locals
  V:Vx c env (g'.hid (·=K)) s' v (.ref L)
  E:Ext env g g' s s'
  ns:s'.heap.Ns K mm
theorem comp_end {S} {i n:Nat} {ys:Array Value} {done:List Mine.V} {mm:Str→Option Value} (k:CC c env cenv s₁.heap.objs.size S g₁ s₁) (R₁:Rel c env g₁ σ₁ s₁) (E₁:Ext env g g₁ s s₁) (z:CI c env cenv s₁.heap.objs.size S g₁ s₁ i ys n done g₂ s₂)
    {l:List (Nat × Mine.V)} (R₂:Rel c cenv g₂ { σ' with loc:=l } s₂) (hτ:σ'.loc=σ₁.loc) (hmm:s₂.heap.Ns cenv.locals mm) (hk:∀ b p,¬ b=s₁.heap.objs.size→s₂.heap.get? b=some p→s'.heap.get? b=some p) (hg:gos s'=gos s₂) (hp:0 < s'.toks) :
    CEnd c env g s (.list done) σ' { g₂ with X:=g₁.X } s' (s₁.heap.objs.size + 2) (s₁.heap.objs.size + 1) mm:=by
  obtain ⟨m,hm,hl⟩:=R₁.loc
  have z':CI c env cenv s₁.heap.objs.size (fun _ _=>True) g₁ s₁ i ys n done g₂ s':=z.iter k hk hg trivial
  have kW:∀ a,g₂.W a→¬ a=s₁.heap.objs.size:=fun a w q=>(R₂.dis a w).1 (z.xI q)
  have kF:∀ a o,Mine.Fz cenv g₂ s₂.heap a o→Mine.Fz env (({ g₂ with X:=g₁.X }:Gh).hid (·=s₁.heap.objs.size + 2)) s'.heap a o:=fun a o q =>
    ⟨hk _ _ (fun w=>q.2.2.1 (z.xI w)) q.1,q.2.1,fun w=>w.elim (fun w=>q.2.2.1 (by rw [z.X]; exact .inl (.inl w))) fun w=>q.2.2.2 (w.trans k.hK.symm),fun w=>q.2.2.1 (z.xE w)⟩
  have hmm':s'.heap.Ns (s₁.heap.objs.size + 2) mm:=k.hK▸hmm.at fun p e=>hk _ _ (fun q=>k.nKI q.symm) e
  exact ⟨⟨⟨fun a o q=>kF _ _ (R₂.kin a o q),fun a w=>(R₂.wob a w).imp fun o e=>hk _ _ (kW a w) e,fun a q=>q.elim (fun q=>let ⟨p,h⟩:=R₁.xob a q; (R₂.xob a (by rw [z.X]; exact .inl (.inl q))).imp fun o e=>hk _ _ (k.neI h) e) fun q=>let ⟨p,_,_,e,_⟩:=hmm'; ⟨p,q▸e⟩,
      fun a q=>(R₁.fob a q).imp fun o e=>by cases (show a=env.locals from q); exact z'.fr o e,
      fun a w=>⟨fun q=>q.elim (fun q=>(R₂.dis a w).1 (by rw [z.X]; exact .inl (.inl q))) fun q=>(R₂.dis a w).2 (q.trans k.hK.symm),fun q=>(R₂.dis a w).1 (z.xE q)⟩,⟨m,hm.at fun p e=>z'.fr p e,hτ▸hl.mono (fun a o q=>kF a o (z.inn k q)) fun _ _=>z.E.rho⟩,
      fun id ob q=>(R₂.obs id ob q).imp fun _=>Exists.imp fun _ q=>⟨q.1,q.2.mono kF (fun _ _ q=>q) fun _=>hk _ _ (kW _ (R₂.cW _ _ _ q.1))⟩,R₂.cW,R₂.inj,R₂.nx,R₂.ps⟩,hp⟩,
    fun a p e w f q=>k.neK (E₁.fz a p e w f).1 (q.trans k.hK.symm),fun a q e=>let ⟨p,h⟩:=R₁.xob a q; k.neK h (e.trans k.hK.symm),fun q=>let ⟨p,h⟩:=R₁.fob _ rfl; k.neK h (q.symm.trans k.hK.symm),
    .list (n:=n) ⟨z'.L,fun w=>(R₂.dis _ w).1 (z.xL rfl),fun q=>q.elim (fun q=>let ⟨p,h⟩:=R₁.xob _ q; k.neL h rfl) fun q=>absurd q (Nat.succ_ne_self _).symm,fun q=>let ⟨p,h⟩:=R₁.fob _ rfl; k.neL h q.symm⟩ (z.V.mono kF fun _ _ q=>q),E₁.trans z'.E,hmm'⟩

variable {scope:Scope} {x:Nat} {cl:List (Str × Addr)} {C:Ora} {elt it:Expr} {mi me mc:ME} {px:Pos} {ifs:List Expr} {pos:Pos} {use:Option (Value→Sem Unit)} {Q':Value→Shared→Prop}
theorem comp_in {S} (k:CC c env cenv s₁.heap.objs.size S g₁ s₁) (R₁:Rel c env g₁ σ₁ s₁) (z:CI c env cenv s₁.heap.objs.size S g₁ s₁ 0 #[] 0 [] { g₁ with X:=cX g₁ env s₁.heap.objs.size } s') {o:Obj} (k0:∀ b p,s₁.heap.get? b=some p→s'.heap.get? b=some p) (hI:s'.heap.get? s₁.heap.objs.size=some o)
    {m:Str→Option Value} (hn:s'.heap.Ns (s₁.heap.objs.size + 2) m) {l:List (Nat × Mine.V)} (hl:∀ m,LocR c cenv (Mine.Fz cenv { g₁ with X:=cX g₁ env s₁.heap.objs.size } s'.heap) g₁.rho l m) (hp:0 < s'.toks):Rel c cenv { g₁ with X:=cX g₁ env s₁.heap.objs.size } { σ₁ with loc:=l } s':=
  ⟨⟨fun a o q=>z.inn k (R₁.kin a o q),fun a q=>(R₁.wob a q).imp fun o e=>k0 _ _ e,fun a q=>q.elim (fun q=>q.elim (fun q=>(R₁.xob a q).imp fun o e=>k0 _ _ e) fun q=>q.elim (fun q=>⟨o,q▸hI⟩) fun q=>⟨_,q▸z.L⟩) fun q=>(R₁.fob a q).imp fun o e=>k0 _ _ e,
    fun a q=>let ⟨p,_,_,e,_⟩:=hn; ⟨p,(k.hK▸q:a=s₁.heap.objs.size + 2)▸e⟩,fun a w=>let ⟨p,h⟩:=R₁.wob a w; ⟨fun q=>q.elim (fun q=>q.elim (R₁.dis a w).1 fun q=>q.elim (k.neI h) (k.neL h)) (R₁.dis a w).2,k.neK h⟩,⟨m,k.hK▸hn,hl m⟩,
    fun id ob q=>(R₁.obs id ob q).imp fun _=>Exists.imp fun _ q=>⟨q.1,q.2.mono (fun _ _=>z.inn k) (fun _ _ q=>q) fun _=>k0 _ _⟩,R₁.cW,R₁.inj,R₁.nx,R₁.ps⟩,hp⟩
theorem comp_loop (O:c.Ok) (VV:EnvOk env) (F:CompS c env scope x cl) (H2:∀ L,EnvOk (compEnvC scope cl L env)→EvOk c r (compEnvC scope cl L env) elt (ev C me)) (H3:∀ L,EnvOk (compEnvC scope cl L env)→CondOk c r (compEnvC scope cl L env) ifs (tst C mc))
    (hr:Room A r) {l rs:List Mine.V} {o:Obj} {fp P S} (T:ItF c env g₁ s₁ l o fp P S) (K:CC c env (compEnvC scope cl (s₁.heap.objs.size + 2) env) s₁.heap.objs.size S g₁ s₁) (R₁:Rel c env g₁ σ₁ s₁) (E₁:Ext env g g₁ s s₁) (hlb:l.length≤sizeLine)
    (N:∀ g' s' mm,CEnd c env g s (.list rs) σ' g' s' (s₁.heap.objs.size + 2) (s₁.heap.objs.size + 1) mm→compPost c.M A E use Q' (.ref (s₁.heap.objs.size + 1)) (s₁.heap.objs.size + 2) (.ok .next) s')
    {s₃:Shared} (I0:CompI c env (compEnvC scope cl (s₁.heap.objs.size + 2) env) S g₁ s₁ σ₁ x l (compF (ev C me) (ev C mc) x σ₁.loc) rs σ' (l.length + 1) s₃) :
    codeAny c.M A (.compLoop (.ListComp elt [⟨.Name (c.nm x) px,it,ifs,0⟩] scope pos) 0 (.ref s₁.heap.objs.size) (.ref (s₁.heap.objs.size + 1)) (compEnvC scope cl (s₁.heap.objs.size + 2) env)) (compPost c.M A E use Q' (.ref (s₁.heap.objs.size + 1)) (s₁.heap.objs.size + 2)) s₃:=by
  have VVc:EnvOk (compEnvC scope cl (s₁.heap.objs.size + 2) env):=⟨F.kind,VV.glob,VV.blt⟩
  have hkx:(compEnvC scope cl (s₁.heap.objs.size + 2) env).kindOf (c.nm x)=some .local:=lookup_relabel_local F.hx
  have W:=T.walks A hr.1
  have kk:∀ {h h':Heap},(∀ b p,b ∉ [s₁.heap.objs.size]→h.get? b=some p→h'.get? b=some p)→∀ b p,¬ b=s₁.heap.objs.size→h.get? b=some p→h'.get? b=some p:=fun h b p hb=>h b p fun q=>hb (List.mem_singleton.mp q)
  refine codeAny_compLoop_tests (I:=CompI c env (compEnvC scope cl (s₁.heap.objs.size + 2) env) S g₁ s₁ σ₁ x l (compF (ev C me) (ev C mc) x σ₁.loc) rs σ') (fun k s₂ I=>?_) (l.length + 1) I0 (fun _=>rfl)
  cases I with
  | mk i τ g₂ ys n done rest hk' hi hτ R₂ z hdl hN hrs =>
    by_cases hlt:i < l.length
    · refine wpAny_toks R₂.pos (W.item i s₂ _ _ hlt z.S fun y h' tk hPy hS' hk₂ htk=>?_)
      obtain ⟨w,hw,hwy⟩:=T.item i y hlt hPy
      have R₃:Rel c _ g₂ { τ with loc:=masked x σ₁.loc } { s₂ with heap:=h',toks:=tk }:=R₂.changed (D:=(·=s₁.heap.objs.size)) (fun a e=>z.xI e) (kk hk₂) (fun a e=>e▸T.alive _ _ hS') (fun a e=>e▸K.nKI) htk
      have z₃:=z.iter (s':={ s₂ with heap:=h',toks:=tk }) (i':=i + 1) K (kk hk₂) rfl hS'
      have hd:l.drop i=w :: l.drop (i + 1):=by
        obtain ⟨h1,h2⟩:=List.getElem?_eq_some_iff.mp hw
        rw [List.drop_eq_getElem_cons h1,h2]
      rw [hd] at hN
      refine bnE (show bn (compF (ev C me) (ev C mc) x σ₁.loc w τ) (fun o σ₁'=>bn (compN (compF (ev C me) (ev C mc) x σ₁.loc) (l.drop (i + 1)) σ₁') fun l σ₂=>some (optCons o l,σ₂))=some (rest,σ') from hN) fun ov τ' hb hN=>bnE hN fun rest' τe hNb hNc=>?_
      refine bnE (show bn (ev C mc { τ with loc:=(x,w) :: σ₁.loc }) (fun w τ₁=>bo (Mine.truthy τ₁ w) fun c=>match c with | false=>some (none,{ τ₁ with loc:=σ₁.loc }) | true=>bn (ev C me τ₁) fun z τ₂=>some (some z,{ τ₂ with loc:=σ₁.loc }))=some (ov,τ') from hb) fun cw τ₁ hb1 hb=>boE hb fun tb hb3 hb4=>?_
      refine wpAny_assign_Name (store_ok O VVc hkx R₃ (hwy.mono (fun _ _=>z₃.inn K) fun _ _=>z₃.E.rho) fun s₄ R₄ E₄=>H3 _ VVc hr (tst_of hb1 hb3) (R₄.sub (σ':={ τ with loc:=(x,w) :: σ₁.loc }) (fun n v e=>look_put_masked e) (fun _ _ e=>e) (Nat.le_refl _) (fun _ e=>e)) fun s₅ g₅ R₅ E₅=>?_)
      have z₅:=z₃.step K R₃ (E₄.trans E₅)
      cases tb with
      | false =>
        cases hb4
        cases hNc
        exact ⟨l.length + 1 - (i + 1),hk'▸turn_lt hlt,.mk (i + 1) { τ₁ with loc:=σ₁.loc } g₅ ys n done rest' rfl hlt rfl (R₅.reloc (z₅.loc K F R₁)) z₅ (Nat.le_succ_of_le hdl) hNb hrs⟩
      | true =>
        refine bnE hb4 fun u τ₂ hb5 hb6=>?_
        cases hb6
        cases hNc
        refine H2 _ VVc hr hb5 R₅ fun zv s₆ g₆ R₆ X₆ E₆=>?_
        have z₆:=z₅.step K R₅ E₆
        refine wpAny_list_append_plain (items:=ys) ⟨n,z₆.L⟩ (fun h₇ hl₇ hs₇=>?_) (by rw [size_of z₆.V]; exact Nat.le_trans hdl (Nat.le_trans hi hlb))
        obtain ⟨n',hl₇⟩:=hl₇
        have hk₇:∀ b p,¬ b=s₁.heap.objs.size + 1→s₆.heap.get? b=some p→h₇.get? b=some p:=fun b p hb e=>(hs₇.2 b hb).trans e
        have ch:∀ a,a=s₁.heap.objs.size + 1→g₆.X a:=fun a e=>z₆.xL e
        have R₇:Rel c _ g₆ τ₂ { s₆ with heap:=h₇ }:=R₆.changed (D:=(·=s₁.heap.objs.size + 1)) ch hk₇ (fun a e=>e▸⟨_,hl₇⟩) (fun a e=>e▸K.nKL) R₆.pos
        have z₇:=z₆.app (s':={ s₆ with heap:=h₇ }) (ys':=ys.push zv) (n':=n') (done':=done ++ [u]) K hk₇ rfl hl₇ (by rw [Array.toList_push]; exact (z₆.V.changed (D:=(·=s₁.heap.objs.size + 1)) ch hk₇).append (.cons (X₆.changed (D:=(·=s₁.heap.objs.size + 1)) ch hk₇) .nil))
        exact ⟨l.length + 1 - (i + 1),hk'▸turn_lt hlt,.mk (i + 1) { τ₂ with loc:=σ₁.loc } g₆ (ys.push zv) n' (done ++ [u]) rest' rfl hlt rfl (R₇.reloc (z₇.loc K F R₁)) z₇ (by rw [List.length_append]; exact Nat.succ_le_succ hdl) hNb (by rw [hrs,List.append_assoc]; rfl)⟩
    · cases Nat.le_antisymm hi (Nat.not_lt.mp hlt)
      rw [List.drop_length] at hN
      cases (show some ([],τ)=some (rest,σ') from hN)
      refine wpAny_toks R₂.pos (W.done s₂ _ _ z.S fun h' tk hk₂ htk=>?_)
      obtain ⟨mm,hmm,-⟩:=R₂.loc
      rw [List.append_nil] at hrs
      exact N _ _ mm (hrs▸comp_end (s':={ s₂ with heap:=h',toks:=tk }) K R₁ E₁ z R₂ hτ hmm (kk hk₂) rfl htk)
theorem comp_core (O:c.Ok) (VV:EnvOk env) (hs:∀ x,foldedSetIterable it env x=pure x) (F:CompS c env scope x cl) (H:EvOk c r env it (ev C mi))
    (H2:∀ L,EnvOk (compEnvC scope cl L env)→EvOk c r (compEnvC scope cl L env) elt (ev C me)) (H3:∀ L,EnvOk (compEnvC scope cl L env)→CondOk c r (compEnvC scope cl L env) ifs (tst C mc))
    {p0:Pos} (hr:Room A r) (hf:ev C (.comp me x mi mc) σ=some (v,σ')) (R:Rel c env g σ s) (N:∀ g' s' K L mm,CEnd c env g s v σ' g' s' K L mm→compPost c.M A E use Q' (.ref L) K (.ok .next) s') :
    wpAny c.M A (comprehension (.ListComp elt [⟨.Name (c.nm x) px,it,ifs,0⟩] scope pos) scope env p0 (newList []) false (eval it env) use) Q' E s:=
  bnE hf fun w σ₁ h1 h=>boE h fun l h3 h=>bdE h fun hlb h=>bnE h fun rs σ₂ h5 h6=>by
    cases h6
    refine wpAny_comprehension_free (use:=use) rfl hs F.clos F.kind F.names (H hr h1 R fun xv s₁ g₁ R₁ X₁ E₁=>iter_ok h3 R₁ X₁ fun o fp P S T=>?_)
    refine wpAny_newObj_type (wpAny_newFunctionEnv F.noCell (fun y hy=>nomatch hy) (fun h₁ hns₁ hsb₁=>?_) F.kind)
    have e1:(s₁.heap.push o).objs.size=s₁.heap.objs.size + 1:=Heap.size_push ..
    have e2:((s₁.heap.push o).push { cls:=.type "list",dict:=none,data:=.seq ([]:List Value).toArray }).objs.size=s₁.heap.objs.size + 2:=by rw [Heap.size_push,e1]
    dsimp only at hns₁ hsb₁ ⊢
    rw [e1]
    rw [e2] at hns₁ hsb₁ ⊢
    have W:=T.walks A hr.1
    have k1:∀ b p,(s₁.heap.push o).get? b=some p→h₁.get? b=some p:=fun b p e=>(hsb₁.2 b (Nat.ne_of_lt (Nat.lt_succ_of_lt (e1▸Heap.lt_size e)))).trans (Heap.get?_push_of_some _ (Heap.get?_push_of_some _ e))
    have k0:∀ b p,s₁.heap.get? b=some p→h₁.get? b=some p:=fun b p e=>k1 b p (Heap.get?_push_of_some _ e)
    have hL:IsL h₁ (s₁.heap.objs.size + 1) #[] 0:=(hsb₁.2 _ (Nat.ne_of_lt (Nat.lt_succ_self _))).trans (Heap.get?_push_of_some _ (by rw [← e1]; exact Heap.get?_push_size _ rfl))
    have hI:h₁.get? s₁.heap.objs.size=some o:=k1 _ _ (Heap.get?_push_size _ T.fr)
    have K:CC c env (compEnvC scope cl (s₁.heap.objs.size + 2) env) s₁.heap.objs.size S g₁ s₁:=⟨rfl,rfl,fun i h h' hS q=>W.frame _ _ _ hS fun b hb=>q b (T.fp b hb),R₁.fob _ rfl⟩
    have S0:S 0 h₁:=W.frame _ _ _ T.s0 fun b _=>k1 b
    have z:CI c env (compEnvC scope cl (s₁.heap.objs.size + 2) env) s₁.heap.objs.size S g₁ s₁ 0 #[] 0 [] { g₁ with X:=cX g₁ env s₁.heap.objs.size } { s₁ with heap:=h₁,toks:=s₁.toks + ([]:List (Str × Value)).length }:=
      ⟨rfl,⟨fun a p e w _=>⟨k0 _ _ e,w⟩,fun _ _ e=>e,rfl,rfl⟩,S0,hL,.nil,k0 _⟩
    have RC:=comp_in K R₁ z k0 hI hns₁ (z.loc K F R₁) R₁.pos
    have loop:=comp_loop (E:=E) (use:=use) (Q':=Q') (elt:=elt) (it:=it) (px:=px) (ifs:=ifs) (pos:=pos) O VV F H2 H3 hr T K R₁ E₁ (Nat.le_trans hlb (by rw [sizeLine_eq]; decide)) (fun g' s' mm h=>N _ _ _ _ mm h) (.mk 0 σ₁ _ #[] 0 [] rs rfl (Nat.zero_le _) rfl RC z (Nat.zero_le _) h5 rfl)
    exact codeAny_compStart_list loop (W.self 0 _ _ _ S0 loop)
theorem ev_comp (O:c.Ok) (VV:EnvOk env) (hs:∀ x,foldedSetIterable it env x=pure x) (F:CompS c env scope x cl) (H:EvOk c r env it (ev C mi))
    (H2:∀ L,EnvOk (compEnvC scope cl L env)→EvOk c r (compEnvC scope cl L env) elt (ev C me)) (H3:∀ L,EnvOk (compEnvC scope cl L env)→CondOk c r (compEnvC scope cl L env) ifs (tst C mc)) :
    EvOk c r env (.ListComp elt [⟨.Name (c.nm x) px,it,ifs,0⟩] scope pos) (ev C (.comp me x mi mc)):=fun _ _ _ _ _ _ _ _ hr hf R N=>by
  rw [eval_ListComp]
  refine comp_core O VV hs F H H2 H3 (use:=none) hr hf R fun g' s' K L mm e=>⟨mm,e.ns,fun h' hs'=>?_⟩
  have hk:∀ b p,¬ b=K→s'.heap.get? b=some p→h'.get? b=some p:=fun b p hb e=>(hs'.2 b hb).trans e
  exact N _ _ _ (names_gone e.R e.hKX e.hKL hk e.R.pos) (e.V.mono (fun a o z=>⟨hk _ _ (fun q=>z.2.2.1 (.inr q)) z.1,z.2.1,fun q=>z.2.2.1 (.inl q),z.2.2.2⟩) fun _ _ z=>z) ⟨fun a p q w f=>⟨hk _ _ (e.hK a p q w f) (e.E.fz a p q w f).1,(e.E.fz a p q w f).2⟩,e.E.cs,e.E.X,e.E.gens⟩
theorem ex_asgC (O:c.Ok) (VV:EnvOk env) (hs:∀ x,foldedSetIterable it env x=pure x) (F:CompS c env scope x cl) {n:Nat} {np spos:Pos} (hk:env.kindOf (c.nm n)=some .local)
    (hsw:swapsWith (.ListComp elt [⟨.Name (c.nm x) px,it,ifs,0⟩] scope pos) (some (.Name (c.nm n) np)) spos.line env=pure true) (H:EvOk c r env it (ev C mi))
    (H2:∀ L,EnvOk (compEnvC scope cl L env)→EvOk c r (compEnvC scope cl L env) elt (ev C me)) (H3:∀ L,EnvOk (compEnvC scope cl L env)→CondOk c r (compEnvC scope cl L env) ifs (tst C mc)) :
    ExOk c r env (.Assign [.Name (c.nm n) np] (.ListComp elt [⟨.Name (c.nm x) px,it,ifs,0⟩] scope pos) spos) (exc C (.asg n (.comp me x mi mc))):=fun A _ fl σ' g s E Q hr hf R N=>bnE hf fun v σ₁ h1 h2=>by
  rw [exec_Assign_Name_used _ _ _ _ hsw]
  refine wpAny_bind (wpAny_standAt (wpAny_bind ?_))
  show wpAny _ A (do let _ ← comprehension (.ListComp elt [⟨.Name (c.nm x) px,it,ifs,0⟩] scope pos) scope env _ (newList []) false (eval it env) (some (assign (.Name (c.nm n) np) env))) _ _ s
  refine wpAny_bind (wpAny_mono (comp_core (Q':=fun _ s'=>Q .next s') O VV hs F H H2 H3 (use:=some (assign (.Name (c.nm n) np) env)) hr h1 R fun g' s' K L mm e=>?_) (fun _ s' hq=>wpAny_pure (wpAny_pure hq)) fun _ _ e=>e)
  show wpAny _ _ (assign (.Name (c.nm n) np) env (.ref L)) _ _ _
  refine wpAny_assign_Name (store_ok O VV hk e.R e.V fun s'' R'' E''=>⟨mm,e.ns.at fun p q=>(E''.fz _ _ q (fun w=>(e.R.dis _ w).1 (.inr rfl)) e.hKL).1,fun h' hs'=>?_⟩)
  have hk:∀ b p,¬ b=K→s''.heap.get? b=some p→h'.get? b=some p:=fun b p hb e=>(hs'.2 b hb).trans e
  exact (N.of h2).nxt (names_gone R'' e.hKX e.hKL hk R''.pos) ⟨fun a p q w f=>let ⟨z,w'⟩:=e.E.fz a p q w f; ⟨hk _ _ (e.hK a p q w f) (E''.fz a p z w' f).1,w'⟩,e.E.cs,e.E.X,E''.gens.trans e.E.gens⟩
end
end Mine
end
noncomputable section
open PySem PySem.Calls PyProof.Rows PySem.W
namespace Mine
section
variable {c:Cx} {r:Nat} {env env':Env}
theorem ev_cell (O:c.Ok) (VV:EnvOk env) {n:Nat} {pos} (hk:env.kindOf (c.nm n)=some .cell):EvOk c r env (.Name (c.nm n) pos) (fun σ=>bo (look σ.loc n) fun v=>some (v,σ)):=fun _ _ _ _ _ _ _ _ _ hf R N=>boE hf fun w hv e=>by
  obtain ⟨m,hm,hl⟩:=R.loc
  obtain ⟨ca,o,x,h1,h2,h3,r⟩:=(hl n _ hv).2 hk
  exact wpAny_Name (wpAny_loadName_cell VV.kind hk h1 ⟨o,h2.1,h3⟩ ((N.of e).same R r)) (O.noDbg n)
end
noncomputable def EnvCells (env:Env):Prop:=∀ x,env.kindOf x=some .cell→(env.cells.lookup x).isSome=true
noncomputable def cloF (env:Env) (p:Str × NameKind) (cs:List (Str × Addr)):Sem (ForInStep (List (Str × Addr))):=match p with
  | (name,kind)=>if (kind == NameKind.free)=true then do let a ← cellOf env name; pure (ForInStep.yield ((name,a) :: cs)) else pure (ForInStep.yield cs)
theorem clo_loop {env:Env}:∀ (l:List (Str × NameKind)) (acc:List (Str × Addr)),(∀ p ∈ l,p.2=.free→(env.cells.lookup p.1).isSome=true)→(∀ n a,acc.lookup n=some a→env.cells.lookup n=some a) →
    ∃ cl,forIn l acc (cloF env)=pure cl∧(∀ n a,cl.lookup n=some a→env.cells.lookup n=some a)∧∀ n,((n,NameKind.free) ∈ l∨(acc.lookup n).isSome=true)→(cl.lookup n).isSome=true
  | [],acc,_,ha=>⟨acc,rfl,ha,fun n h=>h.elim (fun h=>nomatch h) id⟩
  | (m,k) :: l,acc,hl,ha=>by
    rw [List.forIn_cons]
    by_cases hk:(k == NameKind.free)=true
    · obtain ⟨a,hs⟩:=Option.isSome_iff_exists.mp (hl (m,k) (.head _) (beq_iff_eq.mp hk))
      have hs:env.cells.lookup m=some a:=hs
      have hf:cloF env (m,k) acc=pure (ForInStep.yield ((m,a) :: acc)):=by
        show (if (k == NameKind.free)=true then (cellOf env m >>= fun a=>pure (ForInStep.yield ((m,a) :: acc))) else _)=_
        rw [if_pos hk]; unfold cellOf; rw [hs]; rfl
      obtain ⟨cl,h0,h1,h2⟩:=clo_loop l ((m,a) :: acc) (fun p hp=>hl p (.tail _ hp)) fun n a' e=>by
        rw [List.lookup_cons] at e
        by_cases hn:n=m
        · subst hn; rw [beq_self_eq_true] at e; exact hs.trans e
        · rw [beq_false_of_ne hn] at e; exact ha n a' e
      refine ⟨cl,by rw [hf]; exact h0,h1,fun n h=>h2 n ?_⟩
      have hd:((List.lookup m ((m,a) :: acc))).isSome=true:=by rw [List.lookup_cons,beq_self_eq_true]; rfl
      refine h.elim (fun h=>(List.mem_cons.mp h).elim (fun h=>.inr ?_) .inl) fun h=>.inr ?_
      · cases h; exact hd
      · by_cases hn:n=m
        · subst hn; exact hd
        · rw [List.lookup_cons,beq_false_of_ne hn]; exact h
    · have hf:cloF env (m,k) acc=pure (ForInStep.yield acc):=if_neg hk
      obtain ⟨cl,h0,h1,h2⟩:=clo_loop l acc (fun p hp=>hl p (.tail _ hp)) ha
      exact ⟨cl,by rw [hf]; exact h0,h1,fun n h=>h2 n (h.elim (fun h=>(List.mem_cons.mp h).elim (fun h=>absurd (by cases h; rfl) hk) .inl) .inr)⟩
theorem closureFor_eq {env:Env} {scope:Scope} (h:∀ p ∈ scope.names,p.2=.free→(env.cells.lookup p.1).isSome=true) :
    ∃ cl,closureFor scope env=pure cl∧(∀ n a,cl.lookup n=some a→env.cells.lookup n=some a)∧∀ n,(n,NameKind.free) ∈ scope.names→(cl.lookup n).isSome=true:=by
  obtain ⟨cl,h0,h1,h2⟩:=clo_loop (env:=env) scope.names [] h fun _ _ e=>nomatch e
  refine ⟨cl,?_,h1,fun n h=>h2 n (.inl h)⟩
  show (forIn scope.names [] (cloF env) >>= fun cs=>pure cs)=_
  rw [h0]; rfl
theorem lookup_mem {α:Type} {l:List (Str × α)} {x:Str} {a:α} (h:l.lookup x=some a):(x,a) ∈ l:=by
  obtain ⟨l1,l2,e,-⟩:=List.lookup_eq_some_iff.mp h
  rw [e]; exact List.mem_append_right _ (.head _)
theorem relabel_mem {env:Env} {scope:Scope} {x:Str} {k:NameKind} (h:(relabel scope env).names.lookup x=some k):((x,NameKind.free) ∈ scope.names∧env.kindOf x=some .cell∧k=.cell)∨(x,k) ∈ scope.names:=by
  obtain ⟨⟨a,b⟩,hp,e⟩:=List.mem_map.mp (lookup_mem h)
  have e:(if (b == NameKind.free && env.scope.kind == ScopeKind.function && env.kindOf a == some NameKind.cell)=true then (a,NameKind.cell) else (a,b))=(x,k):=e
  by_cases q:(b == NameKind.free && env.scope.kind == ScopeKind.function && env.kindOf a == some NameKind.cell)=true
  · rw [if_pos q] at e
    cases e
    exact bA q fun q q2=>bA q fun q1 _=>.inl ⟨bE q1▸hp,bE q2,rfl⟩
  · rw [if_neg q] at e; cases e; exact .inr hp
noncomputable def kinds (scope:Scope) (kn:Str→Option NameKind) (x:Str):Option NameKind:=(scope.names.map fun (n,k)=>if (k == .free && kn n == some .cell) then (n,NameKind.cell) else (n,k)).lookup x
noncomputable def scopeOk (c:Cx) (scope:Scope) (kn:Str→Option NameKind) (x:Nat):Bool:=
  (scope.kind == .function) && (scope.names.all (fun p=>!(p.2 == .cell)) && (scope.names.all (fun p=>!(p.2 == .local) || (scope.names.lookup p.1 == some .local && (p.1 == c.nm x || p.1 == (".0":Str)))) &&
    ((scope.names.lookup (c.nm x) == some .local) && scope.names.all (fun p=>!(p.2 == .free) || kn p.1 == some .cell))))
end Mine
end
noncomputable section
open PySem PySem.Calls PyProof.Rows PySem.W
namespace Mine
noncomputable def ExprOk (c:Cx) (r:Nat) (env:Env) (e:Expr) (C:Ora) (m:ME):Prop:=EvOk c r env e (ev C m)∧TstOk c r env e (tst C m)
theorem ExprOk.plain {c:Cx} {r:Nat} {env:Env} {e:Expr} {C:Ora} {m:ME} (h:EvOk c r env e (ev C m)) (hp:plainT e=true):ExprOk c r env e C m:=⟨h,tst_plain hp h⟩
theorem sE {a b:Str} {P:Str→Prop} (h:(a == b)=true) (k:P b):P a:=beq_iff_eq.mp h▸k
theorem kE {a:Option NameKind} {b:NameKind} (h:(a == some b)=true):a=some b:=beq_iff_eq.mp h
theorem nilE {α:Type} {l:List α} {P:List α→Prop} (h:l.isEmpty=true) (f:P []):P l:=by
  cases l
  · exact f
  · exact ff h
noncomputable def l1 {α:Type} (l:List α) (k:α→Bool):Bool:=match l with | [a]=>k a | _=>false
theorem l1_t {α:Type} {l:List α} {k:α→Bool} {P:List α→Prop} (h:l1 l k=true) (f:∀ a,k a=true→P [a]):P l:=by
  match l with
  | []=>exact ff h
  | [a]=>exact f a h
  | _ :: _ :: _=>exact ff h
noncomputable def l2 {α:Type} (l:List α) (k:α→α→Bool):Bool:=match l with | [a,b]=>k a b | _=>false
theorem l2_t {α:Type} {l:List α} {k:α→α→Bool} {P:List α→Prop} (h:l2 l k=true) (f:∀ a b,k a b=true→P [a,b]):P l:=by
  match l with
  | []=>exact ff h
  | [_]=>exact ff h
  | [a,b]=>exact f a b h
  | _ :: _ :: _ :: _=>exact ff h
section
variable {e:Expr} {P:Expr→Prop}
noncomputable def xConst (e:Expr) (k:Const→Bool):Bool:=ctq fun h=>Expr.Constant.elim (motive_1:=fun _=>Bool) e h fun v _ _=>k v
@[elab_as_elim] theorem xConst_t {k} (h:xConst e k=true) (f:∀ v n p,k v=true→P (.Constant v n p)):P e:=ctq_t h fun q=>Expr.Constant.elim (motive_1:=fun e=>xConst e k=true→P e) e q (fun _ _ _ h=>f _ _ _ h) h
noncomputable def xName (e:Expr) (k:Str→Bool):Bool:=ctq fun h=>Expr.Name.elim (motive_1:=fun _=>Bool) e h fun y _=>k y
@[elab_as_elim] theorem xName_t {k} (h:xName e k=true) (f:∀ y p,k y=true→P (.Name y p)):P e:=ctq_t h fun q=>Expr.Name.elim (motive_1:=fun e=>xName e k=true→P e) e q (fun _ _ h=>f _ _ h) h
noncomputable def xName' (e:Expr) (k:Str→Pos→Bool):Bool:=ctq fun h=>Expr.Name.elim (motive_1:=fun _=>Bool) e h fun y p=>k y p
@[elab_as_elim] theorem xName'_t {k} (h:xName' e k=true) (f:∀ y p,k y p=true→P (.Name y p)):P e:=ctq_t h fun q=>Expr.Name.elim (motive_1:=fun e=>xName' e k=true→P e) e q (fun _ _ h=>f _ _ h) h
noncomputable def xAttr (e:Expr) (k:Expr→Str→Pos→Bool):Bool:=ctq fun h=>Expr.Attribute.elim (motive_1:=fun _=>Bool) e h fun v a p=>k v a p
@[elab_as_elim] theorem xAttr_t {k} (h:xAttr e k=true) (f:∀ v a p,k v a p=true→P (.Attribute v a p)):P e:=ctq_t h fun q=>Expr.Attribute.elim (motive_1:=fun e=>xAttr e k=true→P e) e q (fun _ _ _ h=>f _ _ _ h) h
noncomputable def xCall (e:Expr) (k:Expr→List Expr→Pos→Bool):Bool:=ctq fun h=>Expr.Call.elim (motive_1:=fun _=>Bool) e h fun g es kw p=>kw.isEmpty && k g es p
@[elab_as_elim] theorem xCall_t {k} (h:xCall e k=true) (f:∀ g es p,k g es p=true→P (.Call g es [] p)):P e:=
  ctq_t h fun q=>Expr.Call.elim (motive_1:=fun e=>xCall e k=true→P e) e q (fun _ _ _ _ h=>bA h fun h1 h2=>nilE (P:=fun kw=>P (.Call _ _ kw _)) h1 (f _ _ _ h2)) h
noncomputable def xCallN (e:Expr) (k:Str→List Expr→Bool):Bool:=xCall e fun g es _=>xName g fun y=>k y es
@[elab_as_elim] theorem xCallN_t {k} (h:xCallN e k=true) (f:∀ y np es p,k y es=true→P (.Call (.Name y np) es [] p)):P e:=
  xCall_t h fun _ es p h=>xName_t (P:=fun g=>P (.Call g es [] p)) h fun y np h=>f y np es p h
noncomputable def xCallA (e:Expr) (k:Expr→Str→List Expr→Bool):Bool:=xCall e fun g es p=>xAttr g fun v a ap=>noCall v && (es.all noStar && ((ap.endLine == p.line) && (decide (es.length < 25) && k v a es)))
@[elab_as_elim] theorem xCallA_t {k} (h:xCallA e k=true) (f:∀ v a ap es p,noCall v=true→es.all noStar=true→(ap.endLine == p.line)=true→es.length < 25→k v a es=true→P (.Call (.Attribute v a ap) es [] p)):P e:=
  xCall_t h fun _ es p h=>xAttr_t (P:=fun g=>P (.Call g es [] p)) h fun v a ap h=>bA h fun h1 h=>bA h fun h2 h=>bA h fun h3 h=>bA h fun h4 h=>f v a ap es p h1 h2 h3 (of_decide_eq_true h4) h
noncomputable def xCmp (e:Expr) (k:Expr→List CmpOp→List Expr→Bool):Bool:=ctq fun h=>Expr.Compare.elim (motive_1:=fun _=>Bool) e h fun l ops rs _=>k l ops rs
@[elab_as_elim] theorem xCmp_t {k} (h:xCmp e k=true) (f:∀ l ops rs p,k l ops rs=true→P (.Compare l ops rs p)):P e:=ctq_t h fun q=>Expr.Compare.elim (motive_1:=fun e=>xCmp e k=true→P e) e q (fun _ _ _ _ h=>f _ _ _ _ h) h
noncomputable def xBin (e:Expr) (k:Expr→Operator→Expr→Bool):Bool:=ctq fun h=>Expr.BinOp.elim (motive_1:=fun _=>Bool) e h fun l o r _=>k l o r
@[elab_as_elim] theorem xBin_t {k} (h:xBin e k=true) (f:∀ l o r p,k l o r=true→P (.BinOp l o r p)):P e:=ctq_t h fun q=>Expr.BinOp.elim (motive_1:=fun e=>xBin e k=true→P e) e q (fun _ _ _ _ h=>f _ _ _ _ h) h
noncomputable def isNeg:UnaryOp→Bool | .USub=>true | _=>false
noncomputable def isNot:UnaryOp→Bool | .Not=>true | _=>false
noncomputable def xUn (e:Expr) (k:UnaryOp→Expr→Bool):Bool:=ctq fun h=>Expr.UnaryOp.elim (motive_1:=fun _=>Bool) e h fun o v _=>k o v
@[elab_as_elim] theorem xUn_t {k} (h:xUn e k=true) (f:∀ o v p,k o v=true→P (.UnaryOp o v p)):P e:=ctq_t h fun q=>Expr.UnaryOp.elim (motive_1:=fun e=>xUn e k=true→P e) e q (fun _ _ _ h=>f _ _ _ h) h
noncomputable def isAnd:BoolOp→Bool | .And=>true | _=>false
noncomputable def isOr:BoolOp→Bool | .Or=>true | _=>false
noncomputable def restB (op:BoolOp) (y:Expr) (es:List Expr) (p:Pos):Expr:=match es with
  | []=>y
  | _=>.BoolOp op (y :: es) p
noncomputable def xBool (e:Expr) (k:BoolOp→Expr→Expr→List Expr→Pos→Bool):Bool:=ctq fun h=>Expr.BoolOp.elim (motive_1:=fun _=>Bool) e h fun op l p=>(match l with | x :: y :: es=>k op x y es p | _=>false)
@[elab_as_elim] theorem xBool_t {k} (h:xBool e k=true) (f:∀ op x y es p,k op x y es p=true→P (.BoolOp op (x :: y :: es) p)):P e:=by
  refine ctq_t h fun q=>Expr.BoolOp.elim (motive_1:=fun e=>xBool e k=true→P e) e q (fun op l p h=>?_) h
  match l,h with
  | [],h=>exact ff h
  | [_],h=>exact ff h
  | x :: y :: es,h=>exact f _ _ _ _ _ h
noncomputable def xIf (e:Expr) (k:Expr→Expr→Expr→Bool):Bool:=ctq fun h=>Expr.IfExp.elim (motive_1:=fun _=>Bool) e h fun t b o _=>k t b o
@[elab_as_elim] theorem xIf_t {k} (h:xIf e k=true) (f:∀ t b o p,k t b o=true→P (.IfExp t b o p)):P e:=ctq_t h fun q=>Expr.IfExp.elim (motive_1:=fun e=>xIf e k=true→P e) e q (fun _ _ _ _ h=>f _ _ _ _ h) h
noncomputable def xSub (e:Expr) (k:Expr→Expr→Bool):Bool:=ctq fun h=>Expr.Subscript.elim (motive_1:=fun _=>Bool) e h fun v i _=>k v i
@[elab_as_elim] theorem xSub_t {k} (h:xSub e k=true) (f:∀ v i p,k v i=true→P (.Subscript v i p)):P e:=ctq_t h fun q=>Expr.Subscript.elim (motive_1:=fun e=>xSub e k=true→P e) e q (fun _ _ _ h=>f _ _ _ h) h
noncomputable def xSlice (e:Expr) (k:Option Expr→Option Expr→Bool):Bool:=ctq fun h=>Expr.Slice.elim (motive_1:=fun _=>Bool) e h fun lo hi st _=>(match st with | none=>k lo hi | _=>false)
@[elab_as_elim] theorem xSlice_t {k} (h:xSlice e k=true) (f:∀ lo hi p,k lo hi=true→P (.Slice lo hi none p)):P e:=by
  refine ctq_t h fun q=>Expr.Slice.elim (motive_1:=fun e=>xSlice e k=true→P e) e q (fun _ _ st _ h=>?_) h
  cases st
  · exact f _ _ _ h
  · exact ff h
noncomputable def xList (e:Expr) (k:List Expr→Bool):Bool:=ctq fun h=>Expr.List.elim (motive_1:=fun _=>Bool) e h fun es _=>k es
@[elab_as_elim] theorem xList_t {k} (h:xList e k=true) (f:∀ es p,k es=true→P (.List es p)):P e:=ctq_t h fun q=>Expr.List.elim (motive_1:=fun e=>xList e k=true→P e) e q (fun _ _ h=>f _ _ h) h
noncomputable def xTup (e:Expr) (k:List Expr→Bool):Bool:=ctq fun h=>Expr.Tuple.elim (motive_1:=fun _=>Bool) e h fun es _ _=>k es
@[elab_as_elim] theorem xTup_t {k} (h:xTup e k=true) (f:∀ es n p,k es=true→P (.Tuple es n p)):P e:=ctq_t h fun q=>Expr.Tuple.elim (motive_1:=fun e=>xTup e k=true→P e) e q (fun _ _ _ h=>f _ _ _ h) h
noncomputable def xDict (e:Expr) (k:List (Option Expr)→List Expr→Bool):Bool:=ctq fun h=>Expr.Dict.elim (motive_1:=fun _=>Bool) e h fun ks es _=>k ks es
@[elab_as_elim] theorem xDict_t {k} (h:xDict e k=true) (f:∀ ks es p,k ks es=true→P (.Dict ks es p)):P e:=ctq_t h fun q=>Expr.Dict.elim (motive_1:=fun e=>xDict e k=true→P e) e q (fun _ _ _ h=>f _ _ _ h) h
noncomputable def noSet (e:Expr):Bool:=ctt fun h=>Expr.Set.elim (motive_1:=fun _=>Bool) e h fun _ _ _=>false
noncomputable def xComp (e:Expr) (k:Expr→Str→Expr→List Expr→Scope→Bool):Bool:=ctq fun h=>Expr.ListComp.elim (motive_1:=fun _=>Bool) e h fun elt gs sc _=>l1 gs fun g=>(g.is_async == 0) && xName g.target fun y=>noSet g.iter && k elt y g.iter g.ifs sc
@[elab_as_elim] theorem xComp_t {k} (h:xComp e k=true) (f:∀ elt y yp it ifs sc p,noSet it=true→k elt y it ifs sc=true→P (.ListComp elt [⟨.Name y yp,it,ifs,0⟩] sc p)):P e:=by
  refine ctq_t h fun q=>Expr.ListComp.elim (motive_1:=fun e=>xComp e k=true→P e) e q (fun elt gs sc p h=>?_) h
  refine l1_t (P:=fun gs=>P (.ListComp elt gs sc p)) h fun g h=>?_
  obtain ⟨t,it,ifs,a⟩:=g
  refine bA h fun h1 h=>?_
  have h1:a=0:=beq_iff_eq.mp h1
  subst h1
  exact xName_t (P:=fun t=>P (.ListComp elt [⟨t,it,ifs,0⟩] sc p)) h fun y yp h=>bA h fun h2 h=>f _ _ _ _ _ _ _ h2 h
end
noncomputable def kNone:Const→Bool | .none=>true | _=>false
noncomputable def kBool (b:Bool):Const→Bool | .bool b'=>b == b' | _=>false
noncomputable def kInt (i:Int):Const→Bool | .int j=>i == j | _=>false
noncomputable def kStr (x:List Nat):Const→Bool | .str y=>y == toS x | _=>false
noncomputable def chkK (v:Mine.V) (e:Expr):Bool:=xConst e fun k=>match v with
  | .none=>kNone k
  | .bool b=>kBool b k
  | .int i=>kInt i k
  | .str x=>kStr x k
  | _=>false
theorem kNone_t {k:Const} (h:kNone k=true):k=.none:=by cases k <;> first | rfl | exact ff h
theorem kBool_t {b:Bool} {k:Const} (h:kBool b k=true):k=.bool b:=by cases k <;> first | exact ff h | exact congrArg Const.bool (beq_iff_eq.mp h).symm
theorem kInt_t {b:Int} {k:Const} (h:kInt b k=true):k=.int b:=by cases k <;> first | exact ff h | exact congrArg Const.int (beq_iff_eq.mp h).symm
theorem kStr_t {b:List Nat} {k:Const} (h:kStr b k=true):k=.str (toS b):=by cases k <;> first | exact ff h | exact congrArg Const.str (beq_iff_eq.mp h)
noncomputable def chkBi (c:Cx) (y:Str):BI→Bool
  | .len=>isBi c y (.builtin "len")
  | .ord=>isBi c y (.builtin "ord")
  | .chr=>isBi c y (.builtin "chr")
  | .range=>isBi c y (.type "range")
  | _=>false
noncomputable def smPlain:SM→Bool
  | .find=>true
  | .rfind=>true
  | .count=>true
  | .join=>true
  | .startswith=>true
  | .lower=>true
  | _=>false
noncomputable def isK (a:ME) (f:Mine.V→Bool):Bool:=ctq fun h=>ME.k.elim (motive_1:=fun _=>Bool) a h f
theorem isK_t {a:ME} {f:Mine.V→Bool} {P:ME→Prop} (h:isK a f=true) (k:∀ v,f v=true→P (.k v)):P a:=ctq_t h fun q=>ME.k.elim (motive_1:=fun a=>isK a f=true→P a) a q k h
noncomputable def isS (v:Mine.V) (f:List Nat→Bool):Bool:=ctq fun h=>Mine.V.str.elim (motive_1:=fun _=>Bool) v h f
noncomputable def replA (a:ME) (x:Expr):Bool:=isK a fun v=>isS v fun s=>xConst x (kStr s)
theorem replA_t {a:ME} {x:Expr} {P:ME→Expr→Prop} (h:replA a x=true) (f:∀ s n p,P (.k (.str s)) (.Constant (.str (toS s)) n p)):P a x:=by
  refine isK_t (P:=fun a=>P a x) h fun v h=>ctq_t h fun q=>Mine.V.str.elim (motive_1:=fun v=>isS v (fun s=>xConst x (kStr s))=true→P (.k v) x) v q (fun s h=>?_) h
  exact xConst_t (P:=P _) h fun v n p h=>kStr_t h▸f s n p
noncomputable def isRepl:SM→Bool | .replace=>true | _=>false
noncomputable def smOk (m:SM) (as:List ME) (es:List Expr):Bool:=smPlain m || (isRepl m && l2 as fun a b=>l2 es fun x y=>replA a x && replA b y)
noncomputable def zeroA (a:ME):Bool:=isK a (Mine.V.beq (.int 0))
theorem zeroA_t {a:ME} (h:zeroA a=true):a=.k (.int 0):=by
  exact isK_t (P:=fun a=>a=.k (.int 0)) (f:=Mine.V.beq (.int 0)) h fun v h=>congrArg ME.k (Mine.V.eq_of_beq h).symm
noncomputable def popOk (as:List ME) (es:List Expr):Bool:=(as.isEmpty && es.isEmpty) || l1 as fun a=>l1 es fun x=>zeroA a && xConst x (kInt 0)
noncomputable def dbg (y:Str):Bool:=!(y == ("__debug__":Str))
theorem dbg_ok {y:Str} (h:dbg y=true):(y == ("__debug__":Str))=false:=by
  unfold dbg at h
  cases q:(y == ("__debug__":Str))
  · rfl
  · rw [q] at h; exact ff h
noncomputable def opN:CmpOp→Nat
  | .Eq=>0 | .NotEq=>1 | .Lt=>2 | .LtE=>3 | .Gt=>4 | .GtE=>5 | .In=>6 | .NotIn=>7 | .Is=>8 | .IsNot=>9
noncomputable def opK:Nat→CmpOp
  | 0=>.Eq | 1=>.NotEq | 2=>.Lt | 3=>.LtE | 4=>.Gt | 5=>.GtE | 6=>.In | 7=>.NotIn | 8=>.Is | _=>.IsNot
theorem opK_N (a:CmpOp):opK (opN a)=a:=by cases a <;> rfl
noncomputable def opEq (a b:CmpOp):Bool:=Nat.beq (opN a) (opN b)
theorem opEq_eq {a b:CmpOp} (h:opEq a b=true):a=b:=by rw [← opK_N a,← opK_N b,Nat.eq_of_beq_eq_true h]
noncomputable def bopEq (o:Operator) (b:Bop):Bool:=match b with
  | .add=>(match o with | .Add=>true | _=>false)
  | .sub=>(match o with | .Sub=>true | _=>false)
  | .fdiv=>(match o with | .FloorDiv=>true | _=>false)
  | .mod=>(match o with | .Mod=>true | _=>false)
  | _=>false
noncomputable def noneA (a:ME):Bool:=isK a (Mine.V.beq .none)
theorem noneA_t {a:ME} (h:noneA a=true):a=.k .none:=by
  exact isK_t (P:=fun a=>a=.k .none) (f:=Mine.V.beq .none) h fun v h=>congrArg ME.k (Mine.V.eq_of_beq h).symm
noncomputable def trueA (a:ME):Bool:=isK a (Mine.V.beq (.bool true))
theorem trueA_t {a:ME} (h:trueA a=true):a=.k (.bool true):=by
  exact isK_t (P:=fun a=>a=.k (.bool true)) (f:=Mine.V.beq (.bool true)) h fun v h=>congrArg ME.k (Mine.V.eq_of_beq h).symm
noncomputable def chkO (n:Bool) (f:Expr→Bool):Option Expr→Bool
  | none=>n
  | some e=>f e
noncomputable def chkL (n:Bool) (f:Expr→Bool):List Expr→Bool
  | []=>n
  | e :: es=>es.isEmpty && f e
noncomputable def eCons (es:List Expr) (f:Expr→Bool) (g:List Expr→Bool):Bool:=match es with
  | []=>false
  | e :: es=>f e && g es
mutual
noncomputable def chkE (c:Cx) (kn:Str→Option NameKind):ME→Expr→Bool
  | .k v=>fun x=>chkK v x
  | .glob v=>fun x=>xName x fun y=>(kn y == some .globalImplicit) && c.G.any fun p=>c.nm p.1 == y && V.beq p.2.1 v
  | .loc n=>fun x=>xName x fun y=>y == c.nm n && ((kn y == some .local) || (kn y == some .cell))
  | .attr e n D=>fun x=>xAttr x fun e' a _=>a == c.nm n && (noCall e' && (noCls c D n && chkE c kn e e'))
  | .bm e n D f=>fun x=>xAttr x fun e' a _=>a == c.nm n && (noCall e' && (isMeth c D n f && chkE c kn e e'))
  | .cat e n D i=>fun x=>xAttr x fun e' a _=>a == c.nm n && (noCall e' && (isCat c D n i && chkE c kn e e'))
  | .call f as=>fun x=>xCallN x fun y es=>es.all noStar && ((kn y == some .globalImplicit) && (dbg y && (isDef c y f && chkEs c kn as es)))
  | .mcall e n D f as=>fun x=>xCallA x fun e' a es=>a == c.nm n && (isMeth c D n f && (chkE c kn e e' && chkEs c kn as es))
  | .fcall e n D as=>fun x=>xCallA x fun e' a es=>a == c.nm n && (noCls c D n && (chkE c kn e e' && chkEs c kn as es))
  | .new D f as lv=>fun x=>xCallN x fun y es=>es.all noStar && ((kn y == some .globalImplicit) && (dbg y && (isCls c y D f && (decide (lv ≠ .frz) && chkEs c kn as es))))
  | .bi b as=>fun x=>xCallN x fun y es=>es.all noStar && ((kn y == some .globalImplicit) && (dbg y && (chkBi c y b && chkEs c kn as es)))
  | .sm m e as=>fun x=>xCallA x fun e' a es=>a == smName m && (chkE c kn e e' && (chkEs c kn as es && smOk m as es))
  | .app e x=>fun z=>xCallA z fun e' a es=>a == ("append":Str) && (chkE c kn e e' && l1 es fun x'=>chkE c kn x x')
  | .pop e as=>fun x=>xCallA x fun e' a es=>a == ("pop":Str) && (chkE c kn e e' && popOk as es)
  | .cmp o l r=>fun x=>xCmp x fun l' ops rs=>chkE c kn l l' && l1 ops fun op=>l1 rs fun r'=>opEq op (opOf o) && ((behindInMarks (opOf o) r' == false) && chkE c kn r r')
  | .cmp2 o₁ o₂ l m r=>fun x=>xCmp x fun l' ops rs=>chkE c kn l l' && l2 ops fun op₁ op₂=>l2 rs fun m' r'=>opEq op₁ (opOf o₁) && (opEq op₂ (opOf o₂) && ((behindInMarks (opOf o₂) r' == false) && (chkE c kn m m' && chkE c kn r r')))
  | .bop o l r=>fun x=>xBin x fun l' op r'=>bopEq op o && (chkE c kn l l' && chkE c kn r r')
  | .neg e=>fun x=>xUn x fun o e'=>isNeg o && chkE c kn e e'
  | .not e=>fun x=>xUn x fun o e'=>isNot o && chkE c kn e e'
  | .and a b=>fun z=>xBool z fun op x y es p=>isAnd op && (chkE c kn a x && chkE c kn b (restB .And y es p))
  | .or a b=>fun z=>xBool z fun op x y es p=>isOr op && (chkE c kn a x && chkE c kn b (restB .Or y es p))
  | .ite t b o=>fun x=>xIf x fun t' b' o'=>chkE c kn t t' && (chkE c kn b b' && chkE c kn o o')
  | .sub e i=>fun x=>xSub x fun e' i'=>chkE c kn e e' && chkE c kn i i'
  | .sl e a b=>fun x=>xSub x fun e' s=>xSlice s fun lo hi=>chkE c kn e e' && (chkO (noneA a) (fun x=>chkE c kn a x) lo && chkO (noneA b) (fun x=>chkE c kn b x) hi)
  | .lst es _=>fun x=>xList x fun es'=>es'.all noStar && (decide (es.length≤1000) && chkEs c kn es es')
  | .tup es=>fun x=>xTup x fun es'=>es'.all noStar && (decide (es.length≤1000) && chkEs c kn es es')
  | .dct ks es _=>fun x=>xDict x fun keys es'=>keysOk keys ks && ((ks.length == es.length) && (decide (es.length≤15) && (!es.isEmpty && chkEs c kn es es')))
  | .comp elt x it cond=>fun z=>xComp z fun elt' y it' ifs sc=>y == c.nm x && (scopeOk c sc kn x && (chkE c kn it it' && (chkE c (kinds sc kn) elt elt' && chkL (trueA cond) (fun e=>chkE c (kinds sc kn) cond e) ifs)))
noncomputable def chkEs (c:Cx) (kn:Str→Option NameKind):List ME→List Expr→Bool
  | []=>fun es=>es.isEmpty
  | m :: ms=>fun es=>eCons es (fun e=>chkE c kn m e) fun es=>chkEs c kn ms es
end
end Mine
end
noncomputable section
open PySem PySem.Calls PyProof.Rows PySem.W
namespace Mine
section
variable {c:Cx} {r:Nat} {env env':Env} {A:Around} {σ σ' σ₁:St} {g g₁:Gh} {s s' s₁ s₂:Shared} {E:Value→Shared→Prop} {Q:Value→Shared→Prop} {v:Mine.V} {D:Addr→Prop}
noncomputable def noSlice (e:Expr):Bool:=ctt fun h=>Expr.Slice.elim (motive_1:=fun _=>Bool) e h fun _ _ _ _=>false
theorem getItem_dict {id:Id} {z:List Nat} {x y:Value} (hf:subV σ (.obj id) (.str z)=some v) (R:Rel c env g σ s) (hx:Vx c env g s (.obj id) x) (hy:Vx c env g s (.str z) y) (N:Nxt c env g s v σ Q):wpAny c.M A (getItem x y) Q E s:=
  boE (show bo (look σ.hp id) _=some v from hf) fun o ho h=>by
    cases o <;> first | exact nn h | skip
    exact hx.objE fun a ha=>by
      obtain ⟨o,hc,rfl,hsm,kvs,D,k1,r1⟩:=rho_of R ho ha
      exact getItem_dictc (b:=.str z) h R D k1 r1 hy N
theorem augStore_eq {i:Expr} (h:noSlice i=true):∀ ov iv new,augStore i ov iv new=(do holding [new,ov,iv] (PySem.setItem ov iv new); release [new,ov,iv] []; pure .next):=by
  cases i <;> first | exact fun _ _ _=>rfl | exact ff h
theorem setItem_shape {P:Mine.V→Mine.V→Prop} {o x v:Mine.V} (hf:Mine.setItem σ o x v=some σ') (k:∀ id z,P (.obj id) (.str z)):P o x:=by
  cases o <;> first | exact nn hf | skip
  refine boE (show bo (look σ.hp _) _=some σ' from hf) fun b _ h=>?_
  cases b <;> first | exact nn h | exact onStrE h fun z _=>k _ z
theorem ex_augS {C:Ora} {o:Bop} {t i e:Expr} {mt mi m:ME} {tp pos} (hi:noSlice i=true) (ho:o=.add∨o=.sub) (H:EvOk c r env t (ev C mt)) (H2:EvOk c r env i (ev C mi)) (H3:EvOk c r env e (ev C m)) :
    ExOk c r env (.AugAssign (.Subscript t i tp) (bopOf o) e pos) (exc C (.augS mt mi o m)):=fun A σ fl σ' g s E Q hr hf R N=>bnE hf fun x σ₁ h1 h=>bnE h fun j σ₂ h2 h=>boE h fun a h3 h=>bnE h fun b σ₃ h4 h=>bnE h fun w σ₄ h5 h=>boE h fun σ₅ h6 h7 =>
  setItem_shape (P:=fun x j=>ev C mt σ=some (x,σ₁)→ev C mi σ₁=some (j,σ₂)→subV σ₂ x j=some a→Mine.setItem σ₄ x j w=some σ₅→wpAny c.M A (exec (.AugAssign (.Subscript t i tp) (bopOf o) e pos) env) Q E s) h6 (fun id z h1 h2 h3 h6 =>
    wpAny_AugAssign_SubscriptAny (H hr h1 R fun xv s₁ g₁ R₁ X₁ E₁=>H2 hr h2 R₁ fun jv s₂ g₂ R₂ X₂ E₂=>getItem_dict h3 R₂ (X₁.ext E₂) X₂ fun av s₃ g₃ R₃ X₃ E₃=>H3 hr h4 R₃ fun bv s₄ g₄ R₄ X₄ E₄=>iop_ok ho h5 R₄ (X₃.ext E₄) X₄ fun wv s₅ g₅ R₅ X₅ E₅ =>
      setItem_ok h6 R₅ (X₁.ext (E₂.trans (E₃.trans (E₄.trans E₅)))) (X₂.ext (E₃.trans (E₄.trans E₅))) X₅ fun s₆ R₆ E₆=>(N.of h7).nxt R₆ (E₁.trans (E₂.trans (E₃.trans (E₄.trans (E₅.trans E₆)))))) (augStore_eq hi)) h1 h2 h3 h6
noncomputable def nmIs (c:Cx) (kn:Str→Option NameKind) (e:Expr) (n:Nat):Bool:=xName e fun y=>y == c.nm n && (kn y == some .local)
noncomputable def nmsOk (c:Cx) (kn:Str→Option NameKind):List Expr→List Nat→Bool
  | [],ns=>ns.isEmpty
  | e :: es,ns=>(match ns with
    | []=>false
    | n :: ns=>nmIs c kn e n && nmsOk c kn es ns)
theorem nmsOk_ok {kn:Str→Option NameKind} (hkn:∀ x,env.kindOf x=kn x):∀ {es:List Expr} {ns:List Nat},nmsOk c kn es ns=true→namesOk c env es ns=true
  | [],_,h=>h
  | _ :: _,[],h=>ff h
  | e :: es,n :: ns,h=>bA h fun h1 h2=>Bool.and_eq_true_iff.mpr ⟨xName_t (P:=fun e=>nameIs c env e n=true) h1 fun y p h=>by
      show (y == c.nm n && (env.kindOf y == some .local))=true
      rw [hkn]; exact h,nmsOk_ok hkn h2⟩
end
noncomputable def bopIs (o:Operator) (b:Bop):Bool:=match b with
  | .add=>(match o with | .Add=>true | _=>false)
  | .sub=>(match o with | .Sub=>true | _=>false)
  | _=>false
theorem bopIs_ok {o:Operator} {b:Bop} (h:bopIs o b=true):o=bopOf b∧(b=.add∨b=.sub):=by
  cases b <;> first | exact ff h | skip
  · cases o <;> first | exact ff h | exact ⟨rfl,.inl rfl⟩
  · cases o <;> first | exact ff h | exact ⟨rfl,.inr rfl⟩
noncomputable def isComp (m:ME):Bool:=ctq fun h=>ME.comp.elim (motive_1:=fun _=>Bool) m h fun _ _ _ _=>true
noncomputable def swOk (y:Str) (np:Pos) (e:Expr):Bool:=ctq fun h=>Expr.ListComp.elim (motive_1:=fun _=>Bool) e h fun _ _ scope pos=>np.line == pos.line && !(scope.names.any fun (n,k)=>n == y && (k == .local || k == .cell))
end Mine
end
noncomputable section
open PySem PySem.Calls PyProof.Rows PySem.W
namespace Mine
structure En (env:Env) (kn:Str→Option NameKind):Prop where
  ok:EnvOk env
  cells:EnvCells env
  kn:∀ x,env.kindOf x=kn x
section
variable {c:Cx} {r:Nat} {C:Ora}
theorem chkK_ok {v:Mine.V} {e:Expr} {env:Env} (h:chkK v e=true):ExprOk c r env e C (.k v):=
  xConst_t (P:=fun e=>ExprOk c r env e C (.k v)) h fun k n p h=>by
    cases v <;> first | exact ff h | skip
    · exact kNone_t h▸.plain ev_none rfl
    · exact kBool_t h▸.plain ev_bool rfl
    · exact kInt_t h▸.plain ev_int rfl
    · exact kStr_t h▸.plain ev_str rfl
theorem bopEq_ok {env:Env} {o:Operator} {b:Bop} (h:bopEq o b=true):OpOk c env r (binaryOp o) (fun σ=>bopV σ b):=by
  cases b with
  | add=>cases o <;> first | exact ff h | exact add_ok
  | sub=>cases o <;> first | exact ff h | exact sub'_ok
  | mul=>exact ff h
  | fdiv=>cases o <;> first | exact ff h | exact fdiv_ok
  | mod=>cases o <;> first | exact ff h | exact mod_ok
theorem chkBi_ok (O:c.Ok) {env:Env} {y:Str} {es:List Expr} {b:BI} {as:List ME} {np pos} (VV:EnvOk env) (hs:es.all noStar=true) (hk:env.kindOf y=some .globalImplicit) (hx:(y == ("__debug__":Str))=false) (h:chkBi c y b=true)
    (H:EvsOk c r env es (evs C as)):ExprOk c r env (.Call (.Name y np) es [] pos) C (.bi b as):=by
  cases b with
  | len=>exact .plain (ev_bi (b:=.len) O VV hs hk hx h len_ok H) rfl
  | ord=>exact .plain (ev_bi (b:=.ord) O VV hs hk hx h ord_ok H) rfl
  | chr=>exact .plain (ev_bi (b:=.chr) O VV hs hk hx h chr_ok H) rfl
  | range=>exact .plain (ev_range O VV hs hk hx h H) rfl
  | sum=>exact ff h
  | max=>exact ff h
theorem smPlain_ok {env:Env} {e:Expr} {es:List Expr} {m:SM} {me:ME} {as:List ME} {apos pos} (hc:noCall e=true) (hs:es.all noStar=true) (hl:(apos.endLine == pos.line)=true) (hlen:es.length < 25) (h:smPlain m=true)
    (H:EvOk c r env e (ev C me)) (H2:EvsOk c r env es (evs C as)):ExprOk c r env (.Call (.Attribute e (smName m) apos) es [] pos) C (.sm m me as):=
  .plain (ev_sm hc hs hl hlen (by cases m <;> first | exact ff h | exact sm_find | exact sm_rfind | exact sm_count | exact join_sm | exact sm_startswith | exact sm_lower) H H2) rfl
theorem allE {α:Type} {l:List α} {p:α→Bool} (h:l.all p=true):∀ a ∈ l,p a=true:=List.all_eq_true.mp h
theorem notE {α:Type} [BEq α] [LawfulBEq α] {a b:α} (h:(!(a == b))=true):a ≠ b:=fun q=>by subst q; rw [beq_self_eq_true] at h; exact ff h
theorem scope_ok (O:c.Ok) {env:Env} {kn:Str→Option NameKind} (V:En env kn) {scope:Scope} {x:Nat} (h:scopeOk c scope kn x=true):∃ cl,CompS c env scope x cl∧∀ L,EnvOk (compEnvC scope cl L env)→En (compEnvC scope cl L env) (kinds scope kn):=
  bA h fun h1 h=>bA h fun h2 h=>bA h fun h3 h=>bA h fun h4 h5=>by
    have h2:∀ y ∈ scope.names,y.2 ≠ .cell:=fun y hy=>notE (allE h2 y hy)
    have h3:∀ y ∈ scope.names,y.2=.local→scope.names.lookup y.1=some .local∧(y.1=c.nm x∨y.1=(".0":Str)):=fun y hy e=>bO (allE h3 y hy) (fun q=>absurd e (notE q)) fun q=>bA q fun q1 q2=>⟨kE q1,bO q2 (fun q=>.inl (bE q)) fun q=>.inr (bE q)⟩
    have hfree:∀ p ∈ scope.names,p.2=.free→(env.cells.lookup p.1).isSome=true:=fun p hp e=>V.cells _ ((V.kn _).trans (bO (allE h5 p hp) (fun q=>absurd e (notE q)) kE))
    have rc:∀ {y},(relabel scope env).names.lookup y=some .cell→(y,NameKind.free) ∈ scope.names∧env.kindOf y=some .cell:=fun h=>(relabel_mem h).elim (fun q=>⟨q.1,q.2.1⟩) fun q=>absurd rfl (h2 _ q)
    obtain ⟨cl,k0,k1,k2⟩:=closureFor_eq hfree
    refine ⟨cl,⟨k0,fun n hn=>?_,h2,bE h1,fun y hy e=>(h3 y hy e).1,kE h4,fun n hn=>(relabel_mem hn).elim (fun q=>nomatch q.2.2) fun q=>(h3 _ q rfl).2.elim (O.inj _ _) fun q=>absurd q (O.no0 n)⟩,fun L VV=>⟨VV,fun y hy=>k2 _ (rc hy).1,fun y=>?_⟩⟩
    · obtain ⟨q1,q2⟩:=rc hn
      obtain ⟨a,ha⟩:=Option.isSome_iff_exists.mp (k2 _ q1)
      exact ⟨ha.trans (k1 _ _ ha).symm,q2⟩
    · show (relabel scope env).names.lookup y=_
      unfold relabel kinds
      have hk:(env.scope.kind == ScopeKind.function)=true:=beq_iff_eq.mpr V.ok.kind
      rw [hk,funext V.kn]
      refine congrArg (fun l=>List.lookup y l) (List.map_congr_left fun p _=>?_)
      obtain ⟨a,k⟩:=p
      dsimp only
      rw [Bool.and_true]
noncomputable def PE (c:Cx) (r:Nat) (C:Ora) (m:ME):Prop:=∀ {e:Expr} {env:Env} {kn:Str→Option NameKind},En env kn→chkE c kn m e=true→ExprOk c (r + 1) env e C m
noncomputable def PEs (c:Cx) (r:Nat) (C:Ora) (ms:List ME):Prop:=∀ {es:List Expr} {env:Env} {kn:Str→Option NameKind},En env kn→chkEs c kn ms es=true→EvAll c (r + 1) env C es ms
variable {m ma mb mc:ME} {as:List ME} {n D f:Nat} {b:BI} {o o₂:Cmp}
theorem c_glob (O:c.Ok) {v:Mine.V}:PE c r C (.glob v):=fun V h=>xName_t h fun y p h=>bA h fun h1 h=>by
  obtain ⟨⟨n,v',x⟩,hq,h⟩:=List.any_eq_true.mp h
  exact bA h fun h2 h3=>by
    cases Mine.V.eq_of_beq h3
    cases beq_iff_eq.mp h2
    exact .plain (ev_glob O V.ok hq ((V.kn _).trans (kE h1))) rfl
theorem c_loc (O:c.Ok):PE c r C (.loc n):=fun {e env kn} V h=>xName_t h fun y p h=>bA h fun h1 h2=>sE (P:=fun y=>(kn y=some .local∨kn y=some .cell)→ExprOk c (r + 1) env (.Name y p) C (.loc n)) h1
  (fun h2=>h2.elim (fun h2=>.plain (ev_loc O V.ok ((V.kn _).trans h2)) rfl) fun h2=>.plain (ev_cell O V.ok ((V.kn _).trans h2)) rfl) (bO h2 (fun h=>.inl (kE h)) fun h=>.inr (kE h))
theorem c_attr (O:c.Ok) (H:PE c r C m):PE c r C (.attr m n D):=fun {e env kn} V h=>xAttr_t h fun e' a p h=>bA h fun h1 h=>bA h fun h2 h=>bA h fun h3 h =>
  sE (P:=fun a=>ExprOk c (r + 1) env (.Attribute e' a p) C (.attr m n D)) h1 (.plain (ev_attr O h2 h3 (H V h).1) rfl)
theorem c_bm (O:c.Ok) (H:PE c r C m):PE c r C (.bm m n D f):=fun {e env kn} V h=>xAttr_t h fun e' a p h=>bA h fun h1 h=>bA h fun h2 h=>bA h fun h3 h =>
  sE (P:=fun a=>ExprOk c (r + 1) env (.Attribute e' a p) C (.bm m n D f)) h1 (.plain (ev_bm O h2 h3 (H V h).1) rfl)
theorem c_cat (O:c.Ok) {i:Int} (H:PE c r C m):PE c r C (.cat m n D i):=fun {e env kn} V h=>xAttr_t h fun e' a p h=>bA h fun h1 h=>bA h fun h2 h=>bA h fun h3 h =>
  sE (P:=fun a=>ExprOk c (r + 1) env (.Attribute e' a p) C (.cat m n D i)) h1 (.plain (ev_cat O h2 h3 (H V h).1) rfl)
theorem c_call (HC:OraOk c r C) (H:PEs c r C as):PE c r C (.call f as):=fun V h=>xCallN_t h fun y np es p h=>bA h fun h1 h=>bA h fun h2 h=>bA h fun h3 h=>bA h fun h4 h =>
  .plain (ev_call V.ok h1 ((V.kn _).trans (kE h2)) (dbg_ok h3) h4 (HC.up (Nat.le_succ _)) (H V h).evs) rfl
theorem c_mcall (O:c.Ok) (HC:OraOk c r C) (H:PE c r C m) (H2:PEs c r C as):PE c r C (.mcall m n D f as):=fun {e env kn} V h=>xCallA_t h fun e' a ap es p k1 k2 k3 k4 h=>bA h fun h1 h=>bA h fun h2 h=>bA h fun h3 h4 =>
  sE (P:=fun a=>ExprOk c (r + 1) env (.Call (.Attribute e' a ap) es [] p) C (.mcall m n D f as)) h1 (.plain (ev_mcall O V.ok k1 k2 k3 k4 h2 (HC.up (Nat.le_succ _)) (H V h3).1 (H2 V h4).evs) rfl)
theorem c_fcall (O:c.Ok) (HC:OraOk c r C) (H:PE c r C m) (H2:PEs c r C as):PE c r C (.fcall m n D as):=fun {e env kn} V h=>xCallA_t h fun e' a ap es p k1 k2 k3 k4 h=>bA h fun h1 h=>bA h fun h2 h=>bA h fun h3 h4 =>
  sE (P:=fun a=>ExprOk c (r + 1) env (.Call (.Attribute e' a ap) es [] p) C (.fcall m n D as)) h1 (.plain (ev_fcall O V.ok k1 k2 k3 k4 h2 O.fn (HC.up (Nat.le_succ _)) (H V h3).1 (H2 V h4).evs) rfl)
theorem c_new (O:c.Ok) (HC:OraOk c r C) {lv:LV} (H:PEs c r C as):PE c r C (.new D f as lv):=fun V h=>xCallN_t h fun y np es p h=>bA h fun h1 h=>bA h fun h2 h=>bA h fun h3 h=>bA h fun h4 h=>bA h fun h5 h =>
  .plain (ev_new O V.ok h1 ((V.kn _).trans (kE h2)) (dbg_ok h3) h4 (of_decide_eq_true h5) HC (H V h).evs) rfl
theorem c_bi (O:c.Ok) (H:PEs c r C as):PE c r C (.bi b as):=fun V h=>xCallN_t h fun y np es p h=>bA h fun h1 h=>bA h fun h2 h=>bA h fun h3 h=>bA h fun h4 h =>
  chkBi_ok O V.ok h1 ((V.kn _).trans (kE h2)) (dbg_ok h3) h4 (H V h).evs
theorem c_sm {s:SM} (H:PE c r C m) (H2:PEs c r C as):PE c r C (.sm s m as):=fun {e env kn} V h=>xCallA_t h fun e' a ap es p k1 k2 k3 k4 h=>bA h fun h1 h=>bA h fun h3 h=>bA h fun h4 h =>
  sE (P:=fun a=>ExprOk c (r + 1) env (.Call (.Attribute e' a ap) es [] p) C (.sm s m as)) h1 (bO h (fun h=>smPlain_ok k1 k2 k3 k4 h (H V h3).1 (H2 V h4).evs) fun h=>bA h fun h h5=>by
    cases s <;> first | exact ff h | skip
    exact l2_t (P:=fun as=>ExprOk c (r + 1) env (.Call (.Attribute e' (smName .replace) ap) es [] p) C (.sm .replace m as)) h5 fun a b h=>l2_t (P:=fun es=>ExprOk c (r + 1) env (.Call (.Attribute e' (smName .replace) ap) es [] p) C (.sm .replace m [a,b])) h fun x y h=>bA h fun h5 h6 =>
      replA_t (P:=fun a x=>ExprOk c (r + 1) env (.Call (.Attribute e' (smName .replace) ap) [x,y] [] p) C (.sm .replace m [a,b])) h5 fun s n q=>replA_t (P:=fun b y=>ExprOk c (r + 1) env (.Call (.Attribute e' (smName .replace) ap) [.Constant (.str (toS s)) n q,y] [] p) C (.sm .replace m [.k (.str s),b])) h6 fun s' n' q' =>
        .plain (ev_repl k1 k3 (H V h3).1) rfl)
theorem c_app (H:PE c r C m) (H2:PE c r C ma):PE c r C (.app m ma):=fun {e env kn} V h=>xCallA_t h fun e' a ap es p k1 k2 k3 k4 h=>bA h fun h1 h=>bA h fun h3 h=>l1_t (P:=fun es=>es.all noStar=true→ExprOk c (r + 1) env (.Call (.Attribute e' a ap) es [] p) C (.app m ma)) h (fun x h k2 =>
  sE (P:=fun a=>ExprOk c (r + 1) env (.Call (.Attribute e' a ap) [x] [] p) C (.app m ma)) h1 (.plain (ev_app k1 (bA k2 fun k _=>k) k3 (H V h3).1 (H2 V h).1) rfl)) k2
theorem c_pop (H:PE c r C m):PE c r C (.pop m as):=fun {e env kn} V h=>xCallA_t h fun e' a ap es p k1 k2 k3 k4 h=>bA h fun h1 h=>bA h fun h3 h =>
  sE (P:=fun a=>ExprOk c (r + 1) env (.Call (.Attribute e' a ap) es [] p) C (.pop m as)) h1 (bO h
    (fun h=>bA h fun q1 q2=>nilE (P:=fun as=>ExprOk c (r + 1) env (.Call (.Attribute e' ("pop":Str) ap) es [] p) C (.pop m as)) q1 (nilE (P:=fun es=>ExprOk c (r + 1) env (.Call (.Attribute e' ("pop":Str) ap) es [] p) C (.pop m [])) q2 (.plain (ev_pop0 k1 k3 (H V h3).1) rfl)))
    fun h=>l1_t (P:=fun as=>ExprOk c (r + 1) env (.Call (.Attribute e' ("pop":Str) ap) es [] p) C (.pop m as)) h fun a h=>l1_t (P:=fun es=>ExprOk c (r + 1) env (.Call (.Attribute e' ("pop":Str) ap) es [] p) C (.pop m [a])) h fun x h=>bA h fun q1 q2=>by
      cases zeroA_t q1
      exact xConst_t (P:=fun x=>ExprOk c (r + 1) env (.Call (.Attribute e' ("pop":Str) ap) [x] [] p) C (.pop m [.k (.int 0)])) q2 fun k n q h=>kInt_t h▸.plain (ev_pop1 k1 k3 (H V h3).1) rfl)
theorem nB {b:Bool} (h:(b == false)=true):b=false:=beq_iff_eq.mp h
theorem c_cmp (H:PE c r C m) (H2:PE c r C ma):PE c r C (.cmp o m ma):=fun {e env kn} V h=>xCmp_t h fun l ops rs p h=>bA h fun h1 h=>l1_t (P:=fun ops=>ExprOk c (r + 1) env (.Compare l ops rs p) C (.cmp o m ma)) h fun op h=>l1_t (P:=fun rs=>ExprOk c (r + 1) env (.Compare l [op] rs p) C (.cmp o m ma)) h fun r' h =>
  bA h fun h2 h=>bA h fun h3 h4=>opEq_eq h2▸⟨ev_cmp (nB h3) (H V h1).1 (H2 V h4).1,tst_cmp (nB h3) (H V h1).1 (H2 V h4).1⟩
theorem c_cmp2 (H:PE c r C m) (H2:PE c r C ma) (H3:PE c r C mb):PE c r C (.cmp2 o o₂ m ma mb):=fun {e env kn} V h=>xCmp_t h fun l ops rs p h=>bA h fun h1 h=>l2_t (P:=fun ops=>ExprOk c (r + 1) env (.Compare l ops rs p) C (.cmp2 o o₂ m ma mb)) h fun op op' h=>l2_t (P:=fun rs=>ExprOk c (r + 1) env (.Compare l [op,op'] rs p) C (.cmp2 o o₂ m ma mb)) h fun m' r' h =>
  bA h fun h2 h=>bA h fun h2' h=>bA h fun h3 h=>bA h fun h4 h5=>opEq_eq h2▸opEq_eq h2'▸⟨ev_cmp2 (nB h3) (H V h1).1 (H2 V h4).1 (H3 V h5).1,tst_cmp2 (nB h3) (H V h1).1 (H2 V h4).1 (H3 V h5).1⟩
theorem c_bop {o:Bop} (H:PE c r C m) (H2:PE c r C ma):PE c r C (.bop o m ma):=fun V h=>xBin_t h fun l op rr p h=>bA h fun h1 h=>bA h fun h2 h3=>.plain (ev_bop (bopEq_ok h1) (H V h2).1 (H2 V h3).1) rfl
theorem c_neg (H:PE c r C m):PE c r C (.neg m):=fun V h=>xUn_t h fun o v p h=>bA h fun h1 h2=>by
  cases o <;> first | exact ff h1 | exact .plain (ev_neg (H V h2).1) rfl
theorem c_not (H:PE c r C m):PE c r C (.not m):=fun V h=>xUn_t h fun o v p h=>bA h fun h1 h2=>by
  cases o <;> first | exact ff h1 | exact ⟨ev_not (H V h2).1,tst_not (H V h2).2⟩
theorem rest_ok {env:Env} {op:BoolOp} {y:Expr} {es:List Expr} {p:Pos} (H:ExprOk c r env (restB op y es p) C m):ExprOk c r env (.BoolOp op (y :: es) p) C m:=by
  cases es with
  | nil=>exact ⟨ev_last H.1,tst_last H.2⟩
  | cons _ _=>exact H
theorem c_and (H:PE c r C m) (H2:PE c r C ma):PE c r C (.and m ma):=fun V h=>xBool_t h fun op x y es p h=>bA h fun h0 h=>bA h fun h1 h2=>by
  cases op
  · exact ⟨ev_and (H V h1).1 (rest_ok (H2 V h2)).1,tst_and (H V h1).2 (rest_ok (H2 V h2)).2⟩
  · exact ff h0
theorem c_or (H:PE c r C m) (H2:PE c r C ma):PE c r C (.or m ma):=fun V h=>xBool_t h fun op x y es p h=>bA h fun h0 h=>bA h fun h1 h2=>by
  cases op
  · exact ff h0
  · exact ⟨ev_or (H V h1).1 (rest_ok (H2 V h2)).1,tst_or (H V h1).2 (rest_ok (H2 V h2)).2⟩
theorem c_ite (H:PE c r C m) (H2:PE c r C ma) (H3:PE c r C mb):PE c r C (.ite m ma mb):=fun V h=>xIf_t h fun t b o p h=>bA h fun h1 h=>bA h fun h2 h3 =>
  ⟨ev_ite (H V h1).2 (H2 V h2).1 (H3 V h3).1,tst_ite (H V h1).2 (H2 V h2).2 (H3 V h3).2⟩
theorem c_sub (H:PE c r C m) (H2:PE c r C ma):PE c r C (.sub m ma):=fun V h=>xSub_t h fun v i p h=>bA h fun h1 h2=>.plain (ev_sub (H V h1).1 (H2 V h2).1) rfl
theorem bd_ok {env:Env} {kn:Str→Option NameKind} (V:En env kn) (H:PE c r C m) {o:Option Expr} (h:chkO (noneA m) (fun x=>chkE c kn m x) o=true):BdOk c (r + 1) env o (ev C m):=by
  cases o with
  | none=>cases noneA_t h; exact bd_none
  | some e=>exact bd_some' (H V h).1
theorem c_sl (H:PE c r C m) (H2:PE c r C ma) (H3:PE c r C mb):PE c r C (.sl m ma mb):=fun {e env kn} V h=>xSub_t h fun v i p h=>xSlice_t (P:=fun i=>ExprOk c (r + 1) env (.Subscript v i p) C (.sl m ma mb)) h fun lo hi q h=>bA h fun h1 h=>bA h fun h2 h3 =>
  .plain (ev_sl (H V h1).1 (bd_ok V H2 h2) (bd_ok V H3 h3)) rfl
theorem c_lst {lv:LV} (H:PEs c r C as):PE c r C (.lst as lv):=fun V h=>xList_t h fun es p h=>bA h fun h1 h=>bA h fun h2 h=>.plain (ev_lst h1 (of_decide_eq_true h2) (H V h).evs) rfl
theorem c_tup (H:PEs c r C as):PE c r C (.tup as):=fun V h=>xTup_t h fun es n p h=>bA h fun h1 h=>bA h fun h2 h=>.plain (ev_tup h1 (of_decide_eq_true h2) (H V h).evs) rfl
theorem c_dct (O:c.Ok) {ks:List (List Nat)} {lv:LV} (H:PEs c r C as):PE c r C (.dct ks as lv):=fun V h=>xDict_t h fun keys es p h=>bA h fun h1 h=>bA h fun h2 h=>bA h fun h3 h=>bA h fun h4 h =>
  .plain (ev_dct O h1 (beq_iff_eq.mp h2) (of_decide_eq_true h3) (fun q=>by subst q; exact ff h4) (H V h)) rfl
theorem cond_ok {env:Env} {kn:Str→Option NameKind} (V:En env kn) (H:PE c r C m) {es:List Expr} (h:chkL (trueA m) (fun e=>chkE c kn m e) es=true):CondOk c (r + 1) env es (tst C m):=by
  cases es with
  | nil=>cases trueA_t h; exact cond_nil
  | cons e es=>exact bA h fun h1 h2=>nilE (P:=fun es=>CondOk c (r + 1) env (e :: es) (tst C m)) h1 (cond_one (H V h2).2)
theorem noSet_ok {it':Expr} (h:noSet it'=true) {env:Env}:∀ x,foldedSetIterable it' env x=pure x:=by
  cases it' <;> first | exact fun _=>rfl | exact ff h
theorem c_comp (O:c.Ok) {x:Nat} (H:PE c r C m) (H2:PE c r C ma) (H3:PE c r C mb):PE c r C (.comp m x ma mb):=fun {e env kn} V h=>xComp_t (show xComp e (fun elt' y it' ifs sc=>y == c.nm x && (scopeOk c sc kn x && (chkE c kn ma it' && (chkE c (kinds sc kn) m elt' && chkL (trueA mb) (fun e=>chkE c (kinds sc kn) mb e) ifs))))=true from h) fun elt y yp it ifs sc p h0 h=>bA h fun h1 h=>bA h fun h2 h=>bA h fun h3 h=>bA h fun h4 h5 =>
  sE (P:=fun y=>ExprOk c (r + 1) env (.ListComp elt [⟨.Name y yp,it,ifs,0⟩] sc p) C (.comp m x ma mb)) h1 (by
    obtain ⟨cl,S,en⟩:=scope_ok O V h2
    exact .plain (ev_comp O V.ok (noSet_ok h0) S (H2 V h3).1 (fun L VV=>(H (en L VV) h4).1) fun L VV=>cond_ok (en L VV) H3 h5) rfl)
theorem c_cons (H:PE c r C m) (H2:PEs c r C as):PEs c r C (m :: as):=fun {es env kn} V h=>by
  cases es with
  | nil=>exact ff h
  | cons e es=>exact bA h fun h1 h2=>.cons (H V h1).1 (H2 V h2)
theorem c_nil:PEs c r C []:=fun {es env kn} V h=>nilE (P:=fun es=>EvAll c (r + 1) env C es []) h .nil
theorem chkE_ok (O:c.Ok) (HC:OraOk c r C) (m:ME):PE c r C m:=
  ME.rec (motive_1:=PE c r C) (motive_2:=PEs c r C) (fun _ {_ _ _} _ h=>chkK_ok h) (fun _=>c_loc O) (fun _=>c_glob O) (fun _ _ _=>c_attr O) (fun _ _ _ _=>c_bm O) (fun _ _ _ _=>c_cat O) (fun _ _=>c_call HC) (fun _ _ _ _ _=>c_mcall O HC) (fun _ _ _ _=>c_fcall O HC)
    (fun _ _ _ _=>c_new O HC) (fun _ _=>c_bi O) (fun _ _ _=>c_sm) (fun _ _=>c_app) (fun _ _ H _=>c_pop H) (fun _ _ _=>c_cmp) (fun _ _ _ _ _=>c_cmp2) (fun _ _ _=>c_bop) (fun _=>c_neg) (fun _=>c_not) (fun _ _=>c_and) (fun _ _=>c_or) (fun _ _ _=>c_ite) (fun _ _=>c_sub) (fun _ _ _=>c_sl)
    (fun _ _=>c_lst) (fun _=>c_tup) (fun _ _ _=>c_dct O) (fun _ _ _ _=>c_comp O) c_nil (fun _ _=>c_cons) m
end
end Mine
end
noncomputable section
open PySem PySem.Calls PyProof.Rows PySem.W
namespace Mine
section
variable {s:Stmt} {P:Stmt→Prop}
noncomputable def sExpr (s:Stmt) (k:Expr→Bool):Bool:=ctq fun h=>Stmt.Expr.elim (motive_2:=fun _=>Bool) s h fun e _=>k e
@[elab_as_elim] theorem sExpr_t {k} (h:sExpr s k=true) (f:∀ e p,k e=true→P (.Expr e p)):P s:=ctq_t h fun q=>Stmt.Expr.elim (motive_2:=fun s=>sExpr s k=true→P s) s q (fun _ _ h=>f _ _ h) h
noncomputable def sAsg (s:Stmt) (k:Expr→Expr→Bool):Bool:=ctq fun h=>Stmt.Assign.elim (motive_2:=fun _=>Bool) s h fun ts e _=>l1 ts fun t=>k t e
@[elab_as_elim] theorem sAsg_t {k} (h:sAsg s k=true) (f:∀ t e p,k t e=true→P (.Assign [t] e p)):P s:=
  ctq_t h fun q=>Stmt.Assign.elim (motive_2:=fun s=>sAsg s k=true→P s) s q (fun _ _ _ h=>l1_t (P:=fun ts=>P (.Assign ts _ _)) h fun t h=>f _ _ _ h) h
noncomputable def sAug (s:Stmt) (k:Expr→Operator→Expr→Bool):Bool:=ctq fun h=>Stmt.AugAssign.elim (motive_2:=fun _=>Bool) s h fun t o e _=>k t o e
@[elab_as_elim] theorem sAug_t {k} (h:sAug s k=true) (f:∀ t o e p,k t o e=true→P (.AugAssign t o e p)):P s:=ctq_t h fun q=>Stmt.AugAssign.elim (motive_2:=fun s=>sAug s k=true→P s) s q (fun _ _ _ _ h=>f _ _ _ _ h) h
noncomputable def sIf (s:Stmt) (k:Expr→List Stmt→List Stmt→Bool):Bool:=ctq fun h=>Stmt.If.elim (motive_2:=fun _=>Bool) s h fun t b o _=>k t b o
@[elab_as_elim] theorem sIf_t {k} (h:sIf s k=true) (f:∀ t b o p,k t b o=true→P (.If t b o p)):P s:=ctq_t h fun q=>Stmt.If.elim (motive_2:=fun s=>sIf s k=true→P s) s q (fun _ _ _ _ h=>f _ _ _ _ h) h
noncomputable def sWhl (s:Stmt) (k:Expr→List Stmt→Bool):Bool:=ctq fun h=>Stmt.While.elim (motive_2:=fun _=>Bool) s h fun t b o _=>o.isEmpty && k t b
@[elab_as_elim] theorem sWhl_t {k} (h:sWhl s k=true) (f:∀ t b p,k t b=true→P (.While t b [] p)):P s:=
  ctq_t h fun q=>Stmt.While.elim (motive_2:=fun s=>sWhl s k=true→P s) s q (fun _ _ _ _ h=>bA h fun h1 h2=>nilE (P:=fun o=>P (.While _ _ o _)) h1 (f _ _ _ h2)) h
noncomputable def sFor (s:Stmt) (k:Expr→Expr→List Stmt→Bool):Bool:=ctq fun h=>Stmt.For.elim (motive_2:=fun _=>Bool) s h fun t i b o _=>o.isEmpty && k t i b
@[elab_as_elim] theorem sFor_t {k} (h:sFor s k=true) (f:∀ t i b p,k t i b=true→P (.For t i b [] p)):P s:=
  ctq_t h fun q=>Stmt.For.elim (motive_2:=fun s=>sFor s k=true→P s) s q (fun _ _ _ _ _ h=>bA h fun h1 h2=>nilE (P:=fun o=>P (.For _ _ _ o _)) h1 (f _ _ _ _ h2)) h
noncomputable def sRet (s:Stmt) (k:Option Expr→Bool):Bool:=ctq fun h=>Stmt.Return.elim (motive_2:=fun _=>Bool) s h fun v _=>k v
@[elab_as_elim] theorem sRet_t {k} (h:sRet s k=true) (f:∀ v p,k v=true→P (.Return v p)):P s:=ctq_t h fun q=>Stmt.Return.elim (motive_2:=fun s=>sRet s k=true→P s) s q (fun _ _ h=>f _ _ h) h
noncomputable def sAsrt (s:Stmt) (k:Expr→Bool):Bool:=ctq fun h=>Stmt.Assert.elim (motive_2:=fun _=>Bool) s h fun t m _=>m.isNone && k t
@[elab_as_elim] theorem sAsrt_t {k} (h:sAsrt s k=true) (f:∀ t p,k t=true→P (.Assert t none p)):P s:=by
  refine ctq_t h fun q=>Stmt.Assert.elim (motive_2:=fun s=>sAsrt s k=true→P s) s q (fun t m p h=>?_) h
  cases m
  · exact f _ _ h
  · exact ff h
noncomputable def sPass (s:Stmt):Bool:=ctq fun h=>Stmt.Pass.elim (motive_2:=fun _=>Bool) s h fun _=>true
noncomputable def sBrk (s:Stmt):Bool:=ctq fun h=>Stmt.Break.elim (motive_2:=fun _=>Bool) s h fun _=>true
noncomputable def sCont (s:Stmt):Bool:=ctq fun h=>Stmt.Continue.elim (motive_2:=fun _=>Bool) s h fun _=>true
end
mutual
noncomputable def chkS (c:Cx) (kn:Str→Option NameKind):MS→Stmt→Bool
  | .ex e=>fun s=>sExpr s fun e'=>noComp e' && chkE c kn e e'
  | .asg n e=>fun s=>sAsg s fun t e'=>xName' t fun y np=>y == c.nm n && ((kn y == some .local) && ((noComp e' || (isComp e && swOk y np e')) && chkE c kn e e'))
  | .asgA t n D e=>fun s=>sAsg s fun u e'=>xAttr u fun t' a _=>a == c.nm n && (noCls c D n && (noComp e' && (chkE c kn e e' && chkE c kn t t')))
  | .asgS t i e=>fun s=>sAsg s fun u e'=>xSub u fun t' i'=>noComp e' && (chkE c kn e e' && (chkE c kn t t' && chkE c kn i i'))
  | .asgT ns e=>fun s=>sAsg s fun u e'=>xTup u fun es=>noComp e' && (noTup e' && (nmsOk c kn es ns && chkE c kn e e'))
  | .asgTA t₁ n₁ D₁ t₂ n₂ D₂ e=>fun s=>sAsg s fun u e'=>xTup u fun es=>l2 es fun u₁ u₂=>xAttr u₁ fun t₁' a₁ _=>xAttr u₂ fun t₂' a₂ _ =>
    a₁ == c.nm n₁ && (a₂ == c.nm n₂ && (noCls c D₁ n₁ && (noCls c D₂ n₂ && (noComp e' && (noTup e' && (chkE c kn e e' && (chkE c kn t₁ t₁' && chkE c kn t₂ t₂')))))))
  | .augN n o e=>fun s=>sAug s fun u o' e'=>xName u fun y=>y == c.nm n && ((kn y == some .local) && (bopIs o' o && chkE c kn e e'))
  | .augA t n D o e=>fun s=>sAug s fun u o' e'=>xAttr u fun t' a _=>a == c.nm n && (noCls c D n && (bopIs o' o && (chkE c kn t t' && chkE c kn e e')))
  | .augS t i o e=>fun s=>sAug s fun u o' e'=>xSub u fun t' i'=>noSlice i' && (bopIs o' o && (chkE c kn t t' && (chkE c kn i i' && chkE c kn e e')))
  | .iff t b o=>fun s=>sIf s fun t' b' o'=>chkE c kn t t' && (chkSs c kn b b' && chkSs c kn o o')
  | .whl t b=>fun s=>sWhl s fun t' b'=>chkE c kn t t' && chkSs c kn b b'
  | .for x it b=>fun s=>sFor s fun u it' b'=>xName u fun y=>y == c.nm x && ((kn y == some .local) && (noSet it' && (chkE c kn it it' && chkSs c kn b b')))
  | .forT _ _ _=>fun _=>false
  | .ret e=>fun s=>sRet s (chkO (noneA e) fun x=>chkE c kn e x)
  | .pass=>sPass
  | .brk=>sBrk
  | .cont=>sCont
  | .asrt e=>fun s=>sAsrt s fun e'=>chkE c kn e e'
noncomputable def chkSs (c:Cx) (kn:Str→Option NameKind):List MS→List Stmt→Bool
  | []=>fun ss=>ss.isEmpty
  | m :: ms=>fun ss=>match ss with
    | []=>false
    | s :: ss=>chkS c kn m s && chkSs c kn ms ss
end
noncomputable def PS (c:Cx) (r:Nat) (C:Ora) (m:MS):Prop:=∀ {s:Stmt} {env:Env} {kn:Str→Option NameKind},En env kn→chkS c kn m s=true→ExOk c (r + 1) env s (exc C m)
noncomputable def PSs (c:Cx) (r:Nat) (C:Ora) (ms:List MS):Prop:=∀ {ss:List Stmt} {env:Env} {kn:Str→Option NameKind},En env kn→chkSs c kn ms ss=true→ExsOk c (r + 1) env ss (exs C ms)
section
variable {c:Cx} {r:Nat} {C:Ora} {m mt mi mt2:ME} {b b2:List MS} {n D n2 D2:Nat} {o:Bop}
theorem noInter {env:Env} (VV:EnvOk env):interactive env=false:=by unfold interactive; rw [VV.kind]; rfl
theorem s_ex (O:c.Ok) (HC:OraOk c r C):PS c r C (.ex m):=fun V h=>sExpr_t h fun e p h=>bA h fun h1 h2=>ex_ex (noInter V.ok) h1 (chkE_ok O HC m V h2).1
theorem asg_comp_ok (O:c.Ok) (HC:OraOk c r C) {me mi mc:ME} {x n:Nat} {e:Expr} {env:Env} {kn:Str→Option NameKind} (V:En env kn) {np pos:Pos} (hk:env.kindOf (c.nm n)=some .local)
    (hs:swOk (c.nm n) np e=true) (h:chkE c kn (.comp me x mi mc) e=true):ExOk c (r + 1) env (.Assign [.Name (c.nm n) np] e pos) (exc C (.asg n (.comp me x mi mc))):=
  xComp_t (P:=fun e=>swOk (c.nm n) np e=true→ExOk c (r + 1) env (.Assign [.Name (c.nm n) np] e pos) (exc C (.asg n (.comp me x mi mc))))
    (show xComp e (fun elt' y it' ifs sc=>y == c.nm x && (scopeOk c sc kn x && (chkE c kn mi it' && (chkE c (kinds sc kn) me elt' && chkL (trueA mc) (fun e=>chkE c (kinds sc kn) mc e) ifs))))=true from h)
    (fun elt y yp it ifs sc p h0 h=>bA h fun h1 h=>bA h fun h2 h=>bA h fun h3 h=>bA h fun h4 h5 hs=>sE (P:=fun y=>ExOk c (r + 1) env (.Assign [.Name (c.nm n) np] (.ListComp elt [⟨.Name y yp,it,ifs,0⟩] sc p) pos) (exc C (.asg n (.comp me x mi mc)))) h1 (by
      obtain ⟨cl,S,en⟩:=scope_ok O V h2
      have hsw:swapsWith (.ListComp elt [⟨.Name (c.nm x) yp,it,ifs,0⟩] sc p) (some (.Name (c.nm n) np)) pos.line env=pure true:=by
        show (pure (env.blockKind == .function && env.kindOf (c.nm n) == some .local && np.line == p.line && !(sc.names.any fun (a,k)=>a == c.nm n && (k == .local || k == .cell))):Sem Bool)=pure true
        have hb:(env.blockKind == ScopeKind.function)=true:=by unfold Env.blockKind; rw [V.ok.kind]; rfl
        exact bA hs fun h1 h2=>by rw [hb,hk,h1,h2]; rfl
      exact ex_asgC O V.ok (noSet_ok h0) S hk hsw (chkE_ok O HC mi V h3).1 (fun L VV=>(chkE_ok O HC me (en L VV) h4).1) (fun L VV=>cond_ok (en L VV) (chkE_ok O HC mc) h5))) hs
theorem isComp_t {P:ME→Prop} {m:ME} (h:isComp m=true) (k:∀ me x mi mc,P (.comp me x mi mc)):P m:=ctq_t h fun q=>ME.comp.elim (motive_1:=P) m q k
theorem s_asg (O:c.Ok) (HC:OraOk c r C):PS c r C (.asg n m):=fun {s env kn} V h=>sAsg_t h fun u e p h=>xName'_t (P:=fun u=>ExOk c (r + 1) env (.Assign [u] e p) (exc C (.asg n m))) h fun y np h=>bA h fun h1 h=>bA h fun h2 h=>bA h fun h3 h4=>by
  cases beq_iff_eq.mp h1
  exact bO h3 (fun h3=>ex_asg O V.ok ((V.kn _).trans (kE h2)) h3 (chkE_ok O HC m V h4).1) fun h3=>bA h3 fun h3 h5 =>
    isComp_t (P:=fun m=>chkE c kn m e=true→ExOk c (r + 1) env (.Assign [.Name (c.nm n) np] e p) (exc C (.asg n m))) h3 (fun _ _ _ _ h4=>asg_comp_ok O HC V ((V.kn _).trans (kE h2)) h5 h4) h4
theorem s_asgA (O:c.Ok) (HC:OraOk c r C):PS c r C (.asgA mt n D m):=fun {s env kn} V h=>sAsg_t h fun u e p h=>xAttr_t (P:=fun u=>ExOk c (r + 1) env (.Assign [u] e p) (exc C (.asgA mt n D m))) h fun t a q h=>bA h fun h1 h=>bA h fun h2 h=>bA h fun h3 h=>bA h fun h4 h5=>by
  cases beq_iff_eq.mp h1
  exact ex_asgA O h2 h3 (chkE_ok O HC m V h4).1 (chkE_ok O HC mt V h5).1
theorem s_asgS (O:c.Ok) (HC:OraOk c r C):PS c r C (.asgS mt mi m):=fun {s env kn} V h=>sAsg_t h fun u e p h=>xSub_t (P:=fun u=>ExOk c (r + 1) env (.Assign [u] e p) (exc C (.asgS mt mi m))) h fun t i q h=>bA h fun h1 h=>bA h fun h2 h=>bA h fun h3 h4 =>
  ex_asgS h1 (chkE_ok O HC m V h2).1 (chkE_ok O HC mt V h3).1 (chkE_ok O HC mi V h4).1
theorem s_asgT (O:c.Ok) (HC:OraOk c r C) {ns:List Nat}:PS c r C (.asgT ns m):=fun {s env kn} V h=>sAsg_t h fun u e p h=>xTup_t (P:=fun u=>ExOk c (r + 1) env (.Assign [u] e p) (exc C (.asgT ns m))) h fun es k q h=>bA h fun h1 h=>bA h fun h2 h=>bA h fun h3 h4 =>
  ex_asgT O V.ok h1 h2 (nmsOk_ok V.kn h3) (chkE_ok O HC m V h4).1
theorem s_asgTA (O:c.Ok) (HC:OraOk c r C):PS c r C (.asgTA mt n D mt2 n2 D2 m):=fun {s env kn} V h=>sAsg_t h fun u e p h=>xTup_t (P:=fun u=>ExOk c (r + 1) env (.Assign [u] e p) (exc C (.asgTA mt n D mt2 n2 D2 m))) h fun es k q h =>
  l2_t (P:=fun es=>ExOk c (r + 1) env (.Assign [.Tuple es k q] e p) (exc C (.asgTA mt n D mt2 n2 D2 m))) h fun u₁ u₂ h=>xAttr_t (P:=fun u₁=>ExOk c (r + 1) env (.Assign [.Tuple [u₁,u₂] k q] e p) (exc C (.asgTA mt n D mt2 n2 D2 m))) h fun t a q1 h =>
  xAttr_t (P:=fun u₂=>ExOk c (r + 1) env (.Assign [.Tuple [.Attribute t a q1,u₂] k q] e p) (exc C (.asgTA mt n D mt2 n2 D2 m))) h fun t2 a2 q2 h=>bA h fun h1 h=>bA h fun h1' h=>bA h fun h2 h=>bA h fun h3 h=>bA h fun h4 h=>bA h fun h5 h=>bA h fun h6 h=>bA h fun h7 h8=>by
  cases beq_iff_eq.mp h1
  cases beq_iff_eq.mp h1'
  exact ex_asgTA O h2 h3 h4 h5 (chkE_ok O HC m V h6).1 (chkE_ok O HC mt V h7).1 (chkE_ok O HC mt2 V h8).1
theorem s_augN (O:c.Ok) (HC:OraOk c r C):PS c r C (.augN n o m):=fun {s env kn} V h=>sAug_t h fun u o' e p h=>xName_t (P:=fun u=>ExOk c (r + 1) env (.AugAssign u o' e p) (exc C (.augN n o m))) h fun y q h=>bA h fun h1 h=>bA h fun h2 h=>bA h fun h3 h4=>by
  cases beq_iff_eq.mp h1
  obtain ⟨rfl,ho⟩:=bopIs_ok h3
  exact ex_augN O V.ok ((V.kn _).trans (kE h2)) ho (chkE_ok O HC m V h4).1
theorem s_augA (O:c.Ok) (HC:OraOk c r C):PS c r C (.augA mt n D o m):=fun {s env kn} V h=>sAug_t h fun u o' e p h=>xAttr_t (P:=fun u=>ExOk c (r + 1) env (.AugAssign u o' e p) (exc C (.augA mt n D o m))) h fun t a q h=>bA h fun h1 h=>bA h fun h2 h=>bA h fun h3 h=>bA h fun h4 h5=>by
  cases beq_iff_eq.mp h1
  obtain ⟨rfl,ho⟩:=bopIs_ok h3
  exact ex_augA O h2 ho (chkE_ok O HC mt V h4).1 (chkE_ok O HC m V h5).1
theorem s_augS (O:c.Ok) (HC:OraOk c r C):PS c r C (.augS mt mi o m):=fun {s env kn} V h=>sAug_t h fun u o' e p h=>xSub_t (P:=fun u=>ExOk c (r + 1) env (.AugAssign u o' e p) (exc C (.augS mt mi o m))) h fun t i q h=>bA h fun h1 h=>bA h fun h2 h=>bA h fun h3 h=>bA h fun h4 h5=>by
  obtain ⟨rfl,ho⟩:=bopIs_ok h2
  exact ex_augS h1 ho (chkE_ok O HC mt V h3).1 (chkE_ok O HC mi V h4).1 (chkE_ok O HC m V h5).1
theorem s_iff (O:c.Ok) (HC:OraOk c r C) (H:PSs c r C b) (H2:PSs c r C b2):PS c r C (.iff mt b b2):=fun V h=>sIf_t h fun t b o p h=>bA h fun h1 h=>bA h fun h2 h3=>ex_iff (chkE_ok O HC mt V h1).2 (H V h2) (H2 V h3)
theorem s_whl (O:c.Ok) (HC:OraOk c r C) (H:PSs c r C b):PS c r C (.whl mt b):=fun V h=>sWhl_t h fun t b p h=>bA h fun h1 h2=>ex_whl (chkE_ok O HC mt V h1).2 (H V h2)
theorem s_for (O:c.Ok) (HC:OraOk c r C) (H:PSs c r C b):PS c r C (.for n mi b):=fun {s env kn} V h=>sFor_t h fun u i bb p h=>xName_t (P:=fun u=>ExOk c (r + 1) env (.For u i bb [] p) (exc C (.for n mi b))) h fun y q h=>bA h fun h1 h=>bA h fun h2 h=>bA h fun h3 h=>bA h fun h4 h5=>by
  cases beq_iff_eq.mp h1
  exact ex_for O V.ok ((V.kn _).trans (kE h2)) (noSet_ok h3) (chkE_ok O HC mi V h4).1 (H V h5)
theorem s_ret (O:c.Ok) (HC:OraOk c r C):PS c r C (.ret m):=fun V h=>sRet_t h fun v p h=>by
  cases v with
  | none=>cases noneA_t h; exact ex_ret0
  | some e=>exact ex_ret (chkE_ok O HC m V h).1
theorem s_pass:PS c r C .pass:=fun {s env kn} V h=>by cases s <;> first | exact ff h | exact ex_pass
theorem s_brk:PS c r C .brk:=fun {s env kn} V h=>by cases s <;> first | exact ff h | exact ex_brk
theorem s_cont:PS c r C .cont:=fun {s env kn} V h=>by cases s <;> first | exact ff h | exact ex_cont
theorem s_asrt (O:c.Ok) (HC:OraOk c r C):PS c r C (.asrt m):=fun V h=>sAsrt_t h fun t p h=>ex_asrt (chkE_ok O HC m V h).2
theorem s_cons {m:MS} (H:PS c r C m) (H2:PSs c r C b):PSs c r C (m :: b):=fun {ss env kn} V h=>by
  cases ss with
  | nil=>exact ff h
  | cons s ss=>exact bA h fun h1 h2=>exs_cons (H V h1) (H2 V h2)
theorem s_nil:PSs c r C []:=fun {ss env kn} V h=>nilE (P:=fun ss=>ExsOk c (r + 1) env ss (exs C [])) h exs_nil
theorem chkS_ok (O:c.Ok) (HC:OraOk c r C) (m:MS):PS c r C m:=
  MS.rec (motive_1:=PS c r C) (motive_2:=PSs c r C) (fun _=>s_ex O HC) (fun _ _=>s_asg O HC) (fun _ _ _ _=>s_asgA O HC) (fun _ _ _=>s_asgS O HC) (fun _ _=>s_asgT O HC) (fun _ _ _ _ _ _ _=>s_asgTA O HC) (fun _ _ _=>s_augN O HC) (fun _ _ _ _ _=>s_augA O HC) (fun _ _ _ _=>s_augS O HC)
    (fun _ _ _=>s_iff O HC) (fun _ _=>s_whl O HC) (fun _ _ _=>s_for O HC) (fun _ _ _ _ {_ _ _} _ h=>ff h) (fun _=>s_ret O HC) s_pass s_brk s_cont (fun _=>s_asrt O HC) s_nil (fun _ _=>s_cons) m
theorem chkSs_ok (O:c.Ok) (HC:OraOk c r C):∀ b,PSs c r C b
  | []=>s_nil
  | m :: b=>s_cons (chkS_ok O HC m) (chkSs_ok O HC b)
end
end Mine
end
noncomputable section
open PySem PySem.Calls PyProof.Rows PySem.W
namespace Mine
noncomputable def noDup:List Str→Bool
  | []=>true
  | x :: r=>!(r.any (· == x)) && noDup r
theorem noDup_ok:∀ {l:List Str},noDup l=true→l.Nodup
  | [],_=>List.nodup_nil
  | x :: r,h=>bA h fun h1 h2=>List.nodup_cons.mpr ⟨fun q=>Bool.false_ne_true ((notT h1).symm.trans (List.any_eq_true.mpr ⟨x,q,beq_self_eq_true x⟩)),noDup_ok h2⟩
noncomputable def ob {α:Type} (x:Option α) (f:α→Bool):Bool:=match x with
  | some a=>f a
  | none=>false
theorem obE {α:Type} {x:Option α} {f:α→Bool} {P:Prop} (h:ob x f=true) (k:∀ a,x=some a→f a=true→P):P:=by
  cases x with
  | none=>exact ff h
  | some a=>exact k a rfl h
noncomputable def funcOf (o:Obj):Option FuncData:=match o.data with
  | .func fd=>some fd
  | _=>none
theorem funcOf_t {o:Obj} {fd:FuncData} (h:funcOf o=some fd):o.data=.func fd:=by
  unfold funcOf at h
  generalize o.data=d at h
  cases d <;> first | exact nn h | (cases h; rfl)
noncomputable def bodyOf (fd:FuncData):Option (List Stmt):=match fd.body with
  | .stmts b=>some b
  | _=>none
theorem bodyOf_t {fd:FuncData} {b:List Stmt} (h:bodyOf fd=some b):fd.body=.stmts b:=by
  unfold bodyOf at h
  generalize fd.body=d at h
  cases d <;> first | exact nn h | (cases h; rfl)
noncomputable def plainP (p:Arguments):Bool:=p.posonlyargs.isEmpty && (p.vararg.isNone && (p.kwonlyargs.isEmpty && (p.kw_defaults.isEmpty && p.kwarg.isNone)))
theorem plainP_t {p:Arguments} (h:plainP p=true):p=⟨[],p.args,none,[],[],none,p.defaults⟩:=by
  obtain ⟨a,b,c,d,e,f,g⟩:=p
  exact bA h fun h1 h=>bA h fun h2 h=>bA h fun h3 h=>bA h fun h4 h5=>by
    cases List.isEmpty_iff.mp h1
    cases Option.isNone_iff_eq_none.mp h2
    cases List.isEmpty_iff.mp h3
    cases List.isEmpty_iff.mp h4
    cases Option.isNone_iff_eq_none.mp h5
    rfl
noncomputable def chkFd (c:Cx) (m:MFun) (fd:FuncData) (body:List Stmt) (as:List Arg):Bool:=
  codeIn c.K fd.code fd.qualname && ((argN as == m.ps.map c.nm) && (noDup (argN as) && ((fd.scope.kind == .function) && ((fd.scope.isGenerator == false) && ((fd.scope.isCoroutine == false) &&
  ((fd.globals == mainGlobals) && ((fd.builtins == builtinsNs) && (fd.closure.isEmpty && (ob (dfltsIn c.K fd.defaults) (fun ds=>dsOk m.ds ds && Nat.ble ds.length (argN as).length) &&
  ((argN as).all (fun x=>fd.scope.names.lookup x == some .local || fd.scope.names.lookup x == some .cell) && chkSs c (fun x=>fd.scope.names.lookup x) m.body body))))))))))
noncomputable def chkDef (c:Cx) (f:Nat) (m:MFun):Bool:=ob (c.K.lookup (c.fA f)) fun o=>ob (funcOf o) fun fd=>ob (bodyOf fd) fun body=>plainP fd.params && chkFd c m fd body fd.params.args
section
variable {c:Cx} {r:Nat} {C:Ora}
theorem envCells_cells {fd:FuncData} {L a:Addr}:EnvCells (callEnvC fd L a):=fun x hx=>cellsFrom_some fd.scope.names (L + 1) [] (.inl (show fd.scope.names.lookup x=some .cell from hx))
theorem chkDef_ok (O:c.Ok) (HC:OraOk c r C) {f:Nat} {m:MFun} (h:chkDef c f m=true) {A:Around} {σ:St} {vs:List Mine.V} {v:Mine.V} {σ':St} {env:Env} {g:Gh} {s:Shared} {xs:List Value} {E:Value→Shared→Prop} {Q:Value→Shared→Prop}
    (hr:Room A (r + 2)) (hf:callB C m vs σ=some (v,σ')) (R:Rel c env g σ s) (X:Vxs c env g s vs xs) (N:Nxt c env g s v σ' Q):codeAny c.M A (.call (.ref (c.fA f)) ⟨xs,[]⟩) (retQ Q E) s:=
  obE h fun o ho h=>obE h fun fd hfd h=>obE h fun body hb h=>bA h fun hp h=>bA h fun h3 h=>bA h fun h4 h=>bA h fun h5 h=>bA h fun h6 h=>bA h fun h7 h=>bA h fun h8 h=>bA h fun h9 h=>bA h fun h10 h=>bA h fun h11 h=>bA h fun hd h=>bA h fun h12 h13=>obE hd fun ds hds hd=>bA hd fun hd1 hd2=>by
    obtain ⟨oc,od,odat,osl⟩:=o
    cases funcOf_t hfd
    exact def_ok O (ds:=ds) ⟨⟨_,_,_,ho⟩,h3,bodyOf_t hb,plainP_t hp,bE h4,noDup_ok h5,hds,hd1,Nat.le_of_ble_eq_true hd2,bE h6,bE h7,bE h8,fun x hx=>bO (allE h12 x hx) (fun q=>.inl (bE q)) fun q=>.inr (bE q),bE h9,bE h10,List.isEmpty_iff.mp h11⟩
      (fun L VV=>chkSs_ok O HC m.body ⟨VV,envCells_cells,fun x=>rfl⟩ h13) hr hf R X N
theorem ora_ok (O:c.Ok) {T:Nat→Option MFun} (h:∀ f m,T f=some m→chkDef c f m=true):∀ n,OraOk c (2 * n) (oraN T n)
  | 0=>fun _ _ _ _ _ _ _ _ _ _ _ _ _ _ hf _ _ _=>nn hf
  | n + 1=>fun _ _ _ _ _ _ _ _ _ _ _ _ hr VV hf R X N=>boE hf fun m h1 h2=>chkDef_ok O (ora_ok O h n) (h _ _ h1) hr h2 R X N
end
end Mine
end
noncomputable section
open PySem PySem.Calls PyProof.Rows PySem.W
namespace Mine
noncomputable def idBlw (n:Nat):Id→Bool
  | .t k=>decide (k < n)
  | .p _=>true
mutual
noncomputable def V.blw (n:Nat):Mine.V→Bool
  | .none=>true
  | .bool _=>true
  | .int _=>true
  | .str _=>true
  | .tup l=>V.blws n l
  | .list l=>V.blws n l
  | .dict _ vs=>V.blws n vs
  | .obj i=>idBlw n i
  | .fn _=>true
  | .meth _ v=>V.blw n v
  | .rng _ _=>true
noncomputable def V.blws (n:Nat):List Mine.V→Bool
  | []=>true
  | v :: l=>V.blw n v && V.blws n l
end
noncomputable def fsBlw (n:Nat):List (Nat × Mine.V)→Bool
  | []=>true
  | (_,v) :: l=>V.blw n v && fsBlw n l
noncomputable def Ob.blw (n:Nat):Ob→Bool
  | .list l=>V.blws n l
  | .dict _ vs=>V.blws n vs
  | .inst _ fs=>fsBlw n fs
noncomputable def hpBlw (n:Nat):List (Id × Ob)→Bool
  | []=>true
  | (i,o) :: l=>(idBlw n i && Ob.blw n o) && hpBlw n l
noncomputable def Gh.clean (g:Gh) (n:Nat):Gh:={ g with cs:=fun i=>if idBlw n i=true then g.cs i else none }
section
variable {c:Cx} {r:Nat} {env env':Env} {A:Around} {σ σ' σ₁:St} {g g₁:Gh} {s s' s₁ s₂:Shared} {E:Value→Shared→Prop} {Q:Value→Shared→Prop} {v:Mine.V} {D:Addr→Prop} {n:Nat} {F:Addr→Obj→Prop}
theorem Gh.clean_rho {i:Id} {a:Addr} (h:idBlw n i=true) (e:g.rho i=some a):(g.clean n).rho i=some a:=by
  unfold Gh.rho Gh.clean at *
  dsimp only
  rw [if_pos h]; exact e
theorem VR.clean {v:Mine.V} {x:Value} (h:VR c F g.rho v x):V.blw n v=true→VR c F (g.clean n).rho v x:=
  VR.rec (motive_1:=fun v x _=>V.blw n v=true→VR c F (g.clean n).rho v x) (motive_2:=fun l xs _=>V.blws n l=true→VRs c F (g.clean n).rho l xs) (fun _=>.none) (fun b _=>.bool b) (fun i t _=>.int i t) (fun s t _=>.str s t) (fun a b d _ e h=>.tup a b d (e h)) (fun a _ e h=>.list a (e h))
    (fun a b d _ f e h=>.dict a b d (e h) f) (fun a h=>.obj (Gh.clean_rho h a)) (fun f _=>.fn f) (fun a _=>.rng a) (fun a _ b h=>.meth a (b h)) (fun _=>.nil) (fun _ _ a b h=>bA h fun h1 h2=>.cons (a h1) (b h2)) h
theorem VRs.clean:∀ {l:List Mine.V} {xs:List Value},VRs c F g.rho l xs→V.blws n l=true→VRs c F (g.clean n).rho l xs
  | [],_,h,_=>h.nilE .nil
  | _ :: _,_,h,hb=>bA hb fun h1 h2=>h.consE fun _ _ a b=>.cons (a.clean h1) (b.clean h2)
theorem FsR.clean {fs:List (Nat × Mine.V)} {es:List DictEntry} (h:FsR c F g.rho fs es):fsBlw n fs=true→FsR c F (g.clean n).rho fs es:=
  FsR.rec (motive:=fun fs es _=>fsBlw n fs=true→FsR c F (g.clean n).rho fs es) (fun _=>.nil) (fun a b _ ih hb=>bA hb fun h1 h2=>.cons a (b.clean h1) (ih h2)) h
theorem hpBlw_look {i:Id} {o:Ob}:∀ {l:List (Id × Ob)},hpBlw n l=true→look l i=some o→idBlw n i=true∧Ob.blw n o=true
  | [],_,e=>nn e
  | (j,q) :: l,h,e=>bA h fun h1 h2=>by
    by_cases hj:j=i
    · cases (if_pos hj).symm.trans e
      exact bA h1 fun h3 h4=>⟨hj▸h3,h4⟩
    · exact hpBlw_look h2 ((if_neg hj).symm.trans e)
theorem fsBlw_look {i:Nat} {o:Mine.V}:∀ {l:List (Nat × Mine.V)},fsBlw n l=true→look l i=some o→V.blw n o=true
  | [],_,e=>nn e
  | (j,q) :: l,h,e=>bA h fun h1 h2=>by
    by_cases hj:j=i
    · cases (if_pos hj).symm.trans e; exact h1
    · exact fsBlw_look h2 ((if_neg hj).symm.trans e)
theorem ObR.clean {h:Heap} {ob:Ob} {a o:Addr} (H:ObR c env g h ob a o) (hb:Ob.blw n ob=true):ObR c env (g.clean n) h ob a o:=by
  cases ob with
  | list l=>exact ⟨H.1,H.2.imp fun _=>Exists.imp fun _ z=>⟨z.1,VRs.clean z.2 hb⟩⟩
  | dict ks vs=>exact ⟨H.1,H.2.1,H.2.2.imp fun _ z=>⟨z.1,z.2.1,VRs.clean z.2.2 hb⟩⟩
  | inst C fs=>exact ⟨H.1,H.2.1,H.2.2.1,H.2.2.2.imp fun _=>Exists.imp fun _ z=>⟨z.1,FsR.clean z.2 hb⟩⟩
structure Cl (n:Nat) (σ σ':St):Prop where
  loc:∀ i v,look σ'.loc i=some v→look σ.loc i=some v
  hp:∀ i o,look σ'.hp i=some o→look σ.hp i=some o
  bloc:fsBlw n σ'.loc=true
  bhp:hpBlw n σ'.hp=true
  nx:σ'.nx=n
  ps:∀ k,k ∈ σ.ps→k ∈ σ'.ps
theorem Gh.clean_cs {i:Id} {p:Addr × Addr} (e:(g.clean n).cs i=some p):g.cs i=some p:=by
  by_cases h:idBlw n i=true
  · exact (if_pos h).symm.trans e
  · exact nn ((if_neg h).symm.trans e)
theorem Rel.clean (R:Rel c env g σ s) (h:Cl n σ σ'):Rel c env (g.clean n) σ' s:=
  ⟨⟨R.kin,R.wob,R.xob,R.fob,R.dis,R.loc.imp fun m z=>⟨z.1,fun i v e =>
      have hb:=fsBlw_look h.bloc e
      ⟨fun q=>((z.2 i v (h.loc i v e)).1 q).imp fun x w=>⟨w.1,w.2.clean hb⟩,fun q=>((z.2 i v (h.loc i v e)).2 q).imp fun _=>Exists.imp fun _=>Exists.imp fun _ w=>⟨w.1,w.2.1,w.2.2.1,w.2.2.2.clean hb⟩⟩⟩,
    fun i o e=>let ⟨hb1,hb2⟩:=hpBlw_look h.bhp e; (R.obs i o (h.hp i o e)).imp fun r=>Exists.imp fun q z=>⟨(if_pos hb1).trans z.1,z.2.clean hb2⟩,
    fun id r o e=>R.cW _ _ _ (Gh.clean_cs e),fun id id' r o r' e e'=>R.inj _ _ _ _ _ (Gh.clean_cs e) (Gh.clean_cs e'),fun k e=>if_neg fun q=>Nat.not_lt.mpr (h.nx▸e) (of_decide_eq_true q),fun k e=>(show (g.clean n).cs (.p k)=g.cs (.p k) from rfl).trans (R.ps k fun q=>e (h.ps k q))⟩,R.pos⟩
theorem Ext.clean (R:Rel c env g σ s) (x:Ext env g g₁ s s₁):Ext env g (g₁.clean σ.nx) s s₁:=
  ⟨x.fz,fun id p e=>(if_pos (by
    cases id with
    | p k=>rfl
    | t k=>exact decide_eq_true (Nat.lt_of_not_le fun hk=>nn ((R.nx k hk).symm.trans e)))).trans (x.cs id p e),x.X,x.gens⟩
theorem OraOk.spec {C C':Ora} (H:OraOk c r C) (h:∀ f vs σ v σ',C' f vs σ=some (v,σ')→∃ σ'',C f vs σ=some (v,σ'')∧Cl σ.nx σ'' σ'∧V.blw σ.nx v=true):OraOk c r C':=fun _ _ _ _ _ _ _ _ _ _ _ _ hr VV hf R X N=>by
  obtain ⟨σ'',h1,h2,h3⟩:=h _ _ _ _ _ hf
  exact H hr VV h1 R X fun x s' g' R' X' E'=>N x s' _ (R'.clean h2) (VR.clean X' h3) (Ext.clean R E')
theorem spec_ok (O:c.Ok) {C C':Ora} {T:Nat→Option MFun} (HT:∀ f m,T f=some m→chkDef c f m=true) (H:OraOk c r C)
    (h:∀ f vs σ v σ',C' f vs σ=some (v,σ')→∃ m σ'',T f=some m∧callB C m vs σ=some (v,σ'')∧Cl σ.nx σ'' σ'∧V.blw σ.nx v=true):OraOk c (r + 2) C':=fun _ _ _ _ _ _ _ _ _ _ _ _ hr VV hf R X N=>by
  obtain ⟨m,σ'',h0,h1,h2,h3⟩:=h _ _ _ _ _ hf
  exact chkDef_ok O H (HT _ _ h0) hr h1 R X fun x s' g' R' X' E'=>N x s' _ (R'.clean h2) (VR.clean X' h3) (Ext.clean R E')
end
end Mine
end
noncomputable section
open PySem PySem.Calls PyProof.Rows PySem.W
namespace Mine
noncomputable def refQ (x:Value) (f:Addr→Bool):Bool:=match x with
  | .ref a=>f a
  | _=>false
theorem refQE {x:Value} {f:Addr→Bool} {P:Value→Prop} (h:refQ x f=true) (k:∀ a,f a=true→P (.ref a)):P x:=by cases x <;> first | exact ff h | exact k _ h
noncomputable def strIs (s:List Nat) (x:Value):Bool:=match x with
  | .str b _=>b == toS s
  | _=>false
noncomputable def isTy (v:Value) (t:String):Bool:=match v with
  | .type s=>s == t
  | _=>false
theorem isTy_t {v:Value} {t:String} (h:isTy v t=true):v=.type t:=by cases v <;> first | exact ff h | exact congrArg Value.type (bE h)
mutual
noncomputable def chkV (K:Frag):Mine.V→Value→Bool
  | .none=>dIs .none
  | .bool a=>dIs (.bool a)
  | .int a=>dIs (.int a)
  | .str a=>strIs a
  | .tup l=>fun x=>refQ x fun a=>ob (K.lookup a) fun o=>isTy o.cls "tuple" && ob (seqOf o) (fun xs=>chkVs K l xs)
  | .list l=>fun x=>refQ x fun a=>ob (K.lookup a) fun o=>isTy o.cls "list" && (o.dict.isNone && (o.slots.isEmpty && ob (seqOf o) (fun xs=>chkVs K l xs)))
  | .dict _ _=>fun _=>false
  | .obj _=>fun _=>false
  | .fn _=>fun _=>false
  | .meth _ _=>fun _=>false
  | .rng _ _=>fun _=>false
noncomputable def chkVs (K:Frag):List Mine.V→List Value→Bool
  | []=>fun xs=>xs.isEmpty
  | v :: l=>fun xs=>match xs with
    | []=>false
    | x :: xs=>chkV K v x && chkVs K l xs
end
section
variable {c:Cx} {F:Addr→Obj→Prop} {ρ:Id→Option Addr}
theorem strIs_t {s:List Nat} {x:Value} (h:strIs s x=true):VR c F ρ (.str s) x:=by cases x <;> first | exact ff h | (cases bE h; exact .str _ _)
theorem chkV_ok (hF:∀ a o,c.K.lookup a=some o→F a o) {v:Mine.V}:∀ {x:Value},chkV c.K v x=true→VR c F ρ v x:=
  V.rec (motive_1:=fun v=>∀ {x:Value},chkV c.K v x=true→VR c F ρ v x) (motive_2:=fun l=>∀ {xs:List Value},chkVs c.K l xs=true→VRs c F ρ l xs) dIs_t (fun _ {_}=>dIs_t) (fun _ {_}=>dIs_t) (fun _ {_}=>strIs_t)
    (fun _ ih {_} h=>refQE h fun a h=>obE h fun o ho h=>bA h fun h1 h=>obE h fun xs h2 h=>let ⟨_,_,h3,h4⟩:=seqOf_t h2; .tup (hF _ _ ho) (isTy_t h1) h3 (h4▸ih h))
    (fun _ ih {_} h=>refQE h fun a h=>obE h fun o ho h=>bA h fun h1 h=>bA h fun h2 h=>bA h fun h3 h=>obE h fun xs h4 h=>by
      obtain ⟨items,n,h5,rfl⟩:=seqOf_t h4
      obtain ⟨oc,od,odat,osl⟩:=o
      cases isTy_t h1
      cases Option.isNone_iff_eq_none.mp h2
      cases Array.isEmpty_iff.mp h3
      cases h5
      exact .list (hF _ _ ho) (ih h))
    (fun _ _ _ {_} h=>ff h) (fun _ {_} h=>ff h) (fun _ {_} h=>ff h) (fun _ _ _ {_} h=>ff h) (fun _ _ {_} h=>ff h) (fun {_} h=>nilE h .nil) (fun _ _ h1 h2 {xs} h=>by
      cases xs with
      | nil=>exact ff h
      | cons x xs=>exact bA h fun a b=>.cons (h1 a) (h2 b)) v
noncomputable def dictEs (w:World) (l:List (Str × Tok × Int × Tok)):List DictEntry:=l.map fun p=>⟨hashStr w p.1,.str p.1 p.2.1,.int p.2.2.1 p.2.2.2⟩
theorem dict_pairs:∀ l:List (Str × Tok × Int × Tok),Pairs (strKind c.prog c.w) (dictEs c.w l) (l.map fun p=>(p.1,.int p.2.2.1 p.2.2.2))
  | []=>.nil
  | p :: l=>.cons (beq_self_eq_true p.1) rfl (dict_pairs l)
theorem dict_ints:∀ l:List (Str × Tok × Int × Tok),VRs c F ρ (l.map fun p=>.int p.2.2.1) (l.map fun p=>.int p.2.2.1 p.2.2.2)
  | []=>.nil
  | p :: l=>.cons (.int _ _) (dict_ints l)
theorem dictVal {l:List (Str × Tok × Int × Tok)} {ks:List (List Nat)} {vs:List Mine.V} {a:Addr} {n:Nat} (hl:c.K.lookup a=some ⟨.type "dict",none,.dict (dictEs c.w l).toArray n,#[]⟩)
    (hk:l.map (·.1)=ks.map toS) (hv:vs=l.map fun p=>.int p.2.2.1) (hn:noDup (l.map (·.1))=true) (ha:(a == sysModules)=false) (hF:∀ a o,c.K.lookup a=some o→F a o):VR c F ρ (.dict ks vs) (.ref a):=
  .dict (kvs:=l.map fun p=>(p.1,.int p.2.2.1 p.2.2.2)) (hF _ _ hl) ⟨_,_,⟨rfl,rfl,rfl⟩,rfl,fun e he=>by
    obtain ⟨p,hp,rfl⟩:=List.mem_map.mp (List.mem_toArray.mp he)
    exact ⟨p.1,beq_self_eq_true p.1,rfl⟩,dict_pairs l,by rw [List.map_map]; exact noDup_ok hn⟩ (by rw [List.map_map]; exact hk) (by rw [hv,List.map_map]; exact dict_ints l) ha
end
end Mine
end
noncomputable section
open PySem PySem.Calls PyProof.Rows PySem.W
namespace Mine
mutual
noncomputable def V.sb (i:Id) (w:Mine.V):Mine.V→Mine.V
  | .none=>.none
  | .bool b=>.bool b
  | .int n=>.int n
  | .str s=>.str s
  | .tup l=>.tup (V.sbs i w l)
  | .list l=>.list (V.sbs i w l)
  | .dict ks vs=>.dict ks (V.sbs i w vs)
  | .obj j=>if j=i then w else .obj j
  | .fn f=>.fn f
  | .meth f v=>.meth f (V.sb i w v)
  | .rng a b=>.rng a b
noncomputable def V.sbs (i:Id) (w:Mine.V):List Mine.V→List Mine.V
  | []=>[]
  | v :: l=>V.sb i w v :: V.sbs i w l
end
mutual
noncomputable def V.no (i:Id):Mine.V→Bool
  | .none=>true
  | .bool _=>true
  | .int _=>true
  | .str _=>true
  | .tup l=>V.nos i l
  | .list l=>V.nos i l
  | .dict _ vs=>V.nos i vs
  | .obj j=>decide (j ≠ i)
  | .fn _=>true
  | .meth _ v=>V.no i v
  | .rng _ _=>true
noncomputable def V.nos (i:Id):List Mine.V→Bool
  | []=>true
  | v :: l=>V.no i v && V.nos i l
end
noncomputable def fsSb (i:Id) (w:Mine.V):List (Nat × Mine.V)→List (Nat × Mine.V)
  | []=>[]
  | (n,v) :: l=>(n,V.sb i w v) :: fsSb i w l
noncomputable def Ob.sb (i:Id) (w:Mine.V):Ob→Ob
  | .list l=>.list (V.sbs i w l)
  | .dict ks vs=>.dict ks (V.sbs i w vs)
  | .inst C fs=>.inst C (fsSb i w fs)
noncomputable def hpSb (i:Id) (w:Mine.V):List (Id × Ob)→List (Id × Ob)
  | []=>[]
  | (j,o) :: l=>if j=i then hpSb i w l else (j,Ob.sb i w o) :: hpSb i w l
noncomputable def St.sb (σ:St) (k:Nat) (w:Mine.V):St:=⟨fsSb (.p k) w σ.loc,hpSb (.p k) w σ.hp,σ.nx,σ.ps.filter (· ≠ k)⟩
noncomputable def Gh.drop (g:Gh) (i:Id):Gh:={ W:=fun b=>g.W b∧∀ p,g.cs i=some p→b ≠ p.2,X:=g.X,cs:=fun j=>if j=i then none else g.cs j }
section
variable {c:Cx} {r:Nat} {env env':Env} {A:Around} {σ σ' σ₁:St} {g g₁:Gh} {s s' s₁ s₂:Shared} {E:Value→Shared→Prop} {Q:Value→Shared→Prop} {v w:Mine.V} {D:Addr→Prop} {n:Nat} {F F':Addr→Obj→Prop} {ρ ρ':Id→Option Addr} {i:Id}
theorem VR.sb (hF:∀ a o,F a o→F' a o) (hρ:∀ j a,j ≠ i→ρ j=some a→ρ' j=some a) (hw:∀ a,ρ i=some a→VR c F' ρ' w (.ref a)) {v:Mine.V} {x:Value} (h:VR c F ρ v x):VR c F' ρ' (V.sb i w v) x:=
  VR.rec (motive_1:=fun v x _=>VR c F' ρ' (V.sb i w v) x) (motive_2:=fun l xs _=>VRs c F' ρ' (V.sbs i w l) xs) .none .bool .int .str (fun a b d _ e=>.tup (hF _ _ a) b d e) (fun a _ e=>.list (hF _ _ a) e) (fun a b d _ f e=>.dict (hF _ _ a) b d e f)
    (fun {j a} e=>Classical.byCases (fun q:j=i=>by show VR c F' ρ' (if j=i then w else .obj j) _; rw [if_pos q]; exact hw _ (q▸e)) fun q=>by show VR c F' ρ' (if j=i then w else .obj j) _; rw [if_neg q]; exact .obj (hρ _ _ q e)) .fn (fun a=>.rng (hF _ _ a)) (fun a _ b=>.meth (hF _ _ a) b) .nil (fun _ _ a b=>.cons a b) h
theorem VRs.sb (hF:∀ a o,F a o→F' a o) (hρ:∀ j a,j ≠ i→ρ j=some a→ρ' j=some a) (hw:∀ a,ρ i=some a→VR c F' ρ' w (.ref a)):∀ {l:List Mine.V} {xs:List Value},VRs c F ρ l xs→VRs c F' ρ' (V.sbs i w l) xs
  | [],_,h=>h.nilE .nil
  | _ :: _,_,h=>h.consE fun _ _ a b=>.cons (a.sb hF hρ hw) (b.sb hF hρ hw)
theorem VR.no (hF:∀ a o,F a o→F' a o) (hρ:∀ j a,j ≠ i→ρ j=some a→ρ' j=some a) {v:Mine.V} {x:Value} (h:VR c F ρ v x):V.no i v=true→VR c F' ρ' v x:=
  VR.rec (motive_1:=fun v x _=>V.no i v=true→VR c F' ρ' v x) (motive_2:=fun l xs _=>V.nos i l=true→VRs c F' ρ' l xs) (fun _=>.none) (fun b _=>.bool b) (fun n t _=>.int n t) (fun s t _=>.str s t) (fun a b d _ e h=>.tup (hF _ _ a) b d (e h)) (fun a _ e h=>.list (hF _ _ a) (e h))
    (fun a b d _ f e h=>.dict (hF _ _ a) b d (e h) f) (fun e h=>.obj (hρ _ _ (of_decide_eq_true h) e)) (fun f _=>.fn f) (fun a _=>.rng (hF _ _ a)) (fun a _ b h=>.meth (hF _ _ a) (b h)) (fun _=>.nil) (fun _ _ a b h=>bA h fun h1 h2=>.cons (a h1) (b h2)) h
theorem VRs.no (hF:∀ a o,F a o→F' a o) (hρ:∀ j a,j ≠ i→ρ j=some a→ρ' j=some a):∀ {l:List Mine.V} {xs:List Value},VRs c F ρ l xs→V.nos i l=true→VRs c F' ρ' l xs
  | [],_,h,_=>h.nilE .nil
  | _ :: _,_,h,hb=>bA hb fun h1 h2=>h.consE fun _ _ a b=>.cons (a.no hF hρ h1) (b.no hF hρ h2)
theorem FsR.sb (hF:∀ a o,F a o→F' a o) (hρ:∀ j a,j ≠ i→ρ j=some a→ρ' j=some a) (hw:∀ a,ρ i=some a→VR c F' ρ' w (.ref a)) {fs:List (Nat × Mine.V)} {es:List DictEntry} (h:FsR c F ρ fs es):FsR c F' ρ' (fsSb i w fs) es:=
  FsR.rec (motive:=fun fs es _=>FsR c F' ρ' (fsSb i w fs) es) .nil (fun a b _ ih=>.cons a (b.sb hF hρ hw) ih) h
theorem fsSb_len:∀ fs:List (Nat × Mine.V),(fsSb i w fs).length=fs.length
  | []=>rfl
  | _ :: l=>congrArg (· + 1) (fsSb_len l)
theorem look_fsSb {n:Nat} {v:Mine.V}:∀ {l:List (Nat × Mine.V)},look (fsSb i w l) n=some v→∃ u,look l n=some u∧v=V.sb i w u
  | [],h=>nn h
  | (a,b) :: l,h=>by
    by_cases e:a=n
    · cases (if_pos e).symm.trans h; exact ⟨b,if_pos e,rfl⟩
    · exact (look_fsSb (l:=l) ((if_neg e).symm.trans h)).imp fun u z=>⟨(if_neg e).trans z.1,z.2⟩
theorem look_hpSb {j:Id} {o:Ob}:∀ {l:List (Id × Ob)},look (hpSb i w l) j=some o→j ≠ i∧∃ u,look l j=some u∧o=Ob.sb i w u
  | [],h=>nn h
  | (a,b) :: l,h=>by
    have h:look (if a=i then hpSb i w l else (a,Ob.sb i w b) :: hpSb i w l) j=some o:=h
    by_cases e:a=i
    · rw [if_pos e] at h
      obtain ⟨h1,u,h2,h3⟩:=look_hpSb (l:=l) h
      exact ⟨h1,u,(if_neg fun q=>h1 (q.symm.trans e)).trans h2,h3⟩
    · rw [if_neg e] at h
      by_cases q:a=j
      · cases (if_pos q).symm.trans h; exact ⟨fun z=>e (q.trans z),b,if_pos q,rfl⟩
      · obtain ⟨h1,u,h2,h3⟩:=look_hpSb (l:=l) ((if_neg q).symm.trans h)
        exact ⟨h1,u,(if_neg q).trans h2,h3⟩
theorem ObR.sb {h:Heap} {g':Gh} {ob:Ob} {a o:Addr} (hF:∀ a o,Mine.Fz env g h a o→Mine.Fz env g' h a o) (hρ:∀ j a,j ≠ i→g.rho j=some a→g'.rho j=some a) (hw:∀ a,g.rho i=some a→VR c (Mine.Fz env g' h) g'.rho w (.ref a)) (H:ObR c env g h ob a o):ObR c env g' h (Ob.sb i w ob) a o:=by
  cases ob with
  | list l=>exact ⟨H.1,H.2.imp fun _=>Exists.imp fun _ z=>⟨z.1,VRs.sb hF hρ hw z.2⟩⟩
  | dict ks vs=>exact ⟨H.1,H.2.1,H.2.2.imp fun _ z=>⟨z.1,z.2.1,VRs.sb hF hρ hw z.2.2⟩⟩
  | inst C fs=>exact ⟨H.1,(fsSb_len fs).symm▸H.2.1,hF _ _ H.2.2.1,H.2.2.2.imp fun _=>Exists.imp fun _ z=>⟨z.1,FsR.sb hF hρ hw z.2⟩⟩
theorem drop_cs {j:Id} {p:Addr × Addr} (e:(g.drop i).cs j=some p):j ≠ i∧g.cs j=some p:=
  Classical.byCases (fun q:j=i=>nn ((if_pos q).symm.trans e)) fun q=>⟨q,(if_neg q).symm.trans e⟩
theorem freeze_core {k:Nat} {r q:Addr} (R:Rel c env g σ s) (hc:g.cs (.p k)=some (r,q)) (hw:∀ a,g.rho (.p k)=some a→VR c (Mine.Fz env (g.drop (.p k)) s.heap) (g.drop (.p k)).rho w (.ref a)):Rel c env (g.drop (.p k)) (σ.sb k w) s:=by
  have kF:∀ a o,Mine.Fz env g s.heap a o→Mine.Fz env (g.drop (.p k)) s.heap a o:=fun a o z=>⟨z.1,fun h=>z.2.1 h.1,z.2.2.1,z.2.2.2⟩
  have kr:∀ j a,j ≠ Id.p k→g.rho j=some a→(g.drop (.p k)).rho j=some a:=fun j a hj e=>(congrArg (Option.map Prod.fst) (if_neg hj)).trans e
  exact ⟨⟨fun a o e=>kF _ _ (R.kin a o e),fun a w=>R.wob a w.1,R.xob,R.fob,fun a w=>R.dis a w.1,R.loc.imp fun m z=>⟨z.1,fun n v e=>by
      obtain ⟨u,hu,rfl⟩:=look_fsSb e
      exact ⟨fun q=>((z.2 n u hu).1 q).imp fun x w=>⟨w.1,w.2.sb kF kr hw⟩,fun q=>((z.2 n u hu).2 q).imp fun _=>Exists.imp fun _=>Exists.imp fun _ w=>⟨w.1,kF _ _ w.2.1,w.2.2.1,w.2.2.2.sb kF kr hw⟩⟩⟩,
    fun id ob e=>by
      obtain ⟨hne,u,hu,rfl⟩:=look_hpSb e
      exact (R.obs id u hu).imp fun _=>Exists.imp fun _ z=>⟨(if_neg hne).trans z.1,z.2.sb kF kr hw⟩,
    fun id r' o e=>let ⟨hne,e⟩:=drop_cs e; ⟨R.cW _ _ _ e,fun p hp z=>by cases hc.symm.trans hp; cases (show o=q from z); exact hne (R.inj _ _ _ _ _ e hc)⟩,
    fun id id' r' o r'' e e'=>R.inj _ _ _ _ _ (drop_cs e).2 (drop_cs e').2,fun j e=>(show (g.drop (.p k)).cs (.t j)=g.cs (.t j) from rfl).trans (R.nx j e),
    fun j e=>Classical.byCases (fun hj:Id.p j=Id.p k=>if_pos hj) fun hj=>(if_neg hj).trans (R.ps j fun q=>e (List.mem_filter.mpr ⟨q,decide_eq_true fun z=>hj (congrArg Id.p z)⟩))⟩,R.pos⟩
theorem freeze {k:Nat} {ks:List (List Nat)} {vs:List Mine.V} (R:Rel c env g σ s) (ho:look σ.hp (.p k)=some (.dict ks vs)) (hn:V.nos (.p k) vs=true) :
    Rel c env (g.drop (.p k)) (σ.sb k (.dict ks vs)) s∧∀ a,g.rho (.p k)=some a→VR c (Mine.Fz env (g.drop (.p k)) s.heap) (g.drop (.p k)).rho (.dict ks vs) (.ref a):=by
  obtain ⟨r,q,hc,rfl,hsm,kvs,D,k1,r1⟩:=R.obs _ _ ho
  have hrW:g.W r:=R.cW _ _ _ hc
  obtain ⟨ob,hob,hdo⟩:=Heap.dictOf_iff.mp D
  have hw:∀ a,g.rho (.p k)=some a→VR c (Mine.Fz env (g.drop (.p k)) s.heap) (g.drop (.p k)).rho (.dict ks vs) (.ref a):=fun a e=>by
    cases (congrArg (Option.map Prod.fst) hc).symm.trans e
    exact .dict ⟨hob,fun h=>h.2 _ hc rfl,(R.dis r hrW).1,(R.dis r hrW).2⟩ hdo k1 (r1.no (fun a o z=>⟨z.1,fun h=>z.2.1 h.1,z.2.2.1,z.2.2.2⟩) (fun j a hj e=>(congrArg (Option.map Prod.fst) (if_neg hj)).trans e) hn) hsm
  exact ⟨freeze_core R hc hw,hw⟩
theorem freezeL {k:Nat} {vs:List Mine.V} (R:Rel c env g σ s) (ho:look σ.hp (.p k)=some (.list vs)) (hn:V.nos (.p k) vs=true) :
    Rel c env (g.drop (.p k)) (σ.sb k (.list vs)) s∧∀ a,g.rho (.p k)=some a→VR c (Mine.Fz env (g.drop (.p k)) s.heap) (g.drop (.p k)).rho (.list vs) (.ref a):=by
  obtain ⟨r,q,hc,rfl,items,n,D,r1⟩:=R.obs _ _ ho
  have hrW:g.W r:=R.cW _ _ _ hc
  have hw:∀ a,g.rho (.p k)=some a→VR c (Mine.Fz env (g.drop (.p k)) s.heap) (g.drop (.p k)).rho (.list vs) (.ref a):=fun a e=>by
    cases (congrArg (Option.map Prod.fst) hc).symm.trans e
    exact .list ⟨D,fun h=>h.2 _ hc rfl,(R.dis r hrW).1,(R.dis r hrW).2⟩ (r1.no (fun a o z=>⟨z.1,fun h=>z.2.1 h.1,z.2.2.1,z.2.2.2⟩) (fun j a hj e=>(congrArg (Option.map Prod.fst) (if_neg hj)).trans e) hn)
  exact ⟨freeze_core R hc hw,hw⟩
end
end Mine
end
noncomputable section
open PySem PySem.Calls PyProof.Rows PySem.W
namespace Mine
section
variable {c:Cx} {r:Nat} {env env':Env} {A:Around} {σ σ' σ₁:St} {g g₁:Gh} {s s' s₁ s₂:Shared} {E:Value→Shared→Prop} {Q:Value→Shared→Prop} {v w:Mine.V} {D:Addr→Prop} {n:Nat} {F F':Addr→Obj→Prop} {ρ ρ':Id→Option Addr} {i:Id}
theorem pyIter_inst (O:c.Ok) {id:Id} {C f:Nat} {fs:List (Nat × Mine.V)} {a:Addr} (hn:findIn c.K (.ref (c.cA C)) "__iter__"=some (some (.ref (c.fA f)))) (hf:typeIn c.K (.ref (c.fA f))=some (.type "function")) (R:Rel c env g σ s) (ho:look σ.hp id=some (.inst C fs)) (hr:g.rho id=some a)
    (hc:wpAny c.M A (call (.ref (c.fA f)) [.ref a]) (fun it s'=>∃ T' r,s'.TypeIs it T'∧typeLookup (.type T') "__next__"=pure (some r)∧Q it s') E s):wpAny c.M A (pyIter (.ref a)) Q E s:=by
  obtain ⟨o,es,k,-,-,-,I⟩:=inst_of O R ho hr
  have L1:Looks c.M s.heap (specialOf (.ref a) "__iter__") (some (.ref (c.fA f))):=(I.type).andThen (looks_findIn R.kinD hn)
  have L2:Looks c.M s.heap (bindSpecial (.ref (c.fA f)) (.ref a)) (.ref (c.fA f),[.ref a]):=bind_fn R.kinD _ hf
  unfold pyIter
  refine wpAny_bind (L1.here ?_)
  show wpAny _ A (callSpecialIfBoundUnlessNone? (.ref a) "__iter__" _ >>= _) Q E s
  refine wpAny_bind ?_
  simp only [callSpecialIfBoundUnlessNone?,bindSpecialIfBound?]
  refine wpAny_holding (wpAny_bind (wpAny_bind (L1.here ?_)))
  refine wpAny_bind (wpAny_askSetting (wpAny_ite ?_))
  have fin:wpAny c.M A (if (Value.ref (c.fA f) == Value.none)=true then ((do rule "iter.none"; raiseError "TypeError" s!"'{← typeNameOf (Value.ref a)}' object is not iterable":Sem Value) >>= fun v=>pure (some v)) else (call (.ref (c.fA f)) [.ref a] >>= fun v=>pure (some v)))
      (fun it s'=>wpAny c.M A (match it with
        | some it=>(do match ← specialOf it "__next__" with
          | none=>rule "iter.non-iterator"; raiseError "TypeError" s!"iter() returned non-iterator of type '{← typeNameOf it}'"
          | some _=>pure it:Sem Value)
        | none=>(do match ← bindSpecialIfBound? (Value.ref a) "__getitem__" with
          | none=>rule "iter.not-iterable"; raiseError "TypeError" s!"'{← typeNameOf (Value.ref a)}' object is not iterable"
          | some _=>rule "iter.getitem-fallback"; newFields "iterator" [Value.ref a,← mkInt 0]:Sem Value)) Q E s') E s:=by
    rw [if_neg (by simp [BEq.beq])]
    refine wpAny_bind (wpAny_mono hc (fun it s' h'=>wpAny_pure ?_) fun _ _ e=>e)
    obtain ⟨T',r,h1,h2,h3⟩:=h'
    exact wpAny_bind (wpAny_specialOf h1 h2 (wpAny_pure h3))
  split
  · exact wpAny_bind (L2.here (wpAny_pure fin))
  · exact wpAny_tryCatch (wpAny_bind (L2.here (wpAny_pure fin)))
structure GenAt (c:Cx) (f:Nat) (fd:FuncData) (body:List Stmt):Prop where
  at_:∃ oc od osl,c.K.lookup (c.fA f)=some ⟨oc,od,.func fd,osl⟩
  code:codeIn c.K fd.code fd.qualname=true
  body:fd.body=.stmts body
  params:∃ as dd,fd.params=⟨[],as,none,[],[],none,dd⟩∧argN as=[c.nm 0]
  dflts:fd.defaults=.none
  kind:fd.scope.kind=.function
  gen:fd.scope.isGenerator=true
  co:fd.scope.isCoroutine=false
  plocal:fd.scope.names.lookup (c.nm 0)=some .local
  nocell:∀ p ∈ fd.scope.names,p.2 ≠ .cell
  glob:fd.globals=mainGlobals
  blt:fd.builtins=builtinsNs
  clo:fd.closure=[]
noncomputable abbrev genEnv (fd:FuncData) (GL a:Addr):Env:=callEnvC fd GL a
theorem gen_new (O:c.Ok) {f:Nat} {fd:FuncData} {body:List Stmt} (G:GenAt c f fd body) {x:Value} (hr:Room A 2) (R:Rel c env g σ s)
    (N:∀ (s':Shared) (GO:Addr) (m:Str→Option Value),(∀ b o,s.heap.get? b=some o→s'.heap.get? b=some o)→s.heap.objs.size < GO→s'.heap.Ns s.heap.objs.size m→m (c.nm 0)=some x→s'.heap.IsGen GO s.gens.size →
      s'.gens=s.gens.push (.fresh (.func body (genEnv fd s.heap.objs.size (c.fA f))))→s'.os=s.os→0 < s'.toks→Q (.ref GO) s') :
    wpAny c.M A (call (.ref (c.fA f)) [x]) Q E s:=by
  refine wpAny_call ?_
  obtain ⟨oc,od,osl,ho⟩:=G.at_
  obtain ⟨as,dd,hp,hn⟩:=G.params
  obtain ⟨rr,hrr,hrun⟩:=dflts_run (v:=fd.defaults) (ds:=[]) (by rw [G.dflts]; rfl) R.kinD
  have B:Binds (argN as) [x] [] [x]:=⟨hn▸List.nodup_cons.mpr ⟨(fun q=>nomatch q),List.nodup_nil⟩,hn▸Nat.le_refl _,Nat.zero_le _,hn▸Nat.le_refl _,by rw [List.drop_nil]; rfl⟩
  refine codeAny_call_generator (Nat.lt_of_le_of_lt (Nat.le_add_right _ _) hr.2.1) (R.kin _ _ ho).1 rfl G.co G.gen G.body (codeRec_of R.kinD G.code) (bindArgs_eq hp B hrr hrun _ _ _ _ ?_)
  rw [G.clo,hn]
  refine wpAny_toks R.pos (wpAny_newFunctionEnv_cells G.kind (fun y hy=>?_) fun env₁ he s₁ hic htk=>?_)
  · cases List.mem_singleton.mp (show y ∈ [(c.nm 0,x)] from hy)
    exact .inl G.plocal
  · have he:env₁=genEnv fd s.heap.objs.size (c.fA f):=he
    subst he
    refine ⟨(O.noLimit R).keeps hic.toInCall.keep,?_⟩
    obtain ⟨h',tk,rfl,kk⟩:=hic.done
    have hns:=hic.toInCall.ns
    exact N _ h'.objs.size _ (fun b o e=>Heap.get?_push_of_some _ (kk b o e)) hns.lt (hns.push _) (bindL_in G.plocal (List.nodup_cons.mpr ⟨(fun q=>nomatch q),List.nodup_nil⟩) (.head _)) ⟨_,_,_,Heap.get?_push_size _ rfl,rfl,rfl,rfl⟩ rfl rfl (Nat.succ_pos _)
end
end Mine
end
noncomputable section
open PySem PySem.Calls PyProof.Rows PySem.W
namespace Mine
structure GenM where
  t1:ME
  t2:ME
  t3:ME
  e:ME
inductive Given:St→Mine.V→Mine.V→St→Prop
  | same {σ:St} {v:Mine.V}:Given σ v v σ
  | froz {σ:St} {k:Nat} {ks:List (List Nat)} {vs:List Mine.V}:look σ.hp (.p k)=some (.dict ks vs)→V.nos (.p k) vs=true→k ≠ 99→Given σ (.obj (.p k)) (.dict ks vs) (σ.sb k (.dict ks vs))
inductive GR (C:Ora) (m:GenM):Bool→St→List Mine.V→List Mine.V→St→Prop
  | stop {σ σ₁:St} {dn:List Mine.V}:tst C m.t1 σ=some (false,σ₁)→look σ₁.hp (.p 99)=some (.list dn)→GR C m true σ dn [] σ₁
  | turn {σ σ₁ σ₂ σ':St} {dn l:List Mine.V}:tst C m.t1 σ=some (true,σ₁)→tst C m.t2 σ₁=some (false,σ₂)→GR C m false σ₂ dn l σ'→GR C m true σ dn l σ'
  | next {σ σ₁ σ':St} {dn l:List Mine.V}:tst C m.t3 σ=some (false,σ₁)→GR C m true σ₁ dn l σ'→GR C m false σ dn l σ'
  | give {σ σ₁ σ₂ σ₃ σ':St} {v w:Mine.V} {dn l:List Mine.V}:tst C m.t3 σ=some (true,σ₁)→ev C m.e σ₁=some (v,σ₂)→Given σ₂ v w σ₃→look σ₃.hp (.p 99)=some (.list dn) →
      GR C m false (σ₃.setOb (.p 99) (.list (dn ++ [w]))) (dn ++ [w]) l σ'→GR C m false σ dn (w :: l) σ'
section
variable {c:Cx} {r:Nat} {eg:Env} {A:Around} {σ σ' σ₁:St} {g g₁:Gh} {s s' s₁ s₂:Shared}
structure GInv (c:Cx) (eg:Env) (X0:Addr→Prop) (r0 r9:Addr) (σ:St) (g:Gh) (s:Shared):Prop where
  rel:Rel c eg g σ s
  X:g.X=X0
  r0:g.rho (.t 0)=some r0
  r9:g.rho (.p 99)=some r9
noncomputable def Kp (X0:Addr→Prop) (s₀ s₁:Shared):Prop:=(∀ a o,X0 a→s₀.heap.get? a=some o→s₁.heap.get? a=some o)∧gos s₁=gos s₀
theorem Kp.trans {X0:Addr→Prop} (x:Kp X0 s s₁) (y:Kp X0 s₁ s₂):Kp X0 s s₂:=⟨fun a o h e=>y.1 a o h (x.1 a o h e),y.2.trans x.2⟩
theorem Kp.refl {X0:Addr→Prop}:Kp X0 s s:=⟨fun _ _ _ e=>e,rfl⟩
theorem GInv.ext {X0:Addr→Prop} {r0 r9:Addr} (I:GInv c eg X0 r0 r9 σ g s) (hX:∀ a,X0 a→¬ FA eg a) (R:Rel c eg g₁ σ₁ s₁) (x:Ext eg g g₁ s s₁):GInv c eg X0 r0 r9 σ₁ g₁ s₁∧Kp X0 s s₁:=
  ⟨⟨R,x.X.trans I.X,x.rho I.r0,x.rho I.r9⟩,fun a o h e=>(x.fz a o e (fun w=>(I.rel.dis a w).1 (I.X▸h)) (hX a h)).1,x.gens⟩
noncomputable def genY (c:Cx) (eg:Env) (X0:Addr→Prop) (r0 r9:Addr) (tot:List Mine.V):Protocol:=fun n s₀ v s₁ kap =>
  ∃ g σ w dn rest,GInv c eg X0 r0 r9 σ g s₁∧look σ.hp (.p 99)=some (.list dn)∧tot=dn ++ w :: rest∧rest.length=n∧VR c (Fz eg g s₁.heap) g.rho w v∧Kp X0 s₀ s₁ ∧
    ∀ g' s'',GInv c eg X0 r0 r9 (σ.setOb (.p 99) (.list (dn ++ [w]))) g' s''→kap (.send .none) s''
noncomputable def genP (c:Cx) (eg:Env) (X0:Addr→Prop) (r0 r9:Addr) (tot:List Mine.V) (σe:St):Nat→Shared→Shared→Prop:=fun _ s₀ s₁ =>
  ∃ g,GInv c eg X0 r0 r9 σe g s₁∧Kp X0 s₀ s₁∧look σe.hp (.p 99)=some (.list tot)
noncomputable abbrev genR (c:Cx) (eg:Env) (X0:Addr→Prop) (r0 r9:Addr) (tot:List Mine.V) (σe:St):GenEnd:=fun n s₀ r s₁=>r=.ok (.ret .none)∧genP c eg X0 r0 r9 tot σe n s₀ s₁
theorem seg_test {R:GenEnd} {Y:Protocol} {n:Nat} {s₀:Shared} {fs:List Frame} {t:Expr} {b o:List Stmt} {mt:ME} {C:Ora} {q:Bool} {X0:Addr→Prop} {r0 r9:Addr} (hr:Room (A.over (.whileLoop t b o eg) fs) r) (H:TstOk c r eg t (tst C mt)) (hf:tst C mt σ=some (q,σ₁))
    (I:GInv c eg X0 r0 r9 σ g s) (hX:∀ a,X0 a→¬ FA eg a)
    (N:∀ g₁ s₁,GInv c eg X0 r0 r9 σ₁ g₁ s₁→Kp X0 s s₁→if q=true then
          Seg c.M A R Y n s₀ (.whileLoop t b o eg) ((execs b eg).wrap (fun f=>match f with
            | .next | .cont=>.pure (.again (.whileLoop t b o eg))
            | .brk=>.pure (.done .next)
            | .ret v=>.pure (.done (.ret v))) (fun e=>(do noteFrame e eg; theTreesLotGoes e:Sem Unit).wrap (fun _=>.raise e) .raise id id) id id) fs s₁
        else Seg c.M A R Y n s₀ (.whileLoop t b o eg) ((execs o eg).wrap (fun f=>.pure (.done f)) (fun e=>(do noteFrame e eg; theTreesLotGoes e:Sem Unit).wrap (fun _=>.raise e) .raise id id) id id) fs s₁) :
    Seg c.M A R Y n s₀ (.whileLoop t b o eg) (c.M.den (.whileLoop t b o eg)) fs s:=by
  refine seg_whileLoop (H hr hf I.rel fun s₁ g₁ R₁ E₁=>?_)
  obtain ⟨I₁,K₁⟩:=I.ext hX R₁ E₁
  exact N g₁ s₁ I₁ K₁

noncomputable abbrev loopB (t2 t3 ye:Expr) (b2:List Stmt) (p2 p3 yp ep:Pos):List Stmt:=[.While t2 b2 [] p2,.While t3 [.Expr (.Yield (some ye) yp) ep] [] p3]
theorem GInv.given {X0:Addr→Prop} {r0 r9:Addr} {v w:Mine.V} {x:Value} (I:GInv c eg X0 r0 r9 σ g s) (hg:Given σ v w σ') (hv:VR c (Fz eg g s.heap) g.rho v x) :
    ∃ g',GInv c eg X0 r0 r9 σ' g' s∧VR c (Fz eg g' s.heap) g'.rho w x:=by
  cases hg with
  | same=>exact ⟨g,I,hv⟩
  | froz ho hn hk9 =>
    rename_i k ks vs
    obtain ⟨R',H⟩:=freeze I.rel ho hn
    obtain ⟨a,rfl,ha⟩:=hv.objR
    exact ⟨g.drop (.p k),⟨R',I.X,(congrArg (Option.map Prod.fst) (show (g.drop (.p k)).cs (.t 0)=g.cs (.t 0) from rfl)).trans I.r0,(congrArg (Option.map Prod.fst) (show (g.drop (.p k)).cs (.p 99)=g.cs (.p 99) from if_neg fun q=>hk9 (by cases q; rfl))).trans I.r9⟩,H _ ha⟩
theorem over1 {d f w k r L:Nat} (h:d + k < L) (h2:f + w≤2) (hk:r + 2≤k):d + f + w + r < L:=
  Nat.lt_of_le_of_lt (by rw [Nat.add_assoc d,Nat.add_assoc d]; exact Nat.add_le_add_left (Nat.le_trans (Nat.add_le_add_right h2 r) (Nat.add_comm 2 r▸hk)) d) h
theorem over2 {u f w k r L:Nat} (h:u + 20 * k + 300 < L) (h2:f + w≤20) (hk:r + 2≤k):u + f + w + 20 * r + 300 < L:=
  Nat.lt_of_le_of_lt (Nat.add_le_add_right (by rw [Nat.add_assoc u,Nat.add_assoc u]; exact Nat.add_le_add_left (Nat.le_trans (Nat.add_le_add_right h2 _) (by rw [Nat.add_comm 20,← Nat.mul_succ]; exact Nat.mul_le_mul_left 20 (Nat.le_trans (Nat.le_succ _) hk))) u) 300) h
theorem room_over {c':Code} {fs:List Frame} {k:Nat} (hr:Room A k) (hh:(marksOver fs (A.handled,A.handled)).1=none) (hd:frameCount (fs.map Frame.where_) + c'.weight≤2) (hu:PySem.unitsOf (fs.map Frame.where_) + c'.cUnits≤20) {r:Nat} (hk:r + 2≤k):Room (A.over c' fs) r:=
  ⟨hh,over1 hr.2.1 hd hk,over2 hr.2.2 hu hk⟩

theorem seg_gr {C:Ora} {m:GenM} {t1 t2 t3 ye:Expr} {b2:List Stmt} {p2 p3 yp ep:Pos} {X0:Addr→Prop} {r0 r9:Addr} {tot:List Mine.V} {σe:St} (hX:∀ a,X0 a→¬ FA eg a) (hA:Room A (r + 2))
    (H1:TstOk c r eg t1 (tst C m.t1)) (H2:TstOk c r eg t2 (tst C m.t2)) (H3:TstOk c r eg t3 (tst C m.t3)) (H4:EvOk c r eg ye (ev C m.e)) (hco:eg.scope.isCoroutine=false) (hi:interactive eg=false)
    {cF:Code} {k1:Result→Sem Fin} {l1:List Value} {p1:Pos} (hw:cF.weight=1) (hu:cF.cUnits=3)
    (hk1:∀ n s₀ s,genR c eg X0 r0 r9 tot σe n s₀ (.ok (.ret .none)) s→Seg c.M A (genR c eg X0 r0 r9 tot σe) (genY c eg X0 r0 r9 tot) n s₀ cF (k1 (.ok .next)) [] s)
    {ph:Bool} {dn l:List Mine.V} (G:GR C m ph σ dn l σe):tot=dn ++ l→∀ (g:Gh) (s s₀:Shared),GInv c eg X0 r0 r9 σ g s→Kp X0 s₀ s→match ph with
    | true=>Seg c.M A (genR c eg X0 r0 r9 tot σe) (genY c eg X0 r0 r9 tot) l.length s₀ (.whileLoop t1 (loopB t2 t3 ye b2 p2 p3 yp ep) [] eg) (c.M.den (.whileLoop t1 (loopB t2 t3 ye b2 p2 p3 yp ep) [] eg)) [.ret k1 none false l1 cF p1 []] s
    | false=>∀ (k3:Result→Sem Fin) (l3:List Value) (p':Pos),(∀ n s₀ s,Seg c.M A (genR c eg X0 r0 r9 tot σe) (genY c eg X0 r0 r9 tot) n s₀ (.whileLoop t1 (loopB t2 t3 ye b2 p2 p3 yp ep) [] eg) (.pure (.again (.whileLoop t1 (loopB t2 t3 ye b2 p2 p3 yp ep) [] eg))) [.ret k1 none false l1 cF p1 []] s →
          Seg c.M A (genR c eg X0 r0 r9 tot σe) (genY c eg X0 r0 r9 tot) n s₀ (.whileLoop t1 (loopB t2 t3 ye b2 p2 p3 yp ep) [] eg) (k3 (.ok .next)) [.ret k1 none false l1 cF p1 []] s) →
        Seg c.M A (genR c eg X0 r0 r9 tot σe) (genY c eg X0 r0 r9 tot) l.length s₀ (.whileLoop t3 [.Expr (.Yield (some ye) yp) ep] [] eg) (c.M.den (.whileLoop t3 [.Expr (.Yield (some ye) yp) ep] [] eg))
          [.ret k3 none false l3 (.whileLoop t1 (loopB t2 t3 ye b2 p2 p3 yp ep) [] eg) p' [],.ret k1 none false l1 cF p1 []] s:=by
  have hO:∀ t b,(Code.whileLoop t b [] eg).weight=0:=fun _ _=>rfl
  have hOu:∀ t b,(Code.whileLoop t b [] eg).cUnits=0:=fun _ _=>rfl
  have hroom1:∀ t b,Room (A.over (.whileLoop t b [] eg) [.ret k1 none false l1 cF p1 []]) r:=fun t b=>room_over hA (by simp [marksOver,Frame.marks,markOver,hA.1]) (by simp only [List.map_cons,List.map_nil,Frame.where_,frameCount_cons,hw,hO]; exact Nat.le_succ 1) (by simp only [List.map_cons,List.map_nil,Frame.where_,unitsOf_cons,hu,hOu]; exact (by decide:3 + 0 + 0≤20)) (Nat.le_refl _)
  have hroom2:∀ t b t' b' k3 l3 p',Room (A.over (.whileLoop t b [] eg) [.ret k3 none false l3 (.whileLoop t' b' [] eg) p' [],.ret k1 none false l1 cF p1 []]) r:=fun t b t' b' k3 l3 p'=>room_over hA (by simp [marksOver,Frame.marks,markOver,hA.1]) (by simp only [List.map_cons,List.map_nil,Frame.where_,frameCount_cons,hw,hO]; exact Nat.le_succ 1) (by simp only [List.map_cons,List.map_nil,Frame.where_,unitsOf_cons,hu,hOu]; exact (by decide:0 + (3 + 0) + 0≤20)) (Nat.le_refl _)
  induction G with
  | stop h1 hd =>
    intro ht g s s₀ I K
    refine seg_test (hroom1 _ _) H1 h1 I hX fun g₁ s₁ I₁ K₁=>?_
    rw [if_neg Bool.false_ne_true]
    refine seg_execs_nil ?_
    refine seg_leaf (.ok .next) (hk1 _ _ _ ⟨rfl,g₁,I₁,K.trans K₁,?_⟩)
    rw [List.append_nil] at ht
    rw [ht]; exact hd
  | turn h1 h2 _ ih =>
    intro ht g s s₀ I K
    refine seg_test (hroom1 _ _) H1 h1 I hX fun g₁ s₁ I₁ K₁=>?_
    rw [if_pos rfl]
    refine seg_execs_cons (seg_While fun p=>?_)
    refine seg_test (hroom2 _ _ _ _ _ _ _) H2 h2 I₁ hX fun g₂ s₂ I₂ K₂=>?_
    rw [if_neg Bool.false_ne_true]
    refine seg_execs_nil ?_
    refine seg_leaf (.ok .next) ?_
    show Seg _ _ _ _ _ _ _ ((execs [.While t3 [.Expr (.Yield (some ye) yp) ep] [] p3] eg).wrap _ _ id id) _ s₂
    refine seg_execs_cons (seg_While fun p'=>?_)
    exact ih hk1 ht g₂ s₂ s₀ I₂ (K.trans (K₁.trans K₂)) _ _ p' fun n s₀ s h=>h
  | next h1 _ ih =>
    intro ht g s s₀ I K k3 l3 p' hk3
    refine seg_test (hroom2 _ _ _ _ _ _ _) H3 h1 I hX fun g₁ s₁ I₁ K₁=>?_
    rw [if_neg Bool.false_ne_true]
    refine seg_execs_nil ?_
    refine seg_leaf (.ok .next) (hk3 _ _ _ (seg_again rfl ?_))
    exact ih hk1 ht g₁ s₁ s₀ I₁ (K.trans K₁)
  | give h1 h2 hg hd _ ih =>
    rename_i σ σ₁ σ₂ σ₃ σ' v w dn l _
    intro ht g s s₀ I K k3 l3 p' hk3
    refine seg_test (hroom2 _ _ _ _ _ _ _) H3 h1 I hX fun g₁ s₁ I₁ K₁=>?_
    rw [if_pos rfl]
    refine seg_execs_cons ?_
    refine seg_Expr_Yield rfl rfl rfl (H4 (hroom2 _ _ _ _ _ _ _) h2 I₁.rel fun x s₂ g₂ R₂ X₂ E₂ kap hkap=>?_) hco hi
    obtain ⟨I₂,K₂⟩:=I₁.ext hX R₂ E₂
    obtain ⟨g₃,I₃,X₃⟩:=I₂.given hg X₂
    refine ⟨g₃,σ₃,w,dn,l,I₃,hd,ht,rfl,X₃,K.trans (K₁.trans K₂),fun g' s'' I''=>hkap .none s'' ?_⟩
    show Seg _ _ _ _ _ _ _ _ _ _
    refine seg_execs_nil ?_
    refine seg_again rfl ?_
    exact ih hk1 (by rw [ht]; simp) g' s'' s'' I'' .refl k3 l3 p' hk3

theorem seg_start {C:Ora} {m:GenM} {m0:MS} {S0:Stmt} {t1 t2 t3 ye:Expr} {b2:List Stmt} {p1 p2 p3 yp ep:Pos} {X0:Addr→Prop} {r0 r9:Addr} {tot:List Mine.V} {σe:St} (hX:∀ a,X0 a→¬ FA eg a) (hA:Room A (r + 2))
    (H0:ExOk c r eg S0 (exc C m0)) (H1:TstOk c r eg t1 (tst C m.t1)) (H2:TstOk c r eg t2 (tst C m.t2)) (H3:TstOk c r eg t3 (tst C m.t3)) (H4:EvOk c r eg ye (ev C m.e)) (hco:eg.scope.isCoroutine=false) (hi:interactive eg=false)
    (h0:exc C m0 σ=some (.next,σ₁)) (G:GR C m true σ₁ [] tot σe) (I:GInv c eg X0 r0 r9 σ g s) :
    Seg c.M A (genR c eg X0 r0 r9 tot σe) (genY c eg X0 r0 r9 tot) tot.length s (.func [S0,.While t1 (loopB t2 t3 ye b2 p2 p3 yp ep) [] p1] eg) (c.M.den (.func [S0,.While t1 (loopB t2 t3 ye b2 p2 p3 yp ep) [] p1] eg)) [] s:=by
  refine seg_func (seg_execs_cons (seg_wrap ?_))
  have hroom:Room (A.over (.func [S0,.While t1 (loopB t2 t3 ye b2 p2 p3 yp ep) [] p1] eg) []) r:=room_over hA (by simp [marksOver,hA.1]) (by show 0 + (Code.func _ eg).weight≤2; exact Nat.le_succ 1) (by show 0 + (Code.func _ eg).cUnits≤20; exact (by decide:0 + 3≤20)) (Nat.le_refl _)
  refine H0 hroom h0 I.rel fun w s₁ g₁ R₁ X₁ E₁=>?_
  obtain ⟨I₁,K₁⟩:=I.ext hX R₁ E₁
  cases X₁
  · refine seg_execs_cons (seg_While fun p=>?_)
    exact seg_gr hX hA H1 H2 H3 H4 hco hi rfl rfl (fun n s₀ s h=>seg_execs_nil (env:=eg) (seg_end (.ok (.ret .none)) h)) G rfl g₁ s₁ s I₁ K₁
end
end Mine
end
noncomputable section
open PySem PySem.Calls PyProof.Rows PySem.W
namespace Mine
section
variable {c:Cx} {r:Nat} {env env' eg:Env} {A:Around} {σ σ' σ₁:St} {g g' g₁:Gh} {s s' s₁ s₂:Shared} {E:Value→Shared→Prop} {v w:Mine.V} {i:Id}
theorem Rel.view (R:Rel c env g σ s) (hV:∀ a,(g'.X a∨FA env' a) ↔ (g.X a∨FA env a)) (hW:g'.W=g.W) (hc:g'.cs=g.cs) {l:List (Nat × Mine.V)} {m:Str→Option Value} (hn:s.heap.Ns env'.locals m) (hl:LocR c env' (Mine.Fz env' g' s.heap) g'.rho l m):Rel c env' g' { σ with loc:=l } s:=by
  have kr:∀ i a,g.rho i=some a→g'.rho i=some a:=fun i a z=>by unfold Gh.rho at z ⊢; rw [hc]; exact z
  have kF:∀ a o,Mine.Fz env g s.heap a o→Mine.Fz env' g' s.heap a o:=fun a o z=>⟨z.1,hW▸z.2.1,fun q=>((hV a).mp (.inl q)).elim z.2.2.1 z.2.2.2,fun q=>((hV a).mp (.inr q)).elim z.2.2.1 z.2.2.2⟩
  have hx:∀ a,(g.X a∨FA env a)→∃ o,s.heap.get? a=some o:=fun a q=>q.elim (R.xob a) (R.fob a)
  have hd:∀ a,g'.W a→¬ (g.X a∨FA env a):=fun a w q=>q.elim (R.dis a (hW▸w)).1 (R.dis a (hW▸w)).2
  exact ⟨⟨fun a o e=>kF _ _ (R.kin a o e),fun a w=>R.wob a (hW▸w),fun a q=>hx a ((hV a).mp (.inl q)),fun a q=>hx a ((hV a).mp (.inr q)),fun a w=>⟨fun q=>hd a w ((hV a).mp (.inl q)),fun q=>hd a w ((hV a).mp (.inr q))⟩,⟨m,hn,hl⟩,
    fun id ob e=>(R.obs id ob e).imp fun _=>Exists.imp fun _ z=>⟨hc▸z.1,z.2.mono kF kr fun _ z=>z⟩,fun id r o e=>hW▸R.cW id r o (hc▸e),fun id id' r o r' e e'=>R.inj id id' r o r' (hc▸e) (hc▸e'),fun k e=>hc▸R.nx k e,fun k e=>hc▸R.ps k e⟩,R.pos⟩
end
end Mine
end
noncomputable section
open PySem PySem.Calls PyProof.Rows PySem.W
namespace Mine
section
variable {c:Cx} {r:Nat} {env env' eg cenv:Env} {A:Around} {σ σ' σ₁:St} {g g' g₁:Gh} {s s' s₁ s₂ s₄:Shared} {E:Value→Shared→Prop} {v w:Mine.V} {i:Id}
structure Kpp (X0:Addr→Prop) (K:Addr) (gi:Nat) (s s':Shared):Prop where
  keep:∀ a o,X0 a→a ≠ K→s.heap.get? a=some o→s'.heap.get? a=some o
  ns:∃ mm,s'.heap.Ns K mm
  os:s'.os=s.os
  bare:∀ j y,j ≠ gi→s'.gens[j]?=some y→y.bare=true
theorem GInv.toksGens {X0:Addr→Prop} {r0 r9:Addr} (I:GInv c eg X0 r0 r9 σ g s) (h:s'.heap=s.heap) (ht:s'.toks=s.toks):GInv c eg X0 r0 r9 σ g s':=
  ⟨⟨h▸I.rel.toRel0,ht▸I.rel.pos⟩,I.X,I.r0,I.r9⟩
theorem set_bare {gs:Array GenState} {gi:Nat} {x:GenState} (h:∀ j y,j ≠ gi→gs[j]?=some y→y.bare=true):∀ j y,j ≠ gi→(gs.setIfInBounds gi x)[j]?=some y→y.bare=true:=fun j y hj e =>
  h j y hj ((Array.getElem?_setIfInBounds_ne (fun q=>hj q.symm)).symm.trans e)
theorem set_size {gs gs':Array GenState} {gi:Nat} {x y:GenState} (h:gs'=gs.setIfInBounds gi y) (hlt:gi < gs.size):(gs'.setIfInBounds gi x)[gi]?=some x:=
  Array.getElem?_setIfInBounds_self_of_lt (by rw [h,Array.size_setIfInBounds]; exact hlt)
theorem cat_le {tot dn l:List Mine.V} (h:tot=dn ++ l) (hl:tot.length < maxLen):dn.length≤sizeLine:=
  Nat.le_trans (by rw [h,List.length_append]; exact Nat.le_add_right _ _:dn.length≤tot.length) (Nat.le_trans (Nat.le_of_lt hl) (by rw [sizeLine_eq]; exact Nat.le_refl _))
theorem gather {X0:Addr→Prop} {r0 L:Addr} {dn:List Mine.V} {v:Value} {Q:Value→Shared→Prop} (I:GInv c eg X0 r0 L σ g s) (hd:look σ.hp (.p 99)=some (.list dn)) (hv:VR c (Mine.Fz eg g s.heap) g.rho w v) (hb:dn.length≤sizeLine)
    (N:∀ h₃,(∀ a o,X0 a→s.heap.get? a=some o→h₃.get? a=some o)→GInv c eg X0 r0 L (σ.setOb (.p 99) (.list (dn ++ [w]))) g { s with heap:=h₃ }→Q .none { s with heap:=h₃ }):wpAny c.M A (call (.builtin "list.append") [.ref L,v]) Q E s:=by
  obtain ⟨items,n,hcs,hi,hvs⟩:=liveList I.rel hd I.r9
  refine wpAny_list_append_plain (items:=items) ⟨n,hi⟩ (fun h₃ hl₃ hs₃=>?_) (by rw [size_of hvs]; exact hb)
  obtain ⟨n',hl₃⟩:=hl₃
  have hk:∀ b p,¬ b=L→s.heap.get? b=some p→h₃.get? b=some p:=fun b p hb e=>(hs₃.2 b hb).trans e
  have hW:=I.rel.cW _ _ _ hcs
  exact N h₃ (fun a o ha=>hk a o fun e=>(I.rel.dis L hW).1 (by rw [I.X]; exact e▸ha)) ⟨⟨I.rel.toRel0.setOb hcs (.of hk fun e=>(I.rel.dis L hW).2 e.symm) ⟨_,hl₃⟩ fun kF=>⟨rfl,_,n',hl₃,by rw [Array.toList_push]; exact (hvs.mono kF fun _ _ z=>z).append (.cons (hv.mono kF fun _ _ z=>z) .nil)⟩,I.rel.pos⟩,I.X,I.r0,I.r9⟩
inductive GLI (c:Cx) (eg:Env) (A:Around) (X0:Addr→Prop) (r0 L K gi:Nat) (tot:List Mine.V) (σe:St) (s₄:Shared) (n:Nat) (s:Shared):Prop
  | mk (g:Gh) (σ:St) (dn rest:List Mine.V) (gs:GenState) (hn:n=rest.length + 1) (I:GInv c eg X0 r0 L σ g s) (hd:look σ.hp (.p 99)=some (.list dn)) (K:Kpp X0 K gi s₄ s) (hg:s.gens[gi]?=some gs)
      (go:∀ g'' s'',GInv c eg X0 r0 L σ g'' s''→gs.Goes c.M A.in1 (genR c eg X0 r0 L tot σe) (genY c eg X0 r0 L tot) rest.length (.send .none) s'')
theorem gen_loop {x:Nat} {ep px:Pos} {it:Expr} {scope:Scope} {pos:Pos} {X0:Addr→Prop} {r0 L K GO gi:Nat} {tot:List Mine.V} {σe:St} {Post:Result→Shared→Prop} (O:c.Ok) (VV:EnvOk cenv) (hK:cenv.locals=K) (hkx:cenv.kindOf (c.nm x)=some .local)
    (hh:A.handled=none) (hd:A.depth < recursionLimit) (hX:∀ a,X0 a→¬ FA eg a) (hXK:X0 K) (hXG:X0 GO) (hGK:GO ≠ K) (htot:tot.length < maxLen)
    (hGen:s₄.heap.IsGen GO gi)
    (fin:∀ g' s',GInv c eg X0 r0 L σe g' s'→look σe.hp (.p 99)=some (.list tot)→Kpp X0 K gi s₄ s'→AllBare s'.gens→Post (.ok .next) s')
    (I0:GLI c eg A X0 r0 L K gi tot σe s₄ (tot.length + 1) s₄) :
    codeAny c.M A (.compLoop (.ListComp (.Name (c.nm x) ep) [⟨.Name (c.nm x) px,it,[],0⟩] scope pos) 0 (.ref GO) (.ref L) cenv) Post s₄:=by
  refine codeAny_compLoop_tests (I:=GLI c eg A X0 r0 L K gi tot σe s₄) (fun n s I=>?_) (tot.length + 1) I0 (fun _=>rfl)
  cases I with
  | mk g σ dn rest gs hn I hdn hK1 hg1 hgo1 =>
    have hGs:s.heap.IsGen GO gi:=by
      obtain ⟨o,nm,qn,ho,q⟩:=hGen
      exact ⟨o,nm,qn,hK1.keep _ _ hXG hGK ho,q⟩
    have hlt:gi < s.gens.size:=(Array.getElem?_eq_some_iff.mp hg1).1
    obtain ⟨mm,hmm⟩:=hK1.ns
    refine wpAny_pyNext_gen (Y:=genY c eg X0 r0 L tot) (P:=genP c eg X0 r0 L tot σe) (n:=rest.length) hh (O.noLimit I.rel) hd hGs hg1 (hgo1 g _ (I.toksGens rfl rfl)) (fun v s₁ gs' hY=>?_) (fun s₁ hP h' hk'=>?_)
    · obtain ⟨g₁,σ₁,w,dn',rest',I₁,hdn',ht',hrl,hv,hKp,hkap⟩:=hY
      have hkg:s₁.gens=s.gens.setIfInBounds gi .running:=congrArg Prod.fst hKp.2
      have hXg:∀ a,X0 a→g₁.X a:=fun a h=>by rw [I₁.X]; exact h
      have hmm1:(s₁.setGen gi gs').heap.Ns cenv.locals mm:=hK▸hmm.at fun p e=>hKp.1 _ _ hXK e
      -- the name takes the value
      refine wpAny_assign_Name (wpAny_storeName_local hkx hmm1 (fun h₂ hn₂ hs₂=>?_) (by rw [VV.kind]; rfl))
      rw [List.forIn_nil]
      refine wpAny_pure ?_
      rw [if_pos rfl]
      refine wpAny_Name (wpAny_loadName_local VV.kind hkx hn₂ (v:=v) (if_pos rfl) ?_) (O.noDbg x)
      rw [hK] at hn₂ hs₂
      have hk₂:∀ b p,¬ b=K→(s₁.setGen gi gs').heap.get? b=some p→h₂.get? b=some p:=fun b p hb e=>(hs₂.2 b hb).trans e
      have R₂:Rel c eg g₁ σ₁ { s₁.setGen gi gs' with heap:=h₂,toks:=(s₁.setGen gi gs').toks + 1 }:=(I₁.toksGens (s':=s₁.setGen gi gs') rfl rfl).rel.changed (D:=(·=K)) (fun a e=>hXg a (e▸hXK)) hk₂ (fun a e=>let ⟨oK,_,_,h,_⟩:=hn₂; ⟨oK,e▸h⟩) (fun a e=>e▸hX K hXK) (Nat.succ_pos _)
      refine gather ⟨R₂,I₁.X,I₁.r0,I₁.r9⟩ hdn' (hv.mono (fun a o z=>⟨hk₂ _ _ (fun q=>z.2.2.1 (q▸hXg K hXK)) z.1,z.2⟩) fun _ _ z=>z) (cat_le ht' htot) fun h₃ hk₃ I₃=>?_
      cases rest with
      | nil=>exact (hkap g₁ _ I₃).elim
      | cons w0 r0' =>
        exact ⟨rest'.length + 1,by rw [hn,hrl]; exact Nat.lt_succ_self _,.mk g₁ _ (dn' ++ [w]) rest' gs' rfl I₃ ((look_put _ _ _ _).trans (if_pos rfl))
          ⟨fun a o ha hne e=>hk₃ _ _ ha (hk₂ _ _ hne (hKp.1 _ _ ha (hK1.keep _ _ ha hne e))),⟨_,hn₂.at fun p e=>hk₃ _ _ hXK e⟩,(congrArg Prod.snd hKp.2).trans hK1.os,set_bare (gs:=s₁.gens) (hkg▸set_bare hK1.bare)⟩ (set_size hkg hlt)
          fun g'' s'' I''=>hrl.symm▸hkap g'' s'' I''⟩
    · obtain ⟨g₁,I₁,hKp,h9⟩:=hP
      have hkg:s₁.gens=s.gens.setIfInBounds gi .running:=congrArg Prod.fst hKp.2
      have hbr:∀ j y,j ≠ gi→(s₁.gens.setIfInBounds gi .finished)[j]?=some y→y.bare=true:=set_bare (hkg▸set_bare hK1.bare)
      refine fin g₁ _ ⟨I₁.rel.grow hk' I₁.rel.pos,I₁.X,I₁.r0,I₁.r9⟩ h9 ⟨fun a o ha hne e=>hk' _ _ (hKp.1 _ _ ha (hK1.keep _ _ ha hne e)),⟨mm,hmm.at fun p e=>hk' _ _ (hKp.1 _ _ hXK e)⟩,(congrArg Prod.snd hKp.2).trans hK1.os,hbr⟩ fun y hy=>?_
      obtain ⟨j,hj⟩:=Array.getElem?_of_mem hy
      by_cases hji:j=gi
      · subst hji
        cases (set_size (x:=.finished) hkg hlt).symm.trans hj; rfl
      · exact hbr j y hji hj
end
end Mine
end
noncomputable section
open PySem PySem.Calls PyProof.Rows PySem.W
namespace Mine
noncomputable def gX1 (g:Gh) (GL GO L:Addr):Addr→Prop:=fun b=>g.X b∨b=GL∨b=GO∨b=L + 1
noncomputable def gX0 (g:Gh) (el GO L:Addr):Addr→Prop:=fun b=>g.X b∨b=GO∨b=L + 1∨b=el
theorem perm4 {p q r s t:Prop}:((p∨q∨r∨s)∨t) ↔ ((p∨t∨q∨r)∨s):=
  ⟨fun h=>h.elim (fun h=>h.elim (fun h=>.inl (.inl h)) fun h=>h.elim (fun h=>.inl (.inr (.inr (.inl h)))) fun h=>h.elim (fun h=>.inl (.inr (.inr (.inr h)))) .inr) fun h=>.inl (.inr (.inl h)),
    fun h=>h.elim (fun h=>h.elim (fun h=>.inl (.inl h)) fun h=>h.elim .inr fun h=>h.elim (fun h=>.inl (.inr (.inl h))) fun h=>.inl (.inr (.inr (.inl h)))) fun h=>.inl (.inr (.inr (.inr h)))⟩
section
variable {c:Cx} {r:Nat} {env env' eg cenv:Env} {A:Around} {σ σ' σ₁ σG σe:St} {g g' g₁:Gh} {s s' s₁ s₂:Shared} {E:Value→Shared→Prop} {Q:Flow→Shared→Prop} {v w:Mine.V} {i:Id} {GL GO L a:Addr} {mG:Str→Option Value}
structure GCells (c:Cx) (env:Env) (g:Gh) (σ:St) (s:Shared) (GL GO L:Addr) (mG:Str→Option Value) (s':Shared):Prop where
  R:Rel c env g σ s
  kk:∀ b p,s.heap.get? b=some p→s'.heap.get? b=some p
  hGL:GL=s.heap.objs.size
  hGO:GL < GO
  hL:GO < L
  oGL:s'.heap.Ns GL mG
  oGO:∃ o,s'.heap.get? GO=some o
  oL:IsL s'.heap L #[] 0
  oK:∃ o,s'.heap.get? (L + 1)=some o
  pos:0 < s'.toks
theorem GCells.lt (G:GCells c env g σ s GL GO L mG s') {b:Addr} {p:Obj} (e:s.heap.get? b=some p):b < GL:=G.hGL▸Heap.lt_size e
theorem GCells.xlt (G:GCells c env g σ s GL GO L mG s') {b:Addr} (h:g.X b):b < GL:=let ⟨_,e⟩:=G.R.xob b h; G.lt e
theorem GCells.elt (G:GCells c env g σ s GL GO L mG s'):env.locals < GL:=let ⟨_,e⟩:=G.R.fob _ rfl; G.lt e
theorem GCells.nEg (G:GCells c env g σ s GL GO L mG s') (h:eg.locals=GL) (b:Addr) (hb:gX0 g env.locals GO L b):¬ FA eg b:=fun q=>by
  cases (show b=GL from Eq.trans q h)
  exact hb.elim (fun h=>Nat.lt_irrefl _ (G.xlt h)) fun hb=>hb.elim (Nat.ne_of_lt G.hGO) fun hb=>hb.elim (Nat.ne_of_lt (Nat.lt_succ_of_lt (Nat.lt_trans G.hGO G.hL))) (Nat.ne_of_gt G.elt)
noncomputable abbrev gG (g:Gh) (el GO L:Addr):Gh:={ (g.add (.p 99) L L) with X:=gX0 g el GO L }
theorem gen_in (G:GCells c env g σ s GL GO L mG s') (hnop:99 ∉ σ.ps) (hself:∃ x,mG (c.nm 0)=some x∧VR c (Mine.Fz env g s.heap) g.rho (.obj (.t 0)) x) (ha:g.rho (.t 0)=some a) (hl:eg.locals=GL) (hk0:eg.kindOf (c.nm 0)=some .local)
    (hσG:σG.loc=[(0,.obj (.t 0))]∧(∀ i o,look σG.hp i=some o→look ((Id.p 99,Ob.list []) :: σ.hp) i=some o)∧σ.nx≤σG.nx∧∀ k,k ∈ 99 :: σ.ps→k ∈ σG.ps):GInv c eg (gX0 g env.locals GO L) a L σG (gG g env.locals GO L) s':=by
  have hGLL:=Nat.lt_trans G.hGO G.hL
  have RH:Rel c env (g.hid fun b=>b=GL∨b=GO∨b=L∨b=L + 1) σ s':=G.R.hide G.kk (fun b d=>by
      rw [← G.hGL]
      exact d.elim (fun d=>Nat.le_of_eq d.symm) fun d=>d.elim (fun d=>Nat.le_of_lt (d▸G.hGO)) fun d=>d.elim (fun d=>Nat.le_of_lt (d▸hGLL)) fun d=>Nat.le_of_lt (d▸Nat.lt_succ_of_lt hGLL))
    (fun b d=>d.elim (fun d=>let ⟨o,_,_,ho,_⟩:=G.oGL; ⟨o,d▸ho⟩) fun d=>d.elim (fun d=>d▸G.oGO) fun d=>d.elim (fun d=>⟨_,d▸G.oL⟩) fun d=>d▸G.oK) G.pos
  have RL:Rel0 c env (({ g with X:=gX1 g GL GO L }:Gh).add (.p 99) L L) { σ with hp:=(.p 99,.list []) :: σ.hp,ps:=99 :: σ.ps } s'.heap:=
    Rel0.live (ob:=.list []) (X:=gX1 g GL GO L) RH.toRel0 (fun b h=>h.elim .inl fun h=>.inr (h.elim .inl fun h=>.inr (h.elim .inl fun h=>.inr (.inr h)))) (.inr (.inr (.inr (.inl rfl))))
      (fun h=>h.elim (fun h=>Nat.lt_asymm (G.xlt h) hGLL) fun h=>h.elim (Nat.ne_of_gt hGLL) fun h=>h.elim (Nat.ne_of_gt G.hL) fun h=>Nat.ne_of_lt (Nat.lt_succ_self L) h) (fun h=>Nat.lt_asymm (show L < GL from (show L=env.locals from h)▸G.elt) hGLL)
      (G.R.ps 99 hnop) (fun kF kr=>⟨rfl,#[],0,G.oL,.nil⟩) ⟨rfl,rfl,Nat.le_refl _,fun k hk=>.tail _ hk,.head _⟩
  have r0:(gG g env.locals GO L).rho (.t 0)=some a:=(congrArg (Option.map Prod.fst) (show (g.add (.p 99) L L).cs (.t 0)=g.cs (.t 0) from rfl)).trans ha
  have RV:Rel c eg (gG g env.locals GO L) { ({ σ with hp:=(.p 99,.list []) :: σ.hp,ps:=99 :: σ.ps }:St) with loc:=[(0,.obj (.t 0))] } s':=
    Rel.view (g':=gG g env.locals GO L) (l:=[(0,.obj (.t 0))]) (⟨RL,G.pos⟩:Rel c env (({ g with X:=gX1 g GL GO L }:Gh).add (.p 99) L L) _ s') (fun b=>by
      show (gX0 g env.locals GO L b∨b=eg.locals) ↔ (gX1 g GL GO L b∨b=env.locals)
      rw [hl]; exact perm4) rfl rfl (hl▸G.oGL) fun i v e=>by
        by_cases e0:0=i
        · cases (if_pos e0).symm.trans e
          subst e0
          obtain ⟨x,hx,hr⟩:=hself
          obtain ⟨b,rfl,hb⟩:=hr.objR
          cases hb.symm.trans ha
          exact ⟨fun _=>⟨_,hx,.obj r0⟩,fun z=>nomatch hk0.symm.trans z⟩
        · exact nn ((if_neg e0).symm.trans e)
  exact ⟨RV.sub (fun i v e=>by rw [hσG.1] at e; exact e) hσG.2.1 hσG.2.2.1 hσG.2.2.2,rfl,r0,Gh.add_rho (g:={ g with X:=gX0 g env.locals GO L })⟩
theorem gen_out (O:c.Ok) (VV:EnvOk env) {n:Nat} {np:Pos} {tot:List Mine.V} {loc':List (Nat × Mine.V)} {mm:Str→Option Value} (G:GCells c env g σ s GL GO L mG s₁) (ha:g.rho (.t 0)=some a) (hl:eg.locals=GL) (hk:env.kindOf (c.nm n)=some .local) (I:GInv c eg (gX0 g env.locals GO L) a L σe g' s')
    (h9:look σe.hp (.p 99)=some (.list tot)) (hnos:V.nos (.p 99) tot=true) (hkp:∀ p,s.heap.get? env.locals=some p→s'.heap.get? env.locals=some p) (hmm:s'.heap.Ns (L + 1) mm)
    (hloc':∀ i v,look loc' i=some v→look σ.loc i=some v∧env.kindOf (c.nm i)=some .local∧(v=.obj (.t 0)∨∃ z,v=.str z))
    (N:∀ s'' g',gos s''=gos s'→Rel c env g' (({ σe with loc:=loc' }:St).sb 99 (.list tot) |>.setLoc n (.list tot)) s''→Q .next s'') :
    compPost c.M A E (some (assign (.Name (c.nm n) np) env)) (fun _ s'=>Q .next s') (.ref L) (L + 1) (.ok .next) s':=by
  obtain ⟨mloc,hmloc,hll⟩:=G.R.loc
  have RE:Rel c env { g' with X:=gX1 g GL GO L } { σe with loc:=loc' } s':=I.rel.view (g':={ g' with X:=gX1 g GL GO L }) (fun b=>by
      rw [I.X]
      show (gX1 g GL GO L b∨b=env.locals) ↔ (gX0 g env.locals GO L b∨b=eg.locals)
      rw [hl]; exact perm4.symm) rfl rfl (hmloc.at fun p e=>hkp p e) fun i v e=>by
    obtain ⟨e1,e2,e3⟩:=hloc' i v e
    obtain ⟨y,hy,hyr⟩:=(hll i v e1).1 e2
    refine ⟨fun _=>⟨y,hy,?_⟩,fun z=>nomatch e2.symm.trans z⟩
    rcases e3 with rfl | ⟨z,rfl⟩
    · obtain ⟨b,rfl,hb⟩:=hyr.objR
      cases hb.symm.trans ha
      exact .obj I.r0
    · exact hyr.strE fun t=>.str _ t
  obtain ⟨R',HL⟩:=freezeL RE (by exact h9) hnos
  have hK:gX1 g GL GO L (L + 1):=.inr (.inr (.inr rfl))
  have hGLL:=Nat.lt_trans G.hGO G.hL
  have hnK:¬ FA env (L + 1):=fun q=>Nat.lt_asymm (Nat.lt_succ_of_lt hGLL) (show L + 1 < GL from (show L + 1=env.locals from q)▸G.elt)
  show wpAny _ _ (assign (.Name (c.nm n) np) env (.ref L)) _ _ _
  refine wpAny_assign_Name (store_ok O VV hk R' (HL L I.r9) fun s'' R'' E''=>⟨mm,hmm.at fun p e=>(E''.fz _ _ e (fun w=>(R'.dis _ w).1 hK) hnK).1,fun h' hs'=>?_⟩)
  have hkd:∀ b p,¬ b=L + 1→s''.heap.get? b=some p→h'.get? b=some p:=fun b p hb e=>(hs'.2 b hb).trans e
  exact N _ _ E''.gens (R''.drop (D:=(·=L + 1)) (X:=fun b=>g.X b∨b=GL∨b=GO) (s':={ s'' with heap:=h' }) (fun b h=>h.elim .inl fun h=>.inr (h.elim .inl fun h=>.inr (.inl h))) (fun b h=>h▸hK)
    (fun b h q=>h.elim (fun h=>Nat.lt_asymm (show L + 1 < GL from q▸G.xlt h) (Nat.lt_succ_of_lt hGLL)) fun h=>h.elim (fun h=>Nat.ne_of_lt (Nat.lt_succ_of_lt hGLL) (h.symm.trans q)) fun h=>Nat.ne_of_lt (Nat.lt_succ_of_lt G.hL) (h.symm.trans q)) hkd (fun b h=>h▸hnK) R''.pos)
theorem ex_gen (O:c.Ok) (VV:EnvOk env) (VC:EnvCells env) {kn:Str→Option NameKind} (hkn:∀ x,env.kindOf x=kn x) {f x nt n:Nat} {ep px tp np pos spos:Pos} {scope:Scope} {fd:FuncData} {Cl:Nat} {fs:List (Nat × Mine.V)}
    {S0:Stmt} {t1 t2 t3 ye:Expr} {b2:List Stmt} {p1 p2 p3 yp epos:Pos} {C:Ora} {m:GenM} {m0:MS} {σG1:St} {tot:List Mine.V} {loc':List (Nat × Mine.V)}
    (hk:env.kindOf (c.nm n)=some .local) (hkt:env.kindOf (c.nm nt)=some .local) (hsc:scopeOk c scope kn x=true) (hsw:swOk (c.nm n) np (.ListComp (.Name (c.nm x) ep) [⟨.Name (c.nm x) px,.Name (c.nm nt) tp,[],0⟩] scope pos)=true)
    (hnI:findIn c.K (.ref (c.cA Cl)) "__iter__"=some (some (.ref (c.fA f)))) (hfI:typeIn c.K (.ref (c.fA f))=some (.type "function"))
    (G:GenAt c f fd [S0,.While t1 (loopB t2 t3 ye b2 p2 p3 yp epos) [] p1])
    (HG:∀ GL,ExOk c r (genEnv fd GL (c.fA f)) S0 (exc C m0)∧TstOk c r (genEnv fd GL (c.fA f)) t1 (tst C m.t1)∧TstOk c r (genEnv fd GL (c.fA f)) t2 (tst C m.t2)∧TstOk c r (genEnv fd GL (c.fA f)) t3 (tst C m.t3)∧EvOk c r (genEnv fd GL (c.fA f)) ye (ev C m.e))
    (hr:Room A 2) (hrI:Room A.in1 (r + 2)) (ht:look σ.loc nt=some (.obj (.t 0))) (hob:look σ.hp (.t 0)=some (.inst Cl fs)) (hnop:99 ∉ σ.ps)
    (hσG:σG.loc=[(0,.obj (.t 0))]∧(∀ i o,look σG.hp i=some o→look ((Id.p 99,Ob.list []) :: σ.hp) i=some o)∧σ.nx≤σG.nx∧∀ k,k ∈ 99 :: σ.ps→k ∈ σG.ps) (hG99:look σG.hp (.p 99)=some (.list []))
    (h0:exc C m0 σG=some (.next,σG1)) (GRun:GR C m true σG1 [] tot σe) (htot:tot.length < maxLen) (hnos:V.nos (.p 99) tot=true)
    (hloc':∀ i v,look loc' i=some v→look σ.loc i=some v∧env.kindOf (c.nm i)=some .local∧(v=.obj (.t 0)∨∃ z,v=.str z))
    (R:Rel c env g σ s) (hAB:AllBare s.gens)
    (N:∀ s' g',s'.os=s.os→AllBare s'.gens→Rel c env g' (({ σe with loc:=loc' }:St).sb 99 (.list tot) |>.setLoc n (.list tot)) s'→Q .next s') :
    wpAny c.M A (exec (.Assign [.Name (c.nm n) np] (.ListComp (.Name (c.nm x) ep) [⟨.Name (c.nm x) px,.Name (c.nm nt) tp,[],0⟩] scope pos) spos) env) Q E s:=by
  obtain ⟨cl,F,-⟩:=scope_ok O ⟨VV,VC,hkn⟩ hsc
  have hsw':swapsWith (.ListComp (.Name (c.nm x) ep) [⟨.Name (c.nm x) px,.Name (c.nm nt) tp,[],0⟩] scope pos) (some (.Name (c.nm n) np)) spos.line env=pure true:=by
    show (pure (env.blockKind == .function && env.kindOf (c.nm n) == some .local && np.line == pos.line && !(scope.names.any fun (a,k)=>a == c.nm n && (k == .local || k == .cell))):Sem Bool)=pure true
    have hb:(env.blockKind == ScopeKind.function)=true:=by unfold Env.blockKind; rw [VV.kind]; rfl
    exact bA hsw fun h1 h2=>by rw [hb,hk,h1,h2]; rfl
  rw [exec_Assign_Name_used _ _ _ _ hsw']
  refine wpAny_bind (wpAny_standAt (wpAny_bind ?_))
  show wpAny _ A (do let _ ← comprehension (.ListComp (.Name (c.nm x) ep) [⟨.Name (c.nm x) px,.Name (c.nm nt) tp,[],0⟩] scope pos) scope env _ (newList []) false (eval (.Name (c.nm nt) tp) env) (some (assign (.Name (c.nm n) np) env))) _ _ s
  refine wpAny_bind (wpAny_mono (wpAny_comprehension_free (Q:=fun _ s'=>Q .next s') (use:=some (assign (.Name (c.nm n) np) env)) rfl (fun _=>rfl) F.clos F.kind F.names ?_) (fun _ s' hq=>wpAny_pure (wpAny_pure hq)) fun _ _ e=>e)
  -- t
  obtain ⟨mloc,hmloc,hl⟩:=R.loc
  obtain ⟨tv,htv,htr⟩:=(hl nt _ ht).1 hkt
  refine wpAny_Name (wpAny_loadName_local VV.kind hkt hmloc htv ?_) (O.noDbg nt)
  obtain ⟨a,rfl,ha⟩:=htr.objR
  refine pyIter_inst O hnI hfI R hob ha (gen_new O G hr R fun s₂ GO mG kk₂ hGO hnsG hself hGen hgens hos₂ htk=>⟨"generator",_,hGen.typeIs,slot_gen_next.lookup,?_⟩)
  refine wpAny_newObj_type (wpAny_newFunctionEnv F.noCell (fun y hy=>nomatch hy) (fun h₁ hns₁ hsb₁=>?_) F.kind)
  have e2:(s₂.heap.push { cls:=.type "list",dict:=none,data:=.seq ([]:List Value).toArray }).objs.size=s₂.heap.objs.size + 1:=Heap.size_push ..
  dsimp only at hns₁ hsb₁ ⊢
  rw [e2] at hns₁ hsb₁ ⊢
  have hGOlt:GO < s₂.heap.objs.size:=by obtain ⟨o,_,_,ho,_⟩:=hGen; exact Heap.lt_size ho
  have kH:∀ b p,(s₂.heap.push { cls:=.type "list",dict:=none,data:=.seq ([]:List Value).toArray }).get? b=some p→h₁.get? b=some p:=fun b p e=>(hsb₁.2 b (Nat.ne_of_lt (e2▸Heap.lt_size e))).trans (Heap.get?_push_of_some _ e)
  have k1:∀ b p,s₂.heap.get? b=some p→h₁.get? b=some p:=fun b p e=>kH b p (Heap.get?_push_of_some _ e)
  have GC:GCells c env g σ s s.heap.objs.size GO s₂.heap.objs.size mG { s₂ with heap:=h₁,toks:=s₂.toks + ([]:List (Str × Value)).length }:=
    ⟨R,fun b p e=>k1 b p (kk₂ b p e),rfl,hGO,hGOlt,hnsG.keeps k1,let ⟨o,_,_,ho,_⟩:=hGen; ⟨o,k1 _ _ ho⟩,kH _ _ (Heap.get?_push_size _ rfl),let ⟨o,_,_,ho,_⟩:=hns₁; ⟨o,ho⟩,htk⟩
  have I0:=gen_in (eg:=genEnv fd s.heap.objs.size (c.fA f)) GC hnop ⟨_,hself,.obj ha⟩ ha rfl G.plocal hσG
  have hX:=GC.nEg (eg:=genEnv fd s.heap.objs.size (c.fA f)) rfl
  have hlK:env.locals ≠ s₂.heap.objs.size + 1:=Nat.ne_of_lt (Nat.lt_succ_of_lt (Nat.lt_trans GC.elt (Nat.lt_trans GC.hGO GC.hL)))
  have loop:codeAny c.M A (.compLoop (.ListComp (.Name (c.nm x) ep) [⟨.Name (c.nm x) px,.Name (c.nm nt) tp,[],0⟩] scope pos) 0 (.ref GO) (.ref s₂.heap.objs.size) (compEnvC scope cl (s₂.heap.objs.size + 1) env))
      (compPost c.M A E (some (assign (.Name (c.nm n) np) env)) (fun _ s'=>Q .next s') (.ref s₂.heap.objs.size) (s₂.heap.objs.size + 1)) { s₂ with heap:=h₁,toks:=s₂.toks + ([]:List (Str × Value)).length }:=
    gen_loop (gi:=s.gens.size) (tot:=tot) (σe:=σe) O ⟨F.kind,VV.glob,VV.blt⟩ rfl (lookup_relabel_local F.hx) hr.1 (Nat.lt_of_le_of_lt (Nat.le_add_right _ _) hr.2.1) hX (.inr (.inr (.inl rfl))) (.inr (.inl rfl)) (Nat.ne_of_lt (Nat.lt_succ_of_lt hGOlt)) htot (hGen.keeps k1)
      (fun g' s' I h9 hkp hab=>let ⟨mm,hmm⟩:=hkp.ns; gen_out O VV GC ha rfl hk I h9 hnos (fun p e=>hkp.keep _ _ (.inr (.inr (.inr rfl))) hlK (GC.kk _ _ e)) hmm hloc' fun s'' g' hg R''=>N s'' g' ((congrArg Prod.snd hg).trans (hkp.os.trans hos₂)) (by rw [show s''.gens=s'.gens from congrArg Prod.fst hg]; exact hab) R'')
      (.mk _ σG [] tot (.fresh (.func [S0,.While t1 (loopB t2 t3 ye b2 p2 p3 yp epos) [] p1] (genEnv fd s.heap.objs.size (c.fA f)))) rfl I0 hG99 ⟨fun _ _ _ _ e=>e,⟨_,hns₁⟩,rfl,fun j y hj e=>hAB y (Array.mem_of_getElem? ((Array.getElem?_push.symm.trans (hgens▸e:(s.gens.push _)[j]?=some y)) |> fun q=>(if_neg hj).symm.trans q))⟩ (by
        show s₂.gens[s.gens.size]?=_
        rw [hgens,Array.getElem?_push_size])
        fun g'' s'' I''=>let ⟨H0,H1,H2,H3,H4⟩:=HG s.heap.objs.size; ⟨rfl,seg_start hX hrI H0 H1 H2 H3 H4 G.co (noInter ⟨G.kind,G.glob,G.blt⟩) h0 GRun I''⟩)
  exact codeAny_compStart_list loop (wpAny_pyIter_gen (hGen.keeps k1) loop)
end
end Mine
end
noncomputable section
namespace Mine
inductive Rz where
  | done (f:FL) (σ:St)
  | fail
  | v (x:Option V) (k:V→Rz)
  | b (x:Option Bool) (k:Bool→Rz)
  | c (x:Option (V × St)) (k:V→St→Rz)
  | f (x:Option (FL × St)) (k:FL→St→Rz)
  | l (x:Option (List V × St)) (k:List V→St→Rz)
  | o (x:Option Ob) (k:Ob→Rz)
  | g (b:Bool) (r:Rz)
noncomputable def sem:Rz→Option (FL × St)
  | .done f σ=>some (f,σ)
  | .fail=>none
  | .v x k=>bo x fun a=>sem (k a)
  | .b x k=>bo x fun a=>sem (k a)
  | .c x k=>bn x fun a σ=>sem (k a σ)
  | .f x k=>bn x fun a σ=>sem (k a σ)
  | .l x k=>bn x fun a σ=>sem (k a σ)
  | .o x k=>bo x fun a=>sem (k a)
  | .g b r=>gd b (sem r)
noncomputable def boK {α:Type} (x:Option α) (f:α→Rz):Rz:=match x with
  | some a=>f a
  | none=>.fail
noncomputable def noK {α:Type} (o:Option α) (x:Rz):Rz:=match o with
  | none=>x
  | some _=>.fail
noncomputable def onListK (σ:St) (v:V) (f:Id→List V→Rz):Rz:=match v with
  | .obj id=>.o (look σ.hp id) fun o=>match o with
    | .list l=>f id l
    | _=>.fail
  | _=>.fail
noncomputable def onInstK (σ:St) (C:Nat) (v:V) (f:Id→List (Nat × V)→Rz):Rz:=match v with
  | .obj id=>.o (look σ.hp id) fun o=>match o with
    | .inst D fs=>.g (Nat.beq D C) (f id fs)
    | _=>.fail
  | _=>.fail
noncomputable def onMethK (v:V) (f:Nat→V→Rz):Rz:=match v with
  | .meth g s=>f g s
  | _=>.fail
noncomputable def onStrK (v:V) (f:List Nat→Rz):Rz:=match v with
  | .str s=>f s
  | _=>.fail
noncomputable def onIntK (v:V) (f:Int→Rz):Rz:=match v with
  | .int s=>f s
  | _=>.fail
noncomputable def ifK (c:Bool) (t f:Rz):Rz:=match c with
  | true=>t
  | false=>f
noncomputable def popK (z:Bool) (l:List V) (k:V→List V→Rz):Rz:=match z with
  | false=>.g (Nat.ble l.length maxLen) (boK l.getLast? fun y=>k y l.dropLast)
  | true=>(match l with
    | []=>.fail
    | y :: l=>.g (Nat.blt l.length maxLen) (k y l))
noncomputable def saK (σ:St) (n C:Nat) (o v:V) (f:St→Rz):Rz:=onInstK σ C o fun id fs=>.g (Nat.blt fs.length 400) (f (σ.setOb id (.inst C (put fs n v))))
noncomputable def siK (σ:St) (o i v:V) (f:St→Rz):Rz:=match o with
  | .obj id=>.o (look σ.hp id) fun b=>match b with
    | .dict ks vs=>onStrK i fun x=>boK (lookK ks vs x) fun _=>.g (Nat.ble ks.length 1000) (f (σ.setOb id (.dict ks (putK ks vs x v))))
    | _=>.fail
  | _=>.fail
noncomputable def onListOfK (σ:St) (v:V) (f:List V→Rz):Rz:=match v with
  | .list l=>f l
  | .obj id=>onListK σ (.obj id) fun _ l=>f l
  | _=>.fail
noncomputable def iopK (σ:St) (o:Bop) (a b:V) (f:V→St→Rz):Rz:=match a with
  | .int i=>.v (bopV σ o (.int i) b) fun w=>f w σ
  | .str s=>.v (bopV σ o (.str s) b) fun w=>f w σ
  | .obj id=>.g (decide (o=.add)) (onListK σ (.obj id) fun id l=>onListOfK σ b fun l'=>.g (Nat.ble (l.length + l'.length) maxLen) (f (.obj id) (σ.setOb id (.list (l ++ l')))))
  | _=>.fail
noncomputable def locK (m:Bool) (x:Option V) (k:V→Rz):Rz:=match m with
  | true=>.v x k
  | false=>boK x k
mutual
noncomputable def evK (m:Bool) (C:Ora):ME→St→(V→St→Rz)→Rz
  | .k v=>fun σ k=>k v σ
  | .glob v=>fun σ k=>k v σ
  | .loc n=>fun σ k=>locK m (look σ.loc n) fun v=>k v σ
  | .attr e n D=>fun σ k=>evK m C e σ fun v σ₁=>onInstK σ₁ D v fun _ fs=>boK (look fs n) fun w=>k w σ₁
  | .bm e n D f=>fun σ k=>evK m C e σ fun v σ₁=>onInstK σ₁ D v fun id fs=>noK (look fs n) (k (.meth f (.obj id)) σ₁)
  | .cat e n D i=>fun σ k=>evK m C e σ fun v σ₁=>onInstK σ₁ D v fun _ fs=>noK (look fs n) (k (.int i) σ₁)
  | .call f as=>fun σ k=>evsK m C as σ fun vs σ₁=>.c (C f vs σ₁) k
  | .mcall e n D f as=>fun σ k=>evK m C e σ fun v σ₁=>onInstK σ₁ D v fun id fs=>noK (look fs n) (evsK m C as σ₁ fun vs σ₂=>.c (C f (.obj id :: vs) σ₂) k)
  | .fcall e n D as=>fun σ k=>evK m C e σ fun v σ₁=>onInstK σ₁ D v fun _ fs=>boK (look fs n) fun w=>onMethK w fun f self=>evsK m C as σ₁ fun vs σ₂=>.c (C f (self :: vs) σ₂) k
  | .new D f as lv=>fun σ k=>evsK m C as σ fun vs σ₁=>.c (σ₁.alloc lv (.inst D [])) fun v σ₂=>.c (C f (v :: vs) σ₂) fun r σ₃=>.g (isNoneB r) (k v σ₃)
  | .bi b as=>fun σ k=>evsK m C as σ fun vs σ₁=>.v (biV σ₁ b vs) fun w=>k w σ₁
  | .sm w e as=>fun σ k=>evK m C e σ fun v σ₁=>onStrK v fun s=>evsK m C as σ₁ fun vs σ₂=>.v (smV σ₂ w s vs) fun u=>k u σ₂
  | .app e x=>fun σ k=>evK m C e σ fun v σ₁=>onListK σ₁ v fun id _=>evK m C x σ₁ fun y σ₂=>onListK σ₂ (.obj id) fun _ l=>.g (Nat.ble l.length maxLen) (k .none (σ₂.setOb id (.list (l ++ [y]))))
  | .pop e as=>fun σ k=>evK m C e σ fun v σ₁=>onListK σ₁ v fun id l=>boK (zeroArg as) fun z=>popK z l fun y l'=>k y (σ₁.setOb id (.list l'))
  | .cmp o l r=>fun σ k=>evK m C l σ fun a σ₁=>evK m C r σ₁ fun b σ₂=>.b (cmpV σ₂ o a b) fun c=>k (.bool c) σ₂
  | .cmp2 o₁ o₂ l w r=>fun σ k=>evK m C l σ fun a σ₁=>evK m C w σ₁ fun b σ₂=>.b (cmpV σ₂ o₁ a b) fun c=>ifK c (evK m C r σ₂ fun d σ₃=>.b (cmpV σ₃ o₂ b d) fun c=>k (.bool c) σ₃) (k (.bool false) σ₂)
  | .bop o l r=>fun σ k=>evK m C l σ fun a σ₁=>evK m C r σ₁ fun b σ₂=>.v (bopV σ₂ o a b) fun w=>k w σ₂
  | .neg e=>fun σ k=>evK m C e σ fun v σ₁=>onIntK v fun i=>k (.int (-i)) σ₁
  | .not e=>fun σ k=>evK m C e σ fun v σ₁=>.b (truthy σ₁ v) fun b=>k (.bool (!b)) σ₁
  | .and a b=>fun σ k=>evK m C a σ fun v σ₁=>.b (truthy σ₁ v) fun c=>ifK c (evK m C b σ₁ k) (k v σ₁)
  | .or a b=>fun σ k=>evK m C a σ fun v σ₁=>.b (truthy σ₁ v) fun c=>ifK c (k v σ₁) (evK m C b σ₁ k)
  | .ite t b o=>fun σ k=>evK m C t σ fun v σ₁=>.b (truthy σ₁ v) fun c=>ifK c (evK m C b σ₁ k) (evK m C o σ₁ k)
  | .sub e i=>fun σ k=>evK m C e σ fun v σ₁=>evK m C i σ₁ fun x σ₂=>.v (subV σ₂ v x) fun w=>k w σ₂
  | .sl e a b=>fun σ k=>evK m C e σ fun v σ₁=>evK m C a σ₁ fun x σ₂=>evK m C b σ₂ fun y σ₃=>.v (slV σ₃ v x y) fun w=>k w σ₃
  | .lst es lv=>fun σ k=>evsK m C es σ fun vs σ₁=>.c (σ₁.alloc lv (.list vs)) k
  | .tup es=>fun σ k=>evsK m C es σ fun vs σ₁=>k (.tup vs) σ₁
  | .dct ks es lv=>fun σ k=>evsK m C es σ fun vs σ₁=>.g (decide (ks.length=vs.length) && decide ks.Nodup) (.c (σ₁.alloc lv (.dict ks vs)) k)
  | .comp elt x it cond=>fun σ k=>evK m C it σ fun v σ₁=>.l (bo (iterV v) fun l=>some (l,σ₁)) fun l _=>.g (Nat.ble l.length maxLen) (.l (compN (compF (ev C elt) (ev C cond) x σ₁.loc) l σ₁) fun r σ₂=>k (.list r) σ₂)
noncomputable def evsK (m:Bool) (C:Ora):List ME→St→(List V→St→Rz)→Rz
  | []=>fun σ k=>k [] σ
  | e :: r=>fun σ k=>evK m C e σ fun v σ₁=>evsK m C r σ₁ fun vs σ₂=>k (v :: vs) σ₂
end
noncomputable def tstK (m:Bool) (C:Ora) (e:ME) (σ:St) (k:Bool→St→Rz):Rz:=evK m C e σ fun v σ₁=>.b (truthy σ₁ v) fun b=>k b σ₁
noncomputable def seqKK (f:FL) (go:Rz) (o:FL→Rz):Rz:=match f with
  | .next=>go
  | f=>o f
mutual
noncomputable def excK (m:Bool) (C:Ora):MS→St→(FL→St→Rz)→Rz
  | .ex e=>fun σ k=>evK m C e σ fun v σ₁=>.g (exOk v) (k .next σ₁)
  | .asg n e=>fun σ k=>evK m C e σ fun v σ₁=>k .next (σ₁.setLoc n v)
  | .asgA t n D e=>fun σ k=>evK m C e σ fun v σ₁=>evK m C t σ₁ fun o σ₂=>saK σ₂ n D o v fun σ₃=>k .next σ₃
  | .asgS t i e=>fun σ k=>evK m C e σ fun v σ₁=>evK m C t σ₁ fun o σ₂=>evK m C i σ₂ fun x σ₃=>siK σ₃ o x v fun σ₄=>k .next σ₄
  | .asgT ns e=>fun σ k=>evK m C e σ fun v σ₁=>boK (itemsOf v) fun vs=>boK (setLocs ns vs σ₁) fun σ₂=>k .next σ₂
  | .asgTA t₁ n₁ D₁ t₂ n₂ D₂ e=>fun σ k=>evK m C e σ fun v σ₁=>boK (pair? v) fun p=>evK m C t₁ σ₁ fun o₁ σ₂=>saK σ₂ n₁ D₁ o₁ p.1 fun σ₃=>evK m C t₂ σ₃ fun o₂ σ₄=>saK σ₄ n₂ D₂ o₂ p.2 fun σ₅=>k .next σ₅
  | .augN n o e=>fun σ k=>locK m (look σ.loc n) fun a=>evK m C e σ fun b σ₁=>iopK σ₁ o a b fun c σ₂=>k .next (σ₂.setLoc n c)
  | .augA t n D o e=>fun σ k=>evK m C t σ fun x σ₁=>onInstK σ₁ D x fun id fs=>boK (look fs n) fun a=>evK m C e σ₁ fun b σ₂=>iopK σ₂ o a b fun c σ₃=>saK σ₃ n D (.obj id) c fun σ₄=>k .next σ₄
  | .augS t i o e=>fun σ k=>evK m C t σ fun x σ₁=>evK m C i σ₁ fun j σ₂=>.v (subV σ₂ x j) fun a=>evK m C e σ₂ fun b σ₃=>iopK σ₃ o a b fun c σ₄=>siK σ₄ x j c fun σ₅=>k .next σ₅
  | .iff t b o=>fun σ k=>tstK m C t σ fun c σ₁=>ifK c (exsK m C b σ₁ k) (exsK m C o σ₁ k)
  | .whl t b=>fun σ k=>.f (whileN (tst C t) (exs C b) bigN σ) k
  | .for x it b=>fun σ k=>evK m C it σ fun v σ₁=>.l (bo (iterV v) fun l=>some (l,σ₁)) fun l _=>.f (forN (fun v σ=>some (σ.setLoc x v)) (exs C b) l σ₁) k
  | .forT xs it b=>fun σ k=>evK m C it σ fun v σ₁=>.l (bo (iterV v) fun l=>some (l,σ₁)) fun l _=>.f (forN (fun v σ=>bo (itemsOf v) fun vs=>setLocs xs vs σ) (exs C b) l σ₁) k
  | .ret e=>fun σ k=>evK m C e σ fun v σ₁=>k (.ret v) σ₁
  | .pass=>fun σ k=>k .next σ
  | .brk=>fun σ k=>k .brk σ
  | .cont=>fun σ k=>k .cont σ
  | .asrt e=>fun σ k=>tstK m C e σ fun c σ₁=>.g c (k .next σ₁)
noncomputable def exsK (m:Bool) (C:Ora):List MS→St→(FL→St→Rz)→Rz
  | []=>fun σ k=>k .next σ
  | s :: r=>fun σ k=>excK m C s σ fun f σ₁=>seqKK f (exsK m C r σ₁ k) fun f=>k f σ₁
end
noncomputable def Sim {α:Type} (m:(α→St→Rz)→Rz) (x:Option (α × St)):Prop:=∀ k,sem (m k)=bn x fun a σ=>sem (k a σ)
namespace Sim
variable {α β γ:Type} {x:Option (α × St)} {m:(α→St→Rz)→Rz} {σ:St}
theorem pure {a:α}:Sim (fun k=>k a σ) (some (a,σ)):=fun _=>rfl
theorem bind {M:(β→St→Rz)→Rz} {m':α→St→(β→St→Rz)→Rz} {x':α→St→Option (β × St)} (h:Sim m x) (h':∀ a σ,Sim (m' a σ) (x' a σ)) (e:M=fun k=>m fun a σ=>m' a σ k:=by rfl):Sim M (bn x x'):=fun k=>((congrArg sem (congrFun e k)).trans (h _)).trans (by
  cases x with
  | none=>rfl
  | some p=>exact h' _ _ k)
theorem av {x:Option V} {m':V→(β→St→Rz)→Rz} {x':V→Option (β × St)} (h':∀ a,Sim (m' a) (x' a)):Sim (fun k=>.v x fun a=>m' a k) (bo x x'):=fun k=>by
  cases x with
  | none=>rfl
  | some p=>exact h' _ k
theorem ab {x:Option Bool} {m':Bool→(β→St→Rz)→Rz} {x':Bool→Option (β × St)} (h':∀ a,Sim (m' a) (x' a)):Sim (fun k=>.b x fun a=>m' a k) (bo x x'):=fun k=>by
  cases x with
  | none=>rfl
  | some p=>exact h' _ k
theorem ac {x:Option (V × St)}:Sim (fun k=>.c x k) x:=fun _=>rfl
theorem af {x:Option (FL × St)}:Sim (fun k=>.f x k) x:=fun _=>rfl
theorem al {x:Option (List V × St)}:Sim (fun k=>.l x k) x:=fun _=>rfl
theorem ai {x:Option (List V)} {m':List V→(β→St→Rz)→Rz} {x':List V→Option (β × St)} (h':∀ a,Sim (m' a) (x' a)):Sim (fun k=>.l (bo x fun l=>some (l,σ)) fun l _=>m' l k) (bo x x'):=fun k=>by
  cases x with
  | none=>rfl
  | some p=>exact h' _ k
theorem gd {b:Bool} {m:(β→St→Rz)→Rz} {x:Option (β × St)} (h':Sim m x):Sim (fun k=>.g b (m k)) (gd b x):=fun k=>by
  cases b with
  | false=>rfl
  | true=>exact h' k
theorem bo {x:Option γ} {m':γ→(β→St→Rz)→Rz} {x':γ→Option (β × St)} (h':∀ a,Sim (m' a) (x' a)):Sim (fun k=>boK x fun a=>m' a k) (bo x x'):=fun k=>by
  cases x with
  | none=>rfl
  | some p=>exact h' _ k
theorem lo {m:Bool} {x:Option V} {m':V→(β→St→Rz)→Rz} {x':V→Option (β × St)} (h':∀ a,Sim (m' a) (x' a)):Sim (fun k=>locK m x fun a=>m' a k) (Mine.bo x x'):=by
  cases m
  · exact .bo h'
  · exact .av h'
theorem no {o:Option γ} {m:(β→St→Rz)→Rz} {x:Option (β × St)} (h':Sim m x):Sim (fun k=>noK o (m k)) (no o x):=fun k=>by
  cases o with
  | none=>exact h' k
  | some p=>rfl
theorem onO (x:Option Ob) (k:β→St→Rz) {m:Ob→Rz} {x':Ob→Option (β × St)} (h:∀ a,sem (m a)=bn (x' a) fun a σ=>sem (k a σ)):sem (.o x m)=bn (Mine.bo x x') fun a σ=>sem (k a σ):=by
  cases x with
  | none=>rfl
  | some p=>exact h p
theorem onList {v:V} {m':Id→List V→(β→St→Rz)→Rz} {x':Id→List V→Option (β × St)} (h':∀ i l,Sim (m' i l) (x' i l)):Sim (fun k=>onListK σ v fun i l=>m' i l k) (onList σ v x'):=fun k=>by
  cases v <;> first | rfl | skip
  exact onO (look σ.hp _) k fun o=>by cases o <;> first | exact h' _ _ k | rfl
theorem onInst {C:Nat} {v:V} {m':Id→List (Nat × V)→(β→St→Rz)→Rz} {x':Id→List (Nat × V)→Option (β × St)} (h':∀ i l,Sim (m' i l) (x' i l)):Sim (fun k=>onInstK σ C v fun i l=>m' i l k) (onInst σ C v x'):=fun k=>by
  cases v <;> first | rfl | skip
  exact onO (look σ.hp _) k fun o=>by cases o <;> first | exact Sim.gd (h' _ _) k | rfl
theorem sa {n C:Nat} {o v:V} {m':St→(β→St→Rz)→Rz} {x':St→Option (β × St)} (h':∀ a,Sim (m' a) (x' a)):Sim (fun k=>saK σ n C o v fun a=>m' a k) (Mine.bo (setAttr σ n C o v) x'):=fun k=>by
  cases o <;> first | rfl | skip
  show sem (.o (look σ.hp _) _)=bn (Mine.bo (Mine.bo (look σ.hp _) _) x') _
  generalize look σ.hp _=q
  cases q with
  | none=>rfl
  | some o =>
              cases o <;> first | rfl | skip
              rename_i D fs
              show sem (Rz.g (Nat.beq D C) (.g (Nat.blt fs.length 400) _))=bn (Mine.bo (Mine.gd (Nat.beq D C) (Mine.gd (Nat.blt fs.length 400) (some _))) x') _
              generalize Nat.beq D C=p; generalize Nat.blt fs.length 400=q
              cases p <;> first | rfl | skip
              cases q <;> first | rfl | exact h' _ k
theorem si {o i v:V} {m':St→(β→St→Rz)→Rz} {x':St→Option (β × St)} (h':∀ a,Sim (m' a) (x' a)):Sim (fun k=>siK σ o i v fun a=>m' a k) (Mine.bo (setItem σ o i v) x'):=fun k=>by
  cases o <;> first | rfl | skip
  show sem (.o (look σ.hp _) _)=bn (Mine.bo (Mine.bo (look σ.hp _) _) x') _
  generalize look σ.hp _=q
  cases q with
  | none=>rfl
  | some o =>
              cases o <;> first | rfl | skip
              rename_i ks vs
              cases i <;> first | rfl | skip
              rename_i x
              show sem (boK (lookK ks vs x) fun _=>.g (Nat.ble ks.length 1000) _)=bn (Mine.bo (Mine.bo (lookK ks vs x) fun _=>Mine.gd (Nat.ble ks.length 1000) (some _)) x') _
              generalize lookK ks vs x=p; generalize Nat.ble ks.length 1000=q
              cases p <;> first | rfl | skip
              cases q <;> first | rfl | exact h' _ k
theorem onListOf {v:V} {m':List V→(β→St→Rz)→Rz} {x':List V→Option (β × St)} (h':∀ l,Sim (m' l) (x' l)):Sim (fun k=>onListOfK σ v fun l=>m' l k) (Mine.onListOf σ v x'):=fun k=>by
  cases v <;> first | rfl | exact h' _ k | exact Sim.onList (σ:=σ) (v:=.obj _) (m':=fun _ l=>m' l) (x':=fun _ l=>x' l) (fun _ l=>h' l) k
theorem iop {o:Bop} {a b:V}:Sim (fun k=>iopK σ o a b k) (iopV σ o a b):=fun k=>by
  cases a <;> first | rfl | exact Sim.av (m':=fun w k=>k w σ) (fun _=>.pure) k | exact Sim.gd (.onList fun _ _=>.onListOf fun _=>.gd .pure) k
theorem onMeth {v:V} {m':Nat→V→(β→St→Rz)→Rz} {x':Nat→V→Option (β × St)} (h':∀ i l,Sim (m' i l) (x' i l)):Sim (fun k=>onMethK v fun i l=>m' i l k) (onMeth v x'):=fun k=>by
  cases v <;> first | rfl | exact h' _ _ k
theorem onStr {v:V} {m':List Nat→(β→St→Rz)→Rz} {x':List Nat→Option (β × St)} (h':∀ i,Sim (m' i) (x' i)):Sim (fun k=>onStrK v fun i=>m' i k) (onStr v x'):=fun k=>by
  cases v <;> first | rfl | exact h' _ k
theorem onInt {v:V} {m':Int→(β→St→Rz)→Rz} {x':Int→Option (β × St)} (h':∀ i,Sim (m' i) (x' i)):Sim (fun k=>onIntK v fun i=>m' i k) (onInt v x'):=fun k=>by
  cases v <;> first | rfl | exact h' _ k
theorem pop {z:Bool} {l:List V} {m':V→List V→(β→St→Rz)→Rz} {x':V→List V→Option (β × St)} (h':∀ i l,Sim (m' i l) (x' i l)):Sim (fun k=>popK z l fun i l=>m' i l k) (Mine.bo (popV z l) fun p=>x' p.1 p.2):=fun k=>by
  cases z with
  | true=>cases l with
    | nil=>rfl
    | cons y l =>
      show sem (Rz.g (Nat.blt l.length maxLen) _)=bn (Mine.bo (Mine.gd (Nat.blt l.length maxLen) (some (y,l))) _) _
      generalize Nat.blt l.length maxLen=q
      cases q
      · rfl
      · exact h' _ _ k
  | false =>
    show sem (Rz.g (Nat.ble l.length maxLen) (boK l.getLast? _))=bn (Mine.bo (Mine.gd (Nat.ble l.length maxLen) (Mine.bo l.getLast? fun y=>some (y,l.dropLast))) _) _
    generalize Nat.ble l.length maxLen=q
    generalize l.getLast?=o
    cases q
    · rfl
    · cases o
      · rfl
      · exact h' _ _ k
theorem if1 {c:Bool} {mt mf:(β→St→Rz)→Rz} {xt xf:Option (β × St)} (hf:Sim mf xf) (ht:Sim mt xt):Sim (fun k=>ifK c (mt k) (mf k)) (match c with | false=>xf | true=>xt):=fun k=>by
  cases c
  · exact hf k
  · exact ht k
theorem if2 {c:Bool} {mt mf:(β→St→Rz)→Rz} {xt xf:Option (β × St)} (ht:Sim mt xt) (hf:Sim mf xf):Sim (fun k=>ifK c (mt k) (mf k)) (match c with | true=>xt | false=>xf):=fun k=>by
  cases c
  · exact hf k
  · exact ht k
theorem sq {f:FL} {go:(FL→St→Rz)→Rz} {x:Option (FL × St)} (h:Sim go x):Sim (fun k=>seqKK f (go k) fun f=>k f σ) (seqK f x σ):=fun k=>by
  cases f <;> first | exact h k | rfl
end Sim
section
variable (m:Bool) (C:Ora)
theorem evK_ok (e:ME):∀ σ,Sim (evK m C e σ) (ev C e σ):=
  ME.rec (motive_1:=fun e=>∀ σ,Sim (evK m C e σ) (ev C e σ)) (motive_2:=fun l=>∀ σ,Sim (evsK m C l σ) (evs C l σ))
    (fun _ _=>.pure) (fun _ _=>.lo fun _=>.pure) (fun _ _=>.pure)
    (fun _ _ _ h σ=>.bind (h σ) fun _ _=>.onInst fun _ _=>.bo fun _=>.pure)
    (fun _ _ _ _ h σ=>.bind (h σ) fun _ _=>.onInst fun _ _=>.no .pure)
    (fun _ _ _ _ h σ=>.bind (h σ) fun _ _=>.onInst fun _ _=>.no .pure)
    (fun _ _ h σ=>.bind (h σ) fun _ _=>.ac)
    (fun _ _ _ _ _ h h' σ=>.bind (h σ) fun _ _=>.onInst fun _ _=>.no (.bind (h' _) fun _ _=>.ac))
    (fun _ _ _ _ h h' σ=>.bind (h σ) fun _ _=>.onInst fun _ _=>.bo fun _=>.onMeth fun _ _=>.bind (h' _) fun _ _=>.ac)
    (fun _ _ _ _ h σ=>.bind (h σ) fun _ _=>.bind .ac fun _ _=>.bind .ac fun _ _=>.gd .pure)
    (fun _ _ h σ=>.bind (h σ) fun _ _=>.av fun _=>.pure)
    (fun _ _ _ h h' σ=>.bind (h σ) fun _ _=>.onStr fun _=>.bind (h' _) fun _ _=>.av fun _=>.pure)
    (fun _ _ h h' σ=>.bind (h σ) fun _ _=>.onList fun _ _=>.bind (h' _) fun _ _=>.onList fun _ _=>.gd .pure)
    (fun _ _ h _ σ=>.bind (h σ) fun _ _=>.onList fun _ _=>.bo fun _=>.pop fun _ _=>.pure)
    (fun _ _ _ h h' σ=>.bind (h σ) fun _ _=>.bind (h' _) fun _ _=>.ab fun _=>.pure)
    (fun _ _ _ _ _ h h' h'' σ=>.bind (h σ) fun _ _=>.bind (h' _) fun _ _=>.ab fun _=>.if1 .pure (.bind (h'' _) fun _ _=>.ab fun _=>.pure))
    (fun _ _ _ h h' σ=>.bind (h σ) fun _ _=>.bind (h' _) fun _ _=>.av fun _=>.pure)
    (fun _ h σ=>.bind (h σ) fun _ _=>.onInt fun _=>.pure)
    (fun _ h σ=>.bind (h σ) fun _ _=>.ab fun _=>.pure)
    (fun _ _ h h' σ=>.bind (h σ) fun _ _=>.ab fun _=>.if1 .pure (h' _))
    (fun _ _ h h' σ=>.bind (h σ) fun _ _=>.ab fun _=>.if2 .pure (h' _))
    (fun _ _ _ h h' h'' σ=>.bind (h σ) fun _ _=>.ab fun _=>.if2 (h' _) (h'' _))
    (fun _ _ h h' σ=>.bind (h σ) fun _ _=>.bind (h' _) fun _ _=>.av fun _=>.pure)
    (fun _ _ _ h h' h'' σ=>.bind (h σ) fun _ _=>.bind (h' _) fun _ _=>.bind (h'' _) fun _ _=>.av fun _=>.pure)
    (fun _ _ h σ=>.bind (h σ) fun _ _=>.ac)
    (fun _ h σ=>.bind (h σ) fun _ _=>.pure)
    (fun _ _ _ h σ=>.bind (h σ) fun _ _=>.gd .ac)
    (fun _ _ _ _ _ h _ σ=>.bind (h σ) fun _ _=>.ai fun _=>.gd (.bind .al fun _ _=>.pure))
    (fun _=>.pure) (fun _ _ h h' σ=>.bind (h σ) fun _ _=>.bind (h' _) fun _ _=>.pure) e
theorem tstK_ok (e:ME) (σ:St):Sim (tstK m C e σ) (tst C e σ):=.bind (evK_ok m C e σ) fun _ _=>.ab fun _=>.pure
theorem exsK_ok (l:List MS):∀ σ,Sim (exsK m C l σ) (exs C l σ):=
  MS.rec_1 (motive_1:=fun e=>∀ σ,Sim (excK m C e σ) (exc C e σ)) (motive_2:=fun l=>∀ σ,Sim (exsK m C l σ) (exs C l σ))
    (fun e σ=>.bind (evK_ok m C e σ) fun _ _=>.gd .pure) (fun _ e σ=>.bind (evK_ok m C e σ) fun _ _=>.pure)
    (fun t _ _ e σ=>.bind (evK_ok m C e σ) fun _ _=>.bind (evK_ok m C t _) fun _ _=>.sa fun _=>.pure)
    (fun t i e σ=>.bind (evK_ok m C e σ) fun _ _=>.bind (evK_ok m C t _) fun _ _=>.bind (evK_ok m C i _) fun _ _=>.si fun _=>.pure)
    (fun _ e σ=>.bind (evK_ok m C e σ) fun _ _=>.bo fun _=>.bo fun _=>.pure)
    (fun t _ _ t' _ _ e σ=>.bind (evK_ok m C e σ) fun _ _=>.bo fun _=>.bind (evK_ok m C t _) fun _ _=>.sa fun _=>.bind (evK_ok m C t' _) fun _ _=>.sa fun _=>.pure)
    (fun _ _ e σ=>.lo fun _=>.bind (evK_ok m C e σ) fun _ _=>.bind .iop fun _ _=>.pure)
    (fun t _ _ _ e σ=>.bind (evK_ok m C t σ) fun _ _=>.onInst fun _ _=>.bo fun _=>.bind (evK_ok m C e _) fun _ _=>.bind .iop fun _ _=>.sa fun _=>.pure)
    (fun t i _ e σ=>.bind (evK_ok m C t σ) fun _ _=>.bind (evK_ok m C i _) fun _ _=>.av fun _=>.bind (evK_ok m C e _) fun _ _=>.bind .iop fun _ _=>.si fun _=>.pure)
    (fun t _ _ h h' σ=>.bind (tstK_ok m C t σ) fun _ _=>.if2 (h _) (h' _))
    (fun _ _ _ _=>.af)
    (fun _ it _ _ σ=>.bind (evK_ok m C it σ) fun _ _=>.ai fun _=>.af)
    (fun _ it _ _ σ=>.bind (evK_ok m C it σ) fun _ _=>.ai fun _=>.af)
    (fun e σ=>.bind (evK_ok m C e σ) fun _ _=>.pure)
    (fun _=>.pure) (fun _=>.pure) (fun _=>.pure)
    (fun e σ=>.bind (tstK_ok m C e σ) fun _ _=>.gd .pure)
    (fun _=>.pure) (fun _ _ h h' σ=>.bind (h σ) fun _ _=>.sq (h' _)) l
end
noncomputable def fw:Nat→Rz→Rz
  | 0=>fun r=>r
  | n + 1=>fun r=>match r with
    | .done f σ=>.done f σ
    | .fail=>.fail
    | .v x k=>boK x fun a=>fw n (k a)
    | .b x k=>boK x fun a=>fw n (k a)
    | .o x k=>boK x fun a=>fw n (k a)
    | .c x k=>boK x fun p=>fw n (k p.1 p.2)
    | .f x k=>boK x fun p=>fw n (k p.1 p.2)
    | .l x k=>boK x fun p=>fw n (k p.1 p.2)
    | .g b r=>(match b with
      | true=>fw n r
      | false=>.fail)
noncomputable def hi {α:Type}:Option α:=(fun _:Rz=>none) (exsK true (fun _ _ _=>none) [] {} .done)
noncomputable def Rz.gv:Rz→Option V | .v x _=>x | _=>hi
noncomputable def Rz.gb:Rz→Option Bool | .b x k=>x | _=>hi
noncomputable def Rz.go:Rz→Option Ob | .o x k=>x | _=>hi
noncomputable def Rz.gc:Rz→Option (V × St) | .c x _=>x | _=>hi
noncomputable def Rz.gf:Rz→Option (FL × St) | .f x _=>x | _=>hi
noncomputable def Rz.gl:Rz→Option (List V × St) | .l x _=>x | _=>hi
noncomputable def Rz.gg:Rz→Bool | .g x _=>x | _=>(hi:Option Unit).isSome
noncomputable def Rz.ov (r:Rz) (a:V):Rz:=match r with | .v _ k=>k a | _=>.fail
noncomputable def Rz.obo (r:Rz) (a:Bool):Rz:=match r with | .b _ k=>k a | _=>.fail
noncomputable def Rz.oo (r:Rz) (a:Ob):Rz:=match r with | .o _ k=>k a | _=>.fail
noncomputable def Rz.oc (r:Rz) (a:V) (σ:St):Rz:=match r with | .c _ k=>k a σ | _=>.fail
noncomputable def Rz.of (r:Rz) (a:FL) (σ:St):Rz:=match r with | .f _ k=>k a σ | _=>.fail
noncomputable def Rz.ol (r:Rz) (a:List V) (σ:St):Rz:=match r with | .l _ k=>k a σ | _=>.fail
noncomputable def Rz.og (r:Rz):Rz:=match r with | .g _ r=>r | _=>.fail
noncomputable def Ends {β:Type} (r:Rz) (G:FL→St→Option β) (z:β):Prop:=bn (sem r) G=some z
noncomputable def Rz.out {β:Type} (g:FL→St→Option β):Rz→Option β | .done x σ=>g x σ | _=>none
noncomputable def retG (f:FL) (σ:St):Option (V × List (Id × Ob) × Nat × List Nat):=bo (retOf f) fun v=>some (v,σ.hp,σ.nx,σ.ps)
noncomputable def allG (f:FL) (σ:St):Option (FL × St):=some (f,σ)
namespace Ends
variable {r:Rz} {β:Type} {G:FL→St→Option β} {z:β}
theorem fwE:∀ (n:Nat) (r:Rz),sem (Mine.fw n r)=sem r
  | 0,_=>rfl
  | n + 1,r=>by
    cases r with
    | done _ _=>rfl
    | fail=>rfl
    | v x k=>cases x <;> first | rfl | exact fwE n (k _)
    | b x k=>cases x <;> first | rfl | exact fwE n (k _)
    | o x k=>cases x <;> first | rfl | exact fwE n (k _)
    | c x k=>cases x <;> first | rfl | exact fwE n (k _ _)
    | f x k=>cases x <;> first | rfl | exact fwE n (k _ _)
    | l x k=>cases x <;> first | rfl | exact fwE n (k _ _)
    | g x k=>cases x <;> first | rfl | exact fwE n k
theorem fw {n:Nat} {r:Rz} (h:Ends (Mine.fw n r) G z):Ends r G z:=(congrArg (bn · G) (fwE n r)).symm.trans h
theorem done (n:Nat) (e:(Mine.fw n r).out G=some z:=by kernel_rfl):Ends r G z:=fw (n:=n) (by
  generalize Mine.fw n r=q at e
  cases q <;> first | exact nn e | exact e)
theorem v {X:Option V} {a:V} (n:Nat) (h:X=some a) (k:Ends ((Mine.fw n r).ov a) G z) (e:(Mine.fw n r).gv=X:=by kernel_rfl):Ends r G z:=fw (n:=n) (by
  generalize Mine.fw n r=q at e k
  have e:=e.trans h
  cases q <;> first | exact nn e | (cases (show _=some a from e); exact k))
theorem b {X:Option Bool} {a:Bool} (n:Nat) (h:X=some a) (k:Ends ((Mine.fw n r).obo a) G z) (e:(Mine.fw n r).gb=X:=by kernel_rfl):Ends r G z:=fw (n:=n) (by
  generalize Mine.fw n r=q at e k
  have e:=e.trans h
  cases q <;> first | exact nn e | (cases (show _=some a from e); exact k))
theorem o {X:Option Ob} {a:Ob} (n:Nat) (h:X=some a) (k:Ends ((Mine.fw n r).oo a) G z) (e:(Mine.fw n r).go=X:=by kernel_rfl):Ends r G z:=fw (n:=n) (by
  generalize Mine.fw n r=q at e k
  have e:=e.trans h
  cases q <;> first | exact nn e | (cases (show _=some a from e); exact k))
theorem c {X:Option (V × St)} {a:V} {τ:St} (n:Nat) (h:X=some (a,τ)) (k:Ends ((Mine.fw n r).oc a τ) G z) (e:(Mine.fw n r).gc=X:=by kernel_rfl):Ends r G z:=fw (n:=n) (by
  generalize Mine.fw n r=q at e k
  have e:=e.trans h
  cases q <;> first | exact nn e | (cases (show _=some (a,τ) from e); exact k))
theorem fl {X:Option (FL × St)} {a:FL} {τ:St} (n:Nat) (h:X=some (a,τ)) (k:Ends ((Mine.fw n r).of a τ) G z) (e:(Mine.fw n r).gf=X:=by kernel_rfl):Ends r G z:=fw (n:=n) (by
  generalize Mine.fw n r=q at e k
  have e:=e.trans h
  cases q <;> first | exact nn e | (cases (show _=some (a,τ) from e); exact k))
theorem l {X:Option (List V × St)} {a:List V} {τ:St} (n:Nat) (h:X=some (a,τ)) (k:Ends ((Mine.fw n r).ol a τ) G z) (e:(Mine.fw n r).gl=X:=by kernel_rfl):Ends r G z:=fw (n:=n) (by
  generalize Mine.fw n r=q at e k
  have e:=e.trans h
  cases q <;> first | exact nn e | (cases (show _=some (a,τ) from e); exact k))
theorem g {X:Bool} (n:Nat) (h:X=true) (k:Ends (Mine.fw n r).og G z) (e:(Mine.fw n r).gg=X:=by kernel_rfl):Ends r G z:=fw (n:=n) (by
  generalize Mine.fw n r=q at e k
  have e:=e.trans h
  cases q <;> first | exact ff e | (cases (show _=true from e); exact k))
theorem exsM {m:Bool} {C:Ora} {l:List MS} {τ:St} {f:FL} {σ:St} (h:Ends (exsK m C l τ .done) allG (f,σ)):exs C l τ=some (f,σ):=by
  have h':=(congrArg (bn · allG) (exsK_ok m C l τ .done)).symm.trans h
  generalize Mine.exs C l τ=x at h'
  cases x with
  | none=>exact nn h'
  | some p=>exact h'
theorem exs {C:Ora} {l:List MS} {τ:St} {f:FL} {σ:St} (h:Ends (exsK false C l τ .done) allG (f,σ)):Mine.exs C l τ=some (f,σ):=exsM h
theorem exs' {C:Ora} {l:List MS} {τ:St} {f:FL} {σ:St} (h:Ends (exsK true C l τ .done) allG (f,σ)):Mine.exs C l τ=some (f,σ):=exsM h
theorem exc' {C:Ora} {s:MS} {τ:St} {f:FL} {σ:St} (h:Ends (exsK false C [s] τ .done) allG (f,σ)):Mine.exc C s τ=some (f,σ):=by
  have h:bn (Mine.exc C s τ) (fun f σ₁=>seqK f (some (.next,σ₁)) σ₁)=some (f,σ):=exsM h
  generalize Mine.exc C s τ=x at h
  cases x with
  | none=>exact nn h
  | some p =>
    obtain ⟨g,τ'⟩:=p
    cases g <;> exact h
end Ends
noncomputable def tstG (f:FL) (σ:St):Option (Bool × St):=match f with
  | .ret (.bool b)=>some (b,σ)
  | _=>none
noncomputable def evG (f:FL) (σ:St):Option (V × St):=match f with
  | .ret v=>some (v,σ)
  | _=>none
theorem Ends.tstM {m:Bool} {C:Ora} {e:ME} {σ τ:St} {b:Bool} (h:Ends (tstK m C e σ fun b τ=>.done (.ret (.bool b)) τ) tstG (b,τ)):tst C e σ=some (b,τ):=by
  have h':=(congrArg (bn · tstG) (tstK_ok m C e σ _)).symm.trans h
  generalize Mine.tst C e σ=x at h'
  cases x with
  | none=>exact nn h'
  | some p=>exact h'
theorem Ends.evM {m:Bool} {C:Ora} {e:ME} {σ τ:St} {v:V} (h:Ends (evK m C e σ fun v τ=>.done (.ret v) τ) evG (v,τ)):ev C e σ=some (v,τ):=by
  have h':=(congrArg (bn · evG) (evK_ok m C e σ _)).symm.trans h
  generalize Mine.ev C e σ=x at h'
  cases x with
  | none=>exact nn h'
  | some p=>exact h'
theorem Ends.tst {C:Ora} {e:ME} {σ τ:St} {b:Bool} (h:Ends (tstK false C e σ fun b τ=>.done (.ret (.bool b)) τ) tstG (b,τ)):Mine.tst C e σ=some (b,τ):=tstM h
theorem Ends.tst' {C:Ora} {e:ME} {σ τ:St} {b:Bool} (h:Ends (tstK true C e σ fun b τ=>.done (.ret (.bool b)) τ) tstG (b,τ)):Mine.tst C e σ=some (b,τ):=tstM h
theorem Ends.ev {C:Ora} {e:ME} {σ τ:St} {v:V} (h:Ends (evK false C e σ fun v τ=>.done (.ret v) τ) evG (v,τ)):Mine.ev C e σ=some (v,τ):=evM h
theorem Ends.ev' {C:Ora} {e:ME} {σ τ:St} {v:V} (h:Ends (evK true C e σ fun v τ=>.done (.ret v) τ) evG (v,τ)):Mine.ev C e σ=some (v,τ):=evM h
noncomputable def startR (q:Bool) (C:Ora) (m:MFun) (vs:List V) (τ:St):Rz:=boK (m.args vs) fun as=>exsK q C m.body ⟨m.ps.zip as,τ.hp,τ.nx,τ.ps⟩ .done
section
variable {q:Bool} {C:Ora} {m:MFun} {vs:List V} {τ:St} {v:V} {hp:List (Id × Ob)} {nx:Nat} {ps:List Nat} {T:Nat→Option MFun} {n f:Nat}
theorem crun (h:Ends (startR q C m vs τ) retG (v,hp,nx,ps)):callB C m vs τ=some (v,⟨τ.loc,hp,nx,ps⟩):=by
  unfold startR at h
  show bo (m.args vs) _=_
  generalize m.args vs=as at h
  cases as with
  | none=>exact nn h
  | some as =>
    show bn (exs C m.body ⟨m.ps.zip as,τ.hp,τ.nx,τ.ps⟩) _=_
    have h:=(congrArg (bn · retG) (exsK_ok q C m.body ⟨m.ps.zip as,τ.hp,τ.nx,τ.ps⟩ .done)).symm.trans h
    generalize exs C m.body ⟨m.ps.zip as,τ.hp,τ.nx,τ.ps⟩=x at h
    cases x with
    | none=>exact nn h
    | some p =>
      show bo (retOf p.1) _=_
      have h:bo (retOf p.1) (fun v=>some (v,p.2.hp,p.2.nx,p.2.ps))=some (v,hp,nx,ps):=h
      generalize retOf p.1=q at h
      cases q with
      | none=>exact nn h
      | some w=>cases h; rfl
noncomputable def startO (q:Bool) (T:Nat→Option MFun) (n f:Nat) (vs:List V) (τ:St):Rz:=boK (T f) fun m=>startR q (oraN T n) m vs τ
theorem orunM (h:Ends (startO q T n f vs τ) retG (v,hp,nx,ps)):oraN T (n + 1) f vs τ=some (v,⟨τ.loc,hp,nx,ps⟩):=by
  unfold startO at h
  show bo (T f) _=_
  generalize T f=m at h
  cases m with
  | none=>exact nn h
  | some m=>exact crun h
theorem orun (h:Ends (startO false T n f vs τ) retG (v,hp,nx,ps)):oraN T (n + 1) f vs τ=some (v,⟨τ.loc,hp,nx,ps⟩):=orunM h
theorem orun' (h:Ends (startO true T n f vs τ) retG (v,hp,nx,ps)):oraN T (n + 1) f vs τ=some (v,⟨τ.loc,hp,nx,ps⟩):=orunM h
end
end Mine
end
noncomputable section
open PySem PySem.Calls PyProof.Rows PySem.W
namespace Mine
noncomputable def front (ids:List Id) (hp:List (Id × Ob)):List (Id × Ob):=ids.foldr (fun i r=>match look hp i with
  | some o=>(i,o) :: r
  | none=>r) (hp.filter fun p=>!(ids.any (· == p.1)))
noncomputable def hpN (ids:List Id) (n:Nat) (hp:List (Id × Ob)):List (Id × Ob):=front ids (hp.filter fun p=>idBlw n p.1)
noncomputable def chkN (ids:List Id) (n:Nat) (v:Mine.V) (σ:St):Bool:=fsBlw n σ.loc && (hpBlw n (hpN ids n σ.hp) && V.blw n v)
noncomputable def normO (ids:List Id) (C:Ora):Ora:=fun f vs σ=>bn (C f vs ⟨σ.loc,front ids σ.hp,σ.nx,σ.ps⟩) fun v σ'=>gd (chkN ids σ.nx v σ') (some (v,⟨σ'.loc,hpN ids σ.nx σ'.hp,σ.nx,σ'.ps⟩))
noncomputable def liftO (T:Nat→Option MFun) (C:Ora):Ora:=fun f vs σ=>bo (T f) fun m=>callB C m vs σ
theorem look_filter (q:Id→Bool) (i:Id) (o:Ob):∀ hp:List (Id × Ob),look (hp.filter fun p=>q p.1) i=some o→look hp i=some o∧q i=true
  | [],h=>nn h
  | (j,w) :: l,h=>by
    by_cases e:q j=true
    · have h:=(congrArg (look · i) (List.filter_cons_of_pos (p:=fun p=>q p.1) (a:=(j,w)) (l:=l) e)).symm.trans h
      by_cases k:j=i
      · exact ⟨(if_pos k).trans ((if_pos k).symm.trans h),k▸e⟩
      · exact (look_filter q i o l ((if_neg k).symm.trans h)).imp (fun z=>(if_neg k).trans z) id
    · have h:=(congrArg (look · i) (List.filter_cons_of_neg (p:=fun p=>q p.1) (a:=(j,w)) (l:=l) e)).symm.trans h
      have z:=look_filter q i o l h
      exact ⟨(if_neg fun k:j=i=>e (k▸z.2)).trans z.1,z.2⟩
theorem look_front {ids:List Id} {hp:List (Id × Ob)} {i:Id} {o:Ob} (h:look (front ids hp) i=some o):look hp i=some o:=by
  unfold front at h
  have key:∀ l:List Id,look (l.foldr (fun i r=>match look hp i with
    | some o=>(i,o) :: r
    | none=>r) (hp.filter fun p=>!(ids.any (· == p.1)))) i=some o→look hp i=some o:=fun l=>by
    induction l with
    | nil=>exact fun h=>(look_filter (fun j=>!(ids.any (· == j))) i o hp h).1
    | cons j l ih =>
      intro h
      have h:look (match look hp j with
        | some o=>(j,o) :: l.foldr (fun i r=>match look hp i with
          | some o=>(i,o) :: r
          | none=>r) (hp.filter fun p=>!(ids.any (· == p.1)))
        | none=>l.foldr (fun i r=>match look hp i with
          | some o=>(i,o) :: r
          | none=>r) (hp.filter fun p=>!(ids.any (· == p.1)))) i=some o:=h
      cases e:look hp j with
      | none=>rw [e] at h; exact ih h
      | some w =>
        rw [e] at h
        by_cases k:j=i
        · cases (if_pos k).symm.trans h
          exact k▸e
        · exact ih ((if_neg k).symm.trans h)
  exact key ids h
section
variable {c:Cx} {r:Nat} {C:Ora} {ids:List Id}
theorem normO_ok (H:OraOk c r C):OraOk c r (normO ids C):=fun _ σ _ _ _ _ _ _ _ _ _ _ hr VV hf R X N=>bnE hf fun v σ' h1 h2=>gdE h2 fun h3 h4=>bA h3 fun b1 h3=>bA h3 fun b2 b3=>by
  cases h4
  exact H hr VV h1 (σ:=⟨σ.loc,front ids σ.hp,σ.nx,σ.ps⟩) (R.sub (fun _ _ e=>e) (fun _ _ e=>look_front e) (Nat.le_refl _) fun _ e=>e) X fun x s' g' R' X' E' =>
    N x s' _ (R'.clean (n:=σ.nx) ⟨fun _ _ e=>e,fun i o e=>(look_filter (idBlw σ.nx) i o _ (look_front e)).1,b1,b2,rfl,fun _ e=>e⟩) (VR.clean X' b3) (Ext.clean R E')
theorem liftO_ok (O:c.Ok) {T:Nat→Option MFun} (HT:∀ f m,T f=some m→chkDef c f m=true) (H:OraOk c r C):OraOk c (r + 2) (liftO T C):=fun _ _ _ _ _ _ _ _ _ _ _ _ hr VV hf R X N=>boE hf fun m h1 h2=>chkDef_ok O H (HT _ _ h1) hr h2 R X N
theorem norm_is {f n:Nat} {vs:List Mine.V} {L:List (Nat × Mine.V)} {hp hp' hp₁ hp₂:List (Id × Ob)} {nx':Nat} {P P':List Nat} {v:Mine.V} (h:C f vs ⟨L,hp',n,P⟩=some (v,⟨L,hp₁,nx',P'⟩)) (hb:chkN ids n v ⟨L,hp₁,nx',P'⟩=true)
    (e:front ids hp=hp':=by kernel_rfl) (e':hpN ids n hp₁=hp₂:=by kernel_rfl):normO ids C f vs ⟨L,hp,n,P⟩=some (v,⟨L,hp₂,n,P'⟩):=by
  subst e e'
  show bn (C f vs ⟨L,front ids hp,n,P⟩) _=_
  rw [h]
  show gd (chkN ids n v ⟨L,hp₁,nx',P'⟩) _=_
  rw [hb]
  rfl
end
end Mine
end
noncomputable section
open PySem PySem.Calls PyProof.Rows PySem.W
namespace Mine
noncomputable def allOf (h:Heap):Frag:=(List.range h.objs.size).filterMap fun a=>(h.get? a).map fun o=>(a,o)
theorem fm_get {f:Nat→Option Obj}:∀ {l:List Nat} {a:Nat} {o:Obj},(l.filterMap fun a=>(f a).map fun o=>(a,o)).lookup a=some o→f a=some o
  | [],_,_,h=>by cases h
  | b :: l,a,o,h=>by
    rw [List.filterMap_cons] at h
    cases hb:f b with
    | none=>rw [hb] at h; exact fm_get h
    | some q =>
      rw [hb] at h
      simp only [Option.map_some,List.lookup_cons] at h
      split at h
      · rename_i e
        cases h
        rw [beq_iff_eq.mp e]; exact hb
      · exact fm_get h
theorem fm_all {f:Nat→Option Obj}:∀ {l:List Nat} {a:Nat} {o:Obj},a ∈ l→f a=some o→(l.filterMap fun a=>(f a).map fun o=>(a,o)).lookup a=some o
  | [],_,_,h,_=>by cases h
  | b :: l,a,o,h,e=>by
    rw [List.filterMap_cons]
    by_cases q:a=b
    · subst q
      rw [e]
      simp
    · have hm:=fm_all (f:=f) ((List.mem_cons.mp h).resolve_left q) e
      cases hb:f b with
      | none=>exact hm
      | some w =>
        simp only [Option.map_some,List.lookup_cons]
        rw [beq_false_of_ne q]
        exact hm
theorem app_in {K:Frag} {h:Heap} (X:K.In h):Frag.In (K ++ allOf h) h:=fun a o e=>by
  rw [List.lookup_append] at e
  cases hk:K.lookup a with
  | some q=>rw [hk] at e; cases e; exact X _ _ hk
  | none=>rw [hk] at e; exact fm_get e
theorem app_all {K:Frag} {h:Heap} (X:K.In h) {a:Addr} {o:Obj} (e:h.get? a=some o):(K ++ allOf h).lookup a=some o:=by
  rw [List.lookup_append]
  cases hk:K.lookup a with
  | some q=>rw [X _ _ hk] at e; cases e; rfl
  | none=>exact fm_all (List.mem_range.mpr (Heap.lt_size e)) e
theorem nsIn_of {K:Frag} {h:Heap} (H:∀ a o,h.get? a=some o→K.lookup a=some o) {a:Addr} {m:Str→Option Value} {x:Str} {v:Value} (N:h.Ns a m) (hm:m x=some v):nsIn K a x=some (some v):=by
  obtain ⟨o,es,ep,ho,hd,_,hf⟩:=N
  have hf:=hf x
  rw [hm] at hf
  obtain ⟨oc,od,dat,sl⟩:=o
  cases hd
  unfold nsIn
  rw [H _ _ ho]
  dsimp only
  unfold nsFind findBy at hf
  rw [← Array.find?_toList] at hf
  cases hq:es.toList.find? fun e=>e.key.isStr x with
  | none=>rw [hq] at hf; cases hf
  | some e=>rw [hq] at hf; dsimp only; rw [Option.map_some] at hf; cases hf; rfl
theorem bi_of {K:Frag} {h:Heap} (H:∀ a o,h.get? a=some o→K.lookup a=some o) {m:Str→Option Value} (N:h.Ns builtinsNs m) (hm:∀ x:Str,x ≠ "__name__"→m x=bootBuiltins x):∀ p ∈ biTab,nsIn K builtinsNs p.1=some (some p.2):=by
  intro p hp
  refine nsIn_of H N ?_
  have key:∀ p ∈ biTab,p.1 ≠ ("__name__":Str)∧bootBuiltins p.1=some p.2:=by decide +kernel
  obtain ⟨h1,h2⟩:=key p hp
  rw [hm _ h1,h2]
theorem ints_of_well {P:Params} {h:Heap}:∀ {ns:List Int} {vs:List Value},WellAll P h vs (ofPys (ns.map PyData.int))→∀ (c:Cx) (F:Addr→Obj→Prop) (ρ:Id→Option Addr),VRs c F ρ (ns.map Mine.V.int) vs
  | [],vs,W,c,F,ρ=>by
    have W:WellAll P h vs []:=W
    cases W
    exact .nil
  | n :: ns,vs,W,c,F,ρ=>by
    have W:WellAll P h vs (.int n :: ofPys (ns.map PyData.int)):=W
    cases W with
    | cons w1 w2 =>
      cases w1
      exact .cons (.int _ _) (ints_of_well w2 c F ρ)
theorem list_of_well {P:Params} {h:Heap} {a:Addr} {ns:List Int} (W:Well P h (.ref a) (ofPy (.list (ns.map PyData.int)))) :
    ∃ vs:List Value,h.get? a=some { cls:=.type "list",data:=.seq vs.toArray }∧∀ (c:Cx) (F:Addr→Obj→Prop) (ρ:Id→Option Addr),VRs c F ρ (ns.map Mine.V.int) vs:=by
  have W:Well P h (.ref a) (.list (ofPys (ns.map PyData.int))):=W
  cases W with
  | list h1 h2=>exact ⟨_,h1,ints_of_well h2⟩
noncomputable def g0:Gh:=⟨fun _=>False,fun _=>False,fun _=>none⟩
theorem rel_start {c:Cx} {env:Env} {s:Shared} {h₀:Heap} {L:Addr} {m:Str→Option Value} {y:Nat} {v:Mine.V} {x:Value} (hk:∀ a o,c.K.lookup a=some o→h₀.get? a=some o) (F:Fr h₀ L s.heap m) (hL:env.locals=L) (hm:m (c.nm y)=some x)
    (hl:env.kindOf (c.nm y)=some .local) (hv:∀ F ρ,(∀ a o,c.K.lookup a=some o→F a o)→VR c F ρ v x) (ht:0 < s.toks):Rel c env g0 ⟨[(y,v)],[],0,[]⟩ s:=by
  have kin:∀ a o,c.K.lookup a=some o→Fz env g0 s.heap a o:=fun a o e =>
    ⟨F.keep _ _ (hk a o e),fun w=>w,fun w=>w,fun w=>absurd (Heap.lt_size (hk a o e)) (Nat.not_lt_of_le (by rw [show a=L from (show a=env.locals from w).trans hL]; exact F.above))⟩
  refine ⟨⟨kin,fun a w=>w.elim,fun a w=>w.elim,fun a w=>?_,fun a w=>w.elim,⟨m,hL▸F.ns,fun n v' e=>?_⟩,fun i o e=>?_,(fun i r o e=>nomatch e),(fun i j r o q e=>nomatch e),fun _ _=>rfl,fun _ _=>rfl⟩,ht⟩
  · obtain ⟨o,_,_,ho,_⟩:=F.ns
    exact ⟨o,by rw [show a=env.locals from w,hL]; exact ho⟩
  · unfold look at e
    split at e
    · rename_i q
      subst q
      cases e
      exact ⟨fun _=>⟨x,hm,hv _ _ kin⟩,fun q=>by rw [hl] at q; cases q⟩
    · cases e
  · cases e
theorem ctn_t {n m:Nat} {α:Type} {k:n=m→Option α} {w:α} {P:Prop} (h:dite (n=m) k (fun _=>none)=some w) (f:n=m→P):P:=by
  by_cases q:n=m
  · exact f q
  · exact nn ((dif_neg q).symm.trans h)
noncomputable def whileOf (s:Stmt):Option (Expr × List Stmt × List Stmt × Pos):=dite _ (fun h=>Stmt.While.elim (motive_2:=fun _=>Option (Expr × List Stmt × List Stmt × Pos)) s h fun t b o p=>some (t,b,o,p)) fun _=>none
theorem whileOf_t {s:Stmt} {w:Expr × List Stmt × List Stmt × Pos} (h:whileOf s=some w):s=.While w.1 w.2.1 w.2.2.1 w.2.2.2:=by
  exact ctn_t h fun q=>Stmt.While.elim (motive_2:=fun s=>whileOf s=some w→s=.While w.1 w.2.1 w.2.2.1 w.2.2.2) s q (fun _ _ _ _ h=>by cases h; rfl) h
noncomputable def exprOf (s:Stmt):Option (Expr × Pos):=dite _ (fun h=>Stmt.Expr.elim (motive_2:=fun _=>Option (Expr × Pos)) s h fun e p=>some (e,p)) fun _=>none
theorem exprOf_t {s:Stmt} {w:Expr × Pos} (h:exprOf s=some w):s=.Expr w.1 w.2:=by
  exact ctn_t h fun q=>Stmt.Expr.elim (motive_2:=fun s=>exprOf s=some w→s=.Expr w.1 w.2) s q (fun _ _ h=>by cases h; rfl) h
noncomputable def yieldOf (e:Expr):Option (Option Expr × Pos):=dite _ (fun h=>Expr.Yield.elim (motive_1:=fun _=>Option (Option Expr × Pos)) e h fun v p=>some (v,p)) fun _=>none
theorem yieldOf_t {e:Expr} {w:Option Expr × Pos} (h:yieldOf e=some w):e=.Yield w.1 w.2:=by
  exact ctn_t h fun q=>Expr.Yield.elim (motive_1:=fun e=>yieldOf e=some w→e=.Yield w.1 w.2) e q (fun _ _ h=>by cases h; rfl) h
noncomputable def one1 {α:Type} (l:List α):Option α:=match l with
  | []=>none
  | a :: r=>(match r with
    | []=>some a
    | _ :: _=>none)
theorem one1_t {α:Type} {l:List α} {a:α} (h:one1 l=some a):l=[a]:=by
  cases l with
  | nil=>exact nn h
  | cons b r=>cases r <;> first | exact nn h | (cases h; rfl)
noncomputable def two1 {α:Type} (l:List α):Option (α × α):=match l with
  | []=>none
  | a :: r=>bo (one1 r) fun b=>some (a,b)
theorem two1_t {α:Type} {l:List α} {p:α × α} (h:two1 l=some p):l=[p.1,p.2]:=by
  cases l with
  | nil=>exact nn h
  | cons b r=>exact boE h fun c h1 h2=>Option.some.inj h2▸congrArg (b :: ·) (one1_t h1)
noncomputable def isWh (s:Stmt) (f:Expr→List Stmt→Bool):Bool:=ob (whileOf s) fun w=>w.2.2.1.isEmpty && f w.1 w.2.1
theorem isWhE {s:Stmt} {f:Expr→List Stmt→Bool} {P:Prop} (h:isWh s f=true) (k:∀ t b p,s=.While t b [] p→f t b=true→P):P:=
  obE h fun w h1 h=>bA h fun h2 h3=>k _ _ _ (List.isEmpty_iff.mp h2▸whileOf_t h1) h3
noncomputable def isYd (b:List Stmt) (f:Expr→Bool):Bool:=ob (one1 b) fun s=>ob (exprOf s) fun e=>ob (yieldOf e.1) fun y=>ob y.1 f
theorem isYdE {b:List Stmt} {f:Expr→Bool} {P:Prop} (h:isYd b f=true) (k:∀ y p q,b=[.Expr (.Yield (some y) p) q]→f y=true→P):P:=
  obE h fun s h1 h=>obE h fun e h2 h=>obE h fun y h3 h=>obE h fun z h4 h5=>k z y.2 e.2 (by
    rw [one1_t h1,exprOf_t h2,yieldOf_t h3,h4]) h5
noncomputable def chkGB (c:Cx) (kn:Str→Option NameKind) (m0:MS) (gm:GenM) (body:List Stmt):Bool:=ob (two1 body) fun p=>chkS c kn m0 p.1 && isWh p.2 fun t1 b=>chkE c kn gm.t1 t1 && ob (two1 b) fun q=>isWh q.1 (fun t2 _=>chkE c kn gm.t2 t2) && isWh q.2 fun t3 b3=>chkE c kn gm.t3 t3 && isYd b3 fun ye=>chkE c kn gm.e ye
noncomputable def chkGen (c:Cx) (f:Nat) (m0:MS) (gm:GenM):Bool:=ob (c.K.lookup (c.fA f)) fun o=>ob (funcOf o) fun fd=>ob (bodyOf fd) fun body=>plainP fd.params && (codeIn c.K fd.code fd.qualname && ((argN fd.params.args == [c.nm 0]) && ((fd.defaults == .none) && ((fd.scope.kind == .function) && (fd.scope.isGenerator && ((fd.scope.isCoroutine == false) &&
  ((fd.scope.names.lookup (c.nm 0) == some .local) && (fd.scope.names.all (fun p=>!(p.2 == .cell)) && ((fd.globals == mainGlobals) && ((fd.builtins == builtinsNs) && (fd.closure.isEmpty && chkGB c (fun x=>fd.scope.names.lookup x) m0 gm body)))))))))))
theorem chkGen_ok {c:Cx} {r f:Nat} {C:Ora} {m0:MS} {gm:GenM} (O:c.Ok) (HC:OraOk c r C) (h:chkGen c f m0 gm=true) :
    ∃ fd S0 t1 t2 t3 ye b2 p1 p2 p3 yp ep,GenAt c f fd [S0,.While t1 (loopB t2 t3 ye b2 p2 p3 yp ep) [] p1] ∧
      ∀ GL,ExOk c (r + 1) (genEnv fd GL (c.fA f)) S0 (exc C m0)∧TstOk c (r + 1) (genEnv fd GL (c.fA f)) t1 (tst C gm.t1)∧TstOk c (r + 1) (genEnv fd GL (c.fA f)) t2 (tst C gm.t2)∧TstOk c (r + 1) (genEnv fd GL (c.fA f)) t3 (tst C gm.t3)∧EvOk c (r + 1) (genEnv fd GL (c.fA f)) ye (ev C gm.e):=
  obE h fun o ho h=>obE h fun fd hfd h=>obE h fun body hb h=>bA h fun hp h=>bA h fun h1 h=>bA h fun h2 h=>bA h fun hd h=>bA h fun h3 h=>bA h fun h4 h=>bA h fun h5 h=>bA h fun h6 h=>bA h fun h7 h=>bA h fun h8 h=>bA h fun h9 h=>bA h fun h10 h =>
    obE h fun p hp2 h=>bA h fun k0 h=>isWhE h fun t1 b p1 e1 h=>bA h fun k1 h=>obE h fun q hq h=>bA h fun g1 g2=>isWhE g1 fun t2 b2 p2 e2 k2=>isWhE g2 fun t3 b3 p3 e3 h=>bA h fun k3 h=>isYdE h fun ye yp ep e4 k4=>by
      have e:body=[p.1,.While t1 (loopB t2 t3 ye b2 p2 p3 yp ep) [] p1]:=by rw [two1_t hp2,e1,two1_t hq,e2,e3,e4]
      have hnc:∀ p ∈ fd.scope.names,p.2 ≠ .cell:=fun p hp q=>by
        have:=List.all_eq_true.mp h7 p hp
        rw [q] at this; exact ff this
      obtain ⟨oc,od,odat,osl⟩:=o
      cases funcOf_t hfd
      refine ⟨fd,p.1,t1,t2,t3,ye,b2,p1,p2,p3,yp,ep,⟨⟨_,_,_,ho⟩,h1,(bodyOf_t hb).trans (congrArg _ e),⟨_,_,plainP_t hp,bE h2⟩,bE hd,bE h3,h4,bE h5,bE h6,hnc,bE h8,bE h9,List.isEmpty_iff.mp h10⟩,fun GL=>?_⟩
      have VV:EnvOk (genEnv fd GL (c.fA f)):=⟨bE h3,bE h8,bE h9⟩
      have VC:EnvCells (genEnv fd GL (c.fA f)):=fun x hx=>absurd rfl (hnc _ (lookup_mem (show fd.scope.names.lookup x=some .cell from hx)))
      exact ⟨chkS_ok O HC m0 ⟨VV,VC,fun _=>rfl⟩ k0,(chkE_ok O HC gm.t1 ⟨VV,VC,fun _=>rfl⟩ k1).2,(chkE_ok O HC gm.t2 ⟨VV,VC,fun _=>rfl⟩ k2).2,(chkE_ok O HC gm.t3 ⟨VV,VC,fun _=>rfl⟩ k3).2,(chkE_ok O HC gm.e ⟨VV,VC,fun _=>rfl⟩ k4).1⟩
end Mine
end
noncomputable section
open PySem PySem.Calls PyProof.Rows PySem.W
namespace Mine
noncomputable def frzK (k:Nat) (v:Mine.V) (σ':St):Option (Mine.V × St):=match look σ'.hp (.p k) with
  | none=>some (v,σ')
  | some o=>(match o with
    | .list l=>gd (V.nos (.p k) l) (some (V.sb (.p k) (.list l) v,σ'.sb k (.list l)))
    | _=>none)
noncomputable def frzO (k:Nat) (C:Ora):Ora:=fun f vs σ=>gd (decide (k ∉ σ.ps)) (bn (C f vs σ) (frzK k))
noncomputable def pickO (f₀:Nat) (C D:Ora):Ora:=fun f=>if f=f₀ then C f else D f
section
variable {c:Cx} {r k:Nat} {C D:Ora}
theorem frzO_ok (H:OraOk c r C):OraOk c r (frzO k C):=fun _ σ _ _ _ _ _ g s _ _ _ hr VV hf R X N=>gdE hf fun hk h=>bnE h fun v₁ σ₁ h1 h2=>H hr VV h1 R X fun x s' g' R' X' E'=>by
  unfold frzK at h2
  cases e:look σ₁.hp (.p k) with
  | none=>rw [e] at h2; cases h2; exact N x s' g' R' X' E'
  | some o =>
    rw [e] at h2
    cases o <;> first | exact nn h2 | skip
    exact gdE h2 fun h3 h4=>by
      cases h4
      obtain ⟨R2,hw⟩:=freezeL R' e h3
      exact N x s' _ R2 (VR.sb (fun a o z=>⟨z.1,fun q=>z.2.1 q.1,z.2.2.1,z.2.2.2⟩) (fun j a hj e=>(congrArg (Option.map Prod.fst) (if_neg hj)).trans e) hw X') ⟨fun a o z hq hf=>let w:=E'.fz a o z hq hf; ⟨w.1,fun q=>w.2 q.1⟩,fun id p e=>(if_neg fun q:id=.p k=>nn ((R.ps k (of_decide_eq_true hk)).symm.trans (q▸e))).trans (E'.cs id p e),E'.X,E'.gens⟩
theorem pickO_ok {f₀:Nat} (H:OraOk c r C) (H':OraOk c r D):OraOk c r (pickO f₀ C D):=fun _ σ f _ _ _ _ g s _ _ _ hr VV hf R X N=>by
  unfold pickO at hf
  by_cases q:f=f₀
  · rw [if_pos q] at hf; exact H hr VV hf R X N
  · rw [if_neg q] at hf; exact H' hr VV hf R X N
end
end Mine
end
noncomputable section
open PySem PySem.Calls PyProof.Rows PySem.W
namespace Mine
noncomputable def nmT:List (List Nat):=[[115,101,108,102],
  [116,101,120,116],
  [112,108,97,99,101],
  [115,105,122,101],
  [112,97,114,116],
  [99,111,100,101,112,111,105,110,116],
  [115,111,117,114,99,101],
  [114,101,112,111,114,116,67,104,97,114,97,99,116,101,114,69,114,114,111,114,115],
  [99,104,97,114,97,99,116,101,114,69,114,114,111,114,115,85,67,83,52],
  [110,101,119,76,105,110,101,115],
  [100,97,116,97,83,116,114,101,97,109],
  [111,112,101,110,83,116,114,101,97,109],
  [114,101,115,101,116],
  [99,104,117,110,107],
  [99,104,117,110,107,83,105,122,101],
  [99,104,117,110,107,79,102,102,115,101,116],
  [101,114,114,111,114,115],
  [112,114,101,118,78,117,109,76,105,110,101,115],
  [112,114,101,118,78,117,109,67,111,108,115],
  [95,98,117,102,102,101,114,101,100,67,104,97,114,97,99,116,101,114],
  [115,116,114,101,97,109],
  [111,102,102,115,101,116],
  [110,76,105,110,101,115],
  [112,111,115,105,116,105,111,110,76,105,110,101],
  [108,97,115,116,76,105,110,101,80,111,115],
  [112,111,115,105,116,105,111,110,67,111,108,117,109,110],
  [114,101,97,100,67,104,117,110,107],
  [99,104,97,114],
  [95,100,101,102,97,117,108,116,67,104,117,110,107,83,105,122,101],
  [95,112,111,115,105,116,105,111,110],
  [100,97,116,97],
  [114,101,97,100],
  [108,97,115,116,118],
  [99],
  [99,104,97,114,97,99,116,101,114,115],
  [111,112,112,111,115,105,116,101],
  [114,118],
  [101,110,100],
  [114],
  [112,97,114,115,101,114],
  [101,115,99,97,112,101,70,108,97,103],
  [108,97,115,116,70,111,117,114,67,104,97,114,115],
  [115,116,97,116,101],
  [100,97,116,97,83,116,97,116,101],
  [101,115,99,97,112,101],
  [99,117,114,114,101,110,116,84,111,107,101,110],
  [101,110,116,105,116,121,68,97,116,97,83,116,97,116,101],
  [116,97,103,79,112,101,110,83,116,97,116,101],
  [116,111,107,101,110,81,117,101,117,101],
  [99,104,97,114,115,85,110,116,105,108],
  [99,104,97,114,115],
  [109,97,114,107,117,112,68,101,99,108,97,114,97,116,105,111,110,79,112,101,110,83,116,97,116,101],
  [99,108,111,115,101,84,97,103,79,112,101,110,83,116,97,116,101],
  [116,97,103,78,97,109,101,83,116,97,116,101],
  [117,110,103,101,116],
  [98,111,103,117,115,67,111,109,109,101,110,116,83,116,97,116,101],
  [99,104,97,114,83,116,97,99,107],
  [99,111,109,109,101,110,116,83,116,97,114,116,83,116,97,116,101],
  [109,97,116,99,104,101,100],
  [101,120,112,101,99,116,101,100],
  [100,111,99,116,121,112,101,83,116,97,116,101],
  [99,111,109,109,101,110,116,83,116,97,114,116,68,97,115,104,83,116,97,116,101],
  [99,111,109,109,101,110,116,83,116,97,116,101],
  [99,111,109,109,101,110,116,69,110,100,83,116,97,116,101],
  [99,111,109,109,101,110,116,69,110,100,68,97,115,104,83,116,97,116,101],
  [99,111,109,109,101,110,116,69,110,100,66,97,110,103,83,116,97,116,101],
  [110,97,109,101],
  [98,111,100,121],
  [115,105,103,110],
  [108,97,115,116],
  [115,108,105,112,115],
  [102,97,117,108,116,115],
  [100,117,101],
  [97,102,116,101,114],
  [116,104,105,114,100],
  [110,111,116,101],
  [117,115,101,100],
  [115,116,97,114,116],
  [119,111,114,100],
  [98,108,97,110,107],
  [115,99,114,105,112,116],
  [116],
  [103,111,116],
  [116,111,107,101,110],
  [110],
  [95,95,105,116,101,114,95,95],
  [115,112,97,99,101,67,104,97,114,97,99,116,101,114,115],
  [97,115,99,105,105,76,101,116,116,101,114,115],
  [116,111,107,101,110,84,121,112,101,115],
  [95,108,97,119,95,80,73,69,67,69,83],
  [69,79,70],
  [116,121,112,101],
  [98,101,102,111,114,101,68,111,99,116,121,112,101,78,97,109,101,83,116,97,116,101],
  [100,111,99,116,121,112,101,78,97,109,101,83,116,97,116,101],
  [97,102,116,101,114,68,111,99,116,121,112,101,78,97,109,101,83,116,97,116,101],
  [97,102,116,101,114,68,111,99,116,121,112,101,80,117,98,108,105,99,75,101,121,119,111,114,100,83,116,97,116,101],
  [97,102,116,101,114,68,111,99,116,121,112,101,83,121,115,116,101,109,75,101,121,119,111,114,100,83,116,97,116,101],
  [98,111,103,117,115,68,111,99,116,121,112,101,83,116,97,116,101],
  [98,101,102,111,114,101,68,111,99,116,121,112,101,80,117,98,108,105,99,73,100,101,110,116,105,102,105,101,114,83,116,97,116,101],
  [100,111,99,116,121,112,101,80,117,98,108,105,99,73,100,101,110,116,105,102,105,101,114,68,111,117,98,108,101,81,117,111,116,101,100,83,116,97,116,101],
  [100,111,99,116,121,112,101,80,117,98,108,105,99,73,100,101,110,116,105,102,105,101,114,83,105,110,103,108,101,81,117,111,116,101,100,83,116,97,116,101],
  [97,102,116,101,114,68,111,99,116,121,112,101,80,117,98,108,105,99,73,100,101,110,116,105,102,105,101,114,83,116,97,116,101],
  [98,101,116,119,101,101,110,68,111,99,116,121,112,101,80,117,98,108,105,99,65,110,100,83,121,115,116,101,109,73,100,101,110,116,105,102,105,101,114,115,83,116,97,116,101],
  [100,111,99,116,121,112,101,83,121,115,116,101,109,73,100,101,110,116,105,102,105,101,114,68,111,117,98,108,101,81,117,111,116,101,100,83,116,97,116,101],
  [100,111,99,116,121,112,101,83,121,115,116,101,109,73,100,101,110,116,105,102,105,101,114,83,105,110,103,108,101,81,117,111,116,101,100,83,116,97,116,101],
  [98,101,102,111,114,101,68,111,99,116,121,112,101,83,121,115,116,101,109,73,100,101,110,116,105,102,105,101,114,83,116,97,116,101],
  [97,102,116,101,114,68,111,99,116,121,112,101,83,121,115,116,101,109,73,100,101,110,116,105,102,105,101,114,83,116,97,116,101],
  [99,108,111,115,101,100],
  [108,111,115,116],
  [119,111,114,100,115],
  [111,100,100],
  [107,101,121],
  [102,105,116],
  [112,117,98,108,105,99],
  [109,111,114,101],
  [114,101,115,116],
  [115,121,115,116,101,109],
  [105,110,115,105,100,101],
  [99,111,114,114,101,99,116],
  [104,101,97,100],
  [109,97,114,107,115],
  [109,97,114,107],
  [95,108,97,119,95,66,76,65,78,75,83],
  [95,108,97,119,95,81,85,79,84,69,83]]
noncomputable def nm1 (i:Nat):Str:=toS (match nmT[i]? with | some x=>x | none=>0 :: List.replicate i 1)
noncomputable def fAT:List Nat:=[148,112,105,63,141,119,70,84,98,304,133,311,353,156,605,360,367,163,598,612,654,619,626,640,633,647,21,21,776,821,261,816,661,668,42,675,682,724,759,689,696,703,710,717,738,745,731,752,788,783,795,802,809]
noncomputable def cAT:List Nat:=[73,166,230,762]
noncomputable def gSpace:Mine.V:=(.tup [(.str [9]),(.str [10]),(.str [12]),(.str [32]),(.str [13])])
noncomputable def gLetters:Mine.V:=(.tup [(.str [97]),(.str [98]),(.str [99]),(.str [100]),(.str [101]),(.str [102]),(.str [103]),(.str [104]),(.str [105]),(.str [106]),(.str [107]),(.str [108]),(.str [109]),(.str [110]),(.str [111]),(.str [112]),(.str [113]),(.str [114]),(.str [115]),(.str [116]),(.str [117]),(.str [118]),(.str [119]),(.str [120]),(.str [121]),(.str [122]),(.str [65]),(.str [66]),(.str [67]),(.str [68]),(.str [69]),(.str [70]),(.str [71]),(.str [72]),(.str [73]),(.str [74]),(.str [75]),(.str [76]),(.str [77]),(.str [78]),(.str [79]),(.str [80]),(.str [81]),(.str [82]),(.str [83]),(.str [84]),(.str [85]),(.str [86]),(.str [87]),(.str [88]),(.str [89]),(.str [90])])
noncomputable def gPieces:Mine.V:=(.list [(.str [60,33,68,79,67,84,89,80,69]),(.str [32]),(.str [34,97,34]),(.str [62]),(.str [60,33,100,111,99,116,121,112,101,32,120,32,80,85,66,76,73,67]),(.str [39,98,39]),(.str [60,33,68,79,67,84,89,80,69,32,89,32,115,121,115,116,101,109]),(.str [34]),(.str [65,98]),(.str [0]),(.str [32,112,117,98,108,105,99]),(.str [39]),(.str [115,121,115]),(.str [60,33,100,111,99,116]),(.str [10]),(.str [112])])
noncomputable def gTokenTypes:Mine.V:=(.dict [[68,111,99,116,121,112,101],[67,104,97,114,97,99,116,101,114,115],[83,112,97,99,101,67,104,97,114,97,99,116,101,114,115],[83,116,97,114,116,84,97,103],[69,110,100,84,97,103],[69,109,112,116,121,84,97,103],[67,111,109,109,101,110,116],[80,97,114,115,101,69,114,114,111,114]] [(.int 0),(.int 1),(.int 2),(.int 3),(.int 4),(.int 5),(.int 6),(.int 7)])
noncomputable def gBlanks:Mine.V:=(.tup [(.str [32]),(.str [10])])
noncomputable def gQuotes:Mine.V:=(.tup [(.str [34]),(.str [39])])
noncomputable def m_Text_init:MFun:=
  { ps:=[0,1],ds:=[],body:=[.asgA (.loc 0) 1 0 (.loc 1),
      .asgA (.loc 0) 2 0 (.k (.int 0))] }
noncomputable def m_Text_read:MFun:=
  { ps:=[0,3],ds:=[],body:=[.asg 4 (.sl (.attr (.loc 0) 1 0) (.attr (.loc 0) 2 0) (.bop .add (.attr (.loc 0) 2 0) (.loc 3))),
      .augA (.loc 0) 2 0 .add (.bi .len [(.loc 4)]),
      .ret (.loc 4)] }
noncomputable def m_is_invalid:MFun:=
  { ps:=[5],ds:=[],body:=[.ret (.or (.cmp2 .le .le (.k (.int 1)) (.loc 5) (.k (.int 8))) (.or (.cmp .eq (.loc 5) (.k (.int 11))) (.or (.cmp2 .le .le (.k (.int 14)) (.loc 5) (.k (.int 31))) (.or (.cmp2 .le .le (.k (.int 127)) (.loc 5) (.k (.int 159))) (.or (.cmp2 .le .le (.k (.int 64976)) (.loc 5) (.k (.int 65007))) (.or (.cmp .inn (.bop .mod (.loc 5) (.k (.int 65536))) (.tup [(.k (.int 65534)),(.k (.int 65535))])) (.cmp2 .le .le (.k (.int 55296)) (.loc 5) (.k (.int 57343)))))))))] }
noncomputable def m_HTMLUnicodeInputStream_init:MFun:=
  { ps:=[0,6],ds:=[],body:=[.asgA (.loc 0) 7 1 (.bm (.loc 0) 8 1 0),
      .asgA (.loc 0) 9 1 (.lst [(.k (.int 0))] .tmp),
      .asgA (.loc 0) 10 1 (.mcall (.loc 0) 11 1 1 [(.loc 6)]),
      .ex (.mcall (.loc 0) 12 1 2 [])] }
noncomputable def m_HTMLUnicodeInputStream_reset:MFun:=
  { ps:=[0],ds:=[],body:=[.asgA (.loc 0) 13 1 (.k (.str [])),
      .asgA (.loc 0) 14 1 (.k (.int 0)),
      .asgA (.loc 0) 15 1 (.k (.int 0)),
      .asgA (.loc 0) 16 1 (.lst [] .tmp),
      .asgA (.loc 0) 17 1 (.k (.int 0)),
      .asgA (.loc 0) 18 1 (.k (.int 0)),
      .asgA (.loc 0) 19 1 (.k .none)] }
noncomputable def m_HTMLUnicodeInputStream_openStream:MFun:=
  { ps:=[0,6],ds:=[],body:=[.asg 20 (.new 0 3 [(.loc 6)] .tmp),
      .ret (.loc 20)] }
noncomputable def m_HTMLUnicodeInputStreamposition:MFun:=
  { ps:=[0,21],ds:=[],body:=[.asg 13 (.attr (.loc 0) 13 1),
      .asg 22 (.sm .count (.loc 13) [(.k (.str [10])),(.k (.int 0)),(.loc 21)]),
      .asg 23 (.bop .add (.attr (.loc 0) 17 1) (.loc 22)),
      .asg 24 (.sm .rfind (.loc 13) [(.k (.str [10])),(.k (.int 0)),(.loc 21)]),
      .iff (.cmp .eq (.loc 24) (.neg (.k (.int 1)))) [.asg 25 (.bop .add (.attr (.loc 0) 18 1) (.loc 21))] [.asg 25 (.bop .sub (.loc 21) (.bop .add (.loc 24) (.k (.int 1))))],
      .ret (.tup [(.loc 23),(.loc 25)])] }
noncomputable def m_HTMLUnicodeInputStream_char:MFun:=
  { ps:=[0],ds:=[],body:=[.iff (.cmp .ge (.attr (.loc 0) 15 1) (.attr (.loc 0) 14 1)) [.iff (.not (.mcall (.loc 0) 26 1 4 [])) [.ret (.glob .none)] []] [],
      .asg 15 (.attr (.loc 0) 15 1),
      .asg 27 (.sub (.attr (.loc 0) 13 1) (.loc 15)),
      .asgA (.loc 0) 15 1 (.bop .add (.loc 15) (.k (.int 1))),
      .ret (.loc 27)] }
noncomputable def m_HTMLUnicodeInputStream_readChunk:MFun:=
  { ps:=[0,14],ds:=[.none],body:=[.iff (.cmp .is (.loc 14) (.k .none)) [.asg 14 (.cat (.loc 0) 28 1 10240)] [],
      .asgTA (.loc 0) 17 1 (.loc 0) 18 1 (.mcall (.loc 0) 29 1 5 [(.attr (.loc 0) 14 1)]),
      .asgA (.loc 0) 13 1 (.k (.str [])),
      .asgA (.loc 0) 14 1 (.k (.int 0)),
      .asgA (.loc 0) 15 1 (.k (.int 0)),
      .asg 30 (.mcall (.attr (.loc 0) 10 1) 31 0 6 [(.loc 14)]),
      .iff (.attr (.loc 0) 19 1) [.asg 30 (.bop .add (.attr (.loc 0) 19 1) (.loc 30)),
      .asgA (.loc 0) 19 1 (.k .none)] [.iff (.not (.loc 30)) [.ret (.k (.bool false))] []],
      .iff (.cmp .gt (.bi .len [(.loc 30)]) (.k (.int 1))) [.asg 32 (.bi .ord [(.sub (.loc 30) (.neg (.k (.int 1))))]),
      .iff (.or (.cmp .eq (.loc 32) (.k (.int 13))) (.cmp2 .le .le (.k (.int 55296)) (.loc 32) (.k (.int 56319)))) [.asgA (.loc 0) 19 1 (.sub (.loc 30) (.neg (.k (.int 1)))),
      .asg 30 (.sl (.loc 30) (.k .none) (.neg (.k (.int 1))))] []] [],
      .iff (.attr (.loc 0) 7 1) [.ex (.fcall (.loc 0) 7 1 [(.loc 30)])] [],
      .asg 30 (.sm .replace (.loc 30) [(.k (.str [13,10])),(.k (.str [10]))]),
      .asg 30 (.sm .replace (.loc 30) [(.k (.str [13])),(.k (.str [10]))]),
      .asgA (.loc 0) 13 1 (.loc 30),
      .asgA (.loc 0) 14 1 (.bi .len [(.loc 30)]),
      .ret (.k (.bool true))] }
noncomputable def m_HTMLUnicodeInputStream_characterErrorsUCS4:MFun:=
  { ps:=[0,30],ds:=[],body:=[.for 33 (.loc 30) [.iff (.call 7 [(.bi .ord [(.loc 33)])]) [.ex (.app (.attr (.loc 0) 16 1) (.k (.str [105,110,118,97,108,105,100,45,99,111,100,101,112,111,105,110,116])))] []]] }
noncomputable def m_HTMLUnicodeInputStream_charsUntil:MFun:=
  { ps:=[0,34,35],ds:=[(.bool false)],body:=[.asg 36 (.lst [] .tmp),
      .whl (.k (.bool true)) [.asg 37 (.attr (.loc 0) 15 1),
      .whl (.and (.cmp .ne (.loc 37) (.attr (.loc 0) 14 1)) (.cmp .eq (.cmp .inn (.sub (.attr (.loc 0) 13 1) (.loc 37)) (.loc 34)) (.loc 35))) [.augN 37 .add (.k (.int 1))],
      .iff (.cmp .eq (.loc 37) (.attr (.loc 0) 15 1)) [.iff (.cmp .ne (.attr (.loc 0) 15 1) (.attr (.loc 0) 14 1)) [.brk] []] [.iff (.cmp .ne (.loc 37) (.attr (.loc 0) 14 1)) [.ex (.app (.loc 36) (.sl (.attr (.loc 0) 13 1) (.attr (.loc 0) 15 1) (.loc 37))),
      .asgA (.loc 0) 15 1 (.loc 37),
      .brk] []],
      .ex (.app (.loc 36) (.sl (.attr (.loc 0) 13 1) (.attr (.loc 0) 15 1) (.k .none))),
      .iff (.not (.mcall (.loc 0) 26 1 4 [])) [.brk] []],
      .asg 38 (.sm .join (.k (.str [])) [(.loc 36)]),
      .ret (.loc 38)] }
noncomputable def m_HTMLUnicodeInputStream_unget:MFun:=
  { ps:=[0,27],ds:=[],body:=[.iff (.cmp .isn (.loc 27) (.glob .none)) [.iff (.cmp .eq (.attr (.loc 0) 15 1) (.k (.int 0))) [.asgA (.loc 0) 13 1 (.bop .add (.loc 27) (.attr (.loc 0) 13 1)),
      .augA (.loc 0) 14 1 .add (.k (.int 1))] [.augA (.loc 0) 15 1 .sub (.k (.int 1)),
      .asrt (.cmp .eq (.sub (.attr (.loc 0) 13 1) (.attr (.loc 0) 15 1)) (.loc 27))]] []] }
noncomputable def m_asciiLower:MFun:=
  { ps:=[1],ds:=[],body:=[.ret (.sm .join (.k (.str [])) [(.comp (.ite (.cmp2 .le .le (.k (.str [65])) (.loc 33) (.k (.str [90]))) (.bi .chr [(.bop .add (.bi .ord [(.loc 33)]) (.k (.int 32)))]) (.loc 33)) 33 (.loc 1) (.k (.bool true)))])] }
noncomputable def m_HTMLTokenizer_init:MFun:=
  { ps:=[0,20,39],ds:=[.none],body:=[.asgA (.loc 0) 20 3 (.new 1 8 [(.loc 20)] .tmp),
      .asgA (.loc 0) 39 3 (.loc 39),
      .asgA (.loc 0) 40 3 (.k (.bool false)),
      .asgA (.loc 0) 41 3 (.lst [] .tmp),
      .asgA (.loc 0) 42 3 (.bm (.loc 0) 43 3 9),
      .asgA (.loc 0) 44 3 (.k (.bool false)),
      .asgA (.loc 0) 45 3 (.k .none)] }
noncomputable def m_HTMLTokenizer_dataState:MFun:=
  { ps:=[0],ds:=[],body:=[.asg 30 (.mcall (.attr (.loc 0) 20 3) 27 1 10 []),
      .iff (.cmp .eq (.loc 30) (.k (.str [38]))) [.asgA (.loc 0) 42 3 (.bm (.loc 0) 46 3 11)] [.iff (.cmp .eq (.loc 30) (.k (.str [60]))) [.asgA (.loc 0) 42 3 (.bm (.loc 0) 47 3 12)] [.iff (.cmp .eq (.loc 30) (.k (.str [0]))) [.ex (.app (.attr (.loc 0) 48 3) (.dct [[116,121,112,101],[100,97,116,97]] [(.sub (.glob gTokenTypes) (.k (.str [80,97,114,115,101,69,114,114,111,114]))),(.k (.str [105,110,118,97,108,105,100,45,99,111,100,101,112,111,105,110,116]))] .frz)),
      .ex (.app (.attr (.loc 0) 48 3) (.dct [[116,121,112,101],[100,97,116,97]] [(.sub (.glob gTokenTypes) (.k (.str [67,104,97,114,97,99,116,101,114,115]))),(.k (.str [0]))] .frz))] [.iff (.cmp .is (.loc 30) (.glob .none)) [.ret (.k (.bool false))] [.iff (.cmp .inn (.loc 30) (.glob gSpace)) [.ex (.app (.attr (.loc 0) 48 3) (.dct [[116,121,112,101],[100,97,116,97]] [(.sub (.glob gTokenTypes) (.k (.str [83,112,97,99,101,67,104,97,114,97,99,116,101,114,115]))),(.bop .add (.loc 30) (.mcall (.attr (.loc 0) 20 3) 49 1 13 [(.glob gSpace),(.k (.bool true))]))] .frz))] [.asg 50 (.mcall (.attr (.loc 0) 20 3) 49 1 13 [(.tup [(.k (.str [38])),(.k (.str [60])),(.k (.str [0]))])]),
      .ex (.app (.attr (.loc 0) 48 3) (.dct [[116,121,112,101],[100,97,116,97]] [(.sub (.glob gTokenTypes) (.k (.str [67,104,97,114,97,99,116,101,114,115]))),(.bop .add (.loc 30) (.loc 50))] .frz))]]]]],
      .ret (.k (.bool true))] }
noncomputable def m_HTMLTokenizer_tagOpenState:MFun:=
  { ps:=[0],ds:=[],body:=[.asg 30 (.mcall (.attr (.loc 0) 20 3) 27 1 10 []),
      .iff (.cmp .eq (.loc 30) (.k (.str [33]))) [.asgA (.loc 0) 42 3 (.bm (.loc 0) 51 3 14)] [.iff (.cmp .eq (.loc 30) (.k (.str [47]))) [.asgA (.loc 0) 42 3 (.bm (.loc 0) 52 3 15)] [.iff (.cmp .inn (.loc 30) (.glob gLetters)) [.asgA (.loc 0) 45 3 (.dct [[116,121,112,101],[110,97,109,101],[100,97,116,97],[115,101,108,102,67,108,111,115,105,110,103],[115,101,108,102,67,108,111,115,105,110,103,65,99,107,110,111,119,108,101,100,103,101,100]] [(.sub (.glob gTokenTypes) (.k (.str [83,116,97,114,116,84,97,103]))),(.loc 30),(.lst [] .frz),(.k (.bool false)),(.k (.bool false))] (.per 0)),
      .asgA (.loc 0) 42 3 (.bm (.loc 0) 53 3 16)] [.iff (.cmp .eq (.loc 30) (.k (.str [62]))) [.ex (.app (.attr (.loc 0) 48 3) (.dct [[116,121,112,101],[100,97,116,97]] [(.sub (.glob gTokenTypes) (.k (.str [80,97,114,115,101,69,114,114,111,114]))),(.k (.str [101,120,112,101,99,116,101,100,45,116,97,103,45,110,97,109,101,45,98,117,116,45,103,111,116,45,114,105,103,104,116,45,98,114,97,99,107,101,116]))] .frz)),
      .ex (.app (.attr (.loc 0) 48 3) (.dct [[116,121,112,101],[100,97,116,97]] [(.sub (.glob gTokenTypes) (.k (.str [67,104,97,114,97,99,116,101,114,115]))),(.k (.str [60,62]))] .frz)),
      .asgA (.loc 0) 42 3 (.bm (.loc 0) 43 3 9)] [.iff (.cmp .eq (.loc 30) (.k (.str [63]))) [.ex (.app (.attr (.loc 0) 48 3) (.dct [[116,121,112,101],[100,97,116,97]] [(.sub (.glob gTokenTypes) (.k (.str [80,97,114,115,101,69,114,114,111,114]))),(.k (.str [101,120,112,101,99,116,101,100,45,116,97,103,45,110,97,109,101,45,98,117,116,45,103,111,116,45,113,117,101,115,116,105,111,110,45,109,97,114,107]))] .frz)),
      .ex (.mcall (.attr (.loc 0) 20 3) 54 1 17 [(.loc 30)]),
      .asgA (.loc 0) 42 3 (.bm (.loc 0) 55 3 18)] [.ex (.app (.attr (.loc 0) 48 3) (.dct [[116,121,112,101],[100,97,116,97]] [(.sub (.glob gTokenTypes) (.k (.str [80,97,114,115,101,69,114,114,111,114]))),(.k (.str [101,120,112,101,99,116,101,100,45,116,97,103,45,110,97,109,101]))] .frz)),
      .ex (.app (.attr (.loc 0) 48 3) (.dct [[116,121,112,101],[100,97,116,97]] [(.sub (.glob gTokenTypes) (.k (.str [67,104,97,114,97,99,116,101,114,115]))),(.k (.str [60]))] .frz)),
      .ex (.mcall (.attr (.loc 0) 20 3) 54 1 17 [(.loc 30)]),
      .asgA (.loc 0) 42 3 (.bm (.loc 0) 43 3 9)]]]]],
      .ret (.k (.bool true))] }
noncomputable def m_HTMLTokenizer_bogusCommentState:MFun:=
  { ps:=[0],ds:=[],body:=[.asg 30 (.mcall (.attr (.loc 0) 20 3) 49 1 13 [(.k (.str [62]))]),
      .asg 30 (.sm .replace (.loc 30) [(.k (.str [0])),(.k (.str [65533]))]),
      .ex (.app (.attr (.loc 0) 48 3) (.dct [[116,121,112,101],[100,97,116,97]] [(.sub (.glob gTokenTypes) (.k (.str [67,111,109,109,101,110,116]))),(.loc 30)] .frz)),
      .ex (.mcall (.attr (.loc 0) 20 3) 27 1 10 []),
      .asgA (.loc 0) 42 3 (.bm (.loc 0) 43 3 9),
      .ret (.k (.bool true))] }
noncomputable def m_HTMLTokenizer_markupDeclarationOpenState:MFun:=
  { ps:=[0],ds:=[],body:=[.asg 56 (.lst [(.mcall (.attr (.loc 0) 20 3) 27 1 10 [])] .tmp),
      .iff (.cmp .eq (.sub (.loc 56) (.neg (.k (.int 1)))) (.k (.str [45]))) [.ex (.app (.loc 56) (.mcall (.attr (.loc 0) 20 3) 27 1 10 [])),
      .iff (.cmp .eq (.sub (.loc 56) (.neg (.k (.int 1)))) (.k (.str [45]))) [.asgA (.loc 0) 45 3 (.dct [[116,121,112,101],[100,97,116,97]] [(.sub (.glob gTokenTypes) (.k (.str [67,111,109,109,101,110,116]))),(.k (.str []))] (.per 0)),
      .asgA (.loc 0) 42 3 (.bm (.loc 0) 57 3 19),
      .ret (.k (.bool true))] []] [.iff (.cmp .inn (.sub (.loc 56) (.neg (.k (.int 1)))) (.tup [(.k (.str [100])),(.k (.str [68]))])) [.asg 58 (.k (.bool true)),
      .for 59 (.tup [(.tup [(.k (.str [111])),(.k (.str [79]))]),(.tup [(.k (.str [99])),(.k (.str [67]))]),(.tup [(.k (.str [116])),(.k (.str [84]))]),(.tup [(.k (.str [121])),(.k (.str [89]))]),(.tup [(.k (.str [112])),(.k (.str [80]))]),(.tup [(.k (.str [101])),(.k (.str [69]))])]) [.ex (.app (.loc 56) (.mcall (.attr (.loc 0) 20 3) 27 1 10 [])),
      .iff (.cmp .nin (.sub (.loc 56) (.neg (.k (.int 1)))) (.loc 59)) [.asg 58 (.k (.bool false)),
      .brk] []],
      .iff (.loc 58) [.asgA (.loc 0) 45 3 (.dct [[116,121,112,101],[110,97,109,101],[112,117,98,108,105,99,73,100],[115,121,115,116,101,109,73,100],[99,111,114,114,101,99,116]] [(.sub (.glob gTokenTypes) (.k (.str [68,111,99,116,121,112,101]))),(.k (.str [])),(.k .none),(.k .none),(.k (.bool true))] (.per 0)),
      .asgA (.loc 0) 42 3 (.bm (.loc 0) 60 3 20),
      .ret (.k (.bool true))] []] []],
      .ex (.app (.attr (.loc 0) 48 3) (.dct [[116,121,112,101],[100,97,116,97]] [(.sub (.glob gTokenTypes) (.k (.str [80,97,114,115,101,69,114,114,111,114]))),(.k (.str [101,120,112,101,99,116,101,100,45,100,97,115,104,101,115,45,111,114,45,100,111,99,116,121,112,101]))] .frz)),
      .whl (.loc 56) [.ex (.mcall (.attr (.loc 0) 20 3) 54 1 17 [(.pop (.loc 56) [])])],
      .asgA (.loc 0) 42 3 (.bm (.loc 0) 55 3 18),
      .ret (.k (.bool true))] }
noncomputable def m_HTMLTokenizer_doctypeState:MFun:=
  { ps:=[0],ds:=[],body:=[.asg 30 (.mcall (.attr (.loc 0) 20 3) 27 1 10 []),
      .iff (.cmp .inn (.loc 30) (.glob gSpace)) [.asgA (.loc 0) 42 3 (.bm (.loc 0) 92 3 32)] [.iff (.cmp .is (.loc 30) (.glob .none)) [.ex (.app (.attr (.loc 0) 48 3) (.dct [[116,121,112,101],[100,97,116,97]] [(.sub (.glob gTokenTypes) (.k (.str [80,97,114,115,101,69,114,114,111,114]))),(.k (.str [101,120,112,101,99,116,101,100,45,100,111,99,116,121,112,101,45,110,97,109,101,45,98,117,116,45,103,111,116,45,101,111,102]))] .frz)),
      .asgS (.attr (.loc 0) 45 3) (.k (.str [99,111,114,114,101,99,116])) (.k (.bool false)),
      .ex (.app (.attr (.loc 0) 48 3) (.attr (.loc 0) 45 3)),
      .asgA (.loc 0) 42 3 (.bm (.loc 0) 43 3 9)] [.ex (.app (.attr (.loc 0) 48 3) (.dct [[116,121,112,101],[100,97,116,97]] [(.sub (.glob gTokenTypes) (.k (.str [80,97,114,115,101,69,114,114,111,114]))),(.k (.str [110,101,101,100,45,115,112,97,99,101,45,97,102,116,101,114,45,100,111,99,116,121,112,101]))] .frz)),
      .ex (.mcall (.attr (.loc 0) 20 3) 54 1 17 [(.loc 30)]),
      .asgA (.loc 0) 42 3 (.bm (.loc 0) 92 3 32)]],
      .ret (.k (.bool true))] }
noncomputable def m_HTMLTokenizer_beforeDoctypeNameState:MFun:=
  { ps:=[0],ds:=[],body:=[.asg 30 (.mcall (.attr (.loc 0) 20 3) 27 1 10 []),
      .iff (.cmp .inn (.loc 30) (.glob gSpace)) [.pass] [.iff (.cmp .eq (.loc 30) (.k (.str [62]))) [.ex (.app (.attr (.loc 0) 48 3) (.dct [[116,121,112,101],[100,97,116,97]] [(.sub (.glob gTokenTypes) (.k (.str [80,97,114,115,101,69,114,114,111,114]))),(.k (.str [101,120,112,101,99,116,101,100,45,100,111,99,116,121,112,101,45,110,97,109,101,45,98,117,116,45,103,111,116,45,114,105,103,104,116,45,98,114,97,99,107,101,116]))] .frz)),
      .asgS (.attr (.loc 0) 45 3) (.k (.str [99,111,114,114,101,99,116])) (.k (.bool false)),
      .ex (.app (.attr (.loc 0) 48 3) (.attr (.loc 0) 45 3)),
      .asgA (.loc 0) 42 3 (.bm (.loc 0) 43 3 9)] [.iff (.cmp .eq (.loc 30) (.k (.str [0]))) [.ex (.app (.attr (.loc 0) 48 3) (.dct [[116,121,112,101],[100,97,116,97]] [(.sub (.glob gTokenTypes) (.k (.str [80,97,114,115,101,69,114,114,111,114]))),(.k (.str [105,110,118,97,108,105,100,45,99,111,100,101,112,111,105,110,116]))] .frz)),
      .asgS (.attr (.loc 0) 45 3) (.k (.str [110,97,109,101])) (.k (.str [65533])),
      .asgA (.loc 0) 42 3 (.bm (.loc 0) 93 3 33)] [.iff (.cmp .is (.loc 30) (.glob .none)) [.ex (.app (.attr (.loc 0) 48 3) (.dct [[116,121,112,101],[100,97,116,97]] [(.sub (.glob gTokenTypes) (.k (.str [80,97,114,115,101,69,114,114,111,114]))),(.k (.str [101,120,112,101,99,116,101,100,45,100,111,99,116,121,112,101,45,110,97,109,101,45,98,117,116,45,103,111,116,45,101,111,102]))] .frz)),
      .asgS (.attr (.loc 0) 45 3) (.k (.str [99,111,114,114,101,99,116])) (.k (.bool false)),
      .ex (.app (.attr (.loc 0) 48 3) (.attr (.loc 0) 45 3)),
      .asgA (.loc 0) 42 3 (.bm (.loc 0) 43 3 9)] [.asgS (.attr (.loc 0) 45 3) (.k (.str [110,97,109,101])) (.loc 30),
      .asgA (.loc 0) 42 3 (.bm (.loc 0) 93 3 33)]]]],
      .ret (.k (.bool true))] }
noncomputable def m_HTMLTokenizer_doctypeNameState:MFun:=
  { ps:=[0],ds:=[],body:=[.asg 30 (.mcall (.attr (.loc 0) 20 3) 27 1 10 []),
      .iff (.cmp .inn (.loc 30) (.glob gSpace)) [.asgS (.attr (.loc 0) 45 3) (.k (.str [110,97,109,101])) (.call 34 [(.sub (.attr (.loc 0) 45 3) (.k (.str [110,97,109,101])))]),
      .asgA (.loc 0) 42 3 (.bm (.loc 0) 94 3 35)] [.iff (.cmp .eq (.loc 30) (.k (.str [62]))) [.asgS (.attr (.loc 0) 45 3) (.k (.str [110,97,109,101])) (.call 34 [(.sub (.attr (.loc 0) 45 3) (.k (.str [110,97,109,101])))]),
      .ex (.app (.attr (.loc 0) 48 3) (.attr (.loc 0) 45 3)),
      .asgA (.loc 0) 42 3 (.bm (.loc 0) 43 3 9)] [.iff (.cmp .eq (.loc 30) (.k (.str [0]))) [.ex (.app (.attr (.loc 0) 48 3) (.dct [[116,121,112,101],[100,97,116,97]] [(.sub (.glob gTokenTypes) (.k (.str [80,97,114,115,101,69,114,114,111,114]))),(.k (.str [105,110,118,97,108,105,100,45,99,111,100,101,112,111,105,110,116]))] .frz)),
      .augS (.attr (.loc 0) 45 3) (.k (.str [110,97,109,101])) .add (.k (.str [65533])),
      .asgA (.loc 0) 42 3 (.bm (.loc 0) 93 3 33)] [.iff (.cmp .is (.loc 30) (.glob .none)) [.ex (.app (.attr (.loc 0) 48 3) (.dct [[116,121,112,101],[100,97,116,97]] [(.sub (.glob gTokenTypes) (.k (.str [80,97,114,115,101,69,114,114,111,114]))),(.k (.str [101,111,102,45,105,110,45,100,111,99,116,121,112,101,45,110,97,109,101]))] .frz)),
      .asgS (.attr (.loc 0) 45 3) (.k (.str [99,111,114,114,101,99,116])) (.k (.bool false)),
      .asgS (.attr (.loc 0) 45 3) (.k (.str [110,97,109,101])) (.call 34 [(.sub (.attr (.loc 0) 45 3) (.k (.str [110,97,109,101])))]),
      .ex (.app (.attr (.loc 0) 48 3) (.attr (.loc 0) 45 3)),
      .asgA (.loc 0) 42 3 (.bm (.loc 0) 43 3 9)] [.augS (.attr (.loc 0) 45 3) (.k (.str [110,97,109,101])) .add (.loc 30)]]]],
      .ret (.k (.bool true))] }
noncomputable def m_HTMLTokenizer_afterDoctypeNameState:MFun:=
  { ps:=[0],ds:=[],body:=[.asg 30 (.mcall (.attr (.loc 0) 20 3) 27 1 10 []),
      .iff (.cmp .inn (.loc 30) (.glob gSpace)) [.pass] [.iff (.cmp .eq (.loc 30) (.k (.str [62]))) [.ex (.app (.attr (.loc 0) 48 3) (.attr (.loc 0) 45 3)),
      .asgA (.loc 0) 42 3 (.bm (.loc 0) 43 3 9)] [.iff (.cmp .is (.loc 30) (.glob .none)) [.asgS (.attr (.loc 0) 45 3) (.k (.str [99,111,114,114,101,99,116])) (.k (.bool false)),
      .ex (.mcall (.attr (.loc 0) 20 3) 54 1 17 [(.loc 30)]),
      .ex (.app (.attr (.loc 0) 48 3) (.dct [[116,121,112,101],[100,97,116,97]] [(.sub (.glob gTokenTypes) (.k (.str [80,97,114,115,101,69,114,114,111,114]))),(.k (.str [101,111,102,45,105,110,45,100,111,99,116,121,112,101]))] .frz)),
      .ex (.app (.attr (.loc 0) 48 3) (.attr (.loc 0) 45 3)),
      .asgA (.loc 0) 42 3 (.bm (.loc 0) 43 3 9)] [.iff (.cmp .inn (.loc 30) (.tup [(.k (.str [112])),(.k (.str [80]))])) [.asg 58 (.k (.bool true)),
      .for 59 (.tup [(.tup [(.k (.str [117])),(.k (.str [85]))]),(.tup [(.k (.str [98])),(.k (.str [66]))]),(.tup [(.k (.str [108])),(.k (.str [76]))]),(.tup [(.k (.str [105])),(.k (.str [73]))]),(.tup [(.k (.str [99])),(.k (.str [67]))])]) [.asg 30 (.mcall (.attr (.loc 0) 20 3) 27 1 10 []),
      .iff (.cmp .nin (.loc 30) (.loc 59)) [.asg 58 (.k (.bool false)),
      .brk] []],
      .iff (.loc 58) [.asgA (.loc 0) 42 3 (.bm (.loc 0) 95 3 36),
      .ret (.k (.bool true))] []] [.iff (.cmp .inn (.loc 30) (.tup [(.k (.str [115])),(.k (.str [83]))])) [.asg 58 (.k (.bool true)),
      .for 59 (.tup [(.tup [(.k (.str [121])),(.k (.str [89]))]),(.tup [(.k (.str [115])),(.k (.str [83]))]),(.tup [(.k (.str [116])),(.k (.str [84]))]),(.tup [(.k (.str [101])),(.k (.str [69]))]),(.tup [(.k (.str [109])),(.k (.str [77]))])]) [.asg 30 (.mcall (.attr (.loc 0) 20 3) 27 1 10 []),
      .iff (.cmp .nin (.loc 30) (.loc 59)) [.asg 58 (.k (.bool false)),
      .brk] []],
      .iff (.loc 58) [.asgA (.loc 0) 42 3 (.bm (.loc 0) 96 3 37),
      .ret (.k (.bool true))] []] []],
      .ex (.mcall (.attr (.loc 0) 20 3) 54 1 17 [(.loc 30)]),
      .ex (.app (.attr (.loc 0) 48 3) (.dct [[116,121,112,101],[100,97,116,97],[100,97,116,97,118,97,114,115]] [(.sub (.glob gTokenTypes) (.k (.str [80,97,114,115,101,69,114,114,111,114]))),(.k (.str [101,120,112,101,99,116,101,100,45,115,112,97,99,101,45,111,114,45,114,105,103,104,116,45,98,114,97,99,107,101,116,45,105,110,45,100,111,99,116,121,112,101])),(.dct [[100,97,116,97]] [(.loc 30)] .frz)] .frz)),
      .asgS (.attr (.loc 0) 45 3) (.k (.str [99,111,114,114,101,99,116])) (.k (.bool false)),
      .asgA (.loc 0) 42 3 (.bm (.loc 0) 97 3 38)]]],
      .ret (.k (.bool true))] }
noncomputable def m_HTMLTokenizer_afterDoctypePublicKeywordState:MFun:=
  { ps:=[0],ds:=[],body:=[.asg 30 (.mcall (.attr (.loc 0) 20 3) 27 1 10 []),
      .iff (.cmp .inn (.loc 30) (.glob gSpace)) [.asgA (.loc 0) 42 3 (.bm (.loc 0) 98 3 39)] [.iff (.cmp .inn (.loc 30) (.tup [(.k (.str [39])),(.k (.str [34]))])) [.ex (.app (.attr (.loc 0) 48 3) (.dct [[116,121,112,101],[100,97,116,97]] [(.sub (.glob gTokenTypes) (.k (.str [80,97,114,115,101,69,114,114,111,114]))),(.k (.str [117,110,101,120,112,101,99,116,101,100,45,99,104,97,114,45,105,110,45,100,111,99,116,121,112,101]))] .frz)),
      .ex (.mcall (.attr (.loc 0) 20 3) 54 1 17 [(.loc 30)]),
      .asgA (.loc 0) 42 3 (.bm (.loc 0) 98 3 39)] [.iff (.cmp .is (.loc 30) (.glob .none)) [.ex (.app (.attr (.loc 0) 48 3) (.dct [[116,121,112,101],[100,97,116,97]] [(.sub (.glob gTokenTypes) (.k (.str [80,97,114,115,101,69,114,114,111,114]))),(.k (.str [101,111,102,45,105,110,45,100,111,99,116,121,112,101]))] .frz)),
      .asgS (.attr (.loc 0) 45 3) (.k (.str [99,111,114,114,101,99,116])) (.k (.bool false)),
      .ex (.app (.attr (.loc 0) 48 3) (.attr (.loc 0) 45 3)),
      .asgA (.loc 0) 42 3 (.bm (.loc 0) 43 3 9)] [.ex (.mcall (.attr (.loc 0) 20 3) 54 1 17 [(.loc 30)]),
      .asgA (.loc 0) 42 3 (.bm (.loc 0) 98 3 39)]]],
      .ret (.k (.bool true))] }
noncomputable def m_HTMLTokenizer_beforeDoctypePublicIdentifierState:MFun:=
  { ps:=[0],ds:=[],body:=[.asg 30 (.mcall (.attr (.loc 0) 20 3) 27 1 10 []),
      .iff (.cmp .inn (.loc 30) (.glob gSpace)) [.pass] [.iff (.cmp .eq (.loc 30) (.k (.str [34]))) [.asgS (.attr (.loc 0) 45 3) (.k (.str [112,117,98,108,105,99,73,100])) (.k (.str [])),
      .asgA (.loc 0) 42 3 (.bm (.loc 0) 99 3 40)] [.iff (.cmp .eq (.loc 30) (.k (.str [39]))) [.asgS (.attr (.loc 0) 45 3) (.k (.str [112,117,98,108,105,99,73,100])) (.k (.str [])),
      .asgA (.loc 0) 42 3 (.bm (.loc 0) 100 3 41)] [.iff (.cmp .eq (.loc 30) (.k (.str [62]))) [.ex (.app (.attr (.loc 0) 48 3) (.dct [[116,121,112,101],[100,97,116,97]] [(.sub (.glob gTokenTypes) (.k (.str [80,97,114,115,101,69,114,114,111,114]))),(.k (.str [117,110,101,120,112,101,99,116,101,100,45,101,110,100,45,111,102,45,100,111,99,116,121,112,101]))] .frz)),
      .asgS (.attr (.loc 0) 45 3) (.k (.str [99,111,114,114,101,99,116])) (.k (.bool false)),
      .ex (.app (.attr (.loc 0) 48 3) (.attr (.loc 0) 45 3)),
      .asgA (.loc 0) 42 3 (.bm (.loc 0) 43 3 9)] [.iff (.cmp .is (.loc 30) (.glob .none)) [.ex (.app (.attr (.loc 0) 48 3) (.dct [[116,121,112,101],[100,97,116,97]] [(.sub (.glob gTokenTypes) (.k (.str [80,97,114,115,101,69,114,114,111,114]))),(.k (.str [101,111,102,45,105,110,45,100,111,99,116,121,112,101]))] .frz)),
      .asgS (.attr (.loc 0) 45 3) (.k (.str [99,111,114,114,101,99,116])) (.k (.bool false)),
      .ex (.app (.attr (.loc 0) 48 3) (.attr (.loc 0) 45 3)),
      .asgA (.loc 0) 42 3 (.bm (.loc 0) 43 3 9)] [.ex (.app (.attr (.loc 0) 48 3) (.dct [[116,121,112,101],[100,97,116,97]] [(.sub (.glob gTokenTypes) (.k (.str [80,97,114,115,101,69,114,114,111,114]))),(.k (.str [117,110,101,120,112,101,99,116,101,100,45,99,104,97,114,45,105,110,45,100,111,99,116,121,112,101]))] .frz)),
      .asgS (.attr (.loc 0) 45 3) (.k (.str [99,111,114,114,101,99,116])) (.k (.bool false)),
      .asgA (.loc 0) 42 3 (.bm (.loc 0) 97 3 38)]]]]],
      .ret (.k (.bool true))] }
noncomputable def m_HTMLTokenizer_doctypePublicIdentifierDoubleQuotedState:MFun:=
  { ps:=[0],ds:=[],body:=[.asg 30 (.mcall (.attr (.loc 0) 20 3) 27 1 10 []),
      .iff (.cmp .eq (.loc 30) (.k (.str [34]))) [.asgA (.loc 0) 42 3 (.bm (.loc 0) 101 3 42)] [.iff (.cmp .eq (.loc 30) (.k (.str [0]))) [.ex (.app (.attr (.loc 0) 48 3) (.dct [[116,121,112,101],[100,97,116,97]] [(.sub (.glob gTokenTypes) (.k (.str [80,97,114,115,101,69,114,114,111,114]))),(.k (.str [105,110,118,97,108,105,100,45,99,111,100,101,112,111,105,110,116]))] .frz)),
      .augS (.attr (.loc 0) 45 3) (.k (.str [112,117,98,108,105,99,73,100])) .add (.k (.str [65533]))] [.iff (.cmp .eq (.loc 30) (.k (.str [62]))) [.ex (.app (.attr (.loc 0) 48 3) (.dct [[116,121,112,101],[100,97,116,97]] [(.sub (.glob gTokenTypes) (.k (.str [80,97,114,115,101,69,114,114,111,114]))),(.k (.str [117,110,101,120,112,101,99,116,101,100,45,101,110,100,45,111,102,45,100,111,99,116,121,112,101]))] .frz)),
      .asgS (.attr (.loc 0) 45 3) (.k (.str [99,111,114,114,101,99,116])) (.k (.bool false)),
      .ex (.app (.attr (.loc 0) 48 3) (.attr (.loc 0) 45 3)),
      .asgA (.loc 0) 42 3 (.bm (.loc 0) 43 3 9)] [.iff (.cmp .is (.loc 30) (.glob .none)) [.ex (.app (.attr (.loc 0) 48 3) (.dct [[116,121,112,101],[100,97,116,97]] [(.sub (.glob gTokenTypes) (.k (.str [80,97,114,115,101,69,114,114,111,114]))),(.k (.str [101,111,102,45,105,110,45,100,111,99,116,121,112,101]))] .frz)),
      .asgS (.attr (.loc 0) 45 3) (.k (.str [99,111,114,114,101,99,116])) (.k (.bool false)),
      .ex (.app (.attr (.loc 0) 48 3) (.attr (.loc 0) 45 3)),
      .asgA (.loc 0) 42 3 (.bm (.loc 0) 43 3 9)] [.augS (.attr (.loc 0) 45 3) (.k (.str [112,117,98,108,105,99,73,100])) .add (.loc 30)]]]],
      .ret (.k (.bool true))] }
noncomputable def m_HTMLTokenizer_doctypePublicIdentifierSingleQuotedState:MFun:=
  { ps:=[0],ds:=[],body:=[.asg 30 (.mcall (.attr (.loc 0) 20 3) 27 1 10 []),
      .iff (.cmp .eq (.loc 30) (.k (.str [39]))) [.asgA (.loc 0) 42 3 (.bm (.loc 0) 101 3 42)] [.iff (.cmp .eq (.loc 30) (.k (.str [0]))) [.ex (.app (.attr (.loc 0) 48 3) (.dct [[116,121,112,101],[100,97,116,97]] [(.sub (.glob gTokenTypes) (.k (.str [80,97,114,115,101,69,114,114,111,114]))),(.k (.str [105,110,118,97,108,105,100,45,99,111,100,101,112,111,105,110,116]))] .frz)),
      .augS (.attr (.loc 0) 45 3) (.k (.str [112,117,98,108,105,99,73,100])) .add (.k (.str [65533]))] [.iff (.cmp .eq (.loc 30) (.k (.str [62]))) [.ex (.app (.attr (.loc 0) 48 3) (.dct [[116,121,112,101],[100,97,116,97]] [(.sub (.glob gTokenTypes) (.k (.str [80,97,114,115,101,69,114,114,111,114]))),(.k (.str [117,110,101,120,112,101,99,116,101,100,45,101,110,100,45,111,102,45,100,111,99,116,121,112,101]))] .frz)),
      .asgS (.attr (.loc 0) 45 3) (.k (.str [99,111,114,114,101,99,116])) (.k (.bool false)),
      .ex (.app (.attr (.loc 0) 48 3) (.attr (.loc 0) 45 3)),
      .asgA (.loc 0) 42 3 (.bm (.loc 0) 43 3 9)] [.iff (.cmp .is (.loc 30) (.glob .none)) [.ex (.app (.attr (.loc 0) 48 3) (.dct [[116,121,112,101],[100,97,116,97]] [(.sub (.glob gTokenTypes) (.k (.str [80,97,114,115,101,69,114,114,111,114]))),(.k (.str [101,111,102,45,105,110,45,100,111,99,116,121,112,101]))] .frz)),
      .asgS (.attr (.loc 0) 45 3) (.k (.str [99,111,114,114,101,99,116])) (.k (.bool false)),
      .ex (.app (.attr (.loc 0) 48 3) (.attr (.loc 0) 45 3)),
      .asgA (.loc 0) 42 3 (.bm (.loc 0) 43 3 9)] [.augS (.attr (.loc 0) 45 3) (.k (.str [112,117,98,108,105,99,73,100])) .add (.loc 30)]]]],
      .ret (.k (.bool true))] }
noncomputable def m_HTMLTokenizer_afterDoctypePublicIdentifierState:MFun:=
  { ps:=[0],ds:=[],body:=[.asg 30 (.mcall (.attr (.loc 0) 20 3) 27 1 10 []),
      .iff (.cmp .inn (.loc 30) (.glob gSpace)) [.asgA (.loc 0) 42 3 (.bm (.loc 0) 102 3 43)] [.iff (.cmp .eq (.loc 30) (.k (.str [62]))) [.ex (.app (.attr (.loc 0) 48 3) (.attr (.loc 0) 45 3)),
      .asgA (.loc 0) 42 3 (.bm (.loc 0) 43 3 9)] [.iff (.cmp .eq (.loc 30) (.k (.str [34]))) [.ex (.app (.attr (.loc 0) 48 3) (.dct [[116,121,112,101],[100,97,116,97]] [(.sub (.glob gTokenTypes) (.k (.str [80,97,114,115,101,69,114,114,111,114]))),(.k (.str [117,110,101,120,112,101,99,116,101,100,45,99,104,97,114,45,105,110,45,100,111,99,116,121,112,101]))] .frz)),
      .asgS (.attr (.loc 0) 45 3) (.k (.str [115,121,115,116,101,109,73,100])) (.k (.str [])),
      .asgA (.loc 0) 42 3 (.bm (.loc 0) 103 3 44)] [.iff (.cmp .eq (.loc 30) (.k (.str [39]))) [.ex (.app (.attr (.loc 0) 48 3) (.dct [[116,121,112,101],[100,97,116,97]] [(.sub (.glob gTokenTypes) (.k (.str [80,97,114,115,101,69,114,114,111,114]))),(.k (.str [117,110,101,120,112,101,99,116,101,100,45,99,104,97,114,45,105,110,45,100,111,99,116,121,112,101]))] .frz)),
      .asgS (.attr (.loc 0) 45 3) (.k (.str [115,121,115,116,101,109,73,100])) (.k (.str [])),
      .asgA (.loc 0) 42 3 (.bm (.loc 0) 104 3 45)] [.iff (.cmp .is (.loc 30) (.glob .none)) [.ex (.app (.attr (.loc 0) 48 3) (.dct [[116,121,112,101],[100,97,116,97]] [(.sub (.glob gTokenTypes) (.k (.str [80,97,114,115,101,69,114,114,111,114]))),(.k (.str [101,111,102,45,105,110,45,100,111,99,116,121,112,101]))] .frz)),
      .asgS (.attr (.loc 0) 45 3) (.k (.str [99,111,114,114,101,99,116])) (.k (.bool false)),
      .ex (.app (.attr (.loc 0) 48 3) (.attr (.loc 0) 45 3)),
      .asgA (.loc 0) 42 3 (.bm (.loc 0) 43 3 9)] [.ex (.app (.attr (.loc 0) 48 3) (.dct [[116,121,112,101],[100,97,116,97]] [(.sub (.glob gTokenTypes) (.k (.str [80,97,114,115,101,69,114,114,111,114]))),(.k (.str [117,110,101,120,112,101,99,116,101,100,45,99,104,97,114,45,105,110,45,100,111,99,116,121,112,101]))] .frz)),
      .asgS (.attr (.loc 0) 45 3) (.k (.str [99,111,114,114,101,99,116])) (.k (.bool false)),
      .asgA (.loc 0) 42 3 (.bm (.loc 0) 97 3 38)]]]]],
      .ret (.k (.bool true))] }
noncomputable def m_HTMLTokenizer_betweenDoctypePublicAndSystemIdentifiersState:MFun:=
  { ps:=[0],ds:=[],body:=[.asg 30 (.mcall (.attr (.loc 0) 20 3) 27 1 10 []),
      .iff (.cmp .inn (.loc 30) (.glob gSpace)) [.pass] [.iff (.cmp .eq (.loc 30) (.k (.str [62]))) [.ex (.app (.attr (.loc 0) 48 3) (.attr (.loc 0) 45 3)),
      .asgA (.loc 0) 42 3 (.bm (.loc 0) 43 3 9)] [.iff (.cmp .eq (.loc 30) (.k (.str [34]))) [.asgS (.attr (.loc 0) 45 3) (.k (.str [115,121,115,116,101,109,73,100])) (.k (.str [])),
      .asgA (.loc 0) 42 3 (.bm (.loc 0) 103 3 44)] [.iff (.cmp .eq (.loc 30) (.k (.str [39]))) [.asgS (.attr (.loc 0) 45 3) (.k (.str [115,121,115,116,101,109,73,100])) (.k (.str [])),
      .asgA (.loc 0) 42 3 (.bm (.loc 0) 104 3 45)] [.iff (.cmp .eq (.loc 30) (.glob .none)) [.ex (.app (.attr (.loc 0) 48 3) (.dct [[116,121,112,101],[100,97,116,97]] [(.sub (.glob gTokenTypes) (.k (.str [80,97,114,115,101,69,114,114,111,114]))),(.k (.str [101,111,102,45,105,110,45,100,111,99,116,121,112,101]))] .frz)),
      .asgS (.attr (.loc 0) 45 3) (.k (.str [99,111,114,114,101,99,116])) (.k (.bool false)),
      .ex (.app (.attr (.loc 0) 48 3) (.attr (.loc 0) 45 3)),
      .asgA (.loc 0) 42 3 (.bm (.loc 0) 43 3 9)] [.ex (.app (.attr (.loc 0) 48 3) (.dct [[116,121,112,101],[100,97,116,97]] [(.sub (.glob gTokenTypes) (.k (.str [80,97,114,115,101,69,114,114,111,114]))),(.k (.str [117,110,101,120,112,101,99,116,101,100,45,99,104,97,114,45,105,110,45,100,111,99,116,121,112,101]))] .frz)),
      .asgS (.attr (.loc 0) 45 3) (.k (.str [99,111,114,114,101,99,116])) (.k (.bool false)),
      .asgA (.loc 0) 42 3 (.bm (.loc 0) 97 3 38)]]]]],
      .ret (.k (.bool true))] }
noncomputable def m_HTMLTokenizer_afterDoctypeSystemKeywordState:MFun:=
  { ps:=[0],ds:=[],body:=[.asg 30 (.mcall (.attr (.loc 0) 20 3) 27 1 10 []),
      .iff (.cmp .inn (.loc 30) (.glob gSpace)) [.asgA (.loc 0) 42 3 (.bm (.loc 0) 105 3 46)] [.iff (.cmp .inn (.loc 30) (.tup [(.k (.str [39])),(.k (.str [34]))])) [.ex (.app (.attr (.loc 0) 48 3) (.dct [[116,121,112,101],[100,97,116,97]] [(.sub (.glob gTokenTypes) (.k (.str [80,97,114,115,101,69,114,114,111,114]))),(.k (.str [117,110,101,120,112,101,99,116,101,100,45,99,104,97,114,45,105,110,45,100,111,99,116,121,112,101]))] .frz)),
      .ex (.mcall (.attr (.loc 0) 20 3) 54 1 17 [(.loc 30)]),
      .asgA (.loc 0) 42 3 (.bm (.loc 0) 105 3 46)] [.iff (.cmp .is (.loc 30) (.glob .none)) [.ex (.app (.attr (.loc 0) 48 3) (.dct [[116,121,112,101],[100,97,116,97]] [(.sub (.glob gTokenTypes) (.k (.str [80,97,114,115,101,69,114,114,111,114]))),(.k (.str [101,111,102,45,105,110,45,100,111,99,116,121,112,101]))] .frz)),
      .asgS (.attr (.loc 0) 45 3) (.k (.str [99,111,114,114,101,99,116])) (.k (.bool false)),
      .ex (.app (.attr (.loc 0) 48 3) (.attr (.loc 0) 45 3)),
      .asgA (.loc 0) 42 3 (.bm (.loc 0) 43 3 9)] [.ex (.mcall (.attr (.loc 0) 20 3) 54 1 17 [(.loc 30)]),
      .asgA (.loc 0) 42 3 (.bm (.loc 0) 105 3 46)]]],
      .ret (.k (.bool true))] }
noncomputable def m_HTMLTokenizer_beforeDoctypeSystemIdentifierState:MFun:=
  { ps:=[0],ds:=[],body:=[.asg 30 (.mcall (.attr (.loc 0) 20 3) 27 1 10 []),
      .iff (.cmp .inn (.loc 30) (.glob gSpace)) [.pass] [.iff (.cmp .eq (.loc 30) (.k (.str [34]))) [.asgS (.attr (.loc 0) 45 3) (.k (.str [115,121,115,116,101,109,73,100])) (.k (.str [])),
      .asgA (.loc 0) 42 3 (.bm (.loc 0) 103 3 44)] [.iff (.cmp .eq (.loc 30) (.k (.str [39]))) [.asgS (.attr (.loc 0) 45 3) (.k (.str [115,121,115,116,101,109,73,100])) (.k (.str [])),
      .asgA (.loc 0) 42 3 (.bm (.loc 0) 104 3 45)] [.iff (.cmp .eq (.loc 30) (.k (.str [62]))) [.ex (.app (.attr (.loc 0) 48 3) (.dct [[116,121,112,101],[100,97,116,97]] [(.sub (.glob gTokenTypes) (.k (.str [80,97,114,115,101,69,114,114,111,114]))),(.k (.str [117,110,101,120,112,101,99,116,101,100,45,99,104,97,114,45,105,110,45,100,111,99,116,121,112,101]))] .frz)),
      .asgS (.attr (.loc 0) 45 3) (.k (.str [99,111,114,114,101,99,116])) (.k (.bool false)),
      .ex (.app (.attr (.loc 0) 48 3) (.attr (.loc 0) 45 3)),
      .asgA (.loc 0) 42 3 (.bm (.loc 0) 43 3 9)] [.iff (.cmp .is (.loc 30) (.glob .none)) [.ex (.app (.attr (.loc 0) 48 3) (.dct [[116,121,112,101],[100,97,116,97]] [(.sub (.glob gTokenTypes) (.k (.str [80,97,114,115,101,69,114,114,111,114]))),(.k (.str [101,111,102,45,105,110,45,100,111,99,116,121,112,101]))] .frz)),
      .asgS (.attr (.loc 0) 45 3) (.k (.str [99,111,114,114,101,99,116])) (.k (.bool false)),
      .ex (.app (.attr (.loc 0) 48 3) (.attr (.loc 0) 45 3)),
      .asgA (.loc 0) 42 3 (.bm (.loc 0) 43 3 9)] [.ex (.app (.attr (.loc 0) 48 3) (.dct [[116,121,112,101],[100,97,116,97]] [(.sub (.glob gTokenTypes) (.k (.str [80,97,114,115,101,69,114,114,111,114]))),(.k (.str [117,110,101,120,112,101,99,116,101,100,45,99,104,97,114,45,105,110,45,100,111,99,116,121,112,101]))] .frz)),
      .asgS (.attr (.loc 0) 45 3) (.k (.str [99,111,114,114,101,99,116])) (.k (.bool false)),
      .asgA (.loc 0) 42 3 (.bm (.loc 0) 97 3 38)]]]]],
      .ret (.k (.bool true))] }
noncomputable def m_HTMLTokenizer_doctypeSystemIdentifierDoubleQuotedState:MFun:=
  { ps:=[0],ds:=[],body:=[.asg 30 (.mcall (.attr (.loc 0) 20 3) 27 1 10 []),
      .iff (.cmp .eq (.loc 30) (.k (.str [34]))) [.asgA (.loc 0) 42 3 (.bm (.loc 0) 106 3 47)] [.iff (.cmp .eq (.loc 30) (.k (.str [0]))) [.ex (.app (.attr (.loc 0) 48 3) (.dct [[116,121,112,101],[100,97,116,97]] [(.sub (.glob gTokenTypes) (.k (.str [80,97,114,115,101,69,114,114,111,114]))),(.k (.str [105,110,118,97,108,105,100,45,99,111,100,101,112,111,105,110,116]))] .frz)),
      .augS (.attr (.loc 0) 45 3) (.k (.str [115,121,115,116,101,109,73,100])) .add (.k (.str [65533]))] [.iff (.cmp .eq (.loc 30) (.k (.str [62]))) [.ex (.app (.attr (.loc 0) 48 3) (.dct [[116,121,112,101],[100,97,116,97]] [(.sub (.glob gTokenTypes) (.k (.str [80,97,114,115,101,69,114,114,111,114]))),(.k (.str [117,110,101,120,112,101,99,116,101,100,45,101,110,100,45,111,102,45,100,111,99,116,121,112,101]))] .frz)),
      .asgS (.attr (.loc 0) 45 3) (.k (.str [99,111,114,114,101,99,116])) (.k (.bool false)),
      .ex (.app (.attr (.loc 0) 48 3) (.attr (.loc 0) 45 3)),
      .asgA (.loc 0) 42 3 (.bm (.loc 0) 43 3 9)] [.iff (.cmp .is (.loc 30) (.glob .none)) [.ex (.app (.attr (.loc 0) 48 3) (.dct [[116,121,112,101],[100,97,116,97]] [(.sub (.glob gTokenTypes) (.k (.str [80,97,114,115,101,69,114,114,111,114]))),(.k (.str [101,111,102,45,105,110,45,100,111,99,116,121,112,101]))] .frz)),
      .asgS (.attr (.loc 0) 45 3) (.k (.str [99,111,114,114,101,99,116])) (.k (.bool false)),
      .ex (.app (.attr (.loc 0) 48 3) (.attr (.loc 0) 45 3)),
      .asgA (.loc 0) 42 3 (.bm (.loc 0) 43 3 9)] [.augS (.attr (.loc 0) 45 3) (.k (.str [115,121,115,116,101,109,73,100])) .add (.loc 30)]]]],
      .ret (.k (.bool true))] }
noncomputable def m_HTMLTokenizer_doctypeSystemIdentifierSingleQuotedState:MFun:=
  { ps:=[0],ds:=[],body:=[.asg 30 (.mcall (.attr (.loc 0) 20 3) 27 1 10 []),
      .iff (.cmp .eq (.loc 30) (.k (.str [39]))) [.asgA (.loc 0) 42 3 (.bm (.loc 0) 106 3 47)] [.iff (.cmp .eq (.loc 30) (.k (.str [0]))) [.ex (.app (.attr (.loc 0) 48 3) (.dct [[116,121,112,101],[100,97,116,97]] [(.sub (.glob gTokenTypes) (.k (.str [80,97,114,115,101,69,114,114,111,114]))),(.k (.str [105,110,118,97,108,105,100,45,99,111,100,101,112,111,105,110,116]))] .frz)),
      .augS (.attr (.loc 0) 45 3) (.k (.str [115,121,115,116,101,109,73,100])) .add (.k (.str [65533]))] [.iff (.cmp .eq (.loc 30) (.k (.str [62]))) [.ex (.app (.attr (.loc 0) 48 3) (.dct [[116,121,112,101],[100,97,116,97]] [(.sub (.glob gTokenTypes) (.k (.str [80,97,114,115,101,69,114,114,111,114]))),(.k (.str [117,110,101,120,112,101,99,116,101,100,45,101,110,100,45,111,102,45,100,111,99,116,121,112,101]))] .frz)),
      .asgS (.attr (.loc 0) 45 3) (.k (.str [99,111,114,114,101,99,116])) (.k (.bool false)),
      .ex (.app (.attr (.loc 0) 48 3) (.attr (.loc 0) 45 3)),
      .asgA (.loc 0) 42 3 (.bm (.loc 0) 43 3 9)] [.iff (.cmp .is (.loc 30) (.glob .none)) [.ex (.app (.attr (.loc 0) 48 3) (.dct [[116,121,112,101],[100,97,116,97]] [(.sub (.glob gTokenTypes) (.k (.str [80,97,114,115,101,69,114,114,111,114]))),(.k (.str [101,111,102,45,105,110,45,100,111,99,116,121,112,101]))] .frz)),
      .asgS (.attr (.loc 0) 45 3) (.k (.str [99,111,114,114,101,99,116])) (.k (.bool false)),
      .ex (.app (.attr (.loc 0) 48 3) (.attr (.loc 0) 45 3)),
      .asgA (.loc 0) 42 3 (.bm (.loc 0) 43 3 9)] [.augS (.attr (.loc 0) 45 3) (.k (.str [115,121,115,116,101,109,73,100])) .add (.loc 30)]]]],
      .ret (.k (.bool true))] }
noncomputable def m_HTMLTokenizer_afterDoctypeSystemIdentifierState:MFun:=
  { ps:=[0],ds:=[],body:=[.asg 30 (.mcall (.attr (.loc 0) 20 3) 27 1 10 []),
      .iff (.cmp .inn (.loc 30) (.glob gSpace)) [.pass] [.iff (.cmp .eq (.loc 30) (.k (.str [62]))) [.ex (.app (.attr (.loc 0) 48 3) (.attr (.loc 0) 45 3)),
      .asgA (.loc 0) 42 3 (.bm (.loc 0) 43 3 9)] [.iff (.cmp .is (.loc 30) (.glob .none)) [.ex (.app (.attr (.loc 0) 48 3) (.dct [[116,121,112,101],[100,97,116,97]] [(.sub (.glob gTokenTypes) (.k (.str [80,97,114,115,101,69,114,114,111,114]))),(.k (.str [101,111,102,45,105,110,45,100,111,99,116,121,112,101]))] .frz)),
      .asgS (.attr (.loc 0) 45 3) (.k (.str [99,111,114,114,101,99,116])) (.k (.bool false)),
      .ex (.app (.attr (.loc 0) 48 3) (.attr (.loc 0) 45 3)),
      .asgA (.loc 0) 42 3 (.bm (.loc 0) 43 3 9)] [.ex (.app (.attr (.loc 0) 48 3) (.dct [[116,121,112,101],[100,97,116,97]] [(.sub (.glob gTokenTypes) (.k (.str [80,97,114,115,101,69,114,114,111,114]))),(.k (.str [117,110,101,120,112,101,99,116,101,100,45,99,104,97,114,45,105,110,45,100,111,99,116,121,112,101]))] .frz)),
      .asgA (.loc 0) 42 3 (.bm (.loc 0) 97 3 38)]]],
      .ret (.k (.bool true))] }
noncomputable def m_HTMLTokenizer_bogusDoctypeState:MFun:=
  { ps:=[0],ds:=[],body:=[.asg 30 (.mcall (.attr (.loc 0) 20 3) 27 1 10 []),
      .iff (.cmp .eq (.loc 30) (.k (.str [62]))) [.ex (.app (.attr (.loc 0) 48 3) (.attr (.loc 0) 45 3)),
      .asgA (.loc 0) 42 3 (.bm (.loc 0) 43 3 9)] [.iff (.cmp .is (.loc 30) (.glob .none)) [.ex (.mcall (.attr (.loc 0) 20 3) 54 1 17 [(.loc 30)]),
      .ex (.app (.attr (.loc 0) 48 3) (.attr (.loc 0) 45 3)),
      .asgA (.loc 0) 42 3 (.bm (.loc 0) 43 3 9)] [.pass]],
      .ret (.k (.bool true))] }
noncomputable def m_law_fault:MFun:=
  { ps:=[66],ds:=[],body:=[.ret (.dct [[116,121,112,101],[100,97,116,97]] [(.sub (.glob gTokenTypes) (.k (.str [80,97,114,115,101,69,114,114,111,114]))),(.loc 66)] .frz)] }
noncomputable def m_law_behind:MFun:=
  { ps:=[4],ds:=[],body:=[.asg 2 (.k (.int 0)),
      .whl (.and (.cmp .lt (.loc 2) (.bi .len [(.loc 4)])) (.cmp .inn (.sub (.loc 4) (.loc 2)) (.glob gBlanks))) [.augN 2 .add (.k (.int 1))],
      .ret (.sl (.loc 4) (.loc 2) (.k .none))] }
noncomputable def m_law_nulls:MFun:=
  { ps:=[4],ds:=[],body:=[.ret (.comp (.call 28 [(.k (.str [105,110,118,97,108,105,100,45,99,111,100,101,112,111,105,110,116]))]) 68 (.loc 4) (.cmp .eq (.loc 68) (.k (.str [0]))))] }
noncomputable def m_law_quoted:MFun:=
  { ps:=[4,107],ds:=[],body:=[.asg 37 (.sm .find (.loc 4) [(.sub (.loc 4) (.k (.int 0))),(.k (.int 1))]),
      .iff (.cmp .ge (.loc 37) (.k (.int 0))) [.ret (.tup [(.call 48 [(.sl (.loc 4) (.k (.int 1)) (.loc 37))]),(.sm .replace (.sl (.loc 4) (.k (.int 1)) (.loc 37)) [(.k (.str [0])),(.k (.str [65533]))]),(.sl (.loc 4) (.bop .add (.loc 37) (.k (.int 1))) (.k .none))])] [],
      .asg 108 (.call 28 [(.ite (.loc 107) (.k (.str [117,110,101,120,112,101,99,116,101,100,45,101,110,100,45,111,102,45,100,111,99,116,121,112,101])) (.k (.str [101,111,102,45,105,110,45,100,111,99,116,121,112,101])))]),
      .ret (.tup [(.bop .add (.call 48 [(.loc 4)]) (.lst [(.loc 108)] .frz)),(.sm .replace (.sl (.loc 4) (.k (.int 1)) (.k .none)) [(.k (.str [0])),(.k (.str [65533]))]),(.k .none)])] }
noncomputable def m_law_ids:MFun:=
  { ps:=[109,107],ds:=[],body:=[.asg 110 (.call 28 [(.k (.str [117,110,101,120,112,101,99,116,101,100,45,99,104,97,114,45,105,110,45,100,111,99,116,121,112,101]))]),
      .asg 108 (.ite (.loc 107) (.lst [] .frz) (.lst [(.call 28 [(.k (.str [101,111,102,45,105,110,45,100,111,99,116,121,112,101]))])] .frz)),
      .asg 111 (.ite (.cmp .inn (.sub (.loc 109) (.k (.int 0))) (.tup [(.k (.str [112])),(.k (.str [80]))])) (.k (.str [112,117,98,108,105,99])) (.k (.str [115,121,115,116,101,109]))),
      .asg 112 (.k (.int 0)),
      .whl (.and (.cmp .lt (.loc 112) (.k (.int 6))) (.cmp .eq (.sm .lower (.sl (.loc 109) (.loc 112) (.bop .add (.loc 112) (.k (.int 1)))) []) (.sub (.loc 111) (.loc 112)))) [.augN 112 .add (.k (.int 1))],
      .iff (.cmp .lt (.loc 112) (.k (.int 6))) [.asg 68 (.ite (.cmp .lt (.loc 112) (.bi .len [(.loc 109)])) (.sub (.loc 109) (.loc 112)) (.ite (.loc 107) (.k (.str [62])) (.k .none))),
      .ret (.tup [(.lst [(.dct [[116,121,112,101],[100,97,116,97],[100,97,116,97,118,97,114,115]] [(.sub (.glob gTokenTypes) (.k (.str [80,97,114,115,101,69,114,114,111,114]))),(.k (.str [101,120,112,101,99,116,101,100,45,115,112,97,99,101,45,111,114,45,114,105,103,104,116,45,98,114,97,99,107,101,116,45,105,110,45,100,111,99,116,121,112,101])),(.dct [[100,97,116,97]] [(.loc 68)] .frz)] .frz)] .frz),(.k .none),(.k .none),(.k (.bool false))])] [],
      .asg 4 (.sl (.loc 109) (.k (.int 6)) (.k .none)),
      .asg 71 (.ite (.cmp .inn (.sl (.loc 4) (.k .none) (.k (.int 1))) (.glob gQuotes)) (.lst [(.loc 110)] (.per 50)) (.lst [] (.per 50))),
      .asg 4 (.call 49 [(.loc 4)]),
      .iff (.and (.cmp .ne (.loc 4) (.k (.str []))) (.cmp .nin (.sub (.loc 4) (.k (.int 0))) (.glob gQuotes))) [.ret (.tup [(.lst [(.loc 110)] .frz),(.k .none),(.k .none),(.k (.bool false))])] [],
      .asg 113 (.k .none),
      .iff (.cmp .eq (.loc 111) (.k (.str [112,117,98,108,105,99]))) [.iff (.cmp .eq (.loc 4) (.k (.str []))) [.ret (.tup [(.ite (.loc 107) (.lst [(.call 28 [(.k (.str [117,110,101,120,112,101,99,116,101,100,45,101,110,100,45,111,102,45,100,111,99,116,121,112,101]))])] .frz) (.loc 108)),(.k .none),(.k .none),(.k (.bool false))])] [],
      .asgT [114,113,4] (.call 50 [(.loc 4),(.loc 107)]),
      .augN 71 .add (.loc 114),
      .iff (.cmp .is (.loc 4) (.k .none)) [.ret (.tup [(.loc 71),(.loc 113),(.k .none),(.k (.bool false))])] [],
      .asg 115 (.call 49 [(.loc 4)]),
      .iff (.cmp .eq (.loc 115) (.k (.str []))) [.ret (.tup [(.bop .add (.loc 71) (.loc 108)),(.loc 113),(.k .none),(.loc 107)])] [],
      .iff (.cmp .nin (.sub (.loc 115) (.k (.int 0))) (.glob gQuotes)) [.ret (.tup [(.bop .add (.loc 71) (.lst [(.loc 110)] .frz)),(.loc 113),(.k .none),(.k (.bool false))])] [],
      .iff (.cmp .eq (.loc 115) (.loc 4)) [.ex (.app (.loc 71) (.loc 110))] [],
      .asg 4 (.loc 115)] [.iff (.cmp .eq (.loc 4) (.k (.str []))) [.ret (.tup [(.ite (.loc 107) (.lst [(.loc 110)] .frz) (.loc 108)),(.k .none),(.k .none),(.k (.bool false))])] []],
      .asgT [114,116,4] (.call 50 [(.loc 4),(.loc 107)]),
      .augN 71 .add (.loc 114),
      .iff (.cmp .is (.loc 4) (.k .none)) [.ret (.tup [(.loc 71),(.loc 113),(.loc 116),(.k (.bool false))])] [],
      .iff (.cmp .eq (.call 49 [(.loc 4)]) (.k (.str []))) [.ret (.tup [(.bop .add (.loc 71) (.loc 108)),(.loc 113),(.loc 116),(.loc 107)])] [],
      .ret (.tup [(.bop .add (.loc 71) (.lst [(.loc 110)] .frz)),(.loc 113),(.loc 116),(.k (.bool true))])] }
noncomputable def m_law_doctype:MFun:=
  { ps:=[117,107],ds:=[],body:=[.asg 71 (.lst [] (.per 51)),
      .asg 115 (.call 49 [(.loc 117)]),
      .iff (.and (.cmp .eq (.loc 115) (.loc 117)) (.or (.loc 107) (.cmp .ne (.loc 115) (.k (.str []))))) [.ex (.app (.loc 71) (.call 28 [(.k (.str [110,101,101,100,45,115,112,97,99,101,45,97,102,116,101,114,45,100,111,99,116,121,112,101]))]))] [],
      .iff (.cmp .eq (.loc 115) (.k (.str []))) [.ex (.app (.loc 71) (.call 28 [(.bop .add (.k (.str [101,120,112,101,99,116,101,100,45,100,111,99,116,121,112,101,45,110,97,109,101,45,98,117,116,45,103,111,116,45])) (.ite (.loc 107) (.k (.str [114,105,103,104,116,45,98,114,97,99,107,101,116])) (.k (.str [101,111,102]))))])),
      .ret (.tup [(.loc 71),(.k (.str [])),(.k .none),(.k .none),(.k (.bool false))])] [],
      .asg 37 (.k (.int 0)),
      .whl (.and (.cmp .lt (.loc 37) (.bi .len [(.loc 115)])) (.cmp .nin (.sub (.loc 115) (.loc 37)) (.glob gBlanks))) [.augN 37 .add (.k (.int 1))],
      .augN 71 .add (.call 48 [(.sl (.loc 115) (.k .none) (.loc 37))]),
      .asg 66 (.sm .replace (.sm .lower (.sl (.loc 115) (.k .none) (.loc 37)) []) [(.k (.str [0])),(.k (.str [65533]))]),
      .asg 109 (.call 49 [(.sl (.loc 115) (.loc 37) (.k .none))]),
      .iff (.cmp .ne (.loc 109) (.k (.str []))) [.asgT [114,113,116,118] (.call 51 [(.loc 109),(.loc 107)]),
      .ret (.tup [(.bop .add (.loc 71) (.loc 114)),(.loc 66),(.loc 113),(.loc 116),(.loc 118)])] [],
      .iff (.not (.loc 107)) [.ex (.app (.loc 71) (.call 28 [(.ite (.cmp .eq (.loc 37) (.bi .len [(.loc 115)])) (.k (.str [101,111,102,45,105,110,45,100,111,99,116,121,112,101,45,110,97,109,101])) (.k (.str [101,111,102,45,105,110,45,100,111,99,116,121,112,101])))]))] [],
      .ret (.tup [(.loc 71),(.loc 66),(.k .none),(.k .none),(.loc 107)])] }
noncomputable def m_law_read:MFun:=
  { ps:=[1],ds:=[],body:=[.asg 72 (.lst [] .tmp),
      .asg 2 (.k (.int 0)),
      .whl (.cmp .lt (.loc 2) (.bi .len [(.loc 1)])) [.asg 68 (.sub (.loc 1) (.loc 2)),
      .iff (.cmp .eq (.loc 68) (.k (.str [60]))) [.asg 119 (.cmp .eq (.sm .lower (.sl (.loc 1) (.loc 2) (.bop .add (.loc 2) (.k (.int 9)))) []) (.k (.str [60,33,100,111,99,116,121,112,101]))),
      .asg 77 (.ite (.loc 119) (.bop .add (.loc 2) (.k (.int 9))) (.bop .add (.loc 2) (.k (.int 2)))),
      .asg 37 (.sm .find (.loc 1) [(.k (.str [62])),(.loc 77)]),
      .asg 107 (.cmp .ge (.loc 37) (.k (.int 0))),
      .iff (.not (.loc 107)) [.asg 37 (.bi .len [(.loc 1)])] [],
      .iff (.loc 119) [.asgT [71,66,113,116,118] (.call 52 [(.sl (.loc 1) (.loc 77) (.loc 37)),(.loc 107)]),
      .augN 72 .add (.loc 71),
      .ex (.app (.loc 72) (.dct [[116,121,112,101],[110,97,109,101],[112,117,98,108,105,99,73,100],[115,121,115,116,101,109,73,100],[99,111,114,114,101,99,116]] [(.sub (.glob gTokenTypes) (.k (.str [68,111,99,116,121,112,101]))),(.loc 66),(.loc 113),(.loc 116),(.loc 118)] .frz))] [.ex (.app (.loc 72) (.call 28 [(.k (.str [101,120,112,101,99,116,101,100,45,100,97,115,104,101,115,45,111,114,45,100,111,99,116,121,112,101]))])),
      .ex (.app (.loc 72) (.dct [[116,121,112,101],[100,97,116,97]] [(.sub (.glob gTokenTypes) (.k (.str [67,111,109,109,101,110,116]))),(.sm .replace (.sl (.loc 1) (.loc 77) (.loc 37)) [(.k (.str [0])),(.k (.str [65533]))])] .frz))],
      .asg 2 (.bop .add (.loc 37) (.k (.int 1)))] [.iff (.cmp .eq (.loc 68) (.k (.str [0]))) [.ex (.app (.loc 72) (.call 28 [(.k (.str [105,110,118,97,108,105,100,45,99,111,100,101,112,111,105,110,116]))])),
      .ex (.app (.loc 72) (.dct [[116,121,112,101],[100,97,116,97]] [(.sub (.glob gTokenTypes) (.k (.str [67,104,97,114,97,99,116,101,114,115]))),(.k (.str [0]))] .frz)),
      .augN 2 .add (.k (.int 1))] [.asg 79 (.cmp .inn (.loc 68) (.glob gBlanks)),
      .asg 37 (.loc 2),
      .whl (.and (.cmp .lt (.loc 37) (.bi .len [(.loc 1)])) (.ite (.loc 79) (.cmp .inn (.sub (.loc 1) (.loc 37)) (.glob gBlanks)) (.cmp .nin (.sub (.loc 1) (.loc 37)) (.tup [(.k (.str [60])),(.k (.str [0]))])))) [.augN 37 .add (.k (.int 1))],
      .ex (.app (.loc 72) (.dct [[116,121,112,101],[100,97,116,97]] [(.sub (.glob gTokenTypes) (.ite (.loc 79) (.k (.str [83,112,97,99,101,67,104,97,114,97,99,116,101,114,115])) (.k (.str [67,104,97,114,97,99,116,101,114,115])))),(.sl (.loc 1) (.loc 2) (.loc 37))] .frz)),
      .asg 2 (.loc 37)]]],
      .ret (.loc 72)] }
noncomputable def tab:List (Nat × MFun):=[(3,m_Text_init),(6,m_Text_read),(7,m_is_invalid),(8,m_HTMLUnicodeInputStream_init),(2,m_HTMLUnicodeInputStream_reset),(1,m_HTMLUnicodeInputStream_openStream),(5,m_HTMLUnicodeInputStreamposition),(10,m_HTMLUnicodeInputStream_char),(4,m_HTMLUnicodeInputStream_readChunk),(0,m_HTMLUnicodeInputStream_characterErrorsUCS4),(13,m_HTMLUnicodeInputStream_charsUntil),(17,m_HTMLUnicodeInputStream_unget),(34,m_asciiLower),(30,m_HTMLTokenizer_init),(9,m_HTMLTokenizer_dataState),(12,m_HTMLTokenizer_tagOpenState),(18,m_HTMLTokenizer_bogusCommentState),(14,m_HTMLTokenizer_markupDeclarationOpenState),(20,m_HTMLTokenizer_doctypeState),(32,m_HTMLTokenizer_beforeDoctypeNameState),(33,m_HTMLTokenizer_doctypeNameState),(35,m_HTMLTokenizer_afterDoctypeNameState),(36,m_HTMLTokenizer_afterDoctypePublicKeywordState),(39,m_HTMLTokenizer_beforeDoctypePublicIdentifierState),(40,m_HTMLTokenizer_doctypePublicIdentifierDoubleQuotedState),(41,m_HTMLTokenizer_doctypePublicIdentifierSingleQuotedState),(42,m_HTMLTokenizer_afterDoctypePublicIdentifierState),(43,m_HTMLTokenizer_betweenDoctypePublicAndSystemIdentifiersState),(37,m_HTMLTokenizer_afterDoctypeSystemKeywordState),(46,m_HTMLTokenizer_beforeDoctypeSystemIdentifierState),(44,m_HTMLTokenizer_doctypeSystemIdentifierDoubleQuotedState),(45,m_HTMLTokenizer_doctypeSystemIdentifierSingleQuotedState),(47,m_HTMLTokenizer_afterDoctypeSystemIdentifierState),(38,m_HTMLTokenizer_bogusDoctypeState),(28,m_law_fault),(49,m_law_behind),(48,m_law_nulls),(50,m_law_quoted),(51,m_law_ids),(52,m_law_doctype),(31,m_law_read)]
end Mine
end
noncomputable section
namespace Mine
noncomputable def tT (f:Nat):Option MFun:=look tab f
noncomputable def fs1 (ch:List Nat) (sz off l1 l2:Int):List (Nat × Mine.V):=[(7,.meth 0 (.obj (.t 1))),(9,.obj (.t 2)),(10,.obj (.t 3)),(13,.str ch),(14,.int sz),(15,.int off),(16,.obj (.t 4)),(17,.int l1),(18,.int l2),(19,.none)]
noncomputable def fs3 (src:List Nat) (pl:Int):List (Nat × Mine.V):=[(1,.str src),(2,.int pl)]
noncomputable def I1 (ch:List Nat) (sz off l1 l2:Int):Ob:=.inst 1 (fs1 ch sz off l1 l2)
noncomputable def I3 (src:List Nat) (pl:Int):Ob:=.inst 0 (fs3 src pl)
noncomputable def hS (o₁ o₃:Ob) (H:List (Id × Ob)):List (Id × Ob):=(.t 1,o₁) :: (.t 3,o₃) :: H
noncomputable def hX (x:Option (List Mine.V)) (o₁ o₃:Ob) (H:List (Id × Ob)):List (Id × Ob):=match x with
  | none=>hS o₁ o₃ H
  | some q=>(.t 7,.list q) :: hS o₁ o₃ H
noncomputable abbrev T1:Mine.V:=.obj (.t 1)
noncomputable abbrev T3:Mine.V:=.obj (.t 3)
noncomputable def σ0:St:=⟨[],[],0,[]⟩
theorem allR {α β:Type} {l:List α} {f g:α→β} (h:l.map f=l.map g):∀ a ∈ l,f a=g a:=List.map_inj_left.mp h
noncomputable def al:List Nat:=[0,10,32,33,34,39,60,62,65,66,67,68,69,73,76,79,80,84,85,89,97,98,99,100,101,105,108,109,111,112,115,116,117,120,121]
theorem ble {a b:Nat} (h:a≤b):Nat.ble a b=true:=Nat.ble_eq.mpr h
section
variable {x:Option (List Mine.V)} {n:Nat} {L:List (Nat × Mine.V)} {H:List (Id × Ob)} {nx:Nat} {P:List Nat} {ch src:List Nat} {sz off l1 l2 pl:Int} {o₁ o₃:Ob} {a i:Nat}
theorem isInv_sp:∀ a ∈ al,oraN tT (n + 1) 7 [.int a] ⟨L,H,nx,P⟩=some (.bool false,⟨L,H,nx,P⟩):=allR (by kernel_rfl)
theorem three_all:three? ch [.str [10],.int 0,.int ch.length]=some (10,(ch.length:Int)):=by
  show gd (decide ((0:Int)=0) && (decide ((0:Int)≤ch.length) && decide ((ch.length:Int)≤ch.length))) (some (10,(ch.length:Int)))=_
  rw [decide_eq_true (show (0:Int)≤ch.length from Int.natCast_nonneg _),decide_eq_true (Int.le_refl _)]
  rfl
theorem cnt_all:smV σ0 .count ch [.str [10],.int 0,.int ch.length]=some (.int (countC 10 ch)):=by
  show bo (three? ch [.str [10],.int 0,.int ch.length]) (fun p=>some (Mine.V.int (countC p.1 (ch.take p.2.toNat))))=_
  rw [three_all]
  exact congrArg (fun l=>some (Mine.V.int (countC 10 l))) (List.take_length (l:=ch))
theorem rfd_all:smV σ0 .rfind ch [.str [10],.int 0,.int ch.length]=some (.int (rfindC 10 ch 0 (-1))):=by
  show bo (three? ch [.str [10],.int 0,.int ch.length]) (fun p=>some (Mine.V.int (rfindC p.1 (ch.take p.2.toNat) 0 (-1))))=_
  rw [three_all]
  exact congrArg (fun l=>some (Mine.V.int (rfindC 10 l 0 (-1)))) (List.take_length (l:=ch))
theorem len_all (hl:ch.length≤maxLen):biV σ0 .len [.str ch]=some (.int ch.length):=by
  show gd (Nat.ble ch.length maxLen) _=_
  rw [ble hl]; rfl
theorem tru_all (hl:ch.length≤maxLen):Mine.truthy σ0 (.str ch)=some (!ch.isEmpty):=by
  show gd (Nat.ble ch.length maxLen) _=_
  rw [ble hl]; rfl
noncomputable def posF (ch:List Nat) (l1 l2:Int):Int × Int:=(l1 + countC 10 ch,if rfindC 10 ch 0 (-1)=-1 then l2 + ch.length else ch.length - (rfindC 10 ch 0 (-1) + 1))
theorem pos_sp:oraN tT (n + 1) 5 [T1,.int ch.length] ⟨L,hX x (I1 ch sz off l1 l2) o₃ H,nx,P⟩=some (.tup [.int (posF ch l1 l2).1,.int (posF ch l1 l2).2],⟨L,hX x (I1 ch sz off l1 l2) o₃ H,nx,P⟩):=by
  refine orun ?_
  unfold posF
  by_cases hr:rfindC 10 ch 0 (-1)=-1
  · rw [if_pos hr]
    cases x <;> exact .v 2 (cnt_all (ch:=ch)) (.v 3 (rfd_all (ch:=ch)) (.b 0 (congrArg some (beq_iff_eq.mpr hr)) (.done 5)))
  · rw [if_neg hr]
    cases x <;> exact .v 2 (cnt_all (ch:=ch)) (.v 3 (rfd_all (ch:=ch)) (.b 0 (congrArg some (beq_eq_false_iff_ne.mpr hr)) (.done 4)))
theorem clamp_nat {n k:Nat} (h:k≤n):clampIx n (k:Int)=k:=by
  show (max 0 (min (if (k:Int) < 0 then (k:Int) + n else k) (n:Int))).toNat=k
  rw [if_neg (Int.not_lt.mpr (Int.natCast_nonneg k)),Int.min_eq_left (Int.ofNat_le.mpr h),Int.max_eq_right (Int.natCast_nonneg k),Int.toNat_natCast]
theorem clamp_big {n k:Nat} (h:n≤k):clampIx n (k:Int)=n:=by
  show (max 0 (min (if (k:Int) < 0 then (k:Int) + n else k) (n:Int))).toNat=n
  rw [if_neg (Int.not_lt.mpr (Int.natCast_nonneg k)),Int.min_eq_right (Int.ofNat_le.mpr h),Int.max_eq_right (Int.natCast_nonneg n),Int.toNat_natCast]
theorem sl_all (hl:ch.length≤10240):slV σ0 (.str ch) (.int 0) (.int 10240)=some (.str ch):=by
  show gd (Nat.ble ch.length maxLen) (some (Mine.V.str (cut ch (clampIx ch.length (0:Nat)) (clampIx ch.length (10240:Nat)))))=_
  rw [ble (Nat.le_trans hl (by decide))]
  rw [(clamp_nat (Nat.zero_le _):clampIx ch.length (0:Nat)=0),(clamp_big hl:clampIx ch.length (10240:Nat)=_)]
  show some (Mine.V.str ((ch.take ch.length).drop 0))=_
  rw [List.take_length]; rfl
theorem sl_none (hl:ch.length≤10240):slV σ0 (.str ch) (.int ch.length) (.int (ch.length + 10240))=some (.str []):=by
  show gd (Nat.ble ch.length maxLen) (some (Mine.V.str (cut ch (clampIx ch.length ch.length) (clampIx ch.length ((ch.length + 10240:Nat):Int)))))=_
  rw [ble (Nat.le_trans hl (by decide))]
  rw [clamp_nat (Nat.le_refl _),(clamp_big (Nat.le_add_right _ 10240):clampIx ch.length ((ch.length + 10240:Nat):Int)=_)]
  show some (Mine.V.str ((ch.take ch.length).drop ch.length))=_
  rw [List.take_length,List.drop_length]
theorem read_all (hl:src.length≤10240):oraN tT (n + 1) 6 [T3,.int 10240] ⟨L,hS o₁ (I3 src 0) H,nx,P⟩=some (.str src,⟨L,hS o₁ (I3 src src.length) H,nx,P⟩):=by
  rw [← Int.zero_add (src.length:Int)]
  refine orun ?_
  exact .v 7 (sl_all hl) (.v 2 (len_all (Nat.le_trans hl (by decide))) (.done 5))
theorem read_none (hl:src.length≤10240):oraN tT (n + 1) 6 [T3,.int 10240] ⟨L,hX x o₁ (I3 src src.length) H,nx,P⟩=some (.str [],⟨L,hX x o₁ (I3 src src.length) H,nx,P⟩):=by
  refine orun ?_
  cases x <;> exact .v 7 (sl_none hl) (.done 8)
theorem chunk_end (hs:src.length≤10240):oraN tT (n + 3) 4 [T1] ⟨L,hX x (I1 ch ch.length off l1 l2) (I3 src src.length) H,nx,P⟩=some (.bool false,⟨L,hX x (I1 [] 0 0 (posF ch l1 l2).1 (posF ch l1 l2).2) (I3 src src.length) H,nx,P⟩):=by
  refine orun ?_
  cases x with
  | none=>exact .c 8 (pos_sp (x:=none) (n:=n + 1) (L:=[(0,T1),(14,.int 10240)]) (H:=H) (nx:=nx) (P:=P) (ch:=ch) (sz:=ch.length) (off:=off) (l1:=l1) (l2:=l2) (o₃:=I3 src src.length)) (.c 19 (read_none (x:=none) (n:=n + 1) (L:=[(0,T1),(14,.int 10240)]) (H:=H) (nx:=nx) (P:=P) (o₁:=I1 [] 0 0 (posF ch l1 l2).1 (posF ch l1 l2).2) hs) (.done 6))
  | some q=>exact .c 8 (pos_sp (x:=some q) (n:=n + 1) (L:=[(0,T1),(14,.int 10240)]) (H:=H) (nx:=nx) (P:=P) (ch:=ch) (sz:=ch.length) (off:=off) (l1:=l1) (l2:=l2) (o₃:=I3 src src.length)) (.c 19 (read_none (x:=some q) (n:=n + 1) (L:=[(0,T1),(14,.int 10240)]) (H:=H) (nx:=nx) (P:=P) (o₁:=I1 [] 0 0 (posF ch l1 l2).1 (posF ch l1 l2).2) hs) (.done 6))
end
end Mine
end
noncomputable section
namespace Mine
open PySem
section
variable {n:Nat} {L:List (Nat × Mine.V)} {H:List (Id × Ob)} {nx:Nat} {P:List Nat} {ch src r:List Nat} {sz off l1 l2 pl:Int} {o₁ o₃:Ob} {a i:Nat}
noncomputable def nINV:List Nat:=[105,110,118,97,108,105,100,45,99,111,100,101,112,111,105,110,116]
noncomputable def ceB:List MS:=[.iff (.call 7 [(.bi .ord [(.loc 33)])]) [.ex (.app (.attr (.loc 0) 16 1) (.k (.str nINV)))] []]
noncomputable def ceL (d:List Nat) (a:Nat):List (Nat × Mine.V):=[(0,T1),(30,.str d),(33,.str [a])]
theorem ce_turn {d:List Nat} (ha:a ∈ al):exs (oraN tT (n + 1)) ceB ⟨ceL d a,H,nx,P⟩=some (.next,⟨ceL d a,H,nx,P⟩):=by
  refine Ends.exs ?_
  exact .c 1 (isInv_sp (n:=n) (L:=ceL d a) (H:=H) (nx:=nx) (P:=P) a ha) (.done 2)
theorem ce_loop {d:List Nat}:∀ (l:List Nat) (b:Nat),(∀ a ∈ l,a ∈ al)→∃ L',forN (fun v σ=>some (σ.setLoc 33 v)) (exs (oraN tT (n + 1)) ceB) (l.map fun c=>.str [c]) ⟨ceL d b,H,nx,P⟩=some (.next,⟨L',H,nx,P⟩)
  | [],b,_=>⟨_,rfl⟩
  | a :: l,b,h=>(ce_loop l a fun x hx=>h x (.tail _ hx)).imp fun L' e=>by
    show bn (exs (oraN tT (n + 1)) ceB ⟨ceL d a,H,nx,P⟩) _=_
    rw [ce_turn (h a (.head _))]
    exact e
theorem cerr_sp {d:List Nat} (h:∀ a ∈ d,a ∈ al):oraN tT (n + 2) 0 [T1,.str d] ⟨L,H,nx,P⟩=some (.none,⟨L,H,nx,P⟩):=by
  obtain ⟨L',e⟩:∃ L',forN (fun v σ=>some (σ.setLoc 33 v)) (exs (oraN tT (n + 1)) ceB) (d.map fun c=>.str [c]) ⟨[(0,T1),(30,.str d)],H,nx,P⟩=some (.next,⟨L',H,nx,P⟩):=by
    cases d with
    | nil=>exact ⟨_,rfl⟩
    | cons a l =>
      refine (ce_loop (n:=n) (H:=H) (nx:=nx) (P:=P) (d:=a :: l) l a fun x hx=>h x (.tail _ hx)).imp fun L' e=>?_
      show bn (exs (oraN tT (n + 1)) ceB ⟨ceL (a :: l) a,H,nx,P⟩) _=_
      rw [ce_turn (h a (.head _))]
      exact e
  refine orun ?_
  exact .fl 1 (e) (.done 1)
theorem repl_no {a b:List Nat} {x:Nat}:∀ (n:Nat) (s:List Nat),x ∉ s→s.length < n→repl (x :: a) b n s=s
  | 0,s,_,h=>absurd h (Nat.not_lt_zero _)
  | n + 1,[],_,_=>rfl
  | n + 1,c :: s,hx,h=>by
    show (if (x == c && isPre a s) then _ else c :: repl (x :: a) b n s)=_
    rw [beq_eq_false_iff_ne.mpr (fun e:x=c=>hx (e▸.head _)),repl_no n s (fun q=>hx (.tail _ q)) (Nat.lt_of_succ_lt_succ h)]
    rfl
theorem no13 {d:List Nat} (h:∀ a ∈ d,a ∈ al):13 ∉ d:=fun q=>absurd (h 13 q) (by decide)
theorem rep13 {a:List Nat} {d:List Nat} (h:∀ a ∈ d,a ∈ al) (hl:d.length≤10240):smV σ0 .replace d [.str (13 :: a),.str [10]]=some (.str d):=by
  show gd (true && (Nat.ble (d.length + (d.length + 1) * 1) 16777216 && !false)) (some (Mine.V.str (repl (13 :: a) [10] (d.length + 1) d)))=_
  rw [ble (Nat.le_trans (Nat.add_le_add hl (Nat.mul_le_mul_right 1 (Nat.succ_le_succ hl))) (by decide)),repl_no _ _ (no13 h) (Nat.lt_succ_self _)]
  rfl
theorem seq_at {k n:Nat} (h:k < n):seqIndex? (k:Int) n=some k:=by
  show (if (decide (0≤(if (k:Int) < 0 then (k:Int) + n else k)) && decide ((if (k:Int) < 0 then (k:Int) + n else k) < (n:Int)))=true then some (if (k:Int) < 0 then (k:Int) + n else k).toNat else none)=_
  rw [if_neg (Int.not_lt.mpr (Int.natCast_nonneg k)),decide_eq_true (Int.natCast_nonneg k),decide_eq_true (Int.ofNat_lt.mpr h)]
  rfl
theorem seq_neg1 {n:Nat}:seqIndex? (-1) (n + 1)=some n:=by
  show (if (decide ((0:Int)≤(-1 + (n + 1:Nat):Int)) && decide ((-1 + (n + 1:Nat):Int) < (n + 1:Nat)))=true then some (-1 + (n + 1:Nat):Int).toNat else none)=_
  rw [((Int.add_comm _ _).trans (Int.add_sub_cancel (n:Int) 1):(-1 + (n + 1:Nat):Int)=n),decide_eq_true (Int.natCast_nonneg n),decide_eq_true (Int.ofNat_lt.mpr (Nat.lt_succ_self n))]
  rfl
theorem sub_at {s:List Nat} {k c:Nat} {j:Int} (hl:s.length≤maxLen) (hj:seqIndex? j s.length=some k) (hc:s[k]?=some c):subV σ0 (.str s) (.int j)=some (.str [c]):=by
  show gd (Nat.ble s.length maxLen) (bo (seqIndex? j s.length) fun j=>bo s[j]? fun c=>some (Mine.V.str [c]))=_
  rw [ble hl,hj]
  show bo s[k]? _=_
  rw [hc]
  rfl
theorem lst_ok {d:List Nat} (h:∀ a ∈ d,a ∈ al) {k:Nat} (hk:k < d.length):∃ c,d[k]?=some c∧c ∈ al:=⟨d[k],List.getElem?_eq_getElem hk,h _ (List.getElem_mem hk)⟩
theorem n13:∀ a ∈ al,((a:Int) == 13)=false:=allR (by kernel_rfl)
theorem n55:∀ a ∈ al,decide ((55296:Int)≤a)=false:=allR (by kernel_rfl)
theorem chunk_load (hs:(a :: r).length≤10240) (hok:∀ b ∈ a :: r,b ∈ al) :
    oraN tT (n + 3) 4 [T1] ⟨L,hS (I1 [] 0 off l1 l2) (I3 (a :: r) 0) H,nx,P⟩=some (.bool true,⟨L,hS (I1 (a :: r) (a :: r).length 0 (posF [] l1 l2).1 (posF [] l1 l2).2) (I3 (a :: r) (a :: r).length) H,nx,P⟩):=by
  obtain ⟨c,hc,hca⟩:=lst_ok hok (Nat.lt_succ_self r.length)
  have hm:(a :: r).length≤maxLen:=Nat.le_trans hs (by decide)
  have f1:=pos_sp (x:=none) (n:=n + 1) (L:=[(0,T1),(14,.int 10240)]) (H:=H) (nx:=nx) (P:=P) (ch:=[]) (sz:=0) (off:=off) (l1:=l1) (l2:=l2) (o₃:=I3 (a :: r) 0)
  have f2:=read_all (n:=n + 1) (L:=[(0,T1),(14,.int 10240)]) (H:=H) (nx:=nx) (P:=P) (o₁:=I1 [] 0 0 (posF [] l1 l2).1 (posF [] l1 l2).2) hs
  have f3:=tru_all hm
  have f4:=len_all hm
  have f5:=sub_at hm seq_neg1 hc
  refine orun ?_
  by_cases hgt:(1:Int) < ((a :: r).length:Int)
  · exact .c 28 (f2) (.b 3 (f3) (.v 1 (f4) (.b 0 (congrArg some (decide_eq_true hgt)) (.v 1 (f5) (.b 1 (congrArg some (n13 c hca)) (.b 1 (congrArg some (n55 c hca)) (.c 6 (cerr_sp (n:=n) (L:=[(0,T1),(14,.int 10240),(30,.str (a :: r)),(32,.int c)]) (H:=hS (I1 [] 0 0 (posF [] l1 l2).1 (posF [] l1 l2).2) (I3 (a :: r) (a :: r).length) H) (nx:=nx) (P:=P) hok) (.v 1 (rep13 (a:=[10]) hok hs) (.v 0 (rep13 (a:=[]) hok hs) (.v 3 (f4) (.done 4)))))))))))
  · exact .c 28 (f2) (.b 3 (f3) (.v 1 (f4) (.b 0 (congrArg some (decide_eq_false hgt)) (.c 6 (cerr_sp (n:=n) (L:=[(0,T1),(14,.int 10240),(30,.str (a :: r))]) (H:=hS (I1 [] 0 0 (posF [] l1 l2).1 (posF [] l1 l2).2) (I3 (a :: r) (a :: r).length) H) (nx:=nx) (P:=P) hok) (.v 1 (rep13 (a:=[10]) hok hs) (.v 0 (rep13 (a:=[]) hok hs) (.v 3 (f4) (.done 4))))))))
theorem cast_off (k:Nat):((k:Int) + 1)=((k + 1:Nat):Int):=rfl
theorem char_more {off:Nat} (ha:ch[off]?=some a) (hl:ch.length≤maxLen) :
    oraN tT (n + 4) 10 [T1] ⟨L,hS (I1 ch ch.length off l1 l2) o₃ H,nx,P⟩=some (.str [a],⟨L,hS (I1 ch ch.length (off + 1:Nat) l1 l2) o₃ H,nx,P⟩):=by
  have hlt:=(List.getElem?_eq_some_iff.mp ha).1
  refine orun ?_
  exact .b 4 (congrArg some (decide_eq_false (Int.not_le.mpr (Int.ofNat_lt.mpr hlt)))) (.v 5 (sub_at hl (seq_at hlt) ha) (.done 5))
theorem char_end {x:Option (List Mine.V)} (hs:src.length≤10240) :
    oraN tT (n + 4) 10 [T1] ⟨L,hX x (I1 ch ch.length ch.length l1 l2) (I3 src src.length) H,nx,P⟩=some (.none,⟨L,hX x (I1 [] 0 0 (posF ch l1 l2).1 (posF ch l1 l2).2) (I3 src src.length) H,nx,P⟩):=by
  refine orun ?_
  have hc:=chunk_end (x:=x) (n:=n) (L:=[(0,T1)]) (H:=H) (nx:=nx) (P:=P) (ch:=ch) (off:=ch.length) (l1:=l1) (l2:=l2) hs
  cases x
  · exact .b 4 (congrArg some (decide_eq_true (Int.le_refl (ch.length:Int)))) (.c 3 (hc) (.done 3))
  · exact .b 4 (congrArg some (decide_eq_true (Int.le_refl (ch.length:Int)))) (.c 3 (hc) (.done 3))
theorem char_first (hs:(a :: r).length≤10240) (hok:∀ b ∈ a :: r,b ∈ al) :
    oraN tT (n + 4) 10 [T1] ⟨L,hS (I1 [] 0 0 l1 l2) (I3 (a :: r) 0) H,nx,P⟩=some (.str [a],⟨L,hS (I1 (a :: r) (a :: r).length 1 (posF [] l1 l2).1 (posF [] l1 l2).2) (I3 (a :: r) (a :: r).length) H,nx,P⟩):=by
  refine orun ?_
  exact .c 8 (chunk_load (n:=n) (L:=[(0,T1)]) (H:=H) (nx:=nx) (P:=P) (off:=0) (l1:=l1) (l2:=l2) hs hok) (.v 6 (sub_at (s:=a :: r) (j:=0) (Nat.le_trans hs (by decide)) (seq_at (Nat.succ_pos _)) rfl) (.done 5))
theorem unget_none:oraN tT (n + 4) 17 [T1,.none] ⟨L,H,nx,P⟩=some (.none,⟨L,H,nx,P⟩):=by
  refine orun ?_
  exact .done 3
theorem unget_back {off:Nat} (ha:ch[off]?=some a) (hl:ch.length≤maxLen) :
    oraN tT (n + 4) 17 [T1,.str [a]] ⟨L,hS (I1 ch ch.length (off + 1:Nat) l1 l2) o₃ H,nx,P⟩=some (.none,⟨L,hS (I1 ch ch.length off l1 l2) o₃ H,nx,P⟩):=by
  have hlt:=(List.getElem?_eq_some_iff.mp ha).1
  have e:((off + 1:Nat):Int) - 1=off:=Int.add_sub_cancel (off:Int) 1
  refine orun ?_
  rw [← e]
  exact .v 16 (sub_at (j:=((off + 1:Nat):Int) - 1) hl (e▸seq_at hlt) ha) (.b 0 (congrArg some (beq_self_eq_true [a])) (.done 3))
theorem unget_front (hl:ch.length < maxLen) :
    oraN tT (n + 4) 17 [T1,.str [a]] ⟨L,hS (I1 ch ch.length 0 l1 l2) o₃ H,nx,P⟩=some (.none,⟨L,hS (I1 (a :: ch) (a :: ch).length 0 l1 l2) o₃ H,nx,P⟩):=by
  have e:bopV σ0 .add (.str [a]) (.str ch)=some (.str (a :: ch)):=by
    show gd (Nat.ble (1 + ch.length) maxLen) _=_
    rw [ble (Nat.add_comm 1 _▸hl)]; rfl
  refine orun ?_
  exact .v 8 (e) (.done 10)
end
end Mine
end
noncomputable section
namespace Mine
open PySem
noncomputable def cuTest:ME:=(.and (.cmp .ne (.loc 37) (.attr (.loc 0) 14 1)) (.cmp .eq (.cmp .inn (.sub (.attr (.loc 0) 13 1) (.loc 37)) (.loc 34)) (.loc 35)))
noncomputable def cuB1:List MS:=[.augN 37 .add (.k (.int 1))]
noncomputable def cuBody:List MS:=[.asg 37 (.attr (.loc 0) 15 1),
      .whl cuTest cuB1,
      .iff (.cmp .eq (.loc 37) (.attr (.loc 0) 15 1)) [.iff (.cmp .ne (.attr (.loc 0) 15 1) (.attr (.loc 0) 14 1)) [.brk] []] [.iff (.cmp .ne (.loc 37) (.attr (.loc 0) 14 1)) [.ex (.app (.loc 36) (.sl (.attr (.loc 0) 13 1) (.attr (.loc 0) 15 1) (.loc 37))),
      .asgA (.loc 0) 15 1 (.loc 37),
      .brk] []],
      .ex (.app (.loc 36) (.sl (.attr (.loc 0) 13 1) (.attr (.loc 0) 15 1) (.k .none))),
      .iff (.not (.mcall (.loc 0) 26 1 4 [])) [.brk] []]
noncomputable def InP (chars:Mine.V) (p:Nat→Bool):Prop:=∀ σ a,cmpV σ .inn (.str [a]) chars=some (p a)
noncomputable def cuL0 (chars:Mine.V) (opp:Bool):List (Nat × Mine.V):=[(0,T1),(34,chars),(35,.bool opp),(36,(.obj (.t 7)))]
noncomputable def cuL (chars:Mine.V) (opp:Bool) (i:Nat):List (Nat × Mine.V):=[(0,T1),(34,chars),(35,.bool opp),(36,(.obj (.t 7))),(37,.int i)]
noncomputable def cuH (q:List Mine.V) (o₁ o₃:Ob) (H:List (Id × Ob)):List (Id × Ob):=(.t 7,.list q) :: hS o₁ o₃ H
noncomputable def stopAt (p:Nat→Bool) (opp:Bool) (o:Option Nat):Bool:=match o with
  | some a=>p a == opp
  | none=>false
section
variable {C:Ora} {n off i:Nat} {L:List (Nat × Mine.V)} {H:List (Id × Ob)} {P:List Nat} {ch src l:List Nat} {l1 l2:Int} {o₁ o₃:Ob} {a:Nat} {chars:Mine.V} {opp:Bool} {p:Nat→Bool} {q:List Mine.V} {vs:List Mine.V}
theorem cu_t0:tst C cuTest ⟨cuL chars opp ch.length,cuH q (I1 ch ch.length off l1 l2) o₃ H,8,P⟩=some (false,⟨cuL chars opp ch.length,cuH q (I1 ch ch.length off l1 l2) o₃ H,8,P⟩):=by
  refine Ends.tst ?_
  exact .b 2 (congrArg some (congrArg not (beq_self_eq_true (ch.length:Int)))) (.done 3)
theorem cu_t1 (hP:InP chars p) (hl:ch.length≤maxLen) (ha:ch[i]?=some a):tst C cuTest ⟨cuL chars opp i,cuH q (I1 ch ch.length off l1 l2) o₃ H,8,P⟩=some (p a == opp,⟨cuL chars opp i,cuH q (I1 ch ch.length off l1 l2) o₃ H,8,P⟩):=by
  have hlt:=(List.getElem?_eq_some_iff.mp ha).1
  have e:∀ b,some (b == opp)=some (b == opp):=fun _=>rfl
  refine Ends.tst ?_
  exact .b 2 (congrArg some (congrArg not (beq_eq_false_iff_ne.mpr (fun e=>Nat.ne_of_lt hlt (Int.ofNat.inj e):(i:Int) ≠ (ch.length:Int))))) (.v 3 (sub_at hl (seq_at hlt) ha) (.b 0 (hP ⟨cuL chars opp i,cuH q (I1 ch ch.length off l1 l2) o₃ H,8,P⟩ a) (.b 0 (e (p a)) (.b 0 (e (p a)) (.done 1)))))
theorem cu_while (hP:InP chars p) (hl:ch.length≤maxLen) :
    ∀ (r:List Nat) (i fuel:Nat),ch.drop i=r→i≤ch.length→r.length < fuel→whileN (tst C cuTest) (exs C cuB1) fuel ⟨cuL chars opp i,cuH q (I1 ch ch.length off l1 l2) o₃ H,8,P⟩ =
      some (.next,⟨cuL chars opp (i + (r.takeWhile fun a=>p a == opp).length),cuH q (I1 ch ch.length off l1 l2) o₃ H,8,P⟩)
  | _,_,0,_,_,hf=>absurd hf (Nat.not_lt_zero _)
  | [],i,n + 1,hr,hi,hf=>by
    cases Nat.le_antisymm hi (List.drop_eq_nil_iff.mp hr)
    show bn (tst C cuTest _) _=_
    rw [cu_t0]; rfl
  | a :: r,i,n + 1,hr,hi,hf=>by
    have ha:ch[i]?=some a:=by rw [← List.head?_drop,hr]; rfl
    have hlt:=(List.getElem?_eq_some_iff.mp ha).1
    have h2:ch.drop (i + 1)=r:=by rw [← List.tail_drop,hr]; rfl
    show bn (tst C cuTest _) _=_
    rw [cu_t1 hP hl ha,List.takeWhile_cons]
    cases p a == opp
    · rfl
    · show whileN (tst C cuTest) (exs C cuB1) n ⟨cuL chars opp (i + 1:Nat),_,8,P⟩=_
      rw [cu_while hP hl r (i + 1) n h2 hlt (Nat.lt_of_succ_lt_succ hf),Nat.add_right_comm]; rfl
theorem take_drop_le {off:Nat} {p:Nat→Bool}:((ch.drop off).takeWhile p).length≤ch.length - off:=List.length_drop▸(List.takeWhile_prefix (p:=p) (l:=ch.drop off)).length_le
theorem cut_take {off:Nat} {p:Nat→Bool}:cut ch off (off + ((ch.drop off).takeWhile p).length)=(ch.drop off).takeWhile p:=by
  show (ch.take _).drop off=_
  rw [List.drop_take,Nat.add_sub_cancel_left]
  exact (List.prefix_iff_eq_take.mp (List.takeWhile_prefix p)).symm
theorem sl_at {s t:List Nat} {i j:Nat} (hl:s.length≤maxLen) (hi:i≤s.length) (hj:j≤s.length) (e:cut s i j=t):slV σ0 (.str s) (.int i) (.int j)=some (.str t):=by
  show gd (Nat.ble s.length maxLen) (some (Mine.V.str (cut s (clampIx s.length i) (clampIx s.length j))))=_
  rw [ble hl,clamp_nat hi,clamp_nat hj,e]; rfl
theorem sl_to {s t:List Nat} {i:Nat} (hl:s.length≤maxLen) (hi:i≤s.length) (e:s.drop i=t):slV σ0 (.str s) (.int i) .none=some (.str t):=by
  show gd (Nat.ble s.length maxLen) (some (Mine.V.str ((s.take s.length).drop (clampIx s.length i))))=_
  rw [ble hl,clamp_nat hi,List.take_length,e]; rfl
theorem join1 {t:List Nat} (hl:t.length≤maxLen):smV ⟨[],[(.t 7,.list [.str t])],0,[]⟩ .join [] [(.obj (.t 7))]=some (.str t):=by
  show gd (Nat.ble (t.length + 0 + 1 * 0) maxLen) (some (Mine.V.str t))=_
  rw [ble (by exact hl)]; rfl
theorem while1 {t:St→Option (Bool × St)} {b:St→Option (FL × St)} {σ σ₁:St} (ht:t σ=some (true,σ)) (hb:b σ=some (.brk,σ₁)):whileN t b bigN σ=some (.next,σ₁):=by
  show whileN t b (999999 + 1) σ=_
  show bn (t σ) _=_
  rw [ht]
  show bn (b σ) _=_
  rw [hb]; rfl
theorem ineq {i j:Nat} (h:i ≠ j):some (((i:Int)) == (j:Int))=some false:=congrArg some (beq_eq_false_iff_ne.mpr fun e=>h (Int.ofNat.inj e))
theorem ineqN {i j:Nat} (h:i ≠ j):some (!(((i:Int)) == (j:Int)))=some true:=congrArg some (congrArg not (beq_eq_false_iff_ne.mpr fun e=>h (Int.ofNat.inj e)))
theorem iseq (i:Nat):some (((i:Int)) == (i:Int))=some true:=congrArg some (beq_self_eq_true _)
theorem iseqN (i:Nat):some (!(((i:Int)) == (i:Int)))=some false:=congrArg some (congrArg not (beq_self_eq_true _))
theorem until_mid (hP:InP chars p) (hl:ch.length < bigN) (ho:off≤ch.length) (hlw:l=(ch.drop off).takeWhile fun a=>p a == opp) (hlt:off + l.length < ch.length) :
    oraN tT (n + 4) 13 [T1,chars,.bool opp] ⟨L,hS (I1 ch ch.length off l1 l2) o₃ H,7,P⟩=some (.str l,⟨L,cuH (if l.isEmpty then [] else [.str l]) (I1 ch ch.length (off + l.length:Nat) l1 l2) o₃ H,8,P⟩):=by
  have hml:ch.length≤maxLen:=Nat.le_trans (Nat.le_of_lt hl) (by decide)
  have hw:=cu_while (C:=oraN tT (n + 3)) (H:=H) (P:=P) (off:=off) (l1:=l1) (l2:=l2) (o₃:=o₃) (q:=[]) (opp:=opp) hP hml (ch.drop off) off bigN rfl ho (Nat.lt_of_le_of_lt (List.length_drop▸Nat.sub_le _ _) hl)
  rw [← hlw] at hw
  have hcut:=sl_at hml ho (Nat.le_of_lt hlt) (hlw▸cut_take:cut ch off (off + l.length)=l)
  have hll:l.length≤maxLen:=Nat.le_trans (Nat.le_trans (Nat.le_add_left _ _) (Nat.le_of_lt hlt)) hml
  refine orun ?_
  cases l with
  | nil =>
    have hb:exs (oraN tT (n + 3)) cuBody ⟨cuL0 chars opp,cuH [] (I1 ch ch.length off l1 l2) o₃ H,8,P⟩=some (.brk,⟨cuL chars opp off,cuH [] (I1 ch ch.length off l1 l2) o₃ H,8,P⟩):=by
      refine Ends.exs ?_
      exact .fl 2 (hw) (.b 2 (iseq off) (.b 5 (ineqN (Nat.ne_of_lt hlt)) (.done 2)))
    exact .fl 1 (while1 (t:=tst (oraN tT (n + 3)) (.k (.bool true))) rfl hb) (.done 2)
  | cons a l =>
    have hb:exs (oraN tT (n + 3)) cuBody ⟨cuL0 chars opp,cuH [] (I1 ch ch.length off l1 l2) o₃ H,8,P⟩=some (.brk,⟨cuL chars opp (off + (a :: l).length),cuH [.str (a :: l)] (I1 ch ch.length (off + (a :: l).length:Nat) l1 l2) o₃ H,8,P⟩):=by
      refine Ends.exs ?_
      exact .fl 2 (hw) (.b 2 (ineq (Nat.ne_of_gt (Nat.lt_add_of_pos_right (n:=off) (Nat.succ_pos l.length)))) (.b 3 (ineqN (Nat.ne_of_lt hlt)) (.v 6 (hcut) (.done 7))))
    exact .fl 1 (while1 (t:=tst (oraN tT (n + 3)) (.k (.bool true))) rfl hb) (.v 0 (join1 hll) (.done 1))
theorem until_end (hP:InP chars p) (hs:src.length≤10240) (hl:ch.length < bigN) (ho:off≤ch.length) (hlw:l=(ch.drop off).takeWhile fun a=>p a == opp) (hlt:off + l.length=ch.length) :
    oraN tT (n + 4) 13 [T1,chars,.bool opp] ⟨L,hS (I1 ch ch.length off l1 l2) (I3 src src.length) H,7,P⟩=some (.str l,⟨L,cuH [.str l] (I1 [] 0 0 (posF ch l1 l2).1 (posF ch l1 l2).2) (I3 src src.length) H,8,P⟩):=by
  have hml:ch.length≤maxLen:=Nat.le_trans (Nat.le_of_lt hl) (by decide)
  have hw:=cu_while (C:=oraN tT (n + 3)) (H:=H) (P:=P) (off:=off) (l1:=l1) (l2:=l2) (o₃:=I3 src src.length) (q:=[]) (opp:=opp) hP hml (ch.drop off) off bigN rfl ho (Nat.lt_of_le_of_lt (List.length_drop▸Nat.sub_le _ _) hl)
  rw [← hlw,hlt] at hw
  have hd:ch.drop off=l:=((hlw▸List.takeWhile_prefix _:l <+: ch.drop off).eq_of_length (by rw [List.length_drop,← hlt,Nat.add_sub_cancel_left])).symm
  have hcut:=sl_to hml ho hd
  have hll:l.length≤maxLen:=Nat.le_trans (hlt▸Nat.le_add_left _ _) hml
  have hck:=chunk_end (x:=some [.str l]) (n:=n) (L:=cuL chars opp ch.length) (H:=H) (nx:=8) (P:=P) (ch:=ch) (off:=off) (l1:=l1) (l2:=l2) hs
  have hb:exs (oraN tT (n + 3)) cuBody ⟨cuL0 chars opp,cuH [] (I1 ch ch.length off l1 l2) (I3 src src.length) H,8,P⟩=some (.brk,⟨cuL chars opp ch.length,cuH [.str l] (I1 [] 0 0 (posF ch l1 l2).1 (posF ch l1 l2).2) (I3 src src.length) H,8,P⟩):=by
    refine Ends.exs ?_
    by_cases hz:ch.length=off
    · have hz':(((ch.length:Int)) == (off:Int))=true:=beq_iff_eq.mpr (congrArg _ hz)
      have hz2:(!(((off:Int)) == (ch.length:Int)))=false:=congrArg not (beq_iff_eq.mpr (congrArg _ hz.symm))
      exact .fl 2 (hw) (.b 2 (congrArg some hz') (.b 5 (congrArg some hz2) (.v 6 (hcut) (.c 5 (hck) (.done 3)))))
    · exact .fl 2 (hw) (.b 2 (ineq hz) (.b 3 (iseqN ch.length) (.v 6 (hcut) (.c 5 (hck) (.done 3)))))
  refine orun ?_
  exact .fl 1 (while1 (t:=tst (oraN tT (n + 3)) (.k (.bool true))) rfl hb) (.v 0 (join1 hll) (.done 1))
end
end Mine
end
noncomputable section
namespace Mine
noncomputable def ids:List Id:=[.t 1,.t 3]
noncomputable def FO:Ora:=normO ids (oraN tT 4)
noncomputable def CT:Ora:=normO ids (liftO tT FO)
noncomputable abbrev T0:Mine.V:=.obj (.t 0)
noncomputable def fs0 (st cur:Mine.V):List (Nat × Mine.V):=[(20,T1),(39,.none),(40,.bool false),(41,.obj (.t 5)),(42,st),(44,.bool false),(45,cur),(48,.obj (.t 6))]
noncomputable def H1 (q dn:List Mine.V) (st cur:Mine.V):List (Id × Ob):=[(.t 6,.list q),(.t 5,.list []),(.t 4,.list []),(.t 2,.list [.int 0]),(.t 0,.inst 3 (fs0 st cur)),(.p 99,.list dn)]
noncomputable def kTD:List (List Nat):=[[116,121,112,101],[100,97,116,97]]
noncomputable def tErr (n:List Nat):Mine.V:=.dict kTD [.int 7,.str n]
noncomputable def tCom (n:List Nat):Mine.V:=.dict kTD [.int 6,.str n]
noncomputable def tChr (n:List Nat):Mine.V:=.dict kTD [.int 1,.str n]
noncomputable def tSpc (n:List Nat):Mine.V:=.dict kTD [.int 2,.str n]
noncomputable def tErrD (n:List Nat) (d:Mine.V):Mine.V:=.dict [[116,121,112,101],[100,97,116,97],[100,97,116,97,118,97,114,115]] [.int 7,.str n,.dict [[100,97,116,97]] [d]]
noncomputable def kDoc:List (List Nat):=[[116,121,112,101],[110,97,109,101],[112,117,98,108,105,99,73,100],[115,121,115,116,101,109,73,100],[99,111,114,114,101,99,116]]
noncomputable def TD (n:List Nat) (p s:Mine.V) (b:Bool):List Mine.V:=[.int 0,.str n,p,s,.bool b]
noncomputable def tDoc (vs:List Mine.V):Mine.V:=.dict kDoc vs
noncomputable def me (f:Nat):Mine.V:=.meth f T0
noncomputable def HD (q dn:List Mine.V) (f:Nat) (vs:List Mine.V):List (Id × Ob):=(.p 0,.dict kDoc vs) :: H1 q dn (me f) (.obj (.p 0))
noncomputable def SD (q dn:List Mine.V) (src ch:List Nat) (off:Nat) (l1 l2:Int) (f:Nat) (vs:List Mine.V):St:=⟨[(0,T0)],hS (I1 ch ch.length off l1 l2) (I3 src src.length) (HD q dn f vs),7,[0,99]⟩
noncomputable def S1 (q dn:List Mine.V) (src ch:List Nat) (off pl:Nat) (l1 l2:Int) (f:Nat) (cv:Mine.V):St:=⟨[(0,T0)],hS (I1 ch ch.length off l1 l2) (I3 src pl) (H1 q dn (me f) cv),7,[99]⟩
noncomputable def Stp (f:Nat) (σ:St) (b:Bool) (σ':St):Prop:=CT f [T0] σ=some (.bool b,σ')
noncomputable def normG (L:List (Nat × Mine.V)) (k:Nat) (f:FL) (σ:St):Option (Mine.V × St):=bo (retOf f) fun v=>gd (chkN ids k v ⟨L,σ.hp,σ.nx,σ.ps⟩) (some (v,⟨L,hpN ids k σ.hp,k,σ.ps⟩))
noncomputable def Rz.chk (L:List (Nat × Mine.V)) (k:Nat):Rz→Bool
  | .done x σ=>(match retOf x with
    | some w=>chkN ids k w ⟨L,σ.hp,σ.nx,σ.ps⟩
    | none=>(hi:Option Unit).isSome)
  | _=>false
noncomputable def Rz.nv (L:List (Nat × Mine.V)) (k:Nat):Rz→Option (Mine.V × St)
  | .done x σ=>bo (retOf x) fun w=>some (w,⟨L,hpN ids k σ.hp,k,σ.ps⟩)
  | _=>hi
theorem Ends.nrm {r:Rz} {L:List (Nat × Mine.V)} {k:Nat} {X:Bool} {z:Mine.V × St} (n:Nat) (h:X=true) (e:(Mine.fw n r).chk L k=X:=by kernel_rfl) (e':(Mine.fw n r).nv L k=some z:=by kernel_rfl):Ends r (normG L k) z:=Ends.fw (n:=n) (by
  have e:=e.trans h
  generalize Mine.fw n r=q at e e'
  cases q <;> first | exact ff e | skip
  rename_i f σ
  show bo (retOf f) _=_
  change bo (retOf f) _=_ at e'
  change (match retOf f with
    | some v=>chkN ids k v ⟨L,σ.hp,σ.nx,σ.ps⟩
    | none=>(hi:Option Unit).isSome)=true at e
  generalize retOf f=w at e e'
  cases w with
  | none=>exact nn e'
  | some v =>
    show gd (chkN ids k v ⟨L,σ.hp,σ.nx,σ.ps⟩) _=_
    have e:chkN ids k v ⟨L,σ.hp,σ.nx,σ.ps⟩=true:=e
    rw [e]
    exact e')
noncomputable def startL (f:Nat) (vs:List Mine.V) (τ:St):Rz:=boK (tT f) fun m=>startR false FO m vs ⟨τ.loc,front ids τ.hp,τ.nx,τ.ps⟩
theorem ct_eq {f:Nat} {vs:List Mine.V} {σ:St}:CT f vs σ=bn (sem (startL f vs σ)) (normG σ.loc σ.nx):=by
  unfold startL
  show bn (bo (tT f) fun m=>callB FO m vs ⟨σ.loc,front ids σ.hp,σ.nx,σ.ps⟩) _=_
  generalize tT f=m
  cases m with
  | none=>rfl
  | some m =>
    show bn (bo (m.args vs) fun as=>bn (exs FO m.body ⟨m.ps.zip as,front ids σ.hp,σ.nx,σ.ps⟩) fun f σ₁=>bo (retOf f) fun v=>some (v,{ σ₁ with loc:=σ.loc })) _=bn (sem (boK (m.args vs) fun as=>exsK false FO m.body ⟨m.ps.zip as,front ids σ.hp,σ.nx,σ.ps⟩ .done)) _
    generalize m.args vs=as
    cases as with
    | none=>rfl
    | some as =>
      refine Eq.trans ?_ (congrArg (bn · (normG σ.loc σ.nx)) (exsK_ok false FO m.body ⟨m.ps.zip as,front ids σ.hp,σ.nx,σ.ps⟩ .done)).symm
      show bn (bn (exs FO m.body ⟨m.ps.zip as,front ids σ.hp,σ.nx,σ.ps⟩) _) _=_
      generalize exs FO m.body ⟨m.ps.zip as,front ids σ.hp,σ.nx,σ.ps⟩=x
      cases x with
      | none=>rfl
      | some p =>
        show bn (bo (retOf p.1) fun v=>some (v,{ p.2 with loc:=σ.loc })) _=bo (retOf p.1) _
        generalize retOf p.1=q
        cases q <;> rfl
theorem stp {f:Nat} {σ σ':St} {b:Bool} (h:Ends (startL f [T0] σ) (normG σ.loc σ.nx) (.bool b,σ')):Stp f σ b σ':=ct_eq.trans h
theorem sem_c {r:Rz} {X:Option (Mine.V × St)} {p:Mine.V × St} (n:Nat) (h:X=some p) (e:(Mine.fw n r).gc=X:=by kernel_rfl):sem r=sem ((Mine.fw n r).oc p.1 p.2):=by
  rw [← Ends.fwE n r]
  generalize Mine.fw n r=q at e
  have e:=e.trans h
  cases q <;> first | exact nn e | (cases (show _=some p from e); rfl)
structure Good (n:Nat) (H:List (Id × Ob)):Prop where
  f:(H.filter fun p=>!(ids.any (· == p.1)))=H
  c:(H.filter fun p=>idBlw n p.1)=H
  b:hpBlw n H=true
section
variable {n k:Nat} {L:List (Nat × Mine.V)} {H:List (Id × Ob)} {P:List Nat} {ch src r l:List Nat} {off a pl:Nat} {l1 l2:Int} {o₁ o₃ o₁' o₃':Ob} {x v:Mine.V} {C:Ora} {f:Nat} {vs:List Mine.V} {q:List Mine.V}
theorem good_front (g:Good k H):front ids (hS o₁ o₃ H)=hS o₁ o₃ H:=congrArg (hS o₁ o₃) g.f
theorem good_hpN (g:Good k H) (hk:5≤k):hpN ids k (hS o₁ o₃ H)=hS o₁ o₃ H:=by
  obtain ⟨m,rfl⟩:=Nat.exists_eq_add_of_le' hk
  exact congrArg (hS o₁ o₃) ((congrArg (List.filter _) g.c).trans g.f)
theorem fo_of (g:Good k H) (hk:5≤k) (hL:fsBlw k L=true) (hv:V.blw k v=true) (ho:Ob.blw k o₁'=true∧Ob.blw k o₃'=true) (h:C f vs ⟨L,hS o₁ o₃ H,k,P⟩=some (v,⟨L,hS o₁' o₃' H,n,P⟩)):normO ids C f vs ⟨L,hS o₁ o₃ H,k,P⟩=some (v,⟨L,hS o₁' o₃' H,k,P⟩):=
  norm_is (hp':=hS o₁ o₃ H) h (by
    show (fsBlw k L && (hpBlw k (hpN ids k (hS o₁' o₃' H)) && V.blw k v))=true
    rw [good_hpN g hk,hL,hv]
    obtain ⟨m,rfl⟩:=Nat.exists_eq_add_of_le' hk
    show (((Ob.blw (m + 5) o₁') && ((Ob.blw (m + 5) o₃') && hpBlw (m + 5) H)) && true)=true
    rw [ho.1,ho.2,g.b]; rfl) (good_front g) (good_hpN g hk)
theorem fo_x {o:Ob} (h:normO ids C f vs ⟨L,hS o₁ o₃ ((.t 7,o) :: H),k,P⟩=some (v,⟨L,hS o₁' o₃' ((.t 7,o) :: H),k,P⟩)):normO ids C f vs ⟨L,(.t 7,o) :: hS o₁ o₃ H,k,P⟩=some (v,⟨L,hS o₁' o₃' ((.t 7,o) :: H),k,P⟩):=h
theorem fo_more (hk:5≤k) (g:Good k H) (ha:ch[off]?=some a) (hm:ch.length≤maxLen) (hL:fsBlw k L=true:=by kernel_rfl) (hb:Ob.blw k (I1 ch ch.length (off + 1:Nat) l1 l2)=true∧Ob.blw k (I3 src pl)=true:=by exact ⟨rfl,rfl⟩) :
    FO 10 [T1] ⟨L,hS (I1 ch ch.length off l1 l2) (I3 src pl) H,k,P⟩=some (.str [a],⟨L,hS (I1 ch ch.length (off + 1:Nat) l1 l2) (I3 src pl) H,k,P⟩):=fo_of g hk hL rfl hb (char_more ha hm)
theorem fo_end (hk:5≤k) (g:Good k H) (hs:src.length≤10240) (hL:fsBlw k L=true:=by kernel_rfl) (hb:Ob.blw k (I1 [] 0 0 (posF ch l1 l2).1 (posF ch l1 l2).2)=true∧Ob.blw k (I3 src src.length)=true:=by exact ⟨rfl,rfl⟩) :
    FO 10 [T1] ⟨L,hS (I1 ch ch.length ch.length l1 l2) (I3 src src.length) H,k,P⟩=some (.none,⟨L,hS (I1 [] 0 0 (posF ch l1 l2).1 (posF ch l1 l2).2) (I3 src src.length) H,k,P⟩):=fo_of g hk hL rfl hb (char_end (x:=none) hs)
theorem fo_first (hk:5≤k) (g:Good k H) (hs:(a :: r).length≤10240) (hok:∀ b ∈ a :: r,b ∈ al) (hL:fsBlw k L=true:=by kernel_rfl) (hb:Ob.blw k (I1 (a :: r) (a :: r).length 1 (posF [] l1 l2).1 (posF [] l1 l2).2)=true∧Ob.blw k (I3 (a :: r) (a :: r).length)=true:=by exact ⟨rfl,rfl⟩) :
    FO 10 [T1] ⟨L,hS (I1 [] 0 0 l1 l2) (I3 (a :: r) 0) H,k,P⟩=some (.str [a],⟨L,hS (I1 (a :: r) (a :: r).length 1 (posF [] l1 l2).1 (posF [] l1 l2).2) (I3 (a :: r) (a :: r).length) H,k,P⟩):=fo_of g hk hL rfl hb (char_first hs hok)
theorem fo_unN {o₁ o₃:Ob} (hk:5≤k) (g:Good k H) (hL:fsBlw k L=true) (hb:Ob.blw k o₁=true∧Ob.blw k o₃=true) :
    FO 17 [T1,.none] ⟨L,hS o₁ o₃ H,k,P⟩=some (.none,⟨L,hS o₁ o₃ H,k,P⟩):=fo_of g hk hL rfl hb unget_none
theorem fo_unB (hk:5≤k) (g:Good k H) (ha:ch[off]?=some a) (hm:ch.length≤maxLen) (hL:fsBlw k L=true:=by kernel_rfl) (hb:Ob.blw k (I1 ch ch.length off l1 l2)=true∧Ob.blw k (I3 src pl)=true:=by exact ⟨rfl,rfl⟩) :
    FO 17 [T1,.str [a]] ⟨L,hS (I1 ch ch.length (off + 1:Nat) l1 l2) (I3 src pl) H,k,P⟩=some (.none,⟨L,hS (I1 ch ch.length off l1 l2) (I3 src pl) H,k,P⟩):=fo_of g hk hL rfl hb (unget_back ha hm)
theorem fo_unF (hk:5≤k) (g:Good k H) (hm:ch.length < maxLen) (hL:fsBlw k L=true:=by kernel_rfl) (hb:Ob.blw k (I1 (a :: ch) (a :: ch).length 0 l1 l2)=true∧Ob.blw k (I3 src pl)=true:=by exact ⟨rfl,rfl⟩) :
    FO 17 [T1,.str [a]] ⟨L,hS (I1 ch ch.length 0 l1 l2) (I3 src pl) H,k,P⟩=some (.none,⟨L,hS (I1 (a :: ch) (a :: ch).length 0 l1 l2) (I3 src pl) H,k,P⟩):=fo_of g hk hL rfl hb (unget_front hm)
theorem good_one (g:Good 8 H) (h:V.blws 8 q=true):Good 8 ((.t 7,.list q) :: H):=⟨congrArg (List.cons _) g.f,congrArg (List.cons _) g.c,by show (V.blws 8 q && hpBlw 8 H)=true; rw [h,g.b]; rfl⟩
theorem fo_unt (g:Good 7 H) {chars:Mine.V} {opp:Bool} (hv:m_HTMLUnicodeInputStream_charsUntil.args vs=some [T1,chars,.bool opp]) (hL:fsBlw 7 L=true) (hb:Ob.blw 7 o₁'=true∧Ob.blw 7 o₃'=true)
    (h:oraN tT 4 13 [T1,chars,.bool opp] ⟨L,hS o₁ o₃ H,7,P⟩=some (.str l,⟨L,cuH q o₁' o₃' H,8,P⟩)):FO 13 vs ⟨L,hS o₁ o₃ H,7,P⟩=some (.str l,⟨L,hS o₁' o₃' H,7,P⟩):=by
  have e:hpN ids 7 (cuH q o₁' o₃' H)=hS o₁' o₃' H:=good_hpN g (by decide)
  refine norm_is (hp':=hS o₁ o₃ H) (hp₁:=cuH q o₁' o₃' H) (nx':=8) ?_ ?_ (good_front g) e
  · show bo (m_HTMLUnicodeInputStream_charsUntil.args vs) _=_
    rw [hv]
    exact h
  · show (fsBlw 7 L && (hpBlw 7 (hpN ids 7 (cuH q o₁' o₃' H)) && true))=true
    rw [e,hL]
    show (((Ob.blw 7 o₁') && ((Ob.blw 7 o₃') && hpBlw 7 H)) && true)=true
    rw [hb.1,hb.2,g.b]; rfl
theorem fo_untM (g:Good 7 H) {chars:Mine.V} {opp:Bool} {p:Nat→Bool} (hP:InP chars p) (hl:ch.length < bigN) (ho:off≤ch.length) (hlw:l=(ch.drop off).takeWhile fun a=>p a == opp) (hlt:off + l.length < ch.length)
    (hv:m_HTMLUnicodeInputStream_charsUntil.args vs=some [T1,chars,.bool opp]:=by kernel_rfl) (hL:fsBlw 7 L=true:=by kernel_rfl) :
    FO 13 vs ⟨L,hS (I1 ch ch.length off l1 l2) (I3 src pl) H,7,P⟩=some (.str l,⟨L,hS (I1 ch ch.length (off + l.length:Nat) l1 l2) (I3 src pl) H,7,P⟩):=
  fo_unt g hv hL ⟨rfl,rfl⟩ (until_mid hP hl ho hlw hlt)
theorem fo_untE (g:Good 7 H) {chars:Mine.V} {opp:Bool} {p:Nat→Bool} (hP:InP chars p) (hs:src.length≤10240) (hl:ch.length < bigN) (ho:off≤ch.length) (hlw:l=(ch.drop off).takeWhile fun a=>p a == opp) (hlt:off + l.length=ch.length)
    (hv:m_HTMLUnicodeInputStream_charsUntil.args vs=some [T1,chars,.bool opp]:=by kernel_rfl) (hL:fsBlw 7 L=true:=by kernel_rfl) :
    FO 13 vs ⟨L,hS (I1 ch ch.length off l1 l2) (I3 src src.length) H,7,P⟩=some (.str l,⟨L,hS (I1 [] 0 0 (posF ch l1 l2).1 (posF ch l1 l2).2) (I3 src src.length) H,7,P⟩):=
  fo_unt g hv hL ⟨rfl,rfl⟩ (until_end hP hs hl ho hlw hlt)
end
section
variable {dn q vs:List Mine.V} {cv st p s:Mine.V} {f:Nat} {d d':List Nat} {b:Bool}
theorem H1_b {k:Nat} (hk:7≤k) (hst:V.blw k st=true) (hq:V.blws k q=true) (hcv:V.blw k cv=true) (hdn:V.blws k dn=true):hpBlw k (H1 q dn st cv)=true:=by
  obtain ⟨m,rfl⟩:=Nat.exists_eq_add_of_le' hk
  show ((V.blws (m + 7) q) && (((V.blw (m + 7) st && (V.blw (m + 7) cv && true))) && (V.blws (m + 7) dn && true)))=true
  rw [hst,hq,hcv,hdn]; rfl
theorem good1 (q:List Mine.V) (hcv:V.blw 7 cv=true) (hdn:V.blws 7 dn=true) (hq:V.blws 7 q=true:=by kernel_rfl):Good 7 (H1 q dn (me f) cv):=⟨by kernel_rfl,by kernel_rfl,H1_b (Nat.le_refl _) rfl hq hcv hdn⟩
theorem blw_up {v:Mine.V}:V.blw 7 v=true→V.blw 8 v=true:=
  V.rec (motive_1:=fun v=>V.blw 7 v=true→V.blw 8 v=true) (motive_2:=fun l=>V.blws 7 l=true→V.blws 8 l=true) (fun h=>h) (fun _ h=>h) (fun _ h=>h) (fun _ h=>h) (fun _ h=>h) (fun _ h=>h) (fun _ _ h=>h) (fun i=>by
    cases i with
    | p n=>exact fun h=>h
    | t n=>exact fun h=>decide_eq_true (Nat.lt_succ_of_lt (of_decide_eq_true h))) (fun _ h=>h) (fun _ _ h=>h) (fun _ _ h=>h) (fun h=>h) (fun _ _ h1 h2 h=>bA h fun a b=>by
      show (V.blw 8 _ && V.blws 8 _)=true
      rw [h1 a,h2 b]; rfl) v
theorem blws_up:∀ {l:List Mine.V},V.blws 7 l=true→V.blws 8 l=true
  | [],_=>rfl
  | v :: l,h=>bA h fun a b=>by
    show (V.blw 8 v && V.blws 8 l)=true
    rw [blw_up a,blws_up b]; rfl
theorem good8 (q:List Mine.V) (hcv:V.blw 7 cv=true) (hdn:V.blws 7 dn=true) (hq:V.blws 8 q=true:=by kernel_rfl):Good 8 (H1 q dn (me f) cv):=⟨by kernel_rfl,by kernel_rfl,H1_b (by decide) rfl hq (blw_up hcv) (blws_up hdn)⟩
theorem goodD (hdn:V.blws 7 dn=true) (hv:V.blws 7 vs=true:=by kernel_rfl):Good 7 (HD [] dn f vs):=⟨by kernel_rfl,by kernel_rfl,by
  show (V.blws 7 vs && hpBlw 7 (H1 [] dn (me f) (.obj (.p 0))))=true
  rw [hv,H1_b (st:=me f) (cv:=.obj (.p 0)) (q:=[]) (Nat.le_refl _) rfl rfl rfl hdn]; rfl⟩
theorem ck1 (hcv:V.blw 7 cv=true) (hdn:V.blws 7 dn=true):((V.blw 7 cv && true) && (V.blws 7 dn && true) && true)=true:=by rw [hcv,hdn]; rfl
theorem ckC (hdn:V.blws 7 dn=true):((V.blws 7 dn && true) && true)=true:=by rw [hdn]; rfl
theorem tdP (hp:V.blw 7 p=true):V.blws 7 (TD d p (.str d') b)=true:=by
  show (V.blw 7 p && true)=true
  rw [hp]; rfl
theorem tdS (hp:V.blw 7 p=true) (hs:V.blw 7 s=true):V.blws 7 (TD d p s b)=true:=by
  show (V.blw 7 p && (V.blw 7 s && true))=true
  rw [hp,hs]; rfl
theorem ckP (hp:V.blw 7 p=true) (hdn:V.blws 7 dn=true):(((V.blw 7 p && true) && (V.blws 7 dn && true)) && true)=true:=by rw [hp,hdn]; rfl
theorem ckS (hp:V.blw 7 p=true) (hs:V.blw 7 s=true) (hdn:V.blws 7 dn=true):(((V.blw 7 p && (V.blw 7 s && true)) && (V.blws 7 dn && true)) && true)=true:=by rw [hp,hs,hdn]; rfl
end
theorem neq {a b:Nat} (h:a ≠ b):some ([a] == [b])=some false:=congrArg some (beq_eq_false_iff_ne.mpr fun e=>h (List.cons.inj e).1)
theorem cat_ok {a b:List Nat} {k:Nat} (h:a.length + b.length≤k) (hk:k≤maxLen):bopV σ0 .add (.str a) (.str b)=some (.str (a ++ b)):=by
  show gd (Nat.ble (a.length + b.length) maxLen) _=_
  rw [ble (Nat.le_trans h hk)]; rfl
end Mine
end
noncomputable section
namespace Mine
noncomputable def lowE:ME:=(.ite (.cmp2 .le .le (.k (.str [65])) (.loc 33) (.k (.str [90]))) (.bi .chr [(.bop .add (.bi .ord [(.loc 33)]) (.k (.int 32)))]) (.loc 33))
theorem joinL_flat:∀ l:List (List Nat),joinL [] l=l.flatten
  | []=>rfl
  | [x]=>(List.append_nil x).symm
  | x :: y :: r=>(congrArg (· ++ joinL [] (y :: r)) (List.append_nil x)).trans (congrArg (x ++ ·) (joinL_flat (y :: r)))
theorem strsOf_map:∀ l:List (List Nat),strsOf? (l.map Mine.V.str)=some l
  | []=>rfl
  | x :: l=>by
    show bo (strsOf? (l.map Mine.V.str)) _=_
    rw [strsOf_map l]; rfl
theorem join_ok {l:List (List Nat)} (h:(joinL [] l).length≤maxLen):smV σ0 .join [] [.list (l.map .str)]=some (.str (joinL [] l)):=by
  show bo (strsOf? (l.map .str)) (fun ys=>gd (Nat.ble ((ys.map (·.length)).sum + ys.length * 0) maxLen) (some (Mine.V.str (joinL [] ys))))=_
  rw [strsOf_map]
  show gd (Nat.ble ((l.map (·.length)).sum + l.length * 0) maxLen) _=_
  rw [joinL_flat,List.length_flatten] at h
  rw [ble (by exact h)]; rfl
section
variable {C:Ora} {L:List (Nat × Mine.V)} {n nx:Nat} {H:List (Id × Ob)} {P:List Nat} {a:Nat} {d:List Nat}
theorem dec_of {p:Prop} [Decidable p] (h:p):some (decide p)=some true:=congrArg some (decide_eq_true h)
theorem ndec_of {p:Prop} [Decidable p] (h:¬ p):some (decide p)=some false:=congrArg some (decide_eq_false h)
theorem chrv_ok {i:Int} {t:Nat} (e:i.toNat=t) (h1:decide (0≤i)=true) (h2:decide (i < 1114112)=true):biV σ0 .chr [.int i]=some (.str [t]):=by
  show gd (decide (0≤i) && decide (i < 1114112)) (some (Mine.V.str [i.toNat]))=_
  rw [h1,h2,e]; rfl
theorem low_1:ev C lowE ⟨(33,.str [a]) :: L,H,nx,P⟩=some (.str [lowC a],⟨(33,.str [a]) :: L,H,nx,P⟩):=by
  refine Ends.ev ?_
  by_cases h1:65≤a
  · by_cases h2:a≤90
    · have e:lowC a=a + 32:=if_pos ⟨h1,h2⟩
      have g:=chrv_ok (i:=(a:Int) + 32) (t:=a + 32) rfl (decide_eq_true (Int.natCast_nonneg (a + 32))) (decide_eq_true (Int.ofNat_lt.mpr (Nat.lt_of_le_of_lt (Nat.add_le_add_right h2 32) (by decide))))
      rw [e]
      exact .b 0 (dec_of h1) (.b 0 (dec_of h2) (.v 3 g (.done 1)))
    · have e:lowC a=a:=if_neg fun q=>h2 q.2
      rw [e]
      exact .b 0 (dec_of h1) (.b 0 (ndec_of h2) (.done 2))
  · have e:lowC a=a:=if_neg fun q=>h1 q.1
    rw [e]
    exact .b 0 (ndec_of h1) (.done 2)
theorem low_all:∀ d:List Nat,compN (compF (ev C lowE) (ev C (.k (.bool true))) 33 L) (d.map fun c=>.str [c]) ⟨L,H,nx,P⟩=some ((d.map fun a=>[lowC a]).map .str,⟨L,H,nx,P⟩)
  | []=>rfl
  | a :: d=>by
    show bn (bn (ev C lowE ⟨(33,.str [a]) :: L,H,nx,P⟩) _) _=_
    rw [low_1]
    show bn (compN _ (d.map fun c=>.str [c]) ⟨L,H,nx,P⟩) _=_
    rw [low_all d]; rfl
theorem flat_one:∀ d:List Nat,(d.map fun a=>[lowC a]).flatten=d.map lowC
  | []=>rfl
  | a :: d=>congrArg (lowC a :: ·) (flat_one d)
theorem low_sp (hd:d.length≤maxLen):oraN tT (n + 1) 34 [.str d] ⟨L,H,nx,P⟩=some (.str (d.map lowC),⟨L,H,nx,P⟩):=by
  have hl:(joinL [] (d.map fun a=>[lowC a])).length≤maxLen:=by rw [joinL_flat,flat_one,List.length_map]; exact hd
  have hj:=join_ok hl
  rw [joinL_flat,flat_one] at hj
  have g1:Nat.ble (d.map fun c=>Mine.V.str [c]).length maxLen=true:=ble (by rw [List.length_map]; exact hd)
  have hc:=low_all (C:=oraN tT n) (L:=[(1,.str d)]) (H:=H) (nx:=nx) (P:=P) d
  refine orun ?_
  exact .g 1 (g1) (.l 0 (hc) (.v 0 (hj) (.done 1)))
end
end Mine
end
noncomputable section
namespace Mine
noncomputable def nNeed:List Nat:=[110,101,101,100,45,115,112,97,99,101,45,97,102,116,101,114,45,100,111,99,116,121,112,101]
noncomputable def nNmGt:List Nat:=[101,120,112,101,99,116,101,100,45,100,111,99,116,121,112,101,45,110,97,109,101,45,98,117,116,45,103,111,116,45,114,105,103,104,116,45,98,114,97,99,107,101,116]
noncomputable def nNmEof:List Nat:=[101,120,112,101,99,116,101,100,45,100,111,99,116,121,112,101,45,110,97,109,101,45,98,117,116,45,103,111,116,45,101,111,102]
noncomputable def nEofN:List Nat:=[101,111,102,45,105,110,45,100,111,99,116,121,112,101,45,110,97,109,101]
noncomputable def nEofD:List Nat:=[101,111,102,45,105,110,45,100,111,99,116,121,112,101]
noncomputable def nSpB:List Nat:=[101,120,112,101,99,116,101,100,45,115,112,97,99,101,45,111,114,45,114,105,103,104,116,45,98,114,97,99,107,101,116,45,105,110,45,100,111,99,116,121,112,101]
noncomputable def nOdd:List Nat:=[117,110,101,120,112,101,99,116,101,100,45,99,104,97,114,45,105,110,45,100,111,99,116,121,112,101]
noncomputable def nEnd:List Nat:=[117,110,101,120,112,101,99,116,101,100,45,101,110,100,45,111,102,45,100,111,99,116,121,112,101]
noncomputable def nDoc:List Nat:=[101,120,112,101,99,116,101,100,45,100,97,115,104,101,115,45,111,114,45,100,111,99,116,121,112,101]
noncomputable def pV (o:Option (List Nat)):Mine.V:=match o with
  | none=>.none
  | some l=>.str l
structure DF where
  n:List Nat
  p:Option (List Nat)
  s:Option (List Nat)
  b:Bool
noncomputable def DF.vs (d:DF):List Mine.V:=TD d.n (pV d.p) (pV d.s) d.b
noncomputable def DF.no (d:DF):DF:=⟨d.n,d.p,d.s,false⟩
noncomputable def blk (a:Nat):Bool:=Nat.beq a 32 || Nat.beq a 10
noncomputable def quo (a:Nat):Bool:=Nat.beq a 34 || Nat.beq a 39
noncomputable abbrev O0:Mine.V:=.obj (.p 0)
noncomputable def dtT (f a:Nat) (d:DF):Option (List Mine.V × Nat × DF):=
  bif Nat.beq f 20 then (bif blk a then some ([],32,d) else none)
  else bif Nat.beq f 32 then (bif blk a then some ([],32,d) else bif Nat.beq a 62 then some ([tErr nNmGt,O0],9,d.no) else bif Nat.beq a 0 then some ([tErr nINV],33,{ d with n:=[65533] }) else some ([],33,{ d with n:=[a] }))
  else bif Nat.beq f 35 then (bif blk a then some ([],35,d) else bif Nat.beq a 62 then some ([O0],9,d) else none)
  else bif Nat.beq f 36 then (bif blk a then some ([],39,d) else none)
  else bif Nat.beq f 37 then (bif blk a then some ([],46,d) else none)
  else bif Nat.beq f 38 then (bif Nat.beq a 62 then some ([O0],9,d) else some ([],38,d))
  else bif Nat.beq f 39 then (bif blk a then some ([],39,d) else bif Nat.beq a 34 then some ([],40,{ d with p:=some [] }) else bif Nat.beq a 39 then some ([],41,{ d with p:=some [] }) else bif Nat.beq a 62 then some ([tErr nEnd,O0],9,d.no) else some ([tErr nOdd],38,d.no))
  else bif Nat.beq f 40 then (bif Nat.beq a 34 then some ([],42,d) else bif Nat.beq a 62 then some ([tErr nEnd,O0],9,d.no) else none)
  else bif Nat.beq f 41 then (bif Nat.beq a 39 then some ([],42,d) else bif Nat.beq a 62 then some ([tErr nEnd,O0],9,d.no) else none)
  else bif Nat.beq f 42 then (bif blk a then some ([],43,d) else bif Nat.beq a 34 then some ([tErr nOdd],44,{ d with s:=some [] }) else bif Nat.beq a 39 then some ([tErr nOdd],45,{ d with s:=some [] }) else bif Nat.beq a 62 then some ([O0],9,d) else some ([tErr nOdd],38,d.no))
  else bif Nat.beq f 43 then (bif blk a then some ([],43,d) else bif Nat.beq a 34 then some ([],44,{ d with s:=some [] }) else bif Nat.beq a 39 then some ([],45,{ d with s:=some [] }) else bif Nat.beq a 62 then some ([O0],9,d) else some ([tErr nOdd],38,d.no))
  else bif Nat.beq f 44 then (bif Nat.beq a 34 then some ([],47,d) else bif Nat.beq a 62 then some ([tErr nEnd,O0],9,d.no) else none)
  else bif Nat.beq f 45 then (bif Nat.beq a 39 then some ([],47,d) else bif Nat.beq a 62 then some ([tErr nEnd,O0],9,d.no) else none)
  else bif Nat.beq f 46 then (bif blk a then some ([],46,d) else bif Nat.beq a 34 then some ([],44,{ d with s:=some [] }) else bif Nat.beq a 39 then some ([],45,{ d with s:=some [] }) else bif Nat.beq a 62 then some ([tErr nOdd,O0],9,d.no) else some ([tErr nOdd],38,d.no))
  else bif Nat.beq f 47 then (bif blk a then some ([],47,d) else bif Nat.beq a 62 then some ([O0],9,d) else some ([tErr nOdd],38,d))
  else none
noncomputable def dtE (f:Nat):Option (List Nat):=
  bif Nat.beq f 20 || Nat.beq f 32 then some nNmEof
  else bif Nat.beq f 36 || (Nat.beq f 37 || (Nat.ble 39 f && Nat.ble f 47)) then some nEofD
  else none
noncomputable def fl:List Nat:=[20,32,35,36,37,38,39,40,41,42,43,44,45,46,47]
section
variable {dn q:List Mine.V} {src ch:List Nat} {l1 l2:Int} {off off' a f f':Nat} {d d':DF} {L:List (Nat × Mine.V)} {v:Mine.V} {hp:List (Id × Ob)} {nx k:Nat} {ps:List Nat} {r:Rz} {o₁ o₃:Ob}
theorem Ends.toN (h:Ends r retG (v,hp,nx,ps)) (hc:chkN ids k v ⟨L,hp,nx,ps⟩=true):Ends r (normG L k) (v,⟨L,hpN ids k hp,k,ps⟩):=by
  unfold Ends at h ⊢
  generalize sem r=x at h
  cases x with
  | none=>exact nn h
  | some p =>
    show bo (retOf p.1) (fun v=>gd (chkN ids k v ⟨L,p.2.hp,p.2.nx,p.2.ps⟩) (some (v,(⟨L,hpN ids k p.2.hp,k,p.2.ps⟩:St))))=_
    have h:bo (retOf p.1) (fun v=>some (v,p.2.hp,p.2.nx,p.2.ps))=some (v,hp,nx,ps):=h
    generalize retOf p.1=w at h
    cases w with
    | none=>exact nn h
    | some w =>
      cases h
      show gd (chkN ids k v ⟨L,p.2.hp,p.2.nx,p.2.ps⟩) _=_
      rw [hc]; rfl
theorem blw_pV:∀ o:Option (List Nat),V.blw 7 (pV o)=true
  | none=>rfl
  | some _=>rfl
theorem goodQ (hdn:V.blws 7 dn=true) (hq:V.blws 7 q=true:=by kernel_rfl):Good 7 (HD q dn f d.vs):=⟨by kernel_rfl,by kernel_rfl,by
  show ((V.blw 7 (pV d.p) && (V.blw 7 (pV d.s) && true)) && hpBlw 7 (H1 q dn (me f) O0))=true
  rw [blw_pV,blw_pV,H1_b (st:=me f) (cv:=O0) (q:=q) (Nat.le_refl _) rfl hq rfl hdn]; rfl⟩
theorem endD (hdn:V.blws 7 dn=true) (hq:V.blws 7 q=true) (ho:Ob.blw 7 o₁=true∧Ob.blw 7 o₃=true) (h:Ends r retG (.bool true,hS o₁ o₃ (HD q dn f d.vs),nx,[0,99])):Ends r (normG [(0,T0)] 7) (.bool true,⟨[(0,T0)],hS o₁ o₃ (HD q dn f d.vs),7,[0,99]⟩):=by
  have g:=goodQ (f:=f) (d:=d) hdn hq
  have e:=good_hpN (o₁:=o₁) (o₃:=o₃) g (by decide)
  refine Eq.trans (Ends.toN h ?_) (congrArg (fun h=>some (_,(⟨_,h,_,_⟩:St))) e)
  show (true && (hpBlw 7 (hpN ids 7 (hS o₁ o₃ (HD q dn f d.vs))) && true))=true
  rw [e]
  show (true && (((Ob.blw 7 o₁) && ((Ob.blw 7 o₃) && hpBlw 7 (HD q dn f d.vs))) && true))=true
  rw [ho.1,ho.2,g.b]; rfl
noncomputable def stD (q dn:List Mine.V) (src ch:List Nat) (off:Nat) (l1 l2:Int) (f:Nat) (d:DF):St:=SD q dn src ch off l1 l2 f d.vs
theorem stpD (hdn:V.blws 7 dn=true) (hq:V.blws 7 q=true) {σ:St} (hσ:σ.loc=[(0,T0)]∧σ.nx=7) {ch':List Nat} {l1' l2':Int} (h:Ends (startL f [T0] σ) retG (.bool true,hS (I1 ch' ch'.length off' l1' l2') (I3 src src.length) (HD q dn f' d'.vs),nx,[0,99])):Stp f σ true (stD q dn src ch' off' l1' l2' f' d'):=by
  refine stp ?_
  rw [hσ.1,hσ.2]
  exact endD hdn hq ⟨rfl,rfl⟩ h
noncomputable def runA (f a off:Nat) (d:DF) (dn:List Mine.V) (src ch:List Nat) (l1 l2:Int):Option (Mine.V × List (Id × Ob) × Nat × List Nat):=(fw 60 ((fw 4 (startL f [T0] (stD [] dn src ch off l1 l2 f d))).oc (.str [a]) ⟨[(0,T0)],hS (I1 ch ch.length (off + 1:Nat) l1 l2) (I3 src src.length) (HD [] dn f d.vs),7,[0,99]⟩)).out retG
noncomputable def prs:List (Nat × Nat):=fl.flatMap fun f=>al.map fun a=>(f,a)
theorem runA_all:∀ x ∈ prs,((dtT x.1 x.2 d).bind fun r=>runA x.1 x.2 off d dn src ch l1 l2)=((dtT x.1 x.2 d).map fun r=>(.bool true,hS (I1 ch ch.length (off + 1:Nat) l1 l2) (I3 src src.length) (HD r.1 dn r.2.1 r.2.2.vs),7,[0,99])):=allR (by kernel_rfl)
theorem gc_all:∀ f ∈ fl,(fw 4 (startL f [T0] (stD [] dn src ch off l1 l2 f d))).gc=FO 10 [T1] ⟨[(0,T0)],hS (I1 ch ch.length off l1 l2) (I3 src src.length) (HD [] dn f d.vs),7,[0,99]⟩:=allR (by kernel_rfl)
theorem d_go (hf:f ∈ fl) (haa:a ∈ al) (e:dtT f a d=some (q,f',d')) (hdn:V.blws 7 dn=true) (hq:V.blws 7 q=true) (hm:ch.length≤maxLen) (ha:ch[off]?=some a):Stp f (stD [] dn src ch off l1 l2 f d) true (stD q dn src ch (off + 1) l1 l2 f' d'):=by
  have h:=runA_all (off:=off) (d:=d) (dn:=dn) (src:=src) (ch:=ch) (l1:=l1) (l2:=l2) (f,a) (List.mem_flatMap.mpr ⟨f,hf,List.mem_map.mpr ⟨a,haa,rfl⟩⟩)
  rw [e] at h
  exact stpD (nx:=7) hdn hq ⟨rfl,rfl⟩ (.c 4 (fo_more (k:=7) (L:=[(0,T0)]) (P:=[0,99]) (off:=off) (l1:=l1) (l2:=l2) (src:=src) (pl:=src.length) (by decide) (goodQ (q:=[]) (f:=f) (d:=d) hdn) ha hm) (.done 60 h) (gc_all f hf))
noncomputable def runE (f:Nat) (d:DF) (dn:List Mine.V) (src ch:List Nat) (off:Nat) (l1 l2 l1' l2':Int):Option (Mine.V × List (Id × Ob) × Nat × List Nat):=(fw 60 ((fw 4 (startL f [T0] (stD [] dn src ch off l1 l2 f d))).oc .none ⟨[(0,T0)],hS (I1 [] 0 0 l1' l2') (I3 src src.length) (HD [] dn f d.vs),7,[0,99]⟩)).out retG
theorem runE_all {l1' l2':Int}:∀ f ∈ fl,((dtE f).bind fun _=>runE f d dn src ch off l1 l2 l1' l2')=((dtE f).map fun r=>(.bool true,hS (I1 [] 0 0 l1' l2') (I3 src src.length) (HD [tErr r,O0] dn 9 d.no.vs),7,[0,99])):=allR (by kernel_rfl)
theorem d_eof {x:List Nat} (hf:f ∈ fl) (e:dtE f=some x) (hdn:V.blws 7 dn=true) (hs:src.length≤10240):Stp f (stD [] dn src ch ch.length l1 l2 f d) true (stD [tErr x,O0] dn src [] 0 (posF ch l1 l2).1 (posF ch l1 l2).2 9 d.no):=by
  have h:=runE_all (off:=ch.length) (d:=d) (dn:=dn) (src:=src) (ch:=ch) (l1:=l1) (l2:=l2) (l1':=(posF ch l1 l2).1) (l2':=(posF ch l1 l2).2) f hf
  rw [e] at h
  exact stpD (ch':=[]) (off':=0) (nx:=7) hdn rfl ⟨rfl,rfl⟩ (.c 4 (fo_end (L:=[(0,T0)]) (P:=[0,99]) (ch:=ch) (l1:=l1) (l2:=l2) (by decide) (goodQ (q:=[]) (f:=f) (d:=d) hdn) hs) (.done 60 h) (gc_all f hf))
end
end Mine
end
noncomputable section
namespace Mine
noncomputable def isSp (a:Nat):Bool:=[[9],[10],[12],[32],[13]].any (· == [a])
section
variable {dn q:List Mine.V} {src ch:List Nat} {l1 l2:Int} {off a:Nat} {d:DF} {n p s:List Nat} {b:Bool} {o:Option (List Nat)} {H:List (Id × Ob)} {L:List (Nat × Mine.V)} {P:List Nat} {o₁ o₃:Ob}
theorem fo_low (g:Good 7 H) (hd:n.length≤maxLen) (hL:fsBlw 7 L=true:=by kernel_rfl) (hb:Ob.blw 7 o₁=true∧Ob.blw 7 o₃=true:=by exact ⟨rfl,rfl⟩):FO 34 [.str n] ⟨L,hS o₁ o₃ H,7,P⟩=some (.str (n.map lowC),⟨L,hS o₁ o₃ H,7,P⟩):=fo_of g (by decide) hL rfl hb (low_sp (n:=3) hd)
theorem nin2 {a b c:Nat} (h:a ≠ b) (h':a ≠ c):some ([[b],[c]].any (· == [a]))=some false:=by
  have e:∀ {x:Nat},a ≠ x→([x] == [a])=false:=fun h=>beq_eq_false_iff_ne.mpr fun e=>h (List.cons.inj e).1.symm
  show some (([b] == [a]) || (([c] == [a]) || false))=_
  rw [e h,e h']; rfl
theorem d33_32 (hdn:V.blws 7 dn=true) (hm:ch.length≤maxLen) (ha:ch[off]?=some 32) (hn:n.length≤maxLen):Stp 33 (stD [] dn src ch off l1 l2 33 ⟨n,d.p,d.s,d.b⟩) true (stD [] dn src ch (off + 1) l1 l2 35 ⟨n.map lowC,d.p,d.s,d.b⟩):=by
  refine stpD  (nx:=7) hdn rfl ⟨rfl,rfl⟩ ?_
  exact .c 4 (fo_more (k:=7) (L:=[(0,T0)]) (P:=[0,99]) (off:=off) (l1:=l1) (l2:=l2) (src:=src) (pl:=src.length) (by decide) (goodQ (q:=[]) (f:=33) (d:=⟨n,d.p,d.s,d.b⟩) hdn) ha hm) (.c 5 (fo_low (n:=n) (L:=[(0,T0),(30,.str [32])]) (P:=[0,99]) (o₁:=I1 ch ch.length (off + 1:Nat) l1 l2) (o₃:=I3 src src.length) (goodQ (q:=[]) (f:=33) (d:=⟨n,d.p,d.s,d.b⟩) hdn) hn) (.done 10))
theorem d33_10 (hdn:V.blws 7 dn=true) (hm:ch.length≤maxLen) (ha:ch[off]?=some 10) (hn:n.length≤maxLen):Stp 33 (stD [] dn src ch off l1 l2 33 ⟨n,d.p,d.s,d.b⟩) true (stD [] dn src ch (off + 1) l1 l2 35 ⟨n.map lowC,d.p,d.s,d.b⟩):=by
  refine stpD  (nx:=7) hdn rfl ⟨rfl,rfl⟩ ?_
  exact .c 4 (fo_more (k:=7) (L:=[(0,T0)]) (P:=[0,99]) (off:=off) (l1:=l1) (l2:=l2) (src:=src) (pl:=src.length) (by decide) (goodQ (q:=[]) (f:=33) (d:=⟨n,d.p,d.s,d.b⟩) hdn) ha hm) (.c 5 (fo_low (n:=n) (L:=[(0,T0),(30,.str [10])]) (P:=[0,99]) (o₁:=I1 ch ch.length (off + 1:Nat) l1 l2) (o₃:=I3 src src.length) (goodQ (q:=[]) (f:=33) (d:=⟨n,d.p,d.s,d.b⟩) hdn) hn) (.done 10))
theorem d33_gt (hdn:V.blws 7 dn=true) (hm:ch.length≤maxLen) (ha:ch[off]?=some 62) (hn:n.length≤maxLen):Stp 33 (stD [] dn src ch off l1 l2 33 ⟨n,d.p,d.s,d.b⟩) true (stD [O0] dn src ch (off + 1) l1 l2 9 ⟨n.map lowC,d.p,d.s,d.b⟩):=by
  refine stpD  (nx:=7) hdn rfl ⟨rfl,rfl⟩ ?_
  exact .c 4 (fo_more (k:=7) (L:=[(0,T0)]) (P:=[0,99]) (off:=off) (l1:=l1) (l2:=l2) (src:=src) (pl:=src.length) (by decide) (goodQ (q:=[]) (f:=33) (d:=⟨n,d.p,d.s,d.b⟩) hdn) ha hm) (.c 7 (fo_low (n:=n) (L:=[(0,T0),(30,.str [62])]) (P:=[0,99]) (o₁:=I1 ch ch.length (off + 1:Nat) l1 l2) (o₃:=I3 src src.length) (goodQ (q:=[]) (f:=33) (d:=⟨n,d.p,d.s,d.b⟩) hdn) hn) (.done 18))
theorem d33_eof (hdn:V.blws 7 dn=true) (hs:src.length≤10240) (hn:n.length≤maxLen):Stp 33 (stD [] dn src ch ch.length l1 l2 33 ⟨n,d.p,d.s,d.b⟩) true (stD [tErr nEofN,O0] dn src [] 0 (posF ch l1 l2).1 (posF ch l1 l2).2 9 ⟨n.map lowC,d.p,d.s,false⟩):=by
  refine stpD (ch':=[]) (off':=0) (nx:=7) hdn rfl ⟨rfl,rfl⟩ ?_
  exact .c 4 (fo_end (k:=7) (L:=[(0,T0)]) (P:=[0,99]) (ch:=ch) (l1:=l1) (l2:=l2) (by decide) (goodQ (q:=[]) (f:=33) (d:=⟨n,d.p,d.s,d.b⟩) hdn) hs) (.c 24 (fo_low (n:=n) (L:=[(0,T0),(30,.none)]) (P:=[0,99]) (o₁:=I1 [] 0 0 (posF ch l1 l2).1 (posF ch l1 l2).2) (o₃:=I3 src src.length) (goodQ (q:=[tErr nEofN]) (f:=33) (d:=⟨n,d.p,d.s,false⟩) hdn) hn) (.done 18))
theorem d33_nul (hdn:V.blws 7 dn=true) (hm:ch.length≤maxLen) (ha:ch[off]?=some 0) (hk:n.length + 1≤maxLen):Stp 33 (stD [] dn src ch off l1 l2 33 ⟨n,d.p,d.s,d.b⟩) true (stD [tErr nINV] dn src ch (off + 1) l1 l2 33 ⟨n ++ [65533],d.p,d.s,d.b⟩):=by
  refine stpD  (nx:=7) hdn rfl ⟨rfl,rfl⟩ ?_
  exact .c 4 (fo_more (k:=7) (L:=[(0,T0)]) (P:=[0,99]) (off:=off) (l1:=l1) (l2:=l2) (src:=src) (pl:=src.length) (by decide) (goodQ (q:=[]) (f:=33) (d:=⟨n,d.p,d.s,d.b⟩) hdn) ha hm) (.v 18 (cat_ok (a:=n) (b:=[65533]) hk (Nat.le_refl _)) (.done 8))
theorem d33_else (hdn:V.blws 7 dn=true) (hm:ch.length≤maxLen) (ha:ch[off]?=some a) (hk:n.length + 1≤maxLen) (hsp:isSp a=false) (h62:a ≠ 62) (h0:a ≠ 0):Stp 33 (stD [] dn src ch off l1 l2 33 ⟨n,d.p,d.s,d.b⟩) true (stD [] dn src ch (off + 1) l1 l2 33 ⟨n ++ [a],d.p,d.s,d.b⟩):=by
  refine stpD  (nx:=7) hdn rfl ⟨rfl,rfl⟩ ?_
  exact .c 4 (fo_more (k:=7) (L:=[(0,T0)]) (P:=[0,99]) (off:=off) (l1:=l1) (l2:=l2) (src:=src) (pl:=src.length) (by decide) (goodQ (q:=[]) (f:=33) (d:=⟨n,d.p,d.s,d.b⟩) hdn) ha hm) (.b 0 ((congrArg some hsp:some (isSp a)=some false)) (.b 1 (neq h62) (.b 1 (neq h0) (.v 6 (cat_ok (a:=n) (b:=[a]) hk (Nat.le_refl _)) (.done 3)))))
theorem d40_nul (hdn:V.blws 7 dn=true) (hm:ch.length≤maxLen) (ha:ch[off]?=some 0) (hk:p.length + 1≤maxLen):Stp 40 (stD [] dn src ch off l1 l2 40 ⟨d.n,some (p),d.s,d.b⟩) true (stD [tErr nINV] dn src ch (off + 1) l1 l2 40 ⟨d.n,some (p ++ [65533]),d.s,d.b⟩):=by
  refine stpD  (nx:=7) hdn rfl ⟨rfl,rfl⟩ ?_
  exact .c 4 (fo_more (k:=7) (L:=[(0,T0)]) (P:=[0,99]) (off:=off) (l1:=l1) (l2:=l2) (src:=src) (pl:=src.length) (by decide) (goodQ (q:=[]) (f:=40) (d:=⟨d.n,some (p),d.s,d.b⟩) hdn) ha hm) (.v 16 (cat_ok (a:=p) (b:=[65533]) hk (Nat.le_refl _)) (.done 3))
theorem d40_else (hdn:V.blws 7 dn=true) (hm:ch.length≤maxLen) (ha:ch[off]?=some a) (hk:p.length + 1≤maxLen) (hq:a ≠ 34) (h62:a ≠ 62) (h0:a ≠ 0):Stp 40 (stD [] dn src ch off l1 l2 40 ⟨d.n,some (p),d.s,d.b⟩) true (stD [] dn src ch (off + 1) l1 l2 40 ⟨d.n,some (p ++ [a]),d.s,d.b⟩):=by
  refine stpD  (nx:=7) hdn rfl ⟨rfl,rfl⟩ ?_
  exact .c 4 (fo_more (k:=7) (L:=[(0,T0)]) (P:=[0,99]) (off:=off) (l1:=l1) (l2:=l2) (src:=src) (pl:=src.length) (by decide) (goodQ (q:=[]) (f:=40) (d:=⟨d.n,some (p),d.s,d.b⟩) hdn) ha hm) (.b 0 (neq hq) (.b 1 (neq h0) (.b 1 (neq h62) (.v 6 (cat_ok (a:=p) (b:=[a]) hk (Nat.le_refl _)) (.done 3)))))
theorem d41_nul (hdn:V.blws 7 dn=true) (hm:ch.length≤maxLen) (ha:ch[off]?=some 0) (hk:p.length + 1≤maxLen):Stp 41 (stD [] dn src ch off l1 l2 41 ⟨d.n,some (p),d.s,d.b⟩) true (stD [tErr nINV] dn src ch (off + 1) l1 l2 41 ⟨d.n,some (p ++ [65533]),d.s,d.b⟩):=by
  refine stpD  (nx:=7) hdn rfl ⟨rfl,rfl⟩ ?_
  exact .c 4 (fo_more (k:=7) (L:=[(0,T0)]) (P:=[0,99]) (off:=off) (l1:=l1) (l2:=l2) (src:=src) (pl:=src.length) (by decide) (goodQ (q:=[]) (f:=41) (d:=⟨d.n,some (p),d.s,d.b⟩) hdn) ha hm) (.v 16 (cat_ok (a:=p) (b:=[65533]) hk (Nat.le_refl _)) (.done 3))
theorem d41_else (hdn:V.blws 7 dn=true) (hm:ch.length≤maxLen) (ha:ch[off]?=some a) (hk:p.length + 1≤maxLen) (hq:a ≠ 39) (h62:a ≠ 62) (h0:a ≠ 0):Stp 41 (stD [] dn src ch off l1 l2 41 ⟨d.n,some (p),d.s,d.b⟩) true (stD [] dn src ch (off + 1) l1 l2 41 ⟨d.n,some (p ++ [a]),d.s,d.b⟩):=by
  refine stpD  (nx:=7) hdn rfl ⟨rfl,rfl⟩ ?_
  exact .c 4 (fo_more (k:=7) (L:=[(0,T0)]) (P:=[0,99]) (off:=off) (l1:=l1) (l2:=l2) (src:=src) (pl:=src.length) (by decide) (goodQ (q:=[]) (f:=41) (d:=⟨d.n,some (p),d.s,d.b⟩) hdn) ha hm) (.b 0 (neq hq) (.b 1 (neq h0) (.b 1 (neq h62) (.v 6 (cat_ok (a:=p) (b:=[a]) hk (Nat.le_refl _)) (.done 3)))))
theorem d44_nul (hdn:V.blws 7 dn=true) (hm:ch.length≤maxLen) (ha:ch[off]?=some 0) (hk:p.length + 1≤maxLen):Stp 44 (stD [] dn src ch off l1 l2 44 ⟨d.n,d.p,some (p),d.b⟩) true (stD [tErr nINV] dn src ch (off + 1) l1 l2 44 ⟨d.n,d.p,some (p ++ [65533]),d.b⟩):=by
  refine stpD  (nx:=7) hdn rfl ⟨rfl,rfl⟩ ?_
  exact .c 4 (fo_more (k:=7) (L:=[(0,T0)]) (P:=[0,99]) (off:=off) (l1:=l1) (l2:=l2) (src:=src) (pl:=src.length) (by decide) (goodQ (q:=[]) (f:=44) (d:=⟨d.n,d.p,some (p),d.b⟩) hdn) ha hm) (.v 16 (cat_ok (a:=p) (b:=[65533]) hk (Nat.le_refl _)) (.done 3))
theorem d44_else (hdn:V.blws 7 dn=true) (hm:ch.length≤maxLen) (ha:ch[off]?=some a) (hk:p.length + 1≤maxLen) (hq:a ≠ 34) (h62:a ≠ 62) (h0:a ≠ 0):Stp 44 (stD [] dn src ch off l1 l2 44 ⟨d.n,d.p,some (p),d.b⟩) true (stD [] dn src ch (off + 1) l1 l2 44 ⟨d.n,d.p,some (p ++ [a]),d.b⟩):=by
  refine stpD  (nx:=7) hdn rfl ⟨rfl,rfl⟩ ?_
  exact .c 4 (fo_more (k:=7) (L:=[(0,T0)]) (P:=[0,99]) (off:=off) (l1:=l1) (l2:=l2) (src:=src) (pl:=src.length) (by decide) (goodQ (q:=[]) (f:=44) (d:=⟨d.n,d.p,some (p),d.b⟩) hdn) ha hm) (.b 0 (neq hq) (.b 1 (neq h0) (.b 1 (neq h62) (.v 6 (cat_ok (a:=p) (b:=[a]) hk (Nat.le_refl _)) (.done 3)))))
theorem d45_nul (hdn:V.blws 7 dn=true) (hm:ch.length≤maxLen) (ha:ch[off]?=some 0) (hk:p.length + 1≤maxLen):Stp 45 (stD [] dn src ch off l1 l2 45 ⟨d.n,d.p,some (p),d.b⟩) true (stD [tErr nINV] dn src ch (off + 1) l1 l2 45 ⟨d.n,d.p,some (p ++ [65533]),d.b⟩):=by
  refine stpD  (nx:=7) hdn rfl ⟨rfl,rfl⟩ ?_
  exact .c 4 (fo_more (k:=7) (L:=[(0,T0)]) (P:=[0,99]) (off:=off) (l1:=l1) (l2:=l2) (src:=src) (pl:=src.length) (by decide) (goodQ (q:=[]) (f:=45) (d:=⟨d.n,d.p,some (p),d.b⟩) hdn) ha hm) (.v 16 (cat_ok (a:=p) (b:=[65533]) hk (Nat.le_refl _)) (.done 3))
theorem d45_else (hdn:V.blws 7 dn=true) (hm:ch.length≤maxLen) (ha:ch[off]?=some a) (hk:p.length + 1≤maxLen) (hq:a ≠ 39) (h62:a ≠ 62) (h0:a ≠ 0):Stp 45 (stD [] dn src ch off l1 l2 45 ⟨d.n,d.p,some (p),d.b⟩) true (stD [] dn src ch (off + 1) l1 l2 45 ⟨d.n,d.p,some (p ++ [a]),d.b⟩):=by
  refine stpD  (nx:=7) hdn rfl ⟨rfl,rfl⟩ ?_
  exact .c 4 (fo_more (k:=7) (L:=[(0,T0)]) (P:=[0,99]) (off:=off) (l1:=l1) (l2:=l2) (src:=src) (pl:=src.length) (by decide) (goodQ (q:=[]) (f:=45) (d:=⟨d.n,d.p,some (p),d.b⟩) hdn) ha hm) (.b 0 (neq hq) (.b 1 (neq h0) (.b 1 (neq h62) (.v 6 (cat_ok (a:=p) (b:=[a]) hk (Nat.le_refl _)) (.done 3)))))
theorem d20_else (hdn:V.blws 7 dn=true) (hm:ch.length≤maxLen) (ha:ch[off]?=some a) (hsp:isSp a=false):Stp 20 (stD [] dn src ch off l1 l2 20 d) true (stD [tErr nNeed] dn src ch off l1 l2 32 d):=by
  refine stpD  (nx:=7) hdn rfl ⟨rfl,rfl⟩ ?_
  exact .c 4 (fo_more (k:=7) (L:=[(0,T0)]) (P:=[0,99]) (off:=off) (l1:=l1) (l2:=l2) (src:=src) (pl:=src.length) (by decide) (goodQ (q:=[]) (f:=20) (d:=d) hdn) ha hm) (.b 0 ((congrArg some hsp:some (isSp a)=some false)) (.c 16 (fo_unB (k:=7) (L:=[(0,T0),(30,.str [a])]) (P:=[0,99]) (off:=off) (l1:=l1) (l2:=l2) (src:=src) (pl:=src.length) (by decide) (goodQ (q:=[tErr nNeed]) (f:=20) (d:=d) hdn) ha hm) (.done 7)))
theorem d36_34 (hdn:V.blws 7 dn=true) (hm:ch.length≤maxLen) (ha:ch[off]?=some 34):Stp 36 (stD [] dn src ch off l1 l2 36 d) true (stD [tErr nOdd] dn src ch off l1 l2 39 d):=by
  refine stpD  (nx:=7) hdn rfl ⟨rfl,rfl⟩ ?_
  exact .c 4 (fo_more (k:=7) (L:=[(0,T0)]) (P:=[0,99]) (off:=off) (l1:=l1) (l2:=l2) (src:=src) (pl:=src.length) (by decide) (goodQ (q:=[]) (f:=36) (d:=d) hdn) ha hm) (.c 17 (fo_unB (k:=7) (L:=[(0,T0),(30,.str [34])]) (P:=[0,99]) (off:=off) (l1:=l1) (l2:=l2) (src:=src) (pl:=src.length) (by decide) (goodQ (q:=[tErr nOdd]) (f:=36) (d:=d) hdn) ha hm) (.done 7))
theorem d36_39 (hdn:V.blws 7 dn=true) (hm:ch.length≤maxLen) (ha:ch[off]?=some 39):Stp 36 (stD [] dn src ch off l1 l2 36 d) true (stD [tErr nOdd] dn src ch off l1 l2 39 d):=by
  refine stpD  (nx:=7) hdn rfl ⟨rfl,rfl⟩ ?_
  exact .c 4 (fo_more (k:=7) (L:=[(0,T0)]) (P:=[0,99]) (off:=off) (l1:=l1) (l2:=l2) (src:=src) (pl:=src.length) (by decide) (goodQ (q:=[]) (f:=36) (d:=d) hdn) ha hm) (.c 17 (fo_unB (k:=7) (L:=[(0,T0),(30,.str [39])]) (P:=[0,99]) (off:=off) (l1:=l1) (l2:=l2) (src:=src) (pl:=src.length) (by decide) (goodQ (q:=[tErr nOdd]) (f:=36) (d:=d) hdn) ha hm) (.done 7))
theorem d36_else (hdn:V.blws 7 dn=true) (hm:ch.length≤maxLen) (ha:ch[off]?=some a) (hsp:isSp a=false) (h34:a ≠ 34) (h39:a ≠ 39):Stp 36 (stD [] dn src ch off l1 l2 36 d) true (stD [] dn src ch off l1 l2 39 d):=by
  refine stpD  (nx:=7) hdn rfl ⟨rfl,rfl⟩ ?_
  exact .c 4 (fo_more (k:=7) (L:=[(0,T0)]) (P:=[0,99]) (off:=off) (l1:=l1) (l2:=l2) (src:=src) (pl:=src.length) (by decide) (goodQ (q:=[]) (f:=36) (d:=d) hdn) ha hm) (.b 0 ((congrArg some hsp:some (isSp a)=some false)) (.b 1 (nin2 h39 h34) (.c 7 (fo_unB (k:=7) (L:=[(0,T0),(30,.str [a])]) (P:=[0,99]) (off:=off) (l1:=l1) (l2:=l2) (src:=src) (pl:=src.length) (by decide) (goodQ (q:=[]) (f:=36) (d:=d) hdn) ha hm) (.done 7))))
theorem d37_34 (hdn:V.blws 7 dn=true) (hm:ch.length≤maxLen) (ha:ch[off]?=some 34):Stp 37 (stD [] dn src ch off l1 l2 37 d) true (stD [tErr nOdd] dn src ch off l1 l2 46 d):=by
  refine stpD  (nx:=7) hdn rfl ⟨rfl,rfl⟩ ?_
  exact .c 4 (fo_more (k:=7) (L:=[(0,T0)]) (P:=[0,99]) (off:=off) (l1:=l1) (l2:=l2) (src:=src) (pl:=src.length) (by decide) (goodQ (q:=[]) (f:=37) (d:=d) hdn) ha hm) (.c 17 (fo_unB (k:=7) (L:=[(0,T0),(30,.str [34])]) (P:=[0,99]) (off:=off) (l1:=l1) (l2:=l2) (src:=src) (pl:=src.length) (by decide) (goodQ (q:=[tErr nOdd]) (f:=37) (d:=d) hdn) ha hm) (.done 7))
theorem d37_39 (hdn:V.blws 7 dn=true) (hm:ch.length≤maxLen) (ha:ch[off]?=some 39):Stp 37 (stD [] dn src ch off l1 l2 37 d) true (stD [tErr nOdd] dn src ch off l1 l2 46 d):=by
  refine stpD  (nx:=7) hdn rfl ⟨rfl,rfl⟩ ?_
  exact .c 4 (fo_more (k:=7) (L:=[(0,T0)]) (P:=[0,99]) (off:=off) (l1:=l1) (l2:=l2) (src:=src) (pl:=src.length) (by decide) (goodQ (q:=[]) (f:=37) (d:=d) hdn) ha hm) (.c 17 (fo_unB (k:=7) (L:=[(0,T0),(30,.str [39])]) (P:=[0,99]) (off:=off) (l1:=l1) (l2:=l2) (src:=src) (pl:=src.length) (by decide) (goodQ (q:=[tErr nOdd]) (f:=37) (d:=d) hdn) ha hm) (.done 7))
theorem d37_else (hdn:V.blws 7 dn=true) (hm:ch.length≤maxLen) (ha:ch[off]?=some a) (hsp:isSp a=false) (h34:a ≠ 34) (h39:a ≠ 39):Stp 37 (stD [] dn src ch off l1 l2 37 d) true (stD [] dn src ch off l1 l2 46 d):=by
  refine stpD  (nx:=7) hdn rfl ⟨rfl,rfl⟩ ?_
  exact .c 4 (fo_more (k:=7) (L:=[(0,T0)]) (P:=[0,99]) (off:=off) (l1:=l1) (l2:=l2) (src:=src) (pl:=src.length) (by decide) (goodQ (q:=[]) (f:=37) (d:=d) hdn) ha hm) (.b 0 ((congrArg some hsp:some (isSp a)=some false)) (.b 1 (nin2 h39 h34) (.c 7 (fo_unB (k:=7) (L:=[(0,T0),(30,.str [a])]) (P:=[0,99]) (off:=off) (l1:=l1) (l2:=l2) (src:=src) (pl:=src.length) (by decide) (goodQ (q:=[]) (f:=37) (d:=d) hdn) ha hm) (.done 7))))
theorem d35_else (hdn:V.blws 7 dn=true) (hm:ch.length≤maxLen) (ha:ch[off]?=some a) (hsp:isSp a=false) (h62:a ≠ 62) (n1:a ≠ 112) (n2:a ≠ 80) (n3:a ≠ 115) (n4:a ≠ 83):Stp 35 (stD [] dn src ch off l1 l2 35 d) true (stD [tErrD nSpB (.str [a])] dn src ch off l1 l2 38 d.no):=by
  refine stpD  (nx:=7) hdn rfl ⟨rfl,rfl⟩ ?_
  exact .c 4 (fo_more (k:=7) (L:=[(0,T0)]) (P:=[0,99]) (off:=off) (l1:=l1) (l2:=l2) (src:=src) (pl:=src.length) (by decide) (goodQ (q:=[]) (f:=35) (d:=d) hdn) ha hm) (.b 0 ((congrArg some hsp:some (isSp a)=some false)) (.b 1 (neq h62) (.b 3 (nin2 n1 n2) (.b 1 (nin2 n3 n4) (.c 5 (fo_unB (k:=7) (L:=[(0,T0),(30,.str [a])]) (P:=[0,99]) (off:=off) (l1:=l1) (l2:=l2) (src:=src) (pl:=src.length) (by decide) (goodQ (q:=[]) (f:=35) (d:=d) hdn) ha hm) (.done 22))))))
theorem d35_eof (hdn:V.blws 7 dn=true) (hs:src.length≤10240):Stp 35 (stD [] dn src ch ch.length l1 l2 35 d) true (stD [tErr nEofD,O0] dn src [] 0 (posF ch l1 l2).1 (posF ch l1 l2).2 9 d.no):=by
  refine stpD (ch':=[]) (off':=0) (nx:=7) hdn rfl ⟨rfl,rfl⟩ ?_
  exact .c 4 (fo_end (k:=7) (L:=[(0,T0)]) (P:=[0,99]) (ch:=ch) (l1:=l1) (l2:=l2) (by decide) (goodQ (q:=[]) (f:=35) (d:=d) hdn) hs) (.c 14 (fo_unN (k:=7) (L:=[(0,T0),(30,.none)]) (P:=[0,99]) (o₁:=I1 [] 0 0 (posF ch l1 l2).1 (posF ch l1 l2).2) (o₃:=I3 src src.length) (by decide) (goodQ (q:=[]) (f:=35) (d:=d.no) hdn) rfl ⟨rfl,rfl⟩) (.done 24))
theorem d38_eof (hdn:V.blws 7 dn=true) (hs:src.length≤10240):Stp 38 (stD [] dn src ch ch.length l1 l2 38 d) true (stD [O0] dn src [] 0 (posF ch l1 l2).1 (posF ch l1 l2).2 9 d):=by
  refine stpD (ch':=[]) (off':=0) (nx:=7) hdn rfl ⟨rfl,rfl⟩ ?_
  exact .c 4 (fo_end (k:=7) (L:=[(0,T0)]) (P:=[0,99]) (ch:=ch) (l1:=l1) (l2:=l2) (by decide) (goodQ (q:=[]) (f:=38) (d:=d) hdn) hs) (.c 8 (fo_unN (k:=7) (L:=[(0,T0),(30,.none)]) (P:=[0,99]) (o₁:=I1 [] 0 0 (posF ch l1 l2).1 (posF ch l1 l2).2) (o₃:=I3 src src.length) (by decide) (goodQ (q:=[]) (f:=38) (d:=d) hdn) rfl ⟨rfl,rfl⟩) (.done 15))
end
end Mine
end
noncomputable section
namespace Mine
noncomputable def kwB:List MS:=[.asg 30 (.mcall (.attr (.loc 0) 20 3) 27 1 10 []),.iff (.cmp .nin (.loc 30) (.loc 59)) [.asg 58 (.k (.bool false)),.brk] []]
noncomputable def kwL (v:Mine.V) (m:Bool) (e:Mine.V):List (Nat × Mine.V):=[(0,T0),(30,v),(58,.bool m),(59,e)]
noncomputable def prV (e:Nat × Nat):Mine.V:=.tup [.str [e.1],.str [e.2]]
noncomputable def kwk:List (Nat × Nat)→List Nat→Option Nat
  | [],_=>none
  | _ :: _,[]=>some 0
  | e :: es,a :: w=>if a=e.1∨a=e.2 then (kwk es w).map (· + 1) else some 0
noncomputable def kwPub:List (Nat × Nat):=[(117,85),(98,66),(108,76),(105,73),(99,67)]
noncomputable def kwSys:List (Nat × Nat):=[(121,89),(115,83),(116,84),(101,69),(109,77)]
theorem drop_cons {ch r:List Nat} {off a:Nat} (h:ch.drop off=a :: r):ch[off]?=some a∧ch.drop (off + 1)=r∧off + 1≤ch.length:=by
  have hlt:off < ch.length:=by
    apply Nat.lt_of_not_le
    intro q
    rw [List.drop_eq_nil_of_le q] at h; cases h
  rw [List.drop_eq_getElem_cons hlt] at h
  obtain ⟨h1,h2⟩:=List.cons.inj h
  exact ⟨by rw [List.getElem?_eq_getElem hlt,h1],h2,hlt⟩
theorem drop_nil' {ch:List Nat} {off:Nat} (h:ch.drop off=[]) (ho:off≤ch.length):off=ch.length:=Nat.le_antisymm ho (List.drop_eq_nil_iff.mp h)
theorem in2 {a:Nat} {e:Nat × Nat} (h:a=e.1∨a=e.2):some ([[e.1],[e.2]].any (· == [a]))=some true:=by
  show some (([e.1] == [a]) || (([e.2] == [a]) || false))=_
  cases h with
  | inl h=>rw [h,beq_self_eq_true]; rfl
  | inr h=>rw [h,beq_self_eq_true,Bool.true_or,Bool.or_true]
section
variable {dn q:List Mine.V} {src ch w:List Nat} {l1 l2:Int} {off a k:Nat} {d:DF} {e:Nat × Nat} {es:List (Nat × Nat)} {v ev:Mine.V}
theorem kw_hit (hdn:V.blws 7 dn=true) (hm:ch.length≤maxLen) (ha:ch[off]?=some a) (h:a=e.1∨a=e.2) (hv:V.blw 7 v=true):exs FO kwB ⟨kwL v true (prV e),hS (I1 ch ch.length off l1 l2) (I3 src src.length) (HD [] dn 35 d.vs),7,[0,99]⟩=some (.next,⟨kwL (.str [a]) true (prV e),hS (I1 ch ch.length (off + 1:Nat) l1 l2) (I3 src src.length) (HD [] dn 35 d.vs),7,[0,99]⟩):=by
  have hL:fsBlw 7 (kwL v true (prV e))=true:=by
    show (V.blw 7 v && true)=true
    rw [hv]; rfl
  have hn:some (!([[e.1],[e.2]].any (· == [a])))=some false:=congrArg (Option.map not) (in2 h)
  refine Ends.exs ?_
  exact .c 4 (fo_more (k:=7) (L:=kwL v true (prV e)) (P:=[0,99]) (off:=off) (l1:=l1) (l2:=l2) (src:=src) (pl:=src.length) (by decide) (goodQ (q:=[]) (f:=35) (d:=d) hdn) ha hm hL) (.b 0 (hn) (.done 2))
theorem kw_miss (hdn:V.blws 7 dn=true) (hm:ch.length≤maxLen) (ha:ch[off]?=some a) (h:¬ (a=e.1∨a=e.2)) (hv:V.blw 7 v=true):exs FO kwB ⟨kwL v true (prV e),hS (I1 ch ch.length off l1 l2) (I3 src src.length) (HD [] dn 35 d.vs),7,[0,99]⟩=some (.brk,⟨kwL (.str [a]) false (prV e),hS (I1 ch ch.length (off + 1:Nat) l1 l2) (I3 src src.length) (HD [] dn 35 d.vs),7,[0,99]⟩):=by
  have hL:fsBlw 7 (kwL v true (prV e))=true:=by
    show (V.blw 7 v && true)=true
    rw [hv]; rfl
  have hn:some (!([[e.1],[e.2]].any (· == [a])))=some true:=congrArg (Option.map not) (nin2 (fun q=>h (.inl q)) fun q=>h (.inr q))
  refine Ends.exs ?_
  exact .c 4 (fo_more (k:=7) (L:=kwL v true (prV e)) (P:=[0,99]) (off:=off) (l1:=l1) (l2:=l2) (src:=src) (pl:=src.length) (by decide) (goodQ (q:=[]) (f:=35) (d:=d) hdn) ha hm hL) (.b 0 (hn) (.done 2))
theorem kw_eof (hdn:V.blws 7 dn=true) (hs:src.length≤10240) (hv:V.blw 7 v=true):exs FO kwB ⟨kwL v true (prV e),hS (I1 ch ch.length ch.length l1 l2) (I3 src src.length) (HD [] dn 35 d.vs),7,[0,99]⟩=some (.brk,⟨kwL .none false (prV e),hS (I1 [] 0 0 (posF ch l1 l2).1 (posF ch l1 l2).2) (I3 src src.length) (HD [] dn 35 d.vs),7,[0,99]⟩):=by
  have hL:fsBlw 7 (kwL v true (prV e))=true:=by
    show (V.blw 7 v && true)=true
    rw [hv]; rfl
  refine Ends.exs ?_
  exact .c 4 (fo_end (k:=7) (L:=kwL v true (prV e)) (P:=[0,99]) (ch:=ch) (l1:=l1) (l2:=l2) (by decide) (goodQ (q:=[]) (f:=35) (d:=d) hdn) hs hL) (.done 3)
noncomputable def kwS (es:List (Nat × Nat)) (w:List Nat) (dn:List Mine.V) (src ch:List Nat) (off:Nat) (l1 l2:Int) (d:DF) (v e:Mine.V):St:=match kwk es w with
  | none=>⟨kwL v true e,hS (I1 ch ch.length (off + es.length:Nat) l1 l2) (I3 src src.length) (HD [] dn 35 d.vs),7,[0,99]⟩
  | some k=>(match w[k]? with
    | some x=>⟨kwL (.str [x]) false e,hS (I1 ch ch.length (off + k + 1:Nat) l1 l2) (I3 src src.length) (HD [] dn 35 d.vs),7,[0,99]⟩
    | none=>⟨kwL .none false e,hS (I1 [] 0 0 (posF ch l1 l2).1 (posF ch l1 l2).2) (I3 src src.length) (HD [] dn 35 d.vs),7,[0,99]⟩)
theorem kwS_cons {a off:Nat} {v ev:Mine.V} (h:a=e.1∨a=e.2):kwS (e :: es) (a :: w) dn src ch off l1 l2 d v ev=kwS es w dn src ch (off + 1) l1 l2 d v ev:=by
  unfold kwS
  rw [show kwk (e :: es) (a :: w)=(kwk es w).map (· + 1) from if_pos h]
  cases kwk es w with
  | none=>show (⟨_,hS (I1 ch ch.length (off + (es.length + 1):Nat) l1 l2) _ _,_,_⟩:St)=_; rw [Nat.add_comm es.length 1,← Nat.add_assoc]
  | some k =>
    show (match w[k]? with | some x=>_ | none=>_)=(match w[k]? with | some x=>_ | none=>_)
    rw [show off + 1 + k + 1=off + (k + 1) + 1 from congrArg (· + 1) ((Nat.add_assoc off 1 k).trans (congrArg (off + ·) (Nat.add_comm 1 k)))]
theorem kw_loop (hdn:V.blws 7 dn=true) (hm:ch.length≤maxLen) (hs:src.length≤10240):∀ (es:List (Nat × Nat)) (off:Nat) (w:List Nat) (v ev:Mine.V),off≤ch.length→ch.drop off=w→V.blw 7 v=true →
    ∃ v' e',V.blw 7 ev=true→V.blw 7 e'=true∧forN (fun v σ=>some (σ.setLoc 59 v)) (exs FO kwB) (es.map prV) ⟨kwL v true ev,hS (I1 ch ch.length off l1 l2) (I3 src src.length) (HD [] dn 35 d.vs),7,[0,99]⟩=some (.next,kwS es w dn src ch off l1 l2 d v' e')
  | [],off,w,v,ev,_,_,_=>⟨v,ev,fun h=>⟨h,rfl⟩⟩
  | e :: es,off,[],v,ev,ho,hd,hv=>⟨v,prV e,fun _=>⟨rfl,by
    cases drop_nil' hd ho
    show bn (exs FO kwB ⟨kwL v true (prV e),_,7,_⟩) _=_
    rw [kw_eof hdn hs hv]; rfl⟩⟩
  | e :: es,off,a :: w,v,ev,ho,hd,hv=>by
    obtain ⟨ha,hdr,hle⟩:=drop_cons hd
    by_cases h:a=e.1∨a=e.2
    · obtain ⟨v',e',ih⟩:=kw_loop hdn hm hs es (off + 1) w (.str [a]) (prV e) hle hdr rfl
      refine ⟨v',e',fun _=>⟨(ih rfl).1,?_⟩⟩
      rw [kwS_cons h]
      show bn (exs FO kwB ⟨kwL v true (prV e),_,7,_⟩) _=_
      rw [kw_hit hdn hm ha h hv]
      exact (ih rfl).2
    · refine ⟨v,prV e,fun _=>⟨rfl,?_⟩⟩
      unfold kwS
      rw [show kwk (e :: es) (a :: w)=some 0 from if_neg h]
      show bn (exs FO kwB ⟨kwL v true (prV e),_,7,_⟩) _=_
      rw [kw_miss hdn hm ha h hv]; rfl
theorem kw_start {es:List (Nat × Nat)} (hdn:V.blws 7 dn=true) (hm:ch.length≤maxLen) (hs:src.length≤10240) (ho:off≤ch.length) (hd:ch.drop off=w) :
    ∃ v' e',V.blw 7 e'=true∧forN (fun v σ=>some (σ.setLoc 59 v)) (exs FO kwB) ((e :: es).map prV) ⟨[(0,T0),(30,.str [a]),(58,.bool true)],hS (I1 ch ch.length off l1 l2) (I3 src src.length) (HD [] dn 35 d.vs),7,[0,99]⟩=some (.next,kwS (e :: es) w dn src ch off l1 l2 d v' e'):=
  let ⟨v',e',h⟩:=kw_loop (l1:=l1) (l2:=l2) (d:=d) hdn hm hs (e :: es) off w (.str [a]) .none ho hd rfl
  ⟨v',e',h rfl⟩
theorem d35_pub_all (hdn:V.blws 7 dn=true) (hm:ch.length≤maxLen) (hs:src.length≤10240) (ha:ch[off]?=some a) (hp:a=112∨a=80) (hdr:ch.drop (off + 1)=w) (hle:off + 1≤ch.length) (hk:kwk kwPub w=none):Stp 35 (stD [] dn src ch off l1 l2 35 d) true (stD [] dn src ch (off + 1 + 5) l1 l2 36 d):=by
  have hsp:some (isSp a)=some false:=by rcases hp with rfl | rfl <;> rfl
  have h62:some ([a] == [62])=some false:=by rcases hp with rfl | rfl <;> rfl
  have hin:=in2 (e:=(112,80)) hp
  obtain ⟨v',e',hv,hf⟩:=kw_start (l1:=l1) (l2:=l2) (d:=d) (a:=a) (e:=(117,85)) (es:=[(98,66),(108,76),(105,73),(99,67)]) hdn hm hs hle hdr
  unfold kwS at hf
  rw [show kwk ((117,85) :: [(98,66),(108,76),(105,73),(99,67)]) w=none from hk] at hf
  refine stpD (nx:=7) hdn rfl ⟨rfl,rfl⟩ ?_
  exact .c 4 (fo_more (k:=7) (L:=[(0,T0)]) (P:=[0,99]) (off:=off) (l1:=l1) (l2:=l2) (src:=src) (pl:=src.length) (by decide) (goodQ (q:=[]) (f:=35) (d:=d) hdn) ha hm) (.b 0 (hsp) (.b 1 (h62) (.b 3 (hin) (.fl 2 (hf) (.done 7)))))
theorem d35_pub_miss {x:Nat} (hdn:V.blws 7 dn=true) (hm:ch.length≤maxLen) (hs:src.length≤10240) (ha:ch[off]?=some a) (hp:a=112∨a=80) (hdr:ch.drop (off + 1)=w) (hle:off + 1≤ch.length) (hk:kwk kwPub w=some k) (hx:w[k]?=some x):Stp 35 (stD [] dn src ch off l1 l2 35 d) true (stD [tErrD nSpB (.str [x])] dn src ch (off + 1 + k) l1 l2 38 d.no):=by
  have hsp:some (isSp a)=some false:=by rcases hp with rfl | rfl <;> rfl
  have h62:some ([a] == [62])=some false:=by rcases hp with rfl | rfl <;> rfl
  have hin:=in2 (e:=(112,80)) hp
  obtain ⟨v',e',hv,hf⟩:=kw_start (l1:=l1) (l2:=l2) (d:=d) (a:=a) (e:=(117,85)) (es:=[(98,66),(108,76),(105,73),(99,67)]) hdn hm hs hle hdr
  unfold kwS at hf
  rw [show kwk ((117,85) :: [(98,66),(108,76),(105,73),(99,67)]) w=some k from hk] at hf
  dsimp only at hf
  rw [hx] at hf
  have hx':ch[off + 1 + k]?=some x:=by rw [← List.getElem?_drop,hdr]; exact hx
  have hL:fsBlw 7 (kwL (.str [x]) false e')=true:=by
    show (V.blw 7 e' && true)=true
    rw [hv]; rfl
  refine stpD (nx:=7) hdn rfl ⟨rfl,rfl⟩ ?_
  exact .c 4 (fo_more (k:=7) (L:=[(0,T0)]) (P:=[0,99]) (off:=off) (l1:=l1) (l2:=l2) (src:=src) (pl:=src.length) (by decide) (goodQ (q:=[]) (f:=35) (d:=d) hdn) ha hm) (.b 0 (hsp) (.b 1 (h62) (.b 3 (hin) (.fl 2 (hf) (.c 5 (fo_unB (k:=7) (L:=kwL (.str [x]) false e') (P:=[0,99]) (off:=off + 1 + k) (l1:=l1) (l2:=l2) (src:=src) (pl:=src.length) (by decide) (goodQ (q:=[]) (f:=35) (d:=d) hdn) hx' hm hL) (.done 22))))))
theorem d35_pub_end (hdn:V.blws 7 dn=true) (hm:ch.length≤maxLen) (hs:src.length≤10240) (ha:ch[off]?=some a) (hp:a=112∨a=80) (hdr:ch.drop (off + 1)=w) (hle:off + 1≤ch.length) (hk:kwk kwPub w=some k) (hx:w[k]?=none):Stp 35 (stD [] dn src ch off l1 l2 35 d) true (stD [tErrD nSpB .none] dn src [] 0 (posF ch l1 l2).1 (posF ch l1 l2).2 38 d.no):=by
  have hsp:some (isSp a)=some false:=by rcases hp with rfl | rfl <;> rfl
  have h62:some ([a] == [62])=some false:=by rcases hp with rfl | rfl <;> rfl
  have hin:=in2 (e:=(112,80)) hp
  obtain ⟨v',e',hv,hf⟩:=kw_start (l1:=l1) (l2:=l2) (d:=d) (a:=a) (e:=(117,85)) (es:=[(98,66),(108,76),(105,73),(99,67)]) hdn hm hs hle hdr
  unfold kwS at hf
  rw [show kwk ((117,85) :: [(98,66),(108,76),(105,73),(99,67)]) w=some k from hk] at hf
  dsimp only at hf
  rw [hx] at hf
  have hL:fsBlw 7 (kwL .none false e')=true:=by
    show (V.blw 7 e' && true)=true
    rw [hv]; rfl
  refine stpD (ch':=[]) (off':=0) (nx:=7) hdn rfl ⟨rfl,rfl⟩ ?_
  exact .c 4 (fo_more (k:=7) (L:=[(0,T0)]) (P:=[0,99]) (off:=off) (l1:=l1) (l2:=l2) (src:=src) (pl:=src.length) (by decide) (goodQ (q:=[]) (f:=35) (d:=d) hdn) ha hm) (.b 0 (hsp) (.b 1 (h62) (.b 3 (hin) (.fl 2 (hf) (.c 5 (fo_unN (k:=7) (L:=kwL .none false e') (P:=[0,99]) (o₁:=I1 [] 0 0 (posF ch l1 l2).1 (posF ch l1 l2).2) (o₃:=I3 src src.length) (by decide) (goodQ (q:=[]) (f:=35) (d:=d) hdn) hL ⟨rfl,rfl⟩) (.done 22))))))
theorem d35_sys_all (hdn:V.blws 7 dn=true) (hm:ch.length≤maxLen) (hs:src.length≤10240) (ha:ch[off]?=some a) (hp:a=115∨a=83) (hdr:ch.drop (off + 1)=w) (hle:off + 1≤ch.length) (hk:kwk kwSys w=none):Stp 35 (stD [] dn src ch off l1 l2 35 d) true (stD [] dn src ch (off + 1 + 5) l1 l2 37 d):=by
  have hsp:some (isSp a)=some false:=by rcases hp with rfl | rfl <;> rfl
  have h62:some ([a] == [62])=some false:=by rcases hp with rfl | rfl <;> rfl
  have hin:=in2 (e:=(115,83)) hp
  have hpp:some ([[112],[80]].any (· == [a]))=some false:=by rcases hp with rfl | rfl <;> rfl
  obtain ⟨v',e',hv,hf⟩:=kw_start (l1:=l1) (l2:=l2) (d:=d) (a:=a) (e:=(121,89)) (es:=[(115,83),(116,84),(101,69),(109,77)]) hdn hm hs hle hdr
  unfold kwS at hf
  rw [show kwk ((121,89) :: [(115,83),(116,84),(101,69),(109,77)]) w=none from hk] at hf
  refine stpD (nx:=7) hdn rfl ⟨rfl,rfl⟩ ?_
  exact .c 4 (fo_more (k:=7) (L:=[(0,T0)]) (P:=[0,99]) (off:=off) (l1:=l1) (l2:=l2) (src:=src) (pl:=src.length) (by decide) (goodQ (q:=[]) (f:=35) (d:=d) hdn) ha hm) (.b 0 (hsp) (.b 1 (h62) (.b 3 (hpp) (.b 1 (hin) (.fl 2 (hf) (.done 7))))))
theorem d35_sys_miss {x:Nat} (hdn:V.blws 7 dn=true) (hm:ch.length≤maxLen) (hs:src.length≤10240) (ha:ch[off]?=some a) (hp:a=115∨a=83) (hdr:ch.drop (off + 1)=w) (hle:off + 1≤ch.length) (hk:kwk kwSys w=some k) (hx:w[k]?=some x):Stp 35 (stD [] dn src ch off l1 l2 35 d) true (stD [tErrD nSpB (.str [x])] dn src ch (off + 1 + k) l1 l2 38 d.no):=by
  have hsp:some (isSp a)=some false:=by rcases hp with rfl | rfl <;> rfl
  have h62:some ([a] == [62])=some false:=by rcases hp with rfl | rfl <;> rfl
  have hin:=in2 (e:=(115,83)) hp
  have hpp:some ([[112],[80]].any (· == [a]))=some false:=by rcases hp with rfl | rfl <;> rfl
  obtain ⟨v',e',hv,hf⟩:=kw_start (l1:=l1) (l2:=l2) (d:=d) (a:=a) (e:=(121,89)) (es:=[(115,83),(116,84),(101,69),(109,77)]) hdn hm hs hle hdr
  unfold kwS at hf
  rw [show kwk ((121,89) :: [(115,83),(116,84),(101,69),(109,77)]) w=some k from hk] at hf
  dsimp only at hf
  rw [hx] at hf
  have hx':ch[off + 1 + k]?=some x:=by rw [← List.getElem?_drop,hdr]; exact hx
  have hL:fsBlw 7 (kwL (.str [x]) false e')=true:=by
    show (V.blw 7 e' && true)=true
    rw [hv]; rfl
  refine stpD (nx:=7) hdn rfl ⟨rfl,rfl⟩ ?_
  exact .c 4 (fo_more (k:=7) (L:=[(0,T0)]) (P:=[0,99]) (off:=off) (l1:=l1) (l2:=l2) (src:=src) (pl:=src.length) (by decide) (goodQ (q:=[]) (f:=35) (d:=d) hdn) ha hm) (.b 0 (hsp) (.b 1 (h62) (.b 3 (hpp) (.b 1 (hin) (.fl 2 (hf) (.c 5 (fo_unB (k:=7) (L:=kwL (.str [x]) false e') (P:=[0,99]) (off:=off + 1 + k) (l1:=l1) (l2:=l2) (src:=src) (pl:=src.length) (by decide) (goodQ (q:=[]) (f:=35) (d:=d) hdn) hx' hm hL) (.done 22)))))))
theorem d35_sys_end (hdn:V.blws 7 dn=true) (hm:ch.length≤maxLen) (hs:src.length≤10240) (ha:ch[off]?=some a) (hp:a=115∨a=83) (hdr:ch.drop (off + 1)=w) (hle:off + 1≤ch.length) (hk:kwk kwSys w=some k) (hx:w[k]?=none):Stp 35 (stD [] dn src ch off l1 l2 35 d) true (stD [tErrD nSpB .none] dn src [] 0 (posF ch l1 l2).1 (posF ch l1 l2).2 38 d.no):=by
  have hsp:some (isSp a)=some false:=by rcases hp with rfl | rfl <;> rfl
  have h62:some ([a] == [62])=some false:=by rcases hp with rfl | rfl <;> rfl
  have hin:=in2 (e:=(115,83)) hp
  have hpp:some ([[112],[80]].any (· == [a]))=some false:=by rcases hp with rfl | rfl <;> rfl
  obtain ⟨v',e',hv,hf⟩:=kw_start (l1:=l1) (l2:=l2) (d:=d) (a:=a) (e:=(121,89)) (es:=[(115,83),(116,84),(101,69),(109,77)]) hdn hm hs hle hdr
  unfold kwS at hf
  rw [show kwk ((121,89) :: [(115,83),(116,84),(101,69),(109,77)]) w=some k from hk] at hf
  dsimp only at hf
  rw [hx] at hf
  have hL:fsBlw 7 (kwL .none false e')=true:=by
    show (V.blw 7 e' && true)=true
    rw [hv]; rfl
  refine stpD (ch':=[]) (off':=0) (nx:=7) hdn rfl ⟨rfl,rfl⟩ ?_
  exact .c 4 (fo_more (k:=7) (L:=[(0,T0)]) (P:=[0,99]) (off:=off) (l1:=l1) (l2:=l2) (src:=src) (pl:=src.length) (by decide) (goodQ (q:=[]) (f:=35) (d:=d) hdn) ha hm) (.b 0 (hsp) (.b 1 (h62) (.b 3 (hpp) (.b 1 (hin) (.fl 2 (hf) (.c 5 (fo_unN (k:=7) (L:=kwL .none false e') (P:=[0,99]) (o₁:=I1 [] 0 0 (posF ch l1 l2).1 (posF ch l1 l2).2) (o₃:=I3 src src.length) (by decide) (goodQ (q:=[]) (f:=35) (d:=d) hdn) hL ⟨rfl,rfl⟩) (.done 22)))))))
end
end Mine
end
noncomputable section
namespace Mine
theorem isSp_in:InP gSpace isSp:=fun _ _=>rfl
noncomputable def stopTx (a:Nat):Bool:=[[38],[60],[0]].any (· == [a])
theorem stopTx_in:InP (.tup [.str [38],.str [60],.str [0]]) stopTx:=fun _ _=>rfl
noncomputable def isGt (a:Nat):Bool:=findFrom [a] [62] 0 != -1
theorem isGt_in:InP (.str [62]) isGt:=fun _ _=>rfl
theorem sum_le {a b n k:Nat} (h:n + b≤k) (ha:a≤n):a + b≤k:=Nat.le_trans (Nat.add_le_add_right ha b) h
theorem while_on {t:St→Option (Bool × St)} {b:St→Option (FL × St)} {n:Nat} {σ σ₁ σ₂:St} {r:Option (FL × St)} (ht:t σ=some (true,σ₁)) (hb:b σ₁=some (.next,σ₂)) (h:whileN t b n σ₂=r):whileN t b (n + 1) σ=r:=by
  show bn (t σ) _=_
  rw [ht]
  show bn (b σ₁) _=_
  rw [hb]
  exact h
theorem while_end {t:St→Option (Bool × St)} {b:St→Option (FL × St)} {n:Nat} {σ σ₁:St} (ht:t σ=some (false,σ₁)):whileN t b (n + 1) σ=some (.next,σ₁):=by
  show bn (t σ) _=_
  rw [ht]; rfl
section
variable {dn:List Mine.V} {src ch d l:List Nat} {l1 l2:Int} {off a:Nat} {cv:Mine.V}
theorem s1_data_lt (hdn:V.blws 7 dn=true) (hm:ch.length≤maxLen) (hs:src.length≤10240) (hcv:V.blw 7 cv=true) (ha:ch[off]?=some 60):Stp 9 (S1 [] dn src ch off src.length l1 l2 9 cv) true (S1 [] dn src ch (off + 1) src.length l1 l2 12 cv):=by
  have hk:=ck1 hcv hdn
  refine stp ?_
  exact .c 4 (fo_more (L:=[(0,T0)]) (P:=[99]) (off:=off) (l1:=l1) (l2:=l2) (src:=src) (pl:=src.length) (by decide) (good1 (f:=9) [] hcv hdn) ha hm) (.nrm 10 hk)
theorem s1_data_nul (hdn:V.blws 7 dn=true) (hm:ch.length≤maxLen) (hs:src.length≤10240) (hcv:V.blw 7 cv=true) (ha:ch[off]?=some 0):Stp 9 (S1 [] dn src ch off src.length l1 l2 9 cv) true (S1 [tErr nINV,tChr [0]] dn src ch (off + 1) src.length l1 l2 9 cv):=by
  have hk:=ck1 hcv hdn
  refine stp ?_
  exact .c 4 (fo_more (L:=[(0,T0)]) (P:=[99]) (off:=off) (l1:=l1) (l2:=l2) (src:=src) (pl:=src.length) (by decide) (good1 (f:=9) [] hcv hdn) ha hm) (.nrm 25 hk)
theorem s1_data_eof (hdn:V.blws 7 dn=true) (hm:ch.length≤maxLen) (hs:src.length≤10240) (hcv:V.blw 7 cv=true):Stp 9 (S1 [] dn src ch ch.length src.length l1 l2 9 cv) false (S1 [] dn src [] 0 src.length (posF ch l1 l2).1 (posF ch l1 l2).2 9 cv):=by
  have hk:=ck1 hcv hdn
  refine stp ?_
  exact .c 4 (fo_end (L:=[(0,T0)]) (P:=[99]) (ch:=ch) (l1:=l1) (l2:=l2) (by decide) (good1 (f:=9) [] hcv hdn) hs) (.nrm 9 hk)
theorem s1_tagOpen_bang (hdn:V.blws 7 dn=true) (hm:ch.length≤maxLen) (hs:src.length≤10240) (hcv:V.blw 7 cv=true) (ha:ch[off]?=some 33):Stp 12 (S1 [] dn src ch off src.length l1 l2 12 cv) true (S1 [] dn src ch (off + 1) src.length l1 l2 14 cv):=by
  have hk:=ck1 hcv hdn
  refine stp ?_
  exact .c 4 (fo_more (L:=[(0,T0)]) (P:=[99]) (off:=off) (l1:=l1) (l2:=l2) (src:=src) (pl:=src.length) (by decide) (good1 (f:=12) [] hcv hdn) ha hm) (.nrm 8 hk)
theorem s1_data_sp_mid (hdn:V.blws 7 dn=true) (hm:ch.length≤maxLen) (hs:src.length≤10240) (hcv:V.blw 7 cv=true) (ha:ch[off]?=some a) (hb:ch.length < bigN) (hl:l=(ch.drop (off + 1)).takeWhile fun a=>isSp a == true) (he:off + 1 + l.length < ch.length) (n0:a ≠ 38) (n1:a ≠ 60) (n2:a ≠ 0) (hsp:isSp a=true):Stp 9 (S1 [] dn src ch off src.length l1 l2 9 cv) true (S1 [tSpc (a :: l)] dn src ch (off + 1 + l.length) src.length l1 l2 9 cv):=by
  have hk:=ck1 hcv hdn
  have ho:off + 1≤ch.length:=Nat.le_trans (Nat.le_add_right _ l.length) (Nat.le_of_lt he)
  have hc:1 + l.length≤ch.length:=sum_le (Nat.le_of_lt he) (Nat.le_add_left _ _)
  refine stp ?_
  exact .c 4 (fo_more (L:=[(0,T0)]) (P:=[99]) (off:=off) (l1:=l1) (l2:=l2) (src:=src) (pl:=src.length) (by decide) (good1 (f:=9) [] hcv hdn) ha hm) (.b 0 (neq n0) (.b 1 (neq n1) (.b 1 (neq n2) (.b 3 ((congrArg some hsp:some (isSp a)=some true)) (.c 9 (fo_untM (vs:=[T1,gSpace,.bool true]) (opp:=true) (L:=[(0,T0),(30,.str [a])]) (P:=[99]) (off:=(off + 1)) (l1:=l1) (l2:=l2) (src:=src) (pl:=src.length) (good1 (f:=9) [] hcv hdn) isSp_in hb ho hl he) (.v 0 (cat_ok (a:=[a]) (b:=l) hc hm) (.nrm 6 hk)))))))
theorem s1_data_sp_end (hdn:V.blws 7 dn=true) (hm:ch.length≤maxLen) (hs:src.length≤10240) (hcv:V.blw 7 cv=true) (ha:ch[off]?=some a) (hb:ch.length < bigN) (hl:l=(ch.drop (off + 1)).takeWhile fun a=>isSp a == true) (he:off + 1 + l.length=ch.length) (n0:a ≠ 38) (n1:a ≠ 60) (n2:a ≠ 0) (hsp:isSp a=true):Stp 9 (S1 [] dn src ch off src.length l1 l2 9 cv) true (S1 [tSpc (a :: l)] dn src [] 0 src.length (posF ch l1 l2).1 (posF ch l1 l2).2 9 cv):=by
  have hk:=ck1 hcv hdn
  have ho:off + 1≤ch.length:=Nat.le_trans (Nat.le_add_right _ l.length) (Nat.le_of_eq he)
  have hc:1 + l.length≤ch.length:=sum_le (Nat.le_of_eq he) (Nat.le_add_left _ _)
  refine stp ?_
  exact .c 4 (fo_more (L:=[(0,T0)]) (P:=[99]) (off:=off) (l1:=l1) (l2:=l2) (src:=src) (pl:=src.length) (by decide) (good1 (f:=9) [] hcv hdn) ha hm) (.b 0 (neq n0) (.b 1 (neq n1) (.b 1 (neq n2) (.b 3 ((congrArg some hsp:some (isSp a)=some true)) (.c 9 (fo_untE (vs:=[T1,gSpace,.bool true]) (opp:=true) (L:=[(0,T0),(30,.str [a])]) (P:=[99]) (off:=(off + 1)) (l1:=l1) (l2:=l2) (src:=src) (good1 (f:=9) [] hcv hdn) isSp_in hs hb ho hl he) (.v 0 (cat_ok (a:=[a]) (b:=l) hc hm) (.nrm 6 hk)))))))
theorem s1_data_tx_mid (hdn:V.blws 7 dn=true) (hm:ch.length≤maxLen) (hs:src.length≤10240) (hcv:V.blw 7 cv=true) (ha:ch[off]?=some a) (hb:ch.length < bigN) (hl:l=(ch.drop (off + 1)).takeWhile fun a=>stopTx a == false) (he:off + 1 + l.length < ch.length) (n0:a ≠ 38) (n1:a ≠ 60) (n2:a ≠ 0) (hsp:isSp a=false):Stp 9 (S1 [] dn src ch off src.length l1 l2 9 cv) true (S1 [tChr (a :: l)] dn src ch (off + 1 + l.length) src.length l1 l2 9 cv):=by
  have hk:=ck1 hcv hdn
  have ho:off + 1≤ch.length:=Nat.le_trans (Nat.le_add_right _ l.length) (Nat.le_of_lt he)
  have hc:1 + l.length≤ch.length:=sum_le (Nat.le_of_lt he) (Nat.le_add_left _ _)
  refine stp ?_
  exact .c 4 (fo_more (L:=[(0,T0)]) (P:=[99]) (off:=off) (l1:=l1) (l2:=l2) (src:=src) (pl:=src.length) (by decide) (good1 (f:=9) [] hcv hdn) ha hm) (.b 0 (neq n0) (.b 1 (neq n1) (.b 1 (neq n2) (.b 3 ((congrArg some hsp:some (isSp a)=some false)) (.c 5 (fo_untM (vs:=[T1,.tup [.str [38],.str [60],.str [0]]]) (opp:=false) (L:=[(0,T0),(30,.str [a])]) (P:=[99]) (off:=(off + 1)) (l1:=l1) (l2:=l2) (src:=src) (pl:=src.length) (good1 (f:=9) [] hcv hdn) stopTx_in hb ho hl he) (.v 4 (cat_ok (a:=[a]) (b:=l) hc hm) (.nrm 6 hk)))))))
theorem s1_data_tx_end (hdn:V.blws 7 dn=true) (hm:ch.length≤maxLen) (hs:src.length≤10240) (hcv:V.blw 7 cv=true) (ha:ch[off]?=some a) (hb:ch.length < bigN) (hl:l=(ch.drop (off + 1)).takeWhile fun a=>stopTx a == false) (he:off + 1 + l.length=ch.length) (n0:a ≠ 38) (n1:a ≠ 60) (n2:a ≠ 0) (hsp:isSp a=false):Stp 9 (S1 [] dn src ch off src.length l1 l2 9 cv) true (S1 [tChr (a :: l)] dn src [] 0 src.length (posF ch l1 l2).1 (posF ch l1 l2).2 9 cv):=by
  have hk:=ck1 hcv hdn
  have ho:off + 1≤ch.length:=Nat.le_trans (Nat.le_add_right _ l.length) (Nat.le_of_eq he)
  have hc:1 + l.length≤ch.length:=sum_le (Nat.le_of_eq he) (Nat.le_add_left _ _)
  refine stp ?_
  exact .c 4 (fo_more (L:=[(0,T0)]) (P:=[99]) (off:=off) (l1:=l1) (l2:=l2) (src:=src) (pl:=src.length) (by decide) (good1 (f:=9) [] hcv hdn) ha hm) (.b 0 (neq n0) (.b 1 (neq n1) (.b 1 (neq n2) (.b 3 ((congrArg some hsp:some (isSp a)=some false)) (.c 5 (fo_untE (vs:=[T1,.tup [.str [38],.str [60],.str [0]]]) (opp:=false) (L:=[(0,T0),(30,.str [a])]) (P:=[99]) (off:=(off + 1)) (l1:=l1) (l2:=l2) (src:=src) (good1 (f:=9) [] hcv hdn) stopTx_in hs hb ho hl he) (.v 4 (cat_ok (a:=[a]) (b:=l) hc hm) (.nrm 6 hk)))))))
theorem rep0 (h:l.length + (l.length + 1)≤16777216):smV σ0 .replace l [.str [0],.str [65533]]=some (.str (repl [0] [65533] (l.length + 1) l)):=by
  show gd (true && (Nat.ble (l.length + (l.length + 1) * 1) 16777216 && true)) _=_
  rw [Nat.mul_one,ble h]; rfl
theorem rep_le {o n c:Nat} (h:o + n≤c) (hb:c < bigN):n + (n + 1)≤16777216:=
  have h:n≤1000000:=Nat.le_trans (Nat.le_trans (Nat.le_add_left n o) h) (Nat.le_of_lt hb)
  Nat.le_trans (Nat.add_le_add h (Nat.succ_le_succ h)) (by decide)
theorem s1_bogus_end (hdn:V.blws 7 dn=true) (hm:ch.length≤maxLen) (hs:src.length≤10240) (hcv:V.blw 7 cv=true) (hb:ch.length < bigN) (hl:l=(ch.drop off).takeWhile fun a=>isGt a == false) (he:off + l.length=ch.length):Stp 18 (S1 [] dn src ch off src.length l1 l2 18 cv) true (S1 [tCom (repl [0] [65533] (l.length + 1) l)] dn src [] 0 src.length (posF [] (posF ch l1 l2).1 (posF ch l1 l2).2).1 (posF [] (posF ch l1 l2).1 (posF ch l1 l2).2).2 9 cv):=by
  have hk:=ck1 hcv hdn
  have ho:off≤ch.length:=Nat.le_trans (Nat.le_add_right _ l.length) (Nat.le_of_eq he)
  have hr:=rep0 (l:=l) (rep_le (Nat.le_of_eq he) hb)
  refine stp ?_
  exact .c 4 (fo_untE (vs:=[T1,.str [62]]) (opp:=false) (L:=[(0,T0)]) (P:=[99]) (off:=off) (l1:=l1) (l2:=l2) (src:=src) (good1 (f:=18) [] hcv hdn) isGt_in hs hb ho hl he) (.v 0 (hr) (.c 13 (fo_end (L:=[(0,T0),(30,.str (repl [0] [65533] (l.length + 1) l))]) (P:=[99]) (ch:=[]) (l1:=(posF ch l1 l2).1) (l2:=(posF ch l1 l2).2) (by decide) (good1 (f:=18) [tCom (repl [0] [65533] (l.length + 1) l)] hcv hdn) hs) (.nrm 7 hk)))
theorem s1_bogus_mid (hdn:V.blws 7 dn=true) (hm:ch.length≤maxLen) (hs:src.length≤10240) (hcv:V.blw 7 cv=true) (hb:ch.length < bigN) (hl:l=(ch.drop off).takeWhile fun a=>isGt a == false) (he:off + l.length < ch.length) (ha:ch[off + l.length]?=some 62):Stp 18 (S1 [] dn src ch off src.length l1 l2 18 cv) true (S1 [tCom (repl [0] [65533] (l.length + 1) l)] dn src ch (off + l.length + 1) src.length l1 l2 9 cv):=by
  have hk:=ck1 hcv hdn
  have ho:off≤ch.length:=Nat.le_trans (Nat.le_add_right _ l.length) (Nat.le_of_lt he)
  have hr:=rep0 (l:=l) (rep_le (Nat.le_of_lt he) hb)
  refine stp ?_
  exact .c 4 (fo_untM (vs:=[T1,.str [62]]) (opp:=false) (L:=[(0,T0)]) (P:=[99]) (off:=off) (l1:=l1) (l2:=l2) (src:=src) (pl:=src.length) (good1 (f:=18) [] hcv hdn) isGt_in hb ho hl he) (.v 0 (hr) (.c 13 (fo_more (L:=[(0,T0),(30,.str (repl [0] [65533] (l.length + 1) l))]) (P:=[99]) (off:=off + l.length) (l1:=l1) (l2:=l2) (src:=src) (pl:=src.length) (by decide) (good1 (f:=18) [tCom (repl [0] [65533] (l.length + 1) l)] hcv hdn) ha hm) (.nrm 7 hk)))
theorem data_eq (hdn:V.blws 7 dn=true) (hcv:V.blw 7 cv=true) (hs:(a :: src).length≤10240) (hok:∀ b ∈ a :: src,b ∈ al) :
    CT 9 [T0] (S1 [] dn (a :: src) [] 0 0 l1 l2 9 cv)=CT 9 [T0] (S1 [] dn (a :: src) (a :: src) 0 (a :: src).length (posF [] l1 l2).1 (posF [] l1 l2).2 9 cv):=by
  have e1:=sem_c (r:=startL 9 [T0] (S1 [] dn (a :: src) [] 0 0 l1 l2 9 cv)) 4 (fo_first (L:=[(0,T0)]) (P:=[99]) (l1:=l1) (l2:=l2) (by decide) (good1 (f:=9) [] hcv hdn) hs hok)
  have e2:=sem_c (r:=startL 9 [T0] (S1 [] dn (a :: src) (a :: src) 0 (a :: src).length (posF [] l1 l2).1 (posF [] l1 l2).2 9 cv)) 4 (fo_more (L:=[(0,T0)]) (P:=[99]) (off:=0) (l1:=(posF [] l1 l2).1) (l2:=(posF [] l1 l2).2) (src:=a :: src) (pl:=(a :: src).length) (by decide) (good1 (f:=9) [] hcv hdn) rfl (Nat.le_trans hs (by decide)))
  have e3:sem (startL 9 [T0] (S1 [] dn (a :: src) [] 0 0 l1 l2 9 cv))=sem (startL 9 [T0] (S1 [] dn (a :: src) (a :: src) 0 (a :: src).length (posF [] l1 l2).1 (posF [] l1 l2).2 9 cv)):=e1.trans (Eq.trans (by kernel_rfl) e2.symm)
  exact ct_eq.trans ((congrArg (bn · (normG [(0,T0)] 7)) e3).trans ct_eq.symm)
theorem data_none (hdn:V.blws 7 dn=true) (hcv:V.blw 7 cv=true):Stp 9 (S1 [] dn [] [] 0 0 l1 l2 9 cv) false (S1 [] dn [] [] 0 0 (posF [] l1 l2).1 (posF [] l1 l2).2 9 cv):=
  s1_data_eof (src:=[]) (ch:=[]) hdn (Nat.zero_le _) (Nat.zero_le _) hcv
end
end Mine
end
noncomputable section
open PySem
namespace Mine
noncomputable def mkB:List MS:=[.ex (.app (.loc 56) (.mcall (.attr (.loc 0) 20 3) 27 1 10 [])),.iff (.cmp .nin (.sub (.loc 56) (.neg (.k (.int 1)))) (.loc 59)) [.asg 58 (.k (.bool false)),.brk] []]
noncomputable def mkW:List MS:=[.ex (.mcall (.attr (.loc 0) 20 3) 54 1 17 [(.pop (.loc 56) [])])]
noncomputable def mkL (m:Bool) (e:Mine.V):List (Nat × Mine.V):=[(0,T0),(56,.obj (.t 7)),(58,.bool m),(59,e)]
noncomputable def mkH (b:Bool) (q:List Mine.V) (o₁ o₃:Ob) (q' dn:List Mine.V) (cv:Mine.V):List (Id × Ob):=match b with
  | false=>hS o₁ o₃ ((.t 7,.list q) :: H1 q' dn (me 14) cv)
  | true=>(.t 7,.list q) :: hS o₁ o₃ (H1 q' dn (me 14) cv)
section
variable {dn q:List Mine.V} {src ch w:List Nat} {l1 l2:Int} {off a k:Nat} {e:Nat × Nat} {es:List (Nat × Nat)} {v ev cv:Mine.V} {b:Bool} {o₃:Ob}
theorem sub_last {H:List (Id × Ob)} {o₁:Ob} {L:List (Nat × Mine.V)} {P:List Nat} (hq:q.length < maxLen):subV ⟨L,hS o₁ o₃ ((.t 7,.list (q ++ [v])) :: H),8,P⟩ (.obj (.t 7)) (.int (-1))=some v:=by
  show bd (q ++ [v]).length (bo (seqIndex? (-1) (q ++ [v]).length) fun j=>(q ++ [v])[j]?)=_
  rw [List.length_append]
  show gd (Nat.ble (q.length + 1) maxLen) (bo (seqIndex? (-1) (q.length + 1)) fun j=>(q ++ [v])[j]?)=_
  rw [ble hq,seq_neg1]
  show (q ++ [v])[q.length]?=_
  rw [List.getElem?_append_right (Nat.le_refl _),Nat.sub_self]; rfl
theorem mk_hit (hdn:V.blws 7 dn=true) (hcv:V.blw 7 cv=true) (hm:ch.length≤maxLen) (ha:ch[off]?=some a) (h:a=e.1∨a=e.2) (hq:V.blws 8 q=true) (hql:q.length < maxLen) :
    exs FO mkB ⟨mkL true (prV e),mkH b q (I1 ch ch.length off l1 l2) (I3 src src.length) [] dn cv,8,[99]⟩=some (.next,⟨mkL true (prV e),mkH false (q ++ [.str [a]]) (I1 ch ch.length (off + 1:Nat) l1 l2) (I3 src src.length) [] dn cv,8,[99]⟩):=by
  have hn:some (!([[e.1],[e.2]].any (· == [a])))=some false:=congrArg (Option.map not) (in2 h)
  have hb:Nat.ble q.length maxLen=true:=ble (Nat.le_of_lt hql)
  have hc:=fo_more (k:=8) (L:=mkL true (prV e)) (P:=[99]) (off:=off) (l1:=l1) (l2:=l2) (src:=src) (pl:=src.length) (by decide) (good_one (good8 (f:=14) [] hcv hdn) hq) ha hm
  have hs:=sub_last (v:=.str [a]) (o₁:=I1 ch ch.length (off + 1:Nat) l1 l2) (o₃:=I3 src src.length) (L:=mkL true (prV e)) (H:=H1 [] dn (me 14) cv) (P:=[99]) hql
  refine Ends.exs ?_
  cases b
  · exact .c 5 (hc) (.g 1 (hb) (.v 1 (hs) (.b 0 (hn) (.done 2))))
  · exact .c 5 (fo_x (C:=oraN tT 4) hc) (.g 1 (hb) (.v 1 (hs) (.b 0 (hn) (.done 2))))
theorem mk_miss (hdn:V.blws 7 dn=true) (hcv:V.blw 7 cv=true) (hm:ch.length≤maxLen) (ha:ch[off]?=some a) (h:¬ (a=e.1∨a=e.2)) (hq:V.blws 8 q=true) (hql:q.length < maxLen) :
    exs FO mkB ⟨mkL true (prV e),mkH false q (I1 ch ch.length off l1 l2) (I3 src src.length) [] dn cv,8,[99]⟩=some (.brk,⟨mkL false (prV e),mkH false (q ++ [.str [a]]) (I1 ch ch.length (off + 1:Nat) l1 l2) (I3 src src.length) [] dn cv,8,[99]⟩):=by
  have hn:some (!([[e.1],[e.2]].any (· == [a])))=some true:=congrArg (Option.map not) (nin2 (fun q=>h (.inl q)) fun q=>h (.inr q))
  have hb:Nat.ble q.length maxLen=true:=ble (Nat.le_of_lt hql)
  have hs:=sub_last (v:=.str [a]) (o₁:=I1 ch ch.length (off + 1:Nat) l1 l2) (o₃:=I3 src src.length) (L:=mkL true (prV e)) (H:=H1 [] dn (me 14) cv) (P:=[99]) hql
  refine Ends.exs ?_
  exact .c 5 (fo_more (k:=8) (L:=mkL true (prV e)) (P:=[99]) (off:=off) (l1:=l1) (l2:=l2) (src:=src) (pl:=src.length) (by decide) (good_one (good8 (f:=14) [] hcv hdn) hq) ha hm) (.g 1 (hb) (.v 1 (hs) (.b 0 (hn) (.done 2))))
theorem mk_eof (hdn:V.blws 7 dn=true) (hcv:V.blw 7 cv=true) (hs:src.length≤10240) (hq:V.blws 8 q=true) (hql:q.length < maxLen) :
    exs FO mkB ⟨mkL true (prV e),mkH false q (I1 ch ch.length ch.length l1 l2) (I3 src src.length) [] dn cv,8,[99]⟩=some (.brk,⟨mkL false (prV e),mkH false (q ++ [.none]) (I1 [] 0 0 (posF ch l1 l2).1 (posF ch l1 l2).2) (I3 src src.length) [] dn cv,8,[99]⟩):=by
  have hb:Nat.ble q.length maxLen=true:=ble (Nat.le_of_lt hql)
  have hs':=sub_last (v:=.none) (o₁:=I1 [] 0 0 (posF ch l1 l2).1 (posF ch l1 l2).2) (o₃:=I3 src src.length) (L:=mkL true (prV e)) (H:=H1 [] dn (me 14) cv) (P:=[99]) hql
  refine Ends.exs ?_
  exact .c 5 (fo_end (k:=8) (L:=mkL true (prV e)) (P:=[99]) (ch:=ch) (l1:=l1) (l2:=l2) (by decide) (good_one (good8 (f:=14) [] hcv hdn) hq) hs) (.g 1 (hb) (.v 1 (hs') (.done 3)))
noncomputable abbrev mkF:=forN (fun v σ=>some (σ.setLoc 59 v)) (exs FO mkB)
theorem blws8_snoc {q:List Mine.V} {a:Nat} (hq:V.blws 8 q=true):V.blws 8 (q ++ [.str [a]])=true:=by
  induction q with
  | nil=>rfl
  | cons v q ih =>
    exact bA hq fun x y=>by
      show (V.blw 8 v && V.blws 8 (q ++ [.str [a]]))=true
      rw [x,ih y]; rfl
theorem mk_run (hdn:V.blws 7 dn=true) (hcv:V.blw 7 cv=true) (hm:ch.length≤maxLen) (rest:List Mine.V):∀ (es:List (Nat × Nat)) (e:Nat × Nat) (b:Bool) (off:Nat) (q:List Mine.V) (w:List Nat) (ev:Mine.V),ch.drop off=w→kwk (e :: es) w=none→V.blws 8 q=true→q.length + es.length < 100 →
    ∃ e',mkF (prV e :: (es.map prV ++ rest)) ⟨mkL true ev,mkH b q (I1 ch ch.length off l1 l2) (I3 src src.length) [] dn cv,8,[99]⟩=mkF rest ⟨mkL true (prV e'),mkH false (q ++ (w.take (es.length + 1)).map fun a=>.str [a]) (I1 ch ch.length (off + (es.length + 1):Nat) l1 l2) (I3 src src.length) [] dn cv,8,[99]⟩
  | es,e,b,off,q,[],ev,hd,hk,hq,hl=>nn (show none=some 0 from hk.symm)
  | es,e,b,off,q,a :: w,ev,hd,hk,hq,hl=>by
    obtain ⟨ha,hdr,hle⟩:=drop_cons hd
    have hlt:q.length < maxLen:=Nat.lt_trans (Nat.lt_of_le_of_lt (Nat.le_add_right _ _) hl) (by decide)
    by_cases h:a=e.1∨a=e.2
    · have hk:(kwk es w).map (· + 1)=none:=(show kwk (e :: es) (a :: w)=_ from if_pos h).symm.trans hk
      have e1:=mk_hit (b:=b) (l1:=l1) (l2:=l2) (src:=src) hdn hcv hm ha h hq hlt
      cases es with
      | nil=>exact ⟨e,by
        show bn (exs FO mkB ⟨mkL true (prV e),_,8,_⟩) _=_
        rw [e1]; rfl⟩
      | cons e2 es =>
        obtain ⟨e',ih⟩:=mk_run hdn hcv hm rest es e2 false (off + 1) (q ++ [.str [a]]) w (prV e) hdr (by
          cases hkw:kwk (e2 :: es) w with
          | none=>rfl
          | some k=>rw [hkw] at hk; exact nn hk.symm) (blws8_snoc hq) (by rw [List.length_append,Nat.add_assoc,Nat.add_comm [Mine.V.str [a]].length]; exact hl)
        refine ⟨e',?_⟩
        show bn (exs FO mkB ⟨mkL true (prV e),_,8,_⟩) _=_
        rw [e1]
        refine Eq.trans ih ?_
        rw [List.append_assoc,Nat.add_assoc off 1,Nat.add_comm 1]; rfl
    · exact nn (hk.symm.trans (show kwk (e :: es) (a :: w)=some 0 from if_neg h))
theorem s1_markup_doc (hdn:V.blws 7 dn=true) (hcv:V.blw 7 cv=true) (hm:ch.length≤maxLen) (ha:ch[off]?=some a) (h:a=100∨a=68) (hd:ch.drop (off + 1)=w) (hk:kwk ((111,79) :: [(99,67),(116,84),(121,89),(112,80),(101,69)]) w=none) :
    Stp 14 (S1 [] dn src ch off src.length l1 l2 14 cv) true (stD [] dn src ch (off + 1 + 6) l1 l2 20 ⟨[],none,none,true⟩):=by
  obtain ⟨e',hf⟩:=mk_run (src:=src) (l1:=l1) (l2:=l2) hdn hcv hm [] [(99,67),(116,84),(121,89),(112,80),(101,69)] (111,79) true (off + 1) [.str [a]] w .none hd hk rfl (Nat.le_of_ble_eq_true rfl)
  have hf:mkF ([(111,79),(99,67),(116,84),(121,89),(112,80),(101,69)].map prV) ⟨[(0,T0),(56,.obj (.t 7)),(58,.bool true)],mkH true [.str [a]] (I1 ch ch.length (off + 1:Nat) l1 l2) (I3 src src.length) [] dn cv,8,[99]⟩=_:=hf
  have n45:some ([a] == [45])=some false:=by rcases h with rfl | rfl <;> rfl
  have hin:=in2 (e:=(100,68)) h
  have hk:=ckC hdn
  refine stp ?_
  exact .c 4 (fo_more (L:=[(0,T0)]) (P:=[99]) (off:=off) (l1:=l1) (l2:=l2) (src:=src) (pl:=src.length) (by decide) (good1 (f:=14) [] hcv hdn) ha hm) (.b 2 (n45) (.b 2 (hin) (.fl 2 (hf) (.nrm 13 hk))))
section
variable {ch':List Nat} {sz sz' oz oz' l1' l2':Int} {v₁ v₂ v₃ v₄:Mine.V} {n:Nat} {τ:St} {q':List Mine.V}
theorem un_0:whileN (tst FO (.loc 56)) (exs FO mkW) (n + 1) ⟨mkL false ev,mkH false [] (I1 ch sz oz l1 l2) o₃ q' dn cv,8,[99]⟩=some (.next,⟨mkL false ev,mkH false [] (I1 ch sz oz l1 l2) o₃ q' dn cv,8,[99]⟩):=while_end (by kernel_rfl)
theorem un_1 (h:FO 17 [T1,v] ⟨mkL false ev,mkH false [] (I1 ch sz oz l1 l2) o₃ q' dn cv,8,[99]⟩=some (.none,⟨mkL false ev,mkH false [] (I1 ch' sz' oz' l1' l2') o₃ q' dn cv,8,[99]⟩)) (h':whileN (tst FO (.loc 56)) (exs FO mkW) n ⟨mkL false ev,mkH false [] (I1 ch' sz' oz' l1' l2') o₃ q' dn cv,8,[99]⟩=some (.next,τ)):whileN (tst FO (.loc 56)) (exs FO mkW) (n + 1) ⟨mkL false ev,mkH false [v] (I1 ch sz oz l1 l2) o₃ q' dn cv,8,[99]⟩=some (.next,τ):=by
  refine while_on (by kernel_rfl:_=some (true,⟨mkL false ev,mkH false [v] (I1 ch sz oz l1 l2) o₃ q' dn cv,8,[99]⟩)) (Ends.exs ?_) h'
  exact .c 6 (h) (.done 2)
theorem un_2 (h:FO 17 [T1,v₁] ⟨mkL false ev,mkH false [v] (I1 ch sz oz l1 l2) o₃ q' dn cv,8,[99]⟩=some (.none,⟨mkL false ev,mkH false [v] (I1 ch' sz' oz' l1' l2') o₃ q' dn cv,8,[99]⟩)) (h':whileN (tst FO (.loc 56)) (exs FO mkW) n ⟨mkL false ev,mkH false [v] (I1 ch' sz' oz' l1' l2') o₃ q' dn cv,8,[99]⟩=some (.next,τ)):whileN (tst FO (.loc 56)) (exs FO mkW) (n + 1) ⟨mkL false ev,mkH false [v,v₁] (I1 ch sz oz l1 l2) o₃ q' dn cv,8,[99]⟩=some (.next,τ):=by
  refine while_on (by kernel_rfl:_=some (true,⟨mkL false ev,mkH false [v,v₁] (I1 ch sz oz l1 l2) o₃ q' dn cv,8,[99]⟩)) (Ends.exs ?_) h'
  exact .c 6 (h) (.done 2)
theorem un_3 (h:FO 17 [T1,v₂] ⟨mkL false ev,mkH false [v,v₁] (I1 ch sz oz l1 l2) o₃ q' dn cv,8,[99]⟩=some (.none,⟨mkL false ev,mkH false [v,v₁] (I1 ch' sz' oz' l1' l2') o₃ q' dn cv,8,[99]⟩)) (h':whileN (tst FO (.loc 56)) (exs FO mkW) n ⟨mkL false ev,mkH false [v,v₁] (I1 ch' sz' oz' l1' l2') o₃ q' dn cv,8,[99]⟩=some (.next,τ)):whileN (tst FO (.loc 56)) (exs FO mkW) (n + 1) ⟨mkL false ev,mkH false [v,v₁,v₂] (I1 ch sz oz l1 l2) o₃ q' dn cv,8,[99]⟩=some (.next,τ):=by
  refine while_on (by kernel_rfl:_=some (true,⟨mkL false ev,mkH false [v,v₁,v₂] (I1 ch sz oz l1 l2) o₃ q' dn cv,8,[99]⟩)) (Ends.exs ?_) h'
  exact .c 6 (h) (.done 2)
theorem un_4 (h:FO 17 [T1,v₃] ⟨mkL false ev,mkH false [v,v₁,v₂] (I1 ch sz oz l1 l2) o₃ q' dn cv,8,[99]⟩=some (.none,⟨mkL false ev,mkH false [v,v₁,v₂] (I1 ch' sz' oz' l1' l2') o₃ q' dn cv,8,[99]⟩)) (h':whileN (tst FO (.loc 56)) (exs FO mkW) n ⟨mkL false ev,mkH false [v,v₁,v₂] (I1 ch' sz' oz' l1' l2') o₃ q' dn cv,8,[99]⟩=some (.next,τ)):whileN (tst FO (.loc 56)) (exs FO mkW) (n + 1) ⟨mkL false ev,mkH false [v,v₁,v₂,v₃] (I1 ch sz oz l1 l2) o₃ q' dn cv,8,[99]⟩=some (.next,τ):=by
  refine while_on (by kernel_rfl:_=some (true,⟨mkL false ev,mkH false [v,v₁,v₂,v₃] (I1 ch sz oz l1 l2) o₃ q' dn cv,8,[99]⟩)) (Ends.exs ?_) h'
  exact .c 6 (h) (.done 2)
theorem un_5 (h:FO 17 [T1,v₄] ⟨mkL false ev,mkH false [v,v₁,v₂,v₃] (I1 ch sz oz l1 l2) o₃ q' dn cv,8,[99]⟩=some (.none,⟨mkL false ev,mkH false [v,v₁,v₂,v₃] (I1 ch' sz' oz' l1' l2') o₃ q' dn cv,8,[99]⟩)) (h':whileN (tst FO (.loc 56)) (exs FO mkW) n ⟨mkL false ev,mkH false [v,v₁,v₂,v₃] (I1 ch' sz' oz' l1' l2') o₃ q' dn cv,8,[99]⟩=some (.next,τ)):whileN (tst FO (.loc 56)) (exs FO mkW) (n + 1) ⟨mkL false ev,mkH false [v,v₁,v₂,v₃,v₄] (I1 ch sz oz l1 l2) o₃ q' dn cv,8,[99]⟩=some (.next,τ):=by
  refine while_on (by kernel_rfl:_=some (true,⟨mkL false ev,mkH false [v,v₁,v₂,v₃,v₄] (I1 ch sz oz l1 l2) o₃ q' dn cv,8,[99]⟩)) (Ends.exs ?_) h'
  exact .c 6 (h) (.done 2)
end
theorem s1_markup_x (hdn:V.blws 7 dn=true) (hcv:V.blw 7 cv=true) (hm:ch.length≤maxLen) (ha:ch[off]?=some 100) (hd:ch.drop (off + 1)=111 :: 99 :: 116 :: w) {w':List Nat} (hx:w=a :: w') (hy:¬ (a=121∨a=89)):Stp 14 (S1 [] dn src ch off src.length l1 l2 14 cv) true (S1 [tErr nDoc] dn src ch off src.length l1 l2 18 cv):=by
  obtain ⟨e',hr⟩:=mk_run (src:=src) (l1:=l1) (l2:=l2) hdn hcv hm [prV (121,89),prV (112,80),prV (101,69)] [(99,67),(116,84)] (111,79) true (off + 1) [.str [100]] (111 :: 99 :: 116 :: w) .none hd rfl rfl (Nat.le_of_ble_eq_true rfl)
  obtain ⟨h1,hd1,hle1⟩:=drop_cons hd
  obtain ⟨h2,hd2,hle2⟩:=drop_cons hd1
  obtain ⟨h3,hd3,hle3⟩:=drop_cons hd2
  subst hx
  obtain ⟨h4,hd4,hle4⟩:=drop_cons hd3
  have hf:mkF ([(111,79),(99,67),(116,84),(121,89),(112,80),(101,69)].map prV) ⟨[(0,T0),(56,.obj (.t 7)),(58,.bool true)],mkH true [.str [100]] (I1 ch ch.length (off + 1:Nat) l1 l2) (I3 src src.length) [] dn cv,8,[99]⟩=some (.next,⟨mkL false (prV (121,89)),mkH false [.str [100],.str [111],.str [99],.str [116],.str [a]] (I1 ch ch.length (off + 1 + 1 + 1 + 1 + 1:Nat) l1 l2) (I3 src src.length) [] dn cv,8,[99]⟩):=by
    refine Eq.trans hr ?_
    show bn (exs FO mkB ⟨mkL true (prV (121,89)),mkH false _ (I1 ch ch.length (off + 1 + 1 + 1 + 1:Nat) l1 l2) _ _ _ _,8,_⟩) _=_
    rw [mk_miss (e:=(121,89)) hdn hcv hm h4 hy rfl (Nat.le_of_ble_eq_true rfl)]; rfl
  have hw:whileN (tst FO (.loc 56)) (exs FO mkW) bigN _=_:=un_5 (n:=999999) (fo_unB (L:=mkL false (prV (121,89))) (P:=[99]) (off:=off + 1 + 1 + 1 + 1) (l1:=l1) (l2:=l2) (src:=src) (pl:=src.length) (by decide) (good_one (q:=[.str [100],.str [111],.str [99],.str [116]]) (good8 (f:=14) [tErr nDoc] hcv hdn) rfl) h4 hm) (un_4 (n:=999998) (fo_unB (L:=mkL false (prV (121,89))) (P:=[99]) (off:=off + 1 + 1 + 1) (l1:=l1) (l2:=l2) (src:=src) (pl:=src.length) (by decide) (good_one (q:=[.str [100],.str [111],.str [99]]) (good8 (f:=14) [tErr nDoc] hcv hdn) rfl) h3 hm) (un_3 (n:=999997) (fo_unB (L:=mkL false (prV (121,89))) (P:=[99]) (off:=off + 1 + 1) (l1:=l1) (l2:=l2) (src:=src) (pl:=src.length) (by decide) (good_one (q:=[.str [100],.str [111]]) (good8 (f:=14) [tErr nDoc] hcv hdn) rfl) h2 hm) (un_2 (n:=999996) (fo_unB (L:=mkL false (prV (121,89))) (P:=[99]) (off:=off + 1) (l1:=l1) (l2:=l2) (src:=src) (pl:=src.length) (by decide) (good_one (q:=[.str [100]]) (good8 (f:=14) [tErr nDoc] hcv hdn) rfl) h1 hm) (un_1 (n:=999995) (fo_unB (L:=mkL false (prV (121,89))) (P:=[99]) (off:=off) (l1:=l1) (l2:=l2) (src:=src) (pl:=src.length) (by decide) (good_one (q:=[]) (good8 (f:=14) [tErr nDoc] hcv hdn) rfl) ha hm) (un_0 (n:=999994))))))
  have hk:=ck1 hcv hdn
  refine stp ?_
  exact .c 4 (fo_more (L:=[(0,T0)]) (P:=[99]) (off:=off) (l1:=l1) (l2:=l2) (src:=src) (pl:=src.length) (by decide) (good1 (f:=14) [] hcv hdn) ha hm) (.fl 8 (hf) (.fl 10 (hw) (.nrm 6 hk)))
theorem s1_markup_e (hdn:V.blws 7 dn=true) (hcv:V.blw 7 cv=true) (hm:ch.length≤maxLen) (hs:src.length≤10240) (ha:ch[off]?=some 100) (hd:ch.drop (off + 1)=111 :: 99 :: 116 :: w) (hx:w=[]):Stp 14 (S1 [] dn src ch off src.length l1 l2 14 cv) true (S1 [tErr nDoc] dn src [100,111,99,116] 0 src.length (posF ch l1 l2).1 (posF ch l1 l2).2 18 cv):=by
  obtain ⟨e',hr⟩:=mk_run (src:=src) (l1:=l1) (l2:=l2) hdn hcv hm [prV (121,89),prV (112,80),prV (101,69)] [(99,67),(116,84)] (111,79) true (off + 1) [.str [100]] (111 :: 99 :: 116 :: w) .none hd rfl rfl (Nat.le_of_ble_eq_true rfl)
  obtain ⟨h1,hd1,hle1⟩:=drop_cons hd
  obtain ⟨h2,hd2,hle2⟩:=drop_cons hd1
  obtain ⟨h3,hd3,hle3⟩:=drop_cons hd2
  subst hx
  have h4:=drop_nil' hd3 hle3
  have hf:mkF ([(111,79),(99,67),(116,84),(121,89),(112,80),(101,69)].map prV) ⟨[(0,T0),(56,.obj (.t 7)),(58,.bool true)],mkH true [.str [100]] (I1 ch ch.length (off + 1:Nat) l1 l2) (I3 src src.length) [] dn cv,8,[99]⟩=some (.next,⟨mkL false (prV (121,89)),mkH false [.str [100],.str [111],.str [99],.str [116],.none] (I1 [] 0 0 (posF ch l1 l2).1 (posF ch l1 l2).2) (I3 src src.length) [] dn cv,8,[99]⟩):=by
    refine Eq.trans hr ?_
    show bn (exs FO mkB ⟨mkL true (prV (121,89)),mkH false _ (I1 ch ch.length (off + 1 + 1 + 1 + 1:Nat) l1 l2) _ _ _ _,8,_⟩) _=_
    rw [h4,mk_eof (e:=(121,89)) hdn hcv hs rfl (Nat.le_of_ble_eq_true rfl)]; rfl
  have hw:whileN (tst FO (.loc 56)) (exs FO mkW) bigN _=_:=un_5 (n:=999999) (fo_unN (L:=mkL false (prV (121,89))) (P:=[99]) (o₁:=I1 [] 0 0 (posF ch l1 l2).1 (posF ch l1 l2).2) (o₃:=I3 src src.length) (by decide) (good_one (q:=[.str [100],.str [111],.str [99],.str [116]]) (good8 (f:=14) [tErr nDoc] hcv hdn) rfl) rfl ⟨rfl,rfl⟩) (un_4 (n:=999998) (fo_unF (L:=mkL false (prV (121,89))) (P:=[99]) (ch:=[]) (a:=116) (l1:=(posF ch l1 l2).1) (l2:=(posF ch l1 l2).2) (src:=src) (pl:=src.length) (by decide) (good_one (q:=[.str [100],.str [111],.str [99]]) (good8 (f:=14) [tErr nDoc] hcv hdn) rfl) (by decide)) (un_3 (n:=999997) (fo_unF (L:=mkL false (prV (121,89))) (P:=[99]) (ch:=[116]) (a:=99) (l1:=(posF ch l1 l2).1) (l2:=(posF ch l1 l2).2) (src:=src) (pl:=src.length) (by decide) (good_one (q:=[.str [100],.str [111]]) (good8 (f:=14) [tErr nDoc] hcv hdn) rfl) (by decide)) (un_2 (n:=999996) (fo_unF (L:=mkL false (prV (121,89))) (P:=[99]) (ch:=[99,116]) (a:=111) (l1:=(posF ch l1 l2).1) (l2:=(posF ch l1 l2).2) (src:=src) (pl:=src.length) (by decide) (good_one (q:=[.str [100]]) (good8 (f:=14) [tErr nDoc] hcv hdn) rfl) (by decide)) (un_1 (n:=999995) (fo_unF (L:=mkL false (prV (121,89))) (P:=[99]) (ch:=[111,99,116]) (a:=100) (l1:=(posF ch l1 l2).1) (l2:=(posF ch l1 l2).2) (src:=src) (pl:=src.length) (by decide) (good_one (q:=[]) (good8 (f:=14) [tErr nDoc] hcv hdn) rfl) (by decide)) (un_0 (n:=999994))))))
  have hk:=ck1 hcv hdn
  refine stp ?_
  exact .c 4 (fo_more (L:=[(0,T0)]) (P:=[99]) (off:=off) (l1:=l1) (l2:=l2) (src:=src) (pl:=src.length) (by decide) (good1 (f:=14) [] hcv hdn) ha hm) (.fl 8 (hf) (.fl 10 (hw) (.nrm 6 hk)))
end
end Mine
end
noncomputable section
namespace Mine
noncomputable def gM:GenM:=⟨.fcall (.loc 0) 42 3 [],.attr (.attr (.loc 0) 20 3) 16 1,.attr (.loc 0) 48 3,.pop (.attr (.loc 0) 48 3) [.k (.int 0)]⟩
theorem no_pV {i:Id}:∀ o:Option (List Nat),V.no i (pV o)=true
  | none=>rfl
  | some _=>rfl
theorem nos_vs {i:Id} {d:DF}:V.nos i d.vs=true:=by
  show (V.no i (pV d.p) && (V.no i (pV d.s) && true))=true
  rw [no_pV,no_pV]; rfl
theorem blws_vs {d:DF}:V.blws 7 d.vs=true:=by
  show (V.blw 7 (pV d.p) && (V.blw 7 (pV d.s) && true))=true
  rw [blw_pV,blw_pV]; rfl
noncomputable def SX (x:Option DF) (q dn:List Mine.V) (src ch:List Nat) (off pl:Nat) (l1 l2:Int) (f:Nat) (cv:Mine.V):St:=match x with
  | some d=>stD q dn src ch off l1 l2 f d
  | none=>S1 q dn src ch off pl l1 l2 f cv
section
variable {x:Option DF} {q dn l:List Mine.V} {b:Bool} {σ' σe:St} {v:Mine.V} {src ch:List Nat} {d:DF} {off pl f:Nat} {l1 l2:Int} {cv:Mine.V}
theorem t1_of (h:Stp f (SX x q dn src ch off pl l1 l2 f cv) b σ'):tst CT gM.t1 (SX x q dn src ch off pl l1 l2 f cv)=some (b,σ'):=by
  have h:CT f [T0] (SX x q dn src ch off pl l1 l2 f cv)=some (.bool b,σ'):=h
  refine Ends.tst ?_
  cases x
  · exact .c 2 (h) (.b 0 ((rfl:some b=some b)) (.done 1))
  · exact .c 2 (h) (.b 0 ((rfl:some b=some b)) (.done 1))
theorem t2_of:tst CT gM.t2 (SX x q dn src ch off pl l1 l2 f cv)=some (false,SX x q dn src ch off pl l1 l2 f cv):=by cases x <;> rfl
theorem t3_of (h:q.length≤maxLen):tst CT gM.t3 (SX x q dn src ch off pl l1 l2 f cv)=some (!q.isEmpty,SX x q dn src ch off pl l1 l2 f cv):=by
  have e:bd q.length (some (!q.isEmpty))=some (!q.isEmpty):=by
    show gd (Nat.ble q.length maxLen) _=_
    rw [ble h]; rfl
  refine Ends.tst ?_
  cases x
  · exact .b 2 (e) (.done 1)
  · exact .b 2 (e) (.done 1)
theorem e_of (h:q.length < maxLen):ev CT gM.e (SX x (v :: q) dn src ch off pl l1 l2 f cv)=some (v,SX x q dn src ch off pl l1 l2 f cv):=by
  have e:Nat.blt q.length maxLen=true:=ble h
  refine Ends.ev ?_
  cases x
  · exact .g 3 (e) (.done 1)
  · exact .g 3 (e) (.done 1)
theorem p99_of:look (SX x q dn src ch off pl l1 l2 f cv).hp (.p 99)=some (.list dn):=by cases x <;> rfl
theorem set99_of {dn':List Mine.V}:(SX x q dn src ch off pl l1 l2 f cv).setOb (.p 99) (.list dn')=SX x q dn' src ch off pl l1 l2 f cv:=by cases x <;> rfl
theorem drain:∀ (q dn:List Mine.V),q.length < maxLen→GR CT gM false (SX x [] (dn ++ q) src ch off pl l1 l2 f cv) (dn ++ q) l σe→GR CT gM false (SX x q dn src ch off pl l1 l2 f cv) dn (q ++ l) σe
  | [],dn,_,h=>(List.append_nil dn)▸h
  | v :: q,dn,hq,h=>.give (t3_of (Nat.le_of_lt hq)) (e_of (Nat.lt_of_succ_lt hq)) .same p99_of (by
    rw [set99_of]
    exact drain q (dn ++ [v]) (Nat.lt_of_succ_lt hq) (by rw [List.append_assoc]; exact h))
theorem V.sb_no {i:Id} {w:Mine.V} (v:Mine.V):V.no i v=true→V.sb i w v=v:=
  V.rec (motive_1:=fun v=>V.no i v=true→V.sb i w v=v) (motive_2:=fun l=>V.nos i l=true→V.sbs i w l=l) (fun _=>rfl) (fun _ _=>rfl) (fun _ _=>rfl) (fun _ _=>rfl) (fun _ h k=>congrArg Mine.V.tup (h k)) (fun _ h k=>congrArg Mine.V.list (h k)) (fun _ _ h k=>congrArg (Mine.V.dict _) (h k))
    (fun _ k=>if_neg (of_decide_eq_true k)) (fun _ _=>rfl) (fun _ _ h k=>congrArg (Mine.V.meth _) (h k)) (fun _ _ _=>rfl) (fun _=>rfl) (fun v l h1 h2 k=>bA k fun a b=>by
      show V.sb i w v :: V.sbs i w l=_
      rw [h1 a,h2 b]) v
theorem V.sbs_no {i:Id} {w:Mine.V}:∀ (l:List Mine.V),V.nos i l=true→V.sbs i w l=l
  | [],_=>rfl
  | v :: l,h=>bA h fun a b=>by
    show V.sb i w v :: V.sbs i w l=_
    rw [V.sb_no v a,V.sbs_no l b]
theorem V.nos_append {i:Id}:∀ {l l':List Mine.V},V.nos i (l ++ l')=(V.nos i l && V.nos i l')
  | [],_=>rfl
  | v :: l,l'=>(congrArg (V.no i v && ·) V.nos_append).trans (Bool.and_assoc ..).symm
theorem sb_of (h:V.nos (.p 0) dn=true):(stD [] dn src ch off l1 l2 f d).sb 0 (tDoc d.vs)=S1 [] dn src ch off src.length l1 l2 f (tDoc d.vs):=by
  show S1 [] (V.sbs (.p 0) (tDoc d.vs) dn) src ch off src.length l1 l2 f (tDoc d.vs)=_
  rw [V.sbs_no dn h]
theorem drainC:∀ (q dn:List Mine.V),q.length + 1 < maxLen→V.nos (.p 0) dn=true→V.nos (.p 0) q=true →
    GR CT gM false (S1 [] (dn ++ q ++ [tDoc d.vs]) src ch off src.length l1 l2 f (tDoc d.vs)) (dn ++ q ++ [tDoc d.vs]) l σe→GR CT gM false (stD (q ++ [.obj (.p 0)]) dn src ch off l1 l2 f d) dn (q ++ tDoc d.vs :: l) σe
  | [],dn,_,hdn,_,h=>.give (t3_of (x:=some d) (src:=src) (ch:=ch) (off:=off) (pl:=0) (l1:=l1) (l2:=l2) (f:=f) (cv:=.none) (q:=[.obj (.p 0)]) (dn:=dn) (by decide)) (e_of (x:=some d) (src:=src) (ch:=ch) (off:=off) (pl:=0) (l1:=l1) (l2:=l2) (f:=f) (cv:=.none) (q:=[]) (dn:=dn) (v:=.obj (.p 0)) (by decide)) (.froz (ks:=kDoc) (vs:=d.vs) rfl nos_vs (by decide))
      (by
        show look ((stD [] dn src ch off l1 l2 f d).sb 0 (tDoc d.vs)).hp _=_
        rw [sb_of hdn]; rfl)
      (by
        show GR CT gM false (((stD [] dn src ch off l1 l2 f d).sb 0 (tDoc d.vs)).setOb (.p 99) (.list (dn ++ [tDoc d.vs]))) (dn ++ [tDoc d.vs]) l σe
        rw [sb_of hdn]
        rw [List.append_nil] at h
        exact h)
  | v :: q,dn,hq,hdn,hnq,h=>bA hnq fun n1 n2=>.give (t3_of (x:=some d) (src:=src) (ch:=ch) (off:=off) (pl:=0) (l1:=l1) (l2:=l2) (f:=f) (cv:=.none) (q:=v :: (q ++ [Mine.V.obj (.p 0)])) (dn:=dn) (by rw [List.length_cons,List.length_append]; exact Nat.le_of_lt hq))
      (e_of (x:=some d) (src:=src) (ch:=ch) (off:=off) (pl:=0) (l1:=l1) (l2:=l2) (f:=f) (cv:=.none) (q:=q ++ [Mine.V.obj (.p 0)]) (dn:=dn) (v:=v) (by rw [List.length_append]; exact Nat.lt_of_succ_lt hq)) .same p99_of (by
        rw [set99_of (x:=some d) (src:=src) (ch:=ch) (off:=off) (pl:=0) (l1:=l1) (l2:=l2) (f:=f) (cv:=.none) (q:=q ++ [Mine.V.obj (.p 0)]) (dn:=dn) (dn':=dn ++ [v])]
        refine drainC q (dn ++ [v]) (Nat.lt_of_succ_lt hq) (by rw [V.nos_append,hdn]; show (V.no _ v && true)=true; rw [n1]; rfl) n2 ?_
        rw [List.append_assoc dn]
        exact h)
end
structure CvOk (cv:Mine.V):Prop where
  b:V.blw 7 cv=true
  n:∀ k,V.no (.p k) cv=true
noncomputable def Rdy (src:List Nat) (x:St) (dn l:List Mine.V):Prop:=∃ l1 l2 cv,CvOk cv∧GR CT gM true x dn l (S1 [] (dn ++ l) src [] 0 src.length l1 l2 9 cv)
section
variable {x x':Option DF} {src ch ch':List Nat} {d d':DF} {off off' pl pl':Nat} {l1 l2 l1' l2':Int} {f f':Nat} {cv cv':Mine.V} {q dn l:List Mine.V}
theorem Rdy.toX (hq:q.length < maxLen) (h:Stp f (SX x [] dn src ch off pl l1 l2 f cv) true (SX x' q dn src ch' off' pl' l1' l2' f' cv')) (H:Rdy src (SX x' [] (dn ++ q) src ch' off' pl' l1' l2' f' cv') (dn ++ q) l):Rdy src (SX x [] dn src ch off pl l1 l2 f cv) dn (q ++ l):=by
  obtain ⟨a,b,cv,hcv,G⟩:=H
  rw [List.append_assoc] at G
  exact ⟨a,b,cv,hcv,.turn (t1_of h) t2_of (drain q dn hq (.next (t3_of (Nat.zero_le _)) G))⟩
theorem Rdy.toC (hq:q.length < maxLen) (h:Stp f (stD [] dn src ch off l1 l2 f d) true (stD q dn src ch' off' l1' l2' f' d')) (H:Rdy src (stD [] (dn ++ q) src ch' off' l1' l2' f' d') (dn ++ q) l):Rdy src (stD [] dn src ch off l1 l2 f d) dn (q ++ l):=
  Rdy.toX (x:=some d) (x':=some d') (pl:=0) (pl':=0) (cv:=.none) (cv':=.none) hq h H
theorem Rdy.toN (hq:q.length < maxLen) (h:Stp f (S1 [] dn src ch off pl l1 l2 f cv) true (S1 q dn src ch' off' pl' l1' l2' f' cv')) (H:Rdy src (S1 [] (dn ++ q) src ch' off' pl' l1' l2' f' cv') (dn ++ q) l):Rdy src (S1 [] dn src ch off pl l1 l2 f cv) dn (q ++ l):=
  Rdy.toX (x:=none) (x':=none) hq h H
theorem Rdy.toCN (h:Stp f (S1 [] dn src ch off pl l1 l2 f cv) true (stD [] dn src ch' off' l1' l2' f' d')) (H:Rdy src (stD [] dn src ch' off' l1' l2' f' d') dn l):Rdy src (S1 [] dn src ch off pl l1 l2 f cv) dn l:=
  Rdy.toX (x:=none) (x':=some d') (q:=[]) (pl':=0) (cv':=.none) (by decide) h (by rw [List.append_nil]; exact H)
theorem Rdy.toD (hq:q.length + 1 < maxLen) (hdn:V.nos (.p 0) dn=true) (hqn:V.nos (.p 0) q=true) (h:Stp f (stD [] dn src ch off l1 l2 f d) true (stD (q ++ [.obj (.p 0)]) dn src ch' off' l1' l2' f' d'))
    (H:Rdy src (S1 [] (dn ++ q ++ [tDoc d'.vs]) src ch' off' src.length l1' l2' f' (tDoc d'.vs)) (dn ++ q ++ [tDoc d'.vs]) l):Rdy src (stD [] dn src ch off l1 l2 f d) dn (q ++ tDoc d'.vs :: l):=by
  obtain ⟨a,b,cv,hcv,G⟩:=H
  rw [(by simp only [List.append_assoc,List.cons_append,List.nil_append]:dn ++ q ++ [tDoc d'.vs] ++ l=dn ++ (q ++ tDoc d'.vs :: l))] at G
  exact ⟨a,b,cv,hcv,.turn (t1_of (x:=some d) (pl:=0) (cv:=.none) h) (t2_of (x:=some d') (pl:=0) (cv:=.none)) (drainC q dn hq hdn hqn (.next (t3_of (x:=none) (Nat.zero_le _)) G))⟩
theorem Rdy.stop (hcv:CvOk cv') (h:Stp f (S1 [] dn src ch off pl l1 l2 f cv) false (S1 [] dn src [] 0 src.length l1' l2' 9 cv')):Rdy src (S1 [] dn src ch off pl l1 l2 f cv) dn []:=
  ⟨l1',l2',cv',hcv,by rw [List.append_nil]; exact .stop (t1_of (x:=none) h) rfl⟩
end
structure Hy (src ch:List Nat) (off:Nat) (dn:List Mine.V):Prop where
  blw:V.blws 7 dn=true
  no:V.nos (.p 0) dn=true
  off:off≤ch.length
  ch:ch.length≤1000
  src:src.length≤1000
theorem blws_append {n:Nat} {l l':List Mine.V}:V.blws n (l ++ l')=(V.blws n l && V.blws n l'):=by
  induction l with
  | nil=>rfl
  | cons v l ih=>simp only [List.cons_append,V.blws,ih,Bool.and_assoc]
noncomputable def DataOk (src r:List Nat) (l:List Mine.V):Prop:=∀ (dn:List Mine.V) (ch:List Nat) (off:Nat) (l1 l2:Int) (cv:Mine.V),Hy src ch off dn→CvOk cv→ch.drop off=r→Rdy src (S1 [] dn src ch off src.length l1 l2 9 cv) dn l
theorem Hy.add {src ch ch':List Nat} {off off':Nat} {dn q:List Mine.V} (H:Hy src ch off dn) (h1:V.blws 7 q=true) (h2:V.nos (.p 0) q=true) (ho:off'≤ch'.length) (hc:ch'.length≤1000):Hy src ch' off' (dn ++ q):=
  ⟨by rw [blws_append,H.blw,h1]; rfl,by rw [V.nos_append,H.no,h2]; rfl,ho,hc,H.src⟩
structure Qk (q:List Mine.V):Prop where
  b:V.blws 7 q=true
  n:V.nos (.p 0) q=true
  l:q.length + 1 < maxLen
theorem qk0:Qk []:=⟨rfl,rfl,by decide⟩
theorem qk1 {x:List Nat}:Qk [tErr x]:=⟨rfl,rfl,Nat.le_of_ble_eq_true rfl⟩
noncomputable def gt (b:List Nat):List Nat:=b.takeWhile fun a=>isGt a == false
noncomputable def aft (b:List Nat):List Nat:=b.drop ((gt b).length + 1)
noncomputable def rpl (l:List Nat):List Nat:=repl [0] [65533] (l.length + 1) l
noncomputable def spR (r:List Nat):List Nat:=r.takeWhile fun a=>isSp a == true
noncomputable def txR (r:List Nat):List Nat:=r.takeWhile fun a=>stopTx a == false
theorem ite_i {α:Type} (p:α→Prop) {c:Prop} [Decidable c] {x y:α} (h1:c→p x) (h2:¬ c→p y):p (if c then x else y):=by
  by_cases h:c
  · rw [if_pos h]; exact h1 h
  · rw [if_neg h]; exact h2 h
theorem dl_le (r:List Nat) (k:Nat):(r.drop k).length≤r.length:=List.length_drop▸Nat.sub_le _ _
theorem isGt_eq (a:Nat):isGt a=(a == 62):=by
  unfold isGt findFrom isPre
  generalize (a == 62)=q
  cases q <;> rfl
theorem tw_stop {p:Nat→Bool}:∀ {l:List Nat},(l.takeWhile p).length < l.length→∃ a,l[(l.takeWhile p).length]?=some a∧p a=false
  | [],h=>absurd h (Nat.lt_irrefl _)
  | a :: l,h=>by
    rw [List.takeWhile_cons] at h ⊢
    cases e:p a with
    | false=>exact ⟨a,rfl,e⟩
    | true =>
      rw [e] at h
      exact tw_stop (l:=l) (Nat.lt_of_succ_lt_succ h)
theorem qk1' {v:Mine.V} (h:V.blw 7 v=true) (h':V.no (.p 0) v=true):Qk [v]:=⟨by show (V.blw 7 v && true)=true; rw [h]; rfl,by show (V.no _ v && true)=true; rw [h']; rfl,Nat.le_of_ble_eq_true rfl⟩
section
variable {src b r ch:List Nat} {dn q l:List Mine.V} {off:Nat} {l1 l2:Int} {cv:Mine.V}
theorem Hy.m (H:Hy src ch off dn):ch.length≤maxLen:=Nat.le_trans H.ch (by decide)
theorem Hy.s (H:Hy src ch off dn):src.length≤10240:=Nat.le_trans H.src (by decide)
theorem Hy.bn (H:Hy src ch off dn):ch.length < bigN:=Nat.lt_of_le_of_lt H.ch (by decide)
theorem back {f off':Nat} {ch':List Nat} {l1' l2':Int} (hq:Qk q) (H:Hy src ch off dn) (hcv:CvOk cv) (h:Stp f (S1 [] dn src ch off src.length l1 l2 f cv) true (S1 q dn src ch' off' src.length l1' l2' 9 cv)) (ho:off'≤ch'.length) (hc:ch'.length≤1000) (hr:ch'.drop off'=r) (hD:DataOk src r l) :
    Rdy src (S1 [] dn src ch off src.length l1 l2 f cv) dn (q ++ l):=Rdy.toN (Nat.lt_of_succ_lt hq.l) h (hD _ ch' off' _ _ _ (H.add hq.b hq.n ho hc) hcv hr)
theorem bog_ok (hD:DataOk src (aft b) l) (H:Hy src ch off dn) (hcv:CvOk cv) (hb:ch.drop off=b):Rdy src (S1 [] dn src ch off src.length l1 l2 18 cv) dn (tCom (rpl (gt b)) :: l):=by
  have hl:gt b=(ch.drop off).takeWhile fun a=>isGt a == false:=by rw [hb]; rfl
  have hbl:off + b.length=ch.length:=by rw [← hb,List.length_drop,Nat.add_sub_cancel' H.off]
  have hll:off + (gt b).length≤ch.length:=hbl▸Nat.add_le_add_left (List.takeWhile_prefix _:gt b <+: b).length_le _
  have hk:Qk [tCom (rpl (gt b))]:=qk1' rfl rfl
  by_cases he:off + (gt b).length=ch.length
  · have e:aft b=[]:=List.drop_eq_nil_of_le (Nat.le_succ_of_le (Nat.le_of_eq (Nat.add_left_cancel (hbl.trans he.symm))))
    rw [e] at hD
    exact back hk H hcv (s1_bogus_end H.blw H.m H.s hcv.b H.bn hl he) (Nat.zero_le _) (Nat.zero_le _) rfl hD
  · have hlt:=Nat.lt_of_le_of_ne hll he
    obtain ⟨a,h1,h2⟩:=tw_stop (p:=fun a=>isGt a == false) (l:=b) (Nat.lt_of_add_lt_add_left (hbl.symm▸hlt))
    have h62:a=62:=by
      rw [isGt_eq] at h2
      cases e:a == 62
      · rw [e] at h2; exact ff h2.symm
      · exact beq_iff_eq.mp e
    subst h62
    exact back hk H hcv (s1_bogus_mid H.blw H.m H.s hcv.b H.bn hl hlt (by rw [← List.getElem?_drop,hb]; exact h1)) hlt H.ch (by show _=b.drop ((gt b).length + 1); rw [← hb,List.drop_drop,Nat.add_assoc]) hD
end
section
variable {src b r ch:List Nat} {dn l:List Mine.V} {off n:Nat} {l1 l2:Int} {cv:Mine.V}
theorem DataOk.nil (src:List Nat):DataOk src [] []:=fun dn ch off l1 l2 cv H hcv hr=>by
  cases drop_nil' hr H.off
  exact Rdy.stop hcv (s1_data_eof H.blw H.m H.s hcv.b)
theorem Rdy.toN0 {off':Nat} {f f':Nat} (h:Stp f (S1 [] dn src ch off src.length l1 l2 f cv) true (S1 [] dn src ch off' src.length l1 l2 f' cv)) (H:Rdy src (S1 [] dn src ch off' src.length l1 l2 f' cv) dn l):Rdy src (S1 [] dn src ch off src.length l1 l2 f cv) dn l:=
  Rdy.toN (q:=[]) (by decide) h (by rw [List.append_nil]; exact H)
theorem toBog {ch':List Nat} {off' f:Nat} {l1' l2':Int} {v:Mine.V} (hq:Qk [v]) (hD:DataOk src (aft b) l) (H:Hy src ch off dn) (hcv:CvOk cv) (h:Stp f (S1 [] dn src ch off src.length l1 l2 f cv) true (S1 [v] dn src ch' off' src.length l1' l2' 18 cv)) (ho:off'≤ch'.length) (hc:ch'.length≤1000) (hr:ch'.drop off'=b) :
    Rdy src (S1 [] dn src ch off src.length l1 l2 f cv) dn (v :: tCom (rpl (gt b)) :: l):=Rdy.toN (q:=[v]) (Nat.lt_of_succ_lt hq.l) h (bog_ok hD (H.add hq.b hq.n ho hc) hcv hr)
theorem tw_le {p:Nat→Bool} (hdr:ch.drop (off + 1)=r) (hle:off + 1≤ch.length):off + 1 + (r.takeWhile p).length≤ch.length:=by
  have h:=(List.takeWhile_prefix (l:=r) p).length_le
  rw [← hdr,List.length_drop] at h
  exact Nat.add_le_of_le_sub' hle (hdr▸h)
end
end Mine
end
noncomputable section
namespace Mine
noncomputable def rp1 (a:Nat):Nat:=if a=0 then 65533 else a
noncomputable def rp (l:List Nat):List Nat:=l.map rp1
noncomputable def nul:List Nat→List Mine.V
  | []=>[]
  | a :: u=>if a=0 then tErr nINV :: nul u else nul u
noncomputable def beh (l:List Nat):List Nat:=l.dropWhile blk
noncomputable def tl (o:Option (List Nat)):List Nat:=match o with
  | some r=>62 :: r
  | none=>[]
noncomputable def Wd (i:List Nat):Prop:=∀ a ∈ i,a ∈ al∧a ≠ 62
theorem Wd.tail {a:Nat} {i:List Nat} (h:Wd (a :: i)):Wd i:=fun x hx=>h x (.tail _ hx)
theorem Wd.drop {i:List Nat} (h:Wd i) (n:Nat):Wd (i.drop n):=fun x hx=>h x (List.mem_of_mem_drop hx)
theorem Wd.beh:∀ {i:List Nat},Wd i→Wd (beh i)
  | [],h=>h
  | a :: i,h=>by
    unfold Mine.beh
    rw [List.dropWhile_cons]
    exact ite_i (p:=Wd) (fun _=>h.tail.beh) fun _=>h
noncomputable def RT (src:List Nat) (f:Nat) (d:DF) (w:List Nat) (T:List Mine.V):Prop:=∀ (dn:List Mine.V) (ch:List Nat) (off:Nat) (l1 l2:Int),Hy src ch off dn→ch.drop off=w→Rdy src (stD [] dn src ch off l1 l2 f d) dn T
theorem cv_doc {d:DF}:CvOk (tDoc d.vs):=⟨blws_vs,fun _=>nos_vs⟩
section
variable {src w u i:List Nat} {f f' a g qt:Nat} {d d':DF} {q T l:List Mine.V} {o:Option (List Nat)}
theorem RT.step (hq:Qk q) (hs:∀ {dn ch off l1 l2},Hy src ch off dn→ch[off]?=some a→ch.drop (off + 1)=w→Stp f (stD [] dn src ch off l1 l2 f d) true (stD q dn src ch (off + 1) l1 l2 f' d')) (h:RT src f' d' w T):RT src f d (a :: w) (q ++ T):=fun dn ch off l1 l2 H hr=>by
  obtain ⟨ha,hdr,hle⟩:=drop_cons hr
  exact Rdy.toC (Nat.lt_of_succ_lt hq.l) (hs H ha hdr) (h _ ch (off + 1) l1 l2 (H.add hq.b hq.n hle H.ch) hdr)
theorem RT.back (hq:Qk q) (hs:∀ {dn ch off l1 l2},Hy src ch off dn→ch[off]?=some a→Stp f (stD [] dn src ch off l1 l2 f d) true (stD q dn src ch off l1 l2 f' d')) (h:RT src f' d' (a :: w) T):RT src f d (a :: w) (q ++ T):=fun dn ch off l1 l2 H hr =>
  Rdy.toC (Nat.lt_of_succ_lt hq.l) (hs H (drop_cons hr).1) (h _ ch off l1 l2 (H.add hq.b hq.n H.off H.ch) hr)
theorem RT.out (hq:Qk q) (hs:∀ {dn ch off l1 l2},Hy src ch off dn→ch[off]?=some a→Stp f (stD [] dn src ch off l1 l2 f d) true (stD (q ++ [O0]) dn src ch (off + 1) l1 l2 9 d')) (hD:DataOk src w l):RT src f d (a :: w) (q ++ tDoc d'.vs :: l):=fun dn ch off l1 l2 H hr=>by
  obtain ⟨ha,hdr,hle⟩:=drop_cons hr
  exact Rdy.toD hq.l H.no hq.n (hs H ha) (hD _ ch (off + 1) _ _ _ ((H.add hq.b hq.n hle H.ch).add (q:=[tDoc d'.vs]) (by show (V.blws 7 d'.vs && true)=true; rw [blws_vs]; rfl) (by show (V.nos (.p 0) d'.vs && true)=true; rw [nos_vs]; rfl) hle H.ch) cv_doc hdr)
theorem RT.fin (hq:Qk q) (hs:∀ {dn ch l1 l2},Hy src ch ch.length dn→Stp f (stD [] dn src ch ch.length l1 l2 f d) true (stD (q ++ [O0]) dn src [] 0 (posF ch l1 l2).1 (posF ch l1 l2).2 9 d')) (hD:DataOk src [] l):RT src f d [] (q ++ tDoc d'.vs :: l):=fun dn ch off l1 l2 H hr=>by
  cases drop_nil' hr H.off
  exact Rdy.toD hq.l H.no hq.n (hs H) (hD _ [] 0 _ _ _ ((H.add hq.b hq.n (off':=0) (ch':=[]) (Nat.le_refl _) (Nat.zero_le _)).add (q:=[tDoc d'.vs]) (by show (V.blws 7 d'.vs && true)=true; rw [blws_vs]; rfl) (by show (V.nos (.p 0) d'.vs && true)=true; rw [nos_vs]; rfl) (Nat.le_refl _) (Nat.zero_le _)) cv_doc rfl)
theorem RT.go (hf:f ∈ fl) (haa:a ∈ al) (e:dtT f a d=some (q,f',d')) (hq:Qk q) (h:RT src f' d' w T):RT src f d (a :: w) (q ++ T):=.step hq (fun H ha _=>d_go hf haa e H.blw hq.b H.m ha) h
theorem RT.gt (hf:f ∈ fl) (e:dtT f 62 d=some (q ++ [O0],9,d')) (hq:Qk q) (hD:DataOk src w l):RT src f d (62 :: w) (q ++ tDoc d'.vs :: l):=.out hq (fun H ha=>d_go hf (by decide) e H.blw (by rw [blws_append,hq.b]; rfl) H.m ha) hD
theorem RT.eof {x:List Nat} (hf:f ∈ fl) (e:dtE f=some x) (hD:DataOk src [] l):RT src f d [] (tErr x :: tDoc d.no.vs :: l):=.fin (q:=[tErr x]) qk1 (fun H=>d_eof hf e H.blw H.s) hD
theorem RT.tl {x y:List Nat} (hf:f ∈ fl) (e:dtT f 62 d=some ([tErr x,O0],9,d.no)) (e':dtE f=some y) (hD:DataOk src (o.getD []) l):RT src f d (tl o) (tErr (bif o.isSome then x else y) :: tDoc d.no.vs :: l):=by
  cases o with
  | some r=>exact .gt (q:=[tErr x]) hf e qk1 hD
  | none=>exact .eof hf e' hD
theorem RT.tl' {y:List Nat} (hf:f ∈ fl) (e:dtT f 62 d=some ([O0],9,d)) (e':dtE f=some y) (hD:DataOk src (o.getD []) l):RT src f d (Mine.tl o) ((bif o.isSome then [] else [tErr y]) ++ tDoc (bif o.isSome then d else d.no).vs :: l):=by
  cases o with
  | some r=>exact .gt (q:=[]) hf e qk0 hD
  | none=>exact .eof hf e' hD
theorem RT.blanks (hf:f ∈ fl) (e:dtT f 32 d=some ([],f,d)∧dtT f 10 d=some ([],f,d)):∀ {i:List Nat},RT src f d (beh i ++ w) T→RT src f d (i ++ w) T
  | [],h=>h
  | a :: i,h=>by
    unfold beh at h
    rw [List.dropWhile_cons] at h
    cases hb:blk a with
    | false=>rw [hb] at h; exact h
    | true =>
      rw [hb] at h
      rcases Bool.or_eq_true_iff.mp hb with hb | hb <;> cases Nat.eq_of_beq_eq_true hb
      · exact .go (q:=[]) hf (by decide) e.1 qk0 (RT.blanks hf e h)
      · exact .go (q:=[]) hf (by decide) e.2 qk0 (RT.blanks hf e h)
structure Eat (src:List Nat) (f:Nat) (D:List Nat→DF) (ok:Nat→Prop):Prop where
  zz:∀ {x:List Nat} {dn ch off l1 l2},Hy src ch off dn→ch[off]?=some 0→x.length + 1≤maxLen→Stp f (stD [] dn src ch off l1 l2 f (D x)) true (stD [tErr nINV] dn src ch (off + 1) l1 l2 f (D (x ++ [65533])))
  els:∀ {a:Nat} {x:List Nat} {dn ch off l1 l2},Hy src ch off dn→ch[off]?=some a→x.length + 1≤maxLen→ok a→a ≠ 0→Stp f (stD [] dn src ch off l1 l2 f (D x)) true (stD [] dn src ch (off + 1) l1 l2 f (D (x ++ [a])))
theorem Eat.run {D:List Nat→DF} {ok:Nat→Prop} (E:Eat src f D ok):∀ (u x:List Nat),(∀ a ∈ u,ok a)→x.length + u.length≤2000→RT src f (D (x ++ rp u)) w T→RT src f (D x) (u ++ w) (nul u ++ T)
  | [],x,_,_,h=>by rw [show x ++ rp []=x from List.append_nil x] at h; exact h
  | a :: u,x,hu,hl,h=>by
    have hx:x.length + 1≤maxLen:=Nat.le_trans (Nat.le_trans (Nat.add_le_add_left (Nat.succ_le_succ (Nat.zero_le u.length)) _) hl) (by decide)
    have hl':∀ y:Nat,(x ++ [y]).length + u.length≤2000:=fun y=>by rw [List.length_append,Nat.add_assoc,Nat.add_comm [y].length]; exact hl
    have e:x ++ rp (a :: u)=x ++ [rp1 a] ++ rp u:=(List.append_assoc x [rp1 a] (rp u)).symm
    rw [e] at h
    unfold nul
    by_cases h0:a=0
    · subst h0
      exact .step (q:=[tErr nINV]) qk1 (fun H ha _=>E.zz H ha hx) (E.run u _ (fun y hy=>hu y (.tail _ hy)) (hl' _) h)
    · rw [if_neg h0]
      rw [show rp1 a=a from if_neg h0] at h
      exact .step (q:=[]) qk0 (fun H ha _=>E.els H ha hx (hu a (.head _)) h0) (E.run u _ (fun y hy=>hu y (.tail _ hy)) (hl' _) h)
theorem RT_38 (hD:DataOk src (o.getD []) l):∀ {i:List Nat},Wd i→RT src 38 d (i ++ Mine.tl o) (tDoc d.vs :: l)
  | [],_=>by
    cases o with
    | some r=>exact .gt (q:=[]) (by decide) rfl qk0 hD
    | none=>exact .fin (q:=[]) qk0 (fun H=>d38_eof H.blw H.s) hD
  | a :: i,h=>.go (q:=[]) (by decide) (h a (.head _)).1 (by
      show (bif Nat.beq a 62 then _ else _)=_
      rw [(Bool.eq_false_iff.mpr fun q=>(h a (.head _)).2 (Nat.eq_of_beq_eq_true q):Nat.beq a 62=false)]; rfl) qk0 (RT_38 hD h.tail)
end
end Mine
end
noncomputable section
namespace Mine
noncomputable abbrev RI:=List Mine.V × Option (List Nat) × Option (List Nat) × Bool
noncomputable def idO (n:List Nat) (r:RI):List Mine.V:=r.1 ++ [tDoc (DF.vs ⟨n,r.2.1,r.2.2.1,r.2.2.2⟩)]
noncomputable def lost (c:Bool):List Mine.V:=bif c then [] else [tErr nEofD]
noncomputable def pr (fs:List Mine.V) (r:RI):RI:=(fs ++ r.1,r.2)
noncomputable def qsp (q:Nat) (b:List Nat):List Nat:=b.takeWhile fun a=>!Nat.beq a q
noncomputable def hqt:List Nat→Bool
  | []=>false
  | a :: _=>quo a
noncomputable def qT (q:Nat) (b:List Nat) (c:Bool) (k:List Nat→List Nat→RI) (e:List Nat→RI):RI:=
  if (qsp q b).length < b.length then pr (nul (qsp q b)) (k (rp (qsp q b)) (b.drop ((qsp q b).length + 1)))
  else pr (nul (qsp q b) ++ [tErr (bif c then nEnd else nEofD)]) (e (rp (qsp q b)))
noncomputable def sysT (p:Option (List Nat)) (c:Bool) (q:Nat) (b:List Nat):RI:=
  qT q b c (fun x r=>if beh r=[] then (lost c,p,some x,c) else ([tErr nOdd],p,some x,true)) fun x=>([],p,some x,false)
noncomputable def midT (c:Bool) (x r:List Nat):RI:=match beh r with
  | []=>(lost c,some x,none,c)
  | a :: w=>if quo a=true then pr (bif hqt r then [tErr nOdd] else []) (sysT (some x) c a w) else ([tErr nOdd],some x,none,false)
noncomputable def pubT (c:Bool) (q:Nat) (b:List Nat):RI:=qT q b c (midT c) fun x=>([],some x,none,false)
noncomputable def kT (t:Nat→List Nat→RI) (x:List Nat) (c:Bool) (part:List Nat):RI:=match beh part with
  | []=>([tErr (bif c then x else nEofD)],none,none,false)
  | a :: w=>if quo a=true then pr (bif hqt part then [tErr nOdd] else []) (t a w) else ([tErr nOdd],none,none,false)
noncomputable def sgn (o:Option Nat) (c:Bool):Mine.V:=match o with
  | some x=>.str [x]
  | none=>bif c then .str [62] else .none
noncomputable def kwT (es:List (Nat × Nat)) (k:List Nat→RI) (w:List Nat) (c:Bool):RI:=match kwk es w with
  | none=>k (w.drop 5)
  | some j=>([tErrD nSpB (sgn w[j]? c)],none,none,false)
noncomputable def idsT (c:Bool):List Nat→RI
  | []=>([],none,none,false)
  | a :: w=>if a=112∨a=80 then kwT kwPub (kT (pubT c) nEnd c) w c else if a=115∨a=83 then kwT kwSys (kT (sysT none c) nOdd c) w c else ([tErrD nSpB (.str [a])],none,none,false)
theorem idO_pr {n:List Nat} {fs l:List Mine.V} {r:RI}:idO n (pr fs r) ++ l=fs ++ (idO n r ++ l):=by
  show (fs ++ r.1) ++ _ ++ l=fs ++ ((r.1 ++ _) ++ l)
  rw [List.append_assoc,List.append_assoc,List.append_assoc]; rfl
theorem quo_cases {a:Nat} (h:quo a=true):a=34∨a=39:=(Bool.or_eq_true_iff.mp h).imp Nat.eq_of_beq_eq_true Nat.eq_of_beq_eq_true
theorem blk_cases {a:Nat} (h:blk a=true):a=32∨a=10:=(Bool.or_eq_true_iff.mp h).imp Nat.eq_of_beq_eq_true Nat.eq_of_beq_eq_true
theorem beh_hd {a:Nat} {w:List Nat}:∀ {i:List Nat},beh i=a :: w→blk a=false
  | [],h=>nomatch h
  | x :: i,h=>by
    unfold beh at h
    rw [List.dropWhile_cons] at h
    cases hb:blk x with
    | true=>rw [hb] at h; exact beh_hd h
    | false=>rw [hb] at h; cases h; exact hb
theorem beh_cons {a:Nat} {i:List Nat} (h:blk a=true):beh (a :: i)=beh i:=by
  unfold beh
  rw [List.dropWhile_cons,h]; rfl
theorem beh_not {a:Nat} {i:List Nat} (h:blk a=false):beh (a :: i)=a :: i:=by
  unfold beh
  rw [List.dropWhile_cons,h]; rfl
theorem hqt_blk {a:Nat} {i:List Nat} (h:blk a=true):hqt (a :: i)=false:=by rcases blk_cases h with rfl | rfl <;> rfl
theorem beq_no {a b:Nat} (h:a ≠ b):Nat.beq a b=false:=Bool.eq_false_iff.mpr fun q=>h (Nat.eq_of_beq_eq_true q)
theorem dt_else {d:DF}:∀ x ∈ ([39,42,43,46].flatMap fun f=>al.map fun a=>(f,a)),(bif blk x.2 || (quo x.2 || Nat.beq x.2 62) then none else dtT x.1 x.2 d)=(bif blk x.2 || (quo x.2 || Nat.beq x.2 62) then none else some ([tErr nOdd],38,d.no)):=allR (by kernel_rfl)
structure QS (src:List Nat) (f q g:Nat) (D:List Nat→DF):Prop where
  E:Eat src f D fun a=>a ≠ q∧a ≠ 62
  hf:f ∈ fl
  qa:q ∈ al
  qt:∀ x,dtT f q (D x)=some ([],g,D x)
  gt:∀ x,dtT f 62 (D x)=some ([tErr nEnd,O0],9,(D x).no)
  eo:dtE f=some nEofD
section
variable {src w u i b n:List Nat} {f f' a g qt:Nat} {d d':DF} {q T l:List Mine.V} {o:Option (List Nat)} {D:List Nat→DF} {p s:Option (List Nat)}
theorem dt_odd (hf:f ∈ [39,42,43,46]) (ha:a ∈ al) (hb:blk a=false) (hq:quo a=false) (h62:a ≠ 62):dtT f a d=some ([tErr nOdd],38,d.no):=by
  have h:=dt_else (d:=d) (f,a) (List.mem_flatMap.mpr ⟨f,hf,List.mem_map.mpr ⟨a,ha,rfl⟩⟩)
  rw [show (bif blk (f,a).2 || (quo (f,a).2 || Nat.beq (f,a).2 62) then (none:Option (List Mine.V × Nat × DF)) else dtT (f,a).1 (f,a).2 d)=dtT f a d by rw [hb,hq,beq_no h62]; rfl,hb,hq,beq_no h62] at h
  exact h
theorem RT.odd (hD:DataOk src (o.getD []) l) (hf:f ∈ [39,42,43,46]) (h:Wd (a :: w)) (hb:blk a=false) (hq:quo a=false):RT src f d (a :: (w ++ Mine.tl o)) (tErr nOdd :: tDoc d.no.vs :: l):=
  .go (q:=[tErr nOdd]) ((by decide:∀ f ∈ [39,42,43,46],f ∈ fl) f hf) (h a (.head _)).1 (dt_odd hf (h a (.head _)).1 hb hq (h a (.head _)).2) qk1 (RT_38 hD h.tail)
theorem qsp_split:qsp a b=b∧¬ (qsp a b).length < b.length∨b=qsp a b ++ a :: b.drop ((qsp a b).length + 1)∧(qsp a b).length < b.length:=by
  by_cases h:(qsp a b).length < b.length
  · obtain ⟨x,h1,h2⟩:=tw_stop h
    have h2:Nat.beq x a=true:=by
      cases e:Nat.beq x a with
      | true=>rfl
      | false=>rw [e] at h2; exact ff h2.symm
    cases Nat.eq_of_beq_eq_true h2
    have h1:b[(qsp a b).length]?=some a:=h1
    refine .inr ⟨?_,h⟩
    have e:=List.drop_eq_getElem_cons h
    rw [List.getElem?_eq_getElem h] at h1
    have h1:=Option.some.inj h1
    refine Eq.trans (List.take_append_drop (qsp a b).length b).symm ?_
    rw [e]
    exact congr (congrArg _ ((List.prefix_iff_eq_take.mp (List.takeWhile_prefix _)).symm)) (congrArg (· :: _) h1)
  · exact .inl ⟨(List.takeWhile_prefix _).eq_of_length (Nat.le_antisymm (List.takeWhile_prefix _).length_le (Nat.not_lt.mp h)),h⟩
end
end Mine
end
noncomputable section
namespace Mine
theorem al_sp:∀ a ∈ al,isSp a=blk a:=allR (by kernel_rfl)
structure WL (i:List Nat):Prop where
  w:Wd i
  l:i.length≤1000
theorem WL.tail {a:Nat} {i:List Nat} (h:WL (a :: i)):WL i:=⟨h.w.tail,Nat.le_of_succ_le h.l⟩
theorem WL.drop {i:List Nat} (h:WL i) (n:Nat):WL (i.drop n):=⟨h.w.drop n,Nat.le_trans (dl_le i n) h.l⟩
theorem beh_len (i:List Nat):(beh i).length≤i.length:=(List.dropWhile_suffix _).length_le
theorem WL.beh {i:List Nat} (h:WL i):WL (beh i):=⟨h.w.beh,Nat.le_trans (beh_len i) h.l⟩
theorem kT_nil {t:Nat→List Nat→RI} {x r:List Nat} {c:Bool} (h:beh r=[]):kT t x c r=([tErr (bif c then x else nEofD)],none,none,false):=by unfold kT; rw [h]
theorem kT_cons {t:Nat→List Nat→RI} {x r w:List Nat} {a:Nat} {c:Bool} (h:beh r=a :: w):kT t x c r=if quo a=true then pr (bif hqt r then [tErr nOdd] else []) (t a w) else ([tErr nOdd],none,none,false):=by unfold kT; rw [h]
theorem midT_nil {x r:List Nat} {c:Bool} (h:beh r=[]):midT c x r=(lost c,some x,none,c):=by unfold midT; rw [h]
theorem midT_cons {x r w:List Nat} {a:Nat} {c:Bool} (h:beh r=a :: w):midT c x r=if quo a=true then pr (bif hqt r then [tErr nOdd] else []) (sysT (some x) c a w) else ([tErr nOdd],some x,none,false):=by unfold midT; rw [h]
theorem tw_mem {p:Nat→Bool} {x:Nat}:∀ {l:List Nat},x ∈ l.takeWhile p→p x=true
  | [],h=>nomatch h
  | a :: l,h=>by
    rw [List.takeWhile_cons] at h
    cases e:p a with
    | false=>rw [e] at h; exact nomatch h
    | true =>
      rw [e] at h
      cases h with
      | head=>exact e
      | tail _ h=>exact tw_mem h
noncomputable abbrev qst (a:Nat) (f g:Nat):Nat:=bif Nat.beq a 34 then f else g
theorem qst_fl {a:Nat} {p:Nat→Prop} {f g:Nat} (hq:quo a=true) (h1:a=34→p f) (h2:a=39→p g):p (qst a f g):=by
  rcases quo_cases hq with rfl | rfl
  · exact h1 rfl
  · exact h2 rfl
section
variable {src w u i i' b n r:List Nat} {f f' a g qt:Nat} {d d':DF} {q T l:List Mine.V} {o:Option (List Nat)} {D:List Nat→DF} {p s:Option (List Nat)} {k:List Nat→List Nat→RI} {e:List Nat→RI} {z:Bool}
theorem RT_q (Q:QS src f a g D) (hD:DataOk src (o.getD []) l) (hb:WL b) (he:∀ x,idO n (e x)=[tDoc (D x).no.vs]) (hk:∀ r,WL r→RT src g (D (rp (qsp a b))) (r ++ Mine.tl o) (idO n (k (rp (qsp a b)) r) ++ l)):RT src f (D []) (b ++ Mine.tl o) (idO n (qT a b o.isSome k e) ++ l):=by
  have hl:(qsp a b).length≤b.length:=(List.takeWhile_prefix _).length_le
  have hl:([]:List Nat).length + (qsp a b).length≤2000:=Nat.le_trans (Nat.le_of_eq (Nat.zero_add _)) (Nat.le_trans hl (Nat.le_trans hb.l (by decide)))
  have hq:∀ x ∈ qsp a b,x ≠ a∧x ≠ 62:=fun x hx=>⟨fun e=>by
    have h:=tw_mem hx
    subst e
    rw [show Nat.beq x x=true from Nat.beq_refl x] at h
    exact ff h,(hb.w x ((List.takeWhile_prefix _).subset hx)).2⟩
  unfold qT
  rcases qsp_split (a:=a) (b:=b) with ⟨e1,e2⟩ | ⟨e1,e2⟩
  · rw [if_neg e2,idO_pr,he,List.append_assoc]
    have h:=Q.E.run (w:=Mine.tl o) (qsp a b) [] hq hl (RT.tl Q.hf (Q.gt _) Q.eo hD)
    rw [e1] at h ⊢
    exact h
  · rw [if_pos e2,idO_pr]
    have h:=Q.E.run (w:=a :: (b.drop ((qsp a b).length + 1) ++ Mine.tl o)) (qsp a b) [] hq hl (.go (q:=[]) Q.hf Q.qa (Q.qt _) qk0 (hk _ (hb.drop _)))
    rw [show b ++ Mine.tl o=qsp a b ++ a :: (b.drop ((qsp a b).length + 1) ++ Mine.tl o) from (congrArg (· ++ Mine.tl o) e1).trans (List.append_assoc ..)]
    exact h
theorem QS40:QS src 40 34 42 fun x=>⟨n,some x,s,z⟩:=⟨⟨fun H ha hk=>d40_nul (d:=⟨n,none,s,z⟩) H.blw H.m ha hk,fun H ha hk ok h0=>d40_else (d:=⟨n,none,s,z⟩) H.blw H.m ha hk ok.1 ok.2 h0⟩,by decide,by decide,fun _=>rfl,fun _=>rfl,rfl⟩
theorem QS41:QS src 41 39 42 fun x=>⟨n,some x,s,z⟩:=⟨⟨fun H ha hk=>d41_nul (d:=⟨n,none,s,z⟩) H.blw H.m ha hk,fun H ha hk ok h0=>d41_else (d:=⟨n,none,s,z⟩) H.blw H.m ha hk ok.1 ok.2 h0⟩,by decide,by decide,fun _=>rfl,fun _=>rfl,rfl⟩
theorem QS44:QS src 44 34 47 fun x=>⟨n,p,some x,z⟩:=⟨⟨fun H ha hk=>d44_nul (d:=⟨n,p,none,z⟩) H.blw H.m ha hk,fun H ha hk ok h0=>d44_else (d:=⟨n,p,none,z⟩) H.blw H.m ha hk ok.1 ok.2 h0⟩,by decide,by decide,fun _=>rfl,fun _=>rfl,rfl⟩
theorem QS45:QS src 45 39 47 fun x=>⟨n,p,some x,z⟩:=⟨⟨fun H ha hk=>d45_nul (d:=⟨n,p,none,z⟩) H.blw H.m ha hk,fun H ha hk ok h0=>d45_else (d:=⟨n,p,none,z⟩) H.blw H.m ha hk ok.1 ok.2 h0⟩,by decide,by decide,fun _=>rfl,fun _=>rfl,rfl⟩
theorem RT_47 (hD:DataOk src (o.getD []) l) (hi:WL i):RT src 47 ⟨n,p,s,true⟩ (i ++ Mine.tl o) (idO n (if beh i=[] then (lost o.isSome,p,s,o.isSome) else ([tErr nOdd],p,s,true)) ++ l):=by
  refine RT.blanks (by decide) ⟨rfl,rfl⟩ ?_
  have hw:=hi.beh
  cases e:beh i with
  | nil =>
    rw [if_pos rfl]
    have h:=RT.tl' (f:=47) (o:=o) (d:=⟨n,p,s,true⟩) (by decide) rfl rfl hD
    cases o <;> exact h
  | cons a w =>
    rw [if_neg (List.cons_ne_nil _ _)]
    rw [e] at hw
    obtain ⟨h1,h2⟩:=hw.w a (.head _)
    refine .go (q:=[tErr nOdd]) (by decide) h1 ?_ qk1 (RT_38 hD hw.w.tail)
    show (bif blk a then _ else bif Nat.beq a 62 then _ else _)=_
    rw [beh_hd e,beq_no h2]; rfl
theorem RT_S (hD:DataOk src (o.getD []) l) (hi:WL i) (hq:quo a=true):RT src (qst a 44 45) ⟨n,p,some [],true⟩ (i ++ Mine.tl o) (idO n (sysT p o.isSome a i) ++ l):=by
  rcases quo_cases hq with rfl | rfl
  · exact RT_q QS44 hD hi (fun _=>rfl) fun r hr=>RT_47 hD hr
  · exact RT_q QS45 hD hi (fun _=>rfl) fun r hr=>RT_47 hD hr
theorem RT_43 {x:List Nat} (hD:DataOk src (o.getD []) l) (hi:WL i) (h:beh i'=beh i) (hq':hqt i'=false):RT src 43 ⟨n,some x,none,true⟩ (i ++ Mine.tl o) (idO n (midT o.isSome x i') ++ l):=by
  refine RT.blanks (by decide) ⟨rfl,rfl⟩ ?_
  have hw:=hi.beh
  cases e:beh i with
  | nil =>
    rw [midT_nil (h.trans e)]
    have h:=RT.tl' (f:=43) (o:=o) (d:=⟨n,some x,none,true⟩) (by decide) rfl rfl hD
    cases o <;> exact h
  | cons a w =>
    rw [midT_cons (h.trans e),hq']
    rw [e] at hw
    by_cases hq:quo a=true
    · rw [if_pos hq]
      refine .go (q:=[]) (by decide) (hw.w a (.head _)).1 (f':=qst a 44 45) (d':=⟨n,some x,some [],true⟩) ?_ qk0 (RT_S hD hw.tail hq)
      rcases quo_cases hq with rfl | rfl <;> rfl
    · rw [if_neg hq]
      exact RT.odd hD (by decide) hw.w (beh_hd e) (Bool.eq_false_iff.mpr hq)
theorem RT_42 {x:List Nat} (hD:DataOk src (o.getD []) l) (hi:WL i):RT src 42 ⟨n,some x,none,true⟩ (i ++ Mine.tl o) (idO n (midT o.isSome x i) ++ l):=by
  cases i with
  | nil =>
    have h:=RT.tl' (f:=42) (o:=o) (d:=⟨n,some x,none,true⟩) (by decide) rfl rfl hD
    cases o <;> exact h
  | cons a w =>
    have ha:=(hi.w a (.head _)).1
    by_cases hb:blk a=true
    · refine .go (q:=[]) (by decide) ha (f':=43) (d':=⟨n,some x,none,true⟩) ?_ qk0 (RT_43 hD hi.tail (beh_cons hb) (hqt_blk hb))
      rcases blk_cases hb with rfl | rfl <;> rfl
    · have hb:blk a=false:=Bool.eq_false_iff.mpr hb
      rw [midT_cons (beh_not hb)]
      by_cases hq:quo a=true
      · rw [if_pos hq,show hqt (a :: w)=true from hq,idO_pr]
        refine .go (q:=[tErr nOdd]) (by decide) ha (f':=qst a 44 45) (d':=⟨n,some x,some [],true⟩) ?_ qk1 (RT_S hD hi.tail hq)
        rcases quo_cases hq with rfl | rfl <;> rfl
      · rw [if_neg hq]
        exact RT.odd hD (by decide) hi.w hb (Bool.eq_false_iff.mpr hq)
theorem RT_P (hD:DataOk src (o.getD []) l) (hi:WL i) (hq:quo a=true):RT src (qst a 40 41) ⟨n,some [],none,true⟩ (i ++ Mine.tl o) (idO n (pubT o.isSome a i) ++ l):=by
  rcases quo_cases hq with rfl | rfl
  · exact RT_q QS40 hD hi (fun _=>rfl) fun r hr=>RT_42 hD hr
  · exact RT_q QS41 hD hi (fun _=>rfl) fun r hr=>RT_42 hD hr
end
end Mine
end
noncomputable section
namespace Mine
noncomputable def nmS (r:List Nat):List Nat:=r.takeWhile fun a=>!blk a
noncomputable def wdT (n after:List Nat) (c:Bool):List Mine.V:=match beh after with
  | []=>bif c then [tDoc (DF.vs ⟨n,none,none,true⟩)] else [tErr (bif after.isEmpty then nEofN else nEofD),tDoc (DF.vs ⟨n,none,none,false⟩)]
  | a :: w=>idO n (idsT c (a :: w))
noncomputable def namT (c:Bool):List Nat→List Mine.V
  | []=>[tErr (bif c then nNmGt else nNmEof),tDoc (DF.vs ⟨[],none,none,false⟩)]
  | a :: w=>nul (nmS (a :: w)) ++ wdT ((rp (nmS (a :: w))).map lowC) ((a :: w).drop (nmS (a :: w)).length) c
noncomputable def docT (i:List Nat) (c:Bool):List Mine.V:=(if beh i=i∧(c=true∨beh i ≠ []) then [tErr nNeed] else []) ++ namT c (beh i)
theorem wdT_nil {n r:List Nat} {c:Bool} (h:beh r=[]):wdT n r c=bif c then [tDoc (DF.vs ⟨n,none,none,true⟩)] else [tErr (bif r.isEmpty then nEofN else nEofD),tDoc (DF.vs ⟨n,none,none,false⟩)]:=by unfold wdT; rw [h]
theorem wdT_cons {n r w:List Nat} {a:Nat} {c:Bool} (h:beh r=a :: w):wdT n r c=idO n (idsT c (a :: w)):=by unfold wdT; rw [h]
section
variable {src w u i i' b n r x:List Nat} {f f' a g qt j:Nat} {d d':DF} {q T l:List Mine.V} {o:Option (List Nat)} {D:List Nat→DF} {p s:Option (List Nat)} {k:List Nat→RI} {t:Nat→List Nat→RI} {z:Bool} {es:List (Nat × Nat)}
structure KS (src n:List Nat) (o:Option (List Nat)) (l:List Mine.V) (f g:Nat) (x:List Nat) (t:Nat→List Nat→RI):Prop where
  hf:f ∈ fl
  hg:g ∈ fl
  hg':g ∈ [39,42,43,46]
  sp:dtT f 32 ⟨n,none,none,true⟩=some ([],g,⟨n,none,none,true⟩)∧dtT f 10 ⟨n,none,none,true⟩=some ([],g,⟨n,none,none,true⟩)
  sp':dtT g 32 ⟨n,none,none,true⟩=some ([],g,⟨n,none,none,true⟩)∧dtT g 10 ⟨n,none,none,true⟩=some ([],g,⟨n,none,none,true⟩)
  go:∀ {a w},quo a=true→WL w→a ∈ al→RT src g ⟨n,none,none,true⟩ (a :: (w ++ Mine.tl o)) (idO n (t a w) ++ l)
  hq:∀ {a dn ch off l1 l2},Hy src ch off dn→ch[off]?=some a→quo a=true→Stp f (stD [] dn src ch off l1 l2 f ⟨n,none,none,true⟩) true (stD [tErr nOdd] dn src ch off l1 l2 g ⟨n,none,none,true⟩)
  he:∀ {a dn ch off l1 l2},Hy src ch off dn→ch[off]?=some a→isSp a=false→quo a=false→Stp f (stD [] dn src ch off l1 l2 f ⟨n,none,none,true⟩) true (stD [] dn src ch off l1 l2 g ⟨n,none,none,true⟩)
  gt:dtT g 62 ⟨n,none,none,true⟩=some ([tErr x,O0],9,⟨n,none,none,false⟩)
  eo:dtE f=some nEofD
  eo':dtE g=some nEofD
theorem quo_ne {a:Nat} (h:quo a=false):a ≠ 34∧a ≠ 39:=⟨fun e=>by subst e; exact ff h.symm,fun e=>by subst e; exact ff h.symm⟩
theorem KS36 (hD:DataOk src (o.getD []) l):KS src n o l 36 39 nEnd (pubT o.isSome):=⟨by decide,by decide,by decide,⟨rfl,rfl⟩,⟨rfl,rfl⟩,fun hq hw ha=>.go (q:=[]) (by decide) ha (by rcases quo_cases hq with rfl | rfl <;> rfl) qk0 (RT_P hD hw hq),fun H ha hq=>by
    rcases quo_cases hq with rfl | rfl
    · exact d36_34 H.blw H.m ha
    · exact d36_39 H.blw H.m ha,fun H ha hs hq=>d36_else H.blw H.m ha hs (quo_ne hq).1 (quo_ne hq).2,rfl,rfl,rfl⟩
theorem KS37 (hD:DataOk src (o.getD []) l):KS src n o l 37 46 nOdd (sysT none o.isSome):=⟨by decide,by decide,by decide,⟨rfl,rfl⟩,⟨rfl,rfl⟩,fun hq hw ha=>.go (q:=[]) (by decide) ha (by rcases quo_cases hq with rfl | rfl <;> rfl) qk0 (RT_S hD hw hq),fun H ha hq=>by
    rcases quo_cases hq with rfl | rfl
    · exact d37_34 H.blw H.m ha
    · exact d37_39 H.blw H.m ha,fun H ha hs hq=>d37_else H.blw H.m ha hs (quo_ne hq).1 (quo_ne hq).2,rfl,rfl,rfl⟩
theorem RT_g (K:KS src n o l f g x t) (hD:DataOk src (o.getD []) l) (hi:WL i) (h:beh i'=beh i) (hq':hqt i'=false):RT src g ⟨n,none,none,true⟩ (i ++ Mine.tl o) (idO n (kT t x o.isSome i') ++ l):=by
  refine RT.blanks K.hg K.sp' ?_
  have hw:=hi.beh
  cases e:beh i with
  | nil =>
    rw [kT_nil (h.trans e)]
    exact RT.tl K.hg K.gt K.eo' hD
  | cons a w =>
    rw [kT_cons (h.trans e),hq']
    rw [e] at hw
    by_cases hq:quo a=true
    · rw [if_pos hq]
      exact K.go hq hw.tail (hw.w a (.head _)).1
    · rw [if_neg hq]
      exact RT.odd hD K.hg' hw.w (beh_hd e) (Bool.eq_false_iff.mpr hq)
theorem RT_f (K:KS src n o l f g x t) (hD:DataOk src (o.getD []) l) (hi:WL i):RT src f ⟨n,none,none,true⟩ (i ++ Mine.tl o) (idO n (kT t x o.isSome i) ++ l):=by
  cases i with
  | nil =>
    cases o with
    | none=>exact .eof K.hf K.eo hD
    | some r=>exact .back (q:=[]) qk0 (fun H ha=>K.he H ha rfl rfl) (RT_g K hD (i:=[]) (i':=[]) ⟨fun _ h=>(nomatch h),Nat.zero_le _⟩ rfl rfl)
  | cons a w =>
    have ha:=(hi.w a (.head _)).1
    by_cases hb:blk a=true
    · refine .go (q:=[]) K.hf ha ?_ qk0 (RT_g K hD hi.tail (beh_cons hb) (hqt_blk hb))
      rcases blk_cases hb with rfl | rfl
      · exact K.sp.1
      · exact K.sp.2
    · have hb:blk a=false:=Bool.eq_false_iff.mpr hb
      by_cases hq:quo a=true
      · rw [kT_cons (beh_not hb),if_pos hq,show hqt (a :: w)=true from hq,idO_pr]
        exact .back (q:=[tErr nOdd]) qk1 (fun H h=>K.hq H h hq) (K.go hq hi.tail ha)
      · have hq:quo a=false:=Bool.eq_false_iff.mpr hq
        exact .back (q:=[]) qk0 (fun H h=>K.he H h ((al_sp a ha).trans hb) hq) (RT_g K hD hi rfl hq)
theorem kwk_app:∀ {es:List (Nat × Nat)} {w:List Nat},(∀ e ∈ es,¬ (62=e.1∨62=e.2))→kwk es (w ++ Mine.tl o)=kwk es w
  | [],_,_=>rfl
  | e :: es,[],h=>by
    cases o with
    | none=>rfl
    | some r=>exact if_neg (h e (.head _))
  | e :: es,a :: w,h=>by
    show (if _ then _ else _)=(if _ then _ else _)
    exact congrArg (fun z=>if a=e.1∨a=e.2 then Option.map (· + 1) z else some 0) (kwk_app (w:=w) fun e he=>h e (.tail _ he))
theorem kwk_le:∀ {es:List (Nat × Nat)} {w:List Nat},(kwk es w=none→es.length≤w.length)∧∀ j,kwk es w=some j→j≤w.length
  | [],w=>⟨fun _=>Nat.zero_le _,fun _ h=>nomatch h⟩
  | e :: es,[]=>⟨fun h=>(nomatch h),fun j h=>by cases h; exact Nat.le_refl 0⟩
  | e :: es,a :: w=>by
    obtain ⟨h1,h2⟩:=kwk_le (es:=es) (w:=w)
    by_cases h:a=e.1∨a=e.2
    · rw [show kwk (e :: es) (a :: w)=(kwk es w).map (· + 1) from if_pos h]
      cases e:kwk es w with
      | none=>exact ⟨fun _=>Nat.succ_le_succ (h1 e),fun _ h=>nomatch h⟩
      | some j=>exact ⟨fun h=>(nomatch h),fun _ h=>by cases h; exact Nat.succ_le_succ (h2 j e)⟩
    · rw [show kwk (e :: es) (a :: w)=some 0 from if_neg h]
      exact ⟨fun h=>(nomatch h),fun j h=>by cases h; exact Nat.zero_le _⟩
theorem idsT_cons {c:Bool}:idsT c (a :: w)=if a=112∨a=80 then kwT kwPub (kT (pubT c) nEnd c) w c else if a=115∨a=83 then kwT kwSys (kT (sysT none c) nOdd c) w c else ([tErrD nSpB (.str [a])],none,none,false):=rfl
theorem drop_app {α:Type} {l m:List α} {n:Nat} (h:n≤l.length):(l ++ m).drop n=l.drop n ++ m:=List.drop_append_of_le_length h
theorem RT_kw (h5:es.length=5) (h62:∀ e ∈ es,¬ (62=e.1∨62=e.2)) (hD:DataOk src (o.getD []) l) (hi:WL w)
    (A:∀ {dn ch off l1 l2 w'},Hy src ch off dn→ch[off]?=some a→ch.drop (off + 1)=w'→off + 1≤ch.length→kwk es w'=none→Stp 35 (stD [] dn src ch off l1 l2 35 d) true (stD [] dn src ch (off + 1 + 5) l1 l2 f d))
    (M:∀ {dn ch off l1 l2 w' j y},Hy src ch off dn→ch[off]?=some a→ch.drop (off + 1)=w'→off + 1≤ch.length→kwk es w'=some j→w'[j]?=some y→Stp 35 (stD [] dn src ch off l1 l2 35 d) true (stD [tErrD nSpB (.str [y])] dn src ch (off + 1 + j) l1 l2 38 d.no))
    (E:∀ {dn ch off l1 l2 w' j},Hy src ch off dn→ch[off]?=some a→ch.drop (off + 1)=w'→off + 1≤ch.length→kwk es w'=some j→w'[j]?=none→Stp 35 (stD [] dn src ch off l1 l2 35 d) true (stD [tErrD nSpB .none] dn src [] 0 (posF ch l1 l2).1 (posF ch l1 l2).2 38 d.no))
    (hn:d.no=⟨n,none,none,false⟩) (hk:RT src f d (w.drop 5 ++ Mine.tl o) (idO n (k (w.drop 5)) ++ l)):RT src 35 d (a :: (w ++ Mine.tl o)) (idO n (kwT es k w o.isSome) ++ l):=fun dn ch off l1 l2 H hr=>by
  obtain ⟨ha,hdr,hle⟩:=drop_cons hr
  have ek:=kwk_app (o:=o) (w:=w) h62
  have hl:=kwk_le (es:=es) (w:=w)
  have hlen:off + 1 + (w ++ Mine.tl o).length=ch.length:=by rw [← hdr,List.length_drop,Nat.add_sub_cancel' hle]
  have hsub:∀ j,j≤w.length→off + 1 + j≤ch.length:=fun j hj=>hlen▸Nat.add_le_add_left (Nat.le_trans hj (List.length_append▸Nat.le_add_right _ _)) _
  have hdj:∀ j,j≤w.length→ch.drop (off + 1 + j)=w.drop j ++ Mine.tl o:=fun j hj=>by rw [← List.drop_drop,hdr,drop_app hj]
  have q1:∀ {v:Mine.V},V.blw 7 v=true→V.no (.p 0) v=true→Qk [tErrD nSpB v]  :=fun {v} h h'=>qk1' (by show ((V.blw 7 v && true) && true)=true; rw [h]; rfl) (by show ((V.no _ v && true) && true)=true; rw [h']; rfl)
  unfold kwT
  cases e:kwk es w with
  | none =>
    rw [e] at ek
    have hl:=h5▸hl.1 e
    exact Rdy.toC (q:=[]) (by decide) (A H ha hdr hle ek) (by rw [List.append_nil]; exact hk _ ch _ l1 l2 ⟨H.blw,H.no,hsub 5 hl,H.ch,H.src⟩ (hdj 5 hl))
  | some j =>
    rw [e] at ek
    have hl:=hl.2 j e
    cases ey:(w ++ Mine.tl o)[j]? with
    | some y =>
      have es':sgn w[j]? o.isSome=.str [y]:=by
        by_cases hj:j < w.length
        · rw [List.getElem?_append_left hj] at ey
          rw [ey]; rfl
        · cases Nat.le_antisymm hl (Nat.not_lt.mp hj)
          rw [List.getElem?_append_right (Nat.le_refl _),Nat.sub_self] at ey
          rw [List.getElem?_eq_none (Nat.le_refl _)]
          cases o with
          | none=>exact nomatch ey
          | some r=>cases Option.some.inj ey; rfl
      show Rdy src _ dn ([tErrD nSpB (sgn w[j]? o.isSome)] ++ _)
      rw [es']
      refine Rdy.toC (q:=[_]) (Nat.le_of_ble_eq_true rfl) (M H ha hdr hle ek ey) ?_
      rw [hn]
      exact RT_38 hD (hi.drop j).w _ ch _ l1 l2 (H.add (q1 rfl rfl).b (q1 rfl rfl).n (hsub j hl) H.ch) (hdj j hl)
    | none =>
      have ho:o=none:=by
        cases o with
        | none=>rfl
        | some r =>
          have h:=List.getElem?_eq_none_iff.mp ey
          rw [List.length_append] at h
          exact absurd (Nat.le_trans (Nat.le_trans (Nat.add_le_add_left (Nat.succ_le_succ (Nat.zero_le r.length)) _) h) hl) (Nat.not_succ_le_self _)
      subst ho
      have es':sgn w[j]? false=.none:=by
        rw [show w ++ Mine.tl none=w from List.append_nil w] at ey
        rw [ey]; rfl
      show Rdy src _ dn ([tErrD nSpB (sgn w[j]? false)] ++ _)
      rw [es']
      refine Rdy.toC (q:=[_]) (Nat.le_of_ble_eq_true rfl) (E H ha hdr hle ek ey) ?_
      rw [hn]
      exact RT_38 (o:=none) (i:=[]) hD (fun _ h=>nomatch h) _ [] _ _ _ (H.add (q1 rfl rfl).b (q1 rfl rfl).n (Nat.le_refl _) (Nat.zero_le _)) rfl
theorem RT_35 (hD:DataOk src (o.getD []) l) (hi:WL i) (h:beh i'=beh i) (h':i'.isEmpty=false):RT src 35 ⟨n,none,none,true⟩ (i ++ Mine.tl o) (wdT n i' o.isSome ++ l):=by
  refine RT.blanks (by decide) ⟨rfl,rfl⟩ ?_
  have hw:=hi.beh
  cases e:beh i with
  | nil =>
    rw [wdT_nil (h.trans e),h']
    cases o with
    | some r=>exact .gt (q:=[]) (by decide) rfl qk0 hD
    | none=>exact .fin (q:=[tErr nEofD]) qk1 (fun H=>d35_eof H.blw H.s) hD
  | cons a w =>
    rw [wdT_cons (h.trans e)]
    rw [e] at hw
    obtain ⟨ha,h62⟩:=hw.w a (.head _)
    rw [idsT_cons]
    by_cases hp:a=112∨a=80
    · rw [if_pos hp]
      exact RT_kw rfl (by decide) hD hw.tail (fun H ha hdr hle hk=>d35_pub_all H.blw H.m H.s ha hp hdr hle hk) (fun H ha hdr hle hk hx=>d35_pub_miss H.blw H.m H.s ha hp hdr hle hk hx) (fun H ha hdr hle hk hx=>d35_pub_end H.blw H.m H.s ha hp hdr hle hk hx) rfl (RT_f (KS36 hD) hD (hw.tail.drop 5))
    · rw [if_neg hp]
      by_cases hs:a=115∨a=83
      · rw [if_pos hs]
        exact RT_kw rfl (by decide) hD hw.tail (fun H ha hdr hle hk=>d35_sys_all H.blw H.m H.s ha hs hdr hle hk) (fun H ha hdr hle hk hx=>d35_sys_miss H.blw H.m H.s ha hs hdr hle hk hx) (fun H ha hdr hle hk hx=>d35_sys_end H.blw H.m H.s ha hs hdr hle hk hx) rfl (RT_f (KS37 hD) hD (hw.tail.drop 5))
      · rw [if_neg hs]
        exact .back (q:=[tErrD nSpB (.str [a])]) (qk1' rfl rfl) (fun H h=>d35_else H.blw H.m h ((al_sp a ha).trans (beh_hd e)) h62 (fun q=>hp (.inl q)) (fun q=>hp (.inr q)) (fun q=>hs (.inl q)) fun q=>hs (.inr q)) (RT_38 hD (i:=a :: w) hw.w)
theorem RT_33 (hD:DataOk src (o.getD []) l) (hi:WL i) (hx:x.length≤2000) (h:∀ a ∈ i.head?,blk a=true):RT src 33 ⟨x,none,none,true⟩ (i ++ Mine.tl o) (wdT (x.map lowC) i o.isSome ++ l):=by
  have hx:x.length≤maxLen:=Nat.le_trans hx (by decide)
  cases i with
  | nil =>
    cases o with
    | some r=>exact .out (q:=[]) qk0 (fun H ha=>d33_gt (d:=⟨x,none,none,true⟩) H.blw H.m ha hx) hD
    | none=>exact .fin (q:=[tErr nEofN]) qk1 (fun H=>d33_eof (d:=⟨x,none,none,true⟩) H.blw H.s hx) hD
  | cons a w =>
    have hb:=h a rfl
    refine .step (q:=[]) qk0 (fun H ha hr=>?_) (RT_35 hD hi.tail (beh_cons hb) rfl)
    rcases blk_cases hb with rfl | rfl
    · exact d33_32 (d:=⟨x,none,none,true⟩) H.blw H.m ha hx
    · exact d33_10 (d:=⟨x,none,none,true⟩) H.blw H.m ha hx
theorem E33:Eat src 33 (fun x=>⟨x,none,none,true⟩) fun a=>isSp a=false∧a ≠ 62:=⟨fun H ha hk=>d33_nul (d:=⟨[],none,none,true⟩) H.blw H.m ha hk,fun H ha hk ok h0=>d33_else (d:=⟨[],none,none,true⟩) H.blw H.m ha hk ok.1 ok.2 h0⟩
theorem tw_hd {p:Nat→Bool}:∀ {l:List Nat},∀ a ∈ (l.drop (l.takeWhile p).length).head?,p a=false
  | [],_,h=>nomatch h
  | y :: l,a,h=>by
    rw [List.takeWhile_cons] at h
    cases e:p y with
    | false=>rw [e] at h; cases Option.some.inj h; exact e
    | true=>rw [e] at h; exact tw_hd (l:=l) a h
theorem tw_drop {p:Nat→Bool} {l:List Nat}:l.takeWhile p ++ l.drop (l.takeWhile p).length=l:=by
  have h:=List.prefix_iff_eq_take.mp (List.takeWhile_prefix p (l:=l))
  exact (congrArg (· ++ l.drop (l.takeWhile p).length) h).trans (List.take_append_drop _ l)
theorem nmS_cons {w:List Nat} (h:blk a=false):nmS (a :: w)=a :: nmS w:=by
  unfold nmS
  rw [List.takeWhile_cons,h]; rfl
theorem RT_32 (hD:DataOk src (o.getD []) l) (hi:WL i):RT src 32 ⟨[],none,none,true⟩ (i ++ Mine.tl o) (namT o.isSome (beh i) ++ l):=by
  refine RT.blanks (by decide) ⟨rfl,rfl⟩ ?_
  have hw:=hi.beh
  cases e:beh i with
  | nil=>exact RT.tl (d:=⟨[],none,none,true⟩) (by decide) rfl rfl hD
  | cons a w =>
    rw [e] at hw
    obtain ⟨ha,h62⟩:=hw.w a (.head _)
    have hb:=beh_hd e
    have hl:(nmS w).length≤w.length:=(List.takeWhile_prefix _).length_le
    have hl1:([rp1 a]:List Nat).length + (nmS w).length≤2000:=Nat.le_trans (Nat.add_le_add_left (Nat.le_trans hl hw.tail.l) _) (by show 1 + 1000≤2000; decide)
    have hrun:=(E33 (src:=src)).run (w:=w.drop (nmS w).length ++ Mine.tl o) (nmS w) [rp1 a] (fun y hy=>⟨(al_sp y (hw.tail.w y ((List.takeWhile_prefix _).subset hy)).1).trans (Bool.not_eq_true' (blk y)▸(tw_mem hy:(!blk y)=true)),(hw.tail.w y ((List.takeWhile_prefix _).subset hy)).2⟩) hl1
      (RT_33 (x:=[rp1 a] ++ rp (nmS w)) hD (hw.tail.drop _) (by rw [List.length_append,show (rp (nmS w)).length=(nmS w).length from List.length_map _]; exact hl1) fun y hy=>Bool.not_eq_false' (b:=blk y)▸(tw_hd (p:=fun a=>!blk a) y hy))
    rw [← List.append_assoc,show nmS w ++ w.drop (nmS w).length=w from tw_drop] at hrun
    show RT src 32 _ _ (nul (nmS (a :: w)) ++ wdT ((rp (nmS (a :: w))).map lowC) ((a :: w).drop (nmS (a :: w)).length) o.isSome ++ l)
    rw [nmS_cons hb,List.append_assoc]
    by_cases h0:a=0
    · subst h0
      exact .go (q:=[tErr nINV]) (by decide) ha rfl qk1 hrun
    · rw [show nul (a :: nmS w)=nul (nmS w) from if_neg h0]
      refine .go (q:=[]) (by decide) ha ?_ qk0 hrun
      show (bif blk a then _ else bif Nat.beq a 62 then _ else bif Nat.beq a 0 then _ else _)=_
      rw [hb,beq_no h62,beq_no h0,show rp1 a=a from if_neg h0]; rfl
theorem RT_20 (hD:DataOk src (o.getD []) l) (hi:WL i):RT src 20 ⟨[],none,none,true⟩ (i ++ Mine.tl o) (docT i o.isSome ++ l):=by
  cases i with
  | nil =>
    cases o with
    | none=>exact .eof (by decide) rfl hD
    | some r=>exact .back (q:=[tErr nNeed]) qk1 (fun H ha=>d20_else H.blw H.m ha rfl) (RT_32 hD hi)
  | cons a w =>
    have ha:=(hi.w a (.head _)).1
    unfold docT
    by_cases hb:blk a=true
    · rw [if_neg fun h=>Bool.noConfusion ((beh_hd h.1).symm.trans hb),beh_cons hb]
      refine .go (q:=[]) (by decide) ha (f':=32) (d':=⟨[],none,none,true⟩) ?_ qk0 (RT_32 hD hi.tail)
      rcases blk_cases hb with rfl | rfl <;> rfl
    · have hb:blk a=false:=Bool.eq_false_iff.mpr hb
      rw [if_pos ⟨beh_not hb,.inr (by rw [beh_not hb]; exact List.cons_ne_nil _ _)⟩,List.append_assoc]
      exact .back (q:=[tErr nNeed]) qk1 (fun H h=>d20_else H.blw H.m h ((al_sp a ha).trans hb)) (RT_32 hD hi)
end
end Mine
end
noncomputable section
namespace Mine
noncomputable def nY (l:List Nat):Bool:=match l with
  | []=>true
  | a :: _=>!(Nat.beq a 121 || Nat.beq a 89)
noncomputable def hUp:List Nat:=[33,68,79,67,84,89,80,69]
noncomputable def hLo:List Nat:=[33,100,111,99,116,121,112,101]
noncomputable def hdB (r:List Nat):Bool:=r.take 8 == hUp || (r.take 8 == hLo || (r.take 5 == [33,100,111,99,116] && nY (r.drop 5)))
noncomputable def okT:List Nat→Bool
  | []=>true
  | a :: r=>al.contains a && ((!Nat.beq a 60 || hdB r) && okT r)
noncomputable def Tx (t:List Nat):Prop:=okT t=true
theorem Tx.al1 {a:Nat} {r:List Nat} (h:Tx (a :: r)):a ∈ al:=bA h fun h _=>List.contains_iff_mem.mp h
theorem Tx.hd {r:List Nat} (h:Tx (60 :: r)):hdB r=true:=bA h fun _ h=>bA h fun h _=>h
theorem Tx.tail {a:Nat} {r:List Nat} (h:Tx (a :: r)):Tx r:=bA h fun _ h=>bA h fun _ h=>h
theorem Tx.al:∀ {t:List Nat},Tx t→∀ a ∈ t,a ∈ Mine.al
  | _ :: _,h,a,ha=>by
    cases ha with
    | head=>exact h.al1
    | tail _ ha=>exact h.tail.al a ha
theorem Tx.drop:∀ {t:List Nat},Tx t→∀ k,Tx (t.drop k)
  | [],_,k=>by rw [List.drop_nil]; exact rfl
  | _ :: _,h,0=>h
  | _ :: _,h,k + 1=>h.tail.drop k
theorem al_amp:∀ a ∈ al,(Nat.beq a 38)=false:=allR (by kernel_rfl)
theorem hd_cases {r:List Nat} (h:hdB r=true):(∃ b,r=33 :: 68 :: 79 :: 67 :: 84 :: 89 :: 80 :: 69 :: b)∨(∃ b,r=33 :: 100 :: 111 :: 99 :: 116 :: 121 :: 112 :: 101 :: b)∨∃ w,r=33 :: 100 :: 111 :: 99 :: 116 :: w∧nY w=true:=by
  rcases Bool.or_eq_true_iff.mp h with h | h
  · exact .inl ⟨r.drop 8,(List.take_append_drop 8 r).symm.trans (congrArg (· ++ r.drop 8) (beq_iff_eq.mp h))⟩
  · rcases Bool.or_eq_true_iff.mp h with h | h
    · exact .inr (.inl ⟨r.drop 8,(List.take_append_drop 8 r).symm.trans (congrArg (· ++ r.drop 8) (beq_iff_eq.mp h))⟩)
    · exact bA h fun h1 h2=>.inr (.inr ⟨r.drop 5,(List.take_append_drop 5 r).symm.trans (congrArg (· ++ r.drop 5) (beq_iff_eq.mp h1)),h2⟩)
noncomputable def rdT (rd':List Nat→List Mine.V) (r:List Nat):List Mine.V:=
  if (r.take 8).map lowC=hLo then docT (gt (r.drop 8)) (decide ((gt (r.drop 8)).length < (r.drop 8).length)) ++ rd' (aft (r.drop 8))
  else tErr nDoc :: tCom (rpl (gt (r.drop 1))) :: rd' (aft (r.drop 1))
noncomputable def rd:Nat→List Nat→List Mine.V
  | 0,_=>[]
  | _ + 1,[]=>[]
  | n + 1,a :: r=>if a=60 then rdT (rd n) r else if a=0 then tErr nINV :: tChr [0] :: rd n r
    else if isSp a=true then tSpc (a :: spR r) :: rd n (r.drop (spR r).length) else tChr (a :: txR r) :: rd n (r.drop (txR r).length)
theorem gt_qsp (b:List Nat):gt b=qsp 62 b:=congrArg (fun p=>b.takeWhile p) (funext fun a=>by
  rw [isGt_eq]
  by_cases h:a=62
  · subst h; rfl
  · rw [beq_no h,beq_eq_false_iff_ne.mpr h]; rfl)
theorem gt_split (b:List Nat):∃ o,b=gt b ++ tl o∧aft b=o.getD []∧decide ((gt b).length < b.length)=o.isSome:=by
  unfold aft
  rw [gt_qsp]
  rcases qsp_split (a:=62) (b:=b) with ⟨e,h⟩ | ⟨e,h⟩
  · exact ⟨none,((List.append_nil _).trans e).symm,List.drop_eq_nil_of_le (Nat.le_succ_of_le (Nat.not_lt.mp h)),decide_eq_false h⟩
  · exact ⟨some (b.drop ((qsp 62 b).length + 1)),e,rfl,decide_eq_true h⟩
section
variable {src b r ch:List Nat} {dn l:List Mine.V} {off n a:Nat} {l1 l2:Int} {cv:Mine.V} {rd':List Nat→List Mine.V}
theorem gt_wd (h:∀ a ∈ b,a ∈ al) (hl:b.length≤1000):WL (gt b):=⟨fun a ha=>⟨h a ((List.takeWhile_prefix _).subset ha),fun e=>by
  have h:=tw_mem ha
  rw [isGt_eq,e] at h
  exact ff h⟩,Nat.le_trans (List.takeWhile_prefix _).length_le hl⟩
theorem doc_ok (e:ch.drop off=33 :: a :: r ++ b) (h:a=100∨a=68) (hk:kwk ((111,79)::[(99,67),(116,84),(121,89),(112,80),(101,69)]) (r ++ b)=none) (h6:r.length=6) (hal:∀ x ∈ b,x ∈ al) (hD:DataOk src (aft b) l) (H:Hy src ch off dn) (hcv:CvOk cv):Rdy src (S1 [] dn src ch off src.length l1 l2 12 cv) dn (docT (gt b) (decide ((gt b).length < b.length)) ++ l):=by
  obtain ⟨h1,hdr,hle⟩:=drop_cons e
  refine Rdy.toN0 (s1_tagOpen_bang H.blw H.m H.s hcv.b h1) ?_
  obtain ⟨h2,hdr2,hle2⟩:=drop_cons (show ch.drop (off + 1)=a :: (r ++ b) from hdr)
  obtain ⟨o,e1,e2,e3⟩:=gt_split b
  have hb:ch.drop (off + 1 + 1 + 6)=b:=by rw [← List.drop_drop,hdr2,drop_app (Nat.le_of_eq h6.symm),← h6,List.drop_length,List.nil_append]
  have hlen:off + 1 + 1 + (r ++ b).length=ch.length:=by rw [← hdr2,List.length_drop,Nat.add_sub_cancel' hle2]
  have hlr:6 + b.length=(r ++ b).length:=by rw [List.length_append,h6]
  have hlb:b.length≤1000:=Nat.le_trans (hb▸dl_le ch _) H.ch
  rw [e2] at hD
  have hx:=RT_20 (i:=gt b) hD (gt_wd hal hlb) dn ch (off + 1 + 1 + 6) l1 l2 ⟨H.blw,H.no,hlen▸Nat.add_le_add_left (hlr▸Nat.le_add_right 6 _) _,H.ch,H.src⟩ (hb.trans e1)
  rw [← e3] at hx
  exact Rdy.toCN (s1_markup_doc H.blw hcv.b H.m h2 h hdr2 hk) hx
theorem rdT_ok (ht:Tx (60 :: r)) (hD:∀ k,DataOk src (r.drop k) (rd' (r.drop k))) (H:Hy src ch off dn) (hcv:CvOk cv) (hr:ch.drop off=r):Rdy src (S1 [] dn src ch off src.length l1 l2 12 cv) dn (rdT rd' r):=by
  have hal:∀ k,∀ a ∈ r.drop k,a ∈ al:=fun k a ha=>ht.tail.al a (List.mem_of_mem_drop ha)
  have hA:∀ k,DataOk src (aft (r.drop k)) (rd' (aft (r.drop k))):=fun k=>by
    unfold aft
    rw [List.drop_drop]
    exact hD _
  rcases hd_cases ht.hd with ⟨b,rfl⟩ | ⟨b,rfl⟩ | ⟨w,rfl,hy⟩
  · exact doc_ok (r:=[79,67,84,89,80,69]) hr (.inr rfl) rfl rfl (hal 8) (hA 8) H hcv
  · exact doc_ok (r:=[111,99,116,121,112,101]) hr (.inl rfl) rfl rfl (hal 8) (hA 8) H hcv
  · obtain ⟨h1,hdr,hle⟩:=drop_cons hr
    obtain ⟨h2,hdr2,-⟩:=drop_cons hdr
    have hA:=hA 1
    refine Rdy.toN0 (s1_tagOpen_bang H.blw H.m H.s hcv.b h1) ?_
    cases w with
    | nil =>
      exact toBog qk1 hA ⟨H.blw,H.no,hle,H.ch,H.src⟩ hcv (s1_markup_e H.blw hcv.b H.m H.s h2 hdr2 rfl) (Nat.zero_le _) (by decide) rfl
    | cons a w =>
      have hy:¬ (a=121∨a=89):=fun q=>by rcases q with rfl | rfl <;> exact ff hy
      unfold rdT
      rw [if_neg fun q=>?_]
      · exact toBog qk1 hA ⟨H.blw,H.no,hle,H.ch,H.src⟩ hcv (s1_markup_x H.blw hcv.b H.m h2 hdr2 rfl hy) hle H.ch hdr
      · have e:lowC a=121:=(List.cons.inj (List.cons.inj (List.cons.inj (List.cons.inj (List.cons.inj (List.cons.inj q).2).2).2).2).2).1
        unfold lowC at e
        by_cases c:65≤a∧a≤90
        · rw [if_pos c] at e
          exact hy (.inr (Nat.add_right_cancel (m:=32) e))
        · rw [if_neg c] at e
          exact hy (.inl e)
theorem rd_ok (src:List Nat):∀ (n:Nat) (r:List Nat),r.length < n→Tx r→DataOk src r (rd n r)
  | 0,r,h,_=>absurd h (Nat.not_lt_zero _)
  | n + 1,[],_,_=>.nil src
  | n + 1,a :: r,hn,ht=>fun dn ch off l1 l2 cv H hcv hr=>by
    obtain ⟨ha,hdr,hle⟩:=drop_cons hr
    have hT:∀ k,DataOk src (r.drop k) (rd n (r.drop k)):=fun k=>rd_ok src n _ (Nat.lt_of_le_of_lt (dl_le r k) (Nat.lt_of_succ_lt_succ hn)) (ht.drop (k + 1))
    have hd:∀ k,ch.drop (off + 1 + k)=r.drop k:=fun k=>by rw [← List.drop_drop,hdr]
    have hnil:∀ k,off + 1 + k=ch.length→DataOk src [] (rd n (r.drop k)):=fun k e=>by
      have e2:r.drop k=[]:=by rw [← hd,e,List.drop_length]
      have:=hT k
      rw [e2] at this ⊢
      exact this
    unfold rd
    by_cases h60:a=60
    · subst h60
      rw [if_pos rfl]
      exact Rdy.toN0 (s1_data_lt H.blw H.m H.s hcv.b ha) (rdT_ok ht hT ⟨H.blw,H.no,hle,H.ch,H.src⟩ hcv hdr)
    · rw [if_neg h60]
      by_cases h0:a=0
      · subst h0
        exact back (q:=[tErr nINV,tChr [0]]) ⟨rfl,rfl,Nat.le_of_ble_eq_true rfl⟩ H hcv (s1_data_nul H.blw H.m H.s hcv.b ha) hle H.ch hdr (hT 0)
      · rw [if_neg h0]
        have h38:a ≠ 38:=fun e=>by subst e; exact ff (al_amp _ ht.al1).symm
        by_cases hsp:isSp a=true
        · rw [if_pos hsp]
          have hl:spR r=(ch.drop (off + 1)).takeWhile fun a=>isSp a == true:=by rw [hdr]; rfl
          have hk:Qk [tSpc (a :: spR r)]:=qk1' rfl rfl
          by_cases he:off + 1 + (spR r).length=ch.length
          · exact back hk H hcv (s1_data_sp_end H.blw H.m H.s hcv.b ha H.bn hl he h38 h60 h0 hsp) (Nat.zero_le _) (Nat.zero_le _) rfl (hnil _ he)
          · have hlt:=Nat.lt_of_le_of_ne (tw_le hdr hle) he
            exact back hk H hcv (s1_data_sp_mid H.blw H.m H.s hcv.b ha H.bn hl hlt h38 h60 h0 hsp) (Nat.le_of_lt hlt) H.ch (hd _) (hT _)
        · rw [if_neg hsp]
          have hsp:isSp a=false:=Bool.eq_false_iff.mpr hsp
          have hl:txR r=(ch.drop (off + 1)).takeWhile fun a=>stopTx a == false:=by rw [hdr]; rfl
          have hk:Qk [tChr (a :: txR r)]:=qk1' rfl rfl
          by_cases he:off + 1 + (txR r).length=ch.length
          · exact back hk H hcv (s1_data_tx_end H.blw H.m H.s hcv.b ha H.bn hl he h38 h60 h0 hsp) (Nat.zero_le _) (Nat.zero_le _) rfl (hnil _ he)
          · have hlt:=Nat.lt_of_le_of_ne (tw_le hdr hle) he
            exact back hk H hcv (s1_data_tx_mid H.blw H.m H.s hcv.b ha H.bn hl hlt h38 h60 h0 hsp) (Nat.le_of_lt hlt) H.ch (hd _) (hT _)
end
end Mine
end
noncomputable section
namespace Mine
section
variable {C:Ora} {n:Nat} {L:List (Nat × Mine.V)} {H:List (Id × Ob)} {nx:Nat} {P:List Nat} {s b c r:List Nat} {i j:Int} {a k q:Nat} {z:Bool}
theorem clamp_min (n k:Nat):clampIx n (k:Int)=min k n:=(Nat.le_total k n).elim (fun h=>(clamp_nat h).trans (Nat.min_eq_left h).symm) fun h=>(clamp_big h).trans (Nat.min_eq_right h).symm
theorem take_min {α:Type} (s:List α) (j:Nat):s.take (min j s.length)=s.take j:=(Nat.le_total j s.length).elim (fun h=>congrArg (s.take ·) (Nat.min_eq_left h)) fun h=>by rw [Nat.min_eq_right h,List.take_length,List.take_of_length_le h]
theorem drop_min (t:List Nat) {m:Nat} (h:t.length≤m) (i:Nat):t.drop (min i m)=t.drop i:=(Nat.le_total i m).elim (fun h=>congrArg (t.drop ·) (Nat.min_eq_left h)) fun h'=>by rw [Nat.min_eq_right h',List.drop_of_length_le h,List.drop_of_length_le (Nat.le_trans h h')]
theorem sl_mid (a b:Nat) (hi:i=a) (hj:j=b) (hs:s.length≤maxLen):slV σ0 (.str s) (.int i) (.int j)=some (.str ((s.drop a).take (b - a))):=by
  subst hi hj
  show gd (Nat.ble s.length maxLen) (some (Mine.V.str ((s.take (clampIx s.length b)).drop (clampIx s.length a))))=_
  rw [ble hs,clamp_min,clamp_min,take_min,drop_min _ (List.length_take_le' _ _),List.drop_take]; rfl
theorem sl_from (a:Nat) (hi:i=a) (hs:s.length≤maxLen):slV σ0 (.str s) (.int i) .none=some (.str (s.drop a)):=by
  subst hi
  show gd (Nat.ble s.length maxLen) (some (Mine.V.str ((s.take s.length).drop (clampIx s.length a))))=_
  rw [ble hs,clamp_min,List.take_length,drop_min _ (Nat.le_refl _)]; rfl
theorem sl_to' (b:Nat) (hj:j=b) (hs:s.length≤maxLen):slV σ0 (.str s) .none (.int j)=some (.str (s.take b)):=by
  subst hj
  show gd (Nat.ble s.length maxLen) (some (Mine.V.str (s.take (clampIx s.length b))))=_
  rw [ble hs,clamp_min,take_min]; rfl
theorem sub_nat (hc:s[a]?=some k) (hs:s.length≤maxLen):subV σ0 (.str s) (.int (a:Nat))=some (.str [k]):=sub_at hs (seq_at (List.getElem?_eq_some_iff.mp hc).1) hc
theorem fault_sp {x:List Nat}:oraN tT (n + 1) 28 [.str x] ⟨L,H,nx,P⟩=some (tErr x,⟨L,H,nx,P⟩):=by kernel_rfl
theorem sbeq {x y:List Nat} (h:x=y):some (x == y)=some true:=congrArg some (beq_iff_eq.mpr h)
theorem sbne {x y:List Nat} (h:¬ x=y):some (x == y)=some false:=congrArg some (beq_eq_false_iff_ne.mpr h)
theorem slt {x y:Nat} (h:x < y):some (decide ((x:Int) < (y:Int)))=some true:=congrArg some (decide_eq_true (Int.ofNat_lt.mpr h))
theorem snlt {x y:Nat} (h:¬ x < y):some (decide ((x:Int) < (y:Int)))=some false:=congrArg some (decide_eq_false fun q=>h (Int.ofNat_lt.mp q))
theorem sge (x:Nat):some (decide ((x:Int) ≥ 0))=some true:=congrArg some (decide_eq_true (Int.natCast_nonneg x))
theorem hml (hb:b.length≤1000):b.length≤maxLen:=Nat.le_trans hb (by decide)
theorem rp_repl:∀ (n:Nat) (s:List Nat),s.length < n→repl [0] [65533] n s=rp s
  | 0,s,h=>absurd h (Nat.not_lt_zero _)
  | n + 1,[],_=>rfl
  | n + 1,c :: s,h=>by
    have ih:=rp_repl n s (Nat.lt_of_succ_lt_succ h)
    by_cases hc:c=0
    · subst hc
      exact congrArg (65533 :: ·) ih
    · show (if ((0 == c) && isPre [] s)=true then _ else c :: repl [0] [65533] n s)=rp1 c :: rp s
      rw [beq_eq_false_iff_ne.mpr (fun q:0=c=>hc q.symm),Bool.false_and,if_neg (fun q=>ff q),ih,show rp1 c=c from if_neg hc]
theorem rep_sp (h:s.length≤1000):smV σ0 .replace s [.str [0],.str [65533]]=some (.str (rp s)):=by
  rw [rep0 (Nat.le_trans (Nat.add_le_add h (Nat.succ_le_succ h)) (by decide)),rp_repl _ _ (Nat.lt_succ_self _)]
theorem loop_sp {t:ME} {bd:List MS} {p:Nat→Bool} {mk:Nat→St} (h0:tst C t (mk b.length)=some (false,mk b.length)) (h1:∀ i a,b[i]?=some a→tst C t (mk i)=some (p a,mk i)) (h2:∀ i,exs C bd (mk i)=some (.next,mk (i + 1))) :
    ∀ (r:List Nat) (i fuel:Nat),b.drop i=r→i≤b.length→r.length < fuel→whileN (tst C t) (exs C bd) fuel (mk i)=some (.next,mk (i + (r.takeWhile p).length))
  | _,_,0,_,_,hf=>absurd hf (Nat.not_lt_zero _)
  | [],i,n + 1,hr,hi,hf=>by cases drop_nil' hr hi; exact while_end h0
  | a :: r,i,n + 1,hr,hi,hf=>by
    obtain ⟨ha,hd,hl⟩:=drop_cons hr
    rw [List.takeWhile_cons]
    have h1:=h1 i a ha
    cases e:p a with
    | false=>rw [e] at h1; exact while_end h1
    | true =>
      rw [e] at h1
      refine (while_on h1 (h2 i) (loop_sp h0 ‹_› h2 r (i + 1) n hd hl (Nat.lt_of_succ_lt_succ hf))).trans ?_
      rw [Nat.add_right_comm]; rfl
theorem any2 {x y:Nat}:[[x],[y]].any (· == [a])=(Nat.beq a x || Nat.beq a y):=by
  have e:∀ {x:Nat},([x] == [a])=Nat.beq a x:=fun {x}=>by
    by_cases h:a=x
    · subst h; rw [Nat.beq_refl]; exact beq_self_eq_true _
    · rw [beq_no h]; exact beq_eq_false_iff_ne.mpr fun q=>h (List.cons.inj q).1.symm
  show (([x] == [a]) || (([y] == [a]) || false))=_
  rw [e,e,Bool.or_false]
theorem in_blk:some ([[32],[10]].any (· == [a]))=some (blk a):=congrArg some any2
theorem in_quo:some ([[34],[39]].any (· == [a]))=some (quo a):=congrArg some any2
theorem tru_b {b:Bool}:Mine.truthy σ0 (.bool b)=some b:=rfl
noncomputable def behT:ME:=.and (.cmp .lt (.loc 2) (.bi .len [(.loc 4)])) (.cmp .inn (.sub (.loc 4) (.loc 2)) (.glob gBlanks))
noncomputable def inc2:List MS:=[.augN 2 .add (.k (.int 1))]
noncomputable def behM (b:List Nat) (H:List (Id × Ob)) (nx:Nat) (P:List Nat) (i:Nat):St:=⟨[(4,.str b),(2,.int i)],H,nx,P⟩
theorem beh_drop (b:List Nat):b.drop (b.takeWhile blk).length=beh b:=List.append_cancel_left (tw_drop.trans List.takeWhile_append_dropWhile.symm)
theorem behind_sp (hb:b.length≤1000):oraN tT (n + 1) 49 [.str b] ⟨L,H,nx,P⟩=some (.str (beh b),⟨L,H,nx,P⟩):=by
  have hm:=hml hb
  have hw:=loop_sp (C:=oraN tT n) (t:=behT) (bd:=inc2) (p:=blk) (mk:=behM b H nx P) (b:=b) (by
    refine Ends.tst ?_
    exact .v 0 (len_all hm) (.b 0 (snlt (Nat.lt_irrefl b.length)) (.done 3))) (fun i a h=>by
    have hlt:=(List.getElem?_eq_some_iff.mp h).1
    refine Ends.tst ?_
    exact .v 0 (len_all hm) (.b 0 (slt hlt) (.v 1 (sub_nat h hm) (.b 0 (in_blk (a:=a)) (.b 0 (tru_b (b:=blk a)) (.done 1)))))) (fun i=>by kernel_rfl) b 0 bigN rfl (Nat.zero_le _) (Nat.lt_of_le_of_lt hb (by decide))
  rw [Nat.zero_add] at hw
  have hs:=sl_from (i:=((b.takeWhile blk).length:Nat)) _ rfl hm
  rw [beh_drop] at hs
  refine orun ?_
  exact .fl 0 (hw) (.v 0 (hs) (.done 1))
noncomputable def nlE:ME:=.call 28 [(.k (.str [105,110,118,97,108,105,100,45,99,111,100,101,112,111,105,110,116]))]
noncomputable def nlC:ME:=.cmp .eq (.loc 68) (.k (.str [0]))
theorem nul_all:∀ b:List Nat,compN (compF (ev (oraN tT (n + 1)) nlE) (ev (oraN tT (n + 1)) nlC) 68 L) (b.map fun a=>.str [a]) ⟨L,H,nx,P⟩=some (nul b,⟨L,H,nx,P⟩)
  | []=>rfl
  | a :: b=>by
    unfold nul
    by_cases h:a=0
    · subst h
      show bn (compN _ (b.map fun a=>.str [a]) ⟨L,H,nx,P⟩) _=_
      rw [nul_all b]; rfl
    · rw [if_neg h]
      have e:compF (ev (oraN tT (n + 1)) nlE) (ev (oraN tT (n + 1)) nlC) 68 L (.str [a]) ⟨L,H,nx,P⟩=some (none,⟨L,H,nx,P⟩):=by
        have hc:ev (oraN tT (n + 1)) nlC ⟨(68,.str [a]) :: L,H,nx,P⟩=some (.bool false,⟨(68,.str [a]) :: L,H,nx,P⟩):=by
          refine Ends.ev ?_
          exact .b 0 (neq h) (.done 1)
        show bn (ev (oraN tT (n + 1)) nlC ⟨(68,.str [a]) :: L,H,nx,P⟩) _=_
        rw [hc]; rfl
      show bn (compF _ _ 68 L (.str [a]) ⟨L,H,nx,P⟩) _=_
      rw [e]
      show bn (compN _ (b.map fun a=>.str [a]) ⟨L,H,nx,P⟩) _=_
      rw [nul_all b]; rfl
theorem nulls_sp (hb:b.length≤1000):oraN tT (n + 2) 48 [.str b] ⟨L,H,nx,P⟩=some (.list (nul b),⟨L,H,nx,P⟩):=by
  have g1:Nat.ble (b.map fun a=>Mine.V.str [a]).length maxLen=true:=ble (by rw [List.length_map]; exact hml hb)
  have hc:=nul_all (n:=n) (L:=[(4,.str b)]) (H:=H) (nx:=nx) (P:=P) b
  refine orun ?_
  exact .g 1 (g1) (.l 0 (hc) (.done 1))
theorem find_q:∀ (c:List Nat) (i:Nat),findFrom [q] c i=if (qsp q c).length < c.length then ((i + (qsp q c).length:Nat):Int) else -1
  | [],i=>rfl
  | x :: c,i=>by
    show (if (q == x && isPre [] c) then (i:Int) else findFrom [q] c (i + 1))=_
    by_cases hx:x=q
    · subst hx
      rw [show qsp x (x :: c)=[] by unfold qsp; rw [List.takeWhile_cons,Nat.beq_refl]; rfl,beq_self_eq_true]; rfl
    · rw [beq_eq_false_iff_ne.mpr (fun e:q=x=>hx e.symm),show qsp q (x :: c)=x :: qsp q c by unfold qsp; rw [List.takeWhile_cons,beq_no hx]; rfl,find_q c (i + 1)]
      show (if (qsp q c).length < c.length then _ else _)=if (qsp q c).length + 1 < c.length + 1 then _ else _
      by_cases hl:(qsp q c).length < c.length
      · rw [if_pos hl,if_pos (Nat.succ_lt_succ hl),Nat.add_right_comm]; rfl
      · rw [if_neg hl,if_neg fun e=>hl (Nat.lt_of_succ_lt_succ e)]
theorem find_at {s y:List Nat} (h:k≤s.length):smV σ0 .find s [.str y,.int k]=some (.int (findFrom y (s.drop k) k)):=by
  show gd (decide ((0:Int)≤k) && decide ((k:Int)≤s.length)) (some (Mine.V.int (findFrom y (s.drop (k:Int).toNat) (k:Int).toNat)))=_
  rw [decide_eq_true (Int.natCast_nonneg k),decide_eq_true (Int.ofNat_le.mpr h)]; rfl
theorem find_yes {s:Nat} (hs:s≤b.length) (hc:b.drop s=c) (hf:(qsp q c).length < c.length):smV σ0 .find b [.str [q],.int s]=some (.int (s + (qsp q c).length:Nat)):=by rw [find_at hs,hc,find_q,if_pos hf]
theorem find_no {s:Nat} (hs:s≤b.length) (hc:b.drop s=c) (hf:¬ (qsp q c).length < c.length):smV σ0 .find b [.str [q],.int s]=some (.int (-1)):=by rw [find_at hs,hc,find_q,if_neg hf]
theorem qsp_take (c:List Nat):c.take (qsp q c).length=qsp q c:=(List.prefix_iff_eq_take.mp (List.takeWhile_prefix _)).symm
theorem qsp_le (c:List Nat):(qsp q c).length≤c.length:=(List.takeWhile_prefix _).length_le
theorem nul_len:∀ b:List Nat,(nul b).length≤b.length
  | []=>Nat.le_refl _
  | a :: b=>by
    unfold nul
    exact ite_i (fun l:List Mine.V=>l.length≤_) (fun _=>Nat.succ_le_succ (nul_len b)) fun _=>Nat.le_succ_of_le (nul_len b)
theorem cat_l {l:List Mine.V} {x:Mine.V} (h:l.length + 1≤maxLen):bopV σ0 .add (.list l) (.list [x])=some (.list (l ++ [x])):=by
  show gd (Nat.ble (l.length + 1) maxLen) _=_
  rw [ble h]; rfl
noncomputable def qtV (q:Nat) (b:List Nat) (z:Bool):Mine.V:=if (qsp q b).length < b.length then .tup [.list (nul (qsp q b)),.str (rp (qsp q b)),.str (b.drop ((qsp q b).length + 1))]
  else .tup [.list (nul (qsp q b) ++ [tErr (bif z then nEnd else nEofD)]),.str (rp (qsp q b)),.none]
theorem quoted_sp (hb:b.length≤999) (hq:q ≠ 0):oraN tT (n + 3) 50 [.str (q :: b),.bool z] ⟨L,H,nx,P⟩=some (qtV q b z,⟨L,H,nx,P⟩):=by
  have hl:(q :: b).length≤1000:=Nat.succ_le_succ hb
  have hm:=hml hl
  have h0:subV σ0 (.str (q :: b)) (.int 0)=some (.str [q]):=sub_nat (a:=0) rfl hm
  have hu:(qsp q b).length≤1000:=Nat.le_trans (qsp_le b) (Nat.le_succ_of_le hb)
  have h1:(1:Nat)≤(q :: b).length:=Nat.succ_le_succ (Nat.zero_le _)
  unfold qtV
  by_cases hf:(qsp q b).length < b.length
  · rw [if_pos hf]
    have f1:=find_yes (b:=q :: b) (s:=1) h1 rfl hf
    have s1:slV σ0 (.str (q :: b)) (.int 1) (.int (1 + (qsp q b).length:Nat))=some (.str (qsp q b)):=by
      refine (sl_mid (i:=1) 1 (1 + (qsp q b).length) rfl rfl hm).trans ?_
      rw [Nat.add_sub_cancel_left]
      exact congrArg (fun l=>some (Mine.V.str l)) (qsp_take b)
    have s2:slV σ0 (.str (q :: b)) (.int (1 + (qsp q b).length + 1:Nat)) .none=some (.str (b.drop ((qsp q b).length + 1))):=by
      rw [sl_from (1 + (qsp q b).length + 1) rfl hm,Nat.add_assoc 1]
      exact congrArg (fun k=>some (Mine.V.str ((q :: b).drop k))) (Nat.add_comm 1 _)
    refine orun ?_
    exact .v 0 (h0) (.v 0 (f1) (.v 2 (s1) (.c 0 (nulls_sp (n:=n) (b:=qsp q b) (L:=[(4,.str (q :: b)),(107,.bool z),(37,.int (1 + (qsp q b).length:Nat))]) (H:=H) (nx:=nx) (P:=P) hu) (.v 0 (s1) (.v 0 (rep_sp hu) (.v 1 (s2) (.done 1)))))))
  · rw [if_neg hf]
    have e:qsp q b=b:=(List.takeWhile_prefix _).eq_of_length (Nat.le_antisymm (qsp_le b) (Nat.not_lt.mp hf))
    have f1:=find_no (b:=q :: b) (s:=1) h1 rfl hf
    rw [e] at hu ⊢
    have s1:=sl_from (s:=q :: b) (i:=1) 1 rfl hm
    have hn:=nulls_sp (n:=n) (b:=q :: b) (L:=[(4,.str (q :: b)),(107,.bool z),(37,.int (-1)),(108,tErr (bif z then nEnd else nEofD))]) (H:=H) (nx:=nx) (P:=P) hl
    rw [show nul (q :: b)=nul b from if_neg hq] at hn
    have hc:=cat_l (l:=nul b) (x:=tErr (bif z then nEnd else nEofD)) (Nat.succ_le_of_lt (Nat.lt_of_le_of_lt (Nat.le_trans (nul_len b) hb) (by decide)))
    refine orun ?_
    cases z
    · exact .v 0 (h0) (.v 0 (f1) (.c 4 (hn) (.v 1 (hc) (.v 0 (s1) (.v 0 (rep_sp hu) (.done 1))))))
    · exact .v 0 (h0) (.v 0 (f1) (.c 4 (hn) (.v 1 (hc) (.v 0 (s1) (.v 0 (rep_sp hu) (.done 1))))))
end
end Mine
end
noncomputable section
namespace Mine
noncomputable def id0:MS:=.asg 110 (.call 28 [(.k (.str [117,110,101,120,112,101,99,116,101,100,45,99,104,97,114,45,105,110,45,100,111,99,116,121,112,101]))])
noncomputable def id1:MS:=.asg 108 (.ite (.loc 107) (.lst [] .frz) (.lst [(.call 28 [(.k (.str [101,111,102,45,105,110,45,100,111,99,116,121,112,101]))])] .frz))
noncomputable def id2:MS:=.asg 111 (.ite (.cmp .inn (.sub (.loc 109) (.k (.int 0))) (.tup [(.k (.str [112])),(.k (.str [80]))])) (.k (.str [112,117,98,108,105,99])) (.k (.str [115,121,115,116,101,109])))
noncomputable def id3:MS:=.asg 112 (.k (.int 0))
noncomputable def id4:MS:=.whl (.and (.cmp .lt (.loc 112) (.k (.int 6))) (.cmp .eq (.sm .lower (.sl (.loc 109) (.loc 112) (.bop .add (.loc 112) (.k (.int 1)))) []) (.sub (.loc 111) (.loc 112)))) [.augN 112 .add (.k (.int 1))]
noncomputable def id5:MS:=.iff (.cmp .lt (.loc 112) (.k (.int 6))) [.asg 68 (.ite (.cmp .lt (.loc 112) (.bi .len [(.loc 109)])) (.sub (.loc 109) (.loc 112)) (.ite (.loc 107) (.k (.str [62])) (.k .none))),.ret (.tup [(.lst [(.dct [[116,121,112,101],[100,97,116,97],[100,97,116,97,118,97,114,115]] [(.sub (.glob gTokenTypes) (.k (.str [80,97,114,115,101,69,114,114,111,114]))),(.k (.str [101,120,112,101,99,116,101,100,45,115,112,97,99,101,45,111,114,45,114,105,103,104,116,45,98,114,97,99,107,101,116,45,105,110,45,100,111,99,116,121,112,101])),(.dct [[100,97,116,97]] [(.loc 68)] .frz)] .frz)] .frz),(.k .none),(.k .none),(.k (.bool false))])] []
noncomputable def id6:MS:=.asg 4 (.sl (.loc 109) (.k (.int 6)) (.k .none))
noncomputable def id7:MS:=.asg 71 (.ite (.cmp .inn (.sl (.loc 4) (.k .none) (.k (.int 1))) (.glob gQuotes)) (.lst [(.loc 110)] (.per 50)) (.lst [] (.per 50)))
noncomputable def id8:MS:=.asg 4 (.call 49 [(.loc 4)])
noncomputable def id9:MS:=.iff (.and (.cmp .ne (.loc 4) (.k (.str []))) (.cmp .nin (.sub (.loc 4) (.k (.int 0))) (.glob gQuotes))) [.ret (.tup [(.lst [(.loc 110)] .frz),(.k .none),(.k .none),(.k (.bool false))])] []
noncomputable def id10:MS:=.asg 113 (.k .none)
noncomputable def id11:MS:=.iff (.cmp .eq (.loc 111) (.k (.str [112,117,98,108,105,99]))) [.iff (.cmp .eq (.loc 4) (.k (.str []))) [.ret (.tup [(.ite (.loc 107) (.lst [(.call 28 [(.k (.str [117,110,101,120,112,101,99,116,101,100,45,101,110,100,45,111,102,45,100,111,99,116,121,112,101]))])] .frz) (.loc 108)),(.k .none),(.k .none),(.k (.bool false))])] [],.asgT [114,113,4] (.call 50 [(.loc 4),(.loc 107)]),.augN 71 .add (.loc 114),.iff (.cmp .is (.loc 4) (.k .none)) [.ret (.tup [(.loc 71),(.loc 113),(.k .none),(.k (.bool false))])] [],.asg 115 (.call 49 [(.loc 4)]),.iff (.cmp .eq (.loc 115) (.k (.str []))) [.ret (.tup [(.bop .add (.loc 71) (.loc 108)),(.loc 113),(.k .none),(.loc 107)])] [],.iff (.cmp .nin (.sub (.loc 115) (.k (.int 0))) (.glob gQuotes)) [.ret (.tup [(.bop .add (.loc 71) (.lst [(.loc 110)] .frz)),(.loc 113),(.k .none),(.k (.bool false))])] [],.iff (.cmp .eq (.loc 115) (.loc 4)) [.ex (.app (.loc 71) (.loc 110))] [],.asg 4 (.loc 115)] [.iff (.cmp .eq (.loc 4) (.k (.str []))) [.ret (.tup [(.ite (.loc 107) (.lst [(.loc 110)] .frz) (.loc 108)),(.k .none),(.k .none),(.k (.bool false))])] []]
noncomputable def id12:MS:=.asgT [114,116,4] (.call 50 [(.loc 4),(.loc 107)])
noncomputable def id13:MS:=.augN 71 .add (.loc 114)
noncomputable def id14:MS:=.iff (.cmp .is (.loc 4) (.k .none)) [.ret (.tup [(.loc 71),(.loc 113),(.loc 116),(.k (.bool false))])] []
noncomputable def id15:MS:=.iff (.cmp .eq (.call 49 [(.loc 4)]) (.k (.str []))) [.ret (.tup [(.bop .add (.loc 71) (.loc 108)),(.loc 113),(.loc 116),(.loc 107)])] []
noncomputable def id16:MS:=.ret (.tup [(.bop .add (.loc 71) (.lst [(.loc 110)] .frz)),(.loc 113),(.loc 116),(.k (.bool true))])
theorem ids_is:m_law_ids.body=[id0,id1,id2,id3,id4,id5,id6,id7,id8,id9,id10,id11,id12,id13,id14,id15,id16]:=rfl
section
variable {C:Ora} {s r:List MS} {σ σ':St} {t e:ME} {b o:List MS} {v:Mine.V} {st:MS}
theorem exs_seq (h:exc C st σ=some (.next,σ')):exs C (st :: r) σ=exs C r σ':=by
  show bn (exc C st σ) _=_
  rw [h]; rfl
theorem exs_app:∀ {s:List MS} {σ:St},exs C (s ++ r) σ=bn (exs C s σ) fun f σ₁=>seqK f (exs C r σ₁) σ₁
  | [],_=>rfl
  | s :: l,σ=>by
    show bn (exc C s σ) _=bn (bn (exc C s σ) _) _
    cases exc C s σ with
    | none=>rfl
    | some p =>
      obtain ⟨f,σ₁⟩:=p
      cases f <;> first | exact exs_app | rfl
theorem exs_if_t (h:tst C t σ=some (true,σ')):exs C (.iff t b o :: r) σ=exs C (b ++ r) σ':=by
  show bn (bn (tst C t σ) _) _=_
  rw [h,exs_app]; rfl
theorem exs_if_f (h:tst C t σ=some (false,σ')):exs C (.iff t b o :: r) σ=exs C (o ++ r) σ':=by
  show bn (bn (tst C t σ) _) _=_
  rw [h,exs_app]; rfl
end
noncomputable def Kn (L E:List (Nat × Mine.V)):Prop:=∀ n v,look E n=some v→look L n=some v
section
variable {L E:List (Nat × Mine.V)}
theorem Kn.get (k:Kn L E) (n:Nat) {v:Mine.V} (e:look E n=some v):look L n=some v:=k n v e
theorem Kn.put (k:Kn L E) (n:Nat) (v:Mine.V):Kn (put L n v) (put E n v):=fun m w h=>by
  rw [look_put] at h ⊢
  by_cases e:n=m
  · rw [if_pos e] at h ⊢; exact h
  · rw [if_neg e] at h ⊢; exact k m w h
noncomputable def Kn.lc (_:Kn L E):List (Nat × Mine.V):=L
theorem Kn.nil:Kn L []:=fun _ _ h=>nn h
theorem Kn.cons {n:Nat} {v:Mine.V} (h:look L n=some v) (k:Kn L E):Kn L ((n,v) :: E):=fun m w e=>by
  unfold look at e
  by_cases q:n=m
  · subst q; rw [if_pos rfl] at e; cases e; exact h
  · rw [if_neg q] at e; exact k m w e
end
theorem pr_nil {l:List Mine.V} {x:Option (List Nat) × Option (List Nat) × Bool}:pr l ([],x)=(l,x):=congrArg (·,x) (List.append_nil l)
noncomputable def rv (r:RI):Mine.V:=.tup [.list r.1,pV r.2.1,pV r.2.2.1,.bool r.2.2.2]
theorem sb_pV {i:Id} {w:Mine.V}:∀ o:Option (List Nat),V.sb i w (pV o)=pV o
  | none=>rfl
  | some _=>rfl
theorem rv_sb {i:Id} {w:Mine.V} {r:RI} (h:V.nos i r.1=true):V.sb i w (rv r)=rv r:=by
  show Mine.V.tup [.list (V.sbs i w r.1),V.sb i w (pV r.2.1),V.sb i w (pV r.2.2.1),.bool r.2.2.2]=_
  rw [V.sbs_no _ h,sb_pV,sb_pV]; rfl
theorem rvo_sb {k:Nat} {l:List Mine.V} {p s:Option (List Nat)} {b:Bool}:V.sb (.p k) (.list l) (.tup [.obj (.p k),pV p,pV s,.bool b])=rv (l,p,s,b):=by
  show Mine.V.tup [if Id.p k=.p k then .list l else .obj (.p k),V.sb _ _ (pV p),V.sb _ _ (pV s),.bool b]=_
  rw [if_pos rfl,sb_pV,sb_pV]; rfl
noncomputable def Idr (x:Option (FL × St)) (k:Nat) (H:List (Id × Ob)) (nx:Nat) (P:List Nat) (r:RI):Prop:=∃ L v fs,x=some (.ret v,⟨L,(.p k,.list fs) :: H,nx,k :: P⟩)∧V.nos (.p k) fs=true∧V.sb (.p k) (.list fs) v=rv r
theorem nos_nul {i:Id}:∀ b:List Nat,V.nos i (nul b)=true
  | []=>rfl
  | a :: b=>by
    unfold nul
    exact ite_i (fun l=>V.nos i l=true) (fun _=>nos_nul b) fun _=>nos_nul b
theorem nos_app {i:Id} {l l':List Mine.V} (h:V.nos i l=true) (h':V.nos i l'=true):V.nos i (l ++ l')=true:=by rw [V.nos_append,h,h']; rfl
theorem nos_lost {i:Id}:∀ z:Bool,V.nos i (lost z)=true
  | true=>rfl
  | false=>rfl
section
variable {n:Nat} {L E:List (Nat × Mine.V)} {H:List (Id × Ob)} {nx:Nat} {P:List Nat} {w b c r key ks:List Nat} {i:Nat} {a k q f:Nat} {z:Bool} {p:Option (List Nat)} {fs:List Mine.V}
theorem lower_sp (h:∀ a ∈ b,a < 128) (hs:b.length≤1000):smV σ0 .lower b []=some (.str (b.map lowC)):=by
  show gd (b.all (Nat.blt · 128) && Nat.ble b.length 5592405) _=_
  rw [(List.all_eq_true.mpr fun a ha=>(Nat.ble_eq_true_of_le (h a ha):Nat.ble (a + 1) 128=true):(b.all fun x=>x.blt 128)=true),ble (Nat.le_trans hs (by decide))]; rfl
noncomputable def fitN:List Nat→List Nat→Nat
  | [],_=>0
  | _ :: _,[]=>0
  | k :: ks,a :: w=>if lowC a=k then fitN ks w + 1 else 0
noncomputable def idM (w:List Nat) (z:Bool) (key:List Nat) (i:Nat):List (Nat × Mine.V):=[(109,.str w),(107,.bool z),(110,tErr nOdd),(108,.list (lost z)),(111,.str key),(112,.int i)]
noncomputable def ftT:ME:=.and (.cmp .lt (.loc 112) (.k (.int 6))) (.cmp .eq (.sm .lower (.sl (.loc 109) (.loc 112) (.bop .add (.loc 112) (.k (.int 1)))) []) (.sub (.loc 111) (.loc 112)))
noncomputable def ftB:List MS:=[.augN 112 .add (.k (.int 1))]
theorem sl_one (hw:w.length≤1000):slV σ0 (.str w) (.int i) (.int (i + 1:Nat))=some (.str ((w.drop i).take 1)):=by
  rw [sl_mid i (i + 1) rfl rfl (hml hw),Nat.add_sub_cancel_left]
theorem fit_loop {C:Ora} (hw:w.length≤1000) (hA:∀ a ∈ w,a < 128) (hk:key.length=6):∀ (ks r:List Nat) (i fuel:Nat),key.drop i=ks→w.drop i=r→i + ks.length=6→ks.length < fuel→whileN (tst C ftT) (exs C ftB) fuel ⟨idM w z key i,H,nx,P⟩=some (.next,⟨idM w z key (i + fitN ks r),H,nx,P⟩)
  | _,_,_,0,_,_,_,hf=>absurd hf (Nat.not_lt_zero _)
  | [],r,i,fu + 1,_,_,h6,_=>by
    cases (h6:i=6)
    exact while_end (by kernel_rfl)
  | k :: ks,r,i,fu + 1,hks,hr,h6,hf=>by
    have h6':i < 6:=h6▸Nat.lt_add_of_pos_right (Nat.succ_pos _)
    have hs:=sl_one (i:=i) hw
    obtain ⟨e1,e2,e3⟩:=drop_cons hks
    have hkk:=sub_nat e1 (hk▸(by decide):key.length≤maxLen)
    rw [hr] at hs
    cases r with
    | nil =>
      have hl:=lower_sp (b:=[]) (fun _ h=>nomatch h) (Nat.zero_le _)
      refine while_end (Ends.tst ?_)
      exact .b 0 (slt h6') (.v 2 (hs) (.v 1 (hkk) (.done 3)))
    | cons a r =>
      obtain ⟨e4,e5,e6⟩:=drop_cons hr
      have hl:=lower_sp (b:=[a]) (fun x h=>by cases List.mem_singleton.mp h; exact hA _ (List.mem_of_getElem? e4)) (by show 1≤1000; decide)
      show whileN _ _ _ _=some (FL.next,⟨idM w z key (i + if lowC a=k then fitN ks r + 1 else 0),H,nx,P⟩)
      by_cases hc:lowC a=k
      · rw [if_pos hc]
        have e:some ([lowC a] == [k])=some true:=congrArg some (beq_iff_eq.mpr (congrArg (fun x=>[x]) hc))
        refine (while_on (σ₁:=⟨idM w z key i,H,nx,P⟩) (σ₂:=⟨idM w z key (i + 1),H,nx,P⟩) (Ends.tst ?_) (by kernel_rfl) (fit_loop hw hA hk ks r (i + 1) fu e2 e5 (by rw [← h6,List.length_cons,Nat.add_right_comm]; rfl) (Nat.lt_of_succ_lt_succ hf))).trans ?_
        · exact .b 0 (slt h6') (.v 2 (hs) (.v 0 (hl) (.v 0 (hkk) (.b 0 (e) (.done 2)))))
        · rw [Nat.add_right_comm]; rfl
      · rw [if_neg hc]
        have e:some ([lowC a] == [k])=some false:=neq hc
        refine while_end (Ends.tst ?_)
        exact .b 0 (slt h6') (.v 2 (hs) (.v 0 (hl) (.v 0 (hkk) (.b 0 (e) (.done 2)))))
theorem tail_sp (hb:b.length≤900) (hq:q ≠ 0) (hf:fs.length≤1100) (hn:V.nos (.p 50) fs=true) (k:Kn L [(107,.bool z),(110,tErr nOdd),(108,.list (lost z)),(4,.str (q :: b)),(71,.obj (.p 50)),(113,pV p)]) :
    Idr (exs (oraN tT (n + 3)) [id12,id13,id14,id15,id16] ⟨L,(.p 50,.list fs) :: H,nx,50 :: P⟩) 50 H nx P (pr fs (sysT p z q b)):=by
  have hqt:=fun L H=>quoted_sp (n:=n) (L:=L) (H:=H) (nx:=nx) (P:=50 :: P) (z:=z) (b:=b) (q:=q) (Nat.le_trans hb (by decide)) hq
  unfold qtV at hqt
  have hnl:=fun l=>nos_app hn (nos_nul (i:=.p 50) l)
  have hu:(nul (qsp q b)).length≤900:=Nat.le_trans (nul_len _) (Nat.le_trans (qsp_le b) hb)
  have hfu:(fs ++ nul (qsp q b)).length≤2000:=by rw [List.length_append]; exact Nat.add_le_add hf hu
  have g1:Nat.ble (fs.length + (nul (qsp q b)).length) maxLen=true:=ble (Nat.le_trans (Nat.add_le_add hf hu) (by decide))
  unfold sysT qT
  by_cases hl:(qsp q b).length < b.length
  · simp only [if_pos hl] at hqt
    rw [if_pos hl]
    generalize hr:b.drop ((qsp q b).length + 1)=rest at hqt ⊢
    have hrl:rest.length≤1000:=hr▸Nat.le_trans (dl_le _ _) (Nat.le_trans hb (by decide))
    have k1:=((k.put 114 (.list (nul (qsp q b)))).put 116 (.str (rp (qsp q b)))).put 4 (.str rest)
    have k2:=k1.put 71 (.obj (.p 50))
    have hbh:=fun L=>behind_sp (n:=n + 2) (L:=L) (H:=(.p 50,.list (fs ++ nul (qsp q b))) :: H) (nx:=nx) (P:=50 :: P) hrl
    show Idr _ _ _ _ _ (pr fs (pr (nul (qsp q b)) (if beh rest=[] then _ else _)))
    by_cases he:beh rest=[]
    · rw [if_pos he]
      simp only [he] at hbh
      have hlz:(lost z).length≤1:=by cases z <;> decide
      have hc:bopV ⟨[],(.p 50,.list (fs ++ nul (qsp q b))) :: H,0,[]⟩ .add (.obj (.p 50)) (.list (lost z))=some (.list (fs ++ nul (qsp q b) ++ lost z)):=by
        show gd (Nat.ble ((fs ++ nul (qsp q b)).length + (lost z).length) maxLen) _=_
        rw [ble (Nat.le_trans (Nat.add_le_add hfu hlz) (by decide))]; rfl
      refine ⟨k2.lc,rv (fs ++ nul (qsp q b) ++ lost z,p,some (rp (qsp q b)),z),fs ++ nul (qsp q b),Ends.exs' ?_,hnl _,(rv_sb (nos_app (hnl _) (nos_lost z))).trans (by rw [List.append_assoc]; rfl)⟩
      exact .v 0 (k.get 4 rfl) (.v 0 (k.get 107 rfl) (.c 0 (hqt L ((.p 50,.list fs) :: H)) (.v 0 (k1.get 71 rfl) (.v 0 (k1.get 114 rfl) (.g 2 (g1) (.v 0 (k2.get 4 rfl) (.v 2 (k2.get 4 rfl) (.c 0 (hbh k2.lc) (.v 2 (k2.get 71 rfl) (.v 0 (k2.get 108 rfl) (.v 0 (hc) (.v 0 (k2.get 113 rfl) (.v 0 (k2.get 116 rfl) (.v 0 (k2.get 107 rfl) (.done 1)))))))))))))))
    · rw [if_neg he]
      have hc:bopV ⟨[],(.p 50,.list (fs ++ nul (qsp q b))) :: H,0,[]⟩ .add (.obj (.p 50)) (.list [tErr nOdd])=some (.list (fs ++ nul (qsp q b) ++ [tErr nOdd])):=by
        show gd (Nat.ble ((fs ++ nul (qsp q b)).length + 1) maxLen) _=_
        rw [ble (Nat.le_trans (Nat.succ_le_succ hfu) (by decide))]; rfl
      refine ⟨k2.lc,rv (fs ++ nul (qsp q b) ++ [tErr nOdd],p,some (rp (qsp q b)),true),fs ++ nul (qsp q b),Ends.exs' ?_,hnl _,(rv_sb (nos_app (hnl _) rfl)).trans (by rw [List.append_assoc]; rfl)⟩
      exact .v 0 (k.get 4 rfl) (.v 0 (k.get 107 rfl) (.c 0 (hqt L ((.p 50,.list fs) :: H)) (.v 0 (k1.get 71 rfl) (.v 0 (k1.get 114 rfl) (.g 2 (g1) (.v 0 (k2.get 4 rfl) (.v 2 (k2.get 4 rfl) (.c 0 (hbh k2.lc) (.b 0 (sbne he) (.v 1 (k2.get 71 rfl) (.v 0 (k2.get 110 rfl) (.v 1 (hc) (.v 0 (k2.get 113 rfl) (.v 0 (k2.get 116 rfl) (.done 1)))))))))))))))
  · simp only [if_neg hl] at hqt
    rw [if_neg hl]
    show Idr _ _ _ _ _ (pr fs (pr _ ([],p,some (rp (qsp q b)),false)))
    rw [pr_nil]
    have k1:=((k.put 114 (.list (nul (qsp q b) ++ [tErr (bif z then nEnd else nEofD)]))).put 116 (.str (rp (qsp q b)))).put 4 .none
    have k2:=k1.put 71 (.obj (.p 50))
    have g1:Nat.ble (fs.length + (nul (qsp q b) ++ [tErr (bif z then nEnd else nEofD)]).length) maxLen=true:=ble (by rw [List.length_append]; exact Nat.le_trans (Nat.add_le_add hf (Nat.succ_le_succ hu)) (by decide))
    refine ⟨k2.lc,.tup [.obj (.p 50),pV p,pV (some (rp (qsp q b))),.bool false],fs ++ (nul (qsp q b) ++ [tErr (bif z then nEnd else nEofD)]),Ends.exs' ?_,nos_app hn (nos_app (nos_nul _) rfl),rvo_sb⟩
    exact .v 0 (k.get 4 rfl) (.v 0 (k.get 107 rfl) (.c 0 (hqt L ((.p 50,.list fs) :: H)) (.v 0 (k1.get 71 rfl) (.v 0 (k1.get 114 rfl) (.g 2 (g1) (.v 0 (k2.get 4 rfl) (.v 2 (k2.get 71 rfl) (.v 0 (k2.get 113 rfl) (.v 0 (k2.get 116 rfl) (.done 1))))))))))
end
end Mine
end
noncomputable section
namespace Mine
noncomputable def pbC:ME:=(.cmp .eq (.loc 111) (.k (.str [112,117,98,108,105,99])))
noncomputable def pb0:MS:=.iff (.cmp .eq (.loc 4) (.k (.str []))) [.ret (.tup [(.ite (.loc 107) (.lst [(.call 28 [(.k (.str [117,110,101,120,112,101,99,116,101,100,45,101,110,100,45,111,102,45,100,111,99,116,121,112,101]))])] .frz) (.loc 108)),(.k .none),(.k .none),(.k (.bool false))])] []
noncomputable def pb1:MS:=.asgT [114,113,4] (.call 50 [(.loc 4),(.loc 107)])
noncomputable def pb2:MS:=.augN 71 .add (.loc 114)
noncomputable def pb3:MS:=.iff (.cmp .is (.loc 4) (.k .none)) [.ret (.tup [(.loc 71),(.loc 113),(.k .none),(.k (.bool false))])] []
noncomputable def pb4:MS:=.asg 115 (.call 49 [(.loc 4)])
noncomputable def pb5:MS:=.iff (.cmp .eq (.loc 115) (.k (.str []))) [.ret (.tup [(.bop .add (.loc 71) (.loc 108)),(.loc 113),(.k .none),(.loc 107)])] []
noncomputable def pb6:MS:=.iff (.cmp .nin (.sub (.loc 115) (.k (.int 0))) (.glob gQuotes)) [.ret (.tup [(.bop .add (.loc 71) (.lst [(.loc 110)] .frz)),(.loc 113),(.k .none),(.k (.bool false))])] []
noncomputable def pb7:MS:=.iff (.cmp .eq (.loc 115) (.loc 4)) [.ex (.app (.loc 71) (.loc 110))] []
noncomputable def pb8:MS:=.asg 4 (.loc 115)
noncomputable def sb0:MS:=.iff (.cmp .eq (.loc 4) (.k (.str []))) [.ret (.tup [(.ite (.loc 107) (.lst [(.loc 110)] .frz) (.loc 108)),(.k .none),(.k .none),(.k (.bool false))])] []
theorem id11_is:id11=.iff pbC [pb0,pb1,pb2,pb3,pb4,pb5,pb6,pb7,pb8] [sb0]:=rfl
section
variable {C:Ora} {n:Nat} {L E:List (Nat × Mine.V)} {H:List (Id × Ob)} {nx:Nat} {P:List Nat} {w b c r key ks x part:List Nat} {i:Nat} {a k q f:Nat} {z:Bool} {p:Option (List Nat)} {fs:List Mine.V} {σ σ':St} {s:List MS} {t:Nat→List Nat→RI}
theorem exs_pre {r:List MS} (h:exs C s σ=some (.next,σ')):exs C (s ++ r) σ=exs C r σ':=by rw [exs_app,h]; rfl
theorem pr_pr {l l':List Mine.V} {r:RI}:pr l (pr l' r)=pr (l ++ l') r:=congrArg (·,r.2) (List.append_assoc l l' r.1).symm
theorem nin_q (h:quo a=true):some (!([[34],[39]].any (· == [a])))=some false:=congrArg (fun q=>some (!q)) (any2.trans h)
theorem nin_n (h:quo a=false):some (!([[34],[39]].any (· == [a])))=some true:=congrArg (fun q=>some (!q)) (any2.trans h)
theorem quo0 (h:quo a=true):a ≠ 0:=by rcases quo_cases h with rfl | rfl <;> decide
theorem hqt_eq {r b:List Nat} (h:beh r=q :: b) (hq:quo q=true):some ((q :: b) == r)=some (hqt r):=by
  cases r with
  | nil=>exact nomatch h
  | cons x r =>
    by_cases hb:blk x=true
    · rw [hqt_blk hb]
      exact sbne fun e=>by cases e; exact Bool.noConfusion ((beh_hd h).symm.trans hb)
    · rw [beh_not (Bool.eq_false_iff.mpr hb)] at h
      cases h
      exact sbeq rfl |>.trans (congrArg some hq.symm)
noncomputable def idL (w:List Nat) (z:Bool) (key part:List Nat):List (Nat × Mine.V):=idM w z key 6 ++ [(4,.str part),(71,.obj (.p 50))]
noncomputable def kPub:List Nat:=[112,117,98,108,105,99]
noncomputable def kSys:List Nat:=[115,121,115,116,101,109]
theorem cat_o {l l':List Mine.V} (h:l.length + l'.length≤3000):bopV ⟨[],(.p 50,.list l) :: H,0,[]⟩ .add (.obj (.p 50)) (.list l')=some (.list (l ++ l')):=by
  show gd (Nat.ble (l.length + l'.length) maxLen) _=_
  rw [ble (Nat.le_trans h (by decide))]; rfl
theorem gL {l:List Mine.V} {k:Nat} (h:l.length≤k) (hk:k≤maxLen):Nat.ble l.length maxLen=true:=ble (Nat.le_trans h hk)
theorem lost_len:(lost z).length≤1:=by cases z <;> decide
theorem pub_sp (hb:b.length≤900) (hq:quo q=true) (hf:fs.length≤1) (hn:V.nos (.p 50) fs=true) :
    Idr (exs (oraN tT (n + 3)) [id10,id11,id12,id13,id14,id15,id16] ⟨idL w z kPub (q :: b),(.p 50,.list fs) :: H,nx,50 :: P⟩) 50 H nx P (pr fs (pubT z q b)):=by
  have hQ:=fun L H=>quoted_sp (n:=n) (L:=L) (H:=H) (nx:=nx) (P:=50 :: P) (z:=z) (b:=b) (q:=q) (Nat.le_trans hb (by decide)) (quo0 hq)
  unfold qtV at hQ
  have hQ:=hQ (idL w z kPub (q :: b) ++ [(113,.none)]) ((.p 50,.list fs) :: H)
  have hnl:=nos_app hn (nos_nul (i:=.p 50) (qsp q b))
  have hu:(nul (qsp q b)).length≤900:=Nat.le_trans (nul_len _) (Nat.le_trans (qsp_le b) hb)
  have hfu:(fs ++ nul (qsp q b)).length≤901:=by rw [List.length_append,Nat.add_comm]; exact Nat.add_le_add hu hf
  have g1:Nat.ble (fs.length + (nul (qsp q b)).length) maxLen=true:=ble (Nat.le_trans (Nat.add_le_add hf hu) (by decide))
  rw [exs_seq (by kernel_rfl:exc (oraN tT (n + 3)) id10 ⟨idL w z kPub (q :: b),(.p 50,.list fs) :: H,nx,50 :: P⟩=some (.next,⟨idL w z kPub (q :: b) ++ [(113,.none)],(.p 50,.list fs) :: H,nx,50 :: P⟩)),id11_is,exs_if_t (by kernel_rfl:tst (oraN tT (n + 3)) pbC ⟨idL w z kPub (q :: b) ++ [(113,.none)],(.p 50,.list fs) :: H,nx,50 :: P⟩=some (true,⟨idL w z kPub (q :: b) ++ [(113,.none)],(.p 50,.list fs) :: H,nx,50 :: P⟩))]
  unfold pubT qT
  by_cases hl:(qsp q b).length < b.length
  · rw [if_pos hl] at hQ ⊢
    rw [pr_pr]
    generalize hr:b.drop ((qsp q b).length + 1)=rest at hQ ⊢
    have hrl:rest.length≤900:=hr▸Nat.le_trans (dl_le _ _) hb
    have hbh:=behind_sp (n:=n + 2) (L:=idL w z kPub rest ++ [(113,.str (rp (qsp q b))),(114,.list (nul (qsp q b)))]) (H:=(.p 50,.list (fs ++ nul (qsp q b))) :: H) (nx:=nx) (P:=50 :: P) (Nat.le_trans hrl (by decide))
    cases he:beh rest with
    | nil =>
      rw [he] at hbh
      have hc:=cat_o (H:=H) (l:=fs ++ nul (qsp q b)) (l':=lost z) (Nat.le_trans (Nat.add_le_add hfu lost_len) (by decide))
      refine ⟨idL w z kPub rest ++ [(113,.str (rp (qsp q b))),(114,.list (nul (qsp q b))),(115,.str [])],rv (fs ++ nul (qsp q b) ++ lost z,some (rp (qsp q b)),none,z),fs ++ nul (qsp q b),Ends.exs ?_,hnl,(rv_sb (nos_app hnl (nos_lost z))).trans (by rw [midT_nil he]; rfl)⟩
      exact .c 2 (hQ) (.g 2 (g1) (.c 2 (hbh) (.v 2 (hc) (.done 1))))
    | cons q' b' =>
      rw [he] at hbh
      have hl2:(q' :: b').length≤rest.length:=he▸beh_len rest
      have hl':b'.length≤900:=Nat.le_of_succ_le (Nat.le_trans hl2 hrl)
      rw [midT_cons he]
      have h0:subV σ0 (.str (q' :: b')) (.int 0)=some (.str [q']):=sub_nat (a:=0) rfl (hml (Nat.le_trans (Nat.le_trans hl2 hrl) (by decide)))
      by_cases hq':quo q'=true
      · rw [if_pos hq',pr_pr]
        have heq:=hqt_eq he hq'
        have hpre:exs (oraN tT (n + 3)) [pb0,pb1,pb2,pb3,pb4,pb5,pb6,pb7,pb8] ⟨idL w z kPub (q :: b) ++ [(113,.none)],(.p 50,.list fs) :: H,nx,50 :: P⟩=some (.next,⟨idL w z kPub (q' :: b') ++ [(113,.str (rp (qsp q b))),(114,.list (nul (qsp q b))),(115,.str (q' :: b'))],(.p 50,.list (fs ++ nul (qsp q b) ++ bif hqt rest then [tErr nOdd] else [])) :: H,nx,50 :: P⟩):=by
          refine Ends.exs ?_
          refine .c 2 (hQ) (.g 2 (g1) (.c 2 (hbh) (.v 2 (h0) (.b 0 (nin_q hq') (?_)))))
          cases hh:hqt rest with
          | true =>
            rw [hh] at heq
            exact .b 1 (heq) (.g 3 (gL hfu (by decide)) (.done 2))
          | false =>
            rw [hh] at heq
            show Ends _ _ (FL.next,(⟨_,(.p 50,.list (fs ++ nul (qsp q b) ++ [])) :: H,nx,50 :: P⟩:St))
            rw [List.append_nil]
            exact .b 1 (heq) (.done 2)
        rw [exs_pre hpre]
        refine tail_sp hl' (quo0 hq') ?_ (nos_app hnl (by cases hqt rest <;> rfl)) (.cons rfl (.cons rfl (.cons rfl (.cons rfl (.cons rfl (.cons rfl .nil))))))
        rw [List.length_append]
        exact Nat.le_trans (Nat.add_le_add hfu (by cases hqt rest <;> decide:_≤1)) (by decide)
      · rw [if_neg hq']
        have hc:=cat_o (H:=H) (l:=fs ++ nul (qsp q b)) (l':=[tErr nOdd]) (Nat.le_trans (Nat.succ_le_succ hfu) (by decide))
        refine ⟨idL w z kPub rest ++ [(113,.str (rp (qsp q b))),(114,.list (nul (qsp q b))),(115,.str (q' :: b'))],rv (fs ++ nul (qsp q b) ++ [tErr nOdd],some (rp (qsp q b)),none,false),fs ++ nul (qsp q b),Ends.exs ?_,hnl,rv_sb (nos_app hnl rfl)⟩
        exact .c 2 (hQ) (.g 2 (g1) (.c 2 (hbh) (.v 2 (h0) (.b 0 (nin_n (Bool.eq_false_iff.mpr hq')) (.v 2 (hc) (.done 1))))))
  · rw [if_neg hl] at hQ ⊢
    rw [pr_nil]
    have g1:Nat.ble (fs.length + (nul (qsp q b) ++ [tErr (bif z then nEnd else nEofD)]).length) maxLen=true:=ble (by rw [List.length_append]; exact Nat.le_trans (Nat.add_le_add hf (Nat.succ_le_succ hu)) (by decide))
    refine ⟨idM w z kPub 6 ++ [(4,.none),(71,.obj (.p 50)),(113,.str (rp (qsp q b))),(114,.list (nul (qsp q b) ++ [tErr (bif z then nEnd else nEofD)]))],.tup [.obj (.p 50),pV (some (rp (qsp q b))),pV none,.bool false],fs ++ (nul (qsp q b) ++ [tErr (bif z then nEnd else nEofD)]),Ends.exs ?_,nos_app hn (nos_app (nos_nul _) rfl),rvo_sb⟩
    exact .c 2 (hQ) (.g 2 (g1) (.done 3))
end
end Mine
end
noncomputable section
namespace Mine
structure Cln (k:Nat) (L:List (Nat × Mine.V)) (H:List (Id × Ob)) (P:List Nat):Prop where
  l:∀ w,fsSb (.p k) w L=L
  h:∀ w,hpSb (.p k) w H=H
  o:look H (.p k)=none
  p:k ∉ P
section
variable {C:Ora} {n:Nat} {L E:List (Nat × Mine.V)} {H:List (Id × Ob)} {nx:Nat} {P:List Nat} {w b c r key ks x part:List Nat} {i:Nat} {a k q f y:Nat} {z:Bool} {p:Option (List Nat)} {fs vs as:List Mine.V} {σ σ':St} {s:List MS} {t:Nat→List Nat→RI} {es:List (Nat × Nat)} {v:Mine.V} {m:MFun}
theorem sys_sp (hb:b.length≤900) (hq:quo q=true) (hf:fs.length≤1) (hn:V.nos (.p 50) fs=true) :
    Idr (exs (oraN tT (n + 3)) [id10,id11,id12,id13,id14,id15,id16] ⟨idL w z kSys (q :: b),(.p 50,.list fs) :: H,nx,50 :: P⟩) 50 H nx P (pr fs (sysT none z q b)):=by
  rw [show exs (oraN tT (n + 3)) [id10,id11,id12,id13,id14,id15,id16] ⟨idL w z kSys (q :: b),(.p 50,.list fs) :: H,nx,50 :: P⟩=exs (oraN tT (n + 3)) [id12,id13,id14,id15,id16] ⟨idL w z kSys (q :: b) ++ [(113,.none)],(.p 50,.list fs) :: H,nx,50 :: P⟩ from exs_pre (s:=[id10,id11]) (by kernel_rfl)]
  exact tail_sp hb (quo0 hq) (Nat.le_trans hf (by decide)) hn (.cons rfl (.cons rfl (.cons rfl (.cons rfl (.cons rfl (.cons rfl .nil))))))
theorem pub_nil (hn:V.nos (.p 50) fs=true):Idr (exs (oraN tT (n + 3)) [id10,id11,id12,id13,id14,id15,id16] ⟨idL w z kPub [],(.p 50,.list fs) :: H,nx,50 :: P⟩) 50 H nx P ([tErr (bif z then nEnd else nEofD)],none,none,false):=by
  refine ⟨idL w z kPub [] ++ [(113,.none)],rv ([tErr (bif z then nEnd else nEofD)],none,none,false),fs,?_,hn,rfl⟩
  cases z <;> kernel_rfl
theorem sys_nil (hn:V.nos (.p 50) fs=true):Idr (exs (oraN tT (n + 3)) [id10,id11,id12,id13,id14,id15,id16] ⟨idL w z kSys [],(.p 50,.list fs) :: H,nx,50 :: P⟩) 50 H nx P ([tErr (bif z then nOdd else nEofD)],none,none,false):=by
  refine ⟨idL w z kSys [] ++ [(113,.none)],rv ([tErr (bif z then nOdd else nEofD)],none,none,false),fs,?_,hn,rfl⟩
  cases z <;> kernel_rfl
theorem in_hqt:some ([[34],[39]].any (· == part.take 1))=some (hqt part):=by
  cases part with
  | nil=>rfl
  | cons a w=>exact congrArg some any2
theorem alloc_per {o:Ob} (h:k ∉ P):(⟨L,H,nx,P⟩:St).alloc (.per k) o=some (.obj (.p k),⟨L,(.p k,o) :: H,nx,k :: P⟩):=if_neg h
theorem kT_sp (hP:50 ∉ P) (hw:w.length≤900) (hpart:w.drop 6=part)
    (hN:∀ {fs},V.nos (.p 50) fs=true→Idr (exs (oraN tT (n + 3)) [id10,id11,id12,id13,id14,id15,id16] ⟨idL w z key [],(.p 50,.list fs) :: H,nx,50 :: P⟩) 50 H nx P ([tErr (bif z then x else nEofD)],none,none,false))
    (hQ:∀ {fs q b},b.length≤900→quo q=true→fs.length≤1→V.nos (.p 50) fs=true→Idr (exs (oraN tT (n + 3)) [id10,id11,id12,id13,id14,id15,id16] ⟨idL w z key (q :: b),(.p 50,.list fs) :: H,nx,50 :: P⟩) 50 H nx P (pr fs (t q b))) :
    Idr (exs (oraN tT (n + 3)) [id6,id7,id8,id9,id10,id11,id12,id13,id14,id15,id16] ⟨idM w z key 6,H,nx,P⟩) 50 H nx P (kT t x z part):=by
  have hp:part.length≤900:=hpart▸Nat.le_trans (dl_le _ _) hw
  have hp1:part.length≤1000:=Nat.le_trans hp (by decide)
  have s1:=sl_from (s:=w) (i:=6) 6 rfl (hml (Nat.le_trans hw (by decide)))
  rw [hpart] at s1
  have s2:=sl_to' (s:=part) (j:=1) 1 rfl (hml hp1)
  have hi:=in_hqt (part:=part)
  have hbh:=fun o=>behind_sp (n:=n + 2) (b:=part) (L:=idL w z key part) (H:=(.p 50,o) :: H) (nx:=nx) (P:=50 :: P) hp1
  have hpre:exs (oraN tT (n + 3)) [id6,id7,id8] ⟨idM w z key 6,H,nx,P⟩=some (.next,⟨idL w z key (beh part),(.p 50,.list (bif hqt part then [tErr nOdd] else [])) :: H,nx,50 :: P⟩):=by
    refine Ends.exs ?_
    cases hh:hqt part <;> rw [hh] at hi
    · exact .v 0 (s1) (.v 0 (s2) (.b 0 (hi) (.c 1 (alloc_per (L:=idM w z key 6 ++ [(4,.str part)]) (H:=H) (nx:=nx) (o:=.list []) hP) (.c 0 (hbh (.list [])) (.done 1)))))
    · exact .v 0 (s1) (.v 0 (s2) (.b 0 (hi) (.c 1 (alloc_per (L:=idM w z key 6 ++ [(4,.str part)]) (H:=H) (nx:=nx) (o:=.list [tErr nOdd]) hP) (.c 0 (hbh (.list [tErr nOdd])) (.done 1)))))
  rw [show [id6,id7,id8,id9,id10,id11,id12,id13,id14,id15,id16]=[id6,id7,id8] ++ [id9,id10,id11,id12,id13,id14,id15,id16] from rfl,exs_pre hpre]
  have hn:V.nos (.p 50) (bif hqt part then [tErr nOdd] else [])=true:=by cases hqt part <;> rfl
  have hl:(bif hqt part then [tErr nOdd] else []).length≤1:=by cases hqt part <;> exact Nat.le_of_ble_eq_true rfl
  cases he:beh part with
  | nil =>
    rw [kT_nil he]
    exact hN hn
  | cons q b =>
    have hl2:(q :: b).length≤part.length:=he▸beh_len part
    have h0:subV σ0 (.str (q :: b)) (.int 0)=some (.str [q]):=sub_nat (a:=0) rfl (hml (Nat.le_trans hl2 hp1))
    rw [kT_cons he]
    by_cases hq:quo q=true
    · rw [if_pos hq]
      have hpre:exs (oraN tT (n + 3)) [id9] ⟨idL w z key (q :: b),(.p 50,.list (bif hqt part then [tErr nOdd] else [])) :: H,nx,50 :: P⟩=some (.next,⟨idL w z key (q :: b),(.p 50,.list (bif hqt part then [tErr nOdd] else [])) :: H,nx,50 :: P⟩):=by
        refine Ends.exs ?_
        exact .v 2 (h0) (.b 0 (nin_q hq) (.done 2))
      rw [show [id9,id10,id11,id12,id13,id14,id15,id16]=[id9] ++ [id10,id11,id12,id13,id14,id15,id16] from rfl,exs_pre hpre]
      exact hQ (Nat.le_of_succ_le (Nat.le_trans hl2 hp)) hq hl hn
    · rw [if_neg hq]
      refine ⟨idL w z key (q :: b),rv ([tErr nOdd],none,none,false),_,Ends.exs ?_,hn,rfl⟩
      exact .v 2 (h0) (.b 0 (nin_n (Bool.eq_false_iff.mpr hq)) (.done 3))
theorem lowC_iff (h1:y + 32=q) (h2:65≤y) (h3:y≤90):lowC a=q ↔ a=q∨a=y:=by
  unfold lowC
  by_cases c:65≤a∧a≤90
  · rw [if_pos c]
    exact ⟨fun e=>.inr (Nat.add_right_cancel (e.trans h1.symm)),fun e=>e.elim (fun e=>absurd (Nat.le_trans (h1▸Nat.add_le_add_right h2 32:97≤q) (e▸c.2)) (by decide)) fun e=>e▸h1⟩
  · rw [if_neg c]
    exact ⟨.inl,fun e=>e.elim id fun e=>absurd ⟨e▸h2,e▸h3⟩ c⟩
theorem fit_kwk:∀ {es:List (Nat × Nat)} {w:List Nat},(∀ e ∈ es,e.2 + 32=e.1∧65≤e.2∧e.2≤90)→(kwk es w=none→fitN (es.map (·.1)) w=es.length)∧∀ j,kwk es w=some j→fitN (es.map (·.1)) w=j∧j < es.length
  | [],w,_=>⟨fun _=>rfl,fun _ h=>nomatch h⟩
  | e :: es,[],_=>⟨fun h=>(nomatch h),fun j h=>by cases h; exact ⟨rfl,Nat.succ_pos _⟩⟩
  | e :: es,a :: w,h=>by
    obtain ⟨h1,h2⟩:=fit_kwk (es:=es) (w:=w) fun x hx=>h x (.tail _ hx)
    have hi:=h e (.head _)
    have hi:=lowC_iff (a:=a) hi.1 hi.2.1 hi.2.2
    show (kwk (e :: es) (a :: w)=none→(if lowC a=e.1 then _ else _)=_)∧∀ j,kwk (e :: es) (a :: w)=some j→(if lowC a=e.1 then _ else _)=_∧_
    by_cases hc:a=e.1∨a=e.2
    · rw [show kwk (e :: es) (a :: w)=(kwk es w).map (· + 1) from if_pos hc,if_pos (hi.mpr hc)]
      cases e:kwk es w with
      | none=>exact ⟨fun _=>congrArg (· + 1) (h1 e),fun _ h=>nomatch h⟩
      | some j=>exact ⟨fun h=>(nomatch h),fun _ h=>by cases h; exact ⟨congrArg (· + 1) (h2 j e).1,Nat.succ_lt_succ (h2 j e).2⟩⟩
    · rw [show kwk (e :: es) (a :: w)=some 0 from if_neg hc,if_neg fun q=>hc (hi.mp q)]
      exact ⟨fun h=>(nomatch h),fun j h=>by cases h; exact ⟨rfl,Nat.succ_pos _⟩⟩
noncomputable def Ide (x:Option (FL × St)) (H:List (Id × Ob)) (nx:Nat) (P:List Nat) (r:RI):Prop:=(∃ L,x=some (.ret (rv r),⟨L,H,nx,P⟩))∨Idr x 50 H nx P r
theorem ids_cut {s:List MS} (hf:f < 6) (hw:w.length≤900):Ide (exs (oraN tT (n + 3)) (id5 :: s) ⟨idM w z key f,H,nx,P⟩) H nx P ([tErrD nSpB (sgn w[f]? z)],none,none,false):=by
  have hm:=hml (Nat.le_trans hw (by decide):w.length≤1000)
  refine .inl ⟨idM w z key f ++ [(68,sgn w[f]? z)],Ends.exs ?_⟩
  cases e:w[f]? with
  | some y =>
    have hlt:=(List.getElem?_eq_some_iff.mp e).1
    exact .b 0 (slt hf) (.v 1 (len_all hm) (.b 0 (slt hlt) (.v 1 (sub_nat e hm) (.done 7))))
  | none =>
    have hlt:=Nat.not_lt.mpr (List.getElem?_eq_none_iff.mp e)
    cases z
    · exact .b 0 (slt hf) (.v 1 (len_all hm) (.b 0 (snlt hlt) (.done 9)))
    · exact .b 0 (slt hf) (.v 1 (len_all hm) (.b 0 (snlt hlt) (.done 9)))
theorem ids_pre (hw:(a :: w).length≤900) (hA:∀ x ∈ a :: w,x < 128) (hk:(bif Nat.beq a 112 || Nat.beq a 80 then kPub else kSys)=key):exs (oraN tT (n + 3)) m_law_ids.body ⟨[(109,.str (a :: w)),(107,.bool z)],H,nx,P⟩ =
    exs (oraN tT (n + 3)) [id5,id6,id7,id8,id9,id10,id11,id12,id13,id14,id15,id16] ⟨idM (a :: w) z key (fitN key (a :: w)),H,nx,P⟩:=by
  have hw1:(a :: w).length≤1000:=Nat.le_trans hw (by decide)
  have h0:subV σ0 (.str (a :: w)) (.int 0)=some (.str [a]):=sub_nat (a:=0) rfl (hml hw1)
  have h6:key.length=6:=by rw [← hk]; cases (Nat.beq a 112 || Nat.beq a 80) <;> rfl
  have hl:=fit_loop (C:=oraN tT (n + 3)) (z:=z) (H:=H) (nx:=nx) (P:=P) hw1 hA h6 key (a :: w) 0 bigN rfl rfl (by rw [h6]) (by rw [h6]; decide)
  rw [Nat.zero_add] at hl
  have hi:some ([[112],[80]].any (· == [a]))=some (Nat.beq a 112 || Nat.beq a 80):=congrArg some any2
  have hpre:exs (oraN tT (n + 3)) [id0,id1,id2,id3,id4] ⟨[(109,.str (a :: w)),(107,.bool z)],H,nx,P⟩=some (.next,⟨idM (a :: w) z key (fitN key (a :: w)),H,nx,P⟩):=by
    rw [show exs (oraN tT (n + 3)) [id0,id1,id2,id3,id4] ⟨[(109,.str (a :: w)),(107,.bool z)],H,nx,P⟩=exs (oraN tT (n + 3)) [id2,id3,id4] ⟨[(109,.str (a :: w)),(107,.bool z),(110,tErr nOdd),(108,.list (lost z))],H,nx,P⟩ from exs_pre (s:=[id0,id1]) (by cases z <;> kernel_rfl)]
    refine Ends.exs ?_
    cases hb:(Nat.beq a 112 || Nat.beq a 80) with
    | true =>
      rw [hb] at hk hi
      cases hk
      exact .v 0 (h0) (.b 0 (hi) (.fl 1 (hl) (.done 1)))
    | false =>
      rw [hb] at hk hi
      cases hk
      exact .v 0 (h0) (.b 0 (hi) (.fl 1 (hl) (.done 1)))
  rw [ids_is]
  exact exs_pre (s:=[id0,id1,id2,id3,id4]) hpre
theorem Ide.kw (hP:50 ∉ P) (hw:(a :: w).length≤900) (hl:es.length=5) (hes:∀ e ∈ es,e.2 + 32=e.1∧65≤e.2∧e.2≤90) (he:fitN key (a :: w)=fitN (es.map (·.1)) w + 1)
    (hT:Idr (exs (oraN tT (n + 3)) [id6,id7,id8,id9,id10,id11,id12,id13,id14,id15,id16] ⟨idM (a :: w) z key 6,H,nx,P⟩) 50 H nx P (kT t x z (w.drop 5))) :
    Ide (exs (oraN tT (n + 3)) [id5,id6,id7,id8,id9,id10,id11,id12,id13,id14,id15,id16] ⟨idM (a :: w) z key (fitN key (a :: w)),H,nx,P⟩) H nx P (kwT es (kT t x z) w z):=by
  obtain ⟨h1,h2⟩:=fit_kwk (w:=w) hes
  rw [he]
  unfold kwT
  cases e:kwk es w with
  | none =>
    rw [h1 e,hl]
    refine .inr ?_
    rw [show exs (oraN tT (n + 3)) [id5,id6,id7,id8,id9,id10,id11,id12,id13,id14,id15,id16] ⟨idM (a :: w) z key (5 + 1),H,nx,P⟩=exs (oraN tT (n + 3)) [id6,id7,id8,id9,id10,id11,id12,id13,id14,id15,id16] ⟨idM (a :: w) z key 6,H,nx,P⟩ from exs_pre (s:=[id5]) (by kernel_rfl)]
    exact hT
  | some j =>
    obtain ⟨h3,h4⟩:=h2 j e
    rw [h3]
    exact ids_cut (f:=j + 1) (Nat.succ_lt_succ (Nat.lt_of_lt_of_eq h4 hl)) hw
theorem ids_ide (hP:50 ∉ P) (hw:(a :: w).length≤900) (hA:∀ x ∈ a :: w,x < 128):Ide (exs (oraN tT (n + 3)) m_law_ids.body ⟨[(109,.str (a :: w)),(107,.bool z)],H,nx,P⟩) H nx P (idsT z (a :: w)):=by
  rw [ids_pre hw hA rfl,idsT_cons]
  by_cases hp:a=112∨a=80
  · rw [if_pos hp,show (bif Nat.beq a 112 || Nat.beq a 80 then kPub else kSys)=kPub by rcases hp with rfl | rfl <;> rfl]
    exact .kw hP hw rfl (by decide) (if_pos ((lowC_iff (q:=112) rfl (by decide) (by decide)).mpr hp)) (kT_sp hP hw rfl pub_nil pub_sp)
  · rw [if_neg hp,show (bif Nat.beq a 112 || Nat.beq a 80 then kPub else kSys)=kSys by rw [beq_no fun e=>hp (.inl e),beq_no fun e=>hp (.inr e)]; rfl]
    by_cases hs:a=115∨a=83
    · rw [if_pos hs]
      exact .kw hP hw rfl (by decide) (if_pos ((lowC_iff (q:=115) rfl (by decide) (by decide)).mpr hs)) (kT_sp hP hw rfl sys_nil sys_sp)
    · rw [if_neg hs,show fitN kSys (a :: w)=0 from if_neg fun q=>hs ((lowC_iff (q:=115) rfl (by decide) (by decide)).mp q)]
      exact ids_cut (f:=0) (by decide) hw
theorem frz_p (h:Cln k L H P) (hn:V.nos (.p k) fs=true):frzK k v ⟨L,(.p k,.list fs) :: H,nx,k :: P⟩=some (V.sb (.p k) (.list fs) v,⟨L,H,nx,P⟩):=by
  have e:look ((Id.p k,Ob.list fs) :: H) (.p k)=some (.list fs):=if_pos rfl
  unfold frzK
  rw [show look (⟨L,(.p k,.list fs) :: H,nx,k :: P⟩:St).hp (.p k)=some (.list fs) from e]
  show gd (V.nos (.p k) fs) (some (_,(⟨fsSb (.p k) (.list fs) L,if Id.p k=.p k then hpSb (.p k) (.list fs) H else _,nx,(k :: P).filter (· ≠ k)⟩:St)))=_
  rw [hn,if_pos rfl,h.l,h.h,show (k :: P).filter (· ≠ k)=P.filter (· ≠ k) from List.filter_cons_of_neg (by simp),List.filter_eq_self.mpr fun x hx=>(decide_eq_true (p:=x ≠ k) fun e=>h.p (Eq.subst (motive:=fun y=>y ∈ P) e hx))]; rfl
theorem frz_n (h:Cln k L H P):frzK k v ⟨L,H,nx,P⟩=some (v,⟨L,H,nx,P⟩):=by
  unfold frzK
  rw [show look (⟨L,H,nx,P⟩:St).hp (.p k)=none from h.o]
theorem cB (ha:m.args vs=some as) (h:exs C m.body ⟨m.ps.zip as,H,nx,P⟩=some (.ret v,σ')):callB C m vs ⟨L,H,nx,P⟩=some (v,{ σ' with loc:=L }):=by
  unfold callB
  rw [ha]
  show bn (exs C m.body ⟨m.ps.zip as,H,nx,P⟩) _=_
  rw [h]; rfl
theorem ids_sp (h:Cln 50 L H P) (hw:(a :: w).length≤900) (hA:∀ x ∈ a :: w,x < 128):frzO 50 (liftO tT (oraN tT (n + 3))) 51 [.str (a :: w),.bool z] ⟨L,H,nx,P⟩=some (rv (idsT z (a :: w)),⟨L,H,nx,P⟩):=by
  show gd (decide (50 ∉ P)) (bn (callB (oraN tT (n + 3)) m_law_ids [.str (a :: w),.bool z] ⟨L,H,nx,P⟩) (frzK 50))=_
  rw [decide_eq_true h.p]
  rcases ids_ide (n:=n) (z:=z) (H:=H) (nx:=nx) h.p hw hA with ⟨L',e⟩ | ⟨L',v,fs,e,hn,hv⟩
  · rw [cB (as:=[.str (a :: w),.bool z]) rfl e]
    exact frz_n h
  · rw [cB (as:=[.str (a :: w),.bool z]) rfl e]
    exact (frz_p h hn).trans (by rw [hv])
end
end Mine
end
noncomputable section
namespace Mine
noncomputable def TK (v:Mine.V):Prop:=∃ ks vs k,v=.dict ([116,121,112,101] :: ks) (.int k :: vs)∧(k=0→∃ D:DF,v=tDoc D.vs)
structure Rw (v:Mine.V):Prop where
  r:rowV v=true
  n:∀ k,V.no (.p k) v=true
  t:TK v
theorem tk {ks:List (List Nat)} {vs:List Mine.V} {k:Int} (h:decide (k=0)=false):TK (.dict ([116,121,112,101] :: ks) (.int k :: vs)):=⟨_,_,_,rfl,fun e=>absurd e (of_decide_eq_false h)⟩
structure Ft (n:Nat) (l:List Mine.V):Prop where
  len:l.length≤n
  rw:∀ v ∈ l,Rw v
section
variable {n m k q a:Nat} {l l':List Mine.V} {v:Mine.V} {b x r i w:List Nat} {c:Bool} {f:RI} {K:List Nat→List Nat→RI} {e:List Nat→RI} {t:Nat→List Nat→RI} {es:List (Nat × Nat)} {d:DF} {p s:Option (List Nat)}
theorem Ft.nil:Ft n []:=⟨Nat.zero_le _,fun _ h=>nomatch h⟩
theorem Ft.one (h:Rw v):Ft 1 [v]:=⟨Nat.le_refl _,fun w hw=>by cases List.mem_singleton.mp hw; exact h⟩
theorem Ft.app (h:Ft n l) (h':Ft m l'):Ft (n + m) (l ++ l'):=⟨List.length_append▸Nat.add_le_add h.len h'.len,fun v hv=>(List.mem_append.mp hv).elim (h.rw v) (h'.rw v)⟩
theorem Ft.le (h:Ft n l) (hn:n≤m):Ft m l:=⟨Nat.le_trans h.len hn,h.rw⟩
theorem rwE:Rw (tErr x):=⟨rfl,fun _=>rfl,tk rfl⟩
theorem rwD:Rw (tDoc d.vs):=⟨by
  obtain ⟨n,p,s,b⟩:=d
  cases p <;> cases s <;> rfl,fun _=>nos_vs,_,_,_,rfl,fun _=>⟨d,rfl⟩⟩
theorem rwS:∀ {o:Option Nat},Rw (tErrD x (sgn o c))
  | some _=>⟨rfl,fun _=>rfl,tk rfl⟩
  | none=>by cases c <;> exact ⟨rfl,fun _=>rfl,tk rfl⟩
theorem nul_ft:∀ b:List Nat,Ft b.length (nul b)
  | []=>.nil
  | a :: b=>by
    unfold nul
    exact ite_i (Ft _) (fun _=>((Ft.one rwE).app (nul_ft b)).le (Nat.le_of_eq (Nat.add_comm _ _))) fun _=>(nul_ft b).le (Nat.le_succ _)
theorem lost_ft:Ft 1 (lost c):=by
  cases c
  · exact .one rwE
  · exact .nil
theorem odd_ft:∀ {c:Bool},Ft 1 (bif c then [tErr nOdd] else [])
  | true=>.one rwE
  | false=>.nil
theorem Ft.pr (h:Ft n l) (h':Ft m f.1):Ft (n + m) (pr l f).1:=h.app h'
theorem qT_ft (hk:∀ x r,r.length≤b.length→Ft m (K x r).1) (he:∀ x,(e x).1=[]):Ft (b.length + (m + 1)) (qT q b c K e).1:=by
  have hu:=(nul_ft (qsp q b)).le (qsp_le b)
  unfold qT
  exact ite_i (fun f:RI=>Ft _ f.1) (fun _=>(hu.pr (hk _ _ (dl_le b _))).le (Nat.le_succ _)) fun _=>((hu.app (.one rwE)).pr (m:=m) (by rw [he]; exact .nil)).le (Nat.le_of_eq (by rw [Nat.add_assoc,Nat.add_comm 1]))
theorem sysT_ft:Ft (b.length + 2) (sysT p c q b).1:=qT_ft (m:=1) (fun x r _=>ite_i (fun f:RI=>Ft _ f.1) (fun _=>lost_ft) fun _=>.one rwE) fun _=>rfl
theorem midT_ft:Ft (r.length + 2) (midT c x r).1:=by
  have hl:=beh_len r
  cases e:beh r with
  | nil=>rw [midT_nil e]; exact lost_ft.le (Nat.le_add_left 1 (r.length + 1))
  | cons a w =>
    rw [midT_cons e]
    rw [e] at hl
    exact ite_i (fun f:RI=>Ft _ f.1) (fun _=>(odd_ft.pr sysT_ft).le (by rw [Nat.add_comm,Nat.add_right_comm]; exact Nat.add_le_add_right hl 2)) fun _=>(Ft.one rwE).le (Nat.le_add_left 1 (r.length + 1))
theorem pubT_ft:Ft (b.length + (b.length + 3)) (pubT c q b).1:=qT_ft (m:=b.length + 2) (fun x r h=>midT_ft.le (Nat.add_le_add_right h 2)) fun _=>rfl
theorem kT_ft (ht:∀ a w,w.length≤r.length→Ft m (t a w).1):Ft (m + 1) (kT t x c r).1:=by
  have hl:=beh_len r
  cases e:beh r with
  | nil=>rw [kT_nil e]; exact (Ft.one rwE).le (Nat.le_add_left 1 m)
  | cons a w =>
    rw [kT_cons e]
    rw [e] at hl
    exact ite_i (fun f:RI=>Ft _ f.1) (fun _=>(odd_ft.pr (ht a w (Nat.le_of_succ_le hl))).le (Nat.le_of_eq (Nat.add_comm 1 m))) fun _=>(Ft.one rwE).le (Nat.le_add_left 1 m)
theorem kwT_ft (hk:Ft (m + 1) (e (w.drop 5)).1):Ft (m + 1) (kwT es e w c).1:=by
  unfold kwT
  cases kwk es w with
  | none=>exact hk
  | some j=>exact (Ft.one rwS).le (Nat.le_add_left 1 m)
theorem idsT_ft:∀ {w:List Nat},Ft (w.length + (w.length + 3) + 1) (idsT c w).1
  | []=>.nil
  | a :: w=>by
    have hd:=Nat.le_succ_of_le (dl_le w 5)
    rw [idsT_cons]
    exact ite_i (fun f:RI=>Ft _ f.1) (fun _=>kwT_ft (kT_ft fun a r h=>pubT_ft.le (Nat.add_le_add (Nat.le_trans h hd) (Nat.add_le_add_right (Nat.le_trans h hd) 3)))) fun _=>ite_i (fun f:RI=>Ft _ f.1) (fun _=>kwT_ft (kT_ft fun a r h=>sysT_ft.le (Nat.le_trans (Nat.add_le_add (Nat.le_trans h hd) (by decide:2≤3)) (Nat.le_add_left _ _)))) fun _=>(Ft.one (rwS (o:=some a) (c:=c))).le (Nat.le_add_left 1 _)
theorem rp_low (h:∀ a ∈ b,a < 128):rp (b.map lowC)=(rp b).map lowC:=by
  unfold rp
  rw [List.map_map,List.map_map]
  refine List.map_congr_left fun a ha=>?_
  show rp1 (lowC a)=lowC (rp1 a)
  unfold rp1 lowC
  by_cases h0:a=0
  · subst h0; rfl
  · rw [if_neg h0]
    by_cases c:65≤a∧a≤90
    · rw [if_pos c,if_neg (Nat.succ_ne_zero (a + 31))]
    · rw [if_neg c,if_neg h0]
end
end Mine
end
noncomputable section
namespace Mine
noncomputable def dt0:MS:=.asg 71 (.lst [] (.per 51))
noncomputable def dt1:MS:=.asg 115 (.call 49 [(.loc 117)])
noncomputable def dt2:MS:=.iff (.and (.cmp .eq (.loc 115) (.loc 117)) (.or (.loc 107) (.cmp .ne (.loc 115) (.k (.str []))))) [.ex (.app (.loc 71) (.call 28 [(.k (.str [110,101,101,100,45,115,112,97,99,101,45,97,102,116,101,114,45,100,111,99,116,121,112,101]))]))] []
noncomputable def dt3:MS:=.iff (.cmp .eq (.loc 115) (.k (.str []))) [.ex (.app (.loc 71) (.call 28 [(.bop .add (.k (.str [101,120,112,101,99,116,101,100,45,100,111,99,116,121,112,101,45,110,97,109,101,45,98,117,116,45,103,111,116,45])) (.ite (.loc 107) (.k (.str [114,105,103,104,116,45,98,114,97,99,107,101,116])) (.k (.str [101,111,102]))))])),.ret (.tup [(.loc 71),(.k (.str [])),(.k .none),(.k .none),(.k (.bool false))])] []
noncomputable def dt4:MS:=.asg 37 (.k (.int 0))
noncomputable def dt5:MS:=.whl (.and (.cmp .lt (.loc 37) (.bi .len [(.loc 115)])) (.cmp .nin (.sub (.loc 115) (.loc 37)) (.glob gBlanks))) [.augN 37 .add (.k (.int 1))]
noncomputable def dt6:MS:=.augN 71 .add (.call 48 [(.sl (.loc 115) (.k .none) (.loc 37))])
noncomputable def dt7:MS:=.asg 66 (.sm .replace (.sm .lower (.sl (.loc 115) (.k .none) (.loc 37)) []) [(.k (.str [0])),(.k (.str [65533]))])
noncomputable def dt8:MS:=.asg 109 (.call 49 [(.sl (.loc 115) (.loc 37) (.k .none))])
noncomputable def dt9:MS:=.iff (.cmp .ne (.loc 109) (.k (.str []))) [.asgT [114,113,116,118] (.call 51 [(.loc 109),(.loc 107)]),.ret (.tup [(.bop .add (.loc 71) (.loc 114)),(.loc 66),(.loc 113),(.loc 116),(.loc 118)])] []
noncomputable def dt10:MS:=.iff (.not (.loc 107)) [.ex (.app (.loc 71) (.call 28 [(.ite (.cmp .eq (.loc 37) (.bi .len [(.loc 115)])) (.k (.str [101,111,102,45,105,110,45,100,111,99,116,121,112,101,45,110,97,109,101])) (.k (.str [101,111,102,45,105,110,45,100,111,99,116,121,112,101])))]))] []
noncomputable def dt11:MS:=.ret (.tup [(.loc 71),(.loc 66),(.k .none),(.k .none),(.loc 107)])
theorem dt_is:m_law_doctype.body=[dt0,dt1,dt2,dt3,dt4,dt5,dt6,dt7,dt8,dt9,dt10,dt11]:=rfl
noncomputable def CD:Ora:=pickO 51 (frzO 50 (liftO tT (oraN tT 3))) (oraN tT 3)
noncomputable def dv (F:List Mine.V) (D:DF):Mine.V:=.tup [.list F,.str D.n,pV D.p,pV D.s,.bool D.b]
noncomputable def Ddr (x:Option (FL × St)) (H:List (Id × Ob)) (nx:Nat) (P:List Nat) (T:List Mine.V):Prop:=∃ L v fs F D,x=some (.ret v,⟨L,(.p 51,.list fs) :: H,nx,51 :: P⟩)∧V.nos (.p 51) fs=true∧V.sb (.p 51) (.list fs) v=dv F D∧T=F ++ [tDoc D.vs]∧Ft 1500 F
noncomputable def dtM (i:List Nat) (z:Bool):List (Nat × Mine.V):=[(117,.str i),(107,.bool z),(71,.obj (.p 51)),(115,.str (beh i))]
noncomputable def f1 (i:List Nat) (z:Bool):List Mine.V:=if beh i=i∧(z=true∨beh i ≠ []) then [tErr nNeed] else []
section
variable {C:Ora} {n k m:Nat} {L:List (Nat × Mine.V)} {H:List (Id × Ob)} {nx:Nat} {P:List Nat} {i r w b:List Nat} {z:Bool} {fs l F:List Mine.V} {D:DF} {x:Option (FL × St)} {T:List Mine.V} {nm:List Nat} {p s:Option (List Nat)} {a:Nat} {c:Bool}
theorem Ft.nos (h:Ft m l):V.nos (.p k) l=true:=by
  induction l with
  | nil=>rfl
  | cons v l ih =>
    show (V.no _ v && V.nos _ l)=true
    rw [(h.rw v (.head _)).n,ih ⟨Nat.le_of_succ_le h.len,fun w hw=>h.rw w (.tail _ hw)⟩]; rfl
theorem dv_sb {w:Mine.V} (h:V.nos (.p k) F=true):V.sb (.p k) w (dv F D)=dv F D:=by
  show Mine.V.tup [.list (V.sbs _ w F),.str D.n,V.sb _ w (pV D.p),V.sb _ w (pV D.s),.bool D.b]=_
  rw [V.sbs_no _ h,sb_pV,sb_pV]; rfl
theorem dvo_sb {nm:List Nat} {p s:Option (List Nat)} {b:Bool}:V.sb (.p k) (.list l) (.tup [.obj (.p k),.str nm,pV p,pV s,.bool b])=dv l ⟨nm,p,s,b⟩:=by
  show Mine.V.tup [if Id.p k=.p k then .list l else .obj (.p k),.str nm,V.sb _ _ (pV p),V.sb _ _ (pV s),.bool b]=_
  rw [if_pos rfl,sb_pV,sb_pV]; rfl
theorem f1_ft:Ft 1 (f1 i z):=ite_i (Ft 1) (fun _=>.one rwE) fun _=>.nil
theorem dt_pre (hP:51 ∉ P) (hi:i.length≤1000):exs CD [dt0,dt1,dt2] ⟨[(117,.str i),(107,.bool z)],H,nx,P⟩=some (.next,⟨dtM i z,(.p 51,.list (f1 i z)) :: H,nx,51 :: P⟩):=by
  have hb:=behind_sp (n:=2) (L:=[(117,.str i),(107,.bool z),(71,.obj (.p 51))]) (H:=(.p 51,.list []) :: H) (nx:=nx) (P:=51 :: P) hi
  have ha:=alloc_per (L:=[(117,.str i),(107,.bool z)]) (H:=H) (nx:=nx) (o:=.list []) hP
  unfold f1
  refine Ends.exs ?_
  refine .c 0 (ha) (.c 0 (hb) (?_))
  by_cases h:beh i=i
  · cases z with
    | true =>
      rw [if_pos ⟨h,.inl rfl⟩]
      exact .b 0 (sbeq h) (.done 9)
    | false =>
      by_cases h0:beh i=[]
      · rw [if_neg fun q=>q.2.elim (fun e=>ff e) fun e=>e h0]
        exact .b 0 (sbeq h) (.b 2 ((congrArg (fun q=>some (!q)) (beq_iff_eq.mpr h0):some (!(beh i == []))=some false)) (.done 2))
      · rw [if_pos ⟨h,.inr h0⟩]
        exact .b 0 (sbeq h) (.b 2 ((congrArg (fun q=>some (!q)) (beq_eq_false_iff_ne.mpr h0):some (!(beh i == []))=some true)) (.done 7))
  · rw [if_neg fun q=>h q.1]
    exact .b 0 (sbne h) (.done 3)
noncomputable def nmT':ME:=.and (.cmp .lt (.loc 37) (.bi .len [(.loc 115)])) (.cmp .nin (.sub (.loc 115) (.loc 37)) (.glob gBlanks))
noncomputable def nmB:List MS:=[.augN 37 .add (.k (.int 1))]
noncomputable def nmM (i r:List Nat) (z:Bool) (h:List (Id × Ob)) (nx:Nat) (P:List Nat) (j:Nat):St:=⟨[(117,.str i),(107,.bool z),(71,.obj (.p 51)),(115,.str r),(37,.int j)],h,nx,P⟩
theorem nin_blk:some (!([[32],[10]].any (· == [a])))=some (!blk a):=congrArg (fun q=>some (!q)) any2
theorem dt_name (hi:r.length≤1000) (hA:∀ a ∈ r,a < 128) (hf:fs.length≤1) (hr:r=a :: w) :
    exs CD [dt3,dt4,dt5,dt6,dt7,dt8] ⟨[(117,.str i),(107,.bool z),(71,.obj (.p 51)),(115,.str r)],(.p 51,.list fs) :: H,nx,P⟩ =
      some (.next,⟨[(117,.str i),(107,.bool z),(71,.obj (.p 51)),(115,.str r),(37,.int (nmS r).length),(66,.str ((rp (nmS r)).map lowC)),(109,.str (beh (r.drop (nmS r).length)))],(.p 51,.list (fs ++ nul (nmS r))) :: H,nx,P⟩):=by
  have hm:=hml hi
  have hnl:(nmS r).length≤1000:=Nat.le_trans (List.takeWhile_prefix _).length_le hi
  have hn:∀ a ∈ nmS r,a < 128:=fun a h=>hA a ((List.takeWhile_prefix _).subset h)
  have hw:=loop_sp (C:=CD) (t:=nmT') (bd:=nmB) (p:=fun a=>!blk a) (mk:=nmM i r z ((.p 51,.list fs) :: H) nx P) (b:=r) (by
    refine Ends.tst ?_
    exact .v 0 (len_all hm) (.b 0 (snlt (Nat.lt_irrefl r.length)) (.done 3))) (fun j a h=>by
    have hlt:=(List.getElem?_eq_some_iff.mp h).1
    refine Ends.tst ?_
    exact .v 0 (len_all hm) (.b 0 (slt hlt) (.v 1 (sub_nat h hm) (.b 0 (nin_blk (a:=a)) (.b 0 (tru_b (b:=!blk a)) (.done 1)))))) (fun j=>by kernel_rfl) r 0 bigN rfl (Nat.zero_le _) (Nat.lt_of_le_of_lt hi (by decide))
  rw [Nat.zero_add] at hw
  have s1:slV σ0 (.str r) .none (.int (nmS r).length)=some (.str (nmS r)):=(sl_to' (nmS r).length rfl hm).trans (congrArg (fun l=>some (Mine.V.str l)) (List.prefix_iff_eq_take.mp (List.takeWhile_prefix _)).symm)
  have s2:=sl_from (i:=((nmS r).length:Nat)) _ rfl hm
  have hnu:=nulls_sp (n:=1) (b:=nmS r) (L:=[(117,.str i),(107,.bool z),(71,.obj (.p 51)),(115,.str r),(37,.int (nmS r).length)]) (H:=(.p 51,.list fs) :: H) (nx:=nx) (P:=P) hnl
  have g1:Nat.ble (fs.length + (nul (nmS r)).length) maxLen=true:=ble (Nat.le_trans (Nat.add_le_add hf (Nat.le_trans (nul_len _) hnl)) (by decide))
  have hlo:=lower_sp hn hnl
  have hre:smV σ0 .replace ((nmS r).map lowC) [.str [0],.str [65533]]=some (.str ((rp (nmS r)).map lowC)):=(rep_sp (by rw [List.length_map]; exact hnl)).trans (by rw [rp_low hn])
  have hbh:=behind_sp (n:=2) (b:=r.drop (nmS r).length) (L:=[(117,.str i),(107,.bool z),(71,.obj (.p 51)),(115,.str r),(37,.int (nmS r).length),(66,.str ((rp (nmS r)).map lowC))]) (H:=(.p 51,.list (fs ++ nul (nmS r))) :: H) (nx:=nx) (P:=P) (Nat.le_trans (dl_le _ _) hi)
  refine Ends.exs ?_
  subst hr
  exact .fl 2 (hw) (.v 0 (s1) (.c 0 (hnu) (.g 2 (g1) (.v 0 (s1) (.v 0 (hlo) (.v 0 (hre) (.v 0 (s2) (.c 0 (hbh) (.done 1)))))))))
end
end Mine
end
noncomputable section
namespace Mine
section
variable {C:Ora} {n k m:Nat} {L:List (Nat × Mine.V)} {H:List (Id × Ob)} {nx:Nat} {P:List Nat} {i r w b nm rest:List Nat} {z:Bool} {fs l l' F:List Mine.V} {D:DF} {x:Option (FL × St)} {T:List Mine.V} {p s:Option (List Nat)} {a:Nat} {c:Bool} {u v:Mine.V}
theorem cat_p (h:l.length + l'.length≤3000):bopV ⟨[],(.p 51,.list l) :: H,0,[]⟩ .add (.obj (.p 51)) (.list l')=some (.list (l ++ l')):=by
  show gd (Nat.ble (l.length + l'.length) maxLen) _=_
  rw [ble (Nat.le_trans h (by decide))]; rfl
noncomputable def dtN (i r:List Nat) (z:Bool) (v nm rest:List Nat) (k:Nat):List (Nat × Mine.V):=[(117,.str i),(107,.bool z),(71,.obj (.p 51)),(115,.str r),(37,.int k),(66,.str nm),(109,.str v)]
theorem dt_end (hP:51 ∉ P) (h50:Cln 50 [] H P) (hr:r.length≤300) (hA:∀ a ∈ r,a < 128) (hk:k≤r.length) (hf:Ft 301 fs) :
    Ddr (exs CD [dt9,dt10,dt11] ⟨dtN i r z (beh (r.drop k)) nm (r.drop k) k,(.p 51,.list fs) :: H,nx,51 :: P⟩) H nx P (fs ++ wdT nm (r.drop k) z):=by
  have hm:=hml (Nat.le_trans hr (by decide):r.length≤1000)
  cases e:beh (r.drop k) with
  | nil =>
    rw [wdT_nil e]
    cases z with
    | true=>exact ⟨dtN i r true [] nm (r.drop k) k,.tup [.obj (.p 51),.str nm,pV none,pV none,.bool true],fs,fs,⟨nm,none,none,true⟩,by kernel_rfl,hf.nos,dvo_sb,rfl,hf.le (by decide)⟩
    | false =>
      have he:some ((k:Int) == (r.length:Int))=some (r.drop k).isEmpty:=by
        by_cases h:k=r.length
        · subst h
          rw [List.drop_length,beq_self_eq_true]; rfl
        · rw [beq_eq_false_iff_ne.mpr fun q:(k:Int)=r.length=>h (Int.ofNat.inj q)]
          cases hd:r.drop k with
          | nil=>exact absurd (Nat.le_antisymm hk (List.drop_eq_nil_iff.mp hd)) h
          | cons _ _=>rfl
      have g1:=gL hf.len (by decide)
      have ht:=hf.app (.one (rwE (x:=bif (r.drop k).isEmpty then nEofN else nEofD)))
      refine ⟨dtN i r false [] nm (r.drop k) k,.tup [.obj (.p 51),.str nm,pV none,pV none,.bool false],fs ++ [tErr (bif (r.drop k).isEmpty then nEofN else nEofD)],fs ++ [tErr (bif (r.drop k).isEmpty then nEofN else nEofD)],⟨nm,none,none,false⟩,Ends.exs ?_,ht.nos,dvo_sb,(List.append_assoc fs [_] [_]).symm,ht.le (by decide)⟩
      cases hd:(r.drop k).isEmpty <;> rw [hd] at he
      · exact .v 5 (len_all hm) (.b 0 (he) (.g 3 (g1) (.done 2)))
      · exact .v 5 (len_all hm) (.b 0 (he) (.g 3 (g1) (.done 2)))
  | cons a w =>
    rw [wdT_cons e]
    have hl2:(a :: w).length≤300:=e▸Nat.le_trans (beh_len _) (Nat.le_trans (dl_le r k) hr)
    have hl1:w.length≤300:=Nat.le_of_succ_le hl2
    have hA2:∀ x ∈ a :: w,x < 128:=fun x hx=>hA x (List.mem_of_mem_drop ((List.dropWhile_suffix blk).subset (e▸hx:x ∈ beh (r.drop k))))
    have hi:=idsT_ft (c:=z) (w:=a :: w)
    have hi:Ft 604 (idsT z (a :: w)).1:=hi.le (Nat.succ_le_succ (Nat.add_le_add hl2 (Nat.add_le_add_right hl2 3)))
    have hc:Cln 50 (dtN i r z (a :: w) nm (r.drop k) k) ((.p 51,.list fs) :: H) (51 :: P):=⟨fun _=>rfl,fun w=>by
      show (Id.p 51,Ob.list (V.sbs (.p 50) w fs)) :: hpSb (.p 50) w H=_
      rw [h50.h,V.sbs_no _ hf.nos],h50.o,fun q=>by cases q with | tail _ q=>exact h50.p q⟩
    have hs:=ids_sp (n:=0) (z:=z) (nx:=nx) hc (Nat.le_trans hl2 (by decide)) hA2
    have hs:CD 51 [.str (a :: w),.bool z] ⟨dtN i r z (a :: w) nm (r.drop k) k,(.p 51,.list fs) :: H,nx,51 :: P⟩=_:=hs
    have hcat:=cat_p (H:=H) (l:=fs) (l':=(idsT z (a :: w)).1) (Nat.le_trans (Nat.add_le_add hf.len hi.len) (by decide))
    have ht:=hf.app hi
    generalize idsT z (a :: w)=f at hs hcat ht
    obtain ⟨f1,f2,f3,f4⟩:=f
    refine ⟨dtN i r z (a :: w) nm (r.drop k) k ++ [(114,.list f1),(113,pV f2),(116,pV f3),(118,.bool f4)],dv (fs ++ f1) ⟨nm,f2,f3,f4⟩,fs,fs ++ f1,⟨nm,f2,f3,f4⟩,Ends.exs ?_,hf.nos,dv_sb ht.nos,(List.append_assoc fs f1 [_]).symm,ht.le (by decide)⟩
    exact .c 2 (hs) (.v 0 (hcat) (.done 1))
theorem doc_ddr (hP:51 ∉ P) (h50:Cln 50 [] H P) (hi:i.length≤300) (hA:∀ a ∈ i,a < 128):Ddr (exs CD m_law_doctype.body ⟨[(117,.str i),(107,.bool z)],H,nx,P⟩) H nx P (docT i z):=by
  rw [dt_is,show [dt0,dt1,dt2,dt3,dt4,dt5,dt6,dt7,dt8,dt9,dt10,dt11]=[dt0,dt1,dt2] ++ [dt3,dt4,dt5,dt6,dt7,dt8,dt9,dt10,dt11] from rfl,exs_pre (dt_pre hP (Nat.le_trans hi (by decide)))]
  show Ddr _ _ _ _ (f1 i z ++ _)
  unfold dtM
  have hf:=f1_ft (i:=i) (z:=z)
  cases e:beh i with
  | nil =>
    have g1:=gL hf.len (by decide)
    have ht:=hf.app (.one (rwE (x:=bif z then nNmGt else nNmEof)))
    refine ⟨[(117,.str i),(107,.bool z),(71,.obj (.p 51)),(115,.str [])],.tup [.obj (.p 51),.str [],pV none,pV none,.bool false],f1 i z ++ [tErr (bif z then nNmGt else nNmEof)],f1 i z ++ [tErr (bif z then nNmGt else nNmEof)],⟨[],none,none,false⟩,Ends.exs ?_,ht.nos,dvo_sb,(List.append_assoc (f1 i z) [_] [_]).symm,ht.le (by decide)⟩
    cases z
    · exact .g 7 (g1) (.done 2)
    · exact .g 7 (g1) (.done 2)
  | cons a w =>
    have hl2:(a :: w).length≤300:=e▸Nat.le_trans (beh_len _) hi
    have hA2:∀ x ∈ a :: w,x < 128:=fun x hx=>hA x ((List.dropWhile_suffix blk).subset (e▸hx:x ∈ beh i))
    have hn:=dt_name (i:=i) (z:=z) (H:=H) (nx:=nx) (P:=51 :: P) (Nat.le_trans hl2 (by decide)) hA2 hf.len rfl
    have hk:(nmS (a :: w)).length≤(a :: w).length:=(List.takeWhile_prefix _).length_le
    rw [show [dt3,dt4,dt5,dt6,dt7,dt8,dt9,dt10,dt11]=[dt3,dt4,dt5,dt6,dt7,dt8] ++ [dt9,dt10,dt11] from rfl,exs_pre hn]
    show Ddr _ _ _ _ (f1 i z ++ (nul (nmS (a :: w)) ++ _))
    rw [← List.append_assoc]
    exact dt_end hP h50 hl2 hA2 hk ((hf.app (nul_ft _)).le (Nat.le_trans (Nat.add_le_add_left (Nat.le_trans hk hl2) 1) (by decide)))
theorem doctype_sp (h51:Cln 51 L H P) (h50:Cln 50 [] H P) (hi:i.length≤300) (hA:∀ a ∈ i,a < 128):∃ F D,frzO 51 (liftO tT CD) 52 [.str i,.bool z] ⟨L,H,nx,P⟩=some (dv F D,⟨L,H,nx,P⟩)∧docT i z=F ++ [tDoc D.vs]∧Ft 1500 F:=by
  obtain ⟨L',v,fs,F,D,e,hn,hv,hT,hF⟩:=doc_ddr (z:=z) (nx:=nx) h51.p h50 hi hA
  refine ⟨F,D,?_,hT,hF⟩
  show gd (decide (51 ∉ P)) (bn (callB CD m_law_doctype [.str i,.bool z] ⟨L,H,nx,P⟩) (frzK 51))=_
  rw [decide_eq_true h51.p,cB (as:=[.str i,.bool z]) rfl e]
  exact (frz_p h51 hn).trans (by rw [hv])
end
end Mine
end
noncomputable section
namespace Mine
noncomputable def rdTest:ME:=(.cmp .lt (.loc 2) (.bi .len [(.loc 1)]))
noncomputable def rb0:MS:=.asg 68 (.sub (.loc 1) (.loc 2))
noncomputable def rC60:ME:=(.cmp .eq (.loc 68) (.k (.str [60])))
noncomputable def ra0:MS:=.asg 119 (.cmp .eq (.sm .lower (.sl (.loc 1) (.loc 2) (.bop .add (.loc 2) (.k (.int 9)))) []) (.k (.str [60,33,100,111,99,116,121,112,101])))
noncomputable def ra1:MS:=.asg 77 (.ite (.loc 119) (.bop .add (.loc 2) (.k (.int 9))) (.bop .add (.loc 2) (.k (.int 2))))
noncomputable def ra2:MS:=.asg 37 (.sm .find (.loc 1) [(.k (.str [62])),(.loc 77)])
noncomputable def ra3:MS:=.asg 107 (.cmp .ge (.loc 37) (.k (.int 0)))
noncomputable def ra4:MS:=.iff (.not (.loc 107)) [.asg 37 (.bi .len [(.loc 1)])] []
noncomputable def ra5:MS:=.iff (.loc 119) [.asgT [71,66,113,116,118] (.call 52 [(.sl (.loc 1) (.loc 77) (.loc 37)),(.loc 107)]),.augN 72 .add (.loc 71),.ex (.app (.loc 72) (.dct [[116,121,112,101],[110,97,109,101],[112,117,98,108,105,99,73,100],[115,121,115,116,101,109,73,100],[99,111,114,114,101,99,116]] [(.sub (.glob gTokenTypes) (.k (.str [68,111,99,116,121,112,101]))),(.loc 66),(.loc 113),(.loc 116),(.loc 118)] .frz))] [.ex (.app (.loc 72) (.call 28 [(.k (.str [101,120,112,101,99,116,101,100,45,100,97,115,104,101,115,45,111,114,45,100,111,99,116,121,112,101]))])),.ex (.app (.loc 72) (.dct [[116,121,112,101],[100,97,116,97]] [(.sub (.glob gTokenTypes) (.k (.str [67,111,109,109,101,110,116]))),(.sm .replace (.sl (.loc 1) (.loc 77) (.loc 37)) [(.k (.str [0])),(.k (.str [65533]))])] .frz))]
noncomputable def ra6:MS:=.asg 2 (.bop .add (.loc 37) (.k (.int 1)))
noncomputable def rC0:ME:=(.cmp .eq (.loc 68) (.k (.str [0])))
noncomputable def rz0:MS:=.ex (.app (.loc 72) (.call 28 [(.k (.str [105,110,118,97,108,105,100,45,99,111,100,101,112,111,105,110,116]))]))
noncomputable def rz1:MS:=.ex (.app (.loc 72) (.dct [[116,121,112,101],[100,97,116,97]] [(.sub (.glob gTokenTypes) (.k (.str [67,104,97,114,97,99,116,101,114,115]))),(.k (.str [0]))] .frz))
noncomputable def rz2:MS:=.augN 2 .add (.k (.int 1))
noncomputable def runTest:ME:=(.and (.cmp .lt (.loc 37) (.bi .len [(.loc 1)])) (.ite (.loc 79) (.cmp .inn (.sub (.loc 1) (.loc 37)) (.glob gBlanks)) (.cmp .nin (.sub (.loc 1) (.loc 37)) (.tup [(.k (.str [60])),(.k (.str [0]))]))))
noncomputable def runB:List MS:=[.augN 37 .add (.k (.int 1))]
noncomputable def rn0:MS:=.asg 79 (.cmp .inn (.loc 68) (.glob gBlanks))
noncomputable def rn1:MS:=.asg 37 (.loc 2)
noncomputable def rn2:MS:=.whl runTest runB
noncomputable def rn3:MS:=.ex (.app (.loc 72) (.dct [[116,121,112,101],[100,97,116,97]] [(.sub (.glob gTokenTypes) (.ite (.loc 79) (.k (.str [83,112,97,99,101,67,104,97,114,97,99,116,101,114,115])) (.k (.str [67,104,97,114,97,99,116,101,114,115])))),(.sl (.loc 1) (.loc 2) (.loc 37))] .frz))
noncomputable def rn4:MS:=.asg 2 (.loc 37)
noncomputable def rdBody:List MS:=[rb0,.iff rC60 [ra0,ra1,ra2,ra3,ra4,ra5,ra6] [.iff rC0 [rz0,rz1,rz2] [rn0,rn1,rn2,rn3,rn4]]]
theorem read_is:m_law_read.body=[.asg 72 (.lst [] .tmp),.asg 2 (.k (.int 0)),.whl rdTest rdBody,.ret (.loc 72)]:=rfl
noncomputable def CR:Ora:=pickO 52 (frzO 51 (liftO tT CD)) (oraN tT 3)
noncomputable def NoP (L:List (Nat × Mine.V)):Prop:=∀ k w,fsSb (.p k) w L=L
theorem fsSb_put {i:Id} {w v:Mine.V} {n:Nat} (hv:V.no i v=true):∀ {L:List (Nat × Mine.V)},fsSb i w L=L→fsSb i w (put L n v)=put L n v
  | [],_=>congrArg (fun v=>[(n,v)]) (V.sb_no v hv)
  | (m,u) :: L,h=>by
    have h1:=(Prod.mk.inj (List.cons.inj h).1).2
    have h2:=(List.cons.inj h).2
    show fsSb i w (if m=n then (m,v) :: L else (m,u) :: put L n v)=if m=n then (m,v) :: L else (m,u) :: put L n v
    by_cases e:m=n
    · rw [if_pos e]
      show (m,V.sb i w v) :: fsSb i w L=_
      rw [V.sb_no v hv,h2]
    · rw [if_neg e]
      show (m,V.sb i w u) :: fsSb i w (put L n v)=_
      rw [h1,fsSb_put hv h2]
theorem NoP.put {L:List (Nat × Mine.V)} (N:NoP L) (n:Nat) {v:Mine.V} (h:∀ k,V.no (.p k) v=true):NoP (put L n v):=fun k _=>fsSb_put (h k) (N k _)
noncomputable def E0 (b:List Nat) (p:Nat):List (Nat × Mine.V):=[(1,.str b),(72,.obj (.t 7)),(2,.int p)]
noncomputable def EA (b:List Nat) (p s e:Nat) (h z:Bool):List (Nat × Mine.V):=[(1,.str b),(72,.obj (.t 7)),(2,.int p),(119,.bool h),(77,.int s),(37,.int e),(107,.bool z)]
structure Pl (b:List Nat) (p a:Nat) (r:List Nat):Prop where
  hb:b.length≤300
  hr:b.drop p=a :: r
  hA:∀ a ∈ b,a < 128
noncomputable def Rok (o:Option (FL × St)) (H:List (Id × Ob)) (P b:List Nat) (D:List Mine.V) (p':Nat):Prop:=∃ L,o=some (.next,⟨L,(.t 7,.list D) :: H,8,P⟩)∧Kn L (E0 b p')∧NoP L
structure Cl2 (H:List (Id × Ob)) (P:List Nat):Prop where
  a:Cln 50 [] H P
  b:Cln 51 [] H P
section
variable {C:Ora} {n k m s e:Nat} {L E:List (Nat × Mine.V)} {H h':List (Id × Ob)} {nx p p' a:Nat} {P:List Nat} {b r x w:List Nat} {z h:Bool} {D F T:List Mine.V}
theorem Pl.ml (h:Pl b p a r):b.length≤maxLen:=Nat.le_trans h.hb (by decide)
theorem Pl.f0 (h:Pl b p a r):subV σ0 (.str b) (.int p)=some (.str [a]):=sub_nat (drop_cons h.hr).1 h.ml
theorem Pl.dr (h:Pl b p a r) (k:Nat):b.drop (p + 1 + k)=r.drop k:=by rw [← (drop_cons h.hr).2.1,List.drop_drop]
theorem Pl.f9 (h:Pl b p a r):slV σ0 (.str b) (.int p) (.int (p + 9:Nat))=some (.str (a :: r.take 8)):=by
  rw [sl_mid p (p + 9) rfl rfl h.ml,h.hr,Nat.add_sub_cancel_left]; rfl
theorem Pl.lo (h:Pl b p a r):smV σ0 .lower (a :: r.take 8) []=some (.str ((a :: r.take 8).map lowC)):=lower_sp (fun y hy=>h.hA y (by
  have e:y ∈ b.drop p:=by
    rw [h.hr]
    cases hy with
    | head=>exact .head _
    | tail _ q=>exact .tail _ (List.mem_of_mem_take q)
  exact List.mem_of_mem_drop e)) (Nat.le_trans (Nat.succ_le_succ (List.length_take_le _ _)) (by decide))
theorem find62 (hs:s≤b.length) (hx:b.drop s=x):smV σ0 .find b [.str [62],.int s]=some (.int (if (gt x).length < x.length then ((s + (gt x).length:Nat):Int) else -1)):=by rw [find_at hs,hx,find_q,gt_qsp]
theorem drop_len (hs:s≤b.length) (hx:b.drop s=x):s + x.length=b.length:=by rw [← hx,List.length_drop,Nat.add_sub_cancel' hs]
theorem ra_pre (hp:Pl b p 60 r) (k:Kn L (E0 b p)) (N:NoP L) (hh:some (lowC 60 :: (r.take 8).map lowC == [60,33,100,111,99,116,121,112,101])=some h) (hs:p + (bif h then 9 else 2)=s) (hl:s≤b.length) (hx:b.drop s=x) :
    ∃ L',exs CR [ra0,ra1,ra2,ra3,ra4] ⟨L,h',nx,P⟩=some (.next,⟨L',h',nx,P⟩)∧Kn L' (EA b p s (s + (gt x).length) h (decide ((gt x).length < x.length)))∧NoP L':=by
  have hf:=find62 hl hx
  have k1:=k.put 119 (.bool h)
  have k2:=k1.put 77 (.int s)
  have N2:NoP k2.lc:=(N.put 119 fun _=>rfl).put 77 fun _=>rfl
  have hpre:exs CR [ra0,ra1] ⟨L,h',nx,P⟩=some (.next,⟨k2.lc,h',nx,P⟩):=by
    refine Ends.exs' ?_
    refine .v 0 (k.get 1 rfl) (.v 0 (k.get 2 rfl) (.v 0 (k.get 2 rfl) (.v 1 (hp.f9) (.v 0 (hp.lo) (.b 0 (hh) (.v 0 (k1.get 119 rfl) (?_)))))))
    cases h <;> cases hs
    · exact .v 1 (k1.get 2 rfl) (.done 2)
    · exact .v 1 (k1.get 2 rfl) (.done 2)
  rw [show [ra0,ra1,ra2,ra3,ra4]=[ra0,ra1] ++ [ra2,ra3,ra4] from rfl,exs_pre hpre]
  by_cases hc:(gt x).length < x.length
  · rw [if_pos hc] at hf
    rw [decide_eq_true hc]
    have k3:=k2.put 37 (.int (s + (gt x).length:Nat))
    have k4:=k3.put 107 (.bool true)
    refine ⟨k4.lc,Ends.exs' ?_,.cons (k4.get 1 rfl) (.cons (k4.get 72 rfl) (.cons (k4.get 2 rfl) (.cons (k4.get 119 rfl) (.cons (k4.get 77 rfl) (.cons (k4.get 37 rfl) (.cons (k4.get 107 rfl) .nil)))))),(N2.put 37 fun _=>rfl).put 107 fun _=>rfl⟩
    exact .v 0 (k2.get 1 rfl) (.v 0 (k2.get 77 rfl) (.v 0 (hf) (.v 0 (k3.get 37 rfl) (.v 1 (k4.get 107 rfl) (.done 3)))))
  · rw [if_neg hc] at hf
    rw [decide_eq_false hc]
    have he:s + (gt x).length=b.length:=(congrArg (s + ·) (Nat.le_antisymm (List.takeWhile_prefix _).length_le (Nat.not_lt.mp hc))).trans (drop_len hl hx)
    have k3:=k2.put 37 (.int (-1))
    have k4:=k3.put 107 (.bool false)
    have k5:=k4.put 37 (.int b.length)
    rw [he]
    refine ⟨k5.lc,Ends.exs' ?_,.cons (k5.get 1 rfl) (.cons (k5.get 72 rfl) (.cons (k5.get 2 rfl) (.cons (k5.get 119 rfl) (.cons (k5.get 77 rfl) (.cons (k5.get 37 rfl) (.cons (k5.get 107 rfl) .nil)))))),((N2.put 37 fun _=>rfl).put 107 fun _=>rfl).put 37 fun _=>rfl⟩
    exact .v 0 (k2.get 1 rfl) (.v 0 (k2.get 77 rfl) (.v 0 (hf) (.v 0 (k3.get 37 rfl) (.v 1 (k4.get 107 rfl) (.v 2 (k4.get 1 rfl) (.v 0 (len_all hp.ml) (.done 1)))))))
theorem gt_slice (hb:b.length≤maxLen) (hx:b.drop s=x):slV σ0 (.str b) (.int s) (.int (s + (gt x).length:Nat))=some (.str (gt x)):=by
  rw [sl_mid s (s + (gt x).length) rfl rfl hb,hx,Nat.add_sub_cancel_left]
  exact congrArg (fun l=>some (Mine.V.str l)) (List.prefix_iff_eq_take.mp (List.takeWhile_prefix _)).symm
theorem Ft.nos' (h:Ft m D):∀ w,V.sbs (.p k) w D=D:=fun w=>V.sbs_no D h.nos
theorem ra_doc (hc:Cl2 H P) (hp:Pl b p 60 r) (k:Kn L (EA b p s (s + (gt x).length) true z)) (N:NoP L) (hx:b.drop s=x) (hD:Ft m D) (hm:m≤1000000) :
    Rok (exs CR [ra5,ra6] ⟨L,(.t 7,.list D) :: H,8,P⟩) H P b (D ++ docT (gt x) z) (s + (gt x).length + 1)∧Ft 1501 (docT (gt x) z):=by
  have hgl:(gt x).length≤300:=Nat.le_trans (List.takeWhile_prefix _).length_le (Nat.le_trans (hx▸dl_le b s) hp.hb)
  have hgA:∀ a ∈ gt x,a < 128:=fun a ha=>hp.hA a (List.mem_of_mem_drop (hx▸(List.takeWhile_prefix _).subset ha:a ∈ b.drop s))
  have hH:∀ k w,hpSb (.p k) w H=H→hpSb (.p k) w ((.t 7,.list D) :: H)=(.t 7,.list D) :: H:=fun k w h=>by
    show (Id.t 7,Ob.list (V.sbs (.p k) w D)) :: hpSb (.p k) w H=_
    rw [h,hD.nos']
  obtain ⟨F,d,e,hT,hF⟩:=doctype_sp (z:=z) (nx:=8) (L:=L) (H:=(.t 7,.list D) :: H) (P:=P) ⟨N 51,fun w=>hH _ w (hc.b.h w),hc.b.o,hc.b.p⟩ ⟨fun _=>rfl,fun w=>hH _ w (hc.a.h w),hc.a.o,hc.a.p⟩ hgl hgA
  have e:CR 52 [.str (gt x),.bool z] ⟨L,(.t 7,.list D) :: H,8,P⟩=_:=e
  refine ⟨?_,hT▸hF.app (.one rwD)⟩
  rw [hT,← List.append_assoc]
  have k1:=((((k.put 71 (.list F)).put 66 (.str d.n)).put 113 (pV d.p)).put 116 (pV d.s)).put 118 (.bool d.b)
  have k2:=k1.put 72 (.obj (.t 7))
  have k3:=k2.put 2 (.int (s + (gt x).length + 1:Nat))
  have hFD:=Nat.add_le_add (Nat.le_trans hD.len hm) hF.len
  have g1:Nat.ble (D.length + F.length) maxLen=true:=ble (Nat.le_trans hFD (by decide))
  have g2:Nat.ble (D ++ F).length maxLen=true:=ble (by rw [List.length_append]; exact Nat.le_trans hFD (by decide))
  refine ⟨k3.lc,Ends.exs' ?_,.cons (k3.get 1 rfl) (.cons (k3.get 72 rfl) (.cons (k3.get 2 rfl) .nil)),((((((N.put 71 (v:=.list F) fun _=>hF.nos).put 66 fun _=>rfl).put 113 fun _=>no_pV _).put 116 fun _=>no_pV _).put 118 fun _=>rfl).put 72 fun _=>rfl).put 2 fun _=>rfl⟩
  exact .v 0 (k.get 119 rfl) (.v 1 (k.get 1 rfl) (.v 0 (k.get 77 rfl) (.v 0 (k.get 37 rfl) (.v 0 (gt_slice hp.ml hx) (.v 0 (k.get 107 rfl) (.c 0 (e) (.v 0 (k1.get 72 rfl) (.v 0 (k1.get 71 rfl) (.g 2 (g1) (.v 0 (k2.get 72 rfl) (.v 2 (k2.get 66 rfl) (.v 0 (k2.get 113 rfl) (.v 0 (k2.get 116 rfl) (.v 0 (k2.get 118 rfl) (.g 3 (g2) (.v 1 (k2.get 37 rfl) (.done 2)))))))))))))))))
theorem ra_bog (hp:Pl b p 60 r) (k:Kn L (EA b p s (s + (gt x).length) false z)) (N:NoP L) (hx:b.drop s=x) (hD:Ft m D) (hm:m≤1000000) :
    Rok (exs CR [ra5,ra6] ⟨L,(.t 7,.list D) :: H,8,P⟩) H P b (D ++ [tErr nDoc] ++ [tCom (rp (gt x))]) (s + (gt x).length + 1):=by
  have hgl:(gt x).length≤1000:=Nat.le_trans (List.takeWhile_prefix _).length_le (Nat.le_trans (hx▸dl_le b s) (Nat.le_trans hp.hb (by decide)))
  have k3:=k.put 2 (.int (s + (gt x).length + 1:Nat))
  have g1:Nat.ble D.length maxLen=true:=ble (Nat.le_trans (Nat.le_trans hD.len hm) (by decide))
  have g2:Nat.ble (D ++ [tErr nDoc]).length maxLen=true:=ble (by rw [List.length_append]; exact Nat.le_trans (Nat.succ_le_succ (Nat.le_trans hD.len hm)) (by decide))
  refine ⟨k3.lc,Ends.exs' ?_,.cons (k3.get 1 rfl) (.cons (k3.get 72 rfl) (.cons (k3.get 2 rfl) .nil)),N.put 2 fun _=>rfl⟩
  exact .v 0 (k.get 119 rfl) (.v 1 (k.get 72 rfl) (.g 3 (g1) (.v 1 (k.get 72 rfl) (.v 2 (k.get 1 rfl) (.v 0 (k.get 77 rfl) (.v 0 (k.get 37 rfl) (.v 0 (gt_slice hp.ml hx) (.v 0 (rep_sp hgl) (.g 3 (g2) (.v 1 (k.get 37 rfl) (.done 2)))))))))))
end
end Mine
end
noncomputable section
namespace Mine
noncomputable def runQ (bl:Bool) (c:Nat):Bool:=bif bl then blk c else !(Nat.beq c 60 || Nat.beq c 0)
theorem al_sp':∀ a ∈ al,(isSp a == true)=runQ true a:=allR (by kernel_rfl)
theorem al_tx:∀ a ∈ al,(stopTx a == false)=runQ false a:=allR (by kernel_rfl)
theorem al_asc:∀ a ∈ al,Nat.blt a 128=true:=allR (by kernel_rfl)
theorem tw_congr {p q:Nat→Bool}:∀ {l:List Nat},(∀ x ∈ l,p x=q x)→l.takeWhile p=l.takeWhile q
  | [],_=>rfl
  | x :: l,h=>by
    rw [List.takeWhile_cons,List.takeWhile_cons,h x (.head _),tw_congr fun y hy=>h y (.tail _ hy)]
theorem put_put' (v w:Mine.V) (a:Nat):∀ l:List (Nat × Mine.V),put (put l a v) a w=put l a w
  | []=>if_pos rfl
  | (b,x) :: l=>by
    by_cases e:b=a
    · exact (congrArg (put · a w) (if_pos e)).trans ((if_pos e).trans (if_pos e).symm)
    · exact (congrArg (put · a w) (if_neg e)).trans ((if_neg e).trans ((congrArg _ (put_put' v w a l)).trans (if_neg e).symm))
noncomputable def tok (bl:Bool) (l:List Nat):Mine.V:=bif bl then tSpc l else tChr l
theorem tok_rw {bl:Bool} {l:List Nat}:Rw (tok bl l):=by cases bl <;> exact ⟨rfl,fun _=>rfl,tk rfl⟩
section
variable {C:Ora} {n k m s e:Nat} {L E:List (Nat × Mine.V)} {H h':List (Id × Ob)} {nx p p' a:Nat} {P:List Nat} {b r x w:List Nat} {z h bl:Bool} {D F T X:List Mine.V} {rd':List Nat→List Mine.V}
theorem rb_lt (hp:Pl b p 60 r) (k:Kn L (E0 b p)):exs CR rdBody ⟨L,h',nx,P⟩=exs CR [ra0,ra1,ra2,ra3,ra4,ra5,ra6] ⟨put L 68 (.str [60]),h',nx,P⟩:=by
  have h1:exs CR [rb0] ⟨L,h',nx,P⟩=some (.next,⟨put L 68 (.str [60]),h',nx,P⟩):=by
    refine Ends.exs' ?_
    exact .v 0 (k.get 1 rfl) (.v 0 (k.get 2 rfl) (.v 0 (hp.f0) (.done 1)))
  have h2:tst CR rC60 ⟨put L 68 (.str [60]),h',nx,P⟩=some (true,⟨put L 68 (.str [60]),h',nx,P⟩):=by
    have k1:=k.put 68 (.str [60])
    refine Ends.tst' ?_
    exact .v 0 (k1.get 68 rfl) (.done 3)
  exact (exs_pre (s:=[rb0]) h1).trans (exs_if_t h2)
theorem rd_nul (hp:Pl b p 0 r) (k:Kn L (E0 b p)) (N:NoP L) (hD:Ft m D) (hm:m≤1000000):Rok (exs CR rdBody ⟨L,(.t 7,.list D) :: H,8,P⟩) H P b (D ++ [tErr nINV] ++ [tChr [0]]) (p + 1):=by
  have k1:=k.put 68 (.str [0])
  have k2:=k1.put 2 (.int (p + 1:Nat))
  have g1:Nat.ble D.length maxLen=true:=ble (Nat.le_trans (Nat.le_trans hD.len hm) (by decide))
  have g2:Nat.ble (D ++ [tErr nINV]).length maxLen=true:=ble (by rw [List.length_append]; exact Nat.le_trans (Nat.succ_le_succ (Nat.le_trans hD.len hm)) (by decide))
  refine ⟨k2.lc,Ends.exs' ?_,.cons (k2.get 1 rfl) (.cons (k2.get 72 rfl) (.cons (k2.get 2 rfl) .nil)),(N.put 68 fun _=>rfl).put 2 fun _=>rfl⟩
  exact .v 0 (k.get 1 rfl) (.v 0 (k.get 2 rfl) (.v 0 (hp.f0) (.v 0 (k1.get 68 rfl) (.v 2 (k1.get 68 rfl) (.v 2 (k1.get 72 rfl) (.g 3 (g1) (.v 1 (k1.get 72 rfl) (.g 5 (g2) (.v 1 (k1.get 2 rfl) (.done 2))))))))))
noncomputable def rnM (L:List (Nat × Mine.V)) (h':List (Id × Ob)) (nx:Nat) (P:List Nat) (i:Nat):St:=⟨put L 37 (.int i),h',nx,P⟩
theorem run_while (hb:b.length≤maxLen) (h1:look L 1=some (.str b)) (h79:look L 79=some (.bool bl)):∀ (r:List Nat) (i fuel:Nat),b.drop i=r→i≤b.length→r.length < fuel→whileN (tst CR runTest) (exs CR runB) fuel (rnM L h' nx P i)=some (.next,rnM L h' nx P (i + (r.takeWhile (runQ bl)).length)):=by
  have l1:∀ i:Nat,look (put L 37 (.int i)) 1=some (.str b):=fun i=>(look_put ..).trans h1
  have l2:∀ i:Nat,look (put L 37 (.int i)) 79=some (.bool bl):=fun i=>(look_put ..).trans h79
  have l3:∀ i:Nat,look (put L 37 (.int i)) 37=some (.int i):=fun i=>look_put ..
  refine loop_sp (Ends.tst' ?_) (fun i a ha=>Ends.tst' ?_) fun i=>?_
  · exact .v 0 (l3 b.length) (.v 0 (l1 b.length) (.v 0 (len_all hb) (.b 0 (snlt (Nat.lt_irrefl b.length)) (.done 3))))
  · have hlt:=(List.getElem?_eq_some_iff.mp ha).1
    refine .v 0 (l3 i) (.v 0 (l1 i) (.v 0 (len_all hb) (.b 0 (slt hlt) (.v 1 (l2 i) (?_)))))
    cases bl with
    | true=>exact .v 1 (l1 i) (.v 0 (l3 i) (.v 0 (sub_nat ha hb) (.b 0 (in_blk (a:=a)) (.b 0 (tru_b (b:=blk a)) (.done 1)))))
    | false=>exact .v 1 (l1 i) (.v 0 (l3 i) (.v 0 (sub_nat ha hb) (.b 0 ((congrArg (fun q=>some (!q)) any2:some (!([[60],[0]].any (· == [a])))=some (!(Nat.beq a 60 || Nat.beq a 0)))) (.b 0 (tru_b (b:=!(Nat.beq a 60 || Nat.beq a 0))) (.done 1)))))
  · show exs CR runB ⟨put L 37 (.int i),h',nx,P⟩=some (.next,⟨put L 37 (.int (i + 1:Nat)),h',nx,P⟩)
    rw [← put_put' (.int i) (.int (i + 1:Nat))]
    refine Ends.exs' ?_
    exact .v 0 (l3 i) (.done 2)
theorem rd_run (hp:Pl b p a r) (h60:a ≠ 60) (h0:a ≠ 0) (hbl:blk a=bl) (k:Kn L (E0 b p)) (N:NoP L) (hD:Ft m D) (hm:m≤1000000) :
    Rok (exs CR rdBody ⟨L,(.t 7,.list D) :: H,8,P⟩) H P b (D ++ [tok bl (a :: r.takeWhile (runQ bl))]) (p + 1 + (r.takeWhile (runQ bl)).length):=by
  have hq:runQ bl a=true:=by
    subst hbl
    unfold runQ
    cases h:blk a with
    | true=>rfl
    | false=>show (!(Nat.beq a 60 || Nat.beq a 0))=true; rw [beq_no h60,beq_no h0]; rfl
  have k1:=k.put 68 (.str [a])
  have k2:=k1.put 79 (.bool bl)
  have hw:=run_while (L:=k2.lc) (h':=(.t 7,.list D) :: H) (nx:=8) (P:=P) hp.ml (k2.get 1 rfl) (k2.get 79 rfl) (a :: r) p bigN hp.hr (Nat.le_of_succ_le (drop_cons hp.hr).2.2) (Nat.lt_of_le_of_lt (hp.hr▸dl_le b p) (Nat.lt_of_le_of_lt hp.hb (by decide)))
  rw [List.takeWhile_cons,if_pos hq,show p + (a :: r.takeWhile (runQ bl)).length=p + 1 + (r.takeWhile (runQ bl)).length from (Nat.add_right_comm p _ 1)] at hw
  have fsl:slV σ0 (.str b) (.int p) (.int (p + 1 + (r.takeWhile (runQ bl)).length:Nat))=some (.str (a :: r.takeWhile (runQ bl))):=by
    rw [sl_mid p _ rfl rfl hp.ml,hp.hr,Nat.add_right_comm,Nat.add_assoc,Nat.add_sub_cancel_left,List.take_succ_cons,← List.prefix_iff_eq_take.mp (List.takeWhile_prefix (runQ bl) (l:=r))]
  have k6:=k2.put 37 (.int (p + 1 + (r.takeWhile (runQ bl)).length:Nat))
  have k7:=k6.put 2 (.int (p + 1 + (r.takeWhile (runQ bl)).length:Nat))
  have g1:Nat.ble D.length maxLen=true:=ble (Nat.le_trans (Nat.le_trans hD.len hm) (by decide))
  refine ⟨k7.lc,Ends.exs' ?_,.cons (k7.get 1 rfl) (.cons (k7.get 72 rfl) (.cons (k7.get 2 rfl) .nil)),(((N.put 68 fun _=>rfl).put 79 fun _=>rfl).put 37 fun _=>rfl).put 2 fun _=>rfl⟩
  have hin:=in_blk (a:=a)
  rw [hbl] at hin
  refine .v 0 (k.get 1 rfl) (.v 0 (k.get 2 rfl) (.v 0 (hp.f0) (.v 0 (k1.get 68 rfl) (.b 0 (neq h60) (.v 1 (k1.get 68 rfl) (.b 0 (neq h0) (.v 1 (k1.get 68 rfl) (.b 0 (hin) (.v 0 (k2.get 2 rfl) (.fl 0 (hw) (.v 0 (k6.get 72 rfl) (.v 1 (k6.get 79 rfl) (?_)))))))))))))
  cases bl
  · exact .v 2 (k6.get 1 rfl) (.v 0 (k6.get 2 rfl) (.v 0 (k6.get 37 rfl) (.v 0 (fsl) (.g 3 (g1) (.v 1 (k6.get 37 rfl) (.done 1))))))
  · exact .v 2 (k6.get 1 rfl) (.v 0 (k6.get 2 rfl) (.v 0 (k6.get 37 rfl) (.v 0 (fsl) (.g 3 (g1) (.v 1 (k6.get 37 rfl) (.done 1))))))
end
end Mine
end
noncomputable section
namespace Mine
noncomputable def BokT (H:List (Id × Ob)) (P b:List Nat) (p:Nat) (T:List Mine.V) (q:Nat):Prop:=∀ (m:Nat) (D:List Mine.V) (L:List (Nat × Mine.V)),Ft m D→m≤1000000→Kn L (E0 b p)→NoP L→Rok (exs CR rdBody ⟨L,(.t 7,.list D) :: H,8,P⟩) H P b (D ++ T) q
noncomputable def LX (H:List (Id × Ob)) (P b:List Nat) (p:Nat) (X:List Mine.V):Prop:=∀ (fuel m:Nat) (D:List Mine.V) (L:List (Nat × Mine.V)),(b.drop p).length < fuel→Ft m D→m + 1501 * (b.drop p).length≤1000000→Kn L (E0 b p)→NoP L →
  ∃ L',whileN (tst CR rdTest) (exs CR rdBody) fuel ⟨L,(.t 7,.list D) :: H,8,P⟩=some (.next,⟨L',(.t 7,.list (D ++ X)) :: H,8,P⟩)∧look L' 72=some (.obj (.t 7))∧Ft 1000000 (D ++ X)
noncomputable def IH (H:List (Id × Ob)) (P b r:List Nat) (rd':List Nat→List Mine.V):Prop:=∀ p,(b.drop p).length≤r.length→LX H P b p (rd' (b.drop p))
section
variable {n k m s e:Nat} {L E:List (Nat × Mine.V)} {H h':List (Id × Ob)} {nx p p' a:Nat} {P:List Nat} {b r x w:List Nat} {z h bl:Bool} {D F T X:List Mine.V} {rd':List Nat→List Mine.V} {u v:Mine.V}
theorem rd_t0 (hb:b.length≤maxLen) (k:Kn L (E0 b p)) (h:¬ p < b.length):tst CR rdTest ⟨L,h',nx,P⟩=some (false,⟨L,h',nx,P⟩):=by
  refine Ends.tst' ?_
  exact .v 0 (k.get 2 rfl) (.v 0 (k.get 1 rfl) (.v 0 (len_all hb) (.b 0 (snlt h) (.done 2))))
theorem rd_t1 (hb:b.length≤maxLen) (k:Kn L (E0 b p)) (h:p < b.length):tst CR rdTest ⟨L,h',nx,P⟩=some (true,⟨L,h',nx,P⟩):=by
  refine Ends.tst' ?_
  exact .v 0 (k.get 2 rfl) (.v 0 (k.get 1 rfl) (.v 0 (len_all hb) (.b 0 (slt h) (.done 2))))
theorem lx_end (hb:b.length≤maxLen) (hp:b.length≤p):LX H P b p []
  | 0,_,_,_,hf,_,_,_,_=>absurd hf (Nat.not_lt_zero _)
  | fuel + 1,m,D,L,_,hD,hm,k,N=>⟨L,(List.append_nil D).symm▸while_end (rd_t0 hb k (Nat.not_lt.mpr hp)),k.get 72 rfl,(List.append_nil D).symm▸hD.le (Nat.le_trans (Nat.le_add_right _ _) hm)⟩
theorem lx_turn (h:Pl b p a r) (hT:Ft 1501 T) (hp:(b.drop p').length≤r.length) (hR:BokT H P b p T p') (ih:LX H P b p' X):LX H P b p (T ++ X):=by
  intro fuel m D L hf hD hm k N
  rw [h.hr] at hf hm
  cases fuel with
  | zero=>exact absurd hf (Nat.not_lt_zero _)
  | succ fuel =>
    obtain ⟨L₁,e,k1,N1⟩:=hR m D L hD (Nat.le_trans (Nat.le_add_right _ _) hm) k N
    obtain ⟨L',e',g,hF⟩:=ih fuel (m + 1501) (D ++ T) L₁ (Nat.lt_of_le_of_lt hp (Nat.lt_of_succ_lt_succ hf)) (hD.app hT) (by
      refine Nat.le_trans (Nat.add_le_add_left (Nat.mul_le_mul_left 1501 hp) _) ?_
      rw [Nat.add_assoc,Nat.add_comm 1501]; exact hm) k1 N1
    rw [List.append_assoc] at e' hF
    exact ⟨L',while_on (rd_t1 h.ml k (drop_cons h.hr).2.2) e e',g,hF⟩
theorem lx_j (h:Pl b p a r) (ih:IH H P b r rd') (j:Nat) (hT:Ft 1501 T) (hR:BokT H P b p T (p + 1 + j)):LX H P b p (T ++ rd' (r.drop j)):=by
  have hl:(b.drop (p + 1 + j)).length≤r.length:=h.dr j▸dl_le r j
  rw [← h.dr j]
  exact lx_turn h hT hl hR (ih _ hl)
theorem ft2 (h:Rw u) (h':Rw v):Ft 1501 [u,v]:=((Ft.one h).app (.one h')).le (by decide)
theorem lx_gt (hp:Pl b p 60 r) (ih:IH H P b r rd') (hx:b.drop s=x) (hl:s≤b.length) (hs:p + (bif h then 9 else 2)=s) (hh:some (lowC 60 :: (r.take 8).map lowC == [60,33,100,111,99,116,121,112,101])=some h) (hT:Ft 1501 T)
    (hR:∀ {m D L},Ft m D→m≤1000000→Kn L (EA b p s (s + (gt x).length) h (decide ((gt x).length < x.length)))→NoP L→Rok (exs CR [ra5,ra6] ⟨L,(.t 7,.list D) :: H,8,P⟩) H P b (D ++ T) (s + (gt x).length + 1)):LX H P b p (T ++ rd' (aft x)):=by
  have ha:b.drop (s + (gt x).length + 1)=aft x:=by rw [Nat.add_assoc,← List.drop_drop,hx]; rfl
  have hle:(b.drop (s + (gt x).length + 1)).length≤r.length:=by
    rw [ha]
    refine Nat.le_trans (dl_le x _) ?_
    rw [← hx,← hs,show p + (bif h then 9 else 2)=p + 1 + (bif h then 8 else 1) by cases h <;> rfl,hp.dr]
    exact dl_le r _
  rw [← ha]
  refine lx_turn hp hT hle (fun m D L hD hm k N=>?_) (ih _ hle)
  obtain ⟨L',e,k',N'⟩:=ra_pre (h':=(.t 7,.list D) :: H) (nx:=8) (P:=P) hp (.cons ((k.put 68 _).get 1 rfl) (.cons ((k.put 68 _).get 72 rfl) (.cons ((k.put 68 _).get 2 rfl) .nil)):Kn (put L 68 (.str [60])) (E0 b p)) (N.put 68 fun _=>rfl) hh hs hl hx
  rw [rb_lt hp k,show [ra0,ra1,ra2,ra3,ra4,ra5,ra6]=[ra0,ra1,ra2,ra3,ra4] ++ [ra5,ra6] from rfl,exs_pre e]
  exact hR hD hm k' N'
theorem rw_com:Rw (tCom x):=⟨rfl,fun _=>rfl,tk rfl⟩
theorem two {q:Nat} {o:Option (FL × St)} (h:Rok o H P b (D ++ [u] ++ [v]) q):Rok o H P b (D ++ [u,v]) q:=by rw [List.append_assoc] at h; exact h
theorem lx_T (hc:Cl2 H P) (hp:Pl b p 60 r) (ih:IH H P b r rd') (ht:Tx (60 :: r)):LX H P b p (rdT rd' r):=by
  have hlen:p + 1 + r.length=b.length:=drop_len (drop_cons hp.hr).2.2 (drop_cons hp.hr).2.1
  have h1:1≤r.length:=by rcases hd_cases ht.hd with ⟨b,rfl⟩ | ⟨b,rfl⟩ | ⟨w,rfl,-⟩ <;> exact Nat.succ_le_succ (Nat.zero_le _)
  refine ite_i (LX H P b p) (fun e=>?_) fun e=>?_
  · have h8:8≤r.length:=by
      have:=congrArg List.length e
      rw [List.length_map,List.length_take] at this
      exact Nat.le_trans (Nat.le_of_eq this.symm) (Nat.min_le_right _ _)
    exact lx_gt (h:=true) hp ih (hp.dr 8) (hlen▸Nat.add_le_add_left h8 (p + 1)) rfl (by rw [e]; rfl) ((ra_doc (D:=[]) (m:=0) (L:=EA b p (p + 9) (p + 9 + (gt (r.drop 8)).length) true (decide ((gt (r.drop 8)).length < (r.drop 8).length))) hc hp (fun _ _ h=>h) (fun _ _=>rfl) (hp.dr 8) .nil (Nat.zero_le _)).2) fun hD hm k N=>(ra_doc hc hp k N (hp.dr 8) hD hm).1
  · have e2:rpl (gt (r.drop 1))=rp (gt (r.drop 1)):=rp_repl _ _ (Nat.lt_succ_self _)
    rw [e2]
    exact lx_gt (h:=false) (T:=[tErr nDoc,tCom (rp (gt (r.drop 1)))]) hp ih (hp.dr 1) (hlen▸Nat.add_le_add_left h1 (p + 1)) rfl (sbne fun q=>e (List.cons.inj q).2) (ft2 rwE rw_com) fun hD hm k N=>two (ra_bog hp k N (hp.dr 1) hD hm)
theorem lx_rd (hc:Cl2 H P) (hp:Pl b p a r) (ih:IH H P b r (rd m)) (ht:Tx (a :: r)):LX H P b p (rd (m + 1) (a :: r)):=by
  have ha:=ht.al1
  have hal:∀ x ∈ r,x ∈ al:=ht.tail.al
  have run:∀ bl,blk a=bl→a ≠ 60→a ≠ 0→LX H P b p (tok bl (a :: r.takeWhile (runQ bl)) :: rd m (r.drop (r.takeWhile (runQ bl)).length)):=fun bl hb h60 h0=>lx_j (T:=[_]) hp ih _ ((Ft.one tok_rw).le (by decide)) fun m D L hD hm k N=>rd_run hp h60 h0 hb k N hD hm
  refine ite_i (LX H P b p) (fun e=>?_) fun h60=>ite_i (LX H P b p) (fun e=>?_) fun h0=>ite_i (LX H P b p) (fun hsp=>?_) fun hsp=>?_
  · subst e
    exact lx_T hc hp ih ht
  · subst e
    exact lx_j (T:=[tErr nINV,tChr [0]]) hp ih 0 (ft2 rwE ⟨rfl,fun _=>rfl,tk rfl⟩) fun m D L hD hm k N=>two (rd_nul hp k N hD hm)
  · rw [show spR r=r.takeWhile (runQ true) from tw_congr fun x hx=>al_sp' x (hal x hx)]
    exact run true ((al_sp a ha).symm.trans hsp) h60 h0
  · rw [show txR r=r.takeWhile (runQ false) from tw_congr fun x hx=>al_tx x (hal x hx)]
    exact run false ((al_sp a ha).symm.trans (Bool.eq_false_iff.mpr hsp)) h60 h0
theorem lx_all (hc:Cl2 H P) (hb:b.length≤300) (ht:Tx b):∀ (m p:Nat),(b.drop p).length < m→LX H P b p (rd m (b.drop p))
  | 0,p,h=>absurd h (Nat.not_lt_zero _)
  | m + 1,p,hm=>by
    cases hr:b.drop p with
    | nil=>exact lx_end (Nat.le_trans hb (by decide)) (List.drop_eq_nil_iff.mp hr)
    | cons a r =>
      rw [hr] at hm
      exact lx_rd hc ⟨hb,hr,fun a ha=>Nat.le_of_ble_eq_true (al_asc a (ht.al a ha))⟩ (fun q hq=>lx_all hc hb ht m q (Nat.lt_of_le_of_lt hq (Nat.lt_of_succ_lt_succ hm))) (hr▸ht.drop p)
theorem lread_sp (hc:Cl2 H P) (hb:b.length≤300) (ht:Tx b):liftO tT CR 31 [.str b] ⟨L,H,7,P⟩=some (.obj (.t 7),⟨L,(.t 7,.list (rd (b.length + 1) b)) :: H,8,P⟩)∧Ft 1000000 (rd (b.length + 1) b):=by
  obtain ⟨L',e,g,hF⟩:=lx_all hc hb ht (b.length + 1) 0 (Nat.lt_succ_self _) bigN 0 [] (E0 b 0) (Nat.lt_of_le_of_lt hb (by decide)) .nil (Nat.le_trans (Nat.le_of_eq (Nat.zero_add _)) (Nat.le_trans (Nat.mul_le_mul_left 1501 hb) (by decide))) (fun _ _ h=>h) (fun _ _=>rfl)
  refine ⟨?_,hF⟩
  show callB CR m_law_read [.str b] ⟨L,H,7,P⟩=_
  refine cB (m:=m_law_read) (as:=[.str b]) (σ':=⟨L',(.t 7,.list (rd (b.length + 1) b)) :: H,8,P⟩) rfl (Ends.exs' ?_)
  exact .fl 1 (e) (.v 0 (g) (.done 1))
end
end Mine
end
noncomputable section
namespace Mine
theorem gr_swap {C:Ora} {m:GenM} {x x' y:St} {dn l:List Mine.V} (e:tst C m.t1 x=tst C m.t1 x') (G:GR C m true x' dn l y):GR C m true x dn l y:=by
  cases G with
  | stop h1 h2=>exact .stop (e.trans h1) h2
  | turn h1 h2 h3=>exact .turn (e.trans h1) h2 h3
theorem t1_eq {σ σ':St} (h:CT 9 [T0] σ=CT 9 [T0] σ') (e:tst CT gM.t1 σ=bn (CT 9 [T0] σ) (fun v τ=>bo (truthy τ v) fun b=>some (b,τ)):=by kernel_rfl) (e':tst CT gM.t1 σ'=bn (CT 9 [T0] σ') (fun v τ=>bo (truthy τ v) fun b=>some (b,τ)):=by kernel_rfl):tst CT gM.t1 σ=tst CT gM.t1 σ':=
  e.trans ((congrArg (bn · _) h).trans e'.symm)
noncomputable def hpL (t:List Nat) (r:List (Id × Ob)):List (Id × Ob):=(.t 5,.list []) :: (.t 4,.list []) :: (.t 3,I3 t 0) :: (.t 2,.list [.int 0]) :: (.t 1,I1 [] 0 0 0 0) :: r
noncomputable def σ1 (t:List Nat):St:=⟨[(0,T0)],(.t 6,.list []) :: hpL t [(.t 0,.inst 3 (fs0 (me 9) .none)),(.p 99,.list [])],7,[99]⟩
theorem run_ok {text:List Nat} (hT:Tx text) (hl:text.length≤300) :
    ∃ l1 l2 cv,CvOk cv∧GR CT gM true (σ1 text) [] (rd (text.length + 1) text) (S1 [] (rd (text.length + 1) text) text [] 0 text.length l1 l2 9 cv):=by
  cases text with
  | nil=>exact ⟨_,_,.none,⟨rfl,fun _=>rfl⟩,gr_swap (t1_eq (by kernel_rfl:CT 9 [T0] (σ1 [])=CT 9 [T0] (S1 [] [] [] [] 0 0 0 0 9 .none))) (.stop (t1_of (x:=none) (data_none rfl rfl)) rfl)⟩
  | cons a src =>
    have hl':(a :: src).length≤1000:=Nat.le_trans hl (by decide)
    obtain ⟨l1,l2,cv,hcv,G⟩:=rd_ok (a :: src) ((a :: src).length + 1) (a :: src) (Nat.lt_succ_self _) hT [] (a :: src) 0 (posF [] 0 0).1 (posF [] 0 0).2 .none ⟨rfl,rfl,Nat.zero_le _,hl',hl'⟩ ⟨rfl,fun _=>rfl⟩ rfl
    exact ⟨l1,l2,cv,hcv,gr_swap (t1_eq ((by kernel_rfl:CT 9 [T0] (σ1 (a :: src))=CT 9 [T0] (S1 [] [] (a :: src) [] 0 0 0 0 9 .none)).trans (data_eq rfl rfl (Nat.le_trans hl' (by decide)) hT.al))) G⟩
theorem rows_of {l:List Mine.V} (h:∀ v ∈ l,Rw v):l.all rowV=true:=List.all_eq_true.mpr fun v hv=>(h v hv).r
noncomputable def pcE:ME:=.sub (.glob gPieces) (.bop .mod (.loc 84) (.k (.int 16)))
noncomputable def pn (k:Nat):List Nat:=match gPieces with
  | .list l=>(match l[k]? with
    | some (.str s)=>s
    | _=>[])
  | _=>[]
noncomputable def pk (i:Int):List Nat:=pn (i % 16).toNat
noncomputable def t0 (ns:List Int):List Nat:=joinL [] ((ns.take 14).map pk)
theorem pk_in (i:Int):(i % 16).toNat ∈ List.range 16:=List.mem_range.mpr ((Int.toNat_lt (Int.emod_nonneg i (by decide))).mpr (Int.emod_lt_of_pos i (by decide)))
theorem sub_pn:∀ k ∈ List.range 16,subV σ0 gPieces (.int (k:Nat))=some (.str (pn k)):=allR (by kernel_rfl)
theorem sub_pieces (i:Int):subV σ0 gPieces (.int (i % 16))=some (.str (pk i)):=by
  have h:=sub_pn _ (pk_in i)
  rw [Int.toNat_of_nonneg (Int.emod_nonneg i (by decide))] at h
  exact h
theorem pn_len:∀ k ∈ List.range 16,Nat.ble (pn k).length 18=true:=allR (by kernel_rfl)
section
variable {r:List Nat}
theorem pn_nY:∀ k ∈ List.range 16,nY (pn k ++ r)=true:=allR (by kernel_rfl)
theorem pn_okT:∀ k ∈ List.range 16,okT (pn k ++ r)=(bif Nat.beq k 13 then (([33,100,111,99,116] ++ r).take 8 == hLo || nY r) && okT r else okT r):=allR (by kernel_rfl)
theorem pk_okT (i:Int) (h:okT r=true∧nY r=true):okT (pk i ++ r)=true∧nY (pk i ++ r)=true:=by
  refine ⟨?_,pn_nY _ (pk_in i)⟩
  unfold pk
  rw [pn_okT _ (pk_in i),h.1,h.2,Bool.or_true]
  cases Nat.beq (i % 16).toNat 13 <;> rfl
theorem flat_ok:∀ ns:List Int,okT ((ns.map pk).flatten)=true∧nY ((ns.map pk).flatten)=true
  | []=>⟨rfl,rfl⟩
  | i :: ns=>pk_okT i (flat_ok ns)
theorem t0_tx (ns:List Int):Tx (t0 ns):=by
  unfold Tx t0
  rw [joinL_flat]
  exact (flat_ok _).1
theorem flat_len {n:Nat}:∀ {l:List (List Nat)},(∀ x ∈ l,x.length≤n)→l.flatten.length≤n * l.length
  | [],_=>Nat.zero_le _
  | x :: l,h=>by
    rw [List.flatten_cons,List.length_append,List.length_cons,Nat.mul_succ,Nat.add_comm]
    exact Nat.add_le_add (flat_len fun y hy=>h y (.tail _ hy)) (h x (.head _))
theorem t0_len (ns:List Int):(t0 ns).length≤252:=by
  unfold t0
  rw [joinL_flat]
  refine Nat.le_trans (flat_len (n:=18) fun x hx=>?_) (Nat.mul_le_mul_left 18 (m:=14) ?_)
  · obtain ⟨i,_,rfl⟩:=List.mem_map.mp hx
    exact Nat.le_of_ble_eq_true (pn_len _ (pk_in i))
  · rw [List.length_map,List.length_take]; exact Nat.min_le_left _ _
end
end Mine
end
noncomputable section
namespace Mine
noncomputable def L1:MS:=.asg 1 (.sm .join (.k (.str [])) [(.comp pcE 84 (.sl (.loc 80) (.k .none) (.k (.int 14))) (.k (.bool true)))])
noncomputable def L3:MS:=.asg 81 (.new 3 30 [(.loc 1)] .tmp)
noncomputable def mkE:ME:=.sub (.loc 83) (.k (.str [99,111,114,114,101,99,116]))
noncomputable def mkC:ME:=.cmp .eq (.sub (.loc 83) (.k (.str [116,121,112,101]))) (.sub (.glob gTokenTypes) (.k (.str [68,111,99,116,121,112,101])))
noncomputable def L4:MS:=.asg 120 (.comp mkE 83 (.loc 82) mkC)
noncomputable def mkC2:ME:=.and (.cmp .isn (.loc 121) (.k (.bool true))) (.cmp .isn (.loc 121) (.k (.bool false)))
noncomputable def L5:MS:=.ret (.and (.cmp .eq (.loc 82) (.call 31 [(.loc 1)])) (.and (.cmp .eq (.comp (.loc 121) 121 (.loc 120) mkC2) (.lst [] .frz)) (.cmp .is (.mcall (.attr (.loc 81) 20 3) 27 1 10 []) (.k .none))))
noncomputable def CL:Ora:=pickO 31 (liftO tT CR) (oraN tT 8)
section
variable {C:Ora} {L:List (Nat × Mine.V)} {H:List (Id × Ob)} {nx:Nat} {P:List Nat} {n:Nat} {v:Mine.V} {t:List Nat} {ns:List Int} {l1 l2:Int} {cv:Mine.V} {tot M:List Mine.V}
theorem pieces:∀ l:List Int,compN (compF (ev C pcE) (ev C (.k (.bool true))) 84 L) (l.map .int) ⟨L,[],0,[]⟩=some ((l.map pk).map .str,⟨L,[],0,[]⟩)
  | []=>rfl
  | i :: l=>by
    have h:ev C pcE ⟨(84,.int i) :: L,[],0,[]⟩=some (.str (pk i),⟨(84,.int i) :: L,[],0,[]⟩):=by
      refine Ends.ev ?_
      exact .v 1 (sub_pieces i) (.done 1)
    show bn (bn (ev C pcE ⟨(84,.int i) :: L,[],0,[]⟩) _) _=_
    rw [h]
    show bn (compN _ (l.map .int) ⟨L,[],0,[]⟩) _=_
    rw [pieces l]; rfl
theorem sl_l {l:List Mine.V} (h:l.length≤maxLen):slV σ0 (.list l) .none (.int 14)=some (.list (l.take 14)):=by
  show gd (Nat.ble l.length maxLen) (some (Mine.V.list (l.take (clampIx l.length (14:Nat)))))=_
  rw [ble h,clamp_min,take_min]; rfl
theorem law_S1 (hn:ns.length≤1000):exc C L1 ⟨[(80,.list (ns.map .int))],[],0,[]⟩=some (.next,⟨[(80,.list (ns.map .int)),(1,.str (t0 ns))],[],0,[]⟩):=by
  have hm:(ns.map Mine.V.int).length≤maxLen:=by rw [List.length_map]; exact Nat.le_trans hn (by decide)
  have hs:=sl_l hm
  rw [← List.map_take] at hs
  have hl:Nat.ble ((ns.take 14).map Mine.V.int).length maxLen=true:=ble (by rw [List.length_map,List.length_take]; exact Nat.le_trans (Nat.min_le_left _ _) (by decide))
  refine Ends.exc' ?_
  exact .v 0 (hs) (.g 1 (hl) (.l 0 (pieces (C:=C) (L:=[(80,.list (ns.map .int))]) (ns.take 14)) (.v 0 (join_ok (l:=(ns.take 14).map pk) (Nat.le_trans (t0_len ns) (by decide))) (.done 1))))
noncomputable def fsT0:List (Nat × Mine.V):=[(20,T1),(39,.none),(40,.bool false),(41,.obj (.t 5)),(42,me 9),(44,.bool false),(45,.none)]
theorem law_S3:exc (oraN tT (n + 4)) L3 ⟨[(80,v),(1,.str t)],[],0,[]⟩=some (.next,⟨[(80,v),(1,.str t),(81,T0)],hpL t [(.t 0,.inst 3 fsT0)],6,[]⟩):=by kernel_rfl
noncomputable def m0:MS:=.asgA (.loc 0) 48 3 (.lst [] .tmp)
noncomputable def σG (t:List Nat):St:=⟨[(0,T0)],hpL t [(.t 0,.inst 3 fsT0)] ++ [(.p 99,.list [])],6,[99]⟩
theorem gen_first:exc C m0 (σG t)=some (.next,σ1 t):=by kernel_rfl
noncomputable def hpZ (t:List Nat) (l1 l2:Int) (cv:Mine.V):List (Id × Ob):=hS (I1 [] 0 0 l1 l2) (I3 t t.length) [(.t 6,.list []),(.t 5,.list []),(.t 4,.list []),(.t 2,.list [.int 0]),(.t 0,.inst 3 (fs0 (me 9) cv))]
noncomputable def locZ (t:List Nat):List (Nat × Mine.V):=[(1,.str t),(81,T0)]
theorem sbZ:(({ S1 [] tot t [] 0 t.length l1 l2 9 cv with loc:=locZ t }:St).sb 99 (.list tot)).setLoc 82 (.list tot)=⟨[(1,.str t),(81,T0),(82,.list tot)],hpZ t l1 l2 (V.sb (.p 99) (.list tot) cv),7,[]⟩:=by kernel_rfl
theorem eq_rows (σ:St) (H:List (Id × Ob)) (hr:tot.all rowV=true):cmpV ⟨σ.loc,(.t 7,.list tot) :: H,8,[]⟩ .eq (.list tot) (.obj (.t 7))=some true:=by
  show gd (V.beqs tot tot && tot.all rowV) (some true)=_
  rw [V.beqs_refl,hr]; rfl
theorem marks_all:∀ l:List Mine.V,(∀ v ∈ l,TK v)→∃ M,compN (compF (ev C mkE) (ev C mkC) 83 L) l ⟨L,H,nx,P⟩=some (M,⟨L,H,nx,P⟩)∧M.length≤l.length∧∀ x ∈ M,∃ b,x=.bool b
  | [],_=>⟨[],rfl,Nat.le_refl _,fun _ h=>nomatch h⟩
  | v :: l,h=>by
    obtain ⟨M,e,hl,hM⟩:=marks_all l fun x hx=>h x (.tail _ hx)
    obtain ⟨ks,vs,k,e1,e2⟩:=h v (.head _)
    by_cases hk:k=0
    · obtain ⟨D,rfl⟩:=e2 hk
      have hF:compF (ev C mkE) (ev C mkC) 83 L (tDoc D.vs) ⟨L,H,nx,P⟩=some (some (.bool D.b),⟨L,H,nx,P⟩):=by kernel_rfl
      refine ⟨.bool D.b :: M,?_,Nat.succ_le_succ hl,fun x hx=>?_⟩
      · show bn (compF _ _ 83 L (tDoc D.vs) ⟨L,H,nx,P⟩) _=_
        rw [hF]
        show bn (compN _ l ⟨L,H,nx,P⟩) _=_
        rw [e]; rfl
      · cases hx with
        | head=>exact ⟨_,rfl⟩
        | tail _ hx=>exact hM x hx
    · subst e1
      have hc:ev C mkC ⟨(83,.dict ([116,121,112,101] :: ks) (.int k :: vs)) :: L,H,nx,P⟩=some (.bool false,⟨(83,.dict ([116,121,112,101] :: ks) (.int k :: vs)) :: L,H,nx,P⟩):=by
        have hk0:some (k == (0:Int))=some false:=congrArg some (beq_eq_false_iff_ne.mpr hk)
        refine Ends.ev ?_
        exact .b 2 (hk0) (.done 1)
      refine ⟨M,?_,Nat.le_succ_of_le hl,hM⟩
      show bn (bn (ev C mkC ⟨(83,.dict ([116,121,112,101] :: ks) (.int k :: vs)) :: L,H,nx,P⟩) _) _=_
      rw [hc]
      show bn (compN _ l ⟨L,H,nx,P⟩) _=_
      rw [e]; rfl
theorem none_all:∀ M:List Mine.V,(∀ x ∈ M,∃ b,x=.bool b)→compN (compF (ev C (.loc 121)) (ev C mkC2) 121 L) M ⟨L,H,nx,P⟩=some ([],⟨L,H,nx,P⟩)
  | [],_=>rfl
  | v :: l,h=>by
    obtain ⟨b,rfl⟩:=h v (.head _)
    have hF:compF (ev C (.loc 121)) (ev C mkC2) 121 L (.bool b) ⟨L,H,nx,P⟩=some (none,⟨L,H,nx,P⟩):=by cases b <;> kernel_rfl
    show bn (compF _ _ 121 L (.bool b) ⟨L,H,nx,P⟩) _=_
    rw [hF]
    show bn (compN _ l ⟨L,H,nx,P⟩) _=_
    rw [none_all l fun x hx=>h x (.tail _ hx)]; rfl
theorem law_S4 (hF:Ft 1000000 tot):∃ M,exc C L4 ⟨[(1,.str t),(81,T0),(82,.list tot)],H,nx,P⟩=some (.next,⟨[(1,.str t),(81,T0),(82,.list tot),(120,.list M)],H,nx,P⟩)∧M.length≤1000000∧∀ x ∈ M,∃ b,x=.bool b:=by
  obtain ⟨M,e,hl,hM⟩:=marks_all (C:=C) (L:=[(1,.str t),(81,T0),(82,.list tot)]) (H:=H) (nx:=nx) (P:=P) tot fun v hv=>(hF.rw v hv).t
  have g1:=gL hF.len (by decide)
  refine ⟨M,Ends.exc' ?_,Nat.le_trans hl hF.len,hM⟩
  exact .g 1 (g1) (.l 0 (e) (.done 1))
theorem cl_Z (h:CvOk cv):Cl2 (hpZ t l1 l2 cv) []:=by
  have hh:∀ k w,hpSb (.p k) w (hpZ t l1 l2 cv)=hpZ t l1 l2 cv:=fun k w=>by
    show hpZ t l1 l2 (V.sb (.p k) w cv)=_
    rw [V.sb_no cv (h.n k)]
  exact ⟨⟨fun _=>rfl,hh 50,rfl,fun h=>nomatch h⟩,⟨fun _=>rfl,hh 51,rfl,fun h=>nomatch h⟩⟩
theorem law_S5 (hcv:CvOk cv) (ht:Tx t) (hl:t.length≤300) (hMl:M.length≤1000000) (hM:∀ x ∈ M,∃ b,x=.bool b) :
    ∃ σ',exc CL L5 ⟨[(1,.str t),(81,T0),(82,.list (rd (t.length + 1) t)),(120,.list M)],hpZ t l1 l2 cv,7,[]⟩=some (.ret (.bool true),σ'):=by
  obtain ⟨h1,hF⟩:=lread_sp (L:=[(1,.str t),(81,T0),(82,.list (rd (t.length + 1) t)),(120,.list M)]) (cl_Z hcv) hl ht
  have hr:=rows_of hF.rw
  generalize rd (t.length + 1) t=tot at hr h1 ⊢
  have h1:CL 31 [.str t] ⟨[(1,.str t),(81,T0),(82,.list tot),(120,.list M)],hpZ t l1 l2 cv,7,[]⟩=_:=h1
  have h2:=char_end (x:=some tot) (n:=4) (L:=[(1,.str t),(81,T0),(82,.list tot),(120,.list M)]) (H:=[(.t 6,.list []),(.t 5,.list []),(.t 4,.list []),(.t 2,.list [.int 0]),(.t 0,.inst 3 (fs0 (me 9) cv))]) (nx:=8) (P:=[]) (ch:=[]) (l1:=l1) (l2:=l2) (Nat.le_trans hl (by decide):t.length≤10240)
  have hn:=none_all (C:=CL) (L:=[(1,.str t),(81,T0),(82,.list tot),(120,.list M)]) (H:=(.t 7,.list tot) :: hpZ t l1 l2 cv) (nx:=8) (P:=[]) M hM
  have g1:=gL hMl (by decide)
  refine ⟨⟨[(1,.str t),(81,T0),(82,.list tot),(120,.list M)],hX (some tot) (I1 [] 0 0 (posF [] l1 l2).1 (posF [] l1 l2).2) (I3 t t.length) [(.t 6,.list []),(.t 5,.list []),(.t 4,.list []),(.t 2,.list [.int 0]),(.t 0,.inst 3 (fs0 (me 9) cv))],8,[]⟩,Ends.exc' ?_⟩
  exact .c 0 (h1) (.b 0 (eq_rows ⟨[(1,.str t),(81,T0),(82,.list tot),(120,.list M)],[],0,[]⟩ (hpZ t l1 l2 cv) hr) (.g 2 (g1) (.l 0 (hn) (.c 7 (h2) (.done 2)))))
end
end Mine
end
noncomputable section
open PySem PySem.Calls PyProof.Rows PySem.W
namespace Mine
noncomputable def fA1 (f:Nat):Addr:=((fAT ++ [268])[f]?).getD 21
noncomputable def cx1 (prog:Program) (wd:World) (K:Frag):Cx:=Cx.mk prog wd K fA1 (fun n=>(cAT[n]?).getD 73) nm1 4
  [(86,gSpace,.ref 22),(87,gLetters,.ref 27),(88,gTokenTypes,.ref 48),(89,gPieces,.ref 767),(90,.none,.none),(122,gBlanks,.ref 768),(123,gQuotes,.ref 769)]
noncomputable def ttL:List (Str × Tok × Int × Tok):=[(Str.ofString "Doctype",532,0,533),(Str.ofString "Characters",534,1,535),(Str.ofString "SpaceCharacters",536,2,537),(Str.ofString "StartTag",538,3,539),
  (Str.ofString "EndTag",540,4,541),(Str.ofString "EmptyTag",542,5,543),(Str.ofString "Comment",544,6,545),(Str.ofString "ParseError",546,7,547)]
theorem nmT_nodup:nmT.Nodup:=by decide +kernel
theorem nmT_head:∀ x ∈ nmT,x.head? ≠ some 0:=by decide +kernel
theorem nm1_inj (i j:Nat) (h:nm1 i=nm1 j):i=j:=by
  unfold nm1 at h
  have h:=toS_inj h
  cases hi:nmT[i]? with
  | none =>
    cases hj:nmT[j]? with
    | none =>
      rw [hi,hj] at h
      simpa using congrArg List.length h
    | some y =>
      rw [hi,hj] at h
      have h:0 :: List.replicate i 1=y:=h
      exact absurd (by rw [← h]; rfl) (nmT_head y (List.mem_of_getElem? hj))
  | some x =>
    cases hj:nmT[j]? with
    | none =>
      rw [hi,hj] at h
      have h:x=0 :: List.replicate j 1:=h
      exact absurd (by rw [h]; rfl) (nmT_head x (List.mem_of_getElem? hi))
    | some y =>
      rw [hi,hj] at h
      have h:x=y:=h
      subst h
      obtain ⟨hl,_⟩:=List.getElem?_eq_some_iff.mp hi
      exact (List.getElem?_inj hl nmT_nodup).mp (hi.trans hj.symm)
theorem nm1_ne {y:List Nat} (hy:y.head? ≠ some 0) (hn:y ∉ nmT) (i:Nat):nm1 i ≠ toS y:=fun h=>by
  unfold nm1 at h
  have h:=toS_inj h
  cases hi:nmT[i]? with
  | none=>rw [hi] at h; exact hy (by rw [← h]; rfl)
  | some x=>rw [hi] at h; exact hn (h▸List.mem_of_getElem? hi)
theorem nm1_dbg (i:Nat):(nm1 i == ("__debug__":Str))=false:=by
  have e:("__debug__":Str)=toS [95,95,100,101,98,117,103,95,95]:=by decide +kernel
  rw [e,beq_eq_false_iff_ne]
  exact nm1_ne (by decide) (by decide +kernel) i
theorem nm1_0 (i:Nat):nm1 i ≠ (".0":Str):=by
  have e:(".0":Str)=toS [46,48]:=by decide +kernel
  rw [e]
  exact nm1_ne (by decide) (by decide +kernel) i
structure Chk1 (prog:Program) (wd:World) (K:Frag):Prop where
  fn:(21 :: (fAT ++ [268])).all (fnIn K)=true
  cls:(73 :: cAT).all (clsOk K)=true
  lim:K.lookup cStatics=some ⟨.none,none,.dict #[] 0,#[]⟩
  big:(K.lookup 3).isSome=true
  g86:nsIn K 3 (nm1 86)=some (some (.ref 22))
  g87:nsIn K 3 (nm1 87)=some (some (.ref 27))
  g88:nsIn K 3 (nm1 88)=some (some (.ref 48))
  g89:nsIn K 3 (nm1 89)=some (some (.ref 767))
  g90:nsIn K 3 (nm1 90)=some (some .none)
  g122:nsIn K 3 (nm1 122)=some (some (.ref 768))
  g123:nsIn K 3 (nm1 123)=some (some (.ref 769))
  v86:chkV K gSpace (.ref 22)=true
  v87:chkV K gLetters (.ref 27)=true
  v89:chkV K gPieces (.ref 767)=true
  v122:chkV K gBlanks (.ref 768)=true
  v123:chkV K gQuotes (.ref 769)=true
  v88:K.lookup 48=some ⟨.type "dict",none,.dict (dictEs wd ttL).toArray 8,#[]⟩
  gen:chkGen (cx1 prog wd K) 53 m0 gM=true
  it:findIn K (.ref 762) "__iter__"=some (some (.ref 268))
  itF:typeIn K (.ref 268)=some (.type "function")
  defs:∀ i m,look tab i=some m→chkDef (cx1 prog wd K) i m=true
theorem getD_all {P:Nat→Bool} {l:List Nat} {d:Nat} (h:(d :: l).all P=true) (i:Nat):P ((l[i]?).getD d)=true:=by
  rw [List.all_eq_true] at h
  cases hi:l[i]? with
  | none=>exact h d (.head _)
  | some x=>exact h x (.tail _ (List.mem_of_getElem? hi))
theorem all7 {α:Type} {P:α→Prop} {a b c d e f g:α} (h1:P a) (h2:P b) (h3:P c) (h4:P d) (h5:P e) (h6:P f) (h7:P g):∀ x ∈ [a,b,c,d,e,f,g],P x:=fun x h=>by
  rcases List.mem_cons.mp h with rfl | h
  · exact h1
  rcases List.mem_cons.mp h with rfl | h
  · exact h2
  rcases List.mem_cons.mp h with rfl | h
  · exact h3
  rcases List.mem_cons.mp h with rfl | h
  · exact h4
  rcases List.mem_cons.mp h with rfl | h
  · exact h5
  rcases List.mem_cons.mp h with rfl | h
  · exact h6
  · exact List.mem_singleton.mp h▸h7
theorem cx1_ok {prog:Program} {wd:World} {K:Frag} (hbi:∀ p ∈ biTab,nsIn K builtinsNs p.1=some (some p.2)) (H:Chk1 prog wd K):(cx1 prog wd K).Ok:=
  ⟨hbi,nm1_inj,nm1_dbg,nm1_0,fun f=>getD_all H.fn f,fun C _=>getD_all H.cls C,H.lim,Option.isSome_iff_exists.mp H.big,fun n v x h=>all7 (P:=fun q:Nat × Mine.V × Value=>nsIn K 3 (nm1 q.1)=some (some q.2.2)) (a:=(86,gSpace,.ref 22)) (b:=(87,gLetters,.ref 27)) (c:=(88,gTokenTypes,.ref 48)) (d:=(89,gPieces,.ref 767)) (e:=(90,.none,.none)) (f:=(122,gBlanks,.ref 768)) (g:=(123,gQuotes,.ref 769)) H.g86 H.g87 H.g88 H.g89 H.g90 H.g122 H.g123 (n,v,x) h,
    fun n v x h F ρ hF=>all7 (P:=fun q:Nat × Mine.V × Value=>VR (cx1 prog wd K) F ρ q.2.1 q.2.2) (a:=(86,gSpace,.ref 22)) (b:=(87,gLetters,.ref 27)) (c:=(88,gTokenTypes,.ref 48)) (d:=(89,gPieces,.ref 767)) (e:=(90,.none,.none)) (f:=(122,gBlanks,.ref 768)) (g:=(123,gQuotes,.ref 769)) (chkV_ok (c:=cx1 prog wd K) hF H.v86) (chkV_ok (c:=cx1 prog wd K) hF H.v87) (dictVal (c:=cx1 prog wd K) H.v88 (by decide +kernel) rfl (by decide +kernel) (by decide) hF) (chkV_ok (c:=cx1 prog wd K) hF H.v89) .none (chkV_ok (c:=cx1 prog wd K) hF H.v122) (chkV_ok (c:=cx1 prog wd K) hF H.v123) (n,v,x) h⟩
theorem OraOk.le {c:Cx} {r r':Nat} {C:Ora} (H:OraOk c r C) (h:r≤r'):OraOk c r' C:=fun _ _ _ _ _ _ _ _ _ _ _ _ hr=>H (hr.le h)
theorem look_snoc {l:List (Id × Ob)} {k i:Id} {x o:Ob} (hn:look l k=none) (h:look (l ++ [(k,x)]) i=some o):look ((k,x) :: l) i=some o:=by
  show (if k=i then some x else look l i)=some o
  induction l with
  | nil=>exact h
  | cons p l ih =>
    obtain ⟨a,b⟩:=p
    have hk:¬ a=k:=fun e=>nn ((if_pos e:look ((a,b) :: l) k=some b).symm.trans hn).symm
    have h:(if a=i then some b else look (l ++ [(k,x)]) i)=some o:=h
    by_cases e:a=i
    · rw [if_pos e] at h
      rw [if_neg fun q:k=i=>hk (e.trans q.symm),show look ((a,b) :: l) i=some b from if_pos e]; exact h
    · rw [if_neg e] at h
      rw [show look ((a,b) :: l) i=look l i from if_neg e]
      exact ih ((if_neg hk).symm.trans hn) h
theorem look2 {P:Nat→Mine.V→Prop} {a b i:Nat} {x y v:Mine.V} (h1:P a x) (h2:P b y) (h:look [(a,x),(b,y)] i=some v):P i v:=by
  unfold look at h
  by_cases e:a=i
  · rw [if_pos e] at h; cases h; exact e▸h1
  · rw [if_neg e] at h
    unfold look at h
    by_cases e:b=i
    · rw [if_pos e] at h; cases h; exact e▸h2
    · exact nn ((if_neg e).symm.trans h)
noncomputable def LP (s₁:Shared):Flow→Shared→Prop:=fun f s'=>f=.ret (.bool true)∧(∀ b o,s₁.heap.get? b=some o→s'.heap.get? b=some o)∧s'.os=s₁.os∧AllBare s'.gens
theorem ora_L {c:Cx} (O:c.Ok) (defs:∀ i m,look tab i=some m→chkDef c i m=true):OraOk c 16 CL:=
  have H3:OraOk c 6 (oraN tT 3):=ora_ok O defs 3
  have HD:OraOk c 8 CD:=pickO_ok (frzO_ok (liftO_ok O defs H3)) (H3.le (by decide))
  have HR:OraOk c 10 CR:=pickO_ok (frzO_ok (liftO_ok O defs HD)) (H3.le (by decide))
  pickO_ok ((liftO_ok O defs HR).le (by decide)) (ora_ok O defs 8)
section
variable {c:Cx} {A:Around} {env:Env} {kn:Str→Option NameKind} {S1 S3 S4 S5:Stmt} {E:Value→Shared→Prop} {g:Gh} {s s₁:Shared} {text:List Nat} {l1 l2:Int} {cv:Mine.V} {v:Mine.V} {np px tp ep pos spos:Pos} {scope:Scope}
theorem law_3 (O:c.Ok) (HL:OraOk c 16 CL) (V:En env kn) (hr:Room A 20) (hall:∀ a o,s₁.heap.get? a=some o→c.K.lookup a=some o) (c4:chkS c kn L4 S4=true) (c5:chkS c kn L5 S5=true) (hTx:Tx text) (hl3:text.length≤300) (hcv:CvOk cv) (hos:s.os=s₁.os) (hab:AllBare s.gens)
    (R:Rel c env g ⟨[(1,.str text),(81,T0),(82,.list (rd (text.length + 1) text))],hpZ text l1 l2 cv,7,[]⟩ s):wpAny c.M A (execs [S4,S5] env) (LP s₁) E s:=by
  have hF:=(lread_sp (L:=[]) (H:=hpZ text l1 l2 cv) (cl_Z hcv) hl3 hTx).2
  obtain ⟨M,h4,hMl,hM⟩:=law_S4 (C:=CL) (t:=text) (H:=hpZ text l1 l2 cv) (nx:=7) (P:=[]) hF
  have r17:Room A 17:=hr.le (by decide)
  refine wpAny_execs_cons (chkS_ok O HL L4 V c4 r17 h4 R fun w₄ s5 g5 R5 X5 E5=>?_)
  cases X5
  obtain ⟨σ',h5⟩:=law_S5 (l1:=l1) (l2:=l2) hcv hTx hl3 hMl hM
  refine wpAny_execs_cons (chkS_ok O HL L5 V c5 r17 h5 R5 fun w₅ s6 g6 R6 X6 E6=>?_)
  obtain ⟨x,rfl,hx⟩:=X6
  cases hx
  exact ⟨rfl,fun b o e=>(R6.kin b o (hall _ _ e)).1,(congrArg Prod.snd E6.gens).trans ((congrArg Prod.snd E5.gens).trans hos),(show s6.gens=s.gens from (congrArg Prod.fst E6.gens).trans (congrArg Prod.fst E5.gens))▸hab⟩
theorem law_2 (O:c.Ok) (HL:OraOk c 16 CL) (HG:OraOk c 10 CT) (V:En env kn) (hr:Room A 20) (hrI:Room A.in1 15) (hall:∀ a o,s₁.heap.get? a=some o→c.K.lookup a=some o) (c4:chkS c kn L4 S4=true) (c5:chkS c kn L5 S5=true)
    (gen:chkGen c 53 m0 gM=true) (it:findIn c.K (.ref (c.cA 3)) "__iter__"=some (some (.ref (c.fA 53)))) (itF:typeIn c.K (.ref (c.fA 53))=some (.type "function"))
    (k81:kn (c.nm 81)=some .local) (k82:kn (c.nm 82)=some .local) (k1:kn (c.nm 1)=some .local)
    (hsc:scopeOk c scope kn 83=true) (hsw:swOk (c.nm 82) np (.ListComp (.Name (c.nm 83) ep) [⟨.Name (c.nm 83) px,.Name (c.nm 81) tp,[],0⟩] scope pos)=true)
    (hTx:Tx text) (hl3:text.length≤300) (hos:s.os=s₁.os) (hg3:s.gens=#[])
    (R:Rel c env g ⟨[(80,v),(1,.str text),(81,T0)],hpL text [(.t 0,.inst 3 fsT0)],6,[]⟩ s) :
    wpAny c.M A (execs [.Assign [.Name (c.nm 82) np] (.ListComp (.Name (c.nm 83) ep) [⟨.Name (c.nm 83) px,.Name (c.nm 81) tp,[],0⟩] scope pos) spos,S4,S5] env) (LP s₁) E s:=by
  obtain ⟨fd,S0,t1,t2,t3,ye,b2,p1,p2,p3,yp,ep',GA,HGL⟩:=chkGen_ok (m0:=m0) (gm:=gM) O HG gen
  obtain ⟨l1,l2,cv,hcv,hrun⟩:=run_ok hTx hl3
  have hF:=(lread_sp (L:=[]) (H:=hpZ text l1 l2 cv) (cl_Z hcv) hl3 hTx).2
  refine wpAny_execs_cons (ex_gen (Q:=_) O V.ok V.cells V.kn ((V.kn _).trans k82) ((V.kn _).trans k81) hsc hsw (f:=53) (Cl:=3) it itF GA HGL (hr.le (by decide)) (hrI.le (by decide)) (σ:=⟨[(80,v),(1,.str text),(81,T0)],hpL text [(.t 0,.inst 3 fsT0)],6,[]⟩) (σG:=σG text) (loc':=locZ text) rfl rfl List.not_mem_nil ⟨rfl,fun i o h=>look_snoc rfl h,Nat.le_refl _,fun k h=>h⟩ rfl gen_first hrun (Nat.lt_of_le_of_lt hF.len (by decide)) hF.nos
    (fun i v=>look2 (P:=fun i v=>look _ i=some v∧env.kindOf (c.nm i)=some .local∧(v=.obj (.t 0)∨∃ z,v=.str z)) ⟨rfl,(V.kn _).trans k1,.inr ⟨_,rfl⟩⟩ ⟨rfl,(V.kn _).trans k81,.inl rfl⟩) R (.of_eq hg3) fun s4 g4 hos4 hab4 R4=>?_)
  rw [sbZ,Mine.V.sb_no cv (hcv.n 99)] at R4
  exact law_3 O HL V hr hall c4 c5 hTx hl3 hcv (hos4.trans hos) hab4 R4
theorem law_1 {P:Params} {a L:Addr} {m:Str→Option Value} {ns:List Int} (O:c.Ok) (defs:∀ i m,look tab i=some m→chkDef c i m=true) (hin:∀ a o,c.K.lookup a=some o→s₁.heap.get? a=some o) (hall:∀ a o,s₁.heap.get? a=some o→c.K.lookup a=some o)
    (hg:s₁.gens=#[]) (W:Well P s₁.heap (.ref a) (ofPy (.list (ns.map PyData.int)))) (hlen:ns.length≤1000) (F:Fr s₁.heap L s.heap m) (hL:env.locals=L) (hm:m (c.nm 80)=some (.ref a)) (hsg:s.gens=s₁.gens) (hso:s.os=s₁.os) (hst:0 < s.toks)
    (V:En env kn) (hr:Room A 20) (hrI:Room A.in1 15) (c1:chkS c kn L1 S1=true) (c3:chkS c kn L3 S3=true) (c4:chkS c kn L4 S4=true) (c5:chkS c kn L5 S5=true)
    (gen:chkGen c 53 m0 gM=true) (it:findIn c.K (.ref (c.cA 3)) "__iter__"=some (some (.ref (c.fA 53)))) (itF:typeIn c.K (.ref (c.fA 53))=some (.type "function"))
    (k80:kn (c.nm 80)=some .local) (k81:kn (c.nm 81)=some .local) (k82:kn (c.nm 82)=some .local) (k1:kn (c.nm 1)=some .local)
    (hsc:scopeOk c scope kn 83=true) (hsw:swOk (c.nm 82) np (.ListComp (.Name (c.nm 83) ep) [⟨.Name (c.nm 83) px,.Name (c.nm 81) tp,[],0⟩] scope pos)=true) :
    wpAny c.M A (execs [S1,S3,.Assign [.Name (c.nm 82) np] (.ListComp (.Name (c.nm 83) ep) [⟨.Name (c.nm 83) px,.Name (c.nm 81) tp,[],0⟩] scope pos) spos,S4,S5] env) (LP s₁) E s:=by
  obtain ⟨vs,hao,hvs⟩:=list_of_well W
  have HO:OraOk c 16 (oraN tT 8):=ora_ok O defs 8
  have r17:Room A 17:=hr.le (by decide)
  have R0:Rel c env g0 ⟨[(80,.list (ns.map .int))],[],0,[]⟩ s:=rel_start (h₀:=s₁.heap) hin F hL hm ((V.kn _).trans k80) (fun F ρ hF=>.list (items:=vs.toArray) (n:=0) (hF _ _ (hall _ _ hao)) (hvs c F ρ)) hst
  refine wpAny_execs_cons (chkS_ok O HO L1 V c1 r17 (law_S1 hlen) R0 fun w₁ s1 g1 R1 X1 E1=>?_)
  cases X1
  refine wpAny_execs_cons (chkS_ok O HO L3 V c3 r17 (law_S3 (n:=4)) R1 fun w₃ s3 g3 R3 X3 E3=>?_)
  cases X3
  have e3:gos s3=gos s:=E3.gens.trans E1.gens
  exact law_2 O (ora_L O defs) (normO_ok (liftO_ok O defs (normO_ok (ora_ok O defs 4)))) V hr hrI hall c4 c5 gen it itF k81 k82 k1 hsc hsw (t0_tx ns) (Nat.le_trans (t0_len ns) (by decide)) ((congrArg Prod.snd e3).trans hso) ((congrArg Prod.fst e3).trans (hsg.trans hg)) R3
end
theorem law1_core {prog:Program} {w:World} {K0:Frag} {P:Params} {s₁ s:Shared} {a:Addr} {mb m:Str→Option Value} {A:Around} {env:Env} {L:Addr} {ns:List Int} {S1 S3 S4 S5:Stmt} {kn:Str→Option NameKind}
    {y82 y83 y81:Str} {np px tp ep pos spos:Pos} {scope:Scope} {E:Value→Shared→Prop}
    (KX:K0.In s₁.heap) (hb:s₁.heap.Ns builtinsNs mb) (hbi:∀ x:Str,x ≠ "__name__"→mb x=bootBuiltins x) (hg:s₁.gens=#[]) (W:Well P s₁.heap (.ref a) (ofPy (.list (ns.map PyData.int)))) (hlen:ns.length≤1000)
    (F:Fr s₁.heap L s.heap m) (hL:env.locals=L) (hm:m (nm1 80)=some (.ref a)) (hsg:s.gens=s₁.gens) (hso:s.os=s₁.os) (hst:0 < s.toks)
    (VV:EnvOk env) (VC:EnvCells env) (hkn:∀ x,env.kindOf x=kn x) (hr:Room A 20) (hrI:Room A.in1 15)
    (H:Chk1 prog w (K0 ++ allOf s₁.heap)) (k80:kn (nm1 80)=some .local) (k81:kn (nm1 81)=some .local) (k82:kn (nm1 82)=some .local) (k1:kn (nm1 1)=some .local) (e82:y82=nm1 82) (e83:y83=nm1 83) (e81:y81=nm1 81)
    (c1:chkS (cx1 prog w (K0 ++ allOf s₁.heap)) kn L1 S1=true) (c3:chkS (cx1 prog w (K0 ++ allOf s₁.heap)) kn L3 S3=true) (c4:chkS (cx1 prog w (K0 ++ allOf s₁.heap)) kn L4 S4=true) (c5:chkS (cx1 prog w (K0 ++ allOf s₁.heap)) kn L5 S5=true)
    (hsc:scopeOk (cx1 prog w (K0 ++ allOf s₁.heap)) scope kn 83=true) (hsw:swOk y82 np (.ListComp (.Name y83 ep) [⟨.Name y83 px,.Name y81 tp,[],0⟩] scope pos)=true) :
    wpAny (model prog w) A (execs [S1,S3,.Assign [.Name y82 np] (.ListComp (.Name y83 ep) [⟨.Name y83 px,.Name y81 tp,[],0⟩] scope pos) spos,S4,S5] env) (LP s₁) E s:=by
  subst e82 e83 e81
  have hall:=fun {a o} e=>app_all (K:=K0) KX (a:=a) (o:=o) e
  exact law_1 (c:=cx1 prog w (K0 ++ allOf s₁.heap)) (cx1_ok (bi_of (fun a o e=>hall e) hb hbi) H) H.defs (fun a o e=>app_in KX a o e) (fun a o e=>hall e) hg W hlen F hL hm hsg hso hst ⟨VV,VC,hkn⟩ hr hrI c1 c3 c4 c5 H.gen H.it H.itF k80 k81 k82 k1 hsc hsw
end Mine
end
noncomputable section
open PySem PySem.Calls PyProof.Rows PySem.W
namespace Mine
noncomputable def lawNames:List (Str × NameKind):=[(Str.ofString "script",NameKind.local),(Str.ofString "text",NameKind.local),(Str.ofString "t",NameKind.local),(Str.ofString "got",NameKind.local),(Str.ofString "marks",NameKind.local),(Str.ofString "HTMLTokenizer",NameKind.globalImplicit),(Str.ofString "_law_read",NameKind.globalImplicit)]
theorem look_mem' {α β:Type} [DecidableEq α]:∀ {l:List (α × β)} {a:α} {b:β},look l a=some b→(a,b) ∈ l
  | [],_,_,h=>by cases h
  | (x,y) :: l,a,b,h=>by
    unfold look at h
    split at h
    · rename_i e; subst e; cases h; exact .head _
    · exact .tail _ (look_mem' h)
theorem defs_of {c:Cx} (h:∀ p ∈ tab,chkDef c p.1 p.2=true) (i:Nat) (m:MFun) (e:look tab i=some m):chkDef c i m=true:=h _ (look_mem' e)
theorem room_of {A:Around} {r:Nat} (h1:A.handled=none) (h2:decide (A.depth + r < recursionLimit)=true) (h3:decide (A.units + 20 * r + 300 < cLine)=true):Room A r:=⟨h1,of_decide_eq_true h2,of_decide_eq_true h3⟩
theorem law_nocell (x:Str) (h:List.lookup x lawNames=some .cell):False:=by
  have hm:=lookup_mem h
  have:∀ p ∈ lawNames,p.2 ≠ .cell:=by decide +kernel
  exact this _ hm rfl
end Mine
end
namespace Mine
theorem hx.tw2722494911219165771:True:=.intro
theorem hx.tw17490039241966878470:True:=.intro
theorem hx.tw13121428878594284678:True:=.intro
theorem hx.tw8689431418697317241:True:=.intro
theorem hx.tw13994185481600150508:True:=.intro
theorem hx.tw7686487335969427304:True:=.intro
theorem hx.tw12244323609287083244:True:=.intro
theorem hx.tw12687340035147016154:True:=.intro
theorem hx.tw13733672604495292696:True:=.intro
theorem hx.tw3802569660202298772:True:=.intro
theorem hx.tw663058311725963850:True:=.intro
theorem hx.tw4149262921692028645:True:=.intro
theorem hx.tw14319195189009250854:True:=.intro
theorem hx.tw6472239261815649849:True:=.intro
theorem hx.tw12369505070293475891:True:=.intro
theorem hx.tw16403607636861804150:True:=.intro
theorem hx.tw11651215647737651630:True:=.intro
theorem hx.tw6514015525448506650:True:=.intro
theorem hx.tw6930950759929274386:True:=.intro
theorem hx.tw616740878971486716:True:=.intro
theorem hx.tw15446179714025208549:True:=.intro
theorem hx.tw4464470257532119317:True:=.intro
theorem hx.tw2287549446805351391:True:=.intro
theorem hx.tw4138548494544933065:True:=.intro
theorem hx.tw4293664988331523337:True:=.intro
theorem hx.tw3399465718499267812:True:=.intro
theorem hx.tw1680849517792564725:True:=.intro
theorem hx.tw8719310546069769394:True:=.intro
theorem hx.tw3601925729670787442:True:=.intro
theorem hx.tw16175857573809386902:True:=.intro
theorem hx.tw11153406825157011147:True:=.intro
theorem hx.tw1011593914326734453:True:=.intro
theorem hx.tw15466940415637129421:True:=.intro
theorem hx.tw13835724759982542066:True:=.intro
theorem hx.tw4269251904459062986:True:=.intro
theorem hx.tw12592994705595984505:True:=.intro
theorem hx.tw1415654423932628287:True:=.intro
theorem hx.tw3762958163772505196:True:=.intro
theorem hx.tw12686574865534796699:True:=.intro
theorem hx.tw12847005640276605815:True:=.intro
theorem hx.tw9166759312617231822:True:=.intro
theorem hx.tw15744881008354321025:True:=.intro
theorem hx.tw6836243782229160083:True:=.intro
theorem hx.tw9098983783718519904:True:=.intro
theorem hx.tw15162508186903103783:True:=.intro
theorem hx.tw14743528497057034386:True:=.intro
theorem hx.tw12938584960106786947:True:=.intro
theorem hx.tw1285434511704224072:True:=.intro
theorem hx.tw13327334872544604925:True:=.intro
theorem hx.tw2736625963029525553:True:=.intro
theorem hx.tw11542809368468670571:True:=.intro
theorem hx.tw8526741685566437804:True:=.intro
theorem hx.tw5987738072841988675:True:=.intro
theorem hx.tw6103871502414683963:True:=.intro
theorem hx.tw2580623763806008135:True:=.intro
theorem hx.tw18163383231904437410:True:=.intro
theorem hx.tw1727578327119604153:True:=.intro
theorem hx.tw18436989916982367924:True:=.intro
theorem hx.tw9756176730170026455:True:=.intro
theorem hx.tw9818837363699442920:True:=.intro
theorem hx.tw14618633012687346700:True:=.intro
theorem hx.tw7006290627943131901:True:=.intro
theorem hx.tw13003758396033250783:True:=.intro
theorem hx.tw6700631356736508036:True:=.intro
theorem hx.tw4439321647937447777:True:=.intro
theorem hx.tw16909937564651206706:True:=.intro
theorem hx.tw15024933671316692954:True:=.intro
theorem hx.tw12485916779449614927:True:=.intro
theorem hx.tw7462397087798485187:True:=.intro
theorem hx.tw17623875274069940759:True:=.intro
theorem hx.tw2924628002121016683:True:=.intro
theorem hx.tw4875394742973762422:True:=.intro
theorem hx.tw13972809315311186568:True:=.intro
theorem hx.tw7590231348009606088:True:=.intro
theorem hx.tw3457709029089074591:True:=.intro
theorem hx.tw13273623471580055978:True:=.intro
theorem hx.tw7891766511613034010:True:=.intro
theorem hx.tw15215796203213042296:True:=.intro
theorem hx.tw6661460279421622568:True:=.intro
theorem hx.tw14626987222883238387:True:=.intro
theorem hx.tw545596935602045732:True:=.intro
theorem hx.tw2358503780328766540:True:=.intro
theorem hx.tw584368869492153410:True:=.intro
theorem hx.tw14564351093087913541:True:=.intro
theorem hx.tw11605663943579434254:True:=.intro
theorem hx.tw6954632005528137224:True:=.intro
theorem hx.tw9464382187203803050:True:=.intro
theorem hx.tw8360991337320666301:True:=.intro
theorem hx.tw9580753470902210594:True:=.intro
theorem hx.tw10807983823035302247:True:=.intro
theorem hx.tw16440296595461833803:True:=.intro
theorem hx.tw4283430462085702152:True:=.intro
theorem hx.tw13861093565919502260:True:=.intro
theorem hx.tw1089165632158530400:True:=.intro
theorem hx.tw5302141714640544522:True:=.intro
theorem hx.tw13970432741380693950:True:=.intro
theorem hx.tw3840107357115572158:True:=.intro
theorem hx.tw12770057050171300576:True:=.intro
theorem hx.tw15558058551083894160:True:=.intro
theorem hx.tw18272945143815115441:True:=.intro
theorem hx.tw7575134019868595920:True:=.intro
theorem hx.tw11306379504899602045:True:=.intro
theorem hx.tw2710400381458813344:True:=.intro
theorem hx.tw10916607958114097716:True:=.intro
theorem hx.tw1277046806435012942:True:=.intro
theorem hx.tw17329162247811163424:True:=.intro
theorem hx.tw16816359877758261231:True:=.intro
theorem hx.tw8079086679360255983:True:=.intro
theorem hx.tw9386880952526680653:True:=.intro
theorem hx.tw17882310838744935415:True:=.intro
theorem hx.tw18376012014735405661:True:=.intro
theorem hx.tw1217080896915090328:True:=.intro
theorem hx.tw5835382612795334523:True:=.intro
theorem hx.tw15929811917968181784:True:=.intro
theorem hx.tw10413734220558041264:True:=.intro
theorem hx.tw18141915107381044649:True:=.intro
theorem hx.tw11150338070433746062:True:=.intro
theorem hx.tw5841609243541674958:True:=.intro
theorem hx.tw6094537120995972945:True:=.intro
theorem hx.tw16562810249119712046:True:=.intro
theorem hx.tw173491282623094914:True:=.intro
theorem hx.tw16837400048201893026:True:=.intro
theorem hx.tw4331322168288796995:True:=.intro
theorem hx.tw3245460484126576377:True:=.intro
theorem hx.tw8177863064353930860:True:=.intro
theorem hx.tw1100523350065315309:True:=.intro
theorem hx.tw18332205937138622689:True:=.intro
theorem hx.tw14897263000708364615:True:=.intro
theorem hx.tw3750262793593453663:True:=.intro
theorem hx.tw11068639925614717322:True:=.intro
theorem hx.tw8812941233019382706:True:=.intro
theorem hx.tw8013753438709209555:True:=.intro
theorem hx.tw15414558616249902002:True:=.intro
theorem hx.tw1106535952462682261:True:=.intro
theorem hx.tw6030892366491303188:True:=.intro
theorem hx.tw8461401184963371166:True:=.intro
theorem hx.tw5863528539954413117:True:=.intro
theorem hx.tw18215676871104998399:True:=.intro
theorem hx.tw16220354117797179089:True:=.intro
theorem hx.tw3151352308241419672:True:=.intro
theorem hx.tw4601627501900363749:True:=.intro
theorem hx.tw663216957817655072:True:=.intro
theorem hx.tw4621005963601903657:True:=.intro
theorem hx.tw15533950225396448702:True:=.intro
theorem hx.tw2035867306989460822:True:=.intro
theorem hx.tw16424919972379304380:True:=.intro
theorem hx.tw17925394340532287749:True:=.intro
theorem hx.tw12991532671812350252:True:=.intro
theorem hx.tw292709383975957704:True:=.intro
theorem hx.tw607712491831585991:True:=.intro
theorem hx.tw3767164605852734177:True:=.intro
theorem hx.tw16499915818153552408:True:=.intro
theorem hx.tw14511709716187995092:True:=.intro
theorem hx.tw8280520150143245440:True:=.intro
theorem hx.tw4459410774582096363:True:=.intro
theorem hx.tw15536713197984420945:True:=.intro
theorem hx.tw9229111910879503682:True:=.intro
theorem hx.tw5517287800428746079:True:=.intro
theorem hx.tw6234722803267601620:True:=.intro
theorem hx.tw16842200711778894795:True:=.intro
theorem hx.tw11069186370953701041:True:=.intro
theorem hx.tw15515426146827161799:True:=.intro
theorem hx.tw12294144641388205969:True:=.intro
theorem hx.tw1362163949497883158:True:=.intro
theorem hx.tw2199997441397630927:True:=.intro
theorem hx.tw12103094082663812918:True:=.intro
theorem hx.tw13173629366862862663:True:=.intro
theorem hx.tw5044738186272462081:True:=.intro
theorem hx.tw2899951234114317963:True:=.intro
theorem hx.tw15396066670179936615:True:=.intro
theorem hx.tw15882349035831147880:True:=.intro
theorem hx.tw14621872504664255023:True:=.intro
theorem hx.tw5258523180806066235:True:=.intro
theorem hx.tw2101144305115712416:True:=.intro
theorem hx.tw1213227437831104790:True:=.intro
theorem hx.tw14044817671008982184:True:=.intro
theorem hx.tw6912957689366828898:True:=.intro
theorem hx.tw1375955018112806077:True:=.intro
theorem hx.tw12389214559413477026:True:=.intro
theorem hx.tw17683900609896704795:True:=.intro
theorem hx.tw11213325380585884853:True:=.intro
theorem hx.tw9838419238923530799:True:=.intro
theorem hx.tw14234647318738002451:True:=.intro
theorem hx.tw15622713162970399124:True:=.intro
theorem hx.tw13307316372228832604:True:=.intro
theorem hx.tw12392353606877693820:True:=.intro
theorem hx.tw6150637109426312374:True:=.intro
theorem hx.tw2598453218603719200:True:=.intro
theorem hx.tw13987342028335386337:True:=.intro
theorem hx.tw4036626835755369765:True:=.intro
theorem hx.tw17809212181156274236:True:=.intro
theorem hx.tw3943997633466964473:True:=.intro
theorem hx.tw11092232630674199974:True:=.intro
theorem hx.tw9813795721771584830:True:=.intro
theorem hx.tw1633863039109725667:True:=.intro
theorem hx.tw3146596328094197638:True:=.intro
theorem hx.tw3316146503202191264:True:=.intro
theorem hx.tw12796349732060051669:True:=.intro
theorem hx.tw5973647403945334939:True:=.intro
theorem hx.tw9859013073388247969:True:=.intro
theorem hx.tw11031246882950601735:True:=.intro
theorem hx.tw18436102530548493083:True:=.intro
theorem hx.tw13835442340154775703:True:=.intro
theorem hx.tw8579013771545413559:True:=.intro
theorem hx.tw1749809594243765621:True:=.intro
theorem hx.tw2065282591040969955:True:=.intro
theorem hx.tw1550649239420292291:True:=.intro
theorem hx.tw8346943369959206681:True:=.intro
theorem hx.tw7135545248255827829:True:=.intro
theorem hx.tw8136324640566705494:True:=.intro
theorem hx.tw14580385827833458236:True:=.intro
theorem hx.tw13503048917051318853:True:=.intro
theorem hx.tw4496917712743702866:True:=.intro
theorem hx.tw13343930504226383752:True:=.intro
theorem hx.tw2923197144701775926:True:=.intro
theorem hx.tw3497297687653118206:True:=.intro
theorem hx.tw15719070241404046249:True:=.intro
theorem hx.tw206405052526537190:True:=.intro
theorem hx.tw13516186739440186774:True:=.intro
theorem hx.tw12327228567736898484:True:=.intro
theorem hx.tw11235557421540341822:True:=.intro
theorem hx.tw16589706772153868580:True:=.intro
theorem hx.tw17935817764870156833:True:=.intro
theorem hx.tw10665394928749936821:True:=.intro
theorem hx.tw8724208511557814752:True:=.intro
theorem hx.tw14648767878841662682:True:=.intro
theorem hx.tw15495526600766341446:True:=.intro
theorem hx.tw10032705692053745590:True:=.intro
theorem hx.tw15225155743707457426:True:=.intro
theorem hx.tw15088012910613175391:True:=.intro
theorem hx.tw2690994299918733986:True:=.intro
theorem hx.tw5458019789550090450:True:=.intro
theorem hx.tw17470671377001224703:True:=.intro
theorem hx.tw13959426194186691099:True:=.intro
theorem hx.tw15822566648252787351:True:=.intro
theorem hx.tw11113180872011636366:True:=.intro
theorem hx.tw15192764956840726322:True:=.intro
theorem hx.tw16876156297239570298:True:=.intro
theorem hx.tw13817252110603802430:True:=.intro
theorem hx.tw9533102366209435770:True:=.intro
theorem hx.tw15871474243252748558:True:=.intro
theorem hx.tw15723387810056000692:True:=.intro
theorem hx.tw6663271504411264886:True:=.intro
theorem hx.tw4790614838382506437:True:=.intro
theorem hx.tw7602591636524428644:True:=.intro
theorem hx.tw13332032050029514827:True:=.intro
theorem hx.tw6386498509896015619:True:=.intro
theorem hx.tw4149058065308597245:True:=.intro
theorem hx.tw8146969407493219791:True:=.intro
theorem hx.tw11179572112720946581:True:=.intro
theorem hx.tw16768336167809996915:True:=.intro
theorem hx.tw1995053994498031341:True:=.intro
theorem hx.tw12064557612275603510:True:=.intro
theorem hx.tw9274210203733589373:True:=.intro
theorem hx.tw14789575009835510191:True:=.intro
theorem hx.tw424504289860297139:True:=.intro
theorem hx.tw15573648297817959892:True:=.intro
theorem hx.tw16461100926929236453:True:=.intro
theorem hx.tw11592700142680101160:True:=.intro
theorem hx.tw3276714930261760037:True:=.intro
theorem hx.tw16751661018229691023:True:=.intro
theorem hx.tw3064612590093021604:True:=.intro
theorem hx.tw11828892080821551344:True:=.intro
theorem hx.tw17654875645198222230:True:=.intro
theorem hx.tw9253537096709452137:True:=.intro
theorem hx.tw819323422259667789:True:=.intro
theorem hx.tw4778239293986166988:True:=.intro
theorem hx.tw3053297864210675017:True:=.intro
theorem hx.tw5079612726228634382:True:=.intro
theorem hx.tw2513472254534321444:True:=.intro
theorem hx.tw386089926610526211:True:=.intro
theorem hx.tw12736376338062017885:True:=.intro
theorem hx.tw586116338256856407:True:=.intro
theorem hx.tw4535242917892251827:True:=.intro
theorem hx.tw6645837424847773088:True:=.intro
theorem hx.tw4638685165426952821:True:=.intro
theorem hx.tw11191459938088770506:True:=.intro
theorem hx.tw1927792282007945085:True:=.intro
theorem hx.tw17626744831489513375:True:=.intro
theorem hx.tw8916866690797206258:True:=.intro
theorem hx.tw11398092985049769381:True:=.intro
theorem hx.tw11576060578404032109:True:=.intro
theorem hx.tw14031144883048642870:True:=.intro
theorem hx.tw14820731338257822114:True:=.intro
theorem hx.tw13887421244684101553:True:=.intro
theorem hx.tw380438602855622199:True:=.intro
theorem hx.tw6893509615905794137:True:=.intro
theorem hx.tw4374200977429756228:True:=.intro
theorem hx.tw1837536587343590555:True:=.intro
theorem hx.tw7778657530300345364:True:=.intro
theorem hx.tw3772895889506965678:True:=.intro
theorem hx.tw12214142614001633608:True:=.intro
theorem hx.tw9728688711462037987:True:=.intro
theorem hx.tw13100434611214814302:True:=.intro
theorem hx.tw14643307926423651170:True:=.intro
theorem hx.tw17769805437143071325:True:=.intro
theorem hx.tw6638917229641446417:True:=.intro
theorem hx.tw14728151803300476778:True:=.intro
theorem hx.tw16049945830730340309:True:=.intro
theorem hx.tw11529457255951468018:True:=.intro
theorem hx.tw4328668841899091544:True:=.intro
theorem hx.tw10775750784532548772:True:=.intro
theorem hx.tw9327343547758340640:True:=.intro
theorem hx.tw13348707166376220045:True:=.intro
theorem hx.tw13550084529305936786:True:=.intro
theorem hx.tw540753489051694059:True:=.intro
theorem hx.tw8313530265402521625:True:=.intro
theorem hx.tw8720997637451098481:True:=.intro
theorem hx.tw2632103891241972161:True:=.intro
theorem hx.tw4925180145992722077:True:=.intro
theorem hx.tw13418063953174990607:True:=.intro
theorem hx.tw3005603348570663604:True:=.intro
theorem hx.tw2356886095614281275:True:=.intro
theorem hx.tw16670953707802882552:True:=.intro
theorem hx.tw512089013297016134:True:=.intro
theorem hx.tw14892758982169950362:True:=.intro
theorem hx.tw13540067391981041044:True:=.intro
theorem hx.tw11583711831427307319:True:=.intro
theorem hx.tw2462484140620534453:True:=.intro
theorem hx.tw10669548194688061899:True:=.intro
theorem hx.tw13541313388752826813:True:=.intro
theorem hx.tw16427613422207729866:True:=.intro
theorem hx.tw11906715856835866592:True:=.intro
theorem hx.tw13726367727983386747:True:=.intro
theorem hx.tw634369046800973281:True:=.intro
theorem hx.tw2933574226750363228:True:=.intro
theorem hx.tw8866640492970853812:True:=.intro
theorem hx.tw3763460144122106664:True:=.intro
theorem hx.tw34971102862420792:True:=.intro
theorem hx.tw18214102734720347575:True:=.intro
theorem hx.tw14063277586053297487:True:=.intro
theorem hx.tw4736886695178322556:True:=.intro
theorem hx.tw3803119400003127940:True:=.intro
theorem hx.tw2614121834998817442:True:=.intro
theorem hx.tw5279657954283368098:True:=.intro
theorem hx.tw15761037773510429378:True:=.intro
theorem hx.tw7924969997821631868:True:=.intro
theorem hx.tw11606427810006902776:True:=.intro
theorem hx.tw16439351170449580089:True:=.intro
theorem hx.tw12866121850660868255:True:=.intro
theorem hx.tw4027200573524075328:True:=.intro
theorem hx.tw12886684066980348408:True:=.intro
theorem hx.tw11803736057804005719:True:=.intro
theorem hx.tw14737546165473383909:True:=.intro
theorem hx.tw17034685950025090854:True:=.intro
theorem hx.tw3126803895974666599:True:=.intro
theorem hx.tw7641737541655678421:True:=.intro
theorem hx.tw8652588082031224057:True:=.intro
theorem hx.tw8374021121780711109:True:=.intro
theorem hx.tw5663202204576575629:True:=.intro
theorem hx.tw8791178820788453978:True:=.intro
theorem hx.tw4994087634880098733:True:=.intro
theorem hx.tw11855829562293527186:True:=.intro
theorem hx.tw1206601256437087541:True:=.intro
theorem hx.tw14344502140286423506:True:=.intro
theorem hx.tw4032430191049862950:True:=.intro
theorem hx.tw12943594393411517771:True:=.intro
theorem hx.tw16297621413855188116:True:=.intro
theorem hx.tw11571822667871770767:True:=.intro
theorem hx.tw16940700322699712139:True:=.intro
theorem hx.tw11876984885562000650:True:=.intro
theorem hx.tw17244838754368169183:True:=.intro
theorem hx.tw3874887093996765642:True:=.intro
theorem hx.tw2448402593769926005:True:=.intro
theorem hx.tw15283793992842430438:True:=.intro
theorem hx.tw2428139205326471388:True:=.intro
theorem hx.tw856499453091330405:True:=.intro
theorem hx.tw8893464231985360406:True:=.intro
theorem hx.tw9279888435216144913:True:=.intro
theorem hx.tw14317288427323871922:True:=.intro
theorem hx.tw1980247363165879429:True:=.intro
theorem hx.tw14296386997998854089:True:=.intro
theorem hx.tw14302440575911937650:True:=.intro
theorem hx.tw5230821695279976462:True:=.intro
theorem hx.tw2884559834261289398:True:=.intro
theorem hx.tw3423346011291521542:True:=.intro
theorem hx.tw2998769833626035175:True:=.intro
theorem hx.tw16053221933270867258:True:=.intro
theorem hx.tw10021054893070784354:True:=.intro
theorem hx.tw6576187036372545591:True:=.intro
theorem hx.tw4178432983367478423:True:=.intro
theorem hx.tw17026870021466092750:True:=.intro
theorem hx.tw9115037031211061566:True:=.intro
theorem hx.tw4327957577253540203:True:=.intro
theorem hx.tw4567406995535283511:True:=.intro
theorem hx.tw3127049559752940807:True:=.intro
theorem hx.tw10877914472530759936:True:=.intro
theorem hx.tw13055073067585543872:True:=.intro
theorem hx.tw11068126759796092325:True:=.intro
theorem hx.tw8644560031705490810:True:=.intro
theorem hx.tw3055073173289775447:True:=.intro
theorem hx.tw15222671194020912597:True:=.intro
theorem hx.tw11795387172512413407:True:=.intro
theorem hx.tw5707194690098638471:True:=.intro
theorem hx.tw10403954177801633367:True:=.intro
theorem hx.tw12047900415351236395:True:=.intro
theorem hx.tw10617194249185857529:True:=.intro
theorem hx.tw2618490190428073017:True:=.intro
theorem hx.tw10966697501526704846:True:=.intro
theorem hx.tw3461369719786860586:True:=.intro
theorem hx.tw4277992108151645805:True:=.intro
theorem hx.tw2410510681439456458:True:=.intro
theorem hx.tw1463196147053303394:True:=.intro
theorem hx.tw13913423702112267812:True:=.intro
theorem hx.tw13339376231836091768:True:=.intro
theorem hx.tw14640549305066258129:True:=.intro
theorem hx.tw17440233237446270221:True:=.intro
theorem hx.tw3228090532262280768:True:=.intro
theorem hx.tw8174265049933217202:True:=.intro
theorem hx.tw6590801892334686599:True:=.intro
theorem hx.tw17573937718456619690:True:=.intro
theorem hx.tw3476191433996461152:True:=.intro
theorem hx.tw122895109851674273:True:=.intro
theorem hx.tw10917978164973679542:True:=.intro
theorem hx.tw14935978850545421419:True:=.intro
theorem hx.tw12377959399836290067:True:=.intro
theorem hx.tw7535301439831773900:True:=.intro
theorem hx.tw4396568497912434250:True:=.intro
theorem hx.tw1649793746503978037:True:=.intro
theorem hx.tw12460776751494502404:True:=.intro
theorem hx.tw14674748507097392900:True:=.intro
theorem hx.tw13500318469228345713:True:=.intro
theorem hx.tw3950329949160742250:True:=.intro
theorem hx.tw17076165290426530464:True:=.intro
theorem hx.tw6272355060770995885:True:=.intro
theorem hx.tw18318817810866021139:True:=.intro
theorem hx.tw990764820897086996:True:=.intro
theorem hx.tw10075024934479904143:True:=.intro
theorem hx.tw12223445727089935259:True:=.intro
theorem hx.tw12087079219971932454:True:=.intro
theorem hx.tw9463795675075205437:True:=.intro
theorem hx.tw8078265402885471976:True:=.intro
theorem hx.tw5220988169690193284:True:=.intro
theorem hx.tw16625174259953595169:True:=.intro
theorem hx.tw8918006350611020791:True:=.intro
theorem hx.tw3764820160496289554:True:=.intro
theorem hx.tw5438862692097330487:True:=.intro
theorem hx.tw4216420034110358939:True:=.intro
theorem hx.tw3696901218909831053:True:=.intro
theorem hx.tw8257418829022891257:True:=.intro
theorem hx.tw17080153362635259050:True:=.intro
theorem hx.tw9876159777357936899:True:=.intro
theorem hx.tw11912952599753793277:True:=.intro
theorem hx.tw2745991006798580251:True:=.intro
theorem hx.tw17053829761978471420:True:=.intro
theorem hx.tw3809554658679441229:True:=.intro
theorem hx.tw7290374712976444997:True:=.intro
theorem hx.tw11952842228531929067:True:=.intro
theorem hx.tw2691867992351240810:True:=.intro
theorem hx.tw6948474134290792126:True:=.intro
theorem hx.tw8725880175513150802:True:=.intro
theorem hx.tw14919038862432082165:True:=.intro
theorem hx.tw1016313470199982537:True:=.intro
theorem hx.tw5751903802948610276:True:=.intro
theorem hx.tw15656486127985483219:True:=.intro
theorem hx.tw12585681302598367607:True:=.intro
theorem hx.tw9592554324860578136:True:=.intro
theorem hx.tw4197240415250220850:True:=.intro
theorem hx.tw9261637841580126699:True:=.intro
theorem hx.tw13380458749892599093:True:=.intro
theorem hx.tw14817645703785147396:True:=.intro
theorem hx.tw5309995652401525101:True:=.intro
theorem hx.tw6207179915725765719:True:=.intro
theorem hx.tw17453721029707611201:True:=.intro
theorem hx.tw7991351659645307184:True:=.intro
theorem hx.tw6897596897191844616:True:=.intro
theorem hx.tw9161127719534841658:True:=.intro
theorem hx.tw17122103796602941201:True:=.intro
theorem hx.tw4887097189600125948:True:=.intro
theorem hx.tw15525279636034395452:True:=.intro
theorem hx.tw5345257021437362142:True:=.intro
theorem hx.tw3597224387928761530:True:=.intro
theorem hx.tw3315115015657624638:True:=.intro
theorem hx.tw15725253850911379854:True:=.intro
theorem hx.tw6821187626703829088:True:=.intro
theorem hx.tw14742731811885069116:True:=.intro
theorem hx.tw3042782897042553625:True:=.intro
theorem hx.tw15031465929163138751:True:=.intro
theorem hx.tw10411296912743870623:True:=.intro
theorem hx.tw2927320300579833983:True:=.intro
theorem hx.tw7822962280082496512:True:=.intro
theorem hx.tw11680442082056081124:True:=.intro
theorem hx.tw13756625210381900920:True:=.intro
theorem hx.tw17369344379546066803:True:=.intro
theorem hx.tw4039083011212233968:True:=.intro
theorem hx.tw1926156070640763614:True:=.intro
theorem hx.tw1383439101478763327:True:=.intro
theorem hx.tw12531592957024129060:True:=.intro
theorem hx.tw7611442656274437139:True:=.intro
theorem hx.tw3646117782734044179:True:=.intro
theorem hx.tw10636867075115427920:True:=.intro
theorem hx.tw4588911655245665398:True:=.intro
theorem hx.tw11388261020817367519:True:=.intro
theorem hx.tw14195857516506188752:True:=.intro
theorem hx.tw8516248914058007536:True:=.intro
theorem hx.tw9933187621900765661:True:=.intro
theorem hx.tw12840931332580689146:True:=.intro
theorem hx.tw2156908600965859427:True:=.intro
theorem hx.tw8383832312975943185:True:=.intro
theorem hx.tw12112647759870957014:True:=.intro
theorem hx.tw15892027648726031944:True:=.intro
theorem hx.tw15020162214462287587:True:=.intro
theorem hx.tw6814150269638858196:True:=.intro
theorem hx.tw2219097095629712201:True:=.intro
theorem hx.tw15288804291069992006:True:=.intro
theorem hx.tw13984125778581839424:True:=.intro
theorem hx.tw8294567603793468075:True:=.intro
theorem hx.tw17871362266857658384:True:=.intro
theorem hx.tw10259550172225532679:True:=.intro
theorem hx.tw4597446875086613488:True:=.intro
theorem hx.tw209585131044431783:True:=.intro
theorem hx.tw4826159377350640170:True:=.intro
theorem hx.tw15426637738626486864:True:=.intro
theorem hx.tw14311561367197305191:True:=.intro
theorem hx.tw11519250642611243791:True:=.intro
theorem hx.tw10704556739469484813:True:=.intro
theorem hx.tw2951018021206863066:True:=.intro
theorem hx.tw18025658111944671314:True:=.intro
theorem hx.tw8848062868709305014:True:=.intro
theorem hx.tw9974828092990910535:True:=.intro
theorem hx.tw11268002685874432423:True:=.intro
theorem hx.tw16278983773938623816:True:=.intro
theorem hx.tw7271874215164270623:True:=.intro
theorem hx.tw7054759504778813703:True:=.intro
theorem hx.tw2660992353704633501:True:=.intro
theorem hx.tw10195535451318777656:True:=.intro
theorem hx.tw10283964699342064434:True:=.intro
theorem hx.tw8307440872126120848:True:=.intro
theorem hx.tw3221206007101484751:True:=.intro
theorem hx.tw11074221192868344092:True:=.intro
theorem hx.tw145932963246128051:True:=.intro
theorem hx.tw11910161050144801243:True:=.intro
theorem hx.tw2533170188022924913:True:=.intro
theorem hx.tw332148526086002281:True:=.intro
theorem hx.tw1122348294875185760:True:=.intro
theorem hx.tw17281397238847051628:True:=.intro
theorem hx.tw388132459636744785:True:=.intro
theorem hx.tw11233552311124936086:True:=.intro
theorem hx.tw15416837940088587490:True:=.intro
theorem hx.tw9920813430400227697:True:=.intro
theorem hx.tw9313591890549905059:True:=.intro
theorem hx.tw17016924944305248243:True:=.intro
theorem hx.tw1890682559011639224:True:=.intro
theorem hx.tw15397586958153290271:True:=.intro
theorem hx.tw1649579085508831400:True:=.intro
theorem hx.tw13876524950054094614:True:=.intro
theorem hx.tw7436007844522968869:True:=.intro
theorem hx.tw4248858188191011707:True:=.intro
theorem hx.tw18439033083047412173:True:=.intro
theorem hx.tw1074516868807377101:True:=.intro
theorem hx.tw3781718424149988127:True:=.intro
theorem hx.tw3275178236903027326:True:=.intro
theorem hx.tw2246114198807911332:True:=.intro
theorem hx.tw14264558840923773697:True:=.intro
theorem hx.tw10159389032180300928:True:=.intro
theorem hx.tw6996696247724890340:True:=.intro
theorem hx.tw2822907071458423533:True:=.intro
theorem hx.tw15847444086296491327:True:=.intro
theorem hx.tw11516083673652718094:True:=.intro
theorem hx.tw6649000586521064083:True:=.intro
theorem hx.tw8153351105357841641:True:=.intro
theorem hx.tw9957188378976831251:True:=.intro
theorem hx.tw5151445886737355997:True:=.intro
theorem hx.tw2404936290449931907:True:=.intro
theorem hx.tw4629720720223295621:True:=.intro
theorem hx.tw11511833604947660874:True:=.intro
theorem hx.tw8192045462056880886:True:=.intro
theorem hx.tw16619340915541162848:True:=.intro
theorem hx.tw4035567117447141005:True:=.intro
theorem hx.tw9950984906565380895:True:=.intro
theorem hx.tw15596916359039440783:True:=.intro
theorem hx.tw3722370046394560457:True:=.intro
theorem hx.tw5254291218172806239:True:=.intro
theorem hx.tw13242218034438203823:True:=.intro
theorem hx.tw5675339146475604060:True:=.intro
theorem hx.tw5644764048023550207:True:=.intro
theorem hx.tw13904747866207299807:True:=.intro
theorem hx.tw9043999750321849445:True:=.intro
theorem hx.tw17557955846509285157:True:=.intro
theorem hx.tw10116244012155279326:True:=.intro
theorem hx.tw4091792125141806092:True:=.intro
theorem hx.tw4447307148886075343:True:=.intro
theorem hx.tw13328876942023701386:True:=.intro
theorem hx.tw14885436537357200447:True:=.intro
theorem hx.tw16687863994572527389:True:=.intro
theorem hx.tw8195256034748189324:True:=.intro
theorem hx.tw7820420391224187335:True:=.intro
theorem hx.tw13353880398495200290:True:=.intro
theorem hx.tw4567310155831165015:True:=.intro
theorem hx.tw17620514863039934880:True:=.intro
theorem hx.tw2753894884028247:True:=.intro
theorem hx.tw5244801350481787030:True:=.intro
theorem hx.tw134521874587698215:True:=.intro
theorem hx.tw9975269523818592724:True:=.intro
theorem hx.tw3039677694828402761:True:=.intro
theorem hx.tw15003182733627720372:True:=.intro
theorem hx.tw15097703535185493621:True:=.intro
theorem hx.tw538932451362224505:True:=.intro
theorem hx.tw17589684436434577441:True:=.intro
theorem hx.tw1658197193684275316:True:=.intro
theorem hx.tw4743368475946334711:True:=.intro
theorem hx.tw1980375524402002302:True:=.intro
theorem hx.tw7758063928635784740:True:=.intro
theorem hx.tw16058991070295768540:True:=.intro
theorem hx.tw13008373176390373076:True:=.intro
theorem hx.tw14992983214800064602:True:=.intro
theorem hx.tw14331163173384819421:True:=.intro
theorem hx.tw16038111126348386163:True:=.intro
theorem hx.tw6996604510022546489:True:=.intro
theorem hx.tw16685108812316347162:True:=.intro
theorem hx.tw8958890896562605561:True:=.intro
theorem hx.tw6768751125542400157:True:=.intro
theorem hx.tw5725629724030738776:True:=.intro
theorem hx.tw13360980773314081272:True:=.intro
theorem hx.tw1881273628141950129:True:=.intro
theorem hx.tw3017716237796050085:True:=.intro
theorem hx.tw9410930895886830851:True:=.intro
theorem hx.tw17385304542106548055:True:=.intro
theorem hx.tw8929162171763405671:True:=.intro
theorem hx.tw484179904497135155:True:=.intro
theorem hx.tw10385972291305524515:True:=.intro
theorem hx.tw4356472642329609974:True:=.intro
theorem hx.tw17651295008732575174:True:=.intro
theorem hx.tw4774948093478016081:True:=.intro
theorem hx.tw11465607834340801042:True:=.intro
theorem hx.tw7336779333470613504:True:=.intro
theorem hx.tw17039554997033918745:True:=.intro
theorem hx.tw8148134362133210370:True:=.intro
theorem hx.tw14185994507778423819:True:=.intro
theorem hx.tw10089113472772384774:True:=.intro
theorem hx.tw2077690074044854482:True:=.intro
theorem hx.tw9088850661482849427:True:=.intro
theorem hx.tw288411641489606368:True:=.intro
theorem hx.tw14525749084875191736:True:=.intro
theorem hx.tw764732042479237497:True:=.intro
theorem hx.tw16179723595558240676:True:=.intro
theorem hx.tw16268382344902531218:True:=.intro
theorem hx.tw1972047601138287618:True:=.intro
theorem hx.tw6661065052353065320:True:=.intro
theorem hx.tw5157400123132015144:True:=.intro
theorem hx.tw7160642757287845954:True:=.intro
theorem hx.tw2517642334926246588:True:=.intro
theorem hx.tw14324643134823393709:True:=.intro
theorem hx.tw13412383326353432330:True:=.intro
theorem hx.tw10863431328213883938:True:=.intro
theorem hx.tw6471395523428408251:True:=.intro
theorem hx.tw8492490618434649289:True:=.intro
theorem hx.tw10595839521171088435:True:=.intro
theorem hx.tw12876500496384970917:True:=.intro
theorem hx.tw4181972808089653594:True:=.intro
theorem hx.tw5060404574720663952:True:=.intro
theorem hx.tw12030256587067620103:True:=.intro
theorem hx.tw15857467098338783936:True:=.intro
theorem hx.tw7359549337865388183:True:=.intro
theorem hx.tw15260478145775685171:True:=.intro
theorem hx.tw13372793773036742737:True:=.intro
theorem hx.tw16043647936977262334:True:=.intro
theorem hx.tw13396310773797896340:True:=.intro
theorem hx.tw5818851180930991848:True:=.intro
theorem hx.tw14653772343310069545:True:=.intro
theorem hx.tw13697778423791767345:True:=.intro
theorem hx.tw568883250039891352:True:=.intro
theorem hx.tw2868841428091204648:True:=.intro
theorem hx.tw2063962012853046974:True:=.intro
theorem hx.tw7492030116529166354:True:=.intro
theorem hx.tw16051292036045715728:True:=.intro
theorem hx.tw3897231576808763883:True:=.intro
theorem hx.tw6905475023927656221:True:=.intro
theorem hx.tw15902653346226055279:True:=.intro
theorem hx.tw9425653185733914764:True:=.intro
theorem hx.tw5286479519828484009:True:=.intro
theorem hx.tw18350421489246803351:True:=.intro
theorem hx.tw1513396286026484958:True:=.intro
theorem hx.tw12687398731603832505:True:=.intro
theorem hx.tw4643808109359329299:True:=.intro
theorem hx.tw9538226051533269152:True:=.intro
theorem hx.tw2911593502983421243:True:=.intro
theorem hx.tw10534391724585933954:True:=.intro
theorem hx.tw17393156024033759196:True:=.intro
theorem hx.tw13611598617634704298:True:=.intro
theorem hx.tw1283418492878313000:True:=.intro
theorem hx.tw7875685502677297484:True:=.intro
theorem hx.tw10610913765530660747:True:=.intro
theorem hx.tw2201176655943343924:True:=.intro
theorem hx.tw13418900697369464106:True:=.intro
theorem hx.tw4608282871590354310:True:=.intro
theorem hx.tw16584103675982884176:True:=.intro
theorem hx.tw17573638741194809299:True:=.intro
theorem hx.tw13216196189082939631:True:=.intro
theorem hx.tw1930959741480660892:True:=.intro
theorem hx.tw716927816470872148:True:=.intro
theorem hx.tw6810229405824084477:True:=.intro
theorem hx.tw9067985455519472299:True:=.intro
theorem hx.tw11648549221805079087:True:=.intro
theorem hx.tw13666863030765680010:True:=.intro
theorem hx.tw1164759201082787303:True:=.intro
theorem hx.tw30516888858077971:True:=.intro
theorem hx.tw12476055800596261357:True:=.intro
theorem hx.tw7283001153640328056:True:=.intro
theorem hx.tw10360385129273215995:True:=.intro
theorem hx.tw7522427195449491447:True:=.intro
theorem hx.tw8549717891604393450:True:=.intro
theorem hx.tw12963041817334964015:True:=.intro
theorem hx.tw136413005078865661:True:=.intro
theorem hx.tw12544056204730560957:True:=.intro
theorem hx.tw3287984282217807052:True:=.intro
theorem hx.tw14138387163557110853:True:=.intro
theorem hx.tw12720616893711688022:True:=.intro
theorem hx.tw4546395012647954685:True:=.intro
theorem hx.tw17483737984551867210:True:=.intro
theorem hx.tw14988587922033304021:True:=.intro
theorem hx.tw2492048929613541025:True:=.intro
theorem hx.tw1273976805293772973:True:=.intro
theorem hx.tw1598436242538282211:True:=.intro
theorem hx.tw9916199118948513461:True:=.intro
theorem hx.tw14757211927845266655:True:=.intro
theorem hx.tw15695149568941424871:True:=.intro
theorem hx.tw8800404311707590821:True:=.intro
theorem hx.tw12119435566623225568:True:=.intro
theorem hx.tw11921775078932222522:True:=.intro
theorem hx.tw15609162463361733215:True:=.intro
theorem hx.tw14013666240027854082:True:=.intro
theorem hx.tw15196459059211658234:True:=.intro
theorem hx.tw15571626766152387222:True:=.intro
theorem hx.tw12950124535000289064:True:=.intro
theorem hx.tw9845681107099458034:True:=.intro
theorem hx.tw8363641326162966770:True:=.intro
theorem hx.tw15843902886774820684:True:=.intro
theorem hx.tw13507109222748178385:True:=.intro
theorem hx.tw18085488118959583582:True:=.intro
theorem hx.tw551878033868750631:True:=.intro
theorem hx.tw4073450862890528463:True:=.intro
theorem hx.tw6881307674522045928:True:=.intro
theorem hx.tw4082656235138070203:True:=.intro
theorem hx.tw6745301757348478735:True:=.intro
theorem hx.tw3822018425818770122:True:=.intro
theorem hx.tw13882606185055310181:True:=.intro
theorem hx.tw14288243738381440493:True:=.intro
theorem hx.tw17697503557976475346:True:=.intro
theorem hx.tw8576703452051888039:True:=.intro
theorem hx.tw11071092168611881012:True:=.intro
theorem hx.tw18288557733248936724:True:=.intro
theorem hx.tw1937750371327377422:True:=.intro
theorem hx.tw9408370375254774644:True:=.intro
theorem hx.tw1210530748395591148:True:=.intro
theorem hx.tw2404633205489611897:True:=.intro
theorem hx.tw13806454070660350921:True:=.intro
theorem hx.tw857691276175789518:True:=.intro
theorem hx.tw8047289358820287197:True:=.intro
theorem hx.tw14191310702710227458:True:=.intro
theorem hx.tw17529849222839375082:True:=.intro
theorem hx.tw18246513400157920875:True:=.intro
theorem hx.tw9547714120228685796:True:=.intro
theorem hx.tw1428015736135853223:True:=.intro
theorem hx.tw13195046247239527290:True:=.intro
theorem hx.tw3105936464211144054:True:=.intro
theorem hx.tw14864640965497991779:True:=.intro
theorem hx.tw3021835603291095840:True:=.intro
theorem hx.tw12792783352228383727:True:=.intro
theorem hx.tw11654316357038136316:True:=.intro
theorem hx.tw8069092538493481521:True:=.intro
theorem hx.tw2822385975729611342:True:=.intro
theorem hx.tw1090411510468800068:True:=.intro
theorem hx.tw8454175693458000778:True:=.intro
theorem hx.tw14547076071350101635:True:=.intro
theorem hx.tw5648276094696049298:True:=.intro
theorem hx.tw2171623322903362057:True:=.intro
theorem hx.tw8427485113769799218:True:=.intro
theorem hx.tw13118943305402699759:True:=.intro
theorem hx.tw9901951719108051988:True:=.intro
theorem hx.tw5991329863979130625:True:=.intro
theorem hx.tw12721789152505531114:True:=.intro
theorem hx.tw8185107309596000374:True:=.intro
theorem hx.tw2699983602767374523:True:=.intro
theorem hx.tw14158869808729706988:True:=.intro
theorem hx.tw15244482743263677339:True:=.intro
theorem hx.tw16561558360742137065:True:=.intro
theorem hx.tw162848155603439990:True:=.intro
theorem hx.tw8059141126832881916:True:=.intro
theorem hx.tw8150083410846183547:True:=.intro
theorem hx.tw11180674998892410296:True:=.intro
theorem hx.tw5816237344298815641:True:=.intro
theorem hx.tw7554959009405650026:True:=.intro
theorem hx.tw149470206711900560:True:=.intro
theorem hx.tw11279161967884546433:True:=.intro
theorem hx.tw4073052226275865335:True:=.intro
theorem hx.tw10449879093168152174:True:=.intro
theorem hx.tw11442105100669052236:True:=.intro
theorem hx.tw14910315980727139379:True:=.intro
theorem hx.tw15532180198325277413:True:=.intro
theorem hx.tw14377138705030266388:True:=.intro
theorem hx.tw4820356001183778062:True:=.intro
theorem hx.tw6124490972874172257:True:=.intro
theorem hx.tw5145643837290298106:True:=.intro
theorem hx.tw806059679219994385:True:=.intro
theorem hx.tw10783175264176337430:True:=.intro
theorem hx.tw4711357149551803662:True:=.intro
theorem hx.tw17812654206654028429:True:=.intro
theorem hx.tw614178721253697587:True:=.intro
theorem hx.tw7778518709807883925:True:=.intro
theorem hx.tw13458227961471406816:True:=.intro
theorem hx.tw12609181574037364859:True:=.intro
theorem hx.tw6716190173229412497:True:=.intro
theorem hx.tw10395789954385654390:True:=.intro
theorem hx.tw15765068283106822696:True:=.intro
theorem hx.tw16697562355604267518:True:=.intro
theorem hx.tw3502533989761060701:True:=.intro
theorem hx.tw17494975543084776526:True:=.intro
theorem hx.tw10239007394552878174:True:=.intro
theorem hx.tw17842149565482381095:True:=.intro
theorem hx.tw15862916894348967747:True:=.intro
theorem hx.tw2504348554245470067:True:=.intro
theorem hx.tw4296267017532797128:True:=.intro
theorem hx.tw3376783596681068269:True:=.intro
theorem hx.tw4870609095116367995:True:=.intro
theorem hx.tw8316978927428267617:True:=.intro
theorem hx.tw5408759701511077484:True:=.intro
theorem hx.tw13233925081610661411:True:=.intro
theorem hx.tw16600827452279821873:True:=.intro
theorem hx.tw3247367380084042296:True:=.intro
theorem hx.tw17264778694843096519:True:=.intro
theorem hx.tw2056866998167769742:True:=.intro
theorem hx.tw10099382267163970797:True:=.intro
theorem hx.tw2345487744653432563:True:=.intro
theorem hx.tw14364079368883715770:True:=.intro
theorem hx.tw6048745964160318464:True:=.intro
theorem hx.tw12136790455629638108:True:=.intro
theorem hx.tw11186278346458651885:True:=.intro
theorem hx.tw3696960078455213082:True:=.intro
theorem hx.tw8135493339603401687:True:=.intro
theorem hx.tw14349752981382075830:True:=.intro
theorem hx.tw10307356883056191786:True:=.intro
theorem hx.tw12536998783352910709:True:=.intro
theorem hx.tw7876969669924440321:True:=.intro
theorem hx.tw5475936251782762557:True:=.intro
theorem hx.tw5834209850536974553:True:=.intro
theorem hx.tw16344473531126340893:True:=.intro
theorem hx.tw5044532516427930034:True:=.intro
theorem hx.tw13001090167431948686:True:=.intro
theorem hx.tw1445886391551537731:True:=.intro
theorem hx.tw6951225809539125009:True:=.intro
theorem hx.tw12545834286116690562:True:=.intro
theorem hx.tw3373189247971503177:True:=.intro
theorem hx.tw7411675879612560423:True:=.intro
theorem hx.tw15826755849600578775:True:=.intro
theorem hx.tw8629640164197408899:True:=.intro
theorem hx.tw12989204983627833920:True:=.intro
theorem hx.tw15507295418574587819:True:=.intro
theorem hx.tw6382291294955211999:True:=.intro
theorem hx.tw13742351995774673705:True:=.intro
theorem hx.tw4098536169802072696:True:=.intro
theorem hx.tw17224703828522220382:True:=.intro
theorem hx.tw13285676348558272288:True:=.intro
theorem hx.tw14938798612039523107:True:=.intro
theorem hx.tw13167229442138870257:True:=.intro
theorem hx.tw10805239673477678041:True:=.intro
theorem hx.tw14095971397211782968:True:=.intro
theorem hx.tw15038418565850436986:True:=.intro
theorem hx.tw10392914110069091124:True:=.intro
theorem hx.tw1326067736672580545:True:=.intro
theorem hx.tw4943545995465237767:True:=.intro
theorem hx.tw17433518216253938662:True:=.intro
theorem hx.tw16831101020866358490:True:=.intro
theorem hx.tw14702946807805543658:True:=.intro
theorem hx.tw4204637286096544306:True:=.intro
theorem hx.tw9960968122618143832:True:=.intro
theorem hx.tw9356179824560524543:True:=.intro
theorem hx.tw15513907674853377026:True:=.intro
theorem hx.tw7381783550449437068:True:=.intro
theorem hx.tw7789537453598603269:True:=.intro
theorem hx.tw11926272105270764117:True:=.intro
theorem hx.tw3523277934440134947:True:=.intro
theorem hx.tw11874976274172590891:True:=.intro
theorem hx.tw8368798856109363619:True:=.intro
theorem hx.tw15525580674415269173:True:=.intro
theorem hx.tw64630411898889128:True:=.intro
theorem hx.tw5291343962402555478:True:=.intro
theorem hx.tw2961708919734236128:True:=.intro
theorem hx.tw1424128092797642980:True:=.intro
theorem hx.tw9876543146211162787:True:=.intro
theorem hx.tw16329963321018892172:True:=.intro
theorem hx.tw3986090183591653432:True:=.intro
theorem hx.tw6047097596973096534:True:=.intro
theorem hx.tw5745465540762440112:True:=.intro
theorem hx.tw4288143970758385065:True:=.intro
theorem hx.tw3343473771444255265:True:=.intro
theorem hx.tw3936574193395988776:True:=.intro
theorem hx.tw14726961885551866062:True:=.intro
theorem hx.tw1906023392622491010:True:=.intro
theorem hx.tw933441318110467940:True:=.intro
theorem hx.tw15525298443865201073:True:=.intro
theorem hx.tw17478428059220288493:True:=.intro
theorem hx.tw16889384090722931010:True:=.intro
theorem hx.tw929041136397781899:True:=.intro
theorem hx.tw12445940973143799526:True:=.intro
theorem hx.tw16168019790947101984:True:=.intro
theorem hx.tw17288500401979066083:True:=.intro
theorem hx.tw6691027074710735343:True:=.intro
theorem hx.tw9079676753793809656:True:=.intro
theorem hx.tw13984105327260874470:True:=.intro
theorem hx.tw17454318776723317414:True:=.intro
theorem hx.tw13935339594760756573:True:=.intro
theorem hx.tw1396631885417364829:True:=.intro
theorem hx.tw18021650032858729757:True:=.intro
theorem hx.tw3296267005824016447:True:=.intro
theorem hx.tw13750583455376624881:True:=.intro
theorem hx.tw14341120729795077261:True:=.intro
theorem hx.tw6515252487656556794:True:=.intro
theorem hx.tw9819894657917094784:True:=.intro
theorem hx.tw3787666990311124380:True:=.intro
theorem hx.tw8626315453904953860:True:=.intro
theorem hx.tw6905357976775366822:True:=.intro
theorem hx.tw15687806069674188760:True:=.intro
theorem hx.tw16514233136784977297:True:=.intro
theorem hx.tw8528795903151043451:True:=.intro
theorem hx.tw6696019823409772510:True:=.intro
theorem hx.tw6061844814560656316:True:=.intro
theorem hx.tw576899675763343441:True:=.intro
theorem hx.tw7258646118196019072:True:=.intro
theorem hx.tw5859954059831970930:True:=.intro
theorem hx.tw6381170856756570040:True:=.intro
theorem hx.tw15881809610774648345:True:=.intro
theorem hx.tw15935829536121919871:True:=.intro
theorem hx.tw1709533345360563255:True:=.intro
theorem hx.tw3770322921552031231:True:=.intro
theorem hx.tw1742656451142089649:True:=.intro
theorem hx.tw11831106913802473199:True:=.intro
theorem hx.tw2868292288803158069:True:=.intro
theorem hx.tw9375360588515080113:True:=.intro
theorem hx.tw12870832547070010083:True:=.intro
theorem hx.tw18383182533153586477:True:=.intro
theorem hx.tw8790518789954672209:True:=.intro
theorem hx.tw12971980108649762115:True:=.intro
theorem hx.tw12677999345953698985:True:=.intro
theorem hx.tw7421786164480996228:True:=.intro
theorem hx.tw13593828154612893309:True:=.intro
theorem hx.tw10450788274241771536:True:=.intro
theorem hx.tw15645666165076150114:True:=.intro
theorem hx.tw3238041122174531716:True:=.intro
theorem hx.tw14581080383437586561:True:=.intro
theorem hx.tw7196959931366684185:True:=.intro
theorem hx.tw16916634567150479132:True:=.intro
theorem hx.tw9160301636639237467:True:=.intro
theorem hx.tw15463203823495961244:True:=.intro
theorem hx.tw4786497654422877938:True:=.intro
theorem hx.tw8591088177582840138:True:=.intro
theorem hx.tw3363799594497527996:True:=.intro
theorem hx.tw15784146693891255721:True:=.intro
theorem hx.tw13071191126500404010:True:=.intro
theorem hx.tw2809980089338295446:True:=.intro
theorem hx.tw17093792507239897499:True:=.intro
theorem hx.tw5565705770439821194:True:=.intro
theorem hx.tw16447564128994577934:True:=.intro
theorem hx.tw8475944641615879958:True:=.intro
theorem hx.tw12247584602314355929:True:=.intro
theorem hx.tw11203511338275664327:True:=.intro
theorem hx.tw17789768422149580373:True:=.intro
theorem hx.tw1352479365382649514:True:=.intro
theorem hx.tw18364815469964950118:True:=.intro
theorem hx.tw2497926436135343631:True:=.intro
theorem hx.tw6539906834269234583:True:=.intro
theorem hx.tw8201023514652866248:True:=.intro
theorem hx.tw17957411485211015398:True:=.intro
theorem hx.tw3313114576310721804:True:=.intro
theorem hx.tw8435280521333064917:True:=.intro
theorem hx.tw42991212193153973:True:=.intro
theorem hx.tw6010527527868921132:True:=.intro
theorem hx.tw17832744011254776289:True:=.intro
theorem hx.tw15637220148305887217:True:=.intro
theorem hx.tw1358250369764232750:True:=.intro
theorem hx.tw13576942657099514123:True:=.intro
theorem hx.tw432897219053493142:True:=.intro
theorem hx.tw11300498958895695146:True:=.intro
theorem hx.tw2896438728730547279:True:=.intro
theorem hx.tw17731984463975473917:True:=.intro
theorem hx.tw18286160104727862462:True:=.intro
theorem hx.tw3264777137382535416:True:=.intro
theorem hx.tw5546299256372968745:True:=.intro
theorem hx.tw13461288425266067717:True:=.intro
theorem hx.tw190323194274516343:True:=.intro
theorem hx.tw6119721936978453658:True:=.intro
theorem hx.tw15088266657895807461:True:=.intro
theorem hx.tw16096895891696496363:True:=.intro
theorem hx.tw2904059501028533237:True:=.intro
theorem hx.tw4155468523610585343:True:=.intro
theorem hx.tw8765746493276748076:True:=.intro
theorem hx.tw6938760501003799309:True:=.intro
theorem hx.tw15642498914273402183:True:=.intro
theorem hx.tw399526882006366711:True:=.intro
theorem hx.tw6815985589519525316:True:=.intro
theorem hx.tw7494296812056875437:True:=.intro
theorem hx.tw53671048762403245:True:=.intro
theorem hx.tw11060124829600404249:True:=.intro
theorem hx.tw419276852697310815:True:=.intro
theorem hx.tw7003310216729256977:True:=.intro
theorem hx.tw14292547228490471781:True:=.intro
theorem hx.tw17236013290512009086:True:=.intro
theorem hx.tw16166368621782959301:True:=.intro
theorem hx.tw11089877848252077935:True:=.intro
theorem hx.tw17454577913403430252:True:=.intro
theorem hx.tw10367308775770812932:True:=.intro
theorem hx.tw6571291060729986440:True:=.intro
theorem hx.tw17989415352218789217:True:=.intro
theorem hx.tw15587764676737728853:True:=.intro
theorem hx.tw17295839151220075915:True:=.intro
theorem hx.tw329072985140239050:True:=.intro
theorem hx.tw3643914471317708621:True:=.intro
theorem hx.tw9926087939513100535:True:=.intro
theorem hx.tw16294087361379835962:True:=.intro
theorem hx.tw12036669265036031014:True:=.intro
theorem hx.tw13945033177886227809:True:=.intro
theorem hx.tw7815520995879020269:True:=.intro
theorem hx.tw9469051840768371287:True:=.intro
theorem hx.tw9583031203963763055:True:=.intro
theorem hx.tw11232610466416726398:True:=.intro
theorem hx.tw10516643663288343842:True:=.intro
theorem hx.tw1628044414854275119:True:=.intro
theorem hx.tw4283683937392015733:True:=.intro
theorem hx.tw7257752904359908486:True:=.intro
theorem hx.tw9429861001312166809:True:=.intro
theorem hx.tw5841892539215548279:True:=.intro
theorem hx.tw10483263613327836230:True:=.intro
theorem hx.tw8680568747675894556:True:=.intro
theorem hx.tw14150925457611720700:True:=.intro
theorem hx.tw16503685224865804450:True:=.intro
theorem hx.tw6726772413313095014:True:=.intro
theorem hx.tw16041046370011181779:True:=.intro
theorem hx.tw5486498298220157551:True:=.intro
theorem hx.tw6773202340168799102:True:=.intro
theorem hx.tw4354437142168371049:True:=.intro
theorem hx.tw10927994296842964546:True:=.intro
theorem hx.tw12792585633891114797:True:=.intro
theorem hx.tw17971117906851217387:True:=.intro
theorem hx.tw13539627523613935523:True:=.intro
theorem hx.tw12740483090795623637:True:=.intro
theorem hx.tw4852414063411868548:True:=.intro
theorem hx.tw2960456510772831355:True:=.intro
theorem hx.tw5490980215271389280:True:=.intro
theorem hx.tw1541562364700265154:True:=.intro
theorem hx.tw14963347970970158890:True:=.intro
theorem hx.tw104094576447766374:True:=.intro
theorem hx.tw10143001506211119355:True:=.intro
theorem hx.tw1472627028676479429:True:=.intro
theorem hx.tw17601551063327761115:True:=.intro
theorem hx.tw12316986716782704333:True:=.intro
theorem hx.tw15890461587552314789:True:=.intro
theorem hx.tw4568365569954123920:True:=.intro
theorem hx.tw3923788489404985783:True:=.intro
theorem hx.tw17874153101932871819:True:=.intro
theorem hx.tw3710802891750653368:True:=.intro
theorem hx.tw2313343453469587:True:=.intro
theorem hx.tw14364110991727458282:True:=.intro
theorem hx.tw2586096127677666143:True:=.intro
theorem hx.tw12958973201736663512:True:=.intro
theorem hx.tw16401775577440721349:True:=.intro
theorem hx.tw17365841796568000854:True:=.intro
theorem hx.tw2684102819342949193:True:=.intro
theorem hx.tw16984819292278807220:True:=.intro
theorem hx.tw18075650540444998648:True:=.intro
theorem hx.tw11413205744277866631:True:=.intro
theorem hx.tw2434324634612665561:True:=.intro
theorem hx.tw10782636077873877296:True:=.intro
theorem hx.tw2438556121179383376:True:=.intro
theorem hx.tw7570617728802852908:True:=.intro
theorem hx.tw17436559092727719069:True:=.intro
theorem hx.tw16422446190411312259:True:=.intro
theorem hx.tw7385541598251207468:True:=.intro
theorem hx.tw3448436965285196660:True:=.intro
theorem hx.tw7086268270985402415:True:=.intro
theorem hx.tw6346493079076818392:True:=.intro
theorem hx.tw4514053743599041045:True:=.intro
theorem hx.tw11044573971291310966:True:=.intro
theorem hx.tw14693721518964817596:True:=.intro
theorem hx.tw9427077688836159671:True:=.intro
theorem hx.tw3035972135482712479:True:=.intro
theorem hx.tw10982810722298789478:True:=.intro
theorem hx.tw3919583205669086173:True:=.intro
theorem hx.tw245388453786887242:True:=.intro
theorem hx.tw13724630365935171946:True:=.intro
theorem hx.tw9833553656769391465:True:=.intro
theorem hx.tw9691422183254027723:True:=.intro
theorem hx.tw6357707457550563748:True:=.intro
theorem hx.tw5073386559561990923:True:=.intro
theorem hx.tw511154227527352935:True:=.intro
theorem hx.tw2194386836789649628:True:=.intro
theorem hx.tw15932340531052202542:True:=.intro
theorem hx.tw12203261482158421150:True:=.intro
theorem hx.tw5254150876798236439:True:=.intro
theorem hx.tw13522551469373217439:True:=.intro
theorem hx.tw8063799498105216150:True:=.intro
theorem hx.tw14866903424737192701:True:=.intro
theorem hx.tw11255313108558152148:True:=.intro
theorem hx.tw3171571090798886337:True:=.intro
theorem hx.tw3778313439561597904:True:=.intro
theorem hx.tw2296798500458606327:True:=.intro
theorem hx.tw10608150008125927267:True:=.intro
theorem hx.tw7139931688861200607:True:=.intro
theorem hx.tw5602258624995510178:True:=.intro
theorem hx.tw5033423968699698886:True:=.intro
theorem hx.tw4709067958626073384:True:=.intro
theorem hx.tw1765193833724418456:True:=.intro
theorem hx.tw7939700986846642070:True:=.intro
theorem hx.tw17967490135107311282:True:=.intro
theorem hx.tw15607260501993015751:True:=.intro
theorem hx.tw5831941663624143594:True:=.intro
theorem hx.tw8072070048918887560:True:=.intro
theorem hx.tw10606685759059100015:True:=.intro
theorem hx.tw5652590095549514255:True:=.intro
theorem hx.tw11561366718681118979:True:=.intro
theorem hx.tw1384209119611808009:True:=.intro
theorem hx.tw9522786389256371610:True:=.intro
theorem hx.tw883525322311835505:True:=.intro
theorem hx.tw3289709261027852024:True:=.intro
theorem hx.tw17469929296604087836:True:=.intro
theorem hx.tw15462683395770930534:True:=.intro
theorem hx.tw13028522948772262508:True:=.intro
theorem hx.tw14780050976537163602:True:=.intro
theorem hx.tw1879972785478743596:True:=.intro
theorem hx.tw10378792918218926003:True:=.intro
theorem hx.tw2258324389533410429:True:=.intro
theorem hx.tw2653273610416408720:True:=.intro
theorem hx.tw12965826118423939856:True:=.intro
theorem hx.tw3596415110745729370:True:=.intro
theorem hx.tw6500686390916074201:True:=.intro
theorem hx.tw558561146864003076:True:=.intro
theorem hx.tw15880504448479711350:True:=.intro
theorem hx.tw15377445910829238176:True:=.intro
theorem hx.tw8606624086045412448:True:=.intro
theorem hx.tw2786521351924353169:True:=.intro
theorem hx.tw6873645178399093424:True:=.intro
theorem hx.tw3627922134348299825:True:=.intro
theorem hx.tw7034298128997996108:True:=.intro
theorem hx.tw14412582317878784360:True:=.intro
theorem hx.tw4104742181158835159:True:=.intro
theorem hx.tw4518221268279412019:True:=.intro
theorem hx.tw5492716820719653743:True:=.intro
theorem hx.tw8683918616840425538:True:=.intro
theorem hx.tw7105652820812284432:True:=.intro
theorem hx.tw17197377076905342390:True:=.intro
theorem hx.tw5797834762334671391:True:=.intro
theorem hx.tw7590023021421854271:True:=.intro
theorem hx.tw5557744672519427172:True:=.intro
theorem hx.tw15102594672415386349:True:=.intro
theorem hx.tw6987332734749810786:True:=.intro
theorem hx.tw9661119599188179355:True:=.intro
theorem hx.tw15710256053868434734:True:=.intro
theorem hx.tw1347916733764399252:True:=.intro
theorem hx.tw8462949007004437653:True:=.intro
theorem hx.tw932451246233767929:True:=.intro
theorem hx.tw16194197300274779544:True:=.intro
theorem hx.tw13251139996166171883:True:=.intro
theorem hx.tw3864814513713628098:True:=.intro
theorem hx.tw12166059554313202536:True:=.intro
theorem hx.tw12392237581957222550:True:=.intro
theorem hx.tw10027257451656575460:True:=.intro
theorem hx.tw13890433966359505285:True:=.intro
theorem hx.tw14463281908048383200:True:=.intro
theorem hx.tw14537370466570294729:True:=.intro
theorem hx.tw17682533232276427782:True:=.intro
theorem hx.tw11419140202800805772:True:=.intro
theorem hx.tw4957977497641929111:True:=.intro
theorem hx.tw13051606616835114215:True:=.intro
theorem hx.tw11617668915913538150:True:=.intro
end Mine
open PySem PySem.W PyProof.Rows PySem.Calls Mine
set_option Elab.async true
set_option maxRecDepth 100000 in
set_option maxHeartbeats 8000000 in
theorem Mine.hx : PySem.Challenge.rw_te0033_02.Holds := by
  w_on; o_law; k_head; (case hw => w_witness2)
  k_fill
  intro w s₀ s₁ mg mb G Y fa o pm cd doc dV kV ho hd hcd hD hmg hg args vals as hpre hlay hrd hwl hlo
  have KX := kIn_of Y
  have X := (Ground.X G).1
  have V := (Ground.X G).2
  try w_nolog (first | (have GL := glob_more (Ground.glob G (by first | k_qdec | decide +kernel) (by first | k_qdec | decide +kernel)) V) | (have GL := glob_more (Ground.glob G (by decide +kernel)) V))
  refine Ground.open G ?_
  intro T B D TE TW
  try (refine guard_noD D (by decide +kernel) ?_; clear D)
  obtain ⟨_, _, M⟩ := bmod_of_top T
  have TA := at_of_top T
  try (obtain ⟨_, _, he, B0⟩ := based_of_top T rfl hmg ho hd; have he' : cd = _ := he; subst he'; clear he)
  clear hmg
  wrow_args hpre hlay hrd hwl hlo
  all_goals (
    first | refine callC_kw (enter_call ?_) | refine enter_call ?_ | refine callC_kw (enter_callW ?_) | refine enter_callW ?_ | w_how
    w_top on
    have K0 := below_caller (Top.heap T)
    w_call any ho hd hcd hD T F
    clear hd TA
    k_drop
    skip)
  rename_i ns hs hlay0 hL1 hr1 hl2 w4 w3 a vals w1' hL ra w1 r0 hI hr2 hcond hcond2 h₁ N0
  refine wpAny_mono (E := fun _ _ => False) (Q := fun f s' => f = .ret (.bool true) ∧ (∀ b o, s₁.heap.get? b = some o → s'.heap.get? b = some o) ∧ s'.os = s₁.os ∧ AllBare s'.gens) ?_ (fun f s' h => ?_) ?_
  rotate_left
  · obtain ⟨rfl, hk, hos, hab⟩ := h
    dsimp only
    refine ⟨.inl ⟨_, _, _, rfl, ?_, .bool _, ?_, ?_⟩, .of_keep hk, hos, hab⟩
    · intro cls; rfl
    · wrow_post
    · exact fun _ => ⟨List.nodup_nil, fun _ h => nomatch h⟩
  · exact fun _ _ h => h.elim
  refine law1_core (P := w.params) (K0 := Mine.hx.heap_1_39 w.params) (kn := fun x => List.lookup x lawNames) KX T.b T.builtins hg w1 (by omega) F rfl rfl rfl rfl (Nat.succ_pos _) ⟨rfl, rfl, rfl⟩ (fun x hx => (law_nocell x hx).elim) (fun x => rfl) (room_of rfl (by kernel_rfl) (by kernel_rfl)) (room_of rfl (by kernel_rfl) (by kernel_rfl))
    ⟨by kernel_rfl, by kernel_rfl, by kernel_rfl, by kernel_rfl, by kernel_rfl, by kernel_rfl, by kernel_rfl, by kernel_rfl, by kernel_rfl, by kernel_rfl, by kernel_rfl, by kernel_rfl, by kernel_rfl, by kernel_rfl, by kernel_rfl, by kernel_rfl, by kernel_rfl, by kernel_rfl, by kernel_rfl, by kernel_rfl, defs_of (List.all_eq_true.mp (by kernel_rfl))⟩
    (by kernel_rfl) (by kernel_rfl) (by kernel_rfl) (by kernel_rfl) (by kernel_rfl) (by kernel_rfl) (by kernel_rfl) (by kernel_rfl) (by kernel_rfl) (by kernel_rfl) (by kernel_rfl) (by kernel_rfl) (by kernel_rfl)
theorem PySem.Challenge.cw_te0033_02_holds : PySem.Challenge.rw_te0033_02.Holds :=
  Mine.hx
