import PyProof.Rows.All
import Wide.All
import OpenK.AllK
import Wide.FinOn
import PySem.Challenge.RW_te0033_05
set_option Elab.async false
set_option linter.unusedVariables false
set_option maxRecDepth 10000
set_option genSizeOf false
set_option genInjectivity false
set_option genCtorIdx false
set_option bootstrap.genMatcherCode false
set_option tactic.hygienic false
noncomputable section
set_option genSizeOf false
open PySem
namespace Mine
def qA:=@Nat.le_trans
def qB:=@wpAny_bind
def qC:=@wpAny_pure
def qD:=@wpAny_holding
def qE:=@Nat.le_of_ble_eq_true
def qF:=@Nat.le_refl
def qG:=@Nat.zero_le
def qH:=@of_decide_eq_true
def qI:=@Nat.add_le_add_left
def qJ:=@Nat.succ_le_succ
def qK:=@Nat.le_add_right
def qL:=@Nat.lt_of_le_of_lt
def qM:=@List.takeWhile_prefix
def qO:=@Nat.add_le_add_right
def qP:=@Nat.ne_of_lt
def qQ:=@Nat.add_le_add
def qR:=@Nat.le_of_succ_le
def qS:=@List.cons.inj
def qU:=@Nat.lt_succ_of_lt
def qV:=@Nat.le_of_eq
def qX:=@wpAny_standAt
def qY:=@wpAny_execs_cons
def qZ:=@Heap.get?_push_size
def xA:=@Heap.get?_push_of_some
def xB:=@Nat.mul_le_mul_left
def xC:=@Nat.lt_succ_self
def xD:=@Nat.le_succ
def xF:=@Nat.succ_pos
def xG:=@Nat.le_of_lt
def xH:=@Nat.lt_of_lt_of_le
def xJ:=@Nat.lt_of_succ_lt_succ
def xK:=@Nat.not_lt_zero
def xM:=@Nat.not_succ_le_zero
def xN:=@Nat.le_antisymm
def xO:=@Nat.le_succ_of_le
def xP:=@Heap.lt_size
def xQ:=@Nat.le_of_succ_le_succ
def xR:=@List.length_take_le'
def xS:=@Nat.lt_irrefl
def xT:=@wpAny_mono
def xU:=@Nat.sub_le
def xV{α}[BEq α][LawfulBEq α]{a b:α}(h:a≠b):(a==b)=false:=beq_eq_false_iff_ne.mpr h
noncomputable abbrev wA:List Nat:=[105,110,118,97,108,105,100,45,99,111,100,101,112,111,105,110,116]
noncomputable abbrev wB:List Nat:=[100,97,116,97]
noncomputable abbrev wC:List Nat:=[116,121,112,101]
noncomputable abbrev wD:List Nat:=[117,110,101,120,112,101,99,116,101,100,45,99,104,97,114,97,99,116,101,114,45,97,102,116,101,114,45,115,111,108,105,100,117,115,45,105,110,45,116,97,103]
noncomputable abbrev wE:List Nat:=[101,111,102,45,105,110,45,115,99,114,105,112,116,45,105,110,45,115,99,114,105,112,116]
noncomputable abbrev wG:List Nat:=[115,101,108,102,67,108,111,115,105,110,103]
noncomputable abbrev wH:List Nat:=[101,120,112,101,99,116,101,100,45,97,116,116,114,105,98,117,116,101,45,110,97,109,101,45,98,117,116,45,103,111,116,45,101,111,102]
noncomputable abbrev wI:List Nat:=[117,110,101,120,112,101,99,116,101,100,45,69,79,70,45,97,102,116,101,114,45,115,111,108,105,100,117,115,45,105,110,45,116,97,103]
noncomputable abbrev wJ:List Nat:=[101,120,112,101,99,116,101,100,45,101,110,100,45,111,102,45,116,97,103,45,98,117,116,45,103,111,116,45,101,111,102]
noncomputable abbrev wK:List Nat:=[105,110,118,97,108,105,100,45,99,104,97,114,97,99,116,101,114,45,105,110,45,97,116,116,114,105,98,117,116,101,45,110,97,109,101]
noncomputable abbrev wL:List Nat:=[101,111,102,45,105,110,45,97,116,116,114,105,98,117,116,101,45,110,97,109,101]
noncomputable abbrev wM:List Nat:=[100,117,112,108,105,99,97,116,101,45,97,116,116,114,105,98,117,116,101]
noncomputable abbrev wN:List Nat:=[115,101,108,102,45,99,108,111,115,105,110,103,45,102,108,97,103,45,111,110,45,101,110,100,45,116,97,103]
noncomputable abbrev wO:List Nat:=[1,0,2,99]
noncomputable abbrev wQ:List Nat:=[110,97,109,101]
noncomputable abbrev wR:List Nat:=[69,110,100,84,97,103]
noncomputable abbrev wS:List Nat:=[83,112,97,99,101,67,104,97,114,97,99,116,101,114,115]
noncomputable abbrev wU:List Nat:=[115,99,114,105,112,116]
noncomputable abbrev wV:List Nat:=[97,116,116,114,105,98,117,116,101,115,45,105,110,45,101,110,100,45,116,97,103]
noncomputable abbrev wX:List Nat:=[67,104,97,114,97,99,116,101,114,115]
noncomputable abbrev wY:List Nat:=[105,110,118,97,108,105,100,45,99,104,97,114,97,99,116,101,114,45,97,102,116,101,114,45,97,116,116,114,105,98,117,116,101,45,110,97,109,101]
noncomputable abbrev wZ:List Nat:=[0,33,38,45,59,60]
noncomputable abbrev w4:List Nat:=[80,97,114,115,101,69,114,114,111,114]
noncomputable abbrev w5:List Nat:=[83,81,80,87,88,90]
noncomputable abbrev w6:List Nat:=[60,33,45,45]
noncomputable abbrev w7:List Nat:=[105,110,118,97,108,105,100,45,99,104,97,114,97,99,116,101,114,45]
noncomputable abbrev w8:List Nat:=[60,47,115,99,114,105,112,116]
noncomputable abbrev w9:List Nat:=[80,81,87,88,90]
noncomputable abbrev vA:List Nat:=[83,116,97,114,116,84,97,103]
noncomputable abbrev vB:List Nat:=[45,97,116,116,114,105,98,117,116,101,45,110,97,109,101]
noncomputable abbrev vC:List Nat:=[117,107,71,162,3,2]
noncomputable abbrev vD:List Nat:=[60,115,99,114,105,112,116]
theorem ff{P:Prop}(h:false=true):P:=nomatch h
theorem nn{α:Type}{a:α}{P:Prop}(h:none=some a):P:=nomatch h
theorem bA{a b:Bool}{P:Prop}(h:(a&&b)=true)(k:a=true->b=true->P):P:=by
 cases a
 ·exact ff h
 ·exact k rfl h
noncomputable def ctq{n m:Nat}(k:n=m->Bool):Bool:=dite (n=m) k fun J=>false
noncomputable def ctt{n m:Nat}(k:n=m->Bool):Bool:=dite (n=m) k fun J=>true
theorem Jf{n m:Nat}{k:n=m->Bool}{P:Prop}(h:ctq k=true)(f:n=m->P):P:=by
 by_cases q:n=m
 ·exact f q
 ·exact ff ((dif_neg q:ctq k=false).symm.trans h)
theorem bO{a b:Bool}{P:Prop}(h:(a||b)=true)(k1:a=true->P)(k2:b=true->P):P:=by
 cases a
 ·exact k2 h
 ·exact k1 rfl

set_option genCtorIdx true in
inductive Id where
 |p (n:Nat)
 |t (n:Nat)
 deriving DecidableEq

inductive V where
 |none
 |bool (b:Bool)
 |int (i:Int)
 |str (s:List Nat)
 |tup (l:List V)
 |list (l:List V)
 |dict (ks:List (List Nat)) (vs:List V)
 |obj (id:Id)
 |fn (f:Nat)
 |meth (f:Nat) (self:V)
 |rng (lo hi:Int)
def V.ctorIdx:V->Nat:=@V.rec (fun J=>Nat) (fun J=>Nat) 0 (fun J=>1) (fun J=>2) (fun J=>3) (fun J J=>4) (fun J J=>5) (fun J J J=>6) (fun J=>7) (fun J=>8) (fun J J J=>9) (fun J J=>10) 0 (fun J J J J=>0)

noncomputable def V.isNone:V->Bool |.none=>true |_=>false
noncomputable def V.isBool(b:Bool):V->Bool |.bool a=>b==a |_=>false
noncomputable def V.isInt(b:Int):V->Bool |.int a=>b==a |_=>false
noncomputable def V.isStr(b:List Nat):V->Bool |.str a=>b==a |_=>false
def V.isObj(b:Id):V->Bool |.obj a=>b==a |_=>false
noncomputable def V.isFn(b:Nat):V->Bool |.fn a=>b==a |_=>false
noncomputable def V.isTup(f:List V->Bool):V->Bool |.tup l=>f l |_=>false
noncomputable def V.isList(f:List V->Bool):V->Bool |.list l=>f l |_=>false
noncomputable def V.isDict(ks:List (List Nat))(f:List V->Bool):V->Bool |.dict k l=>ks==k&&f l |_=>false
noncomputable def V.isMeth(f:Nat)(k:V->Bool):V->Bool |.meth g v=>f==g&&k v |_=>false
noncomputable def V.isRng(a b:Int):V->Bool |.rng c d=>a==c&&b==d |_=>false
mutual
noncomputable def V.beq:V->V->Bool
 |.none=>V.isNone
 |.bool b=>V.isBool b
 |.int i=>V.isInt i
 |.str s=>V.isStr s
 |.tup l=>V.isTup (fun x=>V.beqs l x)
 |.list l=>V.isList (fun x=>V.beqs l x)
 |.dict ks l=>V.isDict ks (fun x=>V.beqs l x)
 |.obj i=>V.isObj i
 |.fn f=>V.isFn f
 |.meth f v=>V.isMeth f (fun x=>V.beq v x)
 |.rng a b=>V.isRng a b
noncomputable def V.beqs:List V->List V->Bool
 |[]=>fun l=>l.isEmpty
 |a::r=>fun l=>match l with
  |[]=>false
  |b::r'=>V.beq a b&&V.beqs r r'
end
theorem bE{α:Type}[BEq α][LawfulBEq α]{a b:α}(h:(a==b)=true):a=b:=beq_iff_eq.mp h
theorem V.beq_refl(a:V):V.beq a a=true:=
 V.rec (motive_1:=fun a=>V.beq a a=true) (motive_2:=fun l=>V.beqs l l=true) rfl (fun J=>beq_self_eq_true _) (fun J=>beq_self_eq_true _) (fun J=>beq_self_eq_true _) (fun J h=>h) (fun J h=>h) (fun J J h=>Bool.and_eq_true_iff.mpr ⟨beq_self_eq_true _,h⟩)
  (fun J=>beq_self_eq_true _) (fun J=>beq_self_eq_true _) (fun J J h=>Bool.and_eq_true_iff.mpr ⟨beq_self_eq_true _,h⟩) (fun J J=>Bool.and_eq_true_iff.mpr ⟨beq_self_eq_true _,beq_self_eq_true _⟩) rfl (fun J J h1 h2=>Bool.and_eq_true_iff.mpr ⟨h1,h2⟩) a
theorem V.beqs_refl:∀ a:List V,V.beqs a a=true:=fun l0=>by
 induction l0 with
 |nil =>
  exact rfl
 |cons a r ih =>
  exact Bool.and_eq_true_iff.mpr ⟨V.beq_refl a,ih⟩
theorem V.eq_of_beq{a b:V}:V.beq a b=true->a=b:=
 V.rec (motive_1:=fun a=>∀ b,V.beq a b=true->a=b) (motive_2:=fun l=>∀ l',V.beqs l l'=true->l=l')
  (fun b h=>by cases b<;>first |exact ff h |rfl) (fun J b h=>by cases b<;>first |exact ff h |exact congrArg V.bool (bE h)) (fun J b h=>by cases b<;>first |exact ff h |exact congrArg V.int (bE h)) (fun J b h=>by cases b<;>first |exact ff h |exact congrArg V.str (bE h))
  (fun J ih b h=>by cases b<;>first |exact ff h |exact congrArg V.tup (ih _ h)) (fun J ih b h=>by cases b<;>first |exact ff h |exact congrArg V.list (ih _ h))
  (fun J J ih b h=>by cases b<;>first |exact ff h |exact bA h fun h1 h2=>bE h1▸congrArg (V.dict _) (ih _ h2)) (fun J b h=>by cases b<;>first |exact ff h |exact congrArg V.obj (bE h)) (fun J b h=>by cases b<;>first |exact ff h |exact congrArg V.fn (bE h))
  (fun J J ih b h=>by cases b<;>first |exact ff h |exact bA h fun h1 h2=>bE h1▸congrArg (V.meth _) (ih _ h2)) (fun J J b h=>by cases b<;>first |exact ff h |exact bA h fun h1 h2=>bE h1▸bE h2▸rfl)
  (fun l h=>by cases l<;>first |rfl |exact ff h) (fun J J ih1 ih2 l h=>by cases l<;>first |exact ff h |exact bA h fun h1 h2=>ih1 _ h1▸congrArg (List.cons _) (ih2 _ h2)) a b
theorem V.eq_of_beqs:∀ {a b:List V},V.beqs a b=true->a=b
 |[],[],_=>rfl
 |[],_::_,h=>ff h
 |_::_,[],h=>ff h
 |_::_,_::_,h=>bA h fun h1 h2=>V.eq_of_beq h1▸congrArg _ (V.eq_of_beqs h2)

inductive Ob where
 |list (l:List V)
 |dict (ks:List (List Nat)) (vs:List V)
 |inst (C:Nat) (fs:List (Nat×V))

structure St where
 loc:List (Nat×V):=[]
 hp:List (Id×Ob):=[]
 nx:Nat:=0
 ps:List Nat:=[]

noncomputable def JA{α β:Type}[DecidableEq α]:List (α×β)->α->Option β
 |[],_=>none
 |(a,b)::r,x=>if a=x then some b else JA r x
noncomputable def put{α β:Type}[DecidableEq α]:List (α×β)->α->β->List (α×β)
 |[],x,v=>[(x,v)]
 |(a,b)::r,x,v=>if a=x then (a,v)::r else (a,b)::put r x v

theorem UH{α β:Type}[DecidableEq α]{a x:α}{b:β}{r:List (α×β)}:JA ((a,b)::r) x=if a=x then some b else JA r x:=rfl
theorem OH{α β:Type}[DecidableEq α]{a x:α}{b v:β}{r:List (α×β)}:put ((a,b)::r) x v=if a=x then (a,v)::r else (a,b)::put r x v:=rfl
def St.setLoc(U:St)(n:Nat)(v:V):St:={ U with loc:=put U.loc n v }
def St.setOb(U:St)(id:Id)(o:Ob):St:={ U with hp:=put U.hp id o }

set_option genCtorIdx true in
inductive LV where
 |frz |tmp |per (k:Nat)
 deriving DecidableEq

noncomputable def Ob.frz:Ob->Option V
 |.list l=>some (.list l)
 |.dict ks vs=>some (.dict ks vs)
 |.inst _ _=>none

set_option genCtorIdx true in
inductive Cmp where
 |eq |ne |lt |le |gt |ge |inn |nin |is |isn
 deriving DecidableEq
set_option genCtorIdx true in
inductive Bop where
 |add |sub |mul |fdiv |mod
 deriving DecidableEq
set_option genCtorIdx true in
inductive BI where
 |len |ord |chr |sum |range |max
 deriving DecidableEq
set_option genCtorIdx true in
inductive SM where
 |find |rfind |count |replace |lower |join |startswith
 deriving DecidableEq

inductive ME where
 |k (v:V)
 |loc (n:Nat)
 |glob (v:V)
 |attr (e:ME) (n C:Nat)
 |bm (e:ME) (n C f:Nat)
 |cat (e:ME) (n C:Nat) (i:Int)
 |call (f:Nat) (as:List ME)
 |mcall (e:ME) (n C f:Nat) (as:List ME)
 |fcall (e:ME) (n C:Nat) (as:List ME)
 |new (C f:Nat) (as:List ME) (lv:LV)
 |bi (b:BI) (as:List ME)
 |sm (m:SM) (e:ME) (as:List ME)
 |app (e x:ME)
 |pop (e:ME) (as:List ME)
 |cmp (o:Cmp) (l r:ME)
 |cmp2 (o1a o2a:Cmp) (l m r:ME)
 |bop (o:Bop) (l r:ME)
 |neg (e:ME)
 |not (e:ME)
 |and (a b:ME)
 |or (a b:ME)
 |ite (t b o:ME)
 |sub (e i:ME)
 |sl (e lo hi:ME)
 |lst (es:List ME) (lv:LV)
 |tup (es:List ME)
 |dct (ks:List (List Nat)) (es:List ME) (lv:LV)
 |comp (elt:ME) (x:Nat) (it:ME) (cond:ME)
 |isb (e:ME)
 |fat (e:ME) (n:Nat) (w:V)
 |fmc (e:ME) (n f:Nat) (as:List ME)
 |inf (l r:ME) (f:Nat)

inductive MS where
 |ex (e:ME)
 |asg (n:Nat) (e:ME)
 |asgA (t:ME) (n C:Nat) (e:ME)
 |asgS (t i e:ME)
 |asgT (ns:List Nat) (e:ME)
 |asgTA (t1a:ME) (n1a C1:Nat) (t2a:ME) (n2a C2:Nat) (e:ME)
 |augN (n:Nat) (o:Bop) (e:ME)
 |augA (t:ME) (n C:Nat) (o:Bop) (e:ME)
 |augS (t i:ME) (o:Bop) (e:ME)
 |iff (t:ME) (b o:List MS)
 |whl (t:ME) (b:List MS)
 |for (x:Nat) (it:ME) (b:List MS)
 |forT (xs:List Nat) (it:ME) (b:List MS)
 |ret (e:ME)
 |pass |brk |cont
 |asrt (e:ME)
 |dead
 |tryS (b:List MS)

inductive FL where
 |next |brk |cont
 |ret (v:V)

noncomputable def bn{α β:Type}(x:Option (α×St))(f:α->St->Option β):Option β:=match x with
 |some (a,U)=>f a U
 |none=>none
noncomputable def bo{α β:Type}(x:Option α)(f:α->Option β):Option β:=match x with
 |some a=>f a
 |none=>none
noncomputable def gd{β:Type}(b:Bool)(x:Option β):Option β:=match b with
 |true=>x
 |false=>none
noncomputable def no{α β:Type}(o:Option α)(x:Option β):Option β:=match o with
 |none=>x
 |some _=>none
section
variable{α β:Type}{r:β}{P:Prop}
theorem bnE{x:Option (α×St)}{f:α->St->Option β}(h:bn x f=some r)(k:∀ a U,x=some (a,U)->f a U=some r->P):P:=by
 cases x with
 |none=>exact nn h
 |some p=>cases p;exact k _ _ rfl h
theorem boE{x:Option α}{f:α->Option β}(h:bo x f=some r)(k:∀ a,x=some a->f a=some r->P):P:=by
 cases x with
 |none=>exact nn h
 |some p=>exact k p rfl h
theorem gdE{b:Bool}{x:Option β}(h:gd b x=some r)(k:b=true->x=some r->P):P:=by
 cases b with
 |false=>exact nn h
 |true=>exact k rfl h
theorem noE{o:Option α}{x:Option β}(h:no o x=some r)(k:o=none->x=some r->P):P:=by
 cases o with
 |none=>exact k rfl h
 |some _=>exact nn h
end
def onList{β:Type}(U:St)(v:V)(f:Id->List V->Option β):Option β:=match v with
 |.obj id=>bo (JA U.hp id) fun o=>match o with
  |.list l=>f id l
  |_=>none
 |_=>none
def onInst{β:Type}(U:St)(C:Nat)(v:V)(f:Id->List (Nat×V)->Option β):Option β:=match v with
 |.obj id=>bo (JA U.hp id) fun o=>match o with
  |.inst D fs=>gd (Nat.beq D C) (f id fs)
  |_=>none
 |_=>none
noncomputable def onMeth{β:Type}(v:V)(f:Nat->V->Option β):Option β:=match v with
 |.meth g s=>f g s
 |_=>none
noncomputable def onFn{β:Type}(v:V)(f:V->Option β):Option β:=match v with
 |.fn k=>f (.fn k)
 |_=>none
noncomputable def onStr{β:Type}(v:V)(f:List Nat->Option β):Option β:=match v with
 |.str s=>f s
 |_=>none
noncomputable def OK{β:Type}(v:V)(f:List V->Option β):Option β:=match v with
 |.tup l=>f l
 |_=>none
noncomputable def onInt{β:Type}(v:V)(f:Int->Option β):Option β:=match v with
 |.int i=>f i
 |_=>none
section
variable{β:Type}{r:β}{P:V->Prop}{v:V}{U:St}
@[elab_as_elim] theorem Xb{f:Id->List V->Option β}(h:onList U v f=some r)(k:∀ id l,JA U.hp id=some (.list l)->f id l=some r->P (.obj id)):P v:=by
 cases v<;>first |exact nn h |skip
 exact boE h fun o h1 h2=>by
  cases o<;>first |exact nn h2 |exact k _ _ h1 h2
@[elab_as_elim] theorem WL{C:Nat}{f:Id->List (Nat×V)->Option β}(h:onInst U C v f=some r)(k:∀ id fs,JA U.hp id=some (.inst C fs)->f id fs=some r->P (.obj id)):P v:=by
 cases v<;>first |exact nn h |skip
 exact boE h fun o h1 h2=>by
  cases o<;>first |exact nn h2 |exact gdE h2 fun h3 h4=>k _ _ (Nat.eq_of_beq_eq_true h3▸h1) h4
@[elab_as_elim] theorem ZDG{f:Nat->V->Option β}(h:onMeth v f=some r)(k:∀ g s,f g s=some r->P (.meth g s)):P v:=by
 cases v<;>first |exact nn h |exact k _ _ h
@[elab_as_elim] theorem OL{f:V->Option β}(h:onFn v f=some r)(k:∀ i,f (.fn i)=some r->P (.fn i)):P v:=by
 cases v<;>first |exact nn h |exact k _ h
@[elab_as_elim] theorem Qt{f:List Nat->Option β}(h:onStr v f=some r)(k:∀ s,f s=some r->P (.str s)):P v:=by
 cases v<;>first |exact nn h |exact k _ h
@[elab_as_elim] theorem ZFk{f:List V->Option β}(h:OK v f=some r)(k:∀ s,f s=some r->P (.tup s)):P v:=by
 cases v<;>first |exact nn h |exact k _ h
@[elab_as_elim] theorem QP{f:Int->Option β}(h:onInt v f=some r)(k:∀ s,f s=some r->P (.int s)):P v:=by
 cases v<;>first |exact nn h |exact k _ h
end
def St.alloc(U:St)(lv:LV)(o:Ob):Option (V×St):=match lv with
 |.frz=>bo o.frz fun v=>some (v,U)
 |.tmp=>some (.obj (.t U.nx),{ U with hp:=(.t U.nx,o)::U.hp,nx:=U.nx+1 })
 |.per k=>if k∈U.ps then none else some (.obj (.p k),{ U with hp:=(.p k,o)::U.hp,ps:=k::U.ps })

noncomputable def JB:Nat:=16777216
def bd{α:Type}(n:Nat)(o:Option α):Option α:=gd (Nat.ble n JB) o
def onListOf{β:Type}(U:St)(v:V)(f:List V->Option β):Option β:=match v with
 |.list l=>f l
 |.obj id=>onList U (.obj id) fun J l=>f l
 |_=>none
def Jk(U:St):V->Option Bool
 |.none=>some false
 |.bool b=>some b
 |.int i=>some (i != 0)
 |.str s=>bd s.length (some (!s.isEmpty))
 |.meth _ _=>some true
 |.list l=>bd l.length (some (!l.isEmpty))
 |.dict ks _=>bd ks.length (some (!ks.isEmpty))
 |.obj id=>onList U (.obj id) fun J l=>bd l.length (some (!l.isEmpty))
 |_=>none

noncomputable def IP:V->Option (List Nat) |.str s=>some s |_=>none
noncomputable def XJ:V->Option Int |.int s=>some s |_=>none
noncomputable def HQ:V->Option (Option (List Nat)) |.str s=>some (some s) |.none=>some none |_=>none
noncomputable def Wx:List V->Option (List (Option (List Nat)))
 |[]=>some []
 |v::r=>bo (HQ v) fun y=>bo (Wx r) fun l=>some (y::l)
noncomputable def Ut:List V->Option (List (List Nat))
 |[]=>some []
 |v::r=>bo (IP v) fun y=>bo (Ut r) fun l=>some (y::l)
noncomputable def Uw:List V->Option (List Int)
 |[]=>some []
 |v::r=>bo (XJ v) fun y=>bo (Uw r) fun l=>some (y::l)
def We(x:V)(l:List V):Option Bool:=match x with
 |.str x=>bo (Wx l) fun ys=>some (ys.any (·==some x))
 |.none=>bo (Ut l) fun J=>some false
 |.int x=>bo (Uw l) fun ys=>some (ys.any (·==x))
 |_=>none

noncomputable def Jc:List Nat->List Nat->Bool
 |[],_=>true
 |_::_,[]=>false
 |a::r,b::r'=>a==b&&Jc r r'
noncomputable def Jv(y:List Nat):List Nat->Nat->Int
 |[],i=>if Jc y [] then (i:Int) else -1
 |a::r,i=>if Jc y (a::r) then (i:Int) else Jv y r (i+1)

mutual
noncomputable def dep:V->Nat
 |.list l=>deps l+1
 |.dict _ l=>deps l+1
 |_=>0
noncomputable def deps:List V->Nat
 |[]=>0
 |v::l=>max (dep v) (deps l)
end
mutual
noncomputable def O5:V->Bool
 |.none=>true
 |.bool _=>true
 |.int _=>true
 |.str _=>true
 |.list l=>datVs l
 |.dict _ l=>datVs l
 |_=>false
noncomputable def datVs:List V->Bool
 |[]=>true
 |v::l=>O5 v&&datVs l
end
def YO(v:V):Bool:=O5 v&&Nat.ble (dep v) 50
def OB(U:St)(a b:V):Option Bool:=onListOf U a fun l=>onListOf U b fun l'=>gd (V.beqs l l'&&l.all YO) (some true)

noncomputable def Wu:V->Option Bool |.none=>some true |.bool _=>some false |.int _=>some false |.str _=>some false |.obj _=>some false |.list _=>some false |.tup _=>some false |_=>none
noncomputable def U9:V->Option Bool |.bool b=>some b |_=>none
noncomputable def ZGp:V->Option Bool |.none=>some true |.str _=>some false |_=>none
def O4(a b:V):Option Bool:=match a with
 |.none=>ZGp b
 |.int a=>onInt b fun b=>some (a==b)
 |.str a=>(match b with
  |.none=>some false
  |.str b=>some (a==b)
  |_=>none)
 |_=>none
def Oa:V->Option (Int×Int)
 |.tup l=>(match l with
  |[a,b]=>bo (XJ a) fun x=>bo (XJ b) fun y=>some (x,y)
  |_=>none)
 |_=>none
def eqV(U:St)(a b:V):Option Bool:=match a with
 |.bool a=>bo (U9 b) fun b=>some (a==b)
 |.tup l=>bo (Oa (.tup l)) fun p=>bo (Oa b) fun q=>some (p.1==q.1&&p.2==q.2)
 |.list l=>OB U (.list l) b
 |.obj i=>OB U (.obj i) b
 |a=>O4 a b

def Ov(a b:V):Option Bool:=match b.isNone with
 |true=>Wu a
 |false=>gd a.isNone (Wu b)
def isV(a b:V):Option Bool:=match a with
 |.bool a=>(match b with
  |.none=>some false
  |.bool b=>some (a==b)
  |_=>none)
 |a=>Ov a b
noncomputable def YW:V->Option Nat
 |.str s=>(match s with |[c]=>some c |_=>none)
 |_=>none
def YV(f:Int->Int->Bool)(a b:V):Option Bool:=bo (XJ a) fun x=>bo (XJ b) fun y=>some (f x y)
def Hv(U:St)(x y:V):Option Bool:=match y with
 |.tup l=>We x l
 |.str y=>onStr x fun x=>some (Jv x y 0 != -1)
 |.obj id=>onList U (.obj id) fun J l=>We x l
 |_=>none
def QJ(U:St)(o:Cmp)(a b:V):Option Bool:=match o with
 |.eq=>eqV U a b
 |.ne=>bo (O4 a b) fun c=>some (!c)
 |.lt=>(match a with
  |.str x=>onStr b fun y=>some (decide (x<y))
  |a=>YV (fun x y=>decide (x<y)) a b)
 |.le=>(match a with
  |.int _=>YV (fun x y=>decide (x<=y)) a b
  |a=>bo (YW a) fun x=>bo (YW b) fun y=>some (decide (x<=y)))
 |.gt=>YV (fun x y=>decide (x > y)) a b
 |.ge=>YV (fun x y=>decide (x ≥ y)) a b
 |.inn=>Hv U a b
 |.nin=>(match b with
  |.tup l=>bo (We a l) fun c=>some (!c)
  |_=>none)
 |.is=>isV a b
 |.isn=>bo (isV a b) fun c=>some (!c)

def XK(U:St)(o:Cmp)(a b:V):Option Bool:=match o with
 |.inn=>(match b with
  |.dict ks _=>onStr a fun x=>some (ks.any (·==x))
  |b=>QJ U .inn a b)
 |o=>QJ U o a b
def Jn(U:St)(o:Bop)(a b:V):Option V:=match o with
 |.add=>(match a with
  |.int a=>onInt b fun b=>some (.int (a+b))
  |.str a=>onStr b fun b=>bd (a.length+b.length) (some (.str (a++b)))
  |.tup a=>OK b fun b=>gd (!a.isEmpty&&!b.isEmpty) (bd (a.length+b.length) (some (.tup (a++b))))
  |a=>onListOf U a fun l=>onListOf U b fun l'=>bd (l.length+l'.length) (some (.list (l++l'))))
 |.sub=>onInt a fun a=>onInt b fun b=>some (.int (a-b))
 |.mod=>onInt a fun a=>onInt b fun b=>gd (decide (0<b)) (some (.int (a % b)))
 |.fdiv=>onInt a fun a=>onInt b fun b=>gd (decide (0<b)&&decide (b<=1000)) (some (.int (a / b)))
 |.mul=>none

noncomputable def Q1(n:Nat)(i:Int):Option Nat:=seqIndex? i n
noncomputable def Qw:List (List Nat)->List V->List Nat->Option V
 |[],_,_=>none
 |_::_,[],_=>none
 |k::ks,v::vs,x=>if k=x then some v else Qw ks vs x
def Ue(l:List V)(i:V):Option V:=onInt i fun i=>bd l.length (bo (Q1 l.length i) fun j=>l[j]?)
def Qd(U:St)(a x:V):Option V:=match a with
 |.str s=>onInt x fun i=>bd s.length (bo (Q1 s.length i) fun j=>bo s[j]? fun c=>some (.str [c]))
 |.tup l=>Ue l x
 |.list l=>Ue l x
 |.dict ks vs=>onStr x fun x=>Qw ks vs x
 |.obj id=>bo (JA U.hp id) fun o=>match o with
  |.list l=>Ue l x
  |.dict ks vs=>onStr x fun x=>Qw ks vs x
  |.inst _ _=>none
 |_=>none

noncomputable def clampIx(n:Nat)(i:Int):Nat:=(max 0 (min (if i<0 then i+n else i) (n:Int))).toNat
def Ui(n:Nat):V->Option Nat
 |.none=>some 0
 |.int i=>some (clampIx n i)
 |_=>none
def UO(n:Nat):V->Option Nat
 |.none=>some n
 |.int i=>some (clampIx n i)
 |_=>none
noncomputable def cut{α:Type}(l:List α)(a b:Nat):List α:=(l.take b).drop a
def slV(U:St)(v a b:V):Option V:=match v with
 |.str s=>bd s.length (bo (Ui s.length a) fun i=>bo (UO s.length b) fun j=>some (.str (cut s i j)))
 |v=>onListOf U v fun l=>bd l.length (bo (Ui l.length a) fun i=>bo (UO l.length b) fun j=>some (.list (cut l i j)))

noncomputable def Wd(l:List V):Option V:=match l with |[a]=>some a |_=>none
def biV(U:St)(b:BI)(l:List V):Option V:=match b with
 |.len=>bo (Wd l) fun v=>(match v with
  |.str s=>bd s.length (some (.int s.length))
  |v=>onListOf U v fun l=>bd l.length (some (.int l.length)))
 |.ord=>bo (Wd l) fun v=>bo (YW v) fun c=>some (.int c)
 |.chr=>bo (Wd l) fun v=>onInt v fun i=>gd (decide (0<=i)&&decide (i<1114112)) (some (.str [i.toNat]))
 |.range=>(match l with
  |[b]=>onInt b fun b=>some (.rng 0 b)
  |[a,b]=>onInt a fun a=>onInt b fun b=>some (.rng a b)
  |_=>none)
 |.sum=>bo (Wd l) fun v=>(match v with
  |.list l=>bo (Uw l) fun ys=>some (.int ys.sum)
  |_=>none)
 |.max=>none

noncomputable def QE(a b:List Nat):Nat->List Nat->List Nat
 |0,s=>s
 |_+1,[]=>[]
 |n+1,c::s=>if Jc a (c::s) then b++QE a b n ((c::s).drop a.length) else c::QE a b n s
noncomputable def lowC(c:Nat):Nat:=if 65<=c/\c<=90 then c+32 else c
noncomputable def QG(b:List Nat):List (List Nat)->List Nat
 |[]=>[]
 |[x]=>x
 |x::y::r=>x++b++QG b (y::r)
noncomputable def Ua(c:Nat)(l:List Nat):Nat:=(l.filter (·==c)).length
noncomputable def QW(c:Nat):List Nat->Nat->Int->Int
 |[],_,r=>r
 |a::l,i,r=>QW c l (i+1) (if a=c then i else r)
def Ww(s:List Nat)(l:List V):Option (Nat×Int):=match l with
 |[a,b,d]=>bo (YW a) fun c=>onInt b fun lo=>onInt d fun hi=>gd (decide (lo=0)&&(decide (0<=hi)&&decide (hi<=s.length))) (some (c,hi))
 |_=>none
def smV(U:St)(m:SM)(s:List Nat)(l:List V):Option V:=match m with
 |.find=>(match l with
  |[y]=>onStr y fun y=>some (.int (Jv y s 0))
  |[y,i]=>onStr y fun y=>onInt i fun i=>gd (decide (0<=i)&&decide (i<=s.length)) (some (.int (Jv y (s.drop i.toNat) i.toNat)))
  |_=>none)
 |.replace=>(match l with
  |[a,b]=>onStr a fun a=>onStr b fun b=>gd (!a.isEmpty&&(Nat.ble (s.length+(s.length+1)*b.length) 16777216&&!(a==b))) (some (.str (QE a b (s.length+1) s)))
  |_=>none)
 |.lower=>(match l with
  |[]=>gd (s.all (Nat.blt · 128)&&Nat.ble s.length 5592405) (some (.str (s.map lowC)))
  |_=>none)
 |.join=>bo (Wd l) fun v=>onListOf U v fun l=>bo (Ut l) fun ys=>bd ((ys.map (·.length)).sum+ys.length*s.length) (some (.str (QG s ys)))
 |.startswith=>bo (Wd l) fun y=>onStr y fun y=>some (.bool (Jc y s))
 |.count=>bo (Ww s l) fun p=>some (.int (Ua p.1 (s.take p.2.toNat)))
 |.rfind=>bo (Ww s l) fun p=>some (.int (QW p.1 (s.take p.2.toNat) 0 (-1)))

noncomputable def Qn(a:Int):Bool:=decide (-16777216<=a)&&decide (a<=16777216)
def Ub:V->Option (List V)
 |.str s=>some (s.map fun c=>.str [c])
 |.tup l=>some l
 |.list l=>some l
 |.rng a b=>gd (Qn a&&Qn b) (some ((List.range (b-a).toNat).map fun (i:Nat)=>.int (a+i)))
 |_=>none

abbrev Ora:=Nat->List V->St->Option (V×St)

noncomputable def Dk(o:Option V)(l:List V):List V:=match o with
 |some x=>x::l
 |none=>l
noncomputable def J3(f:V->St->Option (Option V×St)):List V->St->Option (List V×St)
 |[],U=>some ([],U)
 |v::r,U=>bn (f v U) fun o U1a=>bn (J3 f r U1a) fun l U2a=>some (Dk o l,U2a)
noncomputable def Dz:V->Bool |.none=>true |_=>false
def Jl(ce cc:St->Option (V×St))(x:Nat)(loc:List (Nat×V))(y:V)(τ:St):Option (Option V×St):=
 bn (cc { τ with loc:=(x,y)::loc }) fun w y1a=>bo (Jk y1a w) fun c=>match c with
  |false=>some (none,{ y1a with loc:=loc })
  |true=>bn (ce y1a) fun z y2a=>some (some z,{ y2a with loc:=loc })
def DP:List ME->Option Bool
 |[]=>some false
 |[.k (.int i)]=>gd (decide (i=0)) (some true)
 |_=>none
def Zy(z:Bool)(l:List V):Option (V×List V):=match z with
 |false=>bd l.length (bo l.getLast? fun y=>some (y,l.dropLast))
 |true=>(match l with
  |[]=>none
  |y::l=>gd (Nat.blt l.length JB) (some (y,l)))
mutual
noncomputable def ev(C:Ora):ME->St->Option (V×St)
 |.k v=>fun U=>some (v,U)
 |.glob v=>fun U=>some (v,U)
 |.loc n=>fun U=>bo (JA U.loc n) fun v=>some (v,U)
 |.attr e n D=>fun U=>bn (ev C e U) fun v U1a=>onInst U1a D v fun J fs=>bo (JA fs n) fun w=>some (w,U1a)
 |.bm e n D f=>fun U=>bn (ev C e U) fun v U1a=>onInst U1a D v fun id fs=>no (JA fs n) (some (.meth f (.obj id),U1a))
 |.cat e n D i=>fun U=>bn (ev C e U) fun v U1a=>onInst U1a D v fun J fs=>no (JA fs n) (some (.int i,U1a))
 |.call f as=>fun U=>bn (evs C as U) fun vs U1a=>C f vs U1a
 |.mcall e n D f as=>fun U=>bn (ev C e U) fun v U1a=>onInst U1a D v fun id fs=>no (JA fs n) (bn (evs C as U1a) fun vs U2a=>C f (.obj id::vs) U2a)
 |.fcall e n D as=>fun U=>bn (ev C e U) fun v U1a=>onInst U1a D v fun J fs=>bo (JA fs n) fun w=>onMeth w fun f self=>bn (evs C as U1a) fun vs U2a=>C f (self::vs) U2a
 |.new D f as lv=>fun U=>bn (evs C as U) fun vs U1a=>bn (U1a.alloc lv (.inst D [])) fun v U2a=>bn (C f (v::vs) U2a) fun r U3a=>gd (Dz r) (some (v,U3a))
 |.bi b as=>fun U=>bn (evs C as U) fun vs U1a=>bo (biV U1a b vs) fun w=>some (w,U1a)
 |.sm m e as=>fun U=>bn (ev C e U) fun v U1a=>onStr v fun s=>bn (evs C as U1a) fun vs U2a=>bo (smV U2a m s vs) fun w=>some (w,U2a)
 |.app e x=>fun U=>bn (ev C e U) fun v U1a=>onList U1a v fun id J=>bn (ev C x U1a) fun y U2a=>onList U2a (.obj id) fun J l=>bd l.length (some (.none,U2a.setOb id (.list (l++[y]))))
 |.pop e as=>fun U=>bn (ev C e U) fun v U1a=>onList U1a v fun id l=>bo (DP as) fun z=>bo (Zy z l) fun p=>some (p.1,U1a.setOb id (.list p.2))
 |.cmp o l r=>fun U=>bn (ev C l U) fun a U1a=>bn (ev C r U1a) fun b U2a=>bo (XK U2a o a b) fun c=>some (.bool c,U2a)
 |.cmp2 o1a o2a l m r=>fun U=>bn (ev C l U) fun a U1a=>bn (ev C m U1a) fun b U2a=>bo (QJ U2a o1a a b) fun c=>match c with
  |false=>some (.bool false,U2a)
  |true=>bn (ev C r U2a) fun d U3a=>bo (QJ U3a o2a b d) fun c=>some (.bool c,U3a)
 |.bop o l r=>fun U=>bn (ev C l U) fun a U1a=>bn (ev C r U1a) fun b U2a=>bo (Jn U2a o a b) fun w=>some (w,U2a)
 |.neg e=>fun U=>bn (ev C e U) fun v U1a=>onInt v fun i=>some (.int (-i),U1a)
 |.not e=>fun U=>bn (ev C e U) fun v U1a=>bo (Jk U1a v) fun b=>some (.bool (!b),U1a)
 |.and a b=>fun U=>bn (ev C a U) fun v U1a=>bo (Jk U1a v) fun c=>match c with
  |false=>some (v,U1a)
  |true=>ev C b U1a
 |.or a b=>fun U=>bn (ev C a U) fun v U1a=>bo (Jk U1a v) fun c=>match c with
  |true=>some (v,U1a)
  |false=>ev C b U1a
 |.ite t b o=>fun U=>bn (ev C t U) fun v U1a=>bo (Jk U1a v) fun c=>match c with
  |true=>ev C b U1a
  |false=>ev C o U1a
 |.sub e i=>fun U=>bn (ev C e U) fun v U1a=>bn (ev C i U1a) fun x U2a=>bo (Qd U2a v x) fun w=>some (w,U2a)
 |.sl e a b=>fun U=>bn (ev C e U) fun v U1a=>bn (ev C a U1a) fun x U2a=>bn (ev C b U2a) fun y U3a=>bo (slV U3a v x y) fun w=>some (w,U3a)
 |.lst es lv=>fun U=>bn (evs C es U) fun vs U1a=>U1a.alloc lv (.list vs)
 |.tup es=>fun U=>bn (evs C es U) fun vs U1a=>some (.tup vs,U1a)
 |.dct ks es lv=>fun U=>bn (evs C es U) fun vs U1a=>gd (decide (ks.length=vs.length)&&decide ks.Nodup) (U1a.alloc lv (.dict ks vs))
 |.comp elt x it cond=>fun U=>bn (ev C it U) fun v U1a=>bo (Ub v) fun l=>bd l.length (bn (J3 (Jl (ev C elt) (ev C cond) x U1a.loc) l U1a) fun r U2a=>some (.list r,U2a))
 |.isb e=>fun U=>bn (ev C e U) fun v U1a=>bo (U9 v) fun J=>some (.bool true,U1a)
 |.fat e _ w=>fun U=>bn (ev C e U) fun v U1a=>onFn v fun J=>some (w,U1a)
 |.fmc e _ f as=>fun U=>bn (ev C e U) fun v U1a=>onFn v fun v=>bn (evs C as U1a) fun vs U2a=>C f (v::vs) U2a
 |.inf l r f=>fun U=>bn (ev C l U) fun a U1a=>bn (ev C r U1a) fun b U2a=>onFn b fun b=>bn (C f [b,a] U2a) fun v U3a=>bo (U9 v) fun q=>some (.bool q,U3a)
noncomputable def evs(C:Ora):List ME->St->Option (List V×St)
 |[]=>fun U=>some ([],U)
 |e::r=>fun U=>bn (ev C e U) fun v U1a=>bn (evs C r U1a) fun vs U2a=>some (v::vs,U2a)
end

def tst(C:Ora)(e:ME)(U:St):Option (Bool×St):=bn (ev C e U) fun v U1a=>bo (Jk U1a v) fun b=>some (b,U1a)

noncomputable def XE:List (List Nat)->List V->List Nat->V->List V
 |[],vs,_,_=>vs
 |_::_,[],_,_=>[]
 |k::ks,v::vs,x,y=>if k=x then y::vs else v::XE ks vs x y
def Uu(U:St)(o i v:V):Option St:=match o with
 |.obj id=>bo (JA U.hp id) fun b=>match b with
  |.dict ks vs=>onStr i fun x=>bo (Qw ks vs x) fun J=>gd (Nat.ble ks.length 1000) (some (U.setOb id (.dict ks (XE ks vs x v))))
  |.list l=>onInt i fun k=>bd l.length (bo (Q1 l.length k) fun j=>gd (Nat.blt j l.length) (some (U.setOb id (.list (l.set j v)))))
  |.inst _ _=>none
 |_=>none
def Wq(U:St)(n C:Nat)(o v:V):Option St:=onInst U C o fun id fs=>gd (Nat.blt fs.length 400) (some (U.setOb id (.inst C (put fs n v))))
def YR(U:St)(o:Bop)(a b:V):Option (V×St):=match a with
 |.int i=>bo (Jn U o (.int i) b) fun w=>some (w,U)
 |.str s=>bo (Jn U o (.str s) b) fun w=>some (w,U)
 |.obj id=>gd (decide (o=.add)) (onList U (.obj id) fun id l=>onListOf U b fun l'=>bd (l.length+l'.length) (some (.obj id,U.setOb id (.list (l++l')))))
 |_=>none
noncomputable def WN:V->Option (List V)
 |.tup l=>some l
 |.list l=>some l
 |_=>none
noncomputable def UD:List Nat->List V->St->Option St
 |[],[],U=>some U
 |[],_::_,_=>none
 |_::_,[],_=>none
 |n::ns,v::vs,U=>UD ns vs (U.setLoc n v)

noncomputable def Qr:Nat:=1000000
noncomputable def Hh(f:FL)(go:Option (FL×St))(U:St):Option (FL×St):=match f with
 |.next=>go
 |.cont=>go
 |.brk=>some (.next,U)
 |.ret v=>some (.ret v,U)
noncomputable def QA(t:St->Option (Bool×St))(b:St->Option (FL×St)):Nat->St->Option (FL×St)
 |0,_=>none
 |n+1,U=>bn (t U) fun c U1a=>match c with
  |false=>some (.next,U1a)
  |true=>bn (b U1a) fun f U2a=>Hh f (QA t b n U2a) U2a
noncomputable def QI(g:V->St->Option St)(b:St->Option (FL×St)):List V->St->Option (FL×St)
 |[],U=>some (.next,U)
 |v::r,U=>bo (g v U) fun U1a=>bn (b U1a) fun f U2a=>Hh f (QI g b r U2a) U2a
noncomputable def Ih:V->Bool |.none=>true |.bool _=>true |.str _=>true |_=>false
noncomputable def YM(f:FL)(go:Option (FL×St))(U:St):Option (FL×St):=match f with
 |.next=>go
 |f=>some (f,U)
noncomputable def OI:V->Option (V×V)
 |.tup l=>(match l with |[a,b]=>some (a,b) |_=>none)
 |_=>none
mutual
noncomputable def exc(C:Ora):MS->St->Option (FL×St)
 |.ex e=>fun U=>bn (ev C e U) fun v U1a=>gd (Ih v) (some (.next,U1a))
 |.asg n e=>fun U=>bn (ev C e U) fun v U1a=>some (.next,U1a.setLoc n v)
 |.asgA t n D e=>fun U=>bn (ev C e U) fun v U1a=>bn (ev C t U1a) fun o U2a=>bo (Wq U2a n D o v) fun U3a=>some (.next,U3a)
 |.asgS t i e=>fun U=>bn (ev C e U) fun v U1a=>bn (ev C t U1a) fun o U2a=>bn (ev C i U2a) fun x U3a=>bo (Uu U3a o x v) fun U4a=>some (.next,U4a)
 |.asgT ns e=>fun U=>bn (ev C e U) fun v U1a=>bo (WN v) fun vs=>bo (UD ns vs U1a) fun U2a=>some (.next,U2a)
 |.asgTA t1a n1a D1a t2a n2a D2a e=>fun U=>bn (ev C e U) fun v U1a=>bo (OI v) fun p=>bn (ev C t1a U1a) fun o1a U2a=>bo (Wq U2a n1a D1a o1a p.1) fun U3a=>bn (ev C t2a U3a) fun o2a U4a=>bo (Wq U4a n2a D2a o2a p.2) fun U5a=>some (.next,U5a)
 |.augN n o e=>fun U=>bo (JA U.loc n) fun a=>bn (ev C e U) fun b U1a=>bn (YR U1a o a b) fun c U2a=>some (.next,U2a.setLoc n c)
 |.augA t n D o e=>fun U=>bn (ev C t U) fun x U1a=>onInst U1a D x fun id fs=>bo (JA fs n) fun a=>bn (ev C e U1a) fun b U2a=>bn (YR U2a o a b) fun c U3a=>bo (Wq U3a n D (.obj id) c) fun U4a=>some (.next,U4a)
 |.augS t i o e=>fun U=>bn (ev C t U) fun x U1a=>bn (ev C i U1a) fun j U2a=>bo (Qd U2a x j) fun a=>bn (ev C e U2a) fun b U3a=>bn (YR U3a o a b) fun c U4a=>bo (Uu U4a x j c) fun U5a=>some (.next,U5a)
 |.iff t b o=>fun U=>bn (tst C t U) fun c U1a=>match c with
  |true=>exs C b U1a
  |false=>exs C o U1a
 |.whl t b=>fun U=>QA (tst C t) (exs C b) Qr U
 |.for x it b=>fun U=>bn (ev C it U) fun v U1a=>bo (Ub v) fun l=>QI (fun v U=>some (U.setLoc x v)) (exs C b) l U1a
 |.forT xs it b=>fun U=>bn (ev C it U) fun v U1a=>bo (Ub v) fun l=>QI (fun v U=>bo (WN v) fun vs=>UD xs vs U) (exs C b) l U1a
 |.ret e=>fun U=>bn (ev C e U) fun v U1a=>some (.ret v,U1a)
 |.pass=>fun U=>some (.next,U)
 |.brk=>fun U=>some (.brk,U)
 |.cont=>fun U=>some (.cont,U)
 |.asrt e=>fun U=>bn (tst C e U) fun c U1a=>gd c (some (.next,U1a))
 |.dead=>fun J=>none
 |.tryS b=>fun U=>exs C b U
noncomputable def exs(C:Ora):List MS->St->Option (FL×St)
 |[]=>fun U=>some (.next,U)
 |s::r=>fun U=>bn (exc C s U) fun f U1a=>YM f (exs C r U1a) U1a
end

structure MFun where
 ps:List Nat
 ds:List V:=[]
 body:List MS
def MFun.args(m:MFun)(vs:List V):Option (List V):=
 let all:=vs++m.ds.drop (m.ds.length-(m.ps.length-vs.length))
 gd (Nat.ble vs.length m.ps.length&&Nat.beq all.length m.ps.length) (some all)
noncomputable def QY:FL->Option V
 |.next=>some .none
 |.ret v=>some v
 |_=>none
def Qx(C:Ora)(m:MFun)(vs:List V)(U:St):Option (V×St):=
 bo (m.args vs) fun as=>bn (exs C m.body { U with loc:=m.ps.zip as }) fun f U1a=>bo (QY f) fun v=>some (v,{ U1a with loc:=U.loc })
noncomputable def JH(T:Nat->Option MFun):Nat->Ora
 |0=>fun J J J=>none
 |n+1=>fun f vs U=>bo (T f) fun m=>Qx (JH T n) m vs U
end Mine
end
noncomputable section
open PySem
namespace Mine
set_option tactic.hygienic false in
theorem Runs.toks_le{M:Model}{Γ:Ctx}{p:Pos}{m:Sem Fin}{fs:List Frame}{s s':Shared}{e:End}(h:Runs M Γ p m fs s e s'):s.toks<=s'.toks:=by
 induction h<;>first
  |exact qF _
  |assumption
  |exact qA (xD _) a_ih
  |exact qA a_ih a_ih_1
theorem Wakes.toks_le{M:Model}{Γ:Ctx}{p:Pos}{g:Nat}{r:Resume}{s s':Shared}{res:GenResult}(h:Wakes M Γ p g r s res s'):s.toks<=s'.toks:=by
 have k1:∀ {Γ':Ctx} {p':Pos} {m:Sem Fin} {fs:List Frame},(∃ e1a s1a,Runs M Γ' p' m fs (s.setGen g .running) e1a s1a/\e1a.quiet=true/\res=e1a.result/\s'=s1a.setGen g e1a.genState)->s.toks<=s'.toks:=fun⟨e,s1a,hr,_,_,q⟩=>q▸(Runs.toks_le hr:_)
 have k2:∀ {a:GenResult},res=a/\s'=s->s.toks<=s'.toks:=fun⟨_,q⟩=>q▸qF _
 delta Wakes at h
 generalize s.gens[g]?=q at h
 cases q with
 |none=>exact h.elim
 |some gs =>
  cases gs with
  |fresh c =>
   cases r with
   |send v=>cases v<;>first |exact k1 h |exact k2 h
   |throw x=>exact h.2▸qF _
  |suspended k0a _ c0a p0a fs _=>exact k1 h
  |running=>exact k2 h
  |finished=>exact k2 h
open Sem in
theorem ZCl{α:Type}{M:Model}{Γ:Ctx}(n:Nat)(t:Sem α){Q:α->Pos->Shared->Prop}{E:Value->Pos->Shared->Prop}{p:Pos}{s:Shared}
  (hn:n<=s.toks) (h:wp M Γ t Q E p s):wp M Γ t (fun a p' s'=>n<=s'.toks/\Q a p' s') E p s:=by
 induction t generalizing p s with
 |pure a=>simp only[wp] at h ⊢;exact⟨hn,h⟩
 |raise e=>simp only[wp] at h ⊢;exact h
 |unsupported _=>simp only[wp] at h
 |finish _=>simp only[wp] at h
 |rule _ k ih=>simp only[wp] at h ⊢;exact ih _ hn h
 |«at» _ k ih=>simp only[wp] at h ⊢;exact ih _ hn h
 |load _ _ k ih=>simp only[wp] at h ⊢;exact h.imp fun o z=>⟨z.1,ih _ hn z.2⟩
 |update _ _ f k ih=>simp only[wp] at h ⊢;exact⟨h.1,ih _ hn h.2⟩
 |loadIfAlive _ k ih=>simp only[wp] at h ⊢;exact ih _ hn h
 |point _ k ih=>simp only[wp] at h ⊢;exact ih _ hn h
 |register _ k ih=>simp only[wp] at h
 |alloc _ k ih=>simp only[wp] at h ⊢;exact ih _ hn h
 |fresh k ih=>simp only[wp] at h ⊢;exact ih _ (xO hn) h
 |ask k ih=>simp only[wp] at h ⊢;exact ih _ hn h
 |choose _ _ k ih=>simp only[wp] at h ⊢;exact⟨h.1,ih _ hn h.2⟩
 |os _ _ k ih=>simp only[wp] at h ⊢;exact ih _ hn h
 |call c hh g l k ih =>
  simp only[wp] at h ⊢
  obtain⟨r,s',hr,z⟩:=h
  exact⟨r,s',hr,ih _ (qA hn (Runs.toks_le hr)) z⟩
 |handled _ k ih=>simp only[wp] at h ⊢;exact ih _ hn h
 |genState _ k ih=>simp only[wp] at h ⊢;exact h.imp fun o z=>⟨z.1,ih _ hn z.2⟩
 |newGen _ k ih=>simp only[wp] at h ⊢;exact ih _ hn h
 |resume g r l k ih =>
  simp only[wp] at h ⊢
  obtain⟨res,s',hr,z⟩:=h
  exact⟨res,s',hr,ih _ (qA hn (Wakes.toks_le hr)) z⟩
 |yield _ _ _ k ih=>simp only[wp] at h
 |stack k ih=>simp only[wp] at h ⊢;exact ih _ hn h
 |fork _ k ih=>simp only[wp] at h
 |thread k ih=>simp only[wp] at h ⊢;exact ih _ hn h
 |await _ _ _ _ k ih=>simp only[wp] at h
theorem Qi{α:Type}{M:Model}{A:Around}{t:Sem α}{Q:α->Shared->Prop}{E:Value->Shared->Prop}{s:Shared}(hp:0<s.toks)
  (h:wpAny M A t (fun a s'=>0<s'.toks->Q a s') E s):wpAny M A t Q E s:=fun Γ p hΓ =>
 Sem.wp_mono M Γ t (fun J J J z=>z.2 z.1) (fun J J J z=>z) p s (ZCl (M:=M) (Γ:=Γ) 1 t hp (h Γ p hΓ))
end Mine
end
noncomputable section
open PySem PySem.Calls PyProof.Rows PySem.W
namespace Mine

noncomputable def toS(l:List Nat):Str:=⟨l.toArray⟩
theorem Ur{a b:List Nat}(h:toS a=toS b):a=b:=by
 injection h with h;simpa using congrArg Array.toList h
theorem Jp(l:List Nat):(toS l).length=l.length:=by simp [toS,Str.length]

noncomputable def IB(K:Frag)(C:Addr):Bool:=
 plainOver K C&&(clsIn K C).any (·.hasDict)&&findIn K (.ref C) "__getattribute__"==some (some (.builtin "object.__getattribute__"))
 &&findIn K (.ref C) "__setattr__"==some (some (.builtin "object.__setattr__"))&&findIn K (.ref C) "__getattr__"==some none

structure Cx where
 prog:Program
 w:World
 K:Frag
 fA:Nat->Addr
 cA:Nat->Addr
 nm:Nat->Str
 nC:Nat
 G:List (Nat×V×Value)
 iA:Addr
 iD:Nat
 I:List (Nat×V)

noncomputable abbrev Cx.M(c:Cx):Model:=model c.prog c.w

mutual
inductive VR(c:Cx)(F:Addr->Obj->Prop)(ρ:Id->Option Addr):V->Value->Prop
 |none:VR c F ρ .none .none
 |bool (b:Bool):VR c F ρ (.bool b) (.bool b)
 |int (i:Int) (t:Tok):VR c F ρ (.int i) (.int i t)
 |str (s:List Nat) (t:Tok):VR c F ρ (.str s) (.str (toS s) t)
 |tup {l:List V} {a:Addr} {o:Obj} {items:Array Value} {n:Nat}:F a o->o.cls=.type "tuple"->o.data=.seq items n->VRs c F ρ l items.toList->VR c F ρ (.tup l) (.ref a)
 |list {l:List V} {a:Addr} {items:Array Value} {n:Nat}:F a { cls:=.type "list",dict:=none,data:=.seq items n,slots:=#[] }->VRs c F ρ l items.toList->VR c F ρ (.list l) (.ref a)
 |dict {ks:List (List Nat)} {vs:List V} {a:Addr} {o:Obj} {kvs:List (Str×Value)}:F a o->o.IsDictOf (strKind c.prog c.w) kvs->kvs.map (·.1)=ks.map toS->VRs c F ρ vs (kvs.map (·.2))->(a==sysModules)=false->VR c F ρ (.dict ks vs) (.ref a)
 |obj {id:Id} {a:Addr}:ρ id=some a->VR c F ρ (.obj id) (.ref a)
 |fn (f:Nat):VR c F ρ (.fn f) (.ref c.iA)
 |rng {lo hi:Int} {a:Addr} {t u v:Tok}:F a { cls:=.type "range",dict:=none,data:=.fields #[.int lo t,.int hi u,.int 1 v],slots:=#[] }->VR c F ρ (.rng lo hi) (.ref a)
 |meth {f:Nat} {self:V} {a:Addr} {x:Value}:F a (methodObj (.ref (c.fA f)) x)->VR c F ρ self x->VR c F ρ (.meth f self) (.ref a)
inductive VRs(c:Cx)(F:Addr->Obj->Prop)(ρ:Id->Option Addr):List V->List Value->Prop
 |nil:VRs c F ρ [] []
 |cons {v:V} {l:List V} {x:Value} {xs:List Value}:VR c F ρ v x->VRs c F ρ l xs->VRs c F ρ (v::l) (x::xs)
end

section
variable{c:Cx}{F F':Addr->Obj->Prop}{ρ ρ':Id->Option Addr}
theorem VR.mono(hF:∀ a o,F a o->F' a o)(hρ:∀ i a,ρ i=some a->ρ' i=some a){v:V}{x:Value}(h:VR c F ρ v x):VR c F' ρ' v x:=
 VR.rec (motive_1:=fun v x J=>VR c F' ρ' v x) (motive_2:=fun l xs J=>VRs c F' ρ' l xs) .none .bool .int .str (fun a b d J e=>.tup (hF _ _ a) b d e) (fun a J e=>.list (hF _ _ a) e) (fun a b d J f e=>.dict (hF _ _ a) b d e f) (fun a=>.obj (hρ _ _ a)) .fn (fun a=>.rng (hF _ _ a))
  (fun a J b=>.meth (hF _ _ a) b) .nil (fun J J a b=>.cons a b) h
theorem VRs.mono(hF:∀ a o,F a o->F' a o)(hρ:∀ i a,ρ i=some a->ρ' i=some a){l:List V}{xs:List Value}(h:VRs c F ρ l xs):VRs c F' ρ' l xs:=
 VRs.rec (motive_1:=fun v x J=>VR c F' ρ' v x) (motive_2:=fun l xs J=>VRs c F' ρ' l xs) .none .bool .int .str (fun a b d J e=>.tup (hF _ _ a) b d e) (fun a J e=>.list (hF _ _ a) e) (fun a b d J f e=>.dict (hF _ _ a) b d e f) (fun a=>.obj (hρ _ _ a)) .fn (fun a=>.rng (hF _ _ a))
  (fun a J b=>.meth (hF _ _ a) b) .nil (fun J J a b=>.cons a b) h
section
variable{P:Value->Prop}{x:Value}
@[elab_as_elim] theorem VR.noneE(h:VR c F ρ .none x)(k:P .none):P x:=by cases h;exact k
@[elab_as_elim] theorem VR.boolE{b:Bool}(h:VR c F ρ (.bool b) x)(k:P (.bool b)):P x:=by cases h;exact k
@[elab_as_elim] theorem VR.intE{i:Int}(h:VR c F ρ (.int i) x)(k:∀ t,P (.int i t)):P x:=by cases h;exact k _
@[elab_as_elim] theorem VR.strE{s:List Nat}(h:VR c F ρ (.str s) x)(k:∀ t,P (.str (toS s) t)):P x:=by cases h;exact k _
@[elab_as_elim] theorem VR.objE{i:Id}(h:VR c F ρ (.obj i) x)(k:∀ a,ρ i=some a->P (.ref a)):P x:=by cases h with |obj e=>exact k _ e
@[elab_as_elim] theorem VR.tupE{l:List V}(h:VR c F ρ (.tup l) x)(k:∀ a o items n,F a o->o.cls=.type "tuple"->o.data=.seq items n->VRs c F ρ l items.toList->P (.ref a)):P x:=by cases h with |tup a b d e=>exact k _ _ _ _ a b d e
@[elab_as_elim] theorem VR.listE{l:List V}(h:VR c F ρ (.list l) x)(k:∀ a items n,F a { cls:=.type "list",dict:=Option.none,data:=.seq items n,slots:=#[] }->VRs c F ρ l items.toList->P (.ref a)):P x:=by cases h with |list a b=>exact k _ _ _ a b
@[elab_as_elim] theorem VR.dictE{ks:List (List Nat)}{vs:List V}(h:VR c F ρ (.dict ks vs) x)(k:∀ a o kvs,F a o->o.IsDictOf (strKind c.prog c.w) kvs->kvs.map (·.1)=ks.map toS->VRs c F ρ vs (kvs.map (·.2))->(a==sysModules)=false->P (.ref a)):P x:=by
 cases h with |dict a b d e f=>exact k _ _ _ a b d e f
@[elab_as_elim] theorem VR.methE{f:Nat}{v:V}(h:VR c F ρ (.meth f v) x)(k:∀ a y,F a (methodObj (.ref (c.fA f)) y)->VR c F ρ v y->P (.ref a)):P x:=by cases h with |meth a b=>exact k _ _ a b
@[elab_as_elim] theorem VR.fnE{f:Nat}(h:VR c F ρ (.fn f) x)(k:P (.ref c.iA)):P x:=by cases h;exact k
@[elab_as_elim] theorem VR.rngE{lo hi:Int}(h:VR c F ρ (.rng lo hi) x)(k:∀ a t u v,F a { cls:=.type "range",dict:=Option.none,data:=.fields #[.int lo t,.int hi u,.int 1 v],slots:=#[] }->P (.ref a)):P x:=by cases h with |rng a=>exact k _ _ _ _ a
end
section
variable{P:List Value->Prop}{xs:List Value}
@[elab_as_elim] theorem VRs.nilE(h:VRs c F ρ [] xs)(k:P []):P xs:=by cases h;exact k
@[elab_as_elim] theorem VRs.consE{v:V}{l:List V}(h:VRs c F ρ (v::l) xs)(k:∀ y ys,VR c F ρ v y->VRs c F ρ l ys->P (y::ys)):P xs:=by cases h with |cons a b=>exact k _ _ a b
@[elab_as_elim] theorem VRs.oneE{v:V}(h:VRs c F ρ [v] xs)(k:∀ y,VR c F ρ v y->P [y]):P xs:=h.consE fun y J a b=>b.nilE (k y a)
@[elab_as_elim] theorem VRs.twoE{v w:V}(h:VRs c F ρ [v,w] xs)(k:∀ y z,VR c F ρ v y->VR c F ρ w z->P [y,z]):P xs:=h.consE fun y J a b=>b.oneE fun z b=>k y z a b
end
end

section
variable{c:Cx}{F:Addr->Obj->Prop}{ρ:Id->Option Addr}
theorem VRs.length:∀ {l:List V} {xs:List Value},VRs c F ρ l xs->l.length=xs.length:=by
 intro l
 induction l with
 |nil=>exact fun h=>h.nilE rfl
 |cons _ _ ih=>exact fun h=>h.consE fun J J J b=>congrArg (·+1) (ih b)
theorem VRs.get:∀ {l:List V} {xs:List Value},VRs c F ρ l xs->∀ {i:Nat} {v:V},l[i]?=some v->∃ x,xs[i]?=some x/\VR c F ρ v x:=by
 intro l
 induction l with
 |nil=>exact fun J J J e=>nn e
 |cons _ _ ih =>
  intro xs h i v e
  cases i with
  |zero =>
   exact h.consE fun y J a J=>⟨y,rfl,Option.some.inj e▸a⟩
  |succ i =>
   exact h.consE (P:=fun xs=>∃ x,xs[i+1]?=some x/\VR c F ρ _ x) fun J J J b=>ih b e
theorem VRs.append{l':List V}{xs':List Value}:∀ {l:List V} {xs:List Value},VRs c F ρ l xs->VRs c F ρ l' xs'->VRs c F ρ (l++l') (xs++xs'):=by
 intro l
 induction l with
 |nil=>exact fun h h'=>h.nilE h'
 |cons _ _ ih =>
  intro xs h h'
  exact h.consE (P:=fun xs=>VRs c F ρ _ (xs++xs')) fun J J a b=>.cons a (ih b h')
theorem VRs.take:∀ {l:List V} {xs:List Value},VRs c F ρ l xs->∀ n,VRs c F ρ (l.take n) (xs.take n):=by
 intro l
 induction l with
 |nil =>
  intro xs h n
  exact h.nilE (P:=fun xs=>VRs c F ρ _ (xs.take n)) (by cases n<;>exact .nil)
 |cons _ _ ih =>
  intro xs h n
  cases n with
  |zero=>exact .nil
  |succ n =>
   exact h.consE (P:=fun xs=>VRs c F ρ _ (xs.take (n+1))) fun J J a b=>.cons a (ih b n)
theorem VRs.drop:∀ {l:List V} {xs:List Value},VRs c F ρ l xs->∀ n,VRs c F ρ (l.drop n) (xs.drop n):=by
 intro l
 induction l with
 |nil =>
  intro xs h n
  cases n with
  |zero=>exact h
  |succ n =>
   exact h.nilE (P:=fun xs=>VRs c F ρ _ (xs.drop (n+1))) .nil
 |cons _ _ ih =>
  intro xs h n
  cases n with
  |zero=>exact h
  |succ n =>
   exact h.consE (P:=fun xs=>VRs c F ρ _ (xs.drop (n+1))) fun J J a b=>ih b n
end

inductive FsR(c:Cx)(F:Addr->Obj->Prop)(ρ:Id->Option Addr):List (Nat×V)->List DictEntry->Prop
 |nil:FsR c F ρ [] []
 |cons {n:Nat} {v:V} {fs:List (Nat×V)} {e:DictEntry} {es:List DictEntry} {t:Tok}:e.key=.str (c.nm n) t->VR c F ρ v e.val->FsR c F ρ fs es->FsR c F ρ ((n,v)::fs) (e::es)

noncomputable def YI:List (Str×Value):=[(Str.ofString "len",.builtin "len"),(Str.ofString "ord",.builtin "ord"),(Str.ofString "chr",.builtin "chr"),(Str.ofString "range",.type "range"),(Str.ofString "sum",.builtin "sum"),(Str.ofString "max",.builtin "max"),(Str.ofString "isinstance",.builtin "isinstance"),(Str.ofString "bool",.type "bool")]
structure Cx.Ok(c:Cx):Prop where
 bi:∀ p∈YI,nsIn c.K builtinsNs p.1=some (some p.2)
 inj:∀ i j,c.nm i=c.nm j->i=j
 noDbg:∀ i,(c.nm i==("__debug__":Str))=false
 no0:∀ i,c.nm i≠(".0":Str)
 fn:∀ f,fnIn c.K (c.fA f)=true
 cls:∀ C,C<c.nC->IB c.K (c.cA C)=true
 lim:c.K.lookup cStatics=some ⟨.none,none,.dict #[] 0,#[]⟩
 big:∃ o,c.K.lookup 3=some o
 gl:∀ n v x,(n,v,x)∈c.G->nsIn c.K 3 (c.nm n)=some (some x)
 gv:∀ n v x,(n,v,x)∈c.G->∀ (F:Addr->Obj->Prop) (ρ:Id->Option Addr),(∀ a o,c.K.lookup a=some o->F a o)->VR c F ρ v x
 ins:c.I≠[]->c.iD<c.nC/\∃ o es n,c.K.lookup c.iA=some (instObj (c.cA c.iD) o)/\c.K.lookup o=some (dictOf es n)/\∀ (F:Addr->Obj->Prop) (ρ:Id->Option Addr),(∀ a o,c.K.lookup a=some o->F a o)->FsR c F ρ c.I es

theorem nsO{h:Heap}{a:Addr}{m:Str->Option Value}(n:h.Ns a m):∃ p,h.get? a=some p:=by
 obtain⟨p,_,_,z,_⟩:=n
 exact⟨p,z⟩
structure Gh where
 W:Addr->Prop
 X:Addr->Prop
 cs:Id->Option (Addr×Addr)
noncomputable def Gh.rho(g:Gh)(i:Id):Option Addr:=(g.cs i).map (·.1)

def FA(env:Env)(a:Addr):Prop:=a=env.locals
def Fz(env:Env)(g:Gh)(h:Heap)(a:Addr)(o:Obj):Prop:=h.get? a=some o/\¬ g.W a/\¬ g.X a/\¬ FA env a

def ObR(c:Cx)(env:Env)(g:Gh)(h:Heap):Ob->Addr->Addr->Prop
 |.list l,r,o=>r=o/\∃ items n,IsL h r items n/\VRs c (Fz env g h) g.rho l items.toList
 |.dict ks vs,r,o=>r=o/\(r==sysModules)=false/\∃ kvs,h.DictOf (strKind c.prog c.w) r kvs/\kvs.map (·.1)=ks.map toS/\VRs c (Fz env g h) g.rho vs (kvs.map (·.2))
 |.inst C fs,r,o=>C<c.nC/\fs.length<=500/\Fz env g h r (instObj (c.cA C) o)/\∃ es n,h.get? o=some (dictOf es n)/\FsR c (Fz env g h) g.rho fs es

def Q3(c:Cx)(env:Env)(F:Addr->Obj->Prop)(ρ:Id->Option Addr)(loc:List (Nat×V))(m:Str->Option Value):Prop:=∀ n v,JA loc n=some v ->
      (env.kindOf (c.nm n)=some .local->∃ x,m (c.nm n)=some x/\VR c F ρ v x) /\
      (env.kindOf (c.nm n)=some .cell->∃ ca o x,env.cells.lookup (c.nm n)=some ca/\F ca o/\o.data=.cell (some x)/\VR c F ρ v x)
structure Rel0(c:Cx)(env:Env)(g:Gh)(U:St)(h:Heap):Prop where
 kin:∀ a o,c.K.lookup a=some o->Fz env g h a o
 wob:∀ a,g.W a->∃ o,h.get? a=some o
 xob:∀ a,g.X a->∃ o,h.get? a=some o
 fob:∀ a,FA env a->∃ o,h.get? a=some o
 dis:∀ a,g.W a->¬ g.X a/\¬ FA env a
 loc:∃ m,h.Ns env.locals m/\Q3 c env (Fz env g h) g.rho U.loc m
 obs:∀ id ob,JA U.hp id=some ob->∃ r o,g.cs id=some (r,o)/\ObR c env g h ob r o
 cW:∀ id r o,g.cs id=some (r,o)->g.W o
 inj:∀ id id' r o r',g.cs id=some (r,o)->g.cs id'=some (r',o)->id=id'
 nx:∀ k,U.nx<=k->g.cs (.t k)=none
 ps:∀ k,k∉U.ps->g.cs (.p k)=none

structure Rel(c:Cx)(env:Env)(g:Gh)(U:St)(s:Shared):Prop extends Rel0 c env g U s.heap where
 pos:0<s.toks

noncomputable abbrev gos(s:Shared):Array GenState×OsState:=(s.gens,s.os)
structure Ext(env:Env)(g g':Gh)(s s':Shared):Prop where
 fz:∀ a o,s.heap.get? a=some o->¬ g.W a->¬ FA env a->s'.heap.get? a=some o/\¬ g'.W a
 cs:∀ id p,g.cs id=some p->g'.cs id=some p
 X:g'.X=g.X
 gens:gos s'=gos s

theorem Ext.refl{env:Env}{g:Gh}{s:Shared}:Ext env g g s s:=⟨fun J J h hw J=>⟨h,hw⟩,fun J J h=>h,rfl,rfl⟩
theorem Ext.trans{env:Env}{g g1a g2a:Gh}{s s1a s2a:Shared}(x:Ext env g g1a s s1a)(y:Ext env g1a g2a s1a s2a):Ext env g g2a s s2a:=
 ⟨fun a o h hw hf=>(x.fz a o h hw hf).elim fun h1a hw1=>y.fz a o h1a hw1 hf,fun id p h=>y.cs id p (x.cs id p h),y.X.trans x.X,y.gens.trans x.gens⟩
theorem Ext.Fz{env:Env}{g g':Gh}{s s':Shared}(x:Ext env g g' s s'){a:Addr}{o:Obj}(h:Fz env g s.heap a o):Fz env g' s'.heap a o:=
 ⟨(x.fz a o h.1 h.2.1 h.2.2.2).1,(x.fz a o h.1 h.2.1 h.2.2.2).2,x.X▸h.2.2.1,h.2.2.2⟩
theorem Ext.rho{env:Env}{g g':Gh}{s s':Shared}(x:Ext env g g' s s'){i:Id}{a:Addr}(h:g.rho i=some a):g'.rho i=some a:=by
 unfold Gh.rho at *
 cases q:g.cs i with
 |none=>rw[q] at h;cases h
 |some p=>rw[q] at h;rw[x.cs i p q];exact h
theorem VR.ext{c:Cx}{env:Env}{g g':Gh}{s s':Shared}(x:Ext env g g' s s'){v:V}{y:Value}(h:VR c (Mine.Fz env g s.heap) g.rho v y):VR c (Mine.Fz env g' s'.heap) g'.rho v y:=
 h.mono (fun J J=>x.Fz) (fun J J=>x.rho)
theorem VRs.ext{c:Cx}{env:Env}{g g':Gh}{s s':Shared}(x:Ext env g g' s s'){v:List V}{y:List Value}(h:VRs c (Mine.Fz env g s.heap) g.rho v y):VRs c (Mine.Fz env g' s'.heap) g'.rho v y:=
 h.mono (fun J J=>x.Fz) (fun J J=>x.rho)
theorem FsR.mono{c:Cx}{F F':Addr->Obj->Prop}{ρ ρ':Id->Option Addr}(hF:∀ a o,F a o->F' a o)(hρ:∀ i a,ρ i=some a->ρ' i=some a){fs:List (Nat×V)}{es:List DictEntry}(h:FsR c F ρ fs es):FsR c F' ρ' fs es:=
 FsR.rec (motive:=fun fs es J=>FsR c F' ρ' fs es) .nil (fun a b J ih=>.cons a (b.mono hF hρ) ih) h
theorem Q3.mono{c:Cx}{env:Env}{F F':Addr->Obj->Prop}{ρ ρ':Id->Option Addr}(hF:∀ a o,F a o->F' a o)(hρ:∀ i a,ρ i=some a->ρ' i=some a){l:List (Nat×V)}{m:Str->Option Value}(h:Q3 c env F ρ l m):Q3 c env F' ρ' l m:=fun n v e =>
 ⟨fun q=>((h n v e).1 q).imp fun J z=>⟨z.1,z.2.mono hF hρ⟩,fun q=>((h n v e).2 q).imp fun J=>Exists.imp fun J=>Exists.imp fun J z=>⟨z.1,hF _ _ z.2.1,z.2.2.1,z.2.2.2.mono hF hρ⟩⟩
theorem ObR.mono{c:Cx}{env env':Env}{g g':Gh}{h h':Heap}{ob:Ob}{r o:Addr}(kF:∀ a o,Fz env g h a o->Fz env' g' h' a o)(kr:∀ i a,g.rho i=some a->g'.rho i=some a)(kc:∀ p,h.get? o=some p->h'.get? o=some p)(H:ObR c env g h ob r o):ObR c env' g' h' ob r o:=by
 cases ob with
 |list l=>exact⟨H.1,H.2.imp fun J=>Exists.imp fun J z=>⟨kc _ (H.1▸z.1) |> fun q=>H.1▸q,z.2.mono kF kr⟩⟩
 |dict ks vs=>exact⟨H.1,H.2.1,H.2.2.imp fun J z=>⟨z.1.at fun J e=>H.1▸kc _ (H.1▸e),z.2.1,z.2.2.mono kF kr⟩⟩
 |inst C fs=>exact⟨H.1,H.2.1,kF _ _ H.2.2.1,H.2.2.2.imp fun J=>Exists.imp fun J z=>⟨kc _ z.1,z.2.mono kF kr⟩⟩

theorem Rel0.grow{c:Cx}{env:Env}{g:Gh}{U:St}{h h':Heap}(R:Rel0 c env g U h)(k:∀ b o,h.get? b=some o->h'.get? b=some o):Rel0 c env g U h':=
 have kF:∀ a o,Fz env g h a o->Fz env g h' a o:=fun a o z=>⟨k _ _ z.1,z.2⟩
 ⟨fun a o e=>kF _ _ (R.kin a o e),fun a e=>(R.wob a e).imp fun o z=>k _ _ z,fun a e=>(R.xob a e).imp fun o z=>k _ _ z,fun a e=>(R.fob a e).imp fun o z=>k _ _ z,R.dis,R.loc.imp fun J z=>⟨z.1.keeps k,z.2.mono kF fun J J z=>z⟩,
  fun id ob e=>(R.obs id ob e).imp fun J=>Exists.imp fun J z=>⟨z.1,z.2.mono kF (fun J J z=>z) fun J=>k _ _⟩,R.cW,R.inj,R.nx,R.ps⟩
theorem Ext.grow{env:Env}{g:Gh}{s s':Shared}(k:∀ b o,s.heap.get? b=some o->s'.heap.get? b=some o)(hg:gos s'=gos s):Ext env g g s s':=
 ⟨fun a o h hw J=>⟨k _ _ h,hw⟩,fun J J h=>h,rfl,hg⟩
theorem Rel0.sub{c:Cx}{env:Env}{g:Gh}{U U':St}{h:Heap}(R:Rel0 c env g U h)(hl:∀ n v,JA U'.loc n=some v->JA U.loc n=some v)(ho:∀ i o,JA U'.hp i=some o->JA U.hp i=some o)
  (hn:U.nx<=U'.nx) (hp:∀ k,k∈U.ps->k∈U'.ps):Rel0 c env g U' h:=
 ⟨R.kin,R.wob,R.xob,R.fob,R.dis,R.loc.imp fun m z=>⟨z.1,fun n v e=>z.2 n v (hl n v e)⟩,fun i o e=>R.obs i o (ho i o e),R.cW,R.inj,fun k e=>R.nx k (qA hn e),fun k e=>R.ps k fun q=>e (hp k q)⟩
theorem Rel.sub{c:Cx}{env:Env}{g:Gh}{U U':St}{s:Shared}(R:Rel c env g U s)(hl:∀ n v,JA U'.loc n=some v->JA U.loc n=some v)(ho:∀ i o,JA U'.hp i=some o->JA U.hp i=some o)
  (hn:U.nx<=U'.nx) (hp:∀ k,k∈U.ps->k∈U'.ps):Rel c env g U' s:=⟨R.toRel0.sub hl ho hn hp,R.pos⟩
theorem Rel.grow{c:Cx}{env:Env}{g:Gh}{U:St}{s s':Shared}(R:Rel c env g U s)(k:∀ b o,s.heap.get? b=some o->s'.heap.get? b=some o)(hp:0<s'.toks):Rel c env g U s':=⟨R.toRel0.grow k,hp⟩
end Mine
end
noncomputable section
open PySem PySem.Builtin PySem.Builtin.Str PySem.StrLaws
namespace Mine

theorem DC:∀ (y s:List Nat),Jc y s=(s.take y.length==y)
 |[],s=>by cases s<;>rfl
 |_::_,[]=>rfl
 |a::y,b::s=>by
  show (a==b&&Jc y s)=(b==a&&(s.take y.length==y))
  rw[DC y s,BEq.comm]
theorem ZAi:∀ (y:List Nat) (m:Nat) (t:List Nat),Jc y (t.take m)=(decide (y.length<=m)&&Jc y t):=by
 intro y
 induction y with
 |nil =>
  intro m t
  rw[List.length_nil,decide_eq_true (qG m)];cases t.take m<;>cases t<;>rfl
 |cons a y ih =>
  intro m t
  cases m with
  |zero=>rfl
  |succ m =>
   cases t with
   |nil=>exact(Bool.and_false _).symm
   |cons b t =>
    show (a==b&&Jc y (t.take m))=(decide (y.length+1<=m+1)&&(a==b&&Jc y t))
    rw[ih m t,Bool.and_left_comm]
    congr 1
    exact decide_eq_decide.mpr Nat.succ_le_succ_iff.symm
noncomputable def QH(y:List Nat):Nat->List Nat->Nat->Nat->List Nat
 |lim,[],i,k=>if 0<lim/\k=0/\Jc y []=true then [i] else []
 |lim,c::s,i,k=>if 0<lim/\k=0/\Jc y (c::s)=true then i::QH y (lim-1) s (i+1) (y.length-1) else QH y lim s (i+1) (k-1)

theorem Gi{a b:List Nat}{n c:Nat}{s:List Nat}:QE a b (n+1) (c::s)=if Jc a (c::s) then b++QE a b n ((c::s).drop a.length) else c::QE a b n s:=rfl
theorem Zh{y:List Nat}{lim i k:Nat}:QH y lim [] i k=if 0<lim/\k=0/\Jc y []=true then [i] else []:=rfl
theorem Xz{y:List Nat}{lim i k c:Nat}{s:List Nat}:QH y lim (c::s) i k=if 0<lim/\k=0/\Jc y (c::s)=true then i::QH y (lim-1) s (i+1) (y.length-1) else QH y lim s (i+1) (k-1):=rfl
theorem ZJy{y:List Nat}{i:Nat}:Jv y [] i=if Jc y [] then (i:Int) else -1:=rfl
theorem ZJz{y:List Nat}{i a:Nat}{r:List Nat}:Jv y (a::r) i=if Jc y (a::r) then (i:Int) else Jv y r (i+1):=rfl
theorem ZU{s y:List Nat}{hi i:Nat}(hi':i<=hi):(i+(toS y).length<=hi/\subAt (toS s) (toS y) i=true) ↔ Jc y ((s.take hi).drop i)=true:=by
 rw[List.drop_take,ZAi,DC,Bool.and_eq_true,decide_eq_true_eq,subAt_eq,Jp,Nat.le_sub_iff_add_le' hi']
 exact Iff.rfl
theorem GG{α:Type}{L l:List α}{c:α}{i:Nat}(h:c::l=L.drop i):l=L.drop (i+1):=by rw[<- List.drop_drop,<- h];rfl

theorem ZDJ{s y:List Nat}{hi lim:Nat}:∀ (l:List Nat) (i:Nat) (st:Array Nat×Nat),l=(s.take hi).drop i->i+l.length=hi ->
  (forIn (List.range' i (l.length+1)) st (occBody (toS s) (toS y) hi lim)).run.fst.toList=st.fst.toList++QH y (lim-st.fst.size) l i (st.snd-i):=by
 have key:∀ (l:List Nat) (i:Nat) (st:Array Nat×Nat),l=(s.take hi).drop i->i+l.length=hi ->
   ((((st.fst.size<lim/\st.snd<=i)/\i+(toS y).length<=hi)/\subAt (toS s) (toS y) i=true) ↔ (0<lim-st.fst.size/\st.snd-i=0/\Jc y l=true)):=fun l i st hl hh=>by
  rw[hl,<- ZU (hh▸qK _ _),Nat.sub_pos_iff_lt,Nat.sub_eq_zero_iff_le,and_assoc,and_assoc]
 intro l
 induction l with
 |nil =>
  intro i st hl hh
  show (forIn [i] st (occBody (toS s) (toS y) hi lim)).run.fst.toList=_
  rw[List.forIn_cons]
  rw[Zh]
  unfold occBody
  by_cases hc:0<lim-st.fst.size/\st.snd-i=0/\Jc y []=true
  ·rw[if_pos ((key _ _ _ hl hh).mpr hc),if_pos hc];exact Array.toList_push
  ·rw[if_neg fun q=>hc ((key _ _ _ hl hh).mp q),if_neg hc];exact(List.append_nil _).symm
 |cons c l ih =>
  intro i st hl hh
  show (forIn (i::List.range' (i+1) (l.length+1)) st (occBody (toS s) (toS y) hi lim)).run.fst.toList=_
  rw[List.forIn_cons]
  rw[Xz]
  unfold occBody
  have hl':=GG hl
  have hh':i+1+l.length=hi:=(Nat.add_right_comm i 1 _).trans hh
  by_cases hc:0<lim-st.fst.size/\st.snd-i=0/\Jc y (c::l)=true
  ·rw[if_pos ((key _ _ _ hl hh).mpr hc),if_pos hc]
   refine(ih (i+1) (st.fst.push i,i+(toS y).length) hl' hh').trans ?_
   rw[Array.toList_push,Array.size_push,Jp,Nat.add_sub_add_left,List.append_assoc,<- Nat.sub_sub];rfl
  ·rw[if_neg fun q=>hc ((key _ _ _ hl hh).mp q),if_neg hc]
   exact ih (i+1) st hl' hh'
theorem KZ{s y:List Nat}{lo hi lim:Nat}(hh:hi<=s.length)(hl:lo<=hi):occurrences (toS s) (toS y) lo hi lim=QH y lim ((s.take hi).drop lo) lo 0:=by
 have e:((s.take hi).drop lo).length=hi-lo:=by rw[List.length_drop,List.length_take,Nat.min_eq_left hh]
 have:=ZDJ (y:=y) (lim:=lim) ((s.take hi).drop lo) lo (#[],lo) rfl (by rw[e];exact Nat.add_sub_cancel' hl)
 rw[e,<- Nat.sub_add_comm hl,Nat.sub_self] at this
 rw[occ_eq,this];rfl

theorem KM(y:List Nat):∀ (s:List Nat) (i:Nat),(match QH y 1 s i 0 with |k::_=>(k:Int) |[]=>-1)=Jv y s i:=fun l0=>by
 induction l0 with
 |nil =>
  intro i
  rw[Zh,ZJy]
  by_cases h:Jc y []=true
  ·rw[if_pos ⟨Nat.one_pos,rfl,h⟩,if_pos h]
  ·rw[if_neg fun q=>h q.2.2,if_neg h]
 |cons c s ih =>
  intro i
  rw[Xz,ZJz]
  by_cases h:Jc y (c::s)=true
  ·rw[if_pos ⟨Nat.one_pos,rfl,h⟩,if_pos h]
  ·rw[if_neg fun q=>h q.2.2,if_neg h];exact ih (i+1)
theorem Ku(s y:List Nat)(lim:Nat):occurrences (toS s) (toS y) 0 (toS s).length lim=QH y lim s 0 0:=by
 rw[Jp,KZ (qF _) (qG _),List.take_length];rfl
theorem ZDu(s y:List Nat):Txt.find (toS s) (toS y)=Jv y s 0:=by
 unfold Txt.find
 rw[Ku];exact KM y s 0
theorem ZAO(s y:List Nat):Txt.contains (toS s) (toS y)=(Jv y s 0 != -1):=by
 unfold Txt.contains
 rw[Ku,<- KM y s 0]
 cases QH y 1 s 0 0 with
 |nil=>rfl
 |cons k l=>exact(bne_iff_ne.mpr fun h=>nomatch h:((k:Int) != -1)=true).symm
theorem ZCE{s y:List Nat}{i:Int}(h0:0<=i)(h1:i<=s.length):Txt.find3 (toS s) (toS y) i=Jv y (s.drop i.toNat) i.toNat:=by
 unfold Txt.find3
 have h1:i.toNat<=s.length:=Int.toNat_le.mpr h1
 have e:fromIndex (toS s).length i=i.toNat:=by unfold fromIndex;rw[if_neg (Int.not_lt.mpr h0),Int.max_eq_right h0]
 rw[e,Jp,KZ (qF _) h1,List.take_length]
 exact KM y _ _

theorem KP(c a:Nat)(l:List Nat):Jc [c] (a::l)=(c==a):=Bool.and_true _
theorem ZAo{c:Nat}:∀ (l:List Nat) (lim i:Nat),l.length<lim->(QH [c] lim l i 0).length=Ua c l:=by
 intro l
 induction l with
 |nil =>
  intro lim i h
  rw[Zh,if_neg fun q=>nomatch q.2.2];rfl
 |cons a l ih =>
  intro lim i h
  cases lim with
  |zero=>exact absurd h (xK _)
  |succ lim =>
   rw[Xz]
   unfold Ua
   rw[List.filter_cons]
   by_cases e:c=a
   ·subst e
    rw[if_pos ⟨xF _,rfl,by rw[KP];exact beq_self_eq_true c⟩,if_pos (beq_self_eq_true c)]
    exact congrArg (·+1) (ih lim (i+1) (xJ h))
   ·rw[if_neg fun q=>e (bE ((KP c a l).symm.trans q.2.2)),if_neg fun q=>e (bE q).symm]
    exact ih (lim+1) (i+1) (Nat.lt_of_succ_lt h)
theorem ZBM{s:List Nat}{c hi:Nat}:∀ (l:List Nat) (i:Nat) (st:Option Nat),l=(s.take hi).drop i->i+l.length=hi->(match (forIn (List.range' i (l.length+1)) st (lastBody (toS s) (toS [c]) hi)).run with |some k=>(k:Int) |none=>-1)=QW c l i (match st with |some k=>(k:Int) |none=>-1):=fun l0=>by
 induction l0 with
 |nil =>
  intro i st hl hh
  show (match (forIn [i] st (lastBody (toS s) (toS [c]) hi)).run with |some k=>(k:Int) |none=>-1)=_
  rw[List.forIn_cons]
  unfold lastBody
  rw[if_neg fun q=>nomatch (show Jc [c] []=true from hl▸(ZU (s:=s) (y:=[c]) (hh▸qK _ _:i<=hi)).mp q)]
  rfl
 |cons a l ih =>
  intro i st hl hh
  have e:=ZU (s:=s) (y:=[c]) (hh▸qK _ _:i<=hi)
  rw[<- hl,KP] at e
  have hl':=GG hl
  have hh':i+1+l.length=hi:=(Nat.add_right_comm i 1 _).trans hh
  show (match (forIn (i::List.range' (i+1) (l.length+1)) st (lastBody (toS s) (toS [c]) hi)).run with |some k=>(k:Int) |none=>-1)=_
  rw[List.forIn_cons]
  unfold lastBody
  rw[show QW c (a::l) i (match st with |some k=>(k:Int) |none=>-1)=QW c l (i+1) (if a=c then (i:Int) else match st with |some k=>(k:Int) |none=>-1) from rfl]
  by_cases hc:a=c
  ·rw[if_pos (e.mpr (beq_iff_eq.mpr hc.symm)),if_pos hc];exact ih (i+1) (some i) hl' hh'
  ·rw[if_neg fun q=>hc (bE (e.mp q)).symm,if_neg hc];exact ih (i+1) st hl' hh'
theorem ZBN{s:List Nat}{c hi:Nat}(hh:hi<=s.length):(match lastOccurrence (toS s) (toS [c]) 0 hi with |some k=>(k:Int) |none=>-1)=QW c (s.take hi) 0 (-1):=by
 have e:(s.take hi).length=hi:=by rw[List.length_take,Nat.min_eq_left hh]
 have:=ZBM (c:=c) (s.take hi) 0 none rfl (by rw[e];exact Nat.zero_add _)
 rw[e] at this
 rw[last_eq];exact this

theorem Tn(s y:List Nat):Txt.startswith (toS s) (toS y)=Jc y s:=by
 have e:=ZU (s:=s) (y:=y) (qG s.length)
 rw[List.take_length,List.drop_zero] at e
 unfold Txt.startswith
 rw[Bool.eq_iff_iff,Bool.and_eq_true,decide_eq_true_eq,<- e,Jp s]

theorem Bw(s:List Nat)(i j:Nat):strSub (toS s) i j=toS ((s.drop i).take (j-i)):=congrArg Str.mk (Array.toList_inj.mp (strSub_toList (toS s) i j))
noncomputable def Uy(s:List Nat)(w:Nat):Nat->List Nat->List (List Nat)
 |p,[]=>[s.drop p]
 |p,c::r=>(s.drop p).take (c-p)::Uy s w (c+w) r
theorem ZAd(s:List Nat)(w:Nat):∀ (cuts:List Nat) (p:Nat),partsFrom (toS s) w p cuts=(Uy s w p cuts).map toS:=fun l0=>by
 induction l0 with
 |nil =>
  intro p
  show [strSub (toS s) p (toS s).length]=[toS (s.drop p)]
  rw[Bw,Jp,List.take_of_length_le (qV List.length_drop)]
 |cons c r ih =>
  intro p
  show strSub (toS s) p c::partsFrom (toS s) w (c+w) r=_
  rw[Bw,ih];rfl
theorem Yl(a b:List Nat):toS a++toS b=toS (a++b):=congrArg Str.mk (List.append_toArray a b)
theorem KO(b:List Nat):∀ (l:List (List Nat)),Str.join (toS b) (l.map toS)=toS (QG b l)
 |[]=>rfl
 |[x]=>rfl
 |x::y::r=>by
  show toS x++toS b++Str.join (toS b) ((y::r).map toS)=_
  rw[KO b (y::r),Yl,Yl];rfl
theorem ZAh{s b x:List Nat}{w p:Nat}:∀ {r:List Nat},QG b (x::Uy s w p r)=x++b++QG b (Uy s w p r)
 |[]=>rfl
 |_::_=>rfl
theorem ZBl{s b a:List Nat}{x:Nat}:∀ (l:List Nat) (lim i k p fuel:Nat) (u:List Nat),s.drop p=u++l.drop k->p+u.length=i+k->(k=0\/u=[])->l.length<lim->(l.drop k).length<fuel->QG b (Uy s (a.length+1) p (QH (x::a) lim l i k))=u++QE (x::a) b fuel (l.drop k):=fun l0=>by
 induction l0 with
 |nil =>
  exact fun lim i k p fuel u=>fun hs hp hk hlim hf=>by
   rw[Zh,if_neg fun q=>nomatch q.2.2]
   rw[List.drop_nil] at hs ⊢
   have:QE (x::a) b fuel []=[]:=by cases fuel<;>rfl
   rw[this];exact hs
 |cons c l ih =>
  exact fun lim i k p fuel u=>fun hs hp hk hlim hf=>by
   cases k with
   |succ m =>
    rw[Xz,if_neg fun q=>nomatch q.2.1]
    exact ih lim (i+1) m p fuel u hs (hp.trans (Nat.add_right_comm i m 1)) (.inr (hk.resolve_left fun q=>nomatch q)) (Nat.lt_of_succ_lt hlim) hf
   |zero =>
   cases lim with
   |zero=>exact absurd hlim (xK _)
   |succ lim =>
   cases fuel with
   |zero=>exact absurd hf (xK _)
   |succ n =>
   rw[Xz]
   have hf':=xJ hf
   have hlim':=xJ hlim
   by_cases h:Jc (x::a) (c::l)=true
   ·rw[if_pos ⟨xF _,rfl,h⟩]
    have e1:(s.drop p).take (i-p)=u:=by
     rw[hs,show i-p=u.length from Nat.sub_eq_of_eq_add (hp.symm.trans (Nat.add_comm _ _))];exact List.take_left
    have e2:s.drop (i+(a.length+1))=l.drop a.length:=by
     rw[show i=p+u.length from hp.symm,Nat.add_assoc,<- List.drop_drop,hs,<- List.drop_drop,List.drop_left];rfl
    show QG b ((s.drop p).take (i-p)::Uy s (a.length+1) (i+(a.length+1)) _)=u++QE (x::a) b (n+1) (c::l)
    rw[ZAh,e1]
    show u++b++QG b (Uy s (a.length+1) (i+(a.length+1)) (QH (x::a) lim l (i+1) a.length))=_
    rw[ih lim (i+1) a.length (i+(a.length+1)) n [] e2 (Nat.add_assoc i 1 a.length▸by rw[Nat.add_comm a.length 1];rfl) (.inr rfl) hlim' (qL (List.length_drop▸xU ..) hf'),Gi,if_pos h,List.append_assoc];rfl
   ·rw[if_neg fun q=>h q.2.2]
    show QG b (Uy s (a.length+1) p (QH (x::a) (lim+1) l (i+1) 0))=u++QE (x::a) b (n+1) (c::l)
    rw[ih (lim+1) (i+1) 0 p n (u++[c]) (hs.trans (List.append_cons u c l)) (by rw[List.length_append,<- Nat.add_assoc,hp];rfl) (.inl rfl) (Nat.lt_of_succ_lt hlim) hf',Gi,if_neg h,List.append_assoc];rfl
theorem ZAc{s a b:List Nat}(ha:a.isEmpty=false):Txt.replace (toS s) (toS a) (toS b)=toS (QE a b (s.length+1) s):=by
 cases a with
 |nil=>exact nomatch ha
 |cons x a =>
  have hr:=ZBl (b:=b) (a:=a) (x:=x) s (s.length+1) 0 0 0 (s.length+1) [] rfl rfl (.inl rfl) (xC _) (xC _)
  unfold Txt.replace
  rw[Ku,Jp]
  show (if ((QH (x::a) (s.length+1) s 0 0).isEmpty||((toS (x::a)).length==0&&_))=true then _ else _)=_
  rw[Jp,show ((x::a).length==0)=false from rfl,Bool.false_and,Bool.or_false]
  cases hc:QH (x::a) (s.length+1) s 0 0 with
  |nil=>rw[hc] at hr;exact congrArg toS hr
  |cons d r =>
   rw[hc] at hr
   rw[if_neg (by exact fun q=>nomatch q),partsBetween_eq,glued_eq_join,ZAd,KO]
   exact congrArg toS hr
end Mine
end
noncomputable section
open PySem PySem.Calls PyProof.Rows PySem.W
namespace Mine

structure EnvOk(env:Env):Prop where
 kind:env.scope.kind=.function
 glob:env.globals=mainGlobals
 blt:env.builtins=builtinsNs

def JP(A:Around)(r:Nat):Prop:=A.handled=none/\A.depth+r<recursionLimit/\A.units+20*r+300<cLine
theorem JP.le{A:Around}{r r':Nat}(h:JP A r)(k:r'<=r):JP A r':=⟨h.1,qL (qI k _) h.2.1,qL (qO (qI (xB _ k) _) _) h.2.2⟩
theorem JP.add{A:Around}{r k:Nat}(h:JP A r)(hk:k<=300):A.units+k<cLine:=qL (qQ (qK _ _) hk) h.2.2
theorem JP.units{A:Around}{r:Nat}(h:JP A r):A.units<cLine:=h.add (qG _)

abbrev Vx(c:Cx)(env:Env)(g:Gh)(s:Shared)(v:V)(x:Value):Prop:=VR c (Fz env g s.heap) g.rho v x
abbrev Vxs(c:Cx)(env:Env)(g:Gh)(s:Shared)(v:List V)(x:List Value):Prop:=VRs c (Fz env g s.heap) g.rho v x

def Nxt(c:Cx)(env:Env)(g:Gh)(s:Shared)(v:V)(U':St)(Q:Value->Shared->Prop):Prop:=
 ∀ x s' g',Rel c env g' U' s'->Vx c env g' s' v x->Ext env g g' s s'->Q x s'

def JD(c:Cx)(r:Nat)(env:Env)(e:Expr)(f:St->Option (V×St)):Prop:=
 ∀ ⦃A:Around⦄ ⦃U:St⦄ ⦃v:V⦄ ⦃U':St⦄ ⦃g:Gh⦄ ⦃s:Shared⦄ ⦃E:Value->Shared->Prop⦄ ⦃Q:Value->Shared->Prop⦄,
  JP A r->f U=some (v,U')->Rel c env g U s->Nxt c env g s v U' Q->wpAny c.M A (eval e env) Q E s

section
variable{c:Cx}{r:Nat}{env:Env}{A:Around}{U U' U1a:St}{g:Gh}{s:Shared}{E:Value->Shared->Prop}{Q:Value->Shared->Prop}{v:Mine.V}

theorem Ext.toks{t:Tok}:Ext env g g s { s with toks:=t }:=⟨fun J J h hw J=>⟨h,hw⟩,fun J J h=>h,rfl,rfl⟩
theorem Rel.toks{t:Tok}(R:Rel c env g U s)(ht:0<t:=by exact xF _):Rel c env g U { s with toks:=t }:=⟨R.toRel0,ht⟩
theorem Nxt.toks(N:Nxt c env g s v U Q)(R:Rel c env g U s){x:Value}{t:Tok}(h:Vx c env g s v x)(ht:0<t:=by exact xF _):Q x { s with toks:=t }:=
 N x { s with toks:=t } g (R.toks ht) h .toks
theorem Nxt.same(N:Nxt c env g s v U Q)(R:Rel c env g U s){x:Value}(h:Vx c env g s v x):Q x s:=N x s g R h .refl
theorem Nxt.grow(N:Nxt c env g s v U Q)(R:Rel c env g U s){x:Value}{s':Shared}(k:∀ b o,s.heap.get? b=some o->s'.heap.get? b=some o)(hg:gos s'=gos s)(h:Vx c env g s' v x)(ht:0<s'.toks:=by exact xF _):Q x s':=
 N x s' g (R.grow k ht) h (.grow k hg)
theorem Nxt.trans{s1a:Shared}{g1a:Gh}(N:Nxt c env g s v U' Q)(x:Ext env g g1a s s1a):Nxt c env g1a s1a v U' Q:=
 fun y s' g' R h e=>N y s' g' R h (x.trans e)
theorem Nxt.of{w:Mine.V}(e:some (w,U1a)=some (v,U'))(N:Nxt c env g s v U' Q):Nxt c env g s w U1a Q:=by cases e;exact N

theorem ZEH{k pos}:JD c r env (.Constant .none k pos) (fun U=>some (.none,U)):=fun J J J J J J J J J hf R N=>qC ((N.of hf).same R .none)
theorem ZEO{b k pos}:JD c r env (.Constant (.bool b) k pos) (fun U=>some (.bool b,U)):=fun J J J J J J J J J hf R N=>qC ((N.of hf).same R (.bool _))
theorem ZGe{i k pos}:JD c r env (.Constant (.int i) k pos) (fun U=>some (.int i,U)):=fun J J J J J J J J J hf R N=>wpAny_Constant_int ((N.of hf).toks R (.int _ _))
theorem ZGW{x k pos}:JD c r env (.Constant (.str (toS x)) k pos) (fun U=>some (.str x,U)):=fun J J J J J J J J J hf R N=>Constant_str ((N.of hf).toks R (.str _ _))

theorem ZGb(O:c.Ok)(VV:EnvOk env){n:Nat}{pos}(hk:env.kindOf (c.nm n)=some .local):JD c r env (.Name (c.nm n) pos) (fun U=>bo (JA U.loc n) fun v=>some (v,U)):=fun J J J J J J J J J hf R N=>boE hf fun w hv e=>by
 obtain⟨m,hm,hl⟩:=R.loc
 obtain⟨x,hx,h⟩:=(hl n _ hv).1 hk
 exact wpAny_Name (wpAny_loadName_local VV.kind hk hm hx ((N.of e).same R h)) (O.noDbg n)

theorem Rel.kinD(R:Rel c env g U s):c.K.In s.heap:=fun a o e=>(R.kin a o e).1

theorem ZEJ(O:c.Ok)(VV:EnvOk env){n:Nat}{x:Value}{pos}(hm:(n,v,x)∈c.G)(hk:env.kindOf (c.nm n)=some .globalImplicit):JD c r env (.Name (c.nm n) pos) (fun U=>some (v,U)):=fun J J J J J J J J J hf R N =>
 Name_function_global VV.kind hk (qB ((looks_nsIn R.kinD (VV.glob▸O.gl n v x hm:nsIn c.K env.globals (c.nm n)=some (some x))).here (qC ((N.of hf).same R (O.gv n v x hm _ _ R.kin))))) (O.noDbg n)

theorem DB{e:DictEntry}{n':Nat}{t:Tok}(hk:e.key=.str (c.nm n') t)(n:Nat):e.key.isStr (c.nm n)=(c.nm n'==c.nm n):=by rw[hk];rfl
theorem FsR.find{F:Addr->Obj->Prop}{ρ:Id->Option Addr}(O:c.Ok){n:Nat}{fs:List (Nat×V)}{es:List DictEntry}(h:FsR c F ρ fs es):
  (∀ v,JA fs n=some v->∃ e,es.find? (·.key.isStr (c.nm n))=some e/\VR c F ρ v e.val)/\(JA fs n=none->es.find? (·.key.isStr (c.nm n))=none/\es.any (·.refKey)=false):=
 FsR.rec (motive:=fun fs es J=>(∀ v,JA fs n=some v->∃ e,es.find? (·.key.isStr (c.nm n))=some e/\VR c F ρ v e.val)/\(JA fs n=none->es.find? (·.key.isStr (c.nm n))=none/\es.any (·.refKey)=false))
  ⟨fun J e=>nn e,fun J=>⟨rfl,rfl⟩⟩ (fun {n' v' fs e es t} hk hv J ih=>by
   have hs:=DB hk n
   have hr:e.refKey=false:=by unfold DictEntry.refKey;rw[hk]
   rw[UH]
   by_cases hn:n'=n
   ·have hs:e.key.isStr (c.nm n)=true:=by rw[hs,hn];exact beq_self_eq_true _
    rw[if_pos hn,List.find?_cons,hs]
    exact⟨fun v q=>⟨e,rfl,Option.some.inj q▸hv⟩,fun q=>(nn q.symm)⟩
   ·have hs:e.key.isStr (c.nm n)=false:=by rw[hs];exact beq_false_of_ne fun q=>hn (O.inj _ _ q)
    rw[if_neg hn,List.find?_cons,hs,List.any_cons,hr]
    exact ih) h
theorem FsR.lookIn_some{F:Addr->Obj->Prop}{ρ:Id->Option Addr}(O:c.Ok){n k:Nat}{fs:List (Nat×V)}{es:List DictEntry}(h:FsR c F ρ fs es){v:Mine.V}(hv:JA fs n=some v):∃ x,PySem.W.lookIn (c.nm n) (dictOf es k)=some (some x)/\VR c F ρ v x:=by
 obtain⟨e,h1,h2⟩:=(h.find O).1 v hv
 refine⟨e.val,?_,h2⟩
 show (match es.find? (·.key.isStr (c.nm n)) with |some e=>some (some e.val) |none=>_)=_
 rw[h1]
theorem FsR.lookIn_none{F:Addr->Obj->Prop}{ρ:Id->Option Addr}(O:c.Ok){n k:Nat}{fs:List (Nat×V)}{es:List DictEntry}(h:FsR c F ρ fs es)(hv:JA fs n=none):PySem.W.lookIn (c.nm n) (dictOf es k)=some none:=by
 obtain⟨h1,h2⟩:=(h.find O).2 hv
 show (match es.find? (·.key.isStr (c.nm n)) with |some e=>some (some e.val) |none=>if es.any (·.refKey) then none else some none)=_
 rw[h1,h2];rfl

structure Cls(c:Cx)(C:Nat):Prop where
 over:plainOver c.K (c.cA C)=true
 dict:(clsIn c.K (c.cA C)).any (·.hasDict)=true
 ga:findIn c.K (.ref (c.cA C)) "__getattribute__"=some (some (.builtin "object.__getattribute__"))
 sa:findIn c.K (.ref (c.cA C)) "__setattr__"=some (some (.builtin "object.__setattr__"))
 gt:findIn c.K (.ref (c.cA C)) "__getattr__"=some none
theorem Cx.Ok.clsOf(O:c.Ok){C:Nat}(h:C<c.nC):Cls c C:=bA (O.cls C h) fun h h5=>bA h fun h h4=>bA h fun h h3=>bA h fun h1 h2=>⟨h1,h2,bE h3,bE h4,bE h5⟩

theorem WR(R:Rel c env g U s){id:Id}{ob:Ob}{a:Addr}(ho:JA U.hp id=some ob)(hr:g.rho id=some a):∃ o,g.cs id=some (a,o)/\ObR c env g s.heap ob a o:=by
 obtain⟨r,o,hc,H⟩:=R.obs id _ ho
 unfold Gh.rho at hr
 rw[hc] at hr
 cases hr
 exact⟨o,hc,H⟩
inductive InR(c:Cx)(env:Env)(g:Gh)(h:Heap)(C:Nat)(fs:List (Nat×V))(a:Addr):Prop
 |mk (o:Addr) (es:List DictEntry) (n:Nat) (cls:Cls c C) (get:h.get? o=some (dictOf es n)) (fs:FsR c (Fz env g h) g.rho fs es) (at_:InstAt h a (instObj (c.cA C) o) (c.cA C) (some (dictOf es n)))
theorem Wv(O:c.Ok)(R:Rel c env g U s){id:Id}{C:Nat}{fs:List (Nat×V)}{a:Addr}(ho:JA U.hp id=some (.inst C fs))(hr:g.rho id=some a):InR c env g s.heap C fs a:=by
 obtain⟨o,_,hC,_,hz,es,n,he,hf⟩:=WR R ho hr
 exact .mk o es n (O.clsOf hC) he hf ⟨hz.1,rfl,rfl,he⟩

noncomputable def QD(c:Cx)(C n:Nat):Bool:=findIn c.K (.ref (c.cA C)) (c.nm n)==some none
theorem Cls.usual{D n:Nat}(h:QD c D n=true):findIn c.K (.ref (c.cA D)) (c.nm n)=some none:=bE h
theorem ZBT{F:Addr->Obj->Prop}{ρ:Id->Option Addr}{x:Value}(h:VR c F ρ v x):handedIn x=true:=
 VR.rec (motive_1:=fun J x J=>handedIn x=true) (motive_2:=fun J J J=>True) rfl (fun J=>rfl) (fun J J=>rfl) (fun J J=>rfl) (fun J J J J J=>rfl) (fun J J J=>rfl) (fun J J J J J J=>rfl) (fun J=>rfl) (fun J=>rfl) (fun J=>rfl) (fun J J J=>rfl) trivial (fun J J J J=>trivial) h

theorem Nc(O:c.Ok)(R:Rel c env g U s)(hI:c.I≠[]):InR c env g s.heap c.iD c.I c.iA:=by
 obtain⟨hC,o,es,n,h1,h2,h3⟩:=O.ins hI
 exact .mk o es n (O.clsOf hC) (R.kinD _ _ h2) (h3 _ _ R.kin) ⟨R.kinD _ _ h1,rfl,rfl,R.kinD _ _ h2⟩

theorem BJ(O:c.Ok){C n:Nat}{fs:List (Nat×V)}{a:Addr}{b:Bool}(hn:QD c C n=true)(R:Rel c env g U s)(Y:InR c env g s.heap C fs a)
  (hv:JA fs n=some v) (N:Nxt c env g s v U Q):wpAny c.M A (getAttr (.ref a) (c.nm n) b) Q E s:=by
 cases Y with
 |mk o es k D he hf I =>
  obtain⟨x,hx,hvx⟩:=hf.lookIn_some O (k:=k) hv
  refine get_value R.kinD I D.ga ?_ (ZBT hvx) (N.toks R hvx)
  obtain⟨cd,hcd,hdd⟩:=any_some D.dict
  delta findObj PySem.W.ownOf
  dsimp only
  rw[hcd,Cls.usual hn]
  show ((if cd.hasDict=true then lookIn (c.nm n) (dictOf es k) else some none).bind _)=_
  rw[if_pos hdd,hx];rfl
theorem KG(O:c.Ok){id:Id}{C n:Nat}{fs:List (Nat×V)}{a:Addr}{b:Bool}(hn:QD c C n=true)(R:Rel c env g U s)(ho:JA U.hp id=some (.inst C fs))(hr:g.rho id=some a)
  (hv:JA fs n=some v) (N:Nxt c env g s v U Q):wpAny c.M A (getAttr (.ref a) (c.nm n) b) Q E s:=
 BJ O hn R (Wv O R ho hr) hv N

theorem Kg(R:Rel c env g U s):¬ g.W s.heap.objs.size/\¬ g.X s.heap.objs.size/\¬ FA env s.heap.objs.size:=
 ⟨fun h=>(R.wob _ h).elim fun J e=>xS _ (xP e),fun h=>(R.xob _ h).elim fun J e=>xS _ (xP e),fun h=>(R.fob _ h).elim fun J e=>xS _ (xP e)⟩
theorem WS(R:Rel c env g U s){o:Obj}(hf:o.isFreed=false):Fz env g (s.heap.push o) s.heap.objs.size o:=
 ⟨qZ _ hf,Kg R⟩

noncomputable def U0(c:Cx)(C n f:Nat):Bool:=(findIn c.K (.ref (c.cA C)) (c.nm n)==some (some (.ref (c.fA f))))&&(isFn c.K (.ref (c.fA f))&&(fnIn c.K (c.fA f)&&!copiedNames.contains (c.nm n)))
theorem YQ{b:Bool}(h:(!b)=true):b=false:=by cases b<;>first |rfl |exact ff h
theorem KH{K:Frag}{a:Addr}(h:typeIn K (.ref a)=some (.type "function")){x:Str}{r:Option Value}(hx:fastLookup "function" x=some r):specialIn K (.ref a) x=some r:=by
 unfold specialIn;rw[h];exact hx
theorem ZDs:fastLookup "function" "__get__"=some (some (.builtin "function.__get__")):=by kernel_rfl
theorem ZDr:fastLookup "function" "__set__"=some none:=by kernel_rfl
theorem ZDt:fastLookup "function" "__delete__"=some none:=by kernel_rfl

theorem T7(O:c.Ok){id:Id}{C n f:Nat}{fs:List (Nat×Mine.V)}{a:Addr}{b:Bool}(hn:U0 c C n f=true)(R:Rel c env g U s)(ho:JA U.hp id=some (.inst C fs))(hr:g.rho id=some a)
  (hv:JA fs n=none) (N:Nxt c env g s (.meth f (.obj id)) U Q):wpAny c.M A (getAttr (.ref a) (c.nm n) b) Q E s:=by
 cases Wv O R ho hr with
 |mk o es k D he hf I =>
  refine bA hn fun h1 h=>bA h fun h2 h=>bA h fun h3 h4=>?_
  have h2:typeIn c.K (.ref (c.fA f))=some (.type "function"):=bE h2
  have P:=WS R (o:=methodObj (.ref (c.fA f)) (.ref a)) rfl
  refine get_bind (g:=.builtin "function.__get__") (a:=.ref (c.fA f)) R.kinD I D.ga ?_ D.gt (wpAny_call (fn_get (s:={ s with toks:=s.toks+1 }) (K:=c.K) R.kinD h2
   (wpAny_of_eq (handedOut_of rfl) (N.grow R (s':={ s with toks:=s.toks+1,heap:=s.heap.push (methodObj (.ref (c.fA f)) (.ref a)) }) (fun b o e=>xA _ e) rfl (.meth P (.obj hr))))))
  obtain⟨cd,hcd,hdd⟩:=any_some D.dict
  have ht:takesIn c.K (.ref (c.fA f))=some false:=by
   unfold takesIn
   rw[KH h2 ZDr,KH h2 ZDt];rfl
  delta findObj PySem.W.ownOf
  dsimp only
  rw[hcd,bE h1]
  show ((specialIn c.K (.ref (c.fA f)) "__get__").bind _)=_
  rw[KH h2 ZDs]
  show ((takesIn c.K (.ref (c.fA f))).bind _)=_
  rw[ht]
  show ((if cd.hasDict=true then lookIn (c.nm n) (dictOf es k) else some none).bind _)=_
  rw[if_pos hdd,hf.lookIn_none O hv]
  show (if (copiedNames.contains (c.nm n)&&_)=true then none else _)=_
  rw[YQ h4,Bool.false_and];rfl

noncomputable def Hs(i:Int):Option (Option Value)->Bool
 |some v=>(match v with |some v=>(match v with |.int j _=>i==j |_=>false) |none=>false)
 |none=>false
theorem ZDi{i:Int}{o:Option (Option Value)}(h:Hs i o=true):∃ t,o=some (some (.int i t)):=by
 cases o with
 |none=>exact ff h
 |some v=>cases v with
  |none=>exact ff h
  |some v=>cases v<;>first |exact ff h |(cases bE h;exact⟨_,rfl⟩)
def OQ(c:Cx)(C n:Nat)(i:Int):Bool:=Hs i (findIn c.K (.ref (c.cA C)) (c.nm n))&&!copiedNames.contains (c.nm n)
theorem ZB1:fastLookup "int" "__get__"=some none:=by kernel_rfl
theorem ZAK(O:c.Ok){id:Id}{C n:Nat}{i:Int}{fs:List (Nat×Mine.V)}{a:Addr}{b:Bool}(hn:OQ c C n i=true)(R:Rel c env g U s)(ho:JA U.hp id=some (.inst C fs))(hr:g.rho id=some a)
  (hv:JA fs n=none) (N:Nxt c env g s (.int i) U Q):wpAny c.M A (getAttr (.ref a) (c.nm n) b) Q E s:=by
 cases Wv O R ho hr with
 |mk o es k D he hf I =>
  refine bA hn fun h1 h4=>?_
  obtain⟨t,hj⟩:=ZDi h1
  refine get_value R.kinD I D.ga (v:=.int i t) ?_ rfl (N.toks R (.int i t))
  obtain⟨cd,hcd,hdd⟩:=any_some D.dict
  have g1:specialIn c.K (.int i t) "__get__"=some none:=ZB1
  delta findObj PySem.W.ownOf
  dsimp only
  rw[hcd,hj]
  show ((if cd.hasDict=true then lookIn (c.nm n) (dictOf es k) else some none).bind _)=_
  rw[if_pos hdd,hf.lookIn_none O hv]
  show (if (copiedNames.contains (c.nm n)&&_)=true then none else _)=_
  rw[YQ h4,Bool.false_and];rfl

def ZJv(e:Expr):Bool:=ctq fun h=>Expr.Name.elim (motive_1:=fun J=>Bool) e h fun J J=>true
def Jz(e:Expr):Bool:=ctt fun h=>Expr.Call.elim (motive_1:=fun J=>Bool) e h fun f as ks J=>!(ZJv f&&(as.isEmpty&&ks.isEmpty))
theorem BW{o:Expr}(h:Jz o=true)(attr:Str)(env:Env)(m:Sem Value):attributeBase o attr env m=m:=by
 cases o with
 |Call f as ks p =>
  cases f with
  |Name y q =>
   cases as with
   |nil=>cases ks with
    |nil=>exact ff h
    |cons _ _=>rfl
   |cons _ _=>rfl
  |_=>rfl
 |_=>rfl
theorem Ye{value:Expr}{attr:Str}{pos:Pos}(hc:Jz value=true)
  (h:wpAny c.M A (eval value env) (fun o s1a=>wpAny c.M A (getAttr o attr true) Q E s1a) E s):wpAny c.M A (eval (.Attribute value attr pos) env) Q E s:=by
 rw[arm_eval_Attribute,BW hc]
 exact qB (xT h (fun o s1a h1a=>qB (qX (qB (qD (xT h1a (fun r s2a h2a=>qB (wpAny_letTemporaryGo (qC h2a))) fun J J y=>y))))) fun J J y=>y)

variable{e:Expr}{es:List Expr}{C:Ora}{me:ME}{mes:List ME}{n D f:Nat}
theorem ZEP(O:c.Ok){pos}(hc:Jz e=true)(hn:QD c D n=true)(H:JD c r env e (ev C me)):JD c r env (.Attribute e (c.nm n) pos) (ev C (.attr me n D)):=fun J J J J J J J J hr hf R N=>bnE hf fun v U1a h1 h2 =>
 Ye hc (H hr h1 R fun x s1a g1a R1a X1a E1a=>WL (P:=fun v=>Vx c env g1a s1a v x->_) h2 (fun id fs ho h2 X1a=>boE h2 fun w hw e=>X1a.objE fun a ha=>KG O hn R1a ho ha hw ((N.of e).trans E1a)) X1a)
theorem ZIa(O:c.Ok){pos}(hc:Jz e=true)(hn:U0 c D n f=true)(H:JD c r env e (ev C me)):JD c r env (.Attribute e (c.nm n) pos) (ev C (.bm me n D f)):=fun J J J J J J J J hr hf R N=>bnE hf fun v U1a h1 h2 =>
 Ye hc (H hr h1 R fun x s1a g1a R1a X1a E1a=>WL (P:=fun v=>Vx c env g1a s1a v x->_) h2 (fun id fs ho h2 X1a=>noE h2 fun hw e=>X1a.objE fun a ha=>T7 O hn R1a ho ha hw ((N.of e).trans E1a)) X1a)
theorem ZGk(O:c.Ok){i:Int}{pos}(hc:Jz e=true)(hn:OQ c D n i=true)(H:JD c r env e (ev C me)):JD c r env (.Attribute e (c.nm n) pos) (ev C (.cat me n D i)):=fun J J J J J J J J hr hf R N=>bnE hf fun v U1a h1 h2 =>
 Ye hc (H hr h1 R fun x s1a g1a R1a X1a E1a=>WL (P:=fun v=>Vx c env g1a s1a v x->_) h2 (fun id fs ho h2 X1a=>noE h2 fun hw e=>X1a.objE fun a ha=>ZAK O hn R1a ho ha hw ((N.of e).trans E1a)) X1a)

def KB(c:Cx)(env:Env)(g:Gh)(s:Shared)(v:List Mine.V)(U':St)(Q:List Value->Shared->Prop):Prop:=
 ∀ x s' g',Rel c env g' U' s'->Vxs c env g' s' v x->Ext env g g' s s'->Q x s'
theorem KB.of{v w:List Mine.V}{Q:List Value->Shared->Prop}(e:some (w,U1a)=some (v,U'))(N:KB c env g s v U' Q):KB c env g s w U1a Q:=by cases e;exact N
def J6(c:Cx)(r:Nat)(env:Env)(es:List Expr)(f:St->Option (List Mine.V×St)):Prop:=
 ∀ ⦃A:Around⦄ ⦃U:St⦄ ⦃v:List Mine.V⦄ ⦃U':St⦄ ⦃g:Gh⦄ ⦃s:Shared⦄ ⦃E:Value->Shared->Prop⦄ ⦃Q:List Value->Shared->Prop⦄,
  JP A r->f U=some (v,U')->Rel c env g U s->KB c env g s v U' Q->wpAny c.M A (spliced (es.map fun e=>(false,eval e env))) Q E s
def XD(Q E:Value->Shared->Prop)(r:Result)(s':Shared):Prop:=match r with
 |.ok (.ret x)=>Q x s'
 |.ok _=>False
 |.error e=>E e s'
def JO(c:Cx)(r:Nat)(C:Ora):Prop:=
 ∀ ⦃A:Around⦄ ⦃U:St⦄ ⦃f:Nat⦄ ⦃vs:List Mine.V⦄ ⦃v:Mine.V⦄ ⦃U':St⦄ ⦃env:Env⦄ ⦃g:Gh⦄ ⦃s:Shared⦄ ⦃xs:List Value⦄ ⦃E:Value->Shared->Prop⦄ ⦃Q:Value->Shared->Prop⦄,
  JP A r->EnvOk env->C f vs U=some (v,U')->Rel c env g U s->Vxs c env g s vs xs->Nxt c env g s v U' Q->codeAny c.M A (.call (.ref (c.fA f)) ⟨xs,[]⟩) (XD Q E) s
theorem NH{x:Value}{vs:List Value}(h:codeAny c.M A (.call x ⟨vs,[]⟩) (XD Q E) s):wpAny c.M A (call x vs []) Q E s:=wpAny_call h

theorem ZED:J6 c r env [] (evs C []):=fun J J J J J s J J J hf R N=>spliced_nil (N.of hf _ _ _ R .nil .refl)
theorem ZCI(H:JD c r env e (ev C me))(H2:J6 c r env es (evs C mes)):J6 c r env (e::es) (evs C (me::mes)):=fun J J J J J J J J hr hf R N=>bnE hf fun v U1a h1 h2=>bnE h2 fun vs U2a h3 h4 =>
 spliced_cons (H hr h1 R fun x s1a g1a R1a X1a E1a=>H2 hr h3 R1a fun xs s2a g2a R2a X2a E2a=>N.of h4 _ _ _ R2a (.cons (X1a.ext E2a) X2a) (E1a.trans E2a))

def Je(e:Expr):Bool:=ctt fun h=>Expr.Starred.elim (motive_1:=fun J=>Bool) e h fun J J=>false
theorem ZAY{e:Expr}(h:Je e=true){es:List Expr}:starEach (e::es) env=(false,eval e env)::starEach es env:=by
 cases e<;>first |rfl |exact ff h
theorem Tk:∀ {es:List Expr},es.all Je=true->starEach es env=es.map fun e=>(false,eval e env):=by
 intro l0
 induction l0 with
 |nil =>
  intro _
  exact rfl
 |cons e es ih =>
  intro h
  exact bA h fun h1 h2=>(ZAY h1).trans (congrArg _ (ih h2))
theorem UT{pos:Pos}{es:List Expr}{env:Env}(hs:es.all Je=true):backTo pos (starEach es env)=es.map fun e=>(false,eval e env):=by
 rw[Tk hs]
 exact List.map_map.trans rfl
theorem UU{f:Value}{es:List Expr}{Q:Args->Shared->Prop}(h:wpAny c.M A (spliced (es.map fun e=>(false,eval e env))) (fun vs s'=>Q ⟨vs,[]⟩ s') E s):
  wpAny c.M A (evalArgs f true (es.map fun e=>(false,eval e env)) []) Q E s:=by
 cases es with
 |nil=>exact qB (xT h (fun vs s' h'=>qD (qB (qC (qB (qC (qC h')))))) fun J J x=>x)
 |cons e es=>exact evalArgs_plain h

theorem KQ{l:List Expr}{env:Env}:((l.map fun e=>(false,eval e env)).any (·.1)||([]:List (Option Str×Sem Value)).any (·.1.isNone))=false:=by
 rw[List.any_nil,Bool.or_false,List.any_map,List.any_eq_false]
 exact fun x J h=>ff h

theorem BL{pos:Pos}{f:Addr}{first:List Value}{es:List Expr}(hk:fnIn c.K f=true)
  (h:wpAny c.M A (spliced (es.map fun e=>(false,eval e env))) (fun vs s1a=>c.K.In s1a.heap/\wpAny c.M A (call (.ref f) (first++vs) []) Q E s1a) E s):
  wpAny c.M A (callWith pos (.ref f) first (es.map fun e=>(false,eval e env)) []) Q E s:=by
 refine callWith_of (P:=c.K.In) KQ (fun h X=>?_) (UU h)
 have hk:(match c.K.lookup f with |some ⟨_,_,.func _,_⟩=>true |_=>false)=true:=hk
 cases e:c.K.lookup f with
 |none=>rw[e] at hk;exact ff hk
 |some o =>
  obtain⟨oc,od,d,os⟩:=o
  rw[e] at hk
  cases d<;>first |exact ff hk |exact⟨.frame,.inl rfl,(Looks.ld (part:=none) (X _ _ e)).andThen .now⟩

theorem Um{o:Expr}{name:Str}{apos pos:Pos}{args:List Expr}(hc:Jz o=true)(hs:args.all Je=true)(hl:(apos.endLine==pos.line)=true)(hn:args.length<25)
  (h:wpAny c.M A (eval o env) (fun ov s1a=>∀ pl,wpAny c.M A (getMethod ov name pl) (fun fx s2a=>wpAny c.M A (callWith pos fx.1 fx.2 (args.map fun e=>(false,eval e env)) []) Q E s2a) E s1a) E s):
  wpAny c.M A (eval (.Call (.Attribute o name apos) args [] pos) env) Q E s:=by
 rw[arm_eval_Call,BW hc,UT hs]
 refine qB (xT h (fun ov s1a h1a=>qB (qX ?_)) fun J J e=>e)
 have hform:methodCallForm (args.length+([]:List Keyword).length) (args.map fun e=>(false,eval e env)) (backToKw pos (keywordEach [] env))=true:=by
  show (((args.map fun e=>(false,eval e env)).all (!·.1)&&true)&&decide (args.length+0<30))=true
  rw[List.all_map,decide_eq_true (xH hn (by decide:25<=30):args.length+0<30),Bool.and_true,Bool.and_true]
  exact List.all_eq_true.mpr fun J J=>rfl
 have hpos:methodCallPos true o env apos pos=pure pos:=by unfold methodCallPos;rw[hl];rfl
 unfold methodCall
 rw[hform]
 refine qB (qD (xT (h1a _) (fun fx s2a h2a=>?_) fun J J e=>e))
 rw[hpos]
 exact qB (qC h2a)

theorem Bc(O:c.Ok)(VV:EnvOk env){pos:Pos}{fs:List (Nat×Mine.V)}{a:Addr}{pl:Sem Bool}{vs:List Mine.V}{w:Mine.V}(hn:U0 c D n f=true)(HC:JO c r C)(H2:J6 c r env es (evs C mes))(hr:JP A r)
  (h3:evs C mes U=some (vs,U1a)) (h4:C f (w::vs) U1a=some (v,U')) (hw:JA fs n=none) (R:Rel c env g U s) (Y:InR c env g s.heap D fs a) (X:Vx c env g s w (.ref a)) (N:Nxt c env g s v U' Q):
  wpAny c.M A (getMethod (.ref a) (c.nm n) pl) (fun fx s2a=>wpAny c.M A (callWith pos fx.1 fx.2 (es.map fun e=>(false,eval e env)) []) Q E s2a) E s:=by
 cases Y with
 |mk o es k D he hfs I =>
  exact bA hn fun q1 h=>bA h fun q2 h=>bA h fun q3 J=>method_fn R.kinD I D.ga D.gt (bE q1) (bE q2) (by show (PySem.W.lookIn _ _).map _=_;rw[hfs.lookIn_none O hw];rfl)
   (BL q3 (H2 hr h3 R fun xs s2a g2a R2a X2a E2a=>⟨R2a.kinD,NH (HC hr VV h4 R2a (.cons (X.ext E2a) X2a) (N.trans E2a))⟩))
theorem ZCK(O:c.Ok)(VV:EnvOk env){apos pos}(hc:Jz e=true)(hs:es.all Je=true)(hl:(apos.endLine==pos.line)=true)(hlen:es.length<25)
  (hn:U0 c D n f=true) (HC:JO c r C) (H:JD c r env e (ev C me)) (H2:J6 c r env es (evs C mes)):
  JD c r env (.Call (.Attribute e (c.nm n) apos) es [] pos) (ev C (.mcall me n D f mes)):=fun J J J J J J J J hr hf R N=>bnE hf fun v U1a h1 h2 =>
 Um hc hs hl hlen (H hr h1 R fun x s1a g1a R1a X1a E1a pl=>WL (P:=fun v=>Vx c env g1a s1a v x->_) h2 (fun id fs ho h2 X1a=>noE h2 fun hw h2=>bnE h2 fun vs U2a h3 h4=>X1a.objE fun a ha =>
  Bc O VV hn HC H2 hr h3 h4 hw R1a (Wv O R1a ho ha) (.obj ha) (N.trans E1a)) X1a)

theorem ZFp{α β:Type}[DecidableEq α]{l:List (α×β)}{n:α}{v:β}(h:JA l n=some v):l≠[]:=fun q=>by subst q;exact nn h
theorem ZGh(O:c.Ok){pos}{w:Mine.V}(hc:Jz e=true)(hn:QD c c.iD n=true)(hv:JA c.I n=some w)(H:JD c r env e (ev C me)):JD c r env (.Attribute e (c.nm n) pos) (ev C (.fat me n w)):=fun J J J J J J J J hr hf R N=>bnE hf fun v U1a h1 h2 =>
 Ye hc (H hr h1 R fun x s1a g1a R1a X1a E1a=>OL (P:=fun v=>Vx c env g1a s1a v x->_) h2 (fun J e X1a=>X1a.fnE (BJ O hn R1a (Nc O R1a (ZFp hv)) hv ((N.of e).trans E1a))) X1a)
theorem ZGg(O:c.Ok)(VV:EnvOk env){apos pos}(hc:Jz e=true)(hs:es.all Je=true)(hl:(apos.endLine==pos.line)=true)(hlen:es.length<25)
  (hn:U0 c c.iD n f=true) (hI:c.I≠[]) (hv:JA c.I n=none) (HC:JO c r C) (H:JD c r env e (ev C me)) (H2:J6 c r env es (evs C mes)):
  JD c r env (.Call (.Attribute e (c.nm n) apos) es [] pos) (ev C (.fmc me n f mes)):=fun J J J J J J J J hr hf R N=>bnE hf fun v U1a h1 h2 =>
 Um hc hs hl hlen (H hr h1 R fun x s1a g1a R1a X1a E1a pl=>OL (P:=fun v=>Vx c env g1a s1a v x->_) h2 (fun q h2 X1a=>bnE h2 fun vs U2a h3 h4=>X1a.fnE
  (Bc O VV hn HC H2 hr h3 h4 hv R1a (Nc O R1a hI) (.fn q) (N.trans E1a))) X1a)

theorem Tx{pos:Pos}{q f:Addr}{self:Value}{es:List Expr}(hf:fnIn c.K f=true)
  (h:wpAny c.M A (spliced (es.map fun e=>(false,eval e env))) (fun vs s1a=>(s1a.heap.get? q=some (methodObj (.ref f) self)/\c.K.In s1a.heap)/\codeAny c.M A (.call (.ref f) ⟨self::vs,[]⟩) (XD Q E) s1a) E s):
  wpAny c.M A (callWith pos (.ref q) [] (es.map fun e=>(false,eval e env)) []) Q E s:=
 callWith_of (P:=MethP c.K q f self) KQ (keeps_M hf) (UU (xT h (fun vs s1a z=>⟨⟨z.1.1,z.1.2⟩,wpAny_call (method_call z.1.1 z.2)⟩) fun J J x=>x))

theorem ZCL(O:c.Ok)(VV:EnvOk env){apos pos}(hc:Jz e=true)(hs:es.all Je=true)(hl:(apos.endLine==pos.line)=true)(hlen:es.length<25)
  (hn:QD c D n=true) (hfn:∀ f,fnIn c.K (c.fA f)=true) (HC:JO c r C) (H:JD c r env e (ev C me)) (H2:J6 c r env es (evs C mes)):
  JD c r env (.Call (.Attribute e (c.nm n) apos) es [] pos) (ev C (.fcall me n D mes)):=fun J J J J J J J J hr hf R N=>bnE hf fun v U1a h1 h2 =>
 Um hc hs hl hlen (H hr h1 R fun x s1a g1a R1a X1a E1a pl=>WL (P:=fun v=>Vx c env g1a s1a v x->_) h2 (fun id fs ho h2 X1a=>boE h2 fun w hw h2=>X1a.objE fun a ha=>by
  cases Wv O R1a ho ha with
  |mk o es k D he hfs I =>
   exact method_usual R1a.kinD I D.ga D.gt (Cls.usual hn) rfl (KG O hn R1a ho ha hw fun y s2a g2a R2a X2a E2a=>ZDG (P:=fun w=>Vx c env g2a s2a w y->_) h2 (fun f self h2 X2a=>bnE h2 fun vs U3a h3 h4=>X2a.methE fun q y' hm hself =>
    Tx (hfn f) (H2 hr h3 R2a fun xs s3a g3a R3a X3a E3a=>⟨⟨(E3a.Fz hm).1,R3a.kinD⟩,HC hr VV h4 R3a (.cons (hself.ext E3a) X3a) (N.trans (E1a.trans (E2a.trans E3a)))⟩)) X2a)) X1a)

noncomputable def Hq(c:Cx)(x:Str)(f:Nat):Bool:=(nsIn c.K mainGlobals x==some (some (.ref (c.fA f))))&&fnIn c.K (c.fA f)
theorem ZEN(VV:EnvOk env){x:Str}{np pos}(hs:es.all Je=true)(hk:env.kindOf x=some .globalImplicit)(hx:(x==("__debug__":Str))=false)
  (hd:Hq c x f=true) (HC:JO c r C) (H2:J6 c r env es (evs C mes)):
  JD c r env (.Call (.Name x np) es [] pos) (ev C (.call f mes)):=fun J J J J J J J J hr hf R N=>bnE hf fun vs U1a h1 h2=>bA hd fun d1 d2=>by
 rw[arm_eval_Call_Name',UT hs]
 exact qB (Name_function_global VV.kind hk (qB ((looks_nsIn R.kinD (VV.glob▸bE d1:nsIn c.K env.globals x=some (some (.ref (c.fA f))))).here (qC
  (BL d2 (H2 hr h1 R fun xs s1a g1a R1a X1a E1a=>⟨R1a.kinD,NH (HC hr VV h2 R1a X1a (N.trans E1a))⟩))))) hx)

def XO(c:Cx)(env:Env)(r:Nat)(op:Value->Value->Sem Value)(f:St->Mine.V->Mine.V->Option Mine.V):Prop:=
 ∀ ⦃A:Around⦄ ⦃U:St⦄ ⦃a b v:Mine.V⦄ ⦃g:Gh⦄ ⦃s:Shared⦄ ⦃x y:Value⦄ ⦃E:Value->Shared->Prop⦄ ⦃Q:Value->Shared->Prop⦄,
  JP A r->f U a b=some v->Rel c env g U s->Vx c env g s a x->Vx c env g s b y->Nxt c env g s v U Q->wpAny c.M A (op x y) Q E s

theorem ZGl{l rr:Expr}{ml mr:ME}{o:Bop}{op:Operator}{pos}(Hop:XO c env r (binaryOp op) (fun U=>Jn U o))(H:JD c r env l (ev C ml))(H2:JD c r env rr (ev C mr)):
  JD c r env (.BinOp l op rr pos) (ev C (.bop o ml mr)):=fun J J J J J J J J hr hf R N=>bnE hf fun a U1a h1 h2=>bnE h2 fun b U2a h3 h4=>boE h4 fun w h5 h6 =>
 wpAny_BinOp (H hr h1 R fun x s1a g1a R1a X1a E1a=>H2 hr h3 R1a fun y s2a g2a R2a X2a E2a=>Hop hr h5 R2a (X1a.ext E2a) X2a ((N.of h6).trans (E1a.trans E2a)))
end
section
variable{c:Cx}{r:Nat}{env:Env}{A:Around}{U U':St}{g:Gh}{s:Shared}{E:Value->Shared->Prop}{Q:Value->Shared->Prop}{v:Mine.V}

theorem Bd:JB=sizeLine:=by rw[sizeLine_eq];rfl
theorem bdE{α:Type}{n:Nat}{o:Option α}{x:α}{P:Prop}(h:bd n o=some x)(k:n<=sizeLine->o=some x->P):P:=gdE h fun h1 h2=>k (Bd▸qE h1) h2
theorem ZAA:(sizeLine:Int)<2 ^ 63:=by rw[sizeLine_eq];decide
theorem U1{n:Nat}(h:n<=sizeLine):(n:Int)<2 ^ 63:=Int.lt_of_le_of_lt (Int.ofNat_le.mpr h) ZAA
theorem Ie{l:List Nat}(h:l.length<=sizeLine):((toS l).length:Int)<2 ^ 63:=by rw[Jp];exact U1 h

theorem Hk(R:Rel c env g U s){id:Id}{l:List Mine.V}{a:Addr}(ho:JA U.hp id=some (.list l))(ha:g.rho id=some a):∃ items n,IsL s.heap a items n/\Vxs c env g s l items.toList:=by
 obtain⟨o,hc,-,items,n,hi,hv⟩:=WR R ho ha
 exact⟨items,n,hi,hv⟩
theorem UX{β:Type}{rr:β}(R:Rel c env g U s){v:Mine.V}{f:List Mine.V->Option β}{x:Value}{P:Value->Prop}(h:onListOf U v f=some rr)(X:Vx c env g s v x)(k:∀ l a items n,f l=some rr->IsL s.heap a items n->Vxs c env g s l items.toList->P (.ref a)):P x:=by
 cases v with
 |list l=>exact X.listE fun a items n hF hv=>k l a items n h hF.1 hv
 |obj id=>exact Xb (P:=fun v=>Vx c env g s v x->P x) (show onList U (.obj id) (fun J l=>f l)=some rr from h) (fun id l ho h X=>X.objE fun a ha=>let ⟨items,n,hi,hv⟩:=Hk R ho ha;k l a items n h hi hv) X
 |_=>exact nn h
theorem Ji{l:List Mine.V}{items:Array Value}{F ρ}(h:VRs c F ρ l items.toList):items.size=l.length:=h.length.symm

def Qh(c:Cx)(env:Env)(g:Gh)(s:Shared)(U':St)(P:Shared->Prop):Prop:=
 ∀ s' g',Rel c env g' U' s'->Ext env g g' s s'->P s'
theorem Qh.toks{P:Shared->Prop}(N:Qh c env g s U P)(R:Rel c env g U s){t:Tok}(ht:0<t:=by exact xF _):P { s with toks:=t }:=N _ g (R.toks ht) .toks
theorem Qh.same{P:Shared->Prop}(N:Qh c env g s U P)(R:Rel c env g U s):P s:=N s g R .refl
theorem Qh.trans{P:Shared->Prop}{s1a:Shared}{g1a:Gh}(N:Qh c env g s U' P)(x:Ext env g g1a s s1a):Qh c env g1a s1a U' P:=
 fun s' g' R e=>N s' g' R (x.trans e)
theorem Qh.of{U1a:St}{b b':Bool}{P:Bool->Shared->Prop}(e:some (b',U1a)=some (b,U'))(N:Qh c env g s U' (P b)):Qh c env g s U1a (P b'):=by cases e;exact N

theorem ZCP{l:List Mine.V}{items:Array Value}{F ρ}(h:VRs c F ρ l items.toList):(!items.isEmpty)=!l.isEmpty:=by
 rw[<- Array.isEmpty_toList]
 generalize items.toList=xs at h
 cases l with
 |nil=>exact h.nilE rfl
 |cons _ _=>exact h.consE fun J J J J=>rfl
theorem Tt:typeLookup (.type "method") "__bool__"=pure none:=by rw[typeLookup_type,builtinLookup_eq_fast];kernel_rfl
theorem Tz:typeLookup (.type "method") "__len__"=pure none:=by rw[typeLookup_type,builtinLookup_eq_fast];kernel_rfl
theorem T9{a:Addr}{Q:Bool->Shared->Prop}(h:s.TypeIs (.ref a) "method")(hq:Q true s):wpAny c.M A (PySem.truthy (.ref a)) Q E s:=by
 unfold PySem.truthy
 exact qB (wpAny_callSpecial?_none h Tt (qB (wpAny_specialOf h Tz (qC hq))))
theorem ZFt(x:List Nat):(((toS x).length:Int) != 0)=!x.isEmpty:=by rw[Jp];cases x<;>rfl
theorem BP{x:Value}{b:Bool}{Q:Bool->Shared->Prop}(h:(onListOf U v fun l=>bd l.length (some (!l.isEmpty)))=some b)(R:Rel c env g U s)(X:Vx c env g s v x)(N:Qh c env g s U (Q b)):wpAny c.M A (PySem.truthy x) Q E s:=
 UX (P:=fun x=>wpAny c.M A (PySem.truthy x) Q E s) R h X fun l a items n h hi hv=>bdE h fun hb e=>by
  cases e
  have hs:=Ji hv
  exact wpAny_truthy_list hi.isList (by rw[hs];exact U1 hb) (by rw[ZCP hv];exact N.toks R)
theorem Yk{b:Bool}{x:Value}{Q:Bool->Shared->Prop}(hf:Mine.Jk U v=some b)(R:Rel c env g U s)(X:Vx c env g s v x)(N:Qh c env g s U (Q b)):wpAny c.M A (PySem.truthy x) Q E s:=by
 cases v with
 |none=>cases hf;exact X.noneE (truthy_none (N.same R))
 |bool b=>cases hf;exact X.boolE (wpAny_truthy_bool (N.same R))
 |int i=>cases hf;exact X.intE fun t=>P.truthy_int (N.same R)
 |str x'=>exact bdE hf fun hb e=>by cases e;exact X.strE fun t=>P.truthy_str (Int.not_le.mpr (Ie hb)) (ZFt x'▸N.toks R)
 |meth f s=>cases hf;exact X.methE fun a y hm J=>T9 ⟨_,hm.1,rfl⟩ (N.same R)
 |list l=>exact BP (U:=U) (v:=.list l) hf R X N
 |obj i=>exact BP (U:=U) (v:=.obj i) hf R X N
 |dict ks vs =>
  exact bdE hf fun hb e=>by
   cases e
   exact X.dictE fun a o kvs f d e hk hs=>by
    have hl:kvs.length=ks.length:=by rw[<- List.length_map (·.1),e,List.length_map]
    have he:kvs.isEmpty=ks.isEmpty:=by cases kvs<;>cases ks<;>first |rfl |exact nomatch hl
    exact wpAny_truthy_dict (knd:=strKind c.prog c.w) hs (Heap.dictOf_iff.mpr ⟨_,f.1,d⟩) (by rw[hl];exact U1 hb) (by rw[he];exact N.toks R)
 |_=>exact nn hf

noncomputable def eqS(k:Str):Value->Bool
 |.str y _=>y==k
 |_=>false
noncomputable def eqI(k:Int):Value->Bool
 |.int y _=>y==k
 |_=>false
theorem NP(z k:List Nat):(toS z==toS k)=(z==k):=by
 by_cases e:z=k
 ·rw[e,beq_self_eq_true,beq_self_eq_true]
 ·rw[beq_false_of_ne e,beq_false_of_ne fun q=>e (Ur q)]
theorem HP{β:Type}{rr:β}{f:List Nat->Option β}{P:Mine.V->Prop}(h:bo (IP v) f=some rr)(k:∀ x,f x=some rr->P (.str x)):P v:=by
 cases v<;>first |exact nn h |exact k _ h
theorem W6{β:Type}{rr:β}{f:Int->Option β}{P:Mine.V->Prop}(h:bo (XJ v) f=some rr)(k:∀ x,f x=some rr->P (.int x)):P v:=by
 cases v<;>first |exact nn h |exact k _ h
set_option tactic.hygienic false in
theorem Zt{β:Type}{rr:β}{f:Nat->Option β}{P:Mine.V->Prop}(h:bo (YW v) f=some rr)(k:∀ x,f x=some rr->P (.str [x])):P v:=by
 cases v<;>first |exact nn h |skip
 match s,h with
 |[],h=>exact nn h
 |[c],h=>exact k _ h
 |_::_::_,h=>exact nn h
def KC(k:List Nat)(xs:List Value)(ys:List (List Nat)):Prop:=xs.any (eqS (toS k))=ys.any (·==k)/\∀ y∈xs,∃ z t,y=.str z t
theorem ZAW{k:List Nat}{F ρ}:∀ {l:List Mine.V} {ys:List (List Nat)} {xs:List Value},Ut l=some ys->VRs c F ρ l xs->KC k xs ys:=by
 intro l0
 induction l0 with
 |nil =>
  intro _ _ h hv
  cases h;exact hv.nilE ⟨rfl,fun J h=>nomatch h⟩
 |cons _ _ ih =>
  intro ys xs h hv
  exact hv.consE (P:=fun xs=>KC k xs ys) fun y xs hw hv=>HP (P:=fun v=>VR c F ρ v y->KC k (y::xs) ys) h (fun z h hw=>boE h fun zs h1 h2=>by
    cases h2
    obtain⟨a,b⟩:=ih h1 hv
    exact hw.strE (P:=fun y=>KC k (y::xs) (z::zs)) fun t=>⟨by rw[List.any_cons,List.any_cons,a];exact congrArg (·||_) (NP z k),fun y hy=>(List.mem_cons.mp hy).elim (fun e=>⟨_,_,e⟩) (b y)⟩) hw
def KD(k:Int)(xs:List Value)(ys:List Int):Prop:=xs.any (eqI k)=ys.any (·==k)/\∀ y∈xs,∃ z t,y=.int z t
theorem ZE2{β:Type}{rr:β}{f:Option (List Nat)->Option β}{P:Mine.V->Prop}(h:bo (HQ v) f=some rr)(k:∀ x,f (some x)=some rr->P (.str x))(k':f none=some rr->P .none):P v:=by
 cases v<;>first |exact nn h |exact k _ h |exact k' h
def Yb(k:List Nat)(xs:List Value)(ys:List (Option (List Nat))):Prop:=xs.any (eqS (toS k))=ys.any (·==some k)/\∀ y∈xs,(∃ z t,y=.str z t)\/y=.none
theorem ZA0{k:List Nat}{F ρ}:∀ {l:List Mine.V} {ys:List (Option (List Nat))} {xs:List Value},Wx l=some ys->VRs c F ρ l xs->Yb k xs ys:=by
 intro l0
 induction l0 with
 |nil =>
  intro _ _ h hv
  cases h;exact hv.nilE ⟨rfl,fun J h=>nomatch h⟩
 |cons _ _ ih =>
  intro ys xs h hv
  exact hv.consE (P:=fun xs=>Yb k xs ys) fun y xs hw hv=>ZE2 (P:=fun v=>VR c F ρ v y->Yb k (y::xs) ys) h (fun z h hw=>boE h fun zs h1 h2=>by
    cases h2
    obtain⟨a,b⟩:=ih h1 hv
    exact hw.strE (P:=fun y=>Yb k (y::xs) (some z::zs)) fun t=>⟨by rw[List.any_cons,List.any_cons,a];exact congrArg (·||_) (NP z k),fun y hy=>(List.mem_cons.mp hy).elim (fun e=>.inl ⟨_,_,e⟩) (b y)⟩) (fun h hw=>boE h fun zs h1 h2=>by
    cases h2
    obtain⟨a,b⟩:=ih h1 hv
    exact hw.noneE (P:=fun y=>Yb k (y::xs) (none::zs)) ⟨by rw[List.any_cons,List.any_cons,a];rfl,fun y hy=>(List.mem_cons.mp hy).elim .inr (b y)⟩) hw
theorem ZAj{k:Int}{F ρ}:∀ {l:List Mine.V} {ys:List Int} {xs:List Value},Uw l=some ys->VRs c F ρ l xs->KD k xs ys:=by
 intro l0
 induction l0 with
 |nil =>
  intro _ _ h hv
  cases h;exact hv.nilE ⟨rfl,fun J h=>nomatch h⟩
 |cons _ _ ih =>
  intro ys xs h hv
  exact hv.consE (P:=fun xs=>KD k xs ys) fun y xs hw hv=>W6 (P:=fun v=>VR c F ρ v y->KD k (y::xs) ys) h (fun z h hw=>boE h fun zs h1 h2=>by
    cases h2
    obtain⟨a,b⟩:=ih h1 hv
    exact hw.intE (P:=fun y=>KD k (y::xs) (z::zs)) fun t=>⟨by rw[List.any_cons,List.any_cons,a];rfl,fun y hy=>(List.mem_cons.mp hy).elim (fun e=>⟨_,_,e⟩) (b y)⟩) hw
theorem Ti(a:Str)(t:Tok):MeetsSeq.EqGives (.str a t) .none false:=fun prog w A E s Q h=>by
 unfold PySem.eqBool
 refine qD ?_
 rw[if_neg (show ¬ (Value.str a t==Value.none)=true from fun q=>nomatch (beq_iff_eq.mp q))]
 exact qB (EqNone.eq_str_none (wpAny_truthy_bool h))

theorem Tj(a:Str)(t:Tok):MeetsSeq.EqGives .none (.str a t) false:=fun prog w A E s Q h=>by
 unfold PySem.eqBool
 refine qD ?_
 rw[if_neg (show ¬ (Value.none==Value.str a t)=true from fun q=>nomatch (beq_iff_eq.mp q))]
 exact qB (EqNone.eq_none_str (wpAny_truthy_bool h))
theorem Tc{t:Addr}{items:Array Value}{x:Value}{P:Fin->Shared->Prop}(e:Value->Bool)(ht:IsTup s.heap t items)(he:∀ y∈items.toList,MeetsSeq.EqGives y x (e y))
  (h:P (.done (.ret (.bool (items.toList.any e)))) s):wpAny c.M A (Builtin.«tuple.__contains__» ⟨[.ref t,x],[]⟩) P E s:=by
 show wpAny _ _ (Builtin.Tuple.tupleItemsOf (.ref t) >>= _) _ _ s
 refine qB (tupleItemsOf_ ht ?_)
 refine qB (forIn_array_ _ (fun rest b s'=>b.1=none/\s'=s/\(∀ y∈rest,MeetsSeq.EqGives y x (e y))/\P (.done (.ret (.bool (rest.any e)))) s) _ ?_ ?_ items _ ⟨rfl,rfl,he,h⟩)
 ·rintro y rest b s' ⟨hb,rfl,hm,hP⟩
  refine qB (hm y (.head _) _ _ _ _ _ _ ?_)
  rw[List.any_cons] at hP
  cases hnx:e y with
  |true =>
   rw[hnx] at hP
   exact qB (qC (qC (qC (by simpa using hP))))
  |false =>
   rw[hnx] at hP
   exact qC ⟨rfl,rfl,fun z hz=>hm z (.tail _ hz),by simpa using hP⟩
 ·rintro ⟨b1,b2⟩ s' ⟨hb,rfl,hm,hP⟩
  simp only at hb
  subst hb
  exact qC (by simpa using hP)
theorem Tf{t:Addr}{items:Array Value}{x:Value}{Q:Bool->Shared->Prop}(e:Value->Bool)(ht:IsTup s.heap t items)(he:∀ y∈items.toList,MeetsSeq.EqGives y x (e y))(hargs:argsOk "tuple.__contains__" ⟨[.ref t,x],[]⟩)
  (h:Q (items.toList.any e) s):wpAny c.M A (PySem.contains (.ref t) x) Q E s:=by
 unfold PySem.contains
 refine qD ?_
 refine qB (wpAny_specialOf ht.typeIs slot_tuple_contains.lookup ?_)
 rw[if_neg (by decide)]
 exact qB (wpAny_callSpecialUnlessNone?_slot (name:=Str.ofString "__contains__") ht.typeIs slot_tuple_contains
  (wpAny_call_entry slot_tuple_contains ht.typeIs entry_tuple_contains (Tc e ht he ⟨_,rfl,wpAny_truthy_bool h⟩) hargs))

theorem BU{x:Mine.V}{l:List Mine.V}{b:Bool}{y:Value}{xs:List Value}(h:We x l=some b)(hv:Vxs c env g s l xs)(hx:Vx c env g s x y):
  ∃ e:Value->Bool,(∀ z∈xs,MeetsSeq.EqGives z y (e z))/\xs.any e=b:=by
 cases x with
 |str k =>
  exact boE h fun ys h1 h2=>by
   cases h2
   obtain⟨a,b⟩:=ZA0 (k:=k) h1 hv
   exact hx.strE (P:=fun y=>∃ e:Value->Bool,(∀ z∈xs,MeetsSeq.EqGives z y (e z))/\xs.any e=_) fun t=>⟨eqS (toS k),fun z hz=>(by
    rcases b z hz with ⟨z',t,rfl⟩ |rfl
    ·exact eqGives_str _ _ _ _
    ·exact Tj _ _),a⟩
 |none =>
  exact boE h fun ys h1 h2=>by
   cases h2
   obtain⟨a,b⟩:=ZAW (k:=[]) h1 hv
   exact hx.noneE (P:=fun y=>∃ e:Value->Bool,(∀ z∈xs,MeetsSeq.EqGives z y (e z))/\xs.any e=_) ⟨fun J=>false,fun z hz=>(by obtain⟨z',t,rfl⟩:=b z hz;exact Ti _ _),List.any_eq_false.mpr fun J J=>Bool.false_ne_true⟩
 |int k =>
  exact boE h fun ys h1 h2=>by
   cases h2
   obtain⟨a,b⟩:=ZAj (k:=k) h1 hv
   exact hx.intE (P:=fun y=>∃ e:Value->Bool,(∀ z∈xs,MeetsSeq.EqGives z y (e z))/\xs.any e=_) fun t=>⟨eqI k,fun z hz=>(by obtain⟨z',t,rfl⟩:=b z hz;exact MeetsSeq.EqGives.int _ _ _ _),a⟩
 |_=>exact nn h

def IsB(x y:Value)(q:Bool):Prop:=plainIs x y=true/\(x==y)=q
theorem ZBx{a:Mine.V}{x:Value}{q:Bool}{F ρ}(h:Wu a=some q)(hx:VR c F ρ a x):IsB x .none q:=
 VR.rec (motive_1:=fun a x J=>Wu a=some q->IsB x .none q) (motive_2:=fun J J J=>True) (fun h=>Option.some.inj h▸⟨rfl,rfl⟩) (fun J h=>Option.some.inj h▸⟨rfl,rfl⟩) (fun J J h=>Option.some.inj h▸⟨rfl,rfl⟩) (fun J J h=>Option.some.inj h▸⟨rfl,rfl⟩) (fun J J J J J h=>Option.some.inj h▸⟨rfl,rfl⟩) (fun J J J h=>Option.some.inj h▸⟨rfl,rfl⟩)
  (fun J J J J J J h=>nn h) (fun J h=>Option.some.inj h▸⟨rfl,rfl⟩) (fun J h=>nn h) (fun J h=>nn h) (fun J J J h=>nn h) trivial (fun J J J J=>trivial) hx h
theorem ZBy{a:Mine.V}{x:Value}{q:Bool}{F ρ}(h:Wu a=some q)(hx:VR c F ρ a x):IsB .none x q:=
 VR.rec (motive_1:=fun a x J=>Wu a=some q->IsB .none x q) (motive_2:=fun J J J=>True) (fun h=>Option.some.inj h▸⟨rfl,rfl⟩) (fun J h=>Option.some.inj h▸⟨rfl,rfl⟩) (fun J J h=>Option.some.inj h▸⟨rfl,rfl⟩) (fun J J h=>Option.some.inj h▸⟨rfl,rfl⟩) (fun J J J J J h=>Option.some.inj h▸⟨rfl,rfl⟩) (fun J J J h=>Option.some.inj h▸⟨rfl,rfl⟩)
  (fun J J J J J J h=>nn h) (fun J h=>Option.some.inj h▸⟨rfl,rfl⟩) (fun J h=>nn h) (fun J h=>nn h) (fun J J J h=>nn h) trivial (fun J J J J=>trivial) hx h
theorem Zo{a b:Mine.V}{x y:Value}{q:Bool}{F ρ}(h:isV a b=some q)(hx:VR c F ρ a x)(hy:VR c F ρ b y):IsB x y q:=by
 have key:Ov a b=some q->IsB x y q:=fun h=>by
  unfold Ov at h
  cases hb:b.isNone with
  |true=>rw[hb] at h;cases b<;>first |exact ff hb |exact hy.noneE (P:=fun y=>IsB x y q) (ZBx h hx)
  |false=>rw[hb] at h;exact gdE h fun h1 h2=>by cases a<;>first |exact ff h1 |exact hx.noneE (P:=fun x=>IsB x y q) (ZBy h2 hy)
 cases a with
 |bool p =>
  exact hx.boolE (P:=fun x=>IsB x y q) (by
   cases b with
   |none=>cases h;exact hy.noneE ⟨rfl,rfl⟩
   |bool p'=>cases h;exact hy.boolE (P:=fun y=>IsB _ y _) ⟨rfl,by cases p<;>cases p'<;>rfl⟩
   |_=>exact nn h)
 |_=>exact key h

def EqM(c:Cx)(A:Around)(s:Shared)(x y:Value):Prop:=∀ (E:Value->Shared->Prop) (Q:Bool->Shared->Prop),Q true s->wpAny c.M A (PySem.eqBool x y) Q E s
def RcM(c:Cx)(A:Around)(s:Shared)(x y:Value):Prop:=∀ (E:Value->Shared->Prop) (Q:Value->Shared->Prop),Q (.bool true) s->wpAny c.M A (richCompare .Eq x y) Q E s
theorem EqM.of{A:Around}{x y:Value}{b:Bool}(h:SeqAt.EqAt A s x y b)(hb:b=true):EqM c A s x y:=fun E Q q=>h _ _ E Q (hb▸q)
theorem EqM.refs{A:Around}{a b:Addr}(h:RcM c A s (.ref a) (.ref b)):EqM c A s (.ref a) (.ref b):=by
 by_cases e:a=b
 ·subst e;exact EqM.of (SeqAt.EqAt.same _) rfl
 ·intro E Q q
  unfold PySem.eqBool
  refine qD ?_
  rw[if_neg fun h=>e (Value.ref.inj (bE h))]
  exact qB (h _ _ (wpAny_truthy_bool q))
open AutoSeq1 (wpAny_loadPart') in
open MeetsSeq MeetsSeq2 MeetsSeq3 SeqRoads2 in
theorem ZCM(l b:Addr)(items items2:Array Value)(n n2:Nat)(hsz:items.size=items2.size)(k:Nat):
  ∀ i:Nat,items.size-i=k->∀ (A:Around) (R:Result->Shared->Prop) (s:Shared),IsL s.heap l items n->IsL s.heap b items2 n2 ->
   (∀ j (h1:j<items.size) (h2:j<items2.size),EqM c A.in1 s items[j] items2[j])->R (.ok (.ret (.bool true))) s ->
   wpAny c.M A.in1 (Builtin.«list.__eq__.loop» ⟨[.ref l,.ref b,rawInt i,rawInt 2],[]⟩) (fun fin s'=>match fin with |.done f=>R (.ok f) s' |.again c'=>c'.quiet=true/\codeAny c.M A c' R s') (fun e s'=>R (.error e) s') s:=by
 induction k with
 |zero =>
  intro i hk A R s hl hb he h
  obtain⟨hp,g,d,tk,os⟩:=s
  wp_walk using wpAny_loadPart' hl,wpAny_loadPart' hb
  have hi1:items[((i:Nat):Int).toNat]?=none:=Array.getElem?_eq_none (Nat.le_of_sub_eq_zero hk)
  have hi2:items2[((i:Nat):Int).toNat]?=none:=Array.getElem?_eq_none (qA (qV hsz.symm) (Nat.le_of_sub_eq_zero hk))
  rw[hi1,hi2]
  wp_walk using wpAny_loadPart' hl,wpAny_loadPart' hb
  show R (.ok (.ret (.bool (items.size==items2.size)))) _
  rw[hsz,beq_self_eq_true]
  exact h
 |succ k ih =>
  intro i hk A R s hl hb he h
  obtain⟨hp,g,d,tk,os⟩:=s
  wp_walk using wpAny_loadPart' hl,wpAny_loadPart' hb
  have hlt:i<items.size:=Nat.lt_of_sub_eq_succ hk
  have hlt2:i<items2.size:=Nat.lt_of_lt_of_eq hlt hsz
  have hi1:items[((i:Nat):Int).toNat]?=some items[i]:=Array.getElem?_eq_getElem hlt
  have hi2:items2[((i:Nat):Int).toNat]?=some items2[i]:=Array.getElem?_eq_getElem hlt2
  have hc:((i:Int)+1)=((i+1:Nat):Int):=rfl
  rw[hi1,hi2]
  refine qB (he i hlt hlt2 _ _ ?_)
  wp_walk
  rw[hc]
  exact⟨plainId_quiet plain_eq_loop _,codeAny_builtin entry_eq_loop (by
   rw[Around.under_plainId plain_eq_loop _]
   exact ih (i+1) ((Nat.sub_add_eq items.size i 1).trans (congrArg (·-1) hk)) A R _ hl hb he h)⟩
open AutoSeq1 (wpAny_loadPart') in
open MeetsSeq MeetsSeq2 MeetsSeq3 SeqRoads2 in
theorem ZBv{l b:Addr}{items items2:Array Value}{n n2:Nat}(hsz:items.size=items2.size){A:Around}{R:Result->Shared->Prop}{s:Shared}(hl:IsL s.heap l items n)(hb:IsL s.heap b items2 n2)
  (he:∀ j (h1:j<items.size) (h2:j<items2.size),EqM c A.in1 s items[j] items2[j]) (h:R (.ok (.ret (.bool true))) s):
  wpAny c.M A.in1 (Builtin.«list.__eq__» ⟨[.ref l,.ref b],[]⟩) (fun fin s'=>match fin with |.done f=>R (.ok f) s' |.again c'=>c'.quiet=true/\codeAny c.M A c' R s') (fun e s'=>R (.error e) s') s:=by
 obtain⟨hp,g,d,tk,os⟩:=s
 have f3:=AutoSeq1.sub_list_list
 have hne:¬ (items.size != items2.size)=true:=by simp [hsz]
 wp_walk using wpAny_loadPart' hl,wpAny_loadPart' hb
 exact⟨plainId_quiet plain_eq_loop _,codeAny_builtin entry_eq_loop (by
  rw[Around.under_plainId plain_eq_loop _]
  exact ZCM l b items items2 n n2 hsz _ 0 rfl A R _ hl hb he h)⟩
theorem RcM.lists{l b:Addr}{items items2:Array Value}{n n2:Nat}{A:Around}(hl:IsL s.heap l items n)(hb:IsL s.heap b items2 n2)(hsz:items.size=items2.size)(hu:A.units<cLine)
  (he:∀ j (h1:j<items.size) (h2:j<items2.size),EqM c A.in1 s items[j] items2[j]):RcM c A s (.ref l) (.ref b):=fun E Q h =>
 wpAny_richCompare_same_room (op:=.Eq) ⟨_,hl,rfl⟩ ⟨_,hb,rfl⟩ F.slot_list_eq
  (wpAny_call (codeAny_call_builtin F.slot_list_eq.plain F.entry_list_eq (F.slot_list_eq.check _ _ _ _ _ _ _ _ ⟨_,hl,rfl⟩ (F.args_list_eq_2 _ _)
   (ZBv (R:=wants (fun v s'=>v≠.notImplemented/\Q v s') E) hsz hl hb he (show _/\_ from ⟨(fun x=>nomatch x),h⟩))))) hu
theorem ZAS{kvs:List (Str×Value)}(hn:(kvs.map (·.1)).Nodup){j:Nat}{k:Str}{y:Value}(h:kvs[j]?=some (k,y)):valueAt kvs k=some y:=by
 induction kvs generalizing j with
 |nil=>simp at h
 |cons kv r ih =>
  rw[List.map_cons,List.nodup_cons] at hn
  unfold valueAt
  rw[List.find?_cons]
  cases j with
  |zero=>simp at h;subst h;simp
  |succ j =>
   simp at h
   have hm:k∈r.map (·.1):=List.mem_map.mpr ⟨(k,y),List.mem_of_getElem? h,rfl⟩
   have:¬ kv.1=k:=fun e=>hn.1 (e▸hm)
   rw[decide_eq_false this]
   exact ih hn.2 h
theorem ZAb{nm:String}{a b:Addr}{ka kb:List (Str×Value)}{Q:Bool->Shared->Prop}(ha:(a==sysModules)=false)(hb:(b==sysModules)=false)
  (da:s.heap.DictOf (strKind c.prog c.w) a ka) (db:s.heap.DictOf (strKind c.prog c.w) b kb) (hk:ka.map (·.1)=kb.map (·.1))
  (he:∀ (j:Nat) x y,(ka.map (·.2))[j]?=some x->(kb.map (·.2))[j]?=some y->EqM c A s x y) (h:Q true s):
  wpAny c.M A (Builtin.Dict.samePairs nm a b) Q E s:=by
 obtain⟨oa,es,ep,hoa,_,hda,hka,hpa,_⟩:=da
 obtain⟨ob,es',ep',hob,_,hdb,hkb,hpb,hnd⟩:=db
 have sa:ka.length=es.size:=by rw[<- hpa.length,Array.length_toList]
 have sb:kb.length=es'.size:=by rw[<- hpb.length,Array.length_toList]
 have sab:ka.length=kb.length:=by
  have:=congrArg List.length hk
  rw[List.length_map,List.length_map] at this
  exact this
 have hf:∀ k,findBy (strKind c.prog c.w).is es' k=valueAt kb k:=fun k=>by
  rw[<- hpb.find k]
  obtain⟨l⟩:=es'
  simp [findBy]
 delta Builtin.Dict.samePairs Builtin.Dict.showsAll;dsimp only
 rw[ha,hb]
 simp only[Bool.false_eq_true,if_false]
 refine qB (qC (qB (qC (qB (wpAny_dictEntries hoa hda ?_)))))
 refine qB (wpAny_dictEntries hob hdb ?_)
 rw[if_neg (by rw[<- sa,<- sb,sab];simp)]
 refine qB (wpAny_dictEpoch hoa hda (qB ?_))
 rw[Std.Legacy.Range.forIn_eq_forIn_range']
 simp only[Std.Legacy.Range.size,Nat.sub_zero,Nat.add_sub_cancel,Nat.div_one]
 refine wpAny_forIn_list _ (fun rest q s'=>s'=s/\q=(none,())/\∃ i,rest=List.range' i (es.size-i)) _ ?_ ?_ _ _ ⟨rfl,rfl,0,by simp⟩
 ·rintro x rest q s' ⟨rfl,rfl,i,hr⟩
  have hlt:i<es.size:=by
   by_cases z:i<es.size
   ·exact z
   ·rw[Nat.sub_eq_zero_of_le (Nat.le_of_not_lt z)] at hr;cases hr
  have z:es.size-i=(es.size-(i+1))+1:=((congrArg (·+1) (Nat.sub_add_eq es.size i 1)).trans (Nat.sub_add_cancel (Nat.sub_pos_of_lt hlt))).symm
  rw[z,List.range'_succ] at hr
  injection hr with e1 e2
  subst e1
  refine qB (wpAny_dictEntries hoa hda ?_)
  rw[Array.getElem?_eq_getElem hlt]
  have l1:x<ka.length:=sa▸hlt
  have l2:x<kb.length:=sab▸l1
  have hkey:ka[x].1=kb[x].1:=by
   have:=congrArg (fun l=>l[x]?) hk
   rw[List.getElem?_map,List.getElem?_map,List.getElem?_eq_getElem l1,List.getElem?_eq_getElem l2] at this
   exact Option.some.inj this
  obtain⟨hq,hv⟩:=hpa.get? (i:=x) (e:=es[x]) (k:=ka[x].1) (v:=ka[x].2) (by rw[Array.getElem?_toList];exact Array.getElem?_eq_getElem hlt) (by rw[List.getElem?_eq_getElem l1])
  obtain⟨k',hk',hh⟩:=hka es[x] (Array.getElem_mem hlt)
  rw[(strKind c.prog c.w).inj _ _ _ hk' hq] at hh
  show wpAny _ _ (holding [es[x].key,es[x].val] _ >>= _) _ _ _
  rw[hh]
  refine qB (qD (qB (wpAny_dictFind_of hq hob hdb hkb ?_)))
  have hval:valueAt kb ka[x].1=some kb[x].2:=ZAS hnd (j:=x) (by rw[hkey,List.getElem?_eq_getElem l2])
  rw[<- hf,findBy_of_findIdx?] at hval
  cases hj:es'.findIdx? fun e=>(strKind c.prog c.w).is ka[x].1 e.key with
  |none=>rw[hj] at hval;cases hval
  |some j =>
   rw[hj] at hval
   obtain⟨jl,_,_⟩:=Array.findIdx?_eq_some_iff_getElem.mp hj
   refine qB (wpAny_dictEntries hob hdb ?_)
   rw[Array.getElem?_eq_getElem jl]
   have ey:es'[j].val=kb[x].2:=by simpa [Array.getElem?_eq_getElem jl] using hval
   have hE:=he x ka[x].2 kb[x].2 (by rw[List.getElem?_map,List.getElem?_eq_getElem l1];rfl) (by rw[List.getElem?_map,List.getElem?_eq_getElem l2];rfl)
   rw[<- ey,<- hv] at hE
   refine qD (hE _ _ ?_)
   show wpAny _ _ (if (!true)=true then _ else _) _ _ _
   rw[if_neg (by decide)]
   refine qB (wpAny_dictEpoch hoa hda ?_)
   rw[if_neg (by simp)]
   exact qC ⟨rfl,rfl,x+1,e2⟩
 ·rintro q s' ⟨rfl,rfl,_⟩
  exact qC h
theorem RcM.dicts{a b:Addr}{ka kb:List (Str×Value)}(ha:(a==sysModules)=false)(hb:(b==sysModules)=false)
  (da:s.heap.DictOf (strKind c.prog c.w) a ka) (db:s.heap.DictOf (strKind c.prog c.w) b kb) (hu:A.units<cLine) (hk:ka.map (·.1)=kb.map (·.1))
  (he:∀ (j:Nat) x y,(ka.map (·.2))[j]?=some x->(kb.map (·.2))[j]?=some y->EqM c A.in1 s x y):RcM c A s (.ref a) (.ref b):=fun E Q h=>by
 refine wpAny_richCompare_same_room (op:=.Eq) da.typeIs db.typeIs PySem.F.slot_dict_eq (wpAny_call_entry PySem.F.slot_dict_eq da.typeIs PySem.F.entry_dict_eq ?_ (PySem.F.args_dict_eq_2 _ _)) hu
 show wpAny _ _ (Builtin.Dict.dictSlotArgs "__eq__" ⟨[.ref a,.ref b],[]⟩ >>= _) _ _ s
 refine qB ?_
 unfold Builtin.Dict.dictSlotArgs
 refine qB (wpAny_notOrdered_dict da.typeIs ?_)
 show wpAny _ _ (pure (Value.ref a,Value.ref b)) _ _ s
 refine qC (qB (wpAny_isInstance (T:="dict") db.typeIs PySem.F.sub_dict_dict ?_))
 rw[if_neg (by decide)]
 exact qB (qC (qB (qC (qB (ZAb ha hb da db hk he (qC ⟨_,rfl,(fun x=>nomatch x),h⟩))))))
theorem Yj{u d L:Nat}(h:u+2*(d+1)+2<L):u+1+2*d+2<L/\u<L:=⟨qL (qO (by rw[Nat.add_assoc,Nat.add_comm 1];exact qI (xD _) u) 2) h,qL (qA (qK u _) (qK _ 2)) h⟩
theorem Bt{u a b L:Nat}(h:u+2*max a b+2<L):u+2*a+2<L/\u+2*b+2<L:=⟨qL (qO (qI (xB 2 (Nat.le_max_left a b)) u) 2) h,qL (qO (qI (xB 2 (Nat.le_max_right a b)) u) 2) h⟩
def Sm(c:Cx)(s:Shared)(v:Mine.V):Prop:=∀ ⦃A:Around⦄ ⦃F ρ⦄ ⦃x y:Value⦄,(∀ a o,F a o->s.heap.get? a=some o)->A.units+2*dep v+2<cLine->O5 v=true->VR c F ρ v x->VR c F ρ v y->EqM c A s x y
def Sms(c:Cx)(s:Shared)(l:List Mine.V):Prop:=∀ ⦃A:Around⦄ ⦃F ρ⦄ ⦃xs ys:List Value⦄,(∀ a o,F a o->s.heap.get? a=some o)->A.units+2*deps l+2<cLine->datVs l=true->VRs c F ρ l xs->VRs c F ρ l ys ->
  ∀ (j:Nat) x y,xs[j]?=some x->ys[j]?=some y->EqM c A s x y
theorem ZL{items:Array Value}{j:Nat}(h:j<items.size):items.toList[j]?=some items[j]:=by rw[Array.getElem?_toList];exact Array.getElem?_eq_getElem h
theorem ZC3{l:List Mine.V}(ih:Sms c s l):Sm c s (.list l):=fun A F ρ x y hF hu hd h1 h2=>h1.listE fun a1 i1 n1 f1 r1=>h2.listE (P:=fun y=>EqM c A s _ y) fun a2 i2 n2 f2 r2 =>
 EqM.refs (RcM.lists (hF _ _ f1) (hF _ _ f2) ((Ji r1).trans (Ji r2).symm) (Yj hu).2 fun j h1 h2=>ih hF (A:=A.in1) (Yj hu).1 hd r1 r2 j _ _ (ZL h1) (ZL h2))
theorem ZC5{ks:List (List Nat)}{l:List Mine.V}(ih:Sms c s l):Sm c s (.dict ks l):=fun A F ρ x y hF hu hd h1 h2=>h1.dictE fun a1 o1 k1 f1 d1 e1 r1 s1=>h2.dictE (P:=fun y=>EqM c A s _ y) fun a2 o2 k2 f2 d2 e2 r2 s2 =>
 EqM.refs (RcM.dicts s1 s2 (Heap.dictOf_iff.mpr ⟨_,hF _ _ f1,d1⟩) (Heap.dictOf_iff.mpr ⟨_,hF _ _ f2,d2⟩) (Yj hu).2 (e1.trans e2.symm) (ih hF (A:=A.in1) (Yj hu).1 hd r1 r2))
theorem ZC6{v:Mine.V}{l:List Mine.V}(h:Sm c s v)(ih:Sms c s l):Sms c s (v::l):=fun A F ρ xs ys hF hu hd h1 h2 j x y e1 e2=>bA hd fun d1 d2=>h1.consE (P:=fun xs=>xs[j]?=some x->_) (fun x' xs a1 b1 e1=>h2.consE (P:=fun ys=>ys[j]?=some y->_) (fun y' ys a2 b2 e2=>by
 cases j with
 |zero=>cases e1;cases e2;exact h hF (Bt hu).1 d1 a1 a2
 |succ j=>exact ih hF (Bt hu).2 d2 b1 b2 j x y e1 e2) e2) e1
theorem ZA5(v:Mine.V):Sm c s v:=
 V.rec (motive_1:=Sm c s) (motive_2:=Sms c s) (fun J J J J J J J J h1 h2=>h1.noneE (h2.noneE (EqM.of (.same _) rfl))) (fun J J J J J J J J J h1 h2=>h1.boolE (h2.boolE (EqM.of (.same _) rfl)))
  (fun i J J J J J J J J h1 h2=>h1.intE fun t=>h2.intE fun u=>EqM.of (.int_int i t i u) (beq_self_eq_true i)) (fun x J J J J J J J J h1 h2=>h1.strE fun t=>h2.strE fun u=>EqM.of (.str_str (toS x) t (toS x) u) (beq_self_eq_true _))
  (fun J J J J J J J J J h=>ff h) (fun J=>ZC3) (fun J J=>ZC5) (fun J J J J J J J J h=>ff h) (fun J J J J J J J J h=>ff h) (fun J J J J J J J J J J h=>ff h) (fun J J J J J J J J J h=>ff h)
  (fun J J J J J J J J h1 h2 J J J e=>h1.nilE (P:=fun xs=>xs[_]?=some _->_) (fun e=>nn e) e) (fun J J=>ZC6) v
theorem By{a b:Mine.V}{x y:Value}{q:Bool}{Q:Value->Shared->Prop}(hr:JP A r)(h:OB U a b=some q)(R:Rel c env g U s)(hx:Vx c env g s a x)(hy:Vx c env g s b y)(hq:Q (.bool q) s):wpAny c.M A (compareOp .Eq x y) Q E s:=
 UX (P:=fun x=>wpAny c.M A (compareOp .Eq x y) Q E s) R h hx fun l a1 i1 n1 h hi1 hv1=>UX (P:=fun y=>wpAny c.M A (compareOp .Eq _ y) Q E s) R h hy fun l' a2 i2 n2 h hi2 hv2=>gdE h fun h1 h2=>bA h1 fun e hrow=>by
  cases h2
  cases V.eq_of_beqs e
  refine RcM.lists hi1 hi2 ((Ji hv1).trans (Ji hv2).symm) hr.units (fun j h1 h2=>?_) E Q hq
  have hj:j<l.length:=Ji hv1▸h1
  obtain⟨x1,g1,r1⟩:=hv1.get (List.getElem?_eq_getElem hj)
  obtain⟨x2,g2,r2⟩:=hv2.get (List.getElem?_eq_getElem hj)
  cases (ZL h1).symm.trans g1
  cases (ZL h2).symm.trans g2
  exact bA (List.all_eq_true.mp hrow _ (List.getElem_mem hj)) fun d1 d2=>ZA5 _ (fun a o z=>z.1) (qL (qO (qI (xB 2 (qE d2)) _) 2) (hr.add (k:=1+(2*50+2)) (by decide):A.units+1+2*50+2<cLine)) d1 r1 r2

noncomputable def JZ:Cmp->CmpOp
 |.eq=>.Eq |.ne=>.NotEq |.lt=>.Lt |.le=>.LtE |.gt=>.Gt |.ge=>.GtE |.inn=>.In |.nin=>.NotIn |.is=>.Is |.isn=>.IsNot

def EqN(c:Cx)(A:Around)(s:Shared)(x y:Value)(q:Bool):Prop:=∀ (E:Value->Shared->Prop) (Q:Value->Shared->Prop),(Q (.bool q) s->wpAny c.M A (compareOp .Eq x y) Q E s)/\(Q (.bool (!q)) s->wpAny c.M A (compareOp .NotEq x y) Q E s)
theorem Y3{a b:Mine.V}{x y:Value}{q:Bool}{F ρ}(h:O4 a b=some q)(hx:VR c F ρ a x)(hy:VR c F ρ b y):EqN c A s x y q:=by
 cases a with
 |none=>cases b with
  |none=>cases h;exact hx.noneE (hy.noneE fun J J=>⟨EqNone.eq_none_none,EqNone.ne_none_none⟩)
  |str z=>cases h;exact hx.noneE (hy.strE fun J J J=>⟨EqNone.eq_none_str,EqNone.ne_none_str⟩)
  |_=>exact nn h
 |int i=>exact QP (P:=fun b=>VR c F ρ b y->EqN c A s x y q) h (fun j h hy=>by cases h;exact hx.intE (P:=fun x=>EqN c A s x y _) fun J=>hy.intE (P:=fun y=>EqN c A s _ y _) fun J J J=>⟨P.eq_int,P.ne_int⟩) hy
 |str z=>cases b with
  |none=>cases h;exact hx.strE (P:=fun x=>EqN c A s x y _) fun J=>hy.noneE (P:=fun y=>EqN c A s _ y _) fun J J=>⟨EqNone.eq_str_none,EqNone.ne_str_none⟩
  |str z'=>cases h;exact hx.strE (P:=fun x=>EqN c A s x y _) fun J=>hy.strE (P:=fun y=>EqN c A s _ y _) fun J J J=>⟨fun hq=>P.eq_str hq,fun hq=>P.ne_str hq⟩
  |_=>exact nn h
 |_=>exact nn h
set_option tactic.hygienic false in
theorem GW{b:Mine.V}{y:Value}{q:Int×Int}{F ρ}(h:Oa b=some q)(hy:VR c F ρ b y)(hF:∀ a o,F a o->s.heap.get? a=some o):∃ a t u,y=.ref a/\s.heap.IsTuple a #[.int q.1 t,.int q.2 u]:=by
 cases b<;>first |exact nn h |skip
 cases l with
 |nil=>exact nn h
 |cons v r =>
  cases r with
  |nil=>exact nn h
  |cons w r =>
   cases r with
   |cons _ _=>exact nn h
   |nil =>
    exact W6 (P:=fun v=>VR c F ρ (.tup [v,w]) y->_) h (fun i h=>W6 (P:=fun w=>VR c F ρ (.tup [.int i,w]) y->_) h fun j h hy=>by
     cases h
     exact hy.tupE fun a o items n hf hc hd hv=>by
      have:∃ t u,items.toList=[.int i t,.int j u]:=by
       generalize items.toList=xs at hv
       exact hv.twoE fun J J r1 r2=>r1.intE (P:=fun x=>∃ t u,[x,_]=[Value.int i t,.int j u]) fun t=>r2.intE (P:=fun x=>∃ t' u,[Value.int i t,x]=[Value.int i t',.int j u]) fun u=>⟨t,u,rfl⟩
      obtain⟨t,u,e⟩:=this
      exact⟨a,t,u,rfl,⟨o,hF _ _ hf,hc,n,by rw[hd];exact congrArg (Data.seq · n) (Array.toList_inj.mp e)⟩⟩) hy
theorem ZGo{a b:Mine.V}{x y:Value}{q:Bool}{Q:Value->Shared->Prop}(hr:JP A r)(h:eqV U a b=some q)(R:Rel c env g U s)(hx:Vx c env g s a x)(hy:Vx c env g s b y)(hq:Q (.bool q) s):wpAny c.M A (compareOp .Eq x y) Q E s:=by
 cases a with
 |bool p=>cases b with
  |bool p'=>cases h;exact hx.boolE (hy.boolE (PyProof.Rows.eq_bool hq))
  |_=>exact nn h
 |tup l =>
  exact boE h fun u h1 h=>boE h fun w h2 h=>by
   cases h
   obtain⟨a1,t1,u1,rfl,i1⟩:=GW (s:=s) h1 hx fun J J z=>z.1
   obtain⟨a2,t2,u2,rfl,i2⟩:=GW (s:=s) h2 hy fun J J z=>z.1
   refine SeqAt.eq_tupleAt (e:=fun j=>match j with |0=>u.1==w.1 |_=>u.2==w.2) i1 i2 hr.units (fun j h1 h2=>?_) ?_
   ·cases j with
    |zero=>exact SeqAt.EqAt.int_int _ _ _ _
    |succ j =>
     cases j with
     |zero=>exact SeqAt.EqAt.int_int _ _ _ _
     |succ j=>exact absurd h1 (Nat.not_lt.mpr (Nat.le_add_left 2 j))
   ·have:((List.range (min 2 2)).all (fun j=>match j with |0=>u.1==w.1 |_=>u.2==w.2)&&(2:Nat)==2)=(u.1==w.1&&u.2==w.2):=by
     show ((u.1==w.1&&(u.2==w.2&&true))&&true)=_
     rw[Bool.and_true,Bool.and_true]
    exact this▸hq
 |list l=>exact By hr h R hx hy hq
 |obj i=>exact By hr h R hx hy hq
 |none=>exact(Y3 (a:=.none) (b:=b) h hx hy E Q).1 hq
 |int i=>exact(Y3 (a:=.int i) (b:=b) h hx hy E Q).1 hq
 |str z=>exact(Y3 (a:=.str z) (b:=b) h hx hy E Q).1 hq
 |_=>exact nn h

theorem Y4{f:Int->Int->Bool}{a b:Mine.V}{x y:Value}{q:Bool}{F ρ}{P:Value->Value->Bool->Prop}(h:YV f a b=some q)(hx:VR c F ρ a x)(hy:VR c F ρ b y)(k:∀ i j t u,P (.int i t) (.int j u) (f i j)):P x y q:=
 W6 (P:=fun a=>VR c F ρ a x->P x y q) h (fun i h hx=>W6 (P:=fun b=>VR c F ρ b y->P x y q) h (fun j h hy=>by cases h;exact hx.intE (P:=fun x=>P x y _) fun t=>hy.intE (P:=fun y=>P _ y _) fun u=>k i j t u) hy) hx
theorem Gv{l:List Mine.V}{a:Mine.V}{x y:Value}{q:Bool}{Q:Bool->Shared->Prop}(h:We a l=some q)(hx:Vx c env g s a x)(hy:Vx c env g s (.tup l) y)(hq:Q q s):wpAny c.M A (PySem.contains y x) Q E s:=
 hy.tupE fun a o items n f1 c1 d1 r1=>by
  obtain⟨e,he,e2⟩:=BU h r1 hx
  exact Tf e ⟨_,f1.1,c1,_,d1⟩ he (args_tuple_contains _ _) (e2▸hq)
theorem ZFu(a b:Nat):(!decide ((toS [b]).cps.toList<(toS [a]).cps.toList))=decide (a<=b):=by
 show (!decide ([b]<[a]))=_
 by_cases h:a<=b
 ·rw[decide_eq_true h,decide_eq_false fun q=>(List.cons_lt_cons_iff.mp q).elim (fun h1=>Nat.not_lt.mpr h h1) fun h1=>absurd h1.2 (List.not_lt_nil _)];rfl
 ·rw[decide_eq_false h,decide_eq_true (List.cons_lt_cons_iff.mpr (.inl (Nat.not_le.mp h)))];rfl
theorem ZB6{a b:Mine.V}{x y:Value}{q:Bool}{Q:Value->Shared->Prop}(h:Hv U a b=some q)(R:Rel c env g U s)(hx:Vx c env g s a x)(hy:Vx c env g s b y)(hq:Q (.bool q) s):wpAny c.M A (compareOp .In x y) Q E s:=by
 cases b with
 |tup l =>
  show wpAny _ _ (do return .bool (<- PySem.contains y x)) Q E s
  exact qB (Gv h hx hy (qC hq))
 |str z =>
  exact Qt (P:=fun a=>Vx c env g s a x->_) h (fun w h hx=>by
   cases h
   have e:=ZAO z w
   unfold Txt.contains at e
   exact hx.strE (P:=fun x=>wpAny c.M A (compareOp .In x y) Q E s) fun J=>hy.strE (P:=fun y=>wpAny c.M A (compareOp .In _ y) Q E s) fun J=>PySem.P.in_str (by rw[e];exact hq)) hx
 |obj id =>
  exact Xb (P:=fun b=>Vx c env g s b y->_) (show onList U (.obj id) (fun J l=>We a l)=some q from h) (fun id l ho h hy=>hy.objE fun a ha=>by
   obtain⟨items,n,hi,hv⟩:=Hk R ho ha
   obtain⟨e,he,e2⟩:=BU h hv hx
   exact SeqInW.in_listW e (fun y hy=>he y (Array.mem_toList_iff.mpr hy)) hi.isList (by rw[<- Array.any_toList,e2];exact hq)) hy
 |_=>exact nn h
theorem Nn{o:Cmp}{a b:Mine.V}{x y:Value}{q:Bool}{Q:Value->Shared->Prop}(hr:JP A r)(h:QJ U o a b=some q)(R:Rel c env g U s)(hx:Vx c env g s a x)(hy:Vx c env g s b y)(hq:Q (.bool q) s):wpAny c.M A (compareOp (JZ o) x y) Q E s:=by
 cases o with
 |eq=>exact ZGo hr h R hx hy hq
 |ne=>exact boE h fun q' h1 h2=>by cases h2;exact(Y3 h1 hx hy E Q).2 hq
 |lt=>cases a with
  |str z=>exact Qt (P:=fun b=>Vx c env g s b y->_) h (fun w h hy=>by
    cases h
    exact hx.strE (P:=fun x=>wpAny c.M A (compareOp .Lt x y) Q E s) fun t=>hy.strE (P:=fun y=>wpAny c.M A (compareOp .Lt _ y) Q E s) fun u=>compareOp_gives (op:=.Lt) (typeIs_str s _ t) (typeIs_str s _ u) F.slot_str_lt F.entry_str_lt (F.args_str_lt_2 _ _) (gives_str_lt (toS z) (toS w) t u) (fun e=>nomatch e) hq) hy
  |int i=>exact Y4 (a:=.int i) (P:=fun x y q=>Q (.bool q) s->wpAny c.M A (compareOp .Lt x y) Q E s) h hx hy (fun J J J J=>P.lt_int) hq
  |_=>exact nn h
 |le=>cases a with
  |int i=>exact Y4 (P:=fun x y q=>Q (.bool q) s->wpAny c.M A (compareOp .LtE x y) Q E s) h hx hy (fun J J J J=>P.le_int) hq
  |str z =>
   exact Zt (P:=fun a=>Vx c env g s a x->_) h (fun i h hx=>Zt (P:=fun b=>Vx c env g s b y->_) h (fun j h hy=>by
    cases h
    exact hx.strE (P:=fun x=>wpAny c.M A (compareOp .LtE x y) Q E s) fun J=>hy.strE (P:=fun y=>wpAny c.M A (compareOp .LtE _ y) Q E s) fun J=>P.le_str (by rw[ZFu];exact hq)) hy) hx
  |_=>exact nn h
 |gt=>exact Y4 (P:=fun x y q=>Q (.bool q) s->wpAny c.M A (compareOp .Gt x y) Q E s) h hx hy (fun J J J J=>P.gt_int) hq
 |ge=>exact Y4 (P:=fun x y q=>Q (.bool q) s->wpAny c.M A (compareOp .GtE x y) Q E s) h hx hy (fun J J J J=>P.ge_int) hq
 |inn=>exact ZB6 h R hx hy hq
 |nin=>cases b with
  |tup l =>
   exact boE h fun q' h1 h2=>by
    cases h2
    show wpAny _ _ (do return .bool (!(<- PySem.contains y x))) Q E s
    exact qB (Gv h1 hx hy (qC hq))
  |_=>exact nn h
 |is=>exact wpAny_is_plain (Zo h hx hy).1 ((Zo h hx hy).2▸hq)
 |isn=>exact boE h fun q' h1 h2=>by cases h2;exact wpAny_isNot_plain (Zo h1 hx hy).1 ((Zo h1 hx hy).2▸hq)
theorem ZDn{x:List Nat}:∀ {kvs:List (Str×Value)} {ks:List (List Nat)},kvs.map (·.1)=ks.map toS->(valueAt kvs (toS x)).isSome=ks.any (·==x):=by
 intro kvs
 induction kvs with
 |nil =>
  intro ks h
  cases ks with
  |nil=>rfl
  |cons _ _=>exact nomatch h
 |cons kv kvs ih0 =>
  intro ks h
  cases ks with
  |nil=>exact nomatch h
  |cons k ks =>
   have ih:=ih0 (qS h).2
   unfold valueAt at ih ⊢
   have hk:kv.1=toS k:=(qS h).1
   rw[List.find?_cons,List.any_cons,hk]
   by_cases e:k=x
   ·subst e
    rw[decide_eq_true rfl,beq_self_eq_true];rfl
   ·rw[decide_eq_false fun q=>e (Ur q),beq_false_of_ne e,Bool.false_or];exact ih
theorem GN{o:Cmp}{a b:Mine.V}{x y:Value}{q:Bool}{Q:Value->Shared->Prop}(hr:JP A r)(h:XK U o a b=some q)(R:Rel c env g U s)(hx:Vx c env g s a x)(hy:Vx c env g s b y)(hq:∀ t,0<t->Q (.bool q) { s with toks:=t }):wpAny c.M A (compareOp (JZ o) x y) Q E s:=by
 have old:QJ U o a b=some q->wpAny c.M A (compareOp (JZ o) x y) Q E s:=fun h=>Nn hr h R hx hy (hq s.toks R.pos)
 cases o with
 |inn =>
  cases b with
  |dict ks vs =>
   exact Qt (P:=fun a=>Vx c env g s a x->_) (show onStr a (fun x=>some (ks.any (·==x)))=some q from h) (fun z h hx=>by
    cases h
    exact hy.dictE fun a o kvs f d e hk hs=>hx.strE (P:=fun x=>wpAny c.M A (compareOp .In x (.ref a)) Q E s) fun t=>wpAny_in_of (k:=toS z) (knd:=strKind c.prog c.w) (beq_self_eq_true (toS z)) hs (Heap.DictOf.mapOf (Heap.dictOf_iff.mpr ⟨_,f.1,d⟩)) (by rw[ZDn e];exact hq _ (xF _))) hx
  |_=>exact old h
 |_=>exact old h
end
section
variable{c:Cx}{r:Nat}{env:Env}{A:Around}{U U':St}{g:Gh}{s:Shared}{E:Value->Shared->Prop}{Q:Value->Shared->Prop}{v:Mine.V}

theorem Qb(h:Heap)(o:Obj):∀ b p,h.get? b=some p->(h.push o).get? b=some p:=fun J J e=>xA _ e
theorem Vx.push{o:Obj}{t:Nat}{v:Mine.V}{x:Value}(h:Vx c env g s v x):Vx c env g { s with heap:=s.heap.push o,toks:=t } v x:=
 h.ext (Ext.grow (s':={ s with heap:=s.heap.push o,toks:=t }) (Qb s.heap o) rfl)
theorem Vxs.push{o:Obj}{t:Nat}{v:List Mine.V}{x:List Value}(h:Vxs c env g s v x):Vxs c env g { s with heap:=s.heap.push o,toks:=t } v x:=
 h.ext (Ext.grow (s':={ s with heap:=s.heap.push o,toks:=t }) (Qb s.heap o) rfl)
theorem Nxt.push{o:Obj}{t:Nat}{x:Value}(N:Nxt c env g s v U Q)(R:Rel c env g U s)(h:Vx c env g { s with heap:=s.heap.push o,toks:=t } v x)(ht:0<t):Q x { s with heap:=s.heap.push o,toks:=t }:=
 N.grow R (s':={ s with heap:=s.heap.push o,toks:=t }) (Qb s.heap o) rfl h ht
theorem Nxt.newList{l:List Mine.V}{items:Array Value}{t n:Nat}(N:Nxt c env g s (.list l) U Q)(R:Rel c env g U s)(h:Vxs c env g s l items.toList)(ht:0<t):
  Q (.ref s.heap.objs.size) { s with heap:=s.heap.push { cls:=.type "list",dict:=none,data:=.seq items n,slots:=#[] },toks:=t }:=
 N.push R (.list (WS R rfl) (Vxs.push (t:=t) h)) ht

theorem Bs{a b:Mine.V}{x y:Value}(hf:(onListOf U a fun l=>onListOf U b fun l'=>bd (l.length+l'.length) (some (.list (l++l'))))=some v)(R:Rel c env g U s)(hx:Vx c env g s a x)(hy:Vx c env g s b y)(N:Nxt c env g s v U Q):wpAny c.M A (binaryOp .Add x y) Q E s:=
 UX (P:=fun x=>wpAny c.M A (binaryOp .Add x y) Q E s) R hf hx fun l a1 i1 n1 h hi1 hv1=>UX (P:=fun y=>wpAny c.M A (binaryOp .Add _ y) Q E s) R h hy fun l' a2 i2 n2 h hi2 hv2=>bdE h fun hl e=>by
  cases e
  exact P.add_list hi1 hi2 (N.newList R (by rw[Array.toList_append];exact hv1.append hv2) R.pos) (by rw[Ji hv1,Ji hv2];exact hl)
theorem GY{l:List Mine.V}{xs:Array Value}(h:Vxs c env g s l xs.toList)(n:(!l.isEmpty)=true):¬xs.isEmpty=true:=fun q=>by
 have hl:=Ji h
 rw[Array.isEmpty_iff.mp q] at hl
 cases l with
 |nil=>cases n
 |cons=>cases hl
theorem ZEj{l m:List Mine.V}{x y:Value}(n1:(!l.isEmpty)=true)(n2:(!m.isEmpty)=true)(hl:l.length+m.length<=sizeLine)(R:Rel c env g U s)(hx:Vx c env g s (.tup l) x)(hy:Vx c env g s (.tup m) y)(N:Nxt c env g s (.tup (l++m)) U Q):wpAny c.M A (binaryOp .Add x y) Q E s:=
 hx.tupE (P:=fun x=>wpAny c.M A (binaryOp .Add x y) Q E s) fun a o i1 k1 h1 h2 h3 v1=>hy.tupE (P:=fun y=>wpAny c.M A (binaryOp .Add _ y) Q E s) fun b o' i2 k2 h1' h2' h3' v2=>by
  obtain⟨cl,dd,da,sl⟩:=o
  obtain⟨cl',dd',da',sl'⟩:=o'
  cases h2;cases h3;cases h2';cases h3'
  exact concat_meets ⟨_,h1.1,rfl⟩ ⟨_,h1'.1,rfl⟩ noFill_tuple_add seq_tuple_add PySem.F.slot_tuple_add PySem.F.entry_tuple_add (PySem.F.args_tuple_add_2 _ _) (tuple_addW2 a b i1 i2 k1 k2 dd dd' sl sl' (GY v1 n1) (GY v2 n2) (by rw[Ji v1,Ji v2];exact hl))
   ⟨h1.1,h1'.1,N.push (t:=s.toks) R (.tup (WS R rfl) rfl rfl (Vxs.push (by rw[Array.toList_append];exact v1.append v2))) R.pos⟩
theorem ZHG:XO c env r (binaryOp .Add) (fun U=>Jn U .add):=fun A U a b v g s x y E Q hr hf R hx hy N=>by
 cases a with
 |int i=>exact QP (P:=fun b=>Vx c env g s b y->_) (show onInt b (fun b=>some (V.int (i+b)))=some v from hf) (fun j h hy=>by cases h;exact hx.intE fun t=>hy.intE fun u=>P.add_int (N.toks R (.int _ _))) hy
 |str z =>
  exact Qt (P:=fun b=>Vx c env g s b y->_) (show onStr b (fun b=>bd (z.length+b.length) (some (V.str (z++b))))=some v from hf) (fun w h hy=>bdE h fun hl e=>by
   cases e
   exact hx.strE fun t=>hy.strE fun u=>Qi R.pos (add_str (fun t' tk ht=>Yl z w▸N.toks R (.str _ _) ht) (by rw[Jp,Jp];exact hl))) hy
 |tup l=>exact ZFk (P:=fun b=>Vx c env g s b y->_) (show OK b (fun b=>gd (!l.isEmpty&&!b.isEmpty) (bd (l.length+b.length) (some (V.tup (l++b)))))=some v from hf) (fun m h hy=>gdE h fun h1 h=>bdE h fun hl e=>by
   cases e
   exact bA h1 fun n1 n2=>ZEj n1 n2 hl R hx hy N) hy
 |list l=>exact Bs (a:=.list l) (b:=b) (U:=U) hf R hx hy N
 |obj i=>exact Bs (a:=.obj i) (b:=b) (U:=U) hf R hx hy N
 |_=>exact nn hf
theorem YE{β:Type}{rr:β}{a b:Mine.V}{x y:Value}{f:Int->Int->Option β}{P:Value->Value->Prop}{F ρ}(h:(onInt a fun a=>onInt b fun b=>f a b)=some rr)(hx:VR c F ρ a x)(hy:VR c F ρ b y)(k:∀ i j t u,f i j=some rr->P (.int i t) (.int j u)):P x y:=
 QP (P:=fun a=>VR c F ρ a x->P x y) h (fun i h hx=>QP (P:=fun b=>VR c F ρ b y->P x y) h (fun j h hy=>hx.intE (P:=fun x=>P x y) fun t=>hy.intE (P:=fun y=>P _ y) fun u=>k i j t u h) hy) hx
theorem ZCz:XO c env r (binaryOp .Sub) (fun U=>Jn U .sub):=fun A U a b v g s x y E Q hr hf R hx hy N =>
 YE (P:=fun x y=>wpAny c.M A (binaryOp .Sub x y) Q E s) (a:=a) (b:=b) (f:=fun a b=>some (V.int (a-b))) hf hx hy fun i j t u e=>by cases e;exact P.sub_int (N.toks R (.int _ _))
theorem ZFq:XO c env r (binaryOp .Mod) (fun U=>Jn U .mod):=fun A U a b v g s x y E Q hr hf R hx hy N =>
 YE (P:=fun x y=>wpAny c.M A (binaryOp .Mod x y) Q E s) (a:=a) (b:=b) (f:=fun a b=>gd (decide (0<b)) (some (V.int (a % b)))) hf hx hy fun i j t u e=>gdE e fun h e=>by
  cases e
  have h:=qH h
  exact mod_int' (Ne.symm (Int.ne_of_lt h)) (Int.fmod_eq_emod_of_nonneg i (Int.le_of_lt h)▸N.toks R (.int _ _))
theorem ZHH{b:Int}(h:b<=1000)(h0:0<b):b.natAbs<1073741824:=Int.ofNat_lt.mp ((Int.natAbs_of_nonneg (Int.le_of_lt h0)).symm▸Int.lt_of_le_of_lt h (by decide))
theorem ZDx:XO c env r (binaryOp .FloorDiv) (fun U=>Jn U .fdiv):=fun A U a b v g s x y E Q hr hf R hx hy N =>
 YE (P:=fun x y=>wpAny c.M A (binaryOp .FloorDiv x y) Q E s) (a:=a) (b:=b) (f:=fun a b=>gd (decide (0<b)&&decide (b<=1000)) (some (V.int (a / b)))) hf hx hy fun i j t u e=>gdE e fun h e=>bA h fun h h2=>by
  cases e
  have h:=qH h
  exact floordiv_int (Ne.symm (Int.ne_of_lt h)) (Int.fdiv_eq_ediv_of_nonneg i (Int.le_of_lt h)▸N.toks R (.int _ _)) (.inl (PyProof.noPylong_small (ZHH (qH h2) h)))
theorem ZFo{i:Int}{x:Value}(R:Rel c env g U s)(hx:Vx c env g s (.int i) x)(N:Nxt c env g s (.int (-i)) U Q):wpAny c.M A (unaryOp .USub x) Q E s:=hx.intE fun t=>P.neg_int (N.toks R (.int _ _))

set_option tactic.hygienic false in
theorem WP{value slice:Expr}{o i:Value}{T id:String}(hT:s.TypeIs o T)(hl:typeLookup (.type T) "__getitem__"=pure (some (.builtin id)))
  (hg:wpAny c.M A (getItem o i) Q E s):wpAny c.M A (subscriptTail value slice o i) Q E s:=by
 have h:∃ ops,subscripted slice false o i=operate ops (getItem o i):=by
  cases slice<;>first |exact⟨_,rfl⟩ |skip
  cases step<;>exact⟨_,rfl⟩
 obtain⟨ops,h⟩:=h
 exact tail_any hT hl hg h

theorem Zm{n:Nat}{i:Int}{j:Nat}(h:Q1 n i=some j)(hb:(n:Int)<2 ^ 63):(-(2 ^ 63)<=i/\i<2 ^ 63)/\((0<=i/\i.toNat=j)\/(i<0/\-(n:Int)<=i/\(i+n).toNat=j)):=by
 unfold Q1 seqIndex? at h
 dsimp only at h
 by_cases hi:i<0
 ·rw[if_pos hi] at h
  by_cases q:(decide (0<=i+n)&&decide (i+n<n))=true
  ·rw[if_pos q] at h
   cases h
   exact bA q fun q1 q2=>by
    have q1:=qH q1
    have nl:-(n:Int)<=i:=Int.le_of_sub_nonneg (Int.sub_neg (a:=i) (b:=n)▸q1)
    exact⟨⟨Int.le_trans (Int.neg_le_neg (Int.le_of_lt hb)) nl,Int.lt_trans hi (by decide)⟩,.inr ⟨hi,nl,rfl⟩⟩
  ·rw[if_neg q] at h;exact nn h
 ·rw[if_neg hi] at h
  by_cases q:(decide (0<=i)&&decide (i<n))=true
  ·rw[if_pos q] at h
   cases h
   exact bA q fun q1 q2=>by
    have q2:=qH q2
    exact⟨⟨Int.le_trans (by decide) (Int.not_lt.mp hi),Int.lt_trans q2 hb⟩,.inl ⟨Int.not_lt.mp hi,rfl⟩⟩
  ·rw[if_neg q] at h;exact nn h
theorem BB{a:Addr}{items:Array Value}{n:Nat}{i:Int}{t:Tok}{j:Nat}{x:Value}(hi:IsL s.heap a items n)(hb:items.size<=sizeLine)(hj:Q1 items.size i=some j)
  (hx:items[j]?=some x) (h:Q x s):wpAny c.M A (getItem (.ref a) (.int i t)) Q E s:=by
 obtain⟨⟨h1,h2⟩,h3⟩:=Zm hj (U1 hb)
 exact h3.elim (fun h3=>wpAny_getItem_list hi.isList h3.1 h2 (h3.2▸hx) h) fun h3=>wpAny_getItem_list_neg hi.isList h3.1 h3.2.1 h1 (h3.2.2▸hx) h

theorem ZBJ{v:Mine.V}{x:List Nat}{F ρ}:∀ {kvs:List (Str×Value)} {ks:List (List Nat)} {vs:List Mine.V},kvs.map (·.1)=ks.map toS->VRs c F ρ vs (kvs.map (·.2))->Qw ks vs x=some v->∃ y,valueAt kvs (toS x)=some y/\VR c F ρ v y:=by
 intro kvs
 induction kvs with
 |nil =>
  intro ks vs hk _ h
  cases ks with
  |nil=>exact nn h
  |cons _ _=>exact nomatch hk
 |cons kv kvs ih =>
  intro ks vs hk hv h
  cases ks with
  |nil=>exact nn h
  |cons k ks =>
   cases vs with
   |nil=>exact nn h
   |cons w vs =>
    have k1:kv.1=toS k:=(qS hk).1
    unfold valueAt
    rw[List.find?_cons,k1]
    have h:(if k=x then some w else Qw ks vs x)=some v:=h
    cases hv with
    |cons a b =>
     by_cases e:k=x
     ·rw[if_pos e] at h
      rw[e,decide_eq_true rfl]
      cases h
      exact⟨kv.2,rfl,a⟩
     ·rw[if_neg e] at h
      rw[decide_eq_false fun q=>e (Ur q)]
      exact ih (qS hk).2 b h
theorem BD{value slice:Expr}{l:List Mine.V}{b:Mine.V}{a:Addr}{items:Array Value}{n:Nat}{y:Value}(hf:Ue l b=some v)(R:Rel c env g U s)(hi:IsL s.heap a items n)(hv:Vxs c env g s l items.toList)(hy:Vx c env g s b y)(N:Nxt c env g s v U Q):
  wpAny c.M A (subscriptTail value slice (.ref a) y) Q E s:=
 QP (P:=fun b=>Vx c env g s b y->_) hf (fun i h hy=>bdE h fun hb h=>boE h fun j hj e=>hy.intE fun t=>by
  obtain⟨x,hx,rx⟩:=hv.get e
  have hs:=Ji hv
  exact WP hi.isList.typeIs slot_list_getitem.lookup (BB hi (by rw[hs];exact hb) (by rw[hs];exact hj) (by rw[<- Array.getElem?_toList];exact hx) (N.same R rx))) hy
theorem KF{kvs:List (Str×Value)}{ks:List (List Nat)}{vs:List Mine.V}{b:Mine.V}{a:Addr}{y:Value}(hf:(onStr b fun x=>Qw ks vs x)=some v)(R:Rel c env g U s)(D:s.heap.DictOf (strKind c.prog c.w) a kvs)(k1:kvs.map (·.1)=ks.map toS)(r1:Vxs c env g s vs (kvs.map (·.2)))(hy:Vx c env g s b y)
  (N:Nxt c env g s v U Q):wpAny c.M A (getItem (.ref a) y) Q E s:=
 Qt (P:=fun b=>Vx c env g s b y->_) hf (fun x' h hy=>hy.strE fun t=>by
  obtain⟨y,hy,ry⟩:=ZBJ k1 r1 h
  exact wpAny_getItem_of (k:=toS x') (beq_self_eq_true (toS x')) D.mapOf hy (N.toks R ry)) hy
theorem ZCx{value slice:Expr}{l:List Mine.V}{b:Mine.V}{x y:Value}(hf:Ue l b=some v)(R:Rel c env g U s)(hx:Vx c env g s (.tup l) x)(hy:Vx c env g s b y)(N:Nxt c env g s v U Q):wpAny c.M A (subscriptTail value slice x y) Q E s:=
 QP (P:=fun b=>Vx c env g s b y->_) hf (fun i h hy=>bdE h fun hb h=>boE h fun j hj e=>hy.intE fun t=>hx.tupE fun a o items n f1 c1 d1 r1=>by
  obtain⟨x,hx,rx⟩:=r1.get e
  have hs:=Ji r1
  have T:IsTup s.heap _ _:=⟨_,f1.1,c1,_,d1⟩
  have h1:=(Zm hj (U1 hb)).1
  exact WP T.typeIs slot_tuple_getitem.lookup (getItem_tuple T h1.1 h1.2 (by rw[hs];exact hj) (by rw[<- Array.getElem?_toList];exact hx) (N.same R rx))) hy
theorem ZCy{value slice:Expr}{w:List Nat}{b:Mine.V}{x y:Value}(hf:Qd U (.str w) b=some v)(R:Rel c env g U s)(hx:Vx c env g s (.str w) x)(hy:Vx c env g s b y)(N:Nxt c env g s v U Q):wpAny c.M A (subscriptTail value slice x y) Q E s:=
 QP (P:=fun b=>Vx c env g s b y->_) (show onInt b (fun i=>bd w.length (bo (Q1 w.length i) fun j=>bo w[j]? fun d=>some (V.str [d])))=some v from hf) (fun i h hy=>bdE h fun hb h=>boE h fun j hj h=>boE h fun d hd e=>by
  cases e
  have h1:=(Zm hj (U1 hb)).1
  refine hx.strE fun t=>hy.intE fun u=>WP (typeIs_str _ _ _) F.slot_str_getitem.lookup (getItem_str (c:=d) ?_ ?_ (N.toks R (.str [d] _)))
  ·rw[decide_eq_false (Int.not_lt.mpr h1.1),decide_eq_false (Int.not_le.mpr h1.2)];rfl
  ·rw[Jp]
   show (Q1 w.length i).bind _=_
   rw[hj]
   show w.toArray[j]?=_
   rw[List.getElem?_toArray];exact hd) hy
theorem ZE1{value slice:Expr}{a b:Mine.V}{x y:Value}(hf:Qd U a b=some v)(R:Rel c env g U s)(hx:Vx c env g s a x)(hy:Vx c env g s b y)(N:Nxt c env g s v U Q):
  wpAny c.M A (subscriptTail value slice x y) Q E s:=by
 cases a with
 |str w=>exact ZCy hf R hx hy N
 |tup l=>exact ZCx hf R hx hy N
 |list l=>exact hx.listE fun a items n f1 r1=>BD hf R f1.1 r1 hy N
 |dict ks vs =>
  exact hx.dictE fun a o kvs f1 d1 k1 r1 s1=>by
   have D:s.heap.DictOf (strKind c.prog c.w) a kvs:=Heap.dictOf_iff.mpr ⟨_,f1.1,d1⟩
   exact WP D.typeIs slot_dict_getitem.lookup (KF hf R D k1 r1 hy N)
 |obj id =>
  exact boE (show bo (JA U.hp id) _=some v from hf) fun o ho h=>hx.objE fun a ha=>by
   obtain⟨q,hc,H⟩:=WR R ho ha
   cases o with
   |list l=>obtain⟨-,items,n,hi,hv⟩:=H;exact BD h R hi hv hy N
   |dict ks vs=>obtain⟨-,-,kvs,D,k1,r1⟩:=H;exact WP D.typeIs slot_dict_getitem.lookup (KF h R D k1 r1 hy N)
   |inst _ _=>exact nn h
 |_=>exact nn hf
theorem ZGV{e i:Expr}{C:Ora}{me mi:ME}{pos}(H:JD c r env e (ev C me))(H2:JD c r env i (ev C mi)):JD c r env (.Subscript e i pos) (ev C (.sub me mi)):=fun J J J J J J J J hr hf R N=>bnE hf fun a U1a h1 h=>bnE h fun b U2a h3 h=>boE h fun w h5 h6 =>
 Subscript_ (H hr h1 R fun x s1a g1a R1a X1a E1a=>H2 hr h3 R1a fun y s2a g2a R2a X2a E2a=>ZE1 h5 R2a (X1a.ext E2a) X2a ((N.of h6).trans (E1a.trans E2a)))
end
section
variable{c:Cx}{r:Nat}{env:Env}{A:Around}{U U':St}{g:Gh}{s:Shared}{E:Value->Shared->Prop}{Q:Value->Shared->Prop}{v:Mine.V}
noncomputable def ixV:Mine.V->Option Int
 |.int i=>some i
 |_=>none
theorem BV(n:Nat)(i:Int):max 0 (min (if i<0 then i+n else i) (n:Int))=(clampIx n i:Int):=(Int.toNat_of_nonneg (Int.le_max_left 0 _)).symm
theorem ZAP(n:Nat)(i:Int):clampIx n i<=n:=Int.toNat_le.mpr (Int.max_le.mpr ⟨Int.natCast_nonneg n,Int.min_le_right _ _⟩)
theorem GI{α:Type}(xs:Array α)(a b:Nat):((List.range (b-a)).map (a+·)).filterMap (xs[·]?)=cut xs.toList a b:=by
 rw[pick_run,<- List.drop_take];rfl
def BdV(a:Mine.V):Prop:=a=.none\/∃ i,a=.int i
theorem Hj{n i:Nat}{a:Mine.V}(h:Ui n a=some i):BdV a:=by
 cases a<;>first |exact .inl rfl |exact .inr ⟨_,rfl⟩ |exact nn h
theorem Hz{n i:Nat}{a:Mine.V}(h:UO n a=some i):BdV a:=by
 cases a<;>first |exact .inl rfl |exact .inr ⟨_,rfl⟩ |exact nn h
theorem Gm{n i:Nat}{a:Mine.V}(h:Ui n a=some i):(match ixV a with |some i=>max 0 (min (if i<0 then i+n else i) (n:Int)) |none=>0)=(i:Int):=by
 cases a<;>first |exact nn h |(cases h;first |rfl |exact BV _ _)
theorem Gx{n i:Nat}{a:Mine.V}(h:UO n a=some i):(match ixV a with |some i=>max 0 (min (if i<0 then i+n else i) (n:Int)) |none=>(n:Int))=(i:Int):=by
 cases a<;>first |exact nn h |(cases h;first |rfl |exact BV _ _)
theorem DM{n i j:Nat}{a b:Mine.V}(h1:Ui n a=some i)(h2:UO n b=some j):sliceBounds (ixV a) (ixV b) none n=((i:Int),(j:Int),1)/\Builtin.Str.strSliceIndices (ixV a) (ixV b) 1 n=sliceRange i j 1:=by
 constructor
 ·show ((match ixV a with |none=>0 |some i=>max 0 (min (if i<0 then i+n else i) (n:Int))),(match ixV b with |none=>(n:Int) |some i=>max 0 (min (if i<0 then i+n else i) (n:Int))),(1:Int))=_
  have e1:=Gm h1
  have e2:=Gx h2
  rw[<- e1,<- e2]
  cases ixV a<;>cases ixV b<;>rfl
 ·show sliceRange (match ixV a with |none=>0 |some i=>max 0 (min (if i<0 then i+n else i) (n:Int))) (match ixV b with |none=>(n:Int) |some i=>max 0 (min (if i<0 then i+n else i) (n:Int))) 1=_
  have e1:=Gm h1
  have e2:=Gx h2
  rw[<- e1,<- e2]
  cases ixV a<;>cases ixV b<;>rfl
theorem Tp{items:Array Value}{i j:Nat}{a b:Mine.V}(h1:Ui items.size a=some i)(h2:UO items.size b=some j):(slicePick items (ixV a) (ixV b) none).toList=cut items.toList i j:=by
 unfold slicePick
 rw[(DM h1 h2).1]
 show ((sliceRange i j 1).filterMap (items[·]?))=_
 rw[sliceRange_one];exact GI items i j
theorem ZIU{n j:Nat}{b:Mine.V}(h2:UO n b=some j):j<=n:=by
 cases b<;>first |exact nn h2 |skip
 ·cases h2;exact qF _
 ·cases h2;exact ZAP _ _
theorem ZG4{l i j:Nat}(h:j-i=l)(hj:j<=l):(i=0/\j=l)\/l=0:=by
 cases i with
 |zero=>exact .inl ⟨rfl,h⟩
 |succ i =>
  cases j with
  |zero=>exact .inr (h.symm.trans (Nat.zero_sub _))
  |succ j=>exact absurd (qA hj (h▸(Nat.succ_sub_succ j i).symm▸xU j i)) (Nat.not_succ_le_self j)
theorem ZCV{α:Type}{l:List α}{i j:Nat}(h:(sliceRange i j 1).length=l.length)(hj:j<=l.length):cut l i j=l:=by
 rw[sliceRange_one,List.length_map,List.length_range] at h
 unfold cut
 rcases ZG4 h hj with ⟨rfl,rfl⟩ |h0
 ·exact List.take_length
 ·rw[List.length_eq_zero_iff.mp h0,List.take_nil,List.drop_nil]
set_option tactic.hygienic true in
theorem ZA3{w:List Nat}{i j:Nat}{a b:Mine.V}(h1:Ui w.length a=some i)(h2:UO w.length b=some j):Txt.slice (toS w) (ixV a) (ixV b)=toS (cut w i j):=by
 unfold Txt.slice
 rw[Jp,(DM h1 h2).2]
 split
 ·rename_i h
  exact bA h fun J h=>by rw[ZCV (bE h) (ZIU h2)]
 ·rw[sliceRange_one]
  exact congrArg (fun l=>Str.mk (List.toArray l)) (GI w.toArray i j)
theorem ZEZ{F ρ}{l:List Mine.V}{xs:List Value}(h:VRs c F ρ l xs)(i j:Nat):VRs c F ρ (cut l i j) (cut xs i j):=(h.take j).drop i

def Ya(c:Cx)(r:Nat)(env:Env)(e:Option Expr)(f:St->Option (Mine.V×St)):Prop:=
 ∀ ⦃A:Around⦄ ⦃U:St⦄ ⦃v:Mine.V⦄ ⦃U':St⦄ ⦃g:Gh⦄ ⦃s:Shared⦄ ⦃E:Value->Shared->Prop⦄ ⦃Q:Value->Shared->Prop⦄,
  JP A r->f U=some (v,U')->Rel c env g U s->Nxt c env g s v U' Q->wpAny c.M A (evalPart e env) Q E s
theorem ZEh:Ya c r env none (fun U=>some (.none,U)):=fun J J J J J J J J J hf R N=>evalPart_none_step ((N.of hf).same R .none)
theorem ZCg{e:Expr}{f}(H:JD c r env e f):Ya c r env (some e) f:=fun J J J J J J J J hr hf R N=>evalPart_some_step (H hr hf R N)

theorem Yx{a:Mine.V}{x:Value}{F ρ}(h:BdV a)(hx:VR c F ρ a x):IsPart x (ixV a)/\∃ p:Option (Int×Tok),partValue p=x/\p.map (·.1)=ixV a:=by
 rcases h with rfl |⟨i,rfl⟩
 ·exact hx.noneE ⟨.none,none,rfl,rfl⟩
 ·exact hx.intE (P:=fun x=>IsPart x (some i)/\∃ p:Option (Int×Tok),partValue p=x/\p.map (·.1)=some i) fun t=>⟨.int _ _,some (i,t),rfl,rfl⟩

noncomputable def slO(y z:Value):Obj:={ cls:=.type "slice",data:=.fields #[y,z,.none] }
theorem Dc{value slice:Expr}{o a b:Mine.V}{x y z:Value}(hf:(onListOf U o fun l=>bd l.length (bo (Ui l.length a) fun i=>bo (UO l.length b) fun j=>some (.list (cut l i j))))=some v)(R:Rel c env g U s)(hx:Vx c env g s o x)(hy:Vx c env g s a y)(hz:Vx c env g s b z)
  (N:Nxt c env g s v U Q):wpAny c.M A (subscriptTail value slice x (.ref s.heap.objs.size)) Q E { s with heap:=s.heap.push (slO y z) }:=
 UX (P:=fun x=>wpAny c.M A (subscriptTail value slice x (.ref s.heap.objs.size)) Q E { s with heap:=s.heap.push (slO y z) }) (R.grow (s':={ s with heap:=s.heap.push (slO y z) }) (Qb _ _) R.pos) hf (Vx.push hx) fun l a1 i1 n1 h hi1 hv1=>bdE h fun hb h=>boE h fun i hi h=>boE h fun j hj e=>by
  cases e
  have hs:=Ji hv1
  rw[<- hs] at hi hj
  refine WP (Heap.IsList.typeIs (s:={ s with heap:=s.heap.push (slO y z) }) hi1.isList) slot_list_getitem.lookup (wpAny_getItem_list_slice hi1.isList (Heap.IsSliceOf.new ..) (Yx (Hj hi) hy).1 (Yx (Hz hj) hz).1 .none (fun h=>nomatch h) ?_ (by rw[hs];exact hb))
  exact Nxt.newList (s:={ s with heap:=s.heap.push (slO y z) }) (N.trans (.grow (Qb _ _) rfl)) (R.grow (Qb _ _) R.pos) (by rw[Tp hi hj];exact ZEZ hv1 i j) R.pos
theorem ZHe{value slice:Expr}{o a b:Mine.V}{x y z:Value}(hf:slV U o a b=some v)(R:Rel c env g U s)(hx:Vx c env g s o x)(hy:Vx c env g s a y)(hz:Vx c env g s b z)(N:Nxt c env g s v U Q):
  wpAny c.M A (subscriptTail value slice x (.ref s.heap.objs.size)) Q E { s with heap:=s.heap.push (slO y z) }:=by
 cases o with
 |str w =>
  refine bdE (show bd w.length (bo (Ui w.length a) fun i=>bo (UO w.length b) fun j=>some (V.str (cut w i j)))=some v from hf) fun hb h=>boE h fun i hi h=>boE h fun j hj e=>?_
  cases e
  obtain⟨-,l1,q1,q2⟩:=Yx (Hj hi) hy
  obtain⟨-,l2,q3,q4⟩:=Yx (Hz hj) hz
  refine hx.strE (P:=fun x=>wpAny c.M A (subscriptTail value slice x (.ref s.heap.objs.size)) Q E { s with heap:=s.heap.push (slO y z) }) fun t=>WP (typeIs_str _ _ _) F.slot_str_getitem.lookup (Qi R.pos (wpAny_getItem_str_slice (l:=l1) (u:=l2) (st:=none) ⟨_,qZ _ rfl,rfl,by rw[q1,q3];rfl⟩ rfl
   (post_val_or_str ⟨qA (Txt.slice_le _ _ _) (by rw[Jp];exact hb),fun t' k ht=>?_⟩)))
  show Q (.str (Txt.slice (toS w) (l1.map (·.1)) (l2.map (·.1))) t') _
  rw[q2,q4,ZA3 hi hj]
  exact(N.trans (.grow (s':={ s with heap:=s.heap.push (slO y z) }) (Qb _ _) rfl)).toks (R.grow (s':={ s with heap:=s.heap.push (slO y z) }) (Qb _ _) R.pos) (.str _ _) ht
 |list l=>exact Dc (U:=U) (o:=.list l) (a:=a) (b:=b) hf R hx hy hz N
 |obj i=>exact Dc (U:=U) (o:=.obj i) (a:=a) (b:=b) hf R hx hy hz N
 |_=>exact nn hf

theorem ZIY{e:Expr}{lo hi:Option Expr}{C:Ora}{me ml mh:ME}{p pos}(H:JD c r env e (ev C me))(H2:Ya c r env lo (ev C ml))(H3:Ya c r env hi (ev C mh)):
  JD c r env (.Subscript e (.Slice lo hi none p) pos) (ev C (.sl me ml mh)):=fun J J J J J J J J hr hf R N=>bnE hf fun o U1a h1 h=>bnE h fun a U2a h3 h=>bnE h fun b U3a h5 h=>boE h fun w h7 h8 =>
 Subscript_ (H hr h1 R fun x s1a g1a R1a X1a E1a=>wpAny_Slice (H2 hr h3 R1a fun y s2a g2a R2a X2a E2a=>H3 hr h5 R2a fun z s3a g3a R3a X3a E3a=>evalPart_none_step
  (ZHe h7 R3a (X1a.ext (E2a.trans E3a)) (X2a.ext E3a) X3a ((N.of h8).trans (E1a.trans (E2a.trans E3a))))))
end
theorem Qj{α β:Type}[DecidableEq α](x y:α)(v:β):∀ (l:List (α×β)),JA (put l x v) y=if x=y then some v else JA l y:=fun l0=>by
 induction l0 with
 |nil =>
  exact rfl
 |cons p0 l ih =>
  obtain⟨a,b⟩:=p0
  rw[OH]
  by_cases h:a=x
  ·rw[if_pos h,UH,UH]
   by_cases h2:x=y
   ·rw[if_pos (h.trans h2),if_pos h2]
   ·rw[if_neg fun q=>h2 (h.symm.trans q),if_neg h2,if_neg fun q=>h2 (h.symm.trans q)]
  ·rw[if_neg h,UH,UH,ih]
   by_cases h2:a=y
   ·rw[if_pos h2,if_neg fun q=>h (h2.trans q.symm),if_pos h2]
   ·rw[if_neg h2,if_neg h2]
section
variable{c:Cx}{r:Nat}{env:Env}{A:Around}{U U':St}{g:Gh}{s:Shared}{E:Value->Shared->Prop}{Q:Value->Shared->Prop}{v:Mine.V}

structure Keep(env:Env)(D:Addr->Prop)(h h':Heap):Prop where
 k:∀ b p,¬ D b->b≠env.locals->h.get? b=some p->h'.get? b=some p
 ns:∀ m,h.Ns env.locals m->h'.Ns env.locals m
theorem Keep.of{D:Addr->Prop}{h h':Heap}(hs:∀ b p,¬ D b->h.get? b=some p->h'.get? b=some p)(hd:¬ D env.locals):Keep env D h h':=⟨fun b p z J=>hs b p z,fun m hm=>hm.at fun p e=>hs _ _ hd e⟩
theorem Keep.grown{D:Addr->Prop}{h h':Heap}(hs:∀ b p,h.get? b=some p->h'.get? b=some p):Keep env D h h':=⟨fun b p J J=>hs b p,fun m hm=>hm.at fun p e=>hs _ _ e⟩
theorem Keep.of_ns{D:Addr->Prop}{h h':Heap}{m:Str->Option Value}(hs:∀ b p,¬ D b->b≠env.locals->h.get? b=some p->h'.get? b=some p)(h1:h.Ns env.locals m)(h2:h'.Ns env.locals m):Keep env D h h':=
 ⟨hs,fun m' hm=>(funext fun n=>hm.agree h1 n:m'=m)▸h2⟩
theorem Keep.alive{D:Addr->Prop}{h h':Heap}(K:Keep env D h h'){m:Str->Option Value}(hm:h.Ns env.locals m)(hD:∀ a,D a->∃ p,h'.get? a=some p)(a:Addr)(e:∃ p,h.get? a=some p):∃ p,h'.get? a=some p:=
 e.elim fun p z=>Classical.byCases (fun d:D a=>hD a d) fun d=>Classical.byCases (fun q:a=env.locals=>q▸nsO (K.ns m hm)) fun q=>⟨p,K.k _ _ d q z⟩
theorem Rel0.setOb{h h':Heap}(R:Rel0 c env g U h){id:Id}{ob':Ob}{q o:Addr}(hc:g.cs id=some (q,o))(K:Keep env (·=o) h h')(he:∃ p,h'.get? o=some p)
  (hob:(∀ a p,Fz env g h a p->Fz env g h' a p)->ObR c env g h' ob' q o):Rel0 c env g (U.setOb id ob') h':=by
 have hW:=R.cW _ _ _ hc
 have kF:∀ a p,Fz env g h a p->Fz env g h' a p:=fun a p z=>⟨K.k _ _ (fun e=>z.2.1 (e▸hW)) (fun e=>z.2.2.2 e) z.1,z.2⟩
 obtain⟨m,hm,hl⟩:=R.loc
 have al:=K.alive hm fun a e=>e▸he
 refine⟨fun a o e=>kF _ _ (R.kin a o e),fun a e=>al a (R.wob a e),fun a e=>al a (R.xob a e),fun a e=>al a (R.fob a e),R.dis,⟨m,K.ns m hm,hl.mono kF fun J J z=>z⟩,fun id' ob e=>?_,R.cW,R.inj,R.nx,R.ps⟩
 rw[St.setOb,Qj] at e
 by_cases hid:id=id'
 ·rw[if_pos hid] at e
  cases e
  exact⟨q,o,hid▸hc,hob kF⟩
 ·rw[if_neg hid] at e
  exact(R.obs id' ob e).imp fun r'=>Exists.imp fun o' z=>⟨z.1,z.2.mono kF (fun J J z=>z) fun p=>K.k _ _ (fun e2=>hid (R.inj id id' q o r' hc (e2▸z.1))) fun e=>(R.dis _ (R.cW _ _ _ z.1)).2 e⟩
theorem Ext.setOb{s':Shared}{o:Addr}(hW:g.W o)(K:Keep env (·=o) s.heap s'.heap)(hg:gos s'=gos s):Ext env g g s s':=
 ⟨fun a p h hw hf=>⟨K.k _ _ (fun e=>hw (e▸hW)) (fun e=>hf e) h,hw⟩,fun J J h=>h,rfl,hg⟩

theorem Uo{id:Id}{l:List Mine.V}{a:Addr}(R:Rel c env g U s)(ho:JA U.hp id=some (.list l))(ha:g.rho id=some a):
  ∃ items n,g.cs id=some (a,a)/\IsL s.heap a items n/\Vxs c env g s l items.toList:=by
 obtain⟨o,hc,rfl,items,n,hi,hv⟩:=WR R ho ha
 exact⟨items,n,hc,hi,hv⟩
theorem Yv{id:Id}{l':List Mine.V}{a:Addr}{items:Array Value}{n:Nat}{f:Array Value->Array Value}(R:Rel c env g U s)(hc:g.cs id=some (a,a))(hi:IsL s.heap a items n)
  (hv:Vxs c env g s l' (f items).toList):
  Rel c env g (U.setOb id (.list l')) { s with heap:=s.heap.update a (Obj.mapSeq f) }/\Ext env g g s { s with heap:=s.heap.update a (Obj.mapSeq f) }:=by
 have hi':IsL (s.heap.update a (Obj.mapSeq f)) a (f items) (if (f items).size==items.size then n else n+1):=Heap.get?_update_self (Obj.mapSeq f) hi rfl
 have K:Keep env (·=a) s.heap (s.heap.update a (Obj.mapSeq f)):=.of (fun b p e h=>(Heap.get?_update_other _ _ (Ne.symm e)).trans h) fun e=>(R.dis a (R.cW _ _ _ hc)).2 e.symm
 exact⟨⟨R.toRel0.setOb hc K ⟨_,hi'⟩ fun k=>⟨rfl,f items,_,hi',hv.mono k fun J J z=>z⟩,R.pos⟩,Ext.setOb (R.cW _ _ _ hc) K rfl⟩

noncomputable def Im:BI->String
 |.len=>"len" |.ord=>"ord" |.chr=>"chr" |.sum=>"sum" |.max=>"max" |.range=>"range"
def Qq(c:Cx)(x:Str)(v:Value):Bool:=(nsIn c.K mainGlobals x==some none)&&YI.any fun p=>p.1==x&&p.2==v
theorem XP(O:c.Ok)(VV:EnvOk env){x:Str}{v:Value}(h:Qq c x v=true)(R:Rel c env g U s)(hq:Q v s):wpAny c.M A (loadGlobal env x) Q E s:=bA h fun h1 h=>by
 obtain⟨p,hp,h⟩:=List.any_eq_true.mp h
 refine bA h fun h2 h3=>?_
 have e1:nsIn c.K env.globals x=some none:=VV.glob▸bE h1
 have e2:nsIn c.K env.builtins x=some (some v):=by rw[VV.blt,<- bE h2,<- bE h3];exact O.bi p hp
 unfold loadGlobal
 refine qB ((looks_nsIn R.kinD e1).here ?_)
 exact qB ((looks_nsIn R.kinD e2).here (qC hq))
theorem XR{l:List Expr}{env:Env}:(l.map fun e=>(false,eval e env)).any (·.1)=false:=by
 rw[List.any_map,List.any_eq_false]
 exact fun x J h=>ff h

def Q7(c:Cx)(env:Env)(op:List Value->Sem Value)(f:St->List Mine.V->Option Mine.V):Prop:=
 ∀ ⦃A:Around⦄ ⦃U:St⦄ ⦃a:List Mine.V⦄ ⦃v:Mine.V⦄ ⦃g:Gh⦄ ⦃s:Shared⦄ ⦃x:List Value⦄ ⦃E:Value->Shared->Prop⦄ ⦃Q:Value->Shared->Prop⦄,
  f U a=some v->Rel c env g U s->Vxs c env g s a x->Nxt c env g s v U Q->wpAny c.M A (op x) Q E s
theorem OS(O:c.Ok)(VV:EnvOk env){x:Str}{es:List Expr}{C:Ora}{mes:List ME}{b:BI}{np pos}(hs:es.all Je=true)(hk:env.kindOf x=some .globalImplicit)(hx:(x==("__debug__":Str))=false)
  (hd:Qq c x (.builtin (Im b))=true) (hop:Q7 c env (fun xs=>call (.builtin (Im b)) xs []) (fun U=>biV U b)) (H2:J6 c r env es (evs C mes)):
  JD c r env (.Call (.Name x np) es [] pos) (ev C (.bi b mes)):=fun J J J J J J J J hr hf R N=>bnE hf fun vs U1a h1 h=>boE h fun w h3 h4=>by
 rw[arm_eval_Call_Name',UT hs]
 exact qB (Name_function_global VV.kind hk (XP O VV hd R (callWith_builtin XR (UU (H2 hr h1 R fun xs s1a g1a R1a X1a E1a=>hop h3 R1a X1a ((N.of h4).trans E1a))))) hx)

theorem G6{β:Type}{rr:β}{f:Bool->Option β}{P:Mine.V->Prop}(h:bo (U9 v) f=some rr)(k:∀ b,f b=some rr->P (.bool b)):P v:=by
 cases v<;>first |exact nn h |exact k _ h
theorem ZGd(O:c.Ok)(VV:EnvOk env){x y:Str}{e:Expr}{C:Ora}{me:ME}{np bp pos}(hs:Je e=true)(hk:env.kindOf x=some .globalImplicit)(hx:(x==("__debug__":Str))=false)(hd:Qq c x (.builtin "isinstance")=true)
  (hk':env.kindOf y=some .globalImplicit) (hy:(y==("__debug__":Str))=false) (hd':Qq c y (.type "bool")=true) (H:JD c r env e (ev C me)):JD c r env (.Call (.Name x np) [e,.Name y bp] [] pos) (ev C (.isb me)):=fun J J J J J J J J hr hf R N=>bnE hf fun w U1a h1 h=>G6 (P:=fun w=>ev C me _=some (w,U1a)->_) h (fun b h3 h1=>by
 have hs2:[e,.Name y bp].all Je=true:=by rw[List.all_cons,hs];rfl
 rw[arm_eval_Call_Name',UT hs2]
 exact qB (Name_function_global VV.kind hk (XP O VV hd R (callWith_builtin XR (UU (spliced_cons (H hr h1 R fun z s1a g1a R1a X1a E1a=>spliced_cons (Name_function_global VV.kind hk' (XP O VV hd' R1a (spliced_nil (X1a.boolE (IsiPair.bool_bool (((N.of h3).trans E1a).same R1a (.bool _)))))) hy)))))) hx)) h1
theorem W4{β:Type}{rr:β}{l:List Mine.V}{f:Mine.V->Option β}{P:List Mine.V->Prop}(h:bo (Wd l) f=some rr)(k:∀ v,f v=some rr->P [v]):P l:=by
 match l,h with
 |[],h=>exact nn h
 |[v],h=>exact k v h
 |_::_::_,h=>exact nn h
theorem B9{a:Mine.V}{x:Value}(hf:(onListOf U a fun l=>bd l.length (some (V.int l.length)))=some v)(R:Rel c env g U s)(hx:Vx c env g s a x)(N:Nxt c env g s v U Q):wpAny c.M A (call (.builtin "len") [x] []) Q E s:=
 UX (P:=fun x=>wpAny c.M A (call (.builtin "len") [x] []) Q E s) R hf hx fun l a1 i1 n1 h hi1 hv1=>bdE h fun hb e=>by
  cases e
  have hz:=Ji hv1
  exact call_len_list hi1.isList (by rw[hz];exact U1 hb) (by rw[hz];exact N.toks R (.int _ _))
theorem ZFs:Q7 c env (fun xs=>call (.builtin "len") xs []) (fun U=>biV U .len):=fun A U l v g s xs E Q hf R X N =>
 W4 (P:=fun l=>Vxs c env g s l xs->_) hf (fun a h X=>X.oneE fun x X=>by
  cases a with
  |str z=>exact bdE h fun hb e=>by cases e;exact X.strE fun t=>P.len_str (Int.not_le.mpr (Ie hb)) ((Jp z).symm▸N.toks R (.int _ _))
  |list l=>exact B9 (U:=U) (a:=.list l) h R X N
  |obj i=>exact B9 (U:=U) (a:=.obj i) h R X N
  |_=>exact nn h) X
theorem ZFi:Q7 c env (fun xs=>call (.builtin "ord") xs []) (fun U=>biV U .ord):=fun A U l v g s xs E Q hf R X N =>
 W4 (P:=fun l=>Vxs c env g s l xs->_) hf (fun a h X=>X.oneE fun x X=>Zt (P:=fun a=>Vx c env g s a x->_) h (fun d e X=>by cases e;exact X.strE fun t=>P.ord_of_char (N.toks R (.int _ _))) X) X
theorem ZG5:Q7 c env (fun xs=>call (.builtin "chr") xs []) (fun U=>biV U .chr):=fun A U l v g s xs E Q hf R X N =>
 W4 (P:=fun l=>Vxs c env g s l xs->_) hf (fun a h X=>X.oneE fun x X=>QP (P:=fun a=>Vx c env g s a x->_) h (fun d h X=>gdE h fun h e=>bA h fun h1 h2=>by
  cases e
  exact X.intE fun t=>P.chr_of_int (by rw[decide_eq_false (Int.not_lt.mpr (qH h1)),decide_eq_false (Int.not_lt.mpr (Int.le_of_lt_add_one (qH h2)))];rfl) (N.toks R (.str [_] _))) X) X

noncomputable def UZ:SM->Str
 |.find=>"find" |.rfind=>"rfind" |.count=>"count" |.replace=>"replace" |.lower=>"lower" |.join=>"join" |.startswith=>"startswith"
noncomputable def Q0:SM->String
 |.find=>"str.find" |.rfind=>"str.rfind" |.count=>"str.count" |.replace=>"str.replace" |.lower=>"str.lower" |.join=>"str.join" |.startswith=>"str.startswith"
theorem BC{m:SM}{x:Str}{t:Tok}{pl:Sem Bool}{Q:Value×List Value->Shared->Prop}(h:Q (.builtin (Q0 m),[.str x t]) s):wpAny c.M A (getMethod (.str x t) (UZ m) pl) Q E s:=by
 cases m
 ·exact GM.find h
 ·exact GM.rfind h
 ·exact GM.count h
 ·exact GM.replace h
 ·exact GM.lower h
 ·exact GM.join h
 ·exact GM.startswith h
theorem ZIX{e:Expr}{es:List Expr}{C:Ora}{me:ME}{mes:List ME}{m:SM}{apos pos}(hc:Jz e=true)(hs:es.all Je=true)(hl:(apos.endLine==pos.line)=true)(hlen:es.length<25)
  (hop:∀ (z:List Nat) (t:Tok),Q7 c env (fun xs=>call (.builtin (Q0 m)) (.str (toS z) t::xs) []) (fun U=>smV U m z)) (H:JD c r env e (ev C me)) (H2:J6 c r env es (evs C mes)):
  JD c r env (.Call (.Attribute e (UZ m) apos) es [] pos) (ev C (.sm m me mes)):=fun J J J J J J J J hr hf R N=>bnE hf fun v U1a h1 h =>
 Um hc hs hl hlen (H hr h1 R fun x s1a g1a R1a X1a E1a pl=>Qt (P:=fun v=>Vx c env g1a s1a v x->_) h (fun z h X1a=>bnE h fun vs U2a h3 h=>boE h fun w h5 h6=>X1a.strE fun t =>
  BC (callWith_builtin XR (UU (H2 hr h3 R1a fun xs s2a g2a R2a X2a E2a=>hop z t h5 R2a X2a ((N.of h6).trans (E1a.trans E2a)))))) X1a)
end
open PySem.Builtin PySem.Builtin.Str in
theorem Yz{n:Nat}{i:Int}(hi:¬ i<0):fromIndex n i=i.toNat:=by unfold fromIndex;rw[if_neg hi,Int.max_eq_right (Int.not_lt.mp hi)]
open PySem.Builtin PySem.Builtin.Str in
theorem Td(x y:Str)(i j:Int)(t u v w:Tok)(hi:¬ i<0)(hj:¬ j<0):Gives («str.rfind» ⟨[.str x t,.str y u,.int i v,.int j w],[]⟩) (.int (match lastOccurrence x y i.toNat (min j.toNat x.length) with |some k=>(k:Int) |none=>-1)):=by
 rw[<- Yz (n:=x.length) hi,<- Yz (n:=x.length) hj]
 show Gives (match lastOccurrence x y (fromIndex x.length i) (min (fromIndex x.length j) x.length) with |some k=>retInt k |none=>(do rule "str.rfind.not-found";retInt (-1))) _
 cases lastOccurrence x y (fromIndex x.length i) (min (fromIndex x.length j) x.length) with
 |none=>exact .rule (.of_eq rfl)
 |some k=>exact .of_eq rfl
open PySem.Builtin PySem.Builtin.Str in
theorem Te(x y:Str)(i j:Int)(t u v w:Tok)(hi:¬ i<0)(hj:¬ j<0):Gives («str.count» ⟨[.str x t,.str y u,.int i v,.int j w],[]⟩) (.int (occurrences x y i.toNat (min j.toNat x.length) (x.length+1)).length):=by
 rw[<- Yz (n:=x.length) hi,<- Yz (n:=x.length) hj]
 exact .of_eq rfl
section
variable{c:Cx}{r:Nat}{env:Env}{A:Around}{U U':St}{g:Gh}{s:Shared}{E:Value->Shared->Prop}{Q:Value->Shared->Prop}{v:Mine.V}

theorem ZC4(z:List Nat)(t:Tok):Q7 c env (fun xs=>call (.builtin (Q0 .find)) (.str (toS z) t::xs) []) (fun U=>smV U .find z):=fun A U l v g s xs E Q hf R X N=>by
 match l,hf,X with
 |[],hf,_=>exact nn hf
 |[a],hf,X =>
  exact X.oneE fun x X=>Qt (P:=fun a=>Vx c env g s a x->_) (show onStr a (fun y=>some (V.int (Jv y z 0)))=some v from hf) (fun y h X=>by cases h;exact X.strE fun u=>SC.find (ZDu z y▸N.toks R (.int _ _))) X
 |[a,b],hf,X =>
  exact X.twoE fun x y X Y=>Qt (P:=fun a=>Vx c env g s a x->_) (show onStr a (fun y=>onInt b fun i=>gd (decide (0<=i)&&decide (i<=z.length)) (some (V.int (Jv y (z.drop i.toNat) i.toNat))))=some v from hf)
   (fun w h X=>QP (P:=fun b=>Vx c env g s b y->_) h (fun i h Y=>gdE h fun h e=>bA h fun h1 h2=>by
    cases e
    exact X.strE (P:=fun x=>wpAny c.M A (call (.builtin (Q0 .find)) [.str (toS z) t,x,y] []) Q E s) fun u=>Y.intE (P:=fun y=>wpAny c.M A (call (.builtin (Q0 .find)) [.str (toS z) t,_,y] []) Q E s) fun u'=>SC.find3 (ZCE (qH h1) (qH h2)▸N.toks R (.int _ _))) Y) X
 |_::_::_::_,hf,_=>exact nn hf
theorem To(z:List Nat)(t:Tok):Q7 c env (fun xs=>call (.builtin (Q0 .startswith)) (.str (toS z) t::xs) []) (fun U=>smV U .startswith z):=fun A U l v g s xs E Q hf R X N =>
 W4 (P:=fun l=>Vxs c env g s l xs->_) hf (fun a h X=>X.oneE fun x X=>Qt (P:=fun a=>Vx c env g s a x->_) h (fun y h X=>by cases h;exact X.strE fun u=>SC.startswith (Tn z y▸N.same R (.bool _))) X) X
theorem Bu{z:List Nat}{l:List Mine.V}{xs:List Value}{p:Nat×Int}{F ρ}(h:Ww z l=some p)(X:VRs c F ρ l xs):(∃ t u w,xs=[.str (toS [p.1]) t,.int 0 u,.int p.2 w])/\0<=p.2/\p.2<=z.length:=by
 cases l with
 |nil=>exact nn h
 |cons a r =>
  cases r with
  |nil=>exact nn h
  |cons b r =>
   cases r with
   |nil=>exact nn h
   |cons d r =>
    cases r with
    |cons _ _=>exact nn h
    |nil =>
     exact Zt (P:=fun a=>VRs c F ρ [a,b,d] xs->_) h (fun k h=>QP (P:=fun b=>VRs c F ρ [.str [k],b,d] xs->_) h fun lo h=>QP (P:=fun d=>VRs c F ρ [.str [k],.int lo,d] xs->_) h fun hi h=>gdE h fun h e X=>bA h fun h1 h=>bA h fun h2 h3=>by
      cases e
      cases qH h1
      refine⟨X.consE fun x xs a b=>a.strE (P:=fun x=>∃ t u w,x::xs=[Value.str (toS [k]) t,.int 0 u,.int hi w]) fun t=>b.twoE (P:=fun xs=>∃ t' u w,Value.str (toS [k]) t::xs=[Value.str (toS [k]) t',.int 0 u,.int hi w]) fun y y' b1 b2=>b1.intE (P:=fun y=>∃ t' u w,[Value.str (toS [k]) t,y,y']=[Value.str (toS [k]) t',.int 0 u,.int hi w]) fun u=>b2.intE (P:=fun y'=>∃ t' u' w,[Value.str (toS [k]) t,.int 0 u,y']=[Value.str (toS [k]) t',.int 0 u',.int hi w]) fun w=>⟨t,u,w,rfl⟩,qH h2,qH h3⟩) X
theorem ZBf(z:List Nat)(t:Tok):Q7 c env (fun xs=>call (.builtin (Q0 .rfind)) (.str (toS z) t::xs) []) (fun U=>smV U .rfind z):=fun A U l v g s xs E Q hf R X N=>boE hf fun p h e=>by
 obtain⟨⟨t1,t2,t3,rfl⟩,h1,h2⟩:=Bu h X
 cases e
 refine call_gives F.slot_str_rfind (typeIs_str _ _ _) F.entry_str_rfind (F.args_str_rfind_4 _ _ _ _) (Td _ _ _ _ _ _ _ _ (Int.not_lt.mpr (Int.le_refl 0)) (Int.not_lt.mpr h1)) ?_
 have h3:p.2.toNat<=z.length:=Int.toNat_le.mpr h2
 have e:(match Builtin.Str.lastOccurrence (toS z) (toS [p.1]) 0 p.2.toNat with |some k=>(k:Int) |none=>-1)=QW p.1 (z.take p.2.toNat) 0 (-1):=ZBN h3
 rw[Jp,Nat.min_eq_left h3,Int.toNat_zero,e]
 exact N.toks R (.int _ _)
theorem ZBh(z:List Nat)(t:Tok):Q7 c env (fun xs=>call (.builtin (Q0 .count)) (.str (toS z) t::xs) []) (fun U=>smV U .count z):=fun A U l v g s xs E Q hf R X N=>boE hf fun p h e=>by
 obtain⟨⟨t1,t2,t3,rfl⟩,h1,h2⟩:=Bu h X
 cases e
 refine call_gives F.slot_str_count (typeIs_str _ _ _) F.entry_str_count (F.args_str_count_4 _ _ _ _) (Te _ _ _ _ _ _ _ _ (Int.not_lt.mpr (Int.le_refl 0)) (Int.not_lt.mpr h1)) ?_
 have h3:p.2.toNat<=z.length:=Int.toNat_le.mpr h2
 rw[Jp,Nat.min_eq_left h3,Int.toNat_zero,KZ h3 (qG _),List.drop_zero,ZAo _ _ _ (Nat.lt_succ_of_le (List.length_take_le _ _ |> fun q=>qA q h3))]
 exact N.toks R (.int _ _)
theorem ZAy{F ρ}:∀ {l:List Mine.V} {ys:List (List Nat)} {xs:List Value},Ut l=some ys->VRs c F ρ l xs->∃ ps:List (Str×Tok),xs=strValues ps/\ps.map (·.1)=ys.map toS:=by
 intro l0
 induction l0 with
 |nil =>
  intro _ _ h hv
  cases h;exact hv.nilE ⟨[],rfl,rfl⟩
 |cons _ _ ih =>
  intro ys xs h hv
  exact hv.consE (P:=fun xs=>∃ ps:List (Str×Tok),xs=strValues ps/\ps.map (·.1)=ys.map toS) fun y xs hw hv=>HP (P:=fun v=>VR c F ρ v y->∃ ps:List (Str×Tok),y::xs=strValues ps/\ps.map (·.1)=ys.map toS) h (fun z h hw=>boE h fun zs h1 h2=>by
    cases h2
    obtain⟨ps,rfl,e⟩:=ih h1 hv
    exact hw.strE (P:=fun y=>∃ ps':List (Str×Tok),y::strValues ps=strValues ps'/\ps'.map (·.1)=(z::zs).map toS) fun t=>⟨(toS z,t)::ps,rfl,congrArg (toS z::·) e⟩) hw
theorem ZBO{b:List Nat}{ys:List (List Nat)}(h:(ys.map (·.length)).sum+ys.length*b.length<=sizeLine):JoinOk (toS b) (ys.map toS)=true:=by
 unfold JoinOk
 rw[StrLaws.joinTotal,Jp,List.length_map,List.map_map,show ((fun x:Str=>x.length)∘toS)=fun x=>x.length from funext Jp]
 unfold Builtin.Str.tooLong
 rw[decide_eq_false];· rfl
 exact Nat.not_lt.mpr h
theorem ZDf(z:List Nat)(t:Tok):Q7 c env (fun xs=>call (.builtin (Q0 .join)) (.str (toS z) t::xs) []) (fun U=>smV U .join z):=fun A U l v g s xs E Q hf R X N =>
 W4 (P:=fun l=>Vxs c env g s l xs->_) hf (fun a h X=>X.oneE fun x X=>UX (P:=fun x=>wpAny c.M A (call (.builtin (Q0 .join)) [.str (toS z) t,x] []) Q E s) R h X fun l a1 i1 n1 h hi1 hv1=>boE h fun ys hys h=>bdE h fun hb e=>by
  cases e
  obtain⟨ps,e1,e2⟩:=ZAy hys hv1
  have hi:=hi1.isList
  rw[show i1=(strValues ps).toArray from e1▸rfl] at hi
  refine Qi R.pos (SC.join hi e2 (ZBO hb) fun t' k ht=>?_)
  have e:Txt.join (toS z) (ys.map toS)=toS (QG z ys):=(StrLaws.glued_eq_join _ _).trans (KO z ys)
  rw[e]
  exact N.toks R (.str _ _) ht) X

theorem ZBg(z:List Nat)(t:Tok):Q7 c env (fun xs=>call (.builtin (Q0 .lower)) (.str (toS z) t::xs) []) (fun U=>smV U .lower z):=fun A U l v g s xs E Q hf R X N=>by
 cases l with
 |cons _ _=>exact nn hf
 |nil =>
  refine gdE hf fun h e=>bA h fun h1 h2=>?_
  cases e
  refine X.nilE (P:=fun xs=>wpAny c.M A (call (.builtin (Q0 .lower)) (.str (toS z) t::xs) []) Q E s) (SCL.lower (by rw[Jp];exact qE h2) fun J=>?_)
  have hA:∀ a∈z,a<128:=fun a ha=>qE (List.all_eq_true.mp h1 a ha)
  have e:Txt.lower (toS z)=toS (z.map lowC):=(lower_ascii (x:=toS z) (by rw[show (toS z).cps.toList=z from rfl];exact hA)).trans (congrArg Str.mk (List.map_toArray ..))
  rw[e]
  exact N.toks R (.str _ _)
theorem ZEE{e:Expr}{C:Ora}{me:ME}{a b:List Nat}{k1 k2 p1 p2 apos pos}(hc:Jz e=true)(hl:(apos.endLine==pos.line)=true)(H:JD c r env e (ev C me)):
  JD c r env (.Call (.Attribute e (UZ .replace) apos) [.Constant (.str (toS a)) k1 p1,.Constant (.str (toS b)) k2 p2] [] pos) (ev C (.sm .replace me [.k (.str a),.k (.str b)])):=fun J J J J J J J J hr hf R N=>bnE hf fun v U1a h1 h =>
 Um hc rfl hl (by decide:2<25) (H hr h1 R fun x s1a g1a R1a X1a E1a pl=>Qt (P:=fun v=>Vx c env g1a s1a v x->_) h (fun z h X1a=>boE (show bo (gd (!a.isEmpty&&(Nat.ble (z.length+(z.length+1)*b.length) 16777216&&!(a==b))) (some (V.str (QE a b (z.length+1) z)))) (fun w=>some (w,U1a))=some _ from h) fun w h5 h6=>gdE h5 fun h e=>bA h fun q1 h=>bA h fun q2 q3=>X1a.strE fun t=>by
  cases e
  have R':Rel c env g1a U1a { s1a with toks:=s1a.toks+1+1 }:=R1a.toks
  have hp:=R1a.pos
  refine BC (callWith_builtin rfl (UU (spliced_cons (Constant_str (spliced_cons (Constant_str (spliced_nil (Qi R'.pos (SC.replace (Nat.ne_of_gt hp) (Nat.succ_ne_zero _) (qP (xC _)) (by rw[NP];exact YQ q3) (by rw[Jp,Jp];exact qE q2) fun t' k ht=>?_)))))))))
  rw[ZAc (YQ q1)]
  exact Nxt.toks (((N.of h6).trans E1a).trans .toks) R' (.str _ _) ht) X1a)
end
def Jb(c:Cx)(r:Nat)(env:Env)(e:Expr)(f:St->Option (Bool×St)):Prop:=
 ∀ ⦃A:Around⦄ ⦃U:St⦄ ⦃b:Bool⦄ ⦃U':St⦄ ⦃g:Gh⦄ ⦃s:Shared⦄ ⦃E:Value->Shared->Prop⦄ ⦃Q:Bool->Shared->Prop⦄,
  JP A r->f U=some (b,U')->Rel c env g U s->Qh c env g s U' (Q b)->wpAny c.M A (PySem.isTrue e env (eval e env)) Q E s
noncomputable def ZH1:UnaryOp->Bool |.Not=>false |_=>true
def NT(e:Expr):Bool:=(ctt fun h=>Expr.UnaryOp.elim (motive_1:=fun J=>Bool) e h fun o J J=>ZH1 o)&&((ctt fun h=>Expr.BoolOp.elim (motive_1:=fun J=>Bool) e h fun J J J=>false)&&((ctt fun h=>Expr.IfExp.elim (motive_1:=fun J=>Bool) e h fun J J J J=>false)&&ctt fun h=>Expr.Compare.elim (motive_1:=fun J=>Bool) e h fun J J J J=>false))
theorem Tv{e:Expr}(h:NT e=true)(env:Env)(m:Sem Value):PySem.isTrue e env m=(do let v <- m;standAt e.pos;holding [v] (PySem.truthy v)):=by
 cases e with
 |UnaryOp op x p=>cases op<;>first |rfl |exact ff h
 |BoolOp _ _ _=>exact ff h
 |IfExp _ _ _ _=>exact ff h
 |Compare _ _ _ _=>exact ff h
 |_=>rfl
section
variable{c:Cx}{r:Nat}{env:Env}{A:Around}{U U' U1a:St}{g:Gh}{s:Shared}{E:Value->Shared->Prop}{Q:Value->Shared->Prop}{v:Mine.V}
variable{e e' l m rr t o:Expr}{es:List Expr}{C:Ora}{me ma mb ml mm mr mt mo:ME}{o1a o2a:Cmp}{pos:Pos}

theorem ZAw(hp:NT e=true)(H:JD c r env e (ev C me)):Jb c r env e (tst C me):=fun J J J J J J J J hr hf R N=>bnE hf fun v U1a h1 h=>boE h fun b h3 h4=>by
 rw[Tv hp]
 exact qB (xT (H hr h1 R fun x s1a g1a R1a X1a E1a=>qB (qX (qD (Yk h3 R1a X1a ((N.of (P:=_) h4).trans E1a))))) (fun x s1a h=>h) fun J J x=>x)
theorem UE{b:Bool}(h1:ev C me U=some (v,U1a))(h2:Mine.Jk U1a v=some b):tst C me U=some (b,U1a):=by unfold tst;rw[h1];show bo (Mine.Jk U1a v) _=_;rw[h2];rfl
theorem ZCn(H:Jb c r env e (tst C me)):Jb c r env (.UnaryOp .Not e pos) (tst C (.not me)):=fun J J J J J J J J hr hf R N=>bnE hf fun v U1a h1 h=>boE h fun b h3 h4=>bnE (show bn (ev C me _) (fun v U1a=>bo (Mine.Jk U1a v) fun b=>some (V.bool (!b),U1a))=some (v,U1a) from h1) fun w U2a h5 h6=>boE h6 fun b' h7 h8=>by
 cases h8
 cases h3
 exact isTrue_not (H hr (UE h5 h7) R fun s' g' R' E'=>N.of (P:=_) h4 s' g' R' E')
theorem ZCr(H:Jb c r env e (tst C ma))(H2:Jb c r env (.BoolOp .And es pos) (tst C mb)):Jb c r env (.BoolOp .And (e::es) pos) (tst C (.and ma mb)):=fun J U J J J J J J hr hf R N=>bnE hf fun v U1a h1 h=>boE h fun b h3 h4 =>
 bnE (show bn (ev C ma U) (fun v U1a=>bo (Mine.Jk U1a v) fun c=>match c with |false=>some (v,U1a) |true=>ev C mb U1a)=some (v,U1a) from h1) fun w U2a h5 h6=>boE h6 fun b' h7 h8=>isTrue_and (H hr (UE h5 h7) R fun s' g' R' E'=>by
  cases b' with
  |false=>cases h8;cases h7.symm.trans h3;exact N.of (P:=_) h4 s' g' R' E'
  |true=>exact H2 hr (UE h8 h3) R' ((N.of (P:=_) h4).trans E'))
theorem ZEp(H:Jb c r env e (tst C ma))(H2:Jb c r env (.BoolOp .Or es pos) (tst C mb)):Jb c r env (.BoolOp .Or (e::es) pos) (tst C (.or ma mb)):=fun J U J J J J J J hr hf R N=>bnE hf fun v U1a h1 h=>boE h fun b h3 h4 =>
 bnE (show bn (ev C ma U) (fun v U1a=>bo (Mine.Jk U1a v) fun c=>match c with |true=>some (v,U1a) |false=>ev C mb U1a)=some (v,U1a) from h1) fun w U2a h5 h6=>boE h6 fun b' h7 h8=>isTrue_or (H hr (UE h5 h7) R fun s' g' R' E'=>by
  cases b' with
  |true=>cases h8;cases h7.symm.trans h3;exact N.of (P:=_) h4 s' g' R' E'
  |false=>exact H2 hr (UE h8 h3) R' ((N.of (P:=_) h4).trans E'))
theorem ZBd{op:BoolOp}(H:Jb c r env e (tst C ma)):Jb c r env (.BoolOp op [e] pos) (tst C ma):=fun J J b J J J J J hr hf R N=>by
 cases op with
 |And=>exact wpAny_isTrue_BoolOp (wpAny_allTrue_And_cons (H hr hf R fun s' g' R' E'=>by
   have n:=N s' g' R' E'
   cases b
   ·exact n
   ·exact wpAny_allTrue_And_nil n))
 |Or=>exact wpAny_isTrue_BoolOp (wpAny_allTrue_Or_cons (H hr hf R fun s' g' R' E'=>by
   have n:=N s' g' R' E'
   cases b
   ·exact wpAny_allTrue_Or_nil n
   ·exact n))
theorem ZCo(H:Jb c r env t (tst C mt))(H2:Jb c r env e (tst C me))(H3:Jb c r env o (tst C mo)):Jb c r env (.IfExp t e o pos) (tst C (.ite mt me mo)):=fun J U J J J J J J hr hf R N=>bnE hf fun v U1a h1 h=>boE h fun b h3 h4 =>
 bnE (show bn (ev C mt U) (fun v U1a=>bo (Mine.Jk U1a v) fun c=>match c with |true=>ev C me U1a |false=>ev C mo U1a)=some (v,U1a) from h1) fun w U2a h5 h6=>boE h6 fun b' h7 h8=>isTrue_IfExp (H hr (UE h5 h7) R fun s' g' R' E'=>by
  cases b' with
  |true=>exact H2 hr (UE h8 h3) R' ((N.of (P:=_) h4).trans E')
  |false=>exact H3 hr (UE h8 h3) R' ((N.of (P:=_) h4).trans E'))

theorem ZG(hm:behindInMarks (JZ o1a) rr=false)(m:Sem Value):markedBehindIn (JZ o1a) rr m=m:=by unfold markedBehindIn;rw[hm]
theorem ZGj(hm:behindInMarks (JZ o1a) rr=false)(H:JD c r env l (ev C ml))(H2:JD c r env rr (ev C mr)):JD c r env (.Compare l [JZ o1a] [rr] pos) (ev C (.cmp o1a ml mr)):=fun J J J J J J J J hr hf R N=>bnE hf fun a U1a h1 h=>bnE h fun b U2a h3 h=>boE h fun q h5 h6=>by
 rw[arm_eval_Compare]
 refine qB (H hr h1 R fun x s1a g1a R1a X1a E1a=>?_)
 show wpAny _ _ (compareChain pos x [JZ o1a] [markedBehindIn (JZ o1a) rr (eval rr env)]) _ _ _
 rw[ZG hm]
 exact qB (qD (H2 hr h3 R1a fun y s2a g2a R2a X2a E2a=>qB (qX (wpAny_operating (GN hr h5 R2a (X1a.ext E2a) X2a fun t ht=>((N.of h6).trans (E1a.trans E2a)).toks R2a (.bool _) ht)))))
theorem ZCq(hm:behindInMarks (JZ o1a) rr=false)(H:JD c r env l (ev C ml))(H2:JD c r env rr (ev C mr)):Jb c r env (.Compare l [JZ o1a] [rr] pos) (tst C (.cmp o1a ml mr)):=fun J U J J J J J J hr hf R N=>bnE hf fun v U3a h0 h=>boE h fun b0 k1 k2 =>
 bnE (show bn (ev C ml U) (fun a U1a=>bn (ev C mr U1a) fun b U2a=>bo (XK U2a o1a a b) fun c=>some (V.bool c,U2a))=some (v,U3a) from h0) fun a U1a h1 h=>bnE h fun b U2a h3 h=>boE h fun q h5 h6=>by
  cases h6
  cases k1
  exact wpAny_isTrue_Compare1 (H hr h1 R fun x s1a g1a R1a X1a E1a=>H2 hr h3 R1a fun y s2a g2a R2a X2a E2a=>GN hr h5 R2a (X1a.ext E2a) X2a fun t ht=>wpAny_truthy_bool (N.of (P:=_) k2 _ g2a (R2a.toks ht) ((E1a.trans E2a).trans .toks))) hm

noncomputable def ZK(c:Cx)(f:Nat):Bool:=(findIn c.K (.ref (c.cA c.iD)) "__contains__"==some (some (.ref (c.fA f))))&&isFn c.K (.ref (c.fA f))
theorem Gu(O:c.Ok)(VV:EnvOk env){a b:Mine.V}{f:Nat}{x y:Value}(hn:ZK c f=true)(hI:c.I≠[])(HC:JO c r C)(hr:JP A r)(h:onFn b (fun b=>bn (C f [b,a] U) fun v U3a=>bo (U9 v) fun q=>some (.bool q,U3a))=some (v,U'))(R:Rel c env g U s)(X:Vx c env g s a x)(Y:Vx c env g s b y)
  (N:∀ q s' g',v=.bool q->Rel c env g' U' s'->Ext env g g' s s'->Q (.bool q) s'):wpAny c.M A (compareOp (JZ .inn) x y) Q E s:=
 OL (P:=fun b=>Vx c env g s b y->_) h (fun i h Y=>bnE h fun w U3a h1 h=>Y.fnE (by
  cases Nc O R hI with
  |mk o es k D he hf I =>
   refine bA hn fun q1 q2=>qB (qD (qB (qB (I.type.here ((looks_findIn R.kinD (bE q1)).here ?_)))))
   rw[if_neg (by exact ff)]
   exact qB (unlessNone_K R.kinD I (bE q1) q2 (NH (HC hr VV h1 R (.cons (.fn i) (.cons X .nil)) fun z s' g' R' X' E'=>G6 (P:=fun w=>Vx c env g' s' w z->_) h (fun q h X'=>X'.boolE (wpAny_truthy_bool (qC (by cases h;exact N q s' g' rfl R' E')))) X')))) ) Y
theorem ZGf(O:c.Ok)(VV:EnvOk env){f:Nat}(hm:behindInMarks (JZ .inn) rr=false)(hn:ZK c f=true)(hI:c.I≠[])(HC:JO c r C)(H:JD c r env l (ev C ml))(H2:JD c r env rr (ev C mr)):JD c r env (.Compare l [JZ .inn] [rr] pos) (ev C (.inf ml mr f)):=fun J J J J J J J J hr hf R N=>bnE hf fun a U1a h1 h=>bnE h fun b U2a h3 h=>by
 rw[arm_eval_Compare]
 refine qB (H hr h1 R fun x s1a g1a R1a X1a E1a=>?_)
 show wpAny _ _ (compareChain pos x [JZ .inn] [markedBehindIn (JZ .inn) rr (eval rr env)]) _ _ _
 rw[ZG hm]
 exact qB (qD (H2 hr h3 R1a fun y s2a g2a R2a X2a E2a=>qB (qX (wpAny_operating (Gu O VV hn hI HC hr h R2a (X1a.ext E2a) X2a fun q s' g' e R' E'=>N _ s' g' R' (e▸.bool _) (E1a.trans (E2a.trans E')))))))
theorem ZCp(O:c.Ok)(VV:EnvOk env){f:Nat}(hm:behindInMarks (JZ .inn) rr=false)(hn:ZK c f=true)(hI:c.I≠[])(HC:JO c r C)(H:JD c r env l (ev C ml))(H2:JD c r env rr (ev C mr)):Jb c r env (.Compare l [JZ .inn] [rr] pos) (tst C (.inf ml mr f)):=fun J U J J J J J J hr hf R N=>bnE hf fun v U3a h0 h=>boE h fun b0 k1 k2 =>
 bnE (show bn (ev C ml U) (fun a U1a=>bn (ev C mr U1a) fun b U2a=>onFn b fun b=>bn (C f [b,a] U2a) fun v U3a=>bo (U9 v) fun q=>some (V.bool q,U3a))=some (v,U3a) from h0) fun a U1a h1 h=>bnE h fun b U2a h3 h =>
  wpAny_isTrue_Compare1 (H hr h1 R fun x s1a g1a R1a X1a E1a=>H2 hr h3 R1a fun y s2a g2a R2a X2a E2a=>Gu O VV hn hI HC hr h R2a (X1a.ext E2a) X2a fun q s' g' e R' E'=>wpAny_truthy_bool (by
   subst e
   cases k1
   exact N.of (P:=_) k2 _ g' R' (E1a.trans (E2a.trans E')))) hm

noncomputable def ZG6{α:Type}(env:Env)(m rr:Expr)(o1a o2a:CmpOp)(pos:Pos)(x:Value)(last:Value->Value->Sem α)(no:Value->α):Sem α:=do
 let rv <- holding [x] (eval m env)
 standAt pos
 let c <- holding [x,rv] (compareOp o1a x rv)
 release [x,rv] [c]
 if <- holding [c,rv] (PySem.truthy c) then (do
  let rw <- holding [rv] (eval rr env)
  standAt pos
  last rv rw) else pure (no c)
theorem Bq{α:Type}{last:Value->Value->Sem α}{no:Value->α}{a:Mine.V}{x:Value}{w:Bool×St}{Q:α->Shared->Prop}(hr:JP A r)(H2:JD c r env m (ev C mm))(H3:JD c r env rr (ev C mr))(R:Rel c env g U s)(X:Vx c env g s a x)
  (h:bn (ev C mm U) (fun b U2a=>bo (QJ U2a o1a a b) fun c=>match c with |false=>some (false,U2a) |true=>bn (ev C mr U2a) fun d U3a=>bo (QJ U3a o2a b d) fun c=>some (c,U3a))=some w)
  (k1:w.1=false->∀ s' g',Rel c env g' w.2 s'->Ext env g g' s s'->Q (no (.bool false)) s') (k2:∀ s' g' y z,Rel c env g' w.2 s'->Ext env g g' s s'->(∀ (Q:Value->Shared->Prop),Q (.bool w.1) s'->wpAny c.M A (compareOp (JZ o2a) y z) Q E s')->wpAny c.M A (last y z) Q E s'):
  wpAny c.M A (ZG6 env m rr (JZ o1a) (JZ o2a) pos x last no) Q E s:=
 bnE h fun b U2a h3 h=>boE h fun q h5 h6=>qB (qD (H2 hr h3 R fun y s2a g2a R2a X2a E2a=>qB (qX (qB (qD (Nn hr h5 R2a (X.ext E2a) X2a (qB (wpAny_release (qB (qD (wpAny_truthy_bool (by
  cases q with
  |false=>cases h6;exact qC (k1 rfl _ _ R2a E2a)
  |true =>
   exact bnE h6 fun d U3a h7 h8=>boE h8 fun q2 h9 h10=>by
    cases h10
    exact qB (qD (H3 hr h7 R2a fun z s3a g3a R3a X3a E3a=>qB (qX (k2 _ _ y z R3a (E2a.trans E3a) fun Q hq=>Nn hr h9 R3a (X2a.ext E3a) X3a hq))))))))))))))))
theorem GP{a:Mine.V}{w:Mine.V×St}(h:bn (ev C mm U) (fun b U2a=>bo (QJ U2a o1a a b) fun c=>match c with |false=>some (V.bool false,U2a) |true=>bn (ev C mr U2a) fun d U3a=>bo (QJ U3a o2a b d) fun c=>some (V.bool c,U3a))=some w):
  ∃ q,w.1=.bool q/\bn (ev C mm U) (fun b U2a=>bo (QJ U2a o1a a b) fun c=>match c with |false=>some (false,U2a) |true=>bn (ev C mr U2a) fun d U3a=>bo (QJ U3a o2a b d) fun c=>some (c,U3a))=some (q,w.2):=
 bnE h fun b U2a h3 h=>boE h fun q h5 h6=>by
  rw[h3]
  show ∃ q',_/\bo (QJ U2a o1a a b) _=_
  rw[h5]
  cases q with
  |false=>cases h6;exact⟨false,rfl,rfl⟩
  |true=>exact bnE h6 fun d U3a h7 h8=>boE h8 fun q2 h9 h10=>by
              cases h10
              refine⟨q2,rfl,?_⟩
              show bn (ev C mr U2a) _=_
              rw[h7]
              show bo (QJ U3a o2a b d) _=_
              rw[h9];rfl
theorem ZEL(hm:behindInMarks (JZ o2a) rr=false)(H:JD c r env l (ev C ml))(H2:JD c r env m (ev C mm))(H3:JD c r env rr (ev C mr)):JD c r env (.Compare l [JZ o1a,JZ o2a] [m,rr] pos) (ev C (.cmp2 o1a o2a ml mm mr)):=fun J J J J J J J J hr hf R N=>bnE hf fun a U1a h1 h=>by
 obtain⟨q,e,h⟩:=GP h
 cases e
 rw[arm_eval_Compare]
 refine qB (H hr h1 R fun x s1a g1a R1a X1a E1a=>?_)
 show wpAny _ _ (compareChain pos x [JZ o1a,JZ o2a] [eval m env,markedBehindIn (JZ o2a) rr (eval rr env)]) _ _ _
 rw[ZG hm]
 exact Bq (last:=fun rv rw=>operate [rv,rw] (compareOp (JZ o2a) rv rw)) (no:=fun c=>c) hr H2 H3 R1a X1a h (fun e s' g' R' E'=>(N.trans (E1a.trans E')).same R' (by rw[show q=false from e];exact .bool _)) fun s' g' y z R' E' k=>wpAny_operating (k _ ((N.trans (E1a.trans E')).same R' (.bool _)))
theorem ZBe(hm:behindInMarks (JZ o2a) rr=false)(H:JD c r env l (ev C ml))(H2:JD c r env m (ev C mm))(H3:JD c r env rr (ev C mr)):Jb c r env (.Compare l [JZ o1a,JZ o2a] [m,rr] pos) (tst C (.cmp2 o1a o2a ml mm mr)):=fun J U b J J J J J hr hf R N=>bnE hf fun v U3a h0 h=>boE h fun b0 k1 k2 =>
 bnE (show bn (ev C ml U) _=some (v,U3a) from h0) fun a U1a h1 h=>by
  obtain⟨q,e,h⟩:=GP h
  cases e
  cases k1
  cases k2
  show wpAny _ _ (do testChain pos (<- eval l env) [JZ o1a,JZ o2a] [eval m env,markedBehindIn (JZ o2a) rr (eval rr env)]) _ _ _
  rw[ZG hm]
  exact qB (H hr h1 R fun x s1a g1a R1a X1a E1a=>Bq (last:=fun rv rw=>do
    let c <- operate [rv,rw] (compareOp (JZ o2a) rv rw)
    holding [c] (PySem.truthy c)) (no:=fun J=>false) hr H2 H3 R1a X1a h (fun e s' g' R' E'=>by have e:b=false:=e;subst e;exact N _ _ R' (E1a.trans E')) fun s' g' y z R' E' k=>qB (wpAny_operating (k _ (qD (wpAny_truthy_bool (N _ _ R' (E1a.trans E')))))))

theorem ZGX(H:JD c r env e (ev C me)):JD c r env (.UnaryOp .Not e pos) (ev C (.not me)):=fun J J J J J J J J hr hf R N=>bnE hf fun w U2a h5 h=>boE h fun b' h7 h8 =>
 wpAny_UnaryOp (H hr h5 R fun x s1a g1a R1a X1a E1a=>not_of (Yk h7 R1a X1a fun s' g' R' E'=>N.of h8 _ s' g' R' (.bool _) (E1a.trans E')))
theorem ZGZ(H:JD c r env e (ev C me)):JD c r env (.UnaryOp .USub e pos) (ev C (.neg me)):=fun J J J J J J J J hr hf R N=>bnE hf fun w U2a h5 h =>
 wpAny_UnaryOp (H hr h5 R fun x s1a g1a R1a X1a E1a=>QP (P:=fun w=>Vx c env g1a s1a w x->_) h (fun i h X1a=>ZFo R1a X1a ((N.of h).trans E1a)) X1a)
theorem ZEI{op:BoolOp}(H:JD c r env e (ev C ma)):JD c r env (.BoolOp op [e] pos) (ev C ma):=fun J J J J J J J J hr hf R N=>H hr hf R N
theorem ZGn(H:JD c r env e (ev C ma))(H2:JD c r env (.BoolOp .And (e'::es) pos) (ev C mb)):JD c r env (.BoolOp .And (e::e'::es) pos) (ev C (.and ma mb)):=fun J J J J J J J J hr hf R N=>bnE hf fun w U2a h5 h=>boE h fun b' h7 h8=>by
 rw[arm_eval_BoolOp]
 exact qB (H hr h5 R fun x s1a g1a R1a X1a E1a=>qB (qX (qB (qD (Yk h7 R1a X1a fun s' g' R' E'=>by
  cases b' with
  |false=>exact qC (N.of h8 _ s' g' R' (X1a.ext E') (E1a.trans E'))
  |true=>exact H2 hr h8 R' (N.trans (E1a.trans E')))))))
theorem ZIZ(H:JD c r env e (ev C ma))(H2:JD c r env (.BoolOp .Or (e'::es) pos) (ev C mb)):JD c r env (.BoolOp .Or (e::e'::es) pos) (ev C (.or ma mb)):=fun J J J J J J J J hr hf R N=>bnE hf fun w U2a h5 h=>boE h fun b' h7 h8=>by
 rw[arm_eval_BoolOp]
 exact qB (H hr h5 R fun x s1a g1a R1a X1a E1a=>qB (qX (qB (qD (Yk h7 R1a X1a fun s' g' R' E'=>by
  cases b' with
  |true=>exact qC (N.of h8 _ s' g' R' (X1a.ext E') (E1a.trans E'))
  |false=>exact H2 hr h8 R' (N.trans (E1a.trans E')))))))
theorem ZGc(H:Jb c r env t (tst C mt))(H2:JD c r env e (ev C me))(H3:JD c r env o (ev C mo)):JD c r env (.IfExp t e o pos) (ev C (.ite mt me mo)):=fun J J J J J J J J hr hf R N=>bnE hf fun w U2a h5 h=>boE h fun b' h7 h8 =>
 wpAny_IfExp (H hr (UE h5 h7) R fun s' g' R' E'=>by
  cases b' with
  |true=>exact H2 hr h8 R' (N.trans E')
  |false=>exact H3 hr h8 R' (N.trans E'))
end
noncomputable def Gh.hid(g:Gh)(D:Addr->Prop):Gh:={ g with X:=fun a=>g.X a\/D a }
section
variable{c:Cx}{r:Nat}{env:Env}{A:Around}{U U':St}{g g1a:Gh}{s s' s1a s2a:Shared}{E:Value->Shared->Prop}{Q:Value->Shared->Prop}{v:Mine.V}{D:Addr->Prop}

theorem Qu{h:Heap}{o a:Addr}{p:Obj}(e:h.get? a=some p)(ho:h.objs.size<=o):a≠o:=fun z=>xS _ (xH (xP e) (z▸ho))
theorem Kh{h:Heap}{o:Addr}(ho:h.objs.size<=o):∀ a p,h.get? a=some p->a≠o:=fun a p e=>Qu e ho
theorem Fz.hide{a:Addr}{o:Obj}(h:Fz env g s.heap a o)(k:∀ b o,s.heap.get? b=some o->s'.heap.get? b=some o)(hD:∀ a,D a->s.heap.objs.size<=a):Fz env (g.hid D) s'.heap a o:=
 ⟨k _ _ h.1,h.2.1,fun z=>z.elim h.2.2.1 fun d=>Qu h.1 (hD _ d) rfl,h.2.2.2⟩
theorem Vx.hide{v:Mine.V}{x:Value}(h:Vx c env g s v x)(k:∀ b o,s.heap.get? b=some o->s'.heap.get? b=some o)(hD:∀ a,D a->s.heap.objs.size<=a):Vx c env (g.hid D) s' v x:=
 h.mono (fun J J z=>z.hide k hD) fun J J z=>z
theorem Vxs.hide{v:List Mine.V}{x:List Value}(h:Vxs c env g s v x)(k:∀ b o,s.heap.get? b=some o->s'.heap.get? b=some o)(hD:∀ a,D a->s.heap.objs.size<=a):Vxs c env (g.hid D) s' v x:=
 h.mono (fun J J z=>z.hide k hD) fun J J z=>z
theorem Rel0.carry{g':Gh}{h h':Heap}(R:Rel0 c env g U h)(kF:∀ a o,Fz env g h a o->Fz env g' h' a o)(kW:∀ a o,g.W a->h.get? a=some o->h'.get? a=some o)
  (kN:∀ m,h.Ns env.locals m->h'.Ns env.locals m) (hW:g'.W=g.W) (hc:g'.cs=g.cs) (hX:∀ a,g'.X a->∃ o,h'.get? a=some o) (hd:∀ a,g'.X a->¬ g.W a):Rel0 c env g' U h':=by
 have kr:∀ i a,g.rho i=some a->g'.rho i=some a:=fun i a z=>by unfold Gh.rho at z ⊢;rw[hc];exact z
 obtain⟨m,hm,hl⟩:=R.loc
 exact⟨fun a o e=>kF _ _ (R.kin a o e),fun a e=>(R.wob a (hW▸e)).imp fun o z=>kW _ _ (hW▸e) z,hX,fun a (e:a=env.locals)=>e▸nsO (kN m hm),fun a e=>⟨fun z=>hd a z (hW▸e),(R.dis a (hW▸e)).2⟩,
  ⟨m,kN m hm,hl.mono kF kr⟩,fun id ob e=>(R.obs id ob e).imp fun r=>Exists.imp fun o z=>⟨hc▸z.1,z.2.mono kF kr fun p=>kW _ _ (R.cW _ _ _ z.1)⟩,fun id r o e=>hW▸R.cW id r o (hc▸e),fun id id' r o r' e e'=>R.inj id id' r o r' (hc▸e) (hc▸e'),fun k e=>hc▸R.nx k e,fun k e=>hc▸R.ps k e⟩
theorem Rel.hide(R:Rel c env g U s)(k:∀ b o,s.heap.get? b=some o->s'.heap.get? b=some o)(hD:∀ a,D a->s.heap.objs.size<=a)(hx:∀ a,D a->∃ o,s'.heap.get? a=some o)(hp:0<s'.toks):
  Rel c env (g.hid D) U s':=
 ⟨R.toRel0.carry (fun J J z=>z.hide k hD) (fun a o J e=>k _ _ e) (fun m hm=>hm.keeps k) rfl rfl (fun a z=>z.elim (fun z=>(R.xob a z).imp fun o e=>k _ _ e) (hx a))
  (fun a z w=>z.elim (R.dis a w).1 fun d=>(R.wob a w).elim fun J e=>Qu e (hD a d) rfl),hp⟩
theorem Rel.changed(R:Rel c env g1a U s1a)(hX:∀ a,D a->g1a.X a)(hs:∀ b p,¬ D b->s1a.heap.get? b=some p->s'.heap.get? b=some p)(he:∀ a,D a->∃ o,s'.heap.get? a=some o)(hfa:∀ a,D a->¬ FA env a)(hp:0<s'.toks):
  Rel c env g1a U s':=
 ⟨R.toRel0.carry (fun a o z=>⟨hs _ _ (fun d=>z.2.2.1 (hX _ d)) z.1,z.2⟩) (fun a o w e=>hs _ _ (fun d=>(R.dis a w).1 (hX a d)) e) (fun m hm=>hm.at fun p e=>hs _ _ (fun d=>hfa _ d rfl) e) rfl rfl
  (fun a x=>Classical.byCases (fun d:D a=>he a d) fun d=>(R.xob a x).imp fun o e=>hs _ _ d e) (fun a x w=>(R.dis a w).1 x),hp⟩
theorem Vx.changed{v:Mine.V}{x:Value}(h:Vx c env g1a s1a v x)(hX:∀ a,D a->g1a.X a)(hs:∀ b p,¬ D b->s1a.heap.get? b=some p->s'.heap.get? b=some p):Vx c env g1a s' v x:=
 h.mono (fun a o z=>⟨hs _ _ (fun d=>z.2.2.1 (hX _ d)) z.1,z.2⟩) fun J J z=>z
theorem Vxs.changed{v:List Mine.V}{x:List Value}(h:Vxs c env g1a s1a v x)(hX:∀ a,D a->g1a.X a)(hs:∀ b p,¬ D b->s1a.heap.get? b=some p->s'.heap.get? b=some p):Vxs c env g1a s' v x:=
 h.mono (fun a o z=>⟨hs _ _ (fun d=>z.2.2.1 (hX _ d)) z.1,z.2⟩) fun J J z=>z
theorem Rel.shown{X:Addr->Prop}(R:Rel c env g1a U s1a)(hX:∀ a,X a->g1a.X a):Rel c env { g1a with X:=X } U s1a:=
 ⟨R.toRel0.carry (fun a o z=>⟨z.1,z.2.1,fun x=>z.2.2.1 (hX a x),z.2.2.2⟩) (fun J J J e=>e) (fun J e=>e) rfl rfl (fun a x=>R.xob a (hX a x)) (fun a x w=>(R.dis a w).1 (hX a x)),R.pos⟩
theorem Vx.shown{X:Addr->Prop}{v:Mine.V}{x:Value}(h:Vx c env g1a s1a v x)(hX:∀ a,X a->g1a.X a):Vx c env { g1a with X:=X } s1a v x:=
 h.mono (fun a o z=>⟨z.1,z.2.1,fun x=>z.2.2.1 (hX a x),z.2.2.2⟩) fun J J z=>z
theorem Vxs.shown{X:Addr->Prop}{v:List Mine.V}{x:List Value}(h:Vxs c env g1a s1a v x)(hX:∀ a,X a->g1a.X a):Vxs c env { g1a with X:=X } s1a v x:=
 h.mono (fun a o z=>⟨z.1,z.2.1,fun x=>z.2.2.1 (hX a x),z.2.2.2⟩) fun J J z=>z
theorem Ext.hidden(k:∀ b o,s.heap.get? b=some o->s'.heap.get? b=some o)(hg:gos s'=gos s)(hD:∀ a,D a->s.heap.objs.size<=a)(x:Ext env (g.hid D) g1a s' s1a)
  (hs:∀ b p,¬ D b->s1a.heap.get? b=some p->s2a.heap.get? b=some p) (hg2:gos s2a=gos s1a):Ext env g { g1a with X:=g.X } s s2a:=
 ⟨fun a o e w f=>(x.fz a o (k _ _ e) w f).elim fun z w'=>⟨hs _ _ (fun d=>Qu e (hD a d) rfl) z,w'⟩,x.cs,rfl,hg2.trans (x.gens.trans hg)⟩

def ZJw(U:St):Id->Prop
 |.t k=>k<U.nx
 |.p k=>k∈U.ps
def Gh.add(g:Gh)(id:Id)(q o:Addr):Gh:={ g with W:=fun a=>g.W a\/a=o,cs:=fun i=>if i=id then some (q,o) else g.cs i }
theorem Gh.add_self{id:Id}{q o:Addr}:(g.add id q o).cs id=some (q,o):=if_pos rfl
theorem Gh.add_rho{id:Id}{q o:Addr}:(g.add id q o).rho id=some q:=by unfold Gh.rho;rw[Gh.add_self];rfl
theorem Gh.add_cs{id i:Id}{q o:Addr}(h:i≠id):(g.add id q o).cs i=g.cs i:=if_neg h
theorem Gh.add_old{id i:Id}{q o:Addr}{p:Addr×Addr}(hid:g.cs id=none)(e:g.cs i=some p):(g.add id q o).cs i=some p:=(Gh.add_cs fun q=>by rw[q,hid] at e;exact nn e).trans e
theorem Gh.add_mono{id i:Id}{q o a:Addr}(hid:g.cs id=none)(e:g.rho i=some a):(g.add id q o).rho i=some a:=by
 unfold Gh.rho at e ⊢
 cases h:g.cs i with
 |none=>rw[h] at e;exact nn e
 |some p=>rw[Gh.add_old hid h,<- h];exact e
structure Grows(U U':St)(id:Id)(ob:Ob):Prop where
 loc:U'.loc=U.loc
 hp:U'.hp=(id,ob)::U.hp
 nx:U.nx<=U'.nx
 ps:∀ k,k∈U.ps->k∈U'.ps
 in_:ZJw U' id
theorem Rel0.more{h h':Heap}{G:Gh}(R:Rel0 c env g U h){id:Id}{ob:Ob}{q o:Addr}(hGW:G.W=g.W)(hGc:G.cs=g.cs)(kF:∀ a p,Fz env g h a p->Fz env (G.add id q o) h' a p)(kW:∀ a p,g.W a->h.get? a=some p->h'.get? a=some p)
  (kN:∀ m,h.Ns env.locals m->h'.Ns env.locals m) (kX:∀ a,G.X a->∃ p,h'.get? a=some p) (kf:∀ a,FA env a->∃ p,h'.get? a=some p) (kd:∀ a,g.W a->¬ G.X a) (hWo:∀ a,g.W a->a≠o) (hXo:¬ G.X o) (hfo:¬ FA env o) (he:∃ p,h'.get? o=some p) (hid:g.cs id=none)
  (hob:(∀ i a,g.rho i=some a->(G.add id q o).rho i=some a)->ObR c env (G.add id q o) h' ob q o) (hU:Grows U U' id ob):Rel0 c env (G.add id q o) U' h':=by
 have hGid:G.cs id=none:=hGc▸hid
 have kr:∀ i a,g.rho i=some a->(G.add id q o).rho i=some a:=fun i a z=>Gh.add_mono hGid (by unfold Gh.rho at z ⊢;rw[hGc];exact z)
 refine⟨fun a o e=>kF _ _ (R.kin a o e),fun a e=>e.elim (fun w=>(R.wob a (hGW▸w)).imp fun p z=>kW _ _ (hGW▸w) z) (fun z=>z▸he),kX,kf,fun a e=>e.elim (fun w=>⟨kd a (hGW▸w),(R.dis a (hGW▸w)).2⟩) (fun (z:a=o)=>by subst z;exact⟨hXo,hfo⟩),
  R.loc.imp fun m z=>⟨kN m z.1,hU.loc▸z.2.mono kF kr⟩,fun id' ob' e=>?_,fun i r o' e=>?_,fun i i' r o' r' e e'=>?_,fun j e=>?_,fun j e=>?_⟩
 ·rw[hU.hp] at e
  rw[UH] at e
  by_cases hi:id=id'
  ·rw[if_pos hi] at e
   cases e
   exact⟨q,o,hi▸Gh.add_self,hob kr⟩
  ·rw[if_neg hi] at e
   exact(R.obs id' ob' e).imp fun r=>Exists.imp fun o' z=>⟨(Gh.add_cs (Ne.symm hi)).trans (hGc▸z.1),z.2.mono kF kr fun p=>kW _ _ (R.cW _ _ _ z.1)⟩
 ·by_cases hi:i=id
  ·rw[hi,Gh.add_self] at e;cases e;exact .inr rfl
  ·rw[Gh.add_cs hi,hGc] at e;exact .inl (hGW▸R.cW _ _ _ e)
 ·by_cases hi:i=id
  ·by_cases hi':i'=id
   ·exact hi.trans hi'.symm
   ·rw[hi,Gh.add_self] at e;rw[Gh.add_cs hi',hGc] at e';cases e;exact absurd rfl (hWo _ (R.cW _ _ _ e'))
  ·rw[Gh.add_cs hi,hGc] at e
   by_cases hi':i'=id
   ·rw[hi',Gh.add_self] at e';cases e';exact absurd rfl (hWo _ (R.cW _ _ _ e))
   ·rw[Gh.add_cs hi',hGc] at e';exact R.inj _ _ _ _ _ e e'
 ·rw[Gh.add_cs fun z=>Nat.not_lt.mpr e (by have:=hU.in_;rw[<- z] at this;exact this),hGc];exact R.nx j (qA hU.nx e)
 ·rw[Gh.add_cs fun z=>e (by have:=hU.in_;rw[<- z] at this;exact this),hGc];exact R.ps j fun z=>e (hU.ps _ z)
theorem Rel0.add{h h':Heap}(R:Rel0 c env g U h){id:Id}{ob:Ob}{q o:Addr}(K:Keep env (fun J=>False) h h')(ho:∀ a p,h.get? a=some p->a≠o)(he:∃ p,h'.get? o=some p)(hid:g.cs id=none)
  (hob:(∀ a p,Fz env g h a p->Fz env (g.add id q o) h' a p)->(∀ i a,g.rho i=some a->(g.add id q o).rho i=some a)->ObR c env (g.add id q o) h' ob q o)
  (hU:Grows U U' id ob):Rel0 c env (g.add id q o) U' h':=by
 have k:∀ b p,b≠env.locals->h.get? b=some p->h'.get? b=some p:=fun b p=>K.k b p not_false
 have kF:∀ a p,Fz env g h a p->Fz env (g.add id q o) h' a p:=fun a p z=>⟨k _ _ (fun e=>z.2.2.2 e) z.1,fun w=>w.elim z.2.1 (ho a p z.1),z.2.2⟩
 obtain⟨m,hm,-⟩:=R.loc
 have al:=K.alive hm fun a e=>e.elim
 exact R.more rfl rfl kF (fun a p w=>k _ _ (R.dis a w).2) K.ns (fun a e=>al a (R.xob a e)) (fun a e=>al a (R.fob a e)) (fun a w=>(R.dis a w).1) (fun a w=>(R.wob a w).elim fun p e=>ho a p e) (fun x=>(R.xob _ x).elim fun p e=>ho _ p e rfl) (fun x=>(R.fob _ x).elim fun p e=>ho _ p e rfl) he hid (hob kF) hU
theorem Ext.add{id:Id}{q o:Addr}(K:Keep env (fun J=>False) s.heap s'.heap)(ho:∀ a p,s.heap.get? a=some p->a≠o)(hid:g.cs id=none)(hg:gos s'=gos s):Ext env g (g.add id q o) s s':=
 ⟨fun a p e w f=>⟨K.k _ _ not_false (fun e=>f e) e,fun z=>z.elim w fun z=>ho a p e z⟩,fun i p e=>Gh.add_old hid e,rfl,hg⟩
theorem Rel0.live{h:Heap}{X:Addr->Prop}(R:Rel0 c env g U h){id:Id}{ob:Ob}{q o:Addr}(hX:∀ a,X a->g.X a)(ho:g.X o)(hn':¬ X o)(hfa:¬ FA env o)(hid:g.cs id=none)
  (hob:(∀ a p,Fz env g h a p->Fz env (({ g with X:=X }:Gh).add id q o) h a p)->(∀ i a,g.rho i=some a->(({ g with X:=X }:Gh).add id q o).rho i=some a)->ObR c env (({ g with X:=X }:Gh).add id q o) h ob q o)
  (hU:Grows U U' id ob):Rel0 c env (({ g with X:=X }:Gh).add id q o) U' h:=
 have kF:∀ a p,Fz env g h a p->Fz env (({ g with X:=X }:Gh).add id q o) h a p:=fun a p z=>⟨z.1,fun w=>w.elim z.2.1 fun e=>z.2.2.1 (e▸ho),fun x=>z.2.2.1 (hX a x),z.2.2.2⟩
 R.more (G:={ g with X:=X }) rfl rfl kF (fun J J J e=>e) (fun J e=>e) (fun a x=>R.xob a (hX a x)) R.fob (fun a w x=>(R.dis a w).1 (hX a x)) (fun a w e=>(R.dis a w).1 (e▸ho)) hn' hfa (R.xob o ho) hid (hob kF) hU
theorem Ext.live{X:Addr->Prop}{id:Id}{q o:Addr}{g0a:Gh}(x:Ext env g0a { g1a with X:=X } s s1a)(ho:∀ a p,s.heap.get? a=some p->a≠o)(hid:g1a.cs id=none):Ext env g0a (({ g1a with X:=X }:Gh).add id q o) s s1a:=
 ⟨fun a p e w f=>⟨(x.fz a p e w f).1,fun z=>z.elim (x.fz a p e w f).2 fun z=>ho a p e z⟩,fun i p e=>Gh.add_old (g:={ g1a with X:=X }) hid (x.cs i p e),x.X,x.gens⟩
end
theorem GB{C:Ora}:∀ {es:List ME} {U U':St} {vs:List Mine.V},evs C es U=some (vs,U')->vs.length=es.length:=by
 intro l0
 induction l0 with
 |nil =>
  intro _ _ _ h
  cases h;rfl
 |cons _ _ ih =>
  intro _ _ _ h
  exact bnE h fun v U1a h1 h=>bnE h fun vs U2a h3 h4=>by cases h4;exact congrArg (·+1) (ih h3)
section
variable{c:Cx}{r:Nat}{env:Env}{A:Around}{U U':St}{g g1a:Gh}{s s' s1a s2a:Shared}{E:Value->Shared->Prop}{Q:Value->Shared->Prop}{v:Mine.V}{D:Addr->Prop}

theorem Kk{lv:LV}{ob:Ob}{v:Mine.V}{h':Heap}{P:Mine.V->Prop}(h:U.alloc lv ob=some (v,U'))(hl:lv≠.frz)(R:Rel0 c env g U h')(k:∀ id,g.cs id=none->Grows U U' id ob->P (.obj id)):P v:=by
 cases lv with
 |frz=>exact absurd rfl hl
 |tmp=>cases h;exact k _ (R.nx _ (qF _)) ⟨rfl,rfl,xD _,fun J z=>z,xC _⟩
 |per n =>
  have h:(if n∈U.ps then none else some (Mine.V.obj (.p n),{ U with hp:=(.p n,ob)::U.hp,ps:=n::U.ps }))=some (v,U'):=h
  by_cases hk:n∈U.ps
  ·rw[if_pos hk] at h;exact nn h
  ·rw[if_neg hk] at h;cases h;exact k _ (R.ps _ hk) ⟨rfl,rfl,qF _,fun J z=>.tail _ z,.head _⟩
theorem Br{ob:Ob}{w:Mine.V}(h:U.alloc .frz ob=some (v,U'))(hw:ob.frz=some w):some (w,U)=some (v,U'):=by
 have h:bo ob.frz (fun v=>some (v,U))=some (v,U'):=h
 rw[hw] at h;exact h

theorem Nxt.list{lv:LV}{l:List Mine.V}{items:Array Value}{n:Nat}(h:U.alloc lv (.list l)=some (v,U'))(N:Nxt c env g s v U' Q)(R:Rel c env g U s)(hv:Vxs c env g s l items.toList):
  Q (.ref s.heap.objs.size) { s with heap:=s.heap.push { cls:=.type "list",dict:=none,data:=.seq items n,slots:=#[] } }:=by
 by_cases hl:lv=.frz
 ·subst hl
  exact(N.of (Br h rfl)).newList (t:=s.toks) R hv R.pos
 ·have hi:IsL (s.heap.push { cls:=.type "list",dict:=none,data:=.seq items n,slots:=#[] }) s.heap.objs.size items n:=qZ _ rfl
  exact Kk (P:=fun v=>Nxt c env g s v U' Q->_) h hl R.toRel0 (fun id hid hU N=>N _ { s with heap:=s.heap.push { cls:=.type "list",dict:=none,data:=.seq items n,slots:=#[] } } (g.add id s.heap.objs.size s.heap.objs.size)
   ⟨R.toRel0.add (ob:=.list l) (.grown (Qb _ _)) (Kh (qF _)) ⟨_,hi⟩ hid (fun k1 k2=>⟨rfl,items,n,hi,hv.mono k1 k2⟩) hU,R.pos⟩ (.obj Gh.add_rho) (Ext.add (.grown (Qb _ _)) (Kh (qF _)) hid rfl)) N

theorem Kd{n:Nat}(h:n<=1000):n<=sizeLine:=qA h (by rw[sizeLine_eq];decide)
theorem ZGa{es:List Expr}{C:Ora}{mes:List ME}{lv:LV}{pos}(hs:es.all Je=true)(hlen:mes.length<=1000)(H:J6 c r env es (evs C mes)):JD c r env (.List es pos) (ev C (.lst mes lv)):=fun J J J J J J J J hr hf R N=>bnE hf fun vs U1a h1 h2=>wpAny_List (by
 rw[UT hs]
 exact H hr h1 R fun xs s1a g1a R1a X1a E1a=>⟨by rw[<- X1a.length,GB h1];exact Kd hlen,Nxt.list h2 (N.trans E1a) R1a X1a⟩)
theorem ZGT{es:List Expr}{C:Ora}{mes:List ME}{k pos}(hs:es.all Je=true)(hlen:mes.length<=1000)(H:J6 c r env es (evs C mes)):JD c r env (.Tuple es k pos) (ev C (.tup mes)):=fun J J J J J J J J hr hf R N=>bnE hf fun vs U1a h1 h2=>wpAny_Tuple (by
 rw[UT hs]
 exact H hr h1 R fun xs s1a g1a R1a X1a E1a=>⟨by rw[<- X1a.length,GB h1];exact Kd hlen,((N.of h2).trans E1a).push (t:=s1a.toks) R1a (.tup (WS R1a rfl) rfl rfl (Vxs.push X1a)) R1a.pos⟩)

theorem KE{l:Addr}{items:Array Value}{n:Nat}{name:Str}{id:String}{pl:Sem Bool}{Q:Value×List Value->Shared->Prop}(hl:IsL s.heap l items n)(hs:Slot "list" name id)
  (ht:typeOf (.builtin id)=pure (.type "method_descriptor")) (h:Q (.builtin id,[.ref l]) s):wpAny c.M A (getMethod (.ref l) name pl) Q E s:=by
 have hT:s.TypeIs (.ref l) "list":=⟨_,hl,rfl⟩
 unfold getMethod
 refine qB (wpAny_specialOf hT list_getattribute ?_)
 show wpAny _ _ (if (Manifest.canonical "list.__getattribute__" != "object.__getattribute__")=true then _ else _) _ _ _
 rw[canon_list_getattribute,if_neg Bool.false_ne_true]
 exact qB (wpAny_specialOf hT list_getattr_none (qB (wpAny_specialOf hT hs.lookup (qB (wpAny_of_eq ht (qB (wpAny_load hl (qB (wpAny_rule (qC h))))))))))
theorem ZA9{x:Expr}(h:Je x=true):[x].all Je=true:=by rw[List.all_cons,h];rfl
theorem ZGm{e x:Expr}{C:Ora}{me mx:ME}{apos pos}(hc:Jz e=true)(hs:Je x=true)(hl:(apos.endLine==pos.line)=true)(H:JD c r env e (ev C me))(H2:JD c r env x (ev C mx)):
  JD c r env (.Call (.Attribute e ("append":Str) apos) [x] [] pos) (ev C (.app me mx)):=fun J J J J J J J J hr hf R N=>bnE hf fun v U1a h1 h =>
 Um hc (ZA9 hs) hl (by decide:1<25) (H hr h1 R fun a s1a g1a R1a X1a E1a pl=>Xb (P:=fun v=>Vx c env g1a s1a v a->_) h (fun id l0a ho0 h X1a=>bnE h fun y U2a h3 h=>X1a.objE fun b hb=>by
  obtain⟨items,n,hcs,hi,hv⟩:=Uo R1a ho0 hb
  exact KE hi slot_list_append type_list_append (P.append_list (H2 hr h3 R1a fun y' s2a g2a R2a X2a E2a=>boE (show bo (JA U2a.hp id) _=some _ from h) fun o ho h=>by
   cases o with
   |list l =>
    exact bdE h fun hb' h=>by
     obtain⟨items,n,hcs,hi,hv⟩:=Uo R2a ho (E2a.rho hb)
     obtain⟨R3a,E3a⟩:=Yv (f:=fun xs=>xs.push y') (l':=l++[y]) R2a hcs hi (by rw[Array.toList_push];exact hv.append (.cons X2a .nil))
     exact⟨items,n,by rw[Ji hv];exact hb',hi,N.of h _ _ _ R3a .none (E1a.trans (E2a.trans E3a))⟩
   |_=>exact nn h))) X1a)
theorem B2{id:Id}{l l':List Mine.V}{b:Addr}{items:Array Value}{n:Nat}{f:Array Value->Array Value}{y:Mine.V}{x:Value}{w:Option (Mine.V×St)}(R:Rel c env g U s)(hcs:g.cs id=some (b,b))(hi:IsL s.heap b items n)
  (hv:Vxs c env g s l' (f items).toList) (hx:Vx c env g s y x) (N:Nxt c env g s y (U.setOb id (.list l')) Q):Q x { s with heap:=s.heap.update b (Obj.mapSeq f) }:=by
 obtain⟨R3a,E3a⟩:=Yv (f:=f) R hcs hi hv
 exact N _ _ _ R3a (hx.ext E3a) E3a
theorem ZAm(items:Array Value):(items.eraseIdxIfInBounds (items.size-1)).toList=items.toList.take (items.toList.length-1):=by
 obtain⟨it⟩:=items
 rw[List.size_toArray,List.eraseIdxIfInBounds_toArray]
 exact List.eraseIdx_length_sub_one.trans List.dropLast_eq_take
theorem ZAM(items:Array Value):(items.eraseIdxIfInBounds 0).toList=items.toList.drop 1:=by
 obtain⟨it⟩:=items
 rw[List.eraseIdxIfInBounds_toArray]
 cases it<;>rfl
theorem ZEG{e:Expr}{C:Ora}{me:ME}{apos pos}(hc:Jz e=true)(hl:(apos.endLine==pos.line)=true)(H:JD c r env e (ev C me)):
  JD c r env (.Call (.Attribute e ("pop":Str) apos) [] [] pos) (ev C (.pop me [])):=fun J J J J J J J J hr hf R N=>bnE hf fun v U1a h1 h =>
 Um hc rfl hl (by decide:0<25) (H hr h1 R fun a s1a g1a R1a X1a E1a pl=>Xb (P:=fun v=>Vx c env g1a s1a v a->_) h (fun id l ho h X1a=>boE (show bo (Zy false l) _=some _ from h) fun p hp h=>X1a.objE fun b hb=>bdE hp fun hb' hp=>boE hp fun y hy hp=>by
  cases hp
  obtain⟨items,n,hcs,hi,hv⟩:=Uo R1a ho hb
  have hz:=Ji hv
  rw[List.getLast?_eq_getElem?] at hy
  obtain⟨x,hx,hxv⟩:=hv.get hy
  exact KE hi F.slot_list_pop F.type_list_pop (P.pop_list (y:=x) hi (by rw[hz,<- Array.getElem?_toList];exact hx) (B2 (f:=fun xs=>xs.eraseIdxIfInBounds (items.size-1)) (l:=l) (w:=none) R1a hcs hi (by rw[ZAm,<- hv.length,List.dropLast_eq_take];exact hv.take _) hxv ((N.of h).trans E1a)) (by rw[hz];exact hb'))) X1a)
theorem ZEF{e:Expr}{C:Ora}{me:ME}{k p apos pos}(hc:Jz e=true)(hl:(apos.endLine==pos.line)=true)(H:JD c r env e (ev C me)):
  JD c r env (.Call (.Attribute e ("pop":Str) apos) [.Constant (.int 0) k p] [] pos) (ev C (.pop me [.k (.int 0)])):=fun J J J J J J J J hr hf R N=>bnE hf fun v U1a h1 h =>
 Um hc rfl hl (by decide:1<25) (H hr h1 R fun a s1a g1a R1a X1a E1a pl=>Xb (P:=fun v=>Vx c env g1a s1a v a->_) h (fun id l ho h X1a=>boE (show bo (Zy true l) _=some _ from h) fun p hp h=>X1a.objE fun b hb=>by
  cases l with
  |nil=>exact nn hp
  |cons y l =>
   exact gdE hp fun hb' hp=>by
    cases hp
    obtain⟨items,n,hcs,hi,hv⟩:=Uo R1a ho hb
    have hz:=Ji hv
    obtain⟨x,hx,hxv⟩:=hv.get (i:=0) rfl
    refine KE hi F.slot_list_pop F.type_list_pop (P.pop_at_list (wpAny_Constant_int ⟨items,n,0,_,0,x,?_,rfl,hi,rfl,?_,by rw[<- Array.getElem?_toList];exact hx,?_⟩))
    ·rw[hz,<- Bd];exact qE hb'
    ·rw[hz];show (if (0<=(0:Int)&&decide ((0:Int)<((l.length+1:Nat):Int)))=true then some _ else none)=_
     rw[decide_eq_true (Int.natCast_pos.mpr (xF _))];rfl
    ·exact B2 (s:={ s1a with toks:=s1a.toks+1 }) (f:=fun xs=>xs.eraseIdxIfInBounds 0) (l:=l) (w:=none) R1a.toks hcs hi (by rw[ZAM];exact hv.drop 1) hxv (((N.of h).trans E1a).trans .toks)) X1a)

theorem ZCJ{x:Str}(O:c.Ok)(VV:EnvOk env){es:List Expr}{C:Ora}{mes:List ME}{np pos}(hs:es.all Je=true)(hk:env.kindOf x=some .globalImplicit)(hx:(x==("__debug__":Str))=false)
  (hd:Qq c x (.type "range")=true) (H2:J6 c r env es (evs C mes)):
  JD c r env (.Call (.Name x np) es [] pos) (ev C (.bi .range mes)):=fun J J J J J J J J hr hf R N=>bnE hf fun vs U1a h1 h=>boE h fun w h3 h4=>by
 rw[arm_eval_Call_Name',UT hs]
 refine qB (Name_function_global VV.kind hk (XP O VV hd R (PySem.callWith_type XR (UU (H2 hr h1 R fun xs s1a g1a R1a X1a E1a=>?_)))) hx)
 have X:=X1a
 cases vs with
 |nil=>exact nn h3
 |cons b vs =>
 cases vs with
 |nil=>exact X.oneE fun y X=>QP (P:=fun b=>Vx c env g1a s1a b y->_) (show onInt b (fun b=>some (V.rng 0 b))=some w from h3) (fun j h3 X=>by cases h3;exact X.intE fun t=>call_range_1 (((N.of h4).trans E1a).push R1a (.rng (WS R1a rfl)) (xF _))) X
 |cons b' vs =>
 cases vs with
 |cons _ _=>exact nn h3
 |nil=>exact X.twoE fun x y X Y=>YE (P:=fun x y=>wpAny c.M _ (call (.type "range") [x,y] []) _ _ s1a) (a:=b) (b:=b') (f:=fun a b=>some (V.rng a b)) h3 X Y fun i j t u e=>by cases e;exact call_range_2 (((N.of h4).trans E1a).push R1a (.rng (WS R1a rfl)) (xF _))
theorem ZBP{F:Addr->Obj->Prop}{ρ:Id->Option Addr}:∀ {l:List Mine.V} {ys:List Int} {xs:List Value},Uw l=some ys->VRs c F ρ l xs->numsOf xs=ys/\∀ v∈xs,∃ a t,v=.int a t:=by
 intro l0
 induction l0 with
 |nil =>
  intro _ _ h hv
  cases h;exact hv.nilE ⟨rfl,fun J h=>nomatch h⟩
 |cons _ _ ih =>
  intro ys xs h hv
  exact hv.consE (P:=fun xs=>numsOf xs=ys/\∀ v∈xs,∃ a t,v=.int a t) fun y xs hw hv=>W6 (P:=fun v=>VR c F ρ v y->numsOf (y::xs)=ys/\∀ v∈y::xs,∃ a t,v=.int a t) h (fun z h hw=>boE h fun zs h1 h2=>by
    cases h2
    obtain⟨a,b⟩:=ih h1 hv
    exact hw.intE (P:=fun y=>numsOf (y::xs)=z::zs/\∀ v∈y::xs,∃ a t,v=.int a t) fun t=>⟨congrArg (z::·) a,fun y hy=>(List.mem_cons.mp hy).elim (fun e=>⟨_,_,e⟩) (b y)⟩) hw
theorem ZGU{x:Str}(O:c.Ok)(VV:EnvOk env){es:List Expr}{C:Ora}{mes:List ME}{np pos}(hs:es.all Je=true)(hk:env.kindOf x=some .globalImplicit)(hx:(x==("__debug__":Str))=false)
  (hd:Qq c x (.builtin "sum")=true) (H2:J6 c r env es (evs C mes)):
  JD c r env (.Call (.Name x np) es [] pos) (ev C (.bi .sum mes)):=fun A J J J J J E Q hr hf R N=>bnE hf fun vs U1a h1 h=>boE h fun w h3 h4=>by
 rw[arm_eval_Call_Name',UT hs]
 refine qB (Name_function_global VV.kind hk (XP O VV hd R (callWith_builtin XR (UU (H2 hr h1 R fun xs s1a g1a R1a X1a E1a=>?_)))) hx)
 exact W4 (P:=fun l=>Vxs c env g1a s1a l xs->wpAny c.M A (call (.builtin "sum") xs []) Q E s1a) h3 (fun a h X=>X.oneE fun y X=>by
  cases a<;>first |exact nn h |skip
  exact boE h fun ys h5 h6=>by
   cases h6
   exact X.listE fun b items n f1 r1=>by
    obtain⟨e1,e2⟩:=ZBP h5 r1
    have hall:AllInts items:=fun v hv=>e2 v (Array.mem_toList_iff.mpr hv)
    obtain⟨zs,rfl⟩:=hall.items
    rw[nums_intItems] at e1
    refine Qi R1a.pos (sum_intListG hr.1 (IsL.isList f1.1) fun h' tk t' kk htk=>?_)
    rw[preSum_eq,List.take_of_length_le (by rw[List.length_map,Array.length_toList];exact qF _),e1]
    exact((N.of h4).trans E1a).grow R1a (s':={ s1a with heap:=h',toks:=tk }) kk rfl (.int _ _) htk) X1a
end
section
variable{c:Cx}{r:Nat}{env:Env}{A:Around}{U U':St}{g g1a:Gh}{s s' s1a s2a:Shared}{E:Value->Shared->Prop}{Q:Value->Shared->Prop}{v:Mine.V}{D:Addr->Prop}

inductive EvAll(c:Cx)(r:Nat)(env:Env)(C:Ora):List Expr->List ME->Prop
 |nil:EvAll c r env C [] []
 |cons {e:Expr} {es:List Expr} {me:ME} {mes:List ME}:JD c r env e (ev C me)->EvAll c r env C es mes->EvAll c r env C (e::es) (me::mes)
theorem EvAll.evs{C:Ora}{es:List Expr}{mes:List ME}(h:EvAll c r env C es mes):J6 c r env es (evs C mes):=
 EvAll.rec (motive:=fun es mes J=>J6 c r env es (Mine.evs C mes)) ZED (fun a J ih=>ZCI a ih) h

def Zl(o:Option Expr)(k:List Nat):Bool:=match o with
 |some e=>ctq fun h=>Expr.Constant.elim (motive_1:=fun J=>Bool) e h fun v J J=>ctq fun h=>Const.str.elim (motive:=fun J=>Bool) v h fun x=>x==toS k
 |none=>false
theorem K4{o:Option Expr}{k:List Nat}{P:Option Expr->Prop}(h:Zl o k=true)(f:∀ n p,P (some (.Constant (.str (toS k)) n p))):P o:=by
 cases o with
 |none=>exact ff h
 |some e =>
  exact Jf h fun q=>Expr.Constant.elim (motive_1:=fun e=>Zl (some e) k=true->P (some e)) e q (fun v n p h=>Jf (show (ctq fun h=>Const.str.elim (motive:=fun J=>Bool) v h fun x=>x==toS k)=true from h) fun q=>Const.str.elim (motive:=fun v=>Zl (some (.Constant v n p)) k=true->P (some (.Constant v n p))) v q (fun x h=>bE h▸f n p) h) h
noncomputable def W0:List (Option Expr)->List (List Nat)->Bool
 |[],ks=>ks.isEmpty
 |o::r,ks=>match ks with
  |[]=>false
  |k::ks=>Zl o k&&W0 r ks
noncomputable def UW(env:Env)(pos:Pos):List (Option Expr)->List Expr->List (Sem Value×Sem Value)
 |[],_=>[]
 |o::ks,es=>match o,es with
  |some k,e::es=>(eval k env,do let x <- eval e env;standAt pos;pure x)::UW env pos ks es
  |_,_=>[]
theorem Ts{pos:Pos}:∀ {keys:List (Option Expr)} {ks:List (List Nat)} {es:List Expr},W0 keys ks=true->(evalEachOpt keys env).zip ((evalEach es env).map fun v=>do let x <- v;standAt pos;pure x)=(UW env pos keys es).map fun p=>(some p.1,p.2):=by
 intro keys
 induction keys with
 |nil =>
  intro _ es _
  rfl
 |cons o keys ih =>
  intro ks es h
  cases ks with
  |nil=>exact ff h
  |cons k ks =>
   exact bA h fun h1 h2=>K4 (P:=fun o=>(evalEachOpt (o::keys) env).zip ((evalEach es env).map fun v=>do let x <- v;standAt pos;pure x)=(UW env pos (o::keys) es).map fun p=>(some p.1,p.2)) h1 fun n p=>by
     cases es with
     |nil=>rfl
     |cons e es=>exact congrArg (List.cons _) (ih (es:=es) h2)
theorem DW(k:List Nat)(t:Tok):(PySem.strKind c.prog c.w).is (toS k) (.str (toS k) t)=true:=beq_self_eq_true (toS k)
def YY(c:Cx)(r:Nat)(env:Env)(C:Ora)(pos:Pos)(E:Value->Shared->Prop)(es:List Expr)(mes:List ME):Prop:=∀ ⦃keys:List (Option Expr)⦄ ⦃ks:List (List Nat)⦄ ⦃A:Around⦄ ⦃U U':St⦄ ⦃vs:List Mine.V⦄ ⦃g:Gh⦄ ⦃s:Shared⦄ ⦃Q:List (Value×Value)->Shared->Prop⦄,
  W0 keys ks=true->ks.length=mes.length->JP A r->evs C mes U=some (vs,U')->Rel c env g U s ->
  (∀ ps kvs s' g',Carries (PySem.strKind c.prog c.w) ps kvs->kvs.map (·.1)=ks.map toS->Rel c env g' U' s'->Vxs c env g' s' vs (kvs.map (·.2))->Ext env g g' s s'->Q ps s') ->
  wpAny c.M A (evalPairs (UW env pos keys es)) Q E s
theorem ZA7{C:Ora}{pos:Pos}:YY c r env C pos E [] []:=fun keys ks J J J J g s Q hk hl J hf R hq=>by
 cases ks with
 |cons _ _=>exact nomatch hl
 |nil=>cases keys with
  |cons _ _=>exact ff hk
  |nil=>cases hf;exact evalPairs_nil (hq [] [] s g trivial rfl R .nil .refl)
theorem ZAe{C:Ora}{pos:Pos}{e:Expr}{es:List Expr}{m:ME}{mes:List ME}(a:JD c r env e (ev C m))(ih:YY c r env C pos E es mes):YY c r env C pos E (e::es) (m::mes):=fun keys ks J J J J g s Q hk hl hr hf R hq=>by
 cases ks with
 |nil=>exact nomatch hl
 |cons k ks=>cases keys with
  |nil=>exact ff hk
  |cons o keys =>
   exact bA hk fun h1 h2=>bnE hf fun v U1a k1 h=>bnE h fun vs' U2a k3 k4=>by
    cases k4
    exact K4 (P:=fun o=>wpAny c.M _ (evalPairs (UW env pos (o::keys) (e::es))) Q E s) h1 fun n p=>evalPairs_cons (Constant_str (qB (a hr k1 R.toks fun y s1a g1a R1a X1a E1a=>qB (qX (qC (ih h2 (Nat.succ.inj hl) hr k3 R1a fun ps kvs s2a g2a hc he R2a X2a E2a =>
     hq _ ((toS k,y)::kvs) s2a g2a ⟨DW k _,rfl,hc⟩ (congrArg (toS k::·) he) R2a (.cons (X1a.ext E2a) X2a) (Ext.toks.trans (E1a.trans E2a))))))))
theorem ZBp{C:Ora}{pos:Pos}{es:List Expr}{mes:List ME}(H:EvAll c r env C es mes):YY c r env C pos E es mes:=EvAll.rec (motive:=fun es mes J=>YY c r env C pos E es mes) ZA7 (fun a J ih=>ZAe a ih) H

theorem ZHJ(O:c.Ok)(R:Rel0 c env g U h):3<h.objs.size:=O.big.elim fun o e=>xP (R.kin 3 o e).1
theorem ZAx{ks:List (List Nat)}(h:ks.Nodup):(ks.map toS).Nodup:=by
 rw[List.nodup_iff_pairwise_ne,List.pairwise_map]
 exact h.imp fun a e=>a (Ur e)
theorem ZA8{C:Ora}{pos:Pos}{es:List Expr}{mes:List ME}(H:EvAll c r env C es mes):∀ keys:List (Option Expr),(UW env pos keys es).length<=mes.length:=
 EvAll.rec (motive:=fun es mes J=>∀ keys:List (Option Expr),(UW env pos keys es).length<=mes.length) (fun keys=>by cases keys with |nil=>exact qG _ |cons o _=>cases o<;>exact qG _)
  (fun J J ih keys=>by cases keys with |nil=>exact qG _ |cons o keys=>cases o with |none=>exact qG _ |some _=>exact qJ (ih keys)) H
theorem ZBq{C:Ora}{pos:Pos}{keys:List (Option Expr)}{ks:List (List Nat)}{es:List Expr}{mes:List ME}(H:EvAll c r env C es mes)(hk:W0 keys ks=true)(hl:ks.length=mes.length)(hne:mes≠[]):UW env pos keys es≠[]:=by
 cases H with
 |nil=>exact absurd rfl hne
 |cons a b=>cases keys with
  |nil=>cases ks with
   |nil=>exact nomatch hl
   |cons _ _=>exact ff hk
  |cons o keys=>cases ks with
   |nil=>exact ff hk
   |cons k ks=>exact bA hk fun h1 J=>K4 (P:=fun o=>UW env pos (o::keys) (_::_)≠[]) h1 fun J J=>List.cons_ne_nil _ _
noncomputable def YU:Obj:={ cls:=.type "dict",data:=.dict #[] }
theorem Nxt.dict(O:c.Ok){lv:LV}{ks:List (List Nat)}{vs:List Mine.V}{kvs:List (Str×Value)}{h':Heap}{t:Nat}{U0a:St}(h:U.alloc lv (.dict ks vs)=some (v,U'))(N:Nxt c env g s v U' Q)(R:Rel c env g U0a s)
  (R1a:Rel c env g1a U s1a) (E1a:Ext env (g.hid (·=s.heap.objs.size)) g1a { s with heap:=s.heap.push YU } s1a) (X1a:Vxs c env g1a s1a vs (kvs.map (·.2))) (he:kvs.map (·.1)=ks.map toS) (hd:h'.DictOf (PySem.strKind c.prog c.w) s.heap.objs.size kvs)
  (hs:Heap.SameBut s.heap.objs.size s1a.heap h'):Q (.ref s.heap.objs.size) { s1a with heap:=h',toks:=s1a.toks+t }:=by
 have fr:=Kg R
 have hXd:∀ a,a=s.heap.objs.size->g1a.X a:=fun a e=>by rw[E1a.X];exact .inr e
 have hXg:∀ a,g.X a->g1a.X a:=fun a e=>by rw[E1a.X];exact .inl e
 obtain⟨o,ho,hod⟩:=Heap.dictOf_iff.mp hd
 have hs':∀ b p,¬ b=s.heap.objs.size->s1a.heap.get? b=some p->h'.get? b=some p:=fun b p e z=>(hs.2 b e).trans z
 have R2a:Rel c env g1a U { s1a with heap:=h',toks:=s1a.toks+t }:=R1a.changed (D:=(·=s.heap.objs.size)) hXd hs' (fun a e=>e▸⟨o,ho⟩) (fun a e=>e▸fr.2.2) (xH R1a.pos (qK _ _))
 have X2a:Vxs c env g1a { s1a with heap:=h',toks:=s1a.toks+t } vs (kvs.map (·.2)):=X1a.changed (D:=(·=s.heap.objs.size)) hXd hs'
 have E2a:Ext env g { g1a with X:=g.X } s { s1a with heap:=h',toks:=s1a.toks+t }:=Ext.hidden (s':={ s with heap:=s.heap.push YU }) (D:=(·=s.heap.objs.size)) (Qb _ _) rfl (fun a e=>e▸qF _) E1a hs' rfl
 have hsm:(s.heap.objs.size==sysModules)=false:=beq_false_of_ne fun e=>by
  have:=ZHJ O R.toRel0
  rw[e] at this
  exact absurd this (by decide)
 by_cases hlv:lv=.frz
 ·subst hlv
  exact N.of (Br h rfl) _ _ _ (R2a.shown hXg) (.dict ⟨ho,fun w=>(R2a.dis _ w).1 (hXd _ rfl),fr.2.1,fr.2.2⟩ hod he (X2a.shown hXg) hsm) E2a
 ·exact Kk (P:=fun v=>Nxt c env g s v U' Q->_) h hlv R2a.toRel0 (fun id hid hU N=>N _ _ _ ⟨R2a.toRel0.live (ob:=.dict ks vs) hXg (hXd _ rfl) fr.2.1 fr.2.2 hid (fun k1 k2=>⟨rfl,hsm,kvs,hd,he,X2a.mono k1 k2⟩) hU,R2a.pos⟩ (.obj Gh.add_rho) (Ext.live E2a (Kh (qF _)) hid)) N
theorem ZGi(O:c.Ok){keys:List (Option Expr)}{ks:List (List Nat)}{es:List Expr}{C:Ora}{mes:List ME}{lv:LV}{pos}(hk:W0 keys ks=true)(hl:ks.length=mes.length)(hl2:mes.length<=15)(hne:mes≠[])(H:EvAll c r env C es mes):
  JD c r env (.Dict keys es pos) (ev C (.dct ks mes lv)):=fun J J J J g s J J hr hf R N=>bnE hf fun vs U1a h1 h=>gdE h fun hn h2=>bA hn fun J hn=>by
 have P:=WS R (o:=YU) rfl
 have R0:Rel c env (g.hid (·=s.heap.objs.size)) _ { s with heap:=s.heap.push YU }:=R.hide (Qb s.heap YU) (fun a e=>e▸qF _) (fun a e=>⟨_,e▸P.1⟩) R.pos
 refine wpAny_Dict_pairs (knd:=PySem.strKind c.prog c.w) (Ts hk) (ZBq H hk hl hne) (qA (ZA8 H keys) hl2) (ZBp H hk hl hr h1 R0 fun ps kvs s1a g1a hc he R1a X1a E1a=>⟨kvs,hc,?_,fun h' hd hs=>?_⟩)
 ·have e3:=(E1a.fz _ _ P.1 P.2.1 P.2.2.2).1
  obtain⟨o,e1,e2⟩:=Heap.dictOf_iff.mp (Heap.DictOf.new (knd:=PySem.strKind c.prog c.w) s.heap)
  cases P.1.symm.trans e1
  exact Heap.dictOf_iff.mpr ⟨_,e3,e2⟩
 ·rw[merged_nil_of_nodup kvs (by rw[he];exact ZAx (qH hn))] at hd
  exact Nxt.dict O h2 N R R1a E1a X1a he hd hs
end
noncomputable def ZE(h:Heap)(d L:Addr):List (Addr×Obj):=(List.range h.objs.size).filterMap fun a=>if a=d\/a=L then none else (h.get? a).map (a,·)
theorem Wi{h:Heap}{d L a:Addr}{o:Obj}:(a,o)∈ZE h d L ↔ h.get? a=some o/\a≠d/\a≠L:=by
 unfold ZE
 rw[List.mem_filterMap]
 constructor
 ·rintro ⟨b,hb,e⟩
  by_cases hn:b=d\/b=L
  ·rw[if_pos hn] at e;exact nn e
  ·rw[if_neg hn] at e
   obtain⟨o',ho,e⟩:=Option.map_eq_some_iff.mp e
   cases e
   exact⟨ho,fun q=>hn (.inl q),fun q=>hn (.inr q)⟩
 ·rintro ⟨ho,h1,h2⟩
  exact⟨a,List.mem_range.mpr (xP ho),by rw[if_neg (fun q=>q.elim h1 h2),ho];rfl⟩
section
variable{c:Cx}{r:Nat}{env:Env}{A:Around}{U U':St}{g g1a:Gh}{s s' s1a s2a:Shared}{E:Value->Shared->Prop}{Q:Value->Shared->Prop}{v:Mine.V}{D:Addr->Prop}

theorem FsR.len{F:Addr->Obj->Prop}{ρ:Id->Option Addr}{fs:List (Nat×Mine.V)}{es:List DictEntry}(h:FsR c F ρ fs es):fs.length=es.length:=
 FsR.rec (motive:=fun fs es J=>fs.length=es.length) rfl (fun J J J ih=>congrArg (·+1) ih) h
theorem FsR.put(O:c.Ok){F:Addr->Obj->Prop}{ρ:Id->Option Addr}{fs:List (Nat×Mine.V)}{es:List DictEntry}(h:FsR c F ρ fs es){n:Nat}{x:Value}{hs:Int}{t:Tok}(hv:VR c F ρ v x):
  FsR c F ρ (Mine.put fs n v) (putL (c.nm n) hs (.str (c.nm n) t) x es):=
 FsR.rec (motive:=fun fs es J=>FsR c F ρ (Mine.put fs n v) (putL (c.nm n) hs (.str (c.nm n) t) x es)) (.cons rfl hv .nil) (fun {n' w fs e es t'} hk hw hr ih=>by
  have e:=DB hk n
  rw[OH]
  unfold putL
  by_cases hn:n'=n
  ·rw[if_pos hn,if_pos (by rw[e,hn];exact beq_self_eq_true _)]
   exact .cons hk hv hr
  ·rw[if_neg hn,if_neg (by rw[e];exact fun q=>hn (O.inj _ _ (bE q)))]
   exact .cons hk hw ih) h
theorem ZDF(n:Nat)(v:Mine.V):∀ fs:List (Nat×Mine.V),(Mine.put fs n v).length<=fs.length+1:=fun l0=>by
 induction l0 with
 |nil =>
  exact qF _
 |cons p0 fs ih =>
  obtain⟨a,b⟩:=p0
  rw[OH]
  by_cases h:a=n
  ·rw[if_pos h];exact xD _
  ·rw[if_neg h];exact qJ (ih)
theorem FsR.get_some(O:c.Ok){F:Addr->Obj->Prop}{ρ:Id->Option Addr}{fs:List (Nat×Mine.V)}{es:List DictEntry}(h:FsR c F ρ fs es)(n k:Nat):(PySem.W.lookIn (c.nm n) (dictOf es k)).isSome=true:=by
 cases q:Mine.JA fs n with
 |some v=>obtain⟨x,e,-⟩:=h.lookIn_some O (k:=k) q;rw[e];rfl
 |none=>rw[h.lookIn_none O q];rfl

theorem Yf(O:c.Ok){n C:Nat}{o v:Mine.V}{x y:Value}{Q:Unit->Shared->Prop}(hn:QD c C n=true)(hf:Mine.Wq U n C o v=some U')(R:Rel c env g U s)(X:Vx c env g s o x)(Y:Vx c env g s v y)
  (N:∀ s',Rel c env g U' s'->Ext env g g s s'->Q () s'):wpAny c.M A (PySem.setAttr x (c.nm n) y) Q E s:=
 WL (P:=fun o=>Vx c env g s o x->_) hf (fun id fs ho h X=>gdE h fun hlen h=>X.objE fun a ha=>by
  cases h
  have hlen:fs.length<400:=Nat.lt_of_succ_le (qE hlen)
  have hput:=ZDF n v fs
  obtain⟨q,hc,HO⟩:=WR R ho ha
  obtain⟨hC,-,hz,es,k,he,hfs⟩:=HO
  have D:=O.clsOf hC
  obtain⟨m,hm,-⟩:=R.loc
  have hq:q≠env.locals:=fun e=>(R.dis q (R.cW _ _ _ hc)).2 e
  have F:Fr {} env.locals s.heap m:=⟨hm,fun b o e=>absurd (xP e) (xK _),qG _⟩
  have N0:News {} env.locals s.heap ((q,dictOf es k)::ZE s.heap q env.locals):=fun p hp=>(List.mem_cons.mp hp).elim (fun e=>by subst e;exact⟨he,hq,rfl⟩) fun hp=>let z:=Wi.mp (show (p.1,p.2)∈_ from hp);⟨z.1,z.2.2,rfl⟩
  have ht:takerIn c.K (c.cA C) (c.nm n)=some none:=by unfold takerIn;rw[Cls.usual hn];rfl
  refine set_plain R.kinD (ox:=instObj (c.cA C) q) (C:=c.cA C) (od:=some (dictOf es k)) ⟨hz.1,rfl,rfl,he⟩ D.sa ?_
  refine osa_dict (s:={ s with toks:=s.toks+1 }) (pre:=[]) (es:=putL (c.nm n) (PyData.keyHash c.w.params (c.nm n)) (.str (c.nm n) (s.toks+1)) y es) F N0 R.kinD (ox:=instObj (c.cA C) q) ⟨hz.1,rfl,rfl,he⟩ rfl D.over ht D.dict (hfs.get_some O n k) (fun p hp=>nomatch hp) (fun p hp=>(Wi.mp (show (p.1,p.2)∈_ from hp)).2.1)
   (putName_dict _ _ _ _ _ _) rfl (by rw[<- (hfs.put O Y).len];exact qA hput (qA (qJ (xG hlen)) (by decide:401<=1000))) fun h' F' N'=>?_
  have K:Keep env (·=q) s.heap h':=.of_ns (fun b p hb hl e=>(N' (b,p) (.tail _ (Wi.mpr ⟨e,hb,hl⟩))).1) hm F'.ns
  have hd:=(N' _ (.head _)).1
  exact N _ ⟨R.toRel0.setOb hc K ⟨_,hd⟩ fun kF=>⟨hC,qA hput (qA (qJ (xG hlen)) (by decide:401<=500)),kF _ _ hz,_,_,hd,(hfs.put O Y).mono kF fun J J z=>z⟩,xF _⟩ (Ext.setOb (R.cW _ _ _ hc) K rfl)) X
end
section
variable{c:Cx}{r:Nat}{env:Env}{A:Around}{U U' U1a:St}{g g1a:Gh}{s s' s1a s2a:Shared}{E:Value->Shared->Prop}{Q:Value->Shared->Prop}{v:Mine.V}{D:Addr->Prop}

theorem Dd:isSeqSlot (some (.builtin "list.__iadd__"))=true:=by decide +kernel
theorem ZAL:fillsInplaceSlot (.type "list") "add" true=pure false:=by
 unfold fillsInplaceSlot
 show (typeLookup (.type "list") (dunderI "add") >>= fun fi=>pure (fi.isSome&&!isSeqSlot fi))=pure false
 rw[F.slot_list_iadd.lookup]
 show (pure (_&&!isSeqSlot _):Sem Bool)=_
 rw[Dd];rfl
theorem Tr:seqSlot? (.type "list") (dunderI "add")=pure (some (.builtin "list.__iadd__")):=by
 unfold seqSlot?
 rw[F.slot_list_iadd.lookup]
 rw[pure_bind,Dd];rfl
theorem ZBS{l b:Addr}{items items2:Array Value}{n n2:Nat}(hl:IsL s.heap l items n)(hb:IsL s.heap b items2 n2)(hz:items.size+items2.size<=sizeLine)
  (h:Q (.ref l) { s with heap:=s.heap.update l (Obj.mapSeq fun x=>x++items2) }):wpAny c.M A (inplaceOp .Add (.ref l) (.ref b)) Q E s:=by
 have ha:s.TypeIs (.ref l) "list":=⟨_,hl,rfl⟩
 have hb':s.TypeIs (.ref b) "list":=⟨_,hb,rfl⟩
 have hzl:=Nat.not_lt.mpr hz
 delta inplaceOp;dsimp only
 refine qD (qB (wpAny_typeOf ha (qB (wpAny_of_eq ZAL ?_))))
 show wpAny _ _ (if false=true then _ else _) _ _ _
 rw[if_neg Bool.false_ne_true]
 refine qB (binaryOp1_none (nm:="add") ha hb' PySem.noFill_list_add (qB (wpAny_of_eq Tr (qB (wpAny_rule ?_)))))
 exact call_meets F.slot_list_iadd ha F.entry_list_iadd (F.args_list_iadd_2 _ _) (AutoSeq1.list___iadd___list_list_0 l items n b items2 n2 (by
  unfold Builtin.List.listTooLong
  exact fun q=>hzl (qH (Bool.and_eq_true_iff.mp q).2)) (qA (qK _ _) hz) (xO hz)) ⟨hl,hb,h⟩
noncomputable def U8:Bop->Operator
 |.add=>.Add |.sub=>.Sub |.mul=>.Mult |.fdiv=>.FloorDiv |.mod=>.Mod
theorem ZDh{o:Bop}{i:Int}{b w:Mine.V}{x y:Value}(ho:o=.add\/o=.sub)(hf:Jn U o (.int i) b=some w)(R:Rel c env g U s)(hx:Vx c env g s (.int i) x)(hy:Vx c env g s b y)(N:Nxt c env g s w U Q):wpAny c.M A (inplaceOp (U8 o) x y) Q E s:=by
 rcases ho with rfl |rfl
 ·exact QP (P:=fun b=>Vx c env g s b y->_) (show onInt b (fun b=>some (V.int (i+b)))=some w from hf) (fun j h hy=>by cases h;exact hx.intE (P:=fun x=>wpAny c.M A (inplaceOp .Add x y) Q E s) fun t=>hy.intE (P:=fun y=>wpAny c.M A (inplaceOp .Add _ y) Q E s) fun u=>PyProof.Rows.iadd_int (N.toks R (.int _ _))) hy
 ·exact YE (P:=fun x y=>wpAny c.M A (inplaceOp .Sub x y) Q E s) (a:=.int i) (b:=b) (f:=fun a b=>some (V.int (a-b))) hf hx hy fun i j t u e=>by cases e;exact P.isub_int (N.toks R (.int _ _))
theorem ZDg{o:Bop}{z:List Nat}{b w:Mine.V}{x y:Value}(ho:o=.add\/o=.sub)(hf:Jn U o (.str z) b=some w)(R:Rel c env g U s)(hx:Vx c env g s (.str z) x)(hy:Vx c env g s b y)(N:Nxt c env g s w U Q):wpAny c.M A (inplaceOp (U8 o) x y) Q E s:=by
 rcases ho with rfl |rfl
 ·exact Qt (P:=fun b=>Vx c env g s b y->_) (show onStr b (fun b=>bd (z.length+b.length) (some (V.str (z++b))))=some w from hf) (fun w h hy=>bdE h fun hl e=>by
   cases e
   exact hx.strE (P:=fun x=>wpAny c.M A (inplaceOp .Add x y) Q E s) fun t=>hy.strE (P:=fun y=>wpAny c.M A (inplaceOp .Add _ y) Q E s) fun u=>Qi R.pos (PyProof.Rows.iadd_str (fun t' tk ht=>Yl z w▸N.toks R (.str _ _) ht) (by rw[Jp,Jp];exact hl))) hy
 ·exact nn hf
set_option tactic.hygienic false in
theorem Nb{o:Bop}{a b w:Mine.V}{x y:Value}(ho:o=.add\/o=.sub)(hf:YR U o a b=some (w,U'))(R:Rel c env g U s)(hx:Vx c env g s a x)(hy:Vx c env g s b y)(N:Nxt c env g s w U' Q):wpAny c.M A (inplaceOp (U8 o) x y) Q E s:=by
 cases a with
 |int i=>exact boE (show bo (Jn U o (.int i) b) (fun w=>some (w,U))=some (w,U') from hf) fun u h1 h2=>ZDh ho h1 R hx hy (N.of h2)
 |str z=>exact boE (show bo (Jn U o (.str z) b) (fun w=>some (w,U))=some (w,U') from hf) fun u h1 h2=>ZDg ho h1 R hx hy (N.of h2)
 |obj id =>
  refine gdE (show gd (decide (o=.add)) (onList U (.obj id) fun id l=>onListOf U b fun l'=>bd (l.length+l'.length) (some (V.obj id,U.setOb id (.list (l++l')))))=some (w,U') from hf) fun h1 h=>boE (show bo (JA U.hp id) _=some (w,U') from h) fun ob hob h=>?_
  cases qH h1
  cases ob<;>first |exact nn h |skip
  exact hx.objE (P:=fun x=>wpAny c.M A (inplaceOp .Add x y) Q E s) fun a1 ha=>UX (P:=fun y=>wpAny c.M A (inplaceOp .Add _ y) Q E s) R h hy fun l' a2 i2 n2 h hi2 hv2=>bdE h fun hz e=>by
   obtain⟨i1,n1,hcs,hi1,hv1⟩:=Uo R hob ha
   obtain⟨R3a,E3a⟩:=Yv (f:=fun x=>x++i2) (l':=l++l') R hcs hi1 (by rw[Array.toList_append];exact hv1.append hv2)
   exact ZBS hi1 hi2 (by rw[Ji hv1,Ji hv2];exact hz) (N.of e _ _ _ R3a (.obj (E3a.rho ha)) E3a)
 |_=>exact nn hf

theorem Q3.set(O:c.Ok){F:Addr->Obj->Prop}{ρ:Id->Option Addr}{loc:List (Nat×Mine.V)}{m m':Str->Option Value}{n:Nat}{v:Mine.V}{x:Value}(hk:env.kindOf (c.nm n)=some .local)(h:Q3 c env F ρ loc m)(X:VR c F ρ v x)(h1:m' (c.nm n)=some x)(h2:∀ y,y≠c.nm n->m' y=m y):Q3 c env F ρ (put loc n v) m':=fun n' v' e=>by
 rw[Qj] at e
 by_cases hnn:n=n'
 ·rw[if_pos hnn] at e
  cases e
  subst hnn
  exact⟨fun J=>⟨x,h1,X⟩,fun z=>by rw[hk] at z;cases z⟩
 ·rw[if_neg hnn] at e
  exact⟨fun z=>((h n' v' e).1 z).imp fun y w=>⟨(h2 _ fun q=>hnn (O.inj _ _ q).symm).trans w.1,w.2⟩,(h n' v' e).2⟩
theorem WI(O:c.Ok)(VV:EnvOk env){n:Nat}{v:Mine.V}{x:Value}{Q:Unit->Shared->Prop}(hk:env.kindOf (c.nm n)=some .local)(R:Rel c env g U s)(X:Vx c env g s v x)
  (N:∀ s',Rel c env g (U.setLoc n v) s'->Ext env g g s s'->Q () s'):wpAny c.M A (storeName env (c.nm n) x) Q E s:=by
 obtain⟨m,hm,hl⟩:=R.loc
 refine wpAny_storeName_local hk hm (fun h' hn hs=>?_) (by rw[VV.kind];rfl)
 have kF:∀ a o,Fz env g s.heap a o->Fz env g h' a o:=fun a o z=>⟨(hs.2 _ (fun e=>z.2.2.2 e)).trans z.1,z.2⟩
 have kk:∀ b p,b≠env.locals->s.heap.get? b=some p->h'.get? b=some p:=fun b p hb e=>(hs.2 _ hb).trans e
 have al:∀ a,(∃ p,s.heap.get? a=some p)->∃ p,h'.get? a=some p:=fun a e=>Classical.byCases (fun e2:a=env.locals=>e2▸nsO hn) fun e2=>e.imp fun p z=>kk _ _ e2 z
 exact N _ ⟨⟨fun a o e=>kF _ _ (R.kin a o e),fun a e=>al a (R.wob a e),fun a e=>al a (R.xob a e),fun a e=>al a (R.fob a e),R.dis,⟨_,hn,(hl.mono kF fun J J z=>z).set O hk (X.mono kF fun J J z=>z) (if_pos rfl) fun y hy=>if_neg hy⟩,
  fun id ob e=>(R.obs id ob e).imp fun r'=>Exists.imp fun o' z=>⟨z.1,z.2.mono kF (fun J J z=>z) fun p=>kk _ _ (R.dis _ (R.cW _ _ _ z.1)).2⟩,R.cW,R.inj,R.nx,R.ps⟩,xF _⟩
  ⟨fun a o e w f=>⟨kk _ _ (fun q=>f q) e,w⟩,fun J J e=>e,rfl,rfl⟩

def FlR(c:Cx)(env:Env)(g:Gh)(s:Shared)(f:FL)(w:Flow):Prop:=match f with
 |.next=>w=.next
 |.brk=>w=.brk
 |.cont=>w=.cont
 |.ret v=>∃ x,w=.ret x/\Vx c env g s v x
theorem FlR.map{g1a:Gh}{s1a:Shared}{env':Env}{f:FL}{w:Flow}(k:∀ v x,Vx c env g s v x->Vx c env' g1a s1a v x)(h:FlR c env g s f w):FlR c env' g1a s1a f w:=by
 cases f with
 |ret v=>exact Exists.imp (fun x z=>⟨z.1,k v x z.2⟩) h
 |_=>exact h
theorem FlR.ext{f:FL}{w:Flow}(h:FlR c env g s f w)(x:Ext env g g1a s s1a):FlR c env g1a s1a f w:=h.map fun v y=>VR.ext x
def UR(c:Cx)(env:Env)(g:Gh)(s:Shared)(f:FL)(U':St)(Q:Flow->Shared->Prop):Prop:=
 ∀ w s' g',Rel c env g' U' s'->FlR c env g' s' f w->Ext env g g' s s'->Q w s'
theorem UR.trans{f:FL}{Q:Flow->Shared->Prop}(N:UR c env g s f U' Q)(x:Ext env g g1a s s1a):UR c env g1a s1a f U' Q:=fun w s' g' R h e=>N w s' g' R h (x.trans e)
theorem UR.of{f f':FL}{Q:Flow->Shared->Prop}(e:some (f',U1a)=some (f,U'))(N:UR c env g s f U' Q):UR c env g s f' U1a Q:=by cases e;exact N
theorem UR.nxt{Q:Flow->Shared->Prop}(N:UR c env g s .next U' Q){g':Gh}{s':Shared}(R:Rel c env g' U' s')(x:Ext env g g' s s'):Q .next s':=N _ _ _ R rfl x
def JW(c:Cx)(r:Nat)(env:Env)(b:Stmt)(f:St->Option (FL×St)):Prop:=
 ∀ ⦃A:Around⦄ ⦃U:St⦄ ⦃fl:FL⦄ ⦃U':St⦄ ⦃g:Gh⦄ ⦃s:Shared⦄ ⦃E:Value->Shared->Prop⦄ ⦃Q:Flow->Shared->Prop⦄,
  JP A r->f U=some (fl,U')->Rel c env g U s->UR c env g s fl U' Q->wpAny c.M A (exec b env) Q E s
def Qy(c:Cx)(r:Nat)(env:Env)(b:List Stmt)(f:St->Option (FL×St)):Prop:=
 ∀ ⦃A:Around⦄ ⦃U:St⦄ ⦃fl:FL⦄ ⦃U':St⦄ ⦃g:Gh⦄ ⦃s:Shared⦄ ⦃E:Value->Shared->Prop⦄ ⦃Q:Flow->Shared->Prop⦄,
  JP A r->f U=some (fl,U')->Rel c env g U s->UR c env g s fl U' Q->wpAny c.M A (execs b env) Q E s
variable{C:Ora}{e t:Expr}{m mt:ME}{pos:Pos}{n D:Nat}{b o:List Stmt}{mb mo:List MS}
theorem ZDz:Qy c r env [] (exs C []):=fun J J J J J J J J J hf R N=>wpAny_execs_nil ((N.of hf).nxt R .refl)
theorem ZCF{b:Stmt}{bs:List Stmt}{m:MS}{ms:List MS}(H:JW c r env b (exc C m))(H2:Qy c r env bs (exs C ms)):Qy c r env (b::bs) (exs C (m::ms)):=fun J J J J J J J J hr hf R N=>bnE hf fun fl U1a h1 h2 =>
 qY (H hr h1 R fun w s1a g1a R1a X1a E1a=>by
  cases fl with
  |next=>cases X1a;exact H2 hr h2 R1a (N.trans E1a)
  |brk=>cases X1a;exact N.of h2 _ _ _ R1a rfl E1a
  |cont=>cases X1a;exact N.of h2 _ _ _ R1a rfl E1a
  |ret v=>obtain⟨x,rfl,hx⟩:=X1a;exact N.of h2 _ _ _ R1a ⟨x,rfl,hx⟩ E1a)
theorem ZD2:JW c r env (.Pass pos) (exc C .pass):=fun J J J J J J J J J hf R N=>wpAny_Pass ((N.of hf).nxt R .refl)
theorem ZGR:JW c r env (.Break pos) (exc C .brk):=fun J J J J J J J J J hf R N=>wpAny_Break (N.of hf _ _ _ R rfl .refl)
theorem ZD4:JW c r env (.Continue pos) (exc C .cont):=fun J J J J J J J J J hf R N=>wpAny_Continue (N.of hf _ _ _ R rfl .refl)
theorem ZGN(H:JD c r env e (ev C m)):JW c r env (.Return (some e) pos) (exc C (.ret m)):=fun J J J J J J J J hr hf R N=>bnE hf fun v U1a h1 h2=>wpAny_Return_some (H hr h1 R fun x s1a g1a R1a X1a E1a=>N.of h2 _ _ _ R1a ⟨x,rfl,X1a⟩ E1a)
theorem ZD1:JW c r env (.Return none pos) (exc C (.ret (.k .none))):=fun J J J J J J J J J hf R N=>wpAny_Return_none (N.of (show some (FL.ret .none,_)=some _ from hf) _ _ _ R ⟨_,rfl,.none⟩ .refl)
theorem ZGO(H:Jb c r env t (tst C mt))(H2:Qy c r env b (exs C mb))(H3:Qy c r env o (exs C mo)):JW c r env (.If t b o pos) (exc C (.iff mt mb mo)):=fun J J J J J J J J hr hf R N=>bnE hf fun q U1a h1 h2=>wpAny_If (H hr h1 R fun s1a g1a R1a E1a=>by
 cases q with
 |true=>exact H2 hr h2 R1a (N.trans E1a)
 |false=>exact H3 hr h2 R1a (N.trans E1a))
theorem ZD8(H:Jb c r env t (tst C mt)):JW c r env (.Assert t none pos) (exc C (.asrt mt)):=fun J J J J J J J J hr hf R N=>bnE hf fun q U1a h1 h2=>gdE h2 fun hq h2=>wpAny_Assert hr.1 (H hr h1 R fun s1a g1a R1a E1a=>by subst hq;exact(N.of h2).nxt R1a E1a)

def Qc(e:Expr):Bool:=(ctt fun h=>Expr.ListComp.elim (motive_1:=fun J=>Bool) e h fun J J J J=>false)&&((ctt fun h=>Expr.SetComp.elim (motive_1:=fun J=>Bool) e h fun J J J J=>false)&&ctt fun h=>Expr.DictComp.elim (motive_1:=fun J=>Bool) e h fun J J J J J=>false)
theorem XU{e:Expr}(h:Qc e=true){t:Option Expr}{n:Nat}:swapsWith e t n env=pure false:=by
 cases e<;>first |rfl |exact ff h
theorem ZGS(O:c.Ok)(VV:EnvOk env){np}(hk:env.kindOf (c.nm n)=some .local)(hc:Qc e=true)(H:JD c r env e (ev C m)):JW c r env (.Assign [.Name (c.nm n) np] e pos) (exc C (.asg n m)):=fun J J J J J J J J hr hf R N=>bnE hf fun v U1a h1 h2 =>
 wpAny_Assign_Name (H hr h1 R fun x s1a g1a R1a X1a E1a=>WI O VV hk R1a X1a fun s2a R2a E2a=>(N.of h2).nxt R2a (E1a.trans E2a)) (XU hc)
theorem ZEC(O:c.Ok){np}(hn:QD c D n=true)(hc:Qc e=true)(H:JD c r env e (ev C m))(H2:JD c r env t (ev C mt)):JW c r env (.Assign [.Attribute t (c.nm n) np] e pos) (exc C (.asgA mt n D m)):=fun J J J J J J J J hr hf R N=>bnE hf fun v U1a h1 h=>bnE h fun o U2a h3 h=>boE h fun U3a h5 h6 =>
 plainObj_wpAny_Assign_Attribute (H hr h1 R fun x s1a g1a R1a X1a E1a=>H2 hr h3 R1a fun y s2a g2a R2a X2a E2a =>
  Yf O hn h5 R2a X2a (X1a.ext E2a) fun s3a R3a E3a=>(N.of h6).nxt R3a (E1a.trans (E2a.trans E3a))) (XU hc)
theorem ZIW(hi:interactive env=false)(hc:Qc e=true)(H:JD c r env e (ev C m)):JW c r env (.Expr e pos) (exc C (.ex m)):=fun J J J J J J J J hr hf R N=>bnE hf fun v U1a h1 h=>gdE h fun hv h2 =>
 wpAny_Expr (H hr h1 R fun x s1a g1a R1a X1a E1a=>by
  have n:=(N.of h2).nxt R1a E1a
  cases v<;>first |exact ff hv |skip
  ·exact X1a.noneE n
  ·exact X1a.boolE n
  ·exact X1a.strE fun t=>n) hi (XU hc)
end
section
variable{c:Cx}{r:Nat}{env:Env}{A:Around}{U U':St}{g g1a:Gh}{s s' s1a s2a:Shared}{E:Value->Shared->Prop}{Q:Value->Shared->Prop}{v:Mine.V}{D:Addr->Prop}

inductive WhlI(c:Cx)(env:Env)(C:Ora)(mt:ME)(mb:List MS)(g:Gh)(s:Shared)(w:FL×St)(n:Nat)(s':Shared):Prop
 |mk (U1a:St) (g1a:Gh) (R:Rel c env g1a U1a s') (E:Ext env g g1a s s') (run:QA (tst C mt) (exs C mb) n U1a=some w)
theorem ZGM{C:Ora}{t:Expr}{b:List Stmt}{mt:ME}{mb:List MS}{pos}(H:Jb c r env t (tst C mt))(H2:Qy c r env b (exs C mb)):JW c r env (.While t b [] pos) (exc C (.whl mt mb)):=fun A U fl U' g s E Q hr hf R N =>
 wpAny_While (codeAny_whileLoop (I:=WhlI c env C mt mb g s (fl,U')) (fun n s1a h=>by
  cases h with
  |mk U1a g1a R1a E1a h =>
   cases n with
   |zero=>exact nn h
   |succ n =>
    exact bnE h fun q U2a h1 h2=>H hr h1 R1a fun s2a g2a R2a E2a=>by
     cases q with
     |false=>exact wpAny_execs_nil ((N.of h2).nxt R2a (E1a.trans E2a))
     |true =>
      exact bnE h2 fun f U3a h3 h4=>H2 hr h3 R2a fun w s3a g3a R3a X3a E3a=>by
       have E:=E1a.trans (E2a.trans E3a)
       have nx:QA (tst C mt) (exs C mb) n U3a=some (fl,U')->∃ m,m<n+1/\WhlI c env C mt mb g s (fl,U') m s3a:=fun h=>⟨n,xC _,.mk U3a g3a R3a E h⟩
       cases f with
       |next=>cases X3a;exact nx h4
       |cont=>cases X3a;exact nx h4
       |brk=>cases X3a;exact(N.of h4).nxt R3a E
       |ret v=>obtain⟨x,rfl,hx⟩:=X3a;exact N.of h4 _ _ _ R3a ⟨x,rfl,hx⟩ E) Qr (.mk U g R .refl hf))

def IT(p:Obj):Prop:=∃ T,p.cls=.type T/\["enumerate","zip","dict_itemiterator","dict_reverseitemiterator","odict_iterator","itertools.zip_longest","itertools.pairwise"].contains T=false
theorem ZBr{c:Cx}{A:Around}{s:Shared}{E:Value->Shared->Prop}{Q:Unit->Shared->Prop}{a:Addr}{p:Obj}(hp:s.heap.get? a=some p)(ho:IT p)(t:Expr)(y:Value)(h:Q () s):wpAny c.M A (letOwnedTupleGo t (.ref a) y) Q E s:=by
 have main:wpAny c.M A (do
   let (.ref r,.ref a):=((Value.ref a,y):Value×Value) |return
   let o <- load r
   match o.cls,o.data with
   |.type n,.fields vs =>
    if ["enumerate","zip","dict_itemiterator","dict_reverseitemiterator","odict_iterator","itertools.zip_longest","itertools.pairwise"].contains n&&vs[0]?==some (rawInt a) then
     rule "for.unpacks-the-owned-tuple"
     updateField r 0 .none
   |_,_=>pure ()) Q E s:=by
  cases y<;>first |exact qC h |skip
  obtain⟨T,hc,hT⟩:=ho
  refine qB (wpAny_load hp ?_)
  obtain⟨cls,dict,data,slots⟩:=p
  cases hc
  cases data<;>first |exact qC h |skip
  show wpAny _ _ (if (_&&_)=true then _ else _) _ _ _
  rw[hT,Bool.false_and,if_neg Bool.false_ne_true]
  exact qC h
 cases t<;>first |exact qC h |exact main
structure ItF(c:Cx)(env:Env)(g:Gh)(s:Shared)(l:List Mine.V)(o:Obj)(fp:List Addr)(P:Nat->Value->Prop)(S:Nat->Heap->Prop):Prop where
 fr:o.isFreed=false
 walks:∀ A':Around,A'.handled=none->Walks c.prog c.w A' s.heap.objs.size fp [s.heap.objs.size] l.length P S
 s0:S 0 (s.heap.push o)
 item:∀ i y,i<l.length->P i y->∃ w,l[i]?=some w/\Vx c env g s w y
 fp:∀ b∈fp,b=s.heap.objs.size\/∃ o,Fz env g s.heap b o
 alive:∀ i h,S i h->∃ p,h.get? s.heap.objs.size=some p/\IT p
theorem Dx{l:List Mine.V}{items:Array Value}(r1:Vxs c env g s l items.toList)(i:Nat)(y:Value)(hlt:i<l.length)(hy:items[i]?=some y):∃ w,l[i]?=some w/\Vx c env g s w y:=by
 obtain⟨y',e1,e2⟩:=r1.get (List.getElem?_eq_getElem hlt)
 rw[Array.getElem?_toList,hy] at e1
 cases e1
 exact⟨_,List.getElem?_eq_getElem hlt,e2⟩
theorem KV{a b:Addr}{P:Prop}(hb:b∈[a]):b=a\/P:=.inl (List.mem_singleton.mp hb)
theorem BX{x a b:Addr}{o:Obj}(f:Fz env g s.heap a o)(hb:b∈[x,a]):b=x\/∃ o,Fz env g s.heap b o:=(List.mem_cons.mp hb).imp id fun hb=>by cases List.mem_singleton.mp hb;exact⟨o,f⟩
theorem BZ{w:List Nat}(i:Nat)(y:Value)(h:SignAt (toS w) i y):∃ u,(w.map fun c=>Mine.V.str [c])[i]?=some u/\Vx c env g s u y:=by
 obtain⟨d,u,h1,rfl⟩:=h
 refine⟨.str [d],?_,.str [d] u⟩
 have:w[i]?=some d:=(List.getElem?_toArray (xs:=w) (i:=i)).symm.trans h1
 rw[List.getElem?_map,this];rfl
theorem ZE7{a b:Int}{P:Prop}(h:(Qn a&&Qn b)=true)(k:-16777216<=a->a<=16777216->-16777216<=b->b<=16777216->P):P:=
 bA h fun h1 h2=>bA h1 fun a1 a2=>bA h2 fun b1 b2=>k (qH a1) (qH a2) (qH b1) (qH b2)
theorem ZBk{lo hi:Int}:(if lo<hi then hi-lo else 0)=(((hi-lo).toNat:Int)-((0:Nat):Int)):=by
 show _=((hi-lo).toNat:Int)-0
 by_cases h:lo<hi
 ·rw[if_pos h,Int.sub_zero,Int.toNat_of_nonneg (Int.sub_nonneg_of_le (Int.le_of_lt h))]
 ·rw[if_neg h,Int.sub_zero,Int.toNat_of_nonpos (Int.sub_nonpos_of_le (Int.not_lt.mp h))];rfl
theorem IU{a:Int}(h:-16777216<=a):-2 ^ 62<=a:=Int.le_trans (by decide) h
theorem Ia{a:Int}(h:a<=16777216):a<2 ^ 62:=Int.lt_of_le_of_lt h (by decide)
theorem Dw{v:Mine.V}{l:List Mine.V}{x:Value}(hf:Ub v=some l)(R:Rel c env g U s)(X:Vx c env g s v x)
  (N:∀ (o:Obj) (fp:List Addr) (P:Nat->Value->Prop) (S:Nat->Heap->Prop),ItF c env g s l o fp P S->Q (.ref s.heap.objs.size) { s with heap:=s.heap.push o }):wpAny c.M A (pyIter x) Q E s:=by
 cases v with
 |str w =>
  cases hf
  refine X.strE fun t=>?_
  cases ha:(toS w).cps.all (·<128)
  ·exact wpAny_pyIter_wide ha (N _ [_] (SignAt (toS w)) (fun i h=>h.IsStrIter s.heap.objs.size "str_iterator" (toS w) t i) ⟨rfl,fun A' hA=>by rw[List.length_map];exact Walks.strWide hA _ (toS w) t,⟨_,qZ _ rfl,rfl,rfl⟩,fun i y J h=>BZ i y h,fun b hb=>KV hb,fun J J z=>z.imp fun J z=>⟨z.1,_,z.2.1,by decide⟩⟩)
  ·exact wpAny_pyIter_ascii ha (N _ [_] (SignAt (toS w)) (fun i h=>h.IsStrIter s.heap.objs.size "str_ascii_iterator" (toS w) t i) ⟨rfl,fun A' hA=>by rw[List.length_map];exact Walks.strAscii hA _ (toS w) t,⟨_,qZ _ rfl,rfl,rfl⟩,fun i y J h=>BZ i y h,fun b hb=>KV hb,fun J J z=>z.imp fun J z=>⟨z.1,_,z.2.1,by decide⟩⟩)
 |tup l =>
  cases hf
  refine X.tupE fun a o items n f1 c1 d1 r1=>?_
  have ht:s.heap.IsTuple a items:=⟨_,f1.1,c1,_,d1⟩
  have hne:a≠s.heap.objs.size:=qP (xP f1.1)
  exact wpAny_pyIter_tuple ht (N _ [_,a] (fun i y=>items[i]?=some y) (fun i h=>h.IsTupleIter s.heap.objs.size a i/\h.IsTuple a items) ⟨rfl,fun A' hA=>by rw[<- Ji r1];exact Walks.tuple hA _ a hne items,⟨⟨_,qZ _ rfl,rfl,rfl⟩,⟨_,xA _ f1.1,c1,_,d1⟩⟩,Dx r1,fun b hb=>BX f1 hb,fun J J z=>z.1.imp fun J z=>⟨z.1,_,z.2.1,by decide⟩⟩)
 |list l =>
  cases hf
  refine X.listE fun a items n f1 r1=>?_
  have hl:s.heap.IsList a items:=IsL.isList f1.1
  have hne:a≠s.heap.objs.size:=qP (xP f1.1)
  exact wpAny_pyIter_list hl (N _ [_,a] (fun i y=>items[i]?=some y) (fun i h=>h.IsListIter s.heap.objs.size a i/\h.IsList a items) ⟨rfl,fun A' hA=>by rw[<- Ji r1];exact Walks.list hA _ a hne items,⟨⟨_,qZ _ rfl,rfl,rfl⟩,hl.push _⟩,Dx r1,fun b hb=>BX f1 hb,fun J J z=>z.1.imp fun J z=>⟨z.1,_,z.2.1,by decide⟩⟩)
 |rng lo hi =>
  refine gdE (show gd (Qn lo&&Qn hi) (some ((List.range (hi-lo).toNat).map fun (i:Nat)=>Mine.V.int (lo+i)))=some l from hf) fun hb e=>ZE7 hb fun b1 b2 b3 b4=>X.rngE fun a t u v f1=>?_
  cases e
  refine wpAny_pyIter_range f1.1 (small_one (IU b1) (Ia b2) (IU b3) (Ia b4)) (N _ [_] _ (fun i h=>IsRangeIter h s.heap.objs.size (lo+(i:Nat)*1) (((hi-lo).toNat:Int)-(i:Nat)) 1) ⟨rfl,
   fun A' hA=>by rw[List.length_map,List.length_range];exact Walks.range hA _ lo 1 (hi-lo).toNat,?_,fun i y hi h=>?_,fun b hb=>KV hb,fun J J z=>⟨_,z,_,rfl,by decide⟩⟩)
  ·rw[rangeSize_one,ZBk,show lo+((0:Nat):Int)*1=lo from Int.add_zero lo]
   exact qZ _ rfl
  ·obtain⟨t,rfl⟩:=h
   rw[List.length_map,List.length_range] at hi
   refine⟨.int (lo+i),by rw[List.getElem?_map,List.getElem?_range hi];rfl,?_⟩
   rw[Int.mul_one]
   exact .int _ _
 |_=>exact nn hf

theorem Ext.changed(x:Ext env g g1a s s1a)(hD:∀ a,D a->s.heap.objs.size<=a)(hs:∀ b p,¬ D b->s1a.heap.get? b=some p->s'.heap.get? b=some p)(hg:gos s'=gos s1a):Ext env g g1a s s':=
 ⟨fun a o e w f=>(x.fz a o e w f).elim fun z w'=>⟨hs _ _ (fun d=>Qu e (hD a d) rfl) z,w'⟩,x.cs,x.X,hg.trans x.gens⟩
theorem Ext.reX{X:Addr->Prop}(x:Ext env g g1a s s1a):Ext env { g with X:=X } { g1a with X:=X } s s1a:=⟨x.fz,x.cs,rfl,x.gens⟩
theorem Rel.drop{X:Addr->Prop}(R:Rel c env g1a U s1a)(hX:∀ a,X a->g1a.X a)(hDX:∀ a,D a->g1a.X a)(hn:∀ a,X a->¬ D a)(hs:∀ b p,¬ D b->s1a.heap.get? b=some p->s'.heap.get? b=some p)(hfa:∀ a,D a->¬ FA env a)(hp:0<s'.toks):
  Rel c env { g1a with X:=X } U s':=
 ⟨R.toRel0.carry (fun a o z=>⟨hs _ _ (fun d=>z.2.2.1 (hDX a d)) z.1,z.2.1,fun x=>z.2.2.1 (hX a x),z.2.2.2⟩) (fun a o w e=>hs _ _ (fun d=>(R.dis a w).1 (hDX a d)) e) (fun m hm=>hm.at fun p e=>hs _ _ (fun d=>hfa _ d rfl) e) rfl rfl (fun a x=>(R.xob a (hX a x)).imp fun o e=>hs _ _ (hn a x) e) (fun a x w=>(R.dis a w).1 (hX a x)),hp⟩
theorem FlR.shown{X:Addr->Prop}{f:FL}{w:Flow}(h:FlR c env g1a s1a f w)(hX:∀ a,X a->g1a.X a):FlR c env { g1a with X:=X } s1a f w:=h.map fun v x z=>z.shown hX

abbrev Wg(a0:Addr)(g1a g2a:Gh):Prop:=g2a.X=(g1a.hid (·=a0)).X
theorem Wg.d{a0:Addr}{g1a g2a:Gh}(h:Wg a0 g1a g2a):∀ a,a=a0->g2a.X a:=fun a e=>by rw[h];exact .inr e
theorem Wg.o{a0:Addr}{g1a g2a:Gh}(h:Wg a0 g1a g2a):∀ a,g1a.X a->g2a.X a:=fun a e=>by rw[h];exact .inl e
inductive ForI(c:Cx)(env:Env)(go:List Mine.V->St->Option (FL×St))(l:List Mine.V)(S:Nat->Heap->Prop)(g1a:Gh)(s1a:Shared)(w:FL×St)(k:Nat)(s2a:Shared):Prop
 |mk (i:Nat) (U2a:St) (g2a:Gh) (hk:k=l.length+1-i) (hi:i<=l.length) (R:Rel c env g2a U2a s2a) (X:Wg s1a.heap.objs.size g1a g2a) (E:Ext env g1a { g2a with X:=g1a.X } s1a s2a) (hS:S i s2a.heap) (run:go (l.drop i) U2a=some w)
theorem Ext.in1{g2a:Gh}(X:Wg s1a.heap.objs.size g1a g2a)(E:Ext env g1a { g2a with X:=g1a.X } s1a s2a){a:Addr}{o:Obj}(z:Mine.Fz env g1a s1a.heap a o):Mine.Fz env g2a s2a.heap a o:=
 ⟨(E.Fz z).1,(E.Fz z).2.1,fun h=>by rw[X] at h;exact h.elim z.2.2.1 fun h=>Qu z.1 (qF _) h,z.2.2.2⟩
theorem Kq{n i:Nat}(h:i<n):n+1-(i+1)<n+1-i:=Nat.sub_lt_sub_left (qU h) (xC i)
def IL(c:Cx)(env:Env)(t:Expr)(G:Mine.V->St->Option St):Prop:=∀ ⦃A:Around⦄ ⦃w:Mine.V⦄ ⦃U U':St⦄ ⦃g:Gh⦄ ⦃s:Shared⦄ ⦃y:Value⦄ ⦃Q:Unit->Shared->Prop⦄ ⦃E:Value->Shared->Prop⦄,A.handled=none->G w U=some U'->Rel c env g U s->Vx c env g s w y ->
 (∀ s',Rel c env g U' s'->Ext env g g s s'->Q () s')->wpAny c.M A (assign t env y) Q E s
theorem D9{C:Ora}{t it:Expr}{G:Mine.V->St->Option St}{b:List Stmt}{mb:List MS}{mi:ME}{pos}(HT:IL c env t G)(hs:∀ x,foldedSetIterable it env x=pure x)
  (H:JD c r env it (ev C mi)) (H2:Qy c r env b (exs C mb)):JW c r env (.For t it b [] pos) (fun U=>bn (ev C mi U) fun v U1a=>bo (Ub v) fun l=>QI G (exs C mb) l U1a):=fun A U fl U' g s E Q hr hf R N=>bnE hf fun v U1a h1 h=>boE h fun l h3 h4 =>
 wpAny_For (H hr h1 R fun x s1a g1a R1a X1a E1a=>Dw h3 R1a X1a fun o fp P S I=>by
  have W:=I.walks A hr.1
  have fr:=Kg R1a
  have ho:(s1a.heap.push o).get? s1a.heap.objs.size=some o:=qZ _ I.fr
  have hfa:∀ a,a=s1a.heap.objs.size->¬ FA env a:=fun a e=>e▸fr.2.2
  have hD:∀ a,a=s1a.heap.objs.size->s1a.heap.objs.size<=a:=fun a e=>e▸qF _
  refine codeAny_forLoop_any (I:=ForI c env (QI G (exs C mb)) l S g1a s1a (fl,U')) (fun k s2a h=>?_) (l.length+1)
   (.mk 0 U1a _ rfl (qG _) (R1a.hide (s':={ s1a with heap:=s1a.heap.push o }) (Qb _ _) hD (fun a e=>⟨_,e▸ho⟩) R1a.pos) rfl ⟨fun a p e w J=>⟨Qb _ _ _ _ e,w⟩,fun J J e=>e,rfl,rfl⟩ I.s0 h4)
  cases h with
  |mk i U2a g2a hk' hi R2a hX E2a hS2 hF =>
   have kk:∀ {h':Heap},(∀ b p,b∉[s1a.heap.objs.size]->s2a.heap.get? b=some p->h'.get? b=some p)->∀ b p,¬ b=s1a.heap.objs.size->s2a.heap.get? b=some p->h'.get? b=some p:=fun h b p hb=>h b p fun q=>hb (List.mem_singleton.mp q)
   by_cases hlt:i<l.length
   ·refine Qi R2a.pos (W.item i s2a _ _ hlt hS2 fun y h' tk hPy hS' hk2 htk=>?_)
    obtain⟨w,hw,hwy⟩:=I.item i y hlt hPy
    have R3a:Rel c env g2a U2a { s2a with heap:=h',toks:=tk }:=R2a.changed (D:=(·=s1a.heap.objs.size)) hX.d (kk hk2) (fun a e=>e▸(I.alive _ _ hS').imp fun J z=>z.1) hfa htk
    have E3a:Ext env g1a { g2a with X:=g1a.X } s1a { s2a with heap:=h',toks:=tk }:=E2a.changed (D:=(·=s1a.heap.objs.size)) hD (kk hk2) rfl
    have hd:l.drop i=w::l.drop (i+1):=by
     obtain⟨h1,h2⟩:=List.getElem?_eq_some_iff.mp hw
     rw[List.drop_eq_getElem_cons h1,h2]
    rw[hd] at hF
    refine boE (show bo (G w U2a) (fun U1a=>bn (exs C mb U1a) _)=some (fl,U') from hF) fun U4a h4 hF=>bnE hF fun f U5a h5 h6=>(I.alive _ _ hS').elim fun p hp=>ZBr (s:={ s2a with heap:=h',toks:=tk }) hp.1 hp.2 t y (HT hr.1 h4 R3a (hwy.mono (fun a o z=>E3a.in1 hX z) fun i a z=>E3a.rho z) fun s4a R4a E4a=>H2 hr h5 R4a fun w' s5a g5a R5a X5a E5a=>?_)
    have E45:=E4a.trans E5a
    have E6a:Ext env g1a { g5a with X:=g1a.X } s1a s5a:=E3a.trans E45.reX
    have hX5:Wg s1a.heap.objs.size g1a g5a:=E45.X.trans hX
    have nx:QI G (exs C mb) (l.drop (i+1)) U5a=some (fl,U')->∃ m,m<k/\ForI c env (QI G (exs C mb)) l S g1a s1a (fl,U') m s5a:=fun h =>
     ⟨l.length+1-(i+1),hk'▸Kq hlt,.mk (i+1) U5a g5a rfl hlt R5a hX5 E6a (W.frame _ _ _ hS' fun b hb o e=>(I.fp b hb).elim (fun q=>(E45.fz _ _ e (fun w=>(R3a.dis _ w).1 (hX.d _ q)) (q▸fr.2.2)).1) fun⟨o',z⟩=>by
      have z':=E3a.in1 hX z
      cases z'.1.symm.trans e
      exact(E45.fz _ _ e z'.2.1 z'.2.2.2).1) h⟩
    cases f with
    |next=>cases X5a;exact nx h6
    |cont=>cases X5a;exact nx h6
    |brk=>cases X5a;exact(N.of h6).nxt (R5a.shown hX5.o) (E1a.trans E6a)
    |ret v =>
     obtain⟨x,rfl,hx⟩:=X5a
     exact N.of h6 _ _ _ (R5a.shown hX5.o) ⟨x,rfl,hx.shown hX5.o⟩ (E1a.trans E6a)
   ·cases xN hi (Nat.not_lt.mp hlt)
    rw[List.drop_length] at hF
    refine Qi R2a.pos (W.done s2a _ _ hS2 fun h' tk hk2 htk=>?_)
    have R3a:Rel c env { g2a with X:=g1a.X } _ { s2a with heap:=h',toks:=tk }:=R2a.drop (D:=(·=s1a.heap.objs.size)) hX.o hX.d (fun a x e=>(R1a.xob a x).elim fun J z=>Qu z (qF _) e) (kk hk2) hfa htk
    exact wpAny_execs_nil ((N.of hF).nxt R3a (E1a.trans (E2a.changed (D:=(·=s1a.heap.objs.size)) hD (kk hk2) rfl)))) hs
theorem ZGQ(O:c.Ok)(VV:EnvOk env){C:Ora}{n:Nat}{it:Expr}{b:List Stmt}{mi:ME}{mb:List MS}{np pos}(hk:env.kindOf (c.nm n)=some .local)(hs:∀ x,foldedSetIterable it env x=pure x)
  (H:JD c r env it (ev C mi)) (H2:Qy c r env b (exs C mb)):JW c r env (.For (.Name (c.nm n) np) it b [] pos) (exc C (.for n mi mb)):=
 D9 (G:=fun v U=>some (U.setLoc n v)) (fun J w U U' g s y Q E hh hg R X N=>by
  cases hg
  exact wpAny_assign_Name (WI O VV hk R X N)) hs H H2
theorem ZBV{I:Addr}{fp:List Addr}{items:Array Value}{S:Nat->Heap->Prop}(W:Walks c.prog c.w A I fp [I] items.size (fun i v=>items[i]?=some v) S):∀ (k i:Nat) (s:Shared) (Q:List Value->Shared->Prop),S i s.heap->i+k<=items.size->(∀ h' tk,S (i+k) h'->(∀ b o,b≠I->s.heap.get? b=some o->h'.get? b=some o)->Q ((items.toList.drop i).take k) { s with heap:=h',toks:=tk })->wpAny c.M A (draw (.ref I) k) Q E s:=fun l0=>by
 induction l0 with
 |zero =>
  exact fun i s Q hs J h=>qC (h s.heap s.toks hs fun J J J e=>e)
 |succ k ih =>
  intro i s Q hs hk h
  have hlt:i<items.size:=xH (Nat.lt_add_of_pos_right (xF k)) hk
  refine qB (W.item i s _ _ hlt hs fun v h' tk hv hs' k1=>?_)
  have hd:items.toList.drop i=v::items.toList.drop (i+1):=by
   rw[List.drop_eq_getElem_cons (by rw[Array.length_toList];exact hlt),Array.getElem_toList]
   rw[Array.getElem?_eq_getElem hlt] at hv
   rw[Option.some.inj hv]
  show wpAny _ _ (do let x <- holding [v] (draw (.ref I) k);pure (v::x)) _ _ _
  refine qB (qD (ih (i+1) _ _ hs' (by rw[Nat.add_right_comm];exact hk) fun h'' tk' hs'' k2=>qC ?_))
  rw[hd] at h
  exact h h'' tk' (by rw[Nat.add_right_comm] at hs'';exact hs'') fun b o hb e=>k2 b o hb (k1 b o (fun q=>hb (List.mem_singleton.mp q)) e)
theorem T8{t:Addr}{items:Array Value}{n:Nat}{targets:List (Bool×(Value->Sem Unit))}{Q:Unit->Shared->Prop}(hh:A.handled=none)(hi:IsL s.heap t items n)(hn:targets.length=items.size)(hstar:targets.findIdx? (·.1)=none)(ht:0<s.toks)
  (h:∀ h' tk,0<tk->(∀ b o,s.heap.get? b=some o->h'.get? b=some o)->wpAny c.M A (assignInOrder (targets.map (·.2)) items.toList) Q E { s with heap:=h',toks:=tk }):wpAny c.M A (unpack (.ref t) targets) Q E s:=by
 have hl:s.heap.IsList t items:=hi.isList
 have hne:t≠s.heap.objs.size:=qP (xP hi)
 have W:=Walks.list (prog:=c.prog) (w:=c.w) hh s.heap.objs.size t hne items
 have kp:∀ {h':Heap},(∀ b o,b≠s.heap.objs.size->(s.heap.push { cls:=.type "list_iterator",data:=.fields #[.ref t,.int 0 0] }).get? b=some o->h'.get? b=some o)->∀ b o,s.heap.get? b=some o->h'.get? b=some o:=fun k b o e=>k b o (qP (xP e)) (xA _ e)
 unfold unpack
 rw[hn,hstar]
 refine qB (Qi ht (qD ?_))
 delta unpackItems;dsimp only
 refine qB ?_
 unfold notIterableAtAll
 refine qB (wpAny_specialOf hl.typeIs slot_list_iter.lookup ?_)
 refine qC ?_
 rw[if_neg Bool.false_ne_true]
 refine qB (qD (wpAny_pyIter_list hl ?_))
 refine qB (qD (ZBV W items.size 0 _ _ ⟨⟨_,qZ _ rfl,rfl,rfl⟩,hl.push _⟩ (qV (Nat.zero_add _)) fun h1a tk1 hs1 k1a=>?_))
 rw[Nat.zero_add] at hs1
 have hall:List.take items.size (List.drop 0 items.toList)=items.toList:=by
  rw[List.drop_zero];exact List.take_of_length_le (qV Array.length_toList)
 rw[hall,if_neg (by rw[Array.length_toList];exact xS _)]
 refine qB (qD (W.done _ _ _ hs1 fun h2a tk2 k2a=>?_))
 exact qC fun htk=>h h2a tk2 htk (kp fun b o hb e=>k2a b o (fun q=>hb (List.mem_singleton.mp q)) (k1a b o hb e))
end
section
variable{c:Cx}{r:Nat}{env:Env}{A:Around}{U U':St}{g g1a:Gh}{s s' s1a s2a:Shared}{E:Value->Shared->Prop}{Q:Value->Shared->Prop}{v:Mine.V}{D:Addr->Prop}

theorem Bf{x:List Nat}{u:Mine.V}:∀ {ks:List (List Nat)} {vs:List Mine.V},Qw ks vs x=some u->x∈ks
 |[],_,h=>nn h
 |_::_,[],h=>nn h
 |k::ks,v::vs,h=>Classical.byCases (fun e:k=x=>e▸List.mem_cons_self) fun e=>.tail _ (Bf (ks:=ks) (vs:=vs) ((if_neg e).symm.trans h))
theorem ZA2{kvs:List (Str×Value)}{ks:List (List Nat)}{x:List Nat}{y:Value}(hk:kvs.map (·.1)=ks.map toS)(h:x∈ks):stored kvs (toS x) y=kvs.map (fun kv=>if kv.1=toS x then (kv.1,y) else kv):=
 if_pos (by
  have h1:toS x∈kvs.map (·.1):=hk▸List.mem_map_of_mem h
  obtain⟨kv,h2,h3⟩:=List.mem_map.mp h1
  exact List.any_eq_true.mpr ⟨kv,h2,decide_eq_true h3⟩)
theorem ZAX{z:Str}{y:Value}(kvs:List (Str×Value)):(kvs.map (fun kv=>if kv.1=z then (kv.1,y) else kv)).map (·.1)=kvs.map (·.1):=by
 rw[List.map_map]
 exact List.map_congr_left fun kv J=>by
  show (if kv.1=z then (kv.1,y) else kv).1=kv.1
  by_cases h:kv.1=z
  ·rw[if_pos h]
  ·rw[if_neg h]
theorem ZA1{z:Str}{y:Value}{kvs:List (Str×Value)}(h:z∉kvs.map (·.1)):kvs.map (fun kv=>if kv.1=z then (kv.1,y) else kv)=kvs:=by
 refine(List.map_congr_left fun kv hkv=>?_).trans (List.map_id kvs)
 exact if_neg fun (q:kv.1=z)=>h (q▸List.mem_map_of_mem hkv)
theorem ZDR{x:List Nat}{ks:List (List Nat)}(h:toS x∈ks.map toS):x∈ks:=by
 obtain⟨z,h1,h2⟩:=List.mem_map.mp h
 exact Ur h2▸h1
theorem ZBn{x:List Nat}{u:Mine.V}{y:Value}{F ρ}(hy:VR c F ρ u y):∀ {ks:List (List Nat)} {vs:List Mine.V} {kvs:List (Str×Value)},kvs.map (·.1)=ks.map toS->ks.Nodup->VRs c F ρ vs (kvs.map (·.2))->VRs c F ρ (XE ks vs x u) ((kvs.map (fun kv=>if kv.1=toS x then (kv.1,y) else kv)).map (·.2)):=by
 intro ks
 induction ks with
 |nil =>
  intro _ kvs hk _ hv
  cases kvs with
  |nil=>exact hv
  |cons _ _=>exact nomatch hk
 |cons k ks ih =>
  intro vs kvs hk hn hv
  cases kvs with
  |nil=>exact nomatch hk
  |cons kv kvs =>
   cases vs with
   |nil=>exact nomatch hv.length
   |cons v vs =>
    exact hv.consE (P:=fun l=>l=kv.2::kvs.map (·.2)->_) (fun a as h1 h2 e=>by
      obtain⟨e1,e2⟩:=qS hk
      obtain⟨n1,n2⟩:=List.nodup_cons.mp hn
      obtain⟨rfl,rfl⟩:=qS e
      show VRs c F ρ (if k=x then u::vs else v::XE ks vs x u) ((if kv.1=toS x then (kv.1,y) else kv).2::_)
      by_cases h:k=x
      ·subst h
       rw[if_pos rfl,if_pos e1,ZA1 fun q=>n1 (ZDR (e2▸q))]
       exact .cons hy h2
      ·rw[if_neg h,if_neg fun q=>h (Ur (e1.symm.trans q))]
       exact .cons h1 (ih e2 n2 h2)) rfl
theorem ZAg{kvs:List (Str×Value)}{ks:List (List Nat)}{a:Addr}{h:Heap}(D:h.DictOf (strKind c.prog c.w) a kvs)(k1:kvs.map (·.1)=ks.map toS):ks.Nodup:=by
 obtain⟨_,_,_,_,_,_,_,_,h⟩:=D
 rw[k1] at h
 exact List.nodup_iff_pairwise_ne.mpr ((List.pairwise_map.mp (List.nodup_iff_pairwise_ne.mp h)).imp fun h e=>h (congrArg toS e))
theorem ZAa{l:Addr}{items:Array Value}{n:Nat}{k:Int}{t:Tok}{v:Value}{j:Nat}{Q:Unit->Shared->Prop}(hi:IsL s.heap l items n)(hfit:Builtin.List.listFitsIndex k=true)(hj:seqIndex? k items.size=some j)(hlt:j<items.size)(h3:(0<=k/\k.toNat=j)\/(k<0/\-(items.size:Int)<=k/\(k+items.size).toNat=j))
  (h:Q () { s with heap:=s.heap.update l (Obj.mapSeq (·.setIfInBounds j v)) }):wpAny c.M A (PySem.setItem (.ref l) (.int k t) v) Q E s:=by
 have hT:s.TypeIs (.ref l) "list":=⟨_,hi,rfl⟩
 have hx':items[j]?=some items[j]:=Array.getElem?_eq_getElem hlt
 unfold PySem.setItem
 try with_reducible refine qD ?_
 first |refine qB (qC ?_) |skip
 refine qB (wpAny_sequenceKey hT (by decide) ?_)
 refine qB (wpAny_callSpecial?_slot (name:=Str.ofString "__setitem__") hT slot_list_setitem
  (wpAny_call_entry slot_list_setitem hT entry_list_setitem ?_ (args_list_setitem _ _ _)))
 show wpAny _ _ (Builtin.List.listSubscript? (.int k t) >>= _) _ _ s
 refine qB (wpAny_listSubscript_int hfit ?_)
 cases k with
 |ofNat k =>
  have hk:k=j:=h3.elim (fun h=>h.2) fun h=>absurd h.1 (Int.not_lt.mpr (Int.natCast_nonneg k))
  subst hk
  show wpAny _ _ ((seqItemAt l k >>= fun r=>pure (r.map (k,·))) >>= _) _ _ s
  refine qB (qB (wpAny_seqItemAt hi rfl (qC ?_)))
  rw[hx']
  show wpAny _ _ (setSeqItemAt l k v >>= _) _ _ s
  refine qB (wpAny_setSeqItemAt hi rfl ?_)
  first
   |exact qB (qC (qC ⟨.none,rfl,qC h⟩))
   |exact qC ⟨.none,rfl,qC h⟩
 |negSucc k =>
  show wpAny _ _ ((Builtin.List.listItems (.ref l) >>= fun xs=>pure ((seqIndex? (Int.negSucc k) xs.size).bind fun i=>xs[i]?.map (i,·))) >>= _) _ _ s
  refine qB (qB ?_)
  show wpAny _ _ (seqItems? (.ref l) >>= _) _ _ s
  refine qB (wpAny_seqItems hi rfl (qC (qC ?_)))
  rw[hj]
  simp only[Option.bind_some,hx',Option.map_some]
  refine qB (wpAny_setSeqItemAt hi rfl ?_)
  first
   |exact qB (qC (qC ⟨.none,rfl,qC h⟩))
   |exact qC ⟨.none,rfl,qC h⟩
theorem VRs.set{F:Addr->Obj->Prop}{ρ:Id->Option Addr}{v:Mine.V}{x:Value}(h:VR c F ρ v x):∀ {l:List Mine.V} {xs:List Value} (j:Nat),VRs c F ρ l xs->VRs c F ρ (l.set j v) (xs.set j x):=by
 intro l
 induction l with
 |nil =>
  intro xs j H
  exact H.nilE .nil
 |cons _ _ ih =>
  intro xs j H
  cases j with
  |zero =>
   exact H.consE fun J J a b=>.cons h b
  |succ j =>
   exact H.consE fun J J a b=>.cons a (ih j b)
set_option tactic.hygienic false in
theorem BR{o x v:Mine.V}{ov xv yv:Value}{Q:Unit->Shared->Prop}(hf:Mine.Uu U o x v=some U')(R:Rel c env g U s)(Ho:Vx c env g s o ov)(Hx:Vx c env g s x xv)(Hy:Vx c env g s v yv)
  (N:∀ s',Rel c env g U' s'->Ext env g g s s'->Q () s'):wpAny c.M A (PySem.setItem ov xv yv) Q E s:=by
 cases o<;>first |exact nn hf |skip
 refine boE (show bo (JA U.hp id) _=some U' from hf) fun b ho h=>?_
 cases b<;>first |exact nn h |skip
 ·exact QP (P:=fun x=>Vx c env g s x xv->wpAny c.M A (PySem.setItem ov xv yv) Q E s) h (fun k h Hx=>bdE h fun hb h=>boE h fun j hj h=>gdE h fun hjl e=>Hx.intE (P:=fun xv=>wpAny c.M A (PySem.setItem ov xv yv) Q E s) fun t=>Ho.objE fun a ha=>by
   cases e
   obtain⟨items,n,hcs,hi,hv⟩:=Uo R ho ha
   have hs:=Ji hv
   rw[<- hs] at hb hj
   obtain⟨⟨h1,h2⟩,h3⟩:=Zm hj (U1 hb)
   obtain⟨R3a,E3a⟩:=Yv (f:=(·.setIfInBounds j yv)) (l':=l.set j v) R hcs hi (by rw[Array.toList_setIfInBounds];exact VRs.set Hy j hv)
   exact ZAa hi (Bool.and_eq_true_iff.mpr ⟨decide_eq_true h1,decide_eq_true h2⟩) hj (hs▸qE hjl) h3 (N _ R3a E3a)) Hx
 exact Qt (P:=fun x=>Vx c env g s x xv->wpAny c.M A (PySem.setItem ov xv yv) Q E s) h (fun x h Hx=>boE h fun u hu h=>gdE h fun hlen e=>Hx.strE (P:=fun xv=>wpAny c.M A (PySem.setItem ov xv yv) Q E s) fun t=>Ho.objE fun a ha=>by
  cases e
  obtain⟨q,hc,rfl,hsm,kvs,D,k1,r1⟩:=WR R ho ha
  have hlen':kvs.length=ks.length:=by rw[<- List.length_map (·.1),k1,List.length_map]
  refine wpAny_setItem_pairs (k:=toS x) (DW x t) D (fun h' hd hs=>?_) (hlen'.symm▸Kd (qE hlen))
  rw[ZA2 k1 (Bf hu)] at hd
  have K:Keep env (·=a) s.heap h':=.of (fun b p hb e=>(hs.2 b hb).trans e) fun e=>(R.dis a (R.cW _ _ _ hc)).2 e.symm
  obtain⟨ob,hob,-⟩:=Heap.dictOf_iff.mp hd
  exact N _ ⟨R.toRel0.setOb (ob':=.dict ks (XE ks vs x v)) hc K ⟨ob,hob⟩ fun kF=>⟨rfl,hsm,_,hd,(ZAX kvs).trans k1,(ZBn Hy k1 (ZAg D k1) r1).mono kF fun J J z=>z⟩,xF _⟩ (Ext.setOb (R.cW _ _ _ hc) K rfl)) Hx

variable{C:Ora}{t i e:Expr}{mt mi m:ME}{n n1a n2a D1a D2a:Nat}{o:Bop}{pos:Pos}
theorem VR.objR{F ρ}{i:Id}{x:Value}(h:VR c F ρ (.obj i) x):∃ a,x=.ref a/\ρ i=some a:=h.objE fun a e=>⟨a,rfl,e⟩
theorem ZEA{sp}(hc:Qc e=true)(H:JD c r env e (ev C m))(H2:JD c r env t (ev C mt))(H3:JD c r env i (ev C mi)):JW c r env (.Assign [.Subscript t i sp] e pos) (exc C (.asgS mt mi m)):=fun J J J J J J J J hr hf R N=>bnE hf fun v U1a h1 h=>bnE h fun o U2a h3 h=>bnE h fun x U3a h5 h=>boE h fun U4a h7 h8 =>
 wpAny_Assign_Subscript (H hr h1 R fun xv s1a g1a R1a X1a E1a=>H2 hr h3 R1a fun ov s2a g2a R2a X2a E2a=>H3 hr h5 R2a fun iv s3a g3a R3a X3a E3a =>
  BR h7 R3a (X2a.ext E3a) X3a (X1a.ext (E2a.trans E3a)) fun s4a R4a E4a=>(N.of h8).nxt R4a (E1a.trans (E2a.trans (E3a.trans E4a)))) (XU hc)
theorem ZD6(O:c.Ok)(VV:EnvOk env){np}(hk:env.kindOf (c.nm n)=some .local)(ho:o=.add\/o=.sub)(H:JD c r env e (ev C m)):JW c r env (.AugAssign (.Name (c.nm n) np) (U8 o) e pos) (exc C (.augN n o m)):=fun J J J J J J J J hr hf R N=>boE hf fun a h1 h=>bnE h fun b U1a h3 h=>bnE h fun w U2a h5 h6=>by
 obtain⟨mm,hm,hl⟩:=R.loc
 obtain⟨x,hx,hxv⟩:=(hl n _ h1).1 hk
 exact wpAny_AugAssign_Name (wpAny_loadName_local VV.kind hk hm hx (H hr h3 R fun y s1a g1a R1a X1a E1a=>Nb ho h5 R1a (VR.ext E1a hxv) X1a fun z s2a g2a R2a X2a E2a =>
  WI O VV hk R2a X2a fun s3a R3a E3a=>(N.of h6).nxt R3a (E1a.trans (E2a.trans E3a))))
theorem ZD7(O:c.Ok){tp}(hn:QD c D1a n=true)(ho:o=.add\/o=.sub)(H:JD c r env t (ev C mt))(H2:JD c r env e (ev C m)):JW c r env (.AugAssign (.Attribute t (c.nm n) tp) (U8 o) e pos) (exc C (.augA mt n D1a o m)):=fun A J fl U' g s E Q hr hf R N=>bnE hf fun x U1a h1 h =>
 wpAny_AugAssign_AttributeAny (H hr h1 R fun xv s1a g1a R1a X1a E1a=>WL (P:=fun x=>Vx c env g1a s1a x xv->_) h (fun id fs hob h X1a=>boE h fun a h3 h=>bnE h fun b U2a h5 h=>bnE h fun w U3a h7 h=>boE h fun U4a h9 h10 =>
  by
   obtain⟨ad,rfl,ha⟩:=X1a.objR
   exact KG O hn R1a hob ha h3 fun av s2a g2a R2a X2a E2a=>H2 hr h5 R2a fun bv s3a g3a R3a X3a E3a=>Nb ho h7 R3a (X2a.ext E3a) X3a fun z s4a g4a R4a X4a E4a =>
   Yf O hn h9 R4a (VR.obj ((E2a.trans (E3a.trans E4a)).rho ha)) X4a fun s5a R5a E5a=>(N.of h10).nxt R5a (E1a.trans (E2a.trans (E3a.trans (E4a.trans E5a))))) X1a)

def X9(e:Expr):Bool:=ctt fun h=>Expr.Tuple.elim (motive_1:=fun J=>Bool) e h fun J J J=>false
theorem BQ(h:X9 e=true){ts:List Expr}{k tp}:swappedStores [.Tuple ts k tp] e env=pure none:=by
 cases e<;>first |rfl |exact ff h
theorem DZ(h:Qc e=true){es:List Expr}{k tp}{n:Nat}:swapsWithSole [.Tuple es k tp] e n env=pure false:=by
 unfold swapsWithSole;exact XU h
def ZF(c:Cx)(env:Env)(e:Expr)(n:Nat):Bool:=ctq fun h=>Expr.Name.elim (motive_1:=fun J=>Bool) e h fun x J=>x==c.nm n&&(env.kindOf x==some .local)
@[elab_as_elim] theorem Dr{P:Expr->Prop}(h:ZF c env e n=true)(k:∀ p,env.kindOf (c.nm n)=some .local->P (.Name (c.nm n) p)):P e:=
 Jf h fun q=>Expr.Name.elim (motive_1:=fun e=>ZF c env e n=true->P e) e q (fun x p h=>bA h fun h1 h2=>by cases bE h1;exact k _ (bE h2)) h
noncomputable def WM(c:Cx)(env:Env):List Expr->List Nat->Bool
 |[],ns=>ns.isEmpty
 |e::es,ns=>(match ns with
  |[]=>false
  |n::ns=>ZF c env e n&&WM c env es ns)
theorem B8(O:c.Ok)(VV:EnvOk env):∀ {es:List Expr} {ns:List Nat} {vs:List Mine.V} {xs:List Value} {U U':St} {s:Shared} {Q:Unit->Shared->Prop},WM c env es ns=true->UD ns vs U=some U'->Rel c env g U s->Vxs c env g s vs xs->(∀ s',Rel c env g U' s'->Ext env g g s s'->Q () s')->wpAny c.M A (assignInOrder ((assignEach es env).map (·.2)) xs) Q E s:=by
 intro l0
 induction l0 with
 |nil =>
  intro ns vs _ _ _ s Q
  exact fun hn hf R X N=>by
   cases ns with
   |cons _ _=>exact ff hn
   |nil =>
    cases vs with
    |cons _ _=>exact nn hf
    |nil=>cases hf;exact X.nilE (qC (N s R .refl))
 |cons e es ih =>
  intro ns vs _ _ _ s Q
  exact fun hn hf R X N=>by
   cases ns with
   |nil=>exact ff hn
   |cons n ns =>
   cases vs with
   |nil=>exact nn hf
   |cons v vs =>
   refine bA hn fun h1 hn=>Dr h1 fun p hk=>X.consE fun a b ha hb=>?_
   show wpAny _ _ (do holding _ (assign (.Name (c.nm n) p) env _);assignInOrder ((assignEach es env).map (·.2)) _) _ _ _
   exact qB (qD (wpAny_assign_Name (WI O VV hk R ha fun s1a R1a E1a=>ih hn hf R1a (hb.ext E1a) fun s2a R2a E2a=>N s2a R2a (E1a.trans E2a))))
theorem ZBC:∀ {es:List Expr} {ns:List Nat},WM c env es ns=true->(assignEach es env).length=ns.length/\(assignEach es env).findIdx? (·.1)=none:=by
 intro es
 induction es with
 |nil =>
  intro ns h
  cases ns with
  |nil=>exact⟨rfl,rfl⟩
  |cons _ _=>exact ff h
 |cons e es ih =>
  intro ns h
  cases ns with
  |nil=>exact ff h
  |cons n ns =>
   exact bA h fun h1 h2=>Dr h1 fun p hk=>by
     obtain⟨h3,h4⟩:=ih h2
     refine⟨congrArg (·+1) h3,?_⟩
     show ((false,_)::assignEach es env).findIdx? (·.1)=none
     rw[List.findIdx?_cons,h4];rfl
theorem BE:∀ {ns:List Nat} {vs:List Mine.V} {U U':St},UD ns vs U=some U'->ns.length=vs.length:=by
 intro ns
 induction ns with
 |nil =>
  intro vs U _ h
  cases vs with
  |nil=>rfl
  |cons _ _=>exact nn h
 |cons _ ns ih =>
  intro vs U _ h
  cases vs with
  |nil=>exact nn h
  |cons _ vs=>exact congrArg (·+1) (ih h)
theorem GZ(O:c.Ok)(VV:EnvOk env){es:List Expr}{ns:List Nat}{k tp}(hn:WM c env es ns=true):IL c env (.Tuple es k tp) (fun v U=>bo (WN v) fun vs=>UD ns vs U):=fun A v U U' g s x Q E hh hf R X N=>boE hf fun vs h3 h5=>by
 obtain⟨l1,l2⟩:=ZBC hn
 show wpAny _ _ (do standAt tp;unpack x (assignEach es env)) _ _ _
 refine qB (qX ?_)
 cases v<;>first |exact nn h3 |(cases h3;skip)
 ·exact X.tupE fun a o items n f1 c1 d1 r1=>by
   refine unpack_tuple hh ⟨_,f1.1,c1,_,d1⟩ (by rw[l1,Ji r1];exact BE h5) l2 fun h' he=>?_
   have kk:∀ b p,s.heap.get? b=some p->h'.get? b=some p:=fun b p e=>he b p (qP (xP e)) e
   have E':Ext env g g s { s with heap:=h' }:=.grow kk rfl
   exact B8 O VV hn h5 (R.grow kk R.pos) (VRs.ext E' r1) fun s3a R3a E3a=>N s3a R3a (E'.trans E3a)
 ·exact X.listE fun a items n f1 r1=>by
   refine T8 hh f1.1 (by rw[l1,Ji r1];exact BE h5) l2 R.pos fun h' tk htk kk=>?_
   have E':Ext env g g s { s with heap:=h',toks:=tk }:=.grow kk rfl
   exact B8 O VV hn h5 (R.grow kk htk) (VRs.ext E' r1) fun s3a R3a E3a=>N s3a R3a (E'.trans E3a)
theorem ZD9(O:c.Ok)(VV:EnvOk env){es:List Expr}{ns:List Nat}{k tp}(hc:Qc e=true)(ht:X9 e=true)(hn:WM c env es ns=true)(H:JD c r env e (ev C m)):JW c r env (.Assign [.Tuple es k tp] e pos) (exc C (.asgT ns m)):=fun A J fl U' g s E Q hr hf R N=>bnE hf fun v U1a h1 h=>boE h fun vs h3 h=>boE h fun U2a h5 h6 =>
 Assign_Tuple (H hr h1 R fun x s1a g1a R1a X1a E1a=>GZ O VV hn hr.1 (show bo (WN v) (fun vs=>UD ns vs U1a)=some U2a by rw[h3];exact h5) R1a X1a fun s3a R3a E3a=>(N.of h6).nxt R3a (E1a.trans E3a)) (DZ hc) (BQ ht)
theorem ZD3(O:c.Ok)(VV:EnvOk env){es:List Expr}{ns:List Nat}{k tp}{it:Expr}{b:List Stmt}{mi:ME}{mb:List MS}(hn:WM c env es ns=true)(hs:∀ x,foldedSetIterable it env x=pure x)
  (H:JD c r env it (ev C mi)) (H2:Qy c r env b (exs C mb)):JW c r env (.For (.Tuple es k tp) it b [] pos) (exc C (.forT ns mi mb)):=D9 (GZ O VV hn) hs H H2
theorem BN{p:Pos}{x:Value}{o:Mine.V}{Q:Unit->Shared->Prop}(H:JD c r env t (ev C m))(hr:JP A r)(hf:ev C m U=some (o,U'))(R:Rel c env g U s)
  (N:∀ ov s' g',Rel c env g' U' s'->Vx c env g' s' o ov->Ext env g g' s s'->wpAny c.M A (PySem.setAttr ov (c.nm n) x) Q E s'):wpAny c.M A (assign (.Attribute t (c.nm n) p) env x) Q E s:=by
 rw[arm_assign_Attribute]
 exact qB (qD (H hr hf R fun ov s1a g1a R1a X1a E1a=>qB (qX (qB (qD (xT (N ov s1a g1a R1a X1a E1a) (fun J J h=>wpAny_release h) fun J J h=>h))))))
set_option tactic.hygienic false in
theorem ZFe{P:Mine.V->Prop}{q:Mine.V×Mine.V}(h:OI v=some q)(k:P (.tup [q.1,q.2])):P v:=by
 cases v<;>first |exact nn h |skip
 match l,h with
 |[],h=>exact nn h
 |[_],h=>exact nn h
 |_::_::_::_,h=>exact nn h
 |[a,b],h=>cases h;exact k
theorem ZCH(O:c.Ok){t1a t2a:Expr}{m1a m2a:ME}{p1a p2a k tp}(hn1:QD c D1a n1a=true)(hn2:QD c D2a n2a=true)(hc:Qc e=true)(ht:X9 e=true)(H:JD c r env e (ev C m))(H1a:JD c r env t1a (ev C m1a))(H2a:JD c r env t2a (ev C m2a)):
  JW c r env (.Assign [.Tuple [.Attribute t1a (c.nm n1a) p1a,.Attribute t2a (c.nm n2a) p2a] k tp] e pos) (exc C (.asgTA m1a n1a D1a m2a n2a D2a m)):=fun A J fl U' g s E Q hr hf R N=>bnE hf fun v U1a h1 h=>boE h fun q hq h=>bnE h fun o1a U2a h3 h=>boE h fun U3a h5 h=>bnE h fun o2a U4a h7 h=>boE h fun U5a h9 h10 =>
 Assign_Tuple (H hr h1 R fun x s1a g1a R1a X1a E1a=>ZFe (P:=fun v=>Vx c env g1a s1a v x->_) hq (fun X1a=>X1a.tupE fun a o items n f1 c1 d1 r1=>by
  show wpAny _ _ (do standAt tp;unpack (.ref a) (assignEach [.Attribute t1a (c.nm n1a) p1a,.Attribute t2a (c.nm n2a) p2a] env)) _ _ _
  refine qB (qX (unpack_tuple hr.1 ⟨_,f1.1,c1,_,d1⟩ (by rw[Ji r1];rfl) rfl fun h' he=>?_))
  have kk:∀ b p,s1a.heap.get? b=some p->h'.get? b=some p:=fun b p e=>he b p (qP (xP e)) e
  have E':Ext env g1a g1a s1a { s1a with heap:=h' }:=.grow kk rfl
  have R':=R1a.grow (s':={ s1a with heap:=h' }) kk R1a.pos
  have r1':=VRs.ext E' r1
  generalize items.toList=xs at r1'
  refine r1'.twoE fun y1 y2 a1 a2=>?_
  show wpAny _ _ (do holding _ (assign (.Attribute t1a (c.nm n1a) p1a) env _);(do holding _ (assign (.Attribute t2a (c.nm n2a) p2a) env _);pure ())) _ _ _
  exact qB (qD (BN H1a hr h3 R' fun ov s2a g2a R2a X2a E2a=>Yf O hn1 h5 R2a X2a (VR.ext E2a a1) fun s3a R3a E3a =>
   qB (qD (BN H2a hr h7 R3a fun ov s4a g4a R4a X4a E4a=>Yf O hn2 h9 R4a X4a (VR.ext (E2a.trans (E3a.trans E4a)) a2) fun s5a R5a E5a=>qC
    ((N.of h10).nxt R5a (E1a.trans (E'.trans (E2a.trans (E3a.trans (E4a.trans E5a))))))))))) X1a) (DZ hc) (BQ ht)
end
theorem Be{x:Str}{v:Value}:∀ {l:List (Str×Value)},(l.map (·.1)).Nodup->(x,v)∈l->l.lookup x=some v:=by
 intro l
 induction l with
 |nil =>
  intro _ h
  exact nomatch h
 |cons p l ih =>
  intro hn h
  obtain⟨a,b⟩:=p
  obtain⟨h1,h2⟩:=List.nodup_cons.mp hn
  rw[List.lookup_cons]
  rcases List.mem_cons.mp h with e |h
  ·cases e;rw[beq_self_eq_true]
  ·have hm:x∈l.map (·.1):=List.mem_map_of_mem (f:=(·.1)) h
   rw[beq_false_of_ne fun (q:x=a)=>h1 (q▸hm)];exact ih h2 h
theorem ZBE{x:Str}:∀ {l:List (Str×Value)},x∉l.map (·.1)->l.lookup x=none:=by
 intro l0
 induction l0 with
 |nil =>
  intro _
  exact rfl
 |cons p0 l ih =>
  obtain⟨a,b⟩:=p0
  intro h
  rw[List.lookup_cons,beq_false_of_ne fun (q:x=a)=>h (q▸List.mem_cons_self)];exact ih fun q=>h (.tail _ q)
theorem ZAI{x:Str}{l:List (Str×Value)}(hn:(l.map (·.1)).Nodup)(h:x∈l.map (·.1)):(l.lookup x).isSome=true:=by
 obtain⟨p,h1,rfl⟩:=List.mem_map.mp h
 rw[Be hn h1];rfl
noncomputable def Wa(x:Str×Value)(r:List (Str×Value)):Sem (ForInStep (List (Str×Value))):=if (List.lookup x.1 r).isNone=true then pure (ForInStep.yield (r++[(x.1,x.2)])) else pure (ForInStep.yield r)
theorem ZEW{st m:List (Str×Value)}:∀ {l:List (Str×Value)},(∀ p∈l,(st.lookup p.1).isSome=true)->forIn (l++m) st Wa=forIn m st Wa:=by
 intro l0
 induction l0 with
 |nil =>
  intro _
  exact rfl
 |cons p l ih =>
  intro h
  rw[List.cons_append,List.forIn_cons]
  unfold Wa
  rw[Option.isNone_eq_false_iff.mpr (h p (.head _)),if_neg Bool.false_ne_true,pure_bind]
  exact ih fun p hp=>h p (.tail _ hp)
theorem ZCS:∀ {l st:List (Str×Value)},((st++l).map (·.1)).Nodup->forIn l st Wa=pure (st++l):=by
 intro l0
 induction l0 with
 |nil =>
  intro st _
  rw[List.append_nil];rfl
 |cons p l ih =>
  intro st h
  rw[List.append_cons] at h ⊢
  have h':=(List.nodup_append.mp (List.map_append▸h)).1
  rw[List.map_append] at h'
  rw[List.forIn_cons]
  unfold Wa
  rw[ZBE fun q=>(List.nodup_append.mp h').2.2 _ q _ (.head _) rfl,Option.isNone_none,if_pos rfl,pure_bind]
  exact ih h
theorem Tm:∀ {l L:List (Str×Value)},(∀ p∈l,L.lookup p.1=some p.2)->(l.map (·.1)).filterMap (fun n=>(L.lookup n).map fun x=>(n,x))=l:=by
 intro l0
 induction l0 with
 |nil =>
  intro _ _
  exact rfl
 |cons p l ih =>
  intro L h
  rw[List.map_cons,List.filterMap_cons,h p (.head _),ih fun p hp=>h p (.tail _ hp)];rfl
theorem bd1{n k d:Nat}(h1:k<=n)(h2:d<=n)(h3:n<=k+d):k-(n-d)=d-(n-k)/\n-d<=k/\d-(n-k)<=d/\n-k=d-(d-(n-k)):=by
 obtain⟨a,rfl⟩:=Nat.exists_eq_add_of_le h1
 obtain⟨b,rfl⟩:=Nat.exists_eq_add_of_le (Nat.le_of_add_le_add_left h3)
 have hb:b<=k:=Nat.le_of_add_le_add_left (Nat.add_comm k a▸h2:a+b<=a+k)
 rw[Nat.add_sub_cancel_left,Nat.add_sub_cancel_left,Nat.add_comm k a,Nat.add_sub_add_left,Nat.sub_sub_self hb]
 exact⟨rfl,xU _ _,Nat.le_add_left _ _,(Nat.add_sub_cancel a b).symm⟩
theorem Km{α:Type}{M:Model}{A:Around}{p:Prop}[Decidable p]{x y:Sem α}{Q:α->Shared->Prop}{E:Value->Shared->Prop}{s:Shared}(h:¬ p)(k:wpAny M A y Q E s):wpAny M A (if p then x else y) Q E s:=by
 rw[if_neg h];exact k
theorem ZBA{α:Type}{p:α->Bool}{l:List α}(h:∀ x∈l,p x=false):¬ (!(l.filter p).isEmpty)=true:=by
 rw[List.filter_eq_nil_iff.mpr fun x hx q=>Bool.false_ne_true ((h x hx).symm.trans q)];exact Bool.false_ne_true
noncomputable def Jh(as:List Arg):List Str:=as.map (·.arg)
structure Binds(ns:List Str)(xs ds ys:List Value):Prop where
 nodup:ns.Nodup
 h1:xs.length<=ns.length
 h2:ds.length<=ns.length
 h3:ns.length<=xs.length+ds.length
 ys:ys=xs++ds.drop (ds.length-(ns.length-xs.length))
section
variable{ns:List Str}{xs ds ys:List Value}
theorem Binds.len(B:Binds ns xs ds ys):ys.length=ns.length:=by
 rw[B.ys,List.length_append,List.length_drop,<- (bd1 B.h1 B.h2 B.h3).2.2.2];exact Nat.add_sub_cancel' B.h1
theorem Binds.fst(B:Binds ns xs ds ys):(ns.zip ys).map (·.1)=ns:=List.map_fst_zip (qV B.len.symm)
theorem Binds.lt(B:Binds ns xs ds ys):(ns.take xs.length).length=xs.length:=List.length_take_of_le B.h1
theorem Binds.low(B:Binds ns xs ds ys):(ns.take xs.length).zip xs=ns.zip xs:=by
 have:=List.zip_append (l₁:=ns.take xs.length) (r₁:=ns.drop xs.length) (l₂:=xs) (r₂:=[]) B.lt
 rw[List.take_append_drop,List.append_nil,List.zip_nil_right,List.append_nil] at this;exact this.symm
theorem Binds.all(B:Binds ns xs ds ys):ns.zip xs++(ns.drop xs.length).zip (ds.drop (ds.length-(ns.length-xs.length)))=ns.zip ys:=by
 rw[<- B.low,<- List.zip_append B.lt,List.take_append_drop,B.ys]
theorem Binds.nd(B:Binds ns xs ds ys):((ns.zip ys).map (·.1)).Nodup:=by rw[B.fst];exact B.nodup
theorem Binds.given(B:Binds ns xs ds ys){x:Str}(hx:x∈ns.take xs.length):((ns.zip xs).lookup x).isSome=true:=by
 have n:=B.nd
 rw[<- B.all,List.map_append] at n
 refine ZAI (List.nodup_append.mp n).1 ?_
 rw[<- B.low,List.map_fst_zip (qV B.lt)];exact hx
theorem Binds.loop(B:Binds ns xs ds ys):forIn ((ns.drop (ns.length-ds.length)).zip ds) (ns.zip xs) Wa=pure (ns.zip ys):=by
 obtain⟨b1,b2,b3,b4⟩:=bd1 B.h1 B.h2 B.h3
 have e3:((ns.take xs.length).drop (ns.length-ds.length)).zip (ds.take (ds.length-(ns.length-xs.length)))++(ns.drop xs.length).zip (ds.drop (ds.length-(ns.length-xs.length)))=(ns.drop (ns.length-ds.length)).zip ds:=by
  rw[<- List.zip_append (by rw[List.length_drop,B.lt,b1,List.length_take_of_le b3]),List.take_append_drop,<- List.drop_append_of_le_length (by rw[B.lt];exact b2),List.take_append_drop]
 rw[<- e3,ZEW fun p hp=>B.given (List.mem_of_mem_drop (List.of_mem_zip hp).1),ZCS (by rw[B.all];exact B.nd),B.all]
theorem Binds.missing(B:Binds ns xs ds ys):∀ x∈ns.take (ns.length-ds.length),((ns.zip xs).lookup x).isNone=false:=fun x hx =>
 Option.isNone_eq_false_iff.mpr (B.given (List.take_subset_take_left _ (bd1 B.h1 B.h2 B.h3).2.1 hx))
theorem Binds.done(B:Binds ns xs ds ys):(ns++[]).filterMap (fun n=>((ns.zip ys).lookup n).map fun x=>(n,x))=ns.zip ys:=by
 have:=Tm (l:=ns.zip ys) fun p hp=>Be B.nd hp
 rw[B.fst] at this
 rw[List.append_nil,this]
theorem BM{s:Shared}{fd:FuncData}{as:List Arg}{dd:List Expr}(hp:fd.params=⟨[],as,none,[],[],none,dd⟩)(B:Binds (Jh as) xs ds ys){r:Option (Array Value)}(hr:(r.getD #[]).toList=ds)
  (hs:∀ (M:Model) (A:Around) (E:Value->Shared->Prop) (Q:Option (Array Value)->Shared->Prop),Q r s->wpAny M A (seqItems? fd.defaults) Q E s):BindsTo s fd ⟨xs,[]⟩ ((Jh as).zip ys):=fun M A E Q hq=>by
 have hD:ds.drop (ds.length-(Jh as).length)=ds:=by rw[Nat.sub_eq_zero_of_le B.h2,List.drop_zero]
 unfold bindArgs
 rw[hp]
 refine qB (qC (qB (hs _ _ _ _ ?_)))
 rw[hr]
 refine Km (fun q=>Nat.not_lt.mpr B.h1 (qH (Bool.and_eq_true_iff.mp q).1)) (Km ?_ ?_)
 ·refine ZBA ?_
  show ∀ x∈(Jh as).take ((Jh as).length-(ds.drop (ds.length-(Jh as).length)).length),(((Jh as).zip xs).lookup x).isNone=false
  rw[hD];exact B.missing
 ·show wpAny M A (forIn (((Jh as).drop ((Jh as).length-(ds.drop (ds.length-(Jh as).length)).length)).zip (ds.drop (ds.length-(Jh as).length))) ((Jh as).zip xs) Wa >>= _) Q E s
  rw[hD,B.loop]
  refine qB (qC (qB (qC (Km (fun q=>nomatch q) (qC ?_)))))
  show Q ((Jh as++[]).filterMap (fun n=>(((Jh as).zip ys).lookup n).map fun x=>(n,x))) s
  rw[B.done];exact hq
end

section
variable{c:Cx}{r:Nat}{env env':Env}{A:Around}{U U' U1a:St}{g g1a:Gh}{s s' s1a s2a:Shared}{E:Value->Shared->Prop}{Q:Value->Shared->Prop}{v:Mine.V}{D:Addr->Prop}
noncomputable def Gh.inn(g:Gh)(env:Env):Gh:={ g with X:=fun a=>g.X a\/FA env a }
structure Ent(env':Env)(s s':Shared):Prop where
 k:∀ b o,s.heap.get? b=some o->s'.heap.get? b=some o
 new:s.heap.objs.size<=env'.locals
 gens:gos s'=gos s
theorem Ent.not(e:Ent env' s s'){a:Addr}{o:Obj}(h:s.heap.get? a=some o):¬ FA env' a:=fun z=>Qu h e.new z
theorem Fz.enter{a:Addr}{o:Obj}(e:Ent env' s s')(h:Fz env g s.heap a o):Fz env' (g.inn env) s'.heap a o:=⟨e.k _ _ h.1,h.2.1,fun z=>z.elim h.2.2.1 h.2.2.2,e.not h.1⟩
theorem VR.enter{v:Mine.V}{x:Value}(e:Ent env' s s')(h:Vx c env g s v x):Vx c env' (g.inn env) s' v x:=h.mono (fun J J z=>z.enter e) (fun J J z=>z)
theorem VRs.enter{v:List Mine.V}{x:List Value}(e:Ent env' s s')(h:Vxs c env g s v x):Vxs c env' (g.inn env) s' v x:=h.mono (fun J J z=>z.enter e) (fun J J z=>z)
theorem Rel.enter(R:Rel c env g U s)(e:Ent env' s s')(hp:0<s'.toks){l:List (Nat×Mine.V)}{m:Str->Option Value}(hn:s'.heap.Ns env'.locals m)(hl:Q3 c env' (Mine.Fz env' (g.inn env) s'.heap) g.rho l m):Rel c env' (g.inn env) { U with loc:=l } s':=
 ⟨⟨fun a o q=>(R.kin a o q).enter e,fun a q=>(R.wob a q).imp fun o z=>e.k _ _ z,fun a q=>q.elim (fun q=>(R.xob a q).imp fun o z=>e.k _ _ z) fun q=>(R.fob a q).imp fun o z=>e.k _ _ z,fun a q=>q▸nsO hn,
  fun a w=>⟨fun z=>z.elim (R.dis a w).1 (R.dis a w).2,(R.wob a w).elim fun J q=>e.not q⟩,⟨m,hn,hl⟩,fun id ob q=>(R.obs id ob q).imp fun J=>Exists.imp fun J z=>⟨z.1,z.2.mono (fun J J z=>z.enter e) (fun J J z=>z) fun J=>e.k _ _⟩,R.cW,R.inj,R.nx,R.ps⟩,hp⟩
theorem Fz.leave{a:Addr}{o:Obj}(hX:g1a.X=(g.inn env).X)(h:Fz env' g1a s1a.heap a o):Fz env { g1a with X:=g.X } s1a.heap a o:=
 ⟨h.1,h.2.1,fun z=>h.2.2.1 (hX▸Or.inl z),fun z=>h.2.2.1 (hX▸Or.inr z)⟩
theorem VR.leave{v:Mine.V}{x:Value}(hX:g1a.X=(g.inn env).X)(h:Vx c env' g1a s1a v x):Vx c env { g1a with X:=g.X } s1a v x:=h.mono (fun J J z=>z.leave hX) (fun J J z=>z)
theorem Ext.leave(e:Ent env' s s')(x:Ext env' (g.inn env) g1a s' s1a):Ext env g { g1a with X:=g.X } s s1a:=
 ⟨fun a o q w J=>x.fz a o (e.k _ _ q) w (e.not q),x.cs,rfl,x.gens.trans e.gens⟩
theorem Rel.leave(R:Rel c env g U s)(e:Ent env' s s')(x:Ext env' (g.inn env) g1a s' s1a)(R1a:Rel c env' g1a U1a s1a):Rel c env { g1a with X:=g.X } { U1a with loc:=U.loc } s1a:=by
 have X:=Ext.leave e x
 have kA:∀ a o,FA env a->s.heap.get? a=some o->s1a.heap.get? a=some o:=fun a o f q=>(x.fz a o (e.k _ _ q) (fun w=>(R.dis a w).2 f) (e.not q)).1
 obtain⟨m,hm,hl⟩:=R.loc
 exact⟨⟨fun a o q=>(R1a.kin a o q).leave x.X,R1a.wob,fun a q=>R1a.xob a (x.X▸.inl q),fun a q=>(R.fob a q).imp fun o z=>kA _ _ q z,
  fun a w=>⟨fun z=>(R1a.dis a w).1 (x.X▸.inl z),fun z=>(R1a.dis a w).1 (x.X▸.inr z)⟩,⟨m,hm.at fun p q=>kA _ _ rfl q,hl.mono (fun J J=>X.Fz) fun J J=>X.rho⟩,
  fun id ob q=>(R1a.obs id ob q).imp fun J=>Exists.imp fun J z=>⟨z.1,z.2.mono (fun J J z=>z.leave x.X) (fun J J z=>z) fun J z=>z⟩,R1a.cW,R1a.inj,R1a.nx,R1a.ps⟩,R1a.pos⟩
end
def dIs(v:Mine.V):Value->Bool
 |.none=>v.isNone
 |.bool b=>v.isBool b
 |.int i _=>v.isInt i
 |_=>false
theorem Zs{c:Cx}{F:Addr->Obj->Prop}{ρ:Id->Option Addr}{v:Mine.V}{x:Value}(h:dIs v x=true):VR c F ρ v x:=by
 cases x<;>first |exact ff h |skip
 ·cases v<;>first |exact ff h |exact .none
 ·cases v<;>first |exact ff h |(cases bE h;exact .bool _)
 ·cases v<;>first |exact ff h |(cases bE h;exact .int _ _)
noncomputable def Z6:List Mine.V->List Value->Bool
 |[],xs=>xs.isEmpty
 |v::l,xs=>(match xs with
  |[]=>false
  |x::xs=>dIs v x&&Z6 l xs)
theorem DH{c:Cx}{F:Addr->Obj->Prop}{ρ:Id->Option Addr}:∀ {l:List Mine.V} {xs:List Value},Z6 l xs=true->VRs c F ρ l xs
 |[],[],_=>.nil
 |[],_::_,h=>ff h
 |_::_,[],h=>ff h
 |_::_,_::_,h=>bA h fun h1 h2=>.cons (Zs h1) (DH h2)
noncomputable def W3(o:Obj):Option (List Value):=match o.data with
 |.seq items _=>some items.toList
 |_=>none
def NG(K:Frag):Value->Option (List Value)
 |.none=>some []
 |.ref T=>bo (K.lookup T) W3
 |_=>none
theorem Ks{o:Obj}{l:List Value}(h:W3 o=some l):∃ items n,o.data=.seq items n/\items.toList=l:=by
 unfold W3 at h
 generalize o.data=d at h
 cases d<;>first |exact nn h |(cases h;exact⟨_,_,rfl,rfl⟩)
theorem Bl{K:Frag}{v:Value}{ds:List Value}(h:NG K v=some ds){s:Shared}(X:K.In s.heap):
  ∃ r:Option (Array Value),(r.getD #[]).toList=ds/\∀ (M:Model) (A:Around) (E:Value->Shared->Prop) (Q:Option (Array Value)->Shared->Prop),Q r s->wpAny M A (seqItems? v) Q E s:=by
 cases v<;>first |exact nn h |skip
 ·cases h;exact⟨none,rfl,fun M A E Q hq=>qC hq⟩
 ·exact boE (show bo (K.lookup _) W3=some ds from h) fun o h1 h2=>let ⟨items,n,h3,h4⟩:=Ks h2;⟨some items,h4,fun M A E Q hq=>wpAny_seqItems (X _ _ h1) h3 hq⟩
structure DefAt(c:Cx)(f:Nat)(m:MFun)(fd:FuncData)(body:List Stmt)(as:List Arg)(dd:List Expr)(ds:List Value):Prop where
 at_:∃ oc od osl,c.K.lookup (c.fA f)=some ⟨oc,od,.func fd,osl⟩
 code:codeIn c.K fd.code fd.qualname=true
 body:fd.body=.stmts body
 params:fd.params=⟨[],as,none,[],[],none,dd⟩
 names:Jh as=m.ps.map c.nm
 nodup:(Jh as).Nodup
 dflts:NG c.K fd.defaults=some ds
 dsok:Z6 m.ds ds=true
 dlen:ds.length<=(Jh as).length
 kind:fd.scope.kind=.function
 gen:fd.scope.isGenerator=false
 co:fd.scope.isCoroutine=false
 plocal:∀ x∈Jh as,fd.scope.names.lookup x=some .local\/fd.scope.names.lookup x=some .cell
 glob:fd.globals=mainGlobals
 blt:fd.builtins=builtinsNs
 clo:fd.closure=[]
section
variable{B:List (Str×Value)->(Str->Option Value)->Str->Option Value}{n:Str}{x:Value}
noncomputable def upd(m:Str->Option Value)(n:Str)(x:Value):Str->Option Value:=fun y=>if y=n then some x else m y
theorem ZEg(h0:∀ m,B [] m=m)(h1:∀ a b r m,B ((a,b)::r) m=B r m\/B ((a,b)::r) m=B r (upd m a b)):∀ (l:List (Str×Value)) (m:Str->Option Value),n∉l.map (·.1)->B l m n=m n:=fun l0=>by
 induction l0 with
 |nil =>
  exact fun m J=>congrFun (h0 m) n
 |cons p0 l ih =>
  obtain⟨a,b⟩:=p0
  exact fun m h=>(h1 a b l m).elim (fun e=>(congrFun e n).trans (ih m fun q=>h (.tail _ q)))
   fun e=>(congrFun e n).trans ((ih _ fun q=>h (.tail _ q)).trans (if_neg fun q=>h (by rw[q];exact .head _)))
theorem GT(h0:∀ m,B [] m=m)(h1:∀ a b r m,B ((a,b)::r) m=B r m\/B ((a,b)::r) m=B r (upd m a b))(h2:∀ r m,B ((n,x)::r) m=B r (upd m n x)):∀ (l:List (Str×Value)) (m:Str->Option Value),(l.map (·.1)).Nodup->(n,x)∈l->B l m n=some x:=by
 intro l
 induction l with
 |nil =>
  intro _ _ h
  exact nomatch h
 |cons p l ih =>
  intro m hn h
  obtain⟨a,b⟩:=p
  obtain⟨n1,n2⟩:=List.nodup_cons.mp hn
  rcases List.mem_cons.mp h with e |h
  ·cases e;rw[h2,ZEg h0 h1 l _ n1];exact if_pos rfl
  ·exact(h1 a b l m).elim (fun e=>(congrFun e n).trans (ih _ n2 h)) fun e=>(congrFun e n).trans (ih _ n2 h)
theorem DO{k:Str->Option NameKind}{l:List (Str×Value)}{m:Str->Option Value}(hk:k n=some .local)(hn:(l.map (·.1)).Nodup)(h:(n,x)∈l):bindL k l m n=some x:=
 GT (B:=bindL k) (fun J=>rfl) (fun a b r m=>Classical.byCases (fun e:k a=some .local=>.inr (congrArg (bindL k r) (if_pos e))) fun e=>.inl (congrArg (bindL k r) (if_neg e))) (fun r m=>congrArg (bindL k r) (if_pos hk)) l m hn h
theorem ZCf{k:Str->Option NameKind}{l:List (Str×Value)}{m:Str->Option Value}(hk:¬ k n=some .local)(hn:(l.map (·.1)).Nodup)(h:(n,x)∈l):bindC k l m n=some x:=
 GT (B:=bindC k) (fun J=>rfl) (fun a b r m=>Classical.byCases (fun e:k a=some .local=>.inl (congrArg (bindC k r) (if_pos e))) fun e=>.inr (congrArg (bindC k r) (if_neg e))) (fun r m=>congrArg (bindC k r) (if_neg hk)) l m hn h
end
section
variable{c:Cx}{r:Nat}{env env':Env}{A:Around}{U U' U1a:St}{g g1a:Gh}{s s' s1a s2a:Shared}{E:Value->Shared->Prop}{Q:Value->Shared->Prop}{v:Mine.V}{D:Addr->Prop}
theorem Cx.Ok.noLimit(O:c.Ok)(R:Rel c env g U s):s.heap.NoLimit:=
 ⟨fun J=>none,⟨_,#[],0,(R.kin _ _ O.lim).1,rfl,(fun e he=>nomatch he),fun name=>rfl⟩,rfl⟩
theorem ZCh{F ρ}{n:Nat}{v:Mine.V}:∀ {ps:List Nat} {as:List Mine.V} {xs:List Value},VRs c F ρ as xs->JA (ps.zip as) n=some v->∃ x,(c.nm n,x)∈(ps.map c.nm).zip xs/\VR c F ρ v x:=by
 intro ps
 induction ps with
 |nil =>
  intro _ _ _ h
  exact nn h
 |cons p ps ih =>
  intro as _ X h
  cases as with
  |nil=>exact nn h
  |cons a as =>
   exact X.consE (P:=fun xs=>∃ x,(c.nm n,x)∈((p::ps).map c.nm).zip xs/\VR c F ρ v x) fun y ys ha X=>by
     by_cases e:p=n
     ·cases (if_pos e).symm.trans h;exact⟨y,e▸.head _,ha⟩
     ·exact(ih X ((if_neg e).symm.trans h)).imp fun J z=>⟨.tail _ z.1,z.2⟩
theorem ZFn(R:Rel c env g U s){a:Addr}(h:s.heap.objs.size<=a):¬ g.W a/\¬ g.X a/\¬ FA env a:=
 ⟨fun q=>(R.wob _ q).elim fun J e=>Qu e h rfl,fun q=>(R.xob _ q).elim fun J e=>Qu e h rfl,fun q=>(R.fob _ q).elim fun J e=>Qu e h rfl⟩
theorem ZEY{u r L:Nat}(h:u+20*(r+1)+300<L):u+3+20*r+300<L:=
 qL (qO (by rw[Nat.mul_succ,Nat.add_assoc,Nat.add_comm 3];exact qI (qI (by decide) _) _) _) h
theorem GH{u r L:Nat}(h:u+(r+1)<L):u+1+r<L:=by rw[Nat.add_assoc,Nat.add_comm 1];exact h
theorem JP.deeper(hr:JP A (r+1)):JP (A.deeper env') r:=⟨hr.1,GH hr.2.1,ZEY hr.2.2⟩

theorem ZFX{fl:FL}{w:Mine.V}{fw:Flow}(hw:QY fl=some w)(X:FlR c env' g1a s1a fl fw)(k:∀ x,Vx c env' g1a s1a w x->Q x s1a):XD Q E (.ok (.ret (match (generalizing:=false) fw with |.ret v=>v |_=>.none))) s1a:=by
 cases fl with
 |next=>cases X;cases hw;exact k _ .none
 |ret u=>obtain⟨x,rfl,hx⟩:=X;cases hw;exact k x hx
 |_=>exact nn hw
theorem ZGy(O:c.Ok){f:Nat}{m:MFun}{fd:FuncData}{body:List Stmt}{as:List Arg}{dd:List Expr}{ds:List Value}{C:Ora}(Df:DefAt c f m fd body as dd ds)
  (H:∀ L,EnvOk (callEnvC fd L (c.fA f))->Qy c r (callEnvC fd L (c.fA f)) body (exs C m.body))
  {vs:List Mine.V} {xs:List Value} (hr:JP A (r+1)) (hf:Qx C m vs U=some (v,U')) (R:Rel c env g U s) (X:Vxs c env g s vs xs) (N:Nxt c env g s v U' Q):codeAny c.M A (.call (.ref (c.fA f)) ⟨xs,[]⟩) (XD Q E) s:=
 boE hf fun avs ha h=>bnE h fun fl U1a hx h=>boE h fun w hw e0=>gdE ha fun hl e2=>bA hl fun l1 l2=>by
  cases e2
  have l1:=qE l1
  have l2:=Nat.eq_of_beq_eq_true l2
  obtain⟨oc,od,osl,ho⟩:=Df.at_
  obtain⟨rr,hrr,hrun⟩:=Bl Df.dflts R.kinD
  have dv:=DH (c:=c) (F:=Mine.Fz env g s.heap) (ρ:=g.rho) Df.dsok
  have hpl:m.ps.length=(Jh as).length:=by rw[Df.names,List.length_map]
  rw[dv.length,X.length,hpl] at l2 hx
  rw[X.length,hpl] at l1
  have B:Binds (Jh as) xs ds _:=⟨Df.nodup,l1,Df.dlen,by rw[<- l2,List.length_append,X.length];exact qI (by rw[List.length_drop,dv.length];exact xU _ _) _,rfl⟩
  have XX:=X.append (dv.drop (ds.length-((Jh as).length-xs.length)))
  generalize xs++ds.drop (ds.length-((Jh as).length-xs.length))=ys at B XX
  refine codeAny_call_function (body:=body) (qL (qK _ _) hr.2.1) (R.kin _ _ ho).1 rfl Df.co Df.gen Df.body (codeRec_of R.kinD Df.code) (BM Df.params B hrr hrun _ _ _ _ ?_)
  rw[Df.clo]
  refine Qi R.pos (wpAny_newFunctionEnv_cells Df.kind (fun x hx=>?_) fun env1 he s1a hic htk=>?_)
  ·have hm:x.1∈Jh as:=by rw[<- B.fst];exact List.mem_map_of_mem (f:=(·.1)) hx
   exact(Df.plocal _ hm).imp id fun e=>⟨e,cellsFrom_some _ _ _ (.inl e)⟩
  ·have he:env1=callEnvC fd s.heap.objs.size (c.fA f):=he
   subst he
   obtain⟨h',tk,rfl,kk⟩:=hic.done
   have e:Ent (callEnvC fd s.heap.objs.size (c.fA f)) s { s with heap:=h',toks:=tk }:=⟨kk,qF _,rfl⟩
   refine⟨(O.noLimit R).keeps kk,codeAny_func (H _ ⟨Df.kind,Df.glob,Df.blt⟩ hr.deeper hx (R.enter e htk hic.toInCall.ns fun n v q=>?_) fun fw s1a g1a R1a X1a E1a=>?_)⟩
   ·obtain⟨x,h1,h2⟩:=ZCh (XX.enter e) q
    rw[<- Df.names] at h1
    refine⟨fun z=>⟨x,DO z B.nd h1,h2⟩,fun z=>?_⟩
    obtain⟨ca,hca⟩:=Option.isSome_iff_exists.mp (cellsFrom_some (x:=c.nm n) fd.scope.names (s.heap.objs.size+1) [] (.inl z))
    obtain⟨o,hob,hod⟩:=hic.cell _ _ hca
    have hab:s.heap.objs.size<ca:=hic.above _ _ (mem_of_lookup hca)
    obtain⟨w1,w2,w3⟩:=ZFn R (xG hab)
    exact⟨ca,o,x,hca,⟨hob,w1,fun q=>q.elim w2 w3,Nat.ne_of_gt hab⟩,by rw[hod,ZCf (by rw[z];exact fun q=>nomatch q) B.nd h1],h2⟩
   ·have R2a:=R.leave e E1a R1a
    have E2a:=Ext.leave (g:=g) (env:=env) e E1a

    exact ZFX (E:=E) hw X1a fun x hv=>N.of e0 x s1a _ R2a (hv.leave E1a.X) E2a
end
noncomputable def Hr(c:Cx)(x:Str)(D f:Nat):Bool:=(nsIn c.K mainGlobals x==some (some (.ref (c.cA D))))&&(keepIn c.K (.ref (c.cA D))&&(makesIn c.K (c.cA D)&&((findIn c.K (.ref (c.cA D)) "__init__"==some (some (.ref (c.fA f))))&&(isFn c.K (.ref (c.fA f))&&decide (D<c.nC)))))
section
variable{c:Cx}{r:Nat}{env env':Env}{A:Around}{U U' U1a:St}{g g1a:Gh}{s s' s1a s2a:Shared}{E:Value->Shared->Prop}{Q:Value->Shared->Prop}{v:Mine.V}{D:Addr->Prop}
theorem JO.up{r r':Nat}{C:Ora}(h:JO c r C)(k:r<=r'):JO c r' C:=fun J J J J J J J J J J J J hr VV hf R X N=>h (hr.le k) VV hf R X N
theorem ZEm{u r L:Nat}(h:u+20*(r+1)+300<L):u+1+20*r+300<L:=
 qL (qO (by rw[Nat.mul_succ,Nat.add_assoc,Nat.add_comm 1];exact qI (qI (by decide) _) _) _) h
theorem JP.under{A:Around}{r:Nat}{C:Addr}{rest:List Value}(h:JP A (r+1)):JP (A.under (.builtin "type.__call__" ⟨.ref C::rest,[]⟩)) r:=⟨h.1,GH h.2.1,ZEm h.2.2⟩
theorem ZB2{lv:LV}{o:Mine.V}{U2a:St}{h':Heap}{x dx:Addr}{D:Nat}{P:Mine.V->Prop}(R1a:Rel c env g1a U1a s1a)(h3:U1a.alloc lv (.inst D [])=some (o,U2a))(hlv:lv≠.frz)(d6:D<c.nC)
  (K:Keep env (fun J=>False) s1a.heap h') (hfr:∀ a p,s1a.heap.get? a=some p->a≠dx/\a≠x) (n1:h'.get? x=some (instObj (c.cA D) dx)) (n2:h'.get? dx=some (dictOf [] 0)) (hdx:dx<x)
  (k:∀ g2a,Rel c env g2a U2a { s1a with heap:=h' }->Vx c env g2a { s1a with heap:=h' } o (.ref x)->Ext env g1a g2a s1a { s1a with heap:=h' }->P o):P o:=
 Kk (P:=fun o=>(∀ g2a,Rel c env g2a U2a { s1a with heap:=h' }->Vx c env g2a { s1a with heap:=h' } o (.ref x)->Ext env g1a g2a s1a { s1a with heap:=h' }->P o)->P o) h3 hlv R1a.toRel0 (fun id hid hU k =>
  have hxf:Mine.Fz env (g1a.add id x dx) h' x (instObj (c.cA D) dx):=⟨n1,fun z=>z.elim (fun w=>(R1a.wob x w).elim fun p e=>(hfr x p e).2 rfl) fun e=>Nat.ne_of_gt hdx e,fun z=>(R1a.xob x z).elim fun p e=>(hfr x p e).2 rfl,fun z=>(R1a.fob x z).elim fun p e=>(hfr x p e).2 rfl⟩
  k _ ⟨R1a.toRel0.add (ob:=.inst D []) K (fun a p e=>(hfr a p e).1) ⟨_,n2⟩ hid (fun k1 k2=>⟨d6,qG _,hxf,[],0,n2,.nil⟩) hU,R1a.pos⟩ (.obj Gh.add_rho) (Ext.add K (fun a p e=>(hfr a p e).1) hid rfl)) k
theorem ZGY(O:c.Ok)(VV:EnvOk env){x:Str}{es:List Expr}{C:Ora}{mes:List ME}{D f:Nat}{lv:LV}{np pos}(hs:es.all Je=true)(hk:env.kindOf x=some .globalImplicit)(hx:(x==("__debug__":Str))=false)
  (hd:Hr c x D f=true) (hlv:lv≠.frz) (HC:JO c r C) (H2:J6 c (r+1) env es (evs C mes)):
  JD c (r+1) env (.Call (.Name x np) es [] pos) (ev C (.new D f mes lv)):=fun J J J J J J E Q hr hf R N=>bnE hf fun vs U1a h1 h=>bnE h fun o U2a h3 h=>bnE h fun w U3a h5 h=>gdE h fun hw h6=>bA hd fun d1 d=>bA d fun d2 d=>bA d fun d3 d=>bA d fun d4 d=>bA d fun d5 d6=>by
 rw[arm_eval_Call_Name',UT hs]
 refine qB (Name_function_global VV.kind hk (qB ((looks_nsIn R.kinD (VV.glob▸bE d1:nsIn c.K env.globals x=some (some (.ref (c.cA D))))).here (qC ?_))) hx)
 refine callWith_of (P:=c.K.In) KQ (keeps_K d2) (UU (H2 hr h1 R fun xs s1a g1a R1a X1a E1a=>⟨R1a.kinD,wpAny_call ?_⟩))
 obtain⟨m,hm,-⟩:=R1a.loc
 have F:Fr {} env.locals s1a.heap m:=⟨hm,fun b o e=>absurd (xP e) (xK _),qG _⟩
 have N0:News {} env.locals s1a.heap (ZE s1a.heap env.locals env.locals):=fun p hp=>let z:=Wi.mp (show (p.1,p.2)∈_ from hp);⟨z.1,z.2.2,rfl⟩
 refine make_K F N0 R1a.kinD d3 (bE d4) (bE d5) fun x dx h' F' N' hlt hdx=>?_
 have n1:=N' _ (.head _)
 have n2:=N' _ (.tail _ (.head _))
 have hfr:∀ a p,s1a.heap.get? a=some p->a≠dx/\a≠x:=fun a p e=>by
  by_cases hl:a=env.locals
  ·exact⟨fun q=>n2.2.1 (q▸hl),fun q=>n1.2.1 (q▸hl)⟩
  ·have:=hlt (a,p) (Wi.mpr ⟨e,hl,hl⟩)
   exact⟨qP this,qP (Nat.lt_trans this hdx)⟩
 have K:Keep env (fun J=>False) s1a.heap h':=.of_ns (fun b p J hl e=>(N' (b,p) (.tail _ (.tail _ (Wi.mpr ⟨e,hl,hl⟩)))).1) hm F'.ns
 refine ZB2 (P:=fun o=>C f (o::vs) U2a=some (w,U3a)->some (o,U3a)=_->_) R1a h3 hlv (qH d6) K hfr n1.1 n2.1 hdx (fun g2a R2a hv E2a h5 h6=>?_) h5 h6
 refine codeAny_mono (HC (E:=E) (Q:=fun v s'=>v=.none/\Q (.ref x) s') hr.under VV h5 R2a (.cons hv (X1a.ext E2a)) fun y s3a g3a R3a X3a E3a=>?_) fun rr s' z=>?_
 ·cases w<;>first |exact ff hw |skip
  exact X3a.noneE ⟨rfl,N.of h6 _ _ _ R3a (hv.ext E3a) (E1a.trans (E2a.trans E3a))⟩
 ·rcases rr with e |(v |_ |_ |_)<;>first |exact z |exact z.elim
end
def U4(c:Cx)(r:Nat)(env:Env)(ifs:List Expr)(f:St->Option (Bool×St)):Prop:=
 ∀ ⦃A:Around⦄ ⦃U:St⦄ ⦃b:Bool⦄ ⦃U':St⦄ ⦃g:Gh⦄ ⦃s:Shared⦄ ⦃E:Value->Shared->Prop⦄ ⦃Q:Bool->Shared->Prop⦄,
  JP A r->f U=some (b,U')->Rel c env g U s->Qh c env g s U' (Q b) ->
  wpAny c.M A (forIn ifs true fun c r=>if r=true then do let ok <- PySem.isTrue c env (eval c env);pure (ForInStep.yield ok) else pure (ForInStep.yield r)) Q E s
noncomputable def UG(x:Nat):List (Nat×Mine.V)->List (Nat×Mine.V)
 |[]=>[]
 |p::l=>if p.1=x then UG x l else p::UG x l
theorem BG(x n:Nat):∀ l:List (Nat×Mine.V),JA (UG x l) n=if n=x then none else JA l n:=fun l0=>by
 induction l0 with
 |nil =>
  exact by by_cases h:n=x<;>first |exact(if_pos h).symm |exact(if_neg h).symm
 |cons p l ih =>
  show JA (if p.1=x then UG x l else p::UG x l) n=if n=x then none else (if p.1=n then some p.2 else JA l n)
  by_cases h:p.1=x
  ·rw[if_pos h,ih]
   by_cases h2:n=x
   ·rw[if_pos h2,if_pos h2]
   ·rw[if_neg h2,if_neg h2,if_neg fun q=>h2 (q.symm.trans h)]
  ·rw[if_neg h]
   show (if p.1=n then some p.2 else JA (UG x l) n)=_
   rw[ih]
   by_cases h2:n=x
   ·rw[if_pos h2,if_pos h2,if_neg fun q=>h (q.trans h2)]
   ·rw[if_neg h2,if_neg h2]
structure CompS(c:Cx)(env:Env)(scope:Scope)(x:Nat)(cl:List (Str×Addr)):Prop where
 clos:closureFor scope env=pure cl
 cell:∀ n,(relabel scope env).names.lookup (c.nm n)=some .cell->cl.lookup (c.nm n)=env.cells.lookup (c.nm n)/\env.kindOf (c.nm n)=some .cell
 noCell:∀ y∈scope.names,y.2≠.cell
 kind:scope.kind=.function
 names:∀ y∈scope.names,y.2=.local->scope.names.lookup y.1=some .local
 hx:scope.names.lookup (c.nm x)=some .local
 loc:∀ n,(relabel scope env).names.lookup (c.nm n)=some .local->n=x
section
variable{c:Cx}{r:Nat}{env env' cenv:Env}{A:Around}{U U' U1a τ:St}{g g1a g2a g':Gh}{s s' s1a s2a:Shared}{E:Value->Shared->Prop}{Q:Value->Shared->Prop}{v:Mine.V}{D:Addr->Prop}
theorem ZCX{C:Ora}:U4 c r env [] (tst C (.k (.bool true))):=fun J J J J J J J J J hf R N=>by
 cases (show some (true,_)=some (_,_) from hf)
 rw[List.forIn_nil]
 exact qC (N _ _ R .refl)
theorem ZCW{C:Ora}{e:Expr}{m:ME}(H:Jb c r env e (tst C m)):U4 c r env [e] (tst C m):=fun J J J J J J J J hr hf R N=>wpAny_tests_one (H hr hf R N)
theorem Rel.reloc(R:Rel c env g U s){l:List (Nat×Mine.V)}(h:∀ m,Q3 c env (Mine.Fz env g s.heap) g.rho l m):Rel c env g { U with loc:=l } s:=
 ⟨⟨R.kin,R.wob,R.xob,R.fob,R.dis,R.loc.imp fun m z=>⟨z.1,h m⟩,R.obs,R.cW,R.inj,R.nx,R.ps⟩,R.pos⟩

structure CC(c:Cx)(env cenv:Env)(I:Nat)(S:Nat->Heap->Prop)(g1a:Gh)(s1a:Shared):Prop where
 hI:I=s1a.heap.objs.size
 hK:cenv.locals=I+2
 frm:∀ i h h',S i h->(∀ b,(b=I\/∃ o,Fz env g1a s1a.heap b o)->∀ o,h.get? b=some o->h'.get? b=some o)->S i h'
 fob:∃ o,s1a.heap.get? env.locals=some o
theorem CC.lt{I S}(k:CC c env cenv I S g1a s1a){a:Addr}{p:Obj}(e:s1a.heap.get? a=some p):a<I:=k.hI▸xP e
theorem CC.neI{I S}(k:CC c env cenv I S g1a s1a){a:Addr}{p:Obj}(e:s1a.heap.get? a=some p):a≠I:=qP (k.lt e)
theorem CC.neL{I S}(k:CC c env cenv I S g1a s1a){a:Addr}{p:Obj}(e:s1a.heap.get? a=some p):a≠I+1:=qP (qU (k.lt e))
theorem CC.neK{I S}(k:CC c env cenv I S g1a s1a){a:Addr}{p:Obj}(e:s1a.heap.get? a=some p):¬ FA cenv a:=fun q=>qP (qU (qU (k.lt e))) (Eq.trans q k.hK)
theorem CC.nKI{I S}(k:CC c env cenv I S g1a s1a):¬ FA cenv I:=fun q=>qP (qU (xC I)) (Eq.trans q k.hK)
theorem CC.nKL{I S}(k:CC c env cenv I S g1a s1a):¬ FA cenv (I+1):=fun q=>qP (xC (I+1)) (Eq.trans q k.hK)
theorem CC.new{I S}(k:CC c env cenv I S g1a s1a)(a:Addr)(z:FA cenv a):s1a.heap.objs.size<=a:=by rw[show a=I+2 from k.hK▸z,<- k.hI];exact qK _ _
def cX(g1a:Gh)(env:Env)(I:Nat):Addr->Prop:=fun a=>(g1a.X a\/(a=I\/a=I+1))\/FA env a
structure CI(c:Cx)(env cenv:Env)(I:Nat)(S:Nat->Heap->Prop)(g1a:Gh)(s1a:Shared)(i:Nat)(ys:Array Value)(n:Nat)(done:List Mine.V)(g2a:Gh)(s2a:Shared):Prop where
 X:g2a.X=cX g1a env I
 E:Ext env g1a { g2a with X:=g1a.X } s1a s2a
 S:S i s2a.heap
 L:IsL s2a.heap (I+1) ys n
 V:Vxs c cenv g2a s2a done ys.toList
 fr:∀ p,s1a.heap.get? env.locals=some p->s2a.heap.get? env.locals=some p
section
variable{I:Nat}{S:Nat->Heap->Prop}{i i' n n':Nat}{ys ys':Array Value}{done done':List Mine.V}
theorem CI.xI(z:CI c env cenv I S g1a s1a i ys n done g2a s2a){a:Addr}(e:a=I):g2a.X a:=by rw[z.X];exact .inl (.inr (.inl e))
theorem CI.xL(z:CI c env cenv I S g1a s1a i ys n done g2a s2a){a:Addr}(e:a=I+1):g2a.X a:=by rw[z.X];exact .inl (.inr (.inr e))
theorem CI.xE(z:CI c env cenv I S g1a s1a i ys n done g2a s2a){a:Addr}(e:FA env a):g2a.X a:=by rw[z.X];exact .inr e
theorem CI.inn(k:CC c env cenv I S g1a s1a)(z:CI c env cenv I S g1a s1a i ys n done g2a s2a){a:Addr}{o:Obj}(q:Mine.Fz env g1a s1a.heap a o):Mine.Fz cenv g2a s2a.heap a o:=
 ⟨(z.E.Fz q).1,(z.E.Fz q).2.1,fun w=>by rw[z.X] at w;exact w.elim (fun w=>w.elim q.2.2.1 fun w=>w.elim (k.neI q.1) (k.neL q.1)) q.2.2.2,k.neK q.1⟩
theorem CI.step(k:CC c env cenv I S g1a s1a)(z:CI c env cenv I S g1a s1a i ys n done g2a s2a)(R2a:Rel c cenv g2a τ s2a)(e:Ext cenv g2a g' s2a s'):CI c env cenv I S g1a s1a i ys n done g' s':=
 ⟨e.X.trans z.X,⟨fun a o q w f=>(z.E.fz a o q w f).elim fun h w'=>e.fz a o h w' fun q'=>Qu q (k.new a q') rfl,fun i p q=>e.cs i p (z.E.cs i p q),rfl,e.gens.trans z.E.gens⟩,
  k.frm _ _ _ z.S fun b hb o eo=>hb.elim (fun q=>(e.fz _ _ eo (fun w=>(R2a.dis _ w).1 (z.xI q)) (q▸k.nKI)).1) fun⟨o',q⟩=>by
   have q':=z.inn k q
   cases q'.1.symm.trans eo
   exact(e.fz _ _ eo q'.2.1 q'.2.2.2).1,
  (e.fz _ _ z.L (fun w=>(R2a.dis _ w).1 (z.xL rfl)) k.nKL).1,z.V.ext e,fun p ep=>(e.fz _ _ (z.fr p ep) (fun w=>(R2a.dis _ w).1 (z.xE rfl)) (k.neK ep)).1⟩
theorem CI.iter{S':Nat->Heap->Prop}(k:CC c env cenv I S g1a s1a)(z:CI c env cenv I S g1a s1a i ys n done g2a s2a)(hk:∀ b p,¬ b=I->s2a.heap.get? b=some p->s'.heap.get? b=some p)(hg:gos s'=gos s2a)(hS:S' i' s'.heap):CI c env cenv I S' g1a s1a i' ys n done g2a s':=
 ⟨z.X,z.E.changed (D:=(·=I)) (fun a e=>e▸qV k.hI.symm) hk hg,hS,hk _ _ (Nat.succ_ne_self I) z.L,z.V.changed (D:=(·=I)) (fun a e=>z.xI e) hk,fun p e=>hk _ _ (k.neI e) (z.fr p e)⟩
theorem CI.app(k:CC c env cenv I S g1a s1a)(z:CI c env cenv I S g1a s1a i ys n done g2a s2a)(hk:∀ b p,¬ b=I+1->s2a.heap.get? b=some p->s'.heap.get? b=some p)(hg:gos s'=gos s2a)(hl:IsL s'.heap (I+1) ys' n')(hv:Vxs c cenv g2a s' done' ys'.toList):
  CI c env cenv I S g1a s1a i ys' n' done' g2a s':=
 ⟨z.X,z.E.changed (D:=(·=I+1)) (fun a e=>by rw[e,<- k.hI];exact xD _) hk hg,k.frm _ _ _ z.S fun b hb o eo=>hk b o (hb.elim (fun q=>by rw[q];exact(Nat.succ_ne_self I).symm) fun⟨_,q⟩=>k.neL q.1) eo,hl,hv,fun p e=>hk _ _ (k.neL e) (z.fr p e)⟩
theorem CI.loc{scope:Scope}{x:Nat}{cl:List (Str×Addr)}(k:CC c env (compEnvC scope cl (I+2) env) I S g1a s1a)(C:CompS c env scope x cl)(R1a:Rel c env g1a U1a s1a)(z:CI c env (compEnvC scope cl (I+2) env) I S g1a s1a i ys n done g2a s2a)(m:Str->Option Value):
  Q3 c (compEnvC scope cl (I+2) env) (Mine.Fz (compEnvC scope cl (I+2) env) g2a s2a.heap) g2a.rho (UG x U1a.loc) m:=fun n v e=>by
 rw[BG] at e
 by_cases hne:n=x
 ·rw[if_pos hne] at e;exact nn e
 ·rw[if_neg hne] at e
  refine⟨fun q=>absurd (C.loc n q) hne,fun q=>?_⟩
  obtain⟨q1,q2⟩:=C.cell n q
  obtain⟨_,_,hl⟩:=R1a.loc
  obtain⟨ca,o',y,e1,e2,e3,r⟩:=(hl n v e).2 q2
  exact⟨ca,o',y,q1.trans e1,z.inn k e2,e3,r.mono (fun J J=>z.inn k) fun J J=>z.E.rho⟩
end
theorem Th{x n:Nat}{w:Mine.V}{l:List (Nat×Mine.V)}{v:Mine.V}(e:JA ((x,w)::l) n=some v):JA (Mine.put (UG x l) x w) n=some v:=by
 rw[Qj]
 by_cases h:x=n
 ·exact(if_pos h).trans ((if_pos h).symm.trans e)
 ·exact(if_neg h).trans ((BG x n l).trans ((if_neg fun q=>h q.symm).trans ((if_neg h).symm.trans e)))
inductive CompI(c:Cx)(env cenv:Env)(S:Nat->Heap->Prop)(g1a:Gh)(s1a:Shared)(U1a:St)(x:Nat)(l:List Mine.V)(body:Mine.V->St->Option (Option Mine.V×St))(rs:List Mine.V)(U':St)(k:Nat)(s2a:Shared):Prop
 |mk (i:Nat) (τ:St) (g2a:Gh) (ys:Array Value) (n:Nat) (done rest:List Mine.V) (hk:k=l.length+1-i) (hi:i<=l.length) (hτ:τ.loc=U1a.loc) (R:Rel c cenv g2a { τ with loc:=UG x U1a.loc } s2a) (Z:CI c env cenv s1a.heap.objs.size S g1a s1a i ys n done g2a s2a)
   (hd:done.length<=i) (hN:J3 body (l.drop i) τ=some (rest,U')) (hrs:rs=done++rest)
theorem BS{K:Addr}(R:Rel c env (g1a.hid (·=K)) U s1a)(hn:∀ a,g1a.X a->a≠K)(hf:K≠env.locals)(hs:∀ b p,¬ b=K->s1a.heap.get? b=some p->s'.heap.get? b=some p)(hp:0<s'.toks):Rel c env g1a U s':=
 R.drop (D:=(·=K)) (X:=g1a.X) (fun a x=>.inl x) (fun a x=>.inr x) hn hs (fun a e q=>hf (e.symm.trans q)) hp
structure CEnd(c:Cx)(env:Env)(g:Gh)(s:Shared)(v:Mine.V)(U':St)(g':Gh)(s':Shared)(K L:Addr)(mm:Str->Option Value):Prop where
 R:Rel c env (g'.hid (·=K)) U' s'
 hK:∀ a p,s.heap.get? a=some p->¬ g.W a->¬ FA env a->a≠K
 hKX:∀ a,g'.X a->a≠K
 hKL:K≠env.locals
 V:Vx c env (g'.hid (·=K)) s' v (.ref L)
 E:Ext env g g' s s'
 ns:s'.heap.Ns K mm
theorem ZCY{S}{i n:Nat}{ys:Array Value}{done:List Mine.V}{mm:Str->Option Value}(k:CC c env cenv s1a.heap.objs.size S g1a s1a)(R1a:Rel c env g1a U1a s1a)(E1a:Ext env g g1a s s1a)(z:CI c env cenv s1a.heap.objs.size S g1a s1a i ys n done g2a s2a)
  {l:List (Nat×Mine.V)} (R2a:Rel c cenv g2a { U' with loc:=l } s2a) (hτ:U'.loc=U1a.loc) (hmm:s2a.heap.Ns cenv.locals mm) (hk:∀ b p,¬ b=s1a.heap.objs.size->s2a.heap.get? b=some p->s'.heap.get? b=some p) (hg:gos s'=gos s2a) (hp:0<s'.toks):
  CEnd c env g s (.list done) U' { g2a with X:=g1a.X } s' (s1a.heap.objs.size+2) (s1a.heap.objs.size+1) mm:=by
 obtain⟨m,hm,hl⟩:=R1a.loc
 have z':CI c env cenv s1a.heap.objs.size (fun J J=>True) g1a s1a i ys n done g2a s':=z.iter k hk hg trivial
 have kW:∀ a,g2a.W a->¬ a=s1a.heap.objs.size:=fun a w q=>(R2a.dis a w).1 (z.xI q)
 have kF:∀ a o,Mine.Fz cenv g2a s2a.heap a o->Mine.Fz env (({ g2a with X:=g1a.X }:Gh).hid (·=s1a.heap.objs.size+2)) s'.heap a o:=fun a o q =>
  ⟨hk _ _ (fun w=>q.2.2.1 (z.xI w)) q.1,q.2.1,fun w=>w.elim (fun w=>q.2.2.1 (by rw[z.X];exact .inl (.inl w))) fun w=>q.2.2.2 (w.trans k.hK.symm),fun w=>q.2.2.1 (z.xE w)⟩
 have hmm':s'.heap.Ns (s1a.heap.objs.size+2) mm:=k.hK▸hmm.at fun p e=>hk _ _ (fun q=>k.nKI q.symm) e
 exact⟨⟨⟨fun a o q=>kF _ _ (R2a.kin a o q),fun a w=>(R2a.wob a w).imp fun o e=>hk _ _ (kW a w) e,fun a q=>q.elim (fun q=>(R1a.xob a q).elim fun p h=>(R2a.xob a (by rw[z.X];exact .inl (.inl q))).imp fun o e=>hk _ _ (k.neI h) e) fun q=>q▸nsO hmm',
   fun a q=>(R1a.fob a q).imp fun o e=>by cases (show a=env.locals from q);exact z'.fr o e,
   fun a w=>⟨fun q=>q.elim (fun q=>(R2a.dis a w).1 (by rw[z.X];exact .inl (.inl q))) fun q=>(R2a.dis a w).2 (q.trans k.hK.symm),fun q=>(R2a.dis a w).1 (z.xE q)⟩,⟨m,hm.at fun p e=>z'.fr p e,hτ▸hl.mono (fun a o q=>kF a o (z.inn k q)) fun J J=>z.E.rho⟩,
   fun id ob q=>(R2a.obs id ob q).imp fun J=>Exists.imp fun J q=>⟨q.1,q.2.mono kF (fun J J q=>q) fun J=>hk _ _ (kW _ (R2a.cW _ _ _ q.1))⟩,R2a.cW,R2a.inj,R2a.nx,R2a.ps⟩,hp⟩,
  fun a p e w f q=>k.neK (E1a.fz a p e w f).1 (q.trans k.hK.symm),fun a q e=>(R1a.xob a q).elim fun p h=>k.neK h (e.trans k.hK.symm),fun q=>(R1a.fob _ rfl).elim fun p h=>k.neK h (q.symm.trans k.hK.symm),
  .list (n:=n) ⟨z'.L,fun w=>(R2a.dis _ w).1 (z.xL rfl),fun q=>q.elim (fun q=>(R1a.xob _ q).elim fun p h=>k.neL h rfl) fun q=>absurd q (Nat.succ_ne_self _).symm,fun q=>(R1a.fob _ rfl).elim fun p h=>k.neL h q.symm⟩ (z.V.mono kF fun J J q=>q),E1a.trans z'.E,hmm'⟩

variable{scope:Scope}{x:Nat}{cl:List (Str×Addr)}{C:Ora}{elt it:Expr}{mi me mc:ME}{px:Pos}{ifs:List Expr}{pos:Pos}{use:Option (Value->Sem Unit)}{Q':Value->Shared->Prop}
theorem ZEa{S}(k:CC c env cenv s1a.heap.objs.size S g1a s1a)(R1a:Rel c env g1a U1a s1a)(z:CI c env cenv s1a.heap.objs.size S g1a s1a 0 #[] 0 [] { g1a with X:=cX g1a env s1a.heap.objs.size } s'){o:Obj}(k0:∀ b p,s1a.heap.get? b=some p->s'.heap.get? b=some p)(hI:s'.heap.get? s1a.heap.objs.size=some o)
  {m:Str->Option Value} (hn:s'.heap.Ns (s1a.heap.objs.size+2) m) {l:List (Nat×Mine.V)} (hl:∀ m,Q3 c cenv (Mine.Fz cenv { g1a with X:=cX g1a env s1a.heap.objs.size } s'.heap) g1a.rho l m) (hp:0<s'.toks):Rel c cenv { g1a with X:=cX g1a env s1a.heap.objs.size } { U1a with loc:=l } s':=
 ⟨⟨fun a o q=>z.inn k (R1a.kin a o q),fun a q=>(R1a.wob a q).imp fun o e=>k0 _ _ e,fun a q=>q.elim (fun q=>q.elim (fun q=>(R1a.xob a q).imp fun o e=>k0 _ _ e) fun q=>q.elim (fun q=>⟨o,q▸hI⟩) fun q=>⟨_,q▸z.L⟩) fun q=>(R1a.fob a q).imp fun o e=>k0 _ _ e,
  fun a q=>(k.hK▸q:a=s1a.heap.objs.size+2)▸nsO hn,fun a w=>(R1a.wob a w).elim fun p h=>⟨fun q=>q.elim (fun q=>q.elim (R1a.dis a w).1 fun q=>q.elim (k.neI h) (k.neL h)) (R1a.dis a w).2,k.neK h⟩,⟨m,k.hK▸hn,hl m⟩,
  fun id ob q=>(R1a.obs id ob q).imp fun J=>Exists.imp fun J q=>⟨q.1,q.2.mono (fun J J=>z.inn k) (fun J J q=>q) fun J=>k0 _ _⟩,R1a.cW,R1a.inj,R1a.nx,R1a.ps⟩,hp⟩
theorem ZBY(O:c.Ok)(VV:EnvOk env)(F:CompS c env scope x cl)(H2:∀ L,EnvOk (compEnvC scope cl L env)->JD c r (compEnvC scope cl L env) elt (ev C me))(H3:∀ L,EnvOk (compEnvC scope cl L env)->U4 c r (compEnvC scope cl L env) ifs (tst C mc))
  (hr:JP A r) {l rs:List Mine.V} {o:Obj} {fp P S} (T:ItF c env g1a s1a l o fp P S) (K:CC c env (compEnvC scope cl (s1a.heap.objs.size+2) env) s1a.heap.objs.size S g1a s1a) (R1a:Rel c env g1a U1a s1a) (E1a:Ext env g g1a s s1a) (hlb:l.length<=sizeLine)
  (N:∀ g' s' mm,CEnd c env g s (.list rs) U' g' s' (s1a.heap.objs.size+2) (s1a.heap.objs.size+1) mm->compPost c.M A E use Q' (.ref (s1a.heap.objs.size+1)) (s1a.heap.objs.size+2) (.ok .next) s')
  {s3a:Shared} (I0:CompI c env (compEnvC scope cl (s1a.heap.objs.size+2) env) S g1a s1a U1a x l (Jl (ev C me) (ev C mc) x U1a.loc) rs U' (l.length+1) s3a):
  codeAny c.M A (.compLoop (.ListComp elt [⟨.Name (c.nm x) px,it,ifs,0⟩] scope pos) 0 (.ref s1a.heap.objs.size) (.ref (s1a.heap.objs.size+1)) (compEnvC scope cl (s1a.heap.objs.size+2) env)) (compPost c.M A E use Q' (.ref (s1a.heap.objs.size+1)) (s1a.heap.objs.size+2)) s3a:=by
 have VVc:EnvOk (compEnvC scope cl (s1a.heap.objs.size+2) env):=⟨F.kind,VV.glob,VV.blt⟩
 have hkx:(compEnvC scope cl (s1a.heap.objs.size+2) env).kindOf (c.nm x)=some .local:=lookup_relabel_local F.hx
 have W:=T.walks A hr.1
 have kk:∀ {h h':Heap},(∀ b p,b∉[s1a.heap.objs.size]->h.get? b=some p->h'.get? b=some p)->∀ b p,¬ b=s1a.heap.objs.size->h.get? b=some p->h'.get? b=some p:=fun h b p hb=>h b p fun q=>hb (List.mem_singleton.mp q)
 refine codeAny_compLoop_tests (I:=CompI c env (compEnvC scope cl (s1a.heap.objs.size+2) env) S g1a s1a U1a x l (Jl (ev C me) (ev C mc) x U1a.loc) rs U') (fun k s2a I=>?_) (l.length+1) I0 (fun J=>rfl)
 cases I with
 |mk i τ g2a ys n done rest hk' hi hτ R2a z hdl hN hrs =>
  by_cases hlt:i<l.length
  ·refine Qi R2a.pos (W.item i s2a _ _ hlt z.S fun y h' tk hPy hS' hk2 htk=>?_)
   obtain⟨w,hw,hwy⟩:=T.item i y hlt hPy
   have R3a:Rel c _ g2a { τ with loc:=UG x U1a.loc } { s2a with heap:=h',toks:=tk }:=R2a.changed (D:=(·=s1a.heap.objs.size)) (fun a e=>z.xI e) (kk hk2) (fun a e=>e▸(T.alive _ _ hS').imp fun J z=>z.1) (fun a e=>e▸K.nKI) htk
   have z3:=z.iter (s':={ s2a with heap:=h',toks:=tk }) (i':=i+1) K (kk hk2) rfl hS'
   have hd:l.drop i=w::l.drop (i+1):=by
    obtain⟨h1,h2⟩:=List.getElem?_eq_some_iff.mp hw
    rw[List.drop_eq_getElem_cons h1,h2]
   rw[hd] at hN
   refine bnE (show bn (Jl (ev C me) (ev C mc) x U1a.loc w τ) (fun o U1'=>bn (J3 (Jl (ev C me) (ev C mc) x U1a.loc) (l.drop (i+1)) U1') fun l U2a=>some (Dk o l,U2a))=some (rest,U') from hN) fun ov τ' hb hN=>bnE hN fun rest' τe hNb hNc=>?_
   refine bnE (show bn (ev C mc { τ with loc:=(x,w)::U1a.loc }) (fun w y1a=>bo (Mine.Jk y1a w) fun c=>match c with |false=>some (none,{ y1a with loc:=U1a.loc }) |true=>bn (ev C me y1a) fun z y2a=>some (some z,{ y2a with loc:=U1a.loc }))=some (ov,τ') from hb) fun cw y1a hb1 hb=>boE hb fun tb hb3 hb4=>?_
   refine wpAny_assign_Name (WI O VVc hkx R3a (hwy.mono (fun J J=>z3.inn K) fun J J=>z3.E.rho) fun s4a R4a E4a=>H3 _ VVc hr (UE hb1 hb3) (R4a.sub (U':={ τ with loc:=(x,w)::U1a.loc }) (fun n v e=>Th e) (fun J J e=>e) (qF _) (fun J e=>e)) fun s5a g5a R5a E5a=>?_)
   have z5:=z3.step K R3a (E4a.trans E5a)
   cases tb with
   |false =>
    cases hb4
    cases hNc
    exact⟨l.length+1-(i+1),hk'▸Kq hlt,.mk (i+1) { y1a with loc:=U1a.loc } g5a ys n done rest' rfl hlt rfl (R5a.reloc (z5.loc K F R1a)) z5 (xO hdl) hNb hrs⟩
   |true =>
    refine bnE hb4 fun u y2a hb5 hb6=>?_
    cases hb6
    cases hNc
    refine H2 _ VVc hr hb5 R5a fun zv s6a g6a R6a X6a E6a=>?_
    have z6:=z5.step K R5a E6a
    refine wpAny_list_append_plain (items:=ys) ⟨n,z6.L⟩ (fun h7a hl7 hs7=>?_) (by rw[Ji z6.V];exact qA hdl (qA hi hlb))
    obtain⟨n',hl7⟩:=hl7
    have hk7:∀ b p,¬ b=s1a.heap.objs.size+1->s6a.heap.get? b=some p->h7a.get? b=some p:=fun b p hb e=>(hs7.2 b hb).trans e
    have ch:∀ a,a=s1a.heap.objs.size+1->g6a.X a:=fun a e=>z6.xL e
    have R7:Rel c _ g6a y2a { s6a with heap:=h7a }:=R6a.changed (D:=(·=s1a.heap.objs.size+1)) ch hk7 (fun a e=>e▸⟨_,hl7⟩) (fun a e=>e▸K.nKL) R6a.pos
    have z7:=z6.app (s':={ s6a with heap:=h7a }) (ys':=ys.push zv) (n':=n') (done':=done++[u]) K hk7 rfl hl7 (by rw[Array.toList_push];exact(z6.V.changed (D:=(·=s1a.heap.objs.size+1)) ch hk7).append (.cons (X6a.changed (D:=(·=s1a.heap.objs.size+1)) ch hk7) .nil))
    exact⟨l.length+1-(i+1),hk'▸Kq hlt,.mk (i+1) { y2a with loc:=U1a.loc } g6a (ys.push zv) n' (done++[u]) rest' rfl hlt rfl (R7.reloc (z7.loc K F R1a)) z7 (by rw[List.length_append];exact qJ hdl) hNb (by rw[hrs,List.append_assoc];rfl)⟩
  ·cases xN hi (Nat.not_lt.mp hlt)
   rw[List.drop_length] at hN
   cases (show some ([],τ)=some (rest,U') from hN)
   refine Qi R2a.pos (W.done s2a _ _ z.S fun h' tk hk2 htk=>?_)
   obtain⟨mm,hmm,-⟩:=R2a.loc
   rw[List.append_nil] at hrs
   exact N _ _ mm (hrs▸ZCY (s':={ s2a with heap:=h',toks:=tk }) K R1a E1a z R2a hτ hmm (kk hk2) rfl htk)
theorem Bm(O:c.Ok)(VV:EnvOk env)(hs:∀ x,foldedSetIterable it env x=pure x)(F:CompS c env scope x cl)(H:JD c r env it (ev C mi))
  (H2:∀ L,EnvOk (compEnvC scope cl L env)->JD c r (compEnvC scope cl L env) elt (ev C me)) (H3:∀ L,EnvOk (compEnvC scope cl L env)->U4 c r (compEnvC scope cl L env) ifs (tst C mc))
  {p0:Pos} (hr:JP A r) (hf:ev C (.comp me x mi mc) U=some (v,U')) (R:Rel c env g U s) (N:∀ g' s' K L mm,CEnd c env g s v U' g' s' K L mm->compPost c.M A E use Q' (.ref L) K (.ok .next) s'):
  wpAny c.M A (comprehension (.ListComp elt [⟨.Name (c.nm x) px,it,ifs,0⟩] scope pos) scope env p0 (newList []) false (eval it env) use) Q' E s:=
 bnE hf fun w U1a h1 h=>boE h fun l h3 h=>bdE h fun hlb h=>bnE h fun rs U2a h5 h6=>by
  cases h6
  refine wpAny_comprehension_free (use:=use) rfl hs F.clos F.kind F.names (H hr h1 R fun xv s1a g1a R1a X1a E1a=>Dw h3 R1a X1a fun o fp P S T=>?_)
  refine wpAny_newObj_type (wpAny_newFunctionEnv F.noCell (fun y hy=>nomatch hy) (fun h1a hns1 hsb1=>?_) F.kind)
  have e1:(s1a.heap.push o).objs.size=s1a.heap.objs.size+1:=Heap.size_push ..
  have e2:((s1a.heap.push o).push { cls:=.type "list",dict:=none,data:=.seq ([]:List Value).toArray }).objs.size=s1a.heap.objs.size+2:=by rw[Heap.size_push,e1]
  dsimp only at hns1 hsb1 ⊢
  rw[e1]
  rw[e2] at hns1 hsb1 ⊢
  have W:=T.walks A hr.1
  have k1:∀ b p,(s1a.heap.push o).get? b=some p->h1a.get? b=some p:=fun b p e=>(hsb1.2 b (qP (qU (e1▸xP e)))).trans (xA _ (xA _ e))
  have k0:∀ b p,s1a.heap.get? b=some p->h1a.get? b=some p:=fun b p e=>k1 b p (xA _ e)
  have hL:IsL h1a (s1a.heap.objs.size+1) #[] 0:=(hsb1.2 _ (qP (xC _))).trans (xA _ (by rw[<- e1];exact qZ _ rfl))
  have hI:h1a.get? s1a.heap.objs.size=some o:=k1 _ _ (qZ _ T.fr)
  have K:CC c env (compEnvC scope cl (s1a.heap.objs.size+2) env) s1a.heap.objs.size S g1a s1a:=⟨rfl,rfl,fun i h h' hS q=>W.frame _ _ _ hS fun b hb=>q b (T.fp b hb),R1a.fob _ rfl⟩
  have S0:S 0 h1a:=W.frame _ _ _ T.s0 fun b J=>k1 b
  have z:CI c env (compEnvC scope cl (s1a.heap.objs.size+2) env) s1a.heap.objs.size S g1a s1a 0 #[] 0 [] { g1a with X:=cX g1a env s1a.heap.objs.size } { s1a with heap:=h1a,toks:=s1a.toks+([]:List (Str×Value)).length }:=
   ⟨rfl,⟨fun a p e w J=>⟨k0 _ _ e,w⟩,fun J J e=>e,rfl,rfl⟩,S0,hL,.nil,k0 _⟩
  have RC:=ZEa K R1a z k0 hI hns1 (z.loc K F R1a) R1a.pos
  have loop:=ZBY (E:=E) (use:=use) (Q':=Q') (elt:=elt) (it:=it) (px:=px) (ifs:=ifs) (pos:=pos) O VV F H2 H3 hr T K R1a E1a (qA hlb (by rw[sizeLine_eq];decide)) (fun g' s' mm h=>N _ _ _ _ mm h) (.mk 0 U1a _ #[] 0 [] rs rfl (qG _) rfl RC z (qG _) h5 rfl)
  exact codeAny_compStart_list loop (W.self 0 _ _ _ S0 loop)
theorem ZEK(O:c.Ok)(VV:EnvOk env)(hs:∀ x,foldedSetIterable it env x=pure x)(F:CompS c env scope x cl)(H:JD c r env it (ev C mi))
  (H2:∀ L,EnvOk (compEnvC scope cl L env)->JD c r (compEnvC scope cl L env) elt (ev C me)) (H3:∀ L,EnvOk (compEnvC scope cl L env)->U4 c r (compEnvC scope cl L env) ifs (tst C mc)):
  JD c r env (.ListComp elt [⟨.Name (c.nm x) px,it,ifs,0⟩] scope pos) (ev C (.comp me x mi mc)):=fun J J J J J J J J hr hf R N=>by
 rw[eval_ListComp]
 refine Bm O VV hs F H H2 H3 (use:=none) hr hf R fun g' s' K L mm e=>⟨mm,e.ns,fun h' hs'=>?_⟩
 have hk:∀ b p,¬ b=K->s'.heap.get? b=some p->h'.get? b=some p:=fun b p hb e=>(hs'.2 b hb).trans e
 exact N _ _ _ (BS e.R e.hKX e.hKL hk e.R.pos) (e.V.mono (fun a o z=>⟨hk _ _ (fun q=>z.2.2.1 (.inr q)) z.1,z.2.1,fun q=>z.2.2.1 (.inl q),z.2.2.2⟩) fun J J z=>z) ⟨fun a p q w f=>⟨hk _ _ (e.hK a p q w f) (e.E.fz a p q w f).1,(e.E.fz a p q w f).2⟩,e.E.cs,e.E.X,e.E.gens⟩
theorem ZEB(O:c.Ok)(VV:EnvOk env)(hs:∀ x,foldedSetIterable it env x=pure x)(F:CompS c env scope x cl){n:Nat}{np spos:Pos}(hk:env.kindOf (c.nm n)=some .local)
  (hsw:swapsWith (.ListComp elt [⟨.Name (c.nm x) px,it,ifs,0⟩] scope pos) (some (.Name (c.nm n) np)) spos.line env=pure true) (H:JD c r env it (ev C mi))
  (H2:∀ L,EnvOk (compEnvC scope cl L env)->JD c r (compEnvC scope cl L env) elt (ev C me)) (H3:∀ L,EnvOk (compEnvC scope cl L env)->U4 c r (compEnvC scope cl L env) ifs (tst C mc)):
  JW c r env (.Assign [.Name (c.nm n) np] (.ListComp elt [⟨.Name (c.nm x) px,it,ifs,0⟩] scope pos) spos) (exc C (.asg n (.comp me x mi mc))):=fun A J fl U' g s E Q hr hf R N=>bnE hf fun v U1a h1 h2=>by
 rw[exec_Assign_Name_used _ _ _ _ hsw]
 refine qB (qX (qB ?_))
 show wpAny _ A (do let _ <- comprehension (.ListComp elt [⟨.Name (c.nm x) px,it,ifs,0⟩] scope pos) scope env _ (newList []) false (eval it env) (some (assign (.Name (c.nm n) np) env))) _ _ s
 refine qB (xT (Bm (Q':=fun J s'=>Q .next s') O VV hs F H H2 H3 (use:=some (assign (.Name (c.nm n) np) env)) hr h1 R fun g' s' K L mm e=>?_) (fun J s' hq=>qC (qC hq)) fun J J e=>e)
 show wpAny _ _ (assign (.Name (c.nm n) np) env (.ref L)) _ _ _
 refine wpAny_assign_Name (WI O VV hk e.R e.V fun s'' R'' E''=>⟨mm,e.ns.at fun p q=>(E''.fz _ _ q (fun w=>(e.R.dis _ w).1 (.inr rfl)) e.hKL).1,fun h' hs'=>?_⟩)
 have hk:∀ b p,¬ b=K->s''.heap.get? b=some p->h'.get? b=some p:=fun b p hb e=>(hs'.2 b hb).trans e
 exact(N.of h2).nxt (BS R'' e.hKX e.hKL hk R''.pos) ⟨fun a p q w f=>(e.E.fz a p q w f).elim fun z w'=>⟨hk _ _ (e.hK a p q w f) (E''.fz a p z w' f).1,w'⟩,e.E.cs,e.E.X,E''.gens.trans e.E.gens⟩
end
section
variable{c:Cx}{r:Nat}{env env':Env}
theorem ZEM(O:c.Ok)(VV:EnvOk env){n:Nat}{pos}(hk:env.kindOf (c.nm n)=some .cell):JD c r env (.Name (c.nm n) pos) (fun U=>bo (JA U.loc n) fun v=>some (v,U)):=fun J J J J J J J J J hf R N=>boE hf fun w hv e=>by
 obtain⟨m,hm,hl⟩:=R.loc
 obtain⟨ca,o,x,h1,h2,h3,r⟩:=(hl n _ hv).2 hk
 exact wpAny_Name (wpAny_loadName_cell VV.kind hk h1 ⟨o,h2.1,h3⟩ ((N.of e).same R r)) (O.noDbg n)
end
def XZ(env:Env):Prop:=∀ x,env.kindOf x=some .cell->(env.cells.lookup x).isSome=true
noncomputable def Z7(env:Env)(p:Str×NameKind)(cs:List (Str×Addr)):Sem (ForInStep (List (Str×Addr))):=match p with
 |(name,kind)=>if (kind==NameKind.free)=true then do let a <- cellOf env name;pure (ForInStep.yield ((name,a)::cs)) else pure (ForInStep.yield cs)
theorem ZCa{env:Env}:∀ (l:List (Str×NameKind)) (acc:List (Str×Addr)),(∀ p∈l,p.2=.free->(env.cells.lookup p.1).isSome=true)->(∀ n a,acc.lookup n=some a->env.cells.lookup n=some a)->∃ cl,forIn l acc (Z7 env)=pure cl/\(∀ n a,cl.lookup n=some a->env.cells.lookup n=some a)/\∀ n,((n,NameKind.free)∈l\/(acc.lookup n).isSome=true)->(cl.lookup n).isSome=true:=fun l0=>by
 induction l0 with
 |nil =>
  exact fun acc J ha=>⟨acc,rfl,ha,fun n h=>h.elim (fun h=>nomatch h) id⟩
 |cons p0 l ih =>
  obtain⟨m,k⟩:=p0
  intro acc hl ha
  rw[List.forIn_cons]
  by_cases hk:(k==NameKind.free)=true
  ·obtain⟨a,hs⟩:=Option.isSome_iff_exists.mp (hl (m,k) (.head _) (beq_iff_eq.mp hk))
   have hs:env.cells.lookup m=some a:=hs
   have hf:Z7 env (m,k) acc=pure (ForInStep.yield ((m,a)::acc)):=by
    show (if (k==NameKind.free)=true then (cellOf env m >>= fun a=>pure (ForInStep.yield ((m,a)::acc))) else _)=_
    rw[if_pos hk];unfold cellOf;rw[hs];rfl
   obtain⟨cl,h0,h1,h2⟩:=ih ((m,a)::acc) (fun p hp=>hl p (.tail _ hp)) fun n a' e=>by
    rw[List.lookup_cons] at e
    by_cases hn:n=m
    ·subst hn;rw[beq_self_eq_true] at e;exact hs.trans e
    ·rw[beq_false_of_ne hn] at e;exact ha n a' e
   refine⟨cl,by rw[hf];exact h0,h1,fun n h=>h2 n ?_⟩
   have hd:((List.lookup m ((m,a)::acc))).isSome=true:=by rw[List.lookup_cons,beq_self_eq_true];rfl
   refine h.elim (fun h=>(List.mem_cons.mp h).elim (fun h=>.inr ?_) .inl) fun h=>.inr ?_
   ·cases h;exact hd
   ·by_cases hn:n=m
    ·subst hn;exact hd
    ·rw[List.lookup_cons,beq_false_of_ne hn];exact h
  ·have hf:Z7 env (m,k) acc=pure (ForInStep.yield acc):=if_neg hk
   obtain⟨cl,h0,h1,h2⟩:=ih acc (fun p hp=>hl p (.tail _ hp)) ha
   exact⟨cl,by rw[hf];exact h0,h1,fun n h=>h2 n (h.elim (fun h=>(List.mem_cons.mp h).elim (fun h=>absurd (by cases h;rfl) hk) .inl) .inr)⟩
theorem Tw{env:Env}{scope:Scope}(h:∀ p∈scope.names,p.2=.free->(env.cells.lookup p.1).isSome=true):
  ∃ cl,closureFor scope env=pure cl/\(∀ n a,cl.lookup n=some a->env.cells.lookup n=some a)/\∀ n,(n,NameKind.free)∈scope.names->(cl.lookup n).isSome=true:=by
 obtain⟨cl,h0,h1,h2⟩:=ZCa (env:=env) scope.names [] h fun J J e=>nomatch e
 refine⟨cl,?_,h1,fun n h=>h2 n (.inl h)⟩
 show (forIn scope.names [] (Z7 env) >>= fun cs=>pure cs)=_
 rw[h0];rfl
theorem KJ{α:Type}{l:List (Str×α)}{x:Str}{a:α}(h:l.lookup x=some a):(x,a)∈l:=by
 obtain⟨l1,l2,e,-⟩:=List.lookup_eq_some_iff.mp h
 rw[e];exact List.mem_append_right _ (.head _)
theorem BF{env:Env}{scope:Scope}{x:Str}{k:NameKind}(h:(relabel scope env).names.lookup x=some k):((x,NameKind.free)∈scope.names/\env.kindOf x=some .cell/\k=.cell)\/(x,k)∈scope.names:=by
 obtain⟨⟨a,b⟩,hp,e⟩:=List.mem_map.mp (KJ h)
 have e:(if (b==NameKind.free&&env.scope.kind==ScopeKind.function&&env.kindOf a==some NameKind.cell)=true then (a,NameKind.cell) else (a,b))=(x,k):=e
 by_cases q:(b==NameKind.free&&env.scope.kind==ScopeKind.function&&env.kindOf a==some NameKind.cell)=true
 ·rw[if_pos q] at e
  cases e
  exact bA q fun q q2=>bA q fun q1 J=>.inl ⟨bE q1▸hp,bE q2,rfl⟩
 ·rw[if_neg q] at e;cases e;exact .inr hp
noncomputable def U7(scope:Scope)(kn:Str->Option NameKind)(x:Str):Option NameKind:=(scope.names.map fun (n,k)=>if (k==.free&&kn n==some .cell) then (n,NameKind.cell) else (n,k)).lookup x
noncomputable def WK(c:Cx)(scope:Scope)(kn:Str->Option NameKind)(x:Nat):Bool:=
 (scope.kind==.function)&&(scope.names.all (fun p=>!(p.2==.cell))&&(scope.names.all (fun p=>!(p.2==.local)||(scope.names.lookup p.1==some .local&&(p.1==c.nm x||p.1==(".0":Str)))) &&
  ((scope.names.lookup (c.nm x)==some .local)&&scope.names.all (fun p=>!(p.2==.free)||kn p.1==some .cell))))
def JY(c:Cx)(r:Nat)(env:Env)(e:Expr)(C:Ora)(m:ME):Prop:=JD c r env e (ev C m)/\Jb c r env e (tst C m)
theorem JY.plain{c:Cx}{r:Nat}{env:Env}{e:Expr}{C:Ora}{m:ME}(h:JD c r env e (ev C m))(hp:NT e=true):JY c r env e C m:=⟨h,ZAw hp h⟩
theorem sE{a b:Str}{P:Str->Prop}(h:(a==b)=true)(k:P b):P a:=beq_iff_eq.mp h▸k
theorem kE{a:Option NameKind}{b:NameKind}(h:(a==some b)=true):a=some b:=beq_iff_eq.mp h
theorem UN{α:Type}{l:List α}{P:List α->Prop}(h:l.isEmpty=true)(f:P []):P l:=by
 cases l
 ·exact f
 ·exact ff h
noncomputable def l1{α:Type}(l:List α)(k:α->Bool):Bool:=match l with |[a]=>k a |_=>false
theorem Uj{α:Type}{l:List α}{k:α->Bool}{P:List α->Prop}(h:l1 l k=true)(f:∀ a,k a=true->P [a]):P l:=by
 match l with
 |[]=>exact ff h
 |[a]=>exact f a h
 |_::_::_=>exact ff h
noncomputable def l2{α:Type}(l:List α)(k:α->α->Bool):Bool:=match l with |[a,b]=>k a b |_=>false
theorem XH{α:Type}{l:List α}{k:α->α->Bool}{P:List α->Prop}(h:l2 l k=true)(f:∀ a b,k a b=true->P [a,b]):P l:=by
 cases l with
 |nil=>exact ff h
 |cons a r =>
  cases r with
  |nil=>exact ff h
  |cons b r =>
   cases r with
   |nil=>exact f a b h
   |cons _ _=>exact ff h
section
variable{e:Expr}{P:Expr->Prop}
def Xe(e:Expr)(k:Const->Bool):Bool:=ctq fun h=>Expr.Constant.elim (motive_1:=fun J=>Bool) e h fun v J J=>k v
@[elab_as_elim] theorem KS{k}(h:Xe e k=true)(f:∀ v n p,k v=true->P (.Constant v n p)):P e:=Jf h fun q=>Expr.Constant.elim (motive_1:=fun e=>Xe e k=true->P e) e q (fun J J J h=>f _ _ _ h) h
def UI(e:Expr)(k:Str->Bool):Bool:=ctq fun h=>Expr.Name.elim (motive_1:=fun J=>Bool) e h fun y J=>k y
@[elab_as_elim] theorem Uq{k}(h:UI e k=true)(f:∀ y p,k y=true->P (.Name y p)):P e:=Jf h fun q=>Expr.Name.elim (motive_1:=fun e=>UI e k=true->P e) e q (fun J J h=>f _ _ h) h
def NL(e:Expr)(k:Str->Pos->Bool):Bool:=ctq fun h=>Expr.Name.elim (motive_1:=fun J=>Bool) e h fun y p=>k y p
@[elab_as_elim] theorem ZBc{k}(h:NL e k=true)(f:∀ y p,k y p=true->P (.Name y p)):P e:=Jf h fun q=>Expr.Name.elim (motive_1:=fun e=>NL e k=true->P e) e q (fun J J h=>f _ _ h) h
def Q8(e:Expr)(k:Expr->Str->Pos->Bool):Bool:=ctq fun h=>Expr.Attribute.elim (motive_1:=fun J=>Bool) e h fun v a p=>k v a p
@[elab_as_elim] theorem UV{k}(h:Q8 e k=true)(f:∀ v a p,k v a p=true->P (.Attribute v a p)):P e:=Jf h fun q=>Expr.Attribute.elim (motive_1:=fun e=>Q8 e k=true->P e) e q (fun J J J h=>f _ _ _ h) h
def ZW(e:Expr)(k:Expr->List Expr->Pos->Bool):Bool:=ctq fun h=>Expr.Call.elim (motive_1:=fun J=>Bool) e h fun g es kw p=>kw.isEmpty&&k g es p
@[elab_as_elim] theorem DR{k}(h:ZW e k=true)(f:∀ g es p,k g es p=true->P (.Call g es [] p)):P e:=
 Jf h fun q=>Expr.Call.elim (motive_1:=fun e=>ZW e k=true->P e) e q (fun J J J J h=>bA h fun h1 h2=>UN (P:=fun kw=>P (.Call _ _ kw _)) h1 (f _ _ _ h2)) h
def Xf(e:Expr)(k:Str->List Expr->Bool):Bool:=ZW e fun g es J=>UI g fun y=>k y es
@[elab_as_elim] theorem Yi{k}(h:Xf e k=true)(f:∀ y np es p,k y es=true->P (.Call (.Name y np) es [] p)):P e:=
 DR h fun J es p h=>Uq (P:=fun g=>P (.Call g es [] p)) h fun y np h=>f y np es p h
def WO(e:Expr)(k:Expr->Str->List Expr->Bool):Bool:=ZW e fun g es p=>Q8 g fun v a ap=>Jz v&&(es.all Je&&((ap.endLine==p.line)&&(decide (es.length<25)&&k v a es)))
@[elab_as_elim] theorem Wl{k}(h:WO e k=true)(f:∀ v a ap es p,Jz v=true->es.all Je=true->(ap.endLine==p.line)=true->es.length<25->k v a es=true->P (.Call (.Attribute v a ap) es [] p)):P e:=
 DR h fun J es p h=>UV (P:=fun g=>P (.Call g es [] p)) h fun v a ap h=>bA h fun h1 h=>bA h fun h2 h=>bA h fun h3 h=>bA h fun h4 h=>f v a ap es p h1 h2 h3 (qH h4) h
def YK(e:Expr)(k:Expr->List CmpOp->List Expr->Bool):Bool:=ctq fun h=>Expr.Compare.elim (motive_1:=fun J=>Bool) e h fun l ops rs J=>k l ops rs
@[elab_as_elim] theorem NM{k}(h:YK e k=true)(f:∀ l ops rs p,k l ops rs=true->P (.Compare l ops rs p)):P e:=Jf h fun q=>Expr.Compare.elim (motive_1:=fun e=>YK e k=true->P e) e q (fun J J J J h=>f _ _ _ _ h) h
def OY(e:Expr)(k:Expr->Operator->Expr->Bool):Bool:=ctq fun h=>Expr.BinOp.elim (motive_1:=fun J=>Bool) e h fun l o r J=>k l o r
@[elab_as_elim] theorem ZEl{k}(h:OY e k=true)(f:∀ l o r p,k l o r=true->P (.BinOp l o r p)):P e:=Jf h fun q=>Expr.BinOp.elim (motive_1:=fun e=>OY e k=true->P e) e q (fun J J J J h=>f _ _ _ _ h) h
noncomputable def ZIJ:UnaryOp->Bool |.USub=>true |_=>false
noncomputable def ZII:UnaryOp->Bool |.Not=>true |_=>false
def xUn(e:Expr)(k:UnaryOp->Expr->Bool):Bool:=ctq fun h=>Expr.UnaryOp.elim (motive_1:=fun J=>Bool) e h fun o v J=>k o v
@[elab_as_elim] theorem HB{k}(h:xUn e k=true)(f:∀ o v p,k o v=true->P (.UnaryOp o v p)):P e:=Jf h fun q=>Expr.UnaryOp.elim (motive_1:=fun e=>xUn e k=true->P e) e q (fun J J J h=>f _ _ _ h) h
noncomputable def ZIK:BoolOp->Bool |.And=>true |_=>false
noncomputable def ZJu:BoolOp->Bool |.Or=>true |_=>false
noncomputable def OF(op:BoolOp)(y:Expr)(es:List Expr)(p:Pos):Expr:=match es with
 |[]=>y
 |_=>.BoolOp op (y::es) p
def ZX(e:Expr)(k:BoolOp->Expr->Expr->List Expr->Pos->Bool):Bool:=ctq fun h=>Expr.BoolOp.elim (motive_1:=fun J=>Bool) e h fun op l p=>(match l with |x::y::es=>k op x y es p |_=>false)
@[elab_as_elim] theorem DS{k}(h:ZX e k=true)(f:∀ op x y es p,k op x y es p=true->P (.BoolOp op (x::y::es) p)):P e:=by
 refine Jf h fun q=>Expr.BoolOp.elim (motive_1:=fun e=>ZX e k=true->P e) e q (fun op l p h=>?_) h
 match l,h with
 |[],h=>exact ff h
 |[_],h=>exact ff h
 |x::y::es,h=>exact f _ _ _ _ _ h
def xIf(e:Expr)(k:Expr->Expr->Expr->Bool):Bool:=ctq fun h=>Expr.IfExp.elim (motive_1:=fun J=>Bool) e h fun t b o J=>k t b o
@[elab_as_elim] theorem ZHM{k}(h:xIf e k=true)(f:∀ t b o p,k t b o=true->P (.IfExp t b o p)):P e:=Jf h fun q=>Expr.IfExp.elim (motive_1:=fun e=>xIf e k=true->P e) e q (fun J J J J h=>f _ _ _ _ h) h
def W8(e:Expr)(k:Expr->Expr->Bool):Bool:=ctq fun h=>Expr.Subscript.elim (motive_1:=fun J=>Bool) e h fun v i J=>k v i
@[elab_as_elim] theorem Y9{k}(h:W8 e k=true)(f:∀ v i p,k v i=true->P (.Subscript v i p)):P e:=Jf h fun q=>Expr.Subscript.elim (motive_1:=fun e=>W8 e k=true->P e) e q (fun J J J h=>f _ _ _ h) h
def NK(e:Expr)(k:Option Expr->Option Expr->Bool):Bool:=ctq fun h=>Expr.Slice.elim (motive_1:=fun J=>Bool) e h fun lo hi st J=>(match st with |none=>k lo hi |_=>false)
@[elab_as_elim] theorem ZBb{k}(h:NK e k=true)(f:∀ lo hi p,k lo hi=true->P (.Slice lo hi none p)):P e:=by
 refine Jf h fun q=>Expr.Slice.elim (motive_1:=fun e=>NK e k=true->P e) e q (fun J J st J h=>?_) h
 cases st
 ·exact f _ _ _ h
 ·exact ff h
def Nv(e:Expr)(k:List Expr->Bool):Bool:=ctq fun h=>Expr.List.elim (motive_1:=fun J=>Bool) e h fun es J=>k es
@[elab_as_elim] theorem ZCj{k}(h:Nv e k=true)(f:∀ es p,k es=true->P (.List es p)):P e:=Jf h fun q=>Expr.List.elim (motive_1:=fun e=>Nv e k=true->P e) e q (fun J J h=>f _ _ h) h
def W7(e:Expr)(k:List Expr->Bool):Bool:=ctq fun h=>Expr.Tuple.elim (motive_1:=fun J=>Bool) e h fun es J J=>k es
@[elab_as_elim] theorem Y8{k}(h:W7 e k=true)(f:∀ es n p,k es=true->P (.Tuple es n p)):P e:=Jf h fun q=>Expr.Tuple.elim (motive_1:=fun e=>W7 e k=true->P e) e q (fun J J J h=>f _ _ _ h) h
def Nw(e:Expr)(k:List (Option Expr)->List Expr->Bool):Bool:=ctq fun h=>Expr.Dict.elim (motive_1:=fun J=>Bool) e h fun ks es J=>k ks es
@[elab_as_elim] theorem ZCk{k}(h:Nw e k=true)(f:∀ ks es p,k ks es=true->P (.Dict ks es p)):P e:=Jf h fun q=>Expr.Dict.elim (motive_1:=fun e=>Nw e k=true->P e) e q (fun J J J h=>f _ _ _ h) h
def YA(e:Expr):Bool:=ctt fun h=>Expr.Set.elim (motive_1:=fun J=>Bool) e h fun J J J=>false
def Xs(e:Expr)(k:Expr->Str->Expr->List Expr->Scope->Bool):Bool:=ctq fun h=>Expr.ListComp.elim (motive_1:=fun J=>Bool) e h fun elt gs sc J=>l1 gs fun g=>(g.is_async==0)&&UI g.target fun y=>YA g.iter&&k elt y g.iter g.ifs sc
@[elab_as_elim] theorem DQ{k}(h:Xs e k=true)(f:∀ elt y yp it ifs sc p,YA it=true->k elt y it ifs sc=true->P (.ListComp elt [⟨.Name y yp,it,ifs,0⟩] sc p)):P e:=by
 refine Jf h fun q=>Expr.ListComp.elim (motive_1:=fun e=>Xs e k=true->P e) e q (fun elt gs sc p h=>?_) h
 refine Uj (P:=fun gs=>P (.ListComp elt gs sc p)) h fun g h=>?_
 obtain⟨t,it,ifs,a⟩:=g
 refine bA h fun h1 h=>?_
 have h1:a=0:=beq_iff_eq.mp h1
 subst h1
 exact Uq (P:=fun t=>P (.ListComp elt [⟨t,it,ifs,0⟩] sc p)) h fun y yp h=>bA h fun h2 h=>f _ _ _ _ _ _ _ h2 h
end
noncomputable def Hl:Const->Bool |.none=>true |_=>false
noncomputable def Hm(b:Bool):Const->Bool |.bool b'=>b==b' |_=>false
noncomputable def Ot(i:Int):Const->Bool |.int j=>i==j |_=>false
def Os(x:List Nat):Const->Bool |.str y=>y==toS x |_=>false
def Il(v:Mine.V)(e:Expr):Bool:=Xe e fun k=>match v with
 |.none=>Hl k
 |.bool b=>Hm b k
 |.int i=>Ot i k
 |.str x=>Os x k
 |_=>false
theorem ZDd{k:Const}(h:Hl k=true):k=.none:=by cases k<;>first |rfl |exact ff h
theorem ZDe{b:Bool}{k:Const}(h:Hm b k=true):k=.bool b:=by cases k<;>first |exact ff h |exact congrArg Const.bool (beq_iff_eq.mp h).symm
theorem Gp{b:Int}{k:Const}(h:Ot b k=true):k=.int b:=by cases k<;>first |exact ff h |exact congrArg Const.int (beq_iff_eq.mp h).symm
theorem Gn{b:List Nat}{k:Const}(h:Os b k=true):k=.str (toS b):=by cases k<;>first |exact ff h |exact congrArg Const.str (beq_iff_eq.mp h)
def IE(c:Cx)(y:Str):BI->Bool
 |.len=>Qq c y (.builtin "len")
 |.ord=>Qq c y (.builtin "ord")
 |.chr=>Qq c y (.builtin "chr")
 |.range=>Qq c y (.type "range")
 |.sum=>Qq c y (.builtin "sum")
 |.max=>false
noncomputable def Db:SM->Bool
 |.find=>true
 |.rfind=>true
 |.count=>true
 |.join=>true
 |.startswith=>true
 |.lower=>true
 |_=>false
noncomputable def meQ(m:ME)(f:Mine.V->Bool)(b:Bool):Bool:=match m with
 |.k v=>f v
 |.comp _ _ _ _=>b
 |_=>false
theorem Hg{m:ME}{f:Mine.V->Bool}{b:Bool}{P:ME->Prop}(h:meQ m f b=true)(k:∀ v,f v=true->P (.k v))(k':∀ me x mi mc,b=true->P (.comp me x mi mc)):P m:=by
 cases m<;>first |exact ff h |exact k _ h |exact k' _ _ _ _ h
def isK(a:ME)(f:Mine.V->Bool):Bool:=meQ a f false
theorem Zp{a:ME}{f:Mine.V->Bool}{P:ME->Prop}(h:isK a f=true)(k:∀ v,f v=true->P (.k v)):P a:=Hg h k fun J J J J h=>ff h
noncomputable def isS(v:Mine.V)(f:List Nat->Bool):Bool:=match v with |.str s=>f s |_=>false
def OG(a:ME)(x:Expr):Bool:=isK a fun v=>isS v fun s=>Xe x (Os s)
theorem Dh{a:ME}{x:Expr}{P:ME->Expr->Prop}(h:OG a x=true)(f:∀ s n p,P (.k (.str s)) (.Constant (.str (toS s)) n p)):P a x:=by
 refine Zp (P:=fun a=>P a x) h fun v h=>?_
 cases v<;>first |exact ff h |exact KS (P:=P _) h fun v n p h=>Gn h▸f _ n p
noncomputable def ZF8:SM->Bool |.replace=>true |_=>false
def ZJQ(m:SM)(as:List ME)(es:List Expr):Bool:=Db m||(ZF8 m&&l2 as fun a b=>l2 es fun x y=>OG a x&&OG b y)
def G9(a:ME):Bool:=isK a (Mine.V.beq (.int 0))
theorem ZCi{a:ME}(h:G9 a=true):a=.k (.int 0):=by
 exact Zp (P:=fun a=>a=.k (.int 0)) (f:=Mine.V.beq (.int 0)) h fun v h=>congrArg ME.k (Mine.V.eq_of_beq h).symm
def ZHr(as:List ME)(es:List Expr):Bool:=(as.isEmpty&&es.isEmpty)||l1 as fun a=>l1 es fun x=>G9 a&&Xe x (Ot 0)
noncomputable def dbg(y:Str):Bool:=!(y==("__debug__":Str))
theorem Xp{y:Str}(h:dbg y=true):(y==("__debug__":Str))=false:=by
 unfold dbg at h
 cases q:(y==("__debug__":Str))
 ·rfl
 ·rw[q] at h;exact ff h
noncomputable def opN:CmpOp->Nat
 |.Eq=>0 |.NotEq=>1 |.Lt=>2 |.LtE=>3 |.Gt=>4 |.GtE=>5 |.In=>6 |.NotIn=>7 |.Is=>8 |.IsNot=>9
noncomputable def opK:Nat->CmpOp
 |0=>.Eq |1=>.NotEq |2=>.Lt |3=>.LtE |4=>.Gt |5=>.GtE |6=>.In |7=>.NotIn |8=>.Is |_=>.IsNot
theorem Hb(a:CmpOp):opK (opN a)=a:=by cases a<;>rfl
def YP(a b:CmpOp):Bool:=Nat.beq (opN a) (opN b)
theorem Yy{a b:CmpOp}(h:YP a b=true):a=b:=by rw[<- Hb a,<- Hb b,Nat.eq_of_beq_eq_true h]
noncomputable def IG(o:Operator)(b:Bop):Bool:=match b with
 |.add=>(match o with |.Add=>true |_=>false)
 |.sub=>(match o with |.Sub=>true |_=>false)
 |.fdiv=>(match o with |.FloorDiv=>true |_=>false)
 |.mod=>(match o with |.Mod=>true |_=>false)
 |_=>false
def X8(a:ME):Bool:=isK a (Mine.V.beq .none)
theorem Dn{a:ME}(h:X8 a=true):a=.k .none:=by
 exact Zp (P:=fun a=>a=.k .none) (f:=Mine.V.beq .none) h fun v h=>congrArg ME.k (Mine.V.eq_of_beq h).symm
def Xu(a:ME):Bool:=isK a (Mine.V.beq (.bool true))
theorem ZCs{a:ME}(h:Xu a=true):a=.k (.bool true):=by
 exact Zp (P:=fun a=>a=.k (.bool true)) (f:=Mine.V.beq (.bool true)) h fun v h=>congrArg ME.k (Mine.V.eq_of_beq h).symm
noncomputable def Z8(n:Bool)(f:Expr->Bool):Option Expr->Bool
 |none=>n
 |some e=>f e
noncomputable def Z9(n:Bool)(f:Expr->Bool):List Expr->Bool
 |[]=>n
 |e::es=>es.isEmpty&&f e
noncomputable def ZIh(es:List Expr)(f:Expr->Bool)(g:List Expr->Bool):Bool:=match es with
 |[]=>false
 |e::es=>f e&&g es
def vIs(v:Mine.V)(o:Option Mine.V):Bool:=match o with
 |some w=>V.beq w v
 |none=>false
theorem ZHP{v:Mine.V}{o:Option Mine.V}(h:vIs v o=true):o=some v:=by
 cases o
 ·exact ff h
 ·exact congrArg _ (V.eq_of_beq h)
theorem OO{α:Type}{l:List α}(h:(!l.isEmpty)=true):l≠[]:=fun q=>by subst q;exact ff h
mutual
noncomputable def JI(c:Cx)(kn:Str->Option NameKind):ME->Expr->Bool
 |.k v=>fun x=>Il v x
 |.glob v=>fun x=>UI x fun y=>(kn y==some .globalImplicit)&&c.G.any fun p=>c.nm p.1==y&&V.beq p.2.1 v
 |.loc n=>fun x=>UI x fun y=>y==c.nm n&&((kn y==some .local)||(kn y==some .cell))
 |.attr e n D=>fun x=>Q8 x fun e' a J=>a==c.nm n&&(Jz e'&&(QD c D n&&JI c kn e e'))
 |.bm e n D f=>fun x=>Q8 x fun e' a J=>a==c.nm n&&(Jz e'&&(U0 c D n f&&JI c kn e e'))
 |.cat e n D i=>fun x=>Q8 x fun e' a J=>a==c.nm n&&(Jz e'&&(OQ c D n i&&JI c kn e e'))
 |.call f as=>fun x=>Xf x fun y es=>es.all Je&&((kn y==some .globalImplicit)&&(dbg y&&(Hq c y f&&chkEs c kn as es)))
 |.mcall e n D f as=>fun x=>WO x fun e' a es=>a==c.nm n&&(U0 c D n f&&(JI c kn e e'&&chkEs c kn as es))
 |.fcall e n D as=>fun x=>WO x fun e' a es=>a==c.nm n&&(QD c D n&&(JI c kn e e'&&chkEs c kn as es))
 |.new D f as lv=>fun x=>Xf x fun y es=>es.all Je&&((kn y==some .globalImplicit)&&(dbg y&&(Hr c y D f&&(decide (lv≠.frz)&&chkEs c kn as es))))
 |.bi b as=>fun x=>Xf x fun y es=>es.all Je&&((kn y==some .globalImplicit)&&(dbg y&&(IE c y b&&chkEs c kn as es)))
 |.sm m e as=>fun x=>WO x fun e' a es=>a==UZ m&&(JI c kn e e'&&(chkEs c kn as es&&ZJQ m as es))
 |.app e x=>fun z=>WO z fun e' a es=>a==("append":Str)&&(JI c kn e e'&&l1 es fun x'=>JI c kn x x')
 |.pop e as=>fun x=>WO x fun e' a es=>a==("pop":Str)&&(JI c kn e e'&&ZHr as es)
 |.cmp o l r=>fun x=>YK x fun l' ops rs=>JI c kn l l'&&l1 ops fun op=>l1 rs fun r'=>YP op (JZ o)&&((behindInMarks (JZ o) r'==false)&&JI c kn r r')
 |.cmp2 o1a o2a l m r=>fun x=>YK x fun l' ops rs=>JI c kn l l'&&l2 ops fun op1 op2=>l2 rs fun m' r'=>YP op1 (JZ o1a)&&(YP op2 (JZ o2a)&&((behindInMarks (JZ o2a) r'==false)&&(JI c kn m m'&&JI c kn r r')))
 |.bop o l r=>fun x=>OY x fun l' op r'=>IG op o&&(JI c kn l l'&&JI c kn r r')
 |.neg e=>fun x=>xUn x fun o e'=>ZIJ o&&JI c kn e e'
 |.not e=>fun x=>xUn x fun o e'=>ZII o&&JI c kn e e'
 |.and a b=>fun z=>ZX z fun op x y es p=>ZIK op&&(JI c kn a x&&JI c kn b (OF .And y es p))
 |.or a b=>fun z=>ZX z fun op x y es p=>ZJu op&&(JI c kn a x&&JI c kn b (OF .Or y es p))
 |.ite t b o=>fun x=>xIf x fun t' b' o'=>JI c kn t t'&&(JI c kn b b'&&JI c kn o o')
 |.sub e i=>fun x=>W8 x fun e' i'=>JI c kn e e'&&JI c kn i i'
 |.sl e a b=>fun x=>W8 x fun e' s=>NK s fun lo hi=>JI c kn e e'&&(Z8 (X8 a) (fun x=>JI c kn a x) lo&&Z8 (X8 b) (fun x=>JI c kn b x) hi)
 |.lst es _=>fun x=>Nv x fun es'=>es'.all Je&&(decide (es.length<=1000)&&chkEs c kn es es')
 |.tup es=>fun x=>W7 x fun es'=>es'.all Je&&(decide (es.length<=1000)&&chkEs c kn es es')
 |.dct ks es _=>fun x=>Nw x fun keys es'=>W0 keys ks&&((ks.length==es.length)&&(decide (es.length<=15)&&(!es.isEmpty&&chkEs c kn es es')))
 |.comp elt x it cond=>fun z=>Xs z fun elt' y it' ifs sc=>y==c.nm x&&(WK c sc kn x&&(JI c kn it it'&&(JI c (U7 sc kn) elt elt'&&Z9 (Xu cond) (fun e=>JI c (U7 sc kn) cond e) ifs)))
 |.isb m=>fun x=>Xf x fun y es=>l2 es fun a b=>Je a&&((kn y==some .globalImplicit)&&(dbg y&&(Qq c y (.builtin "isinstance")&&(UI b (fun y'=>(kn y'==some .globalImplicit)&&(dbg y'&&Qq c y' (.type "bool")))&&JI c kn m a))))
 |.fat e n w=>fun x=>Q8 x fun e' a J=>a==c.nm n&&(Jz e'&&(QD c c.iD n&&(vIs w (JA c.I n)&&JI c kn e e')))
 |.fmc e n f as=>fun x=>WO x fun e' a es=>a==c.nm n&&(U0 c c.iD n f&&(!c.I.isEmpty&&((JA c.I n).isNone&&(JI c kn e e'&&chkEs c kn as es))))
 |.inf l r f=>fun x=>YK x fun l' ops rs=>JI c kn l l'&&l1 ops fun op=>l1 rs fun r'=>YP op .In&&((behindInMarks .In r'==false)&&(ZK c f&&(!c.I.isEmpty&&JI c kn r r')))
noncomputable def chkEs(c:Cx)(kn:Str->Option NameKind):List ME->List Expr->Bool
 |[]=>fun es=>es.isEmpty
 |m::ms=>fun es=>ZIh es (fun e=>JI c kn m e) fun es=>chkEs c kn ms es
end
section
variable{c:Cx}{r:Nat}{env env':Env}{A:Around}{U U' U1a:St}{g g1a:Gh}{s s' s1a s2a:Shared}{E:Value->Shared->Prop}{Q:Value->Shared->Prop}{v:Mine.V}{D:Addr->Prop}
def Ky(e:Expr):Bool:=ctt fun h=>Expr.Slice.elim (motive_1:=fun J=>Bool) e h fun J J J J=>false
set_option tactic.hygienic false in
theorem ZAJ{id:Id}{u:Mine.V}{x y:Value}(hf:Qd U (.obj id) u=some v)(R:Rel c env g U s)(hx:Vx c env g s (.obj id) x)(hy:Vx c env g s u y)(N:Nxt c env g s v U Q):wpAny c.M A (getItem x y) Q E s:=
 boE (show bo (JA U.hp id) _=some v from hf) fun o ho h=>by
  cases o<;>first |exact nn h |skip
  ·exact hx.objE fun a ha=>by
    obtain⟨items,n,hcs,hi,hv⟩:=Uo R ho ha
    exact QP (P:=fun b=>Vx c env g s b y->wpAny c.M A (getItem (.ref a) y) Q E s) h (fun i h hy=>bdE h fun hb h=>boE h fun j hj e=>hy.intE (P:=fun y=>wpAny c.M A (getItem (.ref a) y) Q E s) fun t=>by
     obtain⟨x,hx,rx⟩:=hv.get e
     have hs:=Ji hv
     exact BB hi (by rw[hs];exact hb) (by rw[hs];exact hj) (by rw[<- Array.getElem?_toList];exact hx) (N.same R rx)) hy
  ·exact hx.objE fun a ha=>by
    obtain⟨o,hc,rfl,hsm,kvs,D,k1,r1⟩:=WR R ho ha
    exact KF (b:=u) h R D k1 r1 hy N
theorem ZAQ{i:Expr}(h:Ky i=true):∀ ov iv new,augStore i ov iv new=(do holding [new,ov,iv] (PySem.setItem ov iv new);release [new,ov,iv] [];pure .next):=by
 cases i<;>first |exact fun J J J=>rfl |exact ff h
theorem Tq{P:Mine.V->Prop}{o x v:Mine.V}(hf:Mine.Uu U o x v=some U')(k:∀ id,P (.obj id)):P o:=by
 cases o<;>first |exact nn hf |exact k _
theorem ZD5{C:Ora}{o:Bop}{t i e:Expr}{mt mi m:ME}{tp pos}(hi:Ky i=true)(ho:o=.add\/o=.sub)(H:JD c r env t (ev C mt))(H2:JD c r env i (ev C mi))(H3:JD c r env e (ev C m)):
  JW c r env (.AugAssign (.Subscript t i tp) (U8 o) e pos) (exc C (.augS mt mi o m)):=fun A U fl U' g s E Q hr hf R N=>bnE hf fun x U1a h1 h=>bnE h fun j U2a h2 h=>boE h fun a h3 h=>bnE h fun b U3a h4 h=>bnE h fun w U4a h5 h=>boE h fun U5a h6 h7 =>
 Tq (P:=fun x=>ev C mt U=some (x,U1a)->Qd U2a x j=some a->Mine.Uu U4a x j w=some U5a->wpAny c.M A (exec (.AugAssign (.Subscript t i tp) (U8 o) e pos) env) Q E s) h6 (fun id h1 h3 h6 =>
  wpAny_AugAssign_SubscriptAny (H hr h1 R fun xv s1a g1a R1a X1a E1a=>H2 hr h2 R1a fun jv s2a g2a R2a X2a E2a=>ZAJ h3 R2a (X1a.ext E2a) X2a fun av s3a g3a R3a X3a E3a=>H3 hr h4 R3a fun bv s4a g4a R4a X4a E4a=>Nb ho h5 R4a (X3a.ext E4a) X4a fun wv s5a g5a R5a X5a E5a =>
   BR h6 R5a (X1a.ext (E2a.trans (E3a.trans (E4a.trans E5a)))) (X2a.ext (E3a.trans (E4a.trans E5a))) X5a fun s6a R6a E6a=>(N.of h7).nxt R6a (E1a.trans (E2a.trans (E3a.trans (E4a.trans (E5a.trans E6a)))))) (ZAQ hi)) h1 h3 h6
def ZJm(c:Cx)(kn:Str->Option NameKind)(e:Expr)(n:Nat):Bool:=UI e fun y=>y==c.nm n&&(kn y==some .local)
noncomputable def Zj(c:Cx)(kn:Str->Option NameKind):List Expr->List Nat->Bool
 |[],ns=>ns.isEmpty
 |e::es,ns=>(match ns with
  |[]=>false
  |n::ns=>ZJm c kn e n&&Zj c kn es ns)
theorem B6{kn:Str->Option NameKind}(hkn:∀ x,env.kindOf x=kn x):∀ {es:List Expr} {ns:List Nat},Zj c kn es ns=true->WM c env es ns=true:=by
 intro es
 induction es with
 |nil =>
  intro _ h
  exact h
 |cons e es ih =>
  intro ns h
  cases ns with
  |nil=>exact ff h
  |cons n ns =>
   exact bA h fun h1 h2=>Bool.and_eq_true_iff.mpr ⟨Uq (P:=fun e=>ZF c env e n=true) h1 fun y p h=>by
         show (y==c.nm n&&(env.kindOf y==some .local))=true
         rw[hkn];exact h,ih h2⟩
end
noncomputable def Zu(o:Operator)(b:Bop):Bool:=match b with
 |.add=>(match o with |.Add=>true |_=>false)
 |.sub=>(match o with |.Sub=>true |_=>false)
 |_=>false
theorem Kj{o:Operator}{b:Bop}(h:Zu o b=true):o=U8 b/\(b=.add\/b=.sub):=by
 cases b<;>first |exact ff h |skip
 ·cases o<;>first |exact ff h |exact⟨rfl,.inl rfl⟩
 ·cases o<;>first |exact ff h |exact⟨rfl,.inr rfl⟩
def Gs(m:ME):Bool:=meQ m (fun J=>false) true
def XB(y:Str)(np:Pos)(e:Expr):Bool:=ctq fun h=>Expr.ListComp.elim (motive_1:=fun J=>Bool) e h fun J J scope pos=>np.line==pos.line&&!(scope.names.any fun (n,k)=>n==y&&(k==.local||k==.cell))
structure En(env:Env)(kn:Str->Option NameKind):Prop where
 ok:EnvOk env
 cells:XZ env
 kn:∀ x,env.kindOf x=kn x
section
variable{c:Cx}{r:Nat}{C:Ora}
theorem ZEc{v:Mine.V}{e:Expr}{env:Env}(h:Il v e=true):JY c r env e C (.k v):=
 KS (P:=fun e=>JY c r env e C (.k v)) h fun k n p h=>by
  cases v<;>first |exact ff h |skip
  ·exact ZDd h▸.plain ZEH rfl
  ·exact ZDe h▸.plain ZEO rfl
  ·exact Gp h▸.plain ZGe rfl
  ·exact Gn h▸.plain ZGW rfl
theorem ZCe{env:Env}{o:Operator}{b:Bop}(h:IG o b=true):XO c env r (binaryOp o) (fun U=>Jn U b):=by
 cases b with
 |add=>cases o<;>first |exact ff h |exact ZHG
 |sub=>cases o<;>first |exact ff h |exact ZCz
 |mul=>exact ff h
 |fdiv=>cases o<;>first |exact ff h |exact ZDx
 |mod=>cases o<;>first |exact ff h |exact ZFq
theorem ZCc(O:c.Ok){env:Env}{y:Str}{es:List Expr}{b:BI}{as:List ME}{np pos}(VV:EnvOk env)(hs:es.all Je=true)(hk:env.kindOf y=some .globalImplicit)(hx:(y==("__debug__":Str))=false)(h:IE c y b=true)
  (H:J6 c r env es (evs C as)):JY c r env (.Call (.Name y np) es [] pos) C (.bi b as):=by
 cases b with
 |len=>exact .plain (OS (b:=.len) O VV hs hk hx h ZFs H) rfl
 |ord=>exact .plain (OS (b:=.ord) O VV hs hk hx h ZFi H) rfl
 |chr=>exact .plain (OS (b:=.chr) O VV hs hk hx h ZG5 H) rfl
 |range=>exact .plain (ZCJ O VV hs hk hx h H) rfl
 |sum=>exact .plain (ZGU O VV hs hk hx h H) rfl
 |max=>exact ff h
theorem ZAZ{env:Env}{e:Expr}{es:List Expr}{m:SM}{me:ME}{as:List ME}{apos pos}(hc:Jz e=true)(hs:es.all Je=true)(hl:(apos.endLine==pos.line)=true)(hlen:es.length<25)(h:Db m=true)
  (H:JD c r env e (ev C me)) (H2:J6 c r env es (evs C as)):JY c r env (.Call (.Attribute e (UZ m) apos) es [] pos) C (.sm m me as):=
 .plain (ZIX hc hs hl hlen (by cases m<;>first |exact ff h |exact ZC4 |exact ZBf |exact ZBh |exact ZDf |exact To |exact ZBg) H H2) rfl
theorem KA{α:Type}{l:List α}{p:α->Bool}(h:l.all p=true):∀ a∈l,p a=true:=List.all_eq_true.mp h
theorem Oj{α:Type}[BEq α][LawfulBEq α]{a b:α}(h:(!(a==b))=true):a≠b:=fun q=>by subst q;rw[beq_self_eq_true] at h;exact ff h
theorem KU(O:c.Ok){env:Env}{kn:Str->Option NameKind}(V:En env kn){scope:Scope}{x:Nat}(h:WK c scope kn x=true):∃ cl,CompS c env scope x cl/\∀ L,EnvOk (compEnvC scope cl L env)->En (compEnvC scope cl L env) (U7 scope kn):=
 bA h fun h1 h=>bA h fun h2 h=>bA h fun h3 h=>bA h fun h4 h5=>by
  have h2:∀ y∈scope.names,y.2≠.cell:=fun y hy=>Oj (KA h2 y hy)
  have h3:∀ y∈scope.names,y.2=.local->scope.names.lookup y.1=some .local/\(y.1=c.nm x\/y.1=(".0":Str)):=fun y hy e=>bO (KA h3 y hy) (fun q=>absurd e (Oj q)) fun q=>bA q fun q1 q2=>⟨kE q1,bO q2 (fun q=>.inl (bE q)) fun q=>.inr (bE q)⟩
  have hfree:∀ p∈scope.names,p.2=.free->(env.cells.lookup p.1).isSome=true:=fun p hp e=>V.cells _ ((V.kn _).trans (bO (KA h5 p hp) (fun q=>absurd e (Oj q)) kE))
  have rc:∀ {y},(relabel scope env).names.lookup y=some .cell->(y,NameKind.free)∈scope.names/\env.kindOf y=some .cell:=fun h=>(BF h).elim (fun q=>⟨q.1,q.2.1⟩) fun q=>absurd rfl (h2 _ q)
  obtain⟨cl,k0,k1,k2⟩:=Tw hfree
  refine⟨cl,⟨k0,fun n hn=>?_,h2,bE h1,fun y hy e=>(h3 y hy e).1,kE h4,fun n hn=>(BF hn).elim (fun q=>nomatch q.2.2) fun q=>(h3 _ q rfl).2.elim (O.inj _ _) fun q=>absurd q (O.no0 n)⟩,fun L VV=>⟨VV,fun y hy=>k2 _ (rc hy).1,fun y=>?_⟩⟩
  ·obtain⟨q1,q2⟩:=rc hn
   obtain⟨a,ha⟩:=Option.isSome_iff_exists.mp (k2 _ q1)
   exact⟨ha.trans (k1 _ _ ha).symm,q2⟩
  ·show (relabel scope env).names.lookup y=_
   unfold relabel U7
   have hk:(env.scope.kind==ScopeKind.function)=true:=beq_iff_eq.mpr V.ok.kind
   rw[hk,funext V.kn]
   refine congrArg (fun l=>List.lookup y l) (List.map_congr_left fun p J=>?_)
   obtain⟨a,k⟩:=p
   dsimp only
   rw[Bool.and_true]
def PE(c:Cx)(r:Nat)(C:Ora)(m:ME):Prop:=∀ {e:Expr} {env:Env} {kn:Str->Option NameKind},En env kn->JI c kn m e=true->JY c (r+1) env e C m
def PEs(c:Cx)(r:Nat)(C:Ora)(ms:List ME):Prop:=∀ {es:List Expr} {env:Env} {kn:Str->Option NameKind},En env kn->chkEs c kn ms es=true->EvAll c (r+1) env C es ms
variable{m ma mb mc:ME}{as:List ME}{n D f:Nat}{b:BI}{o o2a:Cmp}
theorem ZG9(O:c.Ok){v:Mine.V}:PE c r C (.glob v):=fun V h=>Uq h fun y p h=>bA h fun h1 h=>by
 obtain⟨⟨n,v',x⟩,hq,h⟩:=List.any_eq_true.mp h
 exact bA h fun h2 h3=>by
  cases Mine.V.eq_of_beq h3
  cases beq_iff_eq.mp h2
  exact .plain (ZEJ O V.ok hq ((V.kn _).trans (kE h1))) rfl
theorem ZIz(O:c.Ok):PE c r C (.loc n):=fun {e env kn} V h=>Uq h fun y p h=>bA h fun h1 h2=>sE (P:=fun y=>(kn y=some .local\/kn y=some .cell)->JY c (r+1) env (.Name y p) C (.loc n)) h1
 (fun h2=>h2.elim (fun h2=>.plain (ZGb O V.ok ((V.kn _).trans h2)) rfl) fun h2=>.plain (ZEM O V.ok ((V.kn _).trans h2)) rfl) (bO h2 (fun h=>.inl (kE h)) fun h=>.inr (kE h))
theorem ZHE(O:c.Ok)(H:PE c r C m):PE c r C (.attr m n D):=fun {e env kn} V h=>UV h fun e' a p h=>bA h fun h1 h=>bA h fun h2 h=>bA h fun h3 h =>
 sE (P:=fun a=>JY c (r+1) env (.Attribute e' a p) C (.attr m n D)) h1 (.plain (ZEP O h2 h3 (H V h).1) rfl)
theorem ZKA(O:c.Ok)(H:PE c r C m):PE c r C (.bm m n D f):=fun {e env kn} V h=>UV h fun e' a p h=>bA h fun h1 h=>bA h fun h2 h=>bA h fun h3 h =>
 sE (P:=fun a=>JY c (r+1) env (.Attribute e' a p) C (.bm m n D f)) h1 (.plain (ZIa O h2 h3 (H V h).1) rfl)
theorem ZI7(O:c.Ok){i:Int}(H:PE c r C m):PE c r C (.cat m n D i):=fun {e env kn} V h=>UV h fun e' a p h=>bA h fun h1 h=>bA h fun h2 h=>bA h fun h3 h =>
 sE (P:=fun a=>JY c (r+1) env (.Attribute e' a p) C (.cat m n D i)) h1 (.plain (ZGk O h2 h3 (H V h).1) rfl)
theorem ZHD(HC:JO c r C)(H:PEs c r C as):PE c r C (.call f as):=fun V h=>Yi h fun y np es p h=>bA h fun h1 h=>bA h fun h2 h=>bA h fun h3 h=>bA h fun h4 h =>
 .plain (ZEN V.ok h1 ((V.kn _).trans (kE h2)) (Xp h3) h4 (HC.up (xD _)) (H V h).evs) rfl
theorem ZEe(O:c.Ok)(HC:JO c r C)(H:PE c r C m)(H2:PEs c r C as):PE c r C (.mcall m n D f as):=fun {e env kn} V h=>Wl h fun e' a ap es p k1 k2 k3 k4 h=>bA h fun h1 h=>bA h fun h2 h=>bA h fun h3 h4 =>
 sE (P:=fun a=>JY c (r+1) env (.Call (.Attribute e' a ap) es [] p) C (.mcall m n D f as)) h1 (.plain (ZCK O V.ok k1 k2 k3 k4 h2 (HC.up (xD _)) (H V h3).1 (H2 V h4).evs) rfl)
theorem ZEf(O:c.Ok)(HC:JO c r C)(H:PE c r C m)(H2:PEs c r C as):PE c r C (.fcall m n D as):=fun {e env kn} V h=>Wl h fun e' a ap es p k1 k2 k3 k4 h=>bA h fun h1 h=>bA h fun h2 h=>bA h fun h3 h4 =>
 sE (P:=fun a=>JY c (r+1) env (.Call (.Attribute e' a ap) es [] p) C (.fcall m n D as)) h1 (.plain (ZCL O V.ok k1 k2 k3 k4 h2 O.fn (HC.up (xD _)) (H V h3).1 (H2 V h4).evs) rfl)
theorem ZIw(O:c.Ok)(HC:JO c r C){lv:LV}(H:PEs c r C as):PE c r C (.new D f as lv):=fun V h=>Yi h fun y np es p h=>bA h fun h1 h=>bA h fun h2 h=>bA h fun h3 h=>bA h fun h4 h=>bA h fun h5 h =>
 .plain (ZGY O V.ok h1 ((V.kn _).trans (kE h2)) (Xp h3) h4 (qH h5) HC (H V h).evs) rfl
theorem ZI1(O:c.Ok)(H:PE c r C m):PE c r C (.isb m):=fun {e env kn} V h=>Yi h fun y np es p h=>XH (P:=fun es=>JY c (r+1) env (.Call (.Name y np) es [] p) C (.isb m)) h fun a b h=>bA h fun h1 h=>bA h fun h2 h=>bA h fun h3 h=>bA h fun h4 h=>bA h fun h5 h6 =>
 Uq (P:=fun b=>JY c (r+1) env (.Call (.Name y np) [a,b] [] p) C (.isb m)) h5 fun y' bp h=>bA h fun k1 h=>bA h fun k2 k3=>.plain (ZGd O V.ok h1 ((V.kn _).trans (kE h2)) (Xp h3) h4 ((V.kn _).trans (kE k1)) (Xp k2) k3 (H V h6).1) rfl
theorem nB{b:Bool}(h:(b==false)=true):b=false:=beq_iff_eq.mp h
theorem ZI4(O:c.Ok){w:Mine.V}(H:PE c r C m):PE c r C (.fat m n w):=fun {e env kn} V h=>UV h fun e' a p h=>bA h fun h1 h=>bA h fun h2 h=>bA h fun h3 h=>bA h fun h4 h =>
 sE (P:=fun a=>JY c (r+1) env (.Attribute e' a p) C (.fat m n w)) h1 (.plain (ZGh O h2 h3 (ZHP h4) (H V h).1) rfl)
theorem ZI3(O:c.Ok)(HC:JO c r C)(H:PE c r C m)(H2:PEs c r C as):PE c r C (.fmc m n f as):=fun {e env kn} V h=>Wl h fun e' a ap es p k1 k2 k3 k4 h=>bA h fun h1 h=>bA h fun h2 h=>bA h fun h3 h=>bA h fun h4 h=>bA h fun h5 h6 =>
 sE (P:=fun a=>JY c (r+1) env (.Call (.Attribute e' a ap) es [] p) C (.fmc m n f as)) h1 (.plain (ZGg O V.ok k1 k2 k3 k4 h2 (OO h3) (Option.isNone_iff_eq_none.mp h4) (HC.up (xD _)) (H V h5).1 (H2 V h6).evs) rfl)
theorem ZI2(O:c.Ok)(HC:JO c r C)(H:PE c r C m)(H2:PE c r C ma):PE c r C (.inf m ma f):=fun {e env kn} V h=>NM h fun l ops rs p h=>bA h fun h1 h=>Uj (P:=fun ops=>JY c (r+1) env (.Compare l ops rs p) C (.inf m ma f)) h fun op h=>Uj (P:=fun rs=>JY c (r+1) env (.Compare l [op] rs p) C (.inf m ma f)) h fun r' h =>
 bA h fun h2 h=>bA h fun h3 h=>bA h fun h4 h=>bA h fun h5 h6=>Yy h2▸⟨ZGf O V.ok (nB h3) h4 (OO h5) (HC.up (xD _)) (H V h1).1 (H2 V h6).1,ZCp O V.ok (nB h3) h4 (OO h5) (HC.up (xD _)) (H V h1).1 (H2 V h6).1⟩
theorem ZKB(O:c.Ok)(H:PEs c r C as):PE c r C (.bi b as):=fun V h=>Yi h fun y np es p h=>bA h fun h1 h=>bA h fun h2 h=>bA h fun h3 h=>bA h fun h4 h =>
 ZCc O V.ok h1 ((V.kn _).trans (kE h2)) (Xp h3) h4 (H V h).evs
theorem ZJ7{s:SM}(H:PE c r C m)(H2:PEs c r C as):PE c r C (.sm s m as):=fun {e env kn} V h=>Wl h fun e' a ap es p k1 k2 k3 k4 h=>bA h fun h1 h=>bA h fun h3 h=>bA h fun h4 h =>
 sE (P:=fun a=>JY c (r+1) env (.Call (.Attribute e' a ap) es [] p) C (.sm s m as)) h1 (bO h (fun h=>ZAZ k1 k2 k3 k4 h (H V h3).1 (H2 V h4).evs) fun h=>bA h fun h h5=>by
  cases s<;>first |exact ff h |skip
  exact XH (P:=fun as=>JY c (r+1) env (.Call (.Attribute e' (UZ .replace) ap) es [] p) C (.sm .replace m as)) h5 fun a b h=>XH (P:=fun es=>JY c (r+1) env (.Call (.Attribute e' (UZ .replace) ap) es [] p) C (.sm .replace m [a,b])) h fun x y h=>bA h fun h5 h6 =>
   Dh (P:=fun a x=>JY c (r+1) env (.Call (.Attribute e' (UZ .replace) ap) [x,y] [] p) C (.sm .replace m [a,b])) h5 fun s n q=>Dh (P:=fun b y=>JY c (r+1) env (.Call (.Attribute e' (UZ .replace) ap) [.Constant (.str (toS s)) n q,y] [] p) C (.sm .replace m [.k (.str s),b])) h6 fun s' n' q' =>
    .plain (ZEE k1 k3 (H V h3).1) rfl)
theorem ZI9(H:PE c r C m)(H2:PE c r C ma):PE c r C (.app m ma):=fun {e env kn} V h=>Wl h fun e' a ap es p k1 k2 k3 k4 h=>bA h fun h1 h=>bA h fun h3 h=>Uj (P:=fun es=>es.all Je=true->JY c (r+1) env (.Call (.Attribute e' a ap) es [] p) C (.app m ma)) h (fun x h k2 =>
 sE (P:=fun a=>JY c (r+1) env (.Call (.Attribute e' a ap) [x] [] p) C (.app m ma)) h1 (.plain (ZGm k1 (bA k2 fun k J=>k) k3 (H V h3).1 (H2 V h).1) rfl)) k2
theorem ZIt(H:PE c r C m):PE c r C (.pop m as):=fun {e env kn} V h=>Wl h fun e' a ap es p k1 k2 k3 k4 h=>bA h fun h1 h=>bA h fun h3 h =>
 sE (P:=fun a=>JY c (r+1) env (.Call (.Attribute e' a ap) es [] p) C (.pop m as)) h1 (bO h
  (fun h=>bA h fun q1 q2=>UN (P:=fun as=>JY c (r+1) env (.Call (.Attribute e' ("pop":Str) ap) es [] p) C (.pop m as)) q1 (UN (P:=fun es=>JY c (r+1) env (.Call (.Attribute e' ("pop":Str) ap) es [] p) C (.pop m [])) q2 (.plain (ZEG k1 k3 (H V h3).1) rfl)))
  fun h=>Uj (P:=fun as=>JY c (r+1) env (.Call (.Attribute e' ("pop":Str) ap) es [] p) C (.pop m as)) h fun a h=>Uj (P:=fun es=>JY c (r+1) env (.Call (.Attribute e' ("pop":Str) ap) es [] p) C (.pop m [a])) h fun x h=>bA h fun q1 q2=>by
   cases ZCi q1
   exact KS (P:=fun x=>JY c (r+1) env (.Call (.Attribute e' ("pop":Str) ap) [x] [] p) C (.pop m [.k (.int 0)])) q2 fun k n q h=>Gp h▸.plain (ZEF k1 k3 (H V h3).1) rfl)
theorem ZI6(H:PE c r C m)(H2:PE c r C ma):PE c r C (.cmp o m ma):=fun {e env kn} V h=>NM h fun l ops rs p h=>bA h fun h1 h=>Uj (P:=fun ops=>JY c (r+1) env (.Compare l ops rs p) C (.cmp o m ma)) h fun op h=>Uj (P:=fun rs=>JY c (r+1) env (.Compare l [op] rs p) C (.cmp o m ma)) h fun r' h =>
 bA h fun h2 h=>bA h fun h3 h4=>Yy h2▸⟨ZGj (nB h3) (H V h1).1 (H2 V h4).1,ZCq (nB h3) (H V h1).1 (H2 V h4).1⟩
theorem ZHC(H:PE c r C m)(H2:PE c r C ma)(H3:PE c r C mb):PE c r C (.cmp2 o o2a m ma mb):=fun {e env kn} V h=>NM h fun l ops rs p h=>bA h fun h1 h=>XH (P:=fun ops=>JY c (r+1) env (.Compare l ops rs p) C (.cmp2 o o2a m ma mb)) h fun op op' h=>XH (P:=fun rs=>JY c (r+1) env (.Compare l [op,op'] rs p) C (.cmp2 o o2a m ma mb)) h fun m' r' h =>
 bA h fun h2 h=>bA h fun h2' h=>bA h fun h3 h=>bA h fun h4 h5=>Yy h2▸Yy h2'▸⟨ZEL (nB h3) (H V h1).1 (H2 V h4).1 (H3 V h5).1,ZBe (nB h3) (H V h1).1 (H2 V h4).1 (H3 V h5).1⟩
theorem ZI8{o:Bop}(H:PE c r C m)(H2:PE c r C ma):PE c r C (.bop o m ma):=fun V h=>ZEl h fun l op rr p h=>bA h fun h1 h=>bA h fun h2 h3=>.plain (ZGl (ZCe h1) (H V h2).1 (H2 V h3).1) rfl
theorem ZIx(H:PE c r C m):PE c r C (.neg m):=fun V h=>HB h fun o v p h=>bA h fun h1 h2=>by
 cases o<;>first |exact ff h1 |exact .plain (ZGZ (H V h2).1) rfl
theorem ZIu(H:PE c r C m):PE c r C (.not m):=fun V h=>HB h fun o v p h=>bA h fun h1 h2=>by
 cases o<;>first |exact ff h1 |exact⟨ZGX (H V h2).1,ZCn (H V h2).2⟩
theorem Yw{env:Env}{op:BoolOp}{y:Expr}{es:List Expr}{p:Pos}(H:JY c r env (OF op y es p) C m):JY c r env (.BoolOp op (y::es) p) C m:=by
 cases es with
 |nil=>exact⟨ZEI H.1,ZBd H.2⟩
 |cons _ _=>exact H
theorem ZJA(H:PE c r C m)(H2:PE c r C ma):PE c r C (.and m ma):=fun V h=>DS h fun op x y es p h=>bA h fun h0 h=>bA h fun h1 h2=>by
 cases op
 ·exact⟨ZGn (H V h1).1 (Yw (H2 V h2)).1,ZCr (H V h1).2 (Yw (H2 V h2)).2⟩
 ·exact ff h0
theorem ZJ9(H:PE c r C m)(H2:PE c r C ma):PE c r C (.or m ma):=fun V h=>DS h fun op x y es p h=>bA h fun h0 h=>bA h fun h1 h2=>by
 cases op
 ·exact ff h0
 ·exact⟨ZIZ (H V h1).1 (Yw (H2 V h2)).1,ZEp (H V h1).2 (Yw (H2 V h2)).2⟩
theorem ZI0(H:PE c r C m)(H2:PE c r C ma)(H3:PE c r C mb):PE c r C (.ite m ma mb):=fun V h=>ZHM h fun t b o p h=>bA h fun h1 h=>bA h fun h2 h3 =>
 ⟨ZGc (H V h1).2 (H2 V h2).1 (H3 V h3).1,ZCo (H V h1).2 (H2 V h2).2 (H3 V h3).2⟩
theorem ZIs(H:PE c r C m)(H2:PE c r C ma):PE c r C (.sub m ma):=fun V h=>Y9 h fun v i p h=>bA h fun h1 h2=>.plain (ZGV (H V h1).1 (H2 V h2).1) rfl
theorem IJ{env:Env}{kn:Str->Option NameKind}(V:En env kn)(H:PE c r C m){o:Option Expr}(h:Z8 (X8 m) (fun x=>JI c kn m x) o=true):Ya c (r+1) env o (ev C m):=by
 cases o with
 |none=>cases Dn h;exact ZEh
 |some e=>exact ZCg (H V h).1
theorem ZJ8(H:PE c r C m)(H2:PE c r C ma)(H3:PE c r C mb):PE c r C (.sl m ma mb):=fun {e env kn} V h=>Y9 h fun v i p h=>ZBb (P:=fun i=>JY c (r+1) env (.Subscript v i p) C (.sl m ma mb)) h fun lo hi q h=>bA h fun h1 h=>bA h fun h2 h3 =>
 .plain (ZIY (H V h1).1 (IJ V H2 h2) (IJ V H3 h3)) rfl
theorem ZIy{lv:LV}(H:PEs c r C as):PE c r C (.lst as lv):=fun V h=>ZCj h fun es p h=>bA h fun h1 h=>bA h fun h2 h=>.plain (ZGa h1 (qH h2) (H V h).evs) rfl
theorem ZIr(H:PEs c r C as):PE c r C (.tup as):=fun V h=>Y8 h fun es n p h=>bA h fun h1 h=>bA h fun h2 h=>.plain (ZGT h1 (qH h2) (H V h).evs) rfl
theorem ZI5(O:c.Ok){ks:List (List Nat)}{lv:LV}(H:PEs c r C as):PE c r C (.dct ks as lv):=fun V h=>ZCk h fun keys es p h=>bA h fun h1 h=>bA h fun h2 h=>bA h fun h3 h=>bA h fun h4 h =>
 .plain (ZGi O h1 (beq_iff_eq.mp h2) (qH h3) (fun q=>by subst q;exact ff h4) (H V h)) rfl
theorem GJ{env:Env}{kn:Str->Option NameKind}(V:En env kn)(H:PE c r C m){es:List Expr}(h:Z9 (Xu m) (fun e=>JI c kn m e) es=true):U4 c (r+1) env es (tst C m):=by
 cases es with
 |nil=>cases ZCs h;exact ZCX
 |cons e es=>exact bA h fun h1 h2=>UN (P:=fun es=>U4 c (r+1) env (e::es) (tst C m)) h1 (ZCW (H V h2).2)
theorem Yo{it':Expr}(h:YA it'=true){env:Env}:∀ x,foldedSetIterable it' env x=pure x:=by
 cases it'<;>first |exact fun J=>rfl |exact ff h
theorem ZHB(O:c.Ok){x:Nat}(H:PE c r C m)(H2:PE c r C ma)(H3:PE c r C mb):PE c r C (.comp m x ma mb):=fun {e env kn} V h=>DQ (show Xs e (fun elt' y it' ifs sc=>y==c.nm x&&(WK c sc kn x&&(JI c kn ma it'&&(JI c (U7 sc kn) m elt'&&Z9 (Xu mb) (fun e=>JI c (U7 sc kn) mb e) ifs))))=true from h) fun elt y yp it ifs sc p h0 h=>bA h fun h1 h=>bA h fun h2 h=>bA h fun h3 h=>bA h fun h4 h5 =>
 sE (P:=fun y=>JY c (r+1) env (.ListComp elt [⟨.Name y yp,it,ifs,0⟩] sc p) C (.comp m x ma mb)) h1 (by
  obtain⟨cl,S,en⟩:=KU O V h2
  exact .plain (ZEK O V.ok (Yo h0) S (H2 V h3).1 (fun L VV=>(H (en L VV) h4).1) fun L VV=>GJ (en L VV) H3 h5) rfl)
theorem ZHA(H:PE c r C m)(H2:PEs c r C as):PEs c r C (m::as):=fun {es env kn} V h=>by
 cases es with
 |nil=>exact ff h
 |cons e es=>exact bA h fun h1 h2=>.cons (H V h1).1 (H2 V h2)
theorem ZIv:PEs c r C []:=fun {es env kn} V h=>UN (P:=fun es=>EvAll c (r+1) env C es []) h .nil
theorem Jg(O:c.Ok)(HC:JO c r C)(m:ME):PE c r C m:=
 ME.rec (motive_1:=PE c r C) (motive_2:=PEs c r C) (fun J {J J J} J h=>ZEc h) (fun J=>ZIz O) (fun J=>ZG9 O) (fun J J J=>ZHE O) (fun J J J J=>ZKA O) (fun J J J J=>ZI7 O) (fun J J=>ZHD HC) (fun J J J J J=>ZEe O HC) (fun J J J J=>ZEf O HC)
  (fun J J J J=>ZIw O HC) (fun J J=>ZKB O) (fun J J J=>ZJ7) (fun J J=>ZI9) (fun J J H J=>ZIt H) (fun J J J=>ZI6) (fun J J J J J=>ZHC) (fun J J J=>ZI8) (fun J=>ZIx) (fun J=>ZIu) (fun J J=>ZJA) (fun J J=>ZJ9) (fun J J J=>ZI0) (fun J J=>ZIs) (fun J J J=>ZJ8)
  (fun J J=>ZIy) (fun J=>ZIr) (fun J J J=>ZI5 O) (fun J J J J=>ZHB O) (fun J=>ZI1 O) (fun J J J=>ZI4 O) (fun J J J J=>ZI3 O HC) (fun J J J=>ZI2 O HC) ZIv (fun J J=>ZHA) m
end
section
variable{s:Stmt}{P:Stmt->Prop}
def OC(s:Stmt)(k:Expr->Bool):Bool:=ctq fun h=>Stmt.Expr.elim (motive_2:=fun J=>Bool) s h fun e J=>k e
@[elab_as_elim] theorem ZDA{k}(h:OC s k=true)(f:∀ e p,k e=true->P (.Expr e p)):P s:=Jf h fun q=>Stmt.Expr.elim (motive_2:=fun s=>OC s k=true->P s) s q (fun J J h=>f _ _ h) h
def Wc(s:Stmt)(k:Expr->Expr->Bool):Bool:=ctq fun h=>Stmt.Assign.elim (motive_2:=fun J=>Bool) s h fun ts e J=>l1 ts fun t=>k t e
@[elab_as_elim] theorem Xk{k}(h:Wc s k=true)(f:∀ t e p,k t e=true->P (.Assign [t] e p)):P s:=
 Jf h fun q=>Stmt.Assign.elim (motive_2:=fun s=>Wc s k=true->P s) s q (fun J J J h=>Uj (P:=fun ts=>P (.Assign ts _ _)) h fun t h=>f _ _ _ h) h
def YN(s:Stmt)(k:Expr->Operator->Expr->Bool):Bool:=ctq fun h=>Stmt.AugAssign.elim (motive_2:=fun J=>Bool) s h fun t o e J=>k t o e
@[elab_as_elim] theorem NR{k}(h:YN s k=true)(f:∀ t o e p,k t o e=true->P (.AugAssign t o e p)):P s:=Jf h fun q=>Stmt.AugAssign.elim (motive_2:=fun s=>YN s k=true->P s) s q (fun J J J J h=>f _ _ _ _ h) h
def sIf(s:Stmt)(k:Expr->List Stmt->List Stmt->Bool):Bool:=ctq fun h=>Stmt.If.elim (motive_2:=fun J=>Bool) s h fun t b o J=>k t b o
@[elab_as_elim] theorem ZHo{k}(h:sIf s k=true)(f:∀ t b o p,k t b o=true->P (.If t b o p)):P s:=Jf h fun q=>Stmt.If.elim (motive_2:=fun s=>sIf s k=true->P s) s q (fun J J J J h=>f _ _ _ _ h) h
def Oe(s:Stmt)(k:Expr->List Stmt->Bool):Bool:=ctq fun h=>Stmt.While.elim (motive_2:=fun J=>Bool) s h fun t b o J=>o.isEmpty&&k t b
@[elab_as_elim] theorem ZFR{k}(h:Oe s k=true)(f:∀ t b p,k t b=true->P (.While t b [] p)):P s:=
 Jf h fun q=>Stmt.While.elim (motive_2:=fun s=>Oe s k=true->P s) s q (fun J J J J h=>bA h fun h1 h2=>UN (P:=fun o=>P (.While _ _ o _)) h1 (f _ _ _ h2)) h
def Zw(s:Stmt)(k:Expr->Expr->List Stmt->Bool):Bool:=ctq fun h=>Stmt.For.elim (motive_2:=fun J=>Bool) s h fun t i b o J=>o.isEmpty&&k t i b
@[elab_as_elim] theorem Gg{k}(h:Zw s k=true)(f:∀ t i b p,k t i b=true->P (.For t i b [] p)):P s:=
 Jf h fun q=>Stmt.For.elim (motive_2:=fun s=>Zw s k=true->P s) s q (fun J J J J J h=>bA h fun h1 h2=>UN (P:=fun o=>P (.For _ _ _ o _)) h1 (f _ _ _ _ h2)) h
def Og(s:Stmt)(k:Option Expr->Bool):Bool:=ctq fun h=>Stmt.Return.elim (motive_2:=fun J=>Bool) s h fun v J=>k v
@[elab_as_elim] theorem ZFT{k}(h:Og s k=true)(f:∀ v p,k v=true->P (.Return v p)):P s:=Jf h fun q=>Stmt.Return.elim (motive_2:=fun s=>Og s k=true->P s) s q (fun J J h=>f _ _ h) h
def OD(s:Stmt)(k:Expr->Bool):Bool:=ctq fun h=>Stmt.Assert.elim (motive_2:=fun J=>Bool) s h fun t m J=>m.isNone&&k t
@[elab_as_elim] theorem ZDB{k}(h:OD s k=true)(f:∀ t p,k t=true->P (.Assert t none p)):P s:=by
 refine Jf h fun q=>Stmt.Assert.elim (motive_2:=fun s=>OD s k=true->P s) s q (fun t m p h=>?_) h
 cases m
 ·exact f _ _ h
 ·exact ff h
def Of(s:Stmt)(k:List Stmt->Bool):Bool:=ctq fun h=>Stmt.Try.elim (motive_2:=fun J=>Bool) s h fun b hs oe fb J=>!hs.isEmpty&&(oe.isEmpty&&(fb.isEmpty&&k b))
@[elab_as_elim] theorem ZFS{k}(h:Of s k=true)(f:∀ b h hs p,k b=true->P (.Try b (h::hs) [] [] p)):P s:=
 Jf h fun q=>Stmt.Try.elim (motive_2:=fun s=>Of s k=true->P s) s q (fun b hs oe fb p h=>bA h fun h1 h=>bA h fun h2 h=>bA h fun h3 h=>by
  cases List.isEmpty_iff.mp h2
  cases List.isEmpty_iff.mp h3
  cases hs with
  |nil=>exact ff h1
  |cons a l=>exact f _ _ _ _ h) h
def HV(s:Stmt):Bool:=ctq fun h=>Stmt.Pass.elim (motive_2:=fun J=>Bool) s h fun J=>true
def IR(s:Stmt):Bool:=ctq fun h=>Stmt.Break.elim (motive_2:=fun J=>Bool) s h fun J=>true
def HW(s:Stmt):Bool:=ctq fun h=>Stmt.Continue.elim (motive_2:=fun J=>Bool) s h fun J=>true
end
mutual
noncomputable def JX(c:Cx)(kn:Str->Option NameKind):MS->Stmt->Bool
 |.ex e=>fun s=>OC s fun e'=>Qc e'&&JI c kn e e'
 |.asg n e=>fun s=>Wc s fun t e'=>NL t fun y np=>y==c.nm n&&((kn y==some .local)&&((Qc e'||(Gs e&&XB y np e'))&&JI c kn e e'))
 |.asgA t n D e=>fun s=>Wc s fun u e'=>Q8 u fun t' a J=>a==c.nm n&&(QD c D n&&(Qc e'&&(JI c kn e e'&&JI c kn t t')))
 |.asgS t i e=>fun s=>Wc s fun u e'=>W8 u fun t' i'=>Qc e'&&(JI c kn e e'&&(JI c kn t t'&&JI c kn i i'))
 |.asgT ns e=>fun s=>Wc s fun u e'=>W7 u fun es=>Qc e'&&(X9 e'&&(Zj c kn es ns&&JI c kn e e'))
 |.asgTA t1a n1a D1a t2a n2a D2a e=>fun s=>Wc s fun u e'=>W7 u fun es=>l2 es fun u1a u2a=>Q8 u1a fun t1' a1a J=>Q8 u2a fun t2' a2a J =>
  a1a==c.nm n1a&&(a2a==c.nm n2a&&(QD c D1a n1a&&(QD c D2a n2a&&(Qc e'&&(X9 e'&&(JI c kn e e'&&(JI c kn t1a t1'&&JI c kn t2a t2')))))))
 |.augN n o e=>fun s=>YN s fun u o' e'=>UI u fun y=>y==c.nm n&&((kn y==some .local)&&(Zu o' o&&JI c kn e e'))
 |.augA t n D o e=>fun s=>YN s fun u o' e'=>Q8 u fun t' a J=>a==c.nm n&&(QD c D n&&(Zu o' o&&(JI c kn t t'&&JI c kn e e')))
 |.augS t i o e=>fun s=>YN s fun u o' e'=>W8 u fun t' i'=>Ky i'&&(Zu o' o&&(JI c kn t t'&&(JI c kn i i'&&JI c kn e e')))
 |.iff t b o=>fun s=>sIf s fun t' b' o'=>JI c kn t t'&&(chkSs c kn b b'&&chkSs c kn o o')
 |.whl t b=>fun s=>Oe s fun t' b'=>JI c kn t t'&&chkSs c kn b b'
 |.for x it b=>fun s=>Zw s fun u it' b'=>UI u fun y=>y==c.nm x&&((kn y==some .local)&&(YA it'&&(JI c kn it it'&&chkSs c kn b b')))
 |.forT ns it b=>fun s=>Zw s fun u it' b'=>W7 u fun es=>Zj c kn es ns&&(YA it'&&(JI c kn it it'&&chkSs c kn b b'))
 |.ret e=>fun s=>Og s (Z8 (X8 e) fun x=>JI c kn e x)
 |.pass=>HV
 |.brk=>IR
 |.cont=>HW
 |.asrt e=>fun s=>OD s fun e'=>JI c kn e e'
 |.dead=>fun J=>true
 |.tryS b=>fun s=>Of s fun b'=>chkSs c kn b b'
noncomputable def chkSs(c:Cx)(kn:Str->Option NameKind):List MS->List Stmt->Bool
 |[]=>fun ss=>ss.isEmpty
 |m::ms=>fun ss=>match ss with
  |[]=>false
  |s::ss=>JX c kn m s&&chkSs c kn ms ss
end
def PS(c:Cx)(r:Nat)(C:Ora)(m:MS):Prop:=∀ {s:Stmt} {env:Env} {kn:Str->Option NameKind},En env kn->JX c kn m s=true->JW c (r+1) env s (exc C m)
def PSs(c:Cx)(r:Nat)(C:Ora)(ms:List MS):Prop:=∀ {ss:List Stmt} {env:Env} {kn:Str->Option NameKind},En env kn->chkSs c kn ms ss=true->Qy c (r+1) env ss (exs C ms)
section
variable{c:Cx}{r:Nat}{C:Ora}{m mt mi mt2:ME}{b b2:List MS}{n D n2 D2:Nat}{o:Bop}
theorem Do{env:Env}(VV:EnvOk env):interactive env=false:=by unfold interactive;rw[VV.kind];rfl
theorem ZJV(O:c.Ok)(HC:JO c r C):PS c r C (.ex m):=fun V h=>ZDA h fun e p h=>bA h fun h1 h2=>ZIW (Do V.ok) h1 (Jg O HC m V h2).1
theorem ZAR(O:c.Ok)(HC:JO c r C){me mi mc:ME}{x n:Nat}{e:Expr}{env:Env}{kn:Str->Option NameKind}(V:En env kn){np pos:Pos}(hk:env.kindOf (c.nm n)=some .local)
  (hs:XB (c.nm n) np e=true) (h:JI c kn (.comp me x mi mc) e=true):JW c (r+1) env (.Assign [.Name (c.nm n) np] e pos) (exc C (.asg n (.comp me x mi mc))):=
 DQ (P:=fun e=>XB (c.nm n) np e=true->JW c (r+1) env (.Assign [.Name (c.nm n) np] e pos) (exc C (.asg n (.comp me x mi mc))))
  (show Xs e (fun elt' y it' ifs sc=>y==c.nm x&&(WK c sc kn x&&(JI c kn mi it'&&(JI c (U7 sc kn) me elt'&&Z9 (Xu mc) (fun e=>JI c (U7 sc kn) mc e) ifs))))=true from h)
  (fun elt y yp it ifs sc p h0 h=>bA h fun h1 h=>bA h fun h2 h=>bA h fun h3 h=>bA h fun h4 h5 hs=>sE (P:=fun y=>JW c (r+1) env (.Assign [.Name (c.nm n) np] (.ListComp elt [⟨.Name y yp,it,ifs,0⟩] sc p) pos) (exc C (.asg n (.comp me x mi mc)))) h1 (by
   obtain⟨cl,S,en⟩:=KU O V h2
   have hsw:swapsWith (.ListComp elt [⟨.Name (c.nm x) yp,it,ifs,0⟩] sc p) (some (.Name (c.nm n) np)) pos.line env=pure true:=by
    show (pure (env.blockKind==.function&&env.kindOf (c.nm n)==some .local&&np.line==p.line&&!(sc.names.any fun (a,k)=>a==c.nm n&&(k==.local||k==.cell))):Sem Bool)=pure true
    have hb:(env.blockKind==ScopeKind.function)=true:=by unfold Env.blockKind;rw[V.ok.kind];rfl
    exact bA hs fun h1 h2=>by rw[hb,hk,h1,h2];rfl
   exact ZEB O V.ok (Yo h0) S hk hsw (Jg O HC mi V h3).1 (fun L VV=>(Jg O HC me (en L VV) h4).1) (fun L VV=>GJ (en L VV) (Jg O HC mc) h5))) hs
theorem ZB0{P:ME->Prop}{m:ME}(h:Gs m=true)(k:∀ me x mi mc,P (.comp me x mi mc)):P m:=Hg h (fun J h=>ff h) fun J J J J J=>k _ _ _ _
theorem ZHn(O:c.Ok)(HC:JO c r C):PS c r C (.asg n m):=fun {s env kn} V h=>Xk h fun u e p h=>ZBc (P:=fun u=>JW c (r+1) env (.Assign [u] e p) (exc C (.asg n m))) h fun y np h=>bA h fun h1 h=>bA h fun h2 h=>bA h fun h3 h4=>by
 cases beq_iff_eq.mp h1
 exact bO h3 (fun h3=>ZGS O V.ok ((V.kn _).trans (kE h2)) h3 (Jg O HC m V h4).1) fun h3=>bA h3 fun h3 h5 =>
  ZB0 (P:=fun m=>JI c kn m e=true->JW c (r+1) env (.Assign [.Name (c.nm n) np] e p) (exc C (.asg n m))) h3 (fun J J J J h4=>ZAR O HC V ((V.kn _).trans (kE h2)) h5 h4) h4
theorem ZFQ(O:c.Ok)(HC:JO c r C):PS c r C (.asgA mt n D m):=fun {s env kn} V h=>Xk h fun u e p h=>UV (P:=fun u=>JW c (r+1) env (.Assign [u] e p) (exc C (.asgA mt n D m))) h fun t a q h=>bA h fun h1 h=>bA h fun h2 h=>bA h fun h3 h=>bA h fun h4 h5=>by
 cases beq_iff_eq.mp h1
 exact ZEC O h2 h3 (Jg O HC m V h4).1 (Jg O HC mt V h5).1
theorem ZFP(O:c.Ok)(HC:JO c r C):PS c r C (.asgS mt mi m):=fun {s env kn} V h=>Xk h fun u e p h=>Y9 (P:=fun u=>JW c (r+1) env (.Assign [u] e p) (exc C (.asgS mt mi m))) h fun t i q h=>bA h fun h1 h=>bA h fun h2 h=>bA h fun h3 h4 =>
 ZEA h1 (Jg O HC m V h2).1 (Jg O HC mt V h3).1 (Jg O HC mi V h4).1
theorem ZFO(O:c.Ok)(HC:JO c r C){ns:List Nat}:PS c r C (.asgT ns m):=fun {s env kn} V h=>Xk h fun u e p h=>Y8 (P:=fun u=>JW c (r+1) env (.Assign [u] e p) (exc C (.asgT ns m))) h fun es k q h=>bA h fun h1 h=>bA h fun h2 h=>bA h fun h3 h4 =>
 ZD9 O V.ok h1 h2 (B6 V.kn h3) (Jg O HC m V h4).1
theorem ZC9(O:c.Ok)(HC:JO c r C):PS c r C (.asgTA mt n D mt2 n2 D2 m):=fun {s env kn} V h=>Xk h fun u e p h=>Y8 (P:=fun u=>JW c (r+1) env (.Assign [u] e p) (exc C (.asgTA mt n D mt2 n2 D2 m))) h fun es k q h =>
 XH (P:=fun es=>JW c (r+1) env (.Assign [.Tuple es k q] e p) (exc C (.asgTA mt n D mt2 n2 D2 m))) h fun u1a u2a h=>UV (P:=fun u1a=>JW c (r+1) env (.Assign [.Tuple [u1a,u2a] k q] e p) (exc C (.asgTA mt n D mt2 n2 D2 m))) h fun t a q1 h =>
 UV (P:=fun u2a=>JW c (r+1) env (.Assign [.Tuple [.Attribute t a q1,u2a] k q] e p) (exc C (.asgTA mt n D mt2 n2 D2 m))) h fun t2 a2 q2 h=>bA h fun h1 h=>bA h fun h1' h=>bA h fun h2 h=>bA h fun h3 h=>bA h fun h4 h=>bA h fun h5 h=>bA h fun h6 h=>bA h fun h7 h8=>by
 cases beq_iff_eq.mp h1
 cases beq_iff_eq.mp h1'
 exact ZCH O h2 h3 h4 h5 (Jg O HC m V h6).1 (Jg O HC mt V h7).1 (Jg O HC mt2 V h8).1
theorem ZFL(O:c.Ok)(HC:JO c r C):PS c r C (.augN n o m):=fun {s env kn} V h=>NR h fun u o' e p h=>Uq (P:=fun u=>JW c (r+1) env (.AugAssign u o' e p) (exc C (.augN n o m))) h fun y q h=>bA h fun h1 h=>bA h fun h2 h=>bA h fun h3 h4=>by
 cases beq_iff_eq.mp h1
 obtain⟨rfl,ho⟩:=Kj h3
 exact ZD6 O V.ok ((V.kn _).trans (kE h2)) ho (Jg O HC m V h4).1
theorem ZFM(O:c.Ok)(HC:JO c r C):PS c r C (.augA mt n D o m):=fun {s env kn} V h=>NR h fun u o' e p h=>UV (P:=fun u=>JW c (r+1) env (.AugAssign u o' e p) (exc C (.augA mt n D o m))) h fun t a q h=>bA h fun h1 h=>bA h fun h2 h=>bA h fun h3 h=>bA h fun h4 h5=>by
 cases beq_iff_eq.mp h1
 obtain⟨rfl,ho⟩:=Kj h3
 exact ZD7 O h2 ho (Jg O HC mt V h4).1 (Jg O HC m V h5).1
theorem ZFK(O:c.Ok)(HC:JO c r C):PS c r C (.augS mt mi o m):=fun {s env kn} V h=>NR h fun u o' e p h=>Y9 (P:=fun u=>JW c (r+1) env (.AugAssign u o' e p) (exc C (.augS mt mi o m))) h fun t i q h=>bA h fun h1 h=>bA h fun h2 h=>bA h fun h3 h=>bA h fun h4 h5=>by
 obtain⟨rfl,ho⟩:=Kj h2
 exact ZD5 h1 ho (Jg O HC mt V h3).1 (Jg O HC mi V h4).1 (Jg O HC m V h5).1
theorem ZHj(O:c.Ok)(HC:JO c r C)(H:PSs c r C b)(H2:PSs c r C b2):PS c r C (.iff mt b b2):=fun V h=>ZHo h fun t b o p h=>bA h fun h1 h=>bA h fun h2 h3=>ZGO (Jg O HC mt V h1).2 (H V h2) (H2 V h3)
theorem ZHg(O:c.Ok)(HC:JO c r C)(H:PSs c r C b):PS c r C (.whl mt b):=fun V h=>ZFR h fun t b p h=>bA h fun h1 h2=>ZGM (Jg O HC mt V h1).2 (H V h2)
theorem ZHk(O:c.Ok)(HC:JO c r C)(H:PSs c r C b):PS c r C (.for n mi b):=fun {s env kn} V h=>Gg h fun u i bb p h=>Uq (P:=fun u=>JW c (r+1) env (.For u i bb [] p) (exc C (.for n mi b))) h fun y q h=>bA h fun h1 h=>bA h fun h2 h=>bA h fun h3 h=>bA h fun h4 h5=>by
 cases beq_iff_eq.mp h1
 exact ZGQ O V.ok ((V.kn _).trans (kE h2)) (Yo h3) (Jg O HC mi V h4).1 (H V h5)
theorem ZFG(O:c.Ok)(HC:JO c r C){ns:List Nat}(H:PSs c r C b):PS c r C (.forT ns mi b):=fun {s env kn} V h=>Gg h fun u i bb p h=>Y8 (P:=fun u=>JW c (r+1) env (.For u i bb [] p) (exc C (.forT ns mi b))) h fun es k tp h=>bA h fun h1 h=>bA h fun h2 h=>bA h fun h3 h4 =>
 ZD3 O V.ok (B6 V.kn h1) (Yo h2) (Jg O HC mi V h3).1 (H V h4)
theorem ZHi(O:c.Ok)(HC:JO c r C):PS c r C (.ret m):=fun V h=>ZFT h fun v p h=>by
 cases v with
 |none=>cases Dn h;exact ZD1
 |some e=>exact ZGN (Jg O HC m V h).1
theorem ZFF:PS c r C .pass:=fun {s env kn} V h=>Jf (show ctq _=true from (h:HV s=true)) fun q=>Stmt.Pass.elim (motive_2:=fun s=>JW c (r+1) env s (exc C .pass)) s q fun J=>ZD2
theorem ZHm:PS c r C .brk:=fun {s env kn} V h=>Jf (show ctq _=true from (h:IR s=true)) fun q=>Stmt.Break.elim (motive_2:=fun s=>JW c (r+1) env s (exc C .brk)) s q fun J=>ZGR
theorem ZFJ:PS c r C .cont:=fun {s env kn} V h=>Jf (show ctq _=true from (h:HW s=true)) fun q=>Stmt.Continue.elim (motive_2:=fun s=>JW c (r+1) env s (exc C .cont)) s q fun J=>ZD4
theorem ZFN(O:c.Ok)(HC:JO c r C):PS c r C (.asrt m):=fun V h=>ZDB h fun t p h=>ZD8 (Jg O HC m V h).2
theorem ZFI:PS c r C .dead:=fun {s env kn} V h J J J J J J J J hr hf R N=>nn hf
theorem ZHh(H:PSs c r C b):PS c r C (.tryS b):=fun V h=>ZFS h fun b' x hs p h J J fl J J J J J hr hf R N=>wpAny_Try_except (H V h hr hf R fun w s' g' R' X' E'=>by
 cases fl with
 |next=>cases X';exact wpAny_execs_nil (N.nxt R' E')
 |brk=>cases X';exact N _ _ _ R' rfl E'
 |cont=>cases X';exact N _ _ _ R' rfl E'
 |ret v=>obtain⟨y,rfl,hy⟩:=X';exact N _ _ _ R' ⟨y,rfl,hy⟩ E')
theorem Gf{m:MS}(H:PS c r C m)(H2:PSs c r C b):PSs c r C (m::b):=fun {ss env kn} V h=>by
 cases ss with
 |nil=>exact ff h
 |cons s ss=>exact bA h fun h1 h2=>ZCF (H V h1) (H2 V h2)
theorem HU:PSs c r C []:=fun {ss env kn} V h=>UN (P:=fun ss=>Qy c (r+1) env ss (exs C [])) h ZDz
theorem QM(O:c.Ok)(HC:JO c r C)(m:MS):PS c r C m:=
 MS.rec (motive_1:=PS c r C) (motive_2:=PSs c r C) (fun J=>ZJV O HC) (fun J J=>ZHn O HC) (fun J J J J=>ZFQ O HC) (fun J J J=>ZFP O HC) (fun J J=>ZFO O HC) (fun J J J J J J J=>ZC9 O HC) (fun J J J=>ZFL O HC) (fun J J J J J=>ZFM O HC) (fun J J J J=>ZFK O HC)
  (fun J J J=>ZHj O HC) (fun J J=>ZHg O HC) (fun J J J=>ZHk O HC) (fun J J J=>ZFG O HC) (fun J=>ZHi O HC) ZFF ZHm ZFJ (fun J=>ZFN O HC) ZFI (fun J=>ZHh) HU (fun J J=>Gf) m
theorem ZCb(O:c.Ok)(HC:JO c r C):∀ b,PSs c r C b:=fun l0=>by
 induction l0 with
 |nil =>
  exact HU
 |cons m b ih =>
  exact Gf (QM O HC m) (ih)
end
end Mine
end
noncomputable section
open PySem PySem.Calls PyProof.Rows PySem.W
namespace Mine
noncomputable def YB:List Str->Bool
 |[]=>true
 |x::r=>!(r.any (·==x))&&YB r
theorem Ka:∀ {l:List Str},YB l=true->l.Nodup:=by
 intro l0
 induction l0 with
 |nil =>
  intro _
  exact List.nodup_nil
 |cons x r ih =>
  intro h
  exact bA h fun h1 h2=>List.nodup_cons.mpr ⟨fun q=>Bool.false_ne_true ((YQ h1).symm.trans (List.any_eq_true.mpr ⟨x,q,beq_self_eq_true x⟩)),ih h2⟩
noncomputable def ob{α:Type}(x:Option α)(f:α->Bool):Bool:=match x with
 |some a=>f a
 |none=>false
theorem obE{α:Type}{x:Option α}{f:α->Bool}{P:Prop}(h:ob x f=true)(k:∀ a,x=some a->f a=true->P):P:=by
 cases x with
 |none=>exact ff h
 |some a=>exact k a rfl h
noncomputable def ZN(o:Obj):Option FuncData:=match o.data with
 |.func fd=>some fd
 |_=>none
theorem DE{o:Obj}{fd:FuncData}(h:ZN o=some fd):o.data=.func fd:=by
 unfold ZN at h
 generalize o.data=d at h
 cases d<;>first |exact nn h |(cases h;rfl)
noncomputable def ZS(fd:FuncData):Option (List Stmt):=match fd.body with
 |.stmts b=>some b
 |_=>none
theorem DN{fd:FuncData}{b:List Stmt}(h:ZS fd=some b):fd.body=.stmts b:=by
 unfold ZS at h
 generalize fd.body=d at h
 cases d<;>first |exact nn h |(cases h;rfl)
noncomputable def NU(p:Arguments):Bool:=p.posonlyargs.isEmpty&&(p.vararg.isNone&&(p.kwonlyargs.isEmpty&&(p.kw_defaults.isEmpty&&p.kwarg.isNone)))
theorem B3{p:Arguments}(h:NU p=true):p=⟨[],p.args,none,[],[],none,p.defaults⟩:=by
 obtain⟨a,b,c,d,e,f,g⟩:=p
 refine bA h fun h1 h=>bA h fun h2 h=>bA h fun h3 h=>bA h fun h4 h5=>?_
 show Arguments.mk a b c d e f g=Arguments.mk [] b none [] [] none g
 rw[(List.isEmpty_iff.mp h1:a=[]),(Option.isNone_iff_eq_none.mp h2:c=none),(List.isEmpty_iff.mp h3:d=[]),(List.isEmpty_iff.mp h4:e=[]),(Option.isNone_iff_eq_none.mp h5:f=none)]
def ZIq(c:Cx)(m:MFun)(fd:FuncData)(body:List Stmt)(as:List Arg):Bool:=
 codeIn c.K fd.code fd.qualname&&((Jh as==m.ps.map c.nm)&&(YB (Jh as)&&((fd.scope.kind==.function)&&((fd.scope.isGenerator==false)&&((fd.scope.isCoroutine==false) &&
 ((fd.globals==mainGlobals)&&((fd.builtins==builtinsNs)&&(fd.closure.isEmpty&&(ob (NG c.K fd.defaults) (fun ds=>Z6 m.ds ds&&Nat.ble ds.length (Jh as).length) &&
 ((Jh as).all (fun x=>fd.scope.names.lookup x==some .local||fd.scope.names.lookup x==some .cell)&&chkSs c (fun x=>fd.scope.names.lookup x) m.body body))))))))))
def U3(c:Cx)(f:Nat)(m:MFun):Bool:=ob (c.K.lookup (c.fA f)) fun o=>ob (ZN o) fun fd=>ob (ZS fd) fun body=>NU fd.params&&ZIq c m fd body fd.params.args
section
variable{c:Cx}{r:Nat}{C:Ora}
theorem Tl{fd:FuncData}{L a:Addr}:XZ (callEnvC fd L a):=fun x hx=>cellsFrom_some fd.scope.names (L+1) [] (.inl (show fd.scope.names.lookup x=some .cell from hx))
theorem Bo(O:c.Ok)(HC:JO c r C){f:Nat}{m:MFun}(h:U3 c f m=true){A:Around}{U:St}{vs:List Mine.V}{v:Mine.V}{U':St}{env:Env}{g:Gh}{s:Shared}{xs:List Value}{E:Value->Shared->Prop}{Q:Value->Shared->Prop}
  (hr:JP A (r+2)) (hf:Qx C m vs U=some (v,U')) (R:Rel c env g U s) (X:Vxs c env g s vs xs) (N:Nxt c env g s v U' Q):codeAny c.M A (.call (.ref (c.fA f)) ⟨xs,[]⟩) (XD Q E) s:=
 obE h fun o ho h=>obE h fun fd hfd h=>obE h fun body hb h=>bA h fun hp h=>bA h fun h3 h=>bA h fun h4 h=>bA h fun h5 h=>bA h fun h6 h=>bA h fun h7 h=>bA h fun h8 h=>bA h fun h9 h=>bA h fun h10 h=>bA h fun h11 h=>bA h fun hd h=>bA h fun h12 h13=>obE hd fun ds hds hd=>bA hd fun hd1 hd2=>by
  obtain⟨oc,od,odat,osl⟩:=o
  cases DE hfd
  exact ZGy O (ds:=ds) ⟨⟨_,_,_,ho⟩,h3,DN hb,B3 hp,bE h4,Ka h5,hds,hd1,qE hd2,bE h6,bE h7,bE h8,fun x hx=>bO (KA h12 x hx) (fun q=>.inl (bE q)) fun q=>.inr (bE q),bE h9,bE h10,List.isEmpty_iff.mp h11⟩
   (fun L VV=>ZCb O HC m.body ⟨VV,Tl,fun x=>rfl⟩ h13) hr hf R X N
theorem NV(O:c.Ok){T:Nat->Option MFun}(h:∀ f m,T f=some m->U3 c f m=true):∀ n,JO c (2*n) (JH T n):=fun l0=>by
 induction l0 with
 |zero =>
  exact fun J J J J J J J J J J J J J J hf J J J=>nn hf
 |succ n ih =>
  exact fun J J J J J J J J J J J J hr VV hf R X N=>boE hf fun m h1 h2=>Bo O ih (h _ _ h1) hr h2 R X N
end
noncomputable def Uc(n:Nat):Id->Bool
 |.t k=>decide (k<n)
 |.p _=>true
mutual
noncomputable def V.blw(n:Nat):Mine.V->Bool
 |.none=>true
 |.bool _=>true
 |.int _=>true
 |.str _=>true
 |.tup l=>V.blws n l
 |.list l=>V.blws n l
 |.dict _ vs=>V.blws n vs
 |.obj i=>Uc n i
 |.fn _=>true
 |.meth _ v=>V.blw n v
 |.rng _ _=>true
noncomputable def V.blws(n:Nat):List Mine.V->Bool
 |[]=>true
 |v::l=>V.blw n v&&V.blws n l
end
noncomputable def J1(n:Nat):List (Nat×Mine.V)->Bool
 |[]=>true
 |(_,v)::l=>V.blw n v&&J1 n l
def Ob.blw(n:Nat):Ob->Bool
 |.list l=>V.blws n l
 |.dict _ vs=>V.blws n vs
 |.inst _ fs=>J1 n fs
noncomputable def Ud(n:Nat):List (Id×Ob)->Bool
 |[]=>true
 |(i,o)::l=>(Uc n i&&Ob.blw n o)&&Ud n l
def Gh.clean(g:Gh)(n:Nat):Gh:={ g with cs:=fun i=>if Uc n i=true then g.cs i else none }
section
variable{c:Cx}{r:Nat}{env env':Env}{A:Around}{U U' U1a:St}{g g1a:Gh}{s s' s1a s2a:Shared}{E:Value->Shared->Prop}{Q:Value->Shared->Prop}{v:Mine.V}{D:Addr->Prop}{n:Nat}{F:Addr->Obj->Prop}
theorem Gh.clean_rho{i:Id}{a:Addr}(h:Uc n i=true)(e:g.rho i=some a):(g.clean n).rho i=some a:=by
 unfold Gh.rho Gh.clean at *
 dsimp only
 rw[if_pos h];exact e
theorem VR.clean{v:Mine.V}{x:Value}(h:VR c F g.rho v x):V.blw n v=true->VR c F (g.clean n).rho v x:=
 VR.rec (motive_1:=fun v x J=>V.blw n v=true->VR c F (g.clean n).rho v x) (motive_2:=fun l xs J=>V.blws n l=true->VRs c F (g.clean n).rho l xs) (fun J=>.none) (fun b J=>.bool b) (fun i t J=>.int i t) (fun s t J=>.str s t) (fun a b d J e h=>.tup a b d (e h)) (fun a J e h=>.list a (e h))
  (fun a b d J f e h=>.dict a b d (e h) f) (fun a h=>.obj (Gh.clean_rho h a)) (fun f J=>.fn f) (fun a J=>.rng a) (fun a J b h=>.meth a (b h)) (fun J=>.nil) (fun J J a b h=>bA h fun h1 h2=>.cons (a h1) (b h2)) h
theorem VRs.clean:∀ {l:List Mine.V} {xs:List Value},VRs c F g.rho l xs->V.blws n l=true->VRs c F (g.clean n).rho l xs:=by
 intro l
 induction l with
 |nil=>exact fun h J=>h.nilE .nil
 |cons _ _ ih =>
  intro xs h hb
  exact bA hb fun h1 h2=>h.consE fun J J a b=>.cons (a.clean h1) (ih b h2)
theorem FsR.clean{fs:List (Nat×Mine.V)}{es:List DictEntry}(h:FsR c F g.rho fs es):J1 n fs=true->FsR c F (g.clean n).rho fs es:=
 FsR.rec (motive:=fun fs es J=>J1 n fs=true->FsR c F (g.clean n).rho fs es) (fun J=>.nil) (fun a b J ih hb=>bA hb fun h1 h2=>.cons a (b.clean h1) (ih h2)) h
theorem ZAk{i:Id}{o:Ob}:∀ {l:List (Id×Ob)},Ud n l=true->JA l i=some o->Uc n i=true/\Ob.blw n o=true:=by
 intro l0
 induction l0 with
 |nil =>
  intro _ e
  exact nn e
 |cons p0 l ih =>
  obtain⟨j,q⟩:=p0
  intro h e
  exact bA h fun h1 h2=>by
   by_cases hj:j=i
   ·cases (if_pos hj).symm.trans e
    exact bA h1 fun h3 h4=>⟨hj▸h3,h4⟩
   ·exact ih h2 ((if_neg hj).symm.trans e)
theorem ZAl{i:Nat}{o:Mine.V}:∀ {l:List (Nat×Mine.V)},J1 n l=true->JA l i=some o->V.blw n o=true:=by
 intro l0
 induction l0 with
 |nil =>
  intro _ e
  exact nn e
 |cons p0 l ih =>
  obtain⟨j,q⟩:=p0
  intro h e
  exact bA h fun h1 h2=>by
   by_cases hj:j=i
   ·cases (if_pos hj).symm.trans e;exact h1
   ·exact ih h2 ((if_neg hj).symm.trans e)
theorem ObR.clean{h:Heap}{ob:Ob}{a o:Addr}(H:ObR c env g h ob a o)(hb:Ob.blw n ob=true):ObR c env (g.clean n) h ob a o:=by
 cases ob with
 |list l=>exact⟨H.1,H.2.imp fun J=>Exists.imp fun J z=>⟨z.1,VRs.clean z.2 hb⟩⟩
 |dict ks vs=>exact⟨H.1,H.2.1,H.2.2.imp fun J z=>⟨z.1,z.2.1,VRs.clean z.2.2 hb⟩⟩
 |inst C fs=>exact⟨H.1,H.2.1,H.2.2.1,H.2.2.2.imp fun J=>Exists.imp fun J z=>⟨z.1,FsR.clean z.2 hb⟩⟩
structure Cl(n:Nat)(U U':St):Prop where
 loc:∀ i v,JA U'.loc i=some v->JA U.loc i=some v
 hp:∀ i o,JA U'.hp i=some o->JA U.hp i=some o
 bloc:J1 n U'.loc=true
 bhp:Ud n U'.hp=true
 nx:U'.nx=n
 ps:∀ k,k∈U.ps->k∈U'.ps
theorem Gh.clean_cs{i:Id}{p:Addr×Addr}(e:(g.clean n).cs i=some p):g.cs i=some p:=by
 by_cases h:Uc n i=true
 ·exact(if_pos h).symm.trans e
 ·exact nn ((if_neg h).symm.trans e)
theorem Rel.clean(R:Rel c env g U s)(h:Cl n U U'):Rel c env (g.clean n) U' s:=
 ⟨⟨R.kin,R.wob,R.xob,R.fob,R.dis,R.loc.imp fun m z=>⟨z.1,fun i v e =>
   have hb:=ZAl h.bloc e
   ⟨fun q=>((z.2 i v (h.loc i v e)).1 q).imp fun x w=>⟨w.1,w.2.clean hb⟩,fun q=>((z.2 i v (h.loc i v e)).2 q).imp fun J=>Exists.imp fun J=>Exists.imp fun J w=>⟨w.1,w.2.1,w.2.2.1,w.2.2.2.clean hb⟩⟩⟩,
  fun i o e=>(ZAk h.bhp e).elim fun hb1 hb2=>(R.obs i o (h.hp i o e)).imp fun r=>Exists.imp fun q z=>⟨(if_pos hb1).trans z.1,z.2.clean hb2⟩,
  fun id r o e=>R.cW _ _ _ (Gh.clean_cs e),fun id id' r o r' e e'=>R.inj _ _ _ _ _ (Gh.clean_cs e) (Gh.clean_cs e'),fun k e=>if_neg fun q=>Nat.not_lt.mpr (h.nx▸e) (qH q),fun k e=>(show (g.clean n).cs (.p k)=g.cs (.p k) from rfl).trans (R.ps k fun q=>e (h.ps k q))⟩,R.pos⟩
theorem Ext.clean(R:Rel c env g U s)(x:Ext env g g1a s s1a):Ext env g (g1a.clean U.nx) s s1a:=
 ⟨x.fz,fun id p e=>(if_pos (by
  cases id with
  |p k=>rfl
  |t k=>exact decide_eq_true (Nat.lt_of_not_le fun hk=>nn ((R.nx k hk).symm.trans e)))).trans (x.cs id p e),x.X,x.gens⟩
end
end Mine
end
noncomputable section
open PySem PySem.Calls PyProof.Rows PySem.W
namespace Mine
noncomputable def Oh(x:Value)(f:Addr->Bool):Bool:=match x with
 |.ref a=>f a
 |_=>false
theorem HX{x:Value}{f:Addr->Bool}{P:Value->Prop}(h:Oh x f=true)(k:∀ a,f a=true->P (.ref a)):P x:=by cases x<;>first |exact ff h |exact k _ h
def HR(s:List Nat)(x:Value):Bool:=match x with
 |.str b _=>b==toS s
 |_=>false
noncomputable def Ow(v:Value)(t:String):Bool:=match v with
 |.type s=>s==t
 |_=>false
theorem Gr{v:Value}{t:String}(h:Ow v t=true):v=.type t:=by cases v<;>first |exact ff h |exact congrArg Value.type (bE h)
mutual
noncomputable def XL(K:Frag):Mine.V->Value->Bool
 |.none=>dIs .none
 |.bool a=>dIs (.bool a)
 |.int a=>dIs (.int a)
 |.str a=>HR a
 |.tup l=>fun x=>Oh x fun a=>ob (K.lookup a) fun o=>Ow o.cls "tuple"&&ob (W3 o) (fun xs=>chkVs K l xs)
 |.list l=>fun x=>Oh x fun a=>ob (K.lookup a) fun o=>Ow o.cls "list"&&(o.dict.isNone&&(o.slots.isEmpty&&ob (W3 o) (fun xs=>chkVs K l xs)))
 |.dict _ _=>fun J=>false
 |.obj _=>fun J=>false
 |.fn _=>fun J=>false
 |.meth _ _=>fun J=>false
 |.rng _ _=>fun J=>false
noncomputable def chkVs(K:Frag):List Mine.V->List Value->Bool
 |[]=>fun xs=>xs.isEmpty
 |v::l=>fun xs=>match xs with
  |[]=>false
  |x::xs=>XL K v x&&chkVs K l xs
end
section
variable{c:Cx}{F:Addr->Obj->Prop}{ρ:Id->Option Addr}
theorem ZC0{s:List Nat}{x:Value}(h:HR s x=true):VR c F ρ (.str s) x:=by cases x<;>first |exact ff h |(cases bE h;exact .str _ _)
theorem Y5(hF:∀ a o,c.K.lookup a=some o->F a o){v:Mine.V}:∀ {x:Value},XL c.K v x=true->VR c F ρ v x:=
 V.rec (motive_1:=fun v=>∀ {x:Value},XL c.K v x=true->VR c F ρ v x) (motive_2:=fun l=>∀ {xs:List Value},chkVs c.K l xs=true->VRs c F ρ l xs) Zs (fun J {J}=>Zs) (fun J {J}=>Zs) (fun J {J}=>ZC0)
  (fun J ih {J} h=>HX h fun a h=>obE h fun o ho h=>bA h fun h1 h=>obE h fun xs h2 h=>let ⟨_,_,h3,h4⟩:=Ks h2;.tup (hF _ _ ho) (Gr h1) h3 (h4▸ih h))
  (fun J ih {J} h=>HX h fun a h=>obE h fun o ho h=>bA h fun h1 h=>bA h fun h2 h=>bA h fun h3 h=>obE h fun xs h4 h=>by
   obtain⟨items,n,h5,rfl⟩:=Ks h4
   obtain⟨oc,od,odat,osl⟩:=o
   cases Gr h1
   cases Option.isNone_iff_eq_none.mp h2
   cases Array.isEmpty_iff.mp h3
   cases h5
   exact .list (hF _ _ ho) (ih h))
  (fun J J J {J} h=>ff h) (fun J {J} h=>ff h) (fun J {J} h=>ff h) (fun J J J {J} h=>ff h) (fun J J {J} h=>ff h) (fun {J} h=>UN h .nil) (fun J J h1 h2 {xs} h=>by
   cases xs with
   |nil=>exact ff h
   |cons x xs=>exact bA h fun a b=>.cons (h1 a) (h2 b)) v
noncomputable def Nj(w:World)(l:List (Str×Tok×Int×Tok)):List DictEntry:=l.map fun p=>⟨hashStr w p.1,.str p.1 p.2.1,.int p.2.2.1 p.2.2.2⟩
theorem ZAn:∀ l:List (Str×Tok×Int×Tok),Pairs (strKind c.prog c.w) (Nj c.w l) (l.map fun p=>(p.1,.int p.2.2.1 p.2.2.2)):=fun l0=>by
 induction l0 with
 |nil =>
  exact .nil
 |cons p l ih =>
  exact .cons (beq_self_eq_true p.1) rfl (ih)
theorem ZBW:∀ l:List (Str×Tok×Int×Tok),VRs c F ρ (l.map fun p=>.int p.2.2.1) (l.map fun p=>.int p.2.2.1 p.2.2.2):=fun l0=>by
 induction l0 with
 |nil =>
  exact .nil
 |cons p l ih =>
  exact .cons (.int _ _) (ih)
theorem ZEV{l:List (Str×Tok×Int×Tok)}{ks:List (List Nat)}{vs:List Mine.V}{a:Addr}{n:Nat}(hl:c.K.lookup a=some ⟨.type "dict",none,.dict (Nj c.w l).toArray n,#[]⟩)
  (hk:l.map (·.1)=ks.map toS) (hv:vs=l.map fun p=>.int p.2.2.1) (hn:YB (l.map (·.1))=true) (ha:(a==sysModules)=false) (hF:∀ a o,c.K.lookup a=some o->F a o):VR c F ρ (.dict ks vs) (.ref a):=
 .dict (kvs:=l.map fun p=>(p.1,.int p.2.2.1 p.2.2.2)) (hF _ _ hl) ⟨_,_,⟨rfl,rfl,rfl⟩,rfl,fun e he=>by
  obtain⟨p,hp,rfl⟩:=List.mem_map.mp (List.mem_toArray.mp he)
  exact⟨p.1,beq_self_eq_true p.1,rfl⟩,ZAn l,by rw[List.map_map];exact Ka hn⟩ (by rw[List.map_map];exact hk) (by rw[hv,List.map_map];exact ZBW l) ha
end
end Mine
end
noncomputable section
open PySem PySem.Calls PyProof.Rows PySem.W
namespace Mine
mutual
noncomputable def V.sb(i:Id)(w:Mine.V):Mine.V->Mine.V
 |.none=>.none
 |.bool b=>.bool b
 |.int n=>.int n
 |.str s=>.str s
 |.tup l=>.tup (V.sbs i w l)
 |.list l=>.list (V.sbs i w l)
 |.dict ks vs=>.dict ks (V.sbs i w vs)
 |.obj j=>if j=i then w else .obj j
 |.fn f=>.fn f
 |.meth f v=>.meth f (V.sb i w v)
 |.rng a b=>.rng a b
noncomputable def V.sbs(i:Id)(w:Mine.V):List Mine.V->List Mine.V
 |[]=>[]
 |v::l=>V.sb i w v::V.sbs i w l
end
mutual
noncomputable def V.no(i:Id):Mine.V->Bool
 |.none=>true
 |.bool _=>true
 |.int _=>true
 |.str _=>true
 |.tup l=>V.nos i l
 |.list l=>V.nos i l
 |.dict _ vs=>V.nos i vs
 |.obj j=>decide (j≠i)
 |.fn _=>true
 |.meth _ v=>V.no i v
 |.rng _ _=>true
noncomputable def V.nos(i:Id):List Mine.V->Bool
 |[]=>true
 |v::l=>V.no i v&&V.nos i l
end
noncomputable def QF(i:Id)(w:Mine.V):List (Nat×Mine.V)->List (Nat×Mine.V)
 |[]=>[]
 |(n,v)::l=>(n,V.sb i w v)::QF i w l
def Ob.sb(i:Id)(w:Mine.V):Ob->Ob
 |.list l=>.list (V.sbs i w l)
 |.dict ks vs=>.dict ks (V.sbs i w vs)
 |.inst C fs=>.inst C (QF i w fs)
noncomputable def Q2(i:Id)(w:Mine.V):List (Id×Ob)->List (Id×Ob)
 |[]=>[]
 |(j,o)::l=>if j=i then Q2 i w l else (j,Ob.sb i w o)::Q2 i w l
def St.sb(U:St)(k:Nat)(w:Mine.V):St:=⟨QF (.p k) w U.loc,Q2 (.p k) w U.hp,U.nx,U.ps.filter (·≠k)⟩
def Gh.drop(g:Gh)(i:Id):Gh:={ W:=fun b=>g.W b/\∀ p,g.cs i=some p->b≠p.2,X:=g.X,cs:=fun j=>if j=i then none else g.cs j }
section
variable{c:Cx}{r:Nat}{env env':Env}{A:Around}{U U' U1a:St}{g g1a:Gh}{s s' s1a s2a:Shared}{E:Value->Shared->Prop}{Q:Value->Shared->Prop}{v w:Mine.V}{D:Addr->Prop}{n:Nat}{F F':Addr->Obj->Prop}{ρ ρ':Id->Option Addr}{i:Id}
theorem VR.sb(hF:∀ a o,F a o->F' a o)(hρ:∀ j a,j≠i->ρ j=some a->ρ' j=some a)(hw:∀ a,ρ i=some a->VR c F' ρ' w (.ref a)){v:Mine.V}{x:Value}(h:VR c F ρ v x):VR c F' ρ' (V.sb i w v) x:=
 VR.rec (motive_1:=fun v x J=>VR c F' ρ' (V.sb i w v) x) (motive_2:=fun l xs J=>VRs c F' ρ' (V.sbs i w l) xs) .none .bool .int .str (fun a b d J e=>.tup (hF _ _ a) b d e) (fun a J e=>.list (hF _ _ a) e) (fun a b d J f e=>.dict (hF _ _ a) b d e f)
  (fun {j a} e=>Classical.byCases (fun q:j=i=>by show VR c F' ρ' (if j=i then w else .obj j) _;rw[if_pos q];exact hw _ (q▸e)) fun q=>by show VR c F' ρ' (if j=i then w else .obj j) _;rw[if_neg q];exact .obj (hρ _ _ q e)) .fn (fun a=>.rng (hF _ _ a)) (fun a J b=>.meth (hF _ _ a) b) .nil (fun J J a b=>.cons a b) h
theorem VRs.sb(hF:∀ a o,F a o->F' a o)(hρ:∀ j a,j≠i->ρ j=some a->ρ' j=some a)(hw:∀ a,ρ i=some a->VR c F' ρ' w (.ref a)):∀ {l:List Mine.V} {xs:List Value},VRs c F ρ l xs->VRs c F' ρ' (V.sbs i w l) xs:=by
 intro l
 induction l with
 |nil=>exact fun h=>h.nilE .nil
 |cons _ _ ih =>
  intro xs h
  exact h.consE fun J J a b=>.cons (a.sb hF hρ hw) (ih b)
theorem VR.no(hF:∀ a o,F a o->F' a o)(hρ:∀ j a,j≠i->ρ j=some a->ρ' j=some a){v:Mine.V}{x:Value}(h:VR c F ρ v x):V.no i v=true->VR c F' ρ' v x:=
 VR.rec (motive_1:=fun v x J=>V.no i v=true->VR c F' ρ' v x) (motive_2:=fun l xs J=>V.nos i l=true->VRs c F' ρ' l xs) (fun J=>.none) (fun b J=>.bool b) (fun n t J=>.int n t) (fun s t J=>.str s t) (fun a b d J e h=>.tup (hF _ _ a) b d (e h)) (fun a J e h=>.list (hF _ _ a) (e h))
  (fun a b d J f e h=>.dict (hF _ _ a) b d (e h) f) (fun e h=>.obj (hρ _ _ (qH h) e)) (fun f J=>.fn f) (fun a J=>.rng (hF _ _ a)) (fun a J b h=>.meth (hF _ _ a) (b h)) (fun J=>.nil) (fun J J a b h=>bA h fun h1 h2=>.cons (a h1) (b h2)) h
theorem VRs.no(hF:∀ a o,F a o->F' a o)(hρ:∀ j a,j≠i->ρ j=some a->ρ' j=some a):∀ {l:List Mine.V} {xs:List Value},VRs c F ρ l xs->V.nos i l=true->VRs c F' ρ' l xs:=by
 intro l
 induction l with
 |nil=>exact fun h J=>h.nilE .nil
 |cons _ _ ih =>
  intro xs h hb
  exact bA hb fun h1 h2=>h.consE fun J J a b=>.cons (a.no hF hρ h1) (ih b h2)
theorem FsR.sb(hF:∀ a o,F a o->F' a o)(hρ:∀ j a,j≠i->ρ j=some a->ρ' j=some a)(hw:∀ a,ρ i=some a->VR c F' ρ' w (.ref a)){fs:List (Nat×Mine.V)}{es:List DictEntry}(h:FsR c F ρ fs es):FsR c F' ρ' (QF i w fs) es:=
 FsR.rec (motive:=fun fs es J=>FsR c F' ρ' (QF i w fs) es) .nil (fun a b J ih=>.cons a (b.sb hF hρ hw) ih) h
theorem ZB9:∀ fs:List (Nat×Mine.V),(QF i w fs).length=fs.length:=fun l0=>by
 induction l0 with
 |nil =>
  exact rfl
 |cons _ l ih =>
  exact congrArg (·+1) (ih)
theorem ZBI{n:Nat}{v:Mine.V}:∀ {l:List (Nat×Mine.V)},JA (QF i w l) n=some v->∃ u,JA l n=some u/\v=V.sb i w u:=by
 intro l0
 induction l0 with
 |nil =>
  intro h
  exact nn h
 |cons p0 l ih =>
  obtain⟨a,b⟩:=p0
  intro h
  by_cases e:a=n
  ·cases (if_pos e).symm.trans h;exact⟨b,if_pos e,rfl⟩
  ·exact(ih ((if_neg e).symm.trans h)).imp fun u z=>⟨(if_neg e).trans z.1,z.2⟩
theorem ZBH{j:Id}{o:Ob}:∀ {l:List (Id×Ob)},JA (Q2 i w l) j=some o->j≠i/\∃ u,JA l j=some u/\o=Ob.sb i w u:=by
 intro l0
 induction l0 with
 |nil =>
  intro h
  exact nn h
 |cons p0 l ih =>
  obtain⟨a,b⟩:=p0
  intro h
  have h:JA (if a=i then Q2 i w l else (a,Ob.sb i w b)::Q2 i w l) j=some o:=h
  by_cases e:a=i
  ·rw[if_pos e] at h
   obtain⟨h1,u,h2,h3⟩:=ih h
   exact⟨h1,u,(if_neg fun q=>h1 (q.symm.trans e)).trans h2,h3⟩
  ·rw[if_neg e] at h
   by_cases q:a=j
   ·cases (if_pos q).symm.trans h;exact⟨fun z=>e (q.trans z),b,if_pos q,rfl⟩
   ·obtain⟨h1,u,h2,h3⟩:=ih ((if_neg q).symm.trans h)
    exact⟨h1,u,(if_neg q).trans h2,h3⟩
theorem ObR.sb{h:Heap}{g':Gh}{ob:Ob}{a o:Addr}(hF:∀ a o,Mine.Fz env g h a o->Mine.Fz env g' h a o)(hρ:∀ j a,j≠i->g.rho j=some a->g'.rho j=some a)(hw:∀ a,g.rho i=some a->VR c (Mine.Fz env g' h) g'.rho w (.ref a))(H:ObR c env g h ob a o):ObR c env g' h (Ob.sb i w ob) a o:=by
 cases ob with
 |list l=>exact⟨H.1,H.2.imp fun J=>Exists.imp fun J z=>⟨z.1,VRs.sb hF hρ hw z.2⟩⟩
 |dict ks vs=>exact⟨H.1,H.2.1,H.2.2.imp fun J z=>⟨z.1,z.2.1,VRs.sb hF hρ hw z.2.2⟩⟩
 |inst C fs=>exact⟨H.1,(ZB9 fs).symm▸H.2.1,hF _ _ H.2.2.1,H.2.2.2.imp fun J=>Exists.imp fun J z=>⟨z.1,FsR.sb hF hρ hw z.2⟩⟩
theorem NE{j:Id}{p:Addr×Addr}(e:(g.drop i).cs j=some p):j≠i/\g.cs j=some p:=
 Classical.byCases (fun q:j=i=>nn ((if_pos q).symm.trans e)) fun q=>⟨q,(if_neg q).symm.trans e⟩
theorem BK{k:Nat}{r q:Addr}(R:Rel c env g U s)(hc:g.cs (.p k)=some (r,q))(hw:∀ a,g.rho (.p k)=some a->VR c (Mine.Fz env (g.drop (.p k)) s.heap) (g.drop (.p k)).rho w (.ref a)):Rel c env (g.drop (.p k)) (U.sb k w) s:=by
 have kF:∀ a o,Mine.Fz env g s.heap a o->Mine.Fz env (g.drop (.p k)) s.heap a o:=fun a o z=>⟨z.1,fun h=>z.2.1 h.1,z.2.2.1,z.2.2.2⟩
 have kr:∀ j a,j≠Id.p k->g.rho j=some a->(g.drop (.p k)).rho j=some a:=fun j a hj e=>(congrArg (Option.map Prod.fst) (if_neg hj)).trans e
 exact⟨⟨fun a o e=>kF _ _ (R.kin a o e),fun a w=>R.wob a w.1,R.xob,R.fob,fun a w=>R.dis a w.1,R.loc.imp fun m z=>⟨z.1,fun n v e=>by
   obtain⟨u,hu,rfl⟩:=ZBI e
   exact⟨fun q=>((z.2 n u hu).1 q).imp fun x w=>⟨w.1,w.2.sb kF kr hw⟩,fun q=>((z.2 n u hu).2 q).imp fun J=>Exists.imp fun J=>Exists.imp fun J w=>⟨w.1,kF _ _ w.2.1,w.2.2.1,w.2.2.2.sb kF kr hw⟩⟩⟩,
  fun id ob e=>by
   obtain⟨hne,u,hu,rfl⟩:=ZBH e
   exact(R.obs id u hu).imp fun J=>Exists.imp fun J z=>⟨(if_neg hne).trans z.1,z.2.sb kF kr hw⟩,
  fun id r' o e=>(NE e).elim fun hne e=>⟨R.cW _ _ _ e,fun p hp z=>by cases hc.symm.trans hp;cases (show o=q from z);exact hne (R.inj _ _ _ _ _ e hc)⟩,
  fun id id' r' o r'' e e'=>R.inj _ _ _ _ _ (NE e).2 (NE e').2,fun j e=>(show (g.drop (.p k)).cs (.t j)=g.cs (.t j) from rfl).trans (R.nx j e),
  fun j e=>Classical.byCases (fun hj:Id.p j=Id.p k=>if_pos hj) fun hj=>(if_neg hj).trans (R.ps j fun q=>e (List.mem_filter.mpr ⟨q,decide_eq_true fun z=>hj (congrArg Id.p z)⟩))⟩,R.pos⟩
theorem Gy{k:Nat}{ks:List (List Nat)}{vs:List Mine.V}(R:Rel c env g U s)(ho:JA U.hp (.p k)=some (.dict ks vs))(hn:V.nos (.p k) vs=true):
  Rel c env (g.drop (.p k)) (U.sb k (.dict ks vs)) s/\∀ a,g.rho (.p k)=some a->VR c (Mine.Fz env (g.drop (.p k)) s.heap) (g.drop (.p k)).rho (.dict ks vs) (.ref a):=by
 obtain⟨r,q,hc,rfl,hsm,kvs,D,k1,r1⟩:=R.obs _ _ ho
 have hrW:g.W r:=R.cW _ _ _ hc
 obtain⟨ob,hob,hdo⟩:=Heap.dictOf_iff.mp D
 have hw:∀ a,g.rho (.p k)=some a->VR c (Mine.Fz env (g.drop (.p k)) s.heap) (g.drop (.p k)).rho (.dict ks vs) (.ref a):=fun a e=>by
  cases (congrArg (Option.map Prod.fst) hc).symm.trans e
  exact .dict ⟨hob,fun h=>h.2 _ hc rfl,(R.dis r hrW).1,(R.dis r hrW).2⟩ hdo k1 (r1.no (fun a o z=>⟨z.1,fun h=>z.2.1 h.1,z.2.2.1,z.2.2.2⟩) (fun j a hj e=>(congrArg (Option.map Prod.fst) (if_neg hj)).trans e) hn) hsm
 exact⟨BK R hc hw,hw⟩
theorem Y1{k:Nat}{vs:List Mine.V}(R:Rel c env g U s)(ho:JA U.hp (.p k)=some (.list vs))(hn:V.nos (.p k) vs=true):
  Rel c env (g.drop (.p k)) (U.sb k (.list vs)) s/\∀ a,g.rho (.p k)=some a->VR c (Mine.Fz env (g.drop (.p k)) s.heap) (g.drop (.p k)).rho (.list vs) (.ref a):=by
 obtain⟨r,q,hc,rfl,items,n,D,r1⟩:=R.obs _ _ ho
 have hrW:g.W r:=R.cW _ _ _ hc
 have hw:∀ a,g.rho (.p k)=some a->VR c (Mine.Fz env (g.drop (.p k)) s.heap) (g.drop (.p k)).rho (.list vs) (.ref a):=fun a e=>by
  cases (congrArg (Option.map Prod.fst) hc).symm.trans e
  exact .list ⟨D,fun h=>h.2 _ hc rfl,(R.dis r hrW).1,(R.dis r hrW).2⟩ (r1.no (fun a o z=>⟨z.1,fun h=>z.2.1 h.1,z.2.2.1,z.2.2.2⟩) (fun j a hj e=>(congrArg (Option.map Prod.fst) (if_neg hj)).trans e) hn)
 exact⟨BK R hc hw,hw⟩
end
section
variable{c:Cx}{r:Nat}{env env':Env}{A:Around}{U U' U1a:St}{g g1a:Gh}{s s' s1a s2a:Shared}{E:Value->Shared->Prop}{Q:Value->Shared->Prop}{v w:Mine.V}{D:Addr->Prop}{n:Nat}{F F':Addr->Obj->Prop}{ρ ρ':Id->Option Addr}{i:Id}
theorem ZAB(O:c.Ok){id:Id}{C f:Nat}{fs:List (Nat×Mine.V)}{a:Addr}(hn:findIn c.K (.ref (c.cA C)) "__iter__"=some (some (.ref (c.fA f))))(hf:typeIn c.K (.ref (c.fA f))=some (.type "function"))(R:Rel c env g U s)(ho:JA U.hp id=some (.inst C fs))(hr:g.rho id=some a)
  (hc:wpAny c.M A (call (.ref (c.fA f)) [.ref a]) (fun it s'=>∃ T' r,s'.TypeIs it T'/\typeLookup (.type T') "__next__"=pure (some r)/\Q it s') E s):wpAny c.M A (pyIter (.ref a)) Q E s:=by
 obtain⟨o,es,k,-,-,-,I⟩:=Wv O R ho hr
 have L1:Looks c.M s.heap (specialOf (.ref a) "__iter__") (some (.ref (c.fA f))):=(I.type).andThen (looks_findIn R.kinD hn)
 have L2:Looks c.M s.heap (bindSpecial (.ref (c.fA f)) (.ref a)) (.ref (c.fA f),[.ref a]):=bind_fn R.kinD _ hf
 unfold pyIter
 refine qB (L1.here ?_)
 show wpAny _ A (callSpecialIfBoundUnlessNone? (.ref a) "__iter__" _ >>= _) Q E s
 refine qB ?_
 simp only[callSpecialIfBoundUnlessNone?,bindSpecialIfBound?]
 refine qD (qB (qB (L1.here ?_)))
 refine qB (wpAny_askSetting (wpAny_ite ?_))
 have fin:wpAny c.M A (if (Value.ref (c.fA f)==Value.none)=true then ((do rule "iter.none";raiseError "TypeError" s!"'{← typeNameOf (Value.ref a)}' object is not iterable":Sem Value) >>= fun v=>pure (some v)) else (call (.ref (c.fA f)) [.ref a] >>= fun v=>pure (some v)))
   (fun it s'=>wpAny c.M A (match it with
    |some it=>(do match <- specialOf it "__next__" with
     |none=>rule "iter.non-iterator";raiseError "TypeError" s!"iter() returned non-iterator of type '{← typeNameOf it}'"
     |some _=>pure it:Sem Value)
    |none=>(do match <- bindSpecialIfBound? (Value.ref a) "__getitem__" with
     |none=>rule "iter.not-iterable";raiseError "TypeError" s!"'{← typeNameOf (Value.ref a)}' object is not iterable"
     |some _=>rule "iter.getitem-fallback";newFields "iterator" [Value.ref a,<- mkInt 0]:Sem Value)) Q E s') E s:=by
  rw[if_neg (by simp [BEq.beq])]
  refine qB (xT hc (fun it s' h'=>qC ?_) fun J J e=>e)
  obtain⟨T',r,h1,h2,h3⟩:=h'
  exact qB (wpAny_specialOf h1 h2 (qC h3))
 split
 ·exact qB (L2.here (qC fin))
 ·exact wpAny_tryCatch (qB (L2.here (qC fin)))
structure GenAt(c:Cx)(f:Nat)(fd:FuncData)(body:List Stmt):Prop where
 at_:∃ oc od osl,c.K.lookup (c.fA f)=some ⟨oc,od,.func fd,osl⟩
 code:codeIn c.K fd.code fd.qualname=true
 body:fd.body=.stmts body
 params:∃ as dd,fd.params=⟨[],as,none,[],[],none,dd⟩/\Jh as=[c.nm 0]
 dflts:fd.defaults=.none
 kind:fd.scope.kind=.function
 gen:fd.scope.isGenerator=true
 co:fd.scope.isCoroutine=false
 plocal:fd.scope.names.lookup (c.nm 0)=some .local
 nocell:∀ p∈fd.scope.names,p.2≠.cell
 glob:fd.globals=mainGlobals
 blt:fd.builtins=builtinsNs
 clo:fd.closure=[]
noncomputable abbrev QB(fd:FuncData)(GL a:Addr):Env:=callEnvC fd GL a
theorem ZDq(O:c.Ok){f:Nat}{fd:FuncData}{body:List Stmt}(G:GenAt c f fd body){x:Value}(hr:JP A 2)(R:Rel c env g U s)
  (N:∀ (s':Shared) (GO:Addr) (m:Str->Option Value),(∀ b o,s.heap.get? b=some o->s'.heap.get? b=some o)->s.heap.objs.size<GO->s'.heap.Ns s.heap.objs.size m->m (c.nm 0)=some x->s'.heap.IsGen GO s.gens.size ->
   s'.gens=s.gens.push (.fresh (.func body (QB fd s.heap.objs.size (c.fA f))))->s'.os=s.os->0<s'.toks->Q (.ref GO) s'):
  wpAny c.M A (call (.ref (c.fA f)) [x]) Q E s:=by
 refine wpAny_call ?_
 obtain⟨oc,od,osl,ho⟩:=G.at_
 obtain⟨as,dd,hp,hn⟩:=G.params
 obtain⟨rr,hrr,hrun⟩:=Bl (v:=fd.defaults) (ds:=[]) (by rw[G.dflts];rfl) R.kinD
 have B:Binds (Jh as) [x] [] [x]:=⟨hn▸List.nodup_cons.mpr ⟨(fun q=>nomatch q),List.nodup_nil⟩,hn▸qF _,qG _,hn▸qF _,by rw[List.drop_nil];rfl⟩
 refine codeAny_call_generator (qL (qK _ _) hr.2.1) (R.kin _ _ ho).1 rfl G.co G.gen G.body (codeRec_of R.kinD G.code) (BM hp B hrr hrun _ _ _ _ ?_)
 rw[G.clo,hn]
 refine Qi R.pos (wpAny_newFunctionEnv_cells G.kind (fun y hy=>?_) fun env1 he s1a hic htk=>?_)
 ·cases List.mem_singleton.mp (show y∈[(c.nm 0,x)] from hy)
  exact .inl G.plocal
 ·have he:env1=QB fd s.heap.objs.size (c.fA f):=he
  subst he
  refine⟨(O.noLimit R).keeps hic.toInCall.keep,?_⟩
  obtain⟨h',tk,rfl,kk⟩:=hic.done
  have hns:=hic.toInCall.ns
  exact N _ h'.objs.size _ (fun b o e=>xA _ (kk b o e)) hns.lt (hns.push _) (DO G.plocal (List.nodup_cons.mpr ⟨(fun q=>nomatch q),List.nodup_nil⟩) (.head _)) ⟨_,_,_,qZ _ rfl,rfl,rfl,rfl⟩ rfl rfl (xF _)
end
structure GenM where
 t1:ME
 t2:ME
 t3:ME
 e:ME
inductive Given:St->Mine.V->Mine.V->St->Prop
 |same {U:St} {v:Mine.V}:Given U v v U
 |froz {U:St} {k:Nat} {ks:List (List Nat)} {vs:List Mine.V}:JA U.hp (.p k)=some (.dict ks vs)->V.nos (.p k) vs=true->k≠99->Given U (.obj (.p k)) (.dict ks vs) (U.sb k (.dict ks vs))
inductive Frz(U:St)(k:Nat):Mine.V->Prop
 |l {vs:List Mine.V}:JA U.hp (.p k)=some (.list vs)->V.nos (.p k) vs=true->Frz U k (.list vs)
 |d {ks:List (List Nat)} {vs:List Mine.V}:JA U.hp (.p k)=some (.dict ks vs)->V.nos (.p k) vs=true->Frz U k (.dict ks vs)
inductive GR(C:Ora)(m:GenM):Bool->St->List Mine.V->List Mine.V->St->Prop
 |stop {U U1a:St} {dn:List Mine.V}:tst C m.t1 U=some (false,U1a)->JA U1a.hp (.p 99)=some (.list dn)->GR C m true U dn [] U1a
 |turn {U U1a U2a U':St} {dn l:List Mine.V}:tst C m.t1 U=some (true,U1a)->tst C m.t2 U1a=some (false,U2a)->GR C m false U2a dn l U'->GR C m true U dn l U'
 |next {U U1a U':St} {dn l:List Mine.V}:tst C m.t3 U=some (false,U1a)->GR C m true U1a dn l U'->GR C m false U dn l U'
 |give {U U1a U2a U3a U':St} {v w:Mine.V} {dn l:List Mine.V}:tst C m.t3 U=some (true,U1a)->ev C m.e U1a=some (v,U2a)->Given U2a v w U3a->JA U3a.hp (.p 99)=some (.list dn) ->
   GR C m false (U3a.setOb (.p 99) (.list (dn++[w]))) (dn++[w]) l U'->GR C m false U dn (w::l) U'
 |frz {U U':St} {ph:Bool} {k:Nat} {w:Mine.V} {dn l:List Mine.V}:Frz U k w->k≠99->GR C m ph (U.sb k w) dn l U'->GR C m ph U dn l U'
section
variable{c:Cx}{r:Nat}{eg:Env}{A:Around}{U U' U1a:St}{g g1a:Gh}{s s' s1a s2a:Shared}
structure GInv(c:Cx)(eg:Env)(X0 Y0:Addr->Prop)(r0 r9:Addr)(U:St)(g:Gh)(s:Shared):Prop where
 rel:Rel c eg g U s
 X:g.X=X0
 r0:g.rho (.t 0)=some r0
 r9:g.rho (.p 99)=some r9
 nY:∀ a,Y0 a->¬ g.W a/\∃ o,s.heap.get? a=some o
def Kp(X0:Addr->Prop)(s0a s1a:Shared):Prop:=(∀ a o,X0 a->s0a.heap.get? a=some o->s1a.heap.get? a=some o)/\gos s1a=gos s0a
theorem Kp.trans{X0:Addr->Prop}(x:Kp X0 s s1a)(y:Kp X0 s1a s2a):Kp X0 s s2a:=⟨fun a o h e=>y.1 a o h (x.1 a o h e),y.2.trans x.2⟩
theorem Kp.refl{X0:Addr->Prop}:Kp X0 s s:=⟨fun J J J e=>e,rfl⟩
theorem GInv.ext{X0 Y0:Addr->Prop}{r0 r9:Addr}(I:GInv c eg X0 Y0 r0 r9 U g s)(hX:∀ a,Y0 a->¬ FA eg a)(R:Rel c eg g1a U1a s1a)(x:Ext eg g g1a s s1a):GInv c eg X0 Y0 r0 r9 U1a g1a s1a/\Kp Y0 s s1a:=
 ⟨⟨R,x.X.trans I.X,x.rho I.r0,x.rho I.r9,fun a h=>((I.nY a h).2).elim fun o e=>let z:=x.fz a o e (I.nY a h).1 (hX a h);⟨z.2,o,z.1⟩⟩,fun a o h e=>(x.fz a o e (I.nY a h).1 (hX a h)).1,x.gens⟩
def WD(c:Cx)(eg:Env)(X0 Y0:Addr->Prop)(r0 r9:Addr)(tot:List Mine.V):Protocol:=fun n s0a v s1a kap =>
 ∃ g U w dn rest,GInv c eg X0 Y0 r0 r9 U g s1a/\JA U.hp (.p 99)=some (.list dn)/\tot=dn++w::rest/\rest.length=n/\VR c (Fz eg g s1a.heap) g.rho w v/\Kp Y0 s0a s1a /\
  ∀ g' s'',GInv c eg X0 Y0 r0 r9 (U.setOb (.p 99) (.list (dn++[w]))) g' s''->kap (.send .none) s''
def Ib(c:Cx)(eg:Env)(X0 Y0:Addr->Prop)(r0 r9:Addr)(tot:List Mine.V)(σe:St):Nat->Shared->Shared->Prop:=fun J s0a s1a =>
 ∃ g,GInv c eg X0 Y0 r0 r9 σe g s1a/\Kp Y0 s0a s1a/\JA σe.hp (.p 99)=some (.list tot)
abbrev WE(c:Cx)(eg:Env)(X0 Y0:Addr->Prop)(r0 r9:Addr)(tot:List Mine.V)(σe:St):GenEnd:=fun n s0a r s1a=>r=.ok (.ret .none)/\Ib c eg X0 Y0 r0 r9 tot σe n s0a s1a
theorem XV{R:GenEnd}{Y:Protocol}{n:Nat}{s0a:Shared}{fs:List Frame}{t:Expr}{b o:List Stmt}{mt:ME}{C:Ora}{q:Bool}{X0 Y0:Addr->Prop}{r0 r9:Addr}(hr:JP (A.over (.whileLoop t b o eg) fs) r)(H:Jb c r eg t (tst C mt))(hf:tst C mt U=some (q,U1a))
  (I:GInv c eg X0 Y0 r0 r9 U g s) (hX:∀ a,Y0 a->¬ FA eg a)
  (N:∀ g1a s1a,GInv c eg X0 Y0 r0 r9 U1a g1a s1a->Kp Y0 s s1a->if q=true then
        Seg c.M A R Y n s0a (.whileLoop t b o eg) ((execs b eg).wrap (fun f=>match f with
         |.next |.cont=>.pure (.again (.whileLoop t b o eg))
         |.brk=>.pure (.done .next)
         |.ret v=>.pure (.done (.ret v))) (fun e=>(do noteFrame e eg;theTreesLotGoes e:Sem Unit).wrap (fun J=>.raise e) .raise id id) id id) fs s1a
    else Seg c.M A R Y n s0a (.whileLoop t b o eg) ((execs o eg).wrap (fun f=>.pure (.done f)) (fun e=>(do noteFrame e eg;theTreesLotGoes e:Sem Unit).wrap (fun J=>.raise e) .raise id id) id id) fs s1a):
  Seg c.M A R Y n s0a (.whileLoop t b o eg) (c.M.den (.whileLoop t b o eg)) fs s:=by
 refine seg_whileLoop (H hr hf I.rel fun s1a g1a R1a E1a=>?_)
 obtain⟨I1a,K1a⟩:=I.ext hX R1a E1a
 exact N g1a s1a I1a K1a

noncomputable abbrev Qp(t2 t3 ye:Expr)(b2:List Stmt)(p2 p3 yp ep:Pos):List Stmt:=[.While t2 b2 [] p2,.While t3 [.Expr (.Yield (some ye) yp) ep] [] p3]
theorem Frz.rel{k:Nat}{w:Mine.V}(h:Frz U k w)(R:Rel c eg g U s):Rel c eg (g.drop (.p k)) (U.sb k w) s:=by
 cases h with
 |l h1 h2=>exact(Y1 R h1 h2).1
 |d h1 h2=>exact(Gy R h1 h2).1
theorem GInv.drop{X0 Y0:Addr->Prop}{r0 r9:Addr}{k:Nat}(I:GInv c eg X0 Y0 r0 r9 U g s)(hk:k≠99)(R':Rel c eg (g.drop (.p k)) U' s):GInv c eg X0 Y0 r0 r9 U' (g.drop (.p k)) s:=
 ⟨R',I.X,(congrArg (Option.map Prod.fst) (show (g.drop (.p k)).cs (.t 0)=g.cs (.t 0) from rfl)).trans I.r0,(congrArg (Option.map Prod.fst) (show (g.drop (.p k)).cs (.p 99)=g.cs (.p 99) from if_neg fun q=>hk (by cases q;rfl))).trans I.r9,fun a h=>⟨fun q=>(I.nY a h).1 q.1,(I.nY a h).2⟩⟩
set_option tactic.hygienic false in
theorem GInv.given{X0 Y0:Addr->Prop}{r0 r9:Addr}{v w:Mine.V}{x:Value}(I:GInv c eg X0 Y0 r0 r9 U g s)(hg:Given U v w U')(hv:VR c (Fz eg g s.heap) g.rho v x):
  ∃ g',GInv c eg X0 Y0 r0 r9 U' g' s/\VR c (Fz eg g' s.heap) g'.rho w x:=by
 cases hg with
 |same=>exact⟨g,I,hv⟩
 |froz ho hn hk9 =>
  obtain⟨R',H⟩:=Gy I.rel ho hn
  obtain⟨a,rfl,ha⟩:=hv.objR
  exact⟨g.drop (.p k),I.drop hk9 R',H _ ha⟩
theorem ZHy{d f w k r L:Nat}(h:d+k<L)(h2:f+w<=2)(hk:r+2<=k):d+f+w+r<L:=
 qL (by rw[Nat.add_assoc d,Nat.add_assoc d];exact qI (qA (qO h2 r) (Nat.add_comm 2 r▸hk)) d) h
theorem ZHx{u f w k r L:Nat}(h:u+20*k+300<L)(h2:f+w<=20)(hk:r+2<=k):u+f+w+20*r+300<L:=
 qL (qO (by rw[Nat.add_assoc u,Nat.add_assoc u];exact qI (qA (qO h2 _) (by rw[Nat.add_comm 20,<- Nat.mul_succ];exact xB 20 (qA (xD _) hk))) u) 300) h
theorem KL{c':Code}{fs:List Frame}{k:Nat}(hr:JP A k)(hh:(marksOver fs (A.handled,A.handled)).1=none)(hd:frameCount (fs.map Frame.where_)+c'.weight<=2)(hu:PySem.unitsOf (fs.map Frame.where_)+c'.cUnits<=20){r:Nat}(hk:r+2<=k):JP (A.over c' fs) r:=
 ⟨hh,ZHy hr.2.1 hd hk,ZHx hr.2.2 hu hk⟩

set_option tactic.hygienic false in
theorem ZFB{C:Ora}{m:GenM}{t1 t2 t3 ye:Expr}{b2:List Stmt}{p2 p3 yp ep:Pos}{X0 Y0:Addr->Prop}{r0 r9:Addr}{tot:List Mine.V}{σe:St}(hX:∀ a,Y0 a->¬ FA eg a)(hA:JP A (r+2))
  (H1:Jb c r eg t1 (tst C m.t1)) (H2:Jb c r eg t2 (tst C m.t2)) (H3:Jb c r eg t3 (tst C m.t3)) (H4:JD c r eg ye (ev C m.e)) (hco:eg.scope.isCoroutine=false) (hi:interactive eg=false)
  {cF:Code} {k1:Result->Sem Fin} {l1:List Value} {p1:Pos} (hw:cF.weight=1) (hu:cF.cUnits=3)
  (hk1:∀ n s0a s,WE c eg X0 Y0 r0 r9 tot σe n s0a (.ok (.ret .none)) s->Seg c.M A (WE c eg X0 Y0 r0 r9 tot σe) (WD c eg X0 Y0 r0 r9 tot) n s0a cF (k1 (.ok .next)) [] s)
  {ph:Bool} {dn l:List Mine.V} (G:GR C m ph U dn l σe):tot=dn++l->∀ (g:Gh) (s s0a:Shared),GInv c eg X0 Y0 r0 r9 U g s->Kp Y0 s0a s->match ph with
  |true=>Seg c.M A (WE c eg X0 Y0 r0 r9 tot σe) (WD c eg X0 Y0 r0 r9 tot) l.length s0a (.whileLoop t1 (Qp t2 t3 ye b2 p2 p3 yp ep) [] eg) (c.M.den (.whileLoop t1 (Qp t2 t3 ye b2 p2 p3 yp ep) [] eg)) [.ret k1 none false l1 cF p1 []] s
  |false=>∀ (k3:Result->Sem Fin) (l3:List Value) (p':Pos),(∀ n s0a s,Seg c.M A (WE c eg X0 Y0 r0 r9 tot σe) (WD c eg X0 Y0 r0 r9 tot) n s0a (.whileLoop t1 (Qp t2 t3 ye b2 p2 p3 yp ep) [] eg) (.pure (.again (.whileLoop t1 (Qp t2 t3 ye b2 p2 p3 yp ep) [] eg))) [.ret k1 none false l1 cF p1 []] s ->
        Seg c.M A (WE c eg X0 Y0 r0 r9 tot σe) (WD c eg X0 Y0 r0 r9 tot) n s0a (.whileLoop t1 (Qp t2 t3 ye b2 p2 p3 yp ep) [] eg) (k3 (.ok .next)) [.ret k1 none false l1 cF p1 []] s) ->
    Seg c.M A (WE c eg X0 Y0 r0 r9 tot σe) (WD c eg X0 Y0 r0 r9 tot) l.length s0a (.whileLoop t3 [.Expr (.Yield (some ye) yp) ep] [] eg) (c.M.den (.whileLoop t3 [.Expr (.Yield (some ye) yp) ep] [] eg))
     [.ret k3 none false l3 (.whileLoop t1 (Qp t2 t3 ye b2 p2 p3 yp ep) [] eg) p' [],.ret k1 none false l1 cF p1 []] s:=by
 have hO:∀ t b,(Code.whileLoop t b [] eg).weight=0:=fun J J=>rfl
 have hOu:∀ t b,(Code.whileLoop t b [] eg).cUnits=0:=fun J J=>rfl
 have hroom1:∀ t b,JP (A.over (.whileLoop t b [] eg) [.ret k1 none false l1 cF p1 []]) r:=fun t b=>KL hA (by simp [marksOver,Frame.marks,markOver,hA.1]) (by simp only[List.map_cons,List.map_nil,Frame.where_,frameCount_cons,hw,hO];exact xD 1) (by simp only[List.map_cons,List.map_nil,Frame.where_,unitsOf_cons,hu,hOu];exact(by decide:3+0+0<=20)) (qF _)
 have hroom2:∀ t b t' b' k3 l3 p',JP (A.over (.whileLoop t b [] eg) [.ret k3 none false l3 (.whileLoop t' b' [] eg) p' [],.ret k1 none false l1 cF p1 []]) r:=fun t b t' b' k3 l3 p'=>KL hA (by simp [marksOver,Frame.marks,markOver,hA.1]) (by simp only[List.map_cons,List.map_nil,Frame.where_,frameCount_cons,hw,hO];exact xD 1) (by simp only[List.map_cons,List.map_nil,Frame.where_,unitsOf_cons,hu,hOu];exact(by decide:0+(3+0)+0<=20)) (qF _)
 induction G with
 |stop h1 hd =>
  intro ht g s s0a I K
  refine XV (hroom1 _ _) H1 h1 I hX fun g1a s1a I1a K1a=>?_
  rw[if_neg Bool.false_ne_true]
  refine seg_execs_nil ?_
  refine seg_leaf (.ok .next) (hk1 _ _ _ ⟨rfl,g1a,I1a,K.trans K1a,?_⟩)
  rw[List.append_nil] at ht
  rw[ht];exact hd
 |turn h1 h2 _ ih =>
  intro ht g s s0a I K
  refine XV (hroom1 _ _) H1 h1 I hX fun g1a s1a I1a K1a=>?_
  rw[if_pos rfl]
  refine seg_execs_cons (seg_While fun p=>?_)
  refine XV (hroom2 _ _ _ _ _ _ _) H2 h2 I1a hX fun g2a s2a I2a K2a=>?_
  rw[if_neg Bool.false_ne_true]
  refine seg_execs_nil ?_
  refine seg_leaf (.ok .next) ?_
  show Seg _ _ _ _ _ _ _ ((execs [.While t3 [.Expr (.Yield (some ye) yp) ep] [] p3] eg).wrap _ _ id id) _ s2a
  refine seg_execs_cons (seg_While fun p'=>?_)
  exact ih hk1 ht g2a s2a s0a I2a (K.trans (K1a.trans K2a)) _ _ p' fun n s0a s h=>h
 |next h1 _ ih =>
  intro ht g s s0a I K k3 l3 p' hk3
  refine XV (hroom2 _ _ _ _ _ _ _) H3 h1 I hX fun g1a s1a I1a K1a=>?_
  rw[if_neg Bool.false_ne_true]
  refine seg_execs_nil ?_
  refine seg_leaf (.ok .next) (hk3 _ _ _ (seg_again rfl ?_))
  exact ih hk1 ht g1a s1a s0a I1a (K.trans K1a)
 |give h1 h2 hg hd _ ih =>
  intro ht g s s0a I K k3 l3 p' hk3
  refine XV (hroom2 _ _ _ _ _ _ _) H3 h1 I hX fun g1a s1a I1a K1a=>?_
  rw[if_pos rfl]
  refine seg_execs_cons ?_
  refine seg_Expr_Yield rfl rfl rfl (H4 (hroom2 _ _ _ _ _ _ _) h2 I1a.rel fun x s2a g2a R2a X2a E2a kap hkap=>?_) hco hi
  obtain⟨I2a,K2a⟩:=I1a.ext hX R2a E2a
  obtain⟨g3a,I3a,X3a⟩:=I2a.given hg X2a
  refine⟨g3a,_,_,_,_,I3a,hd,ht,rfl,X3a,K.trans (K1a.trans K2a),fun g' s'' I''=>hkap .none s'' ?_⟩
  show Seg _ _ _ _ _ _ _ _ _ _
  refine seg_execs_nil ?_
  refine seg_again rfl ?_
  exact ih hk1 (by rw[ht];simp) g' s'' s'' I'' .refl k3 l3 p' hk3
 |frz h1 hk _ ih =>
  cases ph_1<;>exact fun ht g s s0a I K=>ih hk1 ht _ s s0a (I.drop hk (h1.rel I.rel)) K

theorem ZA4{C:Ora}{m:GenM}{m0:MS}{S0:Stmt}{t1 t2 t3 ye:Expr}{b2:List Stmt}{p1 p2 p3 yp ep:Pos}{X0 Y0:Addr->Prop}{r0 r9:Addr}{tot:List Mine.V}{σe:St}(hX:∀ a,Y0 a->¬ FA eg a)(hA:JP A (r+2))
  (H0:JW c r eg S0 (exc C m0)) (H1:Jb c r eg t1 (tst C m.t1)) (H2:Jb c r eg t2 (tst C m.t2)) (H3:Jb c r eg t3 (tst C m.t3)) (H4:JD c r eg ye (ev C m.e)) (hco:eg.scope.isCoroutine=false) (hi:interactive eg=false)
  (h0:exc C m0 U=some (.next,U1a)) (G:GR C m true U1a [] tot σe) (I:GInv c eg X0 Y0 r0 r9 U g s):
  Seg c.M A (WE c eg X0 Y0 r0 r9 tot σe) (WD c eg X0 Y0 r0 r9 tot) tot.length s (.func [S0,.While t1 (Qp t2 t3 ye b2 p2 p3 yp ep) [] p1] eg) (c.M.den (.func [S0,.While t1 (Qp t2 t3 ye b2 p2 p3 yp ep) [] p1] eg)) [] s:=by
 refine seg_func (seg_execs_cons (seg_wrap ?_))
 have hroom:JP (A.over (.func [S0,.While t1 (Qp t2 t3 ye b2 p2 p3 yp ep) [] p1] eg) []) r:=KL hA (by simp [marksOver,hA.1]) (by show 0+(Code.func _ eg).weight<=2;exact xD 1) (by show 0+(Code.func _ eg).cUnits<=20;exact(by decide:0+3<=20)) (qF _)
 refine H0 hroom h0 I.rel fun w s1a g1a R1a X1a E1a=>?_
 obtain⟨I1a,K1a⟩:=I.ext hX R1a E1a
 cases X1a
 ·refine seg_execs_cons (seg_While fun p=>?_)
  exact ZFB hX hA H1 H2 H3 H4 hco hi rfl rfl (fun n s0a s h=>seg_execs_nil (env:=eg) (seg_end (.ok (.ret .none)) h)) G rfl g1a s1a s I1a K1a
end
section
variable{c:Cx}{r:Nat}{env env' eg:Env}{A:Around}{U U' U1a:St}{g g' g1a:Gh}{s s' s1a s2a:Shared}{E:Value->Shared->Prop}{v w:Mine.V}{i:Id}
theorem Rel.view(R:Rel c env g U s)(hV:∀ a,(g'.X a\/FA env' a) ↔ (g.X a\/FA env a))(hW:g'.W=g.W)(hc:g'.cs=g.cs){l:List (Nat×Mine.V)}{m:Str->Option Value}(hn:s.heap.Ns env'.locals m)(hl:Q3 c env' (Mine.Fz env' g' s.heap) g'.rho l m):Rel c env' g' { U with loc:=l } s:=by
 have kr:∀ i a,g.rho i=some a->g'.rho i=some a:=fun i a z=>by unfold Gh.rho at z ⊢;rw[hc];exact z
 have kF:∀ a o,Mine.Fz env g s.heap a o->Mine.Fz env' g' s.heap a o:=fun a o z=>⟨z.1,hW▸z.2.1,fun q=>((hV a).mp (.inl q)).elim z.2.2.1 z.2.2.2,fun q=>((hV a).mp (.inr q)).elim z.2.2.1 z.2.2.2⟩
 have hx:∀ a,(g.X a\/FA env a)->∃ o,s.heap.get? a=some o:=fun a q=>q.elim (R.xob a) (R.fob a)
 have hd:∀ a,g'.W a->¬ (g.X a\/FA env a):=fun a w q=>q.elim (R.dis a (hW▸w)).1 (R.dis a (hW▸w)).2
 exact⟨⟨fun a o e=>kF _ _ (R.kin a o e),fun a w=>R.wob a (hW▸w),fun a q=>hx a ((hV a).mp (.inl q)),fun a q=>hx a ((hV a).mp (.inr q)),fun a w=>⟨fun q=>hd a w ((hV a).mp (.inl q)),fun q=>hd a w ((hV a).mp (.inr q))⟩,⟨m,hn,hl⟩,
  fun id ob e=>(R.obs id ob e).imp fun J=>Exists.imp fun J z=>⟨hc▸z.1,z.2.mono kF kr fun J z=>z⟩,fun id r o e=>hW▸R.cW id r o (hc▸e),fun id id' r o r' e e'=>R.inj id id' r o r' (hc▸e) (hc▸e'),fun k e=>hc▸R.nx k e,fun k e=>hc▸R.ps k e⟩,R.pos⟩
end
section
variable{c:Cx}{r:Nat}{env env' eg cenv:Env}{A:Around}{U U' U1a:St}{g g' g1a:Gh}{s s' s1a s2a s4a:Shared}{E:Value->Shared->Prop}{v w:Mine.V}{i:Id}
structure Kpp(X0:Addr->Prop)(K:Addr)(gi:Nat)(s s':Shared):Prop where
 keep:∀ a o,X0 a->a≠K->s.heap.get? a=some o->s'.heap.get? a=some o
 ns:∃ mm,s'.heap.Ns K mm
 os:s'.os=s.os
 bare:∀ j y,j≠gi->s'.gens[j]?=some y->y.bare=true
theorem GInv.toksGens{X0 Y0:Addr->Prop}{r0 r9:Addr}(I:GInv c eg X0 Y0 r0 r9 U g s)(h:s'.heap=s.heap)(ht:s'.toks=s.toks):GInv c eg X0 Y0 r0 r9 U g s':=
 ⟨⟨h▸I.rel.toRel0,ht▸I.rel.pos⟩,I.X,I.r0,I.r9,fun a z=>h▸I.nY a z⟩
theorem Ym{gs:Array GenState}{gi:Nat}{x:GenState}(h:∀ j y,j≠gi->gs[j]?=some y->y.bare=true):∀ j y,j≠gi->(gs.setIfInBounds gi x)[j]?=some y->y.bare=true:=fun j y hj e =>
 h j y hj ((Array.getElem?_setIfInBounds_ne (fun q=>hj q.symm)).symm.trans e)
theorem Bx{gs gs':Array GenState}{gi:Nat}{x y:GenState}(h:gs'=gs.setIfInBounds gi y)(hlt:gi<gs.size):(gs'.setIfInBounds gi x)[gi]?=some x:=
 Array.getElem?_setIfInBounds_self_of_lt (by rw[h,Array.size_setIfInBounds];exact hlt)
theorem ZG8{tot dn l:List Mine.V}(h:tot=dn++l)(hl:tot.length<JB):dn.length<=sizeLine:=
 qA (by rw[h,List.length_append];exact qK _ _:dn.length<=tot.length) (qA (xG hl) (by rw[sizeLine_eq];exact qF _))
theorem ZGH{X0 Y0:Addr->Prop}{r0 L:Addr}{dn:List Mine.V}{v:Value}{Q:Value->Shared->Prop}(I:GInv c eg X0 Y0 r0 L U g s)(hd:JA U.hp (.p 99)=some (.list dn))(hv:VR c (Mine.Fz eg g s.heap) g.rho w v)(hb:dn.length<=sizeLine)
  (N:∀ h3a,(∀ a o,Y0 a->s.heap.get? a=some o->h3a.get? a=some o)->GInv c eg X0 Y0 r0 L (U.setOb (.p 99) (.list (dn++[w]))) g { s with heap:=h3a }->Q .none { s with heap:=h3a }):wpAny c.M A (call (.builtin "list.append") [.ref L,v]) Q E s:=by
 obtain⟨items,n,hcs,hi,hvs⟩:=Uo I.rel hd I.r9
 refine wpAny_list_append_plain (items:=items) ⟨n,hi⟩ (fun h3a hl3a hs3=>?_) (by rw[Ji hvs];exact hb)
 obtain⟨n',hl3a⟩:=hl3a
 have hk:∀ b p,¬ b=L->s.heap.get? b=some p->h3a.get? b=some p:=fun b p hb e=>(hs3.2 b hb).trans e
 have hW:=I.rel.cW _ _ _ hcs
 have hY:∀ a o,Y0 a->s.heap.get? a=some o->h3a.get? a=some o:=fun a o ha=>hk a o fun e=>(I.nY a ha).1 (e▸hW)
 exact N h3a hY ⟨⟨I.rel.toRel0.setOb hcs (.of hk fun e=>(I.rel.dis L hW).2 e.symm) ⟨_,hl3a⟩ fun kF=>⟨rfl,_,n',hl3a,by rw[Array.toList_push];exact(hvs.mono kF fun J J z=>z).append (.cons (hv.mono kF fun J J z=>z) .nil)⟩,I.rel.pos⟩,I.X,I.r0,I.r9,fun a ha=>⟨(I.nY a ha).1,(I.nY a ha).2.imp fun o e=>hY a o ha e⟩⟩
inductive GLI(c:Cx)(eg:Env)(A:Around)(X0 Y0:Addr->Prop)(r0 L K gi:Nat)(tot:List Mine.V)(σe:St)(s4a:Shared)(n:Nat)(s:Shared):Prop
 |mk (g:Gh) (U:St) (dn rest:List Mine.V) (gs:GenState) (hn:n=rest.length+1) (I:GInv c eg X0 Y0 r0 L U g s) (hd:JA U.hp (.p 99)=some (.list dn)) (K:Kpp Y0 K gi s4a s) (hg:s.gens[gi]?=some gs)
   (go:∀ g'' s'',GInv c eg X0 Y0 r0 L U g'' s''->gs.Goes c.M A.in1 (WE c eg X0 Y0 r0 L tot σe) (WD c eg X0 Y0 r0 L tot) rest.length (.send .none) s'')
theorem ZB7{x:Nat}{ep px:Pos}{it:Expr}{scope:Scope}{pos:Pos}{X0 Y0:Addr->Prop}{r0 L K GO gi:Nat}{tot:List Mine.V}{σe:St}{Post:Result->Shared->Prop}(O:c.Ok)(VV:EnvOk cenv)(hK:cenv.locals=K)(hkx:cenv.kindOf (c.nm x)=some .local)
  (hh:A.handled=none) (hd:A.depth<recursionLimit) (hX:∀ a,Y0 a->¬ FA eg a) (hXK:X0 K) (hYK:Y0 K) (hXG:Y0 GO) (hGK:GO≠K) (htot:tot.length<JB)
  (hGen:s4a.heap.IsGen GO gi)
  (fin:∀ g' s',GInv c eg X0 Y0 r0 L σe g' s'->JA σe.hp (.p 99)=some (.list tot)->Kpp Y0 K gi s4a s'->AllBare s'.gens->Post (.ok .next) s')
  (I0:GLI c eg A X0 Y0 r0 L K gi tot σe s4a (tot.length+1) s4a):
  codeAny c.M A (.compLoop (.ListComp (.Name (c.nm x) ep) [⟨.Name (c.nm x) px,it,[],0⟩] scope pos) 0 (.ref GO) (.ref L) cenv) Post s4a:=by
 refine codeAny_compLoop_tests (I:=GLI c eg A X0 Y0 r0 L K gi tot σe s4a) (fun n s I=>?_) (tot.length+1) I0 (fun J=>rfl)
 cases I with
 |mk g U dn rest gs hn I hdn hK1 hg1 hgo1 =>
  have hGs:s.heap.IsGen GO gi:=by
   obtain⟨o,nm,qn,ho,q⟩:=hGen
   exact⟨o,nm,qn,hK1.keep _ _ hXG hGK ho,q⟩
  have hlt:gi<s.gens.size:=(Array.getElem?_eq_some_iff.mp hg1).1
  obtain⟨mm,hmm⟩:=hK1.ns
  refine wpAny_pyNext_gen (Y:=WD c eg X0 Y0 r0 L tot) (P:=Ib c eg X0 Y0 r0 L tot σe) (n:=rest.length) hh (O.noLimit I.rel) hd hGs hg1 (hgo1 g _ (I.toksGens rfl rfl)) (fun v s1a gs' hY=>?_) (fun s1a hP h' hk'=>?_)
  ·obtain⟨g1a,U1a,w,dn',rest',I1a,hdn',ht',hrl,hv,hKp,hkap⟩:=hY
   have hkg:s1a.gens=s.gens.setIfInBounds gi .running:=congrArg Prod.fst hKp.2
   have hXg:∀ a,X0 a->g1a.X a:=fun a h=>by rw[I1a.X];exact h
   have hmm1:(s1a.setGen gi gs').heap.Ns cenv.locals mm:=hK▸hmm.at fun p e=>hKp.1 _ _ hYK e
   -- the name takes the value
   refine wpAny_assign_Name (wpAny_storeName_local hkx hmm1 (fun h2a hn2 hs2a=>?_) (by rw[VV.kind];rfl))
   rw[List.forIn_nil]
   refine qC ?_
   rw[if_pos rfl]
   refine wpAny_Name (wpAny_loadName_local VV.kind hkx hn2 (v:=v) (if_pos rfl) ?_) (O.noDbg x)
   rw[hK] at hn2 hs2a
   have hk2:∀ b p,¬ b=K->(s1a.setGen gi gs').heap.get? b=some p->h2a.get? b=some p:=fun b p hb e=>(hs2a.2 b hb).trans e
   have R2a:Rel c eg g1a U1a { s1a.setGen gi gs' with heap:=h2a,toks:=(s1a.setGen gi gs').toks+1 }:=(I1a.toksGens (s':=s1a.setGen gi gs') rfl rfl).rel.changed (D:=(·=K)) (fun a e=>hXg a (e▸hXK)) hk2 (fun a e=>let ⟨oK,_,_,h,_⟩:=hn2;⟨oK,e▸h⟩) (fun a e=>e▸hX K hYK) (xF _)
   have hnY:∀ a,Y0 a->¬ g1a.W a/\∃ o,h2a.get? a=some o:=fun a ha=>⟨(I1a.nY a ha).1,by
    by_cases hb:a=K
    ·obtain⟨oK,_,_,h,_⟩:=hn2
     exact⟨oK,hb▸h⟩
    ·exact(I1a.nY a ha).2.imp fun o e=>hk2 a o hb e⟩
   refine ZGH ⟨R2a,I1a.X,I1a.r0,I1a.r9,hnY⟩ hdn' (hv.mono (fun a o z=>⟨hk2 _ _ (fun q=>z.2.2.1 (q▸hXg K hXK)) z.1,z.2⟩) fun J J z=>z) (ZG8 ht' htot) fun h3a hk3a I3a=>?_
   cases rest with
   |nil=>exact(hkap g1a _ I3a).elim
   |cons w0 r0' =>
    exact⟨rest'.length+1,by rw[hn,hrl];exact xC _,.mk g1a _ (dn'++[w]) rest' gs' rfl I3a ((Qj _ _ _ _).trans (if_pos rfl))
     ⟨fun a o ha hne e=>hk3a _ _ ha (hk2 _ _ hne (hKp.1 _ _ ha (hK1.keep _ _ ha hne e))),⟨_,hn2.at fun p e=>hk3a _ _ hYK e⟩,(congrArg Prod.snd hKp.2).trans hK1.os,Ym (gs:=s1a.gens) (hkg▸Ym hK1.bare)⟩ (Bx hkg hlt)
     fun g'' s'' I''=>hrl.symm▸hkap g'' s'' I''⟩
  ·obtain⟨g1a,I1a,hKp,h9⟩:=hP
   have hkg:s1a.gens=s.gens.setIfInBounds gi .running:=congrArg Prod.fst hKp.2
   have hbr:∀ j y,j≠gi->(s1a.gens.setIfInBounds gi .finished)[j]?=some y->y.bare=true:=Ym (hkg▸Ym hK1.bare)
   refine fin g1a _ ⟨I1a.rel.grow hk' I1a.rel.pos,I1a.X,I1a.r0,I1a.r9,fun a ha=>⟨(I1a.nY a ha).1,(I1a.nY a ha).2.imp fun o e=>hk' a o e⟩⟩ h9 ⟨fun a o ha hne e=>hk' _ _ (hKp.1 _ _ ha (hK1.keep _ _ ha hne e)),⟨mm,hmm.at fun p e=>hk' _ _ (hKp.1 _ _ hYK e)⟩,(congrArg Prod.snd hKp.2).trans hK1.os,hbr⟩ fun y hy=>?_
   obtain⟨j,hj⟩:=Array.getElem?_of_mem hy
   by_cases hji:j=gi
   ·subst hji
    cases (Bx (x:=.finished) hkg hlt).symm.trans hj;rfl
   ·exact hbr j y hji hj
end
def gX1(g:Gh)(GL GO L:Addr):Addr->Prop:=fun b=>g.X b\/b=GL\/b=GO\/b=L+1
def gX0(g:Gh)(el GO L:Addr):Addr->Prop:=fun b=>g.X b\/b=GO\/b=L+1\/b=el
theorem HZ{p q r s t:Prop}:((p\/q\/r\/s)\/t) ↔ ((p\/t\/q\/r)\/s):=
 ⟨fun h=>h.elim (fun h=>h.elim (fun h=>.inl (.inl h)) fun h=>h.elim (fun h=>.inl (.inr (.inr (.inl h)))) fun h=>h.elim (fun h=>.inl (.inr (.inr (.inr h)))) .inr) fun h=>.inl (.inr (.inl h)),
  fun h=>h.elim (fun h=>h.elim (fun h=>.inl (.inl h)) fun h=>h.elim .inr fun h=>h.elim (fun h=>.inl (.inr (.inl h))) fun h=>.inl (.inr (.inr (.inl h)))) fun h=>.inl (.inr (.inr (.inr h)))⟩
section
variable{c:Cx}{r:Nat}{env env' eg cenv:Env}{A:Around}{U U' U1a σG σe:St}{g g' g1a:Gh}{s s' s1a s2a:Shared}{E:Value->Shared->Prop}{Q:Flow->Shared->Prop}{v w:Mine.V}{i:Id}{GL GO L a:Addr}{mG:Str->Option Value}
theorem VR.all{F F':Addr->Obj->Prop}{ρ ρ':Id->Option Addr}{v:Mine.V}{x:Value}(hF:∀ a o,F a o->F' a o)(h:VR c F ρ v x):(∀ i,V.no i v=true)->VR c F' ρ' v x:=
 VR.rec (motive_1:=fun v x J=>(∀ i,V.no i v=true)->VR c F' ρ' v x) (motive_2:=fun l xs J=>(∀ i,V.nos i l=true)->VRs c F' ρ' l xs) (fun J=>.none) (fun b J=>.bool b) (fun n t J=>.int n t) (fun s t J=>.str s t) (fun a b d J e h=>.tup (hF _ _ a) b d (e h)) (fun a J e h=>.list (hF _ _ a) (e h))
  (fun a b d J f e h=>.dict (hF _ _ a) b d (e h) f) (fun {j a} J h=>(qH (h j) rfl).elim) (fun f J=>.fn f) (fun a J=>.rng (hF _ _ a)) (fun a J b h=>.meth (hF _ _ a) (b h)) (fun J=>.nil) (fun J J a b h=>.cons (a fun i=>bA (h i) fun p J=>p) (b fun i=>bA (h i) fun J p=>p)) h
structure GCells(c:Cx)(env:Env)(g:Gh)(U:St)(s:Shared)(GL GO L:Addr)(mG:Str->Option Value)(s':Shared):Prop where
 R:Rel c env g U s
 kk:∀ b p,s.heap.get? b=some p->s'.heap.get? b=some p
 hGL:GL=s.heap.objs.size
 hGO:GL<GO
 hL:GO<L
 oGL:s'.heap.Ns GL mG
 oGO:∃ o,s'.heap.get? GO=some o
 oL:IsL s'.heap L #[] 0
 oK:∃ o,s'.heap.get? (L+1)=some o
 pos:0<s'.toks
theorem GCells.lt(G:GCells c env g U s GL GO L mG s'){b:Addr}{p:Obj}(e:s.heap.get? b=some p):b<GL:=G.hGL▸xP e
theorem GCells.xlt(G:GCells c env g U s GL GO L mG s'){b:Addr}(h:g.X b):b<GL:=(G.R.xob b h).elim fun J e=>G.lt e
theorem GCells.elt(G:GCells c env g U s GL GO L mG s'):env.locals<GL:=(G.R.fob _ rfl).elim fun J e=>G.lt e
theorem GCells.nEg(G:GCells c env g U s GL GO L mG s')(h:eg.locals=GL)(b:Addr)(hb:gX0 g env.locals GO L b):¬ FA eg b:=fun q=>by
 cases (show b=GL from Eq.trans q h)
 exact hb.elim (fun h=>xS _ (G.xlt h)) fun hb=>hb.elim (qP G.hGO) fun hb=>hb.elim (qP (qU (Nat.lt_trans G.hGO G.hL))) (Nat.ne_of_gt G.elt)
abbrev gY0(env:Env)(g:Gh)(s:Shared)(GO L:Addr):Addr->Prop:=fun b=>gX0 g env.locals GO L b\/∃ o,Mine.Fz env g s.heap b o
abbrev gG(g:Gh)(el GO L:Addr):Gh:={ (g.add (.p 99) L L) with X:=gX0 g el GO L }
theorem ZGG(G:GCells c env g U s GL GO L mG s')(hnop:99∉U.ps)(hself:∃ x,mG (c.nm 0)=some x/\VR c (Mine.Fz env g s.heap) g.rho (.obj (.t 0)) x)(ha:g.rho (.t 0)=some a)(hl:eg.locals=GL)(hk0:eg.kindOf (c.nm 0)=some .local)
  (hUG:σG.loc=[(0,.obj (.t 0))]/\(∀ i o,JA σG.hp i=some o->JA ((Id.p 99,Ob.list [])::U.hp) i=some o)/\U.nx<=σG.nx/\∀ k,k∈99::U.ps->k∈σG.ps):GInv c eg (gX0 g env.locals GO L) (gY0 env g s GO L) a L σG (gG g env.locals GO L) s':=by
 have hGLL:=Nat.lt_trans G.hGO G.hL
 have RH:Rel c env (g.hid fun b=>b=GL\/b=GO\/b=L\/b=L+1) U s':=G.R.hide G.kk (fun b d=>by
   rw[<- G.hGL]
   exact d.elim (fun d=>qV d.symm) fun d=>d.elim (fun d=>xG (d▸G.hGO)) fun d=>d.elim (fun d=>xG (d▸hGLL)) fun d=>xG (d▸qU hGLL))
  (fun b d=>d.elim (fun d=>d▸nsO G.oGL) fun d=>d.elim (fun d=>d▸G.oGO) fun d=>d.elim (fun d=>⟨_,d▸G.oL⟩) fun d=>d▸G.oK) G.pos
 have RL:Rel0 c env (({ g with X:=gX1 g GL GO L }:Gh).add (.p 99) L L) { U with hp:=(.p 99,.list [])::U.hp,ps:=99::U.ps } s'.heap:=
  Rel0.live (ob:=.list []) (X:=gX1 g GL GO L) RH.toRel0 (fun b h=>h.elim .inl fun h=>.inr (h.elim .inl fun h=>.inr (h.elim .inl fun h=>.inr (.inr h)))) (.inr (.inr (.inr (.inl rfl))))
   (fun h=>h.elim (fun h=>Nat.lt_asymm (G.xlt h) hGLL) fun h=>h.elim (Nat.ne_of_gt hGLL) fun h=>h.elim (Nat.ne_of_gt G.hL) fun h=>qP (xC L) h) (fun h=>Nat.lt_asymm (show L<GL from (show L=env.locals from h)▸G.elt) hGLL)
   (G.R.ps 99 hnop) (fun kF kr=>⟨rfl,#[],0,G.oL,.nil⟩) ⟨rfl,rfl,qF _,fun k hk=>.tail _ hk,.head _⟩
 have r0:(gG g env.locals GO L).rho (.t 0)=some a:=(congrArg (Option.map Prod.fst) (show (g.add (.p 99) L L).cs (.t 0)=g.cs (.t 0) from rfl)).trans ha
 have RV:Rel c eg (gG g env.locals GO L) { ({ U with hp:=(.p 99,.list [])::U.hp,ps:=99::U.ps }:St) with loc:=[(0,.obj (.t 0))] } s':=
  Rel.view (g':=gG g env.locals GO L) (l:=[(0,.obj (.t 0))]) (⟨RL,G.pos⟩:Rel c env (({ g with X:=gX1 g GL GO L }:Gh).add (.p 99) L L) _ s') (fun b=>by
   show (gX0 g env.locals GO L b\/b=eg.locals) ↔ (gX1 g GL GO L b\/b=env.locals)
   rw[hl];exact HZ) rfl rfl (hl▸G.oGL) fun i v e=>by
    by_cases e0:0=i
    ·cases (if_pos e0).symm.trans e
     subst e0
     obtain⟨x,hx,hr⟩:=hself
     obtain⟨b,rfl,hb⟩:=hr.objR
     cases hb.symm.trans ha
     exact⟨fun J=>⟨_,hx,.obj r0⟩,fun z=>nomatch hk0.symm.trans z⟩
    ·exact nn ((if_neg e0).symm.trans e)
 exact⟨RV.sub (fun i v e=>by rw[hUG.1] at e;exact e) hUG.2.1 hUG.2.2.1 hUG.2.2.2,rfl,r0,Gh.add_rho (g:={ g with X:=gX0 g env.locals GO L }),fun b hb=>hb.elim (fun h=>⟨fun w=>(RV.dis b w).1 h,RV.xob b h⟩) fun⟨o,z⟩=>⟨fun w=>w.elim z.2.1 fun w=>Nat.lt_asymm (w▸G.lt z.1:L<GL) hGLL,o,G.kk b o z.1⟩⟩
theorem ZDp(O:c.Ok)(VV:EnvOk env){n:Nat}{np:Pos}{tot:List Mine.V}{loc':List (Nat×Mine.V)}{mm:Str->Option Value}(G:GCells c env g U s GL GO L mG s1a)(ha:g.rho (.t 0)=some a)(hl:eg.locals=GL)(hk:env.kindOf (c.nm n)=some .local)(I:GInv c eg (gX0 g env.locals GO L) (gY0 env g s GO L) a L σe g' s')
  (h9:JA σe.hp (.p 99)=some (.list tot)) (hnos:V.nos (.p 99) tot=true) (hkp:∀ b p,gY0 env g s GO L b->b≠L+1->s.heap.get? b=some p->s'.heap.get? b=some p) (hmm:s'.heap.Ns (L+1) mm)
  (hloc':∀ i v,JA loc' i=some v->JA U.loc i=some v/\env.kindOf (c.nm i)=some .local/\(v=.obj (.t 0)\/∀ j,V.no j v=true))
  (N:∀ s'' g',gos s''=gos s'->Rel c env g' (({ σe with loc:=loc' }:St).sb 99 (.list tot) |>.setLoc n (.list tot)) s''->Q .next s''):
  compPost c.M A E (some (assign (.Name (c.nm n) np) env)) (fun J s'=>Q .next s') (.ref L) (L+1) (.ok .next) s':=by
 obtain⟨mloc,hmloc,hll⟩:=G.R.loc
 have RE:Rel c env { g' with X:=gX1 g GL GO L } { σe with loc:=loc' } s':=I.rel.view (g':={ g' with X:=gX1 g GL GO L }) (fun b=>by
   rw[I.X]
   show (gX1 g GL GO L b\/b=env.locals) ↔ (gX0 g env.locals GO L b\/b=eg.locals)
   rw[hl];exact HZ.symm) rfl rfl (hmloc.at fun p e=>hkp _ p (.inl (.inr (.inr (.inr rfl)))) (qP (qU (Nat.lt_trans G.elt (Nat.lt_trans G.hGO G.hL)))) e) fun i v e=>by
  obtain⟨e1,e2,e3⟩:=hloc' i v e
  obtain⟨y,hy,hyr⟩:=(hll i v e1).1 e2
  refine⟨fun J=>⟨y,hy,?_⟩,fun z=>nomatch e2.symm.trans z⟩
  rcases e3 with rfl |hno
  ·obtain⟨b,rfl,hb⟩:=hyr.objR
   cases hb.symm.trans ha
   exact .obj I.r0
  ·refine VR.all (fun b o z=>?_) hyr hno
   have hb:=G.lt z.1
   have h1:b<L:=Nat.lt_trans hb (Nat.lt_trans G.hGO G.hL)
   exact⟨hkp b o (.inr ⟨o,z⟩) (qP (qU h1)) z.1,(I.nY b (.inr ⟨o,z⟩)).1,fun q=>q.elim z.2.2.1 fun q=>q.elim (qP hb) fun q=>q.elim (qP (Nat.lt_trans hb G.hGO)) (qP (qU h1)),z.2.2.2⟩
 obtain⟨R',HL⟩:=Y1 RE (by exact h9) hnos
 have hK:gX1 g GL GO L (L+1):=.inr (.inr (.inr rfl))
 have hGLL:=Nat.lt_trans G.hGO G.hL
 have hnK:¬ FA env (L+1):=fun q=>Nat.lt_asymm (qU hGLL) (show L+1<GL from (show L+1=env.locals from q)▸G.elt)
 show wpAny _ _ (assign (.Name (c.nm n) np) env (.ref L)) _ _ _
 refine wpAny_assign_Name (WI O VV hk R' (HL L I.r9) fun s'' R'' E''=>⟨mm,hmm.at fun p e=>(E''.fz _ _ e (fun w=>(R'.dis _ w).1 hK) hnK).1,fun h' hs'=>?_⟩)
 have hkd:∀ b p,¬ b=L+1->s''.heap.get? b=some p->h'.get? b=some p:=fun b p hb e=>(hs'.2 b hb).trans e
 exact N _ _ E''.gens (R''.drop (D:=(·=L+1)) (X:=fun b=>g.X b\/b=GL\/b=GO) (s':={ s'' with heap:=h' }) (fun b h=>h.elim .inl fun h=>.inr (h.elim .inl fun h=>.inr (.inl h))) (fun b h=>h▸hK)
  (fun b h q=>h.elim (fun h=>Nat.lt_asymm (show L+1<GL from q▸G.xlt h) (qU hGLL)) fun h=>h.elim (fun h=>qP (qU hGLL) (h.symm.trans q)) fun h=>qP (qU G.hL) (h.symm.trans q)) hkd (fun b h=>h▸hnK) R''.pos)
theorem ZGP(O:c.Ok)(VV:EnvOk env)(VC:XZ env){kn:Str->Option NameKind}(hkn:∀ x,env.kindOf x=kn x){f x nt n:Nat}{ep px tp np pos spos:Pos}{scope:Scope}{fd:FuncData}{Cl:Nat}{fs:List (Nat×Mine.V)}
  {S0:Stmt} {t1 t2 t3 ye:Expr} {b2:List Stmt} {p1 p2 p3 yp epos:Pos} {C:Ora} {m:GenM} {m0:MS} {UG1:St} {tot:List Mine.V} {loc':List (Nat×Mine.V)}
  (hk:env.kindOf (c.nm n)=some .local) (hkt:env.kindOf (c.nm nt)=some .local) (hsc:WK c scope kn x=true) (hsw:XB (c.nm n) np (.ListComp (.Name (c.nm x) ep) [⟨.Name (c.nm x) px,.Name (c.nm nt) tp,[],0⟩] scope pos)=true)
  (hnI:findIn c.K (.ref (c.cA Cl)) "__iter__"=some (some (.ref (c.fA f)))) (hfI:typeIn c.K (.ref (c.fA f))=some (.type "function"))
  (G:GenAt c f fd [S0,.While t1 (Qp t2 t3 ye b2 p2 p3 yp epos) [] p1])
  (HG:∀ GL,JW c r (QB fd GL (c.fA f)) S0 (exc C m0)/\Jb c r (QB fd GL (c.fA f)) t1 (tst C m.t1)/\Jb c r (QB fd GL (c.fA f)) t2 (tst C m.t2)/\Jb c r (QB fd GL (c.fA f)) t3 (tst C m.t3)/\JD c r (QB fd GL (c.fA f)) ye (ev C m.e))
  (hr:JP A 2) (hrI:JP A.in1 (r+2)) (ht:JA U.loc nt=some (.obj (.t 0))) (hob:JA U.hp (.t 0)=some (.inst Cl fs)) (hnop:99∉U.ps)
  (hUG:σG.loc=[(0,.obj (.t 0))]/\(∀ i o,JA σG.hp i=some o->JA ((Id.p 99,Ob.list [])::U.hp) i=some o)/\U.nx<=σG.nx/\∀ k,k∈99::U.ps->k∈σG.ps) (hG99:JA σG.hp (.p 99)=some (.list []))
  (h0:exc C m0 σG=some (.next,UG1)) (GRun:GR C m true UG1 [] tot σe) (htot:tot.length<JB) (hnos:V.nos (.p 99) tot=true)
  (hloc':∀ i v,JA loc' i=some v->JA U.loc i=some v/\env.kindOf (c.nm i)=some .local/\(v=.obj (.t 0)\/∀ j,V.no j v=true))
  (R:Rel c env g U s) (hAB:AllBare s.gens)
  (N:∀ s' g',s'.os=s.os->AllBare s'.gens->Rel c env g' (({ σe with loc:=loc' }:St).sb 99 (.list tot) |>.setLoc n (.list tot)) s'->Q .next s'):
  wpAny c.M A (exec (.Assign [.Name (c.nm n) np] (.ListComp (.Name (c.nm x) ep) [⟨.Name (c.nm x) px,.Name (c.nm nt) tp,[],0⟩] scope pos) spos) env) Q E s:=by
 obtain⟨cl,F,-⟩:=KU O ⟨VV,VC,hkn⟩ hsc
 have hsw':swapsWith (.ListComp (.Name (c.nm x) ep) [⟨.Name (c.nm x) px,.Name (c.nm nt) tp,[],0⟩] scope pos) (some (.Name (c.nm n) np)) spos.line env=pure true:=by
  show (pure (env.blockKind==.function&&env.kindOf (c.nm n)==some .local&&np.line==pos.line&&!(scope.names.any fun (a,k)=>a==c.nm n&&(k==.local||k==.cell))):Sem Bool)=pure true
  have hb:(env.blockKind==ScopeKind.function)=true:=by unfold Env.blockKind;rw[VV.kind];rfl
  exact bA hsw fun h1 h2=>by rw[hb,hk,h1,h2];rfl
 rw[exec_Assign_Name_used _ _ _ _ hsw']
 refine qB (qX (qB ?_))
 show wpAny _ A (do let _ <- comprehension (.ListComp (.Name (c.nm x) ep) [⟨.Name (c.nm x) px,.Name (c.nm nt) tp,[],0⟩] scope pos) scope env _ (newList []) false (eval (.Name (c.nm nt) tp) env) (some (assign (.Name (c.nm n) np) env))) _ _ s
 refine qB (xT (wpAny_comprehension_free (Q:=fun J s'=>Q .next s') (use:=some (assign (.Name (c.nm n) np) env)) rfl (fun J=>rfl) F.clos F.kind F.names ?_) (fun J s' hq=>qC (qC hq)) fun J J e=>e)
 -- t
 obtain⟨mloc,hmloc,hl⟩:=R.loc
 obtain⟨tv,htv,htr⟩:=(hl nt _ ht).1 hkt
 refine wpAny_Name (wpAny_loadName_local VV.kind hkt hmloc htv ?_) (O.noDbg nt)
 obtain⟨a,rfl,ha⟩:=htr.objR
 refine ZAB O hnI hfI R hob ha (ZDq O G hr R fun s2a GO mG kk2 hGO hnsG hself hGen hgens hos2 htk=>⟨"generator",_,hGen.typeIs,slot_gen_next.lookup,?_⟩)
 refine wpAny_newObj_type (wpAny_newFunctionEnv F.noCell (fun y hy=>nomatch hy) (fun h1a hns1 hsb1=>?_) F.kind)
 have e2:(s2a.heap.push { cls:=.type "list",dict:=none,data:=.seq ([]:List Value).toArray }).objs.size=s2a.heap.objs.size+1:=Heap.size_push ..
 dsimp only at hns1 hsb1 ⊢
 rw[e2] at hns1 hsb1 ⊢
 have hGOlt:GO<s2a.heap.objs.size:=by obtain⟨o,_,_,ho,_⟩:=hGen;exact xP ho
 have kH:∀ b p,(s2a.heap.push { cls:=.type "list",dict:=none,data:=.seq ([]:List Value).toArray }).get? b=some p->h1a.get? b=some p:=fun b p e=>(hsb1.2 b (qP (e2▸xP e))).trans (xA _ e)
 have k1:∀ b p,s2a.heap.get? b=some p->h1a.get? b=some p:=fun b p e=>kH b p (xA _ e)
 have GC:GCells c env g U s s.heap.objs.size GO s2a.heap.objs.size mG { s2a with heap:=h1a,toks:=s2a.toks+([]:List (Str×Value)).length }:=
  ⟨R,fun b p e=>k1 b p (kk2 b p e),rfl,hGO,hGOlt,hnsG.keeps k1,hGen.imp fun o z=>z.elim fun J z=>z.elim fun J z=>k1 _ _ z.1,kH _ _ (qZ _ rfl),let ⟨o,_,_,ho,_⟩:=hns1;⟨o,ho⟩,htk⟩
 have I0:=ZGG (eg:=QB fd s.heap.objs.size (c.fA f)) GC hnop ⟨_,hself,.obj ha⟩ ha rfl G.plocal hUG
 have hX:∀ b,gY0 env g s GO s2a.heap.objs.size b->¬ FA (QB fd s.heap.objs.size (c.fA f)) b:=fun b hb=>hb.elim (GC.nEg (eg:=QB fd s.heap.objs.size (c.fA f)) rfl b) fun⟨o,z⟩ q=>qP (GC.lt z.1) q
 have hlK:env.locals≠s2a.heap.objs.size+1:=qP (qU (Nat.lt_trans GC.elt (Nat.lt_trans GC.hGO GC.hL)))
 have loop:codeAny c.M A (.compLoop (.ListComp (.Name (c.nm x) ep) [⟨.Name (c.nm x) px,.Name (c.nm nt) tp,[],0⟩] scope pos) 0 (.ref GO) (.ref s2a.heap.objs.size) (compEnvC scope cl (s2a.heap.objs.size+1) env))
   (compPost c.M A E (some (assign (.Name (c.nm n) np) env)) (fun J s'=>Q .next s') (.ref s2a.heap.objs.size) (s2a.heap.objs.size+1)) { s2a with heap:=h1a,toks:=s2a.toks+([]:List (Str×Value)).length }:=
  ZB7 (gi:=s.gens.size) (tot:=tot) (σe:=σe) O ⟨F.kind,VV.glob,VV.blt⟩ rfl (lookup_relabel_local F.hx) hr.1 (qL (qK _ _) hr.2.1) hX (.inr (.inr (.inl rfl))) (.inl (.inr (.inr (.inl rfl)))) (.inl (.inr (.inl rfl))) (qP (qU hGOlt)) htot (hGen.keeps k1)
   (fun g' s' I h9 hkp hab=>hkp.ns.elim fun mm hmm=>ZDp O VV GC ha rfl hk I h9 hnos (fun b p hb hne e=>hkp.keep _ _ hb hne (GC.kk _ _ e)) hmm hloc' fun s'' g' hg R''=>N s'' g' ((congrArg Prod.snd hg).trans (hkp.os.trans hos2)) (by rw[show s''.gens=s'.gens from congrArg Prod.fst hg];exact hab) R'')
   (.mk _ σG [] tot (.fresh (.func [S0,.While t1 (Qp t2 t3 ye b2 p2 p3 yp epos) [] p1] (QB fd s.heap.objs.size (c.fA f)))) rfl I0 hG99 ⟨fun J J J J e=>e,⟨_,hns1⟩,rfl,fun j y hj e=>hAB y (Array.mem_of_getElem? ((Array.getElem?_push.symm.trans (hgens▸e:(s.gens.push _)[j]?=some y)) |> fun q=>(if_neg hj).symm.trans q))⟩ (by
    show s2a.gens[s.gens.size]?=_
    rw[hgens,Array.getElem?_push_size])
    fun g'' s'' I''=>let ⟨H0,H1,H2,H3,H4⟩:=HG s.heap.objs.size;⟨rfl,ZA4 hX hrI H0 H1 H2 H3 H4 G.co (Do ⟨G.kind,G.glob,G.blt⟩) h0 GRun I''⟩)
 exact codeAny_compStart_list loop (wpAny_pyIter_gen (hGen.keeps k1) loop)
end
end Mine
end
noncomputable section
namespace Mine
inductive Rz where
 |done (f:FL) (U:St)
 |fail
 |v (x:Option V) (k:V->Rz)
 |b (x:Option Bool) (k:Bool->Rz)
 |c (x:Option (V×St)) (k:V->St->Rz)
 |f (x:Option (FL×St)) (k:FL->St->Rz)
 |l (x:Option (List V×St)) (k:List V->St->Rz)
 |o (x:Option Ob) (k:Ob->Rz)
 |g (b:Bool) (r:Rz)
noncomputable def sem:Rz->Option (FL×St)
 |.done f U=>some (f,U)
 |.fail=>none
 |.v x k=>bo x fun a=>sem (k a)
 |.b x k=>bo x fun a=>sem (k a)
 |.c x k=>bn x fun a U=>sem (k a U)
 |.f x k=>bn x fun a U=>sem (k a U)
 |.l x k=>bn x fun a U=>sem (k a U)
 |.o x k=>bo x fun a=>sem (k a)
 |.g b r=>gd b (sem r)
noncomputable def boK{α:Type}(x:Option α)(f:α->Rz):Rz:=match x with
 |some a=>f a
 |none=>.fail
noncomputable def noK{α:Type}(o:Option α)(x:Rz):Rz:=match o with
 |none=>x
 |some _=>.fail
def Wr(U:St)(v:V)(f:Id->List V->Rz):Rz:=match v with
 |.obj id=>.o (JA U.hp id) fun o=>match o with
  |.list l=>f id l
  |_=>.fail
 |_=>.fail
def Uv(U:St)(C:Nat)(v:V)(f:Id->List (Nat×V)->Rz):Rz:=match v with
 |.obj id=>.o (JA U.hp id) fun o=>match o with
  |.inst D fs=>.g (Nat.beq D C) (f id fs)
  |_=>.fail
 |_=>.fail
noncomputable def Dl(v:V)(f:Nat->V->Rz):Rz:=match v with
 |.meth g s=>f g s
 |_=>.fail
noncomputable def Zf(v:V)(f:V->Rz):Rz:=match v with
 |.fn k=>f (.fn k)
 |_=>.fail
noncomputable def NX(v:V)(f:List Nat->Rz):Rz:=match v with
 |.str s=>f s
 |_=>.fail
noncomputable def NY(v:V)(f:Int->Rz):Rz:=match v with
 |.int s=>f s
 |_=>.fail
noncomputable def ifK(c:Bool)(t f:Rz):Rz:=match c with
 |true=>t
 |false=>f
def IS(z:Bool)(l:List V)(k:V->List V->Rz):Rz:=match z with
 |false=>.g (Nat.ble l.length JB) (boK l.getLast? fun y=>k y l.dropLast)
 |true=>(match l with
  |[]=>.fail
  |y::l=>.g (Nat.blt l.length JB) (k y l))
def saK(U:St)(n C:Nat)(o v:V)(f:St->Rz):Rz:=Uv U C o fun id fs=>.g (Nat.blt fs.length 400) (f (U.setOb id (.inst C (put fs n v))))
def siK(U:St)(o i v:V)(f:St->Rz):Rz:=match o with
 |.obj id=>.o (JA U.hp id) fun b=>match b with
  |.dict ks vs=>NX i fun x=>boK (Qw ks vs x) fun J=>.g (Nat.ble ks.length 1000) (f (U.setOb id (.dict ks (XE ks vs x v))))
  |.list l=>NY i fun k=>.g (Nat.ble l.length JB) (boK (Q1 l.length k) fun j=>.g (Nat.blt j l.length) (f (U.setOb id (.list (l.set j v)))))
  |.inst _ _=>.fail
 |_=>.fail
def Bb(U:St)(v:V)(f:List V->Rz):Rz:=match v with
 |.list l=>f l
 |.obj id=>Wr U (.obj id) fun J l=>f l
 |_=>.fail
def Z3(U:St)(o:Bop)(a b:V)(f:V->St->Rz):Rz:=match a with
 |.int i=>.v (Jn U o (.int i) b) fun w=>f w U
 |.str s=>.v (Jn U o (.str s) b) fun w=>f w U
 |.obj id=>.g (decide (o=.add)) (Wr U (.obj id) fun id l=>Bb U b fun l'=>.g (Nat.ble (l.length+l'.length) JB) (f (.obj id) (U.setOb id (.list (l++l')))))
 |_=>.fail
def Oq(m:Bool)(x:Option V)(k:V->Rz):Rz:=match m with
 |true=>.v x k
 |false=>boK x k
mutual
noncomputable def evK(m:Bool)(C:Ora):ME->St->(V->St->Rz)->Rz
 |.k v=>fun U k=>k v U
 |.glob v=>fun U k=>k v U
 |.loc n=>fun U k=>Oq m (JA U.loc n) fun v=>k v U
 |.attr e n D=>fun U k=>evK m C e U fun v U1a=>Uv U1a D v fun J fs=>boK (JA fs n) fun w=>k w U1a
 |.bm e n D f=>fun U k=>evK m C e U fun v U1a=>Uv U1a D v fun id fs=>noK (JA fs n) (k (.meth f (.obj id)) U1a)
 |.cat e n D i=>fun U k=>evK m C e U fun v U1a=>Uv U1a D v fun J fs=>noK (JA fs n) (k (.int i) U1a)
 |.call f as=>fun U k=>evsK m C as U fun vs U1a=>.c (C f vs U1a) k
 |.mcall e n D f as=>fun U k=>evK m C e U fun v U1a=>Uv U1a D v fun id fs=>noK (JA fs n) (evsK m C as U1a fun vs U2a=>.c (C f (.obj id::vs) U2a) k)
 |.fcall e n D as=>fun U k=>evK m C e U fun v U1a=>Uv U1a D v fun J fs=>boK (JA fs n) fun w=>Dl w fun f self=>evsK m C as U1a fun vs U2a=>.c (C f (self::vs) U2a) k
 |.new D f as lv=>fun U k=>evsK m C as U fun vs U1a=>.c (U1a.alloc lv (.inst D [])) fun v U2a=>.c (C f (v::vs) U2a) fun r U3a=>.g (Dz r) (k v U3a)
 |.bi b as=>fun U k=>evsK m C as U fun vs U1a=>.v (biV U1a b vs) fun w=>k w U1a
 |.sm w e as=>fun U k=>evK m C e U fun v U1a=>NX v fun s=>evsK m C as U1a fun vs U2a=>.v (smV U2a w s vs) fun u=>k u U2a
 |.app e x=>fun U k=>evK m C e U fun v U1a=>Wr U1a v fun id J=>evK m C x U1a fun y U2a=>Wr U2a (.obj id) fun J l=>.g (Nat.ble l.length JB) (k .none (U2a.setOb id (.list (l++[y]))))
 |.pop e as=>fun U k=>evK m C e U fun v U1a=>Wr U1a v fun id l=>boK (DP as) fun z=>IS z l fun y l'=>k y (U1a.setOb id (.list l'))
 |.cmp o l r=>fun U k=>evK m C l U fun a U1a=>evK m C r U1a fun b U2a=>.b (XK U2a o a b) fun c=>k (.bool c) U2a
 |.cmp2 o1a o2a l w r=>fun U k=>evK m C l U fun a U1a=>evK m C w U1a fun b U2a=>.b (QJ U2a o1a a b) fun c=>ifK c (evK m C r U2a fun d U3a=>.b (QJ U3a o2a b d) fun c=>k (.bool c) U3a) (k (.bool false) U2a)
 |.bop o l r=>fun U k=>evK m C l U fun a U1a=>evK m C r U1a fun b U2a=>.v (Jn U2a o a b) fun w=>k w U2a
 |.neg e=>fun U k=>evK m C e U fun v U1a=>NY v fun i=>k (.int (-i)) U1a
 |.not e=>fun U k=>evK m C e U fun v U1a=>.b (Jk U1a v) fun b=>k (.bool (!b)) U1a
 |.and a b=>fun U k=>evK m C a U fun v U1a=>.b (Jk U1a v) fun c=>ifK c (evK m C b U1a k) (k v U1a)
 |.or a b=>fun U k=>evK m C a U fun v U1a=>.b (Jk U1a v) fun c=>ifK c (k v U1a) (evK m C b U1a k)
 |.ite t b o=>fun U k=>evK m C t U fun v U1a=>.b (Jk U1a v) fun c=>ifK c (evK m C b U1a k) (evK m C o U1a k)
 |.sub e i=>fun U k=>evK m C e U fun v U1a=>evK m C i U1a fun x U2a=>.v (Qd U2a v x) fun w=>k w U2a
 |.sl e a b=>fun U k=>evK m C e U fun v U1a=>evK m C a U1a fun x U2a=>evK m C b U2a fun y U3a=>.v (slV U3a v x y) fun w=>k w U3a
 |.lst es lv=>fun U k=>evsK m C es U fun vs U1a=>.c (U1a.alloc lv (.list vs)) k
 |.tup es=>fun U k=>evsK m C es U fun vs U1a=>k (.tup vs) U1a
 |.dct ks es lv=>fun U k=>evsK m C es U fun vs U1a=>.g (decide (ks.length=vs.length)&&decide ks.Nodup) (.c (U1a.alloc lv (.dict ks vs)) k)
 |.comp elt x it cond=>fun U k=>evK m C it U fun v U1a=>.l (bo (Ub v) fun l=>some (l,U1a)) fun l J=>.g (Nat.ble l.length JB) (.l (J3 (Jl (ev C elt) (ev C cond) x U1a.loc) l U1a) fun r U2a=>k (.list r) U2a)
 |.isb e=>fun U k=>evK m C e U fun v U1a=>boK (U9 v) fun J=>k (.bool true) U1a
 |.fat e _ w=>fun U k=>evK m C e U fun v U1a=>Zf v fun J=>k w U1a
 |.fmc e _ f as=>fun U k=>evK m C e U fun v U1a=>Zf v fun v=>evsK m C as U1a fun vs U2a=>.c (C f (v::vs) U2a) k
 |.inf l r f=>fun U k=>evK m C l U fun a U1a=>evK m C r U1a fun b U2a=>Zf b fun b=>.c (C f [b,a] U2a) fun v U3a=>boK (U9 v) fun q=>k (.bool q) U3a
noncomputable def evsK(m:Bool)(C:Ora):List ME->St->(List V->St->Rz)->Rz
 |[]=>fun U k=>k [] U
 |e::r=>fun U k=>evK m C e U fun v U1a=>evsK m C r U1a fun vs U2a=>k (v::vs) U2a
end
def W9(m:Bool)(C:Ora)(e:ME)(U:St)(k:Bool->St->Rz):Rz:=evK m C e U fun v U1a=>.b (Jk U1a v) fun b=>k b U1a
noncomputable def HS(f:FL)(go:Rz)(o:FL->Rz):Rz:=match f with
 |.next=>go
 |f=>o f
mutual
noncomputable def Ig(m:Bool)(C:Ora):MS->St->(FL->St->Rz)->Rz
 |.ex e=>fun U k=>evK m C e U fun v U1a=>.g (Ih v) (k .next U1a)
 |.asg n e=>fun U k=>evK m C e U fun v U1a=>k .next (U1a.setLoc n v)
 |.asgA t n D e=>fun U k=>evK m C e U fun v U1a=>evK m C t U1a fun o U2a=>saK U2a n D o v fun U3a=>k .next U3a
 |.asgS t i e=>fun U k=>evK m C e U fun v U1a=>evK m C t U1a fun o U2a=>evK m C i U2a fun x U3a=>siK U3a o x v fun U4a=>k .next U4a
 |.asgT ns e=>fun U k=>evK m C e U fun v U1a=>boK (WN v) fun vs=>boK (UD ns vs U1a) fun U2a=>k .next U2a
 |.asgTA t1a n1a D1a t2a n2a D2a e=>fun U k=>evK m C e U fun v U1a=>boK (OI v) fun p=>evK m C t1a U1a fun o1a U2a=>saK U2a n1a D1a o1a p.1 fun U3a=>evK m C t2a U3a fun o2a U4a=>saK U4a n2a D2a o2a p.2 fun U5a=>k .next U5a
 |.augN n o e=>fun U k=>Oq m (JA U.loc n) fun a=>evK m C e U fun b U1a=>Z3 U1a o a b fun c U2a=>k .next (U2a.setLoc n c)
 |.augA t n D o e=>fun U k=>evK m C t U fun x U1a=>Uv U1a D x fun id fs=>boK (JA fs n) fun a=>evK m C e U1a fun b U2a=>Z3 U2a o a b fun c U3a=>saK U3a n D (.obj id) c fun U4a=>k .next U4a
 |.augS t i o e=>fun U k=>evK m C t U fun x U1a=>evK m C i U1a fun j U2a=>.v (Qd U2a x j) fun a=>evK m C e U2a fun b U3a=>Z3 U3a o a b fun c U4a=>siK U4a x j c fun U5a=>k .next U5a
 |.iff t b o=>fun U k=>W9 m C t U fun c U1a=>ifK c (exsK m C b U1a k) (exsK m C o U1a k)
 |.whl t b=>fun U k=>.f (QA (tst C t) (exs C b) Qr U) k
 |.for x it b=>fun U k=>evK m C it U fun v U1a=>.l (bo (Ub v) fun l=>some (l,U1a)) fun l J=>.f (QI (fun v U=>some (U.setLoc x v)) (exs C b) l U1a) k
 |.forT xs it b=>fun U k=>evK m C it U fun v U1a=>.l (bo (Ub v) fun l=>some (l,U1a)) fun l J=>.f (QI (fun v U=>bo (WN v) fun vs=>UD xs vs U) (exs C b) l U1a) k
 |.ret e=>fun U k=>evK m C e U fun v U1a=>k (.ret v) U1a
 |.pass=>fun U k=>k .next U
 |.brk=>fun U k=>k .brk U
 |.cont=>fun U k=>k .cont U
 |.asrt e=>fun U k=>W9 m C e U fun c U1a=>.g c (k .next U1a)
 |.dead=>fun J J=>.fail
 |.tryS b=>fun U k=>exsK m C b U k
noncomputable def exsK(m:Bool)(C:Ora):List MS->St->(FL->St->Rz)->Rz
 |[]=>fun U k=>k .next U
 |s::r=>fun U k=>Ig m C s U fun f U1a=>HS f (exsK m C r U1a k) fun f=>k f U1a
end
def Sim{α:Type}(m:(α->St->Rz)->Rz)(x:Option (α×St)):Prop:=∀ k,sem (m k)=bn x fun a U=>sem (k a U)
namespace Sim
variable{α β γ:Type}{x:Option (α×St)}{m:(α->St->Rz)->Rz}{U:St}
theorem pure{a:α}:Sim (fun k=>k a U) (some (a,U)):=fun J=>rfl
theorem bind{M:(β->St->Rz)->Rz}{m':α->St->(β->St->Rz)->Rz}{x':α->St->Option (β×St)}(h:Sim m x)(h':∀ a U,Sim (m' a U) (x' a U))(e:M=fun k=>m fun a U=>m' a U k:=by rfl):Sim M (bn x x'):=fun k=>((congrArg sem (congrFun e k)).trans (h _)).trans (by
 cases x with
 |none=>rfl
 |some p=>exact h' _ _ k)
theorem av{x:Option V}{m':V->(β->St->Rz)->Rz}{x':V->Option (β×St)}(h':∀ a,Sim (m' a) (x' a)):Sim (fun k=>.v x fun a=>m' a k) (bo x x'):=fun k=>by
 cases x with
 |none=>rfl
 |some p=>exact h' _ k
theorem ab{x:Option Bool}{m':Bool->(β->St->Rz)->Rz}{x':Bool->Option (β×St)}(h':∀ a,Sim (m' a) (x' a)):Sim (fun k=>.b x fun a=>m' a k) (bo x x'):=fun k=>by
 cases x with
 |none=>rfl
 |some p=>exact h' _ k
theorem ac{x:Option (V×St)}:Sim (fun k=>.c x k) x:=fun J=>rfl
theorem af{x:Option (FL×St)}:Sim (fun k=>.f x k) x:=fun J=>rfl
theorem al{x:Option (List V×St)}:Sim (fun k=>.l x k) x:=fun J=>rfl
theorem ai{x:Option (List V)}{m':List V->(β->St->Rz)->Rz}{x':List V->Option (β×St)}(h':∀ a,Sim (m' a) (x' a)):Sim (fun k=>.l (bo x fun l=>some (l,U)) fun l J=>m' l k) (bo x x'):=fun k=>by
 cases x with
 |none=>rfl
 |some p=>exact h' _ k
theorem gd{b:Bool}{m:(β->St->Rz)->Rz}{x:Option (β×St)}(h':Sim m x):Sim (fun k=>.g b (m k)) (gd b x):=fun k=>by
 cases b with
 |false=>rfl
 |true=>exact h' k
theorem bo{x:Option γ}{m':γ->(β->St->Rz)->Rz}{x':γ->Option (β×St)}(h':∀ a,Sim (m' a) (x' a)):Sim (fun k=>boK x fun a=>m' a k) (bo x x'):=fun k=>by
 cases x with
 |none=>rfl
 |some p=>exact h' _ k
theorem lo{m:Bool}{x:Option V}{m':V->(β->St->Rz)->Rz}{x':V->Option (β×St)}(h':∀ a,Sim (m' a) (x' a)):Sim (fun k=>Oq m x fun a=>m' a k) (Mine.bo x x'):=by
 cases m
 ·exact .bo h'
 ·exact .av h'
theorem no{o:Option γ}{m:(β->St->Rz)->Rz}{x:Option (β×St)}(h':Sim m x):Sim (fun k=>noK o (m k)) (no o x):=fun k=>by
 cases o with
 |none=>exact h' k
 |some p=>rfl
theorem onO(x:Option Ob)(k:β->St->Rz){m:Ob->Rz}{x':Ob->Option (β×St)}(h:∀ a,sem (m a)=bn (x' a) fun a U=>sem (k a U)):sem (.o x m)=bn (Mine.bo x x') fun a U=>sem (k a U):=by
 cases x with
 |none=>rfl
 |some p=>exact h p
theorem onList{v:V}{m':Id->List V->(β->St->Rz)->Rz}{x':Id->List V->Option (β×St)}(h':∀ i l,Sim (m' i l) (x' i l)):Sim (fun k=>Wr U v fun i l=>m' i l k) (onList U v x'):=fun k=>by
 cases v<;>first |rfl |skip
 exact onO (JA U.hp _) k fun o=>by cases o<;>first |exact h' _ _ k |rfl
theorem onInst{C:Nat}{v:V}{m':Id->List (Nat×V)->(β->St->Rz)->Rz}{x':Id->List (Nat×V)->Option (β×St)}(h':∀ i l,Sim (m' i l) (x' i l)):Sim (fun k=>Uv U C v fun i l=>m' i l k) (onInst U C v x'):=fun k=>by
 cases v<;>first |rfl |skip
 exact onO (JA U.hp _) k fun o=>by cases o<;>first |exact Sim.gd (h' _ _) k |rfl
set_option tactic.hygienic false in
theorem sa{n C:Nat}{o v:V}{m':St->(β->St->Rz)->Rz}{x':St->Option (β×St)}(h':∀ a,Sim (m' a) (x' a)):Sim (fun k=>saK U n C o v fun a=>m' a k) (Mine.bo (Wq U n C o v) x'):=fun k=>by
 cases o<;>first |rfl |skip
 show sem (.o (JA U.hp _) _)=bn (Mine.bo (Mine.bo (JA U.hp _) _) x') _
 generalize JA U.hp _=q
 cases q with
 |none=>rfl
 |some o =>
             cases o<;>first |rfl |skip
             show sem (Rz.g (Nat.beq C_1 C) (.g (Nat.blt fs.length 400) _))=bn (Mine.bo (Mine.gd (Nat.beq C_1 C) (Mine.gd (Nat.blt fs.length 400) (some _))) x') _
             generalize Nat.beq C_1 C=p;generalize Nat.blt fs.length 400=q
             cases p<;>first |rfl |skip
             cases q<;>first |rfl |exact h' _ k
set_option tactic.hygienic false in
theorem si{o i v:V}{m':St->(β->St->Rz)->Rz}{x':St->Option (β×St)}(h':∀ a,Sim (m' a) (x' a)):Sim (fun k=>siK U o i v fun a=>m' a k) (Mine.bo (Uu U o i v) x'):=fun k=>by
 cases o<;>first |rfl |skip
 show sem (.o (JA U.hp _) _)=bn (Mine.bo (Mine.bo (JA U.hp _) _) x') _
 generalize JA U.hp _=q
 cases q with
 |none=>rfl
 |some o =>
             cases o<;>first |rfl |skip
             ·cases i<;>first |rfl |skip
              show sem (.g (Nat.ble l.length JB) (boK (Q1 l.length i_1) fun j=>.g (Nat.blt j l.length) _))=bn (Mine.bo (Mine.gd (Nat.ble l.length JB) (Mine.bo (Q1 l.length i_1) fun j=>Mine.gd (Nat.blt j l.length) (some _))) x') _
              generalize Nat.ble l.length JB=p
              cases p<;>first |rfl |skip
              generalize Q1 l.length i_1=q
              cases q<;>first |rfl |skip
              show sem (.g (Nat.blt val l.length) _)=bn (Mine.bo (Mine.gd (Nat.blt val l.length) (some _)) x') _
              generalize Nat.blt val l.length=p
              cases p<;>first |rfl |exact h' _ k
             cases i<;>first |rfl |skip
             show sem (boK (Qw ks vs s) fun J=>.g (Nat.ble ks.length 1000) _)=bn (Mine.bo (Mine.bo (Qw ks vs s) fun J=>Mine.gd (Nat.ble ks.length 1000) (some _)) x') _
             generalize Qw ks vs s=p;generalize Nat.ble ks.length 1000=q
             cases p<;>first |rfl |skip
             cases q<;>first |rfl |exact h' _ k
theorem onListOf{v:V}{m':List V->(β->St->Rz)->Rz}{x':List V->Option (β×St)}(h':∀ l,Sim (m' l) (x' l)):Sim (fun k=>Bb U v fun l=>m' l k) (Mine.onListOf U v x'):=fun k=>by
 cases v<;>first |rfl |exact h' _ k |exact Sim.onList (U:=U) (v:=.obj _) (m':=fun J l=>m' l) (x':=fun J l=>x' l) (fun J l=>h' l) k
theorem iop{o:Bop}{a b:V}:Sim (fun k=>Z3 U o a b k) (YR U o a b):=fun k=>by
 cases a<;>first |rfl |exact Sim.av (m':=fun w k=>k w U) (fun J=>.pure) k |exact Sim.gd (.onList fun J J=>.onListOf fun J=>.gd .pure) k
theorem onMeth{v:V}{m':Nat->V->(β->St->Rz)->Rz}{x':Nat->V->Option (β×St)}(h':∀ i l,Sim (m' i l) (x' i l)):Sim (fun k=>Dl v fun i l=>m' i l k) (onMeth v x'):=fun k=>by
 cases v<;>first |rfl |exact h' _ _ k
theorem onFn{v:V}{m':V->(β->St->Rz)->Rz}{x':V->Option (β×St)}(h':∀ i,Sim (m' i) (x' i)):Sim (fun k=>Zf v fun i=>m' i k) (onFn v x'):=fun k=>by
 cases v<;>first |rfl |exact h' _ k
theorem onStr{v:V}{m':List Nat->(β->St->Rz)->Rz}{x':List Nat->Option (β×St)}(h':∀ i,Sim (m' i) (x' i)):Sim (fun k=>NX v fun i=>m' i k) (onStr v x'):=fun k=>by
 cases v<;>first |rfl |exact h' _ k
theorem onInt{v:V}{m':Int->(β->St->Rz)->Rz}{x':Int->Option (β×St)}(h':∀ i,Sim (m' i) (x' i)):Sim (fun k=>NY v fun i=>m' i k) (onInt v x'):=fun k=>by
 cases v<;>first |rfl |exact h' _ k
theorem pop{z:Bool}{l:List V}{m':V->List V->(β->St->Rz)->Rz}{x':V->List V->Option (β×St)}(h':∀ i l,Sim (m' i l) (x' i l)):Sim (fun k=>IS z l fun i l=>m' i l k) (Mine.bo (Zy z l) fun p=>x' p.1 p.2):=fun k=>by
 cases z with
 |true=>cases l with
  |nil=>rfl
  |cons y l =>
   show sem (Rz.g (Nat.blt l.length JB) _)=bn (Mine.bo (Mine.gd (Nat.blt l.length JB) (some (y,l))) _) _
   generalize Nat.blt l.length JB=q
   cases q
   ·rfl
   ·exact h' _ _ k
 |false =>
  show sem (Rz.g (Nat.ble l.length JB) (boK l.getLast? _))=bn (Mine.bo (Mine.gd (Nat.ble l.length JB) (Mine.bo l.getLast? fun y=>some (y,l.dropLast))) _) _
  generalize Nat.ble l.length JB=q
  generalize l.getLast?=o
  cases q
  ·rfl
  ·cases o
   ·rfl
   ·exact h' _ _ k
theorem if1{c:Bool}{mt mf:(β->St->Rz)->Rz}{xt xf:Option (β×St)}(hf:Sim mf xf)(ht:Sim mt xt):Sim (fun k=>ifK c (mt k) (mf k)) (match c with |false=>xf |true=>xt):=fun k=>by
 cases c
 ·exact hf k
 ·exact ht k
theorem if2{c:Bool}{mt mf:(β->St->Rz)->Rz}{xt xf:Option (β×St)}(ht:Sim mt xt)(hf:Sim mf xf):Sim (fun k=>ifK c (mt k) (mf k)) (match c with |true=>xt |false=>xf):=fun k=>by
 cases c
 ·exact hf k
 ·exact ht k
theorem sq{f:FL}{go:(FL->St->Rz)->Rz}{x:Option (FL×St)}(h:Sim go x):Sim (fun k=>HS f (go k) fun f=>k f U) (YM f x U):=fun k=>by
 cases f<;>first |exact h k |rfl
end Sim
section
variable(m:Bool)(C:Ora)
theorem J0(e:ME):∀ U,Sim (evK m C e U) (ev C e U):=
 ME.rec (motive_1:=fun e=>∀ U,Sim (evK m C e U) (ev C e U)) (motive_2:=fun l=>∀ U,Sim (evsK m C l U) (evs C l U))
  (fun J J=>.pure) (fun J J=>.lo fun J=>.pure) (fun J J=>.pure)
  (fun J J J h U=>.bind (h U) fun J J=>.onInst fun J J=>.bo fun J=>.pure)
  (fun J J J J h U=>.bind (h U) fun J J=>.onInst fun J J=>.no .pure)
  (fun J J J J h U=>.bind (h U) fun J J=>.onInst fun J J=>.no .pure)
  (fun J J h U=>.bind (h U) fun J J=>.ac)
  (fun J J J J J h h' U=>.bind (h U) fun J J=>.onInst fun J J=>.no (.bind (h' _) fun J J=>.ac))
  (fun J J J J h h' U=>.bind (h U) fun J J=>.onInst fun J J=>.bo fun J=>.onMeth fun J J=>.bind (h' _) fun J J=>.ac)
  (fun J J J J h U=>.bind (h U) fun J J=>.bind .ac fun J J=>.bind .ac fun J J=>.gd .pure)
  (fun J J h U=>.bind (h U) fun J J=>.av fun J=>.pure)
  (fun J J J h h' U=>.bind (h U) fun J J=>.onStr fun J=>.bind (h' _) fun J J=>.av fun J=>.pure)
  (fun J J h h' U=>.bind (h U) fun J J=>.onList fun J J=>.bind (h' _) fun J J=>.onList fun J J=>.gd .pure)
  (fun J J h J U=>.bind (h U) fun J J=>.onList fun J J=>.bo fun J=>.pop fun J J=>.pure)
  (fun J J J h h' U=>.bind (h U) fun J J=>.bind (h' _) fun J J=>.ab fun J=>.pure)
  (fun J J J J J h h' h'' U=>.bind (h U) fun J J=>.bind (h' _) fun J J=>.ab fun J=>.if1 .pure (.bind (h'' _) fun J J=>.ab fun J=>.pure))
  (fun J J J h h' U=>.bind (h U) fun J J=>.bind (h' _) fun J J=>.av fun J=>.pure)
  (fun J h U=>.bind (h U) fun J J=>.onInt fun J=>.pure)
  (fun J h U=>.bind (h U) fun J J=>.ab fun J=>.pure)
  (fun J J h h' U=>.bind (h U) fun J J=>.ab fun J=>.if1 .pure (h' _))
  (fun J J h h' U=>.bind (h U) fun J J=>.ab fun J=>.if2 .pure (h' _))
  (fun J J J h h' h'' U=>.bind (h U) fun J J=>.ab fun J=>.if2 (h' _) (h'' _))
  (fun J J h h' U=>.bind (h U) fun J J=>.bind (h' _) fun J J=>.av fun J=>.pure)
  (fun J J J h h' h'' U=>.bind (h U) fun J J=>.bind (h' _) fun J J=>.bind (h'' _) fun J J=>.av fun J=>.pure)
  (fun J J h U=>.bind (h U) fun J J=>.ac)
  (fun J h U=>.bind (h U) fun J J=>.pure)
  (fun J J J h U=>.bind (h U) fun J J=>.gd .ac)
  (fun J J J J J h J U=>.bind (h U) fun J J=>.ai fun J=>.gd (.bind .al fun J J=>.pure))
  (fun J h U=>.bind (h U) fun J J=>.bo fun J=>.pure)
  (fun J J J h U=>.bind (h U) fun J J=>.onFn fun J=>.pure)
  (fun J J J J h h' U=>.bind (h U) fun J J=>.onFn fun J=>.bind (h' _) fun J J=>.ac)
  (fun J J J h h' U=>.bind (h U) fun J J=>.bind (h' _) fun J J=>.onFn fun J=>.bind .ac fun J J=>.bo fun J=>.pure)
  (fun J=>.pure) (fun J J h h' U=>.bind (h U) fun J J=>.bind (h' _) fun J J=>.pure) e
theorem Kr(e:ME)(U:St):Sim (W9 m C e U) (tst C e U):=.bind (J0 m C e U) fun J J=>.ab fun J=>.pure
theorem NB(l:List MS):∀ U,Sim (exsK m C l U) (exs C l U):=
 MS.rec_1 (motive_1:=fun e=>∀ U,Sim (Ig m C e U) (exc C e U)) (motive_2:=fun l=>∀ U,Sim (exsK m C l U) (exs C l U))
  (fun e U=>.bind (J0 m C e U) fun J J=>.gd .pure) (fun J e U=>.bind (J0 m C e U) fun J J=>.pure)
  (fun t J J e U=>.bind (J0 m C e U) fun J J=>.bind (J0 m C t _) fun J J=>.sa fun J=>.pure)
  (fun t i e U=>.bind (J0 m C e U) fun J J=>.bind (J0 m C t _) fun J J=>.bind (J0 m C i _) fun J J=>.si fun J=>.pure)
  (fun J e U=>.bind (J0 m C e U) fun J J=>.bo fun J=>.bo fun J=>.pure)
  (fun t J J t' J J e U=>.bind (J0 m C e U) fun J J=>.bo fun J=>.bind (J0 m C t _) fun J J=>.sa fun J=>.bind (J0 m C t' _) fun J J=>.sa fun J=>.pure)
  (fun J J e U=>.lo fun J=>.bind (J0 m C e U) fun J J=>.bind .iop fun J J=>.pure)
  (fun t J J J e U=>.bind (J0 m C t U) fun J J=>.onInst fun J J=>.bo fun J=>.bind (J0 m C e _) fun J J=>.bind .iop fun J J=>.sa fun J=>.pure)
  (fun t i J e U=>.bind (J0 m C t U) fun J J=>.bind (J0 m C i _) fun J J=>.av fun J=>.bind (J0 m C e _) fun J J=>.bind .iop fun J J=>.si fun J=>.pure)
  (fun t J J h h' U=>.bind (Kr m C t U) fun J J=>.if2 (h _) (h' _))
  (fun J J J J=>.af)
  (fun J it J J U=>.bind (J0 m C it U) fun J J=>.ai fun J=>.af)
  (fun J it J J U=>.bind (J0 m C it U) fun J J=>.ai fun J=>.af)
  (fun e U=>.bind (J0 m C e U) fun J J=>.pure)
  (fun J=>.pure) (fun J=>.pure) (fun J=>.pure)
  (fun e U=>.bind (Kr m C e U) fun J J=>.gd .pure) (fun J J=>rfl) (fun J h U=>h U)
  (fun J=>.pure) (fun J J h h' U=>.bind (h U) fun J J=>.sq (h' _)) l
end
noncomputable def fw:Nat->Rz->Rz
 |0=>fun r=>r
 |n+1=>fun r=>match r with
  |.done f U=>.done f U
  |.fail=>.fail
  |.v x k=>boK x fun a=>fw n (k a)
  |.b x k=>boK x fun a=>fw n (k a)
  |.o x k=>boK x fun a=>fw n (k a)
  |.c x k=>boK x fun p=>fw n (k p.1 p.2)
  |.f x k=>boK x fun p=>fw n (k p.1 p.2)
  |.l x k=>boK x fun p=>fw n (k p.1 p.2)
  |.g b r=>(match b with
   |true=>fw n r
   |false=>.fail)
def hi{α:Type}:Option α:=(fun J:Rz=>none) (exsK true (fun J J J=>none) [] {} .done)
def Rz.gv:Rz->Option V |.v x _=>x |_=>hi
def Rz.gb:Rz->Option Bool |.b x k=>x |_=>hi
def Rz.go:Rz->Option Ob |.o x k=>x |_=>hi
def Rz.gc:Rz->Option (V×St) |.c x _=>x |_=>hi
def Rz.gf:Rz->Option (FL×St) |.f x _=>x |_=>hi
def Rz.gl:Rz->Option (List V×St) |.l x _=>x |_=>hi
def Rz.gg:Rz->Bool |.g x _=>x |_=>(hi:Option Unit).isSome
noncomputable def Rz.ov(r:Rz)(a:V):Rz:=match r with |.v _ k=>k a |_=>.fail
noncomputable def Rz.obo(r:Rz)(a:Bool):Rz:=match r with |.b _ k=>k a |_=>.fail
noncomputable def Rz.oo(r:Rz)(a:Ob):Rz:=match r with |.o _ k=>k a |_=>.fail
noncomputable def Rz.oc(r:Rz)(a:V)(U:St):Rz:=match r with |.c _ k=>k a U |_=>.fail
noncomputable def Rz.of(r:Rz)(a:FL)(U:St):Rz:=match r with |.f _ k=>k a U |_=>.fail
noncomputable def Rz.ol(r:Rz)(a:List V)(U:St):Rz:=match r with |.l _ k=>k a U |_=>.fail
noncomputable def Rz.og(r:Rz):Rz:=match r with |.g _ r=>r |_=>.fail
def JC{β:Type}(r:Rz)(G:FL->St->Option β)(z:β):Prop:=bn (sem r) G=some z
noncomputable def Rz.out{β:Type}(g:FL->St->Option β):Rz->Option β |.done x U=>g x U |_=>none
def Zx(f:FL)(U:St):Option (V×List (Id×Ob)×Nat×List Nat):=bo (QY f) fun v=>some (v,U.hp,U.nx,U.ps)
noncomputable def YX(f:FL)(U:St):Option (FL×St):=some (f,U)
namespace JC
variable{r:Rz}{β:Type}{G:FL->St->Option β}{z:β}
theorem fwE:∀ (n:Nat) (r:Rz),sem (Mine.fw n r)=sem r:=fun l0=>by
 induction l0 with
 |zero =>
  exact fun J=>rfl
 |succ n ih =>
  intro r
  cases r with
  |done _ _=>rfl
  |fail=>rfl
  |v x k=>cases x<;>first |rfl |exact ih (k _)
  |b x k=>cases x<;>first |rfl |exact ih (k _)
  |o x k=>cases x<;>first |rfl |exact ih (k _)
  |c x k=>cases x<;>first |rfl |exact ih (k _ _)
  |f x k=>cases x<;>first |rfl |exact ih (k _ _)
  |l x k=>cases x<;>first |rfl |exact ih (k _ _)
  |g x k=>cases x<;>first |rfl |exact ih k
theorem fw{n:Nat}{r:Rz}(h:JC (Mine.fw n r) G z):JC r G z:=(congrArg (bn · G) (fwE n r)).symm.trans h
theorem done(n:Nat)(e:(Mine.fw n r).out G=some z:=by kernel_rfl):JC r G z:=fw (n:=n) (by
 generalize Mine.fw n r=q at e
 cases q<;>first |exact nn e |exact e)
theorem v{X:Option V}{a:V}(n:Nat)(h:X=some a)(k:JC ((Mine.fw n r).ov a) G z)(e:(Mine.fw n r).gv=X:=by kernel_rfl):JC r G z:=fw (n:=n) (by
 generalize Mine.fw n r=q at e k
 have e:=e.trans h
 cases q<;>first |exact nn e |(cases (show _=some a from e);exact k))
theorem b{X:Option Bool}{a:Bool}(n:Nat)(h:X=some a)(k:JC ((Mine.fw n r).obo a) G z)(e:(Mine.fw n r).gb=X:=by kernel_rfl):JC r G z:=fw (n:=n) (by
 generalize Mine.fw n r=q at e k
 have e:=e.trans h
 cases q<;>first |exact nn e |(cases (show _=some a from e);exact k))
theorem o{X:Option Ob}{a:Ob}(n:Nat)(h:X=some a)(k:JC ((Mine.fw n r).oo a) G z)(e:(Mine.fw n r).go=X:=by kernel_rfl):JC r G z:=fw (n:=n) (by
 generalize Mine.fw n r=q at e k
 have e:=e.trans h
 cases q<;>first |exact nn e |(cases (show _=some a from e);exact k))
theorem c{X:Option (V×St)}{a:V}{τ:St}(n:Nat)(h:X=some (a,τ))(k:JC ((Mine.fw n r).oc a τ) G z)(e:(Mine.fw n r).gc=X:=by kernel_rfl):JC r G z:=fw (n:=n) (by
 generalize Mine.fw n r=q at e k
 have e:=e.trans h
 cases q<;>first |exact nn e |(cases (show _=some (a,τ) from e);exact k))
theorem fl{X:Option (FL×St)}{a:FL}{τ:St}(n:Nat)(h:X=some (a,τ))(k:JC ((Mine.fw n r).of a τ) G z)(e:(Mine.fw n r).gf=X:=by kernel_rfl):JC r G z:=fw (n:=n) (by
 generalize Mine.fw n r=q at e k
 have e:=e.trans h
 cases q<;>first |exact nn e |(cases (show _=some (a,τ) from e);exact k))
theorem l{X:Option (List V×St)}{a:List V}{τ:St}(n:Nat)(h:X=some (a,τ))(k:JC ((Mine.fw n r).ol a τ) G z)(e:(Mine.fw n r).gl=X:=by kernel_rfl):JC r G z:=fw (n:=n) (by
 generalize Mine.fw n r=q at e k
 have e:=e.trans h
 cases q<;>first |exact nn e |(cases (show _=some (a,τ) from e);exact k))
theorem g{X:Bool}(n:Nat)(h:X=true)(k:JC (Mine.fw n r).og G z)(e:(Mine.fw n r).gg=X:=by kernel_rfl):JC r G z:=fw (n:=n) (by
 generalize Mine.fw n r=q at e k
 have e:=e.trans h
 cases q<;>first |exact ff e |(cases (show _=true from e);exact k))
theorem exsM{m:Bool}{C:Ora}{l:List MS}{τ:St}{f:FL}{U:St}(h:JC (exsK m C l τ .done) YX (f,U)):exs C l τ=some (f,U):=by
 have h':=(congrArg (bn · YX) (NB m C l τ .done)).symm.trans h
 generalize Mine.exs C l τ=x at h'
 cases x with
 |none=>exact nn h'
 |some p=>exact h'
theorem exs{C:Ora}{l:List MS}{τ:St}{f:FL}{U:St}(h:JC (exsK false C l τ .done) YX (f,U)):Mine.exs C l τ=some (f,U):=exsM h
theorem exs'{C:Ora}{l:List MS}{τ:St}{f:FL}{U:St}(h:JC (exsK true C l τ .done) YX (f,U)):Mine.exs C l τ=some (f,U):=exsM h
theorem exc'{C:Ora}{s:MS}{τ:St}{f:FL}{U:St}(h:JC (exsK false C [s] τ .done) YX (f,U)):Mine.exc C s τ=some (f,U):=by
 have h:bn (Mine.exc C s τ) (fun f U1a=>YM f (some (.next,U1a)) U1a)=some (f,U):=exsM h
 generalize Mine.exc C s τ=x at h
 cases x with
 |none=>exact nn h
 |some p =>
  obtain⟨g,τ'⟩:=p
  cases g<;>exact h
end JC
noncomputable def Zv(f:FL)(U:St):Option (Bool×St):=match f with
 |.ret (.bool b)=>some (b,U)
 |_=>none
noncomputable def evG(f:FL)(U:St):Option (V×St):=match f with
 |.ret v=>some (v,U)
 |_=>none
theorem JC.tstM{m:Bool}{C:Ora}{e:ME}{U τ:St}{b:Bool}(h:JC (W9 m C e U fun b τ=>.done (.ret (.bool b)) τ) Zv (b,τ)):tst C e U=some (b,τ):=by
 have h':=(congrArg (bn · Zv) (Kr m C e U _)).symm.trans h
 generalize Mine.tst C e U=x at h'
 cases x with
 |none=>exact nn h'
 |some p=>exact h'
theorem JC.evM{m:Bool}{C:Ora}{e:ME}{U τ:St}{v:V}(h:JC (evK m C e U fun v τ=>.done (.ret v) τ) evG (v,τ)):ev C e U=some (v,τ):=by
 have h':=(congrArg (bn · evG) (J0 m C e U _)).symm.trans h
 generalize Mine.ev C e U=x at h'
 cases x with
 |none=>exact nn h'
 |some p=>exact h'
theorem JC.tst{C:Ora}{e:ME}{U τ:St}{b:Bool}(h:JC (W9 false C e U fun b τ=>.done (.ret (.bool b)) τ) Zv (b,τ)):Mine.tst C e U=some (b,τ):=tstM h
theorem JC.tst'{C:Ora}{e:ME}{U τ:St}{b:Bool}(h:JC (W9 true C e U fun b τ=>.done (.ret (.bool b)) τ) Zv (b,τ)):Mine.tst C e U=some (b,τ):=tstM h
theorem JC.ev{C:Ora}{e:ME}{U τ:St}{v:V}(h:JC (evK false C e U fun v τ=>.done (.ret v) τ) evG (v,τ)):Mine.ev C e U=some (v,τ):=evM h
def ZB(q:Bool)(C:Ora)(m:MFun)(vs:List V)(τ:St):Rz:=boK (m.args vs) fun as=>exsK q C m.body ⟨m.ps.zip as,τ.hp,τ.nx,τ.ps⟩ .done
section
variable{q:Bool}{C:Ora}{m:MFun}{vs:List V}{τ:St}{v:V}{hp:List (Id×Ob)}{nx:Nat}{ps:List Nat}{T:Nat->Option MFun}{n f:Nat}
theorem ZJ4(h:JC (ZB q C m vs τ) Zx (v,hp,nx,ps)):Qx C m vs τ=some (v,⟨τ.loc,hp,nx,ps⟩):=by
 unfold ZB at h
 show bo (m.args vs) _=_
 generalize m.args vs=as at h
 cases as with
 |none=>exact nn h
 |some as =>
  show bn (exs C m.body ⟨m.ps.zip as,τ.hp,τ.nx,τ.ps⟩) _=_
  have h:=(congrArg (bn · Zx) (NB q C m.body ⟨m.ps.zip as,τ.hp,τ.nx,τ.ps⟩ .done)).symm.trans h
  generalize exs C m.body ⟨m.ps.zip as,τ.hp,τ.nx,τ.ps⟩=x at h
  cases x with
  |none=>exact nn h
  |some p =>
   show bo (QY p.1) _=_
   have h:bo (QY p.1) (fun v=>some (v,p.2.hp,p.2.nx,p.2.ps))=some (v,hp,nx,ps):=h
   generalize QY p.1=q at h
   cases q with
   |none=>exact nn h
   |some w=>cases h;rfl
def NQ(q:Bool)(T:Nat->Option MFun)(n f:Nat)(vs:List V)(τ:St):Rz:=boK (T f) fun m=>ZB q (JH T n) m vs τ
theorem ZHz(h:JC (NQ q T n f vs τ) Zx (v,hp,nx,ps)):JH T (n+1) f vs τ=some (v,⟨τ.loc,hp,nx,ps⟩):=by
 unfold NQ at h
 show bo (T f) _=_
 generalize T f=m at h
 cases m with
 |none=>exact nn h
 |some m=>exact ZJ4 h
theorem J7(h:JC (NQ false T n f vs τ) Zx (v,hp,nx,ps)):JH T (n+1) f vs τ=some (v,⟨τ.loc,hp,nx,ps⟩):=ZHz h
end
end Mine
end
noncomputable section
open PySem PySem.Calls PyProof.Rows PySem.W
namespace Mine
def QR(ids:List Id)(hp:List (Id×Ob)):List (Id×Ob):=ids.foldr (fun i r=>match JA hp i with
 |some o=>(i,o)::r
 |none=>r) (hp.filter fun p=>!(ids.any (·==p.1)))
def hpN(ids:List Id)(n:Nat)(hp:List (Id×Ob)):List (Id×Ob):=QR ids (hp.filter fun p=>Uc n p.1)
def Wf(ids:List Id)(n:Nat)(v:Mine.V)(U:St):Bool:=J1 n U.loc&&(Ud n (hpN ids n U.hp)&&V.blw n v)
def X7(ids:List Id)(C:Ora):Ora:=fun f vs U=>bn (C f vs ⟨U.loc,QR ids U.hp,U.nx,U.ps⟩) fun v U'=>gd (Wf ids U.nx v U') (some (v,⟨U'.loc,hpN ids U.nx U'.hp,U.nx,U'.ps⟩))
def WX(T:Nat->Option MFun)(C:Ora):Ora:=fun f vs U=>bo (T f) fun m=>Qx C m vs U
theorem BH(q:Id->Bool)(i:Id)(o:Ob):∀ hp:List (Id×Ob),JA (hp.filter fun p=>q p.1) i=some o->JA hp i=some o/\q i=true:=fun l0=>by
 induction l0 with
 |nil =>
  exact fun h=>nn h
 |cons p0 l ih =>
  obtain⟨j,w⟩:=p0
  intro h
  by_cases e:q j=true
  ·have h:=(congrArg (JA · i) (List.filter_cons_of_pos (p:=fun p=>q p.1) (a:=(j,w)) (l:=l) e)).symm.trans h
   by_cases k:j=i
   ·exact⟨(if_pos k).trans ((if_pos k).symm.trans h),k▸e⟩
   ·exact(ih ((if_neg k).symm.trans h)).imp (fun z=>(if_neg k).trans z) id
  ·have h:=(congrArg (JA · i) (List.filter_cons_of_neg (p:=fun p=>q p.1) (a:=(j,w)) (l:=l) e)).symm.trans h
   have z:=ih h
   exact⟨(if_neg fun k:j=i=>e (k▸z.2)).trans z.1,z.2⟩
theorem BT{ids:List Id}{hp:List (Id×Ob)}{i:Id}{o:Ob}(h:JA (QR ids hp) i=some o):JA hp i=some o:=by
 unfold QR at h
 have key:∀ l:List Id,JA (l.foldr (fun i r=>match JA hp i with
  |some o=>(i,o)::r
  |none=>r) (hp.filter fun p=>!(ids.any (·==p.1)))) i=some o->JA hp i=some o:=fun l=>by
  induction l with
  |nil=>exact fun h=>(BH (fun j=>!(ids.any (·==j))) i o hp h).1
  |cons j l ih =>
   intro h
   have h:JA (match JA hp j with
    |some o=>(j,o)::l.foldr (fun i r=>match JA hp i with
     |some o=>(i,o)::r
     |none=>r) (hp.filter fun p=>!(ids.any (·==p.1)))
    |none=>l.foldr (fun i r=>match JA hp i with
     |some o=>(i,o)::r
     |none=>r) (hp.filter fun p=>!(ids.any (·==p.1)))) i=some o:=h
   cases e:JA hp j with
   |none=>rw[e] at h;exact ih h
   |some w =>
    rw[e] at h
    by_cases k:j=i
    ·cases (if_pos k).symm.trans h
     exact k▸e
    ·exact ih ((if_neg k).symm.trans h)
 exact key ids h
section
variable{c:Cx}{r:Nat}{C:Ora}{ids:List Id}
theorem B5(H:JO c r C):JO c r (X7 ids C):=fun J U J J J J J J J J J J hr VV hf R X N=>bnE hf fun v U' h1 h2=>gdE h2 fun h3 h4=>bA h3 fun b1 h3=>bA h3 fun b2 b3=>by
 cases h4
 exact H hr VV h1 (U:=⟨U.loc,QR ids U.hp,U.nx,U.ps⟩) (R.sub (fun J J e=>e) (fun J J e=>BT e) (qF _) fun J e=>e) X fun x s' g' R' X' E' =>
  N x s' _ (R'.clean (n:=U.nx) ⟨fun J J e=>e,fun i o e=>(BH (Uc U.nx) i o _ (BT e)).1,b1,b2,rfl,fun J e=>e⟩) (VR.clean X' b3) (Ext.clean R E')
theorem Kc(O:c.Ok){T:Nat->Option MFun}(HT:∀ f m,T f=some m->U3 c f m=true)(H:JO c r C):JO c (r+2) (WX T C):=fun J J J J J J J J J J J J hr VV hf R X N=>boE hf fun m h1 h2=>Bo O H (HT _ _ h1) hr h2 R X N
theorem Kw{f n:Nat}{vs:List Mine.V}{L:List (Nat×Mine.V)}{hp hp' hp1 hp2a:List (Id×Ob)}{nx':Nat}{P P':List Nat}{v:Mine.V}(h:C f vs ⟨L,hp',n,P⟩=some (v,⟨L,hp1,nx',P'⟩))(hb:Wf ids n v ⟨L,hp1,nx',P'⟩=true)
  (e:QR ids hp=hp':=by kernel_rfl) (e':hpN ids n hp1=hp2a:=by kernel_rfl):X7 ids C f vs ⟨L,hp,n,P⟩=some (v,⟨L,hp2a,n,P'⟩):=by
 subst e e'
 show bn (C f vs ⟨L,QR ids hp,n,P⟩) _=_
 rw[h]
 show gd (Wf ids n v ⟨L,hp1,nx',P'⟩) _=_
 rw[hb]
 rfl
end
noncomputable def YJ(h:Heap):Frag:=(List.range h.objs.size).filterMap fun a=>(h.get? a).map fun o=>(a,o)
theorem ZGJ{f:Nat->Option Obj}:∀ {l:List Nat} {a:Nat} {o:Obj},(l.filterMap fun a=>(f a).map fun o=>(a,o)).lookup a=some o->f a=some o:=by
 intro l0
 induction l0 with
 |nil =>
  intro _ _ h
  cases h
 |cons b l ih =>
  intro a o h
  rw[List.filterMap_cons] at h
  cases hb:f b with
  |none=>rw[hb] at h;exact ih h
  |some q =>
   rw[hb] at h
   rw[Option.map_some,List.lookup_cons] at h
   cases e:a==b with
   |true =>
    rw[e] at h
    cases h
    rw[beq_iff_eq.mp e];exact hb
   |false =>
    rw[e] at h
    exact ih h
theorem ZGK{f:Nat->Option Obj}:∀ {l:List Nat} {a:Nat} {o:Obj},a∈l->f a=some o->(l.filterMap fun a=>(f a).map fun o=>(a,o)).lookup a=some o:=by
 intro l0
 induction l0 with
 |nil =>
  intro _ _ h _
  cases h
 |cons b l ih =>
  intro a o h e
  rw[List.filterMap_cons]
  by_cases q:a=b
  ·subst q
   rw[e]
   simp
  ·have hm:=ih ((List.mem_cons.mp h).resolve_left q) e
   cases hb:f b with
   |none=>exact hm
   |some w =>
    simp only[Option.map_some,List.lookup_cons]
    rw[beq_false_of_ne q]
    exact hm
theorem ZHF{K:Frag}{h:Heap}(X:K.In h):Frag.In (K++YJ h) h:=fun a o e=>by
 rw[List.lookup_append] at e
 cases hk:K.lookup a with
 |some q=>rw[hk] at e;cases e;exact X _ _ hk
 |none=>rw[hk] at e;exact ZGJ e
theorem ZEi{K:Frag}{h:Heap}(X:K.In h){a:Addr}{o:Obj}(e:h.get? a=some o):(K++YJ h).lookup a=some o:=by
 rw[List.lookup_append]
 cases hk:K.lookup a with
 |some q=>rw[X _ _ hk] at e;cases e;rfl
 |none=>exact ZGK (List.mem_range.mpr (xP e)) e
theorem ZDL{K:Frag}{h:Heap}(H:∀ a o,h.get? a=some o->K.lookup a=some o){a:Addr}{m:Str->Option Value}{x:Str}{v:Value}(N:h.Ns a m)(hm:m x=some v):nsIn K a x=some (some v):=by
 obtain⟨o,es,ep,ho,hd,_,hf⟩:=N
 have hf:=hf x
 rw[hm] at hf
 obtain⟨oc,od,dat,sl⟩:=o
 cases hd
 unfold nsIn
 rw[H _ _ ho]
 dsimp only
 delta nsFind findBy at hf;dsimp only at hf
 rw[<- Array.find?_toList] at hf
 cases hq:es.toList.find? fun e=>e.key.isStr x with
 |none=>rw[hq] at hf;cases hf
 |some e=>rw[hq] at hf;dsimp only;rw[Option.map_some] at hf;cases hf;rfl
theorem ZJB{K:Frag}{h:Heap}(H:∀ a o,h.get? a=some o->K.lookup a=some o){m:Str->Option Value}(N:h.Ns builtinsNs m)(hm:∀ x:Str,x≠"__name__"->m x=bootBuiltins x):∀ p∈YI,nsIn K builtinsNs p.1=some (some p.2):=by
 intro p hp
 refine ZDL H N ?_
 have key:∀ p∈YI,p.1≠("__name__":Str)/\bootBuiltins p.1=some p.2:=by decide +kernel
 obtain⟨h1,h2⟩:=key p hp
 rw[hm _ h1,h2]
def wP(P:Params)(h:Heap)(v:Value):WData->Prop
 |.int i=>∃ t,v=.int i t
 |.list xs=>∃ a vs,v=.ref a/\h.get? a=some { cls:=.type "list",data:=.seq vs.toArray }/\WellAll P h vs xs
 |_=>True
set_option tactic.hygienic true in
theorem HE{P:Params}{h:Heap}{v:Value}{d:WData}(W:Well P h v d):wP P h v d:=by
 cases W
 case int=>exact⟨_,rfl⟩
 case list h1 h2=>exact⟨_,_,rfl,h1,h2⟩
 all_goals exact trivial
theorem T6{P:Params}{h:Heap}:∀ {ns:List Int} {vs:List Value},WellAll P h vs (ofPys (ns.map PyData.int))->∀ (c:Cx) (F:Addr->Obj->Prop) (ρ:Id->Option Addr),VRs c F ρ (ns.map Mine.V.int) vs:=by
 intro l0
 induction l0 with
 |nil =>
  intro vs W c F ρ
  have W:WellAll P h vs []:=W
  cases W
  exact .nil
 |cons n ns ih =>
  intro vs W c F ρ
  have W:WellAll P h vs (.int n::ofPys (ns.map PyData.int)):=W
  cases W with
  |cons w1 w2 =>
   obtain⟨t,rfl⟩:=(show ∃ t,_=Value.int n t from HE w1)
   exact .cons (.int _ _) (ih w2 c F ρ)
theorem T5{P:Params}{h:Heap}{a:Addr}{ns:List Int}(W:Well P h (.ref a) (ofPy (.list (ns.map PyData.int)))):
  ∃ vs:List Value,h.get? a=some { cls:=.type "list",data:=.seq vs.toArray }/\∀ (c:Cx) (F:Addr->Obj->Prop) (ρ:Id->Option Addr),VRs c F ρ (ns.map Mine.V.int) vs:=by
 obtain⟨a',vs,e,h1,h2⟩:=(show ∃ a' vs,Value.ref a=.ref a'/\h.get? a'=some { cls:=.type "list",data:=.seq vs.toArray }/\WellAll P h vs (ofPys (ns.map PyData.int)) from HE W)
 exact⟨vs,Value.ref.inj e▸h1,T6 h2⟩
noncomputable def g0:Gh:=⟨fun J=>False,fun J=>False,fun J=>none⟩
theorem ZA6{c:Cx}{env:Env}{s:Shared}{h0a:Heap}{L:Addr}{m:Str->Option Value}{y:Nat}{v:Mine.V}{x:Value}(hk:∀ a o,c.K.lookup a=some o->h0a.get? a=some o)(F:Fr h0a L s.heap m)(hL:env.locals=L)(hm:m (c.nm y)=some x)
  (hl:env.kindOf (c.nm y)=some .local) (hv:∀ F ρ,(∀ a o,c.K.lookup a=some o->F a o)->VR c F ρ v x) (ht:0<s.toks):Rel c env g0 ⟨[(y,v)],[],0,[]⟩ s:=by
 have kin:∀ a o,c.K.lookup a=some o->Fz env g0 s.heap a o:=fun a o e =>
  ⟨F.keep _ _ (hk a o e),fun w=>w,fun w=>w,fun w=>absurd (xP (hk a o e)) (Nat.not_lt_of_le (by rw[show a=L from (show a=env.locals from w).trans hL];exact F.above))⟩
 refine⟨⟨kin,fun a w=>w.elim,fun a w=>w.elim,fun a w=>?_,fun a w=>w.elim,⟨m,hL▸F.ns,fun n v' e=>?_⟩,fun i o e=>?_,(fun i r o e=>nomatch e),(fun i j r o q e=>nomatch e),fun J J=>rfl,fun J J=>rfl⟩,ht⟩
 ·obtain⟨o,_,_,ho,_⟩:=F.ns
  exact⟨o,by rw[show a=env.locals from w,hL];exact ho⟩
 ·rw[UH] at e
  by_cases q:y=n
  ·subst q
   rw[if_pos rfl] at e
   cases e
   exact⟨fun J=>⟨x,hm,hv _ _ kin⟩,fun q=>by rw[hl] at q;cases q⟩
  ·rw[if_neg q] at e;cases e
 ·cases e
theorem OU{n m:Nat}{α:Type}{k:n=m->Option α}{w:α}{P:Prop}(h:dite (n=m) k (fun J=>none)=some w)(f:n=m->P):P:=by
 by_cases q:n=m
 ·exact f q
 ·exact nn ((dif_neg q).symm.trans h)
noncomputable def Ko(s:Stmt):Option (Expr×List Stmt×List Stmt×Pos):=dite _ (fun h=>Stmt.While.elim (motive_2:=fun J=>Option (Expr×List Stmt×List Stmt×Pos)) s h fun t b o p=>some (t,b,o,p)) fun J=>none
theorem ZAt{s:Stmt}{w:Expr×List Stmt×List Stmt×Pos}(h:Ko s=some w):s=.While w.1 w.2.1 w.2.2.1 w.2.2.2:=by
 exact OU h fun q=>Stmt.While.elim (motive_2:=fun s=>Ko s=some w->s=.While w.1 w.2.1 w.2.2.1 w.2.2.2) s q (fun J J J J h=>by cases h;rfl) h
noncomputable def Ng(s:Stmt):Option (Expr×Pos):=dite _ (fun h=>Stmt.Expr.elim (motive_2:=fun J=>Option (Expr×Pos)) s h fun e p=>some (e,p)) fun J=>none
theorem ZCG{s:Stmt}{w:Expr×Pos}(h:Ng s=some w):s=.Expr w.1 w.2:=by
 exact OU h fun q=>Stmt.Expr.elim (motive_2:=fun s=>Ng s=some w->s=.Expr w.1 w.2) s q (fun J J h=>by cases h;rfl) h
noncomputable def Kl(e:Expr):Option (Option Expr×Pos):=dite _ (fun h=>Expr.Yield.elim (motive_1:=fun J=>Option (Option Expr×Pos)) e h fun v p=>some (v,p)) fun J=>none
theorem ZAr{e:Expr}{w:Option Expr×Pos}(h:Kl e=some w):e=.Yield w.1 w.2:=by
 exact OU h fun q=>Expr.Yield.elim (motive_1:=fun e=>Kl e=some w->e=.Yield w.1 w.2) e q (fun J J h=>by cases h;rfl) h
noncomputable def Oi{α:Type}(l:List α):Option α:=match l with
 |[]=>none
 |a::r=>(match r with
  |[]=>some a
  |_::_=>none)
theorem Gj{α:Type}{l:List α}{a:α}(h:Oi l=some a):l=[a]:=by
 cases l with
 |nil=>exact nn h
 |cons b r=>cases r<;>first |exact nn h |(cases h;rfl)
def Oc{α:Type}(l:List α):Option (α×α):=match l with
 |[]=>none
 |a::r=>bo (Oi r) fun b=>some (a,b)
theorem GX{α:Type}{l:List α}{p:α×α}(h:Oc l=some p):l=[p.1,p.2]:=by
 cases l with
 |nil=>exact nn h
 |cons b r=>exact boE h fun c h1 h2=>Option.some.inj h2▸congrArg (b::·) (Gj h1)
def Z1(s:Stmt)(f:Expr->List Stmt->Bool):Bool:=ob (Ko s) fun w=>w.2.2.1.isEmpty&&f w.1 w.2.1
theorem OP{s:Stmt}{f:Expr->List Stmt->Bool}{P:Prop}(h:Z1 s f=true)(k:∀ t b p,s=.While t b [] p->f t b=true->P):P:=
 obE h fun w h1 h=>bA h fun h2 h3=>k _ _ _ (List.isEmpty_iff.mp h2▸ZAt h1) h3
def IX(b:List Stmt)(f:Expr->Bool):Bool:=ob (Oi b) fun s=>ob (Ng s) fun e=>ob (Kl e.1) fun y=>ob y.1 f
theorem ZIH{b:List Stmt}{f:Expr->Bool}{P:Prop}(h:IX b f=true)(k:∀ y p q,b=[.Expr (.Yield (some y) p) q]->f y=true->P):P:=
 obE h fun s h1 h=>obE h fun e h2 h=>obE h fun y h3 h=>obE h fun z h4 h5=>k z y.2 e.2 (by
  rw[Gj h1,ZCG h2,ZAr h3,h4]) h5
def ZIp(c:Cx)(kn:Str->Option NameKind)(m0:MS)(gm:GenM)(body:List Stmt):Bool:=ob (Oc body) fun p=>JX c kn m0 p.1&&Z1 p.2 fun t1 b=>JI c kn gm.t1 t1&&ob (Oc b) fun q=>Z1 q.1 (fun t2 J=>JI c kn gm.t2 t2)&&Z1 q.2 fun t3 b3=>JI c kn gm.t3 t3&&IX b3 fun ye=>JI c kn gm.e ye
def No(c:Cx)(f:Nat)(m0:MS)(gm:GenM):Bool:=ob (c.K.lookup (c.fA f)) fun o=>ob (ZN o) fun fd=>ob (ZS fd) fun body=>NU fd.params&&(codeIn c.K fd.code fd.qualname&&((Jh fd.params.args==[c.nm 0])&&((fd.defaults==.none)&&((fd.scope.kind==.function)&&(fd.scope.isGenerator&&((fd.scope.isCoroutine==false) &&
 ((fd.scope.names.lookup (c.nm 0)==some .local)&&(fd.scope.names.all (fun p=>!(p.2==.cell))&&((fd.globals==mainGlobals)&&((fd.builtins==builtinsNs)&&(fd.closure.isEmpty&&ZIp c (fun x=>fd.scope.names.lookup x) m0 gm body)))))))))))
theorem ZBZ{c:Cx}{r f:Nat}{C:Ora}{m0:MS}{gm:GenM}(O:c.Ok)(HC:JO c r C)(h:No c f m0 gm=true):
  ∃ fd S0 t1 t2 t3 ye b2 p1 p2 p3 yp ep,GenAt c f fd [S0,.While t1 (Qp t2 t3 ye b2 p2 p3 yp ep) [] p1] /\
   ∀ GL,JW c (r+1) (QB fd GL (c.fA f)) S0 (exc C m0)/\Jb c (r+1) (QB fd GL (c.fA f)) t1 (tst C gm.t1)/\Jb c (r+1) (QB fd GL (c.fA f)) t2 (tst C gm.t2)/\Jb c (r+1) (QB fd GL (c.fA f)) t3 (tst C gm.t3)/\JD c (r+1) (QB fd GL (c.fA f)) ye (ev C gm.e):=
 obE h fun o ho h=>obE h fun fd hfd h=>obE h fun body hb h=>bA h fun hp h=>bA h fun h1 h=>bA h fun h2 h=>bA h fun hd h=>bA h fun h3 h=>bA h fun h4 h=>bA h fun h5 h=>bA h fun h6 h=>bA h fun h7 h=>bA h fun h8 h=>bA h fun h9 h=>bA h fun h10 h =>
  obE h fun p hp2 h=>bA h fun k0 h=>OP h fun t1 b p1 e1 h=>bA h fun k1 h=>obE h fun q hq h=>bA h fun g1 g2=>OP g1 fun t2 b2 p2 e2 k2=>OP g2 fun t3 b3 p3 e3 h=>bA h fun k3 h=>ZIH h fun ye yp ep e4 k4=>by
   have e:body=[p.1,.While t1 (Qp t2 t3 ye b2 p2 p3 yp ep) [] p1]:=by rw[GX hp2,e1,GX hq,e2,e3,e4]
   have hnc:∀ p∈fd.scope.names,p.2≠.cell:=fun p hp q=>by
    have:=List.all_eq_true.mp h7 p hp
    rw[q] at this;exact ff this
   obtain⟨oc,od,odat,osl⟩:=o
   cases DE hfd
   refine⟨fd,p.1,t1,t2,t3,ye,b2,p1,p2,p3,yp,ep,⟨⟨_,_,_,ho⟩,h1,(DN hb).trans (congrArg _ e),⟨_,_,B3 hp,bE h2⟩,bE hd,bE h3,h4,bE h5,bE h6,hnc,bE h8,bE h9,List.isEmpty_iff.mp h10⟩,fun GL=>?_⟩
   have VV:EnvOk (QB fd GL (c.fA f)):=⟨bE h3,bE h8,bE h9⟩
   have VC:XZ (QB fd GL (c.fA f)):=fun x hx=>absurd rfl (hnc _ (KJ (show fd.scope.names.lookup x=some .cell from hx)))
   exact⟨QM O HC m0 ⟨VV,VC,fun J=>rfl⟩ k0,(Jg O HC gm.t1 ⟨VV,VC,fun J=>rfl⟩ k1).2,(Jg O HC gm.t2 ⟨VV,VC,fun J=>rfl⟩ k2).2,(Jg O HC gm.t3 ⟨VV,VC,fun J=>rfl⟩ k3).2,(Jg O HC gm.e ⟨VV,VC,fun J=>rfl⟩ k4).1⟩
def UP(k:Nat)(v:Mine.V)(U':St):Option (Mine.V×St):=match JA U'.hp (.p k) with
 |none=>some (v,U')
 |some o=>(match o with
  |.list l=>gd (V.nos (.p k) l) (some (V.sb (.p k) (.list l) v,U'.sb k (.list l)))
  |_=>none)
def YT(k:Nat)(C:Ora):Ora:=fun f vs U=>gd (decide (k∉U.ps)) (bn (C f vs U) (UP k))
noncomputable def Ze(f0:Nat)(C D:Ora):Ora:=fun f=>if f=f0 then C f else D f
section
variable{c:Cx}{r k:Nat}{C D:Ora}
theorem K7(H:JO c r C):JO c r (YT k C):=fun J U J J J J J g s J J J hr VV hf R X N=>gdE hf fun hk h=>bnE h fun v1a U1a h1 h2=>H hr VV h1 R X fun x s' g' R' X' E'=>by
 unfold UP at h2
 cases e:JA U1a.hp (.p k) with
 |none=>rw[e] at h2;cases h2;exact N x s' g' R' X' E'
 |some o =>
  rw[e] at h2
  cases o<;>first |exact nn h2 |skip
  exact gdE h2 fun h3 h4=>by
   cases h4
   obtain⟨R2,hw⟩:=Y1 R' e h3
   exact N x s' _ R2 (VR.sb (fun a o z=>⟨z.1,fun q=>z.2.1 q.1,z.2.2.1,z.2.2.2⟩) (fun j a hj e=>(congrArg (Option.map Prod.fst) (if_neg hj)).trans e) hw X') ⟨fun a o z hq hf=>let w:=E'.fz a o z hq hf;⟨w.1,fun q=>w.2 q.1⟩,fun id p e=>(if_neg fun q:id=.p k=>nn ((R.ps k (qH hk)).symm.trans (q▸e))).trans (E'.cs id p e),E'.X,E'.gens⟩
theorem B4{f0:Nat}(H:JO c r C)(H':JO c r D):JO c r (Ze f0 C D):=fun J U f J J J J g s J J J hr VV hf R X N=>by
 unfold Ze at hf
 by_cases q:f=f0
 ·rw[if_pos q] at hf;exact H hr VV hf R X N
 ·rw[if_neg q] at hf;exact H' hr VV hf R X N
end
def nmT:List (List Nat):=[[115,101,108,102],
 [116,101,120,116],
 [112,108,97,99,101],
 [115,105,122,101],
 [112,97,114,116],
 [99,111,100,101,112,111,105,110,116],
 [115,111,117,114,99,101],
 [114,101,112,111,114,116,67,104,97,114,97,99,116,101,114,69,114,114,111,114,115],
 [99,104,97,114,97,99,116,101,114,69,114,114,111,114,115,85,67,83,52],
 [110,101,119,76,105,110,101,115],
 [100,97,116,97,83,116,114,101,97,109],
 [111,112,101,110,83,116,114,101,97,109],
 [114,101,115,101,116],
 [99,104,117,110,107],
 [99,104,117,110,107,83,105,122,101],
 [99,104,117,110,107,79,102,102,115,101,116],
 [101,114,114,111,114,115],
 [112,114,101,118,78,117,109,76,105,110,101,115],
 [112,114,101,118,78,117,109,67,111,108,115],
 [95,98,117,102,102,101,114,101,100,67,104,97,114,97,99,116,101,114],
 [115,116,114,101,97,109],
 [111,102,102,115,101,116],
 [110,76,105,110,101,115],
 [112,111,115,105,116,105,111,110,76,105,110,101],
 [108,97,115,116,76,105,110,101,80,111,115],
 [112,111,115,105,116,105,111,110,67,111,108,117,109,110],
 [114,101,97,100,67,104,117,110,107],
 [99,104,97,114],
 [95,100,101,102,97,117,108,116,67,104,117,110,107,83,105,122,101],
 [95,112,111,115,105,116,105,111,110],
 wB,
 [114,101,97,100],
 [108,97,115,116,118],
 [99],
 [99,104,97,114,97,99,116,101,114,115],
 [111,112,112,111,115,105,116,101],
 [114,118],
 [101,110,100],
 [114],
 [112,97,114,115,101,114],
 [101,115,99,97,112,101,70,108,97,103],
 [108,97,115,116,70,111,117,114,67,104,97,114,115],
 [115,116,97,116,101],
 [100,97,116,97,83,116,97,116,101],
 [101,115,99,97,112,101],
 [99,117,114,114,101,110,116,84,111,107,101,110],
 [101,110,116,105,116,121,68,97,116,97,83,116,97,116,101],
 [1,47],
 [116,111,107,101,110,81,117,101,117,101],
 [99,104,97,114,115,85,110,116,105,108],
 [99,104,97,114,115],
 [1,51],
 [1,52],
 [1,53],
 [117,110,103,101,116],
 [1,55],
 [99,104,97,114,83,116,97,99,107],
 [1,57],
 [1,58],
 [1,59],
 [1,60],
 [1,61],
 [1,62],
 [1,63],
 [1,64],
 [1,65],
 wQ,
 [1,67],
 [115,105,103,110],
 [1,69],
 [1,70],
 [102,97,117,108,116,115],
 [100,117,101],
 [1,73],
 [1,74],
 [1,75],
 [1,76],
 [115,116,97,114,116],
 [119,111,114,100],
 [1,79],
 wU,
 [116],
 [103,111,116],
 [116,111,107,101,110],
 [110],
 [95,95,105,116,101,114,95,95],
 [115,112,97,99,101,67,104,97,114,97,99,116,101,114,115],
 [97,115,99,105,105,76,101,116,116,101,114,115],
 [116,111,107,101,110,84,121,112,101,115],
 [95,108,97,119,95,80,73,69,67,69,83],
 [69,79,70],
 wC,
 [1,92],
 [1,93],
 [1,94],
 [1,95],
 [1,96],
 [1,97],
 [1,98],
 [1,99],
 [1,100],
 [1,101],
 [1,102],
 [1,103],
 [1,104],
 [1,105],
 [1,106],
 [99,108,111,115,101,100],
 [1,108],
 [1,109],
 [1,110],
 [107,101,121],
 [1,112],
 [1,113],
 [1,114],
 [1,115],
 [1,116],
 [105,110,115,105,100,101],
 [1,118],
 [1,119],
 [109,97,114,107,115],
 [109,97,114,107],
 [95,108,97,119,95,66,76,65,78,75,83],
 [95,108,97,119,95,81,85,79,84,69,83],
 [108,105,110,101],
 [99,111,108],
 [114,111,119,115],
 [108,111,119],
 [104,105,103,104],
 [109,105,100,100,108,101],
 [95,100,97,116,97],
 [112,114,101,102,105,120],
 [95,99,97,99,104,101,115,116,114],
 [108,111],
 [104,105],
 [95,99,97,99,104,101,112,111,105,110,116,115],
 [105],
 [95,107,101,121,115],
 [97,108,108,111,119,101,100,67,104,97,114],
 [102,114,111,109,65,116,116,114,105,98,117,116,101],
 [111,117,116,112,117,116],
 [104,97,115,95,107,101,121,115,95,119,105,116,104,95,112,114,101,102,105,120],
 [101,110,116,105,116,121,78,97,109,101],
 [108,111,110,103,101,115,116,95,112,114,101,102,105,120],
 [101,110,116,105,116,121,76,101,110,103,116,104],
 [116,111,107,101,110,84,121,112,101],
 [99,111,110,115,117,109,101,69,110,116,105,116,121],
 [1,147],
 [116,101,109,112,111,114,97,114,121,66,117,102,102,101,114],
 [1,149],
 [1,150],
 [1,151],
 [97,112,112,114,111,112,114,105,97,116,101],
 [98,101,102,111,114,101,65,116,116,114,105,98,117,116,101,78,97,109,101,83,116,97,116,101],
 [115,101,108,102,67,108,111,115,105,110,103,83,116,97,114,116,84,97,103,83,116,97,116,101],
 [101,109,105,116,67,117,114,114,101,110,116,84,111,107,101,110],
 [97,116,116,114,105,98,117,116,101,78,97,109,101,83,116,97,116,101],
 [108,101,97,118,105,110,103,84,104,105,115,83,116,97,116,101],
 [101,109,105,116,84,111,107,101,110],
 [97,102,116,101,114,65,116,116,114,105,98,117,116,101,78,97,109,101,83,116,97,116,101],
 [95],
 [116,111,107,101,110,115],
 [110,97,109,101,115],
 [98,97,99,107],
 [108,97,116,101,114],
 [115,116,111,112],
 [101,110,116,105,116,105,101,115,84,114,105,101],
 [101,110,116,105,116,105,101,115],
 [116,97,103,84,111,107,101,110,84,121,112,101,115],
 [99,108,111,115,101],
 [115,108,105,112],
 [99,108,111,115,105,110,103],
 [119,114,105,116,116,101,110],
 [102,97,117,108,116],
 [116,111,108,100],
 [100,114,97,119,115],
 [112,111,115,105,116,105,111,110],
 [95,108,97,119,95,76,69,84,84,69,82,83],
 [100,105,103,105,116,115],
 [116,119,105,99,101],
 [115,112,111,116],
 [115,99,114,105,112,116,68,97,116,97,76,101,115,115,84,104,97,110,83,105,103,110,83,116,97,116,101],
 [115,99,114,105,112,116,68,97,116,97,69,110,100,84,97,103,79,112,101,110,83,116,97,116,101],
 [115,99,114,105,112,116,68,97,116,97,69,115,99,97,112,101,83,116,97,114,116,83,116,97,116,101],
 [115,99,114,105,112,116,68,97,116,97,83,116,97,116,101],
 [115,99,114,105,112,116,68,97,116,97,69,110,100,84,97,103,78,97,109,101,83,116,97,116,101],
 [115,99,114,105,112,116,68,97,116,97,69,115,99,97,112,101,83,116,97,114,116,68,97,115,104,83,116,97,116,101],
 [115,99,114,105,112,116,68,97,116,97,69,115,99,97,112,101,100,68,97,115,104,68,97,115,104,83,116,97,116,101],
 [115,99,114,105,112,116,68,97,116,97,69,115,99,97,112,101,100,68,97,115,104,83,116,97,116,101],
 [115,99,114,105,112,116,68,97,116,97,69,115,99,97,112,101,100,76,101,115,115,84,104,97,110,83,105,103,110,83,116,97,116,101],
 [115,99,114,105,112,116,68,97,116,97,69,115,99,97,112,101,100,83,116,97,116,101],
 [115,99,114,105,112,116,68,97,116,97,69,115,99,97,112,101,100,69,110,100,84,97,103,79,112,101,110,83,116,97,116,101],
 [115,99,114,105,112,116,68,97,116,97,68,111,117,98,108,101,69,115,99,97,112,101,83,116,97,114,116,83,116,97,116,101],
 [115,99,114,105,112,116,68,97,116,97,69,115,99,97,112,101,100,69,110,100,84,97,103,78,97,109,101,83,116,97,116,101],
 [115,99,114,105,112,116,68,97,116,97,68,111,117,98,108,101,69,115,99,97,112,101,100,83,116,97,116,101],
 [115,99,114,105,112,116,68,97,116,97,68,111,117,98,108,101,69,115,99,97,112,101,100,68,97,115,104,83,116,97,116,101],
 [115,99,114,105,112,116,68,97,116,97,68,111,117,98,108,101,69,115,99,97,112,101,100,76,101,115,115,84,104,97,110,83,105,103,110,83,116,97,116,101],
 [115,99,114,105,112,116,68,97,116,97,68,111,117,98,108,101,69,115,99,97,112,101,100,68,97,115,104,68,97,115,104,83,116,97,116,101],
 [115,99,114,105,112,116,68,97,116,97,68,111,117,98,108,101,69,115,99,97,112,101,69,110,100,83,116,97,116,101]]
def nm1(i:Nat):Str:=toS (match nmT[i]? with |some x=>x |none=>0::List.replicate i 1)
noncomputable def fAT:List Nat:=[148,112,105,63,141,119,70,84,98,304,133,311,353,156,605,360,367,163,598,612,654,619,626,640,633,647,21,21,788,828,261,21,661,668,42,675,682,724,759,689,696,703,710,717,738,745,731,752,21,21,21,21,21,178,199,220,227,283,395,402,332,409,535,591,297,542,549,795,126,773,781,802,809,823,416,423,437,339,430,444,465,458,472,451,479,493,486,500,507,521,514,528,816]
noncomputable def cAT:List Nat:=[73,166,230,762]
noncomputable def Qm:Mine.V:=(.tup [(.str [9]),(.str [10]),(.str [12]),(.str [32]),(.str [13])])
noncomputable def Up:Mine.V:=(.tup [(.str [97]),(.str [98]),(.str [99]),(.str [100]),(.str [101]),(.str [102]),(.str [103]),(.str [104]),(.str [105]),(.str [106]),(.str [107]),(.str [108]),(.str [109]),(.str [110]),(.str [111]),(.str [112]),(.str [113]),(.str [114]),(.str [115]),(.str [116]),(.str [117]),(.str [118]),(.str [119]),(.str [120]),(.str [121]),(.str [122]),(.str [65]),(.str [66]),(.str [67]),(.str [68]),(.str [69]),(.str [70]),(.str [71]),(.str [72]),(.str [73]),(.str [74]),(.str [75]),(.str [76]),(.str [77]),(.str [78]),(.str [79]),(.str [80]),(.str [81]),(.str [82]),(.str [83]),(.str [84]),(.str [85]),(.str [86]),(.str [87]),(.str [88]),(.str [89]),(.str [90])])
def Xc:Mine.V:=(.list [(.str w6),(.str [45,45,62]),(.str vD),(.str [62]),(.str w8),(.str [32]),(.str [45]),(.str [98]),(.str [60]),(.str [47]),(.str [0]),(.str [60,47,98]),(.str [60,47,83,67,82,73,80,84,62]),(.str [60,83,67,82,73,80,84,62]),(.str [33]),(.str [60,33]),(.str [45,45]),(.str wU)])
def UC:Mine.V:=(.dict [[68,111,99,116,121,112,101],wX,wS,vA,wR,[69,109,112,116,121,84,97,103],[67,111,109,109,101,110,116],w4] [(.int 0),(.int 1),(.int 2),(.int 3),(.int 4),(.int 5),(.int 6),(.int 7)])
noncomputable def Bh:Mine.V:=(.tup [(.int 3),(.int 4),(.int 5)])
noncomputable def Ul:Mine.V:=(.dict [[65,77,80],[65,77,80,59],[69,97,99,117,116,101],[69,97,99,117,116,101,59],[77,111,112,102,59],[97,99,59],[97,99,69,59],[97,99,117,116,101],[97,99,117,116,101,59],[97,109,112],[97,109,112,59],[97,110,103,59],[97,110,103,108,101,59],[98,110,101,59],[99,111,112,121],[99,111,112,121,59],[101,97,99,117,116,101],[101,97,99,117,116,101,59],[102,114,97,99,49,50],[102,114,97,99,49,50,59],[103,116],[103,116,59],[108,116],[108,116,59],[110,98,115,112],[110,98,115,112,59],[110,111,116],[110,111,116,59],[110,111,116,105,110,59],[110,111,116,110,105,59],[112,97,114,97],[112,97,114,97,59],[112,97,114,97,108,108,101,108,59],[113,117,111,116],[113,117,111,116,59],[115,117,112,49],[115,117,112,49,59],[115,117,112,50],[115,117,112,50,59],[115,117,112,59],[116,105,109,101,115],[116,105,109,101,115,59],[116,105,109,101,115,98,59]] [(.str [38]),(.str [38]),(.str [201]),(.str [201]),(.str [120132]),(.str [8766]),(.str [8766,819]),(.str [180]),(.str [180]),(.str [38]),(.str [38]),(.str [8736]),(.str [8736]),(.str [61,8421]),(.str [169]),(.str [169]),(.str [233]),(.str [233]),(.str [189]),(.str [189]),(.str [62]),(.str [62]),(.str [60]),(.str [60]),(.str [160]),(.str [160]),(.str [172]),(.str [172]),(.str [8713]),(.str [8716]),(.str [182]),(.str [182]),(.str [8741]),(.str [34]),(.str [34]),(.str [185]),(.str [185]),(.str [178]),(.str [178]),(.str [8835]),(.str [215]),(.str [215]),(.str [8864])])
noncomputable def YG:Mine.V:=(.list [(.str [65,77,80]),(.str [65,77,80,59]),(.str [69,97,99,117,116,101]),(.str [69,97,99,117,116,101,59]),(.str [77,111,112,102,59]),(.str [97,99,59]),(.str [97,99,69,59]),(.str [97,99,117,116,101]),(.str [97,99,117,116,101,59]),(.str [97,109,112]),(.str [97,109,112,59]),(.str [97,110,103,59]),(.str [97,110,103,108,101,59]),(.str [98,110,101,59]),(.str [99,111,112,121]),(.str [99,111,112,121,59]),(.str [101,97,99,117,116,101]),(.str [101,97,99,117,116,101,59]),(.str [102,114,97,99,49,50]),(.str [102,114,97,99,49,50,59]),(.str [103,116]),(.str [103,116,59]),(.str [108,116]),(.str [108,116,59]),(.str [110,98,115,112]),(.str [110,98,115,112,59]),(.str [110,111,116]),(.str [110,111,116,59]),(.str [110,111,116,105,110,59]),(.str [110,111,116,110,105,59]),(.str [112,97,114,97]),(.str [112,97,114,97,59]),(.str [112,97,114,97,108,108,101,108,59]),(.str [113,117,111,116]),(.str [113,117,111,116,59]),(.str [115,117,112,49]),(.str [115,117,112,49,59]),(.str [115,117,112,50]),(.str [115,117,112,50,59]),(.str [115,117,112,59]),(.str [116,105,109,101,115]),(.str [116,105,109,101,115,59]),(.str [116,105,109,101,115,98,59])])
noncomputable def K6:Mine.V:=(.tup [(.int 0),(.int 43)])
noncomputable def D1:Mine.V:=(.tup [(.str [48]),(.str [49]),(.str [50]),(.str [51]),(.str [52]),(.str [53]),(.str [54]),(.str [55]),(.str [56]),(.str [57])])
noncomputable def tyO(n:List Nat):ME:=.sub (.glob UC) (.k (.str n))
noncomputable def tyE:ME:=tyO w4
noncomputable def tyC:ME:=tyO wX
noncomputable def qAP(a b:ME):MS:=.ex (.app (.attr (.loc 0) 48 3) (.dct [wC,wB] [a,b] .frz))
noncomputable def qER(n:List Nat):MS:=qAP tyE (.k (.str n))
noncomputable def qCH(n:List Nat):MS:=qAP tyC (.k (.str n))
noncomputable def sST(n f:Nat):MS:=.asgA (.loc 0) 42 3 (.bm (.loc 0) n 3 f)
noncomputable def sTR:ME:=.attr (.loc 0) 20 3
noncomputable def rCH:MS:=.asg 30 (.mcall sTR 27 1 10 [])
noncomputable def rTR:MS:=.ret (.k (.bool true))
noncomputable def uGT:MS:=.ex (.mcall sTR 54 1 17 [(.loc 30)])
noncomputable def cTK:ME:=.attr (.loc 0) 45 3
noncomputable def dEQ(n:List Nat):ME:=.cmp .eq (.loc 30) (.k (.str n))
noncomputable def dEO:ME:=.cmp .is (.loc 30) (.glob .none)
noncomputable def dLE:ME:=.cmp .inn (.loc 30) (.glob Up)
noncomputable def dSP:ME:=.cmp .inn (.loc 30) (.glob Qm)
noncomputable def ZAH:MFun:=
 { ps:=[0,1],ds:=[],body:=[.asgA (.loc 0) 1 0 (.loc 1),
   .asgA (.loc 0) 2 0 (.k (.int 0))] }
noncomputable def ZAG:MFun:=
 { ps:=[0,3],ds:=[],body:=[.asg 4 (.sl (.attr (.loc 0) 1 0) (.attr (.loc 0) 2 0) (.bop .add (.attr (.loc 0) 2 0) (.loc 3))),
   .augA (.loc 0) 2 0 .add (.bi .len [(.loc 4)]),
   .ret (.loc 4)] }
noncomputable def T2:MFun:=
 { ps:=[5],ds:=[],body:=[.ret (.or (.cmp2 .le .le (.k (.int 1)) (.loc 5) (.k (.int 8))) (.or (.cmp .eq (.loc 5) (.k (.int 11))) (.or (.cmp2 .le .le (.k (.int 14)) (.loc 5) (.k (.int 31))) (.or (.cmp2 .le .le (.k (.int 127)) (.loc 5) (.k (.int 159))) (.or (.cmp2 .le .le (.k (.int 64976)) (.loc 5) (.k (.int 65007))) (.or (.cmp .inn (.bop .mod (.loc 5) (.k (.int 65536))) (.tup [(.k (.int 65534)),(.k (.int 65535))])) (.cmp2 .le .le (.k (.int 55296)) (.loc 5) (.k (.int 57343)))))))))] }
noncomputable def TU:MFun:=
 { ps:=[0,6],ds:=[],body:=[.asgA (.loc 0) 7 1 (.bm (.loc 0) 8 1 0),
   .asgA (.loc 0) 9 1 (.lst [(.k (.int 0))] .tmp),
   .asgA (.loc 0) 10 1 (.mcall (.loc 0) 11 1 1 [(.loc 6)]),
   .ex (.mcall (.loc 0) 12 1 2 [])] }
noncomputable def TT:MFun:=
 { ps:=[0],ds:=[],body:=[.asgA (.loc 0) 13 1 (.k (.str [])),
   .asgA (.loc 0) 14 1 (.k (.int 0)),
   .asgA (.loc 0) 15 1 (.k (.int 0)),
   .asgA (.loc 0) 16 1 (.lst [] .tmp),
   .asgA (.loc 0) 17 1 (.k (.int 0)),
   .asgA (.loc 0) 18 1 (.k (.int 0)),
   .asgA (.loc 0) 19 1 (.k .none)] }
noncomputable def TK:MFun:=
 { ps:=[0,6],ds:=[],body:=[.asg 20 (.new 0 3 [(.loc 6)] .tmp),
   .ret (.loc 20)] }
noncomputable def TN:MFun:=
 { ps:=[0,21],ds:=[],body:=[.asg 13 (.attr (.loc 0) 13 1),
   .asg 22 (.sm .count (.loc 13) [(.k (.str [10])),(.k (.int 0)),(.loc 21)]),
   .asg 23 (.bop .add (.attr (.loc 0) 17 1) (.loc 22)),
   .asg 24 (.sm .rfind (.loc 13) [(.k (.str [10])),(.k (.int 0)),(.loc 21)]),
   .iff (.cmp .eq (.loc 24) (.neg (.k (.int 1)))) [.asg 25 (.bop .add (.attr (.loc 0) 18 1) (.loc 21))] [.asg 25 (.bop .sub (.loc 21) (.bop .add (.loc 24) (.k (.int 1))))],
   .ret (.tup [(.loc 23),(.loc 25)])] }
noncomputable def TM:MFun:=
 { ps:=[0],ds:=[],body:=[.asgT [124,125] (.mcall (.loc 0) 29 1 5 [(.attr (.loc 0) 15 1)]),
   .ret (.tup [(.bop .add (.loc 124) (.k (.int 1))),(.loc 125)])] }
noncomputable def TV:MFun:=
 { ps:=[0],ds:=[],body:=[.iff (.cmp .ge (.attr (.loc 0) 15 1) (.attr (.loc 0) 14 1)) [.iff (.not (.mcall (.loc 0) 26 1 4 [])) [.ret (.glob .none)] []] [],
   .asg 15 (.attr (.loc 0) 15 1),
   .asg 27 (.sub (.attr (.loc 0) 13 1) (.loc 15)),
   .asgA (.loc 0) 15 1 (.bop .add (.loc 15) (.k (.int 1))),
   .ret (.loc 27)] }
def TL:MFun:=
 { ps:=[0,14],ds:=[.none],body:=[.iff (.cmp .is (.loc 14) (.k .none)) [.asg 14 (.cat (.loc 0) 28 1 10240)] [],
   .asgTA (.loc 0) 17 1 (.loc 0) 18 1 (.mcall (.loc 0) 29 1 5 [(.attr (.loc 0) 14 1)]),
   .asgA (.loc 0) 13 1 (.k (.str [])),
   .asgA (.loc 0) 14 1 (.k (.int 0)),
   .asgA (.loc 0) 15 1 (.k (.int 0)),
   .asg 30 (.mcall (.attr (.loc 0) 10 1) 31 0 6 [(.loc 14)]),
   .iff (.attr (.loc 0) 19 1) [.dead,.dead] [.iff (.not (.loc 30)) [.ret (.k (.bool false))] []],
   .iff (.cmp .gt (.bi .len [(.loc 30)]) (.k (.int 1))) [.asg 32 (.bi .ord [(.sub (.loc 30) (.neg (.k (.int 1))))]),
   .iff (.or (.cmp .eq (.loc 32) (.k (.int 13))) (.cmp2 .le .le (.k (.int 55296)) (.loc 32) (.k (.int 56319)))) [.dead,.dead] []] [],
   .iff (.attr (.loc 0) 7 1) [.ex (.fcall (.loc 0) 7 1 [(.loc 30)])] [],
   .asg 30 (.sm .replace (.loc 30) [(.k (.str [13,10])),(.k (.str [10]))]),
   .asg 30 (.sm .replace (.loc 30) [(.k (.str [13])),(.k (.str [10]))]),
   .asgA (.loc 0) 13 1 (.loc 30),
   .asgA (.loc 0) 14 1 (.bi .len [(.loc 30)]),
   rTR] }
def I7:MFun:=
 { ps:=[0,30],ds:=[],body:=[.for 33 (.loc 30) [.iff (.call 7 [(.bi .ord [(.loc 33)])]) [.ex (.app (.attr (.loc 0) 16 1) (.k (.str wA)))] []]] }
noncomputable def Yc:MFun:=
 { ps:=[0,34,35],ds:=[(.bool false)],body:=[.asg 36 (.lst [] .tmp),
   .whl (.k (.bool true)) [.asg 37 (.attr (.loc 0) 15 1),
   .whl (.and (.cmp .ne (.loc 37) (.attr (.loc 0) 14 1)) (.cmp .eq (.cmp .inn (.sub (.attr (.loc 0) 13 1) (.loc 37)) (.loc 34)) (.loc 35))) [.augN 37 .add (.k (.int 1))],
   .iff (.cmp .eq (.loc 37) (.attr (.loc 0) 15 1)) [.iff (.cmp .ne (.attr (.loc 0) 15 1) (.attr (.loc 0) 14 1)) [.brk] []] [.iff (.cmp .ne (.loc 37) (.attr (.loc 0) 14 1)) [.ex (.app (.loc 36) (.sl (.attr (.loc 0) 13 1) (.attr (.loc 0) 15 1) (.loc 37))),
   .asgA (.loc 0) 15 1 (.loc 37),
   .brk] []],
   .ex (.app (.loc 36) (.sl (.attr (.loc 0) 13 1) (.attr (.loc 0) 15 1) (.k .none))),
   .iff (.not (.mcall (.loc 0) 26 1 4 [])) [.brk] []],
   .asg 38 (.sm .join (.k (.str [])) [(.loc 36)]),
   .ret (.loc 38)] }
noncomputable def TS:MFun:=
 { ps:=[0,27],ds:=[],body:=[.iff (.cmp .isn (.loc 27) (.glob .none)) [.iff (.cmp .eq (.attr (.loc 0) 15 1) (.k (.int 0))) [.asgA (.loc 0) 13 1 (.bop .add (.loc 27) (.attr (.loc 0) 13 1)),
   .augA (.loc 0) 14 1 .add (.k (.int 1))] [.augA (.loc 0) 15 1 .sub (.k (.int 1)),
   .asrt (.cmp .eq (.sub (.attr (.loc 0) 13 1) (.attr (.loc 0) 15 1)) (.loc 27))]] []] }
noncomputable def T4:MFun:=
 { ps:=[1],ds:=[],body:=[.ret (.sm .join (.k (.str [])) [(.comp (.ite (.cmp2 .le .le (.k (.str [65])) (.loc 33) (.k (.str [90]))) (.bi .chr [(.bop .add (.bi .ord [(.loc 33)]) (.k (.int 32)))]) (.loc 33)) 33 (.loc 1) (.k (.bool true)))])] }
noncomputable def Tu:MFun:=
 { ps:=[126,111,127,128],ds:=[(.int 0),.none],body:=[.iff (.cmp .is (.loc 128) (.k .none)) [.asg 128 (.bi .len [(.loc 126)])] [],
   .whl (.cmp .lt (.loc 127) (.loc 128)) [.asg 129 (.bop .fdiv (.bop .add (.loc 127) (.loc 128)) (.k (.int 2))),
   .iff (.cmp .lt (.sub (.loc 126) (.loc 129)) (.loc 111)) [.asg 127 (.bop .add (.loc 129) (.k (.int 1)))] [.asg 128 (.loc 129)]],
   .ret (.loc 127)] }
def Tg:MFun:=
 { ps:=[0,111],ds:=[],body:=[.ret (.cmp .inn (.loc 111) (.fat (.loc 0) 130 Ul))] }
def TY:MFun:=
 { ps:=[0,131],ds:=[],body:=[.iff (.cmp .inn (.loc 131) (.fat (.loc 0) 130 Ul)) [rTR] [],
   .iff (.sm .startswith (.loc 131) [(.fat (.loc 0) 132 (.str []))]) [.asgT [133,134] (.fat (.loc 0) 135 K6),
   .asg 136 (.call 53 [(.fat (.loc 0) 137 YG),(.loc 131),(.loc 133),(.loc 134)])] [.dead],
   .iff (.cmp .eq (.loc 136) (.bi .len [(.fat (.loc 0) 137 YG)])) [.ret (.k (.bool false))] [],
   .ret (.sm .startswith (.sub (.fat (.loc 0) 137 YG) (.loc 136)) [(.loc 131)])] }
noncomputable def Ta:MFun:=
 { ps:=[0,131],ds:=[],body:=[.iff (.inf (.loc 131) (.loc 0) 54) [.ret (.loc 131)] [],
   .dead,
   .dead] }
def Tb:MFun:=
 { ps:=[0,20,39],ds:=[.none],body:=[.asgA (.loc 0) 20 3 (.new 1 8 [(.loc 20)] .tmp),
   .asgA (.loc 0) 39 3 (.loc 39),
   .asgA (.loc 0) 40 3 (.k (.bool false)),
   .asgA (.loc 0) 41 3 (.lst [] .tmp),
   sST 43 9,
   .asgA (.loc 0) 44 3 (.k (.bool false)),
   .asgA (.loc 0) 45 3 (.k .none)] }
def TO:MFun:=
 { ps:=[0],ds:=[],body:=[.asg 83 cTK,
   .iff (.cmp .inn (.sub (.loc 83) (.k (.str wC))) (.glob Bh)) [.asgS (.loc 83) (.k (.str wQ)) (.call 34 [(.sub (.loc 83) (.k (.str wQ)))]),
   .iff (.cmp .eq (.sub (.loc 83) (.k (.str wC))) (tyO vA)) [.dead,.dead,.dead,.dead] [],
   .iff (.cmp .eq (.sub (.loc 83) (.k (.str wC))) (tyO wR)) [.iff (.sub (.loc 83) (.k (.str wB))) [qER wV] [],
   .iff (.sub (.loc 83) (.k (.str wG))) [qER wN] []] []] [],
   .ex (.app (.attr (.loc 0) 48 3) (.loc 83)),
   sST 43 9] }
def TX:MFun:=
 { ps:=[0,138,139],ds:=[.none,(.bool false)],body:=[.asg 140 (.k (.str [38])),
   .asg 56 (.lst [(.mcall sTR 27 1 10 [])] .tmp),
   .iff (.or (.cmp .inn (.sub (.loc 56) (.k (.int 0))) (.glob Qm)) (.or (.cmp .inn (.sub (.loc 56) (.k (.int 0))) (.tup [(.glob .none),(.k (.str [60])),(.k (.str [38]))])) (.and (.cmp .isn (.loc 138) (.k .none)) (.cmp .eq (.loc 138) (.sub (.loc 56) (.k (.int 0))))))) [.dead] [.iff (.cmp .eq (.sub (.loc 56) (.k (.int 0))) (.k (.str [35]))) [.dead,.dead,.dead,.dead] [.whl (.cmp .isn (.sub (.loc 56) (.neg (.k (.int 1)))) (.glob .none)) [.iff (.not (.fmc (.glob (.fn 0)) 141 55 [(.sm .join (.k (.str [])) [(.loc 56)])])) [.brk] [],
   .ex (.app (.loc 56) (.mcall sTR 27 1 10 []))],
   .tryS [.asg 142 (.fmc (.glob (.fn 0)) 143 56 [(.sm .join (.k (.str [])) [(.sl (.loc 56) (.k .none) (.neg (.k (.int 1))))])]),
   .asg 144 (.bi .len [(.loc 142)])],
   .iff (.cmp .isn (.loc 142) (.k .none)) [.iff (.cmp .ne (.sub (.loc 142) (.neg (.k (.int 1)))) (.k (.str [59]))) [.dead] [],
   .iff (.and (.cmp .ne (.sub (.loc 142) (.neg (.k (.int 1)))) (.k (.str [59]))) (.and (.loc 139) (.or (.cmp .inn (.sub (.loc 56) (.loc 144)) (.glob Up)) (.or (.cmp .inn (.sub (.loc 56) (.loc 144)) (.glob D1)) (.cmp .eq (.sub (.loc 56) (.loc 144)) (.k (.str [61]))))))) [.dead,.dead] [.asg 140 (.sub (.glob Ul) (.loc 142)),
   .ex (.mcall sTR 54 1 17 [(.pop (.loc 56) [])]),
   .augN 140 .add (.sm .join (.k (.str [])) [(.sl (.loc 56) (.loc 144) (.k .none))])]] [.dead,.dead,.dead]]],
   .iff (.loc 139) [.dead] [.iff (.cmp .inn (.loc 140) (.glob Qm)) [.dead] [.asg 145 (.k (.str wX))],
   qAP (.sub (.glob UC) (.loc 145)) (.loc 140)]] }
def TZ:MFun:=
 { ps:=[0],ds:=[],body:=[rCH,
   .iff (dEQ [38]) [sST 46 11] [.iff (dEQ [60]) [.dead] [.iff (dEQ [0]) [qER wA,
   qCH [0]] [.iff dEO [.ret (.k (.bool false))] [.iff dSP [qAP (tyO wS) (.bop .add (.loc 30) (.mcall sTR 49 1 13 [(.glob Qm),(.k (.bool true))]))] [.asg 50 (.mcall sTR 49 1 13 [(.tup [(.k (.str [38])),(.k (.str [60])),(.k (.str [0]))])]),
   qAP tyC (.bop .add (.loc 30) (.loc 50))]]]]],
   rTR] }
def TR:MFun:=
 { ps:=[0],ds:=[],body:=[.ex (.mcall (.loc 0) 146 3 57 []),
   sST 43 9,
   rTR] }
def TP:MFun:=
 { ps:=[0],ds:=[],body:=[rCH,
   .iff (dEQ [60]) [sST 181 74] [.iff (dEQ [0]) [qER wA,
   qCH [65533]] [.iff (.cmp .eq (.loc 30) (.glob .none)) [.ret (.k (.bool false))] [.asg 50 (.mcall sTR 49 1 13 [(.tup [(.k (.str [60])),(.k (.str [0]))])]),
   qAP tyC (.bop .add (.loc 30) (.loc 50))]]],
   rTR] }
def I9:MFun:=
 { ps:=[0],ds:=[],body:=[rCH,
   .iff (dEQ [47]) [.asgA (.loc 0) 148 3 (.k (.str [])),
   sST 182 75] [.iff (dEQ [33]) [qCH [60,33],
   sST 183 76] [qCH [60],
   uGT,
   sST 184 77]],
   rTR] }
def TD:MFun:=
 { ps:=[0],ds:=[],body:=[rCH,
   .iff dLE [.augA (.loc 0) 148 3 .add (.loc 30),
   sST 185 78] [qCH [60,47],
   uGT,
   sST 184 77],
   rTR] }
def O9:MFun:=
 { ps:=[0],ds:=[],body:=[.asg 152 (.and cTK (.cmp .eq (.sm .lower (.sub cTK (.k (.str wQ))) []) (.sm .lower (.attr (.loc 0) 148 3) []))),
   rCH,
   .iff (.and dSP (.loc 152)) [.asgA (.loc 0) 45 3 (.dct [wC,wQ,wB,wG] [(tyO wR),(.attr (.loc 0) 148 3),(.lst [] (.per 2)),(.k (.bool false))] (.per 0)),
   sST 153 62] [.iff (.and (dEQ [47]) (.loc 152)) [.asgA (.loc 0) 45 3 (.dct [wC,wQ,wB,wG] [(tyO wR),(.attr (.loc 0) 148 3),(.lst [] (.per 2)),(.k (.bool false))] (.per 0)),
   sST 154 63] [.iff (.and (dEQ [62]) (.loc 152)) [.asgA (.loc 0) 45 3 (.dct [wC,wQ,wB,wG] [(tyO wR),(.attr (.loc 0) 148 3),(.lst [] (.per 2)),(.k (.bool false))] (.per 0)),
   .ex (.mcall (.loc 0) 155 3 64 []),
   sST 43 9] [.iff dLE [.augA (.loc 0) 148 3 .add (.loc 30)] [qAP tyC (.bop .add (.k (.str [60,47])) (.attr (.loc 0) 148 3)),
   uGT,
   sST 184 77]]]],
   rTR] }
def TC:MFun:=
 { ps:=[0],ds:=[],body:=[rCH,
   .iff (dEQ [45]) [qCH [45],
   sST 186 79] [uGT,
   sST 184 77],
   rTR] }
def I5:MFun:=
 { ps:=[0],ds:=[],body:=[rCH,
   .iff (dEQ [45]) [qCH [45],
   sST 187 80] [uGT,
   sST 184 77],
   rTR] }
def TJ:MFun:=
 { ps:=[0],ds:=[],body:=[rCH,
   .iff (dEQ [45]) [qCH [45],
   sST 188 81] [.iff (dEQ [60]) [sST 189 82] [.iff (dEQ [0]) [qER wA,
   qCH [65533]] [.iff (.cmp .eq (.loc 30) (.glob .none)) [sST 43 9] [.asg 50 (.mcall sTR 49 1 13 [(.tup [(.k (.str [60])),(.k (.str [45])),(.k (.str [0]))])]),
   qAP tyC (.bop .add (.loc 30) (.loc 50))]]]],
   rTR] }
def TB:MFun:=
 { ps:=[0],ds:=[],body:=[rCH,
   .iff (dEQ [45]) [qCH [45],
   sST 187 80] [.iff (dEQ [60]) [sST 189 82] [.iff (dEQ [0]) [qER wA,
   qCH [65533],
   sST 190 83] [.iff (.cmp .eq (.loc 30) (.glob .none)) [sST 43 9] [qAP tyC (.loc 30),
   sST 190 83]]]],
   rTR] }
def I4:MFun:=
 { ps:=[0],ds:=[],body:=[rCH,
   .iff (dEQ [45]) [qCH [45]] [.iff (dEQ [60]) [sST 189 82] [.iff (dEQ [62]) [qCH [62],
   sST 184 77] [.iff (dEQ [0]) [qER wA,
   qCH [65533],
   sST 190 83] [.iff (.cmp .eq (.loc 30) (.glob .none)) [sST 43 9] [qAP tyC (.loc 30),
   sST 190 83]]]]],
   rTR] }
def Ix:MFun:=
 { ps:=[0],ds:=[],body:=[rCH,
   .iff (dEQ [47]) [.asgA (.loc 0) 148 3 (.k (.str [])),
   sST 191 84] [.iff dLE [qAP tyC (.bop .add (.k (.str [60])) (.loc 30)),
   .asgA (.loc 0) 148 3 (.loc 30),
   sST 192 85] [qCH [60],
   uGT,
   sST 190 83]],
   rTR] }
def Iy:MFun:=
 { ps:=[0],ds:=[],body:=[rCH,
   .iff dLE [.asgA (.loc 0) 148 3 (.loc 30),
   sST 193 86] [qCH [60,47],
   uGT,
   sST 190 83],
   rTR] }
def O8:MFun:=
 { ps:=[0],ds:=[],body:=[.asg 152 (.and cTK (.cmp .eq (.sm .lower (.sub cTK (.k (.str wQ))) []) (.sm .lower (.attr (.loc 0) 148 3) []))),
   rCH,
   .iff (.and dSP (.loc 152)) [.asgA (.loc 0) 45 3 (.dct [wC,wQ,wB,wG] [(tyO wR),(.attr (.loc 0) 148 3),(.lst [] (.per 2)),(.k (.bool false))] (.per 0)),
   sST 153 62] [.iff (.and (dEQ [47]) (.loc 152)) [.asgA (.loc 0) 45 3 (.dct [wC,wQ,wB,wG] [(tyO wR),(.attr (.loc 0) 148 3),(.lst [] (.per 2)),(.k (.bool false))] (.per 0)),
   sST 154 63] [.iff (.and (dEQ [62]) (.loc 152)) [.asgA (.loc 0) 45 3 (.dct [wC,wQ,wB,wG] [(tyO wR),(.attr (.loc 0) 148 3),(.lst [] (.per 2)),(.k (.bool false))] (.per 0)),
   .ex (.mcall (.loc 0) 155 3 64 []),
   sST 43 9] [.iff dLE [.augA (.loc 0) 148 3 .add (.loc 30)] [qAP tyC (.bop .add (.k (.str [60,47])) (.attr (.loc 0) 148 3)),
   uGT,
   sST 190 83]]]],
   rTR] }
def I2:MFun:=
 { ps:=[0],ds:=[],body:=[rCH,
   .iff (.cmp .inn (.loc 30) (.bop .add (.glob Qm) (.tup [(.k (.str [47])),(.k (.str [62]))]))) [qAP tyC (.loc 30),
   .iff (.cmp .eq (.sm .lower (.attr (.loc 0) 148 3) []) (.k (.str wU))) [sST 194 87] [sST 190 83]] [.iff dLE [qAP tyC (.loc 30),
   .augA (.loc 0) 148 3 .add (.loc 30)] [uGT,
   sST 190 83]],
   rTR] }
def I8:MFun:=
 { ps:=[0],ds:=[],body:=[rCH,
   .iff (dEQ [45]) [qCH [45],
   sST 195 88] [.iff (dEQ [60]) [qCH [60],
   sST 196 89] [.iff (dEQ [0]) [qER wA,
   qCH [65533]] [.iff (.cmp .eq (.loc 30) (.glob .none)) [qER wE,
   sST 43 9] [qAP tyC (.loc 30)]]]],
   rTR] }
def Iz:MFun:=
 { ps:=[0],ds:=[],body:=[rCH,
   .iff (dEQ [45]) [qCH [45],
   sST 197 90] [.iff (dEQ [60]) [qCH [60],
   sST 196 89] [.iff (dEQ [0]) [qER wA,
   qCH [65533],
   sST 194 87] [.iff (.cmp .eq (.loc 30) (.glob .none)) [qER wE,
   sST 43 9] [qAP tyC (.loc 30),
   sST 194 87]]]],
   rTR] }
def Iw:MFun:=
 { ps:=[0],ds:=[],body:=[rCH,
   .iff (dEQ [45]) [qCH [45]] [.iff (dEQ [60]) [qCH [60],
   sST 196 89] [.iff (dEQ [62]) [qCH [62],
   sST 184 77] [.iff (dEQ [0]) [qER wA,
   qCH [65533],
   sST 194 87] [.iff (.cmp .eq (.loc 30) (.glob .none)) [qER wE,
   sST 43 9] [qAP tyC (.loc 30),
   sST 194 87]]]]],
   rTR] }
def Iv:MFun:=
 { ps:=[0],ds:=[],body:=[rCH,
   .iff (dEQ [47]) [qCH [47],
   .asgA (.loc 0) 148 3 (.k (.str [])),
   sST 198 91] [uGT,
   sST 194 87],
   rTR] }
def I6:MFun:=
 { ps:=[0],ds:=[],body:=[rCH,
   .iff (.cmp .inn (.loc 30) (.bop .add (.glob Qm) (.tup [(.k (.str [47])),(.k (.str [62]))]))) [qAP tyC (.loc 30),
   .iff (.cmp .eq (.sm .lower (.attr (.loc 0) 148 3) []) (.k (.str wU))) [sST 190 83] [sST 194 87]] [.iff dLE [qAP tyC (.loc 30),
   .augA (.loc 0) 148 3 .add (.loc 30)] [uGT,
   sST 194 87]],
   rTR] }
def TH:MFun:=
 { ps:=[0],ds:=[],body:=[rCH,
   .iff dSP [.ex (.mcall sTR 49 1 13 [(.glob Qm),(.k (.bool true))])] [.iff dLE [.ex (.app (.sub cTK (.k (.str wB))) (.lst [(.loc 30),(.k (.str []))] (.per 1))),
   sST 156 65] [.iff (dEQ [62]) [.ex (.mcall (.loc 0) 155 3 64 [])] [.iff (dEQ [47]) [sST 154 63] [.iff (.cmp .inn (.loc 30) (.tup [(.k (.str [39])),(.k (.str [34])),(.k (.str [61])),(.k (.str [60]))])) [qER wK,
   .ex (.app (.sub cTK (.k (.str wB))) (.lst [(.loc 30),(.k (.str []))] (.per 1))),
   sST 156 65] [.iff (dEQ [0]) [qER wA,
   .ex (.app (.sub cTK (.k (.str wB))) (.lst [(.k (.str [65533])),(.k (.str []))] (.per 1))),
   sST 156 65] [.iff dEO [qER wH,
   sST 43 9] [.ex (.app (.sub cTK (.k (.str wB))) (.lst [(.loc 30),(.k (.str []))] (.per 1))),
   sST 156 65]]]]]]],
   rTR] }
def BA:MFun:=
 { ps:=[0],ds:=[],body:=[rCH,
   .asg 157 (.k (.bool true)),
   .asg 158 (.k (.bool false)),
   .iff (dEQ [61]) [.dead] [.iff dLE [.augS (.sub (.sub cTK (.k (.str wB))) (.neg (.k (.int 1)))) (.k (.int 0)) .add (.bop .add (.loc 30) (.mcall sTR 49 1 13 [(.glob Up),(.k (.bool true))])),
   .asg 157 (.k (.bool false))] [.iff (dEQ [62]) [.asg 158 (.k (.bool true))] [.iff dSP [sST 159 66] [.iff (dEQ [47]) [sST 154 63] [.iff (dEQ [0]) [qER wA,
   .augS (.sub (.sub cTK (.k (.str wB))) (.neg (.k (.int 1)))) (.k (.int 0)) .add (.k (.str [65533])),
   .asg 157 (.k (.bool false))] [.iff (.cmp .inn (.loc 30) (.tup [(.k (.str [39])),(.k (.str [34])),(.k (.str [60]))])) [qER wK,
   .augS (.sub (.sub cTK (.k (.str wB))) (.neg (.k (.int 1)))) (.k (.int 0)) .add (.loc 30),
   .asg 157 (.k (.bool false))] [.iff dEO [qER wL,
   sST 43 9] [.augS (.sub (.sub cTK (.k (.str wB))) (.neg (.k (.int 1)))) (.k (.int 0)) .add (.loc 30),
   .asg 157 (.k (.bool false))]]]]]]]],
   .iff (.loc 157) [.asgS (.sub (.sub cTK (.k (.str wB))) (.neg (.k (.int 1)))) (.k (.int 0)) (.call 34 [(.sub (.sub (.sub cTK (.k (.str wB))) (.neg (.k (.int 1)))) (.k (.int 0)))]),
   .forT [66,160] (.sl (.sub cTK (.k (.str wB))) (.k .none) (.neg (.k (.int 1)))) [.iff (.cmp .eq (.sub (.sub (.sub cTK (.k (.str wB))) (.neg (.k (.int 1)))) (.k (.int 0))) (.loc 66)) [qER wM,
   .brk] []],
   .iff (.loc 158) [.ex (.mcall (.loc 0) 155 3 64 [])] []] [],
   rTR] }
def TI:MFun:=
 { ps:=[0],ds:=[],body:=[rCH,
   .iff dSP [.ex (.mcall sTR 49 1 13 [(.glob Qm),(.k (.bool true))])] [.iff (dEQ [61]) [.dead] [.iff (dEQ [62]) [.ex (.mcall (.loc 0) 155 3 64 [])] [.iff dLE [.ex (.app (.sub cTK (.k (.str wB))) (.lst [(.loc 30),(.k (.str []))] (.per 1))),
   sST 156 65] [.iff (dEQ [47]) [sST 154 63] [.iff (dEQ [0]) [qER wA,
   .ex (.app (.sub cTK (.k (.str wB))) (.lst [(.k (.str [65533])),(.k (.str []))] (.per 1))),
   sST 156 65] [.iff (.cmp .inn (.loc 30) (.tup [(.k (.str [39])),(.k (.str [34])),(.k (.str [60]))])) [qER wY,
   .ex (.app (.sub cTK (.k (.str wB))) (.lst [(.loc 30),(.k (.str []))] (.per 1))),
   sST 156 65] [.iff dEO [qER wJ,
   sST 43 9] [.ex (.app (.sub cTK (.k (.str wB))) (.lst [(.loc 30),(.k (.str []))] (.per 1))),
   sST 156 65]]]]]]]],
   rTR] }
def TF:MFun:=
 { ps:=[0],ds:=[],body:=[rCH,
   .iff (dEQ [62]) [.asgS cTK (.k (.str wG)) (.k (.bool true)),
   .ex (.mcall (.loc 0) 155 3 64 [])] [.iff dEO [qER wI,
   uGT,
   sST 43 9] [qER wD,
   uGT,
   sST 153 62]],
   rTR] }
def ZAF:MFun:=
 { ps:=[],ds:=[],body:=[.ret (.lst [(.k (.str wU)),(.k (.str [83,99,114,105,112,116])),(.k (.str [98]))] .frz)] }
def ZAE:MFun:=
 { ps:=[],ds:=[],body:=[.ret (.lst [(.tup [(.k (.str [])),(.k (.str [])),(.k (.str []))]),(.tup [(.k (.str [98])),(.k (.str [])),(.k (.str [98]))]),(.tup [(.k (.str [32,98])),(.k (.str [])),(.k (.str [32,98]))]),(.tup [(.k (.str [0])),(.k (.str wA)),(.k (.str [0]))]),(.tup [(.k (.str [38,108,116,59])),(.k (.str [])),(.k (.str [60]))])] .frz)] }
def ZAD:MFun:=
 { ps:=[66],ds:=[],body:=[.ret (.dct [wC,wB] [tyE,(.loc 66)] .frz)] }
def ZAC:MFun:=
 { ps:=[4],ds:=[],body:=[.ret (.dct [wC,wB] [tyC,(.loc 4)] .frz)] }
def Yd:MFun:=
 { ps:=[161],ds:=[],body:=[.asg 126 (.lst [] (.per 50)),
   .for 83 (.loc 161) [.iff (.and (.cmp .ne (.sub (.loc 83) (.k (.str wC))) tyC) (.cmp .ne (.sub (.loc 83) (.k (.str wC))) (tyO wS))) [.ex (.app (.loc 126) (.loc 83))] [.iff (.and (.loc 126) (.cmp .eq (.sub (.sub (.loc 126) (.neg (.k (.int 1)))) (.k (.str wC))) tyC)) [.asgS (.loc 126) (.neg (.k (.int 1))) (.call 67 [(.bop .add (.sub (.sub (.loc 126) (.neg (.k (.int 1)))) (.k (.str wB))) (.sub (.loc 83) (.k (.str wB))))])] [.ex (.app (.loc 126) (.call 67 [(.sub (.loc 83) (.k (.str wB)))]))]]],
   .ret (.loc 126)] }
def XQ:MFun:=
 { ps:=[117,107],ds:=[],body:=[.asg 71 (.lst [] (.per 51)),
   .asg 162 (.lst [] (.per 52)),
   .asg 3 (.bi .len [(.loc 117)]),
   .for 2 (.bi .range [(.bop .add (.loc 3) (.k (.int 1)))]) [.asg 163 (.loc 2),
   .whl (.and (.cmp .gt (.loc 163) (.k (.int 0))) (.cmp .eq (.sub (.loc 117) (.bop .sub (.loc 163) (.k (.int 1)))) (.k (.str [32])))) [.augN 163 .sub (.k (.int 1))],
   .asg 164 (.and (.cmp2 .lt .lt (.k (.int 0)) (.loc 163) (.loc 2)) (.cmp .ne (.sub (.loc 117) (.bop .sub (.loc 163) (.k (.int 1)))) (.k (.str [47])))),
   .asg 68 (.ite (.cmp .lt (.loc 2) (.loc 3)) (.sub (.loc 117) (.loc 2)) (.k (.str []))),
   .iff (.cmp .eq (.loc 68) (.k (.str [47]))) [.iff (.cmp .lt (.bop .add (.loc 2) (.k (.int 1))) (.loc 3)) [.ex (.app (.loc 71) (.k (.str wD)))] [.iff (.not (.loc 107)) [.ex (.app (.loc 71) (.k (.str wI)))] []]] [.iff (.and (.cmp .eq (.loc 68) (.k (.str []))) (.and (.cmp .lt (.loc 163) (.loc 2)) (.not (.loc 107)))) [.ex (.app (.loc 71) (.ite (.loc 164) (.k (.str wJ)) (.k (.str wH))))] [.iff (.and (.cmp .ne (.loc 68) (.k (.str []))) (.cmp .ne (.loc 68) (.k (.str [32])))) [.iff (.cmp .eq (.loc 68) (.k (.str [0]))) [.ex (.app (.loc 71) (.k (.str wA)))] [.iff (.cmp .eq (.loc 68) (.k (.str [60]))) [.ex (.app (.loc 71) (.bop .add (.bop .add (.k (.str w7)) (.ite (.loc 164) (.k (.str [97,102,116,101,114])) (.k (.str [105,110])))) (.k (.str vB))))] []],
   .iff (.or (.cmp .eq (.bop .add (.loc 2) (.k (.int 1))) (.loc 3)) (.cmp .inn (.sub (.loc 117) (.bop .add (.loc 2) (.k (.int 1)))) (.tup [(.k (.str [32])),(.k (.str [47]))]))) [.asg 77 (.loc 2),
   .whl (.and (.cmp .gt (.loc 77) (.k (.int 0))) (.cmp .nin (.sub (.loc 117) (.bop .sub (.loc 77) (.k (.int 1)))) (.tup [(.k (.str [32])),(.k (.str [47]))]))) [.augN 77 .sub (.k (.int 1))],
   .asg 78 (.sm .replace (.sm .lower (.sl (.loc 117) (.loc 77) (.bop .add (.loc 2) (.k (.int 1)))) []) [(.k (.str [0])),(.k (.str [65533]))]),
   .iff (.and (.cmp .eq (.bop .add (.loc 2) (.k (.int 1))) (.loc 3)) (.not (.loc 107))) [.ex (.app (.loc 71) (.k (.str wL)))] [],
   .iff (.cmp .inn (.loc 78) (.loc 162)) [.ex (.app (.loc 71) (.k (.str wM)))] [],
   .ex (.app (.loc 162) (.loc 78))] []] []]]],
   .ret (.tup [(.loc 71),(.loc 162)])] }
noncomputable def KI:MFun:=
 { ps:=[1,2,78],ds:=[],body:=[.asg 165 (.bop .add (.loc 2) (.bi .len [(.loc 78)])),
   .ret (.and (.cmp .eq (.sm .lower (.sl (.loc 1) (.loc 2) (.loc 165)) []) (.loc 78)) (.cmp .inn (.sl (.loc 1) (.loc 165) (.bop .add (.loc 165) (.k (.int 1)))) (.tup [(.k (.str [32])),(.k (.str [47])),(.k (.str [62]))])))] }
def KN:MFun:=
 { ps:=[1,78],ds:=[],body:=[.asg 2 (.k (.int 0)),
   .whl (.cmp .lt (.loc 2) (.bi .len [(.loc 1)])) [.iff (.call 92 [(.loc 1),(.loc 2),(.loc 78)]) [.ret (.tup [(.loc 2),(.k (.bool false))])] [],
   .iff (.cmp .ne (.sl (.loc 1) (.loc 2) (.bop .add (.loc 2) (.k (.int 4)))) (.k (.str w6))) [.augN 2 .add (.k (.int 1))] [.asg 165 (.sm .find (.loc 1) [(.k (.str [45,45,62])),(.bop .add (.loc 2) (.k (.int 2)))]),
   .iff (.cmp .lt (.loc 165) (.k (.int 0))) [.asg 165 (.bi .len [(.loc 1)])] [],
   .asg 179 (.k (.bool false)),
   .for 180 (.bi .range [(.bop .add (.loc 2) (.k (.int 4))),(.loc 165)]) [.iff (.and (.not (.loc 179)) (.call 92 [(.loc 1),(.loc 180),(.loc 78)])) [.ret (.tup [(.loc 180),(.k (.bool false))])] [],
   .iff (.call 92 [(.loc 1),(.loc 180),(.ite (.loc 179) (.k (.str w8)) (.k (.str vD)))]) [.asg 179 (.not (.loc 179))] []],
   .iff (.cmp .eq (.loc 165) (.bi .len [(.loc 1)])) [.ret (.tup [(.loc 165),(.loc 179)])] [],
   .asg 2 (.bop .add (.loc 165) (.k (.int 3)))]],
   .ret (.tup [(.bi .len [(.loc 1)]),(.k (.bool false))])] }
def tab:List (Nat×MFun):=[(3,ZAH),(6,ZAG),(7,T2),(8,TU),(2,TT),(1,TK),(5,TN),(68,TM),(10,TV),(4,TL),(0,I7),(13,Yc),(17,TS),(34,T4),(53,Tu),(54,Tg),(55,TY),(56,Ta),(30,Tb),(64,TO),(57,TX),(9,TZ),(11,TR),(77,TP),(74,I9),(75,TD),(78,O9),(76,TC),(79,I5),(83,TJ),(81,TB),(80,I4),(82,Ix),(84,Iy),(86,O8),(85,I2),(87,I8),(88,Iz),(90,Iw),(89,Iv),(91,I6),(62,TH),(65,BA),(66,TI),(63,TF),(69,ZAF),(70,ZAE),(28,ZAD),(67,ZAC),(71,Yd),(72,XQ),(92,KI),(73,KN)]
end Mine
end
noncomputable section
namespace Mine
def tT(f:Nat):Option MFun:=JA tab f
noncomputable def fs1(ch:List Nat)(sz off l1 l2:Int):List (Nat×Mine.V):=[(7,.meth 0 (.obj (.t 1))),(9,.obj (.t 2)),(10,.obj (.t 3)),(13,.str ch),(14,.int sz),(15,.int off),(16,.obj (.t 4)),(17,.int l1),(18,.int l2),(19,.none)]
noncomputable def fs3(src:List Nat)(pl:Int):List (Nat×Mine.V):=[(1,.str src),(2,.int pl)]
def I1(ch:List Nat)(sz off l1 l2:Int):Ob:=.inst 1 (fs1 ch sz off l1 l2)
def I3(src:List Nat)(pl:Int):Ob:=.inst 0 (fs3 src pl)
noncomputable def hS(o1a o3:Ob)(H:List (Id×Ob)):List (Id×Ob):=(.t 1,o1a)::(.t 3,o3)::H
def hX(x:Option (List Mine.V))(o1a o3:Ob)(H:List (Id×Ob)):List (Id×Ob):=match x with
 |none=>hS o1a o3 H
 |some q=>(.t 7,.list q)::hS o1a o3 H
noncomputable abbrev T1:Mine.V:=.obj (.t 1)
noncomputable abbrev T3:Mine.V:=.obj (.t 3)
noncomputable def σ0:St:=⟨[],[],0,[]⟩
theorem JE{α β:Type}{l:List α}{f g:α->β}(h:l.map f=l.map g):∀ a∈l,f a=g a:=List.map_inj_left.mp h
noncomputable def al:List Nat:=[0,32,33,38,45,47,59,60,62,67,73,80,82,83,84,98,99,105,108,112,114,115,116]
theorem ble{a b:Nat}(h:a<=b):Nat.ble a b=true:=Nat.ble_eq.mpr h
section
variable{x:Option (List Mine.V)}{n:Nat}{L:List (Nat×Mine.V)}{H:List (Id×Ob)}{nx:Nat}{P:List Nat}{ch src:List Nat}{sz off l1 l2 pl:Int}{o1a o3:Ob}{a i:Nat}
theorem ZBz:∀ a∈al,JH tT (n+1) 7 [.int a] ⟨L,H,nx,P⟩=some (.bool false,⟨L,H,nx,P⟩):=JE (by kernel_rfl)
theorem BY:Ww ch [.str [10],.int 0,.int ch.length]=some (10,(ch.length:Int)):=by
 show gd (decide ((0:Int)=0)&&(decide ((0:Int)<=ch.length)&&decide ((ch.length:Int)<=ch.length))) (some (10,(ch.length:Int)))=_
 rw[decide_eq_true (show (0:Int)<=ch.length from Int.natCast_nonneg _),decide_eq_true (Int.le_refl _)]
 rfl
theorem GK:smV σ0 .count ch [.str [10],.int 0,.int ch.length]=some (.int (Ua 10 ch)):=by
 show bo (Ww ch [.str [10],.int 0,.int ch.length]) (fun p=>some (Mine.V.int (Ua p.1 (ch.take p.2.toNat))))=_
 rw[BY]
 exact congrArg (fun l=>some (Mine.V.int (Ua 10 l))) (List.take_length (l:=ch))
theorem Dg:smV σ0 .rfind ch [.str [10],.int 0,.int ch.length]=some (.int (QW 10 ch 0 (-1))):=by
 show bo (Ww ch [.str [10],.int 0,.int ch.length]) (fun p=>some (Mine.V.int (QW p.1 (ch.take p.2.toNat) 0 (-1))))=_
 rw[BY]
 exact congrArg (fun l=>some (Mine.V.int (QW 10 l 0 (-1)))) (List.take_length (l:=ch))
theorem QL(hl:ch.length<=JB):biV σ0 .len [.str ch]=some (.int ch.length):=by
 show gd (Nat.ble ch.length JB) _=_
 rw[ble hl];rfl
theorem DU(hl:ch.length<=JB):Mine.Jk σ0 (.str ch)=some (!ch.isEmpty):=by
 show gd (Nat.ble ch.length JB) _=_
 rw[ble hl];rfl
def JS(ch:List Nat)(l1 l2:Int):Int×Int:=(l1+Ua 10 ch,if QW 10 ch 0 (-1)=-1 then l2+ch.length else ch.length-(QW 10 ch 0 (-1)+1))
theorem ZC:JH tT (n+1) 5 [T1,.int ch.length] ⟨L,hX x (I1 ch sz off l1 l2) o3 H,nx,P⟩=some (.tup [.int (JS ch l1 l2).1,.int (JS ch l1 l2).2],⟨L,hX x (I1 ch sz off l1 l2) o3 H,nx,P⟩):=by
 refine J7 ?_
 unfold JS
 by_cases hr:QW 10 ch 0 (-1)=-1
 ·rw[if_pos hr]
  cases x<;>exact .v 2 (GK (ch:=ch)) (.v 3 (Dg (ch:=ch)) (.b 0 (congrArg some (beq_iff_eq.mpr hr)) (.done 5)))
 ·rw[if_neg hr]
  cases x<;>exact .v 2 (GK (ch:=ch)) (.v 3 (Dg (ch:=ch)) (.b 0 (congrArg some (xV hr)) (.done 4)))
theorem Wk{n k:Nat}(h:k<=n):clampIx n (k:Int)=k:=by
 show (max 0 (min (if (k:Int)<0 then (k:Int)+n else k) (n:Int))).toNat=k
 rw[if_neg (Int.not_lt.mpr (Int.natCast_nonneg k)),Int.min_eq_left (Int.ofNat_le.mpr h),Int.max_eq_right (Int.natCast_nonneg k),Int.toNat_natCast]
theorem clamp_big{n k:Nat}(h:n<=k):clampIx n (k:Int)=n:=by
 show (max 0 (min (if (k:Int)<0 then (k:Int)+n else k) (n:Int))).toNat=n
 rw[if_neg (Int.not_lt.mpr (Int.natCast_nonneg k)),Int.min_eq_right (Int.ofNat_le.mpr h),Int.max_eq_right (Int.natCast_nonneg n),Int.toNat_natCast]
theorem ZE8(hl:ch.length<=10240):slV σ0 (.str ch) (.int 0) (.int 10240)=some (.str ch):=by
 show gd (Nat.ble ch.length JB) (some (Mine.V.str (cut ch (clampIx ch.length (0:Nat)) (clampIx ch.length (10240:Nat)))))=_
 rw[ble (qA hl (by decide))]
 rw[(Wk (qG _):clampIx ch.length (0:Nat)=0),(clamp_big hl:clampIx ch.length (10240:Nat)=_)]
 show some (Mine.V.str ((ch.take ch.length).drop 0))=_
 rw[List.take_length];rfl
theorem ZC7(hl:ch.length<=10240):slV σ0 (.str ch) (.int ch.length) (.int (ch.length+10240))=some (.str []):=by
 show gd (Nat.ble ch.length JB) (some (Mine.V.str (cut ch (clampIx ch.length ch.length) (clampIx ch.length ((ch.length+10240:Nat):Int)))))=_
 rw[ble (qA hl (by decide))]
 rw[Wk (qF _),(clamp_big (qK _ 10240):clampIx ch.length ((ch.length+10240:Nat):Int)=_)]
 show some (Mine.V.str ((ch.take ch.length).drop ch.length))=_
 rw[List.take_length,List.drop_length]
theorem ZBm(hl:src.length<=10240):JH tT (n+1) 6 [T3,.int 10240] ⟨L,hS o1a (I3 src 0) H,nx,P⟩=some (.str src,⟨L,hS o1a (I3 src src.length) H,nx,P⟩):=by
 rw[<- Int.zero_add (src.length:Int)]
 refine J7 ?_
 exact .v 7 (ZE8 hl) (.v 2 (QL (qA hl (by decide))) (.done 5))
theorem Ba(hl:src.length<=10240):JH tT (n+1) 6 [T3,.int 10240] ⟨L,hX x o1a (I3 src src.length) H,nx,P⟩=some (.str [],⟨L,hX x o1a (I3 src src.length) H,nx,P⟩):=by
 refine J7 ?_
 cases x<;>exact .v 7 (ZC7 hl) (.done 8)
theorem Bn(hs:src.length<=10240):JH tT (n+3) 4 [T1] ⟨L,hX x (I1 ch ch.length off l1 l2) (I3 src src.length) H,nx,P⟩=some (.bool false,⟨L,hX x (I1 [] 0 0 (JS ch l1 l2).1 (JS ch l1 l2).2) (I3 src src.length) H,nx,P⟩):=by
 refine J7 ?_
 cases x with
 |none=>exact .c 8 (ZC (x:=none) (n:=n+1) (L:=[(0,T1),(14,.int 10240)]) (H:=H) (nx:=nx) (P:=P) (ch:=ch) (sz:=ch.length) (off:=off) (l1:=l1) (l2:=l2) (o3:=I3 src src.length)) (.c 19 (Ba (x:=none) (n:=n+1) (L:=[(0,T1),(14,.int 10240)]) (H:=H) (nx:=nx) (P:=P) (o1a:=I1 [] 0 0 (JS ch l1 l2).1 (JS ch l1 l2).2) hs) (.done 6))
 |some q=>exact .c 8 (ZC (x:=some q) (n:=n+1) (L:=[(0,T1),(14,.int 10240)]) (H:=H) (nx:=nx) (P:=P) (ch:=ch) (sz:=ch.length) (off:=off) (l1:=l1) (l2:=l2) (o3:=I3 src src.length)) (.c 19 (Ba (x:=some q) (n:=n+1) (L:=[(0,T1),(14,.int 10240)]) (H:=H) (nx:=nx) (P:=P) (o1a:=I1 [] 0 0 (JS ch l1 l2).1 (JS ch l1 l2).2) hs) (.done 6))
end
open PySem
section
variable{n:Nat}{L:List (Nat×Mine.V)}{H:List (Id×Ob)}{nx:Nat}{P:List Nat}{ch src r:List Nat}{sz off l1 l2 pl:Int}{o1a o3:Ob}{a i:Nat}
def QZ:List Nat:=wA
def ceB:List MS:=[.iff (.call 7 [(.bi .ord [(.loc 33)])]) [.ex (.app (.attr (.loc 0) 16 1) (.k (.str QZ)))] []]
def ceL(d:List Nat)(a:Nat):List (Nat×Mine.V):=[(0,T1),(30,.str d),(33,.str [a])]
theorem GS{d:List Nat}(ha:a∈al):exs (JH tT (n+1)) ceB ⟨ceL d a,H,nx,P⟩=some (.next,⟨ceL d a,H,nx,P⟩):=by
 refine JC.exs ?_
 exact .c 1 (ZBz (n:=n) (L:=ceL d a) (H:=H) (nx:=nx) (P:=P) a ha) (.done 2)
theorem ZEd{d:List Nat}:∀ (l:List Nat) (b:Nat),(∀ a∈l,a∈al)->∃ L',QI (fun v U=>some (U.setLoc 33 v)) (exs (JH tT (n+1)) ceB) (l.map fun c=>.str [c]) ⟨ceL d b,H,nx,P⟩=some (.next,⟨L',H,nx,P⟩):=fun l0=>by
 induction l0 with
 |nil =>
  exact fun b J=>⟨_,rfl⟩
 |cons a l ih =>
  exact fun b h=>(ih a fun x hx=>h x (.tail _ hx)).imp fun L' e=>by
   show bn (exs (JH tT (n+1)) ceB ⟨ceL d a,H,nx,P⟩) _=_
   rw[GS (h a (.head _))]
   exact e
theorem GQ{d:List Nat}(h:∀ a∈d,a∈al):JH tT (n+2) 0 [T1,.str d] ⟨L,H,nx,P⟩=some (.none,⟨L,H,nx,P⟩):=by
 obtain⟨L',e⟩:∃ L',QI (fun v U=>some (U.setLoc 33 v)) (exs (JH tT (n+1)) ceB) (d.map fun c=>.str [c]) ⟨[(0,T1),(30,.str d)],H,nx,P⟩=some (.next,⟨L',H,nx,P⟩):=by
  cases d with
  |nil=>exact⟨_,rfl⟩
  |cons a l =>
   refine(ZEd (n:=n) (H:=H) (nx:=nx) (P:=P) (d:=a::l) l a fun x hx=>h x (.tail _ hx)).imp fun L' e=>?_
   show bn (exs (JH tT (n+1)) ceB ⟨ceL (a::l) a,H,nx,P⟩) _=_
   rw[GS (h a (.head _))]
   exact e
 refine J7 ?_
 exact .fl 1 e (.done 1)
theorem ZDE{a b:List Nat}{x:Nat}:∀ (n:Nat) (s:List Nat),x∉s->s.length<n->QE (x::a) b n s=s:=by
 intro n
 induction n with
 |zero =>
  intro s _ h
  exact absurd h (xK _)
 |succ n ih =>
  intro s hx h
  cases s with
  |nil=>rfl
  |cons c s =>
   show (if (x==c&&Jc a s) then _ else c::QE (x::a) b n s)=_
   rw[xV (fun e:x=c=>hx (e▸.head _)),ih s (fun q=>hx (.tail _ q)) (xJ h)]
   rfl
theorem ZJl{d:List Nat}(h:∀ a∈d,a∈al):13∉d:=fun q=>absurd (h 13 q) (by decide)
theorem Zd{a:List Nat}{d:List Nat}(h:∀ a∈d,a∈al)(hl:d.length<=10240):smV σ0 .replace d [.str (13::a),.str [10]]=some (.str d):=by
 show gd (true&&(Nat.ble (d.length+(d.length+1)*1) 16777216&&!false)) (some (Mine.V.str (QE (13::a) [10] (d.length+1) d)))=_
 rw[ble (qA (qQ hl (Nat.mul_le_mul_right 1 (qJ hl))) (by decide)),ZDE _ _ (ZJl h) (xC _)]
 rfl
theorem Wy{k n:Nat}(h:k<n):seqIndex? (k:Int) n=some k:=by
 show (if (decide (0<=(if (k:Int)<0 then (k:Int)+n else k))&&decide ((if (k:Int)<0 then (k:Int)+n else k)<(n:Int)))=true then some (if (k:Int)<0 then (k:Int)+n else k).toNat else none)=_
 rw[if_neg (Int.not_lt.mpr (Int.natCast_nonneg k)),decide_eq_true (Int.natCast_nonneg k),decide_eq_true (Int.ofNat_lt.mpr h)]
 rfl
theorem Yn{n:Nat}:seqIndex? (-1) (n+1)=some n:=by
 show (if (decide ((0:Int)<=(-1+(n+1:Nat):Int))&&decide ((-1+(n+1:Nat):Int)<(n+1:Nat)))=true then some (-1+(n+1:Nat):Int).toNat else none)=_
 rw[((Int.add_comm _ _).trans (Int.add_sub_cancel (n:Int) 1):(-1+(n+1:Nat):Int)=n),decide_eq_true (Int.natCast_nonneg n),decide_eq_true (Int.ofNat_lt.mpr (xC n))]
 rfl
theorem WQ{s:List Nat}{k c:Nat}{j:Int}(hl:s.length<=JB)(hj:seqIndex? j s.length=some k)(hc:s[k]?=some c):Qd σ0 (.str s) (.int j)=some (.str [c]):=by
 show gd (Nat.ble s.length JB) (bo (seqIndex? j s.length) fun j=>bo s[j]? fun c=>some (Mine.V.str [c]))=_
 rw[ble hl,hj]
 show bo s[k]? _=_
 rw[hc]
 rfl
theorem ZFr{d:List Nat}(h:∀ a∈d,a∈al){k:Nat}(hk:k<d.length):∃ c,d[k]?=some c/\c∈al:=⟨d[k],List.getElem?_eq_getElem hk,h _ (List.getElem_mem hk)⟩
theorem n13:∀ a∈al,((a:Int)==13)=false:=JE (by kernel_rfl)
theorem n55:∀ a∈al,decide ((55296:Int)<=a)=false:=JE (by kernel_rfl)
theorem ZAp(hs:(a::r).length<=10240)(hok:∀ b∈a::r,b∈al):
  JH tT (n+3) 4 [T1] ⟨L,hS (I1 [] 0 off l1 l2) (I3 (a::r) 0) H,nx,P⟩=some (.bool true,⟨L,hS (I1 (a::r) (a::r).length 0 (JS [] l1 l2).1 (JS [] l1 l2).2) (I3 (a::r) (a::r).length) H,nx,P⟩):=by
 obtain⟨c,hc,hca⟩:=ZFr hok (xC r.length)
 have hm:(a::r).length<=JB:=qA hs (by decide)
 have f1:=ZC (x:=none) (n:=n+1) (L:=[(0,T1),(14,.int 10240)]) (H:=H) (nx:=nx) (P:=P) (ch:=[]) (sz:=0) (off:=off) (l1:=l1) (l2:=l2) (o3:=I3 (a::r) 0)
 have f2:=ZBm (n:=n+1) (L:=[(0,T1),(14,.int 10240)]) (H:=H) (nx:=nx) (P:=P) (o1a:=I1 [] 0 0 (JS [] l1 l2).1 (JS [] l1 l2).2) hs
 have f3:=DU hm
 have f4:=QL hm
 have f5:=WQ hm Yn hc
 refine J7 ?_
 by_cases hgt:(1:Int)<((a::r).length:Int)
 ·exact .c 28 f2 (.b 3 f3 (.v 1 f4 (.b 0 (congrArg some (decide_eq_true hgt)) (.v 1 f5 (.b 1 (congrArg some (n13 c hca)) (.b 1 (congrArg some (n55 c hca)) (.c 6 (GQ (n:=n) (L:=[(0,T1),(14,.int 10240),(30,.str (a::r)),(32,.int c)]) (H:=hS (I1 [] 0 0 (JS [] l1 l2).1 (JS [] l1 l2).2) (I3 (a::r) (a::r).length) H) (nx:=nx) (P:=P) hok) (.v 1 (Zd (a:=[10]) hok hs) (.v 0 (Zd (a:=[]) hok hs) (.v 3 f4 (.done 4)))))))))))
 ·exact .c 28 f2 (.b 3 f3 (.v 1 f4 (.b 0 (congrArg some (decide_eq_false hgt)) (.c 6 (GQ (n:=n) (L:=[(0,T1),(14,.int 10240),(30,.str (a::r))]) (H:=hS (I1 [] 0 0 (JS [] l1 l2).1 (JS [] l1 l2).2) (I3 (a::r) (a::r).length) H) (nx:=nx) (P:=P) hok) (.v 1 (Zd (a:=[10]) hok hs) (.v 0 (Zd (a:=[]) hok hs) (.v 3 f4 (.done 4))))))))
theorem Bp{off:Nat}(ha:ch[off]?=some a)(hl:ch.length<=JB):
  JH tT (n+4) 10 [T1] ⟨L,hS (I1 ch ch.length off l1 l2) o3 H,nx,P⟩=some (.str [a],⟨L,hS (I1 ch ch.length (off+1:Nat) l1 l2) o3 H,nx,P⟩):=by
 have hlt:=(List.getElem?_eq_some_iff.mp ha).1
 refine J7 ?_
 exact .b 4 (congrArg some (decide_eq_false (Int.not_le.mpr (Int.ofNat_lt.mpr hlt)))) (.v 5 (WQ hl (Wy hlt) ha) (.done 5))
theorem DL{x:Option (List Mine.V)}(hs:src.length<=10240):
  JH tT (n+4) 10 [T1] ⟨L,hX x (I1 ch ch.length ch.length l1 l2) (I3 src src.length) H,nx,P⟩=some (.none,⟨L,hX x (I1 [] 0 0 (JS ch l1 l2).1 (JS ch l1 l2).2) (I3 src src.length) H,nx,P⟩):=by
 refine J7 ?_
 have hc:=Bn (x:=x) (n:=n) (L:=[(0,T1)]) (H:=H) (nx:=nx) (P:=P) (ch:=ch) (off:=ch.length) (l1:=l1) (l2:=l2) hs
 cases x
 ·exact .b 4 (congrArg some (decide_eq_true (Int.le_refl (ch.length:Int)))) (.c 3 hc (.done 3))
 ·exact .b 4 (congrArg some (decide_eq_true (Int.le_refl (ch.length:Int)))) (.c 3 hc (.done 3))
theorem ZAq(hs:(a::r).length<=10240)(hok:∀ b∈a::r,b∈al):
  JH tT (n+4) 10 [T1] ⟨L,hS (I1 [] 0 0 l1 l2) (I3 (a::r) 0) H,nx,P⟩=some (.str [a],⟨L,hS (I1 (a::r) (a::r).length 1 (JS [] l1 l2).1 (JS [] l1 l2).2) (I3 (a::r) (a::r).length) H,nx,P⟩):=by
 refine J7 ?_
 exact .c 8 (ZAp (n:=n) (L:=[(0,T1)]) (H:=H) (nx:=nx) (P:=P) (off:=0) (l1:=l1) (l2:=l2) hs hok) (.v 6 (WQ (s:=a::r) (j:=0) (qA hs (by decide)) (Wy (xF _)) rfl) (.done 5))
theorem ZAT:JH tT (n+4) 17 [T1,.none] ⟨L,H,nx,P⟩=some (.none,⟨L,H,nx,P⟩):=by
 refine J7 ?_
 exact .done 3
theorem BO{off:Nat}(ha:ch[off]?=some a)(hl:ch.length<=JB):
  JH tT (n+4) 17 [T1,.str [a]] ⟨L,hS (I1 ch ch.length (off+1:Nat) l1 l2) o3 H,nx,P⟩=some (.none,⟨L,hS (I1 ch ch.length off l1 l2) o3 H,nx,P⟩):=by
 have hlt:=(List.getElem?_eq_some_iff.mp ha).1
 have e:((off+1:Nat):Int)-1=off:=Int.add_sub_cancel (off:Int) 1
 refine J7 ?_
 rw[<- e]
 exact .v 16 (WQ (j:=((off+1:Nat):Int)-1) hl (e▸Wy hlt) ha) (.b 0 (congrArg some (beq_self_eq_true [a])) (.done 3))
end
end Mine
end
noncomputable section
namespace Mine
open PySem
noncomputable def WV:ME:=(.and (.cmp .ne (.loc 37) (.attr (.loc 0) 14 1)) (.cmp .eq (.cmp .inn (.sub (.attr (.loc 0) 13 1) (.loc 37)) (.loc 34)) (.loc 35)))
noncomputable def O7:List MS:=[.augN 37 .add (.k (.int 1))]
def Nl:List MS:=[.asg 37 (.attr (.loc 0) 15 1),
      .whl WV O7,
      .iff (.cmp .eq (.loc 37) (.attr (.loc 0) 15 1)) [.iff (.cmp .ne (.attr (.loc 0) 15 1) (.attr (.loc 0) 14 1)) [.brk] []] [.iff (.cmp .ne (.loc 37) (.attr (.loc 0) 14 1)) [.ex (.app (.loc 36) (.sl (.attr (.loc 0) 13 1) (.attr (.loc 0) 15 1) (.loc 37))),
      .asgA (.loc 0) 15 1 (.loc 37),
      .brk] []],
      .ex (.app (.loc 36) (.sl (.attr (.loc 0) 13 1) (.attr (.loc 0) 15 1) (.k .none))),
      .iff (.not (.mcall (.loc 0) 26 1 4 [])) [.brk] []]
def InP(chars:Mine.V)(p:Nat->Bool):Prop:=∀ U a,XK U .inn (.str [a]) chars=some (p a)
def O6(chars:Mine.V)(opp:Bool):List (Nat×Mine.V):=[(0,T1),(34,chars),(35,.bool opp),(36,(.obj (.t 7)))]
def cuL(chars:Mine.V)(opp:Bool)(i:Nat):List (Nat×Mine.V):=[(0,T1),(34,chars),(35,.bool opp),(36,(.obj (.t 7))),(37,.int i)]
def cuH(q:List Mine.V)(o1a o3:Ob)(H:List (Id×Ob)):List (Id×Ob):=(.t 7,.list q)::hS o1a o3 H
section
variable{C:Ora}{n off i:Nat}{L:List (Nat×Mine.V)}{H:List (Id×Ob)}{P:List Nat}{ch src l:List Nat}{l1 l2:Int}{o1a o3:Ob}{a:Nat}{chars:Mine.V}{opp:Bool}{p:Nat->Bool}{q:List Mine.V}{vs:List Mine.V}
theorem ZIn:tst C WV ⟨cuL chars opp ch.length,cuH q (I1 ch ch.length off l1 l2) o3 H,8,P⟩=some (false,⟨cuL chars opp ch.length,cuH q (I1 ch ch.length off l1 l2) o3 H,8,P⟩):=by
 refine JC.tst ?_
 exact .b 2 (congrArg some (congrArg not (beq_self_eq_true (ch.length:Int)))) (.done 3)
theorem ZIm(hP:InP chars p)(hl:ch.length<=JB)(ha:ch[i]?=some a):tst C WV ⟨cuL chars opp i,cuH q (I1 ch ch.length off l1 l2) o3 H,8,P⟩=some (p a==opp,⟨cuL chars opp i,cuH q (I1 ch ch.length off l1 l2) o3 H,8,P⟩):=by
 have hlt:=(List.getElem?_eq_some_iff.mp ha).1
 have e:∀ b,some (b==opp)=some (b==opp):=fun J=>rfl
 refine JC.tst ?_
 exact .b 2 (congrArg some (congrArg not (xV (fun e=>qP hlt (Int.ofNat.inj e):(i:Int)≠(ch.length:Int))))) (.v 3 (WQ hl (Wy hlt) ha) (.b 0 (hP ⟨cuL chars opp i,cuH q (I1 ch ch.length off l1 l2) o3 H,8,P⟩ a) (.b 0 (e (p a)) (.b 0 (e (p a)) (.done 1)))))
theorem DJ(hP:InP chars p)(hl:ch.length<=JB):∀ (r:List Nat) (i fuel:Nat),ch.drop i=r->i<=ch.length->r.length<fuel->QA (tst C WV) (exs C O7) fuel ⟨cuL chars opp i,cuH q (I1 ch ch.length off l1 l2) o3 H,8,P⟩=some (.next,⟨cuL chars opp (i+(r.takeWhile fun a=>p a==opp).length),cuH q (I1 ch ch.length off l1 l2) o3 H,8,P⟩):=by
 intro r
 induction r with
 |nil =>
  intro i fuel hr hi hf
  cases fuel with
  |zero=>exact absurd hf (xK _)
  |succ n =>
   cases xN hi (List.drop_eq_nil_iff.mp hr)
   show bn (tst C WV _) _=_
   rw[ZIn];rfl
 |cons a r ih =>
  intro i fuel hr hi hf
  cases fuel with
  |zero=>exact absurd hf (xK _)
  |succ n =>
   have ha:ch[i]?=some a:=by rw[<- List.head?_drop,hr];rfl
   have hlt:=(List.getElem?_eq_some_iff.mp ha).1
   have h2:ch.drop (i+1)=r:=by rw[<- List.tail_drop,hr];rfl
   show bn (tst C WV _) _=_
   rw[ZIm hP hl ha,List.takeWhile_cons]
   cases p a==opp
   ·rfl
   ·show QA (tst C WV) (exs C O7) n ⟨cuL chars opp (i+1:Nat),_,8,P⟩=_
    rw[ih (i+1) n h2 hlt (xJ hf),Nat.add_right_comm];rfl
theorem Ty{off:Nat}{p:Nat->Bool}:((ch.drop off).takeWhile p).length<=ch.length-off:=List.length_drop▸(qM (p:=p) (l:=ch.drop off)).length_le
theorem ZCU{off:Nat}{p:Nat->Bool}:cut ch off (off+((ch.drop off).takeWhile p).length)=(ch.drop off).takeWhile p:=by
 show (ch.take _).drop off=_
 rw[List.drop_take,Nat.add_sub_cancel_left]
 exact(List.prefix_iff_eq_take.mp (qM p)).symm
theorem ZHf{s t:List Nat}{i j:Nat}(hl:s.length<=JB)(hi:i<=s.length)(hj:j<=s.length)(e:cut s i j=t):slV σ0 (.str s) (.int i) (.int j)=some (.str t):=by
 show gd (Nat.ble s.length JB) (some (Mine.V.str (cut s (clampIx s.length i) (clampIx s.length j))))=_
 rw[ble hl,Wk hi,Wk hj,e];rfl
theorem ZHd{s t:List Nat}{i:Nat}(hl:s.length<=JB)(hi:i<=s.length)(e:s.drop i=t):slV σ0 (.str s) (.int i) .none=some (.str t):=by
 show gd (Nat.ble s.length JB) (some (Mine.V.str ((s.take s.length).drop (clampIx s.length i))))=_
 rw[ble hl,Wk hi,List.take_length,e];rfl
theorem Hn{t:List Nat}(hl:t.length<=JB):smV ⟨[],[(.t 7,.list [.str t])],0,[]⟩ .join [] [(.obj (.t 7))]=some (.str t):=by
 show gd (Nat.ble (t.length+0+1*0) JB) (some (Mine.V.str t))=_
 rw[ble (by exact hl)];rfl
theorem NN{t:St->Option (Bool×St)}{b:St->Option (FL×St)}{U U1a:St}(ht:t U=some (true,U))(hb:b U=some (.brk,U1a)):QA t b Qr U=some (.next,U1a):=by
 show QA t b (999999+1) U=_
 show bn (t U) _=_
 rw[ht]
 show bn (b U) _=_
 rw[hb];rfl
theorem Ox{i j:Nat}(h:i≠j):some (((i:Int))==(j:Int))=some false:=congrArg some (xV fun e=>h (Int.ofNat.inj e))
theorem Hu{i j:Nat}(h:i≠j):some (!(((i:Int))==(j:Int)))=some true:=congrArg some (congrArg not (xV fun e=>h (Int.ofNat.inj e)))
theorem IW(i:Nat):some (((i:Int))==(i:Int))=some true:=congrArg some (beq_self_eq_true _)
theorem ZIG(i:Nat):some (!(((i:Int))==(i:Int)))=some false:=congrArg some (congrArg not (beq_self_eq_true _))
theorem ZAu(hP:InP chars p)(hl:ch.length<Qr)(ho:off<=ch.length)(hlw:l=(ch.drop off).takeWhile fun a=>p a==opp)(hlt:off+l.length<ch.length):
  JH tT (n+4) 13 [T1,chars,.bool opp] ⟨L,hS (I1 ch ch.length off l1 l2) o3 H,7,P⟩=some (.str l,⟨L,cuH (if l.isEmpty then [] else [.str l]) (I1 ch ch.length (off+l.length:Nat) l1 l2) o3 H,8,P⟩):=by
 have hml:ch.length<=JB:=qA (xG hl) (by decide)
 have hw:=DJ (C:=JH tT (n+3)) (H:=H) (P:=P) (off:=off) (l1:=l1) (l2:=l2) (o3:=o3) (q:=[]) (opp:=opp) hP hml (ch.drop off) off Qr rfl ho (qL (List.length_drop▸xU _ _) hl)
 rw[<- hlw] at hw
 have hcut:=ZHf hml ho (xG hlt) (hlw▸ZCU:cut ch off (off+l.length)=l)
 have hll:l.length<=JB:=qA (qA (Nat.le_add_left _ _) (xG hlt)) hml
 refine J7 ?_
 cases l with
 |nil =>
  have hb:exs (JH tT (n+3)) Nl ⟨O6 chars opp,cuH [] (I1 ch ch.length off l1 l2) o3 H,8,P⟩=some (.brk,⟨cuL chars opp off,cuH [] (I1 ch ch.length off l1 l2) o3 H,8,P⟩):=by
   refine JC.exs ?_
   exact .fl 2 hw (.b 2 (IW off) (.b 5 (Hu (qP hlt)) (.done 2)))
  exact .fl 1 (NN (t:=tst (JH tT (n+3)) (.k (.bool true))) rfl hb) (.done 2)
 |cons a l =>
  have hb:exs (JH tT (n+3)) Nl ⟨O6 chars opp,cuH [] (I1 ch ch.length off l1 l2) o3 H,8,P⟩=some (.brk,⟨cuL chars opp (off+(a::l).length),cuH [.str (a::l)] (I1 ch ch.length (off+(a::l).length:Nat) l1 l2) o3 H,8,P⟩):=by
   refine JC.exs ?_
   exact .fl 2 hw (.b 2 (Ox (Nat.ne_of_gt (Nat.lt_add_of_pos_right (n:=off) (xF l.length)))) (.b 3 (Hu (qP hlt)) (.v 6 hcut (.done 7))))
  exact .fl 1 (NN (t:=tst (JH tT (n+3)) (.k (.bool true))) rfl hb) (.v 0 (Hn hll) (.done 1))
theorem ZAv(hP:InP chars p)(hs:src.length<=10240)(hl:ch.length<Qr)(ho:off<=ch.length)(hlw:l=(ch.drop off).takeWhile fun a=>p a==opp)(hlt:off+l.length=ch.length):
  JH tT (n+4) 13 [T1,chars,.bool opp] ⟨L,hS (I1 ch ch.length off l1 l2) (I3 src src.length) H,7,P⟩=some (.str l,⟨L,cuH [.str l] (I1 [] 0 0 (JS ch l1 l2).1 (JS ch l1 l2).2) (I3 src src.length) H,8,P⟩):=by
 have hml:ch.length<=JB:=qA (xG hl) (by decide)
 have hw:=DJ (C:=JH tT (n+3)) (H:=H) (P:=P) (off:=off) (l1:=l1) (l2:=l2) (o3:=I3 src src.length) (q:=[]) (opp:=opp) hP hml (ch.drop off) off Qr rfl ho (qL (List.length_drop▸xU _ _) hl)
 rw[<- hlw,hlt] at hw
 have hd:ch.drop off=l:=((hlw▸qM _:l <+: ch.drop off).eq_of_length (by rw[List.length_drop,<- hlt,Nat.add_sub_cancel_left])).symm
 have hcut:=ZHd hml ho hd
 have hll:l.length<=JB:=qA (hlt▸Nat.le_add_left _ _) hml
 have hck:=Bn (x:=some [.str l]) (n:=n) (L:=cuL chars opp ch.length) (H:=H) (nx:=8) (P:=P) (ch:=ch) (off:=off) (l1:=l1) (l2:=l2) hs
 have hb:exs (JH tT (n+3)) Nl ⟨O6 chars opp,cuH [] (I1 ch ch.length off l1 l2) (I3 src src.length) H,8,P⟩=some (.brk,⟨cuL chars opp ch.length,cuH [.str l] (I1 [] 0 0 (JS ch l1 l2).1 (JS ch l1 l2).2) (I3 src src.length) H,8,P⟩):=by
  refine JC.exs ?_
  by_cases hz:ch.length=off
  ·have hz':(((ch.length:Int))==(off:Int))=true:=beq_iff_eq.mpr (congrArg _ hz)
   have hz2:(!(((off:Int))==(ch.length:Int)))=false:=congrArg not (beq_iff_eq.mpr (congrArg _ hz.symm))
   exact .fl 2 hw (.b 2 (congrArg some hz') (.b 5 (congrArg some hz2) (.v 6 hcut (.c 5 hck (.done 3)))))
  ·exact .fl 2 hw (.b 2 (Ox hz) (.b 3 (ZIG ch.length) (.v 6 hcut (.c 5 hck (.done 3)))))
 refine J7 ?_
 exact .fl 1 (NN (t:=tst (JH tT (n+3)) (.k (.bool true))) rfl hb) (.v 0 (Hn hll) (.done 1))
end
end Mine
end
noncomputable section
namespace Mine
noncomputable def ids:List Id:=[.t 1,.t 3]
def FO:Ora:=X7 ids (JH tT 5)
def CT:Ora:=X7 ids (WX tT FO)
noncomputable abbrev T0:Mine.V:=.obj (.t 0)
noncomputable def tbF:Option (List Nat)->List (Nat×Mine.V)
 |none=>[]
 |some b=>[(148,.str b)]
def fs0(st cur:Mine.V)(tb:Option (List Nat)):List (Nat×Mine.V):=(20,T1)::(39,.none)::(40,.bool false)::(41,.obj (.t 5))::(42,st)::(44,.bool false)::(45,cur)::(48,.obj (.t 6))::tbF tb
def H1(q dn:List Mine.V)(st cur:Mine.V)(tb:Option (List Nat)):List (Id×Ob):=[(.t 6,.list q),(.t 5,.list []),(.t 4,.list []),(.t 2,.list [.int 0]),(.t 0,.inst 3 (fs0 st cur tb)),(.p 99,.list dn)]
def me(f:Nat):Mine.V:=.meth f T0
def Stp(f:Nat)(U:St)(b:Bool)(U':St):Prop:=CT f [T0] U=some (.bool b,U')
def OM(L:List (Nat×Mine.V))(k:Nat)(f:FL)(U:St):Option (Mine.V×St):=bo (QY f) fun v=>gd (Wf ids k v ⟨L,U.hp,U.nx,U.ps⟩) (some (v,⟨L,hpN ids k U.hp,k,U.ps⟩))
def JR(f:Nat)(vs:List Mine.V)(τ:St):Rz:=boK (tT f) fun m=>ZB false FO m vs ⟨τ.loc,QR ids τ.hp,τ.nx,τ.ps⟩
theorem OV{f:Nat}{vs:List Mine.V}{U:St}:CT f vs U=bn (sem (JR f vs U)) (OM U.loc U.nx):=by
 unfold JR
 show bn (bo (tT f) fun m=>Qx FO m vs ⟨U.loc,QR ids U.hp,U.nx,U.ps⟩) _=_
 generalize tT f=m
 cases m with
 |none=>rfl
 |some m =>
  show bn (bo (m.args vs) fun as=>bn (exs FO m.body ⟨m.ps.zip as,QR ids U.hp,U.nx,U.ps⟩) fun f U1a=>bo (QY f) fun v=>some (v,{ U1a with loc:=U.loc })) _=bn (sem (boK (m.args vs) fun as=>exsK false FO m.body ⟨m.ps.zip as,QR ids U.hp,U.nx,U.ps⟩ .done)) _
  generalize m.args vs=as
  cases as with
  |none=>rfl
  |some as =>
   refine Eq.trans ?_ (congrArg (bn · (OM U.loc U.nx)) (NB false FO m.body ⟨m.ps.zip as,QR ids U.hp,U.nx,U.ps⟩ .done)).symm
   show bn (bn (exs FO m.body ⟨m.ps.zip as,QR ids U.hp,U.nx,U.ps⟩) _) _=_
   generalize exs FO m.body ⟨m.ps.zip as,QR ids U.hp,U.nx,U.ps⟩=x
   cases x with
   |none=>rfl
   |some p =>
    show bn (bo (QY p.1) fun v=>some (v,{ p.2 with loc:=U.loc })) _=bo (QY p.1) _
    generalize QY p.1=q
    cases q<;>rfl
structure Good(n:Nat)(H:List (Id×Ob)):Prop where
 f:(H.filter fun p=>!(ids.any (·==p.1)))=H
 c:(H.filter fun p=>Uc n p.1)=H
 b:Ud n H=true
section
variable{n k:Nat}{L:List (Nat×Mine.V)}{H:List (Id×Ob)}{P:List Nat}{o1a o3 o1' o3':Ob}{v:Mine.V}{C:Ora}{f:Nat}{vs:List Mine.V}
theorem KK(g:Good k H):QR ids (hS o1a o3 H)=hS o1a o3 H:=congrArg (hS o1a o3) g.f
theorem Q4(g:Good k H)(hk:5<=k):hpN ids k (hS o1a o3 H)=hS o1a o3 H:=by
 obtain⟨m,rfl⟩:=Nat.exists_eq_add_of_le' hk
 exact congrArg (hS o1a o3) ((congrArg (List.filter _) g.c).trans g.f)
theorem Ys(g:Good k H)(hk:5<=k)(hL:J1 k L=true)(hv:V.blw k v=true)(ho:Ob.blw k o1'=true/\Ob.blw k o3'=true){H':List (Id×Ob)}(e:hpN ids k H'=hS o1' o3' H){n:Nat}:Wf ids k v ⟨L,H',n,P⟩=true:=by
 show (J1 k L&&(Ud k (hpN ids k H')&&V.blw k v))=true
 rw[e,hL,hv]
 obtain⟨m,rfl⟩:=Nat.exists_eq_add_of_le' hk
 show (((Ob.blw (m+5) o1')&&((Ob.blw (m+5) o3')&&Ud (m+5) H))&&true)=true
 rw[ho.1,ho.2,g.b];rfl
theorem UJ{H':List (Id×Ob)}{P':List Nat}(g:Good k H)(g':Good k H')(hk:5<=k)(hL:J1 k L=true)(hv:V.blw k v=true)(ho:Ob.blw k o1'=true/\Ob.blw k o3'=true){h1a:List (Id×Ob)}(e:hpN ids k h1a=hS o1' o3' H')(h:C f vs ⟨L,hS o1a o3 H,k,P⟩=some (v,⟨L,h1a,n,P'⟩)):X7 ids C f vs ⟨L,hS o1a o3 H,k,P⟩=some (v,⟨L,hS o1' o3' H',k,P'⟩):=
 Kw (hp':=hS o1a o3 H) h (Ys g' hk hL hv ho e) (KK g) e
def nG(f:FL)(U:St):Option (Mine.V×List (Id×Ob)×List Nat):=bo (QY f) fun v=>some (v,hpN ids 7 U.hp,U.ps)
theorem JC.toN{r:Rz}{P':List Nat}(g:Good 7 H)(ho:Ob.blw 7 o1a=true/\Ob.blw 7 o3=true)(hv:V.blw 7 v=true)(h:JC r nG (v,hS o1a o3 H,P')):JC r (OM [(0,T0)] 7) (v,⟨[(0,T0)],hS o1a o3 H,7,P'⟩):=by
 unfold JC at h ⊢
 generalize sem r=x at h
 cases x with
 |none=>exact nn h
 |some p =>
  obtain⟨f,L,hp,nx,P⟩:=p
  show bo (QY f) (fun v=>gd (Wf ids 7 v ⟨[(0,T0)],hp,nx,P⟩) (some (v,(⟨[(0,T0)],hpN ids 7 hp,7,P⟩:St))))=_
  have h:bo (QY f) (fun v=>some (v,hpN ids 7 hp,P))=some (v,hS o1a o3 H,P'):=h
  generalize QY f=w at h
  cases w with
  |none=>exact nn h
  |some w =>
   have h:some (w,hpN ids 7 hp,P)=some (v,hS o1a o3 H,P'):=h
   injection h with h
   injection h with h1 h2
   injection h2 with h2 h3
   subst h1 h3
   show gd (Wf ids 7 w ⟨[(0,T0)],hp,nx,P⟩) (some (w,(⟨[(0,T0)],hpN ids 7 hp,7,P⟩:St)))=_
   rw[Ys g (by decide) rfl hv ho h2,h2];rfl
end
structure Sx where
 ch:List Nat
 sz:Int
 off:Int
 l1:Int
 l2:Int
 src:List Nat
 pl:Int
def hs(s:Sx)(H:List (Id×Ob)):List (Id×Ob):=hS (I1 s.ch s.sz s.off s.l1 s.l2) (I3 s.src s.pl) H
def Cl4(f:Nat)(vs:List Mine.V)(v:Mine.V)(s s':Sx):Prop:=∀ ⦃L:List (Nat×Mine.V)⦄ ⦃H:List (Id×Ob)⦄ ⦃P:List Nat⦄,Good 7 H->J1 7 L=true->FO f (T1::vs) ⟨L,hs s H,7,P⟩=some (v,⟨L,hs s' H,7,P⟩)
abbrev Rd(v:Mine.V)(s s':Sx):Prop:=Cl4 10 [] v s s'
abbrev Un(v:Mine.V)(s s':Sx):Prop:=Cl4 17 [v] .none s s'
noncomputable def st(ch src:List Nat)(off:Nat)(l1 l2:Int):Sx:=⟨ch,ch.length,off,l1,l2,src,src.length⟩
structure At(src r:List Nat)(s:Sx):Prop where
 mk':∃ ch off l1 l2,s=st ch src off l1 l2/\ch.drop off=r/\off<=ch.length/\ch.length<=1000/\src.length<=1000/\JS ch l1 l2=(0,(src.length:Int))
theorem At.el{src r:List Nat}{s:Sx}{Q:Prop}(A:At src r s)(k:∀ ch off l1 l2,s=st ch src off l1 l2->ch.drop off=r->off<=ch.length->ch.length<=1000->src.length<=1000->JS ch l1 l2=(0,(src.length:Int))->Q):Q:=by
 obtain⟨ch,off,l1,l2,a,b,c,d,e,f⟩:=A.mk'
 exact k ch off l1 l2 a b c d e f
def Go(src:List Nat):List Nat->Sx->Prop
 |[],s=>∃ s',Rd .none s s'/\Un .none s' s'/\At src [] s'
 |a::r,s=>∃ s' s2a,Rd (.str [a]) s s'/\Un (.str [a]) s' s2a/\At src r s'/\At src (a::r) s2a
theorem Jo{ch r:List Nat}{off a:Nat}(h:ch.drop off=a::r):ch[off]?=some a/\ch.drop (off+1)=r/\off+1<=ch.length:=by
 have hlt:off<ch.length:=Nat.lt_of_not_le fun q=>by
  rw[List.drop_eq_nil_of_le q] at h;cases h
 rw[List.drop_eq_getElem_cons hlt] at h
 obtain⟨h1,h2⟩:=qS h
 exact⟨by rw[List.getElem?_eq_getElem hlt,h1],h2,hlt⟩
theorem Yh{ch:List Nat}{off:Nat}(h:ch.drop off=[])(ho:off<=ch.length):off=ch.length:=xN ho (List.drop_eq_nil_iff.mp h)
section
variable{src r:List Nat}{s:Sx}{a:Nat}
theorem m4{n:Nat}(h:n<=1000):n<=JB/\n<=10240/\n<Qr:=⟨qA h (by decide),qA h (by decide),qL h (by decide)⟩
theorem ZCm:Un .none s s:=fun J J J g hL=>UJ g g (by decide) hL rfl ⟨rfl,rfl⟩ (Q4 g (by decide)) (ZAT (n:=1))
theorem posF_nil{l1 l2:Int}:JS [] l1 l2=(l1,l2):=Prod.ext (Int.add_zero l1) (Int.add_zero l2)
theorem At.go(A:At src r s):Go src r s:=A.el fun ch off l1 l2 h1 h2 h3 h4 h5 h6=>by
 subst h1
 cases r with
 |nil =>
  cases Yh h2 h3
  exact⟨st [] src 0 (JS ch l1 l2).1 (JS ch l1 l2).2,(fun L H P g hL=>UJ g g (by decide) hL rfl ⟨rfl,rfl⟩ (Q4 g (by decide)) (DL (n:=1) (x:=none) (m4 h5).2.1)),ZCm,
   ⟨[],0,_,_,rfl,rfl,qF _,qG _,h5,posF_nil.trans h6⟩⟩
 |cons a r =>
  obtain⟨ha,hd,hl⟩:=Jo h2
  exact⟨st ch src (off+1) l1 l2,st ch src off l1 l2,(fun L H P g hL=>UJ g g (by decide) hL rfl ⟨rfl,rfl⟩ (Q4 g (by decide)) (Bp (n:=1) ha (m4 h4).1)),
   (fun L H P g hL=>UJ g g (by decide) hL rfl ⟨rfl,rfl⟩ (Q4 g (by decide)) (BO (n:=1) ha (m4 h4).1)),⟨ch,off+1,l1,l2,rfl,hd,hl,h4,h5,h6⟩,⟨ch,off,l1,l2,rfl,h2,h3,h4,h5,h6⟩⟩
theorem ZGD(hn:src.length<=1000)(hok:∀ b∈src,b∈al)(hp:JS src 0 0=(0,(src.length:Int))):Go src src ⟨[],0,0,0,0,src,0⟩:=by
 cases src with
 |nil=>exact At.go ⟨[],0,0,0,rfl,rfl,qF _,qG _,hn,hp⟩
 |cons a r =>
  have h:∀ L H P,JH tT 5 10 [T1] ⟨L,hS (I1 [] 0 0 0 0) (I3 (a::r) 0) H,7,P⟩=some (.str [a],⟨L,hs (st (a::r) (a::r) 1 0 0) H,7,P⟩):=fun L H P=>by
   have h:=ZAq (n:=1) (L:=L) (H:=H) (P:=P) (nx:=7) (l1:=0) (l2:=0) (m4 hn).2.1 hok
   rw[(posF_nil:JS [] 0 0=((0:Int),(0:Int)))] at h
   exact h
  refine⟨st (a::r) (a::r) 1 0 0,st (a::r) (a::r) 0 0 0,(fun L H P g hL=>UJ g g (by decide) hL rfl ⟨rfl,rfl⟩ (Q4 g (by decide)) (h L H P)),
   (fun L H P g hL=>UJ g g (by decide) hL rfl ⟨rfl,rfl⟩ (Q4 g (by decide)) (BO (n:=1) (ch:=a::r) (off:=0) rfl (m4 hn).1)),⟨a::r,1,0,0,rfl,rfl,qJ (qG _),hn,hn,hp⟩,⟨a::r,0,0,0,rfl,rfl,qG _,hn,hn,hp⟩⟩
theorem At.until{p:Nat->Bool}{chars:Mine.V}{opp:Bool}{vs:List Mine.V}(A:At src r s)(hP:InP chars p)(hv:Yc.args (T1::vs)=some [T1,chars,.bool opp]):
  ∃ s',Cl4 13 vs (.str (r.takeWhile fun a=>p a==opp)) s s'/\At src (r.drop (r.takeWhile fun a=>p a==opp).length) s':=A.el fun ch off l1 l2 h1 h2 h3 h4 h5 h6=>by
 subst h1
 have key:∀ {L H P C v τ},C 13 [T1,chars,.bool opp] ⟨L,H,7,P⟩=some (v,τ)->C=JH tT 5->JH tT 5 13 (T1::vs) ⟨L,H,7,P⟩=some (v,τ):=fun h e=>by
  subst e
  show bo (Yc.args (T1::vs)) _=_
  rw[hv]
  exact h
 have hl:r.takeWhile (fun a=>p a==opp)=(ch.drop off).takeWhile fun a=>p a==opp:=by rw[h2]
 have hle:off+(r.takeWhile fun a=>p a==opp).length<=ch.length:=by
  rw[hl]
  exact qA (qI Ty off) (qV (Nat.add_sub_cancel' h3))
 generalize r.takeWhile (fun a=>p a==opp)=l at hl hle
 have cuN:∀ {q:List Mine.V} {o1a o3:Ob} {H:List (Id×Ob)},Good 7 H->hpN ids 7 (cuH q o1a o3 H)=hS o1a o3 H:=fun g=>Q4 g (by decide)
 by_cases he:off+l.length=ch.length
 ·have hr:r.drop l.length=[]:=by rw[<- h2,List.drop_drop,he,List.drop_length]
  rw[hr]
  exact⟨st [] src 0 (JS ch l1 l2).1 (JS ch l1 l2).2,(fun L H P g hL=>UJ g g (by decide) hL rfl ⟨rfl,rfl⟩ (cuN g) (key (ZAv (n:=1) hP (m4 h5).2.1 (m4 h4).2.2 h3 hl he) rfl)),
   ⟨[],0,_,_,rfl,rfl,qF _,qG _,h5,posF_nil.trans h6⟩⟩
 ·exact⟨st ch src (off+l.length) l1 l2,(fun L H P g hL=>UJ g g (by decide) hL rfl ⟨rfl,rfl⟩ (cuN g) (key (ZAu (n:=1) hP (m4 h4).2.2 h3 hl (Nat.lt_of_le_of_ne hle he)) rfl)),
   ⟨ch,off+l.length,l1,l2,rfl,by rw[<- h2,List.drop_drop],hle,h4,h5,h6⟩⟩
end
theorem Zn{α:Type}(p:α->Prop){c:Prop}[Decidable c]{x y:α}(h1:c->p x)(h2:¬ c->p y):p (if c then x else y):=by
 by_cases h:c
 ·rw[if_pos h];exact h1 h
 ·rw[if_neg h];exact h2 h
theorem Q6{a b:List Nat}{k:Nat}(h:a.length+b.length<=k)(hk:k<=JB):Jn σ0 .add (.str a) (.str b)=some (.str (a++b)):=by
 show gd (Nat.ble (a.length+b.length) JB) _=_
 rw[ble (qA h hk)];rfl
noncomputable def Oo:ME:=(.ite (.cmp2 .le .le (.k (.str [65])) (.loc 33) (.k (.str [90]))) (.bi .chr [(.bop .add (.bi .ord [(.loc 33)]) (.k (.int 32)))]) (.loc 33))
theorem Wj:∀ l:List (List Nat),QG [] l=l.flatten
 |[]=>rfl
 |[x]=>(List.append_nil x).symm
 |x::y::r=>(congrArg (·++QG [] (y::r)) (List.append_nil x)).trans (congrArg (x++·) (Wj (y::r)))
theorem ZAV:∀ l:List (List Nat),Ut (l.map Mine.V.str)=some l:=fun l0=>by
 induction l0 with
 |nil =>
  exact rfl
 |cons x l ih =>
  show bo (Ut (l.map Mine.V.str)) _=_
  rw[ih];rfl
theorem Dv{l:List (List Nat)}(h:(QG [] l).length<=JB):smV σ0 .join [] [.list (l.map .str)]=some (.str (QG [] l)):=by
 show bo (Ut (l.map .str)) (fun ys=>gd (Nat.ble ((ys.map (·.length)).sum+ys.length*0) JB) (some (Mine.V.str (QG [] ys))))=_
 rw[ZAV]
 show gd (Nat.ble ((l.map (·.length)).sum+l.length*0) JB) _=_
 rw[Wj,List.length_flatten] at h
 rw[ble (by exact h)];rfl
section
variable{C:Ora}{L:List (Nat×Mine.V)}{n nx:Nat}{H:List (Id×Ob)}{P:List Nat}{a:Nat}{d:List Nat}
theorem Nk{p:Prop}[Decidable p](h:p):some (decide p)=some true:=congrArg some (decide_eq_true h)
theorem Dq{p:Prop}[Decidable p](h:¬ p):some (decide p)=some false:=congrArg some (decide_eq_false h)
theorem ZEb{i:Int}{t:Nat}(e:i.toNat=t)(h1:decide (0<=i)=true)(h2:decide (i<1114112)=true):biV σ0 .chr [.int i]=some (.str [t]):=by
 show gd (decide (0<=i)&&decide (i<1114112)) (some (Mine.V.str [i.toNat]))=_
 rw[h1,h2,e];rfl
theorem ZIA:ev C Oo ⟨(33,.str [a])::L,H,nx,P⟩=some (.str [lowC a],⟨(33,.str [a])::L,H,nx,P⟩):=by
 refine JC.ev ?_
 by_cases h1:65<=a
 ·by_cases h2:a<=90
  ·have e:lowC a=a+32:=if_pos ⟨h1,h2⟩
   have g:=ZEb (i:=(a:Int)+32) (t:=a+32) rfl (decide_eq_true (Int.natCast_nonneg (a+32))) (decide_eq_true (Int.ofNat_lt.mpr (qL (qO h2 32) (by decide))))
   rw[e]
   exact .b 0 (Nk h1) (.b 0 (Nk h2) (.v 3 g (.done 1)))
  ·have e:lowC a=a:=if_neg fun q=>h2 q.2
   rw[e]
   exact .b 0 (Nk h1) (.b 0 (Dq h2) (.done 2))
 ·have e:lowC a=a:=if_neg fun q=>h1 q.1
  rw[e]
  exact .b 0 (Dq h1) (.done 2)
theorem ZDX:∀ d:List Nat,J3 (Jl (ev C Oo) (ev C (.k (.bool true))) 33 L) (d.map fun c=>.str [c]) ⟨L,H,nx,P⟩=some ((d.map fun a=>[lowC a]).map .str,⟨L,H,nx,P⟩):=fun l0=>by
 induction l0 with
 |nil =>
  exact rfl
 |cons a d ih =>
  show bn (bn (ev C Oo ⟨(33,.str [a])::L,H,nx,P⟩) _) _=_
  rw[ZIA]
  show bn (J3 _ (d.map fun c=>.str [c]) ⟨L,H,nx,P⟩) _=_
  rw[ih];rfl
theorem DF:∀ d:List Nat,(d.map fun a=>[lowC a]).flatten=d.map lowC:=fun l0=>by
 induction l0 with
 |nil =>
  exact rfl
 |cons a d ih =>
  exact congrArg (lowC a::·) (ih)
theorem NZ(hd:d.length<=JB):JH tT (n+1) 34 [.str d] ⟨L,H,nx,P⟩=some (.str (d.map lowC),⟨L,H,nx,P⟩):=by
 have hl:(QG [] (d.map fun a=>[lowC a])).length<=JB:=by rw[Wj,DF,List.length_map];exact hd
 have hj:=Dv hl
 rw[Wj,DF] at hj
 have g1:Nat.ble (d.map fun c=>Mine.V.str [c]).length JB=true:=ble (by rw[List.length_map];exact hd)
 have hc:=ZDX (C:=JH tT n) (L:=[(1,.str d)]) (H:=H) (nx:=nx) (P:=P) d
 refine J7 ?_
 exact .g 1 g1 (.l 0 hc (.v 0 hj (.done 1)))
end
def kTD:List (List Nat):=[wC,wB]
def Jd(n:List Nat):Mine.V:=.dict kTD [.int 7,.str n]
def JN(n:List Nat):Mine.V:=.dict kTD [.int 1,.str n]
def XA(n:List Nat):Mine.V:=.dict kTD [.int 2,.str n]
def S1(q dn:List Mine.V)(s:Sx)(f:Nat)(cv:Mine.V)(tb:Option (List Nat)):St:=⟨[(0,T0)],hs s (H1 q dn (me f) cv tb),7,[99]⟩
theorem Ir{q dn:List Mine.V}{st cv:Mine.V}{tb:Option (List Nat)}(hst:V.blw 7 st=true)(hq:V.blws 7 q=true)(hcv:V.blw 7 cv=true)(hdn:V.blws 7 dn=true):Ud 7 (H1 q dn st cv tb)=true:=by
 have h:(V.blws 7 q&&((V.blw 7 st&&(V.blw 7 cv&&J1 7 (tbF tb)))&&(V.blws 7 dn&&true)))=true:=by
  rw[hst,hq,hcv,hdn];cases tb<;>rfl
 exact h
theorem JT{q dn:List Mine.V}{f:Nat}{cv:Mine.V}{tb:Option (List Nat)}(hdn:V.blws 7 dn=true)(hcv:V.blw 7 cv=true)(hq:V.blws 7 q=true:=by kernel_rfl):Good 7 (H1 q dn (me f) cv tb):=⟨by kernel_rfl,by kernel_rfl,Ir rfl hq hcv hdn⟩
theorem neq{a b:Nat}(h:a≠b):some ([a]==[b])=some false:=congrArg some (xV fun e=>h (qS e).1)
section
variable{f:Nat}{b:Bool}{v:Mine.V}{s s' s2a:Sx}{H H':List (Id×Ob)}{P P':List Nat}{q dn:List Mine.V}{cv:Mine.V}{tb:Option (List Nat)}{a:Nat}{l:List Nat}
theorem stp(g:Good 7 H)(g':Good 7 H')(hr:Rd v s s')(k:JC ((fw 4 (JR f [T0] ⟨[(0,T0)],hs s H,7,P⟩)).oc v ⟨[(0,T0)],hs s' H,7,P⟩) nG (.bool b,hs s2a H',P'))
  (e:(fw 4 (JR f [T0] ⟨[(0,T0)],hs s H,7,P⟩)).gc=FO 10 [T1] ⟨[(0,T0)],hs s H,7,P⟩:=by kernel_rfl):Stp f ⟨[(0,T0)],hs s H,7,P⟩ b ⟨[(0,T0)],hs s2a H',7,P'⟩:=
 OV.trans (JC.toN g' ⟨rfl,rfl⟩ rfl (.c 4 (hr g rfl) k e))
noncomputable def JJ:List Nat:=[67,73,80,82,83,84,98,99,105,108,112,114,115,116]
noncomputable def nlt:List Nat:=[0,32,33,38,45,47,59,60,62]
theorem ZJx{as:List Nat}{H':Nat->List (Id×Ob)}(m:Nat)(ha:a∈as)(g:Good 7 H)(g':Good 7 (H' a))(hr:Rd (.str [a]) s s')
  (e2:∀ a∈as,(fw m ((fw 4 (JR f [T0] ⟨[(0,T0)],hs s H,7,P⟩)).oc (.str [a]) ⟨[(0,T0)],hs s' H,7,P⟩)).out nG=some (.bool true,hs s' (H' a),P'))
  (e:(fw 4 (JR f [T0] ⟨[(0,T0)],hs s H,7,P⟩)).gc=FO 10 [T1] ⟨[(0,T0)],hs s H,7,P⟩:=by kernel_rfl):Stp f ⟨[(0,T0)],hs s H,7,P⟩ true ⟨[(0,T0)],hs s' (H' a),7,P'⟩:=
 stp g g' hr (.done m (e2 a ha)) e
theorem H5{vs:List Mine.V}{H1a:List (Id×Ob)}(n m:Nat)(hv:v∈vs)(g:Good 7 H)(g1:Good 7 H1a)(g':Good 7 H')(hr:Rd v s s')(hu:Un v s' s2a)
  (e1:∀ v∈vs,(fw n ((fw 4 (JR f [T0] ⟨[(0,T0)],hs s H,7,P⟩)).oc v ⟨[(0,T0)],hs s' H,7,P⟩)).gc=FO 17 [T1,v] ⟨[(0,T0),(30,v)],hs s' H1a,7,P⟩)
  (e2:∀ v∈vs,(fw m ((fw n ((fw 4 (JR f [T0] ⟨[(0,T0)],hs s H,7,P⟩)).oc v ⟨[(0,T0)],hs s' H,7,P⟩)).oc .none ⟨[(0,T0),(30,v)],hs s2a H1a,7,P⟩)).out nG=some (.bool true,hs s2a H',P'))
  (e3:∀ v∈vs,J1 7 [(0,T0),(30,v)]=true:=by exact JE (by kernel_rfl))
  (e:(fw 4 (JR f [T0] ⟨[(0,T0)],hs s H,7,P⟩)).gc=FO 10 [T1] ⟨[(0,T0)],hs s H,7,P⟩:=by kernel_rfl):Stp f ⟨[(0,T0)],hs s H,7,P⟩ true ⟨[(0,T0)],hs s2a H',7,P'⟩:=
 stp g g' hr (.c n (hu g1 (e3 v hv)) (.done m (e2 v hv)) (e1 v hv)) e
noncomputable def sg(l:List Nat):List Mine.V:=.none::l.map fun a=>.str [a]
noncomputable def isD(f:Nat):Bool:=Nat.ble 87 f
def bsF(f:Nat):Nat:=bif isD f then 87 else 83
def upF(f:Nat):Nat:=bif Nat.beq f 83 then 81 else bif Nat.beq f 87 then 88 else bif isD f then 90 else 80
def QS(f a:Nat):List Mine.V×Nat×Option (List Nat):=match f with
 |77=>bif Nat.beq a 60 then ([],74,none) else ([Jd QZ,JN [65533]],77,none)
 |74=>bif Nat.beq a 47 then ([],75,some []) else ([JN [60,33]],76,none)
 |76=>([JN [45]],79,none)
 |79=>([JN [45]],80,none)
 |82=>bif Nat.beq a 47 then ([],84,some []) else ([JN [60,a]],85,some [a])
 |84=>([],86,some [a])
 |89=>([JN [47]],91,some [])
 |f=>bif Nat.beq a 45 then ([JN [45]],upF f,none) else bif Nat.beq a 60 then (bif isD f then ([JN [60]],89,none) else ([],82,none)) else bif Nat.beq a 0 then ([Jd QZ,JN [65533]],bsF f,none) else
  bif Nat.beq a 62&&(Nat.beq f 80||Nat.beq f 90) then ([JN [62]],77,none) else ([JN [a]],bsF f,none)
def prO:List (Nat×Nat):=(w9.flatMap fun f=>al.map fun a=>(f,a))++([82,84].flatMap fun f=>JJ.map fun a=>(f,a))++[(77,60),(77,0),(74,47),(74,33),(76,45),(79,45),(82,47),(83,45),(83,60),(83,0),(89,47)]
noncomputable def orT(o tb:Option (List Nat)):Option (List Nat):=match o with
 |some b=>some b
 |none=>tb
def Q9(f:Nat):List Mine.V×Nat:=match f with
 |74=>([JN [60]],77)
 |75=>([JN [60,47]],77)
 |76=>([],77)
 |79=>([],77)
 |82=>([JN [60]],83)
 |84=>([JN [60,47]],83)
 |85=>([],83)
 |_=>([],87)
def WJ(l:List Nat):List Mine.V:=sg (al.filter fun a=>!(l.any (·==a)))
def prB:List (Nat×Mine.V):=([(74,[33,47]),(75,JJ),(76,[45]),(79,[45]),(82,47::JJ),(84,JJ),(89,[47]),(85,[32,47,62]++JJ),(91,[32,47,62]++JJ)]:List (Nat×List Nat)).flatMap fun x=>(WJ x.2).map fun v=>(x.1,v)
section
variable(hdn:V.blws 7 dn=true)(hcv:V.blw 7 cv=true)
include hdn hcv
theorem Xl(hx:(f,a)∈prO)(hr:Rd (.str [a]) s s'):Stp f (S1 [] dn s f cv tb) true (S1 (QS f a).1 dn s' (QS f a).2.1 cv (orT (QS f a).2.2 tb)):=by
 have e3:∀ x∈prO,V.blws 7 (QS x.1 x.2).1=true:=JE (by kernel_rfl)
 have e0:∀ x∈prO,(fw 4 (JR x.1 [T0] ⟨[(0,T0)],hs s (H1 [] dn (me x.1) cv tb),7,[99]⟩)).gc=FO 10 [T1] ⟨[(0,T0)],hs s (H1 [] dn (me x.1) cv tb),7,[99]⟩:=JE (by kernel_rfl)
 have e2:∀ x∈prO,(fw 60 ((fw 4 (JR x.1 [T0] ⟨[(0,T0)],hs s (H1 [] dn (me x.1) cv tb),7,[99]⟩)).oc (.str [x.2]) ⟨[(0,T0)],hs s' (H1 [] dn (me x.1) cv tb),7,[99]⟩)).out nG=some (.bool true,hs s' (H1 (QS x.1 x.2).1 dn (me (QS x.1 x.2).2.1) cv (orT (QS x.1 x.2).2.2 tb)),[99]):=by
  cases tb
  ·exact JE (by kernel_rfl)
  ·exact JE (by kernel_rfl)
 exact stp (JT hdn hcv) (JT hdn hcv (e3 _ hx)) hr (.done 60 (e2 (f,a) hx)) (e0 (f,a) hx)
theorem ZFj(ha:a∈JJ)(hr:Rd (.str [a]) s s'):Stp 75 (S1 [] dn s 75 cv (some [])) true (S1 [] dn s' 78 cv (some [a])):=
 ZJx (H':=fun a=>H1 [] dn (me 78) cv (some [a])) 60 ha (JT hdn hcv) (JT hdn hcv) hr (JE (by kernel_rfl))
theorem ZFC(hr:Rd .none s s'):Stp 77 (S1 [] dn s 77 cv tb) false (S1 [] dn s' 77 cv tb):=by
 refine stp (JT hdn hcv) (JT hdn hcv) hr ?_
 exact .done 60
def qEo(f:Nat):List Mine.V:=bif isD f then [Jd wE] else []
theorem ZHK(hf:f∈w5)(hr:Rd .none s s'):Stp f (S1 [] dn s f cv tb) true (S1 (qEo f) dn s' 9 cv tb):=by
 have e3:∀ f∈w5,V.blws 7 (qEo f)=true:=JE (by kernel_rfl)
 have e0:∀ f∈w5,(fw 4 (JR f [T0] ⟨[(0,T0)],hs s (H1 [] dn (me f) cv tb),7,[99]⟩)).gc=FO 10 [T1] ⟨[(0,T0)],hs s (H1 [] dn (me f) cv tb),7,[99]⟩:=JE (by kernel_rfl)
 have e2:∀ f∈w5,(fw 60 ((fw 4 (JR f [T0] ⟨[(0,T0)],hs s (H1 [] dn (me f) cv tb),7,[99]⟩)).oc .none ⟨[(0,T0)],hs s' (H1 [] dn (me f) cv tb),7,[99]⟩)).out nG=some (.bool true,hs s' (H1 (qEo f) dn (me 9) cv tb),[99]):=by
  cases tb
  ·exact JE (by kernel_rfl)
  ·exact JE (by kernel_rfl)
 exact stp (JT hdn hcv) (JT hdn hcv (e3 _ hf)) hr (.done 60 (e2 f hf)) (e0 f hf)
theorem ZG1(hr:Rd (.str [38]) s s'):Stp 9 (S1 [] dn s 9 cv tb) true (S1 [] dn s' 11 cv tb):=by
 refine stp (JT hdn hcv) (JT hdn hcv) hr ?_
 cases tb<;>exact .done 60
theorem ZGz(hr:Rd (.str [0]) s s'):Stp 9 (S1 [] dn s 9 cv tb) true (S1 [Jd QZ,JN [0]] dn s' 9 cv tb):=by
 refine stp (JT hdn hcv) (JT hdn hcv) hr ?_
 exact .done 60
theorem ZG0(hr:Rd .none s s'):Stp 9 (S1 [] dn s 9 cv tb) false (S1 [] dn s' 9 cv tb):=by
 refine stp (JT hdn hcv) (JT hdn hcv) hr ?_
 exact .done 60
theorem ZIl(hr:Rd (.str [32]) s s')(hu:Cl4 13 [Qm,.bool true] (.str []) s' s2a):Stp 9 (S1 [] dn s 9 cv tb) true (S1 [XA [32]] dn s2a 9 cv tb):=by
 refine stp (JT hdn hcv) (JT hdn hcv) hr ?_
 exact .c 18 (hu (L:=[(0,T0),(30,.str [32])]) (P:=[99]) (JT (f:=9) (q:=[]) (tb:=tb) hdn hcv) rfl) (.done 7)
theorem ZJ3(hr:Rd (.str [98]) s s')(hu:Cl4 13 [.tup [.str [38],.str [60],.str [0]]] (.str []) s' s2a):Stp 9 (S1 [] dn s 9 cv tb) true (S1 [JN [98]] dn s2a 9 cv tb):=by
 refine stp (JT hdn hcv) (JT hdn hcv) hr ?_
 exact .c 14 (hu (L:=[(0,T0),(30,.str [98])]) (P:=[99]) (JT (f:=9) (q:=[]) (tb:=tb) hdn hcv) rfl) (.done 11)
end
end
theorem YD{n:List Nat}(hA:n.all (Nat.blt · 128)=true)(hl:n.length<=1000):smV σ0 .lower n []=some (.str (n.map lowC)):=by
 show gd (n.all (Nat.blt · 128)&&Nat.ble n.length 5592405) _=_
 rw[hA,ble (qA hl (by decide))];rfl
def QT:List Nat:=wU
noncomputable def nBk(f:Nat):Nat:=match f with
 |74=>17
 |82=>17
 |75=>15
 |84=>15
 |85=>9
 |91=>9
 |_=>6
def prT:List (Nat×Nat):=[85,91].flatMap fun f=>JJ.map fun a=>(f,a)
noncomputable def prZ:List (Nat×Nat):=[85,91].flatMap fun f=>[32,47,62].map fun a=>(f,a)
noncomputable def nxT(f:Nat)(x:Bool):Nat:=bif x==Nat.beq f 91 then 83 else 87
section
variable{f:Nat}{v:Mine.V}{s s' s2a:Sx}{dn:List Mine.V}{cv:Mine.V}{tb:Option (List Nat)}{a:Nat}{l bf:List Nat}(hdn:V.blws 7 dn=true)(hcv:V.blw 7 cv=true)
include hdn hcv
theorem ZFD(hr:Rd (.str [a]) s s')(hu:Cl4 13 [.tup [.str [60],.str [0]]] (.str l) s' s2a)(n1:a≠60)(n0:a≠0)(hc:1+l.length<=JB):Stp 77 (S1 [] dn s 77 cv tb) true (S1 [JN (a::l)] dn s2a 77 cv tb):=by
 refine stp (JT hdn hcv) (JT hdn hcv) hr ?_
 exact .b 0 (neq n1) (.b 1 (neq n0) (.c 7 (hu (L:=[(0,T0),(30,.str [a])]) (P:=[99]) (JT (f:=77) (q:=[]) (tb:=tb) hdn hcv) rfl) (.v 4 (Q6 (a:=[a]) (b:=l) hc (qF _)) (.done 6))))
theorem ZHL(hr:Rd (.str [a]) s s')(hu:Cl4 13 [.tup [.str [60],.str [45],.str [0]]] (.str l) s' s2a)(n4:a≠45)(n1:a≠60)(n0:a≠0)(hc:1+l.length<=JB):Stp 83 (S1 [] dn s 83 cv tb) true (S1 [JN (a::l)] dn s2a 83 cv tb):=by
 refine stp (JT hdn hcv) (JT hdn hcv) hr ?_
 exact .b 0 (neq n4) (.b 1 (neq n1) (.b 1 (neq n0) (.c 7 (hu (L:=[(0,T0),(30,.str [a])]) (P:=[99]) (JT (f:=83) (q:=[]) (tb:=tb) hdn hcv) rfl) (.v 4 (Q6 (a:=[a]) (b:=l) hc (qF _)) (.done 6)))))
theorem ZFl(hx:(f,v)∈prB)(hr:Rd v s s')(hu:Un v s' s2a):Stp f (S1 [] dn s f cv tb) true (S1 (Q9 f).1 dn s2a (Q9 f).2 cv tb):=by
 have e3:∀ x∈prB,(V.blws 7 (Q9 x.1).1,J1 7 [(0,T0),(30,x.2)])=(true,true):=JE (by kernel_rfl)
 have e0:∀ x∈prB,(fw 4 (JR x.1 [T0] ⟨[(0,T0)],hs s (H1 [] dn (me x.1) cv tb),7,[99]⟩)).gc=FO 10 [T1] ⟨[(0,T0)],hs s (H1 [] dn (me x.1) cv tb),7,[99]⟩:=JE (by kernel_rfl)
 have e1:∀ x∈prB,(fw (nBk x.1) ((fw 4 (JR x.1 [T0] ⟨[(0,T0)],hs s (H1 [] dn (me x.1) cv tb),7,[99]⟩)).oc x.2 ⟨[(0,T0)],hs s' (H1 [] dn (me x.1) cv tb),7,[99]⟩)).gc=FO 17 [T1,x.2] ⟨[(0,T0),(30,x.2)],hs s' (H1 (Q9 x.1).1 dn (me x.1) cv tb),7,[99]⟩:=JE (by kernel_rfl)
 have e2:∀ x∈prB,(fw 7 ((fw (nBk x.1) ((fw 4 (JR x.1 [T0] ⟨[(0,T0)],hs s (H1 [] dn (me x.1) cv tb),7,[99]⟩)).oc x.2 ⟨[(0,T0)],hs s' (H1 [] dn (me x.1) cv tb),7,[99]⟩)).oc .none ⟨[(0,T0),(30,x.2)],hs s2a (H1 (Q9 x.1).1 dn (me x.1) cv tb),7,[99]⟩)).out nG=some (.bool true,hs s2a (H1 (Q9 x.1).1 dn (me (Q9 x.1).2) cv tb),[99]):=by
  cases tb
  ·exact JE (by kernel_rfl)
  ·exact JE (by kernel_rfl)
 have h3:=e3 _ hx
 exact stp (JT hdn hcv) (JT hdn hcv (congrArg Prod.fst h3)) hr (.c (nBk f) (hu (JT hdn hcv (congrArg Prod.fst h3)) (congrArg Prod.snd h3)) (.done 7 (e2 (f,v) hx)) (e1 (f,v) hx)) (e0 (f,v) hx)
theorem ZEv(hx:(f,a)∈prT)(hr:Rd (.str [a]) s s')(hl:bf.length+1<=JB):Stp f (S1 [] dn s f cv (some bf)) true (S1 [JN [a]] dn s' f cv (some (bf++[a]))):=by
 have e0:∀ x∈prT,(fw 4 (JR x.1 [T0] ⟨[(0,T0)],hs s (H1 [] dn (me x.1) cv (some bf)),7,[99]⟩)).gc=FO 10 [T1] ⟨[(0,T0)],hs s (H1 [] dn (me x.1) cv (some bf)),7,[99]⟩:=JE (by kernel_rfl)
 have e1:∀ x∈prT,(fw 16 ((fw 4 (JR x.1 [T0] ⟨[(0,T0)],hs s (H1 [] dn (me x.1) cv (some bf)),7,[99]⟩)).oc (.str [x.2]) ⟨[(0,T0)],hs s' (H1 [] dn (me x.1) cv (some bf)),7,[99]⟩)).gv=Jn σ0 .add (.str bf) (.str [x.2]):=JE (by kernel_rfl)
 have e2:∀ x∈prT,(fw 4 ((fw 16 ((fw 4 (JR x.1 [T0] ⟨[(0,T0)],hs s (H1 [] dn (me x.1) cv (some bf)),7,[99]⟩)).oc (.str [x.2]) ⟨[(0,T0)],hs s' (H1 [] dn (me x.1) cv (some bf)),7,[99]⟩)).ov (.str (bf++[x.2])))).out nG=some (.bool true,hs s' (H1 [JN [x.2]] dn (me x.1) cv (some (bf++[x.2]))),[99]):=JE (by kernel_rfl)
 exact stp (JT hdn hcv) (JT hdn hcv) hr (.v (X:=Jn σ0 .add (.str bf) (.str [a])) 16 (Q6 hl (qF _)) (.done 4 (e2 (f,a) hx)) (e1 (f,a) hx)) (e0 (f,a) hx)
theorem ZEw(hx:(f,a)∈prZ)(hr:Rd (.str [a]) s s')(hb:bf.all (Nat.blt · 128)=true)(hbl:bf.length<=1000):Stp f (S1 [] dn s f cv (some bf)) true (S1 [JN [a]] dn s' (nxT f (bf.map lowC==QT)) cv (some bf)):=by
 have e0:∀ x∈prZ,(fw 4 (JR x.1 [T0] ⟨[(0,T0)],hs s (H1 [] dn (me x.1) cv (some bf)),7,[99]⟩)).gc=FO 10 [T1] ⟨[(0,T0)],hs s (H1 [] dn (me x.1) cv (some bf)),7,[99]⟩:=JE (by kernel_rfl)
 have e1:∀ x∈prZ,(fw 14 ((fw 4 (JR x.1 [T0] ⟨[(0,T0)],hs s (H1 [] dn (me x.1) cv (some bf)),7,[99]⟩)).oc (.str [x.2]) ⟨[(0,T0)],hs s' (H1 [] dn (me x.1) cv (some bf)),7,[99]⟩)).gv=smV σ0 .lower bf []:=JE (by kernel_rfl)
 have e2:∀ x∈prZ,((fw 14 ((fw 4 (JR x.1 [T0] ⟨[(0,T0)],hs s (H1 [] dn (me x.1) cv (some bf)),7,[99]⟩)).oc (.str [x.2]) ⟨[(0,T0)],hs s' (H1 [] dn (me x.1) cv (some bf)),7,[99]⟩)).ov (.str (bf.map lowC))).gb=some (bf.map lowC==QT):=JE (by kernel_rfl)
 have e3:∀ x∈prZ,∀ z:Bool,(fw 7 (((fw 14 ((fw 4 (JR x.1 [T0] ⟨[(0,T0)],hs s (H1 [] dn (me x.1) cv (some bf)),7,[99]⟩)).oc (.str [x.2]) ⟨[(0,T0)],hs s' (H1 [] dn (me x.1) cv (some bf)),7,[99]⟩)).ov (.str (bf.map lowC))).obo z)).out nG=some (.bool true,hs s' (H1 [JN [x.2]] dn (me (nxT x.1 z)) cv (some bf)),[99]):=fun x hx z=>by
  cases z
  ·exact(JE (by kernel_rfl):∀ x∈prZ,(fw 7 (((fw 14 ((fw 4 (JR x.1 [T0] ⟨[(0,T0)],hs s (H1 [] dn (me x.1) cv (some bf)),7,[99]⟩)).oc (.str [x.2]) ⟨[(0,T0)],hs s' (H1 [] dn (me x.1) cv (some bf)),7,[99]⟩)).ov (.str (bf.map lowC))).obo false)).out nG=some (.bool true,hs s' (H1 [JN [x.2]] dn (me (nxT x.1 false)) cv (some bf)),[99])) x hx
  ·exact(JE (by kernel_rfl):∀ x∈prZ,(fw 7 (((fw 14 ((fw 4 (JR x.1 [T0] ⟨[(0,T0)],hs s (H1 [] dn (me x.1) cv (some bf)),7,[99]⟩)).oc (.str [x.2]) ⟨[(0,T0)],hs s' (H1 [] dn (me x.1) cv (some bf)),7,[99]⟩)).ov (.str (bf.map lowC))).obo true)).out nG=some (.bool true,hs s' (H1 [JN [x.2]] dn (me (nxT x.1 true)) cv (some bf)),[99])) x hx
 exact stp (JT hdn hcv) (JT hdn hcv) hr (.v (X:=smV σ0 .lower bf []) 14 (YD hb hbl) (.b 0 (e2 (f,a) hx) (.done 7 (e3 (f,a) hx _))) (e1 (f,a) hx)) (e0 (f,a) hx)
end
def kSt:List (List Nat):=[wC,wQ,wB]
def XI:List (List Nat):=[wC,wQ,wB,wG]
def cvS(n:List Nat):Mine.V:=.dict kSt [.int 3,.str n,.list []]
structure TG where
 n:List Nat
 ws:List (List Nat)
 sc:Bool
 b:List Nat
noncomputable def att(w:List Nat):Mine.V:=.list [.str w,.str []]
noncomputable abbrev O0:Mine.V:=.obj (.p 0)
noncomputable abbrev O1:Mine.V:=.obj (.p 1)
noncomputable abbrev O2:Mine.V:=.obj (.p 2)
def HA(q dn A:List Mine.V)(f:Nat)(d:TG):List (Id×Ob):=(.p 0,.dict XI [.int 4,.str d.n,O2,.bool d.sc])::(.p 2,.list A)::H1 q dn (me f) O0 (some d.b)
def HT(q dn:List Mine.V)(f:Nat)(d:TG):List (Id×Ob):=HA q dn (d.ws.map att) f d
def HN(q dn:List Mine.V)(f:Nat)(d:TG)(w:List Nat):List (Id×Ob):=(.p 1,.list [.str w,.str []])::HA q dn (d.ws.map att++[O1]) f d
def S2(q dn:List Mine.V)(s:Sx)(f:Nat)(d:TG):St:=⟨[(0,T0)],hs s (HT q dn f d),7,[0,2,99]⟩
def S3(q dn:List Mine.V)(s:Sx)(f:Nat)(d:TG)(w:List Nat):St:=⟨[(0,T0)],hs s (HN q dn f d w),7,wO⟩
def R61(f:Nat)(ap:Mine.V)(s:Sx)(dn:List Mine.V)(cv:Mine.V)(b:List Nat):Rz:=exsK false FO (bif Nat.beq f 78 then O9 else O8).body.tail ⟨[(0,T0),(152,ap)],hs s (H1 [] dn (me f) cv (some b)),7,[99]⟩ .done
section
variable{f:Nat}{b:Bool}{v:Mine.V}{s s' s2a:Sx}{q dn A:List Mine.V}{cv ap:Mine.V}{a:Nat}{l n w bf:List Nat}{d:TG}{ws:List (List Nat)}{L:List (Nat×Mine.V)}{P:List Nat}{H:List (Id×Ob)}
theorem Wh{n:Nat}{l l':List Mine.V}:V.blws n (l++l')=(V.blws n l&&V.blws n l'):=by
 induction l with
 |nil=>rfl
 |cons v l ih=>exact(congrArg (V.blw n v&&·) ih).trans (Bool.and_assoc ..).symm
theorem XY:∀ {ws:List (List Nat)} {l:List Mine.V},V.blws 7 l=true->V.blws 7 (ws.map att++l)=true:=by
 intro l0
 induction l0 with
 |nil =>
  intro _ h
  exact h
 |cons _ ws ih =>
  intro _ h
  exact ih h
theorem YF(hdn:V.blws 7 dn=true)(hA:V.blws 7 A=true)(hq:V.blws 7 q=true:=by kernel_rfl):Good 7 (HA q dn A f d):=⟨by kernel_rfl,by kernel_rfl,by
 show (V.blws 7 A&&Ud 7 (H1 q dn (me f) O0 (some d.b)))=true
 rw[hA,Ir rfl hq rfl hdn];rfl⟩
theorem Jx(hdn:V.blws 7 dn=true)(hq:V.blws 7 q=true:=by kernel_rfl):Good 7 (HT q dn f d):=YF hdn (by have h:=XY (ws:=d.ws) (l:=[]) rfl;rw[List.append_nil] at h;exact h) hq
theorem QQ(hdn:V.blws 7 dn=true)(hq:V.blws 7 q=true:=by kernel_rfl):Good 7 (HN q dn f d w):=
 have g:Good 7 (HA q dn (d.ws.map att++[O1]) f d):=YF hdn (XY rfl) hq
 ⟨congrArg (List.cons _) g.f,congrArg (List.cons _) g.c,g.b⟩
theorem Jm{a b:Nat}(h:f∈[a,b]):f=a\/f=b:=(List.mem_cons.mp h).imp_right List.mem_singleton.mp
theorem ZBo{z}(hf:f∈[78,86])(hn:n.all (Nat.blt · 128)=true)(hnl:n.length<=1000)(hb:bf.all (Nat.blt · 128)=true)(hbl:bf.length<=1000){x:Bool}(hx:(n.map lowC==bf.map lowC)=x)(h:JC (R61 f (.bool x) s dn (cvS n) bf) nG z):JC (JR f [T0] (S1 [] dn s f (cvS n) (some bf))) nG z:=by
 rcases Jm hf with rfl |rfl
 ·refine .v 6 (YD hn hnl) (.v 2 (YD hb hbl) (.b 0 (congrArg some hx) ?_))
  exact Eq.subst (motive:=fun r=>JC r nG z) (by kernel_rfl:R61 78 (.bool x) s dn (cvS n) bf=_) h
 ·refine .v 6 (YD hn hnl) (.v 2 (YD hb hbl) (.b 0 (congrArg some hx) ?_))
  exact Eq.subst (motive:=fun r=>JC r nG z) (by kernel_rfl:R61 86 (.bool x) s dn (cvS n) bf=_) h
noncomputable def em1(c:Bool)(x:Mine.V)(q:List Mine.V):List Mine.V:=match c with
 |true=>q++[x]
 |false=>q
theorem ZQ{c:Bool}{x:Mine.V}:(em1 c x q).length<=q.length+1:=by
 cases c
 ·exact xD _
 ·exact qV List.length_append
def Qa:List Nat:=wV
def Zk:List Nat:=wN
def emQ(de sc:Bool)(q:List Mine.V):List Mine.V:=em1 sc (Jd Zk) (em1 de (Jd Qa) q)
def TG.low(d:TG):TG:=⟨d.n.map lowC,d.ws,d.sc,d.b⟩
theorem ZGs{de:Bool}(hd:bd A.length (some (!A.isEmpty))=some de)(hq:q.length<=100)(hn:d.n.length<=JB):JH tT 5 64 [T0] ⟨L,hs s (HA q dn A f d),7,P⟩=some (.none,⟨L,hs s (HA (emQ de d.sc q++[O0]) dn A 9 d.low),7,P⟩):=by
 obtain⟨n,ws,sc,bf⟩:=d
 have g0:Nat.ble q.length JB=true:=ble (qA hq (by decide))
 have g1:Nat.ble (em1 de (Jd Qa) q).length JB=true:=ble (qA (qA ZQ (qJ hq)) (by decide))
 have g2:Nat.ble (emQ de sc q).length JB=true:=ble (qA (qA ZQ (qJ (qA ZQ (qJ hq)))) (by decide))
 refine J7 ?_
 refine .c 6 (NZ (n:=3) (d:=n) (L:=[(0,T0),(83,O0)]) (nx:=7) (H:=hs s (HA q dn A f ⟨n,ws,sc,bf⟩)) (P:=P) hn) (.b 11 hd (?_))
 cases de<;>cases sc
 ·exact .g 6 g2 (.done 7)
 ·exact .g 9 g1 (.g 5 g2 (.done 7))
 ·exact .g 7 g0 (.g 7 g2 (.done 7))
 ·exact .g 7 g0 (.g 10 g1 (.g 5 g2 (.done 7)))
theorem ZET{o:Ob}(hd:bd A.length (some (!A.isEmpty))=some true)(hq:q.length<=100)(hn:n.length<=JB):JH tT 5 64 [T0] ⟨L,hs s ((.p 1,o)::HA q dn A f ⟨n,ws,false,bf⟩),7,P⟩=some (.none,⟨L,hs s ((.p 1,o)::HA (q++[Jd Qa]++[O0]) dn A 9 ⟨n.map lowC,ws,false,bf⟩),7,P⟩):=by
 have g0:Nat.ble q.length JB=true:=ble (qA hq (by decide))
 have g1:Nat.ble (q++[Jd Qa]).length JB=true:=ble (qA (qA (qV List.length_append) (qJ hq)) (by decide))
 refine J7 ?_
 exact .c 6 (NZ (n:=3) (d:=n) (L:=[(0,T0),(83,O0)]) (nx:=7) (H:=hs s ((.p 1,o)::HA q dn A f ⟨n,ws,false,bf⟩)) (P:=P) hn) (.b 11 hd (.g 7 g0 (.g 7 g1 (.done 7))))
theorem WZ{c:Bool}{x:Mine.V}(h:V.blws 7 q=true)(hx:V.blws 7 [x]=true):V.blws 7 (em1 c x q)=true:=by
 cases c
 ·exact h
 ·show V.blws 7 (q++[x])=true
  rw[Wh,h,hx];rfl
theorem OT{de sc:Bool}(h:V.blws 7 q=true):V.blws 7 (emQ de sc q++[O0])=true:=by
 rw[Wh,emQ,WZ (WZ h rfl) rfl];rfl
theorem Zr{de:Bool}{X:List (Id×Ob)}(e:QR ids X=hs s (HA q dn A f d))(hd:bd A.length (some (!A.isEmpty))=some de)(hq:q.length<=100)(hn:d.n.length<=JB)(hdn:V.blws 7 dn=true)(hA:V.blws 7 A=true)(hqb:V.blws 7 q=true)(hL:J1 7 L=true):
  FO 64 [T0] ⟨L,X,7,P⟩=some (.none,⟨L,hs s (HA (emQ de d.sc q++[O0]) dn A 9 d.low),7,P⟩):=
 have g:Good 7 (HA (emQ de d.sc q++[O0]) dn A 9 d.low):=YF hdn hA (OT hqb)
 have e':=Q4 (o1a:=I1 s.ch s.sz s.off s.l1 s.l2) (o3:=I3 s.src s.pl) g (by decide)
 Kw (ZGs hd hq hn) (Ys g (by decide) hL rfl ⟨rfl,rfl⟩ e') e e'
theorem ZGt(hd:bd A.length (some (!A.isEmpty))=some true)(hq:q.length<=100)(hn:n.length<=JB)(hdn:V.blws 7 dn=true)(hA:V.blws 7 A=true)(hqb:V.blws 7 q=true)(hL:J1 7 L=true):
  FO 64 [T0] ⟨L,hs s ((.p 1,.list [.str w,.str []])::HA q dn A f ⟨n,ws,false,bf⟩),7,P⟩=some (.none,⟨L,hs s ((.p 1,.list [.str w,.str []])::HA (q++[Jd Qa]++[O0]) dn A 9 ⟨n.map lowC,ws,false,bf⟩),7,P⟩):=
 have g0:Good 7 (HA (q++[Jd Qa]++[O0]) dn A 9 ⟨n.map lowC,ws,false,bf⟩):=YF hdn hA (by rw[Wh,Wh,hqb];rfl)
 have g:Good 7 ((.p 1,.list [.str w,.str []])::HA (q++[Jd Qa]++[O0]) dn A 9 ⟨n.map lowC,ws,false,bf⟩):=⟨congrArg (List.cons _) g0.f,congrArg (List.cons _) g0.c,g0.b⟩
 have g1:Good 7 (HA q dn A f ⟨n,ws,false,bf⟩):=YF hdn hA hqb
 have e':=Q4 (o1a:=I1 s.ch s.sz s.off s.l1 s.l2) (o3:=I3 s.src s.pl) g (by decide)
 Kw (ZET hd hq hn) (Ys g (by decide) hL rfl ⟨rfl,rfl⟩ e') (congrArg (fun l=>hs s ((.p 1,.list [.str w,.str []])::l)) g1.f) e'
end
def Ol:List Nat:=wK
def Om:List Nat:=wY
def Uh:List Nat:=wH
def Ug:List Nat:=wJ
def W5:List Nat:=wI
def Uf:List Nat:=wD
def prL:List (Nat×Mine.V×Nat):=[78,86].flatMap fun f=>[.bool false,.bool true].flatMap fun p=>JJ.map fun a=>(f,p,a)
def prE:List (Nat×Mine.V×Mine.V):=[78,86].flatMap fun f=>((sg nlt).map fun v=>(f,.bool false,v))++(sg wZ).map fun v=>(f,.bool true,v)
def prW:List (Nat×Nat):=[62,66].flatMap fun f=>(wZ++JJ).map fun a=>(f,a)
noncomputable def wW(a:Nat):List Nat:=bif Nat.beq a 0 then [65533] else [a]
def qW(f a:Nat):List Mine.V:=bif Nat.beq a 60 then [Jd (bif Nat.beq f 62 then Ol else Om)] else bif Nat.beq a 0 then [Jd QZ] else []
noncomputable def nW(f a:Nat):Nat:=bif Nat.beq a 60 then (bif Nat.beq f 62 then 25 else 29) else bif Nat.beq a 0 then 27 else bif Nat.ble 65 a then (bif Nat.beq f 62 then 10 else 14) else bif Nat.beq f 62 then 20 else 22
noncomputable def bsE(f:Nat):Nat:=bif Nat.beq f 78 then 77 else 83
section
variable{f:Nat}{b:Bool}{v:Mine.V}{s s' s2a:Sx}{q dn A:List Mine.V}{cv ap:Mine.V}{a:Nat}{l n w bf:List Nat}{d:TG}{ws:List (List Nat)}{L:List (Nat×Mine.V)}{P:List Nat}{H:List (Id×Ob)}
section
variable(hdn:V.blws 7 dn=true)(hcv:V.blw 7 cv=true)
include hdn hcv
theorem ZFm(hx:(f,ap,a)∈prL)(hr:Rd (.str [a]) s s')(hl:bf.length+1<=JB):JC (R61 f ap s dn cv bf) nG (.bool true,hs s' (H1 [] dn (me f) cv (some (bf++[a]))),[99]):=
 have e0:∀ x∈prL,(fw 4 (R61 x.1 x.2.1 s dn cv bf)).gc=FO 10 [T1] ⟨[(0,T0),(152,x.2.1)],hs s (H1 [] dn (me x.1) cv (some bf)),7,[99]⟩:=JE (by kernel_rfl)
 have eL:∀ x∈prL,J1 7 [(0,T0),(152,x.2.1)]=true:=JE (by kernel_rfl)
 have e1:∀ x∈prL,(fw 13 ((fw 4 (R61 x.1 x.2.1 s dn cv bf)).oc (.str [x.2.2]) ⟨[(0,T0),(152,x.2.1)],hs s' (H1 [] dn (me x.1) cv (some bf)),7,[99]⟩)).gv=Jn σ0 .add (.str bf) (.str [x.2.2]):=JE (by kernel_rfl)
 have e2:∀ x∈prL,(fw 4 ((fw 13 ((fw 4 (R61 x.1 x.2.1 s dn cv bf)).oc (.str [x.2.2]) ⟨[(0,T0),(152,x.2.1)],hs s' (H1 [] dn (me x.1) cv (some bf)),7,[99]⟩)).ov (.str (bf++[x.2.2])))).out nG=some (.bool true,hs s' (H1 [] dn (me x.1) cv (some (bf++[x.2.2]))),[99]):=JE (by kernel_rfl)
 .c (X:=FO 10 [T1] ⟨[(0,T0),(152,ap)],hs s (H1 [] dn (me f) cv (some bf)),7,[99]⟩) 4 (hr (JT hdn hcv) (eL (f,ap,a) hx)) (.v (X:=Jn σ0 .add (.str bf) (.str [a])) 13 (Q6 hl (qF _)) (.done 4 (e2 (f,ap,a) hx)) (e1 (f,ap,a) hx)) (e0 (f,ap,a) hx)
theorem Dp(hx:(f,ap,v)∈prE)(hr:Rd v s s')(hu:Un v s' s2a)(hl:2+bf.length<=JB):JC (R61 f ap s dn cv bf) nG (.bool true,hs s2a (H1 [JN (60::47::bf)] dn (me (bsE f)) cv (some bf)),[99]):=
 have e0:∀ x∈prE,(fw 4 (R61 x.1 x.2.1 s dn cv bf)).gc=FO 10 [T1] ⟨[(0,T0),(152,x.2.1)],hs s (H1 [] dn (me x.1) cv (some bf)),7,[99]⟩:=JE (by kernel_rfl)
 have eL:∀ x∈prE,(J1 7 [(0,T0),(152,x.2.1)],J1 7 [(0,T0),(152,x.2.1),(30,x.2.2)])=(true,true):=JE (by kernel_rfl)
 have e1:∀ x∈prE,(fw 17 ((fw 4 (R61 x.1 x.2.1 s dn cv bf)).oc x.2.2 ⟨[(0,T0),(152,x.2.1)],hs s' (H1 [] dn (me x.1) cv (some bf)),7,[99]⟩)).gv=Jn σ0 .add (.str [60,47]) (.str bf):=JE (by kernel_rfl)
 have e2:∀ x∈prE,(fw 9 ((fw 17 ((fw 4 (R61 x.1 x.2.1 s dn cv bf)).oc x.2.2 ⟨[(0,T0),(152,x.2.1)],hs s' (H1 [] dn (me x.1) cv (some bf)),7,[99]⟩)).ov (.str ([60,47]++bf)))).gc=FO 17 [T1,x.2.2] ⟨[(0,T0),(152,x.2.1),(30,x.2.2)],hs s' (H1 [JN (60::47::bf)] dn (me x.1) cv (some bf)),7,[99]⟩:=JE (by kernel_rfl)
 have e3:∀ x∈prE,(fw 9 ((fw 9 ((fw 17 ((fw 4 (R61 x.1 x.2.1 s dn cv bf)).oc x.2.2 ⟨[(0,T0),(152,x.2.1)],hs s' (H1 [] dn (me x.1) cv (some bf)),7,[99]⟩)).ov (.str ([60,47]++bf)))).oc .none ⟨[(0,T0),(152,x.2.1),(30,x.2.2)],hs s2a (H1 [JN (60::47::bf)] dn (me x.1) cv (some bf)),7,[99]⟩)).out nG=some (.bool true,hs s2a (H1 [JN (60::47::bf)] dn (me (bsE x.1)) cv (some bf)),[99]):=JE (by kernel_rfl)
 .c (X:=FO 10 [T1] ⟨[(0,T0),(152,ap)],hs s (H1 [] dn (me f) cv (some bf)),7,[99]⟩) 4 (hr (JT hdn hcv) (congrArg Prod.fst (eL (f,ap,v) hx))) (.v (X:=Jn σ0 .add (.str [60,47]) (.str bf)) 17 (Q6 hl (qF _))
  (.c (X:=FO 17 [T1,v] ⟨[(0,T0),(152,ap),(30,v)],hs s' (H1 [JN (60::47::bf)] dn (me f) cv (some bf)),7,[99]⟩) 9 (hu (JT hdn hcv rfl) (congrArg Prod.snd (eL (f,ap,v) hx))) (.done 9 (e3 (f,ap,v) hx)) (e2 (f,ap,v) hx)) (e1 (f,ap,v) hx)) (e0 (f,ap,v) hx)
theorem ZH2(hf:f∈[78,86])(hr:Rd (.str [32]) s s'):JC (R61 f (.bool true) s dn cv bf) nG (.bool true,hs s' (HT [] dn 62 ⟨bf,[],false,bf⟩),[0,2,99]):=by
 rcases Jm hf with rfl |rfl
 ·exact .c 4 (hr (L:=[(0,T0),(152,.bool true)]) (P:=[99]) (JT (f:=78) (q:=[]) (tb:=some bf) hdn hcv) rfl) (.done 18)
 ·exact .c 4 (hr (L:=[(0,T0),(152,.bool true)]) (P:=[99]) (JT (f:=86) (q:=[]) (tb:=some bf) hdn hcv) rfl) (.done 18)
theorem ZH3(hf:f∈[78,86])(hr:Rd (.str [47]) s s'):JC (R61 f (.bool true) s dn cv bf) nG (.bool true,hs s' (HT [] dn 63 ⟨bf,[],false,bf⟩),[0,2,99]):=by
 rcases Jm hf with rfl |rfl
 ·exact .c 4 (hr (L:=[(0,T0),(152,.bool true)]) (P:=[99]) (JT (f:=78) (q:=[]) (tb:=some bf) hdn hcv) rfl) (.done 40)
 ·exact .c 4 (hr (L:=[(0,T0),(152,.bool true)]) (P:=[99]) (JT (f:=86) (q:=[]) (tb:=some bf) hdn hcv) rfl) (.done 40)
theorem ZH5(hf:f∈[78,86])(hr:Rd (.str [62]) s s')(hb:bf.length<=JB):JC (R61 f (.bool true) s dn cv bf) nG (.bool true,hs s' (HT [O0] dn 9 ⟨bf.map lowC,[],false,bf⟩),[0,2,99]):=by
 rcases Jm hf with rfl |rfl
 ·exact .c 4 (hr (L:=[(0,T0),(152,.bool true)]) (P:=[99]) (JT (f:=78) (q:=[]) (tb:=some bf) hdn hcv) rfl) (.c 20 (Zr (s:=s') (q:=[]) (dn:=dn) (A:=[]) (f:=78) (d:=⟨bf,[],false,bf⟩) (L:=[(0,T0),(152,.bool true),(30,.str [62])]) (P:=[0,2,99]) (X:=(.p 0,.dict XI [.int 4,.str bf,O2,.bool false])::(.p 2,.list [])::hs s' (H1 [] dn (me 78) O0 (some bf))) (by kernel_rfl) rfl (qG _) hb hdn rfl rfl rfl) (.done 40))
 ·exact .c 4 (hr (L:=[(0,T0),(152,.bool true)]) (P:=[99]) (JT (f:=86) (q:=[]) (tb:=some bf) hdn hcv) rfl) (.c 20 (Zr (s:=s') (q:=[]) (dn:=dn) (A:=[]) (f:=86) (d:=⟨bf,[],false,bf⟩) (L:=[(0,T0),(152,.bool true),(30,.str [62])]) (P:=[0,2,99]) (X:=(.p 0,.dict XI [.int 4,.str bf,O2,.bool false])::(.p 2,.list [])::hs s' (H1 [] dn (me 86) O0 (some bf))) (by kernel_rfl) rfl (qG _) hb hdn rfl rfl rfl) (.done 40))
end
section
variable(hdn:V.blws 7 dn=true)
include hdn
theorem ZJK(hf:f∈[62,66])(hr:Rd (.str [32]) s s')(hu:Cl4 13 [Qm,.bool true] (.str l) s' s2a):Stp f (S2 [] dn s f d) true (S2 [] dn s2a f d):=
 have e0:∀ f∈[62,66],(fw 4 (JR f [T0] (S2 [] dn s f d))).gc=FO 10 [T1] ⟨[(0,T0)],hs s (HT [] dn f d),7,[0,2,99]⟩:=JE (by kernel_rfl)
 have e1:∀ f∈[62,66],(fw 6 ((fw 4 (JR f [T0] (S2 [] dn s f d))).oc (.str [32]) ⟨[(0,T0)],hs s' (HT [] dn f d),7,[0,2,99]⟩)).gc=FO 13 [T1,Qm,.bool true] ⟨[(0,T0),(30,.str [32])],hs s' (HT [] dn f d),7,[0,2,99]⟩:=JE (by kernel_rfl)
 have e2:∀ f∈[62,66],(fw 2 ((fw 6 ((fw 4 (JR f [T0] (S2 [] dn s f d))).oc (.str [32]) ⟨[(0,T0)],hs s' (HT [] dn f d),7,[0,2,99]⟩)).oc (.str l) ⟨[(0,T0),(30,.str [32])],hs s2a (HT [] dn f d),7,[0,2,99]⟩)).out nG=some (.bool true,hs s2a (HT [] dn f d),[0,2,99]):=JE (by kernel_rfl)
 stp (Jx hdn) (Jx hdn) hr (.c 6 (hu (Jx hdn) rfl) (.done 2 (e2 f hf)) (e1 f hf)) (e0 f hf)
theorem ZEy(hx:(f,a)∈prW)(hr:Rd (.str [a]) s s')(hl:(d.ws.map att).length<=JB):Stp f (S2 [] dn s f d) true (S3 (qW f a) dn s' 65 d (wW a)):=
 have e0:∀ x∈prW,(fw 4 (JR x.1 [T0] (S2 [] dn s x.1 d))).gc=FO 10 [T1] ⟨[(0,T0)],hs s (HT [] dn x.1 d),7,[0,2,99]⟩:=JE (by kernel_rfl)
 have e1:∀ x∈prW,(fw (nW x.1 x.2) ((fw 4 (JR x.1 [T0] (S2 [] dn s x.1 d))).oc (.str [x.2]) ⟨[(0,T0)],hs s' (HT [] dn x.1 d),7,[0,2,99]⟩)).gg=Nat.ble (d.ws.map att).length JB:=JE (by kernel_rfl)
 have e2:∀ x∈prW,(fw 7 ((fw (nW x.1 x.2) ((fw 4 (JR x.1 [T0] (S2 [] dn s x.1 d))).oc (.str [x.2]) ⟨[(0,T0)],hs s' (HT [] dn x.1 d),7,[0,2,99]⟩)).og)).out nG=some (.bool true,hs s' (HN (qW x.1 x.2) dn 65 d (wW x.2)),wO):=JE (by kernel_rfl)
 have e3:∀ x∈prW,V.blws 7 (qW x.1 x.2)=true:=JE (by kernel_rfl)
 stp (Jx hdn) (QQ hdn (e3 _ hx)) hr (.g (nW f a) (ble hl) (.done 7 (e2 _ hx)) (e1 _ hx)) (e0 _ hx)
theorem ZJL(hf:f∈[62,66])(hr:Rd (.str [47]) s s'):Stp f (S2 [] dn s f d) true (S2 [] dn s' 63 d):=
 have e0:∀ f∈[62,66],(fw 4 (JR f [T0] (S2 [] dn s f d))).gc=FO 10 [T1] ⟨[(0,T0)],hs s (HT [] dn f d),7,[0,2,99]⟩:=JE (by kernel_rfl)
 have e1:∀ f∈[62,66],(fw 60 ((fw 4 (JR f [T0] (S2 [] dn s f d))).oc (.str [47]) ⟨[(0,T0)],hs s' (HT [] dn f d),7,[0,2,99]⟩)).out nG=some (.bool true,hs s' (HT [] dn 63 d),[0,2,99]):=JE (by kernel_rfl)
 stp (Jx hdn) (Jx hdn) hr (.done 60 (e1 f hf)) (e0 f hf)
def nEo(f:Nat):List Nat:=bif Nat.beq f 62 then Uh else Ug
theorem HJ(hf:f∈[62,66])(hr:Rd .none s s'):Stp f (S2 [] dn s f d) true (S2 [Jd (nEo f)] dn s' 9 d):=
 have e0:∀ f∈[62,66],(fw 4 (JR f [T0] (S2 [] dn s f d))).gc=FO 10 [T1] ⟨[(0,T0)],hs s (HT [] dn f d),7,[0,2,99]⟩:=JE (by kernel_rfl)
 have e1:∀ f∈[62,66],(fw 60 ((fw 4 (JR f [T0] (S2 [] dn s f d))).oc .none ⟨[(0,T0)],hs s' (HT [] dn f d),7,[0,2,99]⟩)).out nG=some (.bool true,hs s' (HT [Jd (nEo f)] dn 9 d),[0,2,99]):=JE (by kernel_rfl)
 stp (Jx hdn) (Jx hdn rfl) hr (.done 60 (e1 f hf)) (e0 f hf)
theorem ZJM{de:Bool}(hf:f∈[62,66])(hr:Rd (.str [62]) s s')(hd:bd (d.ws.map att).length (some (!(d.ws.map att).isEmpty))=some de)(hn:d.n.length<=JB):Stp f (S2 [] dn s f d) true (S2 (emQ de d.sc []++[O0]) dn s' 9 d.low):=
 have hA:V.blws 7 (d.ws.map att)=true:=by have h:=XY (ws:=d.ws) (l:=[]) rfl;rw[List.append_nil] at h;exact h
 have e0:∀ f∈[62,66],(fw 4 (JR f [T0] (S2 [] dn s f d))).gc=FO 10 [T1] ⟨[(0,T0)],hs s (HT [] dn f d),7,[0,2,99]⟩:=JE (by kernel_rfl)
 have e1:∀ f∈[62,66],(fw 8 ((fw 4 (JR f [T0] (S2 [] dn s f d))).oc (.str [62]) ⟨[(0,T0)],hs s' (HT [] dn f d),7,[0,2,99]⟩)).gc=FO 64 [T0] ⟨[(0,T0),(30,.str [62])],hs s' (HT [] dn f d),7,[0,2,99]⟩:=JE (by kernel_rfl)
 have e2:∀ f∈[62,66],(fw 9 ((fw 8 ((fw 4 (JR f [T0] (S2 [] dn s f d))).oc (.str [62]) ⟨[(0,T0)],hs s' (HT [] dn f d),7,[0,2,99]⟩)).oc .none ⟨[(0,T0),(30,.str [62])],hs s' (HT (emQ de d.sc []++[O0]) dn 9 d.low),7,[0,2,99]⟩)).out nG=some (.bool true,hs s' (HT (emQ de d.sc []++[O0]) dn 9 d.low),[0,2,99]):=JE (by kernel_rfl)
 stp (Jx hdn) (Jx hdn (OT rfl)) hr (.c 8 (Zr (q:=[]) (f:=f) (KK (Jx hdn)) hd (qG _) hn hdn hA rfl rfl) (.done 9 (e2 f hf)) (e1 f hf)) (e0 f hf)
theorem ZJU{de:Bool}(hr:Rd (.str [62]) s s')(hd:bd (d.ws.map att).length (some (!(d.ws.map att).isEmpty))=some de)(hn:d.n.length<=JB):Stp 63 (S2 [] dn s 63 d) true (S2 (emQ de true []++[O0]) dn s' 9 ⟨d.n.map lowC,d.ws,true,d.b⟩):=
 have hA:V.blws 7 (d.ws.map att)=true:=by have h:=XY (ws:=d.ws) (l:=[]) rfl;rw[List.append_nil] at h;exact h
 stp (Jx hdn) (Jx (d:=⟨d.n.map lowC,d.ws,true,d.b⟩) hdn (OT rfl)) hr (.c 8 (Zr (s:=s') (L:=[(0,T0),(30,.str [62])]) (P:=[0,2,99]) (q:=[]) (f:=63) (d:=⟨d.n,d.ws,true,d.b⟩) (KK (Jx (d:=⟨d.n,d.ws,true,d.b⟩) hdn)) hd (qG _) hn hdn hA rfl rfl) (.done 9))
theorem ZHl(hr:Rd .none s s')(hu:Un .none s' s2a):Stp 63 (S2 [] dn s 63 d) true (S2 [Jd W5] dn s2a 9 d):=
 H5 (vs:=[.none]) (H1a:=HT [Jd W5] dn 63 d) 17 9 (.head _) (Jx hdn) (Jx hdn rfl) (Jx hdn rfl) hr hu (JE (by kernel_rfl)) (JE (by kernel_rfl))
theorem ZFH(ha:v∈([0,32,33,38,45,47,59,60]++JJ).map fun a=>Mine.V.str [a])(hr:Rd v s s')(hu:Un v s' s2a):Stp 63 (S2 [] dn s 63 d) true (S2 [Jd Uf] dn s2a 62 d):=
 H5 (H1a:=HT [Jd Uf] dn 63 d) 17 9 ha (Jx hdn) (Jx hdn rfl) (Jx hdn rfl) hr hu (JE (by kernel_rfl)) (JE (by kernel_rfl))
end
end
end Mine
end
noncomputable section
open PySem
namespace Mine
def QU:List Nat:=wM
def Qg:List Nat:=wL
def ZID:ME:=.sub (.sub (.sub (.attr (.loc 0) 45 3) (.k (.str wB))) (.neg (.k (.int 1)))) (.k (.int 0))
def Z5:List MS:=[.iff (.cmp .eq ZID (.loc 66)) [.ex (.app (.attr (.loc 0) 48 3) (.dct kTD [(.sub (.glob UC) (.k (.str w4))),(.k (.str QU))] .frz)),.brk] []]
def lv0(v:Mine.V)(e:Bool):List (Nat×Mine.V):=[(0,T0),(30,v),(157,.bool true),(158,.bool e)]
def lv1(v:Mine.V)(e:Bool)(n:List Nat):List (Nat×Mine.V):=[(0,T0),(30,v),(157,.bool true),(158,.bool e),(66,.str n),(160,.str [])]
section
variable{f:Nat}{b e:Bool}{v:Mine.V}{s s' s2a:Sx}{q dn A:List Mine.V}{cv ap:Mine.V}{a:Nat}{l n w bf:List Nat}{d:TG}{ws:List (List Nat)}{L:List (Nat×Mine.V)}{P:List Nat}{H:List (Id×Ob)}{ov:Mine.V}
theorem Us(h:A.length<JB):Ue (A++[O1]) (.int (-1))=some O1:=by
 show gd (Nat.ble (A++[O1]).length JB) (bo (seqIndex? (-1) (A++[O1]).length) fun j=>(A++[O1])[j]?)=_
 rw[List.length_append,ble (show A.length+[O1].length<=JB from h)]
 show bo (seqIndex? (-1) (A.length+1)) _=_
 rw[Yn]
 exact List.getElem?_concat_length
theorem Gd(h:A.length<JB):slV ⟨[],[(.p 2,.list (A++[O1]))],0,[]⟩ O2 .none (.int (-1))=some (.list A):=by
 show gd (Nat.ble (A++[O1]).length JB) (some (Mine.V.list (cut (A++[O1]) 0 (clampIx (A++[O1]).length (-1)))))=_
 rw[List.length_append,ble (show A.length+[O1].length<=JB from h)]
 have e:clampIx (A.length+[O1].length) (-1)=A.length:=by
  show (max 0 (min (if (-1:Int)<0 then (-1:Int)+(A.length+1:Nat) else -1) ((A.length+1:Nat):Int))).toNat=_
  rw[if_pos (by decide),((Int.add_comm _ _).trans (Int.add_sub_cancel (A.length:Int) 1):(-1+(A.length+1:Nat):Int)=A.length),Int.min_eq_left (Int.ofNat_le.mpr (xD _)),Int.max_eq_right (Int.natCast_nonneg _),Int.toNat_natCast]
 rw[e]
 show some (Mine.V.list (((A++[O1]).take A.length).drop 0))=_
 rw[List.take_left' rfl];rfl
theorem ZGv(hA:(d.ws.map att).length<JB)(h:(w==n)=false):exs FO Z5 ⟨lv1 v e n,hs s (HN q dn f d w),7,P⟩=some (.next,⟨lv1 v e n,hs s (HN q dn f d w),7,P⟩):=by
 refine JC.exs ?_
 exact .v 3 (Us hA) (.b 1 (congrArg some h) (.done 2))
theorem ZEU(hA:(d.ws.map att).length<JB)(h:(w==n)=true)(hq:q.length<=JB):exs FO Z5 ⟨lv1 v e n,hs s (HN q dn f d w),7,P⟩=some (.brk,⟨lv1 v e n,hs s (HN (q++[Jd QU]) dn f d w),7,P⟩):=by
 have g:=ble hq
 refine JC.exs ?_
 exact .v 3 (Us hA) (.b 1 (congrArg some h) (.g 8 g (.done 2)))
def Ij:List Mine.V->St->Option (FL×St):=QI (fun v U=>bo (WN v) fun vs=>UD [66,160] vs U) (exs FO Z5)
theorem ZCQ(hA:(d.ws.map att).length<JB)(hq:q.length<=JB):∀ (ws:List (List Nat)) (n:List Nat),∃ n',Ij (ws.map att) ⟨lv1 v e n,hs s (HN q dn f d w),7,P⟩=some (.next,⟨lv1 v e n',hs s (HN (em1 (ws.any (w==·)) (Jd QU) q) dn f d w),7,P⟩):=fun l0=>by
 induction l0 with
 |nil =>
  exact fun n=>⟨n,rfl⟩
 |cons m ws ih =>
  intro n
  show ∃ n',bn (exs FO Z5 ⟨lv1 v e m,hs s (HN q dn f d w),7,P⟩) _=_
  rw[List.any_cons]
  cases h:w==m with
  |true=>rw[ZEU hA h hq];exact⟨m,rfl⟩
  |false=>rw[ZGv hA h];exact ih m
theorem GF(hA:(d.ws.map att).length<JB)(hq:q.length<=JB):∃ X,J1 7 X=true/\Ij (d.ws.map att) ⟨lv0 v e,hs s (HN q dn f d w),7,P⟩=some (.next,⟨lv0 v e++X,hs s (HN (em1 (d.ws.any (w==·)) (Jd QU) q) dn f d w),7,P⟩):=by
 generalize hws:d.ws=ws
 cases ws with
 |nil=>exact⟨[],rfl,rfl⟩
 |cons m ws =>
  obtain⟨n',e'⟩:=ZCQ (v:=v) (e:=e) (s:=s) (dn:=dn) (f:=f) (w:=w) (P:=P) (d:=d) hA hq (m::ws) m
  exact⟨[(66,.str n'),(160,.str [])],rfl,e'⟩
def R65(v:Mine.V)(e:Bool)(q dn:List Mine.V)(s:Sx)(f:Nat)(d:TG)(w:List Nat):Rz:=exsK false FO (BA.body.drop 4) ⟨lv0 v e,hs s (HN q dn f d w),7,wO⟩ .done
theorem Gz(g:Good 7 H)(hL:J1 7 L=true)(hn:n.length<=JB):FO 34 [.str n] ⟨L,hs s H,7,P⟩=some (.str (n.map lowC),⟨L,hs s H,7,P⟩):=UJ g g (by decide) hL rfl ⟨rfl,rfl⟩ (Q4 g (by decide)) (NZ (n:=4) hn)
theorem Ke(hA:(d.ws.map att).length<JB)(hw:w.length<=JB)(hdn:V.blws 7 dn=true)(hq:q.length<=JB)(hqb:V.blws 7 q=true)(hL:V.blw 7 v=true):
  JC (R65 v false q dn s f d w) nG (.bool true,hs s (HN (em1 (d.ws.any (w.map lowC==·)) (Jd QU) q) dn f d (w.map lowC)),wO):=by
 have hL':J1 7 (lv0 v false)=true:=by show (V.blw 7 v&&true)=true;rw[hL];rfl
 obtain⟨X,hX,hl⟩:=GF (v:=v) (e:=false) (s:=s) (q:=q) (dn:=dn) (f:=f) (w:=w.map lowC) (P:=wO) hA hq
 exact .v 4 (Us hA) (.c 1 (Gz (n:=w) (s:=s) (P:=wO) (QQ (q:=q) (dn:=dn) (f:=f) (d:=d) (w:=w) hdn hqb) hL' hw) (.v 3 (Us hA) (.v 6 (Gd hA) (.fl 1 hl (.done 2)))))
theorem ZBw(hA:(d.ws.map att).length<JB)(hw:w.length<=JB)(hdn:V.blws 7 dn=true)(hn:d.n.length<=JB)(hsc:d.sc=false):
  JC (R65 (.str [62]) true [] dn s 65 d w) nG (.bool true,hs s (HN (em1 (d.ws.any (w.map lowC==·)) (Jd QU) []++[Jd Qa]++[O0]) dn 9 d.low (w.map lowC)),wO):=by
 obtain⟨n,ws,sc,bf⟩:=d
 cases hsc
 obtain⟨X,hX,hl⟩:=GF (v:=.str [62]) (e:=true) (s:=s) (q:=[]) (dn:=dn) (f:=65) (w:=w.map lowC) (P:=wO) hA (qG _)
 have hb:V.blws 7 (ws.map att++[O1])=true:=XY rfl
 have hd:bd (ws.map att++[O1]).length (some (!(ws.map att++[O1]).isEmpty))=some true:=by
  rw[List.length_append]
  show gd (Nat.ble ((ws.map att).length+1) JB) _=_
  rw[ble hA]
  cases ws<;>rfl
 exact .v 4 (Us hA) (.c 1 (Gz (n:=w) (s:=s) (P:=wO) (QQ (q:=[]) (dn:=dn) (f:=65) (d:=⟨n,ws,false,bf⟩) (w:=w) hdn) (L:=lv0 (.str [62]) true) rfl hw) (.v 3 (Us hA) (.v 6 (Gd hA) (.fl 1 hl (.c 3 (ZGt (s:=s) (w:=w.map lowC) (f:=65) (bf:=bf) (ws:=ws) (L:=lv0 (.str [62]) true++X) (P:=wO) (q:=em1 (ws.any (w.map lowC==·)) (Jd QU) []) hd (qA ZQ (by decide)) hn hdn hb (WZ rfl rfl) hX) (.done 2))))))
def prN:List Nat:=wZ
noncomputable def nN(a:Nat):Nat:=bif Nat.beq a 0 then 24 else bif Nat.beq a 60 then 26 else 19
theorem ZH9(hdn:V.blws 7 dn=true)(ha:a∈prN)(hr:Rd (.str [a]) s s')(hA:(d.ws.map att).length<JB)(h2:w.length+1<=JB):Stp 65 (S3 [] dn s 65 d w) true (S3 (qW 62 a) dn s' 65 d (w++wW a)):=
 have e1:∀ a∈prN,(fw (nN a) ((fw 4 (JR 65 [T0] (S3 [] dn s 65 d w))).oc (.str [a]) ⟨[(0,T0)],hs s' (HN [] dn 65 d w),7,wO⟩)).gv=Ue (d.ws.map att++[O1]) (.int (-1)):=JE (by kernel_rfl)
 have e2:∀ a∈prN,(fw 1 ((fw (nN a) ((fw 4 (JR 65 [T0] (S3 [] dn s 65 d w))).oc (.str [a]) ⟨[(0,T0)],hs s' (HN [] dn 65 d w),7,wO⟩)).ov O1)).gv=Jn σ0 .add (.str w) (.str (wW a)):=JE (by kernel_rfl)
 have e3:∀ a∈prN,(fw 5 ((fw 1 ((fw (nN a) ((fw 4 (JR 65 [T0] (S3 [] dn s 65 d w))).oc (.str [a]) ⟨[(0,T0)],hs s' (HN [] dn 65 d w),7,wO⟩)).ov O1)).ov (.str (w++wW a)))).out nG=some (.bool true,hs s' (HN (qW 62 a) dn 65 d (w++wW a)),wO):=JE (by kernel_rfl)
 have e4:∀ a∈prN,(V.blws 7 (qW 62 a),(wW a).length)=(true,1):=JE (by kernel_rfl)
 stp (QQ hdn) (QQ hdn (congrArg Prod.fst (e4 a ha))) hr (.v (nN a) (Us hA) (.v 1 (Q6 (k:=JB) ((congrArg (w.length+·) (congrArg Prod.snd (e4 a ha):(wW a).length=1))▸h2) (qF _)) (.done 5 (e3 a ha)) (e2 a ha)) (e1 a ha))
theorem ZH7(hdn:V.blws 7 dn=true)(ha:a∈JJ)(hr:Rd (.str [a]) s s')(hA:(d.ws.map att).length<JB)(h2:w.length+(1+l.length)<=JB)(hu:Cl4 13 [Up,.bool true] (.str l) s' s2a):Stp 65 (S3 [] dn s 65 d w) true (S3 [] dn s2a 65 d (w++a::l)):=
 have e1:∀ a∈JJ,(fw 7 ((fw 4 (JR 65 [T0] (S3 [] dn s 65 d w))).oc (.str [a]) ⟨[(0,T0)],hs s' (HN [] dn 65 d w),7,wO⟩)).gv=Ue (d.ws.map att++[O1]) (.int (-1)):=JE (by kernel_rfl)
 have e2:∀ a∈JJ,(fw 5 ((fw 7 ((fw 4 (JR 65 [T0] (S3 [] dn s 65 d w))).oc (.str [a]) ⟨[(0,T0)],hs s' (HN [] dn 65 d w),7,wO⟩)).ov O1)).gc=FO 13 [T1,Up,.bool true] ⟨lv0 (.str [a]) false,hs s' (HN [] dn 65 d w),7,wO⟩:=JE (by kernel_rfl)
 have e3:∀ a∈JJ,((fw 5 ((fw 7 ((fw 4 (JR 65 [T0] (S3 [] dn s 65 d w))).oc (.str [a]) ⟨[(0,T0)],hs s' (HN [] dn 65 d w),7,wO⟩)).ov O1)).oc (.str l) ⟨lv0 (.str [a]) false,hs s2a (HN [] dn 65 d w),7,wO⟩).gv=Jn σ0 .add (.str [a]) (.str l):=JE (by kernel_rfl)
 have e4:∀ a∈JJ,(((fw 5 ((fw 7 ((fw 4 (JR 65 [T0] (S3 [] dn s 65 d w))).oc (.str [a]) ⟨[(0,T0)],hs s' (HN [] dn 65 d w),7,wO⟩)).ov O1)).oc (.str l) ⟨lv0 (.str [a]) false,hs s2a (HN [] dn 65 d w),7,wO⟩).ov (.str (a::l))).gv=Jn σ0 .add (.str w) (.str (a::l)):=JE (by kernel_rfl)
 have e5:∀ a∈JJ,(fw 5 ((((fw 5 ((fw 7 ((fw 4 (JR 65 [T0] (S3 [] dn s 65 d w))).oc (.str [a]) ⟨[(0,T0)],hs s' (HN [] dn 65 d w),7,wO⟩)).ov O1)).oc (.str l) ⟨lv0 (.str [a]) false,hs s2a (HN [] dn 65 d w),7,wO⟩).ov (.str (a::l))).ov (.str (w++a::l)))).out nG=some (.bool true,hs s2a (HN [] dn 65 d (w++a::l)),wO):=JE (by kernel_rfl)
 stp (QQ hdn) (QQ hdn) hr (.v 7 (Us hA) (.c 5 (hu (QQ hdn) rfl) (.v 0 (Q6 (a:=[a]) (b:=l) (qA (Nat.le_add_left _ _) h2) (qF _)) (.v 0 (Q6 (a:=w) (b:=a::l) (by rw[List.length_cons,Nat.add_comm l.length];exact h2) (qF _)) (.done 5 (e5 a ha)) (e4 a ha)) (e3 a ha)) (e2 a ha)) (e1 a ha))
theorem Zq{z q'}(k:Nat)(h:JC (R65 v e q dn s' f d w) nG z)(e':R65 v e q dn s' f d w=fw k ((fw 4 (JR 65 [T0] (S3 q' dn s 65 d w))).oc v ⟨[(0,T0)],hs s' (HN q' dn 65 d w),7,wO⟩)):JC ((fw 4 (JR 65 [T0] (S3 q' dn s 65 d w))).oc v ⟨[(0,T0)],hs s' (HN q' dn 65 d w),7,wO⟩) nG z:=JC.fw (n:=k) (e'▸h)
section
variable(hdn:V.blws 7 dn=true)(hA:(d.ws.map att).length<JB)(hw:w.length<=JB)
include hdn hA hw
def WF(d:TG)(w:List Nat)(q:List Mine.V):List Mine.V:=em1 (d.ws.any (w.map lowC==·)) (Jd QU) q
theorem ZJo(hr:Rd (.str [32]) s s'):Stp 65 (S3 [] dn s 65 d w) true (S3 (WF d w []) dn s' 66 d (w.map lowC)):=
 stp (QQ hdn) (QQ hdn (WZ rfl rfl)) hr (Zq 13 (Ke hA hw hdn (qG _) rfl rfl) (by kernel_rfl))
theorem ZJp(hr:Rd (.str [47]) s s'):Stp 65 (S3 [] dn s 65 d w) true (S3 (WF d w []) dn s' 63 d (w.map lowC)):=
 stp (QQ hdn) (QQ hdn (WZ rfl rfl)) hr (Zq 15 (Ke hA hw hdn (qG _) rfl rfl) (by kernel_rfl))
theorem ZH8(hr:Rd .none s s'):Stp 65 (S3 [] dn s 65 d w) true (S3 (WF d w [Jd Qg]) dn s' 9 d (w.map lowC)):=
 stp (QQ hdn) (QQ hdn (WZ rfl rfl)) hr (Zq 30 (Ke hA hw hdn (qE rfl) rfl rfl) (by kernel_rfl))
theorem ZJq(hr:Rd (.str [62]) s s')(hn:d.n.length<=JB)(hsc:d.sc=false):Stp 65 (S3 [] dn s 65 d w) true (S3 (WF d w []++[Jd Qa]++[O0]) dn s' 9 d.low (w.map lowC)):=
 stp (QQ hdn) (QQ hdn (by rw[Wh,Wh,WF,WZ rfl rfl];rfl)) hr (Zq 6 (ZBw hA hw hdn hn hsc) (by kernel_rfl))
end
end
section
variable{n nx off a:Nat}{L:List (Nat×Mine.V)}{H:List (Id×Ob)}{P:List Nat}{ch src:List Nat}{l1 l2:Int}{q:List Mine.V}{o3:Ob}
theorem G4(ha:ch[off]?=some a)(hl:ch.length<=JB):JH tT (n+4) 10 [T1] ⟨L,hX (some q) (I1 ch ch.length off l1 l2) o3 H,nx,P⟩=some (.str [a],⟨L,hX (some q) (I1 ch ch.length (off+1:Nat) l1 l2) o3 H,nx,P⟩):=by
 have hlt:=(List.getElem?_eq_some_iff.mp ha).1
 refine J7 ?_
 exact .b 4 (congrArg some (decide_eq_false (Int.not_le.mpr (Int.ofNat_lt.mpr hlt)))) (.v 5 (WQ hl (Wy hlt) ha) (.done 5))
variable{dn:List Mine.V}{cv:Mine.V}{tb:Option (List Nat)}
noncomputable def ceT:ME:=.cmp .isn (.sub (.loc 56) (.neg (.k (.int 1)))) (.glob .none)
noncomputable def ZJ6:List MS:=[.iff (.not (.fmc (.glob (.fn 0)) 141 55 [(.sm .join (.k (.str [])) [(.loc 56)])])) [.brk] [],.ex (.app (.loc 56) (.mcall (.attr (.loc 0) 20 3) 27 1 10 []))]
def UB:List (Nat×Mine.V):=[(0,T0),(138,.none),(139,.bool false),(140,.str [38]),(56,.obj (.t 7))]
theorem XT{t:St->Option (Bool×St)}{b:St->Option (FL×St)}{n:Nat}{U U1a U2a:St}{r:Option (FL×St)}(ht:t U=some (true,U1a))(hb:b U1a=some (.next,U2a))(h:QA t b n U2a=r):QA t b (n+1) U=r:=by
 show bn (t U) _=_
 rw[ht]
 show bn (b U1a) _=_
 rw[hb]
 exact h
theorem Yg{t:St->Option (Bool×St)}{b:St->Option (FL×St)}{n:Nat}{U U1a:St}(ht:t U=some (false,U1a)):QA t b (n+1) U=some (.next,U1a):=by
 show bn (t U) _=_
 rw[ht];rfl
theorem ZCd(h:ch.drop off=[116,59])(hl:ch.length<=1000)(hs:src.length<=1000)(ho:off<=ch.length):QA (tst (JH tT 4) ceT) (exs (JH tT 4) ZJ6) Qr ⟨UB,hX (some [.str [108]]) (I1 ch ch.length off l1 l2) (I3 src src.length) (H1 [] dn (me 11) cv tb),8,P⟩ =
  some (.next,⟨UB,hX (some [.str [108],.str [116],.str [59],.none]) (I1 [] 0 0 (JS ch l1 l2).1 (JS ch l1 l2).2) (I3 src src.length) (H1 [] dn (me 11) cv tb),8,P⟩):=by
 obtain⟨h1,hd,ho1⟩:=Jo h
 obtain⟨h2,hd,ho2⟩:=Jo hd
 have h3:=Yh hd ho2
 have hm:=(m4 hl).1
 refine XT (n:=999999) (U1a:=⟨UB,hX (some [.str [108]]) (I1 ch ch.length off l1 l2) (I3 src src.length) (H1 [] dn (me 11) cv tb),8,P⟩) (U2a:=⟨UB,hX (some [.str [108],.str [116]]) (I1 ch ch.length (off+1:Nat) l1 l2) (I3 src src.length) (H1 [] dn (me 11) cv tb),8,P⟩) (by kernel_rfl) (JC.exs ?_)
  (XT (n:=999998) (U1a:=⟨UB,hX (some [.str [108],.str [116]]) (I1 ch ch.length (off+1:Nat) l1 l2) (I3 src src.length) (H1 [] dn (me 11) cv tb),8,P⟩) (U2a:=⟨UB,hX (some [.str [108],.str [116],.str [59]]) (I1 ch ch.length (off+1+1:Nat) l1 l2) (I3 src src.length) (H1 [] dn (me 11) cv tb),8,P⟩) (by kernel_rfl) (JC.exs ?_)
  (XT (n:=999997) (U1a:=⟨UB,hX (some [.str [108],.str [116],.str [59]]) (I1 ch ch.length (off+1+1:Nat) l1 l2) (I3 src src.length) (H1 [] dn (me 11) cv tb),8,P⟩) (U2a:=⟨UB,hX (some [.str [108],.str [116],.str [59],.none]) (I1 [] 0 0 (JS ch l1 l2).1 (JS ch l1 l2).2) (I3 src src.length) (H1 [] dn (me 11) cv tb),8,P⟩) (by kernel_rfl) (JC.exs ?_)
  (Yg (n:=999996) (by kernel_rfl))))
 ·exact .c 9 (G4 (n:=0) (L:=UB) (H:=H1 [] dn (me 11) cv tb) (nx:=8) (P:=P) (q:=[.str [108]]) (o3:=I3 src src.length) (l1:=l1) (l2:=l2) h1 hm) (.done 4)
 ·exact .c 9 (G4 (n:=0) (L:=UB) (H:=H1 [] dn (me 11) cv tb) (nx:=8) (P:=P) (q:=[.str [108],.str [116]]) (o3:=I3 src src.length) (l1:=l1) (l2:=l2) h2 hm) (.done 4)
 ·rw[h3]
  exact .c 9 (DL (n:=0) (L:=UB) (H:=H1 [] dn (me 11) cv tb) (nx:=8) (P:=P) (x:=some [.str [108],.str [116],.str [59]]) (src:=src) (ch:=ch) (l1:=l1) (l2:=l2) (m4 hs).2.1) (.done 4)
theorem ZG7(h:ch.drop off=[108,116,59])(hl:ch.length<=1000)(hs:src.length<=1000)(ho:off<=ch.length):JH tT 5 57 [T0] ⟨L,hS (I1 ch ch.length off l1 l2) (I3 src src.length) (H1 [] dn (me 11) cv tb),7,P⟩ =
  some (.none,⟨L,hX (some [.str [108],.str [116],.str [59]]) (I1 [] 0 0 (JS ch l1 l2).1 (JS ch l1 l2).2) (I3 src src.length) (H1 [JN [60]] dn (me 11) cv tb),8,P⟩):=by
 obtain⟨h1,hd,ho1⟩:=Jo h
 have hw:=ZCd (l1:=l1) (l2:=l2) (dn:=dn) (cv:=cv) (tb:=tb) (P:=P) hd hl hs ho1
 refine J7 ?_
 exact .c 4 (Bp (n:=0) (L:=[(0,T0),(138,.none),(139,.bool false),(140,.str [38])]) (H:=H1 [] dn (me 11) cv tb) (nx:=7) (P:=P) (o3:=I3 src src.length) (l1:=l1) (l2:=l2) h1 (m4 hl).1) (.fl 13 hw (.done 38))
theorem ZIe{s:Sx}(A:At src [108,116,59] s)(hdn:V.blws 7 dn=true)(hcv:V.blw 7 cv=true):∃ s',At src [] s'/\Stp 11 (S1 [] dn s 11 cv tb) true (S1 [JN [60]] dn s' 9 cv tb):=A.el fun ch off l1 l2 h1 h2 h3 h4 h5 h6=>by
 subst h1
 have g:Good 7 (H1 [JN [60]] dn (me 11) cv tb):=JT hdn hcv
 have hf:FO 57 [T0] ⟨[(0,T0)],hs (st ch src off l1 l2) (H1 [] dn (me 11) cv tb),7,[99]⟩=some (.none,⟨[(0,T0)],hs (st [] src 0 (JS ch l1 l2).1 (JS ch l1 l2).2) (H1 [JN [60]] dn (me 11) cv tb),7,[99]⟩):=
  UJ (h1a:=hX (some [.str [108],.str [116],.str [59]]) (I1 [] 0 0 (JS ch l1 l2).1 (JS ch l1 l2).2) (I3 src src.length) (H1 [JN [60]] dn (me 11) cv tb)) (JT hdn hcv) g (by decide) rfl rfl ⟨rfl,rfl⟩ (Q4 g (by decide)) (ZG7 h2 h4 h5 h3)
 refine⟨st [] src 0 (JS ch l1 l2).1 (JS ch l1 l2).2,⟨[],0,_,_,rfl,rfl,qF _,qG _,h5,posF_nil.trans h6⟩,OV.trans (JC.toN (o1a:=I1 [] 0 0 (JS ch l1 l2).1 (JS ch l1 l2).2) (o3:=I3 src src.length) (JT hdn hcv) ⟨rfl,rfl⟩ rfl ?_)⟩
 cases tb
 ·exact .c 2 hf (.done 7)
 ·exact .c 2 hf (.done 7)
end
end Mine
end
noncomputable section
namespace Mine
noncomputable def gM:GenM:=⟨.fcall (.loc 0) 42 3 [],.attr (.attr (.loc 0) 20 3) 16 1,.attr (.loc 0) 48 3,.pop (.attr (.loc 0) 48 3) [.k (.int 0)]⟩
inductive Tok4 where
 |ch (x:List Nat)
 |sp (x:List Nat)
 |er (n:List Nat)
 |tg (n:List Nat) (ws:List (List Nat)) (sc:Bool)
inductive It where
 |c (n:Nat)
 |e (n:List Nat)
 |g (n:List Nat) (ws:List (List Nat)) (sc:Bool)
def Jq(n:List Nat)(ws:List (List Nat))(sc:Bool):Mine.V:=.dict XI [.int 4,.str n,.list (ws.map att),.bool sc]
def Tok4.v:Tok4->Mine.V
 |.ch x=>JN x
 |.sp x=>XA x
 |.er n=>Jd n
 |.tg n ws sc=>Jq n ws sc
noncomputable def Tok4.f:Tok4->List It
 |.ch x=>x.map .c
 |.sp x=>x.map .c
 |.er n=>[.e n]
 |.tg n ws sc=>[.g n ws sc]
noncomputable def Tok4.ok:Tok4->Bool
 |.ch x=>!x.isEmpty
 |.sp x=>!x.isEmpty
 |_=>true
def JK(l:List Tok4):List It:=l.flatMap Tok4.f
abbrev vs(l:List Tok4):List Mine.V:=l.map Tok4.v
inductive K where
 |n (cv:Mine.V) (tb:Option (List Nat))
 |t (d:TG)
 |a (d:TG) (w:List Nat)
def SK(x:K)(q dn:List Mine.V)(s:Sx)(f:Nat):St:=match x with
 |.n cv tb=>S1 q dn s f cv tb
 |.t d=>S2 q dn s f d
 |.a d w=>S3 q dn s f d w
section
variable{i:Id}{n:Nat}{w:Mine.V}
theorem ZDM{l l':List Mine.V}:V.nos i (l++l')=(V.nos i l&&V.nos i l'):=by
 induction l with
 |nil=>rfl
 |cons v l ih=>exact(congrArg (V.no i v&&·) ih).trans (Bool.and_assoc ..).symm
theorem ZT:∀ ws:List (List Nat),V.nos i (ws.map att)=true:=fun l0=>by
 induction l0 with
 |nil =>
  exact rfl
 |cons _ ws ih =>
  exact ih
theorem ZJC:∀ ws:List (List Nat),V.blws n (ws.map att)=true:=fun l0=>by
 induction l0 with
 |nil =>
  exact rfl
 |cons _ ws ih =>
  exact ih
theorem ZA{a:List Nat}{ws:List (List Nat)}{sc:Bool}:V.no i (Jq a ws sc)=true:=by
 show (V.nos i (ws.map att)&&true)=true
 rw[ZT];rfl
theorem HH{a:List Nat}{ws:List (List Nat)}{sc:Bool}:V.blw n (Jq a ws sc)=true:=by
 show (V.blws n (ws.map att)&&true)=true
 rw[ZJC];rfl
theorem QN:∀ D:List Tok4,V.nos i (vs D)=true:=fun l0=>by
 induction l0 with
 |nil =>
  exact rfl
 |cons t D ih =>
  show (V.no i t.v&&V.nos i (vs D))=true
  rw[ih]
  cases t<;>first |rfl |exact Bool.and_eq_true_iff.mpr ⟨ZA,rfl⟩
theorem JV:∀ D:List Tok4,V.blws n (vs D)=true:=fun l0=>by
 induction l0 with
 |nil =>
  exact rfl
 |cons t D ih =>
  show (V.blw n t.v&&V.blws n (vs D))=true
  rw[ih]
  cases t<;>first |rfl |exact Bool.and_eq_true_iff.mpr ⟨HH,rfl⟩
theorem V.sb_no(v:Mine.V):V.no i v=true->V.sb i w v=v:=
 V.rec (motive_1:=fun v=>V.no i v=true->V.sb i w v=v) (motive_2:=fun l=>V.nos i l=true->V.sbs i w l=l) (fun J=>rfl) (fun J J=>rfl) (fun J J=>rfl) (fun J J=>rfl) (fun J h k=>congrArg Mine.V.tup (h k)) (fun J h k=>congrArg Mine.V.list (h k)) (fun J J h k=>congrArg (Mine.V.dict _) (h k))
  (fun J k=>if_neg (qH k)) (fun J J=>rfl) (fun J J h k=>congrArg (Mine.V.meth _) (h k)) (fun J J J=>rfl) (fun J=>rfl) (fun v l h1 h2 k=>bA k fun a b=>by
   show V.sb i w v::V.sbs i w l=_
   rw[h1 a,h2 b]) v
theorem V.sbs_no:∀ (l:List Mine.V),V.nos i l=true->V.sbs i w l=l:=fun l0=>by
 induction l0 with
 |nil =>
  exact fun J=>rfl
 |cons v l ih =>
  exact fun h=>bA h fun a b=>by
   show V.sb i w v::V.sbs i w l=_
   rw[V.sb_no v a,ih b]
theorem V.sbs_app:∀ {l l':List Mine.V},V.sbs i w (l++l')=V.sbs i w l++V.sbs i w l':=by
 intro l0
 induction l0 with
 |nil =>
  intro _
  exact rfl
 |cons v l ih =>
  intro _
  exact congrArg (V.sb i w v::·) (ih)
end
section
variable{x:K}{q dn l:List Mine.V}{b:Bool}{U' σe:St}{v:Mine.V}{s:Sx}{f:Nat}{d:TG}{w:List Nat}{D:List Tok4}{cv:Mine.V}{tb:Option (List Nat)}
theorem Zb(h:Stp f (SK x q dn s f) b U'):tst CT gM.t1 (SK x q dn s f)=some (b,U'):=by
 have h:CT f [T0] (SK x q dn s f)=some (.bool b,U'):=h
 refine JC.tst ?_
 cases x<;>exact .c 2 h (.b 0 ((rfl:some b=some b)) (.done 1))
theorem N4:tst CT gM.t2 (SK x q dn s f)=some (false,SK x q dn s f):=by cases x<;>rfl
theorem HK(h:q.length<=JB):tst CT gM.t3 (SK x q dn s f)=some (!q.isEmpty,SK x q dn s f):=by
 have e:bd q.length (some (!q.isEmpty))=some (!q.isEmpty):=by
  show gd (Nat.ble q.length JB) _=_
  rw[ble h];rfl
 refine JC.tst ?_
 cases x<;>exact .b 2 e (.done 1)
theorem ZJ2(h:q.length<JB):ev CT gM.e (SK x (v::q) dn s f)=some (v,SK x q dn s f):=by
 have e:Nat.blt q.length JB=true:=ble h
 refine JC.ev ?_
 cases x<;>exact .g 3 e (.done 1)
theorem ZFf:JA (SK x q dn s f).hp (.p 99)=some (.list dn):=by cases x<;>rfl
theorem ZBj{dn':List Mine.V}:(SK x q dn s f).setOb (.p 99) (.list dn')=SK x q dn' s f:=by cases x<;>rfl
theorem ZIj:∀ (q dn:List Mine.V),q.length<JB->GR CT gM false (SK x [] (dn++q) s f) (dn++q) l σe->GR CT gM false (SK x q dn s f) dn (q++l) σe:=fun l0=>by
 induction l0 with
 |nil =>
  exact fun dn J h=>(List.append_nil dn)▸h
 |cons v q ih =>
  exact fun dn hq h=>.give (HK (xG hq)) (ZJ2 (Nat.lt_of_succ_lt hq)) .same ZFf (by
   rw[ZBj]
   exact ih (dn++[v]) (Nat.lt_of_succ_lt hq) (by rw[List.append_assoc];exact h))
theorem sb1(hq:V.nos (.p 1) q=true):(S3 q (vs D) s f d w).sb 1 (att w)=S2 q (vs D) s f ⟨d.n,d.ws++[w],d.sc,d.b⟩:=by
 have hA:V.sbs (.p 1) (att w) (d.ws.map att++[O1])=(d.ws++[w]).map att:=by rw[V.sbs_app,V.sbs_no _ (ZT _),List.map_append];rfl
 show (⟨[(0,T0)],hs s ((.p 0,.dict XI [.int 4,.str d.n,O2,.bool d.sc])::(.p 2,.list (V.sbs (.p 1) (att w) (d.ws.map att++[O1])))::Q2 (.p 1) (att w) (H1 q (vs D) (me f) O0 (some d.b))),7,[0,2,99]⟩:St)=_
 rw[hA]
 show (⟨[(0,T0)],hs s ((.p 0,.dict XI [.int 4,.str d.n,O2,.bool d.sc])::(.p 2,.list ((d.ws++[w]).map att))::H1 (V.sbs (.p 1) (att w) q) (V.sbs (.p 1) (att w) (vs D)) (me f) O0 (some d.b)),7,[0,2,99]⟩:St)=_
 rw[V.sbs_no _ (QN D),V.sbs_no _ hq];rfl
theorem sb2(hq:V.nos (.p 2) q=true)(hq0:V.nos (.p 0) q=true):((S2 (q++[O0]) (vs D) s f d).sb 2 (.list (d.ws.map att))).sb 0 (Jq d.n d.ws d.sc)=S1 (q++[Jq d.n d.ws d.sc]) (vs D) s f (Jq d.n d.ws d.sc) (some d.b):=by
 show (⟨[(0,T0)],hs s (H1 (V.sbs (.p 0) (Jq d.n d.ws d.sc) (V.sbs (.p 2) (.list (d.ws.map att)) (q++[O0]))) (V.sbs (.p 0) (Jq d.n d.ws d.sc) (V.sbs (.p 2) (.list (d.ws.map att)) (vs D))) (me f) (Jq d.n d.ws d.sc) (some d.b)),7,[99]⟩:St)=_
 rw[V.sbs_no _ (QN D),V.sbs_no _ (QN D),V.sbs_app,V.sbs_no _ hq,show V.sbs (.p 2) (.list (d.ws.map att)) [O0]=[O0] from rfl,V.sbs_app,V.sbs_no _ hq0];rfl
end
structure CvOk(cv:Mine.V):Prop where
 b:V.blw 7 cv=true
 n:∀ i,V.no i cv=true
def WH(src:List Nat)(U:St)(D l:List Tok4):Prop:=∃ s f cv tb,At src [] s/\CvOk cv/\GR CT gM true U (vs D) (vs l) (S1 [] (vs (D++l)) s f cv tb)
def RT(src:List Nat)(x:K)(f:Nat)(r:List Nat)(F:List It):Prop:=∀ D s,At src r s->∃ l,l.all Tok4.ok=true/\JK l=F/\WH src (SK x [] (vs D) s f) D l
def RG(src:List Nat)(x:K)(f:Nat)(r:List Nat)(F:List It):Prop:=∀ D s,Go src r s->∃ l,l.all Tok4.ok=true/\JK l=F/\WH src (SK x [] (vs D) s f) D l
theorem RG.t{src r:List Nat}{x:K}{f:Nat}{F:List It}(h:RG src x f r F):RT src x f r F:=fun D s A=>h D s A.go
section
variable{src r r':List Nat}{x x':K}{f f':Nat}{F:List It}{Q:List Tok4}{d:TG}{w:List Nat}{cv:Mine.V}{tb:Option (List Nat)}{U U':St}{s:Sx}{D l:List Tok4}
theorem QV{a b:List Tok4}:vs (a++b)=vs a++vs b:=List.map_append
theorem Qk{a b:List Tok4}:JK (a++b)=JK a++JK b:=List.flatMap_append
theorem Qs{a b:List Tok4}(h:a.all Tok4.ok=true)(h':b.all Tok4.ok=true):(a++b).all Tok4.ok=true:=by rw[List.all_append,h,h'];rfl
theorem ZJk(h:Q.length<100):(vs Q).length<JB:=by rw[List.length_map];exact xH h (by decide)
theorem out(hl:Q.length<100)(h:WH src (SK x' [] (vs (D++Q)) s f') (D++Q) l)(k:∀ {l' e},GR CT gM false (SK x' (vs Q) (vs D) s f') (vs D) l' e->GR CT gM true U (vs D) l' e):WH src U D (Q++l):=by
 obtain⟨s2,f2,cv,tb,hA,hc,G⟩:=h
 rw[List.append_assoc,QV] at G
 exact⟨s2,f2,cv,tb,hA,hc,QV▸k (ZIj (vs Q) (vs D) (ZJk hl) (.next (HK (qG _)) G))⟩
theorem Xv{P:List Tok4->Sx->Prop}(hQ:Q.all Tok4.ok=true)(hl:Q.length<100)(h:∀ D s,P D s->∃ s',At src r' s'/\Stp f (SK x [] (vs D) s f) true (SK x' (vs Q) (vs D) s' f'))(H:RT src x' f' r' F)(D:List Tok4)(s:Sx)(hs:P D s):∃ l,l.all Tok4.ok=true/\JK l=JK Q++F/\WH src (SK x [] (vs D) s f) D l:=by
 obtain⟨s',g,hst⟩:=h D s hs
 obtain⟨l,h1,h2,h3⟩:=H (D++Q) s' g
 exact⟨Q++l,Qs hQ h1,Qk.trans (congrArg _ h2),out hl h3 fun G=>.turn (Zb hst) N4 G⟩
theorem WH.map(h:∀ {l' e},GR CT gM true U (vs D) l' e->GR CT gM true U' (vs D) l' e)(H:WH src U D l):WH src U' D l:=by
 obtain⟨s2,f2,cv,tb,hA,hc,G⟩:=H
 exact⟨s2,f2,cv,tb,hA,hc,h G⟩
theorem RT.frz(H:RT src (.t ⟨d.n,d.ws++[w],d.sc,d.b⟩) f r F):RT src (.a d w) f r F:=fun D s hs=>(H D s hs).imp fun l z=>⟨z.1,z.2.1,z.2.2.map fun G=>.frz (k:=1) (w:=att w) (.l rfl rfl) (by decide) (by show GR CT gM true ((S3 [] (vs D) s f d w).sb 1 (att w)) _ _ _;rw[sb1 rfl];exact G)⟩
theorem Ga{l' e}(G:GR CT gM false (S1 (vs (Q++[Tok4.tg d.n d.ws d.sc])) (vs D) s 9 (Jq d.n d.ws d.sc) (some d.b)) (vs D) l' e):GR CT gM false (S2 (vs Q++[O0]) (vs D) s 9 d) (vs D) l' e:=
 .frz (k:=2) (w:=.list (d.ws.map att)) (.l rfl (ZT _)) (by decide) (.frz (k:=0) (w:=Jq d.n d.ws d.sc) (.d rfl ZA) (by decide) (by
  rw[sb2 (QN Q) (QN Q)]
  rw[QV] at G
  exact G))
theorem RG.emit(hQ:Q.all Tok4.ok=true)(hl:Q.length<99)(h:∀ D s,Go src r s->∃ s',At src r' s'/\Stp f (SK x [] (vs D) s f) true (S2 (vs Q++[O0]) (vs D) s' 9 d))(H:RT src (.n (Jq d.n d.ws d.sc) (some d.b)) 9 r' F):RG src x f r (JK Q++.g d.n d.ws d.sc::F):=fun D s hs=>by
 obtain⟨s',g,hst⟩:=h D s hs
 obtain⟨l,h1,h2,h3⟩:=H (D++(Q++[Tok4.tg d.n d.ws d.sc])) s' g
 refine⟨(Q++[Tok4.tg d.n d.ws d.sc])++l,Qs (Qs hQ rfl) h1,?_,out (Q:=Q++[Tok4.tg d.n d.ws d.sc]) (x':=.n (Jq d.n d.ws d.sc) (some d.b)) (by rw[List.length_append];exact Nat.succ_lt_succ hl) h3 fun G=>.turn (Zb hst) (N4 (x:=.t d)) (Ga G)⟩
 rw[Qk,Qk,h2,List.append_assoc];rfl
theorem RG.emitA(hQ:Q.all Tok4.ok=true)(hl:Q.length<99)(h:∀ D s,Go src r s->∃ s',At src r' s'/\Stp f (SK x [] (vs D) s f) true (S3 (vs Q++[O0]) (vs D) s' 9 d w))(H:RT src (.n (Jq d.n (d.ws++[w]) d.sc) (some d.b)) 9 r' F):RG src x f r (JK Q++.g d.n (d.ws++[w]) d.sc::F):=fun D s hs=>by
 obtain⟨s',g,hst⟩:=h D s hs
 obtain⟨l,h1,h2,h3⟩:=H (D++(Q++[Tok4.tg d.n (d.ws++[w]) d.sc])) s' g
 have hq:V.nos (.p 1) (vs Q++[O0])=true:=by rw[ZDM,QN];rfl
 refine⟨(Q++[Tok4.tg d.n (d.ws++[w]) d.sc])++l,Qs (Qs hQ rfl) h1,?_,out (Q:=Q++[Tok4.tg d.n (d.ws++[w]) d.sc]) (x':=.n (Jq d.n (d.ws++[w]) d.sc) (some d.b)) (by rw[List.length_append];exact Nat.succ_lt_succ hl) h3 fun G=>.turn (Zb hst) (N4 (x:=.a d w))
  (.frz (k:=1) (w:=att w) (.l rfl rfl) (by decide) (by
   show GR CT gM false ((S3 (vs Q++[O0]) (vs D) s' 9 d w).sb 1 (att w)) _ _ _
   rw[sb1 hq]
   exact Ga (d:=⟨d.n,d.ws++[w],d.sc,d.b⟩) G))⟩
 rw[Qk,Qk,h2,List.append_assoc];rfl
theorem RG.stop(hcv:CvOk cv)(h:∀ D s s',Rd .none s s'->Stp f (S1 [] (vs D) s f cv tb) false (S1 [] (vs D) s' f cv tb)):RG src (.n cv tb) f [] []:=fun D s hs=>by
 obtain⟨s',hr,-,hA⟩:=hs
 exact⟨[],rfl,rfl,s',f,cv,tb,hA,hcv,by rw[List.append_nil];exact .stop (Zb (x:=.n cv tb) (h D s s' hr)) rfl⟩
end
noncomputable def QC:List (List Nat):=[[],[98],[32,98],[0],[38,108,116,59]]
def UK(r:List Nat):List It:=match r with
 |38::_=>[.c 60]
 |[0]=>[.e QZ,.c 0]
 |r=>r.map .c
theorem ZG3{n:List Nat}:CvOk (cvS n):=⟨rfl,fun J=>rfl⟩
theorem Xq{n:List Nat}{ws:List (List Nat)}{sc:Bool}:CvOk (Jq n ws sc):=⟨HH,fun J=>ZA⟩
noncomputable def pD(a:Nat):Bool:=[some [38],some [60],some [0]].any (·==some [a])
noncomputable def pR(a:Nat):Bool:=[some [60],some [0]].any (·==some [a])
theorem ZHw:InP (.tup [.str [38],.str [60],.str [0]]) pD:=fun J J=>rfl
theorem ZHu:InP (.tup [.str [60],.str [0]]) pR:=fun J J=>rfl
noncomputable def Z2(a:Nat):Bool:=[some [9],some [10],some [12],some [32],some [13]].any (·==some [a])
theorem Dy:InP Qm Z2:=fun J J=>rfl
section
variable{src r r':List Nat}{x x':K}{f f' a:Nat}{F:List It}{Q:List Tok4}{d:TG}{w:List Nat}{cv:Mine.V}{tb:Option (List Nat)}{s s':Sx}{D l:List Tok4}{v:Mine.V}
theorem RG.nil(hcv:CvOk cv):RG src (.n cv tb) 9 [] []:=.stop hcv fun D s s' hr=>ZG0 (JV D) hcv.b hr
theorem RG.un{p:Nat->Bool}{opp:Bool}{chars:Mine.V}{us:List Mine.V}(hQ:Q.all Tok4.ok=true)(hl:Q.length<100)(hP:InP chars p)(hv:Yc.args (T1::us)=some [T1,chars,.bool opp])
  (h:∀ D s s1a s2a,Rd (.str [a]) s s1a->Cl4 13 us (.str (r.takeWhile fun a=>p a==opp)) s1a s2a->Stp f (SK x [] (vs D) s f) true (SK x' (vs Q) (vs D) s2a f')) (H:RT src x' f' (r.drop (r.takeWhile fun a=>p a==opp).length) F):RG src x f (a::r) (JK Q++F):=
 Xv hQ hl (fun D s hs=>by
  obtain⟨s1a,_,hr,-,hA,-⟩:=hs
  obtain⟨s2a,hu,hA2⟩:=hA.until hP hv
  exact⟨s2a,hA2,h D s s1a s2a hr hu⟩) H
theorem RG.one(hQ:Q.all Tok4.ok=true)(hl:Q.length<100)(h:∀ D s s1a,Rd (.str [a]) s s1a->Stp f (SK x [] (vs D) s f) true (SK x' (vs Q) (vs D) s1a f'))(H:RT src x' f' r F):RG src x f (a::r) (JK Q++F):=
 Xv hQ hl (fun D s hs=>by
  obtain⟨s1a,_,hr,-,hA,-⟩:=hs
  exact⟨s1a,hA,h D s s1a hr⟩) H
noncomputable def hd(r:List Nat):Mine.V:=match r with
 |[]=>.none
 |a::_=>.str [a]
theorem RG.back(hQ:Q.all Tok4.ok=true)(hl:Q.length<100)(h:∀ D s s1a s2a,Rd (hd r) s s1a->Un (hd r) s1a s2a->Stp f (SK x [] (vs D) s f) true (SK x' (vs Q) (vs D) s2a f'))(H:RT src x' f' r F):RG src x f r (JK Q++F):=
 Xv hQ hl (fun D s hs=>by
  cases r with
  |nil =>
   obtain⟨s1a,hr,hu,hA⟩:=hs
   exact⟨s1a,hA,h D s s1a s1a hr hu⟩
  |cons a r =>
   obtain⟨s1a,s2a,hr,hu,-,hA⟩:=hs
   exact⟨s2a,hA,h D s s1a s2a hr hu⟩) H
theorem RG.eof(hQ:Q.all Tok4.ok=true)(hl:Q.length<100)(h:∀ D s s1a,Rd .none s s1a->Stp f (SK x [] (vs D) s f) true (SK x' (vs Q) (vs D) s1a f'))(H:RT src x' f' [] F):RG src x f [] (JK Q++F):=
 Xv hQ hl (fun D s hs=>by
  obtain⟨s1a,hr,-,hA⟩:=hs
  exact⟨s1a,hA,h D s s1a hr⟩) H
theorem Y7(hcv:CvOk cv)(hr:r∈QC):RG src (.n cv tb) 9 r (UK r):=by
 have h97:RG src (.n cv tb) 9 [98] [.c 98]:=.un (Q:=[.ch [98]]) (x':=.n cv tb) (F:=[]) (r:=[]) rfl (by decide) ZHw (opp:=false) rfl (fun D s s1a s2a h1 h2=>ZJ3 (JV D) hcv.b h1 h2) (RG.nil hcv).t
 rcases List.mem_cons.mp hr with rfl |hr
 ·exact .nil hcv
 rcases List.mem_cons.mp hr with rfl |hr
 ·exact h97
 rcases List.mem_cons.mp hr with rfl |hr
 ·exact .un (Q:=[.sp [32]]) (x':=.n cv tb) (F:=[.c 98]) (r:=[98]) rfl (by decide) Dy (opp:=true) rfl (fun D s s1a s2a h1 h2=>ZIl (JV D) hcv.b h1 h2) h97.t
 rcases List.mem_cons.mp hr with rfl |hr
 ·exact .one (Q:=[.er QZ,.ch [0]]) (x':=.n cv tb) (F:=[]) (r:=[]) rfl (by decide) (fun D s s1a h1=>ZGz (JV D) hcv.b h1) (RG.nil hcv).t
 ·cases List.mem_singleton.mp hr
  exact .one (Q:=[]) (x':=.n cv tb) (f':=11) (F:=[.c 60]) (r:=[108,116,59]) rfl (by decide) (fun D s s1a h1=>ZG1 (JV D) hcv.b h1)
   (Xv (P:=fun J s=>At src [108,116,59] s) (Q:=[.ch [60]]) (x':=.n cv tb) (f':=9) (F:=[]) (r':=[]) rfl (by decide) (fun D s hs=>by
    obtain⟨s',hA,h⟩:=ZIe hs (JV D) hcv.b
    exact⟨s',hA,h⟩) (RG.nil hcv).t)
end
inductive TQ where
 |A (b:Bool) (ws:List (List Nat))
 |S (ws:List (List Nat))
 |N (ws:List (List Nat)) (w:List Nat)
def emT(de sc:Bool):List Tok4:=(bif de then [.er Qa] else [])++bif sc then [.er Zk] else []
def Jy(ws:List (List Nat))(w:List Nat):List Tok4:=bif ws.any (w.map lowC==·) then [.er QU] else []
def wT(b:Bool)(a:Nat):List Tok4:=bif Nat.beq a 60 then [.er (bif b then Om else Ol)] else bif Nat.beq a 0 then [.er QZ] else []
def emI(n:List Nat)(ws:List (List Nat))(sc:Bool):List It:=JK (emT (!ws.isEmpty) sc)++[.g n ws sc]
def Qe(n:List Nat)(b:Bool)(ws:List (List Nat))(a:Nat):List It×Option TQ:=
 if a=62 then (emI n ws false,none) else if a=32 then ([],some (.A b ws)) else if a=47 then ([],some (.S ws)) else (JK (wT b a),some (.N ws (wW a)))
def Jr(n:List Nat)(q:TQ)(a:Nat):List It×Option TQ:=match q with
 |.A b ws=>Qe n b ws a
 |.S ws=>if a=62 then (emI n ws true,none) else (.e Uf::(Qe n false ws a).1,(Qe n false ws a).2)
 |.N ws w=>if a=62 then (JK (Jy ws w)++emI n (ws++[w.map lowC]) false,none) else if a=32 then (JK (Jy ws w),some (.A true (ws++[w.map lowC]))) else if a=47 then (JK (Jy ws w),some (.S (ws++[w.map lowC])))
  else (JK (wT false a),some (.N ws (w++wW a)))
def eoI(q:TQ):List It:=match q with
 |.A b _=>[.e (bif b then Ug else Uh)]
 |.S _=>[.e W5]
 |.N ws w=>.e Qg::JK (Jy ws w)
def tgK(k:TQ->List It)(r:List Nat)(o:Option TQ):List It:=match o with
 |some q=>k q
 |none=>UK r
noncomputable def tg(n:List Nat):List Nat->TQ->List It
 |[],q=>eoI q
 |a::r,q=>(Jr n q a).1++tgK (tg n r) r (Jr n q a).2
noncomputable def okT:List Nat->Prop
 |[]=>True
 |a::r=>if a=62 then r∈QC else a∈al/\okT r
noncomputable def TQ.k(bf:List Nat):TQ->K
 |.A _ ws=>.t ⟨bf,ws,false,bf⟩
 |.S ws=>.t ⟨bf,ws,false,bf⟩
 |.N ws w=>.a ⟨bf,ws,false,bf⟩ w
noncomputable def TQ.f:TQ->Nat
 |.A b _=>bif b then 66 else 62
 |.S _=>63
 |.N _ _=>65
noncomputable def TQ.sz:TQ->Nat
 |.A _ ws=>ws.length
 |.S ws=>ws.length
 |.N ws w=>ws.length+w.length
section
variable{src r l bf n:List Nat}{a k:Nat}{ws:List (List Nat)}{w:List Nat}{b:Bool}{d:TG}{F:List It}{f:Nat}
theorem H8{de sc:Bool}:emQ de sc []=vs (emT de sc):=by cases de<;>cases sc<;>rfl
theorem YH{de sc:Bool}:(emT de sc).all Tok4.ok=true/\(emT de sc).length<99:=by cases de<;>cases sc<;>exact⟨rfl,by decide⟩
theorem Ni{q:List Tok4}:WF d w (vs q)=vs (q++Jy d.ws w):=by
 unfold WF Jy
 cases d.ws.any (w.map lowC==·)
 ·exact congrArg vs (List.append_nil q).symm
 ·show vs q++[Jd QU]=_
  rw[show (bif true then [Tok4.er QU] else [])=[Tok4.er QU] from rfl,QV];rfl
theorem WU:(Jy ws w).all Tok4.ok=true/\(Jy ws w).length<=1:=by
 unfold Jy
 cases ws.any (w.map lowC==·)
 ·exact⟨rfl,qG _⟩
 ·exact⟨rfl,qF _⟩
theorem WW(h:okT (a::r))(n:a≠62):a∈al/\okT r:=by
 exact(if_neg n:(if a=62 then r∈QC else a∈al/\okT r)=_)▸(h:if a=62 then r∈QC else a∈al/\okT r)
theorem Zg(h:okT (62::r)):r∈QC:=h
theorem RT.frzT(H:RT src (.n (Jq d.n d.ws d.sc) (some d.b)) f r F):RT src (.t d) f r F:=fun D s h0=>(H D s h0).imp fun l z=>⟨z.1,z.2.1,z.2.2.map fun G=>.frz (k:=2) (w:=.list (d.ws.map att)) (.l rfl (ZT _)) (by decide) (.frz (k:=0) (w:=Jq d.n d.ws d.sc) (.d rfl ZA) (by decide) (by
 have e:((S2 [] (vs D) s f d).sb 2 (.list (d.ws.map att))).sb 0 (Jq d.n d.ws d.sc)=S1 [] (vs D) s f (Jq d.n d.ws d.sc) (some d.b):=by
  show (⟨[(0,T0)],hs s (H1 [] (V.sbs (.p 0) (Jq d.n d.ws d.sc) (V.sbs (.p 2) (.list (d.ws.map att)) (vs D))) (me f) (Jq d.n d.ws d.sc) (some d.b)),7,[99]⟩:St)=_
  rw[V.sbs_no _ (QN D),V.sbs_no _ (QN D)];rfl
 show GR CT gM true (((S2 [] (vs D) s f d).sb 2 (.list (d.ws.map att))).sb 0 (Jq d.n d.ws d.sc)) _ _ _
 rw[e]
 exact G))⟩
theorem Nt:RT src (.t d) 9 [] []:=.frzT (RG.nil Xq).t
theorem ZHY:∀ a∈al,Z2 a=(a==32):=JE (by kernel_rfl)
theorem ZJI:∀ a∈al,(Nat.beq a 62||(Nat.beq a 32||(Nat.beq a 47||(prW.any (·==(62,a))&&prW.any (·==(66,a))))))=true:=JE (by kernel_rfl)
theorem ZJr:∀ a∈al,(Nat.beq a 62||(Nat.beq a 32||(Nat.beq a 47||(JJ.any (·==a)||prN.any (·==a)))))=true:=JE (by kernel_rfl)
theorem ZJW:∀ a∈al,(Nat.beq a 62||(([0,32,33,38,45,47,59,60]++JJ).any (·==a)))=true:=JE (by kernel_rfl)
theorem ZHN:∀ x∈prW,qW x.1 x.2=vs (wT (Nat.beq x.1 66) x.2):=JE (by kernel_rfl)
theorem Ja{a b:Nat}(h:a≠b):Nat.beq a b=false:=Bool.eq_false_iff.mpr fun q=>h (Nat.eq_of_beq_eq_true q)
theorem J5{α:Type}[BEq α][LawfulBEq α]{l:List α}{a:α}(h:l.any (·==a)=true):a∈l:=by
 obtain⟨x,hx,e⟩:=List.any_eq_true.mp h
 exact beq_iff_eq.mp e▸hx
theorem ZHR:∀ r:List Nat,okT r->tg n r (.A b ws)=tg n (r.drop (r.takeWhile fun a=>Z2 a==true).length) (.A b ws)/\okT (r.drop (r.takeWhile fun a=>Z2 a==true).length):=fun l0=>by
 induction l0 with
 |nil =>
  exact fun h=>⟨rfl,h⟩
 |cons a r ih =>
  intro h
  rw[List.takeWhile_cons]
  by_cases h62:a=62
  ·subst h62;exact⟨rfl,h⟩
  ·obtain⟨ha,hr⟩:=WW h h62
   rw[ZHY a ha]
   by_cases h32:a=32
   ·subst h32
    exact ih hr
   ·rw[xV h32];exact⟨rfl,h⟩
theorem Du(h:a∈JJ):Jr n (.N ws w) a=([],some (.N ws (w++[a]))):=by
 have e:∀ a∈JJ,(Nat.beq a 62,Nat.beq a 32,Nat.beq a 47,Nat.beq a 60,Nat.beq a 0)=(false,false,false,false,false):=JE (by kernel_rfl)
 have e:=e a h
 injection e with e1 e
 injection e with e2 e
 injection e with e3 e
 injection e with e4 e5
 have hw:wW a=[a]:=by unfold wW;rw[e5];rfl
 have hT:wT false a=[]:=by unfold wT;rw[e4,e5];rfl
 unfold Jr
 dsimp only
 rw[if_neg fun q=>absurd (q▸e1) (by decide),if_neg fun q=>absurd (q▸e2) (by decide),if_neg fun q=>absurd (q▸e3) (by decide),hw,hT];rfl
noncomputable def ZJJ:Mine.V->List Mine.V
 |.tup l=>l
 |_=>[]
def pL(a:Nat):Bool:=(We (.str [a]) (ZJJ Up)).getD false
theorem ZHv:InP Up pL:=fun J J=>by kernel_rfl
theorem Xx:∀ a∈al,pL a=JJ.any (·==a):=JE (by kernel_rfl)
theorem ZEu:∀ (r w:List Nat),okT r->tg n r (.N ws w)=tg n (r.drop (r.takeWhile fun a=>pL a==true).length) (.N ws (w++r.takeWhile fun a=>pL a==true))/\okT (r.drop (r.takeWhile fun a=>pL a==true).length):=fun l0=>by
 induction l0 with
 |nil =>
  exact fun w h=>⟨by rw[show w++([]:List Nat).takeWhile (fun a=>pL a==true)=w from List.append_nil w];rfl,h⟩
 |cons a r ih =>
  intro w h
  rw[List.takeWhile_cons]
  have stay:tg n (a::r) (.N ws w)=tg n ((a::r).drop ([]:List Nat).length) (.N ws (w++[]))/\okT ((a::r).drop ([]:List Nat).length):=⟨by rw[List.append_nil];rfl,h⟩
  by_cases h62:a=62
  ·subst h62;exact stay
  ·obtain⟨ha,hr⟩:=WW h h62
   rw[Xx a ha]
   cases hl:JJ.any (·==a) with
   |false=>exact stay
   |true =>
    have e:=ih (w++[a]) hr
    refine⟨?_,e.2⟩
    have e0:tg n (a::r) (.N ws w)=tg n r (.N ws (w++[a])):=by
     show (Jr n (.N ws w) a).1++tgK (tg n r) r (Jr n (.N ws w) a).2=_
     rw[Du (J5 hl)];rfl
    rw[e0,e.1,List.append_assoc];rfl
end
section
variable{src r bf:List Nat}{a k:Nat}{ws:List (List Nat)}{w:List Nat}{b:Bool}{F:List It}
theorem ab(h:ws.length<=900):(ws.map att).length<JB:=by rw[List.length_map];exact qL h (by decide)
theorem G7(h:ws.length<=900):bd (ws.map att).length (some (!(ws.map att).isEmpty))=some (!ws.isEmpty):=by
 show gd (Nat.ble (ws.map att).length JB) _=_
 rw[ble (xG (ab h))]
 cases ws<;>rfl
theorem O3:(bif b then 66 else 62)∈[62,66]:=by cases b<;>decide
theorem mx{n:Nat}(h:n<=900):n<=JB:=qA h (by decide)
theorem ZCu(q:TQ)(hz:q.sz<=900):RG src (q.k bf) q.f [] (eoI q):=by
 cases q with
 |A b ws=>exact .eof (Q:=[.er (bif b then Ug else Uh)]) (x':=.t ⟨bf,ws,false,bf⟩) (F:=[]) rfl (show 1<100 by decide) (fun D s s1a hr=>by
  cases b
  ·exact HJ (f:=62) (d:=⟨bf,ws,false,bf⟩) (JV D) (by decide) hr
  ·exact HJ (f:=66) (d:=⟨bf,ws,false,bf⟩) (JV D) (by decide) hr) Nt
 |S ws=>exact .back (Q:=[.er W5]) (x':=.t ⟨bf,ws,false,bf⟩) (F:=[]) (r:=[]) rfl (by decide) (fun D s s1a s2a hr hu=>ZHl (JV D) hr hu) Nt
 |N ws w =>
  have h2:ws.length<=900/\w.length<=900:=⟨qA (qK _ _) hz,qA (Nat.le_add_left _ _) hz⟩
  have z:RG src (.a ⟨bf,ws,false,bf⟩ w) 65 [] (JK ([Tok4.er Qg]++Jy ws w)++[]):=.eof (x':=.a ⟨bf,ws,false,bf⟩ (w.map lowC)) (f':=9) (Qs rfl WU.1) (by rw[List.length_append];exact qL (qI WU.2 _) (by decide)) (fun D s s1a hr=>by
   have h:=ZH8 (d:=⟨bf,ws,false,bf⟩) (w:=w) (JV D) (ab h2.1) (mx h2.2) hr
   rw[show [Jd Qg]=vs [Tok4.er Qg] from rfl,Ni] at h
   exact h) (.frz Nt)
  rw[List.append_nil] at z
  exact z
def IH(src bf:List Nat)(k:Nat):Prop:=∀ (r:List Nat) (q:TQ),r.length<=k->q.sz+r.length<=900->okT r->RT src (q.k bf) q.f r (tg (bf.map lowC) r q)
theorem dle(r:List Nat)(j:Nat):(r.drop j).length<=r.length:=List.length_drop▸xU _ _
theorem HI(ih:IH src bf k)(hk:r.length<=k)(hz:ws.length+(r.length+1)<=900)(hb:bf.length<=900)(h:okT (a::r)):RG src (.t ⟨bf,ws,false,bf⟩) (bif b then 66 else 62) (a::r) (tg (bf.map lowC) (a::r) (.A b ws)):=by
 have hw:ws.length<=900:=qA (qK _ _) hz
 have hz':ws.length+r.length<=900:=qR hz
 have e:tg (bf.map lowC) (a::r) (.A b ws)=(Qe (bf.map lowC) b ws a).1++tgK (tg (bf.map lowC) r) r (Qe (bf.map lowC) b ws a).2:=rfl
 by_cases h62:a=62
 ·subst h62
  rw[e,show Qe (bf.map lowC) b ws 62=(emI (bf.map lowC) ws false,none) from rfl]
  show RG _ _ _ _ ((JK (emT (!ws.isEmpty) false)++[It.g (bf.map lowC) ws false])++UK r)
  rw[List.append_assoc]
  exact RG.emit (Q:=emT (!ws.isEmpty) false) (d:=⟨bf.map lowC,ws,false,bf⟩) YH.1 YH.2 (fun D s hs=>by
   obtain⟨s1a,_,hr,-,hA,-⟩:=hs
   exact⟨s1a,hA,H8▸ZJM (d:=⟨bf,ws,false,bf⟩) (JV D) O3 hr (G7 hw) (mx hb)⟩) (Y7 Xq (Zg h)).t
 ·obtain⟨ha,hr⟩:=WW h h62
  by_cases h32:a=32
  ·subst h32
   obtain⟨e1,o⟩:=ZHR (n:=bf.map lowC) (b:=b) (ws:=ws) r hr
   rw[e,show Qe (bf.map lowC) b ws 32=([],some (.A b ws)) from rfl]
   show RG _ _ _ _ (tg (bf.map lowC) r (.A b ws))
   rw[e1]
   exact .un (Q:=[]) (x':=.t ⟨bf,ws,false,bf⟩) (f':=bif b then 66 else 62) rfl (by decide) Dy (opp:=true) rfl (fun D s s1a s2a h1 h2=>ZJK (JV D) O3 h1 h2) (ih _ (.A b ws) (qA (dle _ _) hk) (qA (qI (dle _ _) _) hz') o)
  by_cases h47:a=47
  ·subst h47
   rw[e,show Qe (bf.map lowC) b ws 47=([],some (.S ws)) from rfl]
   exact .one (Q:=[]) (x':=.t ⟨bf,ws,false,bf⟩) (f':=63) rfl (by decide) (fun D s s1a h1=>ZJL (JV D) O3 h1) (ih r (.S ws) hk hz' hr)
  ·rw[e,show Qe (bf.map lowC) b ws a=(JK (wT b a),some (.N ws (wW a))) from (if_neg h62).trans ((if_neg h32).trans (if_neg h47))]
   have hp:=ZJI a ha
   rw[Ja h62,Ja h32,Ja h47] at hp
   have hp:(62,a)∈prW/\(66,a)∈prW:=bA (a:=prW.any (·==(62,a))) (b:=prW.any (·==(66,a))) hp fun x y=>⟨J5 x,J5 y⟩
   have hx:((bif b then 66 else 62),a)∈prW:=by cases b;exact hp.1;exact hp.2
   have hq:=ZHN _ hx
   have hT:∀ a∈prW,((wT true a.2).all Tok4.ok,Nat.blt (wT true a.2).length 100,(wT false a.2).all Tok4.ok,Nat.blt (wT false a.2).length 100,(wW a.2).length)=(true,true,true,true,1):=JE (by kernel_rfl)
   have hT:=hT _ hx
   have hbe:Nat.beq (bif b then 66 else 62) 66=b:=by cases b<;>rfl
   refine .one (Q:=wT b a) (x':=.a ⟨bf,ws,false,bf⟩ (wW a)) (f':=65) (by cases b;exact congrArg (·.2.2.1) hT;exact congrArg (·.1) hT) (qE (by cases b;exact congrArg (·.2.2.2.1) hT;exact congrArg (·.2.1) hT)) (fun D s s1a h1=>?_) (ih r (.N ws (wW a)) hk ?_ hr)
   ·have z:=ZEy (d:=⟨bf,ws,false,bf⟩) (JV D) hx h1 (xG (ab hw))
    rw[hq] at z
    dsimp only at z
    rw[hbe] at z
    exact z
   ·show ws.length+(wW a).length+r.length<=900
    rw[show (wW a).length=1 from congrArg (fun q=>q.2.2.2.2) hT,Nat.add_assoc,Nat.add_comm 1];exact hz
theorem ZHT(ih:IH src bf k)(hk:r.length<=k)(hz:ws.length+(r.length+1)<=900)(hb:bf.length<=900)(h:okT (a::r)):RG src (.t ⟨bf,ws,false,bf⟩) 63 (a::r) (tg (bf.map lowC) (a::r) (.S ws)):=by
 have hw:ws.length<=900:=qA (qK _ _) hz
 by_cases h62:a=62
 ·subst h62
  show RG _ _ _ _ ((JK (emT (!ws.isEmpty) true)++[It.g (bf.map lowC) ws true])++UK r)
  rw[List.append_assoc]
  exact RG.emit (Q:=emT (!ws.isEmpty) true) (d:=⟨bf.map lowC,ws,true,bf⟩) YH.1 YH.2 (fun D s hs=>by
   obtain⟨s1a,_,hr,-,hA,-⟩:=hs
   exact⟨s1a,hA,H8▸ZJU (d:=⟨bf,ws,false,bf⟩) (JV D) hr (G7 hw) (mx hb)⟩) (Y7 Xq (Zg h)).t
 ·have hp:=ZJW a (WW h h62).1
  rw[Ja h62] at hp
  have e:tg (bf.map lowC) (a::r) (.S ws)=It.e Uf::tg (bf.map lowC) (a::r) (.A false ws):=by
   show (Jr (bf.map lowC) (.S ws) a).1++tgK (tg (bf.map lowC) r) r (Jr (bf.map lowC) (.S ws) a).2=_
   rw[show Jr (bf.map lowC) (.S ws) a=(.e Uf::(Qe (bf.map lowC) false ws a).1,(Qe (bf.map lowC) false ws a).2) from if_neg h62];rfl
  rw[e]
  exact .back (Q:=[.er Uf]) (x':=.t ⟨bf,ws,false,bf⟩) (f':=62) rfl (by decide) (fun D s s1a s2a hr hu=>ZFH (JV D) (List.mem_map.mpr ⟨a,J5 hp,rfl⟩) hr hu) (HI (b:=false) ih hk hz hb h).t
theorem ZHU(ih:IH src bf k)(hk:r.length<=k)(hz:ws.length+w.length+(r.length+1)<=900)(hb:bf.length<=900)(h:okT (a::r)):RG src (.a ⟨bf,ws,false,bf⟩ w) 65 (a::r) (tg (bf.map lowC) (a::r) (.N ws w)):=by
 have hw:ws.length<=900:=qA (qA (qK _ _) (qK _ _)) hz
 have hv:w.length<=900:=qA (qA (Nat.le_add_left _ _) (qK _ _)) hz
 have hz1:(ws++[w.map lowC]).length+r.length<=900:=by
  rw[List.length_append,Nat.add_assoc,Nat.add_comm _ r.length]
  exact qA (qO (qK _ _) _) hz
 have e:tg (bf.map lowC) (a::r) (.N ws w)=(Jr (bf.map lowC) (.N ws w) a).1++tgK (tg (bf.map lowC) r) r (Jr (bf.map lowC) (.N ws w) a).2:=rfl
 have o1:(Jy ws w).length<99:=qL WU.2 (by decide)
 have dv:∀ {D s s1a f w'},Stp 65 (S3 [] (vs D) s 65 ⟨bf,ws,false,bf⟩ w) true (S3 (WF ⟨bf,ws,false,bf⟩ w []) (vs D) s1a f ⟨bf,ws,false,bf⟩ w')->Stp 65 (S3 [] (vs D) s 65 ⟨bf,ws,false,bf⟩ w) true (S3 (vs (Jy ws w)) (vs D) s1a f ⟨bf,ws,false,bf⟩ w'):=fun h=>by
  rw[show ([]:List Mine.V)=vs [] from rfl,Ni] at h
  exact h
 by_cases h62:a=62
 ·subst h62
  rw[e,show Jr (bf.map lowC) (.N ws w) 62=(JK (Jy ws w)++emI (bf.map lowC) (ws++[w.map lowC]) false,none) from rfl]
  have he:emI (bf.map lowC) (ws++[w.map lowC]) false=[.e Qa,.g (bf.map lowC) (ws++[w.map lowC]) false]:=by unfold emI;cases ws<;>rfl
  rw[he]
  show RG _ _ _ _ ((JK (Jy ws w)++(JK [Tok4.er Qa]++[It.g (bf.map lowC) (ws++[w.map lowC]) false]))++UK r)
  rw[<- List.append_assoc,<- Qk,List.append_assoc]
  refine RG.emitA (Q:=Jy ws w++[Tok4.er Qa]) (d:=⟨bf.map lowC,ws,false,bf⟩) (w:=w.map lowC) (Qs WU.1 rfl) (by rw[List.length_append];exact qL (qO WU.2 _) (by decide)) (fun D s hs=>?_) (Y7 Xq (Zg h)).t
  obtain⟨s1a,_,hr,-,hA,-⟩:=hs
  have z:=ZJq (d:=⟨bf,ws,false,bf⟩) (w:=w) (JV D) (ab hw) (mx hv) hr (mx hb) rfl
  rw[show ([]:List Mine.V)=vs [] from rfl,Ni] at z
  rw[QV]
  exact⟨s1a,hA,z⟩
 ·obtain⟨ha,hr⟩:=WW h h62
  by_cases h32:a=32
  ·subst h32
   rw[e,show Jr (bf.map lowC) (.N ws w) 32=(JK (Jy ws w),some (.A true (ws++[w.map lowC]))) from rfl]
   exact .one (Q:=Jy ws w) (x':=.a ⟨bf,ws,false,bf⟩ (w.map lowC)) (f':=66) WU.1 (qU o1) (fun D s s1a h1=>dv (ZJo (d:=⟨bf,ws,false,bf⟩) (JV D) (ab hw) (mx hv) h1)) (.frz (ih r (.A true (ws++[w.map lowC])) hk hz1 hr))
  by_cases h47:a=47
  ·subst h47
   rw[e,show Jr (bf.map lowC) (.N ws w) 47=(JK (Jy ws w),some (.S (ws++[w.map lowC]))) from rfl]
   exact .one (Q:=Jy ws w) (x':=.a ⟨bf,ws,false,bf⟩ (w.map lowC)) (f':=63) WU.1 (qU o1) (fun D s s1a h1=>dv (ZJp (d:=⟨bf,ws,false,bf⟩) (JV D) (ab hw) (mx hv) h1)) (.frz (ih r (.S (ws++[w.map lowC])) hk hz1 hr))
  have hp:=ZJr a ha
  rw[Ja h62,Ja h32,Ja h47] at hp
  have hp:(JJ.any (·==a)||prN.any (·==a))=true:=hp
  cases hl:JJ.any (·==a) with
  |true =>
   have hm:=J5 hl
   rw[e,Du hm]
   obtain⟨e1,o⟩:=ZEu (n:=bf.map lowC) (ws:=ws) r (w++[a]) hr
   show RG _ _ _ _ (tg (bf.map lowC) r (.N ws (w++[a])))
   rw[e1,List.append_assoc]
   have hle:(r.takeWhile fun a=>pL a==true).length+(r.drop (r.takeWhile fun a=>pL a==true).length).length=r.length:=by rw[List.length_drop,Nat.add_sub_cancel' (qM _).length_le]
   have hll:=(qM (p:=fun a=>pL a==true) (l:=r)).length_le
   refine .un (Q:=[]) (x':=.a ⟨bf,ws,false,bf⟩ (w++a::r.takeWhile fun a=>pL a==true)) (f':=65) rfl (by decide) ZHv (opp:=true) rfl (fun D s s1a s2a h1 h2=>ZH7 (d:=⟨bf,ws,false,bf⟩) (JV D) hm h1 (ab hw) (mx (qA (qQ (Nat.le_add_left w.length ws.length) (qA (qV (Nat.add_comm 1 _)) (qJ hll))) hz)) h2) (ih _ (.N ws (w++a::r.takeWhile fun a=>pL a==true)) (qA (dle _ _) hk) ?_ o)
   show ws.length+(w++a::r.takeWhile fun a=>pL a==true).length+_<=900
   rw[List.length_append,List.length_cons,Nat.add_assoc,Nat.add_assoc,Nat.add_right_comm,hle,<- Nat.add_assoc]
   exact hz
  |false =>
   rw[hl] at hp
   have hm:a∈prN:=J5 hp
   have hT:∀ a∈prN,((wT false a).all Tok4.ok,Nat.blt (wT false a).length 100,(wW a).length)=(true,true,1):=JE (by kernel_rfl)
   have hT:=hT a hm
   have hq:∀ a∈prN,qW 62 a=vs (wT false a):=JE (by kernel_rfl)
   rw[e,show Jr (bf.map lowC) (.N ws w) a=(JK (wT false a),some (.N ws (w++wW a))) from (if_neg h62).trans ((if_neg h32).trans (if_neg h47))]
   refine .one (Q:=wT false a) (x':=.a ⟨bf,ws,false,bf⟩ (w++wW a)) (f':=65) (congrArg (·.1) hT) (qE (congrArg (·.2.1) hT)) (fun D s s1a h1=>hq a hm▸ZH9 (d:=⟨bf,ws,false,bf⟩) (JV D) hm h1 (ab hw) (qA (qJ hv) (by decide))) (ih r (.N ws (w++wW a)) hk ?_ hr)
   show ws.length+(w++wW a).length+r.length<=900
   rw[List.length_append,show (wW a).length=1 from congrArg (fun q=>q.2.2) hT,<- Nat.add_assoc,Nat.add_assoc,Nat.add_comm 1]
   exact hz
theorem ZV(hb:bf.length<=900):∀ (k:Nat) (r:List Nat) (q:TQ),r.length<=k->q.sz+r.length<=900->okT r->RG src (q.k bf) q.f r (tg (bf.map lowC) r q)
 |_,[],q,_,hz,_=>ZCu q hz
 |0,_::_,_,hk,_,_=>absurd hk (xM _)
 |k+1,a::r,.A b ws,hk,hz,h=>HI (fun r q a b c=>(ZV hb k r q a b c).t) (xQ hk) hz hb h
 |k+1,a::r,.S ws,hk,hz,h=>ZHT (fun r q a b c=>(ZV hb k r q a b c).t) (xQ hk) hz hb h
 |k+1,a::r,.N ws w,hk,hz,h=>ZHU (fun r q a b c=>(ZV hb k r q a b c).t) (xQ hk) hz hb h
end
def rI(a:Nat):List It:=if a=0 then [.e QZ,.c 65533] else [.c a]
noncomputable def J2(w:List Nat):Bool:=match w with
 |[]=>false
 |a::_=>a==32||(a==47||a==62)
def ltr(w:List Nat):List Nat:=w.takeWhile fun a=>pL a
def JG(w:List Nat):List Nat:=w.drop (ltr w).length
def JM(n:Option (List Nat))(b w:List Nat):Bool:=some ((b++ltr w).map lowC)==n&&J2 (JG w)
def Ju(n:Option (List Nat)):List Nat->Option (List Nat)
 |[]=>none
 |b::w=>bif Nat.beq b 47 then bif JM n [] w then some w else none else none
def Jt(n:Option (List Nat)):List Nat->Option (List Nat)
 |[]=>none
 |a::r=>bif Nat.beq a 60 then Ju n r else none
def tgW(w:List Nat):List It:=tg ((ltr w).map lowC) (JG w) (.A false [])
def scr:Option (List Nat):=some QT
def isX(m:Nat):Bool:=Nat.ble 80 m&&!(isD m)
def nxM(m a:Nat)(r:List Nat):Nat:=
 bif isD m then (bif Nat.beq a 45 then upF m else bif Nat.beq a 62&&Nat.beq m 90 then 77 else bif Nat.beq a 60&&(Ju scr r).isSome then 83 else 87)
 else bif isX m then (bif Nat.beq a 45 then upF m else bif Nat.beq a 62&&Nat.beq m 80 then 77 else bif Nat.beq a 60&&JM scr [] r then 87 else 83)
 else bif Nat.beq a 60 then 74 else bif Nat.beq m 74&&Nat.beq a 33 then 76 else bif Nat.beq m 76&&Nat.beq a 45 then 79 else bif Nat.beq m 79&&Nat.beq a 45 then 80 else 77
def YC:List Nat:=wE
def JQ(n:Option (List Nat))(m:Nat)(r:List Nat):Option (List Nat):=bif isD m then none else Jt n r
noncomputable def E(n:Option (List Nat)):List Nat->Nat->List It
 |[],m=>bif isD m then [.e YC] else []
 |a::r,m=>match JQ n m (a::r) with
  |some w=>tgW w
  |none=>rI a++E n r (nxM m a r)
noncomputable def okE(n:Option (List Nat)):List Nat->Nat->Prop
 |[],_=>True
 |a::r,m=>match JQ n m (a::r) with
  |some w=>okT (JG w)/\∀ a∈w,a∈al
  |none=>a∈al/\okE n r (nxM m a r)
def F61(n:Option (List Nat))(m:Nat)(b w:List Nat):List It:=match JM n b w with
 |true=>tg ((b++ltr w).map lowC) (JG w) (.A false [])
 |false=>.c 60::.c 47::(b.map .c++E n w m)
def Qf(n:Option (List Nat))(m:Nat)(b w:List Nat):Prop:=match JM n b w with
 |true=>okT (JG w)/\∀ a∈w,a∈al
 |false=>okE n w m
section
variable{n:Option (List Nat)}{a m m':Nat}{r w b l:List Nat}
theorem Nf(h:a≠60):Jt n (a::r)=none:=by
 show (bif Nat.beq a 60 then Ju n r else none)=none
 rw[Ja h];rfl
theorem K8(h:∀ w,r≠47::w):Jt n (60::r)=none:=by
 cases r with
 |nil=>rfl
 |cons b w =>
  show (bif Nat.beq b 47 then bif JM n [] w then some w else none else none)=none
  rw[Ja fun q=>h w (congrArg (·::w) q)];rfl
theorem Jw(h:a≠60):JQ n m (a::r)=none:=by
 unfold JQ;rw[Nf h];cases isD m<;>rfl
theorem Yu(h:∀ w,r≠47::w):JQ n m (60::r)=none:=by
 unfold JQ;rw[K8 h];cases isD m<;>rfl
theorem E_c:E n (a::r) m=match JQ n m (a::r) with |some w=>tgW w |none=>rI a++E n r (nxM m a r):=rfl
theorem Xy:okE n (a::r) m=match JQ n m (a::r) with |some w=>okT (JG w)/\∀ a∈w,a∈al |none=>a∈al/\okE n r (nxM m a r):=rfl
theorem US(h:JQ n m (a::r)=none):E n (a::r) m=rI a++E n r (nxM m a r):=by
 rw[E_c,h]
theorem UF(h:JQ n m (a::r)=none)(k:okE n (a::r) m):a∈al/\okE n r (nxM m a r):=by
 rw[Xy,h] at k;exact k
theorem ZJj(h:a≠0):rI a=[.c a]:=if_neg h
theorem Xw(h:pL a=true):a≠60/\a≠0/\a≠47:=⟨fun q=>absurd (q▸h:pL 60=true) (by decide),fun q=>absurd (q▸h:pL 0=true) (by decide),fun q=>absurd (q▸h:pL 47=true) (by decide)⟩
theorem Wt(h:pL a=true):ltr (a::w)=a::ltr w:=by
 unfold ltr;rw[List.takeWhile_cons,h];rfl
theorem Ql(h:pL a=false):ltr (a::w)=[]:=by
 unfold ltr;rw[List.takeWhile_cons,h];rfl
theorem Xd(h:pL a=true):JG (a::w)=JG w:=by
 unfold JG;rw[Wt h];rfl
theorem UY(h:pL a=false):JG (a::w)=a::w:=by
 unfold JG;rw[Ql h];rfl
theorem Wn(h:pL a=true):JM n b (a::w)=JM n (b++[a]) w:=by
 unfold JM;rw[Wt h,Xd h,List.append_assoc];rfl
theorem Dm(hm:m∈[77,83,87])(h1:a≠60)(h2:m≠77->a≠45):nxM m a r=m:=by
 rcases List.mem_cons.mp hm with rfl |hm
 ·show (bif Nat.beq a 60 then 74 else 77)=77
  rw[Ja h1];rfl
 rcases Jm hm with rfl |rfl
 ·show (bif Nat.beq a 45 then 81 else bif Nat.beq a 62&&false then 77 else bif Nat.beq a 60&&JM scr [] r then 87 else 83)=83
  rw[Ja h1,Ja (h2 (by decide)),Bool.and_false];rfl
 ·show (bif Nat.beq a 45 then 88 else bif Nat.beq a 62&&false then 77 else bif Nat.beq a 60&&(Ju scr r).isSome then 83 else 87)=87
  rw[Ja h1,Ja (h2 (by decide)),Bool.and_false];rfl
theorem YZ(hm:m∈[77,83,87])(h1:a≠60)(h2:m≠77->a≠45)(h0:a≠0):E n (a::r) m=.c a::E n r m:=by
 rw[US (Jw h1),ZJj h0,Dm hm h1 h2];rfl
theorem WT(hm:m∈[77,83,87])(h1:a≠60)(h2:m≠77->a≠45)(k:okE n (a::r) m):a∈al/\okE n r m:=by
 have k:=UF (Jw h1) k
 rw[Dm hm h1 h2] at k;exact k
theorem ZD(h:pL a=true)(_:m≠77):a≠45:=fun q=>absurd (q▸h:pL 45=true) (by decide)
theorem OX(hm:m∈[77,83,87])(h:pL a=true):E n (a::r) m=.c a::E n r m:=YZ hm (Xw h).1 (ZD h) (Xw h).2.1
theorem bs3(h:m∈[77,83]):m∈[77,83,87]:=by
 rcases Jm h with rfl |rfl
 ·exact .head _
 ·exact .tail _ (.head _)
theorem NJ(hm:m∈[77,83])(h:pL a=true):F61 n m b (a::w)=F61 n m (b++[a]) w:=by
 unfold F61
 rw[Wn h,OX (bs3 hm) h,Wt h,Xd h,List.append_assoc b,show (b++[a]).map It.c=b.map It.c++[It.c a] from List.map_append,List.append_assoc (b.map It.c)];rfl
theorem KY(hm:m∈[77,83])(h:pL a=true)(k:Qf n m b (a::w)):Qf n m (b++[a]) w:=by
 unfold Qf at k ⊢
 rw[Wn h,Xd h] at k
 cases e:JM n (b++[a]) w with
 |true=>rw[e] at k;exact⟨k.1,fun x hx=>k.2 x (.tail _ hx)⟩
 |false=>rw[e] at k;exact(WT (bs3 hm) (Xw h).1 (ZD h) k).2
theorem Hd(hm:m∈[77,83]):nxM (nxM m 60 (47::w)) 47 w=m:=by
 rcases Jm hm with rfl |rfl
 ·rfl
 ·have e:JM scr [] (47::w)=false:=by unfold JM;rw[Ql (by decide)];rfl
  show nxM (bif JM scr [] (47::w) then 87 else 83) 47 w=83
  rw[e];rfl
theorem G1(hm:m∈[77,83]):JQ n m (60::47::w)=bif JM n [] w then some w else none:=by
 rcases Jm hm with rfl |rfl<;>rfl
theorem Iu(hm:m∈[77,83]):E n (60::47::w) m=F61 n m [] w:=by
 rw[E_c]
 unfold F61
 rw[G1 hm]
 cases JM n [] w with
 |true=>rfl
 |false =>
  show rI 60++E n (47::w) (nxM m 60 (47::w))=_
  rw[US (Jw (by decide)),Hd hm];rfl
theorem Hc(hm:m∈[77,83])(k:okE n (60::47::w) m):Qf n m [] w:=by
 rw[Xy,G1 hm] at k
 unfold Qf
 cases e:JM n [] w with
 |true=>rw[e] at k;exact k
 |false =>
  rw[e] at k
  have k:=(UF (Jw (by decide)) k.2).2
  rw[Hd hm] at k;exact k
theorem ZJG(hm:m∈[77,83,87]):∀ l:List Nat,(∀ a∈l,a≠60/\(m≠77->a≠45)/\a≠0)->E n (l++r) m=l.map .c++E n r m:=fun l0=>by
 induction l0 with
 |nil =>
  exact fun J=>rfl
 |cons a l ih =>
  intro h
  show E n (a::(l++r)) m=_
  rw[YZ hm (h a (.head _)).1 (h a (.head _)).2.1 (h a (.head _)).2.2,ih fun x hx=>h x (.tail _ hx)];rfl
theorem ZDI(hm:m∈[77,83,87]):∀ l:List Nat,(∀ a∈l,a≠60/\(m≠77->a≠45)/\a≠0)->okE n (l++r) m->okE n r m:=fun l0=>by
 induction l0 with
 |nil =>
  exact fun J k=>k
 |cons a l ih =>
  exact fun h k=>ih (fun x hx=>h x (.tail _ hx)) (WT hm (h a (.head _)).1 (h a (.head _)).2.1 k).2
theorem Kv(hm:m∈[74,76,79])(h33:m=74->a≠33)(h45:m≠74->a≠45):nxM m a r=nxM 77 a r:=by
 rcases List.mem_cons.mp hm with rfl |hm
 ·show (bif Nat.beq a 60 then 74 else bif Nat.beq a 33 then 76 else 77)=(bif Nat.beq a 60 then 74 else 77)
  rw[Ja (h33 rfl)];rfl
 rcases Jm hm with rfl |rfl
 ·show (bif Nat.beq a 60 then 74 else bif Nat.beq a 45 then 79 else 77)=(bif Nat.beq a 60 then 74 else 77)
  rw[Ja (h45 (by decide))];rfl
 ·show (bif Nat.beq a 60 then 74 else bif Nat.beq a 45 then 80 else 77)=(bif Nat.beq a 60 then 74 else 77)
  rw[Ja (h45 (by decide))];rfl
theorem K9(hm:m∈[74,76,79]):JQ n m r=JQ n 77 r:=by
 rcases List.mem_cons.mp hm with rfl |hm
 ·rfl
 rcases Jm hm with rfl |rfl<;>rfl
theorem Nu(hm:m∈[74,76,79])(h33:m=74->a≠33)(h45:m≠74->a≠45):E n (a::r) m=E n (a::r) 77:=by
 rw[E_c,E_c,K9 hm,Kv hm h33 h45]
theorem KW(hm:m∈[74,76,79])(h33:m=74->a≠33)(h45:m≠74->a≠45)(k:okE n (a::r) m):okE n (a::r) 77:=by
 rw[Xy,K9 hm,Kv hm h33 h45] at k;exact k
end
structure Nm(cv:Mine.V)(n:Option (List Nat)):Prop where
 h:∃ m:List Nat,m.all (Nat.blt · 128)=true/\m.length<=1000/\m≠[]/\cv=cvS m/\n=some (m.map lowC)
theorem Nm.ok{cv:Mine.V}{n:Option (List Nat)}(h:Nm cv n):CvOk cv:=by
 obtain⟨m,-,-,-,rfl,-⟩:=h.h
 exact ZG3
theorem Nm.ne{cv:Mine.V}{n:Option (List Nat)}(h:Nm cv n):n≠some []:=by
 obtain⟨m,-,-,hm,-,rfl⟩:=h.h
 exact fun q=>hm (List.map_eq_nil_iff.mp (Option.some.inj q))
theorem ZFZ{cv:Mine.V}{n:Option (List Nat)}{bf:List Nat}{f:Nat}{s:Sx}{dn:List Mine.V}{z}(N:Nm cv n)(hf:f∈[78,86])(hb:bf.all (Nat.blt · 128)=true)(hbl:bf.length<=1000)(h:JC (R61 f (.bool (some (bf.map lowC)==n)) s dn cv bf) nG z):JC (JR f [T0] (S1 [] dn s f cv (some bf))) nG z:=by
 obtain⟨m,h1,h2,h3,rfl,rfl⟩:=N.h
 refine ZBo hf h1 h2 hb hbl ?_ h
 cases e:m.map lowC==bf.map lowC with
 |true=>rw[beq_iff_eq.mp e];exact(beq_self_eq_true _).symm
 |false=>exact(xV fun q=>absurd (Option.some.inj q).symm (beq_eq_false_iff_ne.mp e)).symm
section
variable{src r w b x:List Nat}{a k m f:Nat}{n:Option (List Nat)}{cv ap v:Mine.V}{tb:Option (List Nat)}{s s':Sx}{D:List Tok4}{F:List It}{H:List (Id×Ob)}{P:List Nat}{Q:List Tok4}{ex:List Nat}
theorem H6:JK [Tok4.ch x]++F=x.map .c++F:=by
 show (x.map It.c++[])++F=_
 rw[List.append_nil]
noncomputable def UL:List Nat:=[77,83,81,80,87,88,90]
def IHr(src:List Nat)(cv:Mine.V)(n:Option (List Nat))(k:Nat):Prop:=∀ (m:Nat) (r:List Nat) (tb:Option (List Nat)),m∈UL->r.length<=k->okE n r m->RT src (.n cv tb) m r (E n r m)
theorem b7:77∈UL:=.head _
theorem b8:83∈UL:=.tail _ (.head _)
theorem b9:87∈UL:=.tail _ (.tail _ (.tail _ (.tail _ (.head _))))
theorem U5(hc:CvOk cv)(hx:(f,a)∈prO)(hv:(QS f a).1=vs Q)(hQ:Q.all Tok4.ok=true)(hl:Q.length<100)(H:RT src (.n cv (orT (QS f a).2.2 tb)) (QS f a).2.1 r F):RG src (.n cv tb) f (a::r) (JK Q++F):=
 .one hQ hl (fun D s s1a hr=>by
  have z:=Xl (tb:=tb) (JV D) hc.b hx hr
  rw[hv] at z
  exact z) H
theorem QX(hc:CvOk cv)(hx:(f,hd r)∈prB)(hv:(Q9 f).1=vs Q)(hQ:Q.all Tok4.ok=true)(hl:Q.length<100)(H:RT src (.n cv tb) (Q9 f).2 r F):RG src (.n cv tb) f r (JK Q++F):=
 .back hQ hl (fun D s s1a s2a hr hu=>by
  have z:=ZFl (tb:=tb) (JV D) hc.b hx hr hu
  rw[hv] at z
  exact z) H
theorem OA{l:List Nat}(h:a∈l):Mine.V.str [a]∈sg l:=.tail _ (List.mem_map.mpr ⟨a,h,rfl⟩)
theorem WA{l:List Nat}:hd []∈WJ l:=.head _
theorem WB{l:List Nat}(ha:a∈al)(h:l.any (·==a)=false):hd (a::r)∈WJ l:=OA (List.mem_filter.mpr ⟨ha,by rw[h];rfl⟩)
theorem QO{l:List (Nat×List Nat)}(h:(f,ex)∈l)(hv:v∈WJ ex):(f,v)∈l.flatMap fun x=>(WJ x.2).map fun v=>(x.1,v):=List.mem_flatMap.mpr ⟨(f,ex),h,List.mem_map.mpr ⟨v,hv,rfl⟩⟩
theorem Ux(h:okE n (a::r) m):a∈al:=by
 by_cases e:a=60
 ·subst e;decide
 ·exact(UF (Jw e) h).1
theorem OW(c:Nat):(c==a)=(a==c):=Bool.eq_iff_iff.mpr ⟨fun h=>beq_iff_eq.mpr (beq_iff_eq.mp h).symm,fun h=>beq_iff_eq.mpr (beq_iff_eq.mp h).symm⟩
theorem W2(h:JM n b w=false):F61 n m b w=JK [Tok4.ch (60::47::b)]++E n w m:=by
 rw[H6];unfold F61;rw[h];rfl
theorem ZEk(h:JM n b w=true):F61 n m b w=tg ((b++ltr w).map lowC) (JG w) (.A false []):=by
 unfold F61;rw[h]
theorem Ws(h:JM n b w=false)(k:Qf n m b w):okE n w m:=by
 unfold Qf at k;rw[h] at k;exact k
theorem ZBs(h:JM n b w=true)(k:Qf n m b w):okT (JG w):=by
 unfold Qf at k;rw[h] at k;exact k.1
theorem Kt(k:Qf n m b (a::w)):a∈al:=by
 unfold Qf at k
 cases e:JM n b (a::w)
 ·rw[e] at k;exact Ux k
 ·rw[e] at k;exact k.2 a (.head _)
theorem Y2(h:(some (b.map lowC)==n)=false)(e:ltr w=[]):JM n b w=false:=by
 unfold JM;rw[e,List.append_nil,h];rfl
theorem ZFa:∀ a∈al,(JJ.any (·==a)||(nlt.any (·==a)&&(([32,47,62]:List Nat).any (·==a)||(wZ:List Nat).any (·==a))))=true:=JE (by kernel_rfl)
theorem IY{α:Type}{g:Nat->List α}{y:α}(hf:f∈[78,86])(h:y∈g f):y∈[78,86].flatMap g:=List.mem_flatMap.mpr ⟨f,hf,h⟩
theorem ZDS(z:Bool)(hf:f∈[78,86])(ha:a∈JJ):(f,Mine.V.bool z,a)∈prL:=IY (g:=fun f=>[Mine.V.bool false,Mine.V.bool true].flatMap fun p=>JJ.map fun a=>(f,p,a)) hf (List.mem_flatMap.mpr ⟨Mine.V.bool z,by cases z;exact .head _;exact .tail _ (.head _),List.mem_map.mpr ⟨a,ha,rfl⟩⟩)
theorem Dt(z:Bool)(hf:f∈[78,86])(hv:v∈sg nlt)(h2:z=true->v∈sg wZ):(f,Mine.V.bool z,v)∈prE:=IY (g:=fun f=>((sg nlt).map fun v=>(f,Mine.V.bool false,v))++(sg wZ).map fun v=>(f,Mine.V.bool true,v)) hf (by
 cases z
 ·exact List.mem_append_left _ (List.mem_map.mpr ⟨v,hv,rfl⟩)
 ·exact List.mem_append_right _ (List.mem_map.mpr ⟨v,h2 rfl,rfl⟩))
theorem XC(N:Nm cv n)(hf:f∈[78,86])(hb:b.all (Nat.blt · 128)=true)(hbl:b.length<=900)(g:Good 7 H)(h:JC (R61 f (.bool (some (b.map lowC)==n)) s (vs D) cv b) nG (.bool true,hs s' H,P)):Stp f (S1 [] (vs D) s f cv (some b)) true ⟨[(0,T0)],hs s' H,7,P⟩:=OV.trans (JC.toN g ⟨rfl,rfl⟩ rfl (ZFZ N hf hb (qA hbl (by decide)) h))
theorem G5(hf:f∈[78,86]):bsE f∈[77,83]:=by
 rcases Jm hf with rfl |rfl
 ·exact .head _
 ·exact .tail _ (.head _)
theorem IF(hf:f∈[78,86]):bsE f∈UL:=by
 rcases Jm hf with rfl |rfl
 ·exact b7
 ·exact b8
theorem Iq(N:Nm cv n)(hf:f∈[78,86])(ih:IHr src cv n k):∀ (w b:List Nat),w.length<=k->b.length+w.length<=900->b.all (Nat.blt · 128)=true->Qf n (bsE f) b w->RG src (.n cv (some b)) f w (F61 n (bsE f) b w):=fun l0=>by
 induction l0 with
 |nil =>
  intro b hk hz hb h
  have hbl:b.length<=900:=qA (qK _ _) hz
  have hF:JM n b []=false:=Bool.and_false _
  rw[W2 hF]
  exact .back (Q:=[.ch (60::47::b)]) (x':=.n cv (some b)) (f':=bsE f) (r:=[]) rfl (show 1<100 by decide) (fun D s s1a s2a hr hu=>XC N hf hb hbl (JT (JV D) N.ok.b rfl) (Dp (JV D) N.ok.b (Dt _ hf (.head _) fun J=>.head _) hr hu (qA (qI hbl _) (by decide)))) (ih (bsE f) [] (some b) (IF hf) (qG _) (Ws hF h))
 |cons a w ih0 =>
  intro b hk hz hb h
  have ha:=Kt h
  have hbl:b.length<=900:=qA (qK _ _) hz
  cases e:JJ.any (·==a) with
  |true =>
   have hp:pL a=true:=(Xx a ha).trans e
   have hm:=J5 e
   have h128:∀ a∈JJ,Nat.blt a 128=true:=JE (by kernel_rfl)
   rw[NJ (G5 hf) hp]
   exact .one (Q:=[]) (x':=.n cv (some (b++[a]))) (f':=f) rfl (by decide) (fun D s s1a hr=>XC N hf hb hbl (JT (JV D) N.ok.b rfl) (ZFm (JV D) N.ok.b (ZDS _ hf hm) hr (mx (qA (qI (Nat.le_add_left 1 w.length) _) hz))))
    (ih0 (b++[a]) (qR hk) (by rw[List.length_append,Nat.add_assoc,Nat.add_comm [a].length];exact hz) (by rw[List.all_append,hb];exact(Bool.and_true _).trans (h128 a hm)) (KY (G5 hf) hp h)).t
  |false =>
   have hp:pL a=false:=(Xx a ha).trans e
   have hx:=ZFa a ha
   rw[e] at hx
   refine bA hx fun hx1 hx2=>?_
   cases hF:JM n b (a::w) with
   |false =>
    rw[W2 hF]
    refine .back (Q:=[.ch (60::47::b)]) (x':=.n cv (some b)) (f':=bsE f) (r:=a::w) rfl (show 1<100 by decide) (fun D s s1a s2a hr hu=>XC N hf hb hbl (JT (JV D) N.ok.b rfl) (Dp (JV D) N.ok.b (Dt _ hf (OA (J5 hx1)) fun e1=>?_) hr hu (qA (qI hbl _) (by decide)))) (ih (bsE f) (a::w) (some b) (IF hf) hk (Ws hF h))
    have e2:JM n b (a::w)=J2 (a::w):=by
     unfold JM;rw[Ql hp,List.append_nil,e1,UY hp];rfl
    rw[e2] at hF
    have hF:(a==32||(a==47||a==62))=false:=hF
    refine OA (J5 ?_)
    have e3:([32,47,62]:List Nat).any (·==a)=(a==32||(a==47||a==62)):=by
     show (32==a||(47==a||(62==a||false)))=_
     rw[Bool.or_false,OW 32,OW 47,OW 62]
    rw[e3,hF] at hx2
    exact hx2
   |true =>
    have hn:(some (b.map lowC)==n)=true:=by
     cases e1:some (b.map lowC)==n with
     |true=>rfl
     |false=>exact(Y2 e1 (Ql hp)).symm.trans hF
    have hT:=ZBs hF h
    rw[UY hp] at hT
    have he:J2 (a::w)=true:=by
     unfold JM at hF;rw[UY hp] at hF;exact bA hF fun J q=>q
    rw[ZEk hF,Ql hp,UY hp,List.append_nil]
    have tgq:∀ (q:TQ),q.sz+w.length<=900->okT w->RG src (q.k b) q.f w (tg (b.map lowC) w q):=fun q hq hw=>ZV hbl w.length w q (qF _) hq hw
    have hz':0+w.length<=900:=by rw[Nat.zero_add];exact qA (xD _) (qA (Nat.le_add_left _ b.length) hz)
    by_cases h32:a=32
    ·subst h32
     exact .one (Q:=[]) (x':=.t ⟨b,[],false,b⟩) (f':=62) rfl (by decide) (fun D s s1a hr=>XC N hf hb hbl (Jx (d:=⟨b,[],false,b⟩) (JV D)) (hn.symm▸ZH2 (JV D) N.ok.b hf hr)) (tgq (.A false []) hz' (WW hT (by decide)).2).t
    by_cases h47:a=47
    ·subst h47
     exact .one (Q:=[]) (x':=.t ⟨b,[],false,b⟩) (f':=63) rfl (by decide) (fun D s s1a hr=>XC N hf hb hbl (Jx (d:=⟨b,[],false,b⟩) (JV D)) (hn.symm▸ZH3 (JV D) N.ok.b hf hr)) (tgq (.S []) hz' (WW hT (by decide)).2).t
    by_cases h62:a=62
    ·subst h62
     exact RG.emit (Q:=[]) (d:=⟨b.map lowC,[],false,b⟩) rfl (by decide) (fun D s hs=>by
      obtain⟨s1a,_,hr,-,hA,-⟩:=hs
      exact⟨s1a,hA,XC N hf hb hbl (Jx (d:=⟨b.map lowC,[],false,b⟩) (JV D) rfl) (hn.symm▸ZH5 (JV D) N.ok.b hf hr (mx hbl))⟩) (Y7 Xq (Zg hT)).t
    ·have he:(a==32||(a==47||a==62))=true:=he
     rw[xV h32,xV h47,xV h62] at he
     exact Bool.noConfusion he
end
section
variable{src r w b x:List Nat}{a k m f:Nat}{n:Option (List Nat)}{cv ap v:Mine.V}{tb:Option (List Nat)}{s s':Sx}{D:List Tok4}{F:List It}{H:List (Id×Ob)}{P:List Nat}{Q:List Tok4}{ex:List Nat}
theorem ZH(ha:a∈al)(h:pL a=true):a∈JJ:=J5 ((Xx a ha).symm.trans h)
theorem ZI(ha:a∈al)(h:pL a=false):JJ.any (·==a)=false:=(Xx a ha).symm.trans h
theorem h128:∀ a∈JJ,Nat.blt a 128=true:=JE (by kernel_rfl)
theorem NW(ha:a∈JJ):[a].all (Nat.blt · 128)=true:=(Bool.and_true _).trans (h128 a ha)
theorem ZFE:(some (([]:List Nat).map lowC)==scr)=false:=rfl
theorem ZGI(h:pL a=false):JM scr [] (a::w)=false:=Y2 ZFE (Ql h)
theorem ZKH(N:Nm cv n)(ih:IHr src cv n k)(hk:w.length<=k)(hz:w.length<=900)(h:Qf n 77 [] w):RG src (.n cv (some [])) 75 w (F61 n 77 [] w):=by
 have no:ltr w=[]->JM n [] w=false:=fun e=>Y2 (xV N.ne.symm) e
 cases w with
 |nil =>
  have hf:=no rfl
  rw[W2 hf]
  exact QX (Q:=[.ch [60,47]]) N.ok (QO (.tail _ (.head _)) WA) rfl rfl (by decide) (ih 77 [] (some []) b7 (qG _) (Ws hf h))
 |cons a w =>
  have ha:=Kt h
  cases hp:pL a with
  |true =>
   have hm:=ZH ha hp
   rw[NJ (.head _) hp]
   exact .one (Q:=[]) (x':=.n cv (some [a])) (f':=78) rfl (by decide) (fun D s s1a hr=>ZFj (JV D) N.ok.b hm hr)
    (Iq (f:=78) N (.head _) ih w [a] (qR hk) (by rw[Nat.add_comm];exact hz) (NW hm) (KY (.head _) hp h)).t
  |false =>
   have hf:=no (Ql hp)
   rw[W2 hf]
   exact QX (Q:=[.ch [60,47]]) N.ok (QO (.tail _ (.head _)) (WB ha (ZI ha hp))) rfl rfl (by decide) (ih 77 (a::w) (some []) b7 hk (Ws hf h))
theorem ZKD(N:Nm cv n)(ih:IHr src cv n k)(hk:w.length<=k)(hz:w.length<=900)(h:Qf n 83 [] w):RG src (.n cv tb) 84 w (F61 n 83 [] w):=by
 have no:ltr w=[]->JM n [] w=false:=fun e=>Y2 (xV N.ne.symm) e
 have i84:(84,JJ)∈[(74,[33,47]),(75,JJ),(76,[45]),(79,[45]),(82,47::JJ),(84,JJ),(89,[47]),(85,[32,47,62]++JJ),(91,[32,47,62]++JJ)]:=.tail _ (.tail _ (.tail _ (.tail _ (.tail _ (.head _)))))
 cases w with
 |nil =>
  have hf:=no rfl
  rw[W2 hf]
  exact QX (Q:=[.ch [60,47]]) N.ok (QO i84 WA) rfl rfl (by decide) (ih 83 [] tb b8 (qG _) (Ws hf h))
 |cons a w =>
  have ha:=Kt h
  cases hp:pL a with
  |true =>
   have hm:=ZH ha hp
   rw[NJ (.tail _ (.head _)) hp]
   exact U5 (f:=84) (Q:=[]) N.ok (List.mem_append_left _ (List.mem_append_right _ (List.mem_flatMap.mpr ⟨84,.tail _ (.head _),List.mem_map.mpr ⟨a,hm,rfl⟩⟩))) rfl rfl (by decide)
    (Iq (f:=86) N (.tail _ (.head _)) ih w [a] (qR hk) (by rw[Nat.add_comm];exact hz) (NW hm) (KY (.tail _ (.head _)) hp h)).t
  |false =>
   have hf:=no (Ql hp)
   rw[W2 hf]
   exact QX (Q:=[.ch [60,47]]) N.ok (QO i84 (WB ha (ZI ha hp))) rfl rfl (by decide) (ih 83 (a::w) tb b8 hk (Ws hf h))
theorem ZY{c:Nat}(h:a≠c):[c].any (·==a)=false:=by
 show ((c==a)||false)=false
 rw[Bool.or_false];exact xV h.symm
theorem Xt{c:Nat}{l:List Nat}(h:a≠c)(h2:l.any (·==a)=false):(c::l).any (·==a)=false:=by
 show ((c==a)||l.any (·==a))=false
 rw[h2,Bool.or_false];exact xV h.symm
theorem ZKF(N:Nm cv n)(ih:IHr src cv n k)(hk:r.length<=k)(h:okE n r 79):RG src (.n cv tb) 79 r (E n r 79):=by
 cases r with
 |nil=>exact QX (Q:=[]) N.ok (QO (.tail _ (.tail _ (.tail _ (.head _)))) WA) rfl rfl (by decide) (ih 77 [] tb b7 (qG _) trivial)
 |cons a r =>
  by_cases e:a=45
  ·subst e
   have h2:=(UF (Jw (by decide)) h).2
   rw[US (Jw (by decide))]
   exact U5 (f:=79) (Q:=[.ch [45]]) N.ok (by decide) rfl rfl (by decide) (ih 80 r tb (by decide) (qR hk) h2)
  ·rw[Nu (m:=79) (by decide) (fun q=>absurd q (by decide)) fun J=>e]
   exact QX (Q:=[]) N.ok (QO (.tail _ (.tail _ (.tail _ (.head _)))) (WB (Ux h) (ZY e))) rfl rfl (by decide) (ih 77 (a::r) tb b7 hk (KW (m:=79) (by decide) (fun q=>absurd q (by decide)) (fun J=>e) h))
theorem ZKG(N:Nm cv n)(ih:IHr src cv n k)(hk:r.length<=k)(h:okE n r 76):RG src (.n cv tb) 76 r (E n r 76):=by
 cases r with
 |nil=>exact QX (Q:=[]) N.ok (QO (.tail _ (.tail _ (.head _))) WA) rfl rfl (by decide) (ih 77 [] tb b7 (qG _) trivial)
 |cons a r =>
  by_cases e:a=45
  ·subst e
   have h2:=(UF (Jw (by decide)) h).2
   rw[US (Jw (by decide))]
   exact U5 (f:=76) (Q:=[.ch [45]]) N.ok (by decide) rfl rfl (by decide) (ZKF N ih (qR hk) h2).t
  ·rw[Nu (m:=76) (by decide) (fun q=>absurd q (by decide)) fun J=>e]
   exact QX (Q:=[]) N.ok (QO (.tail _ (.tail _ (.head _))) (WB (Ux h) (ZY e))) rfl rfl (by decide) (ih 77 (a::r) tb b7 hk (KW (m:=76) (by decide) (fun q=>absurd q (by decide)) (fun J=>e) h))
theorem ZKI(N:Nm cv n)(ih:IHr src cv n k)(hk:r.length<=k)(hz:r.length<=900)(h:okE n (60::r) 77):RG src (.n cv tb) 74 r (E n (60::r) 77):=by
 cases r with
 |nil=>exact QX (Q:=[.ch [60]]) N.ok (QO (.head _) WA) rfl rfl (by decide) (ih 77 [] tb b7 (qG _) trivial)
 |cons a r =>
  by_cases e:a=47
  ·subst e
   rw[Iu (.head _)]
   exact U5 (f:=74) (Q:=[]) N.ok (by decide) rfl rfl (by decide) (ZKH N ih (qR hk) (qR hz) (Hc (.head _) h)).t
  ·have hf:JQ n 77 (60::a::r)=none:=Yu fun w q=>e (qS q).1
   have h':okE n (a::r) 74:=(UF hf h).2
   rw[US hf]
   by_cases e3:a=33
   ·subst e3
    have h2:=(UF (Jw (by decide)) h').2
    show RG _ _ _ _ (rI 60++E n (33::r) 74)
    rw[US (Jw (by decide))]
    exact U5 (f:=74) (Q:=[.ch [60,33]]) N.ok (by decide) rfl rfl (by decide) (ZKG N ih (qR hk) h2).t
   ·show RG _ _ _ _ (rI 60++E n (a::r) 74)
    rw[Nu (m:=74) (by decide) (fun J=>e3) fun q=>absurd rfl q]
    exact QX (Q:=[.ch [60]]) N.ok (QO (.head _) (WB (Ux h') (Xt e3 (ZY e)))) rfl rfl (by decide) (ih 77 (a::r) tb b7 hk (KW (m:=74) (by decide) (fun J=>e3) (fun q=>absurd rfl q) h'))
end
section
variable{src r w b x:List Nat}{a k m f:Nat}{n:Option (List Nat)}{cv ap v:Mine.V}{tb:Option (List Nat)}{s s':Sx}{D:List Tok4}{F:List It}{H:List (Id×Ob)}{P:List Nat}{Q:List Tok4}{ex:List Nat}{z:Bool}
theorem U6(hf:f∈[85,91]):nxT f z∈[77,83,87]:=by
 rcases Jm hf with rfl |rfl<;>cases z<;>decide
theorem Hf(hf:f∈[85,91]):nxT f z∈UL:=by
 rcases Jm hf with rfl |rfl<;>cases z<;>decide
theorem He(hf:f∈[85,91]):(Q9 f).2=nxT f false/\(Q9 f).1=vs []:=by
 rcases Jm hf with rfl |rfl<;>exact⟨rfl,rfl⟩
theorem ZHq(hf:f∈[85,91])(hv:v∈WJ ([32,47,62]++JJ)):(f,v)∈prB:=by
 rcases Jm hf with rfl |rfl
 ·exact QO (.tail _ (.tail _ (.tail _ (.tail _ (.tail _ (.tail _ (.tail _ (.head _)))))))) hv
 ·exact QO (.tail _ (.tail _ (.tail _ (.tail _ (.tail _ (.tail _ (.tail _ (.tail _ (.head _))))))))) hv
theorem G8(N:Nm cv n)(ih:IHr src cv n k)(hf:f∈[85,91])(hk:r.length<=k)(hv:hd r∈WJ ([32,47,62]++JJ))(h:okE n r (nxT f false)):RG src (.n cv tb) f r (E n r (nxT f false)):=
 QX (Q:=[]) N.ok (ZHq hf hv) (He hf).2 rfl (by decide) (by rw[(He hf).1];exact ih _ r tb (Hf hf) hk h)
theorem Ii(h:J2 (a::w)=true):a∈[32,47,62]:=by
 have h:(a==32||(a==47||a==62))=true:=h
 rcases Bool.or_eq_true_iff.mp h with h |h
 ·exact beq_iff_eq.mp h▸.head _
 rcases Bool.or_eq_true_iff.mp h with h |h
 ·exact beq_iff_eq.mp h▸.tail _ (.head _)
 ·exact beq_iff_eq.mp h▸.tail _ (.tail _ (.head _))
theorem ZJ1(h:J2 (a::w)=false)(hl:JJ.any (·==a)=false):([32,47,62]++JJ).any (·==a)=false:=by
 have h:(a==32||(a==47||a==62))=false:=h
 obtain⟨h1,h⟩:=Bool.or_eq_false_iff.mp h
 obtain⟨h2,h3⟩:=Bool.or_eq_false_iff.mp h
 exact Xt (beq_eq_false_iff_ne.mp h1) (Xt (beq_eq_false_iff_ne.mp h2) (Xt (beq_eq_false_iff_ne.mp h3) hl))
theorem ne3(h:a∈[32,47,62]):a≠60/\a≠45/\a≠0:=by
 rcases List.mem_cons.mp h with rfl |h
 ·decide
 rcases Jm h with rfl |rfl<;>decide
theorem RGT(N:Nm cv n)(ih:IHr src cv n k)(hf:f∈[85,91]):∀ (w b:List Nat),w.length<=k->b.length+w.length<=900->b.all (Nat.blt · 128)=true->okE n w (nxT f (JM scr b w))->RG src (.n cv (some b)) f w (E n w (nxT f (JM scr b w))):=fun l0=>by
 induction l0 with
 |nil =>
  intro b hk hz hb h
  have hF:JM scr b []=false:=Bool.and_false _
  rw[hF] at h ⊢
  exact G8 N ih hf hk WA h
 |cons a w ih0 =>
  intro b hk hz hb h
  have ha:=Ux h
  have hbl:b.length<=900:=qA (qK _ _) hz
  cases hp:pL a with
  |true =>
   have hm:=ZH ha hp
   have h2:=(WT (U6 hf) (Xw hp).1 (ZD hp) h).2
   rw[OX (U6 hf) hp]
   rw[Wn hp] at h2 ⊢
   exact .one (Q:=[.ch [a]]) (x':=.n cv (some (b++[a]))) (f':=f) rfl (show 1<100 by decide) (fun D s s1a hr=>ZEv (JV D) N.ok.b (List.mem_flatMap.mpr ⟨f,hf,List.mem_map.mpr ⟨a,hm,rfl⟩⟩) hr (mx (qA (qI (Nat.le_add_left 1 w.length) _) hz)))
    (ih0 (b++[a]) (qR hk) (by rw[List.length_append,Nat.add_assoc,Nat.add_comm [a].length];exact hz) (by rw[List.all_append,hb];exact(Bool.and_true _).trans (h128 a hm)) h2).t
  |false =>
   cases he:J2 (a::w) with
   |true =>
    have hF:JM scr b (a::w)=(b.map lowC==QT):=by
     unfold JM;rw[Ql hp,UY hp,he,List.append_nil,Bool.and_true];rfl
    have n3:=ne3 (Ii he)
    have h2:=(WT (U6 hf) n3.1 (fun J=>n3.2.1) h).2
    rw[YZ (U6 hf) n3.1 (fun J=>n3.2.1) n3.2.2]
    rw[hF] at h2 ⊢
    exact .one (Q:=[.ch [a]]) (x':=.n cv (some b)) (f':=nxT f (b.map lowC==QT)) rfl (show 1<100 by decide) (fun D s s1a hr=>ZEw (JV D) N.ok.b (List.mem_flatMap.mpr ⟨f,hf,List.mem_map.mpr ⟨a,Ii he,rfl⟩⟩) hr hb (qA hbl (by decide))) (ih _ w (some b) (Hf hf) (qR hk) h2)
   |false =>
    have hF:JM scr b (a::w)=false:=by unfold JM;rw[UY hp,he];exact Bool.and_false _
    rw[hF] at h ⊢
    exact G8 N ih hf hk (WB ha (ZJ1 he (ZI ha hp))) h
theorem e82:∀ a∈JJ,QS 82 a=([JN [60,a]],85,some [a]):=JE (by kernel_rfl)
theorem i82:(82,47::JJ)∈[(74,[33,47]),(75,JJ),(76,[45]),(79,[45]),(82,47::JJ),(84,JJ),(89,[47]),(85,[32,47,62]++JJ),(91,[32,47,62]++JJ)]:=.tail _ (.tail _ (.tail _ (.tail _ (.head _))))
theorem ZKE(N:Nm cv n)(ih:IHr src cv n k)(hk:r.length<=k)(hz:r.length<=900)(h:okE n (60::r) 83):RG src (.n cv tb) 82 r (E n (60::r) 83):=by
 cases r with
 |nil=>exact QX (Q:=[.ch [60]]) N.ok (QO i82 WA) rfl rfl (by decide) (ih 83 [] tb b8 (qG _) trivial)
 |cons a r =>
  by_cases e:a=47
  ·subst e
   rw[Iu (.tail _ (.head _))]
   exact U5 (f:=82) (Q:=[]) N.ok (by decide) rfl rfl (by decide) (ZKD N ih (qR hk) (qR hz) (Hc (.tail _ (.head _)) h)).t
  ·have hf:JQ n 83 (60::a::r)=none:=Yu fun w q=>e (qS q).1
   have h':okE n (a::r) (bif JM scr [] (a::r) then 87 else 83):=(UF hf h).2
   have ha:=Ux h'
   rw[US hf]
   show RG _ _ _ _ (rI 60++E n (a::r) (bif JM scr [] (a::r) then 87 else 83))
   cases hp:pL a with
   |true =>
    have hm:=ZH ha hp
    have eT:∀ z:Bool,(bif z then 87 else 83)=nxT 85 z:=fun z=>by cases z<;>rfl
    rw[eT] at h' ⊢
    have h2:=(WT (U6 (f:=85) (by decide)) (Xw hp).1 (ZD hp) h').2
    rw[OX (U6 (f:=85) (by decide)) hp]
    rw[Wn hp] at h2 ⊢
    exact .one (Q:=[.ch [60,a]]) (x':=.n cv (some [a])) (f':=85) rfl (show 1<100 by decide) (fun D s s1a hr=>by
     have z:=Xl (f:=82) (a:=a) (tb:=tb) (JV D) N.ok.b (List.mem_append_left _ (List.mem_append_right _ (List.mem_flatMap.mpr ⟨82,.head _,List.mem_map.mpr ⟨a,hm,rfl⟩⟩))) hr
     rw[e82 a hm] at z
     exact z) (RGT (f:=85) N ih (by decide) r [a] (qR hk) (by rw[Nat.add_comm];exact hz) (NW hm) h2).t
   |false =>
    rw[ZGI hp] at h' ⊢
    exact QX (Q:=[.ch [60]]) N.ok (QO i82 (WB ha (Xt e (ZI ha hp)))) rfl rfl (by decide) (ih 83 (a::r) tb b8 hk h')
theorem ZKC(N:Nm cv n)(ih:IHr src cv n k)(hk:r.length<=k)(hz:r.length<=900)(h:okE n r (bif (Ju scr r).isSome then 83 else 87)):RG src (.n cv tb) 89 r (E n r (bif (Ju scr r).isSome then 83 else 87)):=by
 have i89:(89,[47])∈[(74,[33,47]),(75,JJ),(76,[45]),(79,[45]),(82,47::JJ),(84,JJ),(89,[47]),(85,[32,47,62]++JJ),(91,[32,47,62]++JJ)]:=.tail _ (.tail _ (.tail _ (.tail _ (.tail _ (.tail _ (.head _))))))
 cases r with
 |nil=>exact QX (Q:=[]) N.ok (QO i89 WA) rfl rfl (by decide) (ih 87 [] tb b9 (qG _) trivial)
 |cons a r =>
  by_cases e:a=47
  ·subst e
   have eT:(bif (Ju scr (47::r)).isSome then 83 else 87)=nxT 91 (JM scr [] r):=by
    show (bif (bif JM scr [] r then some r else none).isSome then 83 else 87)=_
    cases JM scr [] r<;>rfl
   rw[eT] at h ⊢
   have h2:=(WT (U6 (f:=91) (by decide)) (by decide) (fun J=>by decide) h).2
   rw[YZ (U6 (f:=91) (by decide)) (by decide) (fun J=>by decide) (by decide)]
   exact U5 (f:=89) (Q:=[.ch [47]]) N.ok (by decide) rfl rfl (by decide) (RGT (f:=91) N ih (by decide) r [] (qR hk) (by rw[show ([]:List Nat).length=0 from rfl,Nat.zero_add];exact qR hz) rfl h2).t
  ·have eT:Ju scr (a::r)=none:=by
    show (bif Nat.beq a 47 then _ else none)=none
    rw[Ja e];rfl
   rw[eT] at h ⊢
   exact QX (Q:=[]) N.ok (QO i89 (WB (Ux h) (ZY e))) rfl rfl (by decide) (ih 87 (a::r) tb b9 hk h)
end
def tO(a:Nat):List Tok4:=bif Nat.beq a 0 then [.er QZ,.ch [65533]] else [.ch [a]]
def prX:List (Nat×Nat):=(w9.flatMap fun f=>(al.filter fun a=>!(Nat.beq a 60)).map fun a=>(f,a))++[(83,45),(83,0),(77,0)]
noncomputable def pX(a:Nat):Bool:=[some [60],some [45],some [0]].any (·==some [a])
theorem ZHt:InP (.tup [.str [60],.str [45],.str [0]]) pX:=fun J J=>rfl
def qT(m:Nat):List Tok4:=bif isD m then [.er YC] else []
section
variable{src r w b x:List Nat}{a k m f:Nat}{n:Option (List Nat)}{cv ap v:Mine.V}{tb:Option (List Nat)}{s s':Sx}{D:List Tok4}{F:List It}{H:List (Id×Ob)}{P:List Nat}{Q:List Tok4}{z:Bool}
theorem OJ(h:pX a=false):a≠60/\a≠45/\a≠0:=⟨fun q=>absurd (q▸h:pX 60=false) (by decide),fun q=>absurd (q▸h:pX 45=false) (by decide),fun q=>absurd (q▸h:pX 0=false) (by decide)⟩
theorem Ha(h:pR a=false):a≠60/\a≠0:=⟨fun q=>absurd (q▸h:pR 60=false) (by decide),fun q=>absurd (q▸h:pR 0=false) (by decide)⟩
theorem NO{p:Nat->Bool}(l:List Nat):∀ a∈l.takeWhile p,p a=true:=List.all_eq_true.mp List.all_takeWhile
theorem ZJH(hm:m∈w9)(ha:a∈al)(h:a≠60):(m,a)∈prX:=List.mem_append_left _ (List.mem_flatMap.mpr ⟨m,hm,List.mem_map.mpr ⟨a,List.mem_filter.mpr ⟨ha,by rw[Ja h];rfl⟩,rfl⟩⟩)
theorem ZHp(hx:(m,a)∈prX):(m,a)∈prO:=by
 rcases List.mem_append.mp hx with h |h
 ·obtain⟨f,hf,h⟩:=List.mem_flatMap.mp h
  obtain⟨c,hc,e⟩:=List.mem_map.mp h
  exact List.mem_append_left _ (List.mem_append_left _ (List.mem_flatMap.mpr ⟨f,hf,List.mem_map.mpr ⟨c,(List.mem_filter.mp hc).1,e⟩⟩))
 ·have e:∀ x∈[(83,45),(83,0),(77,0)],prO.any (·==x)=true:=JE (by kernel_rfl)
  exact J5 (e _ h)
theorem RGx(N:Nm cv n)(ih:IHr src cv n k)(hx:(m,a)∈prX)(hk:r.length<=k)(h:okE n (a::r) m):RG src (.n cv tb) m (a::r) (E n (a::r) m):=by
 have e1:∀ x∈prX,QS x.1 x.2=(vs (tO x.2),nxM x.1 x.2 r,none):=JE (by kernel_rfl)
 have e2:∀ x∈prX,(JK (tO x.2),(tO x.2).all Tok4.ok,Nat.blt (tO x.2).length 100,Nat.beq x.2 60,UL.any (·==nxM x.1 x.2 r))=(rI x.2,true,true,false,true):=JE (by kernel_rfl)
 have e1:=e1 _ hx
 have e2:=e2 _ hx
 have e3:Nat.beq a 60=false:=congrArg (fun y=>y.2.2.2.1) e2
 have n60:a≠60:=fun q=>absurd (q▸e3:Nat.beq 60 60=false) (by decide)
 rw[US (Jw n60),show rI a=JK (tO a) from (congrArg (fun y=>y.1) e2).symm]
 exact .one (Q:=tO a) (x':=.n cv tb) (f':=nxM m a r) (congrArg (fun y=>y.2.1) e2) (qE (congrArg (fun y=>y.2.2.1) e2)) (fun D s s1a hr=>by
  have z:=Xl (tb:=tb) (JV D) N.ok.b (ZHp hx) hr
  rw[e1] at z
  exact z) (ih _ r tb (J5 (congrArg (fun y=>y.2.2.2.2) e2)) hk (UF (Jw n60) h).2)
theorem Ic(hm:m∈[83,81,80]):E n (60::r) m=E n (60::r) 83/\okE n (60::r) m=okE n (60::r) 83:=by
 rcases List.mem_cons.mp hm with rfl |hm
 ·exact⟨rfl,rfl⟩
 rcases Jm hm with rfl |rfl<;>exact⟨rfl,rfl⟩
theorem RGl(N:Nm cv n)(ih:IHr src cv n k)(hk:r.length<=k)(hz:r.length<=900)(hm:m∈[83,81,80])(h:okE n (60::r) m):RG src (.n cv tb) m (60::r) (E n (60::r) m):=by
 have e1:∀ m∈[83,81,80],(QS m 60,prO.any (·==(m,60)))=(([],82,none),true):=JE (by kernel_rfl)
 have e1:=e1 m hm
 rw[(Ic hm).2] at h
 rw[(Ic hm).1]
 exact .one (Q:=[]) (x':=.n cv tb) (f':=82) rfl (by decide) (fun D s s1a hr=>by
  have z:=Xl (tb:=tb) (JV D) N.ok.b (J5 (congrArg Prod.snd e1)) hr
  rw[show QS m 60=([],82,none) from congrArg Prod.fst e1] at z
  exact z) (ZKE N ih hk hz h).t
theorem RGd(N:Nm cv n)(ih:IHr src cv n k)(hk:r.length<=k)(hz:r.length<=900)(hm:m∈[87,88,90])(h:okE n (60::r) m):RG src (.n cv tb) m (60::r) (E n (60::r) m):=by
 have e1:∀ m∈[87,88,90],(QS m 60,prO.any (·==(m,60)),nxM m 60 r,isD m)=(([JN [60]],89,none),true,(bif (Ju scr r).isSome then 83 else 87),true):=JE (by kernel_rfl)
 have e1:=e1 m hm
 have hf:JQ n m (60::r)=none:=by
  unfold JQ
  rw[show isD m=true from congrArg (fun y=>y.2.2.2) e1];rfl
 have h2:=(UF hf h).2
 rw[show nxM m 60 r=_ from congrArg (fun y=>y.2.2.1) e1] at h2
 rw[US hf,show nxM m 60 r=_ from congrArg (fun y=>y.2.2.1) e1]
 exact .one (Q:=[.ch [60]]) (x':=.n cv tb) (f':=89) rfl (by decide) (fun D s s1a hr=>by
  have z:=Xl (tb:=tb) (JV D) N.ok.b (J5 (congrArg (fun y=>y.2.1) e1)) hr
  rw[show QS m 60=([JN [60]],89,none) from congrArg Prod.fst e1] at z
  exact z) (ZKC N ih hk hz h2).t
theorem ID{p:Nat->Bool}(hm:m∈[77,83,87])(hp:∀ a,p a=false->a≠60/\(m≠77->a≠45)/\a≠0)(hpa:p a=false)(h:okE n (a::r) m):E n (a::r) m=JK [Tok4.ch (a::r.takeWhile fun a=>p a==false)]++E n (r.drop (r.takeWhile fun a=>p a==false).length) m/\okE n (r.drop (r.takeWhile fun a=>p a==false).length) m:=by
 have hl:∀ a∈r.takeWhile (fun a=>p a==false),a≠60/\(m≠77->a≠45)/\a≠0:=fun a ha=>hp a (beq_iff_eq.mp (NO (p:=fun a=>p a==false) r a ha))
 obtain⟨n1,n2,n0⟩:=hp a hpa
 have h2:=(WT hm n1 n2 h).2
 have er:E n r m=(r.takeWhile fun a=>p a==false).map .c++E n (r.drop (r.takeWhile fun a=>p a==false).length) m:=by
  rw[<- ZJG hm _ hl,List.prefix_iff_eq_append.mp (qM _)]
 refine⟨?_,ZDI hm (r.takeWhile fun a=>p a==false) hl (by rw[List.prefix_iff_eq_append.mp (qM _)];exact h2)⟩
 rw[YZ hm n1 n2 n0,er,H6];rfl
theorem RGs(N:Nm cv n)(ih:IHr src cv n k)(hk:r.length<=k)(hz:r.length+1<=900)(h:okE n (a::r) 77):RG src (.n cv tb) 77 (a::r) (E n (a::r) 77):=by
 by_cases e:a=60
 ·subst e
  exact U5 (f:=77) (Q:=[]) N.ok (by decide) rfl rfl (by decide) (ZKI N ih hk (qR hz) h).t
 by_cases e0:a=0
 ·subst e0
  exact RGx N ih (by decide) hk h
 obtain⟨h1,h2⟩:=ID (p:=pR) (.head _) (fun a h=>⟨(Ha h).1,fun q=>absurd rfl q,(Ha h).2⟩) (by
  show ((some [60]==some [a])||((some [0]==some [a])||false))=false
  rw[Bool.or_false]
  exact Bool.or_eq_false_iff.mpr ⟨xV fun q=>e (qS (Option.some.inj q)).1.symm,xV fun q=>e0 (qS (Option.some.inj q)).1.symm⟩) h
 rw[h1]
 exact .un (Q:=[.ch (a::r.takeWhile fun a=>pR a==false)]) (x':=.n cv tb) (f':=77) rfl (show 1<100 by decide) ZHu (opp:=false) rfl (fun D s s1a s2a h1 h2=>ZFD (JV D) N.ok.b h1 h2 e e0 (mx (qA (Nat.add_comm _ _▸qJ (qM _).length_le) hz))) (ih 77 _ tb b7 (qA (dle _ _) hk) h2)
theorem RGe(N:Nm cv n)(ih:IHr src cv n k)(hk:r.length<=k)(hz:r.length+1<=900)(h:okE n (a::r) 83):RG src (.n cv tb) 83 (a::r) (E n (a::r) 83):=by
 by_cases e:a=60
 ·subst e
  exact RGl N ih hk (qR hz) (.head _) h
 by_cases e4:a=45
 ·subst e4
  exact RGx N ih (by decide) hk h
 by_cases e0:a=0
 ·subst e0
  exact RGx N ih (by decide) hk h
 obtain⟨h1,h2⟩:=ID (p:=pX) (.tail _ (.head _)) (fun a h=>⟨(OJ h).1,fun J=>(OJ h).2.1,(OJ h).2.2⟩) (by
  show ((some [60]==some [a])||((some [45]==some [a])||((some [0]==some [a])||false)))=false
  rw[Bool.or_false]
  exact Bool.or_eq_false_iff.mpr ⟨xV fun q=>e (qS (Option.some.inj q)).1.symm,Bool.or_eq_false_iff.mpr ⟨xV fun q=>e4 (qS (Option.some.inj q)).1.symm,xV fun q=>e0 (qS (Option.some.inj q)).1.symm⟩⟩) h
 rw[h1]
 exact .un (Q:=[.ch (a::r.takeWhile fun a=>pX a==false)]) (x':=.n cv tb) (f':=83) rfl (show 1<100 by decide) ZHt (opp:=false) rfl (fun D s s1a s2a h1 h2=>ZHL (JV D) N.ok.b h1 h2 e4 e e0 (mx (qA (Nat.add_comm _ _▸qJ (qM _).length_le) hz))) (ih 83 _ tb b8 (qA (dle _ _) hk) h2)
theorem RGn(N:Nm cv n)(hm:m∈UL):RG src (.n cv tb) m [] (E n [] m):=by
 rcases List.mem_cons.mp hm with rfl |hm
 ·exact .stop N.ok fun D s s' hr=>ZFC (JV D) N.ok.b hr
 ·have e:∀ m∈w5,(qEo m,E n [] m,(qT m).all Tok4.ok,Nat.blt (qT m).length 100)=(vs (qT m),JK (qT m)++[],true,true):=JE (by kernel_rfl)
  have e:=e m hm
  rw[show E n [] m=_ from congrArg (fun y=>y.2.1) e]
  exact .eof (Q:=qT m) (x':=.n cv tb) (f':=9) (congrArg (fun y=>y.2.2.1) e) (qE (congrArg (fun y=>y.2.2.2) e)) (fun D s s1a hr=>by
   have z:=ZHK (tb:=tb) (JV D) N.ok.b hm hr
   rw[show qEo m=_ from congrArg Prod.fst e] at z
   exact z) (RG.nil N.ok).t
theorem ZHI(N:Nm cv n):∀ (k:Nat) (m:Nat) (r:List Nat) (tb:Option (List Nat)),m∈UL->k<=900->r.length<=k->okE n r m->RG src (.n cv tb) m r (E n r m):=by
 intro k
 induction k with
 |zero =>
  intro m r tb hm _ hk _
  cases r with
  |nil=>exact RGn N hm
  |cons _ _=>exact absurd hk (xM _)
 |succ k ih0 =>
  intro m r tb hm hk0 hk h
  cases r with
  |nil=>exact RGn N hm
  |cons a r =>
   have hz:r.length+1<=900:=qA hk hk0
   have hj:r.length<=k:=xQ hk
   have ih:IHr src cv n k:=fun m r tb h0 h1 h2=>(ih0 m r tb h0 (qR hk0) h1 h2).t
   have ha:=Ux h
   have e:∀ m∈UL,(Nat.beq m 77||(Nat.beq m 83||(w9:List Nat).any (·==m)))=true:=JE (by kernel_rfl)
   rcases Bool.or_eq_true_iff.mp (e m hm) with q |q
   ·cases Nat.eq_of_beq_eq_true q
    exact RGs N ih hj hz h
   rcases Bool.or_eq_true_iff.mp q with q |q
   ·cases Nat.eq_of_beq_eq_true q
    exact RGe N ih hj hz h
   ·have hm5:=J5 q
    by_cases e60:a=60
    ·subst e60
     have e5:∀ m∈w9,(([83,81,80]:List Nat).any (·==m)||([87,88,90]:List Nat).any (·==m))=true:=JE (by kernel_rfl)
     rcases Bool.or_eq_true_iff.mp (e5 m hm5) with q |q
     ·exact RGl N ih hj (qR hz) (J5 q) h
     ·exact RGd N ih hj (qR hz) (J5 q) h
    ·exact RGx N ih (ZJH hm5 ha e60) hj h
end
noncomputable def rp1(a:Nat):Nat:=bif Nat.beq a 0 then 65533 else a
def rp(l:List Nat):List Nat:=l.map rp1
noncomputable def bkS(pr:List Nat):List Nat:=pr.dropWhile fun a=>Nat.beq a 32
noncomputable def ZJ:List Nat->Bool
 |[]=>false
 |c::_=>!(Nat.beq c 47)
def Js(pr:List Nat):Bool:=Nat.blt (bkS pr).length pr.length&&ZJ (bkS pr)
noncomputable def wb(a:Nat):Bool:=Nat.beq a 32||Nat.beq a 47
def WC:List Nat->Bool
 |[]=>true
 |a::_=>wb a
def wd(pr:List Nat):List Nat:=rp (pr.takeWhile fun a=>!(wb a)).reverse
def wF(b:Bool)(a:Nat):List (List Nat):=bif Nat.beq a 60 then [bif b then Om else Ol] else bif Nat.beq a 0 then [QZ] else []
def dpF(ws:List (List Nat))(w:List Nat):List (List Nat):=bif ws.any (w.map lowC==·) then [QU] else []
def wsN(r:List Nat)(ws:List (List Nat))(w:List Nat):List (List Nat):=bif WC r then ws++[w.map lowC] else ws
def J4(c:Bool)(r:List Nat):TQ->List (List Nat)
 |.A _ _=>[]
 |.S _=>bif r.isEmpty then bif c then [] else [W5] else [Uf]
 |.N ws w=>bif WC r then (bif r.isEmpty&&!c then [Qg] else [])++dpF ws w else []
def stF(c:Bool)(a:Nat)(r pr:List Nat)(ws:List (List Nat)):List (List Nat)×List (List Nat):=
 bif Nat.beq a 47 then (J4 c r (.S ws),ws) else bif Nat.beq a 32 then ([],ws) else (wF (Js pr) a++J4 c r (.N ws (wd (a::pr))),wsN r ws (wd (a::pr)))
def enF(c:Bool)(pr:List Nat):List (List Nat):=bif Nat.blt (bkS pr).length pr.length&&!c then [bif Js pr then Ug else Uh] else []
noncomputable def inF(c:Bool):List Nat->List Nat->List (List Nat)->List (List Nat)×List (List Nat)
 |[],pr,ws=>(enF c pr,ws)
 |a::r,pr,ws=>((stF c a r pr ws).1++(inF c r (a::pr) (stF c a r pr ws).2).1,(inF c r (a::pr) (stF c a r pr ws).2).2)
noncomputable def Z4:List Nat->Bool
 |[]=>false
 |x::_=>Nat.beq x 47
noncomputable def QK:List Nat->List Nat->Bool
 |[],pr=>Z4 pr
 |a::r,pr=>QK r (a::pr)
noncomputable def ers(l:List (List Nat)):List It:=l.map .e
noncomputable def clo(c:Bool)(tl:List Nat):List Nat:=bif c then 62::tl else []
def fin(n:List Nat)(c:Bool)(tl:List Nat)(ws:List (List Nat))(sc:Bool):List It:=bif c then emI n ws sc++UK tl else []
structure IA(c:Bool)(pr r:List Nat)(b:Bool):Prop where
 h:(pr=[]/\b=false/\(r=[]->c=true))\/(∃ p,pr=32::p)/\b=Js pr
def Inv(c:Bool)(pr r:List Nat)(ws:List (List Nat)):TQ->Prop
 |.A b ws0=>ws0=ws/\IA c pr r b
 |.S ws0=>ws0=ws/\∃ p,pr=47::p
 |.N ws0 w=>(∃ x p,pr=x::p/\wb x=false)/\w=wd pr/\ws=wsN r ws0 w
section
variable{c b:Bool}{a x:Nat}{r pr p n w tl:List Nat}{ws ws0:List (List Nat)}{q:TQ}
theorem NI{n:Nat}:Nat.blt n n=false:=Bool.eq_false_iff.mpr fun q=>xS _ (qE q:n<n)
theorem IO:JK (wT b a)=ers (wF b a):=by
 unfold wT wF
 cases Nat.beq a 60
 ·cases Nat.beq a 0<;>rfl
 ·rfl
theorem ZR:JK (Jy ws w)=ers (dpF ws w):=by
 unfold Jy dpF
 cases ws.any (w.map lowC==·)<;>rfl
theorem NC{l l':List (List Nat)}:ers (l++l')=ers l++ers l':=List.map_append
theorem IN:wW a=[rp1 a]:=by
 unfold wW rp1
 cases Nat.beq a 0<;>rfl
theorem Np:bkS (32::p)=bkS p:=rfl
theorem Xr(h:Nat.beq x 32=false):bkS (x::p)=x::p:=by
 unfold bkS;rw[List.dropWhile_cons,h];rfl
theorem DA(h:Nat.beq x 32=false):Js (x::p)=false:=by
 unfold Js;rw[Xr h,NI];rfl
theorem II:∀ p:List Nat,(bkS p).length<=p.length:=fun l0=>by
 induction l0 with
 |nil =>
  exact qF _
 |cons x p ih =>
  cases h:Nat.beq x 32 with
  |true =>
   unfold bkS;rw[List.dropWhile_cons,h]
   exact xO (ih)
  |false=>rw[Xr h];exact qF _
theorem Yq:Js (32::p)=ZJ (bkS p):=by
 unfold Js
 rw[Np,show Nat.blt (bkS p).length (32::p).length=true from Nat.ble_eq_true_of_le (qJ (II p))];rfl
theorem ZBL(h:p=[]\/∃ y,p=32::y):Js (32::p)=Js p:=by
 rw[Yq]
 rcases h with rfl |⟨y,rfl⟩
 ·rfl
 ·rw[Yq,Np]
theorem DT(h:wb x=false):wd (x::p)=wd p++[rp1 x]:=by
 unfold wd rp
 rw[List.takeWhile_cons,h,<- List.map_singleton (f:=rp1),<- List.map_append,<- List.reverse_cons];rfl
theorem HD(h:wb x=true):wd (x::p)=[]:=by
 unfold wd;rw[List.takeWhile_cons,h];rfl
theorem Nx(h1:a≠32)(h2:a≠47):wb a=false:=by
 unfold wb;rw[Ja h1,Ja h2];rfl
theorem OZ(h:wb x=false):Nat.beq x 32=false:=(Bool.or_eq_false_iff.mp h).1
theorem ZFh(h62:a≠62)(h32:a≠32)(h47:a≠47):Qe n b ws a=(ers (wF b a),some (.N ws [rp1 a])):=by
 unfold Qe;rw[if_neg h62,if_neg h32,if_neg h47,IO,IN]
theorem ZFg(h62:a≠62)(h32:a≠32)(h47:a≠47):Jr n (.N ws w) a=(ers (wF false a),some (.N ws (w++[rp1 a]))):=by
 unfold Jr;dsimp only;rw[if_neg h62,if_neg h32,if_neg h47,IO,IN]
theorem N8(h32:a≠32)(h47:a≠47):stF c a r pr ws=(wF (Js pr) a++J4 c r (.N ws (wd (a::pr))),wsN r ws (wd (a::pr))):=by
 unfold stF;rw[Ja h32,Ja h47];rfl
theorem Oy(hb:b=Js pr)(hw:wd pr=[])(hs:Js (32::pr)=b)(h62:a≠62):∃ o q',Qe n b ws a=(ers o,some q')/\(stF c a r pr ws).1=o++J4 c r q'/\Inv c (a::pr) r (stF c a r pr ws).2 q':=by
 by_cases h32:a=32
 ·subst h32
  exact⟨[],.A b ws,rfl,rfl,rfl,⟨.inr ⟨⟨_,rfl⟩,hs.symm⟩⟩⟩
 by_cases h47:a=47
 ·subst h47
  exact⟨[],.S ws,rfl,rfl,rfl,_,rfl⟩
 ·have hx:=Nx h32 h47
  have e:wd (a::pr)=[rp1 a]:=by rw[DT hx,hw];rfl
  refine⟨wF b a,.N ws [rp1 a],ZFh h62 h32 h47,?_⟩
  rw[N8 h32 h47,e,hb]
  exact⟨rfl,⟨_,_,rfl,hx⟩,e.symm,rfl⟩
theorem ZDk(hI:Inv c pr (a::r) ws q)(h62:a≠62):∃ o q',Jr n q a=(ers o,some q')/\J4 c (a::r) q++(stF c a r pr ws).1=o++J4 c r q'/\Inv c (a::pr) r (stF c a r pr ws).2 q':=by
 cases q with
 |A b ws0 =>
  obtain⟨rfl,h⟩:=hI
  rcases h.h with ⟨rfl,rfl,-⟩ |⟨⟨p,rfl⟩,rfl⟩
  ·exact Oy rfl rfl rfl h62
  ·exact Oy rfl (HD rfl) (ZBL (.inr ⟨_,rfl⟩)) h62
 |S ws0 =>
  obtain⟨rfl,p,rfl⟩:=hI
  obtain⟨o,q',h1,h2,h3⟩:=Oy (n:=n) (c:=c) (a:=a) (r:=r) (ws:=ws0) (b:=false) (pr:=47::p) (DA rfl).symm (HD rfl) (Yq.trans rfl) h62
  refine⟨Uf::o,q',?_,?_,h3⟩
  ·unfold Jr;dsimp only;rw[if_neg h62,h1];rfl
  ·rw[h2];rfl
 |N ws0 w =>
  obtain⟨⟨x,p,rfl,hx⟩,hw,hws⟩:=hI
  have hl:=DA (p:=p) (OZ hx)
  by_cases h32:a=32
  ·subst h32
   subst hws
   refine⟨dpF ws0 w,.A true (ws0++[w.map lowC]),?_,List.append_nil _ |>.trans (List.append_nil _).symm,rfl,⟨.inr ⟨⟨_,rfl⟩,?_⟩⟩⟩
   ·unfold Jr;dsimp only;rw[if_neg h62,if_pos rfl,ZR]
   ·rw[Yq,Xr (OZ hx)]
    show true=!(Nat.beq x 47)
    rw[(Bool.or_eq_false_iff.mp hx).2];try rfl
  by_cases h47:a=47
  ·subst h47
   subst hws
   refine⟨dpF ws0 w,.S (ws0++[w.map lowC]),?_,rfl,rfl,_,rfl⟩
   unfold Jr;dsimp only;rw[if_neg h62,if_neg h32,if_pos rfl,ZR]
  ·have ha:=Nx h32 h47
   have hn:WC (a::r)=false:=ha
   have hws:ws=ws0:=by rw[hws];unfold wsN;rw[hn];rfl
   subst hws
   have e:wd (a::x::p)=w++[rp1 a]:=by rw[DT ha,hw]
   refine⟨wF false a,.N ws (w++[rp1 a]),ZFg h62 h32 h47,?_⟩
   rw[N8 h32 h47,e,hl,show J4 c (a::r) (.N ws w)=[] by unfold J4;rw[hn];rfl]
   exact⟨rfl,⟨_,_,rfl,ha⟩,e.symm,rfl⟩
theorem ZHS:∀ (r pr:List Nat) (q:TQ) (ws:List (List Nat)),Inv c pr r ws q->(∀ a∈r,a≠62)->tg n (r++clo c tl) q=ers (J4 c r q)++(ers (inF c r pr ws).1++fin n c tl (inF c r pr ws).2 (QK r pr)):=fun l0=>by
 induction l0 with
 |nil =>
  intro pr q ws hI _
  cases c with
  |true =>
   show (Jr n q 62).1++tgK (tg n tl) tl (Jr n q 62).2=ers (J4 true [] q)++(ers (enF true pr)++(emI n ws (Z4 pr)++UK tl))
   have hE:enF true pr=[]:=by unfold enF;rw[show (!true)=false from rfl,Bool.and_false];rfl
   rw[hE]
   cases q with
   |A b ws0 =>
    obtain⟨rfl,h⟩:=hI
    rcases h.h with ⟨rfl,rfl,-⟩ |⟨⟨p,rfl⟩,rfl⟩<;>rfl
   |S ws0 =>
    obtain⟨rfl,p,rfl⟩:=hI
    rfl
   |N ws0 w =>
    obtain⟨⟨x,p,rfl,hx⟩,hw,rfl⟩:=hI
    have hx2:Z4 (x::p)=false:=(Bool.or_eq_false_iff.mp hx).2
    rw[hx2]
    show (JK (Jy ws0 w)++emI n (ws0++[w.map lowC]) false)++UK tl=ers (dpF ws0 w)++(emI n (ws0++[w.map lowC]) false++UK tl)
    rw[ZR,List.append_assoc]
  |false =>
   show eoI q=ers (J4 false [] q)++(ers (enF false pr)++[])
   rw[List.append_nil]
   cases q with
   |A b ws0 =>
    obtain⟨rfl,h⟩:=hI
    rcases h.h with ⟨rfl,rfl,h0⟩ |⟨⟨p,rfl⟩,rfl⟩
    ·exact absurd (h0 rfl) (by decide)
    ·have hE:enF false (32::p)=[bif Js (32::p) then Ug else Uh]:=by
      unfold enF
      rw[Np,show Nat.blt (bkS p).length (32::p).length=true from Nat.ble_eq_true_of_le (qJ (II p))];rfl
     rw[hE];rfl
   |S ws0 =>
    obtain⟨rfl,p,rfl⟩:=hI
    have hE:enF false (47::p)=[]:=by
     unfold enF
     rw[Xr rfl,NI];rfl
    rw[hE];rfl
   |N ws0 w =>
    obtain⟨⟨x,p,rfl,hx⟩,hw,rfl⟩:=hI
    have hE:enF false (x::p)=[]:=by
     unfold enF
     rw[Xr (OZ hx),NI];rfl
    rw[hE]
    show It.e Qg::JK (Jy ws0 w)=ers ([Qg]++dpF ws0 w)++[]
    rw[ZR,List.append_nil];rfl
 |cons a r ih =>
  intro pr q ws hI hr
  obtain⟨o,q',h1,h2,h3⟩:=ZDk (n:=n) hI (hr a (.head _))
  show (Jr n q a).1++tgK (tg n (r++clo c tl)) (r++clo c tl) (Jr n q a).2=_
  rw[h1]
  show ers o++tg n (r++clo c tl) q'=_
  rw[ih (a::pr) q' _ h3 fun x hx=>hr x (.tail _ hx)]
  show _=_++(ers ((stF c a r pr ws).1++(inF c r (a::pr) (stF c a r pr ws).2).1)++_)
  rw[NC,List.append_assoc,<- List.append_assoc (ers (J4 c (a::r) q)),<- NC,h2,NC,List.append_assoc];rfl
end
noncomputable def JL(n:Option (List Nat)):List Nat->Nat->Nat
 |[],_=>0
 |a::r,m=>match JQ n m (a::r) with
  |some _=>0
  |none=>JL n r (nxM m a r)+1
noncomputable def JU(n:Option (List Nat)):List Nat->Nat->Nat
 |[],m=>m
 |a::r,m=>match JQ n m (a::r) with
  |some _=>m
  |none=>JU n r (nxM m a r)
def XN(u v:List Nat):Prop:=u=v\/∃ u' v',u=60::u'/\v=60::v'
def tI(a:Nat):List Tok4:=if a=0 then [.er QZ,.ch [65533]] else [.ch [a]]
section
variable{n:Option (List Nat)}{a e m:Nat}{u v p r w b x tx:List Nat}
theorem Yt(h:pL a=false):JM n b (a::w)=(some (b.map lowC)==n&&J2 (a::w)):=by
 unfold JM;rw[Ql h,UY h,List.append_nil]
theorem Bj:∀ (p b:List Nat),JM n b (p++60::u)=JM n b (p++60::v):=fun l0=>by
 induction l0 with
 |nil =>
  intro b
  show JM n b (60::u)=JM n b (60::v)
  rw[Yt (by decide),Yt (by decide)];rfl
 |cons a p ih =>
  intro b
  show JM n b (a::(p++60::u))=JM n b (a::(p++60::v))
  cases h:pL a with
  |true=>rw[Wn h,Wn h,ih]
  |false=>rw[Yt h,Yt h];rfl
theorem D7:Jt n (60::47::w)=bif JM n [] w then some w else none:=rfl
theorem Bk(p:List Nat)(h:XN u v):(Ju n (p++u)).isSome=(Ju n (p++v)).isSome:=by
 rcases h with rfl |⟨u',v',rfl,rfl⟩
 ·rfl
 cases p with
 |nil=>rfl
 |cons b p =>
  show (bif Nat.beq b 47 then bif JM n [] (p++60::u') then some _ else none else none).isSome=(bif Nat.beq b 47 then bif JM n [] (p++60::v') then some _ else none else none).isSome
  rw[Bj (u:=u') (v:=v')]
  cases Nat.beq b 47
  ·rfl
  ·cases JM n [] (p++60::v')<;>rfl
theorem ZIV(p:List Nat)(h:XN u v):JM n b (p++u)=JM n b (p++v):=by
 rcases h with rfl |⟨u',v',rfl,rfl⟩
 ·rfl
 ·exact Bj p b
theorem ZJt(h:(Ju n u).isSome=(Ju n v).isSome)(k:Ju n u=none):Ju n v=none:=by
 rw[k] at h
 cases e:Ju n v with
 |none=>rfl
 |some _=>rw[e] at h;exact Bool.noConfusion h
theorem ZCC(h:XN u v)(k:JQ n m (a::(p++u))=none):JQ n m (a::(p++v))=none:=by
 unfold JQ at k ⊢
 cases hD:isD m with
 |true=>rfl
 |false =>
  rw[hD] at k
  have k:(bif Nat.beq a 60 then Ju n (p++u) else none)=none:=k
  show (bif Nat.beq a 60 then Ju n (p++v) else none)=none
  cases e:Nat.beq a 60 with
  |false=>rfl
  |true=>rw[e] at k;exact ZJt (Bk p h) k
theorem ZDK(h:XN u v):nxM m a (p++u)=nxM m a (p++v):=by
 unfold nxM
 rw[Bk p h,ZIV p h]
theorem ZGL{P:Prop}(h:Jt n u=some w)(k:u=60::47::w->JM n [] w=true->P):P:=by
 cases u with
 |nil=>exact nn h
 |cons a r =>
  by_cases h60:a=60
  ·subst h60
   cases r with
   |nil=>exact nn h
   |cons b r =>
    by_cases h47:b=47
    ·subst h47
     rw[D7] at h
     cases hf:JM n [] r with
     |false=>rw[hf] at h;exact nn h
     |true=>rw[hf] at h;cases h;exact k rfl hf
    ·rw[K8 fun w q=>h47 (qS q).1] at h;exact nn h
  ·rw[Nf h60] at h;exact nn h
theorem ZO:JL n (a::r) m=match JQ n m (a::r) with |some _=>0 |none=>JL n r (nxM m a r)+1:=rfl
theorem ZP:JU n (a::r) m=match JQ n m (a::r) with |some _=>m |none=>JU n r (nxM m a r):=rfl
theorem W1(h:JQ n m (a::r)=some w):JL n (a::r) m=0:=by rw[ZO,h]
theorem Xo(h:JQ n m (a::r)=some w):JU n (a::r) m=m:=by rw[ZP,h]
theorem Qv(h:JQ n m (a::r)=none):JL n (a::r) m=JL n r (nxM m a r)+1:=by rw[ZO,h]
theorem Q5(h:JQ n m (a::r)=none):JU n (a::r) m=JU n r (nxM m a r):=by rw[ZP,h]
theorem IM:∀ (tx:List Nat) (m:Nat),(∀ a∈tx,a∈al)->XN (tx.drop (JL n tx m)) x->okE n x (JU n tx m)->E n (tx.take (JL n tx m)++x) m=(tx.take (JL n tx m)).flatMap rI++E n x (JU n tx m)/\okE n (tx.take (JL n tx m)++x) m:=fun l0=>by
 induction l0 with
 |nil =>
  exact fun J J J hx=>⟨rfl,hx⟩
 |cons a r ih =>
  intro m ha hs hx
  cases hf:JQ n m (a::r) with
  |some w=>rw[W1 hf];rw[Xo hf] at hx ⊢;exact⟨rfl,hx⟩
  |none =>
   rw[Qv hf] at hs ⊢
   rw[Q5 hf] at hx ⊢
   have hs:XN (r.drop (JL n r (nxM m a r))) x:=hs
   have ht:r.take (JL n r (nxM m a r))++r.drop (JL n r (nxM m a r))=r:=List.take_append_drop ..
   have hk:JQ n m (a::(r.take (JL n r (nxM m a r))++x))=none:=ZCC hs (by rw[ht];exact hf)
   have hn:nxM m a (r.take (JL n r (nxM m a r))++x)=nxM m a r:=(ZDK hs).symm.trans (by rw[ht])
   obtain⟨h1,h2⟩:=ih (nxM m a r) (fun y hy=>ha y (.tail _ hy)) hs hx
   refine⟨?_,?_⟩
   ·show E n (a::(r.take (JL n r (nxM m a r))++x)) m=(rI a++(r.take (JL n r (nxM m a r))).flatMap rI)++_
    rw[US hk,hn,h1,List.append_assoc]
   ·show okE n (a::(r.take (JL n r (nxM m a r))++x)) m
    rw[Xy,hk,hn];exact⟨ha a (.head _),h2⟩
theorem GE:∀ (tx:List Nat) (m:Nat),JL n tx m<=tx.length:=fun l0=>by
 induction l0 with
 |nil =>
  exact fun J=>qF _
 |cons a r ih =>
  intro m
  cases hf:JQ n m (a::r) with
  |some w=>rw[W1 hf];exact qG _
  |none=>rw[Qv hf];exact qJ (ih _)
theorem DG:∀ (tx:List Nat) (m:Nat),JL n tx m<tx.length->∃ w,tx.drop (JL n tx m)=60::47::w/\JM n [] w=true/\isD (JU n tx m)=false:=fun l0=>by
 induction l0 with
 |nil =>
  exact fun J h=>absurd h (xS _)
 |cons a r ih =>
  intro m h
  cases hf:JQ n m (a::r) with
  |some w =>
   rw[W1 hf,Xo hf]
   unfold JQ at hf
   cases e:isD m with
   |true=>rw[e] at hf;exact nn hf
   |false =>
    rw[e] at hf
    have hf:Jt n (a::r)=some w:=hf
    exact ZGL hf fun h1 h2=>⟨w,h1,h2,rfl⟩
  |none =>
   rw[Qv hf] at h ⊢
   rw[Q5 hf]
   exact ih _ (xJ h)
theorem D4:∀ p:List Nat,JK (p.flatMap tI)=p.flatMap rI:=fun l0=>by
 induction l0 with
 |nil =>
  exact rfl
 |cons a p ih =>
  show JK (tI a++p.flatMap tI)=rI a++p.flatMap rI
  rw[Qk,ih]
  unfold tI rI
  by_cases h:a=0
  ·subst h;rfl
  ·rw[if_neg h,if_neg h];rfl
noncomputable def ins(w:List Nat):List Nat:=w.takeWhile fun a=>!(Nat.beq a 62)
def cl?(w:List Nat):Bool:=Nat.blt (ins w).length w.length
theorem ZIL:∀ (w:List Nat),∀ a∈ins w,a≠62:=fun w a h q=>by
 have h:=NO (p:=fun a=>!(Nat.beq a 62)) w a h
 rw[q] at h;exact ff h
theorem K5(h:cl? w=false):ins w=w:=(qM _).eq_of_length (xN (qM _).length_le (Nat.not_lt.mp fun q=>ff (h.symm.trans (Nat.ble_eq_true_of_le q:cl? w=true))))
theorem Yr(h:Nat.beq a 62=false):ins (a::w)=a::ins w:=by
 unfold ins;rw[List.takeWhile_cons,h];rfl
theorem ZDH{tl:List Nat}(ht:tl∈QC):∀ (w:List Nat) (c:Bool),(∀ a∈w,a∈al)->okT (ins w++clo c tl):=fun l0=>by
 induction l0 with
 |nil =>
  intro c _
  cases c
  ·exact trivial
  ·exact ht
 |cons a w ih =>
  intro c h
  by_cases h62:a=62
  ·subst h62
   cases c
   ·exact trivial
   ·exact ht
  ·rw[Yr (Ja h62)]
   show okT (a::(ins w++clo c tl))
   show if a=62 then _ else _
   rw[if_neg h62]
   exact⟨h a (.head _),ih c fun x hx=>h x (.tail _ hx)⟩
theorem Nq{l m:List Nat}(h:∀ a∈m,a∈al)(k:l <+: m):∀ a∈l,a∈al:=fun a ha=>h a (k.subset ha)
theorem K1(w:List Nat):ltr w++JG w=w:=List.prefix_iff_eq_append.mp (qM _)
theorem Bv:∀ t∈QC,∀ a∈t,a∈al:=by decide
theorem ZDU:∀ {l:List Nat},(∀ a∈l,pL a=true)->(∀ a t,v=a::t->pL a=false)->ltr (l++v)=l/\JG (l++v)=v:=by
 intro l0
 induction l0 with
 |nil =>
  intro _ h
  cases v with
  |nil=>exact⟨rfl,rfl⟩
  |cons a t=>exact⟨Ql (h a t rfl),UY (h a t rfl)⟩
 |cons a l ih =>
  intro h1 h2
  obtain⟨k1,k2⟩:=ih (fun x hx=>h1 x (.tail _ hx)) h2
  have ha:=h1 a (.head _)
  exact⟨(Wt (w:=l++v) ha).trans (congrArg _ k1),(Xd (w:=l++v) ha).trans k2⟩
theorem GD{P:Prop}(h:J2 v=true)(k:∀ a t,v=a::t->pL a=false->P):P:=by
 cases v with
 |nil=>exact ff h
 |cons a t =>
  refine k a t rfl ?_
  have h:(a==32||(a==47||a==62))=true:=h
  rcases Bool.or_eq_true_iff.mp h with h |h
  ·rw[beq_iff_eq.mp h];decide
  rcases Bool.or_eq_true_iff.mp h with h |h
  ·rw[beq_iff_eq.mp h];decide
  ·rw[beq_iff_eq.mp h];decide
theorem ZCO{tl:List Nat}(h:J2 v=true):J2 (ins v++clo (cl? v) tl)=true:=by
 cases v with
 |nil=>exact h
 |cons a t =>
  by_cases h62:a=62
  ·subst h62;rfl
  ·rw[Yr (Ja h62)];exact h
def tlT(tl:List Nat):List Tok4:=match tl with
 |[]=>[]
 |38::_=>[.ch [60]]
 |[0]=>[.er QZ,.ch [0]]
 |l=>[.ch l]
theorem ZHQ:∀ t∈QC,JK (tlT t)=UK t:=JE rfl
def UM(nm:List Nat)(tl v:List Nat):List Tok4:=(inF (cl? v) (ins v) [] []).1.map .er++bif cl? v then emT (!(inF (cl? v) (ins v) [] []).2.isEmpty) (QK (ins v) [])++.tg nm (inF (cl? v) (ins v) [] []).2 (QK (ins v) [])::tlT tl else []
theorem D5:∀ l:List (List Nat),JK (l.map .er)=ers l:=fun l0=>by
 induction l0 with
 |nil =>
  exact rfl
 |cons a l ih =>
  exact congrArg (It.e a::·) (ih)
theorem ZEx{nm tl:List Nat}(ht:tl∈QC)(h:J2 v=true):JK (UM nm tl v)=tg nm (ins v++clo (cl? v) tl) (.A false []):=by
 rw[ZHS (ins v) [] (.A false []) [] ⟨rfl,⟨.inl ⟨rfl,rfl,fun e=>?_⟩⟩⟩ (ZIL v)]
 ·unfold UM
  rw[Qk,D5]
  refine congrArg (ers _++·) ?_
  unfold fin
  cases cl? v with
  |false=>rfl
  |true =>
   show JK (_++_)=emI _ _ _++_
   rw[Qk]
   unfold emI
   rw[List.append_assoc]
   exact congrArg (fun x=>_++It.g nm _ _::x) (ZHQ tl ht)
 ·cases hc:cl? v with
  |true=>rfl
  |false =>
   rw[K5 hc] at e
   rw[e] at h;exact h
def WG(n:Option (List Nat))(tl tx:List Nat):List Tok4:=(tx.take (JL n tx 77)).flatMap tI++match tx.drop (JL n tx 77) with
 |[]=>qT (JU n tx 77)
 |_::w=>UM ((ltr w.tail).map lowC) tl (JG w.tail)
def txT(n:Option (List Nat))(tl tx:List Nat):List Nat:=tx.take (JL n tx 77)++match tx.drop (JL n tx 77) with
 |[]=>[]
 |_::w=>60::47::(ltr w.tail++(ins (JG w.tail)++clo (cl? (JG w.tail)) tl))
theorem ZJF:E n [] m=JK (qT m):=by
 show (bif isD m then [It.e YC] else [])=JK (bif isD m then [.er YC] else [])
 cases isD m<;>rfl
theorem ZGx{tl:List Nat}(ht:tl∈QC)(ha:∀ a∈tx,a∈al):E n (txT n tl tx) 77=JK (WG n tl tx)/\okE n (txT n tl tx) 77:=by
 unfold txT WG
 by_cases hlt:JL n tx 77<tx.length
 ·obtain⟨w,hd,hf,hD⟩:=DG tx 77 hlt
  have hw:∀ a∈w,a∈al:=fun a h=>ha a (List.mem_of_mem_drop (hd▸List.Mem.tail _ (.tail _ h):a∈tx.drop (JL n tx 77)))
  refine bA hf fun hf1 hf2=>?_
  have hf2':=ZCO (tl:=tl) hf2
  obtain⟨k1,k2⟩:=ZDU (l:=ltr w) (v:=ins (JG w)++clo (cl? (JG w)) tl) (fun a h=>NO (p:=pL) w a h) fun a t e=>GD hf2' fun a' t' e' h=>(qS (e'.symm.trans e)).1▸h
  have hg:JM n [] (ltr w++(ins (JG w)++clo (cl? (JG w)) tl))=true:=by
   unfold JM
   rw[k1,k2,hf2']
   exact(Bool.and_true _).trans hf1
  have hg2:Jt n (60::47::(ltr w++(ins (JG w)++clo (cl? (JG w)) tl)))=some (ltr w++(ins (JG w)++clo (cl? (JG w)) tl)):=by
   rw[D7,hg];rfl
  have hwa:=Nq hw (⟨_,K1 w⟩:ltr w <+: w)
  have hwb:∀ a∈JG w,a∈al:=fun a h=>hw a (List.mem_of_mem_drop h)
  have hM:JQ n (JU n tx 77) (60::47::(ltr w++(ins (JG w)++clo (cl? (JG w)) tl)))=some (ltr w++(ins (JG w)++clo (cl? (JG w)) tl)):=by
   unfold JQ;rw[hD];exact hg2
  have hok:okE n (60::47::(ltr w++(ins (JG w)++clo (cl? (JG w)) tl))) (JU n tx 77):=by
   rw[Xy,hM]
   refine⟨by rw[k2];exact ZDH ht (JG w) _ hwb,fun a h=>?_⟩
   rcases List.mem_append.mp h with h |h
   ·exact hwa a h
   rcases List.mem_append.mp h with h |h
   ·exact Nq hwb (qM _) a h
   ·cases hc:cl? (JG w)
    ·rw[hc] at h;exact nomatch h
    ·rw[hc] at h
     cases h with
     |head=>decide
     |tail _ h=>exact Bv tl ht a h
  obtain⟨e1,e2⟩:=IM tx 77 ha (x:=60::47::(ltr w++(ins (JG w)++clo (cl? (JG w)) tl))) (.inr ⟨47::w,_,hd,rfl⟩) hok
  rw[hd]
  refine⟨?_,e2⟩
  show E n (tx.take (JL n tx 77)++60::47::(ltr w++(ins (JG w)++clo (cl? (JG w)) tl))) 77=JK (_++UM ((ltr w).map lowC) tl (JG w))
  rw[e1,Qk,D4,E_c,hM]
  show _++tg ((ltr _).map lowC) (JG _) _=_
  rw[k1,k2,ZEx ht hf2]
 ·have he:=xN (GE tx 77) (Nat.not_lt.mp hlt)
  obtain⟨e1,e2⟩:=IM tx 77 ha (x:=[]) (.inl (by rw[he,List.drop_length])) (by exact trivial)
  rw[List.drop_of_length_le (qV he.symm)]
  refine⟨?_,e2⟩
  rw[e1,Qk,D4,ZJF]
end
section
variable{C:Ora}{n:Nat}{L E:List (Nat×Mine.V)}{H:List (Id×Ob)}{nx:Nat}{P:List Nat}{s b c:List Nat}{i j:Int}{a k q:Nat}{z:Bool}
theorem XS(n k:Nat):clampIx n (k:Int)=min k n:=(Nat.le_total k n).elim (fun h=>(Wk h).trans (Nat.min_eq_left h).symm) fun h=>(clamp_big h).trans (Nat.min_eq_right h).symm
theorem KT{α:Type}(s:List α)(j:Nat):s.take (min j s.length)=s.take j:=(Nat.le_total j s.length).elim (fun h=>congrArg (s.take ·) (Nat.min_eq_left h)) fun h=>by rw[Nat.min_eq_right h,List.take_length,List.take_of_length_le h]
theorem DI(t:List Nat){m:Nat}(h:t.length<=m)(i:Nat):t.drop (min i m)=t.drop i:=(Nat.le_total i m).elim (fun h=>congrArg (t.drop ·) (Nat.min_eq_left h)) fun h'=>by rw[Nat.min_eq_right h',List.drop_of_length_le h,List.drop_of_length_le (qA h h')]
theorem Xj(a b:Nat)(hi:i=a)(hj:j=b)(hs:s.length<=JB):slV σ0 (.str s) (.int i) (.int j)=some (.str ((s.drop a).take (b-a))):=by
 subst hi hj
 show gd (Nat.ble s.length JB) (some (Mine.V.str ((s.take (clampIx s.length b)).drop (clampIx s.length a))))=_
 rw[ble hs,XS,XS,KT,DI _ (xR _ _),List.drop_take];rfl
theorem ZC8(a:Nat)(hi:i=a)(hs:s.length<=JB):slV σ0 (.str s) (.int i) .none=some (.str (s.drop a)):=by
 subst hi
 show gd (Nat.ble s.length JB) (some (Mine.V.str ((s.take s.length).drop (clampIx s.length a))))=_
 rw[ble hs,XS,List.take_length,DI _ (qF _)];rfl
theorem Ge(b:Nat)(hj:j=b)(hs:s.length<=JB):slV σ0 (.str s) .none (.int j)=some (.str (s.take b)):=by
 subst hj
 show gd (Nat.ble s.length JB) (some (Mine.V.str (s.take (clampIx s.length b))))=_
 rw[ble hs,XS,KT];rfl
theorem Xa(hc:s[a]?=some k)(hs:s.length<=JB):Qd σ0 (.str s) (.int (a:Nat))=some (.str [k]):=WQ hs (Wy (List.getElem?_eq_some_iff.mp hc).1) hc
theorem ZJT{x y:List Nat}(h:x=y):some (x==y)=some true:=congrArg some (beq_iff_eq.mpr h)
theorem ZJS{x y:List Nat}(h:¬ x=y):some (x==y)=some false:=congrArg some (xV h)
theorem slt{x y:Nat}(h:x<y):some (decide ((x:Int)<(y:Int)))=some true:=congrArg some (decide_eq_true (Int.ofNat_lt.mpr h))
theorem Wb{x y:Nat}(h:¬ x<y):some (decide ((x:Int)<(y:Int)))=some false:=congrArg some (decide_eq_false fun q=>h (Int.ofNat_lt.mp q))
theorem hml(hb:b.length<=1000):b.length<=JB:=qA hb (by decide)
theorem OE(h:a≠0):rp1 a=a:=by unfold rp1;rw[Ja h];rfl
theorem ZDC:∀ (n:Nat) (s:List Nat),s.length<n->QE [0] [65533] n s=rp s:=by
 intro n
 induction n with
 |zero =>
  intro s h
  exact absurd h (xK _)
 |succ n ih0 =>
  intro s h
  cases s with
  |nil=>rfl
  |cons c s =>
   have ih:=ih0 s (xJ h)
   by_cases hc:c=0
   ·subst hc
    exact congrArg (65533::·) ih
   ·show (if ((0==c)&&Jc [] s)=true then _ else c::QE [0] [65533] n s)=rp1 c::rp s
    rw[xV (fun q:0=c=>hc q.symm),Bool.false_and,if_neg (fun q=>ff q),ih,OE hc]
theorem ZJi(h:s.length+(s.length+1)<=16777216):smV σ0 .replace s [.str [0],.str [65533]]=some (.str (QE [0] [65533] (s.length+1) s)):=by
 show gd (true&&(Nat.ble (s.length+(s.length+1)*1) 16777216&&true)) _=_
 rw[Nat.mul_one,ble h];rfl
theorem ZFY(h:s.length<=1000):smV σ0 .replace s [.str [0],.str [65533]]=some (.str (rp s)):=by
 rw[ZJi (qA (qQ h (qJ h)) (by decide)),ZDC _ _ (xC _)]
theorem Io{x y:Nat}:[[x],[y]].any (·==[a])=(Nat.beq a x||Nat.beq a y):=by
 have e:∀ {x:Nat},([x]==[a])=Nat.beq a x:=fun {x}=>by
  by_cases h:a=x
  ·subst h;rw[Nat.beq_refl];exact beq_self_eq_true _
  ·rw[Ja h];exact xV fun q=>h (qS q).1.symm
 show (([x]==[a])||(([y]==[a])||false))=_
 rw[e,e,Bool.or_false]
theorem Za{b:Bool}:Mine.Jk σ0 (.bool b)=some b:=rfl
theorem Ki{s:Nat}{x:List Nat}(hs:s<=b.length)(hx:b.drop s=x):s+x.length=b.length:=by rw[<- hx,List.length_drop,Nat.add_sub_cancel' hs]
theorem D8{s y:List Nat}(h:k<=s.length):smV σ0 .find s [.str y,.int k]=some (.int (Jv y (s.drop k) k)):=by
 show gd (decide ((0:Int)<=k)&&decide ((k:Int)<=s.length)) (some (Mine.V.int (Jv y (s.drop (k:Int).toNat) (k:Int).toNat)))=_
 rw[decide_eq_true (Int.natCast_nonneg k),decide_eq_true (Int.ofNat_le.mpr h)];rfl
theorem Yp(h:∀ a∈b,a<128)(hs:b.length<=1000):smV σ0 .lower b []=some (.str (b.map lowC)):=by
 show gd (b.all (Nat.blt · 128)&&Nat.ble b.length 5592405) _=_
 rw[(List.all_eq_true.mpr fun a ha=>(Nat.ble_eq_true_of_le (h a ha):Nat.ble (a+1) 128=true):(b.all fun x=>x.blt 128)=true),ble (qA hs (by decide))];rfl
end
def Kn(L E:List (Nat×Mine.V)):Prop:=∀ n v,JA E n=some v->JA L n=some v
section
variable{L E:List (Nat×Mine.V)}
theorem Kn.get(k:Kn L E)(n:Nat){v:Mine.V}(e:JA E n=some v):JA L n=some v:=k n v e
theorem Kn.put(k:Kn L E)(n:Nat)(v:Mine.V):Kn (put L n v) (put E n v):=fun m w h=>by
 rw[Qj] at h ⊢
 by_cases e:n=m
 ·rw[if_pos e] at h ⊢;exact h
 ·rw[if_neg e] at h ⊢;exact k m w h
noncomputable def Kn.lc(_:Kn L E):List (Nat×Mine.V):=L
theorem Kn.nil:Kn L []:=fun J J h=>nn h
noncomputable def XF(E:List (Nat×Mine.V)):List Nat->List (Nat×Mine.V)
 |[]=>[]
 |n::r=>match JA E n with
  |some v=>(n,v)::XF E r
  |none=>XF E r
theorem Kn.sub(k:Kn L E)(ns:List Nat):Kn L (XF E ns):=by
 induction ns with
 |nil=>exact fun J J h=>nn h
 |cons n r ih =>
  intro m w h
  have h:JA (match JA E n with |some v=>(n,v)::XF E r |none=>XF E r) m=some w:=h
  cases e:JA E n with
  |none=>rw[e] at h;exact ih m w h
  |some v =>
   rw[e] at h
   have h:(if n=m then some v else JA (XF E r) m)=some w:=h
   by_cases q:n=m
   ·rw[if_pos q] at h
    exact k m w (q▸e.trans h)
   ·rw[if_neg q] at h;exact ih m w h
theorem Kn.cons{n:Nat}{v:Mine.V}(h:JA L n=some v)(k:Kn L E):Kn L ((n,v)::E):=fun m w e=>by
 rw[UH] at e
 by_cases q:n=m
 ·subst q;rw[if_pos rfl] at e;cases e;exact h
 ·rw[if_neg q] at e;exact k m w e
end
section
variable{C:Ora}{s r:List MS}{U U':St}{t e:ME}{b o:List MS}{v:Mine.V}{st:MS}
theorem ZDy(h:exc C st U=some (.next,U')):exs C (st::r) U=exs C r U':=by
 show bn (exc C st U) _=_
 rw[h];rfl
theorem NA:∀ {s:List MS} {U:St},exs C (s++r) U=bn (exs C s U) fun f U1a=>YM f (exs C r U1a) U1a:=by
 intro l0
 induction l0 with
 |nil =>
  intro _
  exact rfl
 |cons s l ih =>
  intro U
  show bn (exc C s U) _=bn (bn (exc C s U) _) _
  cases exc C s U with
  |none=>rfl
  |some p =>
   obtain⟨f,U1a⟩:=p
   cases f<;>first |exact ih |rfl
theorem XW(h:tst C t U=some (true,U')):exs C (.iff t b o::r) U=exs C (b++r) U':=by
 show bn (bn (tst C t U) _) _=_
 rw[h,NA];rfl
theorem Wo(h:tst C t U=some (false,U')):exs C (.iff t b o::r) U=exs C (o++r) U':=by
 show bn (bn (tst C t U) _) _=_
 rw[h,NA];rfl
theorem J9{r:List MS}(h:exs C s U=some (.next,U')):exs C (s++r) U=exs C r U':=by rw[NA,h];rfl
end
structure Cln(k:Nat)(L:List (Nat×Mine.V))(H:List (Id×Ob))(P:List Nat):Prop where
 l:∀ w,QF (.p k) w L=L
 h:∀ w,Q2 (.p k) w H=H
 o:JA H (.p k)=none
 p:k∉P
section
variable{C:Ora}{n:Nat}{L E:List (Nat×Mine.V)}{H:List (Id×Ob)}{nx:Nat}{P:List Nat}{k:Nat}{fs vs as:List Mine.V}{U U':St}{v:Mine.V}{m:MFun}
theorem KR{o:Ob}(h:k∉P):(⟨L,H,nx,P⟩:St).alloc (.per k) o=some (.obj (.p k),⟨L,(.p k,o)::H,nx,k::P⟩):=if_neg h
theorem OR(h:Cln k L H P)(hn:V.nos (.p k) fs=true):UP k v ⟨L,(.p k,.list fs)::H,nx,k::P⟩=some (V.sb (.p k) (.list fs) v,⟨L,H,nx,P⟩):=by
 have e:JA ((Id.p k,Ob.list fs)::H) (.p k)=some (.list fs):=if_pos rfl
 unfold UP
 rw[show JA (⟨L,(.p k,.list fs)::H,nx,k::P⟩:St).hp (.p k)=some (.list fs) from e]
 show gd (V.nos (.p k) fs) (some (_,(⟨QF (.p k) (.list fs) L,if Id.p k=.p k then Q2 (.p k) (.list fs) H else _,nx,(k::P).filter (·≠k)⟩:St)))=_
 rw[hn,if_pos rfl,h.l,h.h,show (k::P).filter (·≠k)=P.filter (·≠k) from List.filter_cons_of_neg (by simp),List.filter_eq_self.mpr fun x hx=>(decide_eq_true (p:=x≠k) fun e=>h.p (Eq.subst (motive:=fun y=>y∈P) e hx))];rfl
theorem cB(ha:m.args vs=some as)(h:exs C m.body ⟨m.ps.zip as,H,nx,P⟩=some (.ret v,U')):Qx C m vs ⟨L,H,nx,P⟩=some (v,{ U' with loc:=L }):=by
 unfold Qx
 rw[ha]
 show bn (exs C m.body ⟨m.ps.zip as,H,nx,P⟩) _=_
 rw[h];rfl
theorem B1(v w:Mine.V)(a:Nat):∀ l:List (Nat×Mine.V),put (put l a v) a w=put l a w:=fun l0=>by
 induction l0 with
 |nil =>
  exact if_pos rfl
 |cons p0 l ih =>
  obtain⟨b,x⟩:=p0
  by_cases e:b=a
  ·exact(congrArg (put · a w) (if_pos e)).trans ((if_pos e).trans (if_pos e).symm)
  ·exact(congrArg (put · a w) (if_neg e)).trans ((if_neg e).trans ((congrArg _ ih).trans (if_neg e).symm))
end
end Mine
end
noncomputable section
open PySem
namespace Mine
noncomputable def UQ(R:List Tok4)(x:List Nat):List Tok4:=match R with
 |[]=>[.ch x]
 |r::t=>(match r with
  |.ch y=>.ch (y++x)::t
  |.sp y=>.ch x::.sp y::t
  |.er n=>.ch x::.er n::t
  |.tg n ws c=>.ch x::.tg n ws c::t)
def stI(R:List Tok4):It->List Tok4
 |.c a=>UQ R [a]
 |.e n=>.er n::R
 |.g n ws c=>.tg n ws c::R
def stT(R:List Tok4):Tok4->List Tok4
 |.ch x=>UQ R x
 |.sp x=>UQ R x
 |.er n=>.er n::R
 |.tg n ws c=>.tg n ws c::R
def jn(F:List It):List Tok4:=(F.foldl stI []).reverse
noncomputable def Tok4.add(x:List Nat):Tok4->List Tok4
 |.ch y=>[.ch (y++x)]
 |.sp y=>[.ch x,.sp y]
 |.er n=>[.ch x,.er n]
 |.tg n ws c=>[.ch x,.tg n ws c]
section
variable{R:List Tok4}{x y:List Nat}{a:Nat}{t:Tok4}{l:List Tok4}
theorem Nr:UQ (t::R) x=t.add x++R:=by cases t<;>rfl
theorem GV(h:x≠[]):∀ {R:List Tok4},(x.map .c).foldl stI R=UQ R x:=fun {R}=>by
 induction x generalizing R with
 |nil=>exact absurd rfl h
 |cons a x ih =>
  show (x.map It.c).foldl stI (UQ R [a])=_
  cases x with
  |nil=>rfl
  |cons b x =>
   rw[ih (fun q=>nomatch q)]
   cases R with
   |nil=>rfl
   |cons t R =>
    cases t
    ·rw[Nr,Nr]
     exact congrArg (fun q=>Tok4.ch q::R) (List.append_assoc ..)
    ·rfl
    ·rfl
    ·rfl
theorem D3:∀ (l R:List Tok4),l.all Tok4.ok=true->(JK l).foldl stI R=l.foldl stT R:=fun l0=>by
 induction l0 with
 |nil =>
  exact fun J J=>rfl
 |cons t l ih =>
  exact fun R h=>bA h fun h1 h2=>by
   show (t.f++JK l).foldl stI R=l.foldl stT (stT R t)
   rw[List.foldl_append]
   have e:t.f.foldl stI R=stT R t:=by
    cases t
    ·exact GV fun q=>by rw[q] at h1;exact ff h1
    ·exact GV fun q=>by rw[q] at h1;exact ff h1
    ·rfl
    ·rfl
   rw[e]
   exact ih _ h2
def sz(R:List Tok4):Nat:=(JK R).length
theorem Qz:sz (t::R)=t.f.length+sz R:=List.length_append
set_option tactic.hygienic false in
theorem Y6(h:R.all Tok4.ok=true)(hx:x≠[]):(UQ R x).all Tok4.ok=true/\sz (UQ R x)=x.length+sz R:=by
 have hx':(!x.isEmpty)=true:=by cases x with
  |nil=>exact absurd rfl hx
  |cons=>rfl
 cases R with
 |nil=>exact⟨(Bool.and_true _).trans hx',by rw[UQ,Qz];exact congrArg (·+0) (List.length_map _)⟩
 |cons t R =>
  refine bA h fun h1 h2=>?_
  cases t
  ·refine⟨Bool.and_eq_true_iff.mpr ⟨?_,h2⟩,?_⟩
   ·cases x_1 with
    |nil=>exact hx'
    |cons=>rfl
   ·show sz (.ch (x_1++x)::R)=_
    rw[Qz,Qz,<- Nat.add_assoc]
    exact congrArg (·+sz R) (by rw[Tok4.f,Tok4.f,List.length_map,List.length_map,List.length_append,Nat.add_comm])
  ·exact⟨Bool.and_eq_true_iff.mpr ⟨hx',h⟩,Qz.trans (congrArg (·+_) (List.length_map _))⟩
  ·exact⟨Bool.and_eq_true_iff.mpr ⟨hx',h⟩,Qz.trans (congrArg (·+_) (List.length_map _))⟩
  ·exact⟨Bool.and_eq_true_iff.mpr ⟨hx',h⟩,Qz.trans (congrArg (·+_) (List.length_map _))⟩
theorem Zz(h:(!x.isEmpty)=true):x≠[]:=fun q=>by rw[q] at h;exact ff h
theorem ZE5(h:R.all Tok4.ok=true)(ht:t.ok=true):(stT R t).all Tok4.ok=true/\sz (stT R t)=t.f.length+sz R:=by
 cases t with
 |ch x=>exact⟨(Y6 h (Zz ht)).1,((Y6 h (Zz ht)).2).trans (congrArg (·+_) (List.length_map _).symm)⟩
 |sp x=>exact⟨(Y6 h (Zz ht)).1,((Y6 h (Zz ht)).2).trans (congrArg (·+_) (List.length_map _).symm)⟩
 |er n=>exact⟨h,Qz⟩
 |tg n ws c=>exact⟨h,Qz⟩
set_option tactic.hygienic false in
theorem Na:∀ {R:List Tok4},R.all Tok4.ok=true->R.length<=sz R:=by
 intro l0
 induction l0 with
 |nil =>
  intro _
  exact qF _
 |cons t R ih =>
  intro h
  exact bA h fun h1 h2=>by
   rw[Qz,List.length_cons,Nat.add_comm]
   refine qQ ?_ (ih h2)
   cases t
   ·cases x with
    |nil=>exact ff h1
    |cons=>exact qJ (qG _)
   ·cases x with
    |nil=>exact ff h1
    |cons=>exact qJ (qG _)
   ·exact qF _
   ·exact qF _
end
def jC1:ME:=(.and (.cmp .ne (.sub (.loc 83) (.k (.str wC))) (.sub (.glob UC) (.k (.str wX)))) (.cmp .ne (.sub (.loc 83) (.k (.str wC))) (.sub (.glob UC) (.k (.str wS)))))
def jC2:ME:=(.and (.loc 126) (.cmp .eq (.sub (.sub (.loc 126) (.neg (.k (.int 1)))) (.k (.str wC))) (.sub (.glob UC) (.k (.str wX)))))
def jB:List MS:=[.iff jC1 [.ex (.app (.loc 126) (.loc 83))] [.iff jC2 [.asgS (.loc 126) (.neg (.k (.int 1))) (.call 67 [(.bop .add (.sub (.sub (.loc 126) (.neg (.k (.int 1)))) (.k (.str wB))) (.sub (.loc 83) (.k (.str wB))))])] [.ex (.app (.loc 126) (.call 67 [(.sub (.loc 83) (.k (.str wB)))]))]]]
noncomputable def jL(u v:Mine.V):List (Nat×Mine.V):=[(161,u),(126,.obj (.p 50)),(83,v)]
section
variable{C:Ora}{n:Nat}{L E:List (Nat×Mine.V)}{H:List (Id×Ob)}{nx:Nat}{P:List Nat}{u v w:Mine.V}{R l:List Tok4}{x y:List Nat}{t r:Tok4}{A:List Mine.V}
theorem vsr:vs (t::R).reverse=vs R.reverse++[t.v]:=by rw[List.reverse_cons,QV];rfl
theorem Hp{k:Int}{ks:List (List Nat)}{ws:List Mine.V}(hA:A.length<=JB)(h1:some (!(k==(1:Int)))=some true)(h2:some (!(k==(2:Int)))=some true):exs (JH tT (n+1)) jB ⟨jL u (.dict (wC::ks) (.int k::ws)),(.p 50,.list A)::H,nx,P⟩=some (.next,⟨jL u (.dict (wC::ks) (.int k::ws)),(.p 50,.list (A++[.dict (wC::ks) (.int k::ws)]))::H,nx,P⟩):=by
 have g:=ble hA
 refine JC.exs ?_
 exact .b 2 h1 (.b 3 h2 (.g 3 g (.done 2)))
theorem ZIE(hv:v=JN x\/v=XA x):exs (JH tT (n+1)) jB ⟨jL u v,(.p 50,.list [])::H,nx,P⟩=some (.next,⟨jL u v,(.p 50,.list [JN x])::H,nx,P⟩):=by
 refine JC.exs ?_
 rcases hv with rfl |rfl
 ·exact .done 14
 ·exact .done 17
theorem Gc(h:A.length<JB):Ue (A++[v]) (.int (-1))=some v:=by
 show gd (Nat.ble (A++[v]).length JB) (bo (seqIndex? (-1) (A++[v]).length) fun j=>(A++[v])[j]?)=_
 rw[List.length_append,ble (show A.length+[v].length<=JB from h)]
 show bo (seqIndex? (-1) (A.length+1)) _=_
 rw[Yn]
 exact List.getElem?_concat_length
theorem HF(h:A.length<JB):Mine.Jk ⟨L,(.p 50,.list (A++[v]))::H,nx,P⟩ (.obj (.p 50))=some true:=by
 show gd (Nat.ble (A++[v]).length JB) (some (!(A++[v]).isEmpty))=_
 rw[List.length_append,ble (show A.length+[v].length<=JB from h)]
 cases A<;>rfl
theorem ZBi(h:A.length<JB):Mine.Uu ⟨L,(.p 50,.list (A++[w]))::H,nx,P⟩ (.obj (.p 50)) (.int (-1)) v=some ⟨L,(.p 50,.list (A++[v]))::H,nx,P⟩:=by
 show gd (Nat.ble (A++[w]).length JB) (bo (seqIndex? (-1) (A++[w]).length) fun j=>gd (Nat.blt j (A++[w]).length) (some (⟨L,(.p 50,.list ((A++[w]).set j v))::H,nx,P⟩:St)))=_
 rw[List.length_append,ble (show A.length+[w].length<=JB from h)]
 show bo (seqIndex? (-1) (A.length+1)) _=_
 rw[Yn]
 show gd (Nat.blt A.length (A.length+1)) (some (⟨L,(.p 50,.list ((A++[w]).set A.length v))::H,nx,P⟩:St))=_
 rw[show Nat.blt A.length (A.length+1)=true from ble (qF _),List.set_append_right A.length v (qF _),Nat.sub_self];rfl
def jCh:ME:=.call 67 [(.bop .add (.sub (.sub (.loc 126) (.neg (.k (.int 1)))) (.k (.str wB))) (.sub (.loc 83) (.k (.str wB))))]
theorem ZJs(hA:A.length<JB)(hc:y.length+x.length<=JB)(hv:v=JN x\/v=XA x):exs (JH tT (n+1)) jB ⟨jL u v,(.p 50,.list (A++[JN y]))::H,nx,P⟩=some (.next,⟨jL u v,(.p 50,.list (A++[JN (y++x)]))::H,nx,P⟩):=by
 have hs:=Gc (v:=JN y) hA
 have hcat:=Q6 hc (qF _)
 have ht:=fun v=>HF (L:=jL u v) (v:=JN y) (H:=H) (nx:=nx) (P:=P) hA
 have h1:tst (JH tT (n+1)) jC1 ⟨jL u v,(.p 50,.list (A++[JN y]))::H,nx,P⟩=some (false,⟨jL u v,(.p 50,.list (A++[JN y]))::H,nx,P⟩):=by
  rcases hv with rfl |rfl<;>kernel_rfl
 have h2:tst (JH tT (n+1)) jC2 ⟨jL u v,(.p 50,.list (A++[JN y]))::H,nx,P⟩=some (true,⟨jL u v,(.p 50,.list (A++[JN y]))::H,nx,P⟩):=by
  refine JC.tst ?_
  exact .b 0 (ht v) (.v 0 hs (.done 5))
 have he:ev (JH tT (n+1)) jCh ⟨jL u v,(.p 50,.list (A++[JN y]))::H,nx,P⟩=some (JN (y++x),⟨jL u v,(.p 50,.list (A++[JN y]))::H,nx,P⟩):=by
  refine JC.ev ?_
  rcases hv with rfl |rfl
  ·exact .v 0 hs (.v 2 hcat (.done 2))
  ·exact .v 0 hs (.v 2 hcat (.done 2))
 unfold jB
 rw[Wo h1]
 refine(XW h2).trans ?_
 show bn (bn (ev (JH tT (n+1)) jCh ⟨jL u v,(.p 50,.list (A++[JN y]))::H,nx,P⟩) _) _=_
 rw[he]
 show bn (bo (Mine.Uu ⟨jL u v,(.p 50,.list (A++[JN y]))::H,nx,P⟩ (.obj (.p 50)) (.int (-1)) (JN (y++x))) _) _=_
 rw[ZBi hA];rfl
theorem Ou{k:Int}{ks:List (List Nat)}{ws:List Mine.V}(hA:A.length<JB)(hv:v=JN x\/v=XA x)(hk:some (k==(1:Int))=some false):exs (JH tT (n+1)) jB ⟨jL u v,(.p 50,.list (A++[.dict (wC::ks) (.int k::ws)]))::H,nx,P⟩=some (.next,⟨jL u v,(.p 50,.list (A++[.dict (wC::ks) (.int k::ws)]++[JN x]))::H,nx,P⟩):=by
 have hs:=Gc (v:=.dict (wC::ks) (.int k::ws)) hA
 have ht:=fun v=>HF (L:=jL u v) (v:=.dict (wC::ks) (.int k::ws)) (H:=H) (nx:=nx) (P:=P) hA
 have g:Nat.ble (A++[Mine.V.dict (wC::ks) (.int k::ws)]).length JB=true:=ble (by rw[List.length_append];exact hA)
 refine JC.exs ?_
 rcases hv with rfl |rfl
 ·exact .b 5 (ht (JN x)) (.v 0 hs (.b 2 hk (.g 5 g (.done 2))))
 ·exact .b 8 (ht (JN x)) (.v 0 hs (.b 2 hk (.g 5 g (.done 2))))
theorem ZF7(hR:R.all Tok4.ok=true)(ht:t.ok=true)(hz:sz R+t.f.length<=100000):exs (JH tT (n+1)) jB ⟨jL u t.v,(.p 50,.list (vs R.reverse))::H,nx,P⟩=some (.next,⟨jL u t.v,(.p 50,.list (vs (stT R t).reverse))::H,nx,P⟩):=by
 have hl:(vs R.reverse).length<=100000:=by
  rw[List.length_map,List.length_reverse]
  exact qA (Na hR) (qA (qK _ _) hz)
 have hm:(vs R.reverse).length<=JB:=qA hl (by decide)
 have ch:∀ {x:List Nat} {v:Mine.V},x.length<=t.f.length->v=JN x\/v=XA x->exs (JH tT (n+1)) jB ⟨jL u v,(.p 50,.list (vs R.reverse))::H,nx,P⟩=some (.next,⟨jL u v,(.p 50,.list (vs (UQ R x).reverse))::H,nx,P⟩):=fun {x v} hx hv=>by
  cases R with
  |nil=>exact ZIE hv
  |cons r R =>
   rw[Nr,List.reverse_append,QV]
   rw[vsr,List.length_append] at hl
   have hA:(vs R.reverse).length<JB:=xH (show _+1<=_ from hl) (by decide)
   rw[vsr]
   cases r with
   |ch y=>exact ZJs hA (qA (qQ (by rw[Qz];exact qA (qV (List.length_map _).symm) (qK _ _)) hx) (qA hz (by decide))) hv
   |sp y=>exact(Ou hA hv rfl).trans (by rw[List.append_assoc];rfl)
   |er y=>exact(Ou hA hv rfl).trans (by rw[List.append_assoc];rfl)
   |tg y ws c=>exact(Ou hA hv rfl).trans (by rw[List.append_assoc];rfl)
 cases t with
 |ch x=>exact ch (qV (List.length_map _).symm) (.inl rfl)
 |sp x=>exact ch (qV (List.length_map _).symm) (.inr rfl)
 |er x=>exact(Hp hm rfl rfl).trans (by show _=some (FL.next,(⟨_,(Id.p 50,Ob.list (vs (Tok4.er x::R).reverse))::H,nx,P⟩:St));rw[vsr];rfl)
 |tg x ws c=>exact(Hp hm rfl rfl).trans (by show _=some (FL.next,(⟨_,(Id.p 50,Ob.list (vs (Tok4.tg x ws c::R).reverse))::H,nx,P⟩:St));rw[vsr];rfl)
def jF(C:Ora):List Mine.V->St->Option (FL×St):=QI (fun v U=>some (U.setLoc 83 v)) (exs C jB)
theorem ZIF:∀ (l R:List Tok4) (L:List (Nat×Mine.V)),(∀ v,put L 83 v=jL u v)->l.all Tok4.ok=true->R.all Tok4.ok=true->sz R+sz l<=100000->∃ L',JA L' 126=some (.obj (.p 50))/\jF (JH tT (n+1)) (vs l) ⟨L,(.p 50,.list (vs R.reverse))::H,nx,P⟩=some (.next,⟨L',(.p 50,.list (vs ((JK l).foldl stI R).reverse))::H,nx,P⟩):=fun l0=>by
 induction l0 with
 |nil =>
  exact fun R L hL J J J=>⟨L,by
   have h:=congrArg (fun l=>JA l 126) (hL .none)
   exact((Qj ..).symm.trans h).trans rfl,rfl⟩
 |cons t l ih =>
  exact fun R L hL hl hR hz=>bA hl fun h1 h2=>by
   rw[Qz,Nat.add_left_comm,<- Nat.add_assoc] at hz
   obtain⟨k1,k2⟩:=ZE5 hR h1
   obtain⟨L',e1,e2⟩:=ih (stT R t) (jL u t.v) (fun J=>rfl) h2 k1 (by rw[k2];exact hz)
   refine⟨L',e1,?_⟩
   show bn (exs (JH tT (n+1)) jB ⟨put L 83 t.v,(.p 50,.list (vs R.reverse))::H,nx,P⟩) _=_
   rw[hL,ZF7 hR h1 (by rw[Nat.add_comm];exact qA (qK _ _) hz),D3 (t::l) R hl,List.foldl_cons,<- D3 l _ h2]
   exact e2
theorem Bg(hc:Cln 50 L H P)(h1:l.all Tok4.ok=true)(hz:sz l<=100000):YT 50 (WX tT (JH tT (n+1))) 71 [.list (vs l)] ⟨L,H,nx,P⟩=some (.list (vs (jn (JK l))),⟨L,H,nx,P⟩):=by
 obtain⟨L',e1,e2⟩:=ZIF (n:=n) (u:=.list (vs l)) (H:=H) (nx:=nx) (P:=50::P) l [] [(161,.list (vs l)),(126,.obj (.p 50))] (fun J=>rfl) h1 rfl (by rw[show sz []=0 from rfl,Nat.zero_add];exact hz)
 have ha:=KR (L:=[(161,.list (vs l))]) (H:=H) (nx:=nx) (o:=.list []) hc.p
 show gd (decide (50∉P)) (bn (Qx (JH tT (n+1)) Yd [.list (vs l)] ⟨L,H,nx,P⟩) (UP 50))=_
 rw[decide_eq_true hc.p]
 have hb:exs (JH tT (n+1)) Yd.body ⟨[(161,.list (vs l))],H,nx,P⟩=some (.ret (.obj (.p 50)),⟨L',(.p 50,.list (vs (jn (JK l))))::H,nx,50::P⟩):=by
  refine JC.exs' ?_
  exact .c 0 ha (.fl 2 e2 (.v 0 e1 (.done 1)))
 rw[cB (m:=Yd) (as:=[.list (vs l)]) rfl hb]
 exact(OR hc (QN _)).trans (by rw[show V.sb (.p 50) (.list (vs (jn (JK l)))) (.obj (.p 50))=.list (vs (jn (JK l))) from rfl])
end
section
variable{C:Ora}{L:List (Nat×Mine.V)}{H:List (Id×Ob)}{nx p a:Nat}{P tx r w x m:List Nat}{o:Option (List Nat)}
theorem ZJE:∀ a∈al,Nat.blt a 128=true:=JE (by kernel_rfl)
theorem IK(h:∀ a∈tx,a∈al):∀ a∈tx,a<128:=fun a ha=>qE (ZJE a (h a ha))
theorem in3:some ([[32],[47],[62]].any (·==x.take 1))=some (J2 x):=by
 cases x with
 |nil=>rfl
 |cons a x =>
  have e:∀ {c:Nat},([c]==[a])=(a==c):=fun {c}=>by
   by_cases h:a=c
   ·subst h;rw[beq_self_eq_true,beq_self_eq_true]
   ·rw[xV h,xV fun q=>h (qS q).1.symm]
  show some (([32]==[a])||(([47]==[a])||(([62]==[a])||false)))=some (a==32||(a==47||a==62))
  rw[e,e,e,Bool.or_false]
noncomputable def plc(p k:Nat):List Mine.V:=(List.range' p k).map fun (i:Nat)=>.int (i:Int)
theorem ZFW(k:Nat):((List.range ((k:Int)-0).toNat).map fun (i:Nat)=>Mine.V.int (0+(i:Int)))=plc 0 k:=by
 rw[Int.sub_zero,Int.toNat_natCast,List.range_eq_range']
 exact List.map_congr_left fun i J=>congrArg Mine.V.int (Int.zero_add _)
theorem ZC2{k:Nat}(h:k<=1000):(Qn 0&&Qn (k:Int))=true:=by
 show (true&&(decide (-16777216<=(k:Int))&&decide ((k:Int)<=16777216)))=true
 rw[decide_eq_true (Int.le_trans (by decide:(-16777216:Int)<=0) (Int.natCast_nonneg k)),decide_eq_true (show (k:Int)<=16777216 from Int.ofNat_le.mpr (qA h (by decide:1000<=16777216)))];rfl
end
noncomputable def iW:ME:=(.and (.cmp .gt (.loc 163) (.k (.int 0))) (.cmp .eq (.sub (.loc 117) (.bop .sub (.loc 163) (.k (.int 1)))) (.k (.str [32]))))
noncomputable def iWb:List MS:=[.augN 163 .sub (.k (.int 1))]
noncomputable def YS:MS:=.asg 164 (.and (.cmp2 .lt .lt (.k (.int 0)) (.loc 163) (.loc 2)) (.cmp .ne (.sub (.loc 117) (.bop .sub (.loc 163) (.k (.int 1)))) (.k (.str [47]))))
noncomputable def i68:MS:=.asg 68 (.ite (.cmp .lt (.loc 2) (.loc 3)) (.sub (.loc 117) (.loc 2)) (.k (.str [])))
noncomputable def iC1:ME:=(.cmp .eq (.loc 68) (.k (.str [47])))
def iA1:List MS:=[.iff (.cmp .lt (.bop .add (.loc 2) (.k (.int 1))) (.loc 3)) [.ex (.app (.loc 71) (.k (.str wD)))] [.iff (.not (.loc 107)) [.ex (.app (.loc 71) (.k (.str wI)))] []]]
noncomputable def iC2:ME:=(.and (.cmp .eq (.loc 68) (.k (.str []))) (.and (.cmp .lt (.loc 163) (.loc 2)) (.not (.loc 107))))
def iA2:List MS:=[.ex (.app (.loc 71) (.ite (.loc 164) (.k (.str wJ)) (.k (.str wH))))]
noncomputable def iC3:ME:=(.and (.cmp .ne (.loc 68) (.k (.str []))) (.cmp .ne (.loc 68) (.k (.str [32]))))
def iS:MS:=.iff (.cmp .eq (.loc 68) (.k (.str [0]))) [.ex (.app (.loc 71) (.k (.str wA)))] [.iff (.cmp .eq (.loc 68) (.k (.str [60]))) [.ex (.app (.loc 71) (.bop .add (.bop .add (.k (.str w7)) (.ite (.loc 164) (.k (.str [97,102,116,101,114])) (.k (.str [105,110])))) (.k (.str vB))))] []]
noncomputable def iC4:ME:=(.or (.cmp .eq (.bop .add (.loc 2) (.k (.int 1))) (.loc 3)) (.cmp .inn (.sub (.loc 117) (.bop .add (.loc 2) (.k (.int 1)))) (.tup [(.k (.str [32])),(.k (.str [47]))])))
noncomputable def iW2:ME:=(.and (.cmp .gt (.loc 77) (.k (.int 0))) (.cmp .nin (.sub (.loc 117) (.bop .sub (.loc 77) (.k (.int 1)))) (.tup [(.k (.str [32])),(.k (.str [47]))])))
noncomputable def Oz:List MS:=[.augN 77 .sub (.k (.int 1))]
def iX:List MS:=[.asg 77 (.loc 2),.whl iW2 Oz,.asg 78 (.sm .replace (.sm .lower (.sl (.loc 117) (.loc 77) (.bop .add (.loc 2) (.k (.int 1)))) []) [(.k (.str [0])),(.k (.str [65533]))]),.iff (.and (.cmp .eq (.bop .add (.loc 2) (.k (.int 1))) (.loc 3)) (.not (.loc 107))) [.ex (.app (.loc 71) (.k (.str wL)))] [],.iff (.cmp .inn (.loc 78) (.loc 162)) [.ex (.app (.loc 71) (.k (.str wM)))] [],.ex (.app (.loc 162) (.loc 78))]
def iB:List MS:=[.asg 163 (.loc 2),.whl iW iWb,YS,i68,.iff iC1 iA1 [.iff iC2 iA2 [.iff iC3 [iS,.iff iC4 iX []] []]]]
theorem ZBR:XQ.body=[.asg 71 (.lst [] (.per 51)),.asg 162 (.lst [] (.per 52)),.asg 3 (.bi .len [(.loc 117)]),.for 2 (.bi .range [(.bop .add (.loc 3) (.k (.int 1)))]) iB,.ret (.tup [(.loc 71),(.loc 162)])]:=rfl
theorem GU{C:Ora}{t:ME}{bd:List MS}{p:Nat->Bool}{mk:Nat->St}{v:List Nat}(h0:tst C t (mk 0)=some (false,mk 0))(h1:∀ i a,v[i]?=some a->tst C t (mk (i+1))=some (p a,mk (i+1)))(h2:∀ i,exs C bd (mk (i+1))=some (.next,mk i)):∀ (i fuel:Nat),i<=v.length->i<fuel->QA (tst C t) (exs C bd) fuel (mk i)=some (.next,mk ((v.take i).reverse.dropWhile p).length):=by
 intro i
 induction i with
 |zero =>
  intro fuel _ hf
  cases fuel with
  |zero=>exact absurd hf (xK _)
  |succ n=>exact Yg h0
 |succ i ih =>
  intro fuel hi hf
  cases fuel with
  |zero=>exact absurd hf (xK _)
  |succ n =>
   have ha:v[i]?=some v[i]:=List.getElem?_eq_getElem hi
   have h1:=h1 i _ ha
   rw[List.take_succ_eq_append_getElem hi,List.reverse_append]
   show _=some (FL.next,mk ((v[i]::(v.take i).reverse).dropWhile p).length)
   rw[List.dropWhile_cons]
   cases e:p v[i] with
   |false =>
    rw[e] at h1
    refine(Yg h1).trans ?_
    rw[if_neg Bool.false_ne_true,List.length_cons,List.length_reverse,List.length_take_of_le (xG hi)]
   |true =>
    rw[e] at h1
    refine(XT h1 (h2 i) (ih n (xG hi) (xJ hf))).trans ?_
    rw[if_pos rfl]
theorem ZBa{p:Nat->Bool}{v:List Nat}{i:Nat}(hi:i<=v.length):v.take ((v.take i).reverse.dropWhile p).length=((v.take i).reverse.dropWhile p).reverse:=by
 have h:=congrArg List.reverse (List.takeWhile_append_dropWhile (p:=p) (l:=(v.take i).reverse))
 rw[List.reverse_append,List.reverse_reverse] at h
 have hl:((v.take i).reverse.dropWhile p).length<=i:=by
  have:=(List.dropWhile_suffix (p:=p) (l:=(v.take i).reverse)).length_le
  rw[List.length_reverse,List.length_take_of_le hi] at this;exact this
 have h2:=congrArg (List.take ((v.take i).reverse.dropWhile p).length) h
 rw[List.take_take,Nat.min_eq_left hl,List.take_left' List.length_reverse] at h2
 exact h2.symm
section
variable{C:Ora}{L:List (Nat×Mine.V)}{H:List (Id×Ob)}{nx i a k:Nat}{P v r w x pr:List Nat}{c b:Bool}{fs ws:List (List Nat)}
noncomputable def stv(l:List (List Nat)):List Mine.V:=l.map .str
noncomputable def inE(v:List Nat)(c:Bool)(i:Nat):List (Nat×Mine.V):=[(117,.str v),(107,.bool c),(71,.obj (.p 51)),(162,.obj (.p 52)),(3,.int v.length),(2,.int i)]
noncomputable def Uk(v:List Nat)(c:Bool)(i:Nat)(bk:Nat)(lt:Bool)(sg:List Nat):List (Nat×Mine.V):=[(117,.str v),(107,.bool c),(71,.obj (.p 51)),(162,.obj (.p 52)),(3,.int v.length),(2,.int i),(163,.int bk),(164,.bool lt),(68,.str sg)]
def inM(L:List (Nat×Mine.V))(H:List (Id×Ob))(nx:Nat)(P:List Nat)(i:Nat):St:=⟨put L 163 (.int i),H,nx,P⟩
theorem YL(i:Nat):((i+1:Nat):Int)-1=(i:Int):=(show (i:Int)+1-1=i from Int.add_sub_cancel _ _)
theorem sgt(i:Nat):some (decide (((i+1:Nat):Int) > 0))=some true:=congrArg some (decide_eq_true (Int.ofNat_lt.mpr (xF i)))
theorem Od{a b:Nat}:some (([a]:List Nat)==[b])=some (Nat.beq a b):=by
 by_cases h:a=b
 ·subst h;rw[Nat.beq_refl];exact congrArg some (beq_self_eq_true _)
 ·rw[Ja h];exact congrArg some (xV fun e=>h (qS e).1)
theorem ZDm(hb:v.length<=JB)(h1:JA L 117=some (.str v)):∀ (i fuel:Nat),i<=v.length->i<fuel->QA (tst C iW) (exs C iWb) fuel (inM L H nx P i)=some (.next,inM L H nx P (bkS (v.take i).reverse).length):=by
 have l1:∀ i:Nat,JA (put L 163 (.int i)) 117=some (.str v):=fun i=>(Qj ..).trans h1
 have l3:∀ i:Nat,JA (put L 163 (.int i)) 163=some (.int i):=fun i=>Qj ..
 refine GU (p:=fun a=>Nat.beq a 32) (JC.tst' ?_) (fun i a h=>JC.tst' ?_) fun i=>?_
 ·exact .v 0 (l3 0) (.done 4)
 ·have hs:=Xa h hb
  rw[<- YL] at hs
  exact .v 0 (l3 (i+1)) (.b 0 (sgt i) (.v 1 (l1 (i+1)) (.v 0 (l3 (i+1)) (.v 1 hs (.b 0 (Od (a:=a) (b:=32)) (.b 0 (Za (b:=Nat.beq a 32)) (.done 1)))))))
 ·show exs C iWb ⟨put L 163 (.int (i+1:Nat)),H,nx,P⟩=some (.next,⟨put L 163 (.int i),H,nx,P⟩)
  rw[show put L 163 (.int (i:Int))=put (put L 163 (.int ((i+1:Nat):Int))) 163 (.int (((i+1:Nat):Int)-1)) by rw[B1,YL]]
  refine JC.exs' ?_
  exact .v 0 (l3 (i+1)) (.done 2)
noncomputable def sg1:List Nat->List Nat
 |[]=>[]
 |a::_=>[a]
theorem ZJR{a b:Nat}:some (!(([a]:List Nat)==[b]))=some (!(Nat.beq a b)):=congrArg some (congrArg (!·) (Option.some.inj Od))
def inP:List MS:=[.asg 163 (.loc 2),.whl iW iWb,YS,i68]
theorem ZB4{B:List Nat}(hm:v.length<=JB)(hbt:v.take B.length=B.reverse)(k1:Kn L [(117,.str v),(2,.int i),(163,.int B.length)]):exs C [YS] ⟨L,H,nx,P⟩=some (.next,⟨put L 164 (.bool (Nat.blt B.length i&&ZJ B)),H,nx,P⟩):=by
 refine JC.exs' ?_
 cases B with
 |nil =>
  rw[show (Nat.blt ([]:List Nat).length i&&ZJ [])=false from Bool.and_false _]
  exact .v 0 (k1.get 163 rfl) (.done 3)
 |cons x t =>
  have hg:some (decide ((0:Int)<((t.length+1:Nat):Int)))=some true:=congrArg some (decide_eq_true (Int.ofNat_lt.mpr (xF t.length)))
  by_cases hlt:t.length+1<i
  ·have hx:v[t.length]?=some x:=by
    have h:(v.take (t.length+1))[t.length]?=(x::t).reverse[t.length]?:=congrArg (fun l:List Nat=>l[t.length]?) hbt
    rw[List.getElem?_take_of_lt (xC _),List.reverse_cons] at h
    refine h.trans ?_
    rw[List.getElem?_append_right (qV List.length_reverse),List.length_reverse,Nat.sub_self];rfl
   have hs:=Xa hx hm
   rw[<- YL] at hs
   rw[show Nat.blt (x::t).length i=true from ble hlt]
   exact .v 0 (k1.get 163 rfl) (.b 0 hg (.v 0 (k1.get 2 rfl) (.b 0 (slt hlt) (.v 1 (k1.get 117 rfl) (.v 0 (k1.get 163 rfl) (.v 1 hs (.b 0 (ZJR (a:=x) (b:=47)) (.done 1))))))))
  ·rw[show Nat.blt (x::t).length i=false from Bool.eq_false_iff.mpr fun q=>hlt (qE q)]
   exact .v 0 (k1.get 163 rfl) (.b 0 hg (.v 0 (k1.get 2 rfl) (.b 0 (Wb hlt) (.done 2))))
theorem Gw(hb:v.length<=900)(hi:i<=v.length)(hd:v.drop i=r)(hp:(v.take i).reverse=pr)(k:Kn L (inE v c i)):∃ L',exs C inP ⟨L,H,nx,P⟩=some (.next,⟨L',H,nx,P⟩)/\Kn L' (Uk v c i (bkS pr).length (Js pr) (sg1 r)):=by
 have hm:v.length<=JB:=mx hb
 have hw:=ZDm (C:=C) (L:=L) (H:=H) (nx:=nx) (P:=P) hm (k.get 117 rfl) i Qr hi (qL (qA hi hb) (by decide))
 have hbt:=ZBa (p:=fun a=>Nat.beq a 32) hi
 rw[hp] at hw hbt
 have hpl:pr.length=i:=by rw[<- hp,List.length_reverse,List.length_take_of_le hi]
 have k1:=k.put 163 (.int (bkS pr).length)
 have h1:exs C [.asg 163 (.loc 2),.whl iW iWb] ⟨L,H,nx,P⟩=some (.next,⟨k1.lc,H,nx,P⟩):=by
  refine JC.exs' ?_
  exact .v 0 (k.get 2 rfl) (.fl 0 hw (.done 1))
 have h2:exs C [YS] ⟨k1.lc,H,nx,P⟩=some (.next,⟨put k1.lc 164 (.bool (Js pr)),H,nx,P⟩):=by
  have h:=ZB4 (C:=C) (H:=H) (nx:=nx) (P:=P) hm hbt (k1.sub [117,2,163])
  rw[<- hpl] at h
  exact h
 have k2:=k1.put 164 (.bool (Js pr))
 have h3:exs C [i68] ⟨k2.lc,H,nx,P⟩=some (.next,⟨put k2.lc 68 (.str (sg1 r)),H,nx,P⟩):=by
  refine JC.exs' ?_
  cases r with
  |nil =>
   have e:i=v.length:=Yh hd hi
   subst e
   exact .v 0 (k2.get 2 rfl) (.v 0 (k2.get 3 rfl) (.b 0 (Wb (xS v.length)) (.done 2)))
  |cons a r =>
   obtain⟨e1,e2,e3⟩:=Jo hd
   exact .v 0 (k2.get 2 rfl) (.v 0 (k2.get 3 rfl) (.b 0 (slt e3) (.v 1 (k2.get 117 rfl) (.v 0 (k2.get 2 rfl) (.v 0 (Xa e1 hm) (.done 1))))))
 have k3:=k2.put 68 (.str (sg1 r))
 refine⟨k3.lc,?_,k3.sub [117,107,71,162,3,2,163,164,68]⟩
 rw[show inP=[.asg 163 (.loc 2),.whl iW iWb]++([YS]++[i68]) from rfl,J9 h1,J9 h2];exact h3
end
def i4:List MS:=[.iff iC1 iA1 [.iff iC2 iA2 [.iff iC3 [iS,.iff iC4 iX []] []]]]
theorem Hw:iB=inP++i4:=rfl
def inH(H:List (Id×Ob))(fs ws:List (List Nat)):List (Id×Ob):=(.p 52,.list (stv ws))::(.p 51,.list (stv fs))::H
section
variable{C:Ora}{L:List (Nat×Mine.V)}{H:List (Id×Ob)}{nx i a k bk:Nat}{P v r w x pr:List Nat}{c b lt:Bool}{fs ws:List (List Nat)}
theorem Wp{l l':List (List Nat)}:stv (l++l')=stv l++stv l':=List.map_append
theorem DV{l:List (List Nat)}:(stv l).length=l.length:=List.length_map _
theorem gst(h:fs.length<=100000):Nat.ble (stv fs).length JB=true:=ble (by rw[DV];exact qA h (by decide))
theorem ZGC(hf:fs.length<=100000)(k:Kn L (Uk v c i bk lt [])):exs C i4 ⟨L,inH H fs ws,nx,P⟩=some (.next,⟨L,inH H (fs++bif Nat.blt bk i&&!c then [bif lt then Ug else Uh] else []) ws,nx,P⟩):=by
 have g:=gst hf
 unfold inH
 rw[Wp]
 by_cases hlt:bk<i
 ·rw[show Nat.blt bk i=true from ble hlt]
  cases c with
  |true =>
   rw[show stv (bif true&&!true then [bif lt then Ug else Uh] else [])=[] from rfl,List.append_nil]
   refine JC.exs' ?_
   exact .v 0 (k.get 68 rfl) (.v 2 (k.get 68 rfl) (.v 2 (k.get 163 rfl) (.v 0 (k.get 2 rfl) (.b 0 (slt hlt) (.v 1 (k.get 107 rfl) (.v 2 (k.get 68 rfl) (.done 4)))))))
  |false =>
   refine JC.exs' ?_
   cases lt
   ·exact .v 0 (k.get 68 rfl) (.v 2 (k.get 68 rfl) (.v 2 (k.get 163 rfl) (.v 0 (k.get 2 rfl) (.b 0 (slt hlt) (.v 1 (k.get 107 rfl) (.v 2 (k.get 71 rfl) (.v 1 (k.get 164 rfl) (.g 2 g (.done 2)))))))))
   ·exact .v 0 (k.get 68 rfl) (.v 2 (k.get 68 rfl) (.v 2 (k.get 163 rfl) (.v 0 (k.get 2 rfl) (.b 0 (slt hlt) (.v 1 (k.get 107 rfl) (.v 2 (k.get 71 rfl) (.v 1 (k.get 164 rfl) (.g 2 g (.done 2)))))))))
 ·rw[show Nat.blt bk i=false from Bool.eq_false_iff.mpr fun q=>hlt (qE q),show stv (bif false&&!c then [bif lt then Ug else Uh] else [])=[] from rfl,List.append_nil]
  refine JC.exs' ?_
  exact .v 0 (k.get 68 rfl) (.v 2 (k.get 68 rfl) (.v 2 (k.get 163 rfl) (.v 0 (k.get 2 rfl) (.b 0 (Wb hlt) (.v 2 (k.get 68 rfl) (.done 4))))))
theorem ZIS(hf:fs.length<=100000)(hi:i+1+r.length=v.length)(k:Kn L (Uk v c i bk lt [47])):exs C i4 ⟨L,inH H fs ws,nx,P⟩=some (.next,⟨L,inH H (fs++J4 c r (.S ws)) ws,nx,P⟩):=by
 have g:=gst hf
 unfold inH
 rw[Wp]
 cases r with
 |nil =>
  have hv:¬ i+1<v.length:=hi▸xS _
  cases c with
  |true =>
   rw[show stv (J4 true [] (.S ws))=[] from rfl,List.append_nil]
   refine JC.exs' ?_
   exact .v 0 (k.get 68 rfl) (.v 2 (k.get 2 rfl) (.v 1 (k.get 3 rfl) (.b 0 (Wb hv) (.v 1 (k.get 107 rfl) (.done 3)))))
  |false =>
   refine JC.exs' ?_
   exact .v 0 (k.get 68 rfl) (.v 2 (k.get 2 rfl) (.v 1 (k.get 3 rfl) (.b 0 (Wb hv) (.v 1 (k.get 107 rfl) (.v 2 (k.get 71 rfl) (.g 2 g (.done 2)))))))
 |cons b r =>
  have hv:i+1<v.length:=hi▸Nat.lt_add_of_pos_right (xF _)
  refine JC.exs' ?_
  exact .v 0 (k.get 68 rfl) (.v 2 (k.get 2 rfl) (.v 1 (k.get 3 rfl) (.b 0 (slt hv) (.v 1 (k.get 71 rfl) (.g 2 g (.done 2))))))
theorem ZIT(k:Kn L (Uk v c i bk lt [32])):exs C i4 ⟨L,inH H fs ws,nx,P⟩=some (.next,⟨L,inH H fs ws,nx,P⟩):=by
 refine JC.exs' ?_
 exact .v 0 (k.get 68 rfl) (.v 2 (k.get 68 rfl) (.v 3 (k.get 68 rfl) (.v 2 (k.get 68 rfl) (.done 3))))
theorem ZIQ(hf:fs.length<=100000)(k:Kn L (Uk v c i bk lt [a])):exs C [iS] ⟨L,inH H fs ws,nx,P⟩=some (.next,⟨L,inH H (fs++wF lt a) ws,nx,P⟩):=by
 have g:=gst hf
 unfold inH
 rw[Wp]
 by_cases h0:a=0
 ·subst h0
  refine JC.exs' ?_
  exact .v 0 (k.get 68 rfl) (.v 2 (k.get 71 rfl) (.g 2 g (.done 2)))
 by_cases h60:a=60
 ·subst h60
  refine JC.exs' ?_
  cases lt
  ·exact .v 0 (k.get 68 rfl) (.v 2 (k.get 68 rfl) (.v 2 (k.get 71 rfl) (.v 1 (k.get 164 rfl) (.g 4 g (.done 2)))))
  ·exact .v 0 (k.get 68 rfl) (.v 2 (k.get 68 rfl) (.v 2 (k.get 71 rfl) (.v 1 (k.get 164 rfl) (.g 4 g (.done 2)))))
 ·rw[show wF lt a=[] by unfold wF;rw[Ja h0,Ja h60];rfl,show stv []=[] from rfl,List.append_nil]
  refine JC.exs' ?_
  exact .v 0 (k.get 68 rfl) (.b 0 (neq h0) (.v 1 (k.get 68 rfl) (.b 0 (neq h60) (.done 2))))
theorem in2{a:Nat}:some ([[32],[47]].any (·==[a]))=some (wb a):=congrArg some Io
theorem ZJn{a:Nat}:some (!([[32],[47]].any (·==[a])))=some (!(wb a)):=congrArg (fun q=>some (!q)) Io
def IZ(L:List (Nat×Mine.V))(H:List (Id×Ob))(nx:Nat)(P:List Nat)(i:Nat):St:=⟨put L 77 (.int i),H,nx,P⟩
theorem ZB5(hb:v.length<=JB)(h1:JA L 117=some (.str v)):∀ (i fuel:Nat),i<=v.length->i<fuel->QA (tst C iW2) (exs C Oz) fuel (IZ L H nx P i)=some (.next,IZ L H nx P ((v.take i).reverse.dropWhile fun a=>!(wb a)).length):=by
 have l1:∀ i:Nat,JA (put L 77 (.int i)) 117=some (.str v):=fun i=>(Qj ..).trans h1
 have l3:∀ i:Nat,JA (put L 77 (.int i)) 77=some (.int i):=fun i=>Qj ..
 refine GU (p:=fun a=>!(wb a)) (JC.tst' ?_) (fun i a h=>JC.tst' ?_) fun i=>?_
 ·exact .v 0 (l3 0) (.done 4)
 ·have hs:=Xa h hb
  rw[<- YL] at hs
  exact .v 0 (l3 (i+1)) (.b 0 (sgt i) (.v 1 (l1 (i+1)) (.v 0 (l3 (i+1)) (.v 1 hs (.b 0 (ZJn (a:=a)) (.b 0 (Za (b:=!(wb a))) (.done 1)))))))
 ·show exs C Oz ⟨put L 77 (.int (i+1:Nat)),H,nx,P⟩=some (.next,⟨put L 77 (.int i),H,nx,P⟩)
  rw[show put L 77 (.int (i:Int))=put (put L 77 (.int ((i+1:Nat):Int))) 77 (.int (((i+1:Nat):Int)-1)) by rw[B1,YL]]
  refine JC.exs' ?_
  exact .v 0 (l3 (i+1)) (.done 2)
theorem ZIR(hm:v.length<=JB)(hi:i+1+r.length=v.length)(hd:v.drop (i+1)=r)(k:Kn L (Uk v c i bk lt [a])):tst C iC4 ⟨L,H,nx,P⟩=some (WC r,⟨L,H,nx,P⟩):=by
 refine JC.tst' ?_
 cases r with
 |nil =>
  have e:some (((i+1:Nat):Int)==(v.length:Int))=some true:=congrArg some (beq_iff_eq.mpr (congrArg Int.ofNat hi))
  exact .v 0 (k.get 2 rfl) (.v 1 (k.get 3 rfl) (.b 0 e (.done 3)))
 |cons b r =>
  obtain⟨e1,e2,e3⟩:=Jo hd
  have e:some (((i+1:Nat):Int)==(v.length:Int))=some false:=congrArg some (xV fun q=>absurd (Int.ofNat.inj q) (qP e3))
  exact .v 0 (k.get 2 rfl) (.v 1 (k.get 3 rfl) (.b 0 e (.v 1 (k.get 117 rfl) (.v 0 (k.get 2 rfl) (.v 1 (Xa e1 hm) (.b 0 (in2 (a:=b)) (.b 0 (Za (b:=wb b)) (.done 1))))))))
theorem ZDD:∀ l:List Nat,(rp l).map lowC=rp (l.map lowC):=fun l0=>by
 induction l0 with
 |nil =>
  exact rfl
 |cons a l ih =>
  have e:lowC (rp1 a)=rp1 (lowC a):=by
   by_cases h:a=0
   ·subst h;rfl
   ·have h2:lowC a≠0:=by
     unfold lowC
     exact Zn (·≠0) (fun J=>Nat.succ_ne_zero _) fun J=>h
    rw[OE h,OE h2]
  show lowC (rp1 a)::(rp l).map lowC=rp1 (lowC a)::rp (l.map lowC)
  rw[e,ih]
theorem ZDj(hi:i+1+r.length=v.length)(hd:v.drop i=a::r)(hp:(v.take i).reverse=pr)(ha:wb a=false)(hm:v.length<=JB):slV σ0 (.str v) (.int (pr.dropWhile fun a=>!(wb a)).length) (.int (i+1:Nat))=some (.str ((a::pr).takeWhile fun a=>!(wb a)).reverse):=by
 have ht:v.take (i+1)=(a::pr).reverse:=by
  rw[List.take_add_one,(Jo hd).1,List.reverse_cons,<- hp,List.reverse_reverse];rfl
 rw[Xj _ _ rfl rfl hm,<- List.drop_take,ht]
 have e:(a::pr).reverse=(pr.dropWhile fun a=>!(wb a)).reverse++((a::pr).takeWhile fun a=>!(wb a)).reverse:=by
  rw[List.takeWhile_cons,ha]
  show (a::pr).reverse=(pr.dropWhile fun a=>!(wb a)).reverse++(a::pr.takeWhile fun a=>!(wb a)).reverse
  rw[List.reverse_cons,List.reverse_cons,<- List.append_assoc,<- List.reverse_append,List.takeWhile_append_dropWhile]
 rw[e,List.drop_left' List.length_reverse]
end
section
variable{C:Ora}{L:List (Nat×Mine.V)}{H:List (Id×Ob)}{nx i a k bk:Nat}{P v r w x pr:List Nat}{c b lt:Bool}{fs ws:List (List Nat)}
def iXa:List MS:=iX.take 3
def iXb:List MS:=iX.drop 3
theorem ZIM(hb:v.length<=900)(hA:∀ a∈v,a<128)(hd:v.drop i=a::r)(hp:(v.take i).reverse=pr)(ha:wb a=false)(k:Kn L (Uk v c i bk lt [a])):∃ L',exs C iXa ⟨L,H,nx,P⟩=some (.next,⟨L',H,nx,P⟩)/\Kn L' ((78,.str ((wd (a::pr)).map lowC))::inE v c i):=by
 have hm:v.length<=JB:=mx hb
 obtain⟨e1,e2,e3⟩:=Jo hd
 have hi:i+1+r.length=v.length:=Ki e3 e2
 have hw:=ZB5 (C:=C) (L:=L) (H:=H) (nx:=nx) (P:=P) hm (k.get 117 rfl) i Qr (xG e3) (xH e3 (qA hb (by decide)))
 rw[hp] at hw
 have hs:=ZDj hi hd hp ha hm
 have k1:=k.put 77 (.int (pr.dropWhile fun a=>!(wb a)).length)
 have hsub:∀ y∈((a::pr).takeWhile fun a=>!(wb a)).reverse,y∈v:=fun y hy=>by
  have h:=(qM _).subset (List.mem_reverse.mp hy)
  rcases List.mem_cons.mp h with rfl |h
  ·exact List.mem_of_getElem? e1
  ·exact List.mem_of_mem_take (List.mem_reverse.mp (hp▸h))
 have hle:((a::pr).takeWhile fun a=>!(wb a)).reverse.length<=1000:=by
  rw[List.length_reverse]
  refine qA (qM _).length_le ?_
  rw[<- hp,List.length_cons,List.length_reverse,List.length_take_of_le (xG e3)]
  exact qA e3 (qA hb (by decide))
 have hlo:=Yp (fun y hy=>hA y (hsub y hy)) hle
 have hrp:=ZFY (s:=(((a::pr).takeWhile fun a=>!(wb a)).reverse).map lowC) (by rw[List.length_map];exact hle)
 rw[<- ZDD] at hrp
 have k2:=k1.put 78 (.str ((wd (a::pr)).map lowC))
 refine⟨k2.lc,JC.exs' ?_,k2.sub [78,117,107,71,162,3,2]⟩
 exact .v 0 (k.get 2 rfl) (.fl 0 hw (.v 0 (k1.get 117 rfl) (.v 0 (k1.get 77 rfl) (.v 0 (k1.get 2 rfl) (.v 1 hs (.v 0 hlo (.v 0 hrp (.done 1))))))))
theorem ZIP(hf:fs.length<=100000)(hi:i+1+r.length=v.length)(k:Kn L ((78,.str w)::inE v c i)):exs C (iXb.take 1) ⟨L,inH H fs ws,nx,P⟩=some (.next,⟨L,inH H (fs++bif r.isEmpty&&!c then [Qg] else []) ws,nx,P⟩):=by
 have g:=gst hf
 unfold inH
 rw[Wp]
 refine JC.exs' ?_
 cases r with
 |nil =>
  have e:some (((i+1:Nat):Int)==(v.length:Int))=some true:=congrArg some (beq_iff_eq.mpr (congrArg Int.ofNat hi))
  cases c with
  |true =>
   rw[show stv (bif ([]:List Nat).isEmpty&&!true then [Qg] else [])=[] from rfl,List.append_nil]
   exact .v 0 (k.get 2 rfl) (.v 1 (k.get 3 rfl) (.b 0 e (.v 1 (k.get 107 rfl) (.done 3))))
  |false=>exact .v 0 (k.get 2 rfl) (.v 1 (k.get 3 rfl) (.b 0 e (.v 1 (k.get 107 rfl) (.v 2 (k.get 71 rfl) (.g 2 g (.done 2))))))
 |cons b r =>
  have e:some (((i+1:Nat):Int)==(v.length:Int))=some false:=congrArg some (xV fun q=>absurd (Int.ofNat.inj q) (qP (hi▸Nat.lt_add_of_pos_right (xF _))))
  rw[show stv (bif (b::r).isEmpty&&!c then [Qg] else [])=[] from rfl,List.append_nil]
  exact .v 0 (k.get 2 rfl) (.v 1 (k.get 3 rfl) (.b 0 e (.done 3)))
theorem ZAz:∀ l:List (List Nat),Wx (stv l)=some (l.map some):=fun l0=>by
 induction l0 with
 |nil =>
  exact rfl
 |cons a l ih =>
  show bo (Wx (stv l)) _=_
  rw[ih];rfl
theorem any_some:∀ l:List (List Nat),(l.map some).any (·==some w)=l.any (w==·):=fun l0=>by
 induction l0 with
 |nil =>
  exact rfl
 |cons a l ih =>
  show ((some a==some w)||(l.map some).any (·==some w))=((w==a)||l.any (w==·))
  rw[ih]
  refine congrArg (·||_) ?_
  by_cases h:w=a
  ·subst h;rw[beq_self_eq_true,beq_self_eq_true]
  ·rw[xV h,xV fun q=>h (Option.some.inj q).symm]
theorem ZGB:XK ⟨L,inH H fs ws,nx,P⟩ .inn (.str w) (.obj (.p 52))=some (ws.any (w==·)):=by
 show bo (Wx (stv ws)) (fun ys=>some (ys.any (·==some w)))=_
 rw[ZAz]
 exact congrArg some (any_some ws)
theorem ZIO(hf:fs.length<=100000)(k:Kn L ((78,.str w)::inE v c i)):exs C (iXb.drop 1 |>.take 1) ⟨L,inH H fs ws,nx,P⟩=some (.next,⟨L,inH H (fs++bif ws.any (w==·) then [QU] else []) ws,nx,P⟩):=by
 have g:=gst hf
 have hi:=ZGB (L:=L) (H:=H) (nx:=nx) (P:=P) (fs:=fs) (ws:=ws) (w:=w)
 unfold inH at hi ⊢
 rw[Wp]
 refine JC.exs' ?_
 cases e:ws.any (w==·) with
 |true =>
  rw[e] at hi
  exact .v 0 (k.get 78 rfl) (.v 0 (k.get 162 rfl) (.b 0 hi (.v 1 (k.get 71 rfl) (.g 2 g (.done 2)))))
 |false =>
  rw[e] at hi
  rw[show stv (bif false then [QU] else [])=[] from rfl,List.append_nil]
  exact .v 0 (k.get 78 rfl) (.v 0 (k.get 162 rfl) (.b 0 hi (.done 2)))
theorem ZIN(hn:ws.length<=100000)(k:Kn L ((78,.str w)::inE v c i)):exs C (iXb.drop 2) ⟨L,inH H fs ws,nx,P⟩=some (.next,⟨L,inH H fs (ws++[w]),nx,P⟩):=by
 have g:=gst hn
 unfold inH
 rw[Wp]
 refine JC.exs' ?_
 exact .v 0 (k.get 162 rfl) (.v 1 (k.get 78 rfl) (.g 1 g (.done 2)))
theorem DX:(stF c a r pr ws).1.length<=4/\(stF c a r pr ws).2.length<=ws.length+1:=by
 have p4:∀ {q:TQ},(J4 c r q).length<=2:=fun {q}=>by
  cases q with
  |A b l=>exact qG _
  |S l =>
   show (bif r.isEmpty then bif c then [] else [W5] else [Uf]).length<=2
   cases r.isEmpty<;>cases c<;>exact qE rfl
  |N l w =>
   show (bif WC r then (bif r.isEmpty&&!c then [Qg] else [])++(bif l.any (w.map lowC==·) then [QU] else []) else []).length<=2
   cases WC r<;>cases (r.isEmpty&&!c)<;>cases l.any (w.map lowC==·)<;>exact qE rfl
 have w1:(wF (Js pr) a).length<=1:=by
  unfold wF
  cases Nat.beq a 60<;>cases Nat.beq a 0<;>exact qE rfl
 unfold stF
 cases Nat.beq a 47 with
 |true=>exact⟨qA (p4 (q:=.S ws)) (show 2<=4 by decide),xD _⟩
 |false =>
  cases Nat.beq a 32 with
  |true=>exact⟨qG _,xD _⟩
  |false =>
   refine⟨?_,?_⟩
   ·show (wF (Js pr) a++J4 c r (.N ws (wd (a::pr)))).length<=4
    rw[List.length_append]
    exact qA (qQ w1 p4) (by decide)
   ·show (wsN r ws (wd (a::pr))).length<=_
    unfold wsN
    cases WC r
    ·exact xD _
    ·exact qV List.length_append
theorem ZB3(hb:v.length<=900)(hA:∀ a∈v,a<128)(hd:v.drop i=a::r)(hp:(v.take i).reverse=pr)(hf:fs.length<=90000)(hn:ws.length<=90000)(k:Kn L (inE v c i)):∃ L',exs C iB ⟨L,inH H fs ws,nx,P⟩=some (.next,⟨L',inH H (fs++(stF c a r pr ws).1) (stF c a r pr ws).2,nx,P⟩)/\Kn L' (inE v c i):=by
 obtain⟨e1,e2,e3⟩:=Jo hd
 have hi:i+1+r.length=v.length:=Ki e3 e2
 obtain⟨L1,h1,k1⟩:=Gw (C:=C) (L:=L) (H:=inH H fs ws) (nx:=nx) (P:=P) hb (xG e3) hd hp k
 have k1:Kn L1 (Uk v c i (bkS pr).length (Js pr) [a]):=k1
 have kk:Kn L1 (inE v c i):=k1.sub vC
 have hf1:fs.length<=100000:=qA hf (by decide)
 rw[Hw,J9 h1]
 by_cases h47:a=47
 ·subst h47
  exact⟨L1,ZIS hf1 hi k1,kk⟩
 by_cases h32:a=32
 ·subst h32
  refine⟨L1,?_,kk⟩
  rw[show (stF c 32 r pr ws).1=[] from rfl,List.append_nil]
  exact ZIT k1
 have ha:=Nx h32 h47
 rw[N8 h32 h47]
 have hi4:exs C i4 ⟨L1,inH H fs ws,nx,P⟩=exs C [iS,.iff iC4 iX []] ⟨L1,inH H fs ws,nx,P⟩:=by
  have t1:tst C iC1 ⟨L1,inH H fs ws,nx,P⟩=some (false,⟨L1,inH H fs ws,nx,P⟩):=by
   refine JC.tst' ?_
   exact .v 0 (k1.get 68 rfl) (.b 0 (neq h47) (.done 2))
  have t2:tst C iC2 ⟨L1,inH H fs ws,nx,P⟩=some (false,⟨L1,inH H fs ws,nx,P⟩):=by
   refine JC.tst' ?_
   exact .v 0 (k1.get 68 rfl) (.done 4)
  have t3:tst C iC3 ⟨L1,inH H fs ws,nx,P⟩=some (true,⟨L1,inH H fs ws,nx,P⟩):=by
   have hn:some (!(([a]:List Nat)==[32]))=some true:=congrArg (fun q=>some (!q)) (xV fun e=>h32 (qS e).1)
   refine JC.tst' ?_
   exact .v 0 (k1.get 68 rfl) (.v 2 (k1.get 68 rfl) (.b 0 hn (.done 2)))
  unfold i4
  rw[Wo t1]
  refine(Wo t2).trans ?_
  exact(XW t3)
 rw[hi4,show [iS,.iff iC4 iX []]=[iS]++[.iff iC4 iX []] from rfl,J9 (ZIQ hf1 k1)]
 have hfw:(fs++wF (Js pr) a).length<=90001:=by
  rw[List.length_append]
  refine qQ (b:=90000) (d:=1) hf ?_
  unfold wF
  cases Nat.beq a 60<;>cases Nat.beq a 0<;>exact qE rfl
 have t4:=fun H=>ZIR (C:=C) (H:=H) (nx:=nx) (P:=P) (mx hb) hi e2 k1
 rw[<- List.append_assoc]
 cases hw:WC r with
 |false =>
  rw[hw] at t4
  refine⟨L1,?_,kk⟩
  rw[show J4 c r (.N ws (wd (a::pr)))=[] by unfold J4;rw[hw];rfl,show wsN r ws (wd (a::pr))=ws by unfold wsN;rw[hw];rfl,List.append_nil]
  exact Wo (t4 _)
 |true =>
  rw[hw] at t4
  obtain⟨L2,h2,k2⟩:=ZIM (C:=C) (H:=inH H (fs++wF (Js pr) a) ws) (nx:=nx) (P:=P) hb hA hd hp ha k1
  refine⟨L2,?_,k2.sub vC⟩
  rw[show J4 c r (.N ws (wd (a::pr)))=(bif r.isEmpty&&!c then [Qg] else [])++dpF ws (wd (a::pr)) by unfold J4;rw[hw];rfl,show wsN r ws (wd (a::pr))=ws++[(wd (a::pr)).map lowC] by unfold wsN;rw[hw];rfl,<- List.append_assoc]
  have hfx:(fs++wF (Js pr) a++bif r.isEmpty&&!c then [Qg] else []).length<=100000:=by
   rw[List.length_append]
   refine qA (qQ (b:=90001) (d:=1) hfw ?_) (by decide)
   cases (r.isEmpty&&!c)<;>exact qE rfl
  refine(XW (t4 _)).trans ?_
  rw[show iX++[]=iXa++(iXb.take 1++((iXb.drop 1 |>.take 1)++iXb.drop 2)) from rfl,J9 h2,J9 (ZIP (qA hfw (by decide)) hi k2),J9 (ZIO hfx k2)]
  exact ZIN (qA hn (by decide)) k2
end
section
variable{C:Ora}{L:List (Nat×Mine.V)}{H:List (Id×Ob)}{nx i a k bk:Nat}{P v r w x pr:List Nat}{c b lt:Bool}{fs ws:List (List Nat)}
def inL(C:Ora):List Mine.V->St->Option (FL×St):=QI (fun v U=>some (U.setLoc 2 v)) (exs C iB)
theorem ZHs{p k:Nat}:plc p (k+1)=.int (p:Int)::plc (p+1) k:=rfl
theorem ZDl(hb:v.length<=900)(hA:∀ a∈v,a<128):∀ (r pr:List Nat) (i:Nat) (fs ws:List (List Nat)) (L:List (Nat×Mine.V)),v.drop i=r->i<=v.length->(v.take i).reverse=pr->fs.length+4*r.length<=90000->ws.length+r.length<=90000->Kn L [(117,.str v),(107,.bool c),(71,.obj (.p 51)),(162,.obj (.p 52)),(3,.int v.length)]->∃ L',inL C (plc i (r.length+1)) ⟨L,inH H fs ws,nx,P⟩=some (.next,⟨L',inH H (fs++(inF c r pr ws).1) (inF c r pr ws).2,nx,P⟩)/\JA L' 71=some (.obj (.p 51))/\JA L' 162=some (.obj (.p 52)):=fun l0=>by
 induction l0 with
 |nil =>
  intro pr i fs ws L hd hi hp hf hw k
  have k1:=k.put 2 (.int i)
  have k1:Kn (put L 2 (.int i)) (inE v c i):=k1.sub vC
  obtain⟨L1,h1,k2⟩:=Gw (C:=C) (H:=inH H fs ws) (nx:=nx) (P:=P) hb hi hd hp k1
  have k2:Kn L1 (Uk v c i (bkS pr).length (Js pr) []):=k2
  have h2:=ZGC (C:=C) (H:=H) (nx:=nx) (P:=P) (ws:=ws) (qA (qA (qK _ _) hf) (by decide)) k2
  have hpl:pr.length=i:=by rw[<- hp,List.length_reverse,List.length_take_of_le hi]
  rw[<- hpl] at h2
  refine⟨L1,?_,k2.get 71 rfl,k2.get 162 rfl⟩
  show bn (exs C iB ⟨put L 2 (.int i),inH H fs ws,nx,P⟩) _=_
  rw[Hw,J9 h1,h2];rfl
 |cons a r ih =>
  intro pr i fs ws L hd hi hp hf hw k
  obtain⟨e1,e2,e3⟩:=Jo hd
  have k1:=k.put 2 (.int i)
  have k1:Kn (put L 2 (.int i)) (inE v c i):=k1.sub vC
  obtain⟨L1,h1,k2⟩:=ZB3 (C:=C) (H:=H) (nx:=nx) (P:=P) hb hA hd hp (qA (qK _ _) hf) (qA (qK _ _) hw) k1
  obtain⟨s1,s2⟩:=DX (c:=c) (a:=a) (r:=r) (pr:=pr) (ws:=ws)
  have hp':(v.take (i+1)).reverse=a::pr:=by rw[List.take_add_one,e1,<- hp];exact List.reverse_append
  obtain⟨L2,h2,h3⟩:=ih (a::pr) (i+1) (fs++(stF c a r pr ws).1) (stF c a r pr ws).2 L1 e2 e3 hp' (by
    rw[List.length_append,Nat.add_assoc]
    refine qA (qI ?_ _) hf
    rw[List.length_cons,Nat.mul_succ,Nat.add_comm]
    exact qI s1 _) (by
    refine qA (qO s2 _) ?_
    rw[Nat.add_assoc,Nat.add_comm 1];exact hw)
   (k2.sub [117,107,71,162,3])
  refine⟨L2,?_,h3⟩
  rw[List.length_cons,ZHs]
  show bn (exs C iB ⟨put L 2 (.int i),inH H fs ws,nx,P⟩) _=_
  rw[h1]
  refine h2.trans ?_
  rw[List.append_assoc];rfl
theorem Xi{j:Id}:∀ l:List (List Nat),V.nos j (stv l)=true:=fun l0=>by
 induction l0 with
 |nil =>
  exact rfl
 |cons _ l ih =>
  exact ih
theorem ZD0{it:ME}{bd:List MS}{y:Nat}{U:St}(he:ev C it U=some (.rng 0 (k:Int),U))(hk:k<=1000):exc C (.for y it bd) U=QI (fun v U=>some (U.setLoc y v)) (exs C bd) (plc 0 k) U:=by
 show bn (ev C it U) _=_
 rw[he]
 show bo (gd (Qn 0&&Qn (k:Int)) (some ((List.range ((k:Int)-0).toNat).map fun (i:Nat)=>Mine.V.int (0+(i:Int))))) _=_
 rw[ZC2 hk,ZFW];rfl
def CIn(C:Ora):Ora:=YT 51 (YT 52 (WX tT C))
theorem ZBQ(h1:Cln 51 L H P)(h2:Cln 52 L H P)(hb:v.length<=900)(hA:∀ a∈v,a<128):CIn C 72 [.str v,.bool c] ⟨L,H,nx,P⟩=some (.tup [.list (stv (inF c v [] []).1),.list (stv (inF c v [] []).2)],⟨L,H,nx,P⟩):=by
 obtain⟨L',e,g1,g2⟩:=ZDl (C:=C) (H:=H) (nx:=nx) (P:=52::51::P) (c:=c) hb hA v [] 0 [] [] [(117,.str v),(107,.bool c),(71,.obj (.p 51)),(162,.obj (.p 52)),(3,.int v.length)] rfl (qG _) rfl (by
  rw[List.length_nil,Nat.zero_add];exact qA (xB 4 hb) (by decide)) (by
  rw[List.length_nil,Nat.zero_add];exact qA hb (by decide)) (fun J J h=>h)
 have hb2:exs C XQ.body ⟨[(117,.str v),(107,.bool c)],H,nx,P⟩=some (.ret (.tup [.obj (.p 51),.obj (.p 52)]),⟨L',inH H (inF c v [] []).1 (inF c v [] []).2,nx,52::51::P⟩):=by
  have a1:=KR (L:=[(117,.str v),(107,.bool c)]) (H:=H) (nx:=nx) (o:=.list []) h1.p
  have a2:=KR (k:=52) (P:=51::P) (L:=[(117,.str v),(107,.bool c),(71,.obj (.p 51))]) (H:=(.p 51,.list [])::H) (nx:=nx) (o:=.list []) (fun q=>(List.mem_cons.mp q).elim (by decide) h2.p)
  have he:ev C (.bi .range [(.bop .add (.loc 3) (.k (.int 1)))]) ⟨[(117,.str v),(107,.bool c),(71,.obj (.p 51)),(162,.obj (.p 52)),(3,.int v.length)],inH H [] [],nx,52::51::P⟩=some (.rng 0 ((v.length+1:Nat):Int),⟨[(117,.str v),(107,.bool c),(71,.obj (.p 51)),(162,.obj (.p 52)),(3,.int v.length)],inH H [] [],nx,52::51::P⟩):=by
   refine JC.ev ?_
   exact .done 3
  have h0:exs C [.asg 71 (.lst [] (.per 51)),.asg 162 (.lst [] (.per 52)),.asg 3 (.bi .len [(.loc 117)])] ⟨[(117,.str v),(107,.bool c)],H,nx,P⟩=some (.next,⟨[(117,.str v),(107,.bool c),(71,.obj (.p 51)),(162,.obj (.p 52)),(3,.int v.length)],inH H [] [],nx,52::51::P⟩):=by
   refine JC.exs ?_
   exact .c 0 a1 (.c 0 a2 (.v 0 (QL (mx hb)) (.done 1)))
  have h3:exs C [.ret (.tup [(.loc 71),(.loc 162)])] ⟨L',inH H (inF c v [] []).1 (inF c v [] []).2,nx,52::51::P⟩=some (.ret (.tup [.obj (.p 51),.obj (.p 52)]),⟨L',inH H (inF c v [] []).1 (inF c v [] []).2,nx,52::51::P⟩):=by
   refine JC.exs' ?_
   exact .v 0 g1 (.v 0 g2 (.done 1))
  rw[ZBR]
  refine(J9 (s:=[.asg 71 (.lst [] (.per 51)),.asg 162 (.lst [] (.per 52)),.asg 3 (.bi .len [(.loc 117)])]) h0).trans ((ZDy ((ZD0 he (qA (qJ hb) (by decide:901<=1000))).trans e)).trans h3)
 show gd (decide (51∉P)) (bn (gd (decide (52∉P)) (bn (Qx C XQ [.str v,.bool c] ⟨L,H,nx,P⟩) (UP 52))) (UP 51))=_
 rw[decide_eq_true h1.p,decide_eq_true h2.p,cB (m:=XQ) (as:=[.str v,.bool c]) rfl hb2]
 have hh:∀ w,Q2 (.p 52) w ((.p 51,.list (stv (inF c v [] []).1))::H)=(.p 51,.list (stv (inF c v [] []).1))::H:=fun w=>by
  show (Id.p 51,Ob.list (V.sbs (.p 52) w (stv (inF c v [] []).1)))::Q2 (.p 52) w H=_
  rw[V.sbs_no _ (Xi _),h2.h]
 show bn (UP 52 _ ⟨L,(.p 52,.list (stv (inF c v [] []).2))::(.p 51,.list (stv (inF c v [] []).1))::H,nx,52::51::P⟩) (UP 51)=_
 rw[OR ⟨h2.l,hh,h2.o,fun q=>(List.mem_cons.mp q).elim (by decide) h2.p⟩ (Xi _)]
 show UP 51 (.tup [.obj (.p 51),.list (stv (inF c v [] []).2)]) ⟨L,(.p 51,.list (stv (inF c v [] []).1))::H,nx,51::P⟩=_
 rw[OR h1 (Xi _)]
 show some (Mine.V.tup [.list (stv (inF c v [] []).1),.list (V.sbs (.p 51) _ (stv (inF c v [] []).2))],_)=_
 rw[V.sbs_no _ (Xi _)]
end
def Qo(wd l:List Nat):Bool:=((l.take wd.length).map lowC==wd)&&J2 (l.drop wd.length)
section
variable{C:Ora}{L:List (Nat×Mine.V)}{H:List (Id×Ob)}{nx p a c:Nat}{P tx r w x m q wd:List Nat}{o:Option (List Nat)}
theorem ZDV:∀ a∈al,JJ.any (·==lowC a)=pL a:=JE (by kernel_rfl)
theorem ZCN(h:pL a=true):J2 (a::w)=false:=by
 cases e:J2 (a::w) with
 |false=>rfl
 |true=>exact GD e fun a' t e' h'=>absurd ((qS e').1▸h) (by rw[h'];exact Bool.noConfusion)
theorem Ds:∀ (q w:List Nat),(∀ c∈q,c∈JJ)->(∀ a∈w,a∈al)->Qo q w=((ltr w).map lowC==q&&J2 (JG w)):=by
 intro q
 induction q with
 |nil =>
  intro w _ ha
  cases w with
  |nil=>rfl
  |cons a w =>
   cases hp:pL a with
   |true =>
    rw[Wt hp]
    show (true&&J2 (a::w))=(false&&_)
    rw[ZCN hp];rfl
   |false=>rw[Ql hp,UY hp];rfl
 |cons c q ih0 =>
  intro w hq ha
  cases w with
  |nil=>rfl
  |cons a w =>
   have ih:=ih0 w (fun c h=>hq c (.tail _ h)) fun a h=>ha a (.tail _ h)
   have e:Qo (c::q) (a::w)=((lowC a==c)&&Qo q w):=by
    show (((lowC a==c)&&((w.take q.length).map lowC==q))&&J2 (w.drop q.length))=_
    rw[Bool.and_assoc];rfl
   rw[e]
   cases hp:pL a with
   |true =>
    rw[Wt hp,Xd hp,ih]
    show _=(((lowC a==c)&&((ltr w).map lowC==q))&&J2 (JG w))
    rw[Bool.and_assoc]
   |false =>
    rw[Ql hp]
    have hl:=(ZDV a (ha a (.head _))).trans hp
    have hc:(lowC a==c)=false:=xV fun q'=>by
     have hm:=List.any_eq_false.mp hl c (hq c (.head _))
     exact hm (beq_iff_eq.mpr q'.symm)
    rw[hc];rfl
theorem Xm(hq:∀ c∈q,c∈JJ)(ha:∀ a∈w,a∈al):Qo (60::47::q) w=(Jt (some q) w).isSome:=by
 cases w with
 |nil=>rfl
 |cons a w =>
  by_cases h6:a=60
  ·subst h6
   cases w with
   |nil=>rfl
   |cons b w =>
    by_cases h4:b=47
    ·subst h4
     have e:=Ds q w hq fun a h=>ha a (.tail _ (.tail _ h))
     show Qo q w=(bif JM (some q) [] w then some w else none).isSome
     rw[e]
     show _=(bif ((ltr w).map lowC==q)&&J2 (JG w) then some w else none).isSome
     cases ((ltr w).map lowC==q)&&J2 (JG w)<;>rfl
    ·have hf:Jt (some q) (60::b::w)=none:=K8 fun w q=>h4 (qS q).1
     have hb:∀ b∈al,(b==47||!(lowC b==47))=true:=JE (by kernel_rfl)
     have hb:=hb b (ha b (.tail _ (.head _)))
     rw[xV h4] at hb
     have hb:(lowC b==47)=false:=by
      cases e:lowC b==47 with
      |false=>rfl
      |true=>rw[e] at hb;exact Bool.noConfusion hb
     rw[hf]
     show ((true&&((lowC b==47)&&_))&&_)=false
     rw[hb];rfl
  ·have hf:Jt (some q) (a::w)=none:=Nf h6
   have hb:∀ b∈al,(b==60||!(lowC b==60))=true:=JE (by kernel_rfl)
   have hb:=hb a (ha a (.head _))
   rw[xV h6] at hb
   have hb:(lowC a==60)=false:=by
    cases e:lowC a==60 with
    |false=>rfl
    |true=>rw[e] at hb;exact Bool.noConfusion hb
   rw[hf]
   show (((lowC a==60)&&_)&&_)=false
   rw[hb];rfl
end
section
variable{C:Ora}{L:List (Nat×Mine.V)}{H:List (Id×Ob)}{nx p a c:Nat}{P tx r w x m q wd:List Nat}{o:Option (List Nat)}
theorem ZDT(hb:tx.length<=900)(ha:∀ a∈tx,a∈al)(hw:wd.length<=900):WX tT C 92 [.str tx,.int p,.str wd] ⟨L,H,nx,P⟩=some (.bool (Qo wd (tx.drop p)),⟨L,H,nx,P⟩):=by
 have hbm:tx.length<=JB:=mx hb
 have h1:slV σ0 (.str tx) (.int p) (.int (p+wd.length:Nat))=some (.str ((tx.drop p).take wd.length)):=by
  rw[Xj p (p+wd.length) rfl rfl hbm,Nat.add_sub_cancel_left]
 have h2:slV σ0 (.str tx) (.int (p+wd.length:Nat)) (.int (p+wd.length+1:Nat))=some (.str (((tx.drop p).drop wd.length).take 1)):=by
  rw[Xj (p+wd.length) _ rfl rfl hbm,<- List.drop_drop,Nat.add_sub_cancel_left]
 have hl:((tx.drop p).take wd.length).length<=1000:=qA (List.length_take_le ..) (qA hw (by decide))
 have lo:=Yp (b:=(tx.drop p).take wd.length) (fun a h=>IK ha a (List.mem_of_mem_drop (List.mem_of_mem_take h))) hl
 have i3:=in3 (x:=(tx.drop p).drop wd.length)
 show Qx C KI [.str tx,.int p,.str wd] ⟨L,H,nx,P⟩=_
 refine cB (m:=KI) (as:=[.str tx,.int p,.str wd]) rfl (U':=⟨[(1,.str tx),(2,.int p),(78,.str wd),(165,.int (p+wd.length:Nat))],H,nx,P⟩) (JC.exs' ?_)
 by_cases hc:((tx.drop p).take wd.length).map lowC=wd
 ·unfold Qo
  rw[beq_iff_eq.mpr hc]
  exact .v 2 (QL (mx hw)) (.v 4 h1 (.v 0 lo (.b 1 (ZJT hc) (.v 5 h2 (.b 0 i3 (.done 1))))))
 ·unfold Qo
  rw[xV hc]
  exact .v 2 (QL (mx hw)) (.v 4 h1 (.v 0 lo (.b 1 (ZJS hc) (.done 2))))
end
noncomputable def dnD(d a:Nat):Nat:=bif Nat.beq a 45 then (bif Nat.beq d 0 then 1 else 2) else 0
noncomputable def Jj:List Nat->Nat->Option Nat
 |[],_=>none
 |a::r,d=>bif Nat.beq a 62&&Nat.beq d 2 then some 1 else (Jj r (dnD d a)).map (·+1)
noncomputable def fv(k:Nat):Option Nat->Int
 |none=>-1
 |some j=>((k+j:Nat):Int)-3
noncomputable def ddd:List Nat:=[45,45,62]
section
variable{a d i k:Nat}{r:List Nat}{o:Option Nat}
theorem ZM:fv k (o.map (·+1))=fv (k+1) o:=by
 cases o with
 |none=>rfl
 |some j =>
  show ((k+(j+1):Nat):Int)-3=((k+1+j:Nat):Int)-3
  rw[Nat.add_assoc,Nat.add_comm 1]
theorem WY(h:Jc ddd (a::r)=false):Jv ddd (a::r) i=Jv ddd r (i+1):=by
 show (if Jc ddd (a::r) then (i:Int) else Jv ddd r (i+1))=_
 rw[h];rfl
theorem NS(h:a≠45):Jc ddd (a::r)=false:=by
 show ((45==a)&&_)=false
 rw[xV h.symm];rfl
theorem Dj(h:a≠45):Jc ddd (45::a::r)=false:=by
 show (true&&((45==a)&&_))=false
 rw[xV h.symm];rfl
theorem Di(h:a≠62):Jc ddd (45::45::a::r)=false:=by
 show (true&&(true&&((62==a)&&_)))=false
 rw[xV h.symm];rfl
theorem ZCD:∀ (r:List Nat) (i:Nat),Jv ddd r i=fv i (Jj r 0)/\Jv ddd (45::r) i=fv (i+1) (Jj r 1)/\Jv ddd (45::45::r) i=fv (i+2) (Jj r 2):=fun l0=>by
 induction l0 with
 |nil =>
  exact fun i=>⟨rfl,rfl,rfl⟩
 |cons a r ih =>
  intro i
  have e0:Jj (a::r) 0=(Jj r (dnD 0 a)).map (·+1):=by
   show (bif Nat.beq a 62&&false then _ else _)=_
   rw[Bool.and_false];rfl
  have e1:Jj (a::r) 1=(Jj r (dnD 1 a)).map (·+1):=by
   show (bif Nat.beq a 62&&false then _ else _)=_
   rw[Bool.and_false];rfl
  rw[e0,e1,ZM,ZM]
  by_cases h:a=45
  ·subst h
   refine⟨(ih i).2.1,(ih i).2.2,?_⟩
   rw[WY (Di (by decide)),(ih (i+1)).2.2,show Jj (45::r) 2=(Jj r 2).map (·+1) from rfl,ZM]
  ·have ed:∀ d,dnD d a=0:=fun d=>by unfold dnD;rw[Ja h];rfl
   rw[ed,ed]
   refine⟨?_,?_,?_⟩
   ·rw[WY (NS h),(ih (i+1)).1]
   ·rw[WY (Dj h),WY (NS h),(ih (i+1+1)).1]
   ·by_cases h6:a=62
    ·subst h6
     show (i:Int)=((i+2+1:Nat):Int)-3
     exact(Int.add_sub_cancel (i:Int) 3).symm
    ·rw[WY (Di h6),WY (Dj h),WY (NS h),(ih (i+1+1+1)).1]
     have e2:Jj (a::r) 2=(Jj r (dnD 2 a)).map (·+1):=by
      show (bif Nat.beq a 62&&true then _ else _)=_
      rw[Ja h6];rfl
     rw[e2,ed,ZM]
end
noncomputable def mo(tw:Bool)(d:Nat):Nat:=bif tw then (bif Nat.beq d 0 then 87 else bif Nat.beq d 1 then 88 else 90) else bif Nat.beq d 0 then 83 else bif Nat.beq d 1 then 81 else 80
def tog(tw:Bool)(a:Nat)(r:List Nat):Bool:=Nat.beq a 60&&bif tw then (Ju scr r).isSome else JM scr [] r
section
variable{a d i k:Nat}{r:List Nat}{o:Option Nat}{tw:Bool}{n:Option (List Nat)}
theorem Zi(hd:d∈[0,1,2]):nxM (mo tw d) a r=bif Nat.beq a 62&&Nat.beq d 2 then 77 else mo (tw != tog tw a r) (dnD d a):=by
 by_cases h5:a=45
 ·subst h5
  rcases List.mem_cons.mp hd with rfl |hd
  ·cases tw<;>rfl
  rcases Jm hd with rfl |rfl<;>cases tw<;>rfl
 by_cases h2:a=62
 ·subst h2
  rcases List.mem_cons.mp hd with rfl |hd
  ·cases tw<;>rfl
  rcases Jm hd with rfl |rfl<;>cases tw<;>rfl
 by_cases h0:a=60
 ·subst h0
  have t0:tog false 60 r=JM scr [] r:=rfl
  have t1:tog true 60 r=(Ju scr r).isSome:=rfl
  cases tw with
  |false =>
   have e:nxM (mo false d) 60 r=bif JM scr [] r then 87 else 83:=by
    rcases List.mem_cons.mp hd with rfl |hd
    ·rfl
    rcases Jm hd with rfl |rfl<;>rfl
   rw[e,t0]
   cases JM scr [] r<;>rfl
  |true =>
   have e:nxM (mo true d) 60 r=bif (Ju scr r).isSome then 83 else 87:=by
    rcases List.mem_cons.mp hd with rfl |hd
    ·rfl
    rcases Jm hd with rfl |rfl<;>rfl
   rw[e,t1]
   cases (Ju scr r).isSome<;>rfl
 ·unfold nxM tog dnD
  rw[Ja h5,Ja h2,Ja h0]
  rcases List.mem_cons.mp hd with rfl |hd
  ·cases tw<;>rfl
  rcases Jm hd with rfl |rfl<;>cases tw<;>rfl
theorem H9:dnD d a∈[0,1,2]:=by
 unfold dnD
 cases Nat.beq a 45
 ·exact .head _
 ·cases Nat.beq d 0
  ·exact .tail _ (.tail _ (.head _))
  ·exact .tail _ (.head _)
theorem Xn(hd:d∈[0,1,2]):isD (mo tw d)=tw:=by
 rcases List.mem_cons.mp hd with rfl |hd
 ·cases tw<;>rfl
 rcases Jm hd with rfl |rfl<;>cases tw<;>rfl
noncomputable def spL(n:Option (List Nat)):Nat->List Nat->Bool->Option Nat×Bool
 |0,_,tw=>(none,tw)
 |_+1,[],tw=>(none,tw)
 |k+1,a::r,tw=>bif !tw&&(Jt n (a::r)).isSome then (some 0,tw) else ((spL n k r (tw != tog tw a r)).1.map (·+1),(spL n k r (tw != tog tw a r)).2)
noncomputable def spD(x:Option Nat×Bool):Bool:=x.1.isNone&&x.2
theorem N9:spL n (k+1) (a::r) tw=bif !tw&&(Jt n (a::r)).isSome then (some 0,tw) else ((spL n k r (tw != tog tw a r)).1.map (·+1),(spL n k r (tw != tog tw a r)).2):=rfl
theorem G0(hd:d∈[0,1,2])(h:(!tw&&(Jt n r).isSome)=false):JQ n (mo tw d) r=none:=by
 unfold JQ
 rw[Xn hd]
 cases tw with
 |true=>rfl
 |false =>
  show Jt n r=none
  cases e:Jt n r with
  |none=>rfl
  |some w=>rw[e] at h;exact Bool.noConfusion h
theorem D6(hd:d∈[0,1,2])(h:(!tw&&(Jt n r).isSome)=true):tw=false/\∃ w,JQ n (mo tw d) r=some w:=by
 unfold JQ
 rw[Xn hd]
 cases tw with
 |true=>exact Bool.noConfusion h
 |false =>
  refine⟨rfl,?_⟩
  show ∃ w,Jt n r=some w
  cases e:Jt n r with
  |none=>rw[e] at h;exact Bool.noConfusion h
  |some w=>exact⟨w,rfl⟩
theorem ZGF(o:Option Nat):(o.map (·+1)).getD (k+1)=o.getD k+1:=by cases o<;>rfl
theorem ZHb(x:Option Nat×Bool):spD (x.1.map (·+1),x.2)=spD x:=by
 obtain⟨o,b⟩:=x
 cases o<;>rfl
theorem ZHX:∀ (r:List Nat) (tw:Bool) (d:Nat),d∈[0,1,2]->Jj r d=none->JL n r (mo tw d)=(spL n r.length r tw).1.getD r.length/\isD (JU n r (mo tw d))=spD (spL n r.length r tw):=fun l0=>by
 induction l0 with
 |nil =>
  exact fun tw d hd J=>⟨rfl,Xn hd⟩
 |cons a r ih =>
  intro tw d hd hs
  show JL n (a::r) (mo tw d)=(spL n (r.length+1) (a::r) tw).1.getD (r.length+1)/\isD (JU n (a::r) (mo tw d))=spD (spL n (r.length+1) (a::r) tw)
  rw[N9]
  cases hc:!tw&&(Jt n (a::r)).isSome with
  |true =>
   obtain⟨rfl,w,hw⟩:=D6 (d:=d) hd hc
   rw[W1 hw,Xo hw,Xn hd]
   exact⟨rfl,rfl⟩
  |false =>
   have hn:=G0 (d:=d) hd hc
   have hs:(bif Nat.beq a 62&&Nat.beq d 2 then some 1 else (Jj r (dnD d a)).map (·+1))=none:=hs
   cases hq:Nat.beq a 62&&Nat.beq d 2 with
   |true=>rw[hq] at hs;exact nomatch hs
   |false =>
    rw[hq] at hs
    have hs:(Jj r (dnD d a)).map (·+1)=none:=hs
    have hs:Jj r (dnD d a)=none:=by
     cases e:Jj r (dnD d a) with
     |none=>rfl
     |some j=>rw[e] at hs;exact nomatch hs
    obtain⟨h1,h2⟩:=ih (tw != tog tw a r) (dnD d a) H9 hs
    rw[Qv hn,Q5 hn,Zi hd,hq]
    show JL n r (mo (tw != tog tw a r) (dnD d a))+1=_/\isD (JU n r (mo (tw != tog tw a r) (dnD d a)))=_
    rw[h1,h2]
    exact⟨(ZGF _).symm,(ZHb _).symm⟩
end
noncomputable def spX(x:Option Nat×Bool)(y:Bool):Bool:=bif x.1.isSome then false else y
section
variable{a d i k j e:Nat}{r:List Nat}{o:Option Nat}{tw y:Bool}{n:Option (List Nat)}
theorem N5(h:(Nat.beq a 62&&Nat.beq d 2)=false):Jj (a::r) d=(Jj r (dnD d a)).map (·+1):=by
 show (bif Nat.beq a 62&&Nat.beq d 2 then some 1 else (Jj r (dnD d a)).map (·+1))=_
 rw[h];rfl
theorem ZIk:dnD d a<=d+1:=by
 unfold dnD
 cases Nat.beq a 45
 ·exact qG _
 ·cases d with
  |zero=>exact qF _
  |succ d=>exact qJ (qJ (qG d))
theorem Kb{P:Prop}(h:o.map (·+1)=some j)(k:∀ i,o=some i->j=i+1->P):P:=by
 cases o with
 |none=>exact nn h
 |some i=>exact k i rfl (Option.some.inj h).symm
theorem ZE4:∀ (r:List Nat) (d j:Nat),Jj r d=some j->3<=j+d:=fun l0=>by
 induction l0 with
 |nil =>
  exact fun J J h=>nn h
 |cons a r ih =>
  intro d j h
  cases hq:Nat.beq a 62&&Nat.beq d 2 with
  |true =>
   have h2:some 1=some j:=(show (bif Nat.beq a 62&&Nat.beq d 2 then some 1 else _)=some j from h) |> fun q=>by rw[hq] at q;exact q
   cases h2
   exact bA hq fun J q=>by cases Nat.eq_of_beq_eq_true q;exact qF _
  |false =>
   rw[N5 hq] at h
   exact Kb h fun i hi e=>by
    subst e
    have h3:=ih _ i hi
    exact qA h3 (qA (qI ZIk i) (by rw[Nat.add_right_comm];exact qF _))
theorem ZHZ(x:Option Nat×Bool):spX (x.1.map (·+1),x.2) y=spX x y:=by
 obtain⟨o,b⟩:=x
 cases o<;>rfl
theorem ZGE(o:Option Nat):(o.map (·+1)).getD (j+1+e)=o.getD (j+e)+1:=by
 cases o with
 |none=>exact Nat.add_right_comm ..
 |some _=>rfl
theorem ZE6:∀ (r:List Nat) (tw:Bool) (d j:Nat),d∈[0,1,2]->Jj r d=some j->JL n r (mo tw d)=(spL n (j-3) r tw).1.getD (j+JL n (r.drop j) 77)/\isD (JU n r (mo tw d))=spX (spL n (j-3) r tw) (isD (JU n (r.drop j) 77)):=fun l0=>by
 induction l0 with
 |nil =>
  exact fun J J J J h=>nn h
 |cons a r ih =>
  intro tw d j hd hs
  cases hq:Nat.beq a 62&&Nat.beq d 2 with
  |true =>
   have h2:some 1=some j:=(show (bif Nat.beq a 62&&Nat.beq d 2 then some 1 else _)=some j from hs) |> fun q=>by rw[hq] at q;exact q
   cases h2
   have h6:a≠60:=bA hq fun q J=>by cases Nat.eq_of_beq_eq_true q;decide
   have hn:JQ n (mo tw d) (a::r)=none:=Jw h6
   rw[Qv hn,Q5 hn,Zi hd,hq]
   exact⟨Nat.add_comm _ _,rfl⟩
  |false =>
   rw[N5 hq] at hs
   refine Kb hs fun i hi e=>?_
   subst e
   obtain⟨h1,h2⟩:=ih (tw != tog tw a r) (dnD d a) i H9 hi
   have go:∀ {P:Prop},(JQ n (mo tw d) (a::r)=none->P)->(JQ n (mo tw d) (a::r)=none)->P:=fun f x=>f x
   by_cases h3:3<=i
   ·rw[Nat.succ_sub h3]
    show JL n (a::r) (mo tw d)=(spL n ((i-3)+1) (a::r) tw).1.getD (i+1+JL n (r.drop i) 77)/\isD (JU n (a::r) (mo tw d))=spX (spL n ((i-3)+1) (a::r) tw) (isD (JU n (r.drop i) 77))
    rw[N9]
    cases hc:!tw&&(Jt n (a::r)).isSome with
    |true =>
     obtain⟨rfl,w,hw⟩:=D6 (d:=d) hd hc
     rw[W1 hw,Xo hw,Xn hd]
     exact⟨rfl,rfl⟩
    |false =>
     have hn:=G0 (d:=d) hd hc
     rw[Qv hn,Q5 hn,Zi hd,hq]
     show JL n r (mo (tw != tog tw a r) (dnD d a))+1=_/\isD (JU n r (mo (tw != tog tw a r) (dnD d a)))=_
     rw[h1,h2]
     exact⟨(ZGE _).symm,(ZHZ _).symm⟩
   ·have h4:i+1-3=0:=Nat.sub_eq_zero_of_le (Nat.not_le.mp h3)
    have h5:i-3=0:=Nat.sub_eq_zero_of_le (xG (Nat.not_le.mp h3))
    have ha:a≠60:=fun q=>by
     subst q
     exact h3 (ZE4 r _ i hi)
    have hn:JQ n (mo tw d) (a::r)=none:=Jw ha
    rw[h5] at h1 h2
    rw[h4,Qv hn,Q5 hn,Zi hd,hq]
    show JL n r (mo (tw != tog tw a r) (dnD d a))+1=i+1+JL n (r.drop i) 77/\isD (JU n r (mo (tw != tog tw a r) (dnD d a)))=isD (JU n (r.drop i) 77)
    rw[h1,h2]
    exact⟨Nat.add_right_comm ..,rfl⟩
end
section
variable{a m:Nat}{r:List Nat}{n:Option (List Nat)}
theorem ND(hm:m∈[74,76,79])(h33:m=74->a≠33)(h45:m≠74->a≠45):JL n (a::r) m=JL n (a::r) 77/\isD (JU n (a::r) m)=isD (JU n (a::r) 77):=by
 have hD:isD m=isD 77:=by
  rcases List.mem_cons.mp hm with rfl |hm
  ·rfl
  rcases Jm hm with rfl |rfl<;>rfl
 rw[ZO,ZO,ZP,ZP,K9 hm,Kv hm h33 h45]
 cases JQ n 77 (a::r) with
 |none=>exact⟨rfl,rfl⟩
 |some w=>exact⟨rfl,hD⟩
theorem Nh(hm:m∈[74,76,79]):JL n [] m=JL n [] 77/\isD (JU n [] m)=isD (JU n [] 77):=by
 rcases List.mem_cons.mp hm with rfl |hm
 ·exact⟨rfl,rfl⟩
 rcases Jm hm with rfl |rfl<;>exact⟨rfl,rfl⟩
theorem ZC1(hf:JQ n 77 (a::r)=none)(hc:(a::r).take 4≠w6):JL n (a::r) 77=JL n r 77+1/\isD (JU n (a::r) 77)=isD (JU n r 77):=by
 rw[Qv hf,Q5 hf]
 by_cases h:a=60
 ·subst h
  show JL n r 74+1=_/\isD (JU n r 74)=_
  have hP:JL n r 74=JL n r 77/\isD (JU n r 74)=isD (JU n r 77):=by
   cases r with
   |nil=>exact Nh (by decide)
   |cons b r =>
    by_cases hb:b=33
    ·subst hb
     rw[Qv (Jw (by decide)),Q5 (Jw (by decide)),Qv (Jw (by decide)),Q5 (Jw (by decide))]
     show JL n r 76+1=JL n r 77+1/\isD (JU n r 76)=isD (JU n r 77)
     have hP:JL n r 76=JL n r 77/\isD (JU n r 76)=isD (JU n r 77):=by
      cases r with
      |nil=>exact Nh (by decide)
      |cons c r =>
       by_cases hc':c=45
       ·subst hc'
        rw[Qv (Jw (by decide)),Q5 (Jw (by decide)),Qv (Jw (by decide)),Q5 (Jw (by decide))]
        show JL n r 79+1=JL n r 77+1/\isD (JU n r 79)=isD (JU n r 77)
        have hP:JL n r 79=JL n r 77/\isD (JU n r 79)=isD (JU n r 77):=by
         cases r with
         |nil=>exact Nh (by decide)
         |cons d r=>exact ND (by decide) (fun q=>absurd q (by decide)) fun J q=>hc (by rw[q];rfl)
        exact⟨congrArg (·+1) hP.1,hP.2⟩
       ·exact ND (by decide) (fun q=>absurd q (by decide)) fun J=>hc'
     exact⟨congrArg (·+1) hP.1,hP.2⟩
    ·exact ND (by decide) (fun J=>hb) fun q=>absurd rfl q
  exact⟨congrArg (·+1) hP.1,hP.2⟩
 ·have e:nxM 77 a r=77:=by
   show (bif Nat.beq a 60 then 74 else 77)=77
   rw[Ja h];rfl
  rw[e];exact⟨rfl,rfl⟩
theorem Wm:JL n (60::33::45::45::r) 77=JL n r (mo false 2)+4/\JU n (60::33::45::45::r) 77=JU n r (mo false 2):=⟨rfl,rfl⟩
end
section
variable{a m:Nat}{r w:List Nat}{n:Option (List Nat)}
theorem Bz:∀ c∈QT,c∈JJ:=by decide
theorem ZDP(ha:∀ x∈a::r,x∈al):Qo (60::47::QT) (a::r)=tog true a r:=by
 rw[Xm Bz ha]
 show (bif Nat.beq a 60 then Ju scr r else none).isSome=(Nat.beq a 60&&(Ju scr r).isSome)
 cases Nat.beq a 60<;>rfl
theorem ZDQ(ha:∀ x∈a::r,x∈al):Qo (60::QT) (a::r)=tog false a r:=by
 have e:=Ds QT r Bz fun x h=>ha x (.tail _ h)
 have eS:Qo (60::QT) (a::r)=((lowC a==60)&&Qo QT r):=by
  show (((lowC a==60)&&((r.take QT.length).map lowC==QT))&&J2 (r.drop QT.length))=_
  rw[Bool.and_assoc];rfl
 have hb:∀ b∈al,(lowC b==60)=Nat.beq b 60:=JE (by kernel_rfl)
 rw[eS,e,hb a (ha a (.head _))];rfl
end
def spB:List MS:=[.iff (.and (.not (.loc 179)) (.call 92 [(.loc 1),(.loc 180),(.loc 78)])) [.ret (.tup [(.loc 180),(.k (.bool false))])] [],
      .iff (.call 92 [(.loc 1),(.loc 180),(.ite (.loc 179) (.k (.str w8)) (.k (.str vD)))]) [.asg 179 (.not (.loc 179))] []]
noncomputable def enT:ME:=.cmp .lt (.loc 2) (.bi .len [(.loc 1)])
noncomputable def en0:MS:=.iff (.call 92 [(.loc 1),(.loc 2),(.loc 78)]) [.ret (.tup [(.loc 2),(.k (.bool false))])] []
def enY:List MS:=[.asg 165 (.sm .find (.loc 1) [(.k (.str [45,45,62])),(.bop .add (.loc 2) (.k (.int 2)))]),
      .iff (.cmp .lt (.loc 165) (.k (.int 0))) [.asg 165 (.bi .len [(.loc 1)])] [],
      .asg 179 (.k (.bool false)),
      .for 180 (.bi .range [(.bop .add (.loc 2) (.k (.int 4))),(.loc 165)]) spB,
      .iff (.cmp .eq (.loc 165) (.bi .len [(.loc 1)])) [.ret (.tup [(.loc 165),(.loc 179)])] [],
      .asg 2 (.bop .add (.loc 165) (.k (.int 3)))]
def enB:List MS:=[en0,.iff (.cmp .ne (.sl (.loc 1) (.loc 2) (.bop .add (.loc 2) (.k (.int 4)))) (.k (.str w6))) [.augN 2 .add (.k (.int 1))] enY]
noncomputable def spE(tx q:List Nat)(i:Nat)(tw:Bool):List (Nat×Mine.V):=[(1,.str tx),(78,.str (60::47::q)),(165,.int i),(179,.bool tw)]
noncomputable def spR(p:Nat):Option Nat->FL
 |none=>.next
 |some i=>.ret (.tup [.int (p+i:Nat),.bool false])
section
variable{C:Ora}{L:List (Nat×Mine.V)}{H:List (Id×Ob)}{nx p a i j n:Nat}{P tx r w q:List Nat}{tw:Bool}{o:Option Nat}
theorem wl(hl:q.length<=800):(60::47::q).length<=900:=qA (qO hl 2) (by decide)
theorem Wz(hb:tx.length<=900)(ha:∀ a∈tx,a∈al)(hw:w.length<=900)(hd:tx.drop p=r)(e:Qo w r=tw):JH tT (n+1) 92 [.str tx,.int p,.str w] ⟨L,H,nx,P⟩=some (.bool tw,⟨L,H,nx,P⟩):=by
 subst hd e
 exact ZDT (C:=JH tT n) hb ha hw
theorem XM(ha:∀ a∈tx,a∈al)(hd:tx.drop p=r):∀ x∈r,x∈al:=fun x h=>ha x (List.mem_of_mem_drop (hd▸h:x∈tx.drop p))
theorem ZJO(hb:tx.length<=900)(ha:∀ a∈tx,a∈al)(hq:∀ c∈q,c∈JJ)(hl:q.length<=800)(hd:tx.drop p=r)(k:Kn L [(1,.str tx),(78,.str (60::47::q)),(179,.bool false),(180,.int p)])(hf:(Jt (some q) r).isSome=true):exs (JH tT (n+1)) spB ⟨L,H,nx,P⟩=some (.ret (.tup [.int p,.bool false]),⟨L,H,nx,P⟩):=by
 have m1:=Wz (n:=n) (L:=L) (H:=H) (nx:=nx) (P:=P) (w:=60::47::q) hb ha (wl hl) hd ((Xm hq (XM ha hd)).trans hf)
 refine JC.exs' ?_
 exact .v 0 (k.get 179 rfl) (.v 2 (k.get 1 rfl) (.v 0 (k.get 180 rfl) (.v 0 (k.get 78 rfl) (.c 0 m1 (.v 1 (k.get 180 rfl) (.done 1))))))
theorem ZJP(hb:tx.length<=900)(ha:∀ a∈tx,a∈al)(hq:∀ c∈q,c∈JJ)(hl:q.length<=800)(hd:tx.drop p=a::r)(k:Kn L [(1,.str tx),(78,.str (60::47::q)),(165,.int i),(179,.bool tw),(180,.int p)])(hf:(!tw&&(Jt (some q) (a::r)).isSome)=false):∃ L',Kn L' (spE tx q i (tw != tog tw a r))/\exs (JH tT (n+1)) spB ⟨L,H,nx,P⟩=some (.next,⟨L',H,nx,P⟩):=by
 have m1:=Wz (n:=n) (L:=L) (H:=H) (nx:=nx) (P:=P) (w:=60::47::q) hb ha (wl hl) hd ((Xm hq (XM ha hd)))
 have k':=k.put 179 (.bool (!tw))
 cases tw with
 |true =>
  have m2:=Wz (n:=n) (L:=L) (H:=H) (nx:=nx) (P:=P) (w:=60::47::QT) hb ha (by decide) hd (ZDP (XM ha hd))
  cases ht:tog true a r with
  |true =>
   rw[ht] at m2
   refine⟨k'.lc,.cons (k'.get 1 rfl) (.cons (k'.get 78 rfl) (.cons (k'.get 165 rfl) (.cons (k'.get 179 rfl) .nil))),JC.exs' ?_⟩
   exact .v 0 (k.get 179 rfl) (.v 3 (k.get 1 rfl) (.v 0 (k.get 180 rfl) (.v 0 (k.get 179 rfl) (.c 1 m2 (.v 1 (k.get 179 rfl) (.done 2))))))
  |false =>
   rw[ht] at m2
   refine⟨L,k.sub [1,78,165,179],JC.exs' ?_⟩
   exact .v 0 (k.get 179 rfl) (.v 3 (k.get 1 rfl) (.v 0 (k.get 180 rfl) (.v 0 (k.get 179 rfl) (.c 1 m2 (.done 2)))))
 |false =>
  rw[show (Jt (some q) (a::r)).isSome=false from hf] at m1
  have m2:=Wz (n:=n) (L:=L) (H:=H) (nx:=nx) (P:=P) (w:=60::QT) hb ha (by decide) hd (ZDQ (XM ha hd))
  cases ht:tog false a r with
  |true =>
   rw[ht] at m2
   refine⟨k'.lc,.cons (k'.get 1 rfl) (.cons (k'.get 78 rfl) (.cons (k'.get 165 rfl) (.cons (k'.get 179 rfl) .nil))),JC.exs' ?_⟩
   exact .v 0 (k.get 179 rfl) (.v 2 (k.get 1 rfl) (.v 0 (k.get 180 rfl) (.v 0 (k.get 78 rfl) (.c 0 m1 (.v 1 (k.get 1 rfl) (.v 0 (k.get 180 rfl) (.v 0 (k.get 179 rfl) (.c 1 m2 (.v 1 (k.get 179 rfl) (.done 2))))))))))
  |false =>
   rw[ht] at m2
   refine⟨L,k.sub [1,78,165,179],JC.exs' ?_⟩
   exact .v 0 (k.get 179 rfl) (.v 2 (k.get 1 rfl) (.v 0 (k.get 180 rfl) (.v 0 (k.get 78 rfl) (.c 0 m1 (.v 1 (k.get 1 rfl) (.v 0 (k.get 180 rfl) (.v 0 (k.get 179 rfl) (.c 1 m2 (.done 2)))))))))
def spF(C:Ora):List Mine.V->St->Option (FL×St):=QI (fun v U=>some (U.setLoc 180 v)) (exs C spB)
theorem ZHa:∀ o:Option Nat,spR p (o.map (·+1))=spR (p+1) o
 |none=>rfl
 |some i=>by
  show FL.ret (.tup [.int (p+(i+1):Nat),_])=.ret (.tup [.int (p+1+i:Nat),_])
  rw[Nat.add_assoc,Nat.add_comm 1]
theorem DY(hb:tx.length<=900)(ha:∀ a∈tx,a∈al)(hq:∀ c∈q,c∈JJ)(hl:q.length<=800):∀ (m p:Nat) (r:List Nat) (tw:Bool) (L:List (Nat×Mine.V)),tx.drop p=r->m<=r.length->Kn L (spE tx q i tw)->∃ L',spF (JH tT (n+1)) (plc p m) ⟨L,H,nx,P⟩=some (spR p (spL (some q) m r tw).1,⟨L',H,nx,P⟩)/\((spL (some q) m r tw).1=none->Kn L' (spE tx q i (spL (some q) m r tw).2)):=fun m=>by
 induction m with
 |zero=>exact fun p r tw L hd hm k=>⟨L,rfl,fun J=>k⟩
 |succ m ih =>
  intro p r tw L hd hm k
  cases r with
  |nil=>exact absurd hm (xM _)
  |cons a r =>
   have k1:=k.put 180 (.int p)
   have hd1:=(Jo hd).2.1
   show ∃ L',bn (exs (JH tT (n+1)) spB ⟨put L 180 (.int p),H,nx,P⟩) _=_/\_
   rw[N9]
   cases hc:!tw&&(Jt (some q) (a::r)).isSome with
   |true =>
    cases tw with
    |true=>exact Bool.noConfusion hc
    |false =>
     rw[ZJO (n:=n) (H:=H) (nx:=nx) (P:=P) hb ha hq hl hd (k1.sub [1,78,179,180]) hc]
     exact⟨_,rfl,fun h=>nomatch h⟩
   |false =>
    obtain⟨L1,k2,e⟩:=ZJP (n:=n) (H:=H) (nx:=nx) (P:=P) hb ha hq hl hd k1 hc
    rw[e]
    obtain⟨L2,e2,k3⟩:=ih (p+1) r (tw != tog tw a r) L1 hd1 (xQ hm) k2
    refine⟨L2,?_,fun h=>k3 ?_⟩
    ·show spF (JH tT (n+1)) (plc (p+1) m) ⟨L1,H,nx,P⟩=some (spR p ((spL (some q) m r (tw != tog tw a r)).1.map (·+1)),_)
     rw[ZHa];exact e2
    ·have h:(spL (some q) m r (tw != tog tw a r)).1.map (·+1)=none:=h
     generalize (spL (some q) m r (tw != tog tw a r)).1=z at h
     cases z with
     |none=>rfl
     |some _=>exact nn h.symm
theorem Da{k:Nat}(h:k<=1000):Qn (k:Int)=true:=by
 show (decide (-16777216<=(k:Int))&&decide ((k:Int)<=16777216))=true
 rw[decide_eq_true (Int.le_trans (by decide:(-16777216:Int)<=0) (Int.natCast_nonneg k)),decide_eq_true (show (k:Int)<=16777216 from Int.ofNat_le.mpr (qA h (by decide:1000<=16777216)))];rfl
theorem Gq{s e:Nat}{U:St}(hs:s<=1000)(he:e<=1000):(bo (Ub (.rng (s:Int) (e:Int))) fun l=>some (l,U))=some (plc s (e-s),U):=by
 show bo (gd (Qn (s:Int)&&Qn (e:Int)) (some ((List.range ((e:Int)-s).toNat).map fun (i:Nat)=>Mine.V.int ((s:Int)+(i:Int))))) _=_
 rw[Da hs,Da he,Int.toNat_sub]
 unfold plc
 rw[List.range'_eq_map_range,List.map_map];rfl
theorem ZE3:∀ (r:List Nat) (d j:Nat),Jj r d=some j->j<=r.length:=fun l0=>by
 induction l0 with
 |nil =>
  exact fun J J h=>nn h
 |cons a r ih =>
  intro d j h
  cases hq:Nat.beq a 62&&Nat.beq d 2 with
  |true =>
   have h2:some 1=some j:=(show (bif Nat.beq a 62&&Nat.beq d 2 then some 1 else _)=some j from h) |> fun q=>by rw[hq] at q;exact q
   cases h2
   exact qJ (qG _)
  |false =>
   rw[N5 hq] at h
   exact Kb h fun i hi e=>by
    subst e
    exact qJ (ih _ i hi)
end
def enV(tx q:List Nat)(p:Nat):Mine.V:=.tup [.int (p+JL (some q) (tx.drop p) 77:Nat),.bool (isD (JU (some q) (tx.drop p) 77))]
noncomputable def enL(tx q:List Nat)(p:Nat):List (Nat×Mine.V):=[(1,.str tx),(78,.str (60::47::q)),(2,.int p)]
section
variable{C:Ora}{L:List (Nat×Mine.V)}{H:List (Id×Ob)}{nx p a i j n:Nat}{P tx r w q:List Nat}{tw:Bool}{o:Option Nat}
theorem ZAs{t:St->Option (Bool×St)}{b:St->Option (FL×St)}{n:Nat}{U U1a U2a:St}{v:Mine.V}(ht:t U=some (true,U1a))(hb:b U1a=some (.ret v,U2a)):QA t b (n+1) U=some (.ret v,U2a):=by
 show bn (t U) _=_
 rw[ht]
 show bn (b U1a) _=_
 rw[hb];rfl
theorem G3{p':Nat}(h1:p+JL (some q) (tx.drop p) 77=p'+JL (some q) (tx.drop p') 77)(h2:isD (JU (some q) (tx.drop p) 77)=isD (JU (some q) (tx.drop p') 77)):enV tx q p'=enV tx q p:=by
 unfold enV;rw[h1,h2]
def Ip(tx q:List Nat)(p:Nat)(L':List (Nat×Mine.V))(z:FL):Prop:=z=.ret (enV tx q p)\/(z=.next/\∃ p',p<p'/\p'<=tx.length/\enV tx q p'=enV tx q p/\Kn L' (enL tx q p'))
theorem ZGr(hb:tx.length<=900)(ha:∀ a∈tx,a∈al)(hq:∀ c∈q,c∈JJ)(hl:q.length<=800)(hd:tx.drop p=a::r)(k:Kn L (enL tx q p))(hf:JQ (some q) 77 (a::r)=some w):exs (JH tT (n+1)) enB ⟨L,H,nx,P⟩=some (.ret (enV tx q p),⟨L,H,nx,P⟩):=by
 have m1:=Wz (n:=n) (L:=L) (H:=H) (nx:=nx) (P:=P) (w:=60::47::q) hb ha (wl hl) hd ((Xm hq (XM ha hd)).trans (congrArg Option.isSome hf))
 unfold enV
 rw[hd,W1 hf,Xo hf]
 refine JC.exs' ?_
 exact .v 0 (k.get 1 rfl) (.v 0 (k.get 2 rfl) (.v 0 (k.get 78 rfl) (.c 0 m1 (.v 1 (k.get 2 rfl) (.done 1)))))
theorem Kx(hb:tx.length<=900)(ha:∀ a∈tx,a∈al)(hq:∀ c∈q,c∈JJ)(hl:q.length<=800)(hd:tx.drop p=a::r)(hf:JQ (some q) 77 (a::r)=none):JH tT (n+1) 92 [.str tx,.int p,.str (60::47::q)] ⟨L,H,nx,P⟩=some (.bool false,⟨L,H,nx,P⟩):=Wz hb ha (wl hl) hd ((Xm hq (XM ha hd)).trans (congrArg Option.isSome hf))
theorem Nz(hb:tx.length<=900)(hd:tx.drop p=a::r):slV σ0 (.str tx) (.int p) (.int (p+4:Nat))=some (.str ((a::r).take 4)):=by
 rw[Xj p (p+4) rfl rfl (mx hb),hd,Nat.add_sub_cancel_left]
theorem ZId(hb:tx.length<=900)(ha:∀ a∈tx,a∈al)(hq:∀ c∈q,c∈JJ)(hl:q.length<=800)(hd:tx.drop p=a::r)(k:Kn L (enL tx q p))(hf:JQ (some q) 77 (a::r)=none)(hc:(a::r).take 4≠w6):exs (JH tT (n+1)) enB ⟨L,H,nx,P⟩=some (.next,⟨put L 2 (.int (p+1:Nat)),H,nx,P⟩):=by
 have m1:=Kx (n:=n) (L:=L) (H:=H) (nx:=nx) (P:=P) hb ha hq hl hd hf
 have h4:=Nz hb hd
 have hne:some (!((a::r).take 4==w6))=some true:=congrArg (fun b=>some (!b)) (xV hc)
 refine JC.exs' ?_
 exact .v 0 (k.get 1 rfl) (.v 0 (k.get 2 rfl) (.v 0 (k.get 78 rfl) (.c 0 m1 (.v 1 (k.get 1 rfl) (.v 0 (k.get 2 rfl) (.v 0 (k.get 2 rfl) (.v 1 h4 (.b 0 hne (.v 1 (k.get 2 rfl) (.done 2))))))))))
theorem ar1:p+1+j-(p+4)=j-3:=by
 rw[Nat.add_assoc,Nat.add_sub_add_left,Nat.add_comm 1]
 exact Nat.add_sub_add_right j 1 3
theorem ar2:((p+2+2+j:Nat):Int)-3=(p+1+j:Nat):=by
 rw[show p+2+2+j=p+1+j+3 from by rw[Nat.add_right_comm (p+1) j 3]]
 exact Int.add_sub_cancel ((p+1+j:Nat):Int) 3
theorem G2(hd:tx.drop p=60::33::45::45::r):smV σ0 .find tx [.str [45,45,62],.int (p+2:Nat)]=some (.int (fv (p+2+2) (Jj r 2))):=by
 have h1:=(Jo (Jo hd).2.1)
 rw[D8 h1.2.2,h1.2.1]
 exact congrArg (fun z=>some (Mine.V.int z)) (ZCD r (p+2)).2.2
theorem IV(hd:tx.drop p=60::33::45::45::r):tx.length=p+4+r.length:=by
 have h1:=Jo (Jo (Jo (Jo hd).2.1).2.1).2.1
 exact(Ki (b:=tx) h1.2.2 h1.2.1).symm
theorem ZIg(hb:tx.length<=900)(ha:∀ a∈tx,a∈al)(hq:∀ c∈q,c∈JJ)(hl:q.length<=800)(hd:tx.drop p=60::33::45::45::r)(k:Kn L (enL tx q p))(hs:Jj r 2=none):∃ L',exs (JH tT (n+1)) enB ⟨L,H,nx,P⟩=some (.ret (enV tx q p),⟨L',H,nx,P⟩):=by
 have hf:JQ (some q) 77 (60::33::45::45::r)=none:=Yu fun w e=>nomatch e
 have m1:=Kx (n:=n) (L:=L) (H:=H) (nx:=nx) (P:=P) hb ha hq hl hd hf
 have h4:=Nz hb hd
 have hfi:=G2 hd
 rw[hs] at hfi
 have hlen:=IV hd
 have k1:=k.put 165 (.int (-1))
 have k2:=k1.put 165 (.int tx.length)
 have k3:=k2.put 179 (.bool false)
 have hl1:tx.length<=1000:=qA hb (by decide)
 have it:=Gq (s:=p+4) (e:=tx.length) (U:=⟨k3.lc,H,nx,P⟩) (qA (by rw[hlen];exact qK _ _) hl1) hl1
 rw[show tx.length-(p+4)=r.length from by rw[hlen,Nat.add_sub_cancel_left]] at it
 have hd4:=(Jo (Jo (Jo (Jo hd).2.1).2.1).2.1).2.1
 obtain⟨L4,e4,k4⟩:=DY (n:=n) (i:=tx.length) (H:=H) (nx:=nx) (P:=P) hb ha hq hl r.length (p+4) r false k3.lc hd4 (qF _) (k3.sub [1,78,165,179])
 obtain⟨s1,s2⟩:=ZHX (n:=some q) r false 2 (by decide) hs
 refine⟨L4,JC.exs' ?_⟩
 unfold enV
 rw[hd,Wm.1,Wm.2,s1,s2]
 cases hR:(spL (some q) r.length r false).1 with
 |none =>
  have k4:=k4 hR
  rw[hR] at e4
  have hD:spD (spL (some q) r.length r false)=(spL (some q) r.length r false).2:=by unfold spD;rw[hR];rfl
  rw[hD,show p+((none:Option Nat).getD r.length+4)=tx.length from by rw[hlen,Nat.add_right_comm];rfl]
  exact .v 0 (k.get 1 rfl) (.v 0 (k.get 2 rfl) (.v 0 (k.get 78 rfl) (.c 0 m1 (.v 1 (k.get 1 rfl) (.v 0 (k.get 2 rfl) (.v 0 (k.get 2 rfl) (.v 1 h4 (.v 2 (k.get 1 rfl) (.v 0 (k.get 2 rfl) (.v 1 hfi (.v 0 (k1.get 165 rfl) (.v 2 (k1.get 1 rfl) (.v 0 (QL (mx hb)) (.v 0 (k3.get 2 rfl) (.v 1 (k3.get 165 rfl) (.l 1 it (.fl 0 e4 (.v 0 (k4.get 165 rfl) (.v 0 (k4.get 1 rfl) (.v 0 (QL (mx hb)) (.b 0 (IW tx.length) (.v 1 (k4.get 165 rfl) (.v 0 (k4.get 179 rfl) (.done 1))))))))))))))))))))))))
 |some i =>
  rw[hR] at e4
  have hD:spD (spL (some q) r.length r false)=false:=by unfold spD;rw[hR];rfl
  rw[hD,show p+((some i:Option Nat).getD r.length+4)=p+4+i from by rw[Nat.add_right_comm];rfl]
  exact .v 0 (k.get 1 rfl) (.v 0 (k.get 2 rfl) (.v 0 (k.get 78 rfl) (.c 0 m1 (.v 1 (k.get 1 rfl) (.v 0 (k.get 2 rfl) (.v 0 (k.get 2 rfl) (.v 1 h4 (.v 2 (k.get 1 rfl) (.v 0 (k.get 2 rfl) (.v 1 hfi (.v 0 (k1.get 165 rfl) (.v 2 (k1.get 1 rfl) (.v 0 (QL (mx hb)) (.v 0 (k3.get 2 rfl) (.v 1 (k3.get 165 rfl) (.l 1 it (.fl 0 e4 (.done 1))))))))))))))))))
theorem ZIf(hb:tx.length<=900)(ha:∀ a∈tx,a∈al)(hq:∀ c∈q,c∈JJ)(hl:q.length<=800)(hd:tx.drop p=60::33::45::45::r)(k:Kn L (enL tx q p))(hs:Jj r 2=some j):∃ L' z,exs (JH tT (n+1)) enB ⟨L,H,nx,P⟩=some (z,⟨L',H,nx,P⟩)/\Ip tx q p L' z:=by
 have hf:JQ (some q) 77 (60::33::45::45::r)=none:=Yu fun w e=>nomatch e
 have m1:=Kx (n:=n) (L:=L) (H:=H) (nx:=nx) (P:=P) hb ha hq hl hd hf
 have h4:=Nz hb hd
 have hfi:=G2 hd
 rw[hs,show fv (p+2+2) (some j)=(p+1+j:Nat) from ar2] at hfi
 have hlen:=IV hd
 have hj:=ZE3 r 2 j hs
 have hpj:p+4+j<=tx.length:=hlen▸qI hj _
 have hpj1:p+1+j<tx.length:=xH (Nat.add_lt_add_right (Nat.add_lt_add_left (by decide) p) j) hpj
 have k1:=k.put 165 (.int (p+1+j:Nat))
 have k3:=k1.put 179 (.bool false)
 have hl1:tx.length<=1000:=qA hb (by decide)
 have it:=Gq (s:=p+4) (e:=p+1+j) (U:=⟨k3.lc,H,nx,P⟩) (qA (qA (qK _ _) hpj) hl1) (qA (xG hpj1) hl1)
 rw[ar1] at it
 have hd4:=(Jo (Jo (Jo (Jo hd).2.1).2.1).2.1).2.1
 obtain⟨L4,e4,k4⟩:=DY (n:=n) (i:=p+1+j) (H:=H) (nx:=nx) (P:=P) hb ha hq hl (j-3) (p+4) r false k3.lc hd4 (qA (xU _ _) hj) (k3.sub [1,78,165,179])
 obtain⟨s1,s2⟩:=ZE6 (n:=some q) r false 2 j (by decide) hs
 have hlt:some (decide (((p+1+j:Nat):Int)<0))=some false:=congrArg some (decide_eq_false (Int.not_lt.mpr (Int.natCast_nonneg _)))
 have hne:=Ox (qP hpj1)
 cases hR:(spL (some q) (j-3) r false).1 with
 |none =>
  have k4:=k4 hR
  rw[hR] at e4
  have k5:=k4.put 2 (.int (p+4+j:Nat))
  refine⟨k5.lc,.next,JC.exs' ?_,.inr ⟨rfl,p+4+j,?_,hpj,?_,k5.sub [1,78,2]⟩⟩
  ·show JC _ _ (FL.next,(⟨put L4 2 (.int (p+4+j:Nat)),H,nx,P⟩:St))
   rw[show p+4+j=p+1+j+3 from Nat.add_right_comm (p+1) 3 j]
   exact .v 0 (k.get 1 rfl) (.v 0 (k.get 2 rfl) (.v 0 (k.get 78 rfl) (.c 0 m1 (.v 1 (k.get 1 rfl) (.v 0 (k.get 2 rfl) (.v 0 (k.get 2 rfl) (.v 1 h4 (.v 2 (k.get 1 rfl) (.v 0 (k.get 2 rfl) (.v 1 hfi (.v 0 (k1.get 165 rfl) (.v 2 (k3.get 2 rfl) (.v 1 (k3.get 165 rfl) (.l 1 it (.fl 0 e4 (.v 0 (k4.get 165 rfl) (.v 0 (k4.get 1 rfl) (.v 0 (QL (mx hb)) (.b 0 hne (.v 1 (k4.get 165 rfl) (.done 2)))))))))))))))))))))
  ·exact xH (Nat.lt_add_of_pos_right (by decide:0<4)) (qK _ _)
  ·refine G3 ?_ ?_
   ·rw[hd,Wm.1,s1,hR,<- List.drop_drop,hd4,Nat.add_assoc,Nat.add_assoc,Nat.add_comm _ 4];rfl
   ·rw[hd,Wm.2,s2,<- List.drop_drop,hd4];unfold spX;rw[hR];rfl
 |some i =>
  rw[hR] at e4
  refine⟨L4,_,JC.exs' ?_,.inl rfl⟩
  unfold enV
  rw[hd,Wm.1,Wm.2,s1,s2,hR]
  have hD:spX (spL (some q) (j-3) r false) (isD (JU (some q) (r.drop j) 77))=false:=by unfold spX;rw[hR];rfl
  rw[hD,show p+((some i:Option Nat).getD (j+JL (some q) (r.drop j) 77)+4)=p+4+i from by rw[Nat.add_right_comm];rfl]
  exact .v 0 (k.get 1 rfl) (.v 0 (k.get 2 rfl) (.v 0 (k.get 78 rfl) (.c 0 m1 (.v 1 (k.get 1 rfl) (.v 0 (k.get 2 rfl) (.v 0 (k.get 2 rfl) (.v 1 h4 (.v 2 (k.get 1 rfl) (.v 0 (k.get 2 rfl) (.v 1 hfi (.v 0 (k1.get 165 rfl) (.v 2 (k3.get 2 rfl) (.v 1 (k3.get 165 rfl) (.l 1 it (.fl 0 e4 (.done 1))))))))))))))))
theorem ZER(hb:tx.length<=900)(ha:∀ a∈tx,a∈al)(hq:∀ c∈q,c∈JJ)(hl:q.length<=800)(hp:p<tx.length)(k:Kn L (enL tx q p)):∃ L' z,exs (JH tT (n+1)) enB ⟨L,H,nx,P⟩=some (z,⟨L',H,nx,P⟩)/\Ip tx q p L' z:=by
 have hd:=List.drop_eq_getElem_cons hp
 generalize tx[p]=a at hd
 generalize hr:tx.drop (p+1)=r at hd
 cases hf:JQ (some q) 77 (a::r) with
 |some w=>exact⟨L,_,ZGr hb ha hq hl hd k hf,.inl rfl⟩
 |none =>
  by_cases hc:(a::r).take 4=w6
  ·have h4:=List.take_append_drop 4 (a::r)
   rw[hc] at h4
   obtain⟨rfl,e⟩:=qS h4
   have e:33::45::45::(60::r).drop 4=r:=e
   generalize (60::r).drop 4=t at e
   subst e
   cases hs:Jj t 2 with
   |none =>
    obtain⟨L',e⟩:=ZIg (n:=n) (H:=H) (nx:=nx) (P:=P) hb ha hq hl hd k hs
    exact⟨L',_,e,.inl rfl⟩
   |some j=>exact ZIf hb ha hq hl hd k hs
  ·obtain⟨s1,s2⟩:=ZC1 hf hc
   have k1:=k.put 2 (.int (p+1:Nat))
   refine⟨_,_,ZId hb ha hq hl hd k hf hc,.inr ⟨rfl,p+1,xC p,hp,G3 ?_ ?_,k1.sub [1,78,2]⟩⟩
   ·rw[hd,hr,s1,Nat.add_assoc,Nat.add_comm 1]
   ·rw[hd,hr,s2]
theorem ZES(hb:tx.length<=900)(ha:∀ a∈tx,a∈al)(hq:∀ c∈q,c∈JJ)(hl:q.length<=800):∀ (f p:Nat) (L:List (Nat×Mine.V)),tx.length-p<f->p<=tx.length->Kn L (enL tx q p)->∃ L' z,QA (tst (JH tT (n+1)) enT) (exs (JH tT (n+1)) enB) f ⟨L,H,nx,P⟩=some (z,⟨L',H,nx,P⟩)/\(z=.ret (enV tx q p)\/(z=.next/\enV tx q p=.tup [.int tx.length,.bool false]/\JA L' 1=some (.str tx))):=fun l0=>by
 induction l0 with
 |zero =>
  exact fun J J h J J=>absurd h (xK _)
 |succ f ih =>
  intro p L h hp k
  by_cases hlt:p<tx.length
  ·have ht:tst (JH tT (n+1)) enT ⟨L,H,nx,P⟩=some (true,⟨L,H,nx,P⟩):=by
    refine JC.tst' ?_
    exact .v 0 (k.get 2 rfl) (.v 0 (k.get 1 rfl) (.v 0 (QL (mx hb)) (.b 0 (slt hlt) (.done 2))))
   obtain⟨L1,z,e,hz⟩:=ZER (n:=n) (H:=H) (nx:=nx) (P:=P) hb ha hq hl hlt k
   rcases hz with rfl |⟨rfl,p',h1,h2,h3,k'⟩
   ·exact⟨L1,_,ZAs ht e,.inl rfl⟩
   ·obtain⟨L2,z,e2,h4⟩:=ih p' L1 (xH (Nat.sub_lt_sub_left hlt h1) (Nat.le_of_lt_succ h)) h2 k'
    rw[h3] at h4
    exact⟨L2,z,XT ht e e2,h4⟩
  ·have he:=xN hp (Nat.not_lt.mp hlt)
   have ht:tst (JH tT (n+1)) enT ⟨L,H,nx,P⟩=some (false,⟨L,H,nx,P⟩):=by
    refine JC.tst' ?_
    exact .v 0 (k.get 2 rfl) (.v 0 (k.get 1 rfl) (.v 0 (QL (mx hb)) (.b 0 (Wb hlt) (.done 2))))
   refine⟨L,.next,Yg ht,.inr ⟨rfl,?_,k.get 1 rfl⟩⟩
   unfold enV
   rw[he,List.drop_length];rfl
theorem ZGq(hb:tx.length<=900)(ha:∀ a∈tx,a∈al)(hq:∀ c∈q,c∈JJ)(hl:q.length<=800):WX tT (JH tT (n+1)) 73 [.str tx,.str (60::47::q)] ⟨L,H,nx,P⟩=some (.tup [.int (JL (some q) tx 77:Nat),.bool (isD (JU (some q) tx 77))],⟨L,H,nx,P⟩):=by
 have k:Kn [(1,.str tx),(78,.str (60::47::q)),(2,.int 0)] (enL tx q 0):=fun J J h=>h
 obtain⟨L',z,e,hz⟩:=ZES (n:=n) (H:=H) (nx:=nx) (P:=P) hb ha hq hl Qr 0 _ (qL hb (by decide)) (qG _) k
 have e0:enV tx q 0=.tup [.int (JL (some q) tx 77:Nat),.bool (isD (JU (some q) tx 77))]:=by
  unfold enV
  rw[List.drop_zero,Nat.zero_add]
 rw[e0] at hz
 show Qx (JH tT (n+1)) KN [.str tx,.str (60::47::q)] ⟨L,H,nx,P⟩=_
 refine cB (m:=KN) (as:=[.str tx,.str (60::47::q)]) rfl (U':=⟨L',H,nx,P⟩) (JC.exs' ?_)
 rcases hz with rfl |⟨rfl,h1,h2⟩
 ·exact .fl 0 e (.done 1)
 ·rw[h1]
  exact .fl 0 e (.v 0 h2 (.v 0 (QL (mx hb)) (.done 1)))
end
def C3:Ora:=JH tT 3
def CL:Ora:=Ze 71 (YT 50 (WX tT C3)) (Ze 72 (CIn C3) (JH tT 8))
noncomputable def L0:MS:=.asg 175 (.bi .sum [(.comp (.bop .fdiv (.loc 84) (.k (.int 18))) 84 (.sl (.loc 80) (.k .none) (.k (.int 20))) (.k (.bool true)))])
noncomputable def L1:MS:=.asg 66 (.sub (.call 69 []) (.bop .mod (.loc 175) (.k (.int 3))))
noncomputable def L2:MS:=.asgT [172,173,174] (.sub (.call 70 []) (.bop .mod (.bop .fdiv (.loc 175) (.k (.int 3))) (.k (.int 5))))
def pcE:ME:=.sub (.glob Xc) (.bop .mod (.loc 84) (.k (.int 18)))
def L3:MS:=.asg 1 (.sm .join (.k (.str [])) [(.comp pcE 84 (.sl (.loc 80) (.k .none) (.k (.int 20))) (.k (.bool true)))])
noncomputable def drE:ME:=.bop .fdiv (.loc 84) (.k (.int 18))
def pn(k:Nat):List Nat:=match Xc with
 |.list l=>(match l[k]? with
  |some (.str s)=>s
  |_=>[])
 |_=>[]
def pk(i:Int):List Nat:=pn (i % 18).toNat
def t0(ns:List Int):List Nat:=QG [] ((ns.take 20).map pk)
noncomputable def dr(ns:List Int):Int:=((ns.take 20).map (· / 18)).sum
def tlN(k:Nat):List Nat×List Nat×List Nat:=match k with
 |0=>([],[],[])
 |1=>([98],[],[98])
 |2=>([32,98],[],[32,98])
 |3=>([0],QZ,[0])
 |_=>([38,108,116,59],[],[60])
def nmN(k:Nat):List Nat:=match k with
 |0=>wU
 |1=>[83,99,114,105,112,116]
 |_=>[98]
section
variable{C:Ora}{L:List (Nat×Mine.V)}{H:List (Id×Ob)}{nx:Nat}{P:List Nat}{ns:List Int}{v:Mine.V}{d:Int}{k:Nat}
theorem Uz{m:Nat}(h:0<m)(i:Int):(i % (m:Int)).toNat∈List.range m:=List.mem_range.mpr ((Int.toNat_lt (Int.emod_nonneg i (Int.ofNat_ne_zero.mpr (Nat.ne_of_gt h)))).mpr (Int.emod_lt_of_pos i (Int.ofNat_lt.mpr h)))
theorem Kz{m:Nat}(h:0<m)(i:Int):i % (m:Int)=((i % (m:Int)).toNat:Int):=(Int.toNat_of_nonneg (Int.emod_nonneg i (Int.ofNat_ne_zero.mpr (Nat.ne_of_gt h)))).symm
theorem ZE0:∀ k∈List.range 18,Qd σ0 Xc (.int (k:Nat))=some (.str (pn k)):=JE (by kernel_rfl)
theorem ZAU(i:Int):Qd σ0 Xc (.int (i % 18))=some (.str (pk i)):=by
 have h:=ZE0 _ (Uz (m:=18) (by decide) i)
 rw[<- Kz (m:=18) (by decide)] at h
 exact h
theorem HY:∀ k∈List.range 18,(Nat.ble (pn k).length 9&&(pn k).all fun a=>al.any (·==a))=true:=JE (by kernel_rfl)
theorem ZCB{n:Nat}:∀ {l:List (List Nat)},(∀ x∈l,x.length<=n)->l.flatten.length<=n*l.length:=by
 intro l0
 induction l0 with
 |nil =>
  intro _
  exact qG _
 |cons x l ih =>
  intro h
  rw[List.flatten_cons,List.length_append,List.length_cons,Nat.mul_succ,Nat.add_comm]
  exact qQ (ih fun y hy=>h y (.tail _ hy)) (h x (.head _))
theorem Xg(ns:List Int):(t0 ns).length<=180:=by
 unfold t0
 rw[Wj]
 refine qA (ZCB (n:=9) fun x hx=>?_) (xB 9 (m:=20) ?_)
 ·obtain⟨i,_,rfl⟩:=List.mem_map.mp hx
  exact bA (HY _ (Uz (m:=18) (by decide) i)) fun h J=>qE h
 ·rw[List.length_map,List.length_take];exact Nat.min_le_left _ _
theorem Zc(ns:List Int):∀ a∈t0 ns,a∈al:=fun a h=>by
 unfold t0 at h
 rw[Wj] at h
 obtain⟨x,hx,ha⟩:=List.mem_flatten.mp h
 obtain⟨i,_,rfl⟩:=List.mem_map.mp hx
 exact bA (HY _ (Uz (m:=18) (by decide) i)) fun J h=>J5 (List.all_eq_true.mp h a ha)
theorem ZFd:∀ l:List Int,J3 (Jl (ev C pcE) (ev C (.k (.bool true))) 84 L) (l.map .int) ⟨L,[],0,[]⟩=some ((l.map pk).map .str,⟨L,[],0,[]⟩):=fun l0=>by
 induction l0 with
 |nil =>
  exact rfl
 |cons i l ih =>
  have h:ev C pcE ⟨(84,.int i)::L,[],0,[]⟩=some (.str (pk i),⟨(84,.int i)::L,[],0,[]⟩):=by
   refine JC.ev ?_
   exact .v 1 (ZAU i) (.done 1)
  show bn (bn (ev C pcE ⟨(84,.int i)::L,[],0,[]⟩) _) _=_
  rw[h]
  show bn (J3 _ (l.map .int) ⟨L,[],0,[]⟩) _=_
  rw[ih];rfl
theorem ZIi:∀ l:List Int,J3 (Jl (ev C drE) (ev C (.k (.bool true))) 84 L) (l.map .int) ⟨L,[],0,[]⟩=some ((l.map (· / 18)).map .int,⟨L,[],0,[]⟩):=fun l0=>by
 induction l0 with
 |nil =>
  exact rfl
 |cons i l ih =>
  have h:Jl (ev C drE) (ev C (.k (.bool true))) 84 L (.int i) ⟨L,[],0,[]⟩=some (some (.int (i / 18)),⟨L,[],0,[]⟩):=by kernel_rfl
  show bn (Jl (ev C drE) (ev C (.k (.bool true))) 84 L (.int i) ⟨L,[],0,[]⟩) _=_
  rw[h]
  show bn (J3 _ (l.map .int) ⟨L,[],0,[]⟩) _=_
  rw[ih];rfl
theorem IQ{l:List Mine.V}(h:l.length<=JB):slV σ0 (.list l) .none (.int 20)=some (.list (l.take 20)):=by
 show gd (Nat.ble l.length JB) (some (Mine.V.list (l.take (clampIx l.length (20:Nat)))))=_
 rw[ble h,XS,KT];rfl
theorem ZF9:∀ l:List Int,Uw (l.map .int)=some l:=fun l0=>by
 induction l0 with
 |nil =>
  exact rfl
 |cons i l ih =>
  show bo (Uw (l.map .int)) _=_
  rw[ih];rfl
theorem ZEz{l:List Int}{U:St}:biV U .sum [.list (l.map .int)]=some (.int l.sum):=by
 show bo (Uw (l.map .int)) _=_
 rw[ZF9];rfl
theorem ZF4(hn:ns.length<=1000):exc C L0 ⟨[(80,.list (ns.map .int))],[],0,[]⟩=some (.next,⟨[(80,.list (ns.map .int)),(175,.int (dr ns))],[],0,[]⟩):=by
 have hm:(ns.map Mine.V.int).length<=JB:=by rw[List.length_map];exact qA hn (by decide)
 have hs:=IQ hm
 rw[<- List.map_take] at hs
 have hl:Nat.ble ((ns.take 20).map Mine.V.int).length JB=true:=ble (by rw[List.length_map,List.length_take];exact qA (Nat.min_le_left _ _) (by decide))
 have hd:=ZIi (C:=C) (L:=[(80,.list (ns.map .int))]) (ns.take 20)
 have hsum:=ZEz (U:=σ0) (l:=(ns.take 20).map (· / 18))
 refine JC.exc' ?_
 exact .v 0 hs (.g 1 hl (.l 0 hd (.v 0 hsum (.done 1))))
theorem ZF3:exc CL L1 ⟨[(80,v),(175,.int d)],[],0,[]⟩=some (.next,⟨[(80,v),(175,.int d),(66,.str (nmN (d % 3).toNat))],[],0,[]⟩):=by
 have h:∀ k∈List.range 3,Qd σ0 (.list [.str wU,.str [83,99,114,105,112,116],.str [98]]) (.int (k:Nat))=some (.str (nmN k)):=JE (by kernel_rfl)
 have h:=h _ (Uz (m:=3) (by decide) d)
 rw[<- Kz (m:=3) (by decide)] at h
 refine JC.exc' ?_
 exact .v 2 h (.done 1)
def tlV(k:Nat):Mine.V:=.tup [.str (tlN k).1,.str (tlN k).2.1,.str (tlN k).2.2]
noncomputable def ktl(d:Int):Nat:=(d / 3 % 5).toNat
theorem ZF2:exc CL L2 ⟨[(80,v),(175,.int d),(66,u)],[],0,[]⟩=some (.next,⟨[(80,v),(175,.int d),(66,u),(172,.str (tlN (ktl d)).1),(173,.str (tlN (ktl d)).2.1),(174,.str (tlN (ktl d)).2.2)],[],0,[]⟩):=by
 have h:∀ k∈List.range 5,Qd σ0 (.list [tlV 0,tlV 1,tlV 2,tlV 3,tlV 4]) (.int (k:Nat))=some (tlV k):=JE (by kernel_rfl)
 have h:=h _ (Uz (m:=5) (by decide) (d / 3))
 rw[<- Kz (m:=5) (by decide)] at h
 refine JC.exc' ?_
 exact .v 3 h (.done 1)
def lE3(ns:List Int)(d:Int):List (Nat×Mine.V):=[(80,.list (ns.map .int)),(175,.int d),(66,.str (nmN (d % 3).toNat)),(172,.str (tlN (ktl d)).1),(173,.str (tlN (ktl d)).2.1),(174,.str (tlN (ktl d)).2.2)]
theorem ZF1(hn:ns.length<=1000):exc C L3 ⟨lE3 ns d,[],0,[]⟩=some (.next,⟨lE3 ns d++[(1,.str (t0 ns))],[],0,[]⟩):=by
 have hm:(ns.map Mine.V.int).length<=JB:=by rw[List.length_map];exact qA hn (by decide)
 have hs:=IQ hm
 rw[<- List.map_take] at hs
 have hl:Nat.ble ((ns.take 20).map Mine.V.int).length JB=true:=ble (by rw[List.length_map,List.length_take];exact qA (Nat.min_le_left _ _) (by decide))
 have hp:=ZFd (C:=C) (L:=lE3 ns d) (ns.take 20)
 have hj:=Dv (l:=(ns.take 20).map pk) (qA (Xg ns) (by decide))
 refine JC.exc' ?_
 exact .v 0 hs (.g 1 hl (.l 0 hp (.v 0 hj (.done 1))))
theorem Ny(d:Int):(tlN (ktl d)).1∈QC:=by
 have h:∀ k∈List.range 5,QC.any (·==(tlN k).1)=true:=JE (by kernel_rfl)
 exact J5 (h _ (Uz (m:=5) (by decide) (d / 3)))
end
noncomputable def L4:MS:=.asgT [37,179] (.call 73 [(.loc 1),(.bop .add (.k (.str [60,47])) (.sm .lower (.loc 66) []))])
noncomputable def L5:MS:=.asg 72 (.lst [] (.per 53))
def sgB:List MS:=[.iff (.cmp .eq (.loc 68) (.k (.str [0]))) [.augN 72 .add (.lst [(.call 28 [(.k (.str wA))]),(.call 67 [(.k (.str [65533]))])] .frz)] [.ex (.app (.loc 72) (.call 67 [(.loc 68)]))]]
def L6:MS:=.for 68 (.sl (.loc 1) (.k .none) (.loc 37)) sgB
def L6b:MS:=.iff (.loc 179) [.ex (.app (.loc 72) (.call 28 [(.k (.str wE))]))] []
def NoQ(L:List (Nat×Mine.V)):Prop:=∀ k w,k≠53->QF (.p k) w L=L
theorem ZB8{i:Id}{w v:Mine.V}{n:Nat}(hv:V.no i v=true):∀ {L:List (Nat×Mine.V)},QF i w L=L->QF i w (put L n v)=put L n v:=by
 intro l0
 induction l0 with
 |nil =>
  intro _
  exact congrArg (fun v=>[(n,v)]) (V.sb_no v hv)
 |cons p0 L ih =>
  obtain⟨m,u⟩:=p0
  intro h
  have h1:=(Prod.mk.inj (qS h).1).2
  have h2:=(qS h).2
  show QF i w (if m=n then (m,v)::L else (m,u)::put L n v)=if m=n then (m,v)::L else (m,u)::put L n v
  by_cases e:m=n
  ·rw[if_pos e]
   show (m,V.sb i w v)::QF i w L=_
   rw[V.sb_no v hv,h2]
  ·rw[if_neg e]
   show (m,V.sb i w u)::QF i w (put L n v)=_
   rw[h1,ih h2]
theorem NoQ.put{L:List (Nat×Mine.V)}(N:NoQ L)(n:Nat){v:Mine.V}(h:∀ k,k≠53->V.no (.p k) v=true):NoQ (put L n v):=fun k w hk=>ZB8 (h k hk) (N k w hk)
def J8(k:Nat):List Nat:=(nmN k).map lowC
def enN(k:Nat)(tx:List Nat):Nat:=JL (some (J8 k)) tx 77
def enM(k:Nat)(tx:List Nat):Nat:=JU (some (J8 k)) tx 77
abbrev hD(D:List Tok4):List (Id×Ob):=[(.p 53,.list (vs D))]
section
variable{C:Ora}{L E:List (Nat×Mine.V)}{H:List (Id×Ob)}{nx:Nat}{P:List Nat}{ns:List Int}{v:Mine.V}{d:Int}{k a e:Nat}{o:Option (List Nat)}{tx x m:List Nat}{D:List Tok4}
theorem U2{s:MS}{f:FL}{U τ:St}(h:exs C [s] τ=some (f,U)):exc C s τ=some (f,U):=by
 have h:bn (exc C s τ) (fun f U1a=>YM f (some (.next,U1a)) U1a)=some (f,U):=h
 generalize exc C s τ=x at h
 cases x with
 |none=>exact nn h
 |some p =>
  obtain⟨g,τ'⟩:=p
  cases g<;>exact h
theorem ON(k:Nat):(nmN k).length<=800/\(∀ a∈nmN k,a<128)/\(nmN k).all (Nat.blt · 128)=true/\nmN k≠[]/\(∀ c∈J8 k,c∈JJ):=by
 match k with
 |0=>exact⟨by decide,by decide,by decide,by decide,by decide⟩
 |1=>exact⟨by decide,by decide,by decide,by decide,by decide⟩
 |k+2=>exact⟨qE rfl,(by decide:∀ a∈[98],a<128),(by decide:[98].all (Nat.blt · 128)=true),(by decide:[98]≠[]),(by decide:∀ c∈[98],c∈JJ)⟩
theorem ZDW(k:Nat):(J8 k).length=(nmN k).length:=List.length_map _
theorem ZF0(k:Kn L [(1,.str tx),(66,.str (nmN k'))])(hb:tx.length<=900)(ha:∀ a∈tx,a∈al):exc CL L4 ⟨L,H,nx,P⟩=some (.next,⟨put (put L 37 (.int (enN k' tx:Nat))) 179 (.bool (isD (enM k' tx))),H,nx,P⟩):=by
 obtain⟨h1,h2,-,-,h5⟩:=ON k'
 have hl:(J8 k').length<=800:=ZDW k'▸h1
 have hs:CL 73 [.str tx,.str (60::47::J8 k')] ⟨L,H,nx,P⟩=_:=ZGq (n:=6) (L:=L) (H:=H) (nx:=nx) (P:=P) hb ha h5 hl
 have lo:=Yp (b:=nmN k') h2 (qA h1 (by decide))
 have hc:=Q6 (a:=[60,47]) (b:=J8 k') (k:=900) (qA (qI hl 2) (by decide)) (by decide)
 refine U2 (JC.exs' ?_)
 exact .v 0 (k.get 1 rfl) (.v 0 (k.get 66 rfl) (.v 0 lo (.v 0 hc (.c 0 hs (.done 1)))))
theorem gD(h:D.length<=100000)(k:Nat)(hk:k<=1000):Nat.ble ((vs D).length+k) JB=true:=ble (by rw[List.length_map];exact qA (qQ h hk) (by decide))
theorem ZJN:vs (tI a)=if a=0 then [Jd QZ,JN [65533]] else [JN [a]]:=by
 unfold tI
 exact apply_ite vs _ _ _
theorem ZE9(h:D.length<=100000)(k:Kn L [(68,.str [a]),(72,.obj (.p 53))])(N:NoQ L):∃ L',exs CL sgB ⟨L,hD D,0,[53]⟩=some (.next,⟨L',hD (D++tI a),0,[53]⟩)/\(∀ E,Kn L E->JA E 72=some (.obj (.p 53))->Kn L' E)/\NoQ L':=by
 unfold hD
 rw[QV,ZJN]
 by_cases h0:a=0
 ·subst h0
  have g:=gD h 2 (by decide)
  refine⟨put L 72 (.obj (.p 53)),JC.exs' ?_,fun E kE e n v hv=>?_,N.put 72 fun k hk=>decide_eq_true fun q=>hk (by cases q;rfl)⟩
  ·exact .v 0 (k.get 68 rfl) (.v 2 (k.get 72 rfl) (.g 5 g (.done 1)))
  ·rw[Qj]
   by_cases q:72=n
   ·subst q;rw[if_pos rfl,<- hv,e]
   ·rw[if_neg q];exact kE n v hv
 ·have g:=gD h 0 (by decide)
  rw[if_neg h0]
  refine⟨L,JC.exs' ?_,fun E kE J=>kE,N⟩
  exact .v 0 (k.get 68 rfl) (.b 0 (neq h0) (.v 1 (k.get 72 rfl) (.v 1 (k.get 68 rfl) (.g 2 g (.done 2)))))
def sgF:List Mine.V->St->Option (FL×St):=QI (fun v U=>some (U.setLoc 68 v)) (exs CL sgB)
theorem Gb:(tI a).length<=2:=Zn (fun l:List Tok4=>l.length<=2) (fun J=>qF _) fun J=>xD _
theorem ZFA{E:List (Nat×Mine.V)}(hE:JA E 72=some (.obj (.p 53)))(hE2:JA E 68=none):∀ (x:List Nat) (D:List Tok4) (L:List (Nat×Mine.V)),D.length+2*x.length<=100000->Kn L E->NoQ L->∃ L',sgF (x.map fun a=>.str [a]) ⟨L,hD D,0,[53]⟩=some (.next,⟨L',hD (D++x.flatMap tI),0,[53]⟩)/\Kn L' E/\NoQ L':=fun l0=>by
 induction l0 with
 |nil =>
  exact fun D L J k N=>⟨L,by rw[show ([]:List Nat).flatMap tI=[] from rfl,List.append_nil];rfl,k,N⟩
 |cons a x ih =>
  intro D L hl k N
  have kE:Kn (put L 68 (.str [a])) E:=fun n v hv=>by
   rw[Qj]
   by_cases q:68=n
   ·subst q;exact nn (hE2.symm.trans hv)
   ·rw[if_neg q];exact k n v hv
  obtain⟨L1,e1,k1,N1⟩:=ZE9 (qA (qK _ _) hl) (.cons ((Qj ..).trans (if_pos rfl)) (.cons (kE 72 _ hE) .nil)) (N.put 68 (v:=.str [a]) fun J J=>rfl)
  obtain⟨L2,e2,k2,N2⟩:=ih (D++tI a) L1 (by
   rw[List.length_append,Nat.add_assoc]
   refine qA (qI ?_ _) hl
   rw[List.length_cons,Nat.mul_succ,Nat.add_comm]
   exact qI Gb _) (k1 E kE hE) N1
  refine⟨L2,?_,k2,N2⟩
  show bn (exs CL sgB ⟨put L 68 (.str [a]),hD D,0,[53]⟩) _=_
  rw[e1]
  refine e2.trans ?_
  rw[List.append_assoc];rfl
theorem ZFy{tx:List Nat}{E:List (Nat×Mine.V)}{e:Nat}(hb:tx.length<=900)(k:Kn L E)(N:NoQ L)(h1:JA E 1=some (.str tx))(h37:JA E 37=some (.int e))(h72:JA E 72=some (.obj (.p 53)))(h68:JA E 68=none):∃ L',exc CL L6 ⟨L,hD [],0,[53]⟩=some (.next,⟨L',hD ((tx.take e).flatMap tI),0,[53]⟩)/\Kn L' E/\NoQ L':=by
 obtain⟨L',e1,k1,N1⟩:=ZFA h72 h68 (tx.take e) [] L (by
  rw[List.length_nil,Nat.zero_add]
  exact qA (xB 2 (qA (xR _ _) hb)) (by decide)) k N
 have hs:=Ge (s:=tx) (j:=e) e rfl (mx hb)
 refine⟨L',U2 (JC.exs' ?_),k1,N1⟩
 exact .v 0 (k 1 _ h1) (.v 0 (k 37 _ h37) (.v 0 hs (.fl 1 e1 (.done 1))))
theorem ZDY{m:Nat}(h:D.length<=99000)(k:Kn L [(179,.bool (isD m)),(72,.obj (.p 53))]):exc CL L6b ⟨L,hD D,0,[53]⟩=some (.next,⟨L,hD (D++qT m),0,[53]⟩):=by
 have g:=gD (qA h (by decide)) 0 (by decide)
 have k:=k
 unfold qT hD
 rw[QV]
 refine U2 (JC.exs' ?_)
 cases e:isD m with
 |true =>
  rw[e] at k
  exact .v 0 (k.get 179 rfl) (.v 1 (k.get 72 rfl) (.g 3 g (.done 2)))
 |false =>
  rw[e] at k
  rw[show (vs (bif false then [Tok4.er YC] else []))=[] from rfl,List.append_nil]
  exact .v 0 (k.get 179 rfl) (.done 2)
end
noncomputable def s7T:ME:=(.cmp .lt (.loc 37) (.bi .len [(.loc 1)]))
noncomputable def a70:MS:=.asg 77 (.bop .add (.bop .add (.loc 37) (.k (.int 2))) (.bi .len [(.loc 66)]))
noncomputable def a71:MS:=.asg 169 (.sm .find (.loc 1) [(.k (.str [62])),(.loc 77)])
noncomputable def a72:MS:=.asg 117 (.ite (.cmp .lt (.loc 169) (.k (.int 0))) (.sl (.loc 1) (.loc 77) (.k .none)) (.sl (.loc 1) (.loc 77) (.loc 169)))
noncomputable def a73:MS:=.asgT [71,162] (.call 72 [(.loc 117),(.cmp .ge (.loc 169) (.k (.int 0)))])
noncomputable def slE:ME:=.call 28 [(.loc 170)]
def a74:MS:=.augN 72 .add (.comp slE 170 (.loc 71) (.k (.bool true)))
noncomputable def c75:ME:=(.cmp .ge (.loc 169) (.k (.int 0)))
noncomputable def b70:MS:=.asg 171 (.cmp .eq (.sl (.loc 117) (.neg (.k (.int 1))) (.k .none)) (.k (.str [47])))
def b71:MS:=.augN 72 .add (.ite (.loc 162) (.lst [(.call 28 [(.k (.str wV))])] .frz) (.lst [] .frz))
def b72:MS:=.augN 72 .add (.ite (.loc 171) (.lst [(.call 28 [(.k (.str wN))])] .frz) (.lst [] .frz))
noncomputable def wdE:ME:=(.lst [(.loc 78),(.k (.str []))] .frz)
def b73:MS:=.ex (.app (.loc 72) (.dct [wC,wQ,wB,wG] [(.sub (.glob UC) (.k (.str wR))),(.sm .lower (.loc 66) []),(.comp wdE 78 (.loc 162) (.k (.bool true))),(.loc 171)] .frz))
noncomputable def b74:MS:=.augN 72 .add (.ite (.loc 173) (.lst [(.call 28 [(.loc 173)])] .frz) (.lst [] .frz))
noncomputable def b75:MS:=.augN 72 .add (.ite (.loc 174) (.lst [(.call 67 [(.loc 174)])] .frz) (.lst [] .frz))
noncomputable def b76:MS:=.asg 1 (.bop .add (.sl (.loc 1) (.k .none) (.bop .add (.loc 169) (.k (.int 1)))) (.loc 172))
def L7:MS:=.iff s7T [a70,a71,a72,a73,a74,.iff c75 [b70,b71,b72,b73,b74,b75,b76] []] []
section
variable{C:Ora}{L E:List (Nat×Mine.V)}{H:List (Id×Ob)}{nx:Nat}{P:List Nat}{ns:List Int}{v:Mine.V}{d:Int}{k a e:Nat}{o:Option (List Nat)}{tx x m w y nm t1 t2 t3:List Nat}{D:List Tok4}{fs ws:List (List Nat)}{b c:Bool}
theorem ZDw:∀ (c:List Nat) (i:Nat),Jv [62] c i=if (ins c).length<c.length then ((i+(ins c).length:Nat):Int) else -1:=fun l0=>by
 induction l0 with
 |nil =>
  exact fun i=>rfl
 |cons x c ih =>
  intro i
  show (if (62==x&&Jc [] c) then (i:Int) else Jv [62] c (i+1))=_
  by_cases hx:x=62
  ·subst hx;rfl
  ·rw[xV (fun e:62=x=>hx e.symm),Yr (Ja hx),ih (i+1)]
   show (if (ins c).length<c.length then _ else _)=if (ins c).length+1<c.length+1 then _ else _
   by_cases hl:(ins c).length<c.length
   ·rw[if_pos hl,if_pos (Nat.succ_lt_succ hl),Nat.add_right_comm];rfl
   ·rw[if_neg hl,if_neg fun e=>hl (xJ e)]
def clP(s:Nat)(x:List Nat):Int:=bif cl? x then ((s+(ins x).length:Nat):Int) else -1
theorem ZDv(hs:k<=tx.length)(hd:tx.drop k=x):smV σ0 .find tx [.str [62],.int k]=some (.int (clP k x)):=by
 rw[D8 hs,hd,ZDw]
 unfold clP cl?
 by_cases hl:(ins x).length<x.length
 ·rw[if_pos hl,show Nat.blt (ins x).length x.length=true from ble hl];rfl
 ·rw[if_neg hl,show Nat.blt (ins x).length x.length=false from Bool.eq_false_iff.mpr fun q=>hl (qE q)];rfl
theorem ZIo:some (decide (clP k x<0))=some (!(cl? x)):=by
 unfold clP
 cases cl? x with
 |true=>exact congrArg some (decide_eq_false (Int.not_lt.mpr (Int.natCast_nonneg _)))
 |false=>rfl
theorem IC:some (decide (clP k x ≥ 0))=some (cl? x):=by
 unfold clP
 cases cl? x with
 |true=>exact congrArg some (decide_eq_true (Int.natCast_nonneg _))
 |false=>rfl
def E7(tx nm t1 t2 t3:List Nat)(e s:Nat)(x:List Nat):List (Nat×Mine.V):=[(1,.str tx),(66,.str nm),(172,.str t1),(173,.str t2),(174,.str t3),(72,.obj (.p 53)),(169,.int (clP s x)),(117,.str (ins x))]
theorem ZJZ(hb:tx.length<=900)(hm:nm.length<=900)(hs:e+2+nm.length<=tx.length)(hd:tx.drop (e+2+nm.length)=x)(k:Kn L [(1,.str tx),(66,.str nm),(172,.str t1),(173,.str t2),(174,.str t3),(37,.int e),(72,.obj (.p 53))])(N:NoQ L):
  ∃ L',exs CL [a70,a71,a72] ⟨L,H,nx,P⟩=some (.next,⟨L',H,nx,P⟩)/\Kn L' (E7 tx nm t1 t2 t3 e (e+2+nm.length) x)/\NoQ L':=by
 have hf:=ZDv hs hd
 have k1:=(k.put 77 (.int (e+2+nm.length:Nat))).put 169 (.int (clP (e+2+nm.length) x))
 have k2:=k1.put 117 (.str (ins x))
 refine⟨k2.lc,?_,k2.sub [1,66,172,173,174,72,169,117],((N.put 77 (v:=.int (e+2+nm.length:Nat)) fun J J=>rfl).put 169 (v:=.int (clP (e+2+nm.length) x)) fun J J=>rfl).put 117 (v:=.str (ins x)) fun J J=>rfl⟩
 have h1:exs CL [a70,a71] ⟨L,H,nx,P⟩=some (.next,⟨k1.lc,H,nx,P⟩):=by
  refine JC.exs' ?_
  have k0:=k.put 77 (.int (e+2+nm.length:Nat))
  exact .v 0 (k.get 37 rfl) (.v 1 (k.get 66 rfl) (.v 0 (QL (mx hm)) (.v 1 (k0.get 1 rfl) (.v 0 (k0.get 77 rfl) (.v 0 hf (.done 1))))))
 have h2:exs CL [a72] ⟨k1.lc,H,nx,P⟩=some (.next,⟨k2.lc,H,nx,P⟩):=by
  refine JC.exs' ?_
  have hlt:=ZIo (k:=e+2+nm.length) (x:=x)
  cases hc:cl? x with
  |true =>
   rw[hc] at hlt
   have e2:clP (e+2+nm.length) x=((e+2+nm.length+(ins x).length:Nat):Int):=by unfold clP;rw[hc];rfl
   have hsl:slV σ0 (.str tx) (.int (e+2+nm.length:Nat)) (.int (clP (e+2+nm.length) x))=some (.str (ins x)):=by
    rw[Xj (e+2+nm.length) (e+2+nm.length+(ins x).length) rfl e2 (mx hb),hd,Nat.add_sub_cancel_left]
    exact congrArg (fun l=>some (Mine.V.str l)) (List.prefix_iff_eq_take.mp (qM _)).symm
   exact .v 0 (k1.get 169 rfl) (.b 0 hlt (.v 1 (k1.get 1 rfl) (.v 0 (k1.get 77 rfl) (.v 0 (k1.get 169 rfl) (.v 0 hsl (.done 1))))))
  |false =>
   rw[hc] at hlt
   have hsl:=ZC8 (s:=tx) (i:=(e+2+nm.length:Nat)) _ rfl (mx hb)
   rw[hd,<- K5 hc] at hsl
   exact .v 0 (k1.get 169 rfl) (.b 0 hlt (.v 1 (k1.get 1 rfl) (.v 0 (k1.get 77 rfl) (.v 0 hsl (.done 1)))))
 rw[show [a70,a71,a72]=[a70,a71]++[a72] from rfl,J9 h1]
 exact h2
theorem Ik(N:NoQ L)(h:k≠53):Cln k L (hD D) [53]:=⟨fun w=>N k w h,fun w=>by
  show (if Id.p 53=.p k then _ else (Id.p 53,Ob.list (V.sbs (.p k) w (vs D)))::[])=_
  rw[if_neg fun q=>h (by cases q;rfl),V.sbs_no _ (QN D)],if_neg fun q=>h (by cases q;rfl),fun q=>h (List.mem_singleton.mp q)⟩
theorem ZHc:∀ l:List (List Nat),J3 (Jl (ev CL slE) (ev CL (.k (.bool true))) 170 L) (stv l) ⟨L,H,nx,P⟩=some (vs (l.map .er),⟨L,H,nx,P⟩):=fun l0=>by
 induction l0 with
 |nil =>
  exact rfl
 |cons x l ih =>
  have h:Jl (ev CL slE) (ev CL (.k (.bool true))) 170 L (.str x) ⟨L,H,nx,P⟩=some (some (Jd x),⟨L,H,nx,P⟩):=by kernel_rfl
  show bn (Jl (ev CL slE) (ev CL (.k (.bool true))) 170 L (.str x) ⟨L,H,nx,P⟩) _=_
  rw[h]
  show bn (J3 _ (stv l) ⟨L,H,nx,P⟩) _=_
  rw[ih];rfl
def E8(nm t1 t2 t3 tx:List Nat)(i:Int)(v:List Nat)(ws:List (List Nat)):List (Nat×Mine.V):=[(1,.str tx),(66,.str nm),(172,.str t1),(173,.str t2),(174,.str t3),(72,.obj (.p 53)),(169,.int i),(117,.str v),(162,.list (stv ws))]
theorem Gk(l:List (List Nat)):∀ k,k≠53->V.no (.p k) (.list (stv l))=true:=fun k J=>Xi l
theorem XG:∀ k,k≠53->V.no (.p k) (.obj (.p 53))=true:=fun k h=>decide_eq_true fun q=>h (by cases q;rfl)
theorem ZJY(hb:(ins x).length<=900)(hA:∀ a∈ins x,a<128)(hD1:D.length<=90000)(hF:(inF (cl? x) (ins x) [] []).1.length<=9000)(k:Kn L (E7 tx nm t1 t2 t3 e k' x))(N:NoQ L):
  ∃ L',exs CL [a73,a74] ⟨L,hD D,0,[53]⟩=some (.next,⟨L',hD (D++(inF (cl? x) (ins x) [] []).1.map .er),0,[53]⟩)/\Kn L' (E8 nm t1 t2 t3 tx (clP k' x) (ins x) (inF (cl? x) (ins x) [] []).2)/\NoQ L':=by
 have hs:CL 72 [.str (ins x),.bool (cl? x)] ⟨L,hD D,0,[53]⟩=_:=ZBQ (C:=C3) (L:=L) (H:=hD D) (nx:=0) (P:=[53]) (c:=cl? x) (Ik N (by decide)) (Ik N (by decide)) hb hA
 have hge:=IC (k:=k') (x:=x)
 generalize inF (cl? x) (ins x) [] []=F at hs hF
 have k1:=(k.put 71 (.list (stv F.1))).put 162 (.list (stv F.2))
 have k2:=k1.put 72 (.obj (.p 53))
 have g1:Nat.ble (stv F.1).length JB=true:=ble (by rw[DV];exact qA hF (by decide))
 have hc:=ZHc (L:=k1.lc) (H:=hD D) (nx:=0) (P:=[53]) F.1
 have g2:Nat.ble ((vs D).length+(vs (F.1.map Tok4.er)).length) JB=true:=ble (by
  rw[List.length_map,List.length_map,List.length_map]
  exact qA (qQ hD1 hF) (by decide))
 unfold hD at *
 rw[QV]
 refine⟨k2.lc,JC.exs' ?_,k2.sub [1,66,172,173,174,72,169,117,162],((N.put 71 (Gk F.1)).put 162 (Gk F.2)).put 72 XG⟩
 exact .v 0 (k.get 117 rfl) (.v 0 (k.get 169 rfl) (.b 0 hge (.c 0 hs (.v 0 (k1.get 72 rfl) (.v 0 (k1.get 71 rfl) (.g 1 g1 (.l 0 hc (.g 2 g2 (.done 1)))))))))
theorem ZCZ:∀ r pr:List Nat,QK r pr=Z4 (r.reverse++pr):=fun l0=>by
 induction l0 with
 |nil =>
  exact fun J=>rfl
 |cons a r ih =>
  intro pr
  rw[List.reverse_cons,List.append_assoc]
  exact ih (a::pr)
theorem ZDc(hb:y.length<=900):slV σ0 (.str y) (.int (-1)) .none=some (.str (y.drop (y.length-1))):=by
 show gd (Nat.ble y.length JB) (some (Mine.V.str ((y.take y.length).drop (clampIx y.length (-1)))))=_
 rw[ble (mx hb),List.take_length]
 have e:clampIx y.length (-1)=y.length-1:=by
  cases y with
  |nil=>rfl
  |cons a y =>
   show (max 0 (min (if (-1:Int)<0 then (-1:Int)+(y.length+1:Nat) else -1) ((y.length+1:Nat):Int))).toNat=y.length
   rw[if_pos (by decide),((Int.add_comm _ _).trans (Int.add_sub_cancel (y.length:Int) 1):(-1+(y.length+1:Nat):Int)=y.length),Int.min_eq_left (Int.ofNat_le.mpr (xD _)),Int.max_eq_right (Int.natCast_nonneg _),Int.toNat_natCast]
 rw[e];rfl
theorem last_eq:some (y.drop (y.length-1)==[47])=some (QK y []):=by
 rw[ZCZ,List.append_nil]
 rcases List.eq_nil_or_concat y with rfl |⟨l,a,rfl⟩
 ·rfl
 ·rw[List.concat_eq_append,List.length_append,show l.length+[a].length-1=l.length from Nat.add_sub_cancel ..,List.drop_left,List.reverse_append]
  exact Od (a:=a) (b:=47)
theorem ZHO:∀ l:List (List Nat),J3 (Jl (ev C wdE) (ev C (.k (.bool true))) 78 L) (stv l) ⟨L,H,nx,P⟩=some (l.map att,⟨L,H,nx,P⟩):=fun l0=>by
 induction l0 with
 |nil =>
  exact rfl
 |cons x l ih =>
  have h:Jl (ev C wdE) (ev C (.k (.bool true))) 78 L (.str x) ⟨L,H,nx,P⟩=some (some (att x),⟨L,H,nx,P⟩):=by kernel_rfl
  show bn (Jl (ev C wdE) (ev C (.k (.bool true))) 78 L (.str x) ⟨L,H,nx,P⟩) _=_
  rw[h]
  show bn (J3 _ (stv l) ⟨L,H,nx,P⟩) _=_
  rw[ih];rfl
theorem gD1(h:D.length<=99000)(k:Nat)(hk:k<=1000):Nat.ble ((vs D).length+k) JB=true:=gD (qA h (by decide)) k hk
theorem ZJf(h:D.length<=99000)(hw:ws.length<=90000)(k:Kn L [(72,.obj (.p 53)),(162,.list (stv ws))]):exs CL [b71] ⟨L,hD D,0,[53]⟩=some (.next,⟨put L 72 (.obj (.p 53)),hD (D++bif !ws.isEmpty then [.er Qa] else []),0,[53]⟩):=by
 have ht:Mine.Jk σ0 (.list (stv ws))=some (!ws.isEmpty):=by
  show gd (Nat.ble (stv ws).length JB) (some (!(stv ws).isEmpty))=_
  rw[gst (qA hw (by decide))]
  cases ws<;>rfl
 have g1:=gD1 h 1 (by decide)
 have g0:=gD1 h 0 (by decide)
 unfold hD
 rw[QV]
 cases hb:!ws.isEmpty with
 |true =>
  rw[hb] at ht
  refine JC.exs' ?_
  exact .v 0 (k.get 72 rfl) (.v 0 (k.get 162 rfl) (.b 0 ht (.g 4 g1 (.done 1))))
 |false =>
  rw[hb] at ht
  refine JC.exs' ?_
  exact .v 0 (k.get 72 rfl) (.v 0 (k.get 162 rfl) (.b 0 ht (.g 3 g0 (.done 1))))
theorem ZJe(h:D.length<=99000)(k:Kn L [(72,.obj (.p 53)),(171,.bool b)]):exs CL [b72] ⟨L,hD D,0,[53]⟩=some (.next,⟨put L 72 (.obj (.p 53)),hD (D++bif b then [.er Zk] else []),0,[53]⟩):=by
 have g1:=gD1 h 1 (by decide)
 have g0:=gD1 h 0 (by decide)
 unfold hD
 rw[QV]
 refine JC.exs' ?_
 cases b with
 |true=>exact .v 0 (k.get 72 rfl) (.v 0 (k.get 171 rfl) (.g 5 g1 (.done 1)))
 |false=>exact .v 0 (k.get 72 rfl) (.v 0 (k.get 171 rfl) (.g 4 g0 (.done 1)))
theorem ZJd(h:D.length<=99000)(hw:ws.length<=90000)(hnl:nm.length<=1000)(hnA:∀ a∈nm,a<128)(k:Kn L [(72,.obj (.p 53)),(162,.list (stv ws)),(66,.str nm),(171,.bool b)]):exs CL [b73] ⟨L,hD D,0,[53]⟩=some (.next,⟨L,hD (D++[.tg (nm.map lowC) ws b]),0,[53]⟩):=by
 have hlo:=Yp hnA hnl
 have g:=gst (qA hw (by decide:90000<=100000))
 have hc:=ZHO (C:=CL) (L:=L) (H:=hD D) (nx:=0) (P:=[53]) ws
 have g0:=gD1 h 0 (by decide)
 unfold hD at *
 rw[QV]
 refine JC.exs' ?_
 exact .v 0 (k.get 72 rfl) (.v 2 (k.get 66 rfl) (.v 0 hlo (.v 0 (k.get 162 rfl) (.g 1 g (.l 0 hc (.v 0 (k.get 171 rfl) (.g 3 g0 (.done 2))))))))
theorem ZZ(h:y.length<=900)(e:y.isEmpty=b):Mine.Jk σ0 (.str y)=some (!b):=by
 rw[DU (mx h),e]
theorem ZJc(h:D.length<=99000)(hl:t2.length<=900)(k:Kn L [(72,.obj (.p 53)),(173,.str t2)]):exs CL [b74] ⟨L,hD D,0,[53]⟩=some (.next,⟨put L 72 (.obj (.p 53)),hD (D++bif t2.isEmpty then [] else [.er t2]),0,[53]⟩):=by
 have g1:=gD1 h 1 (by decide)
 have g0:=gD1 h 0 (by decide)
 unfold hD
 rw[QV]
 refine JC.exs' ?_
 cases hb:t2.isEmpty with
 |true=>exact .v 0 (k.get 72 rfl) (.v 0 (k.get 173 rfl) (.b 0 (ZZ hl hb) (.g 3 g0 (.done 1))))
 |false=>exact .v 0 (k.get 72 rfl) (.v 0 (k.get 173 rfl) (.b 0 (ZZ hl hb) (.v 0 (k.get 173 rfl) (.g 4 g1 (.done 1)))))
theorem ZJb(h:D.length<=99000)(hl:t3.length<=900)(k:Kn L [(72,.obj (.p 53)),(174,.str t3)]):exs CL [b75] ⟨L,hD D,0,[53]⟩=some (.next,⟨put L 72 (.obj (.p 53)),hD (D++bif t3.isEmpty then [] else [.ch t3]),0,[53]⟩):=by
 have g1:=gD1 h 1 (by decide)
 have g0:=gD1 h 0 (by decide)
 unfold hD
 rw[QV]
 refine JC.exs' ?_
 cases hb:t3.isEmpty with
 |true=>exact .v 0 (k.get 72 rfl) (.v 0 (k.get 174 rfl) (.b 0 (ZZ hl hb) (.g 3 g0 (.done 1))))
 |false=>exact .v 0 (k.get 72 rfl) (.v 0 (k.get 174 rfl) (.b 0 (ZZ hl hb) (.v 0 (k.get 174 rfl) (.g 4 g1 (.done 1)))))
theorem ZJa(hb:tx.length<=900)(hl:t1.length<=900)(k:Kn L [(1,.str tx),(169,.int (e:Nat)),(172,.str t1)]):exs CL [b76] ⟨L,H,nx,P⟩=some (.next,⟨put L 1 (.str (tx.take (e+1)++t1)),H,nx,P⟩):=by
 have hs:=Ge (s:=tx) (j:=(e+1:Nat)) (e+1) rfl (mx hb)
 have hc:=Q6 (a:=tx.take (e+1)) (b:=t1) (k:=1800) (qA (qQ (qA (xR _ _) hb) hl) (by decide)) (by decide)
 refine JC.exs' ?_
 exact .v 0 (k.get 1 rfl) (.v 0 (k.get 169 rfl) (.v 1 hs (.v 0 (k.get 172 rfl) (.v 0 hc (.done 1)))))
theorem ZJg(hb:y.length<=900)(k:Kn L [(117,.str y)]):exs CL [b70] ⟨L,H,nx,P⟩=some (.next,⟨put L 171 (.bool (QK y [])),H,nx,P⟩):=by
 refine JC.exs' ?_
 exact .v 0 (k.get 117 rfl) (.v 0 (ZDc hb) (.b 0 (last_eq (y:=y)) (.done 1)))
end
section
variable{C:Ora}{L E:List (Nat×Mine.V)}{H:List (Id×Ob)}{nx:Nat}{P:List Nat}{ns:List Int}{v:Mine.V}{d:Int}{k a e i:Nat}{o:Option (List Nat)}{tx x m w y nm t1 t2 t3:List Nat}{D:List Tok4}{fs ws:List (List Nat)}{b c:Bool}
theorem D0:∀ (r pr:List Nat) (ws:List (List Nat)),(inF c r pr ws).1.length<=4*r.length+1/\(inF c r pr ws).2.length<=ws.length+r.length:=fun l0=>by
 induction l0 with
 |nil =>
  intro pr ws
  refine⟨?_,qF _⟩
  show (bif Nat.blt (bkS pr).length pr.length&&!c then [bif Js pr then Ug else Uh] else []).length<=_
  cases (Nat.blt (bkS pr).length pr.length&&!c)<;>exact qE rfl
 |cons a r ih =>
  intro pr ws
  obtain⟨h1,h2⟩:=DX (c:=c) (a:=a) (r:=r) (pr:=pr) (ws:=ws)
  obtain⟨h3,h4⟩:=ih (a::pr) (stF c a r pr ws).2
  refine⟨?_,qA h4 (by rw[List.length_cons,<- Nat.add_assoc,Nat.add_right_comm];exact qO h2 _)⟩
  show ((stF c a r pr ws).1++_).length<=_
  rw[List.length_append,List.length_cons,Nat.mul_succ,Nat.add_right_comm,Nat.add_comm]
  exact qQ h3 h1
theorem ZGA:∀ x:List Nat,cl? x=true->∃ r,x=ins x++62::r:=fun l0=>by
 induction l0 with
 |nil =>
  exact fun h=>ff h
 |cons a x ih =>
  intro h
  by_cases h62:a=62
  ·subst h62;exact⟨x,rfl⟩
  ·have e:=Yr (w:=x) (Ja h62)
   have h:Nat.blt (ins (a::x)).length (a::x).length=true:=h
   rw[e] at h
   obtain⟨r,hr⟩:=ih (Nat.ble_eq_true_of_le (xQ (qE h)):Nat.blt (ins x).length x.length=true)
   exact⟨r,by rw[e];exact congrArg (a::·) hr⟩
theorem Nd(x:List Nat):(ins x).length<=x.length:=(qM _).length_le
theorem Bi:∀ x:List Nat,(x.flatMap tI).length<=2*x.length:=fun l0=>by
 induction l0 with
 |nil =>
  exact qF _
 |cons a x ih =>
  show (tI a++x.flatMap tI).length<=_
  rw[List.length_append,List.length_cons,Nat.mul_succ,Nat.add_comm]
  exact qQ ih Gb
theorem ZJX(hD:D.length<=90000)(hb:tx.length<=900)(hl1:t1.length<=900)(hl2:t2.length<=900)(hl3:t3.length<=900)(hy:y.length<=900)(hw:ws.length<=90000)(hnl:nm.length<=1000)(hnA:∀ a∈nm,a<128)(k:Kn L (E8 nm t1 t2 t3 tx (e:Nat) y ws))(N:NoQ L):
  ∃ L',exs CL [b70,b71,b72,b73,b74,b75,b76] ⟨L,Mine.hD D,0,[53]⟩=some (.next,⟨L',Mine.hD (D++(emT (!ws.isEmpty) (QK y [])++.tg (nm.map lowC) ws (QK y [])::((bif t2.isEmpty then [] else [.er t2])++bif t3.isEmpty then [] else [.ch t3]))),0,[53]⟩)/\Kn L' [(1,.str (tx.take (e+1)++t1)),(66,.str nm),(72,.obj (.p 53))]/\NoQ L':=by
 have k0:=k.put 171 (.bool (QK y []))
 have k1:=k0.put 72 (.obj (.p 53))
 have k2:=k1.put 72 (.obj (.p 53))
 have k3:=k2.put 72 (.obj (.p 53))
 have k4:=k3.put 72 (.obj (.p 53))
 have k5:=k4.put 1 (.str (tx.take (e+1)++t1))
 have bl:∀ {X:Tok4} {b:Bool} {n:Nat} {D:List Tok4},D.length<=90000+n->(D++bif b then [X] else []).length<=90000+(n+1):=fun {X b n D} h=>by
  rw[List.length_append]
  refine qQ (b:=90000+n) (d:=1) h ?_
  cases b<;>exact qE rfl
 have bl2:∀ {X:Tok4} {b:Bool} {n:Nat} {D:List Tok4},D.length<=90000+n->(D++bif b then [] else [X]).length<=90000+(n+1):=fun {X b n D} h=>by
  rw[List.length_append]
  refine qQ (b:=90000+n) (d:=1) h ?_
  cases b<;>exact qE rfl
 have d1:=bl (X:=.er Qa) (b:=!ws.isEmpty) (n:=0) hD
 have d2:=bl (X:=.er Zk) (b:=QK y []) d1
 have d3:=bl (X:=.tg (nm.map lowC) ws (QK y [])) (b:=true) d2
 have d4:=bl2 (X:=.er t2) (b:=t2.isEmpty) d3
 have h0:=ZJg (H:=Mine.hD D) (nx:=0) (P:=[53]) hy (.cons (k.get 117 rfl) .nil)
 have h1:=ZJf (qA hD (by decide)) hw (k0.sub [72,162])
 have h2:=ZJe (b:=QK y []) (qA d1 (by decide)) (k1.sub [72,171])
 have h3:=ZJd (b:=QK y []) (qA d2 (by decide)) hw hnl hnA (k2.sub [72,162,66,171])
 have h4:=ZJc (qA d3 (by decide)) hl2 (k2.sub [72,173])
 have h5:=ZJb (qA d4 (by decide)) hl3 (k3.sub [72,174])
 have h6:=ZJa (H:=Mine.hD (D++(emT (!ws.isEmpty) (QK y [])++.tg (nm.map lowC) ws (QK y [])::((bif t2.isEmpty then [] else [.er t2])++bif t3.isEmpty then [] else [.ch t3])))) (nx:=0) (P:=[53]) hb hl1 (k4.sub [1,169,172])
 refine⟨k5.lc,?_,k5.sub [1,66,72],(((((N.put 171 (v:=.bool (QK y [])) fun J J=>rfl).put 72 XG).put 72 XG).put 72 XG).put 72 XG).put 1 (v:=.str (tx.take (e+1)++t1)) fun J J=>rfl⟩
 refine(J9 (s:=[b70]) h0).trans ((J9 (s:=[b71]) h1).trans ((J9 (s:=[b72]) h2).trans ((J9 (s:=[b73]) h3).trans ((J9 (s:=[b74]) h4).trans ((J9 (s:=[b75]) ?_).trans h6)))))
 refine h5.trans ?_
 unfold emT
 simp only[List.append_assoc]
 rfl
theorem ZEt(d:Int):tlT (tlN (ktl d)).1=(bif (tlN (ktl d)).2.1.isEmpty then [] else [.er (tlN (ktl d)).2.1])++bif (tlN (ktl d)).2.2.isEmpty then [] else [.ch (tlN (ktl d)).2.2]:=by
 have h:∀ k∈List.range 5,tlT (tlN k).1=(bif (tlN k).2.1.isEmpty then [] else [.er (tlN k).2.1])++bif (tlN k).2.2.isEmpty then [] else [.ch (tlN k).2.2]:=JE (by kernel_rfl)
 exact h _ (Uz (m:=5) (by decide) (d / 3))
theorem ZEq(d:Int):(tlN (ktl d)).1.length<=900/\(tlN (ktl d)).2.1.length<=900/\(tlN (ktl d)).2.2.length<=900:=by
 have h:∀ k∈List.range 5,(Nat.ble (tlN k).1.length 900&&(Nat.ble (tlN k).2.1.length 900&&Nat.ble (tlN k).2.2.length 900))=true:=JE (by kernel_rfl)
 exact bA (h _ (Uz (m:=5) (by decide) (d / 3))) fun h1 h=>bA h fun h2 h3=>⟨qE h1,qE h2,qE h3⟩
theorem ar5(e a b:Nat):e+2+a+b+1=e+(a+(b+1)+2):=by
 rw[Nat.add_comm (a+(b+1)) 2,<- Nat.add_assoc 2,Nat.add_assoc e 2,Nat.add_assoc e (2+a)];rfl
theorem ZEn{tl r:List Nat}(hd:tx.drop e=60::47::w)(hr:JG w=ins (JG w)++62::r):tx.take (e+2+(ltr w).length+(ins (JG w)).length+1)++tl=tx.take e++60::47::(ltr w++(ins (JG w)++clo true tl)):=by
 have h1:=List.take_length_add_append (l₁:=ins (JG w)) (l₂:=62::r) 1
 rw[<- hr] at h1
 have h2:=List.take_length_add_append (l₁:=ltr w) (l₂:=JG w) ((ins (JG w)).length+1)
 rw[K1,h1] at h2
 rw[ar5,List.take_add,hd,List.append_assoc]
 show _++60::47::(w.take ((ltr w).length+((ins (JG w)).length+1))++tl)=_
 rw[h2,List.append_assoc,List.append_assoc];rfl
theorem ZFx{q:Nat}(hb:tx.length<=300)(ha:∀ a∈tx,a∈al)(k:Kn L [(1,.str tx),(66,.str (nmN q)),(172,.str (tlN (ktl d)).1),(173,.str (tlN (ktl d)).2.1),(174,.str (tlN (ktl d)).2.2),(37,.int (enN q tx:Nat)),(72,.obj (.p 53))])(N:NoQ L):
  ∃ L',exc CL L7 ⟨L,hD ((tx.take (enN q tx)).flatMap tI++qT (enM q tx)),0,[53]⟩=some (.next,⟨L',hD (WG (some (J8 q)) (tlN (ktl d)).1 tx),0,[53]⟩)/\Kn L' [(1,.str (txT (some (J8 q)) (tlN (ktl d)).1 tx)),(66,.str (nmN q)),(72,.obj (.p 53))]/\NoQ L':=by
 have hb9:tx.length<=900:=qA hb (by decide)
 obtain⟨h2,h3,-⟩:=ON q
 have h2:(nmN q).length<=900:=qA h2 (by decide)
 unfold WG txT
 show ∃ L',exc CL L7 _=some (FL.next,⟨L',hD ((tx.take (enN q tx)).flatMap tI++match tx.drop (enN q tx) with |[]=>qT (enM q tx) |_::w=>UM ((ltr w.tail).map lowC) (tlN (ktl d)).1 (JG w.tail)),0,[53]⟩)/\Kn L' [(1,.str (tx.take (enN q tx)++match tx.drop (enN q tx) with |[]=>[] |_::w=>60::47::(ltr w.tail++(ins (JG w.tail)++clo (cl? (JG w.tail)) (tlN (ktl d)).1)))),(66,.str (nmN q)),(72,.obj (.p 53))]/\NoQ L'
 have hfit:=DG (n:=some (J8 q)) tx 77
 have hle:enN q tx<=tx.length:=GE tx 77
 generalize hem:enM q tx=em
 generalize he:enN q tx=e at k hle
 by_cases hlt:e<tx.length
 ·obtain⟨w,hd,hf,hD'⟩:=hfit (show enN q tx<tx.length from he▸hlt)
  have hd:tx.drop e=60::47::w:=he▸hd
  have hq0:qT em=[]:=by
   unfold qT
   rw[<- hem,show isD (enM q tx)=false from hD'];rfl
  rw[hq0,List.append_nil]
  generalize hm:nmN q=m at h2 h3 k
  obtain⟨l1,l2,l3⟩:=ZEq d
  refine bA hf fun hf1 hf2=>?_
  have hml:(ltr w).map lowC=m.map lowC:=hm▸Option.some.inj (beq_iff_eq.mp hf1)
  have hl:m.length=(ltr w).length:=by have:=congrArg List.length hml;rw[List.length_map,List.length_map] at this;exact this.symm
  have hdx:tx.drop (e+2+m.length)=JG w:=by rw[<- List.drop_drop,<- List.drop_drop,hd,hl];rfl
  have hs:e+2+m.length<=tx.length:=by
   have hx:=congrArg List.length hd
   rw[List.length_drop] at hx
   have hlw:(ltr w).length<=w.length:=(qM _).length_le
   rw[hl,Nat.add_assoc]
   refine qA (qI (?_:2+(ltr w).length<=tx.length-e) e) (qV (Nat.add_sub_cancel' (xG hlt)))
   rw[hx,Nat.add_comm]
   exact qO hlw 2
  have htr:Nat.blt e tx.length=true:=ble hlt
  have ht:tst CL s7T ⟨L,hD ((tx.take e).flatMap tI),0,[53]⟩=some (true,⟨L,hD ((tx.take e).flatMap tI),0,[53]⟩):=by
   refine JC.tst' ?_
   exact .v 0 (k.get 37 rfl) (.v 0 (k.get 1 rfl) (.v 0 (QL (mx hb9)) (.b 0 (slt hlt) (.done 2))))
  have hxl:(JG w).length<=300:=qA (hdx▸dle tx _) hb
  have hil:(ins (JG w)).length<=300:=qA (Nd _) hxl
  have hiA:∀ a∈ins (JG w),a<128:=fun a h=>IK ha a (List.mem_of_mem_drop (hdx▸(qM _).subset h:a∈tx.drop (e+2+m.length)))
  obtain⟨f1,f2⟩:=D0 (c:=cl? (JG w)) (ins (JG w)) [] []
  have f1:=qA f1 (qJ (xB 4 hil))
  have f2:=qA f2 (qA (qV (Nat.zero_add _)) hil)
  have dl:((tx.take e).flatMap tI).length<=600:=qA (Bi _) (xB 2 (qA (xR _ _) hb))
  obtain⟨L1,e1,k1,N1⟩:=ZJZ (H:=hD ((tx.take e).flatMap tI)) (nx:=0) (P:=[53]) hb9 h2 hs hdx k N
  obtain⟨L2,e2,k2,N2⟩:=ZJY (qA hil (by decide)) hiA (qA dl (by decide)) (qA f1 (by decide)) k1 N1
  rw[hd]
  show ∃ L',exc CL L7 _=some (FL.next,⟨L',hD ((tx.take e).flatMap tI++UM ((ltr w).map lowC) (tlN (ktl d)).1 (JG w)),0,[53]⟩)/\Kn L' [(1,.str (tx.take e++60::47::(ltr w++(ins (JG w)++clo (cl? (JG w)) (tlN (ktl d)).1)))),(66,.str m),(72,.obj (.p 53))]/\NoQ L'
  have hge:=IC (k:=e+2+m.length) (x:=JG w)
  have hpre:∀ {τ},exs CL ([.iff c75 [b70,b71,b72,b73,b74,b75,b76] []]) ⟨L2,hD ((tx.take e).flatMap tI++(inF (cl? (JG w)) (ins (JG w)) [] []).1.map .er),0,[53]⟩=some (.next,τ)->exc CL L7 ⟨L,hD ((tx.take e).flatMap tI),0,[53]⟩=some (.next,τ):=fun h=>U2 ((XW ht).trans ((J9 (s:=[a70,a71,a72]) e1).trans ((J9 (s:=[a73,a74]) e2).trans h)))
  have htc:tst CL c75 ⟨L2,hD ((tx.take e).flatMap tI++(inF (cl? (JG w)) (ins (JG w)) [] []).1.map .er),0,[53]⟩=some (cl? (JG w),⟨L2,hD ((tx.take e).flatMap tI++(inF (cl? (JG w)) (ins (JG w)) [] []).1.map .er),0,[53]⟩):=by
   refine JC.tst' ?_
   exact .v 0 (k2.get 169 rfl) (.b 0 hge (.b 0 (Za (b:=cl? (JG w))) (.done 1)))
  unfold UM
  cases hc:cl? (JG w) with
  |false =>
   rw[hc] at htc hpre k2
   refine⟨L2,hpre ((Wo htc).trans ?_),?_,N2⟩
   ·exact congrArg (fun z=>some (FL.next,(⟨L2,hD ((tx.take e).flatMap tI++z),0,[53]⟩:St))) (List.append_nil _).symm
   ·have et:tx.take e++60::47::(ltr w++(ins (JG w)++clo false (tlN (ktl d)).1))=tx:=by
     rw[show clo false (tlN (ktl d)).1=[] from rfl,List.append_nil,K5 hc,K1,<- hd,List.take_append_drop]
    rw[et]
    exact k2.sub [1,66,72]
  |true =>
   rw[hc] at htc hpre k2 f1 f2
   have k2:Kn L2 (E8 m (tlN (ktl d)).1 (tlN (ktl d)).2.1 (tlN (ktl d)).2.2 tx ((e+2+m.length+(ins (JG w)).length:Nat):Int) (ins (JG w)) (inF true (ins (JG w)) [] []).2):=by
    have e0:clP (e+2+m.length) (JG w)=((e+2+m.length+(ins (JG w)).length:Nat):Int):=by unfold clP;rw[hc];rfl
    rw[e0] at k2
    exact k2
   obtain⟨L3,e3,k3,N3⟩:=ZJX (D:=(tx.take e).flatMap tI++(inF true (ins (JG w)) [] []).1.map .er) (by
    rw[List.length_append,List.length_map]
    exact qA (qQ dl f1) (by decide)) hb9 l1 l2 l3 (qA hil (by decide)) (qA f2 (by decide)) (qA h2 (by decide)) h3 k2 N2
   refine⟨L3,hpre ((XW htc).trans (e3.trans ?_)),?_,N3⟩
   ·rw[hml,ZEt,List.append_assoc];rfl
   ·obtain⟨r,hr⟩:=ZGA (JG w) hc
    have et:=ZEn (tl:=(tlN (ktl d)).1) hd hr
    rw[<- hl] at et
    rw[<- et]
    exact k3
 ·have ht:tst CL s7T ⟨L,hD ((tx.take e).flatMap tI++qT em),0,[53]⟩=some (false,⟨L,hD ((tx.take e).flatMap tI++qT em),0,[53]⟩):=by
   refine JC.tst' ?_
   exact .v 0 (k.get 37 rfl) (.v 0 (k.get 1 rfl) (.v 0 (QL (mx hb9)) (.b 0 (Wb hlt) (.done 2))))
  have hel:e=tx.length:=xN hle (Nat.not_lt.mp hlt)
  rw[List.drop_of_length_le (qV hel.symm)]
  refine⟨L,U2 ((Wo ht).trans rfl),?_,N⟩
  have et:tx.take e++([]:List Nat)=tx:=by rw[List.append_nil,List.take_of_length_le (qV hel.symm)]
  show Kn L [(1,.str (tx.take e++[])),(66,.str (nmN q)),(72,.obj (.p 53))]
  rw[et]
  exact k.sub [1,66,72]
end
noncomputable def L8:MS:=.asg 81 (.new 3 30 [(.loc 1)] .tmp)
noncomputable def L9:MS:=.asgA (.loc 81) 42 3 (.bm (.loc 81) 184 3 77)
def L10:MS:=.asgA (.loc 81) 45 3 (.dct [wC,wQ,wB] [(.sub (.glob UC) (.k (.str vA))),(.loc 66),(.lst [] .frz)] .frz)
def hpL(t:List Nat)(r:List (Id×Ob)):List (Id×Ob):=(.t 5,.list [])::(.t 4,.list [])::(.t 3,I3 t 0)::(.t 2,.list [.int 0])::(.t 1,I1 [] 0 0 0 0)::r
def fsT(st cur:Mine.V):List (Nat×Mine.V):=[(20,T1),(39,.none),(40,.bool false),(41,.obj (.t 5)),(42,st),(44,.bool false),(45,cur)]
section
variable{C:Ora}{L E:List (Nat×Mine.V)}{H:List (Id×Ob)}{nx:Nat}{P:List Nat}{ns:List Int}{v:Mine.V}{d:Int}{k a e i n:Nat}{o:Option (List Nat)}{tx x m w y nm t1 t2 t3 t:List Nat}{D:List Tok4}{fs ws:List (List Nat)}{b c:Bool}
theorem ZFw(k:Kn L [(1,.str t)]):exc CL L8 ⟨L,[],0,[]⟩=some (.next,⟨put L 81 T0,hpL t [(.t 0,.inst 3 (fsT (me 9) .none))],6,[]⟩):=by
 refine U2 (JC.exs' ?_)
 exact .v 0 (k.get 1 rfl) (.done 4)
theorem ZFv(k:Kn L [(81,T0)]):exc CL L9 ⟨L,hpL t [(.t 0,.inst 3 (fsT (me 9) .none))],6,[]⟩=some (.next,⟨L,hpL t [(.t 0,.inst 3 (fsT (me 77) .none))],6,[]⟩):=by
 refine U2 (JC.exs' ?_)
 exact .v 0 (k.get 81 rfl) (.v 2 (k.get 81 rfl) (.done 4))
theorem ZDb(k:Kn L [(81,T0),(66,.str m)]):exc CL L10 ⟨L,hpL t [(.t 0,.inst 3 (fsT (me 77) .none))],6,[]⟩=some (.next,⟨L,hpL t [(.t 0,.inst 3 (fsT (me 77) (cvS m)))],6,[]⟩):=by
 refine U2 (JC.exs' ?_)
 exact .v 1 (k.get 66 rfl) (.v 3 (k.get 81 rfl) (.done 4))
noncomputable def m0:MS:=.asgA (.loc 0) 48 3 (.lst [] .tmp)
def σG(t:List Nat)(cv:Mine.V):St:=⟨[(0,T0)],hpL t [(.t 0,.inst 3 (fsT (me 77) cv))]++[(.p 99,.list [])],6,[99]⟩
def σ1(t:List Nat)(cv:Mine.V):St:=⟨[(0,T0)],(.t 6,.list [])::hpL t [(.t 0,.inst 3 (fs0 (me 77) cv none)),(.p 99,.list [])],7,[99]⟩
theorem ZBU{cv:Mine.V}:exc C m0 (σG t cv)=some (.next,σ1 t cv):=by kernel_rfl
noncomputable def sx0(t:List Nat):Sx:=⟨[],0,0,0,0,t,0⟩
theorem ZCw{cv:Mine.V}:CT 77 [T0] (σ1 t cv)=CT 77 [T0] (S1 [] [] (sx0 t) 77 cv none):=by kernel_rfl
theorem ZCA{U:St}{k:Nat}{w:Mine.V}{Q:Prop}(h:Frz U k w)(e:JA U.hp (.p k)=none):Q:=by
 cases h with
 |l h _=>exact nn (e.symm.trans h)
 |d h _=>exact nn (e.symm.trans h)
theorem ZDo{m:GenM}{x x' y:St}{dn l:List Mine.V}(e:tst C m.t1 x=tst C m.t1 x')(G:GR C m true x' dn l y)(h:∀ k,k≠99->JA x'.hp (.p k)=none):GR C m true x dn l y:=
 GR.rec (motive:=fun ph U dn l U' J=>ph=true->tst C m.t1 x=tst C m.t1 U->(∀ k,k≠99->JA U.hp (.p k)=none)->GR C m true x dn l U') (fun h1 h2 J e J=>.stop (e.trans h1) h2) (fun h1 h2 h3 J J e J=>.turn (e.trans h1) h2 h3) (fun J J J p J J=>ff p) (fun J J J J J J p J J=>ff p) (fun h1 h2 J J J J n=>ZCA h1 (n _ h2)) G rfl e h
theorem ZHW{U U':St}(h:CT 77 [T0] U=CT 77 [T0] U')(e:tst CT gM.t1 U=bn (CT 77 [T0] U) (fun v τ=>bo (Jk τ v) fun b=>some (b,τ)):=by kernel_rfl)(e':tst CT gM.t1 U'=bn (CT 77 [T0] U') (fun v τ=>bo (Jk τ v) fun b=>some (b,τ)):=by kernel_rfl):tst CT gM.t1 U=tst CT gM.t1 U':=
 e.trans ((congrArg (bn · _) h).trans e'.symm)
theorem ZJ5(l:List Nat)(h:∀ a∈l,a≠10):Ua 10 l=0:=by
 unfold Ua
 rw[List.filter_eq_nil_iff.mpr fun a ha q=>h a ha (beq_iff_eq.mp q)];rfl
theorem ZJh:∀ (l:List Nat) (i:Nat) (z:Int),(∀ a∈l,a≠10)->QW 10 l i z=z:=fun l0=>by
 induction l0 with
 |nil =>
  exact fun J J J=>rfl
 |cons a l ih =>
  intro i z h
  show QW 10 l (i+1) (if a=10 then (i:Int) else z)=z
  rw[if_neg (h a (.head _))]
  exact ih (i+1) z fun x hx=>h x (.tail _ hx)
theorem ZJD(h:∀ a∈t,a∈al):∀ a∈t,a≠10:=fun a ha q=>absurd (q▸h a ha:10∈al) (by decide)
theorem ZFc(h:∀ a∈t,a∈al):JS t 0 0=(0,(t.length:Int)):=by
 have h10:=ZJD h
 unfold JS
 rw[ZJ5 t h10,ZJh t 0 (-1) h10,if_pos rfl]
 exact Prod.ext rfl (Int.zero_add _)
theorem ZH4(q:Nat):Nm (cvS (nmN q)) (some (J8 q)):=by
 obtain⟨h1,-,h3,h4,-⟩:=ON q
 exact⟨nmN q,h3,qA h1 (by decide),h4,rfl,rfl⟩
theorem ZFU{q:Nat}{n:Option (List Nat)}(hn:n=some (J8 q))(hl:t.length<=900)(ha:∀ a∈t,a∈al)(hE:okE n t 77):∃ l:List Tok4,l.all Tok4.ok=true/\JK l=Mine.E n t 77/\∃ s f cv tb,At t [] s/\CvOk cv/\GR CT gM true (σ1 t (cvS (nmN q))) [] (vs l) (S1 [] (vs l) s f cv tb):=by
 subst hn
 obtain⟨l,h1,h2,s,f,cv,tb,hA,hc,G⟩:=ZHI (src:=t) (ZH4 q) t.length 77 t none (by decide) hl (qF _) hE [] (sx0 t) (ZGD (qA hl (by decide)) ha (ZFc ha))
 exact⟨l,h1,h2,s,f,cv,tb,hA,hc,ZDo (ZHW ZCw) G fun k hk=>by
  show (if Id.p 99=.p k then _ else none)=none
  rw[if_neg fun q=>hk (by cases q;rfl)]⟩
end
def mkE:ME:=(.sub (.loc 83) (.k (.str wG)))
def mkC:ME:=(.cmp .eq (.sub (.loc 83) (.k (.str wC))) (.sub (.glob UC) (.k (.str wR))))
def L12:MS:=.asg 120 (.comp mkE 83 (.loc 82) mkC)
noncomputable def On:ME:=(.not (.isb (.loc 121)))
def L13:MS:=.ret (.and (.cmp .eq (.call 71 [(.loc 82)]) (.call 71 [(.loc 72)])) (.and (.cmp .eq (.comp (.loc 121) 121 (.loc 120) On) (.lst [] .frz)) (.cmp .eq (.mcall (.attr (.loc 81) 20 3) 176 1 68 []) (.tup [(.k (.int 1)),(.bi .len [(.loc 1)])]))))
def H0(f:Nat)(cv:Mine.V)(tb:Option (List Nat)):List (Id×Ob):=[(.t 6,.list []),(.t 5,.list []),(.t 4,.list []),(.t 2,.list [.int 0]),(.t 0,.inst 3 (fs0 (me f) cv tb))]
def Op(t:List Nat)(D:List Tok4):List (Nat×Mine.V):=[(1,.str t),(81,T0),(72,.list (vs D))]
def Z0(t:List Nat)(D l:List Tok4):List (Nat×Mine.V):=[(1,.str t),(81,T0),(72,.list (vs D)),(82,.list (vs l))]
def UA(t:List Nat)(D l:List Tok4)(M:List Mine.V):List (Nat×Mine.V):=[(1,.str t),(81,T0),(72,.list (vs D)),(82,.list (vs l)),(120,.list M)]
section
variable{C:Ora}{L E:List (Nat×Mine.V)}{H:List (Id×Ob)}{nx:Nat}{P:List Nat}{v cv:Mine.V}{f k n:Nat}{tb:Option (List Nat)}{t src:List Nat}{D l:List Tok4}{M:List Mine.V}{s:Sx}
theorem sbZ(hc:CvOk cv):(({ S1 [] (vs l) s f cv tb with loc:=Op t D }:St).sb 99 (.list (vs l))).setLoc 82 (.list (vs l))=⟨Z0 t D l,hs s (H0 f cv tb),7,[]⟩:=by
 have e:(({ S1 [] (vs l) s f cv tb with loc:=Op t D }:St).sb 99 (.list (vs l))).setLoc 82 (.list (vs l))=⟨[(1,.str t),(81,T0),(72,.list (V.sbs (.p 99) (.list (vs l)) (vs D))),(82,.list (vs l))],hs s (H0 f (V.sb (.p 99) (.list (vs l)) cv) tb),7,[]⟩:=by
  cases tb<;>kernel_rfl
 rw[e,V.sbs_no _ (QN D),V.sb_no cv (hc.n _)];rfl
theorem ZBD:∀ l:List Tok4,∃ M,J3 (Jl (ev C mkE) (ev C mkC) 83 L) (vs l) ⟨L,H,nx,P⟩=some (M,⟨L,H,nx,P⟩)/\M.length<=l.length/\∀ x∈M,∃ b,x=.bool b:=fun l0=>by
 induction l0 with
 |nil =>
  exact⟨[],rfl,qF _,fun J h=>nomatch h⟩
 |cons t l ih =>
  obtain⟨M,e,hl,hM⟩:=ih
  have no:Jl (ev C mkE) (ev C mkC) 83 L t.v ⟨L,H,nx,P⟩=some (none,⟨L,H,nx,P⟩)->∃ M,J3 (Jl (ev C mkE) (ev C mkC) 83 L) (vs (t::l)) ⟨L,H,nx,P⟩=some (M,⟨L,H,nx,P⟩)/\M.length<=(t::l).length/\∀ x∈M,∃ b,x=.bool b:=fun h=>by
   refine⟨M,?_,xO hl,hM⟩
   show bn (Jl (ev C mkE) (ev C mkC) 83 L t.v ⟨L,H,nx,P⟩) _=_
   rw[h]
   show bn (J3 _ (vs l) ⟨L,H,nx,P⟩) _=_
   rw[e];rfl
  cases t with
  |ch x=>exact no (by kernel_rfl)
  |sp x=>exact no (by kernel_rfl)
  |er x=>exact no (by kernel_rfl)
  |tg n ws sc =>
   have h:Jl (ev C mkE) (ev C mkC) 83 L (Jq n ws sc) ⟨L,H,nx,P⟩=some (some (.bool sc),⟨L,H,nx,P⟩):=by kernel_rfl
   refine⟨.bool sc::M,?_,qJ hl,fun x hx=>?_⟩
   ·show bn (Jl (ev C mkE) (ev C mkC) 83 L (Jq n ws sc) ⟨L,H,nx,P⟩) _=_
    rw[h]
    show bn (J3 _ (vs l) ⟨L,H,nx,P⟩) _=_
    rw[e];rfl
   ·cases hx with
    |head=>exact⟨_,rfl⟩
    |tail _ hx=>exact hM x hx
theorem ZBu:∀ M:List Mine.V,(∀ x∈M,∃ b,x=.bool b)->J3 (Jl (ev C (.loc 121)) (ev C On) 121 L) M ⟨L,H,nx,P⟩=some ([],⟨L,H,nx,P⟩):=fun l0=>by
 induction l0 with
 |nil =>
  exact fun J=>rfl
 |cons v l ih =>
  intro h
  obtain⟨b,rfl⟩:=h v (.head _)
  have hF:Jl (ev C (.loc 121)) (ev C On) 121 L (.bool b) ⟨L,H,nx,P⟩=some (none,⟨L,H,nx,P⟩):=by kernel_rfl
  show bn (Jl _ _ 121 L (.bool b) ⟨L,H,nx,P⟩) _=_
  rw[hF]
  show bn (J3 _ l ⟨L,H,nx,P⟩) _=_
  rw[ih fun x hx=>h x (.tail _ hx)];rfl
theorem ZDa(hl:l.length<=100000):∃ M,exc C L12 ⟨Z0 t D l,H,nx,P⟩=some (.next,⟨UA t D l M,H,nx,P⟩)/\M.length<=100000/\∀ x∈M,∃ b,x=.bool b:=by
 obtain⟨M,e,h1,h2⟩:=ZBD (C:=C) (L:=Z0 t D l) (H:=H) (nx:=nx) (P:=P) l
 have g:Nat.ble (vs l).length JB=true:=ble (by rw[List.length_map];exact qA hl (by decide))
 refine⟨M,JC.exc' ?_,qA h1 hl,h2⟩
 exact .g 1 g (.l 0 e (.done 1))
theorem ZBX:∀ ws:List (List Nat),datVs (ws.map att)=true:=fun l0=>by
 induction l0 with
 |nil =>
  exact rfl
 |cons _ ws ih =>
  exact ih
theorem ZCT:∀ ws:List (List Nat),deps (ws.map att)<=1:=fun l0=>by
 induction l0 with
 |nil =>
  exact qG _
 |cons w ws ih =>
  exact Nat.max_le.mpr ⟨qF _,ih⟩
theorem ZCt(t:Tok4):YO t.v=true:=by
 cases t with
 |ch x=>rfl
 |sp x=>rfl
 |er x=>rfl
 |tg n ws sc =>
  show ((datVs (ws.map att)&&true)&&Nat.ble (max 0 (max 0 (max (deps (ws.map att)+1) (max 0 0)))+1) 50)=true
  rw[ZBX]
  exact ble (qA (qJ (Nat.max_le.mpr ⟨qG _,Nat.max_le.mpr ⟨qG _,Nat.max_le.mpr ⟨qJ (ZCT ws),qG _⟩⟩⟩)) (by decide:3<=50))
theorem ZFV(l:List Tok4):(vs l).all YO=true:=List.all_eq_true.mpr fun v hv=>by
 obtain⟨t,_,rfl⟩:=List.mem_map.mp hv
 exact ZCt t
theorem ZEQ{U:St}{A:List Mine.V}(hr:A.all YO=true):QJ U .eq (.list A) (.list A)=some true:=by
 show gd (V.beqs A A&&A.all YO) (some true)=_
 rw[V.beqs_refl,hr];rfl
theorem clZ(h:CvOk cv)(hM:∀ x∈M,∃ b,x=.bool b):Cln 50 (UA t D l M) (hs s (H0 f cv tb)) []:=by
 have hn:V.nos (.p 50) M=true:=by
  clear h
  induction M with
  |nil=>rfl
  |cons x M ih =>
   obtain⟨b,rfl⟩:=hM x (.head _)
   exact ih fun y hy=>hM y (.tail _ hy)
 refine⟨fun w=>?_,fun w=>?_,by cases tb<;>rfl,fun h=>nomatch h⟩
 ·show [(1,Mine.V.str t),(81,T0),(72,.list (V.sbs (.p 50) w (vs D))),(82,.list (V.sbs (.p 50) w (vs l))),(120,.list (V.sbs (.p 50) w M))]=_
  rw[V.sbs_no _ (QN D),V.sbs_no _ (QN l),V.sbs_no _ hn];rfl
 ·have e:Q2 (.p 50) w (hs s (H0 f cv tb))=hs s (H0 f (V.sb (.p 50) w cv) tb):=by cases tb<;>kernel_rfl
  rw[e,V.sb_no cv (h.n _)]
theorem ZFb(hA:At src [] s):CL 68 [T1] ⟨L,hs s H,7,[]⟩=some (.tup [.int 1,.int src.length],⟨L,hs s H,7,[]⟩):=hA.el fun ch off l1 l2 h1 h2 h3 h4 h5 h6=>by
 subst h1
 cases Yh h2 h3
 have hp:=ZC (x:=none) (n:=6) (L:=[(0,T1)]) (H:=H) (nx:=7) (P:=[]) (ch:=ch) (sz:=ch.length) (off:=ch.length) (l1:=l1) (l2:=l2) (o3:=I3 src src.length)
 rw[h6] at hp
 show JH tT 8 68 [T1] ⟨L,hs (st ch src ch.length l1 l2) H,7,[]⟩=_
 refine J7 (n:=7) ?_
 exact .c 4 hp (.done 2)
theorem ZDZ(hc:CvOk cv)(hA:At t [] s)(ht:t.length<=900)(hok:l.all Tok4.ok=true)(hokD:D.all Tok4.ok=true)(hfl:JK l=JK D)(hz:sz D<=100000)(hMl:M.length<=100000)(hM:∀ x∈M,∃ b,x=.bool b):exc CL L13 ⟨UA t D l M,hs s (H0 f cv tb),7,[]⟩=some (.ret (.bool true),⟨UA t D l M,hs s (H0 f cv tb),7,[]⟩):=by
 have cl:=clZ (t:=t) (D:=D) (l:=l) (s:=s) (f:=f) (tb:=tb) hc hM
 have j1:CL 71 [.list (vs l)] ⟨UA t D l M,hs s (H0 f cv tb),7,[]⟩=some (.list (vs (jn (JK l))),⟨UA t D l M,hs s (H0 f cv tb),7,[]⟩):=Bg (n:=2) cl hok (by unfold sz;rw[hfl];exact hz)
 have j2:CL 71 [.list (vs D)] ⟨UA t D l M,hs s (H0 f cv tb),7,[]⟩=some (.list (vs (jn (JK D))),⟨UA t D l M,hs s (H0 f cv tb),7,[]⟩):=Bg (n:=2) cl hokD hz
 rw[hfl] at j1
 have he:=ZEQ (U:=⟨UA t D l M,hs s (H0 f cv tb),7,[]⟩) (ZFV (jn (JK D)))
 have hn:=ZBu (C:=CL) (L:=UA t D l M) (H:=hs s (H0 f cv tb)) (nx:=7) (P:=[]) M hM
 have g:Nat.ble M.length JB=true:=ble (qA hMl (by decide))
 have hp:=ZFb (L:=UA t D l M) (H:=H0 f cv tb) hA
 have h2:some ((((1:Int),(t.length:Int)).1==(((1:Int),(t.length:Int)).1))&&(((1:Int),(t.length:Int)).2==((1:Int),(t.length:Int)).2))=some true:=congrArg some (Bool.and_eq_true_iff.mpr ⟨beq_self_eq_true _,beq_self_eq_true _⟩)
 refine JC.exc' ?_
 exact .c 0 j1 (.c 0 j2 (.b 0 he (.g 2 g (.l 0 hn (.c 7 hp (.v 0 (QL (mx ht)) (.b 0 h2 (.done 1))))))))
end
end Mine
end
noncomputable section
open PySem PySem.Calls PyProof.Rows PySem.W
namespace Mine
def fA1(f:Nat):Addr:=((fAT++[268])[f]?).getD 21
def gLa:List (Nat×Mine.V×Value):=[(86,Qm,.ref 22),(87,Up,.ref 27),(89,Xc,.ref 774),(90,.none,.none),(168,Bh,.ref 49),(178,D1,.ref 32)]
def gL1:List (Nat×Mine.V×Value):=(88,UC,.ref 48)::(166,.fn 0,.ref 236)::(167,Ul,.ref 43)::gLa
def cx1(prog:Program)(wd:World)(K:Frag):Cx:=Cx.mk prog wd K fA1 (fun n=>(cAT[n]?).getD 73) nm1 4 gL1 236 2 [(130,Ul),(137,YG),(132,.str []),(135,K6)]
noncomputable def ttL:List (Str×Tok×Int×Tok):=[(Str.ofString "Doctype",532,0,533),(Str.ofString "Characters",534,1,535),(Str.ofString "SpaceCharacters",536,2,537),(Str.ofString "StartTag",538,3,539),
 (Str.ofString "EndTag",540,4,541),(Str.ofString "EmptyTag",542,5,543),(Str.ofString "Comment",544,6,545),(Str.ofString "ParseError",546,7,547)]
noncomputable abbrev JF:=Str.ofString
def ZJ0:List (Str×Tok×Value):=[(JF "AMP",299,.str (JF "&") 300),(JF "AMP;",302,.str (JF "&") 303),(JF "Eacute",305,.str (JF "\u00c9") 306),(JF "Eacute;",308,.str (JF "\u00c9") 309),(JF "Mopf;",311,.str (JF "𝕄") 312),(JF "ac;",314,.str (JF "\u223e") 315),(JF "acE;",317,.str (JF "\u223e\u0333") 318),(JF "acute",320,.str (JF "\u00b4") 321),(JF "acute;",323,.str (JF "\u00b4") 324),(JF "amp",326,.str (JF "&") 327),(JF "amp;",329,.str (JF "&") 330),(JF "ang;",332,.str (JF "\u2220") 333),(JF "angle;",335,.str (JF "\u2220") 336),(JF "bne;",338,.str (JF "=\u20e5") 339),(JF "copy",341,.str (JF "\u00a9") 342),(JF "copy;",344,.str (JF "\u00a9") 345),(JF "eacute",347,.str (JF "\u00e9") 348),(JF "eacute;",350,.str (JF "\u00e9") 351),(JF "frac12",353,.str (JF "\u00bd") 354),(JF "frac12;",356,.str (JF "\u00bd") 357),(JF "gt",359,.str (JF ">") 360),(JF "gt;",362,.str (JF ">") 363),(JF "lt",365,.str (JF "<") 366),(JF "lt;",368,.str (JF "<") 369),(JF "nbsp",371,.str (JF "\u00a0") 372),(JF "nbsp;",374,.str (JF "\u00a0") 375),(JF "not",377,.str (JF "\u00ac") 378),(JF "not;",380,.str (JF "\u00ac") 381),(JF "notin;",383,.str (JF "\u2209") 384),(JF "notni;",386,.str (JF "\u220c") 387),(JF "para",389,.str (JF "\u00b6") 390),(JF "para;",392,.str (JF "\u00b6") 393),(JF "parallel;",395,.str (JF "\u2225") 396),(JF "quot",398,.str (JF "\"") 399),(JF "quot;",401,.str (JF "\"") 402),(JF "sup1",403,.str (JF "\u00b9") 404),(JF "sup1;",405,.str (JF "\u00b9") 406),(JF "sup2",407,.str (JF "\u00b2") 408),(JF "sup2;",409,.str (JF "\u00b2") 410),(JF "sup;",411,.str (JF "\u2283") 412),(JF "times",413,.str (JF "\u00d7") 414),(JF "times;",415,.str (JF "\u00d7") 416),(JF "timesb;",417,.str (JF "\u22a0") 418)]
noncomputable def NF(w: World)(l: List (Str × Tok × Value)): List DictEntry := l.map fun p => ⟨hashStr w p.1,.str p.1 p.2.1,p.2.2⟩
section
variable{c: Cx}{F: Addr -> Obj -> Prop}{ρ: Id -> Option Addr}
theorem ZAN: ∀ l: List (Str × Tok × Value),Pairs (strKind c.prog c.w) (NF c.w l) (l.map fun p => (p.1,p.2.2)) := fun l0 => by
 induction l0 with
 |nil =>
  exact .nil
 |cons p l ih =>
  exact .cons (beq_self_eq_true p.1) rfl (ih)
theorem DK(hF: ∀ a o,c.K.lookup a = some o -> F a o): ∀ {l: List Mine.V} {xs: List Value},chkVs c.K l xs = true -> VRs c F ρ l xs
 |[],xs,h => UN h .nil
 |v::l,[],h => ff h
 |v::l,x::xs,h => bA h fun a b => .cons (Y5 hF a) (DK hF b)
theorem ZCR{l: List (Str × Tok × Value)}{ks: List (List Nat)}{vs: List Mine.V}{a: Addr}{n: Nat}(hl: c.K.lookup a = some ⟨.type "dict",none,.dict (NF c.w l).toArray n,#[]⟩)
  (hk: l.map (·.1) = ks.map toS) (hv: chkVs c.K vs (l.map (·.2.2)) = true) (hn: YB (l.map (·.1)) = true) (ha: (a == sysModules) = false) (hF: ∀ a o,c.K.lookup a = some o -> F a o): VR c F ρ (.dict ks vs) (.ref a) :=
 .dict (kvs := l.map fun p => (p.1,p.2.2)) (hF _ _ hl) ⟨_,_,⟨rfl,rfl,rfl⟩,rfl,fun e he => by
  obtain⟨p,hp,rfl⟩ := List.mem_map.mp (List.mem_toArray.mp he)
  exact⟨p.1,beq_self_eq_true p.1,rfl⟩,ZAN l,by rw[List.map_map];exact Ka hn⟩ (by rw[List.map_map];exact hk) (by rw[List.map_map];exact DK hF hv) ha
end
theorem ZBB: nmT.Nodup := by decide +kernel
theorem B7: ∀ x ∈ nmT,x.head? ≠ some 0 := by decide +kernel
theorem ZDN(i j: Nat)(h: nm1 i = nm1 j): i = j := by
 unfold nm1 at h
 have h := Ur h
 cases hi: nmT[i]? with
 |none =>
  cases hj: nmT[j]? with
  |none =>
   rw[hi,hj] at h
   simpa using congrArg List.length h
  |some y =>
   rw[hi,hj] at h
   have h: 0::List.replicate i 1 = y := h
   exact absurd (by rw[<- h];rfl) (B7 y (List.mem_of_getElem? hj))
 |some x =>
  cases hj: nmT[j]? with
  |none =>
   rw[hi,hj] at h
   have h: x = 0::List.replicate j 1 := h
   exact absurd (by rw[h];rfl) (B7 x (List.mem_of_getElem? hi))
  |some y =>
   rw[hi,hj] at h
   have h: x = y := h
   subst h
   obtain⟨hl,_⟩ := List.getElem?_eq_some_iff.mp hi
   exact(List.getElem?_inj hl ZBB).mp (hi.trans hj.symm)
theorem Gl{y: List Nat}(hy: y.head? ≠ some 0)(hn: y∉nmT)(i: Nat): nm1 i ≠ toS y := fun h => by
 unfold nm1 at h
 have h := Ur h
 cases hi: nmT[i]? with
 |none => rw[hi] at h;exact hy (by rw[<- h];rfl)
 |some x => rw[hi] at h;exact hn (h ▸ List.mem_of_getElem? hi)
theorem ZDO(i: Nat): (nm1 i == ("__debug__" : Str)) = false := by
 have e: ("__debug__" : Str) = toS [95,95,100,101,98,117,103,95,95] := by decide +kernel
 rw[e,beq_eq_false_iff_ne]
 exact Gl (by decide) (by decide +kernel) i
theorem ZH6(i: Nat): nm1 i ≠ (".0" : Str) := by
 have e: (".0" : Str) = toS [46,48] := by decide +kernel
 rw[e]
 exact Gl (by decide) (by decide +kernel) i
noncomputable def Ht(wd: World): List DictEntry := [⟨hashStr wd (Str.ofString "_data"),.str (Str.ofString "_data") 832,.ref 43⟩,⟨hashStr wd (Str.ofString "_keys"),.str (Str.ofString "_keys") 834,.ref 243⟩,⟨hashStr wd (Str.ofString "_cachestr"),.str (Str.ofString "_cachestr") 837,.str (Str.ofString "") 835⟩,⟨hashStr wd (Str.ofString "_cachepoints"),.str (Str.ofString "_cachepoints") 842,.ref 246⟩]
structure Chk1(prog: Program)(wd: World)(K: Frag): Prop where
 fn: (21::(fAT ++ [268])).all (fnIn K) = true
 cls: (73::cAT).all (IB K) = true
 lim: K.lookup cStatics = some ⟨.none,none,.dict #[] 0,#[]⟩
 big: (K.lookup 3).isSome = true
 gl: gL1.map (fun p => nsIn K 3 (nm1 p.1)) = gL1.map (fun p => some (some p.2.2))
 gv: gLa.all (fun p => XL K p.2.1 p.2.2) = true
 v88: K.lookup 48 = some ⟨.type "dict",none,.dict (Nj wd ttL).toArray 8,#[]⟩
 v167: K.lookup 43 = some ⟨.type "dict",none,.dict (NF wd ZJ0).toArray 43,#[]⟩
 i1: K.lookup 236 = some (instObj 230 235)
 i2: K.lookup 235 = some (dictOf (Ht wd) 4)
 i3: (XL K YG (.ref 243) && XL K K6 (.ref 246)) = true
 gen: No (cx1 prog wd K) 93 m0 gM = true
 it: findIn K (.ref 762) "__iter__" = some (some (.ref 268))
 itF: typeIn K (.ref 268) = some (.type "function")
 defs: ∀ i m,JA tab i = some m -> U3 (cx1 prog wd K) i m = true
theorem DD{P: Nat -> Bool}{l: List Nat}{d: Nat}(h: (d::l).all P = true)(i: Nat): P ((l[i]?).getD d) = true := by
 rw[List.all_eq_true] at h
 cases hi: l[i]? with
 |none => exact h d (.head _)
 |some x => exact h x (.tail _ (List.mem_of_getElem? hi))
def ZIb: List Mine.V := match Ul with
 |.dict _ vs => vs
 |_ => []
def ZIc: List (List Nat) := match Ul with
 |.dict ks _ => ks
 |_ => []
theorem ZG2{prog: Program}{wd: World}{K: Frag}(hbi: ∀ p ∈ YI,nsIn K builtinsNs p.1 = some (some p.2))(H: Chk1 prog wd K): (cx1 prog wd K).Ok := by
 have hE: ∀ (F: Addr -> Obj -> Prop) (ρ: Id -> Option Addr),(∀ a o,K.lookup a = some o -> F a o) -> VR (cx1 prog wd K) F ρ Ul (.ref 43) := fun F ρ hF => ZCR (c := cx1 prog wd K) (ks := ZIc) (vs := ZIb) H.v167 (by decide +kernel) (by kernel_rfl) (by decide +kernel) (by decide) hF
 refine⟨hbi,ZDN,ZDO,ZH6,fun f => DD H.fn f,fun C J => DD H.cls C,H.lim,Option.isSome_iff_exists.mp H.big,fun n v x h => JE H.gl (n,v,x) h,fun n v x h F ρ hF => ?_,fun J => ⟨by show 2<4;decide,235,Ht wd,4,H.i1,H.i2,fun F ρ hF => ?_⟩⟩
 ·rcases List.mem_cons.mp h with e |h
  ·cases e
   exact ZEV (c := cx1 prog wd K) H.v88 (by decide +kernel) rfl (by decide +kernel) (by decide) hF
  rcases List.mem_cons.mp h with e |h
  ·cases e
   exact .fn 0
  rcases List.mem_cons.mp h with e |h
  ·cases e
   exact hE F ρ hF
  ·exact Y5 (c := cx1 prog wd K) hF (List.all_eq_true.mp H.gv _ h)
 ·exact bA H.i3 fun h1 h2 => .cons (t := 832) (by kernel_rfl) (hE F ρ hF) (.cons (t := 834) (by kernel_rfl) (Y5 (c := cx1 prog wd K) hF h1) (.cons (t := 837) (by kernel_rfl) (.str [] 835) (.cons (t := 842) (by kernel_rfl) (Y5 (c := cx1 prog wd K) hF h2) .nil)))
end Mine
end
noncomputable section
set_option maxRecDepth 10000
set_option linter.unusedVariables false
open PySem PySem.Calls PyProof.Rows PySem.W
namespace Mine
theorem JO.le{c: Cx}{r r' : Nat}{C: Ora}(H: JO c r C)(h: r <= r'): JO c r' C := fun J J J J J J J J J J J J hr => H (hr.le h)
theorem ZBF{l: List (Id × Ob)}{k i: Id}{x o: Ob}(hn: JA l k = none)(h: JA (l ++ [(k,x)]) i = some o): JA ((k,x)::l) i = some o := by
 show (if k = i then some x else JA l i) = some o
 induction l with
 |nil => exact h
 |cons p l ih =>
  obtain⟨a,b⟩ := p
  have hk: ¬ a = k := fun e => nn ((if_pos e: JA ((a,b)::l) k = some b).symm.trans hn).symm
  have h: (if a = i then some b else JA (l ++ [(k,x)]) i) = some o := h
  by_cases e: a = i
  ·rw[if_pos e] at h
   rw[if_neg fun q: k = i => hk (e.trans q.symm),show JA ((a,b)::l) i = some b from if_pos e];exact h
  ·rw[if_neg e] at h
   rw[show JA ((a,b)::l) i = JA l i from if_neg e]
   exact ih ((if_neg hk).symm.trans hn) h
def LP(s1a: Shared): Flow -> Shared -> Prop := fun f s' => f = .ret (.bool true) /\ (∀ b o,s1a.heap.get? b = some o -> s'.heap.get? b = some o) /\ s'.os = s1a.os /\ AllBare s'.gens
theorem ZH0{c: Cx}(O: c.Ok)(defs: ∀ i m,JA tab i = some m -> U3 c i m = true): JO c 16 CL :=
 have H3: JO c 6 C3 := NV O defs 3
 B4 ((K7 (Kc O defs H3)).le (by decide)) (B4 ((K7 (K7 (Kc O defs H3))).le (by decide)) (NV O defs 8))
abbrev qN(ns: List Int): Nat := (dr ns % 3).toNat
abbrev dN(ns: List Int): List Tok4 := WG (some (J8 (qN ns))) (tlN (ktl (dr ns))).1 (t0 ns)
abbrev tN(ns: List Int): List Nat := txT (some (J8 (qN ns))) (tlN (ktl (dr ns))).1 (t0 ns)
theorem ZHV: ∀ x: List Nat,sz (x.flatMap tI) <= 2*x.length := fun l0 => by
 induction l0 with
 |nil =>
  exact qF _
 |cons a x ih =>
  have e: sz ((a::x).flatMap tI) = sz (tI a)+sz (x.flatMap tI) := by
   show (JK (tI a ++ x.flatMap tI)).length = _
   rw[Qk,List.length_append];rfl
  have h: sz (tI a) <= 2 := by
   unfold tI
   exact Zn (fun l: List Tok4 => sz l <= 2) (fun J => qF _) fun J => xD _
  rw[e,List.length_cons,Nat.mul_succ,Nat.add_comm]
  exact qQ ih h
theorem Xh{l l' : List Tok4}: sz (l ++ l') = sz l+sz l' := by unfold sz;rw[Qk,List.length_append]
theorem HM(l: List (List Nat)): sz (l.map .er) = l.length := by unfold sz;rw[D5];exact List.length_map _
theorem ZEr: ∀ t ∈ QC,Nat.ble (sz (tlT t)) 10 = true := JE (by kernel_rfl)
theorem ZEs: ∀ t ∈ QC,(tlT t).all Tok4.ok = true := JE (by kernel_rfl)
theorem H7(l: List (List Nat)): (l.map Tok4.er).all Tok4.ok = true := by rw[List.all_map];exact List.all_eq_true.mpr fun J J => rfl
theorem ZGu{a b: Bool}: sz (emT a b) <= 2 := by cases a<;>cases b<;>exact qE rfl
theorem ZCv{nm tl v: List Nat}(ht: tl ∈ QC): (UM nm tl v).all Tok4.ok = true /\ sz (UM nm tl v) <= 4*v.length+14 := by
 obtain⟨f1,-⟩ := D0 (c := cl? v) (ins v) [] []
 have f1 := qA f1 (qJ (xB 4 (Nd v)))
 unfold UM
 cases hc: cl? v with
 |false =>
  rw[hc] at f1
  refine⟨Qs (H7 _) rfl,?_⟩
  rw[Xh,HM]
  exact qA f1 (qI (by decide: 1 <= 14) _)
 |true =>
  rw[hc] at f1
  refine⟨Qs (H7 _) (Qs YH.1 (ZEs tl ht)),?_⟩
  rw[Xh,HM]
  show _+sz (_ ++ _::tlT tl) <= _
  rw[Xh,Qz]
  refine qA (qQ f1 (qQ ZGu (qQ (qF 1) (qE (ZEr tl ht))))) (qV ?_)
  exact(Nat.succ_add (4*v.length) 13)
theorem ZGw{n: Option (List Nat)}{tl tx: List Nat}(ht: tl ∈ QC)(hl: tx.length <= 300): (WG n tl tx).all Tok4.ok = true /\ sz (WG n tl tx) <= 100000 := by
 have h1: ∀ x: List Nat,(x.flatMap tI).all Tok4.ok = true := fun x => List.all_eq_true.mpr fun t h => by
  obtain⟨a,_,h⟩ := List.mem_flatMap.mp h
  revert h
  unfold tI
  refine Zn (fun l: List Tok4 => t ∈ l -> t.ok = true) (fun J h => ?_) fun J h => ?_
  ·rcases List.mem_cons.mp h with rfl |h
   ·rfl
   ·cases List.mem_singleton.mp h;rfl
  ·cases List.mem_singleton.mp h;rfl
 have hs := qA (ZHV (tx.take (JL n tx 77))) (xB 2 (qA (xR _ _) hl))
 unfold WG
 cases hd: tx.drop (JL n tx 77) with
 |nil =>
  have hq: ∀ m,(qT m).all Tok4.ok = true /\ sz (qT m) <= 1 := fun m => by
   unfold qT
   cases isD m
   ·exact⟨rfl,qG _⟩
   ·exact⟨rfl,qF _⟩
  refine⟨Qs (h1 _) (hq _).1,?_⟩
  rw[Xh]
  exact qA (qQ hs (hq _).2) (by decide)
 |cons a w =>
  obtain⟨k1,k2⟩ := ZCv (nm := (ltr w.tail).map lowC) (v := JG w.tail) ht
  refine⟨Qs (h1 _) k1,?_⟩
  rw[Xh]
  have hw: (JG w.tail).length <= 300 := by
   refine qA (dle _ _) (qA (by rw[List.length_tail];exact xU _ _: w.tail.length <= w.length) ?_)
   have := congrArg List.length hd
   rw[List.length_drop] at this
   exact qA (xD _) (qA (qV this.symm) (qA (xU _ _) hl))
  exact qA (qQ hs (qA k2 (qO (xB 4 hw) 14))) (by decide)
theorem ZEo{n: Option (List Nat)}{tl tx: List Nat}(ht: tl ∈ QC)(hl: tx.length <= 180)(ha: ∀ a ∈ tx,a ∈ al): (∀ a ∈ txT n tl tx,a ∈ al) /\ (txT n tl tx).length <= 900 := by
 have h1: ∀ a ∈ tx.take (JL n tx 77),a ∈ al := fun a h => ha a (List.mem_of_mem_take h)
 have h2 := qA (xR (JL n tx 77) tx) hl
 have tl5: ∀ t ∈ QC,Nat.ble t.length 5 = true := JE (by kernel_rfl)
 unfold txT
 cases hd: tx.drop (JL n tx 77) with
 |nil => exact⟨fun a h => (List.mem_append.mp h).elim (h1 a) fun h => (nomatch h),by rw[List.length_append];exact qA (qO h2 0) (by decide)⟩
 |cons x w =>
  have hw: ∀ a ∈ w.tail,a ∈ al := fun a h => ha a (List.mem_of_mem_drop (hd ▸ List.Mem.tail _ (List.mem_of_mem_tail h): a ∈ tx.drop (JL n tx 77)))
  have hwl: w.tail.length <= 180 := by
   refine qA (by rw[List.length_tail];exact xU _ _: w.tail.length <= w.length) ?_
   have := congrArg List.length hd
   rw[List.length_drop] at this
   exact qA (xD _) (qA (qV this.symm) (qA (xU _ _) hl))
  have hc: ∀ c: Bool,(∀ a ∈ clo c tl,a ∈ al) /\ (clo c tl).length <= 6 := fun c => by
   cases c with
   |false => exact⟨fun a h => (nomatch h),qG _⟩
   |true => exact⟨fun a h => by
     cases h with
     |head => decide
     |tail _ h => exact Bv tl ht a h,qJ (qE (tl5 tl ht))⟩
  obtain⟨c1,c2⟩ := hc (cl? (JG w.tail))
  refine⟨fun a h => ?_,?_⟩
  ·rcases List.mem_append.mp h with h |h
   ·exact h1 a h
   rcases List.mem_cons.mp h with rfl |h
   ·decide
   rcases List.mem_cons.mp h with rfl |h
   ·decide
   rcases List.mem_append.mp h with h |h
   ·exact Nq hw (qM _) a h
   rcases List.mem_append.mp h with h |h
   ·exact hw a (List.mem_of_mem_drop ((qM _).subset h))
   ·exact c1 a h
  ·rw[List.length_append,List.length_cons,List.length_cons,List.length_append,List.length_append]
   refine qA (qQ h2 (qJ (qJ (qQ (qA (qM _).length_le hwl) (qQ (qA (Nd _) (qA (dle _ _) hwl)) c2))))) (by decide)
theorem K3{P: Nat -> Mine.V -> Prop}{a i: Nat}{x v: Mine.V}{L: List (Nat × Mine.V)}(h1: P a x)(h2: JA L i = some v -> P i v)(h: JA ((a,x)::L) i = some v): P i v := by
 rw[UH] at h
 by_cases e: a = i
 ·rw[if_pos e] at h
  exact e ▸ Option.some.inj h ▸ h1
 ·rw[if_neg e] at h
  exact h2 h
theorem Hi{P: Nat -> Mine.V -> Prop}{a b d i: Nat}{x y z v: Mine.V}(h1: P a x)(h2: P b y)(h3: P d z): JA [(a,x),(b,y),(d,z)] i = some v -> P i v := K3 h1 (K3 h2 (K3 h3 fun h => nn h))
theorem K2{i: Id}{w: Mine.V}(n: Nat): ∀ L: List (Nat × Mine.V),JA (QF i w L) n = (JA L n).map (V.sb i w) := fun l0 => by
 induction l0 with
 |nil =>
  exact rfl
 |cons p0 L ih =>
  obtain⟨m,u⟩ := p0
  show (if m = n then some (V.sb i w u) else JA (QF i w L) n) = (if m = n then some u else JA L n).map _
  by_cases e: m = n
  ·rw[if_pos e,if_pos e];rfl
  ·rw[if_neg e,if_neg e,ih]
structure LG(c: Cx)(kn: Str -> Option NameKind)(scope: Scope)(np px tp ep pos: Pos): Prop where
 gen: No c 93 m0 gM = true
 it: findIn c.K (.ref (c.cA 3)) "__iter__" = some (some (.ref (c.fA 93)))
 itF: typeIn c.K (.ref (c.fA 93)) = some (.type "function")
 k80: kn (c.nm 80) = some .local
 k81: kn (c.nm 81) = some .local
 k82: kn (c.nm 82) = some .local
 k1: kn (c.nm 1) = some .local
 k72: kn (c.nm 72) = some .local
 hsc: WK c scope kn 83 = true
 hsw: XB (c.nm 82) np (.ListComp (.Name (c.nm 83) ep) [⟨.Name (c.nm 83) px,.Name (c.nm 81) tp,[],0⟩] scope pos) = true
structure LS(c: Cx)(kn: Str -> Option NameKind)(A: Around)(env: Env)(s1a: Shared): Prop where
 O: c.Ok
 defs: ∀ i m,JA tab i = some m -> U3 c i m = true
 V: En env kn
 hr: JP A 20
 hrI: JP A.in1 15
 hall: ∀ a o,s1a.heap.get? a = some o -> c.K.lookup a = some o
structure LD(q: Nat)(text: List Nat)(D: List Tok4): Prop where
 ht: text.length <= 900
 ha: ∀ a ∈ text,a ∈ al
 hE: okE (some (J8 q)) text 77
 hokD: D.all Tok4.ok = true
 hfl: Mine.E (some (J8 q)) text 77 = JK D
 hz: sz D <= 100000
section
variable{c: Cx}{A: Around}{env: Env}{kn: Str -> Option NameKind}{S0 S1 S2 S3 S4 S5 S6 S7 S8 S9 S10 S12 S13: Stmt}{E: Value -> Shared -> Prop}{g: Gh}{s s1a: Shared}{text: List Nat}{cv v: Mine.V}{np px tp ep pos spos: Pos}{scope: Scope}{f q: Nat}{tb: Option (List Nat)}{l D: List Tok4}{sx: Sx}
theorem LS.r17(G: LS c kn A env s1a): JP A 17 := G.hr.le (by decide)
theorem LS.HL(G: LS c kn A env s1a): JO c 16 CL := ZH0 G.O G.defs
theorem ZIB(G: LS c kn A env s1a)(c12: JX c kn L12 S12 = true)(c13: JX c kn L13 S13 = true)(hcv: CvOk cv)(hA: At text [] sx)(hD: LD q text D)(hok: l.all Tok4.ok = true)(hfl: JK l = JK D)(hos: s.os = s1a.os)(hab: AllBare s.gens)
  (R: Rel c env g ⟨Z0 text D l,hs sx (H0 f cv tb),7,[]⟩ s): wpAny c.M A (execs [S12,S13] env) (LP s1a) E s := by
 have hll: l.length <= 100000 := qA (Na hok) (by unfold sz;rw[hfl];exact hD.hz)
 obtain⟨M,h4,hMl,hM⟩ := ZDa (C := CL) (t := text) (D := D) (l := l) (H := hs sx (H0 f cv tb)) (nx := 7) (P := []) hll
 refine qY (QM G.O G.HL L12 G.V c12 G.r17 h4 R fun w4a s5 g5 R5 X5 E5 => ?_)
 cases X5
 have h5 := ZDZ (f := f) (tb := tb) (s := sx) hcv hA hD.ht hok hD.hokD hfl hD.hz hMl hM
 refine qY (QM G.O G.HL L13 G.V c13 G.r17 h5 R5 fun w5a s6 g6 R6 X6 E6 => ?_)
 obtain⟨x,rfl,hx⟩ := X6
 cases hx
 exact⟨rfl,fun b o e => (R6.kin b o (G.hall _ _ e)).1,(congrArg Prod.snd E6.gens).trans ((congrArg Prod.snd E5.gens).trans hos),(show s6.gens = s.gens from (congrArg Prod.fst E6.gens).trans (congrArg Prod.fst E5.gens)) ▸ hab⟩
theorem ZF5(G: LS c kn A env s1a)(Z: LG c kn scope np px tp ep pos)(cs: (JX c kn L8 S8 && (JX c kn L9 S9 && (JX c kn L10 S10 && (JX c kn L12 S12 && JX c kn L13 S13)))) = true)(hD: LD q text D)(hos: s.os = s1a.os)(hg3: s.gens = #[])
  (R: Rel c env g ⟨[(1,.str text),(66,.str (nmN q)),(72,.list (vs D))],[],0,[]⟩ s):
  wpAny c.M A (execs [S8,S9,S10,.Assign [.Name (c.nm 82) np] (.ListComp (.Name (c.nm 83) ep) [⟨.Name (c.nm 83) px,.Name (c.nm 81) tp,[],0⟩] scope pos) spos,S12,S13] env) (LP s1a) E s := by
 refine bA cs fun c8 h => bA h fun c9 h => bA h fun c10 h => bA h fun c12 c13 => ?_
 refine qY (QM G.O G.HL L8 G.V c8 G.r17 (ZFw (.cons rfl .nil)) R fun w1a s1 g1 R1 X1 E1 => ?_)
 cases X1
 refine qY (QM G.O G.HL L9 G.V c9 G.r17 (ZFv (.cons rfl .nil)) R1 fun w2a s2 g2 R2 X2 E2 => ?_)
 cases X2
 refine qY (QM G.O G.HL L10 G.V c10 G.r17 (ZDb (m := nmN q) (.cons rfl (.cons rfl .nil))) R2 fun w3a s3 g3 R3 X3 E3 => ?_)
 cases X3
 have e3: gos s3 = gos s := E3.gens.trans (E2.gens.trans E1.gens)
 have HG: JO c 12 CT := B5 (Kc G.O G.defs (B5 (NV G.O G.defs 5)))
 obtain⟨fd,S0,t1,t2,t3,ye,b2,p1,p2,p3,yp,ep',GA,HGL⟩ := ZBZ (m0 := m0) (gm := gM) G.O HG Z.gen
 obtain⟨l,hok,hl2,sx,f,cv,tb,hA,hcv,hrun⟩ := ZFU rfl hD.ht hD.ha hD.hE
 have hfl: JK l = JK D := hl2.trans hD.hfl
 have hll: l.length <= 100000 := qA (Na hok) (by unfold sz;rw[hfl];exact hD.hz)
 refine qY (ZGP (Q := _) G.O G.V.ok G.V.cells G.V.kn ((G.V.kn _).trans Z.k82) ((G.V.kn _).trans Z.k81) Z.hsc Z.hsw (f := 93) (Cl := 3) Z.it Z.itF GA HGL (G.hr.le (by decide)) (G.hrI.le (by decide)) (U := ⟨[(1,.str text),(66,.str (nmN q)),(72,.list (vs D)),(81,T0)],hpL text [(.t 0,.inst 3 (fsT (me 77) (cvS (nmN q))))],6,[]⟩) (σG := σG text (cvS (nmN q))) (loc' := Op text D) rfl rfl List.not_mem_nil ⟨rfl,fun i o h => ZBF rfl h,qF _,fun k h => h⟩ rfl ZBU hrun (by rw[List.length_map];exact qL hll (by decide)) (QN l)
  (fun i v => Hi (P := fun i v => JA _ i = some v /\ env.kindOf (c.nm i) = some .local /\ (v = .obj (.t 0) \/ ∀ j,Mine.V.no j v = true)) ⟨rfl,(G.V.kn _).trans Z.k1,.inr fun J => rfl⟩ ⟨rfl,(G.V.kn _).trans Z.k81,.inl rfl⟩ ⟨rfl,(G.V.kn _).trans Z.k72,.inr fun j => QN D⟩) R3 (.of_eq ((congrArg Prod.fst e3).trans hg3)) fun s4 g4 hos4 hab4 R4 => ?_)
 rw[sbZ hcv] at R4
 exact ZIB G c12 c13 hcv hA hD hok hfl (hos4.trans ((congrArg Prod.snd e3).trans hos)) hab4 R4
theorem ZBt{i: Id}: ∀ ns: List Int,V.nos i (ns.map .int) = true := fun l0 => by
 induction l0 with
 |nil =>
  exact rfl
 |cons _ ns ih =>
  exact ih
theorem ZFz{L: List (Nat × Mine.V)}: exc CL L5 ⟨L,[],0,[]⟩ = some (.next,⟨put L 72 (.obj (.p 53)),hD [],0,[53]⟩) := by kernel_rfl
theorem ZF6{ns: List Int}(G: LS c kn A env s1a)(c4: JX c kn L4 S4 = true)(c5: JX c kn L5 S5 = true)(c6: JX c kn L6 S6 = true)(c6b: JX c kn L6b S6b = true)(c7: JX c kn L7 S7 = true){r: List Stmt}{L: List (Nat × Mine.V)}{Q: Flow -> Shared -> Prop}
  (k: Kn L [(1,.str (t0 ns)),(66,.str (nmN (qN ns))),(172,.str (tlN (ktl (dr ns))).1),(173,.str (tlN (ktl (dr ns))).2.1),(174,.str (tlN (ktl (dr ns))).2.2)]) (N: NoQ L)
  (K: ∀ s' g',gos s' = gos s -> Rel c env g' ⟨[(1,.str (tN ns)),(66,.str (nmN (qN ns))),(72,.list (vs (dN ns)))],[],0,[]⟩ s' -> wpAny c.M A (execs r env) Q E s')
  (R: Rel c env g ⟨L,[],0,[]⟩ s): wpAny c.M A (execs (S4::S5::S6::S6b::S7::r) env) Q E s := by
 have hb: (t0 ns).length <= 900 := qA (Xg ns) (by decide)
 refine qY (QM G.O G.HL L4 G.V c4 G.r17 (ZF0 (k' := qN ns) (k.sub [1,66]) hb (Zc ns)) R fun w1a s1 g1 R1 X1 E1 => ?_)
 cases X1
 have k1 := ((k.put 37 (.int (enN (qN ns) (t0 ns): Nat))).put 179 (.bool (isD (enM (qN ns) (t0 ns))))).put 72 (.obj (.p 53))
 have N1 := ((N.put 37 (v := .int (enN (qN ns) (t0 ns): Nat)) fun J J => rfl).put 179 (v := .bool (isD (enM (qN ns) (t0 ns)))) fun J J => rfl).put 72 XG
 refine qY (QM G.O G.HL L5 G.V c5 G.r17 ZFz R1 fun w2a s2 g2 R2 X2 E2 => ?_)
 cases X2
 obtain⟨L6',h6,k6,N6⟩ := ZFy (tx := t0 ns) (e := enN (qN ns) (t0 ns)) hb k1 N1 rfl rfl rfl rfl
 refine qY (QM G.O G.HL L6 G.V c6 G.r17 h6 R2 fun w3a s3 g3 R3 X3 E3 => ?_)
 cases X3
 have h6b := ZDY (D := ((t0 ns).take (enN (qN ns) (t0 ns))).flatMap tI) (m := enM (qN ns) (t0 ns)) (qA (Bi _) (qA (xB 2 (qA (xR _ _) hb)) (by decide))) (k6.sub [179,72])
 refine qY (QM G.O G.HL L6b G.V c6b G.r17 h6b R3 fun w5a s5 g5 R5 X5 E5 => ?_)
 cases X5
 obtain⟨L7',h7,k7,N7⟩ := ZFx (q := qN ns) (d := dr ns) (qA (Xg ns) (by decide)) (Zc ns) (k6.sub [1,66,172,173,174,37,72]) N6
 refine qY (QM G.O G.HL L7 G.V c7 G.r17 h7 R5 fun w4a s4 g4 R4 X4 E4 => ?_)
 cases X4
 obtain⟨R6,-⟩ := Y1 (k := 53) (vs := vs (dN ns)) R4 rfl (QN _)
 refine K s4 _ (E4.gens.trans (E5.gens.trans (E3.gens.trans (E2.gens.trans E1.gens)))) (R6.sub (fun i v => Hi (P := fun i v => JA (QF (.p 53) (.list (vs (dN ns))) L7') i = some v) ?_ ?_ ?_) (fun i o e => nomatch e) (qF _) fun k h => nomatch h)
 ·rw[K2,k7.get 1 rfl];rfl
 ·rw[K2,k7.get 66 rfl];rfl
 ·rw[K2,k7.get 72 rfl];rfl
end
theorem ZIC{c: Cx}{A: Around}{env: Env}{kn: Str -> Option NameKind}{S0 S1 S2 S3 S4 S5 S6 S6b S7 S8 S9 S10 S12 S13: Stmt}{E: Value -> Shared -> Prop}{s s1a: Shared}{np px tp ep pos spos: Pos}{scope: Scope}
  {P: Params} {a L: Addr} {m: Str -> Option Value} {ns: List Int} (G: LS c kn A env s1a) (Z: LG c kn scope np px tp ep pos) (hin: ∀ a o,c.K.lookup a = some o -> s1a.heap.get? a = some o)
  (hg: s1a.gens = #[]) (W: Well P s1a.heap (.ref a) (ofPy (.list (ns.map PyData.int)))) (hlen: ns.length <= 1000) (F: Fr s1a.heap L s.heap m) (hL: env.locals = L) (hm: m (c.nm 80) = some (.ref a)) (hsg: s.gens = s1a.gens) (hso: s.os = s1a.os) (hst: 0<s.toks)
  (cs: (JX c kn L0 S0 && (JX c kn L1 S1 && (JX c kn L2 S2 && (JX c kn L3 S3 && (JX c kn L4 S4 && (JX c kn L5 S5 && (JX c kn L6 S6 && (JX c kn L6b S6b && (JX c kn L7 S7 && (JX c kn L8 S8 && (JX c kn L9 S9 && (JX c kn L10 S10 && (JX c kn L12 S12 && JX c kn L13 S13))))))))))))) = true):
  wpAny c.M A (execs [S0,S1,S2,S3,S4,S5,S6,S6b,S7,S8,S9,S10,.Assign [.Name (c.nm 82) np] (.ListComp (.Name (c.nm 83) ep) [⟨.Name (c.nm 83) px,.Name (c.nm 81) tp,[],0⟩] scope pos) spos,S12,S13] env) (LP s1a) E s := by
 refine bA cs fun c0 h => bA h fun c1 h => bA h fun c2 h => bA h fun c3 h => bA h fun c4 h => bA h fun c5 h => bA h fun c6 h => bA h fun c6b h => bA h fun c7 cs => ?_
 obtain⟨vs,hao,hvs⟩ := T5 W
 have R0: Rel c env g0 ⟨[(80,.list (ns.map .int))],[],0,[]⟩ s := ZA6 (h0a := s1a.heap) hin F hL hm ((G.V.kn _).trans Z.k80) (fun F ρ hF => .list (items := vs.toArray) (n := 0) (hF _ _ (G.hall _ _ hao)) (hvs c F ρ)) hst
 refine qY (QM G.O G.HL L0 G.V c0 G.r17 (ZF4 hlen) R0 fun w0a s0 g0' R1 X0 E0 => ?_)
 cases X0
 refine qY (QM G.O G.HL L1 G.V c1 G.r17 ZF3 R1 fun w1a s1 g1 R2 X1 E1 => ?_)
 cases X1
 refine qY (QM G.O G.HL L2 G.V c2 G.r17 ZF2 R2 fun w2a s2 g2 R3 X2 E2 => ?_)
 cases X2
 refine qY (QM G.O G.HL L3 G.V c3 G.r17 (ZF1 hlen) R3 fun w3a s3 g3 R4 X3 E3 => ?_)
 cases X3
 have N: NoQ (lE3 ns (dr ns) ++ [(1,.str (t0 ns))]) := fun k w J => by
  show [(80,Mine.V.list (V.sbs (.p k) w (ns.map .int))),(175,.int (dr ns)),(66,.str (nmN (dr ns % 3).toNat)),(172,.str (tlN (ktl (dr ns))).1),(173,.str (tlN (ktl (dr ns))).2.1),(174,.str (tlN (ktl (dr ns))).2.2),(1,.str (t0 ns))] = _
  rw[V.sbs_no _ (ZBt ns)];rfl
 refine ZF6 G c4 c5 c6 c6b c7 (ns := ns) (.cons rfl (.cons rfl (.cons rfl (.cons rfl (.cons rfl .nil))))) N (fun s' g' hgo R5 => ?_) R4
 have e5: gos s' = gos s := hgo.trans (E3.gens.trans (E2.gens.trans (E1.gens.trans E0.gens)))
 obtain⟨hE,hE2⟩ := ZGx (n := some (J8 (qN ns))) (Ny (dr ns)) (Zc ns)
 obtain⟨hD,hz⟩ := ZGw (n := some (J8 (qN ns))) (tx := t0 ns) (Ny (dr ns)) (qA (Xg ns) (by decide))
 obtain⟨hT,hTl⟩ := ZEo (n := some (J8 (qN ns))) (Ny (dr ns)) (Xg ns) (Zc ns)
 exact ZF5 G Z cs ⟨hTl,hT,hE2,hD,hE,hz⟩ ((congrArg Prod.snd e5).trans hso) ((congrArg Prod.fst e5).trans (hsg.trans hg)) R5
theorem ZBK{prog: Program}{w: World}{K0: Frag}{P: Params}{s1a s: Shared}{a: Addr}{mb m: Str -> Option Value}{A: Around}{env: Env}{L: Addr}{ns: List Int}{S0 S1 S2 S3 S4 S5 S6 S6b S7 S8 S9 S10 S12 S13: Stmt}{kn: Str -> Option NameKind}
  {y82 y83 y81: Str} {np px tp ep pos spos: Pos} {scope: Scope} {E: Value -> Shared -> Prop} {c: Cx} (hc: c = cx1 prog w (K0 ++ YJ s1a.heap))
  (KX: K0.In s1a.heap) (hb: s1a.heap.Ns builtinsNs mb) (hbi: ∀ x: Str,x ≠ "__name__" -> mb x = bootBuiltins x) (hg: s1a.gens = #[]) (W: Well P s1a.heap (.ref a) (ofPy (.list (ns.map PyData.int)))) (hlen: ns.length <= 1000)
  (F: Fr s1a.heap L s.heap m) (hL: env.locals = L) (hm: m (nm1 80) = some (.ref a)) (hsg: s.gens = s1a.gens) (hso: s.os = s1a.os) (hst: 0<s.toks)
  (VV: EnvOk env) (VC: XZ env) (hkn: ∀ x,env.kindOf x = kn x) (hr: JP A 20) (hrI: JP A.in1 15)
  (H: Chk1 prog w (K0 ++ YJ s1a.heap)) (hk: ([80,81,82,1,72].all fun n => kn (nm1 n) == some .local) = true) (e82: y82 = nm1 82) (e83: y83 = nm1 83) (e81: y81 = nm1 81)
  (cs: (JX c kn L0 S0 && (JX c kn L1 S1 && (JX c kn L2 S2 && (JX c kn L3 S3 && (JX c kn L4 S4 && (JX c kn L5 S5 && (JX c kn L6 S6 && (JX c kn L6b S6b && (JX c kn L7 S7 && (JX c kn L8 S8 && (JX c kn L9 S9 && (JX c kn L10 S10 && (JX c kn L12 S12 && JX c kn L13 S13))))))))))))) = true)
  (hsc: WK c scope kn 83 = true) (hsw: XB y82 np (.ListComp (.Name y83 ep) [⟨.Name y83 px,.Name y81 tp,[],0⟩] scope pos) = true):
  wpAny (model prog w) A (execs [S0,S1,S2,S3,S4,S5,S6,S6b,S7,S8,S9,S10,.Assign [.Name y82 np] (.ListComp (.Name y83 ep) [⟨.Name y83 px,.Name y81 tp,[],0⟩] scope pos) spos,S12,S13] env) (LP s1a) E s := by
 subst e82 e83 e81 hc
 have hall := fun {a o} e => ZEi (K := K0) KX (a := a) (o := o) e
 exact bA hk fun k80 h => bA h fun k81 h => bA h fun k82 h => bA h fun k1 h => bA h fun k72 J =>
  ZIC (c := cx1 prog w (K0 ++ YJ s1a.heap)) ⟨ZG2 (ZJB (fun a o e => hall e) hb hbi) H,H.defs,⟨VV,VC,hkn⟩,hr,hrI,fun a o e => hall e⟩ ⟨H.gen,H.it,H.itF,beq_iff_eq.mp k80,beq_iff_eq.mp k81,beq_iff_eq.mp k82,beq_iff_eq.mp k1,beq_iff_eq.mp k72,hsc,hsw⟩ (fun a o e => ZHF KX a o e) hg W hlen F hL hm hsg hso hst cs
noncomputable def Kf: List (Str × NameKind) := [("script",.local),("draws",.local),("name",.local),("written",.local),("fault",.local),("told",.local),("text",.local),("end",.local),("twice",.local),("due",.local),("sign",.local),("start",.local),("close",.local),("inside",.local),("faults",.local),("names",.local),("closing",.local),("t",.local),("got",.local),("marks",.local),("sum",.globalImplicit),("_law_NAMES",.globalImplicit),("_law_TAILS",.globalImplicit),("_law_end",.globalImplicit),("_law_fault",.globalImplicit),("_law_plain",.globalImplicit),("len",.globalImplicit),("_law_inside",.globalImplicit),("tokenTypes",.globalImplicit),("HTMLTokenizer",.globalImplicit),("_law_joined",.globalImplicit)]
theorem ZBG{β:Type}:∀ {l:List (Nat×β)} {a:Nat} {b:β},JA l a=some b->(a,b)∈l:=by
 intro l0
 induction l0 with
 |nil =>
  intro _ _ h
  exact nn h
 |cons p0 l ih =>
  obtain⟨x,y⟩:=p0
  intro a b h
  rw[UH] at h
  by_cases e:x=a
  ·rw[if_pos e] at h
   exact e▸Option.some.inj h▸.head _
  ·rw[if_neg e] at h;exact .tail _ (ih h)
theorem ZEX{c:Cx}(h:∀ p∈tab,U3 c p.1 p.2=true)(i:Nat)(m:MFun)(e:JA tab i=some m):U3 c i m=true:=h _ (ZBG e)
theorem De{A:Around}{r:Nat}(h1:A.handled=none)(h2:decide (A.depth+r<recursionLimit)=true)(h3:decide (A.units+20*r+300<cLine)=true):JP A r:=⟨h1,qH h2,qH h3⟩
theorem ZAf(x:Str)(h:List.lookup x Kf=some .cell):False:=by
 have hm:=KJ h
 have:∀ p∈Kf,p.2≠.cell:=by decide +kernel
 exact this _ hm rfl
end Mine
end
set_option tactic.hygienic true
namespace Mine.hx
abbrev T := True
theorem t : T := .intro
theorem tw2722494911219165771:T:=t
theorem tw17490039241966878470:T:=t
theorem tw13121428878594284678:T:=t
theorem tw8689431418697317241:T:=t
theorem tw13994185481600150508:T:=t
theorem tw7686487335969427304:T:=t
theorem tw12244323609287083244:T:=t
theorem tw12687340035147016154:T:=t
theorem tw8405541925257398652:T:=t
theorem tw13733672604495292696:T:=t
theorem tw3802569660202298772:T:=t
theorem tw663058311725963850:T:=t
theorem tw4149262921692028645:T:=t
theorem tw14319195189009250854:T:=t
theorem tw6472239261815649849:T:=t
theorem tw12369505070293475891:T:=t
theorem tw16403607636861804150:T:=t
theorem tw11651215647737651630:T:=t
theorem tw6514015525448506650:T:=t
theorem tw6930950759929274386:T:=t
theorem tw616740878971486716:T:=t
theorem tw15446179714025208549:T:=t
theorem tw4464470257532119317:T:=t
theorem tw2287549446805351391:T:=t
theorem tw4138548494544933065:T:=t
theorem tw4293664988331523337:T:=t
theorem tw3399465718499267812:T:=t
theorem tw1680849517792564725:T:=t
theorem tw8719310546069769394:T:=t
theorem tw3601925729670787442:T:=t
theorem tw16175857573809386902:T:=t
theorem tw11153406825157011147:T:=t
theorem tw1011593914326734453:T:=t
theorem tw15466940415637129421:T:=t
theorem tw13835724759982542066:T:=t
theorem tw4269251904459062986:T:=t
theorem tw12592994705595984505:T:=t
theorem tw1415654423932628287:T:=t
theorem tw3762958163772505196:T:=t
theorem tw12686574865534796699:T:=t
theorem tw12847005640276605815:T:=t
theorem tw9166759312617231822:T:=t
theorem tw15744881008354321025:T:=t
theorem tw6836243782229160083:T:=t
theorem tw9098983783718519904:T:=t
theorem tw15162508186903103783:T:=t
theorem tw14743528497057034386:T:=t
theorem tw12938584960106786947:T:=t
theorem tw1285434511704224072:T:=t
theorem tw13327334872544604925:T:=t
theorem tw2736625963029525553:T:=t
theorem tw11542809368468670571:T:=t
theorem tw8526741685566437804:T:=t
theorem tw5987738072841988675:T:=t
theorem tw6103871502414683963:T:=t
theorem tw2580623763806008135:T:=t
theorem tw18163383231904437410:T:=t
theorem tw1727578327119604153:T:=t
theorem tw18436989916982367924:T:=t
theorem tw9756176730170026455:T:=t
theorem tw9818837363699442920:T:=t
theorem tw14618633012687346700:T:=t
theorem tw7006290627943131901:T:=t
theorem tw13003758396033250783:T:=t
theorem tw6700631356736508036:T:=t
theorem tw4439321647937447777:T:=t
theorem tw16909937564651206706:T:=t
theorem tw15024933671316692954:T:=t
theorem tw12485916779449614927:T:=t
theorem tw7462397087798485187:T:=t
theorem tw17623875274069940759:T:=t
theorem tw2924628002121016683:T:=t
theorem tw4875394742973762422:T:=t
theorem tw13972809315311186568:T:=t
theorem tw7590231348009606088:T:=t
theorem tw3457709029089074591:T:=t
theorem tw13273623471580055978:T:=t
theorem tw7891766511613034010:T:=t
theorem tw15215796203213042296:T:=t
theorem tw6661460279421622568:T:=t
theorem tw14626987222883238387:T:=t
theorem tw545596935602045732:T:=t
theorem tw2358503780328766540:T:=t
theorem tw584368869492153410:T:=t
theorem tw14564351093087913541:T:=t
theorem tw11605663943579434254:T:=t
theorem tw6954632005528137224:T:=t
theorem tw9464382187203803050:T:=t
theorem tw8360991337320666301:T:=t
theorem tw9580753470902210594:T:=t
theorem tw10807983823035302247:T:=t
theorem tw16440296595461833803:T:=t
theorem tw4283430462085702152:T:=t
theorem tw13861093565919502260:T:=t
theorem tw1089165632158530400:T:=t
theorem tw5302141714640544522:T:=t
theorem tw13970432741380693950:T:=t
theorem tw15863934828499288174:T:=t
theorem tw3840107357115572158:T:=t
theorem tw12770057050171300576:T:=t
theorem tw15558058551083894160:T:=t
theorem tw18272945143815115441:T:=t
theorem tw7575134019868595920:T:=t
theorem tw11306379504899602045:T:=t
theorem tw2710400381458813344:T:=t
theorem tw10916607958114097716:T:=t
theorem tw1277046806435012942:T:=t
theorem tw17329162247811163424:T:=t
theorem tw16816359877758261231:T:=t
theorem tw8079086679360255983:T:=t
theorem tw9386880952526680653:T:=t
theorem tw17882310838744935415:T:=t
theorem tw18376012014735405661:T:=t
theorem tw1217080896915090328:T:=t
theorem tw5835382612795334523:T:=t
theorem tw15929811917968181784:T:=t
theorem tw10413734220558041264:T:=t
theorem tw18141915107381044649:T:=t
theorem tw11150338070433746062:T:=t
theorem tw5841609243541674958:T:=t
theorem tw6094537120995972945:T:=t
theorem tw16562810249119712046:T:=t
theorem tw173491282623094914:T:=t
theorem tw4331322168288796995:T:=t
theorem tw3245460484126576377:T:=t
theorem tw8177863064353930860:T:=t
theorem tw1100523350065315309:T:=t
theorem tw18332205937138622689:T:=t
theorem tw14897263000708364615:T:=t
theorem tw3750262793593453663:T:=t
theorem tw11068639925614717322:T:=t
theorem tw8812941233019382706:T:=t
theorem tw8013753438709209555:T:=t
theorem tw15414558616249902002:T:=t
theorem tw1106535952462682261:T:=t
theorem tw6030892366491303188:T:=t
theorem tw5863528539954413117:T:=t
theorem tw18215676871104998399:T:=t
theorem tw16220354117797179089:T:=t
theorem tw3151352308241419672:T:=t
theorem tw4601627501900363749:T:=t
theorem tw663216957817655072:T:=t
theorem tw4621005963601903657:T:=t
theorem tw15533950225396448702:T:=t
theorem tw2035867306989460822:T:=t
theorem tw17925394340532287749:T:=t
theorem tw12991532671812350252:T:=t
theorem tw292709383975957704:T:=t
theorem tw12260432941604002497:T:=t
theorem tw607712491831585991:T:=t
theorem tw3767164605852734177:T:=t
theorem tw14511709716187995092:T:=t
theorem tw8280520150143245440:T:=t
theorem tw4459410774582096363:T:=t
theorem tw15536713197984420945:T:=t
theorem tw9229111910879503682:T:=t
theorem tw5517287800428746079:T:=t
theorem tw6234722803267601620:T:=t
theorem tw16842200711778894795:T:=t
theorem tw11069186370953701041:T:=t
theorem tw15515426146827161799:T:=t
theorem tw12294144641388205969:T:=t
theorem tw1362163949497883158:T:=t
theorem tw2199997441397630927:T:=t
theorem tw12103094082663812918:T:=t
theorem tw13173629366862862663:T:=t
theorem tw5044738186272462081:T:=t
theorem tw2899951234114317963:T:=t
theorem tw15396066670179936615:T:=t
theorem tw15882349035831147880:T:=t
theorem tw14621872504664255023:T:=t
theorem tw5258523180806066235:T:=t
theorem tw2101144305115712416:T:=t
theorem tw1213227437831104790:T:=t
theorem tw14044817671008982184:T:=t
theorem tw6912957689366828898:T:=t
theorem tw1375955018112806077:T:=t
theorem tw12389214559413477026:T:=t
theorem tw17683900609896704795:T:=t
theorem tw11213325380585884853:T:=t
theorem tw9838419238923530799:T:=t
theorem tw14234647318738002451:T:=t
theorem tw15622713162970399124:T:=t
theorem tw13307316372228832604:T:=t
theorem tw12392353606877693820:T:=t
theorem tw6150637109426312374:T:=t
theorem tw2598453218603719200:T:=t
theorem tw13987342028335386337:T:=t
theorem tw4036626835755369765:T:=t
theorem tw17809212181156274236:T:=t
theorem tw3943997633466964473:T:=t
theorem tw11092232630674199974:T:=t
theorem tw9813795721771584830:T:=t
theorem tw1633863039109725667:T:=t
theorem tw3146596328094197638:T:=t
theorem tw3316146503202191264:T:=t
theorem tw12796349732060051669:T:=t
theorem tw5973647403945334939:T:=t
theorem tw9859013073388247969:T:=t
theorem tw11031246882950601735:T:=t
theorem tw18436102530548493083:T:=t
theorem tw13835442340154775703:T:=t
theorem tw8579013771545413559:T:=t
theorem tw1749809594243765621:T:=t
theorem tw2065282591040969955:T:=t
theorem tw1550649239420292291:T:=t
theorem tw8346943369959206681:T:=t
theorem tw7135545248255827829:T:=t
theorem tw8136324640566705494:T:=t
theorem tw14580385827833458236:T:=t
theorem tw13503048917051318853:T:=t
theorem tw4496917712743702866:T:=t
theorem tw13343930504226383752:T:=t
theorem tw2923197144701775926:T:=t
theorem tw3497297687653118206:T:=t
theorem tw15719070241404046249:T:=t
theorem tw206405052526537190:T:=t
theorem tw13516186739440186774:T:=t
theorem tw12327228567736898484:T:=t
theorem tw11235557421540341822:T:=t
theorem tw16589706772153868580:T:=t
theorem tw17935817764870156833:T:=t
theorem tw10665394928749936821:T:=t
theorem tw8724208511557814752:T:=t
theorem tw14648767878841662682:T:=t
theorem tw15495526600766341446:T:=t
theorem tw10032705692053745590:T:=t
theorem tw15225155743707457426:T:=t
theorem tw15088012910613175391:T:=t
theorem tw2690994299918733986:T:=t
theorem tw5458019789550090450:T:=t
theorem tw13959426194186691099:T:=t
theorem tw15822566648252787351:T:=t
theorem tw11113180872011636366:T:=t
theorem tw15192764956840726322:T:=t
theorem tw16876156297239570298:T:=t
theorem tw13817252110603802430:T:=t
theorem tw9533102366209435770:T:=t
theorem tw15871474243252748558:T:=t
theorem tw15723387810056000692:T:=t
theorem tw6663271504411264886:T:=t
theorem tw4790614838382506437:T:=t
theorem tw7602591636524428644:T:=t
theorem tw6386498509896015619:T:=t
theorem tw4149058065308597245:T:=t
theorem tw8146969407493219791:T:=t
theorem tw11179572112720946581:T:=t
theorem tw16768336167809996915:T:=t
theorem tw1995053994498031341:T:=t
theorem tw12064557612275603510:T:=t
theorem tw9274210203733589373:T:=t
theorem tw14789575009835510191:T:=t
theorem tw424504289860297139:T:=t
theorem tw15573648297817959892:T:=t
theorem tw5155039723082852699:T:=t
theorem tw16461100926929236453:T:=t
theorem tw8773569590884259151:T:=t
theorem tw11592700142680101160:T:=t
theorem tw3276714930261760037:T:=t
theorem tw16751661018229691023:T:=t
theorem tw3064612590093021604:T:=t
theorem tw11828892080821551344:T:=t
theorem tw17654875645198222230:T:=t
theorem tw9253537096709452137:T:=t
theorem tw819323422259667789:T:=t
theorem tw4778239293986166988:T:=t
theorem tw3053297864210675017:T:=t
theorem tw5079612726228634382:T:=t
theorem tw2513472254534321444:T:=t
theorem tw386089926610526211:T:=t
theorem tw12736376338062017885:T:=t
theorem tw586116338256856407:T:=t
theorem tw4535242917892251827:T:=t
theorem tw6645837424847773088:T:=t
theorem tw4638685165426952821:T:=t
theorem tw11191459938088770506:T:=t
theorem tw1927792282007945085:T:=t
theorem tw17626744831489513375:T:=t
theorem tw8916866690797206258:T:=t
theorem tw11398092985049769381:T:=t
theorem tw11576060578404032109:T:=t
theorem tw14031144883048642870:T:=t
theorem tw14820731338257822114:T:=t
theorem tw13887421244684101553:T:=t
theorem tw380438602855622199:T:=t
theorem tw6893509615905794137:T:=t
theorem tw4374200977429756228:T:=t
theorem tw1837536587343590555:T:=t
theorem tw7778657530300345364:T:=t
theorem tw3772895889506965678:T:=t
theorem tw12214142614001633608:T:=t
theorem tw9728688711462037987:T:=t
theorem tw13100434611214814302:T:=t
theorem tw14643307926423651170:T:=t
theorem tw17769805437143071325:T:=t
theorem tw6638917229641446417:T:=t
theorem tw14728151803300476778:T:=t
theorem tw16049945830730340309:T:=t
theorem tw11529457255951468018:T:=t
theorem tw4328668841899091544:T:=t
theorem tw10775750784532548772:T:=t
theorem tw9327343547758340640:T:=t
theorem tw13348707166376220045:T:=t
theorem tw13550084529305936786:T:=t
theorem tw540753489051694059:T:=t
theorem tw8313530265402521625:T:=t
theorem tw8720997637451098481:T:=t
theorem tw4925180145992722077:T:=t
theorem tw13418063953174990607:T:=t
theorem tw3005603348570663604:T:=t
theorem tw2356886095614281275:T:=t
theorem tw16670953707802882552:T:=t
theorem tw512089013297016134:T:=t
theorem tw14892758982169950362:T:=t
theorem tw13540067391981041044:T:=t
theorem tw11583711831427307319:T:=t
theorem tw2462484140620534453:T:=t
theorem tw10669548194688061899:T:=t
theorem tw13541313388752826813:T:=t
theorem tw16427613422207729866:T:=t
theorem tw11906715856835866592:T:=t
theorem tw13726367727983386747:T:=t
theorem tw12599799233211325907:T:=t
theorem tw634369046800973281:T:=t
theorem tw5311930419048412094:T:=t
theorem tw2933574226750363228:T:=t
theorem tw8866640492970853812:T:=t
theorem tw3763460144122106664:T:=t
theorem tw34971102862420792:T:=t
theorem tw18214102734720347575:T:=t
theorem tw14063277586053297487:T:=t
theorem tw4736886695178322556:T:=t
theorem tw3803119400003127940:T:=t
theorem tw2614121834998817442:T:=t
theorem tw5279657954283368098:T:=t
theorem tw15761037773510429378:T:=t
theorem tw7924969997821631868:T:=t
theorem tw11606427810006902776:T:=t
theorem tw16439351170449580089:T:=t
theorem tw12866121850660868255:T:=t
theorem tw4027200573524075328:T:=t
theorem tw12886684066980348408:T:=t
theorem tw11803736057804005719:T:=t
theorem tw14737546165473383909:T:=t
theorem tw17034685950025090854:T:=t
theorem tw3126803895974666599:T:=t
theorem tw7641737541655678421:T:=t
theorem tw8652588082031224057:T:=t
theorem tw8374021121780711109:T:=t
theorem tw5663202204576575629:T:=t
theorem tw8791178820788453978:T:=t
theorem tw4994087634880098733:T:=t
theorem tw11855829562293527186:T:=t
theorem tw1206601256437087541:T:=t
theorem tw14344502140286423506:T:=t
theorem tw4032430191049862950:T:=t
theorem tw12943594393411517771:T:=t
theorem tw16297621413855188116:T:=t
theorem tw11571822667871770767:T:=t
theorem tw16940700322699712139:T:=t
theorem tw11876984885562000650:T:=t
theorem tw17244838754368169183:T:=t
theorem tw3874887093996765642:T:=t
theorem tw2448402593769926005:T:=t
theorem tw12057496179364575986:T:=t
theorem tw15283793992842430438:T:=t
theorem tw2428139205326471388:T:=t
theorem tw856499453091330405:T:=t
theorem tw8893464231985360406:T:=t
theorem tw9279888435216144913:T:=t
theorem tw14317288427323871922:T:=t
theorem tw1980247363165879429:T:=t
theorem tw14296386997998854089:T:=t
theorem tw14302440575911937650:T:=t
theorem tw5230821695279976462:T:=t
theorem tw2884559834261289398:T:=t
theorem tw3423346011291521542:T:=t
theorem tw2998769833626035175:T:=t
theorem tw16053221933270867258:T:=t
theorem tw10021054893070784354:T:=t
theorem tw6576187036372545591:T:=t
theorem tw4178432983367478423:T:=t
theorem tw17026870021466092750:T:=t
theorem tw9115037031211061566:T:=t
theorem tw4327957577253540203:T:=t
theorem tw13929035582702624642:T:=t
theorem tw4567406995535283511:T:=t
theorem tw3127049559752940807:T:=t
theorem tw10877914472530759936:T:=t
theorem tw13055073067585543872:T:=t
theorem tw11068126759796092325:T:=t
theorem tw8644560031705490810:T:=t
theorem tw3055073173289775447:T:=t
theorem tw15222671194020912597:T:=t
theorem tw11795387172512413407:T:=t
theorem tw5707194690098638471:T:=t
theorem tw10403954177801633367:T:=t
theorem tw12047900415351236395:T:=t
theorem tw10617194249185857529:T:=t
theorem tw2618490190428073017:T:=t
theorem tw3461369719786860586:T:=t
theorem tw4277992108151645805:T:=t
theorem tw2410510681439456458:T:=t
theorem tw1463196147053303394:T:=t
theorem tw13913423702112267812:T:=t
theorem tw13339376231836091768:T:=t
theorem tw14640549305066258129:T:=t
theorem tw17440233237446270221:T:=t
theorem tw3228090532262280768:T:=t
theorem tw8174265049933217202:T:=t
theorem tw6590801892334686599:T:=t
theorem tw17573937718456619690:T:=t
theorem tw3476191433996461152:T:=t
theorem tw122895109851674273:T:=t
theorem tw10917978164973679542:T:=t
theorem tw14935978850545421419:T:=t
theorem tw12377959399836290067:T:=t
theorem tw7535301439831773900:T:=t
theorem tw4396568497912434250:T:=t
theorem tw1649793746503978037:T:=t
theorem tw12460776751494502404:T:=t
theorem tw14674748507097392900:T:=t
theorem tw13715926623479129922:T:=t
theorem tw13500318469228345713:T:=t
theorem tw3950329949160742250:T:=t
theorem tw17076165290426530464:T:=t
theorem tw6272355060770995885:T:=t
theorem tw18318817810866021139:T:=t
theorem tw990764820897086996:T:=t
theorem tw10075024934479904143:T:=t
theorem tw12223445727089935259:T:=t
theorem tw12087079219971932454:T:=t
theorem tw9463795675075205437:T:=t
theorem tw8078265402885471976:T:=t
theorem tw5220988169690193284:T:=t
theorem tw16625174259953595169:T:=t
theorem tw8918006350611020791:T:=t
theorem tw3764820160496289554:T:=t
theorem tw5438862692097330487:T:=t
theorem tw4216420034110358939:T:=t
theorem tw3696901218909831053:T:=t
theorem tw8257418829022891257:T:=t
theorem tw17080153362635259050:T:=t
theorem tw9876159777357936899:T:=t
theorem tw11912952599753793277:T:=t
theorem tw2745991006798580251:T:=t
theorem tw17053829761978471420:T:=t
theorem tw3809554658679441229:T:=t
theorem tw7290374712976444997:T:=t
theorem tw11952842228531929067:T:=t
theorem tw2691867992351240810:T:=t
theorem tw6948474134290792126:T:=t
theorem tw8725880175513150802:T:=t
theorem tw14919038862432082165:T:=t
theorem tw1016313470199982537:T:=t
theorem tw5751903802948610276:T:=t
theorem tw7196324349363039711:T:=t
theorem tw15656486127985483219:T:=t
theorem tw12585681302598367607:T:=t
theorem tw9592554324860578136:T:=t
theorem tw4197240415250220850:T:=t
theorem tw13380458749892599093:T:=t
theorem tw14817645703785147396:T:=t
theorem tw5309995652401525101:T:=t
theorem tw6207179915725765719:T:=t
theorem tw17453721029707611201:T:=t
theorem tw7991351659645307184:T:=t
theorem tw6897596897191844616:T:=t
theorem tw9161127719534841658:T:=t
theorem tw17122103796602941201:T:=t
theorem tw4887097189600125948:T:=t
theorem tw15525279636034395452:T:=t
theorem tw5345257021437362142:T:=t
theorem tw3597224387928761530:T:=t
theorem tw2189392243237522080:T:=t
theorem tw3315115015657624638:T:=t
theorem tw15725253850911379854:T:=t
theorem tw6821187626703829088:T:=t
theorem tw14742731811885069116:T:=t
theorem tw3042782897042553625:T:=t
theorem tw15031465929163138751:T:=t
theorem tw10411296912743870623:T:=t
theorem tw2927320300579833983:T:=t
theorem tw7822962280082496512:T:=t
theorem tw11680442082056081124:T:=t
theorem tw17369344379546066803:T:=t
theorem tw4039083011212233968:T:=t
theorem tw1926156070640763614:T:=t
theorem tw1383439101478763327:T:=t
theorem tw12531592957024129060:T:=t
theorem tw7611442656274437139:T:=t
theorem tw3646117782734044179:T:=t
theorem tw10636867075115427920:T:=t
theorem tw4588911655245665398:T:=t
theorem tw11388261020817367519:T:=t
theorem tw14195857516506188752:T:=t
theorem tw8516248914058007536:T:=t
theorem tw9933187621900765661:T:=t
theorem tw12840931332580689146:T:=t
theorem tw2156908600965859427:T:=t
theorem tw8383832312975943185:T:=t
theorem tw12112647759870957014:T:=t
theorem tw15892027648726031944:T:=t
theorem tw15020162214462287587:T:=t
theorem tw6814150269638858196:T:=t
theorem tw2219097095629712201:T:=t
theorem tw15288804291069992006:T:=t
theorem tw13984125778581839424:T:=t
theorem tw8294567603793468075:T:=t
theorem tw17871362266857658384:T:=t
theorem tw10259550172225532679:T:=t
theorem tw209585131044431783:T:=t
theorem tw4826159377350640170:T:=t
theorem tw15426637738626486864:T:=t
theorem tw14311561367197305191:T:=t
theorem tw11519250642611243791:T:=t
theorem tw10704556739469484813:T:=t
theorem tw2951018021206863066:T:=t
theorem tw12245344352721615914:T:=t
theorem tw18025658111944671314:T:=t
theorem tw8848062868709305014:T:=t
theorem tw9974828092990910535:T:=t
theorem tw16278983773938623816:T:=t
theorem tw11268002685874432423:T:=t
theorem tw7271874215164270623:T:=t
theorem tw7054759504778813703:T:=t
theorem tw2660992353704633501:T:=t
theorem tw10195535451318777656:T:=t
theorem tw10283964699342064434:T:=t
theorem tw8307440872126120848:T:=t
theorem tw3221206007101484751:T:=t
theorem tw11074221192868344092:T:=t
theorem tw145932963246128051:T:=t
theorem tw11910161050144801243:T:=t
theorem tw2533170188022924913:T:=t
theorem tw332148526086002281:T:=t
theorem tw1122348294875185760:T:=t
theorem tw17281397238847051628:T:=t
theorem tw388132459636744785:T:=t
theorem tw11233552311124936086:T:=t
theorem tw15416837940088587490:T:=t
theorem tw9920813430400227697:T:=t
theorem tw9313591890549905059:T:=t
theorem tw17016924944305248243:T:=t
theorem tw1890682559011639224:T:=t
theorem tw15397586958153290271:T:=t
theorem tw1649579085508831400:T:=t
theorem tw13876524950054094614:T:=t
theorem tw7436007844522968869:T:=t
theorem tw4248858188191011707:T:=t
theorem tw18439033083047412173:T:=t
theorem tw1074516868807377101:T:=t
theorem tw3781718424149988127:T:=t
theorem tw3275178236903027326:T:=t
theorem tw2246114198807911332:T:=t
theorem tw14264558840923773697:T:=t
theorem tw10159389032180300928:T:=t
theorem tw6996696247724890340:T:=t
theorem tw2822907071458423533:T:=t
theorem tw15847444086296491327:T:=t
theorem tw11516083673652718094:T:=t
theorem tw6649000586521064083:T:=t
theorem tw8153351105357841641:T:=t
theorem tw4681720974709448466:T:=t
theorem tw9957188378976831251:T:=t
theorem tw5151445886737355997:T:=t
theorem tw2404936290449931907:T:=t
theorem tw4629720720223295621:T:=t
theorem tw8192045462056880886:T:=t
theorem tw11511833604947660874:T:=t
theorem tw14506335522078681198:T:=t
theorem tw16619340915541162848:T:=t
theorem tw4035567117447141005:T:=t
theorem tw9950984906565380895:T:=t
theorem tw15596916359039440783:T:=t
theorem tw3722370046394560457:T:=t
theorem tw5254291218172806239:T:=t
theorem tw13242218034438203823:T:=t
theorem tw5675339146475604060:T:=t
theorem tw5644764048023550207:T:=t
theorem tw13904747866207299807:T:=t
theorem tw9043999750321849445:T:=t
theorem tw17557955846509285157:T:=t
theorem tw4464993844327701207:T:=t
theorem tw10116244012155279326:T:=t
theorem tw4091792125141806092:T:=t
theorem tw4447307148886075343:T:=t
theorem tw13328876942023701386:T:=t
theorem tw14885436537357200447:T:=t
theorem tw8195256034748189324:T:=t
theorem tw7820420391224187335:T:=t
theorem tw13353880398495200290:T:=t
theorem tw4567310155831165015:T:=t
theorem tw17620514863039934880:T:=t
theorem tw2753894884028247:T:=t
theorem tw5244801350481787030:T:=t
theorem tw134521874587698215:T:=t
theorem tw9975269523818592724:T:=t
theorem tw3039677694828402761:T:=t
theorem tw15003182733627720372:T:=t
theorem tw15097703535185493621:T:=t
theorem tw538932451362224505:T:=t
theorem tw17589684436434577441:T:=t
theorem tw1658197193684275316:T:=t
theorem tw4743368475946334711:T:=t
theorem tw1980375524402002302:T:=t
theorem tw7758063928635784740:T:=t
theorem tw16058991070295768540:T:=t
theorem tw13008373176390373076:T:=t
theorem tw14992983214800064602:T:=t
theorem tw14331163173384819421:T:=t
theorem tw16038111126348386163:T:=t
theorem tw6996604510022546489:T:=t
theorem tw8958890896562605561:T:=t
theorem tw6768751125542400157:T:=t
theorem tw5725629724030738776:T:=t
theorem tw13360980773314081272:T:=t
theorem tw1881273628141950129:T:=t
theorem tw3017716237796050085:T:=t
theorem tw9410930895886830851:T:=t
theorem tw17385304542106548055:T:=t
theorem tw8929162171763405671:T:=t
theorem tw484179904497135155:T:=t
theorem tw10385972291305524515:T:=t
theorem tw4356472642329609974:T:=t
theorem tw17651295008732575174:T:=t
theorem tw4774948093478016081:T:=t
theorem tw11465607834340801042:T:=t
theorem tw7336779333470613504:T:=t
theorem tw17039554997033918745:T:=t
theorem tw8148134362133210370:T:=t
theorem tw14185994507778423819:T:=t
theorem tw10089113472772384774:T:=t
theorem tw2077690074044854482:T:=t
theorem tw9088850661482849427:T:=t
theorem tw288411641489606368:T:=t
theorem tw14525749084875191736:T:=t
theorem tw764732042479237497:T:=t
theorem tw16179723595558240676:T:=t
theorem tw16268382344902531218:T:=t
theorem tw1972047601138287618:T:=t
theorem tw6661065052353065320:T:=t
theorem tw5157400123132015144:T:=t
theorem tw8835200870164998712:T:=t
theorem tw7160642757287845954:T:=t
theorem tw2517642334926246588:T:=t
theorem tw14324643134823393709:T:=t
theorem tw13412383326353432330:T:=t
theorem tw10863431328213883938:T:=t
theorem tw6471395523428408251:T:=t
theorem tw8492490618434649289:T:=t
theorem tw10595839521171088435:T:=t
theorem tw12876500496384970917:T:=t
theorem tw4181972808089653594:T:=t
theorem tw5060404574720663952:T:=t
theorem tw12030256587067620103:T:=t
theorem tw15857467098338783936:T:=t
theorem tw15260478145775685171:T:=t
theorem tw7359549337865388183:T:=t
theorem tw13372793773036742737:T:=t
theorem tw16043647936977262334:T:=t
theorem tw13396310773797896340:T:=t
theorem tw5818851180930991848:T:=t
theorem tw14653772343310069545:T:=t
theorem tw13697778423791767345:T:=t
theorem tw568883250039891352:T:=t
theorem tw2868841428091204648:T:=t
theorem tw2063962012853046974:T:=t
theorem tw7492030116529166354:T:=t
theorem tw16051292036045715728:T:=t
theorem tw3897231576808763883:T:=t
theorem tw6905475023927656221:T:=t
theorem tw15902653346226055279:T:=t
theorem tw9425653185733914764:T:=t
theorem tw5286479519828484009:T:=t
theorem tw18350421489246803351:T:=t
theorem tw1513396286026484958:T:=t
theorem tw12687398731603832505:T:=t
theorem tw4643808109359329299:T:=t
theorem tw9538226051533269152:T:=t
theorem tw2911593502983421243:T:=t
theorem tw9477841014606062449:T:=t
theorem tw10534391724585933954:T:=t
theorem tw17393156024033759196:T:=t
theorem tw13611598617634704298:T:=t
theorem tw1283418492878313000:T:=t
theorem tw7875685502677297484:T:=t
theorem tw10610913765530660747:T:=t
theorem tw2201176655943343924:T:=t
theorem tw13418900697369464106:T:=t
theorem tw16584103675982884176:T:=t
theorem tw17573638741194809299:T:=t
theorem tw13216196189082939631:T:=t
theorem tw1930959741480660892:T:=t
theorem tw716927816470872148:T:=t
theorem tw6810229405824084477:T:=t
theorem tw9067985455519472299:T:=t
theorem tw11648549221805079087:T:=t
theorem tw13666863030765680010:T:=t
theorem tw682988552340921969:T:=t
theorem tw1164759201082787303:T:=t
theorem tw30516888858077971:T:=t
theorem tw12476055800596261357:T:=t
theorem tw7283001153640328056:T:=t
theorem tw10360385129273215995:T:=t
theorem tw7522427195449491447:T:=t
theorem tw8549717891604393450:T:=t
theorem tw12963041817334964015:T:=t
theorem tw136413005078865661:T:=t
theorem tw12544056204730560957:T:=t
theorem tw3287984282217807052:T:=t
theorem tw14138387163557110853:T:=t
theorem tw12720616893711688022:T:=t
theorem tw4546395012647954685:T:=t
theorem tw17483737984551867210:T:=t
theorem tw14988587922033304021:T:=t
theorem tw2492048929613541025:T:=t
theorem tw1273976805293772973:T:=t
theorem tw1598436242538282211:T:=t
theorem tw9916199118948513461:T:=t
theorem tw14757211927845266655:T:=t
theorem tw15695149568941424871:T:=t
theorem tw8800404311707590821:T:=t
theorem tw12119435566623225568:T:=t
theorem tw11921775078932222522:T:=t
theorem tw15609162463361733215:T:=t
theorem tw14013666240027854082:T:=t
theorem tw15196459059211658234:T:=t
theorem tw15571626766152387222:T:=t
theorem tw12950124535000289064:T:=t
theorem tw9845681107099458034:T:=t
theorem tw8363641326162966770:T:=t
theorem tw15843902886774820684:T:=t
theorem tw13507109222748178385:T:=t
theorem tw551878033868750631:T:=t
theorem tw4073450862890528463:T:=t
theorem tw6881307674522045928:T:=t
theorem tw4082656235138070203:T:=t
theorem tw6745301757348478735:T:=t
theorem tw3822018425818770122:T:=t
theorem tw13882606185055310181:T:=t
theorem tw14288243738381440493:T:=t
theorem tw8576703452051888039:T:=t
theorem tw17697503557976475346:T:=t
theorem tw11071092168611881012:T:=t
theorem tw18288557733248936724:T:=t
theorem tw1937750371327377422:T:=t
theorem tw9408370375254774644:T:=t
theorem tw1210530748395591148:T:=t
theorem tw2404633205489611897:T:=t
theorem tw13806454070660350921:T:=t
theorem tw857691276175789518:T:=t
theorem tw8047289358820287197:T:=t
theorem tw14191310702710227458:T:=t
theorem tw17529849222839375082:T:=t
theorem tw18246513400157920875:T:=t
theorem tw9547714120228685796:T:=t
theorem tw1428015736135853223:T:=t
theorem tw3105936464211144054:T:=t
theorem tw14864640965497991779:T:=t
theorem tw3021835603291095840:T:=t
theorem tw12792783352228383727:T:=t
theorem tw11654316357038136316:T:=t
theorem tw16421437270430711527:T:=t
theorem tw8069092538493481521:T:=t
theorem tw2822385975729611342:T:=t
theorem tw1090411510468800068:T:=t
theorem tw8454175693458000778:T:=t
theorem tw14547076071350101635:T:=t
theorem tw5648276094696049298:T:=t
theorem tw2171623322903362057:T:=t
theorem tw8427485113769799218:T:=t
theorem tw13118943305402699759:T:=t
theorem tw5991329863979130625:T:=t
theorem tw12721789152505531114:T:=t
theorem tw2699983602767374523:T:=t
theorem tw5181966892005782088:T:=t
theorem tw14158869808729706988:T:=t
theorem tw15244482743263677339:T:=t
theorem tw16561558360742137065:T:=t
theorem tw162848155603439990:T:=t
theorem tw8059141126832881916:T:=t
theorem tw8150083410846183547:T:=t
theorem tw11180674998892410296:T:=t
theorem tw5816237344298815641:T:=t
theorem tw7554959009405650026:T:=t
theorem tw6186103054323984563:T:=t
theorem tw149470206711900560:T:=t
theorem tw11279161967884546433:T:=t
theorem tw10449879093168152174:T:=t
theorem tw11442105100669052236:T:=t
theorem tw14910315980727139379:T:=t
theorem tw15532180198325277413:T:=t
theorem tw14377138705030266388:T:=t
theorem tw4820356001183778062:T:=t
theorem tw6124490972874172257:T:=t
theorem tw5145643837290298106:T:=t
theorem tw15187361961093261553:T:=t
theorem tw806059679219994385:T:=t
theorem tw10783175264176337430:T:=t
theorem tw4711357149551803662:T:=t
theorem tw13973744071428265228:T:=t
theorem tw17812654206654028429:T:=t
theorem tw614178721253697587:T:=t
theorem tw7778518709807883925:T:=t
theorem tw13458227961471406816:T:=t
theorem tw12609181574037364859:T:=t
theorem tw6716190173229412497:T:=t
theorem tw10395789954385654390:T:=t
theorem tw15765068283106822696:T:=t
theorem tw16697562355604267518:T:=t
theorem tw3502533989761060701:T:=t
theorem tw17494975543084776526:T:=t
theorem tw10239007394552878174:T:=t
theorem tw17842149565482381095:T:=t
theorem tw2504348554245470067:T:=t
theorem tw4296267017532797128:T:=t
theorem tw3376783596681068269:T:=t
theorem tw4870609095116367995:T:=t
theorem tw8316978927428267617:T:=t
theorem tw16600827452279821873:T:=t
theorem tw3247367380084042296:T:=t
theorem tw17264778694843096519:T:=t
theorem tw2056866998167769742:T:=t
theorem tw10099382267163970797:T:=t
theorem tw2345487744653432563:T:=t
theorem tw14364079368883715770:T:=t
theorem tw6048745964160318464:T:=t
theorem tw12136790455629638108:T:=t
theorem tw11186278346458651885:T:=t
theorem tw3696960078455213082:T:=t
theorem tw8135493339603401687:T:=t
theorem tw14349752981382075830:T:=t
theorem tw10307356883056191786:T:=t
theorem tw12536998783352910709:T:=t
theorem tw7876969669924440321:T:=t
theorem tw5475936251782762557:T:=t
theorem tw5834209850536974553:T:=t
theorem tw16344473531126340893:T:=t
theorem tw5044532516427930034:T:=t
theorem tw13001090167431948686:T:=t
theorem tw11895436526391868385:T:=t
theorem tw222785427389350134:T:=t
theorem tw1445886391551537731:T:=t
theorem tw6951225809539125009:T:=t
theorem tw12545834286116690562:T:=t
theorem tw3373189247971503177:T:=t
theorem tw7411675879612560423:T:=t
theorem tw15826755849600578775:T:=t
theorem tw8629640164197408899:T:=t
theorem tw12989204983627833920:T:=t
theorem tw15507295418574587819:T:=t
theorem tw6382291294955211999:T:=t
theorem tw13742351995774673705:T:=t
theorem tw4098536169802072696:T:=t
theorem tw17224703828522220382:T:=t
theorem tw13285676348558272288:T:=t
theorem tw14938798612039523107:T:=t
theorem tw13167229442138870257:T:=t
theorem tw10805239673477678041:T:=t
theorem tw15038418565850436986:T:=t
theorem tw14095971397211782968:T:=t
theorem tw10392914110069091124:T:=t
theorem tw1326067736672580545:T:=t
theorem tw4943545995465237767:T:=t
theorem tw17433518216253938662:T:=t
theorem tw16831101020866358490:T:=t
theorem tw14702946807805543658:T:=t
theorem tw4204637286096544306:T:=t
theorem tw9960968122618143832:T:=t
theorem tw9356179824560524543:T:=t
theorem tw15513907674853377026:T:=t
theorem tw7381783550449437068:T:=t
theorem tw7789537453598603269:T:=t
theorem tw11926272105270764117:T:=t
theorem tw3523277934440134947:T:=t
theorem tw11874976274172590891:T:=t
theorem tw8368798856109363619:T:=t
theorem tw64630411898889128:T:=t
theorem tw5291343962402555478:T:=t
theorem tw2961708919734236128:T:=t
theorem tw17025074069590261352:T:=t
theorem tw1424128092797642980:T:=t
theorem tw9876543146211162787:T:=t
theorem tw16329963321018892172:T:=t
theorem tw3986090183591653432:T:=t
theorem tw6047097596973096534:T:=t
theorem tw5745465540762440112:T:=t
theorem tw4288143970758385065:T:=t
theorem tw3343473771444255265:T:=t
theorem tw3936574193395988776:T:=t
theorem tw14726961885551866062:T:=t
theorem tw1906023392622491010:T:=t
theorem tw933441318110467940:T:=t
theorem tw15525298443865201073:T:=t
theorem tw17478428059220288493:T:=t
theorem tw16889384090722931010:T:=t
theorem tw929041136397781899:T:=t
theorem tw12445940973143799526:T:=t
theorem tw16168019790947101984:T:=t
theorem tw17288500401979066083:T:=t
theorem tw6691027074710735343:T:=t
theorem tw9079676753793809656:T:=t
theorem tw13984105327260874470:T:=t
theorem tw17454318776723317414:T:=t
theorem tw13935339594760756573:T:=t
theorem tw1396631885417364829:T:=t
theorem tw18021650032858729757:T:=t
theorem tw3296267005824016447:T:=t
theorem tw13750583455376624881:T:=t
theorem tw14341120729795077261:T:=t
theorem tw6515252487656556794:T:=t
theorem tw9819894657917094784:T:=t
theorem tw3787666990311124380:T:=t
theorem tw8626315453904953860:T:=t
theorem tw6905357976775366822:T:=t
theorem tw15687806069674188760:T:=t
theorem tw16514233136784977297:T:=t
theorem tw8528795903151043451:T:=t
theorem tw6696019823409772510:T:=t
theorem tw6061844814560656316:T:=t
theorem tw576899675763343441:T:=t
theorem tw7258646118196019072:T:=t
theorem tw5859954059831970930:T:=t
theorem tw6381170856756570040:T:=t
theorem tw15881809610774648345:T:=t
theorem tw15935829536121919871:T:=t
theorem tw1709533345360563255:T:=t
theorem tw3770322921552031231:T:=t
theorem tw1742656451142089649:T:=t
theorem tw11831106913802473199:T:=t
theorem tw2868292288803158069:T:=t
theorem tw9375360588515080113:T:=t
theorem tw12870832547070010083:T:=t
theorem tw18383182533153586477:T:=t
theorem tw8790518789954672209:T:=t
theorem tw12971980108649762115:T:=t
theorem tw12677999345953698985:T:=t
theorem tw7421786164480996228:T:=t
theorem tw13593828154612893309:T:=t
theorem tw10450788274241771536:T:=t
theorem tw15645666165076150114:T:=t
theorem tw3238041122174531716:T:=t
theorem tw14581080383437586561:T:=t
theorem tw7196959931366684185:T:=t
theorem tw16916634567150479132:T:=t
theorem tw9160301636639237467:T:=t
theorem tw15463203823495961244:T:=t
theorem tw4786497654422877938:T:=t
theorem tw8591088177582840138:T:=t
theorem tw3363799594497527996:T:=t
theorem tw15784146693891255721:T:=t
theorem tw13071191126500404010:T:=t
theorem tw2809980089338295446:T:=t
theorem tw17093792507239897499:T:=t
theorem tw5565705770439821194:T:=t
theorem tw16447564128994577934:T:=t
theorem tw8475944641615879958:T:=t
theorem tw12247584602314355929:T:=t
theorem tw11203511338275664327:T:=t
theorem tw1352479365382649514:T:=t
theorem tw18364815469964950118:T:=t
theorem tw2497926436135343631:T:=t
theorem tw6539906834269234583:T:=t
theorem tw8201023514652866248:T:=t
theorem tw17957411485211015398:T:=t
theorem tw3313114576310721804:T:=t
theorem tw8435280521333064917:T:=t
theorem tw42991212193153973:T:=t
theorem tw6010527527868921132:T:=t
theorem tw17832744011254776289:T:=t
theorem tw15637220148305887217:T:=t
theorem tw1358250369764232750:T:=t
theorem tw13576942657099514123:T:=t
theorem tw432897219053493142:T:=t
theorem tw11300498958895695146:T:=t
theorem tw2896438728730547279:T:=t
theorem tw17731984463975473917:T:=t
theorem tw18286160104727862462:T:=t
theorem tw3264777137382535416:T:=t
theorem tw5546299256372968745:T:=t
theorem tw13461288425266067717:T:=t
theorem tw190323194274516343:T:=t
theorem tw6119721936978453658:T:=t
theorem tw15088266657895807461:T:=t
theorem tw16096895891696496363:T:=t
theorem tw2904059501028533237:T:=t
theorem tw4155468523610585343:T:=t
theorem tw8765746493276748076:T:=t
theorem tw6938760501003799309:T:=t
theorem tw15642498914273402183:T:=t
theorem tw6815985589519525316:T:=t
theorem tw7494296812056875437:T:=t
theorem tw53671048762403245:T:=t
theorem tw11060124829600404249:T:=t
theorem tw419276852697310815:T:=t
theorem tw7003310216729256977:T:=t
theorem tw14292547228490471781:T:=t
theorem tw17236013290512009086:T:=t
theorem tw16166368621782959301:T:=t
theorem tw11089877848252077935:T:=t
theorem tw17454577913403430252:T:=t
theorem tw10367308775770812932:T:=t
theorem tw6571291060729986440:T:=t
theorem tw17989415352218789217:T:=t
theorem tw15587764676737728853:T:=t
theorem tw17295839151220075915:T:=t
theorem tw329072985140239050:T:=t
theorem tw3643914471317708621:T:=t
theorem tw9926087939513100535:T:=t
theorem tw16294087361379835962:T:=t
theorem tw12036669265036031014:T:=t
theorem tw13945033177886227809:T:=t
theorem tw7815520995879020269:T:=t
theorem tw9469051840768371287:T:=t
theorem tw9583031203963763055:T:=t
theorem tw11232610466416726398:T:=t
theorem tw10516643663288343842:T:=t
theorem tw1628044414854275119:T:=t
theorem tw4283683937392015733:T:=t
theorem tw7257752904359908486:T:=t
theorem tw9429861001312166809:T:=t
theorem tw5841892539215548279:T:=t
theorem tw10483263613327836230:T:=t
theorem tw8680568747675894556:T:=t
theorem tw14150925457611720700:T:=t
theorem tw16503685224865804450:T:=t
theorem tw6726772413313095014:T:=t
theorem tw16041046370011181779:T:=t
theorem tw5486498298220157551:T:=t
theorem tw6773202340168799102:T:=t
theorem tw4354437142168371049:T:=t
theorem tw10927994296842964546:T:=t
theorem tw12792585633891114797:T:=t
theorem tw17971117906851217387:T:=t
theorem tw13539627523613935523:T:=t
theorem tw12740483090795623637:T:=t
theorem tw4852414063411868548:T:=t
theorem tw11602193965008381395:T:=t
theorem tw2960456510772831355:T:=t
theorem tw5490980215271389280:T:=t
theorem tw1541562364700265154:T:=t
theorem tw14963347970970158890:T:=t
theorem tw104094576447766374:T:=t
theorem tw10143001506211119355:T:=t
theorem tw1472627028676479429:T:=t
theorem tw17601551063327761115:T:=t
theorem tw12316986716782704333:T:=t
theorem tw15890461587552314789:T:=t
theorem tw4568365569954123920:T:=t
theorem tw3923788489404985783:T:=t
theorem tw17874153101932871819:T:=t
theorem tw3710802891750653368:T:=t
theorem tw2313343453469587:T:=t
theorem tw14364110991727458282:T:=t
theorem tw2586096127677666143:T:=t
theorem tw12958973201736663512:T:=t
theorem tw16401775577440721349:T:=t
theorem tw17365841796568000854:T:=t
theorem tw2684102819342949193:T:=t
theorem tw16984819292278807220:T:=t
theorem tw18075650540444998648:T:=t
theorem tw11413205744277866631:T:=t
theorem tw2434324634612665561:T:=t
theorem tw10782636077873877296:T:=t
theorem tw2438556121179383376:T:=t
theorem tw7570617728802852908:T:=t
theorem tw17436559092727719069:T:=t
theorem tw16422446190411312259:T:=t
theorem tw7385541598251207468:T:=t
theorem tw3448436965285196660:T:=t
theorem tw7086268270985402415:T:=t
theorem tw6346493079076818392:T:=t
theorem tw4514053743599041045:T:=t
theorem tw11044573971291310966:T:=t
theorem tw14693721518964817596:T:=t
theorem tw9427077688836159671:T:=t
theorem tw3035972135482712479:T:=t
theorem tw10982810722298789478:T:=t
theorem tw245388453786887242:T:=t
theorem tw13724630365935171946:T:=t
theorem tw9833553656769391465:T:=t
theorem tw9691422183254027723:T:=t
theorem tw6357707457550563748:T:=t
theorem tw5073386559561990923:T:=t
theorem tw511154227527352935:T:=t
theorem tw2194386836789649628:T:=t
theorem tw15932340531052202542:T:=t
theorem tw12203261482158421150:T:=t
theorem tw5254150876798236439:T:=t
theorem tw13522551469373217439:T:=t
theorem tw8063799498105216150:T:=t
theorem tw14866903424737192701:T:=t
theorem tw11255313108558152148:T:=t
theorem tw3171571090798886337:T:=t
theorem tw3778313439561597904:T:=t
theorem tw2296798500458606327:T:=t
theorem tw10608150008125927267:T:=t
theorem tw7139931688861200607:T:=t
theorem tw5602258624995510178:T:=t
theorem tw5033423968699698886:T:=t
theorem tw4709067958626073384:T:=t
theorem tw1765193833724418456:T:=t
theorem tw7939700986846642070:T:=t
theorem tw17967490135107311282:T:=t
theorem tw15607260501993015751:T:=t
theorem tw5831941663624143594:T:=t
theorem tw8072070048918887560:T:=t
theorem tw10606685759059100015:T:=t
theorem tw5652590095549514255:T:=t
theorem tw11561366718681118979:T:=t
theorem tw1384209119611808009:T:=t
theorem tw9522786389256371610:T:=t
theorem tw883525322311835505:T:=t
theorem tw3289709261027852024:T:=t
theorem tw17469929296604087836:T:=t
theorem tw15462683395770930534:T:=t
theorem tw13028522948772262508:T:=t
theorem tw14780050976537163602:T:=t
theorem tw1879972785478743596:T:=t
theorem tw10378792918218926003:T:=t
theorem tw2258324389533410429:T:=t
theorem tw2653273610416408720:T:=t
theorem tw12965826118423939856:T:=t
theorem tw3596415110745729370:T:=t
theorem tw6500686390916074201:T:=t
theorem tw558561146864003076:T:=t
theorem tw15880504448479711350:T:=t
theorem tw15377445910829238176:T:=t
theorem tw8606624086045412448:T:=t
theorem tw2786521351924353169:T:=t
theorem tw6873645178399093424:T:=t
theorem tw3627922134348299825:T:=t
theorem tw7034298128997996108:T:=t
theorem tw14412582317878784360:T:=t
theorem tw4518221268279412019:T:=t
theorem tw5492716820719653743:T:=t
theorem tw8683918616840425538:T:=t
theorem tw7105652820812284432:T:=t
theorem tw17197377076905342390:T:=t
theorem tw5797834762334671391:T:=t
theorem tw7590023021421854271:T:=t
theorem tw5557744672519427172:T:=t
theorem tw15102594672415386349:T:=t
theorem tw6987332734749810786:T:=t
theorem tw9661119599188179355:T:=t
theorem tw15710256053868434734:T:=t
theorem tw1347916733764399252:T:=t
theorem tw8462949007004437653:T:=t
theorem tw932451246233767929:T:=t
theorem tw16194197300274779544:T:=t
theorem tw13251139996166171883:T:=t
theorem tw5429637529817410239:T:=t
theorem tw3864814513713628098:T:=t
theorem tw12392237581957222550:T:=t
theorem tw14463440262855552375:T:=t
theorem tw10027257451656575460:T:=t
theorem tw13890433966359505285:T:=t
theorem tw14537370466570294729:T:=t
theorem tw17682533232276427782:T:=t
theorem tw11419140202800805772:T:=t
theorem tw4957977497641929111:T:=t
theorem tw13051606616835114215:T:=t
theorem tw11617668915913538150:T:=t
end Mine.hx
open PySem PySem.W PyProof.Rows PySem.Calls Mine
set_option Elab.async true
set_option maxRecDepth 100000 in
set_option maxHeartbeats 8000000 in
theorem Mine.hx : PySem.Challenge.rw_te0033_05.Holds := by
  w_on; o_law; k_head; (case hw => w_witness2)
  k_fill
  intro w s₀ s₁ mg mb G Y fa o pm cd doc dV kV ho hd hcd hD hmg hg args vals as hpre hlay hrd hwl hlo
  have KX := kIn_of Y
  have X := (Ground.X G).1
  have V := (Ground.X G).2
  try w_nolog (first | (have GL := glob_more (Ground.glob G (by first | k_qdec | decide +kernel) (by first | k_qdec | decide +kernel)) V) | (have GL := glob_more (Ground.glob G (by decide +kernel)) V))
  refine Ground.open G ?_
  intro T B D TE TW
  try (refine guard_noD D (by decide +kernel) ?_; clear D)
  obtain ⟨_, _, M⟩ := bmod_of_top T
  have TA := at_of_top T
  try (obtain ⟨_, _, he, B0⟩ := based_of_top T rfl hmg ho hd; have he' : cd = _ := he; subst he'; clear he)
  clear hmg
  wrow_args hpre hlay hrd hwl hlo
  all_goals (
    first | refine callC_kw (enter_call ?_) | refine enter_call ?_ | refine callC_kw (enter_callW ?_) | refine enter_callW ?_ | w_how
    w_top on
    have K0 := below_caller (Top.heap T)
    w_call any ho hd hcd hD T F
    clear hd TA
    k_drop
    skip)
  rename_i ns hs hlay0 hL1 hr1 hl2 w4 w3 a vals w1' hL ra w1 r0 hI hr2 hcond hcond2 h₁ N0
  refine wpAny_mono (E := fun _ _ => False) (Q := fun f s' => f = .ret (.bool true) ∧ (∀ b o, s₁.heap.get? b = some o → s'.heap.get? b = some o) ∧ s'.os = s₁.os ∧ AllBare s'.gens) ?_ (fun f s' h => ?_) ?_
  rotate_left
  · obtain ⟨rfl, hk, hos, hab⟩ := h
    dsimp only
    refine ⟨.inl ⟨_, _, _, rfl, ?_, .bool _, ?_, ?_⟩, .of_keep hk, hos, hab⟩
    · intro cls; rfl
    · wrow_post
    · exact fun _ => ⟨List.nodup_nil, fun _ h => nomatch h⟩
  · exact fun _ _ h => h.elim
  refine ZBK (P := w.params) (K0 := Mine.hx.heap_1_39 w.params) (kn := fun x => List.lookup x Kf) rfl KX T.b T.builtins hg w1 (by omega) F rfl rfl rfl rfl (Nat.succ_pos _) ⟨rfl, rfl, rfl⟩ (fun x hx => (ZAf x hx).elim) (fun x => rfl) (De rfl (by kernel_rfl) (by kernel_rfl)) (De rfl (by kernel_rfl) (by kernel_rfl))
    ⟨by kernel_rfl, by kernel_rfl, by kernel_rfl, by kernel_rfl, by kernel_rfl, by kernel_rfl, by kernel_rfl, by kernel_rfl, by kernel_rfl, by kernel_rfl, by kernel_rfl, by kernel_rfl, by kernel_rfl, by kernel_rfl, ZEX (List.all_eq_true.mp (by kernel_rfl))⟩
    (by kernel_rfl) (by kernel_rfl) (by kernel_rfl) (by kernel_rfl) (by kernel_rfl) (by kernel_rfl) (by kernel_rfl)
theorem PySem.Challenge.cw_te0033_05_holds : PySem.Challenge.rw_te0033_05.Holds :=
  Mine.hx
