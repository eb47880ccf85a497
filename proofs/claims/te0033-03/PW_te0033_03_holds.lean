import PyProof.Rows.All
import Wide.All
import OpenK.AllK
import Wide.FinOn
import KE.KIntText
import PySem.Challenge.RW_te0033_03
set_option Elab.async false
section
set_option compiler.extract_closed false
namespace Mine.Tactic
@[elab_as_elim] theorem rwE{α:Sort _}{a b:α}{p:α→Prop}(h:a=b)(k:p b):p a:=h▸k
@[elab_as_elim] theorem rwS{α:Sort _}{a b:α}{p:α→Prop}(h:a=b)(k:p a):p b:=h▸k
theorem pp1{α β}{a b:α}{c d:β}(h:(a,c)=(b,d)):a=b:=(Prod.mk.inj h).1
theorem pp2{α β}{a b:α}{c d:β}(h:(a,c)=(b,d)):c=d:=(Prod.mk.inj h).2
end Mine.Tactic
set_option hygiene false
local macro_rules
|`(tactic|rewrite[$[←%$t]?$h])=>do
 let f:=Lean.mkIdent (if t.isSome then `rwS else `rwE)
 `(tactic|first|refine $f $h ?_|refine $f ($h ..) ?_|fail)
|`(tactic|rewrite[$h,$hs,*])=>`(tactic|(rewrite[$h];rewrite[$hs,*]))
local macro_rules
|`(tactic|show $t)=>`(tactic|first|refine (?_:$t)|fail)
local macro_rules
|`(tactic|cases $h:ident)=>`(tactic|first|subst $h|((with_reducible replace $h:ident:=Option.some.inj $h);cases $h:ident)|((with_reducible (have J1:=pp1 $h;have J2:=pp2 $h));clear $h;cases J1;cases J2)|fail)
|`(tactic|cases $h:term)=>`(tactic|first|(have J1:_=_:=$h;cases J1)|fail)
local macro_rules
|`(tactic|cases $h:ident $[$as]?)=>do
 let t←("List Option Bool Vv V Or And Exists ME MS Expr Stmt Value Rz Tok4 Ob FL Prod Operator Xs Data SM Cmp TQ LV Bop Const Id BI It CmpOp Nm UnaryOp BoolOp Except Flow Obj Shared".splitOn " ").toArray.mapM fun n=>`(tactic|induction $h:ident using $(Lean.mkIdent (.str (.mkSimple n) "casesOn")) $[$as]?)
 `(tactic|first $[|$t:tactic]* |fail)
set_option hygiene true
set_option linter.unusedVariables false
set_option maxRecDepth 10000
set_option genSizeOf false
set_option genInjectivity false
set_option genCtorIdx false
set_option bootstrap.genMatcherCode false
set_option tactic.hygienic false
noncomputable section
set_option genSizeOf false
open PySem
namespace Mine.Tactic
section
open PySem.Calls PyProof.Rows PySem.W
abbrev LN:=List Nat
def aM:=@congrArg
def aN:=@if_neg
def aO:=@List.length_append
def aP:=@List.length_map
def aQ:=@List.append_nil
def aR:=@if_pos
def aS:=@beq_self_eq_true
def aT:=@List.append_assoc
def aU:=@decide_eq_true
def aV:=@beq_iff_eq
def aW:=@Nat.add_comm
def aX:=@Nat.add_assoc
def aY:=@Option.some.inj
def aZ:=@List.mem_cons
def aa:=@Nat.eq_of_beq_eq_true
def ae:=@List.mem_singleton
def ag:=@Bool.and_eq_true_iff
def ah:=@List.getElem?_eq_getElem
def aj:=@Int.natCast_nonneg
def ak:=@List.mem_map
def am:=@List.length_drop
def an:=@decide_eq_false
def ao:=@Nat.add_sub_cancel_left
def aq:=@List.all_eq_true
def ar:=@Bool.false_ne_true
def au:=@List.length_cons
def aw:=@List.takeWhile_cons
def ax:=@List.getElem?_eq_some_iff
def ay:=@Classical.byCases
def az:=@Bool.or_eq_true_iff
def a3:=@Name_function_global
def a4:=@Nat.add_right_comm
def a5:=@Exists.imp
def a6:=@List.isEmpty_iff
def a7:=@List.drop_drop
def a8:=@Int.ofNat_lt
def a9:=@List.length_reverse
def bB:=@Array.getElem?_eq_getElem
def bC:=@List.mem_of_getElem?
def bD:=@Option.isNone_iff_eq_none
def bF:=@List.mem_of_mem_drop
def bG:=@List.any_cons
def bH:=@List.map_append
def bI:=@List.take_length
def bJ:=@List.take_append_drop
def bK:=@wpAny_truthy_bool
def bL:=@Nat.zero_add
def bM:=@Nat.not_lt
def bN:=@arm_eval_Call_Name'
def bP:=@Int.not_lt
def bQ:=@Array.getElem?_toList
def bR:=@Heap.dictOf_iff
def bS:=@Nat.le_add_left
def bT:=@Nat.lt_trans
def bU:=@List.length_take_of_le
def bV:=@List.getElem?_map
def bW:=@Bool.eq_false_iff
def bX:=@beq_false_of_ne
def bY:=@List.mem_append
def bZ:=@Nat.lt_add_of_pos_right
def ba:=@Array.length_toList
def bc:=@List.filterMap_cons
def be:=@List.drop_of_length_le
def bg:=@Nat.ble_eq_true_of_le
def bh:=@List.drop_eq_getElem_cons
def bj:=@Nat.min_eq_left
def bq:=@List.find?_cons
def br:=@List.map_map
def bt:=@List.reverse_cons
def bu:=@Bool.and_true
def bw:=@Nat.add_sub_cancel'
def bx:=@List.reverse_append
def bz:=@List.take_of_length_le
def b5:=@Int.ofNat_le
def b6:=@Nat.ne_of_gt
def b7:=@Nat.mul_succ
def b8:=@List.forIn_cons
def b9:=@wpAny_specialOf
def cC:=@List.nodup_cons
def cD:=@wpAny_assign_Name
def cE:=@Nat.add_sub_add_left
def cG:=@List.drop_left
def cH:=@Int.max_eq_right
def cI:=@callWith_builtin
def cJ:=@List.lookup_cons
def cK:=@Option.isSome_iff_exists
def cL:=@Nat.succ_lt_succ
def cM:=@Int.add_sub_cancel
def cN:=@List.drop_append_of_le_length
def cO:=@Array.toList_push
def cP:=@Nat.lt_of_succ_lt
def cQ:=@Int.toNat_natCast
def cR:=@Bool.not_eq_true'
def cS:=@Bool.and_false
def cT:=@List.drop_take
def cU:=@Bool.false_and
def cV:=@List.mem_append_right
def cY:=@wpAny_richCompare_same_room
def cZ:=@List.length_take
def cb:=@wpAny_loadName_local
def cf:=@Array.mem_toList_iff
def cg:=@List.any_eq_true
def ci:=@List.drop_length
def cj:=@List.drop_nil
def cm:=@List.nodup_iff_pairwise_ne
def cn:=@Int.ofNat.inj
def cq:=@List.mem_map_of_mem
def cr:=@List.map_congr_left
def ct:=@wpAny_operating
def cu:=@wpAny_execs_nil
def cx:=@Nat.le_of_add_le_add_left
def cy:=@List.prefix_iff_eq_append
def cz:=@spliced_cons
def dA:=@Nat.beq_refl
def dB:=@wpAny_call
def dC:=@seg_execs_cons
def dD:=@List.prefix_iff_eq_take
def dE:=@wpAny_dictEntries
def dF:=@Nat.succ_le_of_lt
def dG:=@Bool.or_false
def dH:=@seg_execs_nil
def dI:=@Nat.le_of_not_lt
def dJ:=@Nat.succ_ne_zero
def dK:=@arm_eval_Compare
def dL:=@wpAny_isTrue_Compare1
def dM:=@List.contains_iff_mem
def dO:=@List.eraseIdxIfInBounds_toArray
def dP:=@List.takeWhile_append_dropWhile
def dQ:=@looks_nsIn
def dR:=@Int.not_le
def dS:=@typeIs_str
def dT:=@Int.le_of_lt
def dU:=@List.reverse_reverse
def dW:=@Nat.lt_asymm
def dX:=@Nat.mul_le_mul_right
def dY:=@List.mem_of_mem_take
def dZ:=@Bool.or_eq_false_iff
def dc:=@beq_eq_false_iff_ne
def df:=@Array.toList_append
def dh:=@Int.toNat_of_nonneg
def di:=@PySem.callWith_type
def dj:=@List.dropWhile_cons
def dk:=@List.drop_zero
def dm:=@List.take_left
def dp:=@wpAny_ite_true
def dq:=@sizeLine_eq
def dt:=@Int.lt_of_le_of_lt
def du:=@List.getElem?_concat_length
def dw:=@List.take_length_add_append
def dy:=@List.dropWhile_cons_of_neg
def dz:=@Option.isNone_eq_false_iff
def d0:=@wpAny_newFunctionEnv_cells
def d7:=@List.getElem?_append_right
def d8:=@List.take_prefix_take_left
def d9:=@List.any_eq_false
def eA:=@Array.isEmpty_iff
def eB:=@List.length_range
def eC:=@wpAny_Assign_Name
def eD:=@List.nodup_append
def eE:=@List.mem_of_find?_eq_some
def eF:=@Nat.sub_self
def eG:=@Int.toNat_le
def eH:=@Constant_str
def eI:=@wpAny_call_entry
def eJ:=@Int.le_trans
def eK:=@List.mem_reverse
def eM:=@congrFun
def eN:=@Nat.succ_ne_self
def eO:=@Nat.lt_of_not_le
def eP:=@List.mem_flatMap
def eQ:=@Nat.min_eq_right
def eR:=@List.length_nil
def eS:=@List.zip_append
def eT:=@List.mem_filter
def eU:=@Int.min_eq_left
def eV:=@Nat.min_le_left
def eW:=@wpAny_of_eq
def eX:=@spliced_nil
def eY:=@Int.le_refl
def eZ:=@sliceRange_one
def eb:=@List.mem_range
def ed:=@cellsFrom_some
def ee:=@Heap.size_push
def ef:=@List.nodup_nil
def ei:=@wpAny_Name
def ej:=@Nat.max_le
end
def qA:=@Nat.le_trans
def qB:=@wpAny_bind
def qC:=@wpAny_pure
def qD:=@wpAny_holding
def qE:=@Nat.le_of_ble_eq_true
def qF:=@Nat.le_refl
def qG:=@Nat.zero_le
def qH:=@of_decide_eq_true
def qI:=@Nat.add_le_add_left
def qJ:=@Nat.succ_le_succ
def qK:=@Nat.le_add_right
def qL:=@Nat.lt_of_le_of_lt
def qM:=@List.takeWhile_prefix
def qO:=@Nat.add_le_add_right
def qP:=@Nat.ne_of_lt
def qQ:=@Nat.add_le_add
def qR:=@Nat.le_of_succ_le
def qS:=@List.cons.inj
def qT:=@Nat.lt_succ_of_lt
def qU:=@Nat.le_of_eq
def qV:=@wpAny_standAt
def qX:=@wpAny_execs_cons
def qY:=@Heap.get?_push_size
def qZ:=@Heap.get?_push_of_some
def xA:=@Nat.mul_le_mul_left
def xB:=@Nat.lt_succ_self
def xC:=@Nat.le_succ
def xD:=@Nat.succ_pos
def xF:=@Nat.le_of_lt
def xG:=@Nat.lt_of_lt_of_le
def xH:=@Nat.lt_of_succ_lt_succ
def xJ:=@Nat.not_lt_zero
def xK:=@Nat.not_succ_le_zero
def xN:=@Nat.le_antisymm
def xO:=@Nat.le_succ_of_le
def xP:=@Heap.lt_size
def xQ:=@Nat.le_of_succ_le_succ
def xR:=@List.length_take_le'
def xS:=@Nat.lt_irrefl
def xT:=@wpAny_mono
def xU:=@Nat.sub_le
def xV{α}[BEq α][LawfulBEq α]{a b:α}(h:a≠b):(a==b)=false:=dc.mpr h
noncomputable abbrev wA:LN:=[105,110,118,97,108,105,100,45,99,111,100,101,112,111,105,110,116]
noncomputable abbrev wB:LN:=[100,97,116,97]
noncomputable abbrev wC:LN:=[116,121,112,101]
noncomputable abbrev wD:LN:=[117,110,101,120,112,101,99,116,101,100,45,99,104,97,114,97,99,116,101,114,45,97,102,116,101,114,45,115,111,108,105,100,117,115,45,105,110,45,116,97,103]
noncomputable abbrev wE:LN:=[105,108,108,101,103,97,108,45,99,111,100,101,112,111,105,110,116,45,102,111,114,45,110,117,109,101,114,105,99,45,101,110,116,105,116,121]
noncomputable abbrev wG:LN:=[101,120,112,101,99,116,101,100,45,97,116,116,114,105,98,117,116,101,45,110,97,109,101,45,98,117,116,45,103,111,116,45,101,111,102]
noncomputable abbrev wH:LN:=[117,110,101,120,112,101,99,116,101,100,45,69,79,70,45,97,102,116,101,114,45,115,111,108,105,100,117,115,45,105,110,45,116,97,103]
noncomputable abbrev wI:LN:=[101,120,112,101,99,116,101,100,45,101,110,100,45,111,102,45,116,97,103,45,98,117,116,45,103,111,116,45,101,111,102]
noncomputable abbrev wJ:LN:=[115,101,108,102,67,108,111,115,105,110,103]
noncomputable abbrev wK:LN:=[83,112,97,99,101,67,104,97,114,97,99,116,101,114,115]
noncomputable abbrev wL:LN:=[105,110,118,97,108,105,100,45,99,104,97,114,97,99,116,101,114,45,105,110,45,97,116,116,114,105,98,117,116,101,45,110,97,109,101]
noncomputable abbrev wM:LN:=[110,117,109,101,114,105,99,45,101,110,116,105,116,121,45,119,105,116,104,111,117,116,45,115,101,109,105,99,111,108,111,110]
noncomputable abbrev wN:LN:=[101,111,102,45,105,110,45,97,116,116,114,105,98,117,116,101,45,110,97,109,101]
noncomputable abbrev wO:LN:=[110,97,109,101,100,45,101,110,116,105,116,121,45,119,105,116,104,111,117,116,45,115,101,109,105,99,111,108,111,110]
noncomputable abbrev wQ:LN:=[100,117,112,108,105,99,97,116,101,45,97,116,116,114,105,98,117,116,101]
noncomputable abbrev wR:LN:=[115,101,108,102,45,99,108,111,115,105,110,103,45,102,108,97,103,45,111,110,45,101,110,100,45,116,97,103]
noncomputable abbrev wS:LN:=[1,0,2,99]
noncomputable abbrev wU:LN:=[101,120,112,101,99,116,101,100,45,110,117,109,101,114,105,99,45,101,110,116,105,116,121]
noncomputable abbrev wV:LN:=[101,120,112,101,99,116,101,100,45,110,97,109,101,100,45,101,110,116,105,116,121]
noncomputable abbrev wX:LN:=[97,116,116,114,105,98,117,116,101,115,45,105,110,45,101,110,100,45,116,97,103]
noncomputable abbrev wY:LN:=[0,32,35,38,47,59,60,62,69,73,76,84,97,101,105,108,109,110,111,112,116,120]
noncomputable abbrev wZ:LN:=[110,97,109,101]
noncomputable abbrev w4:LN:=[67,104,97,114,97,99,116,101,114,115]
noncomputable abbrev w5:LN:=[105,110,118,97,108,105,100,45,99,104,97,114,97,99,116,101,114,45,97,102,116,101,114,45,97,116,116,114,105,98,117,116,101,45,110,97,109,101]
noncomputable abbrev w6:LN:=[99,104,97,114,65,115,73,110,116]
noncomputable abbrev w7:LN:=[69,110,100,84,97,103]
noncomputable abbrev w8:LN:=[48,49,50,51,52,53,54,55,56,57,97,98,99,100,101,102]
noncomputable abbrev w9:LN:=[100,97,116,97,118,97,114,115]
noncomputable abbrev vA:LN:=[0,32,35,38,54,59,60,62,69,73,76,84,97,101,105,108,109,110,111,112,116,120]
noncomputable abbrev vB:LN:=[80,97,114,115,101,69,114,114,111,114]
noncomputable abbrev vC:LN:=[0,32,35,38,47,59,60,62,69,73,76,84,97,101,105,108,109,110,111,112,116]
noncomputable abbrev vD:LN:=[105,110,118,97,108,105,100,45,99,104,97,114,97,99,116,101,114,45]
noncomputable abbrev vE:LN:=[0,35,38,54,59,60]
noncomputable abbrev vF:LN:=[0,32,35,38,47,59,60,62,73,76,84,105,108,109,110,111,112,116,120]
noncomputable abbrev vG:LN:=[83,116,97,114,116,84,97,103]
noncomputable abbrev vH:LN:=[45,97,116,116,114,105,98,117,116,101,45,110,97,109,101]
noncomputable abbrev vI:LN:=[117,107,71,162,3,2]
noncomputable abbrev vJ:LN:=[60,47,116,105,116,108,101]
theorem ff{P:Prop}(h:false=true):P:=nomatch h
theorem nn{α:Type}{a:α}{P:Prop}(h:none=some a):P:=nomatch h
theorem bA{a b}{P:Prop}(h:(a&&b)=true)(k:a=true->b=true->P):P:=by
 cases a
 ·exact ff h
 ·exact k rfl h
theorem aE{x0 x1:Bool}{P:Prop}(h:(x0&&x1)=true)(k:x0=true->x1=true->P):P:=bA h fun y0 h1=>k y0 h1
theorem aB{x0 x1 x2:Bool}{P:Prop}(h:(x0&&(x1&&x2))=true)(k:x0=true->x1=true->x2=true->P):P:=bA h fun y0 h1=>bA h1 fun y1 h2=>k y0 y1 h2
theorem aA{x0 x1 x2 x3:Bool}{P:Prop}(h:(x0&&(x1&&(x2&&x3)))=true)(k:x0=true->x1=true->x2=true->x3=true->P):P:=bA h fun y0 h1=>bA h1 fun y1 h2=>bA h2 fun y2 h3=>k y0 y1 y2 h3
theorem aD{x0 x1 x2 x3 x4:Bool}{P:Prop}(h:(x0&&(x1&&(x2&&(x3&&x4))))=true)(k:x0=true->x1=true->x2=true->x3=true->x4=true->P):P:=bA h fun y0 h1=>bA h1 fun y1 h2=>bA h2 fun y2 h3=>bA h3 fun y3 h4=>k y0 y1 y2 y3 h4
theorem aC{x0 x1 x2 x3 x4 x5:Bool}{P:Prop}(h:(x0&&(x1&&(x2&&(x3&&(x4&&x5)))))=true)(k:x0=true->x1=true->x2=true->x3=true->x4=true->x5=true->P):P:=bA h fun y0 h1=>bA h1 fun y1 h2=>bA h2 fun y2 h3=>bA h3 fun y3 h4=>bA h4 fun y4 h5=>k y0 y1 y2 y3 y4 h5
theorem aF{x0 x1 x2 x3 x4 x5 x6 x7 x8:Bool}{P:Prop}(h:(x0&&(x1&&(x2&&(x3&&(x4&&(x5&&(x6&&(x7&&x8))))))))=true)(k:x0=true->x1=true->x2=true->x3=true->x4=true->x5=true->x6=true->x7=true->x8=true->P):P:=bA h fun y0 h1=>bA h1 fun y1 h2=>bA h2 fun y2 h3=>bA h3 fun y3 h4=>bA h4 fun y4 h5=>bA h5 fun y5 h6=>bA h6 fun y6 h7=>bA h7 fun y7 h8=>k y0 y1 y2 y3 y4 y5 y6 y7 h8
theorem aG{x0 x1 x2 x3 x4 x5 x6 x7 x8 x9:Bool}{P:Prop}(h:(x0&&(x1&&(x2&&(x3&&(x4&&(x5&&(x6&&(x7&&(x8&&x9)))))))))=true)(k:x0=true->x1=true->x2=true->x3=true->x4=true->x5=true->x6=true->x7=true->x8=true->x9=true->P):P:=bA h fun y0 h1=>bA h1 fun y1 h2=>bA h2 fun y2 h3=>bA h3 fun y3 h4=>bA h4 fun y4 h5=>bA h5 fun y5 h6=>bA h6 fun y6 h7=>bA h7 fun y7 h8=>bA h8 fun y8 h9=>k y0 y1 y2 y3 y4 y5 y6 y7 y8 h9
noncomputable def ctq{n m:Nat}(k:n=m->Bool):Bool:=dite (n=m) k fun J=>false
noncomputable def ctt{n m:Nat}(k:n=m->Bool):Bool:=dite (n=m) k fun J=>true
theorem Jd{n m:Nat}{k:n=m->Bool}{P:Prop}(h:ctq k=true)(f:n=m->P):P:=by
 by_cases q:n=m
 ·exact f q
 ·exact ff ((dif_neg q:ctq k=false).symm.trans h)
theorem bO{a b}{P:Prop}(h:(a||b)=true)(k1:a=true->P)(k2:b=true->P):P:=by
 cases a
 ·exact k2 h
 ·exact k1 rfl

set_option genCtorIdx true in
inductive Id where
 |p (n:Nat)
 |t (n:Nat)
 deriving DecidableEq

inductive Vv where
 |none
 |bool (b:Bool)
 |int (i:Int)
 |str (s:LN)
 |tup (l:List Vv)
 |list (l:List Vv)
 |dict (ks:List LN) (vs:List Vv)
 |obj (id:Id)
 |fn (f:Nat)
 |meth (f:Nat) (self:Vv)
 |rng (lo hi:Int)
def Vv.ctorIdx:Vv->Nat:=@Vv.rec (fun J=>Nat) (fun J=>Nat) 0 (fun J=>1) (fun J=>2) (fun J=>3) (fun J J=>4) (fun J J=>5) (fun J J J=>6) (fun J=>7) (fun J=>8) (fun J J J=>9) (fun J J=>10) 0 (fun J J J J=>0)

noncomputable def Vv.isNone:Vv->Bool|.none=>true|_=>false
noncomputable def Vv.isBool(b:Bool):Vv->Bool|.bool a=>b==a|_=>false
noncomputable def Vv.isInt(b:Int):Vv->Bool|.int a=>b==a|_=>false
noncomputable def Vv.isStr(b:LN):Vv->Bool|.str a=>b==a|_=>false
def Vv.isObj(b:Id):Vv->Bool|.obj a=>b==a|_=>false
noncomputable def Vv.isFn(b:Nat):Vv->Bool|.fn a=>b==a|_=>false
noncomputable def Vv.isTup(f:List Vv->Bool):Vv->Bool|.tup l=>f l|_=>false
noncomputable def Vv.isList(f:List Vv->Bool):Vv->Bool|.list l=>f l|_=>false
noncomputable def Vv.isDict(ks:List LN)(f:List Vv->Bool):Vv->Bool|.dict k l=>ks==k&&f l|_=>false
noncomputable def Vv.isMeth(f:Nat)(k:Vv->Bool):Vv->Bool|.meth g v=>f==g&&k v|_=>false
noncomputable def Vv.isRng(a b:Int):Vv->Bool|.rng c d=>a==c&&b==d|_=>false
mutual
noncomputable def Vv.beq:Vv->Vv->Bool
 |.none=>Vv.isNone
 |.bool b=>Vv.isBool b
 |.int i=>Vv.isInt i
 |.str s=>Vv.isStr s
 |.tup l=>Vv.isTup (fun x=>Vv.beqs l x)
 |.list l=>Vv.isList (fun x=>Vv.beqs l x)
 |.dict ks l=>Vv.isDict ks (fun x=>Vv.beqs l x)
 |.obj i=>Vv.isObj i
 |.fn f=>Vv.isFn f
 |.meth f v=>Vv.isMeth f (fun x=>Vv.beq v x)
 |.rng a b=>Vv.isRng a b
noncomputable def Vv.beqs:List Vv->List Vv->Bool
 |[]=>fun l=>l.isEmpty
 |a::r=>fun l=>match l with
  |[]=>false
  |b::r'=>Vv.beq a b&&Vv.beqs r r'
end
theorem bE{α:Type}[BEq α][LawfulBEq α]{a b:α}(h:(a==b)=true):a=b:=aV.mp h
theorem Vv.beq_refl(a):Vv.beq a a=true:=
 Vv.rec (motive_1:=fun a=>Vv.beq a a=true) (motive_2:=fun l=>Vv.beqs l l=true) rfl (fun J=>aS _) (fun J=>aS _) (fun J=>aS _) (fun J h=>h) (fun J h=>h) (fun J J h=>ag.mpr ⟨aS _,h⟩)
  (fun J=>aS _) (fun J=>aS _) (fun J J h=>ag.mpr ⟨aS _,h⟩) (fun J J=>ag.mpr ⟨aS _,aS _⟩) rfl (fun J J h1 h2=>ag.mpr ⟨h1,h2⟩) a
theorem Vv.beqs_refl:∀a:List Vv,Vv.beqs a a=true:=fun l0=>by
 induction l0 with
 |nil=>
  exact rfl
 |cons a r ih=>
  exact ag.mpr ⟨Vv.beq_refl a,ih⟩
theorem Vv.eq_of_beq{a b}:Vv.beq a b=true->a=b:=
 Vv.rec (motive_1:=fun a=>∀b,Vv.beq a b=true->a=b) (motive_2:=fun l=>∀l',Vv.beqs l l'=true->l=l')
  (fun b h=>by cases b<;>first|exact ff h|rfl) (fun J b h=>by cases b<;>first|exact ff h|exact aM Vv.bool (bE h)) (fun J b h=>by cases b<;>first|exact ff h|exact aM Vv.int (bE h)) (fun J b h=>by cases b<;>first|exact ff h|exact aM Vv.str (bE h))
  (fun J ih b h=>by cases b<;>first|exact ff h|exact aM Vv.tup (ih _ h)) (fun J ih b h=>by cases b<;>first|exact ff h|exact aM Vv.list (ih _ h))
  (fun J J ih b h=>by cases b<;>first|exact ff h|exact bA h fun h1 h2=>bE h1▸aM (Vv.dict _) (ih _ h2)) (fun J b h=>by cases b<;>first|exact ff h|exact aM Vv.obj (bE h)) (fun J b h=>by cases b<;>first|exact ff h|exact aM Vv.fn (bE h))
  (fun J J ih b h=>by cases b<;>first|exact ff h|exact bA h fun h1 h2=>bE h1▸aM (Vv.meth _) (ih _ h2)) (fun J J b h=>by cases b<;>first|exact ff h|exact bA h fun h1 h2=>bE h1▸bE h2▸rfl)
  (fun l h=>by cases l<;>first|rfl|exact ff h) (fun J J ih1 ih2 l h=>by cases l<;>first|exact ff h|exact bA h fun h1 h2=>ih1 _ h1▸aM (List.cons _) (ih2 _ h2)) a b
theorem Vv.eq_of_beqs:∀{a b:List Vv},Vv.beqs a b=true->a=b
 |[],[],_=>rfl
 |[],_::_,h=>ff h
 |_::_,[],h=>ff h
 |_::_,_::_,h=>bA h fun h1 h2=>Vv.eq_of_beq h1▸aM _ (Vv.eq_of_beqs h2)

inductive Ob where
 |list (l:List Vv)
 |dict (ks:List LN) (vs:List Vv)
 |inst (C:Nat) (fs:List (Nat×Vv))

structure St where
 loc:List (Nat×Vv):=[]
 hp:List (Id×Ob):=[]
 nx:Nat:=0
 ps:LN:=[]

noncomputable def JA{α β:Type}[DecidableEq α]:List (α×β)->α->Option β
 |[],_=>none
 |(a,b)::r,x=>if a=x then some b else JA r x
noncomputable def put{α β:Type}[DecidableEq α]:List (α×β)->α->β->List (α×β)
 |[],x,v=>[(x,v)]
 |(a,b)::r,x,v=>if a=x then (a,v)::r else (a,b)::put r x v

theorem UL{α β:Type}[DecidableEq α]{a x:α}{b:β}{r:List (α×β)}:JA ((a,b)::r) x=if a=x then some b else JA r x:=rfl
theorem OG{α β:Type}[DecidableEq α]{a x:α}{b v:β}{r:List (α×β)}:put ((a,b)::r) x v=if a=x then (a,v)::r else (a,b)::put r x v:=rfl
def St.setLoc(U:St)(n:Nat)(v:Vv):St:={ U with loc:=put U.loc n v }
def St.setOb(U:St)(id:Id)(o:Ob):St:={ U with hp:=put U.hp id o }

set_option genCtorIdx true in
inductive LV where
 |frz|tmp|per (k:Nat)
 deriving DecidableEq

noncomputable def Ob.frz:Ob->Option Vv
 |.list l=>some (.list l)
 |.dict ks vs=>some (.dict ks vs)
 |.inst _ _=>none

set_option genCtorIdx true in
inductive Cmp where
 |eq|ne|lt|le|gt|ge|inn|nin|is|isn
set_option genCtorIdx true in
inductive Bop where
 |add|sub|mul|fdiv|mod
noncomputable def Bop.isAdd(o:Bop):Bool:=match o with
 |.add=>true
 |_=>false
set_option genCtorIdx true in
inductive BI where
 |len|ord|chr|sum|range|max|int
set_option genCtorIdx true in
inductive SM where
 |find|rfind|count|replace|lower|join|startswith

inductive ME where
 |k (v:Vv)
 |loc (n:Nat)
 |glob (v:Vv)
 |attr (e:ME) (n C:Nat)
 |bm (e:ME) (n C f:Nat)
 |cat (e:ME) (n C:Nat) (i:Int)
 |call (f:Nat) (as:List ME)
 |mcall (e:ME) (n C f:Nat) (as:List ME)
 |fcall (e:ME) (n C:Nat) (as:List ME)
 |new (C f:Nat) (as:List ME) (lv:LV)
 |bi (b:BI) (as:List ME)
 |sm (m:SM) (e:ME) (as:List ME)
 |app (e x:ME)
 |pop (e:ME) (as:List ME)
 |cmp (o:Cmp) (l r:ME)
 |cmp2 (o1a o2a:Cmp) (l m r:ME)
 |bop (o:Bop) (l r:ME)
 |neg (e:ME)
 |not (e:ME)
 |and (a b:ME)
 |or (a b:ME)
 |ite (t b o:ME)
 |sub (e i:ME)
 |sl (e lo hi:ME)
 |lst (es:List ME) (lv:LV)
 |tup (es:List ME)
 |dct (ks:List LN) (es:List ME) (lv:LV)
 |comp (elt:ME) (x:Nat) (it:ME) (cond:ME)
 |isb (e:ME)
 |fat (e:ME) (n:Nat) (w:Vv)
 |fmc (e:ME) (n f:Nat) (as:List ME)
 |inf (l r:ME) (f:Nat)
 |ink (e:ME) (n:Nat) (ks:List Int)

inductive MS where
 |ex (e:ME)
 |asg (n:Nat) (e:ME)
 |asgA (t:ME) (n C:Nat) (e:ME)
 |asgS (t i e:ME)
 |asgT (ns:LN) (e:ME)
 |asgTA (t1a:ME) (n1a C1a:Nat) (t2a:ME) (n2a C2a:Nat) (e:ME)
 |augN (n:Nat) (o:Bop) (e:ME)
 |augA (t:ME) (n C:Nat) (o:Bop) (e:ME)
 |augS (t i:ME) (o:Bop) (e:ME)
 |iff (t:ME) (b o:List MS)
 |whl (t:ME) (b:List MS)
 |for (x:Nat) (it:ME) (b:List MS)
 |forT (xs:LN) (it:ME) (b:List MS)
 |ret (e:ME)
 |pass|brk|cont
 |asrt (e:ME)
 |dead
 |tryS (b:List MS)
 |isx (d:Nat)
 |tryK (n k f:Nat) (e:ME) (b:List MS)

inductive FL where
 |next|brk|cont
 |ret (v:Vv)

noncomputable def bn{α β:Type}(x:Option (α×St))(f:α->St->Option β):Option β:=match x with
 |some (a,U)=>f a U
 |none=>none
noncomputable def bo{α β:Type}(x:Option α)(f:α->Option β):Option β:=match x with
 |some a=>f a
 |none=>none
noncomputable def gd{β:Type}(b:Bool)(x:Option β):Option β:=match b with
 |true=>x
 |false=>none
noncomputable def no{α β:Type}(o:Option α)(x:Option β):Option β:=match o with
 |none=>x
 |some _=>none
section
variable{α β:Type}{r:β}{P:Prop}
theorem bnE{x:Option (α×St)}{f:α->St->Option β}(h:bn x f=some r)(k:∀a U,x=some (a,U)->f a U=some r->P):P:=by
 cases x with
 |none=>exact nn h
 |some p=>cases p;exact k _ _ rfl h
theorem boE{x:Option α}{f:α->Option β}(h:bo x f=some r)(k:∀a,x=some a->f a=some r->P):P:=by
 cases x with
 |none=>exact nn h
 |some p=>exact k p rfl h
theorem gdE{b x}(h:gd b x=some r)(k:b=true->x=some r->P):P:=by
 cases b with
 |false=>exact nn h
 |true=>exact k rfl h
theorem noE{o:Option α}{x}(h:no o x=some r)(k:o=none->x=some r->P):P:=by
 cases o with
 |none=>exact k rfl h
 |some _=>exact nn h
end
def onList{β:Type}(U:St)(v:Vv)(f:Id->List Vv->Option β):Option β:=match v with
 |.obj id=>bo (JA U.hp id) fun o=>match o with
  |.list l=>f id l
  |_=>none
 |_=>none
def onInst{β:Type}(U:St)(C:Nat)(v:Vv)(f:Id->List (Nat×Vv)->Option β):Option β:=match v with
 |.obj id=>bo (JA U.hp id) fun o=>match o with
  |.inst D fs=>gd (Nat.beq D C) (f id fs)
  |_=>none
 |_=>none
noncomputable def onMeth{β:Type}(v:Vv)(f:Nat->Vv->Option β):Option β:=match v with
 |.meth g s=>f g s
 |_=>none
noncomputable def onFn{β:Type}(v:Vv)(f:Vv->Option β):Option β:=match v with
 |.fn k=>f (.fn k)
 |_=>none
noncomputable def onStr{β:Type}(v:Vv)(f:LN->Option β):Option β:=match v with
 |.str s=>f s
 |_=>none
noncomputable def OI{β:Type}(v:Vv)(f:List Vv->Option β):Option β:=match v with
 |.tup l=>f l
 |_=>none
noncomputable def onInt{β:Type}(v:Vv)(f:Int->Option β):Option β:=match v with
 |.int i=>f i
 |_=>none
section
variable{β:Type}{r:β}{P:Vv->Prop}{v:Vv}{U:St}
@[elab_as_elim] theorem Xu{f}(h:onList U v f=some r)(k:∀id l,JA U.hp id=some (.list l)->f id l=some r->P (.obj id)):P v:=by
 cases v<;>first|exact nn h|skip
 exact boE h fun o h1 h2=>by
  cases o<;>first|exact nn h2|exact k _ _ h1 h2
@[elab_as_elim] theorem WU{C f}(h:onInst U C v f=some r)(k:∀id fs,JA U.hp id=some (.inst C fs)->f id fs=some r->P (.obj id)):P v:=by
 cases v<;>first|exact nn h|skip
 exact boE h fun o h1 h2=>by
  cases o<;>first|exact nn h2|exact gdE h2 fun h3 h4=>k _ _ (aa h3▸h1) h4
@[elab_as_elim] theorem LU{f}(h:onMeth v f=some r)(k:∀g s,f g s=some r->P (.meth g s)):P v:=by
 cases v<;>first|exact nn h|exact k _ _ h
@[elab_as_elim] theorem OJ{f}(h:onFn v f=some r)(k:∀i,f (.fn i)=some r->P (.fn i)):P v:=by
 cases v<;>first|exact nn h|exact k _ h
@[elab_as_elim] theorem Ql{f}(h:onStr v f=some r)(k:∀s,f s=some r->P (.str s)):P v:=by
 cases v<;>first|exact nn h|exact k _ h
@[elab_as_elim] theorem Ri{f}(h:OI v f=some r)(k:∀s,f s=some r->P (.tup s)):P v:=by
 cases v<;>first|exact nn h|exact k _ h
@[elab_as_elim] theorem QM{f}(h:onInt v f=some r)(k:∀s,f s=some r->P (.int s)):P v:=by
 cases v<;>first|exact nn h|exact k _ h
end
def St.alloc(U:St)(lv:LV)(o:Ob):Option (Vv×St):=match lv with
 |.frz=>bo o.frz fun v=>some (v,U)
 |.tmp=>some (.obj (.t U.nx),{ U with hp:=(.t U.nx,o)::U.hp,nx:=U.nx+1 })
 |.per k=>if k∈U.ps then none else some (.obj (.p k),{ U with hp:=(.p k,o)::U.hp,ps:=k::U.ps })

noncomputable def JC:Nat:=16777216
def bd{α:Type}(n:Nat)(o:Option α):Option α:=gd (Nat.ble n JC) o
def onListOf{β:Type}(U:St)(v:Vv)(f:List Vv->Option β):Option β:=match v with
 |.list l=>f l
 |.obj id=>onList U (.obj id) fun J l=>f l
 |_=>none
def Jm(U:St):Vv->Option Bool
 |.none=>some false
 |.bool b=>some b
 |.int i=>some (i != 0)
 |.str s=>bd s.length (some (!s.isEmpty))
 |.meth _ _=>some true
 |.list l=>bd l.length (some (!l.isEmpty))
 |.dict ks _=>bd ks.length (some (!ks.isEmpty))
 |.obj id=>onList U (.obj id) fun J l=>bd l.length (some (!l.isEmpty))
 |_=>none

noncomputable def Iq:Vv->Option LN|.str s=>some s|_=>none
noncomputable def Ws:Vv->Option Int|.int s=>some s|_=>none
noncomputable def Hq:Vv->Option (Option LN)|.str s=>some (some s)|.none=>some none|_=>none
noncomputable def WZ:List Vv->Option (List (Option LN))
 |[]=>some []
 |v::r=>bo (Hq v) fun y=>bo (WZ r) fun l=>some (y::l)
noncomputable def W6:List Vv->Option (List LN)
 |[]=>some []
 |v::r=>bo (Iq v) fun y=>bo (W6 r) fun l=>some (y::l)
noncomputable def Ud:List Vv->Option (List Int)
 |[]=>some []
 |v::r=>bo (Ws v) fun y=>bo (Ud r) fun l=>some (y::l)
def Wr(x:Vv)(l:List Vv):Option Bool:=match x with
 |.str x=>bo (WZ l) fun ys=>some (ys.any (·==some x))
 |.none=>bo (WZ l) fun ys=>some (ys.any Option.isNone)
 |.int x=>bo (Ud l) fun ys=>some (ys.any (·==x))
 |_=>none

noncomputable def Jg:LN->LN->Bool
 |[],_=>true
 |_::_,[]=>false
 |a::r,b::r'=>a==b&&Jg r r'
noncomputable def QI(y:LN):LN->Nat->Int
 |[],i=>if Jg y [] then (i:Int) else -1
 |a::r,i=>if Jg y (a::r) then (i:Int) else QI y r (i+1)

mutual
noncomputable def dep:Vv->Nat
 |.list l=>deps l+1
 |.dict _ l=>deps l+1
 |_=>0
noncomputable def deps:List Vv->Nat
 |[]=>0
 |v::l=>max (dep v) (deps l)
end
mutual
noncomputable def BB:Vv->Bool
 |.none=>true
 |.bool _=>true
 |.int _=>true
 |.str _=>true
 |.list l=>datVs l
 |.dict _ l=>datVs l
 |_=>false
noncomputable def datVs:List Vv->Bool
 |[]=>true
 |v::l=>BB v&&datVs l
end
def XU(v:Vv):Bool:=BB v&&Nat.ble (dep v) 50
noncomputable def eqN(b:Bool)(x:Option Bool):Option Bool:=match b with
 |false=>some false
 |true=>x
def N9(U:St)(a b:Vv):Option Bool:=onListOf U a fun l=>onListOf U b fun l'=>eqN (Nat.beq l.length l'.length) (gd (Vv.beqs l l'&&l.all XU) (some true))

noncomputable def W9:Vv->Option Bool|.none=>some true|.bool _=>some false|.int _=>some false|.str _=>some false|.obj _=>some false|.list _=>some false|.tup _=>some false|_=>none
noncomputable def WF:Vv->Option Bool|.bool b=>some b|_=>none
noncomputable def VO:Vv->Option Bool|.none=>some true|.str _=>some false|_=>none
def BA(a b:Vv):Option Bool:=match a with
 |.none=>VO b
 |.int a=>onInt b fun b=>some (a==b)
 |.str a=>(match b with
  |.none=>some false
  |.str b=>some (a==b)
  |_=>none)
 |_=>none
def Of:Vv->Option (Int×Int)
 |.tup l=>(match l with
  |[a,b]=>bo (Ws a) fun x=>bo (Ws b) fun y=>some (x,y)
  |_=>none)
 |_=>none
def eqV(U:St)(a b:Vv):Option Bool:=match a with
 |.bool a=>bo (WF b) fun b=>some (a==b)
 |.tup l=>bo (Of (.tup l)) fun p=>bo (Of b) fun q=>some (p.1==q.1&&p.2==q.2)
 |.list l=>N9 U (.list l) b
 |.obj i=>N9 U (.obj i) b
 |a=>BA a b

def O4(a b:Vv):Option Bool:=match b.isNone with
 |true=>W9 a
 |false=>gd a.isNone (W9 b)
def isV(a b:Vv):Option Bool:=match a with
 |.bool a=>(match b with
  |.none=>some false
  |.bool b=>some (a==b)
  |_=>none)
 |a=>O4 a b
noncomputable def Yi:Vv->Option Nat
 |.str s=>(match s with|[c]=>some c|_=>none)
 |_=>none
def Yh(f:Int->Int->Bool)(a b:Vv):Option Bool:=bo (Ws a) fun x=>bo (Ws b) fun y=>some (f x y)
def Qn(U:St)(x y:Vv):Option Bool:=match y with
 |.tup l=>Wr x l
 |.str y=>onStr x fun x=>some (QI x y 0 != -1)
 |.obj id=>onList U (.obj id) fun J l=>Wr x l
 |_=>none
def QQ(U:St)(o:Cmp)(a b:Vv):Option Bool:=match o with
 |.eq=>eqV U a b
 |.ne=>bo (BA a b) fun c=>some (!c)
 |.lt=>(match a with
  |.str x=>onStr b fun y=>some (decide (x<y))
  |a=>Yh (fun x y=>decide (x<y)) a b)
 |.le=>(match a with
  |.int _=>Yh (fun x y=>decide (x<=y)) a b
  |a=>bo (Yi a) fun x=>bo (Yi b) fun y=>some (decide (x<=y)))
 |.gt=>Yh (fun x y=>decide (x > y)) a b
 |.ge=>Yh (fun x y=>decide (x ≥ y)) a b
 |.inn=>Qn U a b
 |.nin=>(match b with
  |.tup l=>bo (Wr a l) fun c=>some (!c)
  |_=>none)
 |.is=>isV a b
 |.isn=>bo (isV a b) fun c=>some (!c)

def Xh(U:St)(o:Cmp)(a b:Vv):Option Bool:=match o with
 |.inn=>(match b with
  |.dict ks _=>onStr a fun x=>some (ks.any (·==x))
  |b=>QQ U .inn a b)
 |o=>QQ U o a b
def Jk(U:St)(o:Bop)(a b:Vv):Option Vv:=match o with
 |.add=>(match a with
  |.int a=>onInt b fun b=>some (.int (a+b))
  |.str a=>onStr b fun b=>bd (a.length+b.length) (some (.str (a++b)))
  |.tup a=>OI b fun b=>gd (!a.isEmpty&&!b.isEmpty) (bd (a.length+b.length) (some (.tup (a++b))))
  |a=>onListOf U a fun l=>onListOf U b fun l'=>bd (l.length+l'.length) (some (.list (l++l'))))
 |.sub=>onInt a fun a=>onInt b fun b=>some (.int (a-b))
 |.mod=>onInt a fun a=>onInt b fun b=>gd (decide (0<b)) (some (.int (a % b)))
 |.fdiv=>onInt a fun a=>onInt b fun b=>gd (decide (0<b)&&decide (b<=1000)) (some (.int (a / b)))
 |.mul=>onInt a fun a=>onInt b fun b=>gd (decide (b=10)||decide (b=16)) (some (.int (a*b)))

noncomputable def Q6(n:Nat)(i:Int):Option Nat:=seqIndex? i n
noncomputable def Q3:List LN->List Vv->LN->Option Vv
 |[],_,_=>none
 |_::_,[],_=>none
 |k::ks,v::vs,x=>if k=x then some v else Q3 ks vs x
def Um(l:List Vv)(i:Vv):Option Vv:=onInt i fun i=>bd l.length (bo (Q6 l.length i) fun j=>l[j]?)
def Qo(U:St)(a x:Vv):Option Vv:=match a with
 |.str s=>onInt x fun i=>bd s.length (bo (Q6 s.length i) fun j=>bo s[j]? fun c=>some (.str [c]))
 |.tup l=>Um l x
 |.list l=>Um l x
 |.dict ks vs=>onStr x fun x=>Q3 ks vs x
 |.obj id=>bo (JA U.hp id) fun o=>match o with
  |.list l=>Um l x
  |.dict ks vs=>onStr x fun x=>Q3 ks vs x
  |.inst _ _=>none
 |_=>none

noncomputable def clampIx(n:Nat)(i:Int):Nat:=(max 0 (min (if i<0 then i+n else i) (n:Int))).toNat
def Ut(n:Nat):Vv->Option Nat
 |.none=>some 0
 |.int i=>some (clampIx n i)
 |_=>none
def US(n:Nat):Vv->Option Nat
 |.none=>some n
 |.int i=>some (clampIx n i)
 |_=>none
noncomputable def cut{α:Type}(l:List α)(a b:Nat):List α:=(l.take b).drop a
def slV(U:St)(v a b:Vv):Option Vv:=match v with
 |.str s=>bd s.length (bo (Ut s.length a) fun i=>bo (US s.length b) fun j=>some (.str (cut s i j)))
 |v=>onListOf U v fun l=>bd l.length (bo (Ut l.length a) fun i=>bo (US l.length b) fun j=>some (.list (cut l i j)))

noncomputable def dg(b c:Nat):Bool:=Nat.beq c 54||(Nat.beq c 97&&Nat.beq b 16)
noncomputable def dgV(c:Nat):Nat:=bif Nat.beq c 54 then 6 else 10
def numV(b:Nat)(l:LN):Nat:=l.foldl (fun n c=>n*b+dgV c) 0
noncomputable def Oc(i:Int):Option Nat:=if i=10 then some 10 else if i=16 then some 16 else none
noncomputable def I6(l:List Int):Option Int:=l.find? fun m=>l.all fun a=>decide (a<=m)
noncomputable def WI(l:List Vv):Option Vv:=match l with|[a]=>some a|_=>none
def biV(U:St)(b:BI)(l:List Vv):Option Vv:=match b with
 |.len=>bo (WI l) fun v=>(match v with
  |.str s=>bd s.length (some (.int s.length))
  |v=>onListOf U v fun l=>bd l.length (some (.int l.length)))
 |.ord=>bo (WI l) fun v=>bo (Yi v) fun c=>some (.int c)
 |.chr=>bo (WI l) fun v=>onInt v fun i=>gd (decide (0<=i)&&decide (i<1114112)) (some (.str [i.toNat]))
 |.range=>(match l with
  |[b]=>onInt b fun b=>some (.rng 0 b)
  |[a,b]=>onInt a fun a=>onInt b fun b=>some (.rng a b)
  |_=>none)
 |.sum=>bo (WI l) fun v=>(match v with
  |.list l=>bo (Ud l) fun ys=>some (.int ys.sum)
  |_=>none)
 |.max=>bo (WI l) fun v=>(match v with
  |.list l=>bo (Ud l) fun ys=>bo (I6 ys) fun m=>some (.int m)
  |_=>none)
 |.int=>(match l with
  |[a,b]=>onStr a fun s=>onInt b fun i=>bo (Oc i) fun b=>gd ((!s.isEmpty&&Nat.ble s.length 640)&&s.all (dg b)) (some (.int (numV b s)))
  |_=>none)

noncomputable def QE(a b:LN):Nat->LN->LN
 |0,s=>s
 |_+1,[]=>[]
 |n+1,c::s=>if Jg a (c::s) then b++QE a b n ((c::s).drop a.length) else c::QE a b n s
noncomputable def lowC(c:Nat):Nat:=if 65<=c/\c<=90 then c+32 else c
noncomputable def QN(b:LN):List LN->LN
 |[]=>[]
 |[x]=>x
 |x::y::r=>x++b++QN b (y::r)
noncomputable def Ug(c:Nat)(l:LN):Nat:=(l.filter (·==c)).length
noncomputable def Qd(c:Nat):LN->Nat->Int->Int
 |[],_,r=>r
 |a::l,i,r=>Qd c l (i+1) (if a=c then i else r)
def XF(s:LN)(l:List Vv):Option (Nat×Int):=match l with
 |[a,b,d]=>bo (Yi a) fun c=>onInt b fun lo=>onInt d fun hi=>gd (decide (lo=0)&&(decide (0<=hi)&&decide (hi<=s.length))) (some (c,hi))
 |_=>none
def smV(U:St)(m:SM)(s:LN)(l:List Vv):Option Vv:=match m with
 |.find=>(match l with
  |[y]=>onStr y fun y=>some (.int (QI y s 0))
  |[y,i]=>onStr y fun y=>onInt i fun i=>gd (decide (0<=i)&&decide (i<=s.length)) (some (.int (QI y (s.drop i.toNat) i.toNat)))
  |_=>none)
 |.replace=>(match l with
  |[a,b]=>onStr a fun a=>onStr b fun b=>gd (!a.isEmpty&&(Nat.ble (s.length+(s.length+1)*b.length) 16777216&&!(a==b))) (some (.str (QE a b (s.length+1) s)))
  |_=>none)
 |.lower=>(match l with
  |[]=>gd (s.all (Nat.blt · 128)&&Nat.ble s.length 5592405) (some (.str (s.map lowC)))
  |_=>none)
 |.join=>bo (WI l) fun v=>onListOf U v fun l=>bo (W6 l) fun ys=>bd ((ys.map (·.length)).sum+ys.length*s.length) (some (.str (QN s ys)))
 |.startswith=>bo (WI l) fun y=>onStr y fun y=>some (.bool (Jg y s))
 |.count=>bo (XF s l) fun p=>some (.int (Ug p.1 (s.take p.2.toNat)))
 |.rfind=>bo (XF s l) fun p=>some (.int (Qd p.1 (s.take p.2.toNat) 0 (-1)))

noncomputable def Q2(a:Int):Bool:=decide (-16777216<=a)&&decide (a<=16777216)
def Uj:Vv->Option (List Vv)
 |.str s=>some (s.map fun c=>.str [c])
 |.tup l=>some l
 |.list l=>some l
 |.dict ks _=>some (ks.map .str)
 |.rng a b=>gd (Q2 a&&Q2 b) (some ((List.range (b-a).toNat).map fun (i:Nat)=>.int (a+i)))
 |_=>none

abbrev Ora:=Nat->List Vv->St->Option (Vv×St)

def KK(ks:List Int)(v:Vv):Option Bool:=bo (Ws v) fun i=>some (ks.any (·==i))
noncomputable def Du(o:Option Vv)(l:List Vv):List Vv:=match o with
 |some x=>x::l
 |none=>l
noncomputable def Jt(f:Vv->St->Option (Option Vv×St)):List Vv->St->Option (List Vv×St)
 |[],U=>some ([],U)
 |v::r,U=>bn (f v U) fun o U1a=>bn (Jt f r U1a) fun l U2a=>some (Du o l,U2a)
noncomputable def ZC:Vv->Bool|.none=>true|_=>false
def Jj(ce cc:St->Option (Vv×St))(x:Nat)(loc:List (Nat×Vv))(y:Vv)(τ:St):Option (Option Vv×St):=
 bn (cc { τ with loc:=(x,y)::loc }) fun w y1a=>bo (Jm y1a w) fun c=>match c with
  |false=>some (none,{ y1a with loc:=loc })
  |true=>bn (ce y1a) fun z y2a=>some (some z,{ y2a with loc:=loc })
def DW:List ME->Option Bool
 |[]=>some false
 |[.k (.int i)]=>gd (decide (i=0)) (some true)
 |_=>none
def KD(z:Bool)(l:List Vv):Option (Vv×List Vv):=match z with
 |false=>bd l.length (bo l.getLast? fun y=>some (y,l.dropLast))
 |true=>(match l with
  |[]=>none
  |y::l=>gd (Nat.blt l.length JC) (some (y,l)))
mutual
noncomputable def ev(C:Ora):ME->St->Option (Vv×St)
 |.k v=>fun U=>some (v,U)
 |.glob v=>fun U=>some (v,U)
 |.loc n=>fun U=>bo (JA U.loc n) fun v=>some (v,U)
 |.attr e n D=>fun U=>bn (ev C e U) fun v U1a=>onInst U1a D v fun J fs=>bo (JA fs n) fun w=>some (w,U1a)
 |.bm e n D f=>fun U=>bn (ev C e U) fun v U1a=>onInst U1a D v fun id fs=>no (JA fs n) (some (.meth f (.obj id),U1a))
 |.cat e n D i=>fun U=>bn (ev C e U) fun v U1a=>onInst U1a D v fun J fs=>no (JA fs n) (some (.int i,U1a))
 |.call f as=>fun U=>bn (evs C as U) fun vs U1a=>C f vs U1a
 |.mcall e n D f as=>fun U=>bn (ev C e U) fun v U1a=>onInst U1a D v fun id fs=>no (JA fs n) (bn (evs C as U1a) fun vs U2a=>C f (.obj id::vs) U2a)
 |.fcall e n D as=>fun U=>bn (ev C e U) fun v U1a=>onInst U1a D v fun J fs=>bo (JA fs n) fun w=>onMeth w fun f self=>bn (evs C as U1a) fun vs U2a=>C f (self::vs) U2a
 |.new D f as lv=>fun U=>bn (evs C as U) fun vs U1a=>bn (U1a.alloc lv (.inst D [])) fun v U2a=>bn (C f (v::vs) U2a) fun r fI=>gd (ZC r) (some (v,fI))
 |.bi b as=>fun U=>bn (evs C as U) fun vs U1a=>bo (biV U1a b vs) fun w=>some (w,U1a)
 |.sm m e as=>fun U=>bn (ev C e U) fun v U1a=>onStr v fun s=>bn (evs C as U1a) fun vs U2a=>bo (smV U2a m s vs) fun w=>some (w,U2a)
 |.app e x=>fun U=>bn (ev C e U) fun v U1a=>onList U1a v fun id J=>bn (ev C x U1a) fun y U2a=>onList U2a (.obj id) fun J l=>bd l.length (some (.none,U2a.setOb id (.list (l++[y]))))
 |.pop e as=>fun U=>bn (ev C e U) fun v U1a=>onList U1a v fun id l=>bo (DW as) fun z=>bo (KD z l) fun p=>some (p.1,U1a.setOb id (.list p.2))
 |.cmp o l r=>fun U=>bn (ev C l U) fun a U1a=>bn (ev C r U1a) fun b U2a=>bo (Xh U2a o a b) fun c=>some (.bool c,U2a)
 |.cmp2 o1a o2a l m r=>fun U=>bn (ev C l U) fun a U1a=>bn (ev C m U1a) fun b U2a=>bo (QQ U2a o1a a b) fun c=>match c with
  |false=>some (.bool false,U2a)
  |true=>bn (ev C r U2a) fun d fI=>bo (QQ fI o2a b d) fun c=>some (.bool c,fI)
 |.bop o l r=>fun U=>bn (ev C l U) fun a U1a=>bn (ev C r U1a) fun b U2a=>bo (Jk U2a o a b) fun w=>some (w,U2a)
 |.neg e=>fun U=>bn (ev C e U) fun v U1a=>onInt v fun i=>some (.int (-i),U1a)
 |.not e=>fun U=>bn (ev C e U) fun v U1a=>bo (Jm U1a v) fun b=>some (.bool (!b),U1a)
 |.and a b=>fun U=>bn (ev C a U) fun v U1a=>bo (Jm U1a v) fun c=>match c with
  |false=>some (v,U1a)
  |true=>ev C b U1a
 |.or a b=>fun U=>bn (ev C a U) fun v U1a=>bo (Jm U1a v) fun c=>match c with
  |true=>some (v,U1a)
  |false=>ev C b U1a
 |.ite t b o=>fun U=>bn (ev C t U) fun v U1a=>bo (Jm U1a v) fun c=>match c with
  |true=>ev C b U1a
  |false=>ev C o U1a
 |.sub e i=>fun U=>bn (ev C e U) fun v U1a=>bn (ev C i U1a) fun x U2a=>bo (Qo U2a v x) fun w=>some (w,U2a)
 |.sl e a b=>fun U=>bn (ev C e U) fun v U1a=>bn (ev C a U1a) fun x U2a=>bn (ev C b U2a) fun y fI=>bo (slV fI v x y) fun w=>some (w,fI)
 |.lst es lv=>fun U=>bn (evs C es U) fun vs U1a=>U1a.alloc lv (.list vs)
 |.tup es=>fun U=>bn (evs C es U) fun vs U1a=>some (.tup vs,U1a)
 |.dct ks es lv=>fun U=>bn (evs C es U) fun vs U1a=>gd (decide (ks.length=vs.length)&&decide ks.Nodup) (U1a.alloc lv (.dict ks vs))
 |.comp elt x it cond=>fun U=>bn (ev C it U) fun v U1a=>bo (Uj v) fun l=>bd l.length (bn (Jt (Jj (ev C elt) (ev C cond) x U1a.loc) l U1a) fun r U2a=>some (.list r,U2a))
 |.isb e=>fun U=>bn (ev C e U) fun v U1a=>bo (WF v) fun J=>some (.bool true,U1a)
 |.fat e _ w=>fun U=>bn (ev C e U) fun v U1a=>onFn v fun J=>some (w,U1a)
 |.fmc e _ f as=>fun U=>bn (ev C e U) fun v U1a=>onFn v fun v=>bn (evs C as U1a) fun vs U2a=>C f (v::vs) U2a
 |.inf l r f=>fun U=>bn (ev C l U) fun a U1a=>bn (ev C r U1a) fun b U2a=>onFn b fun b=>bn (C f [b,a] U2a) fun v fI=>bo (WF v) fun q=>some (.bool q,fI)
 |.ink e _ ks=>fun U=>bn (ev C e U) fun v U1a=>bo (KK ks v) fun q=>some (.bool q,U1a)
noncomputable def evs(C:Ora):List ME->St->Option (List Vv×St)
 |[]=>fun U=>some ([],U)
 |e::r=>fun U=>bn (ev C e U) fun v U1a=>bn (evs C r U1a) fun vs U2a=>some (v::vs,U2a)
end

def tst(C:Ora)(e:ME)(U:St):Option (Bool×St):=bn (ev C e U) fun v U1a=>bo (Jm U1a v) fun b=>some (b,U1a)

noncomputable def XY:List LN->List Vv->LN->Vv->List Vv
 |[],vs,_,_=>vs
 |_::_,[],_,_=>[]
 |k::ks,v::vs,x,y=>if k=x then y::vs else v::XY ks vs x y
def U2(U:St)(o i v:Vv):Option St:=match o with
 |.obj id=>bo (JA U.hp id) fun b=>match b with
  |.dict ks vs=>onStr i fun x=>bo (Q3 ks vs x) fun J=>gd (Nat.ble ks.length 1000) (some (U.setOb id (.dict ks (XY ks vs x v))))
  |.list l=>onInt i fun k=>bd l.length (bo (Q6 l.length k) fun j=>gd (Nat.blt j l.length) (some (U.setOb id (.list (l.set j v)))))
  |.inst _ _=>none
 |_=>none
def W7(U:St)(n C:Nat)(o v:Vv):Option St:=onInst U C o fun id fs=>gd (Nat.blt fs.length 400) (some (U.setOb id (.inst C (put fs n v))))
def Ye(U:St)(o:Bop)(a b:Vv):Option (Vv×St):=match a with
 |.int i=>bo (Jk U o (.int i) b) fun w=>some (w,U)
 |.str s=>bo (Jk U o (.str s) b) fun w=>some (w,U)
 |.obj id=>gd o.isAdd (onList U (.obj id) fun id l=>onListOf U b fun l'=>bd (l.length+l'.length) (some (.obj id,U.setOb id (.list (l++l')))))
 |_=>none
noncomputable def WX:Vv->Option (List Vv)
 |.tup l=>some l
 |.list l=>some l
 |_=>none
noncomputable def UI:LN->List Vv->St->Option St
 |[],[],U=>some U
 |[],_::_,_=>none
 |_::_,[],_=>none
 |n::ns,v::vs,U=>UI ns vs (U.setLoc n v)

noncomputable def J2:Nat:=1000000
noncomputable def ID(f:FL)(go:Option (FL×St))(U:St):Option (FL×St):=match f with
 |.next=>go
 |.cont=>go
 |.brk=>some (.next,U)
 |.ret v=>some (.ret v,U)
noncomputable def Jh(t:St->Option (Bool×St))(b:St->Option (FL×St)):Nat->St->Option (FL×St)
 |0,_=>none
 |n+1,U=>bn (t U) fun c U1a=>match c with
  |false=>some (.next,U1a)
  |true=>bn (b U1a) fun f U2a=>ID f (Jh t b n U2a) U2a
noncomputable def Qa(g:Vv->St->Option St)(b:St->Option (FL×St)):List Vv->St->Option (FL×St)
 |[],U=>some (.next,U)
 |v::r,U=>bo (g v U) fun U1a=>bn (b U1a) fun f U2a=>ID f (Qa g b r U2a) U2a
noncomputable def TK:Vv->Bool|.none=>true|.bool _=>true|.str _=>true|_=>false
noncomputable def Ya(f:FL)(go:Option (FL×St))(U:St):Option (FL×St):=match f with
 |.next=>go
 |f=>some (f,U)
noncomputable def OH:Vv->Option (Vv×Vv)
 |.tup l=>(match l with|[a,b]=>some (a,b)|_=>none)
 |_=>none
noncomputable def xI:Nat:=77777
def xM:Vv:=.obj (.p xI)
mutual
noncomputable def exc(C:Ora):MS->St->Option (FL×St)
 |.ex e=>fun U=>bn (ev C e U) fun v U1a=>gd (TK v) (some (.next,U1a))
 |.asg n e=>fun U=>bn (ev C e U) fun v U1a=>some (.next,U1a.setLoc n v)
 |.asgA t n D e=>fun U=>bn (ev C e U) fun v U1a=>bn (ev C t U1a) fun o U2a=>bo (W7 U2a n D o v) fun fI=>some (.next,fI)
 |.asgS t i e=>fun U=>bn (ev C e U) fun v U1a=>bn (ev C t U1a) fun o U2a=>bn (ev C i U2a) fun x fI=>bo (U2 fI o x v) fun U4a=>some (.next,U4a)
 |.asgT ns e=>fun U=>bn (ev C e U) fun v U1a=>bo (WX v) fun vs=>bo (UI ns vs U1a) fun U2a=>some (.next,U2a)
 |.asgTA t1a n1a D1a t2a n2a D2a e=>fun U=>bn (ev C e U) fun v U1a=>bo (OH v) fun p=>bn (ev C t1a U1a) fun o1a U2a=>bo (W7 U2a n1a D1a o1a p.1) fun fI=>bn (ev C t2a fI) fun o2a U4a=>bo (W7 U4a n2a D2a o2a p.2) fun U5a=>some (.next,U5a)
 |.augN n o e=>fun U=>bo (JA U.loc n) fun a=>bn (ev C e U) fun b U1a=>bn (Ye U1a o a b) fun c U2a=>some (.next,U2a.setLoc n c)
 |.augA t n D o e=>fun U=>bn (ev C t U) fun x U1a=>onInst U1a D x fun id fs=>bo (JA fs n) fun a=>bn (ev C e U1a) fun b U2a=>bn (Ye U2a o a b) fun c fI=>bo (W7 fI n D (.obj id) c) fun U4a=>some (.next,U4a)
 |.augS t i o e=>fun U=>bn (ev C t U) fun x U1a=>bn (ev C i U1a) fun j U2a=>bo (Qo U2a x j) fun a=>bn (ev C e U2a) fun b fI=>bn (Ye fI o a b) fun c U4a=>bo (U2 U4a x j c) fun U5a=>some (.next,U5a)
 |.iff t b o=>fun U=>bn (tst C t U) fun c U1a=>match c with
  |true=>exs C b U1a
  |false=>exs C o U1a
 |.whl t b=>fun U=>Jh (tst C t) (exs C b) J2 U
 |.for x it b=>fun U=>bn (ev C it U) fun v U1a=>bo (Uj v) fun l=>Qa (fun v U=>some (U.setLoc x v)) (exs C b) l U1a
 |.forT xs it b=>fun U=>bn (ev C it U) fun v U1a=>bo (Uj v) fun l=>Qa (fun v U=>bo (WX v) fun vs=>UI xs vs U) (exs C b) l U1a
 |.ret e=>fun U=>bn (ev C e U) fun v U1a=>some (.ret v,U1a)
 |.pass=>fun U=>some (.next,U)
 |.brk=>fun U=>some (.brk,U)
 |.cont=>fun U=>some (.cont,U)
 |.asrt e=>fun U=>bn (tst C e U) fun c U1a=>gd c (some (.next,U1a))
 |.dead=>fun J=>none
 |.tryS b=>fun U=>exs C b U
 |.isx d=>fun U=>bo (JA U.loc d) fun v=>gd (Vv.isObj (.p xI) v&&decide (xI∉U.ps)) (some (.next,U))
 |.tryK n _ f e b=>fun U=>bn (ev C e U) fun v U1a=>onStr v fun z=>match z.isEmpty with
  |true=>bn (C f [xM,.fn 0,.str z] U1a) fun w U2a=>gd (ZC w) (some (.next,U2a.setLoc n .none))
  |false=>exs C b U
noncomputable def exs(C:Ora):List MS->St->Option (FL×St)
 |[]=>fun U=>some (.next,U)
 |s::r=>fun U=>bn (exc C s U) fun f U1a=>Ya f (exs C r U1a) U1a
end

structure MFun where
 ps:LN
 ds:List Vv:=[]
 body:List MS
def MFun.args(m:MFun)(vs:List Vv):Option (List Vv):=
 let all:=vs++m.ds.drop (m.ds.length-(m.ps.length-vs.length))
 gd (Nat.ble vs.length m.ps.length&&Nat.beq all.length m.ps.length) (some all)
noncomputable def Qe:FL->Option Vv
 |.next=>some .none
 |.ret v=>some v
 |_=>none
def Qf(C:Ora)(m:MFun)(vs:List Vv)(U:St):Option (Vv×St):=
 bo (m.args vs) fun as=>bn (exs C m.body { U with loc:=m.ps.zip as }) fun f U1a=>bo (Qe f) fun v=>some (v,{ U1a with loc:=U.loc })
noncomputable def JF(T:Nat->Option MFun):Nat->Ora
 |0=>fun J J J=>none
 |n+1=>fun f vs U=>bo (T f) fun m=>Qf (JF T n) m vs U
end Mine.Tactic
end
noncomputable section
open PySem
namespace Mine.Tactic
theorem Runs.toks_le{M Γ p m fs s s' e}(h:Runs M Γ p m fs s e s'):s.toks<=s'.toks:=by
 induction h<;>first
  |exact qF _
  |assumption
  |exact qA (xC _) a_ih
  |exact qA a_ih a_ih_1
theorem Wakes.toks_le{M Γ p g r s s' res}(h:Wakes M Γ p g r s res s'):s.toks<=s'.toks:=by
 have k1:∀{Γ':Ctx} {p':Pos} {m:Sem Fin} {fs:List Frame},(∃e1a ek,Runs M Γ' p' m fs (s.setGen g .running) e1a ek/\e1a.quiet=true/\res=e1a.result/\s'=ek.setGen g e1a.genState)->s.toks<=s'.toks:=fun h=>by obtain⟨e,ek,hr,_,_,q⟩:=h;exact q▸(Runs.toks_le hr:_)
 have k2:∀{a:GenResult},res=a/\s'=s->s.toks<=s'.toks:=fun h=>h.2▸qF _
 delta Wakes at h;generalize s.gens[g]?=q at h;cases q with
 |none=>exact h.elim
 |some gs=>
  cases gs with
  |fresh c=>
   cases r with
   |send v=>cases v<;>first|exact k1 h|exact k2 h
   |throw x=>exact h.2▸qF _
  |suspended k0a _ c0a p0a fs _=>exact k1 h
  |running=>exact k2 h
  |finished=>exact k2 h
open Sem in
theorem Ff{α:Type}{M Γ}(n t){Q:α->Pos->Shared->Prop}{E:Value->Pos->Shared->Prop}{p s}
  (hn:n<=s.toks) (h:wp M Γ t Q E p s):wp M Γ t (fun a p' s'=>n<=s'.toks/\Q a p' s') E p s:=by
 induction t generalizing p s with
 |pure a=>simp only[wp] at h ⊢;exact⟨hn,h⟩
 |raise e=>simp only[wp] at h ⊢;exact h
 |unsupported _=>simp only[wp] at h
 |finish _=>simp only[wp] at h
 |rule _ k ih=>simp only[wp] at h ⊢;exact ih _ hn h
 |«at» _ k ih=>simp only[wp] at h ⊢;exact ih _ hn h
 |load _ _ k ih=>simp only[wp] at h ⊢;exact h.imp fun o z=>⟨z.1,ih _ hn z.2⟩
 |update _ _ f k ih=>simp only[wp] at h ⊢;exact⟨h.1,ih _ hn h.2⟩
 |loadIfAlive _ k ih=>simp only[wp] at h ⊢;exact ih _ hn h
 |point _ k ih=>simp only[wp] at h ⊢;exact ih _ hn h
 |register _ k ih=>simp only[wp] at h
 |alloc _ k ih=>simp only[wp] at h ⊢;exact ih _ hn h
 |fresh k ih=>simp only[wp] at h ⊢;exact ih _ (xO hn) h
 |ask k ih=>simp only[wp] at h ⊢;exact ih _ hn h
 |choose _ _ k ih=>simp only[wp] at h ⊢;exact⟨h.1,ih _ hn h.2⟩
 |os _ _ k ih=>simp only[wp] at h ⊢;exact ih _ hn h
 |call c hh g l k ih=>
  simp only[wp] at h ⊢;obtain⟨r,s',hr,z⟩:=h;exact⟨r,s',hr,ih _ (qA hn (Runs.toks_le hr)) z⟩
 |handled _ k ih=>simp only[wp] at h ⊢;exact ih _ hn h
 |genState _ k ih=>simp only[wp] at h ⊢;exact h.imp fun o z=>⟨z.1,ih _ hn z.2⟩
 |newGen _ k ih=>simp only[wp] at h ⊢;exact ih _ hn h
 |resume g r l k ih=>
  simp only[wp] at h ⊢;obtain⟨res,s',hr,z⟩:=h;exact⟨res,s',hr,ih _ (qA hn (Wakes.toks_le hr)) z⟩
 |yield _ _ _ k ih=>simp only[wp] at h
 |stack k ih=>simp only[wp] at h ⊢;exact ih _ hn h
 |fork _ k ih=>simp only[wp] at h
 |thread k ih=>simp only[wp] at h ⊢;exact ih _ hn h
 |await _ _ _ _ k ih=>simp only[wp] at h
theorem Qj{α:Type}{M A t}{Q:α->Shared->Prop}{E:Value->Shared->Prop}{s}(hp:0<s.toks)
  (h:wpAny M A t (fun a s'=>0<s'.toks->Q a s') E s):wpAny M A t Q E s:=fun Γ p hΓ=>
 Sem.wp_mono M Γ t (fun J J J z=>z.2 z.1) (fun J J J z=>z) p s (Ff (M:=M) (Γ:=Γ) 1 t hp (h Γ p hΓ))
open PySem.Calls PyProof.Rows PySem.W

structure Nv extends Env where
 fs:List Env
instance:Coe Nv Env:=⟨Nv.toEnv⟩
noncomputable def toS(l:LN):Str:=⟨l.toArray⟩
theorem U0{a b}(h:toS a=toS b):a=b:=by
 injection h with h;simpa using aM Array.toList h
theorem Jo(l):(toS l).length=l.length:=by simp [toS,Str.length]

noncomputable def IY(K:Frag)(C:Addr):Bool:=
 plainOver K C&&(clsIn K C).any (·.hasDict)&&findIn K (.ref C) "__getattribute__"==some (some (.builtin "object.__getattribute__"))
 &&findIn K (.ref C) "__setattr__"==some (some (.builtin "object.__setattr__"))&&findIn K (.ref C) "__getattr__"==some none

structure Cx where
 prog:Program
 w:World
 K:Frag
 fA:Nat->Addr
 cA:Nat->Addr
 nm:Nat->Str
 nC:Nat
 G:List (Nat×Vv×Value)
 iA:Addr
 iD:Nat
 I:List (Nat×Vv)

noncomputable abbrev Cx.M(c:Cx):Model:=model c.prog c.w

mutual
inductive VR(c:Cx)(F:Addr->Obj->Prop)(ρ:Id->Option Addr):Vv->Value->Prop
 |none:VR c F ρ .none .none
 |bool (b:Bool):VR c F ρ (.bool b) (.bool b)
 |int (i:Int) (t:Tok):VR c F ρ (.int i) (.int i t)
 |str (s:LN) (t:Tok):VR c F ρ (.str s) (.str (toS s) t)
 |tup {l:List Vv} {a:Addr} {o:Obj} {items:Array Value} {n:Nat}:F a o->o.cls=.type "tuple"->o.data=.seq items n->VRs c F ρ l items.toList->VR c F ρ (.tup l) (.ref a)
 |list {l:List Vv} {a:Addr} {items:Array Value} {n:Nat}:F a { cls:=.type "list",dict:=none,data:=.seq items n,slots:=#[] }->VRs c F ρ l items.toList->VR c F ρ (.list l) (.ref a)
 |dict {ks:List LN} {vs:List Vv} {a:Addr} {o:Obj} {kvs:List (Str×Value)}:F a o->o.IsDictOf (strKind c.prog c.w) kvs->kvs.map (·.1)=ks.map toS->VRs c F ρ vs (kvs.map (·.2))->(a==sysModules)=false->VR c F ρ (.dict ks vs) (.ref a)
 |obj {id:Id} {a:Addr}:ρ id=some a->VR c F ρ (.obj id) (.ref a)
 |fn (f:Nat):VR c F ρ (.fn f) (.ref c.iA)
 |rng {lo hi:Int} {a:Addr} {t u v:Tok}:F a { cls:=.type "range",dict:=none,data:=.fields #[.int lo t,.int hi u,.int 1 v],slots:=#[] }->VR c F ρ (.rng lo hi) (.ref a)
 |meth {f:Nat} {self:Vv} {a:Addr} {x:Value}:F a (methodObj (.ref (c.fA f)) x)->VR c F ρ self x->VR c F ρ (.meth f self) (.ref a)
inductive VRs(c:Cx)(F:Addr->Obj->Prop)(ρ:Id->Option Addr):List Vv->List Value->Prop
 |nil:VRs c F ρ [] []
 |cons {v:Vv} {l:List Vv} {x:Value} {xs:List Value}:VR c F ρ v x->VRs c F ρ l xs->VRs c F ρ (v::l) (x::xs)
end

section
variable{c:Cx}{F F':Addr->Obj->Prop}{ρ fT:Id->Option Addr}
theorem VR.mono(hF:∀a o,F a o->F' a o)(hρ:∀i a,ρ i=some a->fT i=some a){v x}(h:VR c F ρ v x):VR c F' fT v x:=
 VR.rec (motive_1:=fun v x J=>VR c F' fT v x) (motive_2:=fun l xs J=>VRs c F' fT l xs) .none .bool .int .str (fun a b d J e=>.tup (hF _ _ a) b d e) (fun a J e=>.list (hF _ _ a) e) (fun a b d J f e=>.dict (hF _ _ a) b d e f) (fun a=>.obj (hρ _ _ a)) .fn (fun a=>.rng (hF _ _ a))
  (fun a J b=>.meth (hF _ _ a) b) .nil (fun J J a b=>.cons a b) h
theorem VRs.mono(hF:∀a o,F a o->F' a o)(hρ:∀i a,ρ i=some a->fT i=some a){l xs}(h:VRs c F ρ l xs):VRs c F' fT l xs:=
 VRs.rec (motive_1:=fun v x J=>VR c F' fT v x) (motive_2:=fun l xs J=>VRs c F' fT l xs) .none .bool .int .str (fun a b d J e=>.tup (hF _ _ a) b d e) (fun a J e=>.list (hF _ _ a) e) (fun a b d J f e=>.dict (hF _ _ a) b d e f) (fun a=>.obj (hρ _ _ a)) .fn (fun a=>.rng (hF _ _ a))
  (fun a J b=>.meth (hF _ _ a) b) .nil (fun J J a b=>.cons a b) h
section
variable{P:Value->Prop}{x:Value}
@[elab_as_elim] theorem VR.noneE(h:VR c F ρ .none x)(k:P .none):P x:=by cases h;exact k
@[elab_as_elim] theorem VR.boolE{b}(h:VR c F ρ (.bool b) x)(k:P (.bool b)):P x:=by cases h;exact k
@[elab_as_elim] theorem VR.intE{i}(h:VR c F ρ (.int i) x)(k:∀t,P (.int i t)):P x:=by cases h;exact k _
@[elab_as_elim] theorem VR.strE{s}(h:VR c F ρ (.str s) x)(k:∀t,P (.str (toS s) t)):P x:=by cases h;exact k _
@[elab_as_elim] theorem VR.objE{i}(h:VR c F ρ (.obj i) x)(k:∀a,ρ i=some a->P (.ref a)):P x:=by cases h with|obj e=>exact k _ e
@[elab_as_elim] theorem VR.tupE{l}(h:VR c F ρ (.tup l) x)(k:∀a o items n,F a o->o.cls=.type "tuple"->o.data=.seq items n->VRs c F ρ l items.toList->P (.ref a)):P x:=by cases h with|tup a b d e=>exact k _ _ _ _ a b d e
@[elab_as_elim] theorem VR.listE{l}(h:VR c F ρ (.list l) x)(k:∀a items n,F a { cls:=.type "list",dict:=Option.none,data:=.seq items n,slots:=#[] }->VRs c F ρ l items.toList->P (.ref a)):P x:=by cases h with|list a b=>exact k _ _ _ a b
@[elab_as_elim] theorem VR.dictE{ks vs}(h:VR c F ρ (.dict ks vs) x)(k:∀a o kvs,F a o->o.IsDictOf (strKind c.prog c.w) kvs->kvs.map (·.1)=ks.map toS->VRs c F ρ vs (kvs.map (·.2))->(a==sysModules)=false->P (.ref a)):P x:=by
 cases h with|dict a b d e f=>exact k _ _ _ a b d e f
@[elab_as_elim] theorem VR.methE{f v}(h:VR c F ρ (.meth f v) x)(k:∀a y,F a (methodObj (.ref (c.fA f)) y)->VR c F ρ v y->P (.ref a)):P x:=by cases h with|meth a b=>exact k _ _ a b
@[elab_as_elim] theorem VR.fnE{f}(h:VR c F ρ (.fn f) x)(k:P (.ref c.iA)):P x:=by cases h;exact k
@[elab_as_elim] theorem VR.rngE{lo hi}(h:VR c F ρ (.rng lo hi) x)(k:∀a t u v,F a { cls:=.type "range",dict:=Option.none,data:=.fields #[.int lo t,.int hi u,.int 1 v],slots:=#[] }->P (.ref a)):P x:=by cases h with|rng a=>exact k _ _ _ _ a
end
section
variable{P:List Value->Prop}{xs:List Value}
@[elab_as_elim] theorem VRs.nilE(h:VRs c F ρ [] xs)(k:P []):P xs:=by cases h;exact k
@[elab_as_elim] theorem VRs.consE{v l}(h:VRs c F ρ (v::l) xs)(k:∀y ys,VR c F ρ v y->VRs c F ρ l ys->P (y::ys)):P xs:=by cases h with|cons a b=>exact k _ _ a b
@[elab_as_elim] theorem VRs.oneE{v}(h:VRs c F ρ [v] xs)(k:∀y,VR c F ρ v y->P [y]):P xs:=h.consE fun y J a b=>b.nilE (k y a)
@[elab_as_elim] theorem VRs.twoE{v w}(h:VRs c F ρ [v,w] xs)(k:∀y z,VR c F ρ v y->VR c F ρ w z->P [y,z]):P xs:=h.consE fun y J a b=>b.oneE fun z b=>k y z a b
end
end

section
variable{c:Cx}{F:Addr->Obj->Prop}{ρ:Id->Option Addr}
theorem VRs.length:∀{l:List Vv} {xs:List Value},VRs c F ρ l xs->l.length=xs.length:=by
 intro l;induction l with
 |nil=>exact fun h=>h.nilE rfl
 |cons _ _ ih=>exact fun h=>h.consE fun J J J b=>aM (·+1) (ih b)
theorem VRs.get:∀{l:List Vv} {xs:List Value},VRs c F ρ l xs->∀{i:Nat} {v:Vv},l[i]?=some v->∃x,xs[i]?=some x/\VR c F ρ v x:=by
 intro l;induction l with
 |nil=>exact fun J J J e=>nn e
 |cons _ _ ih=>
  intro xs h i v e;cases i with
  |zero=>
   exact h.consE fun y J a J=>⟨y,rfl,aY e▸a⟩
  |succ i=>
   exact h.consE (P:=fun xs=>∃x,xs[i+1]?=some x/\VR c F ρ _ x) fun J J J b=>ih b e
theorem VRs.append{l' xs'}:∀{l:List Vv} {xs:List Value},VRs c F ρ l xs->VRs c F ρ l' xs'->VRs c F ρ (l++l') (xs++xs'):=by
 intro l;induction l with
 |nil=>exact fun h h'=>h.nilE h'
 |cons _ _ ih=>
  intro xs h h';exact h.consE (P:=fun xs=>VRs c F ρ _ (xs++xs')) fun J J a b=>.cons a (ih b h')
theorem VRs.take:∀{l:List Vv} {xs:List Value},VRs c F ρ l xs->∀n,VRs c F ρ (l.take n) (xs.take n):=by
 intro l;induction l with
 |nil=>
  intro xs h n;exact h.nilE (P:=fun xs=>VRs c F ρ _ (xs.take n)) (by cases n<;>exact .nil)
 |cons _ _ ih=>
  intro xs h n;cases n with
  |zero=>exact .nil
  |succ n=>
   exact h.consE (P:=fun xs=>VRs c F ρ _ (xs.take (n+1))) fun J J a b=>.cons a (ih b n)
theorem VRs.drop:∀{l:List Vv} {xs:List Value},VRs c F ρ l xs->∀n,VRs c F ρ (l.drop n) (xs.drop n):=by
 intro l;induction l with
 |nil=>
  intro xs h n;cases n with
  |zero=>exact h
  |succ n=>
   exact h.nilE (P:=fun xs=>VRs c F ρ _ (xs.drop (n+1))) .nil
 |cons _ _ ih=>
  intro xs h n;cases n with
  |zero=>exact h
  |succ n=>
   exact h.consE (P:=fun xs=>VRs c F ρ _ (xs.drop (n+1))) fun J J a b=>ih b n
end

inductive FsR(c:Cx)(F:Addr->Obj->Prop)(ρ:Id->Option Addr):List (Nat×Vv)->List DictEntry->Prop
 |nil:FsR c F ρ [] []
 |cons {n:Nat} {v:Vv} {fs:List (Nat×Vv)} {e:DictEntry} {es:List DictEntry} {t:Tok}:e.key=.str (c.nm n) t->VR c F ρ v e.val->FsR c F ρ fs es->FsR c F ρ ((n,v)::fs) (e::es)

noncomputable def YX:List (Str×Value):=[(Str.ofString "len",.builtin "len"),(Str.ofString "ord",.builtin "ord"),(Str.ofString "chr",.builtin "chr"),(Str.ofString "range",.type "range"),(Str.ofString "sum",.builtin "sum"),(Str.ofString "max",.builtin "max"),(Str.ofString "isinstance",.builtin "isinstance"),(Str.ofString "bool",.type "bool"),(Str.ofString "int",.type "int"),(Str.ofString "KeyError",.type "KeyError")]
structure Cx.Ok(c:Cx):Prop where
 bi:∀p∈YX,nsIn c.K builtinsNs p.1=some (some p.2)
 inj:∀i j,c.nm i=c.nm j->i=j
 noDbg:∀i,(c.nm i==("__debug__":Str))=false
 no0:∀i,c.nm i≠(".0":Str)
 fn:∀f,fnIn c.K (c.fA f)=true
 cls:∀C,C<c.nC->IY c.K (c.cA C)=true
 lim:c.K.lookup cStatics=some ⟨.none,none,.dict #[] 0,#[]⟩
 big:∃o,c.K.lookup 3=some o
 gl:∀n v x,(n,v,x)∈c.G->nsIn c.K 3 (c.nm n)=some (some x)
 gv:∀n v x,(n,v,x)∈c.G->∀(F:Addr->Obj->Prop) (ρ:Id->Option Addr),(∀a o,c.K.lookup a=some o->F a o)->VR c F ρ v x
 ins:c.I≠[]->c.iD<c.nC/\∃o es n,c.K.lookup c.iA=some (instObj (c.cA c.iD) o)/\c.K.lookup o=some (dictOf es n)/\∀(F:Addr->Obj->Prop) (ρ:Id->Option Addr),(∀a o,c.K.lookup a=some o->F a o)->FsR c F ρ c.I es

theorem nsO{h:Heap}{a m}(n:h.Ns a m):∃p,h.get? a=some p:=by
 obtain⟨p,_,_,z,_⟩:=n;exact⟨p,z⟩
structure Gh where
 W:Addr->Prop
 X:Addr->Prop
 cs:Id->Option (Addr×Addr)
noncomputable def Gh.rho(g:Gh)(i:Id):Option Addr:=(g.cs i).map (·.1)

def Fs(env:Nv)(a:Addr):Prop:=a∈env.fs.filterMap (·.frame)
def FA(env:Nv)(a:Addr):Prop:=a=env.locals\/Fs env a
theorem FA.own{env}:FA env env.locals:=.inl rfl
def Sl(a:Addr)(h h':Heap):Prop:=∀o,h.get? a=some o->∃sl,h'.get? a=some { o with slots:=sl }
theorem Sl.of{a h h'}(k:∀o,h.get? a=some o->h'.get? a=some o):Sl a h h':=fun o e=>⟨o.slots,k o e⟩
theorem Sl.trans{a h h1a h'}(x:Sl a h h1a)(y:Sl a h1a h'):Sl a h h':=fun o e=>(x o e).elim fun J e=>(y _ e).imp fun J e=>e
def Frd(a:Addr)(h:Heap):Prop:=∃o,h.get? a=some o/\∀vs,o.data≠.fields vs
theorem Frd.sl{a h h'}(x:Frd a h)(k:Sl a h h'):Frd a h':=x.elim fun o z=>(k o z.1).elim fun J e=>⟨_,e,z.2⟩
theorem Frd.ex{a h}(x:Frd a h):∃o,h.get? a=some o:=x.imp fun J z=>z.1
theorem _root_.PySem.Heap.Ns.frd{h a m}(n:h.Ns a m):Frd a h:=n.elim fun o z0=>z0.elim fun es z0=>z0.elim fun ep z=>⟨o,z.1,fun J q=>by rw[z.2.1] at q;cases q⟩
def Fz(env:Nv)(g:Gh)(h:Heap)(a:Addr)(o:Obj):Prop:=h.get? a=some o/\¬g.W a/\¬g.X a/\¬FA env a

def ObR(c:Cx)(env:Nv)(g:Gh)(h:Heap):Ob->Addr->Addr->Prop
 |.list l,r,o=>r=o/\∃items n,IsL h r items n/\VRs c (Fz env g h) g.rho l items.toList
 |.dict ks vs,r,o=>r=o/\(r==sysModules)=false/\∃kvs,h.DictOf (strKind c.prog c.w) r kvs/\kvs.map (·.1)=ks.map toS/\VRs c (Fz env g h) g.rho vs (kvs.map (·.2))
 |.inst C fs,r,o=>C<c.nC/\fs.length<=500/\Fz env g h r (instObj (c.cA C) o)/\∃es n,h.get? o=some (dictOf es n)/\FsR c (Fz env g h) g.rho fs es

def Q9(c:Cx)(env:Nv)(F:Addr->Obj->Prop)(ρ:Id->Option Addr)(loc:List (Nat×Vv))(m:Str->Option Value):Prop:=∀n v,JA loc n=some v ->
      (env.kindOf (c.nm n)=some .local->∃x,m (c.nm n)=some x/\VR c F ρ v x) /\
      (env.kindOf (c.nm n)=some .cell->∃ca o x,env.cells.lookup (c.nm n)=some ca/\F ca o/\o.data=.cell (some x)/\VR c F ρ v x)
structure Rel0(c:Cx)(env:Nv)(g:Gh)(U:St)(h:Heap):Prop where
 kin:∀a o,c.K.lookup a=some o->Fz env g h a o
 wob:∀a,g.W a->∃o,h.get? a=some o
 xob:∀a,g.X a->∃o,h.get? a=some o
 frd:∀a,Fs env a->Frd a h
 dis:∀a,g.W a->¬g.X a/\¬FA env a
 loc:∃m,h.Ns env.locals m/\Q9 c env (Fz env g h) g.rho U.loc m
 obs:∀id ob,JA U.hp id=some ob->∃r o,g.cs id=some (r,o)/\ObR c env g h ob r o
 cW:∀id r o,g.cs id=some (r,o)->g.W o
 inj:∀id id' r o r',g.cs id=some (r,o)->g.cs id'=some (r',o)->id=id'
 nx:∀k,U.nx<=k->g.cs (.t k)=none
 ps:∀k,k∉U.ps->g.cs (.p k)=none

theorem Rel0.fob{c env g U h}(R:Rel0 c env g U h)(a)(q:FA env a):∃o,h.get? a=some o:=
 q.elim (fun q=>q▸R.loc.elim fun m z=>nsO z.1) fun q=>(R.frd a q).ex
structure Rel(c:Cx)(env:Nv)(g:Gh)(U:St)(s:Shared):Prop extends Rel0 c env g U s.heap where
 pos:0<s.toks

noncomputable abbrev gos(s:Shared):Array GenState×OsState:=(s.gens,s.os)
structure Ext(env:Nv)(g g':Gh)(s s':Shared):Prop where
 fz:∀a o,s.heap.get? a=some o->¬g.W a->¬FA env a->s'.heap.get? a=some o/\¬g'.W a
 up:∀a,Fs env a->a≠env.locals->Sl a s.heap s'.heap
 cs:∀id p,g.cs id=some p->g'.cs id=some p
 X:g'.X=g.X
 gens:gos s'=gos s

theorem Ext.refl{env g s}:Ext env g g s s:=⟨fun J J h hw J=>⟨h,hw⟩,fun J J J=>.of fun J h=>h,fun J J h=>h,rfl,rfl⟩
theorem Ext.trans{env g eu fB s ek em}(x:Ext env g eu s ek)(y:Ext env eu fB ek em):Ext env g fB s em:=
 ⟨fun a o h hw hf=>(x.fz a o h hw hf).elim fun h1a hw1=>y.fz a o h1a hw1 hf,fun a q n=>(x.up a q n).trans (y.up a q n),fun id p h=>y.cs id p (x.cs id p h),y.X.trans x.X,y.gens.trans x.gens⟩
theorem Ext.Fz{env g g' s s'}(x:Ext env g g' s s'){a o}(h:Fz env g s.heap a o):Fz env g' s'.heap a o:=
 ⟨(x.fz a o h.1 h.2.1 h.2.2.2).1,(x.fz a o h.1 h.2.1 h.2.2.2).2,x.X▸h.2.2.1,h.2.2.2⟩
theorem Ext.rho{env g g' s s'}(x:Ext env g g' s s'){i a}(h:g.rho i=some a):g'.rho i=some a:=by
 unfold Gh.rho at *;cases q:g.cs i with
 |none=>rw[q] at h;cases h
 |some p=>rw[q] at h;rw[x.cs i p q];exact h
theorem VR.ext{c env g g' s s'}(x:Ext env g g' s s'){v y}(h:VR c (Tactic.Fz env g s.heap) g.rho v y):VR c (Tactic.Fz env g' s'.heap) g'.rho v y:=
 h.mono (fun J J=>x.Fz) (fun J J=>x.rho)
theorem VRs.ext{c env g g' s s'}(x:Ext env g g' s s'){v y}(h:VRs c (Tactic.Fz env g s.heap) g.rho v y):VRs c (Tactic.Fz env g' s'.heap) g'.rho v y:=
 h.mono (fun J J=>x.Fz) (fun J J=>x.rho)
theorem FsR.mono{c}{F F':Addr->Obj->Prop}{ρ fT}(hF:∀a o,F a o->F' a o)(hρ:∀i a,ρ i=some a->fT i=some a){fs es}(h:FsR c F ρ fs es):FsR c F' fT fs es:=
 FsR.rec (motive:=fun fs es J=>FsR c F' fT fs es) .nil (fun a b J ih=>.cons a (b.mono hF hρ) ih) h
theorem Q9.mono{c env}{F F':Addr->Obj->Prop}{ρ fT}(hF:∀a o,F a o->F' a o)(hρ:∀i a,ρ i=some a->fT i=some a){l m}(h:Q9 c env F ρ l m):Q9 c env F' fT l m:=fun n v e=>
 ⟨fun q=>((h n v e).1 q).imp fun J z=>⟨z.1,z.2.mono hF hρ⟩,fun q=>((h n v e).2 q).imp fun J=>a5 fun J=>a5 fun J z=>⟨z.1,hF _ _ z.2.1,z.2.2.1,z.2.2.2.mono hF hρ⟩⟩
theorem ObR.mono{c env fC g g' h h' ob r o}(kF:∀a o,Fz env g h a o->Fz fC g' h' a o)(kr:∀i a,g.rho i=some a->g'.rho i=some a)(kc:∀p,h.get? o=some p->h'.get? o=some p)(H:ObR c env g h ob r o):ObR c fC g' h' ob r o:=by
 cases ob with
 |list l=>exact⟨H.1,H.2.imp fun J=>a5 fun J z=>⟨kc _ (H.1▸z.1)|> fun q=>H.1▸q,z.2.mono kF kr⟩⟩
 |dict ks vs=>exact⟨H.1,H.2.1,H.2.2.imp fun J z=>⟨z.1.at fun J e=>H.1▸kc _ (H.1▸e),z.2.1,z.2.2.mono kF kr⟩⟩
 |inst C fs=>exact⟨H.1,H.2.1,kF _ _ H.2.2.1,H.2.2.2.imp fun J=>a5 fun J z=>⟨kc _ z.1,z.2.mono kF kr⟩⟩

theorem Rel0.grow{c env g U h h'}(R:Rel0 c env g U h)(k:∀b o,h.get? b=some o->h'.get? b=some o):Rel0 c env g U h':=
 have kF:∀a o,Fz env g h a o->Fz env g h' a o:=fun a o z=>⟨k _ _ z.1,z.2⟩
 ⟨fun a o e=>kF _ _ (R.kin a o e),fun a e=>(R.wob a e).imp fun o z=>k _ _ z,fun a e=>(R.xob a e).imp fun o z=>k _ _ z,fun a e=>(R.frd a e).sl (.of fun o=>k _ o),R.dis,R.loc.imp fun J z=>⟨z.1.keeps k,z.2.mono kF fun J J z=>z⟩,
  fun id ob e=>(R.obs id ob e).imp fun J=>a5 fun J z=>⟨z.1,z.2.mono kF (fun J J z=>z) fun J=>k _ _⟩,R.cW,R.inj,R.nx,R.ps⟩
theorem Ext.grow{env g s s'}(k:∀b o,s.heap.get? b=some o->s'.heap.get? b=some o)(hg:gos s'=gos s):Ext env g g s s':=
 ⟨fun a o h hw J=>⟨k _ _ h,hw⟩,fun a J J=>.of fun o=>k a o,fun J J h=>h,rfl,hg⟩
theorem Rel0.sub{c env g U U' h}(R:Rel0 c env g U h)(hl:∀n v,JA U'.loc n=some v->JA U.loc n=some v)(ho:∀i o,JA U'.hp i=some o->JA U.hp i=some o)
  (hn:U.nx<=U'.nx) (hp:∀k,k∈U.ps->k∈U'.ps):Rel0 c env g U' h:=
 ⟨R.kin,R.wob,R.xob,R.frd,R.dis,R.loc.imp fun m z=>⟨z.1,fun n v e=>z.2 n v (hl n v e)⟩,fun i o e=>R.obs i o (ho i o e),R.cW,R.inj,fun k e=>R.nx k (qA hn e),fun k e=>R.ps k fun q=>e (hp k q)⟩
theorem Rel.sub{c env g U U' s}(R:Rel c env g U s)(hl:∀n v,JA U'.loc n=some v->JA U.loc n=some v)(ho:∀i o,JA U'.hp i=some o->JA U.hp i=some o)
  (hn:U.nx<=U'.nx) (hp:∀k,k∈U.ps->k∈U'.ps):Rel c env g U' s:=⟨R.toRel0.sub hl ho hn hp,R.pos⟩
theorem Rel.grow{c env g U s s'}(R:Rel c env g U s)(k:∀b o,s.heap.get? b=some o->s'.heap.get? b=some o)(hp:0<s'.toks):Rel c env g U s':=⟨R.toRel0.grow k,hp⟩
end Mine.Tactic
end
noncomputable section
open PySem PySem.Builtin PySem.Builtin.Str PySem.StrLaws
namespace Mine.Tactic

theorem DE:∀(y s:LN),Jg y s=(s.take y.length==y)
 |[],s=>by cases s<;>rfl
 |_::_,[]=>rfl
 |a::y,b::s=>by
  show (a==b&&Jg y s)=(b==a&&(s.take y.length==y));rw[DE y s,BEq.comm]
theorem A0:∀(y:LN) (m:Nat) (t:LN),Jg y (t.take m)=(decide (y.length<=m)&&Jg y t):=by
 intro y;induction y with
 |nil=>
  intro m t;rw[eR,aU (qG m)];cases t.take m<;>cases t<;>rfl
 |cons a y ih=>
  intro m t;cases m with
  |zero=>rfl
  |succ m=>
   cases t with
   |nil=>exact(cS _).symm
   |cons b t=>
    show (a==b&&Jg y (t.take m))=(decide (y.length+1<=m+1)&&(a==b&&Jg y t));rw[ih m t,Bool.and_left_comm];congr 1;exact decide_eq_decide.mpr Nat.succ_le_succ_iff.symm
noncomputable def QO(y:LN):Nat->LN->Nat->Nat->LN
 |lim,[],i,k=>if 0<lim/\k=0/\Jg y []=true then [i] else []
 |lim,c::s,i,k=>if 0<lim/\k=0/\Jg y (c::s)=true then i::QO y (lim-1) s (i+1) (y.length-1) else QO y lim s (i+1) (k-1)

theorem G3{a b n c s}:QE a b (n+1) (c::s)=if Jg a (c::s) then b++QE a b n ((c::s).drop a.length) else c::QE a b n s:=rfl
theorem Zu{y lim i k}:QO y lim [] i k=if 0<lim/\k=0/\Jg y []=true then [i] else []:=rfl
theorem YL{y lim i k c s}:QO y lim (c::s) i k=if 0<lim/\k=0/\Jg y (c::s)=true then i::QO y (lim-1) s (i+1) (y.length-1) else QO y lim s (i+1) (k-1):=rfl
theorem ZDD{y i}:QI y [] i=if Jg y [] then (i:Int) else -1:=rfl
theorem ZDE{y i a r}:QI y (a::r) i=if Jg y (a::r) then (i:Int) else QI y r (i+1):=rfl
theorem Zi{s y hi i}(hi':i<=hi):(i+(toS y).length<=hi/\subAt (toS s) (toS y) i=true) ↔ Jg y ((s.take hi).drop i)=true:=by
 rw[cT,A0,DE,Bool.and_eq_true,decide_eq_true_eq,subAt_eq,Jo,Nat.le_sub_iff_add_le' hi'];exact Iff.rfl
theorem GX{α:Type}{L l:List α}{c i}(h:c::l=L.drop i):l=L.drop (i+1):=by rw[<- a7,<- h];rfl

theorem Lb{s y hi lim}:∀(l:LN) (i:Nat) (st:Array Nat×Nat),l=(s.take hi).drop i->i+l.length=hi ->
  (forIn (List.range' i (l.length+1)) st (occBody (toS s) (toS y) hi lim)).run.fst.toList=st.fst.toList++QO y (lim-st.fst.size) l i (st.snd-i):=by
 have key:∀(l:LN) (i:Nat) (st:Array Nat×Nat),l=(s.take hi).drop i->i+l.length=hi ->
   ((((st.fst.size<lim/\st.snd<=i)/\i+(toS y).length<=hi)/\subAt (toS s) (toS y) i=true) ↔ (0<lim-st.fst.size/\st.snd-i=0/\Jg y l=true)):=fun l i st hl hh=>by
  rw[hl,<- Zi (hh▸qK _ _),Nat.sub_pos_iff_lt,Nat.sub_eq_zero_iff_le,and_assoc,and_assoc]
 intro l;induction l with
 |nil=>
  intro i st hl hh;show (forIn [i] st (occBody (toS s) (toS y) hi lim)).run.fst.toList=_;rw[b8];rw[Zu];unfold occBody;by_cases hc:0<lim-st.fst.size/\st.snd-i=0/\Jg y []=true
  ·rw[aR ((key _ _ _ hl hh).mpr hc),aR hc];exact cO
  ·rw[aN fun q=>hc ((key _ _ _ hl hh).mp q),aN hc];exact(aQ _).symm
 |cons c l ih=>
  intro i st hl hh;show (forIn (i::List.range' (i+1) (l.length+1)) st (occBody (toS s) (toS y) hi lim)).run.fst.toList=_;rw[b8];rw[YL];unfold occBody;have hl':=GX hl;have hh':i+1+l.length=hi:=(a4 i 1 _).trans hh;by_cases hc:0<lim-st.fst.size/\st.snd-i=0/\Jg y (c::l)=true
  ·rw[aR ((key _ _ _ hl hh).mpr hc),aR hc]
   refine(ih (i+1) (st.fst.push i,i+(toS y).length) hl' hh').trans ?_;rw[cO,Array.size_push,Jo,cE,aT,<- Nat.sub_sub];rfl
  ·rw[aN fun q=>hc ((key _ _ _ hl hh).mp q),aN hc]
   exact ih (i+1) st hl' hh'
theorem Kv{s y lo hi lim}(hh:hi<=s.length)(hl:lo<=hi):occurrences (toS s) (toS y) lo hi lim=QO y lim ((s.take hi).drop lo) lo 0:=by
 have e:((s.take hi).drop lo).length=hi-lo:=by rw[am,cZ,bj hh]
 have:=Lb (y:=y) (lim:=lim) ((s.take hi).drop lo) lo (#[],lo) rfl (by rw[e];exact bw hl)
 rw[e,<- Nat.sub_add_comm hl,eF] at this;rw[occ_eq,this];rfl

theorem Ki(y):∀(s:LN) (i:Nat),(match QO y 1 s i 0 with|k::_=>(k:Int)|[]=>-1)=QI y s i:=fun l0=>by
 induction l0 with
 |nil=>
  intro i;rw[Zu,ZDD];by_cases h:Jg y []=true
  ·rw[aR ⟨Nat.one_pos,rfl,h⟩,aR h]
  ·rw[aN fun q=>h q.2.2,aN h]
 |cons c s ih=>
  intro i;rw[YL,ZDE];by_cases h:Jg y (c::s)=true
  ·rw[aR ⟨Nat.one_pos,rfl,h⟩,aR h]
  ·rw[aN fun q=>h q.2.2,aN h];exact ih (i+1)
theorem NB(s y lim):occurrences (toS s) (toS y) 0 (toS s).length lim=QO y lim s 0 0:=by
 rw[Jo,Kv (qF _) (qG _),bI];rfl
theorem MW(s y):Txt.find (toS s) (toS y)=QI y s 0:=by
 unfold Txt.find;rw[NB];exact Ki y s 0
theorem Ah(s y):Txt.contains (toS s) (toS y)=(QI y s 0 != -1):=by
 unfold Txt.contains;rw[NB,<- Ki y s 0];cases QO y 1 s 0 0 with
 |nil=>rfl
 |cons k l=>exact(bne_iff_ne.mpr fun h=>nomatch h:((k:Int) != -1)=true).symm
theorem Ew{s y i}(h0:0<=i)(h1:i<=s.length):Txt.find3 (toS s) (toS y) i=QI y (s.drop i.toNat) i.toNat:=by
 unfold Txt.find3;have h1:i.toNat<=s.length:=eG.mpr h1;have e:fromIndex (toS s).length i=i.toNat:=by unfold fromIndex;rw[aN (bP.mpr h0),cH h0]
 rw[e,Jo,Kv (qF _) h1,bI];exact Ki y _ _

theorem Kl(c a l):Jg [c] (a::l)=(c==a):=bu _
theorem CB{c}:∀(l:LN) (lim i:Nat),l.length<lim->(QO [c] lim l i 0).length=Ug c l:=by
 intro l;induction l with
 |nil=>
  intro lim i h;rw[Zu,aN fun q=>nomatch q.2.2];rfl
 |cons a l ih=>
  intro lim i h;cases lim with
  |zero=>exact absurd h (xJ _)
  |succ lim=>
   rw[YL];unfold Ug;rw[List.filter_cons];by_cases e:c=a
   ·subst e
    rw[aR ⟨xD _,rfl,by rw[Kl];exact aS c⟩,aR (aS c)]
    exact aM (·+1) (ih lim (i+1) (xH h))
   ·rw[aN fun q=>e (bE ((Kl c a l).symm.trans q.2.2)),aN fun q=>e (bE q).symm]
    exact ih (lim+1) (i+1) (cP h)
theorem Cp{s c hi}:∀(l:LN) (i:Nat) (st:Option Nat),l=(s.take hi).drop i->i+l.length=hi->(match (forIn (List.range' i (l.length+1)) st (lastBody (toS s) (toS [c]) hi)).run with|some k=>(k:Int)|none=>-1)=Qd c l i (match st with|some k=>(k:Int)|none=>-1):=fun l0=>by
 induction l0 with
 |nil=>
  intro i st hl hh;show (match (forIn [i] st (lastBody (toS s) (toS [c]) hi)).run with|some k=>(k:Int)|none=>-1)=_
  rw[b8];unfold lastBody;rw[aN fun q=>nomatch (show Jg [c] []=true from hl▸(Zi (s:=s) (y:=[c]) (hh▸qK _ _:i<=hi)).mp q)]
  rfl
 |cons a l ih=>
  intro i st hl hh;have e:=Zi (s:=s) (y:=[c]) (hh▸qK _ _:i<=hi);rw[<- hl,Kl] at e;have hl':=GX hl;have hh':i+1+l.length=hi:=(a4 i 1 _).trans hh;show (match (forIn (i::List.range' (i+1) (l.length+1)) st (lastBody (toS s) (toS [c]) hi)).run with|some k=>(k:Int)|none=>-1)=_
  rw[b8];unfold lastBody;rw[show Qd c (a::l) i (match st with|some k=>(k:Int)|none=>-1)=Qd c l (i+1) (if a=c then (i:Int) else match st with|some k=>(k:Int)|none=>-1) from rfl]
  by_cases hc:a=c
  ·rw[aR (e.mpr (aV.mpr hc.symm)),aR hc];exact ih (i+1) (some i) hl' hh'
  ·rw[aN fun q=>hc (bE (e.mp q)).symm,aN hc];exact ih (i+1) st hl' hh'
theorem Cq{s c hi}(hh:hi<=s.length):(match lastOccurrence (toS s) (toS [c]) 0 hi with|some k=>(k:Int)|none=>-1)=Qd c (s.take hi) 0 (-1):=by
 have e:(s.take hi).length=hi:=by rw[cZ,bj hh]
 have:=Cp (c:=c) (s.take hi) 0 none rfl (by rw[e];exact bL _)
 rw[e] at this;rw[last_eq];exact this

theorem T6(s y):Txt.startswith (toS s) (toS y)=Jg y s:=by
 have e:=Zi (s:=s) (y:=y) (qG s.length);rw[bI,dk] at e;unfold Txt.startswith;rw[Bool.eq_iff_iff,Bool.and_eq_true,decide_eq_true_eq,<- e,Jo s]

theorem By(s i j):strSub (toS s) i j=toS ((s.drop i).take (j-i)):=aM Str.mk (Array.toList_inj.mp (strSub_toList (toS s) i j))
noncomputable def U6(s:LN)(w:Nat):Nat->LN->List LN
 |p,[]=>[s.drop p]
 |p,c::r=>(s.drop p).take (c-p)::U6 s w (c+w) r
theorem Av(s w):∀(cuts:LN) (p:Nat),partsFrom (toS s) w p cuts=(U6 s w p cuts).map toS:=fun l0=>by
 induction l0 with
 |nil=>
  intro p;show [strSub (toS s) p (toS s).length]=[toS (s.drop p)];rw[By,Jo,bz (qU am)]
 |cons c r ih=>
  intro p;show strSub (toS s) p c::partsFrom (toS s) w (c+w) r=_;rw[By,ih];rfl
theorem Yv(a b):toS a++toS b=toS (a++b):=aM Str.mk (List.append_toArray a b)
theorem Kk(b):∀(l:List LN),Str.join (toS b) (l.map toS)=toS (QN b l)
 |[]=>rfl
 |[x]=>rfl
 |x::y::r=>by
  show toS x++toS b++Str.join (toS b) ((y::r).map toS)=_;rw[Kk b (y::r),Yv,Yv];rfl
theorem Az{s b x w p}:∀{r:LN},QN b (x::U6 s w p r)=x++b++QN b (U6 s w p r)
 |[]=>rfl
 |_::_=>rfl
theorem EL{s b a x}:∀(l:LN) (lim i k p fD:Nat) (u:LN),s.drop p=u++l.drop k->p+u.length=i+k->(k=0\/u=[])->l.length<lim->(l.drop k).length<fD->QN b (U6 s (a.length+1) p (QO (x::a) lim l i k))=u++QE (x::a) b fD (l.drop k):=fun l0=>by
 induction l0 with
 |nil=>
  exact fun lim i k p fD u=>fun hs hp hk hlim hf=>by
   rw[Zu,aN fun q=>nomatch q.2.2]
   rw[cj] at hs ⊢;have:QE (x::a) b fD []=[]:=by cases fD<;>rfl
   rw[this];exact hs
 |cons c l ih=>
  exact fun lim i k p fD u=>fun hs hp hk hlim hf=>by
   cases k with
   |succ m=>
    rw[YL,aN fun q=>nomatch q.2.1]
    exact ih lim (i+1) m p fD u hs (hp.trans (a4 i m 1)) (.inr (hk.resolve_left fun q=>nomatch q)) (cP hlim) hf
   |zero=>
   cases lim with
   |zero=>exact absurd hlim (xJ _)
   |succ lim=>
   cases fD with
   |zero=>exact absurd hf (xJ _)
   |succ n=>
   rw[YL];have hf':=xH hf;have hlim':=xH hlim;by_cases h:Jg (x::a) (c::l)=true
   ·rw[aR ⟨xD _,rfl,h⟩]
    have e1:(s.drop p).take (i-p)=u:=by
     rw[hs,show i-p=u.length from Nat.sub_eq_of_eq_add (hp.symm.trans (aW _ _))];exact dm
    have e2:s.drop (i+(a.length+1))=l.drop a.length:=by
     rw[show i=p+u.length from hp.symm,aX,<- a7,hs,<- a7,cG];rfl
    show QN b ((s.drop p).take (i-p)::U6 s (a.length+1) (i+(a.length+1)) _)=u++QE (x::a) b (n+1) (c::l);rw[Az,e1];show u++b++QN b (U6 s (a.length+1) (i+(a.length+1)) (QO (x::a) lim l (i+1) a.length))=_;rw[ih lim (i+1) a.length (i+(a.length+1)) n [] e2 (aX i 1 a.length▸by rw[aW a.length 1];rfl) (.inr rfl) hlim' (qL (am▸xU ..) hf'),G3,aR h,aT];rfl
   ·rw[aN fun q=>h q.2.2]
    show QN b (U6 s (a.length+1) p (QO (x::a) (lim+1) l (i+1) 0))=u++QE (x::a) b (n+1) (c::l);rw[ih (lim+1) (i+1) 0 p n (u++[c]) (hs.trans (List.append_cons u c l)) (by rw[aO,<- aX,hp];rfl) (.inl rfl) (cP hlim) hf',G3,aN h,aT];rfl
theorem Au{s a b}(ha:a.isEmpty=false):Txt.replace (toS s) (toS a) (toS b)=toS (QE a b (s.length+1) s):=by
 cases a with
 |nil=>exact nomatch ha
 |cons x a=>
  have hr:=EL (b:=b) (a:=a) (x:=x) s (s.length+1) 0 0 0 (s.length+1) [] rfl rfl (.inl rfl) (xB _) (xB _);unfold Txt.replace;rw[NB,Jo];show (if ((QO (x::a) (s.length+1) s 0 0).isEmpty||((toS (x::a)).length==0&&_))=true then _ else _)=_;rw[Jo,show ((x::a).length==0)=false from rfl,cU,dG];cases hc:QO (x::a) (s.length+1) s 0 0 with
  |nil=>rw[hc] at hr;exact aM toS hr
  |cons d r=>
   rw[hc] at hr;rw[aN (by exact fun q=>nomatch q),partsBetween_eq,glued_eq_join,Av,Kk]
   exact aM toS hr
end Mine.Tactic
end
noncomputable section
open PySem PySem.Calls PyProof.Rows PySem.W
namespace Mine.Tactic

structure EnvOk(env:Nv):Prop where
 kind:env.scope.kind=.function
 glob:env.globals=mainGlobals
 blt:env.builtins=builtinsNs
 frs:∀x∈env.fs,x.scope.kind≠.module/\∃L,x.frame=some L
 top:∃e l,env.fs=e::l/\e.frame=env.frame

def JM(env:Nv)(A:Around)(r:Nat):Prop:=A.handled=none/\A.depth+r<recursionLimit/\A.units+20*r+300<cLine/\A.frames=some env.fs
theorem JM.le{env A r r'}(h:JM env A r)(k:r'<=r):JM env A r':=⟨h.1,qL (qI k _) h.2.1,qL (qO (qI (xA _ k) _) _) h.2.2.1,h.2.2.2⟩
theorem JM.add{env A r k}(h:JM env A r)(hk:k<=300):A.units+k<cLine:=qL (qQ (qK _ _) hk) h.2.2.1
theorem JM.units{env A r}(h:JM env A r):A.units<cLine:=h.add (qG _)

abbrev Vx(c:Cx)(env:Nv)(g:Gh)(s:Shared)(v:Vv)(x:Value):Prop:=VR c (Fz env g s.heap) g.rho v x
abbrev Vxs(c:Cx)(env:Nv)(g:Gh)(s:Shared)(v:List Vv)(x:List Value):Prop:=VRs c (Fz env g s.heap) g.rho v x

def Nxt(c:Cx)(env:Nv)(g:Gh)(s:Shared)(v:Vv)(U':St)(Q:Value->Shared->Prop):Prop:=
 ∀x s' g',Rel c env g' U' s'->Vx c env g' s' v x->Ext env g g' s s'->Q x s'

def JE(c:Cx)(r:Nat)(env:Nv)(e:Expr)(f:St->Option (Vv×St)):Prop:=
 ∀⦃A:Around⦄ ⦃U:St⦄ ⦃v:Vv⦄ ⦃U':St⦄ ⦃g:Gh⦄ ⦃s:Shared⦄ ⦃E:Value->Shared->Prop⦄ ⦃Q:Value->Shared->Prop⦄,
  JM env A r->f U=some (v,U')->Rel c env g U s->Nxt c env g s v U' Q->wpAny c.M A (eval e env) Q E s

section
variable{c:Cx}{r:Nat}{env:Nv}{A:Around}{U U' U1a:St}{g:Gh}{s:Shared}{E:Value->Shared->Prop}{Q:Value->Shared->Prop}{v:Vv}

theorem Ext.toks{t:Tok}:Ext env g g s { s with toks:=t }:=⟨fun J J h hw J=>⟨h,hw⟩,fun J J J=>.of fun J h=>h,fun J J h=>h,rfl,rfl⟩
theorem Rel.toks{t:Tok}(R:Rel c env g U s)(ht:0<t:=by exact xD _):Rel c env g U { s with toks:=t }:=⟨R.toRel0,ht⟩
theorem Nxt.toks(N:Nxt c env g s v U Q)(R:Rel c env g U s){x:Value}{t:Tok}(h:Vx c env g s v x)(ht:0<t:=by exact xD _):Q x { s with toks:=t }:=
 N x { s with toks:=t } g (R.toks ht) h .toks
theorem Nxt.same(N:Nxt c env g s v U Q)(R:Rel c env g U s){x}(h:Vx c env g s v x):Q x s:=N x s g R h .refl
theorem Nxt.grow(N:Nxt c env g s v U Q)(R:Rel c env g U s){x s'}(k:∀b o,s.heap.get? b=some o->s'.heap.get? b=some o)(hg:gos s'=gos s)(h:Vx c env g s' v x)(ht:0<s'.toks:=by exact xD _):Q x s':=
 N x s' g (R.grow k ht) h (.grow k hg)
theorem Nxt.trans{ek eu}(N:Nxt c env g s v U' Q)(x:Ext env g eu s ek):Nxt c env eu ek v U' Q:=
 fun y s' g' R h e=>N y s' g' R h (x.trans e)
theorem Nxt.of{w}(e:some (w,U1a)=some (v,U'))(N:Nxt c env g s v U' Q):Nxt c env g s w U1a Q:=by cases e;exact N

theorem Mt{k pos}:JE c r env (.Constant .none k pos) (fun U=>some (.none,U)):=fun J J J J J J J J J hf R N=>qC ((N.of hf).same R .none)
theorem M1{b k pos}:JE c r env (.Constant (.bool b) k pos) (fun U=>some (.bool b,U)):=fun J J J J J J J J J hf R N=>qC ((N.of hf).same R (.bool _))
theorem Sz{i k pos}:JE c r env (.Constant (.int i) k pos) (fun U=>some (.int i,U)):=fun J J J J J J J J J hf R N=>wpAny_Constant_int ((N.of hf).toks R (.int _ _))
theorem So{x k pos}:JE c r env (.Constant (.str (toS x)) k pos) (fun U=>some (.str x,U)):=fun J J J J J J J J J hf R N=>eH ((N.of hf).toks R (.str _ _))

theorem Sv(O:c.Ok)(VV:EnvOk env){n}{pos}(hk:env.kindOf (c.nm n)=some .local):JE c r env (.Name (c.nm n) pos) (fun U=>bo (JA U.loc n) fun v=>some (v,U)):=fun J J J J J J J J J hf R N=>boE hf fun w hv e=>by
 obtain⟨m,hm,hl⟩:=R.loc;obtain⟨x,hx,h⟩:=(hl n _ hv).1 hk;exact ei (cb VV.kind hk hm hx ((N.of e).same R h)) (O.noDbg n)

theorem Rel.kinD(R:Rel c env g U s):c.K.In s.heap:=fun a o e=>(R.kin a o e).1

theorem Mw(O:c.Ok)(VV:EnvOk env){n x}{pos}(hm:(n,v,x)∈c.G)(hk:env.kindOf (c.nm n)=some .globalImplicit):JE c r env (.Name (c.nm n) pos) (fun U=>some (v,U)):=fun J J J J J J J J J hf R N=>
 a3 VV.kind hk (qB ((dQ R.kinD (VV.glob▸O.gl n v x hm:nsIn c.K env.globals (c.nm n)=some (some x))).here (qC ((N.of hf).same R (O.gv n v x hm _ _ R.kin))))) (O.noDbg n)

theorem DD{e:DictEntry}{n' t}(hk:e.key=.str (c.nm n') t)(n):e.key.isStr (c.nm n)=(c.nm n'==c.nm n):=by rw[hk];rfl
theorem FsR.find{F:Addr->Obj->Prop}{ρ}(O:c.Ok){n fs es}(h:FsR c F ρ fs es):
  (∀v,JA fs n=some v->∃e,es.find? (·.key.isStr (c.nm n))=some e/\VR c F ρ v e.val)/\(JA fs n=none->es.find? (·.key.isStr (c.nm n))=none/\es.any (·.refKey)=false):=
 FsR.rec (motive:=fun fs es J=>(∀v,JA fs n=some v->∃e,es.find? (·.key.isStr (c.nm n))=some e/\VR c F ρ v e.val)/\(JA fs n=none->es.find? (·.key.isStr (c.nm n))=none/\es.any (·.refKey)=false))
  ⟨fun J e=>nn e,fun J=>⟨rfl,rfl⟩⟩ (fun {n' v' fs e es t} hk hv J ih=>by
   have hs:=DD hk n;have hr:e.refKey=false:=by unfold DictEntry.refKey;rw[hk]
   rw[UL];by_cases hn:n'=n
   ·have hs:e.key.isStr (c.nm n)=true:=by rw[hs,hn];exact aS _
    rw[aR hn,bq,hs];exact⟨fun v q=>⟨e,rfl,aY q▸hv⟩,fun q=>(nn q.symm)⟩
   ·have hs:e.key.isStr (c.nm n)=false:=by rw[hs];exact bX fun q=>hn (O.inj _ _ q)
    rw[aN hn,bq,hs,bG,hr];exact ih) h
theorem FsR.lookIn_some{F:Addr->Obj->Prop}{ρ}(O:c.Ok){n k fs es}(h:FsR c F ρ fs es){v}(hv:JA fs n=some v):∃x,PySem.W.lookIn (c.nm n) (dictOf es k)=some (some x)/\VR c F ρ v x:=by
 obtain⟨e,h1,h2⟩:=(h.find O).1 v hv;refine⟨e.val,?_,h2⟩;show (match es.find? (·.key.isStr (c.nm n)) with|some e=>some (some e.val)|none=>_)=_
 rw[h1]
theorem FsR.lookIn_none{F:Addr->Obj->Prop}{ρ}(O:c.Ok){n k fs es}(h:FsR c F ρ fs es)(hv:JA fs n=none):PySem.W.lookIn (c.nm n) (dictOf es k)=some none:=by
 obtain⟨h1,h2⟩:=(h.find O).2 hv;show (match es.find? (·.key.isStr (c.nm n)) with|some e=>some (some e.val)|none=>if es.any (·.refKey) then none else some none)=_
 rw[h1,h2];rfl

structure Cls(c:Cx)(C:Nat):Prop where
 over:plainOver c.K (c.cA C)=true
 dict:(clsIn c.K (c.cA C)).any (·.hasDict)=true
 ga:findIn c.K (.ref (c.cA C)) "__getattribute__"=some (some (.builtin "object.__getattribute__"))
 sa:findIn c.K (.ref (c.cA C)) "__setattr__"=some (some (.builtin "object.__setattr__"))
 gt:findIn c.K (.ref (c.cA C)) "__getattr__"=some none
theorem Cx.Ok.clsOf(O:c.Ok){C}(h:C<c.nC):Cls c C:=bA (O.cls C h) fun h h5=>bA h fun h h4=>bA h fun h h3=>bA h fun h1 h2=>⟨h1,h2,bE h3,bE h4,bE h5⟩

theorem Wc(R:Rel c env g U s){id ob a}(ho:JA U.hp id=some ob)(hr:g.rho id=some a):∃o,g.cs id=some (a,o)/\ObR c env g s.heap ob a o:=by
 obtain⟨r,o,hc,H⟩:=R.obs id _ ho;unfold Gh.rho at hr;rw[hc] at hr;cases hr;exact⟨o,hc,H⟩
inductive InR(c:Cx)(env:Nv)(g:Gh)(h:Heap)(C:Nat)(fs:List (Nat×Vv))(a:Addr):Prop
 |mk (o:Addr) (es:List DictEntry) (n:Nat) (cls:Cls c C) (get:h.get? o=some (dictOf es n)) (fs:FsR c (Fz env g h) g.rho fs es) (at_:InstAt h a (instObj (c.cA C) o) (c.cA C) (some (dictOf es n)))
theorem XA(O:c.Ok)(R:Rel c env g U s){id C fs a}(ho:JA U.hp id=some (.inst C fs))(hr:g.rho id=some a):InR c env g s.heap C fs a:=by
 obtain⟨o,_,hC,_,hz,es,n,he,hf⟩:=Wc R ho hr;exact .mk o es n (O.clsOf hC) he hf ⟨hz.1,rfl,rfl,he⟩

noncomputable def QD(c:Cx)(C n:Nat):Bool:=findIn c.K (.ref (c.cA C)) (c.nm n)==some none
theorem Cls.usual{D n}(h:QD c D n=true):findIn c.K (.ref (c.cA D)) (c.nm n)=some none:=bE h
theorem Cv{F:Addr->Obj->Prop}{ρ x}(h:VR c F ρ v x):handedIn x=true:=
 VR.rec (motive_1:=fun J x J=>handedIn x=true) (motive_2:=fun J J J=>True) rfl (fun J=>rfl) (fun J J=>rfl) (fun J J=>rfl) (fun J J J J J=>rfl) (fun J J J=>rfl) (fun J J J J J J=>rfl) (fun J=>rfl) (fun J=>rfl) (fun J=>rfl) (fun J J J=>rfl) trivial (fun J J J J=>trivial) h

theorem Za(O:c.Ok)(R:Rel c env g U s)(hI:c.I≠[]):InR c env g s.heap c.iD c.I c.iA:=by
 obtain⟨hC,o,es,n,h1,h2,h3⟩:=O.ins hI;exact .mk o es n (O.clsOf hC) (R.kinD _ _ h2) (h3 _ _ R.kin) ⟨R.kinD _ _ h1,rfl,rfl,R.kinD _ _ h2⟩

theorem BQ(O:c.Ok){C n fs a b}(hn:QD c C n=true)(R:Rel c env g U s)(Y:InR c env g s.heap C fs a)
  (hv:JA fs n=some v) (N:Nxt c env g s v U Q):wpAny c.M A (getAttr (.ref a) (c.nm n) b) Q E s:=by
 cases Y with
 |mk o es k D he hf I=>
  obtain⟨x,hx,hvx⟩:=hf.lookIn_some O (k:=k) hv;refine get_value R.kinD I D.ga ?_ (Cv hvx) (N.toks R hvx);obtain⟨cd,hcd,hdd⟩:=any_some D.dict;delta findObj PySem.W.ownOf;dsimp only;rw[hcd,Cls.usual hn];show ((if cd.hasDict=true then lookIn (c.nm n) (dictOf es k) else some none).bind _)=_;rw[aR hdd,hx];rfl
theorem KW(O:c.Ok){id C n fs a b}(hn:QD c C n=true)(R:Rel c env g U s)(ho:JA U.hp id=some (.inst C fs))(hr:g.rho id=some a)
  (hv:JA fs n=some v) (N:Nxt c env g s v U Q):wpAny c.M A (getAttr (.ref a) (c.nm n) b) Q E s:=
 BQ O hn R (XA O R ho hr) hv N

theorem K1(R:Rel c env g U s):¬g.W s.heap.objs.size/\¬g.X s.heap.objs.size/\¬FA env s.heap.objs.size:=
 ⟨fun h=>(R.wob _ h).elim fun J e=>xS _ (xP e),fun h=>(R.xob _ h).elim fun J e=>xS _ (xP e),fun h=>(R.fob _ h).elim fun J e=>xS _ (xP e)⟩
theorem Wd(R:Rel c env g U s){o}(hf:o.isFreed=false):Fz env g (s.heap.push o) s.heap.objs.size o:=
 ⟨qY _ hf,K1 R⟩

noncomputable def UM(c:Cx)(C n f:Nat):Bool:=(findIn c.K (.ref (c.cA C)) (c.nm n)==some (some (.ref (c.fA f))))&&(isFn c.K (.ref (c.fA f))&&(fnIn c.K (c.fA f)&&!copiedNames.contains (c.nm n)))
theorem Xc{b}(h:(!b)=true):b=false:=by cases b<;>first|rfl|exact ff h
theorem Kc{K a}(h:typeIn K (.ref a)=some (.type "function")){x r}(hx:fastLookup "function" x=some r):specialIn K (.ref a) x=some r:=by
 unfold specialIn;rw[h];exact hx
theorem MU:fastLookup "function" "__get__"=some (some (.builtin "function.__get__")):=by kernel_rfl
theorem MT:fastLookup "function" "__set__"=some none:=by kernel_rfl
theorem MV:fastLookup "function" "__delete__"=some none:=by kernel_rfl

theorem AO(O:c.Ok){id C n f fs a b}(hn:UM c C n f=true)(R:Rel c env g U s)(ho:JA U.hp id=some (.inst C fs))(hr:g.rho id=some a)
  (hv:JA fs n=none) (N:Nxt c env g s (.meth f (.obj id)) U Q):wpAny c.M A (getAttr (.ref a) (c.nm n) b) Q E s:=by
 cases XA O R ho hr with
 |mk o es k D he hf I=>
  refine aA hn fun h1 h2 h3 h4=>?_
  have h2:typeIn c.K (.ref (c.fA f))=some (.type "function"):=bE h2;have P:=Wd R (o:=methodObj (.ref (c.fA f)) (.ref a)) rfl;refine get_bind (g:=.builtin "function.__get__") (a:=.ref (c.fA f)) R.kinD I D.ga ?_ D.gt (dB (fn_get (s:={ s with toks:=s.toks+1 }) (K:=c.K) R.kinD h2
   (eW (handedOut_of rfl) (N.grow R (s':={ s with toks:=s.toks+1,heap:=s.heap.push (methodObj (.ref (c.fA f)) (.ref a)) }) (fun b o e=>qZ _ e) rfl (.meth P (.obj hr))))))
  obtain⟨cd,hcd,hdd⟩:=any_some D.dict;have ht:takesIn c.K (.ref (c.fA f))=some false:=by
   unfold takesIn;rw[Kc h2 MT,Kc h2 MV];rfl
  delta findObj PySem.W.ownOf;dsimp only;rw[hcd,bE h1];show ((specialIn c.K (.ref (c.fA f)) "__get__").bind _)=_;rw[Kc h2 MU];show ((takesIn c.K (.ref (c.fA f))).bind _)=_;rw[ht];show ((if cd.hasDict=true then lookIn (c.nm n) (dictOf es k) else some none).bind _)=_;rw[aR hdd,hf.lookIn_none O hv];show (if (copiedNames.contains (c.nm n)&&_)=true then none else _)=_;rw[Xc h4,cU];rfl

noncomputable def IN(i:Int):Option (Option Value)->Bool
 |some v=>(match v with|some v=>(match v with|.int j _=>i==j|_=>false)|none=>false)
 |none=>false
theorem MG{i o}(h:IN i o=true):∃t,o=some (some (.int i t)):=by
 cases o with
 |none=>exact ff h
 |some v=>cases v with
  |none=>exact ff h
  |some v=>cases v<;>first|exact ff h|(cases bE h;exact⟨_,rfl⟩)
def OR(c:Cx)(C n:Nat)(i:Int):Bool:=IN i (findIn c.K (.ref (c.cA C)) (c.nm n))&&!copiedNames.contains (c.nm n)
theorem Eh:fastLookup "int" "__get__"=some none:=by kernel_rfl
theorem Ad(O:c.Ok){id C n i fs a b}(hn:OR c C n i=true)(R:Rel c env g U s)(ho:JA U.hp id=some (.inst C fs))(hr:g.rho id=some a)
  (hv:JA fs n=none) (N:Nxt c env g s (.int i) U Q):wpAny c.M A (getAttr (.ref a) (c.nm n) b) Q E s:=by
 cases XA O R ho hr with
 |mk o es k D he hf I=>
  refine bA hn fun h1 h4=>?_
  obtain⟨t,hj⟩:=MG h1;refine get_value R.kinD I D.ga (v:=.int i t) ?_ rfl (N.toks R (.int i t));obtain⟨cd,hcd,hdd⟩:=any_some D.dict;have g1:specialIn c.K (.int i t) "__get__"=some none:=Eh;delta findObj PySem.W.ownOf;dsimp only;rw[hcd,hj];show ((if cd.hasDict=true then lookIn (c.nm n) (dictOf es k) else some none).bind _)=_;rw[aR hdd,hf.lookIn_none O hv];show (if (copiedNames.contains (c.nm n)&&_)=true then none else _)=_;rw[Xc h4,cU];rfl

def ZC9(e:Expr):Bool:=ctq fun h=>Expr.Name.elim (motive_1:=fun J=>Bool) e h fun J J=>true
def Jv(e:Expr):Bool:=ctt fun h=>Expr.Call.elim (motive_1:=fun J=>Bool) e h fun f as ks J=>!(ZC9 f&&(as.isEmpty&&ks.isEmpty))
theorem Ba{o:Expr}(h:Jv o=true)(attr:Str)(env:Nv)(m:Sem Value):attributeBase o attr env m=m:=by
 cases o with
 |Call f as ks p=>
  cases f with
  |Name y q=>
   cases as with
   |nil=>cases ks with
    |nil=>exact ff h
    |cons _ _=>rfl
   |cons _ _=>rfl
  |_=>rfl
 |_=>rfl
theorem Yp{value attr pos}(hc:Jv value=true)
  (h:wpAny c.M A (eval value env) (fun o ek=>wpAny c.M A (getAttr o attr true) Q E ek) E s):wpAny c.M A (eval (.Attribute value attr pos) env) Q E s:=by
 rw[arm_eval_Attribute,Ba hc];exact qB (xT h (fun o ek h1a=>qB (qV (qB (qD (xT h1a (fun r em h2a=>qB (wpAny_letTemporaryGo (qC h2a))) fun J J y=>y))))) fun J J y=>y)

variable{e:Expr}{es:List Expr}{C:Ora}{me:ME}{mes:List ME}{n D f:Nat}
theorem M2(O:c.Ok){pos}(hc:Jv e=true)(hn:QD c D n=true)(H:JE c r env e (ev C me)):JE c r env (.Attribute e (c.nm n) pos) (ev C (.attr me n D)):=fun J J J J J J J J hr hf R N=>bnE hf fun v U1a h1 h2=>
 Yp hc (H hr h1 R fun x ek eu ew ez e6=>WU (P:=fun v=>Vx c env eu ek v x->_) h2 (fun id fs ho h2 ez=>boE h2 fun w hw e=>ez.objE fun a ha=>KW O hn ew ho ha hw ((N.of e).trans e6)) ez)
theorem ZBf(O:c.Ok){pos}(hc:Jv e=true)(hn:UM c D n f=true)(H:JE c r env e (ev C me)):JE c r env (.Attribute e (c.nm n) pos) (ev C (.bm me n D f)):=fun J J J J J J J J hr hf R N=>bnE hf fun v U1a h1 h2=>
 Yp hc (H hr h1 R fun x ek eu ew ez e6=>WU (P:=fun v=>Vx c env eu ek v x->_) h2 (fun id fs ho h2 ez=>noE h2 fun hw e=>ez.objE fun a ha=>AO O hn ew ho ha hw ((N.of e).trans e6)) ez)
theorem VI(O:c.Ok){i}{pos}(hc:Jv e=true)(hn:OR c D n i=true)(H:JE c r env e (ev C me)):JE c r env (.Attribute e (c.nm n) pos) (ev C (.cat me n D i)):=fun J J J J J J J J hr hf R N=>bnE hf fun v U1a h1 h2=>
 Yp hc (H hr h1 R fun x ek eu ew ez e6=>WU (P:=fun v=>Vx c env eu ek v x->_) h2 (fun id fs ho h2 ez=>noE h2 fun hw e=>ez.objE fun a ha=>Ad O hn ew ho ha hw ((N.of e).trans e6)) ez)

def KS(c:Cx)(env:Nv)(g:Gh)(s:Shared)(v:List Vv)(U':St)(Q:List Value->Shared->Prop):Prop:=
 ∀x s' g',Rel c env g' U' s'->Vxs c env g' s' v x->Ext env g g' s s'->Q x s'
theorem KS.of{v w}{Q:List Value->Shared->Prop}(e:some (w,U1a)=some (v,U'))(N:KS c env g s v U' Q):KS c env g s w U1a Q:=by cases e;exact N
def J1(c:Cx)(r:Nat)(env:Nv)(es:List Expr)(f:St->Option (List Vv×St)):Prop:=
 ∀⦃A:Around⦄ ⦃U:St⦄ ⦃v:List Vv⦄ ⦃U':St⦄ ⦃g:Gh⦄ ⦃s:Shared⦄ ⦃E:Value->Shared->Prop⦄ ⦃Q:List Value->Shared->Prop⦄,
  JM env A r->f U=some (v,U')->Rel c env g U s->KS c env g s v U' Q->wpAny c.M A (spliced (es.map fun e=>(false,eval e env))) Q E s
def Wp(Q E:Value->Shared->Prop)(r:Result)(s':Shared):Prop:=match r with
 |.ok (.ret x)=>Q x s'
 |.ok _=>False
 |.error e=>E e s'
structure Fly(c:Cx)(env:Nv)(g:Gh)(s:Shared)(U':St)(e:Addr)(base:Heap)(em:Shared)(h:Heap):Prop where
 back:∀h',base.StaysIn h'->em.heap.UpToSlots h'->∃fB,Rel c env fB U' { em with heap:=h' }/\Ext env g fB s { em with heap:=h' }
 fly:∃a0,Heap.FlyingW base env.fs e (.type "KeyError") a0 h
 up:em.heap.UpToSlots h
def UV(c:Cx)(env:Nv)(g:Gh)(s:Shared)(U':St)(E:Value->Shared->Prop):Prop:=∀e base em h,Fly c env g s U' e base em h->E (.ref e) { em with heap:=h }
theorem UV.map{τ}(N:UV c env g s U' E)(k:∀fB em,Rel c env fB τ em->Ext env g fB s em->∃g3a,Rel c env g3a U' em/\Ext env g g3a s em):UV c env g s τ E:=fun e base em h F=>
 N e base em h ⟨fun h' k1 k2=>(F.back h' k1 k2).elim fun fB z=>k _ _ z.1 z.2,F.fly,F.up⟩
def TU(c:Cx)(f:Nat)(env:Nv)(g:Gh)(s:Shared)(vs:List Vv)(xs:List Value)(v:Vv)(U':St)(Q E:Value->Shared->Prop):Prop:=
 (Vxs c env g s vs xs/\Nxt c env g s v U' Q)\/∃vs',1000<=f/\vs=xM::vs'/\Vxs c env g s vs' xs/\UV c env g s U' E
def JK(c:Cx)(r:Nat)(C:Ora):Prop:=
 ∀⦃A:Around⦄ ⦃U:St⦄ ⦃f:Nat⦄ ⦃vs:List Vv⦄ ⦃v:Vv⦄ ⦃U':St⦄ ⦃env:Nv⦄ ⦃g:Gh⦄ ⦃s:Shared⦄ ⦃xs:List Value⦄ ⦃E:Value->Shared->Prop⦄ ⦃Q:Value->Shared->Prop⦄,
  JM env A r->EnvOk env->C f vs U=some (v,U')->Rel c env g U s->TU c f env g s vs xs v U' Q E->codeAny c.M A (.call (.ref (c.fA f)) ⟨xs,[]⟩) (Wp Q E) s
theorem JK.go{C f vs xs}(HC:JK c r C)(hr:JM env A r)(VV:EnvOk env)(hf:C f vs U=some (v,U'))(R:Rel c env g U s)(X:Vxs c env g s vs xs)(N:Nxt c env g s v U' Q):codeAny c.M A (.call (.ref (c.fA f)) ⟨xs,[]⟩) (Wp Q E) s:=HC hr VV hf R (.inl ⟨X,N⟩)
theorem ZM{x vs}(h:codeAny c.M A (.call x ⟨vs,[]⟩) (Wp Q E) s):wpAny c.M A (call x vs []) Q E s:=dB h

theorem GU:J1 c r env [] (evs C []):=fun J J J J J s J J J hf R N=>eX (N.of hf _ _ _ R .nil .refl)
theorem DK(H:JE c r env e (ev C me))(H2:J1 c r env es (evs C mes)):J1 c r env (e::es) (evs C (me::mes)):=fun J J J J J J J J hr hf R N=>bnE hf fun v U1a h1 h2=>bnE h2 fun vs U2a h3 h4=>
 cz (H hr h1 R fun x ek eu ew ez e6=>H2 hr h3 ew fun xs em fB fE fP fH=>N.of h4 _ _ _ fE (.cons (ez.ext fH) fP) (e6.trans fH))

def Ja(e:Expr):Bool:=ctt fun h=>Expr.Starred.elim (motive_1:=fun J=>Bool) e h fun J J=>false
theorem Ap{e}(h:Ja e=true){es}:starEach (e::es) env=(false,eval e env)::starEach es env:=by
 cases e<;>first|rfl|exact ff h
theorem T4:∀{es:List Expr},es.all Ja=true->starEach es env=es.map fun e=>(false,eval e env):=by
 intro l0;induction l0 with
 |nil=>
  intro _;exact rfl
 |cons e es ih=>
  intro h;exact bA h fun h1 h2=>(Ap h1).trans (aM _ (ih h2))
theorem Qy{pos:Pos}{es:List Expr}{env:Nv}(hs:es.all Ja=true):backTo pos (starEach es env)=es.map fun e=>(false,eval e env):=by
 rw[T4 hs];exact br.trans rfl
theorem Qz{f}{es:List Expr}{Q:Args->Shared->Prop}(h:wpAny c.M A (spliced (es.map fun e=>(false,eval e env))) (fun vs s'=>Q ⟨vs,[]⟩ s') E s):
  wpAny c.M A (evalArgs f true (es.map fun e=>(false,eval e env)) []) Q E s:=by
 cases es with
 |nil=>exact qB (xT h (fun vs s' h'=>qD (qB (qC (qB (qC (qC h')))))) fun J J x=>x)
 |cons e es=>exact evalArgs_plain h

theorem Km{l:List Expr}{env:Nv}:((l.map fun e=>(false,eval e env)).any (·.1)||([]:List (Option Str×Sem Value)).any (·.1.isNone))=false:=by
 rw[List.any_nil,dG,List.any_map,d9];exact fun x J h=>ff h

theorem KZ{pos f first}{es:List Expr}(hk:fnIn c.K f=true)
  (h:wpAny c.M A (spliced (es.map fun e=>(false,eval e env))) (fun vs ek=>c.K.In ek.heap/\wpAny c.M A (call (.ref f) (first++vs) []) Q E ek) E s):
  wpAny c.M A (callWith pos (.ref f) first (es.map fun e=>(false,eval e env)) []) Q E s:=by
 refine callWith_of (P:=c.K.In) Km (fun h X=>?_) (Qz h)
 have hk:(match c.K.lookup f with|some ⟨_,_,.func _,_⟩=>true|_=>false)=true:=hk
 cases e:c.K.lookup f with
 |none=>rw[e] at hk;exact ff hk
 |some o=>
  obtain⟨oc,od,d,os⟩:=o;rw[e] at hk;cases d<;>first|exact ff hk|exact⟨.frame,.inl rfl,(Looks.ld (part:=none) (X _ _ e)).andThen .now⟩

theorem UZ{o name fK pos args}(hc:Jv o=true)(hs:args.all Ja=true)(hl:(fK.endLine==pos.line)=true)(hn:args.length<25)
  (h:wpAny c.M A (eval o env) (fun ov ek=>∀pl,wpAny c.M A (getMethod ov name pl) (fun fx em=>wpAny c.M A (callWith pos fx.1 fx.2 (args.map fun e=>(false,eval e env)) []) Q E em) E ek) E s):
  wpAny c.M A (eval (.Call (.Attribute o name fK) args [] pos) env) Q E s:=by
 rw[arm_eval_Call,Ba hc,Qy hs];refine qB (xT h (fun ov ek h1a=>qB (qV ?_)) fun J J e=>e)
 have hform:methodCallForm (args.length+([]:List Keyword).length) (args.map fun e=>(false,eval e env)) (backToKw pos (keywordEach [] env))=true:=by
  show (((args.map fun e=>(false,eval e env)).all (!·.1)&&true)&&decide (args.length+0<30))=true
  rw[List.all_map,aU (xG hn (by decide:25<=30):args.length+0<30),bu,bu]
  exact aq.mpr fun J J=>rfl
 have hpos:methodCallPos true o env fK pos=pure pos:=by unfold methodCallPos;rw[hl];rfl
 unfold methodCall;rw[hform];refine qB (qD (xT (h1a _) (fun fx em h2a=>?_) fun J J e=>e))
 rw[hpos];exact qB (qC h2a)

theorem Bf(O:c.Ok)(VV:EnvOk env){pos fs a pl vs w}(hn:UM c D n f=true)(HC:JK c r C)(H2:J1 c r env es (evs C mes))(hr:JM env A r)
  (h3:evs C mes U=some (vs,U1a)) (h4:C f (w::vs) U1a=some (v,U')) (hw:JA fs n=none) (R:Rel c env g U s) (Y:InR c env g s.heap D fs a) (X:Vx c env g s w (.ref a)) (N:Nxt c env g s v U' Q):
  wpAny c.M A (getMethod (.ref a) (c.nm n) pl) (fun fx em=>wpAny c.M A (callWith pos fx.1 fx.2 (es.map fun e=>(false,eval e env)) []) Q E em) E s:=by
 cases Y with
 |mk o es k D he hfs I=>
  exact aA hn fun q1 q2 q3 J=>method_fn R.kinD I D.ga D.gt (bE q1) (bE q2) (by show (PySem.W.lookIn _ _).map _=_;rw[hfs.lookIn_none O hw];rfl)
   (KZ q3 (H2 hr h3 R fun xs em fB fE fP fH=>⟨fE.kinD,ZM (HC.go hr VV h4 fE (.cons (X.ext fH) fP) (N.trans fH))⟩))
theorem FB(O:c.Ok)(VV:EnvOk env){fK pos}(hc:Jv e=true)(hs:es.all Ja=true)(hl:(fK.endLine==pos.line)=true)(fN:es.length<25)
  (hn:UM c D n f=true) (HC:JK c r C) (H:JE c r env e (ev C me)) (H2:J1 c r env es (evs C mes)):
  JE c r env (.Call (.Attribute e (c.nm n) fK) es [] pos) (ev C (.mcall me n D f mes)):=fun J J J J J J J J hr hf R N=>bnE hf fun v U1a h1 h2=>
 UZ hc hs hl fN (H hr h1 R fun x ek eu ew ez e6 pl=>WU (P:=fun v=>Vx c env eu ek v x->_) h2 (fun id fs ho h2 ez=>noE h2 fun hw h2=>bnE h2 fun vs U2a h3 h4=>ez.objE fun a ha=>
  Bf O VV hn HC H2 hr h3 h4 hw ew (XA O ew ho ha) (.obj ha) (N.trans e6)) ez)

theorem Rr{α β:Type}[DecidableEq α]{l:List (α×β)}{n:α}{v:β}(h:JA l n=some v):l≠[]:=fun q=>by subst q;exact nn h
theorem VF(O:c.Ok){pos}{w}(hc:Jv e=true)(hn:QD c c.iD n=true)(hv:JA c.I n=some w)(H:JE c r env e (ev C me)):JE c r env (.Attribute e (c.nm n) pos) (ev C (.fat me n w)):=fun J J J J J J J J hr hf R N=>bnE hf fun v U1a h1 h2=>
 Yp hc (H hr h1 R fun x ek eu ew ez e6=>OJ (P:=fun v=>Vx c env eu ek v x->_) h2 (fun J e ez=>ez.fnE (BQ O hn ew (Za O ew (Rr hv)) hv ((N.of e).trans e6))) ez)
theorem VD(O:c.Ok)(VV:EnvOk env){fK pos}(hc:Jv e=true)(hs:es.all Ja=true)(hl:(fK.endLine==pos.line)=true)(fN:es.length<25)
  (hn:UM c c.iD n f=true) (hI:c.I≠[]) (hv:JA c.I n=none) (HC:JK c r C) (H:JE c r env e (ev C me)) (H2:J1 c r env es (evs C mes)):
  JE c r env (.Call (.Attribute e (c.nm n) fK) es [] pos) (ev C (.fmc me n f mes)):=fun J J J J J J J J hr hf R N=>bnE hf fun v U1a h1 h2=>
 UZ hc hs hl fN (H hr h1 R fun x ek eu ew ez e6 pl=>OJ (P:=fun v=>Vx c env eu ek v x->_) h2 (fun q h2 ez=>bnE h2 fun vs U2a h3 h4=>ez.fnE
  (Bf O VV hn HC H2 hr h3 h4 hv ew (Za O ew hI) (.fn q) (N.trans e6))) ez)

theorem AH{pos q f self}{es:List Expr}(hf:fnIn c.K f=true)
  (h:wpAny c.M A (spliced (es.map fun e=>(false,eval e env))) (fun vs ek=>(ek.heap.get? q=some (methodObj (.ref f) self)/\c.K.In ek.heap)/\codeAny c.M A (.call (.ref f) ⟨self::vs,[]⟩) (Wp Q E) ek) E s):
  wpAny c.M A (callWith pos (.ref q) [] (es.map fun e=>(false,eval e env)) []) Q E s:=
 callWith_of (P:=MethP c.K q f self) Km (keeps_M hf) (Qz (xT h (fun vs ek z=>⟨⟨z.1.1,z.1.2⟩,dB (method_call z.1.1 z.2)⟩) fun J J x=>x))

theorem FC(O:c.Ok)(VV:EnvOk env){fK pos}(hc:Jv e=true)(hs:es.all Ja=true)(hl:(fK.endLine==pos.line)=true)(fN:es.length<25)
  (hn:QD c D n=true) (hfn:∀f,fnIn c.K (c.fA f)=true) (HC:JK c r C) (H:JE c r env e (ev C me)) (H2:J1 c r env es (evs C mes)):
  JE c r env (.Call (.Attribute e (c.nm n) fK) es [] pos) (ev C (.fcall me n D mes)):=fun J J J J J J J J hr hf R N=>bnE hf fun v U1a h1 h2=>
 UZ hc hs hl fN (H hr h1 R fun x ek eu ew ez e6 pl=>WU (P:=fun v=>Vx c env eu ek v x->_) h2 (fun id fs ho h2 ez=>boE h2 fun w hw h2=>ez.objE fun a ha=>by
  cases XA O ew ho ha with
  |mk o es k D he hfs I=>
   exact method_usual ew.kinD I D.ga D.gt (Cls.usual hn) rfl (KW O hn ew ho ha hw fun y em fB fE fP fH=>LU (P:=fun w=>Vx c env fB em w y->_) h2 (fun f self h2 fP=>bnE h2 fun vs fI h3 h4=>fP.methE fun q y' hm hself=>
    AH (hfn f) (H2 hr h3 fE fun xs fO g3a fQ X3a fM=>⟨⟨(fM.Fz hm).1,fQ.kinD⟩,HC.go hr VV h4 fQ (.cons (hself.ext fM) X3a) (N.trans (e6.trans (fH.trans fM)))⟩)) fP)) ez)

noncomputable def IL(c:Cx)(x:Str)(f:Nat):Bool:=(nsIn c.K mainGlobals x==some (some (.ref (c.fA f))))&&fnIn c.K (c.fA f)
theorem M0(VV:EnvOk env){x}{np pos}(hs:es.all Ja=true)(hk:env.kindOf x=some .globalImplicit)(hx:(x==("__debug__":Str))=false)
  (hd:IL c x f=true) (HC:JK c r C) (H2:J1 c r env es (evs C mes)):
  JE c r env (.Call (.Name x np) es [] pos) (ev C (.call f mes)):=fun J J J J J J J J hr hf R N=>bnE hf fun vs U1a h1 h2=>bA hd fun d1 d2=>by
 rw[bN,Qy hs];exact qB (a3 VV.kind hk (qB ((dQ R.kinD (VV.glob▸bE d1:nsIn c.K env.globals x=some (some (.ref (c.fA f))))).here (qC
  (KZ d2 (H2 hr h1 R fun xs ek eu ew ez e6=>⟨ew.kinD,ZM (HC.go hr VV h2 ew ez (N.trans e6))⟩))))) hx)

def Ww(c:Cx)(env:Nv)(r:Nat)(op:Value->Value->Sem Value)(f:St->Vv->Vv->Option Vv):Prop:=
 ∀⦃A:Around⦄ ⦃U:St⦄ ⦃a b v:Vv⦄ ⦃g:Gh⦄ ⦃s:Shared⦄ ⦃x y:Value⦄ ⦃E:Value->Shared->Prop⦄ ⦃Q:Value->Shared->Prop⦄,
  JM env A r->f U a b=some v->Rel c env g U s->Vx c env g s a x->Vx c env g s b y->Nxt c env g s v U Q->wpAny c.M A (op x y) Q E s

theorem VJ{l rr ml mr o op}{pos}(Hop:Ww c env r (binaryOp op) (fun U=>Jk U o))(H:JE c r env l (ev C ml))(H2:JE c r env rr (ev C mr)):
  JE c r env (.BinOp l op rr pos) (ev C (.bop o ml mr)):=fun J J J J J J J J hr hf R N=>bnE hf fun a U1a h1 h2=>bnE h2 fun b U2a h3 h4=>boE h4 fun w h5 h6=>
 wpAny_BinOp (H hr h1 R fun x ek eu ew ez e6=>H2 hr h3 ew fun y em fB fE fP fH=>Hop hr h5 fE (ez.ext fH) fP ((N.of h6).trans (e6.trans fH)))
end
section
variable{c:Cx}{r:Nat}{env:Nv}{A:Around}{U U':St}{g:Gh}{s:Shared}{E:Value->Shared->Prop}{Q:Value->Shared->Prop}{v:Vv}

theorem Bg:JC=sizeLine:=by rw[dq];rfl
theorem bdE{α:Type}{n}{o:Option α}{x:α}{P:Prop}(h:bd n o=some x)(k:n<=sizeLine->o=some x->P):P:=gdE h fun h1 h2=>k (Bg▸qE h1) h2
theorem AS:(sizeLine:Int)<2 ^ 63:=by rw[dq];decide
theorem U8{n}(h:n<=sizeLine):(n:Int)<2 ^ 63:=dt (b5.mpr h) AS
theorem TI{l}(h:l.length<=sizeLine):((toS l).length:Int)<2 ^ 63:=by rw[Jo];exact U8 h

theorem IG(R:Rel c env g U s){id l a}(ho:JA U.hp id=some (.list l))(ha:g.rho id=some a):∃items n,IsL s.heap a items n/\Vxs c env g s l items.toList:=by
 obtain⟨o,hc,-,items,n,hi,hv⟩:=Wc R ho ha;exact⟨items,n,hi,hv⟩
theorem Uc{β:Type}{rr:β}(R:Rel c env g U s){v}{f:List Vv->Option β}{x}{P:Value->Prop}(h:onListOf U v f=some rr)(X:Vx c env g s v x)(k:∀l a items n,f l=some rr->IsL s.heap a items n->Vxs c env g s l items.toList->P (.ref a)):P x:=by
 cases v with
 |list l=>exact X.listE fun a items n hF hv=>k l a items n h hF.1 hv
 |obj id=>exact Xu (P:=fun v=>Vx c env g s v x->P x) (show onList U (.obj id) (fun J l=>f l)=some rr from h) (fun id l ho h X=>X.objE fun a ha=>(IG R ho ha).elim fun items z0=>z0.elim fun n z0=>z0.elim fun hi hv=>k l a items n h hi hv) X
 |_=>exact nn h
theorem Jf{l:List Vv}{items:Array Value}{F ρ}(h:VRs c F ρ l items.toList):items.size=l.length:=h.length.symm

def Qt(c:Cx)(env:Nv)(g:Gh)(s:Shared)(U':St)(P:Shared->Prop):Prop:=
 ∀s' g',Rel c env g' U' s'->Ext env g g' s s'->P s'
theorem Qt.toks{P:Shared->Prop}(N:Qt c env g s U P)(R:Rel c env g U s){t:Tok}(ht:0<t:=by exact xD _):P { s with toks:=t }:=N _ g (R.toks ht) .toks
theorem Qt.same{P:Shared->Prop}(N:Qt c env g s U P)(R:Rel c env g U s):P s:=N s g R .refl
theorem Qt.trans{P:Shared->Prop}{ek eu}(N:Qt c env g s U' P)(x:Ext env g eu s ek):Qt c env eu ek U' P:=
 fun s' g' R e=>N s' g' R (x.trans e)
theorem Qt.of{U1a b b'}{P:Bool->Shared->Prop}(e:some (b',U1a)=some (b,U'))(N:Qt c env g s U' (P b)):Qt c env g s U1a (P b'):=by cases e;exact N

theorem FG{l:List Vv}{items:Array Value}{F ρ}(h:VRs c F ρ l items.toList):(!items.isEmpty)=!l.isEmpty:=by
 rw[<- Array.isEmpty_toList];generalize items.toList=xs at h;cases l with
 |nil=>exact h.nilE rfl
 |cons _ _=>exact h.consE fun J J J J=>rfl
theorem AC:typeLookup (.type "method") "__bool__"=pure none:=by rw[typeLookup_type,builtinLookup_eq_fast];kernel_rfl
theorem AJ:typeLookup (.type "method") "__len__"=pure none:=by rw[typeLookup_type,builtinLookup_eq_fast];kernel_rfl
theorem AR{a}{Q:Bool->Shared->Prop}(h:s.TypeIs (.ref a) "method")(hq:Q true s):wpAny c.M A (PySem.truthy (.ref a)) Q E s:=by
 unfold PySem.truthy;exact qB (wpAny_callSpecial?_none h AC (qB (b9 h AJ (qC hq))))
theorem Ry(x):(((toS x).length:Int) != 0)=!x.isEmpty:=by rw[Jo];cases x<;>rfl
theorem BU{x b}{Q:Bool->Shared->Prop}(h:(onListOf U v fun l=>bd l.length (some (!l.isEmpty)))=some b)(R:Rel c env g U s)(X:Vx c env g s v x)(N:Qt c env g s U (Q b)):wpAny c.M A (PySem.truthy x) Q E s:=
 Uc (P:=fun x=>wpAny c.M A (PySem.truthy x) Q E s) R h X fun l a items n h hi hv=>bdE h fun hb e=>by
  cases e;have hs:=Jf hv;exact wpAny_truthy_list hi.isList (by rw[hs];exact U8 hb) (by rw[FG hv];exact N.toks R)
theorem Yu{b x}{Q:Bool->Shared->Prop}(hf:Tactic.Jm U v=some b)(R:Rel c env g U s)(X:Vx c env g s v x)(N:Qt c env g s U (Q b)):wpAny c.M A (PySem.truthy x) Q E s:=by
 cases v with
 |none=>cases hf;exact X.noneE (truthy_none (N.same R))
 |bool b=>cases hf;exact X.boolE (bK (N.same R))
 |int i=>cases hf;exact X.intE fun t=>P.truthy_int (N.same R)
 |str x'=>exact bdE hf fun hb e=>by cases e;exact X.strE fun t=>P.truthy_str (dR.mpr (TI hb)) (Ry x'▸N.toks R)
 |meth f s=>cases hf;exact X.methE fun a y hm J=>AR ⟨_,hm.1,rfl⟩ (N.same R)
 |list l=>exact BU (U:=U) (v:=.list l) hf R X N
 |obj i=>exact BU (U:=U) (v:=.obj i) hf R X N
 |dict ks vs=>
  exact bdE hf fun hb e=>by
   cases e;exact X.dictE fun a o kvs f d e hk hs=>by
    have hl:kvs.length=ks.length:=by rw[<- aP (·.1),e,aP]
    have he:kvs.isEmpty=ks.isEmpty:=by cases kvs<;>cases ks<;>first|rfl|exact nomatch hl
    exact wpAny_truthy_dict (knd:=strKind c.prog c.w) hs (bR.mpr ⟨_,f.1,d⟩) (by rw[hl];exact U8 hb) (by rw[he];exact N.toks R)
 |_=>exact nn hf

noncomputable def eqS(k:Str):Value->Bool
 |.str y _=>y==k
 |_=>false
noncomputable def eqI(k:Int):Value->Bool
 |.int y _=>y==k
 |_=>false
theorem Gr(z k):(toS z==toS k)=(z==k):=by
 by_cases e:z=k
 ·rw[e,aS,aS]
 ·rw[bX e,bX fun q=>e (U0 q)]
theorem ZAO{β:Type}{rr:β}{f:LN->Option β}{P:Vv->Prop}(h:bo (Iq v) f=some rr)(k:∀x,f x=some rr->P (.str x)):P v:=by
 cases v<;>first|exact nn h|exact k _ h
theorem Wm{β:Type}{rr:β}{f:Int->Option β}{P:Vv->Prop}(h:bo (Ws v) f=some rr)(k:∀x,f x=some rr->P (.int x)):P v:=by
 cases v<;>first|exact nn h|exact k _ h
theorem Z7{β:Type}{rr:β}{f:Nat->Option β}{P:Vv->Prop}(h:bo (Yi v) f=some rr)(k:∀x,f x=some rr->P (.str [x])):P v:=by
 cases v<;>first|exact nn h|skip
 match s,h with
 |[],h=>exact nn h
 |[c],h=>exact k _ h
 |_::_::_,h=>exact nn h
def KT(k:Int)(xs:List Value)(ys:List Int):Prop:=xs.any (eqI k)=ys.any (·==k)/\∀y∈xs,∃z t,y=.int z t
theorem Pm{β:Type}{rr:β}{f:Option LN->Option β}{P:Vv->Prop}(h:bo (Hq v) f=some rr)(k:∀x,f (some x)=some rr->P (.str x))(k':f none=some rr->P .none):P v:=by
 cases v<;>first|exact nn h|exact k _ h|exact k' h
noncomputable def eqO:Value->Bool
 |.none=>true
 |_=>false
def Yl(k:LN)(xs:List Value)(ys:List (Option LN)):Prop:=(xs.any (eqS (toS k))=ys.any (·==some k)/\xs.any eqO=ys.any Option.isNone)/\∀y∈xs,(∃z t,y=.str z t)\/y=.none
theorem Bc{k}{F ρ}:∀{l:List Vv} {ys:List (Option LN)} {xs:List Value},WZ l=some ys->VRs c F ρ l xs->Yl k xs ys:=by
 intro l0;induction l0 with
 |nil=>
  intro _ _ h hv;cases h;exact hv.nilE ⟨⟨rfl,rfl⟩,fun J h=>nomatch h⟩
 |cons _ _ ih=>
  intro ys xs h hv;exact hv.consE (P:=fun xs=>Yl k xs ys) fun y xs hw hv=>Pm (P:=fun v=>VR c F ρ v y->Yl k (y::xs) ys) h (fun z h hw=>boE h fun zs h1 h2=>by
    cases h2;obtain⟨a,b⟩:=ih h1 hv;exact hw.strE (P:=fun y=>Yl k (y::xs) (some z::zs)) fun t=>⟨⟨by rw[bG,bG,a.1];exact aM (·||_) (Gr z k),by rw[bG,bG,a.2];rfl⟩,fun y hy=>(aZ.mp hy).elim (fun e=>.inl ⟨_,_,e⟩) (b y)⟩) (fun h hw=>boE h fun zs h1 h2=>by
    cases h2;obtain⟨a,b⟩:=ih h1 hv;exact hw.noneE (P:=fun y=>Yl k (y::xs) (none::zs)) ⟨⟨by rw[bG,bG,a.1];rfl,by rw[bG,bG,a.2];rfl⟩,fun y hy=>(aZ.mp hy).elim .inr (b y)⟩) hw
theorem A6{k}{F ρ}:∀{l:List Vv} {ys:List Int} {xs:List Value},Ud l=some ys->VRs c F ρ l xs->KT k xs ys:=by
 intro l0;induction l0 with
 |nil=>
  intro _ _ h hv;cases h;exact hv.nilE ⟨rfl,fun J h=>nomatch h⟩
 |cons _ _ ih=>
  intro ys xs h hv;exact hv.consE (P:=fun xs=>KT k xs ys) fun y xs hw hv=>Wm (P:=fun v=>VR c F ρ v y->KT k (y::xs) ys) h (fun z h hw=>boE h fun zs h1 h2=>by
    cases h2;obtain⟨a,b⟩:=ih h1 hv;exact hw.intE (P:=fun y=>KT k (y::xs) (z::zs)) fun t=>⟨by rw[bG,bG,a];rfl,fun y hy=>(aZ.mp hy).elim (fun e=>⟨_,_,e⟩) (b y)⟩) hw
theorem Tz(a t):MeetsSeq.EqGives (.str a t) .none false:=fun prog w A E s Q h=>by
 unfold PySem.eqBool;refine qD ?_;rw[aN (show ¬(Value.str a t==Value.none)=true from fun q=>nomatch (aV.mp q))]
 exact qB (EqNone.eq_str_none (bK h))

theorem AP:MeetsSeq.EqGives .none .none true:=fun prog w A E s Q h=>by
 unfold PySem.eqBool;refine qD ?_;rw[aR (show (Value.none==Value.none)=true from rfl)];exact qB (wpAny_rule (qC h))

theorem T2(a t):MeetsSeq.EqGives .none (.str a t) false:=fun prog w A E s Q h=>by
 unfold PySem.eqBool;refine qD ?_;rw[aN (show ¬(Value.none==Value.str a t)=true from fun q=>nomatch (aV.mp q))]
 exact qB (EqNone.eq_none_str (bK h))
theorem Tt{t items x}{P:Fin->Shared->Prop}(e)(ht:IsTup s.heap t items)(he:∀y∈items.toList,MeetsSeq.EqGives y x (e y))
  (h:P (.done (.ret (.bool (items.toList.any e)))) s):wpAny c.M A (Builtin.«tuple.__contains__» ⟨[.ref t,x],[]⟩) P E s:=by
 show wpAny _ _ (Builtin.Tuple.tupleItemsOf (.ref t) >>= _) _ _ s;refine qB (tupleItemsOf_ ht ?_);refine qB (forIn_array_ _ (fun fR b s'=>b.1=none/\s'=s/\(∀y∈fR,MeetsSeq.EqGives y x (e y))/\P (.done (.ret (.bool (fR.any e)))) s) _ ?_ ?_ items _ ⟨rfl,rfl,he,h⟩)
 ·rintro y fR b s' ⟨hb,rfl,hm,hP⟩
  refine qB (hm y (.head _) _ _ _ _ _ _ ?_);rw[bG] at hP;cases hnx:e y with
  |true=>
   rw[hnx] at hP;exact qB (qC (qC (qC (by simpa using hP))))
  |false=>
   rw[hnx] at hP;exact qC ⟨rfl,rfl,fun z hz=>hm z (.tail _ hz),by simpa using hP⟩
 ·rintro ⟨b1,b2⟩ s' ⟨hb,rfl,hm,hP⟩
  simp only at hb;subst hb;exact qC (by simpa using hP)
theorem Tw{t items x}{Q:Bool->Shared->Prop}(e)(ht:IsTup s.heap t items)(he:∀y∈items.toList,MeetsSeq.EqGives y x (e y))(hargs:argsOk "tuple.__contains__" ⟨[.ref t,x],[]⟩)
  (h:Q (items.toList.any e) s):wpAny c.M A (PySem.contains (.ref t) x) Q E s:=by
 unfold PySem.contains;refine qD ?_;refine qB (b9 ht.typeIs slot_tuple_contains.lookup ?_);rw[aN (by decide)]
 exact qB (wpAny_callSpecialUnlessNone?_slot (name:=Str.ofString "__contains__") ht.typeIs slot_tuple_contains
  (eI slot_tuple_contains ht.typeIs entry_tuple_contains (Tt e ht he ⟨_,rfl,bK h⟩) hargs))

theorem BY{x l b y xs}(h:Wr x l=some b)(hv:Vxs c env g s l xs)(hx:Vx c env g s x y):
  ∃e:Value->Bool,(∀z∈xs,MeetsSeq.EqGives z y (e z))/\xs.any e=b:=by
 cases x with
 |str k=>
  exact boE h fun ys h1 h2=>by
   cases h2;obtain⟨a,b⟩:=Bc (k:=k) h1 hv;exact hx.strE (P:=fun y=>∃e:Value->Bool,(∀z∈xs,MeetsSeq.EqGives z y (e z))/\xs.any e=_) fun t=>⟨eqS (toS k),fun z hz=>(by
    rcases b z hz with ⟨z',t,rfl⟩|rfl
    ·exact eqGives_str _ _ _ _
    ·exact T2 _ _),a.1⟩
 |none=>
  exact boE h fun ys h1 h2=>by
   cases h2;obtain⟨a,b⟩:=Bc (k:=[]) h1 hv;exact hx.noneE (P:=fun y=>∃e:Value->Bool,(∀z∈xs,MeetsSeq.EqGives z y (e z))/\xs.any e=_) ⟨eqO,fun z hz=>(by
    rcases b z hz with ⟨z',t,rfl⟩|rfl
    ·exact Tz _ _
    ·exact AP),a.2⟩
 |int k=>
  exact boE h fun ys h1 h2=>by
   cases h2;obtain⟨a,b⟩:=A6 (k:=k) h1 hv;exact hx.intE (P:=fun y=>∃e:Value->Bool,(∀z∈xs,MeetsSeq.EqGives z y (e z))/\xs.any e=_) fun t=>⟨eqI k,fun z hz=>(by obtain⟨z',t,rfl⟩:=b z hz;exact MeetsSeq.EqGives.int _ _ _ _),a⟩
 |_=>exact nn h

def IsB(x y:Value)(q:Bool):Prop:=plainIs x y=true/\(x==y)=q
theorem Ec{a x q}{F ρ}(h:W9 a=some q)(hx:VR c F ρ a x):IsB x .none q:=
 VR.rec (motive_1:=fun a x J=>W9 a=some q->IsB x .none q) (motive_2:=fun J J J=>True) (fun h=>aY h▸⟨rfl,rfl⟩) (fun J h=>aY h▸⟨rfl,rfl⟩) (fun J J h=>aY h▸⟨rfl,rfl⟩) (fun J J h=>aY h▸⟨rfl,rfl⟩) (fun J J J J J h=>aY h▸⟨rfl,rfl⟩) (fun J J J h=>aY h▸⟨rfl,rfl⟩)
  (fun J J J J J J h=>nn h) (fun J h=>aY h▸⟨rfl,rfl⟩) (fun J h=>nn h) (fun J h=>nn h) (fun J J J h=>nn h) trivial (fun J J J J=>trivial) hx h
theorem Ed{a x q}{F ρ}(h:W9 a=some q)(hx:VR c F ρ a x):IsB .none x q:=
 VR.rec (motive_1:=fun a x J=>W9 a=some q->IsB .none x q) (motive_2:=fun J J J=>True) (fun h=>aY h▸⟨rfl,rfl⟩) (fun J h=>aY h▸⟨rfl,rfl⟩) (fun J J h=>aY h▸⟨rfl,rfl⟩) (fun J J h=>aY h▸⟨rfl,rfl⟩) (fun J J J J J h=>aY h▸⟨rfl,rfl⟩) (fun J J J h=>aY h▸⟨rfl,rfl⟩)
  (fun J J J J J J h=>nn h) (fun J h=>aY h▸⟨rfl,rfl⟩) (fun J h=>nn h) (fun J h=>nn h) (fun J J J h=>nn h) trivial (fun J J J J=>trivial) hx h
theorem Z0{a b x y q}{F ρ}(h:isV a b=some q)(hx:VR c F ρ a x)(hy:VR c F ρ b y):IsB x y q:=by
 have key:O4 a b=some q->IsB x y q:=fun h=>by
  unfold O4 at h;cases hb:b.isNone with
  |true=>rw[hb] at h;cases b<;>first|exact ff hb|exact hy.noneE (P:=fun y=>IsB x y q) (Ec h hx)
  |false=>rw[hb] at h;exact gdE h fun h1 h2=>by cases a<;>first|exact ff h1|exact hx.noneE (P:=fun x=>IsB x y q) (Ed h2 hy)
 cases a with
 |bool p=>
  exact hx.boolE (P:=fun x=>IsB x y q) (by
   cases b with
   |none=>cases h;exact hy.noneE ⟨rfl,rfl⟩
   |bool p'=>cases h;exact hy.boolE (P:=fun y=>IsB _ y _) ⟨rfl,by cases p<;>cases p'<;>rfl⟩
   |_=>exact nn h)
 |_=>exact key h

def EqM(c:Cx)(A:Around)(s:Shared)(x y:Value):Prop:=∀(E:Value->Shared->Prop) (Q:Bool->Shared->Prop),Q true s->wpAny c.M A (PySem.eqBool x y) Q E s
def RcM(c:Cx)(A:Around)(s:Shared)(x y:Value):Prop:=∀(E:Value->Shared->Prop) (Q:Value->Shared->Prop),Q (.bool true) s->wpAny c.M A (richCompare .Eq x y) Q E s
theorem EqM.of{A x y b}(h:SeqAt.EqAt A s x y b)(hb:b=true):EqM c A s x y:=fun E Q q=>h _ _ E Q (hb▸q)
theorem EqM.refs{A a b}(h:RcM c A s (.ref a) (.ref b)):EqM c A s (.ref a) (.ref b):=by
 by_cases e:a=b
 ·subst e;exact EqM.of (SeqAt.EqAt.same _) rfl
 ·intro E Q q
  unfold PySem.eqBool;refine qD ?_;rw[aN fun h=>e (Value.ref.inj (bE h))]
  exact qB (h _ _ (bK q))
open AutoSeq1 (wpAny_loadPart') in
open MeetsSeq MeetsSeq2 MeetsSeq3 SeqRoads2 in
theorem FD(l b items e7 n n2)(hsz:items.size=e7.size)(k):
  ∀i:Nat,items.size-i=k->∀(A:Around) (R:Result->Shared->Prop) (s:Shared),IsL s.heap l items n->IsL s.heap b e7 n2 ->
   (∀j (h1:j<items.size) (h2:j<e7.size),EqM c A.in1 s items[j] e7[j])->R (.ok (.ret (.bool true))) s ->
   wpAny c.M A.in1 (Builtin.«list.__eq__.loop» ⟨[.ref l,.ref b,rawInt i,rawInt 2],[]⟩) (fun fin s'=>match fin with|.done f=>R (.ok f) s'|.again c'=>c'.quiet=true/\codeAny c.M A c' R s') (fun e s'=>R (.error e) s') s:=by
 induction k with
 |zero=>
  intro i hk A R s hl hb he h;obtain⟨hp,g,d,tk,os⟩:=s
  wp_walk using wpAny_loadPart' hl,wpAny_loadPart' hb
  have hi1:items[((i:Nat):Int).toNat]?=none:=Array.getElem?_eq_none (Nat.le_of_sub_eq_zero hk);have hi2:e7[((i:Nat):Int).toNat]?=none:=Array.getElem?_eq_none (qA (qU hsz.symm) (Nat.le_of_sub_eq_zero hk));rw[hi1,hi2]
  wp_walk using wpAny_loadPart' hl,wpAny_loadPart' hb
  show R (.ok (.ret (.bool (items.size==e7.size)))) _;rw[hsz,aS];exact h
 |succ k ih=>
  intro i hk A R s hl hb he h;obtain⟨hp,g,d,tk,os⟩:=s
  wp_walk using wpAny_loadPart' hl,wpAny_loadPart' hb
  have fG:i<items.size:=Nat.lt_of_sub_eq_succ hk;have hlt2:i<e7.size:=Nat.lt_of_lt_of_eq fG hsz;have hi1:items[((i:Nat):Int).toNat]?=some items[i]:=bB fG;have hi2:e7[((i:Nat):Int).toNat]?=some e7[i]:=bB hlt2;have hc:((i:Int)+1)=((i+1:Nat):Int):=rfl;rw[hi1,hi2];refine qB (he i fG hlt2 _ _ ?_)
  wp_walk
  rw[hc];exact⟨plainId_quiet plain_eq_loop _,codeAny_builtin entry_eq_loop (by
   rw[Around.under_plainId plain_eq_loop _];exact ih (i+1) ((Nat.sub_add_eq items.size i 1).trans (aM (·-1) hk)) A R _ hl hb he h)⟩
open AutoSeq1 (wpAny_loadPart') in
open MeetsSeq MeetsSeq2 MeetsSeq3 SeqRoads2 in
theorem EZ{l b items e7 n n2}(hsz:items.size=e7.size){A}{R:Result->Shared->Prop}{s}(hl:IsL s.heap l items n)(hb:IsL s.heap b e7 n2)
  (he:∀j (h1:j<items.size) (h2:j<e7.size),EqM c A.in1 s items[j] e7[j]) (h:R (.ok (.ret (.bool true))) s):
  wpAny c.M A.in1 (Builtin.«list.__eq__» ⟨[.ref l,.ref b],[]⟩) (fun fin s'=>match fin with|.done f=>R (.ok f) s'|.again c'=>c'.quiet=true/\codeAny c.M A c' R s') (fun e s'=>R (.error e) s') s:=by
 obtain⟨hp,g,d,tk,os⟩:=s;have f3:=AutoSeq1.sub_list_list;have hne:¬(items.size != e7.size)=true:=by simp [hsz]
 wp_walk using wpAny_loadPart' hl,wpAny_loadPart' hb
 exact⟨plainId_quiet plain_eq_loop _,codeAny_builtin entry_eq_loop (by
  rw[Around.under_plainId plain_eq_loop _];exact FD l b items e7 n n2 hsz _ 0 rfl A R _ hl hb he h)⟩
theorem RcM.lists{l b items e7 n n2 A}(hl:IsL s.heap l items n)(hb:IsL s.heap b e7 n2)(hsz:items.size=e7.size)(hu:A.units<cLine)
  (he:∀j (h1:j<items.size) (h2:j<e7.size),EqM c A.in1 s items[j] e7[j]):RcM c A s (.ref l) (.ref b):=fun E Q h=>
 cY (op:=.Eq) ⟨_,hl,rfl⟩ ⟨_,hb,rfl⟩ F.slot_list_eq
  (dB (codeAny_call_builtin F.slot_list_eq.plain F.entry_list_eq (F.slot_list_eq.check _ _ _ _ _ _ _ _ ⟨_,hl,rfl⟩ (F.args_list_eq_2 _ _)
   (EZ (R:=wants (fun v s'=>v≠.notImplemented/\Q v s') E) hsz hl hb he (show _/\_ from ⟨(fun x=>nomatch x),h⟩))))) hu
open AutoSeq1 (wpAny_loadPart') in
open MeetsSeq MeetsSeq2 MeetsSeq3 SeqRoads2 in
theorem EY{l b items e7 n n2}(hsz:items.size≠e7.size){A}{R:Result->Shared->Prop}{s}(hl:IsL s.heap l items n)(hb:IsL s.heap b e7 n2)(h:R (.ok (.ret (.bool false))) s):
  wpAny c.M A.in1 (Builtin.«list.__eq__» ⟨[.ref l,.ref b],[]⟩) (fun fin s'=>match fin with|.done f=>R (.ok f) s'|.again c'=>c'.quiet=true/\codeAny c.M A c' R s') (fun e s'=>R (.error e) s') s:=by
 obtain⟨hp,g,d,tk,os⟩:=s;have f3:=AutoSeq1.sub_list_list;have hne:(items.size != e7.size)=true:=bne_iff_ne.mpr hsz
 wp_walk using wpAny_loadPart' hl,wpAny_loadPart' hb
 exact h
theorem RcF.lists{l b items e7 n n2 A}(hl:IsL s.heap l items n)(hb:IsL s.heap b e7 n2)(hsz:items.size≠e7.size)(hu:A.units<cLine)(E Q:Value->Shared->Prop)(h:Q (.bool false) s):wpAny c.M A (richCompare .Eq (.ref l) (.ref b)) Q E s:=
 cY (op:=.Eq) ⟨_,hl,rfl⟩ ⟨_,hb,rfl⟩ F.slot_list_eq
  (dB (codeAny_call_builtin F.slot_list_eq.plain F.entry_list_eq (F.slot_list_eq.check _ _ _ _ _ _ _ _ ⟨_,hl,rfl⟩ (F.args_list_eq_2 _ _)
   (EY (R:=wants (fun v s'=>v≠.notImplemented/\Q v s') E) hsz hl hb (show _/\_ from ⟨(fun x=>nomatch x),h⟩))))) hu
theorem Al{kvs:List (Str×Value)}(hn:(kvs.map (·.1)).Nodup){j:Nat}{k:Str}{y:Value}(h:kvs[j]?=some (k,y)):valueAt kvs k=some y:=by
 induction kvs generalizing j with
 |nil=>simp at h
 |cons kv r ih=>
  rw[List.map_cons,cC] at hn;unfold valueAt;rw[bq];cases j with
  |zero=>simp at h;subst h;simp
  |succ j=>
   simp at h;have hm:k∈r.map (·.1):=ak.mpr ⟨(k,y),bC h,rfl⟩
   have:¬kv.1=k:=fun e=>hn.1 (e▸hm)
   rw[an this];exact ih hn.2 h
theorem As{nm a b ka kb}{Q:Bool->Shared->Prop}(ha:(a==sysModules)=false)(hb:(b==sysModules)=false)
  (da:s.heap.DictOf (strKind c.prog c.w) a ka) (db:s.heap.DictOf (strKind c.prog c.w) b kb) (hk:ka.map (·.1)=kb.map (·.1))
  (he:∀(j:Nat) x y,(ka.map (·.2))[j]?=some x->(kb.map (·.2))[j]?=some y->EqM c A s x y) (h:Q true s):
  wpAny c.M A (Builtin.Dict.samePairs nm a b) Q E s:=by
 obtain⟨oa,es,ep,hoa,_,hda,hka,hpa,_⟩:=da;obtain⟨ob,es',ep',hob,_,hdb,hkb,hpb,hnd⟩:=db;have sa:ka.length=es.size:=by rw[<- hpa.length,ba]
 have sb:kb.length=es'.size:=by rw[<- hpb.length,ba]
 have sab:ka.length=kb.length:=by
  have:=aM List.length hk;rw[aP,aP] at this;exact this
 have hf:∀k,findBy (strKind c.prog c.w).is es' k=valueAt kb k:=fun k=>by
  rw[<- hpb.find k];obtain⟨l⟩:=es';simp [findBy]
 delta Builtin.Dict.samePairs Builtin.Dict.showsAll;dsimp only;rw[ha,hb];simp only[Bool.false_eq_true,if_false];refine qB (qC (qB (qC (qB (dE hoa hda ?_)))));refine qB (dE hob hdb ?_);rw[aN (by rw[<- sa,<- sb,sab];simp)]
 refine qB (wpAny_dictEpoch hoa hda (qB ?_));rw[Std.Legacy.Range.forIn_eq_forIn_range'];simp only[Std.Legacy.Range.size,Nat.sub_zero,Nat.add_sub_cancel,Nat.div_one];refine wpAny_forIn_list _ (fun fR q s'=>s'=s/\q=(none,())/\∃i,fR=List.range' i (es.size-i)) _ ?_ ?_ _ _ ⟨rfl,rfl,0,by simp⟩
 ·rintro x fR q s' ⟨rfl,rfl,i,hr⟩
  have fG:i<es.size:=by
   by_cases z:i<es.size
   ·exact z
   ·rw[Nat.sub_eq_zero_of_le (dI z)] at hr;cases hr
  have z:es.size-i=(es.size-(i+1))+1:=((aM (·+1) (Nat.sub_add_eq es.size i 1)).trans (Nat.sub_add_cancel (Nat.sub_pos_of_lt fG))).symm
  rw[z,List.range'_succ] at hr
  injection hr with e1 e2
  subst e1;refine qB (dE hoa hda ?_);rw[bB fG];have l1:x<ka.length:=sa▸fG;have l2:x<kb.length:=sab▸l1;have hkey:ka[x].1=kb[x].1:=by
   have:=aM (fun l=>l[x]?) hk
   rw[bV,bV,ah l1,ah l2] at this;exact aY this
  obtain⟨hq,hv⟩:=hpa.get? (i:=x) (e:=es[x]) (k:=ka[x].1) (v:=ka[x].2) (by rw[bQ];exact bB fG) (by rw[ah l1])
  obtain⟨k',hk',hh⟩:=hka es[x] (Array.getElem_mem fG);rw[(strKind c.prog c.w).inj _ _ _ hk' hq] at hh;show wpAny _ _ (holding [es[x].key,es[x].val] _ >>= _) _ _ _;rw[hh];refine qB (qD (qB (wpAny_dictFind_of hq hob hdb hkb ?_)));have hval:valueAt kb ka[x].1=some kb[x].2:=Al hnd (j:=x) (by rw[hkey,ah l2])
  rw[<- hf,findBy_of_findIdx?] at hval;cases hj:es'.findIdx? fun e=>(strKind c.prog c.w).is ka[x].1 e.key with
  |none=>rw[hj] at hval;cases hval
  |some j=>
   rw[hj] at hval;obtain⟨jl,_,_⟩:=Array.findIdx?_eq_some_iff_getElem.mp hj;refine qB (dE hob hdb ?_);rw[bB jl];have ey:es'[j].val=kb[x].2:=by simpa [Array.getElem?_eq_getElem jl] using hval
   have hE:=he x ka[x].2 kb[x].2 (by rw[bV,ah l1];rfl) (by rw[bV,ah l2];rfl)
   rw[<- ey,<- hv] at hE;refine qD (hE _ _ ?_);show wpAny _ _ (if (!true)=true then _ else _) _ _ _;rw[aN (by decide)]
   refine qB (wpAny_dictEpoch hoa hda ?_);rw[aN (by simp)]
   exact qC ⟨rfl,rfl,x+1,e2⟩
 ·rintro q s' ⟨rfl,rfl,_⟩
  exact qC h
theorem RcM.dicts{a b ka kb}(ha:(a==sysModules)=false)(hb:(b==sysModules)=false)
  (da:s.heap.DictOf (strKind c.prog c.w) a ka) (db:s.heap.DictOf (strKind c.prog c.w) b kb) (hu:A.units<cLine) (hk:ka.map (·.1)=kb.map (·.1))
  (he:∀(j:Nat) x y,(ka.map (·.2))[j]?=some x->(kb.map (·.2))[j]?=some y->EqM c A.in1 s x y):RcM c A s (.ref a) (.ref b):=fun E Q h=>by
 refine cY (op:=.Eq) da.typeIs db.typeIs PySem.F.slot_dict_eq (eI PySem.F.slot_dict_eq da.typeIs PySem.F.entry_dict_eq ?_ (PySem.F.args_dict_eq_2 _ _)) hu;show wpAny _ _ (Builtin.Dict.dictSlotArgs "__eq__" ⟨[.ref a,.ref b],[]⟩ >>= _) _ _ s;refine qB ?_;unfold Builtin.Dict.dictSlotArgs;refine qB (wpAny_notOrdered_dict da.typeIs ?_);show wpAny _ _ (pure (Value.ref a,Value.ref b)) _ _ s;refine qC (qB (wpAny_isInstance (T:="dict") db.typeIs PySem.F.sub_dict_dict ?_));rw[aN (by decide)]
 exact qB (qC (qB (qC (qB (As ha hb da db hk he (qC ⟨_,rfl,(fun x=>nomatch x),h⟩))))))
theorem Yt{u d L}(h:u+2*(d+1)+2<L):u+1+2*d+2<L/\u<L:=⟨qL (qO (by rw[aX,aW 1];exact qI (xC _) u) 2) h,qL (qA (qK u _) (qK _ 2)) h⟩
theorem Bv{u a b L}(h:u+2*max a b+2<L):u+2*a+2<L/\u+2*b+2<L:=⟨qL (qO (qI (xA 2 (Nat.le_max_left a b)) u) 2) h,qL (qO (qI (xA 2 (Nat.le_max_right a b)) u) 2) h⟩
def Sm(c:Cx)(s:Shared)(v:Vv):Prop:=∀⦃A:Around⦄ ⦃F ρ⦄ ⦃x y:Value⦄,(∀a o,F a o->s.heap.get? a=some o)->A.units+2*dep v+2<cLine->BB v=true->VR c F ρ v x->VR c F ρ v y->EqM c A s x y
def Sms(c:Cx)(s:Shared)(l:List Vv):Prop:=∀⦃A:Around⦄ ⦃F ρ⦄ ⦃xs ys:List Value⦄,(∀a o,F a o->s.heap.get? a=some o)->A.units+2*deps l+2<cLine->datVs l=true->VRs c F ρ l xs->VRs c F ρ l ys ->
  ∀(j:Nat) x y,xs[j]?=some x->ys[j]?=some y->EqM c A s x y
theorem Zb{items:Array Value}{j}(h:j<items.size):items.toList[j]?=some items[j]:=by rw[bQ];exact bB h
theorem F0{l}(ih:Sms c s l):Sm c s (.list l):=fun A F ρ x y hF hu hd h1 h2=>h1.listE fun a1 i1 n1 f1 r1=>h2.listE (P:=fun y=>EqM c A s _ y) fun a2 i2 n2 f2 r2=>
 EqM.refs (RcM.lists (hF _ _ f1) (hF _ _ f2) ((Jf r1).trans (Jf r2).symm) (Yt hu).2 fun j h1 h2=>ih hF (A:=A.in1) (Yt hu).1 hd r1 r2 j _ _ (Zb h1) (Zb h2))
theorem F2{ks l}(ih:Sms c s l):Sm c s (.dict ks l):=fun A F ρ x y hF hu hd h1 h2=>h1.dictE fun a1 o1 k1 f1 d1 e1 r1 s1=>h2.dictE (P:=fun y=>EqM c A s _ y) fun a2 o2 k2 f2 d2 e2 r2 s2=>
 EqM.refs (RcM.dicts s1 s2 (bR.mpr ⟨_,hF _ _ f1,d1⟩) (bR.mpr ⟨_,hF _ _ f2,d2⟩) (Yt hu).2 (e1.trans e2.symm) (ih hF (A:=A.in1) (Yt hu).1 hd r1 r2))
theorem F3{v l}(h:Sm c s v)(ih:Sms c s l):Sms c s (v::l):=fun A F ρ xs ys hF hu hd h1 h2 j x y e1 e2=>bA hd fun d1 d2=>h1.consE (P:=fun xs=>xs[j]?=some x->_) (fun x' xs a1 b1 e1=>h2.consE (P:=fun ys=>ys[j]?=some y->_) (fun y' ys a2 b2 e2=>by
 cases j with
 |zero=>cases e1;cases e2;exact h hF (Bv hu).1 d1 a1 a2
 |succ j=>exact ih hF (Bv hu).2 d2 b1 b2 j x y e1 e2) e2) e1
theorem CW(v):Sm c s v:=
 Vv.rec (motive_1:=Sm c s) (motive_2:=Sms c s) (fun J J J J J J J J h1 h2=>h1.noneE (h2.noneE (EqM.of (.same _) rfl))) (fun J J J J J J J J J h1 h2=>h1.boolE (h2.boolE (EqM.of (.same _) rfl)))
  (fun i J J J J J J J J h1 h2=>h1.intE fun t=>h2.intE fun u=>EqM.of (.int_int i t i u) (aS i)) (fun x J J J J J J J J h1 h2=>h1.strE fun t=>h2.strE fun u=>EqM.of (.str_str (toS x) t (toS x) u) (aS _))
  (fun J J J J J J J J J h=>ff h) (fun J=>F0) (fun J J=>F2) (fun J J J J J J J J h=>ff h) (fun J J J J J J J J h=>ff h) (fun J J J J J J J J J J h=>ff h) (fun J J J J J J J J J h=>ff h)
  (fun J J J J J J J J h1 h2 J J J e=>h1.nilE (P:=fun xs=>xs[_]?=some _->_) (fun e=>nn e) e) (fun J J=>F3) v
theorem B1{a b x y q}{Q:Value->Shared->Prop}(hr:JM env A r)(h:N9 U a b=some q)(R:Rel c env g U s)(hx:Vx c env g s a x)(hy:Vx c env g s b y)(hq:Q (.bool q) s):wpAny c.M A (compareOp .Eq x y) Q E s:=
 Uc (P:=fun x=>wpAny c.M A (compareOp .Eq x y) Q E s) R h hx fun l a1 i1 n1 h hi1 hv1=>Uc (P:=fun y=>wpAny c.M A (compareOp .Eq _ y) Q E s) R h hy fun l' a2 i2 n2 h hi2 hv2=>by
  cases hb:Nat.beq l.length l'.length with
  |false=>
   cases (show some false=some q by rw[<- h,hb];rfl)
   exact RcF.lists hi1 hi2 (fun e=>by rw[(Jf hv1).symm.trans (e.trans (Jf hv2)),dA] at hb;exact nomatch hb) hr.units E Q hq
  |true=>
   exact gdE (show gd (Vv.beqs l l'&&l.all XU) (some true)=some q by rw[<- h,hb];rfl) fun h1 h2=>bA h1 fun e hrow=>by
    cases h2;cases Vv.eq_of_beqs e;refine RcM.lists hi1 hi2 ((Jf hv1).trans (Jf hv2).symm) hr.units (fun j h1 h2=>?_) E Q hq
    have hj:j<l.length:=Jf hv1▸h1;obtain⟨x1,g1,r1⟩:=hv1.get (ah hj);obtain⟨x2,g2,r2⟩:=hv2.get (ah hj);cases (Zb h1).symm.trans g1;cases (Zb h2).symm.trans g2;exact bA (aq.mp hrow _ (List.getElem_mem hj)) fun d1 d2=>CW _ (fun a o z=>z.1) (qL (qO (qI (xA 2 (qE d2)) _) 2) (hr.add (k:=1+(2*50+2)) (by decide):A.units+1+2*50+2<cLine)) d1 r1 r2

noncomputable def JR:Cmp->CmpOp
 |.eq=>.Eq|.ne=>.NotEq|.lt=>.Lt|.le=>.LtE|.gt=>.Gt|.ge=>.GtE|.inn=>.In|.nin=>.NotIn|.is=>.Is|.isn=>.IsNot

def EqN(c:Cx)(A:Around)(s:Shared)(x y:Value)(q:Bool):Prop:=∀(E:Value->Shared->Prop) (Q:Value->Shared->Prop),(Q (.bool q) s->wpAny c.M A (compareOp .Eq x y) Q E s)/\(Q (.bool (!q)) s->wpAny c.M A (compareOp .NotEq x y) Q E s)
theorem ZH{a b x y q}{F ρ}(h:BA a b=some q)(hx:VR c F ρ a x)(hy:VR c F ρ b y):EqN c A s x y q:=by
 cases a with
 |none=>cases b with
  |none=>cases h;exact hx.noneE (hy.noneE fun J J=>⟨EqNone.eq_none_none,EqNone.ne_none_none⟩)
  |str z=>cases h;exact hx.noneE (hy.strE fun J J J=>⟨EqNone.eq_none_str,EqNone.ne_none_str⟩)
  |_=>exact nn h
 |int i=>exact QM (P:=fun b=>VR c F ρ b y->EqN c A s x y q) h (fun j h hy=>by cases h;exact hx.intE (P:=fun x=>EqN c A s x y _) fun J=>hy.intE (P:=fun y=>EqN c A s _ y _) fun J J J=>⟨P.eq_int,P.ne_int⟩) hy
 |str z=>cases b with
  |none=>cases h;exact hx.strE (P:=fun x=>EqN c A s x y _) fun J=>hy.noneE (P:=fun y=>EqN c A s _ y _) fun J J=>⟨EqNone.eq_str_none,EqNone.ne_str_none⟩
  |str z'=>cases h;exact hx.strE (P:=fun x=>EqN c A s x y _) fun J=>hy.strE (P:=fun y=>EqN c A s _ y _) fun J J J=>⟨fun hq=>P.eq_str hq,fun hq=>P.ne_str hq⟩
  |_=>exact nn h
 |_=>exact nn h
theorem Gp{b y q}{F ρ}(h:Of b=some q)(hy:VR c F ρ b y)(hF:∀a o,F a o->s.heap.get? a=some o):∃a t u,y=.ref a/\s.heap.IsTuple a #[.int q.1 t,.int q.2 u]:=by
 cases b<;>first|exact nn h|skip
 cases l with
 |nil=>exact nn h
 |cons v r=>
  cases r with
  |nil=>exact nn h
  |cons w r=>
   cases r with
   |cons _ _=>exact nn h
   |nil=>
    exact Wm (P:=fun v=>VR c F ρ (.tup [v,w]) y->_) h (fun i h=>Wm (P:=fun w=>VR c F ρ (.tup [.int i,w]) y->_) h fun j h hy=>by
     cases h;exact hy.tupE fun a o items n hf hc hd hv=>by
      have:∃t u,items.toList=[.int i t,.int j u]:=by
       generalize items.toList=xs at hv;exact hv.twoE fun J J r1 r2=>r1.intE (P:=fun x=>∃t u,[x,_]=[Value.int i t,.int j u]) fun t=>r2.intE (P:=fun x=>∃t' u,[Value.int i t,x]=[Value.int i t',.int j u]) fun u=>⟨t,u,rfl⟩
      obtain⟨t,u,e⟩:=this;exact⟨a,t,u,rfl,⟨o,hF _ _ hf,hc,n,by rw[hd];exact aM (Data.seq · n) (Array.toList_inj.mp e)⟩⟩) hy
theorem VN{a b x y q}{Q:Value->Shared->Prop}(hr:JM env A r)(h:eqV U a b=some q)(R:Rel c env g U s)(hx:Vx c env g s a x)(hy:Vx c env g s b y)(hq:Q (.bool q) s):wpAny c.M A (compareOp .Eq x y) Q E s:=by
 cases a with
 |bool p=>cases b with
  |bool p'=>cases h;exact hx.boolE (hy.boolE (PyProof.Rows.eq_bool hq))
  |_=>exact nn h
 |tup l=>
  exact boE h fun u h1 h=>boE h fun w h2 h=>by
   cases h;obtain⟨a1,t1,u1,rfl,i1⟩:=Gp (s:=s) h1 hx fun J J z=>z.1
   obtain⟨a2,t2,u2,rfl,i2⟩:=Gp (s:=s) h2 hy fun J J z=>z.1
   refine SeqAt.eq_tupleAt (e:=fun j=>match j with|0=>u.1==w.1|_=>u.2==w.2) i1 i2 hr.units (fun j h1 h2=>?_) ?_
   ·cases j with
    |zero=>exact SeqAt.EqAt.int_int _ _ _ _
    |succ j=>
     cases j with
     |zero=>exact SeqAt.EqAt.int_int _ _ _ _
     |succ j=>exact absurd h1 (bM.mpr (bS 2 j))
   ·have:((List.range (min 2 2)).all (fun j=>match j with|0=>u.1==w.1|_=>u.2==w.2)&&(2:Nat)==2)=(u.1==w.1&&u.2==w.2):=by
     show ((u.1==w.1&&(u.2==w.2&&true))&&true)=_;rw[bu,bu]
    exact this▸hq
 |list l=>exact B1 hr h R hx hy hq
 |obj i=>exact B1 hr h R hx hy hq
 |none=>exact(ZH (a:=.none) (b:=b) h hx hy E Q).1 hq
 |int i=>exact(ZH (a:=.int i) (b:=b) h hx hy E Q).1 hq
 |str z=>exact(ZH (a:=.str z) (b:=b) h hx hy E Q).1 hq
 |_=>exact nn h

theorem ZJ{f a b x y q}{F ρ}{P:Value->Value->Bool->Prop}(h:Yh f a b=some q)(hx:VR c F ρ a x)(hy:VR c F ρ b y)(k:∀i j t u,P (.int i t) (.int j u) (f i j)):P x y q:=
 Wm (P:=fun a=>VR c F ρ a x->P x y q) h (fun i h hx=>Wm (P:=fun b=>VR c F ρ b y->P x y q) h (fun j h hy=>by cases h;exact hx.intE (P:=fun x=>P x y _) fun t=>hy.intE (P:=fun y=>P _ y _) fun u=>k i j t u) hy) hx
theorem HM{l a x y q}{Q:Bool->Shared->Prop}(h:Wr a l=some q)(hx:Vx c env g s a x)(hy:Vx c env g s (.tup l) y)(hq:Q q s):wpAny c.M A (PySem.contains y x) Q E s:=
 hy.tupE fun a o items n f1 c1 d1 r1=>by
  obtain⟨e,he,e2⟩:=BY h r1 hx;exact Tw e ⟨_,f1.1,c1,_,d1⟩ he (args_tuple_contains _ _) (e2▸hq)
theorem R7(a b):(!decide ((toS [b]).cps.toList<(toS [a]).cps.toList))=decide (a<=b):=by
 show (!decide ([b]<[a]))=_;by_cases h:a<=b
 ·rw[aU h,an fun q=>(List.cons_lt_cons_iff.mp q).elim (fun h1=>bM.mpr h h1) fun h1=>absurd h1.2 (List.not_lt_nil _)];rfl
 ·rw[an h,aU (List.cons_lt_cons_iff.mpr (.inl (Nat.not_le.mp h)))];rfl
theorem Em{a b x y q}{Q:Value->Shared->Prop}(h:Qn U a b=some q)(R:Rel c env g U s)(hx:Vx c env g s a x)(hy:Vx c env g s b y)(hq:Q (.bool q) s):wpAny c.M A (compareOp .In x y) Q E s:=by
 cases b with
 |tup l=>
  show wpAny _ _ (do return .bool (<- PySem.contains y x)) Q E s
  exact qB (HM h hx hy (qC hq))
 |str z=>
  exact Ql (P:=fun a=>Vx c env g s a x->_) h (fun w h hx=>by
   cases h;have e:=Ah z w;unfold Txt.contains at e;exact hx.strE (P:=fun x=>wpAny c.M A (compareOp .In x y) Q E s) fun J=>hy.strE (P:=fun y=>wpAny c.M A (compareOp .In _ y) Q E s) fun J=>PySem.P.in_str (by rw[e];exact hq)) hx
 |obj id=>
  exact Xu (P:=fun b=>Vx c env g s b y->_) (show onList U (.obj id) (fun J l=>Wr a l)=some q from h) (fun id l ho h hy=>hy.objE fun a ha=>by
   obtain⟨items,n,hi,hv⟩:=IG R ho ha;obtain⟨e,he,e2⟩:=BY h hv hx;exact SeqInW.in_listW e (fun y hy=>he y (cf.mpr hy)) hi.isList (by rw[<- Array.any_toList,e2];exact hq)) hy
 |_=>exact nn h
theorem No{o a b x y q}{Q:Value->Shared->Prop}(hr:JM env A r)(h:QQ U o a b=some q)(R:Rel c env g U s)(hx:Vx c env g s a x)(hy:Vx c env g s b y)(hq:Q (.bool q) s):wpAny c.M A (compareOp (JR o) x y) Q E s:=by
 cases o with
 |eq=>exact VN hr h R hx hy hq
 |ne=>exact boE h fun q' h1 h2=>by cases h2;exact(ZH h1 hx hy E Q).2 hq
 |lt=>cases a with
  |str z=>exact Ql (P:=fun b=>Vx c env g s b y->_) h (fun w h hy=>by
    cases h;exact hx.strE (P:=fun x=>wpAny c.M A (compareOp .Lt x y) Q E s) fun t=>hy.strE (P:=fun y=>wpAny c.M A (compareOp .Lt _ y) Q E s) fun u=>compareOp_gives (op:=.Lt) (dS s _ t) (dS s _ u) F.slot_str_lt F.entry_str_lt (F.args_str_lt_2 _ _) (gives_str_lt (toS z) (toS w) t u) (fun e=>nomatch e) hq) hy
  |int i=>exact ZJ (a:=.int i) (P:=fun x y q=>Q (.bool q) s->wpAny c.M A (compareOp .Lt x y) Q E s) h hx hy (fun J J J J=>P.lt_int) hq
  |_=>exact nn h
 |le=>cases a with
  |int i=>exact ZJ (P:=fun x y q=>Q (.bool q) s->wpAny c.M A (compareOp .LtE x y) Q E s) h hx hy (fun J J J J=>P.le_int) hq
  |str z=>
   exact Z7 (P:=fun a=>Vx c env g s a x->_) h (fun i h hx=>Z7 (P:=fun b=>Vx c env g s b y->_) h (fun j h hy=>by
    cases h;exact hx.strE (P:=fun x=>wpAny c.M A (compareOp .LtE x y) Q E s) fun J=>hy.strE (P:=fun y=>wpAny c.M A (compareOp .LtE _ y) Q E s) fun J=>P.le_str (by rw[R7];exact hq)) hy) hx
  |_=>exact nn h
 |gt=>exact ZJ (P:=fun x y q=>Q (.bool q) s->wpAny c.M A (compareOp .Gt x y) Q E s) h hx hy (fun J J J J=>P.gt_int) hq
 |ge=>exact ZJ (P:=fun x y q=>Q (.bool q) s->wpAny c.M A (compareOp .GtE x y) Q E s) h hx hy (fun J J J J=>P.ge_int) hq
 |inn=>exact Em h R hx hy hq
 |nin=>cases b with
  |tup l=>
   exact boE h fun q' h1 h2=>by
    cases h2;show wpAny _ _ (do return .bool (!(<- PySem.contains y x))) Q E s
    exact qB (HM h1 hx hy (qC hq))
  |_=>exact nn h
 |is=>exact wpAny_is_plain (Z0 h hx hy).1 ((Z0 h hx hy).2▸hq)
 |isn=>exact boE h fun q' h1 h2=>by cases h2;exact wpAny_isNot_plain (Z0 h1 hx hy).1 ((Z0 h1 hx hy).2▸hq)
theorem MM{x}:∀{kvs:List (Str×Value)} {ks:List LN},kvs.map (·.1)=ks.map toS->(valueAt kvs (toS x)).isSome=ks.any (·==x):=by
 intro kvs;induction kvs with
 |nil=>
  intro ks h;cases ks with
  |nil=>rfl
  |cons _ _=>exact nomatch h
 |cons kv kvs ih0=>
  intro ks h;cases ks with
  |nil=>exact nomatch h
  |cons k ks=>
   have ih:=ih0 (qS h).2;unfold valueAt at ih ⊢;have hk:kv.1=toS k:=(qS h).1;rw[bq,bG,hk];by_cases e:k=x
   ·subst e
    rw[aU rfl,aS];rfl
   ·rw[an fun q=>e (U0 q),bX e,Bool.false_or];exact ih
theorem Gd{o a b x y q}{Q:Value->Shared->Prop}(hr:JM env A r)(h:Xh U o a b=some q)(R:Rel c env g U s)(hx:Vx c env g s a x)(hy:Vx c env g s b y)(hq:∀t,0<t->Q (.bool q) { s with toks:=t }):wpAny c.M A (compareOp (JR o) x y) Q E s:=by
 have old:QQ U o a b=some q->wpAny c.M A (compareOp (JR o) x y) Q E s:=fun h=>No hr h R hx hy (hq s.toks R.pos)
 cases o with
 |inn=>
  cases b with
  |dict ks vs=>
   exact Ql (P:=fun a=>Vx c env g s a x->_) (show onStr a (fun x=>some (ks.any (·==x)))=some q from h) (fun z h hx=>by
    cases h;exact hy.dictE fun a o kvs f d e hk hs=>hx.strE (P:=fun x=>wpAny c.M A (compareOp .In x (.ref a)) Q E s) fun t=>wpAny_in_of (k:=toS z) (knd:=strKind c.prog c.w) (aS (toS z)) hs (Heap.DictOf.mapOf (bR.mpr ⟨_,f.1,d⟩)) (by rw[MM e];exact hq _ (xD _))) hx
  |_=>exact old h
 |_=>exact old h
end
section
variable{c:Cx}{r:Nat}{env:Nv}{A:Around}{U U':St}{g:Gh}{s:Shared}{E:Value->Shared->Prop}{Q:Value->Shared->Prop}{v:Vv}

theorem Qb(h:Heap)(o):∀b p,h.get? b=some p->(h.push o).get? b=some p:=fun J J e=>qZ _ e
theorem Vx.push{o t v x}(h:Vx c env g s v x):Vx c env g { s with heap:=s.heap.push o,toks:=t } v x:=
 h.ext (Ext.grow (s':={ s with heap:=s.heap.push o,toks:=t }) (Qb s.heap o) rfl)
theorem Vxs.push{o t v x}(h:Vxs c env g s v x):Vxs c env g { s with heap:=s.heap.push o,toks:=t } v x:=
 h.ext (Ext.grow (s':={ s with heap:=s.heap.push o,toks:=t }) (Qb s.heap o) rfl)
theorem Nxt.push{o t x}(N:Nxt c env g s v U Q)(R:Rel c env g U s)(h:Vx c env g { s with heap:=s.heap.push o,toks:=t } v x)(ht:0<t):Q x { s with heap:=s.heap.push o,toks:=t }:=
 N.grow R (s':={ s with heap:=s.heap.push o,toks:=t }) (Qb s.heap o) rfl h ht
theorem Nxt.newList{l items t n}(N:Nxt c env g s (.list l) U Q)(R:Rel c env g U s)(h:Vxs c env g s l items.toList)(ht:0<t):
  Q (.ref s.heap.objs.size) { s with heap:=s.heap.push { cls:=.type "list",dict:=none,data:=.seq items n,slots:=#[] },toks:=t }:=
 N.push R (.list (Wd R rfl) (Vxs.push (t:=t) h)) ht

theorem Bu{a b x y}(hf:(onListOf U a fun l=>onListOf U b fun l'=>bd (l.length+l'.length) (some (.list (l++l'))))=some v)(R:Rel c env g U s)(hx:Vx c env g s a x)(hy:Vx c env g s b y)(N:Nxt c env g s v U Q):wpAny c.M A (binaryOp .Add x y) Q E s:=
 Uc (P:=fun x=>wpAny c.M A (binaryOp .Add x y) Q E s) R hf hx fun l a1 i1 n1 h hi1 hv1=>Uc (P:=fun y=>wpAny c.M A (binaryOp .Add _ y) Q E s) R h hy fun l' a2 i2 n2 h hi2 hv2=>bdE h fun hl e=>by
  cases e;exact P.add_list hi1 hi2 (N.newList R (by rw[df];exact hv1.append hv2) R.pos) (by rw[Jf hv1,Jf hv2];exact hl)
theorem Gs{l:List Vv}{xs:Array Value}(h:Vxs c env g s l xs.toList)(n:(!l.isEmpty)=true):¬xs.isEmpty=true:=fun q=>by
 have hl:=Jf h;rw[eA.mp q] at hl;cases l with
 |nil=>cases n
 |cons=>cases hl
theorem PT{l m x y}(n1:(!l.isEmpty)=true)(n2:(!m.isEmpty)=true)(hl:l.length+m.length<=sizeLine)(R:Rel c env g U s)(hx:Vx c env g s (.tup l) x)(hy:Vx c env g s (.tup m) y)(N:Nxt c env g s (.tup (l++m)) U Q):wpAny c.M A (binaryOp .Add x y) Q E s:=
 hx.tupE (P:=fun x=>wpAny c.M A (binaryOp .Add x y) Q E s) fun a o i1 k1 h1 h2 h3 v1=>hy.tupE (P:=fun y=>wpAny c.M A (binaryOp .Add _ y) Q E s) fun b o' i2 k2 h1' h2' h3' v2=>by
  obtain⟨cl,dd,da,sl⟩:=o;obtain⟨cl',dd',da',sl'⟩:=o';cases h2;cases h3;cases h2';cases h3';exact concat_meets ⟨_,h1.1,rfl⟩ ⟨_,h1'.1,rfl⟩ noFill_tuple_add seq_tuple_add PySem.F.slot_tuple_add PySem.F.entry_tuple_add (PySem.F.args_tuple_add_2 _ _) (tuple_addW2 a b i1 i2 k1 k2 dd dd' sl sl' (Gs v1 n1) (Gs v2 n2) (by rw[Jf v1,Jf v2];exact hl))
   ⟨h1.1,h1'.1,N.push (t:=s.toks) R (.tup (Wd R rfl) rfl rfl (Vxs.push (by rw[df];exact v1.append v2))) R.pos⟩
theorem V3:Ww c env r (binaryOp .Add) (fun U=>Jk U .add):=fun A U a b v g s x y E Q hr hf R hx hy N=>by
 cases a with
 |int i=>exact QM (P:=fun b=>Vx c env g s b y->_) (show onInt b (fun b=>some (Vv.int (i+b)))=some v from hf) (fun j h hy=>by cases h;exact hx.intE fun t=>hy.intE fun u=>P.add_int (N.toks R (.int _ _))) hy
 |str z=>
  exact Ql (P:=fun b=>Vx c env g s b y->_) (show onStr b (fun b=>bd (z.length+b.length) (some (Vv.str (z++b))))=some v from hf) (fun w h hy=>bdE h fun hl e=>by
   cases e;exact hx.strE fun t=>hy.strE fun u=>Qj R.pos (add_str (fun t' tk ht=>Yv z w▸N.toks R (.str _ _) ht) (by rw[Jo,Jo];exact hl))) hy
 |tup l=>exact Ri (P:=fun b=>Vx c env g s b y->_) (show OI b (fun b=>gd (!l.isEmpty&&!b.isEmpty) (bd (l.length+b.length) (some (Vv.tup (l++b)))))=some v from hf) (fun m h hy=>gdE h fun h1 h=>bdE h fun hl e=>by
   cases e;exact bA h1 fun n1 n2=>PT n1 n2 hl R hx hy N) hy
 |list l=>exact Bu (a:=.list l) (b:=b) (U:=U) hf R hx hy N
 |obj i=>exact Bu (a:=.obj i) (b:=b) (U:=U) hf R hx hy N
 |_=>exact nn hf
theorem XN{β:Type}{rr:β}{a b:Vv}{x y:Value}{f:Int->Int->Option β}{P:Value->Value->Prop}{F ρ}(h:(onInt a fun a=>onInt b fun b=>f a b)=some rr)(hx:VR c F ρ a x)(hy:VR c F ρ b y)(k:∀i j t u,f i j=some rr->P (.int i t) (.int j u)):P x y:=
 QM (P:=fun a=>VR c F ρ a x->P x y) h (fun i h hx=>QM (P:=fun b=>VR c F ρ b y->P x y) h (fun j h hy=>hx.intE (P:=fun x=>P x y) fun t=>hy.intE (P:=fun y=>P _ y) fun u=>k i j t u h) hy) hx
theorem Fw:Ww c env r (binaryOp .Sub) (fun U=>Jk U .sub):=fun A U a b v g s x y E Q hr hf R hx hy N=>
 XN (P:=fun x y=>wpAny c.M A (binaryOp .Sub x y) Q E s) (a:=a) (b:=b) (f:=fun a b=>some (Vv.int (a-b))) hf hx hy fun i j t u e=>by cases e;exact P.sub_int (N.toks R (.int _ _))
theorem Rt:Ww c env r (binaryOp .Mod) (fun U=>Jk U .mod):=fun A U a b v g s x y E Q hr hf R hx hy N=>
 XN (P:=fun x y=>wpAny c.M A (binaryOp .Mod x y) Q E s) (a:=a) (b:=b) (f:=fun a b=>gd (decide (0<b)) (some (Vv.int (a % b)))) hf hx hy fun i j t u e=>gdE e fun h e=>by
  cases e;have h:=qH h;exact mod_int' (Ne.symm (Int.ne_of_lt h)) (Int.fmod_eq_emod_of_nonneg i (dT h)▸N.toks R (.int _ _))
theorem Rs:Ww c env r (binaryOp .Mult) (fun U=>Jk U .mul):=fun A U a b v g s x y E Q hr hf R hx hy N=>
 XN (P:=fun x y=>wpAny c.M A (binaryOp .Mult x y) Q E s) (a:=a) (b:=b) (f:=fun a b=>gd (decide (b=10)||decide (b=16)) (some (Vv.int (a*b)))) hf hx hy fun i j t u e=>gdE e fun h e=>by
  cases e;have hj:Builtin.Int.intBits j<=64:=bO h (fun h=>qH h▸by decide) fun h=>qH h▸by decide
  exact AutoIntOps.mul_0 (N.toks R (.int _ _)) (.of_right hj)
theorem V4{b:Int}(h:b<=1000)(h0:0<b):b.natAbs<1073741824:=a8.mp ((Int.natAbs_of_nonneg (dT h0)).symm▸dt h (by decide))
theorem Ma:Ww c env r (binaryOp .FloorDiv) (fun U=>Jk U .fdiv):=fun A U a b v g s x y E Q hr hf R hx hy N=>
 XN (P:=fun x y=>wpAny c.M A (binaryOp .FloorDiv x y) Q E s) (a:=a) (b:=b) (f:=fun a b=>gd (decide (0<b)&&decide (b<=1000)) (some (Vv.int (a / b)))) hf hx hy fun i j t u e=>gdE e fun h e=>bA h fun h h2=>by
  cases e;have h:=qH h;exact floordiv_int (Ne.symm (Int.ne_of_lt h)) (Int.fdiv_eq_ediv_of_nonneg i (dT h)▸N.toks R (.int _ _)) (.inl (PyProof.noPylong_small (V4 (qH h2) h)))
theorem Rq{i x}(R:Rel c env g U s)(hx:Vx c env g s (.int i) x)(N:Nxt c env g s (.int (-i)) U Q):wpAny c.M A (unaryOp .USub x) Q E s:=hx.intE fun t=>P.neg_int (N.toks R (.int _ _))

theorem WY{value slice o i T id}(hT:s.TypeIs o T)(hl:typeLookup (.type T) "__getitem__"=pure (some (.builtin id)))
  (hg:wpAny c.M A (getItem o i) Q E s):wpAny c.M A (subscriptTail value slice o i) Q E s:=by
 have h:∃ops,subscripted slice false o i=operate ops (getItem o i):=by
  cases slice<;>first|exact⟨_,rfl⟩|skip
  cases step<;>exact⟨_,rfl⟩
 obtain⟨ops,h⟩:=h;exact tail_any hT hl hg h

theorem Zz{n i j}(h:Q6 n i=some j)(hb:(n:Int)<2 ^ 63):(-(2 ^ 63)<=i/\i<2 ^ 63)/\((0<=i/\i.toNat=j)\/(i<0/\-(n:Int)<=i/\(i+n).toNat=j)):=by
 unfold Q6 seqIndex? at h;dsimp only at h;by_cases hi:i<0
 ·rw[aR hi] at h
  by_cases q:(decide (0<=i+n)&&decide (i+n<n))=true
  ·rw[aR q] at h
   cases h;exact bA q fun q1 q2=>by
    have q1:=qH q1;have nl:-(n:Int)<=i:=Int.le_of_sub_nonneg (Int.sub_neg (a:=i) (b:=n)▸q1);exact⟨⟨eJ (Int.neg_le_neg (dT hb)) nl,Int.lt_trans hi (by decide)⟩,.inr ⟨hi,nl,rfl⟩⟩
  ·rw[aN q] at h;exact nn h
 ·rw[aN hi] at h
  by_cases q:(decide (0<=i)&&decide (i<n))=true
  ·rw[aR q] at h
   cases h;exact bA q fun q1 q2=>by
    have q2:=qH q2;exact⟨⟨eJ (by decide) (bP.mp hi),Int.lt_trans q2 hb⟩,.inl ⟨bP.mp hi,rfl⟩⟩
  ·rw[aN q] at h;exact nn h
theorem BK{a items n i t j x}(hi:IsL s.heap a items n)(hb:items.size<=sizeLine)(hj:Q6 items.size i=some j)
  (hx:items[j]?=some x) (h:Q x s):wpAny c.M A (getItem (.ref a) (.int i t)) Q E s:=by
 obtain⟨⟨h1,h2⟩,h3⟩:=Zz hj (U8 hb);exact h3.elim (fun h3=>wpAny_getItem_list hi.isList h3.1 h2 (h3.2▸hx) h) fun h3=>wpAny_getItem_list_neg hi.isList h3.1 h3.2.1 h1 (h3.2.2▸hx) h

theorem Cm{v x}{F ρ}:∀{kvs:List (Str×Value)} {ks:List LN} {vs:List Vv},kvs.map (·.1)=ks.map toS->VRs c F ρ vs (kvs.map (·.2))->Q3 ks vs x=some v->∃y,valueAt kvs (toS x)=some y/\VR c F ρ v y:=by
 intro kvs;induction kvs with
 |nil=>
  intro ks vs hk _ h;cases ks with
  |nil=>exact nn h
  |cons _ _=>exact nomatch hk
 |cons kv kvs ih=>
  intro ks vs hk hv h;cases ks with
  |nil=>exact nn h
  |cons k ks=>
   cases vs with
   |nil=>exact nn h
   |cons w vs=>
    have k1:kv.1=toS k:=(qS hk).1;unfold valueAt;rw[bq,k1];have h:(if k=x then some w else Q3 ks vs x)=some v:=h;cases hv with
    |cons a b=>
     by_cases e:k=x
     ·rw[aR e] at h
      rw[e,aU rfl];cases h;exact⟨kv.2,rfl,a⟩
     ·rw[aN e] at h
      rw[an fun q=>e (U0 q)]
      exact ih (qS hk).2 b h
theorem BM{value slice l b a items n y}(hf:Um l b=some v)(R:Rel c env g U s)(hi:IsL s.heap a items n)(hv:Vxs c env g s l items.toList)(hy:Vx c env g s b y)(N:Nxt c env g s v U Q):
  wpAny c.M A (subscriptTail value slice (.ref a) y) Q E s:=
 QM (P:=fun b=>Vx c env g s b y->_) hf (fun i h hy=>bdE h fun hb h=>boE h fun j hj e=>hy.intE fun t=>by
  obtain⟨x,hx,rx⟩:=hv.get e;have hs:=Jf hv;exact WY hi.isList.typeIs slot_list_getitem.lookup (BK hi (by rw[hs];exact hb) (by rw[hs];exact hj) (by rw[<- bQ];exact hx) (N.same R rx))) hy
theorem KV{kvs ks vs b a y}(hf:(onStr b fun x=>Q3 ks vs x)=some v)(R:Rel c env g U s)(D:s.heap.DictOf (strKind c.prog c.w) a kvs)(k1:kvs.map (·.1)=ks.map toS)(r1:Vxs c env g s vs (kvs.map (·.2)))(hy:Vx c env g s b y)
  (N:Nxt c env g s v U Q):wpAny c.M A (getItem (.ref a) y) Q E s:=
 Ql (P:=fun b=>Vx c env g s b y->_) hf (fun x' h hy=>hy.strE fun t=>by
  obtain⟨y,hy,ry⟩:=Cm k1 r1 h;exact wpAny_getItem_of (k:=toS x') (aS (toS x')) D.mapOf hy (N.toks R ry)) hy
theorem Fu{value slice l b x y}(hf:Um l b=some v)(R:Rel c env g U s)(hx:Vx c env g s (.tup l) x)(hy:Vx c env g s b y)(N:Nxt c env g s v U Q):wpAny c.M A (subscriptTail value slice x y) Q E s:=
 QM (P:=fun b=>Vx c env g s b y->_) hf (fun i h hy=>bdE h fun hb h=>boE h fun j hj e=>hy.intE fun t=>hx.tupE fun a o items n f1 c1 d1 r1=>by
  obtain⟨x,hx,rx⟩:=r1.get e;have hs:=Jf r1;have T:IsTup s.heap _ _:=⟨_,f1.1,c1,_,d1⟩;have h1:=(Zz hj (U8 hb)).1;exact WY T.typeIs slot_tuple_getitem.lookup (getItem_tuple T h1.1 h1.2 (by rw[hs];exact hj) (by rw[<- bQ];exact hx) (N.same R rx))) hy
theorem Fv{value slice w b x y}(hf:Qo U (.str w) b=some v)(R:Rel c env g U s)(hx:Vx c env g s (.str w) x)(hy:Vx c env g s b y)(N:Nxt c env g s v U Q):wpAny c.M A (subscriptTail value slice x y) Q E s:=
 QM (P:=fun b=>Vx c env g s b y->_) (show onInt b (fun i=>bd w.length (bo (Q6 w.length i) fun j=>bo w[j]? fun d=>some (Vv.str [d])))=some v from hf) (fun i h hy=>bdE h fun hb h=>boE h fun j hj h=>boE h fun d hd e=>by
  cases e;have h1:=(Zz hj (U8 hb)).1;refine hx.strE fun t=>hy.intE fun u=>WY (dS _ _ _) F.slot_str_getitem.lookup (getItem_str (c:=d) ?_ ?_ (N.toks R (.str [d] _)))
  ·rw[an (bP.mpr h1.1),an (dR.mpr h1.2)];rfl
  ·rw[Jo]
   show (Q6 w.length i).bind _=_;rw[hj];show w.toArray[j]?=_;rw[List.getElem?_toArray];exact hd) hy
theorem Pl{value slice a b x y}(hf:Qo U a b=some v)(R:Rel c env g U s)(hx:Vx c env g s a x)(hy:Vx c env g s b y)(N:Nxt c env g s v U Q):
  wpAny c.M A (subscriptTail value slice x y) Q E s:=by
 cases a with
 |str w=>exact Fv hf R hx hy N
 |tup l=>exact Fu hf R hx hy N
 |list l=>exact hx.listE fun a items n f1 r1=>BM hf R f1.1 r1 hy N
 |dict ks vs=>
  exact hx.dictE fun a o kvs f1 d1 k1 r1 s1=>by
   have D:s.heap.DictOf (strKind c.prog c.w) a kvs:=bR.mpr ⟨_,f1.1,d1⟩;exact WY D.typeIs slot_dict_getitem.lookup (KV hf R D k1 r1 hy N)
 |obj id=>
  exact boE (show bo (JA U.hp id) _=some v from hf) fun o ho h=>hx.objE fun a ha=>by
   obtain⟨q,hc,H⟩:=Wc R ho ha;cases o with
   |list l=>obtain⟨-,items,n,hi,hv⟩:=H;exact BM h R hi hv hy N
   |dict ks vs=>obtain⟨-,-,kvs,D,k1,r1⟩:=H;exact WY D.typeIs slot_dict_getitem.lookup (KV h R D k1 r1 hy N)
   |inst _ _=>exact nn h
 |_=>exact nn hf
theorem Sn{e i C me mi}{pos}(H:JE c r env e (ev C me))(H2:JE c r env i (ev C mi)):JE c r env (.Subscript e i pos) (ev C (.sub me mi)):=fun J J J J J J J J hr hf R N=>bnE hf fun a U1a h1 h=>bnE h fun b U2a h3 h=>boE h fun w h5 h6=>
 Subscript_ (H hr h1 R fun x ek eu ew ez e6=>H2 hr h3 ew fun y em fB fE fP fH=>Pl h5 fE (ez.ext fH) fP ((N.of h6).trans (e6.trans fH)))
end
section
variable{c:Cx}{r:Nat}{env:Nv}{A:Around}{U U':St}{g:Gh}{s:Shared}{E:Value->Shared->Prop}{Q:Value->Shared->Prop}{v:Vv}
noncomputable def ixV:Vv->Option Int
 |.int i=>some i
 |_=>none
theorem BZ(n:Nat)(i:Int):max 0 (min (if i<0 then i+n else i) (n:Int))=(clampIx n i:Int):=(dh (Int.le_max_left 0 _)).symm
theorem Ai(n i):clampIx n i<=n:=eG.mpr (Int.max_le.mpr ⟨aj n,Int.min_le_right _ _⟩)
theorem Ga{α:Type}(xs:Array α)(a b):((List.range (b-a)).map (a+·)).filterMap (xs[·]?)=cut xs.toList a b:=by
 rw[pick_run,<- cT];rfl
def BdV(a:Vv):Prop:=a=.none\/∃i,a=.int i
theorem IF{n i a}(h:Ut n a=some i):BdV a:=by
 cases a<;>first|exact .inl rfl|exact .inr ⟨_,rfl⟩|exact nn h
theorem IR{n i a}(h:US n a=some i):BdV a:=by
 cases a<;>first|exact .inl rfl|exact .inr ⟨_,rfl⟩|exact nn h
theorem HD{n i a}(h:Ut n a=some i):(match ixV a with|some i=>max 0 (min (if i<0 then i+n else i) (n:Int))|none=>0)=(i:Int):=by
 cases a<;>first|exact nn h|(cases h;first|rfl|exact BZ _ _)
theorem HQ{n i a}(h:US n a=some i):(match ixV a with|some i=>max 0 (min (if i<0 then i+n else i) (n:Int))|none=>(n:Int))=(i:Int):=by
 cases a<;>first|exact nn h|(cases h;first|rfl|exact BZ _ _)
theorem DT{n i j a b}(h1:Ut n a=some i)(h2:US n b=some j):sliceBounds (ixV a) (ixV b) none n=((i:Int),(j:Int),1)/\Builtin.Str.strSliceIndices (ixV a) (ixV b) 1 n=sliceRange i j 1:=by
 constructor
 ·show ((match ixV a with|none=>0|some i=>max 0 (min (if i<0 then i+n else i) (n:Int))),(match ixV b with|none=>(n:Int)|some i=>max 0 (min (if i<0 then i+n else i) (n:Int))),(1:Int))=_
  have e1:=HD h1;have e2:=HQ h2;rw[<- e1,<- e2];cases ixV a<;>cases ixV b<;>rfl
 ·show sliceRange (match ixV a with|none=>0|some i=>max 0 (min (if i<0 then i+n else i) (n:Int))) (match ixV b with|none=>(n:Int)|some i=>max 0 (min (if i<0 then i+n else i) (n:Int))) 1=_
  have e1:=HD h1;have e2:=HQ h2;rw[<- e1,<- e2];cases ixV a<;>cases ixV b<;>rfl
theorem T8{items i j a b}(h1:Ut items.size a=some i)(h2:US items.size b=some j):(slicePick items (ixV a) (ixV b) none).toList=cut items.toList i j:=by
 unfold slicePick;rw[(DT h1 h2).1];show ((sliceRange i j 1).filterMap (items[·]?))=_
 rw[eZ];exact Ga items i j
theorem ZBV{n j b}(h2:US n b=some j):j<=n:=by
 cases b<;>first|exact nn h2|skip
 ·cases h2;exact qF _
 ·cases h2;exact Ai _ _
theorem Vf{l i j}(h:j-i=l)(hj:j<=l):(i=0/\j=l)\/l=0:=by
 cases i with
 |zero=>exact .inl ⟨rfl,h⟩
 |succ i=>
  cases j with
  |zero=>exact .inr (h.symm.trans (Nat.zero_sub _))
  |succ j=>exact absurd (qA hj (h▸(Nat.succ_sub_succ j i).symm▸xU j i)) (Nat.not_succ_le_self j)
theorem FP{α:Type}{l:List α}{i j:Nat}(h:(sliceRange i j 1).length=l.length)(hj:j<=l.length):cut l i j=l:=by
 rw[eZ,aP,eB] at h;unfold cut;rcases Vf h hj with ⟨rfl,rfl⟩|h0
 ·exact bI
 ·rw[List.length_eq_zero_iff.mp h0,List.take_nil,cj]
set_option tactic.hygienic true in
theorem CU{w i j a b}(h1:Ut w.length a=some i)(h2:US w.length b=some j):Txt.slice (toS w) (ixV a) (ixV b)=toS (cut w i j):=by
 unfold Txt.slice;rw[Jo,(DT h1 h2).2]
 split
 ·rename_i h
  exact bA h fun J h=>by rw[FP (bE h) (ZBV h2)]
 ·rw[eZ]
  exact aM (fun l=>Str.mk (List.toArray l)) (Ga w.toArray i j)
theorem PG{F ρ}{l xs}(h:VRs c F ρ l xs)(i j):VRs c F ρ (cut l i j) (cut xs i j):=(h.take j).drop i

def Yk(c:Cx)(r:Nat)(env:Nv)(e:Option Expr)(f:St->Option (Vv×St)):Prop:=
 ∀⦃A:Around⦄ ⦃U:St⦄ ⦃v:Vv⦄ ⦃U':St⦄ ⦃g:Gh⦄ ⦃s:Shared⦄ ⦃E:Value->Shared->Prop⦄ ⦃Q:Value->Shared->Prop⦄,
  JM env A r->f U=some (v,U')->Rel c env g U s->Nxt c env g s v U' Q->wpAny c.M A (evalPart e env) Q E s
theorem PQ:Yk c r env none (fun U=>some (.none,U)):=fun J J J J J J J J J hf R N=>evalPart_none_step ((N.of hf).same R .none)
theorem Fa{e}{f}(H:JE c r env e f):Yk c r env (some e) f:=fun J J J J J J J J hr hf R N=>evalPart_some_step (H hr hf R N)

theorem Y9{a x}{F ρ}(h:BdV a)(hx:VR c F ρ a x):IsPart x (ixV a)/\∃p:Option (Int×Tok),partValue p=x/\p.map (·.1)=ixV a:=by
 rcases h with rfl|⟨i,rfl⟩
 ·exact hx.noneE ⟨.none,none,rfl,rfl⟩
 ·exact hx.intE (P:=fun x=>IsPart x (some i)/\∃p:Option (Int×Tok),partValue p=x/\p.map (·.1)=some i) fun t=>⟨.int _ _,some (i,t),rfl,rfl⟩

noncomputable def slO(y z:Value):Obj:={ cls:=.type "slice",data:=.fields #[y,z,.none] }
theorem Dm{value slice o a b x y z}(hf:(onListOf U o fun l=>bd l.length (bo (Ut l.length a) fun i=>bo (US l.length b) fun j=>some (.list (cut l i j))))=some v)(R:Rel c env g U s)(hx:Vx c env g s o x)(hy:Vx c env g s a y)(hz:Vx c env g s b z)
  (N:Nxt c env g s v U Q):wpAny c.M A (subscriptTail value slice x (.ref s.heap.objs.size)) Q E { s with heap:=s.heap.push (slO y z) }:=
 Uc (P:=fun x=>wpAny c.M A (subscriptTail value slice x (.ref s.heap.objs.size)) Q E { s with heap:=s.heap.push (slO y z) }) (R.grow (s':={ s with heap:=s.heap.push (slO y z) }) (Qb _ _) R.pos) hf (Vx.push hx) fun l a1 i1 n1 h hi1 hv1=>bdE h fun hb h=>boE h fun i hi h=>boE h fun j hj e=>by
  cases e;have hs:=Jf hv1;rw[<- hs] at hi hj;refine WY (Heap.IsList.typeIs (s:={ s with heap:=s.heap.push (slO y z) }) hi1.isList) slot_list_getitem.lookup (wpAny_getItem_list_slice hi1.isList (Heap.IsSliceOf.new ..) (Y9 (IF hi) hy).1 (Y9 (IR hj) hz).1 .none (fun h=>nomatch h) ?_ (by rw[hs];exact hb))
  exact Nxt.newList (s:={ s with heap:=s.heap.push (slO y z) }) (N.trans (.grow (Qb _ _) rfl)) (R.grow (Qb _ _) R.pos) (by rw[T8 hi hj];exact PG hv1 i j) R.pos
theorem ZAT{value slice o a b x y z}(hf:slV U o a b=some v)(R:Rel c env g U s)(hx:Vx c env g s o x)(hy:Vx c env g s a y)(hz:Vx c env g s b z)(N:Nxt c env g s v U Q):
  wpAny c.M A (subscriptTail value slice x (.ref s.heap.objs.size)) Q E { s with heap:=s.heap.push (slO y z) }:=by
 cases o with
 |str w=>
  refine bdE (show bd w.length (bo (Ut w.length a) fun i=>bo (US w.length b) fun j=>some (Vv.str (cut w i j)))=some v from hf) fun hb h=>boE h fun i hi h=>boE h fun j hj e=>?_
  cases e;obtain⟨-,l1,q1,q2⟩:=Y9 (IF hi) hy;obtain⟨-,l2,q3,q4⟩:=Y9 (IR hj) hz;refine hx.strE (P:=fun x=>wpAny c.M A (subscriptTail value slice x (.ref s.heap.objs.size)) Q E { s with heap:=s.heap.push (slO y z) }) fun t=>WY (dS _ _ _) F.slot_str_getitem.lookup (Qj R.pos (wpAny_getItem_str_slice (l:=l1) (u:=l2) (st:=none) ⟨_,qY _ rfl,rfl,by rw[q1,q3];rfl⟩ rfl
   (post_val_or_str ⟨qA (Txt.slice_le _ _ _) (by rw[Jo];exact hb),fun t' k ht=>?_⟩)))
  show Q (.str (Txt.slice (toS w) (l1.map (·.1)) (l2.map (·.1))) t') _
  rw[q2,q4,CU hi hj];exact(N.trans (.grow (s':={ s with heap:=s.heap.push (slO y z) }) (Qb _ _) rfl)).toks (R.grow (s':={ s with heap:=s.heap.push (slO y z) }) (Qb _ _) R.pos) (.str _ _) ht
 |list l=>exact Dm (U:=U) (o:=.list l) (a:=a) (b:=b) hf R hx hy hz N
 |obj i=>exact Dm (U:=U) (o:=.obj i) (a:=a) (b:=b) hf R hx hy hz N
 |_=>exact nn hf

theorem ZBc{e lo hi C me ml mh}{p pos}(H:JE c r env e (ev C me))(H2:Yk c r env lo (ev C ml))(H3:Yk c r env hi (ev C mh)):
  JE c r env (.Subscript e (.Slice lo hi none p) pos) (ev C (.sl me ml mh)):=fun J J J J J J J J hr hf R N=>bnE hf fun o U1a h1 h=>bnE h fun a U2a h3 h=>bnE h fun b fI h5 h=>boE h fun w h7 h8=>
 Subscript_ (H hr h1 R fun x ek eu ew ez e6=>wpAny_Slice (H2 hr h3 ew fun y em fB fE fP fH=>H3 hr h5 fE fun z fO g3a fQ X3a fM=>evalPart_none_step
  (ZAT h7 fQ (ez.ext (fH.trans fM)) (fP.ext fM) X3a ((N.of h8).trans (e6.trans (fH.trans fM))))))
end
theorem J5{α β:Type}[DecidableEq α](x y v):∀(l:List (α×β)),JA (put l x v) y=if x=y then some v else JA l y:=fun l0=>by
 induction l0 with
 |nil=>
  exact rfl
 |cons p0 l ih=>
  obtain⟨a,b⟩:=p0;rw[OG];by_cases h:a=x
  ·rw[aR h,UL,UL]
   by_cases h2:x=y
   ·rw[aR (h.trans h2),aR h2]
   ·rw[aN fun q=>h2 (h.symm.trans q),aN h2,aN fun q=>h2 (h.symm.trans q)]
  ·rw[aN h,UL,UL,ih]
   by_cases h2:a=y
   ·rw[aR h2,aN fun q=>h (h2.trans q.symm),aR h2]
   ·rw[aN h2,aN h2]
section
variable{c:Cx}{r:Nat}{env:Nv}{A:Around}{U U':St}{g:Gh}{s:Shared}{E:Value->Shared->Prop}{Q:Value->Shared->Prop}{v:Vv}

structure Keep(env:Nv)(D:Addr->Prop)(h h':Heap):Prop where
 k:∀b p,¬D b->b≠env.locals->h.get? b=some p->h'.get? b=some p
 ns:∀m,h.Ns env.locals m->h'.Ns env.locals m
theorem Keep.of{D:Addr->Prop}{h h'}(hs:∀b p,¬D b->h.get? b=some p->h'.get? b=some p)(hd:¬D env.locals):Keep env D h h':=⟨fun b p z J=>hs b p z,fun m hm=>hm.at fun p e=>hs _ _ hd e⟩
theorem Keep.grown{D:Addr->Prop}{h h'}(hs:∀b p,h.get? b=some p->h'.get? b=some p):Keep env D h h':=⟨fun b p J J=>hs b p,fun m hm=>hm.at fun p e=>hs _ _ e⟩
theorem Keep.of_ns{D:Addr->Prop}{h h' m}(hs:∀b p,¬D b->b≠env.locals->h.get? b=some p->h'.get? b=some p)(h1:h.Ns env.locals m)(h2:h'.Ns env.locals m):Keep env D h h':=
 ⟨hs,fun m' hm=>(funext fun n=>hm.agree h1 n:m'=m)▸h2⟩
theorem Keep.alive{D:Addr->Prop}{h h'}(K:Keep env D h h'){m}(hm:h.Ns env.locals m)(hD:∀a,D a->∃p,h'.get? a=some p)(a)(e:∃p,h.get? a=some p):∃p,h'.get? a=some p:=
 e.elim fun p z=>ay (fun d:D a=>hD a d) fun d=>ay (fun q:a=env.locals=>q▸nsO (K.ns m hm)) fun q=>⟨p,K.k _ _ d q z⟩
theorem Keep.frd{D:Addr->Prop}{h h'}(K:Keep env D h h'){m}(hm:h.Ns env.locals m)(hD:∀a,D a->¬Fs env a)(a)(q:Fs env a)(x:Frd a h):Frd a h':=
 ay (fun e:a=env.locals=>e▸(K.ns m hm).frd) fun e=>x.sl (.of fun o=>K.k a o (fun d=>hD a d q) e)
theorem Rel0.setOb{h h'}(R:Rel0 c env g U h){id ob' q o}(hc:g.cs id=some (q,o))(K:Keep env (·=o) h h')(he:∃p,h'.get? o=some p)
  (hob:(∀a p,Fz env g h a p->Fz env g h' a p)->ObR c env g h' ob' q o):Rel0 c env g (U.setOb id ob') h':=by
 have hW:=R.cW _ _ _ hc;have kF:∀a p,Fz env g h a p->Fz env g h' a p:=fun a p z=>⟨K.k _ _ (fun e=>z.2.1 (e▸hW)) (fun e=>z.2.2.2 (.inl e)) z.1,z.2⟩
 obtain⟨m,hm,hl⟩:=R.loc;have al:=K.alive hm fun a e=>e▸he
 refine⟨fun a o e=>kF _ _ (R.kin a o e),fun a e=>al a (R.wob a e),fun a e=>al a (R.xob a e),fun a e=>K.frd hm (fun b d q=>(R.dis b (d▸hW)).2 (.inr q)) a e (R.frd a e),R.dis,⟨m,K.ns m hm,hl.mono kF fun J J z=>z⟩,fun id' ob e=>?_,R.cW,R.inj,R.nx,R.ps⟩
 rw[St.setOb,J5] at e;by_cases hid:id=id'
 ·rw[aR hid] at e
  cases e;exact⟨q,o,hid▸hc,hob kF⟩
 ·rw[aN hid] at e
  exact(R.obs id' ob e).imp fun r'=>a5 fun o' z=>⟨z.1,z.2.mono kF (fun J J z=>z) fun p=>K.k _ _ (fun e2=>hid (R.inj id id' q o r' hc (e2▸z.1))) fun e=>(R.dis _ (R.cW _ _ _ z.1)).2 (.inl e)⟩
theorem Ext.setOb{s' o}(hW:g.W o)(hW':¬FA env o)(K:Keep env (·=o) s.heap s'.heap)(hg:gos s'=gos s):Ext env g g s s':=
 ⟨fun a p h hw hf=>⟨K.k _ _ (fun e=>hw (e▸hW)) (fun e=>hf (.inl e)) h,hw⟩,fun a q n=>.of fun o=>K.k a o (fun e=>hW' (e▸.inr q)) n,fun J J h=>h,rfl,hg⟩

theorem Uy{id l a}(R:Rel c env g U s)(ho:JA U.hp id=some (.list l))(ha:g.rho id=some a):
  ∃items n,g.cs id=some (a,a)/\IsL s.heap a items n/\Vxs c env g s l items.toList:=by
 obtain⟨o,hc,rfl,items,n,hi,hv⟩:=Wc R ho ha;exact⟨items,n,hc,hi,hv⟩
theorem Y7{id l' a items n f}(R:Rel c env g U s)(hc:g.cs id=some (a,a))(hi:IsL s.heap a items n)
  (hv:Vxs c env g s l' (f items).toList):
  Rel c env g (U.setOb id (.list l')) { s with heap:=s.heap.update a (Obj.mapSeq f) }/\Ext env g g s { s with heap:=s.heap.update a (Obj.mapSeq f) }:=by
 have hi':IsL (s.heap.update a (Obj.mapSeq f)) a (f items) (if (f items).size==items.size then n else n+1):=Heap.get?_update_self (Obj.mapSeq f) hi rfl;have K:Keep env (·=a) s.heap (s.heap.update a (Obj.mapSeq f)):=.of (fun b p e h=>(Heap.get?_update_other _ _ (Ne.symm e)).trans h) fun e=>(R.dis a (R.cW _ _ _ hc)).2 (.inl e.symm)
 exact⟨⟨R.toRel0.setOb hc K ⟨_,hi'⟩ fun k=>⟨rfl,f items,_,hi',hv.mono k fun J J z=>z⟩,R.pos⟩,Ext.setOb (R.cW _ _ _ hc) (R.dis _ (R.cW _ _ _ hc)).2 K rfl⟩

noncomputable def TP:BI->String
 |.len=>"len" |.ord=>"ord" |.chr=>"chr" |.sum=>"sum" |.max=>"max" |.range=>"range" |.int=>"int"
def J4(c:Cx)(x:Str)(v:Value):Bool:=(nsIn c.K mainGlobals x==some none)&&YX.any fun p=>p.1==x&&p.2==v
theorem UW(O:c.Ok)(VV:EnvOk env){x v}(h:J4 c x v=true)(R:Rel c env g U s)(hq:Q v s):wpAny c.M A (loadGlobal env x) Q E s:=bA h fun h1 h=>by
 obtain⟨p,hp,h⟩:=cg.mp h;refine bA h fun h2 h3=>?_
 have e1:nsIn c.K env.globals x=some none:=VV.glob▸bE h1;have e2:nsIn c.K env.builtins x=some (some v):=by rw[VV.blt,<- bE h2,<- bE h3];exact O.bi p hp
 unfold loadGlobal;refine qB ((dQ R.kinD e1).here ?_);exact qB ((dQ R.kinD e2).here (qC hq))
theorem Uw{l:List Expr}{env:Nv}:(l.map fun e=>(false,eval e env)).any (·.1)=false:=by
 rw[List.any_map,d9];exact fun x J h=>ff h

def UC(c:Cx)(env:Nv)(op:List Value->Sem Value)(f:St->List Vv->Option Vv):Prop:=
 ∀⦃A:Around⦄ ⦃U:St⦄ ⦃a:List Vv⦄ ⦃v:Vv⦄ ⦃g:Gh⦄ ⦃s:Shared⦄ ⦃x:List Value⦄ ⦃E:Value->Shared->Prop⦄ ⦃Q:Value->Shared->Prop⦄,
  f U a=some v->Rel c env g U s->Vxs c env g s a x->Nxt c env g s v U Q->wpAny c.M A (op x) Q E s
theorem OV(O:c.Ok)(VV:EnvOk env){x es C mes b}{np pos}(hs:es.all Ja=true)(hk:env.kindOf x=some .globalImplicit)(hx:(x==("__debug__":Str))=false)
  (hd:J4 c x (.builtin (TP b))=true) (hop:UC c env (fun xs=>call (.builtin (TP b)) xs []) (fun U=>biV U b)) (H2:J1 c r env es (evs C mes)):
  JE c r env (.Call (.Name x np) es [] pos) (ev C (.bi b mes)):=fun J J J J J J J J hr hf R N=>bnE hf fun vs U1a h1 h=>boE h fun w h3 h4=>by
 rw[bN,Qy hs];exact qB (a3 VV.kind hk (UW O VV hd R (cI Uw (Qz (H2 hr h1 R fun xs ek eu ew ez e6=>hop h3 ew ez ((N.of h4).trans e6))))) hx)

theorem Hb{β:Type}{rr:β}{f:Bool->Option β}{P:Vv->Prop}(h:bo (WF v) f=some rr)(k:∀b,f b=some rr->P (.bool b)):P v:=by
 cases v<;>first|exact nn h|exact k _ h
theorem Sy(O:c.Ok)(VV:EnvOk env){x y e C me}{np bp pos}(hs:Ja e=true)(hk:env.kindOf x=some .globalImplicit)(hx:(x==("__debug__":Str))=false)(hd:J4 c x (.builtin "isinstance")=true)
  (hk':env.kindOf y=some .globalImplicit) (hy:(y==("__debug__":Str))=false) (hd':J4 c y (.type "bool")=true) (H:JE c r env e (ev C me)):JE c r env (.Call (.Name x np) [e,.Name y bp] [] pos) (ev C (.isb me)):=fun J J J J J J J J hr hf R N=>bnE hf fun w U1a h1 h=>Hb (P:=fun w=>ev C me _=some (w,U1a)->_) h (fun b h3 h1=>by
 have hs2:[e,.Name y bp].all Ja=true:=by rw[List.all_cons,hs];rfl
 rw[bN,Qy hs2];exact qB (a3 VV.kind hk (UW O VV hd R (cI Uw (Qz (cz (H hr h1 R fun z ek eu ew ez e6=>cz (a3 VV.kind hk' (UW O VV hd' ew (eX (ez.boolE (IsiPair.bool_bool (((N.of h3).trans e6).same ew (.bool _)))))) hy)))))) hx)) h1
theorem Wj{β:Type}{rr:β}{l}{f:Vv->Option β}{P:List Vv->Prop}(h:bo (WI l) f=some rr)(k:∀v,f v=some rr->P [v]):P l:=by
 match l,h with
 |[],h=>exact nn h
 |[v],h=>exact k v h
 |_::_::_,h=>exact nn h
theorem DB{a x}(hf:(onListOf U a fun l=>bd l.length (some (Vv.int l.length)))=some v)(R:Rel c env g U s)(hx:Vx c env g s a x)(N:Nxt c env g s v U Q):wpAny c.M A (call (.builtin "len") [x] []) Q E s:=
 Uc (P:=fun x=>wpAny c.M A (call (.builtin "len") [x] []) Q E s) R hf hx fun l a1 i1 n1 h hi1 hv1=>bdE h fun hb e=>by
  cases e;have hz:=Jf hv1;exact call_len_list hi1.isList (by rw[hz];exact U8 hb) (by rw[hz];exact N.toks R (.int _ _))
theorem Rx:UC c env (fun xs=>call (.builtin "len") xs []) (fun U=>biV U .len):=fun A U l v g s xs E Q hf R X N=>
 Wj (P:=fun l=>Vxs c env g s l xs->_) hf (fun a h X=>X.oneE fun x X=>by
  cases a with
  |str z=>exact bdE h fun hb e=>by cases e;exact X.strE fun t=>P.len_str (dR.mpr (TI hb)) ((Jo z).symm▸N.toks R (.int _ _))
  |list l=>exact DB (U:=U) (a:=.list l) h R X N
  |obj i=>exact DB (U:=U) (a:=.obj i) h R X N
  |_=>exact nn h) X
theorem Rb:UC c env (fun xs=>call (.builtin "ord") xs []) (fun U=>biV U .ord):=fun A U l v g s xs E Q hf R X N=>
 Wj (P:=fun l=>Vxs c env g s l xs->_) hf (fun a h X=>X.oneE fun x X=>Z7 (P:=fun a=>Vx c env g s a x->_) h (fun d e X=>by cases e;exact X.strE fun t=>P.ord_of_char (N.toks R (.int _ _))) X) X
theorem Vj:UC c env (fun xs=>call (.builtin "chr") xs []) (fun U=>biV U .chr):=fun A U l v g s xs E Q hf R X N=>
 Wj (P:=fun l=>Vxs c env g s l xs->_) hf (fun a h X=>X.oneE fun x X=>QM (P:=fun a=>Vx c env g s a x->_) h (fun d h X=>gdE h fun h e=>bA h fun h1 h2=>by
  cases e;exact X.intE fun t=>P.chr_of_int (by rw[an (bP.mpr (qH h1)),an (bP.mpr (Int.le_of_lt_add_one (qH h2)))];rfl) (N.toks R (.str [_] _))) X) X

noncomputable def Ue:SM->Str
 |.find=>"find" |.rfind=>"rfind" |.count=>"count" |.replace=>"replace" |.lower=>"lower" |.join=>"join" |.startswith=>"startswith"
noncomputable def Q4:SM->String
 |.find=>"str.find" |.rfind=>"str.rfind" |.count=>"str.count" |.replace=>"str.replace" |.lower=>"str.lower" |.join=>"str.join" |.startswith=>"str.startswith"
theorem BL{m x t pl}{Q:Value×List Value->Shared->Prop}(h:Q (.builtin (Q4 m),[.str x t]) s):wpAny c.M A (getMethod (.str x t) (Ue m) pl) Q E s:=by
 cases m
 ·exact GM.find h
 ·exact GM.rfind h
 ·exact GM.count h
 ·exact GM.replace h
 ·exact GM.lower h
 ·exact GM.join h
 ·exact GM.startswith h
theorem ZBb{e es C me mes m}{fK pos}(hc:Jv e=true)(hs:es.all Ja=true)(hl:(fK.endLine==pos.line)=true)(fN:es.length<25)
  (hop:∀(z:LN) (t:Tok),UC c env (fun xs=>call (.builtin (Q4 m)) (.str (toS z) t::xs) []) (fun U=>smV U m z)) (H:JE c r env e (ev C me)) (H2:J1 c r env es (evs C mes)):
  JE c r env (.Call (.Attribute e (Ue m) fK) es [] pos) (ev C (.sm m me mes)):=fun J J J J J J J J hr hf R N=>bnE hf fun v U1a h1 h=>
 UZ hc hs hl fN (H hr h1 R fun x ek eu ew ez e6 pl=>Ql (P:=fun v=>Vx c env eu ek v x->_) h (fun z h ez=>bnE h fun vs U2a h3 h=>boE h fun w h5 h6=>ez.strE fun t=>
  BL (cI Uw (Qz (H2 hr h3 ew fun xs em fB fE fP fH=>hop z t h5 fE fP ((N.of h6).trans (e6.trans fH)))))) ez)
end
open PySem.Builtin PySem.Builtin.Str in
theorem ZE{n i}(hi:¬i<0):fromIndex n i=i.toNat:=by unfold fromIndex;rw[aN hi,cH (bP.mp hi)]
open PySem.Builtin PySem.Builtin.Str in
theorem Tu(x y i j t u v w)(hi:¬i<0)(hj:¬j<0):Gives («str.rfind» ⟨[.str x t,.str y u,.int i v,.int j w],[]⟩) (.int (match lastOccurrence x y i.toNat (min j.toNat x.length) with|some k=>(k:Int)|none=>-1)):=by
 rw[<- ZE (n:=x.length) hi,<- ZE (n:=x.length) hj];show Gives (match lastOccurrence x y (fromIndex x.length i) (min (fromIndex x.length j) x.length) with|some k=>retInt k|none=>(do rule "str.rfind.not-found";retInt (-1))) _
 cases lastOccurrence x y (fromIndex x.length i) (min (fromIndex x.length j) x.length) with
 |none=>exact .rule (.of_eq rfl)
 |some k=>exact .of_eq rfl
open PySem.Builtin PySem.Builtin.Str in
theorem Tv(x y i j t u v w)(hi:¬i<0)(hj:¬j<0):Gives («str.count» ⟨[.str x t,.str y u,.int i v,.int j w],[]⟩) (.int (occurrences x y i.toNat (min j.toNat x.length) (x.length+1)).length):=by
 rw[<- ZE (n:=x.length) hi,<- ZE (n:=x.length) hj];exact .of_eq rfl
section
variable{c:Cx}{r:Nat}{env:Nv}{A:Around}{U U':St}{g:Gh}{s:Shared}{E:Value->Shared->Prop}{Q:Value->Shared->Prop}{v:Vv}

theorem F1(z t):UC c env (fun xs=>call (.builtin (Q4 .find)) (.str (toS z) t::xs) []) (fun U=>smV U .find z):=fun A U l v g s xs E Q hf R X N=>by
 match l,hf,X with
 |[],hf,_=>exact nn hf
 |[a],hf,X=>
  exact X.oneE fun x X=>Ql (P:=fun a=>Vx c env g s a x->_) (show onStr a (fun y=>some (Vv.int (QI y z 0)))=some v from hf) (fun y h X=>by cases h;exact X.strE fun u=>SC.find (MW z y▸N.toks R (.int _ _))) X
 |[a,b],hf,X=>
  exact X.twoE fun x y X Y=>Ql (P:=fun a=>Vx c env g s a x->_) (show onStr a (fun y=>onInt b fun i=>gd (decide (0<=i)&&decide (i<=z.length)) (some (Vv.int (QI y (z.drop i.toNat) i.toNat))))=some v from hf)
   (fun w h X=>QM (P:=fun b=>Vx c env g s b y->_) h (fun i h Y=>gdE h fun h e=>bA h fun h1 h2=>by
    cases e;exact X.strE (P:=fun x=>wpAny c.M A (call (.builtin (Q4 .find)) [.str (toS z) t,x,y] []) Q E s) fun u=>Y.intE (P:=fun y=>wpAny c.M A (call (.builtin (Q4 .find)) [.str (toS z) t,_,y] []) Q E s) fun u'=>SC.find3 (Ew (qH h1) (qH h2)▸N.toks R (.int _ _))) Y) X
 |_::_::_::_,hf,_=>exact nn hf
theorem T7(z t):UC c env (fun xs=>call (.builtin (Q4 .startswith)) (.str (toS z) t::xs) []) (fun U=>smV U .startswith z):=fun A U l v g s xs E Q hf R X N=>
 Wj (P:=fun l=>Vxs c env g s l xs->_) hf (fun a h X=>X.oneE fun x X=>Ql (P:=fun a=>Vx c env g s a x->_) h (fun y h X=>by cases h;exact X.strE fun u=>SC.startswith (T6 z y▸N.same R (.bool _))) X) X
theorem Bw{z l xs p}{F ρ}(h:XF z l=some p)(X:VRs c F ρ l xs):(∃t u w,xs=[.str (toS [p.1]) t,.int 0 u,.int p.2 w])/\0<=p.2/\p.2<=z.length:=by
 cases l with
 |nil=>exact nn h
 |cons a r=>
  cases r with
  |nil=>exact nn h
  |cons b r=>
   cases r with
   |nil=>exact nn h
   |cons d r=>
    cases r with
    |cons _ _=>exact nn h
    |nil=>
     exact Z7 (P:=fun a=>VRs c F ρ [a,b,d] xs->_) h (fun k h=>QM (P:=fun b=>VRs c F ρ [.str [k],b,d] xs->_) h fun lo h=>QM (P:=fun d=>VRs c F ρ [.str [k],.int lo,d] xs->_) h fun hi h=>gdE h fun h e X=>aB h fun h1 h2 h3=>by
      cases e;cases qH h1;refine⟨X.consE fun x xs a b=>a.strE (P:=fun x=>∃t u w,x::xs=[Value.str (toS [k]) t,.int 0 u,.int hi w]) fun t=>b.twoE (P:=fun xs=>∃t' u w,Value.str (toS [k]) t::xs=[Value.str (toS [k]) t',.int 0 u,.int hi w]) fun y y' b1 b2=>b1.intE (P:=fun y=>∃t' u w,[Value.str (toS [k]) t,y,y']=[Value.str (toS [k]) t',.int 0 u,.int hi w]) fun u=>b2.intE (P:=fun y'=>∃t' u' w,[Value.str (toS [k]) t,.int 0 u,y']=[Value.str (toS [k]) t',.int 0 u',.int hi w]) fun w=>⟨t,u,w,rfl⟩,qH h2,qH h3⟩) X
theorem ED(z t):UC c env (fun xs=>call (.builtin (Q4 .rfind)) (.str (toS z) t::xs) []) (fun U=>smV U .rfind z):=fun A U l v g s xs E Q hf R X N=>boE hf fun p h e=>by
 obtain⟨⟨t1,t2,t3,rfl⟩,h1,h2⟩:=Bw h X;cases e;refine call_gives F.slot_str_rfind (dS _ _ _) F.entry_str_rfind (F.args_str_rfind_4 _ _ _ _) (Tu _ _ _ _ _ _ _ _ (bP.mpr (eY 0)) (bP.mpr h1)) ?_;have h3:p.2.toNat<=z.length:=eG.mpr h2;have e:(match Builtin.Str.lastOccurrence (toS z) (toS [p.1]) 0 p.2.toNat with|some k=>(k:Int)|none=>-1)=Qd p.1 (z.take p.2.toNat) 0 (-1):=Cq h3
 rw[Jo,bj h3,Int.toNat_zero,e];exact N.toks R (.int _ _)
theorem EG(z t):UC c env (fun xs=>call (.builtin (Q4 .count)) (.str (toS z) t::xs) []) (fun U=>smV U .count z):=fun A U l v g s xs E Q hf R X N=>boE hf fun p h e=>by
 obtain⟨⟨t1,t2,t3,rfl⟩,h1,h2⟩:=Bw h X;cases e;refine call_gives F.slot_str_count (dS _ _ _) F.entry_str_count (F.args_str_count_4 _ _ _ _) (Tv _ _ _ _ _ _ _ _ (bP.mpr (eY 0)) (bP.mpr h1)) ?_;have h3:p.2.toNat<=z.length:=eG.mpr h2;rw[Jo,bj h3,Int.toNat_zero,Kv h3 (qG _),dk,CB _ _ _ (Nat.lt_succ_of_le (List.length_take_le _ _|> fun q=>qA q h3))]
 exact N.toks R (.int _ _)
theorem CP{F ρ}:∀{l:List Vv} {ys:List LN} {xs:List Value},W6 l=some ys->VRs c F ρ l xs->∃ps:List (Str×Tok),xs=strValues ps/\ps.map (·.1)=ys.map toS:=by
 intro l0;induction l0 with
 |nil=>
  intro _ _ h hv;cases h;exact hv.nilE ⟨[],rfl,rfl⟩
 |cons _ _ ih=>
  intro ys xs h hv;exact hv.consE (P:=fun xs=>∃ps:List (Str×Tok),xs=strValues ps/\ps.map (·.1)=ys.map toS) fun y xs hw hv=>ZAO (P:=fun v=>VR c F ρ v y->∃ps:List (Str×Tok),y::xs=strValues ps/\ps.map (·.1)=ys.map toS) h (fun z h hw=>boE h fun zs h1 h2=>by
    cases h2;obtain⟨ps,rfl,e⟩:=ih h1 hv;exact hw.strE (P:=fun y=>∃ps':List (Str×Tok),y::strValues ps=strValues ps'/\ps'.map (·.1)=(z::zs).map toS) fun t=>⟨(toS z,t)::ps,rfl,aM (toS z::·) e⟩) hw
theorem Cr{b:LN}{ys:List LN}(h:(ys.map (·.length)).sum+ys.length*b.length<=sizeLine):JoinOk (toS b) (ys.map toS)=true:=by
 unfold JoinOk;rw[StrLaws.joinTotal,Jo,aP,br,show ((fun x:Str=>x.length)∘toS)=fun x=>x.length from funext Jo]
 unfold Builtin.Str.tooLong;rw[an];· rfl
 exact bM.mpr h
theorem Lw(z t):UC c env (fun xs=>call (.builtin (Q4 .join)) (.str (toS z) t::xs) []) (fun U=>smV U .join z):=fun A U l v g s xs E Q hf R X N=>
 Wj (P:=fun l=>Vxs c env g s l xs->_) hf (fun a h X=>X.oneE fun x X=>Uc (P:=fun x=>wpAny c.M A (call (.builtin (Q4 .join)) [.str (toS z) t,x] []) Q E s) R h X fun l a1 i1 n1 h hi1 hv1=>boE h fun ys hys h=>bdE h fun hb e=>by
  cases e;obtain⟨ps,e1,e2⟩:=CP hys hv1;have hi:=hi1.isList;rw[show i1=(strValues ps).toArray from e1▸rfl] at hi;refine Qj R.pos (SC.join hi e2 (Cr hb) fun t' k ht=>?_)
  have e:Txt.join (toS z) (ys.map toS)=toS (QN z ys):=(StrLaws.glued_eq_join _ _).trans (Kk z ys);rw[e];exact N.toks R (.str _ _) ht) X

theorem EF(z t):UC c env (fun xs=>call (.builtin (Q4 .lower)) (.str (toS z) t::xs) []) (fun U=>smV U .lower z):=fun A U l v g s xs E Q hf R X N=>by
 cases l with
 |cons _ _=>exact nn hf
 |nil=>
  refine gdE hf fun h e=>bA h fun h1 h2=>?_
  cases e;refine X.nilE (P:=fun xs=>wpAny c.M A (call (.builtin (Q4 .lower)) (.str (toS z) t::xs) []) Q E s) (SCL.lower (by rw[Jo];exact qE h2) fun J=>?_)
  have hA:∀a∈z,a<128:=fun a ha=>qE (aq.mp h1 a ha)
  have e:Txt.lower (toS z)=toS (z.map lowC):=(lower_ascii (x:=toS z) (by rw[show (toS z).cps.toList=z from rfl];exact hA)).trans (aM Str.mk (List.map_toArray ..))
  rw[e];exact N.toks R (.str _ _)
theorem Mq{e C me a b}{k1 k2 p1 p2 fK pos}(hc:Jv e=true)(hl:(fK.endLine==pos.line)=true)(H:JE c r env e (ev C me)):
  JE c r env (.Call (.Attribute e (Ue .replace) fK) [.Constant (.str (toS a)) k1 p1,.Constant (.str (toS b)) k2 p2] [] pos) (ev C (.sm .replace me [.k (.str a),.k (.str b)])):=fun J J J J J J J J hr hf R N=>bnE hf fun v U1a h1 h=>
 UZ hc rfl hl (by decide:2<25) (H hr h1 R fun x ek eu ew ez e6 pl=>Ql (P:=fun v=>Vx c env eu ek v x->_) h (fun z h ez=>boE (show bo (gd (!a.isEmpty&&(Nat.ble (z.length+(z.length+1)*b.length) 16777216&&!(a==b))) (some (Vv.str (QE a b (z.length+1) z)))) (fun w=>some (w,U1a))=some _ from h) fun w h5 h6=>gdE h5 fun h e=>aB h fun q1 q2 q3=>ez.strE fun t=>by
  cases e;have R':Rel c env eu U1a { ek with toks:=ek.toks+1+1 }:=ew.toks
  have hp:=ew.pos;refine BL (cI rfl (Qz (cz (eH (cz (eH (eX (Qj R'.pos (SC.replace (b6 hp) (dJ _) (qP (xB _)) (by rw[Gr];exact Xc q3) (by rw[Jo,Jo];exact qE q2) fun t' k ht=>?_)))))))))
  rw[Au (Xc q1)];exact Nxt.toks (((N.of h6).trans e6).trans .toks) R' (.str _ _) ht) ez)
end
def JX(c:Cx)(r:Nat)(env:Nv)(e:Expr)(f:St->Option (Bool×St)):Prop:=
 ∀⦃A:Around⦄ ⦃U:St⦄ ⦃b:Bool⦄ ⦃U':St⦄ ⦃g:Gh⦄ ⦃s:Shared⦄ ⦃E:Value->Shared->Prop⦄ ⦃Q:Bool->Shared->Prop⦄,
  JM env A r->f U=some (b,U')->Rel c env g U s->Qt c env g s U' (Q b)->wpAny c.M A (PySem.isTrue e env (eval e env)) Q E s
noncomputable def ZAx:UnaryOp->Bool|.Not=>false|_=>true
def NX(e:Expr):Bool:=(ctt fun h=>Expr.UnaryOp.elim (motive_1:=fun J=>Bool) e h fun o J J=>ZAx o)&&((ctt fun h=>Expr.BoolOp.elim (motive_1:=fun J=>Bool) e h fun J J J=>false)&&((ctt fun h=>Expr.IfExp.elim (motive_1:=fun J=>Bool) e h fun J J J J=>false)&&ctt fun h=>Expr.Compare.elim (motive_1:=fun J=>Bool) e h fun J J J J=>false))
theorem AE{e:Expr}(h:NX e=true)(env:Nv)(m:Sem Value):PySem.isTrue e env m=(do let v <- m;standAt e.pos;holding [v] (PySem.truthy v)):=by
 cases e with
 |UnaryOp op x p=>cases op<;>first|rfl|exact ff h
 |BoolOp _ _ _=>exact ff h
 |IfExp _ _ _ _=>exact ff h
 |Compare _ _ _ _=>exact ff h
 |_=>rfl
section
variable{c:Cx}{r:Nat}{env:Nv}{A:Around}{U U' U1a:St}{g:Gh}{s:Shared}{E:Value->Shared->Prop}{Q:Value->Shared->Prop}{v:Vv}
variable{e e' l m rr t o:Expr}{es:List Expr}{C:Ora}{me ma mb ml mm mr mt mo:ME}{o1a o2a:Cmp}{pos:Pos}

theorem CN(hp:NX e=true)(H:JE c r env e (ev C me)):JX c r env e (tst C me):=fun J J J J J J J J hr hf R N=>bnE hf fun v U1a h1 h=>boE h fun b h3 h4=>by
 rw[AE hp];exact qB (xT (H hr h1 R fun x ek eu ew ez e6=>qB (qV (qD (Yu h3 ew ez ((N.of (P:=_) h4).trans e6))))) (fun x ek h=>h) fun J J x=>x)
theorem UJ{b}(h1:ev C me U=some (v,U1a))(h2:Tactic.Jm U1a v=some b):tst C me U=some (b,U1a):=by unfold tst;rw[h1];show bo (Tactic.Jm U1a v) _=_;rw[h2];rfl
theorem Fh(H:JX c r env e (tst C me)):JX c r env (.UnaryOp .Not e pos) (tst C (.not me)):=fun J J J J J J J J hr hf R N=>bnE hf fun v U1a h1 h=>boE h fun b h3 h4=>bnE (show bn (ev C me _) (fun v U1a=>bo (Tactic.Jm U1a v) fun b=>some (Vv.bool (!b),U1a))=some (v,U1a) from h1) fun w U2a h5 h6=>boE h6 fun b' h7 h8=>by
 cases h8;cases h3;exact isTrue_not (H hr (UJ h5 h7) R fun s' g' R' E'=>N.of (P:=_) h4 s' g' R' E')
theorem Fm(H:JX c r env e (tst C ma))(H2:JX c r env (.BoolOp .And es pos) (tst C mb)):JX c r env (.BoolOp .And (e::es) pos) (tst C (.and ma mb)):=fun J U J J J J J J hr hf R N=>bnE hf fun v U1a h1 h=>boE h fun b h3 h4=>
 bnE (show bn (ev C ma U) (fun v U1a=>bo (Tactic.Jm U1a v) fun c=>match c with|false=>some (v,U1a)|true=>ev C mb U1a)=some (v,U1a) from h1) fun w U2a h5 h6=>boE h6 fun b' h7 h8=>isTrue_and (H hr (UJ h5 h7) R fun s' g' R' E'=>by
  cases b' with
  |false=>cases h8;cases h7.symm.trans h3;exact N.of (P:=_) h4 s' g' R' E'
  |true=>exact H2 hr (UJ h8 h3) R' ((N.of (P:=_) h4).trans E'))
theorem Pb(H:JX c r env e (tst C ma))(H2:JX c r env (.BoolOp .Or es pos) (tst C mb)):JX c r env (.BoolOp .Or (e::es) pos) (tst C (.or ma mb)):=fun J U J J J J J J hr hf R N=>bnE hf fun v U1a h1 h=>boE h fun b h3 h4=>
 bnE (show bn (ev C ma U) (fun v U1a=>bo (Tactic.Jm U1a v) fun c=>match c with|true=>some (v,U1a)|false=>ev C mb U1a)=some (v,U1a) from h1) fun w U2a h5 h6=>boE h6 fun b' h7 h8=>isTrue_or (H hr (UJ h5 h7) R fun s' g' R' E'=>by
  cases b' with
  |true=>cases h8;cases h7.symm.trans h3;exact N.of (P:=_) h4 s' g' R' E'
  |false=>exact H2 hr (UJ h8 h3) R' ((N.of (P:=_) h4).trans E'))
theorem EB{op}(H:JX c r env e (tst C ma)):JX c r env (.BoolOp op [e] pos) (tst C ma):=fun J J b J J J J J hr hf R N=>by
 cases op with
 |And=>exact wpAny_isTrue_BoolOp (wpAny_allTrue_And_cons (H hr hf R fun s' g' R' E'=>by
   have n:=N s' g' R' E';cases b
   ·exact n
   ·exact wpAny_allTrue_And_nil n))
 |Or=>exact wpAny_isTrue_BoolOp (wpAny_allTrue_Or_cons (H hr hf R fun s' g' R' E'=>by
   have n:=N s' g' R' E';cases b
   ·exact wpAny_allTrue_Or_nil n
   ·exact n))
theorem Fi(H:JX c r env t (tst C mt))(H2:JX c r env e (tst C me))(H3:JX c r env o (tst C mo)):JX c r env (.IfExp t e o pos) (tst C (.ite mt me mo)):=fun J U J J J J J J hr hf R N=>bnE hf fun v U1a h1 h=>boE h fun b h3 h4=>
 bnE (show bn (ev C mt U) (fun v U1a=>bo (Tactic.Jm U1a v) fun c=>match c with|true=>ev C me U1a|false=>ev C mo U1a)=some (v,U1a) from h1) fun w U2a h5 h6=>boE h6 fun b' h7 h8=>isTrue_IfExp (H hr (UJ h5 h7) R fun s' g' R' E'=>by
  cases b' with
  |true=>exact H2 hr (UJ h8 h3) R' ((N.of (P:=_) h4).trans E')
  |false=>exact H3 hr (UJ h8 h3) R' ((N.of (P:=_) h4).trans E'))

theorem YA(hm:behindInMarks (JR o1a) rr=false)(m):markedBehindIn (JR o1a) rr m=m:=by unfold markedBehindIn;rw[hm]
theorem VH(hm:behindInMarks (JR o1a) rr=false)(H:JE c r env l (ev C ml))(H2:JE c r env rr (ev C mr)):JE c r env (.Compare l [JR o1a] [rr] pos) (ev C (.cmp o1a ml mr)):=fun J J J J J J J J hr hf R N=>bnE hf fun a U1a h1 h=>bnE h fun b U2a h3 h=>boE h fun q h5 h6=>by
 rw[dK];refine qB (H hr h1 R fun x ek eu ew ez e6=>?_)
 show wpAny _ _ (compareChain pos x [JR o1a] [markedBehindIn (JR o1a) rr (eval rr env)]) _ _ _;rw[YA hm];exact qB (qD (H2 hr h3 ew fun y em fB fE fP fH=>qB (qV (ct (Gd hr h5 fE (ez.ext fH) fP fun t ht=>((N.of h6).trans (e6.trans fH)).toks fE (.bool _) ht)))))
theorem Fl(hm:behindInMarks (JR o1a) rr=false)(H:JE c r env l (ev C ml))(H2:JE c r env rr (ev C mr)):JX c r env (.Compare l [JR o1a] [rr] pos) (tst C (.cmp o1a ml mr)):=fun J U J J J J J J hr hf R N=>bnE hf fun v fI h0 h=>boE h fun b0 k1 k2=>
 bnE (show bn (ev C ml U) (fun a U1a=>bn (ev C mr U1a) fun b U2a=>bo (Xh U2a o1a a b) fun c=>some (Vv.bool c,U2a))=some (v,fI) from h0) fun a U1a h1 h=>bnE h fun b U2a h3 h=>boE h fun q h5 h6=>by
  cases h6;cases k1;exact dL (H hr h1 R fun x ek eu ew ez e6=>H2 hr h3 ew fun y em fB fE fP fH=>Gd hr h5 fE (ez.ext fH) fP fun t ht=>bK (N.of (P:=_) k2 _ fB (fE.toks ht) ((e6.trans fH).trans .toks))) hm

noncomputable def ob{α:Type}(x:Option α)(f:α->Bool):Bool:=match x with
 |some a=>f a
 |none=>false
theorem obE{α:Type}{x:Option α}{f:α->Bool}{P:Prop}(h:ob x f=true)(k:∀a,x=some a->f a=true->P):P:=by
 cases x with
 |none=>exact ff h
 |some a=>exact k a rfl h
noncomputable def H5(v:Value):Option Addr:=match v with|.ref a=>some a|_=>none
theorem LK{v a}(h:H5 v=some a):v=.ref a:=by cases v<;>first|exact nn h|(cases h;rfl)
noncomputable def O9(o:Obj):Option (Array DictEntry×Nat):=match o.data with|.dict es n=>some (es,n)|_=>none
theorem VM{o p}(h:O9 o=some p):o.data=.dict p.1 p.2:=by
 unfold O9 at h;generalize o.data=d at h;cases d<;>first|exact nn h|(cases h;rfl)
noncomputable def ZDB(e:DictEntry)(k:Int):Bool:=Value.isInt k e.key&&(e.hash==hashInt k)
noncomputable def OT:List DictEntry->List Int->Bool
 |[],ks=>ks.isEmpty
 |e::es,ks=>(match ks with
  |[]=>false
  |k::ks=>ZDB e k&&OT es ks)
def OS(c:Cx)(ks:List Int)(a:Addr):Bool:=!(a==sysModules)&&ob (c.K.lookup a) fun o=>(o.cls==.type "dict")&&(o.dict.isNone&&(o.slots.isEmpty&&ob (O9 o) fun p=>OT p.1.toList ks))
def Z2(c:Cx)(n:Nat)(ks:List Int):Bool:=ob (nsIn c.K mainGlobals (c.nm n)) fun v=>ob v fun v=>ob (H5 v) (OS c ks)
theorem Ef{i k v}(h:Value.isInt k v=true):Value.isInt i v=(k==i):=by
 obtain⟨t,rfl⟩:=Value.isInt_shape h;rfl
theorem GJ{i}:∀{es:List DictEntry} {ks:List Int},OT es ks=true->(∀e∈es,∃k,Value.isInt k e.key=true/\e.hash=hashInt k)/\(es.find? fun e=>Value.isInt i e.key).isSome=ks.any (·==i):=by
 intro es;induction es with
 |nil=>
  intro ks h;rw[a6.mp h];exact⟨fun J h=>(nomatch h),rfl⟩
 |cons e es ih=>
  intro ks h;cases ks with
  |nil=>exact ff h
  |cons k ks=>
   exact bA h fun h1 h2=>bA h1 fun h1 h3=>by
    obtain⟨a,b⟩:=ih h2;refine⟨fun x hx=>(aZ.mp hx).elim (fun q=>⟨k,q▸h1,q▸bE h3⟩) (a x),?_⟩
    rw[bq,Ef h1,bG];cases k==i
    ·exact b
    ·rfl
theorem HJ{ks a w x q}(h:OS c ks a=true)(hf:KK ks w=some q)(R:Rel c env g U s)(X:Vx c env g s w x)(N:∀t,0<t->Q (.bool q) { s with toks:=t }):wpAny c.M A (compareOp (JR .inn) x (.ref a)) Q E s:=
 bA h fun h1 h=>obE h fun o ho h=>aA h fun h2 h3 h4 h=>obE h fun p hp h=>Wm (P:=fun w=>Vx c env g s w x->wpAny c.M A (compareOp .In x (.ref a)) Q E s) hf (fun i e X=>by
  cases e;exact X.intE (P:=fun x=>wpAny c.M A (compareOp .In x (.ref a)) Q E s) fun t=>wpAny_in_of (k:=i) (knd:=intKind c.prog c.w) (f:=fun k=>findBy Value.isInt p.1 k) (aS i) (Xc h1)
   ⟨o,p.1,p.2,R.kinD _ _ ho,⟨bE h2,bD.mp h3,eA.mp h4⟩,VM hp,fun e he=>(GJ (i:=0) h).1 e (cf.mpr he),fun J=>rfl⟩ (by
    rw[show (findBy Value.isInt p.1 i).isSome=ks.any (·==i) from (by rw[<- (GJ (i:=i) h).2];unfold findBy;rw[Option.isSome_map,<- Array.find?_toList])]
    exact N _ (xD _))) X
theorem DF(O:c.Ok)(VV:EnvOk env){n ks np}(hk:env.kindOf (c.nm n)=some .globalImplicit)(h:Z2 c n ks=true)(R:Rel c env g U s)(N:∀a,OS c ks a=true->Q (.ref a) s):wpAny c.M A (eval (.Name (c.nm n) np) env) Q E s:=
 obE h fun v h1 h=>obE h fun v h2 h=>obE h fun a h3 h=>by
  cases h2;cases LK h3;exact a3 VV.kind hk (qB ((dQ R.kinD (VV.glob▸h1:nsIn c.K env.globals (c.nm n)=some (some (.ref a)))).here (qC (N a h)))) (O.noDbg n)
theorem VA(O:c.Ok)(VV:EnvOk env){n ks np}(hm:behindInMarks (JR .inn) (.Name (c.nm n) np)=false)(hk:env.kindOf (c.nm n)=some .globalImplicit)(hn:Z2 c n ks=true)(H:JE c r env l (ev C ml)):JE c r env (.Compare l [JR .inn] [.Name (c.nm n) np] pos) (ev C (.ink ml n ks)):=fun J J J J J J J J hr hf R N=>bnE hf fun a U1a h1 h=>boE h fun q h5 h6=>by
 rw[dK];refine qB (H hr h1 R fun x ek eu ew ez e6=>?_)
 show wpAny _ _ (compareChain pos x [JR .inn] [markedBehindIn (JR .inn) (.Name (c.nm n) np) (eval (.Name (c.nm n) np) env)]) _ _ _;rw[YA hm];exact qB (qD (DF O VV hk hn ew fun a ha=>qB (qV (ct (HJ ha h5 ew ez fun t ht=>((N.of h6).trans e6).toks ew (.bool _) ht)))))
theorem Fj(O:c.Ok)(VV:EnvOk env){n ks np}(hm:behindInMarks (JR .inn) (.Name (c.nm n) np)=false)(hk:env.kindOf (c.nm n)=some .globalImplicit)(hn:Z2 c n ks=true)(H:JE c r env l (ev C ml)):JX c r env (.Compare l [JR .inn] [.Name (c.nm n) np] pos) (tst C (.ink ml n ks)):=fun J U J J J J J J hr hf R N=>bnE hf fun v fI h0 h=>boE h fun b0 k1 k2=>
 bnE (show bn (ev C ml U) (fun a U1a=>bo (KK ks a) fun q=>some (Vv.bool q,U1a))=some (v,fI) from h0) fun a U1a h1 h=>boE h fun q h5 h6=>by
  cases h6;cases k1;exact dL (H hr h1 R fun x ek eu ew ez e6=>DF O VV hk hn ew fun a ha=>HJ ha h5 ew ez fun t ht=>bK (N.of (P:=_) k2 _ eu (ew.toks ht) (e6.trans .toks))) hm

noncomputable def ZZ(c:Cx)(f:Nat):Bool:=(findIn c.K (.ref (c.cA c.iD)) "__contains__"==some (some (.ref (c.fA f))))&&isFn c.K (.ref (c.fA f))
theorem HK(O:c.Ok)(VV:EnvOk env){a b f x y}(hn:ZZ c f=true)(hI:c.I≠[])(HC:JK c r C)(hr:JM env A r)(h:onFn b (fun b=>bn (C f [b,a] U) fun v fI=>bo (WF v) fun q=>some (.bool q,fI))=some (v,U'))(R:Rel c env g U s)(X:Vx c env g s a x)(Y:Vx c env g s b y)
  (N:∀q s' g',v=.bool q->Rel c env g' U' s'->Ext env g g' s s'->Q (.bool q) s'):wpAny c.M A (compareOp (JR .inn) x y) Q E s:=
 OJ (P:=fun b=>Vx c env g s b y->_) h (fun i h Y=>bnE h fun w fI h1 h=>Y.fnE (by
  cases Za O R hI with
  |mk o es k D he hf I=>
   refine bA hn fun q1 q2=>qB (qD (qB (qB (I.type.here ((looks_findIn R.kinD (bE q1)).here ?_)))))
   rw[aN (by exact ff)]
   exact qB (unlessNone_K R.kinD I (bE q1) q2 (ZM (HC.go hr VV h1 R (.cons (.fn i) (.cons X .nil)) fun z s' g' R' X' E'=>Hb (P:=fun w=>Vx c env g' s' w z->_) h (fun q h X'=>X'.boolE (bK (qC (by cases h;exact N q s' g' rfl R' E')))) X')))) ) Y
theorem VB(O:c.Ok)(VV:EnvOk env){f}(hm:behindInMarks (JR .inn) rr=false)(hn:ZZ c f=true)(hI:c.I≠[])(HC:JK c r C)(H:JE c r env l (ev C ml))(H2:JE c r env rr (ev C mr)):JE c r env (.Compare l [JR .inn] [rr] pos) (ev C (.inf ml mr f)):=fun J J J J J J J J hr hf R N=>bnE hf fun a U1a h1 h=>bnE h fun b U2a h3 h=>by
 rw[dK];refine qB (H hr h1 R fun x ek eu ew ez e6=>?_)
 show wpAny _ _ (compareChain pos x [JR .inn] [markedBehindIn (JR .inn) rr (eval rr env)]) _ _ _;rw[YA hm];exact qB (qD (H2 hr h3 ew fun y em fB fE fP fH=>qB (qV (ct (HK O VV hn hI HC hr h fE (ez.ext fH) fP fun q s' g' e R' E'=>N _ s' g' R' (e▸.bool _) (e6.trans (fH.trans E')))))))
theorem Fk(O:c.Ok)(VV:EnvOk env){f}(hm:behindInMarks (JR .inn) rr=false)(hn:ZZ c f=true)(hI:c.I≠[])(HC:JK c r C)(H:JE c r env l (ev C ml))(H2:JE c r env rr (ev C mr)):JX c r env (.Compare l [JR .inn] [rr] pos) (tst C (.inf ml mr f)):=fun J U J J J J J J hr hf R N=>bnE hf fun v fI h0 h=>boE h fun b0 k1 k2=>
 bnE (show bn (ev C ml U) (fun a U1a=>bn (ev C mr U1a) fun b U2a=>onFn b fun b=>bn (C f [b,a] U2a) fun v fI=>bo (WF v) fun q=>some (Vv.bool q,fI))=some (v,fI) from h0) fun a U1a h1 h=>bnE h fun b U2a h3 h=>
  dL (H hr h1 R fun x ek eu ew ez e6=>H2 hr h3 ew fun y em fB fE fP fH=>HK O VV hn hI HC hr h fE (ez.ext fH) fP fun q s' g' e R' E'=>bK (by
   subst e;cases k1;exact N.of (P:=_) k2 _ g' R' (e6.trans (fH.trans E')))) hm

noncomputable def Vk{α:Type}(env:Nv)(m rr:Expr)(o1a o2a:CmpOp)(pos:Pos)(x:Value)(last:Value->Value->Sem α)(no:Value->α):Sem α:=do
 let rv <- holding [x] (eval m env)
 standAt pos
 let c <- holding [x,rv] (compareOp o1a x rv)
 release [x,rv] [c]
 if <- holding [c,rv] (PySem.truthy c) then (do
  let rw <- holding [rv] (eval rr env)
  standAt pos
  last rv rw) else pure (no c)
theorem Bs{α:Type}{last no a x w}{Q:α->Shared->Prop}(hr:JM env A r)(H2:JE c r env m (ev C mm))(H3:JE c r env rr (ev C mr))(R:Rel c env g U s)(X:Vx c env g s a x)
  (h:bn (ev C mm U) (fun b U2a=>bo (QQ U2a o1a a b) fun c=>match c with|false=>some (false,U2a)|true=>bn (ev C mr U2a) fun d fI=>bo (QQ fI o2a b d) fun c=>some (c,fI))=some w)
  (k1:w.1=false->∀s' g',Rel c env g' w.2 s'->Ext env g g' s s'->Q (no (.bool false)) s') (k2:∀s' g' y z,Rel c env g' w.2 s'->Ext env g g' s s'->(∀(Q:Value->Shared->Prop),Q (.bool w.1) s'->wpAny c.M A (compareOp (JR o2a) y z) Q E s')->wpAny c.M A (last y z) Q E s'):
  wpAny c.M A (Vk env m rr (JR o1a) (JR o2a) pos x last no) Q E s:=
 bnE h fun b U2a h3 h=>boE h fun q h5 h6=>qB (qD (H2 hr h3 R fun y em fB fE fP fH=>qB (qV (qB (qD (No hr h5 fE (X.ext fH) fP (qB (wpAny_release (qB (qD (bK (by
  cases q with
  |false=>cases h6;exact qC (k1 rfl _ _ fE fH)
  |true=>
   exact bnE h6 fun d fI h7 h8=>boE h8 fun q2 h9 h10=>by
    cases h10;exact qB (qD (H3 hr h7 fE fun z fO g3a fQ X3a fM=>qB (qV (k2 _ _ y z fQ (fH.trans fM) fun Q hq=>No hr h9 fQ (fP.ext fM) X3a hq))))))))))))))))
theorem Ge{a w}(h:bn (ev C mm U) (fun b U2a=>bo (QQ U2a o1a a b) fun c=>match c with|false=>some (Vv.bool false,U2a)|true=>bn (ev C mr U2a) fun d fI=>bo (QQ fI o2a b d) fun c=>some (Vv.bool c,fI))=some w):
  ∃q,w.1=.bool q/\bn (ev C mm U) (fun b U2a=>bo (QQ U2a o1a a b) fun c=>match c with|false=>some (false,U2a)|true=>bn (ev C mr U2a) fun d fI=>bo (QQ fI o2a b d) fun c=>some (c,fI))=some (q,w.2):=
 bnE h fun b U2a h3 h=>boE h fun q h5 h6=>by
  rw[h3];show ∃q',_/\bo (QQ U2a o1a a b) _=_;rw[h5];cases q with
  |false=>cases h6;exact⟨false,rfl,rfl⟩
  |true=>exact bnE h6 fun d fI h7 h8=>boE h8 fun q2 h9 h10=>by
              cases h10;refine⟨q2,rfl,?_⟩;show bn (ev C mr U2a) _=_;rw[h7];show bo (QQ fI o2a b d) _=_;rw[h9];rfl
theorem My(hm:behindInMarks (JR o2a) rr=false)(H:JE c r env l (ev C ml))(H2:JE c r env m (ev C mm))(H3:JE c r env rr (ev C mr)):JE c r env (.Compare l [JR o1a,JR o2a] [m,rr] pos) (ev C (.cmp2 o1a o2a ml mm mr)):=fun J J J J J J J J hr hf R N=>bnE hf fun a U1a h1 h=>by
 obtain⟨q,e,h⟩:=Ge h;cases e;rw[dK];refine qB (H hr h1 R fun x ek eu ew ez e6=>?_)
 show wpAny _ _ (compareChain pos x [JR o1a,JR o2a] [eval m env,markedBehindIn (JR o2a) rr (eval rr env)]) _ _ _;rw[YA hm];exact Bs (last:=fun rv rw=>operate [rv,rw] (compareOp (JR o2a) rv rw)) (no:=fun c=>c) hr H2 H3 ew ez h (fun e s' g' R' E'=>(N.trans (e6.trans E')).same R' (by rw[show q=false from e];exact .bool _)) fun s' g' y z R' E' k=>ct (k _ ((N.trans (e6.trans E')).same R' (.bool _)))
theorem EC(hm:behindInMarks (JR o2a) rr=false)(H:JE c r env l (ev C ml))(H2:JE c r env m (ev C mm))(H3:JE c r env rr (ev C mr)):JX c r env (.Compare l [JR o1a,JR o2a] [m,rr] pos) (tst C (.cmp2 o1a o2a ml mm mr)):=fun J U b J J J J J hr hf R N=>bnE hf fun v fI h0 h=>boE h fun b0 k1 k2=>
 bnE (show bn (ev C ml U) _=some (v,fI) from h0) fun a U1a h1 h=>by
  obtain⟨q,e,h⟩:=Ge h;cases e;cases k1;obtain⟨⟩:=k2;show wpAny _ _ (do testChain pos (<- eval l env) [JR o1a,JR o2a] [eval m env,markedBehindIn (JR o2a) rr (eval rr env)]) _ _ _
  rw[YA hm];exact qB (H hr h1 R fun x ek eu ew ez e6=>Bs (last:=fun rv rw=>do
    let c <- operate [rv,rw] (compareOp (JR o2a) rv rw)
    holding [c] (PySem.truthy c)) (no:=fun J=>false) hr H2 H3 ew ez h (fun e s' g' R' E'=>by have e:b=false:=e;subst e;exact N _ _ R' (e6.trans E')) fun s' g' y z R' E' k=>qB (ct (k _ (qD (bK (N _ _ R' (e6.trans E')))))))

theorem Sp(H:JE c r env e (ev C me)):JE c r env (.UnaryOp .Not e pos) (ev C (.not me)):=fun J J J J J J J J hr hf R N=>bnE hf fun w U2a h5 h=>boE h fun b' h7 h8=>
 wpAny_UnaryOp (H hr h5 R fun x ek eu ew ez e6=>not_of (Yu h7 ew ez fun s' g' R' E'=>N.of h8 _ s' g' R' (.bool _) (e6.trans E')))
theorem Sr(H:JE c r env e (ev C me)):JE c r env (.UnaryOp .USub e pos) (ev C (.neg me)):=fun J J J J J J J J hr hf R N=>bnE hf fun w U2a h5 h=>
 wpAny_UnaryOp (H hr h5 R fun x ek eu ew ez e6=>QM (P:=fun w=>Vx c env eu ek w x->_) h (fun i h ez=>Rq ew ez ((N.of h).trans e6)) ez)
theorem Mu{op}(H:JE c r env e (ev C ma)):JE c r env (.BoolOp op [e] pos) (ev C ma):=fun J J J J J J J J hr hf R N=>H hr hf R N
theorem VL(H:JE c r env e (ev C ma))(H2:JE c r env (.BoolOp .And (e'::es) pos) (ev C mb)):JE c r env (.BoolOp .And (e::e'::es) pos) (ev C (.and ma mb)):=fun J J J J J J J J hr hf R N=>bnE hf fun w U2a h5 h=>boE h fun b' h7 h8=>by
 rw[arm_eval_BoolOp];exact qB (H hr h5 R fun x ek eu ew ez e6=>qB (qV (qB (qD (Yu h7 ew ez fun s' g' R' E'=>by
  cases b' with
  |false=>exact qC (N.of h8 _ s' g' R' (ez.ext E') (e6.trans E'))
  |true=>exact H2 hr h8 R' (N.trans (e6.trans E')))))))
theorem ZBe(H:JE c r env e (ev C ma))(H2:JE c r env (.BoolOp .Or (e'::es) pos) (ev C mb)):JE c r env (.BoolOp .Or (e::e'::es) pos) (ev C (.or ma mb)):=fun J J J J J J J J hr hf R N=>bnE hf fun w U2a h5 h=>boE h fun b' h7 h8=>by
 rw[arm_eval_BoolOp];exact qB (H hr h5 R fun x ek eu ew ez e6=>qB (qV (qB (qD (Yu h7 ew ez fun s' g' R' E'=>by
  cases b' with
  |true=>exact qC (N.of h8 _ s' g' R' (ez.ext E') (e6.trans E'))
  |false=>exact H2 hr h8 R' (N.trans (e6.trans E')))))))
theorem Sw(H:JX c r env t (tst C mt))(H2:JE c r env e (ev C me))(H3:JE c r env o (ev C mo)):JE c r env (.IfExp t e o pos) (ev C (.ite mt me mo)):=fun J J J J J J J J hr hf R N=>bnE hf fun w U2a h5 h=>boE h fun b' h7 h8=>
 wpAny_IfExp (H hr (UJ h5 h7) R fun s' g' R' E'=>by
  cases b' with
  |true=>exact H2 hr h8 R' (N.trans E')
  |false=>exact H3 hr h8 R' (N.trans E'))
end
noncomputable def Gh.hid(g:Gh)(D:Addr->Prop):Gh:={ g with X:=fun a=>g.X a\/D a }
section
variable{c:Cx}{r:Nat}{env:Nv}{A:Around}{U U':St}{g eu:Gh}{s s' ek em:Shared}{E:Value->Shared->Prop}{Q:Value->Shared->Prop}{v:Vv}{D:Addr->Prop}

theorem QT{h:Heap}{o a:Addr}{p:Obj}(e:h.get? a=some p)(ho:h.objs.size<=o):a≠o:=fun z=>xS _ (xG (xP e) (z▸ho))
theorem K2{h:Heap}{o:Addr}(ho:h.objs.size<=o):∀a p,h.get? a=some p->a≠o:=fun a p e=>QT e ho
theorem Fz.hide{a o}(h:Fz env g s.heap a o)(k:∀b o,s.heap.get? b=some o->s'.heap.get? b=some o)(hD:∀a,D a->s.heap.objs.size<=a):Fz env (g.hid D) s'.heap a o:=
 ⟨k _ _ h.1,h.2.1,fun z=>z.elim h.2.2.1 fun d=>QT h.1 (hD _ d) rfl,h.2.2.2⟩
theorem Vx.hide{v x}(h:Vx c env g s v x)(k:∀b o,s.heap.get? b=some o->s'.heap.get? b=some o)(hD:∀a,D a->s.heap.objs.size<=a):Vx c env (g.hid D) s' v x:=
 h.mono (fun J J z=>z.hide k hD) fun J J z=>z
theorem Vxs.hide{v x}(h:Vxs c env g s v x)(k:∀b o,s.heap.get? b=some o->s'.heap.get? b=some o)(hD:∀a,D a->s.heap.objs.size<=a):Vxs c env (g.hid D) s' v x:=
 h.mono (fun J J z=>z.hide k hD) fun J J z=>z
theorem Rel0.carry{g' h h'}(R:Rel0 c env g U h)(kF:∀a o,Fz env g h a o->Fz env g' h' a o)(kW:∀a o,g.W a->h.get? a=some o->h'.get? a=some o)
  (kN:∀m,h.Ns env.locals m->h'.Ns env.locals m) (kR:∀a,Fs env a->Frd a h->Frd a h') (hW:g'.W=g.W) (hc:g'.cs=g.cs) (hX:∀a,g'.X a->∃o,h'.get? a=some o) (hd:∀a,g'.X a->¬g.W a):Rel0 c env g' U h':=by
 have kr:∀i a,g.rho i=some a->g'.rho i=some a:=fun i a z=>by unfold Gh.rho at z ⊢;rw[hc];exact z
 obtain⟨m,hm,hl⟩:=R.loc;exact⟨fun a o e=>kF _ _ (R.kin a o e),fun a e=>(R.wob a (hW▸e)).imp fun o z=>kW _ _ (hW▸e) z,hX,fun a e=>kR a e (R.frd a e),fun a e=>⟨fun z=>hd a z (hW▸e),(R.dis a (hW▸e)).2⟩,
  ⟨m,kN m hm,hl.mono kF kr⟩,fun id ob e=>(R.obs id ob e).imp fun r=>a5 fun o z=>⟨hc▸z.1,z.2.mono kF kr fun p=>kW _ _ (R.cW _ _ _ z.1)⟩,fun id r o e=>hW▸R.cW id r o (hc▸e),fun id id' r o r' e e'=>R.inj id id' r o r' (hc▸e) (hc▸e'),fun k e=>hc▸R.nx k e,fun k e=>hc▸R.ps k e⟩
theorem Rel.hide(R:Rel c env g U s)(k:∀b o,s.heap.get? b=some o->s'.heap.get? b=some o)(hD:∀a,D a->s.heap.objs.size<=a)(hx:∀a,D a->∃o,s'.heap.get? a=some o)(hp:0<s'.toks):
  Rel c env (g.hid D) U s':=
 ⟨R.toRel0.carry (fun J J z=>z.hide k hD) (fun a o J e=>k _ _ e) (fun m hm=>hm.keeps k) (fun a J x=>x.sl (.of fun o=>k a o)) rfl rfl (fun a z=>z.elim (fun z=>(R.xob a z).imp fun o e=>k _ _ e) (hx a))
  (fun a z w=>z.elim (R.dis a w).1 fun d=>(R.wob a w).elim fun J e=>QT e (hD a d) rfl),hp⟩
theorem Rel.changed(R:Rel c env eu U ek)(hX:∀a,D a->eu.X a)(hs:∀b p,¬D b->ek.heap.get? b=some p->s'.heap.get? b=some p)(he:∀a,D a->∃o,s'.heap.get? a=some o)(hfa:∀a,D a->¬FA env a)(hp:0<s'.toks):
  Rel c env eu U s':=
 ⟨R.toRel0.carry (fun a o z=>⟨hs _ _ (fun d=>z.2.2.1 (hX _ d)) z.1,z.2⟩) (fun a o w e=>hs _ _ (fun d=>(R.dis a w).1 (hX a d)) e) (fun m hm=>hm.at fun p e=>hs _ _ (fun d=>hfa _ d .own) e) (fun a q x=>x.sl (.of fun o=>hs a o fun d=>hfa a d (.inr q))) rfl rfl
  (fun a x=>ay (fun d:D a=>he a d) fun d=>(R.xob a x).imp fun o e=>hs _ _ d e) (fun a x w=>(R.dis a w).1 x),hp⟩
theorem Vx.changed{v x}(h:Vx c env eu ek v x)(hX:∀a,D a->eu.X a)(hs:∀b p,¬D b->ek.heap.get? b=some p->s'.heap.get? b=some p):Vx c env eu s' v x:=
 h.mono (fun a o z=>⟨hs _ _ (fun d=>z.2.2.1 (hX _ d)) z.1,z.2⟩) fun J J z=>z
theorem Vxs.changed{v x}(h:Vxs c env eu ek v x)(hX:∀a,D a->eu.X a)(hs:∀b p,¬D b->ek.heap.get? b=some p->s'.heap.get? b=some p):Vxs c env eu s' v x:=
 h.mono (fun a o z=>⟨hs _ _ (fun d=>z.2.2.1 (hX _ d)) z.1,z.2⟩) fun J J z=>z
theorem Rel.shown{X:Addr->Prop}(R:Rel c env eu U ek)(hX:∀a,X a->eu.X a):Rel c env { eu with X:=X } U ek:=
 ⟨R.toRel0.carry (fun a o z=>⟨z.1,z.2.1,fun x=>z.2.2.1 (hX a x),z.2.2.2⟩) (fun J J J e=>e) (fun J e=>e) (fun J J x=>x) rfl rfl (fun a x=>R.xob a (hX a x)) (fun a x w=>(R.dis a w).1 (hX a x)),R.pos⟩
theorem Vx.shown{X:Addr->Prop}{v x}(h:Vx c env eu ek v x)(hX:∀a,X a->eu.X a):Vx c env { eu with X:=X } ek v x:=
 h.mono (fun a o z=>⟨z.1,z.2.1,fun x=>z.2.2.1 (hX a x),z.2.2.2⟩) fun J J z=>z
theorem Vxs.shown{X:Addr->Prop}{v x}(h:Vxs c env eu ek v x)(hX:∀a,X a->eu.X a):Vxs c env { eu with X:=X } ek v x:=
 h.mono (fun a o z=>⟨z.1,z.2.1,fun x=>z.2.2.1 (hX a x),z.2.2.2⟩) fun J J z=>z
theorem Ext.hidden(k:∀b o,s.heap.get? b=some o->s'.heap.get? b=some o)(hg:gos s'=gos s)(hD:∀a,D a->s.heap.objs.size<=a)(x:Ext env (g.hid D) eu s' ek)
  (hs:∀b p,¬D b->ek.heap.get? b=some p->em.heap.get? b=some p) (hg2:gos em=gos ek):Ext env g { eu with X:=g.X } s em:=
 ⟨fun a o e w f=>(x.fz a o (k _ _ e) w f).elim fun z w'=>⟨hs _ _ (fun d=>QT e (hD a d) rfl) z,w'⟩,fun a q n o e=>(x.up a q n o (k _ _ e)).imp fun sl z=>hs _ _ (fun d=>QT e (hD a d) rfl) z,x.cs,rfl,hg2.trans (x.gens.trans hg)⟩

def ZDA(U:St):Id->Prop
 |.t k=>k<U.nx
 |.p k=>k∈U.ps
def Gh.add(g:Gh)(id:Id)(q o:Addr):Gh:={ g with W:=fun a=>g.W a\/a=o,cs:=fun i=>if i=id then some (q,o) else g.cs i }
theorem Gh.add_self{id q o}:(g.add id q o).cs id=some (q,o):=aR rfl
theorem Gh.add_rho{id q o}:(g.add id q o).rho id=some q:=by unfold Gh.rho;rw[Gh.add_self];rfl
theorem Gh.add_cs{id i q o}(h:i≠id):(g.add id q o).cs i=g.cs i:=aN h
theorem Gh.add_old{id i q o p}(hid:g.cs id=none)(e:g.cs i=some p):(g.add id q o).cs i=some p:=(Gh.add_cs fun q=>by rw[q,hid] at e;exact nn e).trans e
theorem Gh.add_mono{id i q o a}(hid:g.cs id=none)(e:g.rho i=some a):(g.add id q o).rho i=some a:=by
 unfold Gh.rho at e ⊢;cases h:g.cs i with
 |none=>rw[h] at e;exact nn e
 |some p=>rw[Gh.add_old hid h,<- h];exact e
structure Grows(U U':St)(id:Id)(ob:Ob):Prop where
 loc:U'.loc=U.loc
 hp:U'.hp=(id,ob)::U.hp
 nx:U.nx<=U'.nx
 ps:∀k,k∈U.ps->k∈U'.ps
 in_:ZDA U' id
theorem Rel0.more{h h':Heap}{G:Gh}(R:Rel0 c env g U h){id ob q o}(hGW:G.W=g.W)(hGc:G.cs=g.cs)(kF:∀a p,Fz env g h a p->Fz env (G.add id q o) h' a p)(kW:∀a p,g.W a->h.get? a=some p->h'.get? a=some p)
  (kN:∀m,h.Ns env.locals m->h'.Ns env.locals m) (kX:∀a,G.X a->∃p,h'.get? a=some p) (kf:∀a,Fs env a->Frd a h') (kd:∀a,g.W a->¬G.X a) (hWo:∀a,g.W a->a≠o) (hXo:¬G.X o) (hfo:¬FA env o) (he:∃p,h'.get? o=some p) (hid:g.cs id=none)
  (hob:(∀i a,g.rho i=some a->(G.add id q o).rho i=some a)->ObR c env (G.add id q o) h' ob q o) (hU:Grows U U' id ob):Rel0 c env (G.add id q o) U' h':=by
 have hGid:G.cs id=none:=hGc▸hid;have kr:∀i a,g.rho i=some a->(G.add id q o).rho i=some a:=fun i a z=>Gh.add_mono hGid (by unfold Gh.rho at z ⊢;rw[hGc];exact z)
 refine⟨fun a o e=>kF _ _ (R.kin a o e),fun a e=>e.elim (fun w=>(R.wob a (hGW▸w)).imp fun p z=>kW _ _ (hGW▸w) z) (fun z=>z▸he),kX,kf,fun a e=>e.elim (fun w=>⟨kd a (hGW▸w),(R.dis a (hGW▸w)).2⟩) (fun (z:a=o)=>by subst z;exact⟨hXo,hfo⟩),
  R.loc.imp fun m z=>⟨kN m z.1,hU.loc▸z.2.mono kF kr⟩,fun id' ob' e=>?_,fun i r o' e=>?_,fun i i' r o' r' e e'=>?_,fun j e=>?_,fun j e=>?_⟩
 ·rw[hU.hp] at e
  rw[UL] at e;by_cases hi:id=id'
  ·rw[aR hi] at e
   cases e;exact⟨q,o,hi▸Gh.add_self,hob kr⟩
  ·rw[aN hi] at e
   exact(R.obs id' ob' e).imp fun r=>a5 fun o' z=>⟨(Gh.add_cs (Ne.symm hi)).trans (hGc▸z.1),z.2.mono kF kr fun p=>kW _ _ (R.cW _ _ _ z.1)⟩
 ·by_cases hi:i=id
  ·rw[hi,Gh.add_self] at e;cases e;exact .inr rfl
  ·rw[Gh.add_cs hi,hGc] at e;exact .inl (hGW▸R.cW _ _ _ e)
 ·by_cases hi:i=id
  ·by_cases hi':i'=id
   ·exact hi.trans hi'.symm
   ·rw[hi,Gh.add_self] at e;rw[Gh.add_cs hi',hGc] at e';cases e;exact absurd rfl (hWo _ (R.cW _ _ _ e'))
  ·rw[Gh.add_cs hi,hGc] at e
   by_cases hi':i'=id
   ·rw[hi',Gh.add_self] at e';cases e';exact absurd rfl (hWo _ (R.cW _ _ _ e))
   ·rw[Gh.add_cs hi',hGc] at e';exact R.inj _ _ _ _ _ e e'
 ·rw[Gh.add_cs fun z=>bM.mpr e (by have:=hU.in_;rw[<- z] at this;exact this),hGc];exact R.nx j (qA hU.nx e)
 ·rw[Gh.add_cs fun z=>e (by have:=hU.in_;rw[<- z] at this;exact this),hGc];exact R.ps j fun z=>e (hU.ps _ z)
theorem Rel0.add{h h'}(R:Rel0 c env g U h){id ob q o}(K:Keep env (fun J=>False) h h')(ho:∀a p,h.get? a=some p->a≠o)(he:∃p,h'.get? o=some p)(hid:g.cs id=none)
  (hob:(∀a p,Fz env g h a p->Fz env (g.add id q o) h' a p)->(∀i a,g.rho i=some a->(g.add id q o).rho i=some a)->ObR c env (g.add id q o) h' ob q o)
  (hU:Grows U U' id ob):Rel0 c env (g.add id q o) U' h':=by
 have k:∀b p,b≠env.locals->h.get? b=some p->h'.get? b=some p:=fun b p=>K.k b p not_false
 have kF:∀a p,Fz env g h a p->Fz env (g.add id q o) h' a p:=fun a p z=>⟨k _ _ (fun e=>z.2.2.2 (.inl e)) z.1,fun w=>w.elim z.2.1 (ho a p z.1),z.2.2⟩
 obtain⟨m,hm,-⟩:=R.loc;have al:=K.alive hm fun a e=>e.elim
 exact R.more rfl rfl kF (fun a p w=>k _ _ fun e=>(R.dis a w).2 (.inl e)) K.ns (fun a e=>al a (R.xob a e)) (fun a e=>K.frd hm (fun J d=>d.elim) a e (R.frd a e)) (fun a w=>(R.dis a w).1) (fun a w=>(R.wob a w).elim fun p e=>ho a p e) (fun x=>(R.xob _ x).elim fun p e=>ho _ p e rfl) (fun x=>(R.fob _ x).elim fun p e=>ho _ p e rfl) he hid (hob kF) hU
theorem Ext.add{id q o}(K:Keep env (fun J=>False) s.heap s'.heap)(ho:∀a p,s.heap.get? a=some p->a≠o)(hid:g.cs id=none)(hg:gos s'=gos s):Ext env g (g.add id q o) s s':=
 ⟨fun a p e w f=>⟨K.k _ _ not_false (fun e=>f (.inl e)) e,fun z=>z.elim w fun z=>ho a p e z⟩,fun a J n=>.of fun o=>K.k a o not_false n,fun i p e=>Gh.add_old hid e,rfl,hg⟩
theorem Rel0.live{h}{X:Addr->Prop}(R:Rel0 c env g U h){id ob q o}(hX:∀a,X a->g.X a)(ho:g.X o)(hn':¬X o)(hfa:¬FA env o)(hid:g.cs id=none)
  (hob:(∀a p,Fz env g h a p->Fz env (({ g with X:=X }:Gh).add id q o) h a p)->(∀i a,g.rho i=some a->(({ g with X:=X }:Gh).add id q o).rho i=some a)->ObR c env (({ g with X:=X }:Gh).add id q o) h ob q o)
  (hU:Grows U U' id ob):Rel0 c env (({ g with X:=X }:Gh).add id q o) U' h:=
 have kF:∀a p,Fz env g h a p->Fz env (({ g with X:=X }:Gh).add id q o) h a p:=fun a p z=>⟨z.1,fun w=>w.elim z.2.1 fun e=>z.2.2.1 (e▸ho),fun x=>z.2.2.1 (hX a x),z.2.2.2⟩
 R.more (G:={ g with X:=X }) rfl rfl kF (fun J J J e=>e) (fun J e=>e) (fun a x=>R.xob a (hX a x)) R.frd (fun a w x=>(R.dis a w).1 (hX a x)) (fun a w e=>(R.dis a w).1 (e▸ho)) hn' hfa (R.xob o ho) hid (hob kF) hU
theorem Ext.live{X:Addr->Prop}{id q o g0a}(x:Ext env g0a { eu with X:=X } s ek)(ho:∀a p,s.heap.get? a=some p->a≠o)(hid:eu.cs id=none):Ext env g0a (({ eu with X:=X }:Gh).add id q o) s ek:=
 ⟨fun a p e w f=>⟨(x.fz a p e w f).1,fun z=>z.elim (x.fz a p e w f).2 fun z=>ho a p e z⟩,x.up,fun i p e=>Gh.add_old (g:={ eu with X:=X }) hid (x.cs i p e),x.X,x.gens⟩
end
end Mine.Tactic
end
noncomputable section
set_option maxRecDepth 100000
open PySem PySem.W PySem.Calls PySem.NumText PyProof.Rows
namespace Mine.Tactic
theorem WD{b c}{P:Nat->Prop}(h:dg b c=true)(h1:P 54)(h2:b=16->P 97):P c:=by
 unfold dg at h;rcases az.mp h with h|h
 ·exact aa h▸h1
 ·have h:=ag.mp h
  exact aa h.1▸h2 (aa h.2)
theorem Fy{b c}(hb:b=10\/b=16)(h:dg b c=true)(p):step b p c=some (p.1.push (dgV c),true):=by
 refine WD (P:=fun c=>step b p c=some (p.1.push (dgV c),true)) h ?_ fun e=>?_
 ·rcases hb with rfl|rfl<;>rfl
 ·subst e;rfl
theorem MR{b}(hb:b=10\/b=16):∀(l:LN) (p:Array Nat×Bool),(∀c∈l,dg b c=true)->l.foldlM (step b) p=some (⟨p.1.toList++l.map dgV⟩,l≠[]||p.2):=fun l=>by
 induction l with
 |nil=>exact fun p J=>by simp
 |cons c l ih=>
  intro p h;rw[List.foldlM_cons,Fy hb (h c (.head _))];refine(ih _ fun x hx=>h x (.tail _ hx)).trans ?_
  simp
theorem Et{b}:∀(l:LN) (n:Nat),(l.map dgV).foldl (fun acc d=>acc*b+d) n=l.foldl (fun n c=>n*b+dgV c) n:=fun l=>by
 induction l with
 |nil=>exact fun J=>rfl
 |cons c l ih=>exact fun n=>ih _
theorem LL{b l}(hb:b=10\/b=16)(hl:l.length<=640)(hne:l≠[])(h:∀c∈l,dg b c=true):(int_private% "readNumeral") 0 b l=(int_private% "Numeral.value") (numV b l):=by
 have hbl:∀c∈l,blank c=false:=fun c hc=>WD (P:=fun c=>blank c=false) (h c hc) rfl fun J=>rfl
 have d1:l.dropWhile blank=l:=by
  cases l with
  |nil=>rfl
  |cons c l=>rw[dy (by rw[hbl c (.head _)];exact ar)]
 have d2:(l.reverse.dropWhile blank).reverse=l:=by
  have e:l.reverse.dropWhile blank=l.reverse:=by
   have hr:∀c∈l.reverse,blank c=false:=fun c hc=>hbl c (eK.mp hc)
   cases q:l.reverse with
   |nil=>rfl
   |cons c r=>
    rw[q] at hr;rw[dy (by rw[hr c (.head _)];exact ar)]
  rw[e,dU]
 have hs:sign l=(false,l):=by
  cases l with
  |nil=>rfl
  |cons c l=>exact WD (P:=fun c=>sign (c::l)=(false,c::l)) (h c (.head _)) rfl fun J=>rfl
 have hp:prefix? l=none:=by
  cases l with
  |nil=>rfl
  |cons c l=>exact WD (P:=fun c=>prefix? (c::l)=none) (h c (.head _)) rfl fun J=>rfl
 have hbs:based b l=(b,false,l):=by
  unfold based;rw[hp];rcases hb with rfl|rfl<;>rfl
 rw[readNumeral_eq,d1,hs];show judge 0 false (based b l).1 (based b l).2.1 (digits? (based b l).1 (((based b l).2.2.reverse.dropWhile blank).reverse))=_;rw[hbs];show judge 0 false b false (digits? b ((l.reverse.dropWhile blank).reverse))=_;rw[d2];unfold digits?;rw[MR hb l _ h];have hz:(l≠[]||false)=true:=by rw[aU hne];rfl
 show judge 0 false b false (if (decide (l≠[])||false)=true then some (⟨[]++l.map dgV⟩:Array Nat) else none)=_;rw[aR hz];show (if ((![2,4,8,16,32].contains b&&false&&_):Bool)=true then _ else _)=_;rw[cS,cU,aN ar];have hsz:(b==10&&decide ((⟨[]++l.map dgV⟩:Array Nat).size > 6000))=false:=by
  rw[an,cS];show ¬([]++l.map dgV).length > 6000;rw[List.nil_append,aP];exact bM.mpr (qA hl (by decide))
 rw[hsz,aN ar];show (int_private% "Numeral.value") (((⟨[]++l.map dgV⟩:Array Nat).foldl (fun acc d=>acc*b+d) 0:Nat):Int)=_
 rw[<- Array.foldl_toList];show (int_private% "Numeral.value") (((l.map dgV).foldl (fun acc d=>acc*b+d) 0:Nat):Int)=_
 rw[Et];rfl
theorem EA{M A}{E:Value->Shared->Prop}{s}{Q:Value->Shared->Prop}{v text n b}
  (hs:(text.takeWhile (· != 0)).length<=640) (hr:(int_private% "readNumeral") 0 b (text.takeWhile (· != 0))=(int_private% "Numeral.value") n)
  (ha:((text.takeWhile (· != 0)).length==text.length)=true) (h:Q (.int n s.toks) { s with toks:=s.toks+1 }):
  wpAny M A ((int_private% "intFromText") v text b) Q E s:=by
 obtain⟨hp,g,d,tk,os⟩:=s
 repeat (any_goals (first
  |assumption
  |(with_reducible refine dp (aU hs) ?_)
  |(with_reducible refine dp (aU ha) ?_)
  |wp_step))
 all_goals (try rw[hr])
 all_goals (try dsimp only)
 repeat (any_goals (first
  |assumption
  |(with_reducible refine dp (aU hs) ?_)
  |(with_reducible refine dp (aU ha) ?_)
  |wp_step))
set_option maxHeartbeats 4000000 in
theorem Ab{x u t n b}(hb:b=10\/b=16)(h8:x.cps.all (·<128)=true)(hs:(x.cps.toList.takeWhile (· != 0)).length<=640)(hr:(int_private% "readNumeral") 0 b (x.cps.toList.takeWhile (· != 0))=(int_private% "Numeral.value") n)
  (ha:((x.cps.toList.takeWhile (· != 0)).length==x.cps.toList.length)=true):Gives (Builtin.«int.__new__» ⟨[.type "int",.str x u,.int b t],[]⟩) (.int n):=
 .of_wp fun M A E s Q h=>by
  obtain⟨hp,g,d,tk,os⟩:=s;have f1:=F.conv_sub_int;have f2:=F.madeHere_int;have f6:typeOf (.str x u)=pure (.type "str"):=rfl;have hk:=KIN.Hid.mk (And.intro hs (And.intro hr ha));have f3:(int_private% "numeralText?") (.str x u)=pure (some x.cps.toList):=by
   have e:(int_private% "numeralText?") (.str x u)=pure (some (if x.cps.all (·<128) then x.cps.toList else Unicode.numberText x.cps.toList)):=rfl
   rw[e,aR h8]
  clear hs hr ha h8;have hbb:(((b:Int) != 0&&decide ((b:Int)<2))||decide ((b:Int) > 36))=false:=by rcases hb with rfl|rfl<;>rfl
  repeat (any_goals (first
   |assumption
   |((with_reducible show wpAny _ _ ((int_private% "intFromText") _ _ _) _ _ _);refine EA hk.out.1 hk.out.2.1 hk.out.2.2 ?_)
   |wp_step))
  exact⟨_,rfl,h⟩
theorem tc2(a b):checkTypeCall "int" ⟨[a,b],[]⟩=pure ():=by kernel_rfl
theorem nc2(a b):checkBuiltinCall "int.__new__" ⟨[.type "int",a,b],[]⟩=pure ():=by kernel_rfl
section
variable{prog:Program}{w:World}{A:Around}{E:Value->Shared->Prop}{s:Shared}
theorem CF{x y S}{Q:Value->Shared->Prop}(g:Meets (Builtin.«int.__new__» ⟨[.type "int",x,y],[]⟩) S)(h:S A.in1 (wants (fun obj ek=>ek.TypeIs obj "int"/\Q obj ek) E) s):
  wpAny (model prog w) A (call (.type "int") [x,y]) Q E s:=
 callType_new F.called_int F.newNe_int (tc2 x y) (nc2 x y) (fun obj=>F.args_object_init_3 obj x y) F.entry_int_new g h
theorem AG{l x u t b}{Q:Value->Shared->Prop}(hx:x.cps.toList=l)(hb:b=10\/b=16)(hl:l.length<=640)(hne:l≠[])(h:∀c∈l,dg b c=true)(k:Q (.int (numV b l:Nat) s.toks) { s with toks:=s.toks+1 }):
  wpAny (model prog w) A (call (.type "int") [.str x u,.int b t]) Q E s:=by
 subst hx;have h0:∀c∈x.cps.toList,(c != 0)=true:=fun c hc=>WD (P:=fun c=>(c != 0)=true) (h c hc) rfl fun J=>rfl
 have hw:x.cps.toList.takeWhile (· != 0)=x.cps.toList:=by
  generalize x.cps.toList=l at h0;induction l with
  |nil=>rfl
  |cons c l ih=>rw[aw,h0 c (.head _),aR rfl,ih fun y hy=>h0 y (.tail _ hy)]
 have h8:x.cps.all (·<128)=true:=by
  rw[<- Array.all_toList];exact aq.mpr fun c hc=>aU (WD (P:=fun c=>c<128) (h c hc) (by decide) fun J=>by decide)
 exact CF (Ab hb h8 (by rw[hw];exact hl) (by rw[hw];exact LL hb hl hne h) (by rw[hw];exact aS _)).meets (show (Made.int (numV b x.cps.toList:Nat)).post _ s from ⟨rfl,k⟩)
end
end Mine.Tactic
end
noncomputable section
open PySem PySem.Calls PyProof.Rows PySem.W
namespace Mine.Tactic
theorem GV{C}:∀{es:List ME} {U U':St} {vs:List Vv},evs C es U=some (vs,U')->vs.length=es.length:=by
 intro l0;induction l0 with
 |nil=>
  intro _ _ _ h;cases h;rfl
 |cons _ _ ih=>
  intro _ _ _ h;exact bnE h fun v U1a h1 h=>bnE h fun vs U2a h3 h4=>by cases h4;exact aM (·+1) (ih h3)
section
variable{c:Cx}{r:Nat}{env:Nv}{A:Around}{U U':St}{g eu:Gh}{s s' ek em:Shared}{E:Value->Shared->Prop}{Q:Value->Shared->Prop}{v:Vv}{D:Addr->Prop}

theorem K4{lv ob v h'}{P:Vv->Prop}(h:U.alloc lv ob=some (v,U'))(hl:lv≠.frz)(R:Rel0 c env g U h')(k:∀id,g.cs id=none->Grows U U' id ob->P (.obj id)):P v:=by
 cases lv with
 |frz=>exact absurd rfl hl
 |tmp=>cases h;exact k _ (R.nx _ (qF _)) ⟨rfl,rfl,xC _,fun J z=>z,xB _⟩
 |per n=>
  have h:(if n∈U.ps then none else some (Vv.obj (.p n),{ U with hp:=(.p n,ob)::U.hp,ps:=n::U.ps }))=some (v,U'):=h
  by_cases hk:n∈U.ps
  ·rw[aR hk] at h;exact nn h
  ·rw[aN hk] at h;cases h;exact k _ (R.ps _ hk) ⟨rfl,rfl,qF _,fun J z=>.tail _ z,.head _⟩
theorem Bt{ob w}(h:U.alloc .frz ob=some (v,U'))(hw:ob.frz=some w):some (w,U)=some (v,U'):=by
 have h:bo ob.frz (fun v=>some (v,U))=some (v,U'):=h
 rw[hw] at h;exact h

theorem Nxt.list{lv l items n}(h:U.alloc lv (.list l)=some (v,U'))(N:Nxt c env g s v U' Q)(R:Rel c env g U s)(hv:Vxs c env g s l items.toList):
  Q (.ref s.heap.objs.size) { s with heap:=s.heap.push { cls:=.type "list",dict:=none,data:=.seq items n,slots:=#[] } }:=by
 by_cases hl:lv=.frz
 ·subst hl
  exact(N.of (Bt h rfl)).newList (t:=s.toks) R hv R.pos
 ·have hi:IsL (s.heap.push { cls:=.type "list",dict:=none,data:=.seq items n,slots:=#[] }) s.heap.objs.size items n:=qY _ rfl
  exact K4 (P:=fun v=>Nxt c env g s v U' Q->_) h hl R.toRel0 (fun id hid hU N=>N _ { s with heap:=s.heap.push { cls:=.type "list",dict:=none,data:=.seq items n,slots:=#[] } } (g.add id s.heap.objs.size s.heap.objs.size)
   ⟨R.toRel0.add (ob:=.list l) (.grown (Qb _ _)) (K2 (qF _)) ⟨_,hi⟩ hid (fun k1 k2=>⟨rfl,items,n,hi,hv.mono k1 k2⟩) hU,R.pos⟩ (.obj Gh.add_rho) (Ext.add (.grown (Qb _ _)) (K2 (qF _)) hid rfl)) N

theorem Kx{n}(h:n<=1000):n<=sizeLine:=qA h (by rw[dq];decide)
theorem Su{es C mes lv}{pos}(hs:es.all Ja=true)(fN:mes.length<=1000)(H:J1 c r env es (evs C mes)):JE c r env (.List es pos) (ev C (.lst mes lv)):=fun J J J J J J J J hr hf R N=>bnE hf fun vs U1a h1 h2=>wpAny_List (by
 rw[Qy hs];exact H hr h1 R fun xs ek eu ew ez e6=>⟨by rw[<- ez.length,GV h1];exact Kx fN,Nxt.list h2 (N.trans e6) ew ez⟩)
theorem Sj{es C mes}{k pos}(hs:es.all Ja=true)(fN:mes.length<=1000)(H:J1 c r env es (evs C mes)):JE c r env (.Tuple es k pos) (ev C (.tup mes)):=fun J J J J J J J J hr hf R N=>bnE hf fun vs U1a h1 h2=>wpAny_Tuple (by
 rw[Qy hs];exact H hr h1 R fun xs ek eu ew ez e6=>⟨by rw[<- ez.length,GV h1];exact Kx fN,((N.of h2).trans e6).push (t:=ek.toks) ew (.tup (Wd ew rfl) rfl rfl (Vxs.push ez)) ew.pos⟩)

theorem KU{l items n name id pl}{Q:Value×List Value->Shared->Prop}(hl:IsL s.heap l items n)(hs:Slot "list" name id)
  (ht:typeOf (.builtin id)=pure (.type "method_descriptor")) (h:Q (.builtin id,[.ref l]) s):wpAny c.M A (getMethod (.ref l) name pl) Q E s:=by
 have hT:s.TypeIs (.ref l) "list":=⟨_,hl,rfl⟩;unfold getMethod;refine qB (b9 hT list_getattribute ?_);show wpAny _ _ (if (Manifest.canonical "list.__getattribute__" != "object.__getattribute__")=true then _ else _) _ _ _;rw[canon_list_getattribute,aN ar];exact qB (b9 hT list_getattr_none (qB (b9 hT hs.lookup (qB (eW ht (qB (wpAny_load hl (qB (wpAny_rule (qC h))))))))))
theorem Cb{x}(h:Ja x=true):[x].all Ja=true:=by rw[List.all_cons,h];rfl
theorem VK{e x C me mx}{fK pos}(hc:Jv e=true)(hs:Ja x=true)(hl:(fK.endLine==pos.line)=true)(H:JE c r env e (ev C me))(H2:JE c r env x (ev C mx)):
  JE c r env (.Call (.Attribute e ("append":Str) fK) [x] [] pos) (ev C (.app me mx)):=fun J J J J J J J J hr hf R N=>bnE hf fun v U1a h1 h=>
 UZ hc (Cb hs) hl (by decide:1<25) (H hr h1 R fun a ek eu ew ez e6 pl=>Xu (P:=fun v=>Vx c env eu ek v a->_) h (fun id l0a ho0 h ez=>bnE h fun y U2a h3 h=>ez.objE fun b hb=>by
  obtain⟨items,n,hcs,hi,hv⟩:=Uy ew ho0 hb;exact KU hi slot_list_append type_list_append (P.append_list (H2 hr h3 ew fun y' em fB fE fP fH=>boE (show bo (JA U2a.hp id) _=some _ from h) fun o ho h=>by
   cases o with
   |list l=>
    exact bdE h fun hb' h=>by
     obtain⟨items,n,hcs,hi,hv⟩:=Uy fE ho (fH.rho hb);obtain⟨fQ,fM⟩:=Y7 (f:=fun xs=>xs.push y') (l':=l++[y]) fE hcs hi (by rw[cO];exact hv.append (.cons fP .nil))
     exact⟨items,n,by rw[Jf hv];exact hb',hi,N.of h _ _ _ fQ .none (e6.trans (fH.trans fM))⟩
   |_=>exact nn h))) ez)
theorem B3{id}{l l':List Vv}{b items n f y x}{w:Option (Vv×St)}(R:Rel c env g U s)(hcs:g.cs id=some (b,b))(hi:IsL s.heap b items n)
  (hv:Vxs c env g s l' (f items).toList) (hx:Vx c env g s y x) (N:Nxt c env g s y (U.setOb id (.list l')) Q):Q x { s with heap:=s.heap.update b (Obj.mapSeq f) }:=by
 obtain⟨fQ,fM⟩:=Y7 (f:=f) R hcs hi hv;exact N _ _ _ fQ (hx.ext fM) fM
theorem A9(items:Array Value):(items.eraseIdxIfInBounds (items.size-1)).toList=items.toList.take (items.toList.length-1):=by
 obtain⟨it⟩:=items;rw[List.size_toArray,dO];exact List.eraseIdx_length_sub_one.trans List.dropLast_eq_take
theorem Af(items:Array Value):(items.eraseIdxIfInBounds 0).toList=items.toList.drop 1:=by
 obtain⟨it⟩:=items;rw[dO];cases it<;>rfl
theorem Ms{e C me}{fK pos}(hc:Jv e=true)(hl:(fK.endLine==pos.line)=true)(H:JE c r env e (ev C me)):
  JE c r env (.Call (.Attribute e ("pop":Str) fK) [] [] pos) (ev C (.pop me [])):=fun J J J J J J J J hr hf R N=>bnE hf fun v U1a h1 h=>
 UZ hc rfl hl (by decide:0<25) (H hr h1 R fun a ek eu ew ez e6 pl=>Xu (P:=fun v=>Vx c env eu ek v a->_) h (fun id l ho h ez=>boE (show bo (KD false l) _=some _ from h) fun p hp h=>ez.objE fun b hb=>bdE hp fun hb' hp=>boE hp fun y hy hp=>by
  cases hp;obtain⟨items,n,hcs,hi,hv⟩:=Uy ew ho hb;have hz:=Jf hv;rw[List.getLast?_eq_getElem?] at hy;obtain⟨x,hx,hxv⟩:=hv.get hy;exact KU hi F.slot_list_pop F.type_list_pop (P.pop_list (y:=x) hi (by rw[hz,<- bQ];exact hx) (B3 (f:=fun xs=>xs.eraseIdxIfInBounds (items.size-1)) (l:=l) (w:=none) ew hcs hi (by rw[A9,<- hv.length,List.dropLast_eq_take];exact hv.take _) hxv ((N.of h).trans e6)) (by rw[hz];exact hb'))) ez)
theorem Mr{e C me}{k p fK pos}(hc:Jv e=true)(hl:(fK.endLine==pos.line)=true)(H:JE c r env e (ev C me)):
  JE c r env (.Call (.Attribute e ("pop":Str) fK) [.Constant (.int 0) k p] [] pos) (ev C (.pop me [.k (.int 0)])):=fun J J J J J J J J hr hf R N=>bnE hf fun v U1a h1 h=>
 UZ hc rfl hl (by decide:1<25) (H hr h1 R fun a ek eu ew ez e6 pl=>Xu (P:=fun v=>Vx c env eu ek v a->_) h (fun id l ho h ez=>boE (show bo (KD true l) _=some _ from h) fun p hp h=>ez.objE fun b hb=>by
  cases l with
  |nil=>exact nn hp
  |cons y l=>
   exact gdE hp fun hb' hp=>by
    cases hp;obtain⟨items,n,hcs,hi,hv⟩:=Uy ew ho hb;have hz:=Jf hv;obtain⟨x,hx,hxv⟩:=hv.get (i:=0) rfl;refine KU hi F.slot_list_pop F.type_list_pop (P.pop_at_list (wpAny_Constant_int ⟨items,n,0,_,0,x,?_,rfl,hi,rfl,?_,by rw[<- bQ];exact hx,?_⟩))
    ·rw[hz,<- Bg];exact qE hb'
    ·rw[hz];show (if (0<=(0:Int)&&decide ((0:Int)<((l.length+1:Nat):Int)))=true then some _ else none)=_
     rw[aU (Int.natCast_pos.mpr (xD _))];rfl
    ·exact B3 (s:={ ek with toks:=ek.toks+1 }) (f:=fun xs=>xs.eraseIdxIfInBounds 0) (l:=l) (w:=none) ew.toks hcs hi (by rw[Af];exact hv.drop 1) hxv (((N.of h).trans e6).trans .toks)) ez)

theorem E9{x}(O:c.Ok)(VV:EnvOk env){es C mes}{np pos}(hs:es.all Ja=true)(hk:env.kindOf x=some .globalImplicit)(hx:(x==("__debug__":Str))=false)
  (hd:J4 c x (.type "range")=true) (H2:J1 c r env es (evs C mes)):
  JE c r env (.Call (.Name x np) es [] pos) (ev C (.bi .range mes)):=fun J J J J J J J J hr hf R N=>bnE hf fun vs U1a h1 h=>boE h fun w h3 h4=>by
 rw[bN,Qy hs];refine qB (a3 VV.kind hk (UW O VV hd R (di Uw (Qz (H2 hr h1 R fun xs ek eu ew ez e6=>?_)))) hx)
 have X:=ez;cases vs with
 |nil=>exact nn h3
 |cons b vs=>
 cases vs with
 |nil=>exact X.oneE fun y X=>QM (P:=fun b=>Vx c env eu ek b y->_) (show onInt b (fun b=>some (Vv.rng 0 b))=some w from h3) (fun j h3 X=>by cases h3;exact X.intE fun t=>call_range_1 (((N.of h4).trans e6).push ew (.rng (Wd ew rfl)) (xD _))) X
 |cons b' vs=>
 cases vs with
 |cons _ _=>exact nn h3
 |nil=>exact X.twoE fun x y X Y=>XN (P:=fun x y=>wpAny c.M _ (call (.type "range") [x,y] []) _ _ ek) (a:=b) (b:=b') (f:=fun a b=>some (Vv.rng a b)) h3 X Y fun i j t u e=>by cases e;exact call_range_2 (((N.of h4).trans e6).push ew (.rng (Wd ew rfl)) (xD _))
theorem Bk{F:Addr->Obj->Prop}{ρ}:∀{l:List Vv} {ys:List Int} {xs:List Value},Ud l=some ys->VRs c F ρ l xs->numsOf xs=ys/\∀v∈xs,∃a t,v=.int a t:=by
 intro l0;induction l0 with
 |nil=>
  intro _ _ h hv;cases h;exact hv.nilE ⟨rfl,fun J h=>nomatch h⟩
 |cons _ _ ih=>
  intro ys xs h hv;exact hv.consE (P:=fun xs=>numsOf xs=ys/\∀v∈xs,∃a t,v=.int a t) fun y xs hw hv=>Wm (P:=fun v=>VR c F ρ v y->numsOf (y::xs)=ys/\∀v∈y::xs,∃a t,v=.int a t) h (fun z h hw=>boE h fun zs h1 h2=>by
    cases h2;obtain⟨a,b⟩:=ih h1 hv;exact hw.intE (P:=fun y=>numsOf (y::xs)=z::zs/\∀v∈y::xs,∃a t,v=.int a t) fun t=>⟨aM (z::·) a,fun y hy=>(aZ.mp hy).elim (fun e=>⟨_,_,e⟩) (b y)⟩) hw
theorem Sk{x}(O:c.Ok)(VV:EnvOk env){es C mes}{np pos}(hs:es.all Ja=true)(hk:env.kindOf x=some .globalImplicit)(hx:(x==("__debug__":Str))=false)
  (hd:J4 c x (.builtin "sum")=true) (H2:J1 c r env es (evs C mes)):
  JE c r env (.Call (.Name x np) es [] pos) (ev C (.bi .sum mes)):=fun A J J J J J E Q hr hf R N=>bnE hf fun vs U1a h1 h=>boE h fun w h3 h4=>by
 rw[bN,Qy hs];refine qB (a3 VV.kind hk (UW O VV hd R (cI Uw (Qz (H2 hr h1 R fun xs ek eu ew ez e6=>?_)))) hx)
 exact Wj (P:=fun l=>Vxs c env eu ek l xs->wpAny c.M A (call (.builtin "sum") xs []) Q E ek) h3 (fun a h X=>X.oneE fun y X=>by
  cases a<;>first|exact nn h|skip
  exact boE h fun ys h5 h6=>by
   cases h6;exact X.listE fun b items n f1 r1=>by
    obtain⟨e1,e2⟩:=Bk h5 r1;have hall:AllInts items:=fun v hv=>e2 v (cf.mpr hv)
    obtain⟨zs,rfl⟩:=hall.items;rw[nums_intItems] at e1;refine Qj ew.pos (sum_intListG hr.1 (IsL.isList f1.1) fun h' tk t' kk htk=>?_)
    rw[preSum_eq,bz (by rw[aP,ba];exact qF _),e1]
    exact((N.of h4).trans e6).grow ew (s':={ ek with heap:=h',toks:=tk }) kk rfl (.int _ _) htk) ez
theorem Vy{i b}(h:Oc i=some b):(b=10\/b=16)/\i=b:=by
 unfold Oc at h;by_cases h1:i=10
 ·rw[aR h1] at h;cases h;exact⟨.inl rfl,h1⟩
 ·rw[aN h1] at h
  by_cases h2:i=16
  ·rw[aR h2] at h;cases h;exact⟨.inr rfl,h2⟩
  ·rw[aN h2] at h;exact nn h
theorem Mv{x}(O:c.Ok)(VV:EnvOk env){es C mes}{np pos}(hs:es.all Ja=true)(hk:env.kindOf x=some .globalImplicit)(hx:(x==("__debug__":Str))=false)
  (hd:J4 c x (.type "int")=true) (H2:J1 c r env es (evs C mes)):
  JE c r env (.Call (.Name x np) es [] pos) (ev C (.bi .int mes)):=fun J J J J J J J J hr hf R N=>bnE hf fun vs U1a h1 h=>boE h fun w h3 h4=>by
 rw[bN,Qy hs];refine qB (a3 VV.kind hk (UW O VV hd R (di Uw (Qz (H2 hr h1 R fun xs ek eu ew ez e6=>?_)))) hx)
 have X:=ez;cases vs with
 |nil=>exact nn h3
 |cons a vs=>cases vs with
  |nil=>exact nn h3
  |cons b vs=>cases vs with
   |cons _ _=>exact nn h3
   |nil=>exact X.twoE fun x y X Y=>Ql (P:=fun a=>Vx c env eu ek a x->_) (show onStr a _=some w from h3) (fun z h3 X=>QM (P:=fun b=>Vx c env eu ek b y->_) h3 (fun i h3 Y=>boE h3 fun n hn h3=>gdE h3 fun hg e=>bA hg fun hg h5=>bA hg fun h1 h2=>by
     cases e;obtain⟨hb,rfl⟩:=Vy hn;exact X.strE fun t=>Y.intE fun u=>AG (l:=z) rfl hb (qE h2) (fun q=>by subst q;exact ff h1) (aq.mp h5) (((N.of h4).trans e6).toks ew (.int _ _))) Y) X
theorem Ru{l m M}(h:I6 l=some m)(h1:M∈l)(h2:∀a∈l,a<=M):M=m:=
 Int.le_antisymm (qH (aq.mp (List.find?_some (p:=fun m=>l.all fun a=>decide (a<=m)) h) M h1)) (h2 m (eE h))
theorem Ss{x}(O:c.Ok)(VV:EnvOk env){es C mes}{np pos}(hs:es.all Ja=true)(hk:env.kindOf x=some .globalImplicit)(hx:(x==("__debug__":Str))=false)
  (hd:J4 c x (.builtin "max")=true) (H2:J1 c r env es (evs C mes)):
  JE c r env (.Call (.Name x np) es [] pos) (ev C (.bi .max mes)):=fun A J J J J J E Q hr hf R N=>bnE hf fun vs U1a h1 h=>boE h fun w h3 h4=>by
 rw[bN,Qy hs];refine qB (a3 VV.kind hk (UW O VV hd R (cI Uw (Qz (H2 hr h1 R fun xs ek eu ew ez e6=>?_)))) hx)
 exact Wj (P:=fun l=>Vxs c env eu ek l xs->wpAny c.M A (call (.builtin "max") xs []) Q E ek) h3 (fun a h X=>X.oneE fun y X=>by
  cases a<;>first|exact nn h|skip
  exact boE h fun ys h5 h=>boE h fun m h6 h7=>by
   cases h7;exact X.listE fun b items n f1 r1=>by
    obtain⟨e1,e2⟩:=Bk h5 r1;have hall:AllInts items:=fun v hv=>e2 v (cf.mpr hv)
    obtain⟨zs,rfl⟩:=hall.items;rw[nums_intItems] at e1;have hl:(zs.toList.map (·.1)).length=zs.size:=by rw[aP,ba]
    have hsz:0<zs.size:=Nat.pos_of_ne_zero fun q=>by
     rw[<- hl,e1] at q;rw[List.length_eq_zero_iff.mp q] at h6;exact nn h6
    refine Qj ew.pos (max_intList hr.1 (IsL.isList f1.1) hsz fun v h' tk hv hk htk=>?_)
    obtain⟨t,rfl⟩:=intItems_at hv;obtain⟨k1,k2⟩:=argBest_gt (numAt zs) (zs.size-1);cases Ru h6 (M:=numAt zs (argBest (fun i j=>decide (numAt zs i > numAt zs j)) (zs.size-1))) (by
     rw[<- e1,numAt_eq];exact getD_mem (by rw[hl];exact qL k1 (Nat.sub_lt hsz Nat.zero_lt_one))) fun a ha=>by
     rw[<- e1] at ha;obtain⟨j,hj,rfl⟩:=mem_getD ha;rw[hl] at hj;rw[<- numAt_eq];exact k2 j (Nat.le_sub_one_of_lt hj)
    exact((N.of h4).trans e6).grow ew (s':={ ek with heap:=h',toks:=tk }) hk rfl (.int _ _) htk) ez
end
section
variable{c:Cx}{r:Nat}{env:Nv}{A:Around}{U U':St}{g eu:Gh}{s s' ek em:Shared}{E:Value->Shared->Prop}{Q:Value->Shared->Prop}{v:Vv}{D:Addr->Prop}

inductive EvAll(c:Cx)(r:Nat)(env:Nv)(C:Ora):List Expr->List ME->Prop
 |nil:EvAll c r env C [] []
 |cons {e:Expr} {es:List Expr} {me:ME} {mes:List ME}:JE c r env e (ev C me)->EvAll c r env C es mes->EvAll c r env C (e::es) (me::mes)
theorem EvAll.evs{C es mes}(h:EvAll c r env C es mes):J1 c r env es (evs C mes):=
 EvAll.rec (motive:=fun es mes J=>J1 c r env es (Tactic.evs C mes)) GU (fun a J ih=>DK a ih) h

def Zy(o:Option Expr)(k:LN):Bool:=match o with
 |some e=>ctq fun h=>Expr.Constant.elim (motive_1:=fun J=>Bool) e h fun v J J=>ctq fun h=>Const.str.elim (motive:=fun J=>Bool) v h fun x=>x==toS k
 |none=>false
theorem NI{o k}{P:Option Expr->Prop}(h:Zy o k=true)(f:∀n p,P (some (.Constant (.str (toS k)) n p))):P o:=by
 cases o with
 |none=>exact ff h
 |some e=>
  exact Jd h fun q=>Expr.Constant.elim (motive_1:=fun e=>Zy (some e) k=true->P (some e)) e q (fun v n p h=>Jd (show (ctq fun h=>Const.str.elim (motive:=fun J=>Bool) v h fun x=>x==toS k)=true from h) fun q=>Const.str.elim (motive:=fun v=>Zy (some (.Constant v n p)) k=true->P (some (.Constant v n p))) v q (fun x h=>bE h▸f n p) h) h
noncomputable def XH:List (Option Expr)->List LN->Bool
 |[],ks=>ks.isEmpty
 |o::r,ks=>match ks with
  |[]=>false
  |k::ks=>Zy o k&&XH r ks
noncomputable def Ub(env:Nv)(pos:Pos):List (Option Expr)->List Expr->List (Sem Value×Sem Value)
 |[],_=>[]
 |o::ks,es=>match o,es with
  |some k,e::es=>(eval k env,do let x <- eval e env;standAt pos;pure x)::Ub env pos ks es
  |_,_=>[]
theorem AB{pos}:∀{keys:List (Option Expr)} {ks:List LN} {es:List Expr},XH keys ks=true->(evalEachOpt keys env).zip ((evalEach es env).map fun v=>do let x <- v;standAt pos;pure x)=(Ub env pos keys es).map fun p=>(some p.1,p.2):=by
 intro keys;induction keys with
 |nil=>
  intro _ es _;rfl
 |cons o keys ih=>
  intro ks es h;cases ks with
  |nil=>exact ff h
  |cons k ks=>
   exact bA h fun h1 h2=>NI (P:=fun o=>(evalEachOpt (o::keys) env).zip ((evalEach es env).map fun v=>do let x <- v;standAt pos;pure x)=(Ub env pos (o::keys) es).map fun p=>(some p.1,p.2)) h1 fun n p=>by
     cases es with
     |nil=>rfl
     |cons e es=>exact aM (List.cons _) (ih (es:=es) h2)
theorem Dg(k t):(PySem.strKind c.prog c.w).is (toS k) (.str (toS k) t)=true:=aS (toS k)
def Yj(c:Cx)(r:Nat)(env:Nv)(C:Ora)(pos:Pos)(E:Value->Shared->Prop)(es:List Expr)(mes:List ME):Prop:=∀⦃keys:List (Option Expr)⦄ ⦃ks:List LN⦄ ⦃A:Around⦄ ⦃U U':St⦄ ⦃vs:List Vv⦄ ⦃g:Gh⦄ ⦃s:Shared⦄ ⦃Q:List (Value×Value)->Shared->Prop⦄,
  XH keys ks=true->ks.length=mes.length->JM env A r->evs C mes U=some (vs,U')->Rel c env g U s ->
  (∀ps kvs s' g',Carries (PySem.strKind c.prog c.w) ps kvs->kvs.map (·.1)=ks.map toS->Rel c env g' U' s'->Vxs c env g' s' vs (kvs.map (·.2))->Ext env g g' s s'->Q ps s') ->
  wpAny c.M A (evalPairs (Ub env pos keys es)) Q E s
theorem CZ{C pos}:Yj c r env C pos E [] []:=fun keys ks J J J J g s Q hk hl J hf R hq=>by
 cases ks with
 |cons _ _=>exact nomatch hl
 |nil=>cases keys with
  |cons _ _=>exact ff hk
  |nil=>cases hf;exact evalPairs_nil (hq [] [] s g trivial rfl R .nil .refl)
theorem Aw{C pos e es m mes}(a:JE c r env e (ev C m))(ih:Yj c r env C pos E es mes):Yj c r env C pos E (e::es) (m::mes):=fun keys ks J J J J g s Q hk hl hr hf R hq=>by
 cases ks with
 |nil=>exact nomatch hl
 |cons k ks=>cases keys with
  |nil=>exact ff hk
  |cons o keys=>
   exact bA hk fun h1 h2=>bnE hf fun v U1a k1 h=>bnE h fun vs' U2a k3 k4=>by
    cases k4;exact NI (P:=fun o=>wpAny c.M _ (evalPairs (Ub env pos (o::keys) (e::es))) Q E s) h1 fun n p=>evalPairs_cons (eH (qB (a hr k1 R.toks fun y ek eu ew ez e6=>qB (qV (qC (ih h2 (Nat.succ.inj hl) hr k3 ew fun ps kvs em fB hc he fE fP fH=>
     hq _ ((toS k,y)::kvs) em fB ⟨Dg k _,rfl,hc⟩ (aM (toS k::·) he) fE (.cons (ez.ext fH) fP) (Ext.toks.trans (e6.trans fH))))))))
theorem ER{C pos es mes}(H:EvAll c r env C es mes):Yj c r env C pos E es mes:=EvAll.rec (motive:=fun es mes J=>Yj c r env C pos E es mes) CZ (fun a J ih=>Aw a ih) H

theorem V6(O:c.Ok)(R:Rel0 c env g U h):3<h.objs.size:=O.big.elim fun o e=>xP (R.kin 3 o e).1
theorem CO{ks:List LN}(h:ks.Nodup):(ks.map toS).Nodup:=by
 rw[cm,List.pairwise_map];exact h.imp fun a e=>a (U0 e)
theorem Ca{C pos es mes}(H:EvAll c r env C es mes):∀keys:List (Option Expr),(Ub env pos keys es).length<=mes.length:=
 EvAll.rec (motive:=fun es mes J=>∀keys:List (Option Expr),(Ub env pos keys es).length<=mes.length) (fun keys=>by cases keys with|nil=>exact qG _|cons o _=>cases o<;>exact qG _)
  (fun J J ih keys=>by cases keys with|nil=>exact qG _|cons o keys=>cases o with|none=>exact qG _|some _=>exact qJ (ih keys)) H
theorem ES{C pos keys ks es mes}(H:EvAll c r env C es mes)(hk:XH keys ks=true)(hl:ks.length=mes.length)(hne:mes≠[]):Ub env pos keys es≠[]:=by
 cases H with
 |nil=>exact absurd rfl hne
 |cons a b=>cases keys with
  |nil=>cases ks with
   |nil=>exact nomatch hl
   |cons _ _=>exact ff hk
  |cons o keys=>cases ks with
   |nil=>exact ff hk
   |cons k ks=>exact bA hk fun h1 J=>NI (P:=fun o=>Ub env pos (o::keys) (_::_)≠[]) h1 fun J J=>List.cons_ne_nil _ _
noncomputable def Yg:Obj:={ cls:=.type "dict",data:=.dict #[] }
theorem Nxt.dict(O:c.Ok){lv ks vs kvs h' t U0a}(h:U.alloc lv (.dict ks vs)=some (v,U'))(N:Nxt c env g s v U' Q)(R:Rel c env g U0a s)
  (ew:Rel c env eu U ek) (e6:Ext env (g.hid (·=s.heap.objs.size)) eu { s with heap:=s.heap.push Yg } ek) (ez:Vxs c env eu ek vs (kvs.map (·.2))) (he:kvs.map (·.1)=ks.map toS) (hd:h'.DictOf (PySem.strKind c.prog c.w) s.heap.objs.size kvs)
  (hs:Heap.SameBut s.heap.objs.size ek.heap h'):Q (.ref s.heap.objs.size) { ek with heap:=h',toks:=ek.toks+t }:=by
 have fr:=K1 R;have hXd:∀a,a=s.heap.objs.size->eu.X a:=fun a e=>by rw[e6.X];exact .inr e
 have hXg:∀a,g.X a->eu.X a:=fun a e=>by rw[e6.X];exact .inl e
 obtain⟨o,ho,hod⟩:=bR.mp hd;have hs':∀b p,¬b=s.heap.objs.size->ek.heap.get? b=some p->h'.get? b=some p:=fun b p e z=>(hs.2 b e).trans z
 have fE:Rel c env eu U { ek with heap:=h',toks:=ek.toks+t }:=ew.changed (D:=(·=s.heap.objs.size)) hXd hs' (fun a e=>e▸⟨o,ho⟩) (fun a e=>e▸fr.2.2) (xG ew.pos (qK _ _))
 have fP:Vxs c env eu { ek with heap:=h',toks:=ek.toks+t } vs (kvs.map (·.2)):=ez.changed (D:=(·=s.heap.objs.size)) hXd hs'
 have fH:Ext env g { eu with X:=g.X } s { ek with heap:=h',toks:=ek.toks+t }:=Ext.hidden (s':={ s with heap:=s.heap.push Yg }) (D:=(·=s.heap.objs.size)) (Qb _ _) rfl (fun a e=>e▸qF _) e6 hs' rfl
 have hsm:(s.heap.objs.size==sysModules)=false:=bX fun e=>by
  have:=V6 O R.toRel0;rw[e] at this;exact absurd this (by decide)
 by_cases hlv:lv=.frz
 ·subst hlv
  exact N.of (Bt h rfl) _ _ _ (fE.shown hXg) (.dict ⟨ho,fun w=>(fE.dis _ w).1 (hXd _ rfl),fr.2.1,fr.2.2⟩ hod he (fP.shown hXg) hsm) fH
 ·exact K4 (P:=fun v=>Nxt c env g s v U' Q->_) h hlv fE.toRel0 (fun id hid hU N=>N _ _ _ ⟨fE.toRel0.live (ob:=.dict ks vs) hXg (hXd _ rfl) fr.2.1 fr.2.2 hid (fun k1 k2=>⟨rfl,hsm,kvs,hd,he,fP.mono k1 k2⟩) hU,fE.pos⟩ (.obj Gh.add_rho) (Ext.live fH (K2 (qF _)) hid)) N
theorem VG(O:c.Ok){keys ks es C mes lv}{pos}(hk:XH keys ks=true)(hl:ks.length=mes.length)(hl2:mes.length<=15)(hne:mes≠[])(H:EvAll c r env C es mes):
  JE c r env (.Dict keys es pos) (ev C (.dct ks mes lv)):=fun J J J J g s J J hr hf R N=>bnE hf fun vs U1a h1 h=>gdE h fun hn h2=>bA hn fun J hn=>by
 have P:=Wd R (o:=Yg) rfl;have R0:Rel c env (g.hid (·=s.heap.objs.size)) _ { s with heap:=s.heap.push Yg }:=R.hide (Qb s.heap Yg) (fun a e=>e▸qF _) (fun a e=>⟨_,e▸P.1⟩) R.pos
 refine wpAny_Dict_pairs (knd:=PySem.strKind c.prog c.w) (AB hk) (ES H hk hl hne) (qA (Ca H keys) hl2) (ER H hk hl hr h1 R0 fun ps kvs ek eu hc he ew ez e6=>⟨kvs,hc,?_,fun h' hd hs=>?_⟩)
 ·have e3:=(e6.fz _ _ P.1 P.2.1 P.2.2.2).1
  obtain⟨o,e1,e2⟩:=bR.mp (Heap.DictOf.new (knd:=PySem.strKind c.prog c.w) s.heap);cases P.1.symm.trans e1;exact bR.mpr ⟨_,e3,e2⟩
 ·rw[merged_nil_of_nodup kvs (by rw[he];exact CO (qH hn))] at hd
  exact Nxt.dict O h2 N R ew e6 ez he hd hs
end
noncomputable def ZW(h:Heap)(d L:Addr):List (Addr×Obj):=(List.range h.objs.size).filterMap fun a=>if a=d\/a=L then none else (h.get? a).map (a,·)
theorem W0{h d L a o}:(a,o)∈ZW h d L ↔ h.get? a=some o/\a≠d/\a≠L:=by
 unfold ZW;rw[List.mem_filterMap]
 constructor
 ·rintro ⟨b,hb,e⟩
  by_cases hn:b=d\/b=L
  ·rw[aR hn] at e;exact nn e
  ·rw[aN hn] at e
   obtain⟨o',ho,e⟩:=Option.map_eq_some_iff.mp e;cases e;exact⟨ho,fun q=>hn (.inl q),fun q=>hn (.inr q)⟩
 ·rintro ⟨ho,h1,h2⟩
  exact⟨a,eb.mpr (xP ho),by rw[aN (fun q=>q.elim h1 h2),ho];rfl⟩
section
variable{c:Cx}{r:Nat}{env:Nv}{A:Around}{U U':St}{g eu:Gh}{s s' ek em:Shared}{E:Value->Shared->Prop}{Q:Value->Shared->Prop}{v:Vv}{D:Addr->Prop}

theorem FsR.len{F:Addr->Obj->Prop}{ρ fs es}(h:FsR c F ρ fs es):fs.length=es.length:=
 FsR.rec (motive:=fun fs es J=>fs.length=es.length) rfl (fun J J J ih=>aM (·+1) ih) h
theorem FsR.put(O:c.Ok){F:Addr->Obj->Prop}{ρ fs es}(h:FsR c F ρ fs es){n x hs t}(hv:VR c F ρ v x):
  FsR c F ρ (Tactic.put fs n v) (putL (c.nm n) hs (.str (c.nm n) t) x es):=
 FsR.rec (motive:=fun fs es J=>FsR c F ρ (Tactic.put fs n v) (putL (c.nm n) hs (.str (c.nm n) t) x es)) (.cons rfl hv .nil) (fun {n' w fs e es t'} hk hw hr ih=>by
  have e:=DD hk n;rw[OG];unfold putL;by_cases hn:n'=n
  ·rw[aR hn,aR (by rw[e,hn];exact aS _)]
   exact .cons hk hv hr
  ·rw[aN hn,aN (by rw[e];exact fun q=>hn (O.inj _ _ (bE q)))]
   exact .cons hk hw ih) h
theorem LR(n v):∀fs:List (Nat×Vv),(Tactic.put fs n v).length<=fs.length+1:=fun l0=>by
 induction l0 with
 |nil=>
  exact qF _
 |cons p0 fs ih=>
  obtain⟨a,b⟩:=p0;rw[OG];by_cases h:a=n
  ·rw[aR h];exact xC _
  ·rw[aN h];exact qJ (ih)
theorem FsR.get_some(O:c.Ok){F:Addr->Obj->Prop}{ρ fs es}(h:FsR c F ρ fs es)(n k):(PySem.W.lookIn (c.nm n) (dictOf es k)).isSome=true:=by
 cases q:Tactic.JA fs n with
 |some v=>obtain⟨x,e,-⟩:=h.lookIn_some O (k:=k) q;rw[e];rfl
 |none=>rw[h.lookIn_none O q];rfl

theorem Yq(O:c.Ok){n C o v x y}{Q:Unit->Shared->Prop}(hn:QD c C n=true)(hf:Tactic.W7 U n C o v=some U')(R:Rel c env g U s)(X:Vx c env g s o x)(Y:Vx c env g s v y)
  (N:∀s',Rel c env g U' s'->Ext env g g s s'->Q () s'):wpAny c.M A (PySem.setAttr x (c.nm n) y) Q E s:=
 WU (P:=fun o=>Vx c env g s o x->_) hf (fun id fs ho h X=>gdE h fun fN h=>X.objE fun a ha=>by
  cases h;have fN:fs.length<400:=Nat.lt_of_succ_le (qE fN);have hput:=LR n v fs;obtain⟨q,hc,HO⟩:=Wc R ho ha;obtain⟨hC,-,hz,es,k,he,hfs⟩:=HO;have D:=O.clsOf hC;obtain⟨m,hm,-⟩:=R.loc;have hq:q≠env.locals:=fun e=>(R.dis q (R.cW _ _ _ hc)).2 (.inl e)
  have F:Fr {} env.locals s.heap m:=⟨hm,fun b o e=>absurd (xP e) (xJ _),qG _⟩
  have N0:News {} env.locals s.heap ((q,dictOf es k)::ZW s.heap q env.locals):=fun p hp=>(aZ.mp hp).elim (fun e=>by subst e;exact⟨he,hq,rfl⟩) fun hp=>let z:=W0.mp (show (p.1,p.2)∈_ from hp);⟨z.1,z.2.2,rfl⟩
  have ht:takerIn c.K (c.cA C) (c.nm n)=some none:=by unfold takerIn;rw[Cls.usual hn];rfl
  refine set_plain R.kinD (ox:=instObj (c.cA C) q) (C:=c.cA C) (od:=some (dictOf es k)) ⟨hz.1,rfl,rfl,he⟩ D.sa ?_;refine osa_dict (s:={ s with toks:=s.toks+1 }) (pre:=[]) (es:=putL (c.nm n) (PyData.keyHash c.w.params (c.nm n)) (.str (c.nm n) (s.toks+1)) y es) F N0 R.kinD (ox:=instObj (c.cA C) q) ⟨hz.1,rfl,rfl,he⟩ rfl D.over ht D.dict (hfs.get_some O n k) (fun p hp=>nomatch hp) (fun p hp=>(W0.mp (show (p.1,p.2)∈_ from hp)).2.1)
   (putName_dict _ _ _ _ _ _) rfl (by rw[<- (hfs.put O Y).len];exact qA hput (qA (qJ (xF fN)) (by decide:401<=1000))) fun h' F' N'=>?_
  have K:Keep env (·=q) s.heap h':=.of_ns (fun b p hb hl e=>(N' (b,p) (.tail _ (W0.mpr ⟨e,hb,hl⟩))).1) hm F'.ns
  have hd:=(N' _ (.head _)).1;exact N _ ⟨R.toRel0.setOb hc K ⟨_,hd⟩ fun kF=>⟨hC,qA hput (qA (qJ (xF fN)) (by decide:401<=500)),kF _ _ hz,_,_,hd,(hfs.put O Y).mono kF fun J J z=>z⟩,xD _⟩ (Ext.setOb (R.cW _ _ _ hc) (R.dis _ (R.cW _ _ _ hc)).2 K rfl)) X
end
section
variable{c:Cx}{r:Nat}{env:Nv}{A:Around}{U U' U1a:St}{g eu:Gh}{s s' ek em:Shared}{E:Value->Shared->Prop}{Q:Value->Shared->Prop}{v:Vv}{D:Addr->Prop}

theorem Dn:isSeqSlot (some (.builtin "list.__iadd__"))=true:=by decide +kernel
theorem Ae:fillsInplaceSlot (.type "list") "add" true=pure false:=by
 unfold fillsInplaceSlot;show (typeLookup (.type "list") (dunderI "add") >>= fun fi=>pure (fi.isSome&&!isSeqSlot fi))=pure false
 rw[F.slot_list_iadd.lookup];show (pure (_&&!isSeqSlot _):Sem Bool)=_;rw[Dn];rfl
theorem AA:seqSlot? (.type "list") (dunderI "add")=pure (some (.builtin "list.__iadd__")):=by
 unfold seqSlot?;rw[F.slot_list_iadd.lookup];rw[pure_bind,Dn];rfl
theorem Cu{l b items e7 n n2}(hl:IsL s.heap l items n)(hb:IsL s.heap b e7 n2)(hz:items.size+e7.size<=sizeLine)
  (h:Q (.ref l) { s with heap:=s.heap.update l (Obj.mapSeq fun x=>x++e7) }):wpAny c.M A (inplaceOp .Add (.ref l) (.ref b)) Q E s:=by
 have ha:s.TypeIs (.ref l) "list":=⟨_,hl,rfl⟩;have hb':s.TypeIs (.ref b) "list":=⟨_,hb,rfl⟩;have hzl:=bM.mpr hz;delta inplaceOp;dsimp only;refine qD (qB (wpAny_typeOf ha (qB (eW Ae ?_))));show wpAny _ _ (if false=true then _ else _) _ _ _;rw[aN ar];refine qB (binaryOp1_none (nm:="add") ha hb' PySem.noFill_list_add (qB (eW AA (qB (wpAny_rule ?_)))));exact call_meets F.slot_list_iadd ha F.entry_list_iadd (F.args_list_iadd_2 _ _) (AutoSeq1.list___iadd___list_list_0 l items n b e7 n2 (by
  unfold Builtin.List.listTooLong;exact fun q=>hzl (qH (ag.mp q).2)) (qA (qK _ _) hz) (xO hz)) ⟨hl,hb,h⟩
noncomputable def WE:Bop->Operator
 |.add=>.Add|.sub=>.Sub|.mul=>.Mult|.fdiv=>.FloorDiv|.mod=>.Mod
theorem MF{o i b w x y}(ho:o=.add\/o=.sub)(hf:Jk U o (.int i) b=some w)(R:Rel c env g U s)(hx:Vx c env g s (.int i) x)(hy:Vx c env g s b y)(N:Nxt c env g s w U Q):wpAny c.M A (inplaceOp (WE o) x y) Q E s:=by
 rcases ho with rfl|rfl
 ·exact QM (P:=fun b=>Vx c env g s b y->_) (show onInt b (fun b=>some (Vv.int (i+b)))=some w from hf) (fun j h hy=>by cases h;exact hx.intE (P:=fun x=>wpAny c.M A (inplaceOp .Add x y) Q E s) fun t=>hy.intE (P:=fun y=>wpAny c.M A (inplaceOp .Add _ y) Q E s) fun u=>PyProof.Rows.iadd_int (N.toks R (.int _ _))) hy
 ·exact XN (P:=fun x y=>wpAny c.M A (inplaceOp .Sub x y) Q E s) (a:=.int i) (b:=b) (f:=fun a b=>some (Vv.int (a-b))) hf hx hy fun i j t u e=>by cases e;exact P.isub_int (N.toks R (.int _ _))
theorem MD{o z b w x y}(ho:o=.add\/o=.sub)(hf:Jk U o (.str z) b=some w)(R:Rel c env g U s)(hx:Vx c env g s (.str z) x)(hy:Vx c env g s b y)(N:Nxt c env g s w U Q):wpAny c.M A (inplaceOp (WE o) x y) Q E s:=by
 rcases ho with rfl|rfl
 ·exact Ql (P:=fun b=>Vx c env g s b y->_) (show onStr b (fun b=>bd (z.length+b.length) (some (Vv.str (z++b))))=some w from hf) (fun w h hy=>bdE h fun hl e=>by
   cases e;exact hx.strE (P:=fun x=>wpAny c.M A (inplaceOp .Add x y) Q E s) fun t=>hy.strE (P:=fun y=>wpAny c.M A (inplaceOp .Add _ y) Q E s) fun u=>Qj R.pos (PyProof.Rows.iadd_str (fun t' tk ht=>Yv z w▸N.toks R (.str _ _) ht) (by rw[Jo,Jo];exact hl))) hy
 ·exact nn hf
theorem MC{o:Bop}(h:o.isAdd=true):o=.add:=by
 cases o<;>first|rfl|exact ff h
theorem Ng{o a b w x y}(ho:o=.add\/o=.sub)(hf:Ye U o a b=some (w,U'))(R:Rel c env g U s)(hx:Vx c env g s a x)(hy:Vx c env g s b y)(N:Nxt c env g s w U' Q):wpAny c.M A (inplaceOp (WE o) x y) Q E s:=by
 cases a with
 |int i=>exact boE (show bo (Jk U o (.int i) b) (fun w=>some (w,U))=some (w,U') from hf) fun u h1 h2=>MF ho h1 R hx hy (N.of h2)
 |str z=>exact boE (show bo (Jk U o (.str z) b) (fun w=>some (w,U))=some (w,U') from hf) fun u h1 h2=>MD ho h1 R hx hy (N.of h2)
 |obj id=>
  refine gdE (show gd o.isAdd (onList U (.obj id) fun id l=>onListOf U b fun l'=>bd (l.length+l'.length) (some (Vv.obj id,U.setOb id (.list (l++l')))))=some (w,U') from hf) fun h1 h=>boE (show bo (JA U.hp id) _=some (w,U') from h) fun ob hob h=>?_
  cases MC h1;cases ob<;>first|exact nn h|skip
  exact hx.objE (P:=fun x=>wpAny c.M A (inplaceOp .Add x y) Q E s) fun a1 ha=>Uc (P:=fun y=>wpAny c.M A (inplaceOp .Add _ y) Q E s) R h hy fun l' a2 i2 n2 h hi2 hv2=>bdE h fun hz e=>by
   obtain⟨i1,n1,hcs,hi1,hv1⟩:=Uy R hob ha;obtain⟨fQ,fM⟩:=Y7 (f:=fun x=>x++i2) (l':=l++l') R hcs hi1 (by rw[df];exact hv1.append hv2)
   exact Cu hi1 hi2 (by rw[Jf hv1,Jf hv2];exact hz) (N.of e _ _ _ fQ (.obj (fM.rho ha)) fM)
 |_=>exact nn hf

theorem Q9.set(O:c.Ok){F:Addr->Obj->Prop}{ρ loc m m' n v x}(hk:env.kindOf (c.nm n)=some .local)(h:Q9 c env F ρ loc m)(X:VR c F ρ v x)(h1:m' (c.nm n)=some x)(h2:∀y,y≠c.nm n->m' y=m y):Q9 c env F ρ (put loc n v) m':=fun n' v' e=>by
 rw[J5] at e;by_cases hnn:n=n'
 ·rw[aR hnn] at e
  cases e;subst hnn;exact⟨fun J=>⟨x,h1,X⟩,fun z=>by rw[hk] at z;cases z⟩
 ·rw[aN hnn] at e
  exact⟨fun z=>((h n' v' e).1 z).imp fun y w=>⟨(h2 _ fun q=>hnn (O.inj _ _ q).symm).trans w.1,w.2⟩,(h n' v' e).2⟩
theorem Ux(O:c.Ok)(VV:EnvOk env){n v x}{Q:Unit->Shared->Prop}(hk:env.kindOf (c.nm n)=some .local)(R:Rel c env g U s)(X:Vx c env g s v x)
  (N:∀s',Rel c env g (U.setLoc n v) s'->Ext env g g s s'->Q () s'):wpAny c.M A (storeName env (c.nm n) x) Q E s:=by
 obtain⟨m,hm,hl⟩:=R.loc;refine wpAny_storeName_local hk hm (fun h' hn hs=>?_) (by rw[VV.kind];rfl)
 have kF:∀a o,Fz env g s.heap a o->Fz env g h' a o:=fun a o z=>⟨(hs.2 _ (fun e=>z.2.2.2 (.inl e))).trans z.1,z.2⟩
 have kk:∀b p,b≠env.locals->s.heap.get? b=some p->h'.get? b=some p:=fun b p hb e=>(hs.2 _ hb).trans e
 have al:∀a,(∃p,s.heap.get? a=some p)->∃p,h'.get? a=some p:=fun a e=>ay (fun e2:a=env.locals=>e2▸nsO hn) fun e2=>e.imp fun p z=>kk _ _ e2 z
 exact N _ ⟨⟨fun a o e=>kF _ _ (R.kin a o e),fun a e=>al a (R.wob a e),fun a e=>al a (R.xob a e),fun a e=>ay (fun e2:a=env.locals=>e2▸hn.frd) fun e2=>(R.frd a e).sl (.of fun o=>kk a o e2),R.dis,⟨_,hn,(hl.mono kF fun J J z=>z).set O hk (X.mono kF fun J J z=>z) (aR rfl) fun y hy=>aN hy⟩,
  fun id ob e=>(R.obs id ob e).imp fun r'=>a5 fun o' z=>⟨z.1,z.2.mono kF (fun J J z=>z) fun p=>kk _ _ fun e=>(R.dis _ (R.cW _ _ _ z.1)).2 (.inl e)⟩,R.cW,R.inj,R.nx,R.ps⟩,xD _⟩
  ⟨fun a o e w f=>⟨kk _ _ (fun q=>f (.inl q)) e,w⟩,fun a J n=>.of fun o=>kk a o n,fun J J e=>e,rfl,rfl⟩

def FlR(c:Cx)(env:Nv)(g:Gh)(s:Shared)(f:FL)(w:Flow):Prop:=match f with
 |.next=>w=.next
 |.brk=>w=.brk
 |.cont=>w=.cont
 |.ret v=>∃x,w=.ret x/\Vx c env g s v x
theorem FlR.map{eu ek fC f w}(k:∀v x,Vx c env g s v x->Vx c fC eu ek v x)(h:FlR c env g s f w):FlR c fC eu ek f w:=by
 cases f with
 |ret v=>exact a5 (fun x z=>⟨z.1,k v x z.2⟩) h
 |_=>exact h
theorem FlR.ext{f w}(h:FlR c env g s f w)(x:Ext env g eu s ek):FlR c env eu ek f w:=h.map fun v y=>VR.ext x
def UU(c:Cx)(env:Nv)(g:Gh)(s:Shared)(f:FL)(U':St)(Q:Flow->Shared->Prop):Prop:=
 ∀w s' g',Rel c env g' U' s'->FlR c env g' s' f w->Ext env g g' s s'->Q w s'
theorem UU.trans{f}{Q:Flow->Shared->Prop}(N:UU c env g s f U' Q)(x:Ext env g eu s ek):UU c env eu ek f U' Q:=fun w s' g' R h e=>N w s' g' R h (x.trans e)
theorem UU.of{f f'}{Q:Flow->Shared->Prop}(e:some (f',U1a)=some (f,U'))(N:UU c env g s f U' Q):UU c env g s f' U1a Q:=by cases e;exact N
theorem UU.nxt{Q:Flow->Shared->Prop}(N:UU c env g s .next U' Q){g' s'}(R:Rel c env g' U' s')(x:Ext env g g' s s'):Q .next s':=N _ _ _ R rfl x
def JQ(c:Cx)(r:Nat)(env:Nv)(b:Stmt)(f:St->Option (FL×St)):Prop:=
 ∀⦃A:Around⦄ ⦃U:St⦄ ⦃fl:FL⦄ ⦃U':St⦄ ⦃g:Gh⦄ ⦃s:Shared⦄ ⦃E:Value->Shared->Prop⦄ ⦃Q:Flow->Shared->Prop⦄,
  JM env A r->f U=some (fl,U')->Rel c env g U s->UU c env g s fl U' Q->wpAny c.M A (exec b env) Q E s
def Qv(c:Cx)(r:Nat)(env:Nv)(b:List Stmt)(f:St->Option (FL×St)):Prop:=
 ∀⦃A:Around⦄ ⦃U:St⦄ ⦃fl:FL⦄ ⦃U':St⦄ ⦃g:Gh⦄ ⦃s:Shared⦄ ⦃E:Value->Shared->Prop⦄ ⦃Q:Flow->Shared->Prop⦄,
  JM env A r->f U=some (fl,U')->Rel c env g U s->UU c env g s fl U' Q->wpAny c.M A (execs b env) Q E s
variable{C:Ora}{e t:Expr}{m mt:ME}{pos:Pos}{n D:Nat}{b o:List Stmt}{mb mo:List MS}
theorem Mb:Qv c r env [] (exs C []):=fun J J J J J J J J J hf R N=>cu ((N.of hf).nxt R .refl)
theorem Ex{b bs m ms}(H:JQ c r env b (exc C m))(H2:Qv c r env bs (exs C ms)):Qv c r env (b::bs) (exs C (m::ms)):=fun J J J J J J J J hr hf R N=>bnE hf fun fl U1a h1 h2=>
 qX (H hr h1 R fun w ek eu ew ez e6=>by
  cases fl with
  |next=>cases ez;exact H2 hr h2 ew (N.trans e6)
  |brk=>cases ez;exact N.of h2 _ _ _ ew rfl e6
  |cont=>cases ez;exact N.of h2 _ _ _ ew rfl e6
  |ret v=>obtain⟨x,rfl,hx⟩:=ez;exact N.of h2 _ _ _ ew ⟨x,rfl,hx⟩ e6)
theorem Me:JQ c r env (.Pass pos) (exc C .pass):=fun J J J J J J J J J hf R N=>wpAny_Pass ((N.of hf).nxt R .refl)
theorem Sg:JQ c r env (.Break pos) (exc C .brk):=fun J J J J J J J J J hf R N=>wpAny_Break (N.of hf _ _ _ R rfl .refl)
theorem Mg:JQ c r env (.Continue pos) (exc C .cont):=fun J J J J J J J J J hf R N=>wpAny_Continue (N.of hf _ _ _ R rfl .refl)
theorem Sc(H:JE c r env e (ev C m)):JQ c r env (.Return (some e) pos) (exc C (.ret m)):=fun J J J J J J J J hr hf R N=>bnE hf fun v U1a h1 h2=>wpAny_Return_some (H hr h1 R fun x ek eu ew ez e6=>N.of h2 _ _ _ ew ⟨x,rfl,ez⟩ e6)
theorem Md:JQ c r env (.Return none pos) (exc C (.ret (.k .none))):=fun J J J J J J J J J hf R N=>wpAny_Return_none (N.of (show some (FL.ret .none,_)=some _ from hf) _ _ _ R ⟨_,rfl,.none⟩ .refl)
theorem Sd(H:JX c r env t (tst C mt))(H2:Qv c r env b (exs C mb))(H3:Qv c r env o (exs C mo)):JQ c r env (.If t b o pos) (exc C (.iff mt mb mo)):=fun J J J J J J J J hr hf R N=>bnE hf fun q U1a h1 h2=>wpAny_If (H hr h1 R fun ek eu ew e6=>by
 cases q with
 |true=>exact H2 hr h2 ew (N.trans e6)
 |false=>exact H3 hr h2 ew (N.trans e6))
theorem Mk(H:JX c r env t (tst C mt)):JQ c r env (.Assert t none pos) (exc C (.asrt mt)):=fun J J J J J J J J hr hf R N=>bnE hf fun q U1a h1 h2=>gdE h2 fun hq h2=>wpAny_Assert hr.1 (H hr h1 R fun ek eu ew e6=>by subst hq;exact(N.of h2).nxt ew e6)

def QB(e:Expr):Bool:=(ctt fun h=>Expr.ListComp.elim (motive_1:=fun J=>Bool) e h fun J J J J=>false)&&((ctt fun h=>Expr.SetComp.elim (motive_1:=fun J=>Bool) e h fun J J J J=>false)&&ctt fun h=>Expr.DictComp.elim (motive_1:=fun J=>Bool) e h fun J J J J J=>false)
theorem WR{e}(h:QB e=true){t n}:swapsWith e t n env=pure false:=by
 cases e<;>first|rfl|exact ff h
theorem Sh(O:c.Ok)(VV:EnvOk env){np}(hk:env.kindOf (c.nm n)=some .local)(hc:QB e=true)(H:JE c r env e (ev C m)):JQ c r env (.Assign [.Name (c.nm n) np] e pos) (exc C (.asg n m)):=fun J J J J J J J J hr hf R N=>bnE hf fun v U1a h1 h2=>
 eC (H hr h1 R fun x ek eu ew ez e6=>Ux O VV hk ew ez fun em fE fH=>(N.of h2).nxt fE (e6.trans fH)) (WR hc)
theorem Mo(O:c.Ok){np}(hn:QD c D n=true)(hc:QB e=true)(H:JE c r env e (ev C m))(H2:JE c r env t (ev C mt)):JQ c r env (.Assign [.Attribute t (c.nm n) np] e pos) (exc C (.asgA mt n D m)):=fun J J J J J J J J hr hf R N=>bnE hf fun v U1a h1 h=>bnE h fun o U2a h3 h=>boE h fun fI h5 h6=>
 plainObj_wpAny_Assign_Attribute (H hr h1 R fun x ek eu ew ez e6=>H2 hr h3 ew fun y em fB fE fP fH=>
  Yq O hn h5 fE fP (ez.ext fH) fun fO fQ fM=>(N.of h6).nxt fQ (e6.trans (fH.trans fM))) (WR hc)
theorem ZBa(hi:interactive env=false)(hc:QB e=true)(H:JE c r env e (ev C m)):JQ c r env (.Expr e pos) (exc C (.ex m)):=fun J J J J J J J J hr hf R N=>bnE hf fun v U1a h1 h=>gdE h fun hv h2=>
 wpAny_Expr (H hr h1 R fun x ek eu ew ez e6=>by
  have n:=(N.of h2).nxt ew e6;cases v<;>first|exact ff hv|skip
  ·exact ez.noneE n
  ·exact ez.boolE n
  ·exact ez.strE fun t=>n) hi (WR hc)
end
section
variable{c:Cx}{r:Nat}{env:Nv}{A:Around}{U U':St}{g eu:Gh}{s s' ek em:Shared}{E:Value->Shared->Prop}{Q:Value->Shared->Prop}{v:Vv}{D:Addr->Prop}

inductive WhlI(c:Cx)(env:Nv)(C:Ora)(mt:ME)(mb:List MS)(g:Gh)(s:Shared)(w:FL×St)(n:Nat)(s':Shared):Prop
 |mk (U1a:St) (eu:Gh) (R:Rel c env eu U1a s') (E:Ext env g eu s s') (run:Jh (tst C mt) (exs C mb) n U1a=some w)
theorem Sb{C t b mt mb}{pos}(H:JX c r env t (tst C mt))(H2:Qv c r env b (exs C mb)):JQ c r env (.While t b [] pos) (exc C (.whl mt mb)):=fun A U fl U' g s E Q hr hf R N=>
 wpAny_While (codeAny_whileLoop (I:=WhlI c env C mt mb g s (fl,U')) (fun n ek h=>by
  cases h with
  |mk U1a eu ew e6 h=>
   cases n with
   |zero=>exact nn h
   |succ n=>
    exact bnE h fun q U2a h1 h2=>H hr h1 ew fun em fB fE fH=>by
     cases q with
     |false=>exact cu ((N.of h2).nxt fE (e6.trans fH))
     |true=>
      exact bnE h2 fun f fI h3 h4=>H2 hr h3 fE fun w fO g3a fQ X3a fM=>by
       have E:=e6.trans (fH.trans fM);have nx:Jh (tst C mt) (exs C mb) n fI=some (fl,U')->∃m,m<n+1/\WhlI c env C mt mb g s (fl,U') m fO:=fun h=>⟨n,xB _,.mk fI g3a fQ E h⟩
       cases f with
       |next=>cases X3a;exact nx h4
       |cont=>cases X3a;exact nx h4
       |brk=>cases X3a;exact(N.of h4).nxt fQ E
       |ret v=>obtain⟨x,rfl,hx⟩:=X3a;exact N.of h4 _ _ _ fQ ⟨x,rfl,hx⟩ E) J2 (.mk U g R .refl hf))

def I4(p:Obj):Prop:=∃T,p.cls=.type T/\["enumerate","zip","dict_itemiterator","dict_reverseitemiterator","odict_iterator","itertools.zip_longest","itertools.pairwise"].contains T=false
theorem ET{c:Cx}{A}{s:Shared}{E:Value->Shared->Prop}{Q:Unit->Shared->Prop}{a p}(hp:s.heap.get? a=some p)(ho:I4 p)(t y)(h:Q () s):wpAny c.M A (letOwnedTupleGo t (.ref a) y) Q E s:=by
 have main:wpAny c.M A (do
   let (.ref r,.ref a):=((Value.ref a,y):Value×Value)|return
   let o <- load r
   match o.cls,o.data with
   |.type n,.fields vs=>
    if ["enumerate","zip","dict_itemiterator","dict_reverseitemiterator","odict_iterator","itertools.zip_longest","itertools.pairwise"].contains n&&vs[0]?==some (rawInt a) then
     rule "for.unpacks-the-owned-tuple"
     updateField r 0 .none
   |_,_=>pure ()) Q E s:=by
  cases y<;>first|exact qC h|skip
  obtain⟨T,hc,hT⟩:=ho;refine qB (wpAny_load hp ?_);obtain⟨cls,dict,data,slots⟩:=p;cases hc;cases data<;>first|exact qC h|skip
  show wpAny _ _ (if (_&&_)=true then _ else _) _ _ _;rw[hT,cU,aN ar];exact qC h
 cases t<;>first|exact qC h|exact main
structure ItF(c:Cx)(env:Nv)(g:Gh)(s:Shared)(l:List Vv)(o:Obj)(fp:List Addr)(P:Nat->Value->Prop)(S:Nat->Heap->Prop):Prop where
 fr:o.isFreed=false
 walks:∀A':Around,A'.handled=none->Walks c.prog c.w A' s.heap.objs.size fp [s.heap.objs.size] l.length P S
 s0:S 0 (s.heap.push o)
 item:∀i y,i<l.length->P i y->∃w,l[i]?=some w/\Vx c env g s w y
 fp:∀b∈fp,b=s.heap.objs.size\/∃o,Fz env g s.heap b o
 alive:∀i h,S i h->∃p,h.get? s.heap.objs.size=some p/\I4 p
theorem GH{l:List Vv}{items:Array Value}(r1:Vxs c env g s l items.toList)(i y)(fG:i<l.length)(hy:items[i]?=some y):∃w,l[i]?=some w/\Vx c env g s w y:=by
 obtain⟨y',e1,e2⟩:=r1.get (ah fG);rw[bQ,hy] at e1;cases e1;exact⟨_,ah fG,e2⟩
theorem Ku{a b:Addr}{P:Prop}(hb:b∈[a]):b=a\/P:=.inl (ae.mp hb)
theorem Kg{x a b o}(f:Fz env g s.heap a o)(hb:b∈[x,a]):b=x\/∃o,Fz env g s.heap b o:=(aZ.mp hb).imp id fun hb=>by cases ae.mp hb;exact⟨o,f⟩
theorem Bd{w}(i y)(h:SignAt (toS w) i y):∃u,(w.map fun c=>Vv.str [c])[i]?=some u/\Vx c env g s u y:=by
 obtain⟨d,u,h1,rfl⟩:=h;refine⟨.str [d],?_,.str [d] u⟩;have:w[i]?=some d:=(List.getElem?_toArray (xs:=w) (i:=i)).symm.trans h1;rw[bV,this];rfl
theorem Po{a b}{P:Prop}(h:(Q2 a&&Q2 b)=true)(k:-16777216<=a->a<=16777216->-16777216<=b->b<=16777216->P):P:=
 bA h fun h1 h2=>bA h1 fun a1 a2=>bA h2 fun b1 b2=>k (qH a1) (qH a2) (qH b1) (qH b2)
theorem EK{lo hi}:(if lo<hi then hi-lo else 0)=(((hi-lo).toNat:Int)-((0:Nat):Int)):=by
 show _=((hi-lo).toNat:Int)-0;by_cases h:lo<hi
 ·rw[aR h,Int.sub_zero,dh (Int.sub_nonneg_of_le (dT h))]
 ·rw[aN h,Int.sub_zero,Int.toNat_of_nonpos (Int.sub_nonpos_of_le (bP.mp h))];rfl
theorem I7{a}(h:-16777216<=a):-2 ^ 62<=a:=eJ (by decide) h
theorem TC{a:Int}(h:a<=16777216):a<2 ^ 62:=dt h (by decide)
theorem Eb{F:Addr->Obj->Prop}{ρ}{ks:List LN}{kvs:List (Str×Value)}{i y}(e:kvs.map (·.1)=ks.map toS)(hi:i<(ks.map Vv.str).length)(h:∃k x,kvs[i]?=some (k,x)/\(strKind c.prog c.w).is k y=true):∃w,(ks.map Vv.str)[i]?=some w/\VR c F ρ w y:=by
 obtain⟨k,x,hk,hy⟩:=h;rw[aP] at hi;have h1:(ks.map toS)[i]?=some k:=by rw[<- e,bV,hk];rfl
 rw[bV,ah hi] at h1;cases h1;cases y<;>first|exact ff hy|skip
 cases (show _=toS ks[i] from bE hy);exact⟨.str ks[i],by rw[bV,ah hi];rfl,.str _ _⟩
theorem GG{v l x}(hf:Uj v=some l)(R:Rel c env g U s)(X:Vx c env g s v x)
  (N:∀(o:Obj) (fp:List Addr) (P:Nat->Value->Prop) (S:Nat->Heap->Prop),ItF c env g s l o fp P S->Q (.ref s.heap.objs.size) { s with heap:=s.heap.push o }):wpAny c.M A (pyIter x) Q E s:=by
 cases v with
 |str w=>
  cases hf;refine X.strE fun t=>?_
  cases ha:(toS w).cps.all (·<128)
  ·exact wpAny_pyIter_wide ha (N _ [_] (SignAt (toS w)) (fun i h=>h.IsStrIter s.heap.objs.size "str_iterator" (toS w) t i) ⟨rfl,fun A' hA=>by rw[aP];exact Walks.strWide hA _ (toS w) t,⟨_,qY _ rfl,rfl,rfl⟩,fun i y J h=>Bd i y h,fun b hb=>Ku hb,fun J J z=>z.imp fun J z=>⟨z.1,_,z.2.1,by decide⟩⟩)
  ·exact wpAny_pyIter_ascii ha (N _ [_] (SignAt (toS w)) (fun i h=>h.IsStrIter s.heap.objs.size "str_ascii_iterator" (toS w) t i) ⟨rfl,fun A' hA=>by rw[aP];exact Walks.strAscii hA _ (toS w) t,⟨_,qY _ rfl,rfl,rfl⟩,fun i y J h=>Bd i y h,fun b hb=>Ku hb,fun J J z=>z.imp fun J z=>⟨z.1,_,z.2.1,by decide⟩⟩)
 |tup l=>
  cases hf;refine X.tupE fun a o items n f1 c1 d1 r1=>?_
  have ht:s.heap.IsTuple a items:=⟨_,f1.1,c1,_,d1⟩;have hne:a≠s.heap.objs.size:=qP (xP f1.1);exact wpAny_pyIter_tuple ht (N _ [_,a] (fun i y=>items[i]?=some y) (fun i h=>h.IsTupleIter s.heap.objs.size a i/\h.IsTuple a items) ⟨rfl,fun A' hA=>by rw[<- Jf r1];exact Walks.tuple hA _ a hne items,⟨⟨_,qY _ rfl,rfl,rfl⟩,⟨_,qZ _ f1.1,c1,_,d1⟩⟩,GH r1,fun b hb=>Kg f1 hb,fun J J z=>z.1.imp fun J z=>⟨z.1,_,z.2.1,by decide⟩⟩)
 |list l=>
  cases hf;refine X.listE fun a items n f1 r1=>?_
  have hl:s.heap.IsList a items:=IsL.isList f1.1;have hne:a≠s.heap.objs.size:=qP (xP f1.1);exact wpAny_pyIter_list hl (N _ [_,a] (fun i y=>items[i]?=some y) (fun i h=>h.IsListIter s.heap.objs.size a i/\h.IsList a items) ⟨rfl,fun A' hA=>by rw[<- Jf r1];exact Walks.list hA _ a hne items,⟨⟨_,qY _ rfl,rfl,rfl⟩,hl.push _⟩,GH r1,fun b hb=>Kg f1 hb,fun J J z=>z.1.imp fun J z=>⟨z.1,_,z.2.1,by decide⟩⟩)
 |dict ks vs=>
  cases hf;refine X.dictE fun a o kvs f1 d e J hs=>?_
  obtain⟨ep,hat⟩:=(bR.mpr ⟨o,f1.1,d⟩).dictAt;have fN:(ks.map Vv.str).length=kvs.length:=by rw[aP,<- aP (·.1) (as:=kvs),e,aP]
  exact wpAny_pyIter_dict hs hat (N _ [_,a] (fun i y=>∃k x,kvs[i]?=some (k,x)/\(strKind c.prog c.w).is k y=true) (fun i h=>h.IsKeyIter s.heap.objs.size a i kvs.length ep/\h.DictAt (strKind c.prog c.w) a kvs ep)
   ⟨rfl,fun A' hA=>by rw[fN];exact Walks.dictKeys hA _ a (qP (xP f1.1)) kvs ep,⟨⟨_,qY _ rfl,rfl,rfl⟩,hat.keep fun b o=>qZ _⟩,fun i y hi h=>Eb e hi h,fun b hb=>Kg f1 hb,fun J J z=>z.1.imp fun J z=>⟨z.1,_,z.2.1,by decide⟩⟩)
 |rng lo hi=>
  refine gdE (show gd (Q2 lo&&Q2 hi) (some ((List.range (hi-lo).toNat).map fun (i:Nat)=>Vv.int (lo+i)))=some l from hf) fun hb e=>Po hb fun b1 b2 b3 b4=>X.rngE fun a t u v f1=>?_
  cases e;refine wpAny_pyIter_range f1.1 (small_one (I7 b1) (TC b2) (I7 b3) (TC b4)) (N _ [_] _ (fun i h=>IsRangeIter h s.heap.objs.size (lo+(i:Nat)*1) (((hi-lo).toNat:Int)-(i:Nat)) 1) ⟨rfl,
   fun A' hA=>by rw[aP,eB];exact Walks.range hA _ lo 1 (hi-lo).toNat,?_,fun i y hi h=>?_,fun b hb=>Ku hb,fun J J z=>⟨_,z,_,rfl,by decide⟩⟩)
  ·rw[rangeSize_one,EK,show lo+((0:Nat):Int)*1=lo from Int.add_zero lo]
   exact qY _ rfl
  ·obtain⟨t,rfl⟩:=h
   rw[aP,eB] at hi;refine⟨.int (lo+i),by rw[bV,List.getElem?_range hi];rfl,?_⟩
   rw[Int.mul_one];exact .int _ _
 |_=>exact nn hf

theorem Ext.changed(x:Ext env g eu s ek)(hD:∀a,D a->s.heap.objs.size<=a)(hs:∀b p,¬D b->ek.heap.get? b=some p->s'.heap.get? b=some p)(hg:gos s'=gos ek):Ext env g eu s s':=
 ⟨fun a o e w f=>(x.fz a o e w f).elim fun z w'=>⟨hs _ _ (fun d=>QT e (hD a d) rfl) z,w'⟩,fun a q n o e=>(x.up a q n o e).imp fun sl z=>hs _ _ (fun d=>QT e (hD a d) rfl) z,x.cs,x.X,hg.trans x.gens⟩
theorem Ext.reX{X:Addr->Prop}(x:Ext env g eu s ek):Ext env { g with X:=X } { eu with X:=X } s ek:=⟨x.fz,x.up,x.cs,rfl,x.gens⟩
theorem Rel.drop{X:Addr->Prop}(R:Rel c env eu U ek)(hX:∀a,X a->eu.X a)(hDX:∀a,D a->eu.X a)(hn:∀a,X a->¬D a)(hs:∀b p,¬D b->ek.heap.get? b=some p->s'.heap.get? b=some p)(hfa:∀a,D a->¬FA env a)(hp:0<s'.toks):
  Rel c env { eu with X:=X } U s':=
 ⟨R.toRel0.carry (fun a o z=>⟨hs _ _ (fun d=>z.2.2.1 (hDX a d)) z.1,z.2.1,fun x=>z.2.2.1 (hX a x),z.2.2.2⟩) (fun a o w e=>hs _ _ (fun d=>(R.dis a w).1 (hDX a d)) e) (fun m hm=>hm.at fun p e=>hs _ _ (fun d=>hfa _ d .own) e) (fun a q x=>x.sl (.of fun o=>hs a o fun d=>hfa a d (.inr q))) rfl rfl (fun a x=>(R.xob a (hX a x)).imp fun o e=>hs _ _ (hn a x) e) (fun a x w=>(R.dis a w).1 (hX a x)),hp⟩
theorem FlR.shown{X:Addr->Prop}{f w}(h:FlR c env eu ek f w)(hX:∀a,X a->eu.X a):FlR c env { eu with X:=X } ek f w:=h.map fun v x z=>z.shown hX

abbrev Wx(a0a:Addr)(eu fB:Gh):Prop:=fB.X=(eu.hid (·=a0a)).X
theorem Wx.d{a0a eu fB}(h:Wx a0a eu fB):∀a,a=a0a->fB.X a:=fun a e=>by rw[h];exact .inr e
theorem Wx.o{a0a eu fB}(h:Wx a0a eu fB):∀a,eu.X a->fB.X a:=fun a e=>by rw[h];exact .inl e
inductive ForI(c:Cx)(env:Nv)(go:List Vv->St->Option (FL×St))(l:List Vv)(S:Nat->Heap->Prop)(eu:Gh)(ek:Shared)(w:FL×St)(k:Nat)(em:Shared):Prop
 |mk (i:Nat) (U2a:St) (fB:Gh) (hk:k=l.length+1-i) (hi:i<=l.length) (R:Rel c env fB U2a em) (X:Wx ek.heap.objs.size eu fB) (E:Ext env eu { fB with X:=eu.X } ek em) (hS:S i em.heap) (run:go (l.drop i) U2a=some w)
theorem Ext.in1{fB}(X:Wx ek.heap.objs.size eu fB)(E:Ext env eu { fB with X:=eu.X } ek em){a o}(z:Tactic.Fz env eu ek.heap a o):Tactic.Fz env fB em.heap a o:=
 ⟨(E.Fz z).1,(E.Fz z).2.1,fun h=>by rw[X] at h;exact h.elim z.2.2.1 fun h=>QT z.1 (qF _) h,z.2.2.2⟩
theorem K8{n i}(h:i<n):n+1-(i+1)<n+1-i:=Nat.sub_lt_sub_left (qT h) (xB i)
def Ii(c:Cx)(env:Nv)(t:Expr)(G:Vv->St->Option St):Prop:=∀⦃A:Around⦄ ⦃w:Vv⦄ ⦃U U':St⦄ ⦃g:Gh⦄ ⦃s:Shared⦄ ⦃y:Value⦄ ⦃Q:Unit->Shared->Prop⦄ ⦃E:Value->Shared->Prop⦄,A.handled=none->G w U=some U'->Rel c env g U s->Vx c env g s w y ->
 (∀s',Rel c env g U' s'->Ext env g g s s'->Q () s')->wpAny c.M A (assign t env y) Q E s
theorem GT{C t it G b mb mi}{pos}(HT:Ii c env t G)(hs:∀x,foldedSetIterable it env x=pure x)
  (H:JE c r env it (ev C mi)) (H2:Qv c r env b (exs C mb)):JQ c r env (.For t it b [] pos) (fun U=>bn (ev C mi U) fun v U1a=>bo (Uj v) fun l=>Qa G (exs C mb) l U1a):=fun A U fl U' g s E Q hr hf R N=>bnE hf fun v U1a h1 h=>boE h fun l h3 h4=>
 wpAny_For (H hr h1 R fun x ek eu ew ez e6=>GG h3 ew ez fun o fp P S I=>by
  have W:=I.walks A hr.1;have fr:=K1 ew;have ho:(ek.heap.push o).get? ek.heap.objs.size=some o:=qY _ I.fr;have hfa:∀a,a=ek.heap.objs.size->¬FA env a:=fun a e=>e▸fr.2.2
  have hD:∀a,a=ek.heap.objs.size->ek.heap.objs.size<=a:=fun a e=>e▸qF _
  refine codeAny_forLoop_any (I:=ForI c env (Qa G (exs C mb)) l S eu ek (fl,U')) (fun k em h=>?_) (l.length+1)
   (.mk 0 U1a _ rfl (qG _) (ew.hide (s':={ ek with heap:=ek.heap.push o }) (Qb _ _) hD (fun a e=>⟨_,e▸ho⟩) ew.pos) rfl ⟨fun a p e w J=>⟨Qb _ _ _ _ e,w⟩,fun a J J=>.of fun o=>Qb _ _ a o,fun J J e=>e,rfl,rfl⟩ I.s0 h4)
  cases h with
  |mk i U2a fB hk' hi fE hX fH hS2 hF=>
   have kk:∀{h':Heap},(∀b p,b∉[ek.heap.objs.size]->em.heap.get? b=some p->h'.get? b=some p)->∀b p,¬b=ek.heap.objs.size->em.heap.get? b=some p->h'.get? b=some p:=fun h b p hb=>h b p fun q=>hb (ae.mp q)
   by_cases fG:i<l.length
   ·refine Qj fE.pos (W.item i em _ _ fG hS2 fun y h' tk hPy hS' hk2a htk=>?_)
    obtain⟨w,hw,hwy⟩:=I.item i y fG hPy;have fQ:Rel c env fB U2a { em with heap:=h',toks:=tk }:=fE.changed (D:=(·=ek.heap.objs.size)) hX.d (kk hk2a) (fun a e=>e▸(I.alive _ _ hS').imp fun J z=>z.1) hfa htk
    have fM:Ext env eu { fB with X:=eu.X } ek { em with heap:=h',toks:=tk }:=fH.changed (D:=(·=ek.heap.objs.size)) hD (kk hk2a) rfl
    have hd:l.drop i=w::l.drop (i+1):=by
     obtain⟨h1,h2⟩:=ax.mp hw;rw[bh h1,h2]
    rw[hd] at hF;refine boE (show bo (G w U2a) (fun U1a=>bn (exs C mb U1a) _)=some (fl,U') from hF) fun U4a h4 hF=>bnE hF fun f U5a h5 h6=>(I.alive _ _ hS').elim fun p hp=>ET (s:={ em with heap:=h',toks:=tk }) hp.1 hp.2 t y (HT hr.1 h4 fQ (hwy.mono (fun a o z=>fM.in1 hX z) fun i a z=>fM.rho z) fun s4a R4a E4a=>H2 hr h5 R4a fun w' s5a g5a R5a X5a E5a=>?_)
    have E45:=E4a.trans E5a;have E6a:Ext env eu { g5a with X:=eu.X } ek s5a:=fM.trans E45.reX
    have hX5:Wx ek.heap.objs.size eu g5a:=E45.X.trans hX;have nx:Qa G (exs C mb) (l.drop (i+1)) U5a=some (fl,U')->∃m,m<k/\ForI c env (Qa G (exs C mb)) l S eu ek (fl,U') m s5a:=fun h=>
     ⟨l.length+1-(i+1),hk'▸K8 fG,.mk (i+1) U5a g5a rfl fG R5a hX5 E6a (W.frame _ _ _ hS' fun b hb o e=>(I.fp b hb).elim (fun q=>(E45.fz _ _ e (fun w=>(fQ.dis _ w).1 (hX.d _ q)) (q▸fr.2.2)).1) fun z0=>z0.elim fun o' z=>by
      have z':=fM.in1 hX z;cases z'.1.symm.trans e;exact(E45.fz _ _ e z'.2.1 z'.2.2.2).1) h⟩
    cases f with
    |next=>cases X5a;exact nx h6
    |cont=>cases X5a;exact nx h6
    |brk=>cases X5a;exact(N.of h6).nxt (R5a.shown hX5.o) (e6.trans E6a)
    |ret v=>
     obtain⟨x,rfl,hx⟩:=X5a;exact N.of h6 _ _ _ (R5a.shown hX5.o) ⟨x,rfl,hx.shown hX5.o⟩ (e6.trans E6a)
   ·cases xN hi (bM.mp fG)
    rw[ci] at hF;refine Qj fE.pos (W.done em _ _ hS2 fun h' tk hk2a htk=>?_)
    have fQ:Rel c env { fB with X:=eu.X } _ { em with heap:=h',toks:=tk }:=fE.drop (D:=(·=ek.heap.objs.size)) hX.o hX.d (fun a x e=>(ew.xob a x).elim fun J z=>QT z (qF _) e) (kk hk2a) hfa htk
    exact cu ((N.of hF).nxt fQ (e6.trans (fH.changed (D:=(·=ek.heap.objs.size)) hD (kk hk2a) rfl)))) hs
theorem Sf(O:c.Ok)(VV:EnvOk env){C n it b mi mb}{np pos}(hk:env.kindOf (c.nm n)=some .local)(hs:∀x,foldedSetIterable it env x=pure x)
  (H:JE c r env it (ev C mi)) (H2:Qv c r env b (exs C mb)):JQ c r env (.For (.Name (c.nm n) np) it b [] pos) (exc C (.for n mi mb)):=
 GT (G:=fun v U=>some (U.setLoc n v)) (fun J w U U' g s y Q E hh hg R X N=>by
  cases hg;exact cD (Ux O VV hk R X N)) hs H H2
theorem C2{I fp}{items:Array Value}{S:Nat->Heap->Prop}(W:Walks c.prog c.w A I fp [I] items.size (fun i v=>items[i]?=some v) S):∀(k i:Nat) (s:Shared) (Q:List Value->Shared->Prop),S i s.heap->i+k<=items.size->(∀h' tk,S (i+k) h'->(∀b o,b≠I->s.heap.get? b=some o->h'.get? b=some o)->Q ((items.toList.drop i).take k) { s with heap:=h',toks:=tk })->wpAny c.M A (draw (.ref I) k) Q E s:=fun l0=>by
 induction l0 with
 |zero=>
  exact fun i s Q hs J h=>qC (h s.heap s.toks hs fun J J J e=>e)
 |succ k ih=>
  intro i s Q hs hk h;have fG:i<items.size:=xG (bZ (xD k)) hk;refine qB (W.item i s _ _ fG hs fun v h' tk hv hs' k1=>?_)
  have hd:items.toList.drop i=v::items.toList.drop (i+1):=by
   rw[bh (by rw[ba];exact fG),Array.getElem_toList]
   rw[bB fG] at hv;rw[aY hv]
  show wpAny _ _ (do let x <- holding [v] (draw (.ref I) k);pure (v::x)) _ _ _
  refine qB (qD (ih (i+1) _ _ hs' (by rw[a4];exact hk) fun h'' tk' hs'' k2=>qC ?_))
  rw[hd] at h;exact h h'' tk' (by rw[a4] at hs'';exact hs'') fun b o hb e=>k2 b o hb (k1 b o (fun q=>hb (ae.mp q)) e)
theorem AQ{t items n targets}{Q:Unit->Shared->Prop}(hh:A.handled=none)(hi:IsL s.heap t items n)(hn:targets.length=items.size)(hstar:targets.findIdx? (·.1)=none)(ht:0<s.toks)
  (h:∀h' tk,0<tk->(∀b o,s.heap.get? b=some o->h'.get? b=some o)->wpAny c.M A (assignInOrder (targets.map (·.2)) items.toList) Q E { s with heap:=h',toks:=tk }):wpAny c.M A (unpack (.ref t) targets) Q E s:=by
 have hl:s.heap.IsList t items:=hi.isList;have hne:t≠s.heap.objs.size:=qP (xP hi);have W:=Walks.list (prog:=c.prog) (w:=c.w) hh s.heap.objs.size t hne items;have kp:∀{h':Heap},(∀b o,b≠s.heap.objs.size->(s.heap.push { cls:=.type "list_iterator",data:=.fields #[.ref t,.int 0 0] }).get? b=some o->h'.get? b=some o)->∀b o,s.heap.get? b=some o->h'.get? b=some o:=fun k b o e=>k b o (qP (xP e)) (qZ _ e)
 unfold unpack;rw[hn,hstar];refine qB (Qj ht (qD ?_));delta unpackItems;dsimp only;refine qB ?_;unfold notIterableAtAll;refine qB (b9 hl.typeIs slot_list_iter.lookup ?_);refine qC ?_;rw[aN ar];refine qB (qD (wpAny_pyIter_list hl ?_));refine qB (qD (C2 W items.size 0 _ _ ⟨⟨_,qY _ rfl,rfl,rfl⟩,hl.push _⟩ (qU (bL _)) fun h1a tk1 hs1 k1a=>?_))
 rw[bL] at hs1;have hall:List.take items.size (List.drop 0 items.toList)=items.toList:=by
  rw[dk];exact bz (qU ba)
 rw[hall,aN (by rw[ba];exact xS _)]
 refine qB (qD (W.done _ _ _ hs1 fun h2a tk2 k2a=>?_))
 exact qC fun htk=>h h2a tk2 htk (kp fun b o hb e=>k2a b o (fun q=>hb (ae.mp q)) (k1a b o hb e))
end
section
variable{c:Cx}{r:Nat}{env:Nv}{A:Around}{U U':St}{g eu:Gh}{s s' ek em:Shared}{E:Value->Shared->Prop}{Q:Value->Shared->Prop}{v:Vv}{D:Addr->Prop}

theorem Bi{x u}:∀{ks:List LN} {vs:List Vv},Q3 ks vs x=some u->x∈ks
 |[],_,h=>nn h
 |_::_,[],h=>nn h
 |k::ks,v::vs,h=>ay (fun e:k=x=>e▸List.mem_cons_self) fun e=>.tail _ (Bi (ks:=ks) (vs:=vs) ((aN e).symm.trans h))
theorem CS{kvs:List (Str×Value)}{ks:List LN}{x y}(hk:kvs.map (·.1)=ks.map toS)(h:x∈ks):stored kvs (toS x) y=kvs.map (fun kv=>if kv.1=toS x then (kv.1,y) else kv):=
 aR (by
  have h1:toS x∈kvs.map (·.1):=hk▸cq h
  obtain⟨kv,h2,h3⟩:=ak.mp h1;exact cg.mpr ⟨kv,h2,aU h3⟩)
theorem Ao{z y}(kvs:List (Str×Value)):(kvs.map (fun kv=>if kv.1=z then (kv.1,y) else kv)).map (·.1)=kvs.map (·.1):=by
 rw[br];exact cr fun kv J=>by
  show (if kv.1=z then (kv.1,y) else kv).1=kv.1;by_cases h:kv.1=z
  ·rw[aR h]
  ·rw[aN h]
theorem CR{z y}{kvs:List (Str×Value)}(h:z∉kvs.map (·.1)):kvs.map (fun kv=>if kv.1=z then (kv.1,y) else kv)=kvs:=by
 refine(cr fun kv hkv=>?_).trans (List.map_id kvs)
 exact aN fun (q:kv.1=z)=>h (q▸cq hkv)
theorem Lk{x}{ks:List LN}(h:toS x∈ks.map toS):x∈ks:=by
 obtain⟨z,h1,h2⟩:=ak.mp h;exact U0 h2▸h1
theorem EO{x u y}{F ρ}(hy:VR c F ρ u y):∀{ks:List LN} {vs:List Vv} {kvs:List (Str×Value)},kvs.map (·.1)=ks.map toS->ks.Nodup->VRs c F ρ vs (kvs.map (·.2))->VRs c F ρ (XY ks vs x u) ((kvs.map (fun kv=>if kv.1=toS x then (kv.1,y) else kv)).map (·.2)):=by
 intro ks;induction ks with
 |nil=>
  intro _ kvs hk _ hv;cases kvs with
  |nil=>exact hv
  |cons _ _=>exact nomatch hk
 |cons k ks ih=>
  intro vs kvs hk hn hv;cases kvs with
  |nil=>exact nomatch hk
  |cons kv kvs=>
   cases vs with
   |nil=>exact nomatch hv.length
   |cons v vs=>
    exact hv.consE (P:=fun l=>l=kv.2::kvs.map (·.2)->_) (fun a as h1 h2 e=>by
      obtain⟨e1,e2⟩:=qS hk;obtain⟨n1,n2⟩:=cC.mp hn;obtain⟨rfl,rfl⟩:=qS e;show VRs c F ρ (if k=x then u::vs else v::XY ks vs x u) ((if kv.1=toS x then (kv.1,y) else kv).2::_);by_cases h:k=x
      ·subst h
       rw[aR rfl,aR e1,CR fun q=>n1 (Lk (e2▸q))]
       exact .cons hy h2
      ·rw[aN h,aN fun q=>h (U0 (e1.symm.trans q))]
       exact .cons h1 (ih e2 n2 h2)) rfl
theorem Ay{kvs:List (Str×Value)}{ks:List LN}{a}{h:Heap}(D:h.DictOf (strKind c.prog c.w) a kvs)(k1:kvs.map (·.1)=ks.map toS):ks.Nodup:=by
 obtain⟨_,_,_,_,_,_,_,_,h⟩:=D;rw[k1] at h;exact cm.mpr ((List.pairwise_map.mp (cm.mp h)).imp fun h e=>h (aM toS e))
theorem Ar{l items n k t v j}{Q:Unit->Shared->Prop}(hi:IsL s.heap l items n)(hfit:Builtin.List.listFitsIndex k=true)(hj:seqIndex? k items.size=some j)(fG:j<items.size)(h3:(0<=k/\k.toNat=j)\/(k<0/\-(items.size:Int)<=k/\(k+items.size).toNat=j))
  (h:Q () { s with heap:=s.heap.update l (Obj.mapSeq (·.setIfInBounds j v)) }):wpAny c.M A (PySem.setItem (.ref l) (.int k t) v) Q E s:=by
 have hT:s.TypeIs (.ref l) "list":=⟨_,hi,rfl⟩;have hx':items[j]?=some items[j]:=bB fG;unfold PySem.setItem
 try with_reducible refine qD ?_
 first|refine qB (qC ?_)|skip
 refine qB (wpAny_sequenceKey hT (by decide) ?_)
 refine qB (wpAny_callSpecial?_slot (name:=Str.ofString "__setitem__") hT slot_list_setitem
  (eI slot_list_setitem hT entry_list_setitem ?_ (args_list_setitem _ _ _)))
 show wpAny _ _ (Builtin.List.listSubscript? (.int k t) >>= _) _ _ s;refine qB (wpAny_listSubscript_int hfit ?_);cases k with
 |ofNat k=>
  have hk:k=j:=h3.elim (fun h=>h.2) fun h=>absurd h.1 (bP.mpr (aj k))
  subst hk;show wpAny _ _ ((seqItemAt l k >>= fun r=>pure (r.map (k,·))) >>= _) _ _ s
  refine qB (qB (wpAny_seqItemAt hi rfl (qC ?_)));rw[hx'];show wpAny _ _ (setSeqItemAt l k v >>= _) _ _ s;refine qB (wpAny_setSeqItemAt hi rfl ?_)
  first
   |exact qB (qC (qC ⟨.none,rfl,qC h⟩))
   |exact qC ⟨.none,rfl,qC h⟩
 |negSucc k=>
  show wpAny _ _ ((Builtin.List.listItems (.ref l) >>= fun xs=>pure ((seqIndex? (Int.negSucc k) xs.size).bind fun i=>xs[i]?.map (i,·))) >>= _) _ _ s
  refine qB (qB ?_);show wpAny _ _ (seqItems? (.ref l) >>= _) _ _ s;refine qB (wpAny_seqItems hi rfl (qC (qC ?_)));rw[hj];simp only[Option.bind_some,hx',Option.map_some];refine qB (wpAny_setSeqItemAt hi rfl ?_)
  first
   |exact qB (qC (qC ⟨.none,rfl,qC h⟩))
   |exact qC ⟨.none,rfl,qC h⟩
theorem VRs.set{F:Addr->Obj->Prop}{ρ v x}(h:VR c F ρ v x):∀{l:List Vv} {xs:List Value} (j:Nat),VRs c F ρ l xs->VRs c F ρ (l.set j v) (xs.set j x):=by
 intro l;induction l with
 |nil=>
  intro xs j H;exact H.nilE .nil
 |cons _ _ ih=>
  intro xs j H;cases j with
  |zero=>
   exact H.consE fun J J a b=>.cons h b
  |succ j=>
   exact H.consE fun J J a b=>.cons a (ih j b)
theorem BW{o x v ov xv yv}{Q:Unit->Shared->Prop}(hf:Tactic.U2 U o x v=some U')(R:Rel c env g U s)(Ho:Vx c env g s o ov)(Hx:Vx c env g s x xv)(Hy:Vx c env g s v yv)
  (N:∀s',Rel c env g U' s'->Ext env g g s s'->Q () s'):wpAny c.M A (PySem.setItem ov xv yv) Q E s:=by
 cases o<;>first|exact nn hf|skip
 refine boE (show bo (JA U.hp id) _=some U' from hf) fun b ho h=>?_
 cases b<;>first|exact nn h|skip
 ·exact QM (P:=fun x=>Vx c env g s x xv->wpAny c.M A (PySem.setItem ov xv yv) Q E s) h (fun k h Hx=>bdE h fun hb h=>boE h fun j hj h=>gdE h fun hjl e=>Hx.intE (P:=fun xv=>wpAny c.M A (PySem.setItem ov xv yv) Q E s) fun t=>Ho.objE fun a ha=>by
   cases e;obtain⟨items,n,hcs,hi,hv⟩:=Uy R ho ha;have hs:=Jf hv;rw[<- hs] at hb hj;obtain⟨⟨h1,h2⟩,h3⟩:=Zz hj (U8 hb);obtain⟨fQ,fM⟩:=Y7 (f:=(·.setIfInBounds j yv)) (l':=l.set j v) R hcs hi (by rw[Array.toList_setIfInBounds];exact VRs.set Hy j hv)
   exact Ar hi (ag.mpr ⟨aU h1,aU h2⟩) hj (hs▸qE hjl) h3 (N _ fQ fM)) Hx
 exact Ql (P:=fun x=>Vx c env g s x xv->wpAny c.M A (PySem.setItem ov xv yv) Q E s) h (fun x h Hx=>boE h fun u hu h=>gdE h fun fN e=>Hx.strE (P:=fun xv=>wpAny c.M A (PySem.setItem ov xv yv) Q E s) fun t=>Ho.objE fun a ha=>by
  cases e;obtain⟨q,hc,rfl,hsm,kvs,D,k1,r1⟩:=Wc R ho ha;have hlen':kvs.length=ks.length:=by rw[<- aP (·.1),k1,aP]
  refine wpAny_setItem_pairs (k:=toS x) (Dg x t) D (fun h' hd hs=>?_) (hlen'.symm▸Kx (qE fN))
  rw[CS k1 (Bi hu)] at hd;have K:Keep env (·=a) s.heap h':=.of (fun b p hb e=>(hs.2 b hb).trans e) fun e=>(R.dis a (R.cW _ _ _ hc)).2 (.inl e.symm)
  obtain⟨ob,hob,-⟩:=bR.mp hd;exact N _ ⟨R.toRel0.setOb (ob':=.dict ks (XY ks vs x v)) hc K ⟨ob,hob⟩ fun kF=>⟨rfl,hsm,_,hd,(Ao kvs).trans k1,(EO Hy k1 (Ay D k1) r1).mono kF fun J J z=>z⟩,xD _⟩ (Ext.setOb (R.cW _ _ _ hc) (R.dis _ (R.cW _ _ _ hc)).2 K rfl)) Hx

variable{C:Ora}{t i e:Expr}{mt mi m:ME}{n n1a n2a D1a D2a:Nat}{o:Bop}{pos:Pos}
theorem VR.objR{F ρ}{i x}(h:VR c F ρ (.obj i) x):∃a,x=.ref a/\ρ i=some a:=h.objE fun a e=>⟨a,rfl,e⟩
theorem Mm{sp}(hc:QB e=true)(H:JE c r env e (ev C m))(H2:JE c r env t (ev C mt))(H3:JE c r env i (ev C mi)):JQ c r env (.Assign [.Subscript t i sp] e pos) (exc C (.asgS mt mi m)):=fun J J J J J J J J hr hf R N=>bnE hf fun v U1a h1 h=>bnE h fun o U2a h3 h=>bnE h fun x fI h5 h=>boE h fun U4a h7 h8=>
 wpAny_Assign_Subscript (H hr h1 R fun xv ek eu ew ez e6=>H2 hr h3 ew fun ov em fB fE fP fH=>H3 hr h5 fE fun iv fO g3a fQ X3a fM=>
  BW h7 fQ (fP.ext fM) X3a (ez.ext (fH.trans fM)) fun s4a R4a E4a=>(N.of h8).nxt R4a (e6.trans (fH.trans (fM.trans E4a)))) (WR hc)
theorem Mi(O:c.Ok)(VV:EnvOk env){np}(hk:env.kindOf (c.nm n)=some .local)(ho:o=.add\/o=.sub)(H:JE c r env e (ev C m)):JQ c r env (.AugAssign (.Name (c.nm n) np) (WE o) e pos) (exc C (.augN n o m)):=fun J J J J J J J J hr hf R N=>boE hf fun a h1 h=>bnE h fun b U1a h3 h=>bnE h fun w U2a h5 h6=>by
 obtain⟨mm,hm,hl⟩:=R.loc;obtain⟨x,hx,hxv⟩:=(hl n _ h1).1 hk;exact wpAny_AugAssign_Name (cb VV.kind hk hm hx (H hr h3 R fun y ek eu ew ez e6=>Ng ho h5 ew (VR.ext e6 hxv) ez fun z em fB fE fP fH=>
  Ux O VV hk fE fP fun fO fQ fM=>(N.of h6).nxt fQ (e6.trans (fH.trans fM))))
theorem Mj(O:c.Ok){tp}(hn:QD c D1a n=true)(ho:o=.add\/o=.sub)(H:JE c r env t (ev C mt))(H2:JE c r env e (ev C m)):JQ c r env (.AugAssign (.Attribute t (c.nm n) tp) (WE o) e pos) (exc C (.augA mt n D1a o m)):=fun A J fl U' g s E Q hr hf R N=>bnE hf fun x U1a h1 h=>
 wpAny_AugAssign_AttributeAny (H hr h1 R fun xv ek eu ew ez e6=>WU (P:=fun x=>Vx c env eu ek x xv->_) h (fun id fs hob h ez=>boE h fun a h3 h=>bnE h fun b U2a h5 h=>bnE h fun w fI h7 h=>boE h fun U4a h9 h10=>
  by
   obtain⟨ad,rfl,ha⟩:=ez.objR;exact KW O hn ew hob ha h3 fun av em fB fE fP fH=>H2 hr h5 fE fun bv fO g3a fQ X3a fM=>Ng ho h7 fQ (fP.ext fM) X3a fun z s4a g4a R4a X4a E4a=>
   Yq O hn h9 R4a (VR.obj ((fH.trans (fM.trans E4a)).rho ha)) X4a fun s5a R5a E5a=>(N.of h10).nxt R5a (e6.trans (fH.trans (fM.trans (E4a.trans E5a))))) ez)

def YO(e:Expr):Bool:=ctt fun h=>Expr.Tuple.elim (motive_1:=fun J=>Bool) e h fun J J J=>false
theorem BV(h:YO e=true){ts}{k tp}:swappedStores [.Tuple ts k tp] e env=pure none:=by
 cases e<;>first|rfl|exact ff h
theorem Dj(h:QB e=true){es}{k tp}{n}:swapsWithSole [.Tuple es k tp] e n env=pure false:=by
 unfold swapsWithSole;exact WR h
def ZX(c:Cx)(env:Nv)(e:Expr)(n:Nat):Bool:=ctq fun h=>Expr.Name.elim (motive_1:=fun J=>Bool) e h fun x J=>x==c.nm n&&(env.kindOf x==some .local)
@[elab_as_elim] theorem D9{P:Expr->Prop}(h:ZX c env e n=true)(k:∀p,env.kindOf (c.nm n)=some .local->P (.Name (c.nm n) p)):P e:=
 Jd h fun q=>Expr.Name.elim (motive_1:=fun e=>ZX c env e n=true->P e) e q (fun x p h=>bA h fun h1 h2=>by cases bE h1;exact k _ (bE h2)) h
noncomputable def WV(c:Cx)(env:Nv):List Expr->LN->Bool
 |[],ns=>ns.isEmpty
 |e::es,ns=>(match ns with
  |[]=>false
  |n::ns=>ZX c env e n&&WV c env es ns)
theorem DA(O:c.Ok)(VV:EnvOk env):∀{es:List Expr} {ns:LN} {vs:List Vv} {xs:List Value} {U U':St} {s:Shared} {Q:Unit->Shared->Prop},WV c env es ns=true->UI ns vs U=some U'->Rel c env g U s->Vxs c env g s vs xs->(∀s',Rel c env g U' s'->Ext env g g s s'->Q () s')->wpAny c.M A (assignInOrder ((assignEach es env).map (·.2)) xs) Q E s:=by
 intro l0;induction l0 with
 |nil=>
  intro ns vs _ _ _ s Q;exact fun hn hf R X N=>by
   cases ns with
   |cons _ _=>exact ff hn
   |nil=>
    cases vs with
    |cons _ _=>exact nn hf
    |nil=>cases hf;exact X.nilE (qC (N s R .refl))
 |cons e es ih=>
  intro ns vs _ _ _ s Q;exact fun hn hf R X N=>by
   cases ns with
   |nil=>exact ff hn
   |cons n ns=>
   cases vs with
   |nil=>exact nn hf
   |cons v vs=>
   refine bA hn fun h1 hn=>D9 h1 fun p hk=>X.consE fun a b ha hb=>?_
   show wpAny _ _ (do holding _ (assign (.Name (c.nm n) p) env _);assignInOrder ((assignEach es env).map (·.2)) _) _ _ _
   exact qB (qD (cD (Ux O VV hk R ha fun ek ew e6=>ih hn hf ew (hb.ext e6) fun em fE fH=>N em fE (e6.trans fH))))
theorem Ce:∀{es:List Expr} {ns:LN},WV c env es ns=true->(assignEach es env).length=ns.length/\(assignEach es env).findIdx? (·.1)=none:=by
 intro es;induction es with
 |nil=>
  intro ns h;cases ns with
  |nil=>exact⟨rfl,rfl⟩
  |cons _ _=>exact ff h
 |cons e es ih=>
  intro ns h;cases ns with
  |nil=>exact ff h
  |cons n ns=>
   exact bA h fun h1 h2=>D9 h1 fun p hk=>by
     obtain⟨h3,h4⟩:=ih h2;refine⟨aM (·+1) h3,?_⟩
     show ((false,_)::assignEach es env).findIdx? (·.1)=none
     rw[List.findIdx?_cons,h4];rfl
theorem BN:∀{ns:LN} {vs:List Vv} {U U':St},UI ns vs U=some U'->ns.length=vs.length:=by
 intro ns;induction ns with
 |nil=>
  intro vs U _ h;cases vs with
  |nil=>rfl
  |cons _ _=>exact nn h
 |cons _ ns ih=>
  intro vs U _ h;cases vs with
  |nil=>exact nn h
  |cons _ vs=>exact aM (·+1) (ih h)
theorem Gu(O:c.Ok)(VV:EnvOk env){es ns}{k tp}(hn:WV c env es ns=true):Ii c env (.Tuple es k tp) (fun v U=>bo (WX v) fun vs=>UI ns vs U):=fun A v U U' g s x Q E hh hf R X N=>boE hf fun vs h3 h5=>by
 obtain⟨l1,l2⟩:=Ce hn;show wpAny _ _ (do standAt tp;unpack x (assignEach es env)) _ _ _
 refine qB (qV ?_);cases v<;>first|exact nn h3|(cases h3;skip)
 ·exact X.tupE fun a o items n f1 c1 d1 r1=>by
   refine unpack_tuple hh ⟨_,f1.1,c1,_,d1⟩ (by rw[l1,Jf r1];exact BN h5) l2 fun h' he=>?_
   have kk:∀b p,s.heap.get? b=some p->h'.get? b=some p:=fun b p e=>he b p (qP (xP e)) e
   have E':Ext env g g s { s with heap:=h' }:=.grow kk rfl
   exact DA O VV hn h5 (R.grow kk R.pos) (VRs.ext E' r1) fun fO fQ fM=>N fO fQ (E'.trans fM)
 ·exact X.listE fun a items n f1 r1=>by
   refine AQ hh f1.1 (by rw[l1,Jf r1];exact BN h5) l2 R.pos fun h' tk htk kk=>?_
   have E':Ext env g g s { s with heap:=h',toks:=tk }:=.grow kk rfl
   exact DA O VV hn h5 (R.grow kk htk) (VRs.ext E' r1) fun fO fQ fM=>N fO fQ (E'.trans fM)
theorem Ml(O:c.Ok)(VV:EnvOk env){es ns}{k tp}(hc:QB e=true)(ht:YO e=true)(hn:WV c env es ns=true)(H:JE c r env e (ev C m)):JQ c r env (.Assign [.Tuple es k tp] e pos) (exc C (.asgT ns m)):=fun A J fl U' g s E Q hr hf R N=>bnE hf fun v U1a h1 h=>boE h fun vs h3 h=>boE h fun U2a h5 h6=>
 Assign_Tuple (H hr h1 R fun x ek eu ew ez e6=>Gu O VV hn hr.1 (show bo (WX v) (fun vs=>UI ns vs U1a)=some U2a by rw[h3];exact h5) ew ez fun fO fQ fM=>(N.of h6).nxt fQ (e6.trans fM)) (Dj hc) (BV ht)
theorem Mf(O:c.Ok)(VV:EnvOk env){es ns}{k tp}{it b mi mb}(hn:WV c env es ns=true)(hs:∀x,foldedSetIterable it env x=pure x)
  (H:JE c r env it (ev C mi)) (H2:Qv c r env b (exs C mb)):JQ c r env (.For (.Tuple es k tp) it b [] pos) (exc C (.forT ns mi mb)):=GT (Gu O VV hn) hs H H2
theorem BT{p x o}{Q:Unit->Shared->Prop}(H:JE c r env t (ev C m))(hr:JM env A r)(hf:ev C m U=some (o,U'))(R:Rel c env g U s)
  (N:∀ov s' g',Rel c env g' U' s'->Vx c env g' s' o ov->Ext env g g' s s'->wpAny c.M A (PySem.setAttr ov (c.nm n) x) Q E s'):wpAny c.M A (assign (.Attribute t (c.nm n) p) env x) Q E s:=by
 rw[arm_assign_Attribute];exact qB (qD (H hr hf R fun ov ek eu ew ez e6=>qB (qV (qB (qD (xT (N ov ek eu ew ez e6) (fun J J h=>wpAny_release h) fun J J h=>h))))))
theorem RX{P:Vv->Prop}{q}(h:OH v=some q)(k:P (.tup [q.1,q.2])):P v:=by
 cases v<;>first|exact nn h|skip
 match l,h with
 |[],h=>exact nn h
 |[_],h=>exact nn h
 |_::_::_::_,h=>exact nn h
 |[a,b],h=>cases h;exact k
theorem Ez(O:c.Ok){t1a t2a m1a m2a}{p1a p2a k tp}(hn1:QD c D1a n1a=true)(hn2:QD c D2a n2a=true)(hc:QB e=true)(ht:YO e=true)(H:JE c r env e (ev C m))(H1a:JE c r env t1a (ev C m1a))(H2a:JE c r env t2a (ev C m2a)):
  JQ c r env (.Assign [.Tuple [.Attribute t1a (c.nm n1a) p1a,.Attribute t2a (c.nm n2a) p2a] k tp] e pos) (exc C (.asgTA m1a n1a D1a m2a n2a D2a m)):=fun A J fl U' g s E Q hr hf R N=>bnE hf fun v U1a h1 h=>boE h fun q hq h=>bnE h fun o1a U2a h3 h=>boE h fun fI h5 h=>bnE h fun o2a U4a h7 h=>boE h fun U5a h9 h10=>
 Assign_Tuple (H hr h1 R fun x ek eu ew ez e6=>RX (P:=fun v=>Vx c env eu ek v x->_) hq (fun ez=>ez.tupE fun a o items n f1 c1 d1 r1=>by
  show wpAny _ _ (do standAt tp;unpack (.ref a) (assignEach [.Attribute t1a (c.nm n1a) p1a,.Attribute t2a (c.nm n2a) p2a] env)) _ _ _
  refine qB (qV (unpack_tuple hr.1 ⟨_,f1.1,c1,_,d1⟩ (by rw[Jf r1];rfl) rfl fun h' he=>?_))
  have kk:∀b p,ek.heap.get? b=some p->h'.get? b=some p:=fun b p e=>he b p (qP (xP e)) e
  have E':Ext env eu eu ek { ek with heap:=h' }:=.grow kk rfl
  have R':=ew.grow (s':={ ek with heap:=h' }) kk ew.pos
  have r1':=VRs.ext E' r1;generalize items.toList=xs at r1';refine r1'.twoE fun y1 y2 a1 a2=>?_
  show wpAny _ _ (do holding _ (assign (.Attribute t1a (c.nm n1a) p1a) env _);(do holding _ (assign (.Attribute t2a (c.nm n2a) p2a) env _);pure ())) _ _ _
  exact qB (qD (BT H1a hr h3 R' fun ov em fB fE fP fH=>Yq O hn1 h5 fE fP (VR.ext fH a1) fun fO fQ fM=>
   qB (qD (BT H2a hr h7 fQ fun ov s4a g4a R4a X4a E4a=>Yq O hn2 h9 R4a X4a (VR.ext (fH.trans (fM.trans E4a)) a2) fun s5a R5a E5a=>qC
    ((N.of h10).nxt R5a (e6.trans (E'.trans (fH.trans (fM.trans (E4a.trans E5a))))))))))) ez) (Dj hc) (BV ht)
end
theorem Bh{x v}:∀{l:List (Str×Value)},(l.map (·.1)).Nodup->(x,v)∈l->l.lookup x=some v:=by
 intro l;induction l with
 |nil=>
  intro _ h;exact nomatch h
 |cons p l ih=>
  intro hn h;obtain⟨a,b⟩:=p;obtain⟨h1,h2⟩:=cC.mp hn;rw[cJ];rcases aZ.mp h with e|h
  ·cases e;rw[aS]
  ·have hm:x∈l.map (·.1):=cq (f:=(·.1)) h
   rw[bX fun (q:x=a)=>h1 (q▸hm)];exact ih h2 h
theorem Cg{x}:∀{l:List (Str×Value)},x∉l.map (·.1)->l.lookup x=none:=by
 intro l0;induction l0 with
 |nil=>
  intro _;exact rfl
 |cons p0 l ih=>
  obtain⟨a,b⟩:=p0;intro h;rw[cJ,bX fun (q:x=a)=>h (q▸List.mem_cons_self)];exact ih fun q=>h (.tail _ q)
theorem Aa{x}{l:List (Str×Value)}(hn:(l.map (·.1)).Nodup)(h:x∈l.map (·.1)):(l.lookup x).isSome=true:=by
 obtain⟨p,h1,rfl⟩:=ak.mp h;rw[Bh hn h1];rfl
noncomputable def Wo(x:Str×Value)(r:List (Str×Value)):Sem (ForInStep (List (Str×Value))):=if (List.lookup x.1 r).isNone=true then pure (ForInStep.yield (r++[(x.1,x.2)])) else pure (ForInStep.yield r)
theorem PC{st m}:∀{l:List (Str×Value)},(∀p∈l,(st.lookup p.1).isSome=true)->forIn (l++m) st Wo=forIn m st Wo:=by
 intro l0;induction l0 with
 |nil=>
  intro _;exact rfl
 |cons p l ih=>
  intro h;rw[List.cons_append,b8];unfold Wo;rw[dz.mpr (h p (.head _)),aN ar,pure_bind];exact ih fun p hp=>h p (.tail _ hp)
theorem FK:∀{l st:List (Str×Value)},((st++l).map (·.1)).Nodup->forIn l st Wo=pure (st++l):=by
 intro l0;induction l0 with
 |nil=>
  intro st _;rw[aQ];rfl
 |cons p l ih=>
  intro st h;rw[List.append_cons] at h ⊢;have h':=(eD.mp (bH▸h)).1;rw[bH] at h';rw[b8];unfold Wo;rw[Cg fun q=>(eD.mp h').2.2 _ q _ (.head _) rfl,Option.isNone_none,aR rfl,pure_bind]
  exact ih h
theorem T5:∀{l L:List (Str×Value)},(∀p∈l,L.lookup p.1=some p.2)->(l.map (·.1)).filterMap (fun n=>(L.lookup n).map fun x=>(n,x))=l:=by
 intro l0;induction l0 with
 |nil=>
  intro _ _;exact rfl
 |cons p l ih=>
  intro L h;rw[List.map_cons,bc,h p (.head _),ih fun p hp=>h p (.tail _ hp)];rfl
theorem bd1{n k d:Nat}(h1:k<=n)(h2:d<=n)(h3:n<=k+d):k-(n-d)=d-(n-k)/\n-d<=k/\d-(n-k)<=d/\n-k=d-(d-(n-k)):=by
 obtain⟨a,rfl⟩:=Nat.exists_eq_add_of_le h1;obtain⟨b,rfl⟩:=Nat.exists_eq_add_of_le (cx h3);have hb:b<=k:=cx (aW k a▸h2:a+b<=a+k);rw[ao,ao,aW k a,cE,Nat.sub_sub_self hb];exact⟨rfl,xU _ _,bS _ _,(Nat.add_sub_cancel a b).symm⟩
theorem K6{α:Type}{M A}{p:Prop}[Decidable p]{x y}{Q:α->Shared->Prop}{E:Value->Shared->Prop}{s}(h:¬p)(k:wpAny M A y Q E s):wpAny M A (if p then x else y) Q E s:=by
 rw[aN h];exact k
theorem Cc{α:Type}{p}{l:List α}(h:∀x∈l,p x=false):¬(!(l.filter p).isEmpty)=true:=by
 rw[List.filter_eq_nil_iff.mpr fun x hx q=>ar ((h x hx).symm.trans q)];exact ar
noncomputable def Ji(as:List Arg):List Str:=as.map (·.arg)
structure Binds(ns:List Str)(xs ds ys:List Value):Prop where
 nodup:ns.Nodup
 h1:xs.length<=ns.length
 h2:ds.length<=ns.length
 h3:ns.length<=xs.length+ds.length
 ys:ys=xs++ds.drop (ds.length-(ns.length-xs.length))
section
variable{ns:List Str}{xs ds ys:List Value}
theorem Binds.len(B:Binds ns xs ds ys):ys.length=ns.length:=by
 rw[B.ys,aO,am,<- (bd1 B.h1 B.h2 B.h3).2.2.2];exact bw B.h1
theorem Binds.fst(B:Binds ns xs ds ys):(ns.zip ys).map (·.1)=ns:=List.map_fst_zip (qU B.len.symm)
theorem Binds.lt(B:Binds ns xs ds ys):(ns.take xs.length).length=xs.length:=bU B.h1
theorem Binds.low(B:Binds ns xs ds ys):(ns.take xs.length).zip xs=ns.zip xs:=by
 have:=eS (l₁:=ns.take xs.length) (r₁:=ns.drop xs.length) (l₂:=xs) (r₂:=[]) B.lt;rw[bJ,aQ,List.zip_nil_right,aQ] at this;exact this.symm
theorem Binds.all(B:Binds ns xs ds ys):ns.zip xs++(ns.drop xs.length).zip (ds.drop (ds.length-(ns.length-xs.length)))=ns.zip ys:=by
 rw[<- B.low,<- eS B.lt,bJ,B.ys]
theorem Binds.nd(B:Binds ns xs ds ys):((ns.zip ys).map (·.1)).Nodup:=by rw[B.fst];exact B.nodup
theorem Binds.given(B:Binds ns xs ds ys){x}(hx:x∈ns.take xs.length):((ns.zip xs).lookup x).isSome=true:=by
 have n:=B.nd;rw[<- B.all,bH] at n;refine Aa (eD.mp n).1 ?_;rw[<- B.low,List.map_fst_zip (qU B.lt)];exact hx
theorem Binds.loop(B:Binds ns xs ds ys):forIn ((ns.drop (ns.length-ds.length)).zip ds) (ns.zip xs) Wo=pure (ns.zip ys):=by
 obtain⟨b1,b2,b3,b4⟩:=bd1 B.h1 B.h2 B.h3;have e3:((ns.take xs.length).drop (ns.length-ds.length)).zip (ds.take (ds.length-(ns.length-xs.length)))++(ns.drop xs.length).zip (ds.drop (ds.length-(ns.length-xs.length)))=(ns.drop (ns.length-ds.length)).zip ds:=by
  rw[<- eS (by rw[am,B.lt,b1,bU b3]),bJ,<- cN (by rw[B.lt];exact b2),bJ]
 rw[<- e3,PC fun p hp=>B.given (bF (List.of_mem_zip hp).1),FK (by rw[B.all];exact B.nd),B.all]
theorem Binds.missing(B:Binds ns xs ds ys):∀x∈ns.take (ns.length-ds.length),((ns.zip xs).lookup x).isNone=false:=fun x hx=>
 dz.mpr (B.given (List.take_subset_take_left _ (bd1 B.h1 B.h2 B.h3).2.1 hx))
theorem Binds.done(B:Binds ns xs ds ys):(ns++[]).filterMap (fun n=>((ns.zip ys).lookup n).map fun x=>(n,x))=ns.zip ys:=by
 have:=T5 (l:=ns.zip ys) fun p hp=>Bh B.nd hp
 rw[B.fst] at this;rw[aQ,this]
theorem BS{s fd as dd}(hp:fd.params=⟨[],as,none,[],[],none,dd⟩)(B:Binds (Ji as) xs ds ys){r}(hr:(r.getD #[]).toList=ds)
  (hs:∀(M:Model) (A:Around) (E:Value->Shared->Prop) (Q:Option (Array Value)->Shared->Prop),Q r s->wpAny M A (seqItems? fd.defaults) Q E s):BindsTo s fd ⟨xs,[]⟩ ((Ji as).zip ys):=fun M A E Q hq=>by
 have hD:ds.drop (ds.length-(Ji as).length)=ds:=by rw[Nat.sub_eq_zero_of_le B.h2,dk]
 unfold bindArgs;rw[hp];refine qB (qC (qB (hs _ _ _ _ ?_)));rw[hr];refine K6 (fun q=>bM.mpr B.h1 (qH (ag.mp q).1)) (K6 ?_ ?_)
 ·refine Cc ?_
  show ∀x∈(Ji as).take ((Ji as).length-(ds.drop (ds.length-(Ji as).length)).length),(((Ji as).zip xs).lookup x).isNone=false;rw[hD];exact B.missing
 ·show wpAny M A (forIn (((Ji as).drop ((Ji as).length-(ds.drop (ds.length-(Ji as).length)).length)).zip (ds.drop (ds.length-(Ji as).length))) ((Ji as).zip xs) Wo >>= _) Q E s
  rw[hD,B.loop];refine qB (qC (qB (qC (K6 (fun q=>nomatch q) (qC ?_)))))
  show Q ((Ji as++[]).filterMap (fun n=>(((Ji as).zip ys).lookup n).map fun x=>(n,x))) s
  rw[B.done];exact hq
end

section
variable{c:Cx}{r:Nat}{env fC:Nv}{A:Around}{U U' U1a:St}{g eu:Gh}{s s' ek em:Shared}{E:Value->Shared->Prop}{Q:Value->Shared->Prop}{v:Vv}{D:Addr->Prop}
noncomputable def Gh.inn(g:Gh)(env:Nv):Gh:={ g with X:=fun a=>g.X a\/FA env a }
structure Ent(env fC:Nv)(s s':Shared):Prop where
 k:∀b o,s.heap.get? b=some o->s'.heap.get? b=some o
 new:s.heap.objs.size<=fC.locals
 gens:gos s'=gos s
 fs:fC.fs=fC.toEnv::env.fs
 frm:fC.frame=some fC.locals
theorem Ent.fs_(e:Ent env fC s s'){a}:Fs fC a ↔ a=fC.locals\/Fs env a:=by
 unfold Fs;rw[e.fs,bc,e.frm];exact aZ
theorem Ent.not(e:Ent env fC s s'){a o}(h:s.heap.get? a=some o)(n:¬Fs env a):¬FA fC a:=fun z=>z.elim (fun z=>QT h e.new z) fun z=>(e.fs_.mp z).elim (fun z=>QT h e.new z) n
theorem _root_.PySem.Heap.Ns.sl{h h' a m}(n:h.Ns a m)(k:Sl a h h'):h'.Ns a m:=n.elim fun o z0=>z0.elim fun es z0=>z0.elim fun ep z=>(k o z.1).elim fun J e=>⟨_,es,ep,e,z.2⟩
theorem Fz.enter{a o}(e:Ent env fC s s')(h:Fz env g s.heap a o):Fz fC (g.inn env) s'.heap a o:=⟨e.k _ _ h.1,h.2.1,fun z=>z.elim h.2.2.1 h.2.2.2,e.not h.1 fun q=>h.2.2.2 (.inr q)⟩
theorem VR.enter{v x}(e:Ent env fC s s')(h:Vx c env g s v x):Vx c fC (g.inn env) s' v x:=h.mono (fun J J z=>z.enter e) (fun J J z=>z)
theorem VRs.enter{v x}(e:Ent env fC s s')(h:Vxs c env g s v x):Vxs c fC (g.inn env) s' v x:=h.mono (fun J J z=>z.enter e) (fun J J z=>z)
theorem Rel.enter(R:Rel c env g U s)(e:Ent env fC s s')(hp:0<s'.toks){l m}(hn:s'.heap.Ns fC.locals m)(hl:Q9 c fC (Tactic.Fz fC (g.inn env) s'.heap) g.rho l m):Rel c fC (g.inn env) { U with loc:=l } s':=
 ⟨⟨fun a o q=>(R.kin a o q).enter e,fun a q=>(R.wob a q).imp fun o z=>e.k _ _ z,fun a q=>q.elim (fun q=>(R.xob a q).imp fun o z=>e.k _ _ z) fun q=>(R.fob a q).imp fun o z=>e.k _ _ z,fun a q=>(e.fs_.mp q).elim (fun q=>q▸hn.frd) fun q=>(R.frd a q).sl (.of fun o=>e.k a o),
  fun a w=>⟨fun z=>z.elim (R.dis a w).1 (R.dis a w).2,(R.wob a w).elim fun J q=>e.not q fun z=>(R.dis a w).2 (.inr z)⟩,⟨m,hn,hl⟩,fun id ob q=>(R.obs id ob q).imp fun J=>a5 fun J z=>⟨z.1,z.2.mono (fun J J z=>z.enter e) (fun J J z=>z) fun J=>e.k _ _⟩,R.cW,R.inj,R.nx,R.ps⟩,hp⟩
theorem Fz.leave{a o}(hX:eu.X=(g.inn env).X)(h:Fz fC eu ek.heap a o):Fz env { eu with X:=g.X } ek.heap a o:=
 ⟨h.1,h.2.1,fun z=>h.2.2.1 (hX▸Or.inl z),fun z=>h.2.2.1 (hX▸Or.inr z)⟩
theorem VR.leave{v x}(hX:eu.X=(g.inn env).X)(h:Vx c fC eu ek v x):Vx c env { eu with X:=g.X } ek v x:=h.mono (fun J J z=>z.leave hX) (fun J J z=>z)
theorem Ext.leave(e:Ent env fC s s')(x:Ext fC (g.inn env) eu s' ek):Ext env g { eu with X:=g.X } s ek:=
 ⟨fun a o q w f=>x.fz a o (e.k _ _ q) w (e.not q fun z=>f (.inr z)),fun a q n o z=>x.up a (e.fs_.mpr (.inr q)) (fun i=>QT z e.new i) o (e.k _ _ z),x.cs,rfl,x.gens.trans e.gens⟩
theorem Rel.leave(R:Rel c env g U s)(e:Ent env fC s s')(x:Ext fC (g.inn env) eu s' ek)(ew:Rel c fC eu U1a ek):Rel c env { eu with X:=g.X } { U1a with loc:=U.loc } ek:=by
 have X:=Ext.leave e x;have kA:Sl env.locals s.heap ek.heap:=fun o q=>ay (fun f:Fs env env.locals=>x.up _ (e.fs_.mpr (.inr f)) (fun i=>QT q e.new i) o (e.k _ _ q)) fun f=>⟨o.slots,(x.fz _ o (e.k _ _ q) (fun w=>(R.dis _ w).2 .own) (e.not q f)).1⟩
 obtain⟨m,hm,hl⟩:=R.loc;exact⟨⟨fun a o q=>(ew.kin a o q).leave x.X,ew.wob,fun a q=>ew.xob a (x.X▸.inl q),fun a q=>ew.frd a (e.fs_.mpr (.inr q)),
  fun a w=>⟨fun z=>(ew.dis a w).1 (x.X▸.inl z),fun z=>(ew.dis a w).1 (x.X▸.inr z)⟩,⟨m,hm.sl kA,hl.mono (fun J J=>X.Fz) fun J J=>X.rho⟩,
  fun id ob q=>(ew.obs id ob q).imp fun J=>a5 fun J z=>⟨z.1,z.2.mono (fun J J z=>z.leave x.X) (fun J J z=>z) fun J z=>z⟩,ew.cW,ew.inj,ew.nx,ew.ps⟩,ew.pos⟩
end
def dIs(v:Vv):Value->Bool
 |.none=>v.isNone
 |.bool b=>v.isBool b
 |.int i _=>v.isInt i
 |_=>false
theorem Z5{c}{F:Addr->Obj->Prop}{ρ v x}(h:dIs v x=true):VR c F ρ v x:=by
 cases x<;>first|exact ff h|skip
 ·cases v<;>first|exact ff h|exact .none
 ·cases v<;>first|exact ff h|(cases bE h;exact .bool _)
 ·cases v<;>first|exact ff h|(cases bE h;exact .int _ _)
noncomputable def KN:List Vv->List Value->Bool
 |[],xs=>xs.isEmpty
 |v::l,xs=>(match xs with
  |[]=>false
  |x::xs=>dIs v x&&KN l xs)
theorem DM{c}{F:Addr->Obj->Prop}{ρ}:∀{l:List Vv} {xs:List Value},KN l xs=true->VRs c F ρ l xs
 |[],[],_=>.nil
 |[],_::_,h=>ff h
 |_::_,[],h=>ff h
 |_::_,_::_,h=>bA h fun h1 h2=>.cons (Z5 h1) (DM h2)
noncomputable def XL(o:Obj):Option (List Value):=match o.data with
 |.seq items _=>some items.toList
 |_=>none
def NR(K:Frag):Value->Option (List Value)
 |.none=>some []
 |.ref T=>bo (K.lookup T) XL
 |_=>none
theorem NA{o l}(h:XL o=some l):∃items n,o.data=.seq items n/\items.toList=l:=by
 unfold XL at h;generalize o.data=d at h;cases d<;>first|exact nn h|(cases h;exact⟨_,_,rfl,rfl⟩)
theorem Bm{K v ds}(h:NR K v=some ds){s}(X:K.In s.heap):
  ∃r:Option (Array Value),(r.getD #[]).toList=ds/\∀(M:Model) (A:Around) (E:Value->Shared->Prop) (Q:Option (Array Value)->Shared->Prop),Q r s->wpAny M A (seqItems? v) Q E s:=by
 cases v<;>first|exact nn h|skip
 ·cases h;exact⟨none,rfl,fun M A E Q hq=>qC hq⟩
 ·exact boE (show bo (K.lookup _) XL=some ds from h) fun o h1 h2=>(NA h2).elim fun items z0=>z0.elim fun n z0=>z0.elim fun h3 h4=>⟨some items,h4,fun M A E Q hq=>wpAny_seqItems (X _ _ h1) h3 hq⟩
structure DefAt(c:Cx)(f:Nat)(m:MFun)(fd:FuncData)(body:List Stmt)(as:List Arg)(dd:List Expr)(ds:List Value):Prop where
 at_:∃oc od osl,c.K.lookup (c.fA f)=some ⟨oc,od,.func fd,osl⟩
 code:codeIn c.K fd.code fd.qualname=true
 body:fd.body=.stmts body
 params:fd.params=⟨[],as,none,[],[],none,dd⟩
 names:Ji as=m.ps.map c.nm
 nodup:(Ji as).Nodup
 dflts:NR c.K fd.defaults=some ds
 dsok:KN m.ds ds=true
 dlen:ds.length<=(Ji as).length
 kind:fd.scope.kind=.function
 gen:fd.scope.isGenerator=false
 co:fd.scope.isCoroutine=false
 plocal:∀x∈Ji as,fd.scope.names.lookup x=some .local\/fd.scope.names.lookup x=some .cell
 glob:fd.globals=mainGlobals
 blt:fd.builtins=builtinsNs
 clo:fd.closure=[]
section
variable{B:List (Str×Value)->(Str->Option Value)->Str->Option Value}{n:Str}{x:Value}
noncomputable def upd(m:Str->Option Value)(n:Str)(x:Value):Str->Option Value:=fun y=>if y=n then some x else m y
theorem PO(h0:∀m,B [] m=m)(h1:∀a b r m,B ((a,b)::r) m=B r m\/B ((a,b)::r) m=B r (upd m a b)):∀(l:List (Str×Value)) (m:Str->Option Value),n∉l.map (·.1)->B l m n=m n:=fun l0=>by
 induction l0 with
 |nil=>
  exact fun m J=>eM (h0 m) n
 |cons p0 l ih=>
  obtain⟨a,b⟩:=p0;exact fun m h=>(h1 a b l m).elim (fun e=>(eM e n).trans (ih m fun q=>h (.tail _ q)))
   fun e=>(eM e n).trans ((ih _ fun q=>h (.tail _ q)).trans (aN fun q=>h (by rw[q];exact .head _)))
theorem Gj(h0:∀m,B [] m=m)(h1:∀a b r m,B ((a,b)::r) m=B r m\/B ((a,b)::r) m=B r (upd m a b))(h2:∀r m,B ((n,x)::r) m=B r (upd m n x)):∀(l:List (Str×Value)) (m:Str->Option Value),(l.map (·.1)).Nodup->(n,x)∈l->B l m n=some x:=by
 intro l;induction l with
 |nil=>
  intro _ _ h;exact nomatch h
 |cons p l ih=>
  intro m hn h;obtain⟨a,b⟩:=p;obtain⟨n1,n2⟩:=cC.mp hn;rcases aZ.mp h with e|h
  ·cases e;rw[h2,PO h0 h1 l _ n1];exact aR rfl
  ·exact(h1 a b l m).elim (fun e=>(eM e n).trans (ih _ n2 h)) fun e=>(eM e n).trans (ih _ n2 h)
theorem DV{k l m}(hk:k n=some .local)(hn:(l.map (·.1)).Nodup)(h:(n,x)∈l):bindL k l m n=some x:=
 Gj (B:=bindL k) (fun J=>rfl) (fun a b r m=>ay (fun e:k a=some .local=>.inr (aM (bindL k r) (aR e))) fun e=>.inl (aM (bindL k r) (aN e))) (fun r m=>aM (bindL k r) (aR hk)) l m hn h
theorem FZ{k l m}(hk:¬k n=some .local)(hn:(l.map (·.1)).Nodup)(h:(n,x)∈l):bindC k l m n=some x:=
 Gj (B:=bindC k) (fun J=>rfl) (fun a b r m=>ay (fun e:k a=some .local=>.inl (aM (bindC k r) (aR e))) fun e=>.inr (aM (bindC k r) (aN e))) (fun r m=>aM (bindC k r) (aN hk)) l m hn h
end
section
variable{c:Cx}{r:Nat}{env fC:Nv}{A:Around}{U U' U1a:St}{g eu:Gh}{s s' ek em:Shared}{E:Value->Shared->Prop}{Q:Value->Shared->Prop}{v:Vv}{D:Addr->Prop}
theorem Cx.Ok.noLimit(O:c.Ok)(R:Rel c env g U s):s.heap.NoLimit:=
 ⟨fun J=>none,⟨_,#[],0,(R.kin _ _ O.lim).1,rfl,(fun e he=>nomatch he),fun name=>rfl⟩,rfl⟩
theorem Fb{F ρ}{n v}:∀{ps:LN} {as:List Vv} {xs:List Value},VRs c F ρ as xs->JA (ps.zip as) n=some v->∃x,(c.nm n,x)∈(ps.map c.nm).zip xs/\VR c F ρ v x:=by
 intro ps;induction ps with
 |nil=>
  intro _ _ _ h;exact nn h
 |cons p ps ih=>
  intro as _ X h;cases as with
  |nil=>exact nn h
  |cons a as=>
   exact X.consE (P:=fun xs=>∃x,(c.nm n,x)∈((p::ps).map c.nm).zip xs/\VR c F ρ v x) fun y ys ha X=>by
     by_cases e:p=n
     ·cases (aR e).symm.trans h;exact⟨y,e▸.head _,ha⟩
     ·exact(ih X ((aN e).symm.trans h)).imp fun J z=>⟨.tail _ z.1,z.2⟩
theorem Rp(R:Rel c env g U s){a:Addr}(h:s.heap.objs.size<=a):¬g.W a/\¬g.X a/\¬FA env a:=
 ⟨fun q=>(R.wob _ q).elim fun J e=>QT e h rfl,fun q=>(R.xob _ q).elim fun J e=>QT e h rfl,fun q=>(R.fob _ q).elim fun J e=>QT e h rfl⟩
theorem PF{u r L}(h:u+20*(r+1)+300<L):u+3+20*r+300<L:=
 qL (qO (by rw[b7,aX,aW 3];exact qI (qI (by decide) _) _) _) h
theorem GY{u r L}(h:u+(r+1)<L):u+1+r<L:=by rw[aX,aW 1];exact h
theorem JM.deeper{e}(hr:JM env A (r+1)):JM ⟨e,e::env.fs⟩ (A.deeper e) r:=⟨hr.1,GY hr.2.1,PF hr.2.2.1,Around.frames_deeper hr.2.2.2⟩
theorem EnvOk.on{e}(VV:EnvOk env)(h1:e.scope.kind=.function)(h2:e.globals=mainGlobals)(h3:e.builtins=builtinsNs){L}(hf:e.frame=some L):EnvOk ⟨e,e::env.fs⟩:=
 ⟨h1,h2,h3,fun x hx=>(aZ.mp hx).elim (fun q=>q▸⟨fun q=>(by rw[h1] at q;exact nomatch q),L,hf⟩) fun q=>VV.frs x q,e,env.fs,rfl,rfl⟩

theorem RK{fl w fw}(hw:Qe fl=some w)(X:FlR c fC eu ek fl fw)(k:∀x,Vx c fC eu ek w x->Q x ek):Wp Q E (.ok (.ret (match (generalizing:=false) fw with|.ret v=>v|_=>.none))) ek:=by
 cases fl with
 |next=>cases X;cases hw;exact k _ .none
 |ret u=>obtain⟨x,rfl,hx⟩:=X;cases hw;exact k x hx
 |_=>exact nn hw
noncomputable abbrev dNv(fd:FuncData)(L a:Addr)(env:Nv):Nv:=⟨callEnvC fd L a,callEnvC fd L a::env.fs⟩
theorem HZ(O:c.Ok){f m fd body as dd ds}(Df:DefAt c f m fd body as dd ds)(VV:EnvOk env){vs avs xs} {K:Result->Shared->Prop} (hr:JM env A (r+1)) (ha:m.args vs=some avs) (R:Rel c env g U s) (X:Vxs c env g s vs xs)
  (N:∀ek,Ent env (dNv fd s.heap.objs.size (c.fA f) env) s ek->EnvOk (dNv fd s.heap.objs.size (c.fA f) env)->JM (dNv fd s.heap.objs.size (c.fA f) env) (A.deeper (callEnvC fd s.heap.objs.size (c.fA f))) r ->
   Rel c (dNv fd s.heap.objs.size (c.fA f) env) (g.inn env) { U with loc:=m.ps.zip avs } ek->codeAny c.M A (.func body (callEnvC fd s.heap.objs.size (c.fA f))) K ek):codeAny c.M A (.call (.ref (c.fA f)) ⟨xs,[]⟩) K s:=
 gdE ha fun hl e2=>bA hl fun l1 l2=>by
  cases e2;have l1:=qE l1;have l2:=aa l2;obtain⟨oc,od,osl,ho⟩:=Df.at_;obtain⟨rr,hrr,hrun⟩:=Bm Df.dflts R.kinD;have dv:=DM (c:=c) (F:=Tactic.Fz env g s.heap) (ρ:=g.rho) Df.dsok;have hpl:m.ps.length=(Ji as).length:=by rw[Df.names,aP]
  rw[dv.length,X.length,hpl] at l2 N;rw[X.length,hpl] at l1;have B:Binds (Ji as) xs ds _:=⟨Df.nodup,l1,Df.dlen,by rw[<- l2,aO,X.length];exact qI (by rw[am,dv.length];exact xU _ _) _,rfl⟩
  have XX:=X.append (dv.drop (ds.length-((Ji as).length-xs.length)));generalize xs++ds.drop (ds.length-((Ji as).length-xs.length))=ys at B XX;refine codeAny_call_function (body:=body) (qL (qK _ _) hr.2.1) (R.kin _ _ ho).1 rfl Df.co Df.gen Df.body (codeRec_of R.kinD Df.code) (BS Df.params B hrr hrun _ _ _ _ ?_);rw[Df.clo];refine Qj R.pos (d0 Df.kind (fun x hx=>?_) fun env1 he ek hic htk=>?_)
  ·have hm:x.1∈Ji as:=by rw[<- B.fst];exact cq (f:=(·.1)) hx
   exact(Df.plocal _ hm).imp id fun e=>⟨e,ed _ _ _ (.inl e)⟩
  ·have he:env1=callEnvC fd s.heap.objs.size (c.fA f):=he
   subst he;obtain⟨h',tk,rfl,kk⟩:=hic.done;have e:Ent env (dNv fd s.heap.objs.size (c.fA f) env) s { s with heap:=h',toks:=tk }:=⟨kk,qF _,rfl,rfl,rfl⟩
   refine⟨(O.noLimit R).keeps kk,N _ e (VV.on (e:=callEnvC fd s.heap.objs.size (c.fA f)) Df.kind Df.glob Df.blt rfl) hr.deeper (R.enter e htk hic.toInCall.ns fun n v q=>?_)⟩
   obtain⟨x,h1,h2⟩:=Fb (XX.enter e) q;rw[<- Df.names] at h1;refine⟨fun z=>⟨x,DV z B.nd h1,h2⟩,fun z=>?_⟩
   obtain⟨ca,hca⟩:=cK.mp (ed (x:=c.nm n) fd.scope.names (s.heap.objs.size+1) [] (.inl z));obtain⟨o,hob,hod⟩:=hic.cell _ _ hca;have hab:s.heap.objs.size<ca:=hic.above _ _ (mem_of_lookup hca);obtain⟨w1,w2,w3⟩:=Rp R (xF hab);exact⟨ca,o,x,hca,⟨hob,w1,fun q=>q.elim w2 w3,fun q=>q.elim (b6 hab) fun q=>(e.fs_.mp q).elim (b6 hab) fun q=>w3 (.inr q)⟩,by rw[hod,FZ (by rw[z];exact fun q=>nomatch q) B.nd h1],h2⟩
theorem VZ(O:c.Ok){f m fd body as dd ds C}(Df:DefAt c f m fd body as dd ds)
  (H:∀L l,EnvOk ⟨callEnvC fd L (c.fA f),l⟩->Qv c r ⟨callEnvC fd L (c.fA f),l⟩ body (exs C m.body)) (VV:EnvOk env){vs xs} (hr:JM env A (r+1)) (hf:Qf C m vs U=some (v,U')) (R:Rel c env g U s) (X:Vxs c env g s vs xs) (N:Nxt c env g s v U' Q):codeAny c.M A (.call (.ref (c.fA f)) ⟨xs,[]⟩) (Wp Q E) s:=
 boE hf fun avs ha h=>bnE h fun fl U1a hx h=>boE h fun w hw e0=>HZ O Df VV hr ha R X fun s' e V' hr' R'=>codeAny_func (H _ _ V' hr' hx R' fun fw ek eu ew ez e6=>by
  have fE:=R.leave e e6 ew;have fH:=Ext.leave (g:=g) (env:=env) e e6;exact RK (E:=E) hw ez fun x hv=>N.of e0 x ek _ fE (hv.leave e6.X) fH)
end
noncomputable def IM(c:Cx)(x:Str)(D f:Nat):Bool:=(nsIn c.K mainGlobals x==some (some (.ref (c.cA D))))&&(keepIn c.K (.ref (c.cA D))&&(makesIn c.K (c.cA D)&&((findIn c.K (.ref (c.cA D)) "__init__"==some (some (.ref (c.fA f))))&&(isFn c.K (.ref (c.fA f))&&decide (D<c.nC)))))
section
variable{c:Cx}{r:Nat}{env fC:Nv}{A:Around}{U U' U1a:St}{g eu:Gh}{s s' ek em:Shared}{E:Value->Shared->Prop}{Q:Value->Shared->Prop}{v:Vv}{D:Addr->Prop}
theorem JK.up{r r' C}(h:JK c r C)(k:r<=r'):JK c r' C:=fun J J J J J J J J J J J J hr VV hf R X=>h (hr.le k) VV hf R X
theorem PY{u r L}(h:u+20*(r+1)+300<L):u+1+20*r+300<L:=
 qL (qO (by rw[b7,aX,aW 1];exact qI (qI (by decide) _) _) _) h
theorem JM.under{r C fR}(h:JM env A (r+1)):JM env (A.under (.builtin "type.__call__" ⟨.ref C::fR,[]⟩)) r:=⟨h.1,GY h.2.1,PY h.2.2.1,h.2.2.2⟩
theorem Ei{lv o U2a h' x dx D}{P:Vv->Prop}(ew:Rel c env eu U1a ek)(h3:U1a.alloc lv (.inst D [])=some (o,U2a))(hlv:lv≠.frz)(d6:D<c.nC)
  (K:Keep env (fun J=>False) ek.heap h') (hfr:∀a p,ek.heap.get? a=some p->a≠dx/\a≠x) (n1:h'.get? x=some (instObj (c.cA D) dx)) (n2:h'.get? dx=some (dictOf [] 0)) (hdx:dx<x)
  (k:∀fB,Rel c env fB U2a { ek with heap:=h' }->Vx c env fB { ek with heap:=h' } o (.ref x)->Ext env eu fB ek { ek with heap:=h' }->P o):P o:=
 K4 (P:=fun o=>(∀fB,Rel c env fB U2a { ek with heap:=h' }->Vx c env fB { ek with heap:=h' } o (.ref x)->Ext env eu fB ek { ek with heap:=h' }->P o)->P o) h3 hlv ew.toRel0 (fun id hid hU k=>
  have hxf:Tactic.Fz env (eu.add id x dx) h' x (instObj (c.cA D) dx):=⟨n1,fun z=>z.elim (fun w=>(ew.wob x w).elim fun p e=>(hfr x p e).2 rfl) fun e=>b6 hdx e,fun z=>(ew.xob x z).elim fun p e=>(hfr x p e).2 rfl,fun z=>(ew.fob x z).elim fun p e=>(hfr x p e).2 rfl⟩
  k _ ⟨ew.toRel0.add (ob:=.inst D []) K (fun a p e=>(hfr a p e).1) ⟨_,n2⟩ hid (fun k1 k2=>⟨d6,qG _,hxf,[],0,n2,.nil⟩) hU,ew.pos⟩ (.obj Gh.add_rho) (Ext.add K (fun a p e=>(hfr a p e).1) hid rfl)) k
theorem Sq(O:c.Ok)(VV:EnvOk env){x es C mes D f lv}{np pos}(hs:es.all Ja=true)(hk:env.kindOf x=some .globalImplicit)(hx:(x==("__debug__":Str))=false)
  (hd:IM c x D f=true) (hlv:lv≠.frz) (HC:JK c r C) (H2:J1 c (r+1) env es (evs C mes)):
  JE c (r+1) env (.Call (.Name x np) es [] pos) (ev C (.new D f mes lv)):=fun J J J J J J E Q hr hf R N=>bnE hf fun vs U1a h1 h=>bnE h fun o U2a h3 h=>bnE h fun w fI h5 h=>gdE h fun hw h6=>aC hd fun d1 d2 d3 d4 d5 d6=>by
 rw[bN,Qy hs];refine qB (a3 VV.kind hk (qB ((dQ R.kinD (VV.glob▸bE d1:nsIn c.K env.globals x=some (some (.ref (c.cA D))))).here (qC ?_))) hx);refine callWith_of (P:=c.K.In) Km (keeps_K d2) (Qz (H2 hr h1 R fun xs ek eu ew ez e6=>⟨ew.kinD,dB ?_⟩))
 obtain⟨m,hm,-⟩:=ew.loc;have F:Fr {} env.locals ek.heap m:=⟨hm,fun b o e=>absurd (xP e) (xJ _),qG _⟩
 have N0:News {} env.locals ek.heap (ZW ek.heap env.locals env.locals):=fun p hp=>let z:=W0.mp (show (p.1,p.2)∈_ from hp);⟨z.1,z.2.2,rfl⟩
 refine make_K F N0 ew.kinD d3 (bE d4) (bE d5) fun x dx h' F' N' fG hdx=>?_
 have n1:=N' _ (.head _);have n2:=N' _ (.tail _ (.head _));have hfr:∀a p,ek.heap.get? a=some p->a≠dx/\a≠x:=fun a p e=>by
  by_cases hl:a=env.locals
  ·exact⟨fun q=>n2.2.1 (q▸hl),fun q=>n1.2.1 (q▸hl)⟩
  ·have:=fG (a,p) (W0.mpr ⟨e,hl,hl⟩)
   exact⟨qP this,qP (bT this hdx)⟩
 have K:Keep env (fun J=>False) ek.heap h':=.of_ns (fun b p J hl e=>(N' (b,p) (.tail _ (.tail _ (W0.mpr ⟨e,hl,hl⟩)))).1) hm F'.ns
 refine Ei (P:=fun o=>C f (o::vs) U2a=some (w,fI)->some (o,fI)=_->_) ew h3 hlv (qH d6) K hfr n1.1 n2.1 hdx (fun fB fE hv fH h5 h6=>?_) h5 h6
 refine codeAny_mono (HC.go (E:=E) (Q:=fun v s'=>v=.none/\Q (.ref x) s') hr.under VV h5 fE (.cons hv (ez.ext fH)) fun y fO g3a fQ X3a fM=>?_) fun rr s' z=>?_
 ·cases w<;>first|exact ff hw|skip
  exact X3a.noneE ⟨rfl,N.of h6 _ _ _ fQ (hv.ext fM) (e6.trans (fH.trans fM))⟩
 ·rcases rr with e|(v|_|_|_)<;>first|exact z|exact z.elim
end
def WA(c:Cx)(r:Nat)(env:Nv)(ifs:List Expr)(f:St->Option (Bool×St)):Prop:=
 ∀⦃A:Around⦄ ⦃U:St⦄ ⦃b:Bool⦄ ⦃U':St⦄ ⦃g:Gh⦄ ⦃s:Shared⦄ ⦃E:Value->Shared->Prop⦄ ⦃Q:Bool->Shared->Prop⦄,
  JM env A r->f U=some (b,U')->Rel c env g U s->Qt c env g s U' (Q b) ->
  wpAny c.M A (forIn ifs true fun c r=>if r=true then do let ok <- PySem.isTrue c env (eval c env);pure (ForInStep.yield ok) else pure (ForInStep.yield r)) Q E s
noncomputable def UK(x:Nat):List (Nat×Vv)->List (Nat×Vv)
 |[]=>[]
 |p::l=>if p.1=x then UK x l else p::UK x l
theorem BP(x n):∀l:List (Nat×Vv),JA (UK x l) n=if n=x then none else JA l n:=fun l0=>by
 induction l0 with
 |nil=>
  exact by by_cases h:n=x<;>first|exact(aR h).symm|exact(aN h).symm
 |cons p l ih=>
  show JA (if p.1=x then UK x l else p::UK x l) n=if n=x then none else (if p.1=n then some p.2 else JA l n);by_cases h:p.1=x
  ·rw[aR h,ih]
   by_cases h2:n=x
   ·rw[aR h2,aR h2]
   ·rw[aN h2,aN h2,aN fun q=>h2 (q.symm.trans h)]
  ·rw[aN h]
   show (if p.1=n then some p.2 else JA (UK x l) n)=_;rw[ih];by_cases h2:n=x
   ·rw[aR h2,aR h2,aN fun q=>h (q.trans h2)]
   ·rw[aN h2,aN h2]
structure CompS(c:Cx)(env:Nv)(scope:Scope)(x:Nat)(cl:List (Str×Addr)):Prop where
 clos:closureFor scope env=pure cl
 cell:∀n,(relabel scope env).names.lookup (c.nm n)=some .cell->cl.lookup (c.nm n)=env.cells.lookup (c.nm n)/\env.kindOf (c.nm n)=some .cell
 noCell:∀y∈scope.names,y.2≠.cell
 kind:scope.kind=.function
 names:∀y∈scope.names,y.2=.local->scope.names.lookup y.1=some .local
 hx:scope.names.lookup (c.nm x)=some .local
 loc:∀n,(relabel scope env).names.lookup (c.nm n)=some .local->n=x
section
variable{c:Cx}{r:Nat}{env fC cenv:Nv}{A:Around}{U U' U1a τ:St}{g eu fB g':Gh}{s s' ek em:Shared}{E:Value->Shared->Prop}{Q:Value->Shared->Prop}{v:Vv}{D:Addr->Prop}
noncomputable abbrev cNv(scope:Scope)(cl:List (Str×Addr))(L:Addr)(env:Nv):Nv:=⟨compEnvC scope cl L env,env.fs⟩
theorem FR{C}:WA c r env [] (tst C (.k (.bool true))):=fun J J J J J J J J J hf R N=>by
 cases (show some (true,_)=some (_,_) from hf);rw[List.forIn_nil];exact qC (N _ _ R .refl)
theorem FQ{C e m}(H:JX c r env e (tst C m)):WA c r env [e] (tst C m):=fun J J J J J J J J hr hf R N=>wpAny_tests_one (H hr hf R N)
theorem Rel.reloc(R:Rel c env g U s){l}(h:∀m,Q9 c env (Tactic.Fz env g s.heap) g.rho l m):Rel c env g { U with loc:=l } s:=
 ⟨⟨R.kin,R.wob,R.xob,R.frd,R.dis,R.loc.imp fun m z=>⟨z.1,h m⟩,R.obs,R.cW,R.inj,R.nx,R.ps⟩,R.pos⟩

structure CC(c:Cx)(env cenv:Nv)(I:Nat)(S:Nat->Heap->Prop)(eu:Gh)(ek:Shared):Prop where
 hI:I=ek.heap.objs.size
 hK:cenv.locals=I+2
 frm:∀i h h',S i h->(∀b,(b=I\/∃o,Fz env eu ek.heap b o)->∀o,h.get? b=some o->h'.get? b=some o)->S i h'
 fob:∃o,ek.heap.get? env.locals=some o
 hfs:cenv.fs=env.fs
 hF:∀a,Fs env a->Frd a ek.heap
theorem CC.lt{I S}(k:CC c env cenv I S eu ek){a p}(e:ek.heap.get? a=some p):a<I:=k.hI▸xP e
theorem CC.neI{I S}(k:CC c env cenv I S eu ek){a p}(e:ek.heap.get? a=some p):a≠I:=qP (k.lt e)
theorem CC.neL{I S}(k:CC c env cenv I S eu ek){a p}(e:ek.heap.get? a=some p):a≠I+1:=qP (qT (k.lt e))
theorem CC.fsE{I S}(k:CC c env cenv I S eu ek)(a):Fs cenv a ↔ Fs env a:=by unfold Fs;rw[k.hfs]
theorem CC.neC{I S}(k:CC c env cenv I S eu ek){a p}(e:ek.heap.get? a=some p):a≠cenv.locals:=fun q=>qP (qT (qT (k.lt e))) (Eq.trans q k.hK)
theorem CC.neK{I S}(k:CC c env cenv I S eu ek){a p}(e:ek.heap.get? a=some p)(n:¬Fs env a):¬FA cenv a:=fun q=>q.elim (k.neC e) fun q=>n ((k.fsE a).mp q)
theorem CC.nF{I S}(k:CC c env cenv I S eu ek){a:Addr}(h:I<=a):¬Fs env a:=fun q=>(k.hF a q).elim fun J z=>bM.mpr h (k.lt z.1)
theorem CC.nKI{I S}(k:CC c env cenv I S eu ek):¬FA cenv I:=fun q=>q.elim (fun q=>qP (qT (xB I)) (Eq.trans q k.hK)) fun q=>k.nF (qF _) ((k.fsE _).mp q)
theorem CC.nKL{I S}(k:CC c env cenv I S eu ek):¬FA cenv (I+1):=fun q=>q.elim (fun q=>qP (xB (I+1)) (Eq.trans q k.hK)) fun q=>k.nF (xC _) ((k.fsE _).mp q)
theorem CC.up{I S}(k:CC c env cenv I S eu ek){g'}(e:Ext cenv fB g' em s'){a o}(h:ek.heap.get? a=some o)(q:Fs env a):Sl a em.heap s'.heap:=e.up a ((k.fsE a).mpr q) (k.neC h)
def cX(eu:Gh)(env:Nv)(I:Nat):Addr->Prop:=fun a=>(eu.X a\/(a=I\/a=I+1))\/FA env a
structure CI(c:Cx)(env cenv:Nv)(I:Nat)(S:Nat->Heap->Prop)(eu:Gh)(ek:Shared)(i:Nat)(ys:Array Value)(n:Nat)(done:List Vv)(fB:Gh)(em:Shared):Prop where
 X:fB.X=cX eu env I
 E:Ext env eu { fB with X:=eu.X } ek em
 S:S i em.heap
 L:IsL em.heap (I+1) ys n
 V:Vxs c cenv fB em done ys.toList
 fr:Sl env.locals ek.heap em.heap
section
variable{I:Nat}{S:Nat->Heap->Prop}{i i' n n':Nat}{ys ys':Array Value}{done done':List Vv}
theorem CI.xI(z:CI c env cenv I S eu ek i ys n done fB em){a:Addr}(e:a=I):fB.X a:=by rw[z.X];exact .inl (.inr (.inl e))
theorem CI.xL(z:CI c env cenv I S eu ek i ys n done fB em){a:Addr}(e:a=I+1):fB.X a:=by rw[z.X];exact .inl (.inr (.inr e))
theorem CI.xE(z:CI c env cenv I S eu ek i ys n done fB em){a}(e:FA env a):fB.X a:=by rw[z.X];exact .inr e
theorem CI.inn(k:CC c env cenv I S eu ek)(z:CI c env cenv I S eu ek i ys n done fB em){a o}(q:Tactic.Fz env eu ek.heap a o):Tactic.Fz cenv fB em.heap a o:=
 ⟨(z.E.Fz q).1,(z.E.Fz q).2.1,fun w=>by rw[z.X] at w;exact w.elim (fun w=>w.elim q.2.2.1 fun w=>w.elim (k.neI q.1) (k.neL q.1)) q.2.2.2,k.neK q.1 fun z=>q.2.2.2 (.inr z)⟩
theorem CI.step(k:CC c env cenv I S eu ek)(z:CI c env cenv I S eu ek i ys n done fB em)(fE:Rel c cenv fB τ em)(e:Ext cenv fB g' em s'):CI c env cenv I S eu ek i ys n done g' s':=
 ⟨e.X.trans z.X,⟨fun a o q w f=>(z.E.fz a o q w f).elim fun h w'=>e.fz a o h w' (k.neK q fun z=>f (.inr z)),fun a q n=>(z.E.up a q n).trans ((k.hF a q).elim fun J h=>k.up e h.1 q),fun i p q=>e.cs i p (z.E.cs i p q),rfl,e.gens.trans z.E.gens⟩,
  k.frm _ _ _ z.S fun b hb o eo=>hb.elim (fun q=>(e.fz _ _ eo (fun w=>(fE.dis _ w).1 (z.xI q)) (q▸k.nKI)).1) fun z0=>z0.elim fun o' q=>by
   have q':=z.inn k q;cases q'.1.symm.trans eo;exact(e.fz _ _ eo q'.2.1 q'.2.2.2).1,
  (e.fz _ _ z.L (fun w=>(fE.dis _ w).1 (z.xL rfl)) k.nKL).1,z.V.ext e,k.fob.elim fun p ep=>z.fr.trans (ay (fun q:Fs env env.locals=>k.up e ep q) fun q=>.of fun o h=>(e.fz _ _ h (fun w=>(fE.dis _ w).1 (z.xE .own)) (k.neK ep q)).1)⟩
theorem CI.iter{S':Nat->Heap->Prop}(k:CC c env cenv I S eu ek)(z:CI c env cenv I S eu ek i ys n done fB em)(hk:∀b p,¬b=I->em.heap.get? b=some p->s'.heap.get? b=some p)(hg:gos s'=gos em)(hS:S' i' s'.heap):CI c env cenv I S' eu ek i' ys n done fB s':=
 ⟨z.X,z.E.changed (D:=(·=I)) (fun a e=>e▸qU k.hI.symm) hk hg,hS,hk _ _ (eN I) z.L,z.V.changed (D:=(·=I)) (fun a e=>z.xI e) hk,fun p e=>(z.fr p e).imp fun J h=>hk _ _ (k.neI e) h⟩
theorem CI.app(k:CC c env cenv I S eu ek)(z:CI c env cenv I S eu ek i ys n done fB em)(hk:∀b p,¬b=I+1->em.heap.get? b=some p->s'.heap.get? b=some p)(hg:gos s'=gos em)(hl:IsL s'.heap (I+1) ys' n')(hv:Vxs c cenv fB s' done' ys'.toList):
  CI c env cenv I S eu ek i ys' n' done' fB s':=
 ⟨z.X,z.E.changed (D:=(·=I+1)) (fun a e=>by rw[e,<- k.hI];exact xC _) hk hg,k.frm _ _ _ z.S fun b hb o eo=>hk b o (hb.elim (fun q=>by rw[q];exact(eN I).symm) fun z0=>z0.elim fun J q=>k.neL q.1) eo,hl,hv,fun p e=>(z.fr p e).imp fun J h=>hk _ _ (k.neL e) h⟩
theorem CI.loc{scope x cl}(k:CC c env (cNv scope cl (I+2) env) I S eu ek)(C:CompS c env scope x cl)(ew:Rel c env eu U1a ek)(z:CI c env (cNv scope cl (I+2) env) I S eu ek i ys n done fB em)(m):
  Q9 c (cNv scope cl (I+2) env) (Tactic.Fz (cNv scope cl (I+2) env) fB em.heap) fB.rho (UK x U1a.loc) m:=fun n v e=>by
 rw[BP] at e;by_cases hne:n=x
 ·rw[aR hne] at e;exact nn e
 ·rw[aN hne] at e
  refine⟨fun q=>absurd (C.loc n q) hne,fun q=>?_⟩
  obtain⟨q1,q2⟩:=C.cell n q;obtain⟨_,_,hl⟩:=ew.loc;obtain⟨ca,o',y,e1,e2,e3,r⟩:=(hl n v e).2 q2;exact⟨ca,o',y,q1.trans e1,z.inn k e2,e3,r.mono (fun J J=>z.inn k) fun J J=>z.E.rho⟩
end
theorem Ty{x n w l v}(e:JA ((x,w)::l) n=some v):JA (Tactic.put (UK x l) x w) n=some v:=by
 rw[J5];by_cases h:x=n
 ·exact(aR h).trans ((aR h).symm.trans e)
 ·exact(aN h).trans ((BP x n l).trans ((aN fun q=>h q.symm).trans ((aN h).symm.trans e)))
inductive CompI(c:Cx)(env cenv:Nv)(S:Nat->Heap->Prop)(eu:Gh)(ek:Shared)(U1a:St)(x:Nat)(l:List Vv)(body:Vv->St->Option (Option Vv×St))(rs:List Vv)(U':St)(k:Nat)(em:Shared):Prop
 |mk (i:Nat) (τ:St) (fB:Gh) (ys:Array Value) (n:Nat) (done fR:List Vv) (hk:k=l.length+1-i) (hi:i<=l.length) (hτ:τ.loc=U1a.loc) (R:Rel c cenv fB { τ with loc:=UK x U1a.loc } em) (Z:CI c env cenv ek.heap.objs.size S eu ek i ys n done fB em)
   (hd:done.length<=i) (hN:Jt body (l.drop i) τ=some (fR,U')) (hrs:rs=done++fR)
theorem BX{K}(R:Rel c env (eu.hid (·=K)) U ek)(hn:∀a,eu.X a->a≠K)(hf:¬FA env K)(hs:∀b p,¬b=K->ek.heap.get? b=some p->s'.heap.get? b=some p)(hp:0<s'.toks):Rel c env eu U s':=
 R.drop (D:=(·=K)) (X:=eu.X) (fun a x=>.inl x) (fun a x=>.inr x) hn hs (fun a e q=>hf (e▸q)) hp
structure CEnd(c:Cx)(env:Nv)(g:Gh)(s:Shared)(v:Vv)(U':St)(g':Gh)(s':Shared)(K L:Addr)(mm:Str->Option Value):Prop where
 R:Rel c env (g'.hid (·=K)) U' s'
 hK:∀a p,s.heap.get? a=some p->¬g.W a->¬FA env a->a≠K
 hKX:∀a,g'.X a->a≠K
 hKL:¬FA env K
 V:Vx c env (g'.hid (·=K)) s' v (.ref L)
 E:Ext env g g' s s'
 ns:s'.heap.Ns K mm
theorem FS{S}{i n ys done mm}(k:CC c env cenv ek.heap.objs.size S eu ek)(ew:Rel c env eu U1a ek)(e6:Ext env g eu s ek)(z:CI c env cenv ek.heap.objs.size S eu ek i ys n done fB em){l} (fE:Rel c cenv fB { U' with loc:=l } em) (hτ:U'.loc=U1a.loc) (hmm:em.heap.Ns cenv.locals mm) (hk:∀b p,¬b=ek.heap.objs.size->em.heap.get? b=some p->s'.heap.get? b=some p) (hg:gos s'=gos em) (hp:0<s'.toks):
  CEnd c env g s (.list done) U' { fB with X:=eu.X } s' (ek.heap.objs.size+2) (ek.heap.objs.size+1) mm:=by
 obtain⟨m,hm,hl⟩:=ew.loc;have z':CI c env cenv ek.heap.objs.size (fun J J=>True) eu ek i ys n done fB s':=z.iter k hk hg trivial
 have kW:∀a,fB.W a->¬a=ek.heap.objs.size:=fun a w q=>(fE.dis a w).1 (z.xI q)
 have kF:∀a o,Tactic.Fz cenv fB em.heap a o->Tactic.Fz env (({ fB with X:=eu.X }:Gh).hid (·=ek.heap.objs.size+2)) s'.heap a o:=fun a o q=>
  ⟨hk _ _ (fun w=>q.2.2.1 (z.xI w)) q.1,q.2.1,fun w=>w.elim (fun w=>q.2.2.1 (by rw[z.X];exact .inl (.inl w))) fun w=>q.2.2.2 (.inl (w.trans k.hK.symm)),fun w=>q.2.2.1 (z.xE w)⟩
 have hmm':s'.heap.Ns (ek.heap.objs.size+2) mm:=k.hK▸hmm.at fun p e=>hk _ _ (fun q=>k.nKI (.inl q.symm)) e
 exact⟨⟨⟨fun a o q=>kF _ _ (fE.kin a o q),fun a w=>(fE.wob a w).imp fun o e=>hk _ _ (kW a w) e,fun a q=>q.elim (fun q=>(ew.xob a q).elim fun p h=>(fE.xob a (by rw[z.X];exact .inl (.inl q))).imp fun o e=>hk _ _ (k.neI h) e) fun q=>q▸nsO hmm',
   fun a q=>((ew.frd a q).sl (ay (fun e:a=env.locals=>e▸z'.fr) (z'.E.up a q))),
   fun a w=>⟨fun q=>q.elim (fun q=>(fE.dis a w).1 (by rw[z.X];exact .inl (.inl q))) fun q=>(fE.dis a w).2 (.inl (q.trans k.hK.symm)),fun q=>(fE.dis a w).1 (z.xE q)⟩,⟨m,hm.sl z'.fr,hτ▸hl.mono (fun a o q=>kF a o (z.inn k q)) fun J J=>z.E.rho⟩,
   fun id ob q=>(fE.obs id ob q).imp fun J=>a5 fun J q=>⟨q.1,q.2.mono kF (fun J J q=>q) fun J=>hk _ _ (kW _ (fE.cW _ _ _ q.1))⟩,fE.cW,fE.inj,fE.nx,fE.ps⟩,hp⟩,
  fun a p e w f q=>k.neC (e6.fz a p e w f).1 (q.trans k.hK.symm),fun a q e=>(ew.xob a q).elim fun p h=>k.neC h (e.trans k.hK.symm),fun q=>(ew.fob _ q).elim fun p h=>k.neC h k.hK.symm,
  .list (n:=n) ⟨z'.L,fun w=>(fE.dis _ w).1 (z.xL rfl),fun q=>q.elim (fun q=>(ew.xob _ q).elim fun p h=>k.neL h rfl) fun q=>absurd q (eN _).symm,fun q=>(ew.fob _ q).elim fun p h=>k.neL h rfl⟩ (z.V.mono kF fun J J q=>q),e6.trans z'.E,hmm'⟩

variable{scope:Scope}{x:Nat}{cl:List (Str×Addr)}{C:Ora}{elt it:Expr}{mi me mc:ME}{px:Pos}{ifs:List Expr}{pos:Pos}{use:Option (Value->Sem Unit)}{Q':Value->Shared->Prop}
theorem PH{S}(k:CC c env cenv ek.heap.objs.size S eu ek)(ew:Rel c env eu U1a ek)(z:CI c env cenv ek.heap.objs.size S eu ek 0 #[] 0 [] { eu with X:=cX eu env ek.heap.objs.size } s'){o}(k0:∀b p,ek.heap.get? b=some p->s'.heap.get? b=some p)(hI:s'.heap.get? ek.heap.objs.size=some o){m} (hn:s'.heap.Ns (ek.heap.objs.size+2) m){l} (hl:∀m,Q9 c cenv (Tactic.Fz cenv { eu with X:=cX eu env ek.heap.objs.size } s'.heap) eu.rho l m) (hp:0<s'.toks):Rel c cenv { eu with X:=cX eu env ek.heap.objs.size } { U1a with loc:=l } s':=
 ⟨⟨fun a o q=>z.inn k (ew.kin a o q),fun a q=>(ew.wob a q).imp fun o e=>k0 _ _ e,fun a q=>q.elim (fun q=>q.elim (fun q=>(ew.xob a q).imp fun o e=>k0 _ _ e) fun q=>q.elim (fun q=>⟨o,q▸hI⟩) fun q=>⟨_,q▸z.L⟩) fun q=>(ew.fob a q).imp fun o e=>k0 _ _ e,
  fun a q=>(ew.frd a ((k.fsE a).mp q)).sl (.of fun o=>k0 a o),fun a w=>(ew.wob a w).elim fun p h=>⟨fun q=>q.elim (fun q=>q.elim (ew.dis a w).1 fun q=>q.elim (k.neI h) (k.neL h)) (ew.dis a w).2,k.neK h fun z=>(ew.dis a w).2 (.inr z)⟩,⟨m,k.hK▸hn,hl m⟩,
  fun id ob q=>(ew.obs id ob q).imp fun J=>a5 fun J q=>⟨q.1,q.2.mono (fun J J=>z.inn k) (fun J J q=>q) fun J=>k0 _ _⟩,ew.cW,ew.inj,ew.nx,ew.ps⟩,hp⟩
theorem C6(O:c.Ok)(VV:EnvOk env)(F:CompS c env scope x cl)(H2:∀L,EnvOk (cNv scope cl L env)->JE c r (cNv scope cl L env) elt (ev C me))(H3:∀L,EnvOk (cNv scope cl L env)->WA c r (cNv scope cl L env) ifs (tst C mc))
  {PP:Result->Shared->Prop} (hr:JM env A r){l rs o} {fp P S} (T:ItF c env eu ek l o fp P S) (K:CC c env (cNv scope cl (ek.heap.objs.size+2) env) ek.heap.objs.size S eu ek) (ew:Rel c env eu U1a ek) (e6:Ext env g eu s ek) (hlb:l.length<=sizeLine)
  (N:∀g' s' mm,CEnd c env g s (.list rs) U' g' s' (ek.heap.objs.size+2) (ek.heap.objs.size+1) mm->PP (.ok .next) s'){fO} (I0:CompI c env (cNv scope cl (ek.heap.objs.size+2) env) S eu ek U1a x l (Jj (ev C me) (ev C mc) x U1a.loc) rs U' (l.length+1) fO):
  codeAny c.M A (.compLoop (.ListComp elt [⟨.Name (c.nm x) px,it,ifs,0⟩] scope pos) 0 (.ref ek.heap.objs.size) (.ref (ek.heap.objs.size+1)) (cNv scope cl (ek.heap.objs.size+2) env)) PP fO:=by
 have VVc:EnvOk (cNv scope cl (ek.heap.objs.size+2) env):=⟨F.kind,VV.glob,VV.blt,VV.frs,VV.top⟩;have hkx:(cNv scope cl (ek.heap.objs.size+2) env).kindOf (c.nm x)=some .local:=lookup_relabel_local F.hx;have W:=T.walks A hr.1;have kk:∀{h h':Heap},(∀b p,b∉[ek.heap.objs.size]->h.get? b=some p->h'.get? b=some p)->∀b p,¬b=ek.heap.objs.size->h.get? b=some p->h'.get? b=some p:=fun h b p hb=>h b p fun q=>hb (ae.mp q)
 obtain⟨J,hJ,hJ'⟩:∃J:Nat->Shared->Prop,(∀k em,CompI c env (cNv scope cl (ek.heap.objs.size+2) env) S eu ek U1a x l (Jj (ev C me) (ev C mc) x U1a.loc) rs U' k em->J k em)/\∀k em,J k em->CompI c env (cNv scope cl (ek.heap.objs.size+2) env) S eu ek U1a x l (Jj (ev C me) (ev C mc) x U1a.loc) rs U' k em:=⟨_,fun J J h=>h,fun J J h=>h⟩
 refine codeAny_compLoop_tests (I:=J) (fun k em I=>?_) (l.length+1) (hJ _ _ I0) (fun J=>rfl)
 generalize notedBy _ _ _ _=E';cases hJ' _ _ I with
 |mk i τ fB ys n done fR hk' hi hτ fE z hdl hN hrs=>
  by_cases fG:i<l.length
  ·refine Qj fE.pos (W.item i em _ _ fG z.S fun y h' tk hPy hS' hk2a htk=>?_)
   obtain⟨w,hw,hwy⟩:=T.item i y fG hPy;have fQ:Rel c _ fB { τ with loc:=UK x U1a.loc } { em with heap:=h',toks:=tk }:=fE.changed (D:=(·=ek.heap.objs.size)) (fun a e=>z.xI e) (kk hk2a) (fun a e=>e▸(T.alive _ _ hS').imp fun J z=>z.1) (fun a e=>e▸K.nKI) htk
   have z3:=z.iter (s':={ em with heap:=h',toks:=tk }) (i':=i+1) K (kk hk2a) rfl hS'
   have hd:l.drop i=w::l.drop (i+1):=by
    obtain⟨h1,h2⟩:=ax.mp hw;rw[bh h1,h2]
   rw[hd] at hN;refine bnE (show bn (Jj (ev C me) (ev C mc) x U1a.loc w τ) (fun o U1'=>bn (Jt (Jj (ev C me) (ev C mc) x U1a.loc) (l.drop (i+1)) U1') fun l U2a=>some (Du o l,U2a))=some (fR,U') from hN) fun ov τ' hb hN=>bnE hN fun rest' τe hNb hNc=>?_
   refine bnE (show bn (ev C mc { τ with loc:=(x,w)::U1a.loc }) (fun w y1a=>bo (Tactic.Jm y1a w) fun c=>match c with|false=>some (none,{ y1a with loc:=U1a.loc })|true=>bn (ev C me y1a) fun z y2a=>some (some z,{ y2a with loc:=U1a.loc }))=some (ov,τ') from hb) fun cw y1a hb1 hb=>boE hb fun tb hb3 hb4=>?_
   refine cD (Ux O VVc hkx fQ (hwy.mono (fun J J=>z3.inn K) fun J J=>z3.E.rho) fun s4a R4a E4a=>H3 _ VVc hr (UJ hb1 hb3) (R4a.sub (U':={ τ with loc:=(x,w)::U1a.loc }) (fun n v e=>Ty e) (fun J J e=>e) (qF _) (fun J e=>e)) fun s5a g5a R5a E5a=>?_)
   have z5:=z3.step K fQ (E4a.trans E5a);cases tb with
   |false=>
    cases hb4;cases hNc;exact⟨l.length+1-(i+1),hk'▸K8 fG,hJ _ _ (.mk (i+1) { y1a with loc:=U1a.loc } g5a ys n done rest' rfl fG rfl (R5a.reloc (z5.loc K F ew)) z5 (xO hdl) hNb hrs)⟩
   |true=>
    refine bnE hb4 fun u y2a hb5 hb6=>?_
    cases hb6;cases hNc;refine H2 _ VVc hr hb5 R5a fun zv s6a g6a R6a X6a E6a=>?_
    have z6:=z5.step K R5a E6a;refine wpAny_list_append_plain (items:=ys) ⟨n,z6.L⟩ (fun h7a hl7 hs7=>?_) (by rw[Jf z6.V];exact qA hdl (qA hi hlb))
    obtain⟨n',hl7⟩:=hl7;have hk7:∀b p,¬b=ek.heap.objs.size+1->s6a.heap.get? b=some p->h7a.get? b=some p:=fun b p hb e=>(hs7.2 b hb).trans e
    have ch:∀a,a=ek.heap.objs.size+1->g6a.X a:=fun a e=>z6.xL e
    have R7a:Rel c _ g6a y2a { s6a with heap:=h7a }:=R6a.changed (D:=(·=ek.heap.objs.size+1)) ch hk7 (fun a e=>e▸⟨_,hl7⟩) (fun a e=>e▸K.nKL) R6a.pos
    have z7:=z6.app (s':={ s6a with heap:=h7a }) (ys':=ys.push zv) (n':=n') (done':=done++[u]) K hk7 rfl hl7 (by rw[cO];exact(z6.V.changed (D:=(·=ek.heap.objs.size+1)) ch hk7).append (.cons (X6a.changed (D:=(·=ek.heap.objs.size+1)) ch hk7) .nil))
    exact⟨l.length+1-(i+1),hk'▸K8 fG,hJ _ _ (.mk (i+1) { y2a with loc:=U1a.loc } g6a (ys.push zv) n' (done++[u]) rest' rfl fG rfl (R7a.reloc (z7.loc K F ew)) z7 (by rw[aO];exact qJ hdl) hNb (by rw[hrs,aT];rfl))⟩
  ·cases xN hi (bM.mp fG)
   rw[ci] at hN;cases (show some ([],τ)=some (fR,U') from hN);refine Qj fE.pos (W.done em _ _ z.S fun h' tk hk2a htk=>?_)
   obtain⟨mm,hmm,-⟩:=fE.loc;rw[aQ] at hrs;exact N _ _ mm (hrs▸FS (s':={ em with heap:=h',toks:=tk }) K ew e6 z fE hτ hmm (kk hk2a) rfl htk)
theorem Bn(O:c.Ok)(VV:EnvOk env)(hs:∀x,foldedSetIterable it env x=pure x)(F:CompS c env scope x cl)(H:JE c r env it (ev C mi))
  (H2:∀L,EnvOk (cNv scope cl L env)->JE c r (cNv scope cl L env) elt (ev C me)) (H3:∀L,EnvOk (cNv scope cl L env)->WA c r (cNv scope cl L env) ifs (tst C mc)){p0} (hr:JM env A r) (hf:ev C (.comp me x mi mc) U=some (v,U')) (R:Rel c env g U s) (N:∀g' s' K L mm,CEnd c env g s v U' g' s' K L mm->compPost c.M A E use Q' (.ref L) K (.ok .next) s'):
  wpAny c.M A (comprehension (.ListComp elt [⟨.Name (c.nm x) px,it,ifs,0⟩] scope pos) scope env p0 (newList []) false (eval it env) use) Q' E s:=
 bnE hf fun w U1a h1 h=>boE h fun l h3 h=>bdE h fun hlb h=>bnE h fun rs U2a h5 h6=>by
  cases h6;refine wpAny_comprehension_free (use:=use) rfl hs F.clos F.kind F.names (H hr h1 R fun xv ek eu ew ez e6=>GG h3 ew ez fun o fp P S T=>?_)
  refine wpAny_newObj_type (wpAny_newFunctionEnv F.noCell (fun y hy=>nomatch hy) (fun h1a hns1 hsb1=>?_) F.kind)
  have e1:(ek.heap.push o).objs.size=ek.heap.objs.size+1:=ee ..;have e2:((ek.heap.push o).push { cls:=.type "list",dict:=none,data:=.seq ([]:List Value).toArray }).objs.size=ek.heap.objs.size+2:=by rw[ee,e1]
  dsimp only at hns1 hsb1 ⊢;rw[e1];rw[e2] at hns1 hsb1 ⊢;have W:=T.walks A hr.1;have k1:∀b p,(ek.heap.push o).get? b=some p->h1a.get? b=some p:=fun b p e=>(hsb1.2 b (qP (qT (e1▸xP e)))).trans (qZ _ (qZ _ e))
  have k0:∀b p,ek.heap.get? b=some p->h1a.get? b=some p:=fun b p e=>k1 b p (qZ _ e)
  have hL:IsL h1a (ek.heap.objs.size+1) #[] 0:=(hsb1.2 _ (qP (xB _))).trans (qZ _ (by rw[<- e1];exact qY _ rfl))
  have hI:h1a.get? ek.heap.objs.size=some o:=k1 _ _ (qY _ T.fr);have K:CC c env (cNv scope cl (ek.heap.objs.size+2) env) ek.heap.objs.size S eu ek:=⟨rfl,rfl,fun i h h' hS q=>W.frame _ _ _ hS fun b hb=>q b (T.fp b hb),ew.fob _ .own,rfl,ew.frd⟩
  have S0:S 0 h1a:=W.frame _ _ _ T.s0 fun b J=>k1 b
  have z:CI c env (cNv scope cl (ek.heap.objs.size+2) env) ek.heap.objs.size S eu ek 0 #[] 0 [] { eu with X:=cX eu env ek.heap.objs.size } { ek with heap:=h1a,toks:=ek.toks+([]:List (Str×Value)).length }:=
   ⟨rfl,⟨fun a p e w J=>⟨k0 _ _ e,w⟩,fun a J J=>.of (k0 a),fun J J e=>e,rfl,rfl⟩,S0,hL,.nil,.of (k0 _)⟩
  have RC:=PH K ew z k0 hI hns1 (z.loc K F ew) ew.pos;have loop:=C6 (elt:=elt) (it:=it) (px:=px) (ifs:=ifs) (pos:=pos) O VV F H2 H3 hr T K ew e6 (qA hlb (by rw[dq];decide)) (fun g' s' mm h=>N _ _ _ _ mm h) (.mk 0 U1a _ #[] 0 [] rs rfl (qG _) rfl RC z (qG _) h5 rfl)
  exact codeAny_compStart_list loop (W.self 0 _ _ _ S0 loop)
theorem Mx(O:c.Ok)(VV:EnvOk env)(hs:∀x,foldedSetIterable it env x=pure x)(F:CompS c env scope x cl)(H:JE c r env it (ev C mi))
  (H2:∀L,EnvOk (cNv scope cl L env)->JE c r (cNv scope cl L env) elt (ev C me)) (H3:∀L,EnvOk (cNv scope cl L env)->WA c r (cNv scope cl L env) ifs (tst C mc)):
  JE c r env (.ListComp elt [⟨.Name (c.nm x) px,it,ifs,0⟩] scope pos) (ev C (.comp me x mi mc)):=fun J J J J J J J J hr hf R N=>by
 rw[eval_ListComp];refine Bn O VV hs F H H2 H3 (use:=none) hr hf R fun g' s' K L mm e=>⟨mm,e.ns,fun h' hs'=>?_⟩
 have hk:∀b p,¬b=K->s'.heap.get? b=some p->h'.get? b=some p:=fun b p hb e=>(hs'.2 b hb).trans e
 exact N _ _ _ (BX e.R e.hKX e.hKL hk e.R.pos) (e.V.mono (fun a o z=>⟨hk _ _ (fun q=>z.2.2.1 (.inr q)) z.1,z.2.1,fun q=>z.2.2.1 (.inl q),z.2.2.2⟩) fun J J z=>z) ⟨fun a p q w f=>⟨hk _ _ (e.hK a p q w f) (e.E.fz a p q w f).1,(e.E.fz a p q w f).2⟩,fun a q n=>(e.E.up a q n).trans (.of fun o=>hk a o fun z=>e.hKL (.inr (z▸q))),e.E.cs,e.E.X,e.E.gens⟩
theorem Mn(O:c.Ok)(VV:EnvOk env)(hs:∀x,foldedSetIterable it env x=pure x)(F:CompS c env scope x cl){n np spos}(hk:env.kindOf (c.nm n)=some .local)
  (hsw:swapsWith (.ListComp elt [⟨.Name (c.nm x) px,it,ifs,0⟩] scope pos) (some (.Name (c.nm n) np)) spos.line env=pure true) (H:JE c r env it (ev C mi))
  (H2:∀L,EnvOk (cNv scope cl L env)->JE c r (cNv scope cl L env) elt (ev C me)) (H3:∀L,EnvOk (cNv scope cl L env)->WA c r (cNv scope cl L env) ifs (tst C mc)):
  JQ c r env (.Assign [.Name (c.nm n) np] (.ListComp elt [⟨.Name (c.nm x) px,it,ifs,0⟩] scope pos) spos) (exc C (.asg n (.comp me x mi mc))):=fun A J fl U' g s E Q hr hf R N=>bnE hf fun v U1a h1 h2=>by
 rw[exec_Assign_Name_used _ _ _ _ hsw];refine qB (qV (qB ?_));show wpAny _ A (do let _ <- comprehension (.ListComp elt [⟨.Name (c.nm x) px,it,ifs,0⟩] scope pos) scope env _ (newList []) false (eval it env) (some (assign (.Name (c.nm n) np) env))) _ _ s
 refine qB (xT (Bn (Q':=fun J s'=>Q .next s') O VV hs F H H2 H3 (use:=some (assign (.Name (c.nm n) np) env)) hr h1 R fun g' s' K L mm e=>?_) (fun J s' hq=>qC (qC hq)) fun J J e=>e)
 show wpAny _ _ (assign (.Name (c.nm n) np) env (.ref L)) _ _ _;refine cD (Ux O VV hk e.R e.V fun s'' R'' E''=>⟨mm,e.ns.at fun p q=>(E''.fz _ _ q (fun w=>(e.R.dis _ w).1 (.inr rfl)) e.hKL).1,fun h' hs'=>?_⟩)
 have hk:∀b p,¬b=K->s''.heap.get? b=some p->h'.get? b=some p:=fun b p hb e=>(hs'.2 b hb).trans e
 exact(N.of h2).nxt (BX R'' e.hKX e.hKL hk R''.pos) ⟨fun a p q w f=>(e.E.fz a p q w f).elim fun z w'=>⟨hk _ _ (e.hK a p q w f) (E''.fz a p z w' f).1,w'⟩,fun a q n=>(e.E.up a q n).trans ((E''.up a q n).trans (.of fun o=>hk a o fun z=>e.hKL (.inr (z▸q)))),e.E.cs,e.E.X,E''.gens.trans e.E.gens⟩
end
section
variable{c:Cx}{r:Nat}{env fC:Nv}
theorem Mz(O:c.Ok)(VV:EnvOk env){n}{pos}(hk:env.kindOf (c.nm n)=some .cell):JE c r env (.Name (c.nm n) pos) (fun U=>bo (JA U.loc n) fun v=>some (v,U)):=fun J J J J J J J J J hf R N=>boE hf fun w hv e=>by
 obtain⟨m,hm,hl⟩:=R.loc;obtain⟨ca,o,x,h1,h2,h3,r⟩:=(hl n _ hv).2 hk;exact ei (wpAny_loadName_cell VV.kind hk h1 ⟨o,h2.1,h3⟩ ((N.of e).same R r)) (O.noDbg n)
end
def Xr(env:Nv):Prop:=∀x,env.kindOf x=some .cell->(env.cells.lookup x).isSome=true
noncomputable def KO(env:Nv)(p:Str×NameKind)(cs:List (Str×Addr)):Sem (ForInStep (List (Str×Addr))):=match p with
 |(name,kind)=>if (kind==NameKind.free)=true then do let a <- cellOf env name;pure (ForInStep.yield ((name,a)::cs)) else pure (ForInStep.yield cs)
theorem FV{env}:∀(l:List (Str×NameKind)) (acc:List (Str×Addr)),(∀p∈l,p.2=.free->(env.cells.lookup p.1).isSome=true)->(∀n a,acc.lookup n=some a->env.cells.lookup n=some a)->∃cl,forIn l acc (KO env)=pure cl/\(∀n a,cl.lookup n=some a->env.cells.lookup n=some a)/\∀n,((n,NameKind.free)∈l\/(acc.lookup n).isSome=true)->(cl.lookup n).isSome=true:=fun l0=>by
 induction l0 with
 |nil=>
  exact fun acc J ha=>⟨acc,rfl,ha,fun n h=>h.elim (fun h=>nomatch h) id⟩
 |cons p0 l ih=>
  obtain⟨m,k⟩:=p0;intro acc hl ha;rw[b8];by_cases hk:(k==NameKind.free)=true
  ·obtain⟨a,hs⟩:=cK.mp (hl (m,k) (.head _) (aV.mp hk))
   have hs:env.cells.lookup m=some a:=hs;have hf:KO env (m,k) acc=pure (ForInStep.yield ((m,a)::acc)):=by
    show (if (k==NameKind.free)=true then (cellOf env m >>= fun a=>pure (ForInStep.yield ((m,a)::acc))) else _)=_
    rw[aR hk];unfold cellOf;rw[hs];rfl
   obtain⟨cl,h0,h1,h2⟩:=ih ((m,a)::acc) (fun p hp=>hl p (.tail _ hp)) fun n a' e=>by
    rw[cJ] at e;by_cases hn:n=m
    ·subst hn;rw[aS] at e;exact hs.trans e
    ·rw[bX hn] at e;exact ha n a' e
   refine⟨cl,by rw[hf];exact h0,h1,fun n h=>h2 n ?_⟩
   have hd:((List.lookup m ((m,a)::acc))).isSome=true:=by rw[cJ,aS];rfl
   refine h.elim (fun h=>(aZ.mp h).elim (fun h=>.inr ?_) .inl) fun h=>.inr ?_
   ·cases h;exact hd
   ·by_cases hn:n=m
    ·subst hn;exact hd
    ·rw[cJ,bX hn];exact h
  ·have hf:KO env (m,k) acc=pure (ForInStep.yield acc):=aN hk
   obtain⟨cl,h0,h1,h2⟩:=ih acc (fun p hp=>hl p (.tail _ hp)) ha
   exact⟨cl,by rw[hf];exact h0,h1,fun n h=>h2 n (h.elim (fun h=>(aZ.mp h).elim (fun h=>absurd (by cases h;rfl) hk) .inl) .inr)⟩
theorem AF{env:Nv}{scope:Scope}(h:∀p∈scope.names,p.2=.free->(env.cells.lookup p.1).isSome=true):
  ∃cl,closureFor scope env=pure cl/\(∀n a,cl.lookup n=some a->env.cells.lookup n=some a)/\∀n,(n,NameKind.free)∈scope.names->(cl.lookup n).isSome=true:=by
 obtain⟨cl,h0,h1,h2⟩:=FV (env:=env) scope.names [] h fun J J e=>nomatch e
 refine⟨cl,?_,h1,fun n h=>h2 n (.inl h)⟩
 show (forIn scope.names [] (KO env) >>= fun cs=>pure cs)=_
 rw[h0];rfl
theorem Kd{α:Type}{l:List (Str×α)}{x a}(h:l.lookup x=some a):(x,a)∈l:=by
 obtain⟨l1,l2,e,-⟩:=List.lookup_eq_some_iff.mp h;rw[e];exact cV _ (.head _)
theorem BO{env:Nv}{scope:Scope}{x:Str}{k:NameKind}(h:(relabel scope env).names.lookup x=some k):((x,NameKind.free)∈scope.names/\env.kindOf x=some .cell/\k=.cell)\/(x,k)∈scope.names:=by
 obtain⟨⟨a,b⟩,hp,e⟩:=ak.mp (Kd h);have e:(if (b==NameKind.free&&env.scope.kind==ScopeKind.function&&env.kindOf a==some NameKind.cell)=true then (a,NameKind.cell) else (a,b))=(x,k):=e;by_cases q:(b==NameKind.free&&env.scope.kind==ScopeKind.function&&env.kindOf a==some NameKind.cell)=true
 ·rw[aR q] at e
  cases e;exact bA q fun q q2=>bA q fun q1 J=>.inl ⟨bE q1▸hp,bE q2,rfl⟩
 ·rw[aN q] at e;cases e;exact .inr hp
noncomputable def WC(scope:Scope)(kn:Str->Option NameKind)(x:Str):Option NameKind:=(scope.names.map fun (n,k)=>if (k==.free&&kn n==some .cell) then (n,NameKind.cell) else (n,k)).lookup x
noncomputable def WT(c:Cx)(scope:Scope)(kn:Str->Option NameKind)(x:Nat):Bool:=
 (scope.kind==.function)&&(scope.names.all (fun p=>!(p.2==.cell))&&(scope.names.all (fun p=>!(p.2==.local)||(scope.names.lookup p.1==some .local&&(p.1==c.nm x||p.1==(".0":Str)))) &&
  ((scope.names.lookup (c.nm x)==some .local)&&scope.names.all (fun p=>!(p.2==.free)||kn p.1==some .cell))))
def JS(c:Cx)(r:Nat)(env:Nv)(e:Expr)(C:Ora)(m:ME):Prop:=JE c r env e (ev C m)/\JX c r env e (tst C m)
theorem JS.plain{c r env e C m}(h:JE c r env e (ev C m))(hp:NX e=true):JS c r env e C m:=⟨h,CN hp h⟩
theorem sE{a b}{P:Str->Prop}(h:(a==b)=true)(k:P b):P a:=aV.mp h▸k
theorem kE{a:Option NameKind}{b:NameKind}(h:(a==some b)=true):a=some b:=aV.mp h
theorem UR{α:Type}{l}{P:List α->Prop}(h:l.isEmpty=true)(f:P []):P l:=by
 cases l
 ·exact f
 ·exact ff h
noncomputable def l1{α:Type}(l:List α)(k:α->Bool):Bool:=match l with|[a]=>k a|_=>false
theorem QZ{α:Type}{l k}{P:List α->Prop}(h:l1 l k=true)(f:∀a,k a=true->P [a]):P l:=by
 match l with
 |[]=>exact ff h
 |[a]=>exact f a h
 |_::_::_=>exact ff h
noncomputable def l2{α:Type}(l:List α)(k:α->α->Bool):Bool:=match l with|[a,b]=>k a b|_=>false
theorem Xf{α:Type}{l k}{P:List α->Prop}(h:l2 l k=true)(f:∀a b,k a b=true->P [a,b]):P l:=by
 cases l with
 |nil=>exact ff h
 |cons a r=>
  cases r with
  |nil=>exact ff h
  |cons b r=>
   cases r with
   |nil=>exact f a b h
   |cons _ _=>exact ff h
section
variable{e:Expr}{P:Expr->Prop}
def XD(e:Expr)(k:Const->Bool):Bool:=ctq fun h=>Expr.Constant.elim (motive_1:=fun J=>Bool) e h fun v J J=>k v
@[elab_as_elim] theorem Ys{k}(h:XD e k=true)(f:∀v n p,k v=true->P (.Constant v n p)):P e:=Jd h fun q=>Expr.Constant.elim (motive_1:=fun e=>XD e k=true->P e) e q (fun J J J h=>f _ _ _ h) h
def Q1(e:Expr)(k:Str->Bool):Bool:=ctq fun h=>Expr.Name.elim (motive_1:=fun J=>Bool) e h fun y J=>k y
@[elab_as_elim] theorem UH{k}(h:Q1 e k=true)(f:∀y p,k y=true->P (.Name y p)):P e:=Jd h fun q=>Expr.Name.elim (motive_1:=fun e=>Q1 e k=true->P e) e q (fun J J h=>f _ _ h) h
def Xy(e:Expr)(k:Str->Pos->Bool):Bool:=ctq fun h=>Expr.Name.elim (motive_1:=fun J=>Bool) e h fun y p=>k y p
@[elab_as_elim] theorem Ko{k}(h:Xy e k=true)(f:∀y p,k y p=true->P (.Name y p)):P e:=Jd h fun q=>Expr.Name.elim (motive_1:=fun e=>Xy e k=true->P e) e q (fun J J h=>f _ _ h) h
def UD(e:Expr)(k:Expr->Str->Pos->Bool):Bool:=ctq fun h=>Expr.Attribute.elim (motive_1:=fun J=>Bool) e h fun v a p=>k v a p
@[elab_as_elim] theorem Ua{k}(h:UD e k=true)(f:∀v a p,k v a p=true->P (.Attribute v a p)):P e:=Jd h fun q=>Expr.Attribute.elim (motive_1:=fun e=>UD e k=true->P e) e q (fun J J J h=>f _ _ _ h) h
def Zl(e:Expr)(k:Expr->List Expr->Pos->Bool):Bool:=ctq fun h=>Expr.Call.elim (motive_1:=fun J=>Bool) e h fun g es kw p=>kw.isEmpty&&k g es p
@[elab_as_elim] theorem DY{k}(h:Zl e k=true)(f:∀g es p,k g es p=true->P (.Call g es [] p)):P e:=
 Jd h fun q=>Expr.Call.elim (motive_1:=fun e=>Zl e k=true->P e) e q (fun J J J J h=>bA h fun h1 h2=>UR (P:=fun kw=>P (.Call _ _ kw _)) h1 (f _ _ _ h2)) h
def XE(e:Expr)(k:Str->List Expr->Bool):Bool:=Zl e fun g es J=>Q1 g fun y=>k y es
@[elab_as_elim] theorem Xo{k}(h:XE e k=true)(f:∀y np es p,k y es=true->P (.Call (.Name y np) es [] p)):P e:=
 DY h fun J es p h=>UH (P:=fun g=>P (.Call g es [] p)) h fun y np h=>f y np es p h
def U4(e:Expr)(k:Expr->Str->List Expr->Bool):Bool:=Zl e fun g es p=>UD g fun v a ap=>Jv v&&(es.all Ja&&((ap.endLine==p.line)&&(decide (es.length<25)&&k v a es)))
@[elab_as_elim] theorem WQ{k}(h:U4 e k=true)(f:∀v a ap es p,Jv v=true->es.all Ja=true->(ap.endLine==p.line)=true->es.length<25->k v a es=true->P (.Call (.Attribute v a ap) es [] p)):P e:=
 DY h fun J es p h=>Ua (P:=fun g=>P (.Call g es [] p)) h fun v a ap h=>aD h fun h1 h2 h3 h4 h=>f v a ap es p h1 h2 h3 (qH h4) h
def XQ(e:Expr)(k:Expr->List CmpOp->List Expr->Bool):Bool:=ctq fun h=>Expr.Compare.elim (motive_1:=fun J=>Bool) e h fun l ops rs J=>k l ops rs
@[elab_as_elim] theorem ZS{k}(h:XQ e k=true)(f:∀l ops rs p,k l ops rs=true->P (.Compare l ops rs p)):P e:=Jd h fun q=>Expr.Compare.elim (motive_1:=fun e=>XQ e k=true->P e) e q (fun J J J J h=>f _ _ _ _ h) h
def Od(e:Expr)(k:Expr->Operator->Expr->Bool):Bool:=ctq fun h=>Expr.BinOp.elim (motive_1:=fun J=>Bool) e h fun l o r J=>k l o r
@[elab_as_elim] theorem PW{k}(h:Od e k=true)(f:∀l o r p,k l o r=true->P (.BinOp l o r p)):P e:=Jd h fun q=>Expr.BinOp.elim (motive_1:=fun e=>Od e k=true->P e) e q (fun J J J J h=>f _ _ _ _ h) h
noncomputable def ZBK:UnaryOp->Bool|.USub=>true|_=>false
noncomputable def ZBJ:UnaryOp->Bool|.Not=>true|_=>false
def xUn(e:Expr)(k:UnaryOp->Expr->Bool):Bool:=ctq fun h=>Expr.UnaryOp.elim (motive_1:=fun J=>Bool) e h fun o v J=>k o v
@[elab_as_elim] theorem He{k}(h:xUn e k=true)(f:∀o v p,k o v=true->P (.UnaryOp o v p)):P e:=Jd h fun q=>Expr.UnaryOp.elim (motive_1:=fun e=>xUn e k=true->P e) e q (fun J J J h=>f _ _ _ h) h
noncomputable def ZBL:BoolOp->Bool|.And=>true|_=>false
noncomputable def ZC8:BoolOp->Bool|.Or=>true|_=>false
noncomputable def OE(op:BoolOp)(y:Expr)(es:List Expr)(p:Pos):Expr:=match es with
 |[]=>y
 |_=>.BoolOp op (y::es) p
def Zm(e:Expr)(k:BoolOp->Expr->Expr->List Expr->Pos->Bool):Bool:=ctq fun h=>Expr.BoolOp.elim (motive_1:=fun J=>Bool) e h fun op l p=>(match l with|x::y::es=>k op x y es p|_=>false)
@[elab_as_elim] theorem DZ{k}(h:Zm e k=true)(f:∀op x y es p,k op x y es p=true->P (.BoolOp op (x::y::es) p)):P e:=by
 refine Jd h fun q=>Expr.BoolOp.elim (motive_1:=fun e=>Zm e k=true->P e) e q (fun op l p h=>?_) h
 match l,h with
 |[],h=>exact ff h
 |[_],h=>exact ff h
 |x::y::es,h=>exact f _ _ _ _ _ h
def xIf(e:Expr)(k:Expr->Expr->Expr->Bool):Bool:=ctq fun h=>Expr.IfExp.elim (motive_1:=fun J=>Bool) e h fun t b o J=>k t b o
@[elab_as_elim] theorem V8{k}(h:xIf e k=true)(f:∀t b o p,k t b o=true->P (.IfExp t b o p)):P e:=Jd h fun q=>Expr.IfExp.elim (motive_1:=fun e=>xIf e k=true->P e) e q (fun J J J J h=>f _ _ _ _ h) h
def XP(e:Expr)(k:Expr->Expr->Bool):Bool:=ctq fun h=>Expr.Subscript.elim (motive_1:=fun J=>Bool) e h fun v i J=>k v i
@[elab_as_elim] theorem ZR{k}(h:XP e k=true)(f:∀v i p,k v i=true->P (.Subscript v i p)):P e:=Jd h fun q=>Expr.Subscript.elim (motive_1:=fun e=>XP e k=true->P e) e q (fun J J J h=>f _ _ _ h) h
def NT(e:Expr)(k:Option Expr->Option Expr->Bool):Bool:=ctq fun h=>Expr.Slice.elim (motive_1:=fun J=>Bool) e h fun lo hi st J=>(match st with|none=>k lo hi|_=>false)
@[elab_as_elim] theorem C9{k}(h:NT e k=true)(f:∀lo hi p,k lo hi=true->P (.Slice lo hi none p)):P e:=by
 refine Jd h fun q=>Expr.Slice.elim (motive_1:=fun e=>NT e k=true->P e) e q (fun J J st J h=>?_) h
 cases st
 ·exact f _ _ _ h
 ·exact ff h
def Nx(e:Expr)(k:List Expr->Bool):Bool:=ctq fun h=>Expr.List.elim (motive_1:=fun J=>Bool) e h fun es J=>k es
@[elab_as_elim] theorem Fd{k}(h:Nx e k=true)(f:∀es p,k es=true->P (.List es p)):P e:=Jd h fun q=>Expr.List.elim (motive_1:=fun e=>Nx e k=true->P e) e q (fun J J h=>f _ _ h) h
def XO(e:Expr)(k:List Expr->Bool):Bool:=ctq fun h=>Expr.Tuple.elim (motive_1:=fun J=>Bool) e h fun es J J=>k es
@[elab_as_elim] theorem ZQ{k}(h:XO e k=true)(f:∀es n p,k es=true->P (.Tuple es n p)):P e:=Jd h fun q=>Expr.Tuple.elim (motive_1:=fun e=>XO e k=true->P e) e q (fun J J J h=>f _ _ _ h) h
def Ny(e:Expr)(k:List (Option Expr)->List Expr->Bool):Bool:=ctq fun h=>Expr.Dict.elim (motive_1:=fun J=>Bool) e h fun ks es J=>k ks es
@[elab_as_elim] theorem Fe{k}(h:Ny e k=true)(f:∀ks es p,k ks es=true->P (.Dict ks es p)):P e:=Jd h fun q=>Expr.Dict.elim (motive_1:=fun e=>Ny e k=true->P e) e q (fun J J J h=>f _ _ _ h) h
def YP(e:Expr):Bool:=ctt fun h=>Expr.Set.elim (motive_1:=fun J=>Bool) e h fun J J J=>false
def YD(e:Expr)(k:Expr->Str->Expr->List Expr->Scope->Bool):Bool:=ctq fun h=>Expr.ListComp.elim (motive_1:=fun J=>Bool) e h fun elt gs sc J=>l1 gs fun g=>(g.is_async==0)&&Q1 g.target fun y=>YP g.iter&&k elt y g.iter g.ifs sc
@[elab_as_elim] theorem DX{k}(h:YD e k=true)(f:∀elt y yp it ifs sc p,YP it=true->k elt y it ifs sc=true->P (.ListComp elt [⟨.Name y yp,it,ifs,0⟩] sc p)):P e:=by
 refine Jd h fun q=>Expr.ListComp.elim (motive_1:=fun e=>YD e k=true->P e) e q (fun elt gs sc p h=>?_) h
 refine QZ (P:=fun gs=>P (.ListComp elt gs sc p)) h fun g h=>?_
 obtain⟨t,it,ifs,a⟩:=g;refine bA h fun h1 h=>?_
 have h1:a=0:=aV.mp h1;subst h1;exact UH (P:=fun t=>P (.ListComp elt [⟨t,it,ifs,0⟩] sc p)) h fun y yp h=>bA h fun h2 h=>f _ _ _ _ _ _ _ h2 h
end
noncomputable def ON:Const->Bool|.none=>true|_=>false
noncomputable def II(b:Bool):Const->Bool|.bool b'=>b==b'|_=>false
noncomputable def O3(i:Int):Const->Bool|.int j=>i==j|_=>false
def Oz(x:LN):Const->Bool|.str y=>y==toS x|_=>false
def TO(v:Vv)(e:Expr):Bool:=XD e fun k=>match v with
 |.none=>ON k
 |.bool b=>II b k
 |.int i=>O3 i k
 |.str x=>Oz x k
 |_=>false
theorem GF{k}(h:ON k=true):k=.none:=by cases k<;>first|rfl|exact ff h
theorem Lv{b k}(h:II b k=true):k=.bool b:=by cases k<;>first|exact ff h|exact aM Const.bool (aV.mp h).symm
theorem HF{b k}(h:O3 b k=true):k=.int b:=by cases k<;>first|exact ff h|exact aM Const.int (aV.mp h).symm
theorem HE{b k}(h:Oz b k=true):k=.str (toS b):=by cases k<;>first|exact ff h|exact aM Const.str (aV.mp h)
def Ib(c:Cx)(y:Str):BI->Bool
 |.len=>J4 c y (.builtin "len")
 |.ord=>J4 c y (.builtin "ord")
 |.chr=>J4 c y (.builtin "chr")
 |.range=>J4 c y (.type "range")
 |.sum=>J4 c y (.builtin "sum")
 |.max=>J4 c y (.builtin "max")
 |.int=>J4 c y (.type "int")
noncomputable def Dl:SM->Bool
 |.find=>true
 |.rfind=>true
 |.count=>true
 |.join=>true
 |.startswith=>true
 |.lower=>true
 |_=>false
noncomputable def meQ(m:ME)(f:Vv->Bool)(b:Bool):Bool:=match m with
 |.k v=>f v
 |.comp _ _ _ _=>b
 |_=>false
theorem IB{m f b}{P:ME->Prop}(h:meQ m f b=true)(k:∀v,f v=true->P (.k v))(k':∀me x mi mc,b=true->P (.comp me x mi mc)):P m:=by
 cases m<;>first|exact ff h|exact k _ h|exact k' _ _ _ _ h
def isK(a:ME)(f:Vv->Bool):Bool:=meQ a f false
theorem Z1{a f}{P:ME->Prop}(h:isK a f=true)(k:∀v,f v=true->P (.k v)):P a:=IB h k fun J J J J h=>ff h
noncomputable def isS(v:Vv)(f:LN->Bool):Bool:=match v with|.str s=>f s|_=>false
def OF(a:ME)(x:Expr):Bool:=isK a fun v=>isS v fun s=>XD x (Oz s)
theorem Dr{a x}{P:ME->Expr->Prop}(h:OF a x=true)(f:∀s n p,P (.k (.str s)) (.Constant (.str (toS s)) n p)):P a x:=by
 refine Z1 (P:=fun a=>P a x) h fun v h=>?_
 cases v<;>first|exact ff h|exact Ys (P:=P _) h fun v n p h=>HE h▸f _ n p
noncomputable def SP:SM->Bool|.replace=>true|_=>false
def ZCZ(m:SM)(as:List ME)(es:List Expr):Bool:=Dl m||(SP m&&l2 as fun a b=>l2 es fun x y=>OF a x&&OF b y)
def Hd(a:ME):Bool:=isK a (Vv.beq (.int 0))
theorem Fc{a}(h:Hd a=true):a=.k (.int 0):=by
 exact Z1 (P:=fun a=>a=.k (.int 0)) (f:=Vv.beq (.int 0)) h fun v h=>aM ME.k (Tactic.Vv.eq_of_beq h).symm
def ZAl(as:List ME)(es:List Expr):Bool:=(as.isEmpty&&es.isEmpty)||l1 as fun a=>l1 es fun x=>Hd a&&XD x (O3 0)
noncomputable def dbg(y:Str):Bool:=!(y==("__debug__":Str))
theorem Wh{y}(h:dbg y=true):(y==("__debug__":Str))=false:=by
 unfold dbg at h;cases q:(y==("__debug__":Str))
 ·rfl
 ·rw[q] at h;exact ff h
noncomputable def opN:CmpOp->Nat
 |.Eq=>0|.NotEq=>1|.Lt=>2|.LtE=>3|.Gt=>4|.GtE=>5|.In=>6|.NotIn=>7|.Is=>8|.IsNot=>9
noncomputable def opK:Nat->CmpOp
 |0=>.Eq|1=>.NotEq|2=>.Lt|3=>.LtE|4=>.Gt|5=>.GtE|6=>.In|7=>.NotIn|8=>.Is|_=>.IsNot
theorem H8(a):opK (opN a)=a:=by cases a<;>rfl
def Xa(a b:CmpOp):Bool:=Nat.beq (opN a) (opN b)
theorem Xt{a b}(h:Xa a b=true):a=b:=by rw[<- H8 a,<- H8 b,aa h]
noncomputable def Ic(o:Operator)(b:Bop):Bool:=match b with
 |.add=>(match o with|.Add=>true|_=>false)
 |.sub=>(match o with|.Sub=>true|_=>false)
 |.fdiv=>(match o with|.FloorDiv=>true|_=>false)
 |.mod=>(match o with|.Mod=>true|_=>false)
 |.mul=>(match o with|.Mult=>true|_=>false)
def YN(a:ME):Bool:=isK a (Vv.beq .none)
theorem D5{a}(h:YN a=true):a=.k .none:=by
 exact Z1 (P:=fun a=>a=.k .none) (f:=Vv.beq .none) h fun v h=>aM ME.k (Tactic.Vv.eq_of_beq h).symm
def YE(a:ME):Bool:=isK a (Vv.beq (.bool true))
theorem Fn{a}(h:YE a=true):a=.k (.bool true):=by
 exact Z1 (P:=fun a=>a=.k (.bool true)) (f:=Vv.beq (.bool true)) h fun v h=>aM ME.k (Tactic.Vv.eq_of_beq h).symm
noncomputable def KP(n:Bool)(f:Expr->Bool):Option Expr->Bool
 |none=>n
 |some e=>f e
noncomputable def KQ(n:Bool)(f:Expr->Bool):List Expr->Bool
 |[]=>n
 |e::es=>es.isEmpty&&f e
noncomputable def ZBj(es:List Expr)(f:Expr->Bool)(g:List Expr->Bool):Bool:=match es with
 |[]=>false
 |e::es=>f e&&g es
def vIs(v:Vv)(o:Option Vv):Bool:=match o with
 |some w=>Vv.beq w v
 |none=>false
theorem ZAF{v o}(h:vIs v o=true):o=some v:=by
 cases o
 ·exact ff h
 ·exact aM _ (Vv.eq_of_beq h)
theorem Zw{α:Type}{l:List α}(h:(!l.isEmpty)=true):l≠[]:=fun q=>by subst q;exact ff h
mutual
noncomputable def JH(c:Cx)(kn:Str->Option NameKind):ME->Expr->Bool
 |.k v=>fun x=>TO v x
 |.glob v=>fun x=>Q1 x fun y=>(kn y==some .globalImplicit)&&c.G.any fun p=>c.nm p.1==y&&Vv.beq p.2.1 v
 |.loc n=>fun x=>Q1 x fun y=>y==c.nm n&&((kn y==some .local)||(kn y==some .cell))
 |.attr e n D=>fun x=>UD x fun e' a J=>a==c.nm n&&(Jv e'&&(QD c D n&&JH c kn e e'))
 |.bm e n D f=>fun x=>UD x fun e' a J=>a==c.nm n&&(Jv e'&&(UM c D n f&&JH c kn e e'))
 |.cat e n D i=>fun x=>UD x fun e' a J=>a==c.nm n&&(Jv e'&&(OR c D n i&&JH c kn e e'))
 |.call f as=>fun x=>XE x fun y es=>es.all Ja&&((kn y==some .globalImplicit)&&(dbg y&&(IL c y f&&chkEs c kn as es)))
 |.mcall e n D f as=>fun x=>U4 x fun e' a es=>a==c.nm n&&(UM c D n f&&(JH c kn e e'&&chkEs c kn as es))
 |.fcall e n D as=>fun x=>U4 x fun e' a es=>a==c.nm n&&(QD c D n&&(JH c kn e e'&&chkEs c kn as es))
 |.new D f as lv=>fun x=>XE x fun y es=>es.all Ja&&((kn y==some .globalImplicit)&&(dbg y&&(IM c y D f&&(decide (lv≠.frz)&&chkEs c kn as es))))
 |.bi b as=>fun x=>XE x fun y es=>es.all Ja&&((kn y==some .globalImplicit)&&(dbg y&&(Ib c y b&&chkEs c kn as es)))
 |.sm m e as=>fun x=>U4 x fun e' a es=>a==Ue m&&(JH c kn e e'&&(chkEs c kn as es&&ZCZ m as es))
 |.app e x=>fun z=>U4 z fun e' a es=>a==("append":Str)&&(JH c kn e e'&&l1 es fun x'=>JH c kn x x')
 |.pop e as=>fun x=>U4 x fun e' a es=>a==("pop":Str)&&(JH c kn e e'&&ZAl as es)
 |.cmp o l r=>fun x=>XQ x fun l' ops rs=>JH c kn l l'&&l1 ops fun op=>l1 rs fun r'=>Xa op (JR o)&&((behindInMarks (JR o) r'==false)&&JH c kn r r')
 |.cmp2 o1a o2a l m r=>fun x=>XQ x fun l' ops rs=>JH c kn l l'&&l2 ops fun op1 op2=>l2 rs fun m' r'=>Xa op1 (JR o1a)&&(Xa op2 (JR o2a)&&((behindInMarks (JR o2a) r'==false)&&(JH c kn m m'&&JH c kn r r')))
 |.bop o l r=>fun x=>Od x fun l' op r'=>Ic op o&&(JH c kn l l'&&JH c kn r r')
 |.neg e=>fun x=>xUn x fun o e'=>ZBK o&&JH c kn e e'
 |.not e=>fun x=>xUn x fun o e'=>ZBJ o&&JH c kn e e'
 |.and a b=>fun z=>Zm z fun op x y es p=>ZBL op&&(JH c kn a x&&JH c kn b (OE .And y es p))
 |.or a b=>fun z=>Zm z fun op x y es p=>ZC8 op&&(JH c kn a x&&JH c kn b (OE .Or y es p))
 |.ite t b o=>fun x=>xIf x fun t' b' o'=>JH c kn t t'&&(JH c kn b b'&&JH c kn o o')
 |.sub e i=>fun x=>XP x fun e' i'=>JH c kn e e'&&JH c kn i i'
 |.sl e a b=>fun x=>XP x fun e' s=>NT s fun lo hi=>JH c kn e e'&&(KP (YN a) (fun x=>JH c kn a x) lo&&KP (YN b) (fun x=>JH c kn b x) hi)
 |.lst es _=>fun x=>Nx x fun es'=>es'.all Ja&&(decide (es.length<=1000)&&chkEs c kn es es')
 |.tup es=>fun x=>XO x fun es'=>es'.all Ja&&(decide (es.length<=1000)&&chkEs c kn es es')
 |.dct ks es _=>fun x=>Ny x fun keys es'=>XH keys ks&&((ks.length==es.length)&&(decide (es.length<=15)&&(!es.isEmpty&&chkEs c kn es es')))
 |.comp elt x it cond=>fun z=>YD z fun elt' y it' ifs sc=>y==c.nm x&&(WT c sc kn x&&(JH c kn it it'&&(JH c (WC sc kn) elt elt'&&KQ (YE cond) (fun e=>JH c (WC sc kn) cond e) ifs)))
 |.isb m=>fun x=>XE x fun y es=>l2 es fun a b=>Ja a&&((kn y==some .globalImplicit)&&(dbg y&&(J4 c y (.builtin "isinstance")&&(Q1 b (fun y'=>(kn y'==some .globalImplicit)&&(dbg y'&&J4 c y' (.type "bool")))&&JH c kn m a))))
 |.fat e n w=>fun x=>UD x fun e' a J=>a==c.nm n&&(Jv e'&&(QD c c.iD n&&(vIs w (JA c.I n)&&JH c kn e e')))
 |.fmc e n f as=>fun x=>U4 x fun e' a es=>a==c.nm n&&(UM c c.iD n f&&(!c.I.isEmpty&&((JA c.I n).isNone&&(JH c kn e e'&&chkEs c kn as es))))
 |.inf l r f=>fun x=>XQ x fun l' ops rs=>JH c kn l l'&&l1 ops fun op=>l1 rs fun r'=>Xa op .In&&((behindInMarks .In r'==false)&&(ZZ c f&&(!c.I.isEmpty&&JH c kn r r')))
 |.ink e n ks=>fun x=>XQ x fun l' ops rs=>JH c kn e l'&&l1 ops fun op=>l1 rs fun r'=>Xa op .In&&((behindInMarks .In r'==false)&&Q1 r' fun y=>y==c.nm n&&((kn y==some .globalImplicit)&&Z2 c n ks))
noncomputable def chkEs(c:Cx)(kn:Str->Option NameKind):List ME->List Expr->Bool
 |[]=>fun es=>es.isEmpty
 |m::ms=>fun es=>ZBj es (fun e=>JH c kn m e) fun es=>chkEs c kn ms es
end
section
variable{c:Cx}{r:Nat}{env fC:Nv}{A:Around}{U U' U1a:St}{g eu:Gh}{s s' ek em:Shared}{E:Value->Shared->Prop}{Q:Value->Shared->Prop}{v:Vv}{D:Addr->Prop}
def ND(e:Expr):Bool:=ctt fun h=>Expr.Slice.elim (motive_1:=fun J=>Bool) e h fun J J J J=>false
theorem Ac{id u x y}(hf:Qo U (.obj id) u=some v)(R:Rel c env g U s)(hx:Vx c env g s (.obj id) x)(hy:Vx c env g s u y)(N:Nxt c env g s v U Q):wpAny c.M A (getItem x y) Q E s:=
 boE (show bo (JA U.hp id) _=some v from hf) fun o ho h=>by
  cases o<;>first|exact nn h|skip
  ·exact hx.objE fun a ha=>by
    obtain⟨items,n,hcs,hi,hv⟩:=Uy R ho ha;exact QM (P:=fun b=>Vx c env g s b y->wpAny c.M A (getItem (.ref a) y) Q E s) h (fun i h hy=>bdE h fun hb h=>boE h fun j hj e=>hy.intE (P:=fun y=>wpAny c.M A (getItem (.ref a) y) Q E s) fun t=>by
     obtain⟨x,hx,rx⟩:=hv.get e;have hs:=Jf hv;exact BK hi (by rw[hs];exact hb) (by rw[hs];exact hj) (by rw[<- bQ];exact hx) (N.same R rx)) hy
  ·exact hx.objE fun a ha=>by
    obtain⟨o,hc,rfl,hsm,kvs,D,k1,r1⟩:=Wc R ho ha;exact KV (b:=u) h R D k1 r1 hy N
theorem Aj{i}(h:ND i=true):∀ov iv new,augStore i ov iv new=(do holding [new,ov,iv] (PySem.setItem ov iv new);release [new,ov,iv] [];pure .next):=by
 cases i<;>first|exact fun J J J=>rfl|exact ff h
theorem T9{P:Vv->Prop}{o x v}(hf:Tactic.U2 U o x v=some U')(k:∀id,P (.obj id)):P o:=by
 cases o<;>first|exact nn hf|exact k _
theorem Mh{C o t i e mt mi m}{tp pos}(hi:ND i=true)(ho:o=.add\/o=.sub)(H:JE c r env t (ev C mt))(H2:JE c r env i (ev C mi))(H3:JE c r env e (ev C m)):
  JQ c r env (.AugAssign (.Subscript t i tp) (WE o) e pos) (exc C (.augS mt mi o m)):=fun A U fl U' g s E Q hr hf R N=>bnE hf fun x U1a h1 h=>bnE h fun j U2a h2 h=>boE h fun a h3 h=>bnE h fun b fI h4 h=>bnE h fun w U4a h5 h=>boE h fun U5a h6 h7=>
 T9 (P:=fun x=>ev C mt U=some (x,U1a)->Qo U2a x j=some a->Tactic.U2 U4a x j w=some U5a->wpAny c.M A (exec (.AugAssign (.Subscript t i tp) (WE o) e pos) env) Q E s) h6 (fun id h1 h3 h6=>
  wpAny_AugAssign_SubscriptAny (H hr h1 R fun xv ek eu ew ez e6=>H2 hr h2 ew fun jv em fB fE fP fH=>Ac h3 fE (ez.ext fH) fP fun av fO g3a fQ X3a fM=>H3 hr h4 fQ fun bv s4a g4a R4a X4a E4a=>Ng ho h5 R4a (X3a.ext E4a) X4a fun wv s5a g5a R5a X5a E5a=>
   BW h6 R5a (ez.ext (fH.trans (fM.trans (E4a.trans E5a)))) (fP.ext (fM.trans (E4a.trans E5a))) X5a fun s6a R6a E6a=>(N.of h7).nxt R6a (e6.trans (fH.trans (fM.trans (E4a.trans (E5a.trans E6a)))))) (Aj hi)) h1 h3 h6
def ZCy(c:Cx)(kn:Str->Option NameKind)(e:Expr)(n:Nat):Bool:=Q1 e fun y=>y==c.nm n&&(kn y==some .local)
noncomputable def Zv(c:Cx)(kn:Str->Option NameKind):List Expr->LN->Bool
 |[],ns=>ns.isEmpty
 |e::es,ns=>(match ns with
  |[]=>false
  |n::ns=>ZCy c kn e n&&Zv c kn es ns)
theorem B8{kn}(hkn:∀x,env.kindOf x=kn x):∀{es:List Expr} {ns:LN},Zv c kn es ns=true->WV c env es ns=true:=by
 intro es;induction es with
 |nil=>
  intro _ h;exact h
 |cons e es ih=>
  intro ns h;cases ns with
  |nil=>exact ff h
  |cons n ns=>
   exact bA h fun h1 h2=>ag.mpr ⟨UH (P:=fun e=>ZX c env e n=true) h1 fun y p h=>by
         show (y==c.nm n&&(env.kindOf y==some .local))=true;rw[hkn];exact h,ih h2⟩
end
noncomputable def Z9(o:Operator)(b:Bop):Bool:=match b with
 |.add=>(match o with|.Add=>true|_=>false)
 |.sub=>(match o with|.Sub=>true|_=>false)
 |_=>false
theorem K3{o b}(h:Z9 o b=true):o=WE b/\(b=.add\/b=.sub):=by
 cases b<;>first|exact ff h|skip
 ·cases o<;>first|exact ff h|exact⟨rfl,.inl rfl⟩
 ·cases o<;>first|exact ff h|exact⟨rfl,.inr rfl⟩
def HI(m:ME):Bool:=meQ m (fun J=>false) true
def XS(y:Str)(np:Pos)(e:Expr):Bool:=ctq fun h=>Expr.ListComp.elim (motive_1:=fun J=>Bool) e h fun J J scope pos=>np.line==pos.line&&!(scope.names.any fun (n,k)=>n==y&&(k==.local||k==.cell))
structure En(env:Nv)(kn:Str->Option NameKind):Prop where
 ok:EnvOk env
 cells:Xr env
 kn:∀x,env.kindOf x=kn x
section
variable{c:Cx}{r:Nat}{C:Ora}
theorem PJ{v e env}(h:TO v e=true):JS c r env e C (.k v):=
 Ys (P:=fun e=>JS c r env e C (.k v)) h fun k n p h=>by
  cases v<;>first|exact ff h|skip
  ·exact GF h▸.plain Mt rfl
  ·exact Lv h▸.plain M1 rfl
  ·exact HF h▸.plain Sz rfl
  ·exact HE h▸.plain So rfl
theorem FY{env o b}(h:Ic o b=true):Ww c env r (binaryOp o) (fun U=>Jk U b):=by
 cases b with
 |add=>cases o<;>first|exact ff h|exact V3
 |sub=>cases o<;>first|exact ff h|exact Fw
 |mul=>cases o<;>first|exact ff h|exact Rs
 |fdiv=>cases o<;>first|exact ff h|exact Ma
 |mod=>cases o<;>first|exact ff h|exact Rt
theorem FX(O:c.Ok){env y es b as}{np pos}(VV:EnvOk env)(hs:es.all Ja=true)(hk:env.kindOf y=some .globalImplicit)(hx:(y==("__debug__":Str))=false)(h:Ib c y b=true)
  (H:J1 c r env es (evs C as)):JS c r env (.Call (.Name y np) es [] pos) C (.bi b as):=by
 cases b with
 |len=>exact .plain (OV (b:=.len) O VV hs hk hx h Rx H) rfl
 |ord=>exact .plain (OV (b:=.ord) O VV hs hk hx h Rb H) rfl
 |chr=>exact .plain (OV (b:=.chr) O VV hs hk hx h Vj H) rfl
 |range=>exact .plain (E9 O VV hs hk hx h H) rfl
 |sum=>exact .plain (Sk O VV hs hk hx h H) rfl
 |max=>exact .plain (Ss O VV hs hk hx h H) rfl
 |int=>exact .plain (Mv O VV hs hk hx h H) rfl
theorem Aq{env e es m me as}{fK pos}(hc:Jv e=true)(hs:es.all Ja=true)(hl:(fK.endLine==pos.line)=true)(fN:es.length<25)(h:Dl m=true)
  (H:JE c r env e (ev C me)) (H2:J1 c r env es (evs C as)):JS c r env (.Call (.Attribute e (Ue m) fK) es [] pos) C (.sm m me as):=
 .plain (ZBb hc hs hl fN (by cases m<;>first|exact ff h|exact F1|exact ED|exact EG|exact Lw|exact T7|exact EF) H H2) rfl
theorem KR{α:Type}{l:List α}{p}(h:l.all p=true):∀a∈l,p a=true:=aq.mp h
theorem Os{α:Type}[BEq α][LawfulBEq α]{a b:α}(h:(!(a==b))=true):a≠b:=fun q=>by subst q;rw[aS] at h;exact ff h
theorem Kr(O:c.Ok){env kn}(Vv:En env kn){scope x}(h:WT c scope kn x=true):∃cl,CompS c env scope x cl/\∀L,EnvOk (cNv scope cl L env)->En (cNv scope cl L env) (WC scope kn):=
 aD h fun h1 h2 h3 h4 h5=>by
  have h2:∀y∈scope.names,y.2≠.cell:=fun y hy=>Os (KR h2 y hy)
  have h3:∀y∈scope.names,y.2=.local->scope.names.lookup y.1=some .local/\(y.1=c.nm x\/y.1=(".0":Str)):=fun y hy e=>bO (KR h3 y hy) (fun q=>absurd e (Os q)) fun q=>bA q fun q1 q2=>⟨kE q1,bO q2 (fun q=>.inl (bE q)) fun q=>.inr (bE q)⟩
  have hfree:∀p∈scope.names,p.2=.free->(env.cells.lookup p.1).isSome=true:=fun p hp e=>Vv.cells _ ((Vv.kn _).trans (bO (KR h5 p hp) (fun q=>absurd e (Os q)) kE))
  have rc:∀{y},(relabel scope env).names.lookup y=some .cell->(y,NameKind.free)∈scope.names/\env.kindOf y=some .cell:=fun h=>(BO h).elim (fun q=>⟨q.1,q.2.1⟩) fun q=>absurd rfl (h2 _ q)
  obtain⟨cl,k0,k1,k2⟩:=AF hfree;refine⟨cl,⟨k0,fun n hn=>?_,h2,bE h1,fun y hy e=>(h3 y hy e).1,kE h4,fun n hn=>(BO hn).elim (fun q=>nomatch q.2.2) fun q=>(h3 _ q rfl).2.elim (O.inj _ _) fun q=>absurd q (O.no0 n)⟩,fun L VV=>⟨VV,fun y hy=>k2 _ (rc hy).1,fun y=>?_⟩⟩
  ·obtain⟨q1,q2⟩:=rc hn
   obtain⟨a,ha⟩:=cK.mp (k2 _ q1);exact⟨ha.trans (k1 _ _ ha).symm,q2⟩
  ·show (relabel scope env).names.lookup y=_
   unfold relabel WC;have hk:(env.scope.kind==ScopeKind.function)=true:=aV.mpr Vv.ok.kind;rw[hk,funext Vv.kn];refine aM (fun l=>List.lookup y l) (cr fun p J=>?_)
   obtain⟨a,k⟩:=p;dsimp only;rw[bu]
def PE(c:Cx)(r:Nat)(C:Ora)(m:ME):Prop:=∀{e:Expr} {env:Nv} {kn:Str->Option NameKind},En env kn->JH c kn m e=true->JS c (r+1) env e C m
def PEs(c:Cx)(r:Nat)(C:Ora)(ms:List ME):Prop:=∀{es:List Expr} {env:Nv} {kn:Str->Option NameKind},En env kn->chkEs c kn ms es=true->EvAll c (r+1) env C es ms
variable{m ma mb mc:ME}{as:List ME}{n D f:Nat}{b:BI}{o o2a:Cmp}
theorem Vq(O:c.Ok){v}:PE c r C (.glob v):=fun Vv h=>UH h fun y p h=>bA h fun h1 h=>by
 obtain⟨⟨n,v',x⟩,hq,h⟩:=cg.mp h;exact bA h fun h2 h3=>by
  cases Tactic.Vv.eq_of_beq h3;cases aV.mp h2;exact .plain (Mw O Vv.ok hq ((Vv.kn _).trans (kE h1))) rfl
theorem ZCA(O:c.Ok):PE c r C (.loc n):=fun {e env kn} Vv h=>UH h fun y p h=>bA h fun h1 h2=>sE (P:=fun y=>(kn y=some .local\/kn y=some .cell)->JS c (r+1) env (.Name y p) C (.loc n)) h1
 (fun h2=>h2.elim (fun h2=>.plain (Sv O Vv.ok ((Vv.kn _).trans h2)) rfl) fun h2=>.plain (Mz O Vv.ok ((Vv.kn _).trans h2)) rfl) (bO h2 (fun h=>.inl (kE h)) fun h=>.inr (kE h))
theorem Vw(O:c.Ok)(H:PE c r C m):PE c r C (.attr m n D):=fun {e env kn} Vv h=>Ua h fun e' a p h=>aB h fun h1 h2 h=>bA h fun h3 h=>
 sE (P:=fun a=>JS c (r+1) env (.Attribute e' a p) C (.attr m n D)) h1 (.plain (M2 O h2 h3 (H Vv h).1) rfl)
theorem ZDU(O:c.Ok)(H:PE c r C m):PE c r C (.bm m n D f):=fun {e env kn} Vv h=>Ua h fun e' a p h=>aB h fun h1 h2 h=>bA h fun h3 h=>
 sE (P:=fun a=>JS c (r+1) env (.Attribute e' a p) C (.bm m n D f)) h1 (.plain (ZBf O h2 h3 (H Vv h).1) rfl)
theorem ZCJ(O:c.Ok){i}(H:PE c r C m):PE c r C (.cat m n D i):=fun {e env kn} Vv h=>Ua h fun e' a p h=>aB h fun h1 h2 h=>bA h fun h3 h=>
 sE (P:=fun a=>JS c (r+1) env (.Attribute e' a p) C (.cat m n D i)) h1 (.plain (VI O h2 h3 (H Vv h).1) rfl)
theorem Vu(HC:JK c r C)(H:PEs c r C as):PE c r C (.call f as):=fun Vv h=>Xo h fun y np es p h=>aA h fun h1 h2 h3 h=>bA h fun h4 h=>
 .plain (M0 Vv.ok h1 ((Vv.kn _).trans (kE h2)) (Wh h3) h4 (HC.up (xC _)) (H Vv h).evs) rfl
theorem PM(O:c.Ok)(HC:JK c r C)(H:PE c r C m)(H2:PEs c r C as):PE c r C (.mcall m n D f as):=fun {e env kn} Vv h=>WQ h fun e' a ap es p k1 k2 k3 k4 h=>aB h fun h1 h2 h=>bA h fun h3 h4=>
 sE (P:=fun a=>JS c (r+1) env (.Call (.Attribute e' a ap) es [] p) C (.mcall m n D f as)) h1 (.plain (FB O Vv.ok k1 k2 k3 k4 h2 (HC.up (xC _)) (H Vv h3).1 (H2 Vv h4).evs) rfl)
theorem PN(O:c.Ok)(HC:JK c r C)(H:PE c r C m)(H2:PEs c r C as):PE c r C (.fcall m n D as):=fun {e env kn} Vv h=>WQ h fun e' a ap es p k1 k2 k3 k4 h=>aB h fun h1 h2 h=>bA h fun h3 h4=>
 sE (P:=fun a=>JS c (r+1) env (.Call (.Attribute e' a ap) es [] p) C (.fcall m n D as)) h1 (.plain (FC O Vv.ok k1 k2 k3 k4 h2 O.fn (HC.up (xC _)) (H Vv h3).1 (H2 Vv h4).evs) rfl)
theorem ZB7(O:c.Ok)(HC:JK c r C){lv}(H:PEs c r C as):PE c r C (.new D f as lv):=fun Vv h=>Xo h fun y np es p h=>aD h fun h1 h2 h3 h4 h=>bA h fun h5 h=>
 .plain (Sq O Vv.ok h1 ((Vv.kn _).trans (kE h2)) (Wh h3) h4 (qH h5) HC (H Vv h).evs) rfl
theorem ZCC(O:c.Ok)(H:PE c r C m):PE c r C (.isb m):=fun {e env kn} Vv h=>Xo h fun y np es p h=>Xf (P:=fun es=>JS c (r+1) env (.Call (.Name y np) es [] p) C (.isb m)) h fun a b h=>aD h fun h1 h2 h3 h4 h=>bA h fun h5 h6=>
 UH (P:=fun b=>JS c (r+1) env (.Call (.Name y np) [a,b] [] p) C (.isb m)) h5 fun y' bp h=>aB h fun k1 k2 k3=>.plain (Sy O Vv.ok h1 ((Vv.kn _).trans (kE h2)) (Wh h3) h4 ((Vv.kn _).trans (kE k1)) (Wh k2) k3 (H Vv h6).1) rfl
theorem nB{b}(h:(b==false)=true):b=false:=aV.mp h
theorem ZCG(O:c.Ok){w}(H:PE c r C m):PE c r C (.fat m n w):=fun {e env kn} Vv h=>Ua h fun e' a p h=>aA h fun h1 h2 h3 h=>bA h fun h4 h=>
 sE (P:=fun a=>JS c (r+1) env (.Attribute e' a p) C (.fat m n w)) h1 (.plain (VF O h2 h3 (ZAF h4) (H Vv h).1) rfl)
theorem ZCF(O:c.Ok)(HC:JK c r C)(H:PE c r C m)(H2:PEs c r C as):PE c r C (.fmc m n f as):=fun {e env kn} Vv h=>WQ h fun e' a ap es p k1 k2 k3 k4 h=>aD h fun h1 h2 h3 h4 h=>bA h fun h5 h6=>
 sE (P:=fun a=>JS c (r+1) env (.Call (.Attribute e' a ap) es [] p) C (.fmc m n f as)) h1 (.plain (VD O Vv.ok k1 k2 k3 k4 h2 (Zw h3) (bD.mp h4) (HC.up (xC _)) (H Vv h5).1 (H2 Vv h6).evs) rfl)
theorem ZCE(O:c.Ok)(HC:JK c r C)(H:PE c r C m)(H2:PE c r C ma):PE c r C (.inf m ma f):=fun {e env kn} Vv h=>ZS h fun l ops rs p h=>bA h fun h1 h=>QZ (P:=fun ops=>JS c (r+1) env (.Compare l ops rs p) C (.inf m ma f)) h fun op h=>QZ (P:=fun rs=>JS c (r+1) env (.Compare l [op] rs p) C (.inf m ma f)) h fun r' h=>
 aD h fun h2 h3 h4 h5 h6=>Xt h2▸⟨VB O Vv.ok (nB h3) h4 (Zw h5) (HC.up (xC _)) (H Vv h1).1 (H2 Vv h6).1,Fk O Vv.ok (nB h3) h4 (Zw h5) (HC.up (xC _)) (H Vv h1).1 (H2 Vv h6).1⟩
theorem ZCD(O:c.Ok){ks}(H:PE c r C m):PE c r C (.ink m n ks):=fun {e env kn} Vv h=>ZS h fun l ops rs p h=>bA h fun h1 h=>QZ (P:=fun ops=>JS c (r+1) env (.Compare l ops rs p) C (.ink m n ks)) h fun op h=>QZ (P:=fun rs=>JS c (r+1) env (.Compare l [op] rs p) C (.ink m n ks)) h fun r' h=>
 aB h fun h2 h3 h=>UH (P:=fun r'=>(behindInMarks .In r'==false)=true->JS c (r+1) env (.Compare l [op] [r'] p) C (.ink m n ks)) h (fun y np h h3=>aE h fun h4 h=>bA h fun h5 h6=>
  sE (P:=fun y=>(behindInMarks .In (.Name y np)==false)=true->kn y=some .globalImplicit->JS c (r+1) env (.Compare l [op] [.Name y np] p) C (.ink m n ks)) h4 (fun h3 h5=>Xt h2▸⟨VA O Vv.ok (nB h3) ((Vv.kn _).trans h5) h6 (H Vv h1).1,Fj O Vv.ok (nB h3) ((Vv.kn _).trans h5) h6 (H Vv h1).1⟩) h3 (kE h5)) h3
theorem ZDV(O:c.Ok)(H:PEs c r C as):PE c r C (.bi b as):=fun Vv h=>Xo h fun y np es p h=>aA h fun h1 h2 h3 h=>bA h fun h4 h=>
 FX O Vv.ok h1 ((Vv.kn _).trans (kE h2)) (Wh h3) h4 (H Vv h).evs
theorem ZDR{s}(H:PE c r C m)(H2:PEs c r C as):PE c r C (.sm s m as):=fun {e env kn} Vv h=>WQ h fun e' a ap es p k1 k2 k3 k4 h=>aB h fun h1 h3 h=>bA h fun h4 h=>
 sE (P:=fun a=>JS c (r+1) env (.Call (.Attribute e' a ap) es [] p) C (.sm s m as)) h1 (bO h (fun h=>Aq k1 k2 k3 k4 h (H Vv h3).1 (H2 Vv h4).evs) fun h=>bA h fun h h5=>by
  cases s<;>first|exact ff h|skip
  exact Xf (P:=fun as=>JS c (r+1) env (.Call (.Attribute e' (Ue .replace) ap) es [] p) C (.sm .replace m as)) h5 fun a b h=>Xf (P:=fun es=>JS c (r+1) env (.Call (.Attribute e' (Ue .replace) ap) es [] p) C (.sm .replace m [a,b])) h fun x y h=>bA h fun h5 h6=>
   Dr (P:=fun a x=>JS c (r+1) env (.Call (.Attribute e' (Ue .replace) ap) [x,y] [] p) C (.sm .replace m [a,b])) h5 fun s n q=>Dr (P:=fun b y=>JS c (r+1) env (.Call (.Attribute e' (Ue .replace) ap) [.Constant (.str (toS s)) n q,y] [] p) C (.sm .replace m [.k (.str s),b])) h6 fun s' n' q'=>
    .plain (Mq k1 k3 (H Vv h3).1) rfl)
theorem ZCL(H:PE c r C m)(H2:PE c r C ma):PE c r C (.app m ma):=fun {e env kn} Vv h=>WQ h fun e' a ap es p k1 k2 k3 k4 h=>aB h fun h1 h3 h=>QZ (P:=fun es=>es.all Ja=true->JS c (r+1) env (.Call (.Attribute e' a ap) es [] p) C (.app m ma)) h (fun x h k2=>
 sE (P:=fun a=>JS c (r+1) env (.Call (.Attribute e' a ap) [x] [] p) C (.app m ma)) h1 (.plain (VK k1 (bA k2 fun k J=>k) k3 (H Vv h3).1 (H2 Vv h).1) rfl)) k2
theorem ZB4(H:PE c r C m):PE c r C (.pop m as):=fun {e env kn} Vv h=>WQ h fun e' a ap es p k1 k2 k3 k4 h=>aE h fun h1 h=>bA h fun h3 h=>
 sE (P:=fun a=>JS c (r+1) env (.Call (.Attribute e' a ap) es [] p) C (.pop m as)) h1 (bO h
  (fun h=>bA h fun q1 q2=>UR (P:=fun as=>JS c (r+1) env (.Call (.Attribute e' ("pop":Str) ap) es [] p) C (.pop m as)) q1 (UR (P:=fun es=>JS c (r+1) env (.Call (.Attribute e' ("pop":Str) ap) es [] p) C (.pop m [])) q2 (.plain (Ms k1 k3 (H Vv h3).1) rfl)))
  fun h=>QZ (P:=fun as=>JS c (r+1) env (.Call (.Attribute e' ("pop":Str) ap) es [] p) C (.pop m as)) h fun a h=>QZ (P:=fun es=>JS c (r+1) env (.Call (.Attribute e' ("pop":Str) ap) es [] p) C (.pop m [a])) h fun x h=>bA h fun q1 q2=>by
   cases Fc q1;exact Ys (P:=fun x=>JS c (r+1) env (.Call (.Attribute e' ("pop":Str) ap) [x] [] p) C (.pop m [.k (.int 0)])) q2 fun k n q h=>HF h▸.plain (Mr k1 k3 (H Vv h3).1) rfl)
theorem ZCI(H:PE c r C m)(H2:PE c r C ma):PE c r C (.cmp o m ma):=fun {e env kn} Vv h=>ZS h fun l ops rs p h=>bA h fun h1 h=>QZ (P:=fun ops=>JS c (r+1) env (.Compare l ops rs p) C (.cmp o m ma)) h fun op h=>QZ (P:=fun rs=>JS c (r+1) env (.Compare l [op] rs p) C (.cmp o m ma)) h fun r' h=>
 aB h fun h2 h3 h4=>Xt h2▸⟨VH (nB h3) (H Vv h1).1 (H2 Vv h4).1,Fl (nB h3) (H Vv h1).1 (H2 Vv h4).1⟩
theorem Vt(H:PE c r C m)(H2:PE c r C ma)(H3:PE c r C mb):PE c r C (.cmp2 o o2a m ma mb):=fun {e env kn} Vv h=>ZS h fun l ops rs p h=>bA h fun h1 h=>Xf (P:=fun ops=>JS c (r+1) env (.Compare l ops rs p) C (.cmp2 o o2a m ma mb)) h fun op op' h=>Xf (P:=fun rs=>JS c (r+1) env (.Compare l [op,op'] rs p) C (.cmp2 o o2a m ma mb)) h fun m' r' h=>
 aD h fun h2 h2' h3 h4 h5=>Xt h2▸Xt h2'▸⟨My (nB h3) (H Vv h1).1 (H2 Vv h4).1 (H3 Vv h5).1,EC (nB h3) (H Vv h1).1 (H2 Vv h4).1 (H3 Vv h5).1⟩
theorem ZCK{o}(H:PE c r C m)(H2:PE c r C ma):PE c r C (.bop o m ma):=fun Vv h=>PW h fun l op rr p h=>aB h fun h1 h2 h3=>.plain (VJ (FY h1) (H Vv h2).1 (H2 Vv h3).1) rfl
theorem ZB8(H:PE c r C m):PE c r C (.neg m):=fun Vv h=>He h fun o v p h=>bA h fun h1 h2=>by
 cases o<;>first|exact ff h1|exact .plain (Sr (H Vv h2).1) rfl
theorem ZB5(H:PE c r C m):PE c r C (.not m):=fun Vv h=>He h fun o v p h=>bA h fun h1 h2=>by
 cases o<;>first|exact ff h1|exact⟨Sp (H Vv h2).1,Fh (H Vv h2).2⟩
theorem Y8{env op y es p}(H:JS c r env (OE op y es p) C m):JS c r env (.BoolOp op (y::es) p) C m:=by
 cases es with
 |nil=>exact⟨Mu H.1,EB H.2⟩
 |cons _ _=>exact H
theorem ZCM(H:PE c r C m)(H2:PE c r C ma):PE c r C (.and m ma):=fun Vv h=>DZ h fun op x y es p h=>aB h fun h0 h1 h2=>by
 cases op
 ·exact⟨VL (H Vv h1).1 (Y8 (H2 Vv h2)).1,Fm (H Vv h1).2 (Y8 (H2 Vv h2)).2⟩
 ·exact ff h0
theorem ZDT(H:PE c r C m)(H2:PE c r C ma):PE c r C (.or m ma):=fun Vv h=>DZ h fun op x y es p h=>aB h fun h0 h1 h2=>by
 cases op
 ·exact ff h0
 ·exact⟨ZBe (H Vv h1).1 (Y8 (H2 Vv h2)).1,Pb (H Vv h1).2 (Y8 (H2 Vv h2)).2⟩
theorem ZCB(H:PE c r C m)(H2:PE c r C ma)(H3:PE c r C mb):PE c r C (.ite m ma mb):=fun Vv h=>V8 h fun t b o p h=>aE h fun h1 h=>bA h fun h2 h3=>
 ⟨Sw (H Vv h1).2 (H2 Vv h2).1 (H3 Vv h3).1,Fi (H Vv h1).2 (H2 Vv h2).2 (H3 Vv h3).2⟩
theorem ZB3(H:PE c r C m)(H2:PE c r C ma):PE c r C (.sub m ma):=fun Vv h=>ZR h fun v i p h=>bA h fun h1 h2=>.plain (Sn (H Vv h1).1 (H2 Vv h2).1) rfl
theorem Ig{env kn}(Vv:En env kn)(H:PE c r C m){o}(h:KP (YN m) (fun x=>JH c kn m x) o=true):Yk c (r+1) env o (ev C m):=by
 cases o with
 |none=>cases D5 h;exact PQ
 |some e=>exact Fa (H Vv h).1
theorem ZDS(H:PE c r C m)(H2:PE c r C ma)(H3:PE c r C mb):PE c r C (.sl m ma mb):=fun {e env kn} Vv h=>ZR h fun v i p h=>C9 (P:=fun i=>JS c (r+1) env (.Subscript v i p) C (.sl m ma mb)) h fun lo hi q h=>aE h fun h1 h=>bA h fun h2 h3=>
 .plain (ZBc (H Vv h1).1 (Ig Vv H2 h2) (Ig Vv H3 h3)) rfl
theorem ZB9{lv}(H:PEs c r C as):PE c r C (.lst as lv):=fun Vv h=>Fd h fun es p h=>aB h fun h1 h2 h=>.plain (Su h1 (qH h2) (H Vv h).evs) rfl
theorem ZB2(H:PEs c r C as):PE c r C (.tup as):=fun Vv h=>ZQ h fun es n p h=>aB h fun h1 h2 h=>.plain (Sj h1 (qH h2) (H Vv h).evs) rfl
theorem ZCH(O:c.Ok){ks lv}(H:PEs c r C as):PE c r C (.dct ks as lv):=fun Vv h=>Fe h fun keys es p h=>aA h fun h1 h2 h3 h=>bA h fun h4 h=>
 .plain (VG O h1 (aV.mp h2) (qH h3) (fun q=>by subst q;exact ff h4) (H Vv h)) rfl
theorem Gb{env kn}(Vv:En env kn)(H:PE c r C m){es}(h:KQ (YE m) (fun e=>JH c kn m e) es=true):WA c (r+1) env es (tst C m):=by
 cases es with
 |nil=>cases Fn h;exact FR
 |cons e es=>exact bA h fun h1 h2=>UR (P:=fun es=>WA c (r+1) env (e::es) (tst C m)) h1 (FQ (H Vv h2).2)
theorem Yy{it':Expr}(h:YP it'=true){env:Nv}:∀x,foldedSetIterable it' env x=pure x:=by
 cases it'<;>first|exact fun J=>rfl|exact ff h
theorem Vs(O:c.Ok){x}(H:PE c r C m)(H2:PE c r C ma)(H3:PE c r C mb):PE c r C (.comp m x ma mb):=fun {e env kn} Vv h=>DX (show YD e (fun elt' y it' ifs sc=>y==c.nm x&&(WT c sc kn x&&(JH c kn ma it'&&(JH c (WC sc kn) m elt'&&KQ (YE mb) (fun e=>JH c (WC sc kn) mb e) ifs))))=true from h) fun elt y yp it ifs sc p h0 h=>aA h fun h1 h2 h3 h=>bA h fun h4 h5=>
 sE (P:=fun y=>JS c (r+1) env (.ListComp elt [⟨.Name y yp,it,ifs,0⟩] sc p) C (.comp m x ma mb)) h1 (by
  obtain⟨cl,S,en⟩:=Kr O Vv h2;exact .plain (Mx O Vv.ok (Yy h0) S (H2 Vv h3).1 (fun L VV=>(H (en L VV) h4).1) fun L VV=>Gb (en L VV) H3 h5) rfl)
theorem Vr(H:PE c r C m)(H2:PEs c r C as):PEs c r C (m::as):=fun {es env kn} Vv h=>by
 cases es with
 |nil=>exact ff h
 |cons e es=>exact bA h fun h1 h2=>.cons (H Vv h1).1 (H2 Vv h2)
theorem ZB6:PEs c r C []:=fun {es env kn} Vv h=>UR (P:=fun es=>EvAll c (r+1) env C es []) h .nil
theorem Jc(O:c.Ok)(HC:JK c r C)(m):PE c r C m:=
 ME.rec (motive_1:=PE c r C) (motive_2:=PEs c r C) (fun J {J J J} J h=>PJ h) (fun J=>ZCA O) (fun J=>Vq O) (fun J J J=>Vw O) (fun J J J J=>ZDU O) (fun J J J J=>ZCJ O) (fun J J=>Vu HC) (fun J J J J J=>PM O HC) (fun J J J J=>PN O HC)
  (fun J J J J=>ZB7 O HC) (fun J J=>ZDV O) (fun J J J=>ZDR) (fun J J=>ZCL) (fun J J H J=>ZB4 H) (fun J J J=>ZCI) (fun J J J J J=>Vt) (fun J J J=>ZCK) (fun J=>ZB8) (fun J=>ZB5) (fun J J=>ZCM) (fun J J=>ZDT) (fun J J J=>ZCB) (fun J J=>ZB3) (fun J J J=>ZDS)
  (fun J J=>ZB9) (fun J=>ZB2) (fun J J J=>ZCH O) (fun J J J J=>Vs O) (fun J=>ZCC O) (fun J J J=>ZCG O) (fun J J J J=>ZCF O HC) (fun J J J=>ZCE O HC) (fun J J J=>ZCD O) ZB6 (fun J J=>Vr) m
end
section
variable{c:Cx}{r:Nat}{env fC:Nv}{A:Around}{U U' U1a U2a:St}{g eu fB:Gh}{s s' ek em:Shared}{E:Value->Shared->Prop}{Q:Flow->Shared->Prop}{v w:Vv}{C:Ora}
noncomputable abbrev fsL(env:Nv):List Addr:=env.fs.filterMap (·.frame)
theorem ZBY(R:Rel c env g U s){h}(hb:(hideAll s.heap (fsL env)).StaysIn h)(hu:s.heap.UpToSlots h):Rel c env g U { s with heap:=h }/\Ext env g g s { s with heap:=h }:=by
 have hx:∀a o,¬Fs env a->s.heap.get? a=some o->h.get? a=some o:=fun a o n e=>hb a o (hideAll_get _ e n)
 have hs:∀a,Fs env a->Sl a s.heap h:=fun a q o e=>hu a o e ((R.frd a q).elim fun o' z=>by cases e.symm.trans z.1;exact z.2)
 have hl:∀a,Sl a s.heap h:=fun a=>ay (hs a) fun n=>.of fun o=>hx a o n
 exact⟨⟨R.toRel0.carry (fun a o z=>⟨hx a o (fun q=>z.2.2.2 (.inr q)) z.1,z.2⟩) (fun a o w e=>hx a o (fun q=>(R.dis a w).2 (.inr q)) e) (fun m hm=>hm.sl (hl _)) (fun a J x=>x.sl (hl a)) rfl rfl
  (fun a x=>(R.xob a x).elim fun o e=>(hl a o e).elim fun J e=>⟨_,e⟩) (fun a x w=>(R.dis a w).1 x),R.pos⟩,fun a o e w f=>⟨hx a o (fun q=>f (.inr q)) e,w⟩,fun a q J=>hs a q,fun J J e=>e,rfl,rfl⟩
theorem Cy{h base}:∀{l:List Env},(∀x∈l,x.scope.kind≠.module/\∃L,x.frame=some L)->(∀a∈l.filterMap (·.frame),base.get? a=none/\Frd a h)->h.FunFrames base l:=by
 intro l;induction l with
 |nil=>exact fun J J=>trivial
 |cons x l ih=>
  intro h1 h2;obtain⟨hk,L,hf⟩:=h1 x (.head _);rw[bc,hf] at h2;obtain⟨k1,o,k2,k3⟩:=h2 L (.head _);exact⟨hk,⟨L,o,hf,k1,k2,k3⟩,ih (fun y hy=>h1 y (.tail _ hy)) fun a ha=>h2 a (.tail _ ha)⟩
theorem UV.trans{E:Value->Shared->Prop}(N:UV c env g s U' E)(x:Ext env g eu s ek):UV c env eu ek U' E:=fun e base em h F=>
 N e base em h ⟨fun h' k1 k2=>(F.back h' k1 k2).imp fun J z=>⟨z.1,x.trans z.2⟩,F.fly,F.up⟩
theorem ZBd(O:c.Ok)(VV:EnvOk env){fK pos e e' n f me z}{Q:Value->Shared->Prop}(hc:Jv e=true)(hs:[e'].all Ja=true)(hl:(fK.endLine==pos.line)=true)
  (hn:UM c c.iD n f=true) (hI:c.I≠[]) (hv:JA c.I n=none) (hf:1000<=f) (HC:JK c r C) (H:JE c r env e (ev C (.glob (.fn 0)))) (H2:JE c r env e' (ev C me)) (hr:JM env A r)
  (h1:ev C me U=some (z,U1a)) (h2:C f [xM,.fn 0,z] U1a=some (w,U2a)) (R:Rel c env g U s) (N:UV c env g s U2a E):wpAny c.M A (eval (.Call (.Attribute e (c.nm n) fK) [e'] [] pos) env) Q E s:=
 UZ hc hs hl (cL (by decide):1<25) (H hr rfl R fun x ek eu ew ez e6 pl=>ez.fnE (by
  cases Za O ew hI with
  |mk o es k D he hfs I=>
   exact aA hn fun q1 q2 q3 J=>method_fn ew.kinD I D.ga D.gt (bE q1) (bE q2) (by show (PySem.W.lookIn _ _).map _=_;rw[hfs.lookIn_none O hv];rfl)
    (KZ q3 (DK (mes:=[]) H2 GU hr (show bn (ev C me U) (fun v U=>bn (evs C [] U) fun vs τ=>some (v::vs,τ))=some ([z],U1a) by rw[h1];rfl) ew fun xs em fB fE fP fH=>
     ⟨fE.kinD,ZM (HC hr VV h2 fE (.inr ⟨_,hf,rfl,.cons (.fn 0) fP,N.trans (e6.trans fH)⟩))⟩))))
theorem Ld{x e}(h:e.frame=env.frame):noteFrame x env=noteFrame x e:=by unfold noteFrame PySem.frameOf;rw[h]
theorem SN:isSubtype (.type "KeyError") (.type "BaseException")=pure true:=by rw[isSubtype_type];kernel_rfl
theorem Vo(O:c.Ok)(VV:EnvOk env)(hr:JM env A r){n y yp np hp hpos cp ck e base h hs}(hk:env.kindOf y=some .globalImplicit)(hd:(y==("__debug__":Str))=false)(hb:J4 c y (.type "KeyError")=true)
  (hn:env.kindOf (c.nm n)=some .local) (F:Fly c env g s U2a e base em h) (N:∀s' g',Rel c env g' (U2a.setLoc n .none) s'->Ext env g g' s s'->Q .next s'):
  wpAny c.M A (noteFrame (.ref e) env) (fun J em=>wpAny c.M A (setFlight (.ref e) none) (fun J fO=>wpAny c.M A (handleBy (.ref e) env (.ExceptHandler (some (.Name y yp)) none [.Assign [.Name (c.nm n) np] (.Constant .none ck cp) hp] hpos::hs)) Q E fO) E em) E { em with heap:=h }:=by
 obtain⟨e0,l,ht,hf⟩:=VV.top;obtain⟨_,L,hL⟩:=VV.frs e0 (ht▸.head _);obtain⟨a0,fly⟩:=F.fly;have hA:A.frames=some (e0::l):=ht▸hr.2.2.2;rw[Ld hf];refine wpAny_looks_onW (s:={ em with heap:=h }) hA hL (ht▸fly) fun h4a held up4=>wpAny_landsW held fun h5a fly5 up5=>?_
 obtain⟨g5a,R5a,E5a⟩:=F.back h5a fly5.1 (F.up.trans (up4.trans up5));obtain⟨ob,hob,hoc⟩:=fly5.there;refine wpAny_handleBy_builtin (X:="KeyError") (T:="KeyError") (b:=true) SN (by
  rw[show ((Manifest.find? "KeyError").elim "type" fun x=>x.metatype)="type" from by kernel_rfl,isSubtype_type];kernel_rfl) excClass_KeyError.self
  (a3 VV.kind hk (UW O VV hb R5a ⟨rfl,⟨ob,hob,hoc⟩,?_⟩) hd)
 rw[aR rfl];refine lands_againW fly5 fun h6a fly6 up6=>?_
 obtain⟨g6a,R6a,E6a⟩:=F.back h6a fly6.1 (F.up.trans (up4.trans (up5.trans up6)));exact qX (eC (qC (Ux O VV hn R6a .none fun s7 R7a E7a=>cu (N s7 g6a R7a (E6a.trans E7a)))) (WR rfl))
end
section
variable{s:Stmt}{P:Stmt->Prop}
def OB(s:Stmt)(k:Expr->Bool):Bool:=ctq fun h=>Stmt.Expr.elim (motive_2:=fun J=>Bool) s h fun e J=>k e
@[elab_as_elim] theorem F8{k}(h:OB s k=true)(f:∀e p,k e=true->P (.Expr e p)):P s:=Jd h fun q=>Stmt.Expr.elim (motive_2:=fun s=>OB s k=true->P s) s q (fun J J h=>f _ _ h) h
def Up(s:Stmt)(k:Expr->Expr->Bool):Bool:=ctq fun h=>Stmt.Assign.elim (motive_2:=fun J=>Bool) s h fun ts e J=>l1 ts fun t=>k t e
@[elab_as_elim] theorem Wa{k}(h:Up s k=true)(f:∀t e p,k t e=true->P (.Assign [t] e p)):P s:=
 Jd h fun q=>Stmt.Assign.elim (motive_2:=fun s=>Up s k=true->P s) s q (fun J J J h=>QZ (P:=fun ts=>P (.Assign ts _ _)) h fun t h=>f _ _ _ h) h
def Yb(s:Stmt)(k:Expr->Operator->Expr->Bool):Bool:=ctq fun h=>Stmt.AugAssign.elim (motive_2:=fun J=>Bool) s h fun t o e J=>k t o e
@[elab_as_elim] theorem NV{k}(h:Yb s k=true)(f:∀t o e p,k t o e=true->P (.AugAssign t o e p)):P s:=Jd h fun q=>Stmt.AugAssign.elim (motive_2:=fun s=>Yb s k=true->P s) s q (fun J J J J h=>f _ _ _ _ h) h
def sIf(s:Stmt)(k:Expr->List Stmt->List Stmt->Bool):Bool:=ctq fun h=>Stmt.If.elim (motive_2:=fun J=>Bool) s h fun t b o J=>k t b o
@[elab_as_elim] theorem ZAf{k}(h:sIf s k=true)(f:∀t b o p,k t b o=true->P (.If t b o p)):P s:=Jd h fun q=>Stmt.If.elim (motive_2:=fun s=>sIf s k=true->P s) s q (fun J J J J h=>f _ _ _ _ h) h
def Oi(s:Stmt)(k:Expr->List Stmt->Bool):Bool:=ctq fun h=>Stmt.While.elim (motive_2:=fun J=>Bool) s h fun t b o J=>o.isEmpty&&k t b
@[elab_as_elim] theorem P5{k}(h:Oi s k=true)(f:∀t b p,k t b=true->P (.While t b [] p)):P s:=
 Jd h fun q=>Stmt.While.elim (motive_2:=fun s=>Oi s k=true->P s) s q (fun J J J J h=>bA h fun h1 h2=>UR (P:=fun o=>P (.While _ _ o _)) h1 (f _ _ _ h2)) h
def KB(s:Stmt)(k:Expr->Expr->List Stmt->Bool):Bool:=ctq fun h=>Stmt.For.elim (motive_2:=fun J=>Bool) s h fun t i b o J=>o.isEmpty&&k t i b
@[elab_as_elim] theorem G0{k}(h:KB s k=true)(f:∀t i b p,k t i b=true->P (.For t i b [] p)):P s:=
 Jd h fun q=>Stmt.For.elim (motive_2:=fun s=>KB s k=true->P s) s q (fun J J J J J h=>bA h fun h1 h2=>UR (P:=fun o=>P (.For _ _ _ o _)) h1 (f _ _ _ _ h2)) h
def Ol(s:Stmt)(k:Option Expr->Bool):Bool:=ctq fun h=>Stmt.Return.elim (motive_2:=fun J=>Bool) s h fun v J=>k v
@[elab_as_elim] theorem P7{k}(h:Ol s k=true)(f:∀v p,k v=true->P (.Return v p)):P s:=Jd h fun q=>Stmt.Return.elim (motive_2:=fun s=>Ol s k=true->P s) s q (fun J J h=>f _ _ h) h
def OC(s:Stmt)(k:Expr->Bool):Bool:=ctq fun h=>Stmt.Assert.elim (motive_2:=fun J=>Bool) s h fun t m J=>m.isNone&&k t
@[elab_as_elim] theorem F9{k}(h:OC s k=true)(f:∀t p,k t=true->P (.Assert t none p)):P s:=by
 refine Jd h fun q=>Stmt.Assert.elim (motive_2:=fun s=>OC s k=true->P s) s q (fun t m p h=>?_) h
 cases m
 ·exact f _ _ h
 ·exact ff h
def Oj(s:Stmt)(k:List Stmt->Bool):Bool:=ctq fun h=>Stmt.Try.elim (motive_2:=fun J=>Bool) s h fun b hs oe fb J=>!hs.isEmpty&&(oe.isEmpty&&(fb.isEmpty&&k b))
@[elab_as_elim] theorem P6{k}(h:Oj s k=true)(f:∀b h hs p,k b=true->P (.Try b (h::hs) [] [] p)):P s:=
 Jd h fun q=>Stmt.Try.elim (motive_2:=fun s=>Oj s k=true->P s) s q (fun b hs oe fb p h=>aA h fun h1 h2 h3 h=>by
  cases a6.mp h2;cases a6.mp h3;cases hs with
  |nil=>exact ff h1
  |cons a l=>exact f _ _ _ _ h) h
noncomputable def Il(h:ExceptHandler)(k:Expr->List Stmt->Bool):Bool:=match h with
 |.ExceptHandler t n b _=>n.isNone&&(match t with
  |some t=>k t b
  |none=>false)
@[elab_as_elim] theorem PV{h}{P:ExceptHandler->Prop}{k}(q:Il h k=true)(f:∀t b p,k t b=true->P (.ExceptHandler (some t) none b p)):P h:=by
 cases h with
 |ExceptHandler t n b p=>
  refine bA q fun h1 h2=>?_
  cases bD.mp h1;cases t
  ·exact ff h2
  ·exact f _ _ _ h2
def OA(s:Stmt)(k:List Stmt->Expr->List Stmt->Bool):Bool:=ctq fun h=>Stmt.Try.elim (motive_2:=fun J=>Bool) s h fun b hs oe fb J=>oe.isEmpty&&(fb.isEmpty&&l1 hs fun h=>Il h (k b))
@[elab_as_elim] theorem F7{k}(h:OA s k=true)(f:∀b t hb hp p,k b t hb=true->P (.Try b [.ExceptHandler (some t) none hb hp] [] [] p)):P s:=
 Jd h fun q=>Stmt.Try.elim (motive_2:=fun s=>OA s k=true->P s) s q (fun b hs oe fb p h=>aB h fun h2 h3 h=>by
  cases a6.mp h2;cases a6.mp h3;exact QZ (P:=fun hs=>P (.Try b hs [] [] p)) h fun x h=>PV (P:=fun x=>P (.Try b [x] [] [] p)) h fun t hb hp h=>f _ _ _ _ _ h) h
noncomputable def hdS(b:List Stmt)(k:Stmt->Bool):Bool:=match b with
 |s::_=>k s
 |[]=>false
def Hu(s:Stmt):Bool:=ctq fun h=>Stmt.Pass.elim (motive_2:=fun J=>Bool) s h fun J=>true
def Iw(s:Stmt):Bool:=ctq fun h=>Stmt.Break.elim (motive_2:=fun J=>Bool) s h fun J=>true
def Hv(s:Stmt):Bool:=ctq fun h=>Stmt.Continue.elim (motive_2:=fun J=>Bool) s h fun J=>true
end
mutual
noncomputable def JU(c:Cx)(kn:Str->Option NameKind):MS->Stmt->Bool
 |.ex e=>fun s=>OB s fun e'=>QB e'&&JH c kn e e'
 |.asg n e=>fun s=>Up s fun t e'=>Xy t fun y np=>y==c.nm n&&((kn y==some .local)&&((QB e'||(HI e&&XS y np e'))&&JH c kn e e'))
 |.asgA t n D e=>fun s=>Up s fun u e'=>UD u fun t' a J=>a==c.nm n&&(QD c D n&&(QB e'&&(JH c kn e e'&&JH c kn t t')))
 |.asgS t i e=>fun s=>Up s fun u e'=>XP u fun t' i'=>QB e'&&(JH c kn e e'&&(JH c kn t t'&&JH c kn i i'))
 |.asgT ns e=>fun s=>Up s fun u e'=>XO u fun es=>QB e'&&(YO e'&&(Zv c kn es ns&&JH c kn e e'))
 |.asgTA t1a n1a D1a t2a n2a D2a e=>fun s=>Up s fun u e'=>XO u fun es=>l2 es fun u1a u2a=>UD u1a fun t1' a1a J=>UD u2a fun t2' a2a J=>
  a1a==c.nm n1a&&(a2a==c.nm n2a&&(QD c D1a n1a&&(QD c D2a n2a&&(QB e'&&(YO e'&&(JH c kn e e'&&(JH c kn t1a t1'&&JH c kn t2a t2')))))))
 |.augN n o e=>fun s=>Yb s fun u o' e'=>Q1 u fun y=>y==c.nm n&&((kn y==some .local)&&(Z9 o' o&&JH c kn e e'))
 |.augA t n D o e=>fun s=>Yb s fun u o' e'=>UD u fun t' a J=>a==c.nm n&&(QD c D n&&(Z9 o' o&&(JH c kn t t'&&JH c kn e e')))
 |.augS t i o e=>fun s=>Yb s fun u o' e'=>XP u fun t' i'=>ND i'&&(Z9 o' o&&(JH c kn t t'&&(JH c kn i i'&&JH c kn e e')))
 |.iff t b o=>fun s=>sIf s fun t' b' o'=>JH c kn t t'&&(chkSs c kn b b'&&chkSs c kn o o')
 |.whl t b=>fun s=>Oi s fun t' b'=>JH c kn t t'&&chkSs c kn b b'
 |.for x it b=>fun s=>KB s fun u it' b'=>Q1 u fun y=>y==c.nm x&&((kn y==some .local)&&(YP it'&&(JH c kn it it'&&chkSs c kn b b')))
 |.forT ns it b=>fun s=>KB s fun u it' b'=>XO u fun es=>Zv c kn es ns&&(YP it'&&(JH c kn it it'&&chkSs c kn b b'))
 |.ret e=>fun s=>Ol s (KP (YN e) fun x=>JH c kn e x)
 |.pass=>Hu
 |.brk=>Iw
 |.cont=>Hv
 |.asrt e=>fun s=>OC s fun e'=>JH c kn e e'
 |.dead=>fun J=>true
 |.tryS b=>fun s=>Oj s fun b'=>chkSs c kn b b'
 |.isx _=>fun J=>false
 |.tryK n k f e b=>fun s=>OA s fun b' t hb=>chkSs c kn b b'&&((Q1 t fun y=>(kn y==some .globalImplicit)&&(dbg y&&J4 c y (.type "KeyError")))&&((l1 hb fun s'=>Up s' fun u e'=>(Xy u fun y J=>y==c.nm n&&(kn y==some .local))&&XD e' ON) &&
  hdS b' fun s1=>Up s1 fun u x=>Xy u (fun J J=>true)&&(QB x&&U4 x fun g a es=>a==c.nm k&&(Nat.ble 1000 f&&(UM c c.iD k f&&(!c.I.isEmpty&&((JA c.I k).isNone&&(JH c kn (.glob (.fn 0)) g&&l1 es fun e'=>JH c kn e e'))))))))
noncomputable def chkSs(c:Cx)(kn:Str->Option NameKind):List MS->List Stmt->Bool
 |[]=>fun ss=>ss.isEmpty
 |m::ms=>fun ss=>match ss with
  |[]=>false
  |s::ss=>JU c kn m s&&chkSs c kn ms ss
end
def PS(c:Cx)(r:Nat)(C:Ora)(m:MS):Prop:=∀{s:Stmt} {env:Nv} {kn:Str->Option NameKind},En env kn->JU c kn m s=true->JQ c (r+1) env s (exc C m)
def PSs(c:Cx)(r:Nat)(C:Ora)(ms:List MS):Prop:=∀{ss:List Stmt} {env:Nv} {kn:Str->Option NameKind},En env kn->chkSs c kn ms ss=true->Qv c (r+1) env ss (exs C ms)
section
variable{c:Cx}{r:Nat}{C:Ora}{m mt mi mt2:ME}{b b2:List MS}{n D n2 D2:Nat}{o:Bop}
theorem D6{env}(VV:EnvOk env):interactive env=false:=by unfold interactive;rw[VV.kind];rfl
theorem ZCc(O:c.Ok)(HC:JK c r C):PS c r C (.ex m):=fun Vv h=>F8 h fun e p h=>bA h fun h1 h2=>ZBa (D6 Vv.ok) h1 (Jc O HC m Vv h2).1
theorem Ak(O:c.Ok)(HC:JK c r C){me mi mc x n e env kn}(Vv:En env kn){np pos}(hk:env.kindOf (c.nm n)=some .local)
  (hs:XS (c.nm n) np e=true) (h:JH c kn (.comp me x mi mc) e=true):JQ c (r+1) env (.Assign [.Name (c.nm n) np] e pos) (exc C (.asg n (.comp me x mi mc))):=
 DX (P:=fun e=>XS (c.nm n) np e=true->JQ c (r+1) env (.Assign [.Name (c.nm n) np] e pos) (exc C (.asg n (.comp me x mi mc))))
  (show YD e (fun elt' y it' ifs sc=>y==c.nm x&&(WT c sc kn x&&(JH c kn mi it'&&(JH c (WC sc kn) me elt'&&KQ (YE mc) (fun e=>JH c (WC sc kn) mc e) ifs))))=true from h)
  (fun elt y yp it ifs sc p h0 h=>aA h fun h1 h2 h3 h=>bA h fun h4 h5 hs=>sE (P:=fun y=>JQ c (r+1) env (.Assign [.Name (c.nm n) np] (.ListComp elt [⟨.Name y yp,it,ifs,0⟩] sc p) pos) (exc C (.asg n (.comp me x mi mc)))) h1 (by
   obtain⟨cl,S,en⟩:=Kr O Vv h2;have hsw:swapsWith (.ListComp elt [⟨.Name (c.nm x) yp,it,ifs,0⟩] sc p) (some (.Name (c.nm n) np)) pos.line env=pure true:=by
    show (pure (env.blockKind==.function&&env.kindOf (c.nm n)==some .local&&np.line==p.line&&!(sc.names.any fun (a,k)=>a==c.nm n&&(k==.local||k==.cell))):Sem Bool)=pure true
    have hb:(env.blockKind==ScopeKind.function)=true:=by unfold Env.blockKind;rw[Vv.ok.kind];rfl
    exact bA hs fun h1 h2=>by rw[hb,hk,h1,h2];rfl
   exact Mn O Vv.ok (Yy h0) S hk hsw (Jc O HC mi Vv h3).1 (fun L VV=>(Jc O HC me (en L VV) h4).1) (fun L VV=>Gb (en L VV) (Jc O HC mc) h5))) hs
theorem Eg{P:ME->Prop}{m}(h:HI m=true)(k:∀me x mi mc,P (.comp me x mi mc)):P m:=IB h (fun J h=>ff h) fun J J J J J=>k _ _ _ _
theorem ZAe(O:c.Ok)(HC:JK c r C):PS c r C (.asg n m):=fun {s env kn} Vv h=>Wa h fun u e p h=>Ko (P:=fun u=>JQ c (r+1) env (.Assign [u] e p) (exc C (.asg n m))) h fun y np h=>aA h fun h1 h2 h3 h4=>by
 cases aV.mp h1;exact bO h3 (fun h3=>Sh O Vv.ok ((Vv.kn _).trans (kE h2)) h3 (Jc O HC m Vv h4).1) fun h3=>bA h3 fun h3 h5=>
  Eg (P:=fun m=>JH c kn m e=true->JQ c (r+1) env (.Assign [.Name (c.nm n) np] e p) (exc C (.asg n m))) h3 (fun J J J J h4=>Ak O HC Vv ((Vv.kn _).trans (kE h2)) h5 h4) h4
theorem P4(O:c.Ok)(HC:JK c r C):PS c r C (.asgA mt n D m):=fun {s env kn} Vv h=>Wa h fun u e p h=>Ua (P:=fun u=>JQ c (r+1) env (.Assign [u] e p) (exc C (.asgA mt n D m))) h fun t a q h=>aD h fun h1 h2 h3 h4 h5=>by
 cases aV.mp h1;exact Mo O h2 h3 (Jc O HC m Vv h4).1 (Jc O HC mt Vv h5).1
theorem P3(O:c.Ok)(HC:JK c r C):PS c r C (.asgS mt mi m):=fun {s env kn} Vv h=>Wa h fun u e p h=>ZR (P:=fun u=>JQ c (r+1) env (.Assign [u] e p) (exc C (.asgS mt mi m))) h fun t i q h=>aB h fun h1 h2 h=>bA h fun h3 h4=>
 Mm h1 (Jc O HC m Vv h2).1 (Jc O HC mt Vv h3).1 (Jc O HC mi Vv h4).1
theorem P2(O:c.Ok)(HC:JK c r C){ns}:PS c r C (.asgT ns m):=fun {s env kn} Vv h=>Wa h fun u e p h=>ZQ (P:=fun u=>JQ c (r+1) env (.Assign [u] e p) (exc C (.asgT ns m))) h fun es k q h=>aB h fun h1 h2 h=>bA h fun h3 h4=>
 Ml O Vv.ok h1 h2 (B8 Vv.kn h3) (Jc O HC m Vv h4).1
theorem F6(O:c.Ok)(HC:JK c r C):PS c r C (.asgTA mt n D mt2 n2 D2 m):=fun {s env kn} Vv h=>Wa h fun u e p h=>ZQ (P:=fun u=>JQ c (r+1) env (.Assign [u] e p) (exc C (.asgTA mt n D mt2 n2 D2 m))) h fun es k q h=>
 Xf (P:=fun es=>JQ c (r+1) env (.Assign [.Tuple es k q] e p) (exc C (.asgTA mt n D mt2 n2 D2 m))) h fun u1a u2a h=>Ua (P:=fun u1a=>JQ c (r+1) env (.Assign [.Tuple [u1a,u2a] k q] e p) (exc C (.asgTA mt n D mt2 n2 D2 m))) h fun t a q1 h=>
 Ua (P:=fun u2a=>JQ c (r+1) env (.Assign [.Tuple [.Attribute t a q1,u2a] k q] e p) (exc C (.asgTA mt n D mt2 n2 D2 m))) h fun t2 a2 q2 h=>aF h fun h1 h1' h2 h3 h4 h5 h6 h7 h8=>by
 cases aV.mp h1;cases aV.mp h1';exact Ez O h2 h3 h4 h5 (Jc O HC m Vv h6).1 (Jc O HC mt Vv h7).1 (Jc O HC mt2 Vv h8).1
theorem Pz(O:c.Ok)(HC:JK c r C):PS c r C (.augN n o m):=fun {s env kn} Vv h=>NV h fun u o' e p h=>UH (P:=fun u=>JQ c (r+1) env (.AugAssign u o' e p) (exc C (.augN n o m))) h fun y q h=>aA h fun h1 h2 h3 h4=>by
 cases aV.mp h1;obtain⟨rfl,ho⟩:=K3 h3;exact Mi O Vv.ok ((Vv.kn _).trans (kE h2)) ho (Jc O HC m Vv h4).1
theorem P0(O:c.Ok)(HC:JK c r C):PS c r C (.augA mt n D o m):=fun {s env kn} Vv h=>NV h fun u o' e p h=>Ua (P:=fun u=>JQ c (r+1) env (.AugAssign u o' e p) (exc C (.augA mt n D o m))) h fun t a q h=>aD h fun h1 h2 h3 h4 h5=>by
 cases aV.mp h1;obtain⟨rfl,ho⟩:=K3 h3;exact Mj O h2 ho (Jc O HC mt Vv h4).1 (Jc O HC m Vv h5).1
theorem Py(O:c.Ok)(HC:JK c r C):PS c r C (.augS mt mi o m):=fun {s env kn} Vv h=>NV h fun u o' e p h=>ZR (P:=fun u=>JQ c (r+1) env (.AugAssign u o' e p) (exc C (.augS mt mi o m))) h fun t i q h=>aD h fun h1 h2 h3 h4 h5=>by
 obtain⟨rfl,ho⟩:=K3 h2;exact Mh h1 ho (Jc O HC mt Vv h3).1 (Jc O HC mi Vv h4).1 (Jc O HC m Vv h5).1
theorem ZAa(O:c.Ok)(HC:JK c r C)(H:PSs c r C b)(H2:PSs c r C b2):PS c r C (.iff mt b b2):=fun Vv h=>ZAf h fun t b o p h=>aB h fun h1 h2 h3=>Sd (Jc O HC mt Vv h1).2 (H Vv h2) (H2 Vv h3)
theorem ZAW(O:c.Ok)(HC:JK c r C)(H:PSs c r C b):PS c r C (.whl mt b):=fun Vv h=>P5 h fun t b p h=>bA h fun h1 h2=>Sb (Jc O HC mt Vv h1).2 (H Vv h2)
theorem ZAb(O:c.Ok)(HC:JK c r C)(H:PSs c r C b):PS c r C (.for n mi b):=fun {s env kn} Vv h=>G0 h fun u i bb p h=>UH (P:=fun u=>JQ c (r+1) env (.For u i bb [] p) (exc C (.for n mi b))) h fun y q h=>aD h fun h1 h2 h3 h4 h5=>by
 cases aV.mp h1;exact Sf O Vv.ok ((Vv.kn _).trans (kE h2)) (Yy h3) (Jc O HC mi Vv h4).1 (H Vv h5)
theorem Pu(O:c.Ok)(HC:JK c r C){ns}(H:PSs c r C b):PS c r C (.forT ns mi b):=fun {s env kn} Vv h=>G0 h fun u i bb p h=>ZQ (P:=fun u=>JQ c (r+1) env (.For u i bb [] p) (exc C (.forT ns mi b))) h fun es k tp h=>aB h fun h1 h2 h=>bA h fun h3 h4=>
 Mf O Vv.ok (B8 Vv.kn h1) (Yy h2) (Jc O HC mi Vv h3).1 (H Vv h4)
theorem ZAY(O:c.Ok)(HC:JK c r C):PS c r C (.ret m):=fun Vv h=>P7 h fun v p h=>by
 cases v with
 |none=>cases D5 h;exact Md
 |some e=>exact Sc (Jc O HC m Vv h).1
theorem Pt:PS c r C .pass:=fun {s env kn} Vv h=>Jd (show ctq _=true from (h:Hu s=true)) fun q=>Stmt.Pass.elim (motive_2:=fun s=>JQ c (r+1) env s (exc C .pass)) s q fun J=>Me
theorem ZAd:PS c r C .brk:=fun {s env kn} Vv h=>Jd (show ctq _=true from (h:Iw s=true)) fun q=>Stmt.Break.elim (motive_2:=fun s=>JQ c (r+1) env s (exc C .brk)) s q fun J=>Sg
theorem Px:PS c r C .cont:=fun {s env kn} Vv h=>Jd (show ctq _=true from (h:Hv s=true)) fun q=>Stmt.Continue.elim (motive_2:=fun s=>JQ c (r+1) env s (exc C .cont)) s q fun J=>Mg
theorem P1(O:c.Ok)(HC:JK c r C):PS c r C (.asrt m):=fun Vv h=>F9 h fun t p h=>Mk (Jc O HC m Vv h).2
theorem Pw:PS c r C .dead:=fun {s env kn} Vv h J J J J J J J J hr hf R N=>nn hf
theorem HV{b' h' hs p env}(H:Qv c r env b' (exs C b)):JQ c r env (.Try b' (h'::hs) [] [] p) (exs C b):=fun J J fl J J J J J hr hf R N=>wpAny_Try_except (H hr hf R fun w s' g' R' X' E'=>by
 cases fl with
 |next=>cases X';exact cu (N.nxt R' E')
 |brk=>cases X';exact N _ _ _ R' rfl E'
 |cont=>cases X';exact N _ _ _ R' rfl E'
 |ret v=>obtain⟨y,rfl,hy⟩:=X';exact N _ _ _ R' ⟨y,rfl,hy⟩ E')
theorem ZAX(H:PSs c r C b):PS c r C (.tryS b):=fun Vv h=>P6 h fun b' x hs p h=>HV (H Vv h)
theorem ZAZ{d}:PS c r C (.isx d):=fun Vv h=>ff h
theorem Ps(O:c.Ok)(HC:JK c r C){n k f e}(H:PSs c r C b):PS c r C (.tryK n k f e b):=fun {s env kn} Vv h=>F7 h fun b' t hb hp p h=>aA h fun h1 h2 h3 h4=>UH (P:=fun t=>JQ c (r+1) env (.Try b' [.ExceptHandler (some t) none hb hp] [] [] p) (exc C (.tryK n k f e b))) h2 fun y yp h2=>aE h2 fun q1 h2=>bA h2 fun q2 q3=>
 QZ (P:=fun hb=>JQ c (r+1) env (.Try b' [.ExceptHandler (some (.Name y yp)) none hb hp] [] [] p) (exc C (.tryK n k f e b))) h3 fun s' h3=>Wa (P:=fun s'=>JQ c (r+1) env (.Try b' [.ExceptHandler (some (.Name y yp)) none [s'] hp] [] [] p) (exc C (.tryK n k f e b))) h3 fun u x sp h3=>bA h3 fun h3 h5=>
  Ko (P:=fun u=>JQ c (r+1) env (.Try b' [.ExceptHandler (some (.Name y yp)) none [.Assign [u] x sp] hp] [] [] p) (exc C (.tryK n k f e b))) h3 fun y' np h3=>bA h3 fun h6 h7=>Ys (P:=fun x=>JQ c (r+1) env (.Try b' [.ExceptHandler (some (.Name y yp)) none [.Assign [.Name y' np] x sp] hp] [] [] p) (exc C (.tryK n k f e b))) h5 fun v ck cp h5=>by
   cases GF h5;cases aV.mp h6;intro A U fl U' g s E Q hr hf R N;refine bnE hf fun v U1a k1 hf=>Ql (P:=fun v=>ev C e U=some (v,U1a)->_) hf (fun z hf k1=>?_) k1
   cases hz:z.isEmpty with
   |false=>rw[hz] at hf;exact HV (H Vv h1) hr hf R N
   |true=>
    rw[hz] at hf;refine bnE (show bn (C f [xM,.fn 0,.str z] U1a) (fun w U2a=>gd (ZC w) (some (.next,U2a.setLoc n .none)))=some (fl,U') from hf) fun w U2a k2 hf=>gdE hf fun J e3=>?_
    cases b' with
    |nil=>exact ff h4
    |cons s1 bs=>
     exact Wa (P:=fun s1=>wpAny c.M A (exec (.Try (s1::bs) _ [] [] p) env) Q E s) h4 fun u1 x1 p1 h4=>aB h4 fun m1 m2 h4=>Ko (P:=fun u1=>wpAny c.M A (exec (.Try (.Assign [u1] x1 p1::bs) _ [] [] p) env) Q E s) m1 fun y1 np1 J=>
      WQ (P:=fun x1=>QB x1=true->wpAny c.M A (exec (.Try (.Assign [.Name y1 np1] x1 p1::bs) _ [] [] p) env) Q E s) h4 (fun g' a ap es cp' k3 k4 k5 k6 h4 m2=>aC h4 fun n1 n0 n2 n3 n4 h4=>bA h4 fun n5 n6=>
       QZ (P:=fun es=>es.all Ja=true->QB (.Call (.Attribute g' a ap) es [] cp')=true->wpAny c.M A (exec (.Try (.Assign [.Name y1 np1] (.Call (.Attribute g' a ap) es [] cp') p1::bs) _ [] [] p) env) Q E s) n6 (fun e' n6 k4 m2=>
        sE (P:=fun a=>QB (.Call (.Attribute g' a ap) [e'] [] cp')=true->wpAny c.M A (exec (.Try (.Assign [.Name y1 np1] (.Call (.Attribute g' a ap) [e'] [] cp') p1::bs) _ [] [] p) env) Q E s) n1 (fun m2=>
         wpAny_Try_except (qX (eC (ZBd O Vv.ok k3 k4 k5 n2 (Zw n3) (bD.mp n4) (qE n0) (HC.up (xC _)) (Jc O HC (.glob (.fn 0)) Vv n5).1 (Jc O HC e Vv n6).1 hr k1 k2 R fun x base em hh F=>
          Vo O Vv.ok hr ((Vv.kn _).trans (kE q1)) (Wh q2) q3 ((Vv.kn _).trans (kE h7)) F fun s7 g7a R7a E7a=>(N.of e3).nxt R7a E7a) (WR m2)))) m2) k4 m2) m2
theorem Gz{m}(H:PS c r C m)(H2:PSs c r C b):PSs c r C (m::b):=fun {ss env kn} Vv h=>by
 cases ss with
 |nil=>exact ff h
 |cons s ss=>exact bA h fun h1 h2=>Ex (H Vv h1) (H2 Vv h2)
theorem Ht:PSs c r C []:=fun {ss env kn} Vv h=>UR (P:=fun ss=>Qv c (r+1) env ss (exs C [])) h Mb
theorem QK(O:c.Ok)(HC:JK c r C)(m):PS c r C m:=
 MS.rec (motive_1:=PS c r C) (motive_2:=PSs c r C) (fun J=>ZCc O HC) (fun J J=>ZAe O HC) (fun J J J J=>P4 O HC) (fun J J J=>P3 O HC) (fun J J=>P2 O HC) (fun J J J J J J J=>F6 O HC) (fun J J J=>Pz O HC) (fun J J J J J=>P0 O HC) (fun J J J J=>Py O HC)
  (fun J J J=>ZAa O HC) (fun J J=>ZAW O HC) (fun J J J=>ZAb O HC) (fun J J J=>Pu O HC) (fun J=>ZAY O HC) Pt ZAd Px (fun J=>P1 O HC) Pw (fun J=>ZAX) (fun J=>ZAZ) (fun J J J J J=>Ps O HC) Ht (fun J J=>Gz) m
theorem FW(O:c.Ok)(HC:JK c r C):∀b,PSs c r C b:=fun l0=>by
 induction l0 with
 |nil=>
  exact Ht
 |cons m b ih=>
  exact Gz (QK O HC m) (ih)
end
end Mine.Tactic
end
noncomputable section
open PySem PySem.Calls PyProof.Rows PySem.W
namespace Mine.Tactic
noncomputable def YQ:List Str->Bool
 |[]=>true
 |x::r=>!(r.any (·==x))&&YQ r
theorem Kw:∀{l:List Str},YQ l=true->l.Nodup:=by
 intro l0;induction l0 with
 |nil=>
  intro _;exact ef
 |cons x r ih=>
  intro h;exact bA h fun h1 h2=>cC.mpr ⟨fun q=>ar ((Xc h1).symm.trans (cg.mpr ⟨x,q,aS x⟩)),ih h2⟩
noncomputable def Zc(o:Obj):Option FuncData:=match o.data with
 |.func fd=>some fd
 |_=>none
theorem DH{o fd}(h:Zc o=some fd):o.data=.func fd:=by
 unfold Zc at h;generalize o.data=d at h;cases d<;>first|exact nn h|(cases h;rfl)
noncomputable def Zg(fd:FuncData):Option (List Stmt):=match fd.body with
 |.stmts b=>some b
 |_=>none
theorem DU{fd b}(h:Zg fd=some b):fd.body=.stmts b:=by
 unfold Zg at h;generalize fd.body=d at h;cases d<;>first|exact nn h|(cases h;rfl)
noncomputable def NY(p:Arguments):Bool:=p.posonlyargs.isEmpty&&(p.vararg.isNone&&(p.kwonlyargs.isEmpty&&(p.kw_defaults.isEmpty&&p.kwarg.isNone)))
theorem B4{p}(h:NY p=true):p=⟨[],p.args,none,[],[],none,p.defaults⟩:=by
 obtain⟨a,b,c,d,e,f,g⟩:=p;refine aD h fun h1 h2 h3 h4 h5=>?_
 show Arguments.mk a b c d e f g=Arguments.mk [] b none [] [] none g;rw[(a6.mp h1:a=[]),(bD.mp h2:c=none),(a6.mp h3:d=[]),(a6.mp h4:e=[]),(bD.mp h5:f=none)]
def ZBu(c:Cx)(m:MFun)(fd:FuncData)(body:List Stmt)(as:List Arg):Bool:=
 codeIn c.K fd.code fd.qualname&&((Ji as==m.ps.map c.nm)&&(YQ (Ji as)&&((fd.scope.kind==.function)&&((fd.scope.isGenerator==false)&&((fd.scope.isCoroutine==false) &&
 ((fd.globals==mainGlobals)&&((fd.builtins==builtinsNs)&&(fd.closure.isEmpty&&(ob (NR c.K fd.defaults) (fun ds=>KN m.ds ds&&Nat.ble ds.length (Ji as).length) &&
 ((Ji as).all (fun x=>fd.scope.names.lookup x==some .local||fd.scope.names.lookup x==some .cell)))))))))))
def ZL(c:Cx)(f:Nat)(m:MFun)(k:(Str->Option NameKind)->List Stmt->Bool):Bool:=ob (c.K.lookup (c.fA f)) fun o=>ob (Zc o) fun fd=>ob (Zg fd) fun body=>NY fd.params&&(ZBu c m fd body fd.params.args&&k (fun x=>fd.scope.names.lookup x) body)
noncomputable def YR:MS->Option Nat
 |.isx d=>some d
 |_=>none
noncomputable def TL:MS->Option ME
 |.ex e=>some e
 |_=>none
def OY(b:List MS):Bool:=l1 b fun m=>match m with
 |.dead=>true
 |_=>false
def rsS:MS->Bool
 |.iff _ b o=>OY b&&o.isEmpty
 |.for _ _ b=>OY b
 |_=>false
def Om(s:Stmt)(k:Expr->Bool):Bool:=ctq fun h=>Stmt.Raise.elim (motive_2:=fun J=>Bool) s h fun x y J=>y.isNone&&ob x k
@[elab_as_elim] theorem P8{s}{P:Stmt->Prop}{k}(h:Om s k=true)(f:∀x p,k x=true->P (.Raise (some x) none p)):P s:=
 Jd h fun q=>Stmt.Raise.elim (motive_2:=fun s=>Om s k=true->P s) s q (fun x y p h=>bA h fun h1 h=>obE h fun x' hx h=>by
  cases hx;cases bD.mp h1;exact f _ _ h) h
def sRs(c:Cx)(kn:Str->Option NameKind)(m:MS)(s:Stmt):Bool:=ob (TL m) fun e=>Om s fun x=>XE x fun y es=>(kn y==some .globalImplicit)&&(dbg y&&(J4 c y (.type "KeyError")&&l1 es fun e'=>Ja e'&&JH c kn e e'))
noncomputable def rsB(c:Cx)(kn:Str->Option NameKind):List MS->List Stmt->Bool
 |[],_=>false
 |m::ms,ss=>match ss with
  |[]=>false
  |s::ss=>(ms.isEmpty&&(ss.isEmpty&&sRs c kn m s))||(rsS m&&(JU c kn m s&&rsB c kn ms ss))
noncomputable def hdO{α β:Type}(l:List α)(f:α->Option β):Option β:=match l with
 |[]=>none
 |a::_=>f a
def Z8(c:Cx)(f d:Nat)(m:MFun):Bool:=(hdO m.ps some==some d)&&(m.ds.isEmpty&&ZL c f ⟨m.ps.tail,[],[]⟩ fun kn body=>(kn (c.nm d)==none)&&rsB c kn m.body.tail body)
def Uh(c:Cx)(f:Nat)(m:MFun):Bool:=match hdO m.body YR with
 |none=>Nat.blt f 1000&&ZL c f m fun kn body=>chkSs c kn m.body body
 |some d=>Nat.ble 1000 f&&Z8 c f d m
section
variable{c:Cx}{r:Nat}{C:Ora}{A:Around}{U U':St}{env:Nv}{g:Gh}{s:Shared}{E:Value->Shared->Prop}{Q:Value->Shared->Prop}{v:Vv}{vs:List Vv}{xs:List Value}
theorem BJ{fd L a l}:Xr ⟨callEnvC fd L a,l⟩:=fun x hx=>ed fd.scope.names (L+1) [] (.inl (show fd.scope.names.lookup x=some .cell from hx))
theorem Bq{f m k}{P:Prop}(h:ZL c f m k=true)(K:∀fd body ds,DefAt c f m fd body fd.params.args fd.params.defaults ds->k (fun x=>fd.scope.names.lookup x) body=true->P):P:=
 obE h fun o ho h=>obE h fun fd hfd h=>obE h fun body hb h=>aB h fun hp h hk=>aG h fun h3 h4 h5 h6 h7 h8 h9 h10 h11 h=>bA h fun hd h12=>obE hd fun ds hds hd=>bA hd fun hd1 hd2=>by
  obtain⟨oc,od,odat,osl⟩:=o;cases DH hfd;exact K fd body ds ⟨⟨_,_,_,ho⟩,h3,DU hb,B4 hp,bE h4,Kw h5,hds,hd1,qE hd2,bE h6,bE h7,bE h8,fun x hx=>bO (KR h12 x hx) (fun q=>.inl (bE q)) fun q=>.inr (bE q),bE h9,bE h10,a6.mp h11⟩ hk
theorem GZ{b}(h:OY b=true){P:Prop}{f}(hf:exs C b U=some (f,U')):P:=
 QZ (P:=fun b=>exs C b U=some (f,U')->P) h (fun m h hf=>by cases m<;>first|exact ff h|exact nn hf) hf
theorem ZAh{m}(h:rsS m=true){f}(hf:exc C m U=some (f,U')):f=.next:=by
 cases m<;>first|exact ff h|skip
 ·exact bA h fun h1 h2=>bnE hf fun q U1a k1 k2=>by
   cases q
   ·rw[a6.mp h2] at k2;cases k2;rfl
   ·exact GZ h1 k2
 ·exact bnE hf fun w U1a k1 k2=>boE k2 fun l k3 k4=>by
   cases l
   ·cases k4;rfl
   ·exact bnE k4 fun f2a fI k5 k6=>GZ h k5
theorem Si{m e}(h:TL m=some e):m=.ex e:=by
 cases m<;>first|exact nn h|exact aM MS.ex (aY h)
theorem RA(O:c.Ok)(HC:JK c r C){kn}(Vv:En env kn)(hr:JM env A (r+1)){Q:Flow->Shared->Prop}:∀{ms:List MS} {ss:List Stmt} {U:St} {g:Gh} {s:Shared} {f:FL},rsB c kn ms ss=true->exs C ms U=some (f,U')->Rel c env g U s ->
  (∀em fB h' e,Rel c env fB U' em->Ext env g fB s em->Heap.NewExc em.heap h' e "KeyError"->E (.ref e) { em with heap:=h' })->wpAny c.M A (execs ss env) Q E s:=by
 intro ms;induction ms with
 |nil=>exact fun h=>ff h
 |cons m ms ih=>
  intro ss U g s f h hf R N;cases ss with
  |nil=>exact ff h
  |cons s0 ss=>
   refine bO h (fun h=>aB h fun h1 h2 h=>?_) fun h=>aB h fun h1 h2 h3=>bnE hf fun f1a U1a k1 k2=>?_
   ·rw[a6.mp h1] at hf
    rw[a6.mp h2];exact obE h fun e he h=>P8 (P:=fun s0=>wpAny c.M A (execs [s0] env) Q E s) h fun x p hx=>by
     cases Si he;refine bnE hf fun f1a U1a k1 k2=>bnE k1 fun w U2a k3 k4=>gdE k4 fun J e4=>?_
     cases e4;cases k2;exact Xo (P:=fun x=>wpAny c.M A (execs [.Raise (some x) none p] env) Q E s) hx fun y np es cp h=>aA h fun m1 m2 m3 h=>QZ (P:=fun es=>wpAny c.M A (execs [.Raise (some (.Call (.Name y np) es [] cp)) none p] env) Q E s) h fun e' h=>bA h fun m4 m5=>
      qX (Raise_new hr.1 (by
       have hs2:[e'].all Ja=true:=by rw[List.all_cons,m4];rfl
       rw[bN,Qy hs2];exact qB (a3 Vv.ok.kind ((Vv.kn _).trans (kE m1)) (UW O Vv.ok m3 R (di Uw (Qz (cz ((Jc O HC e Vv m5).1 hr k3 R fun z ek eu ew ez e6=>eX (call_exc_raise excClass_KeyError fun h' e hx=>N ek eu h' e ew e6 hx)))))) (Wh m2))))
   ·cases ZAh h1 k1
    exact qX (QK O HC m Vv h2 hr k1 R fun w ek eu ew ez e6=>by
     cases ez;exact ih h3 k2 ew fun em fB h' e fE fH hx=>N em fB h' e fE (e6.trans fH) hx)
theorem RB{fd L a s' U1a fB em h' e}(hA:A.frames=some env.fs)(R:Rel c env g U s)(en:Ent env (dNv fd L a env) s s')(Vv:EnvOk (dNv fd L a env))(fE:Rel c (dNv fd L a env) fB U1a em)(fH:Ext (dNv fd L a env) (g.inn env) fB s' em)
  (hx:Heap.NewExc em.heap h' e "KeyError") (N:UV c env g s { U1a with loc:=U.loc } E):wpAny c.M (A.deeper (callEnvC fd L a)) (leaving (callEnvC fd L a) (.ref e)) (fun J s''=>E (.ref e) s'') (fun e' s''=>E e' s'') { em with heap:=h' }:=by
 obtain⟨ob,tp,he,hcls,hd⟩:=hx.there;have hb:∀b o,(hideAll em.heap (fsL (dNv fd L a env))).get? b=some o->h'.get? b=some o:=fun b o q=>hx.keeps b o (of_hideAll _ q)
 have hen:(hideAll em.heap (fsL (dNv fd L a env))).get? e=none:=by
  cases q:(hideAll em.heap (fsL (dNv fd L a env))).get? e with
  |none=>rfl
  |some o=>exact nn (hx.new.symm.trans (of_hideAll _ q))
 refine wpAny_leaving_firstW (s:={ em with heap:=h' }) (a0:=tp) (Around.frames_deeper hA) (Cy Vv.frs fun b hb=>⟨hideAll_none _ hb,(fE.frd b hb).sl (.of fun o=>hx.keeps b o)⟩) en.frm he hb hen hd rfl rfl fun h'' hL=>?_
 obtain⟨k1,⟨_,_,k2⟩,k3,k4⟩:=hL;refine N e _ em h'' ⟨fun h3 b3 u3=>?_,⟨tp,k1,hen,k2,hcls▸k3⟩,(Heap.UpToSlots.of_keeps hx.keeps).trans k4⟩
 obtain⟨fQ,fM⟩:=ZBY fE b3 u3;exact⟨_,R.leave en (fH.trans fM) fQ,Ext.leave en (fH.trans fM)⟩
theorem V7{F:Prop}{x}(R:Rel c env g U s)(h:xI∉U.ps)(X:Vx c env g s xM x):F:=X.objE fun a e=>by
 unfold Gh.rho at e;rw[R.ps _ h] at e;exact nn e
theorem Lz{m d}(h:YR m=some d):m=.isx d:=by
 cases m<;>first|exact nn h|exact aM MS.isx (aY h)
theorem MB{i v}(h:Vv.isObj i v=true):v=.obj i:=by
 cases v<;>first|exact ff h|exact aM Vv.obj (bE h).symm
structure RsF(c:Cx)(f:Nat)(C:Ora)(vs:List Vv)(U U':St)(d:Nat)(ps:LN)(ms:List MS)(vs':List Vv)(fl:FL)(U1a:St):Prop where
 k:xI∉U.ps
 v:vs=xM::vs'
 l:vs'.length=ps.length
 r:exs C ms ⟨(d,xM)::ps.zip vs',U.hp,U.nx,U.ps⟩=some (fl,U1a)
 e:{ U1a with loc:=U.loc }=U'
 c:ZL c f ⟨ps,[],[]⟩ (fun kn body=>(kn (c.nm d)==none)&&rsB c kn ms body)=true
theorem ZCP{ps b avs}(h:MFun.args ⟨ps,[],b⟩ vs=some avs):avs=vs/\vs.length=ps.length:=by
 have e0:∀n,vs++([]:List Vv).drop n=vs:=fun n=>by rw[cj,aQ]
 have h:gd (Nat.ble vs.length ps.length&&Nat.beq (vs++([]:List Vv).drop (0-(ps.length-vs.length))).length ps.length) (some (vs++([]:List Vv).drop (0-(ps.length-vs.length))))=some avs:=h;rw[e0] at h;exact gdE h fun h e=>⟨(aY e).symm,bA h fun J q=>aa q⟩
theorem IS{α β:Type}{l:List α}{f:α->Option β}{x:β}(h:hdO l f=some x):∃a r,l=a::r/\f a=some x:=by
 cases l with
 |nil=>exact nn h
 |cons a r=>exact⟨a,r,rfl,h⟩
theorem ZAg{m f d}{P:MFun->Prop}(hi:hdO m.body YR=some d)(h:Z8 c f d m=true)(K:∀ps ms,Z8 c f d ⟨d::ps,[],.isx d::ms⟩=true->P ⟨d::ps,[],.isx d::ms⟩):P m:=by
 obtain⟨m0,ms,e1,e2⟩:=IS hi;obtain⟨p0,ps,e3,e4⟩:=IS (bE (bA h fun h J=>h):hdO m.ps some=some d)
 have e:m=⟨d::ps,[],.isx d::ms⟩:=by
  cases m;exact congr (congr (aM MFun.mk (e3.trans (aM (·::ps) (aY e4)))) (a6.mp (aB h fun J h J=>h))) (e1.trans (aM (·::ms) (Lz e2)))
 exact e▸K ps ms (e▸h)
theorem LB{d ps ms fl U1a}{P:Prop}(hl:vs.length=(d::ps).length)(hx:exs C (.isx d::ms) ⟨(d::ps).zip vs,U.hp,U.nx,U.ps⟩=some (fl,U1a))(K:∀vs',vs=xM::vs'->vs'.length=ps.length->xI∉U.ps->exs C ms ⟨(d,xM)::ps.zip vs',U.hp,U.nx,U.ps⟩=some (fl,U1a)->P):P:=by
 cases vs with
 |nil=>exact absurd hl.symm (dJ _)
 |cons u vs=>
  exact bnE hx fun f1a U2a k1 k2=>boE k1 fun v0 k3 k4=>gdE k4 fun k4 k5=>bA k4 fun kk k6=>by
   have k3:(if d=d then some u else JA (ps.zip vs) d)=some v0:=k3;rw[aR rfl] at k3;cases k5;have e:=MB (((aM (Vv.isObj (.p xI)) (aY k3)).trans kk:Vv.isObj (.p xI) u=true));subst e;exact K vs rfl (Nat.succ.inj hl) (qH k6) k2
theorem EJ{m d}(hi:hdO m.body YR=some d)(h:Z8 c f d m=true):Qf C m vs U=some (v,U')->∃ps ms vs' fl U1a,RsF c f C vs U U' d ps ms vs' fl U1a:=
 ZAg (P:=fun m=>Qf C m vs U=some (v,U')->∃ps ms vs' fl U1a,RsF c f C vs U U' d ps ms vs' fl U1a) hi h fun ps ms h hf=>boE hf fun avs ha hf=>bnE hf fun fl U1a hx hf=>boE hf fun w hw e0=>by
  obtain⟨rfl,hl⟩:=ZCP ha;exact LB hl hx fun vs' k1 k2 k3 k4=>⟨ps,ms,vs',fl,U1a,k3,k1,k2,k4,aM Prod.snd (aY e0),aB h fun J J h=>h⟩
abbrev Nw(c:Cx)(A:Around)(f:Nat)(xs:List Value)(Q:Value->Shared->Prop)(E:Value->Shared->Prop)(s:Shared):Prop:=codeAny c.M A (.call (.ref (c.fA f)) ⟨xs,[]⟩) (Wp Q E) s
theorem LC(O:c.Ok)(HC:JK c r C){f d ps ms vs' fl U1a}(Z:RsF c f C vs U U' d ps ms vs' fl U1a)(hr:JM env A (r+2))(VV:EnvOk env)(R:Rel c env g U s)(X:Vxs c env g s vs' xs)(N:UV c env g s U' E):Nw c A f xs Q E s:=
 Bq Z.c fun fd body ds Df h13=>bA h13 fun hd h13=>HZ O Df VV (avs:=vs') hr (by
   have e0:vs'++([]:List Vv).drop (0-(ps.length-vs'.length))=vs':=by rw[cj,aQ]
   show gd (Nat.ble vs'.length ps.length&&Nat.beq (vs'++([]:List Vv).drop (0-(ps.length-vs'.length))).length ps.length) (some (vs'++([]:List Vv).drop (0-(ps.length-vs'.length))))=some vs';rw[e0,Z.l,dA,bg (qF _)];rfl) R X fun ek en V' hr' R'=>codeAny_func (RA O HC ⟨V',BJ,fun J=>rfl⟩ hr' h13 Z.r (by
   obtain⟨mm,hn,hl'⟩:=R'.loc;refine⟨⟨R'.kin,R'.wob,R'.xob,R'.frd,R'.dis,⟨mm,hn,fun n v q=>?_⟩,R'.obs,R'.cW,R'.inj,R'.nx,R'.ps⟩,R'.pos⟩
   by_cases q0:d=n
   ·subst q0
    have hd:fd.scope.names.lookup (c.nm d)=none:=bE hd;exact⟨fun z=>nn (hd.symm.trans z),fun z=>nn (hd.symm.trans z)⟩
   ·exact hl' n v ((aN q0).symm.trans q)) fun em fB h' e fE fH hx=>RB hr.2.2.2 R en V' fE fH hx (Z.e▸N))
theorem Bp(O:c.Ok)(HC:JK c r C){f m}(h:Uh c f m=true)(hr:JM env A (r+2))(VV:EnvOk env)(hf:Qf C m vs U=some (v,U'))(R:Rel c env g U s)(X:TU c f env g s vs xs v U' Q E):Nw c A f xs Q E s:=by
 unfold Uh at h;cases hi:hdO m.body YR with
 |none=>
  rw[hi] at h;exact bA h fun h0 h=>X.elim (fun X=>Bq h fun fd body ds Df h13=>VZ O Df (fun L l VV=>FW O HC m.body ⟨VV,BJ,fun x=>rfl⟩ h13) VV hr hf R X.1 X.2) fun z=>z.elim fun J z=>absurd z.1 (Nat.not_le.mpr (qE h0))
 |some d=>
  rw[hi] at h;refine bA h fun J h=>?_
  obtain⟨ps,ms,vs',fl,U1a,Z⟩:=EJ hi h hf;rcases X with X|⟨vs2,_,e,X,N⟩
  ·exact(Z.v▸X.1:Vxs c env g s (xM::vs') xs).consE (P:=fun xs=>Nw c A f xs Q E s) fun y ys a J=>V7 R Z.k a
  ·exact LC O HC Z hr VV R ((qS (Z.v.symm.trans e)).2▸X) N
theorem NZ(O:c.Ok){T}(h:∀f m,T f=some m->Uh c f m=true):∀n,JK c (2*n) (JF T n):=fun l0=>by
 induction l0 with
 |zero=>
  exact fun J J J J J J J J J J J J J J hf J J=>nn hf
 |succ n ih=>
  exact fun J J J J J J J J J J J J hr VV hf R X=>boE hf fun m h1 h2=>Bp O ih (h _ _ h1) hr VV h2 R X
end
noncomputable def UN(n:Nat):Id->Bool
 |.t k=>decide (k<n)
 |.p _=>true
mutual
noncomputable def Vv.blw(n:Nat):Vv->Bool
 |.none=>true
 |.bool _=>true
 |.int _=>true
 |.str _=>true
 |.tup l=>Vv.blws n l
 |.list l=>Vv.blws n l
 |.dict _ vs=>Vv.blws n vs
 |.obj i=>UN n i
 |.fn _=>true
 |.meth _ v=>Vv.blw n v
 |.rng _ _=>true
noncomputable def Vv.blws(n:Nat):List Vv->Bool
 |[]=>true
 |v::l=>Vv.blw n v&&Vv.blws n l
end
noncomputable def J0(n:Nat):List (Nat×Vv)->Bool
 |[]=>true
 |(_,v)::l=>Vv.blw n v&&J0 n l
def Ob.blw(n:Nat):Ob->Bool
 |.list l=>Vv.blws n l
 |.dict _ vs=>Vv.blws n vs
 |.inst _ fs=>J0 n fs
noncomputable def Uk(n:Nat):List (Id×Ob)->Bool
 |[]=>true
 |(i,o)::l=>(UN n i&&Ob.blw n o)&&Uk n l
def Gh.clean(g:Gh)(n:Nat):Gh:={ g with cs:=fun i=>if UN n i=true then g.cs i else none }
section
variable{c:Cx}{r:Nat}{env fC:Nv}{A:Around}{U U' U1a:St}{g eu:Gh}{s s' ek em:Shared}{E:Value->Shared->Prop}{Q:Value->Shared->Prop}{v:Vv}{D:Addr->Prop}{n:Nat}{F:Addr->Obj->Prop}
theorem Gh.clean_rho{i a}(h:UN n i=true)(e:g.rho i=some a):(g.clean n).rho i=some a:=by
 unfold Gh.rho Gh.clean at *;dsimp only;rw[aR h];exact e
theorem VR.clean{v x}(h:VR c F g.rho v x):Vv.blw n v=true->VR c F (g.clean n).rho v x:=
 VR.rec (motive_1:=fun v x J=>Vv.blw n v=true->VR c F (g.clean n).rho v x) (motive_2:=fun l xs J=>Vv.blws n l=true->VRs c F (g.clean n).rho l xs) (fun J=>.none) (fun b J=>.bool b) (fun i t J=>.int i t) (fun s t J=>.str s t) (fun a b d J e h=>.tup a b d (e h)) (fun a J e h=>.list a (e h))
  (fun a b d J f e h=>.dict a b d (e h) f) (fun a h=>.obj (Gh.clean_rho h a)) (fun f J=>.fn f) (fun a J=>.rng a) (fun a J b h=>.meth a (b h)) (fun J=>.nil) (fun J J a b h=>bA h fun h1 h2=>.cons (a h1) (b h2)) h
theorem VRs.clean:∀{l:List Vv} {xs:List Value},VRs c F g.rho l xs->Vv.blws n l=true->VRs c F (g.clean n).rho l xs:=by
 intro l;induction l with
 |nil=>exact fun h J=>h.nilE .nil
 |cons _ _ ih=>
  intro xs h hb;exact bA hb fun h1 h2=>h.consE fun J J a b=>.cons (a.clean h1) (ih b h2)
theorem FsR.clean{fs es}(h:FsR c F g.rho fs es):J0 n fs=true->FsR c F (g.clean n).rho fs es:=
 FsR.rec (motive:=fun fs es J=>J0 n fs=true->FsR c F (g.clean n).rho fs es) (fun J=>.nil) (fun a b J ih hb=>bA hb fun h1 h2=>.cons a (b.clean h1) (ih h2)) h
theorem A7{i o}:∀{l:List (Id×Ob)},Uk n l=true->JA l i=some o->UN n i=true/\Ob.blw n o=true:=by
 intro l0;induction l0 with
 |nil=>
  intro _ e;exact nn e
 |cons p0 l ih=>
  obtain⟨j,q⟩:=p0;intro h e;exact bA h fun h1 h2=>by
   by_cases hj:j=i
   ·cases (aR hj).symm.trans e
    exact bA h1 fun h3 h4=>⟨hj▸h3,h4⟩
   ·exact ih h2 ((aN hj).symm.trans e)
theorem A8{i o}:∀{l:List (Nat×Vv)},J0 n l=true->JA l i=some o->Vv.blw n o=true:=by
 intro l0;induction l0 with
 |nil=>
  intro _ e;exact nn e
 |cons p0 l ih=>
  obtain⟨j,q⟩:=p0;intro h e;exact bA h fun h1 h2=>by
   by_cases hj:j=i
   ·cases (aR hj).symm.trans e;exact h1
   ·exact ih h2 ((aN hj).symm.trans e)
theorem ObR.clean{h ob a o}(H:ObR c env g h ob a o)(hb:Ob.blw n ob=true):ObR c env (g.clean n) h ob a o:=by
 cases ob with
 |list l=>exact⟨H.1,H.2.imp fun J=>a5 fun J z=>⟨z.1,VRs.clean z.2 hb⟩⟩
 |dict ks vs=>exact⟨H.1,H.2.1,H.2.2.imp fun J z=>⟨z.1,z.2.1,VRs.clean z.2.2 hb⟩⟩
 |inst C fs=>exact⟨H.1,H.2.1,H.2.2.1,H.2.2.2.imp fun J=>a5 fun J z=>⟨z.1,FsR.clean z.2 hb⟩⟩
structure Cl(n:Nat)(U U':St):Prop where
 loc:∀i v,JA U'.loc i=some v->JA U.loc i=some v
 hp:∀i o,JA U'.hp i=some o->JA U.hp i=some o
 bloc:J0 n U'.loc=true
 bhp:Uk n U'.hp=true
 nx:U'.nx=n
 ps:∀k,k∈U.ps->k∈U'.ps
theorem Gh.clean_cs{i p}(e:(g.clean n).cs i=some p):g.cs i=some p:=by
 by_cases h:UN n i=true
 ·exact(aR h).symm.trans e
 ·exact nn ((aN h).symm.trans e)
theorem Rel.clean(R:Rel c env g U s)(h:Cl n U U'):Rel c env (g.clean n) U' s:=
 ⟨⟨R.kin,R.wob,R.xob,R.frd,R.dis,R.loc.imp fun m z=>⟨z.1,fun i v e=>
   have hb:=A8 h.bloc e
   ⟨fun q=>((z.2 i v (h.loc i v e)).1 q).imp fun x w=>⟨w.1,w.2.clean hb⟩,fun q=>((z.2 i v (h.loc i v e)).2 q).imp fun J=>a5 fun J=>a5 fun J w=>⟨w.1,w.2.1,w.2.2.1,w.2.2.2.clean hb⟩⟩⟩,
  fun i o e=>(A7 h.bhp e).elim fun hb1 hb2=>(R.obs i o (h.hp i o e)).imp fun r=>a5 fun q z=>⟨(aR hb1).trans z.1,z.2.clean hb2⟩,
  fun id r o e=>R.cW _ _ _ (Gh.clean_cs e),fun id id' r o r' e e'=>R.inj _ _ _ _ _ (Gh.clean_cs e) (Gh.clean_cs e'),fun k e=>aN fun q=>bM.mpr (h.nx▸e) (qH q),fun k e=>(show (g.clean n).cs (.p k)=g.cs (.p k) from rfl).trans (R.ps k fun q=>e (h.ps k q))⟩,R.pos⟩
theorem Ext.clean(R:Rel c env g U s)(x:Ext env g eu s ek):Ext env g (eu.clean U.nx) s ek:=
 ⟨x.fz,x.up,fun id p e=>(aR (by
  cases id with
  |p k=>rfl
  |t k=>exact aU (eO fun hk=>nn ((R.nx k hk).symm.trans e)))).trans (x.cs id p e),x.X,x.gens⟩
end
end Mine.Tactic
end
noncomputable section
open PySem PySem.Calls PyProof.Rows PySem.W
namespace Mine.Tactic
noncomputable def Oo(x:Value)(f:Addr->Bool):Bool:=match x with
 |.ref a=>f a
 |_=>false
theorem Hz{x f}{P:Value->Prop}(h:Oo x f=true)(k:∀a,f a=true->P (.ref a)):P x:=by cases x<;>first|exact ff h|exact k _ h
def Hr(s:LN)(x:Value):Bool:=match x with
 |.str b _=>b==toS s
 |_=>false
noncomputable def O5(v:Value)(t:String):Bool:=match v with
 |.type s=>s==t
 |_=>false
theorem HH{v t}(h:O5 v t=true):v=.type t:=by cases v<;>first|exact ff h|exact aM Value.type (bE h)
mutual
noncomputable def Xi(K:Frag):Vv->Value->Bool
 |.none=>dIs .none
 |.bool a=>dIs (.bool a)
 |.int a=>dIs (.int a)
 |.str a=>Hr a
 |.tup l=>fun x=>Oo x fun a=>ob (K.lookup a) fun o=>O5 o.cls "tuple"&&ob (XL o) (fun xs=>chkVs K l xs)
 |.list l=>fun x=>Oo x fun a=>ob (K.lookup a) fun o=>O5 o.cls "list"&&(o.dict.isNone&&(o.slots.isEmpty&&ob (XL o) (fun xs=>chkVs K l xs)))
 |.dict _ _=>fun J=>false
 |.obj _=>fun J=>false
 |.fn _=>fun J=>false
 |.meth _ _=>fun J=>false
 |.rng _ _=>fun J=>false
noncomputable def chkVs(K:Frag):List Vv->List Value->Bool
 |[]=>fun xs=>xs.isEmpty
 |v::l=>fun xs=>match xs with
  |[]=>false
  |x::xs=>Xi K v x&&chkVs K l xs
end
section
variable{c:Cx}{F:Addr->Obj->Prop}{ρ:Id->Option Addr}
theorem Fx{s x}(h:Hr s x=true):VR c F ρ (.str s) x:=by cases x<;>first|exact ff h|(cases bE h;exact .str _ _)
theorem ZK(hF:∀a o,c.K.lookup a=some o->F a o){v}:∀{x:Value},Xi c.K v x=true->VR c F ρ v x:=
 Vv.rec (motive_1:=fun v=>∀{x:Value},Xi c.K v x=true->VR c F ρ v x) (motive_2:=fun l=>∀{xs:List Value},chkVs c.K l xs=true->VRs c F ρ l xs) Z5 (fun J {J}=>Z5) (fun J {J}=>Z5) (fun J {J}=>Fx)
  (fun J ih {J} h=>Hz h fun a h=>obE h fun o ho h=>bA h fun h1 h=>obE h fun xs h2 h=>(NA h2).elim fun J z0=>z0.elim fun J z0=>z0.elim fun h3 h4=>.tup (hF _ _ ho) (HH h1) h3 (h4▸ih h))
  (fun J ih {J} h=>Hz h fun a h=>obE h fun o ho h=>aA h fun h1 h2 h3 h=>obE h fun xs h4 h=>by
   obtain⟨items,n,h5,rfl⟩:=NA h4;obtain⟨oc,od,odat,osl⟩:=o;cases HH h1;cases bD.mp h2;cases eA.mp h3;cases h5;exact .list (hF _ _ ho) (ih h))
  (fun J J J {J} h=>ff h) (fun J {J} h=>ff h) (fun J {J} h=>ff h) (fun J J J {J} h=>ff h) (fun J J {J} h=>ff h) (fun {J} h=>UR h .nil) (fun J J h1 h2 {xs} h=>by
   cases xs with
   |nil=>exact ff h
   |cons x xs=>exact bA h fun a b=>.cons (h1 a) (h2 b)) v
noncomputable def Nk(w:World)(l:List (Str×Tok×Int×Tok)):List DictEntry:=l.map fun p=>⟨hashStr w p.1,.str p.1 p.2.1,.int p.2.2.1 p.2.2.2⟩
theorem CA:∀l:List (Str×Tok×Int×Tok),Pairs (strKind c.prog c.w) (Nk c.w l) (l.map fun p=>(p.1,.int p.2.2.1 p.2.2.2)):=fun l0=>by
 induction l0 with
 |nil=>
  exact .nil
 |cons p l ih=>
  exact .cons (aS p.1) rfl (ih)
theorem C4:∀l:List (Str×Tok×Int×Tok),VRs c F ρ (l.map fun p=>.int p.2.2.1) (l.map fun p=>.int p.2.2.1 p.2.2.2):=fun l0=>by
 induction l0 with
 |nil=>
  exact .nil
 |cons p l ih=>
  exact .cons (.int _ _) (ih)
theorem PA{l ks vs a n}(hl:c.K.lookup a=some ⟨.type "dict",none,.dict (Nk c.w l).toArray n,#[]⟩)
  (hk:l.map (·.1)=ks.map toS) (hv:vs=l.map fun p=>.int p.2.2.1) (hn:YQ (l.map (·.1))=true) (ha:(a==sysModules)=false) (hF:∀a o,c.K.lookup a=some o->F a o):VR c F ρ (.dict ks vs) (.ref a):=
 .dict (kvs:=l.map fun p=>(p.1,.int p.2.2.1 p.2.2.2)) (hF _ _ hl) ⟨_,_,⟨rfl,rfl,rfl⟩,rfl,fun e he=>by
  obtain⟨p,hp,rfl⟩:=ak.mp (List.mem_toArray.mp he);exact⟨p.1,aS p.1,rfl⟩,CA l,by rw[br];exact Kw hn⟩ (by rw[br];exact hk) (by rw[hv,br];exact C4 l) ha
end
end Mine.Tactic
end
noncomputable section
open PySem PySem.Calls PyProof.Rows PySem.W
namespace Mine.Tactic
mutual
noncomputable def Vv.sb(i:Id)(w:Vv):Vv->Vv
 |.none=>.none
 |.bool b=>.bool b
 |.int n=>.int n
 |.str s=>.str s
 |.tup l=>.tup (Vv.sbs i w l)
 |.list l=>.list (Vv.sbs i w l)
 |.dict ks vs=>.dict ks (Vv.sbs i w vs)
 |.obj j=>if j=i then w else .obj j
 |.fn f=>.fn f
 |.meth f v=>.meth f (Vv.sb i w v)
 |.rng a b=>.rng a b
noncomputable def Vv.sbs(i:Id)(w:Vv):List Vv->List Vv
 |[]=>[]
 |v::l=>Vv.sb i w v::Vv.sbs i w l
end
mutual
noncomputable def Vv.no(i:Id):Vv->Bool
 |.none=>true
 |.bool _=>true
 |.int _=>true
 |.str _=>true
 |.tup l=>Vv.nos i l
 |.list l=>Vv.nos i l
 |.dict _ vs=>Vv.nos i vs
 |.obj j=>decide (j≠i)
 |.fn _=>true
 |.meth _ v=>Vv.no i v
 |.rng _ _=>true
noncomputable def Vv.nos(i:Id):List Vv->Bool
 |[]=>true
 |v::l=>Vv.no i v&&Vv.nos i l
end
noncomputable def QG(i:Id)(w:Vv):List (Nat×Vv)->List (Nat×Vv)
 |[]=>[]
 |(n,v)::l=>(n,Vv.sb i w v)::QG i w l
def Ob.sb(i:Id)(w:Vv):Ob->Ob
 |.list l=>.list (Vv.sbs i w l)
 |.dict ks vs=>.dict ks (Vv.sbs i w vs)
 |.inst C fs=>.inst C (QG i w fs)
noncomputable def Q7(i:Id)(w:Vv):List (Id×Ob)->List (Id×Ob)
 |[]=>[]
 |(j,o)::l=>if j=i then Q7 i w l else (j,Ob.sb i w o)::Q7 i w l
def St.sb(U:St)(k:Nat)(w:Vv):St:=⟨QG (.p k) w U.loc,Q7 (.p k) w U.hp,U.nx,U.ps.filter (·≠k)⟩
def Gh.drop(g:Gh)(i:Id):Gh:={ W:=fun b=>g.W b/\∀p,g.cs i=some p->b≠p.2,X:=g.X,cs:=fun j=>if j=i then none else g.cs j }
section
variable{c:Cx}{r:Nat}{env fC:Nv}{A:Around}{U U' U1a:St}{g eu:Gh}{s s' ek em:Shared}{E:Value->Shared->Prop}{Q:Value->Shared->Prop}{v w:Vv}{D:Addr->Prop}{n:Nat}{F F':Addr->Obj->Prop}{ρ fT:Id->Option Addr}{i:Id}
theorem VR.sb(hF:∀a o,F a o->F' a o)(hρ:∀j a,j≠i->ρ j=some a->fT j=some a)(hw:∀a,ρ i=some a->VR c F' fT w (.ref a)){v x}(h:VR c F ρ v x):VR c F' fT (Vv.sb i w v) x:=
 VR.rec (motive_1:=fun v x J=>VR c F' fT (Vv.sb i w v) x) (motive_2:=fun l xs J=>VRs c F' fT (Vv.sbs i w l) xs) .none .bool .int .str (fun a b d J e=>.tup (hF _ _ a) b d e) (fun a J e=>.list (hF _ _ a) e) (fun a b d J f e=>.dict (hF _ _ a) b d e f)
  (fun {j a} e=>ay (fun q:j=i=>by show VR c F' fT (if j=i then w else .obj j) _;rw[aR q];exact hw _ (q▸e)) fun q=>by show VR c F' fT (if j=i then w else .obj j) _;rw[aN q];exact .obj (hρ _ _ q e)) .fn (fun a=>.rng (hF _ _ a)) (fun a J b=>.meth (hF _ _ a) b) .nil (fun J J a b=>.cons a b) h
theorem VRs.sb(hF:∀a o,F a o->F' a o)(hρ:∀j a,j≠i->ρ j=some a->fT j=some a)(hw:∀a,ρ i=some a->VR c F' fT w (.ref a)):∀{l:List Vv} {xs:List Value},VRs c F ρ l xs->VRs c F' fT (Vv.sbs i w l) xs:=by
 intro l;induction l with
 |nil=>exact fun h=>h.nilE .nil
 |cons _ _ ih=>
  intro xs h;exact h.consE fun J J a b=>.cons (a.sb hF hρ hw) (ih b)
theorem VR.no(hF:∀a o,F a o->F' a o)(hρ:∀j a,j≠i->ρ j=some a->fT j=some a){v x}(h:VR c F ρ v x):Vv.no i v=true->VR c F' fT v x:=
 VR.rec (motive_1:=fun v x J=>Vv.no i v=true->VR c F' fT v x) (motive_2:=fun l xs J=>Vv.nos i l=true->VRs c F' fT l xs) (fun J=>.none) (fun b J=>.bool b) (fun n t J=>.int n t) (fun s t J=>.str s t) (fun a b d J e h=>.tup (hF _ _ a) b d (e h)) (fun a J e h=>.list (hF _ _ a) (e h))
  (fun a b d J f e h=>.dict (hF _ _ a) b d (e h) f) (fun e h=>.obj (hρ _ _ (qH h) e)) (fun f J=>.fn f) (fun a J=>.rng (hF _ _ a)) (fun a J b h=>.meth (hF _ _ a) (b h)) (fun J=>.nil) (fun J J a b h=>bA h fun h1 h2=>.cons (a h1) (b h2)) h
theorem VRs.no(hF:∀a o,F a o->F' a o)(hρ:∀j a,j≠i->ρ j=some a->fT j=some a):∀{l:List Vv} {xs:List Value},VRs c F ρ l xs->Vv.nos i l=true->VRs c F' fT l xs:=by
 intro l;induction l with
 |nil=>exact fun h J=>h.nilE .nil
 |cons _ _ ih=>
  intro xs h hb;exact bA hb fun h1 h2=>h.consE fun J J a b=>.cons (a.no hF hρ h1) (ih b h2)
theorem FsR.sb(hF:∀a o,F a o->F' a o)(hρ:∀j a,j≠i->ρ j=some a->fT j=some a)(hw:∀a,ρ i=some a->VR c F' fT w (.ref a)){fs es}(h:FsR c F ρ fs es):FsR c F' fT (QG i w fs) es:=
 FsR.rec (motive:=fun fs es J=>FsR c F' fT (QG i w fs) es) .nil (fun a b J ih=>.cons a (b.sb hF hρ hw) ih) h
theorem Er:∀fs:List (Nat×Vv),(QG i w fs).length=fs.length:=fun l0=>by
 induction l0 with
 |nil=>
  exact rfl
 |cons _ l ih=>
  exact aM (·+1) (ih)
theorem Ck{n v}:∀{l:List (Nat×Vv)},JA (QG i w l) n=some v->∃u,JA l n=some u/\v=Vv.sb i w u:=by
 intro l0;induction l0 with
 |nil=>
  intro h;exact nn h
 |cons p0 l ih=>
  obtain⟨a,b⟩:=p0;intro h;by_cases e:a=n
  ·cases (aR e).symm.trans h;exact⟨b,aR e,rfl⟩
  ·exact(ih ((aN e).symm.trans h)).imp fun u z=>⟨(aN e).trans z.1,z.2⟩
theorem Cj{j o}:∀{l:List (Id×Ob)},JA (Q7 i w l) j=some o->j≠i/\∃u,JA l j=some u/\o=Ob.sb i w u:=by
 intro l0;induction l0 with
 |nil=>
  intro h;exact nn h
 |cons p0 l ih=>
  obtain⟨a,b⟩:=p0;intro h;have h:JA (if a=i then Q7 i w l else (a,Ob.sb i w b)::Q7 i w l) j=some o:=h;by_cases e:a=i
  ·rw[aR e] at h
   obtain⟨h1,u,h2,h3⟩:=ih h;exact⟨h1,u,(aN fun q=>h1 (q.symm.trans e)).trans h2,h3⟩
  ·rw[aN e] at h
   by_cases q:a=j
   ·cases (aR q).symm.trans h;exact⟨fun z=>e (q.trans z),b,aR q,rfl⟩
   ·obtain⟨h1,u,h2,h3⟩:=ih ((aN q).symm.trans h)
    exact⟨h1,u,(aN q).trans h2,h3⟩
theorem ObR.sb{h g' ob a o}(hF:∀a o,Tactic.Fz env g h a o->Tactic.Fz env g' h a o)(hρ:∀j a,j≠i->g.rho j=some a->g'.rho j=some a)(hw:∀a,g.rho i=some a->VR c (Tactic.Fz env g' h) g'.rho w (.ref a))(H:ObR c env g h ob a o):ObR c env g' h (Ob.sb i w ob) a o:=by
 cases ob with
 |list l=>exact⟨H.1,H.2.imp fun J=>a5 fun J z=>⟨z.1,VRs.sb hF hρ hw z.2⟩⟩
 |dict ks vs=>exact⟨H.1,H.2.1,H.2.2.imp fun J z=>⟨z.1,z.2.1,VRs.sb hF hρ hw z.2.2⟩⟩
 |inst C fs=>exact⟨H.1,(Er fs).symm▸H.2.1,hF _ _ H.2.2.1,H.2.2.2.imp fun J=>a5 fun J z=>⟨z.1,FsR.sb hF hρ hw z.2⟩⟩
theorem NP{j p}(e:(g.drop i).cs j=some p):j≠i/\g.cs j=some p:=
 ay (fun q:j=i=>nn ((aR q).symm.trans e)) fun q=>⟨q,(aN q).symm.trans e⟩
theorem BR{k r q}(R:Rel c env g U s)(hc:g.cs (.p k)=some (r,q))(hw:∀a,g.rho (.p k)=some a->VR c (Tactic.Fz env (g.drop (.p k)) s.heap) (g.drop (.p k)).rho w (.ref a)):Rel c env (g.drop (.p k)) (U.sb k w) s:=by
 have kF:∀a o,Tactic.Fz env g s.heap a o->Tactic.Fz env (g.drop (.p k)) s.heap a o:=fun a o z=>⟨z.1,fun h=>z.2.1 h.1,z.2.2.1,z.2.2.2⟩
 have kr:∀j a,j≠Id.p k->g.rho j=some a->(g.drop (.p k)).rho j=some a:=fun j a hj e=>(aM (Option.map Prod.fst) (aN hj)).trans e
 exact⟨⟨fun a o e=>kF _ _ (R.kin a o e),fun a w=>R.wob a w.1,R.xob,R.frd,fun a w=>R.dis a w.1,R.loc.imp fun m z=>⟨z.1,fun n v e=>by
   obtain⟨u,hu,rfl⟩:=Ck e;exact⟨fun q=>((z.2 n u hu).1 q).imp fun x w=>⟨w.1,w.2.sb kF kr hw⟩,fun q=>((z.2 n u hu).2 q).imp fun J=>a5 fun J=>a5 fun J w=>⟨w.1,kF _ _ w.2.1,w.2.2.1,w.2.2.2.sb kF kr hw⟩⟩⟩,
  fun id ob e=>by
   obtain⟨hne,u,hu,rfl⟩:=Cj e;exact(R.obs id u hu).imp fun J=>a5 fun J z=>⟨(aN hne).trans z.1,z.2.sb kF kr hw⟩,
  fun id r' o e=>(NP e).elim fun hne e=>⟨R.cW _ _ _ e,fun p hp z=>by cases hc.symm.trans hp;cases (show o=q from z);exact hne (R.inj _ _ _ _ _ e hc)⟩,
  fun id id' r' o r'' e e'=>R.inj _ _ _ _ _ (NP e).2 (NP e').2,fun j e=>(show (g.drop (.p k)).cs (.t j)=g.cs (.t j) from rfl).trans (R.nx j e),
  fun j e=>ay (fun hj:Id.p j=Id.p k=>aR hj) fun hj=>(aN hj).trans (R.ps j fun q=>e (eT.mpr ⟨q,aU fun z=>hj (aM Id.p z)⟩))⟩,R.pos⟩
theorem HS{k ks vs}(R:Rel c env g U s)(ho:JA U.hp (.p k)=some (.dict ks vs))(hn:Vv.nos (.p k) vs=true):
  Rel c env (g.drop (.p k)) (U.sb k (.dict ks vs)) s/\∀a,g.rho (.p k)=some a->VR c (Tactic.Fz env (g.drop (.p k)) s.heap) (g.drop (.p k)).rho (.dict ks vs) (.ref a):=by
 obtain⟨r,q,hc,rfl,hsm,kvs,D,k1,r1⟩:=R.obs _ _ ho;have hrW:g.W r:=R.cW _ _ _ hc;obtain⟨ob,hob,hdo⟩:=bR.mp D;have hw:∀a,g.rho (.p k)=some a->VR c (Tactic.Fz env (g.drop (.p k)) s.heap) (g.drop (.p k)).rho (.dict ks vs) (.ref a):=fun a e=>by
  cases (aM (Option.map Prod.fst) hc).symm.trans e;exact .dict ⟨hob,fun h=>h.2 _ hc rfl,(R.dis r hrW).1,(R.dis r hrW).2⟩ hdo k1 (r1.no (fun a o z=>⟨z.1,fun h=>z.2.1 h.1,z.2.2.1,z.2.2.2⟩) (fun j a hj e=>(aM (Option.map Prod.fst) (aN hj)).trans e) hn) hsm
 exact⟨BR R hc hw,hw⟩
theorem ZF{k vs}(R:Rel c env g U s)(ho:JA U.hp (.p k)=some (.list vs))(hn:Vv.nos (.p k) vs=true):
  Rel c env (g.drop (.p k)) (U.sb k (.list vs)) s/\∀a,g.rho (.p k)=some a->VR c (Tactic.Fz env (g.drop (.p k)) s.heap) (g.drop (.p k)).rho (.list vs) (.ref a):=by
 obtain⟨r,q,hc,rfl,items,n,D,r1⟩:=R.obs _ _ ho;have hrW:g.W r:=R.cW _ _ _ hc;have hw:∀a,g.rho (.p k)=some a->VR c (Tactic.Fz env (g.drop (.p k)) s.heap) (g.drop (.p k)).rho (.list vs) (.ref a):=fun a e=>by
  cases (aM (Option.map Prod.fst) hc).symm.trans e;exact .list ⟨D,fun h=>h.2 _ hc rfl,(R.dis r hrW).1,(R.dis r hrW).2⟩ (r1.no (fun a o z=>⟨z.1,fun h=>z.2.1 h.1,z.2.2.1,z.2.2.2⟩) (fun j a hj e=>(aM (Option.map Prod.fst) (aN hj)).trans e) hn)
 exact⟨BR R hc hw,hw⟩
end
section
variable{c:Cx}{r:Nat}{env fC:Nv}{A:Around}{U U' U1a:St}{g eu:Gh}{s s' ek em:Shared}{E:Value->Shared->Prop}{Q:Value->Shared->Prop}{v w:Vv}{D:Addr->Prop}{n:Nat}{F F':Addr->Obj->Prop}{ρ fT:Id->Option Addr}{i:Id}
theorem AT(O:c.Ok){id C f fs a}(hn:findIn c.K (.ref (c.cA C)) "__iter__"=some (some (.ref (c.fA f))))(hf:typeIn c.K (.ref (c.fA f))=some (.type "function"))(R:Rel c env g U s)(ho:JA U.hp id=some (.inst C fs))(hr:g.rho id=some a)
  (hc:wpAny c.M A (call (.ref (c.fA f)) [.ref a]) (fun it s'=>∃T' r,s'.TypeIs it T'/\typeLookup (.type T') "__next__"=pure (some r)/\Q it s') E s):wpAny c.M A (pyIter (.ref a)) Q E s:=by
 obtain⟨o,es,k,-,-,-,I⟩:=XA O R ho hr;have L1:Looks c.M s.heap (specialOf (.ref a) "__iter__") (some (.ref (c.fA f))):=(I.type).andThen (looks_findIn R.kinD hn);have L2:Looks c.M s.heap (bindSpecial (.ref (c.fA f)) (.ref a)) (.ref (c.fA f),[.ref a]):=bind_fn R.kinD _ hf;unfold pyIter;refine qB (L1.here ?_);show wpAny _ A (callSpecialIfBoundUnlessNone? (.ref a) "__iter__" _ >>= _) Q E s;refine qB ?_;simp only[callSpecialIfBoundUnlessNone?,bindSpecialIfBound?];refine qD (qB (qB (L1.here ?_)));refine qB (wpAny_askSetting (wpAny_ite ?_));have fin:wpAny c.M A (if (Value.ref (c.fA f)==Value.none)=true then ((do rule "iter.none";raiseError "TypeError" s!"'{← typeNameOf (Value.ref a)}' object is not iterable":Sem Value) >>= fun v=>pure (some v)) else (call (.ref (c.fA f)) [.ref a] >>= fun v=>pure (some v)))
   (fun it s'=>wpAny c.M A (match it with
    |some it=>(do match <- specialOf it "__next__" with
     |none=>rule "iter.non-iterator";raiseError "TypeError" s!"iter() returned non-iterator of type '{← typeNameOf it}'"
     |some _=>pure it:Sem Value)
    |none=>(do match <- bindSpecialIfBound? (Value.ref a) "__getitem__" with
     |none=>rule "iter.not-iterable";raiseError "TypeError" s!"'{← typeNameOf (Value.ref a)}' object is not iterable"
     |some _=>rule "iter.getitem-fallback";newFields "iterator" [Value.ref a,<- mkInt 0]:Sem Value)) Q E s') E s:=by
  rw[aN (by simp [BEq.beq])]
  refine qB (xT hc (fun it s' h'=>qC ?_) fun J J e=>e)
  obtain⟨T',r,h1,h2,h3⟩:=h';exact qB (b9 h1 h2 (qC h3))
 split
 ·exact qB (L2.here (qC fin))
 ·exact wpAny_tryCatch (qB (L2.here (qC fin)))
structure GenAt(c:Cx)(f:Nat)(fd:FuncData)(body:List Stmt):Prop where
 at_:∃oc od osl,c.K.lookup (c.fA f)=some ⟨oc,od,.func fd,osl⟩
 code:codeIn c.K fd.code fd.qualname=true
 body:fd.body=.stmts body
 params:∃as dd,fd.params=⟨[],as,none,[],[],none,dd⟩/\Ji as=[c.nm 0]
 dflts:fd.defaults=.none
 kind:fd.scope.kind=.function
 gen:fd.scope.isGenerator=true
 co:fd.scope.isCoroutine=false
 plocal:fd.scope.names.lookup (c.nm 0)=some .local
 nocell:∀p∈fd.scope.names,p.2≠.cell
 glob:fd.globals=mainGlobals
 blt:fd.builtins=builtinsNs
 clo:fd.closure=[]
noncomputable abbrev U7(fd:FuncData)(GL a:Addr):Env:=callEnvC fd GL a
theorem MP(O:c.Ok){f fd body}(G:GenAt c f fd body){x}(hr:JM env A 2)(R:Rel c env g U s)
  (N:∀(s':Shared) (GO:Addr) (m:Str->Option Value),(∀b o,s.heap.get? b=some o->s'.heap.get? b=some o)->s.heap.objs.size<GO->s'.heap.Ns s.heap.objs.size m->m (c.nm 0)=some x->s'.heap.IsGen GO s.gens.size ->
   s'.gens=s.gens.push (.fresh (.func body (U7 fd s.heap.objs.size (c.fA f))))->s'.os=s.os->0<s'.toks->Q (.ref GO) s'):
  wpAny c.M A (call (.ref (c.fA f)) [x]) Q E s:=by
 refine dB ?_;obtain⟨oc,od,osl,ho⟩:=G.at_;obtain⟨as,dd,hp,hn⟩:=G.params;obtain⟨rr,hrr,hrun⟩:=Bm (v:=fd.defaults) (ds:=[]) (by rw[G.dflts];rfl) R.kinD
 have B:Binds (Ji as) [x] [] [x]:=⟨hn▸cC.mpr ⟨(fun q=>nomatch q),ef⟩,hn▸qF _,qG _,hn▸qF _,by rw[cj];rfl⟩
 refine codeAny_call_generator (qL (qK _ _) hr.2.1) (R.kin _ _ ho).1 rfl G.co G.gen G.body (codeRec_of R.kinD G.code) (BS hp B hrr hrun _ _ _ _ ?_);rw[G.clo,hn];refine Qj R.pos (d0 G.kind (fun y hy=>?_) fun env1 he ek hic htk=>?_)
 ·cases ae.mp (show y∈[(c.nm 0,x)] from hy)
  exact .inl G.plocal
 ·have he:env1=U7 fd s.heap.objs.size (c.fA f):=he
  subst he;refine⟨(O.noLimit R).keeps hic.toInCall.keep,?_⟩;obtain⟨h',tk,rfl,kk⟩:=hic.done;have hns:=hic.toInCall.ns;exact N _ h'.objs.size _ (fun b o e=>qZ _ (kk b o e)) hns.lt (hns.push _) (DV G.plocal (cC.mpr ⟨(fun q=>nomatch q),ef⟩) (.head _)) ⟨_,_,_,qY _ rfl,rfl,rfl,rfl⟩ rfl rfl (xD _)
end
structure GenM where
 t1:ME
 t2:ME
 t3:ME
 e:ME
inductive Given:St->Vv->Vv->St->Prop
 |same {U:St} {v:Vv}:Given U v v U
 |froz {U:St} {k:Nat} {ks:List LN} {vs:List Vv}:JA U.hp (.p k)=some (.dict ks vs)->Vv.nos (.p k) vs=true->k≠99->Given U (.obj (.p k)) (.dict ks vs) (U.sb k (.dict ks vs))
inductive Frz(U:St)(k:Nat):Vv->Prop
 |l {vs:List Vv}:JA U.hp (.p k)=some (.list vs)->Vv.nos (.p k) vs=true->Frz U k (.list vs)
 |d {ks:List LN} {vs:List Vv}:JA U.hp (.p k)=some (.dict ks vs)->Vv.nos (.p k) vs=true->Frz U k (.dict ks vs)
inductive GR(C:Ora)(m:GenM):Bool->St->List Vv->List Vv->St->Prop
 |stop {U U1a:St} {dn:List Vv}:tst C m.t1 U=some (false,U1a)->JA U1a.hp (.p 99)=some (.list dn)->GR C m true U dn [] U1a
 |turn {U U1a U2a U':St} {dn l:List Vv}:tst C m.t1 U=some (true,U1a)->tst C m.t2 U1a=some (false,U2a)->GR C m false U2a dn l U'->GR C m true U dn l U'
 |next {U U1a U':St} {dn l:List Vv}:tst C m.t3 U=some (false,U1a)->GR C m true U1a dn l U'->GR C m false U dn l U'
 |give {U U1a U2a fI U':St} {v w:Vv} {dn l:List Vv}:tst C m.t3 U=some (true,U1a)->ev C m.e U1a=some (v,U2a)->Given U2a v w fI->JA fI.hp (.p 99)=some (.list dn) ->
   GR C m false (fI.setOb (.p 99) (.list (dn++[w]))) (dn++[w]) l U'->GR C m false U dn (w::l) U'
 |frz {U U':St} {ph:Bool} {k:Nat} {w:Vv} {dn l:List Vv}:Frz U k w->k≠99->GR C m ph (U.sb k w) dn l U'->GR C m ph U dn l U'
section
variable{c:Cx}{r:Nat}{eg:Nv}{A:Around}{U U' U1a:St}{g eu:Gh}{s s' ek em:Shared}
structure GInv(c:Cx)(eg:Nv)(X0 Y0:Addr->Prop)(r0 r9:Addr)(U:St)(g:Gh)(s:Shared):Prop where
 rel:Rel c eg g U s
 X:g.X=X0
 r0:g.rho (.t 0)=some r0
 r9:g.rho (.p 99)=some r9
 nY:∀a,Y0 a->¬g.W a/\∃o,s.heap.get? a=some o
def Kp(eg:Nv)(X0:Addr->Prop)(s0a ek:Shared):Prop:=(∀a o,X0 a->s0a.heap.get? a=some o->ek.heap.get? a=some o)/\gos ek=gos s0a/\∀a,Fs eg a->a≠eg.locals->Sl a s0a.heap ek.heap
theorem Kp.trans{X0:Addr->Prop}(x:Kp eg X0 s ek)(y:Kp eg X0 ek em):Kp eg X0 s em:=⟨fun a o h e=>y.1 a o h (x.1 a o h e),y.2.1.trans x.2.1,fun a q n=>(x.2.2 a q n).trans (y.2.2 a q n)⟩
theorem Kp.refl{X0:Addr->Prop}:Kp eg X0 s s:=⟨fun J J J e=>e,rfl,fun J J J=>.of fun J e=>e⟩
theorem GInv.ext{X0 Y0:Addr->Prop}{r0 r9}(I:GInv c eg X0 Y0 r0 r9 U g s)(hX:∀a,Y0 a->¬FA eg a)(R:Rel c eg eu U1a ek)(x:Ext eg g eu s ek):GInv c eg X0 Y0 r0 r9 U1a eu ek/\Kp eg Y0 s ek:=
 ⟨⟨R,x.X.trans I.X,x.rho I.r0,x.rho I.r9,fun a h=>((I.nY a h).2).elim fun o e=>let z:=x.fz a o e (I.nY a h).1 (hX a h);⟨z.2,o,z.1⟩⟩,fun a o h e=>(x.fz a o e (I.nY a h).1 (hX a h)).1,x.gens,x.up⟩
def WJ(c:Cx)(eg:Nv)(X0 Y0:Addr->Prop)(r0 r9:Addr)(tot:List Vv):Protocol:=fun n s0a v ek kap=>
 ∃g U w dn fR,GInv c eg X0 Y0 r0 r9 U g ek/\JA U.hp (.p 99)=some (.list dn)/\tot=dn++w::fR/\fR.length=n/\VR c (Fz eg g ek.heap) g.rho w v/\Kp eg Y0 s0a ek /\
  ∀g' s'',GInv c eg X0 Y0 r0 r9 (U.setOb (.p 99) (.list (dn++[w]))) g' s''->kap (.send .none) s''
def TD(c:Cx)(eg:Nv)(X0 Y0:Addr->Prop)(r0 r9:Addr)(tot:List Vv)(σe:St):Nat->Shared->Shared->Prop:=fun J s0a ek=>
 ∃g,GInv c eg X0 Y0 r0 r9 σe g ek/\Kp eg Y0 s0a ek/\JA σe.hp (.p 99)=some (.list tot)
abbrev WK(c:Cx)(eg:Nv)(X0 Y0:Addr->Prop)(r0 r9:Addr)(tot:List Vv)(σe:St):GenEnd:=fun n s0a r ek=>r=.ok (.ret .none)/\TD c eg X0 Y0 r0 r9 tot σe n s0a ek
theorem Xp{R Y n s0a fs t b o mt C q}{X0 Y0:Addr->Prop}{r0 r9}(hr:JM eg (A.over (.whileLoop t b o eg) fs) r)(H:JX c r eg t (tst C mt))(hf:tst C mt U=some (q,U1a))
  (I:GInv c eg X0 Y0 r0 r9 U g s) (hX:∀a,Y0 a->¬FA eg a)
  (N:∀eu ek,GInv c eg X0 Y0 r0 r9 U1a eu ek->Kp eg Y0 s ek->if q=true then
        Seg c.M A R Y n s0a (.whileLoop t b o eg) ((execs b eg).wrap (fun f=>match f with
         |.next|.cont=>.pure (.again (.whileLoop t b o eg))
         |.brk=>.pure (.done .next)
         |.ret v=>.pure (.done (.ret v))) (fun e=>(do noteFrame e eg;theTreesLotGoes e:Sem Unit).wrap (fun J=>.raise e) .raise id id) id id) fs ek
    else Seg c.M A R Y n s0a (.whileLoop t b o eg) ((execs o eg).wrap (fun f=>.pure (.done f)) (fun e=>(do noteFrame e eg;theTreesLotGoes e:Sem Unit).wrap (fun J=>.raise e) .raise id id) id id) fs ek):
  Seg c.M A R Y n s0a (.whileLoop t b o eg) (c.M.den (.whileLoop t b o eg)) fs s:=by
 refine seg_whileLoop (H hr hf I.rel fun ek eu ew e6=>?_)
 obtain⟨I1a,K1a⟩:=I.ext hX ew e6;exact N eu ek I1a K1a

noncomputable abbrev Qu(t2 t3 ye:Expr)(b2:List Stmt)(p2 p3 yp ep:Pos):List Stmt:=[.While t2 b2 [] p2,.While t3 [.Expr (.Yield (some ye) yp) ep] [] p3]
theorem Frz.rel{k w}(h:Frz U k w)(R:Rel c eg g U s):Rel c eg (g.drop (.p k)) (U.sb k w) s:=by
 cases h with
 |l h1 h2=>exact(ZF R h1 h2).1
 |d h1 h2=>exact(HS R h1 h2).1
theorem GInv.drop{X0 Y0:Addr->Prop}{r0 r9 k}(I:GInv c eg X0 Y0 r0 r9 U g s)(hk:k≠99)(R':Rel c eg (g.drop (.p k)) U' s):GInv c eg X0 Y0 r0 r9 U' (g.drop (.p k)) s:=
 ⟨R',I.X,(aM (Option.map Prod.fst) (show (g.drop (.p k)).cs (.t 0)=g.cs (.t 0) from rfl)).trans I.r0,(aM (Option.map Prod.fst) (show (g.drop (.p k)).cs (.p 99)=g.cs (.p 99) from aN fun q=>hk (by cases q;rfl))).trans I.r9,fun a h=>⟨fun q=>(I.nY a h).1 q.1,(I.nY a h).2⟩⟩
theorem GInv.given{X0 Y0:Addr->Prop}{r0 r9 v w x}(I:GInv c eg X0 Y0 r0 r9 U g s)(hg:Given U v w U')(hv:VR c (Fz eg g s.heap) g.rho v x):
  ∃g',GInv c eg X0 Y0 r0 r9 U' g' s/\VR c (Fz eg g' s.heap) g'.rho w x:=by
 cases hg with
 |same=>exact⟨g,I,hv⟩
 |froz ho hn hk9=>
  obtain⟨R',H⟩:=HS I.rel ho hn;obtain⟨a,rfl,ha⟩:=hv.objR;exact⟨g.drop (.p k),I.drop hk9 R',H _ ha⟩
theorem ZAs{d f w k r L}(h:d+k<L)(h2:f+w<=2)(hk:r+2<=k):d+f+w+r<L:=
 qL (by rw[aX d,aX d];exact qI (qA (qO h2 r) (aW 2 r▸hk)) d) h
theorem ZAr{u f w k r L}(h:u+20*k+300<L)(h2:f+w<=20)(hk:r+2<=k):u+f+w+20*r+300<L:=
 qL (qO (by rw[aX u,aX u];exact qI (qA (qO h2 _) (by rw[aW 20,<- b7];exact xA 20 (qA (xC _) hk))) u) 300) h
theorem Kh{ec c' fs k}(hr:JM ec A k)(hf:pushEnvs c'.envs (pushEnvs (envsOf (fs.map Frame.where_)) A.frames)=some eg.fs)(hh:(marksOver fs (A.handled,A.handled)).1=none)(hd:frameCount (fs.map Frame.where_)+c'.weight<=2)(hu:PySem.unitsOf (fs.map Frame.where_)+c'.cUnits<=20){r}(hk:r+2<=k):JM eg (A.over c' fs) r:=
 ⟨hh,ZAs hr.2.1 hd hk,ZAr hr.2.2.1 hu hk,hf⟩

theorem Pr{C m t1 t2 t3 ye b2 p2 p3 yp ep}{X0 Y0:Addr->Prop}{r0 r9 tot σe}(hX:∀a,Y0 a->¬FA eg a){ec}(hA:JM ec A (r+2))(hfs:eg.fs=eg.toEnv::ec.fs)
  (H1:JX c r eg t1 (tst C m.t1)) (H2:JX c r eg t2 (tst C m.t2)) (H3:JX c r eg t3 (tst C m.t3)) (H4:JE c r eg ye (ev C m.e)) (hco:eg.scope.isCoroutine=false) (hi:interactive eg=false){cF k1 l1 p1} (hw:cF.weight=1) (hu:cF.cUnits=3) (hv:cF.envs=[eg.toEnv])
  (hk1:∀n s0a s,WK c eg X0 Y0 r0 r9 tot σe n s0a (.ok (.ret .none)) s->Seg c.M A (WK c eg X0 Y0 r0 r9 tot σe) (WJ c eg X0 Y0 r0 r9 tot) n s0a cF (k1 (.ok .next)) [] s){ph dn l} (G:GR C m ph U dn l σe):tot=dn++l->∀(g:Gh) (s s0a:Shared),GInv c eg X0 Y0 r0 r9 U g s->Kp eg Y0 s0a s->match ph with
  |true=>Seg c.M A (WK c eg X0 Y0 r0 r9 tot σe) (WJ c eg X0 Y0 r0 r9 tot) l.length s0a (.whileLoop t1 (Qu t2 t3 ye b2 p2 p3 yp ep) [] eg) (c.M.den (.whileLoop t1 (Qu t2 t3 ye b2 p2 p3 yp ep) [] eg)) [.ret k1 none false l1 cF p1 []] s
  |false=>∀(k3:Result->Sem Fin) (l3:List Value) (p':Pos),(∀n s0a s,Seg c.M A (WK c eg X0 Y0 r0 r9 tot σe) (WJ c eg X0 Y0 r0 r9 tot) n s0a (.whileLoop t1 (Qu t2 t3 ye b2 p2 p3 yp ep) [] eg) (.pure (.again (.whileLoop t1 (Qu t2 t3 ye b2 p2 p3 yp ep) [] eg))) [.ret k1 none false l1 cF p1 []] s ->
        Seg c.M A (WK c eg X0 Y0 r0 r9 tot σe) (WJ c eg X0 Y0 r0 r9 tot) n s0a (.whileLoop t1 (Qu t2 t3 ye b2 p2 p3 yp ep) [] eg) (k3 (.ok .next)) [.ret k1 none false l1 cF p1 []] s) ->
    Seg c.M A (WK c eg X0 Y0 r0 r9 tot σe) (WJ c eg X0 Y0 r0 r9 tot) l.length s0a (.whileLoop t3 [.Expr (.Yield (some ye) yp) ep] [] eg) (c.M.den (.whileLoop t3 [.Expr (.Yield (some ye) yp) ep] [] eg))
     [.ret k3 none false l3 (.whileLoop t1 (Qu t2 t3 ye b2 p2 p3 yp ep) [] eg) p' [],.ret k1 none false l1 cF p1 []] s:=by
 have hO:∀t b,(Code.whileLoop t b [] eg).weight=0:=fun J J=>rfl
 have hOu:∀t b,(Code.whileLoop t b [] eg).cUnits=0:=fun J J=>rfl
 have hroom1:∀t b,JM eg (A.over (.whileLoop t b [] eg) [.ret k1 none false l1 cF p1 []]) r:=fun t b=>Kh hA (by show pushEnvs [] (pushEnvs (envsOf [(cF,p1)]) A.frames)=_;rw[envsOf_cons,hv,hA.2.2.2,hfs];rfl) (by simp [marksOver,Frame.marks,markOver,hA.1]) (by simp only[List.map_cons,List.map_nil,Frame.where_,frameCount_cons,hw,hO];exact xC 1) (by simp only[List.map_cons,List.map_nil,Frame.where_,unitsOf_cons,hu,hOu];exact(by decide:3+0+0<=20)) (qF _)
 have hroom2:∀t b t' b' k3 l3 p',JM eg (A.over (.whileLoop t b [] eg) [.ret k3 none false l3 (.whileLoop t' b' [] eg) p' [],.ret k1 none false l1 cF p1 []]) r:=fun t b t' b' k3 l3 p'=>Kh hA (by show pushEnvs [] (pushEnvs (envsOf [(Code.whileLoop t' b' [] eg,p'),(cF,p1)]) A.frames)=_;rw[envsOf_cons,envsOf_cons,hv,hA.2.2.2,hfs];rfl) (by simp [marksOver,Frame.marks,markOver,hA.1]) (by simp only[List.map_cons,List.map_nil,Frame.where_,frameCount_cons,hw,hO];exact xC 1) (by simp only[List.map_cons,List.map_nil,Frame.where_,unitsOf_cons,hu,hOu];exact(by decide:0+(3+0)+0<=20)) (qF _)
 induction G with
 |stop h1 hd=>
  intro ht g s s0a I K;refine Xp (hroom1 _ _) H1 h1 I hX fun eu ek I1a K1a=>?_
  rw[aN ar];refine dH ?_;refine seg_leaf (.ok .next) (hk1 _ _ _ ⟨rfl,eu,I1a,K.trans K1a,?_⟩)
  rw[aQ] at ht;rw[ht];exact hd
 |turn h1 h2 _ ih=>
  intro ht g s s0a I K;refine Xp (hroom1 _ _) H1 h1 I hX fun eu ek I1a K1a=>?_
  rw[aR rfl];refine dC (seg_While fun p=>?_)
  refine Xp (hroom2 _ _ _ _ _ _ _) H2 h2 I1a hX fun fB em I2a K2a=>?_
  rw[aN ar];refine dH ?_;refine seg_leaf (.ok .next) ?_
  show Seg _ _ _ _ _ _ _ ((execs [.While t3 [.Expr (.Yield (some ye) yp) ep] [] p3] eg).wrap _ _ id id) _ em;refine dC (seg_While fun p'=>?_)
  exact ih hk1 ht fB em s0a I2a (K.trans (K1a.trans K2a)) _ _ p' fun n s0a s h=>h
 |next h1 _ ih=>
  intro ht g s s0a I K k3 l3 p' hk3;refine Xp (hroom2 _ _ _ _ _ _ _) H3 h1 I hX fun eu ek I1a K1a=>?_
  rw[aN ar];refine dH ?_;refine seg_leaf (.ok .next) (hk3 _ _ _ (seg_again rfl ?_))
  exact ih hk1 ht eu ek s0a I1a (K.trans K1a)
 |give h1 h2 hg hd _ ih=>
  intro ht g s s0a I K k3 l3 p' hk3;refine Xp (hroom2 _ _ _ _ _ _ _) H3 h1 I hX fun eu ek I1a K1a=>?_
  rw[aR rfl];refine dC ?_;refine seg_Expr_Yield rfl rfl rfl (H4 (hroom2 _ _ _ _ _ _ _) h2 I1a.rel fun x em fB fE fP fH kap hkap=>?_) hco hi
  obtain⟨I2a,K2a⟩:=I1a.ext hX fE fH;obtain⟨g3a,I3a,X3a⟩:=I2a.given hg fP;refine⟨g3a,_,_,_,_,I3a,hd,ht,rfl,X3a,K.trans (K1a.trans K2a),fun g' s'' I''=>hkap .none s'' ?_⟩
  show Seg _ _ _ _ _ _ _ _ _ _;refine dH ?_;refine seg_again rfl ?_;exact ih hk1 (by rw[ht];simp) g' s'' s'' I'' .refl k3 l3 p' hk3
 |frz h1 hk _ ih=>
  cases ph_1<;>exact fun ht g s s0a I K=>ih hk1 ht _ s s0a (I.drop hk (h1.rel I.rel)) K

theorem CV{C m m0 S0 t1 t2 t3 ye b2 p1 p2 p3 yp ep}{X0 Y0:Addr->Prop}{r0 r9 tot σe}(hX:∀a,Y0 a->¬FA eg a){ec}(hA:JM ec A (r+2))(hfs:eg.fs=eg.toEnv::ec.fs)
  (H0:JQ c r eg S0 (exc C m0)) (H1:JX c r eg t1 (tst C m.t1)) (H2:JX c r eg t2 (tst C m.t2)) (H3:JX c r eg t3 (tst C m.t3)) (H4:JE c r eg ye (ev C m.e)) (hco:eg.scope.isCoroutine=false) (hi:interactive eg=false)
  (h0:exc C m0 U=some (.next,U1a)) (G:GR C m true U1a [] tot σe) (I:GInv c eg X0 Y0 r0 r9 U g s):
  Seg c.M A (WK c eg X0 Y0 r0 r9 tot σe) (WJ c eg X0 Y0 r0 r9 tot) tot.length s (.func [S0,.While t1 (Qu t2 t3 ye b2 p2 p3 yp ep) [] p1] eg) (c.M.den (.func [S0,.While t1 (Qu t2 t3 ye b2 p2 p3 yp ep) [] p1] eg)) [] s:=by
 refine seg_func (dC (seg_wrap ?_));have hroom:JM eg (A.over (.func [S0,.While t1 (Qu t2 t3 ye b2 p2 p3 yp ep) [] p1] eg) []) r:=Kh hA (by show pushEnvs [eg.toEnv] (pushEnvs (envsOf []) A.frames)=_;rw[hA.2.2.2,hfs];rfl) (by simp [marksOver,hA.1]) (by show 0+(Code.func _ eg).weight<=2;exact xC 1) (by show 0+(Code.func _ eg).cUnits<=20;exact(by decide:0+3<=20)) (qF _)
 refine H0 hroom h0 I.rel fun w ek eu ew ez e6=>?_
 obtain⟨I1a,K1a⟩:=I.ext hX ew e6;cases ez
 ·refine dC (seg_While fun p=>?_)
  exact Pr hX hA hfs H1 H2 H3 H4 hco hi rfl rfl rfl (fun n s0a s h=>dH (env:=eg) (seg_end (.ok (.ret .none)) h)) G rfl eu ek s I1a K1a
end
section
variable{c:Cx}{r:Nat}{env fC eg:Nv}{A:Around}{U U' U1a:St}{g g' eu:Gh}{s s' ek em:Shared}{E:Value->Shared->Prop}{v w:Vv}{i:Id}
theorem Rel.view(R:Rel c env g U s)(hV:∀a,(g'.X a\/FA fC a) ↔ (g.X a\/FA env a))(hW:g'.W=g.W)(hc:g'.cs=g.cs){l m}(hfr:∀a,Fs fC a->Frd a s.heap)(hn:s.heap.Ns fC.locals m)(hl:Q9 c fC (Tactic.Fz fC g' s.heap) g'.rho l m):Rel c fC g' { U with loc:=l } s:=by
 have kr:∀i a,g.rho i=some a->g'.rho i=some a:=fun i a z=>by unfold Gh.rho at z ⊢;rw[hc];exact z
 have kF:∀a o,Tactic.Fz env g s.heap a o->Tactic.Fz fC g' s.heap a o:=fun a o z=>⟨z.1,hW▸z.2.1,fun q=>((hV a).mp (.inl q)).elim z.2.2.1 z.2.2.2,fun q=>((hV a).mp (.inr q)).elim z.2.2.1 z.2.2.2⟩
 have hx:∀a,(g.X a\/FA env a)->∃o,s.heap.get? a=some o:=fun a q=>q.elim (R.xob a) (R.fob a)
 have hd:∀a,g'.W a->¬(g.X a\/FA env a):=fun a w q=>q.elim (R.dis a (hW▸w)).1 (R.dis a (hW▸w)).2
 exact⟨⟨fun a o e=>kF _ _ (R.kin a o e),fun a w=>R.wob a (hW▸w),fun a q=>hx a ((hV a).mp (.inl q)),hfr,fun a w=>⟨fun q=>hd a w ((hV a).mp (.inl q)),fun q=>hd a w ((hV a).mp (.inr q))⟩,⟨m,hn,hl⟩,
  fun id ob e=>(R.obs id ob e).imp fun J=>a5 fun J z=>⟨hc▸z.1,z.2.mono kF kr fun J z=>z⟩,fun id r o e=>hW▸R.cW id r o (hc▸e),fun id id' r o r' e e'=>R.inj id id' r o r' (hc▸e) (hc▸e'),fun k e=>hc▸R.nx k e,fun k e=>hc▸R.ps k e⟩,R.pos⟩
end
section
variable{c:Cx}{r:Nat}{env fC eg cenv:Nv}{A:Around}{U U' U1a:St}{g g' eu:Gh}{s s' ek em s4a:Shared}{E:Value->Shared->Prop}{v w:Vv}{i:Id}
structure Kpp(eg:Nv)(X0:Addr->Prop)(K:Addr)(gi:Nat)(s s':Shared):Prop where
 up:∀a,Fs eg a->a≠eg.locals->Sl a s.heap s'.heap
 keep:∀a o,X0 a->a≠K->s.heap.get? a=some o->s'.heap.get? a=some o
 ns:∃mm,s'.heap.Ns K mm
 os:s'.os=s.os
 bare:∀j y,j≠gi->s'.gens[j]?=some y->y.bare=true
theorem GInv.toksGens{X0 Y0:Addr->Prop}{r0 r9}(I:GInv c eg X0 Y0 r0 r9 U g s)(h:s'.heap=s.heap)(ht:s'.toks=s.toks):GInv c eg X0 Y0 r0 r9 U g s':=
 ⟨⟨h▸I.rel.toRel0,ht▸I.rel.pos⟩,I.X,I.r0,I.r9,fun a z=>h▸I.nY a z⟩
theorem Yw{gs:Array GenState}{gi x}(h:∀j y,j≠gi->gs[j]?=some y->y.bare=true):∀j y,j≠gi->(gs.setIfInBounds gi x)[j]?=some y->y.bare=true:=fun j y hj e=>
 h j y hj ((Array.getElem?_setIfInBounds_ne (fun q=>hj q.symm)).symm.trans e)
theorem Bz{gs gs':Array GenState}{gi x y}(h:gs'=gs.setIfInBounds gi y)(fG:gi<gs.size):(gs'.setIfInBounds gi x)[gi]?=some x:=
 Array.getElem?_setIfInBounds_self_of_lt (by rw[h,Array.size_setIfInBounds];exact fG)
theorem Vp{tot dn l:List Vv}(h:tot=dn++l)(hl:tot.length<JC):dn.length<=sizeLine:=
 qA (by rw[h,aO];exact qK _ _:dn.length<=tot.length) (qA (xF hl) (by rw[dq];exact qF _))
theorem SY{X0 Y0:Addr->Prop}{r0 L dn v}{Q:Value->Shared->Prop}(I:GInv c eg X0 Y0 r0 L U g s)(hd:JA U.hp (.p 99)=some (.list dn))(hv:VR c (Tactic.Fz eg g s.heap) g.rho w v)(hb:dn.length<=sizeLine)
  (N:∀h3a,(∀a o,Y0 a\/Fs eg a->s.heap.get? a=some o->h3a.get? a=some o)->GInv c eg X0 Y0 r0 L (U.setOb (.p 99) (.list (dn++[w]))) g { s with heap:=h3a }->Q .none { s with heap:=h3a }):wpAny c.M A (call (.builtin "list.append") [.ref L,v]) Q E s:=by
 obtain⟨items,n,hcs,hi,hvs⟩:=Uy I.rel hd I.r9;refine wpAny_list_append_plain (items:=items) ⟨n,hi⟩ (fun h3a hl3a hs3=>?_) (by rw[Jf hvs];exact hb)
 obtain⟨n',hl3a⟩:=hl3a;have hk:∀b p,¬b=L->s.heap.get? b=some p->h3a.get? b=some p:=fun b p hb e=>(hs3.2 b hb).trans e
 have hW:=I.rel.cW _ _ _ hcs;have hY:∀a o,Y0 a\/Fs eg a->s.heap.get? a=some o->h3a.get? a=some o:=fun a o ha=>hk a o fun e=>ha.elim (fun ha=>(I.nY a ha).1 (e▸hW)) fun ha=>(I.rel.dis a (e▸hW)).2 (.inr ha)
 exact N h3a hY ⟨⟨I.rel.toRel0.setOb hcs (.of hk fun e=>(I.rel.dis L hW).2 (.inl e.symm)) ⟨_,hl3a⟩ fun kF=>⟨rfl,_,n',hl3a,by rw[cO];exact(hvs.mono kF fun J J z=>z).append (.cons (hv.mono kF fun J J z=>z) .nil)⟩,I.rel.pos⟩,I.X,I.r0,I.r9,fun a ha=>⟨(I.nY a ha).1,(I.nY a ha).2.imp fun o e=>hY a o (.inl ha) e⟩⟩
inductive GLI(c:Cx)(eg:Nv)(A:Around)(X0 Y0:Addr->Prop)(r0 L K gi:Nat)(tot:List Vv)(σe:St)(s4a:Shared)(n:Nat)(s:Shared):Prop
 |mk (g:Gh) (U:St) (dn fR:List Vv) (gs:GenState) (hn:n=fR.length+1) (I:GInv c eg X0 Y0 r0 L U g s) (hd:JA U.hp (.p 99)=some (.list dn)) (K:Kpp eg Y0 K gi s4a s) (hg:s.gens[gi]?=some gs)
   (go:∀g'' s'',GInv c eg X0 Y0 r0 L U g'' s''->gs.Goes c.M A.in1 (WK c eg X0 Y0 r0 L tot σe) (WJ c eg X0 Y0 r0 L tot) fR.length (.send .none) s'')
theorem Eo{x:Nat}{ep px:Pos}{it:Expr}{scope:Scope}{pos:Pos}{X0 Y0:Addr->Prop}{r0 L K GO gi:Nat}{tot:List Vv}{σe:St}{Post:Result->Shared->Prop}(O:c.Ok)(VV:EnvOk cenv)(hK:cenv.locals=K)(hkx:cenv.kindOf (c.nm x)=some .local)
  (hh:A.handled=none) (hd:A.depth<recursionLimit) (hX:∀a,Y0 a->¬FA eg a) (hXK:X0 K) (hYK:Y0 K) (hXG:Y0 GO) (hGK:GO≠K) (htot:tot.length<JC)
  (hGen:s4a.heap.IsGen GO gi)
  (fin:∀g' s',GInv c eg X0 Y0 r0 L σe g' s'->JA σe.hp (.p 99)=some (.list tot)->Kpp eg Y0 K gi s4a s'->AllBare s'.gens->Post (.ok .next) s')
  (I0:GLI c eg A X0 Y0 r0 L K gi tot σe s4a (tot.length+1) s4a):
  codeAny c.M A (.compLoop (.ListComp (.Name (c.nm x) ep) [⟨.Name (c.nm x) px,it,[],0⟩] scope pos) 0 (.ref GO) (.ref L) cenv) Post s4a:=by
 obtain⟨J,hJ,hJ'⟩:∃J:Nat->Shared->Prop,(∀n s,GLI c eg A X0 Y0 r0 L K gi tot σe s4a n s->J n s)/\∀n s,J n s->GLI c eg A X0 Y0 r0 L K gi tot σe s4a n s:=⟨_,fun J J h=>h,fun J J h=>h⟩
 refine codeAny_compLoop_tests (I:=J) (fun n s I=>?_) (tot.length+1) (hJ _ _ I0) (fun J=>rfl)
 generalize notedBy _ _ _ _=E';cases hJ' _ _ I with
 |mk g U dn fR gs hn I e9 hK1 hg1 hgo1=>
  have hGs:s.heap.IsGen GO gi:=by
   obtain⟨o,nm,qn,ho,q⟩:=hGen;exact⟨o,nm,qn,hK1.keep _ _ hXG hGK ho,q⟩
  have fG:gi<s.gens.size:=(Array.getElem?_eq_some_iff.mp hg1).1;obtain⟨mm,hmm⟩:=hK1.ns;refine wpAny_pyNext_gen (Y:=WJ c eg X0 Y0 r0 L tot) (P:=TD c eg X0 Y0 r0 L tot σe) (n:=fR.length) hh (O.noLimit I.rel) hd hGs hg1 (hgo1 g _ (I.toksGens rfl rfl)) (fun v ek gs' hY=>?_) (fun ek hP h' hk'=>?_)
  ·obtain⟨eu,U1a,w,dn',rest',I1a,hdn',ht',hrl,hv,hKp,hkap⟩:=hY
   have hkg:ek.gens=s.gens.setIfInBounds gi .running:=aM Prod.fst hKp.2.1;have hXg:∀a,X0 a->eu.X a:=fun a h=>by rw[I1a.X];exact h
   have hmm1:(ek.setGen gi gs').heap.Ns cenv.locals mm:=hK▸hmm.at fun p e=>hKp.1 _ _ hYK e
   -- the name takes the value
   refine cD (wpAny_storeName_local hkx hmm1 (fun h2a hn2 hs2a=>?_) (by rw[VV.kind];rfl))
   rw[List.forIn_nil];refine qC ?_;rw[aR rfl];refine ei (cb VV.kind hkx hn2 (v:=v) (aR rfl) ?_) (O.noDbg x);rw[hK] at hn2 hs2a;have hk2a:∀b p,¬b=K->(ek.setGen gi gs').heap.get? b=some p->h2a.get? b=some p:=fun b p hb e=>(hs2a.2 b hb).trans e
   have fE:Rel c eg eu U1a { ek.setGen gi gs' with heap:=h2a,toks:=(ek.setGen gi gs').toks+1 }:=(I1a.toksGens (s':=ek.setGen gi gs') rfl rfl).rel.changed (D:=(·=K)) (fun a e=>hXg a (e▸hXK)) hk2a (fun a e=>hn2.elim fun oK z0=>z0.elim fun J z0=>z0.elim fun J z0=>z0.elim fun h J=>⟨oK,e▸h⟩) (fun a e=>e▸hX K hYK) (xD _)
   have hnY:∀a,Y0 a->¬eu.W a/\∃o,h2a.get? a=some o:=fun a ha=>⟨(I1a.nY a ha).1,by
    by_cases hb:a=K
    ·obtain⟨oK,_,_,h,_⟩:=hn2
     exact⟨oK,hb▸h⟩
    ·exact(I1a.nY a ha).2.imp fun o e=>hk2a a o hb e⟩
   refine SY ⟨fE,I1a.X,I1a.r0,I1a.r9,hnY⟩ hdn' (hv.mono (fun a o z=>⟨hk2a _ _ (fun q=>z.2.2.1 (q▸hXg K hXK)) z.1,z.2⟩) fun J J z=>z) (Vp ht' htot) fun h3a hk3a I3a=>?_
   cases fR with
   |nil=>exact(hkap eu _ I3a).elim
   |cons w0 r0'=>
    exact⟨rest'.length+1,by rw[hn,hrl];exact xB _,hJ _ _ (.mk eu _ (dn'++[w]) rest' gs' rfl I3a ((J5 _ _ _ _).trans (aR rfl))
     ⟨fun a q n=>(hK1.up a q n).trans ((hKp.2.2 a q n).trans (.of fun o e=>hk3a _ _ (.inr q) (hk2a _ _ (fun z=>hX K hYK (.inr (z▸q))) e))),fun a o ha hne e=>hk3a _ _ (.inl ha) (hk2a _ _ hne (hKp.1 _ _ ha (hK1.keep _ _ ha hne e))),⟨_,hn2.at fun p e=>hk3a _ _ (.inl hYK) e⟩,(aM Prod.snd hKp.2.1).trans hK1.os,Yw (gs:=ek.gens) (hkg▸Yw hK1.bare)⟩ (Bz hkg fG)
     fun g'' s'' I''=>hrl.symm▸hkap g'' s'' I'')⟩
  ·obtain⟨eu,I1a,hKp,h9⟩:=hP
   have hkg:ek.gens=s.gens.setIfInBounds gi .running:=aM Prod.fst hKp.2.1;have hbr:∀j y,j≠gi->(ek.gens.setIfInBounds gi .finished)[j]?=some y->y.bare=true:=Yw (hkg▸Yw hK1.bare);refine fin eu _ ⟨I1a.rel.grow hk' I1a.rel.pos,I1a.X,I1a.r0,I1a.r9,fun a ha=>⟨(I1a.nY a ha).1,(I1a.nY a ha).2.imp fun o e=>hk' a o e⟩⟩ h9 ⟨fun a q n=>(hK1.up a q n).trans ((hKp.2.2 a q n).trans (.of fun o=>hk' a o)),fun a o ha hne e=>hk' _ _ (hKp.1 _ _ ha (hK1.keep _ _ ha hne e)),⟨mm,hmm.at fun p e=>hk' _ _ (hKp.1 _ _ hYK e)⟩,(aM Prod.snd hKp.2.1).trans hK1.os,hbr⟩ fun y hy=>?_
   obtain⟨j,hj⟩:=Array.getElem?_of_mem hy;by_cases hji:j=gi
   ·subst hji
    cases (Bz (x:=.finished) hkg fG).symm.trans hj;rfl
   ·exact hbr j y hji hj
end
def gX1(g:Gh)(GL GO L:Addr):Addr->Prop:=fun b=>g.X b\/b=GL\/b=GO\/b=L+1
def gX0(g:Gh)(el GO L:Addr):Addr->Prop:=fun b=>g.X b\/b=GO\/b=L+1\/b=el
theorem H7{p q r s t:Prop}:((p\/q\/r\/s)\/(t\/s)) ↔ ((p\/t\/q\/r)\/s):=
 ⟨fun h=>h.elim (fun h=>h.elim (fun h=>.inl (.inl h)) fun h=>h.elim (fun h=>.inl (.inr (.inr (.inl h)))) fun h=>h.elim (fun h=>.inl (.inr (.inr (.inr h)))) .inr) fun h=>h.elim (fun h=>.inl (.inr (.inl h))) .inr,
  fun h=>h.elim (fun h=>h.elim (fun h=>.inl (.inl h)) fun h=>h.elim (fun h=>.inr (.inl h)) fun h=>h.elim (fun h=>.inl (.inr (.inl h))) fun h=>.inl (.inr (.inr (.inl h)))) fun h=>.inl (.inr (.inr (.inr h)))⟩
section
variable{c:Cx}{r:Nat}{env fC eg cenv:Nv}{A:Around}{U U' U1a σG σe:St}{g g' eu:Gh}{s s' ek em:Shared}{E:Value->Shared->Prop}{Q:Flow->Shared->Prop}{v w:Vv}{i:Id}{GL GO L a:Addr}{mG:Str->Option Value}
theorem VR.all{F F':Addr->Obj->Prop}{ρ fT v x}(hF:∀a o,F a o->F' a o)(h:VR c F ρ v x):(∀i,Vv.no i v=true)->VR c F' fT v x:=
 VR.rec (motive_1:=fun v x J=>(∀i,Vv.no i v=true)->VR c F' fT v x) (motive_2:=fun l xs J=>(∀i,Vv.nos i l=true)->VRs c F' fT l xs) (fun J=>.none) (fun b J=>.bool b) (fun n t J=>.int n t) (fun s t J=>.str s t) (fun a b d J e h=>.tup (hF _ _ a) b d (e h)) (fun a J e h=>.list (hF _ _ a) (e h))
  (fun a b d J f e h=>.dict (hF _ _ a) b d (e h) f) (fun {j a} J h=>(qH (h j) rfl).elim) (fun f J=>.fn f) (fun a J=>.rng (hF _ _ a)) (fun a J b h=>.meth (hF _ _ a) (b h)) (fun J=>.nil) (fun J J a b h=>.cons (a fun i=>bA (h i) fun p J=>p) (b fun i=>bA (h i) fun J p=>p)) h
structure GCells(c:Cx)(env:Nv)(g:Gh)(U:St)(s:Shared)(GL GO L:Addr)(mG:Str->Option Value)(s':Shared):Prop where
 R:Rel c env g U s
 kk:∀b p,s.heap.get? b=some p->s'.heap.get? b=some p
 hGL:GL=s.heap.objs.size
 hGO:GL<GO
 hL:GO<L
 oGL:s'.heap.Ns GL mG
 oGO:∃o,s'.heap.get? GO=some o
 oL:IsL s'.heap L #[] 0
 oK:∃o,s'.heap.get? (L+1)=some o
 pos:0<s'.toks
theorem GCells.lt(G:GCells c env g U s GL GO L mG s'){b p}(e:s.heap.get? b=some p):b<GL:=G.hGL▸xP e
theorem GCells.xlt(G:GCells c env g U s GL GO L mG s'){b}(h:g.X b):b<GL:=(G.R.xob b h).elim fun J e=>G.lt e
theorem GCells.elt(G:GCells c env g U s GL GO L mG s'):env.locals<GL:=(G.R.fob _ .own).elim fun J e=>G.lt e
structure OnF(env eg:Nv)(GL:Addr):Prop where
 l:eg.locals=GL
 fs:∀a,Fs env a ↔ a=env.locals
 fg:∀a,Fs eg a ↔ a=GL\/a=env.locals
theorem OnF.fa{env eg GL}(o:OnF env eg GL)(a):FA env a ↔ a=env.locals:=⟨fun q=>q.elim id (o.fs a).mp,.inl⟩
theorem OnF.fe{env eg GL}(o:OnF env eg GL)(a):FA eg a ↔ a=GL\/a=env.locals:=⟨fun q=>q.elim (fun q=>.inl (q.trans o.l)) (o.fg a).mp,fun q=>.inr ((o.fg a).mpr q)⟩
theorem GCells.nEg(G:GCells c env g U s GL GO L mG s')(o:OnF env eg GL)(b)(hb:b=GO\/b=L+1):¬FA eg b:=fun q=>by
 have h1:=bT G.hGO G.hL;have h2:=G.elt;rcases (o.fe b).mp q with rfl|rfl
 ·exact hb.elim (qP G.hGO) (qP (qT h1))
 ·exact hb.elim (qP (bT h2 G.hGO)) (qP (qT (bT h2 h1)))
abbrev gY0(env:Nv)(g:Gh)(s:Shared)(GO L:Addr):Addr->Prop:=fun b=>(b=GO\/b=L+1)\/∃o,Tactic.Fz env g s.heap b o
abbrev gG(g:Gh)(el GO L:Addr):Gh:={ (g.add (.p 99) L L) with X:=gX0 g el GO L }
theorem SX(G:GCells c env g U s GL GO L mG s')(hnop:99∉U.ps)(hself:∃x,mG (c.nm 0)=some x/\VR c (Tactic.Fz env g s.heap) g.rho (.obj (.t 0)) x)(ha:g.rho (.t 0)=some a)(hl:OnF env eg GL)(hk0:eg.kindOf (c.nm 0)=some .local)
  (hUG:σG.loc=[(0,.obj (.t 0))]/\(∀i o,JA σG.hp i=some o->JA ((Id.p 99,Ob.list [])::U.hp) i=some o)/\U.nx<=σG.nx/\∀k,k∈99::U.ps->k∈σG.ps):GInv c eg (gX0 g env.locals GO L) (gY0 env g s GO L) a L σG (gG g env.locals GO L) s':=by
 have hGLL:=bT G.hGO G.hL;have RH:Rel c env (g.hid fun b=>b=GL\/b=GO\/b=L\/b=L+1) U s':=G.R.hide G.kk (fun b d=>by
   rw[<- G.hGL];exact d.elim (fun d=>qU d.symm) fun d=>d.elim (fun d=>xF (d▸G.hGO)) fun d=>d.elim (fun d=>xF (d▸hGLL)) fun d=>xF (d▸qT hGLL))
  (fun b d=>d.elim (fun d=>d▸nsO G.oGL) fun d=>d.elim (fun d=>d▸G.oGO) fun d=>d.elim (fun d=>⟨_,d▸G.oL⟩) fun d=>d▸G.oK) G.pos
 have RL:Rel0 c env (({ g with X:=gX1 g GL GO L }:Gh).add (.p 99) L L) { U with hp:=(.p 99,.list [])::U.hp,ps:=99::U.ps } s'.heap:=
  Rel0.live (ob:=.list []) (X:=gX1 g GL GO L) RH.toRel0 (fun b h=>h.elim .inl fun h=>.inr (h.elim .inl fun h=>.inr (h.elim .inl fun h=>.inr (.inr h)))) (.inr (.inr (.inr (.inl rfl))))
   (fun h=>h.elim (fun h=>dW (G.xlt h) hGLL) fun h=>h.elim (b6 hGLL) fun h=>h.elim (b6 G.hL) fun h=>qP (xB L) h) (fun h=>dW (show L<GL from (show L=env.locals from (hl.fa L).mp h)▸G.elt) hGLL)
   (G.R.ps 99 hnop) (fun kF kr=>⟨rfl,#[],0,G.oL,.nil⟩) ⟨rfl,rfl,qF _,fun k hk=>.tail _ hk,.head _⟩
 have r0:(gG g env.locals GO L).rho (.t 0)=some a:=(aM (Option.map Prod.fst) (show (g.add (.p 99) L L).cs (.t 0)=g.cs (.t 0) from rfl)).trans ha;have RV:Rel c eg (gG g env.locals GO L) { ({ U with hp:=(.p 99,.list [])::U.hp,ps:=99::U.ps }:St) with loc:=[(0,.obj (.t 0))] } s':=
  Rel.view (g':=gG g env.locals GO L) (l:=[(0,.obj (.t 0))]) (⟨RL,G.pos⟩:Rel c env (({ g with X:=gX1 g GL GO L }:Gh).add (.p 99) L L) _ s') (fun b=>by
   rw[hl.fa b,hl.fe b];exact H7) rfl rfl (fun b q=>((hl.fg b).mp q).elim (fun q=>q▸G.oGL.frd) fun q=>(G.R.frd b ((hl.fs b).mpr q)).sl (.of fun o=>G.kk b o)) (hl.l▸G.oGL) fun i v e=>by
    by_cases e0:0=i
    ·cases (aR e0).symm.trans e
     subst e0;obtain⟨x,hx,hr⟩:=hself;obtain⟨b,rfl,hb⟩:=hr.objR;cases hb.symm.trans ha;exact⟨fun J=>⟨_,hx,.obj r0⟩,fun z=>nomatch hk0.symm.trans z⟩
    ·exact nn ((aN e0).symm.trans e)
 exact⟨RV.sub (fun i v e=>by rw[hUG.1] at e;exact e) hUG.2.1 hUG.2.2.1 hUG.2.2.2,rfl,r0,Gh.add_rho (g:={ g with X:=gX0 g env.locals GO L }),fun b hb=>hb.elim (fun h=>have h:gX0 g env.locals GO L b:=.inr (h.elim .inl fun h=>.inr (.inl h));⟨fun w=>(RV.dis b w).1 h,RV.xob b h⟩) fun z0=>z0.elim fun o z=>⟨fun w=>w.elim z.2.1 fun w=>dW (w▸G.lt z.1:L<GL) hGLL,o,G.kk b o z.1⟩⟩
theorem MO(O:c.Ok)(VV:EnvOk env){n np tot loc' mm}(G:GCells c env g U s GL GO L mG ek)(ha:g.rho (.t 0)=some a)(hl:OnF env eg GL)(hk:env.kindOf (c.nm n)=some .local)(I:GInv c eg (gX0 g env.locals GO L) (gY0 env g s GO L) a L σe g' s')
  (h9:JA σe.hp (.p 99)=some (.list tot)) (hnos:Vv.nos (.p 99) tot=true) (hkp:∀b p,gY0 env g s GO L b->b≠L+1->s.heap.get? b=some p->s'.heap.get? b=some p) (hup:Sl env.locals s.heap s'.heap) (hmm:s'.heap.Ns (L+1) mm)
  (hloc':∀i v,JA loc' i=some v->JA U.loc i=some v/\env.kindOf (c.nm i)=some .local/\(v=.obj (.t 0)\/∀j,Vv.no j v=true))
  (N:∀s'' g',gos s''=gos s'->Rel c env g' (({ σe with loc:=loc' }:St).sb 99 (.list tot)|>.setLoc n (.list tot)) s''->Q .next s''):
  compPost c.M A E (some (assign (.Name (c.nm n) np) env)) (fun J s'=>Q .next s') (.ref L) (L+1) (.ok .next) s':=by
 obtain⟨mloc,hmloc,hll⟩:=G.R.loc;have RE:Rel c env { g' with X:=gX1 g GL GO L } { σe with loc:=loc' } s':=I.rel.view (g':={ g' with X:=gX1 g GL GO L }) (fun b=>by
   rw[I.X,hl.fa b,hl.fe b];exact H7.symm) rfl rfl (fun b q=>I.rel.frd b ((hl.fg b).mpr (.inr ((hl.fs b).mp q)))) (hmloc.sl hup) fun i v e=>by
  obtain⟨e1,e2,e3⟩:=hloc' i v e;obtain⟨y,hy,hyr⟩:=(hll i v e1).1 e2;refine⟨fun J=>⟨y,hy,?_⟩,fun z=>nomatch e2.symm.trans z⟩
  rcases e3 with rfl|hno
  ·obtain⟨b,rfl,hb⟩:=hyr.objR
   cases hb.symm.trans ha;exact .obj I.r0
  ·refine VR.all (fun b o z=>?_) hyr hno
   have hb:=G.lt z.1;have h1:b<L:=bT hb (bT G.hGO G.hL);exact⟨hkp b o (.inr ⟨o,z⟩) (qP (qT h1)) z.1,(I.nY b (.inr ⟨o,z⟩)).1,fun q=>q.elim z.2.2.1 fun q=>q.elim (qP hb) fun q=>q.elim (qP (bT hb G.hGO)) (qP (qT h1)),z.2.2.2⟩
 obtain⟨R',HL⟩:=ZF RE (by exact h9) hnos
 have hK:gX1 g GL GO L (L+1):=.inr (.inr (.inr rfl));have hGLL:=bT G.hGO G.hL;have hnK:¬FA env (L+1):=fun q=>dW (qT hGLL) (show L+1<GL from (show L+1=env.locals from (hl.fa _).mp q)▸G.elt)
 show wpAny _ _ (assign (.Name (c.nm n) np) env (.ref L)) _ _ _;refine cD (Ux O VV hk R' (HL L I.r9) fun s'' R'' E''=>⟨mm,hmm.at fun p e=>(E''.fz _ _ e (fun w=>(R'.dis _ w).1 hK) hnK).1,fun h' hs'=>?_⟩)
 have hkd:∀b p,¬b=L+1->s''.heap.get? b=some p->h'.get? b=some p:=fun b p hb e=>(hs'.2 b hb).trans e
 exact N _ _ E''.gens (R''.drop (D:=(·=L+1)) (X:=fun b=>g.X b\/b=GL\/b=GO) (s':={ s'' with heap:=h' }) (fun b h=>h.elim .inl fun h=>.inr (h.elim .inl fun h=>.inr (.inl h))) (fun b h=>h▸hK)
  (fun b h q=>h.elim (fun h=>dW (show L+1<GL from q▸G.xlt h) (qT hGLL)) fun h=>h.elim (fun h=>qP (qT hGLL) (h.symm.trans q)) fun h=>qP (qT G.hL) (h.symm.trans q)) hkd (fun b h=>h▸hnK) R''.pos)
abbrev gNv(fd:FuncData)(GL a:Addr)(env:Nv):Nv:=⟨U7 fd GL a,U7 fd GL a::env.fs⟩
theorem Se(O:c.Ok)(VV:EnvOk env)(VC:Xr env){kn}(hkn:∀x,env.kindOf x=kn x){f x nt n ep px tp np pos spos scope fd Cl fs S0 t1 t2 t3 ye b2 p1 p2 p3 yp epos C m m0 UG1 tot loc'}
  (hk:env.kindOf (c.nm n)=some .local) (hkt:env.kindOf (c.nm nt)=some .local) (hsc:WT c scope kn x=true) (hsw:XS (c.nm n) np (.ListComp (.Name (c.nm x) ep) [⟨.Name (c.nm x) px,.Name (c.nm nt) tp,[],0⟩] scope pos)=true)
  (hnI:findIn c.K (.ref (c.cA Cl)) "__iter__"=some (some (.ref (c.fA f)))) (hfI:typeIn c.K (.ref (c.fA f))=some (.type "function"))
  (G:GenAt c f fd [S0,.While t1 (Qu t2 t3 ye b2 p2 p3 yp epos) [] p1])
  (HG:∀GL,JQ c r (gNv fd GL (c.fA f) env) S0 (exc C m0)/\JX c r (gNv fd GL (c.fA f) env) t1 (tst C m.t1)/\JX c r (gNv fd GL (c.fA f) env) t2 (tst C m.t2)/\JX c r (gNv fd GL (c.fA f) env) t3 (tst C m.t3)/\JE c r (gNv fd GL (c.fA f) env) ye (ev C m.e)) (hF:∀a,Fs env a ↔ a=env.locals)
  (hr:JM env A 2) (hrI:JM env A.in1 (r+2)) (ht:JA U.loc nt=some (.obj (.t 0))) (hob:JA U.hp (.t 0)=some (.inst Cl fs)) (hnop:99∉U.ps)
  (hUG:σG.loc=[(0,.obj (.t 0))]/\(∀i o,JA σG.hp i=some o->JA ((Id.p 99,Ob.list [])::U.hp) i=some o)/\U.nx<=σG.nx/\∀k,k∈99::U.ps->k∈σG.ps) (hG99:JA σG.hp (.p 99)=some (.list []))
  (h0:exc C m0 σG=some (.next,UG1)) (GRun:GR C m true UG1 [] tot σe) (htot:tot.length<JC) (hnos:Vv.nos (.p 99) tot=true)
  (hloc':∀i v,JA loc' i=some v->JA U.loc i=some v/\env.kindOf (c.nm i)=some .local/\(v=.obj (.t 0)\/∀j,Vv.no j v=true))
  (R:Rel c env g U s) (hAB:AllBare s.gens)
  (N:∀s' g',s'.os=s.os->AllBare s'.gens->Rel c env g' (({ σe with loc:=loc' }:St).sb 99 (.list tot)|>.setLoc n (.list tot)) s'->Q .next s'):
  wpAny c.M A (exec (.Assign [.Name (c.nm n) np] (.ListComp (.Name (c.nm x) ep) [⟨.Name (c.nm x) px,.Name (c.nm nt) tp,[],0⟩] scope pos) spos) env) Q E s:=by
 obtain⟨cl,F,-⟩:=Kr O ⟨VV,VC,hkn⟩ hsc;have hsw':swapsWith (.ListComp (.Name (c.nm x) ep) [⟨.Name (c.nm x) px,.Name (c.nm nt) tp,[],0⟩] scope pos) (some (.Name (c.nm n) np)) spos.line env=pure true:=by
  show (pure (env.blockKind==.function&&env.kindOf (c.nm n)==some .local&&np.line==pos.line&&!(scope.names.any fun (a,k)=>a==c.nm n&&(k==.local||k==.cell))):Sem Bool)=pure true
  have hb:(env.blockKind==ScopeKind.function)=true:=by unfold Env.blockKind;rw[VV.kind];rfl
  exact bA hsw fun h1 h2=>by rw[hb,hk,h1,h2];rfl
 rw[exec_Assign_Name_used _ _ _ _ hsw'];refine qB (qV (qB ?_));show wpAny _ A (do let _ <- comprehension (.ListComp (.Name (c.nm x) ep) [⟨.Name (c.nm x) px,.Name (c.nm nt) tp,[],0⟩] scope pos) scope env _ (newList []) false (eval (.Name (c.nm nt) tp) env) (some (assign (.Name (c.nm n) np) env))) _ _ s
 refine qB (xT (wpAny_comprehension_free (Q:=fun J s'=>Q .next s') (use:=some (assign (.Name (c.nm n) np) env)) rfl (fun J=>rfl) F.clos F.kind F.names ?_) (fun J s' hq=>qC (qC hq)) fun J J e=>e)
 -- t
 obtain⟨mloc,hmloc,hl⟩:=R.loc;obtain⟨tv,htv,htr⟩:=(hl nt _ ht).1 hkt;refine ei (cb VV.kind hkt hmloc htv ?_) (O.noDbg nt);obtain⟨a,rfl,ha⟩:=htr.objR;refine AT O hnI hfI R hob ha (MP O G hr R fun em GO mG kk2 hGO hnsG hself hGen hgens hos2 htk=>⟨"generator",_,hGen.typeIs,slot_gen_next.lookup,?_⟩)
 refine wpAny_newObj_type (wpAny_newFunctionEnv F.noCell (fun y hy=>nomatch hy) (fun h1a hns1 hsb1=>?_) F.kind)
 have e2:(em.heap.push { cls:=.type "list",dict:=none,data:=.seq ([]:List Value).toArray }).objs.size=em.heap.objs.size+1:=ee ..;dsimp only at hns1 hsb1 ⊢;rw[e2] at hns1 hsb1 ⊢;have hGOlt:GO<em.heap.objs.size:=by obtain⟨o,_,_,ho,_⟩:=hGen;exact xP ho
 have kH:∀b p,(em.heap.push { cls:=.type "list",dict:=none,data:=.seq ([]:List Value).toArray }).get? b=some p->h1a.get? b=some p:=fun b p e=>(hsb1.2 b (qP (e2▸xP e))).trans (qZ _ e)
 have k1:∀b p,em.heap.get? b=some p->h1a.get? b=some p:=fun b p e=>kH b p (qZ _ e)
 have GC:GCells c env g U s s.heap.objs.size GO em.heap.objs.size mG { em with heap:=h1a,toks:=em.toks+([]:List (Str×Value)).length }:=
  ⟨R,fun b p e=>k1 b p (kk2 b p e),rfl,hGO,hGOlt,hnsG.keeps k1,hGen.imp fun o z=>z.elim fun J z=>z.elim fun J z=>k1 _ _ z.1,kH _ _ (qY _ rfl),hns1.elim fun o z0=>z0.elim fun J z0=>z0.elim fun J z0=>z0.elim fun ho J=>⟨o,ho⟩,htk⟩
 have hon:OnF env (gNv fd s.heap.objs.size (c.fA f) env) s.heap.objs.size:=⟨rfl,hF,fun a=>by
  show a∈(U7 fd s.heap.objs.size (c.fA f)::env.fs).filterMap (·.frame) ↔ _
  rw[bc];exact aZ.trans (or_congr Iff.rfl (hF a))⟩
 have I0:=SX (eg:=gNv fd s.heap.objs.size (c.fA f) env) GC hnop ⟨_,hself,.obj ha⟩ ha hon G.plocal hUG;have hX:∀b,gY0 env g s GO em.heap.objs.size b->¬FA (gNv fd s.heap.objs.size (c.fA f) env) b:=fun b hb=>hb.elim (GC.nEg hon b) fun z0 q=>z0.elim fun o z=>((hon.fe b).mp q).elim (qP (GC.lt z.1)) fun q=>z.2.2.2 (.inl q)
 have hlK:env.locals≠em.heap.objs.size+1:=qP (qT (bT GC.elt (bT GC.hGO GC.hL)));have loop:codeAny c.M A (.compLoop (.ListComp (.Name (c.nm x) ep) [⟨.Name (c.nm x) px,.Name (c.nm nt) tp,[],0⟩] scope pos) 0 (.ref GO) (.ref em.heap.objs.size) (compEnvC scope cl (em.heap.objs.size+1) env))
   (compPost c.M A E (some (assign (.Name (c.nm n) np) env)) (fun J s'=>Q .next s') (.ref em.heap.objs.size) (em.heap.objs.size+1)) { em with heap:=h1a,toks:=em.toks+([]:List (Str×Value)).length }:=
  Eo (cenv:=cNv scope cl (em.heap.objs.size+1) env) (gi:=s.gens.size) (tot:=tot) (σe:=σe) O ⟨F.kind,VV.glob,VV.blt,VV.frs,VV.top⟩ rfl (lookup_relabel_local F.hx) hr.1 (qL (qK _ _) hr.2.1) hX (.inr (.inr (.inl rfl))) (.inl (.inr rfl)) (.inl (.inl rfl)) (qP (qT hGOlt)) htot (hGen.keeps k1)
   (fun g' s' I h9 hkp hab=>hkp.ns.elim fun mm hmm=>MO O VV GC ha hon hk I h9 hnos (fun b p hb hne e=>hkp.keep _ _ hb hne (GC.kk _ _ e)) ((Sl.of fun o=>GC.kk _ o).trans (hkp.up _ ((hon.fg _).mpr (.inr rfl)) (qP GC.elt))) hmm hloc' fun s'' g' hg R''=>N s'' g' ((aM Prod.snd hg).trans (hkp.os.trans hos2)) (by rw[show s''.gens=s'.gens from aM Prod.fst hg];exact hab) R'')
   (.mk _ σG [] tot (.fresh (.func [S0,.While t1 (Qu t2 t3 ye b2 p2 p3 yp epos) [] p1] (U7 fd s.heap.objs.size (c.fA f)))) rfl I0 hG99 ⟨fun J J J=>.of fun J e=>e,fun J J J J e=>e,⟨_,hns1⟩,rfl,fun j y hj e=>hAB y (Array.mem_of_getElem? ((Array.getElem?_push.symm.trans (hgens▸e:(s.gens.push _)[j]?=some y))|> fun q=>(aN hj).symm.trans q))⟩ (by
    show em.gens[s.gens.size]?=_;rw[hgens,Array.getElem?_push_size])
    fun g'' s'' I''=>(HG s.heap.objs.size).elim fun H0 z0=>z0.elim fun H1 z0=>z0.elim fun H2 z0=>z0.elim fun H3 H4=>⟨rfl,CV hX hrI rfl H0 H1 H2 H3 H4 G.co (D6 (VV.on (e:=U7 fd s.heap.objs.size (c.fA f)) G.kind G.glob G.blt rfl)) h0 GRun I''⟩)
 exact codeAny_compStart_list loop (wpAny_pyIter_gen (hGen.keeps k1) loop)
end
end Mine.Tactic
end
noncomputable section
namespace Mine.Tactic
inductive Rz where
 |done (f:FL) (U:St)
 |fail
 |v (x:Option Vv) (k:Vv->Rz)
 |b (x:Option Bool) (k:Bool->Rz)
 |c (x:Option (Vv×St)) (k:Vv->St->Rz)
 |f (x:Option (FL×St)) (k:FL->St->Rz)
 |l (x:Option (List Vv×St)) (k:List Vv->St->Rz)
 |o (x:Option Ob) (k:Ob->Rz)
 |g (b:Bool) (r:Rz)
noncomputable def sem:Rz->Option (FL×St)
 |.done f U=>some (f,U)
 |.fail=>none
 |.v x k=>bo x fun a=>sem (k a)
 |.b x k=>bo x fun a=>sem (k a)
 |.c x k=>bn x fun a U=>sem (k a U)
 |.f x k=>bn x fun a U=>sem (k a U)
 |.l x k=>bn x fun a U=>sem (k a U)
 |.o x k=>bo x fun a=>sem (k a)
 |.g b r=>gd b (sem r)
noncomputable def boK{α:Type}(x:Option α)(f:α->Rz):Rz:=match x with
 |some a=>f a
 |none=>.fail
noncomputable def noK{α:Type}(o:Option α)(x:Rz):Rz:=match o with
 |none=>x
 |some _=>.fail
def W8(U:St)(v:Vv)(f:Id->List Vv->Rz):Rz:=match v with
 |.obj id=>.o (JA U.hp id) fun o=>match o with
  |.list l=>f id l
  |_=>.fail
 |_=>.fail
def U3(U:St)(C:Nat)(v:Vv)(f:Id->List (Nat×Vv)->Rz):Rz:=match v with
 |.obj id=>.o (JA U.hp id) fun o=>match o with
  |.inst D fs=>.g (Nat.beq D C) (f id fs)
  |_=>.fail
 |_=>.fail
noncomputable def Dw(v:Vv)(f:Nat->Vv->Rz):Rz:=match v with
 |.meth g s=>f g s
 |_=>.fail
noncomputable def Zs(v:Vv)(f:Vv->Rz):Rz:=match v with
 |.fn k=>f (.fn k)
 |_=>.fail
noncomputable def Na(v:Vv)(f:LN->Rz):Rz:=match v with
 |.str s=>f s
 |_=>.fail
noncomputable def Nb(v:Vv)(f:Int->Rz):Rz:=match v with
 |.int s=>f s
 |_=>.fail
noncomputable def ifK(c:Bool)(t f:Rz):Rz:=match c with
 |true=>t
 |false=>f
def I2(z:Bool)(l:List Vv)(k:Vv->List Vv->Rz):Rz:=match z with
 |false=>.g (Nat.ble l.length JC) (boK l.getLast? fun y=>k y l.dropLast)
 |true=>(match l with
  |[]=>.fail
  |y::l=>.g (Nat.blt l.length JC) (k y l))
def saK(U:St)(n C:Nat)(o v:Vv)(f:St->Rz):Rz:=U3 U C o fun id fs=>.g (Nat.blt fs.length 400) (f (U.setOb id (.inst C (put fs n v))))
def siK(U:St)(o i v:Vv)(f:St->Rz):Rz:=match o with
 |.obj id=>.o (JA U.hp id) fun b=>match b with
  |.dict ks vs=>Na i fun x=>boK (Q3 ks vs x) fun J=>.g (Nat.ble ks.length 1000) (f (U.setOb id (.dict ks (XY ks vs x v))))
  |.list l=>Nb i fun k=>.g (Nat.ble l.length JC) (boK (Q6 l.length k) fun j=>.g (Nat.blt j l.length) (f (U.setOb id (.list (l.set j v)))))
  |.inst _ _=>.fail
 |_=>.fail
def Be(U:St)(v:Vv)(f:List Vv->Rz):Rz:=match v with
 |.list l=>f l
 |.obj id=>W8 U (.obj id) fun J l=>f l
 |_=>.fail
def KJ(U:St)(o:Bop)(a b:Vv)(f:Vv->St->Rz):Rz:=match a with
 |.int i=>.v (Jk U o (.int i) b) fun w=>f w U
 |.str s=>.v (Jk U o (.str s) b) fun w=>f w U
 |.obj id=>.g o.isAdd (W8 U (.obj id) fun id l=>Be U b fun l'=>.g (Nat.ble (l.length+l'.length) JC) (f (.obj id) (U.setOb id (.list (l++l')))))
 |_=>.fail
def Oy(m:Bool)(x:Option Vv)(k:Vv->Rz):Rz:=match m with
 |true=>.v x k
 |false=>boK x k
mutual
noncomputable def evK(m:Bool)(C:Ora):ME->St->(Vv->St->Rz)->Rz
 |.k v=>fun U k=>k v U
 |.glob v=>fun U k=>k v U
 |.loc n=>fun U k=>Oy m (JA U.loc n) fun v=>k v U
 |.attr e n D=>fun U k=>evK m C e U fun v U1a=>U3 U1a D v fun J fs=>boK (JA fs n) fun w=>k w U1a
 |.bm e n D f=>fun U k=>evK m C e U fun v U1a=>U3 U1a D v fun id fs=>noK (JA fs n) (k (.meth f (.obj id)) U1a)
 |.cat e n D i=>fun U k=>evK m C e U fun v U1a=>U3 U1a D v fun J fs=>noK (JA fs n) (k (.int i) U1a)
 |.call f as=>fun U k=>evsK m C as U fun vs U1a=>.c (C f vs U1a) k
 |.mcall e n D f as=>fun U k=>evK m C e U fun v U1a=>U3 U1a D v fun id fs=>noK (JA fs n) (evsK m C as U1a fun vs U2a=>.c (C f (.obj id::vs) U2a) k)
 |.fcall e n D as=>fun U k=>evK m C e U fun v U1a=>U3 U1a D v fun J fs=>boK (JA fs n) fun w=>Dw w fun f self=>evsK m C as U1a fun vs U2a=>.c (C f (self::vs) U2a) k
 |.new D f as lv=>fun U k=>evsK m C as U fun vs U1a=>.c (U1a.alloc lv (.inst D [])) fun v U2a=>.c (C f (v::vs) U2a) fun r fI=>.g (ZC r) (k v fI)
 |.bi b as=>fun U k=>evsK m C as U fun vs U1a=>.v (biV U1a b vs) fun w=>k w U1a
 |.sm w e as=>fun U k=>evK m C e U fun v U1a=>Na v fun s=>evsK m C as U1a fun vs U2a=>.v (smV U2a w s vs) fun u=>k u U2a
 |.app e x=>fun U k=>evK m C e U fun v U1a=>W8 U1a v fun id J=>evK m C x U1a fun y U2a=>W8 U2a (.obj id) fun J l=>.g (Nat.ble l.length JC) (k .none (U2a.setOb id (.list (l++[y]))))
 |.pop e as=>fun U k=>evK m C e U fun v U1a=>W8 U1a v fun id l=>boK (DW as) fun z=>I2 z l fun y l'=>k y (U1a.setOb id (.list l'))
 |.cmp o l r=>fun U k=>evK m C l U fun a U1a=>evK m C r U1a fun b U2a=>.b (Xh U2a o a b) fun c=>k (.bool c) U2a
 |.cmp2 o1a o2a l w r=>fun U k=>evK m C l U fun a U1a=>evK m C w U1a fun b U2a=>.b (QQ U2a o1a a b) fun c=>ifK c (evK m C r U2a fun d fI=>.b (QQ fI o2a b d) fun c=>k (.bool c) fI) (k (.bool false) U2a)
 |.bop o l r=>fun U k=>evK m C l U fun a U1a=>evK m C r U1a fun b U2a=>.v (Jk U2a o a b) fun w=>k w U2a
 |.neg e=>fun U k=>evK m C e U fun v U1a=>Nb v fun i=>k (.int (-i)) U1a
 |.not e=>fun U k=>evK m C e U fun v U1a=>.b (Jm U1a v) fun b=>k (.bool (!b)) U1a
 |.and a b=>fun U k=>evK m C a U fun v U1a=>.b (Jm U1a v) fun c=>ifK c (evK m C b U1a k) (k v U1a)
 |.or a b=>fun U k=>evK m C a U fun v U1a=>.b (Jm U1a v) fun c=>ifK c (k v U1a) (evK m C b U1a k)
 |.ite t b o=>fun U k=>evK m C t U fun v U1a=>.b (Jm U1a v) fun c=>ifK c (evK m C b U1a k) (evK m C o U1a k)
 |.sub e i=>fun U k=>evK m C e U fun v U1a=>evK m C i U1a fun x U2a=>.v (Qo U2a v x) fun w=>k w U2a
 |.sl e a b=>fun U k=>evK m C e U fun v U1a=>evK m C a U1a fun x U2a=>evK m C b U2a fun y fI=>.v (slV fI v x y) fun w=>k w fI
 |.lst es lv=>fun U k=>evsK m C es U fun vs U1a=>.c (U1a.alloc lv (.list vs)) k
 |.tup es=>fun U k=>evsK m C es U fun vs U1a=>k (.tup vs) U1a
 |.dct ks es lv=>fun U k=>evsK m C es U fun vs U1a=>.g (decide (ks.length=vs.length)&&decide ks.Nodup) (.c (U1a.alloc lv (.dict ks vs)) k)
 |.comp elt x it cond=>fun U k=>evK m C it U fun v U1a=>.l (bo (Uj v) fun l=>some (l,U1a)) fun l J=>.g (Nat.ble l.length JC) (.l (Jt (Jj (ev C elt) (ev C cond) x U1a.loc) l U1a) fun r U2a=>k (.list r) U2a)
 |.isb e=>fun U k=>evK m C e U fun v U1a=>boK (WF v) fun J=>k (.bool true) U1a
 |.fat e _ w=>fun U k=>evK m C e U fun v U1a=>Zs v fun J=>k w U1a
 |.fmc e _ f as=>fun U k=>evK m C e U fun v U1a=>Zs v fun v=>evsK m C as U1a fun vs U2a=>.c (C f (v::vs) U2a) k
 |.inf l r f=>fun U k=>evK m C l U fun a U1a=>evK m C r U1a fun b U2a=>Zs b fun b=>.c (C f [b,a] U2a) fun v fI=>boK (WF v) fun q=>k (.bool q) fI
 |.ink e _ ks=>fun U k=>evK m C e U fun v U1a=>.b (KK ks v) fun q=>k (.bool q) U1a
noncomputable def evsK(m:Bool)(C:Ora):List ME->St->(List Vv->St->Rz)->Rz
 |[]=>fun U k=>k [] U
 |e::r=>fun U k=>evK m C e U fun v U1a=>evsK m C r U1a fun vs U2a=>k (v::vs) U2a
end
def XR(m:Bool)(C:Ora)(e:ME)(U:St)(k:Bool->St->Rz):Rz:=evK m C e U fun v U1a=>.b (Jm U1a v) fun b=>k b U1a
noncomputable def Hs(f:FL)(go:Rz)(o:FL->Rz):Rz:=match f with
 |.next=>go
 |f=>o f
mutual
noncomputable def TJ(m:Bool)(C:Ora):MS->St->(FL->St->Rz)->Rz
 |.ex e=>fun U k=>evK m C e U fun v U1a=>.g (TK v) (k .next U1a)
 |.asg n e=>fun U k=>evK m C e U fun v U1a=>k .next (U1a.setLoc n v)
 |.asgA t n D e=>fun U k=>evK m C e U fun v U1a=>evK m C t U1a fun o U2a=>saK U2a n D o v fun fI=>k .next fI
 |.asgS t i e=>fun U k=>evK m C e U fun v U1a=>evK m C t U1a fun o U2a=>evK m C i U2a fun x fI=>siK fI o x v fun U4a=>k .next U4a
 |.asgT ns e=>fun U k=>evK m C e U fun v U1a=>boK (WX v) fun vs=>boK (UI ns vs U1a) fun U2a=>k .next U2a
 |.asgTA t1a n1a D1a t2a n2a D2a e=>fun U k=>evK m C e U fun v U1a=>boK (OH v) fun p=>evK m C t1a U1a fun o1a U2a=>saK U2a n1a D1a o1a p.1 fun fI=>evK m C t2a fI fun o2a U4a=>saK U4a n2a D2a o2a p.2 fun U5a=>k .next U5a
 |.augN n o e=>fun U k=>Oy m (JA U.loc n) fun a=>evK m C e U fun b U1a=>KJ U1a o a b fun c U2a=>k .next (U2a.setLoc n c)
 |.augA t n D o e=>fun U k=>evK m C t U fun x U1a=>U3 U1a D x fun id fs=>boK (JA fs n) fun a=>evK m C e U1a fun b U2a=>KJ U2a o a b fun c fI=>saK fI n D (.obj id) c fun U4a=>k .next U4a
 |.augS t i o e=>fun U k=>evK m C t U fun x U1a=>evK m C i U1a fun j U2a=>.v (Qo U2a x j) fun a=>evK m C e U2a fun b fI=>KJ fI o a b fun c U4a=>siK U4a x j c fun U5a=>k .next U5a
 |.iff t b o=>fun U k=>XR m C t U fun c U1a=>ifK c (exsK m C b U1a k) (exsK m C o U1a k)
 |.whl t b=>fun U k=>.f (Jh (tst C t) (exs C b) J2 U) k
 |.for x it b=>fun U k=>evK m C it U fun v U1a=>.l (bo (Uj v) fun l=>some (l,U1a)) fun l J=>.f (Qa (fun v U=>some (U.setLoc x v)) (exs C b) l U1a) k
 |.forT xs it b=>fun U k=>evK m C it U fun v U1a=>.l (bo (Uj v) fun l=>some (l,U1a)) fun l J=>.f (Qa (fun v U=>bo (WX v) fun vs=>UI xs vs U) (exs C b) l U1a) k
 |.ret e=>fun U k=>evK m C e U fun v U1a=>k (.ret v) U1a
 |.pass=>fun U k=>k .next U
 |.brk=>fun U k=>k .brk U
 |.cont=>fun U k=>k .cont U
 |.asrt e=>fun U k=>XR m C e U fun c U1a=>.g c (k .next U1a)
 |.dead=>fun J J=>.fail
 |.tryS b=>fun U k=>exsK m C b U k
 |.isx d=>fun U k=>.f (exc C (.isx d) U) k
 |.tryK n q f e b=>fun U k=>.f (exc C (.tryK n q f e b) U) k
noncomputable def exsK(m:Bool)(C:Ora):List MS->St->(FL->St->Rz)->Rz
 |[]=>fun U k=>k .next U
 |s::r=>fun U k=>TJ m C s U fun f U1a=>Hs f (exsK m C r U1a k) fun f=>k f U1a
end
def Sim{α:Type}(m:(α->St->Rz)->Rz)(x:Option (α×St)):Prop:=∀k,sem (m k)=bn x fun a U=>sem (k a U)
namespace Sim
variable{α β γ:Type}{x:Option (α×St)}{m:(α->St->Rz)->Rz}{U:St}
theorem pure{a:α}:Sim (fun k=>k a U) (some (a,U)):=fun J=>rfl
theorem bind{M:(β->St->Rz)->Rz}{m':α->St->(β->St->Rz)->Rz}{x':α->St->Option (β×St)}(h:Sim m x)(h':∀a U,Sim (m' a U) (x' a U))(e:M=fun k=>m fun a U=>m' a U k:=by rfl):Sim M (bn x x'):=fun k=>((aM sem (eM e k)).trans (h _)).trans (by
 cases x with
 |none=>rfl
 |some p=>exact h' _ _ k)
theorem av{x:Option Vv}{m':Vv->(β->St->Rz)->Rz}{x':Vv->Option (β×St)}(h':∀a,Sim (m' a) (x' a)):Sim (fun k=>.v x fun a=>m' a k) (bo x x'):=fun k=>by
 cases x with
 |none=>rfl
 |some p=>exact h' _ k
theorem ab{x:Option Bool}{m':Bool->(β->St->Rz)->Rz}{x':Bool->Option (β×St)}(h':∀a,Sim (m' a) (x' a)):Sim (fun k=>.b x fun a=>m' a k) (bo x x'):=fun k=>by
 cases x with
 |none=>rfl
 |some p=>exact h' _ k
theorem ac{x}:Sim (fun k=>.c x k) x:=fun J=>rfl
theorem af{x}:Sim (fun k=>.f x k) x:=fun J=>rfl
theorem al{x}:Sim (fun k=>.l x k) x:=fun J=>rfl
theorem ai{x:Option (List Vv)}{m':List Vv->(β->St->Rz)->Rz}{x':List Vv->Option (β×St)}(h':∀a,Sim (m' a) (x' a)):Sim (fun k=>.l (bo x fun l=>some (l,U)) fun l J=>m' l k) (bo x x'):=fun k=>by
 cases x with
 |none=>rfl
 |some p=>exact h' _ k
theorem gd{b}{m:(β->St->Rz)->Rz}{x:Option (β×St)}(h':Sim m x):Sim (fun k=>.g b (m k)) (gd b x):=fun k=>by
 cases b with
 |false=>rfl
 |true=>exact h' k
theorem bo{x:Option γ}{m':γ->(β->St->Rz)->Rz}{x':γ->Option (β×St)}(h':∀a,Sim (m' a) (x' a)):Sim (fun k=>boK x fun a=>m' a k) (bo x x'):=fun k=>by
 cases x with
 |none=>rfl
 |some p=>exact h' _ k
theorem lo{m:Bool}{x:Option Vv}{m':Vv->(β->St->Rz)->Rz}{x':Vv->Option (β×St)}(h':∀a,Sim (m' a) (x' a)):Sim (fun k=>Oy m x fun a=>m' a k) (Tactic.bo x x'):=by
 cases m
 ·exact .bo h'
 ·exact .av h'
theorem no{o:Option γ}{m:(β->St->Rz)->Rz}{x:Option (β×St)}(h':Sim m x):Sim (fun k=>noK o (m k)) (no o x):=fun k=>by
 cases o with
 |none=>exact h' k
 |some p=>rfl
theorem onO(x:Option Ob)(k:β->St->Rz){m:Ob->Rz}{x':Ob->Option (β×St)}(h:∀a,sem (m a)=bn (x' a) fun a U=>sem (k a U)):sem (.o x m)=bn (Tactic.bo x x') fun a U=>sem (k a U):=by
 cases x with
 |none=>rfl
 |some p=>exact h p
theorem onList{v:Vv}{m':Id->List Vv->(β->St->Rz)->Rz}{x':Id->List Vv->Option (β×St)}(h':∀i l,Sim (m' i l) (x' i l)):Sim (fun k=>W8 U v fun i l=>m' i l k) (onList U v x'):=fun k=>by
 cases v<;>first|rfl|skip
 exact onO (JA U.hp _) k fun o=>by cases o<;>first|exact h' _ _ k|rfl
theorem onInst{C:Nat}{v:Vv}{m':Id->List (Nat×Vv)->(β->St->Rz)->Rz}{x':Id->List (Nat×Vv)->Option (β×St)}(h':∀i l,Sim (m' i l) (x' i l)):Sim (fun k=>U3 U C v fun i l=>m' i l k) (onInst U C v x'):=fun k=>by
 cases v<;>first|rfl|skip
 exact onO (JA U.hp _) k fun o=>by cases o<;>first|exact Sim.gd (h' _ _) k|rfl
theorem sa{n C:Nat}{o v:Vv}{m':St->(β->St->Rz)->Rz}{x':St->Option (β×St)}(h':∀a,Sim (m' a) (x' a)):Sim (fun k=>saK U n C o v fun a=>m' a k) (Tactic.bo (W7 U n C o v) x'):=fun k=>by
 cases o<;>first|rfl|skip
 show sem (.o (JA U.hp _) _)=bn (Tactic.bo (Tactic.bo (JA U.hp _) _) x') _;generalize JA U.hp _=q;cases q with
 |none=>rfl
 |some o=>
             cases o<;>first|rfl|skip
             show sem (Rz.g (Nat.beq C_1 C) (.g (Nat.blt fs.length 400) _))=bn (Tactic.bo (Tactic.gd (Nat.beq C_1 C) (Tactic.gd (Nat.blt fs.length 400) (some _))) x') _;generalize Nat.beq C_1 C=p;generalize Nat.blt fs.length 400=q;cases p<;>first|rfl|skip
             cases q<;>first|rfl|exact h' _ k
theorem si{o i v:Vv}{m':St->(β->St->Rz)->Rz}{x':St->Option (β×St)}(h':∀a,Sim (m' a) (x' a)):Sim (fun k=>siK U o i v fun a=>m' a k) (Tactic.bo (U2 U o i v) x'):=fun k=>by
 cases o<;>first|rfl|skip
 show sem (.o (JA U.hp _) _)=bn (Tactic.bo (Tactic.bo (JA U.hp _) _) x') _;generalize JA U.hp _=q;cases q with
 |none=>rfl
 |some o=>
             cases o<;>first|rfl|skip
             ·cases i<;>first|rfl|skip
              show sem (.g (Nat.ble l.length JC) (boK (Q6 l.length i_1) fun j=>.g (Nat.blt j l.length) _))=bn (Tactic.bo (Tactic.gd (Nat.ble l.length JC) (Tactic.bo (Q6 l.length i_1) fun j=>Tactic.gd (Nat.blt j l.length) (some _))) x') _
              generalize Nat.ble l.length JC=p;cases p<;>first|rfl|skip
              generalize Q6 l.length i_1=q;cases q<;>first|rfl|skip
              show sem (.g (Nat.blt val l.length) _)=bn (Tactic.bo (Tactic.gd (Nat.blt val l.length) (some _)) x') _;generalize Nat.blt val l.length=p;cases p<;>first|rfl|exact h' _ k
             cases i<;>first|rfl|skip
             show sem (boK (Q3 ks vs s) fun J=>.g (Nat.ble ks.length 1000) _)=bn (Tactic.bo (Tactic.bo (Q3 ks vs s) fun J=>Tactic.gd (Nat.ble ks.length 1000) (some _)) x') _
             generalize Q3 ks vs s=p;generalize Nat.ble ks.length 1000=q;cases p<;>first|rfl|skip
             cases q<;>first|rfl|exact h' _ k
theorem onListOf{v:Vv}{m':List Vv->(β->St->Rz)->Rz}{x':List Vv->Option (β×St)}(h':∀l,Sim (m' l) (x' l)):Sim (fun k=>Be U v fun l=>m' l k) (Tactic.onListOf U v x'):=fun k=>by
 cases v<;>first|rfl|exact h' _ k|exact Sim.onList (U:=U) (v:=.obj _) (m':=fun J l=>m' l) (x':=fun J l=>x' l) (fun J l=>h' l) k
theorem iop{o a b}:Sim (fun k=>KJ U o a b k) (Ye U o a b):=fun k=>by
 cases a<;>first|rfl|exact Sim.av (m':=fun w k=>k w U) (fun J=>.pure) k|exact Sim.gd (.onList fun J J=>.onListOf fun J=>.gd .pure) k
theorem onMeth{v:Vv}{m':Nat->Vv->(β->St->Rz)->Rz}{x':Nat->Vv->Option (β×St)}(h':∀i l,Sim (m' i l) (x' i l)):Sim (fun k=>Dw v fun i l=>m' i l k) (onMeth v x'):=fun k=>by
 cases v<;>first|rfl|exact h' _ _ k
theorem onFn{v:Vv}{m':Vv->(β->St->Rz)->Rz}{x':Vv->Option (β×St)}(h':∀i,Sim (m' i) (x' i)):Sim (fun k=>Zs v fun i=>m' i k) (onFn v x'):=fun k=>by
 cases v<;>first|rfl|exact h' _ k
theorem onStr{v:Vv}{m':LN->(β->St->Rz)->Rz}{x':LN->Option (β×St)}(h':∀i,Sim (m' i) (x' i)):Sim (fun k=>Na v fun i=>m' i k) (onStr v x'):=fun k=>by
 cases v<;>first|rfl|exact h' _ k
theorem onInt{v:Vv}{m':Int->(β->St->Rz)->Rz}{x':Int->Option (β×St)}(h':∀i,Sim (m' i) (x' i)):Sim (fun k=>Nb v fun i=>m' i k) (onInt v x'):=fun k=>by
 cases v<;>first|rfl|exact h' _ k
theorem pop{z:Bool}{l:List Vv}{m':Vv->List Vv->(β->St->Rz)->Rz}{x':Vv->List Vv->Option (β×St)}(h':∀i l,Sim (m' i l) (x' i l)):Sim (fun k=>I2 z l fun i l=>m' i l k) (Tactic.bo (KD z l) fun p=>x' p.1 p.2):=fun k=>by
 cases z with
 |true=>cases l with
  |nil=>rfl
  |cons y l=>
   show sem (Rz.g (Nat.blt l.length JC) _)=bn (Tactic.bo (Tactic.gd (Nat.blt l.length JC) (some (y,l))) _) _;generalize Nat.blt l.length JC=q;cases q
   ·rfl
   ·exact h' _ _ k
 |false=>
  show sem (Rz.g (Nat.ble l.length JC) (boK l.getLast? _))=bn (Tactic.bo (Tactic.gd (Nat.ble l.length JC) (Tactic.bo l.getLast? fun y=>some (y,l.dropLast))) _) _
  generalize Nat.ble l.length JC=q;generalize l.getLast?=o;cases q
  ·rfl
  ·cases o
   ·rfl
   ·exact h' _ _ k
theorem if1{c:Bool}{mt mf:(β->St->Rz)->Rz}{xt xf:Option (β×St)}(hf:Sim mf xf)(ht:Sim mt xt):Sim (fun k=>ifK c (mt k) (mf k)) (match c with|false=>xf|true=>xt):=fun k=>by
 cases c
 ·exact hf k
 ·exact ht k
theorem if2{c:Bool}{mt mf:(β->St->Rz)->Rz}{xt xf:Option (β×St)}(ht:Sim mt xt)(hf:Sim mf xf):Sim (fun k=>ifK c (mt k) (mf k)) (match c with|true=>xt|false=>xf):=fun k=>by
 cases c
 ·exact hf k
 ·exact ht k
theorem sq{f go x}(h:Sim go x):Sim (fun k=>Hs f (go k) fun f=>k f U) (Ya f x U):=fun k=>by
 cases f<;>first|exact h k|rfl
end Sim
section
variable(m:Bool)(C:Ora)
theorem Jz(e):∀U,Sim (evK m C e U) (ev C e U):=
 ME.rec (motive_1:=fun e=>∀U,Sim (evK m C e U) (ev C e U)) (motive_2:=fun l=>∀U,Sim (evsK m C l U) (evs C l U))
  (fun J J=>.pure) (fun J J=>.lo fun J=>.pure) (fun J J=>.pure)
  (fun J J J h U=>.bind (h U) fun J J=>.onInst fun J J=>.bo fun J=>.pure)
  (fun J J J J h U=>.bind (h U) fun J J=>.onInst fun J J=>.no .pure)
  (fun J J J J h U=>.bind (h U) fun J J=>.onInst fun J J=>.no .pure)
  (fun J J h U=>.bind (h U) fun J J=>.ac)
  (fun J J J J J h h' U=>.bind (h U) fun J J=>.onInst fun J J=>.no (.bind (h' _) fun J J=>.ac))
  (fun J J J J h h' U=>.bind (h U) fun J J=>.onInst fun J J=>.bo fun J=>.onMeth fun J J=>.bind (h' _) fun J J=>.ac)
  (fun J J J J h U=>.bind (h U) fun J J=>.bind .ac fun J J=>.bind .ac fun J J=>.gd .pure)
  (fun J J h U=>.bind (h U) fun J J=>.av fun J=>.pure)
  (fun J J J h h' U=>.bind (h U) fun J J=>.onStr fun J=>.bind (h' _) fun J J=>.av fun J=>.pure)
  (fun J J h h' U=>.bind (h U) fun J J=>.onList fun J J=>.bind (h' _) fun J J=>.onList fun J J=>.gd .pure)
  (fun J J h J U=>.bind (h U) fun J J=>.onList fun J J=>.bo fun J=>.pop fun J J=>.pure)
  (fun J J J h h' U=>.bind (h U) fun J J=>.bind (h' _) fun J J=>.ab fun J=>.pure)
  (fun J J J J J h h' h'' U=>.bind (h U) fun J J=>.bind (h' _) fun J J=>.ab fun J=>.if1 .pure (.bind (h'' _) fun J J=>.ab fun J=>.pure))
  (fun J J J h h' U=>.bind (h U) fun J J=>.bind (h' _) fun J J=>.av fun J=>.pure)
  (fun J h U=>.bind (h U) fun J J=>.onInt fun J=>.pure)
  (fun J h U=>.bind (h U) fun J J=>.ab fun J=>.pure)
  (fun J J h h' U=>.bind (h U) fun J J=>.ab fun J=>.if1 .pure (h' _))
  (fun J J h h' U=>.bind (h U) fun J J=>.ab fun J=>.if2 .pure (h' _))
  (fun J J J h h' h'' U=>.bind (h U) fun J J=>.ab fun J=>.if2 (h' _) (h'' _))
  (fun J J h h' U=>.bind (h U) fun J J=>.bind (h' _) fun J J=>.av fun J=>.pure)
  (fun J J J h h' h'' U=>.bind (h U) fun J J=>.bind (h' _) fun J J=>.bind (h'' _) fun J J=>.av fun J=>.pure)
  (fun J J h U=>.bind (h U) fun J J=>.ac)
  (fun J h U=>.bind (h U) fun J J=>.pure)
  (fun J J J h U=>.bind (h U) fun J J=>.gd .ac)
  (fun J J J J J h J U=>.bind (h U) fun J J=>.ai fun J=>.gd (.bind .al fun J J=>.pure))
  (fun J h U=>.bind (h U) fun J J=>.bo fun J=>.pure)
  (fun J J J h U=>.bind (h U) fun J J=>.onFn fun J=>.pure)
  (fun J J J J h h' U=>.bind (h U) fun J J=>.onFn fun J=>.bind (h' _) fun J J=>.ac)
  (fun J J J h h' U=>.bind (h U) fun J J=>.bind (h' _) fun J J=>.onFn fun J=>.bind .ac fun J J=>.bo fun J=>.pure)
  (fun J J J h U=>.bind (h U) fun J J=>.ab fun J=>.pure)
  (fun J=>.pure) (fun J J h h' U=>.bind (h U) fun J J=>.bind (h' _) fun J J=>.pure) e
theorem K9(e U):Sim (XR m C e U) (tst C e U):=.bind (Jz m C e U) fun J J=>.ab fun J=>.pure
theorem NN(l):∀U,Sim (exsK m C l U) (exs C l U):=
 MS.rec_1 (motive_1:=fun e=>∀U,Sim (TJ m C e U) (exc C e U)) (motive_2:=fun l=>∀U,Sim (exsK m C l U) (exs C l U))
  (fun e U=>.bind (Jz m C e U) fun J J=>.gd .pure) (fun J e U=>.bind (Jz m C e U) fun J J=>.pure)
  (fun t J J e U=>.bind (Jz m C e U) fun J J=>.bind (Jz m C t _) fun J J=>.sa fun J=>.pure)
  (fun t i e U=>.bind (Jz m C e U) fun J J=>.bind (Jz m C t _) fun J J=>.bind (Jz m C i _) fun J J=>.si fun J=>.pure)
  (fun J e U=>.bind (Jz m C e U) fun J J=>.bo fun J=>.bo fun J=>.pure)
  (fun t J J t' J J e U=>.bind (Jz m C e U) fun J J=>.bo fun J=>.bind (Jz m C t _) fun J J=>.sa fun J=>.bind (Jz m C t' _) fun J J=>.sa fun J=>.pure)
  (fun J J e U=>.lo fun J=>.bind (Jz m C e U) fun J J=>.bind .iop fun J J=>.pure)
  (fun t J J J e U=>.bind (Jz m C t U) fun J J=>.onInst fun J J=>.bo fun J=>.bind (Jz m C e _) fun J J=>.bind .iop fun J J=>.sa fun J=>.pure)
  (fun t i J e U=>.bind (Jz m C t U) fun J J=>.bind (Jz m C i _) fun J J=>.av fun J=>.bind (Jz m C e _) fun J J=>.bind .iop fun J J=>.si fun J=>.pure)
  (fun t J J h h' U=>.bind (K9 m C t U) fun J J=>.if2 (h _) (h' _))
  (fun J J J J=>.af)
  (fun J it J J U=>.bind (Jz m C it U) fun J J=>.ai fun J=>.af)
  (fun J it J J U=>.bind (Jz m C it U) fun J J=>.ai fun J=>.af)
  (fun e U=>.bind (Jz m C e U) fun J J=>.pure)
  (fun J=>.pure) (fun J=>.pure) (fun J=>.pure)
  (fun e U=>.bind (K9 m C e U) fun J J=>.gd .pure) (fun J J=>rfl) (fun J h U=>h U) (fun J J=>.af) (fun J J J J J J J=>.af)
  (fun J=>.pure) (fun J J h h' U=>.bind (h U) fun J J=>.sq (h' _)) l
end
noncomputable def fw:Nat->Rz->Rz
 |0=>fun r=>r
 |n+1=>fun r=>match r with
  |.done f U=>.done f U
  |.fail=>.fail
  |.v x k=>boK x fun a=>fw n (k a)
  |.b x k=>boK x fun a=>fw n (k a)
  |.o x k=>boK x fun a=>fw n (k a)
  |.c x k=>boK x fun p=>fw n (k p.1 p.2)
  |.f x k=>boK x fun p=>fw n (k p.1 p.2)
  |.l x k=>boK x fun p=>fw n (k p.1 p.2)
  |.g b r=>(match b with
   |true=>fw n r
   |false=>.fail)
def hi{α:Type}:Option α:=(fun J:Rz=>none) (exsK true (fun J J J=>none) [] {} .done)
def Rz.gv:Rz->Option Vv|.v x _=>x|_=>hi
def Rz.gb:Rz->Option Bool|.b x k=>x|_=>hi
def Rz.go:Rz->Option Ob|.o x k=>x|_=>hi
def Rz.gc:Rz->Option (Vv×St)|.c x _=>x|_=>hi
def Rz.gf:Rz->Option (FL×St)|.f x _=>x|_=>hi
def Rz.gl:Rz->Option (List Vv×St)|.l x _=>x|_=>hi
def Rz.gg:Rz->Bool|.g x _=>x|_=>(hi:Option Unit).isSome
noncomputable def Rz.ov(r:Rz)(a:Vv):Rz:=match r with|.v _ k=>k a|_=>.fail
noncomputable def Rz.obo(r:Rz)(a:Bool):Rz:=match r with|.b _ k=>k a|_=>.fail
noncomputable def Rz.oo(r:Rz)(a:Ob):Rz:=match r with|.o _ k=>k a|_=>.fail
noncomputable def Rz.oc(r:Rz)(a:Vv)(U:St):Rz:=match r with|.c _ k=>k a U|_=>.fail
noncomputable def Rz.of(r:Rz)(a:FL)(U:St):Rz:=match r with|.f _ k=>k a U|_=>.fail
noncomputable def Rz.ol(r:Rz)(a:List Vv)(U:St):Rz:=match r with|.l _ k=>k a U|_=>.fail
noncomputable def Rz.og(r:Rz):Rz:=match r with|.g _ r=>r|_=>.fail
def JB{β:Type}(r:Rz)(G:FL->St->Option β)(z:β):Prop:=bn (sem r) G=some z
noncomputable def Rz.out{β:Type}(g:FL->St->Option β):Rz->Option β|.done x U=>g x U|_=>none
def J8(f:FL)(U:St):Option (Vv×List (Id×Ob)×Nat×LN):=bo (Qe f) fun v=>some (v,U.hp,U.nx,U.ps)
noncomputable def Wv(f:FL)(U:St):Option (FL×St):=some (f,U)
namespace JB
variable{r:Rz}{β:Type}{G:FL->St->Option β}{z:β}
theorem fwE:∀(n:Nat) (r:Rz),sem (Tactic.fw n r)=sem r:=fun l0=>by
 induction l0 with
 |zero=>
  exact fun J=>rfl
 |succ n ih=>
  intro r;cases r with
  |done _ _=>rfl
  |fail=>rfl
  |v x k=>cases x<;>first|rfl|exact ih (k _)
  |b x k=>cases x<;>first|rfl|exact ih (k _)
  |o x k=>cases x<;>first|rfl|exact ih (k _)
  |c x k=>cases x<;>first|rfl|exact ih (k _ _)
  |f x k=>cases x<;>first|rfl|exact ih (k _ _)
  |l x k=>cases x<;>first|rfl|exact ih (k _ _)
  |g x k=>cases x<;>first|rfl|exact ih k
theorem fw{n r}(h:JB (Tactic.fw n r) G z):JB r G z:=(aM (bn · G) (fwE n r)).symm.trans h
theorem done(n)(e:(Tactic.fw n r).out G=some z:=by kernel_rfl):JB r G z:=fw (n:=n) (by
 generalize Tactic.fw n r=q at e;cases q<;>first|exact nn e|exact e)
theorem v{X a}(n)(h:X=some a)(k:JB ((Tactic.fw n r).ov a) G z)(e:(Tactic.fw n r).gv=X:=by kernel_rfl):JB r G z:=fw (n:=n) (by
 generalize Tactic.fw n r=q at e k;have e:=e.trans h;cases q<;>first|exact nn e|(cases (show _=some a from e);exact k))
theorem b{X a}(n)(h:X=some a)(k:JB ((Tactic.fw n r).obo a) G z)(e:(Tactic.fw n r).gb=X:=by kernel_rfl):JB r G z:=fw (n:=n) (by
 generalize Tactic.fw n r=q at e k;have e:=e.trans h;cases q<;>first|exact nn e|(cases (show _=some a from e);exact k))
theorem o{X a}(n)(h:X=some a)(k:JB ((Tactic.fw n r).oo a) G z)(e:(Tactic.fw n r).go=X:=by kernel_rfl):JB r G z:=fw (n:=n) (by
 generalize Tactic.fw n r=q at e k;have e:=e.trans h;cases q<;>first|exact nn e|(cases (show _=some a from e);exact k))
theorem c{X a τ}(n)(h:X=some (a,τ))(k:JB ((Tactic.fw n r).oc a τ) G z)(e:(Tactic.fw n r).gc=X:=by kernel_rfl):JB r G z:=fw (n:=n) (by
 generalize Tactic.fw n r=q at e k;have e:=e.trans h;cases q<;>first|exact nn e|(cases (show _=some (a,τ) from e);exact k))
theorem fl{X a τ}(n)(h:X=some (a,τ))(k:JB ((Tactic.fw n r).of a τ) G z)(e:(Tactic.fw n r).gf=X:=by kernel_rfl):JB r G z:=fw (n:=n) (by
 generalize Tactic.fw n r=q at e k;have e:=e.trans h;cases q<;>first|exact nn e|(cases (show _=some (a,τ) from e);exact k))
theorem l{X a τ}(n)(h:X=some (a,τ))(k:JB ((Tactic.fw n r).ol a τ) G z)(e:(Tactic.fw n r).gl=X:=by kernel_rfl):JB r G z:=fw (n:=n) (by
 generalize Tactic.fw n r=q at e k;have e:=e.trans h;cases q<;>first|exact nn e|(cases (show _=some (a,τ) from e);exact k))
theorem g{X}(n)(h:X=true)(k:JB (Tactic.fw n r).og G z)(e:(Tactic.fw n r).gg=X:=by kernel_rfl):JB r G z:=fw (n:=n) (by
 generalize Tactic.fw n r=q at e k;have e:=e.trans h;cases q<;>first|exact ff e|(cases (show _=true from e);exact k))
theorem exsM{m C l τ f U}(h:JB (exsK m C l τ .done) Wv (f,U)):exs C l τ=some (f,U):=by
 have h':=(aM (bn · Wv) (NN m C l τ .done)).symm.trans h
 generalize Tactic.exs C l τ=x at h';cases x with
 |none=>exact nn h'
 |some p=>exact h'
theorem exs{C l τ f U}(h:JB (exsK false C l τ .done) Wv (f,U)):Tactic.exs C l τ=some (f,U):=exsM h
theorem exs'{C l τ f U}(h:JB (exsK true C l τ .done) Wv (f,U)):Tactic.exs C l τ=some (f,U):=exsM h
theorem exc'{C s τ f U}(h:JB (exsK false C [s] τ .done) Wv (f,U)):Tactic.exc C s τ=some (f,U):=by
 have h:bn (Tactic.exc C s τ) (fun f U1a=>Ya f (some (.next,U1a)) U1a)=some (f,U):=exsM h
 generalize Tactic.exc C s τ=x at h;cases x with
 |none=>exact nn h
 |some p=>
  obtain⟨g,τ'⟩:=p;cases g<;>exact h
end JB
noncomputable def KA(f:FL)(U:St):Option (Bool×St):=match f with
 |.ret (.bool b)=>some (b,U)
 |_=>none
noncomputable def evG(f:FL)(U:St):Option (Vv×St):=match f with
 |.ret v=>some (v,U)
 |_=>none
theorem JB.tstM{m C e U τ b}(h:JB (XR m C e U fun b τ=>.done (.ret (.bool b)) τ) KA (b,τ)):tst C e U=some (b,τ):=by
 have h':=(aM (bn · KA) (K9 m C e U _)).symm.trans h
 generalize Tactic.tst C e U=x at h';cases x with
 |none=>exact nn h'
 |some p=>exact h'
theorem JB.evM{m C e U τ v}(h:JB (evK m C e U fun v τ=>.done (.ret v) τ) evG (v,τ)):ev C e U=some (v,τ):=by
 have h':=(aM (bn · evG) (Jz m C e U _)).symm.trans h
 generalize Tactic.ev C e U=x at h';cases x with
 |none=>exact nn h'
 |some p=>exact h'
theorem JB.tst{C e U τ b}(h:JB (XR false C e U fun b τ=>.done (.ret (.bool b)) τ) KA (b,τ)):Tactic.tst C e U=some (b,τ):=tstM h
theorem JB.tst'{C e U τ b}(h:JB (XR true C e U fun b τ=>.done (.ret (.bool b)) τ) KA (b,τ)):Tactic.tst C e U=some (b,τ):=tstM h
theorem JB.ev{C e U τ v}(h:JB (evK false C e U fun v τ=>.done (.ret v) τ) evG (v,τ)):Tactic.ev C e U=some (v,τ):=evM h
def ZU(q:Bool)(C:Ora)(m:MFun)(vs:List Vv)(τ:St):Rz:=boK (m.args vs) fun as=>exsK q C m.body ⟨m.ps.zip as,τ.hp,τ.nx,τ.ps⟩ .done
section
variable{q:Bool}{C:Ora}{m:MFun}{vs:List Vv}{τ:St}{v:Vv}{hp:List (Id×Ob)}{nx:Nat}{ps:LN}{T:Nat->Option MFun}{n f:Nat}
theorem ZDK(h:JB (ZU q C m vs τ) J8 (v,hp,nx,ps)):Qf C m vs τ=some (v,⟨τ.loc,hp,nx,ps⟩):=by
 unfold ZU at h;show bo (m.args vs) _=_;generalize m.args vs=as at h;cases as with
 |none=>exact nn h
 |some as=>
  show bn (exs C m.body ⟨m.ps.zip as,τ.hp,τ.nx,τ.ps⟩) _=_;have h:=(aM (bn · J8) (NN q C m.body ⟨m.ps.zip as,τ.hp,τ.nx,τ.ps⟩ .done)).symm.trans h
  generalize exs C m.body ⟨m.ps.zip as,τ.hp,τ.nx,τ.ps⟩=x at h;cases x with
  |none=>exact nn h
  |some p=>
   show bo (Qe p.1) _=_;have h:bo (Qe p.1) (fun v=>some (v,p.2.hp,p.2.nx,p.2.ps))=some (v,hp,nx,ps):=h
   generalize Qe p.1=q at h;cases q with
   |none=>exact nn h
   |some w=>cases h;rfl
def ZV(q:Bool)(T:Nat->Option MFun)(n f:Nat)(vs:List Vv)(τ:St):Rz:=boK (T f) fun m=>ZU q (JF T n) m vs τ
theorem ZAt(h:JB (ZV q T n f vs τ) J8 (v,hp,nx,ps)):JF T (n+1) f vs τ=some (v,⟨τ.loc,hp,nx,ps⟩):=by
 unfold ZV at h;show bo (T f) _=_;generalize T f=m at h;cases m with
 |none=>exact nn h
 |some m=>exact ZDK h
theorem QF(h:JB (ZV false T n f vs τ) J8 (v,hp,nx,ps)):JF T (n+1) f vs τ=some (v,⟨τ.loc,hp,nx,ps⟩):=ZAt h
end
open PySem PySem.Calls PyProof.Rows PySem.W
def QV(ids:List Id)(hp:List (Id×Ob)):List (Id×Ob):=ids.foldr (fun i r=>match JA hp i with
 |some o=>(i,o)::r
 |none=>r) (hp.filter fun p=>!(ids.any (·==p.1)))
def hpN(ids:List Id)(n:Nat)(hp:List (Id×Ob)):List (Id×Ob):=QV ids (hp.filter fun p=>UN n p.1)
def Wu(ids:List Id)(n:Nat)(v:Vv)(U:St):Bool:=J0 n U.loc&&(Uk n (hpN ids n U.hp)&&Vv.blw n v)
def YM(ids:List Id)(C:Ora):Ora:=fun f vs U=>bn (C f vs ⟨U.loc,QV ids U.hp,U.nx,U.ps⟩) fun v U'=>gd (Wu ids U.nx v U') (some (v,⟨U'.loc,hpN ids U.nx U'.hp,U.nx,U'.ps⟩))
def Wl(T:Nat->Option MFun)(C:Ora):Ora:=fun f vs U=>bo (T f) fun m=>Qf C m vs U
theorem KY(q:Id->Bool)(i:Id)(o:Ob):∀hp:List (Id×Ob),JA (hp.filter fun p=>q p.1) i=some o->JA hp i=some o/\q i=true:=fun l0=>by
 induction l0 with
 |nil=>
  exact fun h=>nn h
 |cons p0 l ih=>
  obtain⟨j,w⟩:=p0;intro h;by_cases e:q j=true
  ·have h:=(aM (JA · i) (List.filter_cons_of_pos (p:=fun p=>q p.1) (a:=(j,w)) (l:=l) e)).symm.trans h
   by_cases k:j=i
   ·exact⟨(aR k).trans ((aR k).symm.trans h),k▸e⟩
   ·exact(ih ((aN k).symm.trans h)).imp (fun z=>(aN k).trans z) id
  ·have h:=(aM (JA · i) (List.filter_cons_of_neg (p:=fun p=>q p.1) (a:=(j,w)) (l:=l) e)).symm.trans h
   have z:=ih h;exact⟨(aN fun k:j=i=>e (k▸z.2)).trans z.1,z.2⟩
theorem Ke{ids hp i o}(h:JA (QV ids hp) i=some o):JA hp i=some o:=by
 unfold QV at h;have key:∀l:List Id,JA (l.foldr (fun i r=>match JA hp i with
  |some o=>(i,o)::r
  |none=>r) (hp.filter fun p=>!(ids.any (·==p.1)))) i=some o->JA hp i=some o:=fun l=>by
  induction l with
  |nil=>exact fun h=>(KY (fun j=>!(ids.any (·==j))) i o hp h).1
  |cons j l ih=>
   intro h;have h:JA (match JA hp j with
    |some o=>(j,o)::l.foldr (fun i r=>match JA hp i with
     |some o=>(i,o)::r
     |none=>r) (hp.filter fun p=>!(ids.any (·==p.1)))
    |none=>l.foldr (fun i r=>match JA hp i with
     |some o=>(i,o)::r
     |none=>r) (hp.filter fun p=>!(ids.any (·==p.1)))) i=some o:=h
   cases e:JA hp j with
   |none=>rw[e] at h;exact ih h
   |some w=>
    rw[e] at h;by_cases k:j=i
    ·cases (aR k).symm.trans h
     exact k▸e
    ·exact ih ((aN k).symm.trans h)
 exact key ids h
section
variable{c:Cx}{r:Nat}{C:Ora}{ids:List Id}
theorem B7(H:JK c r C):JK c r (YM ids C):=fun J U J J J J J J J J J J hr VV hf R X=>bnE hf fun v U' h1 h2=>gdE h2 fun h3 h4=>aB h3 fun b1 b2 b3=>by
 cases h4;exact H hr VV h1 (U:=⟨U.loc,QV ids U.hp,U.nx,U.ps⟩) (R.sub (fun J J e=>e) (fun J J e=>Ke e) (qF _) fun J e=>e) (X.imp (fun X=>⟨X.1,fun x s' g' R' X' E'=>
  X.2 x s' _ (R'.clean (n:=U.nx) ⟨fun J J e=>e,fun i o e=>(KY (UN U.nx) i o _ (Ke e)).1,b1,b2,rfl,fun J e=>e⟩) (VR.clean X' b3) (Ext.clean R E')⟩)
  fun z=>z.imp fun J z=>⟨z.1,z.2.1,z.2.2.1,z.2.2.2.map fun g' s' R' E'=>⟨_,R'.clean (n:=U.nx) ⟨fun J J e=>e,fun i o e=>(KY (UN U.nx) i o _ (Ke e)).1,b1,b2,rfl,fun J e=>e⟩,Ext.clean R E'⟩⟩)
theorem Y1(O:c.Ok){T}(HT:∀f m,T f=some m->Uh c f m=true)(H:JK c r C):JK c (r+2) (Wl T C):=fun J J J J J J J J J J J J hr VV hf R X=>boE hf fun m h1 h2=>Bp O H (HT _ _ h1) hr VV h2 R X
theorem NC{f n vs L hp hp' hp1a hp2a nx' P P' v}(h:C f vs ⟨L,hp',n,P⟩=some (v,⟨L,hp1a,nx',P'⟩))(hb:Wu ids n v ⟨L,hp1a,nx',P'⟩=true)
  (e:QV ids hp=hp':=by kernel_rfl) (e':hpN ids n hp1a=hp2a:=by kernel_rfl):YM ids C f vs ⟨L,hp,n,P⟩=some (v,⟨L,hp2a,n,P'⟩):=by
 subst e e';show bn (C f vs ⟨L,QV ids hp,n,P⟩) _=_;rw[h];show gd (Wu ids n v ⟨L,hp1a,nx',P'⟩) _=_;rw[hb];rfl
end
noncomputable def YY(h:Heap):Frag:=(List.range h.objs.size).filterMap fun a=>(h.get? a).map fun o=>(a,o)
theorem SZ{f:Nat->Option Obj}:∀{l:LN} {a:Nat} {o:Obj},(l.filterMap fun a=>(f a).map fun o=>(a,o)).lookup a=some o->f a=some o:=by
 intro l0;induction l0 with
 |nil=>
  intro _ _ h;cases h
 |cons b l ih=>
  intro a o h;rw[bc] at h;cases hb:f b with
  |none=>rw[hb] at h;exact ih h
  |some q=>
   rw[hb] at h;rw[Option.map_some,cJ] at h;cases e:a==b with
   |true=>
    rw[e] at h;cases h;rw[aV.mp e];exact hb
   |false=>
    rw[e] at h;exact ih h
theorem Sa{f:Nat->Option Obj}:∀{l:LN} {a:Nat} {o:Obj},a∈l->f a=some o->(l.filterMap fun a=>(f a).map fun o=>(a,o)).lookup a=some o:=by
 intro l0;induction l0 with
 |nil=>
  intro _ _ h _;cases h
 |cons b l ih=>
  intro a o h e;rw[bc];by_cases q:a=b
  ·subst q
   rw[e];simp
  ·have hm:=ih ((aZ.mp h).resolve_left q) e
   cases hb:f b with
   |none=>exact hm
   |some w=>
    simp only[Option.map_some,List.lookup_cons];rw[bX q];exact hm
theorem Vz{K h}(X:K.In h):Frag.In (K++YY h) h:=fun a o e=>by
 rw[List.lookup_append] at e;cases hk:K.lookup a with
 |some q=>rw[hk] at e;cases e;exact X _ _ hk
 |none=>rw[hk] at e;exact SZ e
theorem PR{K h}(X:K.In h){a o}(e:h.get? a=some o):(K++YY h).lookup a=some o:=by
 rw[List.lookup_append];cases hk:K.lookup a with
 |some q=>rw[X _ _ hk] at e;cases e;rfl
 |none=>exact Sa (eb.mpr (xP e)) e
theorem Lc{K:Frag}{h:Heap}(H:∀a o,h.get? a=some o->K.lookup a=some o){a m x v}(N:h.Ns a m)(hm:m x=some v):nsIn K a x=some (some v):=by
 obtain⟨o,es,ep,ho,hd,_,hf⟩:=N;have hf:=hf x;rw[hm] at hf;obtain⟨oc,od,dat,sl⟩:=o;cases hd;unfold nsIn;rw[H _ _ ho];dsimp only;delta nsFind findBy at hf;dsimp only at hf;rw[<- Array.find?_toList] at hf;cases hq:es.toList.find? fun e=>e.key.isStr x with
 |none=>rw[hq] at hf;cases hf
 |some e=>rw[hq] at hf;dsimp only;rw[Option.map_some] at hf;cases hf;rfl
theorem ZCN{K:Frag}{h:Heap}(H:∀a o,h.get? a=some o->K.lookup a=some o){m}(N:h.Ns builtinsNs m)(hm:∀x:Str,x≠"__name__"->m x=bootBuiltins x):∀p∈YX,nsIn K builtinsNs p.1=some (some p.2):=by
 intro p hp;refine Lc H N ?_;have key:∀p∈YX,p.1≠("__name__":Str)/\bootBuiltins p.1=some p.2:=by decide +kernel
 obtain⟨h1,h2⟩:=key p hp;rw[hm _ h1,h2]
def wP(P:Params)(h:Heap)(v:Value):WData->Prop
 |.int i=>∃t,v=.int i t
 |.list xs=>∃a vs,v=.ref a/\h.get? a=some { cls:=.type "list",data:=.seq vs.toArray }/\WellAll P h vs xs
 |_=>True
set_option tactic.hygienic true in
theorem Hg{P h v d}(W:Well P h v d):wP P h v d:=by
 cases W
 case int=>exact⟨_,rfl⟩
 case list h1 h2=>exact⟨_,_,rfl,h1,h2⟩
 all_goals exact trivial
theorem AN{P h}:∀{ns:List Int} {vs:List Value},WellAll P h vs (ofPys (ns.map PyData.int))->∀(c:Cx) (F:Addr->Obj->Prop) (ρ:Id->Option Addr),VRs c F ρ (ns.map Vv.int) vs:=by
 intro l0;induction l0 with
 |nil=>
  intro vs W c F ρ;have W:WellAll P h vs []:=W;cases W;exact .nil
 |cons n ns ih=>
  intro vs W c F ρ;have W:WellAll P h vs (.int n::ofPys (ns.map PyData.int)):=W;cases W with
  |cons w1 w2=>
   obtain⟨t,rfl⟩:=(show ∃t,_=Value.int n t from Hg w1);exact .cons (.int _ _) (ih w2 c F ρ)
theorem AM{P}{h:Heap}{a}{ns:List Int}(W:Well P h (.ref a) (ofPy (.list (ns.map PyData.int)))):
  ∃vs:List Value,h.get? a=some { cls:=.type "list",data:=.seq vs.toArray }/\∀(c:Cx) (F:Addr->Obj->Prop) (ρ:Id->Option Addr),VRs c F ρ (ns.map Vv.int) vs:=by
 obtain⟨a',vs,e,h1,h2⟩:=(show ∃a' vs,Value.ref a=.ref a'/\h.get? a'=some { cls:=.type "list",data:=.seq vs.toArray }/\WellAll P h vs (ofPys (ns.map PyData.int)) from Hg W);exact⟨vs,Value.ref.inj e▸h1,AN h2⟩
noncomputable def g0:Gh:=⟨fun J=>False,fun J=>False,fun J=>none⟩
theorem CX{c:Cx}{env:Nv}{s:Shared}{h0a:Heap}{L m y v x}(hk:∀a o,c.K.lookup a=some o->h0a.get? a=some o)(F:Fr h0a L s.heap m)(hL:env.locals=L)(hfs:∀a,Fs env a->a=env.locals)(hm:m (c.nm y)=some x)
  (hl:env.kindOf (c.nm y)=some .local) (hv:∀F ρ,(∀a o,c.K.lookup a=some o->F a o)->VR c F ρ v x) (ht:0<s.toks):Rel c env g0 ⟨[(y,v)],[],0,[]⟩ s:=by
 have kin:∀a o,c.K.lookup a=some o->Fz env g0 s.heap a o:=fun a o e=>
  ⟨F.keep _ _ (hk a o e),fun w=>w,fun w=>w,fun w=>absurd (xP (hk a o e)) (Nat.not_lt_of_le (by rw[show a=L from (w.elim id (hfs a)).trans hL];exact F.above))⟩
 refine⟨⟨kin,fun a w=>w.elim,fun a w=>w.elim,fun a w=>?_,fun a w=>w.elim,⟨m,hL▸F.ns,fun n v' e=>?_⟩,fun i o e=>?_,(fun i r o e=>nomatch e),(fun i j r o q e=>nomatch e),fun J J=>rfl,fun J J=>rfl⟩,ht⟩
 ·rw[hfs a w,hL];exact F.ns.frd
 ·rw[UL] at e
  by_cases q:y=n
  ·subst q
   rw[aR rfl] at e;cases e;exact⟨fun J=>⟨x,hm,hv _ _ kin⟩,fun q=>by rw[hl] at q;cases q⟩
  ·rw[aN q] at e;cases e
 ·cases e
theorem OZ{n m:Nat}{α:Type}{k:n=m->Option α}{w:α}{P:Prop}(h:dite (n=m) k (fun J=>none)=some w)(f:n=m->P):P:=by
 by_cases q:n=m
 ·exact f q
 ·exact nn ((dif_neg q).symm.trans h)
noncomputable def K7(s:Stmt):Option (Expr×List Stmt×List Stmt×Pos):=dite _ (fun h=>Stmt.While.elim (motive_2:=fun J=>Option (Expr×List Stmt×List Stmt×Pos)) s h fun t b o p=>some (t,b,o,p)) fun J=>none
theorem CJ{s w}(h:K7 s=some w):s=.While w.1 w.2.1 w.2.2.1 w.2.2.2:=by
 exact OZ h fun q=>Stmt.While.elim (motive_2:=fun s=>K7 s=some w->s=.While w.1 w.2.1 w.2.2.1 w.2.2.2) s q (fun J J J J h=>by cases h;rfl) h
noncomputable def Ni(s:Stmt):Option (Expr×Pos):=dite _ (fun h=>Stmt.Expr.elim (motive_2:=fun J=>Option (Expr×Pos)) s h fun e p=>some (e,p)) fun J=>none
theorem Ey{s w}(h:Ni s=some w):s=.Expr w.1 w.2:=by
 exact OZ h fun q=>Stmt.Expr.elim (motive_2:=fun s=>Ni s=some w->s=.Expr w.1 w.2) s q (fun J J h=>by cases h;rfl) h
noncomputable def K5(e:Expr):Option (Option Expr×Pos):=dite _ (fun h=>Expr.Yield.elim (motive_1:=fun J=>Option (Option Expr×Pos)) e h fun v p=>some (v,p)) fun J=>none
theorem CG{e w}(h:K5 e=some w):e=.Yield w.1 w.2:=by
 exact OZ h fun q=>Expr.Yield.elim (motive_1:=fun e=>K5 e=some w->e=.Yield w.1 w.2) e q (fun J J h=>by cases h;rfl) h
noncomputable def Oq{α:Type}(l:List α):Option α:=match l with
 |[]=>none
 |a::r=>(match r with
  |[]=>some a
  |_::_=>none)
theorem G7{α:Type}{l:List α}{a:α}(h:Oq l=some a):l=[a]:=by
 cases l with
 |nil=>exact nn h
 |cons b r=>cases r<;>first|exact nn h|(cases h;rfl)
def Og{α:Type}(l:List α):Option (α×α):=match l with
 |[]=>none
 |a::r=>bo (Oq r) fun b=>some (a,b)
theorem Gq{α:Type}{l:List α}{p:α×α}(h:Og l=some p):l=[p.1,p.2]:=by
 cases l with
 |nil=>exact nn h
 |cons b r=>exact boE h fun c h1 h2=>aY h2▸aM (b::·) (G7 h1)
def KI(s:Stmt)(f:Expr->List Stmt->Bool):Bool:=ob (K7 s) fun w=>w.2.2.1.isEmpty&&f w.1 w.2.1
theorem OQ{s f}{P:Prop}(h:KI s f=true)(k:∀t b p,s=.While t b [] p->f t b=true->P):P:=
 obE h fun w h1 h=>bA h fun h2 h3=>k _ _ _ (a6.mp h2▸CJ h1) h3
def I8(b:List Stmt)(f:Expr->Bool):Bool:=ob (Oq b) fun s=>ob (Ni s) fun e=>ob (K5 e.1) fun y=>ob y.1 f
theorem ZBI{b f}{P:Prop}(h:I8 b f=true)(k:∀y p q,b=[.Expr (.Yield (some y) p) q]->f y=true->P):P:=
 obE h fun s h1 h=>obE h fun e h2 h=>obE h fun y h3 h=>obE h fun z h4 h5=>k z y.2 e.2 (by
  rw[G7 h1,Ey h2,CG h3,h4]) h5
def ZBt(c:Cx)(kn:Str->Option NameKind)(m0:MS)(gm:GenM)(body:List Stmt):Bool:=ob (Og body) fun p=>JU c kn m0 p.1&&KI p.2 fun t1 b=>JH c kn gm.t1 t1&&ob (Og b) fun q=>KI q.1 (fun t2 J=>JH c kn gm.t2 t2)&&KI q.2 fun t3 b3=>JH c kn gm.t3 t3&&I8 b3 fun ye=>JH c kn gm.e ye
def Np(c:Cx)(f:Nat)(m0:MS)(gm:GenM):Bool:=ob (c.K.lookup (c.fA f)) fun o=>ob (Zc o) fun fd=>ob (Zg fd) fun body=>NY fd.params&&(codeIn c.K fd.code fd.qualname&&((Ji fd.params.args==[c.nm 0])&&((fd.defaults==.none)&&((fd.scope.kind==.function)&&(fd.scope.isGenerator&&((fd.scope.isCoroutine==false) &&
 ((fd.scope.names.lookup (c.nm 0)==some .local)&&(fd.scope.names.all (fun p=>!(p.2==.cell))&&((fd.globals==mainGlobals)&&((fd.builtins==builtinsNs)&&(fd.closure.isEmpty&&ZBt c (fun x=>fd.scope.names.lookup x) m0 gm body)))))))))))
abbrev ZCS(c:Cx)(r f:Nat)(C:Ora)(m0:MS)(gm:GenM)(env:Nv):Prop:=
  ∃fd S0 t1 t2 t3 ye b2 p1 p2 p3 yp ep,GenAt c f fd [S0,.While t1 (Qu t2 t3 ye b2 p2 p3 yp ep) [] p1] /\
   ∀GL,JQ c (r+1) (gNv fd GL (c.fA f) env) S0 (exc C m0)/\JX c (r+1) (gNv fd GL (c.fA f) env) t1 (tst C gm.t1)/\JX c (r+1) (gNv fd GL (c.fA f) env) t2 (tst C gm.t2)/\JX c (r+1) (gNv fd GL (c.fA f) env) t3 (tst C gm.t3)/\JE c (r+1) (gNv fd GL (c.fA f) env) ye (ev C gm.e)
theorem C7{c r f C m0 gm env}(VE:EnvOk env)(O:c.Ok)(HC:JK c r C)(h:Np c f m0 gm=true):
  ZCS c r f C m0 gm env:=
 obE h fun o ho h=>obE h fun fd hfd h=>obE h fun body hb h=>aG h fun hp h1 h2 hd h3 h4 h5 h6 h7 h=>aB h fun h8 h9 h=>bA h fun h10 h=>
  obE h fun p hp2 h=>bA h fun k0 h=>OQ h fun t1 b p1 e1 h=>bA h fun k1 h=>obE h fun q hq h=>bA h fun g1 g2=>OQ g1 fun t2 b2 p2 e2 k2=>OQ g2 fun t3 b3 p3 e3 h=>bA h fun k3 h=>ZBI h fun ye yp ep e4 k4=>by
   have e:body=[p.1,.While t1 (Qu t2 t3 ye b2 p2 p3 yp ep) [] p1]:=by rw[Gq hp2,e1,Gq hq,e2,e3,e4]
   have hnc:∀p∈fd.scope.names,p.2≠.cell:=fun p hp q=>by
    have:=aq.mp h7 p hp;rw[q] at this;exact ff this
   obtain⟨oc,od,odat,osl⟩:=o;cases DH hfd;refine⟨fd,p.1,t1,t2,t3,ye,b2,p1,p2,p3,yp,ep,⟨⟨_,_,_,ho⟩,h1,(DU hb).trans (aM _ e),⟨_,_,B4 hp,bE h2⟩,bE hd,bE h3,h4,bE h5,bE h6,hnc,bE h8,bE h9,a6.mp h10⟩,fun GL=>?_⟩
   have VV:EnvOk (gNv fd GL (c.fA f) env):=VE.on (e:=U7 fd GL (c.fA f)) (bE h3) (bE h8) (bE h9) rfl;have VC:Xr (gNv fd GL (c.fA f) env):=fun x hx=>absurd rfl (hnc _ (Kd (show fd.scope.names.lookup x=some .cell from hx)))
   exact⟨QK O HC m0 ⟨VV,VC,fun J=>rfl⟩ k0,(Jc O HC gm.t1 ⟨VV,VC,fun J=>rfl⟩ k1).2,(Jc O HC gm.t2 ⟨VV,VC,fun J=>rfl⟩ k2).2,(Jc O HC gm.t3 ⟨VV,VC,fun J=>rfl⟩ k3).2,(Jc O HC gm.e ⟨VV,VC,fun J=>rfl⟩ k4).1⟩
def Qs(k:Nat)(v:Vv)(U':St):Option (Vv×St):=match JA U'.hp (.p k) with
 |none=>some (v,U')
 |some o=>(match o with
  |.list l=>gd (Vv.nos (.p k) l) (some (Vv.sb (.p k) (.list l) v,U'.sb k (.list l)))
  |_=>none)
def Xg(k:Nat)(C:Ora):Ora:=fun f vs U=>gd (decide (k∉U.ps)&&Nat.blt f 1000) (bn (C f vs U) (Qs k))
noncomputable def YI(f0:Nat)(C D:Ora):Ora:=fun f=>if f=f0 then C f else D f
section
variable{c:Cx}{r k:Nat}{C D:Ora}
theorem ZD(H:JK c r C):JK c r (Xg k C):=fun J U J J J J J g s J J J hr VV hf R X=>gdE hf fun hk h=>bA hk fun hk hk2=>X.elim (fun X0=>X0.elim fun X N=>bnE h fun v1a U1a h1 h2=>H.go hr VV h1 R X fun x s' g' R' X' E'=>by
 unfold Qs at h2;cases e:JA U1a.hp (.p k) with
 |none=>rw[e] at h2;cases h2;exact N x s' g' R' X' E'
 |some o=>
  rw[e] at h2;cases o<;>first|exact nn h2|skip
  exact gdE h2 fun h3 h4=>by
   cases h4;obtain⟨R2,hw⟩:=ZF R' e h3;exact N x s' _ R2 (VR.sb (fun a o z=>⟨z.1,fun q=>z.2.1 q.1,z.2.2.1,z.2.2.2⟩) (fun j a hj e=>(aM (Option.map Prod.fst) (aN hj)).trans e) hw X') ⟨fun a o z hq hf=>let w:=E'.fz a o z hq hf;⟨w.1,fun q=>w.2 q.1⟩,E'.up,fun id p e=>(aN fun q:id=.p k=>nn ((R.ps k (qH hk)).symm.trans (q▸e))).trans (E'.cs id p e),E'.X,E'.gens⟩) fun z=>z.elim fun J z=>absurd z.1 (Nat.not_le.mpr (eO fun q=>by rw[Nat.blt,Nat.ble_eq] at hk2;exact bM.mpr q hk2))
theorem Kt{f0}(H:JK c r C)(H':JK c r D):JK c r (YI f0 C D):=fun J U f J J J J g s J J J hr VV hf R X=>by
 unfold YI at hf;by_cases q:f=f0
 ·rw[aR q] at hf;exact H hr VV hf R X
 ·rw[aN q] at hf;exact H' hr VV hf R X
end
def nmT:List LN:=[[115,101,108,102],
 [116,101,120,116],
 [112,108,97,99,101],
 [115,105,122,101],
 [112,97,114,116],
 [99,111,100,101,112,111,105,110,116],
 [115,111,117,114,99,101],
 [114,101,112,111,114,116,67,104,97,114,97,99,116,101,114,69,114,114,111,114,115],
 [99,104,97,114,97,99,116,101,114,69,114,114,111,114,115,85,67,83,52],
 [110,101,119,76,105,110,101,115],
 [100,97,116,97,83,116,114,101,97,109],
 [111,112,101,110,83,116,114,101,97,109],
 [114,101,115,101,116],
 [99,104,117,110,107],
 [99,104,117,110,107,83,105,122,101],
 [99,104,117,110,107,79,102,102,115,101,116],
 [101,114,114,111,114,115],
 [112,114,101,118,78,117,109,76,105,110,101,115],
 [112,114,101,118,78,117,109,67,111,108,115],
 [95,98,117,102,102,101,114,101,100,67,104,97,114,97,99,116,101,114],
 [115,116,114,101,97,109],
 [111,102,102,115,101,116],
 [110,76,105,110,101,115],
 [112,111,115,105,116,105,111,110,76,105,110,101],
 [108,97,115,116,76,105,110,101,80,111,115],
 [112,111,115,105,116,105,111,110,67,111,108,117,109,110],
 [114,101,97,100,67,104,117,110,107],
 [99,104,97,114],
 [95,100,101,102,97,117,108,116,67,104,117,110,107,83,105,122,101],
 [95,112,111,115,105,116,105,111,110],
 wB,
 [114,101,97,100],
 [108,97,115,116,118],
 [99],
 [99,104,97,114,97,99,116,101,114,115],
 [111,112,112,111,115,105,116,101],
 [114,118],
 [101,110,100],
 [114],
 [112,97,114,115,101,114],
 [101,115,99,97,112,101,70,108,97,103],
 [108,97,115,116,70,111,117,114,67,104,97,114,115],
 [115,116,97,116,101],
 [100,97,116,97,83,116,97,116,101],
 [101,115,99,97,112,101],
 [99,117,114,114,101,110,116,84,111,107,101,110],
 [101,110,116,105,116,121,68,97,116,97,83,116,97,116,101],
 [1,47],
 [116,111,107,101,110,81,117,101,117,101],
 [99,104,97,114,115,85,110,116,105,108],
 [99,104,97,114,115],
 [1,51],
 [1,52],
 [1,53],
 [117,110,103,101,116],
 [1,55],
 [99,104,97,114,83,116,97,99,107],
 [1,57],
 [1,58],
 [1,59],
 [1,60],
 [1,61],
 [1,62],
 [1,63],
 [1,64],
 [1,65],
 wZ,
 [1,67],
 [115,105,103,110],
 [1,69],
 [1,70],
 [102,97,117,108,116,115],
 [100,117,101],
 [1,73],
 [1,74],
 [1,75],
 [1,76],
 [115,116,97,114,116],
 [119,111,114,100],
 [1,79],
 [115,99,114,105,112,116],
 [116],
 [103,111,116],
 [116,111,107,101,110],
 [110],
 [95,95,105,116,101,114,95,95],
 [115,112,97,99,101,67,104,97,114,97,99,116,101,114,115],
 [97,115,99,105,105,76,101,116,116,101,114,115],
 [116,111,107,101,110,84,121,112,101,115],
 [95,108,97,119,95,80,73,69,67,69,83],
 [69,79,70],
 wC,
 [1,92],
 [1,93],
 [1,94],
 [1,95],
 [1,96],
 [1,97],
 [1,98],
 [1,99],
 [1,100],
 [1,101],
 [1,102],
 [1,103],
 [1,104],
 [1,105],
 [1,106],
 [99,108,111,115,101,100],
 [1,108],
 [1,109],
 [1,110],
 [107,101,121],
 [1,112],
 [1,113],
 [1,114],
 [1,115],
 [1,116],
 [105,110,115,105,100,101],
 [1,118],
 [1,119],
 [109,97,114,107,115],
 [109,97,114,107],
 [95,108,97,119,95,66,76,65,78,75,83],
 [95,108,97,119,95,81,85,79,84,69,83],
 [108,105,110,101],
 [99,111,108],
 [114,111,119,115],
 [108,111,119],
 [104,105,103,104],
 [109,105,100,100,108,101],
 [95,100,97,116,97],
 [112,114,101,102,105,120],
 [95,99,97,99,104,101,115,116,114],
 [108,111],
 [104,105],
 [95,99,97,99,104,101,112,111,105,110,116,115],
 [105],
 [95,107,101,121,115],
 [97,108,108,111,119,101,100,67,104,97,114],
 [102,114,111,109,65,116,116,114,105,98,117,116,101],
 [111,117,116,112,117,116],
 [104,97,115,95,107,101,121,115,95,119,105,116,104,95,112,114,101,102,105,120],
 [101,110,116,105,116,121,78,97,109,101],
 [108,111,110,103,101,115,116,95,112,114,101,102,105,120],
 [101,110,116,105,116,121,76,101,110,103,116,104],
 [116,111,107,101,110,84,121,112,101],
 [99,111,110,115,117,109,101,69,110,116,105,116,121],
 [1,147],
 [116,101,109,112,111,114,97,114,121,66,117,102,102,101,114],
 [1,149],
 [1,150],
 [1,151],
 [97,112,112,114,111,112,114,105,97,116,101],
 [98,101,102,111,114,101,65,116,116,114,105,98,117,116,101,78,97,109,101,83,116,97,116,101],
 [115,101,108,102,67,108,111,115,105,110,103,83,116,97,114,116,84,97,103,83,116,97,116,101],
 [101,109,105,116,67,117,114,114,101,110,116,84,111,107,101,110],
 [97,116,116,114,105,98,117,116,101,78,97,109,101,83,116,97,116,101],
 [108,101,97,118,105,110,103,84,104,105,115,83,116,97,116,101],
 [101,109,105,116,84,111,107,101,110],
 [97,102,116,101,114,65,116,116,114,105,98,117,116,101,78,97,109,101,83,116,97,116,101],
 [95],
 [116,111,107,101,110,115],
 [110,97,109,101,115],
 [98,97,99,107],
 [108,97,116,101,114],
 [115,116,111,112],
 [101,110,116,105,116,105,101,115,84,114,105,101],
 [101,110,116,105,116,105,101,115],
 [116,97,103,84,111,107,101,110,84,121,112,101,115],
 [99,108,111,115,101],
 [115,108,105,112],
 [99,108,111,115,105,110,103],
 [119,114,105,116,116,101,110],
 [102,97,117,108,116],
 [116,111,108,100],
 [100,114,97,119,115],
 [112,111,115,105,116,105,111,110],
 [95,108,97,119,95,76,69,84,84,69,82,83],
 [100,105,103,105,116,115],
 [116,119,105,99,101],
 [115,112,111,116],
 [1,181],
 [1,182],
 [1,183],
 [1,184],
 [1,185],
 [1,186],
 [1,187],
 [1,188],
 [1,189],
 [1,190],
 [1,191],
 [1,192],
 [1,193],
 [1,194],
 [1,195],
 [1,196],
 [1,197],
 [1,198],
 [105,115,72,101,120],
 [97,108,108,111,119,101,100],
 [114,97,100,105,120],
 w6,
 [114,101,112,108,97,99,101,109,101,110,116,67,104,97,114,97,99,116,101,114,115],
 [104,101,120],
 [99,111,110,115,117,109,101,78,117,109,98,101,114,69,110,116,105,116,121],
 [99,104,97,114,97,99,116,101,114,82,101,102,101,114,101,110,99,101,73,110,82,99,100,97,116,97],
 [114,99,100,97,116,97,76,101,115,115,84,104,97,110,83,105,103,110,83,116,97,116,101],
 [114,99,100,97,116,97,83,116,97,116,101],
 [114,99,100,97,116,97,69,110,100,84,97,103,79,112,101,110,83,116,97,116,101],
 [114,99,100,97,116,97,69,110,100,84,97,103,78,97,109,101,83,116,97,116,101],
 [97,104,101,97,100],
 [98,97,115,101],
 [118,97,108,117,101],
 [115,105,122,101,115],
 [104,101,120,68,105,103,105,116,115],
 [95,108,97,119,95,68,73,71,73,84,83]]
def nm1(i:Nat):Str:=toS (match nmT[i]? with|some x=>x|none=>0::List.replicate i 1)
noncomputable def fAT:LN:=[148,112,105,63,141,119,70,84,98,304,133,311,353,156,605,360,367,163,598,612,654,619,626,640,633,647,21,21,788,826,261,21,661,668,42,675,682,724,759,689,696,703,710,21,738,745,731,752,21,21,21,21,21,178,199,220,227,283,374,381,318,388,535,591,297,542,549,795,126,773,781,802,814,821,416,423,437,339,430,444,465,458,472,451,479,493,486,500,507,521,514,528,21,275,325,807]
noncomputable def cAT:LN:=[73,166,230,762]
noncomputable def J7:Vv:=(.tup [(.str [9]),(.str [10]),(.str [12]),(.str [32]),(.str [13])])
noncomputable def Uz:Vv:=(.tup [(.str [97]),(.str [98]),(.str [99]),(.str [100]),(.str [101]),(.str [102]),(.str [103]),(.str [104]),(.str [105]),(.str [106]),(.str [107]),(.str [108]),(.str [109]),(.str [110]),(.str [111]),(.str [112]),(.str [113]),(.str [114]),(.str [115]),(.str [116]),(.str [117]),(.str [118]),(.str [119]),(.str [120]),(.str [121]),(.str [122]),(.str [65]),(.str [66]),(.str [67]),(.str [68]),(.str [69]),(.str [70]),(.str [71]),(.str [72]),(.str [73]),(.str [74]),(.str [75]),(.str [76]),(.str [77]),(.str [78]),(.str [79]),(.str [80]),(.str [81]),(.str [82]),(.str [83]),(.str [84]),(.str [85]),(.str [86]),(.str [87]),(.str [88]),(.str [89]),(.str [90])])
def Xv:Vv:=(.list [(.str vJ),(.str [62]),(.str [32]),(.str [38]),(.str [108,116]),(.str [59]),(.str [120]),(.str [60]),(.str [47]),(.str [0]),(.str [97,109,112]),(.str [35]),(.str [54]),(.str [60,47,84,73,84,76,69,62]),(.str [110,111,116]),(.str [105,110,59]),(.str [60,47]),(.str [105])])
def UG:Vv:=(.dict [[68,111,99,116,121,112,101],w4,wK,vG,w7,[69,109,112,116,121,84,97,103],[67,111,109,109,101,110,116],vB] [(.int 0),(.int 1),(.int 2),(.int 3),(.int 4),(.int 5),(.int 6),(.int 7)])
noncomputable def TF:List Int:=List.map Int.ofNat [0,13,128,129,130,131,132,133,134,135,136,137,138,139,140,141,142,143,144,145,146,147,148,149,150,151,152,153,154,155,156,157,158,159]
noncomputable def Bl:Vv:=(.tup [(.int 3),(.int 4),(.int 5)])
noncomputable def Qk:Vv:=(.dict [[65,77,80],[65,77,80,59],[69,97,99,117,116,101],[69,97,99,117,116,101,59],[77,111,112,102,59],[97,99,59],[97,99,69,59],[97,99,117,116,101],[97,99,117,116,101,59],[97,109,112],[97,109,112,59],[97,110,103,59],[97,110,103,108,101,59],[98,110,101,59],[99,111,112,121],[99,111,112,121,59],[101,97,99,117,116,101],[101,97,99,117,116,101,59],[102,114,97,99,49,50],[102,114,97,99,49,50,59],[103,116],[103,116,59],[108,116],[108,116,59],[110,98,115,112],[110,98,115,112,59],[110,111,116],[110,111,116,59],[110,111,116,105,110,59],[110,111,116,110,105,59],[112,97,114,97],[112,97,114,97,59],[112,97,114,97,108,108,101,108,59],[113,117,111,116],[113,117,111,116,59],[115,117,112,49],[115,117,112,49,59],[115,117,112,50],[115,117,112,50,59],[115,117,112,59],[116,105,109,101,115],[116,105,109,101,115,59],[116,105,109,101,115,98,59]] [(.str [38]),(.str [38]),(.str [201]),(.str [201]),(.str [120132]),(.str [8766]),(.str [8766,819]),(.str [180]),(.str [180]),(.str [38]),(.str [38]),(.str [8736]),(.str [8736]),(.str [61,8421]),(.str [169]),(.str [169]),(.str [233]),(.str [233]),(.str [189]),(.str [189]),(.str [62]),(.str [62]),(.str [60]),(.str [60]),(.str [160]),(.str [160]),(.str [172]),(.str [172]),(.str [8713]),(.str [8716]),(.str [182]),(.str [182]),(.str [8741]),(.str [34]),(.str [34]),(.str [185]),(.str [185]),(.str [178]),(.str [178]),(.str [8835]),(.str [215]),(.str [215]),(.str [8864])])
noncomputable def YV:Vv:=(.list [(.str [65,77,80]),(.str [65,77,80,59]),(.str [69,97,99,117,116,101]),(.str [69,97,99,117,116,101,59]),(.str [77,111,112,102,59]),(.str [97,99,59]),(.str [97,99,69,59]),(.str [97,99,117,116,101]),(.str [97,99,117,116,101,59]),(.str [97,109,112]),(.str [97,109,112,59]),(.str [97,110,103,59]),(.str [97,110,103,108,101,59]),(.str [98,110,101,59]),(.str [99,111,112,121]),(.str [99,111,112,121,59]),(.str [101,97,99,117,116,101]),(.str [101,97,99,117,116,101,59]),(.str [102,114,97,99,49,50]),(.str [102,114,97,99,49,50,59]),(.str [103,116]),(.str [103,116,59]),(.str [108,116]),(.str [108,116,59]),(.str [110,98,115,112]),(.str [110,98,115,112,59]),(.str [110,111,116]),(.str [110,111,116,59]),(.str [110,111,116,105,110,59]),(.str [110,111,116,110,105,59]),(.str [112,97,114,97]),(.str [112,97,114,97,59]),(.str [112,97,114,97,108,108,101,108,59]),(.str [113,117,111,116]),(.str [113,117,111,116,59]),(.str [115,117,112,49]),(.str [115,117,112,49,59]),(.str [115,117,112,50]),(.str [115,117,112,50,59]),(.str [115,117,112,59]),(.str [116,105,109,101,115]),(.str [116,105,109,101,115,59]),(.str [116,105,109,101,115,98,59])])
noncomputable def NM:Vv:=(.tup [(.int 0),(.int 43)])
noncomputable def XB:Vv:=(.tup [(.str [48]),(.str [49]),(.str [50]),(.str [51]),(.str [52]),(.str [53]),(.str [54]),(.str [55]),(.str [56]),(.str [57])])
noncomputable def Yo:Vv:=(.str [97,98,99,100,101,102,103,104,105,106,107,108,109,110,111,112,113,114,115,116,117,118,119,120,121,122,65,66,67,68,69,70,71,72,73,74,75,76,77,78,79,80,81,82,83,84,85,86,87,88,89,90])
def UY:Vv:=(.str w8)
noncomputable def Xm:Vv:=(.tup [(.str [48]),(.str [49]),(.str [50]),(.str [51]),(.str [52]),(.str [53]),(.str [54]),(.str [55]),(.str [56]),(.str [57]),(.str [97]),(.str [98]),(.str [99]),(.str [100]),(.str [101]),(.str [102]),(.str [65]),(.str [66]),(.str [67]),(.str [68]),(.str [69]),(.str [70])])
noncomputable def tyO(n:LN):ME:=.sub (.glob UG) (.k (.str n))
noncomputable def tyE:ME:=tyO vB
noncomputable def tyC:ME:=tyO w4
noncomputable def qAP(a b:ME):MS:=.ex (.app (.attr (.loc 0) 48 3) (.dct [wC,wB] [a,b] .frz))
noncomputable def qER(n:LN):MS:=qAP tyE (.k (.str n))
noncomputable def qCH(n:LN):MS:=qAP tyC (.k (.str n))
noncomputable def sST(n f:Nat):MS:=.asgA (.loc 0) 42 3 (.bm (.loc 0) n 3 f)
noncomputable def sTR:ME:=.attr (.loc 0) 20 3
noncomputable def rCH:MS:=.asg 30 (.mcall sTR 27 1 10 [])
noncomputable def rTR:MS:=.ret (.k (.bool true))
noncomputable def uGT:MS:=.ex (.mcall sTR 54 1 17 [(.loc 30)])
noncomputable def cTK:ME:=.attr (.loc 0) 45 3
noncomputable def dEQ(n:LN):ME:=.cmp .eq (.loc 30) (.k (.str n))
noncomputable def dEO:ME:=.cmp .is (.loc 30) (.glob .none)
noncomputable def dLE:ME:=.cmp .inn (.loc 30) (.glob Uz)
noncomputable def dSP:ME:=.cmp .inn (.loc 30) (.glob J7)
noncomputable def aH(n:Int):ME:=.k (.int n)
noncomputable def aI(n:List Nat):ME:=.k (.str n)
noncomputable def aJ(n C:Nat):ME:=.attr (.loc 0) n C
noncomputable def aK:ME:=.loc 0
noncomputable def aL(n:Nat):ME:=.loc n
noncomputable def AZ:MFun:=
 { ps:=[0,1],ds:=[],body:=[.asgA aK 1 0 (aL 1),
  .asgA aK 2 0 (aH 0)] }
noncomputable def AY:MFun:=
 { ps:=[0,3],ds:=[],body:=[.asg 4 (.sl (aJ 1 0) (aJ 2 0) (.bop .add (aJ 2 0) (aL 3))),
  .augA aK 2 0 .add (.bi .len [(aL 4)]),
  .ret (aL 4)] }
noncomputable def AK:MFun:=
 { ps:=[5],ds:=[],body:=[.ret (.or (.cmp2 .le .le (aH 1) (aL 5) (aH 8)) (.or (.cmp .eq (aL 5) (aH 11)) (.or (.cmp2 .le .le (aH 14) (aL 5) (aH 31)) (.or (.cmp2 .le .le (aH 127) (aL 5) (aH 159)) (.or (.cmp2 .le .le (aH 64976) (aL 5) (aH 65007)) (.or (.cmp .inn (.bop .mod (aL 5) (aH 65536)) (.tup [(aH 65534),(aH 65535)])) (.cmp2 .le .le (aH 55296) (aL 5) (aH 57343))))))))] }
noncomputable def Tl:MFun:=
 { ps:=[0,6],ds:=[],body:=[.asgA aK 7 1 (.bm aK 8 1 0),
  .asgA aK 9 1 (.lst [(aH 0)] .tmp),
  .asgA aK 10 1 (.mcall aK 11 1 1 [(aL 6)]),
  .ex (.mcall aK 12 1 2 [])] }
noncomputable def Tk:MFun:=
 { ps:=[0],ds:=[],body:=[.asgA aK 13 1 (aI []),
  .asgA aK 14 1 (aH 0),
  .asgA aK 15 1 (aH 0),
  .asgA aK 16 1 (.lst [] .tmp),
  .asgA aK 17 1 (aH 0),
  .asgA aK 18 1 (aH 0),
  .asgA aK 19 1 (.k .none)] }
noncomputable def Td:MFun:=
 { ps:=[0,6],ds:=[],body:=[.asg 20 (.new 0 3 [(aL 6)] .tmp),
  .ret (aL 20)] }
noncomputable def Tg:MFun:=
 { ps:=[0,21],ds:=[],body:=[.asg 13 (aJ 13 1),
  .asg 22 (.sm .count (aL 13) [(aI [10]),(aH 0),(aL 21)]),
  .asg 23 (.bop .add (aJ 17 1) (aL 22)),
  .asg 24 (.sm .rfind (aL 13) [(aI [10]),(aH 0),(aL 21)]),
  .iff (.cmp .eq (aL 24) (.neg (aH 1))) [.asg 25 (.bop .add (aJ 18 1) (aL 21))] [.asg 25 (.bop .sub (aL 21) (.bop .add (aL 24) (aH 1)))],
  .ret (.tup [(aL 23),(aL 25)])] }
noncomputable def Tf:MFun:=
 { ps:=[0],ds:=[],body:=[.asgT [124,125] (.mcall aK 29 1 5 [(aJ 15 1)]),
  .ret (.tup [(.bop .add (aL 124) (aH 1)),(aL 125)])] }
noncomputable def Tm:MFun:=
 { ps:=[0],ds:=[],body:=[.iff (.cmp .ge (aJ 15 1) (aJ 14 1)) [.iff (.not (.mcall aK 26 1 4 [])) [.ret (.glob .none)] []] [],
  .asg 15 (aJ 15 1),
  .asg 27 (.sub (aJ 13 1) (aL 15)),
  .asgA aK 15 1 (.bop .add (aL 15) (aH 1)),
  .ret (aL 27)] }
def Te:MFun:=
 { ps:=[0,14],ds:=[.none],body:=[.iff (.cmp .is (aL 14) (.k .none)) [.asg 14 (.cat aK 28 1 10240)] [],
  .asgTA aK 17 1 aK 18 1 (.mcall aK 29 1 5 [(aJ 14 1)]),
  .asgA aK 13 1 (aI []),
  .asgA aK 14 1 (aH 0),
  .asgA aK 15 1 (aH 0),
  .asg 30 (.mcall (aJ 10 1) 31 0 6 [(aL 14)]),
  .iff (aJ 19 1) [.dead,.dead] [.iff (.not (aL 30)) [.ret (.k (.bool false))] []],
  .iff (.cmp .gt (.bi .len [(aL 30)]) (aH 1)) [.asg 32 (.bi .ord [(.sub (aL 30) (.neg (aH 1)))]),
  .iff (.or (.cmp .eq (aL 32) (aH 13)) (.cmp2 .le .le (aH 55296) (aL 32) (aH 56319))) [.dead,.dead] []] [],
  .iff (aJ 7 1) [.ex (.fcall aK 7 1 [(aL 30)])] [],
  .asg 30 (.sm .replace (aL 30) [(aI [13,10]),(aI [10])]),
  .asg 30 (.sm .replace (aL 30) [(aI [13]),(aI [10])]),
  .asgA aK 13 1 (aL 30),
  .asgA aK 14 1 (.bi .len [(aL 30)]),
  rTR] }
def TV:MFun:=
 { ps:=[0,30],ds:=[],body:=[.for 33 (aL 30) [.iff (.call 7 [(.bi .ord [(aL 33)])]) [.ex (.app (aJ 16 1) (aI wA))] []]] }
noncomputable def Ym:MFun:=
 { ps:=[0,34,35],ds:=[(.bool false)],body:=[.asg 36 (.lst [] .tmp),
  .whl (.k (.bool true)) [.asg 37 (aJ 15 1),
  .whl (.and (.cmp .ne (aL 37) (aJ 14 1)) (.cmp .eq (.cmp .inn (.sub (aJ 13 1) (aL 37)) (aL 34)) (aL 35))) [.augN 37 .add (aH 1)],
  .iff (.cmp .eq (aL 37) (aJ 15 1)) [.iff (.cmp .ne (aJ 15 1) (aJ 14 1)) [.brk] []] [.iff (.cmp .ne (aL 37) (aJ 14 1)) [.ex (.app (aL 36) (.sl (aJ 13 1) (aJ 15 1) (aL 37))),
  .asgA aK 15 1 (aL 37),
  .brk] []],
  .ex (.app (aL 36) (.sl (aJ 13 1) (aJ 15 1) (.k .none))),
  .iff (.not (.mcall aK 26 1 4 [])) [.brk] []],
  .asg 38 (.sm .join (aI []) [(aL 36)]),
  .ret (aL 38)] }
noncomputable def Tj:MFun:=
 { ps:=[0,27],ds:=[],body:=[.iff (.cmp .isn (aL 27) (.glob .none)) [.iff (.cmp .eq (aJ 15 1) (aH 0)) [.asgA aK 13 1 (.bop .add (aL 27) (aJ 13 1)),
  .augA aK 14 1 .add (aH 1)] [.augA aK 15 1 .sub (aH 1),
  .asrt (.cmp .eq (.sub (aJ 13 1) (aJ 15 1)) (aL 27))]] []] }
noncomputable def AL:MFun:=
 { ps:=[1],ds:=[],body:=[.ret (.sm .join (aI []) [(.comp (.ite (.cmp2 .le .le (aI [65]) (aL 33) (aI [90])) (.bi .chr [(.bop .add (.bi .ord [(aL 33)]) (aH 32))]) (aL 33)) 33 (aL 1) (.k (.bool true)))])] }
noncomputable def AD:MFun:=
 { ps:=[126,111,127,128],ds:=[(.int 0),.none],body:=[.iff (.cmp .is (aL 128) (.k .none)) [.asg 128 (.bi .len [(aL 126)])] [],
  .whl (.cmp .lt (aL 127) (aL 128)) [.asg 129 (.bop .fdiv (.bop .add (aL 127) (aL 128)) (aH 2)),
  .iff (.cmp .lt (.sub (aL 126) (aL 129)) (aL 111)) [.asg 127 (.bop .add (aL 129) (aH 1))] [.asg 128 (aL 129)]],
  .ret (aL 127)] }
def Tx:MFun:=
 { ps:=[0,111],ds:=[],body:=[.ret (.cmp .inn (aL 111) (.fat aK 130 Qk))] }
def To:MFun:=
 { ps:=[0,131],ds:=[],body:=[.iff (.cmp .inn (aL 131) (.fat aK 130 Qk)) [rTR] [],
  .iff (.sm .startswith (aL 131) [(.fat aK 132 (.str []))]) [.asgT [133,134] (.fat aK 135 NM),
  .asg 136 (.call 53 [(.fat aK 137 YV),(aL 131),(aL 133),(aL 134)])] [.dead],
  .iff (.cmp .eq (aL 136) (.bi .len [(.fat aK 137 YV)])) [.ret (.k (.bool false))] [],
  .ret (.sm .startswith (.sub (.fat aK 137 YV) (aL 136)) [(aL 131)])] }
noncomputable def Tr:MFun:=
 { ps:=[0,131],ds:=[],body:=[.iff (.inf (aL 131) aK 54) [.ret (aL 131)] [],
  .for 136 (.bi .range [(aH 1),(.bop .add (.bi .len [(aL 131)]) (aH 1))]) [.iff (.inf (.sl (aL 131) (.k .none) (.neg (aL 136))) aK 54) [.ret (.sl (aL 131) (.k .none) (.neg (aL 136)))] []],
  .dead] }
def Ts:MFun:=
 { ps:=[0,20,39],ds:=[.none],body:=[.asgA aK 20 3 (.new 1 8 [(aL 20)] .tmp),
  .asgA aK 39 3 (aL 39),
  .asgA aK 40 3 (.k (.bool false)),
  .asgA aK 41 3 (.lst [] .tmp),
  sST 43 9,
  .asgA aK 44 3 (.k (.bool false)),
  .asgA aK 45 3 (.k .none)] }
def Th:MFun:=
 { ps:=[0],ds:=[],body:=[.asg 83 cTK,
  .iff (.cmp .inn (.sub (aL 83) (aI wC)) (.glob Bl)) [.asgS (aL 83) (aI wZ) (.call 34 [(.sub (aL 83) (aI wZ))]),
  .iff (.cmp .eq (.sub (aL 83) (aI wC)) (tyO vG)) [.dead,.dead,.dead,.dead] [],
  .iff (.cmp .eq (.sub (aL 83) (aI wC)) (tyO w7)) [.iff (.sub (aL 83) (aI wB)) [qER wX] [],
  .iff (.sub (aL 83) (aI wJ)) [qER wR] []] []] [],
  .ex (.app (aJ 48 3) (aL 83)),
  sST 43 9] }
def Xk:MFun:=
 { ps:=[0,199],ds:=[],body:=[.asg 200 (.glob XB),
  .asg 201 (aH 10),
  .iff (aL 199) [.asg 200 (.glob Xm),
  .asg 201 (aH 16)] [],
  .asg 56 (.lst [] .tmp),
  .asg 33 (.mcall sTR 27 1 10 []),
  .whl (.and (.cmp .inn (aL 33) (aL 200)) (.cmp .isn (aL 33) (.glob .none))) [.ex (.app (aL 56) (aL 33)),
  .asg 33 (.mcall sTR 27 1 10 [])],
  .asg 202 (.bi .int [(.sm .join (aI []) [(aL 56)]),(aL 201)]),
  .iff (.ink (aL 202) 203 TF) [.dead,.dead] [.iff (.or (.cmp2 .le .le (aH 55296) (aL 202) (aH 57343)) (.cmp .gt (aL 202) (aH 1114111))) [.asg 27 (aI [65533]),
  .ex (.app (aJ 48 3) (.dct [wC,wB,w9] [tyE,(aI wE),(.dct [w6] [(aL 202)] .frz)] .frz))] [.iff (.or (.cmp2 .le .le (aH 1) (aL 202) (aH 8)) (.or (.cmp2 .le .le (aH 14) (aL 202) (aH 31)) (.or (.cmp2 .le .le (aH 127) (aL 202) (aH 159)) (.or (.cmp2 .le .le (aH 64976) (aL 202) (aH 65007)) (.cmp .inn (aL 202) (.tup [(aH 11),(aH 65534),(aH 65535),(aH 131070),(aH 131071),(aH 196606),(aH 196607),(aH 262142),(aH 262143),(aH 327678),(aH 327679),(aH 393214),(aH 393215),(aH 458750),(aH 458751),(aH 524286),(aH 524287),(aH 589822),(aH 589823),(aH 655358),(aH 655359),(aH 720894),(aH 720895),(aH 786430),(aH 786431),(aH 851966),(aH 851967),(aH 917502),(aH 917503),(aH 983038),(aH 983039),(aH 1048574),(aH 1048575),(aH 1114110),(aH 1114111)])))))) [.ex (.app (aJ 48 3) (.dct [wC,wB,w9] [tyE,(aI wE),(.dct [w6] [(aL 202)] .frz)] .frz))] [],
  .tryS [.asg 27 (.bi .chr [(aL 202)])]]],
  .iff (.cmp .ne (aL 33) (aI [59])) [qER wM,
  .ex (.mcall sTR 54 1 17 [(aL 33)])] [],
  .ret (aL 27)] }
def Tn:MFun:=
 { ps:=[0,138,139],ds:=[.none,(.bool false)],body:=[.asg 140 (aI [38]),
  .asg 56 (.lst [(.mcall sTR 27 1 10 [])] .tmp),
  .iff (.or (.cmp .inn (.sub (aL 56) (aH 0)) (.glob J7)) (.or (.cmp .inn (.sub (aL 56) (aH 0)) (.tup [(.glob .none),(aI [60]),(aI [38])])) (.and (.cmp .isn (aL 138) (.k .none)) (.cmp .eq (aL 138) (.sub (aL 56) (aH 0)))))) [.ex (.mcall sTR 54 1 17 [(.sub (aL 56) (aH 0))])] [.iff (.cmp .eq (.sub (aL 56) (aH 0)) (aI [35])) [.asg 204 (.k (.bool false)),
  .ex (.app (aL 56) (.mcall sTR 27 1 10 [])),
  .iff (.cmp .inn (.sub (aL 56) (.neg (aH 1))) (.tup [(aI [120]),(aI [88])])) [.asg 204 (.k (.bool true)),
  .ex (.app (aL 56) (.mcall sTR 27 1 10 []))] [],
  .iff (.or (.and (aL 204) (.cmp .inn (.sub (aL 56) (.neg (aH 1))) (.glob Xm))) (.and (.not (aL 204)) (.cmp .inn (.sub (aL 56) (.neg (aH 1))) (.glob XB)))) [.ex (.mcall sTR 54 1 17 [(.sub (aL 56) (.neg (aH 1)))]),
  .asg 140 (.mcall aK 205 3 93 [(aL 204)])] [qER wU,
  .ex (.mcall sTR 54 1 17 [(.pop (aL 56) [])]),
  .asg 140 (.bop .add (aI [38]) (.sm .join (aI []) [(aL 56)]))]] [.whl (.cmp .isn (.sub (aL 56) (.neg (aH 1))) (.glob .none)) [.iff (.not (.fmc (.glob (.fn 0)) 141 55 [(.sm .join (aI []) [(aL 56)])])) [.brk] [],
  .ex (.app (aL 56) (.mcall sTR 27 1 10 []))],
  .tryK 142 143 1056 (.sm .join (aI []) [(.sl (aL 56) (.k .none) (.neg (aH 1)))]) [.asg 142 (.fmc (.glob (.fn 0)) 143 56 [(.sm .join (aI []) [(.sl (aL 56) (.k .none) (.neg (aH 1)))])]),
  .asg 144 (.bi .len [(aL 142)])],
  .iff (.cmp .isn (aL 142) (.k .none)) [.iff (.cmp .ne (.sub (aL 142) (.neg (aH 1))) (aI [59])) [qER wO] [],
  .iff (.and (.cmp .ne (.sub (aL 142) (.neg (aH 1))) (aI [59])) (.and (aL 139) (.or (.cmp .inn (.sub (aL 56) (aL 144)) (.glob Uz)) (.or (.cmp .inn (.sub (aL 56) (aL 144)) (.glob XB)) (.cmp .eq (.sub (aL 56) (aL 144)) (aI [61])))))) [.dead,.dead] [.asg 140 (.sub (.glob Qk) (aL 142)),
  .ex (.mcall sTR 54 1 17 [(.pop (aL 56) [])]),
  .augN 140 .add (.sm .join (aI []) [(.sl (aL 56) (aL 144) (.k .none))])]] [qER wV,
  .ex (.mcall sTR 54 1 17 [(.pop (aL 56) [])]),
  .asg 140 (.bop .add (aI [38]) (.sm .join (aI []) [(aL 56)]))]]],
  .iff (aL 139) [.dead] [.iff (.cmp .inn (aL 140) (.glob J7)) [.asg 145 (aI wK)] [.asg 145 (aI w4)],
  qAP (.sub (.glob UG) (aL 145)) (aL 140)]] }
def Tq:MFun:=
 { ps:=[0],ds:=[],body:=[rCH,
  .iff (dEQ [38]) [sST 46 11] [.iff (dEQ [60]) [.dead] [.iff (dEQ [0]) [qER wA,
  qCH [0]] [.iff dEO [.ret (.k (.bool false))] [.iff dSP [qAP (tyO wK) (.bop .add (aL 30) (.mcall sTR 49 1 13 [(.glob J7),(.k (.bool true))]))] [.asg 50 (.mcall sTR 49 1 13 [(.tup [(aI [38]),(aI [60]),(aI [0])])]),
  qAP tyC (.bop .add (aL 30) (aL 50))]]]]],
  rTR] }
def Ti:MFun:=
 { ps:=[0],ds:=[],body:=[.ex (.mcall aK 146 3 57 []),
  sST 43 9,
  rTR] }
def Tp:MFun:=
 { ps:=[0],ds:=[],body:=[rCH,
  .iff (dEQ [38]) [sST 206 94] [.iff (dEQ [60]) [sST 207 58] [.iff (.cmp .eq (aL 30) (.glob .none)) [.ret (.k (.bool false))] [.iff (dEQ [0]) [qER wA,
  qCH [65533]] [.iff dSP [qAP (tyO wK) (.bop .add (aL 30) (.mcall sTR 49 1 13 [(.glob J7),(.k (.bool true))]))] [.asg 50 (.mcall sTR 49 1 13 [(.tup [(aI [38]),(aI [60]),(aI [0])])]),
  qAP tyC (.bop .add (aL 30) (aL 50))]]]]],
  rTR] }
def TX:MFun:=
 { ps:=[0],ds:=[],body:=[.ex (.mcall aK 146 3 57 []),
  sST 208 60,
  rTR] }
def Ta:MFun:=
 { ps:=[0],ds:=[],body:=[rCH,
  .iff (dEQ [47]) [.asgA aK 148 3 (aI []),
  sST 209 59] [qCH [60],
  uGT,
  sST 208 60],
  rTR] }
def Tc:MFun:=
 { ps:=[0],ds:=[],body:=[rCH,
  .iff dLE [.augA aK 148 3 .add (aL 30),
  sST 210 61] [qCH [60,47],
  uGT,
  sST 208 60],
  rTR] }
def BG:MFun:=
 { ps:=[0],ds:=[],body:=[.asg 152 (.and cTK (.cmp .eq (.sm .lower (.sub cTK (aI wZ)) []) (.sm .lower (aJ 148 3) []))),
  rCH,
  .iff (.and dSP (aL 152)) [.asgA aK 45 3 (.dct [wC,wZ,wB,wJ] [(tyO w7),(aJ 148 3),(.lst [] (.per 2)),(.k (.bool false))] (.per 0)),
  sST 153 62] [.iff (.and (dEQ [47]) (aL 152)) [.asgA aK 45 3 (.dct [wC,wZ,wB,wJ] [(tyO w7),(aJ 148 3),(.lst [] (.per 2)),(.k (.bool false))] (.per 0)),
  sST 154 63] [.iff (.and (dEQ [62]) (aL 152)) [.asgA aK 45 3 (.dct [wC,wZ,wB,wJ] [(tyO w7),(aJ 148 3),(.lst [] (.per 2)),(.k (.bool false))] (.per 0)),
  .ex (.mcall aK 155 3 64 []),
  sST 43 9] [.iff dLE [.augA aK 148 3 .add (aL 30)] [qAP tyC (.bop .add (aI [60,47]) (aJ 148 3)),
  uGT,
  sST 208 60]]]],
  rTR] }
def TZ:MFun:=
 { ps:=[0],ds:=[],body:=[rCH,
  .iff dSP [.ex (.mcall sTR 49 1 13 [(.glob J7),(.k (.bool true))])] [.iff dLE [.ex (.app (.sub cTK (aI wB)) (.lst [(aL 30),(aI [])] (.per 1))),
  sST 156 65] [.iff (dEQ [62]) [.ex (.mcall aK 155 3 64 [])] [.iff (dEQ [47]) [sST 154 63] [.iff (.cmp .inn (aL 30) (.tup [(aI [39]),(aI [34]),(aI [61]),(aI [60])])) [qER wL,
  .ex (.app (.sub cTK (aI wB)) (.lst [(aL 30),(aI [])] (.per 1))),
  sST 156 65] [.iff (dEQ [0]) [qER wA,
  .ex (.app (.sub cTK (aI wB)) (.lst [(aI [65533]),(aI [])] (.per 1))),
  sST 156 65] [.iff dEO [qER wG,
  sST 43 9] [.ex (.app (.sub cTK (aI wB)) (.lst [(aL 30),(aI [])] (.per 1))),
  sST 156 65]]]]]]],
  rTR] }
def BH:MFun:=
 { ps:=[0],ds:=[],body:=[rCH,
  .asg 157 (.k (.bool true)),
  .asg 158 (.k (.bool false)),
  .iff (dEQ [61]) [.dead] [.iff dLE [.augS (.sub (.sub cTK (aI wB)) (.neg (aH 1))) (aH 0) .add (.bop .add (aL 30) (.mcall sTR 49 1 13 [(.glob Uz),(.k (.bool true))])),
  .asg 157 (.k (.bool false))] [.iff (dEQ [62]) [.asg 158 (.k (.bool true))] [.iff dSP [sST 159 66] [.iff (dEQ [47]) [sST 154 63] [.iff (dEQ [0]) [qER wA,
  .augS (.sub (.sub cTK (aI wB)) (.neg (aH 1))) (aH 0) .add (aI [65533]),
  .asg 157 (.k (.bool false))] [.iff (.cmp .inn (aL 30) (.tup [(aI [39]),(aI [34]),(aI [60])])) [qER wL,
  .augS (.sub (.sub cTK (aI wB)) (.neg (aH 1))) (aH 0) .add (aL 30),
  .asg 157 (.k (.bool false))] [.iff dEO [qER wN,
  sST 43 9] [.augS (.sub (.sub cTK (aI wB)) (.neg (aH 1))) (aH 0) .add (aL 30),
  .asg 157 (.k (.bool false))]]]]]]]],
  .iff (aL 157) [.asgS (.sub (.sub cTK (aI wB)) (.neg (aH 1))) (aH 0) (.call 34 [(.sub (.sub (.sub cTK (aI wB)) (.neg (aH 1))) (aH 0))]),
  .forT [66,160] (.sl (.sub cTK (aI wB)) (.k .none) (.neg (aH 1))) [.iff (.cmp .eq (.sub (.sub (.sub cTK (aI wB)) (.neg (aH 1))) (aH 0)) (aL 66)) [qER wQ,
  .brk] []],
  .iff (aL 158) [.ex (.mcall aK 155 3 64 [])] []] [],
  rTR] }
def Tb:MFun:=
 { ps:=[0],ds:=[],body:=[rCH,
  .iff dSP [.ex (.mcall sTR 49 1 13 [(.glob J7),(.k (.bool true))])] [.iff (dEQ [61]) [.dead] [.iff (dEQ [62]) [.ex (.mcall aK 155 3 64 [])] [.iff dLE [.ex (.app (.sub cTK (aI wB)) (.lst [(aL 30),(aI [])] (.per 1))),
  sST 156 65] [.iff (dEQ [47]) [sST 154 63] [.iff (dEQ [0]) [qER wA,
  .ex (.app (.sub cTK (aI wB)) (.lst [(aI [65533]),(aI [])] (.per 1))),
  sST 156 65] [.iff (.cmp .inn (aL 30) (.tup [(aI [39]),(aI [34]),(aI [60])])) [qER w5,
  .ex (.app (.sub cTK (aI wB)) (.lst [(aL 30),(aI [])] (.per 1))),
  sST 156 65] [.iff dEO [qER wI,
  sST 43 9] [.ex (.app (.sub cTK (aI wB)) (.lst [(aL 30),(aI [])] (.per 1))),
  sST 156 65]]]]]]]],
  rTR] }
def TY:MFun:=
 { ps:=[0],ds:=[],body:=[rCH,
  .iff (dEQ [62]) [.asgS cTK (aI wJ) (.k (.bool true)),
  .ex (.mcall aK 155 3 64 [])] [.iff dEO [qER wH,
  uGT,
  sST 43 9] [qER wD,
  uGT,
  sST 153 62]],
  rTR] }
noncomputable def AX:MFun:=
 { ps:=[],ds:=[],body:=[.ret (.lst [(aI [116,105,116,108,101]),(aI [84,73,84,76,69]),(aI [105])] .frz)] }
def AW:MFun:=
 { ps:=[],ds:=[],body:=[.ret (.lst [(.tup [(aI []),(aI []),(aI [])]),(.tup [(aI [120]),(aI []),(aI [120])]),(.tup [(aI [32,120]),(aI []),(aI [32,120])]),(.tup [(aI [0]),(aI wA),(aI [0])]),(.tup [(aI [38,108,116,59]),(aI []),(aI [60])])] .frz)] }
def AV:MFun:=
 { ps:=[66],ds:=[],body:=[.ret (.dct [wC,wB] [tyE,(aL 66)] .frz)] }
def AU:MFun:=
 { ps:=[4],ds:=[],body:=[.ret (.dct [wC,wB] [tyC,(aL 4)] .frz)] }
def Yn:MFun:=
 { ps:=[161],ds:=[],body:=[.asg 126 (.lst [] (.per 50)),
  .for 83 (aL 161) [.iff (.and (.cmp .ne (.sub (aL 83) (aI wC)) tyC) (.cmp .ne (.sub (aL 83) (aI wC)) (tyO wK))) [.ex (.app (aL 126) (aL 83))] [.iff (.and (aL 126) (.cmp .eq (.sub (.sub (aL 126) (.neg (aH 1))) (aI wC)) tyC)) [.asgS (aL 126) (.neg (aH 1)) (.call 67 [(.bop .add (.sub (.sub (aL 126) (.neg (aH 1))) (aI wB)) (.sub (aL 83) (aI wB)))])] [.ex (.app (aL 126) (.call 67 [(.sub (aL 83) (aI wB))]))]]],
  .ret (aL 126)] }
def Qi:MFun:=
 { ps:=[1,2],ds:=[],body:=[.asg 211 (.sl (aL 1) (.bop .add (aL 2) (aH 1)) (.bop .add (aL 2) (aH 2))),
  .iff (.cmp .inn (aL 211) (.tup [(aI []),(aI [32]),(aI [60]),(aI [38])])) [.ret (.tup [(.lst [] .frz),(aI [38]),(.bop .add (aL 2) (aH 1))])] [],
  .iff (.cmp .eq (aL 211) (aI [35])) [.asg 212 (.ite (.cmp .eq (.sl (aL 1) (.bop .add (aL 2) (aH 2)) (.bop .add (aL 2) (aH 3))) (aI [120])) (aH 16) (aH 10)),
  .asg 77 (.ite (.cmp .eq (aL 212) (aH 16)) (.bop .add (aL 2) (aH 3)) (.bop .add (aL 2) (aH 2))),
  .asg 37 (aL 77),
  .asg 213 (aH 0),
  .whl (.and (.cmp .lt (aL 37) (.bi .len [(aL 1)])) (.cmp .inn (.sub (aL 1) (aL 37)) (.sl (.glob UY) (.k .none) (aL 212)))) [.asg 213 (.bop .add (.bop .mul (aL 213) (aL 212)) (.sm .find (.glob UY) [(.sub (aL 1) (aL 37))])),
  .augN 37 .add (aH 1)],
  .iff (.cmp .eq (aL 37) (aL 77)) [.ret (.tup [(.lst [(.call 28 [(aI wU)])] .frz),(.sl (aL 1) (aL 2) (aL 77)),(aL 77)])] [],
  .asg 71 (.lst [] (.per 54)),
  .iff (.or (.cmp .lt (aL 213) (aH 9)) (.cmp .gt (aL 213) (aH 1114111))) [.ex (.app (aL 71) (.dct [wC,wB,w9] [tyE,(aI wE),(.dct [w6] [(aL 213)] .frz)] .frz))] [],
  .asg 68 (.ite (.cmp .gt (aL 213) (aH 1114111)) (aI [65533]) (.bi .chr [(aL 213)])),
  .iff (.cmp .eq (.sl (aL 1) (aL 37) (.bop .add (aL 37) (aH 1))) (aI [59])) [.ret (.tup [(aL 71),(aL 68),(.bop .add (aL 37) (aH 1))])] [],
  .ret (.tup [(.bop .add (aL 71) (.lst [(.call 28 [(aI wM)])] .frz)),(aL 68),(aL 37)])] [],
  .asg 214 (.comp (.bi .len [(aL 66)]) 66 (.glob Qk) (.cmp .eq (.sl (aL 1) (.bop .add (aL 2) (aH 1)) (.bop .add (.bop .add (aL 2) (aH 1)) (.bi .len [(aL 66)]))) (aL 66))),
  .iff (.cmp .eq (aL 214) (.lst [] .frz)) [.ret (.tup [(.lst [(.call 28 [(aI wV)])] .frz),(aI [38]),(.bop .add (aL 2) (aH 1))])] [],
  .asg 37 (.bop .add (.bop .add (aL 2) (aH 1)) (.bi .max [(aL 214)])),
  .asg 66 (.sl (aL 1) (.bop .add (aL 2) (aH 1)) (aL 37)),
  .ret (.tup [(.ite (.cmp .eq (.sub (aL 66) (.neg (aH 1))) (aI [59])) (.lst [] .frz) (.lst [(.call 28 [(aI wO)])] .frz)),(.sub (.glob Qk) (aL 66)),(aL 37)])] }
def Xl:MFun:=
 { ps:=[117,107],ds:=[],body:=[.asg 71 (.lst [] (.per 51)),
  .asg 162 (.lst [] (.per 52)),
  .asg 3 (.bi .len [(aL 117)]),
  .for 2 (.bi .range [(.bop .add (aL 3) (aH 1))]) [.asg 163 (aL 2),
  .whl (.and (.cmp .gt (aL 163) (aH 0)) (.cmp .eq (.sub (aL 117) (.bop .sub (aL 163) (aH 1))) (aI [32]))) [.augN 163 .sub (aH 1)],
  .asg 164 (.and (.cmp2 .lt .lt (aH 0) (aL 163) (aL 2)) (.cmp .ne (.sub (aL 117) (.bop .sub (aL 163) (aH 1))) (aI [47]))),
  .asg 68 (.ite (.cmp .lt (aL 2) (aL 3)) (.sub (aL 117) (aL 2)) (aI [])),
  .iff (.cmp .eq (aL 68) (aI [47])) [.iff (.cmp .lt (.bop .add (aL 2) (aH 1)) (aL 3)) [.ex (.app (aL 71) (aI wD))] [.iff (.not (aL 107)) [.ex (.app (aL 71) (aI wH))] []]] [.iff (.and (.cmp .eq (aL 68) (aI [])) (.and (.cmp .lt (aL 163) (aL 2)) (.not (aL 107)))) [.ex (.app (aL 71) (.ite (aL 164) (aI wI) (aI wG)))] [.iff (.and (.cmp .ne (aL 68) (aI [])) (.cmp .ne (aL 68) (aI [32]))) [.iff (.cmp .eq (aL 68) (aI [0])) [.ex (.app (aL 71) (aI wA))] [.iff (.cmp .eq (aL 68) (aI [60])) [.ex (.app (aL 71) (.bop .add (.bop .add (aI vD) (.ite (aL 164) (aI [97,102,116,101,114]) (aI [105,110]))) (aI vH)))] []],
  .iff (.or (.cmp .eq (.bop .add (aL 2) (aH 1)) (aL 3)) (.cmp .inn (.sub (aL 117) (.bop .add (aL 2) (aH 1))) (.tup [(aI [32]),(aI [47])]))) [.asg 77 (aL 2),
  .whl (.and (.cmp .gt (aL 77) (aH 0)) (.cmp .nin (.sub (aL 117) (.bop .sub (aL 77) (aH 1))) (.tup [(aI [32]),(aI [47])]))) [.augN 77 .sub (aH 1)],
  .asg 78 (.sm .replace (.sm .lower (.sl (aL 117) (aL 77) (.bop .add (aL 2) (aH 1))) []) [(aI [0]),(aI [65533])]),
  .iff (.and (.cmp .eq (.bop .add (aL 2) (aH 1)) (aL 3)) (.not (aL 107))) [.ex (.app (aL 71) (aI wN))] [],
  .iff (.cmp .inn (aL 78) (aL 162)) [.ex (.app (aL 71) (aI wQ))] [],
  .ex (.app (aL 162) (aL 78))] []] []]]],
  .ret (.tup [(aL 71),(aL 162)])] }
def Kj:MFun:=
 { ps:=[1,66],ds:=[],body:=[.for 2 (.bi .range [(.bi .len [(aL 1)])]) [.iff (.cmp .eq (.sl (aL 1) (aL 2) (.bop .add (aL 2) (aH 2))) (aI [60,47])) [.asg 165 (.bop .add (aL 2) (aH 2)),
  .whl (.and (.cmp .lt (aL 165) (.bi .len [(aL 1)])) (.cmp .inn (.sub (aL 1) (aL 165)) (.glob Yo))) [.augN 165 .add (aH 1)],
  .iff (.and (.cmp .eq (.sm .lower (.sl (aL 1) (.bop .add (aL 2) (aH 2)) (aL 165)) []) (.sm .lower (aL 66) [])) (.cmp .inn (.sl (aL 1) (aL 165) (.bop .add (aL 165) (aH 1))) (.tup [(aI [32]),(aI [47]),(aI [62])]))) [.ret (aL 2)] []] []],
  .ret (.bi .len [(aL 1)])] }
noncomputable def ZC5:MFun:=
 { ps:=[80,0,131],ds:=[],body:=[.isx 80,.iff (.inf (aL 131) aK 54) [.dead] [],
  .for 136 (.bi .range [(aH 1),(.bop .add (.bi .len [(aL 131)]) (aH 1))]) [.dead],
  .ex (aL 131)] }
def tab:List (Nat×MFun):=[(3,AZ),(6,AY),(7,AK),(8,Tl),(2,Tk),(1,Td),(5,Tg),(68,Tf),(10,Tm),(4,Te),(0,TV),(13,Ym),(17,Tj),(34,AL),(53,AD),(54,Tx),(55,To),(56,Tr),(30,Ts),(64,Th),(93,Xk),(57,Tn),(9,Tq),(11,Ti),(60,Tp),(94,TX),(58,Ta),(59,Tc),(61,BG),(62,TZ),(65,BH),(66,Tb),(63,TY),(69,AX),(70,AW),(28,AV),(67,AU),(71,Yn),(95,Qi),(72,Xl),(73,Kj),(1056,ZC5)]
end Mine.Tactic
end
noncomputable section
namespace Mine.Tactic
def tT(f:Nat):Option MFun:=JA tab f
noncomputable def fs1(ch:LN)(sz off l1 l2:Int):List (Nat×Vv):=[(7,.meth 0 (.obj (.t 1))),(9,.obj (.t 2)),(10,.obj (.t 3)),(13,.str ch),(14,.int sz),(15,.int off),(16,.obj (.t 4)),(17,.int l1),(18,.int l2),(19,.none)]
noncomputable def fs3(src:LN)(pl:Int):List (Nat×Vv):=[(1,.str src),(2,.int pl)]
def I1(ch:LN)(sz off l1 l2:Int):Ob:=.inst 1 (fs1 ch sz off l1 l2)
def I3(src:LN)(pl:Int):Ob:=.inst 0 (fs3 src pl)
noncomputable def hS(o1a o3:Ob)(H:List (Id×Ob)):List (Id×Ob):=(.t 1,o1a)::(.t 3,o3)::H
inductive Xs where
 |n
 |o (q:List Vv)
 |t (p q:List Vv)
def hX(x:Xs)(o1a o3:Ob)(H:List (Id×Ob)):List (Id×Ob):=match x with
 |.n=>hS o1a o3 H
 |.o q=>(.t 7,.list q)::hS o1a o3 H
 |.t p q=>(.t 8,.list p)::(.t 7,.list q)::hS o1a o3 H
noncomputable abbrev T1:Vv:=.obj (.t 1)
noncomputable abbrev T3:Vv:=.obj (.t 3)
noncomputable def σ0:St:=⟨[],[],0,[]⟩
theorem JD{α β:Type}{l:List α}{f g:α->β}(h:l.map f=l.map g):∀a∈l,f a=g a:=List.map_inj_left.mp h
noncomputable def al:LN:=[0,32,35,38,47,54,59,60,62,69,73,76,84,97,101,105,108,109,110,111,112,116,120]
theorem ble{a b:Nat}(h:a<=b):Nat.ble a b=true:=Nat.ble_eq.mpr h
section
variable{x:Xs}{n:Nat}{L:List (Nat×Vv)}{H:List (Id×Ob)}{nx:Nat}{P:LN}{ch src:LN}{sz off l1 l2 pl:Int}{o1a o3:Ob}{a i:Nat}
theorem Ee:∀a∈al,JF tT (n+1) 7 [.int a] ⟨L,H,nx,P⟩=some (.bool false,⟨L,H,nx,P⟩):=JD (by kernel_rfl)
theorem Bb:XF ch [.str [10],.int 0,.int ch.length]=some (10,(ch.length:Int)):=by
 show gd (decide ((0:Int)=0)&&(decide ((0:Int)<=ch.length)&&decide ((ch.length:Int)<=ch.length))) (some (10,(ch.length:Int)))=_;rw[aU (show (0:Int)<=ch.length from aj _),aU (eY _)];rfl
theorem Gc:smV σ0 .count ch [.str [10],.int 0,.int ch.length]=some (.int (Ug 10 ch)):=by
 show bo (XF ch [.str [10],.int 0,.int ch.length]) (fun p=>some (Vv.int (Ug p.1 (ch.take p.2.toNat))))=_
 rw[Bb];exact aM (fun l=>some (Vv.int (Ug 10 l))) (bI (l:=ch))
theorem Dq:smV σ0 .rfind ch [.str [10],.int 0,.int ch.length]=some (.int (Qd 10 ch 0 (-1))):=by
 show bo (XF ch [.str [10],.int 0,.int ch.length]) (fun p=>some (Vv.int (Qd p.1 (ch.take p.2.toNat) 0 (-1))))=_
 rw[Bb];exact aM (fun l=>some (Vv.int (Qd 10 l 0 (-1)))) (bI (l:=ch))
theorem QJ(hl:ch.length<=JC):biV σ0 .len [.str ch]=some (.int ch.length):=by
 show gd (Nat.ble ch.length JC) _=_;rw[ble hl];rfl
theorem Dd(hl:ch.length<=JC):Tactic.Jm σ0 (.str ch)=some (!ch.isEmpty):=by
 show gd (Nat.ble ch.length JC) _=_;rw[ble hl];rfl
def JY(ch:LN)(l1 l2:Int):Int×Int:=(l1+Ug 10 ch,if Qd 10 ch 0 (-1)=-1 then l2+ch.length else ch.length-(Qd 10 ch 0 (-1)+1))
theorem NW:JF tT (n+1) 5 [T1,.int ch.length] ⟨L,hX x (I1 ch sz off l1 l2) o3 H,nx,P⟩=some (.tup [.int (JY ch l1 l2).1,.int (JY ch l1 l2).2],⟨L,hX x (I1 ch sz off l1 l2) o3 H,nx,P⟩):=by
 refine QF ?_;unfold JY;by_cases hr:Qd 10 ch 0 (-1)=-1
 ·rw[aR hr]
  cases x<;>exact .v 2 (Gc (ch:=ch)) (.v 3 (Dq (ch:=ch)) (.b 0 (aM some (aV.mpr hr)) (.done 5)))
 ·rw[aN hr]
  cases x<;>exact .v 2 (Gc (ch:=ch)) (.v 3 (Dq (ch:=ch)) (.b 0 (aM some (xV hr)) (.done 4)))
theorem W2{n k}(h:k<=n):clampIx n (k:Int)=k:=by
 show (max 0 (min (if (k:Int)<0 then (k:Int)+n else k) (n:Int))).toNat=k;rw[aN (bP.mpr (aj k)),eU (b5.mpr h),cH (aj k),cQ]
theorem clamp_big{n k}(h:n<=k):clampIx n (k:Int)=n:=by
 show (max 0 (min (if (k:Int)<0 then (k:Int)+n else k) (n:Int))).toNat=n;rw[aN (bP.mpr (aj k)),Int.min_eq_right (b5.mpr h),cH (aj n),cQ]
theorem Pq(hl:ch.length<=10240):slV σ0 (.str ch) (.int 0) (.int 10240)=some (.str ch):=by
 show gd (Nat.ble ch.length JC) (some (Vv.str (cut ch (clampIx ch.length (0:Nat)) (clampIx ch.length (10240:Nat)))))=_;rw[ble (qA hl (by decide))]
 rw[(W2 (qG _):clampIx ch.length (0:Nat)=0),(clamp_big hl:clampIx ch.length (10240:Nat)=_)];show some (Vv.str ((ch.take ch.length).drop 0))=_;rw[bI];rfl
theorem F4(hl:ch.length<=10240):slV σ0 (.str ch) (.int ch.length) (.int (ch.length+10240))=some (.str []):=by
 show gd (Nat.ble ch.length JC) (some (Vv.str (cut ch (clampIx ch.length ch.length) (clampIx ch.length ((ch.length+10240:Nat):Int)))))=_;rw[ble (qA hl (by decide))]
 rw[W2 (qF _),(clamp_big (qK _ 10240):clampIx ch.length ((ch.length+10240:Nat):Int)=_)];show some (Vv.str ((ch.take ch.length).drop ch.length))=_;rw[bI,ci]
theorem EN(hl:src.length<=10240):JF tT (n+1) 6 [T3,.int 10240] ⟨L,hS o1a (I3 src 0) H,nx,P⟩=some (.str src,⟨L,hS o1a (I3 src src.length) H,nx,P⟩):=by
 rw[<- Int.zero_add (src.length:Int)];refine QF ?_;exact .v 7 (Pq hl) (.v 2 (QJ (qA hl (by decide))) (.done 5))
theorem CY(hl:src.length<=10240):JF tT (n+1) 6 [T3,.int 10240] ⟨L,hX x o1a (I3 src src.length) H,nx,P⟩=some (.str [],⟨L,hX x o1a (I3 src src.length) H,nx,P⟩):=by
 refine QF ?_;cases x<;>exact .v 7 (F4 hl) (.done 8)
theorem Bo(hs:src.length<=10240):JF tT (n+2) 4 [T1] ⟨L,hX x (I1 ch ch.length off l1 l2) (I3 src src.length) H,nx,P⟩=some (.bool false,⟨L,hX x (I1 [] 0 0 (JY ch l1 l2).1 (JY ch l1 l2).2) (I3 src src.length) H,nx,P⟩):=by
 refine QF ?_;have h1:=NW (x:=x) (n:=n) (L:=[(0,T1),(14,.int 10240)]) (H:=H) (nx:=nx) (P:=P) (ch:=ch) (sz:=ch.length) (off:=off) (l1:=l1) (l2:=l2) (o3:=I3 src src.length);have h2:=CY (x:=x) (n:=n) (L:=[(0,T1),(14,.int 10240)]) (H:=H) (nx:=nx) (P:=P) (o1a:=I1 [] 0 0 (JY ch l1 l2).1 (JY ch l1 l2).2) hs;cases x<;>exact .c 8 h1 (.c 19 h2 (.done 6))
end
open PySem
section
variable{n:Nat}{L:List (Nat×Vv)}{H:List (Id×Ob)}{nx:Nat}{P:LN}{ch src r:LN}{sz off l1 l2 pl:Int}{o1a o3:Ob}{a i:Nat}
def Qq:LN:=wA
def ceB:List MS:=[.iff (.call 7 [(.bi .ord [(.loc 33)])]) [.ex (.app (.attr (.loc 0) 16 1) (.k (.str Qq)))] []]
def ceL(d:LN)(a:Nat):List (Nat×Vv):=[(0,T1),(30,.str d),(33,.str [a])]
theorem Gi{d}(ha:a∈al):exs (JF tT (n+1)) ceB ⟨ceL d a,H,nx,P⟩=some (.next,⟨ceL d a,H,nx,P⟩):=by
 refine JB.exs ?_;exact .c 1 (Ee (n:=n) (L:=ceL d a) (H:=H) (nx:=nx) (P:=P) a ha) (.done 2)
theorem PL{d}:∀(l:LN) (b:Nat),(∀a∈l,a∈al)->∃L',Qa (fun v U=>some (U.setLoc 33 v)) (exs (JF tT (n+1)) ceB) (l.map fun c=>.str [c]) ⟨ceL d b,H,nx,P⟩=some (.next,⟨L',H,nx,P⟩):=fun l0=>by
 induction l0 with
 |nil=>
  exact fun b J=>⟨_,rfl⟩
 |cons a l ih=>
  exact fun b h=>(ih a fun x hx=>h x (.tail _ hx)).imp fun L' e=>by
   show bn (exs (JF tT (n+1)) ceB ⟨ceL d a,H,nx,P⟩) _=_;rw[Gi (h a (.head _))];exact e
theorem Gg{d}(h:∀a∈d,a∈al):JF tT (n+2) 0 [T1,.str d] ⟨L,H,nx,P⟩=some (.none,⟨L,H,nx,P⟩):=by
 obtain⟨L',e⟩:∃L',Qa (fun v U=>some (U.setLoc 33 v)) (exs (JF tT (n+1)) ceB) (d.map fun c=>.str [c]) ⟨[(0,T1),(30,.str d)],H,nx,P⟩=some (.next,⟨L',H,nx,P⟩):=by
  cases d with
  |nil=>exact⟨_,rfl⟩
  |cons a l=>
   refine(PL (n:=n) (H:=H) (nx:=nx) (P:=P) (d:=a::l) l a fun x hx=>h x (.tail _ hx)).imp fun L' e=>?_
   show bn (exs (JF tT (n+1)) ceB ⟨ceL (a::l) a,H,nx,P⟩) _=_;rw[Gi (h a (.head _))];exact e
 refine QF ?_;exact .fl 1 e (.done 1)
theorem LJ{a b x}:∀(n:Nat) (s:LN),x∉s->s.length<n->QE (x::a) b n s=s:=by
 intro n;induction n with
 |zero=>
  intro s _ h;exact absurd h (xJ _)
 |succ n ih=>
  intro s hx h;cases s with
  |nil=>rfl
  |cons c s=>
   show (if (x==c&&Jg a s) then _ else c::QE (x::a) b n s)=_;rw[xV (fun e:x=c=>hx (e▸.head _)),ih s (fun q=>hx (.tail _ q)) (xH h)]
   rfl
theorem ZCx{d:LN}(h:∀a∈d,a∈al):13∉d:=fun q=>absurd (h 13 q) (by decide)
theorem Zq{a d}(h:∀a∈d,a∈al)(hl:d.length<=10240):smV σ0 .replace d [.str (13::a),.str [10]]=some (.str d):=by
 show gd (true&&(Nat.ble (d.length+(d.length+1)*1) 16777216&&!false)) (some (Vv.str (QE (13::a) [10] (d.length+1) d)))=_;rw[ble (qA (qQ hl (dX 1 (qJ hl))) (by decide)),LJ _ _ (ZCx h) (xB _)]
 rfl
theorem X9{k n:Nat}(h:k<n):seqIndex? (k:Int) n=some k:=by
 show (if (decide (0<=(if (k:Int)<0 then (k:Int)+n else k))&&decide ((if (k:Int)<0 then (k:Int)+n else k)<(n:Int)))=true then some (if (k:Int)<0 then (k:Int)+n else k).toNat else none)=_;rw[aN (bP.mpr (aj k)),aU (aj k),aU (a8.mpr h)];rfl
theorem Yx{n}:seqIndex? (-1) (n+1)=some n:=by
 show (if (decide ((0:Int)<=(-1+(n+1:Nat):Int))&&decide ((-1+(n+1:Nat):Int)<(n+1:Nat)))=true then some (-1+(n+1:Nat):Int).toNat else none)=_;rw[((Int.add_comm _ _).trans (cM (n:Int) 1):(-1+(n+1:Nat):Int)=n),aU (aj n),aU (a8.mpr (xB n))];rfl
theorem XG{s k c j}(hl:s.length<=JC)(hj:seqIndex? j s.length=some k)(hc:s[k]?=some c):Qo σ0 (.str s) (.int j)=some (.str [c]):=by
 show gd (Nat.ble s.length JC) (bo (seqIndex? j s.length) fun j=>bo s[j]? fun c=>some (Vv.str [c]))=_
 rw[ble hl,hj];show bo s[k]? _=_;rw[hc];rfl
theorem Rv{d:LN}(h:∀a∈d,a∈al){k}(hk:k<d.length):∃c,d[k]?=some c/\c∈al:=⟨d[k],ah hk,h _ (List.getElem_mem hk)⟩
theorem n13:∀a∈al,((a:Int)==13)=false:=JD (by kernel_rfl)
theorem n55:∀a∈al,decide ((55296:Int)<=a)=false:=JD (by kernel_rfl)
theorem CD(hs:(a::r).length<=10240)(fL:∀b∈a::r,b∈al):
  JF tT (n+3) 4 [T1] ⟨L,hS (I1 [] 0 off l1 l2) (I3 (a::r) 0) H,nx,P⟩=some (.bool true,⟨L,hS (I1 (a::r) (a::r).length 0 (JY [] l1 l2).1 (JY [] l1 l2).2) (I3 (a::r) (a::r).length) H,nx,P⟩):=by
 obtain⟨c,hc,hca⟩:=Rv fL (xB r.length);have hm:(a::r).length<=JC:=qA hs (by decide)
 have f1:=NW (x:=.n) (n:=n+1) (L:=[(0,T1),(14,.int 10240)]) (H:=H) (nx:=nx) (P:=P) (ch:=[]) (sz:=0) (off:=off) (l1:=l1) (l2:=l2) (o3:=I3 (a::r) 0);have f2:=EN (n:=n+1) (L:=[(0,T1),(14,.int 10240)]) (H:=H) (nx:=nx) (P:=P) (o1a:=I1 [] 0 0 (JY [] l1 l2).1 (JY [] l1 l2).2) hs;have f3:=Dd hm;have f4:=QJ hm;have f5:=XG hm Yx hc;refine QF ?_;by_cases hgt:(1:Int)<((a::r).length:Int)
 ·exact .c 28 f2 (.b 3 f3 (.v 1 f4 (.b 0 (aM some (aU hgt)) (.v 1 f5 (.b 1 (aM some (n13 c hca)) (.b 1 (aM some (n55 c hca)) (.c 6 (Gg (n:=n) (L:=[(0,T1),(14,.int 10240),(30,.str (a::r)),(32,.int c)]) (H:=hS (I1 [] 0 0 (JY [] l1 l2).1 (JY [] l1 l2).2) (I3 (a::r) (a::r).length) H) (nx:=nx) (P:=P) fL) (.v 1 (Zq (a:=[10]) fL hs) (.v 0 (Zq (a:=[]) fL hs) (.v 3 f4 (.done 4)))))))))))
 ·exact .c 28 f2 (.b 3 f3 (.v 1 f4 (.b 0 (aM some (an hgt)) (.c 6 (Gg (n:=n) (L:=[(0,T1),(14,.int 10240),(30,.str (a::r))]) (H:=hS (I1 [] 0 0 (JY [] l1 l2).1 (JY [] l1 l2).2) (I3 (a::r) (a::r).length) H) (nx:=nx) (P:=P) fL) (.v 1 (Zq (a:=[10]) fL hs) (.v 0 (Zq (a:=[]) fL hs) (.v 3 f4 (.done 4))))))))
theorem Br{x:Xs}{off:Nat}(ha:ch[off]?=some a)(hl:ch.length<=JC):
  JF tT (n+1) 10 [T1] ⟨L,hX x (I1 ch ch.length off l1 l2) o3 H,nx,P⟩=some (.str [a],⟨L,hX x (I1 ch ch.length (off+1:Nat) l1 l2) o3 H,nx,P⟩):=by
 have fG:=(ax.mp ha).1;refine QF ?_;cases x<;>exact .b 4 (aM some (an (dR.mpr (a8.mpr fG)))) (.v 5 (XG hl (X9 fG) ha) (.done 5))
theorem DS{x}(hs:src.length<=10240):
  JF tT (n+3) 10 [T1] ⟨L,hX x (I1 ch ch.length ch.length l1 l2) (I3 src src.length) H,nx,P⟩=some (.none,⟨L,hX x (I1 [] 0 0 (JY ch l1 l2).1 (JY ch l1 l2).2) (I3 src src.length) H,nx,P⟩):=by
 refine QF ?_;have hc:=Bo (x:=x) (n:=n) (L:=[(0,T1)]) (H:=H) (nx:=nx) (P:=P) (ch:=ch) (off:=ch.length) (l1:=l1) (l2:=l2) hs;cases x<;>exact .b 4 (aM some (aU (eY (ch.length:Int)))) (.c 3 hc (.done 3))
theorem CE(hs:(a::r).length<=10240)(fL:∀b∈a::r,b∈al):
  JF tT (n+4) 10 [T1] ⟨L,hS (I1 [] 0 0 l1 l2) (I3 (a::r) 0) H,nx,P⟩=some (.str [a],⟨L,hS (I1 (a::r) (a::r).length 1 (JY [] l1 l2).1 (JY [] l1 l2).2) (I3 (a::r) (a::r).length) H,nx,P⟩):=by
 refine QF ?_;exact .c 8 (CD (n:=n) (L:=[(0,T1)]) (H:=H) (nx:=nx) (P:=P) (off:=0) (l1:=l1) (l2:=l2) hs fL) (.v 6 (XG (s:=a::r) (j:=0) (qA hs (by decide)) (X9 (xD _)) rfl) (.done 5))
theorem Ka:JF tT (n+1) 17 [T1,.none] ⟨L,H,nx,P⟩=some (.none,⟨L,H,nx,P⟩):=by
 refine QF ?_;exact .done 3
theorem Kb{x off}(ha:ch[off]?=some a)(hl:ch.length<=JC):
  JF tT (n+1) 17 [T1,.str [a]] ⟨L,hX x (I1 ch ch.length (off+1:Nat) l1 l2) o3 H,nx,P⟩=some (.none,⟨L,hX x (I1 ch ch.length off l1 l2) o3 H,nx,P⟩):=by
 have fG:=(ax.mp ha).1;have e:((off+1:Nat):Int)-1=off:=cM (off:Int) 1;refine QF ?_;rw[<- e];cases x<;>exact .v 16 (XG (j:=((off+1:Nat):Int)-1) hl (e▸X9 fG) ha) (.b 0 (aM some (aS [a])) (.done 3))
end
open PySem
noncomputable def Wi:ME:=(.and (.cmp .ne (.loc 37) (.attr (.loc 0) 14 1)) (.cmp .eq (.cmp .inn (.sub (.attr (.loc 0) 13 1) (.loc 37)) (.loc 34)) (.loc 35)))
noncomputable def BD:List MS:=[.augN 37 .add (.k (.int 1))]
def Nn:List MS:=[.asg 37 (.attr (.loc 0) 15 1),
      .whl Wi BD,
      .iff (.cmp .eq (.loc 37) (.attr (.loc 0) 15 1)) [.iff (.cmp .ne (.attr (.loc 0) 15 1) (.attr (.loc 0) 14 1)) [.brk] []] [.iff (.cmp .ne (.loc 37) (.attr (.loc 0) 14 1)) [.ex (.app (.loc 36) (.sl (.attr (.loc 0) 13 1) (.attr (.loc 0) 15 1) (.loc 37))),
      .asgA (.loc 0) 15 1 (.loc 37),
      .brk] []],
      .ex (.app (.loc 36) (.sl (.attr (.loc 0) 13 1) (.attr (.loc 0) 15 1) (.k .none))),
      .iff (.not (.mcall (.loc 0) 26 1 4 [])) [.brk] []]
def InP(fF:Vv)(p:Nat->Bool):Prop:=∀U a,Xh U .inn (.str [a]) fF=some (p a)
def BC(fF:Vv)(opp:Bool):List (Nat×Vv):=[(0,T1),(34,fF),(35,.bool opp),(36,(.obj (.t 7)))]
def cuL(fF:Vv)(opp:Bool)(i:Nat):List (Nat×Vv):=[(0,T1),(34,fF),(35,.bool opp),(36,(.obj (.t 7))),(37,.int i)]
def cuH(q:List Vv)(o1a o3:Ob)(H:List (Id×Ob)):List (Id×Ob):=(.t 7,.list q)::hS o1a o3 H
section
variable{C:Ora}{n off i:Nat}{L:List (Nat×Vv)}{H:List (Id×Ob)}{P:LN}{ch src l:LN}{l1 l2:Int}{o1a o3:Ob}{a:Nat}{fF:Vv}{opp:Bool}{p:Nat->Bool}{q:List Vv}{vs:List Vv}
theorem ZBo:tst C Wi ⟨cuL fF opp ch.length,cuH q (I1 ch ch.length off l1 l2) o3 H,8,P⟩=some (false,⟨cuL fF opp ch.length,cuH q (I1 ch ch.length off l1 l2) o3 H,8,P⟩):=by
 refine JB.tst ?_;exact .b 2 (aM some (aM not (aS (ch.length:Int)))) (.done 3)
theorem ZBn(hP:InP fF p)(hl:ch.length<=JC)(ha:ch[i]?=some a):tst C Wi ⟨cuL fF opp i,cuH q (I1 ch ch.length off l1 l2) o3 H,8,P⟩=some (p a==opp,⟨cuL fF opp i,cuH q (I1 ch ch.length off l1 l2) o3 H,8,P⟩):=by
 have fG:=(ax.mp ha).1;have e:∀b,some (b==opp)=some (b==opp):=fun J=>rfl
 refine JB.tst ?_;exact .b 2 (aM some (aM not (xV (fun e=>qP fG (cn e):(i:Int)≠(ch.length:Int))))) (.v 3 (XG hl (X9 fG) ha) (.b 0 (hP ⟨cuL fF opp i,cuH q (I1 ch ch.length off l1 l2) o3 H,8,P⟩ a) (.b 0 (e (p a)) (.b 0 (e (p a)) (.done 1)))))
theorem DQ(hP:InP fF p)(hl:ch.length<=JC):∀(r:LN) (i fD:Nat),ch.drop i=r->i<=ch.length->r.length<fD->Jh (tst C Wi) (exs C BD) fD ⟨cuL fF opp i,cuH q (I1 ch ch.length off l1 l2) o3 H,8,P⟩=some (.next,⟨cuL fF opp (i+(r.takeWhile fun a=>p a==opp).length),cuH q (I1 ch ch.length off l1 l2) o3 H,8,P⟩):=by
 intro r;induction r with
 |nil=>
  intro i fD hr hi hf;cases fD with
  |zero=>exact absurd hf (xJ _)
  |succ n=>
   cases xN hi (List.drop_eq_nil_iff.mp hr);show bn (tst C Wi _) _=_;rw[ZBo];rfl
 |cons a r ih=>
  intro i fD hr hi hf;cases fD with
  |zero=>exact absurd hf (xJ _)
  |succ n=>
   have ha:ch[i]?=some a:=by rw[<- List.head?_drop,hr];rfl
   have fG:=(ax.mp ha).1;have h2:ch.drop (i+1)=r:=by rw[<- List.tail_drop,hr];rfl
   show bn (tst C Wi _) _=_;rw[ZBn hP hl ha,aw];cases p a==opp
   ·rfl
   ·show Jh (tst C Wi) (exs C BD) n ⟨cuL fF opp (i+1:Nat),_,8,P⟩=_
    rw[ih (i+1) n h2 fG (xH hf),a4];rfl
theorem AI{off p}:((ch.drop off).takeWhile p).length<=ch.length-off:=am▸(qM (p:=p) (l:=ch.drop off)).length_le
theorem FN{off p}:cut ch off (off+((ch.drop off).takeWhile p).length)=(ch.drop off).takeWhile p:=by
 show (ch.take _).drop off=_;rw[cT,ao];exact(dD.mp (qM p)).symm
theorem ZAU{s t i j}(hl:s.length<=JC)(hi:i<=s.length)(hj:j<=s.length)(e:cut s i j=t):slV σ0 (.str s) (.int i) (.int j)=some (.str t):=by
 show gd (Nat.ble s.length JC) (some (Vv.str (cut s (clampIx s.length i) (clampIx s.length j))))=_;rw[ble hl,W2 hi,W2 hj,e];rfl
theorem ZAS{s t:LN}{i}(hl:s.length<=JC)(hi:i<=s.length)(e:s.drop i=t):slV σ0 (.str s) (.int i) .none=some (.str t):=by
 show gd (Nat.ble s.length JC) (some (Vv.str ((s.take s.length).drop (clampIx s.length i))))=_;rw[ble hl,W2 hi,bI,e];rfl
theorem IJ{t}(hl:t.length<=JC):smV ⟨[],[(.t 7,.list [.str t])],0,[]⟩ .join [] [(.obj (.t 7))]=some (.str t):=by
 show gd (Nat.ble (t.length+0+1*0) JC) (some (Vv.str t))=_;rw[ble (by exact hl)];rfl
theorem NU{t b U U1a}(ht:t U=some (true,U))(hb:b U=some (.brk,U1a)):Jh t b J2 U=some (.next,U1a):=by
 show Jh t b (999999+1) U=_;show bn (t U) _=_;rw[ht];show bn (b U) _=_;rw[hb];rfl
theorem I9{i j:Nat}(h:i≠j):some (((i:Int))==(j:Int))=some false:=aM some (xV fun e=>h (cn e))
theorem IP{i j:Nat}(h:i≠j):some (!(((i:Int))==(j:Int)))=some true:=aM some (aM not (xV fun e=>h (cn e)))
theorem ZC7(i:Nat):some (((i:Int))==(i:Int))=some true:=aM some (aS _)
theorem ZBH(i:Nat):some (!(((i:Int))==(i:Int)))=some false:=aM some (aM not (aS _))
theorem CK(hP:InP fF p)(hl:ch.length<J2)(ho:off<=ch.length)(hlw:l=(ch.drop off).takeWhile fun a=>p a==opp)(fG:off+l.length<ch.length):
  JF tT (n+4) 13 [T1,fF,.bool opp] ⟨L,hS (I1 ch ch.length off l1 l2) o3 H,7,P⟩=some (.str l,⟨L,cuH (if l.isEmpty then [] else [.str l]) (I1 ch ch.length (off+l.length:Nat) l1 l2) o3 H,8,P⟩):=by
 have hml:ch.length<=JC:=qA (xF hl) (by decide)
 have hw:=DQ (C:=JF tT (n+3)) (H:=H) (P:=P) (off:=off) (l1:=l1) (l2:=l2) (o3:=o3) (q:=[]) (opp:=opp) hP hml (ch.drop off) off J2 rfl ho (qL (am▸xU _ _) hl);rw[<- hlw] at hw;have hcut:=ZAU hml ho (xF fG) (hlw▸FN:cut ch off (off+l.length)=l);have hll:l.length<=JC:=qA (qA (bS _ _) (xF fG)) hml;refine QF ?_;cases l with
 |nil=>
  have hb:exs (JF tT (n+3)) Nn ⟨BC fF opp,cuH [] (I1 ch ch.length off l1 l2) o3 H,8,P⟩=some (.brk,⟨cuL fF opp off,cuH [] (I1 ch ch.length off l1 l2) o3 H,8,P⟩):=by
   refine JB.exs ?_;exact .fl 2 hw (.b 2 (ZC7 off) (.b 5 (IP (qP fG)) (.done 2)))
  exact .fl 1 (NU (t:=tst (JF tT (n+3)) (.k (.bool true))) rfl hb) (.done 2)
 |cons a l=>
  have hb:exs (JF tT (n+3)) Nn ⟨BC fF opp,cuH [] (I1 ch ch.length off l1 l2) o3 H,8,P⟩=some (.brk,⟨cuL fF opp (off+(a::l).length),cuH [.str (a::l)] (I1 ch ch.length (off+(a::l).length:Nat) l1 l2) o3 H,8,P⟩):=by
   refine JB.exs ?_;exact .fl 2 hw (.b 2 (I9 (b6 (bZ (n:=off) (xD l.length)))) (.b 3 (IP (qP fG)) (.v 6 hcut (.done 7))))
  exact .fl 1 (NU (t:=tst (JF tT (n+3)) (.k (.bool true))) rfl hb) (.v 0 (IJ hll) (.done 1))
theorem CM(hP:InP fF p)(hs:src.length<=10240)(hl:ch.length<J2)(ho:off<=ch.length)(hlw:l=(ch.drop off).takeWhile fun a=>p a==opp)(fG:off+l.length=ch.length):
  JF tT (n+4) 13 [T1,fF,.bool opp] ⟨L,hS (I1 ch ch.length off l1 l2) (I3 src src.length) H,7,P⟩=some (.str l,⟨L,cuH [.str l] (I1 [] 0 0 (JY ch l1 l2).1 (JY ch l1 l2).2) (I3 src src.length) H,8,P⟩):=by
 have hml:ch.length<=JC:=qA (xF hl) (by decide)
 have hw:=DQ (C:=JF tT (n+3)) (H:=H) (P:=P) (off:=off) (l1:=l1) (l2:=l2) (o3:=I3 src src.length) (q:=[]) (opp:=opp) hP hml (ch.drop off) off J2 rfl ho (qL (am▸xU _ _) hl);rw[<- hlw,fG] at hw;have hd:ch.drop off=l:=((hlw▸qM _:l <+:ch.drop off).eq_of_length (by rw[am,<- fG,ao])).symm
 have hcut:=ZAS hml ho hd;have hll:l.length<=JC:=qA (fG▸bS _ _) hml;have hck:=Bo (x:=.o [.str l]) (n:=n+1) (L:=cuL fF opp ch.length) (H:=H) (nx:=8) (P:=P) (ch:=ch) (off:=off) (l1:=l1) (l2:=l2) hs;have hb:exs (JF tT (n+3)) Nn ⟨BC fF opp,cuH [] (I1 ch ch.length off l1 l2) (I3 src src.length) H,8,P⟩=some (.brk,⟨cuL fF opp ch.length,cuH [.str l] (I1 [] 0 0 (JY ch l1 l2).1 (JY ch l1 l2).2) (I3 src src.length) H,8,P⟩):=by
  refine JB.exs ?_;by_cases hz:ch.length=off
  ·have hz':(((ch.length:Int))==(off:Int))=true:=aV.mpr (aM _ hz)
   have hz2:(!(((off:Int))==(ch.length:Int)))=false:=aM not (aV.mpr (aM _ hz.symm));exact .fl 2 hw (.b 2 (aM some hz') (.b 5 (aM some hz2) (.v 6 hcut (.c 5 hck (.done 3)))))
  ·exact .fl 2 hw (.b 2 (I9 hz) (.b 3 (ZBH ch.length) (.v 6 hcut (.c 5 hck (.done 3)))))
 refine QF ?_;exact .fl 1 (NU (t:=tst (JF tT (n+3)) (.k (.bool true))) rfl hb) (.v 0 (IJ hll) (.done 1))
end
noncomputable def ids:List Id:=[.t 1,.t 3]
def FO:Ora:=YM ids (JF tT 5)
def CT:Ora:=YM ids (Wl tT FO)
noncomputable abbrev T0:Vv:=.obj (.t 0)
noncomputable def tbF:Option LN->List (Nat×Vv)
 |none=>[]
 |some b=>[(148,.str b)]
def fs0(st cur:Vv)(tb:Option LN):List (Nat×Vv):=(20,T1)::(39,.none)::(40,.bool false)::(41,.obj (.t 5))::(42,st)::(44,.bool false)::(45,cur)::(48,.obj (.t 6))::tbF tb
def H1(q dn:List Vv)(st cur:Vv)(tb:Option LN):List (Id×Ob):=[(.t 6,.list q),(.t 5,.list []),(.t 4,.list []),(.t 2,.list [.int 0]),(.t 0,.inst 3 (fs0 st cur tb)),(.p 99,.list dn)]
def me(f:Nat):Vv:=.meth f T0
def Stp(f:Nat)(U:St)(b:Bool)(U':St):Prop:=CT f [T0] U=some (.bool b,U')
def OL(L:List (Nat×Vv))(k:Nat)(f:FL)(U:St):Option (Vv×St):=bo (Qe f) fun v=>gd (Wu ids k v ⟨L,U.hp,U.nx,U.ps⟩) (some (v,⟨L,hpN ids k U.hp,k,U.ps⟩))
def JZ(f:Nat)(vs:List Vv)(τ:St):Rz:=boK (tT f) fun m=>ZU false FO m vs ⟨τ.loc,QV ids τ.hp,τ.nx,τ.ps⟩
theorem Z6{f vs U}:CT f vs U=bn (sem (JZ f vs U)) (OL U.loc U.nx):=by
 unfold JZ;show bn (bo (tT f) fun m=>Qf FO m vs ⟨U.loc,QV ids U.hp,U.nx,U.ps⟩) _=_
 generalize tT f=m;cases m with
 |none=>rfl
 |some m=>
  show bn (bo (m.args vs) fun as=>bn (exs FO m.body ⟨m.ps.zip as,QV ids U.hp,U.nx,U.ps⟩) fun f U1a=>bo (Qe f) fun v=>some (v,{ U1a with loc:=U.loc })) _=bn (sem (boK (m.args vs) fun as=>exsK false FO m.body ⟨m.ps.zip as,QV ids U.hp,U.nx,U.ps⟩ .done)) _
  generalize m.args vs=as;cases as with
  |none=>rfl
  |some as=>
   refine Eq.trans ?_ (aM (bn · (OL U.loc U.nx)) (NN false FO m.body ⟨m.ps.zip as,QV ids U.hp,U.nx,U.ps⟩ .done)).symm
   show bn (bn (exs FO m.body ⟨m.ps.zip as,QV ids U.hp,U.nx,U.ps⟩) _) _=_;generalize exs FO m.body ⟨m.ps.zip as,QV ids U.hp,U.nx,U.ps⟩=x;cases x with
   |none=>rfl
   |some p=>
    show bn (bo (Qe p.1) fun v=>some (v,{ p.2 with loc:=U.loc })) _=bo (Qe p.1) _
    generalize Qe p.1=q;cases q<;>rfl
structure Good(n:Nat)(H:List (Id×Ob)):Prop where
 f:(H.filter fun p=>!(ids.any (·==p.1)))=H
 c:(H.filter fun p=>UN n p.1)=H
 b:Uk n H=true
section
variable{n k:Nat}{L:List (Nat×Vv)}{H:List (Id×Ob)}{P:LN}{o1a o3 o1' o3':Ob}{v:Vv}{C:Ora}{f:Nat}{vs:List Vv}
theorem Kf(g:Good k H):QV ids (hS o1a o3 H)=hS o1a o3 H:=aM (hS o1a o3) g.f
theorem UA(g:Good k H)(hk:5<=k):hpN ids k (hS o1a o3 H)=hS o1a o3 H:=by
 obtain⟨m,rfl⟩:=Nat.exists_eq_add_of_le' hk;exact aM (hS o1a o3) ((aM (List.filter _) g.c).trans g.f)
theorem Y4(g:Good k H)(hk:5<=k)(hL:J0 k L=true)(hv:Vv.blw k v=true)(ho:Ob.blw k o1'=true/\Ob.blw k o3'=true){H'}(e:hpN ids k H'=hS o1' o3' H){n}:Wu ids k v ⟨L,H',n,P⟩=true:=by
 show (J0 k L&&(Uk k (hpN ids k H')&&Vv.blw k v))=true;rw[e,hL,hv];obtain⟨m,rfl⟩:=Nat.exists_eq_add_of_le' hk;show (((Ob.blw (m+5) o1')&&((Ob.blw (m+5) o3')&&Uk (m+5) H))&&true)=true;rw[ho.1,ho.2,g.b];rfl
theorem UO{H' P'}(g:Good k H)(g':Good k H')(hk:5<=k)(hL:J0 k L=true)(hv:Vv.blw k v=true)(ho:Ob.blw k o1'=true/\Ob.blw k o3'=true){h1a}(e:hpN ids k h1a=hS o1' o3' H')(h:C f vs ⟨L,hS o1a o3 H,k,P⟩=some (v,⟨L,h1a,n,P'⟩)):YM ids C f vs ⟨L,hS o1a o3 H,k,P⟩=some (v,⟨L,hS o1' o3' H',k,P'⟩):=
 NC (hp':=hS o1a o3 H) h (Y4 g' hk hL hv ho e) (Kf g) e
def nG(f:FL)(U:St):Option (Vv×List (Id×Ob)×LN):=bo (Qe f) fun v=>some (v,hpN ids 7 U.hp,U.ps)
theorem JB.toN{r P'}(g:Good 7 H)(ho:Ob.blw 7 o1a=true/\Ob.blw 7 o3=true)(hv:Vv.blw 7 v=true)(h:JB r nG (v,hS o1a o3 H,P')):JB r (OL [(0,T0)] 7) (v,⟨[(0,T0)],hS o1a o3 H,7,P'⟩):=by
 unfold JB at h ⊢;generalize sem r=x at h;cases x with
 |none=>exact nn h
 |some p=>
  obtain⟨f,L,hp,nx,P⟩:=p;show bo (Qe f) (fun v=>gd (Wu ids 7 v ⟨[(0,T0)],hp,nx,P⟩) (some (v,(⟨[(0,T0)],hpN ids 7 hp,7,P⟩:St))))=_
  have h:bo (Qe f) (fun v=>some (v,hpN ids 7 hp,P))=some (v,hS o1a o3 H,P'):=h
  generalize Qe f=w at h;cases w with
  |none=>exact nn h
  |some w=>
   have h:some (w,hpN ids 7 hp,P)=some (v,hS o1a o3 H,P'):=h
   injection h with h
   injection h with h1 h2
   injection h2 with h2 h3
   subst h1 h3;show gd (Wu ids 7 w ⟨[(0,T0)],hp,nx,P⟩) (some (w,(⟨[(0,T0)],hpN ids 7 hp,7,P⟩:St)))=_;rw[Y4 g (by decide) rfl hv ho h2,h2];rfl
end
structure Sx where
 ch:LN
 sz:Int
 off:Int
 l1:Int
 l2:Int
 src:LN
 pl:Int
def hs(s:Sx)(H:List (Id×Ob)):List (Id×Ob):=hS (I1 s.ch s.sz s.off s.l1 s.l2) (I3 s.src s.pl) H
def Cl4(f:Nat)(vs:List Vv)(v:Vv)(s s':Sx):Prop:=∀⦃L:List (Nat×Vv)⦄ ⦃H:List (Id×Ob)⦄ ⦃P:LN⦄,Good 7 H->J0 7 L=true->FO f (T1::vs) ⟨L,hs s H,7,P⟩=some (v,⟨L,hs s' H,7,P⟩)
abbrev Rd(v:Vv)(s s':Sx):Prop:=Cl4 10 [] v s s'
abbrev Un(v:Vv)(s s':Sx):Prop:=Cl4 17 [v] .none s s'
noncomputable def st(ch src:LN)(off:Nat)(l1 l2:Int):Sx:=⟨ch,ch.length,off,l1,l2,src,src.length⟩
structure At(src r:LN)(s:Sx):Prop where
 mk':∃ch off l1 l2,s=st ch src off l1 l2/\ch.drop off=r/\off<=ch.length/\ch.length<=1000/\src.length<=1000/\JY ch l1 l2=(0,(src.length:Int))
theorem At.el{src r s}{Q:Prop}(A:At src r s)(k:∀ch off l1 l2,s=st ch src off l1 l2->ch.drop off=r->off<=ch.length->ch.length<=1000->src.length<=1000->JY ch l1 l2=(0,(src.length:Int))->Q):Q:=by
 obtain⟨ch,off,l1,l2,a,b,c,d,e,f⟩:=A.mk';exact k ch off l1 l2 a b c d e f
def Go(src:LN):LN->Sx->Prop
 |[],s=>∃s',Rd .none s s'/\Un .none s' s'/\At src [] s'
 |a::r,s=>∃s' em,Rd (.str [a]) s s'/\Un (.str [a]) s' em/\At src r s'/\At src (a::r) em
theorem QH{ch r:LN}{off a}(h:ch.drop off=a::r):ch[off]?=some a/\ch.drop (off+1)=r/\off+1<=ch.length:=by
 have fG:off<ch.length:=eO fun q=>by
  rw[List.drop_eq_nil_of_le q] at h;cases h
 rw[bh fG] at h;obtain⟨h1,h2⟩:=qS h;exact⟨by rw[ah fG,h1],h2,fG⟩
theorem W1{ch:LN}{off}(h:ch.drop off=[])(ho:off<=ch.length):off=ch.length:=xN ho (List.drop_eq_nil_iff.mp h)
section
variable{src r:LN}{s:Sx}{a:Nat}
theorem m4{n}(h:n<=1000):n<=JC/\n<=10240/\n<J2:=⟨qA h (by decide),qA h (by decide),qL h (by decide)⟩
theorem Fg:Un .none s s:=fun J J J g hL=>UO g g (by decide) hL rfl ⟨rfl,rfl⟩ (UA g (by decide)) (Ka (n:=4))
theorem posF_nil{l1 l2}:JY [] l1 l2=(l1,l2):=Prod.ext (Int.add_zero l1) (Int.add_zero l2)
theorem At.go(A:At src r s):Go src r s:=A.el fun ch off l1 l2 h1 h2 h3 h4 h5 h6=>by
 subst h1;cases r with
 |nil=>
  cases W1 h2 h3;exact⟨st [] src 0 (JY ch l1 l2).1 (JY ch l1 l2).2,(fun L H P g hL=>UO g g (by decide) hL rfl ⟨rfl,rfl⟩ (UA g (by decide)) (DS (n:=2) (x:=.n) (m4 h5).2.1)),Fg,
   ⟨[],0,_,_,rfl,rfl,qF _,qG _,h5,posF_nil.trans h6⟩⟩
 |cons a r=>
  obtain⟨ha,hd,hl⟩:=QH h2;exact⟨st ch src (off+1) l1 l2,st ch src off l1 l2,(fun L H P g hL=>UO g g (by decide) hL rfl ⟨rfl,rfl⟩ (UA g (by decide)) (Br (x:=.n) (n:=4) ha (m4 h4).1)),
   (fun L H P g hL=>UO g g (by decide) hL rfl ⟨rfl,rfl⟩ (UA g (by decide)) (Kb (x:=.n) (n:=4) ha (m4 h4).1)),⟨ch,off+1,l1,l2,rfl,hd,hl,h4,h5,h6⟩,⟨ch,off,l1,l2,rfl,h2,h3,h4,h5,h6⟩⟩
theorem SW(hn:src.length<=1000)(fL:∀b∈src,b∈al)(hp:JY src 0 0=(0,(src.length:Int))):Go src src ⟨[],0,0,0,0,src,0⟩:=by
 cases src with
 |nil=>exact At.go ⟨[],0,0,0,rfl,rfl,qF _,qG _,hn,hp⟩
 |cons a r=>
  have h:∀L H P,JF tT 5 10 [T1] ⟨L,hS (I1 [] 0 0 0 0) (I3 (a::r) 0) H,7,P⟩=some (.str [a],⟨L,hs (st (a::r) (a::r) 1 0 0) H,7,P⟩):=fun L H P=>by
   have h:=CE (n:=1) (L:=L) (H:=H) (P:=P) (nx:=7) (l1:=0) (l2:=0) (m4 hn).2.1 fL;rw[(posF_nil:JY [] 0 0=((0:Int),(0:Int)))] at h;exact h
  refine⟨st (a::r) (a::r) 1 0 0,st (a::r) (a::r) 0 0 0,(fun L H P g hL=>UO g g (by decide) hL rfl ⟨rfl,rfl⟩ (UA g (by decide)) (h L H P)),
   (fun L H P g hL=>UO g g (by decide) hL rfl ⟨rfl,rfl⟩ (UA g (by decide)) (Kb (x:=.n) (n:=4) (ch:=a::r) (off:=0) rfl (m4 hn).1)),⟨a::r,1,0,0,rfl,rfl,qJ (qG _),hn,hn,hp⟩,⟨a::r,0,0,0,rfl,rfl,qG _,hn,hn,hp⟩⟩
theorem At.until{p fF opp vs}(A:At src r s)(hP:InP fF p)(hv:Ym.args (T1::vs)=some [T1,fF,.bool opp]):
  ∃s',Cl4 13 vs (.str (r.takeWhile fun a=>p a==opp)) s s'/\At src (r.drop (r.takeWhile fun a=>p a==opp).length) s':=A.el fun ch off l1 l2 h1 h2 h3 h4 h5 h6=>by
 subst h1;have key:∀{L H P C v τ},C 13 [T1,fF,.bool opp] ⟨L,H,7,P⟩=some (v,τ)->C=JF tT 5->JF tT 5 13 (T1::vs) ⟨L,H,7,P⟩=some (v,τ):=fun h e=>by
  subst e;show bo (Ym.args (T1::vs)) _=_;rw[hv];exact h
 have hl:r.takeWhile (fun a=>p a==opp)=(ch.drop off).takeWhile fun a=>p a==opp:=by rw[h2]
 have hle:off+(r.takeWhile fun a=>p a==opp).length<=ch.length:=by
  rw[hl];exact qA (qI AI off) (qU (bw h3))
 generalize r.takeWhile (fun a=>p a==opp)=l at hl hle
 have cuN:∀{q:List Vv} {o1a o3:Ob} {H:List (Id×Ob)},Good 7 H->hpN ids 7 (cuH q o1a o3 H)=hS o1a o3 H:=fun g=>UA g (by decide)
 by_cases he:off+l.length=ch.length
 ·have hr:r.drop l.length=[]:=by rw[<- h2,a7,he,ci]
  rw[hr];exact⟨st [] src 0 (JY ch l1 l2).1 (JY ch l1 l2).2,(fun L H P g hL=>UO g g (by decide) hL rfl ⟨rfl,rfl⟩ (cuN g) (key (CM (n:=1) hP (m4 h5).2.1 (m4 h4).2.2 h3 hl he) rfl)),
   ⟨[],0,_,_,rfl,rfl,qF _,qG _,h5,posF_nil.trans h6⟩⟩
 ·exact⟨st ch src (off+l.length) l1 l2,(fun L H P g hL=>UO g g (by decide) hL rfl ⟨rfl,rfl⟩ (cuN g) (key (CK (n:=1) hP (m4 h4).2.2 h3 hl (Nat.lt_of_le_of_ne hle he)) rfl)),
   ⟨ch,off+l.length,l1,l2,rfl,by rw[<- h2,a7],hle,h4,h5,h6⟩⟩
end
theorem OP{α:Type}(p:α->Prop){c:Prop}[Decidable c]{x y}(h1:c->p x)(h2:¬c->p y):p (if c then x else y):=by
 by_cases h:c
 ·rw[aR h];exact h1 h
 ·rw[aN h];exact h2 h
theorem Ui{a b k}(h:a.length+b.length<=k)(hk:k<=JC):Jk σ0 .add (.str a) (.str b)=some (.str (a++b)):=by
 show gd (Nat.ble (a.length+b.length) JC) _=_;rw[ble (qA h hk)];rfl
noncomputable def Ow:ME:=(.ite (.cmp2 .le .le (.k (.str [65])) (.loc 33) (.k (.str [90]))) (.bi .chr [(.bop .add (.bi .ord [(.loc 33)]) (.k (.int 32)))]) (.loc 33))
theorem UX:∀l:List LN,QN [] l=l.flatten
 |[]=>rfl
 |[x]=>(aQ x).symm
 |x::y::r=>(aM (·++QN [] (y::r)) (aQ x)).trans (aM (x++·) (UX (y::r)))
theorem An:∀l:List LN,W6 (l.map Vv.str)=some l:=fun l0=>by
 induction l0 with
 |nil=>
  exact rfl
 |cons x l ih=>
  show bo (W6 (l.map Vv.str)) _=_;rw[ih];rfl
theorem NJ{l}(h:(QN [] l).length<=JC):smV σ0 .join [] [.list (l.map .str)]=some (.str (QN [] l)):=by
 show bo (W6 (l.map .str)) (fun ys=>gd (Nat.ble ((ys.map (·.length)).sum+ys.length*0) JC) (some (Vv.str (QN [] ys))))=_
 rw[An];show gd (Nat.ble ((l.map (·.length)).sum+l.length*0) JC) _=_
 rw[UX,List.length_flatten] at h;rw[ble (by exact h)];rfl
section
variable{C:Ora}{L:List (Nat×Vv)}{n nx:Nat}{H:List (Id×Ob)}{P:LN}{a:Nat}{d:LN}
theorem Nl{p:Prop}[Decidable p](h:p):some (decide p)=some true:=aM some (aU h)
theorem D8{p:Prop}[Decidable p](h:¬p):some (decide p)=some false:=aM some (an h)
theorem Gf{i t}(e:i.toNat=t)(h1:decide (0<=i)=true)(h2:decide (i<1114112)=true):biV σ0 .chr [.int i]=some (.str [t]):=by
 show gd (decide (0<=i)&&decide (i<1114112)) (some (Vv.str [i.toNat]))=_;rw[h1,h2,e];rfl
theorem ZA8:ev C Ow ⟨(33,.str [a])::L,H,nx,P⟩=some (.str [lowC a],⟨(33,.str [a])::L,H,nx,P⟩):=by
 refine JB.ev ?_;by_cases h1:65<=a
 ·by_cases h2:a<=90
  ·have e:lowC a=a+32:=aR ⟨h1,h2⟩
   have g:=Gf (i:=(a:Int)+32) (t:=a+32) rfl (aU (aj (a+32))) (aU (a8.mpr (qL (qO h2 32) (by decide))))
   rw[e];exact .b 0 (Nl h1) (.b 0 (Nl h2) (.v 3 g (.done 1)))
  ·have e:lowC a=a:=aN fun q=>h2 q.2
   rw[e];exact .b 0 (Nl h1) (.b 0 (D8 h2) (.done 2))
 ·have e:lowC a=a:=aN fun q=>h1 q.1
  rw[e];exact .b 0 (D8 h1) (.done 2)
theorem Ln:∀d:LN,Jt (Jj (ev C Ow) (ev C (.k (.bool true))) 33 L) (d.map fun c=>.str [c]) ⟨L,H,nx,P⟩=some ((d.map fun a=>[lowC a]).map .str,⟨L,H,nx,P⟩):=fun l0=>by
 induction l0 with
 |nil=>
  exact rfl
 |cons a d ih=>
  show bn (bn (ev C Ow ⟨(33,.str [a])::L,H,nx,P⟩) _) _=_;rw[ZA8];show bn (Jt _ (d.map fun c=>.str [c]) ⟨L,H,nx,P⟩) _=_
  rw[ih];rfl
theorem DI:∀d:LN,(d.map fun a=>[lowC a]).flatten=d.map lowC:=fun l0=>by
 induction l0 with
 |nil=>
  exact rfl
 |cons a d ih=>
  exact aM (lowC a::·) (ih)
theorem Nd(hd:d.length<=JC):JF tT (n+1) 34 [.str d] ⟨L,H,nx,P⟩=some (.str (d.map lowC),⟨L,H,nx,P⟩):=by
 have hl:(QN [] (d.map fun a=>[lowC a])).length<=JC:=by rw[UX,DI,aP];exact hd
 have hj:=NJ hl;rw[UX,DI] at hj;have g1:Nat.ble (d.map fun c=>Vv.str [c]).length JC=true:=ble (by rw[aP];exact hd)
 have hc:=Ln (C:=JF tT n) (L:=[(1,.str d)]) (H:=H) (nx:=nx) (P:=P) d;refine QF ?_;exact .g 1 g1 (.l 0 hc (.v 0 hj (.done 1)))
end
def kTD:List LN:=[wC,wB]
def JL(n:LN):Vv:=.dict kTD [.int 7,.str n]
def JN(n:LN):Vv:=.dict kTD [.int 1,.str n]
def WH(n:LN):Vv:=.dict kTD [.int 2,.str n]
def S1(q dn:List Vv)(s:Sx)(f:Nat)(cv:Vv)(tb:Option LN):St:=⟨[(0,T0)],hs s (H1 q dn (me f) cv tb),7,[99]⟩
theorem TS{q dn st cv tb}(hst:Vv.blw 7 st=true)(hq:Vv.blws 7 q=true)(fJ:Vv.blw 7 cv=true)(e9:Vv.blws 7 dn=true):Uk 7 (H1 q dn st cv tb)=true:=by
 have h:(Vv.blws 7 q&&((Vv.blw 7 st&&(Vv.blw 7 cv&&J0 7 (tbF tb)))&&(Vv.blws 7 dn&&true)))=true:=by
  rw[hst,hq,fJ,e9];cases tb<;>rfl
 exact h
theorem JP{q dn f cv tb}(e9:Vv.blws 7 dn=true)(fJ:Vv.blw 7 cv=true)(hq:Vv.blws 7 q=true:=by kernel_rfl):Good 7 (H1 q dn (me f) cv tb):=⟨by kernel_rfl,by kernel_rfl,TS rfl hq fJ e9⟩
theorem neq{a b:Nat}(h:a≠b):some ([a]==[b])=some false:=aM some (xV fun e=>h (qS e).1)
section
variable{f:Nat}{b:Bool}{v:Vv}{s s' em:Sx}{H H':List (Id×Ob)}{P P':LN}{q dn:List Vv}{cv:Vv}{tb:Option LN}{a:Nat}{l:LN}
theorem stp(g:Good 7 H)(g':Good 7 H')(hr:Rd v s s')(k:JB ((fw 4 (JZ f [T0] ⟨[(0,T0)],hs s H,7,P⟩)).oc v ⟨[(0,T0)],hs s' H,7,P⟩) nG (.bool b,hs em H',P'))
  (e:(fw 4 (JZ f [T0] ⟨[(0,T0)],hs s H,7,P⟩)).gc=FO 10 [T1] ⟨[(0,T0)],hs s H,7,P⟩:=by kernel_rfl):Stp f ⟨[(0,T0)],hs s H,7,P⟩ b ⟨[(0,T0)],hs em H',7,P'⟩:=
 Z6.trans (JB.toN g' ⟨rfl,rfl⟩ rfl (.c 4 (hr g rfl) k e))
noncomputable def Ju:LN:=[69,73,76,84,97,101,105,108,109,110,111,112,116,120]
noncomputable def nlt:LN:=[0,32,35,38,47,54,59,60,62]
theorem ZDC{as:LN}{H':Nat->List (Id×Ob)}(m:Nat)(ha:a∈as)(g:Good 7 H)(g':Good 7 (H' a))(hr:Rd (.str [a]) s s')
  (e2:∀a∈as,(fw m ((fw 4 (JZ f [T0] ⟨[(0,T0)],hs s H,7,P⟩)).oc (.str [a]) ⟨[(0,T0)],hs s' H,7,P⟩)).out nG=some (.bool true,hs s' (H' a),P'))
  (e:(fw 4 (JZ f [T0] ⟨[(0,T0)],hs s H,7,P⟩)).gc=FO 10 [T1] ⟨[(0,T0)],hs s H,7,P⟩:=by kernel_rfl):Stp f ⟨[(0,T0)],hs s H,7,P⟩ true ⟨[(0,T0)],hs s' (H' a),7,P'⟩:=
 stp g g' hr (.done m (e2 a ha)) e
theorem YU{vs:List Vv}{H1a:List (Id×Ob)}(n m:Nat)(hv:v∈vs)(g:Good 7 H)(g1:Good 7 H1a)(g':Good 7 H')(hr:Rd v s s')(hu:Un v s' em)
  (e1:∀v∈vs,(fw n ((fw 4 (JZ f [T0] ⟨[(0,T0)],hs s H,7,P⟩)).oc v ⟨[(0,T0)],hs s' H,7,P⟩)).gc=FO 17 [T1,v] ⟨[(0,T0),(30,v)],hs s' H1a,7,P⟩)
  (e2:∀v∈vs,(fw m ((fw n ((fw 4 (JZ f [T0] ⟨[(0,T0)],hs s H,7,P⟩)).oc v ⟨[(0,T0)],hs s' H,7,P⟩)).oc .none ⟨[(0,T0),(30,v)],hs em H1a,7,P⟩)).out nG=some (.bool true,hs em H',P'))
  (e3:∀v∈vs,J0 7 [(0,T0),(30,v)]=true:=by exact JD (by kernel_rfl))
  (e:(fw 4 (JZ f [T0] ⟨[(0,T0)],hs s H,7,P⟩)).gc=FO 10 [T1] ⟨[(0,T0)],hs s H,7,P⟩:=by kernel_rfl):Stp f ⟨[(0,T0)],hs s H,7,P⟩ true ⟨[(0,T0)],hs em H',7,P'⟩:=
 stp g g' hr (.c n (hu g1 (e3 v hv)) (.done m (e2 v hv)) (e1 v hv)) e
noncomputable def pls:LN:=[35,47,54,59,62,69,73,76,84,97,101,105,108,109,110,111,112,116,120]
noncomputable def sg(l:LN):List Vv:=.none::l.map fun a=>.str [a]
section
variable(e9:Vv.blws 7 dn=true)(fJ:Vv.blw 7 cv=true)
include e9 fJ
theorem RP(hr:Rd (.str [60]) s s'):Stp 60 (S1 [] dn s 60 cv tb) true (S1 [] dn s' 58 cv tb):=by
 refine stp (JP e9 fJ) (JP e9 fJ) hr ?_;cases tb<;>exact .done 60
theorem LM(hr:Rd (.str [0]) s s'):Stp 60 (S1 [] dn s 60 cv tb) true (S1 [JL Qq,JN [65533]] dn s' 60 cv tb):=by
 refine stp (JP e9 fJ) (JP e9 fJ) hr ?_;exact .done 60
theorem Dt(hr:Rd .none s s'):Stp 60 (S1 [] dn s 60 cv tb) false (S1 [] dn s' 60 cv tb):=by
 refine stp (JP e9 fJ) (JP e9 fJ) hr ?_;exact .done 60
theorem LQ(hr:Rd (.str [38]) s s'):Stp 60 (S1 [] dn s 60 cv tb) true (S1 [] dn s' 94 cv tb):=by
 refine stp (JP e9 fJ) (JP e9 fJ) hr ?_;cases tb<;>exact .done 60
theorem LO(ha:a∈pls)(hr:Rd (.str [a]) s s')(hu:Cl4 13 [.tup [.str [38],.str [60],.str [0]]] (.str l) s' em)(hc:1+l.length<=JC):Stp 60 (S1 [] dn s 60 cv tb) true (S1 [JN (a::l)] dn em 60 cv tb):=
 have e1:∀a∈pls,(fw 14 ((fw 4 (JZ 60 [T0] ⟨[(0,T0)],hs s (H1 [] dn (me 60) cv tb),7,[99]⟩)).oc (.str [a]) ⟨[(0,T0)],hs s' (H1 [] dn (me 60) cv tb),7,[99]⟩)).gc=FO 13 [T1,.tup [.str [38],.str [60],.str [0]]] ⟨[(0,T0),(30,.str [a])],hs s' (H1 [] dn (me 60) cv tb),7,[99]⟩:=JD (by kernel_rfl)
 have e2:∀a∈pls,(fw 4 ((fw 14 ((fw 4 (JZ 60 [T0] ⟨[(0,T0)],hs s (H1 [] dn (me 60) cv tb),7,[99]⟩)).oc (.str [a]) ⟨[(0,T0)],hs s' (H1 [] dn (me 60) cv tb),7,[99]⟩)).oc (.str l) ⟨[(0,T0),(30,.str [a])],hs em (H1 [] dn (me 60) cv tb),7,[99]⟩)).gv=Jk σ0 .add (.str [a]) (.str l):=JD (by kernel_rfl)
 have e3:∀a∈pls,(fw 6 ((fw 4 ((fw 14 ((fw 4 (JZ 60 [T0] ⟨[(0,T0)],hs s (H1 [] dn (me 60) cv tb),7,[99]⟩)).oc (.str [a]) ⟨[(0,T0)],hs s' (H1 [] dn (me 60) cv tb),7,[99]⟩)).oc (.str l) ⟨[(0,T0),(30,.str [a])],hs em (H1 [] dn (me 60) cv tb),7,[99]⟩)).ov (.str ([a]++l)))).out nG=some (.bool true,hs em (H1 [JN (a::l)] dn (me 60) cv tb),[99]):=JD (by kernel_rfl)
 have eL:∀a∈pls,J0 7 [(0,T0),(30,.str [a])]=true:=JD (by kernel_rfl)
 stp (JP e9 fJ) (JP e9 fJ) hr (.c (X:=FO 13 [T1,.tup [.str [38],.str [60],.str [0]]] ⟨[(0,T0),(30,.str [a])],hs s' (H1 [] dn (me 60) cv tb),7,[99]⟩) 14 (hu (JP e9 fJ) (eL a ha)) (.v (X:=Jk σ0 .add (.str [a]) (.str l)) 4 (Ui (a:=[a]) (b:=l) hc (qF _)) (.done 6 (e3 a ha)) (e2 a ha)) (e1 a ha))
theorem RO(hr:Rd (.str [32]) s s')(hu:Cl4 13 [J7,.bool true] (.str l) s' em)(hc:1+l.length<=JC):Stp 60 (S1 [] dn s 60 cv tb) true (S1 [WH (32::l)] dn em 60 cv tb):=by
 refine stp (JP e9 fJ) (JP e9 fJ) hr ?_;exact .c 18 (hu (L:=[(0,T0),(30,.str [32])]) (P:=[99]) (JP (f:=60) (q:=[]) (tb:=tb) e9 fJ) rfl) (.v 0 (Ui (a:=[32]) (b:=l) hc (qF _)) (.done 6))
theorem ZA6(hr:Rd (.str [47]) s s'):Stp 58 (S1 [] dn s 58 cv tb) true (S1 [] dn s' 59 cv (some [])):=by
 refine stp (JP e9 fJ) (JP e9 fJ) hr ?_;cases tb<;>exact .done 60
theorem GD(hv:v∈sg vA)(hr:Rd v s s')(hu:Un v s' em):Stp 58 (S1 [] dn s 58 cv tb) true (S1 [JN [60]] dn em 60 cv tb):=by
 cases tb with
 |none=>exact YU (H1a:=H1 [JN [60]] dn (me 58) cv none) 15 7 hv (JP e9 fJ) (JP e9 fJ) (JP e9 fJ) hr hu (JD (by kernel_rfl)) (JD (by kernel_rfl))
 |some b=>exact YU (H1a:=H1 [JN [60]] dn (me 58) cv (some b)) 15 7 hv (JP e9 fJ) (JP e9 fJ) (JP e9 fJ) hr hu (JD (by kernel_rfl)) (JD (by kernel_rfl))
theorem Rc(ha:a∈Ju)(hr:Rd (.str [a]) s s'):Stp 59 (S1 [] dn s 59 cv (some [])) true (S1 [] dn s' 61 cv (some [a])):=
 ZDC (H':=fun a=>H1 [] dn (me 61) cv (some [a])) 60 ha (JP e9 fJ) (JP e9 fJ) hr (JD (by kernel_rfl))
theorem Dv(hv:v∈sg nlt)(hr:Rd v s s')(hu:Un v s' em):Stp 59 (S1 [] dn s 59 cv (some [])) true (S1 [JN [60,47]] dn em 60 cv (some [])):=
 YU (H1a:=H1 [JN [60,47]] dn (me 59) cv (some [])) 15 7 hv (JP e9 fJ) (JP e9 fJ) (JP e9 fJ) hr hu (JD (by kernel_rfl)) (JD (by kernel_rfl))
theorem Vc(hr:Rd (.str [38]) s s'):Stp 9 (S1 [] dn s 9 cv tb) true (S1 [] dn s' 11 cv tb):=by
 refine stp (JP e9 fJ) (JP e9 fJ) hr ?_;cases tb<;>exact .done 60
theorem Va(hr:Rd (.str [0]) s s'):Stp 9 (S1 [] dn s 9 cv tb) true (S1 [JL Qq,JN [0]] dn s' 9 cv tb):=by
 refine stp (JP e9 fJ) (JP e9 fJ) hr ?_;exact .done 60
theorem Vb(hr:Rd .none s s'):Stp 9 (S1 [] dn s 9 cv tb) false (S1 [] dn s' 9 cv tb):=by
 refine stp (JP e9 fJ) (JP e9 fJ) hr ?_;exact .done 60
theorem ZBm(hr:Rd (.str [32]) s s')(hu:Cl4 13 [J7,.bool true] (.str []) s' em):Stp 9 (S1 [] dn s 9 cv tb) true (S1 [WH [32]] dn em 9 cv tb):=by
 refine stp (JP e9 fJ) (JP e9 fJ) hr ?_;exact .c 18 (hu (L:=[(0,T0),(30,.str [32])]) (P:=[99]) (JP (f:=9) (q:=[]) (tb:=tb) e9 fJ) rfl) (.done 7)
theorem ZDJ(hr:Rd (.str [120]) s s')(hu:Cl4 13 [.tup [.str [38],.str [60],.str [0]]] (.str []) s' em):Stp 9 (S1 [] dn s 9 cv tb) true (S1 [JN [120]] dn em 9 cv tb):=by
 refine stp (JP e9 fJ) (JP e9 fJ) hr ?_;exact .c 14 (hu (L:=[(0,T0),(30,.str [120])]) (P:=[99]) (JP (f:=9) (q:=[]) (tb:=tb) e9 fJ) rfl) (.done 11)
end
end
def kSt:List LN:=[wC,wZ,wB]
def Yd:List LN:=[wC,wZ,wB,wJ]
def cvS(n:LN):Vv:=.dict kSt [.int 3,.str n,.list []]
structure TG where
 n:LN
 ws:List LN
 sc:Bool
 b:LN
noncomputable def att(w:LN):Vv:=.list [.str w,.str []]
noncomputable abbrev O0:Vv:=.obj (.p 0)
noncomputable abbrev O1:Vv:=.obj (.p 1)
noncomputable abbrev O2:Vv:=.obj (.p 2)
def HA(q dn A:List Vv)(f:Nat)(d:TG):List (Id×Ob):=(.p 0,.dict Yd [.int 4,.str d.n,O2,.bool d.sc])::(.p 2,.list A)::H1 q dn (me f) O0 (some d.b)
def HT(q dn:List Vv)(f:Nat)(d:TG):List (Id×Ob):=HA q dn (d.ws.map att) f d
def HN(q dn:List Vv)(f:Nat)(d:TG)(w:LN):List (Id×Ob):=(.p 1,.list [.str w,.str []])::HA q dn (d.ws.map att++[O1]) f d
def S2(q dn:List Vv)(s:Sx)(f:Nat)(d:TG):St:=⟨[(0,T0)],hs s (HT q dn f d),7,[0,2,99]⟩
def S3(q dn:List Vv)(s:Sx)(f:Nat)(d:TG)(w:LN):St:=⟨[(0,T0)],hs s (HN q dn f d w),7,wS⟩
def R61(ap:Vv)(s:Sx)(dn:List Vv)(cv:Vv)(b:LN):Rz:=exsK false FO BG.body.tail ⟨[(0,T0),(152,ap)],hs s (H1 [] dn (me 61) cv (some b)),7,[99]⟩ .done
section
variable{f:Nat}{b:Bool}{v:Vv}{s s' em:Sx}{q dn A:List Vv}{cv ap:Vv}{a:Nat}{l n w bf:LN}{d:TG}{ws:List LN}{L:List (Nat×Vv)}{P:LN}{H:List (Id×Ob)}
theorem Wz{n l l'}:Vv.blws n (l++l')=(Vv.blws n l&&Vv.blws n l'):=by
 induction l with
 |nil=>rfl
 |cons v l ih=>exact(aM (Vv.blw n v&&·) ih).trans (Bool.and_assoc ..).symm
theorem Xq:∀{ws:List LN} {l:List Vv},Vv.blws 7 l=true->Vv.blws 7 (ws.map att++l)=true:=by
 intro l0;induction l0 with
 |nil=>
  intro _ h;exact h
 |cons _ ws ih=>
  intro _ h;exact ih h
theorem YT(e9:Vv.blws 7 dn=true)(hA:Vv.blws 7 A=true)(hq:Vv.blws 7 q=true:=by kernel_rfl):Good 7 (HA q dn A f d):=⟨by kernel_rfl,by kernel_rfl,by
 show (Vv.blws 7 A&&Uk 7 (H1 q dn (me f) O0 (some d.b)))=true;rw[hA,TS rfl hq rfl e9];rfl⟩
theorem Jw(e9:Vv.blws 7 dn=true)(hq:Vv.blws 7 q=true:=by kernel_rfl):Good 7 (HT q dn f d):=YT e9 (by have h:=Xq (ws:=d.ws) (l:=[]) rfl;rw[aQ] at h;exact h) hq
theorem QU(e9:Vv.blws 7 dn=true)(hq:Vv.blws 7 q=true:=by kernel_rfl):Good 7 (HN q dn f d w):=
 have g:Good 7 (HA q dn (d.ws.map att++[O1]) f d):=YT e9 (Xq rfl) hq
 ⟨aM (List.cons _) g.f,aM (List.cons _) g.c,g.b⟩
theorem IC(hA:n.all (Nat.blt · 128)=true)(hl:n.length<=1000):smV σ0 .lower n []=some (.str (n.map lowC)):=by
 show gd (n.all (Nat.blt · 128)&&Nat.ble n.length 5592405) _=_
 rw[hA,ble (qA hl (by decide))];rfl
theorem EQ{z}(hn:n.all (Nat.blt · 128)=true)(hnl:n.length<=1000)(hb:bf.all (Nat.blt · 128)=true)(hbl:bf.length<=1000){x}(hx:(n.map lowC==bf.map lowC)=x)(h:JB (R61 (.bool x) s dn (cvS n) bf) nG z):JB (JZ 61 [T0] (S1 [] dn s 61 (cvS n) (some bf))) nG z:=by
 refine .v 6 (IC hn hnl) (.v 2 (IC hb hbl) (.b 0 (aM some hx) ?_));exact Eq.subst (motive:=fun r=>JB r nG z) (by kernel_rfl:R61 (.bool x) s dn (cvS n) bf=_) h
noncomputable def em1(c:Bool)(x:Vv)(q:List Vv):List Vv:=match c with
 |true=>q++[x]
 |false=>q
theorem Ze{c x}:(em1 c x q).length<=q.length+1:=by
 cases c
 ·exact xC _
 ·exact qU aO
def Qg:LN:=wX
def Zx:LN:=wR
def emQ(de sc:Bool)(q:List Vv):List Vv:=em1 sc (JL Zx) (em1 de (JL Qg) q)
def TG.low(d:TG):TG:=⟨d.n.map lowC,d.ws,d.sc,d.b⟩
theorem VQ{de}(hd:bd A.length (some (!A.isEmpty))=some de)(hq:q.length<=100)(hn:d.n.length<=JC):JF tT 5 64 [T0] ⟨L,hs s (HA q dn A f d),7,P⟩=some (.none,⟨L,hs s (HA (emQ de d.sc q++[O0]) dn A 9 d.low),7,P⟩):=by
 obtain⟨n,ws,sc,bf⟩:=d;have g0:Nat.ble q.length JC=true:=ble (qA hq (by decide))
 have g1:Nat.ble (em1 de (JL Qg) q).length JC=true:=ble (qA (qA Ze (qJ hq)) (by decide))
 have g2:Nat.ble (emQ de sc q).length JC=true:=ble (qA (qA Ze (qJ (qA Ze (qJ hq)))) (by decide))
 refine QF ?_;refine .c 6 (Nd (n:=3) (d:=n) (L:=[(0,T0),(83,O0)]) (nx:=7) (H:=hs s (HA q dn A f ⟨n,ws,sc,bf⟩)) (P:=P) hn) (.b 11 hd (?_));cases de<;>cases sc
 ·exact .g 6 g2 (.done 7)
 ·exact .g 9 g1 (.g 5 g2 (.done 7))
 ·exact .g 7 g0 (.g 7 g2 (.done 7))
 ·exact .g 7 g0 (.g 10 g1 (.g 5 g2 (.done 7)))
theorem M7{o}(hd:bd A.length (some (!A.isEmpty))=some true)(hq:q.length<=100)(hn:n.length<=JC):JF tT 5 64 [T0] ⟨L,hs s ((.p 1,o)::HA q dn A f ⟨n,ws,false,bf⟩),7,P⟩=some (.none,⟨L,hs s ((.p 1,o)::HA (q++[JL Qg]++[O0]) dn A 9 ⟨n.map lowC,ws,false,bf⟩),7,P⟩):=by
 have g0:Nat.ble q.length JC=true:=ble (qA hq (by decide))
 have g1:Nat.ble (q++[JL Qg]).length JC=true:=ble (qA (qA (qU aO) (qJ hq)) (by decide))
 refine QF ?_;exact .c 6 (Nd (n:=3) (d:=n) (L:=[(0,T0),(83,O0)]) (nx:=7) (H:=hs s ((.p 1,o)::HA q dn A f ⟨n,ws,false,bf⟩)) (P:=P) hn) (.b 11 hd (.g 7 g0 (.g 7 g1 (.done 7))))
theorem Wn{c x}(h:Vv.blws 7 q=true)(hx:Vv.blws 7 [x]=true):Vv.blws 7 (em1 c x q)=true:=by
 cases c
 ·exact h
 ·show Vv.blws 7 (q++[x])=true
  rw[Wz,h,hx];rfl
theorem OX{de sc}(h:Vv.blws 7 q=true):Vv.blws 7 (emQ de sc q++[O0])=true:=by
 rw[Wz,emQ,Wn (Wn h rfl) rfl];rfl
theorem OW{de X}(e:QV ids X=hs s (HA q dn A f d))(hd:bd A.length (some (!A.isEmpty))=some de)(hq:q.length<=100)(hn:d.n.length<=JC)(e9:Vv.blws 7 dn=true)(hA:Vv.blws 7 A=true)(hqb:Vv.blws 7 q=true)(hL:J0 7 L=true):
  FO 64 [T0] ⟨L,X,7,P⟩=some (.none,⟨L,hs s (HA (emQ de d.sc q++[O0]) dn A 9 d.low),7,P⟩):=
 have g:Good 7 (HA (emQ de d.sc q++[O0]) dn A 9 d.low):=YT e9 hA (OX hqb);have e':=UA (o1a:=I1 s.ch s.sz s.off s.l1 s.l2) (o3:=I3 s.src s.pl) g (by decide)
 NC (VQ hd hq hn) (Y4 g (by decide) hL rfl ⟨rfl,rfl⟩ e') e e'
theorem VS(hd:bd A.length (some (!A.isEmpty))=some true)(hq:q.length<=100)(hn:n.length<=JC)(e9:Vv.blws 7 dn=true)(hA:Vv.blws 7 A=true)(hqb:Vv.blws 7 q=true)(hL:J0 7 L=true):
  FO 64 [T0] ⟨L,hs s ((.p 1,.list [.str w,.str []])::HA q dn A f ⟨n,ws,false,bf⟩),7,P⟩=some (.none,⟨L,hs s ((.p 1,.list [.str w,.str []])::HA (q++[JL Qg]++[O0]) dn A 9 ⟨n.map lowC,ws,false,bf⟩),7,P⟩):=
 have g0:Good 7 (HA (q++[JL Qg]++[O0]) dn A 9 ⟨n.map lowC,ws,false,bf⟩):=YT e9 hA (by rw[Wz,Wz,hqb];rfl)
 have g:Good 7 ((.p 1,.list [.str w,.str []])::HA (q++[JL Qg]++[O0]) dn A 9 ⟨n.map lowC,ws,false,bf⟩):=⟨aM (List.cons _) g0.f,aM (List.cons _) g0.c,g0.b⟩;have g1:Good 7 (HA q dn A f ⟨n,ws,false,bf⟩):=YT e9 hA hqb;have e':=UA (o1a:=I1 s.ch s.sz s.off s.l1 s.l2) (o3:=I3 s.src s.pl) g (by decide)
 NC (M7 hd hq hn) (Y4 g (by decide) hL rfl ⟨rfl,rfl⟩ e') (aM (fun l=>hs s ((.p 1,.list [.str w,.str []])::l)) g1.f) e'
end
def Ot:LN:=wL
def Ou:LN:=w5
def Us:LN:=wG
def Ur:LN:=wI
def XM:LN:=wH
def Uq:LN:=wD
def prL:List (Vv×Nat):=[.bool false,.bool true].flatMap fun p=>Ju.map fun a=>(p,a)
def prE:List (Vv×Vv):=((sg nlt).map fun v=>(.bool false,v))++(sg vE).map fun v=>(.bool true,v)
def prW:List (Nat×Nat):=[62,66].flatMap fun f=>(vE++Ju).map fun a=>(f,a)
noncomputable def wW(a:Nat):LN:=bif Nat.beq a 0 then [65533] else [a]
def qW(f a:Nat):List Vv:=bif Nat.beq a 60 then [JL (bif Nat.beq f 62 then Ot else Ou)] else bif Nat.beq a 0 then [JL Qq] else []
noncomputable def nW(f a:Nat):Nat:=bif Nat.beq a 60 then (bif Nat.beq f 62 then 25 else 29) else bif Nat.beq a 0 then 27 else bif Nat.ble 65 a then (bif Nat.beq f 62 then 10 else 14) else bif Nat.beq f 62 then 20 else 22
section
variable{f:Nat}{b:Bool}{v:Vv}{s s' em:Sx}{q dn A:List Vv}{cv ap:Vv}{a:Nat}{l n w bf:LN}{d:TG}{ws:List LN}{L:List (Nat×Vv)}{P:LN}{H:List (Id×Ob)}
section
variable(e9:Vv.blws 7 dn=true)(fJ:Vv.blw 7 cv=true)
include e9 fJ
theorem Ro(hx:(ap,a)∈prL)(hr:Rd (.str [a]) s s')(hl:bf.length+1<=JC):JB (R61 ap s dn cv bf) nG (.bool true,hs s' (H1 [] dn (me 61) cv (some (bf++[a]))),[99]):=
 have e0:∀x∈prL,(fw 4 (R61 x.1 s dn cv bf)).gc=FO 10 [T1] ⟨[(0,T0),(152,x.1)],hs s (H1 [] dn (me 61) cv (some bf)),7,[99]⟩:=JD (by kernel_rfl)
 have eL:∀x∈prL,J0 7 [(0,T0),(152,x.1)]=true:=JD (by kernel_rfl)
 have e1:∀x∈prL,(fw 13 ((fw 4 (R61 x.1 s dn cv bf)).oc (.str [x.2]) ⟨[(0,T0),(152,x.1)],hs s' (H1 [] dn (me 61) cv (some bf)),7,[99]⟩)).gv=Jk σ0 .add (.str bf) (.str [x.2]):=JD (by kernel_rfl)
 have e2:∀x∈prL,(fw 4 ((fw 13 ((fw 4 (R61 x.1 s dn cv bf)).oc (.str [x.2]) ⟨[(0,T0),(152,x.1)],hs s' (H1 [] dn (me 61) cv (some bf)),7,[99]⟩)).ov (.str (bf++[x.2])))).out nG=some (.bool true,hs s' (H1 [] dn (me 61) cv (some (bf++[x.2]))),[99]):=JD (by kernel_rfl)
 .c (X:=FO 10 [T1] ⟨[(0,T0),(152,ap)],hs s (H1 [] dn (me 61) cv (some bf)),7,[99]⟩) 4 (hr (JP e9 fJ) (eL (ap,a) hx)) (.v (X:=Jk σ0 .add (.str bf) (.str [a])) 13 (Ui hl (qF _)) (.done 4 (e2 (ap,a) hx)) (e1 (ap,a) hx)) (e0 (ap,a) hx)
theorem D7(hx:(ap,v)∈prE)(hr:Rd v s s')(hu:Un v s' em)(hl:2+bf.length<=JC):JB (R61 ap s dn cv bf) nG (.bool true,hs em (H1 [JN (60::47::bf)] dn (me 60) cv (some bf)),[99]):=
 have e0:∀x∈prE,(fw 4 (R61 x.1 s dn cv bf)).gc=FO 10 [T1] ⟨[(0,T0),(152,x.1)],hs s (H1 [] dn (me 61) cv (some bf)),7,[99]⟩:=JD (by kernel_rfl)
 have eL:∀x∈prE,(J0 7 [(0,T0),(152,x.1)],J0 7 [(0,T0),(152,x.1),(30,x.2)])=(true,true):=JD (by kernel_rfl)
 have e1:∀x∈prE,(fw 17 ((fw 4 (R61 x.1 s dn cv bf)).oc x.2 ⟨[(0,T0),(152,x.1)],hs s' (H1 [] dn (me 61) cv (some bf)),7,[99]⟩)).gv=Jk σ0 .add (.str [60,47]) (.str bf):=JD (by kernel_rfl)
 have e2:∀x∈prE,(fw 9 ((fw 17 ((fw 4 (R61 x.1 s dn cv bf)).oc x.2 ⟨[(0,T0),(152,x.1)],hs s' (H1 [] dn (me 61) cv (some bf)),7,[99]⟩)).ov (.str ([60,47]++bf)))).gc=FO 17 [T1,x.2] ⟨[(0,T0),(152,x.1),(30,x.2)],hs s' (H1 [JN (60::47::bf)] dn (me 61) cv (some bf)),7,[99]⟩:=JD (by kernel_rfl)
 have e3:∀x∈prE,(fw 9 ((fw 9 ((fw 17 ((fw 4 (R61 x.1 s dn cv bf)).oc x.2 ⟨[(0,T0),(152,x.1)],hs s' (H1 [] dn (me 61) cv (some bf)),7,[99]⟩)).ov (.str ([60,47]++bf)))).oc .none ⟨[(0,T0),(152,x.1),(30,x.2)],hs em (H1 [JN (60::47::bf)] dn (me 61) cv (some bf)),7,[99]⟩)).out nG=some (.bool true,hs em (H1 [JN (60::47::bf)] dn (me 60) cv (some bf)),[99]):=JD (by kernel_rfl)
 .c (X:=FO 10 [T1] ⟨[(0,T0),(152,ap)],hs s (H1 [] dn (me 61) cv (some bf)),7,[99]⟩) 4 (hr (JP e9 fJ) (aM Prod.fst (eL (ap,v) hx))) (.v (X:=Jk σ0 .add (.str [60,47]) (.str bf)) 17 (Ui hl (qF _))
  (.c (X:=FO 17 [T1,v] ⟨[(0,T0),(152,ap),(30,v)],hs s' (H1 [JN (60::47::bf)] dn (me 61) cv (some bf)),7,[99]⟩) 9 (hu (JP e9 fJ rfl) (aM Prod.snd (eL (ap,v) hx))) (.done 9 (e3 (ap,v) hx)) (e2 (ap,v) hx)) (e1 (ap,v) hx)) (e0 (ap,v) hx)
theorem ZAy(hr:Rd (.str [32]) s s'):JB (R61 (.bool true) s dn cv bf) nG (.bool true,hs s' (HT [] dn 62 ⟨bf,[],false,bf⟩),[0,2,99]):=
 .c 4 (hr (L:=[(0,T0),(152,.bool true)]) (P:=[99]) (JP (f:=61) (q:=[]) (tb:=some bf) e9 fJ) rfl) (.done 18)
theorem ZAz(hr:Rd (.str [47]) s s'):JB (R61 (.bool true) s dn cv bf) nG (.bool true,hs s' (HT [] dn 63 ⟨bf,[],false,bf⟩),[0,2,99]):=
 .c 4 (hr (L:=[(0,T0),(152,.bool true)]) (P:=[99]) (JP (f:=61) (q:=[]) (tb:=some bf) e9 fJ) rfl) (.done 40)
theorem ZA1(hr:Rd (.str [62]) s s')(hb:bf.length<=JC):JB (R61 (.bool true) s dn cv bf) nG (.bool true,hs s' (HT [O0] dn 9 ⟨bf.map lowC,[],false,bf⟩),[0,2,99]):=
 .c 4 (hr (L:=[(0,T0),(152,.bool true)]) (P:=[99]) (JP (f:=61) (q:=[]) (tb:=some bf) e9 fJ) rfl)
  (.c 20 (OW (s:=s') (q:=[]) (dn:=dn) (A:=[]) (f:=61) (d:=⟨bf,[],false,bf⟩) (L:=[(0,T0),(152,.bool true),(30,.str [62])]) (P:=[0,2,99]) (X:=(.p 0,.dict Yd [.int 4,.str bf,O2,.bool false])::(.p 2,.list [])::hs s' (H1 [] dn (me 61) O0 (some bf))) (by kernel_rfl) rfl (qG _) hb e9 rfl rfl rfl) (.done 40))
end
section
variable(e9:Vv.blws 7 dn=true)
include e9
theorem ZCW(hf:f∈[62,66])(hr:Rd (.str [32]) s s')(hu:Cl4 13 [J7,.bool true] (.str l) s' em):Stp f (S2 [] dn s f d) true (S2 [] dn em f d):=
 have e0:∀f∈[62,66],(fw 4 (JZ f [T0] (S2 [] dn s f d))).gc=FO 10 [T1] ⟨[(0,T0)],hs s (HT [] dn f d),7,[0,2,99]⟩:=JD (by kernel_rfl)
 have e1:∀f∈[62,66],(fw 6 ((fw 4 (JZ f [T0] (S2 [] dn s f d))).oc (.str [32]) ⟨[(0,T0)],hs s' (HT [] dn f d),7,[0,2,99]⟩)).gc=FO 13 [T1,J7,.bool true] ⟨[(0,T0),(30,.str [32])],hs s' (HT [] dn f d),7,[0,2,99]⟩:=JD (by kernel_rfl)
 have e2:∀f∈[62,66],(fw 2 ((fw 6 ((fw 4 (JZ f [T0] (S2 [] dn s f d))).oc (.str [32]) ⟨[(0,T0)],hs s' (HT [] dn f d),7,[0,2,99]⟩)).oc (.str l) ⟨[(0,T0),(30,.str [32])],hs em (HT [] dn f d),7,[0,2,99]⟩)).out nG=some (.bool true,hs em (HT [] dn f d),[0,2,99]):=JD (by kernel_rfl)
 stp (Jw e9) (Jw e9) hr (.c 6 (hu (Jw e9) rfl) (.done 2 (e2 f hf)) (e1 f hf)) (e0 f hf)
theorem Pi(hx:(f,a)∈prW)(hr:Rd (.str [a]) s s')(hl:(d.ws.map att).length<=JC):Stp f (S2 [] dn s f d) true (S3 (qW f a) dn s' 65 d (wW a)):=
 have e0:∀x∈prW,(fw 4 (JZ x.1 [T0] (S2 [] dn s x.1 d))).gc=FO 10 [T1] ⟨[(0,T0)],hs s (HT [] dn x.1 d),7,[0,2,99]⟩:=JD (by kernel_rfl)
 have e1:∀x∈prW,(fw (nW x.1 x.2) ((fw 4 (JZ x.1 [T0] (S2 [] dn s x.1 d))).oc (.str [x.2]) ⟨[(0,T0)],hs s' (HT [] dn x.1 d),7,[0,2,99]⟩)).gg=Nat.ble (d.ws.map att).length JC:=JD (by kernel_rfl)
 have e2:∀x∈prW,(fw 7 ((fw (nW x.1 x.2) ((fw 4 (JZ x.1 [T0] (S2 [] dn s x.1 d))).oc (.str [x.2]) ⟨[(0,T0)],hs s' (HT [] dn x.1 d),7,[0,2,99]⟩)).og)).out nG=some (.bool true,hs s' (HN (qW x.1 x.2) dn 65 d (wW x.2)),wS):=JD (by kernel_rfl)
 have e3:∀x∈prW,Vv.blws 7 (qW x.1 x.2)=true:=JD (by kernel_rfl)
 stp (Jw e9) (QU e9 (e3 _ hx)) hr (.g (nW f a) (ble hl) (.done 7 (e2 _ hx)) (e1 _ hx)) (e0 _ hx)
theorem ZCX(hf:f∈[62,66])(hr:Rd (.str [47]) s s'):Stp f (S2 [] dn s f d) true (S2 [] dn s' 63 d):=
 have e0:∀f∈[62,66],(fw 4 (JZ f [T0] (S2 [] dn s f d))).gc=FO 10 [T1] ⟨[(0,T0)],hs s (HT [] dn f d),7,[0,2,99]⟩:=JD (by kernel_rfl)
 have e1:∀f∈[62,66],(fw 60 ((fw 4 (JZ f [T0] (S2 [] dn s f d))).oc (.str [47]) ⟨[(0,T0)],hs s' (HT [] dn f d),7,[0,2,99]⟩)).out nG=some (.bool true,hs s' (HT [] dn 63 d),[0,2,99]):=JD (by kernel_rfl)
 stp (Jw e9) (Jw e9) hr (.done 60 (e1 f hf)) (e0 f hf)
def nEo(f:Nat):LN:=bif Nat.beq f 62 then Us else Ur
theorem Hk(hf:f∈[62,66])(hr:Rd .none s s'):Stp f (S2 [] dn s f d) true (S2 [JL (nEo f)] dn s' 9 d):=
 have e0:∀f∈[62,66],(fw 4 (JZ f [T0] (S2 [] dn s f d))).gc=FO 10 [T1] ⟨[(0,T0)],hs s (HT [] dn f d),7,[0,2,99]⟩:=JD (by kernel_rfl)
 have e1:∀f∈[62,66],(fw 60 ((fw 4 (JZ f [T0] (S2 [] dn s f d))).oc .none ⟨[(0,T0)],hs s' (HT [] dn f d),7,[0,2,99]⟩)).out nG=some (.bool true,hs s' (HT [JL (nEo f)] dn 9 d),[0,2,99]):=JD (by kernel_rfl)
 stp (Jw e9) (Jw e9 rfl) hr (.done 60 (e1 f hf)) (e0 f hf)
theorem ZCY{de}(hf:f∈[62,66])(hr:Rd (.str [62]) s s')(hd:bd (d.ws.map att).length (some (!(d.ws.map att).isEmpty))=some de)(hn:d.n.length<=JC):Stp f (S2 [] dn s f d) true (S2 (emQ de d.sc []++[O0]) dn s' 9 d.low):=
 have hA:Vv.blws 7 (d.ws.map att)=true:=by have h:=Xq (ws:=d.ws) (l:=[]) rfl;rw[aQ] at h;exact h
 have e0:∀f∈[62,66],(fw 4 (JZ f [T0] (S2 [] dn s f d))).gc=FO 10 [T1] ⟨[(0,T0)],hs s (HT [] dn f d),7,[0,2,99]⟩:=JD (by kernel_rfl)
 have e1:∀f∈[62,66],(fw 8 ((fw 4 (JZ f [T0] (S2 [] dn s f d))).oc (.str [62]) ⟨[(0,T0)],hs s' (HT [] dn f d),7,[0,2,99]⟩)).gc=FO 64 [T0] ⟨[(0,T0),(30,.str [62])],hs s' (HT [] dn f d),7,[0,2,99]⟩:=JD (by kernel_rfl)
 have e2:∀f∈[62,66],(fw 9 ((fw 8 ((fw 4 (JZ f [T0] (S2 [] dn s f d))).oc (.str [62]) ⟨[(0,T0)],hs s' (HT [] dn f d),7,[0,2,99]⟩)).oc .none ⟨[(0,T0),(30,.str [62])],hs s' (HT (emQ de d.sc []++[O0]) dn 9 d.low),7,[0,2,99]⟩)).out nG=some (.bool true,hs s' (HT (emQ de d.sc []++[O0]) dn 9 d.low),[0,2,99]):=JD (by kernel_rfl)
 stp (Jw e9) (Jw e9 (OX rfl)) hr (.c 8 (OW (q:=[]) (f:=f) (Kf (Jw e9)) hd (qG _) hn e9 hA rfl rfl) (.done 9 (e2 f hf)) (e1 f hf)) (e0 f hf)
theorem ZCb{de}(hr:Rd (.str [62]) s s')(hd:bd (d.ws.map att).length (some (!(d.ws.map att).isEmpty))=some de)(hn:d.n.length<=JC):Stp 63 (S2 [] dn s 63 d) true (S2 (emQ de true []++[O0]) dn s' 9 ⟨d.n.map lowC,d.ws,true,d.b⟩):=
 have hA:Vv.blws 7 (d.ws.map att)=true:=by have h:=Xq (ws:=d.ws) (l:=[]) rfl;rw[aQ] at h;exact h
 stp (Jw e9) (Jw (d:=⟨d.n.map lowC,d.ws,true,d.b⟩) e9 (OX rfl)) hr (.c 8 (OW (s:=s') (L:=[(0,T0),(30,.str [62])]) (P:=[0,2,99]) (q:=[]) (f:=63) (d:=⟨d.n,d.ws,true,d.b⟩) (Kf (Jw (d:=⟨d.n,d.ws,true,d.b⟩) e9)) hd (qG _) hn e9 hA rfl rfl) (.done 9))
theorem ZAc(hr:Rd .none s s')(hu:Un .none s' em):Stp 63 (S2 [] dn s 63 d) true (S2 [JL XM] dn em 9 d):=
 YU (vs:=[.none]) (H1a:=HT [JL XM] dn 63 d) 17 9 (.head _) (Jw e9) (Jw e9 rfl) (Jw e9 rfl) hr hu (JD (by kernel_rfl)) (JD (by kernel_rfl))
theorem Pv(ha:v∈([0,32,35,38,47,54,59,60]++Ju).map fun a=>Vv.str [a])(hr:Rd v s s')(hu:Un v s' em):Stp 63 (S2 [] dn s 63 d) true (S2 [JL Uq] dn em 62 d):=
 YU (H1a:=HT [JL Uq] dn 63 d) 17 9 ha (Jw e9) (Jw e9 rfl) (Jw e9 rfl) hr hu (JD (by kernel_rfl)) (JD (by kernel_rfl))
end
end
open PySem
def QY:LN:=wQ
def Qr:LN:=wN
def ZBC:ME:=.sub (.sub (.sub (.attr (.loc 0) 45 3) (.k (.str wB))) (.neg (.k (.int 1)))) (.k (.int 0))
def KM:List MS:=[.iff (.cmp .eq ZBC (.loc 66)) [.ex (.app (.attr (.loc 0) 48 3) (.dct kTD [(.sub (.glob UG) (.k (.str vB))),(.k (.str QY))] .frz)),.brk] []]
def lv0(v:Vv)(e:Bool):List (Nat×Vv):=[(0,T0),(30,v),(157,.bool true),(158,.bool e)]
def lv1(v:Vv)(e:Bool)(n:LN):List (Nat×Vv):=[(0,T0),(30,v),(157,.bool true),(158,.bool e),(66,.str n),(160,.str [])]
section
variable{f:Nat}{b e:Bool}{v:Vv}{s s' em:Sx}{q dn A:List Vv}{cv ap:Vv}{a:Nat}{l n w bf:LN}{d:TG}{ws:List LN}{L:List (Nat×Vv)}{P:LN}{H:List (Id×Ob)}{ov:Vv}
theorem U1(h:A.length<JC):Um (A++[O1]) (.int (-1))=some O1:=by
 show gd (Nat.ble (A++[O1]).length JC) (bo (seqIndex? (-1) (A++[O1]).length) fun j=>(A++[O1])[j]?)=_
 rw[aO,ble (show A.length+[O1].length<=JC from h)];show bo (seqIndex? (-1) (A.length+1)) _=_;rw[Yx];exact du
theorem Gy(h:A.length<JC):slV ⟨[],[(.p 2,.list (A++[O1]))],0,[]⟩ O2 .none (.int (-1))=some (.list A):=by
 show gd (Nat.ble (A++[O1]).length JC) (some (Vv.list (cut (A++[O1]) 0 (clampIx (A++[O1]).length (-1)))))=_;rw[aO,ble (show A.length+[O1].length<=JC from h)];have e:clampIx (A.length+[O1].length) (-1)=A.length:=by
  show (max 0 (min (if (-1:Int)<0 then (-1:Int)+(A.length+1:Nat) else -1) ((A.length+1:Nat):Int))).toNat=_;rw[aR (by decide),((Int.add_comm _ _).trans (cM (A.length:Int) 1):(-1+(A.length+1:Nat):Int)=A.length),eU (b5.mpr (xC _)),cH (aj _),cQ]
 rw[e];show some (Vv.list (((A++[O1]).take A.length).drop 0))=_;rw[List.take_left' rfl];rfl
theorem VU(hA:(d.ws.map att).length<JC)(h:(w==n)=false):exs FO KM ⟨lv1 v e n,hs s (HN q dn f d w),7,P⟩=some (.next,⟨lv1 v e n,hs s (HN q dn f d w),7,P⟩):=by
 refine JB.exs ?_;exact .v 3 (U1 hA) (.b 1 (aM some h) (.done 2))
theorem M8(hA:(d.ws.map att).length<JC)(h:(w==n)=true)(hq:q.length<=JC):exs FO KM ⟨lv1 v e n,hs s (HN q dn f d w),7,P⟩=some (.brk,⟨lv1 v e n,hs s (HN (q++[JL QY]) dn f d w),7,P⟩):=by
 have g:=ble hq;refine JB.exs ?_;exact .v 3 (U1 hA) (.b 1 (aM some h) (.g 8 g (.done 2)))
def TM:List Vv->St->Option (FL×St):=Qa (fun v U=>bo (WX v) fun vs=>UI [66,160] vs U) (exs FO KM)
theorem FH(hA:(d.ws.map att).length<JC)(hq:q.length<=JC):∀(ws:List LN) (n:LN),∃n',TM (ws.map att) ⟨lv1 v e n,hs s (HN q dn f d w),7,P⟩=some (.next,⟨lv1 v e n',hs s (HN (em1 (ws.any (w==·)) (JL QY) q) dn f d w),7,P⟩):=fun l0=>by
 induction l0 with
 |nil=>
  exact fun n=>⟨n,rfl⟩
 |cons m ws ih=>
  intro n;show ∃n',bn (exs FO KM ⟨lv1 v e m,hs s (HN q dn f d w),7,P⟩) _=_;rw[bG];cases h:w==m with
  |true=>rw[M8 hA h hq];exact⟨m,rfl⟩
  |false=>rw[VU hA h];exact ih m
theorem GW(hA:(d.ws.map att).length<JC)(hq:q.length<=JC):∃X,J0 7 X=true/\TM (d.ws.map att) ⟨lv0 v e,hs s (HN q dn f d w),7,P⟩=some (.next,⟨lv0 v e++X,hs s (HN (em1 (d.ws.any (w==·)) (JL QY) q) dn f d w),7,P⟩):=by
 generalize hws:d.ws=ws;cases ws with
 |nil=>exact⟨[],rfl,rfl⟩
 |cons m ws=>
  obtain⟨n',e'⟩:=FH (v:=v) (e:=e) (s:=s) (dn:=dn) (f:=f) (w:=w) (P:=P) (d:=d) hA hq (m::ws) m;exact⟨[(66,.str n'),(160,.str [])],rfl,e'⟩
def R65(v:Vv)(e:Bool)(q dn:List Vv)(s:Sx)(f:Nat)(d:TG)(w:LN):Rz:=exsK false FO (BH.body.drop 4) ⟨lv0 v e,hs s (HN q dn f d w),7,wS⟩ .done
theorem HU(g:Good 7 H)(hL:J0 7 L=true)(hn:n.length<=JC):FO 34 [.str n] ⟨L,hs s H,7,P⟩=some (.str (n.map lowC),⟨L,hs s H,7,P⟩):=UO g g (by decide) hL rfl ⟨rfl,rfl⟩ (UA g (by decide)) (Nd (n:=4) hn)
theorem Ky(hA:(d.ws.map att).length<JC)(hw:w.length<=JC)(e9:Vv.blws 7 dn=true)(hq:q.length<=JC)(hqb:Vv.blws 7 q=true)(hL:Vv.blw 7 v=true):
  JB (R65 v false q dn s f d w) nG (.bool true,hs s (HN (em1 (d.ws.any (w.map lowC==·)) (JL QY) q) dn f d (w.map lowC)),wS):=by
 have hL':J0 7 (lv0 v false)=true:=by show (Vv.blw 7 v&&true)=true;rw[hL];rfl
 obtain⟨X,hX,hl⟩:=GW (v:=v) (e:=false) (s:=s) (q:=q) (dn:=dn) (f:=f) (w:=w.map lowC) (P:=wS) hA hq;exact .v 4 (U1 hA) (.c 1 (HU (n:=w) (s:=s) (P:=wS) (QU (q:=q) (dn:=dn) (f:=f) (d:=d) (w:=w) e9 hqb) hL' hw) (.v 3 (U1 hA) (.v 6 (Gy hA) (.fl 1 hl (.done 2)))))
theorem Ea(hA:(d.ws.map att).length<JC)(hw:w.length<=JC)(e9:Vv.blws 7 dn=true)(hn:d.n.length<=JC)(hsc:d.sc=false):
  JB (R65 (.str [62]) true [] dn s 65 d w) nG (.bool true,hs s (HN (em1 (d.ws.any (w.map lowC==·)) (JL QY) []++[JL Qg]++[O0]) dn 9 d.low (w.map lowC)),wS):=by
 obtain⟨n,ws,sc,bf⟩:=d;cases hsc;obtain⟨X,hX,hl⟩:=GW (v:=.str [62]) (e:=true) (s:=s) (q:=[]) (dn:=dn) (f:=65) (w:=w.map lowC) (P:=wS) hA (qG _);have hb:Vv.blws 7 (ws.map att++[O1])=true:=Xq rfl;have hd:bd (ws.map att++[O1]).length (some (!(ws.map att++[O1]).isEmpty))=some true:=by
  rw[aO];show gd (Nat.ble ((ws.map att).length+1) JC) _=_;rw[ble hA];cases ws<;>rfl
 exact .v 4 (U1 hA) (.c 1 (HU (n:=w) (s:=s) (P:=wS) (QU (q:=[]) (dn:=dn) (f:=65) (d:=⟨n,ws,false,bf⟩) (w:=w) e9) (L:=lv0 (.str [62]) true) rfl hw) (.v 3 (U1 hA) (.v 6 (Gy hA) (.fl 1 hl (.c 3 (VS (s:=s) (w:=w.map lowC) (f:=65) (bf:=bf) (ws:=ws) (L:=lv0 (.str [62]) true++X) (P:=wS) (q:=em1 (ws.any (w.map lowC==·)) (JL QY) []) hd (qA Ze (by decide)) hn e9 hb (Wn rfl rfl) hX) (.done 2))))))
def prN:LN:=vE
noncomputable def nN(a:Nat):Nat:=bif Nat.beq a 0 then 24 else bif Nat.beq a 60 then 26 else 19
theorem ZA5(e9:Vv.blws 7 dn=true)(ha:a∈prN)(hr:Rd (.str [a]) s s')(hA:(d.ws.map att).length<JC)(h2:w.length+1<=JC):Stp 65 (S3 [] dn s 65 d w) true (S3 (qW 62 a) dn s' 65 d (w++wW a)):=
 have e1:∀a∈prN,(fw (nN a) ((fw 4 (JZ 65 [T0] (S3 [] dn s 65 d w))).oc (.str [a]) ⟨[(0,T0)],hs s' (HN [] dn 65 d w),7,wS⟩)).gv=Um (d.ws.map att++[O1]) (.int (-1)):=JD (by kernel_rfl)
 have e2:∀a∈prN,(fw 1 ((fw (nN a) ((fw 4 (JZ 65 [T0] (S3 [] dn s 65 d w))).oc (.str [a]) ⟨[(0,T0)],hs s' (HN [] dn 65 d w),7,wS⟩)).ov O1)).gv=Jk σ0 .add (.str w) (.str (wW a)):=JD (by kernel_rfl)
 have e3:∀a∈prN,(fw 5 ((fw 1 ((fw (nN a) ((fw 4 (JZ 65 [T0] (S3 [] dn s 65 d w))).oc (.str [a]) ⟨[(0,T0)],hs s' (HN [] dn 65 d w),7,wS⟩)).ov O1)).ov (.str (w++wW a)))).out nG=some (.bool true,hs s' (HN (qW 62 a) dn 65 d (w++wW a)),wS):=JD (by kernel_rfl)
 have e4:∀a∈prN,(Vv.blws 7 (qW 62 a),(wW a).length)=(true,1):=JD (by kernel_rfl)
 stp (QU e9) (QU e9 (aM Prod.fst (e4 a ha))) hr (.v (nN a) (U1 hA) (.v 1 (Ui (k:=JC) ((aM (w.length+·) (aM Prod.snd (e4 a ha):(wW a).length=1))▸h2) (qF _)) (.done 5 (e3 a ha)) (e2 a ha)) (e1 a ha))
theorem ZA3(e9:Vv.blws 7 dn=true)(ha:a∈Ju)(hr:Rd (.str [a]) s s')(hA:(d.ws.map att).length<JC)(h2:w.length+(1+l.length)<=JC)(hu:Cl4 13 [Uz,.bool true] (.str l) s' em):Stp 65 (S3 [] dn s 65 d w) true (S3 [] dn em 65 d (w++a::l)):=
 have e1:∀a∈Ju,(fw 7 ((fw 4 (JZ 65 [T0] (S3 [] dn s 65 d w))).oc (.str [a]) ⟨[(0,T0)],hs s' (HN [] dn 65 d w),7,wS⟩)).gv=Um (d.ws.map att++[O1]) (.int (-1)):=JD (by kernel_rfl)
 have e2:∀a∈Ju,(fw 5 ((fw 7 ((fw 4 (JZ 65 [T0] (S3 [] dn s 65 d w))).oc (.str [a]) ⟨[(0,T0)],hs s' (HN [] dn 65 d w),7,wS⟩)).ov O1)).gc=FO 13 [T1,Uz,.bool true] ⟨lv0 (.str [a]) false,hs s' (HN [] dn 65 d w),7,wS⟩:=JD (by kernel_rfl)
 have e3:∀a∈Ju,((fw 5 ((fw 7 ((fw 4 (JZ 65 [T0] (S3 [] dn s 65 d w))).oc (.str [a]) ⟨[(0,T0)],hs s' (HN [] dn 65 d w),7,wS⟩)).ov O1)).oc (.str l) ⟨lv0 (.str [a]) false,hs em (HN [] dn 65 d w),7,wS⟩).gv=Jk σ0 .add (.str [a]) (.str l):=JD (by kernel_rfl)
 have e4:∀a∈Ju,(((fw 5 ((fw 7 ((fw 4 (JZ 65 [T0] (S3 [] dn s 65 d w))).oc (.str [a]) ⟨[(0,T0)],hs s' (HN [] dn 65 d w),7,wS⟩)).ov O1)).oc (.str l) ⟨lv0 (.str [a]) false,hs em (HN [] dn 65 d w),7,wS⟩).ov (.str (a::l))).gv=Jk σ0 .add (.str w) (.str (a::l)):=JD (by kernel_rfl)
 have e5:∀a∈Ju,(fw 5 ((((fw 5 ((fw 7 ((fw 4 (JZ 65 [T0] (S3 [] dn s 65 d w))).oc (.str [a]) ⟨[(0,T0)],hs s' (HN [] dn 65 d w),7,wS⟩)).ov O1)).oc (.str l) ⟨lv0 (.str [a]) false,hs em (HN [] dn 65 d w),7,wS⟩).ov (.str (a::l))).ov (.str (w++a::l)))).out nG=some (.bool true,hs em (HN [] dn 65 d (w++a::l)),wS):=JD (by kernel_rfl)
 stp (QU e9) (QU e9) hr (.v 7 (U1 hA) (.c 5 (hu (QU e9) rfl) (.v 0 (Ui (a:=[a]) (b:=l) (qA (bS _ _) h2) (qF _)) (.v 0 (Ui (a:=w) (b:=a::l) (by rw[au,aW l.length];exact h2) (qF _)) (.done 5 (e5 a ha)) (e4 a ha)) (e3 a ha)) (e2 a ha)) (e1 a ha))
theorem Z3{z q'}(k)(h:JB (R65 v e q dn s' f d w) nG z)(e':R65 v e q dn s' f d w=fw k ((fw 4 (JZ 65 [T0] (S3 q' dn s 65 d w))).oc v ⟨[(0,T0)],hs s' (HN q' dn 65 d w),7,wS⟩)):JB ((fw 4 (JZ 65 [T0] (S3 q' dn s 65 d w))).oc v ⟨[(0,T0)],hs s' (HN q' dn 65 d w),7,wS⟩) nG z:=JB.fw (n:=k) (e'▸h)
section
variable(e9:Vv.blws 7 dn=true)(hA:(d.ws.map att).length<JC)(hw:w.length<=JC)
include e9 hA hw
def WL(d:TG)(w:LN)(q:List Vv):List Vv:=em1 (d.ws.any (w.map lowC==·)) (JL QY) q
theorem ZC0(hr:Rd (.str [32]) s s'):Stp 65 (S3 [] dn s 65 d w) true (S3 (WL d w []) dn s' 66 d (w.map lowC)):=
 stp (QU e9) (QU e9 (Wn rfl rfl)) hr (Z3 13 (Ky hA hw e9 (qG _) rfl rfl) (by kernel_rfl))
theorem ZC1(hr:Rd (.str [47]) s s'):Stp 65 (S3 [] dn s 65 d w) true (S3 (WL d w []) dn s' 63 d (w.map lowC)):=
 stp (QU e9) (QU e9 (Wn rfl rfl)) hr (Z3 15 (Ky hA hw e9 (qG _) rfl rfl) (by kernel_rfl))
theorem ZA4(hr:Rd .none s s'):Stp 65 (S3 [] dn s 65 d w) true (S3 (WL d w [JL Qr]) dn s' 9 d (w.map lowC)):=
 stp (QU e9) (QU e9 (Wn rfl rfl)) hr (Z3 30 (Ky hA hw e9 (qE rfl) rfl rfl) (by kernel_rfl))
theorem ZC2(hr:Rd (.str [62]) s s')(hn:d.n.length<=JC)(hsc:d.sc=false):Stp 65 (S3 [] dn s 65 d w) true (S3 (WL d w []++[JL Qg]++[O0]) dn s' 9 d.low (w.map lowC)):=
 stp (QU e9) (QU e9 (by rw[Wz,Wz,WL,Wn rfl rfl];rfl)) hr (Z3 6 (Ea hA hw e9 hn hsc) (by kernel_rfl))
end
end
def hx(x:Xs)(s:Sx)(H:List (Id×Ob)):List (Id×Ob):=hX x (I1 s.ch s.sz s.off s.l1 s.l2) (I3 s.src s.pl) H
def RdX(v:Vv)(s s':Sx):Prop:=∀{n x L H nx P},JF tT (n+3) 10 [T1] ⟨L,hx x s H,nx,P⟩=some (v,⟨L,hx x s' H,nx,P⟩)
def UnX(v:Vv)(s s':Sx):Prop:=∀{n x L H nx P},JF tT (n+3) 17 [T1,v] ⟨L,hx x s H,nx,P⟩=some (.none,⟨L,hx x s' H,nx,P⟩)
noncomputable def hdV:LN->Vv
 |[]=>.none
 |a::_=>.str [a]
structure Cur(src r:LN)(s:Sx):Prop where
 u:∃em,UnX (hdV r) s em/\At src r em
 a:At src r.tail s
section
variable{src r:LN}{s:Sx}
theorem At.rd(A:At src r s):∃s',RdX (hdV r) s s'/\Cur src r s':=A.el fun ch off l1 l2 h1 h2 h3 h4 h5 h6=>by
 subst h1;cases r with
 |nil=>
  cases W1 h2 h3;have B:At src [] (st [] src 0 (JY ch l1 l2).1 (JY ch l1 l2).2):=⟨[],0,_,_,rfl,rfl,qF _,qG _,h5,posF_nil.trans h6⟩;exact⟨st [] src 0 (JY ch l1 l2).1 (JY ch l1 l2).2,DS (m4 h5).2.1,⟨_,Ka,B⟩,B⟩
 |cons a r=>
  obtain⟨ha,hd,hl⟩:=QH h2;exact⟨st ch src (off+1) l1 l2,Br ha (m4 h4).1,⟨st ch src off l1 l2,Kb ha (m4 h4).1,⟨ch,off,l1,l2,rfl,h2,h3,h4,h5,h6⟩⟩,⟨ch,off+1,l1,l2,rfl,hd,hl,h4,h5,h6⟩⟩
theorem W3{t b n U U1a U2a r}(ht:t U=some (true,U1a))(hb:b U1a=some (.next,U2a))(h:Jh t b n U2a=r):Jh t b (n+1) U=r:=by
 show bn (t U) _=_;rw[ht];show bn (b U1a) _=_;rw[hb];exact h
theorem Uv{t b n U U1a}(ht:t U=some (false,U1a)):Jh t b (n+1) U=some (.next,U1a):=by
 show bn (t U) _=_;rw[ht];rfl
end
def ZC4:LN:=wE
def QP:LN:=wM
def QX:LN:=wU
def Wq:LN:=wV
def Xe:LN:=wO
def tIv(v:Nat):Vv:=.dict [wC,wB,w9] [.int 7,.str ZC4,.dict [w6] [.int v]]
noncomputable def cnW:ME:=(.and (.cmp .inn (.loc 33) (.loc 200)) (.cmp .isn (.loc 33) (.glob .none)))
noncomputable def cnB:List MS:=[.ex (.app (.loc 56) (.loc 33)),.asg 33 (.mcall (.attr (.loc 0) 20 3) 27 1 10 [])]
def cnA:List MS:=[.asg 200 (.glob XB),.asg 201 (.k (.int 10)),.iff (.loc 199) [.asg 200 (.glob Xm),.asg 201 (.k (.int 16))] [],.asg 56 (.lst [] .tmp),.asg 33 (.mcall (.attr (.loc 0) 20 3) 27 1 10 []),.whl cnW cnB,.asg 202 (.bi .int [(.sm .join (.k (.str [])) [(.loc 56)]),(.loc 201)])]
def cnC:List MS:=(Xk.body.drop 7).take 1
def cnD:List MS:=Xk.body.drop 8
theorem ZBr:Xk.body=cnA++(cnC++cnD):=rfl
noncomputable def bs(h:Bool):Nat:=bif h then 16 else 10
def gDg(h:Bool):Vv:=bif h then Xm else XB
def cnL(h:Bool)(c:Vv):List (Nat×Vv):=[(0,T0),(199,.bool h),(200,gDg h),(201,.int (bs h)),(56,.obj (.t 8)),(33,c)]
def Q5(h:Bool):List Vv:=.none::((bif h then vF else wY).map fun a=>.str [a])
noncomputable def onD(h:Bool):LN:=bif h then [54,97] else [54]
section
variable{src r t d:LN}{s:Sx}{h:Bool}{v:Vv}{p q:List Vv}{H:List (Id×Ob)}{P:LN}{a n nx:Nat}{C:Ora}
theorem Vg(hv:v∈Q5 h):tst C cnW ⟨cnL h v,H,nx,P⟩=some (false,⟨cnL h v,H,nx,P⟩):=by
 have e0:∀v∈Q5 false,tst C cnW ⟨cnL false v,H,nx,P⟩=some (false,⟨cnL false v,H,nx,P⟩):=JD (by kernel_rfl)
 have e1:∀v∈Q5 true,tst C cnW ⟨cnL true v,H,nx,P⟩=some (false,⟨cnL true v,H,nx,P⟩):=JD (by kernel_rfl)
 cases h
 ·exact e0 v hv
 ·exact e1 v hv
theorem ZBq(ha:a∈onD h):tst C cnW ⟨cnL h (.str [a]),H,nx,P⟩=some (true,⟨cnL h (.str [a]),H,nx,P⟩):=by
 have e0:∀a∈onD false,tst C cnW ⟨cnL false (.str [a]),H,nx,P⟩=some (true,⟨cnL false (.str [a]),H,nx,P⟩):=JD (by kernel_rfl)
 have e1:∀a∈onD true,tst C cnW ⟨cnL true (.str [a]),H,nx,P⟩=some (true,⟨cnL true (.str [a]),H,nx,P⟩):=JD (by kernel_rfl)
 cases h
 ·exact e0 a ha
 ·exact e1 a ha
variable{Q dn:List Vv}{cv:Vv}{tb:Option LN}{f:Nat}
theorem PI(hv:hdV t∈Q5 h):∀(d:LN) (p:List Vv) (s:Sx) (n:Nat),(∀a∈d,a∈onD h)->Cur src (d++t) s->p.length+d.length<=900->d.length<n->∃s',Cur src t s' /\
  Jh (tst (JF tT 3) cnW) (exs (JF tT 3) cnB) n ⟨cnL h (hdV (d++t)),hx (.t p q) s (H1 Q dn (me f) cv tb),nx,P⟩=some (.next,⟨cnL h (hdV t),hx (.t (p++d.map fun a=>.str [a]) q) s' (H1 Q dn (me f) cv tb),nx,P⟩):=by
 intro d;induction d with
 |nil=>
  intro p s n _ A _ hn;cases n with
  |zero=>exact absurd hn (xS _)
  |succ n=>exact⟨s,A,by rw[show p++([]:LN).map (fun a=>Vv.str [a])=p from aQ p];exact Uv (Vg hv)⟩
 |cons a d ih=>
  intro p s n hd A hl hn;cases n with
  |zero=>exact absurd hn (xJ _)
  |succ n=>
   obtain⟨ek,h1,h2⟩:=A.a.rd;have hl':(p++[Vv.str [a]]).length+d.length<=900:=by rw[aO,aX,aW [Vv.str [a]].length];exact hl
   obtain⟨em,h3,h4⟩:=ih (p++[.str [a]]) ek n (fun x hx=>hd x (.tail _ hx)) h2 hl' (xH hn)
   refine⟨em,h3,W3 (ZBq (hd a (.head _))) (U2a:=⟨cnL h (hdV (d++t)),hx (.t (p++[.str [a]]) q) ek (H1 Q dn (me f) cv tb),nx,P⟩) (JB.exs ?_) ?_⟩
   ·have hr:=h1 (n:=0) (x:=.t (p++[.str [a]]) q) (L:=cnL h (.str [a])) (H:=H1 Q dn (me f) cv tb) (nx:=nx) (P:=P)
    have g:Nat.ble p.length JC=true:=ble (qA (qA (qK _ _) hl) (by decide))
    cases h<;>exact .g 2 g (.c 5 hr (.done 1))
   ·rw[h4,aT];rfl
noncomputable def wds(l:LN):Nat->List LN
 |0=>[[]]
 |n+1=>[]::(wds l n).flatMap fun w=>l.map (·::w)
theorem PX{l}:∀(n:Nat) (w:LN),(∀a∈w,a∈l)->w.length<=n->w∈wds l n:=by
 intro n;induction n with
 |zero=>
  intro w _ hl;cases w with
  |nil=>exact .head _
  |cons a w=>exact absurd hl (xK _)
 |succ n ih=>
  intro w h hl;cases w with
  |nil=>exact .head _
  |cons a w=>exact .tail _ (eP.mpr ⟨w,ih w (fun x hx=>h x (.tail _ hx)) (xQ hl),ak.mpr ⟨a,h a (.head _),rfl⟩⟩)
def Ul(h:Bool):LN:=((wds (onD h) (bif h then 5 else 6)).filter fun w=>!w.isEmpty).map (numV (bs h))
noncomputable def ilv(v:Nat):Bool:=Nat.blt v 9||Nat.blt 1114111 v
def ivQ(v:Nat):List Vv:=bif ilv v then [tIv v] else []
noncomputable def sgV(v:Nat):Nat:=bif Nat.blt 1114111 v then 65533 else v
def Wt(h:Bool)(c:Vv)(v:Nat):List (Nat×Vv):=cnL h c++[(202,.int v)]
def Q8(h:Bool)(c:Vv)(v:Nat):List (Nat×Vv):=Wt h c v++[(27,.str [sgV v])]
theorem FT{c k}(hk:k∈Ul h):exs C cnC ⟨Wt h c k,hx (.t p q) s (H1 [] dn (me f) cv tb),nx,P⟩=some (.next,⟨Q8 h c k,hx (.t p q) s (H1 (ivQ k) dn (me f) cv tb),nx,P⟩):=by
 have e0:∀k∈Ul false,exs C cnC ⟨Wt false c k,hx (.t p q) s (H1 [] dn (me f) cv tb),nx,P⟩=some (.next,⟨Q8 false c k,hx (.t p q) s (H1 (ivQ k) dn (me f) cv tb),nx,P⟩):=JD (by kernel_rfl)
 have e1:∀k∈Ul true,exs C cnC ⟨Wt true c k,hx (.t p q) s (H1 [] dn (me f) cv tb),nx,P⟩=some (.next,⟨Q8 true c k,hx (.t p q) s (H1 (ivQ k) dn (me f) cv tb),nx,P⟩):=JD (by kernel_rfl)
 cases h
 ·exact e0 k hk
 ·exact e1 k hk
theorem MH:∀l:List Int,(∀i∈l,i<=159)->∀{k:Nat},1114111<k->l.any (·==(k:Int))=false:=fun l h k hk=>d9.mpr fun i hi q=>absurd (h i hi) (dR.mpr (Int.lt_of_lt_of_le (show (159:Int)<1114112 by decide) ((aV.mp q)▸b5.mpr hk)))
theorem Vi{c k}(hk:1114111<k):exs C cnC ⟨Wt h c k,hx (.t p q) s (H1 [] dn (me f) cv tb),nx,P⟩=some (.next,⟨Q8 h c k,hx (.t p q) s (H1 (ivQ k) dn (me f) cv tb),nx,P⟩):=by
 have hb:Nat.blt 1114111 k=true:=ble hk;have e1:sgV k=65533:=by unfold sgV;rw[hb];rfl
 have e2:ivQ k=[tIv k]:=by unfold ivQ ilv;rw[hb,Bool.or_true];rfl
 unfold Q8;rw[e1,e2];have f1:some (TF.any (·==(k:Int)))=some false:=aM some (MH _ (by decide) hk)
 have f2:some (decide ((55296:Int)<=k))=some true:=aM some (aU (b5.mpr (qA (by decide) (xF hk))))
 have f3:some (decide ((k:Int)<=57343))=some false:=aM some (an (dR.mpr (a8.mpr (qL (by decide) hk))))
 have f4:some (decide ((1114111:Int)<k))=some true:=aM some (aU (a8.mpr hk));refine JB.exs ?_;cases h<;>exact .b 0 f1 (.b 1 f2 (.b 0 f3 (.b 1 f4 (.done 13))))
theorem Ly(hd:d.length<=900):smV σ0 .join [] [.list (d.map fun a=>.str [a])]=some (.str d):=by
 have e:(d.map fun a=>[a]).flatten=d:=by
  induction d with
  |nil=>rfl
  |cons a d ih=>exact aM (a::·) (ih (qR hd))
 have h:=NJ (l:=d.map fun a=>[a]) (by rw[UX,e];exact qA hd (by decide))
 rw[UX,e,br] at h;exact h
theorem SR(h1:d≠[])(h2:d.length<=640)(h3:∀a∈d,a∈onD h):biV σ0 .int [.str d,.int (bs h)]=some (.int (numV (bs h) d)):=by
 have hd:d.all (dg (bs h))=true:=aq.mpr fun a ha=>by
  have e0:∀a∈onD false,dg (bs false) a=true:=JD (by kernel_rfl)
  have e1:∀a∈onD true,dg (bs true) a=true:=JD (by kernel_rfl)
  cases h
  ·exact e0 a (h3 a ha)
  ·exact e1 a (h3 a ha)
 have hne:d.isEmpty=false:=by cases d with|nil=>exact absurd rfl h1|cons _ _=>rfl
 cases h
 ·show gd ((!d.isEmpty&&Nat.ble d.length 640)&&d.all (dg (bs false))) _=_
  rw[hd,hne,ble h2];rfl
 ·show gd ((!d.isEmpty&&Nat.ble d.length 640)&&d.all (dg (bs true))) _=_
  rw[hd,hne,ble h2];rfl
theorem ZDM(h1:d≠[])(h2:d.length<=640)(h3:∀a∈d,a∈onD h)(hv:hdV t∈Q5 h)(A:At src (d++t) s):∃s',Cur src t s' /\
  exs (JF tT 3) cnA ⟨[(0,T0),(199,.bool h)],hx (.o q) s (H1 Q dn (me f) cv tb),8,P⟩=some (.next,⟨Wt h (hdV t) (numV (bs h) d),hx (.t (d.map fun a=>.str [a]) q) s' (H1 Q dn (me f) cv tb),9,P⟩):=by
 obtain⟨ek,r1,c1⟩:=A.rd;obtain⟨em,c2,hw⟩:=PI (src:=src) (t:=t) (h:=h) (q:=q) (P:=P) (nx:=9) (Q:=Q) (dn:=dn) (cv:=cv) (tb:=tb) (f:=f) hv d [] ek J2 h3 c1 (by show 0+d.length<=900;rw[bL];exact qA h2 (by decide)) (qL h2 (by decide))
 rw[List.nil_append] at hw;refine⟨em,c2,JB.exs ?_⟩;have hj:=Ly (d:=d) (qA h2 (by decide))
 have hi:=SR h1 h2 h3;have hr:=r1 (n:=0) (x:=.t [] q) (L:=[(0,T0),(199,.bool h),(200,gDg h),(201,.int (bs h)),(56,.obj (.t 8))]) (H:=H1 Q dn (me f) cv tb) (nx:=9) (P:=P);cases h<;>exact .c 6 hr (.fl 0 hw (.v 0 hj (.v 0 hi (.done 1))))
theorem TN{c k s'}(hc:c=.none/\s'=s\/∃a,a≠59/\c=.str [a])(hl:Q.length<=9)(hu:UnX c s s'):exs (JF tT 3) cnD ⟨Q8 h c k,hx (.t p q) s (H1 Q dn (me f) cv tb),nx,P⟩=some (.ret (.str [sgV k]),⟨Q8 h c k,hx (.t p q) s' (H1 (Q++[JL QP]) dn (me f) cv tb),nx,P⟩):=by
 have g:Nat.ble Q.length JC=true:=ble (qA hl (by decide))
 have hu:=hu (n:=0) (x:=.t p q) (L:=Q8 h c k) (H:=H1 (Q++[JL QP]) dn (me f) cv tb) (nx:=nx) (P:=P);refine JB.exs ?_;rcases hc with ⟨rfl,rfl⟩|⟨a,ha,rfl⟩
 ·cases h<;>exact .g 9 g (.done 8)
 ·have e:some (!([a]==[59]))=some true:=by rw[xV fun e=>ha (qS e).1];rfl
  cases h<;>exact .b 0 e (.g 8 g (.c 5 hu (.done 2)))
theorem Vh{k}:exs (JF tT 3) cnD ⟨Q8 h (.str [59]) k,hx (.t p q) s (H1 Q dn (me f) cv tb),nx,P⟩=some (.ret (.str [sgV k]),⟨Q8 h (.str [59]) k,hx (.t p q) s (H1 Q dn (me f) cv tb),nx,P⟩):=by
 refine JB.exs ?_;cases h<;>exact .done 3
theorem ZG:∀{s r:List MS} {U:St},exs C (s++r) U=bn (exs C s U) fun f U1a=>Ya f (exs C r U1a) U1a:=by
 intro s;induction s with
 |nil=>intro r U;rfl
 |cons s l ih=>
  intro r U;show bn (exc C s U) _=bn (bn (exc C s U) _) _;cases exc C s U with
  |none=>rfl
  |some p=>
   obtain⟨f,U1a⟩:=p;cases f<;>first|exact ih|rfl
theorem Jl{s r U U'}(h:exs C s U=some (.next,U')):exs C (s++r) U=exs C r U':=by rw[ZG,h];rfl
noncomputable def smc:LN->Bool
 |[]=>false
 |a::_=>Nat.beq a 59
theorem IK{k}:(ivQ k).length<=9:=by
 unfold ivQ;cases ilv k
 ·exact qG _
 ·show 1<=9;decide
theorem MQ{b}:∀(l:LN) (n:Nat),n*b ^ l.length<=l.foldl (fun n c=>n*b+dgV c) n:=by
 intro l;induction l with
 |nil=>exact fun n=>qU (Nat.mul_one n)
 |cons c l ih=>exact fun n=>qA (by
   show n*b ^ (l.length+1)<=(n*b+dgV c)*b ^ l.length;rw[Nat.pow_succ,Nat.mul_comm (b ^ l.length),<- Nat.mul_assoc];exact dX _ (qK _ _)) (ih (n*b+dgV c))
theorem few(h3:∀a∈d,a∈onD h)(hb:¬ 1114111<numV (bs h) d):d.length<=bif h then 5 else 6:=by
 cases d with
 |nil=>exact qG _
 |cons c l=>
  have h6:6<=dgV c:=by
   have e0:∀a∈onD false,Nat.ble 6 (dgV a)=true:=JD (by kernel_rfl)
   have e1:∀a∈onD true,Nat.ble 6 (dgV a)=true:=JD (by kernel_rfl)
   refine qE ?_;cases h
   ·exact e0 c (h3 c (.head _))
   ·exact e1 c (h3 c (.head _))
  have h7:6*(bs h) ^ l.length<=numV (bs h) (c::l):=qA (dX _ (qA h6 (bS _ _))) (MQ l (0*bs h+dgV c));refine dI fun q=>hb (xG ?_ h7)
  cases h
  ·exact xG (by decide:1114111<6*10 ^ 6) (xA 6 (Nat.pow_le_pow_right (by decide) (xQ q)))
  ·exact xG (by decide:1114111<6*16 ^ 5) (xA 6 (Nat.pow_le_pow_right (by decide) (xQ q)))
theorem Db(h1:d≠[])(h3:∀a∈d,a∈onD h)(hb:¬ 1114111<numV (bs h) d):numV (bs h) d∈Ul h:=ak.mpr ⟨d,eT.mpr ⟨PX _ d h3 (few h3 hb),by cases d with|nil=>exact absurd rfl h1|cons _ _=>rfl⟩,rfl⟩
theorem ZBp{L}(h1:d≠[])(h2:d.length<=640)(h3:∀a∈d,a∈onD h)(hv:hdV t∈Q5 h)(A:At src (d++t) s):∃s',At src (bif smc t then t.tail else t) s' /\
  JF tT 4 93 [T0,.bool h] ⟨L,hx (.o q) s (H1 [] dn (me f) cv tb),8,P⟩=some (.str [sgV (numV (bs h) d)],⟨L,hx (.t (d.map fun a=>.str [a]) q) s' (H1 (ivQ (numV (bs h) d)++bif smc t then [] else [JL QP]) dn (me f) cv tb),9,P⟩):=by
 obtain⟨ek,c1,ea⟩:=ZDM (q:=q) (P:=P) (Q:=[]) (dn:=dn) (cv:=cv) (tb:=tb) (f:=f) h1 h2 h3 hv A;have ec:exs (JF tT 3) cnC ⟨Wt h (hdV t) (numV (bs h) d),hx (.t (d.map fun a=>.str [a]) q) ek (H1 [] dn (me f) cv tb),9,P⟩=some (.next,⟨Q8 h (hdV t) (numV (bs h) d),hx (.t (d.map fun a=>.str [a]) q) ek (H1 (ivQ (numV (bs h) d)) dn (me f) cv tb),9,P⟩):=by
  by_cases hb:1114111<numV (bs h) d
  ·exact Vi hb
  ·exact FT (Db h1 h3 hb)
 have key:∀{Lx Hx} {Vv:Vv},exs (JF tT 3) cnD ⟨Q8 h (hdV t) (numV (bs h) d),hx (.t (d.map fun a=>.str [a]) q) ek (H1 (ivQ (numV (bs h) d)) dn (me f) cv tb),9,P⟩=some (.ret Vv,⟨Lx,Hx,9,P⟩)->JF tT 4 93 [T0,.bool h] ⟨L,hx (.o q) s (H1 [] dn (me f) cv tb),8,P⟩=some (Vv,⟨L,Hx,9,P⟩):=fun {Lx Hx Vv} e=>by
  show bn (exs (JF tT 3) Xk.body ⟨[(0,T0),(199,.bool h)],hx (.o q) s (H1 [] dn (me f) cv tb),8,P⟩) _=_;rw[ZBr,Jl ea,Jl ec,e];rfl
 cases t with
 |nil=>
  refine⟨ek,c1.a,?_⟩;show _=some (_,(⟨L,hx _ ek (H1 (ivQ (numV (bs h) d)++[JL QP]) dn (me f) cv tb),9,P⟩:St));exact key (TN (.inl ⟨rfl,rfl⟩) IK Ka)
 |cons a t=>
  cases e:Nat.beq a 59 with
  |true=>
   cases aa e;refine⟨ek,c1.a,?_⟩;show _=some (_,(⟨L,hx _ ek (H1 (ivQ (numV (bs h) d)++[]) dn (me f) cv tb),9,P⟩:St));rw[aQ];exact key Vh
  |false=>
   obtain⟨em,hu,A2⟩:=c1.u;refine⟨em,?_,?_⟩
   ·show At src (bif Nat.beq a 59 then t else a::t) em
    rw[e];exact A2
   ·show _=some (_,(⟨L,hx _ em (H1 (ivQ (numV (bs h) d)++bif Nat.beq a 59 then [] else [JL QP]) dn (me f) cv tb),9,P⟩:St))
    rw[e];exact key (TN (.inr ⟨a,fun q=>absurd (q▸e:Nat.beq 59 59=false) (by decide),rfl⟩) IK hu)
end
inductive Tok4 where
 |ch (x:LN)
 |sp (x:LN)
 |er (n:LN)
 |iv (v:Nat)
 |tg (n:LN) (ws:List LN) (sc:Bool)
inductive It where
 |c (n:Nat)
 |e (n:LN)
 |v (v:Nat)
 |g (n:LN) (ws:List LN) (sc:Bool)
def Jp(n:LN)(ws:List LN)(sc:Bool):Vv:=.dict Yd [.int 4,.str n,.list (ws.map att),.bool sc]
def Tok4.v:Tok4->Vv
 |.ch x=>JN x
 |.sp x=>WH x
 |.er n=>JL n
 |.iv v=>tIv v
 |.tg n ws sc=>Jp n ws sc
abbrev vs(l:List Tok4):List Vv:=l.map Tok4.v
structure Rf where
 k:Nat
 m:Nat
 e:List Tok4
 o:LN
noncomputable def Rf.x(F:Rf)(r:LN):LN:=F.o++(r.take F.m).drop F.k
def Rf.tk(F:Rf)(r:LN):List Tok4:=F.e++[bif F.x r==[10] then .sp (F.x r) else .ch (F.x r)]
noncomputable def r0:Rf:=⟨0,0,[],[38]⟩
structure Rw where
 w:LN
 k:Nat
 s:Nat
 e:List Tok4
def rwN:Rw:=⟨[],0,38,[.er Wq]⟩
def rws:List Rw:=[⟨[110,111,116,105,110,59],6,8713,[]⟩,⟨[110,111,116,105,110],3,172,[.er Xe]⟩,⟨[110,111,116,110],3,172,[.er Xe]⟩,⟨[110,111,116,105],3,172,[.er Xe]⟩,⟨[110,111,116,59],4,172,[]⟩,⟨[110,111,116],3,172,[.er Xe]⟩,⟨[97,109,112,59],4,38,[]⟩,⟨[97,109,112],3,38,[.er Xe]⟩,⟨[108,116,59],3,60,[]⟩,⟨[108,116],2,60,[.er Xe]⟩,rwN]
def rw?(r:LN):Rw:=(rws.find? fun z=>z.w.isPrefixOf r).getD rwN
noncomputable def nxt(w:LN):LN:=bif w==[] then [69,97,101,108,110,112,116] else bif w==[110,111,116] then [59,105,110] else bif w==[110,111,116,105] then [110] else bif w==[110,111,116,110] then [105] else bif w.contains 59 then [] else [59]
noncomputable def hdN(l t:LN):Bool:=match t with
 |[]=>true
 |a::_=>!(l.contains a)
def rfN(r:LN):Rf:=⟨(rw? r).k,(rw? r).w.length,(rw? r).e,[(rw? r).s]⟩
def okN(r:LN):Bool:=hdN (nxt (rw? r).w) (r.drop (rw? r).w.length)
def dgs(h:Bool)(w:LN):LN:=w.takeWhile (dg (bs h))
def ivT(v:Nat):List Tok4:=bif ilv v then [.iv v] else []
def Xb(h:Bool)(pre w d t:LN):Rf:=bif d.isEmpty then ⟨pre.length-1,pre.length-1,[.er QX],pre⟩ else
 ⟨pre.length-1+d.length+bif smc t then 1 else 0,pre.length-1+d.length+bif smc t then 1 else 0,ivT (numV (bs h) d)++bif smc t then [] else [.er QP],[sgV (numV (bs h) d)]⟩
def num(h:Bool)(pre w:LN):Rf:=Xb h pre w (dgs h w) (w.drop (dgs h w).length)
noncomputable def hd1(a:Nat):LN->Bool
 |[]=>false
 |b::_=>Nat.beq b a
noncomputable def Jy(a:Nat):Bool:=Nat.beq a 32||(Nat.beq a 60||Nat.beq a 38)
def rf:LN->Rf
 |[]=>r0
 |a::w=>bif Jy a then r0 else bif Nat.beq a 35 then bif hd1 120 w then num true [38,35,120] w.tail else num false [38,35] w else rfN (a::w)
def okR:LN->Bool
 |[]=>true
 |a::w=>Jy a||bif Nat.beq a 35 then !(hd1 120 w)||hdN [69,101] (w.tail.drop (dgs true w.tail).length) else okN (a::w)
noncomputable def ceT:ME:=.cmp .isn (.sub (.loc 56) (.neg (.k (.int 1)))) (.glob .none)
noncomputable def WN:List MS:=[.iff (.not (.fmc (.glob (.fn 0)) 141 55 [(.sm .join (.k (.str [])) [(.loc 56)])])) [.brk] [],.ex (.app (.loc 56) (.mcall (.attr (.loc 0) 20 3) 27 1 10 []))]
def QA:List (Nat×Vv):=[(0,T0),(138,.none),(139,.bool false),(140,.str [38])]
def Jb:List (Nat×Vv):=QA++[(56,.obj (.t 7))]
noncomputable def stk(q:LN):List Vv:=q.map fun a=>.str [a]
def onW:List LN:=(rws.flatMap fun z=>(List.range z.w.length).map fun i=>z.w.take (i+1))
def ofW:List (List Nat×Nat):=rws.flatMap fun z=>(al.filter fun a=>!((nxt z.w).contains a)).map fun a=>(z.w,a)
section
variable{src r t d:LN}{s:Sx}{h:Bool}{v:Vv}{P:LN}{a n nx:Nat}{C:Ora}
variable{Q dn:List Vv}{cv:Vv}{tb:Option LN}{f:Nat}
theorem ZBw:∀w∈onW,tst (JF tT 4) ceT ⟨Jb,hx (.o (stk w)) s (H1 [] dn (me f) cv tb),8,P⟩=some (true,⟨Jb,hx (.o (stk w)) s (H1 [] dn (me f) cv tb),8,P⟩):=JD (by kernel_rfl)
theorem Vl:∀w∈onW,(fw 9 (exsK false (JF tT 4) WN ⟨Jb,hx (.o (stk w)) s (H1 [] dn (me f) cv tb),8,P⟩ .done)).gc=JF tT 4 10 [T1] ⟨Jb,hx (.o (stk w)) s (H1 [] dn (me f) cv tb),8,P⟩:=JD (by kernel_rfl)
theorem ZBx:∀z∈ofW,tst (JF tT 4) ceT ⟨Jb,hx (.o (stk (z.1++[z.2]))) s (H1 [] dn (me f) cv tb),8,P⟩=some (true,⟨Jb,hx (.o (stk (z.1++[z.2]))) s (H1 [] dn (me f) cv tb),8,P⟩):=JD (by kernel_rfl)
theorem Vm:∀z∈ofW,exs (JF tT 4) WN ⟨Jb,hx (.o (stk (z.1++[z.2]))) s (H1 [] dn (me f) cv tb),8,P⟩=some (.brk,⟨Jb,hx (.o (stk (z.1++[z.2]))) s (H1 [] dn (me f) cv tb),8,P⟩):=JD (by kernel_rfl)
theorem Vn:∀z∈rws,tst (JF tT 4) ceT ⟨Jb,hx (.o (stk z.w++[.none])) s (H1 [] dn (me f) cv tb),8,P⟩=some (false,⟨Jb,hx (.o (stk z.w++[.none])) s (H1 [] dn (me f) cv tb),8,P⟩):=JD (by kernel_rfl)
noncomputable def pth:LN->LN->Bool
 |[]=>fun J=>true
 |a::u=>fun q=>onW.contains (q++[a])&&pth u (q++[a])
theorem LT:∀z∈rws,pth z.w []=true:=JD (by kernel_rfl)
theorem CH{t b n U U1a U2a}(ht:t U=some (true,U1a))(hb:b U1a=some (.brk,U2a)):Jh t b (n+1) U=some (.next,U2a):=by
 show bn (t U) _=_;rw[ht];show bn (b U1a) _=_;rw[hb];rfl
theorem Dh(q a):stk q++[.str [a]]=stk (q++[a]):=(bH (f:=fun a=>Vv.str [a]) (l₁:=q) (l₂:=[a])).symm
theorem Mp{z}(hz:z∈rws)(ho:∀a t',t=a::t'->(z.w,a)∈ofW):∀(u q:LN) (s:Sx) (n:Nat),pth u q=true->q++u=z.w->Cur src (u++t) s->u.length<n->∃s',Cur src t s' /\
  Jh (tst (JF tT 4) ceT) (exs (JF tT 4) WN) n ⟨Jb,hx (.o (stk q++[hdV (u++t)])) s (H1 [] dn (me f) cv tb),8,P⟩=some (.next,⟨Jb,hx (.o (stk z.w++[hdV t])) s' (H1 [] dn (me f) cv tb),8,P⟩):=by
 intro u;induction u with
 |nil=>
  intro q s n _ hq A hn;cases n with
  |zero=>exact absurd hn (xS _)
  |succ n=>
   refine⟨s,A,?_⟩;rw[aQ] at hq;rw[hq];cases t with
   |nil=>exact Uv (Vn z hz)
   |cons a t=>
    show Jh _ _ _ ⟨Jb,hx (.o (stk z.w++[.str [a]])) s (H1 [] dn (me f) cv tb),8,P⟩=some (.next,⟨Jb,hx (.o (stk z.w++[.str [a]])) s (H1 [] dn (me f) cv tb),8,P⟩)
    rw[Dh];exact CH (ZBx (z.w,a) (ho a t rfl)) (Vm (z.w,a) (ho a t rfl))
 |cons a u ih=>
  intro q s n hp hq A hn;cases n with
  |zero=>exact absurd hn (xJ _)
  |succ n=>
   refine bA hp fun hp1 hp2=>?_
   have hw:q++[a]∈onW:=dM.mp hp1;obtain⟨ek,h1,h2⟩:=A.a.rd;obtain⟨em,h3,h4⟩:=ih (q++[a]) ek n hp2 ((aT ..).trans hq) h2 (xH hn);refine⟨em,h3,?_⟩;show Jh _ _ _ ⟨Jb,hx (.o (stk q++[.str [a]])) s (H1 [] dn (me f) cv tb),8,P⟩=_;rw[Dh];refine W3 (U2a:=⟨Jb,hx (.o (stk (q++[a])++[hdV (u++t)])) ek (H1 [] dn (me f) cv tb),8,P⟩) (ZBw _ hw) (JB.exs ?_) h4;have e2:∀w∈onW,(fw 4 ((fw 9 (exsK false (JF tT 4) WN ⟨Jb,hx (.o (stk w)) s (H1 [] dn (me f) cv tb),8,P⟩ .done)).oc (hdV (u++t)) ⟨Jb,hx (.o (stk w)) ek (H1 [] dn (me f) cv tb),8,P⟩)).out Wv=some (.next,⟨Jb,hx (.o (stk w++[hdV (u++t)])) ek (H1 [] dn (me f) cv tb),8,P⟩):=JD (by kernel_rfl)
   exact .c 9 (h1 (n:=1) (x:=.o (stk (q++[a])))) (.done 4 (e2 _ hw)) (Vl _ hw)
def ceR(x:Xs)(nx:Nat)(s':Sx)(Q dn:List Vv)(f:Nat)(cv:Vv)(tb:Option LN)(P:LN):Vv×List (Id×Ob)×Nat×LN:=(.none,hx x s' (H1 Q dn (me f) cv tb),nx,P)
def ceS(s:Sx)(dn:List Vv)(f:Nat)(cv:Vv)(tb:Option LN)(P:LN):Rz:=ZV false tT 4 57 [T0] ⟨[(0,T0)],hx .n s (H1 [] dn (me f) cv tb),7,P⟩
theorem ZB0{s' em}(hr:RdX (.str [a]) s s')(hu:UnX (.str [a]) s' em)(ha:a=32\/a=60\/a=38):JB (ceS s dn f cv tb P) J8 (ceR (.o [.str [a]]) 8 em [JN [38]] dn f cv tb P):=by
 have hr:=hr (n:=1) (x:=.n) (L:=QA) (H:=H1 [] dn (me f) cv tb) (nx:=7) (P:=P);have hu:=hu (n:=1) (x:=.o [.str [a]]) (L:=Jb) (H:=H1 [] dn (me f) cv tb) (nx:=8) (P:=P);rcases ha with rfl|rfl|rfl
 ·exact .c 4 hr (.c 10 hu (.done 14))
 ·exact .c 4 hr (.c 13 hu (.done 14))
 ·exact .c 4 hr (.c 13 hu (.done 14))
theorem ZB1{s'}(hr:RdX .none s s'):JB (ceS s dn f cv tb P) J8 (ceR (.o [.none]) 8 s' [JN [38]] dn f cv tb P):=by
 have hr:=hr (n:=1) (x:=.n) (L:=QA) (H:=H1 [] dn (me f) cv tb) (nx:=7) (P:=P);exact .c 4 hr (.done 28)
def rwM:List Rw:=rws.take 10
noncomputable def nSt(z:Rw):Nat:=bif z.e.isEmpty then 17 else 27
def BF(z:Rw):List (Nat×Vv):=[(0,T0),(138,.none),(139,.bool false),(140,.str [z.s]),(56,.obj (.t 7)),(142,.str (z.w.take z.k)),(144,.int z.k)]
theorem ZDN{z s' em fO}(hz:z∈rwM)(hr:RdX (hdV (z.w++t)) s s')(hw:Jh (tst (JF tT 4) ceT) (exs (JF tT 4) WN) J2 ⟨Jb,hx (.o (stk []++[hdV (z.w++t)])) s' (H1 [] dn (me f) cv tb),8,P⟩=some (.next,⟨Jb,hx (.o (stk z.w++[hdV t])) em (H1 [] dn (me f) cv tb),8,P⟩))(hu:UnX (hdV t) em fO):JB (ceS s dn f cv tb P) J8 (ceR (.o (stk z.w)) 8 fO (vs z.e++[JN (z.s::z.w.drop z.k)]) dn f cv tb P):=by
 have hr:=hr (n:=1) (x:=.n) (L:=QA) (H:=H1 [] dn (me f) cv tb) (nx:=7) (P:=P);have hu:=hu (n:=1) (x:=.o (stk z.w)) (L:=BF z) (H:=H1 (vs z.e) dn (me f) cv tb) (nx:=8) (P:=P);generalize hdV t=c at hw hu;have e1:∀z∈rwM,(fw 13 ((fw 4 (ceS s dn f cv tb P)).oc (hdV (z.w++t)) ⟨QA,hx .n s' (H1 [] dn (me f) cv tb),7,P⟩)).gf=Jh (tst (JF tT 4) ceT) (exs (JF tT 4) WN) J2 ⟨Jb,hx (.o (stk []++[hdV (z.w++t)])) s' (H1 [] dn (me f) cv tb),8,P⟩:=JD (by kernel_rfl)
 have e2:∀z∈rwM,(fw (nSt z) ((fw 13 ((fw 4 (ceS s dn f cv tb P)).oc (hdV (z.w++t)) ⟨QA,hx .n s' (H1 [] dn (me f) cv tb),7,P⟩)).of .next ⟨Jb,hx (.o (stk z.w++[c])) em (H1 [] dn (me f) cv tb),8,P⟩)).gc=JF tT 4 17 [T1,c] ⟨BF z,hx (.o (stk z.w)) em (H1 (vs z.e) dn (me f) cv tb),8,P⟩:=JD (by kernel_rfl)
 have e3:∀z∈rwM,(fw 17 ((fw (nSt z) ((fw 13 ((fw 4 (ceS s dn f cv tb P)).oc (hdV (z.w++t)) ⟨QA,hx .n s' (H1 [] dn (me f) cv tb),7,P⟩)).of .next ⟨Jb,hx (.o (stk z.w++[c])) em (H1 [] dn (me f) cv tb),8,P⟩)).oc .none ⟨BF z,hx (.o (stk z.w)) fO (H1 (vs z.e) dn (me f) cv tb),8,P⟩)).out J8=some (ceR (.o (stk z.w)) 8 fO (vs z.e++[JN (z.s::z.w.drop z.k)]) dn f cv tb P):=JD (by kernel_rfl)
 exact .c 4 hr (.fl 13 hw (.c (nSt z) hu (.done 17 (e3 z hz)) (e2 z hz)) (e1 z hz)) 
noncomputable def ofN:LN:=[0,47,54,59,62,73,76,84,105,109,111,120]
theorem ZDO{s' em fO c}(ha:a∈ofN)(hr:RdX (.str [a]) s s')(hw:Jh (tst (JF tT 4) ceT) (exs (JF tT 4) WN) J2 ⟨Jb,hx (.o [.str [a]]) s' (H1 [] dn (me f) cv tb),8,[99]⟩=some (.next,⟨Jb,hx (.o [c]) em (H1 [] dn (me f) cv tb),8,[99]⟩))(hu:UnX c em fO):JB (ceS s dn f cv tb [99]) J8 (ceR (.o []) 8 fO [JL Wq,JN [38]] dn f cv tb [99]):=by
 have hr:=hr (n:=1) (x:=.n) (L:=QA) (H:=H1 [] dn (me f) cv tb) (nx:=7) (P:=[99]);have hu:=hu (n:=1) (x:=.o []) (L:=Jb++[(142,.none)]) (H:=H1 [JL Wq] dn (me f) cv tb) (nx:=8) (P:=[99]);have e1:∀a∈ofN,(fw 13 ((fw 4 (ceS s dn f cv tb [99])).oc (.str [a]) ⟨QA,hx .n s' (H1 [] dn (me f) cv tb),7,[99]⟩)).gf=Jh (tst (JF tT 4) ceT) (exs (JF tT 4) WN) J2 ⟨Jb,hx (.o [.str [a]]) s' (H1 [] dn (me f) cv tb),8,[99]⟩:=JD (by kernel_rfl)
 have e2:∀a∈ofN,(fw 18 ((fw 13 ((fw 4 (ceS s dn f cv tb [99])).oc (.str [a]) ⟨QA,hx .n s' (H1 [] dn (me f) cv tb),7,[99]⟩)).of .next ⟨Jb,hx (.o [c]) em (H1 [] dn (me f) cv tb),8,[99]⟩)).gc=JF tT 4 17 [T1,c] ⟨Jb++[(142,.none)],hx (.o []) em (H1 [JL Wq] dn (me f) cv tb),8,[99]⟩:=JD (by kernel_rfl)
 have e3:∀a∈ofN,(fw 16 ((fw 18 ((fw 13 ((fw 4 (ceS s dn f cv tb [99])).oc (.str [a]) ⟨QA,hx .n s' (H1 [] dn (me f) cv tb),7,[99]⟩)).of .next ⟨Jb,hx (.o [c]) em (H1 [] dn (me f) cv tb),8,[99]⟩)).oc .none ⟨Jb++[(142,.none)],hx (.o []) fO (H1 [JL Wq] dn (me f) cv tb),8,[99]⟩)).out J8=some (ceR (.o []) 8 fO [JL Wq,JN [38]] dn f cv tb [99]):=JD (by kernel_rfl)
 exact .c 4 hr (.fl 13 hw (.c 18 hu (.done 16 (e3 a ha)) (e2 a ha)) (e1 a ha))
end
section
variable{src r t d:LN}{s:Sx}{h:Bool}{v:Vv}{P:LN}{a n nx:Nat}{C:Ora}{p q:List Vv}
variable{Q dn:List Vv}{cv:Vv}{tb:Option LN}{f g:Nat}
def Jn(h:Bool):List (Nat×Vv):=Jb++[(204,.bool h)]
def tkG(b:Bool)(g:Nat):Vv:=bif b then WH [g] else JN [g]
theorem ZDQ{b ek em fO s4a}(hr:RdX (.str [35]) s ek)(ha:a∈onD false)(hq:RdX (.str [a]) ek em)(hu:UnX (.str [a]) em fO)(hl:Q.length<=9)
  (hc:JF tT 4 93 [T0,.bool false] ⟨Jn false,hx (.o (stk [35,a])) fO (H1 [] dn (me f) cv tb),8,P⟩=some (.str [g],⟨Jn false,hx (.t p (stk [35,a])) s4a (H1 Q dn (me f) cv tb),9,P⟩)) (hb:Qn σ0 (.str [g]) J7=some b):JB (ceS s dn f cv tb P) J8 (ceR (.t p (stk [35,a])) 9 s4a (Q++[tkG b g]) dn f cv tb P):=by
 have hr:=hr (n:=1) (x:=.n) (L:=QA) (H:=H1 [] dn (me f) cv tb) (nx:=7) (P:=P);have hq:=hq (n:=1) (x:=.o [.str [35]]) (L:=Jn false) (H:=H1 [] dn (me f) cv tb) (nx:=8) (P:=P);have hu:=hu (n:=1) (x:=.o (stk [35,a])) (L:=Jn false) (H:=H1 [] dn (me f) cv tb) (nx:=8) (P:=P);have g1:Nat.ble Q.length JC=true:=ble (qA hl (by decide))
 cases ha with
 |tail _ h=>exact nomatch h
 |head=>
  unfold ceS;cases tb<;>cases b<;>exact .c 4 hr (.c 18 hq (.c 18 hu (.c 3 hc (.b 1 hb (.g 8 g1 (.done 2))))))
theorem ZDP{b ek em fO s4a s5a}(hr:RdX (.str [35]) s ek)(hq:RdX (.str [120]) ek em)(ha:a∈onD true)(hp:RdX (.str [a]) em fO)(hu:UnX (.str [a]) fO s4a)(hl:Q.length<=9)
  (hc:JF tT 4 93 [T0,.bool true] ⟨Jn true,hx (.o (stk [35,120,a])) s4a (H1 [] dn (me f) cv tb),8,P⟩=some (.str [g],⟨Jn true,hx (.t p (stk [35,120,a])) s5a (H1 Q dn (me f) cv tb),9,P⟩)) (hb:Qn σ0 (.str [g]) J7=some b):JB (ceS s dn f cv tb P) J8 (ceR (.t p (stk [35,120,a])) 9 s5a (Q++[tkG b g]) dn f cv tb P):=by
 have hr:=hr (n:=1) (x:=.n) (L:=QA) (H:=H1 [] dn (me f) cv tb) (nx:=7) (P:=P);have hq:=hq (n:=1) (x:=.o [.str [35]]) (L:=Jn false) (H:=H1 [] dn (me f) cv tb) (nx:=8) (P:=P);have hp:=hp (n:=1) (x:=.o [.str [35],.str [120]]) (L:=Jn true) (H:=H1 [] dn (me f) cv tb) (nx:=8) (P:=P);have hu:=hu (n:=1) (x:=.o (stk [35,120,a])) (L:=Jn true) (H:=H1 [] dn (me f) cv tb) (nx:=8) (P:=P);have g1:Nat.ble Q.length JC=true:=ble (qA hl (by decide))
 unfold ceS;rcases aZ.mp ha with rfl|ha
 ·cases tb<;>cases b<;>exact .c 4 hr (.c 18 hq (.c 11 hp (.c 13 hu (.c 3 hc (.b 1 hb (.g 8 g1 (.done 2)))))))
 ·cases ae.mp ha
  cases tb<;>cases b<;>exact .c 4 hr (.c 18 hq (.c 11 hp (.c 13 hu (.c 3 hc (.b 1 hb (.g 8 g1 (.done 2)))))))
def KE:List Vv:=.none::(vC.map fun a=>.str [a])
theorem ZBz{ek em fO}(hr:RdX (.str [35]) s ek)(hv:v∈KE)(hq:RdX v ek em)(hu:UnX v em fO):JB (ceS s dn f cv tb P) J8 (ceR (.o (stk [35])) 8 fO [JL QX,JN [38,35]] dn f cv tb P):=by
 have hr:=hr (n:=1) (x:=.n) (L:=QA) (H:=H1 [] dn (me f) cv tb) (nx:=7) (P:=P);have hq:=hq (n:=1) (x:=.o [.str [35]]) (L:=Jn false) (H:=H1 [] dn (me f) cv tb) (nx:=8) (P:=P);have hu:=hu (n:=1) (x:=.o [.str [35]]) (L:=Jn false) (H:=H1 [JL QX] dn (me f) cv tb) (nx:=8) (P:=P);have e1:∀v∈KE,(fw 28 ((fw 18 ((fw 4 (ceS s dn f cv tb P)).oc (.str [35]) ⟨QA,hx .n ek (H1 [] dn (me f) cv tb),7,P⟩)).oc v ⟨Jn false,hx (.o [.str [35]]) em (H1 [] dn (me f) cv tb),8,P⟩)).gc=JF tT 4 17 [T1,v] ⟨Jn false,hx (.o [.str [35]]) em (H1 [JL QX] dn (me f) cv tb),8,P⟩:=by cases tb<;>exact JD (by kernel_rfl)
 have e2:∀v∈KE,(fw 16 ((fw 28 ((fw 18 ((fw 4 (ceS s dn f cv tb P)).oc (.str [35]) ⟨QA,hx .n ek (H1 [] dn (me f) cv tb),7,P⟩)).oc v ⟨Jn false,hx (.o [.str [35]]) em (H1 [] dn (me f) cv tb),8,P⟩)).oc .none ⟨Jn false,hx (.o [.str [35]]) fO (H1 [JL QX] dn (me f) cv tb),8,P⟩)).out J8=some (ceR (.o (stk [35])) 8 fO [JL QX,JN [38,35]] dn f cv tb P):=by cases tb<;>exact JD (by kernel_rfl)
 exact .c 4 hr (.c 18 hq (.c 28 hu (.done 16 (e2 v hv)) (e1 v hv)))
theorem ZBy{ek em fO s4a}(hr:RdX (.str [35]) s ek)(hq:RdX (.str [120]) ek em)(hv:v∈Q5 true)(hp:RdX v em fO)(hu:UnX v fO s4a):JB (ceS s dn f cv tb P) J8 (ceR (.o (stk [35,120])) 8 s4a [JL QX,JN [38,35,120]] dn f cv tb P):=by
 have hr:=hr (n:=1) (x:=.n) (L:=QA) (H:=H1 [] dn (me f) cv tb) (nx:=7) (P:=P);have hq:=hq (n:=1) (x:=.o [.str [35]]) (L:=Jn false) (H:=H1 [] dn (me f) cv tb) (nx:=8) (P:=P);have hp:=hp (n:=1) (x:=.o [.str [35],.str [120]]) (L:=Jn true) (H:=H1 [] dn (me f) cv tb) (nx:=8) (P:=P);have hu:=hu (n:=1) (x:=.o [.str [35],.str [120]]) (L:=Jn true) (H:=H1 [JL QX] dn (me f) cv tb) (nx:=8) (P:=P);have e1:∀v∈Q5 true,(fw 25 ((fw 11 ((fw 18 ((fw 4 (ceS s dn f cv tb P)).oc (.str [35]) ⟨QA,hx .n ek (H1 [] dn (me f) cv tb),7,P⟩)).oc (.str [120]) ⟨Jn false,hx (.o [.str [35]]) em (H1 [] dn (me f) cv tb),8,P⟩)).oc v ⟨Jn true,hx (.o [.str [35],.str [120]]) fO (H1 [] dn (me f) cv tb),8,P⟩)).gc=JF tT 4 17 [T1,v] ⟨Jn true,hx (.o [.str [35],.str [120]]) fO (H1 [JL QX] dn (me f) cv tb),8,P⟩:=by cases tb<;>exact JD (by kernel_rfl)
 have e2:∀v∈Q5 true,(fw 16 ((fw 25 ((fw 11 ((fw 18 ((fw 4 (ceS s dn f cv tb P)).oc (.str [35]) ⟨QA,hx .n ek (H1 [] dn (me f) cv tb),7,P⟩)).oc (.str [120]) ⟨Jn false,hx (.o [.str [35]]) em (H1 [] dn (me f) cv tb),8,P⟩)).oc v ⟨Jn true,hx (.o [.str [35],.str [120]]) fO (H1 [] dn (me f) cv tb),8,P⟩)).oc .none ⟨Jn true,hx (.o [.str [35],.str [120]]) s4a (H1 [JL QX] dn (me f) cv tb),8,P⟩)).out J8=some (ceR (.o (stk [35,120])) 8 s4a [JL QX,JN [38,35,120]] dn f cv tb P):=by cases tb<;>exact JD (by kernel_rfl)
 exact .c 4 hr (.c 18 hq (.c 11 hp (.c 25 hu (.done 16 (e2 v hv)) (e1 v hv))))
theorem Jr{α:Type}[BEq α][LawfulBEq α]{l:List α}{a}(h:l.any (·==a)=true):a∈l:=by
 obtain⟨x,hx,e⟩:=cg.mp h;exact aV.mp e▸hx
theorem Xz{p}(l:LN):∀a∈l.takeWhile p,p a=true:=aq.mp List.all_takeWhile
theorem ZAV(h3:∀a∈d,a∈onD h)(h1:d≠[]):Qn σ0 (.str [sgV (numV (bs h) d)]) J7=some ([sgV (numV (bs h) d)]==[10]):=by
 have e0:∀k∈Ul false,Qn σ0 (.str [sgV k]) J7=some ([sgV k]==[10]):=JD (by kernel_rfl)
 have e1:∀k∈Ul true,Qn σ0 (.str [sgV k]) J7=some ([sgV k]==[10]):=JD (by kernel_rfl)
 by_cases hb:1114111<numV (bs h) d
 ·have hb:Nat.blt 1114111 (numV (bs h) d)=true:=ble hb
  have e:sgV (numV (bs h) d)=65533:=by unfold sgV;rw[hb];rfl
  rw[e];kernel_rfl
 ·have hm:numV (bs h) d∈Ul h:=Db h1 h3 hb
  cases h
  ·exact e0 _ hm
  ·exact e1 _ hm
theorem ZBF{k z}:vs (ivT k++bif z then [] else [.er QP])=ivQ k++bif z then [] else [JL QP]:=by
 unfold ivT ivQ;cases ilv k<;>cases z<;>rfl
theorem HX:∀a∈dgs h d,a∈onD h:=fun a ha=>by
 have hd:=Xz (p:=dg (bs h)) d a ha;refine WD (P:=fun a=>a∈onD h) hd ?_ fun e=>?_
 ·cases h<;>exact .head _
 ·cases h
  ·exact absurd e (by decide)
  ·exact .tail _ (.head _)
theorem Dc{p b}:∀{l u:LN},l.drop (l.takeWhile p).length=b::u->p b=false:=by
 intro l;induction l with
 |nil=>exact fun e=>nomatch e
 |cons a l ih=>
  intro u e;rw[aw] at e;cases ha:p a with
  |true=>rw[ha] at e;exact ih e
  |false=>rw[ha] at e;cases e;exact ha
theorem V2:∀a∈al,(dg 10 a||((wY:LN).any (·==a)))=true:=JD (by kernel_rfl)
theorem V1:∀a∈al,(dg 16 a||((([69,101]:LN).contains a)||((vF:LN).any (·==a))))=true:=JD (by kernel_rfl)
theorem PB(hal:∀a∈d,a∈al)(hx:h=true->hdN [69,101] (d.drop (dgs true d).length)=true):hdV (d.drop (dgs h d).length)∈Q5 h:=by
 cases e:d.drop (dgs h d).length with
 |nil=>exact .head _
 |cons b u=>
  have hb:=hal b (bF (e▸List.Mem.head _:b∈d.drop (dgs h d).length));have hf:=Dc (p:=dg (bs h)) e;cases h
  ·have k:=V2 b hb
   rw[show dg 10 b=false from hf] at k;exact .tail _ (ak.mpr ⟨b,Jr k,rfl⟩)
  ·have k:=V1 b hb
   have hx:=hx rfl;rw[e] at hx;have hx:([69,101]:LN).contains b=false:=(cR _).mp hx;rw[show dg 16 b=false from hf,hx] at k;exact .tail _ (ak.mpr ⟨b,Jr k,rfl⟩)
def Xj(src:LN)(r:LN)(F:Rf)(s:Sx)(dn:List Vv)(f:Nat)(cv:Vv)(tb:Option LN):Prop:=∃x nx s',At src (r.drop F.m) s'/\JB (ceS s dn f cv tb [99]) J8 (ceR x nx s' (vs (F.tk r)) dn f cv tb [99])
theorem Wb:rw? r∈rws/\∃t,r=(rw? r).w++t:=by
 unfold rw?;cases e:rws.find? fun z=>z.w.isPrefixOf r with
 |none=>exact⟨List.mem_of_getLast? rfl,r,rfl⟩
 |some z=>
  obtain⟨t,ht⟩:=List.isPrefixOf_iff_prefix.mp (List.find?_some (p:=fun z:Rw=>z.w.isPrefixOf r) e)
  exact⟨eE e,t,ht.symm⟩
theorem Do:∀z∈rws,z∈rwM\/z=rwN:=fun z hz=>bY.mp (hz:z∈rwM++[rwN])|>.imp id ae.mp
theorem ZCo:∀z∈rws,(z.s::z.w.drop z.k==[10])=false:=JD (by kernel_rfl)
theorem H9:∀z∈rws,∀a∈al,(nxt z.w).contains a=false->(z.w,a)∈ofW:=fun z hz a ha h=>eP.mpr ⟨z,hz,ak.mpr ⟨a,eT.mpr ⟨ha,by rw[h];rfl⟩,rfl⟩⟩
theorem Rm:∀a∈al,(Jy a||(Nat.beq a 35||((nxt []).contains a||ofN.any (·==a))))=true:=JD (by kernel_rfl)
theorem PK(A:At src (a::r) s)(h3:Jy a=false)(h35:Nat.beq a 35=false)(fL:okN (a::r)=true)(hal:∀x∈a::r,x∈al):Xj src (a::r) (rfN (a::r)) s dn f cv tb:=by
 obtain⟨hz,t,ht⟩:=Wb (r:=a::r);unfold okN at fL;unfold rfN Xj;revert fL hz ht;generalize rw? (a::r)=z;intro fL hz ht;have hd:(a::r).drop z.w.length=t:=by rw[ht,cG]
 rw[hd] at fL;have ho:∀b t',t=b::t'->(z.w,b)∈ofW:=fun b t' e=>by
  subst e;exact H9 z hz b (hal b (ht▸cV _ (.head _))) ((cR _).mp fL)
 have A':At src (z.w++t) s:=ht▸A;obtain⟨ek,hr,c1⟩:=A'.rd;obtain⟨em,c2,hw⟩:=Mp (dn:=dn) (cv:=cv) (tb:=tb) (f:=f) (P:=[99]) (src:=src) hz ho z.w [] ek J2 (LT z hz) rfl c1 (by
  have e:∀z∈rws,Nat.blt z.w.length J2=true:=JD (by kernel_rfl)
  exact qE (e z hz))
 obtain⟨fO,hu,c3⟩:=c2.u;have hx:Rf.x ⟨z.k,z.w.length,z.e,[z.s]⟩ (a::r)=z.s::z.w.drop z.k:=by
  show [z.s]++((a::r).take z.w.length).drop z.k=_;rw[ht,dm];rfl
 have htk:vs (Rf.tk ⟨z.k,z.w.length,z.e,[z.s]⟩ (a::r))=vs z.e++[JN (z.s::z.w.drop z.k)]:=by
  unfold Rf.tk;rw[hx,ZCo z hz];exact bH
 rw[htk];rcases Do z hz with hm|rfl
 ·exact⟨.o (stk z.w),8,fO,hd.symm▸c3,ZDN hm hr hw hu⟩
 ·cases (ht:a::r=t)
  have k:=Rm a (hal a (.head _));have hn:(nxt []).contains a=false:=(cR _).mp fL;rw[h3,h35,hn] at k;exact⟨.o [],8,fO,c3,ZDO (Jr k) hr hw hu⟩
theorem ZAw{w d t:LN}{z:Bool}:(d++t).drop (d.length+bif smc t then 1 else 0)=bif smc t then t.tail else t:=by
 rw[<- a7,cG];cases smc t
 ·rfl
 ·cases t<;>rfl
theorem ZI(h w):dgs h w++w.drop (dgs h w).length=w:=cy.mp (qM _)
theorem HY:(dgs h d).length<=d.length:=(qM _).length_le
theorem Rn{k m v:Nat}{z}:vs (Rf.tk ⟨m,m,ivT v++bif z then [] else [.er QP],[sgV v]⟩ r)=(ivQ v++bif z then [] else [JL QP])++[tkG ([sgV v]==[10]) (sgV v)]:=by
 have hx:Rf.x ⟨m,m,ivT v++bif z then [] else [.er QP],[sgV v]⟩ r=[sgV v]:=by
  show [sgV v]++(r.take m).drop m=_;rw[be (List.length_take_le m r)];rfl
 unfold Rf.tk;rw[hx];refine(bH).trans ?_;rw[<- ZBF];cases [sgV v]==[10]<;>rfl
theorem Ha{pre w}(hal:∀a∈w,a∈al)(hl:w.length<=600)(hxx:h=true->hdN [69,101] (w.drop (dgs true w).length)=true)
  (hj:∀m,r.drop (pre.length-1+m)=w.drop m)
  (ko:hdV w∈Q5 h->Xj src r ⟨pre.length-1,pre.length-1,[.er QX],pre⟩ s dn f cv tb)
  (kd:∀{p g Q b} ,hdV w∈(onD h).map (fun a=>Vv.str [a])->(∀{ek q L},At src w ek->∃s',At src (w.drop ((dgs h w).length+bif smc (w.drop (dgs h w).length) then 1 else 0)) s'/\JF tT 4 93 [T0,.bool h] ⟨L,hx (.o q) ek (H1 [] dn (me f) cv tb),8,[99]⟩=some (.str [g],⟨L,hx (.t p q) s' (H1 Q dn (me f) cv tb),9,[99]⟩))->Q.length<=9->Qn σ0 (.str [g]) J7=some b->∃x nx s',At src (w.drop ((dgs h w).length+bif smc (w.drop (dgs h w).length) then 1 else 0)) s'/\JB (ceS s dn f cv tb [99]) J8 (ceR x nx s' (Q++[tkG b g]) dn f cv tb [99])):
  Xj src r (num h pre w) s dn f cv tb:=by
 have hoff:=PB (h:=h) hal hxx;have happ:=ZI h w;have hle:=HY (h:=h) (d:=w);have hon:=HX (h:=h) (d:=w);unfold num;revert hoff happ hon hle kd;generalize dgs h w=d;generalize w.drop d.length=t;intro kd hoff happ hle hon;cases d with
 |nil=>exact ko (happ▸hoff)
 |cons a d=>
  have h1:a::d≠[]:=fun q=>nomatch q
  have h2:(a::d).length<=640:=qA hle (qA hl (by decide))
  have hm:w.drop ((a::d).length+bif smc t then 1 else 0)=bif smc t then t.tail else t:=by rw[<- happ];exact ZAw (w:=w) (z:=true)
  have hv:hdV w∈(onD h).map (fun a=>Vv.str [a]):=by rw[<- happ];exact ak.mpr ⟨a,hon a (.head _),rfl⟩
  have hQ:(ivQ (numV (bs h) (a::d))++bif smc t then [] else [JL QP]).length<=9:=by
   unfold ivQ;cases ilv (numV (bs h) (a::d))<;>cases smc t<;>exact qE rfl
  obtain⟨x,nx,s',A',e⟩:=kd hv (fun {ek q L} A=>by
   obtain⟨s',A',e⟩:=ZBp (q:=q) (P:=[99]) (dn:=dn) (cv:=cv) (tb:=tb) (f:=f) (L:=L) h1 h2 hon hoff (happ.symm▸A);exact⟨s',hm.symm▸A',e⟩) hQ (ZAV hon h1)
  have hm2:r.drop (pre.length-1+(a::d).length+bif smc t then 1 else 0)=w.drop ((a::d).length+bif smc t then 1 else 0):=by rw[aX];exact hj _
  refine⟨x,nx,s',hm2.symm▸A',?_⟩;show JB _ J8 (ceR x nx s' (vs (Rf.tk ⟨_,_,ivT (numV (bs h) (a::d))++bif smc t then [] else [.er QP],[sgV (numV (bs h) (a::d))]⟩ r)) dn f cv tb [99]);rw[Rn (z:=smc t) (k:=0)];exact e
theorem YS(h:hd1 a r=true):∃w,r=a::w:=by
 cases r with
 |nil=>exact nomatch h
 |cons b w=>exact⟨w,by rw[aa (h:Nat.beq b a=true)]⟩
theorem LZ(h:hd1 120 r=false)(k:hdV r∈Q5 false):hdV r∈KE:=by
 cases r with
 |nil=>exact .head _
 |cons b w=>
  cases k with
  |tail _ k=>
   obtain⟨x,hx,e⟩:=ak.mp k;cases e;have e0:∀x∈(wY:LN),(Nat.beq x 120||(vC:LN).any (·==x))=true:=JD (by kernel_rfl)
   have e1:=e0 b hx;rw[show Nat.beq b 120=false from h] at e1;exact .tail _ (ak.mpr ⟨b,Jr e1,rfl⟩)
theorem ZBv(A:At src r s)(fL:okR r=true)(hal:∀a∈r,a∈al)(hl:r.length<=600):Xj src r (rf r) s dn f cv tb:=by
 cases r with
 |nil=>
  obtain⟨ek,hr,c1⟩:=A.rd;exact⟨.o [.none],8,ek,c1.a,ZB1 hr⟩
 |cons a w=>
  obtain⟨ek,hr,c1⟩:=A.rd;have fL:(Jy a||bif Nat.beq a 35 then !(hd1 120 w)||hdN [69,101] (w.tail.drop (dgs true w.tail).length) else okN (a::w))=true:=fL;show Xj src (a::w) (bif Jy a then r0 else bif Nat.beq a 35 then bif hd1 120 w then num true [38,35,120] w.tail else num false [38,35] w else rfN (a::w)) s dn f cv tb;cases h3:Jy a with
  |true=>
   obtain⟨em,hu,A2⟩:=c1.u;refine⟨.o [.str [a]],8,em,A2,ZB0 hr hu ?_⟩;rcases az.mp h3 with h|h
   ·exact .inl (aa h)
   rcases az.mp h with h|h
   ·exact .inr (.inl (aa h))
   ·exact .inr (.inr (aa h))
  |false=>
   rw[h3] at fL;cases h35:Nat.beq a 35 with
   |false=>
    rw[h35] at fL;exact PK A h3 h35 fL hal
   |true=>
    rw[h35] at fL;cases aa h35;have hr:RdX (.str [35]) s ek:=hr;have A1:At src w ek:=c1.a;obtain⟨em,hq,c2⟩:=A1.rd;cases hh:hd1 120 w with
    |true=>
     rw[hh] at fL;obtain⟨w,rfl⟩:=YS hh;have hq:RdX (.str [120]) ek em:=hq;have A2:At src w em:=c2.a;obtain⟨fO,hp,c3⟩:=A2.rd;obtain⟨s4a,hu,A4⟩:=c3.u;refine Ha (h:=true) (w:=w) (fun x hx=>hal x (.tail _ (.tail _ hx))) (qR (qR hl)) (fun J=>fL) (fun m=>by rw[aW];rfl) (fun hv=>⟨.o (stk [35,120]),8,s4a,A4,ZBy hr hq hv hp hu⟩) ?_
     intro p g Q b hv hc hQ hb;obtain⟨a,ha,e⟩:=ak.mp hv;obtain⟨s5a,A5,hc⟩:=hc (q:=stk [35,120,a]) (L:=Jn true) A4;exact⟨.t p (stk [35,120,a]),9,s5a,A5,ZDP hr hq ha (e▸hp) (e▸hu) hQ hc hb⟩
    |false=>
     obtain⟨fO,hu,A3⟩:=c2.u;refine Ha (h:=false) (w:=w) (fun x hx=>hal x (.tail _ hx)) (qR hl) (fun q=>nomatch q) (fun m=>by rw[aW];rfl) (fun hv=>⟨.o (stk [35]),8,fO,A3,ZBz hr (LZ hh hv) hq hu⟩) ?_
     intro p g Q b hv hc hQ hb;obtain⟨a,ha,e⟩:=ak.mp hv;obtain⟨s5a,A5,hc⟩:=hc (q:=stk [35,a]) (L:=Jn false) A3;exact⟨.t p (stk [35,a]),9,s5a,A5,ZDQ hr ha (e▸hq) (e▸hu) hQ hc hb⟩
end
end Mine.Tactic
end
noncomputable section
namespace Mine.Tactic
noncomputable def gM:GenM:=⟨.fcall (.loc 0) 42 3 [],.attr (.attr (.loc 0) 20 3) 16 1,.attr (.loc 0) 48 3,.pop (.attr (.loc 0) 48 3) [.k (.int 0)]⟩
noncomputable def Tok4.f:Tok4->List It
 |.ch x=>x.map .c
 |.sp x=>x.map .c
 |.er n=>[.e n]
 |.iv v=>[.v v]
 |.tg n ws sc=>[.g n ws sc]
noncomputable def Tok4.ok:Tok4->Bool
 |.ch x=>!x.isEmpty
 |.sp x=>!x.isEmpty
 |_=>true
def JJ(l:List Tok4):List It:=l.flatMap Tok4.f
inductive K where
 |n (cv:Vv) (tb:Option LN)
 |t (d:TG)
 |a (d:TG) (w:LN)
def SK(x:K)(q dn:List Vv)(s:Sx)(f:Nat):St:=match x with
 |.n cv tb=>S1 q dn s f cv tb
 |.t d=>S2 q dn s f d
 |.a d w=>S3 q dn s f d w
section
variable{i:Id}{n:Nat}{w:Vv}
theorem Le{l l'}:Vv.nos i (l++l')=(Vv.nos i l&&Vv.nos i l'):=by
 induction l with
 |nil=>rfl
 |cons v l ih=>exact(aM (Vv.no i v&&·) ih).trans (Bool.and_assoc ..).symm
theorem Zh:∀ws:List LN,Vv.nos i (ws.map att)=true:=fun l0=>by
 induction l0 with
 |nil=>
  exact rfl
 |cons _ ws ih=>
  exact ih
theorem ZCO:∀ws:List LN,Vv.blws n (ws.map att)=true:=fun l0=>by
 induction l0 with
 |nil=>
  exact rfl
 |cons _ ws ih=>
  exact ih
theorem ZT{a ws sc}:Vv.no i (Jp a ws sc)=true:=by
 show (Vv.nos i (ws.map att)&&true)=true;rw[Zh];rfl
theorem Hi{a ws sc}:Vv.blw n (Jp a ws sc)=true:=by
 show (Vv.blws n (ws.map att)&&true)=true;rw[ZCO];rfl
theorem J6:∀D:List Tok4,Vv.nos i (vs D)=true:=fun l0=>by
 induction l0 with
 |nil=>
  exact rfl
 |cons t D ih=>
  show (Vv.no i t.v&&Vv.nos i (vs D))=true;rw[ih];cases t<;>first|rfl|exact ag.mpr ⟨ZT,rfl⟩
theorem JO:∀D:List Tok4,Vv.blws n (vs D)=true:=fun l0=>by
 induction l0 with
 |nil=>
  exact rfl
 |cons t D ih=>
  show (Vv.blw n t.v&&Vv.blws n (vs D))=true;rw[ih];cases t<;>first|rfl|exact ag.mpr ⟨Hi,rfl⟩
theorem Vv.sb_no(v):Vv.no i v=true->Vv.sb i w v=v:=
 Vv.rec (motive_1:=fun v=>Vv.no i v=true->Vv.sb i w v=v) (motive_2:=fun l=>Vv.nos i l=true->Vv.sbs i w l=l) (fun J=>rfl) (fun J J=>rfl) (fun J J=>rfl) (fun J J=>rfl) (fun J h k=>aM Vv.tup (h k)) (fun J h k=>aM Vv.list (h k)) (fun J J h k=>aM (Vv.dict _) (h k))
  (fun J k=>aN (qH k)) (fun J J=>rfl) (fun J J h k=>aM (Vv.meth _) (h k)) (fun J J J=>rfl) (fun J=>rfl) (fun v l h1 h2 k=>bA k fun a b=>by
   show Vv.sb i w v::Vv.sbs i w l=_;rw[h1 a,h2 b]) v
theorem Vv.sbs_no:∀(l:List Vv),Vv.nos i l=true->Vv.sbs i w l=l:=fun l0=>by
 induction l0 with
 |nil=>
  exact fun J=>rfl
 |cons v l ih=>
  exact fun h=>bA h fun a b=>by
   show Vv.sb i w v::Vv.sbs i w l=_;rw[Vv.sb_no v a,ih b]
theorem Vv.sbs_app:∀{l l':List Vv},Vv.sbs i w (l++l')=Vv.sbs i w l++Vv.sbs i w l':=by
 intro l0;induction l0 with
 |nil=>
  intro _;exact rfl
 |cons v l ih=>
  intro _;exact aM (Vv.sb i w v::·) (ih)
end
section
variable{x:K}{q dn l:List Vv}{b:Bool}{U' σe:St}{v:Vv}{s:Sx}{f:Nat}{d:TG}{w:LN}{D:List Tok4}{cv:Vv}{tb:Option LN}
theorem Zo(h:Stp f (SK x q dn s f) b U'):tst CT gM.t1 (SK x q dn s f)=some (b,U'):=by
 have h:CT f [T0] (SK x q dn s f)=some (.bool b,U'):=h;refine JB.tst ?_;cases x<;>exact .c 2 h (.b 0 ((rfl:some b=some b)) (.done 1))
theorem N5:tst CT gM.t2 (SK x q dn s f)=some (false,SK x q dn s f):=by cases x<;>rfl
theorem Hm(h:q.length<=JC):tst CT gM.t3 (SK x q dn s f)=some (!q.isEmpty,SK x q dn s f):=by
 have e:bd q.length (some (!q.isEmpty))=some (!q.isEmpty):=by
  show gd (Nat.ble q.length JC) _=_;rw[ble h];rfl
 refine JB.tst ?_;cases x<;>exact .b 2 e (.done 1)
theorem ZDG(h:q.length<JC):ev CT gM.e (SK x (v::q) dn s f)=some (v,SK x q dn s f):=by
 have e:Nat.blt q.length JC=true:=ble h;refine JB.ev ?_;cases x<;>exact .g 3 e (.done 1)
theorem RY:JA (SK x q dn s f).hp (.p 99)=some (.list dn):=by cases x<;>rfl
theorem EI{dn'}:(SK x q dn s f).setOb (.p 99) (.list dn')=SK x q dn' s f:=by cases x<;>rfl
theorem ZBl:∀(q dn:List Vv),q.length<JC->GR CT gM false (SK x [] (dn++q) s f) (dn++q) l σe->GR CT gM false (SK x q dn s f) dn (q++l) σe:=fun l0=>by
 induction l0 with
 |nil=>
  exact fun dn J h=>(aQ dn)▸h
 |cons v q ih=>
  exact fun dn hq h=>.give (Hm (xF hq)) (ZDG (cP hq)) .same RY (by
   rw[EI];exact ih (dn++[v]) (cP hq) (by rw[aT];exact h))
theorem sb1(hq:Vv.nos (.p 1) q=true):(S3 q (vs D) s f d w).sb 1 (att w)=S2 q (vs D) s f ⟨d.n,d.ws++[w],d.sc,d.b⟩:=by
 have hA:Vv.sbs (.p 1) (att w) (d.ws.map att++[O1])=(d.ws++[w]).map att:=by rw[Vv.sbs_app,Vv.sbs_no _ (Zh _),bH];rfl
 show (⟨[(0,T0)],hs s ((.p 0,.dict Yd [.int 4,.str d.n,O2,.bool d.sc])::(.p 2,.list (Vv.sbs (.p 1) (att w) (d.ws.map att++[O1])))::Q7 (.p 1) (att w) (H1 q (vs D) (me f) O0 (some d.b))),7,[0,2,99]⟩:St)=_;rw[hA];show (⟨[(0,T0)],hs s ((.p 0,.dict Yd [.int 4,.str d.n,O2,.bool d.sc])::(.p 2,.list ((d.ws++[w]).map att))::H1 (Vv.sbs (.p 1) (att w) q) (Vv.sbs (.p 1) (att w) (vs D)) (me f) O0 (some d.b)),7,[0,2,99]⟩:St)=_;rw[Vv.sbs_no _ (J6 D),Vv.sbs_no _ hq];rfl
theorem sb2(hq:Vv.nos (.p 2) q=true)(hq0:Vv.nos (.p 0) q=true):((S2 (q++[O0]) (vs D) s f d).sb 2 (.list (d.ws.map att))).sb 0 (Jp d.n d.ws d.sc)=S1 (q++[Jp d.n d.ws d.sc]) (vs D) s f (Jp d.n d.ws d.sc) (some d.b):=by
 show (⟨[(0,T0)],hs s (H1 (Vv.sbs (.p 0) (Jp d.n d.ws d.sc) (Vv.sbs (.p 2) (.list (d.ws.map att)) (q++[O0]))) (Vv.sbs (.p 0) (Jp d.n d.ws d.sc) (Vv.sbs (.p 2) (.list (d.ws.map att)) (vs D))) (me f) (Jp d.n d.ws d.sc) (some d.b)),7,[99]⟩:St)=_;rw[Vv.sbs_no _ (J6 D),Vv.sbs_no _ (J6 D),Vv.sbs_app,Vv.sbs_no _ hq,show Vv.sbs (.p 2) (.list (d.ws.map att)) [O0]=[O0] from rfl,Vv.sbs_app,Vv.sbs_no _ hq0];rfl
theorem IV{src r}(A:At src r s)(fL:okR r=true)(hal:∀a∈r,a∈al)(hl:r.length<=600)(fJ:Vv.blw 7 cv=true):∃s',At src (r.drop (rf r).m) s'/\FO 57 [T0] ⟨[(0,T0)],hs s (H1 [] (vs D) (me f) cv tb),7,[99]⟩=some (.none,⟨[(0,T0)],hs s' (H1 (vs ((rf r).tk r)) (vs D) (me f) cv tb),7,[99]⟩):=by
 obtain⟨x,nx,s',A',e⟩:=ZBv (dn:=vs D) (f:=f) (cv:=cv) (tb:=tb) A fL hal hl;have g:Good 7 (H1 (vs ((rf r).tk r)) (vs D) (me f) cv tb):=JP (JO D) fJ (JO _);have e:JF tT 5 57 [T0] ⟨[(0,T0)],hx .n s (H1 [] (vs D) (me f) cv tb),7,[99]⟩=some (.none,⟨[(0,T0)],hx x s' (H1 (vs ((rf r).tk r)) (vs D) (me f) cv tb),nx,[99]⟩):=QF e;refine⟨s',A',UO (h1a:=hx x s' (H1 (vs ((rf r).tk r)) (vs D) (me f) cv tb)) (JP (JO D) fJ) g (by decide) rfl rfl ⟨rfl,rfl⟩ ?_ e⟩
 cases x<;>exact UA g (by decide)
theorem ZBi{src r}(A:At src r s)(fL:okR r=true)(hal:∀a∈r,a∈al)(hl:r.length<=600)(fJ:Vv.blw 7 cv=true):∃s',At src (r.drop (rf r).m) s'/\Stp 11 (S1 [] (vs D) s 11 cv tb) true (S1 (vs ((rf r).tk r)) (vs D) s' 9 cv tb):=by
 obtain⟨s',A',hf⟩:=IV (D:=D) (f:=11) (tb:=tb) A fL hal hl fJ;refine⟨s',A',Z6.trans (JB.toN (JP (JO D) fJ (JO _)) ⟨rfl,rfl⟩ rfl ?_)⟩;cases tb<;>exact .c 2 hf (.done 7)
theorem ZAk{src r}(A:At src r s)(fL:okR r=true)(hal:∀a∈r,a∈al)(hl:r.length<=600)(fJ:Vv.blw 7 cv=true):∃s',At src (r.drop (rf r).m) s'/\Stp 94 (S1 [] (vs D) s 94 cv tb) true (S1 (vs ((rf r).tk r)) (vs D) s' 60 cv tb):=by
 obtain⟨s',A',hf⟩:=IV (D:=D) (f:=94) (tb:=tb) A fL hal hl fJ;refine⟨s',A',Z6.trans (JB.toN (JP (JO D) fJ (JO _)) ⟨rfl,rfl⟩ rfl ?_)⟩;cases tb<;>exact .c 2 hf (.done 7)
end
structure CvOk(cv:Vv):Prop where
 b:Vv.blw 7 cv=true
 n:∀i,Vv.no i cv=true
def WP(src:LN)(U:St)(D l:List Tok4):Prop:=∃s f cv tb,At src [] s/\CvOk cv/\GR CT gM true U (vs D) (vs l) (S1 [] (vs (D++l)) s f cv tb)
def RT(src:LN)(x:K)(f:Nat)(r:LN)(F:List It):Prop:=∀D s,At src r s->∃l,l.all Tok4.ok=true/\JJ l=F/\WP src (SK x [] (vs D) s f) D l
def RG(src:LN)(x:K)(f:Nat)(r:LN)(F:List It):Prop:=∀D s,Go src r s->∃l,l.all Tok4.ok=true/\JJ l=F/\WP src (SK x [] (vs D) s f) D l
theorem RG.t{src r x f F}(h:RG src x f r F):RT src x f r F:=fun D s A=>h D s A.go
section
variable{src r r':LN}{x x':K}{f f':Nat}{F:List It}{Q:List Tok4}{d:TG}{w:LN}{cv:Vv}{tb:Option LN}{U U':St}{s:Sx}{D l:List Tok4}
theorem QL{a b}:vs (a++b)=vs a++vs b:=bH
theorem Qc{a b}:JJ (a++b)=JJ a++JJ b:=List.flatMap_append
theorem QS{a b:List Tok4}(h:a.all Tok4.ok=true)(h':b.all Tok4.ok=true):(a++b).all Tok4.ok=true:=by rw[List.all_append,h,h'];rfl
theorem ZCv(h:Q.length<100):(vs Q).length<JC:=by rw[aP];exact xG h (by decide)
theorem out(hl:Q.length<100)(h:WP src (SK x' [] (vs (D++Q)) s f') (D++Q) l)(k:∀{l' e},GR CT gM false (SK x' (vs Q) (vs D) s f') (vs D) l' e->GR CT gM true U (vs D) l' e):WP src U D (Q++l):=by
 obtain⟨s2,f2,cv,tb,hA,hc,G⟩:=h;rw[aT,QL] at G;exact⟨s2,f2,cv,tb,hA,hc,QL▸k (ZBl (vs Q) (vs D) (ZCv hl) (.next (Hm (qG _)) G))⟩
theorem XK{P:List Tok4->Sx->Prop}(hQ:Q.all Tok4.ok=true)(hl:Q.length<100)(h:∀D s,P D s->∃s',At src r' s'/\Stp f (SK x [] (vs D) s f) true (SK x' (vs Q) (vs D) s' f'))(H:RT src x' f' r' F)(D s)(hs:P D s):∃l,l.all Tok4.ok=true/\JJ l=JJ Q++F/\WP src (SK x [] (vs D) s f) D l:=by
 obtain⟨s',g,hst⟩:=h D s hs;obtain⟨l,h1,h2,h3⟩:=H (D++Q) s' g;exact⟨Q++l,QS hQ h1,Qc.trans (aM _ h2),out hl h3 fun G=>.turn (Zo hst) N5 G⟩
theorem WP.map(h:∀{l' e},GR CT gM true U (vs D) l' e->GR CT gM true U' (vs D) l' e)(H:WP src U D l):WP src U' D l:=by
 obtain⟨s2,f2,cv,tb,hA,hc,G⟩:=H;exact⟨s2,f2,cv,tb,hA,hc,h G⟩
theorem RT.frz(H:RT src (.t ⟨d.n,d.ws++[w],d.sc,d.b⟩) f r F):RT src (.a d w) f r F:=fun D s hs=>(H D s hs).imp fun l z=>⟨z.1,z.2.1,z.2.2.map fun G=>.frz (k:=1) (w:=att w) (.l rfl rfl) (by decide) (by show GR CT gM true ((S3 [] (vs D) s f d w).sb 1 (att w)) _ _ _;rw[sb1 rfl];exact G)⟩
theorem Gv{l' e}(G:GR CT gM false (S1 (vs (Q++[Tok4.tg d.n d.ws d.sc])) (vs D) s 9 (Jp d.n d.ws d.sc) (some d.b)) (vs D) l' e):GR CT gM false (S2 (vs Q++[O0]) (vs D) s 9 d) (vs D) l' e:=
 .frz (k:=2) (w:=.list (d.ws.map att)) (.l rfl (Zh _)) (by decide) (.frz (k:=0) (w:=Jp d.n d.ws d.sc) (.d rfl ZT) (by decide) (by
  rw[sb2 (J6 Q) (J6 Q)];rw[QL] at G;exact G))
theorem RG.emit(hQ:Q.all Tok4.ok=true)(hl:Q.length<99)(h:∀D s,Go src r s->∃s',At src r' s'/\Stp f (SK x [] (vs D) s f) true (S2 (vs Q++[O0]) (vs D) s' 9 d))(H:RT src (.n (Jp d.n d.ws d.sc) (some d.b)) 9 r' F):RG src x f r (JJ Q++.g d.n d.ws d.sc::F):=fun D s hs=>by
 obtain⟨s',g,hst⟩:=h D s hs;obtain⟨l,h1,h2,h3⟩:=H (D++(Q++[Tok4.tg d.n d.ws d.sc])) s' g;refine⟨(Q++[Tok4.tg d.n d.ws d.sc])++l,QS (QS hQ rfl) h1,?_,out (Q:=Q++[Tok4.tg d.n d.ws d.sc]) (x':=.n (Jp d.n d.ws d.sc) (some d.b)) (by rw[aO];exact cL hl) h3 fun G=>.turn (Zo hst) (N5 (x:=.t d)) (Gv G)⟩
 rw[Qc,Qc,h2,aT];rfl
theorem RG.emitA(hQ:Q.all Tok4.ok=true)(hl:Q.length<99)(h:∀D s,Go src r s->∃s',At src r' s'/\Stp f (SK x [] (vs D) s f) true (S3 (vs Q++[O0]) (vs D) s' 9 d w))(H:RT src (.n (Jp d.n (d.ws++[w]) d.sc) (some d.b)) 9 r' F):RG src x f r (JJ Q++.g d.n (d.ws++[w]) d.sc::F):=fun D s hs=>by
 obtain⟨s',g,hst⟩:=h D s hs;obtain⟨l,h1,h2,h3⟩:=H (D++(Q++[Tok4.tg d.n (d.ws++[w]) d.sc])) s' g;have hq:Vv.nos (.p 1) (vs Q++[O0])=true:=by rw[Le,J6];rfl
 refine⟨(Q++[Tok4.tg d.n (d.ws++[w]) d.sc])++l,QS (QS hQ rfl) h1,?_,out (Q:=Q++[Tok4.tg d.n (d.ws++[w]) d.sc]) (x':=.n (Jp d.n (d.ws++[w]) d.sc) (some d.b)) (by rw[aO];exact cL hl) h3 fun G=>.turn (Zo hst) (N5 (x:=.a d w))
  (.frz (k:=1) (w:=att w) (.l rfl rfl) (by decide) (by
   show GR CT gM false ((S3 (vs Q++[O0]) (vs D) s' 9 d w).sb 1 (att w)) _ _ _;rw[sb1 hq];exact Gv (d:=⟨d.n,d.ws++[w],d.sc,d.b⟩) G))⟩
 rw[Qc,Qc,h2,aT];rfl
theorem RG.stop(fJ:CvOk cv)(h:∀D s s',Rd .none s s'->Stp f (S1 [] (vs D) s f cv tb) false (S1 [] (vs D) s' f cv tb)):RG src (.n cv tb) f [] []:=fun D s hs=>by
 obtain⟨s',hr,-,hA⟩:=hs;exact⟨[],rfl,rfl,s',f,cv,tb,hA,fJ,by rw[aQ];exact .stop (Zo (x:=.n cv tb) (h D s s' hr)) rfl⟩
end
noncomputable def QC:List LN:=[[],[120],[32,120],[0],[38,108,116,59]]
def UP(r:LN):List It:=match r with
 |38::_=>[.c 60]
 |[0]=>[.e Qq,.c 0]
 |r=>r.map .c
theorem Ve{n}:CvOk (cvS n):=⟨rfl,fun J=>rfl⟩
theorem YB{n ws sc}:CvOk (Jp n ws sc):=⟨Hi,fun J=>ZT⟩
noncomputable def pD(a:Nat):Bool:=[some [38],some [60],some [0]].any (·==some [a])
noncomputable def pR(a:Nat):Bool:=[some [38],some [60],some [0]].any (·==some [a])
theorem ZAq:InP (.tup [.str [38],.str [60],.str [0]]) pD:=fun J J=>rfl
theorem ZAn:InP (.tup [.str [38],.str [60],.str [0]]) pR:=fun J J=>rfl
noncomputable def Qx(a:Nat):Bool:=[some [9],some [10],some [12],some [32],some [13]].any (·==some [a])
theorem NK:InP J7 Qx:=fun J J=>rfl
section
variable{src r r':LN}{x x':K}{f f' a:Nat}{F:List It}{Q:List Tok4}{d:TG}{w:LN}{cv:Vv}{tb:Option LN}{s s':Sx}{D l:List Tok4}{v:Vv}
theorem RG.nil(fJ:CvOk cv):RG src (.n cv tb) 9 [] []:=.stop fJ fun D s s' hr=>Vb (JO D) fJ.b hr
theorem RG.un{p opp fF us}(hQ:Q.all Tok4.ok=true)(hl:Q.length<100)(hP:InP fF p)(hv:Ym.args (T1::us)=some [T1,fF,.bool opp])
  (h:∀D s ek em,Rd (.str [a]) s ek->Cl4 13 us (.str (r.takeWhile fun a=>p a==opp)) ek em->Stp f (SK x [] (vs D) s f) true (SK x' (vs Q) (vs D) em f')) (H:RT src x' f' (r.drop (r.takeWhile fun a=>p a==opp).length) F):RG src x f (a::r) (JJ Q++F):=
 XK hQ hl (fun D s hs=>by
  obtain⟨ek,_,hr,-,hA,-⟩:=hs;obtain⟨em,hu,hA2⟩:=hA.until hP hv;exact⟨em,hA2,h D s ek em hr hu⟩) H
theorem RG.one(hQ:Q.all Tok4.ok=true)(hl:Q.length<100)(h:∀D s ek,Rd (.str [a]) s ek->Stp f (SK x [] (vs D) s f) true (SK x' (vs Q) (vs D) ek f'))(H:RT src x' f' r F):RG src x f (a::r) (JJ Q++F):=
 XK hQ hl (fun D s hs=>by
  obtain⟨ek,_,hr,-,hA,-⟩:=hs;exact⟨ek,hA,h D s ek hr⟩) H
theorem RG.back(hQ:Q.all Tok4.ok=true)(hl:Q.length<100)(h:∀D s ek em,Rd (hdV r) s ek->Un (hdV r) ek em->Stp f (SK x [] (vs D) s f) true (SK x' (vs Q) (vs D) em f'))(H:RT src x' f' r F):RG src x f r (JJ Q++F):=
 XK hQ hl (fun D s hs=>by
  cases r with
  |nil=>
   obtain⟨ek,hr,hu,hA⟩:=hs;exact⟨ek,hA,h D s ek ek hr hu⟩
  |cons a r=>
   obtain⟨ek,em,hr,hu,-,hA⟩:=hs;exact⟨em,hA,h D s ek em hr hu⟩) H
theorem RG.eof(hQ:Q.all Tok4.ok=true)(hl:Q.length<100)(h:∀D s ek,Rd .none s ek->Stp f (SK x [] (vs D) s f) true (SK x' (vs Q) (vs D) ek f'))(H:RT src x' f' [] F):RG src x f [] (JJ Q++F):=
 XK hQ hl (fun D s hs=>by
  obtain⟨ek,hr,-,hA⟩:=hs;exact⟨ek,hA,h D s ek hr⟩) H
theorem ZP(fJ:CvOk cv)(hr:r∈QC):RG src (.n cv tb) 9 r (UP r):=by
 have h97:RG src (.n cv tb) 9 [120] [.c 120]:=.un (Q:=[.ch [120]]) (x':=.n cv tb) (F:=[]) (r:=[]) rfl (by decide) ZAq (opp:=false) rfl (fun D s ek em h1 h2=>ZDJ (JO D) fJ.b h1 h2) (RG.nil fJ).t
 rcases aZ.mp hr with rfl|hr
 ·exact .nil fJ
 rcases aZ.mp hr with rfl|hr
 ·exact h97
 rcases aZ.mp hr with rfl|hr
 ·exact .un (Q:=[.sp [32]]) (x':=.n cv tb) (F:=[.c 120]) (r:=[120]) rfl (by decide) NK (opp:=true) rfl (fun D s ek em h1 h2=>ZBm (JO D) fJ.b h1 h2) h97.t
 rcases aZ.mp hr with rfl|hr
 ·exact .one (Q:=[.er Qq,.ch [0]]) (x':=.n cv tb) (F:=[]) (r:=[]) rfl (by decide) (fun D s ek h1=>Va (JO D) fJ.b h1) (RG.nil fJ).t
 ·cases ae.mp hr
  exact .one (Q:=[]) (x':=.n cv tb) (f':=11) (F:=[.c 60]) (r:=[108,116,59]) rfl (by decide) (fun D s ek h1=>Vc (JO D) fJ.b h1)
   (XK (P:=fun J s=>At src [108,116,59] s) (Q:=[.ch [60]]) (x':=.n cv tb) (f':=9) (F:=[]) (r':=[]) rfl (by decide) (fun D s hs=>by
    obtain⟨s',hA,h⟩:=ZBi hs (by decide) (by decide) (by decide) fJ.b
    exact⟨s',hA,h⟩) (RG.nil fJ).t)
end
inductive TQ where
 |A (b:Bool) (ws:List LN)
 |S (ws:List LN)
 |N (ws:List LN) (w:LN)
def emT(de sc:Bool):List Tok4:=(bif de then [.er Qg] else [])++bif sc then [.er Zx] else []
def Jx(ws:List LN)(w:LN):List Tok4:=bif ws.any (w.map lowC==·) then [.er QY] else []
def wT(b:Bool)(a:Nat):List Tok4:=bif Nat.beq a 60 then [.er (bif b then Ou else Ot)] else bif Nat.beq a 0 then [.er Qq] else []
def emI(n:LN)(ws:List LN)(sc:Bool):List It:=JJ (emT (!ws.isEmpty) sc)++[.g n ws sc]
def Qp(n:LN)(b:Bool)(ws:List LN)(a:Nat):List It×Option TQ:=
 if a=62 then (emI n ws false,none) else if a=32 then ([],some (.A b ws)) else if a=47 then ([],some (.S ws)) else (JJ (wT b a),some (.N ws (wW a)))
def Jq(n:LN)(q:TQ)(a:Nat):List It×Option TQ:=match q with
 |.A b ws=>Qp n b ws a
 |.S ws=>if a=62 then (emI n ws true,none) else (.e Uq::(Qp n false ws a).1,(Qp n false ws a).2)
 |.N ws w=>if a=62 then (JJ (Jx ws w)++emI n (ws++[w.map lowC]) false,none) else if a=32 then (JJ (Jx ws w),some (.A true (ws++[w.map lowC]))) else if a=47 then (JJ (Jx ws w),some (.S (ws++[w.map lowC])))
  else (JJ (wT false a),some (.N ws (w++wW a)))
def eoI(q:TQ):List It:=match q with
 |.A b _=>[.e (bif b then Ur else Us)]
 |.S _=>[.e XM]
 |.N ws w=>.e Qr::JJ (Jx ws w)
def tgK(k:TQ->List It)(r:LN)(o:Option TQ):List It:=match o with
 |some q=>k q
 |none=>UP r
noncomputable def tg(n:LN):LN->TQ->List It
 |[],q=>eoI q
 |a::r,q=>(Jq n q a).1++tgK (tg n r) r (Jq n q a).2
noncomputable def okT:LN->Prop
 |[]=>True
 |a::r=>if a=62 then r∈QC else a∈al/\okT r
noncomputable def TQ.k(bf:LN):TQ->K
 |.A _ ws=>.t ⟨bf,ws,false,bf⟩
 |.S ws=>.t ⟨bf,ws,false,bf⟩
 |.N ws w=>.a ⟨bf,ws,false,bf⟩ w
noncomputable def TQ.f:TQ->Nat
 |.A b _=>bif b then 66 else 62
 |.S _=>63
 |.N _ _=>65
noncomputable def TQ.sz:TQ->Nat
 |.A _ ws=>ws.length
 |.S ws=>ws.length
 |.N ws w=>ws.length+w.length
section
variable{src r l bf n:LN}{a k:Nat}{ws:List LN}{w:LN}{b:Bool}{d:TG}{F:List It}{f:Nat}
theorem IW{de sc}:emQ de sc []=vs (emT de sc):=by cases de<;>cases sc<;>rfl
theorem YW{de sc}:(emT de sc).all Tok4.ok=true/\(emT de sc).length<99:=by cases de<;>cases sc<;>exact⟨rfl,by decide⟩
theorem Nj{q}:WL d w (vs q)=vs (q++Jx d.ws w):=by
 unfold WL Jx;cases d.ws.any (w.map lowC==·)
 ·exact aM vs (aQ q).symm
 ·show vs q++[JL QY]=_
  rw[show (bif true then [Tok4.er QY] else [])=[Tok4.er QY] from rfl,QL];rfl
theorem Wf:(Jx ws w).all Tok4.ok=true/\(Jx ws w).length<=1:=by
 unfold Jx;cases ws.any (w.map lowC==·)
 ·exact⟨rfl,qG _⟩
 ·exact⟨rfl,qF _⟩
theorem Wk(h:okT (a::r))(n:a≠62):a∈al/\okT r:=by
 exact(aN n:(if a=62 then r∈QC else a∈al/\okT r)=_)▸(h:if a=62 then r∈QC else a∈al/\okT r)
theorem Zt(h:okT (62::r)):r∈QC:=h
theorem RT.frzT(H:RT src (.n (Jp d.n d.ws d.sc) (some d.b)) f r F):RT src (.t d) f r F:=fun D s h0=>(H D s h0).imp fun l z=>⟨z.1,z.2.1,z.2.2.map fun G=>.frz (k:=2) (w:=.list (d.ws.map att)) (.l rfl (Zh _)) (by decide) (.frz (k:=0) (w:=Jp d.n d.ws d.sc) (.d rfl ZT) (by decide) (by
 have e:((S2 [] (vs D) s f d).sb 2 (.list (d.ws.map att))).sb 0 (Jp d.n d.ws d.sc)=S1 [] (vs D) s f (Jp d.n d.ws d.sc) (some d.b):=by
  show (⟨[(0,T0)],hs s (H1 [] (Vv.sbs (.p 0) (Jp d.n d.ws d.sc) (Vv.sbs (.p 2) (.list (d.ws.map att)) (vs D))) (me f) (Jp d.n d.ws d.sc) (some d.b)),7,[99]⟩:St)=_;rw[Vv.sbs_no _ (J6 D),Vv.sbs_no _ (J6 D)];rfl
 show GR CT gM true (((S2 [] (vs D) s f d).sb 2 (.list (d.ws.map att))).sb 0 (Jp d.n d.ws d.sc)) _ _ _;rw[e];exact G))⟩
theorem Nu:RT src (.t d) 9 [] []:=.frzT (RG.nil YB).t
theorem ZAP:∀a∈al,Qx a=(a==32):=JD (by kernel_rfl)
theorem ZCU:∀a∈al,(Nat.beq a 62||(Nat.beq a 32||(Nat.beq a 47||(prW.any (·==(62,a))&&prW.any (·==(66,a))))))=true:=JD (by kernel_rfl)
theorem ZC3:∀a∈al,(Nat.beq a 62||(Nat.beq a 32||(Nat.beq a 47||(Ju.any (·==a)||prN.any (·==a)))))=true:=JD (by kernel_rfl)
theorem ZCd:∀a∈al,(Nat.beq a 62||(([0,32,35,38,47,54,59,60]++Ju).any (·==a)))=true:=JD (by kernel_rfl)
theorem V9:∀x∈prW,qW x.1 x.2=vs (wT (Nat.beq x.1 66) x.2):=JD (by kernel_rfl)
theorem Je{a b:Nat}(h:a≠b):Nat.beq a b=false:=bW.mpr fun q=>h (aa q)
theorem ZAH:∀r:LN,okT r->tg n r (.A b ws)=tg n (r.drop (r.takeWhile fun a=>Qx a==true).length) (.A b ws)/\okT (r.drop (r.takeWhile fun a=>Qx a==true).length):=fun l0=>by
 induction l0 with
 |nil=>
  exact fun h=>⟨rfl,h⟩
 |cons a r ih=>
  intro h;rw[aw];by_cases fS:a=62
  ·subst fS;exact⟨rfl,h⟩
  ·obtain⟨ha,hr⟩:=Wk h fS
   rw[ZAP a ha];by_cases h32:a=32
   ·subst h32
    exact ih hr
   ·rw[xV h32];exact⟨rfl,h⟩
theorem GE(h:a∈Ju):Jq n (.N ws w) a=([],some (.N ws (w++[a]))):=by
 have e:∀a∈Ju,(Nat.beq a 62,Nat.beq a 32,Nat.beq a 47,Nat.beq a 60,Nat.beq a 0)=(false,false,false,false,false):=JD (by kernel_rfl)
 have e:=e a h
 injection e with e1 e
 injection e with e2 e
 injection e with e3 e
 injection e with e4 e5
 have hw:wW a=[a]:=by unfold wW;rw[e5];rfl
 have hT:wT false a=[]:=by unfold wT;rw[e4,e5];rfl
 unfold Jq;dsimp only;rw[aN fun q=>absurd (q▸e1) (by decide),aN fun q=>absurd (q▸e2) (by decide),aN fun q=>absurd (q▸e3) (by decide),hw,hT];rfl
noncomputable def ZCV:Vv->List Vv
 |.tup l=>l
 |_=>[]
def pL(a:Nat):Bool:=(Wr (.str [a]) (ZCV Uz)).getD false
theorem ZAp:InP Uz pL:=fun J J=>by kernel_rfl
theorem YJ:∀a∈al,pL a=Ju.any (·==a):=JD (by kernel_rfl)
theorem Pg:∀(r w:LN),okT r->tg n r (.N ws w)=tg n (r.drop (r.takeWhile fun a=>pL a==true).length) (.N ws (w++r.takeWhile fun a=>pL a==true))/\okT (r.drop (r.takeWhile fun a=>pL a==true).length):=fun l0=>by
 induction l0 with
 |nil=>
  exact fun w h=>⟨by rw[show w++([]:LN).takeWhile (fun a=>pL a==true)=w from aQ w];rfl,h⟩
 |cons a r ih=>
  intro w h;rw[aw];have stay:tg n (a::r) (.N ws w)=tg n ((a::r).drop ([]:LN).length) (.N ws (w++[]))/\okT ((a::r).drop ([]:LN).length):=⟨by rw[aQ];rfl,h⟩
  by_cases fS:a=62
  ·subst fS;exact stay
  ·obtain⟨ha,hr⟩:=Wk h fS
   rw[YJ a ha];cases hl:Ju.any (·==a) with
   |false=>exact stay
   |true=>
    have e:=ih (w++[a]) hr;refine⟨?_,e.2⟩;have e0:tg n (a::r) (.N ws w)=tg n r (.N ws (w++[a])):=by
     show (Jq n (.N ws w) a).1++tgK (tg n r) r (Jq n (.N ws w) a).2=_;rw[GE (Jr hl)];rfl
    rw[e0,e.1,aT];rfl
end
section
variable{src r bf:LN}{a k:Nat}{ws:List LN}{w:LN}{b:Bool}{F:List It}
theorem ab(h:ws.length<=900):(ws.map att).length<JC:=by rw[aP];exact qL h (by decide)
theorem Hc(h:ws.length<=900):bd (ws.map att).length (some (!(ws.map att).isEmpty))=some (!ws.isEmpty):=by
 show gd (Nat.ble (ws.map att).length JC) _=_;rw[ble (xF (ab h))];cases ws<;>rfl
theorem O8:(bif b then 66 else 62)∈[62,66]:=by cases b<;>decide
theorem mx{n}(h:n<=900):n<=JC:=qA h (by decide)
theorem Fp(q)(hz:q.sz<=900):RG src (q.k bf) q.f [] (eoI q):=by
 cases q with
 |A b ws=>exact .eof (Q:=[.er (bif b then Ur else Us)]) (x':=.t ⟨bf,ws,false,bf⟩) (F:=[]) rfl (show 1<100 by decide) (fun D s ek hr=>by
  cases b
  ·exact Hk (f:=62) (d:=⟨bf,ws,false,bf⟩) (JO D) (by decide) hr
  ·exact Hk (f:=66) (d:=⟨bf,ws,false,bf⟩) (JO D) (by decide) hr) Nu
 |S ws=>exact .back (Q:=[.er XM]) (x':=.t ⟨bf,ws,false,bf⟩) (F:=[]) (r:=[]) rfl (by decide) (fun D s ek em hr hu=>ZAc (JO D) hr hu) Nu
 |N ws w=>
  have h2:ws.length<=900/\w.length<=900:=⟨qA (qK _ _) hz,qA (bS _ _) hz⟩;have z:RG src (.a ⟨bf,ws,false,bf⟩ w) 65 [] (JJ ([Tok4.er Qr]++Jx ws w)++[]):=.eof (x':=.a ⟨bf,ws,false,bf⟩ (w.map lowC)) (f':=9) (QS rfl Wf.1) (by rw[aO];exact qL (qI Wf.2 _) (by decide)) (fun D s ek hr=>by
   have h:=ZA4 (d:=⟨bf,ws,false,bf⟩) (w:=w) (JO D) (ab h2.1) (mx h2.2) hr;rw[show [JL Qr]=vs [Tok4.er Qr] from rfl,Nj] at h;exact h) (.frz Nu)
  rw[aQ] at z;exact z
def IH(src bf:LN)(k:Nat):Prop:=∀(r:LN) (q:TQ),r.length<=k->q.sz+r.length<=900->okT r->RT src (q.k bf) q.f r (tg (bf.map lowC) r q)
theorem dle(r:LN)(j):(r.drop j).length<=r.length:=am▸xU _ _
theorem Hj(ih:IH src bf k)(hk:r.length<=k)(hz:ws.length+(r.length+1)<=900)(hb:bf.length<=900)(h:okT (a::r)):RG src (.t ⟨bf,ws,false,bf⟩) (bif b then 66 else 62) (a::r) (tg (bf.map lowC) (a::r) (.A b ws)):=by
 have hw:ws.length<=900:=qA (qK _ _) hz;have hz':ws.length+r.length<=900:=qR hz;have e:tg (bf.map lowC) (a::r) (.A b ws)=(Qp (bf.map lowC) b ws a).1++tgK (tg (bf.map lowC) r) r (Qp (bf.map lowC) b ws a).2:=rfl;by_cases fS:a=62
 ·subst fS
  rw[e,show Qp (bf.map lowC) b ws 62=(emI (bf.map lowC) ws false,none) from rfl];show RG _ _ _ _ ((JJ (emT (!ws.isEmpty) false)++[It.g (bf.map lowC) ws false])++UP r);rw[aT];exact RG.emit (Q:=emT (!ws.isEmpty) false) (d:=⟨bf.map lowC,ws,false,bf⟩) YW.1 YW.2 (fun D s hs=>by
   obtain⟨ek,_,hr,-,hA,-⟩:=hs;exact⟨ek,hA,IW▸ZCY (d:=⟨bf,ws,false,bf⟩) (JO D) O8 hr (Hc hw) (mx hb)⟩) (ZP YB (Zt h)).t
 ·obtain⟨ha,hr⟩:=Wk h fS
  by_cases h32:a=32
  ·subst h32
   obtain⟨e1,o⟩:=ZAH (n:=bf.map lowC) (b:=b) (ws:=ws) r hr;rw[e,show Qp (bf.map lowC) b ws 32=([],some (.A b ws)) from rfl];show RG _ _ _ _ (tg (bf.map lowC) r (.A b ws));rw[e1];exact .un (Q:=[]) (x':=.t ⟨bf,ws,false,bf⟩) (f':=bif b then 66 else 62) rfl (by decide) NK (opp:=true) rfl (fun D s ek em h1 h2=>ZCW (JO D) O8 h1 h2) (ih _ (.A b ws) (qA (dle _ _) hk) (qA (qI (dle _ _) _) hz') o)
  by_cases h47:a=47
  ·subst h47
   rw[e,show Qp (bf.map lowC) b ws 47=([],some (.S ws)) from rfl];exact .one (Q:=[]) (x':=.t ⟨bf,ws,false,bf⟩) (f':=63) rfl (by decide) (fun D s ek h1=>ZCX (JO D) O8 h1) (ih r (.S ws) hk hz' hr)
  ·rw[e,show Qp (bf.map lowC) b ws a=(JJ (wT b a),some (.N ws (wW a))) from (aN fS).trans ((aN h32).trans (aN h47))]
   have hp:=ZCU a ha;rw[Je fS,Je h32,Je h47] at hp;have hp:(62,a)∈prW/\(66,a)∈prW:=bA (a:=prW.any (·==(62,a))) (b:=prW.any (·==(66,a))) hp fun x y=>⟨Jr x,Jr y⟩
   have hx:((bif b then 66 else 62),a)∈prW:=by cases b;exact hp.1;exact hp.2
   have hq:=V9 _ hx;have hT:∀a∈prW,((wT true a.2).all Tok4.ok,Nat.blt (wT true a.2).length 100,(wT false a.2).all Tok4.ok,Nat.blt (wT false a.2).length 100,(wW a.2).length)=(true,true,true,true,1):=JD (by kernel_rfl)
   have hT:=hT _ hx;have hbe:Nat.beq (bif b then 66 else 62) 66=b:=by cases b<;>rfl
   refine .one (Q:=wT b a) (x':=.a ⟨bf,ws,false,bf⟩ (wW a)) (f':=65) (by cases b;exact aM (·.2.2.1) hT;exact aM (·.1) hT) (qE (by cases b;exact aM (·.2.2.2.1) hT;exact aM (·.2.1) hT)) (fun D s ek h1=>?_) (ih r (.N ws (wW a)) hk ?_ hr)
   ·have z:=Pi (d:=⟨bf,ws,false,bf⟩) (JO D) hx h1 (xF (ab hw))
    rw[hq] at z;dsimp only at z;rw[hbe] at z;exact z
   ·show ws.length+(wW a).length+r.length<=900
    rw[show (wW a).length=1 from aM (fun q=>q.2.2.2.2) hT,aX,aW 1];exact hz
theorem ZAK(ih:IH src bf k)(hk:r.length<=k)(hz:ws.length+(r.length+1)<=900)(hb:bf.length<=900)(h:okT (a::r)):RG src (.t ⟨bf,ws,false,bf⟩) 63 (a::r) (tg (bf.map lowC) (a::r) (.S ws)):=by
 have hw:ws.length<=900:=qA (qK _ _) hz;by_cases fS:a=62
 ·subst fS
  show RG _ _ _ _ ((JJ (emT (!ws.isEmpty) true)++[It.g (bf.map lowC) ws true])++UP r);rw[aT];exact RG.emit (Q:=emT (!ws.isEmpty) true) (d:=⟨bf.map lowC,ws,true,bf⟩) YW.1 YW.2 (fun D s hs=>by
   obtain⟨ek,_,hr,-,hA,-⟩:=hs;exact⟨ek,hA,IW▸ZCb (d:=⟨bf,ws,false,bf⟩) (JO D) hr (Hc hw) (mx hb)⟩) (ZP YB (Zt h)).t
 ·have hp:=ZCd a (Wk h fS).1
  rw[Je fS] at hp;have e:tg (bf.map lowC) (a::r) (.S ws)=It.e Uq::tg (bf.map lowC) (a::r) (.A false ws):=by
   show (Jq (bf.map lowC) (.S ws) a).1++tgK (tg (bf.map lowC) r) r (Jq (bf.map lowC) (.S ws) a).2=_;rw[show Jq (bf.map lowC) (.S ws) a=(.e Uq::(Qp (bf.map lowC) false ws a).1,(Qp (bf.map lowC) false ws a).2) from aN fS];rfl
  rw[e];exact .back (Q:=[.er Uq]) (x':=.t ⟨bf,ws,false,bf⟩) (f':=62) rfl (by decide) (fun D s ek em hr hu=>Pv (JO D) (ak.mpr ⟨a,Jr hp,rfl⟩) hr hu) (Hj (b:=false) ih hk hz hb h).t
theorem ZAL(ih:IH src bf k)(hk:r.length<=k)(hz:ws.length+w.length+(r.length+1)<=900)(hb:bf.length<=900)(h:okT (a::r)):RG src (.a ⟨bf,ws,false,bf⟩ w) 65 (a::r) (tg (bf.map lowC) (a::r) (.N ws w)):=by
 have hw:ws.length<=900:=qA (qA (qK _ _) (qK _ _)) hz;have hv:w.length<=900:=qA (qA (bS _ _) (qK _ _)) hz;have hz1:(ws++[w.map lowC]).length+r.length<=900:=by
  rw[aO,aX,aW _ r.length];exact qA (qO (qK _ _) _) hz
 have e:tg (bf.map lowC) (a::r) (.N ws w)=(Jq (bf.map lowC) (.N ws w) a).1++tgK (tg (bf.map lowC) r) r (Jq (bf.map lowC) (.N ws w) a).2:=rfl;have o1:(Jx ws w).length<99:=qL Wf.2 (by decide)
 have dv:∀{D s ek f w'},Stp 65 (S3 [] (vs D) s 65 ⟨bf,ws,false,bf⟩ w) true (S3 (WL ⟨bf,ws,false,bf⟩ w []) (vs D) ek f ⟨bf,ws,false,bf⟩ w')->Stp 65 (S3 [] (vs D) s 65 ⟨bf,ws,false,bf⟩ w) true (S3 (vs (Jx ws w)) (vs D) ek f ⟨bf,ws,false,bf⟩ w'):=fun h=>by
  rw[show ([]:List Vv)=vs [] from rfl,Nj] at h;exact h
 by_cases fS:a=62
 ·subst fS
  rw[e,show Jq (bf.map lowC) (.N ws w) 62=(JJ (Jx ws w)++emI (bf.map lowC) (ws++[w.map lowC]) false,none) from rfl];have he:emI (bf.map lowC) (ws++[w.map lowC]) false=[.e Qg,.g (bf.map lowC) (ws++[w.map lowC]) false]:=by unfold emI;cases ws<;>rfl
  rw[he];show RG _ _ _ _ ((JJ (Jx ws w)++(JJ [Tok4.er Qg]++[It.g (bf.map lowC) (ws++[w.map lowC]) false]))++UP r);rw[<- aT,<- Qc,aT];refine RG.emitA (Q:=Jx ws w++[Tok4.er Qg]) (d:=⟨bf.map lowC,ws,false,bf⟩) (w:=w.map lowC) (QS Wf.1 rfl) (by rw[aO];exact qL (qO Wf.2 _) (by decide)) (fun D s hs=>?_) (ZP YB (Zt h)).t
  obtain⟨ek,_,hr,-,hA,-⟩:=hs;have z:=ZC2 (d:=⟨bf,ws,false,bf⟩) (w:=w) (JO D) (ab hw) (mx hv) hr (mx hb) rfl;rw[show ([]:List Vv)=vs [] from rfl,Nj] at z;rw[QL];exact⟨ek,hA,z⟩
 ·obtain⟨ha,hr⟩:=Wk h fS
  by_cases h32:a=32
  ·subst h32
   rw[e,show Jq (bf.map lowC) (.N ws w) 32=(JJ (Jx ws w),some (.A true (ws++[w.map lowC]))) from rfl];exact .one (Q:=Jx ws w) (x':=.a ⟨bf,ws,false,bf⟩ (w.map lowC)) (f':=66) Wf.1 (qT o1) (fun D s ek h1=>dv (ZC0 (d:=⟨bf,ws,false,bf⟩) (JO D) (ab hw) (mx hv) h1)) (.frz (ih r (.A true (ws++[w.map lowC])) hk hz1 hr))
  by_cases h47:a=47
  ·subst h47
   rw[e,show Jq (bf.map lowC) (.N ws w) 47=(JJ (Jx ws w),some (.S (ws++[w.map lowC]))) from rfl];exact .one (Q:=Jx ws w) (x':=.a ⟨bf,ws,false,bf⟩ (w.map lowC)) (f':=63) Wf.1 (qT o1) (fun D s ek h1=>dv (ZC1 (d:=⟨bf,ws,false,bf⟩) (JO D) (ab hw) (mx hv) h1)) (.frz (ih r (.S (ws++[w.map lowC])) hk hz1 hr))
  have hp:=ZC3 a ha;rw[Je fS,Je h32,Je h47] at hp;have hp:(Ju.any (·==a)||prN.any (·==a))=true:=hp
  cases hl:Ju.any (·==a) with
  |true=>
   have hm:=Jr hl;rw[e,GE hm];obtain⟨e1,o⟩:=Pg (n:=bf.map lowC) (ws:=ws) r (w++[a]) hr;show RG _ _ _ _ (tg (bf.map lowC) r (.N ws (w++[a])));rw[e1,aT];have hle:(r.takeWhile fun a=>pL a==true).length+(r.drop (r.takeWhile fun a=>pL a==true).length).length=r.length:=by rw[am,bw (qM _).length_le]
   have hll:=(qM (p:=fun a=>pL a==true) (l:=r)).length_le
   refine .un (Q:=[]) (x':=.a ⟨bf,ws,false,bf⟩ (w++a::r.takeWhile fun a=>pL a==true)) (f':=65) rfl (by decide) ZAp (opp:=true) rfl (fun D s ek em h1 h2=>ZA3 (d:=⟨bf,ws,false,bf⟩) (JO D) hm h1 (ab hw) (mx (qA (qQ (bS w.length ws.length) (qA (qU (aW 1 _)) (qJ hll))) hz)) h2) (ih _ (.N ws (w++a::r.takeWhile fun a=>pL a==true)) (qA (dle _ _) hk) ?_ o)
   show ws.length+(w++a::r.takeWhile fun a=>pL a==true).length+_<=900
   rw[aO,au,aX,aX,a4,hle,<- aX];exact hz
  |false=>
   rw[hl] at hp;have hm:a∈prN:=Jr hp;have hT:∀a∈prN,((wT false a).all Tok4.ok,Nat.blt (wT false a).length 100,(wW a).length)=(true,true,1):=JD (by kernel_rfl)
   have hT:=hT a hm;have hq:∀a∈prN,qW 62 a=vs (wT false a):=JD (by kernel_rfl)
   rw[e,show Jq (bf.map lowC) (.N ws w) a=(JJ (wT false a),some (.N ws (w++wW a))) from (aN fS).trans ((aN h32).trans (aN h47))];refine .one (Q:=wT false a) (x':=.a ⟨bf,ws,false,bf⟩ (w++wW a)) (f':=65) (aM (·.1) hT) (qE (aM (·.2.1) hT)) (fun D s ek h1=>hq a hm▸ZA5 (d:=⟨bf,ws,false,bf⟩) (JO D) hm h1 (ab hw) (qA (qJ hv) (by decide))) (ih r (.N ws (w++wW a)) hk ?_ hr)
   show ws.length+(w++wW a).length+r.length<=900;rw[aO,show (wW a).length=1 from aM (fun q=>q.2.2) hT,<- aX,aX,aW 1]
   exact hz
theorem Zj(hb:bf.length<=900):∀(k:Nat) (r:LN) (q:TQ),r.length<=k->q.sz+r.length<=900->okT r->RG src (q.k bf) q.f r (tg (bf.map lowC) r q)
 |_,[],q,_,hz,_=>Fp q hz
 |0,_::_,_,hk,_,_=>absurd hk (xK _)
 |k+1,a::r,.A b ws,hk,hz,h=>Hj (fun r q a b c=>(Zj hb k r q a b c).t) (xQ hk) hz hb h
 |k+1,a::r,.S ws,hk,hz,h=>ZAK (fun r q a b c=>(Zj hb k r q a b c).t) (xQ hk) hz hb h
 |k+1,a::r,.N ws w,hk,hz,h=>ZAL (fun r q a b c=>(Zj hb k r q a b c).t) (xQ hk) hz hb h
end
def rI(a:Nat):List It:=if a=0 then [.e Qq,.c 65533] else [.c a]
noncomputable def UF(w:LN):Bool:=match w with
 |[]=>false
 |a::_=>a==32||(a==47||a==62)
def ltr(w:LN):LN:=w.takeWhile fun a=>pL a
def JI(w:LN):LN:=w.drop (ltr w).length
def JV(n:Option LN)(b w:LN):Bool:=some ((b++ltr w).map lowC)==n&&UF (JI w)
def TH(n:Option LN):LN->Option LN
 |[]=>none
 |b::w=>bif Nat.beq b 47 then bif JV n [] w then some w else none else none
def JT(n:Option LN):LN->Option LN
 |[]=>none
 |a::r=>bif Nat.beq a 60 then TH n r else none
def tgW(w:LN):List It:=tg ((ltr w).map lowC) (JI w) (.A false [])
def rfI(r:LN):List It:=JJ (rf r).e++(rf r).o.map .c
noncomputable def EE(n:Option LN):LN->Nat->List It
 |[]=>fun J=>[]
 |a::r=>fun k=>bif Nat.beq k 0 then (match JT n (a::r) with
   |some w=>tgW w
   |none=>bif Nat.beq a 38 then rfI r++EE n r (rf r).k else rI a++EE n r 0) else EE n r (k-1)
def E(n:Option LN)(r:LN):List It:=EE n r 0
noncomputable def okE(n:Option LN):LN->Prop
 |[]=>True
 |a::r=>match JT n (a::r) with
  |some w=>okT (JI w)/\∀a∈w,a∈al
  |none=>(a∈al/\(a=38->okR r=true))/\okE n r
def F61(n:Option LN)(b w:LN):List It:=match JV n b w with
 |true=>tg ((b++ltr w).map lowC) (JI w) (.A false [])
 |false=>.c 60::.c 47::(b.map .c++E n w)
def Qw(n:Option LN)(b w:LN):Prop:=match JV n b w with
 |true=>okT (JI w)/\∀a∈w,a∈al
 |false=>okE n w
section
variable{n:Option LN}{a k:Nat}{r w b l:LN}
theorem Qm(h:a≠60):JT n (a::r)=none:=by
 show (bif Nat.beq a 60 then TH n r else none)=none;rw[Je h];rfl
theorem Xw(h:∀w,r≠47::w):JT n (60::r)=none:=by
 cases r with
 |nil=>rfl
 |cons b w=>
  show (bif Nat.beq b 47 then bif JV n [] w then some w else none else none)=none;rw[Je fun q=>h w (aM (·::w) q)];rfl
theorem E_c:E n (a::r)=match JT n (a::r) with|some w=>tgW w|none=>bif Nat.beq a 38 then rfI r++EE n r (rf r).k else rI a++E n r:=rfl
theorem YK:okE n (a::r)=match JT n (a::r) with|some w=>okT (JI w)/\∀a∈w,a∈al|none=>(a∈al/\(a=38->okR r=true))/\okE n r:=rfl
theorem PU:∀(r:LN) (k:Nat),EE n r k=E n (r.drop k):=by
 intro r;induction r with
 |nil=>intro k;cases k<;>rfl
 |cons a r ih=>
  intro k;cases k with
  |zero=>rfl
  |succ k=>exact ih k
theorem Wy(h:JT n (a::r)=none)(h38:a≠38):E n (a::r)=rI a++E n r:=by
 rw[E_c,h,Je h38];rfl
theorem ZDa:E n (38::r)=rfI r++E n (r.drop (rf r).k):=by
 rw[E_c,Qm (by decide),<- PU];rfl
theorem OK(h:JT n (a::r)=none)(k:okE n (a::r)):(a∈al/\(a=38->okR r=true))/\okE n r:=by
 rw[YK,h] at k;exact k
theorem We(h:JT n (a::r)=none)(k:okE n (a::r)):a∈al/\okE n r:=⟨(OK h k).1.1,(OK h k).2⟩
theorem Op(h:a≠0):rI a=[.c a]:=aN h
theorem Zr(h:pL a=true):a≠60/\a≠0/\a≠47/\a≠38:=⟨fun q=>absurd (q▸h:pL 60=true) (by decide),fun q=>absurd (q▸h:pL 0=true) (by decide),fun q=>absurd (q▸h:pL 47=true) (by decide),fun q=>absurd (q▸h:pL 38=true) (by decide)⟩
theorem ZCT(h:pL a=true):E n (a::r)=.c a::E n r:=by
 rw[Wy (Qm (Zr h).1) (Zr h).2.2.2,Op (Zr h).2.1];rfl
theorem ZB(h:pL a=true):ltr (a::w)=a::ltr w:=by
 unfold ltr;rw[aw,h];rfl
theorem WW(h:pL a=false):ltr (a::w)=[]:=by
 unfold ltr;rw[aw,h];rfl
theorem ZN(h:pL a=true):JI (a::w)=JI w:=by
 unfold JI;rw[ZB h];rfl
theorem XC(h:pL a=false):JI (a::w)=a::w:=by
 unfold JI;rw[WW h];rfl
theorem Y6(h:pL a=true):JV n b (a::w)=JV n (b++[a]) w:=by
 unfold JV;rw[ZB h,ZN h,aT];rfl
theorem Gn(h:pL a=true):F61 n b (a::w)=F61 n (b++[a]) w:=by
 unfold F61;rw[Y6 h,ZCT h,ZB h,ZN h,aT b,show (b++[a]).map It.c=b.map It.c++[It.c a] from bH,aT (b.map It.c)];rfl
theorem B5(h:pL a=true)(k:Qw n b (a::w)):Qw n (b++[a]) w:=by
 unfold Qw at k ⊢;rw[Y6 h,ZN h] at k;cases e:JV n (b++[a]) w with
 |true=>rw[e] at k;exact⟨k.1,fun x hx=>k.2 x (.tail _ hx)⟩
 |false=>rw[e] at k;exact(We (Qm (Zr h).1) k).2
theorem TT:E n (60::47::w)=F61 n [] w:=by
 rw[E_c];unfold F61;rw[show JT n (60::47::w)=bif JV n [] w then some w else none from rfl];cases JV n [] w with
 |true=>rfl
 |false=>
  show rI 60++E n (47::w)=_;rw[Wy (Qm (by decide)) (by decide)];rfl
theorem ZAv(k:okE n (60::47::w)):Qw n [] w:=by
 rw[YK,show JT n (60::47::w)=bif JV n [] w then some w else none from rfl] at k;unfold Qw;cases e:JV n [] w with
 |true=>rw[e] at k;exact k
 |false=>rw[e] at k;exact(We (Qm (by decide)) k.2).2
def Pln(a:Nat):Prop:=a≠60/\a≠0/\a≠38
theorem Ik:∀l:LN,(∀a∈l,Pln a)->E n (l++r)=l.map .c++E n r:=by
 intro l;induction l with
 |nil=>exact fun J=>rfl
 |cons a l ih=>
  intro h;obtain⟨h1,h2,h3⟩:=h a (.head _);show E n (a::(l++r))=_;rw[Wy (Qm h1) h3,Op h2,ih fun x hx=>h x (.tail _ hx)];rfl
theorem Dy:∀l:LN,(∀a∈l,Pln a)->okE n (l++r)->okE n r:=by
 intro l;induction l with
 |nil=>exact fun J k=>k
 |cons a l ih=>exact fun h k=>ih (fun x hx=>h x (.tail _ hx)) (We (Qm (h a (.head _)).1) k).2
theorem Zd{P:Prop}{u}(h:JT n u=some w)(k:u=60::47::w->JV n [] w=true->P):P:=by
 cases u with
 |nil=>exact nn h
 |cons a r=>
  by_cases h60:a=60
  ·subst h60
   cases r with
   |nil=>exact nn h
   |cons b r=>
    by_cases h47:b=47
    ·subst h47
     rw[show JT n (60::47::r)=bif JV n [] r then some r else none from rfl] at h;cases hf:JV n [] r with
     |false=>rw[hf] at h;exact nn h
     |true=>rw[hf] at h;cases h;exact k rfl hf
    ·rw[Xw fun w q=>h47 (qS q).1] at h;exact nn h
  ·rw[Qm h60] at h;exact nn h
theorem Dz:∀r:LN,okE n r->∀a∈r,a∈al:=by
 intro r;induction r with
 |nil=>exact fun J J h=>nomatch h
 |cons a r ih=>
  intro k;cases hf:JT n (a::r) with
  |some w=>
   rw[YK,hf] at k;refine Zd hf fun e J=>e▸fun x hx=>?_
   cases hx with
   |head=>decide
   |tail _ hx=>
    cases hx with
    |head=>decide
    |tail _ hx=>exact k.2 x hx
  |none=>
   have k:=We hf k;exact fun x hx=>(aZ.mp hx).elim (fun e=>e▸k.1) (ih k.2 x)
end
inductive Nm:Vv->Option LN->Prop
 |yes {m:LN}:m.all (Nat.blt · 128)=true->m.length<=1000->m≠[]->Nm (cvS m) (some (m.map lowC))
theorem Nm.ok{cv n}(h:Nm cv n):CvOk cv:=by
 cases h;exact Ve
theorem Nm.ne{cv n}(h:Nm cv n):n≠some []:=by
 cases h with
 |yes _ _ h=>exact fun q=>h (List.map_eq_nil_iff.mp (aY q))
def Pre(cv:Vv)(bf:LN)(ap:Vv):Prop:=∀{s dn z},JB (R61 ap s dn cv bf) nG z->JB (JZ 61 [T0] (S1 [] dn s 61 cv (some bf))) nG z
theorem G5{cv n bf}(N:Nm cv n)(hb:bf.all (Nat.blt · 128)=true)(hbl:bf.length<=1000):Pre cv bf (.bool (some (bf.map lowC)==n)):=by
 cases N with
 |yes h1 h2 h3=>
  refine fun h=>EQ h1 h2 hb hbl ?_ h
  cases e:m.map lowC==bf.map lowC with
  |true=>rw[aV.mp e];exact(aS _).symm
  |false=>exact(xV fun q=>absurd (aY q).symm (dc.mp e)).symm
structure RfOk(r:LN)(F:Rf):Prop where
 l:F.k<=F.m
 p:∀a∈r.take F.m,Pln a
 e:F.e.all Tok4.ok=true
 n:F.e.length<99
 o:F.o≠[]
section
variable{n:Option LN}{a k:Nat}{r w b l d t:LN}{h:Bool}
theorem RU:∀x∈dgs h w,Pln x:=fun x hx=>by
 have e0:∀x∈onD false,Pln x:=fun x hx=>by cases ae.mp hx;exact⟨by decide,by decide,by decide⟩
 have e1:∀x∈onD true,Pln x:=fun x hx=>by
  rcases aZ.mp hx with rfl|hx
  ·exact⟨by decide,by decide,by decide⟩
  ·cases ae.mp hx;exact⟨by decide,by decide,by decide⟩
 have:=HX x hx;cases h
 ·exact e0 x this
 ·exact e1 x this
theorem G8{pre}(hp:∀m,r.take (pre.length-1+m)=pre.tail++w.take m)(h1:∀x∈pre.tail,Pln x)(h2:pre≠[]):RfOk r (num h pre w):=by
 have hw:=ZI h w;have hon:=RU (h:=h) (w:=w);unfold num Xb;revert hw hon;generalize dgs h w=d;generalize w.drop d.length=t;intro hw hon;cases d with
 |nil=>exact⟨qF _,fun x hx=>h1 x (by
   have e:=hp 0;rw[List.take_zero,aQ] at e;exact e▸hx),rfl,qE rfl,h2⟩
 |cons a d=>
  refine⟨qF _,fun x hx=>?_,?_,?_,fun q=>nomatch q⟩
  ·have hx:x∈r.take (pre.length-1+(a::d).length+bif smc t then 1 else 0):=hx
   rw[aX,hp,<- hw] at hx;rcases bY.mp hx with hx|hx
   ·exact h1 x hx
   rw[List.take_append] at hx;rcases bY.mp hx with hx|hx
   ·exact hon x (dY hx)
   ·rw[ao] at hx
    cases hs:smc t with
    |false=>rw[hs] at hx;exact nomatch hx
    |true=>
     rw[hs] at hx;cases t with
     |nil=>exact nomatch hx
     |cons y t=>
      cases aa (hs:Nat.beq y 59=true);cases ae.mp hx;exact⟨by decide,by decide,by decide⟩
  ·show (ivT _++bif smc t then [] else [Tok4.er QP]).all Tok4.ok=true
   unfold ivT;cases ilv (numV (bs h) (a::d))<;>cases smc t<;>rfl
  ·show (ivT _++bif smc t then [] else [Tok4.er QP]).length<99
   unfold ivT;cases ilv (numV (bs h) (a::d))<;>cases smc t<;>exact qE rfl
theorem G2:RfOk r (rfN r):=by
 obtain⟨hz,t,ht⟩:=Wb (r:=r);unfold rfN;revert hz ht;generalize rw? r=z;intro hz ht;have e1:∀z∈rws,(Nat.ble z.k z.w.length,z.w.all (fun a=>!(Nat.beq a 60)&&(!(Nat.beq a 0)&&!(Nat.beq a 38))),z.e.all Tok4.ok,Nat.blt z.e.length 99)=(true,true,true,true):=JD (by kernel_rfl)
 have e1:=e1 z hz;refine⟨qE (aM (·.1) e1),fun x hx=>?_,aM (·.2.2.1) e1,qE (aM (·.2.2.2) e1),fun q=>nomatch q⟩
 have hx:x∈r.take z.w.length:=hx;rw[ht,dm] at hx;have e2:=aq.mp (aM (·.2.1) e1) x hx
 have nb:∀{c:Nat},(!(Nat.beq x c))=true->x≠c:=fun {c} h q=>by rw[q,dA] at h;exact ff h
 exact aB e2 fun a b c=>⟨nb a,nb b,nb c⟩
theorem WB:∀r:LN,RfOk r (rf r):=fun r=>by
 cases r with
 |nil=>exact⟨qF _,(fun J h=>nomatch h),rfl,qE rfl,fun q=>nomatch q⟩
 |cons a w=>
  show RfOk (a::w) (bif Jy a then r0 else bif Nat.beq a 35 then bif hd1 120 w then num true [38,35,120] w.tail else num false [38,35] w else rfN (a::w));cases Jy a with
  |true=>exact⟨qF _,(fun J h=>nomatch h),rfl,qE rfl,fun q=>nomatch q⟩
  |false=>
   cases h35:Nat.beq a 35 with
   |false=>exact G2
   |true=>
    cases aa h35;have p35:Pln 35:=⟨by decide,by decide,by decide⟩
    have p120:Pln 120:=⟨by decide,by decide,by decide⟩
    cases hh:hd1 120 w with
    |true=>
     obtain⟨w,rfl⟩:=YS hh;exact G8 (fun m=>by rw[aW];rfl) (fun x hx=>by
      rcases aZ.mp hx with rfl|hx
      ·exact p35
      ·cases ae.mp hx;exact p120) (fun q=>nomatch q)
    |false=>exact G8 (fun m=>by rw[aW];rfl) (fun x hx=>by cases ae.mp hx;exact p35) (fun q=>nomatch q)
theorem ZCs{n}:JJ ((rf r).tk r)++E n (r.drop (rf r).m)=E n (38::r):=by
 have h:=WB r;have hd:r.drop (rf r).k=(r.take (rf r).m).drop (rf r).k++r.drop (rf r).m:=by
  rw[cT];refine Eq.trans ?_ (aM (((r.drop (rf r).k).take ((rf r).m-(rf r).k))++·) (show (r.drop (rf r).k).drop ((rf r).m-(rf r).k)=_ by rw[a7,Nat.add_sub_of_le h.l]))
  exact(bJ ..).symm
 rw[ZDa,hd,Ik _ fun a ha=>h.p a (bF ha)]
 unfold Rf.tk rfI;rw (config:={}) [Qc,aT,aT];refine aM (JJ (rf r).e++·) ?_
 rw[<- aT];refine aM (·++E n (r.drop (rf r).m)) (Eq.trans ?_ bH)
 show JJ [bif (rf r).x r==[10] then Tok4.sp ((rf r).x r) else .ch ((rf r).x r)]=((rf r).x r).map It.c;generalize (rf r).x r=x;cases x==[10]<;>exact aQ _
theorem Hw:((rf r).tk r).all Tok4.ok=true/\((rf r).tk r).length<100:=by
 have h:=WB r;unfold Rf.tk;refine⟨QS h.e ?_,?_⟩
 ·have hx:((rf r).x r).isEmpty=false:=by
   unfold Rf.x;cases e:(rf r).o with
   |nil=>exact absurd e h.o
   |cons _ _=>rfl
  revert hx;generalize (rf r).x r=x;intro hx;show (Tok4.ok (bif x==[10] then .sp x else .ch x)&&true)=true;cases x==[10]
  ·show ((!x.isEmpty)&&true)=true
   rw[hx];rfl
  ·show ((!x.isEmpty)&&true)=true
   rw[hx];rfl
 ·rw[aO];exact cL h.n
end
section
variable{src r w b x:LN}{a k:Nat}{n:Option LN}{cv ap v:Vv}{tb:Option LN}{s s':Sx}{D:List Tok4}{F:List It}{H:List (Id×Ob)}{P:LN}
theorem OU:JJ [Tok4.ch x]++F=x.map .c++F:=by
 show (x.map It.c++[])++F=_;rw[aQ]
theorem XT(h0:Pre cv b ap)(g:Good 7 H)(h:JB (R61 ap s (vs D) cv b) nG (.bool true,hs s' H,P)):Stp 61 (S1 [] (vs D) s 61 cv (some b)) true ⟨[(0,T0)],hs s' H,7,P⟩:=Z6.trans (JB.toN g ⟨rfl,rfl⟩ rfl (h0 h))
def IHr(src:LN)(cv:Vv)(n:Option LN)(k:Nat):Prop:=∀(r:LN) (tb:Option LN),r.length<=k->okE n r->RT src (.n cv tb) 60 r (E n r)
theorem G6:∀a∈al,(Ju.any (·==a)||(nlt.any (·==a)&&(([32,47,62]:LN).any (·==a)||(vE:LN).any (·==a))))=true:=JD (by kernel_rfl)
theorem Nc(h:okE n (a::r)):a∈al:=Dz _ h a (.head _)
theorem Ll{z}(ha:a∈Ju):(Vv.bool z,a)∈prL:=eP.mpr ⟨.bool z,by cases z;exact .head _;exact .tail _ (.head _),ak.mpr ⟨a,ha,rfl⟩⟩
theorem GB{z}(hv:v∈sg nlt)(h2:z=true->v∈sg vE):(Vv.bool z,v)∈prE:=by
 cases z
 ·exact List.mem_append_left _ (ak.mpr ⟨v,hv,rfl⟩)
 ·exact cV _ (ak.mpr ⟨v,h2 rfl,rfl⟩)
theorem Oa(c):(c==a)=(a==c):=Bool.eq_iff_iff.mpr ⟨fun h=>aV.mpr (aV.mp h).symm,fun h=>aV.mpr (aV.mp h).symm⟩
theorem Zp{l}(h:a∈l):Vv.str [a]∈sg l:=.tail _ (ak.mpr ⟨a,h,rfl⟩)
theorem Zk(h:JV n b w=false):F61 n b w=JJ [Tok4.ch (60::47::b)]++E n w:=by
 rw[OU];unfold F61;rw[h];rfl
theorem Gm(h:JV n b w=true):F61 n b w=tg ((b++ltr w).map lowC) (JI w) (.A false []):=by
 unfold F61;rw[h]
theorem ZA(h:JV n b w=false)(k:Qw n b w):okE n w:=by
 unfold Qw at k;rw[h] at k;exact k
theorem EV(h:JV n b w=true)(k:Qw n b w):okT (JI w):=by
 unfold Qw at k;rw[h] at k;exact k.1
theorem D3(k:Qw n b (a::w)):a∈al:=by
 unfold Qw at k;cases e:JV n b (a::w)
 ·rw[e] at k;exact Nc k
 ·rw[e] at k;exact k.2 a (.head _)
theorem GP(h:(some (b.map lowC)==n)=false)(e:ltr w=[]):JV n b w=false:=by
 unfold JV;rw[e,aQ,h];rfl
theorem ZDX(N:Nm cv n)(ih:IHr src cv n k):∀(w b:LN),w.length<=k->b.length+w.length<=900->b.all (Nat.blt · 128)=true->Qw n b w->RG src (.n cv (some b)) 61 w (F61 n b w):=by
 intro w;induction w with
 |nil=>
  intro b hk hz hb h;have h2:Pre cv b (.bool (some (b.map lowC)==n)):=G5 N hb (qA (qA (qK _ _) hz) (by decide))
  have hf:JV n b []=false:=cS _;rw[Zk hf];exact .back (Q:=[.ch (60::47::b)]) (x':=.n cv (some b)) (f':=60) (r:=[]) rfl (show 1<100 by decide) (fun D s ek em hr hu=>XT h2 (JP (JO D) N.ok.b rfl) (D7 (JO D) N.ok.b (GB (.head _) fun J=>.head _) hr hu (qA (qI (qA (qK _ _) hz) _) (by decide)))) (ih [] (some b) (qG _) (ZA hf h))
 |cons a w ih0=>
  intro b hk hz hb h;have h2:Pre cv b (.bool (some (b.map lowC)==n)):=G5 N hb (qA (qA (qK _ _) hz) (by decide))
  have ha:=D3 h;have hbl:b.length<=900:=qA (qK _ _) hz;cases e:Ju.any (·==a) with
  |true=>
   have hp:pL a=true:=(YJ a ha).trans e;have hm:=Jr e;have h128:∀a∈Ju,Nat.blt a 128=true:=JD (by kernel_rfl)
   rw[Gn hp];exact .one (Q:=[]) (x':=.n cv (some (b++[a]))) (f':=61) rfl (by decide) (fun D s ek hr=>XT h2 (JP (JO D) N.ok.b rfl) (Ro (JO D) N.ok.b (Ll hm) hr (mx (qA (qI (bS 1 w.length) _) hz))))
    (ih0 (b++[a]) (qR hk) (by rw[aO,aX,aW [a].length];exact hz) (by rw[List.all_append,hb];exact(bu _).trans (h128 a hm)) (B5 hp h)).t
  |false=>
   have hp:pL a=false:=(YJ a ha).trans e;have hx:=G6 a ha;rw[e] at hx;refine bA hx fun hx1 hx2=>?_
   cases hf:JV n b (a::w) with
   |false=>
    rw[Zk hf];refine .back (Q:=[.ch (60::47::b)]) (x':=.n cv (some b)) (f':=60) (r:=a::w) rfl (show 1<100 by decide) (fun D s ek em hr hu=>XT h2 (JP (JO D) N.ok.b rfl) (D7 (JO D) N.ok.b (GB (Zp (Jr hx1)) fun e1=>?_) hr hu (qA (qI hbl _) (by decide)))) (ih (a::w) (some b) hk (ZA hf h))
    have e2:JV n b (a::w)=UF (a::w):=by
     unfold JV;rw[WW hp,aQ,e1,XC hp];rfl
    rw[e2] at hf;have hf:(a==32||(a==47||a==62))=false:=hf;refine Zp (Jr ?_);have e3:([32,47,62]:LN).any (·==a)=(a==32||(a==47||a==62)):=by
     show (32==a||(47==a||(62==a||false)))=_;rw[dG,Oa 32,Oa 47,Oa 62]
    rw[e3,hf] at hx2;exact hx2
   |true=>
    have hn:(some (b.map lowC)==n)=true:=by
     cases e1:some (b.map lowC)==n with
     |true=>rfl
     |false=>exact(GP e1 (WW hp)).symm.trans hf
    rw[hn] at h2;have hT:=EV hf h;rw[XC hp] at hT;have he:UF (a::w)=true:=by
     unfold JV at hf;rw[XC hp] at hf;exact bA hf fun J q=>q
    rw[Gm hf,WW hp,XC hp,aQ];have tgq:∀(q:TQ),q.sz+w.length<=900->okT w->RG src (q.k b) q.f w (tg (b.map lowC) w q):=fun q hq hw=>Zj hbl w.length w q (qF _) hq hw
    have hz':0+w.length<=900:=by rw[bL];exact qA (xC _) (qA (bS _ b.length) hz)
    by_cases h32:a=32
    ·subst h32
     exact .one (Q:=[]) (x':=.t ⟨b,[],false,b⟩) (f':=62) rfl (by decide) (fun D s ek hr=>XT h2 (Jw (d:=⟨b,[],false,b⟩) (JO D)) (ZAy (JO D) N.ok.b hr)) (tgq (.A false []) hz' (Wk hT (by decide)).2).t
    by_cases h47:a=47
    ·subst h47
     exact .one (Q:=[]) (x':=.t ⟨b,[],false,b⟩) (f':=63) rfl (by decide) (fun D s ek hr=>XT h2 (Jw (d:=⟨b,[],false,b⟩) (JO D)) (ZAz (JO D) N.ok.b hr)) (tgq (.S []) hz' (Wk hT (by decide)).2).t
    by_cases fS:a=62
    ·subst fS
     exact RG.emit (Q:=[]) (d:=⟨b.map lowC,[],false,b⟩) rfl (by decide) (fun D s hs=>by
      obtain⟨ek,_,hr,-,hA,-⟩:=hs;exact⟨ek,hA,XT h2 (Jw (d:=⟨b.map lowC,[],false,b⟩) (JO D) rfl) (ZA1 (JO D) N.ok.b hr (mx hbl))⟩) (ZP YB (Zt hT)).t
    ·have he:(a==32||(a==47||a==62))=true:=he
     rw[xV h32,xV h47,xV fS] at he;exact Bool.noConfusion he
theorem ZDY(N:Nm cv n)(ih:IHr src cv n k)(hk:w.length<=k)(hz:w.length<=900)(h:Qw n [] w):RG src (.n cv (some [])) 59 w (F61 n [] w):=by
 have no:ltr w=[]->JV n [] w=false:=fun e=>GP (xV N.ne.symm) e
 cases w with
 |nil=>
  have hf:=no rfl;rw[Zk hf];exact .back (Q:=[.ch [60,47]]) (x':=.n cv (some [])) (f':=60) (r:=[]) rfl (by decide) (fun D s ek em hr hu=>Dv (JO D) N.ok.b (.head _) hr hu) (ih [] (some []) (qG _) (ZA hf h))
 |cons a w=>
  have ha:=D3 h;have hx:=G6 a ha;cases e:Ju.any (·==a) with
  |true=>
   have hp:pL a=true:=(YJ a ha).trans e;have h128:∀a∈Ju,Nat.blt a 128=true:=JD (by kernel_rfl)
   rw[Gn hp];exact .one (Q:=[]) (x':=.n cv (some [a])) (f':=61) rfl (by decide) (fun D s ek hr=>Rc (JO D) N.ok.b (Jr e) hr)
    (ZDX N ih w [a] (qR hk) (by rw[aW];exact hz) (by show (Nat.blt a 128&&true)=true;rw[h128 a (Jr e)];rfl) (B5 hp h)).t
  |false=>
   have hf:=no (WW ((YJ a ha).trans e));rw[e] at hx;rw[Zk hf];exact bA hx fun hx1 J=>.back (Q:=[.ch [60,47]]) (x':=.n cv (some [])) (f':=60) (r:=a::w) rfl (by decide) (fun D s ek em hr hu=>Dv (JO D) N.ok.b (Zp (Jr hx1)) hr hu) (ih (a::w) (some []) hk (ZA hf h))
theorem ZA7:∀a∈al,(Nat.beq a 47||(vA:LN).any (·==a))=true:=JD (by kernel_rfl)
theorem ZDZ(N:Nm cv n)(ih:IHr src cv n k)(hk:r.length<=k)(hz:r.length<=900)(h:okE n (60::r)):RG src (.n cv tb) 58 r (E n (60::r)):=by
 cases r with
 |nil=>
  have hf:JT n [60]=none:=Xw fun w q=>nomatch q
  rw[Wy hf (by decide)]
  exact .back (Q:=[.ch [60]]) (x':=.n cv tb) (f':=60) (r:=[]) rfl (by decide) (fun D s ek em hr hu=>GD (JO D) N.ok.b (.head _) hr hu) (ih [] tb (qG _) (We hf h).2)
 |cons a r=>
  by_cases e:a=47
  ·subst e
   rw[TT];exact .one (Q:=[]) (x':=.n cv (some [])) (f':=59) rfl (by decide) (fun D s ek hr=>ZA6 (JO D) N.ok.b hr) (ZDY N ih (qR hk) (qR hz) (ZAv h)).t
  ·have hf:JT n (60::a::r)=none:=Xw fun w q=>e (qS q).1
   have h':=(We hf h).2;have hx:=ZA7 a (Nc h');rw[Je e] at hx;rw[Wy hf (by decide)]
   exact .back (Q:=[.ch [60]]) (x':=.n cv tb) (f':=60) (r:=a::r) rfl (by decide) (fun D s ek em hr hu=>GD (JO D) N.ok.b (Zp (Jr hx)) hr hu) (ih (a::r) tb hk h')
theorem ZAo(h:pR a=false):Pln a:=⟨fun q=>absurd (q▸h:pR 60=false) (by decide),fun q=>absurd (q▸h:pR 0=false) (by decide),fun q=>absurd (q▸h:pR 38=false) (by decide)⟩
theorem MA(h:Qx a=true):Pln a:=⟨fun q=>absurd (q▸h:Qx 60=true) (by decide),fun q=>absurd (q▸h:Qx 0=true) (by decide),fun q=>absurd (q▸h:Qx 38=true) (by decide)⟩
theorem Ia{p}(hp:∀a,p a=true->Pln a)(ha:Pln a)(h:okE n r):E n (a::r)=(a::r.takeWhile p).map .c++E n (r.drop (r.takeWhile p).length)/\okE n (r.drop (r.takeWhile p).length):=by
 have hl:∀a∈r.takeWhile p,Pln a:=fun a ha=>hp a (Xz r a ha)
 have e:=cy.mp (qM p (l:=r));refine⟨?_,Dy (r.takeWhile p) hl (e.symm▸h)⟩;rw[Wy (Qm ha.1) ha.2.2,Op ha.2.1];exact aM ([It.c a]++·) ((aM (E n) e.symm).trans (Ik _ hl))
theorem ZDW(N:Nm cv n)(ih:IHr src cv n k)(hk:r.length<=k)(hz:r.length<=600)(h:okE n (38::r)):RT src (.n cv tb) 94 r (E n (38::r)):=by
 have hf:JT n (38::r)=none:=Qm (by decide)
 have h1:=OK hf h;have ho:=WB r;rw[<- ZCs];exact XK (P:=fun J s=>At src r s) (x':=.n cv tb) (f':=60) (r':=r.drop (rf r).m) Hw.1 Hw.2 (fun D s A=>ZAk A (h1.1.2 rfl) (Dz _ h1.2) hz N.ok.b) (ih _ tb (qA (dle _ _) hk) (Dy (r.take (rf r).m) ho.p (by rw[bJ];exact h1.2)))
theorem V0:∀a∈al,(Nat.beq a 60||(Nat.beq a 0||(Nat.beq a 38||(Nat.beq a 32||pls.any (·==a)))))=true:=JD (by kernel_rfl)
theorem V5(N:Nm cv n):∀(k:Nat) (r:LN) (tb:Option LN),k<=600->r.length<=k->okE n r->RG src (.n cv tb) 60 r (E n r):=by
 intro k;induction k with
 |zero=>
  intro r tb _ hk _;cases r with
  |nil=>exact .stop N.ok fun D s s' hr=>Dt (JO D) N.ok.b hr
  |cons _ _=>exact absurd hk (xK _)
 |succ k ih0=>
  intro r tb hk0 hk h;cases r with
  |nil=>exact .stop N.ok fun D s s' hr=>Dt (JO D) N.ok.b hr
  |cons a r=>
   have hz:(a::r).length<=600:=qA hk hk0;have hz9:(a::r).length<=900:=qA hz (by decide)
   have hj:r.length<=k:=xQ hk;have ih:IHr src cv n k:=fun r tb h1 h2=>(ih0 r tb (qR hk0) h1 h2).t
   by_cases e:a=60
   ·subst e
    exact .one (Q:=[]) (x':=.n cv tb) (f':=58) rfl (by decide) (fun D s ek hr=>RP (JO D) N.ok.b hr) (ZDZ N ih hj (qR hz9) h).t
   by_cases e8:a=38
   ·subst e8
    exact .one (Q:=[]) (x':=.n cv tb) (f':=94) rfl (by decide) (fun D s ek hr=>LQ (JO D) N.ok.b hr) (ZDW N ih hj (qR hz) h)
   have h2:=(We (Qm e) h).2;by_cases e0:a=0
   ·subst e0
    rw[Wy (Qm e) e8];exact .one (Q:=[.er Qq,.ch [65533]]) (x':=.n cv tb) (f':=60) rfl (by decide) (fun D s ek hr=>LM (JO D) N.ok.b hr) (ih r tb hj h2)
   have hP:Pln a:=⟨e,e0,e8⟩;by_cases e3:a=32
   ·subst e3
    obtain⟨k1,k2⟩:=Ia (p:=fun a=>Qx a==true) (fun a h=>MA (aV.mp h)) hP h2
    rw[k1,show ∀F:List It,(32::r.takeWhile fun a=>Qx a==true).map It.c++F=JJ [Tok4.sp (32::r.takeWhile fun a=>Qx a==true)]++F from fun F=>(OU (x:=32::r.takeWhile fun a=>Qx a==true)).symm]
    exact .un (Q:=[.sp (32::r.takeWhile fun a=>Qx a==true)]) (x':=.n cv tb) (f':=60) rfl (show 1<100 by decide) NK (opp:=true) rfl (fun D s ek em h1 h2=>RO (JO D) N.ok.b h1 h2 (mx (qA (aW _ _▸qJ (qM _).length_le) hz9))) (ih _ tb (qA (dle _ _) hj) k2)
   have hm:=V0 a (Nc h);rw[Je e,Je e0,Je e8,Je e3] at hm;obtain⟨k1,k2⟩:=Ia (p:=fun a=>pR a==false) (fun a h=>ZAo (aV.mp h)) hP h2
   rw[k1,show ∀F:List It,(a::r.takeWhile fun a=>pR a==false).map It.c++F=JJ [Tok4.ch (a::r.takeWhile fun a=>pR a==false)]++F from fun F=>(OU (x:=a::r.takeWhile fun a=>pR a==false)).symm]
   exact .un (Q:=[.ch (a::r.takeWhile fun a=>pR a==false)]) (x':=.n cv tb) (f':=60) rfl (show 1<100 by decide) ZAn (opp:=false) rfl (fun D s ek em h1 h2=>LO (JO D) N.ok.b (Jr hm) h1 h2 (mx (qA (aW _ _▸qJ (qM _).length_le) hz9))) (ih _ tb (qA (dle _ _) hj) k2)
end
noncomputable def rp1(a:Nat):Nat:=bif Nat.beq a 0 then 65533 else a
def rp(l:LN):LN:=l.map rp1
noncomputable def bkS(pr:LN):LN:=pr.dropWhile fun a=>Nat.beq a 32
noncomputable def ZY:LN->Bool
 |[]=>false
 |c::_=>!(Nat.beq c 47)
def Js(pr:LN):Bool:=Nat.blt (bkS pr).length pr.length&&ZY (bkS pr)
noncomputable def wb(a:Nat):Bool:=Nat.beq a 32||Nat.beq a 47
def WG:LN->Bool
 |[]=>true
 |a::_=>wb a
def wd(pr:LN):LN:=rp (pr.takeWhile fun a=>!(wb a)).reverse
def wF(b:Bool)(a:Nat):List LN:=bif Nat.beq a 60 then [bif b then Ou else Ot] else bif Nat.beq a 0 then [Qq] else []
def dpF(ws:List LN)(w:LN):List LN:=bif ws.any (w.map lowC==·) then [QY] else []
def wsN(r:LN)(ws:List LN)(w:LN):List LN:=bif WG r then ws++[w.map lowC] else ws
def J3(c:Bool)(r:LN):TQ->List LN
 |.A _ _=>[]
 |.S _=>bif r.isEmpty then bif c then [] else [XM] else [Uq]
 |.N ws w=>bif WG r then (bif r.isEmpty&&!c then [Qr] else [])++dpF ws w else []
def stF(c:Bool)(a:Nat)(r pr:LN)(ws:List LN):List LN×List LN:=
 bif Nat.beq a 47 then (J3 c r (.S ws),ws) else bif Nat.beq a 32 then ([],ws) else (wF (Js pr) a++J3 c r (.N ws (wd (a::pr))),wsN r ws (wd (a::pr)))
def enF(c:Bool)(pr:LN):List LN:=bif Nat.blt (bkS pr).length pr.length&&!c then [bif Js pr then Ur else Us] else []
noncomputable def inF(c:Bool):LN->LN->List LN->List LN×List LN
 |[],pr,ws=>(enF c pr,ws)
 |a::r,pr,ws=>((stF c a r pr ws).1++(inF c r (a::pr) (stF c a r pr ws).2).1,(inF c r (a::pr) (stF c a r pr ws).2).2)
noncomputable def KL:LN->Bool
 |[]=>false
 |x::_=>Nat.beq x 47
noncomputable def QR:LN->LN->Bool
 |[],pr=>KL pr
 |a::r,pr=>QR r (a::pr)
noncomputable def ers(l:List LN):List It:=l.map .e
noncomputable def clo(c:Bool)(tl:LN):LN:=bif c then 62::tl else []
def fin(n:LN)(c:Bool)(tl:LN)(ws:List LN)(sc:Bool):List It:=bif c then emI n ws sc++UP tl else []
structure IA(c:Bool)(pr r:LN)(b:Bool):Prop where
 h:(pr=[]/\b=false/\(r=[]->c=true))\/(∃p,pr=32::p)/\b=Js pr
def Inv(c:Bool)(pr r:LN)(ws:List LN):TQ->Prop
 |.A b ws0=>ws0=ws/\IA c pr r b
 |.S ws0=>ws0=ws/\∃p,pr=47::p
 |.N ws0 w=>(∃x p,pr=x::p/\wb x=false)/\w=wd pr/\ws=wsN r ws0 w
section
variable{c b:Bool}{a x:Nat}{r pr p n w tl:LN}{ws ws0:List LN}{q:TQ}
theorem NS{n}:Nat.blt n n=false:=bW.mpr fun q=>xS _ (qE q:n<n)
theorem Io:JJ (wT b a)=ers (wF b a):=by
 unfold wT wF;cases Nat.beq a 60
 ·cases Nat.beq a 0<;>rfl
 ·rfl
theorem Zf:JJ (Jx ws w)=ers (dpF ws w):=by
 unfold Jx dpF;cases ws.any (w.map lowC==·)<;>rfl
theorem NO{l l'}:ers (l++l')=ers l++ers l':=bH
theorem Im:wW a=[rp1 a]:=by
 unfold wW rp1;cases Nat.beq a 0<;>rfl
theorem Nq:bkS (32::p)=bkS p:=rfl
theorem YC(h:Nat.beq x 32=false):bkS (x::p)=x::p:=by
 unfold bkS;rw[dj,h];rfl
theorem DC(h:Nat.beq x 32=false):Js (x::p)=false:=by
 unfold Js;rw[YC h,NS];rfl
theorem Ie:∀p:LN,(bkS p).length<=p.length:=fun l0=>by
 induction l0 with
 |nil=>
  exact qF _
 |cons x p ih=>
  cases h:Nat.beq x 32 with
  |true=>
   unfold bkS;rw[dj,h];exact xO (ih)
  |false=>rw[YC h];exact qF _
theorem Y2:Js (32::p)=ZY (bkS p):=by
 unfold Js;rw[Nq,show Nat.blt (bkS p).length (32::p).length=true from bg (qJ (Ie p))];rfl
theorem Co(h:p=[]\/∃y,p=32::y):Js (32::p)=Js p:=by
 rw[Y2];rcases h with rfl|⟨y,rfl⟩
 ·rfl
 ·rw[Y2,Nq]
theorem Da(h:wb x=false):wd (x::p)=wd p++[rp1 x]:=by
 unfold wd rp;rw[aw,h,<- List.map_singleton (f:=rp1),<- bH,<- bt];rfl
theorem Hf(h:wb x=true):wd (x::p)=[]:=by
 unfold wd;rw[aw,h];rfl
theorem Nz(h1:a≠32)(h2:a≠47):wb a=false:=by
 unfold wb;rw[Je h1,Je h2];rfl
theorem Oe(h:wb x=false):Nat.beq x 32=false:=(dZ.mp h).1
theorem Ra(fS:a≠62)(h32:a≠32)(h47:a≠47):Qp n b ws a=(ers (wF b a),some (.N ws [rp1 a])):=by
 unfold Qp;rw[aN fS,aN h32,aN h47,Io,Im]
theorem RZ(fS:a≠62)(h32:a≠32)(h47:a≠47):Jq n (.N ws w) a=(ers (wF false a),some (.N ws (w++[rp1 a]))):=by
 unfold Jq;dsimp only;rw[if_neg fS,if_neg h32,if_neg h47,Io,Im]
theorem N8(h32:a≠32)(h47:a≠47):stF c a r pr ws=(wF (Js pr) a++J3 c r (.N ws (wd (a::pr))),wsN r ws (wd (a::pr))):=by
 unfold stF;rw[Je h32,Je h47];rfl
theorem O6(hb:b=Js pr)(hw:wd pr=[])(hs:Js (32::pr)=b)(fS:a≠62):∃o q',Qp n b ws a=(ers o,some q')/\(stF c a r pr ws).1=o++J3 c r q'/\Inv c (a::pr) r (stF c a r pr ws).2 q':=by
 by_cases h32:a=32
 ·subst h32
  exact⟨[],.A b ws,rfl,rfl,rfl,⟨.inr ⟨⟨_,rfl⟩,hs.symm⟩⟩⟩
 by_cases h47:a=47
 ·subst h47
  exact⟨[],.S ws,rfl,rfl,rfl,_,rfl⟩
 ·have hx:=Nz h32 h47
  have e:wd (a::pr)=[rp1 a]:=by rw[Da hx,hw];rfl
  refine⟨wF b a,.N ws [rp1 a],Ra fS h32 h47,?_⟩;rw[N8 h32 h47,e,hb];exact⟨rfl,⟨_,_,rfl,hx⟩,e.symm,rfl⟩
theorem MJ(hI:Inv c pr (a::r) ws q)(fS:a≠62):∃o q',Jq n q a=(ers o,some q')/\J3 c (a::r) q++(stF c a r pr ws).1=o++J3 c r q'/\Inv c (a::pr) r (stF c a r pr ws).2 q':=by
 cases q with
 |A b ws0=>
  obtain⟨rfl,h⟩:=hI;rcases h.h with ⟨rfl,rfl,-⟩|⟨⟨p,rfl⟩,rfl⟩
  ·exact O6 rfl rfl rfl fS
  ·exact O6 rfl (Hf rfl) (Co (.inr ⟨_,rfl⟩)) fS
 |S ws0=>
  obtain⟨rfl,p,rfl⟩:=hI;obtain⟨o,q',h1,h2,h3⟩:=O6 (n:=n) (c:=c) (a:=a) (r:=r) (ws:=ws0) (b:=false) (pr:=47::p) (DC rfl).symm (Hf rfl) (Y2.trans rfl) fS;refine⟨Uq::o,q',?_,?_,h3⟩
  ·unfold Jq;dsimp only;rw[if_neg fS,h1];rfl
  ·rw[h2];rfl
 |N ws0 w=>
  obtain⟨⟨x,p,rfl,hx⟩,hw,hws⟩:=hI;have hl:=DC (p:=p) (Oe hx);by_cases h32:a=32
  ·subst h32
   subst hws;refine⟨dpF ws0 w,.A true (ws0++[w.map lowC]),?_,aQ _|>.trans (aQ _).symm,rfl,⟨.inr ⟨⟨_,rfl⟩,?_⟩⟩⟩
   ·unfold Jq;dsimp only;rw[if_neg fS,if_pos rfl,Zf]
   ·rw[Y2,YC (Oe hx)]
    show true=!(Nat.beq x 47);rw[(dZ.mp hx).2];try rfl
  by_cases h47:a=47
  ·subst h47
   subst hws;refine⟨dpF ws0 w,.S (ws0++[w.map lowC]),?_,rfl,rfl,_,rfl⟩;unfold Jq;dsimp only;rw[if_neg fS,if_neg h32,if_pos rfl,Zf]
  ·have ha:=Nz h32 h47
   have hn:WG (a::r)=false:=ha;have hws:ws=ws0:=by rw[hws];unfold wsN;rw[hn];rfl
   subst hws;have e:wd (a::x::p)=w++[rp1 a]:=by rw[Da ha,hw]
   refine⟨wF false a,.N ws (w++[rp1 a]),RZ fS h32 h47,?_⟩;rw[N8 h32 h47,e,hl,show J3 c (a::r) (.N ws w)=[] by unfold J3;rw[hn];rfl]
   exact⟨rfl,⟨_,_,rfl,ha⟩,e.symm,rfl⟩
theorem ZAI:∀(r pr:LN) (q:TQ) (ws:List LN),Inv c pr r ws q->(∀a∈r,a≠62)->tg n (r++clo c tl) q=ers (J3 c r q)++(ers (inF c r pr ws).1++fin n c tl (inF c r pr ws).2 (QR r pr)):=fun l0=>by
 induction l0 with
 |nil=>
  intro pr q ws hI _;cases c with
  |true=>
   show (Jq n q 62).1++tgK (tg n tl) tl (Jq n q 62).2=ers (J3 true [] q)++(ers (enF true pr)++(emI n ws (KL pr)++UP tl));have hE:enF true pr=[]:=by unfold enF;rw[show (!true)=false from rfl,cS];rfl
   rw[hE];cases q with
   |A b ws0=>
    obtain⟨rfl,h⟩:=hI;rcases h.h with ⟨rfl,rfl,-⟩|⟨⟨p,rfl⟩,rfl⟩<;>rfl
   |S ws0=>
    obtain⟨rfl,p,rfl⟩:=hI;rfl
   |N ws0 w=>
    obtain⟨⟨x,p,rfl,hx⟩,hw,rfl⟩:=hI;have hx2:KL (x::p)=false:=(dZ.mp hx).2;rw[hx2];show (JJ (Jx ws0 w)++emI n (ws0++[w.map lowC]) false)++UP tl=ers (dpF ws0 w)++(emI n (ws0++[w.map lowC]) false++UP tl);rw[Zf,aT]
  |false=>
   show eoI q=ers (J3 false [] q)++(ers (enF false pr)++[]);rw[aQ];cases q with
   |A b ws0=>
    obtain⟨rfl,h⟩:=hI;rcases h.h with ⟨rfl,rfl,h0⟩|⟨⟨p,rfl⟩,rfl⟩
    ·exact absurd (h0 rfl) (by decide)
    ·have hE:enF false (32::p)=[bif Js (32::p) then Ur else Us]:=by
      unfold enF;rw[Nq,show Nat.blt (bkS p).length (32::p).length=true from bg (qJ (Ie p))];rfl
     rw[hE];rfl
   |S ws0=>
    obtain⟨rfl,p,rfl⟩:=hI;have hE:enF false (47::p)=[]:=by
     unfold enF;rw[YC rfl,NS];rfl
    rw[hE];rfl
   |N ws0 w=>
    obtain⟨⟨x,p,rfl,hx⟩,hw,rfl⟩:=hI;have hE:enF false (x::p)=[]:=by
     unfold enF;rw[YC (Oe hx),NS];rfl
    rw[hE];show It.e Qr::JJ (Jx ws0 w)=ers ([Qr]++dpF ws0 w)++[];rw[Zf,aQ];rfl
 |cons a r ih=>
  intro pr q ws hI hr;obtain⟨o,q',h1,h2,h3⟩:=MJ (n:=n) hI (hr a (.head _));show (Jq n q a).1++tgK (tg n (r++clo c tl)) (r++clo c tl) (Jq n q a).2=_;rw[h1];show ers o++tg n (r++clo c tl) q'=_;rw[ih (a::pr) q' _ h3 fun x hx=>hr x (.tail _ hx)]
  show _=_++(ers ((stF c a r pr ws).1++(inF c r (a::pr) (stF c a r pr ws).2).1)++_);rw[NO,aT,<- aT (ers (J3 c (a::r) q)),<- NO,h2,NO,aT];rfl
end
noncomputable def endN(n:Option LN):LN->Nat
 |[]=>0
 |a::r=>match JT n (a::r) with
  |some _=>0
  |none=>endN n r+1
def WO(u v:LN):Prop:=u=v\/∃u' v',u=60::u'/\v=60::v'
def tI(a:Nat):List Tok4:=if a=0 then [.er Qq,.ch [65533]] else [.ch [a]]
section
variable{n:Option LN}{a e:Nat}{u v p r w b x tx:LN}
theorem Y5(h:pL a=false):JV n b (a::w)=(some (b.map lowC)==n&&UF (a::w)):=by
 unfold JV;rw[WW h,XC h,aQ]
theorem Cz:∀(p b:LN),JV n b (p++60::u)=JV n b (p++60::v):=by
 intro p;induction p with
 |nil=>
  intro b;show JV n b (60::u)=JV n b (60::v);rw[Y5 (by decide),Y5 (by decide)];rfl
 |cons a p ih=>
  intro b;show JV n b (a::(p++60::u))=JV n b (a::(p++60::v));cases h:pL a with
  |true=>rw[Y6 h,Y6 h,ih]
  |false=>rw[Y5 h,Y5 h];rfl
theorem GQ:JT n (60::47::w)=bif JV n [] w then some w else none:=rfl
theorem DJ(h:WO u v)(k:JT n (a::(p++u))=none):JT n (a::(p++v))=none:=by
 rcases h with rfl|⟨u',v',rfl,rfl⟩
 ·exact k
 by_cases h60:a=60
 ·subst h60
  cases p with
  |nil=>exact Xw fun w q=>absurd (qS q).1 (by decide)
  |cons b p=>
   by_cases h47:b=47
   ·subst h47
    have k:JT n (60::47::(p++60::u'))=none:=k;show JT n (60::47::(p++60::v'))=none;rw[GQ] at k ⊢;rw[Cz (u:=v') (v:=u')];cases hf:JV n [] (p++60::u') with
    |false=>rfl
    |true=>rw[hf] at k;exact nn k.symm
   ·exact Xw fun w q=>h47 (qS q).1
 ·exact Qm h60
theorem HW:endN n (a::r)=match JT n (a::r) with|some _=>0|none=>endN n r+1:=rfl
theorem XJ(h:JT n (a::r)=some w):endN n (a::r)=0:=by rw[HW,h]
theorem U9(h:JT n (a::r)=none):endN n (a::r)=endN n r+1:=by rw[HW,h]
theorem EP:∀(w p:LN),60∉w->w.isPrefixOf (p++60::u)=w.isPrefixOf (p++60::v):=by
 intro w;induction w with
 |nil=>exact fun J J=>rfl
 |cons c w ih=>
  intro p h;cases p with
  |nil=>
   have e:(c==60)=false:=xV fun q=>h (q▸.head _)
   show (c==60&&w.isPrefixOf u)=(c==60&&w.isPrefixOf v);rw[e];rfl
  |cons a p=>exact aM ((c==a)&&·) (ih p fun q=>h (.tail _ q))
theorem ZBZ{α:Type}{p q}:∀{l:List α},(∀x∈l,p x=q x)->l.find? p=l.find? q:=by
 intro l;induction l with
 |nil=>exact fun J=>rfl
 |cons x l ih=>
  intro h;rw[bq,bq,h x (.head _),ih fun y hy=>h y (.tail _ hy)]
theorem I5:∀z∈rws,60∉z.w:=fun z hz q=>by
 have e:∀z∈rws,z.w.contains 60=false:=JD (by kernel_rfl)
 exact absurd (dM.mpr q) (bW.mp (e z hz))
theorem LA:rw? (p++60::u)=rw? (p++60::v):=by
 unfold rw?;rw[ZBZ fun z hz=>EP z.w p (I5 z hz)]
theorem HR:∀{p:LN},(p++60::u).head?=(p++60::v).head?:=fun {p}=>by cases p<;>rfl
theorem ZAQ{l l'}(h:l.head?=l'.head?):smc l=smc l':=by
 cases l<;>cases l'<;>first|rfl|exact nn h|exact nn h.symm|(cases h;rfl)
theorem ZBW{l l'}(h:l.head?=l'.head?):hd1 a l=hd1 a l':=by
 cases l<;>cases l'<;>first|rfl|exact nn h|exact nn h.symm|(cases h;rfl)
theorem IT{m l l'}(h:l.head?=l'.head?):hdN m l=hdN m l':=by
 cases l<;>cases l'<;>first|rfl|exact nn h|exact nn h.symm|(cases h;rfl)
theorem DP{h}:∀p:LN,dgs h (p++60::u)=dgs h (p++60::v)/\((p++60::u).drop (dgs h (p++60::u)).length).head?=((p++60::v).drop (dgs h (p++60::v)).length).head?:=by
 have e60:dg (bs h) 60=false:=by cases h<;>rfl
 intro p;induction p with
 |nil=>
  have e:∀u,dgs h (60::u)=[]:=fun u=>by unfold dgs;rw[aw,e60];rfl
  show dgs h (60::u)=dgs h (60::v)/\((60::u).drop (dgs h (60::u)).length).head?=((60::v).drop (dgs h (60::v)).length).head?;rw[e,e];exact⟨rfl,rfl⟩
 |cons a p ih=>
  cases ha:dg (bs h) a with
  |true=>
   have e:∀l,dgs h (a::l)=a::dgs h l:=fun l=>by unfold dgs;rw[aw,ha];rfl
   show dgs h (a::(p++60::u))=dgs h (a::(p++60::v))/\((a::(p++60::u)).drop (dgs h (a::(p++60::u))).length).head?=((a::(p++60::v)).drop (dgs h (a::(p++60::v))).length).head?;rw[e,e];exact⟨aM (a::·) ih.1,ih.2⟩
  |false=>
   have e:∀l,dgs h (a::l)=[]:=fun l=>by unfold dgs;rw[aw,ha];rfl
   show dgs h (a::(p++60::u))=dgs h (a::(p++60::v))/\((a::(p++60::u)).drop (dgs h (a::(p++60::u))).length).head?=((a::(p++60::v)).drop (dgs h (a::(p++60::v))).length).head?;rw[e,e];exact⟨rfl,rfl⟩
theorem B6{h pre}:num h pre (p++60::u)=num h pre (p++60::v):=by
 obtain⟨e1,e2⟩:=DP (u:=u) (v:=v) (h:=h) p;unfold num Xb;rw[ZAQ e2,e1]
theorem EM:∀p:LN,rf (p++60::u)=rf (p++60::v)/\okR (p++60::u)=okR (p++60::v):=by
 intro p;cases p with
 |nil=>exact⟨rfl,rfl⟩
 |cons a p=>
  have eh:hd1 120 (p++60::u)=hd1 120 (p++60::v):=ZBW HR;have et:(bif hd1 120 (p++60::u) then num true [38,35,120] (p++60::u).tail else num false [38,35] (p++60::u))=bif hd1 120 (p++60::v) then num true [38,35,120] (p++60::v).tail else num false [38,35] (p++60::v):=by
   rw[eh,B6 (h:=false) (v:=v)];cases p with
   |nil=>rfl
   |cons b p=>
    show (bif Nat.beq b 120 then num true [38,35,120] (p++60::u) else _)=bif Nat.beq b 120 then num true [38,35,120] (p++60::v) else _;rw[B6 (v:=v)]
  have eo:(!(hd1 120 (p++60::u))||hdN [69,101] ((p++60::u).tail.drop (dgs true (p++60::u).tail).length))=(!(hd1 120 (p++60::v))||hdN [69,101] ((p++60::v).tail.drop (dgs true (p++60::v).tail).length)):=by
   rw[eh];cases p with
   |nil=>rfl
   |cons b p=>exact aM (!(Nat.beq b 120)||·) (IT (DP p).2)
  have en:rfN (a::(p++60::u))=rfN (a::(p++60::v))/\okN (a::(p++60::u))=okN (a::(p++60::v)):=by
   have e:rw? (a::(p++60::u))=rw? (a::(p++60::v)):=LA (p:=a::p);unfold rfN okN;rw[e];refine⟨rfl,IT ?_⟩;obtain⟨hz,t,ht⟩:=Wb (r:=a::(p++60::v));obtain⟨_,t',ht'⟩:=Wb (r:=a::(p++60::u));rw[e] at ht';have hn:=I5 _ hz;revert ht ht' hn;generalize (rw? (a::(p++60::v))).w=w;intro ht ht' hn;show ((a::p++60::u).drop w.length).head?=((a::p++60::v).drop w.length).head?;have hl:w.length<=(a::p).length:=dI fun q=>hn (by
    have e1:w[(a::p).length]?=(a::p++60::v)[(a::p).length]?:=by
     rw[show a::p++60::v=w++t from ht,List.getElem?_append_left q]
    rw[d7 (qF _),eF] at e1;exact bC e1)
   rw[cN hl,cN hl];exact HR
  constructor
  ·show (bif Jy a then r0 else bif Nat.beq a 35 then _ else rfN (a::(p++60::u)))=bif Jy a then r0 else bif Nat.beq a 35 then _ else rfN (a::(p++60::v))
   rw[en.1];exact aM (fun x=>bif Jy a then r0 else bif Nat.beq a 35 then x else rfN (a::(p++60::v))) et
  ·show (Jy a||bif Nat.beq a 35 then _ else okN (a::(p++60::u)))=(Jy a||bif Nat.beq a 35 then _ else okN (a::(p++60::v)))
   rw[en.2];exact aM (fun x=>Jy a||bif Nat.beq a 35 then x else okN (a::(p++60::v))) eo
theorem B2(h:WO u v):rf (p++u)=rf (p++v)/\okR (p++u)=okR (p++v):=by
 rcases h with rfl|⟨u',v',rfl,rfl⟩
 ·exact⟨rfl,rfl⟩
 ·exact EM p
noncomputable def JW(n:Option LN):LN->Nat->List Tok4
 |[]=>fun J=>[]
 |a::r=>fun k=>bif Nat.beq k 0 then (match JT n (a::r) with
   |some _=>[]
   |none=>bif Nat.beq a 38 then ((rf r).e++[.ch (rf r).o])++JW n r (rf r).k else tI a++JW n r 0) else JW n r (k-1)
noncomputable def okA:LN->Prop
 |[]=>True
 |a::r=>(a=38->okR r=true)/\okA r
theorem Wg:JW n (a::r) 0=match JT n (a::r) with|some _=>[]|none=>bif Nat.beq a 38 then ((rf r).e++[.ch (rf r).o])++JW n r (rf r).k else tI a++JW n r 0:=rfl
theorem Eu:JJ (tI a)=rI a:=by
 unfold tI rI;by_cases h:a=0
 ·subst h;rfl
 ·rw[aN h,aN h];rfl
theorem Ij:∀(tx:LN) (k:Nat),(∀a∈tx.take k,a≠60)->WO (tx.drop (endN n tx)) x->EE n (tx.take (endN n tx)++x) k=JJ (JW n tx k)++E n x:=by
 intro tx;induction tx with
 |nil=>
  intro k _ hs;have e:x=[]:=by
   rcases hs with h|⟨_,_,h,_⟩
   ·exact h.symm
   ·exact nomatch h
  subst e;rfl
 |cons a r ih=>
  intro k hk hs;cases hf:JT n (a::r) with
  |some w=>
   rw[XJ hf];cases k with
   |zero=>rw[Wg,hf];rfl
   |succ k=>exact absurd (Zd hf fun e J=>(qS e).1) (hk a (.head _))
  |none=>
   rw[U9 hf] at hs ⊢;have hs:WO (r.drop (endN n r)) x:=hs;have hr:r.take (endN n r)++r.drop (endN n r)=r:=bJ ..;have hk':JT n (a::(r.take (endN n r)++x))=none:=DJ hs (by rw[hr];exact hf)
   cases k with
   |succ k=>exact ih k (fun y hy=>hk y (.tail _ hy)) hs
   |zero=>
    show E n (a::(r.take (endN n r)++x))=_;rw[E_c,hk',Wg,hf];have er:rf (r.take (endN n r)++x)=rf r:=by rw[<- (B2 hs).1,hr]
    by_cases h38:a=38
    ·subst h38
     show rfI _++EE n _ (rf (r.take (endN n r)++x)).k=JJ (((rf r).e++[.ch (rf r).o])++JW n r (rf r).k)++_;unfold rfI;have ho:=WB r;rw[er,ih _ (fun y hy=>(ho.p y ((d8 ho.l).subset hy)).1) hs,Qc,Qc,<- aT]
     exact aM (fun y=>((JJ (rf r).e++y)++JJ (JW n r (rf r).k))++E n x) (aQ _).symm
    ·rw[Je h38]
     show rI a++EE n (r.take (endN n r)++x) 0=JJ (tI a++JW n r 0)++_;rw[ih 0 (fun J h=>nomatch h) hs,Qc,Eu,aT]
theorem Dx:∀tx:LN,(∀a∈tx,a∈al)->okA tx->WO (tx.drop (endN n tx)) x->okE n x->okE n (tx.take (endN n tx)++x):=by
 intro tx;induction tx with
 |nil=>exact fun J J J h=>h
 |cons a r ih=>
  intro ha ho hs hx;cases hf:JT n (a::r) with
  |some w=>rw[XJ hf];exact hx
  |none=>
   rw[U9 hf] at hs ⊢;have hs:WO (r.drop (endN n r)) x:=hs;have hr:r.take (endN n r)++r.drop (endN n r)=r:=bJ ..;have hk:JT n (a::(r.take (endN n r)++x))=none:=DJ hs (by rw[hr];exact hf)
   show okE n (a::(r.take (endN n r)++x));rw[YK,hk];exact⟨⟨ha a (.head _),fun q=>by rw[<- (B2 hs).2,hr];exact ho.1 q⟩,ih (fun y hy=>ha y (.tail _ hy)) ho.2 hs hx⟩
theorem Xx:∀tx:LN,endN n tx<=tx.length:=by
 intro tx;induction tx with
 |nil=>exact qF _
 |cons a r ih=>
  cases hf:JT n (a::r) with
  |some w=>rw[XJ hf];exact qG _
  |none=>rw[U9 hf];exact qJ ih
theorem DL:∀tx:LN,endN n tx<tx.length->∃w,tx.drop (endN n tx)=60::47::w/\JV n [] w=true:=by
 intro tx;induction tx with
 |nil=>exact fun h=>absurd h (xS _)
 |cons a r ih=>
  intro h;cases hf:JT n (a::r) with
  |some w=>rw[XJ hf];exact Zd hf fun h1 h2=>⟨w,h1,h2⟩
  |none=>
   rw[U9 hf] at h ⊢;exact ih (xH h)
noncomputable def ins(w:LN):LN:=w.takeWhile fun a=>!(Nat.beq a 62)
def cl?(w:LN):Bool:=Nat.blt (ins w).length w.length
theorem ZBM:∀(w:LN),∀a∈ins w,a≠62:=fun w a h q=>by
 have h:=Xz (p:=fun a=>!(Nat.beq a 62)) w a h
 rw[q] at h;exact ff h
theorem NL(h:cl? w=false):ins w=w:=(qM _).eq_of_length (xN (qM _).length_le (bM.mp fun q=>ff (h.symm.trans (bg q:cl? w=true))))
theorem Y3(h:Nat.beq a 62=false):ins (a::w)=a::ins w:=by
 unfold ins;rw[aw,h];rfl
theorem LX{tl}(ht:tl∈QC)(c):∀(w:LN),(∀a∈w,a∈al)->okT (ins w++clo c tl):=by
 intro w;induction w with
 |nil=>
  intro _;cases c
  ·exact trivial
  ·exact ht
 |cons a w ih=>
  intro h;by_cases fS:a=62
  ·subst fS
   cases c
   ·exact trivial
   ·exact ht
  ·rw[Y3 (Je fS)]
   show okT (a::(ins w++clo c tl));show if a=62 then _ else _;rw[aN fS];exact⟨h a (.head _),ih fun x hx=>h x (.tail _ hx)⟩
theorem Nr{l m}(h:∀a∈m,a∈al)(k:l <+:m):∀a∈l,a∈al:=fun a ha=>h a (k.subset ha)
theorem NF(w):ltr w++JI w=w:=cy.mp (qM _)
theorem Bx:∀t∈QC,∀a∈t,a∈al:=by decide
theorem Lm:∀{l:LN},(∀a∈l,pL a=true)->(∀a t,v=a::t->pL a=false)->ltr (l++v)=l/\JI (l++v)=v:=by
 intro l;induction l with
 |nil=>
  intro _ h;cases v with
  |nil=>exact⟨rfl,rfl⟩
  |cons a t=>exact⟨WW (h a t rfl),XC (h a t rfl)⟩
 |cons a l ih=>
  intro h1 h2;obtain⟨k1,k2⟩:=ih (fun x hx=>h1 x (.tail _ hx)) h2
  have ha:=h1 a (.head _);exact⟨(ZB (w:=l++v) ha).trans (aM _ k1),(ZN (w:=l++v) ha).trans k2⟩
theorem M4{P:Prop}(h:UF v=true)(k:∀a t,v=a::t->pL a=false->P):P:=by
 cases v with
 |nil=>exact ff h
 |cons a t=>
  refine k a t rfl ?_;have h:(a==32||(a==47||a==62))=true:=h;rcases az.mp h with h|h
  ·rw[aV.mp h];decide
  rcases az.mp h with h|h
  ·rw[aV.mp h];decide
  ·rw[aV.mp h];decide
theorem FE{tl}(h:UF v=true):UF (ins v++clo (cl? v) tl)=true:=by
 cases v with
 |nil=>exact h
 |cons a t=>
  by_cases fS:a=62
  ·subst fS;rfl
  ·rw[Y3 (Je fS)];exact h
def tlT(tl:LN):List Tok4:=match tl with
 |[]=>[]
 |38::_=>[.ch [60]]
 |[0]=>[.er Qq,.ch [0]]
 |l=>[.ch l]
theorem ZAG:∀t∈QC,JJ (tlT t)=UP t:=JD rfl
def UQ(nm:LN)(tl v:LN):List Tok4:=(inF (cl? v) (ins v) [] []).1.map .er++bif cl? v then emT (!(inF (cl? v) (ins v) [] []).2.isEmpty) (QR (ins v) [])++.tg nm (inF (cl? v) (ins v) [] []).2 (QR (ins v) [])::tlT tl else []
theorem GN:∀l:List LN,JJ (l.map .er)=ers l:=by
 intro l;induction l with
 |nil=>rfl
 |cons a l ih=>exact aM (It.e a::·) ih
theorem Ph{nm tl}(ht:tl∈QC)(h:UF v=true):JJ (UQ nm tl v)=tg nm (ins v++clo (cl? v) tl) (.A false []):=by
 rw (config:={}) [ZAI (ins v) [] (.A false []) [] ⟨rfl,⟨.inl ⟨rfl,rfl,fun e=>?_⟩⟩⟩ (ZBM v)]
 ·unfold UQ
  rw[Qc,GN];refine aM (ers _++·) ?_
  unfold fin;cases cl? v with
  |false=>rfl
  |true=>
   show JJ (_++_)=emI _ _ _++_;rw[Qc];unfold emI;rw[aT];exact aM (fun x=>_++It.g nm _ _::x) (ZAG tl ht)
 ·cases hc:cl? v with
  |true=>rfl
  |false=>
   rw[NL hc] at e;rw[e] at h;exact h
def WM(n:Option LN)(tl tx:LN):List Tok4:=JW n tx 0++match tx.drop (endN n tx) with
 |[]=>[]
 |_::w=>UQ ((ltr w.tail).map lowC) tl (JI w.tail)
def txT(n:Option LN)(tl tx:LN):LN:=tx.take (endN n tx)++match tx.drop (endN n tx) with
 |[]=>[]
 |_::w=>60::47::(ltr w.tail++(ins (JI w.tail)++clo (cl? (JI w.tail)) tl))
theorem VX{tl}(ht:tl∈QC)(ha:∀a∈tx,a∈al)(hA:okA tx):E n (txT n tl tx)=JJ (WM n tl tx)/\okE n (txT n tl tx):=by
 unfold txT WM;by_cases fG:endN n tx<tx.length
 ·obtain⟨w,hd,hf⟩:=DL tx fG
  have hw:∀a∈w,a∈al:=fun a h=>ha a (bF (hd▸List.Mem.tail _ (.tail _ h):a∈tx.drop (endN n tx)))
  refine bA hf fun hf1 hf2=>?_
  have hf2':=FE (tl:=tl) hf2;obtain⟨k1,k2⟩:=Lm (l:=ltr w) (v:=ins (JI w)++clo (cl? (JI w)) tl) (fun a h=>Xz (p:=pL) w a h) fun a t e=>M4 hf2' fun a' t' e' h=>(qS (e'.symm.trans e)).1▸h
  have hg:JV n [] (ltr w++(ins (JI w)++clo (cl? (JI w)) tl))=true:=by
   unfold JV;rw[k1,k2,hf2'];exact(bu _).trans hf1
  have hg2:JT n (60::47::(ltr w++(ins (JI w)++clo (cl? (JI w)) tl)))=some (ltr w++(ins (JI w)++clo (cl? (JI w)) tl)):=by
   rw[GQ,hg];rfl
  have hwa:=Nr hw (⟨_,NF w⟩:ltr w <+:w);have hwb:∀a∈JI w,a∈al:=fun a h=>hw a (bF h)
  have fL:okE n (60::47::(ltr w++(ins (JI w)++clo (cl? (JI w)) tl))):=by
   rw[YK,hg2];refine⟨by rw[k2];exact LX ht _ (JI w) hwb,fun a h=>?_⟩
   rcases bY.mp h with h|h
   ·exact hwa a h
   rcases bY.mp h with h|h
   ·exact Nr hwb (qM _) a h
   ·cases hc:cl? (JI w)
    ·rw[hc] at h;exact nomatch h
    ·rw[hc] at h
     cases h with
     |head=>decide
     |tail _ h=>exact Bx tl ht a h
  have hs:WO (tx.drop (endN n tx)) (60::47::(ltr w++(ins (JI w)++clo (cl? (JI w)) tl))):=.inr ⟨47::w,_,hd,rfl⟩;have e1:=Ij (n:=n) tx 0 (fun J h=>nomatch h) hs
  have e2:=Dx tx ha hA hs fL;rw[hd];refine⟨?_,e2⟩;show EE n (tx.take (endN n tx)++60::47::(ltr w++(ins (JI w)++clo (cl? (JI w)) tl))) 0=JJ (_++UQ ((ltr w).map lowC) tl (JI w));rw[e1,Qc,TT,Gm hg,k1,k2,Ph ht hf2];rfl
 ·have he:=xN (Xx tx) (bM.mp fG)
  have hs:WO (tx.drop (endN n tx)) []:=.inl (by rw[he,ci])
  have e1:=Ij (n:=n) tx 0 (fun J h=>nomatch h) hs
  have e2:=Dx tx ha hA hs trivial;rw[be (qU he.symm)];refine⟨?_,e2⟩;show EE n (tx.take (endN n tx)++[]) 0=JJ (_++[]);rw[e1,Qc];rfl
end
def pcs:List LN:=[vJ,[62],[32],[38],[108,116],[59],[120],[60],[47],[0],[97,109,112],[35],[54],[60,47,84,73,84,76,69,62],[110,111,116],[105,110,59],[60,47],[105]]
def smp:List LN:=[vJ,[62],[32],[38],[59],[120],[60],[47],[0],[54],[60,47,84,73,84,76,69,62],[105,110,59],[60,47],[105]]
section
variable{t:LN}{ps:List LN}{a:Nat}
theorem hdx:∀ps:List LN,(∀p∈ps,p∈pcs)->hdN [69,101] (ps.flatten.drop (dgs true ps.flatten).length)=true:=by
 intro ps;induction ps with
 |nil=>exact fun J=>rfl
 |cons p ps ih=>
  intro h;have e:∀p∈pcs,(p==[54]||hdN [69,101] ((p++ps.flatten).drop (dgs true (p++ps.flatten)).length))=true:=JD (by
   show _=pcs.map fun J=>true
   kernel_rfl)
  show hdN [69,101] ((p++ps.flatten).drop (dgs true (p++ps.flatten)).length)=true;rcases az.mp (e p (h p (.head _))) with h1|h1
  ·cases aV.mp h1
   exact ih fun q hq=>h q (.tail _ hq)
  ·exact h1
theorem ZCw:∀w∈([[108,116],[97,109,112]]:List LN),∀p∈pcs,okR (w++(p++t))=true:=by
 have e1:∀w∈([[108,116],[97,109,112]]:List LN),∀p∈pcs,okR (w++(p++[]))=true:=fun w hw=>JD (by
  rcases aZ.mp hw with rfl|hw
  ·kernel_rfl
  ·cases ae.mp hw;kernel_rfl)
 have e2:∀a t,∀w∈([[108,116],[97,109,112]]:List LN),∀p∈pcs,okR (w++(p++a::t))=true:=fun a t w hw=>JD (by
  rcases aZ.mp hw with rfl|hw
  ·kernel_rfl
  ·cases ae.mp hw;kernel_rfl)
 cases t with
 |nil=>exact e1
 |cons a t=>exact e2 a t
theorem Rl:∀p∈pcs,(p==[105]||okR ([110,111,116]++(p++t)))=true:=by
 have e1:∀p∈pcs,(p==[105]||okR ([110,111,116]++(p++[])))=true:=JD (by kernel_rfl)
 have e2:∀a t,∀p∈pcs,(p==[105]||okR ([110,111,116]++(p++a::t)))=true:=fun a t=>JD (by kernel_rfl)
 cases t with
 |nil=>exact e1
 |cons a t=>exact e2 a t
theorem LW:∀p∈pcs,okR ([110,111,116,105]++(p++t))=true:=JD (by kernel_rfl)
theorem Rj:∀ps:List LN,(∀p∈ps,p∈pcs)->okR ps.flatten=true:=by
 intro ps h;cases ps with
 |nil=>rfl
 |cons p ps=>
  have hps:∀q∈ps,q∈pcs:=fun q hq=>h q (.tail _ hq)
  have e:∀p∈pcs,(smp.any (·==p)||(([[108,116],[97,109,112]]:List LN).any (·==p)||(p==[110,111,116]||p==[35])))=true:=JD (by kernel_rfl)
  have es:∀p∈smp,okR (p++ps.flatten)=true:=JD (by kernel_rfl)
  show okR (p++ps.flatten)=true;rcases az.mp (e p (h p (.head _))) with h1|h1
  ·exact es p (Jr h1)
  rcases az.mp h1 with h1|h1
  ·have hw:=Jr h1
   cases ps with
   |nil=>
    have e0:∀w∈([[108,116],[97,109,112]]:List LN),okR (w++[])=true:=JD (by kernel_rfl)
    exact e0 p hw
   |cons q ps=>exact ZCw p hw q (hps q (.head _))
  rcases az.mp h1 with h1|h1
  ·cases aV.mp h1
   cases ps with
   |nil=>rfl
   |cons q ps=>
    rcases az.mp (Rl (t:=ps.flatten) q (hps q (.head _))) with h2|h2
    ·cases aV.mp h2
     cases ps with
     |nil=>rfl
     |cons q ps=>exact LW (t:=ps.flatten) q (hps q (.tail _ (.head _)))
    ·exact h2
  ·cases aV.mp h1
   cases ps with
   |nil=>rfl
   |cons q ps=>
    have e1:∀q∈pcs,(q==[120]||okR ([35]++(q++ps.flatten)))=true:=JD (by kernel_rfl)
    rcases az.mp (e1 q (hps q (.head _))) with h2|h2
    ·cases aV.mp h2
     exact hdx ps fun q hq=>hps q (.tail _ hq)
    ·exact h2
theorem LY:∀p:LN,38∉p->okA t->okA (p++t):=by
 intro p;induction p with
 |nil=>exact fun J h=>h
 |cons a p ih=>exact fun h k=>⟨fun q=>absurd (q▸List.Mem.head _) h,ih (fun q=>h (.tail _ q)) k⟩
theorem Rk:∀ps:List LN,(∀p∈ps,p∈pcs)->okA ps.flatten:=by
 intro ps;induction ps with
 |nil=>exact fun J=>trivial
 |cons p ps ih=>
  intro h;have hps:∀q∈ps,q∈pcs:=fun q hq=>h q (.tail _ hq)
  have e:∀p∈pcs,(p==[38]||!(p.contains 38))=true:=JD (by kernel_rfl)
  rcases az.mp (e p (h p (.head _))) with h1|h1
  ·cases aV.mp h1
   exact⟨fun J=>Rj ps hps,ih hps⟩
  ·exact LY p (fun q=>absurd (dM.mpr q) (bW.mp ((cR _).mp h1))) (ih hps)
end
section
variable{C:Ora}{n:Nat}{L E:List (Nat×Vv)}{H:List (Id×Ob)}{nx:Nat}{P:LN}{s b c:LN}{i j:Int}{a k q:Nat}{z:Bool}
theorem Xn(n k:Nat):clampIx n (k:Int)=min k n:=(Nat.le_total k n).elim (fun h=>(W2 h).trans (bj h).symm) fun h=>(clamp_big h).trans (eQ h).symm
theorem Kq{α:Type}(s:List α)(j):s.take (min j s.length)=s.take j:=(Nat.le_total j s.length).elim (fun h=>aM (s.take ·) (bj h)) fun h=>by rw[eQ h,bI,bz h]
theorem DN(t:LN){m}(h:t.length<=m)(i):t.drop (min i m)=t.drop i:=(Nat.le_total i m).elim (fun h=>aM (t.drop ·) (bj h)) fun h'=>by rw[eQ h',be h,be (qA h h')]
theorem Q0(a b:Nat)(hi:i=a)(hj:j=b)(hs:s.length<=JC):slV σ0 (.str s) (.int i) (.int j)=some (.str ((s.drop a).take (b-a))):=by
 subst hi hj;show gd (Nat.ble s.length JC) (some (Vv.str ((s.take (clampIx s.length b)).drop (clampIx s.length a))))=_;rw[ble hs,Xn,Xn,Kq,DN _ (xR _ _),cT];rfl
theorem F5(a:Nat)(hi:i=a)(hs:s.length<=JC):slV σ0 (.str s) (.int i) .none=some (.str (s.drop a)):=by
 subst hi;show gd (Nat.ble s.length JC) (some (Vv.str ((s.take s.length).drop (clampIx s.length a))))=_;rw[ble hs,Xn,bI,DN _ (qF _)];rfl
theorem Pp(b:Nat)(hj:j=b)(hs:s.length<=JC):slV σ0 (.str s) .none (.int j)=some (.str (s.take b)):=by
 subst hj;show gd (Nat.ble s.length JC) (some (Vv.str (s.take (clampIx s.length b))))=_;rw[ble hs,Xn,Kq];rfl
theorem UB(hc:s[a]?=some k)(hs:s.length<=JC):Qo σ0 (.str s) (.int (a:Nat))=some (.str [k]):=XG hs (X9 (ax.mp hc).1) hc
theorem Iv{x y:LN}(h:x=y):some (x==y)=some true:=aM some (aV.mpr h)
theorem Iu{x y:LN}(h:¬x=y):some (x==y)=some false:=aM some (xV h)
theorem slt{x y:Nat}(h:x<y):some (decide ((x:Int)<(y:Int)))=some true:=aM some (aU (a8.mpr h))
theorem Uo{x y:Nat}(h:¬x<y):some (decide ((x:Int)<(y:Int)))=some false:=aM some (an fun q=>h (a8.mp q))
theorem hml(hb:b.length<=1000):b.length<=JC:=qA hb (by decide)
theorem OD(h:a≠0):rp1 a=a:=by unfold rp1;rw[Je h];rfl
theorem LE:∀(n:Nat) (s:LN),s.length<n->QE [0] [65533] n s=rp s:=by
 intro n;induction n with
 |zero=>
  intro s h;exact absurd h (xJ _)
 |succ n ih0=>
  intro s h;cases s with
  |nil=>rfl
  |cons c s=>
   have ih:=ih0 s (xH h);by_cases hc:c=0
   ·subst hc
    exact aM (65533::·) ih
   ·show (if ((0==c)&&Jg [] s)=true then _ else c::QE [0] [65533] n s)=rp1 c::rp s
    rw[xV (fun q:0=c=>hc q.symm),cU,aN (fun q=>ff q),ih,OD hc]
theorem ZCu(h:s.length+(s.length+1)<=16777216):smV σ0 .replace s [.str [0],.str [65533]]=some (.str (QE [0] [65533] (s.length+1) s)):=by
 show gd (true&&(Nat.ble (s.length+(s.length+1)*1) 16777216&&true)) _=_;rw[Nat.mul_one,ble h];rfl
theorem RM(h:s.length<=1000):smV σ0 .replace s [.str [0],.str [65533]]=some (.str (rp s)):=by
 rw[ZCu (qA (qQ h (qJ h)) (by decide)),LE _ _ (xB _)]
theorem Lo{t:ME}{bd:List MS}{p:Nat->Bool}{mk:Nat->St}(h0:tst C t (mk b.length)=some (false,mk b.length))(h1:∀i a,b[i]?=some a->tst C t (mk i)=some (p a,mk i))(h2:∀i,exs C bd (mk i)=some (.next,mk (i+1))):∀(r:LN) (i fD:Nat),b.drop i=r->i<=b.length->r.length<fD->Jh (tst C t) (exs C bd) fD (mk i)=some (.next,mk (i+(r.takeWhile p).length)):=by
 intro r;induction r with
 |nil=>
  intro i fD hr hi hf;cases fD with
  |zero=>exact absurd hf (xJ _)
  |succ n=>
   cases W1 hr hi;exact Uv h0
 |cons a r ih=>
  intro i fD hr hi hf;cases fD with
  |zero=>exact absurd hf (xJ _)
  |succ n=>
   obtain⟨ha,hd,hl⟩:=QH hr;rw[aw];have h1:=h1 i a ha;cases e:p a with
   |false=>rw[e] at h1;exact Uv h1
   |true=>
    rw[e] at h1;refine(W3 h1 (h2 i) (ih (i+1) n hd hl (xH hf))).trans ?_;rw[a4];rfl
theorem TR{x y}:[[x],[y]].any (·==[a])=(Nat.beq a x||Nat.beq a y):=by
 have e:∀{x:Nat},([x]==[a])=Nat.beq a x:=fun {x}=>by
  by_cases h:a=x
  ·subst h;rw[dA];exact aS _
  ·rw[Je h];exact xV fun q=>h (qS q).1.symm
 show (([x]==[a])||(([y]==[a])||false))=_;rw[e,e,dG]
theorem YF{b}:Tactic.Jm σ0 (.bool b)=some b:=rfl
theorem DO{s x}(hs:s<=b.length)(hx:b.drop s=x):s+x.length=b.length:=by rw[<- hx,am,bw hs]
theorem MY{s y}(h:k<=s.length):smV σ0 .find s [.str y,.int k]=some (.int (QI y (s.drop k) k)):=by
 show gd (decide ((0:Int)<=k)&&decide ((k:Int)<=s.length)) (some (Vv.int (QI y (s.drop (k:Int).toNat) (k:Int).toNat)))=_;rw[aU (aj k),aU (b5.mpr h)];rfl
theorem Yz(h:∀a∈b,a<128)(hs:b.length<=1000):smV σ0 .lower b []=some (.str (b.map lowC)):=by
 show gd (b.all (Nat.blt · 128)&&Nat.ble b.length 5592405) _=_
 rw[(aq.mpr fun a ha=>(bg (h a ha):Nat.ble (a+1) 128=true):(b.all fun x=>x.blt 128)=true),ble (qA hs (by decide))];rfl
end
def Kn(L E:List (Nat×Vv)):Prop:=∀n v,JA E n=some v->JA L n=some v
section
variable{L E:List (Nat×Vv)}
theorem Kn.get(k:Kn L E)(n){v}(e:JA E n=some v):JA L n=some v:=k n v e
theorem Kn.put(k:Kn L E)(n v):Kn (put L n v) (put E n v):=fun m w h=>by
 rw[J5] at h ⊢;by_cases e:n=m
 ·rw[aR e] at h ⊢;exact h
 ·rw[aN e] at h ⊢;exact k m w h
noncomputable def Kn.lc(_:Kn L E):List (Nat×Vv):=L
theorem Kn.nil:Kn L []:=fun J J h=>nn h
noncomputable def XZ(E:List (Nat×Vv)):LN->List (Nat×Vv)
 |[]=>[]
 |n::r=>match JA E n with
  |some v=>(n,v)::XZ E r
  |none=>XZ E r
theorem Kn.sub(k:Kn L E)(ns):Kn L (XZ E ns):=by
 induction ns with
 |nil=>exact fun J J h=>nn h
 |cons n r ih=>
  intro m w h;have h:JA (match JA E n with|some v=>(n,v)::XZ E r|none=>XZ E r) m=some w:=h
  cases e:JA E n with
  |none=>rw[e] at h;exact ih m w h
  |some v=>
   rw[e] at h;have h:(if n=m then some v else JA (XZ E r) m)=some w:=h;by_cases q:n=m
   ·rw[aR q] at h
    exact k m w (q▸e.trans h)
   ·rw[aN q] at h;exact ih m w h
theorem Kn.cons{n v}(h:JA L n=some v)(k:Kn L E):Kn L ((n,v)::E):=fun m w e=>by
 rw[UL] at e;by_cases q:n=m
 ·subst q;rw[aR rfl] at e;cases e;exact h
 ·rw[aN q] at e;exact k m w e
end
section
variable{C:Ora}{s r:List MS}{U U':St}{t e:ME}{b o:List MS}{v:Vv}{st:MS}
theorem GS(h:exc C st U=some (.next,U')):exs C (st::r) U=exs C r U':=by
 show bn (exc C st U) _=_;rw[h];rfl
theorem W4(h:tst C t U=some (true,U')):exs C (.iff t b o::r) U=exs C (b++r) U':=by
 show bn (bn (tst C t U) _) _=_;rw[h,ZG];rfl
theorem WS(h:tst C t U=some (false,U')):exs C (.iff t b o::r) U=exs C (o++r) U':=by
 show bn (bn (tst C t U) _) _=_;rw[h,ZG];rfl
end
structure Cln(k:Nat)(L:List (Nat×Vv))(H:List (Id×Ob))(P:LN):Prop where
 l:∀w,QG (.p k) w L=L
 h:∀w,Q7 (.p k) w H=H
 o:JA H (.p k)=none
 p:k∉P
section
variable{C:Ora}{n:Nat}{L E:List (Nat×Vv)}{H:List (Id×Ob)}{nx:Nat}{P:LN}{k:Nat}{fs vs as:List Vv}{U U':St}{v:Vv}{m:MFun}
theorem Yr{o}(h:k∉P):(⟨L,H,nx,P⟩:St).alloc (.per k) o=some (.obj (.p k),⟨L,(.p k,o)::H,nx,k::P⟩):=aN h
theorem Z4(h:Cln k L H P)(hn:Vv.nos (.p k) fs=true):Qs k v ⟨L,(.p k,.list fs)::H,nx,k::P⟩=some (Vv.sb (.p k) (.list fs) v,⟨L,H,nx,P⟩):=by
 have e:JA ((Id.p k,Ob.list fs)::H) (.p k)=some (.list fs):=aR rfl;unfold Qs;rw[show JA (⟨L,(.p k,.list fs)::H,nx,k::P⟩:St).hp (.p k)=some (.list fs) from e];show gd (Vv.nos (.p k) fs) (some (_,(⟨QG (.p k) (.list fs) L,if Id.p k=.p k then Q7 (.p k) (.list fs) H else _,nx,(k::P).filter (·≠k)⟩:St)))=_
 rw[hn,aR rfl,h.l,h.h,show (k::P).filter (·≠k)=P.filter (·≠k) from List.filter_cons_of_neg (by simp),List.filter_eq_self.mpr fun x hx=>(aU (p:=x≠k) fun e=>h.p (Eq.subst (motive:=fun y=>y∈P) e hx))];rfl
theorem ZBX(h:Cln k L H P):Qs k v ⟨L,H,nx,P⟩=some (v,⟨L,H,nx,P⟩):=by
 unfold Qs;rw[show JA (⟨L,H,nx,P⟩:St).hp (.p k)=none from h.o]
theorem cB(ha:m.args vs=some as)(h:exs C m.body ⟨m.ps.zip as,H,nx,P⟩=some (.ret v,U')):Qf C m vs ⟨L,H,nx,P⟩=some (v,{ U' with loc:=L }):=by
 unfold Qf;rw[ha];show bn (exs C m.body ⟨m.ps.zip as,H,nx,P⟩) _=_;rw[h];rfl
theorem Ks(v w a):∀l:List (Nat×Vv),put (put l a v) a w=put l a w:=fun l0=>by
 induction l0 with
 |nil=>
  exact aR rfl
 |cons p0 l ih=>
  obtain⟨b,x⟩:=p0;by_cases e:b=a
  ·exact(aM (put · a w) (aR e)).trans ((aR e).trans (aR e).symm)
  ·exact(aM (put · a w) (aN e)).trans ((aN e).trans ((aM _ ih).trans (aN e).symm))
end
open PySem
noncomputable def UT(R:List Tok4)(x:LN):List Tok4:=match R with
 |[]=>[.ch x]
 |r::t=>(match r with
  |.ch y=>.ch (y++x)::t
  |.sp y=>.ch x::.sp y::t
  |.er n=>.ch x::.er n::t
  |.iv v=>.ch x::.iv v::t
  |.tg n ws c=>.ch x::.tg n ws c::t)
def stI(R:List Tok4):It->List Tok4
 |.c a=>UT R [a]
 |.e n=>.er n::R
 |.v v=>.iv v::R
 |.g n ws c=>.tg n ws c::R
def stT(R:List Tok4):Tok4->List Tok4
 |.ch x=>UT R x
 |.sp x=>UT R x
 |.er n=>.er n::R
 |.iv v=>.iv v::R
 |.tg n ws c=>.tg n ws c::R
def jn(F:List It):List Tok4:=(F.foldl stI []).reverse
noncomputable def Tok4.add(x:LN):Tok4->List Tok4
 |.ch y=>[.ch (y++x)]
 |.sp y=>[.ch x,.sp y]
 |.er n=>[.ch x,.er n]
 |.iv v=>[.ch x,.iv v]
 |.tg n ws c=>[.ch x,.tg n ws c]
section
variable{R:List Tok4}{x y:LN}{a:Nat}{t:Tok4}{l:List Tok4}
theorem Nt:UT (t::R) x=t.add x++R:=by cases t<;>rfl
theorem Gl(h:x≠[]):∀{R:List Tok4},(x.map .c).foldl stI R=UT R x:=fun {R}=>by
 induction x generalizing R with
 |nil=>exact absurd rfl h
 |cons a x ih=>
  show (x.map It.c).foldl stI (UT R [a])=_;cases x with
  |nil=>rfl
  |cons b x=>
   rw[ih (fun q=>nomatch q)]
   cases R with
   |nil=>rfl
   |cons t R=>
    cases t
    ·rw[Nt,Nt]
     exact aM (fun q=>Tok4.ch q::R) (aT ..)
    ·rfl
    ·rfl
    ·rfl
    ·rfl
theorem GK:∀(l R:List Tok4),l.all Tok4.ok=true->(JJ l).foldl stI R=l.foldl stT R:=fun l0=>by
 induction l0 with
 |nil=>
  exact fun J J=>rfl
 |cons t l ih=>
  exact fun R h=>bA h fun h1 h2=>by
   show (t.f++JJ l).foldl stI R=l.foldl stT (stT R t);rw[List.foldl_append];have e:t.f.foldl stI R=stT R t:=by
    cases t
    ·exact Gl fun q=>by rw[q] at h1;exact ff h1
    ·exact Gl fun q=>by rw[q] at h1;exact ff h1
    ·rfl
    ·rfl
    ·rfl
   rw[e];exact ih _ h2
def sz(R:List Tok4):Nat:=(JJ R).length
theorem QW:sz (t::R)=t.f.length+sz R:=aO
theorem ZO(h:R.all Tok4.ok=true)(hx:x≠[]):(UT R x).all Tok4.ok=true/\sz (UT R x)=x.length+sz R:=by
 have hx':(!x.isEmpty)=true:=by cases x with
  |nil=>exact absurd rfl hx
  |cons=>rfl
 cases R with
 |nil=>exact⟨(bu _).trans hx',by rw[UT,QW];exact aM (·+0) (aP _)⟩
 |cons t R=>
  refine bA h fun h1 h2=>?_
  cases t
  ·refine⟨ag.mpr ⟨?_,h2⟩,?_⟩
   ·cases x_1 with
    |nil=>exact hx'
    |cons=>rfl
   ·show sz (.ch (x_1++x)::R)=_
    rw[QW,QW,<- aX];exact aM (·+sz R) (by rw[Tok4.f,Tok4.f,aP,aP,aO,aW])
  ·exact⟨ag.mpr ⟨hx',h⟩,QW.trans (aM (·+_) (aP _))⟩
  ·exact⟨ag.mpr ⟨hx',h⟩,QW.trans (aM (·+_) (aP _))⟩
  ·exact⟨ag.mpr ⟨hx',h⟩,QW.trans (aM (·+_) (aP _))⟩
  ·exact⟨ag.mpr ⟨hx',h⟩,QW.trans (aM (·+_) (aP _))⟩
theorem KF(h:(!x.isEmpty)=true):x≠[]:=fun q=>by rw[q] at h;exact ff h
theorem Pn(h:R.all Tok4.ok=true)(ht:t.ok=true):(stT R t).all Tok4.ok=true/\sz (stT R t)=t.f.length+sz R:=by
 cases t with
 |ch x=>exact⟨(ZO h (KF ht)).1,((ZO h (KF ht)).2).trans (aM (·+_) (aP _).symm)⟩
 |sp x=>exact⟨(ZO h (KF ht)).1,((ZO h (KF ht)).2).trans (aM (·+_) (aP _).symm)⟩
 |er n=>exact⟨h,QW⟩
 |iv v=>exact⟨h,QW⟩
 |tg n ws c=>exact⟨h,QW⟩
theorem Nf:∀{R:List Tok4},R.all Tok4.ok=true->R.length<=sz R:=by
 intro l0;induction l0 with
 |nil=>
  intro _;exact qF _
 |cons t R ih=>
  intro h;exact bA h fun h1 h2=>by
   rw[QW,au,aW];refine qQ ?_ (ih h2);cases t
   ·cases x with
    |nil=>exact ff h1
    |cons=>exact qJ (qG _)
   ·cases x with
    |nil=>exact ff h1
    |cons=>exact qJ (qG _)
   ·exact qF _
   ·exact qF _
   ·exact qF _
end
def jC1:ME:=(.and (.cmp .ne (.sub (.loc 83) (.k (.str wC))) (.sub (.glob UG) (.k (.str w4)))) (.cmp .ne (.sub (.loc 83) (.k (.str wC))) (.sub (.glob UG) (.k (.str wK)))))
def jC2:ME:=(.and (.loc 126) (.cmp .eq (.sub (.sub (.loc 126) (.neg (.k (.int 1)))) (.k (.str wC))) (.sub (.glob UG) (.k (.str w4)))))
def jB:List MS:=[.iff jC1 [.ex (.app (.loc 126) (.loc 83))] [.iff jC2 [.asgS (.loc 126) (.neg (.k (.int 1))) (.call 67 [(.bop .add (.sub (.sub (.loc 126) (.neg (.k (.int 1)))) (.k (.str wB))) (.sub (.loc 83) (.k (.str wB))))])] [.ex (.app (.loc 126) (.call 67 [(.sub (.loc 83) (.k (.str wB)))]))]]]
noncomputable def jL(u v:Vv):List (Nat×Vv):=[(161,u),(126,.obj (.p 50)),(83,v)]
section
variable{C:Ora}{n:Nat}{L E:List (Nat×Vv)}{H:List (Id×Ob)}{nx:Nat}{P:LN}{u v w:Vv}{R l:List Tok4}{x y:LN}{t r:Tok4}{A:List Vv}
theorem vsr:vs (t::R).reverse=vs R.reverse++[t.v]:=by rw[bt,QL];rfl
theorem OO{k ks ws}(hA:A.length<=JC)(h1:some (!(k==(1:Int)))=some true)(h2:some (!(k==(2:Int)))=some true):exs (JF tT (n+1)) jB ⟨jL u (.dict (wC::ks) (.int k::ws)),(.p 50,.list A)::H,nx,P⟩=some (.next,⟨jL u (.dict (wC::ks) (.int k::ws)),(.p 50,.list (A++[.dict (wC::ks) (.int k::ws)]))::H,nx,P⟩):=by
 have g:=ble hA;refine JB.exs ?_;exact .b 2 h1 (.b 3 h2 (.g 3 g (.done 2)))
theorem ZBD(hv:v=JN x\/v=WH x):exs (JF tT (n+1)) jB ⟨jL u v,(.p 50,.list [])::H,nx,P⟩=some (.next,⟨jL u v,(.p 50,.list [JN x])::H,nx,P⟩):=by
 refine JB.exs ?_;rcases hv with rfl|rfl
 ·exact .done 14
 ·exact .done 17
theorem Gx(h:A.length<JC):Um (A++[v]) (.int (-1))=some v:=by
 show gd (Nat.ble (A++[v]).length JC) (bo (seqIndex? (-1) (A++[v]).length) fun j=>(A++[v])[j]?)=_
 rw[aO,ble (show A.length+[v].length<=JC from h)];show bo (seqIndex? (-1) (A.length+1)) _=_;rw[Yx];exact du
theorem Hh(h:A.length<JC):Tactic.Jm ⟨L,(.p 50,.list (A++[v]))::H,nx,P⟩ (.obj (.p 50))=some true:=by
 show gd (Nat.ble (A++[v]).length JC) (some (!(A++[v]).isEmpty))=_;rw[aO,ble (show A.length+[v].length<=JC from h)];cases A<;>rfl
theorem EH(h:A.length<JC):Tactic.U2 ⟨L,(.p 50,.list (A++[w]))::H,nx,P⟩ (.obj (.p 50)) (.int (-1)) v=some ⟨L,(.p 50,.list (A++[v]))::H,nx,P⟩:=by
 show gd (Nat.ble (A++[w]).length JC) (bo (seqIndex? (-1) (A++[w]).length) fun j=>gd (Nat.blt j (A++[w]).length) (some (⟨L,(.p 50,.list ((A++[w]).set j v))::H,nx,P⟩:St)))=_
 rw[aO,ble (show A.length+[w].length<=JC from h)];show bo (seqIndex? (-1) (A.length+1)) _=_;rw[Yx];show gd (Nat.blt A.length (A.length+1)) (some (⟨L,(.p 50,.list ((A++[w]).set A.length v))::H,nx,P⟩:St))=_;rw[show Nat.blt A.length (A.length+1)=true from ble (qF _),List.set_append_right A.length v (qF _),eF];rfl
def jCh:ME:=.call 67 [(.bop .add (.sub (.sub (.loc 126) (.neg (.k (.int 1)))) (.k (.str wB))) (.sub (.loc 83) (.k (.str wB))))]
theorem ZC6(hA:A.length<JC)(hc:y.length+x.length<=JC)(hv:v=JN x\/v=WH x):exs (JF tT (n+1)) jB ⟨jL u v,(.p 50,.list (A++[JN y]))::H,nx,P⟩=some (.next,⟨jL u v,(.p 50,.list (A++[JN (y++x)]))::H,nx,P⟩):=by
 have hs:=Gx (v:=JN y) hA;have hcat:=Ui hc (qF _);have ht:=fun v=>Hh (L:=jL u v) (v:=JN y) (H:=H) (nx:=nx) (P:=P) hA
 have h1:tst (JF tT (n+1)) jC1 ⟨jL u v,(.p 50,.list (A++[JN y]))::H,nx,P⟩=some (false,⟨jL u v,(.p 50,.list (A++[JN y]))::H,nx,P⟩):=by
  rcases hv with rfl|rfl<;>kernel_rfl
 have h2:tst (JF tT (n+1)) jC2 ⟨jL u v,(.p 50,.list (A++[JN y]))::H,nx,P⟩=some (true,⟨jL u v,(.p 50,.list (A++[JN y]))::H,nx,P⟩):=by
  refine JB.tst ?_;exact .b 0 (ht v) (.v 0 hs (.done 5))
 have he:ev (JF tT (n+1)) jCh ⟨jL u v,(.p 50,.list (A++[JN y]))::H,nx,P⟩=some (JN (y++x),⟨jL u v,(.p 50,.list (A++[JN y]))::H,nx,P⟩):=by
  refine JB.ev ?_;rcases hv with rfl|rfl
  ·exact .v 0 hs (.v 2 hcat (.done 2))
  ·exact .v 0 hs (.v 2 hcat (.done 2))
 unfold jB;rw[WS h1];refine(W4 h2).trans ?_;show bn (bn (ev (JF tT (n+1)) jCh ⟨jL u v,(.p 50,.list (A++[JN y]))::H,nx,P⟩) _) _=_;rw[he];show bn (bo (Tactic.U2 ⟨jL u v,(.p 50,.list (A++[JN y]))::H,nx,P⟩ (.obj (.p 50)) (.int (-1)) (JN (y++x))) _) _=_;rw[EH hA];rfl
theorem KH{k ks ws}(hA:A.length<JC)(hv:v=JN x\/v=WH x)(hk:some (k==(1:Int))=some false):exs (JF tT (n+1)) jB ⟨jL u v,(.p 50,.list (A++[.dict (wC::ks) (.int k::ws)]))::H,nx,P⟩=some (.next,⟨jL u v,(.p 50,.list (A++[.dict (wC::ks) (.int k::ws)]++[JN x]))::H,nx,P⟩):=by
 have hs:=Gx (v:=.dict (wC::ks) (.int k::ws)) hA;have ht:=fun v=>Hh (L:=jL u v) (v:=.dict (wC::ks) (.int k::ws)) (H:=H) (nx:=nx) (P:=P) hA
 have g:Nat.ble (A++[Vv.dict (wC::ks) (.int k::ws)]).length JC=true:=ble (by rw[aO];exact hA)
 refine JB.exs ?_;rcases hv with rfl|rfl
 ·exact .b 5 (ht (JN x)) (.v 0 hs (.b 2 hk (.g 5 g (.done 2))))
 ·exact .b 8 (ht (JN x)) (.v 0 hs (.b 2 hk (.g 5 g (.done 2))))
theorem SO(hR:R.all Tok4.ok=true)(ht:t.ok=true)(hz:sz R+t.f.length<=100000):exs (JF tT (n+1)) jB ⟨jL u t.v,(.p 50,.list (vs R.reverse))::H,nx,P⟩=some (.next,⟨jL u t.v,(.p 50,.list (vs (stT R t).reverse))::H,nx,P⟩):=by
 have hl:(vs R.reverse).length<=100000:=by
  rw[aP,a9];exact qA (Nf hR) (qA (qK _ _) hz)
 have hm:(vs R.reverse).length<=JC:=qA hl (by decide)
 have ch:∀{x:LN} {v:Vv},x.length<=t.f.length->v=JN x\/v=WH x->exs (JF tT (n+1)) jB ⟨jL u v,(.p 50,.list (vs R.reverse))::H,nx,P⟩=some (.next,⟨jL u v,(.p 50,.list (vs (UT R x).reverse))::H,nx,P⟩):=fun {x v} hx hv=>by
  cases R with
  |nil=>exact ZBD hv
  |cons r R=>
   rw[Nt,bx,QL];rw[vsr,aO] at hl;have hA:(vs R.reverse).length<JC:=xG (show _+1<=_ from hl) (by decide)
   rw[vsr];cases r with
   |ch y=>exact ZC6 hA (qA (qQ (by rw[QW];exact qA (qU (aP _).symm) (qK _ _)) hx) (qA hz (by decide))) hv
   |sp y=>exact(KH hA hv rfl).trans (by rw[aT];rfl)
   |er y=>exact(KH hA hv rfl).trans (by rw[aT];rfl)
   |iv y=>exact(KH hA hv rfl).trans (by rw[aT];rfl)
   |tg y ws c=>exact(KH hA hv rfl).trans (by rw[aT];rfl)
 cases t with
 |ch x=>exact ch (qU (aP _).symm) (.inl rfl)
 |sp x=>exact ch (qU (aP _).symm) (.inr rfl)
 |er x=>exact(OO hm rfl rfl).trans (by show _=some (FL.next,(⟨_,(Id.p 50,Ob.list (vs (Tok4.er x::R).reverse))::H,nx,P⟩:St));rw[vsr];rfl)
 |iv x=>exact(OO hm rfl rfl).trans (by show _=some (FL.next,(⟨_,(Id.p 50,Ob.list (vs (Tok4.iv x::R).reverse))::H,nx,P⟩:St));rw[vsr];rfl)
 |tg x ws c=>exact(OO hm rfl rfl).trans (by show _=some (FL.next,(⟨_,(Id.p 50,Ob.list (vs (Tok4.tg x ws c::R).reverse))::H,nx,P⟩:St));rw[vsr];rfl)
def jF(C:Ora):List Vv->St->Option (FL×St):=Qa (fun v U=>some (U.setLoc 83 v)) (exs C jB)
theorem ZBE:∀(l R:List Tok4) (L:List (Nat×Vv)),(∀v,put L 83 v=jL u v)->l.all Tok4.ok=true->R.all Tok4.ok=true->sz R+sz l<=100000->∃L',JA L' 126=some (.obj (.p 50))/\jF (JF tT (n+1)) (vs l) ⟨L,(.p 50,.list (vs R.reverse))::H,nx,P⟩=some (.next,⟨L',(.p 50,.list (vs ((JJ l).foldl stI R).reverse))::H,nx,P⟩):=fun l0=>by
 induction l0 with
 |nil=>
  exact fun R L hL J J J=>⟨L,by
   have h:=aM (fun l=>JA l 126) (hL .none)
   exact((J5 ..).symm.trans h).trans rfl,rfl⟩
 |cons t l ih=>
  exact fun R L hL hl hR hz=>bA hl fun h1 h2=>by
   rw[QW,Nat.add_left_comm,<- aX] at hz;obtain⟨k1,k2⟩:=Pn hR h1;obtain⟨L',e1,e2⟩:=ih (stT R t) (jL u t.v) (fun J=>rfl) h2 k1 (by rw[k2];exact hz)
   refine⟨L',e1,?_⟩;show bn (exs (JF tT (n+1)) jB ⟨put L 83 t.v,(.p 50,.list (vs R.reverse))::H,nx,P⟩) _=_;rw[hL,SO hR h1 (by rw[aW];exact qA (qK _ _) hz),GK (t::l) R hl,List.foldl_cons,<- GK l _ h2]
   exact e2
theorem Bj(hc:Cln 50 L H P)(h1:l.all Tok4.ok=true)(hz:sz l<=100000):Xg 50 (Wl tT (JF tT (n+1))) 71 [.list (vs l)] ⟨L,H,nx,P⟩=some (.list (vs (jn (JJ l))),⟨L,H,nx,P⟩):=by
 obtain⟨L',e1,e2⟩:=ZBE (n:=n) (u:=.list (vs l)) (H:=H) (nx:=nx) (P:=50::P) l [] [(161,.list (vs l)),(126,.obj (.p 50))] (fun J=>rfl) h1 rfl (by rw[show sz []=0 from rfl,bL];exact hz)
 have ha:=Yr (L:=[(161,.list (vs l))]) (H:=H) (nx:=nx) (o:=.list []) hc.p;show gd (decide (50∉P)&&Nat.blt 71 1000) (bn (Qf (JF tT (n+1)) Yn [.list (vs l)] ⟨L,H,nx,P⟩) (Qs 50))=_;rw[aU hc.p];have hb:exs (JF tT (n+1)) Yn.body ⟨[(161,.list (vs l))],H,nx,P⟩=some (.ret (.obj (.p 50)),⟨L',(.p 50,.list (vs (jn (JJ l))))::H,nx,50::P⟩):=by
  refine JB.exs' ?_;exact .c 0 ha (.fl 2 e2 (.v 0 e1 (.done 1)))
 rw[cB (m:=Yn) (as:=[.list (vs l)]) rfl hb];exact(Z4 hc (J6 _)).trans (by rw[show Vv.sb (.p 50) (.list (vs (jn (JJ l)))) (.obj (.p 50))=.list (vs (jn (JJ l))) from rfl])
end
noncomputable def enT:ME:=(.cmp .eq (.sl (.loc 1) (.loc 2) (.bop .add (.loc 2) (.k (.int 2)))) (.k (.str [60,47])))
noncomputable def en0:MS:=.asg 165 (.bop .add (.loc 2) (.k (.int 2)))
def enW:ME:=(.and (.cmp .lt (.loc 165) (.bi .len [(.loc 1)])) (.cmp .inn (.sub (.loc 1) (.loc 165)) (.glob Yo)))
noncomputable def en1:List MS:=[.augN 165 .add (.k (.int 1))]
noncomputable def enC:ME:=(.and (.cmp .eq (.sm .lower (.sl (.loc 1) (.bop .add (.loc 2) (.k (.int 2))) (.loc 165)) []) (.sm .lower (.loc 66) [])) (.cmp .inn (.sl (.loc 1) (.loc 165) (.bop .add (.loc 165) (.k (.int 1)))) (.tup [(.k (.str [32])),(.k (.str [47])),(.k (.str [62]))])))
def enB:List MS:=[.iff enT [en0,.whl enW en1,.iff enC [.ret (.loc 2)] []] []]
noncomputable def enE(tx m:LN):List (Nat×Vv):=[(1,.str tx),(66,.str m)]
def enM(L:List (Nat×Vv))(H:List (Id×Ob))(nx:Nat)(P:LN)(i:Nat):St:=⟨put L 165 (.int i),H,nx,P⟩
section
variable{C:Ora}{L:List (Nat×Vv)}{H:List (Id×Ob)}{nx p a:Nat}{P tx r w x m:LN}{o:Option LN}
theorem ZCR:∀a∈al,Nat.blt a 128=true:=JD (by kernel_rfl)
theorem Ih(h:∀a∈tx,a∈al):∀a∈tx,a<128:=fun a ha=>qE (ZCR a (h a ha))
theorem in3:some ([[32],[47],[62]].any (·==x.take 1))=some (UF x):=by
 cases x with
 |nil=>rfl
 |cons a x=>
  have e:∀{c:Nat},([c]==[a])=(a==c):=fun {c}=>by
   by_cases h:a=c
   ·subst h;rw[aS,aS]
   ·rw[xV h,xV fun q=>h (qS q).1.symm]
  show some (([32]==[a])||(([47]==[a])||(([62]==[a])||false)))=some (a==32||(a==47||a==62));rw[e,e,e,dG]
theorem ZAJ(h:tx.drop p=a::r)(hb:tx.length<=JC):slV σ0 (.str tx) (.int p) (.int (p+2:Nat))=some (.str (a::r.take 1)):=by
 rw[Q0 p (p+2) rfl rfl hb,h,ao];rfl
noncomputable def plc(p k:Nat):List Vv:=(List.range' p k).map fun (i:Nat)=>.int (i:Int)
theorem G1(k:Nat):((List.range ((k:Int)-0).toNat).map fun (i:Nat)=>Vv.int (0+(i:Int)))=plc 0 k:=by
 rw[Int.sub_zero,cQ,List.range_eq_range'];exact cr fun i J=>aM Vv.int (Int.zero_add _)
theorem Dk{k:Nat}(h:k<=1000):(Q2 0&&Q2 (k:Int))=true:=by
 show (true&&(decide (-16777216<=(k:Int))&&decide ((k:Int)<=16777216)))=true;rw[aU (eJ (by decide:(-16777216:Int)<=0) (aj k)),aU (show (k:Int)<=16777216 from b5.mpr (qA h (by decide:1000<=16777216)))];rfl
theorem ZBG{k:Nat}{U:St}(h:k<=1000):(bo (Uj (.rng 0 (k:Int))) fun l=>some (l,U))=some (plc 0 k,U):=by
 show bo (gd (Q2 0&&Q2 (k:Int)) (some ((List.range ((k:Int)-0).toNat).map fun (i:Nat)=>Vv.int (0+(i:Int))))) _=_
 rw[Dk h,G1];rfl
theorem SU:∀a∈al,(Qn σ0 (.str [a]) Yo)=some (pL a):=JD (by kernel_rfl)
theorem FF(hb:tx.length<=JC)(ha:∀a∈tx,a∈al)(h1:JA L 1=some (.str tx)):∀(r:LN) (i fD:Nat),tx.drop i=r->i<=tx.length->r.length<fD->Jh (tst C enW) (exs C en1) fD (enM L H nx P i)=some (.next,enM L H nx P (i+(ltr r).length)):=by
 have l1:∀i:Nat,JA (put L 165 (.int i)) 1=some (.str tx):=fun i=>(J5 ..).trans h1
 have l3:∀i:Nat,JA (put L 165 (.int i)) 165=some (.int i):=fun i=>J5 ..
 refine Lo (p:=pL) (JB.tst' ?_) (fun i a h=>JB.tst' ?_) fun i=>?_
 ·exact .v 0 (l3 tx.length) (.v 0 (l1 tx.length) (.v 0 (QJ hb) (.b 0 (Uo (xS tx.length)) (.done 3))))
 ·have fG:=(ax.mp h).1
  have hi:=SU a (ha a (bC h));exact .v 0 (l3 i) (.v 0 (l1 i) (.v 0 (QJ hb) (.b 0 (slt fG) (.v 1 (l1 i) (.v 0 (l3 i) (.v 0 (UB h hb) (.b 0 hi (.b 0 (YF (b:=pL a)) (.done 1)))))))))
 ·show exs C en1 ⟨put L 165 (.int i),H,nx,P⟩=some (.next,⟨put L 165 (.int (i+1:Nat)),H,nx,P⟩)
  rw[<- Ks (.int i) (.int (i+1:Nat))];refine JB.exs' ?_;exact .v 0 (l3 i) (.done 2)
theorem M5(hb:tx.length<=900)(ha:∀a∈tx,a∈al)(hm:m.length<=900)(hmA:∀a∈m,a<128)(hd:tx.drop p=a::r)(k:Kn L [(1,.str tx),(66,.str m),(2,.int p)]):∃L',Kn L' (enE tx m)/\exs C enB ⟨L,H,nx,P⟩=some (match JT (some (m.map lowC)) (a::r) with|some _=>.ret (.int p)|none=>.next,⟨L',H,nx,P⟩):=by
 have hbm:tx.length<=JC:=mx hb;have hmm:m.length<=1000:=qA hm (by decide)
 have hkE:Kn L (enE tx m):=.cons (k.get 1 rfl) (.cons (k.get 66 rfl) .nil);have h2:=ZAJ hd hbm;by_cases h61:a::r.take 1=[60,47]
 ·obtain⟨rfl,e⟩:=qS h61
  cases r with
  |nil=>exact nomatch e
  |cons b w=>
   cases (qS e).1;have hdw:tx.drop (p+2)=w:=by rw[<- a7,hd];rfl
   have hpl:p+2<=tx.length:=(QH (QH hd).2.1).2.2;have hw:=FF (C:=C) (L:=L) (H:=H) (nx:=nx) (P:=P) hbm ha (k.get 1 rfl) w (p+2) J2 hdw hpl (qL (qA (hdw▸dle tx (p+2)) hb) (by decide))
   have k2:=k.put 165 (.int (p+2+(ltr w).length:Nat));have s1:slV σ0 (.str tx) (.int (p+2:Nat)) (.int (p+2+(ltr w).length:Nat))=some (.str (ltr w)):=by
    rw[Q0 (p+2) _ rfl rfl hbm,hdw,ao];exact aM (fun l=>some (Vv.str l)) (dD.mp (qM _)).symm
   have hwa:∀a∈w,a∈tx:=fun a h=>bF (hdw▸h:a∈tx.drop (p+2))
   have hll:(ltr w).length<=1000:=qA (qM _).length_le (qA (hdw▸dle tx (p+2)) (qA hb (by decide)))
   have lo1:=Yz (b:=ltr w) (fun a h=>Ih ha a (hwa a ((qM _).subset h))) hll
   have lo2:=Yz (b:=m) hmA hmm;have s2:slV σ0 (.str tx) (.int (p+2+(ltr w).length:Nat)) (.int (p+2+(ltr w).length+1:Nat))=some (.str ((JI w).take 1)):=by
    rw[Q0 (p+2+(ltr w).length) _ rfl rfl hbm,<- a7,hdw,ao];rfl
   refine⟨put L 165 (.int (p+2+(ltr w).length:Nat)),.cons (k2.get 1 rfl) (.cons (k2.get 66 rfl) .nil),?_⟩;have hf:JT (some (m.map lowC)) (60::47::w)=bif ((ltr w).map lowC==m.map lowC)&&UF (JI w) then some w else none:=rfl;rw[hf];by_cases hc:(ltr w).map lowC=m.map lowC
   ·rw[aV.mpr hc]
    have i3:=in3 (x:=JI w);cases he:UF (JI w) with
    |true=>
     rw[he] at i3;refine JB.exs' ?_;exact .v 0 (k.get 1 rfl) (.v 0 (k.get 2 rfl) (.v 0 (k.get 2 rfl) (.v 1 h2 (.v 2 (k.get 2 rfl) (.fl 1 hw (.v 0 (k2.get 1 rfl) (.v 0 (k2.get 2 rfl) (.v 1 (k2.get 165 rfl) (.v 0 s1 (.v 0 lo1 (.v 0 (k2.get 66 rfl) (.v 0 lo2 (.b 0 (Iv hc) (.v 1 (k2.get 1 rfl) (.v 0 (k2.get 165 rfl) (.v 0 (k2.get 165 rfl) (.v 1 s2 (.b 0 i3 (.v 1 (k2.get 2 rfl) (.done 1))))))))))))))))))))
    |false=>
     rw[he] at i3;refine JB.exs' ?_;exact .v 0 (k.get 1 rfl) (.v 0 (k.get 2 rfl) (.v 0 (k.get 2 rfl) (.v 1 h2 (.v 2 (k.get 2 rfl) (.fl 1 hw (.v 0 (k2.get 1 rfl) (.v 0 (k2.get 2 rfl) (.v 1 (k2.get 165 rfl) (.v 0 s1 (.v 0 lo1 (.v 0 (k2.get 66 rfl) (.v 0 lo2 (.b 0 (Iv hc) (.v 1 (k2.get 1 rfl) (.v 0 (k2.get 165 rfl) (.v 0 (k2.get 165 rfl) (.v 1 s2 (.b 0 i3 (.done 2)))))))))))))))))))
   ·rw[xV hc]
    refine JB.exs' ?_;exact .v 0 (k.get 1 rfl) (.v 0 (k.get 2 rfl) (.v 0 (k.get 2 rfl) (.v 1 h2 (.v 2 (k.get 2 rfl) (.fl 1 hw (.v 0 (k2.get 1 rfl) (.v 0 (k2.get 2 rfl) (.v 1 (k2.get 165 rfl) (.v 0 s1 (.v 0 lo1 (.v 0 (k2.get 66 rfl) (.v 0 lo2 (.b 0 (Iu hc) (.done 3))))))))))))))
 ·have hf:JT (some (m.map lowC)) (a::r)=none:=by
   cases e:JT (some (m.map lowC)) (a::r) with
   |none=>rfl
   |some w=>exact Zd e fun q J=>absurd (aM (List.take 2) q) h61
  rw[hf];refine⟨L,hkE,?_⟩;refine JB.exs' ?_;exact .v 0 (k.get 1 rfl) (.v 0 (k.get 2 rfl) (.v 0 (k.get 2 rfl) (.v 1 h2 (.b 0 (Iu h61) (.done 2)))))
def enL(C:Ora):List Vv->St->Option (FL×St):=Qa (fun v U=>some (U.setLoc 2 v)) (exs C enB)
theorem M6(hb:tx.length<=900)(ha:∀a∈tx,a∈al)(hm:m.length<=900)(hmA:∀a∈m,a<128):∀(k p:Nat) (L:List (Nat×Vv)),p+k=tx.length->Kn L (enE tx m)->∃L',Kn L' (enE tx m)/\enL C (plc p k) ⟨L,H,nx,P⟩=some (if endN (some (m.map lowC)) (tx.drop p)<k then .ret (.int ((p+endN (some (m.map lowC)) (tx.drop p):Nat):Int)) else .next,⟨L',H,nx,P⟩):=by
 intro k;induction k with
 |zero=>exact fun p L J k=>⟨L,k,rfl⟩
 |succ n ih=>
  intro p L hp k;have fG:p<tx.length:=hp▸bZ (xD _);have hd:=bh fG;have k1:=k.put 2 (.int p);obtain⟨L1,k2,e⟩:=M5 (C:=C) (H:=H) (nx:=nx) (P:=P) hb ha hm hmA hd k1;show ∃L',_/\bn (exs C enB ⟨put L 2 (.int p),H,nx,P⟩) _=_;rw[e,hd];cases hf:JT (some (m.map lowC)) (tx[p]::tx.drop (p+1)) with
  |some w=>
   rw[XJ hf];exact⟨L1,k2,rfl⟩
  |none=>
   obtain⟨L',k3,e3⟩:=ih (p+1) L1 (by rw[<- hp,aX,aW 1]) k2
   refine⟨L',k3,?_⟩;rw[U9 hf];refine e3.trans ?_;by_cases hc:endN (some (m.map lowC)) (tx.drop (p+1))<n
   ·rw[aR hc,aR (cL hc),aX,aW 1]
   ·rw[aN hc,aN fun q=>hc (xH q)]
theorem VP(hb:tx.length<=900)(ha:∀a∈tx,a∈al)(hm:m.length<=900)(hmA:∀a∈m,a<128):Wl tT C 73 [.str tx,.str m] ⟨L,H,nx,P⟩=some (.int (endN (some (m.map lowC)) tx:Nat),⟨L,H,nx,P⟩):=by
 obtain⟨L',k,e⟩:=M6 (C:=C) (H:=H) (nx:=nx) (P:=P) hb ha hm hmA tx.length 0 (enE tx m) (bL _) (fun J J h=>h)
 rw[bL] at e;have e:enL C (plc 0 tx.length) ⟨enE tx m,H,nx,P⟩=some (if endN (some (m.map lowC)) tx<tx.length then .ret (.int (endN (some (m.map lowC)) tx:Nat)) else .next,⟨L',H,nx,P⟩):=e
 have hs:=ZBG (U:=⟨enE tx m,H,nx,P⟩) (qA hb (by decide:900<=1000))
 have hbm:tx.length<=JC:=mx hb;show Qf C Kj [.str tx,.str m] ⟨L,H,nx,P⟩=_;refine cB (m:=Kj) (as:=[.str tx,.str m]) rfl (U':=⟨L',H,nx,P⟩) (JB.exs' ?_);by_cases hc:endN (some (m.map lowC)) tx<tx.length
 ·rw[aR hc] at e
  exact .v 1 (QJ hbm) (.l 1 hs (.fl 0 e (.done 1)))
 ·have he:=xN (Xx tx) (bM.mp hc)
  rw[aN hc] at e;rw[he];exact .v 1 (QJ hbm) (.l 1 hs (.fl 0 e (.v 0 (k.get 1 rfl) (.v 0 (QJ hbm) (.done 1)))))
end
def rfS(k:Nat):List MS:=Qi.body.drop k
noncomputable def rnA:List MS:=[.asg 212 (.ite (.cmp .eq (.sl (.loc 1) (.bop .add (.loc 2) (.k (.int 2))) (.bop .add (.loc 2) (.k (.int 3)))) (.k (.str [120]))) (.k (.int 16)) (.k (.int 10))),
 .asg 77 (.ite (.cmp .eq (.loc 212) (.k (.int 16))) (.bop .add (.loc 2) (.k (.int 3))) (.bop .add (.loc 2) (.k (.int 2)))),.asg 37 (.loc 77),.asg 213 (.k (.int 0))]
def rnW:ME:=(.and (.cmp .lt (.loc 37) (.bi .len [(.loc 1)])) (.cmp .inn (.sub (.loc 1) (.loc 37)) (.sl (.glob UY) (.k .none) (.loc 212))))
def rnB:List MS:=[.asg 213 (.bop .add (.bop .mul (.loc 213) (.loc 212)) (.sm .find (.glob UY) [(.sub (.loc 1) (.loc 37))])),.augN 37 .add (.k (.int 1))]
def rfC:List MS:=match Qi.body[2]? with
 |some (MS.iff _ b _)=>b
 |_=>[]
def rnT:List MS:=rfC.drop 5
theorem RJ:rfC=rnA++(.whl rnW rnB::rnT):=rfl
def rnL(tx:LN)(p:Nat)(h:Bool)(s i v:Nat):List (Nat×Vv):=[(1,.str tx),(2,.int p),(211,.str [35]),(212,.int (bs h)),(77,.int s),(37,.int i),(213,.int v)]
noncomputable def rmL(tx:LN)(p a:Nat):List (Nat×Vv):=[(1,.str tx),(2,.int p),(211,.str [a])]
section
variable{C:Ora}{L:List (Nat×Vv)}{H:List (Id×Ob)}{nx p a s i v k:Nat}{P tx r w x t d:LN}{h:Bool}{n:Nat}
theorem ZDI:∀a∈al,Qn σ0 (.str [a]) (.str [48,49,50,51,52,53,54,55,56,57])=some (dg 10 a):=JD (by kernel_rfl)
theorem ZDH:∀a∈al,(Nat.beq a 101||((Qn σ0 (.str [a]) UY).any fun z=>z==dg 16 a))=true:=JD (by kernel_rfl)
def ZBB(h:Bool):Vv:=bif h then UY else .str [48,49,50,51,52,53,54,55,56,57]
theorem IX(ha:a∈al)(he:h=true->a≠101):Qn σ0 (.str [a]) (ZBB h)=some (dg (bs h) a):=by
 cases h with
 |false=>exact ZDI a ha
 |true=>
  have e:=ZDH a ha;rw[Je (he rfl)] at e;show Qn σ0 (.str [a]) UY=some (dg 16 a);cases q:Qn σ0 (.str [a]) UY with
  |none=>rw[q] at e;exact ff e
  |some z=>
   rw[q] at e;exact aM some (aV.mp (e:(z==dg 16 a)=true))
theorem VY(ha:dg (bs h) a=true):smV σ0 .find w8 [.str [a]]=some (.int (dgV a)):=WD (P:=fun a=>smV σ0 .find w8 [.str [a]]=some (.int (dgV a))) ha (by kernel_rfl) fun J=>by kernel_rfl
theorem LH(hb:tx.length<=900)(hal:∀a∈tx,a∈al)(ht:∀a u,t=a::u->dg (bs h) a=false/\(h=true->a≠101)):∀(d:LN) (i v n:Nat),(∀a∈d,dg (bs h) a=true)->tx.drop i=d++t->i<=tx.length->d.length<n ->
  Jh (tst C rnW) (exs C rnB) n ⟨rnL tx p h s i v,H,nx,P⟩=some (.next,⟨rnL tx p h s (i+d.length) (d.foldl (fun n c=>n*bs h+dgV c) v),H,nx,P⟩):=by
 have hbm:tx.length<=JC:=mx hb;intro d;induction d with
 |nil=>
  intro i v n _ hd hi hn;cases n with
  |zero=>exact absurd hn (xS _)
  |succ n=>
   refine Uv (JB.tst ?_);cases t with
   |nil=>
    have he:=W1 hd hi;subst he;exact .v 0 (QJ hbm) (.b 0 (Uo (xS tx.length)) (.done 3))
   |cons a u=>
    have h1:=(QH (a:=a) (r:=u) hd).1;have fG:=(ax.mp h1).1;have hs:=UB h1 hbm;have hin:=IX (h:=h) (hal a (bC h1)) (ht a u rfl).2;rw[(ht a u rfl).1] at hin;cases h<;>exact .v 0 (QJ hbm) (.b 0 (slt fG) (.v 1 hs (.b 1 hin (.done 2))))
 |cons a d ih=>
  intro i v n hg hd hi hn;cases n with
  |zero=>exact absurd hn (xJ _)
  |succ n=>
   obtain⟨h1,h2,h3⟩:=QH (a:=a) (r:=d++t) hd;have fG:=(ax.mp h1).1;have hs:=UB h1 hbm;have ha:=hg a (.head _);have hin:=IX (h:=h) (hal a (bC h1)) (fun J q=>by subst q;cases h<;>exact absurd ha (by decide))
   rw[ha] at hin;have hv:=VY ha;refine(W3 (n:=n) (U1a:=⟨rnL tx p h s i v,H,nx,P⟩) (U2a:=⟨rnL tx p h s (i+1) (v*bs h+dgV a),H,nx,P⟩) (JB.tst ?_) (JB.exs ?_) (ih (i+1) (v*bs h+dgV a) n (fun x hx=>hg x (.tail _ hx)) h2 h3 (xH hn))).trans ?_
   ·cases h<;>exact .v 0 (QJ hbm) (.b 0 (slt fG) (.v 1 hs (.b 1 hin (.done 2))))
   ·cases h<;>exact .v 1 hs (.v 0 hv (.done 3))
   ·rw[a4];rfl
theorem ZCq(hb:tx.length<=900)(hd:tx.drop p=38::35::w)(hh:hd1 120 w=h):exs C rnA ⟨rmL tx p 35,H,nx,P⟩=some (.next,⟨rnL tx p h (p+bif h then 3 else 2) (p+bif h then 3 else 2) 0,H,nx,P⟩):=by
 have hbm:tx.length<=JC:=mx hb;have h1:slV σ0 (.str tx) (.int (p+2:Nat)) (.int (p+3:Nat))=some (.str (w.take 1)):=by
  rw[Q0 (p+2) (p+3) rfl rfl hbm,<- a7,hd,cE];rfl
 refine JB.exs ?_;cases h with
 |true=>
  obtain⟨w,rfl⟩:=YS hh;exact .v 2 h1 (.done 6)
 |false=>
  have h2:some (w.take 1==[120])=some false:=by
   cases w with
   |nil=>rfl
   |cons a w=>exact aM some (xV fun q=>by
     have e:a=120:=(qS q).1;subst e;exact ff hh.symm)
  exact .v 2 h1 (.b 0 h2 (.done 5))
def rnE(v:Nat)(z:Bool):List Tok4:=ivT v++bif z then [] else [.er QP]
theorem ZAi(hb:tx.length<=900)(hd:tx.drop p=x++w)(hx:x.length=s-p)(hp:p<=s):exs (JF tT (n+1)) rnT ⟨rnL tx p h s s v,H,nx,P⟩=some (.ret (.tup [.list [JL QX],.str x,.int s]),⟨rnL tx p h s s v,H,nx,P⟩):=by
 have h1:slV σ0 (.str tx) (.int p) (.int s)=some (.str x):=by
  rw[Q0 p s rfl rfl (mx hb),hd,<- hx,dm]
 have h2:some ((s:Int)==(s:Int))=some true:=aM some (aS _);refine JB.exs ?_;exact .b 0 h2 (.v 3 h1 (.done 1))
theorem ZCp(hb:tx.length<=900)(hd:tx.drop i=t)(hne:i≠s)(hP:54∉P):exs (JF tT (n+1)) rnT ⟨rnL tx p h s i v,H,nx,P⟩=some (.ret (.tup [bif smc t then .obj (.p 54) else .list (vs (rnE v false)),.str [sgV v],.int (i+bif smc t then 1 else 0:Nat)]),⟨rnL tx p h s i v++[(71,.obj (.p 54)),(68,.str [sgV v])],(.p 54,.list (vs (ivT v)))::H,nx,54::P⟩):=by
 have h2:some ((i:Int)==(s:Int))=some false:=aM some (xV fun q=>hne (cn q))
 have h1:slV σ0 (.str tx) (.int i) (.int (i+1:Nat))=some (.str (t.take 1)):=by
  rw[Q0 i (i+1) rfl rfl (mx hb),hd,ao]
 have ha:=Yr (L:=rnL tx p h s i v) (H:=H) (nx:=nx) (o:=.list []) hP;have h3:some (t.take 1==[59])=some (smc t):=by
  cases t with
  |nil=>rfl
  |cons a t=>
   refine aM some ?_;by_cases e:a=59
   ·subst e;rfl
   ·exact(xV fun q=>e (qS q).1).trans (Je e).symm
 have hP2:decide (54∉P)=true:=aU hP;by_cases hg:1114111<v
 ·have hb:Nat.blt 1114111 v=true:=ble hg
  have e1:sgV v=65533:=by unfold sgV;rw[hb];rfl
  have e2:ivT v=[.iv v]:=by unfold ivT ilv;rw[hb,Bool.or_true];rfl
  unfold rnE;rw[e1,e2];have f1:some (decide ((v:Int)<9))=some false:=aM some (an fun q=>absurd (a8.mp (q:(v:Int)<(9:Nat))) (bM.mpr (qA (by decide) (xF hg))))
  have f2:some (decide ((v:Int) > 1114111))=some true:=aM some (aU (a8.mpr hg));cases hs:smc t with
  |true=>
   rw[hs] at h3;refine JB.exs ?_;exact .b 0 h2 (.c 1 ha (.b 0 f1 (.b 1 f2 (.b 10 f2 (.v 2 h1 (.b 0 h3 (.done 3)))))))
  |false=>
   rw[hs] at h3;refine JB.exs ?_;exact .b 0 h2 (.c 1 ha (.b 0 f1 (.b 1 f2 (.b 10 f2 (.v 2 h1 (.b 0 h3 (.done 5)))))))
 ·have hb:Nat.blt 1114111 v=false:=bW.mpr fun q=>hg (qE q)
  have e1:sgV v=v:=by unfold sgV;rw[hb];rfl
  have f2:some (decide ((v:Int) > 1114111))=some false:=aM some (an fun q=>hg (a8.mp q))
  have f3:=Gf (i:=(v:Int)) (t:=v) rfl (aU (aj v)) (aU (a8.mpr (Nat.lt_succ_of_le (bM.mp hg))));unfold rnE;rw[e1];by_cases h9:v<9
  ·have hb9:Nat.blt v 9=true:=ble h9
   have e2:ivT v=[.iv v]:=by unfold ivT ilv;rw[hb9];rfl
   rw[e2];have f1:some (decide ((v:Int)<9))=some true:=aM some (aU (a8.mpr h9:(v:Int)<(9:Nat)));cases hs:smc t with
   |true=>
    rw[hs] at h3;refine JB.exs ?_;exact .b 0 h2 (.c 1 ha (.b 0 f1 (.b 11 f2 (.v 1 f3 (.v 1 h1 (.b 0 h3 (.done 3)))))))
   |false=>
    rw[hs] at h3;refine JB.exs ?_;exact .b 0 h2 (.c 1 ha (.b 0 f1 (.b 11 f2 (.v 1 f3 (.v 1 h1 (.b 0 h3 (.done 5)))))))
  ·have hb9:Nat.blt v 9=false:=bW.mpr fun q=>h9 (qE q)
   have e2:ivT v=[]:=by unfold ivT ilv;rw[hb9,hb];rfl
   rw[e2];have f1:some (decide ((v:Int)<9))=some false:=aM some (an fun q=>h9 (a8.mp (q:(v:Int)<(9:Nat))))
   cases hs:smc t with
   |true=>
    rw[hs] at h3;refine JB.exs ?_;exact .b 0 h2 (.c 1 ha (.b 0 f1 (.b 1 f2 (.b 1 f2 (.v 1 f3 (.v 1 h1 (.b 0 h3 (.done 3))))))))
   |false=>
    rw[hs] at h3;refine JB.exs ?_;exact .b 0 h2 (.c 1 ha (.b 0 f1 (.b 1 f2 (.b 1 f2 (.v 1 f3 (.v 1 h1 (.b 0 h3 (.done 5))))))))
def Qh:List LN:=match Qk with
 |.dict ks _=>ks
 |_=>[]
noncomputable def nmB:ME:=.bi .len [(.loc 66)]
noncomputable def nmC:ME:=.cmp .eq (.sl (.loc 1) (.bop .add (.loc 2) (.k (.int 1))) (.bop .add (.bop .add (.loc 2) (.k (.int 1))) (.bi .len [(.loc 66)]))) (.loc 66)
noncomputable def szs(ks:List LN)(r:LN):List Vv:=(ks.filter fun q=>r.take q.length==q).map fun q=>.int q.length
theorem Lh(hb:tx.length<=900)(hd:tx.drop (p+1)=r):∀ks:List LN,(∀q∈ks,q.length<=100)->Jt (Jj (ev C nmB) (ev C nmC) 66 (rmL tx p a)) (ks.map .str) ⟨rmL tx p a,H,nx,P⟩=some (szs ks r,⟨rmL tx p a,H,nx,P⟩):=by
 intro ks;induction ks with
 |nil=>exact fun J=>rfl
 |cons q ks ih=>
  intro h;have hl:q.length<=JC:=qA (h q (.head _)) (by decide)
  have hs:slV σ0 (.str tx) (.int (p+1:Nat)) (.int (p+1+q.length:Nat))=some (.str (r.take q.length)):=by
   rw[Q0 (p+1) (p+1+q.length) rfl rfl (mx hb),hd,ao]
  have hc:ev C nmC ⟨(66,.str q)::rmL tx p a,H,nx,P⟩=some (.bool (r.take q.length==q),⟨(66,.str q)::rmL tx p a,H,nx,P⟩):=by
   refine JB.ev ?_;have hq:some (r.take q.length==q)=some (r.take q.length==q):=rfl;exact .v 2 (QJ hl) (.v 1 hs (.b 0 hq (.done 1)))
  have hv:ev C nmB ⟨(66,.str q)::rmL tx p a,H,nx,P⟩=some (.int q.length,⟨(66,.str q)::rmL tx p a,H,nx,P⟩):=by
   exact JB.ev (.v 0 (QJ hl) (.done 1))
  show bn (bn (ev C nmC ⟨(66,.str q)::rmL tx p a,H,nx,P⟩) _) _=_;rw[hc];unfold szs;rw[List.filter_cons];cases e:r.take q.length==q with
  |false=>
   show bn (Jt _ (ks.map .str) ⟨rmL tx p a,H,nx,P⟩) _=_;rw[ih fun x hx=>h x (.tail _ hx)];rfl
  |true=>
   show bn (bn (ev C nmB ⟨(66,.str q)::rmL tx p a,H,nx,P⟩) _) _=_;rw[hv];show bn (Jt _ (ks.map .str) ⟨rmL tx p a,H,nx,P⟩) _=_;rw[ih fun x hx=>h x (.tail _ hx)];rfl
theorem ZAN{z}(hz:z∈rws)(ho:∀b t',t=b::t'->(z.w,b)∈ofW):szs Qh (z.w++t)=szs Qh z.w:=by
 cases t with
 |nil=>rw[aQ]
 |cons b t=>
  have e:∀y∈ofW,szs Qh (y.1++y.2::t)=szs Qh y.1:=JD (by kernel_rfl)
  exact e (z.w,b) (ho b t rfl)
def XV:List MS:=rfS 4
theorem Lg:exs (JF tT (n+1)) XV ⟨rmL tx p a++[(214,.list (szs Qh []))],H,nx,P⟩=some (.ret (.tup [.list [JL Wq],.str [38],.int (p+1:Nat)]),⟨rmL tx p a++[(214,.list (szs Qh []))],H,nx,P⟩):=by
 refine JB.exs ?_;exact .done 7
theorem Lf{z}(hz:z∈rwM)(hb:tx.length<=900)(hd:tx.drop (p+1)=z.w++t):exs (JF tT (n+1)) XV ⟨rmL tx p a++[(214,.list (szs Qh z.w))],H,nx,P⟩=some (.ret (.tup [.list (vs z.e),.str [z.s],.int (p+1+z.k:Nat)]),⟨rmL tx p a++[(214,.list (szs Qh z.w)),(37,.int (p+1+z.k:Nat)),(66,.str (z.w.take z.k))],H,nx,P⟩):=by
 have hs:slV σ0 (.str tx) (.int (p+1:Nat)) (.int (p+1+z.k:Nat))=some (.str (z.w.take z.k)):=by
  have hk:∀z∈rwM,Nat.ble z.k z.w.length=true:=JD (by kernel_rfl)
  rw[Q0 (p+1) (p+1+z.k) rfl rfl (mx hb),hd,ao,List.take_append_of_le_length (qE (hk z hz))]
 have e1:∀z∈rwM,(fw 7 (exsK false (JF tT (n+1)) XV ⟨rmL tx p a++[(214,.list (szs Qh z.w))],H,nx,P⟩ .done)).gv=slV σ0 (.str tx) (.int (p+1:Nat)) (.int (p+1+z.k:Nat)):=JD (by kernel_rfl)
 have e2:∀z∈rwM,(fw 7 ((fw 7 (exsK false (JF tT (n+1)) XV ⟨rmL tx p a++[(214,.list (szs Qh z.w))],H,nx,P⟩ .done)).ov (.str (z.w.take z.k)))).out Wv=some (.ret (.tup [.list (vs z.e),.str [z.s],.int (p+1+z.k:Nat)]),⟨rmL tx p a++[(214,.list (szs Qh z.w)),(37,.int (p+1+z.k:Nat)),(66,.str (z.w.take z.k))],H,nx,P⟩):=JD (by kernel_rfl)
 refine JB.exs ?_;exact .v 7 hs (.done 7 (e2 z hz)) (e1 z hz)
def CRf(C:Ora):Ora:=Xg 54 (Wl tT C)
noncomputable def rf0:List MS:=[.asg 211 (.sl (.loc 1) (.bop .add (.loc 2) (.k (.int 1))) (.bop .add (.loc 2) (.k (.int 2))))]
def On:List MS:=(Qi.body.drop 1).take 1
noncomputable def KC:ME:=.cmp .eq (.loc 211) (.k (.str [35]))
theorem G4:Qi.body=rf0++(On++(.iff KC rfC []::(.asg 214 (.comp nmB 66 (.glob Qk) nmC)::XV))):=rfl
theorem Iz(hb:tx.length<=900)(hd:tx.drop (p+1)=a::w):exs C rf0 ⟨[(1,.str tx),(2,.int p)],H,nx,P⟩=some (.next,⟨rmL tx p a,H,nx,P⟩):=by
 have h0:slV σ0 (.str tx) (.int (p+1:Nat)) (.int (p+2:Nat))=some (.str [a]):=by
  rw[Q0 (p+1) (p+2) rfl rfl (mx hb),hd,cE];rfl
 refine JB.exs ?_;exact .v 2 h0 (.done 1)
theorem Ix(hb:tx.length<=900)(hd:tx.drop (p+1)=r)(h:r.take 1=[]\/r.take 1=[32]\/r.take 1=[60]\/r.take 1=[38]):exs C Qi.body ⟨[(1,.str tx),(2,.int p)],H,nx,P⟩=some (.ret (.tup [.list [],.str [38],.int (p+1:Nat)]),⟨[(1,.str tx),(2,.int p),(211,.str (r.take 1))],H,nx,P⟩):=by
 have h0:slV σ0 (.str tx) (.int (p+1:Nat)) (.int (p+2:Nat))=some (.str (r.take 1)):=by
  rw[Q0 (p+1) (p+2) rfl rfl (mx hb),hd,cE]
 revert h0 h;generalize r.take 1=y;intro h h0;refine JB.exs ?_;rcases h with rfl|rfl|rfl|rfl<;>exact .v 2 h0 (.done 5)
noncomputable def Yc:LN:=[0,47,54,59,62,69,73,76,84,97,101,105,108,109,110,111,112,116,120]
theorem Iy(ha:a∈35::Yc):exs C On ⟨rmL tx p a,H,nx,P⟩=some (.next,⟨rmL tx p a,H,nx,P⟩):=by
 have e:∀a∈35::Yc,exs C On ⟨rmL tx p a,H,nx,P⟩=some (.next,⟨rmL tx p a,H,nx,P⟩):=JD (by kernel_rfl)
 exact e a ha
theorem ZCt(ha:a∈Yc):tst C KC ⟨rmL tx p a,H,nx,P⟩=some (false,⟨rmL tx p a,H,nx,P⟩):=by
 have e:∀a∈Yc,tst C KC ⟨rmL tx p a,H,nx,P⟩=some (false,⟨rmL tx p a,H,nx,P⟩):=JD (by kernel_rfl)
 exact e a ha
theorem La:∀a∈al,(Jy a||(Nat.beq a 35||Yc.any (·==a)))=true:=JD (by kernel_rfl)
def XW(F:Rf)(p:Nat):Vv:=.tup [.list (vs F.e),.str F.o,.int (p+1+F.k:Nat)]
theorem YH{y L'}(hc:Cln 54 L H P)(h:exs C Qi.body ⟨[(1,.str tx),(2,.int p)],H,nx,P⟩=some (.ret y,⟨L',H,nx,P⟩)):CRf C 95 [.str tx,.int p] ⟨L,H,nx,P⟩=some (y,⟨L,H,nx,P⟩):=by
 show gd (decide (54∉P)&&Nat.blt 95 1000) (bn (Qf C Qi [.str tx,.int p] ⟨L,H,nx,P⟩) (Qs 54))=_;rw[aU hc.p,cB (m:=Qi) (as:=[.str tx,.int p]) rfl h];exact ZBX hc
theorem ZAj{y L' fs}(hc:Cln 54 L H P)(h:exs C Qi.body ⟨[(1,.str tx),(2,.int p)],H,nx,P⟩=some (.ret y,⟨L',(.p 54,.list (vs fs))::H,nx,54::P⟩)):CRf C 95 [.str tx,.int p] ⟨L,H,nx,P⟩=some (Vv.sb (.p 54) (.list (vs fs)) y,⟨L,H,nx,P⟩):=by
 show gd (decide (54∉P)&&Nat.blt 95 1000) (bn (Qf C Qi [.str tx,.int p] ⟨L,H,nx,P⟩) (Qs 54))=_;rw[aU hc.p,cB (m:=Qi) (as:=[.str tx,.int p]) rfl h];exact Z4 hc (J6 _)
theorem LI{s r U U' y}(h:exs C s U=some (.ret y,U')):exs C (s++r) U=some (.ret y,U'):=by rw[ZG,h];rfl
theorem Ds{pre}(hc:Cln 54 L H P)(hb:tx.length<=900)(hal:∀a∈tx,a∈al)(hd:tx.drop p=pre++w)(hpre:pre.length=bif h then 3 else 2)(hp2:∃u,pre++w=38::35::u/\hd1 120 u=h)(hx:h=true->hdN [69,101] (w.drop (dgs true w).length)=true):CRf (JF tT (n+1)) 95 [.str tx,.int p] ⟨L,H,nx,P⟩=some (XW (num h pre w) p,⟨L,H,nx,P⟩):=by
 obtain⟨u,hu,hh⟩:=hp2;have hdu:tx.drop p=38::35::u:=hd.trans hu;have hs:tx.drop (p+bif h then 3 else 2)=w:=by rw[<- a7,hd,<- hpre,cG]
 have hsl:(p+bif h then 3 else 2)<=tx.length:=by
  have e:pre.length<=(tx.drop p).length:=by rw[hd,aO];exact qK _ _
  rw[am,hpre] at e;have hpl:p<=tx.length:=dI fun q=>by
   rw[be (xF q)] at hdu;exact nomatch hdu
  exact(aW _ _)▸(Nat.le_sub_iff_add_le hpl).mp e
 have happ:=ZI h w;have hon:∀a∈dgs h w,dg (bs h) a=true:=Xz w;have hle:=HY (h:=h) (d:=w);have ht:∀a u,w.drop (dgs h w).length=a::u->dg (bs h) a=false/\(h=true->a≠101):=fun a u e=>⟨Dc (p:=dg (bs h)) e,fun q=>by
  subst q;have hx:=hx rfl;rw[e] at hx;intro q;subst q;exact absurd hx (by decide:¬(!(([69,101]:LN).contains 101))=true)⟩
 unfold num;revert happ hon hle ht;generalize dgs h w=d;generalize w.drop d.length=t;intro happ hon hle ht;have hwl:w.length<=900:=by rw[<- hs,am];exact qA (xU _ _) hb
 have hw:=LH (C:=JF tT (n+1)) (H:=H) (nx:=nx) (P:=P) (p:=p) (s:=p+bif h then 3 else 2) hb hal ht d (p+bif h then 3 else 2) 0 J2 hon (hs.trans happ.symm) hsl (qL (qA hle hwl) (by decide))
 have hw:exc (JF tT (n+1)) (.whl rnW rnB) ⟨rnL tx p h (p+bif h then 3 else 2) (p+bif h then 3 else 2) 0,H,nx,P⟩=some (.next,⟨rnL tx p h (p+bif h then 3 else 2) (p+(bif h then 3 else 2)+d.length) (numV (bs h) d),H,nx,P⟩):=hw
 have hbody:∀{y U'},exs (JF tT (n+1)) rnT ⟨rnL tx p h (p+bif h then 3 else 2) (p+(bif h then 3 else 2)+d.length) (numV (bs h) d),H,nx,P⟩=some (.ret y,U')->exs (JF tT (n+1)) Qi.body ⟨[(1,.str tx),(2,.int p)],H,nx,P⟩=some (.ret y,U'):=fun {y U'} e=>by
  have h35:tx.drop (p+1)=35::u:=by rw[<- a7,hdu];rfl
  have ht2:tst (JF tT (n+1)) KC ⟨rmL tx p 35,H,nx,P⟩=some (true,⟨rmL tx p 35,H,nx,P⟩):=by kernel_rfl
  rw[G4,Jl (Iz hb h35),Jl (Iy (.head _)),W4 ht2];refine LI ?_;rw[RJ,Jl (ZCq hb hdu hh),GS hw];exact e
 have hi:p+1+(pre.length-1)=p+bif h then 3 else 2:=by
  rw[hpre];cases h with|false=>rfl|true=>rfl
 cases d with
 |nil=>
  have e0:vs [Tok4.er QX]=[JL QX]:=rfl;refine(YH hc (hbody (ZAi (n:=n) (v:=numV (bs h) []) (h:=h) (H:=H) (nx:=nx) (P:=P) hb hd (s:=p+bif h then 3 else 2) (hpre.trans (ao ..).symm) (qK _ _)))).trans ?_;show _=some (Vv.tup [.list [JL QX],.str pre,.int (p+1+(pre.length-1):Nat)],_);rw[hi]
 |cons a d=>
  have hdt:tx.drop (p+(bif h then 3 else 2)+(a::d).length)=t:=by rw[<- a7,hs,<- happ,cG]
  refine(ZAj hc (hbody (ZCp (n:=n) (v:=numV (bs h) (a::d)) (h:=h) (H:=H) (nx:=nx) (P:=P) hb hdt (fun q=>absurd (Nat.add_left_cancel (k:=0) q) (fun q=>nomatch q)) hc.p))).trans ?_
  refine aM (fun y=>some (y,_)) ?_
  have e1:p+(bif h then 3 else 2)+(a::d).length+(bif smc t then 1 else 0)=p+1+(pre.length-1+(a::d).length+bif smc t then 1 else 0):=by
   rw[<- hi,aX,aX (p+1),aX (pre.length-1)]
  unfold XW Xb;rw[e1];cases smc t with
  |true=>
   show Vv.tup [.list (vs (ivT (numV (bs h) (a::d)))),_,_]=Vv.tup [.list (vs (ivT (numV (bs h) (a::d))++[])),_,_];rw[aQ];rfl
  |false=>
   show Vv.tup [.list (Vv.sbs (.p 54) _ (vs (rnE (numV (bs h) (a::d)) false))),_,_]=_;rw[Vv.sbs_no _ (J6 _)];rfl
theorem RN(hc:Cln 54 L H P)(hb:tx.length<=900)(hal:∀a∈tx,a∈al)(hd:tx.drop p=38::r)(fL:okR r=true):CRf (JF tT (n+1)) 95 [.str tx,.int p] ⟨L,H,nx,P⟩=some (XW (rf r) p,⟨L,H,nx,P⟩):=by
 have hdr:tx.drop (p+1)=r:=by rw[<- a7,hd];rfl
 have hra:∀a∈r,a∈al:=fun a h=>hal a (bF (hdr▸h:a∈tx.drop (p+1)))
 cases r with
 |nil=>exact YH hc (Ix hb hdr (.inl rfl))
 |cons a w=>
  have fL:(Jy a||bif Nat.beq a 35 then !(hd1 120 w)||hdN [69,101] (w.tail.drop (dgs true w.tail).length) else okN (a::w))=true:=fL;show _=some (XW (bif Jy a then r0 else bif Nat.beq a 35 then bif hd1 120 w then num true [38,35,120] w.tail else num false [38,35] w else rfN (a::w)) p,_);cases h3:Jy a with
  |true=>
   refine YH hc (Ix hb hdr ?_);show [a]=[]\/[a]=[32]\/[a]=[60]\/[a]=[38];rcases az.mp h3 with h|h
   ·exact .inr (.inl (aM (fun x=>[x]) (aa h)))
   rcases az.mp h with h|h
   ·exact .inr (.inr (.inl (aM (fun x=>[x]) (aa h))))
   ·exact .inr (.inr (.inr (aM (fun x=>[x]) (aa h))))
  |false=>
   rw[h3] at fL;cases h35:Nat.beq a 35 with
   |true=>
    rw[h35] at fL;cases aa h35;cases hh:hd1 120 w with
    |true=>
     rw[hh] at fL;obtain⟨w,rfl⟩:=YS hh;exact Ds (h:=true) (pre:=[38,35,120]) hc hb hal hd rfl ⟨120::w,rfl,rfl⟩ fun J=>fL
    |false=>exact Ds (h:=false) (pre:=[38,35]) hc hb hal hd rfl ⟨w,rfl,hh⟩ fun q=>nomatch q
   |false=>
    rw[h35] at fL;have fL:hdN (nxt (rw? (a::w)).w) ((a::w).drop (rw? (a::w)).w.length)=true:=fL;have hm:=La a (hra a (.head _));rw[h3,h35] at hm;have hm:=Jr hm;obtain⟨hz,t,ht⟩:=Wb (r:=a::w);show _=some (XW ⟨(rw? (a::w)).k,(rw? (a::w)).w.length,(rw? (a::w)).e,[(rw? (a::w)).s]⟩ p,_);revert fL hz ht;generalize rw? (a::w)=z;intro fL hz ht;rw[ht,cG] at fL;have ho:∀b t',t=b::t'->(z.w,b)∈ofW:=fun b t' e=>by
     subst e;exact H9 z hz b (hra b (ht▸cV _ (.head _))) ((cR _).mp fL)
    have hc4:=Lh (C:=JF tT (n+1)) (H:=H) (nx:=nx) (P:=P) (a:=a) hb hdr Qh (fun q hq=>by
     have e:∀q∈Qh,Nat.ble q.length 100=true:=JD (by kernel_rfl)
     exact qE (e q hq))
    rw[ht,ZAN hz ho] at hc4;have h4:exs (JF tT (n+1)) [.asg 214 (.comp nmB 66 (.glob Qk) nmC)] ⟨rmL tx p a,H,nx,P⟩=some (.next,⟨rmL tx p a++[(214,.list (szs Qh z.w))],H,nx,P⟩):=by
     refine JB.exs ?_;exact .l 2 hc4 (.done 1)
    have hbody:∀{y U'},exs (JF tT (n+1)) XV ⟨rmL tx p a++[(214,.list (szs Qh z.w))],H,nx,P⟩=some (.ret y,U')->exs (JF tT (n+1)) Qi.body ⟨[(1,.str tx),(2,.int p)],H,nx,P⟩=some (.ret y,U'):=fun {y U'} e=>by
     rw[G4,Jl (Iz hb hdr),Jl (Iy (.tail _ hm)),WS (ZCt hm)];exact(Jl (s:=[.asg 214 (.comp nmB 66 (.glob Qk) nmC)]) h4).trans e
    rcases Do z hz with hz|rfl
    ·exact YH hc (hbody (Lf hz hb (hdr.trans ht)))
    ·exact YH hc (hbody Lg)
end
noncomputable def iW:ME:=(.and (.cmp .gt (.loc 163) (.k (.int 0))) (.cmp .eq (.sub (.loc 117) (.bop .sub (.loc 163) (.k (.int 1)))) (.k (.str [32]))))
noncomputable def iWb:List MS:=[.augN 163 .sub (.k (.int 1))]
noncomputable def Yf:MS:=.asg 164 (.and (.cmp2 .lt .lt (.k (.int 0)) (.loc 163) (.loc 2)) (.cmp .ne (.sub (.loc 117) (.bop .sub (.loc 163) (.k (.int 1)))) (.k (.str [47]))))
noncomputable def i68:MS:=.asg 68 (.ite (.cmp .lt (.loc 2) (.loc 3)) (.sub (.loc 117) (.loc 2)) (.k (.str [])))
noncomputable def iC1:ME:=(.cmp .eq (.loc 68) (.k (.str [47])))
def iA1:List MS:=[.iff (.cmp .lt (.bop .add (.loc 2) (.k (.int 1))) (.loc 3)) [.ex (.app (.loc 71) (.k (.str wD)))] [.iff (.not (.loc 107)) [.ex (.app (.loc 71) (.k (.str wH)))] []]]
noncomputable def iC2:ME:=(.and (.cmp .eq (.loc 68) (.k (.str []))) (.and (.cmp .lt (.loc 163) (.loc 2)) (.not (.loc 107))))
def iA2:List MS:=[.ex (.app (.loc 71) (.ite (.loc 164) (.k (.str wI)) (.k (.str wG))))]
noncomputable def iC3:ME:=(.and (.cmp .ne (.loc 68) (.k (.str []))) (.cmp .ne (.loc 68) (.k (.str [32]))))
def iS:MS:=.iff (.cmp .eq (.loc 68) (.k (.str [0]))) [.ex (.app (.loc 71) (.k (.str wA)))] [.iff (.cmp .eq (.loc 68) (.k (.str [60]))) [.ex (.app (.loc 71) (.bop .add (.bop .add (.k (.str vD)) (.ite (.loc 164) (.k (.str [97,102,116,101,114])) (.k (.str [105,110])))) (.k (.str vH))))] []]
noncomputable def iC4:ME:=(.or (.cmp .eq (.bop .add (.loc 2) (.k (.int 1))) (.loc 3)) (.cmp .inn (.sub (.loc 117) (.bop .add (.loc 2) (.k (.int 1)))) (.tup [(.k (.str [32])),(.k (.str [47]))])))
noncomputable def iW2:ME:=(.and (.cmp .gt (.loc 77) (.k (.int 0))) (.cmp .nin (.sub (.loc 117) (.bop .sub (.loc 77) (.k (.int 1)))) (.tup [(.k (.str [32])),(.k (.str [47]))])))
noncomputable def O7:List MS:=[.augN 77 .sub (.k (.int 1))]
def iX:List MS:=[.asg 77 (.loc 2),.whl iW2 O7,.asg 78 (.sm .replace (.sm .lower (.sl (.loc 117) (.loc 77) (.bop .add (.loc 2) (.k (.int 1)))) []) [(.k (.str [0])),(.k (.str [65533]))]),.iff (.and (.cmp .eq (.bop .add (.loc 2) (.k (.int 1))) (.loc 3)) (.not (.loc 107))) [.ex (.app (.loc 71) (.k (.str wN)))] [],.iff (.cmp .inn (.loc 78) (.loc 162)) [.ex (.app (.loc 71) (.k (.str wQ)))] [],.ex (.app (.loc 162) (.loc 78))]
def iB:List MS:=[.asg 163 (.loc 2),.whl iW iWb,Yf,i68,.iff iC1 iA1 [.iff iC2 iA2 [.iff iC3 [iS,.iff iC4 iX []] []]]]
theorem Ct:Xl.body=[.asg 71 (.lst [] (.per 51)),.asg 162 (.lst [] (.per 52)),.asg 3 (.bi .len [(.loc 117)]),.for 2 (.bi .range [(.bop .add (.loc 3) (.k (.int 1)))]) iB,.ret (.tup [(.loc 71),(.loc 162)])]:=rfl
theorem Gk{C:Ora}{t:ME}{bd:List MS}{p:Nat->Bool}{mk:Nat->St}{v:LN}(h0:tst C t (mk 0)=some (false,mk 0))(h1:∀i a,v[i]?=some a->tst C t (mk (i+1))=some (p a,mk (i+1)))(h2:∀i,exs C bd (mk (i+1))=some (.next,mk i)):∀(i fD:Nat),i<=v.length->i<fD->Jh (tst C t) (exs C bd) fD (mk i)=some (.next,mk ((v.take i).reverse.dropWhile p).length):=by
 intro i;induction i with
 |zero=>
  intro fD _ hf;cases fD with
  |zero=>exact absurd hf (xJ _)
  |succ n=>exact Uv h0
 |succ i ih=>
  intro fD hi hf;cases fD with
  |zero=>exact absurd hf (xJ _)
  |succ n=>
   have ha:v[i]?=some v[i]:=ah hi;have h1:=h1 i _ ha;rw[List.take_succ_eq_append_getElem hi,bx];show _=some (FL.next,mk ((v[i]::(v.take i).reverse).dropWhile p).length)
   rw[dj];cases e:p v[i] with
   |false=>
    rw[e] at h1;refine(Uv h1).trans ?_;rw[aN ar,au,a9,bU (xF hi)]
   |true=>
    rw[e] at h1;refine(W3 h1 (h2 i) (ih n (xF hi) (xH hf))).trans ?_;rw[aR rfl]
theorem C8{p}{v:LN}{i}(hi:i<=v.length):v.take ((v.take i).reverse.dropWhile p).length=((v.take i).reverse.dropWhile p).reverse:=by
 have h:=aM List.reverse (dP (p:=p) (l:=(v.take i).reverse));rw[bx,dU] at h;have hl:((v.take i).reverse.dropWhile p).length<=i:=by
  have:=(List.dropWhile_suffix (p:=p) (l:=(v.take i).reverse)).length_le;rw[a9,bU hi] at this;exact this
 have h2:=aM (List.take ((v.take i).reverse.dropWhile p).length) h;rw[List.take_take,bj hl,List.take_left' a9] at h2;exact h2.symm
section
variable{C:Ora}{L:List (Nat×Vv)}{H:List (Id×Ob)}{nx i a k:Nat}{P v r w x pr:LN}{c b:Bool}{fs ws:List LN}
noncomputable def stv(l:List LN):List Vv:=l.map .str
noncomputable def inE(v:LN)(c:Bool)(i:Nat):List (Nat×Vv):=[(117,.str v),(107,.bool c),(71,.obj (.p 51)),(162,.obj (.p 52)),(3,.int v.length),(2,.int i)]
noncomputable def Uu(v:LN)(c:Bool)(i:Nat)(bk:Nat)(lt:Bool)(sg:LN):List (Nat×Vv):=[(117,.str v),(107,.bool c),(71,.obj (.p 51)),(162,.obj (.p 52)),(3,.int v.length),(2,.int i),(163,.int bk),(164,.bool lt),(68,.str sg)]
def inM(L:List (Nat×Vv))(H:List (Id×Ob))(nx:Nat)(P:LN)(i:Nat):St:=⟨put L 163 (.int i),H,nx,P⟩
theorem YZ(i):((i+1:Nat):Int)-1=(i:Int):=(show (i:Int)+1-1=i from cM _ _)
theorem sgt(i):some (decide (((i+1:Nat):Int) > 0))=some true:=aM some (aU (a8.mpr (xD i)))
theorem Oh{a b}:some (([a]:LN)==[b])=some (Nat.beq a b):=by
 by_cases h:a=b
 ·subst h;rw[dA];exact aM some (aS _)
 ·rw[Je h];exact aM some (xV fun e=>h (qS e).1)
theorem ML(hb:v.length<=JC)(h1:JA L 117=some (.str v)):∀(i fD:Nat),i<=v.length->i<fD->Jh (tst C iW) (exs C iWb) fD (inM L H nx P i)=some (.next,inM L H nx P (bkS (v.take i).reverse).length):=by
 have l1:∀i:Nat,JA (put L 163 (.int i)) 117=some (.str v):=fun i=>(J5 ..).trans h1
 have l3:∀i:Nat,JA (put L 163 (.int i)) 163=some (.int i):=fun i=>J5 ..
 refine Gk (p:=fun a=>Nat.beq a 32) (JB.tst' ?_) (fun i a h=>JB.tst' ?_) fun i=>?_
 ·exact .v 0 (l3 0) (.done 4)
 ·have hs:=UB h hb
  rw[<- YZ] at hs;exact .v 0 (l3 (i+1)) (.b 0 (sgt i) (.v 1 (l1 (i+1)) (.v 0 (l3 (i+1)) (.v 1 hs (.b 0 (Oh (a:=a) (b:=32)) (.b 0 (YF (b:=Nat.beq a 32)) (.done 1)))))))
 ·show exs C iWb ⟨put L 163 (.int (i+1:Nat)),H,nx,P⟩=some (.next,⟨put L 163 (.int i),H,nx,P⟩)
  rw[show put L 163 (.int (i:Int))=put (put L 163 (.int ((i+1:Nat):Int))) 163 (.int (((i+1:Nat):Int)-1)) by rw[Ks,YZ]]
  refine JB.exs' ?_;exact .v 0 (l3 (i+1)) (.done 2)
noncomputable def sg1:LN->LN
 |[]=>[]
 |a::_=>[a]
theorem ZCa{a b}:some (!(([a]:LN)==[b]))=some (!(Nat.beq a b)):=aM some (aM (!·) (aY Oh))
def inP:List MS:=[.asg 163 (.loc 2),.whl iW iWb,Yf,i68]
theorem Ek{B}(hm:v.length<=JC)(hbt:v.take B.length=B.reverse)(k1:Kn L [(117,.str v),(2,.int i),(163,.int B.length)]):exs C [Yf] ⟨L,H,nx,P⟩=some (.next,⟨put L 164 (.bool (Nat.blt B.length i&&ZY B)),H,nx,P⟩):=by
 refine JB.exs' ?_;cases B with
 |nil=>
  rw[show (Nat.blt ([]:LN).length i&&ZY [])=false from cS _];exact .v 0 (k1.get 163 rfl) (.done 3)
 |cons x t=>
  have hg:some (decide ((0:Int)<((t.length+1:Nat):Int)))=some true:=aM some (aU (a8.mpr (xD t.length)));by_cases fG:t.length+1<i
  ·have hx:v[t.length]?=some x:=by
    have h:(v.take (t.length+1))[t.length]?=(x::t).reverse[t.length]?:=aM (fun l:LN=>l[t.length]?) hbt
    rw[List.getElem?_take_of_lt (xB _),bt] at h;refine h.trans ?_;rw[d7 (qU a9),a9,eF];rfl
   have hs:=UB hx hm;rw[<- YZ] at hs;rw[show Nat.blt (x::t).length i=true from ble fG];exact .v 0 (k1.get 163 rfl) (.b 0 hg (.v 0 (k1.get 2 rfl) (.b 0 (slt fG) (.v 1 (k1.get 117 rfl) (.v 0 (k1.get 163 rfl) (.v 1 hs (.b 0 (ZCa (a:=x) (b:=47)) (.done 1))))))))
  ·rw[show Nat.blt (x::t).length i=false from bW.mpr fun q=>fG (qE q)]
   exact .v 0 (k1.get 163 rfl) (.b 0 hg (.v 0 (k1.get 2 rfl) (.b 0 (Uo fG) (.done 2))))
theorem HP(hb:v.length<=900)(hi:i<=v.length)(hd:v.drop i=r)(hp:(v.take i).reverse=pr)(k:Kn L (inE v c i)):∃L',exs C inP ⟨L,H,nx,P⟩=some (.next,⟨L',H,nx,P⟩)/\Kn L' (Uu v c i (bkS pr).length (Js pr) (sg1 r)):=by
 have hm:v.length<=JC:=mx hb;have hw:=ML (C:=C) (L:=L) (H:=H) (nx:=nx) (P:=P) hm (k.get 117 rfl) i J2 hi (qL (qA hi hb) (by decide))
 have hbt:=C8 (p:=fun a=>Nat.beq a 32) hi
 rw[hp] at hw hbt;have hpl:pr.length=i:=by rw[<- hp,a9,bU hi]
 have k1:=k.put 163 (.int (bkS pr).length);have h1:exs C [.asg 163 (.loc 2),.whl iW iWb] ⟨L,H,nx,P⟩=some (.next,⟨k1.lc,H,nx,P⟩):=by
  refine JB.exs' ?_;exact .v 0 (k.get 2 rfl) (.fl 0 hw (.done 1))
 have h2:exs C [Yf] ⟨k1.lc,H,nx,P⟩=some (.next,⟨put k1.lc 164 (.bool (Js pr)),H,nx,P⟩):=by
  have h:=Ek (C:=C) (H:=H) (nx:=nx) (P:=P) hm hbt (k1.sub [117,2,163]);rw[<- hpl] at h;exact h
 have k2:=k1.put 164 (.bool (Js pr));have h3:exs C [i68] ⟨k2.lc,H,nx,P⟩=some (.next,⟨put k2.lc 68 (.str (sg1 r)),H,nx,P⟩):=by
  refine JB.exs' ?_;cases r with
  |nil=>
   have e:i=v.length:=W1 hd hi;subst e;exact .v 0 (k2.get 2 rfl) (.v 0 (k2.get 3 rfl) (.b 0 (Uo (xS v.length)) (.done 2)))
  |cons a r=>
   obtain⟨e1,e2,e3⟩:=QH hd;exact .v 0 (k2.get 2 rfl) (.v 0 (k2.get 3 rfl) (.b 0 (slt e3) (.v 1 (k2.get 117 rfl) (.v 0 (k2.get 2 rfl) (.v 0 (UB e1 hm) (.done 1))))))
 have k3:=k2.put 68 (.str (sg1 r));refine⟨k3.lc,?_,k3.sub [117,107,71,162,3,2,163,164,68]⟩;rw[show inP=[.asg 163 (.loc 2),.whl iW iWb]++([Yf]++[i68]) from rfl,Jl h1,Jl h2];exact h3
end
def i4:List MS:=[.iff iC1 iA1 [.iff iC2 iA2 [.iff iC3 [iS,.iff iC4 iX []] []]]]
theorem IQ:iB=inP++i4:=rfl
def inH(H:List (Id×Ob))(fs ws:List LN):List (Id×Ob):=(.p 52,.list (stv ws))::(.p 51,.list (stv fs))::H
section
variable{C:Ora}{L:List (Nat×Vv)}{H:List (Id×Ob)}{nx i a k bk:Nat}{P v r w x pr:LN}{c b lt:Bool}{fs ws:List LN}
theorem W5{l l'}:stv (l++l')=stv l++stv l':=bH
theorem De{l}:(stv l).length=l.length:=aP _
theorem gst(h:fs.length<=100000):Nat.ble (stv fs).length JC=true:=ble (by rw[De];exact qA h (by decide))
theorem SV(hf:fs.length<=100000)(k:Kn L (Uu v c i bk lt [])):exs C i4 ⟨L,inH H fs ws,nx,P⟩=some (.next,⟨L,inH H (fs++bif Nat.blt bk i&&!c then [bif lt then Ur else Us] else []) ws,nx,P⟩):=by
 have g:=gst hf;unfold inH;rw[W5];by_cases fG:bk<i
 ·rw[show Nat.blt bk i=true from ble fG]
  cases c with
  |true=>
   rw[show stv (bif true&&!true then [bif lt then Ur else Us] else [])=[] from rfl,aQ];refine JB.exs' ?_;exact .v 0 (k.get 68 rfl) (.v 2 (k.get 68 rfl) (.v 2 (k.get 163 rfl) (.v 0 (k.get 2 rfl) (.b 0 (slt fG) (.v 1 (k.get 107 rfl) (.v 2 (k.get 68 rfl) (.done 4)))))))
  |false=>
   refine JB.exs' ?_;cases lt
   ·exact .v 0 (k.get 68 rfl) (.v 2 (k.get 68 rfl) (.v 2 (k.get 163 rfl) (.v 0 (k.get 2 rfl) (.b 0 (slt fG) (.v 1 (k.get 107 rfl) (.v 2 (k.get 71 rfl) (.v 1 (k.get 164 rfl) (.g 2 g (.done 2)))))))))
   ·exact .v 0 (k.get 68 rfl) (.v 2 (k.get 68 rfl) (.v 2 (k.get 163 rfl) (.v 0 (k.get 2 rfl) (.b 0 (slt fG) (.v 1 (k.get 107 rfl) (.v 2 (k.get 71 rfl) (.v 1 (k.get 164 rfl) (.g 2 g (.done 2)))))))))
 ·rw[show Nat.blt bk i=false from bW.mpr fun q=>fG (qE q),show stv (bif false&&!c then [bif lt then Ur else Us] else [])=[] from rfl,aQ]
  refine JB.exs' ?_;exact .v 0 (k.get 68 rfl) (.v 2 (k.get 68 rfl) (.v 2 (k.get 163 rfl) (.v 0 (k.get 2 rfl) (.b 0 (Uo fG) (.v 2 (k.get 68 rfl) (.done 4))))))
theorem ZBT(hf:fs.length<=100000)(hi:i+1+r.length=v.length)(k:Kn L (Uu v c i bk lt [47])):exs C i4 ⟨L,inH H fs ws,nx,P⟩=some (.next,⟨L,inH H (fs++J3 c r (.S ws)) ws,nx,P⟩):=by
 have g:=gst hf;unfold inH;rw[W5];cases r with
 |nil=>
  have hv:¬i+1<v.length:=hi▸xS _;cases c with
  |true=>
   rw[show stv (J3 true [] (.S ws))=[] from rfl,aQ];refine JB.exs' ?_;exact .v 0 (k.get 68 rfl) (.v 2 (k.get 2 rfl) (.v 1 (k.get 3 rfl) (.b 0 (Uo hv) (.v 1 (k.get 107 rfl) (.done 3)))))
  |false=>
   refine JB.exs' ?_;exact .v 0 (k.get 68 rfl) (.v 2 (k.get 2 rfl) (.v 1 (k.get 3 rfl) (.b 0 (Uo hv) (.v 1 (k.get 107 rfl) (.v 2 (k.get 71 rfl) (.g 2 g (.done 2)))))))
 |cons b r=>
  have hv:i+1<v.length:=hi▸bZ (xD _);refine JB.exs' ?_;exact .v 0 (k.get 68 rfl) (.v 2 (k.get 2 rfl) (.v 1 (k.get 3 rfl) (.b 0 (slt hv) (.v 1 (k.get 71 rfl) (.g 2 g (.done 2))))))
theorem ZBU(k:Kn L (Uu v c i bk lt [32])):exs C i4 ⟨L,inH H fs ws,nx,P⟩=some (.next,⟨L,inH H fs ws,nx,P⟩):=by
 refine JB.exs' ?_;exact .v 0 (k.get 68 rfl) (.v 2 (k.get 68 rfl) (.v 3 (k.get 68 rfl) (.v 2 (k.get 68 rfl) (.done 3))))
theorem ZBR(hf:fs.length<=100000)(k:Kn L (Uu v c i bk lt [a])):exs C [iS] ⟨L,inH H fs ws,nx,P⟩=some (.next,⟨L,inH H (fs++wF lt a) ws,nx,P⟩):=by
 have g:=gst hf;unfold inH;rw[W5];by_cases h0:a=0
 ·subst h0
  refine JB.exs' ?_;exact .v 0 (k.get 68 rfl) (.v 2 (k.get 71 rfl) (.g 2 g (.done 2)))
 by_cases h60:a=60
 ·subst h60
  refine JB.exs' ?_;cases lt
  ·exact .v 0 (k.get 68 rfl) (.v 2 (k.get 68 rfl) (.v 2 (k.get 71 rfl) (.v 1 (k.get 164 rfl) (.g 4 g (.done 2)))))
  ·exact .v 0 (k.get 68 rfl) (.v 2 (k.get 68 rfl) (.v 2 (k.get 71 rfl) (.v 1 (k.get 164 rfl) (.g 4 g (.done 2)))))
 ·rw[show wF lt a=[] by unfold wF;rw[Je h0,Je h60];rfl,show stv []=[] from rfl,aQ]
  refine JB.exs' ?_;exact .v 0 (k.get 68 rfl) (.b 0 (neq h0) (.v 1 (k.get 68 rfl) (.b 0 (neq h60) (.done 2))))
theorem in2{a}:some ([[32],[47]].any (·==[a]))=some (wb a):=aM some TR
theorem ZCz{a}:some (!([[32],[47]].any (·==[a])))=some (!(wb a)):=aM (fun q=>some (!q)) TR
def TB(L:List (Nat×Vv))(H:List (Id×Ob))(nx:Nat)(P:LN)(i:Nat):St:=⟨put L 77 (.int i),H,nx,P⟩
theorem El(hb:v.length<=JC)(h1:JA L 117=some (.str v)):∀(i fD:Nat),i<=v.length->i<fD->Jh (tst C iW2) (exs C O7) fD (TB L H nx P i)=some (.next,TB L H nx P ((v.take i).reverse.dropWhile fun a=>!(wb a)).length):=by
 have l1:∀i:Nat,JA (put L 77 (.int i)) 117=some (.str v):=fun i=>(J5 ..).trans h1
 have l3:∀i:Nat,JA (put L 77 (.int i)) 77=some (.int i):=fun i=>J5 ..
 refine Gk (p:=fun a=>!(wb a)) (JB.tst' ?_) (fun i a h=>JB.tst' ?_) fun i=>?_
 ·exact .v 0 (l3 0) (.done 4)
 ·have hs:=UB h hb
  rw[<- YZ] at hs;exact .v 0 (l3 (i+1)) (.b 0 (sgt i) (.v 1 (l1 (i+1)) (.v 0 (l3 (i+1)) (.v 1 hs (.b 0 (ZCz (a:=a)) (.b 0 (YF (b:=!(wb a))) (.done 1)))))))
 ·show exs C O7 ⟨put L 77 (.int (i+1:Nat)),H,nx,P⟩=some (.next,⟨put L 77 (.int i),H,nx,P⟩)
  rw[show put L 77 (.int (i:Int))=put (put L 77 (.int ((i+1:Nat):Int))) 77 (.int (((i+1:Nat):Int)-1)) by rw[Ks,YZ]]
  refine JB.exs' ?_;exact .v 0 (l3 (i+1)) (.done 2)
theorem ZBS(hm:v.length<=JC)(hi:i+1+r.length=v.length)(hd:v.drop (i+1)=r)(k:Kn L (Uu v c i bk lt [a])):tst C iC4 ⟨L,H,nx,P⟩=some (WG r,⟨L,H,nx,P⟩):=by
 refine JB.tst' ?_;cases r with
 |nil=>
  have e:some (((i+1:Nat):Int)==(v.length:Int))=some true:=aM some (aV.mpr (aM Int.ofNat hi));exact .v 0 (k.get 2 rfl) (.v 1 (k.get 3 rfl) (.b 0 e (.done 3)))
 |cons b r=>
  obtain⟨e1,e2,e3⟩:=QH hd;have e:some (((i+1:Nat):Int)==(v.length:Int))=some false:=aM some (xV fun q=>absurd (cn q) (qP e3))
  exact .v 0 (k.get 2 rfl) (.v 1 (k.get 3 rfl) (.b 0 e (.v 1 (k.get 117 rfl) (.v 0 (k.get 2 rfl) (.v 1 (UB e1 hm) (.b 0 (in2 (a:=b)) (.b 0 (YF (b:=wb b)) (.done 1))))))))
theorem LF:∀l:LN,(rp l).map lowC=rp (l.map lowC):=fun l0=>by
 induction l0 with
 |nil=>
  exact rfl
 |cons a l ih=>
  have e:lowC (rp1 a)=rp1 (lowC a):=by
   by_cases h:a=0
   ·subst h;rfl
   ·have h2:lowC a≠0:=by
     unfold lowC;exact OP (·≠0) (fun J=>dJ _) fun J=>h
    rw[OD h,OD h2]
  show lowC (rp1 a)::(rp l).map lowC=rp1 (lowC a)::rp (l.map lowC);rw[e,ih]
theorem MI(hi:i+1+r.length=v.length)(hd:v.drop i=a::r)(hp:(v.take i).reverse=pr)(ha:wb a=false)(hm:v.length<=JC):slV σ0 (.str v) (.int (pr.dropWhile fun a=>!(wb a)).length) (.int (i+1:Nat))=some (.str ((a::pr).takeWhile fun a=>!(wb a)).reverse):=by
 have ht:v.take (i+1)=(a::pr).reverse:=by
  rw[List.take_add_one,(QH hd).1,bt,<- hp,dU];rfl
 rw[Q0 _ _ rfl rfl hm,<- cT,ht];have e:(a::pr).reverse=(pr.dropWhile fun a=>!(wb a)).reverse++((a::pr).takeWhile fun a=>!(wb a)).reverse:=by
  rw[aw,ha];show (a::pr).reverse=(pr.dropWhile fun a=>!(wb a)).reverse++(a::pr.takeWhile fun a=>!(wb a)).reverse
  rw[bt,bt,<- aT,<- bx,dP]
 rw[e,List.drop_left' a9]
end
section
variable{C:Ora}{L:List (Nat×Vv)}{H:List (Id×Ob)}{nx i a k bk:Nat}{P v r w x pr:LN}{c b lt:Bool}{fs ws:List LN}
def iXa:List MS:=iX.take 3
def iXb:List MS:=iX.drop 3
theorem ZBN(hb:v.length<=900)(hA:∀a∈v,a<128)(hd:v.drop i=a::r)(hp:(v.take i).reverse=pr)(ha:wb a=false)(k:Kn L (Uu v c i bk lt [a])):∃L',exs C iXa ⟨L,H,nx,P⟩=some (.next,⟨L',H,nx,P⟩)/\Kn L' ((78,.str ((wd (a::pr)).map lowC))::inE v c i):=by
 have hm:v.length<=JC:=mx hb;obtain⟨e1,e2,e3⟩:=QH hd;have hi:i+1+r.length=v.length:=DO e3 e2;have hw:=El (C:=C) (L:=L) (H:=H) (nx:=nx) (P:=P) hm (k.get 117 rfl) i J2 (xF e3) (xG e3 (qA hb (by decide)))
 rw[hp] at hw;have hs:=MI hi hd hp ha hm;have k1:=k.put 77 (.int (pr.dropWhile fun a=>!(wb a)).length)
 have hsub:∀y∈((a::pr).takeWhile fun a=>!(wb a)).reverse,y∈v:=fun y hy=>by
  have h:=(qM _).subset (eK.mp hy);rcases aZ.mp h with rfl|h
  ·exact bC e1
  ·exact dY (eK.mp (hp▸h))
 have hle:((a::pr).takeWhile fun a=>!(wb a)).reverse.length<=1000:=by
  rw[a9];refine qA (qM _).length_le ?_;rw[<- hp,au,a9,bU (xF e3)];exact qA e3 (qA hb (by decide))
 have hlo:=Yz (fun y hy=>hA y (hsub y hy)) hle
 have hrp:=RM (s:=(((a::pr).takeWhile fun a=>!(wb a)).reverse).map lowC) (by rw[aP];exact hle)
 rw[<- LF] at hrp;have k2:=k1.put 78 (.str ((wd (a::pr)).map lowC));refine⟨k2.lc,JB.exs' ?_,k2.sub [78,117,107,71,162,3,2]⟩;exact .v 0 (k.get 2 rfl) (.fl 0 hw (.v 0 (k1.get 117 rfl) (.v 0 (k1.get 77 rfl) (.v 0 (k1.get 2 rfl) (.v 1 hs (.v 0 hlo (.v 0 hrp (.done 1))))))))
theorem ZBQ(hf:fs.length<=100000)(hi:i+1+r.length=v.length)(k:Kn L ((78,.str w)::inE v c i)):exs C (iXb.take 1) ⟨L,inH H fs ws,nx,P⟩=some (.next,⟨L,inH H (fs++bif r.isEmpty&&!c then [Qr] else []) ws,nx,P⟩):=by
 have g:=gst hf;unfold inH;rw[W5];refine JB.exs' ?_;cases r with
 |nil=>
  have e:some (((i+1:Nat):Int)==(v.length:Int))=some true:=aM some (aV.mpr (aM Int.ofNat hi));cases c with
  |true=>
   rw[show stv (bif ([]:LN).isEmpty&&!true then [Qr] else [])=[] from rfl,aQ];exact .v 0 (k.get 2 rfl) (.v 1 (k.get 3 rfl) (.b 0 e (.v 1 (k.get 107 rfl) (.done 3))))
  |false=>exact .v 0 (k.get 2 rfl) (.v 1 (k.get 3 rfl) (.b 0 e (.v 1 (k.get 107 rfl) (.v 2 (k.get 71 rfl) (.g 2 g (.done 2))))))
 |cons b r=>
  have e:some (((i+1:Nat):Int)==(v.length:Int))=some false:=aM some (xV fun q=>absurd (cn q) (qP (hi▸bZ (xD _))))
  rw[show stv (bif (b::r).isEmpty&&!c then [Qr] else [])=[] from rfl,aQ];exact .v 0 (k.get 2 rfl) (.v 1 (k.get 3 rfl) (.b 0 e (.done 3)))
theorem CQ:∀l:List LN,WZ (stv l)=some (l.map some):=fun l0=>by
 induction l0 with
 |nil=>
  exact rfl
 |cons a l ih=>
  show bo (WZ (stv l)) _=_;rw[ih];rfl
theorem any_some:∀l:List LN,(l.map some).any (·==some w)=l.any (w==·):=fun l0=>by
 induction l0 with
 |nil=>
  exact rfl
 |cons a l ih=>
  show ((some a==some w)||(l.map some).any (·==some w))=((w==a)||l.any (w==·))
  rw[ih];refine aM (·||_) ?_
  by_cases h:w=a
  ·subst h;rw[aS,aS]
  ·rw[xV h,xV fun q=>h (aY q).symm]
theorem ST:Xh ⟨L,inH H fs ws,nx,P⟩ .inn (.str w) (.obj (.p 52))=some (ws.any (w==·)):=by
 show bo (WZ (stv ws)) (fun ys=>some (ys.any (·==some w)))=_
 rw[CQ];exact aM some (any_some ws)
theorem ZBP(hf:fs.length<=100000)(k:Kn L ((78,.str w)::inE v c i)):exs C (iXb.drop 1|>.take 1) ⟨L,inH H fs ws,nx,P⟩=some (.next,⟨L,inH H (fs++bif ws.any (w==·) then [QY] else []) ws,nx,P⟩):=by
 have g:=gst hf;have hi:=ST (L:=L) (H:=H) (nx:=nx) (P:=P) (fs:=fs) (ws:=ws) (w:=w);unfold inH at hi ⊢;rw[W5];refine JB.exs' ?_;cases e:ws.any (w==·) with
 |true=>
  rw[e] at hi;exact .v 0 (k.get 78 rfl) (.v 0 (k.get 162 rfl) (.b 0 hi (.v 1 (k.get 71 rfl) (.g 2 g (.done 2)))))
 |false=>
  rw[e] at hi;rw[show stv (bif false then [QY] else [])=[] from rfl,aQ];exact .v 0 (k.get 78 rfl) (.v 0 (k.get 162 rfl) (.b 0 hi (.done 2)))
theorem ZBO(hn:ws.length<=100000)(k:Kn L ((78,.str w)::inE v c i)):exs C (iXb.drop 2) ⟨L,inH H fs ws,nx,P⟩=some (.next,⟨L,inH H fs (ws++[w]),nx,P⟩):=by
 have g:=gst hn;unfold inH;rw[W5];refine JB.exs' ?_;exact .v 0 (k.get 162 rfl) (.v 1 (k.get 78 rfl) (.g 1 g (.done 2)))
theorem Di:(stF c a r pr ws).1.length<=4/\(stF c a r pr ws).2.length<=ws.length+1:=by
 have p4:∀{q:TQ},(J3 c r q).length<=2:=fun {q}=>by
  cases q with
  |A b l=>exact qG _
  |S l=>
   show (bif r.isEmpty then bif c then [] else [XM] else [Uq]).length<=2;cases r.isEmpty<;>cases c<;>exact qE rfl
  |N l w=>
   show (bif WG r then (bif r.isEmpty&&!c then [Qr] else [])++(bif l.any (w.map lowC==·) then [QY] else []) else []).length<=2
   cases WG r<;>cases (r.isEmpty&&!c)<;>cases l.any (w.map lowC==·)<;>exact qE rfl
 have w1:(wF (Js pr) a).length<=1:=by
  unfold wF;cases Nat.beq a 60<;>cases Nat.beq a 0<;>exact qE rfl
 unfold stF;cases Nat.beq a 47 with
 |true=>exact⟨qA (p4 (q:=.S ws)) (show 2<=4 by decide),xC _⟩
 |false=>
  cases Nat.beq a 32 with
  |true=>exact⟨qG _,xC _⟩
  |false=>
   refine⟨?_,?_⟩
   ·show (wF (Js pr) a++J3 c r (.N ws (wd (a::pr)))).length<=4
    rw[aO];exact qA (qQ w1 p4) (by decide)
   ·show (wsN r ws (wd (a::pr))).length<=_
    unfold wsN;cases WG r
    ·exact xC _
    ·exact qU aO
theorem Ej(hb:v.length<=900)(hA:∀a∈v,a<128)(hd:v.drop i=a::r)(hp:(v.take i).reverse=pr)(hf:fs.length<=90000)(hn:ws.length<=90000)(k:Kn L (inE v c i)):∃L',exs C iB ⟨L,inH H fs ws,nx,P⟩=some (.next,⟨L',inH H (fs++(stF c a r pr ws).1) (stF c a r pr ws).2,nx,P⟩)/\Kn L' (inE v c i):=by
 obtain⟨e1,e2,e3⟩:=QH hd;have hi:i+1+r.length=v.length:=DO e3 e2;obtain⟨L1,h1,k1⟩:=HP (C:=C) (L:=L) (H:=inH H fs ws) (nx:=nx) (P:=P) hb (xF e3) hd hp k;have k1:Kn L1 (Uu v c i (bkS pr).length (Js pr) [a]):=k1;have kk:Kn L1 (inE v c i):=k1.sub vI;have hf1:fs.length<=100000:=qA hf (by decide)
 rw[IQ,Jl h1];by_cases h47:a=47
 ·subst h47
  exact⟨L1,ZBT hf1 hi k1,kk⟩
 by_cases h32:a=32
 ·subst h32
  refine⟨L1,?_,kk⟩;rw[show (stF c 32 r pr ws).1=[] from rfl,aQ];exact ZBU k1
 have ha:=Nz h32 h47;rw[N8 h32 h47];have hi4:exs C i4 ⟨L1,inH H fs ws,nx,P⟩=exs C [iS,.iff iC4 iX []] ⟨L1,inH H fs ws,nx,P⟩:=by
  have t1:tst C iC1 ⟨L1,inH H fs ws,nx,P⟩=some (false,⟨L1,inH H fs ws,nx,P⟩):=by
   refine JB.tst' ?_;exact .v 0 (k1.get 68 rfl) (.b 0 (neq h47) (.done 2))
  have t2:tst C iC2 ⟨L1,inH H fs ws,nx,P⟩=some (false,⟨L1,inH H fs ws,nx,P⟩):=by
   refine JB.tst' ?_;exact .v 0 (k1.get 68 rfl) (.done 4)
  have t3:tst C iC3 ⟨L1,inH H fs ws,nx,P⟩=some (true,⟨L1,inH H fs ws,nx,P⟩):=by
   have hn:some (!(([a]:LN)==[32]))=some true:=aM (fun q=>some (!q)) (xV fun e=>h32 (qS e).1)
   refine JB.tst' ?_;exact .v 0 (k1.get 68 rfl) (.v 2 (k1.get 68 rfl) (.b 0 hn (.done 2)))
  unfold i4;rw[WS t1];refine(WS t2).trans ?_;exact(W4 t3)
 rw[hi4,show [iS,.iff iC4 iX []]=[iS]++[.iff iC4 iX []] from rfl,Jl (ZBR hf1 k1)];have hfw:(fs++wF (Js pr) a).length<=90001:=by
  rw[aO];refine qQ (b:=90000) (d:=1) hf ?_;unfold wF;cases Nat.beq a 60<;>cases Nat.beq a 0<;>exact qE rfl
 have t4:=fun H=>ZBS (C:=C) (H:=H) (nx:=nx) (P:=P) (mx hb) hi e2 k1
 rw[<- aT];cases hw:WG r with
 |false=>
  rw[hw] at t4;refine⟨L1,?_,kk⟩;rw[show J3 c r (.N ws (wd (a::pr)))=[] by unfold J3;rw[hw];rfl,show wsN r ws (wd (a::pr))=ws by unfold wsN;rw[hw];rfl,aQ]
  exact WS (t4 _)
 |true=>
  rw[hw] at t4;obtain⟨L2,h2,k2⟩:=ZBN (C:=C) (H:=inH H (fs++wF (Js pr) a) ws) (nx:=nx) (P:=P) hb hA hd hp ha k1;refine⟨L2,?_,k2.sub vI⟩;rw[show J3 c r (.N ws (wd (a::pr)))=(bif r.isEmpty&&!c then [Qr] else [])++dpF ws (wd (a::pr)) by unfold J3;rw[hw];rfl,show wsN r ws (wd (a::pr))=ws++[(wd (a::pr)).map lowC] by unfold wsN;rw[hw];rfl,<- aT]
  have hfx:(fs++wF (Js pr) a++bif r.isEmpty&&!c then [Qr] else []).length<=100000:=by
   rw[aO];refine qA (qQ (b:=90001) (d:=1) hfw ?_) (by decide)
   cases (r.isEmpty&&!c)<;>exact qE rfl
  refine(W4 (t4 _)).trans ?_;rw[show iX++[]=iXa++(iXb.take 1++((iXb.drop 1|>.take 1)++iXb.drop 2)) from rfl,Jl h2,Jl (ZBQ (qA hfw (by decide)) hi k2),Jl (ZBP hfx k2)]
  exact ZBO (qA hn (by decide)) k2
end
section
variable{C:Ora}{L:List (Nat×Vv)}{H:List (Id×Ob)}{nx i a k bk:Nat}{P v r w x pr:LN}{c b lt:Bool}{fs ws:List LN}
def inL(C:Ora):List Vv->St->Option (FL×St):=Qa (fun v U=>some (U.setLoc 2 v)) (exs C iB)
theorem ZAm{p k}:plc p (k+1)=.int (p:Int)::plc (p+1) k:=rfl
theorem MK(hb:v.length<=900)(hA:∀a∈v,a<128):∀(r pr:LN) (i:Nat) (fs ws:List LN) (L:List (Nat×Vv)),v.drop i=r->i<=v.length->(v.take i).reverse=pr->fs.length+4*r.length<=90000->ws.length+r.length<=90000->Kn L [(117,.str v),(107,.bool c),(71,.obj (.p 51)),(162,.obj (.p 52)),(3,.int v.length)]->∃L',inL C (plc i (r.length+1)) ⟨L,inH H fs ws,nx,P⟩=some (.next,⟨L',inH H (fs++(inF c r pr ws).1) (inF c r pr ws).2,nx,P⟩)/\JA L' 71=some (.obj (.p 51))/\JA L' 162=some (.obj (.p 52)):=fun l0=>by
 induction l0 with
 |nil=>
  intro pr i fs ws L hd hi hp hf hw k;have k1:=k.put 2 (.int i);have k1:Kn (put L 2 (.int i)) (inE v c i):=k1.sub vI;obtain⟨L1,h1,k2⟩:=HP (C:=C) (H:=inH H fs ws) (nx:=nx) (P:=P) hb hi hd hp k1;have k2:Kn L1 (Uu v c i (bkS pr).length (Js pr) []):=k2;have h2:=SV (C:=C) (H:=H) (nx:=nx) (P:=P) (ws:=ws) (qA (qA (qK _ _) hf) (by decide)) k2
  have hpl:pr.length=i:=by rw[<- hp,a9,bU hi]
  rw[<- hpl] at h2;refine⟨L1,?_,k2.get 71 rfl,k2.get 162 rfl⟩;show bn (exs C iB ⟨put L 2 (.int i),inH H fs ws,nx,P⟩) _=_;rw[IQ,Jl h1,h2];rfl
 |cons a r ih=>
  intro pr i fs ws L hd hi hp hf hw k;obtain⟨e1,e2,e3⟩:=QH hd;have k1:=k.put 2 (.int i);have k1:Kn (put L 2 (.int i)) (inE v c i):=k1.sub vI;obtain⟨L1,h1,k2⟩:=Ej (C:=C) (H:=H) (nx:=nx) (P:=P) hb hA hd hp (qA (qK _ _) hf) (qA (qK _ _) hw) k1;obtain⟨s1,s2⟩:=Di (c:=c) (a:=a) (r:=r) (pr:=pr) (ws:=ws);have hp':(v.take (i+1)).reverse=a::pr:=by rw[List.take_add_one,e1,<- hp];exact bx
  obtain⟨L2,h2,h3⟩:=ih (a::pr) (i+1) (fs++(stF c a r pr ws).1) (stF c a r pr ws).2 L1 e2 e3 hp' (by
    rw[aO,aX];refine qA (qI ?_ _) hf;rw[au,b7,aW];exact qI s1 _) (by
    refine qA (qO s2 _) ?_;rw[aX,aW 1];exact hw)
   (k2.sub [117,107,71,162,3])
  refine⟨L2,?_,h3⟩;rw[au,ZAm];show bn (exs C iB ⟨put L 2 (.int i),inH H fs ws,nx,P⟩) _=_;rw[h1];refine h2.trans ?_;rw[aT];rfl
theorem X8{j}:∀l:List LN,Vv.nos j (stv l)=true:=fun l0=>by
 induction l0 with
 |nil=>
  exact rfl
 |cons _ l ih=>
  exact ih
theorem Mc{it bd y U}(he:ev C it U=some (.rng 0 (k:Int),U))(hk:k<=1000):exc C (.for y it bd) U=Qa (fun v U=>some (U.setLoc y v)) (exs C bd) (plc 0 k) U:=by
 show bn (ev C it U) _=_;rw[he];show bo (gd (Q2 0&&Q2 (k:Int)) (some ((List.range ((k:Int)-0).toNat).map fun (i:Nat)=>Vv.int (0+(i:Int))))) _=_
 rw[Dk hk,G1];rfl
def CIn(C:Ora):Ora:=Xg 51 (Xg 52 (Wl tT C))
theorem Cs(h1:Cln 51 L H P)(h2:Cln 52 L H P)(hb:v.length<=900)(hA:∀a∈v,a<128):CIn C 72 [.str v,.bool c] ⟨L,H,nx,P⟩=some (.tup [.list (stv (inF c v [] []).1),.list (stv (inF c v [] []).2)],⟨L,H,nx,P⟩):=by
 obtain⟨L',e,g1,g2⟩:=MK (C:=C) (H:=H) (nx:=nx) (P:=52::51::P) (c:=c) hb hA v [] 0 [] [] [(117,.str v),(107,.bool c),(71,.obj (.p 51)),(162,.obj (.p 52)),(3,.int v.length)] rfl (qG _) rfl (by
  rw[eR,bL];exact qA (xA 4 hb) (by decide)) (by
  rw[eR,bL];exact qA hb (by decide)) (fun J J h=>h)
 have hb2:exs C Xl.body ⟨[(117,.str v),(107,.bool c)],H,nx,P⟩=some (.ret (.tup [.obj (.p 51),.obj (.p 52)]),⟨L',inH H (inF c v [] []).1 (inF c v [] []).2,nx,52::51::P⟩):=by
  have a1:=Yr (L:=[(117,.str v),(107,.bool c)]) (H:=H) (nx:=nx) (o:=.list []) h1.p;have a2:=Yr (k:=52) (P:=51::P) (L:=[(117,.str v),(107,.bool c),(71,.obj (.p 51))]) (H:=(.p 51,.list [])::H) (nx:=nx) (o:=.list []) (fun q=>(aZ.mp q).elim (by decide) h2.p)
  have he:ev C (.bi .range [(.bop .add (.loc 3) (.k (.int 1)))]) ⟨[(117,.str v),(107,.bool c),(71,.obj (.p 51)),(162,.obj (.p 52)),(3,.int v.length)],inH H [] [],nx,52::51::P⟩=some (.rng 0 ((v.length+1:Nat):Int),⟨[(117,.str v),(107,.bool c),(71,.obj (.p 51)),(162,.obj (.p 52)),(3,.int v.length)],inH H [] [],nx,52::51::P⟩):=by
   refine JB.ev ?_;exact .done 3
  have h0:exs C [.asg 71 (.lst [] (.per 51)),.asg 162 (.lst [] (.per 52)),.asg 3 (.bi .len [(.loc 117)])] ⟨[(117,.str v),(107,.bool c)],H,nx,P⟩=some (.next,⟨[(117,.str v),(107,.bool c),(71,.obj (.p 51)),(162,.obj (.p 52)),(3,.int v.length)],inH H [] [],nx,52::51::P⟩):=by
   refine JB.exs ?_;exact .c 0 a1 (.c 0 a2 (.v 0 (QJ (mx hb)) (.done 1)))
  have h3:exs C [.ret (.tup [(.loc 71),(.loc 162)])] ⟨L',inH H (inF c v [] []).1 (inF c v [] []).2,nx,52::51::P⟩=some (.ret (.tup [.obj (.p 51),.obj (.p 52)]),⟨L',inH H (inF c v [] []).1 (inF c v [] []).2,nx,52::51::P⟩):=by
   refine JB.exs' ?_;exact .v 0 g1 (.v 0 g2 (.done 1))
  rw[Ct];refine(Jl (s:=[.asg 71 (.lst [] (.per 51)),.asg 162 (.lst [] (.per 52)),.asg 3 (.bi .len [(.loc 117)])]) h0).trans ((GS ((Mc he (qA (qJ hb) (by decide:901<=1000))).trans e)).trans h3)
 show gd (decide (51∉P)&&Nat.blt 72 1000) (bn (gd (decide (52∉P)&&Nat.blt 72 1000) (bn (Qf C Xl [.str v,.bool c] ⟨L,H,nx,P⟩) (Qs 52))) (Qs 51))=_;rw[aU h1.p,aU h2.p,cB (m:=Xl) (as:=[.str v,.bool c]) rfl hb2];have hh:∀w,Q7 (.p 52) w ((.p 51,.list (stv (inF c v [] []).1))::H)=(.p 51,.list (stv (inF c v [] []).1))::H:=fun w=>by
  show (Id.p 51,Ob.list (Vv.sbs (.p 52) w (stv (inF c v [] []).1)))::Q7 (.p 52) w H=_;rw[Vv.sbs_no _ (X8 _),h2.h]
 show bn (Qs 52 _ ⟨L,(.p 52,.list (stv (inF c v [] []).2))::(.p 51,.list (stv (inF c v [] []).1))::H,nx,52::51::P⟩) (Qs 51)=_;rw[Z4 ⟨h2.l,hh,h2.o,fun q=>(aZ.mp q).elim (by decide) h2.p⟩ (X8 _)]
 show Qs 51 (.tup [.obj (.p 51),.list (stv (inF c v [] []).2)]) ⟨L,(.p 51,.list (stv (inF c v [] []).1))::H,nx,51::P⟩=_;rw[Z4 h1 (X8 _)];show some (Vv.tup [.list (stv (inF c v [] []).1),.list (Vv.sbs (.p 51) _ (stv (inF c v [] []).2))],_)=_;rw[Vv.sbs_no _ (X8 _)]
end
def C3:Ora:=JF tT 3
def CL:Ora:=YI 71 (Xg 50 (Wl tT C3)) (YI 72 (CIn C3) (YI 95 (CRf C3) (JF tT 8)))
noncomputable def L0:MS:=.asg 175 (.bi .sum [(.comp (.bop .fdiv (.loc 84) (.k (.int 18))) 84 (.sl (.loc 80) (.k .none) (.k (.int 20))) (.k (.bool true)))])
noncomputable def L1:MS:=.asg 66 (.sub (.call 69 []) (.bop .mod (.loc 175) (.k (.int 3))))
noncomputable def L2:MS:=.asgT [172,173,174] (.sub (.call 70 []) (.bop .mod (.bop .fdiv (.loc 175) (.k (.int 3))) (.k (.int 5))))
def pcE:ME:=.sub (.glob Xv) (.bop .mod (.loc 84) (.k (.int 18)))
def L3:MS:=.asg 1 (.sm .join (.k (.str [])) [(.comp pcE 84 (.sl (.loc 80) (.k .none) (.k (.int 20))) (.k (.bool true)))])
noncomputable def drE:ME:=.bop .fdiv (.loc 84) (.k (.int 18))
def pn(k:Nat):LN:=match Xv with
 |.list l=>(match l[k]? with
  |some (.str s)=>s
  |_=>[])
 |_=>[]
def pk(i:Int):LN:=pn (i % 18).toNat
def t0(ns:List Int):LN:=QN [] ((ns.take 20).map pk)
noncomputable def dr(ns:List Int):Int:=((ns.take 20).map (· / 18)).sum
def tlN(k:Nat):List Nat×List Nat×LN:=match k with
 |0=>([],[],[])
 |1=>([120],[],[120])
 |2=>([32,120],[],[32,120])
 |3=>([0],Qq,[0])
 |_=>([38,108,116,59],[],[60])
noncomputable def nmN(k:Nat):LN:=match k with
 |0=>[116,105,116,108,101]
 |1=>[84,73,84,76,69]
 |_=>[105]
section
variable{C:Ora}{L:List (Nat×Vv)}{H:List (Id×Ob)}{nx:Nat}{P:LN}{ns:List Int}{v:Vv}{d:Int}{k:Nat}
theorem Uf{m}(h:0<m)(i):(i % (m:Int)).toNat∈List.range m:=eb.mpr ((Int.toNat_lt (Int.emod_nonneg i (Int.ofNat_ne_zero.mpr (b6 h)))).mpr (Int.emod_lt_of_pos i (a8.mpr h)))
theorem NE{m:Nat}(h:0<m)(i:Int):i % (m:Int)=((i % (m:Int)).toNat:Int):=(dh (Int.emod_nonneg i (Int.ofNat_ne_zero.mpr (b6 h)))).symm
theorem Pk:∀k∈List.range 18,Qo σ0 Xv (.int (k:Nat))=some (.str (pn k)):=JD (by kernel_rfl)
theorem Am(i):Qo σ0 Xv (.int (i % 18))=some (.str (pk i)):=by
 have h:=Pk _ (Uf (m:=18) (by decide) i)
 rw[<- NE (m:=18) (by decide)] at h
 exact h
theorem H6:∀k∈List.range 18,(Nat.ble (pn k).length 8&&(pn k).all fun a=>al.any (·==a))=true:=JD (by kernel_rfl)
theorem Ev{n}:∀{l:List LN},(∀x∈l,x.length<=n)->l.flatten.length<=n*l.length:=by
 intro l0;induction l0 with
 |nil=>
  intro _;exact qG _
 |cons x l ih=>
  intro h;rw[List.flatten_cons,aO,au,b7,aW];exact qQ (ih fun y hy=>h y (.tail _ hy)) (h x (.head _))
theorem X7(ns):(t0 ns).length<=160:=by
 unfold t0;rw[UX];refine qA (Ev (n:=8) fun x hx=>?_) (xA 8 (m:=20) ?_)
 ·obtain⟨i,_,rfl⟩:=ak.mp hx
  exact bA (H6 _ (Uf (m:=18) (by decide) i)) fun h J=>qE h
 ·rw[aP,cZ];exact eV _ _
theorem YG(ns):∀a∈t0 ns,a∈al:=fun a h=>by
 unfold t0 at h;rw[UX] at h;obtain⟨x,hx,ha⟩:=List.mem_flatten.mp h;obtain⟨i,_,rfl⟩:=ak.mp hx;exact bA (H6 _ (Uf (m:=18) (by decide) i)) fun J h=>Jr (aq.mp h a ha)
theorem RW:∀l:List Int,Jt (Jj (ev C pcE) (ev C (.k (.bool true))) 84 L) (l.map .int) ⟨L,[],0,[]⟩=some ((l.map pk).map .str,⟨L,[],0,[]⟩):=fun l0=>by
 induction l0 with
 |nil=>
  exact rfl
 |cons i l ih=>
  have h:ev C pcE ⟨(84,.int i)::L,[],0,[]⟩=some (.str (pk i),⟨(84,.int i)::L,[],0,[]⟩):=by
   refine JB.ev ?_;exact .v 1 (Am i) (.done 1)
  show bn (bn (ev C pcE ⟨(84,.int i)::L,[],0,[]⟩) _) _=_;rw[h];show bn (Jt _ (l.map .int) ⟨L,[],0,[]⟩) _=_;rw[ih];rfl
theorem ZBk:∀l:List Int,Jt (Jj (ev C drE) (ev C (.k (.bool true))) 84 L) (l.map .int) ⟨L,[],0,[]⟩=some ((l.map (· / 18)).map .int,⟨L,[],0,[]⟩):=fun l0=>by
 induction l0 with
 |nil=>
  exact rfl
 |cons i l ih=>
  have h:Jj (ev C drE) (ev C (.k (.bool true))) 84 L (.int i) ⟨L,[],0,[]⟩=some (some (.int (i / 18)),⟨L,[],0,[]⟩):=by kernel_rfl
  show bn (Jj (ev C drE) (ev C (.k (.bool true))) 84 L (.int i) ⟨L,[],0,[]⟩) _=_;rw[h];show bn (Jt _ (l.map .int) ⟨L,[],0,[]⟩) _=_;rw[ih];rfl
theorem Ir{l}(h:l.length<=JC):slV σ0 (.list l) .none (.int 20)=some (.list (l.take 20)):=by
 show gd (Nat.ble l.length JC) (some (Vv.list (l.take (clampIx l.length (20:Nat)))))=_;rw[ble h,Xn,Kq];rfl
theorem SQ:∀l:List Int,Ud (l.map .int)=some l:=fun l0=>by
 induction l0 with
 |nil=>
  exact rfl
 |cons i l ih=>
  show bo (Ud (l.map .int)) _=_;rw[ih];rfl
theorem Pj{l:List Int}{U}:biV U .sum [.list (l.map .int)]=some (.int l.sum):=by
 show bo (Ud (l.map .int)) _=_;rw[SQ];rfl
theorem SI(hn:ns.length<=1000):exc C L0 ⟨[(80,.list (ns.map .int))],[],0,[]⟩=some (.next,⟨[(80,.list (ns.map .int)),(175,.int (dr ns))],[],0,[]⟩):=by
 have hm:(ns.map Vv.int).length<=JC:=by rw[aP];exact qA hn (by decide)
 have hs:=Ir hm;rw[<- List.map_take] at hs;have hl:Nat.ble ((ns.take 20).map Vv.int).length JC=true:=ble (by rw[aP,cZ];exact qA (eV _ _) (by decide))
 have hd:=ZBk (C:=C) (L:=[(80,.list (ns.map .int))]) (ns.take 20);have hsum:=Pj (U:=σ0) (l:=(ns.take 20).map (· / 18))
 refine JB.exc' ?_;exact .v 0 hs (.g 1 hl (.l 0 hd (.v 0 hsum (.done 1))))
theorem SH:exc CL L1 ⟨[(80,v),(175,.int d)],[],0,[]⟩=some (.next,⟨[(80,v),(175,.int d),(66,.str (nmN (d % 3).toNat))],[],0,[]⟩):=by
 have h:∀k∈List.range 3,Qo σ0 (.list [.str [116,105,116,108,101],.str [84,73,84,76,69],.str [105]]) (.int (k:Nat))=some (.str (nmN k)):=JD (by kernel_rfl)
 have h:=h _ (Uf (m:=3) (by decide) d)
 rw[<- NE (m:=3) (by decide)] at h
 refine JB.exc' ?_;exact .v 2 h (.done 1)
def tlV(k:Nat):Vv:=.tup [.str (tlN k).1,.str (tlN k).2.1,.str (tlN k).2.2]
noncomputable def ktl(d:Int):Nat:=(d / 3 % 5).toNat
theorem SG:exc CL L2 ⟨[(80,v),(175,.int d),(66,u)],[],0,[]⟩=some (.next,⟨[(80,v),(175,.int d),(66,u),(172,.str (tlN (ktl d)).1),(173,.str (tlN (ktl d)).2.1),(174,.str (tlN (ktl d)).2.2)],[],0,[]⟩):=by
 have h:∀k∈List.range 5,Qo σ0 (.list [tlV 0,tlV 1,tlV 2,tlV 3,tlV 4]) (.int (k:Nat))=some (tlV k):=JD (by kernel_rfl)
 have h:=h _ (Uf (m:=5) (by decide) (d / 3))
 rw[<- NE (m:=5) (by decide)] at h
 refine JB.exc' ?_;exact .v 3 h (.done 1)
def lE3(ns:List Int)(d:Int):List (Nat×Vv):=[(80,.list (ns.map .int)),(175,.int d),(66,.str (nmN (d % 3).toNat)),(172,.str (tlN (ktl d)).1),(173,.str (tlN (ktl d)).2.1),(174,.str (tlN (ktl d)).2.2)]
theorem SF(hn:ns.length<=1000):exc C L3 ⟨lE3 ns d,[],0,[]⟩=some (.next,⟨lE3 ns d++[(1,.str (t0 ns))],[],0,[]⟩):=by
 have hm:(ns.map Vv.int).length<=JC:=by rw[aP];exact qA hn (by decide)
 have hs:=Ir hm;rw[<- List.map_take] at hs;have hl:Nat.ble ((ns.take 20).map Vv.int).length JC=true:=ble (by rw[aP,cZ];exact qA (eV _ _) (by decide))
 have hp:=RW (C:=C) (L:=lE3 ns d) (ns.take 20);have hj:=NJ (l:=(ns.take 20).map pk) (qA (X7 ns) (by decide))
 refine JB.exc' ?_;exact .v 0 hs (.g 1 hl (.l 0 hp (.v 0 hj (.done 1))))
theorem N4(d):(tlN (ktl d)).1∈QC:=by
 have h:∀k∈List.range 5,QC.any (·==(tlN k).1)=true:=JD (by kernel_rfl)
 exact Jr (h _ (Uf (m:=5) (by decide) (d / 3)))
theorem RS:∀k∈List.range 18,pcs.any (·==pn k)=true:=JD (by kernel_rfl)
theorem Hn(ns):okA (t0 ns):=by
 unfold t0;rw[UX];refine Rk _ fun p hp=>?_
 obtain⟨i,_,rfl⟩:=ak.mp hp;exact Jr (RS _ (Uf (m:=18) (by decide) i))
end
noncomputable def L4:MS:=.asg 37 (.call 73 [(.loc 1),(.loc 66)])
noncomputable def L5:MS:=.asg 72 (.lst [] (.per 53))
noncomputable def L6a:MS:=.asg 2 (.k (.int 0))
noncomputable def wT0:ME:=.cmp .lt (.loc 2) (.loc 37)
noncomputable def wC1:ME:=.cmp .eq (.sub (.loc 1) (.loc 2)) (.k (.str [38]))
noncomputable def wC2:ME:=.cmp .eq (.sub (.loc 1) (.loc 2)) (.k (.str [0]))
noncomputable def wB1:List MS:=[.asgT [71,4,2] (.call 95 [(.loc 1),(.loc 2)]),.augN 72 .add (.bop .add (.loc 71) (.lst [(.call 67 [(.loc 4)])] .frz))]
def wB2:List MS:=[.augN 72 .add (.lst [(.call 28 [(.k (.str wA))]),(.call 67 [(.k (.str [65533]))])] .frz),.augN 2 .add (.k (.int 1))]
noncomputable def wB3:List MS:=[.ex (.app (.loc 72) (.call 67 [(.sub (.loc 1) (.loc 2))])),.augN 2 .add (.k (.int 1))]
def wB0:List MS:=[.iff wC1 wB1 [.iff wC2 wB2 wB3]]
def L6:MS:=.whl wT0 wB0
def NoQ(L:List (Nat×Vv)):Prop:=∀k w,k≠53->QG (.p k) w L=L
theorem Ep{i w v n}(hv:Vv.no i v=true):∀{L:List (Nat×Vv)},QG i w L=L->QG i w (put L n v)=put L n v:=by
 intro l0;induction l0 with
 |nil=>
  intro _;exact aM (fun v=>[(n,v)]) (Vv.sb_no v hv)
 |cons p0 L ih=>
  obtain⟨m,u⟩:=p0;intro h;have h1:=(Prod.mk.inj (qS h).1).2;have h2:=(qS h).2;show QG i w (if m=n then (m,v)::L else (m,u)::put L n v)=if m=n then (m,v)::L else (m,u)::put L n v;by_cases e:m=n
  ·rw[aR e]
   show (m,Vv.sb i w v)::QG i w L=_;rw[Vv.sb_no v hv,h2]
  ·rw[aN e]
   show (m,Vv.sb i w u)::QG i w (put L n v)=_;rw[h1,ih h2]
theorem NoQ.put{L}(N:NoQ L)(n){v}(h:∀k,k≠53->Vv.no (.p k) v=true):NoQ (put L n v):=fun k w hk=>Ep (h k hk) (N k w hk)
def J9(k:Nat):LN:=(nmN k).map lowC
def enN(k:Nat)(tx:LN):Nat:=endN (some (J9 k)) tx
abbrev hD(D:List Tok4):List (Id×Ob):=[(.p 53,.list (vs D))]
section
variable{C:Ora}{L E:List (Nat×Vv)}{H:List (Id×Ob)}{nx:Nat}{P:LN}{ns:List Int}{v:Vv}{d:Int}{k a e i:Nat}{o:Option LN}{tx x m:LN}{D:List Tok4}
theorem XI{s f U τ}(h:exs C [s] τ=some (f,U)):exc C s τ=some (f,U):=by
 have h:bn (exc C s τ) (fun f U1a=>Ya f (some (.next,U1a)) U1a)=some (f,U):=h
 generalize exc C s τ=x at h;cases x with
 |none=>exact nn h
 |some p=>
  obtain⟨g,τ'⟩:=p;cases g<;>exact h
theorem OM(k):(nmN k).length<=800/\(∀a∈nmN k,a<128)/\(nmN k).all (Nat.blt · 128)=true/\nmN k≠[]:=by
 match k with
 |0=>exact⟨by decide,by decide,by decide,by decide⟩
 |1=>exact⟨by decide,by decide,by decide,by decide⟩
 |k+2=>exact⟨qE rfl,(by decide:∀a∈[105],a<128),(by decide:[105].all (Nat.blt · 128)=true),(by decide:[105]≠[])⟩
theorem SE(k:Kn L [(1,.str tx),(66,.str (nmN k'))])(hb:tx.length<=900)(ha:∀a∈tx,a∈al):exc CL L4 ⟨L,H,nx,P⟩=some (.next,⟨put L 37 (.int (enN k' tx:Nat)),H,nx,P⟩):=by
 obtain⟨h1,h2,-,-⟩:=OM k';have hs:CL 73 [.str tx,.str (nmN k')] ⟨L,H,nx,P⟩=_:=VP (C:=JF tT 7) (L:=L) (H:=H) (nx:=nx) (P:=P) hb ha (qA h1 (by decide)) h2
 refine XI (JB.exs' ?_);exact .v 0 (k.get 1 rfl) (.v 0 (k.get 66 rfl) (.c 0 hs (.done 1)))
theorem Lp:exc CL L6a ⟨L,H,nx,P⟩=some (.next,⟨put L 2 (.int (0:Nat)),H,nx,P⟩):=rfl
theorem gD(h:D.length<=100000)(k)(hk:k<=1000):Nat.ble ((vs D).length+k) JC=true:=ble (by rw[aP];exact qA (qQ h hk) (by decide))
theorem Ip:vs (tI a)=if a=0 then [JL Qq,JN [65533]] else [JN [a]]:=by
 unfold tI;exact apply_ite vs _ _ _
theorem Kn.skip{L E}(k:Kn L E)(m v)(h:JA E m=none):Kn (Tactic.put L m v) E:=fun n w hv=>by
 rw[J5];by_cases q:m=n
 ·subst q;exact nn (h.symm.trans hv)
 ·rw[aN q];exact k n w hv
theorem Kn.keep{L E}(k:Kn L E)(m v)(h:JA E m=some v):Kn (Tactic.put L m v) E:=fun n w hv=>by
 rw[J5];by_cases q:m=n
 ·subst q;rw[aR rfl,<- hv,h]
 ·rw[aN q];exact k n w hv
theorem BE(N:NoQ L)(h:k≠53):Cln k L (hD D) [53]:=⟨fun w=>N k w h,fun w=>by
  show (if Id.p 53=.p k then _ else (Id.p 53,Ob.list (Vv.sbs (.p k) w (vs D)))::[])=_;rw[aN fun q=>h (by cases q;rfl),Vv.sbs_no _ (J6 D)],aN fun q=>h (by cases q;rfl),fun q=>h (ae.mp q)⟩
theorem ZAB{r}(hb:tx.length<=900)(hal:∀a∈tx,a∈al)(h:D.length<=90000)(hd:tx.drop i=38::r)(fL:okR r=true)(k:Kn L [(1,.str tx),(2,.int (i:Nat)),(72,.obj (.p 53))])(N:NoQ L):
  exs CL wB0 ⟨L,hD D,0,[53]⟩=some (.next,⟨put (put (put (put L 71 (.list (vs (rf r).e))) 4 (.str (rf r).o)) 2 (.int (i+1+(rf r).k:Nat))) 72 (.obj (.p 53)),hD (D++((rf r).e++[.ch (rf r).o])),0,[53]⟩):=by
 have hs:=UB (QH hd).1 (mx hb);have hc:CL 95 [.str tx,.int (i:Nat)] ⟨L,hD D,0,[53]⟩=_:=RN (n:=2) (BE N (by decide)) hb hal hd fL
 have ho:=WB r;unfold XW at hc;revert hc ho;generalize rf r=F;intro hc ho;have k1:=((k.put 71 (.list (vs F.e))).put 4 (.str F.o)).put 2 (.int (i+1+F.k:Nat));have g1:Nat.ble ((vs F.e).length+1) JC=true:=ble (by rw[aP];exact qA (dF ho.n) (by decide))
 have g2:Nat.ble ((vs D).length+(vs F.e++[JN F.o]).length) JC=true:=ble (by
  rw[aO,aP,aP];exact qA (qQ h (dF ho.n)) (by decide))
 unfold hD at *;rw[QL,QL];have hadd:∀U:St,Jk U .add (.list (vs F.e)) (.list [JN F.o])=some (.list (vs F.e++[JN F.o])):=fun U=>by
  show gd (Nat.ble ((vs F.e).length+1) JC) _=_;rw[g1];rfl
 have ha:=hadd ⟨put (put (put L 71 (.list (vs F.e))) 4 (.str F.o)) 2 (.int (i+1+F.k:Nat)),[(.p 53,.list (vs D))],0,[53]⟩;refine JB.exs' ?_;exact .v 0 (k.get 1 rfl) (.v 0 (k.get 2 rfl) (.v 0 hs (.v 2 (k.get 1 rfl) (.v 0 (k.get 2 rfl) (.c 0 hc (.v 0 (k1.get 72 rfl) (.v 0 (k1.get 71 rfl) (.v 0 (k1.get 4 rfl) (.v 2 ha (.g 2 g2 (.done 1)))))))))))
theorem ZAC{r}(hb:tx.length<=900)(h:D.length<=90000)(hd:tx.drop i=0::r)(k:Kn L [(1,.str tx),(2,.int (i:Nat)),(72,.obj (.p 53))]):
  exs CL wB0 ⟨L,hD D,0,[53]⟩=some (.next,⟨put (put L 72 (.obj (.p 53))) 2 (.int (i+1:Nat)),hD (D++tI 0),0,[53]⟩):=by
 have hs:=UB (QH hd).1 (mx hb);have g:=gD (qA h (by decide)) 2 (by decide)
 have k1:=k.put 72 (.obj (.p 53));unfold hD;rw[QL,Ip];refine JB.exs' ?_;exact .v 0 (k.get 1 rfl) (.v 0 (k.get 2 rfl) (.v 0 hs (.v 2 (k.get 1 rfl) (.v 0 (k.get 2 rfl) (.v 0 hs (.v 2 (k.get 72 rfl) (.g 5 g (.v 0 (k1.get 2 rfl) (.done 2)))))))))
theorem ZAD{r}(hb:tx.length<=900)(h:D.length<=90000)(hd:tx.drop i=a::r)(h0:a≠0)(h38:a≠38)(k:Kn L [(1,.str tx),(2,.int (i:Nat)),(72,.obj (.p 53))]):
  exs CL wB0 ⟨L,hD D,0,[53]⟩=some (.next,⟨put L 2 (.int (i+1:Nat)),hD (D++tI a),0,[53]⟩):=by
 have hs:=UB (QH hd).1 (mx hb);have g:=gD (qA h (by decide)) 0 (by decide)
 unfold hD;rw[QL,Ip,aN h0];refine JB.exs' ?_;exact .v 0 (k.get 1 rfl) (.v 0 (k.get 2 rfl) (.v 0 hs (.b 0 (neq h38) (.v 1 (k.get 1 rfl) (.v 0 (k.get 2 rfl) (.v 0 hs (.b 0 (neq h0) (.v 1 (k.get 72 rfl) (.v 1 (k.get 1 rfl) (.v 0 (k.get 2 rfl) (.v 0 hs (.g 2 g (.v 1 (k.get 2 rfl) (.done 2))))))))))))))
theorem Gw:(tI a).length<=2:=OP (fun l:List Tok4=>l.length<=2) (fun J=>qF _) fun J=>xC _
theorem D4{h pre w}:(num h pre w).k<=pre.length-1+w.length:=by
 have happ:=ZI h w;unfold num Xb;revert happ;generalize dgs h w=d;generalize w.drop d.length=t;intro happ;cases d with
 |nil=>exact qK _ _
 |cons a d=>
  show pre.length-1+(a::d).length+(bif smc t then 1 else 0)<=_;rw[aX,<- happ,aO];refine qI (qI ?_ _) _;cases t with
  |nil=>exact qF _
  |cons b t=>cases hs:smc (b::t)<;>exact qE rfl
theorem RI:∀r:LN,(rf r).k<=r.length:=fun r=>by
 cases r with
 |nil=>exact qF _
 |cons a w=>
  show (bif Jy a then r0 else bif Nat.beq a 35 then bif hd1 120 w then num true [38,35,120] w.tail else num false [38,35] w else rfN (a::w)).k<=(a::w).length;cases Jy a with
  |true=>exact qG _
  |false=>
   cases h35:Nat.beq a 35 with
   |true=>
    cases hh:hd1 120 w with
    |true=>
     obtain⟨w,rfl⟩:=YS hh;exact qA D4 (qU (by rw[au,au,aW];rfl))
    |false=>exact qA D4 (qU (by rw[au,aW];rfl))
   |false=>
    obtain⟨hz,t,ht⟩:=Wb (r:=a::w);have ho:=(G2 (r:=a::w)).l;refine qA ho ?_;show (rw? (a::w)).w.length<=_;have e:=aM List.length ht;rw[aO] at e;exact e▸qK _ _
theorem C0{n}:∀(r:LN) (k:Nat),(∀a∈r.take k,a≠60)->k<=r.length->endN n r=k+endN n (r.drop k):=by
 intro r;induction r with
 |nil=>
  intro k _ hk;cases Nat.eq_zero_of_le_zero hk;rfl
 |cons a r ih=>
  intro k h hk;cases k with
  |zero=>exact(bL _).symm
  |succ k=>
   rw[U9 (Qm (h a (.head _))),ih k (fun x hx=>h x (.tail _ hx)) (xQ hk),a4];rfl
theorem C1{n}:∀(r:LN) (k:Nat),JW n r k=JW n (r.drop k) 0:=by
 intro r;induction r with
 |nil=>intro k;cases k<;>rfl
 |cons a r ih=>
  intro k;cases k with
  |zero=>rfl
  |succ k=>exact ih k
theorem EU:∀(tx:LN) (i:Nat),okA tx->okA (tx.drop i):=by
 intro tx;induction tx with
 |nil=>intro i _;rw[cj];trivial
 |cons a r ih=>
  intro i h;cases i with
  |zero=>exact h
  |succ i=>exact ih i h.2
theorem ZAE{n}(hb:tx.length<=900)(hal:∀a∈tx,a∈al)(hA:okA tx)(h1:JA E 1=some (.str tx))(h37:JA E 37=some (.int (e:Nat)))(h72:JA E 72=some (.obj (.p 53)))(h2:JA E 2=none)(h71:JA E 71=none)(h4:JA E 4=none):∀(q i fD:Nat) (D:List Tok4) (L:List (Nat×Vv)),e<=i+q->i<=tx.length->i+endN n (tx.drop i)=e->D.length+100*(e-i)<=90000->q<fD->Kn L E->JA L 2=some (.int (i:Nat))->NoQ L ->
  ∃L',Jh (tst CL wT0) (exs CL wB0) fD ⟨L,hD D,0,[53]⟩=some (.next,⟨L',hD (D++JW n (tx.drop i) 0),0,[53]⟩)/\Kn L' E/\NoQ L':=by
 have tst0:∀{L:List (Nat×Vv)} {i:Nat} {H:List (Id×Ob)} {z:Bool},Kn L E->JA L 2=some (.int (i:Nat))->some (decide ((i:Int)<(e:Int)))=some z->tst CL wT0 ⟨L,H,0,[53]⟩=some (z,⟨L,H,0,[53]⟩):=fun k k2 hz=>by
  refine JB.tst' ?_;exact .v 0 k2 (.v 0 (k 37 _ h37) (.b 0 hz (.done 1)))
 have fin:∀{i fD:Nat} {D:List Tok4} {L:List (Nat×Vv)},endN n (tx.drop i)=0->i+endN n (tx.drop i)=e->0<fD->Kn L E->JA L 2=some (.int (i:Nat))->NoQ L->∃L',Jh (tst CL wT0) (exs CL wB0) fD ⟨L,hD D,0,[53]⟩=some (.next,⟨L',hD (D++JW n (tx.drop i) 0),0,[53]⟩)/\Kn L' E/\NoQ L':=fun {i fD D L} h0 he hf k k2 N=>by
  rw[h0] at he;cases fD with
  |zero=>exact absurd hf (xS _)
  |succ fD=>
   have hz:=tst0 (H:=hD D) k k2 (Uo (x:=i) (y:=e) (he▸xS _));have e0:JW n (tx.drop i) 0=[]:=by
    cases hd:tx.drop i with
    |nil=>rfl
    |cons a r=>
     rw[hd] at h0;cases hw:JT n (a::r) with
     |some w=>rw[Wg,hw]
     |none=>rw[U9 hw] at h0;exact absurd h0 (dJ _)
   rw[e0,aQ];exact⟨L,Uv hz,k,N⟩
 intro q;induction q with
 |zero=>
  intro i fD D L hq hi he _ hf k k2 N;have h0:endN n (tx.drop i)=0:=Nat.eq_zero_of_le_zero (cx (a:=i) (he▸hq));exact fin h0 he hf k k2 N
 |succ q ih=>
  intro i fD D L hq hi he hl hf k k2 N;cases hd:tx.drop i with
  |nil=>
   have F:=fin (D:=D) (by rw[hd];rfl) he (qL (qG _) hf) k k2 N
   rw[hd] at F;exact F
  |cons a r=>
   cases hw:JT n (a::r) with
   |some w=>
    rw[<- hd];exact fin (by rw[hd];exact XJ hw) he (qL (qG _) hf) k k2 N
   |none=>
    have he':=he;rw[hd,U9 hw] at he';have fG:i<e:=he'▸bZ (xD _);cases fD with
    |zero=>exact absurd hf (xJ _)
    |succ fD=>
     have hz:=tst0 (H:=hD D) k k2 (slt fG);obtain⟨hg,hdr,hle⟩:=QH hd;have hll:D.length<=90000:=qA (qK _ _) hl;have kk:Kn L [(1,.str tx),(2,.int (i:Nat)),(72,.obj (.p 53))]:=.cons (k 1 _ h1) (.cons k2 (.cons (k 72 _ h72) .nil));have step:∀(i':Nat) (T:List Tok4) (L1:List (Nat×Vv)),i+1<=i'->i'<=tx.length->i'+endN n (tx.drop i')=e->T.length<=100->exs CL wB0 ⟨L,hD D,0,[53]⟩=some (.next,⟨L1,hD (D++T),0,[53]⟩)->Kn L1 E->JA L1 2=some (.int (i':Nat))->NoQ L1->JW n (a::r) 0=T++JW n (tx.drop i') 0->∃L',Jh (tst CL wT0) (exs CL wB0) (fD+1) ⟨L,hD D,0,[53]⟩=some (.next,⟨L',hD (D++JW n (a::r) 0),0,[53]⟩)/\Kn L' E/\NoQ L':=by
      intro i' T L1 g1 g2 g3 g4 g5 g6 g7 g8 g9;obtain⟨L2,e2,k3,N3⟩:=ih i' fD (D++T) L1 (qA hq (by rw[aW q 1,<- aX];exact qO g1 q)) g2 g3 (by
       rw[aO,aX];refine qA (qI ?_ _) hl;have hm:e-i'+1<=e-i:=by
        have h5:e-i'<=e-(i+1):=Nat.sub_le_sub_left g1 e;have h6:e-(i+1)+1=e-i:=by rw[<- Nat.sub_sub];exact Nat.sub_add_cancel (Nat.sub_pos_of_lt fG)
        exact h6▸qJ h5
       refine qA ?_ (xA 100 hm);rw[b7,aW];exact qI g4 _) (xH hf) g6 g7 g8
      refine⟨L2,?_,k3,N3⟩;rw[g9,<- aT];exact W3 hz g5 e2
     by_cases h38:a=38
     ·subst h38
      have ho:=WB r;have fL:okR r=true:=by
       have h:=EU tx i hA;rw[hd] at h;exact h.1 rfl
      have hT:((rf r).e++[Tok4.ch (rf r).o]).length<=100:=by rw[aO];exact dF (bT ho.n (by decide))
      have hdk:tx.drop (i+1+(rf r).k)=r.drop (rf r).k:=by rw[<- a7,hdr]
      have h60:∀y∈r.take (rf r).k,y≠60:=fun y hy=>(ho.p y ((d8 ho.l).subset hy)).1
      have hrl:=RI r;refine step (i+1+(rf r).k) _ _ (qK _ _) ?_ ?_ hT (ZAB hb hal hll hd fL kk N) (((((k.skip 71 _ h71).skip 4 _ h4).skip 2 _ h2)).keep 72 _ h72) ?_ ((((N.put 71 (v:=.list (vs (rf r).e)) fun k hk=>J6 _).put 4 (v:=.str (rf r).o) fun J J=>rfl).put 2 (v:=.int (i+1+(rf r).k:Nat)) fun J J=>rfl).put 72 (v:=.obj (.p 53)) fun k hk=>aU fun q=>hk (by cases q;rfl)) ?_
      ·have hr:r.length=tx.length-(i+1):=by rw[<- hdr,am]
       exact(aW _ _)▸(Nat.le_sub_iff_add_le hle).mp (hr▸hrl)
      ·rw[hdk,aX,<- C0 r (rf r).k h60 hrl,<- he',a4];rfl
      ·rw[J5]
       exact(J5 ..).trans (aR rfl)
      ·rw[hdk,<- C1,Wg,hw];rfl
     ·have hdue:JW n (a::r) 0=tI a++JW n (tx.drop (i+1)) 0:=by rw[hdr,Wg,hw,Je h38];rfl
      have hT:(tI a).length<=100:=qA Gw (by decide)
      have hee:i+1+endN n (tx.drop (i+1))=e:=by rw[hdr,<- he',aX,aW 1]
      by_cases h0:a=0
      ·subst h0
       exact step (i+1) _ _ (qF _) hle hee hT (ZAC hb hll hd kk) ((k.keep 72 _ h72).skip 2 _ h2) ((J5 ..).trans (aR rfl)) ((N.put 72 (v:=.obj (.p 53)) fun k hk=>aU fun q=>hk (by cases q;rfl)).put 2 (v:=.int (i+1:Nat)) fun J J=>rfl) hdue
      ·exact step (i+1) _ _ (qF _) hle hee hT (ZAD hb hll hd h0 h38 kk) (k.skip 2 _ h2) ((J5 ..).trans (aR rfl)) (N.put 2 (v:=.int (i+1:Nat)) fun J J=>rfl) hdue
theorem SB{n}(hb:tx.length<=900)(hal:∀a∈tx,a∈al)(hA:okA tx)(k:Kn L E)(k2:JA L 2=some (.int (0:Nat)))(N:NoQ L)(h1:JA E 1=some (.str tx))(h37:JA E 37=some (.int (endN n tx:Nat)))(h72:JA E 72=some (.obj (.p 53)))(h2:JA E 2=none)(h71:JA E 71=none)(h4:JA E 4=none):∃L',exc CL L6 ⟨L,hD [],0,[53]⟩=some (.next,⟨L',hD (JW n tx 0),0,[53]⟩)/\Kn L' E/\NoQ L':=
 ZAE (e:=endN n tx) hb hal hA h1 h37 h72 h2 h71 h4 (endN n tx) 0 J2 [] L (qU (bL _).symm) (qG _) (bL _) (by
  show 0+100*(endN n tx-0)<=90000;rw[bL];exact qA (xA 100 (qA (xU _ _) (qA (Xx tx) hb))) (by decide)) (qL (qA (Xx tx) hb) (by decide)) k k2 N
end
noncomputable def s7T:ME:=(.cmp .lt (.loc 37) (.bi .len [(.loc 1)]))
noncomputable def a70:MS:=.asg 77 (.bop .add (.bop .add (.loc 37) (.k (.int 2))) (.bi .len [(.loc 66)]))
noncomputable def a71:MS:=.asg 169 (.sm .find (.loc 1) [(.k (.str [62])),(.loc 77)])
noncomputable def a72:MS:=.asg 117 (.ite (.cmp .lt (.loc 169) (.k (.int 0))) (.sl (.loc 1) (.loc 77) (.k .none)) (.sl (.loc 1) (.loc 77) (.loc 169)))
noncomputable def a73:MS:=.asgT [71,162] (.call 72 [(.loc 117),(.cmp .ge (.loc 169) (.k (.int 0)))])
noncomputable def slE:ME:=.call 28 [(.loc 170)]
def a74:MS:=.augN 72 .add (.comp slE 170 (.loc 71) (.k (.bool true)))
noncomputable def c75:ME:=(.cmp .ge (.loc 169) (.k (.int 0)))
noncomputable def b70:MS:=.asg 171 (.cmp .eq (.sl (.loc 117) (.neg (.k (.int 1))) (.k .none)) (.k (.str [47])))
def b71:MS:=.augN 72 .add (.ite (.loc 162) (.lst [(.call 28 [(.k (.str wX))])] .frz) (.lst [] .frz))
def b72:MS:=.augN 72 .add (.ite (.loc 171) (.lst [(.call 28 [(.k (.str wR))])] .frz) (.lst [] .frz))
noncomputable def wdE:ME:=(.lst [(.loc 78),(.k (.str []))] .frz)
def b73:MS:=.ex (.app (.loc 72) (.dct [wC,wZ,wB,wJ] [(.sub (.glob UG) (.k (.str w7))),(.sm .lower (.loc 66) []),(.comp wdE 78 (.loc 162) (.k (.bool true))),(.loc 171)] .frz))
noncomputable def b74:MS:=.augN 72 .add (.ite (.loc 173) (.lst [(.call 28 [(.loc 173)])] .frz) (.lst [] .frz))
noncomputable def b75:MS:=.augN 72 .add (.ite (.loc 174) (.lst [(.call 67 [(.loc 174)])] .frz) (.lst [] .frz))
noncomputable def b76:MS:=.asg 1 (.bop .add (.sl (.loc 1) (.k .none) (.bop .add (.loc 169) (.k (.int 1)))) (.loc 172))
def L7:MS:=.iff s7T [a70,a71,a72,a73,a74,.iff c75 [b70,b71,b72,b73,b74,b75,b76] []] []
section
variable{C:Ora}{L E:List (Nat×Vv)}{H:List (Id×Ob)}{nx:Nat}{P:LN}{ns:List Int}{v:Vv}{d:Int}{k a e:Nat}{o:Option LN}{tx x m w y nm t1 t2 t3:LN}{D:List Tok4}{fs ws:List LN}{b c:Bool}
theorem MZ:∀(c:LN) (i:Nat),QI [62] c i=if (ins c).length<c.length then ((i+(ins c).length:Nat):Int) else -1:=fun l0=>by
 induction l0 with
 |nil=>
  exact fun i=>rfl
 |cons x c ih=>
  intro i;show (if (62==x&&Jg [] c) then (i:Int) else QI [62] c (i+1))=_;by_cases hx:x=62
  ·subst hx;rfl
  ·rw[xV (fun e:62=x=>hx e.symm),Y3 (Je hx),ih (i+1)]
   show (if (ins c).length<c.length then _ else _)=if (ins c).length+1<c.length+1 then _ else _;by_cases hl:(ins c).length<c.length
   ·rw[aR hl,aR (cL hl),a4];rfl
   ·rw[aN hl,aN fun e=>hl (xH e)]
def clP(s:Nat)(x:LN):Int:=bif cl? x then ((s+(ins x).length:Nat):Int) else -1
theorem MX(hs:k<=tx.length)(hd:tx.drop k=x):smV σ0 .find tx [.str [62],.int k]=some (.int (clP k x)):=by
 rw[MY hs,hd,MZ];unfold clP cl?;by_cases hl:(ins x).length<x.length
 ·rw[aR hl,show Nat.blt (ins x).length x.length=true from ble hl];rfl
 ·rw[aN hl,show Nat.blt (ins x).length x.length=false from bW.mpr fun q=>hl (qE q)];rfl
theorem ZBs:some (decide (clP k x<0))=some (!(cl? x)):=by
 unfold clP;cases cl? x with
 |true=>exact aM some (an (bP.mpr (aj _)))
 |false=>rfl
theorem IZ:some (decide (clP k x ≥ 0))=some (cl? x):=by
 unfold clP;cases cl? x with
 |true=>exact aM some (aU (aj _))
 |false=>rfl
def E7(tx nm t1 t2 t3:LN)(e s:Nat)(x:LN):List (Nat×Vv):=[(1,.str tx),(66,.str nm),(172,.str t1),(173,.str t2),(174,.str t3),(72,.obj (.p 53)),(169,.int (clP s x)),(117,.str (ins x))]
theorem ZCg(hb:tx.length<=900)(hm:nm.length<=900)(hs:e+2+nm.length<=tx.length)(hd:tx.drop (e+2+nm.length)=x)(k:Kn L [(1,.str tx),(66,.str nm),(172,.str t1),(173,.str t2),(174,.str t3),(37,.int e),(72,.obj (.p 53))])(N:NoQ L):
  ∃L',exs CL [a70,a71,a72] ⟨L,H,nx,P⟩=some (.next,⟨L',H,nx,P⟩)/\Kn L' (E7 tx nm t1 t2 t3 e (e+2+nm.length) x)/\NoQ L':=by
 have hf:=MX hs hd;have k1:=(k.put 77 (.int (e+2+nm.length:Nat))).put 169 (.int (clP (e+2+nm.length) x));have k2:=k1.put 117 (.str (ins x));refine⟨k2.lc,?_,k2.sub [1,66,172,173,174,72,169,117],((N.put 77 (v:=.int (e+2+nm.length:Nat)) fun J J=>rfl).put 169 (v:=.int (clP (e+2+nm.length) x)) fun J J=>rfl).put 117 (v:=.str (ins x)) fun J J=>rfl⟩
 have h1:exs CL [a70,a71] ⟨L,H,nx,P⟩=some (.next,⟨k1.lc,H,nx,P⟩):=by
  refine JB.exs' ?_;have k0:=k.put 77 (.int (e+2+nm.length:Nat));exact .v 0 (k.get 37 rfl) (.v 1 (k.get 66 rfl) (.v 0 (QJ (mx hm)) (.v 1 (k0.get 1 rfl) (.v 0 (k0.get 77 rfl) (.v 0 hf (.done 1))))))
 have h2:exs CL [a72] ⟨k1.lc,H,nx,P⟩=some (.next,⟨k2.lc,H,nx,P⟩):=by
  refine JB.exs' ?_;have fG:=ZBs (k:=e+2+nm.length) (x:=x);cases hc:cl? x with
  |true=>
   rw[hc] at fG;have e2:clP (e+2+nm.length) x=((e+2+nm.length+(ins x).length:Nat):Int):=by unfold clP;rw[hc];rfl
   have hsl:slV σ0 (.str tx) (.int (e+2+nm.length:Nat)) (.int (clP (e+2+nm.length) x))=some (.str (ins x)):=by
    rw[Q0 (e+2+nm.length) (e+2+nm.length+(ins x).length) rfl e2 (mx hb),hd,ao];exact aM (fun l=>some (Vv.str l)) (dD.mp (qM _)).symm
   exact .v 0 (k1.get 169 rfl) (.b 0 fG (.v 1 (k1.get 1 rfl) (.v 0 (k1.get 77 rfl) (.v 0 (k1.get 169 rfl) (.v 0 hsl (.done 1))))))
  |false=>
   rw[hc] at fG;have hsl:=F5 (s:=tx) (i:=(e+2+nm.length:Nat)) _ rfl (mx hb);rw[hd,<- NL hc] at hsl;exact .v 0 (k1.get 169 rfl) (.b 0 fG (.v 1 (k1.get 1 rfl) (.v 0 (k1.get 77 rfl) (.v 0 hsl (.done 1)))))
 rw[show [a70,a71,a72]=[a70,a71]++[a72] from rfl,Jl h1];exact h2
theorem ZAR:∀l:List LN,Jt (Jj (ev CL slE) (ev CL (.k (.bool true))) 170 L) (stv l) ⟨L,H,nx,P⟩=some (vs (l.map .er),⟨L,H,nx,P⟩):=fun l0=>by
 induction l0 with
 |nil=>
  exact rfl
 |cons x l ih=>
  have h:Jj (ev CL slE) (ev CL (.k (.bool true))) 170 L (.str x) ⟨L,H,nx,P⟩=some (some (JL x),⟨L,H,nx,P⟩):=by kernel_rfl
  show bn (Jj (ev CL slE) (ev CL (.k (.bool true))) 170 L (.str x) ⟨L,H,nx,P⟩) _=_;rw[h];show bn (Jt _ (stv l) ⟨L,H,nx,P⟩) _=_;rw[ih];rfl
def E8(nm t1 t2 t3 tx:LN)(i:Int)(v:LN)(ws:List LN):List (Nat×Vv):=[(1,.str tx),(66,.str nm),(172,.str t1),(173,.str t2),(174,.str t3),(72,.obj (.p 53)),(169,.int i),(117,.str v),(162,.list (stv ws))]
theorem G9(l):∀k,k≠53->Vv.no (.p k) (.list (stv l))=true:=fun k J=>X8 l
theorem Xd:∀k,k≠53->Vv.no (.p k) (.obj (.p 53))=true:=fun k h=>aU fun q=>h (by cases q;rfl)
theorem ZCf(hb:(ins x).length<=900)(hA:∀a∈ins x,a<128)(hD1:D.length<=90000)(hF:(inF (cl? x) (ins x) [] []).1.length<=9000)(k:Kn L (E7 tx nm t1 t2 t3 e k' x))(N:NoQ L):
  ∃L',exs CL [a73,a74] ⟨L,hD D,0,[53]⟩=some (.next,⟨L',hD (D++(inF (cl? x) (ins x) [] []).1.map .er),0,[53]⟩)/\Kn L' (E8 nm t1 t2 t3 tx (clP k' x) (ins x) (inF (cl? x) (ins x) [] []).2)/\NoQ L':=by
 have hs:CL 72 [.str (ins x),.bool (cl? x)] ⟨L,hD D,0,[53]⟩=_:=Cs (C:=C3) (L:=L) (H:=hD D) (nx:=0) (P:=[53]) (c:=cl? x) (BE N (by decide)) (BE N (by decide)) hb hA
 have hge:=IZ (k:=k') (x:=x);generalize inF (cl? x) (ins x) [] []=F at hs hF;have k1:=(k.put 71 (.list (stv F.1))).put 162 (.list (stv F.2));have k2:=k1.put 72 (.obj (.p 53));have g1:Nat.ble (stv F.1).length JC=true:=ble (by rw[De];exact qA hF (by decide))
 have hc:=ZAR (L:=k1.lc) (H:=hD D) (nx:=0) (P:=[53]) F.1;have g2:Nat.ble ((vs D).length+(vs (F.1.map Tok4.er)).length) JC=true:=ble (by
  rw[aP,aP,aP];exact qA (qQ hD1 hF) (by decide))
 unfold hD at *;rw[QL];refine⟨k2.lc,JB.exs' ?_,k2.sub [1,66,172,173,174,72,169,117,162],((N.put 71 (G9 F.1)).put 162 (G9 F.2)).put 72 Xd⟩;exact .v 0 (k.get 117 rfl) (.v 0 (k.get 169 rfl) (.b 0 hge (.c 0 hs (.v 0 (k1.get 72 rfl) (.v 0 (k1.get 71 rfl) (.g 1 g1 (.l 0 hc (.g 2 g2 (.done 1)))))))))
theorem FU:∀r pr:LN,QR r pr=KL (r.reverse++pr):=fun l0=>by
 induction l0 with
 |nil=>
  exact fun J=>rfl
 |cons a r ih=>
  intro pr;rw[bt,aT];exact ih (a::pr)
theorem Lu(hb:y.length<=900):slV σ0 (.str y) (.int (-1)) .none=some (.str (y.drop (y.length-1))):=by
 show gd (Nat.ble y.length JC) (some (Vv.str ((y.take y.length).drop (clampIx y.length (-1)))))=_;rw[ble (mx hb),bI];have e:clampIx y.length (-1)=y.length-1:=by
  cases y with
  |nil=>rfl
  |cons a y=>
   show (max 0 (min (if (-1:Int)<0 then (-1:Int)+(y.length+1:Nat) else -1) ((y.length+1:Nat):Int))).toNat=y.length;rw[aR (by decide),((Int.add_comm _ _).trans (cM (y.length:Int) 1):(-1+(y.length+1:Nat):Int)=y.length),eU (b5.mpr (xC _)),cH (aj _),cQ]
 rw[e];rfl
theorem last_eq:some (y.drop (y.length-1)==[47])=some (QR y []):=by
 rw[FU,aQ];rcases List.eq_nil_or_concat y with rfl|⟨l,a,rfl⟩
 ·rfl
 ·rw[List.concat_eq_append,aO,show l.length+[a].length-1=l.length from Nat.add_sub_cancel ..,cG,bx]
  exact Oh (a:=a) (b:=47)
theorem ZAA:∀l:List LN,Jt (Jj (ev C wdE) (ev C (.k (.bool true))) 78 L) (stv l) ⟨L,H,nx,P⟩=some (l.map att,⟨L,H,nx,P⟩):=fun l0=>by
 induction l0 with
 |nil=>
  exact rfl
 |cons x l ih=>
  have h:Jj (ev C wdE) (ev C (.k (.bool true))) 78 L (.str x) ⟨L,H,nx,P⟩=some (some (att x),⟨L,H,nx,P⟩):=by kernel_rfl
  show bn (Jj (ev C wdE) (ev C (.k (.bool true))) 78 L (.str x) ⟨L,H,nx,P⟩) _=_;rw[h];show bn (Jt _ (stv l) ⟨L,H,nx,P⟩) _=_;rw[ih];rfl
theorem gD1(h:D.length<=99000)(k)(hk:k<=1000):Nat.ble ((vs D).length+k) JC=true:=gD (qA h (by decide)) k hk
theorem ZCm(h:D.length<=99000)(hw:ws.length<=90000)(k:Kn L [(72,.obj (.p 53)),(162,.list (stv ws))]):exs CL [b71] ⟨L,hD D,0,[53]⟩=some (.next,⟨put L 72 (.obj (.p 53)),hD (D++bif !ws.isEmpty then [.er Qg] else []),0,[53]⟩):=by
 have ht:Tactic.Jm σ0 (.list (stv ws))=some (!ws.isEmpty):=by
  show gd (Nat.ble (stv ws).length JC) (some (!(stv ws).isEmpty))=_;rw[gst (qA hw (by decide))]
  cases ws<;>rfl
 have g1:=gD1 h 1 (by decide)
 have g0:=gD1 h 0 (by decide)
 unfold hD;rw[QL];cases hb:!ws.isEmpty with
 |true=>
  rw[hb] at ht;refine JB.exs' ?_;exact .v 0 (k.get 72 rfl) (.v 0 (k.get 162 rfl) (.b 0 ht (.g 4 g1 (.done 1))))
 |false=>
  rw[hb] at ht;refine JB.exs' ?_;exact .v 0 (k.get 72 rfl) (.v 0 (k.get 162 rfl) (.b 0 ht (.g 3 g0 (.done 1))))
theorem ZCl(h:D.length<=99000)(k:Kn L [(72,.obj (.p 53)),(171,.bool b)]):exs CL [b72] ⟨L,hD D,0,[53]⟩=some (.next,⟨put L 72 (.obj (.p 53)),hD (D++bif b then [.er Zx] else []),0,[53]⟩):=by
 have g1:=gD1 h 1 (by decide)
 have g0:=gD1 h 0 (by decide)
 unfold hD;rw[QL];refine JB.exs' ?_;cases b with
 |true=>exact .v 0 (k.get 72 rfl) (.v 0 (k.get 171 rfl) (.g 5 g1 (.done 1)))
 |false=>exact .v 0 (k.get 72 rfl) (.v 0 (k.get 171 rfl) (.g 4 g0 (.done 1)))
theorem ZCk(h:D.length<=99000)(hw:ws.length<=90000)(hnl:nm.length<=1000)(hnA:∀a∈nm,a<128)(k:Kn L [(72,.obj (.p 53)),(162,.list (stv ws)),(66,.str nm),(171,.bool b)]):exs CL [b73] ⟨L,hD D,0,[53]⟩=some (.next,⟨L,hD (D++[.tg (nm.map lowC) ws b]),0,[53]⟩):=by
 have hlo:=Yz hnA hnl;have g:=gst (qA hw (by decide:90000<=100000))
 have hc:=ZAA (C:=CL) (L:=L) (H:=hD D) (nx:=0) (P:=[53]) ws;have g0:=gD1 h 0 (by decide)
 unfold hD at *;rw[QL];refine JB.exs' ?_;exact .v 0 (k.get 72 rfl) (.v 2 (k.get 66 rfl) (.v 0 hlo (.v 0 (k.get 162 rfl) (.g 1 g (.l 0 hc (.v 0 (k.get 171 rfl) (.g 3 g0 (.done 2))))))))
theorem Zn(h:y.length<=900)(e:y.isEmpty=b):Tactic.Jm σ0 (.str y)=some (!b):=by
 rw[Dd (mx h),e]
theorem ZCj(h:D.length<=99000)(hl:t2.length<=900)(k:Kn L [(72,.obj (.p 53)),(173,.str t2)]):exs CL [b74] ⟨L,hD D,0,[53]⟩=some (.next,⟨put L 72 (.obj (.p 53)),hD (D++bif t2.isEmpty then [] else [.er t2]),0,[53]⟩):=by
 have g1:=gD1 h 1 (by decide)
 have g0:=gD1 h 0 (by decide)
 unfold hD;rw[QL];refine JB.exs' ?_;cases hb:t2.isEmpty with
 |true=>exact .v 0 (k.get 72 rfl) (.v 0 (k.get 173 rfl) (.b 0 (Zn hl hb) (.g 3 g0 (.done 1))))
 |false=>exact .v 0 (k.get 72 rfl) (.v 0 (k.get 173 rfl) (.b 0 (Zn hl hb) (.v 0 (k.get 173 rfl) (.g 4 g1 (.done 1)))))
theorem ZCi(h:D.length<=99000)(hl:t3.length<=900)(k:Kn L [(72,.obj (.p 53)),(174,.str t3)]):exs CL [b75] ⟨L,hD D,0,[53]⟩=some (.next,⟨put L 72 (.obj (.p 53)),hD (D++bif t3.isEmpty then [] else [.ch t3]),0,[53]⟩):=by
 have g1:=gD1 h 1 (by decide)
 have g0:=gD1 h 0 (by decide)
 unfold hD;rw[QL];refine JB.exs' ?_;cases hb:t3.isEmpty with
 |true=>exact .v 0 (k.get 72 rfl) (.v 0 (k.get 174 rfl) (.b 0 (Zn hl hb) (.g 3 g0 (.done 1))))
 |false=>exact .v 0 (k.get 72 rfl) (.v 0 (k.get 174 rfl) (.b 0 (Zn hl hb) (.v 0 (k.get 174 rfl) (.g 4 g1 (.done 1)))))
theorem ZCh(hb:tx.length<=900)(hl:t1.length<=900)(k:Kn L [(1,.str tx),(169,.int (e:Nat)),(172,.str t1)]):exs CL [b76] ⟨L,H,nx,P⟩=some (.next,⟨put L 1 (.str (tx.take (e+1)++t1)),H,nx,P⟩):=by
 have hs:=Pp (s:=tx) (j:=(e+1:Nat)) (e+1) rfl (mx hb);have hc:=Ui (a:=tx.take (e+1)) (b:=t1) (k:=1800) (qA (qQ (qA (xR _ _) hb) hl) (by decide)) (by decide)
 refine JB.exs' ?_;exact .v 0 (k.get 1 rfl) (.v 0 (k.get 169 rfl) (.v 1 hs (.v 0 (k.get 172 rfl) (.v 0 hc (.done 1)))))
theorem ZCn(hb:y.length<=900)(k:Kn L [(117,.str y)]):exs CL [b70] ⟨L,H,nx,P⟩=some (.next,⟨put L 171 (.bool (QR y [])),H,nx,P⟩):=by
 refine JB.exs' ?_;exact .v 0 (k.get 117 rfl) (.v 0 (Lu hb) (.b 0 (last_eq (y:=y)) (.done 1)))
end
section
variable{C:Ora}{L E:List (Nat×Vv)}{H:List (Id×Ob)}{nx:Nat}{P:LN}{ns:List Int}{v:Vv}{d:Int}{k a e i:Nat}{o:Option LN}{tx x m w y nm t1 t2 t3:LN}{D:List Tok4}{fs ws:List LN}{b c:Bool}
theorem GI:∀(r pr:LN) (ws:List LN),(inF c r pr ws).1.length<=4*r.length+1/\(inF c r pr ws).2.length<=ws.length+r.length:=fun l0=>by
 induction l0 with
 |nil=>
  intro pr ws;refine⟨?_,qF _⟩;show (bif Nat.blt (bkS pr).length pr.length&&!c then [bif Js pr then Ur else Us] else []).length<=_;cases (Nat.blt (bkS pr).length pr.length&&!c)<;>exact qE rfl
 |cons a r ih=>
  intro pr ws;obtain⟨h1,h2⟩:=Di (c:=c) (a:=a) (r:=r) (pr:=pr) (ws:=ws);obtain⟨h3,h4⟩:=ih (a::pr) (stF c a r pr ws).2;refine⟨?_,qA h4 (by rw[au,<- aX,a4];exact qO h2 _)⟩
  show ((stF c a r pr ws).1++_).length<=_;rw[aO,au,b7,a4,aW];exact qQ h3 h1
theorem SS:∀x:LN,cl? x=true->∃r,x=ins x++62::r:=fun l0=>by
 induction l0 with
 |nil=>
  exact fun h=>ff h
 |cons a x ih=>
  intro h;by_cases fS:a=62
  ·subst fS;exact⟨x,rfl⟩
  ·have e:=Y3 (w:=x) (Je fS)
   have h:Nat.blt (ins (a::x)).length (a::x).length=true:=h;rw[e] at h;obtain⟨r,hr⟩:=ih (bg (xQ (qE h)):Nat.blt (ins x).length x.length=true);exact⟨r,by rw[e];exact aM (a::·) hr⟩
theorem Nh(x):(ins x).length<=x.length:=(qM _).length_le
theorem FI{n}:∀(x:LN) (k:Nat),(JW n x k).length<=100*x.length:=by
 intro x;induction x with
 |nil=>exact fun J=>qF _
 |cons a x ih=>
  intro k;rw[au,b7];cases k with
  |succ k=>exact qA (ih k) (qK _ _)
  |zero=>
   rw[Wg,aW];cases JT n (a::x) with
   |some w=>exact qG _
   |none=>
    show (bif Nat.beq a 38 then ((rf x).e++[Tok4.ch (rf x).o])++JW n x (rf x).k else tI a++JW n x 0).length<=_;cases Nat.beq a 38 with
    |true=>
     show (((rf x).e++[Tok4.ch (rf x).o])++JW n x (rf x).k).length<=_;rw[aO];refine qQ ?_ (ih _);rw[aO];exact dF (bT (WB x).n (by decide))
    |false=>
     show (tI a++JW n x 0).length<=_;rw[aO];exact qQ (qA Gw (by decide)) (ih 0)
theorem ZCe(hD:D.length<=90000)(hb:tx.length<=900)(hl1:t1.length<=900)(hl2:t2.length<=900)(hl3:t3.length<=900)(hy:y.length<=900)(hw:ws.length<=90000)(hnl:nm.length<=1000)(hnA:∀a∈nm,a<128)(k:Kn L (E8 nm t1 t2 t3 tx (e:Nat) y ws))(N:NoQ L):
  ∃L',exs CL [b70,b71,b72,b73,b74,b75,b76] ⟨L,Tactic.hD D,0,[53]⟩=some (.next,⟨L',Tactic.hD (D++(emT (!ws.isEmpty) (QR y [])++.tg (nm.map lowC) ws (QR y [])::((bif t2.isEmpty then [] else [.er t2])++bif t3.isEmpty then [] else [.ch t3]))),0,[53]⟩)/\Kn L' [(1,.str (tx.take (e+1)++t1)),(66,.str nm),(72,.obj (.p 53))]/\NoQ L':=by
 have k0:=k.put 171 (.bool (QR y []));have k1:=k0.put 72 (.obj (.p 53));have k2:=k1.put 72 (.obj (.p 53));have k3:=k2.put 72 (.obj (.p 53));have k4:=k3.put 72 (.obj (.p 53));have k5:=k4.put 1 (.str (tx.take (e+1)++t1));have bl:∀{X:Tok4} {b:Bool} {n:Nat} {D:List Tok4},D.length<=90000+n->(D++bif b then [X] else []).length<=90000+(n+1):=fun {X b n D} h=>by
  rw[aO];refine qQ (b:=90000+n) (d:=1) h ?_;cases b<;>exact qE rfl
 have bl2:∀{X:Tok4} {b:Bool} {n:Nat} {D:List Tok4},D.length<=90000+n->(D++bif b then [] else [X]).length<=90000+(n+1):=fun {X b n D} h=>by
  rw[aO];refine qQ (b:=90000+n) (d:=1) h ?_;cases b<;>exact qE rfl
 have d1:=bl (X:=.er Qg) (b:=!ws.isEmpty) (n:=0) hD;have d2:=bl (X:=.er Zx) (b:=QR y []) d1;have d3:=bl (X:=.tg (nm.map lowC) ws (QR y [])) (b:=true) d2;have d4:=bl2 (X:=.er t2) (b:=t2.isEmpty) d3;have h0:=ZCn (H:=Tactic.hD D) (nx:=0) (P:=[53]) hy (.cons (k.get 117 rfl) .nil);have h1:=ZCm (qA hD (by decide)) hw (k0.sub [72,162])
 have h2:=ZCl (b:=QR y []) (qA d1 (by decide)) (k1.sub [72,171])
 have h3:=ZCk (b:=QR y []) (qA d2 (by decide)) hw hnl hnA (k2.sub [72,162,66,171])
 have h4:=ZCj (qA d3 (by decide)) hl2 (k2.sub [72,173])
 have h5:=ZCi (qA d4 (by decide)) hl3 (k3.sub [72,174])
 have h6:=ZCh (H:=Tactic.hD (D++(emT (!ws.isEmpty) (QR y [])++.tg (nm.map lowC) ws (QR y [])::((bif t2.isEmpty then [] else [.er t2])++bif t3.isEmpty then [] else [.ch t3])))) (nx:=0) (P:=[53]) hb hl1 (k4.sub [1,169,172]);refine⟨k5.lc,?_,k5.sub [1,66,72],(((((N.put 171 (v:=.bool (QR y [])) fun J J=>rfl).put 72 Xd).put 72 Xd).put 72 Xd).put 72 Xd).put 1 (v:=.str (tx.take (e+1)++t1)) fun J J=>rfl⟩
 refine(Jl (s:=[b70]) h0).trans ((Jl (s:=[b71]) h1).trans ((Jl (s:=[b72]) h2).trans ((Jl (s:=[b73]) h3).trans ((Jl (s:=[b74]) h4).trans ((Jl (s:=[b75]) ?_).trans h6)))));refine h5.trans ?_;unfold emT;simp only[List.append_assoc];rfl
theorem Pf(d):tlT (tlN (ktl d)).1=(bif (tlN (ktl d)).2.1.isEmpty then [] else [.er (tlN (ktl d)).2.1])++bif (tlN (ktl d)).2.2.isEmpty then [] else [.ch (tlN (ktl d)).2.2]:=by
 have h:∀k∈List.range 5,tlT (tlN k).1=(bif (tlN k).2.1.isEmpty then [] else [.er (tlN k).2.1])++bif (tlN k).2.2.isEmpty then [] else [.ch (tlN k).2.2]:=JD (by kernel_rfl)
 exact h _ (Uf (m:=5) (by decide) (d / 3))
theorem Pc(d):(tlN (ktl d)).1.length<=900/\(tlN (ktl d)).2.1.length<=900/\(tlN (ktl d)).2.2.length<=900:=by
 have h:∀k∈List.range 5,(Nat.ble (tlN k).1.length 900&&(Nat.ble (tlN k).2.1.length 900&&Nat.ble (tlN k).2.2.length 900))=true:=JD (by kernel_rfl)
 exact bA (h _ (Uf (m:=5) (by decide) (d / 3))) fun h1 h=>bA h fun h2 h3=>⟨qE h1,qE h2,qE h3⟩
theorem ar5(e a b):e+2+a+b+1=e+(a+(b+1)+2):=by
 rw[aW (a+(b+1)) 2,<- aX 2,aX e 2,aX e (2+a)];rfl
theorem PZ{tl r}(hd:tx.drop e=60::47::w)(hr:JI w=ins (JI w)++62::r):tx.take (e+2+(ltr w).length+(ins (JI w)).length+1)++tl=tx.take e++60::47::(ltr w++(ins (JI w)++clo true tl)):=by
 have h1:=dw (l₁:=ins (JI w)) (l₂:=62::r) 1;rw[<- hr] at h1;have h2:=dw (l₁:=ltr w) (l₂:=JI w) ((ins (JI w)).length+1);rw[NF,h1] at h2;rw[ar5,List.take_add,hd,aT];show _++60::47::(w.take ((ltr w).length+((ins (JI w)).length+1))++tl)=_;rw[h2,aT,aT];rfl
abbrev S7G(L:List (Nat×Vv))(D0 D1:List Tok4)(t m:LN):Prop:=∃L',exc CL L7 ⟨L,hD D0,0,[53]⟩=some (.next,⟨L',hD D1,0,[53]⟩)/\Kn L' [(1,.str t),(66,.str m),(72,.obj (.p 53))]/\NoQ L'
theorem SA{q}(hb:tx.length<=300)(ha:∀a∈tx,a∈al)(k:Kn L [(1,.str tx),(66,.str (nmN q)),(172,.str (tlN (ktl d)).1),(173,.str (tlN (ktl d)).2.1),(174,.str (tlN (ktl d)).2.2),(37,.int (enN q tx:Nat)),(72,.obj (.p 53))])(N:NoQ L):
  S7G L (JW (some (J9 q)) tx 0) (WM (some (J9 q)) (tlN (ktl d)).1 tx) (txT (some (J9 q)) (tlN (ktl d)).1 tx) (nmN q):=by
 have hb9:tx.length<=900:=qA hb (by decide)
 obtain⟨h2,h3,-⟩:=OM q;have h2:(nmN q).length<=900:=qA h2 (by decide)
 unfold WM txT;show S7G L (JW (some (J9 q)) tx 0) (JW (some (J9 q)) tx 0++match tx.drop (enN q tx) with|[]=>[]|_::w=>UQ ((ltr w.tail).map lowC) (tlN (ktl d)).1 (JI w.tail)) (tx.take (enN q tx)++match tx.drop (enN q tx) with|[]=>[]|_::w=>60::47::(ltr w.tail++(ins (JI w.tail)++clo (cl? (JI w.tail)) (tlN (ktl d)).1))) (nmN q)
 have hfit:=DL (n:=some (J9 q)) tx;have hle:enN q tx<=tx.length:=Xx tx;have dl:=FI (n:=some (J9 q)) tx 0;generalize JW (some (J9 q)) tx 0=D0 at dl;have dl:D0.length<=30000:=qA dl (xA 100 hb);generalize he:enN q tx=e at k hle;by_cases fG:e<tx.length
 ·obtain⟨w,hd,hf⟩:=hfit (show enN q tx<tx.length from he▸fG)
  have hd:tx.drop e=60::47::w:=he▸hd;generalize hm:nmN q=m at h2 h3 k;obtain⟨l1,l2,l3⟩:=Pc d;refine bA hf fun hf1 hf2=>?_
  have hml:(ltr w).map lowC=m.map lowC:=hm▸aY (aV.mp hf1);have hl:m.length=(ltr w).length:=by have:=aM List.length hml;rw[aP,aP] at this;exact this.symm
  have hdx:tx.drop (e+2+m.length)=JI w:=by rw[<- a7,<- a7,hd,hl];rfl
  have hs:e+2+m.length<=tx.length:=by
   have hx:=aM List.length hd;rw[am] at hx;have hlw:(ltr w).length<=w.length:=(qM _).length_le;rw[hl,aX];refine qA (qI (?_:2+(ltr w).length<=tx.length-e) e) (qU (bw (xF fG)));rw[hx,aW];exact qO hlw 2
  have htr:Nat.blt e tx.length=true:=ble fG;have ht:tst CL s7T ⟨L,hD D0,0,[53]⟩=some (true,⟨L,hD D0,0,[53]⟩):=by
   refine JB.tst' ?_;exact .v 0 (k.get 37 rfl) (.v 0 (k.get 1 rfl) (.v 0 (QJ (mx hb9)) (.b 0 (slt fG) (.done 2))))
  have hxl:(JI w).length<=300:=qA (hdx▸dle tx _) hb;have hil:(ins (JI w)).length<=300:=qA (Nh _) hxl;have hiA:∀a∈ins (JI w),a<128:=fun a h=>Ih ha a (bF (hdx▸(qM _).subset h:a∈tx.drop (e+2+m.length)))
  obtain⟨f1,f2⟩:=GI (c:=cl? (JI w)) (ins (JI w)) [] [];have f1:=qA f1 (qJ (xA 4 hil));have f2:=qA f2 (qA (qU (bL _)) hil);obtain⟨L1,e1,k1,N1⟩:=ZCg (H:=hD D0) (nx:=0) (P:=[53]) hb9 h2 hs hdx k N;obtain⟨L2,e2,k2,N2⟩:=ZCf (qA hil (by decide)) hiA (qA dl (by decide)) (qA f1 (by decide)) k1 N1
  rw[hd];show S7G L D0 (D0++UQ ((ltr w).map lowC) (tlN (ktl d)).1 (JI w)) (tx.take e++60::47::(ltr w++(ins (JI w)++clo (cl? (JI w)) (tlN (ktl d)).1))) m;have hge:=IZ (k:=e+2+m.length) (x:=JI w);have hpre:∀{τ},exs CL ([.iff c75 [b70,b71,b72,b73,b74,b75,b76] []]) ⟨L2,hD (D0++(inF (cl? (JI w)) (ins (JI w)) [] []).1.map .er),0,[53]⟩=some (.next,τ)->exc CL L7 ⟨L,hD D0,0,[53]⟩=some (.next,τ):=fun h=>XI ((W4 ht).trans ((Jl (s:=[a70,a71,a72]) e1).trans ((Jl (s:=[a73,a74]) e2).trans h)))
  have htc:tst CL c75 ⟨L2,hD (D0++(inF (cl? (JI w)) (ins (JI w)) [] []).1.map .er),0,[53]⟩=some (cl? (JI w),⟨L2,hD (D0++(inF (cl? (JI w)) (ins (JI w)) [] []).1.map .er),0,[53]⟩):=by
   refine JB.tst' ?_;exact .v 0 (k2.get 169 rfl) (.b 0 hge (.b 0 (YF (b:=cl? (JI w))) (.done 1)))
  unfold UQ;cases hc:cl? (JI w) with
  |false=>
   rw[hc] at htc hpre k2;refine⟨L2,hpre ((WS htc).trans ?_),?_,N2⟩
   ·exact aM (fun z=>some (FL.next,(⟨L2,hD (D0++z),0,[53]⟩:St))) (aQ _).symm
   ·have et:tx.take e++60::47::(ltr w++(ins (JI w)++clo false (tlN (ktl d)).1))=tx:=by
     rw[show clo false (tlN (ktl d)).1=[] from rfl,aQ,NL hc,NF,<- hd,bJ]
    rw[et];exact k2.sub [1,66,72]
  |true=>
   rw[hc] at htc hpre k2 f1 f2;have k2:Kn L2 (E8 m (tlN (ktl d)).1 (tlN (ktl d)).2.1 (tlN (ktl d)).2.2 tx ((e+2+m.length+(ins (JI w)).length:Nat):Int) (ins (JI w)) (inF true (ins (JI w)) [] []).2):=by
    have e0:clP (e+2+m.length) (JI w)=((e+2+m.length+(ins (JI w)).length:Nat):Int):=by unfold clP;rw[hc];rfl
    rw[e0] at k2;exact k2
   obtain⟨L3,e3,k3,N3⟩:=ZCe (D:=D0++(inF true (ins (JI w)) [] []).1.map .er) (by
    rw[aO,aP];exact qA (qQ dl f1) (by decide)) hb9 l1 l2 l3 (qA hil (by decide)) (qA f2 (by decide)) (qA h2 (by decide)) h3 k2 N2
   refine⟨L3,hpre ((W4 htc).trans (e3.trans ?_)),?_,N3⟩
   ·rw[hml,Pf,aT];rfl
   ·obtain⟨r,hr⟩:=SS (JI w) hc
    have et:=PZ (tl:=(tlN (ktl d)).1) hd hr;rw[<- hl] at et;rw[<- et];exact k3
 ·have ht:tst CL s7T ⟨L,hD D0,0,[53]⟩=some (false,⟨L,hD D0,0,[53]⟩):=by
   refine JB.tst' ?_;exact .v 0 (k.get 37 rfl) (.v 0 (k.get 1 rfl) (.v 0 (QJ (mx hb9)) (.b 0 (Uo fG) (.done 2))))
  have hel:e=tx.length:=xN hle (bM.mp fG);rw[be (qU hel.symm)];refine⟨L,XI ((WS ht).trans (aM (fun z=>some (FL.next,(⟨L,hD z,0,[53]⟩:St))) (aQ D0).symm)),?_,N⟩
  have et:tx.take e++([]:LN)=tx:=by rw[aQ,bz (qU hel.symm)]
  show Kn L [(1,.str (tx.take e++[])),(66,.str (nmN q)),(72,.obj (.p 53))];rw[et];exact k.sub [1,66,72]
end
noncomputable def L8:MS:=.asg 81 (.new 3 30 [(.loc 1)] .tmp)
noncomputable def L9:MS:=.asgA (.loc 81) 42 3 (.bm (.loc 81) 208 3 60)
def L10:MS:=.asgA (.loc 81) 45 3 (.dct [wC,wZ,wB] [(.sub (.glob UG) (.k (.str vG))),(.loc 66),(.lst [] .frz)] .frz)
def hpL(t:LN)(r:List (Id×Ob)):List (Id×Ob):=(.t 5,.list [])::(.t 4,.list [])::(.t 3,I3 t 0)::(.t 2,.list [.int 0])::(.t 1,I1 [] 0 0 0 0)::r
def fsT(st cur:Vv):List (Nat×Vv):=[(20,T1),(39,.none),(40,.bool false),(41,.obj (.t 5)),(42,st),(44,.bool false),(45,cur)]
section
variable{C:Ora}{L E:List (Nat×Vv)}{H:List (Id×Ob)}{nx:Nat}{P:LN}{ns:List Int}{v:Vv}{d:Int}{k a e i n:Nat}{o:Option LN}{tx x m w y nm t1 t2 t3 t:LN}{D:List Tok4}{fs ws:List LN}{b c:Bool}
theorem R9(k:Kn L [(1,.str t)]):exc CL L8 ⟨L,[],0,[]⟩=some (.next,⟨put L 81 T0,hpL t [(.t 0,.inst 3 (fsT (me 9) .none))],6,[]⟩):=by
 refine XI (JB.exs' ?_);exact .v 0 (k.get 1 rfl) (.done 4)
theorem R8(k:Kn L [(81,T0)]):exc CL L9 ⟨L,hpL t [(.t 0,.inst 3 (fsT (me 9) .none))],6,[]⟩=some (.next,⟨L,hpL t [(.t 0,.inst 3 (fsT (me 60) .none))],6,[]⟩):=by
 refine XI (JB.exs' ?_);exact .v 0 (k.get 81 rfl) (.v 2 (k.get 81 rfl) (.done 4))
theorem Ls(k:Kn L [(81,T0),(66,.str m)]):exc CL L10 ⟨L,hpL t [(.t 0,.inst 3 (fsT (me 60) .none))],6,[]⟩=some (.next,⟨L,hpL t [(.t 0,.inst 3 (fsT (me 60) (cvS m)))],6,[]⟩):=by
 refine XI (JB.exs' ?_);exact .v 1 (k.get 66 rfl) (.v 3 (k.get 81 rfl) (.done 4))
noncomputable def m0:MS:=.asgA (.loc 0) 48 3 (.lst [] .tmp)
def σG(t:LN)(cv:Vv):St:=⟨[(0,T0)],hpL t [(.t 0,.inst 3 (fsT (me 60) cv))]++[(.p 99,.list [])],6,[99]⟩
def σ1(t:LN)(cv:Vv):St:=⟨[(0,T0)],(.t 6,.list [])::hpL t [(.t 0,.inst 3 (fs0 (me 60) cv none)),(.p 99,.list [])],7,[99]⟩
theorem Cw{cv}:exc C m0 (σG t cv)=some (.next,σ1 t cv):=by kernel_rfl
noncomputable def sx0(t:LN):Sx:=⟨[],0,0,0,0,t,0⟩
theorem Ft{cv}:CT 60 [T0] (σ1 t cv)=CT 60 [T0] (S1 [] [] (sx0 t) 60 cv none):=by kernel_rfl
theorem Es{U k w}{Q:Prop}(h:Frz U k w)(e:JA U.hp (.p k)=none):Q:=by
 cases h with
 |l h _=>exact nn (e.symm.trans h)
 |d h _=>exact nn (e.symm.trans h)
theorem MN{m x x' y dn l}(e:tst C m.t1 x=tst C m.t1 x')(G:GR C m true x' dn l y)(h:∀k,k≠99->JA x'.hp (.p k)=none):GR C m true x dn l y:=
 GR.rec (motive:=fun ph U dn l U' J=>ph=true->tst C m.t1 x=tst C m.t1 U->(∀k,k≠99->JA U.hp (.p k)=none)->GR C m true x dn l U') (fun h1 h2 J e J=>.stop (e.trans h1) h2) (fun h1 h2 h3 J J e J=>.turn (e.trans h1) h2 h3) (fun J J J p J J=>ff p) (fun J J J J J J p J J=>ff p) (fun h1 h2 J J J J n=>Es h1 (n _ h2)) G rfl e h
theorem ZAM{U U'}(h:CT 60 [T0] U=CT 60 [T0] U')(e:tst CT gM.t1 U=bn (CT 60 [T0] U) (fun v τ=>bo (Jm τ v) fun b=>some (b,τ)):=by kernel_rfl)(e':tst CT gM.t1 U'=bn (CT 60 [T0] U') (fun v τ=>bo (Jm τ v) fun b=>some (b,τ)):=by kernel_rfl):tst CT gM.t1 U=tst CT gM.t1 U':=
 e.trans ((aM (bn · _) h).trans e'.symm)
theorem ZDL(l)(h:∀a∈l,a≠10):Ug 10 l=0:=by
 unfold Ug;rw[List.filter_eq_nil_iff.mpr fun a ha q=>h a ha (aV.mp q)];rfl
theorem ZCr:∀(l:LN) (i:Nat) (z:Int),(∀a∈l,a≠10)->Qd 10 l i z=z:=fun l0=>by
 induction l0 with
 |nil=>
  exact fun J J J=>rfl
 |cons a l ih=>
  intro i z h;show Qd 10 l (i+1) (if a=10 then (i:Int) else z)=z;rw[aN (h a (.head _))];exact ih (i+1) z fun x hx=>h x (.tail _ hx)
theorem ZCQ(h:∀a∈t,a∈al):∀a∈t,a≠10:=fun a ha q=>absurd (q▸h a ha:10∈al) (by decide)
theorem RR(h:∀a∈t,a∈al):JY t 0 0=(0,(t.length:Int)):=by
 have h10:=ZCQ h;unfold JY;rw[ZDL t h10,ZCr t 0 (-1) h10,aR rfl];exact Prod.ext rfl (Int.zero_add _)
theorem ZA0(q):Nm (cvS (nmN q)) (some (J9 q)):=by
 obtain⟨h1,-,h3,h4⟩:=OM q;exact .yes h3 (qA h1 (by decide)) h4
theorem P9{q n}(hn:n=some (J9 q))(hl:t.length<=600)(ha:∀a∈t,a∈al)(hE:okE n t):∃l:List Tok4,l.all Tok4.ok=true/\JJ l=Tactic.E n t/\∃s f cv tb,At t [] s/\CvOk cv/\GR CT gM true (σ1 t (cvS (nmN q))) [] (vs l) (S1 [] (vs l) s f cv tb):=by
 subst hn;obtain⟨l,h1,h2,s,f,cv,tb,hA,hc,G⟩:=V5 (src:=t) (ZA0 q) t.length t none hl (qF _) hE [] (sx0 t) (SW (qA hl (by decide)) ha (RR ha))
 exact⟨l,h1,h2,s,f,cv,tb,hA,hc,MN (ZAM Ft) G fun k hk=>by
  show (if Id.p 99=.p k then _ else none)=none;rw[aN fun q=>hk (by cases q;rfl)]⟩
end
def mkE:ME:=(.sub (.loc 83) (.k (.str wJ)))
def mkC:ME:=(.cmp .eq (.sub (.loc 83) (.k (.str wC))) (.sub (.glob UG) (.k (.str w7))))
def L12:MS:=.asg 120 (.comp mkE 83 (.loc 82) mkC)
noncomputable def Ov:ME:=(.not (.isb (.loc 121)))
def L13:MS:=.ret (.and (.cmp .eq (.call 71 [(.loc 82)]) (.call 71 [(.loc 72)])) (.and (.cmp .eq (.comp (.loc 121) 121 (.loc 120) Ov) (.lst [] .frz)) (.cmp .eq (.mcall (.attr (.loc 81) 20 3) 176 1 68 []) (.tup [(.k (.int 1)),(.bi .len [(.loc 1)])]))))
def H0(f:Nat)(cv:Vv)(tb:Option LN):List (Id×Ob):=[(.t 6,.list []),(.t 5,.list []),(.t 4,.list []),(.t 2,.list [.int 0]),(.t 0,.inst 3 (fs0 (me f) cv tb))]
def Ox(t:LN)(D:List Tok4):List (Nat×Vv):=[(1,.str t),(81,T0),(72,.list (vs D))]
def KG(t:LN)(D l:List Tok4):List (Nat×Vv):=[(1,.str t),(81,T0),(72,.list (vs D)),(82,.list (vs l))]
def UE(t:LN)(D l:List Tok4)(M:List Vv):List (Nat×Vv):=[(1,.str t),(81,T0),(72,.list (vs D)),(82,.list (vs l)),(120,.list M)]
section
variable{C:Ora}{L E:List (Nat×Vv)}{H:List (Id×Ob)}{nx:Nat}{P:LN}{v cv:Vv}{f k n:Nat}{tb:Option LN}{t src:LN}{D l:List Tok4}{M:List Vv}{s:Sx}
theorem sbZ(hc:CvOk cv):(({ S1 [] (vs l) s f cv tb with loc:=Ox t D }:St).sb 99 (.list (vs l))).setLoc 82 (.list (vs l))=⟨KG t D l,hs s (H0 f cv tb),7,[]⟩:=by
 have e:(({ S1 [] (vs l) s f cv tb with loc:=Ox t D }:St).sb 99 (.list (vs l))).setLoc 82 (.list (vs l))=⟨[(1,.str t),(81,T0),(72,.list (Vv.sbs (.p 99) (.list (vs l)) (vs D))),(82,.list (vs l))],hs s (H0 f (Vv.sb (.p 99) (.list (vs l)) cv) tb),7,[]⟩:=by
  cases tb<;>kernel_rfl
 rw[e,Vv.sbs_no _ (J6 D),Vv.sb_no cv (hc.n _)];rfl
theorem Cf:∀l:List Tok4,∃M,Jt (Jj (ev C mkE) (ev C mkC) 83 L) (vs l) ⟨L,H,nx,P⟩=some (M,⟨L,H,nx,P⟩)/\M.length<=l.length/\∀x∈M,∃b,x=.bool b:=fun l0=>by
 induction l0 with
 |nil=>
  exact⟨[],rfl,qF _,fun J h=>nomatch h⟩
 |cons t l ih=>
  obtain⟨M,e,hl,hM⟩:=ih;have no:Jj (ev C mkE) (ev C mkC) 83 L t.v ⟨L,H,nx,P⟩=some (none,⟨L,H,nx,P⟩)->∃M,Jt (Jj (ev C mkE) (ev C mkC) 83 L) (vs (t::l)) ⟨L,H,nx,P⟩=some (M,⟨L,H,nx,P⟩)/\M.length<=(t::l).length/\∀x∈M,∃b,x=.bool b:=fun h=>by
   refine⟨M,?_,xO hl,hM⟩;show bn (Jj (ev C mkE) (ev C mkC) 83 L t.v ⟨L,H,nx,P⟩) _=_;rw[h];show bn (Jt _ (vs l) ⟨L,H,nx,P⟩) _=_;rw[e];rfl
  cases t with
  |ch x=>exact no (by kernel_rfl)
  |sp x=>exact no (by kernel_rfl)
  |er x=>exact no (by kernel_rfl)
  |iv x=>exact no (by kernel_rfl)
  |tg n ws sc=>
   have h:Jj (ev C mkE) (ev C mkC) 83 L (Jp n ws sc) ⟨L,H,nx,P⟩=some (some (.bool sc),⟨L,H,nx,P⟩):=by kernel_rfl
   refine⟨.bool sc::M,?_,qJ hl,fun x hx=>?_⟩
   ·show bn (Jj (ev C mkE) (ev C mkC) 83 L (Jp n ws sc) ⟨L,H,nx,P⟩) _=_
    rw[h];show bn (Jt _ (vs l) ⟨L,H,nx,P⟩) _=_;rw[e];rfl
   ·cases hx with
    |head=>exact⟨_,rfl⟩
    |tail _ hx=>exact hM x hx
theorem EX:∀M:List Vv,(∀x∈M,∃b,x=.bool b)->Jt (Jj (ev C (.loc 121)) (ev C Ov) 121 L) M ⟨L,H,nx,P⟩=some ([],⟨L,H,nx,P⟩):=fun l0=>by
 induction l0 with
 |nil=>
  exact fun J=>rfl
 |cons v l ih=>
  intro h;obtain⟨b,rfl⟩:=h v (.head _);have hF:Jj (ev C (.loc 121)) (ev C Ov) 121 L (.bool b) ⟨L,H,nx,P⟩=some (none,⟨L,H,nx,P⟩):=by kernel_rfl
  show bn (Jj _ _ 121 L (.bool b) ⟨L,H,nx,P⟩) _=_;rw[hF];show bn (Jt _ l ⟨L,H,nx,P⟩) _=_;rw[ih fun x hx=>h x (.tail _ hx)];rfl
theorem Lr(hl:l.length<=100000):∃M,exc C L12 ⟨KG t D l,H,nx,P⟩=some (.next,⟨UE t D l M,H,nx,P⟩)/\M.length<=100000/\∀x∈M,∃b,x=.bool b:=by
 obtain⟨M,e,h1,h2⟩:=Cf (C:=C) (L:=KG t D l) (H:=H) (nx:=nx) (P:=P) l;have g:Nat.ble (vs l).length JC=true:=ble (by rw[aP];exact qA hl (by decide))
 refine⟨M,JB.exc' ?_,qA h1 hl,h2⟩;exact .g 1 g (.l 0 e (.done 1))
theorem C5:∀ws:List LN,datVs (ws.map att)=true:=fun l0=>by
 induction l0 with
 |nil=>
  exact rfl
 |cons _ ws ih=>
  exact ih
theorem FM:∀ws:List LN,deps (ws.map att)<=1:=fun l0=>by
 induction l0 with
 |nil=>
  exact qG _
 |cons w ws ih=>
  exact ej.mpr ⟨qF _,ih⟩
theorem Fo(t:Tok4):XU t.v=true:=by
 cases t with
 |ch x=>rfl
 |sp x=>rfl
 |er x=>rfl
 |iv x=>rfl
 |tg n ws sc=>
  show ((datVs (ws.map att)&&true)&&Nat.ble (max 0 (max 0 (max (deps (ws.map att)+1) (max 0 0)))+1) 50)=true;rw[C5];exact ble (qA (qJ (ej.mpr ⟨qG _,ej.mpr ⟨qG _,ej.mpr ⟨qJ (FM ws),qG _⟩⟩⟩)) (by decide:3<=50))
theorem RD(l):(vs l).all XU=true:=aq.mpr fun v hv=>by
 obtain⟨t,_,rfl⟩:=ak.mp hv;exact Fo t
theorem M3{U A}(hr:A.all XU=true):QQ U .eq (.list A) (.list A)=some true:=by
 show eqN (Nat.beq A.length A.length) (gd (Vv.beqs A A&&A.all XU) (some true))=_;rw[dA,Vv.beqs_refl,hr];rfl
theorem clZ(h:CvOk cv)(hM:∀x∈M,∃b,x=.bool b):Cln 50 (UE t D l M) (hs s (H0 f cv tb)) []:=by
 have hn:Vv.nos (.p 50) M=true:=by
  clear h;induction M with
  |nil=>rfl
  |cons x M ih=>
   obtain⟨b,rfl⟩:=hM x (.head _);exact ih fun y hy=>hM y (.tail _ hy)
 refine⟨fun w=>?_,fun w=>?_,by cases tb<;>rfl,fun h=>nomatch h⟩
 ·show [(1,Vv.str t),(81,T0),(72,.list (Vv.sbs (.p 50) w (vs D))),(82,.list (Vv.sbs (.p 50) w (vs l))),(120,.list (Vv.sbs (.p 50) w M))]=_
  rw[Vv.sbs_no _ (J6 D),Vv.sbs_no _ (J6 l),Vv.sbs_no _ hn];rfl
 ·have e:Q7 (.p 50) w (hs s (H0 f cv tb))=hs s (H0 f (Vv.sb (.p 50) w cv) tb):=by cases tb<;>kernel_rfl
  rw[e,Vv.sb_no cv (h.n _)]
theorem RQ(hA:At src [] s):CL 68 [T1] ⟨L,hs s H,7,[]⟩=some (.tup [.int 1,.int src.length],⟨L,hs s H,7,[]⟩):=hA.el fun ch off l1 l2 h1 h2 h3 h4 h5 h6=>by
 subst h1;cases W1 h2 h3;have hp:=NW (x:=.n) (n:=6) (L:=[(0,T1)]) (H:=H) (nx:=7) (P:=[]) (ch:=ch) (sz:=ch.length) (off:=ch.length) (l1:=l1) (l2:=l2) (o3:=I3 src src.length);rw[h6] at hp;show JF tT 8 68 [T1] ⟨L,hs (st ch src ch.length l1 l2) H,7,[]⟩=_;refine QF (n:=7) ?_;exact .c 4 hp (.done 2)
theorem Lq(hc:CvOk cv)(hA:At t [] s)(ht:t.length<=900)(fL:l.all Tok4.ok=true)(hokD:D.all Tok4.ok=true)(hfl:JJ l=JJ D)(hz:sz D<=100000)(hMl:M.length<=100000)(hM:∀x∈M,∃b,x=.bool b):exc CL L13 ⟨UE t D l M,hs s (H0 f cv tb),7,[]⟩=some (.ret (.bool true),⟨UE t D l M,hs s (H0 f cv tb),7,[]⟩):=by
 have cl:=clZ (t:=t) (D:=D) (l:=l) (s:=s) (f:=f) (tb:=tb) hc hM;have j1:CL 71 [.list (vs l)] ⟨UE t D l M,hs s (H0 f cv tb),7,[]⟩=some (.list (vs (jn (JJ l))),⟨UE t D l M,hs s (H0 f cv tb),7,[]⟩):=Bj (n:=2) cl fL (by unfold sz;rw[hfl];exact hz)
 have j2:CL 71 [.list (vs D)] ⟨UE t D l M,hs s (H0 f cv tb),7,[]⟩=some (.list (vs (jn (JJ D))),⟨UE t D l M,hs s (H0 f cv tb),7,[]⟩):=Bj (n:=2) cl hokD hz;rw[hfl] at j1;have he:=M3 (U:=⟨UE t D l M,hs s (H0 f cv tb),7,[]⟩) (RD (jn (JJ D)));have hn:=EX (C:=CL) (L:=UE t D l M) (H:=hs s (H0 f cv tb)) (nx:=7) (P:=[]) M hM;have g:Nat.ble M.length JC=true:=ble (qA hMl (by decide))
 have hp:=RQ (L:=UE t D l M) (H:=H0 f cv tb) hA;have h2:some ((((1:Int),(t.length:Int)).1==(((1:Int),(t.length:Int)).1))&&(((1:Int),(t.length:Int)).2==((1:Int),(t.length:Int)).2))=some true:=aM some (ag.mpr ⟨aS _,aS _⟩);refine JB.exc' ?_;exact .c 0 j1 (.c 0 j2 (.b 0 he (.g 2 g (.l 0 hn (.c 7 hp (.v 0 (QJ (mx ht)) (.b 0 h2 (.done 1))))))))
end
open PySem.Calls PyProof.Rows PySem.W
def fA1(f:Nat):Addr:=((fAT++[268])[f % 1000]?).getD 21
noncomputable def lwL:Str:=Str.ofString "abcdefghijklmnopqrstuvwxyzABCDEFGHIJKLMNOPQRSTUVWXYZ"
noncomputable def lwD:Str:=Str.ofString "0123456789abcdef"
def gLa:List (Nat×Vv×Value):=[(86,J7,.ref 22),(87,Uz,.ref 27),(89,Xv,.ref 774),(90,.none,.none),(168,Bl,.ref 49),(178,XB,.ref 32),(177,Yo,.str lwL 1484),(215,Xm,.ref 37),(216,UY,.str lwD 1486)]
def gL1:List (Nat×Vv×Value):=(88,UG,.ref 48)::(166,.fn 0,.ref 236)::(167,Qk,.ref 43)::gLa
def cx1(prog:Program)(wd:World)(K:Frag):Cx:=Cx.mk prog wd K fA1 (fun n=>(cAT[n]?).getD 73) nm1 4 gL1 236 2 [(130,Qk),(137,YV),(132,.str []),(135,NM)]
noncomputable def ttL:List (Str×Tok×Int×Tok):=[(Str.ofString "Doctype",532,0,533),(Str.ofString "Characters",534,1,535),(Str.ofString "SpaceCharacters",536,2,537),(Str.ofString "StartTag",538,3,539),
 (Str.ofString "EndTag",540,4,541),(Str.ofString "EmptyTag",542,5,543),(Str.ofString "Comment",544,6,545),(Str.ofString "ParseError",546,7,547)]
noncomputable abbrev JG:=Str.ofString
def ZDF:List (Str×Tok×Value):=[(JG "AMP",299,.str (JG "&") 300),(JG "AMP;",302,.str (JG "&") 303),(JG "Eacute",305,.str (JG "\u00c9") 306),(JG "Eacute;",308,.str (JG "\u00c9") 309),(JG "Mopf;",311,.str (JG "𝕄") 312),(JG "ac;",314,.str (JG "\u223e") 315),(JG "acE;",317,.str (JG "\u223e\u0333") 318),(JG "acute",320,.str (JG "\u00b4") 321),(JG "acute;",323,.str (JG "\u00b4") 324),(JG "amp",326,.str (JG "&") 327),(JG "amp;",329,.str (JG "&") 330),(JG "ang;",332,.str (JG "\u2220") 333),(JG "angle;",335,.str (JG "\u2220") 336),(JG "bne;",338,.str (JG "=\u20e5") 339),(JG "copy",341,.str (JG "\u00a9") 342),(JG "copy;",344,.str (JG "\u00a9") 345),(JG "eacute",347,.str (JG "\u00e9") 348),(JG "eacute;",350,.str (JG "\u00e9") 351),(JG "frac12",353,.str (JG "\u00bd") 354),(JG "frac12;",356,.str (JG "\u00bd") 357),(JG "gt",359,.str (JG ">") 360),(JG "gt;",362,.str (JG ">") 363),(JG "lt",365,.str (JG "<") 366),(JG "lt;",368,.str (JG "<") 369),(JG "nbsp",371,.str (JG "\u00a0") 372),(JG "nbsp;",374,.str (JG "\u00a0") 375),(JG "not",377,.str (JG "\u00ac") 378),(JG "not;",380,.str (JG "\u00ac") 381),(JG "notin;",383,.str (JG "\u2209") 384),(JG "notni;",386,.str (JG "\u220c") 387),(JG "para",389,.str (JG "\u00b6") 390),(JG "para;",392,.str (JG "\u00b6") 393),(JG "parallel;",395,.str (JG "\u2225") 396),(JG "quot",398,.str (JG "\"") 399),(JG "quot;",401,.str (JG "\"") 402),(JG "sup1",403,.str (JG "\u00b9") 404),(JG "sup1;",405,.str (JG "\u00b9") 406),(JG "sup2",407,.str (JG "\u00b2") 408),(JG "sup2;",409,.str (JG "\u00b2") 410),(JG "sup;",411,.str (JG "\u2283") 412),(JG "times",413,.str (JG "\u00d7") 414),(JG "times;",415,.str (JG "\u00d7") 416),(JG "timesb;",417,.str (JG "\u22a0") 418)]
noncomputable def NQ(w:World)(l:List (Str × Tok × Value)):List DictEntry := l.map fun p=> ⟨hashStr w p.1,.str p.1 p.2.1,p.2.2⟩
section
variable{c:Cx}{F:Addr -> Obj -> Prop}{ρ:Id -> Option Addr}
theorem Ag:∀l:List (Str × Tok × Value),Pairs (strKind c.prog c.w) (NQ c.w l) (l.map fun p=> (p.1,p.2.2)) := fun l0=> by
 induction l0 with
 |nil=>
  exact .nil
 |cons p l ih=>
  exact .cons (aS p.1) rfl (ih)
theorem DR(hF:∀a o,c.K.lookup a=some o -> F a o):∀{l:List Vv} {xs:List Value},chkVs c.K l xs=true -> VRs c F ρ l xs
 |[],xs,h=> UR h .nil
 |v::l,[],h=> ff h
 |v::l,x::xs,h=> bA h fun a b=> .cons (ZK hF a) (DR hF b)
theorem FJ{l ks vs a n}(hl:c.K.lookup a=some ⟨.type "dict",none,.dict (NQ c.w l).toArray n,#[]⟩)
  (hk:l.map (·.1)=ks.map toS) (hv:chkVs c.K vs (l.map (·.2.2))=true) (hn:YQ (l.map (·.1))=true) (ha:(a == sysModules)=false) (hF:∀a o,c.K.lookup a=some o -> F a o):VR c F ρ (.dict ks vs) (.ref a) :=
 .dict (kvs := l.map fun p=> (p.1,p.2.2)) (hF _ _ hl) ⟨_,_,⟨rfl,rfl,rfl⟩,rfl,fun e he=> by
  obtain⟨p,hp,rfl⟩ := ak.mp (List.mem_toArray.mp he);exact⟨p.1,aS p.1,rfl⟩,Ag l,by rw[br];exact Kw hn⟩ (by rw[br];exact hk) (by rw[br];exact DR hF hv) ha
end
theorem Cd:nmT.Nodup := by decide +kernel
theorem B9:∀x ∈ nmT,x.head? ≠ some 0 := by decide +kernel
theorem Li(i j)(h:nm1 i=nm1 j):i=j := by
 unfold nm1 at h;have h := U0 h;cases hi:nmT[i]? with
 |none=>
  cases hj:nmT[j]? with
  |none=>
   rw[hi,hj] at h
   simpa using aM List.length h
  |some y=>
   rw[hi,hj] at h;have h: 0::List.replicate i 1=y := h;exact absurd (by rw[<- h];rfl) (B9 y (bC hj))
 |some x=>
  cases hj:nmT[j]? with
  |none=>
   rw[hi,hj] at h;have h:x=0::List.replicate j 1 := h;exact absurd (by rw[h];rfl) (B9 x (bC hi))
  |some y=>
   rw[hi,hj] at h;have h:x=y := h;subst h;obtain⟨hl,_⟩ := ax.mp hi;exact(List.getElem?_inj hl Cd).mp (hi.trans hj.symm)
theorem HB{y}(hy:y.head? ≠ some 0)(hn:y∉nmT)(i):nm1 i ≠ toS y := fun h=> by
 unfold nm1 at h;have h := U0 h;cases hi:nmT[i]? with
 |none=> rw[hi] at h;exact hy (by rw[<- h];rfl)
 |some x=> rw[hi] at h;exact hn (h ▸ bC hi)
theorem Lj(i):(nm1 i == ("__debug__" :Str))=false := by
 have e:("__debug__" :Str)=toS [95,95,100,101,98,117,103,95,95] := by decide +kernel
 rw[e,dc];exact HB (by decide) (by decide +kernel) i
theorem ZA2(i):nm1 i ≠ (".0" :Str) := by
 have e:(".0" :Str)=toS [46,48] := by decide +kernel
 rw[e];exact HB (by decide) (by decide +kernel) i
noncomputable def IO(wd:World):List DictEntry := [⟨hashStr wd (Str.ofString "_data"),.str (Str.ofString "_data") 832,.ref 43⟩,⟨hashStr wd (Str.ofString "_keys"),.str (Str.ofString "_keys") 834,.ref 243⟩,⟨hashStr wd (Str.ofString "_cachestr"),.str (Str.ofString "_cachestr") 837,.str (Str.ofString "") 835⟩,⟨hashStr wd (Str.ofString "_cachepoints"),.str (Str.ofString "_cachepoints") 842,.ref 246⟩]
structure Chk1(prog:Program)(wd:World)(K:Frag):Prop where
 fn:(21::(fAT ++ [268])).all (fnIn K)=true
 cls:(73::cAT).all (IY K)=true
 lim:K.lookup cStatics=some ⟨.none,none,.dict #[] 0,#[]⟩
 big:(K.lookup 3).isSome=true
 gl:gL1.map (fun p=> nsIn K 3 (nm1 p.1))=gL1.map (fun p=> some (some p.2.2))
 gv:gLa.all (fun p=> Xi K p.2.1 p.2.2)=true
 v88:K.lookup 48=some ⟨.type "dict",none,.dict (Nk wd ttL).toArray 8,#[]⟩
 v167:K.lookup 43=some ⟨.type "dict",none,.dict (NQ wd ZDF).toArray 43,#[]⟩
 i1:K.lookup 236=some (instObj 230 235)
 i2:K.lookup 235=some (dictOf (IO wd) 4)
 i3:(Xi K YV (.ref 243) && Xi K NM (.ref 246))=true
 gen:Np (cx1 prog wd K) 96 m0 gM=true
 it:findIn K (.ref 762) "__iter__" = some (some (.ref 268))
 itF:typeIn K (.ref 268)=some (.type "function")
 defs:∀i m,JA tab i=some m -> Uh (cx1 prog wd K) i m=true
theorem DG{P:Nat -> Bool}{l:LN}{d:Nat}(h:(d::l).all P=true)(i:Nat):P ((l[i]?).getD d)=true := by
 rw[aq] at h;cases hi:l[i]? with
 |none=> exact h d (.head _)
 |some x=> exact h x (.tail _ (bC hi))
def ZBg:List Vv := match Qk with
 |.dict _ vs=> vs
 |_=> []
def ZBh:List LN := match Qk with
 |.dict ks _=> ks
 |_=> []
theorem Vd{prog wd K}(hbi:∀p ∈ YX,nsIn K builtinsNs p.1=some (some p.2))(H:Chk1 prog wd K):(cx1 prog wd K).Ok := by
 have hE:∀(F:Addr -> Obj -> Prop) (ρ:Id -> Option Addr),(∀a o,K.lookup a=some o -> F a o) -> VR (cx1 prog wd K) F ρ Qk (.ref 43) := fun F ρ hF=> FJ (c := cx1 prog wd K) (ks := ZBh) (vs := ZBg) H.v167 (by decide +kernel) (by kernel_rfl) (by decide +kernel) (by decide) hF
 refine⟨hbi,Li,Lj,ZA2,fun f=> DG H.fn (f % 1000),fun C J=> DG H.cls C,H.lim,cK.mp H.big,fun n v x h=> JD H.gl (n,v,x) h,fun n v x h F ρ hF=> ?_,fun J=> ⟨by show 2<4;decide,235,IO wd,4,H.i1,H.i2,fun F ρ hF=> ?_⟩⟩
 ·rcases aZ.mp h with e|h
  ·obtain⟨⟩ := e
   exact PA (c := cx1 prog wd K) H.v88 (by decide +kernel) rfl (by decide +kernel) (by decide) hF
  rcases aZ.mp h with e|h
  ·obtain⟨⟩ := e
   exact .fn 0
  rcases aZ.mp h with e|h
  ·obtain⟨⟩ := e
   exact hE F ρ hF
  ·exact ZK (c := cx1 prog wd K) hF (aq.mp H.gv _ h)
 ·exact bA H.i3 fun h1 h2=> .cons (t := 832) (by kernel_rfl) (hE F ρ hF) (.cons (t := 834) (by kernel_rfl) (ZK (c := cx1 prog wd K) hF h1) (.cons (t := 837) (by kernel_rfl) (.str [] 835) (.cons (t := 842) (by kernel_rfl) (ZK (c := cx1 prog wd K) hF h2) .nil)))
end Mine.Tactic
end
noncomputable section
set_option maxRecDepth 10000
set_option linter.unusedVariables false
open PySem PySem.Calls PyProof.Rows PySem.W
namespace Mine.Tactic
theorem JK.le{c r r' C}(H:JK c r C)(h:r <= r'):JK c r' C := fun J J J J J J J J J J J J hr=> H (hr.le h)
theorem Ch{l:List (Id × Ob)}{k i:Id}{x o:Ob}(hn:JA l k=none)(h:JA (l ++ [(k,x)]) i=some o):JA ((k,x)::l) i=some o := by
 show (if k=i then some x else JA l i)=some o;induction l with
 |nil=> exact h
 |cons p l ih=>
  obtain⟨a,b⟩ := p;have hk:¬a=k := fun e=> nn ((aR e:JA ((a,b)::l) k=some b).symm.trans hn).symm
  have h:(if a=i then some b else JA (l ++ [(k,x)]) i)=some o := h;by_cases e:a=i
  ·rw[aR e] at h
   rw[aN fun q:k=i=> hk (e.trans q.symm),show JA ((a,b)::l) i=some b from aR e];exact h
  ·rw[aN e] at h
   rw[show JA ((a,b)::l) i=JA l i from aN e];exact ih ((aN hk).symm.trans hn) h
def LP(ek:Shared):Flow -> Shared -> Prop := fun f s'=> f= .ret (.bool true) /\ (∀b o,ek.heap.get? b=some o -> s'.heap.get? b=some o) /\ s'.os=ek.os /\ AllBare s'.gens
theorem ZAu{c}(O:c.Ok)(defs:∀i m,JA tab i=some m -> Uh c i m=true):JK c 16 CL :=
 have H3:JK c 6 C3 := NZ O defs 3
 Kt ((ZD (Y1 O defs H3)).le (by decide)) (Kt ((ZD (ZD (Y1 O defs H3))).le (by decide)) (Kt ((ZD (Y1 O defs H3)).le (by decide)) (NZ O defs 8)))
abbrev qN(ns:List Int):Nat := (dr ns % 3).toNat
abbrev dN(ns:List Int):List Tok4 := WM (some (J9 (qN ns))) (tlN (ktl (dr ns))).1 (t0 ns)
abbrev tN(ns:List Int):LN := txT (some (J9 (qN ns))) (tlN (ktl (dr ns))).1 (t0 ns)
theorem U5{l l'}:sz (l ++ l')=sz l+sz l' := by unfold sz;rw[Qc,aO]
theorem Hp(l:List LN):sz (l.map .er)=l.length := by unfold sz;rw[GN];exact aP _
theorem Pd:∀t ∈ QC,Nat.ble (sz (tlT t)) 10=true := JD (by kernel_rfl)
theorem Pe:∀t ∈ QC,(tlT t).all Tok4.ok=true := JD (by kernel_rfl)
theorem IU(l:List LN):(l.map Tok4.er).all Tok4.ok=true := by rw[List.all_map];exact aq.mpr fun J J=> rfl
theorem VT{a b}:sz (emT a b) <= 2 := by cases a<;>cases b<;>exact qE rfl
theorem Fq{nm tl v}(ht:tl ∈ QC):(UQ nm tl v).all Tok4.ok=true /\ sz (UQ nm tl v) <= 4*v.length+14 := by
 obtain⟨f1,-⟩ := GI (c := cl? v) (ins v) [] [];have f1 := qA f1 (qJ (xA 4 (Nh v)));unfold UQ;cases hc:cl? v with
 |false=>
  rw[hc] at f1;refine⟨QS (IU _) rfl,?_⟩;rw[U5,Hp];exact qA f1 (qI (by decide: 1 <= 14) _)
 |true=>
  rw[hc] at f1;refine⟨QS (IU _) (QS YW.1 (Pe tl ht)),?_⟩;rw[U5,Hp];show _+sz (_ ++ _::tlT tl) <= _;rw[U5,QW];refine qA (qQ f1 (qQ VT (qQ (qF 1) (qE (Pd tl ht))))) (qU ?_);exact(Nat.succ_add (4*v.length) 13)
def One(l:List Tok4):Prop := ∀t ∈ l,t.f.length <= 1
theorem Re{l}(h:One l):sz l <= l.length := by
 induction l with
 |nil=> exact qF _
 |cons t l ih=>
  rw[QW,au,aW];exact qQ (ih fun x hx=> h x (.tail _ hx)) (h t (.head _))
structure RfSz(F:Rf):Prop where
 e:One F.e
 o:F.o.length <= 3
theorem RF:∀r:LN,RfSz (rf r) := fun r=> by
 have hr:RfSz r0 := ⟨(fun J h=> nomatch h),by decide⟩
 have hn:∀(h:Bool) (pre w:LN),pre.length <= 3 -> RfSz (num h pre w) := fun h pre w hp=> by
  unfold num Xb;cases dgs h w with
  |nil=> exact⟨fun t ht=> by cases ae.mp ht;exact qF _,hp⟩
  |cons a d=>
   refine⟨fun t ht=> ?_,(by decide: 1 <= 3)⟩
   have ht:t ∈ ivT (numV (bs h) (a::d)) ++ bif smc (w.drop (a::d).length) then [] else [Tok4.er QP] := ht;unfold ivT at ht;rcases bY.mp ht with ht|ht
   ·cases hi:ilv (numV (bs h) (a::d)) with
    |false=> rw[hi] at ht;exact nomatch ht
    |true=> rw[hi] at ht;cases ae.mp ht;exact qF _
   ·cases hi:smc (w.drop (a::d).length) with
    |true=> rw[hi] at ht;exact nomatch ht
    |false=> rw[hi] at ht;cases ae.mp ht;exact qF _
 cases r with
 |nil=> exact hr
 |cons a w=>
  show RfSz (bif Jy a then r0 else bif Nat.beq a 35 then bif hd1 120 w then num true [38,35,120] w.tail else num false [38,35] w else rfN (a::w));cases Jy a with
  |true=> exact hr
  |false=>
   cases Nat.beq a 35 with
   |true=>
    cases hd1 120 w with
    |true=> exact hn true _ _ (by decide)
    |false=> exact hn false _ _ (by decide)
   |false=>
    obtain⟨hz,_⟩ := Wb (r := a::w);have e:∀z ∈ rws,z.e.all (fun t=> Nat.ble t.f.length 1)=true := JD (by kernel_rfl)
    exact⟨fun t ht=> qE (aq.mp (e _ hz) t ht),(by decide: 1 <= 3)⟩
theorem Hl{a}:(tI a).all Tok4.ok=true /\ sz (tI a) <= 2 := by
 unfold tI;exact OP (fun l:List Tok4=> l.all Tok4.ok=true /\ sz l <= 2) (fun J=> ⟨rfl,qF _⟩) fun J=> ⟨rfl,xC _⟩
theorem M9{n}:∀(x:LN) (k:Nat),(JW n x k).all Tok4.ok=true /\ sz (JW n x k) <= 102*x.length := by
 intro x;induction x with
 |nil=> exact fun J=> ⟨rfl,qF _⟩
 |cons a x ih=>
  intro k;rw[au,b7];cases k with
  |succ k=> exact⟨(ih k).1,qA (ih k).2 (qK _ _)⟩
  |zero=>
   rw[Wg,aW];cases JT n (a::x) with
   |some w=> exact⟨rfl,qG _⟩
   |none=>
    show (bif Nat.beq a 38 then ((rf x).e ++ [Tok4.ch (rf x).o]) ++ JW n x (rf x).k else tI a ++ JW n x 0).all Tok4.ok=true /\ sz (bif Nat.beq a 38 then ((rf x).e ++ [Tok4.ch (rf x).o]) ++ JW n x (rf x).k else tI a ++ JW n x 0) <= _;cases Nat.beq a 38 with
    |true=>
     have ho := WB x;have hs := RF x;have h1: [Tok4.ch (rf x).o].all Tok4.ok=true := by
      show ((!(rf x).o.isEmpty) && true)=true;cases e:(rf x).o with
      |nil=> exact absurd e ho.o
      |cons _ _=> rfl
     refine⟨QS (QS ho.e h1) (ih _).1,?_⟩;show sz (((rf x).e ++ [Tok4.ch (rf x).o]) ++ JW n x (rf x).k) <= _;rw[U5,U5];refine qQ ?_ (ih _).2;have h2:sz [Tok4.ch (rf x).o] <= 3 := by
      rw[QW];exact qA (qU (aP _)) hs.o
     exact qA (qQ (qA (Re hs.e) (xF ho.n)) h2) (by decide)
    |false=>
     refine⟨QS Hl.1 (ih 0).1,?_⟩;show sz (tI a ++ JW n x 0) <= _;rw[U5];exact qQ (qA Hl.2 (by decide)) (ih 0).2
theorem VW{n tl tx}(ht:tl ∈ QC)(hl:tx.length <= 300):(WM n tl tx).all Tok4.ok=true /\ sz (WM n tl tx) <= 100000 := by
 obtain⟨h1,hs⟩ := M9 (n := n) tx 0;have hs := qA hs (xA 102 hl);unfold WM;cases hd:tx.drop (endN n tx) with
 |nil=>
  refine⟨QS h1 rfl,?_⟩;rw[U5];exact qA (qQ hs (qF 0)) (by decide)
 |cons a w=>
  obtain⟨k1,k2⟩ := Fq (nm := (ltr w.tail).map lowC) (v := JI w.tail) ht;refine⟨QS h1 k1,?_⟩;rw[U5];have hw:(JI w.tail).length <= 300 := by
   refine qA (dle _ _) (qA (by rw[List.length_tail];exact xU _ _:w.tail.length <= w.length) ?_)
   have := aM List.length hd;rw[am] at this;exact qA (xC _) (qA (qU this.symm) (qA (xU _ _) hl))
  exact qA (qQ hs (qA k2 (qO (xA 4 hw) 14))) (by decide)
theorem Pa{n tl tx}(ht:tl ∈ QC)(hl:tx.length <= 160)(ha:∀a ∈ tx,a ∈ al):(∀a ∈ txT n tl tx,a ∈ al) /\ (txT n tl tx).length <= 600 := by
 have h1:∀a ∈ tx.take (endN n tx),a ∈ al := fun a h=> ha a (dY h)
 have h2 := qA (xR (endN n tx) tx) hl;have tl5:∀t ∈ QC,Nat.ble t.length 5=true := JD (by kernel_rfl)
 unfold txT;cases hd:tx.drop (endN n tx) with
 |nil=> exact⟨fun a h=> (bY.mp h).elim (h1 a) fun h=> (nomatch h),by rw[aO];exact qA (qO h2 0) (by decide)⟩
 |cons x w=>
  have hw:∀a ∈ w.tail,a ∈ al := fun a h=> ha a (bF (hd ▸ List.Mem.tail _ (List.mem_of_mem_tail h):a ∈ tx.drop (endN n tx)))
  have hwl:w.tail.length <= 160 := by
   refine qA (by rw[List.length_tail];exact xU _ _:w.tail.length <= w.length) ?_
   have := aM List.length hd;rw[am] at this;exact qA (xC _) (qA (qU this.symm) (qA (xU _ _) hl))
  have hc:∀c:Bool,(∀a ∈ clo c tl,a ∈ al) /\ (clo c tl).length <= 6 := fun c=> by
   cases c with
   |false=> exact⟨fun a h=> (nomatch h),qG _⟩
   |true=> exact⟨fun a h=> by
     cases h with
     |head=> decide
     |tail _ h=> exact Bx tl ht a h,qJ (qE (tl5 tl ht))⟩
  obtain⟨c1,c2⟩ := hc (cl? (JI w.tail));refine⟨fun a h=> ?_,?_⟩
  ·rcases bY.mp h with h|h
   ·exact h1 a h
   rcases aZ.mp h with rfl|h
   ·decide
   rcases aZ.mp h with rfl|h
   ·decide
   rcases bY.mp h with h|h
   ·exact Nr hw (qM _) a h
   rcases bY.mp h with h|h
   ·exact hw a (bF ((qM _).subset h))
   ·exact c1 a h
  ·rw[aO,au,au,aO,aO]
   refine qA (qQ h2 (qJ (qJ (qQ (qA (qM _).length_le hwl) (qQ (qA (Nh _) (qA (dle _ _) hwl)) c2))))) (by decide)
theorem NH{P:Nat -> Vv -> Prop}{a i x v L}(h1:P a x)(h2:JA L i=some v -> P i v)(h:JA ((a,x)::L) i=some v):P i v := by
 rw[UL] at h;by_cases e:a=i
 ·rw[aR e] at h
  exact e ▸ aY h ▸ h1
 ·rw[aN e] at h
  exact h2 h
theorem IE{P:Nat -> Vv -> Prop}{a b d i x y z v}(h1:P a x)(h2:P b y)(h3:P d z):JA [(a,x),(b,y),(d,z)] i=some v -> P i v := NH h1 (NH h2 (NH h3 fun h=> nn h))
theorem NG{i w}(n):∀L:List (Nat × Vv),JA (QG i w L) n=(JA L n).map (Vv.sb i w) := fun l0=> by
 induction l0 with
 |nil=>
  exact rfl
 |cons p0 L ih=>
  obtain⟨m,u⟩ := p0;show (if m=n then some (Vv.sb i w u) else JA (QG i w L) n)=(if m=n then some u else JA L n).map _;by_cases e:m=n
  ·rw[aR e,aR e];rfl
  ·rw[aN e,aN e,ih]
structure LG(c:Cx)(kn:Str -> Option NameKind)(scope:Scope)(np px tp ep pos:Pos):Prop where
 gen:Np c 96 m0 gM=true
 it:findIn c.K (.ref (c.cA 3)) "__iter__" = some (some (.ref (c.fA 96)))
 itF:typeIn c.K (.ref (c.fA 96))=some (.type "function")
 k80:kn (c.nm 80)=some .local
 k81:kn (c.nm 81)=some .local
 k82:kn (c.nm 82)=some .local
 k1:kn (c.nm 1)=some .local
 k72:kn (c.nm 72)=some .local
 hsc:WT c scope kn 83=true
 hsw:XS (c.nm 82) np (.ListComp (.Name (c.nm 83) ep) [⟨.Name (c.nm 83) px,.Name (c.nm 81) tp,[],0⟩] scope pos)=true
structure LS(c:Cx)(kn:Str -> Option NameKind)(A:Around)(env:Nv)(ek:Shared):Prop where
 O:c.Ok
 defs:∀i m,JA tab i=some m -> Uh c i m=true
 V:En env kn
 hr:JM env A 20
 hrI:JM env A.in1 15
 hF:∀a,Fs env a ↔ a=env.locals
 hall:∀a o,ek.heap.get? a=some o -> c.K.lookup a=some o
structure LD(q:Nat)(text:LN)(D:List Tok4):Prop where
 ht:text.length <= 600
 ha:∀a ∈ text,a ∈ al
 hE:okE (some (J9 q)) text
 hokD:D.all Tok4.ok=true
 hfl:Tactic.E (some (J9 q)) text=JJ D
 hz:sz D <= 100000
section
variable{c:Cx}{A:Around}{env:Nv}{kn:Str -> Option NameKind}{S0 S1 S2 S3 S4 S5 S6a S6 S7 S8 S9 S10 S12 S13 SC:Stmt}{E:Value -> Shared -> Prop}{g:Gh}{s ek:Shared}{text:LN}{cv v:Vv}{np px tp ep pos spos:Pos}{scope:Scope}{f q:Nat}{tb:Option LN}{l D:List Tok4}{sx:Sx}
theorem LS.r17(G:LS c kn A env ek):JM env A 17 := G.hr.le (by decide)
theorem LS.HL(G:LS c kn A env ek):JK c 16 CL := ZAu G.O G.defs
theorem ZA9(G:LS c kn A env ek)(c12:JU c kn L12 S12=true)(c13:JU c kn L13 S13=true)(fJ:CvOk cv)(hA:At text [] sx)(hD:LD q text D)(fL:l.all Tok4.ok=true)(hfl:JJ l=JJ D)(hos:s.os=ek.os)(hab:AllBare s.gens)
  (R:Rel c env g ⟨KG text D l,hs sx (H0 f cv tb),7,[]⟩ s):wpAny c.M A (execs [S12,S13] env) (LP ek) E s := by
 have hll:l.length <= 100000 := qA (Nf fL) (by unfold sz;rw[hfl];exact hD.hz)
 obtain⟨M,h4,hMl,hM⟩ := Lr (C := CL) (t := text) (D := D) (l := l) (H := hs sx (H0 f cv tb)) (nx := 7) (P := []) hll;refine qX (QK G.O G.HL L12 G.V c12 G.r17 h4 R fun w4a s5 g5 R5 X5 E5=> ?_)
 cases X5;have h5 := Lq (f := f) (tb := tb) (s := sx) fJ hA (qA hD.ht (by decide)) fL hD.hokD hfl hD.hz hMl hM
 refine qX (QK G.O G.HL L13 G.V c13 G.r17 h5 R5 fun w5a s6 g6 R6 X6 E6=> ?_)
 obtain⟨x,rfl,hx⟩ := X6;cases hx;exact⟨rfl,fun b o e=> (R6.kin b o (G.hall _ _ e)).1,(aM Prod.snd E6.gens).trans ((aM Prod.snd E5.gens).trans hos),(show s6.gens=s.gens from (aM Prod.fst E6.gens).trans (aM Prod.fst E5.gens)) ▸ hab⟩
theorem SJ(G:LS c kn A env ek)(Z:LG c kn scope np px tp ep pos)(cs:(JU c kn L8 S8 && (JU c kn L9 S9 && (JU c kn L10 S10 && (JU c kn L12 S12 && JU c kn L13 S13))))=true)(hD:LD q text D)(hos:s.os=ek.os)(hg3:s.gens= #[])(hC:SC= .Assign [.Name (c.nm 82) np] (.ListComp (.Name (c.nm 83) ep) [⟨.Name (c.nm 83) px,.Name (c.nm 81) tp,[],0⟩] scope pos) spos)
  (R:Rel c env g ⟨[(1,.str text),(66,.str (nmN q)),(72,.list (vs D))],[],0,[]⟩ s):
  wpAny c.M A (execs [S8,S9,S10,SC,S12,S13] env) (LP ek) E s := by
 refine bA cs fun c8 h=> bA h fun c9 h=> bA h fun c10 h=> bA h fun c12 c13=> ?_
 refine qX (QK G.O G.HL L8 G.V c8 G.r17 (R9 (.cons rfl .nil)) R fun w1a s1 g1 R1 X1 E1=> ?_)
 cases X1;refine qX (QK G.O G.HL L9 G.V c9 G.r17 (R8 (.cons rfl .nil)) R1 fun w2a s2 g2 R2 X2 E2=> ?_)
 cases X2;refine qX (QK G.O G.HL L10 G.V c10 G.r17 (Ls (m := nmN q) (.cons rfl (.cons rfl .nil))) R2 fun w3a s3 g3 R3 X3 E3=> ?_)
 cases X3;have e3:gos s3=gos s := E3.gens.trans (E2.gens.trans E1.gens);have HG:JK c 12 CT := B7 (Y1 G.O G.defs (B7 (NZ G.O G.defs 5)));obtain⟨fd,S0,t1,t2,t3,ye,b2,p1,p2,p3,yp,ep',GA,HGL⟩ := C7 (m0 := m0) (gm := gM) G.V.ok G.O HG Z.gen;obtain⟨l,fL,hl2,sx,f,cv,tb,hA,fJ,hrun⟩ := P9 rfl hD.ht hD.ha hD.hE;have hfl:JJ l=JJ D := hl2.trans hD.hfl;have hll:l.length <= 100000 := qA (Nf fL) (by unfold sz;rw[hfl];exact hD.hz)
 refine qX ?_;rw[hC];refine Se (Q := _) G.O G.V.ok G.V.cells G.V.kn ((G.V.kn _).trans Z.k82) ((G.V.kn _).trans Z.k81) Z.hsc Z.hsw (f := 96) (Cl := 3) Z.it Z.itF GA HGL G.hF (G.hr.le (by decide)) (G.hrI.le (by decide)) (U := ⟨[(1,.str text),(66,.str (nmN q)),(72,.list (vs D)),(81,T0)],hpL text [(.t 0,.inst 3 (fsT (me 60) (cvS (nmN q))))],6,[]⟩) (σG := σG text (cvS (nmN q))) (loc' := Ox text D) rfl rfl List.not_mem_nil ⟨rfl,fun i o h=> Ch rfl h,qF _,fun k h=> h⟩ rfl Cw hrun (by rw[aP];exact qL hll (by decide)) (J6 l)
  (fun i v=> IE (P := fun i v=> JA _ i=some v /\ env.kindOf (c.nm i)=some .local /\ (v= .obj (.t 0) \/ ∀j,Vv.no j v=true)) ⟨rfl,(G.V.kn _).trans Z.k1,.inr fun J=> rfl⟩ ⟨rfl,(G.V.kn _).trans Z.k81,.inl rfl⟩ ⟨rfl,(G.V.kn _).trans Z.k72,.inr fun j=> J6 D⟩) R3 (.of_eq ((aM Prod.fst e3).trans hg3)) fun s4 g4 hos4 hab4 R4=> ?_
 rw[sbZ fJ] at R4;exact ZA9 G c12 c13 fJ hA hD fL hfl (hos4.trans ((aM Prod.snd e3).trans hos)) hab4 R4
theorem EW{i}:∀ns:List Int,Vv.nos i (ns.map .int)=true := fun l0=> by
 induction l0 with
 |nil=>
  exact rfl
 |cons _ ns ih=>
  exact ih
theorem SD{L}:exc CL L5 ⟨L,[],0,[]⟩=some (.next,⟨put L 72 (.obj (.p 53)),hD [],0,[53]⟩) := by kernel_rfl
theorem SL{ns}(G:LS c kn A env ek)(c4:JU c kn L4 S4=true)(c5:JU c kn L5 S5=true)(c6a:JU c kn L6a S6a=true)(c6:JU c kn L6 S6=true)(c7:JU c kn L7 S7=true){r L}{Q:Flow -> Shared -> Prop}
  (k:Kn L [(1,.str (t0 ns)),(66,.str (nmN (qN ns))),(172,.str (tlN (ktl (dr ns))).1),(173,.str (tlN (ktl (dr ns))).2.1),(174,.str (tlN (ktl (dr ns))).2.2)]) (N:NoQ L)
  (K:∀s' g',gos s'= gos s -> Rel c env g' ⟨[(1,.str (tN ns)),(66,.str (nmN (qN ns))),(72,.list (vs (dN ns)))],[],0,[]⟩ s' -> wpAny c.M A (execs r env) Q E s')
  (R:Rel c env g ⟨L,[],0,[]⟩ s):wpAny c.M A (execs (S4::S5::S6a::S6::S7::r) env) Q E s := by
 have hb:(t0 ns).length <= 900 := qA (X7 ns) (by decide)
 refine qX (QK G.O G.HL L4 G.V c4 G.r17 (SE (k' := qN ns) (k.sub [1,66]) hb (YG ns)) R fun w1a s1 g1 R1 X1 E1=> ?_)
 cases X1;have k1 := (k.put 37 (.int (enN (qN ns) (t0 ns):Nat))).put 72 (.obj (.p 53));have N1 := (N.put 37 (v := .int (enN (qN ns) (t0 ns):Nat)) fun J J=> rfl).put 72 Xd
 refine qX (QK G.O G.HL L5 G.V c5 G.r17 SD R1 fun w2a s2 g2 R2 X2 E2=> ?_)
 cases X2;have k2 := k1.skip 2 (.int (0:Nat)) rfl;have N2 := N1.put 2 (v := .int (0:Nat)) fun J J=> rfl
 refine qX (QK G.O G.HL L6a G.V c6a G.r17 Lp R2 fun w5a s5 g5 R5 X5 E5=> ?_)
 cases X5;obtain⟨L6',h6,k6,N6⟩ := SB (n := some (J9 (qN ns))) (tx := t0 ns) hb (YG ns) (Hn ns) k2 ((J5 ..).trans (aR rfl)) N2 rfl rfl rfl rfl rfl rfl;refine qX (QK G.O G.HL L6 G.V c6 G.r17 h6 R5 fun w3a s3 g3 R3 X3 E3=> ?_)
 cases X3;obtain⟨L7',h7,k7,N7⟩ := SA (q := qN ns) (d := dr ns) (qA (X7 ns) (by decide)) (YG ns) (k6.sub [1,66,172,173,174,37,72]) N6
 refine qX (QK G.O G.HL L7 G.V c7 G.r17 h7 R3 fun w4a s4 g4 R4 X4 E4=> ?_)
 cases X4;obtain⟨R6,-⟩ := ZF (k := 53) (vs := vs (dN ns)) R4 rfl (J6 _);refine K s4 _ (E4.gens.trans (E3.gens.trans (E5.gens.trans (E2.gens.trans E1.gens)))) (R6.sub (fun i v=> IE (P := fun i v=> JA (QG (.p 53) (.list (vs (dN ns))) L7') i=some v) ?_ ?_ ?_) (fun i o e=> nomatch e) (qF _) fun k h=> nomatch h)
 ·rw[NG,k7.get 1 rfl];rfl
 ·rw[NG,k7.get 66 rfl];rfl
 ·rw[NG,k7.get 72 rfl];rfl
end
theorem ZBA{c:Cx}{A}{env:Nv}{kn S0 S1 S2 S3 S4 S5 S6a S6 S7 S8 S9 S10 S12 S13 SC}{E:Value -> Shared -> Prop}{s ek:Shared}{np px tp ep pos spos scope P a L m} {ns:List Int} (G:LS c kn A env ek) (Z:LG c kn scope np px tp ep pos) (hin:∀a o,c.K.lookup a=some o -> ek.heap.get? a=some o)
  (hg:ek.gens= #[]) (W:Well P ek.heap (.ref a) (ofPy (.list (ns.map PyData.int)))) (fN:ns.length <= 1000) (F:Fr ek.heap L s.heap m) (hL:env.locals=L) (hm:m (c.nm 80)=some (.ref a)) (hsg:s.gens=ek.gens) (hso:s.os=ek.os) (hst: 0<s.toks) (hC:SC= .Assign [.Name (c.nm 82) np] (.ListComp (.Name (c.nm 83) ep) [⟨.Name (c.nm 83) px,.Name (c.nm 81) tp,[],0⟩] scope pos) spos)
  (cs:(JU c kn L0 S0 && (JU c kn L1 S1 && (JU c kn L2 S2 && (JU c kn L3 S3 && (JU c kn L4 S4 && (JU c kn L5 S5 && (JU c kn L6a S6a && (JU c kn L6 S6 && (JU c kn L7 S7 && (JU c kn L8 S8 && (JU c kn L9 S9 && (JU c kn L10 S10 && (JU c kn L12 S12 && JU c kn L13 S13)))))))))))))=true):
  wpAny c.M A (execs [S0,S1,S2,S3,S4,S5,S6a,S6,S7,S8,S9,S10,SC,S12,S13] env) (LP ek) E s := by
 refine bA cs fun c0 h=> bA h fun c1 h=> bA h fun c2 h=> bA h fun c3 h=> bA h fun c4 h=> bA h fun c5 h=> bA h fun c6a h=> bA h fun c6 h=> bA h fun c7 cs=> ?_
 obtain⟨vs,hao,hvs⟩ := AM W;have R0:Rel c env g0 ⟨[(80,.list (ns.map .int))],[],0,[]⟩ s := CX (h0a := ek.heap) hin F hL (fun a=> (G.hF a).mp) hm ((G.V.kn _).trans Z.k80) (fun F ρ hF=> .list (items := vs.toArray) (n := 0) (hF _ _ (G.hall _ _ hao)) (hvs c F ρ)) hst
 refine qX (QK G.O G.HL L0 G.V c0 G.r17 (SI fN) R0 fun w0a s0 g0' R1 X0 E0=> ?_)
 cases X0;refine qX (QK G.O G.HL L1 G.V c1 G.r17 SH R1 fun w1a s1 g1 R2 X1 E1=> ?_)
 cases X1;refine qX (QK G.O G.HL L2 G.V c2 G.r17 SG R2 fun w2a s2 g2 R3 X2 E2=> ?_)
 cases X2;refine qX (QK G.O G.HL L3 G.V c3 G.r17 (SF fN) R3 fun w3a s3 g3 R4 X3 E3=> ?_)
 cases X3;have N:NoQ (lE3 ns (dr ns) ++ [(1,.str (t0 ns))]) := fun k w J=> by
  show [(80,Vv.list (Vv.sbs (.p k) w (ns.map .int))),(175,.int (dr ns)),(66,.str (nmN (dr ns % 3).toNat)),(172,.str (tlN (ktl (dr ns))).1),(173,.str (tlN (ktl (dr ns))).2.1),(174,.str (tlN (ktl (dr ns))).2.2),(1,.str (t0 ns))]=_;rw[Vv.sbs_no _ (EW ns)];rfl
 refine SL G c4 c5 c6a c6 c7 (ns := ns) (.cons rfl (.cons rfl (.cons rfl (.cons rfl (.cons rfl .nil))))) N (fun s' g' hgo R5=> ?_) R4
 have e5:gos s'= gos s := hgo.trans (E3.gens.trans (E2.gens.trans (E1.gens.trans E0.gens)));obtain⟨hE,hE2⟩ := VX (n := some (J9 (qN ns))) (N4 (dr ns)) (YG ns) (Hn ns);obtain⟨hD,hz⟩ := VW (n := some (J9 (qN ns))) (tx := t0 ns) (N4 (dr ns)) (qA (X7 ns) (by decide))
 obtain⟨hT,hTl⟩ := Pa (n := some (J9 (qN ns))) (N4 (dr ns)) (X7 ns) (YG ns);exact SJ G Z cs ⟨hTl,hT,hE2,hD,hE,hz⟩ ((aM Prod.snd e5).trans hso) ((aM Prod.fst e5).trans (hsg.trans hg)) hC R5
theorem Rg{env}(h:(env.scope.kind= .function /\ env.globals=mainGlobals) /\ env.builtins=builtinsNs /\ env.frame=some env.locals):EnvOk ⟨env,[env]⟩ :=
 ⟨h.1.1,h.1.2,h.2.1,fun x hx=> by
  cases ae.mp hx;exact⟨(fun q=> by rw[h.1.1] at q;exact(nomatch q)),_,h.2.2⟩,env,[],rfl,rfl⟩
theorem Rh{env}(h:env.frame=some env.locals)(a):Fs ⟨env,[env]⟩ a ↔ a=env.locals := by
 show a ∈ [env].filterMap (·.frame) ↔ _
 have e: [env].filterMap (·.frame)= [env.locals] := by
  rw[bc,h];rfl
 rw[e];exact ae
theorem Cn{prog w}{K0:Frag}{P}{ek s:Shared}{a mb m}{A:Around}{env:Env}{L}{ns:List Int}{S0 S1 S2 S3 S4 S5 S6a S6 S7 S8 S9 S10 S12 S13 SC kn y82 y83 y81 np px tp ep pos spos scope} {E:Value -> Shared -> Prop}{c} (hc:c=cx1 prog w (K0 ++ YY ek.heap))
  (KX:K0.In ek.heap) (hb:ek.heap.Ns builtinsNs mb) (hbi:∀x:Str,x ≠ "__name__" -> mb x=bootBuiltins x) (hg:ek.gens= #[]) (W:Well P ek.heap (.ref a) (ofPy (.list (ns.map PyData.int)))) (fN:ns.length <= 1000)
  (F:Fr ek.heap L s.heap m) (hL:env.locals=L) (hm:m (nm1 80)=some (.ref a)) (hsg:s.gens=ek.gens) (hso:s.os=ek.os) (hst: 0<s.toks)
  (VV:(env.scope.kind= .function /\ env.globals=mainGlobals) /\ env.builtins=builtinsNs /\ env.frame=some env.locals) (VC:Xr ⟨env,[env]⟩) (hkn:∀x,env.kindOf x=kn x) (hr:JM ⟨env,[env]⟩ A 20) (hrI:JM ⟨env,[env]⟩ A.in1 15)
  (H:Chk1 prog w (K0 ++ YY ek.heap)) (hk:([80,81,82,1,72].all fun n=> kn (nm1 n) == some .local)=true) (hC:SC= .Assign [.Name y82 np] (.ListComp (.Name y83 ep) [⟨.Name y83 px,.Name y81 tp,[],0⟩] scope pos) spos) (e82:y82=nm1 82) (e83:y83=nm1 83) (e81:y81=nm1 81)
  (cs:(JU c kn L0 S0 && (JU c kn L1 S1 && (JU c kn L2 S2 && (JU c kn L3 S3 && (JU c kn L4 S4 && (JU c kn L5 S5 && (JU c kn L6a S6a && (JU c kn L6 S6 && (JU c kn L7 S7 && (JU c kn L8 S8 && (JU c kn L9 S9 && (JU c kn L10 S10 && (JU c kn L12 S12 && JU c kn L13 S13)))))))))))))=true)
  (hsc:WT c scope kn 83=true) (hsw:XS y82 np (.ListComp (.Name y83 ep) [⟨.Name y83 px,.Name y81 tp,[],0⟩] scope pos)=true):
  wpAny (model prog w) A (execs [S0,S1,S2,S3,S4,S5,S6a,S6,S7,S8,S9,S10,SC,S12,S13] env) (LP ek) E s := by
 subst e82 e83 e81 hc;have hall := fun {a o} e=> PR (K := K0) KX (a := a) (o := o) e
 exact bA hk fun k80 h=> bA h fun k81 h=> bA h fun k82 h=> bA h fun k1 h=> bA h fun k72 J=>
  ZBA (env := ⟨env,[env]⟩) (c := cx1 prog w (K0 ++ YY ek.heap)) ⟨Vd (ZCN (fun a o e=> hall e) hb hbi) H,H.defs,⟨Rg VV,VC,hkn⟩,hr,hrI,Rh VV.2.2,fun a o e=> hall e⟩ ⟨H.gen,H.it,H.itF,aV.mp k80,aV.mp k81,aV.mp k82,aV.mp k1,aV.mp k72,hsc,hsw⟩ (fun a o e=> Vz KX a o e) hg W fN F hL hm hsg hso hst hC cs
noncomputable def Kz:List (Str × NameKind) := [("script",.local),("draws",.local),("name",.local),("written",.local),("fault",.local),("told",.local),("text",.local),("end",.local),("due",.local),("place",.local),("faults",.local),("part",.local),("start",.local),("close",.local),("inside",.local),("names",.local),("closing",.local),("t",.local),("got",.local),("marks",.local),("sum",.globalImplicit),("_law_NAMES",.globalImplicit),("_law_TAILS",.globalImplicit),("_law_end",.globalImplicit),("_law_reference",.globalImplicit),("_law_plain",.globalImplicit),("_law_fault",.globalImplicit),("len",.globalImplicit),("_law_inside",.globalImplicit),("tokenTypes",.globalImplicit),("HTMLTokenizer",.globalImplicit),("_law_joined",.globalImplicit)]
theorem Ci{β:Type}:∀{l:List (Nat×β)} {a:Nat} {b:β},JA l a=some b->(a,b)∈l:=by
 intro l0;induction l0 with
 |nil=>
  intro _ _ h;exact nn h
 |cons p0 l ih=>
  obtain⟨x,y⟩:=p0;intro a b h;rw[UL] at h;by_cases e:x=a
  ·rw[aR e] at h
   exact e▸aY h▸.head _
  ·rw[aN e] at h;exact .tail _ (ih h)
theorem PD{c}(h:∀p∈tab,Uh c p.1 p.2=true)(i m)(e:JA tab i=some m):Uh c i m=true:=h _ (Ci e)
theorem Dp{env A r}(h1:A.handled=none)(h2:decide (A.depth+r<recursionLimit)=true)(h3:decide (A.units+20*r+300<cLine)=true)(h4:A.frames=some env.fs):JM env A r:=⟨h1,qH h2,qH h3,h4⟩
theorem Ax(x)(h:List.lookup x Kz=some .cell):False:=by
 have hm:=Kd h;have:∀p∈Kz,p.2≠.cell:=by decide +kernel
 exact this _ hm rfl
end Mine.Tactic
end
set_option tactic.hygienic true
end
namespace Mine.hx
abbrev T:=True
theorem t:T:=.intro
section
set_option compiler.extract_closed false
local macro_rules
|`(command|universe $xs*)=>return Lean.mkNullNode (← xs.raw.mapM fun x=>do return (← `(command|theorem $(Lean.mkIdent (.mkSimple s!"tw{x.getId.toString.foldl (fun n c=>n*62+(if c.isDigit then c.toNat-48 else if c.isUpper then c.toNat-55 else c.toNat-61).toUInt64) 0}")):ident :T:=t)).raw)
universe AKctHI9QlRv9 AGF6VJRojLL4 AB2ODqAA5I6I A5kzcvUuEFZp AC4rSNaKKDmu A4Yu8GUKSE2K A9zb4S22sQ9c AAWK5ge2gmkc ABlcIyICaScK ALug21nFQNCG AIAl2JvF7pk2 A0Lbbh3zg91Z ACSs0Lk9aMSM A37CraDLvCJ7 AA8qP3quvxNz AEwqdTmxLmvW A9Hmd7lTRF0Q A3AICOlMqm1y A3f5lbNMJfJi A7IV54m8Rdvx AI7KtzXpYMOK ADo7bcIad18f A0itGAyPq8jV AK6lDtLB1XKx A0KoXDZ5tuWn A0WGyCQOKmNN ALQtoMqWsC5k AJNwWyrcx9an A5nCTQI4m094 ALfr52sY7emA A5yZRitBWSru AEg1XQD6wZwE A8h0f0HU4RoZ AIaVKietEslx ADpegq5pA6IP ABt9hlidUZH8 A0UT9qOPMeJm AAPLzKD8mcrh AJ4Lw0WIZfIt ALrkbvBY3U2G AAWGaPP9gKKJ AAi7MRA1l49X A6KFnGkMXWLW AEABf25khBpJ A3Y60XvJPVZL A6FFNgYMWphA ADTAO3zC4HXb ACyDSJadyyWI AAosnMRUMVoR AIujWfwM0znM ABHbH2eekacf AKdvzxF6ic53 A99m80QT3ZMJ A5YyVRVp1MNw A2XPqJ5Cui5z A2fzjdEhd5bv AKSPVT2fqcDP AH2qQVzQ3dMA AJROY7kz9itl A71nKcuwS3AV A76QJmVf01Rg ACozQuY4dBL2 A3kepA09BuWb AAthI3KWAs4V A3O4tx7j0w1k A0h24xbB71BR AFYFdG6l4wmQ ADJ0IJUQgqRm AAHRZPH2J08t A4ILnS0Gs3Bz AGOzTTqUdOqt AKrp38ZLBolf AFywmBQjCM5o A4RnHLqEjvoG ALVCZAzVCpBv ABDdH7JvSkp8 A4o4JTUa1agc ADX6RlOcSUTw A3LBUuLCr6Eq ACpbhB6VXoFX AI253uWdXWJY AKC0C8AjdaQO AI4wdcAEpgR8 ACkyoyuiCuX7 A9EQ0ET6YIEo A3gqE8z6TOmm A6gEuSM63iUk A5MjMrgJxaO5 A6optK41DsRO A8HUcScbeVlv AEzYfhTmEjtL A0VW5zqoHbZY ABv1tVm2TjIi AIgEc2FffRXE A1ilnuj7pfqM AC36fXH0GUXe ALxRxFzvynRW AAcQw453XvlI ADwO0nxsu1Gi AHAwDmtBpNJ3 A4Qg8IugcYM4 A8sJHE5mEj3V AIn8Hsl0PwYc AKbzsvAkAD3Y A8PW7RQywU7Q AIu76tgY2CZK AG3DgZkTi3yS AFRL2sSBTftn A51uF25iNjSB A6aVx9epnEJJ AGi570t6QJAF AHIYGiwwitpd AIpgSwDiyobQ A2MA3LlqPjxb AENqe8Sfeykq A7oMx5HY2C3M AH1G6PcPHSqP A8gmbb8JuL0A A2McZT63pcAo A2fIz2DUwjbt AF8bml3Ui5DK AHaaoXpo4ovC A0Z3RMCAZJWl ALFWSwKdDd1N A59Cddk0IU04 AIh4dBFEZac1 A0J45A6cW8h8 AHFJdWO7MyVl AD9ZYrjq4ryh ALqoSw4e50rn A8akQXTkTPVC A5u7Ir2aJokU A4x50xkfsigN ADlmmT8jv2tG AIhWAWTvSnJd A2abUQcg4LES A5U9FJMDdX4A A2OExgbOAYwP AH6hvqpiHq3T AEjJKgourlb7 AL8ZRv7Zb9lg A0t1RRAxsFVd AIAllMyYQx1c A0uSC9rSLPCb ADubazN6UJVW AJoAW488q5ME AEyQFLPIJgaq AGlGR265PXiH AAsnIQbChCBA AHjOpnMe7xu4 AA0mqrrSYazR AI6fYHj521ah ALs3sNxOXj5V ACh5itx9S8qC A5GmoDIwbcpM A0iW5TwGpc5r ADuoFZ3NSz3p A6OrMxCnSQ5q A1yfAwDWfDN1 A2pf2Flb5Q5k AFTFOepN9YpX ADtEksa3BvfT AA3HFfEzmhlp AJ0OwoilYGnO AK0IEZBhjESd A9pAEp16aOf8 AB6FIj22ju6x ADcX5sLRy2Sw A1PktRGLbmFt AKq01uEJuSzb ADkQ5U3kRByB AEKLGXnyf0qu ACpEGncarkYZ A1fY1xyi3nfX AJszUAHwqjVA AIpOohucYK2w AC8bLvfnCdJY A3dlMHHJkyZO AJ1Q6wDZ33iH AAAIfmSehytu AGTQOJXn69xj A8lR5W3CHeBJ A77s0GP7NvJP ACMcm54fnMax AE1A8AfFO3Sm ABG7aZjMcQqC AAAX399UdaqC A2jRvDyNg8wg AKTjAKamcYcK AC4M76kiXPIf A0DHjTbeENZV AGcgJs1pSUdY A06RUQYTviX3 A8cUTwHWx4Io A763E9Zn0Jzy AJKTKfYdEj4t AL8DfPQKBDj4 ALKkCzKxSctc AAeNM9UQAdML A2WNJ6xHy2FX A79OK6POIlZR A8XzANzeQk6B AHMzU4B7JmWZ ABt8PZYkaeoR A5cpuetoGHVn AJT2MvgJMsPF AJqLEqhYrQ5j AJEKDDwupvYx A5Lh1nL2WsCP A3uCoO4kd8oH A568OMUpOvLi ACmAGDPXNpnQ ABUa2uwgZGNh A0lHrycP0fMA ABIpHY3b8xaq AKriUpWPVKAY ALY7snWeIQxS AE8HRn47KOXx AHd1YlD9iGgg ABVYDXfz1pYc AA5imCJipmg0 A8n4uXbC3rLC AFAayJQVDTNM AGm2AsKOMLnV A86xYpB0RSRp A5nYuFigGJHM ACrDS1lZbIk6 ADrlcBueWvPK A7MDpyMcP9HS A5ToXJSGazHh ADXnJVM56XUg ADNfCKs5DK7r AKaZ0MDxhHLG A1uHj9eJTkji AGDfnbK8a3Hr AC2IG6pzjNgB AEFvShLZLhkV A8e2QPolsFKw ADVOxnO87wcE AFVkuhx2hlRC ABrn6GMqYZY6 A6lJeHdylmGo AEJXSWz1vrhe AE8bDoHakgxI A3LJnDyMtkWM A16z0PDPUzu1 A4ShtBeVBSbc ABHwmr6AO2ep A30sAaC9K6pX A0LafWS52Au5 A56v93aTifb5 A8iwUuqEwybV AFNn626pLjUp AJl9agsPJc6f A9mJjyqSQ7Ta A6SBv5wQeMgP AD1cLiGm2auV AHt8SMafzNVj ADxXPgCNFUeq A9DSd1U3NHxY ALHpbyNnn6ST AFMYiwkXUoG7 AL2ABFk0cnR6 A9UuOF0UKosK AGRHSMlQ2gqc A6QfEkIbmrMn AIMIjSp8q5c5 A164KEofRLlU AL1KMJeAJsRV A1SKcR5zQSQo AKNRx54276OK AHqIWCBR83ON AAZwg4FxFpsb AI54dpKctsnv A0o7OpLaDMYd A3K1wdE1lubo A0vlAM7ieKnd A8jowafpSPDG AJgBX0i1IVET AGPCcK0slPLz A61nHb0KkzMQ A8z5KFLEYYk9 A9CEQ2ciaRht AC7ajOZckUyc AD3v2su4I25q ABwyTXK3oxer AHpsdRSYaj7H A3cKHn2TT6zJ A0cDpFfxwVNs AJZW9wagSGCp A4fiGyRlCl8u ALsU7qQ5Hv7G A9xMqEgXB5DM A6zlR6vvQZNb AB0q4IJR4Fd0 ACqoRcF4ivZ4 AGZlpuCYhIx3 A3JWFZJ9Z4RV ACx51wH18tzO AEWirRMfBDG9 A98myWztwoLK A0YrHutd6Wvg A8F6zXu3Z2FY A6W7GsG8AZn6 ABJB9vsB8ACD ABY3TBHArfr0 AI1isYvtRkc7 A5JDzmtYvbEf A5nKCUTqacaX A1GvJeux0ceb ABOIoWzy1Y1n AKxnuwx8LBIq AKBsmlvRpoNf AFGb5FI45jTc AHzbaylLH4De AD9Evtxxy5ec ABXJahxKebVU A9CnShDvb7ZP AKJgQSj2I9dl A87GaBkiGbzn ABXPIWQadWIP AEycaB6McMPq A9aep8E3lzMW ABl4qfqSeGnT AAPr9Xjf3NFz AI8ddhKCcmWH AKsU1Vs252zM A5y5FKcr84Jw ALrmuSpZZbiq AHQMOGOGCmim AH6airHNU2XH AC9xtopUB8jX A130vj7m9r4O ALuiY8GqqgTs AKUsvbN2S7QQ A1h6pPW8EMte AEBNev0EYiri A4qWNxUFKUTk A9ETV8lVWLP6 AEzULEk3DYm9 AAjWuglSux0J A0CaYmyQHzmK AAl35Y77KaEK A9T3Av7ASotT ACxm3ZHttE7Z AFhSytOBnCfW AL6l18YaZt4h A4VbB5GSI3aX A5iGsrtVylFh A5Nh2oLNmxCX A29RSt81EY2f A5sVdBZMfgBG A1M0uftxFjgr A9WtlQTStE3u AIouT8Gz8zXp ACUjuWoQUf34 A0CyVnK4g1KQ AApFjqKCnx0d AEp1DYthd8Fw A9Bv0dpeCQNL AFaWWfiN0diN A9YSehnu7JzG AFwzU1MLoBQd A01Kxkkfzxf8 AKIdvrCEt3fJ A9lnOoMIzssE ADc7sSc9oVk6 AKH97qsalgi4 AIP2zzh6nSFR A6046DaqeQOU A6SbvUOIWkgD ACSjGu8PYXi6 AJk3mBpRDIhh ACRBXikZsrVp ACRdGhNsaCTS A1dV9pn6XxqI AKorXM0KaIcQ ALSfBQnCEV9i AKxIcV5e4qIx AEWxrizFhk8Q A7LMTbVwLFcQ A3Eswf4rh3MV A0NlCqMDC8iV AFgtBTaGAiLO A6GQuAygDWQw A0Yo1wgQWl1H A0qUi9yGdFIN AL6m8tbbJw9P A8Meu0vDera4 AAxUJOtnTVhI A8ai4ouHfAsX A5hg7DZBGNIo AL1SUQxVG5B9 ADXbvzSrwBj3 A9SQwAJ6ZyIh A2Cgx1VRW7WR A7ne9w92eCIB A9l5RzYITxdL A83OnjBOIWbp AKVCw2iYQIAr A8TDWtw37mEo ALVTKfVHZqSw A0V7Bia1Yo2f AJ7rfzDSIJ7K ABytZDAQxojk ABIUQJXOd4Qq ACqboHAMeKkz AGBQOMo8zRBV ALEEuYaXsMlc A58w9wgBaiiA A3FxshoQschL AGLIlBAueq6c ALWZDS5t6pxg AHWr5Dq74Wy9 A8PcOWh6xXvy ADCQsdzBZxJj AA9T7l46J6xf A4NjhQ0KfCF2 A3R0DICjhzTw A0dsGkPvsPyU AAFaQcz2gulI ACt8RVIQZE5E ABUNXZseHvnt A06uUYWY8gl0 AFkWxORCjBvk A2sROKlOvK6H ADuYQO4Hv5qd AHEKJouvQiuJ AIYxw4mvOQWS A7PLeyMIKStD A9y3RxCxLawt A9nytENW3UJC A6gCDuTqpYXl A51qTp3fvnlQ A1cm7V3gvYkW AFDDPgRGGPNB A61sVDM2d3Op A1srzICoFFih A0QZBfgihxRz ALms4Lcxh9pt A5F50LajLctd AFkpDqgYmgbi A7Aer5kPDRh5 A9b7O7aAFJ9R AKectG5dkD8N AFiseyvyYETk ALvC1UbnFSST A45dvrcyOJKX A9e45Crm1NiF AKad0S4Mk6ag A3gO1YCy9zO2 A5ngYwIj3fiE ADBBILzma71R AIaqwt5PfDk9 A2FzieVg47wS A3yhBGEb6SdT AE3eoMeWdOwV A6phwIiQ8Tto A0P9LPk5lFsA ABLWa8J3ZsRR AD3gugZtzcBQ A1jLm7hngAH7 A2nct9mnAnTD AGCQAMxE1Tv7 A4vQPjrvtHSi A3cd0Puymeeu A6Jq07OOZJFa AFnvM7bIDUmX A1E6tb78GL7M ADtxssme6fFc A1lxGxshVNS2 ALfVY37Z9j10 AJzVf6j8Ms6a ALKfU5Q7oUak AE8jlgyj1gq6 A3Wz3BrVzcTQ ACy9o5V71Zam AL0YCTklKSSH ADJUDDYJAJP5 A7oBmz6xDuGN AKs1Ndzdex7H A4izBmPbUotc A9JwUHWxIFDY ABnJQbn53E7s AG6Biii9xlUx A0DSyvx7Obia AJg42OI3u46g AJ1yO7hbpsop AAKoldziBeEO A4TMQWoo1JWl ALj7TqksY9it A84qu2JcDqYi A0s5CdZ4WioA A8yMIM670bnz ACJl7IqycMcq A5YCRuNyW2ts A7Es2kvm34If AAhfXZZEvX22 AJx6t1zLq4lX A5OPynrnvv5F A9przgrTqaZy AEL3atDFUllA ADIeRPJf6nYZ A3WSorFE7rvg AK1hi7JMRnlx ADcUpBiya0G6 AC47Nos7nRuS A5Hp98bUEL8N AGhGy38jjxOi A7cymseCxA1v A0siIItdZJmC AHdG7mHE1deZ A19bneky8HqE ADmg6SrZsA9Q ACSJ2e1tK0iF A982EFqVQuz9 A89qvEocZcE9 AKtlurec7tyE AGsfe01EtgZe A5wiA18HZnFO A7Hwl0m9K2WF A8pTVifjthId AEndrCnM4bbU A44HCRzN7ek3 A3oEoPl5iVkN AKYLaz8WmR5x A7YFbDaUqsrA A7embe5YaKjS A5Im6diBjj1M ALDjNcf7fRDr A8b9zOoowpmW AHYYb4ASke6F A9aubQmnCipX AKOuAWEHZPqz AHmJSxZtDoPh AIigabdZ0H2G AFzgvBypLPmW AHqRsC7fxa7t A8mvjAVPRZ4w ADlxDhukeL6w A7DxMyLmGKY5 A6V6HwceAzcB AFg9dSvJSLzf AJdRZJE1Wrge ADkX3Ba8EsUp AJLdJPMrNVpw ABwAZPwf4Xdm A4GOvwZpV35B A0Sxkpa6cybb AHNCuECMkik9 AIf9WMYfd4wP ALt8X65cPmE3 ALHiZc2CoEt4 AK3hRuYzjH76 ACOplmCESRlp A7Va33bmqQXQ A3jwsjYc5CEO AKkJAOXdCr4n AEHlOuav23HL A97nixa6ifHC A3KGQqSbVJxb A57ONCxOdy2L A7Gdy1ibFjql A1XdcEAXvcRp AKFQr8YFG9Vj A0v66o2SG9iv A5AFaso1MIT8 A97UG6jqYdAo ACgh6qFgdR66 AFCmhF8gXoRs A0DCsYffkuoH A7GBYU6k6zuh ADzFytSsBLCB ALokiUcMVZ8b A1fEeFu2Lq1P ABBJRCzJOmuF A2AL3InSDS72 A2851B2h25Pz AByFpcD8ilyR A6BBYNoMHkgf AGK7YxMCLxXZ A7SORZKtPFoU A0HMOFSgAiz6 A0hceWoxjH6F ABHiKveWqcUE AD8hOcDddwY3 AFHqX6N7cIUn A5AUIYjqVeRw A4inXz27PBA7 ABJYqvWdNSa2 A0qUGf3OXhDj AGOk5FvPgtMG A1eXBVSbaToM AHXiKlYKpbpH A7HymMPeyn4O AL0JyivWwxDd ADHOfu2BZNtk ADONa5kddU5F AI1aXSXjKdcP AGMSscyXgkVd AJMGmbzkkVOO A13UcIVfCKed AJk4MaBAHAEw A4eBxCXbDeHU AEXOHvsafdDY AAu2QT7sHDQS ADGdxdmlhE9S ACTkomot7Hht AEVqeql0aw2F A3jwSgSnv9Fh AFHdujqLNuiw A64tkoiHowAb A3T6tHqzkfgj A2E3NqcHvPGC ABK5N9bccToO AJckTXikvXSD AKyhOX9zygvV A6cI6OOgvLWN AG7MomK6foOd A62hb1qG51x1 AHxXltFdfHl5 A7mJnmwuS5Xn A0aud6OX8RJW AGR13bePvOr8 A15pFfNyFIrB A944Xo7lvGy2 A494SwzhsEG8 AFhpHVgylnT7 A570TrGcZZh4 ACJ1wb3Olc6N A7QOBYyYz9wU AJrG45OixSoU A6EUyHFnWAfD AHj59PCJq3Sy ACi81WuavwBk AIIGhey8dQuv AEgJFDgvSb7k AEmrIogx6VQA AJjSDmQ5t3Cs A3L9gg9AR0si A1Y4szq8JXWy A3w3l5nR91gA AKNl3DfT8qBI ACTGxLsuEUk1 ABNsnSNTioXq A8LaZN2oE5xK A378zzj87gi3 A5WRdUGgBhBh A81ozpDkCIz5 AAkIRoduRmXV A0O1Q0xMuwg6 A1Que4ohPDBA A9jmdq3q1y35 AEIVJ3LHIcvw A4AkkjgskAtj ADaP5g3Gjmwl ABKxTa5fYHqL AEWG15PgVTkU ABMhBU4ovBAa A2KwL4dsSjKy ACraN6AaBtm5 AI3niJ9L3372 ABixuR72JRp3 AKnhXweJ6y9A AJqFBrBLgyxa A4KXW45kwpv8 AEWp1i424mUC A02zIhtzhTCt A3dD5Ul0GRGn AELqGAZlaK91 A6dNWwZ9bYIW A1hc4T0Jc7Dd AHGf41Oj6Tsl AJBZaqoWoymU AAWKMM1qvpfd A0w8d4QMrVdj A6lh7CztDwzA AKqrLqtztv6h A7xHZ4IqaHBq AG7wmI48451g ABcbClITe76A AIuaICnYFteK A4msf6JP8QKS A82w2JkJVEnz AK0NdPvAlK0S ABOMe8LiOyr4 AFABJFmBpOu8 AGLHOHVqZ311 AB9OG1o9FeTn AJgQ2RbpwJFk AIEjl8lKNhlU A3WArUEqGCeT A6CxPNbNwPfP A9HaPxqCFYq7 ABggJgHVsqde AIlopdQMR4UB AHQ1zRSGZOGh AAGiPHD9mPt7 A456A3yr3CBc A7kQc2c3LVc3 A4MmjdiEF2BT A5afjmVK25bG AAqgo9838Huh AHXqzlxvfUUP AALjqiSXmbL3 ALIfE1dyRKDE ACFVtz3sA8iD AAYmV0Ov6Ofe A0owTaEGscQ9 AGEde0HFcvaE ADGJpYBwW4AP AKLrphPnBy3V AItt38arZI8z AJHr4qwAcpBz A7DcEgoFhIAf ACzE7s3w4L1j AE6VtGDESJeB A5tBsrViKqgf A9qN5A0QjuFc A9blnMH9lNrG AE0A4IzypWO7 AC6Ig9GH5Iu2 ADVfsm8FOVDe ADxO9e03mzIM AApje985tspU A78PGLfKpKFu A6ShUObWviBg AEHVBLn6gfWu ABUsdsu7xduD AGx5fMqOVrxu AI2XpUmae3nz A0G0O3FoztvD A3bQOv1BwQ24 A0GgY0zjxLnn A3RNUaZopS63 ALw76iDbruag ABwcQFUuf9Gf ACQaFM68zYpp A5cfKcQeY2rP AGUQh14bSo9i A8avesalNUZA AHC5j9HVb7lk AJgv8iSJwEGM A6c6NIzn5pI4 AIpCSxBNKSDc AKFPT4ZRU1u5 ABqze2opvo5Z AIP8SQPMTBeQ A4zYbqQpO5wD ACJQIBeAGBGM AGI2pmUAiGqI AH8zADDgA41j A6mOZRldZ60K AJ5GY8LxvPGR AL5DRbicFYBS AD7A9UVy4rml AKz0GGtr1TgO AAe71RNAocvP A9I0pbUUOsGa A51AT5dXJN21 AKkGmQMJZbvK AIgKJodcfuTc A5Tc9YWlado2 ACjhhYT6o319 A28L6SarhJNy AJyCHQv6MvN3 A5RduTu8lCJW AB2Cq2FkQ64l A7CYyzLUYqWK A2XgIEa24owj AAYrrsfsEV6g A59joik01N3e AKbEAxwSUZ7j A1ZtOzaAx7NI ACH1iFW3UXYi AF8W3GrHjgmP AHZo4JcBj8Ks A50QtHSCPaPc A579PJMXzi0Z A8j1Y5ls3L32 A2KkMqaAy8gD A4PBjOXYsnec AHYonVK3wdqy A8qIcW5da0eX A0FyYr26toxz A7r2Uo29XEYo A92KtxJmtZ2S ADuTUN3JX5cL ACX9O1pvwOs0 A19BDj44g2aU A2hWAkZoNQcz A1XD2fppGSvi ADV0DYcO6jRZ AILJz5BofJR3 A8Fezo1yDr0A A1180L9o0HZG AGcw5GokoLRV AAceS3EJ9xcq AI79ARJyfwMV A4fhdYQyhaFx ABRGlWt6WJhg AAQY7l6hpKpv A3PEA2oTIb21 A7n2lcPgQXHa AEBg7QNtk488 AFIYx3SMvlnC ALYVrhYoxxHB AGFT71nThjMk A7bShXWi2cHu AGf7An9NStdf AKMmAJCiJ87v A0WSt4bkmbCC ALPDvXN7XRkL A1CtNcxr9kfj A5JTn4WYSZnt ABAhSKu2P17L AFBPu9EiRlOz ALFfCQIwDRM0 AFySoBC3mBdv AJpih9TBeJRe A7R9DUrMNhHR AKB2a5Z5Tj87 ACWBZgtso478 A2bvG9DoNsPI A9reZGYjUXwi A8jRDDqaoI2v ALmsL3sn5Cpe A564aIybulAV ACV7xYoYQweE A7gVk6bJU0Ow AALDWgb9zbM5 A4myXknRdzBB A1vbmj0vtrkj A2M4gKdKvpd3 AEsTnihCatMj A1Pjx2KVLvfO AAtV4NfXyuac A9ZpAFHvDEOH AHeEa8tdv4fm AJ6aOhGOTbxD A3gacuzguqOn AALrzcZykZjW ALOxSsqag5gP A4EbUcgpCrDT AEGEeGaNtdrj A5gZmYvr7kt1 AAscdSLLLbXc ADsdW4YA8QLD A30Yttogteox ABmG3ZqLYDKT A0HrHI9LXnMu AFvVGUhNcKNS ABEWTeyjiz7A ADCdnLT5pOC3 AB5lzOlgyBcn A8HI3EKVqvXd AB0v40FN0dQM ACCNdZi18jrU ADK03UcVlCR8 A7mpazYrfS7A AIxjcueUjMrR A1IHQpzrS4tL AGAvdZ5tK2cw AFSQYmXpDl1u ACvDaiC2sZII A0PhDpnldWOA A7GvHKDzv79c A6YFLF5DUM4l ADt7nh1uZMjy A4COaNTJEqOC A4gW6Rb7NYuL A9c6OKwjK4YP ALa2sAL74VpT A9YJSL4eMtFT A5NJ7tQbqvrv ADtzGMjW1ztN AHSYEL9sMQcy A1hyLmF9ti0k AJ4ykCDDZu3o A7AgbxAfiTKd AErPLOJGn9eW A09YH3VMWH0q A2bni4nERLfi A2FWERIGo56u A0VrgRoXidr7 ALMlMrDe1ABt A05tUSjJATlI ACwza36WYDVe AJeZpVChC3xS AIUjOSNLaNqW ADtxyDuEe1Fh AGEFKC42ByBB AFWjUsfols5i AIUPEyi1CLrn AAEUTqmnV8LO AEfRdneEOfZY AG0DSD9NqBaF A3NMuiLvOuel A6DoxFSqxdwe AC47I0oamsEg AGCSu6cqx0EQ AC0VwSkOuqtx AJ2woM3to0Dt AGsNHrXTuJ0X ALJH9zdawqH1 ABmrkzJ0oB1t ACUUQLBUiQJh A3ANreAziy1S A76VA0ldGSrg ALtZmFvtLglg A5gKYTXjHkWa A3dCYG4nRhkU AE5yFzn1anto AF51IlkepjWr A5Z7ulAHP6hn A3NjmSUeDBks A2ctFhpRICpo AI4OQeotmvVx A43IcBvKTsJM A2NyafsJLy1y A30TljsEjyx6 AEKInMvNYjXd AEOICu0HklH5 AJQ3u3jY6O7L ALsILDsNE6rH AJSVbiaNerZp A9V4XANqFCO7 AKnf20kBr5zJ A6ZfBpBlaXMf AAjsULDUElbX AHJ56rwoSFVl A5sSblMA2r5t AArLkGlAo9j9 AAVdJIZcT0ZN A4FLnXvNfxS8 ABbHoeKX3zw5 A7r6eyfztWRE AE2rFv8cHxvG ALEyU8IuJp8W ACmDRRS4cc8f A3yk5k0oBbmT AFYkIwaniYG4 A6JmDXjvrRKF ADpNZnIDjlKW A16g9HsnYVAA A5djDJaYIvs2 ALOGSajSmcZA AED5UwVNfDqL AAyg8IMgRJko AKjLxdlvTC5e AFlpgpTV2tRr A7HHMDW94D46 A22EvjjOLg7u AF05xOTz5zN0 A5VDr54FABfS A9zq0RdvN98D A8ki8iKeikMR AGbFGbkPDMDl AIzgamBdkSAk AHHizLV4pdoc AKMIkgDHuvCJ A3CCmVm3lyD9 A5AuiISMZxIu AGnd4dsrV8lC ALKWK2Z1NbjQ A5SDc4QU4t65 AHQx7eudvPwT A2Z6DcDcOyc8 AGeQ5z5rjdsf AE2EZaHCFHX7 AJ071VxHWg2Q ABa2Tpg3gS31 AHtktcod4qJS A8rsLNmYCcEk AKpjwUbRbUcx AGWycEl9uPfx AHBukJgdixDS ALGww6qRC1Zg A20o33AUIUDx ABRUma4Levpt AHbpu94ugWfP A2hAKX1d3JO6 ADNgMOEbNrwj AEaBtPW5flcp AKqIqUZZt90v A0M41qAIrgZb A5qd9PBJqMn6 A3ffXGFN7s5d AE2ckXuZY4v9 AHrI3lJnrF1r A3WbE152bkUm A4KhtiXOwDxV AHRk2JQNW8J3 A8a7QaRF0YX3 AHskVyczLT03 A3kRAqBsY7Kj ACQtxNSG6Up3 AFwL3w7RuW7y AEfK4vtAUX0n A8cJhH163en9 AGCU5gs8m908 A7kwK5IAMncS A3EWWOgGXcTo AGpzeTuSuXhp ADya4Axvx3IL AG0l47wizjAJ AHm5NcxGBgSI ALixOCDpScOr A7ELWj2bcrfL AEol21vDBkKI A9kG0mqvVaAI AC1EL3iLiXLN A4iR6kQlE6XN A6gaISE12NRn A6p0K6pcsR95 A8mrPinkHHlW A7vyHJjO424Y AJK2gPPlYhAN A0VXFyQSFEe5 A43EWYORIx8A A6dgnnWEdWi9 A2MdrufyIX5j A7tVOhETtj66 A5kL2HCiYvJk ACGRKMl9a4my AF4EzZqaGIio A2qVAKa9qnfk A3Q0cz5H1veg AEW46LMsBQKB A1wO9vlSxJHz A3TRHFz29sbu A0alJ6GyteBN A8QMGiJSBL7q AAe67IQkyutx AGodqj7hKN4d ABXHZnpJjCcN AAaFUDwPszCP A1BY2xEBerHY AKuT91YWQUQ7 A1wigcQZmEXw AJDeauQLxqiI ADESEOhP3pso AHVSybuEPa6A A7UMze1Xy4Dr AJ8YrzAxAGRR AGNLEHb2yvL1 AA4xrumtSjnh AEKwQBpMr6Un A0qZ6MD9wPIm A04wvpF0Oybn AGhTkXMA9cs7 ALntjsNDy9AO AHNwokDpMCOp ACWBifddHj3q AKSoZP4pTdgF AAqOAoryiK9Q AEwiFFM503C1 AG5vg7m29w7a AKa3RRqONsrJ AFdmaiunxX40 AGwMbsl241v6 A90CXfwVSm0t AKHbSGpZPd0r A8FcWhLyzC08 AKHupqWawtZA A4QLRr4nhnMS AGB9Z3QhKNwb AEyEut5Wr2nb AArvX9ss2jwu A4CfnW0j8WVQ ALUW6H6lRWUO A3qZ7fG0Nqkp A2xuwc9Qb7n6 A0mYLw3EdE6X A8YyCkrCz9Es ACuXL5oH1oh2 A6dU3Rk3xV1b AL030UTc1tEd A8UPKQDt1YN4 AHfu6VqrJKna ABkwtKc0STnu A77Vid6N8V33 A6x0kso1KdQp A2ykJ3ZaBxGG A1Rs6RwKxhIR AHzXJXKpFYKF AJzsXNLb2hoq AEO2EA73Qdhe A9wZ0QFzmoWc A1fE0P78yKRz ABW1MsJe1NB1 A50mE4gzVoLW A8oXONY0P44K ALA43G7tmhph ALsswDQVKmJc AK7RaG7IzmvH A82jNWFNRPz1 A3uWtxp2vF5r A24wLJEYSw42 A1Ov4e7LY4Hu A10xWIfQVIr2 AJUApRqQwGiW A4rbqyoFck5e AGoNEaAQh3q6 AE01MDtzxDLb A2LuIFvmISYk A51O6aNSqMrQ A82cfjJy6arP A28erSzvak07 A9B97Yz0bwn5 AJ21umIsFbz7 A6kYOx5IveQs AIR2mHHGn637 ALIn7qrZNjKK AGDcOsaA73i0 ADpLC0s3mJD4 AAvWiDAVIrsa AD0ujGK3Ihrm AJceW9ekhZ3U A7lmv83mARAB AK4bN7onrGSD AKXmFAKfjxnU AAqtYmJKxaAC ALfRqFLI58bi A39J9RsIgQPJ AI32REjcKHAq AEKCokoIuERK ADj2nv9IGjya A5esMty9rsQK AKhcWHXpJaHh A3arJ4TdRHWq ALhm90A4fbYf A3mj6BlOyRxM ACZlicW799yK A0mrRLeztjhz A1wqdkLATjm3 A5kaNVWsaDha A3rzu77xSV7o AFtU6luc4QDe A2JO5Eo6fDXL A4RmKC8RKHWh A21eT68baygO ADOjyyxtSS5N A3jFzrf0j7Cc A6uly8oubqyh AE7d4uLpAa5e AIzLhAUxzwJA A5UGKpdGpLSn AIUerJbZNwrZ AEhNXBNacLBg ABByIh7xcSs7 A1sBji3BUkD1 A00apXKMaIb4 A9tocXSHLjR2 AAAWWCT69ONi ACdWeH9tBt9r A7Lost2JceaC ABxCH1ye0ZTp ACdVvJEWmwOe ACizFXqzDtgP AGTK825u2tSI A90dipPf2WGC A1JLWogYzTqJ AAxER45cCbpP A9FIzAjqrmyc
end
end Mine.hx
open PySem PySem.W PyProof.Rows PySem.Calls Mine.Tactic
set_option Elab.async true
set_option maxRecDepth 100000 in
set_option maxHeartbeats 8000000 in
theorem Mine.hx : PySem.Challenge.rw_te0033_03.Holds:=by
  w_on;o_law;k_head;(case hw=>w_witness2)
  k_fill
  intro w s₀ s₁ mg mb G Y fa o pm cd doc dV kV ho hd hcd hD hmg hg args Ul as hpre hlay hrd hwl hlo
  have KX:=kIn_of Y
  have X:=(Ground.X G).1
  have V:=(Ground.X G).2
  try w_nolog (first|(have GL:=glob_more (Ground.glob G (by first|k_qdec|decide +kernel) (by first|k_qdec|decide +kernel)) V)|(have GL:=glob_more (Ground.glob G (by decide +kernel)) V))
  refine Ground.open G ?_
  intro T B D TE TW
  try (refine guard_noD D (by decide +kernel) ?_;clear D)
  obtain ⟨_,_,M⟩:=bmod_of_top T
  have TA:=at_of_top T
  try (obtain ⟨_,_,he,B0⟩:=based_of_top T rfl hmg ho hd;have he' : cd=_:=he;subst he';clear he)
  clear hmg
  wrow_args hpre hlay hrd hwl hlo
  all_goals (
    first|refine callC_kw (enter_call ?_)|refine enter_call ?_|refine callC_kw (enter_callW ?_)|refine enter_callW ?_|w_how
    w_top on
    have K0:=below_caller (Top.heap T)
    w_call any ho hd hcd hD T F
    clear hd TA
    k_drop
    skip)
  rename_i ns hs hlay0 hL1 hr1 hl2 w4 w3 a Ul w1' hL ra w1 r0 hI hr2 hcond hcond2 h₁ N0
  refine wpAny_mono (E:=fun _ _=>False) (Q:=fun f s'=>f=.ret (.bool true)∧(∀ b o,s₁.heap.get? b=some o→s'.heap.get? b=some o)∧s'.os=s₁.os∧AllBare s'.gens) ?_ (fun f s' h=>?_) ?_
  rotate_left
  · obtain ⟨rfl,hk,hos,hab⟩:=h
    dsimp only
    refine ⟨.inl ⟨_,_,_,rfl,?_,.bool _,?_,?_⟩,.of_keep hk,hos,hab⟩
    · intro cls;rfl
    · wrow_post
    · exact fun _=>⟨List.nodup_nil,fun _ h=>nomatch h⟩
  · exact fun _ _ h=>h.elim
  refine Cn (P:=w.params) (K0:=Mine.hx.heap_1_39 w.params) (kn:=fun x=>List.lookup x Kz) rfl KX T.b T.builtins hg w1 (by omega) F rfl rfl rfl rfl (Nat.succ_pos _) ⟨⟨rfl,rfl⟩,rfl,rfl⟩ (fun x hx=>(Ax x hx).elim) (fun x=>rfl) (Dp rfl (by kernel_rfl) (by kernel_rfl) rfl) (Dp rfl (by kernel_rfl) (by kernel_rfl) rfl)
    ⟨by kernel_rfl,by kernel_rfl,by kernel_rfl,by kernel_rfl,by kernel_rfl,by kernel_rfl,by kernel_rfl,by kernel_rfl,by kernel_rfl,by kernel_rfl,by kernel_rfl,by kernel_rfl,by kernel_rfl,by kernel_rfl,PD (List.all_eq_true.mp (by kernel_rfl))⟩
    (by kernel_rfl) rfl (by kernel_rfl) (by kernel_rfl) (by kernel_rfl) (by kernel_rfl) (by kernel_rfl) (by kernel_rfl)
theorem PySem.Challenge.cw_te0033_03_holds : PySem.Challenge.rw_te0033_03.Holds :=
  Mine.hx
